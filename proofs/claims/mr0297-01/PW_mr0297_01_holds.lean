import PyProof.Rows.All
import Wide.All
import OpenK.AllK
import Wide.FinOn
import PySem.Challenge.RW_mr0297_01
section -- Hd
open PySem PySem.W PySem.Calls PyProof.Rows
set_option Elab.async false
set_option maxRecDepth 100000
set_option maxHeartbeats 8000000
set_option linter.unusedVariables false
namespace Mine
/-! the head: the state behind the top, written out (a def's parts are taken out of the row's own program by unification) -/
noncomputable abbrev PW : Program := PySem.Challenge.rw_mr0297_01.row.toRowW.1
noncomputable def fn? : Stmt → Option (Arguments × List Stmt × Scope)
  | .FunctionDef _ a b _ _ _ sc _ _ _ => some (a, b, sc)
  | _ => none
noncomputable def at? : List Stmt → Nat → Option Stmt
  | [], _ => none
  | s :: _, 0 => some s
  | _ :: l, n + 1 => at? l n
noncomputable def in? : Stmt → Nat → Option Stmt
  | .ClassDef _ _ _ b .., n => at? b n
  | _, _ => none
noncomputable def pickD (i : Nat) : Option (Arguments × List Stmt × Scope) := (at? PySem.Challenge.pw_mr0297_01.main.body i).bind fn?
noncomputable def pickM (i j : Nat) : Option (Arguments × List Stmt × Scope) := (at? PySem.Challenge.pw_mr0297_01.main.body i).bind fun s => (in? s j).bind fn?
noncomputable def o43 (P : Params) : Obj := (Obj.mk (Value.type "tuple") (none : Option Nat) (Data.seq #[] (0:Nat)) #[])
noncomputable def o44 (P : Params) : Obj := (Obj.mk Value.none (none : Option Nat) (Data.fields #[]) #[])
noncomputable def o45 (P : Params) : Obj := (Obj.mk (Value.type "code") (none : Option Nat) (Data.fields #[(Value.str (Str.ofString "<module>") (182:Nat)), (Value.str (Str.ofString "<module>") (183:Nat)), (Value.str (Str.ofString "/claim/cut.py") (184:Nat)), (Value.int (1:Int) (0:Nat)), (Value.int (0:Int) (0:Nat)), (Value.int (0:Int) (0:Nat)), (Value.int (0:Int) (0:Nat)), (Value.int (0:Int) (0:Nat)), (Value.ref (11:Nat)), (Value.bool false), (Value.int (181:Int) (0:Nat)), (Value.ref (12:Nat)), Value.none, Value.none, Value.none, Value.none, (Value.int (185:Int) (0:Nat)), (Value.int (1:Int) (0:Nat)), (Value.str (Str.ofString "/claim/cut.py") (186:Nat))]) #[])
noncomputable def o46 (P : Params) : Obj := (Obj.mk (Value.type "frame") (none : Option Nat) Data.plain #[(some (Value.ref (13:Nat))), (some (Value.ref (3:Nat))), (some (Value.ref (3:Nat))), (none), (some (Value.str (Str.ofString "__main__") (164:Nat))), (none), (some (Value.ref (0:Nat)))])
noncomputable def o49 (P : Params) : Obj := (Obj.mk Value.none (none : Option Nat) (Data.dict #[(DictEntry.mk (PyData.keyHash P (Str.ofString "type.__subclasses__.Exception.0")) (Value.str (Str.ofString "type.__subclasses__.Exception.0") (212:Nat)) (Value.int (31:Int) (0:Nat))), (DictEntry.mk (PyData.keyHash P (Str.ofString "type.__subclasses__.Exception.n")) (Value.str (Str.ofString "type.__subclasses__.Exception.n") (213:Nat)) (Value.int (1:Int) (0:Nat)))] (2:Nat)) #[])
noncomputable def o52 (P : Params) : Obj := (Obj.mk (Value.type "tuple") (none : Option Nat) (Data.seq #[] (0:Nat)) #[])
noncomputable def o53 (P : Params) : Obj := (Obj.mk Value.none (none : Option Nat) (Data.fields #[]) #[])
noncomputable def o54 (P : Params) : Obj := (Obj.mk (Value.type "tuple") (none : Option Nat) (Data.seq #[(Value.str (Str.ofString "k") (190:Nat))] (0:Nat)) #[])
noncomputable def o55 (P : Params) : Obj := (Obj.mk (Value.type "tuple") (none : Option Nat) (Data.seq #[] (0:Nat)) #[])
noncomputable def o56 (P : Params) : Obj := letI a : Arguments := _; letI b : List Stmt := _; letI sc : Scope := _; haveI e : pickD 0 = some (a, b, sc) := rfl; (Obj.mk Value.none (none : Option Nat) (Data.func (FuncData.mk (Str.ofString "_wall") (Str.ofString "_wall") a (FuncBody.stmts b) sc (0:Nat) ([] : List (Str × Nat)) Value.none Value.none Value.none Value.none (none : Option Nat) Value.none Value.none (0:Nat))) #[])
noncomputable def o57 (P : Params) : Obj := (Obj.mk (Value.type "code") (none : Option Nat) (Data.fields #[(Value.str (Str.ofString "_wall") (187:Nat)), (Value.str (Str.ofString "_wall") (188:Nat)), (Value.str (Str.ofString "/claim/cut.py") (189:Nat)), (Value.int (1:Int) (0:Nat)), (Value.int (1:Int) (0:Nat)), (Value.int (0:Int) (0:Nat)), (Value.int (0:Int) (0:Nat)), (Value.int (3:Int) (0:Nat)), (Value.ref (15:Nat)), (Value.bool true), (Value.int (181:Int) (0:Nat)), (Value.ref (16:Nat)), Value.none, (Value.ref (17:Nat)), (Value.ref (18:Nat)), (Value.ref (19:Nat)), (Value.int (191:Int) (0:Nat)), (Value.int (1:Int) (0:Nat)), (Value.str (Str.ofString "/claim/cut.py") (192:Nat))]) #[])
noncomputable def o58 (P : Params) : Obj := letI a : Arguments := _; letI b : List Stmt := _; letI sc : Scope := _; haveI e : pickD 0 = some (a, b, sc) := rfl; (Obj.mk (Value.type "function") (none : Option Nat) (Data.func (FuncData.mk (Str.ofString "_wall") (Str.ofString "_wall") a (FuncBody.stmts b) sc (3:Nat) ([] : List (Str × Nat)) Value.none Value.none Value.none (Value.str (Str.ofString "__main__") (164:Nat)) (none : Option Nat) (Value.ref (20:Nat)) Value.none (0:Nat))) #[])
noncomputable def o59 (P : Params) : Obj := (Obj.mk (Value.type "tuple") (none : Option Nat) (Data.seq #[(Value.type "Exception")] (0:Nat)) #[])
noncomputable def o60 (P : Params) : Obj := (Obj.mk (Value.type "builtin_function_or_method") (none : Option Nat) (Data.fields #[(Value.builtin "type.__prepare__"), (Value.type "type")]) #[])
noncomputable def o61 (P : Params) : Obj := (Obj.mk (Value.type "dict") (none : Option Nat) (Data.dict #[(DictEntry.mk (PyData.keyHash P (Str.ofString "__module__")) (Value.str (Str.ofString "__module__") (203:Nat)) (Value.str (Str.ofString "cpy313.ftplib") (194:Nat))), (DictEntry.mk (PyData.keyHash P (Str.ofString "__qualname__")) (Value.str (Str.ofString "__qualname__") (205:Nat)) (Value.str (Str.ofString "Error") (204:Nat))), (DictEntry.mk (PyData.keyHash P (Str.ofString "__firstlineno__")) (Value.str (Str.ofString "__firstlineno__") (207:Nat)) (Value.int (5:Int) (206:Nat))), (DictEntry.mk (PyData.keyHash P (Str.ofString "__static_attributes__")) (Value.str (Str.ofString "__static_attributes__") (208:Nat)) (Value.ref (29:Nat)))] (4:Nat)) #[])
noncomputable def o62 (P : Params) : Obj := (Obj.mk (Value.type "tuple") (none : Option Nat) (Data.seq #[] (0:Nat)) #[])
noncomputable def o63 (P : Params) : Obj := (Obj.mk Value.none (none : Option Nat) (Data.fields #[]) #[])
noncomputable def o64 (P : Params) : Obj := (Obj.mk (Value.type "code") (none : Option Nat) (Data.fields #[(Value.str (Str.ofString "Error") (198:Nat)), (Value.str (Str.ofString "Error") (199:Nat)), (Value.str (Str.ofString "/claim/cut.py") (200:Nat)), (Value.int (5:Int) (0:Nat)), (Value.int (0:Int) (0:Nat)), (Value.int (0:Int) (0:Nat)), (Value.int (0:Int) (0:Nat)), (Value.int (0:Int) (0:Nat)), (Value.ref (25:Nat)), (Value.bool false), (Value.int (181:Int) (0:Nat)), (Value.ref (26:Nat)), Value.none, Value.none, Value.none, Value.none, (Value.int (201:Int) (0:Nat)), (Value.int (5:Int) (0:Nat)), (Value.str (Str.ofString "/claim/cut.py") (202:Nat))]) #[])
noncomputable def o65 (P : Params) : Obj := (Obj.mk (Value.type "frame") (none : Option Nat) Data.plain #[(some (Value.ref (27:Nat))), (some (Value.ref (3:Nat))), (some (Value.ref (24:Nat))), (none), (some (Value.str (Str.ofString "cpy313.ftplib") (194:Nat))), (none), (some (Value.ref (0:Nat)))])
noncomputable def o66 (P : Params) : Obj := (Obj.mk (Value.type "tuple") (none : Option Nat) (Data.seq #[] (0:Nat)) #[])
noncomputable def o67 (P : Params) : Obj := (Obj.mk (Value.type "dict") (none : Option Nat) (Data.dict #[(DictEntry.mk (PyData.keyHash P (Str.ofString "__module__")) (Value.str (Str.ofString "__module__") (203:Nat)) (Value.str (Str.ofString "cpy313.ftplib") (194:Nat))), (DictEntry.mk (PyData.keyHash P (Str.ofString "__firstlineno__")) (Value.str (Str.ofString "__firstlineno__") (207:Nat)) (Value.int (5:Int) (206:Nat))), (DictEntry.mk (PyData.keyHash P (Str.ofString "__static_attributes__")) (Value.str (Str.ofString "__static_attributes__") (208:Nat)) (Value.ref (29:Nat))), (DictEntry.mk (PyData.keyHash P (Str.ofString "__weakref__")) (Value.str (Str.ofString "__weakref__") (210:Nat)) (Value.ref (32:Nat))), (DictEntry.mk (PyData.keyHash P (Str.ofString "__doc__")) (Value.str (Str.ofString "__doc__") (211:Nat)) Value.none)] (3:Nat)) #[])
noncomputable def o69 (P : Params) : Obj := (Obj.mk (Value.type "getset_descriptor") (none : Option Nat) (Data.fields #[(Value.str (Str.ofString "__weakref__") (209:Nat)), (Value.ref (31:Nat)), (Value.builtin "ExceptionGroup.__weakref__"), Value.none]) #[])
noncomputable def o70 (P : Params) : Obj := (Obj.mk (Value.type "super") (none : Option Nat) (Data.fields #[(Value.ref (31:Nat)), (Value.ref (31:Nat)), (Value.ref (31:Nat))]) #[])
noncomputable def o71 (P : Params) : Obj := (Obj.mk (Value.type "builtin_function_or_method") (none : Option Nat) (Data.fields #[(Value.builtin "object.__init_subclass__"), (Value.ref (31:Nat))]) #[])
noncomputable def o72 (P : Params) : Obj := (Obj.mk (Value.type "dict") (none : Option Nat) (Data.dict #[(DictEntry.mk (PyData.keyHash P (Str.ofString "__name__")) (Value.str (Str.ofString "__name__") (165:Nat)) (Value.str (Str.ofString "cpy313.graphlib") (243:Nat))), (DictEntry.mk (PyData.keyHash P (Str.ofString "__doc__")) (Value.str (Str.ofString "__doc__") (166:Nat)) Value.none), (DictEntry.mk (PyData.keyHash P (Str.ofString "__package__")) (Value.str (Str.ofString "__package__") (167:Nat)) Value.none), (DictEntry.mk (PyData.keyHash P (Str.ofString "__loader__")) (Value.str (Str.ofString "__loader__") (168:Nat)) (Value.builtin "__main__.__loader__#opaque")), (DictEntry.mk (PyData.keyHash P (Str.ofString "__spec__")) (Value.str (Str.ofString "__spec__") (169:Nat)) Value.none), (DictEntry.mk (PyData.keyHash P (Str.ofString "__annotations__")) (Value.str (Str.ofString "__annotations__") (170:Nat)) (Value.ref (6:Nat))), (DictEntry.mk (PyData.keyHash P (Str.ofString "__builtins__")) (Value.str (Str.ofString "__builtins__") (171:Nat)) (Value.ref (4:Nat))), (DictEntry.mk (PyData.keyHash P (Str.ofString "__file__")) (Value.str (Str.ofString "__file__") (173:Nat)) (Value.str (Str.ofString "/claim/cut.py") (172:Nat))), (DictEntry.mk (PyData.keyHash P (Str.ofString "__cached__")) (Value.str (Str.ofString "__cached__") (174:Nat)) Value.none), (DictEntry.mk (PyData.keyHash P (Str.ofString "_wall")) (Value.str (Str.ofString "_wall") (193:Nat)) (Value.ref (21:Nat))), (DictEntry.mk (PyData.keyHash P (Str.ofString "Error")) (Value.str (Str.ofString "Error") (215:Nat)) (Value.ref (31:Nat))), (DictEntry.mk (PyData.keyHash P (Str.ofString "error_reply")) (Value.str (Str.ofString "error_reply") (231:Nat)) (Value.ref (44:Nat))), (DictEntry.mk (PyData.keyHash P (Str.ofString "parse257")) (Value.str (Str.ofString "parse257") (242:Nat)) (Value.ref (53:Nat))), (DictEntry.mk (PyData.keyHash P (Str.ofString "_NODE_OUT")) (Value.str (Str.ofString "_NODE_OUT") (247:Nat)) (Value.int (-(1:Int)) (246:Nat))), (DictEntry.mk (PyData.keyHash P (Str.ofString "_NODE_DONE")) (Value.str (Str.ofString "_NODE_DONE") (250:Nat)) (Value.int (-(2:Int)) (249:Nat)))] (15:Nat)) #[])
noncomputable def o73 (P : Params) : Obj := (Obj.mk Value.none (none : Option Nat) (Data.fields #[(Value.int (1:Int) (0:Nat)), (Value.int (0:Int) (0:Nat)), (Value.ref (20:Nat)), (Value.int (5:Int) (0:Nat)), (Value.int (0:Int) (0:Nat)), (Value.ref (27:Nat)), (Value.int (7:Int) (0:Nat)), (Value.int (0:Int) (0:Nat)), (Value.ref (40:Nat)), (Value.int (9:Int) (0:Nat)), (Value.int (0:Int) (0:Nat)), (Value.ref (52:Nat))]) #[])
noncomputable def o74 (P : Params) : Obj := (Obj.mk (Value.type "type") (none : Option Nat) (Data.cls (ClassData.mk (Str.ofString "Error") [(Value.type "Exception")] [(Value.ref (31:Nat)), (Value.type "Exception"), (Value.type "BaseException"), (Value.type "object")] (30:Nat) (Str.ofString "Error") true [] [(Value.ref (44:Nat))] false (none) false)) #[(some (Value.ref (22:Nat))), (none), (some (Value.str (Str.ofString "Error") (196:Nat))), (some (Value.str (Str.ofString "Error") (204:Nat))), (some (Value.builtin "Exception.__new__")), (some (Value.bool true))])
noncomputable def o75 (P : Params) : Obj := (Obj.mk (Value.type "tuple") (none : Option Nat) (Data.seq #[(Value.ref (31:Nat))] (0:Nat)) #[])
noncomputable def o76 (P : Params) : Obj := (Obj.mk (Value.type "builtin_function_or_method") (none : Option Nat) (Data.fields #[(Value.builtin "type.__prepare__"), (Value.type "type")]) #[])
noncomputable def o77 (P : Params) : Obj := (Obj.mk (Value.type "dict") (none : Option Nat) (Data.dict #[(DictEntry.mk (PyData.keyHash P (Str.ofString "__module__")) (Value.str (Str.ofString "__module__") (223:Nat)) (Value.str (Str.ofString "cpy313.ftplib") (194:Nat))), (DictEntry.mk (PyData.keyHash P (Str.ofString "__qualname__")) (Value.str (Str.ofString "__qualname__") (225:Nat)) (Value.str (Str.ofString "error_reply") (224:Nat))), (DictEntry.mk (PyData.keyHash P (Str.ofString "__firstlineno__")) (Value.str (Str.ofString "__firstlineno__") (227:Nat)) (Value.int (7:Int) (226:Nat))), (DictEntry.mk (PyData.keyHash P (Str.ofString "__static_attributes__")) (Value.str (Str.ofString "__static_attributes__") (228:Nat)) (Value.ref (42:Nat)))] (4:Nat)) #[])
noncomputable def o78 (P : Params) : Obj := (Obj.mk (Value.type "tuple") (none : Option Nat) (Data.seq #[] (0:Nat)) #[])
noncomputable def o79 (P : Params) : Obj := (Obj.mk Value.none (none : Option Nat) (Data.fields #[]) #[])
noncomputable def o80 (P : Params) : Obj := (Obj.mk (Value.type "code") (none : Option Nat) (Data.fields #[(Value.str (Str.ofString "error_reply") (218:Nat)), (Value.str (Str.ofString "error_reply") (219:Nat)), (Value.str (Str.ofString "/claim/cut.py") (220:Nat)), (Value.int (7:Int) (0:Nat)), (Value.int (0:Int) (0:Nat)), (Value.int (0:Int) (0:Nat)), (Value.int (0:Int) (0:Nat)), (Value.int (0:Int) (0:Nat)), (Value.ref (38:Nat)), (Value.bool false), (Value.int (181:Int) (0:Nat)), (Value.ref (39:Nat)), Value.none, Value.none, Value.none, Value.none, (Value.int (221:Int) (0:Nat)), (Value.int (7:Int) (0:Nat)), (Value.str (Str.ofString "/claim/cut.py") (222:Nat))]) #[])
noncomputable def o81 (P : Params) : Obj := (Obj.mk (Value.type "frame") (none : Option Nat) Data.plain #[(some (Value.ref (40:Nat))), (some (Value.ref (3:Nat))), (some (Value.ref (37:Nat))), (none), (some (Value.str (Str.ofString "cpy313.ftplib") (194:Nat))), (none), (some (Value.ref (0:Nat)))])
noncomputable def o82 (P : Params) : Obj := (Obj.mk (Value.type "tuple") (none : Option Nat) (Data.seq #[] (0:Nat)) #[])
noncomputable def o83 (P : Params) : Obj := (Obj.mk (Value.type "dict") (none : Option Nat) (Data.dict #[(DictEntry.mk (PyData.keyHash P (Str.ofString "__module__")) (Value.str (Str.ofString "__module__") (223:Nat)) (Value.str (Str.ofString "cpy313.ftplib") (194:Nat))), (DictEntry.mk (PyData.keyHash P (Str.ofString "__firstlineno__")) (Value.str (Str.ofString "__firstlineno__") (227:Nat)) (Value.int (7:Int) (226:Nat))), (DictEntry.mk (PyData.keyHash P (Str.ofString "__static_attributes__")) (Value.str (Str.ofString "__static_attributes__") (228:Nat)) (Value.ref (42:Nat))), (DictEntry.mk (PyData.keyHash P (Str.ofString "__doc__")) (Value.str (Str.ofString "__doc__") (229:Nat)) Value.none)] (2:Nat)) #[])
noncomputable def o84 (P : Params) : Obj := (Obj.mk (Value.type "type") (none : Option Nat) (Data.cls (ClassData.mk (Str.ofString "error_reply") [(Value.ref (31:Nat))] [(Value.ref (44:Nat)), (Value.ref (31:Nat)), (Value.type "Exception"), (Value.type "BaseException"), (Value.type "object")] (43:Nat) (Str.ofString "error_reply") true [] [] false (none) false)) #[(some (Value.ref (35:Nat))), (none), (some (Value.str (Str.ofString "error_reply") (216:Nat))), (some (Value.str (Str.ofString "error_reply") (224:Nat))), (some (Value.builtin "Exception.__new__")), (some (Value.bool true))])
noncomputable def o85 (P : Params) : Obj := (Obj.mk (Value.type "super") (none : Option Nat) (Data.fields #[(Value.ref (44:Nat)), (Value.ref (44:Nat)), (Value.ref (44:Nat))]) #[])
noncomputable def o86 (P : Params) : Obj := (Obj.mk (Value.type "builtin_function_or_method") (none : Option Nat) (Data.fields #[(Value.builtin "object.__init_subclass__"), (Value.ref (44:Nat))]) #[])
noncomputable def o87 (P : Params) : Obj := (Obj.mk (Value.type "tuple") (none : Option Nat) (Data.seq #[] (0:Nat)) #[])
noncomputable def o88 (P : Params) : Obj := (Obj.mk Value.none (none : Option Nat) (Data.fields #[]) #[])
noncomputable def o89 (P : Params) : Obj := (Obj.mk (Value.type "tuple") (none : Option Nat) (Data.seq #[(Value.str (Str.ofString "resp") (235:Nat)), (Value.str (Str.ofString "dirname") (236:Nat)), (Value.str (Str.ofString "i") (237:Nat)), (Value.str (Str.ofString "n") (238:Nat)), (Value.str (Str.ofString "c") (239:Nat))] (0:Nat)) #[])
noncomputable def o90 (P : Params) : Obj := (Obj.mk (Value.type "tuple") (none : Option Nat) (Data.seq #[] (0:Nat)) #[])
noncomputable def o91 (P : Params) : Obj := letI a : Arguments := _; letI b : List Stmt := _; letI sc : Scope := _; haveI e : pickD 4 = some (a, b, sc) := rfl; (Obj.mk Value.none (none : Option Nat) (Data.func (FuncData.mk (Str.ofString "parse257") (Str.ofString "parse257") a (FuncBody.stmts b) sc (0:Nat) ([] : List (Str × Nat)) Value.none Value.none Value.none Value.none (none : Option Nat) Value.none Value.none (0:Nat))) #[])
noncomputable def o92 (P : Params) : Obj := (Obj.mk (Value.type "code") (none : Option Nat) (Data.fields #[(Value.str (Str.ofString "parse257") (232:Nat)), (Value.str (Str.ofString "parse257") (233:Nat)), (Value.str (Str.ofString "/claim/cut.py") (234:Nat)), (Value.int (9:Int) (0:Nat)), (Value.int (1:Int) (0:Nat)), (Value.int (0:Int) (0:Nat)), (Value.int (0:Int) (0:Nat)), (Value.int (3:Int) (0:Nat)), (Value.ref (47:Nat)), (Value.bool true), (Value.int (181:Int) (0:Nat)), (Value.ref (48:Nat)), Value.none, (Value.ref (49:Nat)), (Value.ref (50:Nat)), (Value.ref (51:Nat)), (Value.int (240:Int) (0:Nat)), (Value.int (9:Int) (0:Nat)), (Value.str (Str.ofString "/claim/cut.py") (241:Nat))]) #[])
noncomputable def o93 (P : Params) : Obj := letI a : Arguments := _; letI b : List Stmt := _; letI sc : Scope := _; haveI e : pickD 4 = some (a, b, sc) := rfl; (Obj.mk (Value.type "function") (none : Option Nat) (Data.func (FuncData.mk (Str.ofString "parse257") (Str.ofString "parse257") a (FuncBody.stmts b) sc (3:Nat) ([] : List (Str × Nat)) Value.none Value.none Value.none (Value.str (Str.ofString "cpy313.ftplib") (194:Nat)) (none : Option Nat) (Value.ref (52:Nat)) Value.none (0:Nat))) #[])
noncomputable def o96 (P : Params) : Obj := (Obj.mk (Value.type "tuple") (none : Option Nat) (Data.seq #[] (0:Nat)) #[])
noncomputable def o97 (P : Params) : Obj := (Obj.mk (Value.type "builtin_function_or_method") (none : Option Nat) (Data.fields #[(Value.builtin "type.__prepare__"), (Value.type "type")]) #[])
noncomputable def o98 (P : Params) : Obj := (Obj.mk (Value.type "dict") (none : Option Nat) (Data.dict #[(DictEntry.mk (PyData.keyHash P (Str.ofString "__module__")) (Value.str (Str.ofString "__module__") (258:Nat)) (Value.str (Str.ofString "cpy313.graphlib") (243:Nat))), (DictEntry.mk (PyData.keyHash P (Str.ofString "__qualname__")) (Value.str (Str.ofString "__qualname__") (260:Nat)) (Value.str (Str.ofString "_NodeInfo") (259:Nat))), (DictEntry.mk (PyData.keyHash P (Str.ofString "__firstlineno__")) (Value.str (Str.ofString "__firstlineno__") (262:Nat)) (Value.int (29:Int) (261:Nat))), (DictEntry.mk (PyData.keyHash P (Str.ofString "__slots__")) (Value.str (Str.ofString "__slots__") (266:Nat)) (Value.ref (61:Nat))), (DictEntry.mk (PyData.keyHash P (Str.ofString "__init__")) (Value.str (Str.ofString "__init__") (274:Nat)) (Value.ref (68:Nat))), (DictEntry.mk (PyData.keyHash P (Str.ofString "__static_attributes__")) (Value.str (Str.ofString "__static_attributes__") (278:Nat)) (Value.ref (69:Nat)))] (6:Nat)) #[])
noncomputable def o99 (P : Params) : Obj := (Obj.mk (Value.type "tuple") (none : Option Nat) (Data.seq #[] (0:Nat)) #[])
noncomputable def o100 (P : Params) : Obj := (Obj.mk Value.none (none : Option Nat) (Data.fields #[(Value.int (32:Int) (0:Nat)), (Value.int (4:Int) (0:Nat)), (Value.ref (67:Nat))]) #[])
noncomputable def o101 (P : Params) : Obj := (Obj.mk (Value.type "code") (none : Option Nat) (Data.fields #[(Value.str (Str.ofString "_NodeInfo") (253:Nat)), (Value.str (Str.ofString "_NodeInfo") (254:Nat)), (Value.str (Str.ofString "/claim/cut.py") (255:Nat)), (Value.int (29:Int) (0:Nat)), (Value.int (0:Int) (0:Nat)), (Value.int (0:Int) (0:Nat)), (Value.int (0:Int) (0:Nat)), (Value.int (0:Int) (0:Nat)), (Value.ref (57:Nat)), (Value.bool false), (Value.int (181:Int) (0:Nat)), (Value.ref (58:Nat)), Value.none, Value.none, Value.none, Value.none, (Value.int (256:Int) (0:Nat)), (Value.int (29:Int) (0:Nat)), (Value.str (Str.ofString "/claim/cut.py") (257:Nat))]) #[])
noncomputable def o102 (P : Params) : Obj := (Obj.mk (Value.type "frame") (none : Option Nat) Data.plain #[(some (Value.ref (59:Nat))), (some (Value.ref (3:Nat))), (some (Value.ref (56:Nat))), (none), (some (Value.str (Str.ofString "cpy313.graphlib") (243:Nat))), (none), (some (Value.ref (0:Nat)))])
noncomputable def o103 (P : Params) : Obj := (Obj.mk (Value.type "tuple") (none : Option Nat) (Data.seq #[(Value.str (Str.ofString "node") (263:Nat)), (Value.str (Str.ofString "npredecessors") (264:Nat)), (Value.str (Str.ofString "successors") (265:Nat))] (0:Nat)) #[])
noncomputable def o104 (P : Params) : Obj := (Obj.mk (Value.type "tuple") (none : Option Nat) (Data.seq #[] (0:Nat)) #[])
noncomputable def o105 (P : Params) : Obj := (Obj.mk Value.none (none : Option Nat) (Data.fields #[]) #[])
noncomputable def o106 (P : Params) : Obj := (Obj.mk (Value.type "tuple") (none : Option Nat) (Data.seq #[(Value.str (Str.ofString "self") (270:Nat)), (Value.str (Str.ofString "node") (271:Nat))] (0:Nat)) #[])
noncomputable def o107 (P : Params) : Obj := (Obj.mk (Value.type "tuple") (none : Option Nat) (Data.seq #[] (0:Nat)) #[])
noncomputable def o108 (P : Params) : Obj := letI a : Arguments := _; letI b : List Stmt := _; letI sc : Scope := _; haveI e : pickM 8 1 = some (a, b, sc) := rfl; (Obj.mk Value.none (none : Option Nat) (Data.func (FuncData.mk (Str.ofString "__init__") (Str.ofString "_NodeInfo.__init__") a (FuncBody.stmts b) sc (0:Nat) ([] : List (Str × Nat)) Value.none Value.none Value.none Value.none (none : Option Nat) Value.none Value.none (0:Nat))) #[])
noncomputable def o109 (P : Params) : Obj := (Obj.mk (Value.type "code") (none : Option Nat) (Data.fields #[(Value.str (Str.ofString "__init__") (267:Nat)), (Value.str (Str.ofString "_NodeInfo.__init__") (268:Nat)), (Value.str (Str.ofString "/claim/cut.py") (269:Nat)), (Value.int (32:Int) (0:Nat)), (Value.int (2:Int) (0:Nat)), (Value.int (0:Int) (0:Nat)), (Value.int (0:Int) (0:Nat)), (Value.int (3:Int) (0:Nat)), (Value.ref (62:Nat)), (Value.bool true), (Value.int (181:Int) (0:Nat)), (Value.ref (63:Nat)), Value.none, (Value.ref (64:Nat)), (Value.ref (65:Nat)), (Value.ref (66:Nat)), (Value.int (272:Int) (0:Nat)), (Value.int (32:Int) (0:Nat)), (Value.str (Str.ofString "/claim/cut.py") (273:Nat))]) #[])
noncomputable def o110 (P : Params) : Obj := letI a : Arguments := _; letI b : List Stmt := _; letI sc : Scope := _; haveI e : pickM 8 1 = some (a, b, sc) := rfl; (Obj.mk (Value.type "function") (none : Option Nat) (Data.func (FuncData.mk (Str.ofString "__init__") (Str.ofString "_NodeInfo.__init__") a (FuncBody.stmts b) sc (3:Nat) ([] : List (Str × Nat)) Value.none Value.none Value.none (Value.str (Str.ofString "cpy313.graphlib") (243:Nat)) (none : Option Nat) (Value.ref (67:Nat)) Value.none (0:Nat))) #[])
noncomputable def o111 (P : Params) : Obj := (Obj.mk (Value.type "tuple") (none : Option Nat) (Data.seq #[(Value.str (Str.ofString "node") (275:Nat)), (Value.str (Str.ofString "npredecessors") (276:Nat)), (Value.str (Str.ofString "successors") (277:Nat))] (0:Nat)) #[])
noncomputable def o112 (P : Params) : Obj := (Obj.mk (Value.type "list") (none : Option Nat) (Data.seq #[(Value.str (Str.ofString "node") (263:Nat)), (Value.str (Str.ofString "npredecessors") (264:Nat)), (Value.str (Str.ofString "successors") (265:Nat))] (1:Nat)) #[])
noncomputable def o113 (P : Params) : Obj := (Obj.mk (Value.type "dict") (none : Option Nat) (Data.dict #[(DictEntry.mk (PyData.keyHash P (Str.ofString "__module__")) (Value.str (Str.ofString "__module__") (258:Nat)) (Value.str (Str.ofString "cpy313.graphlib") (243:Nat))), (DictEntry.mk (PyData.keyHash P (Str.ofString "__firstlineno__")) (Value.str (Str.ofString "__firstlineno__") (262:Nat)) (Value.int (29:Int) (261:Nat))), (DictEntry.mk (PyData.keyHash P (Str.ofString "__slots__")) (Value.str (Str.ofString "__slots__") (266:Nat)) (Value.ref (61:Nat))), (DictEntry.mk (PyData.keyHash P (Str.ofString "__init__")) (Value.str (Str.ofString "__init__") (274:Nat)) (Value.ref (68:Nat))), (DictEntry.mk (PyData.keyHash P (Str.ofString "__static_attributes__")) (Value.str (Str.ofString "__static_attributes__") (278:Nat)) (Value.ref (69:Nat))), (DictEntry.mk (PyData.keyHash P (Str.ofString "node")) (Value.str (Str.ofString "node") (280:Nat)) (Value.ref (73:Nat))), (DictEntry.mk (PyData.keyHash P (Str.ofString "npredecessors")) (Value.str (Str.ofString "npredecessors") (282:Nat)) (Value.ref (74:Nat))), (DictEntry.mk (PyData.keyHash P (Str.ofString "successors")) (Value.str (Str.ofString "successors") (284:Nat)) (Value.ref (75:Nat))), (DictEntry.mk (PyData.keyHash P (Str.ofString "__doc__")) (Value.str (Str.ofString "__doc__") (285:Nat)) Value.none)] (5:Nat)) #[])
noncomputable def o114 (P : Params) : Obj := (Obj.mk (Value.type "type") (none : Option Nat) (Data.cls (ClassData.mk (Str.ofString "_NodeInfo") [(Value.type "object")] [(Value.ref (72:Nat)), (Value.type "object")] (71:Nat) (Str.ofString "_NodeInfo") false [(Str.ofString "node"), (Str.ofString "npredecessors"), (Str.ofString "successors")] [] false (none) false)) #[(none), (none), (some (Value.str (Str.ofString "_NodeInfo") (251:Nat))), (some (Value.str (Str.ofString "_NodeInfo") (259:Nat))), (some (Value.builtin "object.__new__")), (some (Value.bool false))])
noncomputable def o115 (P : Params) : Obj := (Obj.mk (Value.type "member_descriptor") (none : Option Nat) (Data.fields #[(Value.str (Str.ofString "node") (279:Nat)), (Value.ref (72:Nat)), (Value.builtin "proto.slot"), (Value.builtin "proto.slot#set"), (Value.int (2:Int) (0:Nat))]) #[])
noncomputable def o116 (P : Params) : Obj := (Obj.mk (Value.type "member_descriptor") (none : Option Nat) (Data.fields #[(Value.str (Str.ofString "npredecessors") (281:Nat)), (Value.ref (72:Nat)), (Value.builtin "proto.slot"), (Value.builtin "proto.slot#set"), (Value.int (1:Int) (0:Nat))]) #[])
noncomputable def o117 (P : Params) : Obj := (Obj.mk (Value.type "member_descriptor") (none : Option Nat) (Data.fields #[(Value.str (Str.ofString "successors") (283:Nat)), (Value.ref (72:Nat)), (Value.builtin "proto.slot"), (Value.builtin "proto.slot#set"), (Value.int (0:Int) (0:Nat))]) #[])
noncomputable def o118 (P : Params) : Obj := (Obj.mk (Value.type "super") (none : Option Nat) (Data.fields #[(Value.ref (72:Nat)), (Value.ref (72:Nat)), (Value.ref (72:Nat))]) #[])
noncomputable def o119 (P : Params) : Obj := (Obj.mk (Value.type "builtin_function_or_method") (none : Option Nat) (Data.fields #[(Value.builtin "object.__init_subclass__"), (Value.ref (72:Nat))]) #[])
noncomputable def o120 (P : Params) : Obj := (Obj.mk (Value.type "dict") (none : Option Nat) (Data.dict #[(DictEntry.mk (PyData.keyHash P (Str.ofString "__name__")) (Value.str (Str.ofString "__name__") (165:Nat)) (Value.str (Str.ofString "cpy313.graphlib") (243:Nat))), (DictEntry.mk (PyData.keyHash P (Str.ofString "__doc__")) (Value.str (Str.ofString "__doc__") (166:Nat)) Value.none), (DictEntry.mk (PyData.keyHash P (Str.ofString "__package__")) (Value.str (Str.ofString "__package__") (167:Nat)) Value.none), (DictEntry.mk (PyData.keyHash P (Str.ofString "__loader__")) (Value.str (Str.ofString "__loader__") (168:Nat)) (Value.builtin "__main__.__loader__#opaque")), (DictEntry.mk (PyData.keyHash P (Str.ofString "__spec__")) (Value.str (Str.ofString "__spec__") (169:Nat)) Value.none), (DictEntry.mk (PyData.keyHash P (Str.ofString "__annotations__")) (Value.str (Str.ofString "__annotations__") (170:Nat)) (Value.ref (6:Nat))), (DictEntry.mk (PyData.keyHash P (Str.ofString "__builtins__")) (Value.str (Str.ofString "__builtins__") (171:Nat)) (Value.ref (4:Nat))), (DictEntry.mk (PyData.keyHash P (Str.ofString "__file__")) (Value.str (Str.ofString "__file__") (173:Nat)) (Value.str (Str.ofString "/claim/cut.py") (172:Nat))), (DictEntry.mk (PyData.keyHash P (Str.ofString "__cached__")) (Value.str (Str.ofString "__cached__") (174:Nat)) Value.none), (DictEntry.mk (PyData.keyHash P (Str.ofString "_wall")) (Value.str (Str.ofString "_wall") (193:Nat)) (Value.ref (21:Nat))), (DictEntry.mk (PyData.keyHash P (Str.ofString "Error")) (Value.str (Str.ofString "Error") (215:Nat)) (Value.ref (31:Nat))), (DictEntry.mk (PyData.keyHash P (Str.ofString "error_reply")) (Value.str (Str.ofString "error_reply") (231:Nat)) (Value.ref (44:Nat))), (DictEntry.mk (PyData.keyHash P (Str.ofString "parse257")) (Value.str (Str.ofString "parse257") (242:Nat)) (Value.ref (53:Nat))), (DictEntry.mk (PyData.keyHash P (Str.ofString "_NODE_OUT")) (Value.str (Str.ofString "_NODE_OUT") (247:Nat)) (Value.int (-(1:Int)) (246:Nat))), (DictEntry.mk (PyData.keyHash P (Str.ofString "_NODE_DONE")) (Value.str (Str.ofString "_NODE_DONE") (250:Nat)) (Value.int (-(2:Int)) (249:Nat))), (DictEntry.mk (PyData.keyHash P (Str.ofString "_NodeInfo")) (Value.str (Str.ofString "_NodeInfo") (287:Nat)) (Value.ref (72:Nat))), (DictEntry.mk (PyData.keyHash P (Str.ofString "CycleError")) (Value.str (Str.ofString "CycleError") (305:Nat)) (Value.ref (87:Nat)))] (17:Nat)) #[])
noncomputable def o121 (P : Params) : Obj := (Obj.mk Value.none (none : Option Nat) (Data.fields #[(Value.int (1:Int) (0:Nat)), (Value.int (0:Int) (0:Nat)), (Value.ref (20:Nat)), (Value.int (5:Int) (0:Nat)), (Value.int (0:Int) (0:Nat)), (Value.ref (27:Nat)), (Value.int (7:Int) (0:Nat)), (Value.int (0:Int) (0:Nat)), (Value.ref (40:Nat)), (Value.int (9:Int) (0:Nat)), (Value.int (0:Int) (0:Nat)), (Value.ref (52:Nat)), (Value.int (29:Int) (0:Nat)), (Value.int (0:Int) (0:Nat)), (Value.ref (59:Nat)), (Value.int (36:Int) (0:Nat)), (Value.int (0:Int) (0:Nat)), (Value.ref (83:Nat))]) #[])
noncomputable def o122 (P : Params) : Obj := (Obj.mk (Value.type "tuple") (none : Option Nat) (Data.seq #[(Value.type "ValueError")] (0:Nat)) #[])
noncomputable def o123 (P : Params) : Obj := (Obj.mk (Value.type "builtin_function_or_method") (none : Option Nat) (Data.fields #[(Value.builtin "type.__prepare__"), (Value.type "type")]) #[])
noncomputable def o124 (P : Params) : Obj := (Obj.mk (Value.type "dict") (none : Option Nat) (Data.dict #[(DictEntry.mk (PyData.keyHash P (Str.ofString "__module__")) (Value.str (Str.ofString "__module__") (295:Nat)) (Value.str (Str.ofString "cpy313.graphlib") (243:Nat))), (DictEntry.mk (PyData.keyHash P (Str.ofString "__qualname__")) (Value.str (Str.ofString "__qualname__") (297:Nat)) (Value.str (Str.ofString "CycleError") (296:Nat))), (DictEntry.mk (PyData.keyHash P (Str.ofString "__firstlineno__")) (Value.str (Str.ofString "__firstlineno__") (299:Nat)) (Value.int (36:Int) (298:Nat))), (DictEntry.mk (PyData.keyHash P (Str.ofString "__static_attributes__")) (Value.str (Str.ofString "__static_attributes__") (300:Nat)) (Value.ref (85:Nat)))] (4:Nat)) #[])
noncomputable def o125 (P : Params) : Obj := (Obj.mk (Value.type "tuple") (none : Option Nat) (Data.seq #[] (0:Nat)) #[])
noncomputable def o126 (P : Params) : Obj := (Obj.mk Value.none (none : Option Nat) (Data.fields #[]) #[])
noncomputable def o127 (P : Params) : Obj := (Obj.mk (Value.type "code") (none : Option Nat) (Data.fields #[(Value.str (Str.ofString "CycleError") (290:Nat)), (Value.str (Str.ofString "CycleError") (291:Nat)), (Value.str (Str.ofString "/claim/cut.py") (292:Nat)), (Value.int (36:Int) (0:Nat)), (Value.int (0:Int) (0:Nat)), (Value.int (0:Int) (0:Nat)), (Value.int (0:Int) (0:Nat)), (Value.int (0:Int) (0:Nat)), (Value.ref (81:Nat)), (Value.bool false), (Value.int (181:Int) (0:Nat)), (Value.ref (82:Nat)), Value.none, Value.none, Value.none, Value.none, (Value.int (293:Int) (0:Nat)), (Value.int (36:Int) (0:Nat)), (Value.str (Str.ofString "/claim/cut.py") (294:Nat))]) #[])
noncomputable def o128 (P : Params) : Obj := (Obj.mk (Value.type "frame") (none : Option Nat) Data.plain #[(some (Value.ref (83:Nat))), (some (Value.ref (3:Nat))), (some (Value.ref (80:Nat))), (none), (some (Value.str (Str.ofString "cpy313.graphlib") (243:Nat))), (none), (some (Value.ref (0:Nat)))])
noncomputable def o129 (P : Params) : Obj := (Obj.mk (Value.type "tuple") (none : Option Nat) (Data.seq #[] (0:Nat)) #[])
noncomputable def o130 (P : Params) : Obj := (Obj.mk (Value.type "dict") (none : Option Nat) (Data.dict #[(DictEntry.mk (PyData.keyHash P (Str.ofString "__module__")) (Value.str (Str.ofString "__module__") (295:Nat)) (Value.str (Str.ofString "cpy313.graphlib") (243:Nat))), (DictEntry.mk (PyData.keyHash P (Str.ofString "__firstlineno__")) (Value.str (Str.ofString "__firstlineno__") (299:Nat)) (Value.int (36:Int) (298:Nat))), (DictEntry.mk (PyData.keyHash P (Str.ofString "__static_attributes__")) (Value.str (Str.ofString "__static_attributes__") (300:Nat)) (Value.ref (85:Nat))), (DictEntry.mk (PyData.keyHash P (Str.ofString "__weakref__")) (Value.str (Str.ofString "__weakref__") (302:Nat)) (Value.ref (88:Nat))), (DictEntry.mk (PyData.keyHash P (Str.ofString "__doc__")) (Value.str (Str.ofString "__doc__") (303:Nat)) Value.none)] (3:Nat)) #[])
noncomputable def o131 (P : Params) : Obj := (Obj.mk (Value.type "type") (none : Option Nat) (Data.cls (ClassData.mk (Str.ofString "CycleError") [(Value.type "ValueError")] [(Value.ref (87:Nat)), (Value.type "ValueError"), (Value.type "Exception"), (Value.type "BaseException"), (Value.type "object")] (86:Nat) (Str.ofString "CycleError") true [] [] false (none) false)) #[(some (Value.ref (78:Nat))), (none), (some (Value.str (Str.ofString "CycleError") (288:Nat))), (some (Value.str (Str.ofString "CycleError") (296:Nat))), (some (Value.builtin "ValueError.__new__")), (some (Value.bool true))])
noncomputable def o132 (P : Params) : Obj := (Obj.mk (Value.type "getset_descriptor") (none : Option Nat) (Data.fields #[(Value.str (Str.ofString "__weakref__") (301:Nat)), (Value.ref (87:Nat)), (Value.builtin "ExceptionGroup.__weakref__"), Value.none]) #[])
noncomputable def o133 (P : Params) : Obj := (Obj.mk (Value.type "super") (none : Option Nat) (Data.fields #[(Value.ref (87:Nat)), (Value.ref (87:Nat)), (Value.ref (87:Nat))]) #[])
noncomputable def o134 (P : Params) : Obj := (Obj.mk (Value.type "builtin_function_or_method") (none : Option Nat) (Data.fields #[(Value.builtin "object.__init_subclass__"), (Value.ref (87:Nat))]) #[])
noncomputable def o135 (P : Params) : Obj := (Obj.mk (Value.type "dict") (none : Option Nat) (Data.dict #[(DictEntry.mk (PyData.keyHash P (Str.ofString "__name__")) (Value.str (Str.ofString "__name__") (165:Nat)) (Value.str (Str.ofString "cpy313.graphlib") (243:Nat))), (DictEntry.mk (PyData.keyHash P (Str.ofString "__doc__")) (Value.str (Str.ofString "__doc__") (166:Nat)) Value.none), (DictEntry.mk (PyData.keyHash P (Str.ofString "__package__")) (Value.str (Str.ofString "__package__") (167:Nat)) Value.none), (DictEntry.mk (PyData.keyHash P (Str.ofString "__loader__")) (Value.str (Str.ofString "__loader__") (168:Nat)) (Value.builtin "__main__.__loader__#opaque")), (DictEntry.mk (PyData.keyHash P (Str.ofString "__spec__")) (Value.str (Str.ofString "__spec__") (169:Nat)) Value.none), (DictEntry.mk (PyData.keyHash P (Str.ofString "__annotations__")) (Value.str (Str.ofString "__annotations__") (170:Nat)) (Value.ref (6:Nat))), (DictEntry.mk (PyData.keyHash P (Str.ofString "__builtins__")) (Value.str (Str.ofString "__builtins__") (171:Nat)) (Value.ref (4:Nat))), (DictEntry.mk (PyData.keyHash P (Str.ofString "__file__")) (Value.str (Str.ofString "__file__") (173:Nat)) (Value.str (Str.ofString "/claim/cut.py") (172:Nat))), (DictEntry.mk (PyData.keyHash P (Str.ofString "__cached__")) (Value.str (Str.ofString "__cached__") (174:Nat)) Value.none), (DictEntry.mk (PyData.keyHash P (Str.ofString "_wall")) (Value.str (Str.ofString "_wall") (193:Nat)) (Value.ref (21:Nat))), (DictEntry.mk (PyData.keyHash P (Str.ofString "Error")) (Value.str (Str.ofString "Error") (215:Nat)) (Value.ref (31:Nat))), (DictEntry.mk (PyData.keyHash P (Str.ofString "error_reply")) (Value.str (Str.ofString "error_reply") (231:Nat)) (Value.ref (44:Nat))), (DictEntry.mk (PyData.keyHash P (Str.ofString "parse257")) (Value.str (Str.ofString "parse257") (242:Nat)) (Value.ref (53:Nat))), (DictEntry.mk (PyData.keyHash P (Str.ofString "_NODE_OUT")) (Value.str (Str.ofString "_NODE_OUT") (247:Nat)) (Value.int (-(1:Int)) (246:Nat))), (DictEntry.mk (PyData.keyHash P (Str.ofString "_NODE_DONE")) (Value.str (Str.ofString "_NODE_DONE") (250:Nat)) (Value.int (-(2:Int)) (249:Nat))), (DictEntry.mk (PyData.keyHash P (Str.ofString "_NodeInfo")) (Value.str (Str.ofString "_NodeInfo") (287:Nat)) (Value.ref (72:Nat))), (DictEntry.mk (PyData.keyHash P (Str.ofString "CycleError")) (Value.str (Str.ofString "CycleError") (305:Nat)) (Value.ref (87:Nat))), (DictEntry.mk (PyData.keyHash P (Str.ofString "TopologicalSorter")) (Value.str (Str.ofString "TopologicalSorter") (424:Nat)) (Value.ref (169:Nat)))] (18:Nat)) #[])
noncomputable def o136 (P : Params) : Obj := (Obj.mk Value.none (none : Option Nat) (Data.fields #[(Value.int (1:Int) (0:Nat)), (Value.int (0:Int) (0:Nat)), (Value.ref (20:Nat)), (Value.int (5:Int) (0:Nat)), (Value.int (0:Int) (0:Nat)), (Value.ref (27:Nat)), (Value.int (7:Int) (0:Nat)), (Value.int (0:Int) (0:Nat)), (Value.ref (40:Nat)), (Value.int (9:Int) (0:Nat)), (Value.int (0:Int) (0:Nat)), (Value.ref (52:Nat)), (Value.int (29:Int) (0:Nat)), (Value.int (0:Int) (0:Nat)), (Value.ref (59:Nat)), (Value.int (36:Int) (0:Nat)), (Value.int (0:Int) (0:Nat)), (Value.ref (83:Nat)), (Value.int (38:Int) (0:Nat)), (Value.int (0:Int) (0:Nat)), (Value.ref (96:Nat))]) #[])
noncomputable def o137 (P : Params) : Obj := (Obj.mk (Value.type "tuple") (none : Option Nat) (Data.seq #[] (0:Nat)) #[])
noncomputable def o138 (P : Params) : Obj := (Obj.mk (Value.type "builtin_function_or_method") (none : Option Nat) (Data.fields #[(Value.builtin "type.__prepare__"), (Value.type "type")]) #[])
noncomputable def o139 (P : Params) : Obj := (Obj.mk (Value.type "dict") (none : Option Nat) (Data.dict #[(DictEntry.mk (PyData.keyHash P (Str.ofString "__module__")) (Value.str (Str.ofString "__module__") (313:Nat)) (Value.str (Str.ofString "cpy313.graphlib") (243:Nat))), (DictEntry.mk (PyData.keyHash P (Str.ofString "__qualname__")) (Value.str (Str.ofString "__qualname__") (315:Nat)) (Value.str (Str.ofString "TopologicalSorter") (314:Nat))), (DictEntry.mk (PyData.keyHash P (Str.ofString "__firstlineno__")) (Value.str (Str.ofString "__firstlineno__") (317:Nat)) (Value.int (38:Int) (316:Nat))), (DictEntry.mk (PyData.keyHash P (Str.ofString "__init__")) (Value.str (Str.ofString "__init__") (327:Nat)) (Value.ref (105:Nat))), (DictEntry.mk (PyData.keyHash P (Str.ofString "_get_nodeinfo")) (Value.str (Str.ofString "_get_nodeinfo") (336:Nat)) (Value.ref (112:Nat))), (DictEntry.mk (PyData.keyHash P (Str.ofString "add")) (Value.str (Str.ofString "add") (348:Nat)) (Value.ref (119:Nat))), (DictEntry.mk (PyData.keyHash P (Str.ofString "prepare")) (Value.str (Str.ofString "prepare") (354:Nat)) (Value.ref (124:Nat))), (DictEntry.mk (PyData.keyHash P (Str.ofString "get_ready")) (Value.str (Str.ofString "get_ready") (364:Nat)) (Value.ref (131:Nat))), (DictEntry.mk (PyData.keyHash P (Str.ofString "is_active")) (Value.str (Str.ofString "is_active") (371:Nat)) (Value.ref (138:Nat))), (DictEntry.mk (PyData.keyHash P (Str.ofString "__bool__")) (Value.str (Str.ofString "__bool__") (378:Nat)) (Value.ref (145:Nat))), (DictEntry.mk (PyData.keyHash P (Str.ofString "done")) (Value.str (Str.ofString "done") (392:Nat)) (Value.ref (152:Nat))), (DictEntry.mk (PyData.keyHash P (Str.ofString "_find_cycle")) (Value.str (Str.ofString "_find_cycle") (405:Nat)) (Value.ref (159:Nat))), (DictEntry.mk (PyData.keyHash P (Str.ofString "static_order")) (Value.str (Str.ofString "static_order") (412:Nat)) (Value.ref (166:Nat))), (DictEntry.mk (PyData.keyHash P (Str.ofString "__static_attributes__")) (Value.str (Str.ofString "__static_attributes__") (417:Nat)) (Value.ref (167:Nat)))] (14:Nat)) #[])
noncomputable def o140 (P : Params) : Obj := (Obj.mk (Value.type "tuple") (none : Option Nat) (Data.seq #[] (0:Nat)) #[])
noncomputable def o141 (P : Params) : Obj := (Obj.mk Value.none (none : Option Nat) (Data.fields #[(Value.int (40:Int) (0:Nat)), (Value.int (4:Int) (0:Nat)), (Value.ref (104:Nat)), (Value.int (49:Int) (0:Nat)), (Value.int (4:Int) (0:Nat)), (Value.ref (111:Nat)), (Value.int (54:Int) (0:Nat)), (Value.int (4:Int) (0:Nat)), (Value.ref (118:Nat)), (Value.int (63:Int) (0:Nat)), (Value.int (4:Int) (0:Nat)), (Value.ref (123:Nat)), (Value.int (71:Int) (0:Nat)), (Value.int (4:Int) (0:Nat)), (Value.ref (130:Nat)), (Value.int (82:Int) (0:Nat)), (Value.int (4:Int) (0:Nat)), (Value.ref (137:Nat)), (Value.int (87:Int) (0:Nat)), (Value.int (4:Int) (0:Nat)), (Value.ref (144:Nat)), (Value.int (90:Int) (0:Nat)), (Value.int (4:Int) (0:Nat)), (Value.ref (151:Nat)), (Value.int (113:Int) (0:Nat)), (Value.int (4:Int) (0:Nat)), (Value.ref (158:Nat)), (Value.int (142:Int) (0:Nat)), (Value.int (4:Int) (0:Nat)), (Value.ref (165:Nat))]) #[])
noncomputable def o142 (P : Params) : Obj := (Obj.mk (Value.type "code") (none : Option Nat) (Data.fields #[(Value.str (Str.ofString "TopologicalSorter") (308:Nat)), (Value.str (Str.ofString "TopologicalSorter") (309:Nat)), (Value.str (Str.ofString "/claim/cut.py") (310:Nat)), (Value.int (38:Int) (0:Nat)), (Value.int (0:Int) (0:Nat)), (Value.int (0:Int) (0:Nat)), (Value.int (0:Int) (0:Nat)), (Value.int (0:Int) (0:Nat)), (Value.ref (94:Nat)), (Value.bool false), (Value.int (181:Int) (0:Nat)), (Value.ref (95:Nat)), Value.none, Value.none, Value.none, Value.none, (Value.int (311:Int) (0:Nat)), (Value.int (38:Int) (0:Nat)), (Value.str (Str.ofString "/claim/cut.py") (312:Nat))]) #[])
noncomputable def o143 (P : Params) : Obj := (Obj.mk (Value.type "frame") (none : Option Nat) Data.plain #[(some (Value.ref (96:Nat))), (some (Value.ref (3:Nat))), (some (Value.ref (93:Nat))), (none), (some (Value.str (Str.ofString "cpy313.graphlib") (243:Nat))), (none), (some (Value.ref (0:Nat)))])
noncomputable def o144 (P : Params) : Obj := (Obj.mk (Value.type "tuple") (none : Option Nat) (Data.seq #[Value.none] (0:Nat)) #[])
noncomputable def o145 (P : Params) : Obj := (Obj.mk (Value.type "tuple") (none : Option Nat) (Data.seq #[] (0:Nat)) #[])
noncomputable def o146 (P : Params) : Obj := (Obj.mk Value.none (none : Option Nat) (Data.fields #[]) #[])
noncomputable def o147 (P : Params) : Obj := (Obj.mk (Value.type "tuple") (none : Option Nat) (Data.seq #[(Value.str (Str.ofString "self") (321:Nat)), (Value.str (Str.ofString "graph") (322:Nat)), (Value.str (Str.ofString "node") (323:Nat)), (Value.str (Str.ofString "predecessors") (324:Nat))] (0:Nat)) #[])
noncomputable def o148 (P : Params) : Obj := (Obj.mk (Value.type "tuple") (none : Option Nat) (Data.seq #[] (0:Nat)) #[])
noncomputable def o149 (P : Params) : Obj := letI a : Arguments := _; letI b : List Stmt := _; letI sc : Scope := _; haveI e : pickM 10 0 = some (a, b, sc) := rfl; (Obj.mk Value.none (none : Option Nat) (Data.func (FuncData.mk (Str.ofString "__init__") (Str.ofString "TopologicalSorter.__init__") a (FuncBody.stmts b) sc (0:Nat) ([] : List (Str × Nat)) Value.none Value.none Value.none Value.none (none : Option Nat) Value.none Value.none (0:Nat))) #[])
noncomputable def o150 (P : Params) : Obj := (Obj.mk (Value.type "code") (none : Option Nat) (Data.fields #[(Value.str (Str.ofString "__init__") (318:Nat)), (Value.str (Str.ofString "TopologicalSorter.__init__") (319:Nat)), (Value.str (Str.ofString "/claim/cut.py") (320:Nat)), (Value.int (40:Int) (0:Nat)), (Value.int (2:Int) (0:Nat)), (Value.int (0:Int) (0:Nat)), (Value.int (0:Int) (0:Nat)), (Value.int (3:Int) (0:Nat)), (Value.ref (99:Nat)), (Value.bool true), (Value.int (181:Int) (0:Nat)), (Value.ref (100:Nat)), Value.none, (Value.ref (101:Nat)), (Value.ref (102:Nat)), (Value.ref (103:Nat)), (Value.int (325:Int) (0:Nat)), (Value.int (40:Int) (0:Nat)), (Value.str (Str.ofString "/claim/cut.py") (326:Nat))]) #[])
noncomputable def o151 (P : Params) : Obj := letI a : Arguments := _; letI b : List Stmt := _; letI sc : Scope := _; haveI e : pickM 10 0 = some (a, b, sc) := rfl; (Obj.mk (Value.type "function") (none : Option Nat) (Data.func (FuncData.mk (Str.ofString "__init__") (Str.ofString "TopologicalSorter.__init__") a (FuncBody.stmts b) sc (3:Nat) ([] : List (Str × Nat)) (Value.ref (98:Nat)) Value.none Value.none (Value.str (Str.ofString "cpy313.graphlib") (243:Nat)) (none : Option Nat) (Value.ref (104:Nat)) Value.none (0:Nat))) #[])
noncomputable def o152 (P : Params) : Obj := (Obj.mk (Value.type "tuple") (none : Option Nat) (Data.seq #[] (0:Nat)) #[])
noncomputable def o153 (P : Params) : Obj := (Obj.mk Value.none (none : Option Nat) (Data.fields #[]) #[])
noncomputable def o154 (P : Params) : Obj := (Obj.mk (Value.type "tuple") (none : Option Nat) (Data.seq #[(Value.str (Str.ofString "self") (331:Nat)), (Value.str (Str.ofString "node") (332:Nat)), (Value.str (Str.ofString "result") (333:Nat))] (0:Nat)) #[])
noncomputable def o155 (P : Params) : Obj := (Obj.mk (Value.type "tuple") (none : Option Nat) (Data.seq #[] (0:Nat)) #[])
noncomputable def o156 (P : Params) : Obj := letI a : Arguments := _; letI b : List Stmt := _; letI sc : Scope := _; haveI e : pickM 10 1 = some (a, b, sc) := rfl; (Obj.mk Value.none (none : Option Nat) (Data.func (FuncData.mk (Str.ofString "_get_nodeinfo") (Str.ofString "TopologicalSorter._get_nodeinfo") a (FuncBody.stmts b) sc (0:Nat) ([] : List (Str × Nat)) Value.none Value.none Value.none Value.none (none : Option Nat) Value.none Value.none (0:Nat))) #[])
noncomputable def o157 (P : Params) : Obj := (Obj.mk (Value.type "code") (none : Option Nat) (Data.fields #[(Value.str (Str.ofString "_get_nodeinfo") (328:Nat)), (Value.str (Str.ofString "TopologicalSorter._get_nodeinfo") (329:Nat)), (Value.str (Str.ofString "/claim/cut.py") (330:Nat)), (Value.int (49:Int) (0:Nat)), (Value.int (2:Int) (0:Nat)), (Value.int (0:Int) (0:Nat)), (Value.int (0:Int) (0:Nat)), (Value.int (3:Int) (0:Nat)), (Value.ref (106:Nat)), (Value.bool true), (Value.int (181:Int) (0:Nat)), (Value.ref (107:Nat)), Value.none, (Value.ref (108:Nat)), (Value.ref (109:Nat)), (Value.ref (110:Nat)), (Value.int (334:Int) (0:Nat)), (Value.int (49:Int) (0:Nat)), (Value.str (Str.ofString "/claim/cut.py") (335:Nat))]) #[])
noncomputable def o158 (P : Params) : Obj := letI a : Arguments := _; letI b : List Stmt := _; letI sc : Scope := _; haveI e : pickM 10 1 = some (a, b, sc) := rfl; (Obj.mk (Value.type "function") (none : Option Nat) (Data.func (FuncData.mk (Str.ofString "_get_nodeinfo") (Str.ofString "TopologicalSorter._get_nodeinfo") a (FuncBody.stmts b) sc (3:Nat) ([] : List (Str × Nat)) Value.none Value.none Value.none (Value.str (Str.ofString "cpy313.graphlib") (243:Nat)) (none : Option Nat) (Value.ref (111:Nat)) Value.none (0:Nat))) #[])
noncomputable def o159 (P : Params) : Obj := (Obj.mk (Value.type "tuple") (none : Option Nat) (Data.seq #[] (0:Nat)) #[])
noncomputable def o160 (P : Params) : Obj := (Obj.mk Value.none (none : Option Nat) (Data.fields #[]) #[])
noncomputable def o161 (P : Params) : Obj := (Obj.mk (Value.type "tuple") (none : Option Nat) (Data.seq #[(Value.str (Str.ofString "self") (340:Nat)), (Value.str (Str.ofString "node") (341:Nat)), (Value.str (Str.ofString "predecessors") (342:Nat)), (Value.str (Str.ofString "nodeinfo") (343:Nat)), (Value.str (Str.ofString "pred") (344:Nat)), (Value.str (Str.ofString "pred_info") (345:Nat))] (0:Nat)) #[])
noncomputable def o162 (P : Params) : Obj := (Obj.mk (Value.type "tuple") (none : Option Nat) (Data.seq #[] (0:Nat)) #[])
noncomputable def o163 (P : Params) : Obj := letI a : Arguments := _; letI b : List Stmt := _; letI sc : Scope := _; haveI e : pickM 10 2 = some (a, b, sc) := rfl; (Obj.mk Value.none (none : Option Nat) (Data.func (FuncData.mk (Str.ofString "add") (Str.ofString "TopologicalSorter.add") a (FuncBody.stmts b) sc (0:Nat) ([] : List (Str × Nat)) Value.none Value.none Value.none Value.none (none : Option Nat) Value.none Value.none (0:Nat))) #[])
noncomputable def o164 (P : Params) : Obj := (Obj.mk (Value.type "code") (none : Option Nat) (Data.fields #[(Value.str (Str.ofString "add") (337:Nat)), (Value.str (Str.ofString "TopologicalSorter.add") (338:Nat)), (Value.str (Str.ofString "/claim/cut.py") (339:Nat)), (Value.int (54:Int) (0:Nat)), (Value.int (2:Int) (0:Nat)), (Value.int (0:Int) (0:Nat)), (Value.int (0:Int) (0:Nat)), (Value.int (7:Int) (0:Nat)), (Value.ref (113:Nat)), (Value.bool true), (Value.int (181:Int) (0:Nat)), (Value.ref (114:Nat)), Value.none, (Value.ref (115:Nat)), (Value.ref (116:Nat)), (Value.ref (117:Nat)), (Value.int (346:Int) (0:Nat)), (Value.int (54:Int) (0:Nat)), (Value.str (Str.ofString "/claim/cut.py") (347:Nat))]) #[])
noncomputable def o165 (P : Params) : Obj := letI a : Arguments := _; letI b : List Stmt := _; letI sc : Scope := _; haveI e : pickM 10 2 = some (a, b, sc) := rfl; (Obj.mk (Value.type "function") (none : Option Nat) (Data.func (FuncData.mk (Str.ofString "add") (Str.ofString "TopologicalSorter.add") a (FuncBody.stmts b) sc (3:Nat) ([] : List (Str × Nat)) Value.none Value.none Value.none (Value.str (Str.ofString "cpy313.graphlib") (243:Nat)) (none : Option Nat) (Value.ref (118:Nat)) Value.none (0:Nat))) #[])
noncomputable def o166 (P : Params) : Obj := (Obj.mk (Value.type "tuple") (none : Option Nat) (Data.seq #[] (0:Nat)) #[])
noncomputable def o167 (P : Params) : Obj := (Obj.mk Value.none (none : Option Nat) (Data.fields #[]) #[])
noncomputable def o168 (P : Params) : Obj := letI a : Arguments := _; letI b : List Stmt := _; letI sc : Scope := _; haveI e : pickM 10 3 = some (a, b, sc) := rfl; (Obj.mk Value.none (none : Option Nat) (Data.func (FuncData.mk (Str.ofString "prepare") (Str.ofString "TopologicalSorter.prepare") a (FuncBody.stmts b) sc (0:Nat) ([] : List (Str × Nat)) Value.none Value.none Value.none Value.none (none : Option Nat) Value.none Value.none (0:Nat))) #[])
noncomputable def o169 (P : Params) : Obj := (Obj.mk (Value.type "code") (none : Option Nat) (Data.fields #[(Value.str (Str.ofString "prepare") (349:Nat)), (Value.str (Str.ofString "TopologicalSorter.prepare") (350:Nat)), (Value.str (Str.ofString "/claim/cut.py") (351:Nat)), (Value.int (63:Int) (0:Nat)), (Value.int (1:Int) (0:Nat)), (Value.int (0:Int) (0:Nat)), (Value.int (0:Int) (0:Nat)), (Value.int (3:Int) (0:Nat)), (Value.ref (120:Nat)), (Value.bool true), (Value.int (181:Int) (0:Nat)), (Value.ref (121:Nat)), Value.none, Value.none, Value.none, (Value.ref (122:Nat)), (Value.int (352:Int) (0:Nat)), (Value.int (63:Int) (0:Nat)), (Value.str (Str.ofString "/claim/cut.py") (353:Nat))]) #[])
noncomputable def o170 (P : Params) : Obj := letI a : Arguments := _; letI b : List Stmt := _; letI sc : Scope := _; haveI e : pickM 10 3 = some (a, b, sc) := rfl; (Obj.mk (Value.type "function") (none : Option Nat) (Data.func (FuncData.mk (Str.ofString "prepare") (Str.ofString "TopologicalSorter.prepare") a (FuncBody.stmts b) sc (3:Nat) ([] : List (Str × Nat)) Value.none Value.none Value.none (Value.str (Str.ofString "cpy313.graphlib") (243:Nat)) (none : Option Nat) (Value.ref (123:Nat)) Value.none (0:Nat))) #[])
noncomputable def o171 (P : Params) : Obj := (Obj.mk (Value.type "tuple") (none : Option Nat) (Data.seq #[] (0:Nat)) #[])
noncomputable def o172 (P : Params) : Obj := (Obj.mk Value.none (none : Option Nat) (Data.fields #[]) #[])
noncomputable def o173 (P : Params) : Obj := (Obj.mk (Value.type "tuple") (none : Option Nat) (Data.seq #[(Value.str (Str.ofString "self") (358:Nat)), (Value.str (Str.ofString "result") (359:Nat)), (Value.str (Str.ofString "n2i") (360:Nat)), (Value.str (Str.ofString "node") (361:Nat))] (0:Nat)) #[])
noncomputable def o174 (P : Params) : Obj := (Obj.mk (Value.type "tuple") (none : Option Nat) (Data.seq #[] (0:Nat)) #[])
noncomputable def o175 (P : Params) : Obj := letI a : Arguments := _; letI b : List Stmt := _; letI sc : Scope := _; haveI e : pickM 10 4 = some (a, b, sc) := rfl; (Obj.mk Value.none (none : Option Nat) (Data.func (FuncData.mk (Str.ofString "get_ready") (Str.ofString "TopologicalSorter.get_ready") a (FuncBody.stmts b) sc (0:Nat) ([] : List (Str × Nat)) Value.none Value.none Value.none Value.none (none : Option Nat) Value.none Value.none (0:Nat))) #[])
noncomputable def o176 (P : Params) : Obj := (Obj.mk (Value.type "code") (none : Option Nat) (Data.fields #[(Value.str (Str.ofString "get_ready") (355:Nat)), (Value.str (Str.ofString "TopologicalSorter.get_ready") (356:Nat)), (Value.str (Str.ofString "/claim/cut.py") (357:Nat)), (Value.int (71:Int) (0:Nat)), (Value.int (1:Int) (0:Nat)), (Value.int (0:Int) (0:Nat)), (Value.int (0:Int) (0:Nat)), (Value.int (3:Int) (0:Nat)), (Value.ref (125:Nat)), (Value.bool true), (Value.int (181:Int) (0:Nat)), (Value.ref (126:Nat)), Value.none, (Value.ref (127:Nat)), (Value.ref (128:Nat)), (Value.ref (129:Nat)), (Value.int (362:Int) (0:Nat)), (Value.int (71:Int) (0:Nat)), (Value.str (Str.ofString "/claim/cut.py") (363:Nat))]) #[])
noncomputable def o177 (P : Params) : Obj := letI a : Arguments := _; letI b : List Stmt := _; letI sc : Scope := _; haveI e : pickM 10 4 = some (a, b, sc) := rfl; (Obj.mk (Value.type "function") (none : Option Nat) (Data.func (FuncData.mk (Str.ofString "get_ready") (Str.ofString "TopologicalSorter.get_ready") a (FuncBody.stmts b) sc (3:Nat) ([] : List (Str × Nat)) Value.none Value.none Value.none (Value.str (Str.ofString "cpy313.graphlib") (243:Nat)) (none : Option Nat) (Value.ref (130:Nat)) Value.none (0:Nat))) #[])
noncomputable def o178 (P : Params) : Obj := (Obj.mk (Value.type "tuple") (none : Option Nat) (Data.seq #[] (0:Nat)) #[])
noncomputable def o179 (P : Params) : Obj := (Obj.mk Value.none (none : Option Nat) (Data.fields #[]) #[])
noncomputable def o180 (P : Params) : Obj := (Obj.mk (Value.type "tuple") (none : Option Nat) (Data.seq #[(Value.str (Str.ofString "self") (368:Nat))] (0:Nat)) #[])
noncomputable def o181 (P : Params) : Obj := (Obj.mk (Value.type "tuple") (none : Option Nat) (Data.seq #[] (0:Nat)) #[])
noncomputable def o182 (P : Params) : Obj := letI a : Arguments := _; letI b : List Stmt := _; letI sc : Scope := _; haveI e : pickM 10 5 = some (a, b, sc) := rfl; (Obj.mk Value.none (none : Option Nat) (Data.func (FuncData.mk (Str.ofString "is_active") (Str.ofString "TopologicalSorter.is_active") a (FuncBody.stmts b) sc (0:Nat) ([] : List (Str × Nat)) Value.none Value.none Value.none Value.none (none : Option Nat) Value.none Value.none (0:Nat))) #[])
noncomputable def o183 (P : Params) : Obj := (Obj.mk (Value.type "code") (none : Option Nat) (Data.fields #[(Value.str (Str.ofString "is_active") (365:Nat)), (Value.str (Str.ofString "TopologicalSorter.is_active") (366:Nat)), (Value.str (Str.ofString "/claim/cut.py") (367:Nat)), (Value.int (82:Int) (0:Nat)), (Value.int (1:Int) (0:Nat)), (Value.int (0:Int) (0:Nat)), (Value.int (0:Int) (0:Nat)), (Value.int (3:Int) (0:Nat)), (Value.ref (132:Nat)), (Value.bool true), (Value.int (181:Int) (0:Nat)), (Value.ref (133:Nat)), Value.none, (Value.ref (134:Nat)), (Value.ref (135:Nat)), (Value.ref (136:Nat)), (Value.int (369:Int) (0:Nat)), (Value.int (82:Int) (0:Nat)), (Value.str (Str.ofString "/claim/cut.py") (370:Nat))]) #[])
noncomputable def o184 (P : Params) : Obj := letI a : Arguments := _; letI b : List Stmt := _; letI sc : Scope := _; haveI e : pickM 10 5 = some (a, b, sc) := rfl; (Obj.mk (Value.type "function") (none : Option Nat) (Data.func (FuncData.mk (Str.ofString "is_active") (Str.ofString "TopologicalSorter.is_active") a (FuncBody.stmts b) sc (3:Nat) ([] : List (Str × Nat)) Value.none Value.none Value.none (Value.str (Str.ofString "cpy313.graphlib") (243:Nat)) (none : Option Nat) (Value.ref (137:Nat)) Value.none (0:Nat))) #[])
noncomputable def o185 (P : Params) : Obj := (Obj.mk (Value.type "tuple") (none : Option Nat) (Data.seq #[] (0:Nat)) #[])
noncomputable def o186 (P : Params) : Obj := (Obj.mk Value.none (none : Option Nat) (Data.fields #[]) #[])
noncomputable def o187 (P : Params) : Obj := (Obj.mk (Value.type "tuple") (none : Option Nat) (Data.seq #[(Value.str (Str.ofString "self") (375:Nat))] (0:Nat)) #[])
noncomputable def o188 (P : Params) : Obj := (Obj.mk (Value.type "tuple") (none : Option Nat) (Data.seq #[] (0:Nat)) #[])
noncomputable def o189 (P : Params) : Obj := letI a : Arguments := _; letI b : List Stmt := _; letI sc : Scope := _; haveI e : pickM 10 6 = some (a, b, sc) := rfl; (Obj.mk Value.none (none : Option Nat) (Data.func (FuncData.mk (Str.ofString "__bool__") (Str.ofString "TopologicalSorter.__bool__") a (FuncBody.stmts b) sc (0:Nat) ([] : List (Str × Nat)) Value.none Value.none Value.none Value.none (none : Option Nat) Value.none Value.none (0:Nat))) #[])
noncomputable def o190 (P : Params) : Obj := (Obj.mk (Value.type "code") (none : Option Nat) (Data.fields #[(Value.str (Str.ofString "__bool__") (372:Nat)), (Value.str (Str.ofString "TopologicalSorter.__bool__") (373:Nat)), (Value.str (Str.ofString "/claim/cut.py") (374:Nat)), (Value.int (87:Int) (0:Nat)), (Value.int (1:Int) (0:Nat)), (Value.int (0:Int) (0:Nat)), (Value.int (0:Int) (0:Nat)), (Value.int (3:Int) (0:Nat)), (Value.ref (139:Nat)), (Value.bool true), (Value.int (181:Int) (0:Nat)), (Value.ref (140:Nat)), Value.none, (Value.ref (141:Nat)), (Value.ref (142:Nat)), (Value.ref (143:Nat)), (Value.int (376:Int) (0:Nat)), (Value.int (87:Int) (0:Nat)), (Value.str (Str.ofString "/claim/cut.py") (377:Nat))]) #[])
noncomputable def o191 (P : Params) : Obj := letI a : Arguments := _; letI b : List Stmt := _; letI sc : Scope := _; haveI e : pickM 10 6 = some (a, b, sc) := rfl; (Obj.mk (Value.type "function") (none : Option Nat) (Data.func (FuncData.mk (Str.ofString "__bool__") (Str.ofString "TopologicalSorter.__bool__") a (FuncBody.stmts b) sc (3:Nat) ([] : List (Str × Nat)) Value.none Value.none Value.none (Value.str (Str.ofString "cpy313.graphlib") (243:Nat)) (none : Option Nat) (Value.ref (144:Nat)) Value.none (0:Nat))) #[])
noncomputable def o192 (P : Params) : Obj := (Obj.mk (Value.type "tuple") (none : Option Nat) (Data.seq #[] (0:Nat)) #[])
noncomputable def o193 (P : Params) : Obj := (Obj.mk Value.none (none : Option Nat) (Data.fields #[]) #[])
noncomputable def o194 (P : Params) : Obj := (Obj.mk (Value.type "tuple") (none : Option Nat) (Data.seq #[(Value.str (Str.ofString "self") (382:Nat)), (Value.str (Str.ofString "nodes") (383:Nat)), (Value.str (Str.ofString "n2i") (384:Nat)), (Value.str (Str.ofString "node") (385:Nat)), (Value.str (Str.ofString "nodeinfo") (386:Nat)), (Value.str (Str.ofString "stat") (387:Nat)), (Value.str (Str.ofString "successor") (388:Nat)), (Value.str (Str.ofString "successor_info") (389:Nat))] (0:Nat)) #[])
noncomputable def o195 (P : Params) : Obj := (Obj.mk (Value.type "tuple") (none : Option Nat) (Data.seq #[] (0:Nat)) #[])
noncomputable def o196 (P : Params) : Obj := letI a : Arguments := _; letI b : List Stmt := _; letI sc : Scope := _; haveI e : pickM 10 7 = some (a, b, sc) := rfl; (Obj.mk Value.none (none : Option Nat) (Data.func (FuncData.mk (Str.ofString "done") (Str.ofString "TopologicalSorter.done") a (FuncBody.stmts b) sc (0:Nat) ([] : List (Str × Nat)) Value.none Value.none Value.none Value.none (none : Option Nat) Value.none Value.none (0:Nat))) #[])
noncomputable def o197 (P : Params) : Obj := (Obj.mk (Value.type "code") (none : Option Nat) (Data.fields #[(Value.str (Str.ofString "done") (379:Nat)), (Value.str (Str.ofString "TopologicalSorter.done") (380:Nat)), (Value.str (Str.ofString "/claim/cut.py") (381:Nat)), (Value.int (90:Int) (0:Nat)), (Value.int (1:Int) (0:Nat)), (Value.int (0:Int) (0:Nat)), (Value.int (0:Int) (0:Nat)), (Value.int (7:Int) (0:Nat)), (Value.ref (146:Nat)), (Value.bool true), (Value.int (181:Int) (0:Nat)), (Value.ref (147:Nat)), Value.none, (Value.ref (148:Nat)), (Value.ref (149:Nat)), (Value.ref (150:Nat)), (Value.int (390:Int) (0:Nat)), (Value.int (90:Int) (0:Nat)), (Value.str (Str.ofString "/claim/cut.py") (391:Nat))]) #[])
noncomputable def o198 (P : Params) : Obj := letI a : Arguments := _; letI b : List Stmt := _; letI sc : Scope := _; haveI e : pickM 10 7 = some (a, b, sc) := rfl; (Obj.mk (Value.type "function") (none : Option Nat) (Data.func (FuncData.mk (Str.ofString "done") (Str.ofString "TopologicalSorter.done") a (FuncBody.stmts b) sc (3:Nat) ([] : List (Str × Nat)) Value.none Value.none Value.none (Value.str (Str.ofString "cpy313.graphlib") (243:Nat)) (none : Option Nat) (Value.ref (151:Nat)) Value.none (0:Nat))) #[])
noncomputable def o199 (P : Params) : Obj := (Obj.mk (Value.type "tuple") (none : Option Nat) (Data.seq #[] (0:Nat)) #[])
noncomputable def o200 (P : Params) : Obj := (Obj.mk Value.none (none : Option Nat) (Data.fields #[]) #[])
noncomputable def o201 (P : Params) : Obj := (Obj.mk (Value.type "tuple") (none : Option Nat) (Data.seq #[(Value.str (Str.ofString "self") (396:Nat)), (Value.str (Str.ofString "n2i") (397:Nat)), (Value.str (Str.ofString "stack") (398:Nat)), (Value.str (Str.ofString "itstack") (399:Nat)), (Value.str (Str.ofString "seen") (400:Nat)), (Value.str (Str.ofString "node2stacki") (401:Nat)), (Value.str (Str.ofString "node") (402:Nat))] (0:Nat)) #[])
noncomputable def o202 (P : Params) : Obj := (Obj.mk (Value.type "tuple") (none : Option Nat) (Data.seq #[] (0:Nat)) #[])
noncomputable def o203 (P : Params) : Obj := letI a : Arguments := _; letI b : List Stmt := _; letI sc : Scope := _; haveI e : pickM 10 8 = some (a, b, sc) := rfl; (Obj.mk Value.none (none : Option Nat) (Data.func (FuncData.mk (Str.ofString "_find_cycle") (Str.ofString "TopologicalSorter._find_cycle") a (FuncBody.stmts b) sc (0:Nat) ([] : List (Str × Nat)) Value.none Value.none Value.none Value.none (none : Option Nat) Value.none Value.none (0:Nat))) #[])
noncomputable def o204 (P : Params) : Obj := (Obj.mk (Value.type "code") (none : Option Nat) (Data.fields #[(Value.str (Str.ofString "_find_cycle") (393:Nat)), (Value.str (Str.ofString "TopologicalSorter._find_cycle") (394:Nat)), (Value.str (Str.ofString "/claim/cut.py") (395:Nat)), (Value.int (113:Int) (0:Nat)), (Value.int (1:Int) (0:Nat)), (Value.int (0:Int) (0:Nat)), (Value.int (0:Int) (0:Nat)), (Value.int (3:Int) (0:Nat)), (Value.ref (153:Nat)), (Value.bool true), (Value.int (181:Int) (0:Nat)), (Value.ref (154:Nat)), Value.none, (Value.ref (155:Nat)), (Value.ref (156:Nat)), (Value.ref (157:Nat)), (Value.int (403:Int) (0:Nat)), (Value.int (113:Int) (0:Nat)), (Value.str (Str.ofString "/claim/cut.py") (404:Nat))]) #[])
noncomputable def o205 (P : Params) : Obj := letI a : Arguments := _; letI b : List Stmt := _; letI sc : Scope := _; haveI e : pickM 10 8 = some (a, b, sc) := rfl; (Obj.mk (Value.type "function") (none : Option Nat) (Data.func (FuncData.mk (Str.ofString "_find_cycle") (Str.ofString "TopologicalSorter._find_cycle") a (FuncBody.stmts b) sc (3:Nat) ([] : List (Str × Nat)) Value.none Value.none Value.none (Value.str (Str.ofString "cpy313.graphlib") (243:Nat)) (none : Option Nat) (Value.ref (158:Nat)) Value.none (0:Nat))) #[])
noncomputable def o206 (P : Params) : Obj := (Obj.mk (Value.type "tuple") (none : Option Nat) (Data.seq #[] (0:Nat)) #[])
noncomputable def o207 (P : Params) : Obj := (Obj.mk Value.none (none : Option Nat) (Data.fields #[]) #[])
noncomputable def o208 (P : Params) : Obj := (Obj.mk (Value.type "tuple") (none : Option Nat) (Data.seq #[(Value.str (Str.ofString "self") (409:Nat))] (0:Nat)) #[])
noncomputable def o209 (P : Params) : Obj := (Obj.mk (Value.type "tuple") (none : Option Nat) (Data.seq #[] (0:Nat)) #[])
noncomputable def o210 (P : Params) : Obj := letI a : Arguments := _; letI b : List Stmt := _; letI sc : Scope := _; haveI e : pickM 10 9 = some (a, b, sc) := rfl; (Obj.mk Value.none (none : Option Nat) (Data.func (FuncData.mk (Str.ofString "static_order") (Str.ofString "TopologicalSorter.static_order") a (FuncBody.stmts b) sc (0:Nat) ([] : List (Str × Nat)) Value.none Value.none Value.none Value.none (none : Option Nat) Value.none Value.none (0:Nat))) #[])
noncomputable def o211 (P : Params) : Obj := (Obj.mk (Value.type "code") (none : Option Nat) (Data.fields #[(Value.str (Str.ofString "static_order") (406:Nat)), (Value.str (Str.ofString "TopologicalSorter.static_order") (407:Nat)), (Value.str (Str.ofString "/claim/cut.py") (408:Nat)), (Value.int (142:Int) (0:Nat)), (Value.int (1:Int) (0:Nat)), (Value.int (0:Int) (0:Nat)), (Value.int (0:Int) (0:Nat)), (Value.int (3:Int) (0:Nat)), (Value.ref (160:Nat)), (Value.bool true), (Value.int (181:Int) (0:Nat)), (Value.ref (161:Nat)), Value.none, (Value.ref (162:Nat)), (Value.ref (163:Nat)), (Value.ref (164:Nat)), (Value.int (410:Int) (0:Nat)), (Value.int (142:Int) (0:Nat)), (Value.str (Str.ofString "/claim/cut.py") (411:Nat))]) #[])
noncomputable def o212 (P : Params) : Obj := letI a : Arguments := _; letI b : List Stmt := _; letI sc : Scope := _; haveI e : pickM 10 9 = some (a, b, sc) := rfl; (Obj.mk (Value.type "function") (none : Option Nat) (Data.func (FuncData.mk (Str.ofString "static_order") (Str.ofString "TopologicalSorter.static_order") a (FuncBody.stmts b) sc (3:Nat) ([] : List (Str × Nat)) Value.none Value.none Value.none (Value.str (Str.ofString "cpy313.graphlib") (243:Nat)) (none : Option Nat) (Value.ref (165:Nat)) Value.none (0:Nat))) #[])
noncomputable def o213 (P : Params) : Obj := (Obj.mk (Value.type "tuple") (none : Option Nat) (Data.seq #[(Value.str (Str.ofString "_nfinished") (413:Nat)), (Value.str (Str.ofString "_node2info") (414:Nat)), (Value.str (Str.ofString "_npassedout") (415:Nat)), (Value.str (Str.ofString "_ready_nodes") (416:Nat))] (0:Nat)) #[])
noncomputable def o214 (P : Params) : Obj := (Obj.mk (Value.type "dict") (none : Option Nat) (Data.dict #[(DictEntry.mk (PyData.keyHash P (Str.ofString "__module__")) (Value.str (Str.ofString "__module__") (313:Nat)) (Value.str (Str.ofString "cpy313.graphlib") (243:Nat))), (DictEntry.mk (PyData.keyHash P (Str.ofString "__firstlineno__")) (Value.str (Str.ofString "__firstlineno__") (317:Nat)) (Value.int (38:Int) (316:Nat))), (DictEntry.mk (PyData.keyHash P (Str.ofString "__init__")) (Value.str (Str.ofString "__init__") (327:Nat)) (Value.ref (105:Nat))), (DictEntry.mk (PyData.keyHash P (Str.ofString "_get_nodeinfo")) (Value.str (Str.ofString "_get_nodeinfo") (336:Nat)) (Value.ref (112:Nat))), (DictEntry.mk (PyData.keyHash P (Str.ofString "add")) (Value.str (Str.ofString "add") (348:Nat)) (Value.ref (119:Nat))), (DictEntry.mk (PyData.keyHash P (Str.ofString "prepare")) (Value.str (Str.ofString "prepare") (354:Nat)) (Value.ref (124:Nat))), (DictEntry.mk (PyData.keyHash P (Str.ofString "get_ready")) (Value.str (Str.ofString "get_ready") (364:Nat)) (Value.ref (131:Nat))), (DictEntry.mk (PyData.keyHash P (Str.ofString "is_active")) (Value.str (Str.ofString "is_active") (371:Nat)) (Value.ref (138:Nat))), (DictEntry.mk (PyData.keyHash P (Str.ofString "__bool__")) (Value.str (Str.ofString "__bool__") (378:Nat)) (Value.ref (145:Nat))), (DictEntry.mk (PyData.keyHash P (Str.ofString "done")) (Value.str (Str.ofString "done") (392:Nat)) (Value.ref (152:Nat))), (DictEntry.mk (PyData.keyHash P (Str.ofString "_find_cycle")) (Value.str (Str.ofString "_find_cycle") (405:Nat)) (Value.ref (159:Nat))), (DictEntry.mk (PyData.keyHash P (Str.ofString "static_order")) (Value.str (Str.ofString "static_order") (412:Nat)) (Value.ref (166:Nat))), (DictEntry.mk (PyData.keyHash P (Str.ofString "__static_attributes__")) (Value.str (Str.ofString "__static_attributes__") (417:Nat)) (Value.ref (167:Nat))), (DictEntry.mk (PyData.keyHash P (Str.ofString "__dict__")) (Value.str (Str.ofString "__dict__") (419:Nat)) (Value.ref (170:Nat))), (DictEntry.mk (PyData.keyHash P (Str.ofString "__weakref__")) (Value.str (Str.ofString "__weakref__") (421:Nat)) (Value.ref (171:Nat))), (DictEntry.mk (PyData.keyHash P (Str.ofString "__doc__")) (Value.str (Str.ofString "__doc__") (422:Nat)) Value.none)] (4:Nat)) #[])
noncomputable def o215 (P : Params) : Obj := (Obj.mk (Value.type "type") (none : Option Nat) (Data.cls (ClassData.mk (Str.ofString "TopologicalSorter") [(Value.type "object")] [(Value.ref (169:Nat)), (Value.type "object")] (168:Nat) (Str.ofString "TopologicalSorter") true [] [] false (none) false)) #[(none), (none), (some (Value.str (Str.ofString "TopologicalSorter") (306:Nat))), (some (Value.str (Str.ofString "TopologicalSorter") (314:Nat))), (some (Value.builtin "object.__new__")), (some (Value.bool true))])
noncomputable def o216 (P : Params) : Obj := (Obj.mk (Value.type "getset_descriptor") (none : Option Nat) (Data.fields #[(Value.str (Str.ofString "__dict__") (418:Nat)), (Value.ref (169:Nat)), (Value.builtin "function.__dict__"), (Value.builtin "function.__dict__#set")]) #[])
noncomputable def o217 (P : Params) : Obj := (Obj.mk (Value.type "getset_descriptor") (none : Option Nat) (Data.fields #[(Value.str (Str.ofString "__weakref__") (420:Nat)), (Value.ref (169:Nat)), (Value.builtin "ExceptionGroup.__weakref__"), Value.none]) #[])
noncomputable def o218 (P : Params) : Obj := (Obj.mk (Value.type "super") (none : Option Nat) (Data.fields #[(Value.ref (169:Nat)), (Value.ref (169:Nat)), (Value.ref (169:Nat))]) #[])
noncomputable def o219 (P : Params) : Obj := (Obj.mk (Value.type "builtin_function_or_method") (none : Option Nat) (Data.fields #[(Value.builtin "object.__init_subclass__"), (Value.ref (169:Nat))]) #[])
noncomputable def o220 (P : Params) : Obj := (Obj.mk (Value.type "dict") (none : Option Nat) (Data.dict #[(DictEntry.mk (PyData.keyHash P (Str.ofString "__name__")) (Value.str (Str.ofString "__name__") (165:Nat)) (Value.str (Str.ofString "law_mr0297_01") (425:Nat))), (DictEntry.mk (PyData.keyHash P (Str.ofString "__doc__")) (Value.str (Str.ofString "__doc__") (166:Nat)) Value.none), (DictEntry.mk (PyData.keyHash P (Str.ofString "__package__")) (Value.str (Str.ofString "__package__") (167:Nat)) Value.none), (DictEntry.mk (PyData.keyHash P (Str.ofString "__loader__")) (Value.str (Str.ofString "__loader__") (168:Nat)) (Value.builtin "__main__.__loader__#opaque")), (DictEntry.mk (PyData.keyHash P (Str.ofString "__spec__")) (Value.str (Str.ofString "__spec__") (169:Nat)) Value.none), (DictEntry.mk (PyData.keyHash P (Str.ofString "__annotations__")) (Value.str (Str.ofString "__annotations__") (170:Nat)) (Value.ref (6:Nat))), (DictEntry.mk (PyData.keyHash P (Str.ofString "__builtins__")) (Value.str (Str.ofString "__builtins__") (171:Nat)) (Value.ref (4:Nat))), (DictEntry.mk (PyData.keyHash P (Str.ofString "__file__")) (Value.str (Str.ofString "__file__") (173:Nat)) (Value.str (Str.ofString "/claim/cut.py") (172:Nat))), (DictEntry.mk (PyData.keyHash P (Str.ofString "__cached__")) (Value.str (Str.ofString "__cached__") (174:Nat)) Value.none), (DictEntry.mk (PyData.keyHash P (Str.ofString "_wall")) (Value.str (Str.ofString "_wall") (193:Nat)) (Value.ref (21:Nat))), (DictEntry.mk (PyData.keyHash P (Str.ofString "Error")) (Value.str (Str.ofString "Error") (215:Nat)) (Value.ref (31:Nat))), (DictEntry.mk (PyData.keyHash P (Str.ofString "error_reply")) (Value.str (Str.ofString "error_reply") (231:Nat)) (Value.ref (44:Nat))), (DictEntry.mk (PyData.keyHash P (Str.ofString "parse257")) (Value.str (Str.ofString "parse257") (242:Nat)) (Value.ref (53:Nat))), (DictEntry.mk (PyData.keyHash P (Str.ofString "_NODE_OUT")) (Value.str (Str.ofString "_NODE_OUT") (247:Nat)) (Value.int (-(1:Int)) (246:Nat))), (DictEntry.mk (PyData.keyHash P (Str.ofString "_NODE_DONE")) (Value.str (Str.ofString "_NODE_DONE") (250:Nat)) (Value.int (-(2:Int)) (249:Nat))), (DictEntry.mk (PyData.keyHash P (Str.ofString "_NodeInfo")) (Value.str (Str.ofString "_NodeInfo") (287:Nat)) (Value.ref (72:Nat))), (DictEntry.mk (PyData.keyHash P (Str.ofString "CycleError")) (Value.str (Str.ofString "CycleError") (305:Nat)) (Value.ref (87:Nat))), (DictEntry.mk (PyData.keyHash P (Str.ofString "TopologicalSorter")) (Value.str (Str.ofString "TopologicalSorter") (424:Nat)) (Value.ref (169:Nat))), (DictEntry.mk (PyData.keyHash P (Str.ofString "_law_texts")) (Value.str (Str.ofString "_law_texts") (438:Nat)) (Value.ref (180:Nat))), (DictEntry.mk (PyData.keyHash P (Str.ofString "_law_read")) (Value.str (Str.ofString "_law_read") (445:Nat)) (Value.ref (187:Nat))), (DictEntry.mk (PyData.keyHash P (Str.ofString "_law_closed")) (Value.str (Str.ofString "_law_closed") (456:Nat)) (Value.ref (194:Nat))), (DictEntry.mk (PyData.keyHash P (Str.ofString "_law_by")) (Value.str (Str.ofString "_law_by") (462:Nat)) (Value.ref (199:Nat))), (DictEntry.mk (PyData.keyHash P (Str.ofString "_law_times")) (Value.str (Str.ofString "_law_times") (472:Nat)) (Value.ref (206:Nat))), (DictEntry.mk (PyData.keyHash P (Str.ofString "_law_rows")) (Value.str (Str.ofString "_law_rows") (478:Nat)) (Value.ref (211:Nat))), (DictEntry.mk (PyData.keyHash P (Str.ofString "_law_ask")) (Value.str (Str.ofString "_law_ask") (486:Nat)) (Value.ref (218:Nat))), (DictEntry.mk (PyData.keyHash P (Str.ofString "_law_rounds")) (Value.str (Str.ofString "_law_rounds") (495:Nat)) (Value.ref (225:Nat))), (DictEntry.mk (PyData.keyHash P (Str.ofString "law")) (Value.str (Str.ofString "law") (501:Nat)) (Value.ref (230:Nat)))] (27:Nat)) #[])
noncomputable def o221 (P : Params) : Obj := (Obj.mk Value.none (none : Option Nat) (Data.fields #[(Value.int (1:Int) (0:Nat)), (Value.int (0:Int) (0:Nat)), (Value.ref (20:Nat)), (Value.int (5:Int) (0:Nat)), (Value.int (0:Int) (0:Nat)), (Value.ref (27:Nat)), (Value.int (7:Int) (0:Nat)), (Value.int (0:Int) (0:Nat)), (Value.ref (40:Nat)), (Value.int (9:Int) (0:Nat)), (Value.int (0:Int) (0:Nat)), (Value.ref (52:Nat)), (Value.int (29:Int) (0:Nat)), (Value.int (0:Int) (0:Nat)), (Value.ref (59:Nat)), (Value.int (36:Int) (0:Nat)), (Value.int (0:Int) (0:Nat)), (Value.ref (83:Nat)), (Value.int (38:Int) (0:Nat)), (Value.int (0:Int) (0:Nat)), (Value.ref (96:Nat)), (Value.int (145:Int) (0:Nat)), (Value.int (0:Int) (0:Nat)), (Value.ref (179:Nat)), (Value.int (156:Int) (0:Nat)), (Value.int (0:Int) (0:Nat)), (Value.ref (186:Nat)), (Value.int (162:Int) (0:Nat)), (Value.int (0:Int) (0:Nat)), (Value.ref (193:Nat)), (Value.int (172:Int) (0:Nat)), (Value.int (0:Int) (0:Nat)), (Value.ref (198:Nat)), (Value.int (177:Int) (0:Nat)), (Value.int (0:Int) (0:Nat)), (Value.ref (205:Nat)), (Value.int (182:Int) (0:Nat)), (Value.int (0:Int) (0:Nat)), (Value.ref (210:Nat)), (Value.int (188:Int) (0:Nat)), (Value.int (0:Int) (0:Nat)), (Value.ref (217:Nat)), (Value.int (193:Int) (0:Nat)), (Value.int (0:Int) (0:Nat)), (Value.ref (224:Nat)), (Value.int (206:Int) (0:Nat)), (Value.int (0:Int) (0:Nat)), (Value.ref (229:Nat))]) #[])
noncomputable def o222 (P : Params) : Obj := (Obj.mk (Value.type "tuple") (none : Option Nat) (Data.seq #[] (0:Nat)) #[])
noncomputable def o223 (P : Params) : Obj := (Obj.mk Value.none (none : Option Nat) (Data.fields #[]) #[])
noncomputable def o224 (P : Params) : Obj := (Obj.mk (Value.type "tuple") (none : Option Nat) (Data.seq #[(Value.str (Str.ofString "numbers") (430:Nat)), (Value.str (Str.ofString "texts") (431:Nat)), (Value.str (Str.ofString "x") (432:Nat)), (Value.str (Str.ofString "name") (433:Nat)), (Value.str (Str.ofString "twice") (434:Nat)), (Value.str (Str.ofString "ways") (435:Nat))] (0:Nat)) #[])
noncomputable def o225 (P : Params) : Obj := (Obj.mk (Value.type "tuple") (none : Option Nat) (Data.seq #[] (0:Nat)) #[])
noncomputable def o226 (P : Params) : Obj := letI a : Arguments := _; letI b : List Stmt := _; letI sc : Scope := _; haveI e : pickD 12 = some (a, b, sc) := rfl; (Obj.mk Value.none (none : Option Nat) (Data.func (FuncData.mk (Str.ofString "_law_texts") (Str.ofString "_law_texts") a (FuncBody.stmts b) sc (0:Nat) ([] : List (Str × Nat)) Value.none Value.none Value.none Value.none (none : Option Nat) Value.none Value.none (0:Nat))) #[])
noncomputable def o227 (P : Params) : Obj := (Obj.mk (Value.type "code") (none : Option Nat) (Data.fields #[(Value.str (Str.ofString "_law_texts") (427:Nat)), (Value.str (Str.ofString "_law_texts") (428:Nat)), (Value.str (Str.ofString "/claim/cut.py") (429:Nat)), (Value.int (145:Int) (0:Nat)), (Value.int (1:Int) (0:Nat)), (Value.int (0:Int) (0:Nat)), (Value.int (0:Int) (0:Nat)), (Value.int (3:Int) (0:Nat)), (Value.ref (174:Nat)), (Value.bool true), (Value.int (181:Int) (0:Nat)), (Value.ref (175:Nat)), Value.none, (Value.ref (176:Nat)), (Value.ref (177:Nat)), (Value.ref (178:Nat)), (Value.int (436:Int) (0:Nat)), (Value.int (145:Int) (0:Nat)), (Value.str (Str.ofString "/claim/cut.py") (437:Nat))]) #[])
noncomputable def o228 (P : Params) : Obj := letI a : Arguments := _; letI b : List Stmt := _; letI sc : Scope := _; haveI e : pickD 12 = some (a, b, sc) := rfl; (Obj.mk (Value.type "function") (none : Option Nat) (Data.func (FuncData.mk (Str.ofString "_law_texts") (Str.ofString "_law_texts") a (FuncBody.stmts b) sc (3:Nat) ([] : List (Str × Nat)) Value.none Value.none Value.none (Value.str (Str.ofString "law_mr0297_01") (425:Nat)) (none : Option Nat) (Value.ref (179:Nat)) Value.none (0:Nat))) #[])
noncomputable def o229 (P : Params) : Obj := (Obj.mk (Value.type "tuple") (none : Option Nat) (Data.seq #[] (0:Nat)) #[])
noncomputable def o230 (P : Params) : Obj := (Obj.mk Value.none (none : Option Nat) (Data.fields #[]) #[])
noncomputable def o231 (P : Params) : Obj := (Obj.mk (Value.type "tuple") (none : Option Nat) (Data.seq #[(Value.str (Str.ofString "text") (442:Nat))] (0:Nat)) #[])
noncomputable def o232 (P : Params) : Obj := (Obj.mk (Value.type "tuple") (none : Option Nat) (Data.seq #[] (0:Nat)) #[])
noncomputable def o233 (P : Params) : Obj := letI a : Arguments := _; letI b : List Stmt := _; letI sc : Scope := _; haveI e : pickD 13 = some (a, b, sc) := rfl; (Obj.mk Value.none (none : Option Nat) (Data.func (FuncData.mk (Str.ofString "_law_read") (Str.ofString "_law_read") a (FuncBody.stmts b) sc (0:Nat) ([] : List (Str × Nat)) Value.none Value.none Value.none Value.none (none : Option Nat) Value.none Value.none (0:Nat))) #[])
noncomputable def o234 (P : Params) : Obj := (Obj.mk (Value.type "code") (none : Option Nat) (Data.fields #[(Value.str (Str.ofString "_law_read") (439:Nat)), (Value.str (Str.ofString "_law_read") (440:Nat)), (Value.str (Str.ofString "/claim/cut.py") (441:Nat)), (Value.int (156:Int) (0:Nat)), (Value.int (1:Int) (0:Nat)), (Value.int (0:Int) (0:Nat)), (Value.int (0:Int) (0:Nat)), (Value.int (3:Int) (0:Nat)), (Value.ref (181:Nat)), (Value.bool true), (Value.int (181:Int) (0:Nat)), (Value.ref (182:Nat)), Value.none, (Value.ref (183:Nat)), (Value.ref (184:Nat)), (Value.ref (185:Nat)), (Value.int (443:Int) (0:Nat)), (Value.int (156:Int) (0:Nat)), (Value.str (Str.ofString "/claim/cut.py") (444:Nat))]) #[])
noncomputable def o235 (P : Params) : Obj := letI a : Arguments := _; letI b : List Stmt := _; letI sc : Scope := _; haveI e : pickD 13 = some (a, b, sc) := rfl; (Obj.mk (Value.type "function") (none : Option Nat) (Data.func (FuncData.mk (Str.ofString "_law_read") (Str.ofString "_law_read") a (FuncBody.stmts b) sc (3:Nat) ([] : List (Str × Nat)) Value.none Value.none Value.none (Value.str (Str.ofString "law_mr0297_01") (425:Nat)) (none : Option Nat) (Value.ref (186:Nat)) Value.none (0:Nat))) #[])
noncomputable def o236 (P : Params) : Obj := (Obj.mk (Value.type "tuple") (none : Option Nat) (Data.seq #[] (0:Nat)) #[])
noncomputable def o237 (P : Params) : Obj := (Obj.mk Value.none (none : Option Nat) (Data.fields #[]) #[])
noncomputable def o238 (P : Params) : Obj := (Obj.mk (Value.type "tuple") (none : Option Nat) (Data.seq #[(Value.str (Str.ofString "texts") (449:Nat)), (Value.str (Str.ofString "pairs") (450:Nat)), (Value.str (Str.ofString "seen") (451:Nat)), (Value.str (Str.ofString "start") (452:Nat)), (Value.str (Str.ofString "text") (453:Nat))] (0:Nat)) #[])
noncomputable def o239 (P : Params) : Obj := (Obj.mk (Value.type "tuple") (none : Option Nat) (Data.seq #[] (0:Nat)) #[])
noncomputable def o240 (P : Params) : Obj := letI a : Arguments := _; letI b : List Stmt := _; letI sc : Scope := _; haveI e : pickD 14 = some (a, b, sc) := rfl; (Obj.mk Value.none (none : Option Nat) (Data.func (FuncData.mk (Str.ofString "_law_closed") (Str.ofString "_law_closed") a (FuncBody.stmts b) sc (0:Nat) ([] : List (Str × Nat)) Value.none Value.none Value.none Value.none (none : Option Nat) Value.none Value.none (0:Nat))) #[])
noncomputable def o241 (P : Params) : Obj := (Obj.mk (Value.type "code") (none : Option Nat) (Data.fields #[(Value.str (Str.ofString "_law_closed") (446:Nat)), (Value.str (Str.ofString "_law_closed") (447:Nat)), (Value.str (Str.ofString "/claim/cut.py") (448:Nat)), (Value.int (162:Int) (0:Nat)), (Value.int (1:Int) (0:Nat)), (Value.int (0:Int) (0:Nat)), (Value.int (0:Int) (0:Nat)), (Value.int (3:Int) (0:Nat)), (Value.ref (188:Nat)), (Value.bool true), (Value.int (181:Int) (0:Nat)), (Value.ref (189:Nat)), Value.none, (Value.ref (190:Nat)), (Value.ref (191:Nat)), (Value.ref (192:Nat)), (Value.int (454:Int) (0:Nat)), (Value.int (162:Int) (0:Nat)), (Value.str (Str.ofString "/claim/cut.py") (455:Nat))]) #[])
noncomputable def o242 (P : Params) : Obj := letI a : Arguments := _; letI b : List Stmt := _; letI sc : Scope := _; haveI e : pickD 14 = some (a, b, sc) := rfl; (Obj.mk (Value.type "function") (none : Option Nat) (Data.func (FuncData.mk (Str.ofString "_law_closed") (Str.ofString "_law_closed") a (FuncBody.stmts b) sc (3:Nat) ([] : List (Str × Nat)) Value.none Value.none Value.none (Value.str (Str.ofString "law_mr0297_01") (425:Nat)) (none : Option Nat) (Value.ref (193:Nat)) Value.none (0:Nat))) #[])
noncomputable def o243 (P : Params) : Obj := (Obj.mk (Value.type "tuple") (none : Option Nat) (Data.seq #[] (0:Nat)) #[])
noncomputable def o244 (P : Params) : Obj := (Obj.mk Value.none (none : Option Nat) (Data.fields #[]) #[])
noncomputable def o245 (P : Params) : Obj := letI a : Arguments := _; letI b : List Stmt := _; letI sc : Scope := _; haveI e : pickD 15 = some (a, b, sc) := rfl; (Obj.mk Value.none (none : Option Nat) (Data.func (FuncData.mk (Str.ofString "_law_by") (Str.ofString "_law_by") a (FuncBody.stmts b) sc (0:Nat) ([] : List (Str × Nat)) Value.none Value.none Value.none Value.none (none : Option Nat) Value.none Value.none (0:Nat))) #[])
noncomputable def o246 (P : Params) : Obj := (Obj.mk (Value.type "code") (none : Option Nat) (Data.fields #[(Value.str (Str.ofString "_law_by") (457:Nat)), (Value.str (Str.ofString "_law_by") (458:Nat)), (Value.str (Str.ofString "/claim/cut.py") (459:Nat)), (Value.int (172:Int) (0:Nat)), (Value.int (1:Int) (0:Nat)), (Value.int (0:Int) (0:Nat)), (Value.int (0:Int) (0:Nat)), (Value.int (3:Int) (0:Nat)), (Value.ref (195:Nat)), (Value.bool true), (Value.int (181:Int) (0:Nat)), (Value.ref (196:Nat)), Value.none, Value.none, Value.none, (Value.ref (197:Nat)), (Value.int (460:Int) (0:Nat)), (Value.int (172:Int) (0:Nat)), (Value.str (Str.ofString "/claim/cut.py") (461:Nat))]) #[])
noncomputable def o247 (P : Params) : Obj := letI a : Arguments := _; letI b : List Stmt := _; letI sc : Scope := _; haveI e : pickD 15 = some (a, b, sc) := rfl; (Obj.mk (Value.type "function") (none : Option Nat) (Data.func (FuncData.mk (Str.ofString "_law_by") (Str.ofString "_law_by") a (FuncBody.stmts b) sc (3:Nat) ([] : List (Str × Nat)) Value.none Value.none Value.none (Value.str (Str.ofString "law_mr0297_01") (425:Nat)) (none : Option Nat) (Value.ref (198:Nat)) Value.none (0:Nat))) #[])
noncomputable def o248 (P : Params) : Obj := (Obj.mk (Value.type "tuple") (none : Option Nat) (Data.seq #[] (0:Nat)) #[])
noncomputable def o249 (P : Params) : Obj := (Obj.mk Value.none (none : Option Nat) (Data.fields #[]) #[])
noncomputable def o250 (P : Params) : Obj := (Obj.mk (Value.type "tuple") (none : Option Nat) (Data.seq #[(Value.str (Str.ofString "pairs") (466:Nat)), (Value.str (Str.ofString "times") (467:Nat)), (Value.str (Str.ofString "text") (468:Nat)), (Value.str (Str.ofString "due") (469:Nat))] (0:Nat)) #[])
noncomputable def o251 (P : Params) : Obj := (Obj.mk (Value.type "tuple") (none : Option Nat) (Data.seq #[] (0:Nat)) #[])
noncomputable def o252 (P : Params) : Obj := letI a : Arguments := _; letI b : List Stmt := _; letI sc : Scope := _; haveI e : pickD 16 = some (a, b, sc) := rfl; (Obj.mk Value.none (none : Option Nat) (Data.func (FuncData.mk (Str.ofString "_law_times") (Str.ofString "_law_times") a (FuncBody.stmts b) sc (0:Nat) ([] : List (Str × Nat)) Value.none Value.none Value.none Value.none (none : Option Nat) Value.none Value.none (0:Nat))) #[])
noncomputable def o253 (P : Params) : Obj := (Obj.mk (Value.type "code") (none : Option Nat) (Data.fields #[(Value.str (Str.ofString "_law_times") (463:Nat)), (Value.str (Str.ofString "_law_times") (464:Nat)), (Value.str (Str.ofString "/claim/cut.py") (465:Nat)), (Value.int (177:Int) (0:Nat)), (Value.int (1:Int) (0:Nat)), (Value.int (0:Int) (0:Nat)), (Value.int (0:Int) (0:Nat)), (Value.int (3:Int) (0:Nat)), (Value.ref (200:Nat)), (Value.bool true), (Value.int (181:Int) (0:Nat)), (Value.ref (201:Nat)), Value.none, (Value.ref (202:Nat)), (Value.ref (203:Nat)), (Value.ref (204:Nat)), (Value.int (470:Int) (0:Nat)), (Value.int (177:Int) (0:Nat)), (Value.str (Str.ofString "/claim/cut.py") (471:Nat))]) #[])
noncomputable def o254 (P : Params) : Obj := letI a : Arguments := _; letI b : List Stmt := _; letI sc : Scope := _; haveI e : pickD 16 = some (a, b, sc) := rfl; (Obj.mk (Value.type "function") (none : Option Nat) (Data.func (FuncData.mk (Str.ofString "_law_times") (Str.ofString "_law_times") a (FuncBody.stmts b) sc (3:Nat) ([] : List (Str × Nat)) Value.none Value.none Value.none (Value.str (Str.ofString "law_mr0297_01") (425:Nat)) (none : Option Nat) (Value.ref (205:Nat)) Value.none (0:Nat))) #[])
noncomputable def o255 (P : Params) : Obj := (Obj.mk (Value.type "tuple") (none : Option Nat) (Data.seq #[] (0:Nat)) #[])
noncomputable def o256 (P : Params) : Obj := (Obj.mk Value.none (none : Option Nat) (Data.fields #[]) #[])
noncomputable def o257 (P : Params) : Obj := letI a : Arguments := _; letI b : List Stmt := _; letI sc : Scope := _; haveI e : pickD 17 = some (a, b, sc) := rfl; (Obj.mk Value.none (none : Option Nat) (Data.func (FuncData.mk (Str.ofString "_law_rows") (Str.ofString "_law_rows") a (FuncBody.stmts b) sc (0:Nat) ([] : List (Str × Nat)) Value.none Value.none Value.none Value.none (none : Option Nat) Value.none Value.none (0:Nat))) #[])
noncomputable def o258 (P : Params) : Obj := (Obj.mk (Value.type "code") (none : Option Nat) (Data.fields #[(Value.str (Str.ofString "_law_rows") (473:Nat)), (Value.str (Str.ofString "_law_rows") (474:Nat)), (Value.str (Str.ofString "/claim/cut.py") (475:Nat)), (Value.int (182:Int) (0:Nat)), (Value.int (1:Int) (0:Nat)), (Value.int (0:Int) (0:Nat)), (Value.int (0:Int) (0:Nat)), (Value.int (3:Int) (0:Nat)), (Value.ref (207:Nat)), (Value.bool true), (Value.int (181:Int) (0:Nat)), (Value.ref (208:Nat)), Value.none, Value.none, Value.none, (Value.ref (209:Nat)), (Value.int (476:Int) (0:Nat)), (Value.int (182:Int) (0:Nat)), (Value.str (Str.ofString "/claim/cut.py") (477:Nat))]) #[])
noncomputable def o259 (P : Params) : Obj := letI a : Arguments := _; letI b : List Stmt := _; letI sc : Scope := _; haveI e : pickD 17 = some (a, b, sc) := rfl; (Obj.mk (Value.type "function") (none : Option Nat) (Data.func (FuncData.mk (Str.ofString "_law_rows") (Str.ofString "_law_rows") a (FuncBody.stmts b) sc (3:Nat) ([] : List (Str × Nat)) Value.none Value.none Value.none (Value.str (Str.ofString "law_mr0297_01") (425:Nat)) (none : Option Nat) (Value.ref (210:Nat)) Value.none (0:Nat))) #[])
noncomputable def o260 (P : Params) : Obj := (Obj.mk (Value.type "tuple") (none : Option Nat) (Data.seq #[] (0:Nat)) #[])
noncomputable def o261 (P : Params) : Obj := (Obj.mk Value.none (none : Option Nat) (Data.fields #[]) #[])
noncomputable def o262 (P : Params) : Obj := (Obj.mk (Value.type "tuple") (none : Option Nat) (Data.seq #[(Value.str (Str.ofString "text") (482:Nat)), (Value.str (Str.ofString "problem") (483:Nat))] (0:Nat)) #[])
noncomputable def o263 (P : Params) : Obj := (Obj.mk (Value.type "tuple") (none : Option Nat) (Data.seq #[] (0:Nat)) #[])
noncomputable def o264 (P : Params) : Obj := letI a : Arguments := _; letI b : List Stmt := _; letI sc : Scope := _; haveI e : pickD 18 = some (a, b, sc) := rfl; (Obj.mk Value.none (none : Option Nat) (Data.func (FuncData.mk (Str.ofString "_law_ask") (Str.ofString "_law_ask") a (FuncBody.stmts b) sc (0:Nat) ([] : List (Str × Nat)) Value.none Value.none Value.none Value.none (none : Option Nat) Value.none Value.none (0:Nat))) #[])
noncomputable def o265 (P : Params) : Obj := (Obj.mk (Value.type "code") (none : Option Nat) (Data.fields #[(Value.str (Str.ofString "_law_ask") (479:Nat)), (Value.str (Str.ofString "_law_ask") (480:Nat)), (Value.str (Str.ofString "/claim/cut.py") (481:Nat)), (Value.int (188:Int) (0:Nat)), (Value.int (1:Int) (0:Nat)), (Value.int (0:Int) (0:Nat)), (Value.int (0:Int) (0:Nat)), (Value.int (3:Int) (0:Nat)), (Value.ref (212:Nat)), (Value.bool true), (Value.int (181:Int) (0:Nat)), (Value.ref (213:Nat)), Value.none, (Value.ref (214:Nat)), (Value.ref (215:Nat)), (Value.ref (216:Nat)), (Value.int (484:Int) (0:Nat)), (Value.int (188:Int) (0:Nat)), (Value.str (Str.ofString "/claim/cut.py") (485:Nat))]) #[])
noncomputable def o266 (P : Params) : Obj := letI a : Arguments := _; letI b : List Stmt := _; letI sc : Scope := _; haveI e : pickD 18 = some (a, b, sc) := rfl; (Obj.mk (Value.type "function") (none : Option Nat) (Data.func (FuncData.mk (Str.ofString "_law_ask") (Str.ofString "_law_ask") a (FuncBody.stmts b) sc (3:Nat) ([] : List (Str × Nat)) Value.none Value.none Value.none (Value.str (Str.ofString "law_mr0297_01") (425:Nat)) (none : Option Nat) (Value.ref (217:Nat)) Value.none (0:Nat))) #[])
noncomputable def o267 (P : Params) : Obj := (Obj.mk (Value.type "tuple") (none : Option Nat) (Data.seq #[] (0:Nat)) #[])
noncomputable def o268 (P : Params) : Obj := (Obj.mk Value.none (none : Option Nat) (Data.fields #[]) #[])
noncomputable def o269 (P : Params) : Obj := (Obj.mk (Value.type "tuple") (none : Option Nat) (Data.seq #[(Value.str (Str.ofString "sorter") (490:Nat)), (Value.str (Str.ofString "rounds") (491:Nat)), (Value.str (Str.ofString "group") (492:Nat))] (0:Nat)) #[])
noncomputable def o270 (P : Params) : Obj := (Obj.mk (Value.type "tuple") (none : Option Nat) (Data.seq #[] (0:Nat)) #[])
noncomputable def o271 (P : Params) : Obj := letI a : Arguments := _; letI b : List Stmt := _; letI sc : Scope := _; haveI e : pickD 19 = some (a, b, sc) := rfl; (Obj.mk Value.none (none : Option Nat) (Data.func (FuncData.mk (Str.ofString "_law_rounds") (Str.ofString "_law_rounds") a (FuncBody.stmts b) sc (0:Nat) ([] : List (Str × Nat)) Value.none Value.none Value.none Value.none (none : Option Nat) Value.none Value.none (0:Nat))) #[])
noncomputable def o272 (P : Params) : Obj := (Obj.mk (Value.type "code") (none : Option Nat) (Data.fields #[(Value.str (Str.ofString "_law_rounds") (487:Nat)), (Value.str (Str.ofString "_law_rounds") (488:Nat)), (Value.str (Str.ofString "/claim/cut.py") (489:Nat)), (Value.int (193:Int) (0:Nat)), (Value.int (1:Int) (0:Nat)), (Value.int (0:Int) (0:Nat)), (Value.int (0:Int) (0:Nat)), (Value.int (3:Int) (0:Nat)), (Value.ref (219:Nat)), (Value.bool true), (Value.int (181:Int) (0:Nat)), (Value.ref (220:Nat)), Value.none, (Value.ref (221:Nat)), (Value.ref (222:Nat)), (Value.ref (223:Nat)), (Value.int (493:Int) (0:Nat)), (Value.int (193:Int) (0:Nat)), (Value.str (Str.ofString "/claim/cut.py") (494:Nat))]) #[])
noncomputable def o273 (P : Params) : Obj := letI a : Arguments := _; letI b : List Stmt := _; letI sc : Scope := _; haveI e : pickD 19 = some (a, b, sc) := rfl; (Obj.mk (Value.type "function") (none : Option Nat) (Data.func (FuncData.mk (Str.ofString "_law_rounds") (Str.ofString "_law_rounds") a (FuncBody.stmts b) sc (3:Nat) ([] : List (Str × Nat)) Value.none Value.none Value.none (Value.str (Str.ofString "law_mr0297_01") (425:Nat)) (none : Option Nat) (Value.ref (224:Nat)) Value.none (0:Nat))) #[])
noncomputable def o274 (P : Params) : Obj := (Obj.mk (Value.type "tuple") (none : Option Nat) (Data.seq #[] (0:Nat)) #[])
noncomputable def o275 (P : Params) : Obj := (Obj.mk Value.none (none : Option Nat) (Data.fields #[]) #[])
noncomputable def o276 (P : Params) : Obj := letI a : Arguments := _; letI b : List Stmt := _; letI sc : Scope := _; haveI e : pickD 20 = some (a, b, sc) := rfl; (Obj.mk Value.none (none : Option Nat) (Data.func (FuncData.mk (Str.ofString "law") (Str.ofString "law") a (FuncBody.stmts b) sc (0:Nat) ([] : List (Str × Nat)) Value.none Value.none Value.none Value.none (none : Option Nat) Value.none Value.none (0:Nat))) #[])
noncomputable def o277 (P : Params) : Obj := (Obj.mk (Value.type "code") (none : Option Nat) (Data.fields #[(Value.str (Str.ofString "law") (496:Nat)), (Value.str (Str.ofString "law") (497:Nat)), (Value.str (Str.ofString "/claim/cut.py") (498:Nat)), (Value.int (206:Int) (0:Nat)), (Value.int (1:Int) (0:Nat)), (Value.int (0:Int) (0:Nat)), (Value.int (0:Int) (0:Nat)), (Value.int (3:Int) (0:Nat)), (Value.ref (226:Nat)), (Value.bool true), (Value.int (181:Int) (0:Nat)), (Value.ref (227:Nat)), Value.none, Value.none, Value.none, (Value.ref (228:Nat)), (Value.int (499:Int) (0:Nat)), (Value.int (206:Int) (0:Nat)), (Value.str (Str.ofString "/claim/cut.py") (500:Nat))]) #[])
noncomputable def o278 (P : Params) : Obj := letI a : Arguments := _; letI b : List Stmt := _; letI sc : Scope := _; haveI e : pickD 20 = some (a, b, sc) := rfl; (Obj.mk (Value.type "function") (none : Option Nat) (Data.func (FuncData.mk (Str.ofString "law") (Str.ofString "law") a (FuncBody.stmts b) sc (3:Nat) ([] : List (Str × Nat)) Value.none Value.none Value.none (Value.str (Str.ofString "law_mr0297_01") (425:Nat)) (none : Option Nat) (Value.ref (229:Nat)) Value.none (0:Nat))) #[])
noncomputable def heap46 (P : Params) : Heap := (Heap.mk (Array.mk [(boot_o_0 P), (boot_o_1 P), (boot_o_2 P), (boot_o_3 P), (boot_o_4 P), (boot_o_5 P), (boot_o_6 P), (boot_o_7 P), (boot_o_8 P), (boot_o_9 P), (boot_o_10 P), (o43 P), (o44 P), (o45 P), (o46 P)]) (Life.mk [] [] [] (0:Nat) [] [] false #[] [] (0:Nat) false false false (0:Int) [(2000:Int), (10:Int), (10:Int)] false (0:Nat) true [] [] (0:Nat) false))
noncomputable def tree47 (P : Params) : BT := (BT.node (boot_o_0 P) (BT.node (boot_o_1 P) (BT.node (boot_o_3 P) (BT.node (boot_o_7 P) BT.nil BT.nil) (BT.node (o43 P) BT.nil BT.nil)) (BT.node (boot_o_5 P) (BT.node (boot_o_9 P) BT.nil BT.nil) (BT.node (o45 P) BT.nil BT.nil))) (BT.node (boot_o_2 P) (BT.node (boot_o_4 P) (BT.node (boot_o_8 P) BT.nil BT.nil) (BT.node (o44 P) BT.nil BT.nil)) (BT.node (boot_o_6 P) (BT.node (boot_o_10 P) BT.nil BT.nil) (BT.node (o46 P) BT.nil BT.nil))))
noncomputable def tree93 (P : Params) : BT := (BT.node (boot_o_0 P) (BT.node (boot_o_1 P) (BT.node (o72 P) (BT.node (boot_o_7 P) (BT.node (o52 P) (BT.node (o74 P) BT.nil BT.nil) (BT.node (o87 P) BT.nil BT.nil)) (BT.node (o60 P) (BT.node (o79 P) BT.nil BT.nil) BT.nil)) (BT.node (o43 P) (BT.node (o56 P) (BT.node (o75 P) BT.nil BT.nil) (BT.node (o91 P) BT.nil BT.nil)) (BT.node (o64 P) (BT.node (o83 P) BT.nil BT.nil) BT.nil))) (BT.node (boot_o_5 P) (BT.node (boot_o_9 P) (BT.node (o54 P) (BT.node (o70 P) BT.nil BT.nil) (BT.node (o89 P) BT.nil BT.nil)) (BT.node (o62 P) (BT.node (o81 P) BT.nil BT.nil) BT.nil)) (BT.node (o45 P) (BT.node (o58 P) (BT.node (o77 P) BT.nil BT.nil) (BT.node (o93 P) BT.nil BT.nil)) (BT.node (o66 P) (BT.node (o85 P) BT.nil BT.nil) BT.nil)))) (BT.node (o49 P) (BT.node (boot_o_4 P) (BT.node (boot_o_8 P) (BT.node (o53 P) (BT.node (o69 P) BT.nil BT.nil) (BT.node (o88 P) BT.nil BT.nil)) (BT.node (o61 P) (BT.node (o80 P) BT.nil BT.nil) BT.nil)) (BT.node (o73 P) (BT.node (o57 P) (BT.node (o76 P) BT.nil BT.nil) (BT.node (o92 P) BT.nil BT.nil)) (BT.node (o65 P) (BT.node (o84 P) BT.nil BT.nil) BT.nil))) (BT.node (boot_o_6 P) (BT.node (boot_o_10 P) (BT.node (o55 P) (BT.node (o71 P) BT.nil BT.nil) (BT.node (o90 P) BT.nil BT.nil)) (BT.node (o63 P) (BT.node (o82 P) BT.nil BT.nil) BT.nil)) (BT.node (o46 P) (BT.node (o59 P) (BT.node (o78 P) BT.nil BT.nil) BT.nil) (BT.node (o67 P) (BT.node (o86 P) BT.nil BT.nil) BT.nil)))))
noncomputable def tree134 (P : Params) : BT := (BT.node (boot_o_0 P) (BT.node (boot_o_1 P) (BT.node (o120 P) (BT.node (boot_o_7 P) (BT.node (o52 P) (BT.node (o74 P) (BT.node (o105 P) BT.nil BT.nil) BT.nil) (BT.node (o87 P) (BT.node (o123 P) BT.nil BT.nil) BT.nil)) (BT.node (o60 P) (BT.node (o79 P) (BT.node (o113 P) BT.nil BT.nil) BT.nil) (BT.node (o97 P) (BT.node (o131 P) BT.nil BT.nil) BT.nil))) (BT.node (o43 P) (BT.node (o56 P) (BT.node (o75 P) (BT.node (o109 P) BT.nil BT.nil) BT.nil) (BT.node (o91 P) (BT.node (o127 P) BT.nil BT.nil) BT.nil)) (BT.node (o64 P) (BT.node (o83 P) (BT.node (o117 P) BT.nil BT.nil) BT.nil) (BT.node (o101 P) BT.nil BT.nil)))) (BT.node (boot_o_5 P) (BT.node (boot_o_9 P) (BT.node (o54 P) (BT.node (o70 P) (BT.node (o107 P) BT.nil BT.nil) BT.nil) (BT.node (o89 P) (BT.node (o125 P) BT.nil BT.nil) BT.nil)) (BT.node (o62 P) (BT.node (o81 P) (BT.node (o115 P) BT.nil BT.nil) BT.nil) (BT.node (o99 P) (BT.node (o133 P) BT.nil BT.nil) BT.nil))) (BT.node (o45 P) (BT.node (o58 P) (BT.node (o77 P) (BT.node (o111 P) BT.nil BT.nil) BT.nil) (BT.node (o93 P) (BT.node (o129 P) BT.nil BT.nil) BT.nil)) (BT.node (o66 P) (BT.node (o85 P) (BT.node (o119 P) BT.nil BT.nil) BT.nil) (BT.node (o103 P) BT.nil BT.nil))))) (BT.node (o49 P) (BT.node (boot_o_4 P) (BT.node (boot_o_8 P) (BT.node (o53 P) (BT.node (o69 P) (BT.node (o106 P) BT.nil BT.nil) BT.nil) (BT.node (o88 P) (BT.node (o124 P) BT.nil BT.nil) BT.nil)) (BT.node (o61 P) (BT.node (o80 P) (BT.node (o114 P) BT.nil BT.nil) BT.nil) (BT.node (o98 P) (BT.node (o132 P) BT.nil BT.nil) BT.nil))) (BT.node (o121 P) (BT.node (o57 P) (BT.node (o76 P) (BT.node (o110 P) BT.nil BT.nil) BT.nil) (BT.node (o92 P) (BT.node (o128 P) BT.nil BT.nil) BT.nil)) (BT.node (o65 P) (BT.node (o84 P) (BT.node (o118 P) BT.nil BT.nil) BT.nil) (BT.node (o102 P) BT.nil BT.nil)))) (BT.node (boot_o_6 P) (BT.node (boot_o_10 P) (BT.node (o55 P) (BT.node (o71 P) (BT.node (o108 P) BT.nil BT.nil) BT.nil) (BT.node (o90 P) (BT.node (o126 P) BT.nil BT.nil) BT.nil)) (BT.node (o63 P) (BT.node (o82 P) (BT.node (o116 P) BT.nil BT.nil) BT.nil) (BT.node (o100 P) (BT.node (o134 P) BT.nil BT.nil) BT.nil))) (BT.node (o46 P) (BT.node (o59 P) (BT.node (o78 P) (BT.node (o112 P) BT.nil BT.nil) BT.nil) (BT.node (o96 P) (BT.node (o130 P) BT.nil BT.nil) BT.nil)) (BT.node (o67 P) (BT.node (o86 P) (BT.node (o122 P) BT.nil BT.nil) BT.nil) (BT.node (o104 P) BT.nil BT.nil))))))
noncomputable def tree219 (P : Params) : BT := (BT.node (boot_o_0 P) (BT.node (boot_o_1 P) (BT.node (o135 P) (BT.node (boot_o_7 P) (BT.node (o52 P) (BT.node (o74 P) (BT.node (o105 P) (BT.node (o173 P) BT.nil BT.nil) BT.nil) (BT.node (o141 P) (BT.node (o205 P) BT.nil BT.nil) BT.nil)) (BT.node (o87 P) (BT.node (o123 P) (BT.node (o189 P) BT.nil BT.nil) BT.nil) (BT.node (o157 P) BT.nil BT.nil))) (BT.node (o60 P) (BT.node (o79 P) (BT.node (o113 P) (BT.node (o181 P) BT.nil BT.nil) BT.nil) (BT.node (o149 P) (BT.node (o213 P) BT.nil BT.nil) BT.nil)) (BT.node (o97 P) (BT.node (o131 P) (BT.node (o197 P) BT.nil BT.nil) BT.nil) (BT.node (o165 P) BT.nil BT.nil)))) (BT.node (o43 P) (BT.node (o56 P) (BT.node (o75 P) (BT.node (o109 P) (BT.node (o177 P) BT.nil BT.nil) BT.nil) (BT.node (o145 P) (BT.node (o209 P) BT.nil BT.nil) BT.nil)) (BT.node (o91 P) (BT.node (o127 P) (BT.node (o193 P) BT.nil BT.nil) BT.nil) (BT.node (o161 P) BT.nil BT.nil))) (BT.node (o64 P) (BT.node (o83 P) (BT.node (o117 P) (BT.node (o185 P) BT.nil BT.nil) BT.nil) (BT.node (o153 P) (BT.node (o217 P) BT.nil BT.nil) BT.nil)) (BT.node (o101 P) (BT.node (o137 P) (BT.node (o201 P) BT.nil BT.nil) BT.nil) (BT.node (o169 P) BT.nil BT.nil))))) (BT.node (boot_o_5 P) (BT.node (boot_o_9 P) (BT.node (o54 P) (BT.node (o70 P) (BT.node (o107 P) (BT.node (o175 P) BT.nil BT.nil) BT.nil) (BT.node (o143 P) (BT.node (o207 P) BT.nil BT.nil) BT.nil)) (BT.node (o89 P) (BT.node (o125 P) (BT.node (o191 P) BT.nil BT.nil) BT.nil) (BT.node (o159 P) BT.nil BT.nil))) (BT.node (o62 P) (BT.node (o81 P) (BT.node (o115 P) (BT.node (o183 P) BT.nil BT.nil) BT.nil) (BT.node (o151 P) (BT.node (o215 P) BT.nil BT.nil) BT.nil)) (BT.node (o99 P) (BT.node (o133 P) (BT.node (o199 P) BT.nil BT.nil) BT.nil) (BT.node (o167 P) BT.nil BT.nil)))) (BT.node (o45 P) (BT.node (o58 P) (BT.node (o77 P) (BT.node (o111 P) (BT.node (o179 P) BT.nil BT.nil) BT.nil) (BT.node (o147 P) (BT.node (o211 P) BT.nil BT.nil) BT.nil)) (BT.node (o93 P) (BT.node (o129 P) (BT.node (o195 P) BT.nil BT.nil) BT.nil) (BT.node (o163 P) BT.nil BT.nil))) (BT.node (o66 P) (BT.node (o85 P) (BT.node (o119 P) (BT.node (o187 P) BT.nil BT.nil) BT.nil) (BT.node (o155 P) (BT.node (o219 P) BT.nil BT.nil) BT.nil)) (BT.node (o103 P) (BT.node (o139 P) (BT.node (o203 P) BT.nil BT.nil) BT.nil) (BT.node (o171 P) BT.nil BT.nil)))))) (BT.node (o49 P) (BT.node (boot_o_4 P) (BT.node (boot_o_8 P) (BT.node (o53 P) (BT.node (o69 P) (BT.node (o106 P) (BT.node (o174 P) BT.nil BT.nil) BT.nil) (BT.node (o142 P) (BT.node (o206 P) BT.nil BT.nil) BT.nil)) (BT.node (o88 P) (BT.node (o124 P) (BT.node (o190 P) BT.nil BT.nil) BT.nil) (BT.node (o158 P) BT.nil BT.nil))) (BT.node (o61 P) (BT.node (o80 P) (BT.node (o114 P) (BT.node (o182 P) BT.nil BT.nil) BT.nil) (BT.node (o150 P) (BT.node (o214 P) BT.nil BT.nil) BT.nil)) (BT.node (o98 P) (BT.node (o132 P) (BT.node (o198 P) BT.nil BT.nil) BT.nil) (BT.node (o166 P) BT.nil BT.nil)))) (BT.node (o136 P) (BT.node (o57 P) (BT.node (o76 P) (BT.node (o110 P) (BT.node (o178 P) BT.nil BT.nil) BT.nil) (BT.node (o146 P) (BT.node (o210 P) BT.nil BT.nil) BT.nil)) (BT.node (o92 P) (BT.node (o128 P) (BT.node (o194 P) BT.nil BT.nil) BT.nil) (BT.node (o162 P) BT.nil BT.nil))) (BT.node (o65 P) (BT.node (o84 P) (BT.node (o118 P) (BT.node (o186 P) BT.nil BT.nil) BT.nil) (BT.node (o154 P) (BT.node (o218 P) BT.nil BT.nil) BT.nil)) (BT.node (o102 P) (BT.node (o138 P) (BT.node (o202 P) BT.nil BT.nil) BT.nil) (BT.node (o170 P) BT.nil BT.nil))))) (BT.node (boot_o_6 P) (BT.node (boot_o_10 P) (BT.node (o55 P) (BT.node (o71 P) (BT.node (o108 P) (BT.node (o176 P) BT.nil BT.nil) BT.nil) (BT.node (o144 P) (BT.node (o208 P) BT.nil BT.nil) BT.nil)) (BT.node (o90 P) (BT.node (o126 P) (BT.node (o192 P) BT.nil BT.nil) BT.nil) (BT.node (o160 P) BT.nil BT.nil))) (BT.node (o63 P) (BT.node (o82 P) (BT.node (o116 P) (BT.node (o184 P) BT.nil BT.nil) BT.nil) (BT.node (o152 P) (BT.node (o216 P) BT.nil BT.nil) BT.nil)) (BT.node (o100 P) (BT.node (o134 P) (BT.node (o200 P) BT.nil BT.nil) BT.nil) (BT.node (o168 P) BT.nil BT.nil)))) (BT.node (o46 P) (BT.node (o59 P) (BT.node (o78 P) (BT.node (o112 P) (BT.node (o180 P) BT.nil BT.nil) BT.nil) (BT.node (o148 P) (BT.node (o212 P) BT.nil BT.nil) BT.nil)) (BT.node (o96 P) (BT.node (o130 P) (BT.node (o196 P) BT.nil BT.nil) BT.nil) (BT.node (o164 P) BT.nil BT.nil))) (BT.node (o67 P) (BT.node (o86 P) (BT.node (o122 P) (BT.node (o188 P) BT.nil BT.nil) BT.nil) (BT.node (o156 P) BT.nil BT.nil)) (BT.node (o104 P) (BT.node (o140 P) (BT.node (o204 P) BT.nil BT.nil) BT.nil) (BT.node (o172 P) BT.nil BT.nil)))))))
noncomputable def tree278 (P : Params) : BT := (BT.node (boot_o_0 P) (BT.node (boot_o_1 P) (BT.node (o220 P) (BT.node (boot_o_7 P) (BT.node (o52 P) (BT.node (o74 P) (BT.node (o105 P) (BT.node (o173 P) BT.nil BT.nil) (BT.node (o239 P) BT.nil BT.nil)) (BT.node (o141 P) (BT.node (o205 P) BT.nil BT.nil) (BT.node (o271 P) BT.nil BT.nil))) (BT.node (o87 P) (BT.node (o123 P) (BT.node (o189 P) BT.nil BT.nil) (BT.node (o255 P) BT.nil BT.nil)) (BT.node (o157 P) (BT.node (o223 P) BT.nil BT.nil) BT.nil))) (BT.node (o60 P) (BT.node (o79 P) (BT.node (o113 P) (BT.node (o181 P) BT.nil BT.nil) (BT.node (o247 P) BT.nil BT.nil)) (BT.node (o149 P) (BT.node (o213 P) BT.nil BT.nil) BT.nil)) (BT.node (o97 P) (BT.node (o131 P) (BT.node (o197 P) BT.nil BT.nil) (BT.node (o263 P) BT.nil BT.nil)) (BT.node (o165 P) (BT.node (o231 P) BT.nil BT.nil) BT.nil)))) (BT.node (o43 P) (BT.node (o56 P) (BT.node (o75 P) (BT.node (o109 P) (BT.node (o177 P) BT.nil BT.nil) (BT.node (o243 P) BT.nil BT.nil)) (BT.node (o145 P) (BT.node (o209 P) BT.nil BT.nil) (BT.node (o275 P) BT.nil BT.nil))) (BT.node (o91 P) (BT.node (o127 P) (BT.node (o193 P) BT.nil BT.nil) (BT.node (o259 P) BT.nil BT.nil)) (BT.node (o161 P) (BT.node (o227 P) BT.nil BT.nil) BT.nil))) (BT.node (o64 P) (BT.node (o83 P) (BT.node (o117 P) (BT.node (o185 P) BT.nil BT.nil) (BT.node (o251 P) BT.nil BT.nil)) (BT.node (o153 P) (BT.node (o217 P) BT.nil BT.nil) BT.nil)) (BT.node (o101 P) (BT.node (o137 P) (BT.node (o201 P) BT.nil BT.nil) (BT.node (o267 P) BT.nil BT.nil)) (BT.node (o169 P) (BT.node (o235 P) BT.nil BT.nil) BT.nil))))) (BT.node (boot_o_5 P) (BT.node (boot_o_9 P) (BT.node (o54 P) (BT.node (o70 P) (BT.node (o107 P) (BT.node (o175 P) BT.nil BT.nil) (BT.node (o241 P) BT.nil BT.nil)) (BT.node (o143 P) (BT.node (o207 P) BT.nil BT.nil) (BT.node (o273 P) BT.nil BT.nil))) (BT.node (o89 P) (BT.node (o125 P) (BT.node (o191 P) BT.nil BT.nil) (BT.node (o257 P) BT.nil BT.nil)) (BT.node (o159 P) (BT.node (o225 P) BT.nil BT.nil) BT.nil))) (BT.node (o62 P) (BT.node (o81 P) (BT.node (o115 P) (BT.node (o183 P) BT.nil BT.nil) (BT.node (o249 P) BT.nil BT.nil)) (BT.node (o151 P) (BT.node (o215 P) BT.nil BT.nil) BT.nil)) (BT.node (o99 P) (BT.node (o133 P) (BT.node (o199 P) BT.nil BT.nil) (BT.node (o265 P) BT.nil BT.nil)) (BT.node (o167 P) (BT.node (o233 P) BT.nil BT.nil) BT.nil)))) (BT.node (o45 P) (BT.node (o58 P) (BT.node (o77 P) (BT.node (o111 P) (BT.node (o179 P) BT.nil BT.nil) (BT.node (o245 P) BT.nil BT.nil)) (BT.node (o147 P) (BT.node (o211 P) BT.nil BT.nil) (BT.node (o277 P) BT.nil BT.nil))) (BT.node (o93 P) (BT.node (o129 P) (BT.node (o195 P) BT.nil BT.nil) (BT.node (o261 P) BT.nil BT.nil)) (BT.node (o163 P) (BT.node (o229 P) BT.nil BT.nil) BT.nil))) (BT.node (o66 P) (BT.node (o85 P) (BT.node (o119 P) (BT.node (o187 P) BT.nil BT.nil) (BT.node (o253 P) BT.nil BT.nil)) (BT.node (o155 P) (BT.node (o219 P) BT.nil BT.nil) BT.nil)) (BT.node (o103 P) (BT.node (o139 P) (BT.node (o203 P) BT.nil BT.nil) (BT.node (o269 P) BT.nil BT.nil)) (BT.node (o171 P) (BT.node (o237 P) BT.nil BT.nil) BT.nil)))))) (BT.node (o49 P) (BT.node (boot_o_4 P) (BT.node (boot_o_8 P) (BT.node (o53 P) (BT.node (o69 P) (BT.node (o106 P) (BT.node (o174 P) BT.nil BT.nil) (BT.node (o240 P) BT.nil BT.nil)) (BT.node (o142 P) (BT.node (o206 P) BT.nil BT.nil) (BT.node (o272 P) BT.nil BT.nil))) (BT.node (o88 P) (BT.node (o124 P) (BT.node (o190 P) BT.nil BT.nil) (BT.node (o256 P) BT.nil BT.nil)) (BT.node (o158 P) (BT.node (o224 P) BT.nil BT.nil) BT.nil))) (BT.node (o61 P) (BT.node (o80 P) (BT.node (o114 P) (BT.node (o182 P) BT.nil BT.nil) (BT.node (o248 P) BT.nil BT.nil)) (BT.node (o150 P) (BT.node (o214 P) BT.nil BT.nil) BT.nil)) (BT.node (o98 P) (BT.node (o132 P) (BT.node (o198 P) BT.nil BT.nil) (BT.node (o264 P) BT.nil BT.nil)) (BT.node (o166 P) (BT.node (o232 P) BT.nil BT.nil) BT.nil)))) (BT.node (o221 P) (BT.node (o57 P) (BT.node (o76 P) (BT.node (o110 P) (BT.node (o178 P) BT.nil BT.nil) (BT.node (o244 P) BT.nil BT.nil)) (BT.node (o146 P) (BT.node (o210 P) BT.nil BT.nil) (BT.node (o276 P) BT.nil BT.nil))) (BT.node (o92 P) (BT.node (o128 P) (BT.node (o194 P) BT.nil BT.nil) (BT.node (o260 P) BT.nil BT.nil)) (BT.node (o162 P) (BT.node (o228 P) BT.nil BT.nil) BT.nil))) (BT.node (o65 P) (BT.node (o84 P) (BT.node (o118 P) (BT.node (o186 P) BT.nil BT.nil) (BT.node (o252 P) BT.nil BT.nil)) (BT.node (o154 P) (BT.node (o218 P) BT.nil BT.nil) BT.nil)) (BT.node (o102 P) (BT.node (o138 P) (BT.node (o202 P) BT.nil BT.nil) (BT.node (o268 P) BT.nil BT.nil)) (BT.node (o170 P) (BT.node (o236 P) BT.nil BT.nil) BT.nil))))) (BT.node (boot_o_6 P) (BT.node (boot_o_10 P) (BT.node (o55 P) (BT.node (o71 P) (BT.node (o108 P) (BT.node (o176 P) BT.nil BT.nil) (BT.node (o242 P) BT.nil BT.nil)) (BT.node (o144 P) (BT.node (o208 P) BT.nil BT.nil) (BT.node (o274 P) BT.nil BT.nil))) (BT.node (o90 P) (BT.node (o126 P) (BT.node (o192 P) BT.nil BT.nil) (BT.node (o258 P) BT.nil BT.nil)) (BT.node (o160 P) (BT.node (o226 P) BT.nil BT.nil) BT.nil))) (BT.node (o63 P) (BT.node (o82 P) (BT.node (o116 P) (BT.node (o184 P) BT.nil BT.nil) (BT.node (o250 P) BT.nil BT.nil)) (BT.node (o152 P) (BT.node (o216 P) BT.nil BT.nil) BT.nil)) (BT.node (o100 P) (BT.node (o134 P) (BT.node (o200 P) BT.nil BT.nil) (BT.node (o266 P) BT.nil BT.nil)) (BT.node (o168 P) (BT.node (o234 P) BT.nil BT.nil) BT.nil)))) (BT.node (o46 P) (BT.node (o59 P) (BT.node (o78 P) (BT.node (o112 P) (BT.node (o180 P) BT.nil BT.nil) (BT.node (o246 P) BT.nil BT.nil)) (BT.node (o148 P) (BT.node (o212 P) BT.nil BT.nil) (BT.node (o278 P) BT.nil BT.nil))) (BT.node (o96 P) (BT.node (o130 P) (BT.node (o196 P) BT.nil BT.nil) (BT.node (o262 P) BT.nil BT.nil)) (BT.node (o164 P) (BT.node (o230 P) BT.nil BT.nil) BT.nil))) (BT.node (o67 P) (BT.node (o86 P) (BT.node (o122 P) (BT.node (o188 P) BT.nil BT.nil) (BT.node (o254 P) BT.nil BT.nil)) (BT.node (o156 P) (BT.node (o222 P) BT.nil BT.nil) BT.nil)) (BT.node (o104 P) (BT.node (o140 P) (BT.node (o204 P) BT.nil BT.nil) (BT.node (o270 P) BT.nil BT.nil)) (BT.node (o172 P) (BT.node (o238 P) BT.nil BT.nil) BT.nil)))))))
noncomputable def heap279 (P : Params) : Heap := (Heap.mk (Array.mk ((boot_o_0 P) :: (boot_o_1 P) :: (o49 P) :: (o220 P) :: (boot_o_4 P) :: (boot_o_5 P) :: (boot_o_6 P) :: (boot_o_7 P) :: (boot_o_8 P) :: (boot_o_9 P) :: (boot_o_10 P) :: (o43 P) :: (o221 P) :: (o45 P) :: (o46 P) :: (o52 P) :: (o53 P) :: (o54 P) :: (o55 P) :: (o56 P) :: (o57 P) :: (o58 P) :: (o59 P) :: (o60 P) :: (o61 P) :: (o62 P) :: (o63 P) :: (o64 P) :: (o65 P) :: (o66 P) :: (o67 P) :: (o74 P) :: (o69 P) :: (o70 P) :: (o71 P) :: (o75 P) :: (o76 P) :: (o77 P) :: (o78 P) :: (o79 P) :: (o80 P) :: (o81 P) :: (o82 P) :: (o83 P) :: (o84 P) :: (o85 P) :: (o86 P) :: (o87 P) :: (o88 P) :: (o89 P) :: (o90 P) :: (o91 P) :: (o92 P) :: (o93 P) :: (o96 P) :: (o97 P) :: (o98 P) :: (o99 P) :: (o100 P) :: (o101 P) :: (o102 P) :: (o103 P) :: (o104 P) :: (o105 P) :: (o106 P) :: (o107 P) :: (o108 P) :: (o109 P) :: (o110 P) :: (o111 P) :: (o112 P) :: (o113 P) :: (o114 P) :: (o115 P) :: (o116 P) :: (o117 P) :: (o118 P) :: (o119 P) :: (o122 P) :: (o123 P) :: (o124 P) :: (o125 P) :: (o126 P) :: (o127 P) :: (o128 P) :: (o129 P) :: (o130 P) :: (o131 P) :: (o132 P) :: (o133 P) :: (o134 P) :: (o137 P) :: (o138 P) :: (o139 P) :: (o140 P) :: (o141 P) :: (o142 P) :: (o143 P) :: (o144 P) :: (o145 P) :: (o146 P) :: (o147 P) :: (o148 P) :: (o149 P) :: (o150 P) :: (o151 P) :: (o152 P) :: (o153 P) :: (o154 P) :: (o155 P) :: (o156 P) :: (o157 P) :: (o158 P) :: (o159 P) :: (o160 P) :: (o161 P) :: (o162 P) :: (o163 P) :: (o164 P) :: (o165 P) :: (o166 P) :: (o167 P) :: (o168 P) :: (o169 P) :: (o170 P) :: (o171 P) :: (o172 P) :: (o173 P) :: (o174 P) :: (o175 P) :: (o176 P) :: (o177 P) :: (o178 P) :: (o179 P) :: (o180 P) :: (o181 P) :: (o182 P) :: (o183 P) :: (o184 P) :: (o185 P) :: (o186 P) :: (o187 P) :: (o188 P) :: (o189 P) :: (o190 P) :: (o191 P) :: (o192 P) :: (o193 P) :: (o194 P) :: (o195 P) :: (o196 P) :: (o197 P) :: (o198 P) :: (o199 P) :: (o200 P) :: (o201 P) :: (o202 P) :: (o203 P) :: (o204 P) :: (o205 P) :: (o206 P) :: (o207 P) :: (o208 P) :: (o209 P) :: (o210 P) :: (o211 P) :: (o212 P) :: (o213 P) :: (o214 P) :: (o215 P) :: (o216 P) :: (o217 P) :: (o218 P) :: (o219 P) :: (o222 P) :: (o223 P) :: (o224 P) :: (o225 P) :: (o226 P) :: (o227 P) :: (o228 P) :: (o229 P) :: (o230 P) :: (o231 P) :: (o232 P) :: (o233 P) :: (o234 P) :: (o235 P) :: (o236 P) :: (o237 P) :: (o238 P) :: (o239 P) :: (o240 P) :: (o241 P) :: (o242 P) :: (o243 P) :: (o244 P) :: (o245 P) :: (o246 P) :: (o247 P) :: (o248 P) :: (o249 P) :: (o250 P) :: (o251 P) :: (o252 P) :: (o253 P) :: (o254 P) :: (o255 P) :: (o256 P) :: (o257 P) :: (o258 P) :: (o259 P) :: (o260 P) :: (o261 P) :: (o262 P) :: (o263 P) :: (o264 P) :: (o265 P) :: (o266 P) :: (o267 P) :: (o268 P) :: (o269 P) :: (o270 P) :: (o271 P) :: (o272 P) :: (o273 P) :: (o274 P) :: (o275 P) :: (o276 P) :: (o277 P) :: (o278 P) :: [])) (Life.mk [] [] [] (0:Nat) [] [] false #[] [] (0:Nat) false false false (0:Int) [(2000:Int), (10:Int), (10:Int)] false (0:Nat) true [] [] (0:Nat) false))
noncomputable def hd.heap_39 : Params → Frag := fun P =>
  (((nat_lit 2, letI c : Value := _; letI d : Option Addr := _; letI t : Data := _; letI s : Array (Option Value) := _; haveI e : o49 P = ⟨c, d, t, s⟩ := rfl; ⟨c, d, t, s⟩) ::
   (nat_lit 3, letI c : Value := _; letI d : Option Addr := _; letI t : Data := _; letI s : Array (Option Value) := _; haveI e : o220 P = ⟨c, d, t, s⟩ := rfl; ⟨c, d, t, s⟩) ::
   (nat_lit 15, letI c : Value := _; letI d : Option Addr := _; letI t : Data := _; letI s : Array (Option Value) := _; haveI e : o52 P = ⟨c, d, t, s⟩ := rfl; ⟨c, d, t, s⟩) ::
   (nat_lit 17, letI c : Value := _; letI d : Option Addr := _; letI t : Data := _; letI s : Array (Option Value) := _; haveI e : o54 P = ⟨c, d, t, s⟩ := rfl; ⟨c, d, t, s⟩) ::
   (nat_lit 18, letI c : Value := _; letI d : Option Addr := _; letI t : Data := _; letI s : Array (Option Value) := _; haveI e : o55 P = ⟨c, d, t, s⟩ := rfl; ⟨c, d, t, s⟩) ::
   (nat_lit 20, letI c : Value := _; letI d : Option Addr := _; letI t : Data := _; letI s : Array (Option Value) := _; haveI e : o57 P = ⟨c, d, t, s⟩ := rfl; ⟨c, d, t, s⟩) ::
   (nat_lit 21, letI c : Value := _; letI d : Option Addr := _; letI t : Data := _; letI s : Array (Option Value) := _; haveI e : o58 P = ⟨c, d, t, s⟩ := rfl; ⟨c, d, t, s⟩) ::
   (nat_lit 22, letI c : Value := _; letI d : Option Addr := _; letI t : Data := _; letI s : Array (Option Value) := _; haveI e : o59 P = ⟨c, d, t, s⟩ := rfl; ⟨c, d, t, s⟩) ::
   (nat_lit 29, letI c : Value := _; letI d : Option Addr := _; letI t : Data := _; letI s : Array (Option Value) := _; haveI e : o66 P = ⟨c, d, t, s⟩ := rfl; ⟨c, d, t, s⟩) ::
   (nat_lit 30, letI c : Value := _; letI d : Option Addr := _; letI t : Data := _; letI s : Array (Option Value) := _; haveI e : o67 P = ⟨c, d, t, s⟩ := rfl; ⟨c, d, t, s⟩) ::
   (nat_lit 31, letI c : Value := _; letI d : Option Addr := _; letI t : Data := _; letI s : Array (Option Value) := _; haveI e : o74 P = ⟨c, d, t, s⟩ := rfl; ⟨c, d, t, s⟩) ::
   (nat_lit 32, letI c : Value := _; letI d : Option Addr := _; letI t : Data := _; letI s : Array (Option Value) := _; haveI e : o69 P = ⟨c, d, t, s⟩ := rfl; ⟨c, d, t, s⟩) ::
   (nat_lit 35, letI c : Value := _; letI d : Option Addr := _; letI t : Data := _; letI s : Array (Option Value) := _; haveI e : o75 P = ⟨c, d, t, s⟩ := rfl; ⟨c, d, t, s⟩) ::
   (nat_lit 42, letI c : Value := _; letI d : Option Addr := _; letI t : Data := _; letI s : Array (Option Value) := _; haveI e : o82 P = ⟨c, d, t, s⟩ := rfl; ⟨c, d, t, s⟩) ::
   (nat_lit 43, letI c : Value := _; letI d : Option Addr := _; letI t : Data := _; letI s : Array (Option Value) := _; haveI e : o83 P = ⟨c, d, t, s⟩ := rfl; ⟨c, d, t, s⟩) ::
   (nat_lit 44, letI c : Value := _; letI d : Option Addr := _; letI t : Data := _; letI s : Array (Option Value) := _; haveI e : o84 P = ⟨c, d, t, s⟩ := rfl; ⟨c, d, t, s⟩) ::
   (nat_lit 47, letI c : Value := _; letI d : Option Addr := _; letI t : Data := _; letI s : Array (Option Value) := _; haveI e : o87 P = ⟨c, d, t, s⟩ := rfl; ⟨c, d, t, s⟩) ::
   (nat_lit 49, letI c : Value := _; letI d : Option Addr := _; letI t : Data := _; letI s : Array (Option Value) := _; haveI e : o89 P = ⟨c, d, t, s⟩ := rfl; ⟨c, d, t, s⟩) ::
   (nat_lit 50, letI c : Value := _; letI d : Option Addr := _; letI t : Data := _; letI s : Array (Option Value) := _; haveI e : o90 P = ⟨c, d, t, s⟩ := rfl; ⟨c, d, t, s⟩) ::
   (nat_lit 52, letI c : Value := _; letI d : Option Addr := _; letI t : Data := _; letI s : Array (Option Value) := _; haveI e : o92 P = ⟨c, d, t, s⟩ := rfl; ⟨c, d, t, s⟩) ::
   (nat_lit 53, letI c : Value := _; letI d : Option Addr := _; letI t : Data := _; letI s : Array (Option Value) := _; haveI e : o93 P = ⟨c, d, t, s⟩ := rfl; ⟨c, d, t, s⟩) ::
   (nat_lit 61, letI c : Value := _; letI d : Option Addr := _; letI t : Data := _; letI s : Array (Option Value) := _; haveI e : o103 P = ⟨c, d, t, s⟩ := rfl; ⟨c, d, t, s⟩) ::
   (nat_lit 62, letI c : Value := _; letI d : Option Addr := _; letI t : Data := _; letI s : Array (Option Value) := _; haveI e : o104 P = ⟨c, d, t, s⟩ := rfl; ⟨c, d, t, s⟩) ::
   (nat_lit 64, letI c : Value := _; letI d : Option Addr := _; letI t : Data := _; letI s : Array (Option Value) := _; haveI e : o106 P = ⟨c, d, t, s⟩ := rfl; ⟨c, d, t, s⟩) ::
   (nat_lit 65, letI c : Value := _; letI d : Option Addr := _; letI t : Data := _; letI s : Array (Option Value) := _; haveI e : o107 P = ⟨c, d, t, s⟩ := rfl; ⟨c, d, t, s⟩) ::
   (nat_lit 67, letI c : Value := _; letI d : Option Addr := _; letI t : Data := _; letI s : Array (Option Value) := _; haveI e : o109 P = ⟨c, d, t, s⟩ := rfl; ⟨c, d, t, s⟩) ::
   (nat_lit 68, letI c : Value := _; letI d : Option Addr := _; letI t : Data := _; letI s : Array (Option Value) := _; haveI e : o110 P = ⟨c, d, t, s⟩ := rfl; ⟨c, d, t, s⟩) ::
   (nat_lit 69, letI c : Value := _; letI d : Option Addr := _; letI t : Data := _; letI s : Array (Option Value) := _; haveI e : o111 P = ⟨c, d, t, s⟩ := rfl; ⟨c, d, t, s⟩) ::
   (nat_lit 71, letI c : Value := _; letI d : Option Addr := _; letI t : Data := _; letI s : Array (Option Value) := _; haveI e : o113 P = ⟨c, d, t, s⟩ := rfl; ⟨c, d, t, s⟩) ::
   (nat_lit 72, letI c : Value := _; letI d : Option Addr := _; letI t : Data := _; letI s : Array (Option Value) := _; haveI e : o114 P = ⟨c, d, t, s⟩ := rfl; ⟨c, d, t, s⟩) ::
   (nat_lit 73, letI c : Value := _; letI d : Option Addr := _; letI t : Data := _; letI s : Array (Option Value) := _; haveI e : o115 P = ⟨c, d, t, s⟩ := rfl; ⟨c, d, t, s⟩) ::
   (nat_lit 74, letI c : Value := _; letI d : Option Addr := _; letI t : Data := _; letI s : Array (Option Value) := _; haveI e : o116 P = ⟨c, d, t, s⟩ := rfl; ⟨c, d, t, s⟩) ::
   (nat_lit 75, letI c : Value := _; letI d : Option Addr := _; letI t : Data := _; letI s : Array (Option Value) := _; haveI e : o117 P = ⟨c, d, t, s⟩ := rfl; ⟨c, d, t, s⟩) ::
   (nat_lit 78, letI c : Value := _; letI d : Option Addr := _; letI t : Data := _; letI s : Array (Option Value) := _; haveI e : o122 P = ⟨c, d, t, s⟩ := rfl; ⟨c, d, t, s⟩) ::
   (nat_lit 85, letI c : Value := _; letI d : Option Addr := _; letI t : Data := _; letI s : Array (Option Value) := _; haveI e : o129 P = ⟨c, d, t, s⟩ := rfl; ⟨c, d, t, s⟩) ::
   (nat_lit 86, letI c : Value := _; letI d : Option Addr := _; letI t : Data := _; letI s : Array (Option Value) := _; haveI e : o130 P = ⟨c, d, t, s⟩ := rfl; ⟨c, d, t, s⟩) ::
   (nat_lit 87, letI c : Value := _; letI d : Option Addr := _; letI t : Data := _; letI s : Array (Option Value) := _; haveI e : o131 P = ⟨c, d, t, s⟩ := rfl; ⟨c, d, t, s⟩) ::
   (nat_lit 88, letI c : Value := _; letI d : Option Addr := _; letI t : Data := _; letI s : Array (Option Value) := _; haveI e : o132 P = ⟨c, d, t, s⟩ := rfl; ⟨c, d, t, s⟩) ::
   (nat_lit 98, letI c : Value := _; letI d : Option Addr := _; letI t : Data := _; letI s : Array (Option Value) := _; haveI e : o144 P = ⟨c, d, t, s⟩ := rfl; ⟨c, d, t, s⟩) ::
   (nat_lit 99, letI c : Value := _; letI d : Option Addr := _; letI t : Data := _; letI s : Array (Option Value) := _; haveI e : o145 P = ⟨c, d, t, s⟩ := rfl; ⟨c, d, t, s⟩) ::
   (nat_lit 101, letI c : Value := _; letI d : Option Addr := _; letI t : Data := _; letI s : Array (Option Value) := _; haveI e : o147 P = ⟨c, d, t, s⟩ := rfl; ⟨c, d, t, s⟩) ::
   (nat_lit 102, letI c : Value := _; letI d : Option Addr := _; letI t : Data := _; letI s : Array (Option Value) := _; haveI e : o148 P = ⟨c, d, t, s⟩ := rfl; ⟨c, d, t, s⟩) ::
   (nat_lit 104, letI c : Value := _; letI d : Option Addr := _; letI t : Data := _; letI s : Array (Option Value) := _; haveI e : o150 P = ⟨c, d, t, s⟩ := rfl; ⟨c, d, t, s⟩) ::
   (nat_lit 105, letI c : Value := _; letI d : Option Addr := _; letI t : Data := _; letI s : Array (Option Value) := _; haveI e : o151 P = ⟨c, d, t, s⟩ := rfl; ⟨c, d, t, s⟩) ::
   (nat_lit 106, letI c : Value := _; letI d : Option Addr := _; letI t : Data := _; letI s : Array (Option Value) := _; haveI e : o152 P = ⟨c, d, t, s⟩ := rfl; ⟨c, d, t, s⟩) ::
   (nat_lit 108, letI c : Value := _; letI d : Option Addr := _; letI t : Data := _; letI s : Array (Option Value) := _; haveI e : o154 P = ⟨c, d, t, s⟩ := rfl; ⟨c, d, t, s⟩) ::
   (nat_lit 109, letI c : Value := _; letI d : Option Addr := _; letI t : Data := _; letI s : Array (Option Value) := _; haveI e : o155 P = ⟨c, d, t, s⟩ := rfl; ⟨c, d, t, s⟩) ::
   (nat_lit 111, letI c : Value := _; letI d : Option Addr := _; letI t : Data := _; letI s : Array (Option Value) := _; haveI e : o157 P = ⟨c, d, t, s⟩ := rfl; ⟨c, d, t, s⟩) ::
   (nat_lit 112, letI c : Value := _; letI d : Option Addr := _; letI t : Data := _; letI s : Array (Option Value) := _; haveI e : o158 P = ⟨c, d, t, s⟩ := rfl; ⟨c, d, t, s⟩) ::
   (nat_lit 113, letI c : Value := _; letI d : Option Addr := _; letI t : Data := _; letI s : Array (Option Value) := _; haveI e : o159 P = ⟨c, d, t, s⟩ := rfl; ⟨c, d, t, s⟩) ::
   (nat_lit 115, letI c : Value := _; letI d : Option Addr := _; letI t : Data := _; letI s : Array (Option Value) := _; haveI e : o161 P = ⟨c, d, t, s⟩ := rfl; ⟨c, d, t, s⟩) ::
   (nat_lit 116, letI c : Value := _; letI d : Option Addr := _; letI t : Data := _; letI s : Array (Option Value) := _; haveI e : o162 P = ⟨c, d, t, s⟩ := rfl; ⟨c, d, t, s⟩) ::
   (nat_lit 118, letI c : Value := _; letI d : Option Addr := _; letI t : Data := _; letI s : Array (Option Value) := _; haveI e : o164 P = ⟨c, d, t, s⟩ := rfl; ⟨c, d, t, s⟩) ::
   (nat_lit 119, letI c : Value := _; letI d : Option Addr := _; letI t : Data := _; letI s : Array (Option Value) := _; haveI e : o165 P = ⟨c, d, t, s⟩ := rfl; ⟨c, d, t, s⟩) ::
   (nat_lit 120, letI c : Value := _; letI d : Option Addr := _; letI t : Data := _; letI s : Array (Option Value) := _; haveI e : o166 P = ⟨c, d, t, s⟩ := rfl; ⟨c, d, t, s⟩) ::
   (nat_lit 123, letI c : Value := _; letI d : Option Addr := _; letI t : Data := _; letI s : Array (Option Value) := _; haveI e : o169 P = ⟨c, d, t, s⟩ := rfl; ⟨c, d, t, s⟩) ::
   (nat_lit 124, letI c : Value := _; letI d : Option Addr := _; letI t : Data := _; letI s : Array (Option Value) := _; haveI e : o170 P = ⟨c, d, t, s⟩ := rfl; ⟨c, d, t, s⟩) ::
   (nat_lit 125, letI c : Value := _; letI d : Option Addr := _; letI t : Data := _; letI s : Array (Option Value) := _; haveI e : o171 P = ⟨c, d, t, s⟩ := rfl; ⟨c, d, t, s⟩) ::
   (nat_lit 127, letI c : Value := _; letI d : Option Addr := _; letI t : Data := _; letI s : Array (Option Value) := _; haveI e : o173 P = ⟨c, d, t, s⟩ := rfl; ⟨c, d, t, s⟩) ::
   (nat_lit 128, letI c : Value := _; letI d : Option Addr := _; letI t : Data := _; letI s : Array (Option Value) := _; haveI e : o174 P = ⟨c, d, t, s⟩ := rfl; ⟨c, d, t, s⟩) ::
   (nat_lit 130, letI c : Value := _; letI d : Option Addr := _; letI t : Data := _; letI s : Array (Option Value) := _; haveI e : o176 P = ⟨c, d, t, s⟩ := rfl; ⟨c, d, t, s⟩) ::
   (nat_lit 131, letI c : Value := _; letI d : Option Addr := _; letI t : Data := _; letI s : Array (Option Value) := _; haveI e : o177 P = ⟨c, d, t, s⟩ := rfl; ⟨c, d, t, s⟩) ::
   (nat_lit 132, letI c : Value := _; letI d : Option Addr := _; letI t : Data := _; letI s : Array (Option Value) := _; haveI e : o178 P = ⟨c, d, t, s⟩ := rfl; ⟨c, d, t, s⟩) ::
   (nat_lit 134, letI c : Value := _; letI d : Option Addr := _; letI t : Data := _; letI s : Array (Option Value) := _; haveI e : o180 P = ⟨c, d, t, s⟩ := rfl; ⟨c, d, t, s⟩) ::
   (nat_lit 135, letI c : Value := _; letI d : Option Addr := _; letI t : Data := _; letI s : Array (Option Value) := _; haveI e : o181 P = ⟨c, d, t, s⟩ := rfl; ⟨c, d, t, s⟩) ::
   (nat_lit 137, letI c : Value := _; letI d : Option Addr := _; letI t : Data := _; letI s : Array (Option Value) := _; haveI e : o183 P = ⟨c, d, t, s⟩ := rfl; ⟨c, d, t, s⟩) ::
   (nat_lit 138, letI c : Value := _; letI d : Option Addr := _; letI t : Data := _; letI s : Array (Option Value) := _; haveI e : o184 P = ⟨c, d, t, s⟩ := rfl; ⟨c, d, t, s⟩) ::
   (nat_lit 139, letI c : Value := _; letI d : Option Addr := _; letI t : Data := _; letI s : Array (Option Value) := _; haveI e : o185 P = ⟨c, d, t, s⟩ := rfl; ⟨c, d, t, s⟩) ::
   (nat_lit 141, letI c : Value := _; letI d : Option Addr := _; letI t : Data := _; letI s : Array (Option Value) := _; haveI e : o187 P = ⟨c, d, t, s⟩ := rfl; ⟨c, d, t, s⟩) ::
   (nat_lit 142, letI c : Value := _; letI d : Option Addr := _; letI t : Data := _; letI s : Array (Option Value) := _; haveI e : o188 P = ⟨c, d, t, s⟩ := rfl; ⟨c, d, t, s⟩) ::
   (nat_lit 144, letI c : Value := _; letI d : Option Addr := _; letI t : Data := _; letI s : Array (Option Value) := _; haveI e : o190 P = ⟨c, d, t, s⟩ := rfl; ⟨c, d, t, s⟩) ::
   (nat_lit 145, letI c : Value := _; letI d : Option Addr := _; letI t : Data := _; letI s : Array (Option Value) := _; haveI e : o191 P = ⟨c, d, t, s⟩ := rfl; ⟨c, d, t, s⟩) ::
   (nat_lit 146, letI c : Value := _; letI d : Option Addr := _; letI t : Data := _; letI s : Array (Option Value) := _; haveI e : o192 P = ⟨c, d, t, s⟩ := rfl; ⟨c, d, t, s⟩) ::
   (nat_lit 148, letI c : Value := _; letI d : Option Addr := _; letI t : Data := _; letI s : Array (Option Value) := _; haveI e : o194 P = ⟨c, d, t, s⟩ := rfl; ⟨c, d, t, s⟩) ::
   (nat_lit 149, letI c : Value := _; letI d : Option Addr := _; letI t : Data := _; letI s : Array (Option Value) := _; haveI e : o195 P = ⟨c, d, t, s⟩ := rfl; ⟨c, d, t, s⟩) ::
   (nat_lit 151, letI c : Value := _; letI d : Option Addr := _; letI t : Data := _; letI s : Array (Option Value) := _; haveI e : o197 P = ⟨c, d, t, s⟩ := rfl; ⟨c, d, t, s⟩) ::
   (nat_lit 152, letI c : Value := _; letI d : Option Addr := _; letI t : Data := _; letI s : Array (Option Value) := _; haveI e : o198 P = ⟨c, d, t, s⟩ := rfl; ⟨c, d, t, s⟩) ::
   (nat_lit 153, letI c : Value := _; letI d : Option Addr := _; letI t : Data := _; letI s : Array (Option Value) := _; haveI e : o199 P = ⟨c, d, t, s⟩ := rfl; ⟨c, d, t, s⟩) ::
   (nat_lit 155, letI c : Value := _; letI d : Option Addr := _; letI t : Data := _; letI s : Array (Option Value) := _; haveI e : o201 P = ⟨c, d, t, s⟩ := rfl; ⟨c, d, t, s⟩) ::
   (nat_lit 156, letI c : Value := _; letI d : Option Addr := _; letI t : Data := _; letI s : Array (Option Value) := _; haveI e : o202 P = ⟨c, d, t, s⟩ := rfl; ⟨c, d, t, s⟩) ::
   (nat_lit 158, letI c : Value := _; letI d : Option Addr := _; letI t : Data := _; letI s : Array (Option Value) := _; haveI e : o204 P = ⟨c, d, t, s⟩ := rfl; ⟨c, d, t, s⟩) ::
   (nat_lit 159, letI c : Value := _; letI d : Option Addr := _; letI t : Data := _; letI s : Array (Option Value) := _; haveI e : o205 P = ⟨c, d, t, s⟩ := rfl; ⟨c, d, t, s⟩) ::
   (nat_lit 160, letI c : Value := _; letI d : Option Addr := _; letI t : Data := _; letI s : Array (Option Value) := _; haveI e : o206 P = ⟨c, d, t, s⟩ := rfl; ⟨c, d, t, s⟩) ::
   (nat_lit 162, letI c : Value := _; letI d : Option Addr := _; letI t : Data := _; letI s : Array (Option Value) := _; haveI e : o208 P = ⟨c, d, t, s⟩ := rfl; ⟨c, d, t, s⟩) ::
   (nat_lit 163, letI c : Value := _; letI d : Option Addr := _; letI t : Data := _; letI s : Array (Option Value) := _; haveI e : o209 P = ⟨c, d, t, s⟩ := rfl; ⟨c, d, t, s⟩) ::
   (nat_lit 165, letI c : Value := _; letI d : Option Addr := _; letI t : Data := _; letI s : Array (Option Value) := _; haveI e : o211 P = ⟨c, d, t, s⟩ := rfl; ⟨c, d, t, s⟩) ::
   (nat_lit 166, letI c : Value := _; letI d : Option Addr := _; letI t : Data := _; letI s : Array (Option Value) := _; haveI e : o212 P = ⟨c, d, t, s⟩ := rfl; ⟨c, d, t, s⟩) ::
   (nat_lit 167, letI c : Value := _; letI d : Option Addr := _; letI t : Data := _; letI s : Array (Option Value) := _; haveI e : o213 P = ⟨c, d, t, s⟩ := rfl; ⟨c, d, t, s⟩) ::
   (nat_lit 168, letI c : Value := _; letI d : Option Addr := _; letI t : Data := _; letI s : Array (Option Value) := _; haveI e : o214 P = ⟨c, d, t, s⟩ := rfl; ⟨c, d, t, s⟩) ::
   (nat_lit 169, letI c : Value := _; letI d : Option Addr := _; letI t : Data := _; letI s : Array (Option Value) := _; haveI e : o215 P = ⟨c, d, t, s⟩ := rfl; ⟨c, d, t, s⟩) ::
   (nat_lit 170, letI c : Value := _; letI d : Option Addr := _; letI t : Data := _; letI s : Array (Option Value) := _; haveI e : o216 P = ⟨c, d, t, s⟩ := rfl; ⟨c, d, t, s⟩) ::
   (nat_lit 171, letI c : Value := _; letI d : Option Addr := _; letI t : Data := _; letI s : Array (Option Value) := _; haveI e : o217 P = ⟨c, d, t, s⟩ := rfl; ⟨c, d, t, s⟩) ::
   (nat_lit 174, letI c : Value := _; letI d : Option Addr := _; letI t : Data := _; letI s : Array (Option Value) := _; haveI e : o222 P = ⟨c, d, t, s⟩ := rfl; ⟨c, d, t, s⟩) ::
   (nat_lit 176, letI c : Value := _; letI d : Option Addr := _; letI t : Data := _; letI s : Array (Option Value) := _; haveI e : o224 P = ⟨c, d, t, s⟩ := rfl; ⟨c, d, t, s⟩) ::
   (nat_lit 177, letI c : Value := _; letI d : Option Addr := _; letI t : Data := _; letI s : Array (Option Value) := _; haveI e : o225 P = ⟨c, d, t, s⟩ := rfl; ⟨c, d, t, s⟩) ::
   (nat_lit 179, letI c : Value := _; letI d : Option Addr := _; letI t : Data := _; letI s : Array (Option Value) := _; haveI e : o227 P = ⟨c, d, t, s⟩ := rfl; ⟨c, d, t, s⟩) ::
   (nat_lit 180, letI c : Value := _; letI d : Option Addr := _; letI t : Data := _; letI s : Array (Option Value) := _; haveI e : o228 P = ⟨c, d, t, s⟩ := rfl; ⟨c, d, t, s⟩) ::
   (nat_lit 181, letI c : Value := _; letI d : Option Addr := _; letI t : Data := _; letI s : Array (Option Value) := _; haveI e : o229 P = ⟨c, d, t, s⟩ := rfl; ⟨c, d, t, s⟩) ::
   (nat_lit 183, letI c : Value := _; letI d : Option Addr := _; letI t : Data := _; letI s : Array (Option Value) := _; haveI e : o231 P = ⟨c, d, t, s⟩ := rfl; ⟨c, d, t, s⟩) ::
   (nat_lit 184, letI c : Value := _; letI d : Option Addr := _; letI t : Data := _; letI s : Array (Option Value) := _; haveI e : o232 P = ⟨c, d, t, s⟩ := rfl; ⟨c, d, t, s⟩) ::
   (nat_lit 186, letI c : Value := _; letI d : Option Addr := _; letI t : Data := _; letI s : Array (Option Value) := _; haveI e : o234 P = ⟨c, d, t, s⟩ := rfl; ⟨c, d, t, s⟩) ::
   (nat_lit 187, letI c : Value := _; letI d : Option Addr := _; letI t : Data := _; letI s : Array (Option Value) := _; haveI e : o235 P = ⟨c, d, t, s⟩ := rfl; ⟨c, d, t, s⟩) ::
   (nat_lit 188, letI c : Value := _; letI d : Option Addr := _; letI t : Data := _; letI s : Array (Option Value) := _; haveI e : o236 P = ⟨c, d, t, s⟩ := rfl; ⟨c, d, t, s⟩) ::
   (nat_lit 190, letI c : Value := _; letI d : Option Addr := _; letI t : Data := _; letI s : Array (Option Value) := _; haveI e : o238 P = ⟨c, d, t, s⟩ := rfl; ⟨c, d, t, s⟩) ::
   (nat_lit 191, letI c : Value := _; letI d : Option Addr := _; letI t : Data := _; letI s : Array (Option Value) := _; haveI e : o239 P = ⟨c, d, t, s⟩ := rfl; ⟨c, d, t, s⟩) ::
   (nat_lit 193, letI c : Value := _; letI d : Option Addr := _; letI t : Data := _; letI s : Array (Option Value) := _; haveI e : o241 P = ⟨c, d, t, s⟩ := rfl; ⟨c, d, t, s⟩) ::
   (nat_lit 194, letI c : Value := _; letI d : Option Addr := _; letI t : Data := _; letI s : Array (Option Value) := _; haveI e : o242 P = ⟨c, d, t, s⟩ := rfl; ⟨c, d, t, s⟩) ::
   (nat_lit 195, letI c : Value := _; letI d : Option Addr := _; letI t : Data := _; letI s : Array (Option Value) := _; haveI e : o243 P = ⟨c, d, t, s⟩ := rfl; ⟨c, d, t, s⟩) ::
   (nat_lit 198, letI c : Value := _; letI d : Option Addr := _; letI t : Data := _; letI s : Array (Option Value) := _; haveI e : o246 P = ⟨c, d, t, s⟩ := rfl; ⟨c, d, t, s⟩) ::
   (nat_lit 199, letI c : Value := _; letI d : Option Addr := _; letI t : Data := _; letI s : Array (Option Value) := _; haveI e : o247 P = ⟨c, d, t, s⟩ := rfl; ⟨c, d, t, s⟩) ::
   (nat_lit 200, letI c : Value := _; letI d : Option Addr := _; letI t : Data := _; letI s : Array (Option Value) := _; haveI e : o248 P = ⟨c, d, t, s⟩ := rfl; ⟨c, d, t, s⟩) ::
   (nat_lit 202, letI c : Value := _; letI d : Option Addr := _; letI t : Data := _; letI s : Array (Option Value) := _; haveI e : o250 P = ⟨c, d, t, s⟩ := rfl; ⟨c, d, t, s⟩) ::
   (nat_lit 203, letI c : Value := _; letI d : Option Addr := _; letI t : Data := _; letI s : Array (Option Value) := _; haveI e : o251 P = ⟨c, d, t, s⟩ := rfl; ⟨c, d, t, s⟩) ::
   (nat_lit 205, letI c : Value := _; letI d : Option Addr := _; letI t : Data := _; letI s : Array (Option Value) := _; haveI e : o253 P = ⟨c, d, t, s⟩ := rfl; ⟨c, d, t, s⟩) ::
   (nat_lit 206, letI c : Value := _; letI d : Option Addr := _; letI t : Data := _; letI s : Array (Option Value) := _; haveI e : o254 P = ⟨c, d, t, s⟩ := rfl; ⟨c, d, t, s⟩) ::
   (nat_lit 207, letI c : Value := _; letI d : Option Addr := _; letI t : Data := _; letI s : Array (Option Value) := _; haveI e : o255 P = ⟨c, d, t, s⟩ := rfl; ⟨c, d, t, s⟩) ::
   (nat_lit 210, letI c : Value := _; letI d : Option Addr := _; letI t : Data := _; letI s : Array (Option Value) := _; haveI e : o258 P = ⟨c, d, t, s⟩ := rfl; ⟨c, d, t, s⟩) ::
   (nat_lit 211, letI c : Value := _; letI d : Option Addr := _; letI t : Data := _; letI s : Array (Option Value) := _; haveI e : o259 P = ⟨c, d, t, s⟩ := rfl; ⟨c, d, t, s⟩) ::
   (nat_lit 212, letI c : Value := _; letI d : Option Addr := _; letI t : Data := _; letI s : Array (Option Value) := _; haveI e : o260 P = ⟨c, d, t, s⟩ := rfl; ⟨c, d, t, s⟩) ::
   (nat_lit 214, letI c : Value := _; letI d : Option Addr := _; letI t : Data := _; letI s : Array (Option Value) := _; haveI e : o262 P = ⟨c, d, t, s⟩ := rfl; ⟨c, d, t, s⟩) ::
   (nat_lit 215, letI c : Value := _; letI d : Option Addr := _; letI t : Data := _; letI s : Array (Option Value) := _; haveI e : o263 P = ⟨c, d, t, s⟩ := rfl; ⟨c, d, t, s⟩) ::
   (nat_lit 217, letI c : Value := _; letI d : Option Addr := _; letI t : Data := _; letI s : Array (Option Value) := _; haveI e : o265 P = ⟨c, d, t, s⟩ := rfl; ⟨c, d, t, s⟩) ::
   (nat_lit 218, letI c : Value := _; letI d : Option Addr := _; letI t : Data := _; letI s : Array (Option Value) := _; haveI e : o266 P = ⟨c, d, t, s⟩ := rfl; ⟨c, d, t, s⟩) ::
   (nat_lit 219, letI c : Value := _; letI d : Option Addr := _; letI t : Data := _; letI s : Array (Option Value) := _; haveI e : o267 P = ⟨c, d, t, s⟩ := rfl; ⟨c, d, t, s⟩) ::
   (nat_lit 221, letI c : Value := _; letI d : Option Addr := _; letI t : Data := _; letI s : Array (Option Value) := _; haveI e : o269 P = ⟨c, d, t, s⟩ := rfl; ⟨c, d, t, s⟩) ::
   (nat_lit 222, letI c : Value := _; letI d : Option Addr := _; letI t : Data := _; letI s : Array (Option Value) := _; haveI e : o270 P = ⟨c, d, t, s⟩ := rfl; ⟨c, d, t, s⟩) ::
   (nat_lit 224, letI c : Value := _; letI d : Option Addr := _; letI t : Data := _; letI s : Array (Option Value) := _; haveI e : o272 P = ⟨c, d, t, s⟩ := rfl; ⟨c, d, t, s⟩) ::
   (nat_lit 225, letI c : Value := _; letI d : Option Addr := _; letI t : Data := _; letI s : Array (Option Value) := _; haveI e : o273 P = ⟨c, d, t, s⟩ := rfl; ⟨c, d, t, s⟩) ::
   (nat_lit 226, letI c : Value := _; letI d : Option Addr := _; letI t : Data := _; letI s : Array (Option Value) := _; haveI e : o274 P = ⟨c, d, t, s⟩ := rfl; ⟨c, d, t, s⟩) ::
   (nat_lit 229, letI c : Value := _; letI d : Option Addr := _; letI t : Data := _; letI s : Array (Option Value) := _; haveI e : o277 P = ⟨c, d, t, s⟩ := rfl; ⟨c, d, t, s⟩) ::
   (nat_lit 230, letI c : Value := _; letI d : Option Addr := _; letI t : Data := _; letI s : Array (Option Value) := _; haveI e : o278 P = ⟨c, d, t, s⟩ := rfl; ⟨c, d, t, s⟩) :: []) : List (Nat × Obj))
noncomputable def V : Program := letI s0 : Stmt := _; letI s1 : Stmt := _; letI s2 : Stmt := _; letI s3 : Stmt := _; letI s4 : Stmt := _; letI s5 : Stmt := _; letI s6 : Stmt := _; letI s7 : Stmt := _; letI s8 : Stmt := _; letI s9 : Stmt := _; letI s10 : Stmt := _; letI s11 : Stmt := _; letI s12 : Stmt := _; letI s13 : Stmt := _; letI s14 : Stmt := _; letI s15 : Stmt := _; letI s16 : Stmt := _; letI s17 : Stmt := _; letI s18 : Stmt := _; letI s19 : Stmt := _; letI s20 : Stmt := _; haveI e : PySem.Challenge.pw_mr0297_01.main.body = [s0, s1, s2, s3, s4, s5, s6, s7, s8, s9, s10, s11, s12, s13, s14, s15, s16, s17, s18, s19, s20] := rfl; { PW with main := { PW.main with body := [s0, s2, s3, s4, s6, s7, s8, s9, s10, s12, s13, s14, s15, s16, s17, s18, s19, s20] } }
noncomputable def ev : Env := { scope := PW.main.scope, locals := mainNs, globals := mainNs, cells := [], code := Value.ref 13, frame := some 14 }
noncomputable abbrev bi : List Stmt := behindTheImports PW
noncomputable abbrev cE : Code := .body bi ev
noncomputable abbrev tF : List Frame := [topFrame ⟨0, 0, 0, 0⟩]
noncomputable abbrev an : Option Value := some (.ref 6)
noncomputable abbrev S0 (w : World) (os : OsState) : Shared := ⟨boot_heap w.params, Array.mk [], boot_drawn, boot_toks, os⟩
noncomputable abbrev ST (t : Params → BT) (n k : Nat) (w : World) (os : OsState) : SharedT := ⟨t w.params, n, {}, Array.mk [], {}, k, os⟩
noncomputable abbrev Ha (w : World) (os : OsState) : Shared := ⟨heap46 w.params, Array.mk [], {}, 187, os⟩
noncomputable abbrev Hz (w : World) (os : OsState) : Shared := ⟨heap279 w.params, Array.mk [], {}, 502, os⟩
theorem pre (w : World) : (fun os => topGo treeTable PW w 11 an 12 (S0 w os) (topStub PW)) = fun os => some (Ha w os, ⟨denote treeTable cE, cE, ⟨0, 0, 0, 0⟩, tF⟩) := by kernel_rfl
theorem block (w : World) : (fun os => segRun treeTable PW w 11 an 1 1 (Ha w os) (blockOf bi ev cE ⟨0, 0, 0, 0⟩ tF)) = fun os => some (Flow.next, (ST tree47 15 187 w os).abs, cE, ⟨0, 0, 0, 0⟩) := by kernel_rfl
theorem seg0 (w : World) : (fun os => segRunT treeTable PW w 11 an 1 519 (ST tree47 15 187 w os) (piecesOf (bi.take 8) ev cE ⟨0, 0, 0, 0⟩ tF)) = fun os => some (Flow.next, ST tree93 54 251 w os, cE, ⟨28, 0, 28, 10⟩) := by rewrite [PySem.W.Fast.te10110043849684766642, PySem.W.Fast.te14364793385576792824]; kernel_rfl
theorem seg1 (w : World) : (fun os => segRunT treeTable PW w 11 an 1 451 (ST tree93 54 251 w os) (piecesOf ((bi.drop 8).take 2) ev cE ⟨28, 0, 28, 10⟩ tF)) = fun os => some (Flow.next, ST tree134 91 306 w os, cE, ⟨36, 0, 37, 8⟩) := by rewrite [PySem.W.Fast.te10110043849684766642, PySem.W.Fast.te14364793385576792824]; kernel_rfl
theorem seg2 (w : World) : (fun os => segRunT treeTable PW w 11 an 1 528 (ST tree134 91 306 w os) (piecesOf ((bi.drop 10).take 1) ev cE ⟨36, 0, 37, 8⟩ tF)) = fun os => some (Flow.next, ST tree219 174 425 w os, cE, ⟨38, 0, 143, 16⟩) := by rewrite [PySem.W.Fast.te10110043849684766642, PySem.W.Fast.te14364793385576792824]; kernel_rfl
theorem seg3 (w : World) : (fun os => segRunT treeTable PW w 11 an 1 277 (ST tree219 174 425 w os) (piecesOf (bi.drop 11) ev cE ⟨38, 0, 143, 16⟩ tF)) = fun os => some (Flow.next, ST tree278 231 502 w os, cE, ⟨206, 0, 221, 91⟩) := by rewrite [PySem.W.Fast.te10110043849684766642, PySem.W.Fast.te14364793385576792824]; kernel_rfl
theorem fin (w : World) : (fun os => topRun treeTable PW w 11 an 2 (ST tree278 231 502 w os).abs ⟨doneF .next, cE, ⟨206, 0, 221, 91⟩, tF⟩) = fun os => some (Hz w os) := by kernel_rfl
theorem cells_eq : bi = bi.take 8 ++ ((bi.drop 8).take 2 ++ ((bi.drop 10).take 1 ++ (bi.drop 11 ++ []))) := by kernel_rfl
theorem run (w : World) (os : OsState) : topRun treeTable PW w 11 an (12 + (1 + (519 + (451 + (528 + (277 + 2)))))) (S0 w os) (topStub PW) = some (Hz w os) := by
  have k4 := piece_nil (env := ev) (congrFun (fin w) os)
  have k3 := piece_app (segRun_of (congrFun (seg3 w) os)) k4
  have k2 := piece_app (segRun_of (congrFun (seg2 w) os)) k3
  have k1 := piece_app (segRun_of (congrFun (seg1 w) os)) k2
  have k0 := piece_app (segRun_of (congrFun (seg0 w) os)) k1
  have k := (congrArg (fun l => topRun treeTable PW w 11 an (519 + (451 + (528 + (277 + 2)))) (ST tree47 15 187 w os).abs (restOf l ev cE ⟨0, 0, 0, 0⟩ tF)) cells_eq).trans k0
  exact go_top (congrFun (pre w) os) (piece_block (congrFun (block w) os) k)
noncomputable abbrev ka : List Addr := 2 :: 3 :: 15 :: 17 :: 18 :: 20 :: 21 :: 22 :: 29 :: 30 :: 31 :: 32 :: 35 :: 42 :: 43 :: 44 :: 47 :: 49 :: 50 :: 52 :: 53 :: 61 :: 62 :: 64 :: 65 :: 67 :: 68 :: 69 :: 71 :: 72 :: 73 :: 74 :: 75 :: 78 :: 85 :: 86 :: 87 :: 88 :: 98 :: 99 :: 101 :: 102 :: 104 :: 105 :: 106 :: 108 :: 109 :: 111 :: 112 :: 113 :: 115 :: 116 :: 118 :: 119 :: 120 :: 123 :: 124 :: 125 :: 127 :: 128 :: 130 :: 131 :: 132 :: 134 :: 135 :: 137 :: 138 :: 139 :: 141 :: 142 :: 144 :: 145 :: 146 :: 148 :: 149 :: 151 :: 152 :: 153 :: 155 :: 156 :: 158 :: 159 :: 160 :: 162 :: 163 :: 165 :: 166 :: 167 :: 168 :: 169 :: 170 :: 171 :: 174 :: 176 :: 177 :: 179 :: 180 :: 181 :: 183 :: 184 :: 186 :: 187 :: 188 :: 190 :: 191 :: 193 :: 194 :: 195 :: 198 :: 199 :: 200 :: 202 :: 203 :: 205 :: 206 :: 207 :: 210 :: 211 :: 212 :: 214 :: 215 :: 217 :: 218 :: 219 :: 221 :: 222 :: 224 :: 225 :: 226 :: 229 :: 230 :: []
theorem ka_eq : ∀ P, ka = (hd.heap_39 P).map (·.1) := fun _ => by kernel_rfl
noncomputable abbrev hk : Hook := kmHook hd.heap_39 ka ka_eq [208, 201]
noncomputable abbrev lo : List Str := [Str.ofString "_NodeInfo"]
noncomputable abbrev xt (s : Shared) : Bool := xlAt V [] s && recOk (RowW.records PySem.Challenge.rw_mr0297_01.row.toRowW) s
theorem size (w : World) : ((boot_heap w.params).isNs mainGlobals && (Array.mk [] : Array GenState).size == 0, (boot_heap w.params).objs.size, (boot_heap w.params).nsMap mainGlobals "__annotations__") = (true, 11, an) := by kernel_rfl
theorem looksA (w : World) (os : OsState) : (staticsOk (importedModules PW.main.body) (boot_heap w.params) (heap279 w.params) && namesBound PW (heap279 w.params) && gensDone (Hz w os) && laidKept (boot_heap w.params) (heap279 w.params)) = true := by kernel_rfl
theorem looksB (w : World) (os : OsState) : openSeen V lo (importedModules PW.main.body) xt true (Hz w os) = openGood V lo := by rewrite [PySem.W.Fast.te4187177175401517315]; kernel_rfl
theorem looksC (w : World) (os : OsState) : hk.obs (Hz w os) = hk.val w := by kernel_rfl
theorem left : LeftO PW V lo xt hk.obs hk.val 3664 :=
  LeftO.of_pieces (boot_open (by kernel_rfl) (by kernel_rfl) (fun _ => by kernel_rfl)) size run (by kernel_rfl) (fun w => funext fun os => looks_pair (looksA w os) (looks_pair (looksB w os) (looksC w os)))
theorem lawSaid : PySem.Challenge.rw_mr0297_01.wellSaid = true := by
  rewrite [PySem.W.Fast.te9446332074065402090]
  delta PySem.W.Fast.tw9446332074065402090
  repeat' with_reducible refine look_both ?_ ?_
  all_goals (try (delta PySem.W.Fast.tw17960256430627541270; repeat' with_reducible refine look_both ?_ ?_))
  all_goals (try (delta PySem.W.Fast.tw2436336058641802641; repeat' with_reducible refine look_both ?_ ?_))
  all_goals (try (delta PySem.W.Fast.tw12908688711261696721; repeat' with_reducible refine look_both ?_ ?_))
  all_goals as_aux_lemma => kernel_rfl
theorem hd {d : DefRec} {kwd : List (Str × Expr)} (hdef : defOf V PySem.Challenge.rw_mr0297_01.row.name = some (d, kwd))
    (hp : PySem.Challenge.rw_mr0297_01.row.prog.theDef PySem.Challenge.rw_mr0297_01.row.name = some (d.params, d.body, d.scope)) (hk' : kwWritten? d.params.kwonlyargs d.params.kw_defaults = some kwd)
    (call : WalkO V [Str.ofString "_NodeInfo"] (XL V []) (kmHook hd.heap_39 ka ka_eq [208, 201]).says PySem.Challenge.rw_mr0297_01.row.toRowW d kwd fun f vs => PySem.call f vs) : PySem.Challenge.rw_mr0297_01.Holds := by
  refine holds_law lawSaid fun said => ?_
  refine holds_open (q := V) (loose := lo) (Xt := xt) (XP := XL V []) (Yf := hk.obs) (Ya := hk.val) (YP := hk.says) (N := 3664) left hk.of hk.keeps (fun s e => xl_of s (Bool.and_eq_true_iff.mp e).1) XL.keeps hdef hp hk'
    (fun s e => recFacts_of (Bool.and_eq_true_iff.mp e).2) (by rfl) said (by decide +kernel) ⟨rfl, rfl, rfl, rfl, rfl, by decide +kernel⟩ ?_ call
  w_witness2
end Mine
end -- Hd
section -- B0
open PySem PySem.W PySem.Calls PyProof.Rows
set_option Elab.async false
set_option maxRecDepth 100000
namespace Mine

abbrev PG : Program := PySem.Challenge.rw_mr0297_01.row.prog


/-- the ground: what a call may lean on, at a heap that is kept -/
structure Gd (w : World) (A : Around) (p : Program) (loose : List Str) (mean : ExcName → Option Value) (mg mb : Str → Option Value) (base : Heap) (outer : List Env) (g : Heap) : Prop where
  X : (hd.heap_39 w.params).In g
  T : Top p loose mean mg mb g
  B : Below A base outer g

section
variable {w : World} {A : Around} {p : Program} {loose : List Str} {mean : ExcName → Option Value} {mg mb : Str → Option Value} {base g : Heap} {outer : List Env} {s : Shared}
  {R : Result → Shared → Prop} {name qual : Str} {params : Arguments} {body : List Stmt} {scope : Scope} {dV kV doc pm cdv ct oc : Value} {an od : Option Addr} {osl : Array (Option Value)} {f : Addr} {args : Args} {binds : List (Str × Value)} {news : List (Addr × Obj)}

theorem enter (X : (hd.heap_39 w.params).In g) (T : Top p loose mean mg mb g) (st : g.StaysIn s.heap) (hsz : g.objs.size ≤ s.heap.objs.size)
    (N : ∀ q ∈ news, s.heap.get? q.1 = some q.2 ∧ g.get? q.1 = none)
    (ho : (hd.heap_39 w.params).lookup f = some ⟨oc, od, .func (fnOf name qual params body scope dV kV doc pm an cdv ct), osl⟩) (hcd : codeIn (hd.heap_39 w.params) cdv qual = true) (hroom : A.depth < recursionLimit)
    (hbind : BindsTo s (fnOf name qual params body scope dV kV doc pm an cdv ct) args binds) (hloc : ∀ y ∈ binds, scope.names.lookup y.1 = some .local)
    (h : ∀ L' h₁, s.heap.StaysIn h₁ → Fr g L' h₁ (fun y => binds.reverse.lookup y) → News g L' h₁ news → L' = s.heap.objs.size →
      wpAny (model PG w) (A.deeper (envOf qual scope L' f cdv)) (execs body (envOf qual scope L' f cdv))
        (fun fl s' => R (.ok (.ret (match fl with | .ret v => v | _ => .none))) s')
        (fun e s' => wpAny (model PG w) (A.deeper (envOf qual scope L' f cdv)) (leaving (envOf qual scope L' f cdv) e) (fun _ s'' => R (.error e) s'') (fun e' s'' => R (.error e') s'') s')
        { s with heap := h₁, toks := s.toks + binds.length })
    (hco : scope.isCoroutine = false) (hgen : scope.isGenerator = false) (hk : scope.kind = .function)
    (hcell : ∀ x ∈ scope.names, x.2 ≠ .cell) : codeAny (model PG w) A (.call (.ref f) args) R s := by
  refine codeAny_call_def (fd := fnOf name qual params body scope dV kV doc pm an cdv ct) (body := body) (binds := binds) hroom (st _ _ (X _ _ ho)) rfl (T.nolimit.keeps st) (codeRec_of (X.keeps st) hcd) rfl hbind hcell hloc (fun h₁ hns hk₁ => ?_) hco hgen hk
  exact h _ h₁ hk₁ ⟨hns, fun b o e => hk₁ b o (st b o e), hsz⟩ (fun q hq => ⟨hk₁ _ _ (N q hq).1, Nat.ne_of_lt (Heap.lt_size (N q hq).1), (N q hq).2⟩) rfl

theorem enterP (X : (hd.heap_39 w.params).In s.heap) (T : Top p loose mean mg mb s.heap)
    (ho : (hd.heap_39 w.params).lookup f = some ⟨oc, od, .func (fnOf name qual params body scope dV kV doc pm an cdv ct), osl⟩) (hcd : codeIn (hd.heap_39 w.params) cdv qual = true) (hroom : A.depth < recursionLimit)
    (hbind : BindsTo s (fnOf name qual params body scope dV kV doc pm an cdv ct) args binds) (hloc : ∀ y ∈ binds, scope.names.lookup y.1 = some .local)
    (h : ∀ L' h₁, s.heap.StaysIn h₁ → Fr s.heap L' h₁ (fun y => binds.reverse.lookup y) → News s.heap L' h₁ [] → L' = s.heap.objs.size →
      wpAny (model PG w) (A.deeper (envOf qual scope L' f cdv)) (execs body (envOf qual scope L' f cdv))
        (fun fl s' => R (.ok (.ret (match fl with | .ret v => v | _ => .none))) s') (fun _ _ => False)
        { s with heap := h₁, toks := s.toks + binds.length })
    (hco : scope.isCoroutine = false) (hgen : scope.isGenerator = false) (hk : scope.kind = .function)
    (hcell : ∀ x ∈ scope.names, x.2 ≠ .cell) : codeAny (model PG w) A (.call (.ref f) args) R s :=
  enter X T (fun _ _ h => h) (Nat.le_refl _) (news := []) (fun _ h => nomatch h) ho hcd hroom hbind hloc
    (fun L' h₁ a b c d => wpAny_mono (h L' h₁ a b c d) (fun _ _ x => x) (fun _ _ x => x.elim)) hco hgen hk hcell
end
end Mine
end -- B0
section -- B1
open PySem PySem.W PySem.Calls PyProof.Rows
set_option Elab.async false
set_option maxRecDepth 100000
namespace Mine
open Builtin Builtin.Str

theorem len_replace_le (x y z : Str) : (Txt.replace x y z).length ≤ x.length + (x.length + 1) * z.length := by
  unfold Txt.replace
  split
  · omega
  · have h1 := StrLaws.occ_length_le x y 0 x.length (x.length + 1)
    have hy : (glued y (partsBetween x (occurrences x y 0 x.length (x.length + 1)) y.length)).length = x.length := by rw [StrLaws.glued_between_self]
    rw [size_glued, length_partsBetween, Nat.add_sub_cancel] at hy
    rw [size_glued, length_partsBetween, Nat.add_sub_cancel]
    have h2 : (occurrences x y 0 x.length (x.length + 1)).length * z.length ≤ (x.length + 1) * z.length := Nat.mul_le_mul_right _ h1
    omega

theorem split_ne (x y : Str) : ∃ p r, Txt.split x y = p :: r := by
  unfold Txt.split
  split
  · exact ⟨_, _, rfl⟩
  · split
    · exact ⟨_, _, rfl⟩
    · rw [StrLaws.partsBetween_eq]; exact StrLaws.partsFrom_ne _ _ _ _

def firstOf (l : List Str) : Str := l.headD Str.empty
def readF (x : Str) : Option Str :=
  if (Txt.slice x none (some 3) != Str.ofString "257") = true then none
  else if (Txt.slice x (some 3) (some 5) != Str.ofString " \"") = true then some Str.empty
  else some (Txt.replace (firstOf (Txt.split (Txt.replace (Txt.slice x (some 5) none) (Str.ofString "\"\"") (Str.ofString "~")) (Str.ofString "\""))) (Str.ofString "~") (Str.ofString "\""))

def ReadV (o : Option Str) (v : Value) : Prop := match o with | none => v = .none | some y => ∃ t, v = .str y t

/-- no tilde, and not long -/
def GoodT (x : Str) : Prop := 126 ∉ x.cps.toList ∧ x.length ≤ 100
theorem nt_append {a b : Str} (ha : 126 ∉ a.cps.toList) (hb : 126 ∉ b.cps.toList) : 126 ∉ (a ++ b).cps.toList := by
  rw [Str.cps_append, Array.toList_append, List.mem_append]
  exact fun h => h.elim ha hb
theorem nt_dbl (c : Nat) : ∀ l : List Nat, 126 ∉ l → 126 ∉ StrLaws.dbl c l
  | [], h => h
  | k :: r, h => by
    have h1 : 126 ≠ k := fun e => h (e ▸ List.mem_cons_self ..)
    have h2 : 126 ∉ r := fun m => h (List.mem_cons_of_mem _ m)
    have ih := nt_dbl c r h2
    unfold StrLaws.dbl
    split
    · intro m
      rcases List.mem_cons.mp m with e | m
      · exact h1 e
      · rcases List.mem_cons.mp m with e | m
        · exact h1 e
        · exact ih m
    · intro m
      rcases List.mem_cons.mp m with e | m
      · exact h1 e
      · exact ih m
theorem nt_replace {x : Str} (h : 126 ∉ x.cps.toList) : 126 ∉ (Txt.replace x (Str.ofString "\"") (Str.ofString "\"\"")).cps.toList := by
  rw [show Str.ofString "\"" = ⟨#[34]⟩ from by decide +kernel, show Str.ofString "\"\"" = ⟨#[34, 34]⟩ from by decide +kernel, StrLaws.replace_double]
  exact nt_dbl _ _ h
end Mine
end -- B1
section -- B2
open PySem PySem.W PySem.Calls PyProof.Rows
set_option Elab.async false
set_option maxRecDepth 100000
namespace Mine

/-- a goal that the walk leaves alone -/
def Stop (p : Prop) : Prop := p
theorem stop {p : Prop} (h : Stop p) : p := h
theorem unstop {p : Prop} (h : p) : Stop p := h

def NoE : Value → Shared → Prop := fun _ _ => False
theorem noE {α : Type} {M : Model} {A : Around} {t : Sem α} {Q : α → Shared → Prop} {E : Value → Shared → Prop} {s : Shared} (h : wpAny M A t Q NoE s) : wpAny M A t Q E s :=
  wpAny_mono h (fun _ _ x => x) (fun _ _ x => x.elim)

/-- the end behind a name; nothing is raised out -/
theorem hideQ {α : Type} {M : Model} {A : Around} {t : Sem α} {Q : α → Shared → Prop} {E : Value → Shared → Prop} {s : Shared} (h : ∀ Q' : α → Shared → Prop, (∀ a s', Q a s' → Q' a s') → wpAny M A t Q' NoE s) : wpAny M A t Q E s := noE (h Q fun _ _ x => x)
/-- the goal behind a name -/
theorem hideG {G : Prop} (k : ∀ X : Prop, (G → X) → X) : G := k G id

def FPost (h₀ : Heap) (L I : Addr) (oI : Obj) (Jn : (Str → Option Value) → List (Addr × Obj) → Prop) (s : Shared) (Q : Flow → Shared → Prop) (f : Flow) (s₂ : Shared) : Prop :=
  match f with
  | .ret v => Q (.ret v) s₂
  | .brk => Q .next s₂
  | _ => ∃ h' tk m' news', s₂ = { s with heap := h', toks := tk } ∧ Fr h₀ L h' m' ∧ News h₀ L h' (news' ++ [(I, oI)]) ∧ (∀ p ∈ news', p.1 ≠ I) ∧ Jn m' news'

section
variable {prog : Program} {w : World} {A : Around} {E : Value → Shared → Prop} {s : Shared} {env : Env} {h₀ : Heap} {target : Expr} {body : List Stmt} {Q : Flow → Shared → Prop}
  {I : Addr} {fp : List Addr} {n : Nat} {P : Nat → Value → Prop} {St : Nat → Heap → Prop} {m : Str → Option Value} {news : List (Addr × Obj)}

theorem FPost.next {L : Addr} {oI : Obj} {Jn : (Str → Option Value) → List (Addr × Obj) → Prop} {h' : Heap} {tk : Nat} {m' : Str → Option Value} {news' : List (Addr × Obj)}
    (F : Fr h₀ L h' m') (N : News h₀ L h' (news' ++ [(I, oI)])) (ha : ∀ p ∈ news', p.1 ≠ I) (hj : Jn m' news') : FPost h₀ L I oI Jn s Q .next { s with heap := h', toks := tk } :=
  ⟨h', tk, m', news', rfl, F, N, ha, hj⟩

theorem News.sub {h₀ h : Heap} {L : Addr} {a b : List (Addr × Obj)} (N : News h₀ L h a) (hs : ∀ p ∈ b, p ∈ a) : News h₀ L h b := fun p hp => N p (hs p hp)

theorem forRule (W : Walks prog w A I fp [I] n P St) (J : Nat → (Str → Option Value) → List (Addr × Obj) → Prop) (bnd : Nat → Value → (Str → Option Value) → (Str → Option Value))
    (hLI : env.locals ≠ I) (hI0 : h₀.get? I = none) (hSI : ∀ i h, St i h → ∃ o, h.get? I = some o)
    (hfp : ∀ b ∈ fp, b ≠ I → ∃ o, s.heap.get? b = some o ∧ (h₀.get? b = some o ∨ ∀ i m₁ news₁, J i m₁ news₁ → (b, o) ∈ news₁))
    (hgo : ∀ i v s₁ (Q' : Unit → Shared → Prop), P i v → St (i + 1) s₁.heap → Q' () s₁ → wpAny (model prog w) A (letOwnedTupleGo target (.ref I) v) Q' NoE s₁)
    (hasg : ∀ i v s₁ m₁ news₁ oI (Q' : Unit → Shared → Prop), P i v → J i m₁ news₁ → Fr h₀ env.locals s₁.heap m₁ → News h₀ env.locals s₁.heap (news₁ ++ [(I, oI)]) →
      (∀ h₂ tk₂, Fr h₀ env.locals h₂ (bnd i v m₁) → News h₀ env.locals h₂ (news₁ ++ [(I, oI)]) → Q' () { s₁ with heap := h₂, toks := tk₂ }) → wpAny (model prog w) A (assign target env v) Q' NoE s₁)
    (st0 : St 0 s.heap) (F : Fr h₀ env.locals s.heap m) (N : News h₀ env.locals s.heap news) (hnI : ∀ p ∈ news, p.1 ≠ I) (h0 : J 0 m news)
    (turn : ∀ i v m₁ news₁ h tk oI, s.toks ≤ tk → i < n → P i v → J i m₁ news₁ → (∀ p ∈ news₁, p.1 ≠ I) → Fr h₀ env.locals h (bnd i v m₁) → News h₀ env.locals h (news₁ ++ [(I, oI)]) →
      wpAny (model prog w) A (execs body env) (FPost h₀ env.locals I oI (J (i + 1)) s Q) NoE { s with heap := h, toks := tk })
    (done : ∀ m₁ news₁ h tk, s.toks ≤ tk → J n m₁ news₁ → Fr h₀ env.locals h m₁ → News h₀ env.locals h news₁ → Q .next { s with heap := h, toks := tk }) :
    codeAny (model prog w) A (.forLoop target (.ref I) body [] env) (fun r s' => match r with | .ok f => Q f s' | .error e => cameBackBy (model prog w) A env E e s') s := by
  have stay : ∀ i j m₁ news₁ h m₂ news₂ h' oI, J i m₁ news₁ → J j m₂ news₂ → (∃ m', Fr h₀ env.locals h m') → News h₀ env.locals h (news₁ ++ [(I, oI)]) → (∃ m', Fr h₀ env.locals h' m') → News h₀ env.locals h' (news₂ ++ [(I, oI)]) →
      ∀ b ∈ fp, ∀ o, h.get? b = some o → h'.get? b = some o := by
    rintro i j m₁ news₁ h m₂ news₂ h' oI hJ hJ' ⟨m₀, F₁⟩ N₁ ⟨m', F₂⟩ N₂ b hb o e
    by_cases hbI : b = I
    · have e1 := (N₁ (I, oI) (by simp)).1
      rw [← hbI, e] at e1
      rw [hbI, Option.some.inj e1]
      exact (N₂ (I, oI) (by simp)).1
    · obtain ⟨o', _, hq⟩ := hfp b hb hbI
      rcases hq with hq | hq
      · have e1 := F₁.keep b o' hq
        rw [e] at e1
        rw [Option.some.inj e1]
        exact F₂.keep b o' hq
      · have e1 := (N₁ (b, o') (List.mem_append_left _ (hq _ _ _ hJ))).1
        rw [e] at e1
        rw [Option.some.inj e1]
        exact (N₂ (b, o') (List.mem_append_left _ (hq _ _ _ hJ'))).1
  refine codeAny_forLoop_any
    (fun k s' => ∃ h' tk m' news' i, s' = { s with heap := h', toks := tk } ∧ St i h' ∧ Fr h₀ env.locals h' m' ∧ News h₀ env.locals h' news' ∧ (∀ p ∈ news', p.1 ≠ I) ∧ J i m' news' ∧ i ≤ n ∧ k = n + 1 - i ∧ s.toks ≤ tk) ?_ (n + 1)
    ⟨s.heap, s.toks, m, news, 0, rfl, st0, F, N, hnI, h0, Nat.zero_le _, rfl, Nat.le_refl _⟩
  rintro k s' ⟨h', tk, m', news', i, rfl, hst, F', N', hn', hJ, hi, rfl, hle⟩
  have carry : ∀ h₁ : Heap, (∀ b o, b ∉ [I] → h'.get? b = some o → h₁.get? b = some o) → Fr h₀ env.locals h₁ m' ∧ News h₀ env.locals h₁ news' := fun h₁ hk₁ =>
    ⟨⟨F'.ns.at' fun o e => hk₁ _ o (by simpa using hLI) e, fun b o e => hk₁ b o (fun q => by rw [List.mem_singleton.mp q, hI0] at e; cases e) (F'.keep b o e), F'.above⟩,
      fun p hp => ⟨hk₁ _ _ (by simpa using hn' p hp) (N' p hp).1, (N' p hp).2⟩⟩
  by_cases hlt : i < n
  · refine wpAny_with_toks (n := s.toks) hle (noE (W.item i _ _ _ hlt hst fun v h₁ tk₁ hP hst₁ hk₁ hle₁ => ?_))
    obtain ⟨F₁, N₁⟩ := carry h₁ hk₁
    obtain ⟨oI, hoI⟩ := hSI _ _ hst₁
    have N₁' : News h₀ env.locals h₁ (news' ++ [(I, oI)]) := fun p hp => by
      rcases List.mem_append.mp hp with hp | hp
      · exact N₁ p hp
      · rw [List.mem_singleton.mp hp]; exact ⟨hoI, hLI.symm, hI0⟩
    refine noE (hgo i v _ _ hP hst₁ ?_)
    refine wpAny_with_toks (n := s.toks) hle₁ (noE (hasg i v _ m' news' oI _ hP hJ F₁ N₁' fun h₂ tk₂ F₂ N₂ hle₂ => ?_))
    have hst₂ : St (i + 1) h₂ := W.frame _ _ _ hst₁ (stay i i _ _ _ _ _ _ oI hJ hJ ⟨_, F₁⟩ N₁' ⟨_, F₂⟩ N₂)
    refine noE (wpAny_mono (wpAny_toks_of (n := s.toks) hle₂ (turn i v m' news' h₂ tk₂ oI hle₂ hlt hP hJ hn' F₂ N₂)) (fun f s₃ h₃' => ?_) fun _ _ x => x.2)
    obtain ⟨hle₃, h₃⟩ := h₃'
    have fin : (∃ h' tk m' news', s₃ = { s with heap := h', toks := tk } ∧ Fr h₀ env.locals h' m' ∧ News h₀ env.locals h' (news' ++ [(I, oI)]) ∧ (∀ p ∈ news', p.1 ≠ I) ∧ J (i + 1) m' news') →
        ∃ m, m < n + 1 - i ∧ ∃ h' tk m' news' i, s₃ = { s with heap := h', toks := tk } ∧ St i h' ∧ Fr h₀ env.locals h' m' ∧ News h₀ env.locals h' news' ∧ (∀ p ∈ news', p.1 ≠ I) ∧ J i m' news' ∧ i ≤ n ∧ m = n + 1 - i ∧ s.toks ≤ tk := by
      rintro ⟨h₃', tk₃, m₃, news₃, rfl, F₃, N₃, hn₃, hJ₃⟩
      refine ⟨n + 1 - (i + 1), by omega, h₃', tk₃, m₃, news₃, i + 1, rfl, ?_, F₃, News.sub N₃ fun p hp => List.mem_append_left _ hp, hn₃, hJ₃, hlt, rfl, hle₃⟩
      exact W.frame _ _ _ hst₂ (stay i (i + 1) _ _ _ _ _ _ oI hJ hJ₃ ⟨_, F₂⟩ N₂ ⟨_, F₃⟩ N₃)
    cases f with
    | ret v => exact h₃
    | brk => exact h₃
    | cont => exact fin h₃
    | next => exact fin h₃
  · have hin : i = n := by omega
    subst hin
    refine wpAny_with_toks (n := s.toks) hle (noE (W.done _ _ _ hst fun h₁ tk₁ hk₁ hle₁ => wpAny_execs_nil ?_))
    obtain ⟨F₁, N₁⟩ := carry h₁ hk₁
    exact done m' news' h₁ tk₁ hle₁ hJ F₁ N₁

theorem iter_list {x : Str} {px : Pos} {l : Addr} {vs : List Value} {ol : Obj} {ep : Nat} (J : Nat → (Str → Option Value) → List (Addr × Obj) → Prop) (hh : A.handled = none)
    (hol : s.heap.get? l = some ol) (hcl : ol.cls = .type "list") (hda : ol.data = .seq vs.toArray ep) (hst : h₀.get? l = some ol ∨ ∀ i m₁ news₁, J i m₁ news₁ → (l, ol) ∈ news₁)
    (F : Fr h₀ env.locals s.heap m) (N : News h₀ env.locals s.heap news) (h0 : J 0 m news)
    (turn : ∀ i v m₁ news₁ h tk I oI, s.toks ≤ tk → vs[i]? = some v → J i m₁ news₁ → (∀ p ∈ news₁, p.1 ≠ I) → Fr h₀ env.locals h (fun y => if y = x then some v else m₁ y) → News h₀ env.locals h (news₁ ++ [(I, oI)]) →
      wpAny (model prog w) A (execs body env) (FPost h₀ env.locals I oI (J (i + 1)) s Q) NoE { s with heap := h, toks := tk })
    (done : ∀ m₁ news₁ h tk, s.toks ≤ tk → J vs.length m₁ news₁ → Fr h₀ env.locals h m₁ → News h₀ env.locals h news₁ → Q .next { s with heap := h, toks := tk })
    (hx : env.kindOf x = some .local := by rfl)
    (hp : (env.scope.kind == .class || (env.scope.kind == .module && env.locals != env.globals)) = false := by rfl) :
    wpAny (model prog w) A (pyIter (.ref l)) (fun it s₂ => codeAny (model prog w) A (.forLoop (.Name x px) it body [] env) (fun r s' => match r with | .ok f => Q f s' | .error e => cameBackBy (model prog w) A env E e s') s₂) E s := by
  have hls : s.heap.IsList l vs.toArray := ⟨ol, hol, hcl, ep, hda⟩
  have hne : l ≠ s.heap.objs.size := Nat.ne_of_lt (Heap.lt_size hol)
  refine wpAny_pyIter_list hls ?_
  have W := Walks.list (prog := prog) (w := w) hh s.heap.objs.size l hne vs.toArray
  rw [show vs.toArray.size = vs.length from by simp] at W
  refine forRule (h₀ := h₀) (s := { s with heap := _ }) W J (fun _ v m₁ y => if y = x then some v else m₁ y) (Nat.ne_of_lt F.ns.lt) (next_is_new F) (fun i h st => let ⟨o, ho, _⟩ := st.1; ⟨o, ho⟩) ?_ (fun _ _ _ _ _ _ hq => wpAny_pure hq) ?_
    ⟨⟨_, Heap.get?_push_size _ rfl, rfl, rfl⟩, hls.push _⟩ (F.push _) (fun p hp => ⟨Heap.get?_push_of_some _ (N p hp).1, (N p hp).2⟩) (fun p hp => Nat.ne_of_lt (Heap.lt_size (N p hp).1)) h0 ?_ done
  · intro b hb hbI
    rcases List.mem_cons.mp hb with e | hb
    · exact absurd e hbI
    · rw [List.mem_singleton.mp hb]
      exact ⟨ol, Heap.get?_push_of_some _ hol, hst⟩
  · intro i v s₁ m₁ news₁ oI Q' _ _ F₁ N₁ hQ'
    exact wpAny_assign_Name (wpAny_storeName_local hx F₁.ns (fun h' hn hs => hQ' h' _ (F₁.set hn hs) (N₁.set hs)) hp)
  · intro i v m₁ news₁ h tk oI hle _ hP hJ ha F₁ N₁
    exact turn i v m₁ news₁ h tk _ oI hle (by simpa using hP) hJ ha F₁ N₁

theorem iter_tuple {x : Str} {px : Pos} {l : Addr} {vs : List Value} {ol : Obj} {ep : Nat} (J : Nat → (Str → Option Value) → List (Addr × Obj) → Prop) (hh : A.handled = none)
    (hol : s.heap.get? l = some ol) (hcl : ol.cls = .type "tuple") (hda : ol.data = .seq vs.toArray ep) (hst : h₀.get? l = some ol ∨ ∀ i m₁ news₁, J i m₁ news₁ → (l, ol) ∈ news₁)
    (F : Fr h₀ env.locals s.heap m) (N : News h₀ env.locals s.heap news) (h0 : J 0 m news)
    (turn : ∀ i v m₁ news₁ h tk I oI, s.toks ≤ tk → vs[i]? = some v → J i m₁ news₁ → (∀ p ∈ news₁, p.1 ≠ I) → Fr h₀ env.locals h (fun y => if y = x then some v else m₁ y) → News h₀ env.locals h (news₁ ++ [(I, oI)]) →
      wpAny (model prog w) A (execs body env) (FPost h₀ env.locals I oI (J (i + 1)) s Q) NoE { s with heap := h, toks := tk })
    (done : ∀ m₁ news₁ h tk, s.toks ≤ tk → J vs.length m₁ news₁ → Fr h₀ env.locals h m₁ → News h₀ env.locals h news₁ → Q .next { s with heap := h, toks := tk })
    (hx : env.kindOf x = some .local := by rfl)
    (hp : (env.scope.kind == .class || (env.scope.kind == .module && env.locals != env.globals)) = false := by rfl) :
    wpAny (model prog w) A (pyIter (.ref l)) (fun it s₂ => codeAny (model prog w) A (.forLoop (.Name x px) it body [] env) (fun r s' => match r with | .ok f => Q f s' | .error e => cameBackBy (model prog w) A env E e s') s₂) E s := by
  have hls : s.heap.IsTuple l vs.toArray := ⟨ol, hol, hcl, ep, hda⟩
  have hne : l ≠ s.heap.objs.size := Nat.ne_of_lt (Heap.lt_size hol)
  refine wpAny_pyIter_tuple hls ?_
  have W := Walks.tuple (prog := prog) (w := w) hh s.heap.objs.size l hne vs.toArray
  rw [show vs.toArray.size = vs.length from by simp] at W
  refine forRule (h₀ := h₀) (s := { s with heap := _ }) W J (fun _ v m₁ y => if y = x then some v else m₁ y) (Nat.ne_of_lt F.ns.lt) (next_is_new F) (fun i h st => let ⟨o, ho, _⟩ := st.1; ⟨o, ho⟩) ?_ (fun _ _ _ _ _ _ hq => wpAny_pure hq) ?_
    ⟨⟨_, Heap.get?_push_size _ rfl, rfl, rfl⟩, hls.push _⟩ (F.push _) (fun p hp => ⟨Heap.get?_push_of_some _ (N p hp).1, (N p hp).2⟩) (fun p hp => Nat.ne_of_lt (Heap.lt_size (N p hp).1)) h0 ?_ done
  · intro b hb hbI
    rcases List.mem_cons.mp hb with e | hb
    · exact absurd e hbI
    · rw [List.mem_singleton.mp hb]
      exact ⟨ol, Heap.get?_push_of_some _ hol, hst⟩
  · intro i v s₁ m₁ news₁ oI Q' _ _ F₁ N₁ hQ'
    exact wpAny_assign_Name (wpAny_storeName_local hx F₁.ns (fun h' hn hs => hQ' h' _ (F₁.set hn hs) (N₁.set hs)) hp)
  · intro i v m₁ news₁ h tk oI hle _ hP hJ ha F₁ N₁
    exact turn i v m₁ news₁ h tk _ oI hle (by simpa using hP) hJ ha F₁ N₁

/-- pairs unpacked: `for x, y in l` -/
theorem iter_pairs {x y : Str} {px py pt : Pos} {k1 : Nat} {l : Addr} {vs : List Value} {ol : Obj} {ep : Nat} (J : Nat → (Str → Option Value) → List (Addr × Obj) → Prop) (pr : Nat → Value × Value) (hh : A.handled = none)
    (hol : s.heap.get? l = some ol) (hcl : ol.cls = .type "list") (hda : ol.data = .seq vs.toArray ep) (hst : h₀.get? l = some ol ∨ ∀ i m₁ news₁, J i m₁ news₁ → (l, ol) ∈ news₁)
    (hT : ∀ i v, vs[i]? = some v → ∃ t ot e', v = .ref t ∧ ot.cls = .type "tuple" ∧ ot.data = .seq #[(pr i).1, (pr i).2] e' ∧ (h₀.get? t = some ot ∨ ∀ j m₁ news₁, J j m₁ news₁ → (t, ot) ∈ news₁))
    (F : Fr h₀ env.locals s.heap m) (N : News h₀ env.locals s.heap news) (h0 : J 0 m news)
    (turn : ∀ i m₁ news₁ h tk I oI, s.toks ≤ tk → i < vs.length → J i m₁ news₁ → (∀ p ∈ news₁, p.1 ≠ I) → Fr h₀ env.locals h (fun z => if z = y then some (pr i).2 else if z = x then some (pr i).1 else m₁ z) → News h₀ env.locals h (news₁ ++ [(I, oI)]) →
      wpAny (model prog w) A (execs body env) (FPost h₀ env.locals I oI (J (i + 1)) s Q) NoE { s with heap := h, toks := tk })
    (done : ∀ m₁ news₁ h tk, s.toks ≤ tk → J vs.length m₁ news₁ → Fr h₀ env.locals h m₁ → News h₀ env.locals h news₁ → Q .next { s with heap := h, toks := tk })
    (hx : env.kindOf x = some .local := by rfl) (hy : env.kindOf y = some .local := by rfl)
    (hp : (env.scope.kind == .class || (env.scope.kind == .module && env.locals != env.globals)) = false := by rfl) :
    wpAny (model prog w) A (pyIter (.ref l)) (fun it s₂ => codeAny (model prog w) A (.forLoop (.Tuple [.Name x px, .Name y py] k1 pt) it body [] env) (fun r s' => match r with | .ok f => Q f s' | .error e => cameBackBy (model prog w) A env E e s') s₂) E s := by
  have hls : s.heap.IsList l vs.toArray := ⟨ol, hol, hcl, ep, hda⟩
  have hne : l ≠ s.heap.objs.size := Nat.ne_of_lt (Heap.lt_size hol)
  refine wpAny_pyIter_list hls ?_
  have W := Walks.list (prog := prog) (w := w) hh s.heap.objs.size l hne vs.toArray
  rw [show vs.toArray.size = vs.length from by simp] at W
  refine forRule (h₀ := h₀) (s := { s with heap := _ }) W J (fun i _ m₁ z => if z = y then some (pr i).2 else if z = x then some (pr i).1 else m₁ z) (Nat.ne_of_lt F.ns.lt) (next_is_new F) (fun i h st => let ⟨o, ho, _⟩ := st.1; ⟨o, ho⟩) ?_ ?_ ?_
    ⟨⟨_, Heap.get?_push_size _ rfl, rfl, rfl⟩, hls.push _⟩ (F.push _) (fun p hp => ⟨Heap.get?_push_of_some _ (N p hp).1, (N p hp).2⟩) (fun p hp => Nat.ne_of_lt (Heap.lt_size (N p hp).1)) h0 ?_ done
  · intro b hb hbI
    rcases List.mem_cons.mp hb with e | hb
    · exact absurd e hbI
    · rw [List.mem_singleton.mp hb]
      exact ⟨ol, Heap.get?_push_of_some _ hol, hst⟩
  · intro i v s₁ Q' hP hst₁ hQ'
    obtain ⟨t, _, _, rfl, _⟩ := hT i v (by simpa using hP)
    exact wpAny_letOwnedTupleGo_listiter hst₁.1 hQ'
  · intro i v s₁ m₁ news₁ oI Q' hP hJ F₁ N₁ hQ'
    obtain ⟨t, ot, e', rfl, hc, hd', hq⟩ := hT i v (by simpa using hP)
    have hot : s₁.heap.get? t = some ot := hq.elim (fun q => F₁.keep _ _ q) fun q => (N₁ (t, ot) (List.mem_append_left _ (q _ _ _ hJ))).1
    refine assign_Tuple_tuple hh (items := #[(pr i).1, (pr i).2]) ⟨ot, hot, hc, e', hd'⟩ rfl rfl fun h' he => ?_
    have F₂ := F₁.extBut he (Nat.le_refl _)
    have N₂ : News h₀ env.locals h' (news₁ ++ [(_, oI)]) := fun p hp => ⟨he p.1 p.2 (Nat.ne_of_lt (Heap.lt_size (N₁ p hp).1)) (N₁ p hp).1, (N₁ p hp).2⟩
    show wpAny _ _ (assignInOrder [assign (.Name x px) env, assign (.Name y py) env] [(pr i).1, (pr i).2]) _ _ _
    unfold assignInOrder
    refine wpAny_bind (wpAny_holding (wpAny_assign_Name (wpAny_storeName_local hx F₂.ns (fun h₃ hn₃ hs₃ => ?_) hp)))
    have F₃ := F₂.set hn₃ hs₃
    have N₃ := N₂.set hs₃
    unfold assignInOrder
    refine wpAny_bind (wpAny_holding (wpAny_assign_Name (wpAny_storeName_local hy F₃.ns (fun h₄ hn₄ hs₄ => ?_) hp)))
    unfold assignInOrder
    exact wpAny_pure (hQ' h₄ _ (F₃.set hn₄ hs₄) (N₃.set hs₄))
  · intro i v m₁ news₁ h tk oI hle hi _ hJ ha F₁ N₁
    exact turn i m₁ news₁ h tk _ oI hle hi hJ ha F₁ N₁

theorem iter_listE {nm : Str} {sc : Scope} {L a : Addr} {cd : Value} {x : Str} {px : Pos} {l : Addr} {vs : List Value} {ol : Obj} {ep : Nat} (J : Nat → (Str → Option Value) → List (Addr × Obj) → Prop) (hh : A.handled = none)
    (hol : s.heap.get? l = some ol) (hcl : ol.cls = .type "list") (hda : ol.data = .seq vs.toArray ep) (hst : h₀.get? l = some ol ∨ ∀ i m₁ news₁, J i m₁ news₁ → (l, ol) ∈ news₁)
    (F : Fr h₀ L s.heap m) (N : News h₀ L s.heap news) (h0 : J 0 m news)
    (turn : ∀ i v m₁ news₁ h tk I oI, s.toks ≤ tk → vs[i]? = some v → J i m₁ news₁ → (∀ p ∈ news₁, p.1 ≠ I) → Fr h₀ L h (fun y => if y = x then some v else m₁ y) → News h₀ L h (news₁ ++ [(I, oI)]) →
      wpAny (model prog w) A (execs body (envOf nm sc L a cd)) (FPost h₀ L I oI (J (i + 1)) s Q) NoE { s with heap := h, toks := tk })
    (done : ∀ m₁ news₁ h tk, s.toks ≤ tk → J vs.length m₁ news₁ → Fr h₀ L h m₁ → News h₀ L h news₁ → Q .next { s with heap := h, toks := tk })
    (hx : (envOf nm sc L a cd).kindOf x = some .local := by rfl)
    (hp : (sc.kind == .class || (sc.kind == .module && L != mainGlobals)) = false := by rfl) :
    wpAny (model prog w) A (pyIter (.ref l)) (fun it s₂ => codeAny (model prog w) A (.forLoop (.Name x px) it body [] (envOf nm sc L a cd)) (fun r s' => match r with | .ok f => Q f s' | .error e => cameBackBy (model prog w) A (envOf nm sc L a cd) E e s') s₂) E s :=
  iter_list (env := envOf nm sc L a cd) J hh hol hcl hda hst F N h0 turn done hx hp

theorem iter_tupleE {nm : Str} {sc : Scope} {L a : Addr} {cd : Value} {x : Str} {px : Pos} {l : Addr} {vs : List Value} {ol : Obj} {ep : Nat} (J : Nat → (Str → Option Value) → List (Addr × Obj) → Prop) (hh : A.handled = none)
    (hol : s.heap.get? l = some ol) (hcl : ol.cls = .type "tuple") (hda : ol.data = .seq vs.toArray ep) (hst : h₀.get? l = some ol ∨ ∀ i m₁ news₁, J i m₁ news₁ → (l, ol) ∈ news₁)
    (F : Fr h₀ L s.heap m) (N : News h₀ L s.heap news) (h0 : J 0 m news)
    (turn : ∀ i v m₁ news₁ h tk I oI, s.toks ≤ tk → vs[i]? = some v → J i m₁ news₁ → (∀ p ∈ news₁, p.1 ≠ I) → Fr h₀ L h (fun y => if y = x then some v else m₁ y) → News h₀ L h (news₁ ++ [(I, oI)]) →
      wpAny (model prog w) A (execs body (envOf nm sc L a cd)) (FPost h₀ L I oI (J (i + 1)) s Q) NoE { s with heap := h, toks := tk })
    (done : ∀ m₁ news₁ h tk, s.toks ≤ tk → J vs.length m₁ news₁ → Fr h₀ L h m₁ → News h₀ L h news₁ → Q .next { s with heap := h, toks := tk })
    (hx : (envOf nm sc L a cd).kindOf x = some .local := by rfl)
    (hp : (sc.kind == .class || (sc.kind == .module && L != mainGlobals)) = false := by rfl) :
    wpAny (model prog w) A (pyIter (.ref l)) (fun it s₂ => codeAny (model prog w) A (.forLoop (.Name x px) it body [] (envOf nm sc L a cd)) (fun r s' => match r with | .ok f => Q f s' | .error e => cameBackBy (model prog w) A (envOf nm sc L a cd) E e s') s₂) E s :=
  iter_tuple (env := envOf nm sc L a cd) J hh hol hcl hda hst F N h0 turn done hx hp

theorem iter_pairsE {nm : Str} {sc : Scope} {L a : Addr} {cd : Value} {x y : Str} {px py pt : Pos} {k1 : Nat} {l : Addr} {vs : List Value} {ol : Obj} {ep : Nat} (J : Nat → (Str → Option Value) → List (Addr × Obj) → Prop) (pr : Nat → Value × Value) (hh : A.handled = none)
    (hol : s.heap.get? l = some ol) (hcl : ol.cls = .type "list") (hda : ol.data = .seq vs.toArray ep) (hst : h₀.get? l = some ol ∨ ∀ i m₁ news₁, J i m₁ news₁ → (l, ol) ∈ news₁)
    (hT : ∀ i v, vs[i]? = some v → ∃ t ot e', v = .ref t ∧ ot.cls = .type "tuple" ∧ ot.data = .seq #[(pr i).1, (pr i).2] e' ∧ (h₀.get? t = some ot ∨ ∀ j m₁ news₁, J j m₁ news₁ → (t, ot) ∈ news₁))
    (F : Fr h₀ L s.heap m) (N : News h₀ L s.heap news) (h0 : J 0 m news)
    (turn : ∀ i m₁ news₁ h tk I oI, s.toks ≤ tk → i < vs.length → J i m₁ news₁ → (∀ p ∈ news₁, p.1 ≠ I) → Fr h₀ L h (fun z => if z = y then some (pr i).2 else if z = x then some (pr i).1 else m₁ z) → News h₀ L h (news₁ ++ [(I, oI)]) →
      wpAny (model prog w) A (execs body (envOf nm sc L a cd)) (FPost h₀ L I oI (J (i + 1)) s Q) NoE { s with heap := h, toks := tk })
    (done : ∀ m₁ news₁ h tk, s.toks ≤ tk → J vs.length m₁ news₁ → Fr h₀ L h m₁ → News h₀ L h news₁ → Q .next { s with heap := h, toks := tk })
    (hx : (envOf nm sc L a cd).kindOf x = some .local := by rfl) (hy : (envOf nm sc L a cd).kindOf y = some .local := by rfl)
    (hp : (sc.kind == .class || (sc.kind == .module && L != mainGlobals)) = false := by rfl) :
    wpAny (model prog w) A (pyIter (.ref l)) (fun it s₂ => codeAny (model prog w) A (.forLoop (.Tuple [.Name x px, .Name y py] k1 pt) it body [] (envOf nm sc L a cd)) (fun r s' => match r with | .ok f => Q f s' | .error e => cameBackBy (model prog w) A (envOf nm sc L a cd) E e s') s₂) E s :=
  iter_pairs (env := envOf nm sc L a cd) J pr hh hol hcl hda hst hT F N h0 turn done hx hy hp

theorem while_rule {test : Expr} {orelse : List Stmt} {pos : Pos} (Iv : Nat → Shared → Prop)
    (turn : ∀ n s, Iv n s → wpAny (model prog w) A (isTrue test env (eval test env)) (fun b s₂ =>
      if b then wpAny (model prog w) A (execs body env) (fun f s₃ => match f with
          | .next | .cont => Stop (∃ m, m < n ∧ Iv m s₃)
          | .brk => Q .next s₃
          | .ret v => Q (.ret v) s₃) NoE s₂
      else wpAny (model prog w) A (execs orelse env) Q NoE s₂) NoE s)
    (n : Nat) (h : Iv n s) : wpAny (model prog w) A (exec (.While test body orelse pos) env) Q E s := by
  refine wpAny_While (codeAny_whileLoop Iv (fun n s hI => ?_) n h)
  refine noE (wpAny_mono (turn n s hI) (fun b s₂ h₂ => ?_) fun _ _ x => x)
  cases b with
  | true => 
    simp only [if_true] at h₂ ⊢
    exact noE h₂
  | false =>
    simp only [Bool.false_eq_true, if_false] at h₂ ⊢
    exact noE h₂
end

theorem Fr.know {h₀ h : Heap} {L : Addr} {m : Str → Option Value} {x : Str} {v : Value} (F : Fr h₀ L h m) (e : m x = some v) : Fr h₀ L h (fun y => if y = x then some v else m y) := by
  have : (fun y => if y = x then some v else m y) = m := by
    funext y
    by_cases hy : y = x
    · rw [if_pos hy, hy, e]
    · rw [if_neg hy]
  rw [this]; exact F

theorem Fr.know2 {h₀ h : Heap} {L : Addr} {m : Str → Option Value} {x z : Str} {v u : Value} (F : Fr h₀ L h (fun y => if y = x then some v else m y)) (e : m z = some u) : Fr h₀ L h (fun y => if y = x then some v else if y = z then some u else m y) := by
  have : (fun y => if y = z then some u else m y) = m := by
    funext y
    by_cases hy : y = z
    · rw [if_pos hy, hy, e]
    · rw [if_neg hy]
  have e2 : (fun y => if y = x then some v else if y = z then some u else m y) = fun y => if y = x then some v else m y := by
    funext y; rw [congrFun this y]
  rw [e2]; exact F

theorem isList_of {h : Heap} {a : Addr} {its : Array Value} {n : Nat} (e : h.get? a = some (listOf its n)) : h.IsList a its := ⟨_, e, rfl, _, rfl⟩
theorem fmod_nonneg' (a : Int) {n : Int} (hn : 0 < n) : 0 ≤ a.fmod n := Int.fmod_nonneg_of_pos a hn
theorem fmod_lt' (a : Int) {n : Int} (hn : 0 < n) : a.fmod n < n := Int.fmod_lt_of_pos a hn

theorem mid {α : Type} {M : Model} {A : Around} {t : Sem α} {Q : α → Shared → Prop} {E : Value → Shared → Prop} {s : Shared} (Mid : α → Shared → Prop) (h : wpAny M A t Mid NoE s) (h2 : ∀ a s', Mid a s' → Q a s') : wpAny M A t Q E s :=
  wpAny_mono h h2 (fun _ _ x => x.elim)

theorem Fr.drop2 {h₀ h : Heap} {L : Addr} {m : Str → Option Value} {x : Str} {v u : Option Value} (F : Fr h₀ L h (fun y => if y = x then v else if y = x then u else m y)) : Fr h₀ L h (fun y => if y = x then v else m y) := by
  have : (fun y => if y = x then v else if y = x then u else m y) = fun y => if y = x then v else m y := by
    funext y; by_cases hy : y = x <;> simp [hy]
  rw [← this]; exact F
theorem IntsAre.item_int : ∀ {vs : List Value} {ns : List Int}, IntsAre vs ns → ∀ {i : Nat} {v : Value}, vs[i]? = some v → ∃ x t, v = .int x t := by
  intro vs ns hI i v hv
  have hl := hI.length
  obtain ⟨h1, h2⟩ := List.getElem?_eq_some_iff.mp hv
  obtain ⟨t, e⟩ := hI.get i ns[i] (by simp)
  rw [hv] at e
  exact ⟨_, _, Option.some.inj e⟩

theorem ne_look {m : Str → Option Value} {x z : Str} {v u : Option Value} (h : z ≠ x) (e : m z = u) : (fun y => if y = x then v else m y) z = u := by
  show (if z = x then v else m z) = u
  rw [if_neg h]; exact e

theorem ne_look2 {m : Str → Option Value} {x x2 z : Str} {v v2 u : Option Value} (h : z ≠ x) (h2 : z ≠ x2) (e : m z = u) : (fun y => if y = x then v else if y = x2 then v2 else m y) z = u := by
  show (if z = x then v else if z = x2 then v2 else m z) = u
  rw [if_neg h, if_neg h2]; exact e
theorem ne_look3 {m : Str → Option Value} {x x2 x3 z : Str} {v v2 v3 u : Option Value} (h : z ≠ x) (h2 : z ≠ x2) (h3 : z ≠ x3) (e : m z = u) : (fun y => if y = x then v else if y = x2 then v2 else if y = x3 then v3 else m y) z = u := by
  show (if z = x then v else if z = x2 then v2 else if z = x3 then v3 else m z) = u
  rw [if_neg h, if_neg h2, if_neg h3]; exact e
theorem ne_look4 {m : Str → Option Value} {x x2 x3 x4 z : Str} {v v2 v3 v4 u : Option Value} (h : z ≠ x) (h2 : z ≠ x2) (h3 : z ≠ x3) (h4 : z ≠ x4) (e : m z = u) : (fun y => if y = x then v else if y = x2 then v2 else if y = x3 then v3 else if y = x4 then v4 else m y) z = u := by
  show (if z = x then v else if z = x2 then v2 else if z = x3 then v3 else if z = x4 then v4 else m z) = u
  rw [if_neg h, if_neg h2, if_neg h3, if_neg h4]; exact e
theorem know_eq1 {m : Str → Option Value} {x0 : Str} {u0 : Value} (e0 : m x0 = some u0) : m = fun y => if y = x0 then some u0 else m y := by
  funext y
  by_cases h0 : y = x0
  · subst h0; simp [e0]
  simp [h0]
theorem know_eq2 {m : Str → Option Value} {x0 x1 : Str} {u0 u1 : Value} (e0 : m x0 = some u0) (e1 : m x1 = some u1) : m = fun y => if y = x0 then some u0 else if y = x1 then some u1 else m y := by
  funext y
  by_cases h0 : y = x0
  · subst h0; simp [e0]
  by_cases h1 : y = x1
  · subst h1; simp [e1, h0]
  simp [h0, h1]
theorem know_eq3 {m : Str → Option Value} {x0 x1 x2 : Str} {u0 u1 u2 : Value} (e0 : m x0 = some u0) (e1 : m x1 = some u1) (e2 : m x2 = some u2) : m = fun y => if y = x0 then some u0 else if y = x1 then some u1 else if y = x2 then some u2 else m y := by
  funext y
  by_cases h0 : y = x0
  · subst h0; simp [e0]
  by_cases h1 : y = x1
  · subst h1; simp [e1, h0]
  by_cases h2 : y = x2
  · subst h2; simp [e2, h0, h1]
  simp [h0, h1, h2]
theorem know_eq4 {m : Str → Option Value} {x0 x1 x2 x3 : Str} {u0 u1 u2 u3 : Value} (e0 : m x0 = some u0) (e1 : m x1 = some u1) (e2 : m x2 = some u2) (e3 : m x3 = some u3) : m = fun y => if y = x0 then some u0 else if y = x1 then some u1 else if y = x2 then some u2 else if y = x3 then some u3 else m y := by
  funext y
  by_cases h0 : y = x0
  · subst h0; simp [e0]
  by_cases h1 : y = x1
  · subst h1; simp [e1, h0]
  by_cases h2 : y = x2
  · subst h2; simp [e2, h0, h1]
  by_cases h3 : y = x3
  · subst h3; simp [e3, h0, h1, h2]
  simp [h0, h1, h2, h3]
theorem know_eq5 {m : Str → Option Value} {x0 x1 x2 x3 x4 : Str} {u0 u1 u2 u3 u4 : Value} (e0 : m x0 = some u0) (e1 : m x1 = some u1) (e2 : m x2 = some u2) (e3 : m x3 = some u3) (e4 : m x4 = some u4) : m = fun y => if y = x0 then some u0 else if y = x1 then some u1 else if y = x2 then some u2 else if y = x3 then some u3 else if y = x4 then some u4 else m y := by
  funext y
  by_cases h0 : y = x0
  · subst h0; simp [e0]
  by_cases h1 : y = x1
  · subst h1; simp [e1, h0]
  by_cases h2 : y = x2
  · subst h2; simp [e2, h0, h1]
  by_cases h3 : y = x3
  · subst h3; simp [e3, h0, h1, h2]
  by_cases h4 : y = x4
  · subst h4; simp [e4, h0, h1, h2, h3]
  simp [h0, h1, h2, h3, h4]
theorem know_eq6 {m : Str → Option Value} {x0 x1 x2 x3 x4 x5 : Str} {u0 u1 u2 u3 u4 u5 : Value} (e0 : m x0 = some u0) (e1 : m x1 = some u1) (e2 : m x2 = some u2) (e3 : m x3 = some u3) (e4 : m x4 = some u4) (e5 : m x5 = some u5) : m = fun y => if y = x0 then some u0 else if y = x1 then some u1 else if y = x2 then some u2 else if y = x3 then some u3 else if y = x4 then some u4 else if y = x5 then some u5 else m y := by
  funext y
  by_cases h0 : y = x0
  · subst h0; simp [e0]
  by_cases h1 : y = x1
  · subst h1; simp [e1, h0]
  by_cases h2 : y = x2
  · subst h2; simp [e2, h0, h1]
  by_cases h3 : y = x3
  · subst h3; simp [e3, h0, h1, h2]
  by_cases h4 : y = x4
  · subst h4; simp [e4, h0, h1, h2, h3]
  by_cases h5 : y = x5
  · subst h5; simp [e5, h0, h1, h2, h3, h4]
  simp [h0, h1, h2, h3, h4, h5]
theorem know_eq7 {m : Str → Option Value} {x0 x1 x2 x3 x4 x5 x6 : Str} {u0 u1 u2 u3 u4 u5 u6 : Value} (e0 : m x0 = some u0) (e1 : m x1 = some u1) (e2 : m x2 = some u2) (e3 : m x3 = some u3) (e4 : m x4 = some u4) (e5 : m x5 = some u5) (e6 : m x6 = some u6) : m = fun y => if y = x0 then some u0 else if y = x1 then some u1 else if y = x2 then some u2 else if y = x3 then some u3 else if y = x4 then some u4 else if y = x5 then some u5 else if y = x6 then some u6 else m y := by
  funext y
  by_cases h0 : y = x0
  · subst h0; simp [e0]
  by_cases h1 : y = x1
  · subst h1; simp [e1, h0]
  by_cases h2 : y = x2
  · subst h2; simp [e2, h0, h1]
  by_cases h3 : y = x3
  · subst h3; simp [e3, h0, h1, h2]
  by_cases h4 : y = x4
  · subst h4; simp [e4, h0, h1, h2, h3]
  by_cases h5 : y = x5
  · subst h5; simp [e5, h0, h1, h2, h3, h4]
  by_cases h6 : y = x6
  · subst h6; simp [e6, h0, h1, h2, h3, h4, h5]
  simp [h0, h1, h2, h3, h4, h5, h6]
theorem know_eq8 {m : Str → Option Value} {x0 x1 x2 x3 x4 x5 x6 x7 : Str} {u0 u1 u2 u3 u4 u5 u6 u7 : Value} (e0 : m x0 = some u0) (e1 : m x1 = some u1) (e2 : m x2 = some u2) (e3 : m x3 = some u3) (e4 : m x4 = some u4) (e5 : m x5 = some u5) (e6 : m x6 = some u6) (e7 : m x7 = some u7) : m = fun y => if y = x0 then some u0 else if y = x1 then some u1 else if y = x2 then some u2 else if y = x3 then some u3 else if y = x4 then some u4 else if y = x5 then some u5 else if y = x6 then some u6 else if y = x7 then some u7 else m y := by
  funext y
  by_cases h0 : y = x0
  · subst h0; simp [e0]
  by_cases h1 : y = x1
  · subst h1; simp [e1, h0]
  by_cases h2 : y = x2
  · subst h2; simp [e2, h0, h1]
  by_cases h3 : y = x3
  · subst h3; simp [e3, h0, h1, h2]
  by_cases h4 : y = x4
  · subst h4; simp [e4, h0, h1, h2, h3]
  by_cases h5 : y = x5
  · subst h5; simp [e5, h0, h1, h2, h3, h4]
  by_cases h6 : y = x6
  · subst h6; simp [e6, h0, h1, h2, h3, h4, h5]
  by_cases h7 : y = x7
  · subst h7; simp [e7, h0, h1, h2, h3, h4, h5, h6]
  simp [h0, h1, h2, h3, h4, h5, h6, h7]

theorem Fr.stays {h₀ h h' : Heap} {L : Addr} {m : Str → Option Value} (F : Fr h₀ L h m) (st : h.StaysIn h') : Fr h₀ L h' m :=
  ⟨F.ns.keeps st, fun b o e => st b o (F.keep b o e), F.above⟩
theorem News.stays {h₀ h h' : Heap} {L : Addr} {news : List (Addr × Obj)} (N : News h₀ L h news) (st : h.StaysIn h') : News h₀ L h' news :=
  fun p hp => ⟨st _ _ (N p hp).1, (N p hp).2⟩

theorem news_reorder {h₀ h : Heap} {L : Addr} {a b d : Addr × Obj} {tups r : List (Addr × Obj)} (N : News h₀ L h (d :: a :: b :: (tups ++ r))) : News h₀ L h (a :: b :: ((tups ++ [d]) ++ r)) :=
  News.sub N fun p hp => by
    simp only [List.mem_cons, List.mem_append, List.mem_singleton, List.not_mem_nil, or_false] at hp ⊢
    rcases hp with h | h | (h | h) | h <;> simp [h]
end Mine
end -- B2
section -- B3
open PySem PySem.W PySem.Calls PyProof.Rows
set_option Elab.async false
set_option maxRecDepth 100000
namespace Mine
section
variable {prog : Program} {w : World} {A : Around} {E : Value → Shared → Prop} {s : Shared} {h₀ : Heap} {L : Addr} {m : Str → Option Value} {news news' : List (Addr × Obj)}

theorem inplaceOp_seq {M : Model} {a b : Value} {T id : String} {Q : Value → Shared → Prop} (ha : s.TypeIs a T) (hb : s.TypeIs b T)
    (hi : typeLookup (.type T) (dunderI "add") = pure (some (.builtin id))) (hq : isSeqSlot (some (.builtin id)) = true) (hfill : fillsNumberSlot (.type T) "add" = pure false)
    (hc : wpAny M A (call (.builtin id) [a, b]) Q E s) : wpAny M A (inplaceOp .Add a b) Q E s := by
  unfold inplaceOp
  refine wpAny_holding ?_
  have hfi : fillsInplaceSlot (.type T) "add" (Operator.Add == .Add) = pure false := by
    unfold fillsInplaceSlot
    show (typeLookup (.type T) (dunderI "add") >>= fun fi => pure (fi.isSome && !isSeqSlot fi)) = pure false
    rw [hi]
    show (pure ((some (Value.builtin id)).isSome && !isSeqSlot (some (.builtin id))) : Sem Bool) = pure false
    rw [hq]; rfl
  have hsi : seqSlot? (.type T) (dunderI "add") = pure (some (.builtin id)) := by
    unfold seqSlot?
    rw [hi]
    show (if (!isSeqSlot (some (Value.builtin id))) = true then _ else _) = _
    rw [hq]; rfl
  refine wpAny_bind (wpAny_typeOf ha (wpAny_bind (wpAny_of_eq hfi ?_)))
  show wpAny M A (if false = true then _ else _) Q E s
  rw [if_neg Bool.false_ne_true]
  refine wpAny_bind (binaryOp1_none (nm := "add") ha hb hfill ?_)
  refine wpAny_bind (wpAny_of_eq hsi ?_)
  exact wpAny_bind (wpAny_rule hc)

theorem iadd_K {l b : Addr} {its its2 : Array Value} {n n2 : Nat} {Q : Value → Shared → Prop} (F : Fr h₀ L s.heap m) (N : News h₀ L s.heap news) (hb : (b, listOf its2 n2) ∈ news)
    (U : Upd l (listOf its n) (listOf (its ++ its2) (if (its ++ its2).size == its.size then n else n + 1)) news news') (hsz : its.size + its2.size ≤ 1000)
    (h : ∀ h', Fr h₀ L h' m → News h₀ L h' news' → Q (.ref l) { s with heap := h' }) : wpAny (model prog w) A (inplaceOp .Add (.ref l) (.ref b)) Q E s := by
  obtain ⟨pre, post, rfl, rfl, ha, hbn⟩ := U.split
  have z := N (l, listOf its n) (List.mem_append.mpr (.inr (.head _)))
  have zb := N (b, listOf its2 n2) hb
  have hT : s.TypeIs (.ref l) "list" := ⟨_, z.1, rfl⟩
  have hT2 : s.TypeIs (.ref b) "list" := ⟨_, zb.1, rfl⟩
  refine inplaceOp_seq hT hT2 PySem.F.slot_list_iadd.lookup (by decide +kernel) noFill_list_add ?_
  refine call_meets PySem.F.slot_list_iadd hT PySem.F.entry_list_iadd (PySem.F.args_list_iadd_2 _ _) (AutoSeq1.list___iadd___list_list_0 l its n b its2 n2 ?_ (by rw [sizeLine_eq]; omega) (by rw [sizeLine_eq]; omega)) ⟨z.1, zb.1, ?_⟩
  · simp [Builtin.List.listTooLong]; intro _; rw [sizeLine_eq]; omega
  · obtain ⟨F', N'⟩ := news_upd (f := Obj.mapSeq fun x => x ++ its2) F N ha hbn rfl rfl
    exact h _ F' N'

theorem iadd_KF {l b : Addr} {its its2 : Array Value} {n n2 : Nat} {g : Obj → List (Addr × Obj)} {Q : Value → Shared → Prop} (P : Array Value → Prop) (F : Fr h₀ L s.heap m) (N : News h₀ L s.heap news) (hb : (b, listOf its2 n2) ∈ news)
    (U : UpdF l (listOf its n) news g) (hsz : its.size + its2.size ≤ 1000) (hP : P (its ++ its2))
    (h : ∀ h' W e, P W → Fr h₀ L h' m → News h₀ L h' (g (listOf W e)) → Q (.ref l) { s with heap := h' }) : wpAny (model prog w) A (inplaceOp .Add (.ref l) (.ref b)) Q E s := by
  obtain ⟨pre, post, rfl, hg, ha, hbn⟩ := U.split
  have z := N (l, listOf its n) (List.mem_append.mpr (.inr (.head _)))
  have zb := N (b, listOf its2 n2) hb
  have hT : s.TypeIs (.ref l) "list" := ⟨_, z.1, rfl⟩
  have hT2 : s.TypeIs (.ref b) "list" := ⟨_, zb.1, rfl⟩
  refine inplaceOp_seq hT hT2 PySem.F.slot_list_iadd.lookup (by decide +kernel) noFill_list_add ?_
  refine call_meets PySem.F.slot_list_iadd hT PySem.F.entry_list_iadd (PySem.F.args_list_iadd_2 _ _) (AutoSeq1.list___iadd___list_list_0 l its n b its2 n2 ?_ (by rw [sizeLine_eq]; omega) (by rw [sizeLine_eq]; omega)) ⟨z.1, zb.1, ?_⟩
  · simp [Builtin.List.listTooLong]; intro _; rw [sizeLine_eq]; omega
  · obtain ⟨F', N'⟩ := news_upd (f := Obj.mapSeq fun x => x ++ its2) F N ha hbn rfl rfl
    exact h _ _ _ hP F' (hg _ ▸ N')

theorem item_last {value slice : Expr} {l : Addr} {its : Array Value} {x : Value} {u : Tok} {Q : Value → Shared → Prop} (hl : s.heap.IsList l (its.push x)) (hz : its.size < 100000) (h : Q x s)
    (hs : subscripted slice false (.ref l) (.int (-1) u) = operate [.ref l, .int (-1) u] (getItem (.ref l) (.int (-1) u)) := by with_unfolding_all rfl) :
    wpAny (model prog w) A (subscriptTail value slice (.ref l) (.int (-1) u)) Q E s :=
  tail_any hl.typeIs slot_list_getitem.lookup (wpAny_getItem_list_neg hl (by decide) (by rw [Array.size_push]; omega) (by decide) (by
    rw [Array.size_push, show ((-1 : Int) + ((its.size + 1 : Nat) : Int)).toNat = its.size by omega]; simp) h) hs
end
end Mine
end -- B3
section -- S1
open PySem PySem.W PySem.Calls PyProof.Rows
set_option Elab.async false
set_option maxRecDepth 100000
set_option maxHeartbeats 8000000
namespace Mine
local macro_rules | `(tactic| walk_at "mfill") => `(tactic| (w_top off; (have kf : PySem.Challenge.rw_mr0297_01 = PySem.Challenge.rw_mr0297_01 ∧ hd.heap_39 = hd.heap_39 := (by (k_fill; exact ⟨rfl, rfl⟩))); clear kf))
local macro_rules | `(tactic| walk_at "go") => `(tactic| repeat' (first | walk1 | (dsimp only; walk1)))
local macro_rules | `(tactic| walk_at "execs cons") => `(tactic| refine wpAny_execs_cons ?_)
local macro_rules | `(tactic| walk_at "execs nil") => `(tactic| refine wpAny_execs_nil ?_)
local macro_rules | `(tactic| k_room) => `(tactic| ((try simp only [depth_under_make, depth_under_kw, depth_in1, depth_deeper, depth_caller]); (try dsimp only); unfold recursionLimit; omega))
local macro_rules | `(tactic| k_all) => `(tactic| assumption)

/-- an object of _NodeInfo -/
abbrev nodeObj (dx l : Addr) (np : Int) (pt : Tok) (key : Str) (kt : Tok) : Obj := ⟨.ref 72, some dx, .plain, #[some (.str key kt), some (.int np pt), some (.ref l)]⟩

/-- the dict of a sorter's own attributes -/
abbrev attrObj (w : World) (D : Addr) (rdy np nf : Value) (t1 t2 t3 t4 : Tok) : Obj :=
  dictOf [⟨PyData.keyHash w.params (Str.ofString "_node2info"), .str (Str.ofString "_node2info") t1, .ref D⟩,
    ⟨PyData.keyHash w.params (Str.ofString "_ready_nodes"), .str (Str.ofString "_ready_nodes") t2, rdy⟩,
    ⟨PyData.keyHash w.params (Str.ofString "_npassedout"), .str (Str.ofString "_npassedout") t3, np⟩,
    ⟨PyData.keyHash w.params (Str.ofString "_nfinished"), .str (Str.ofString "_nfinished") t4, nf⟩] 4

/-- one node of a sorter -/
structure Nd where
  a : Addr
  dx : Addr
  l : Addr
  key : Str
  kt : Tok
  np : Int
  pt : Tok
  vs : Array Value
  ep : Nat

abbrev Nd.objs (n : Nd) : List (Addr × Obj) := [(n.a, nodeObj n.dx n.l n.np n.pt n.key n.kt), (n.dx, dictOf [] 0), (n.l, listOf n.vs n.ep)]
def nodesL (ns : List Nd) : List (Addr × Obj) := ns.flatMap Nd.objs
def kvsOf (ns : List Nd) : List (Str × Value) := ns.map fun n => (n.key, .ref n.a)
def ND (news : List (Addr × Obj)) : Prop := (news.map (·.1)).Nodup

theorem nodesL_app (a b : List Nd) : nodesL (a ++ b) = nodesL a ++ nodesL b := by simp [nodesL]
theorem nodesL_cons (n : Nd) (b : List Nd) : nodesL (n :: b) = n.objs ++ nodesL b := by simp [nodesL]
theorem nodesL_nil : nodesL [] = [] := rfl
theorem ND.perm {a b : List (Addr × Obj)} (h : ND a) (p : a.Perm b) : ND b := by
  unfold ND at *
  exact (List.Perm.nodup_iff (List.Perm.map _ p)).mp h
theorem ND.tail {p : Addr × Obj} {r : List (Addr × Obj)} (h : ND (p :: r)) : ND r := (List.nodup_cons.mp h).2
theorem ND.ne {a : Addr} {o : Obj} {r : List (Addr × Obj)} (h : ND ((a, o) :: r)) : ∀ p ∈ r, p.1 ≠ a := by
  intro p hp e
  unfold ND at h
  rw [List.map_cons, List.nodup_cons] at h
  exact h.1 (List.mem_map.mpr ⟨p, hp, e⟩)
theorem ND.cons {a : Addr} {o : Obj} {r : List (Addr × Obj)} (h : ND r) (l : ∀ p ∈ r, p.1 ≠ a) : ND ((a, o) :: r) :=
  List.nodup_cons.mpr ⟨fun hm => by obtain ⟨p, hp, e⟩ := List.mem_map.mp hm; exact l p hp e, h⟩
theorem ND.consLt {a : Addr} {o : Obj} {r : List (Addr × Obj)} (h : ND r) (l : ∀ p ∈ r, p.1 < a) : ND ((a, o) :: r) :=
  h.cons fun p hp => Nat.ne_of_lt (l p hp)
theorem ND.same {a b : List (Addr × Obj)} (h : ND a) (e : a.map (·.1) = b.map (·.1)) : ND b := by unfold ND at *; rw [← e]; exact h
theorem allLt_get {d : Nat} {l : List (Addr × Obj)} (h : AllLt d l) : ∀ p ∈ l, p.1 < d := by
  induction l with
  | nil => intro p hp; cases hp
  | cons q r ih =>
    intro p hp
    rcases List.mem_cons.mp hp with e | hp
    · subst e; exact h.1
    · exact ih h.2 p hp

theorem News.permP {h₀ h : Heap} {L : Addr} {a b : List (Addr × Obj)} (N : News h₀ L h a) (p : a.Perm b) : News h₀ L h b := News.sub N fun _ hq => p.mem_iff.mpr hq
theorem perm_focus {α : Type} (X P N Q R : List α) : (X ++ (P ++ (N ++ Q) ++ R)).Perm (N ++ (X ++ (P ++ Q ++ R))) := by
  have := List.perm_append_comm_assoc (X ++ P) N (Q ++ R)
  simpa only [List.append_assoc] using this
/-- a node's three objects to the front -/
theorem focus (x y z : Addr × Obj) (pre post : List Nd) (n : Nd) (R : List (Addr × Obj)) :
    (x :: y :: z :: (nodesL (pre ++ n :: post) ++ R)).Perm ((n.a, nodeObj n.dx n.l n.np n.pt n.key n.kt) :: (n.dx, dictOf [] 0) :: (n.l, listOf n.vs n.ep) :: x :: y :: z :: (nodesL (pre ++ post) ++ R)) := by
  rw [nodesL_app, nodesL_cons, nodesL_app]
  exact perm_focus [x, y, z] (nodesL pre) n.objs (nodesL post) R

theorem news_three {h₀ h : Heap} {L : Addr} {a b c : Addr × Obj} {r : List (Addr × Obj)} (N : News h₀ L h (c :: a :: b :: r)) : News h₀ L h (a :: b :: c :: r) :=
  News.sub N fun p hp => by
    simp only [List.mem_cons] at hp ⊢
    rcases hp with h | h | h | h <;> simp [h]

theorem newNode : ∀ {w : World} {A A₀ : Around} {p : Program} {loose : List Str} {mean : ExcName → Option Value} {mg mb : Str → Option Value} {base h₀ : Heap} {s : Shared}
   {env : Env} {L : Addr} {m : Str → Option Value} {news : List (Addr × Obj)} {outer : List Env} {key : Str} {kt : Tok}
   {Q : Value → Shared → Prop} {E : Value → Shared → Prop},
   (hd.heap_39 w.params).In h₀ → Top p loose mean mg mb h₀ → Below A₀ base outer h₀ → A.frames = some (env :: outer) → env.frame = some L → env.scope.kind = .function →
   Fr h₀ L s.heap m → News h₀ L s.heap news → A.depth < 900 →
   (∀ a dx l pt h' tk, Fr h₀ L h' m → News h₀ L h' ((a, nodeObj dx l 0 pt key kt) :: (dx, dictOf [] 0) :: (l, listOf #[] 0) :: news) → (∀ p ∈ news, p.1 < dx) → dx < a → a < l → Q (.ref a) { s with heap := h', toks := tk }) →
   wpAny (model PG w) A (call (.ref 72) [.str key kt] []) Q E s := by
  walk_at "mfill"
  intro w A A₀ p loose mean mg mb base h₀ s env L m news outer key kt Q E X T B hfr hef hek F N hd hQ
  obtain ⟨ah, ad, af, ag, au⟩ := A
  obtain rfl : af = some (env :: outer) := hfr
  dsimp only at hd
  refine' call_cls ?k1 ?k2 ?k3 ?k4 ?k5 ?k6 ?_
  case k1 => k_asm
  case k2 => k_asm
  case k3 => k_asm
  case k4 => k_is
  case k5 => k_is
  case k6 => k_is
  intro x' d' h' F' N' l1 l2
  have hx : ∀ p ∈ news, p.1 ≠ x' := fun p hp => Nat.ne_of_lt (Nat.lt_trans (l1 p hp) l2)
  have l3 := ltN l2
  clear F N
  refine' code_def ?k1 ?k2 ?k3 ?k4 ?k5 ?kA ?kF ?kK ?k6 ?k7 ?k8 ?k9 ?kB ?_ ?c2 ?c3 ?c4 ?c5
  case k1 => k_asm
  case k2 => exact F'
  case k3 => k_asm
  case k4 => exact N'
  case k5 => k_asm
  case kA => exact rfl
  case kF => exact hef
  case kK => exact hek
  case k6 => k_is
  case k7 => k_is
  case k8 => k_room
  case k9 => exact BindsTo.of_eq rfl
  case kB => exact locs rfl
  case c2 => exact rfl
  case c3 => exact rfl
  case c4 => exact rfl
  case c5 => decide
  intro g' L' h1 FG' F1 N1 B' X' T'
  clear F' N'
  k_fold
  walk_at "go"
  rename_i l' h5 l1' h6 F6 N6 kF kN Tc' kX
  have hxl := l1'.1
  exact hQ x' d' l' _ _ _ kF (news_three kN) l1 l2 hxl
end Mine
end -- S1
section -- S2
open PySem PySem.W PySem.Calls PyProof.Rows
set_option Elab.async false
set_option maxRecDepth 100000
set_option maxHeartbeats 8000000
namespace Mine
local macro_rules | `(tactic| walk_at "no such key") => `(tactic| skip)
local macro_rules | `(tactic| walk_at "mfill") => `(tactic| (w_top off; (have kf : PySem.Challenge.rw_mr0297_01 = PySem.Challenge.rw_mr0297_01 ∧ hd.heap_39 = hd.heap_39 := (by (k_fill; exact ⟨rfl, rfl⟩))); clear kf))
local macro_rules | `(tactic| walk_at "go") => `(tactic| repeat' (first | walk1 | (dsimp only; walk1)))
local macro_rules | `(tactic| walk_at "execs cons") => `(tactic| refine wpAny_execs_cons ?_)
local macro_rules | `(tactic| walk_at "execs nil") => `(tactic| refine wpAny_execs_nil ?_)
local macro_rules | `(tactic| k_room) => `(tactic| ((try simp only [depth_under_make, depth_under_kw, depth_in1, depth_deeper, depth_caller]); (try dsimp only); unfold recursionLimit; omega))
local macro_rules | `(tactic| k_all) => `(tactic| assumption)

theorem news_rot {h₀ h : Heap} {L : Addr} {a b c : Addr × Obj} {r : List (Addr × Obj)} (N : News h₀ L h (c :: a :: b :: r)) : News h₀ L h (a :: b :: c :: r) := news_three N

theorem newSorter : ∀ {w : World} {A A₀ : Around} {p : Program} {loose : List Str} {mean : ExcName → Option Value} {mg mb : Str → Option Value} {base h₀ : Heap} {s : Shared}
   {env : Env} {L : Addr} {m : Str → Option Value} {news : List (Addr × Obj)} {outer : List Env}
   {Q : Value → Shared → Prop} {E : Value → Shared → Prop},
   (hd.heap_39 w.params).In h₀ → Top p loose mean mg mb h₀ → Below A₀ base outer h₀ → A.frames = some (env :: outer) → env.frame = some L → env.scope.kind = .function →
   Fr h₀ L s.heap m → News h₀ L s.heap news → A.depth < 900 → ND news →
   (∀ S dS D oD t1 t2 t3 t4 t5 t6 h' tk, Fr h₀ L h' m → News h₀ L h' ((S, instObj 169 dS) :: (dS, attrObj w D .none (.int 0 t5) (.int 0 t6) t1 t2 t3 t4) :: (D, oD) :: news) →
      ND ((S, instObj 169 dS) :: (dS, attrObj w D .none (.int 0 t5) (.int 0 t6) t1 t2 t3 t4) :: (D, oD) :: news) → (D == sysModules) = false → oD.IsDictOf (PySem.strKind PG w) [] → Q (.ref S) { s with heap := h', toks := tk }) →
   wpAny (model PG w) A (call (.ref 169) [] []) Q E s := by
  walk_at "mfill"
  intro w A A₀ p loose mean mg mb base h₀ s env L m news outer Q E X T B hfr hef hek F N hd hnd hQ
  obtain ⟨ah, ad, af, ag, au⟩ := A
  obtain rfl : af = some (env :: outer) := hfr
  dsimp only at hd
  refine' call_cls ?k1 ?k2 ?k3 ?k4 ?k5 ?k6 ?_
  case k1 => k_asm
  case k2 => k_asm
  case k3 => k_asm
  case k4 => k_is
  case k5 => k_is
  case k6 => k_is
  intro x' d' h' F' N' l1 l2
  have hx : ∀ p ∈ news, p.1 ≠ x' := fun p hp => Nat.ne_of_lt (Nat.lt_trans (l1 p hp) l2)
  have hdd : ∀ p ∈ news, p.1 ≠ d' := fun p hp => Nat.ne_of_lt (l1 p hp)
  have l3 := ltN l2
  clear F N
  refine' code_def (binds := [(Str.ofString "self", .ref x'), (Str.ofString "graph", .none)]) ?k1 ?k2 ?k3 ?k4 ?k5 ?kA ?kF ?kK ?k6 ?k7 ?k8 ?k9 ?kB ?_ ?c2 ?c3 ?c4 ?c5
  case k1 => k_asm
  case k2 => exact F'
  case k3 => k_asm
  case k4 => exact N'
  case k5 => k_asm
  case kA => exact rfl
  case kF => exact hef
  case kK => exact hek
  case k6 => k_is
  case k7 => k_is
  case k8 => k_room
  case k9 =>
    refine' binds_K ?X ?d ?o ?s ?h1 ?h2
    case X => exact X.keeps F'.keep
    case d => exact rfl
    case o => k_is
    case s => exact rfl
    case h1 => exact rfl
    case h2 => exact rfl
  case kB => exact locs rfl
  case c2 => exact rfl
  case c3 => exact rfl
  case c4 => exact rfl
  case c5 => decide
  intro g' L' h1 FG' F1 N1 B' X' T'
  clear N'
  k_fold
  walk_at "go"
  rename_i D' h2 o' lo' hs' fs' hi' fi' l1' h3 h4 h5 h6 F6 N6 kF kN Tc' kX
  clear F6 N6
  refine hQ x' d' D' o' _ _ _ _ _ _ _ _ kF (news_rot kN) ?_ lo' hs'
  refine ND.cons (ND.cons (ND.consLt hnd (allLt_get l1'.2.2)) ?_) ?_
  · intro p hp
    rcases List.mem_cons.mp hp with rfl | hp
    · exact Nat.ne_of_gt l1'.2.1
    · exact hdd p hp
  · intro p hp
    rcases List.mem_cons.mp hp with rfl | hp
    · exact Nat.ne_of_lt l2
    rcases List.mem_cons.mp hp with rfl | hp
    · exact Nat.ne_of_gt l1'.1
    · exact hx p hp
end Mine
end -- S2
section -- S3
open PySem PySem.W PySem.Calls PyProof.Rows
set_option Elab.async false
set_option maxRecDepth 100000
set_option maxHeartbeats 8000000
namespace Mine
local macro_rules | `(tactic| walk_at "mfill") => `(tactic| (w_top off; (have kf : PySem.Challenge.rw_mr0297_01 = PySem.Challenge.rw_mr0297_01 ∧ hd.heap_39 = hd.heap_39 := (by (k_fill; exact ⟨rfl, rfl⟩))); clear kf))
local macro_rules | `(tactic| walk_at "go") => `(tactic| repeat' (first | walk1 | (dsimp only; walk1)))
local macro_rules | `(tactic| walk_at "execs cons") => `(tactic| refine wpAny_execs_cons ?_)
local macro_rules | `(tactic| walk_at "execs nil") => `(tactic| refine wpAny_execs_nil ?_)
local macro_rules | `(tactic| k_room) => `(tactic| ((try simp only [depth_under_make, depth_under_kw, depth_in1, depth_deeper, depth_caller]); (try dsimp only); unfold recursionLimit; omega))
local macro_rules | `(tactic| k_all) => `(tactic| assumption)
local macro_rules | `(tactic| walk_at "mcode") => `(tactic| (refine' code_def ?k1 ?k2 ?k3 ?k4 ?k5 ?kA ?kF ?kK ?k6 ?k7 ?k8 ?k9 ?kB ?_ ?c2 ?c3 ?c4 ?c5; (case k1 => assumption); (case k2 => assumption); (case k3 => assumption); (case k4 => assumption); (case k5 => assumption); (case kA => exact rfl); (case kF => assumption); (case kK => assumption); (case k6 => k_is); (case k7 => k_is); (case k8 => k_room); (case k9 => exact BindsTo.of_eq rfl); (case kB => exact locs rfl); (case c2 => exact rfl); (case c3 => exact rfl); (case c4 => exact rfl); (case c5 => decide)))
local macro_rules | `(tactic| walk_at "call ref") => `(tactic| ((show wpAny _ _ (call (Value.ref 72) _ _) _ _ _); refine stop ?_))
local macro_rules | `(tactic| walk_at "setItem ref str") => `(tactic| (refine stop ?_))

theorem kvs_find (ns : List Nd) (key : Str) : valueAt (kvsOf ns) key = (ns.find? fun n => n.key = key).map fun n => .ref n.a := by
  unfold valueAt kvsOf
  induction ns with
  | nil => rfl
  | cons n r ih =>
    rw [List.map_cons, List.find?_cons, List.find?_cons]
    by_cases h : n.key = key
    · simp [h]
    · simp only [h, decide_false]; exact ih

theorem kvs_new {ns : List Nd} {key : Str} {v : Value} (h : valueAt (kvsOf ns) key = none) : stored (kvsOf ns) key v = kvsOf ns ++ [(key, v)] := by
  unfold stored
  rw [if_neg]
  intro hc
  obtain ⟨kv, hkv, e⟩ := List.any_eq_true.mp hc
  unfold valueAt at h
  rw [Option.map_eq_none_iff, List.find?_eq_none] at h
  exact h kv hkv e

theorem kvs_app (a b : List Nd) : kvsOf (a ++ b) = kvsOf a ++ kvsOf b := by simp [kvsOf]

theorem getinfo_call : ∀ {w : World} {A A₀ : Around} {p : Program} {loose : List Str} {mean : ExcName → Option Value} {mg mb : Str → Option Value} {base h₀ : Heap} {s : Shared}
   {env : Env} {L : Addr} {m : Str → Option Value} {R : List (Addr × Obj)} {outer : List Env} {S dS D : Addr} {rdy np nf : Value} {t1 t2 t3 t4 : Tok} {oD : Obj} {ns : List Nd} {key : Str} {kt : Tok}
   {Q : Value → Shared → Prop} {E : Value → Shared → Prop},
   (hd.heap_39 w.params).In h₀ → Top p loose mean mg mb h₀ → Below A₀ base outer h₀ → A.frames = some (env :: outer) → env.frame = some L → env.scope.kind = .function →
   Fr h₀ L s.heap m → News h₀ L s.heap ((S, instObj 169 dS) :: (dS, attrObj w D rdy np nf t1 t2 t3 t4) :: (D, oD) :: (nodesL ns ++ R)) → A.depth < 800 → ND ((S, instObj 169 dS) :: (dS, attrObj w D rdy np nf t1 t2 t3 t4) :: (D, oD) :: (nodesL ns ++ R)) →
   (D == sysModules) = false → oD.IsDictOf (PySem.strKind PG w) (kvsOf ns) → ns.length ≤ 10000 →
   (∀ h' tk ns' oD' n, Fr h₀ L h' m → News h₀ L h' ((S, instObj 169 dS) :: (dS, attrObj w D rdy np nf t1 t2 t3 t4) :: (D, oD') :: (nodesL ns' ++ R)) → ND ((S, instObj 169 dS) :: (dS, attrObj w D rdy np nf t1 t2 t3 t4) :: (D, oD') :: (nodesL ns' ++ R)) →
      oD'.IsDictOf (PySem.strKind PG w) (kvsOf ns') → n ∈ ns' → n.key = key → (ns' = ns ∨ ((∀ n' ∈ ns, n'.key ≠ key) ∧ ns' = ns ++ [n] ∧ n.np = 0 ∧ n.vs = #[])) → Q (.ref n.a) { s with heap := h', toks := tk }) →
   wpAny (model PG w) A (call (.ref 112) [.ref S, .str key kt] []) Q E s := by
  walk_at "mfill"
  intro w A A₀ p loose mean mg mb base h₀ s env L m R outer S dS D rdy np nf t1 t2 t3 t4 oD ns key kt Q E X T B hfr hef hek F N hd hnd lo hD hlen hQ
  obtain ⟨ah, ad, af, ag, au⟩ := A
  obtain rfl : af = some (env :: outer) := hfr
  dsimp only at hd
  refine wpAny_call ?_
  walk_at "mcode"
  intro g' L' h1 FG' F1 N1 B' X' T'
  clear F N
  k_fold
  walk_at "go"
  cases hf : ns.find? (fun n => n.key = key) with
  | some n =>
    have hk : valueAt (kvsOf ns) key = some (.ref n.a) := by rw [kvs_find, hf]; rfl
    refine kdg_get1 N1 (.tail _ (.tail _ (.head _))) hD lo (strKind_is _ _ _ _) _ hk ?_
    dsimp only [Option.getD]
    walk_at "go"
    rename Fr h₀ _ _ _ => kF
    rename News h₀ _ _ _ => kN
    exact hQ _ _ ns oD n kF kN hnd hD (List.mem_of_find?_eq_some hf) (of_decide_eq_true (List.find?_some hf :)) (.inl rfl)
  | none =>
    have hk : valueAt (kvsOf ns) key = none := by rw [kvs_find, hf]; rfl
    refine kdg_get1 N1 (.tail _ (.tail _ (.head _))) hD lo (strKind_is _ _ _ _) _ hk ?_
    dsimp only [Option.getD]
    walk_at "go"
    rename Fr g' _ _ _ => F2
    rename News g' _ _ _ => N2
    refine unstop ?_
    refine newNode X' T' B' rfl rfl rfl F2 N2 (by show ad + 1 < 900; omega) ?_
    intro a dx l pt h3 tk F3 N3 l1 l2 l3
    clear F2 N2
    walk_at "go"
    have hDx : D < dx := l1 (D, oD) (.tail _ (.tail _ (.head _)))
    have hSD : S ≠ D := fun e => hnd.ne (D, oD) (.tail _ (.head _)) e.symm
    have hdD : dS ≠ D := fun e => hnd.tail.ne (D, oD) (.head _) e.symm
    refine unstop ?_
    refine kda_set F3 N3 (.tail (Nat.ne_of_gt (Nat.lt_trans hDx l2)) (.tail (Nat.ne_of_gt hDx) (.tail (Nat.ne_of_gt (Nat.lt_trans (Nat.lt_trans hDx l2) l3)) (.tail hSD (.tail hdD (.head hnd.tail.tail.ne)))))) hD (strKind_is _ _ _ _) ?_ ?_
    · rw [sizeLine_eq]; unfold kvsOf; rw [List.length_map]; exact Nat.le_trans hlen (by decide)
    intro h4 oD' F4 N4 hD'
    clear F3 N3
    rw [kvs_new hk] at hD'
    walk_at "go"
    rename Fr h₀ _ _ _ => kF
    rename News h₀ _ _ _ => kN
    have pp : ∀ o : Obj, List.Perm _ _ := fun o => (focus (S, instObj 169 dS) (dS, attrObj w D rdy np nf t1 t2 t3 t4) (D, o) ns [] ⟨a, dx, l, key, kt, 0, pt, #[], 0⟩ R).symm
    simp only [List.append_nil] at pp
    refine hQ _ _ (ns ++ [⟨a, dx, l, key, kt, 0, pt, #[], 0⟩]) oD' ⟨a, dx, l, key, kt, 0, pt, #[], 0⟩ kF (News.permP kN (pp oD')) ?_ (by rw [kvs_app]; exact hD') (by simp) rfl (.inr ⟨?_, rfl, rfl, rfl⟩)
    · have hnd' : ND ((a, nodeObj dx l 0 pt key kt) :: (dx, dictOf [] 0) :: (l, listOf #[] 0) :: (S, instObj 169 dS) :: (dS, attrObj w D rdy np nf t1 t2 t3 t4) :: (D, oD') :: (nodesL ns ++ R)) := by
        have hl : ∀ q ∈ ((S, instObj 169 dS) :: (dS, attrObj w D rdy np nf t1 t2 t3 t4) :: (D, oD') :: (nodesL ns ++ R)), q.1 < dx := by
          intro q hq
          simp only [List.mem_cons] at hq
          rcases hq with e | e | e | hq
          · subst e; exact l1 (S, instObj 169 dS) (.head _)
          · subst e; exact l1 (dS, _) (.tail _ (.head _))
          · subst e; exact hDx
          · exact l1 q (.tail _ (.tail _ (.tail _ hq)))
        refine ND.cons (ND.cons (ND.consLt (ND.same hnd rfl) fun q hq => Nat.lt_trans (hl q hq) (Nat.lt_trans l2 l3)) ?_) ?_
        · intro q hq
          rcases List.mem_cons.mp hq with e | hq
          · subst e; exact Nat.ne_of_gt (Nat.lt_trans l2 l3)
          · exact Nat.ne_of_lt (hl q hq)
        · intro q hq
          rcases List.mem_cons.mp hq with e | hq
          · subst e; exact Nat.ne_of_lt l2
          rcases List.mem_cons.mp hq with e | hq
          · subst e; exact Nat.ne_of_gt l3
          · exact Nat.ne_of_lt (Nat.lt_trans (hl q hq) l2)
      exact hnd'.perm (pp oD')
    · intro n' hn' e
      have := List.find?_eq_none.mp hf n' hn'
      exact this (decide_eq_true e)
end Mine
end -- S3
section -- S4
open PySem PySem.W PySem.Calls PyProof.Rows
set_option Elab.async false
set_option maxRecDepth 100000
set_option maxHeartbeats 8000000
namespace Mine
local macro_rules | `(tactic| walk_at "no such key") => `(tactic| skip)
local macro_rules | `(tactic| walk_at "mfill") => `(tactic| (w_top off; (have kf : PySem.Challenge.rw_mr0297_01 = PySem.Challenge.rw_mr0297_01 ∧ hd.heap_39 = hd.heap_39 := (by (k_fill; exact ⟨rfl, rfl⟩))); clear kf))
local macro_rules | `(tactic| walk_at "go") => `(tactic| repeat' (first | walk1 | (dsimp only; walk1)))
local macro_rules | `(tactic| walk_at "execs cons") => `(tactic| refine wpAny_execs_cons ?_)
local macro_rules | `(tactic| walk_at "execs nil") => `(tactic| refine wpAny_execs_nil ?_)
local macro_rules | `(tactic| k_room) => `(tactic| ((try simp only [depth_under_make, depth_under_kw, depth_in1, depth_deeper, depth_caller]); (try dsimp only); unfold recursionLimit; omega))
local macro_rules | `(tactic| k_all) => `(tactic| assumption)
local macro_rules | `(tactic| walk_at "mcode") => `(tactic| (refine' code_def ?k1 ?k2 ?k3 ?k4 ?k5 ?kA ?kF ?kK ?k6 ?k7 ?k8 ?k9 ?kB ?_ ?c2 ?c3 ?c4 ?c5; (case k1 => assumption); (case k2 => assumption); (case k3 => assumption); (case k4 => assumption); (case k5 => assumption); (case kA => exact rfl); (case kF => assumption); (case kK => assumption); (case k6 => k_is); (case k7 => k_is); (case k8 => k_room); (case k9 => exact BindsTo.of_eq rfl); (case kB => exact locs rfl); (case c2 => exact rfl); (case c3 => exact rfl); (case c4 => exact rfl); (case c5 => decide)))

/-- what a sorter holds, of the edges E₁ (told to npredecessors) and E₂ (told to successors) -/
structure Gr (ns : List Nd) (E₁ E₂ : List (Str × Str)) : Prop where
  nodup : (ns.map (·.key)).Nodup
  np : ∀ n ∈ ns, n.np = ((E₁.countP fun e => e.2 = n.key : Nat) : Int)
  succ : ∀ n ∈ ns, StrsAre n.vs.toList ((E₂.filter fun e => e.1 = n.key).map (·.2))
  tgt : ∀ e ∈ E₁, e.2 ∈ ns.map (·.key)
  src : ∀ e ∈ E₂, e.1 ∈ ns.map (·.key)

theorem Gr.addNode {ns : List Nd} {E₁ E₂ : List (Str × Str)} {n : Nd} (g : Gr ns E₁ E₂) (hk : ∀ n' ∈ ns, n'.key ≠ n.key) (h0 : n.np = 0) (hv : n.vs = #[]) : Gr (ns ++ [n]) E₁ E₂ := by
  have hm : n.key ∉ ns.map (·.key) := fun hm => by
    obtain ⟨n', h1, h2⟩ := List.mem_map.mp hm
    exact hk n' h1 h2
  refine ⟨?_, ?_, ?_, fun e he => ?_, fun e he => ?_⟩
  · rw [List.map_append, List.nodup_append]
    refine ⟨g.nodup, by simp, ?_⟩
    intro a ha b hb e
    rw [List.map_cons, List.map_nil, List.mem_singleton] at hb
    exact hm (by rw [← hb, ← e]; exact ha)
  · intro n' hn'
    rcases List.mem_append.mp hn' with h | h
    · exact g.np n' h
    · rw [List.mem_singleton.mp h, h0]
      rw [List.countP_eq_zero.mpr]; rfl
      intro e he hc
      exact hm ((of_decide_eq_true hc) ▸ g.tgt e he)
  · intro n' hn'
    rcases List.mem_append.mp hn' with h | h
    · exact g.succ n' h
    · rw [List.mem_singleton.mp h, hv]
      rw [List.filter_eq_nil_iff.mpr]
      · exact StrsAre.nil
      intro e he hc
      exact hm ((of_decide_eq_true hc) ▸ g.src e he)
  · rw [List.map_append]; exact List.mem_append_left _ (g.tgt e he)
  · rw [List.map_append]; exact List.mem_append_left _ (g.src e he)

theorem Gr.uniq {pre post : List Nd} {n n' : Nd} {E₁ E₂ : List (Str × Str)} (g : Gr (pre ++ n :: post) E₁ E₂) (h : n' ∈ pre ++ post) : n'.key ≠ n.key := by
  intro e
  have hn := g.nodup
  rw [List.map_append, List.map_cons, List.nodup_append] at hn
  obtain ⟨h1, h2, h3⟩ := hn
  rcases List.mem_append.mp h with h | h
  · exact h3 _ (List.mem_map_of_mem h) _ (.head _) e
  · exact (List.nodup_cons.mp h2).1 (e ▸ List.mem_map_of_mem h)

theorem mem_mid {α : Type} {pre post : List α} {n n' : α} (h : n' ∈ pre ++ n :: post) : n' = n ∨ n' ∈ pre ++ post := by
  simp only [List.mem_append, List.mem_cons] at *
  rcases h with h | h | h
  · exact .inr (.inl h)
  · exact .inl h
  · exact .inr (.inr h)

theorem Gr.bump {pre post : List Nd} {n : Nd} {E₁ E₂ : List (Str × Str)} (g : Gr (pre ++ n :: post) E₁ E₂) (us : List Str) (pt : Tok) :
    Gr (pre ++ { n with np := n.np + us.length, pt := pt } :: post) (E₁ ++ us.map fun u => (u, n.key)) E₂ := by
  have hk : (pre ++ { n with np := n.np + us.length, pt := pt } :: post).map (·.key) = (pre ++ n :: post).map (·.key) := by simp
  refine ⟨hk ▸ g.nodup, ?_, ?_, fun e he => ?_, fun e he => hk ▸ g.src e he⟩
  · intro n' hn'
    rw [List.countP_append]
    rcases mem_mid hn' with e | h
    · subst e
      have h1 := g.np n (by simp)
      have h2 : (us.map fun u => (u, n.key)).countP (fun e => e.2 = n.key) = us.length := by
        rw [List.countP_map]
        rw [List.countP_eq_length.mpr]
        intro a _; simp
      show n.np + us.length = _
      rw [h1, h2]; push_cast; rfl
    · have h1 := g.np n' (by simp only [List.mem_append, List.mem_cons] at h ⊢; rcases h with h | h <;> simp [h])
      have h2 : (us.map fun u => (u, n.key)).countP (fun e => e.2 = n'.key) = 0 := by
        rw [List.countP_map, List.countP_eq_zero]
        intro a _; simpa using fun e => (g.uniq h) e.symm
      rw [h1, h2]; rfl
  · intro n' hn'
    rcases mem_mid hn' with e | h
    · subst e; exact g.succ n (by simp)
    · exact g.succ n' (by simp only [List.mem_append, List.mem_cons] at h ⊢; rcases h with h | h <;> simp [h])
  · rw [hk]
    rcases List.mem_append.mp he with h | h
    · exact g.tgt e h
    · obtain ⟨u, _, rfl⟩ := List.mem_map.mp h
      simp

theorem Gr.push {pre post : List Nd} {n : Nd} {E₁ E₂ : List (Str × Str)} (g : Gr (pre ++ n :: post) E₁ E₂) (key : Str) (kt : Tok) (ep : Nat) :
    Gr (pre ++ { n with vs := n.vs.push (.str key kt), ep := ep } :: post) E₁ (E₂ ++ [(n.key, key)]) := by
  have hk : (pre ++ { n with vs := n.vs.push (.str key kt), ep := ep } :: post).map (·.key) = (pre ++ n :: post).map (·.key) := by simp
  refine ⟨hk ▸ g.nodup, ?_, ?_, fun e he => hk ▸ g.tgt e he, fun e he => ?_⟩
  · intro n' hn'
    rcases mem_mid hn' with e | h
    · subst e; exact g.np n (by simp)
    · exact g.np n' (by simp only [List.mem_append, List.mem_cons] at h ⊢; rcases h with h | h <;> simp [h])
  · intro n' hn'
    rw [List.filter_append, List.map_append]
    rcases mem_mid hn' with e | h
    · subst e
      have h1 := g.succ n (by simp)
      have h2 : ([(n.key, key)].filter fun e => e.1 = n.key).map (·.2) = [key] := by simp
      rw [h2]
      exact PyProof.Rows.strsAre_push h1
    · have h1 := g.succ n' (by simp only [List.mem_append, List.mem_cons] at h ⊢; rcases h with h | h <;> simp [h])
      have h2 : ([(n.key, key)].filter fun e => e.1 = n'.key).map (·.2) = [] := by
        simpa using fun e => (g.uniq h) e.symm
      rw [h2, List.append_nil]; exact h1
  · rw [hk]
    rcases List.mem_append.mp he with h | h
    · exact g.src e h
    · rw [List.mem_singleton.mp h]; simp

theorem ND.sublist {a b : List (Addr × Obj)} (h : ND b) (s : a.Sublist b) : ND a := List.Nodup.sublist (s.map _) h
theorem ND.snoc {a : List (Addr × Obj)} {I : Addr} {o : Obj} (h : ND a) (l : ∀ p ∈ a, p.1 ≠ I) : ND (a ++ [(I, o)]) :=
  (ND.cons h l).perm (by exact (List.perm_append_comm (l₁ := [(I, o)]) (l₂ := a)))
theorem unfront {α : Type} (d x y z : α) (N R : List α) : (d :: x :: y :: z :: (N ++ R)).Perm (x :: y :: z :: (N ++ d :: R)) :=
  (List.perm_middle (l₁ := x :: y :: z :: N) (a := d) (l₂ := R)).symm
end Mine
end -- S4
section -- S5
open PySem PySem.W PySem.Calls PyProof.Rows
set_option Elab.async false
set_option maxRecDepth 100000
set_option maxHeartbeats 8000000
namespace Mine
local macro_rules | `(tactic| walk_at "no such key") => `(tactic| skip)
local macro_rules | `(tactic| walk_at "mfill") => `(tactic| (w_top off; (have kf : PySem.Challenge.rw_mr0297_01 = PySem.Challenge.rw_mr0297_01 ∧ hd.heap_39 = hd.heap_39 := (by (k_fill; exact ⟨rfl, rfl⟩))); clear kf))
local macro_rules | `(tactic| walk_at "go") => `(tactic| repeat' (first | walk1 | (dsimp only; walk1)))
local macro_rules | `(tactic| walk_at "execs cons") => `(tactic| refine wpAny_execs_cons ?_)
local macro_rules | `(tactic| walk_at "execs nil") => `(tactic| refine wpAny_execs_nil ?_)
local macro_rules | `(tactic| k_room) => `(tactic| ((try simp only [depth_under_make, depth_under_kw, depth_in1, depth_deeper, depth_caller]); (try dsimp only); unfold recursionLimit; omega))
local macro_rules | `(tactic| k_all) => `(tactic| assumption)
local macro_rules | `(tactic| walk_at "mcode") => `(tactic| (refine' code_def ?k1 ?k2 ?k3 ?k4 ?k5 ?kA ?kF ?kK ?k6 ?k7 ?k8 ?k9 ?kB ?_ ?c2 ?c3 ?c4 ?c5; (case k1 => assumption); (case k2 => assumption); (case k3 => assumption); (case k4 => assumption); (case k5 => assumption); (case kA => exact rfl); (case kF => assumption); (case kK => assumption); (case k6 => k_is); (case k7 => k_is); (case k8 => k_room); (case k9 => exact BindsTo.of_eq rfl); (case kB => exact locs rfl); (case c2 => exact rfl); (case c3 => exact rfl); (case c4 => exact rfl); (case c5 => decide)))
local macro_rules | `(tactic| walk_at "call ref") => `(tactic| ((show wpAny _ _ (call (Value.ref 112) _ _) _ _ _); refine stop ?_))
local macro_rules | `(tactic| walk_at "exec For Name Name cons nil") => `(tactic| refine stop ?_)

theorem StrsAre.item_str {vs : List Value} {us : List Str} {i : Nat} {v : Value} (h : StrsAre vs us) (hv : vs[i]? = some v) : ∃ u t, v = .str u t ∧ us[i]? = some u := by
  induction h generalizing i with
  | nil => simp at hv
  | cons a t r ih =>
    cases i with
    | zero => simp at hv; exact ⟨_, _, hv.symm, rfl⟩
    | succ i => simp at hv; simpa using ih hv

theorem nd_dropLast {x y z d : Addr × Obj} {N R : List (Addr × Obj)} (h : ND (x :: y :: z :: (N ++ (R ++ [d])))) : ND (x :: y :: z :: (N ++ R)) := by
  have h' : ND ((x :: y :: z :: (N ++ R)) ++ [d]) := by simpa only [List.cons_append, List.append_assoc] using h
  exact h'.sublist (List.sublist_append_left _ _)
theorem nd_last_ne {x y z : Addr × Obj} {I : Addr} {o : Obj} {N R : List (Addr × Obj)} (h : ND (x :: y :: z :: (N ++ (R ++ [(I, o)])))) : ∀ q ∈ x :: y :: z :: (N ++ R), q.1 ≠ I := by
  have h' : ND ((x :: y :: z :: (N ++ R)) ++ [(I, o)]) := by simpa only [List.cons_append, List.append_assoc] using h
  exact (h'.perm List.perm_append_comm).ne

theorem newTuple_small {vs : List Value} (h : vs.length ≤ sizeLine) : newTuple vs = newTextTuple vs := by
  unfold newTuple newTextTuple newObj newObjAsIs
  have h' : ¬ (vs.toArray.size > sizeLine) := by rw [List.size_toArray]; omega
  simp only [if_neg h']

theorem add_call : ∀ {w : World} {A A₀ : Around} {p : Program} {loose : List Str} {mean : ExcName → Option Value} {mg mb : Str → Option Value} {base h₀ : Heap} {s : Shared}
   {env : Env} {L : Addr} {m : Str → Option Value} {R : List (Addr × Obj)} {outer : List Env} {S dS D : Addr} {np nf : Value} {t1 t2 t3 t4 : Tok} {oD : Obj} {ns : List Nd} {key : Str} {kt : Tok} {preds : List Value} {us : List Str} {Eg : List (Str × Str)}
   {Q : Value → Shared → Prop} {E : Value → Shared → Prop},
   (hd.heap_39 w.params).In h₀ → Top p loose mean mg mb h₀ → Below A₀ base outer h₀ → A.frames = some (env :: outer) → env.frame = some L → env.scope.kind = .function → A.handled = none →
   Fr h₀ L s.heap m → News h₀ L s.heap ((S, instObj 169 dS) :: (dS, attrObj w D .none np nf t1 t2 t3 t4) :: (D, oD) :: (nodesL ns ++ R)) → A.depth < 700 → ND ((S, instObj 169 dS) :: (dS, attrObj w D .none np nf t1 t2 t3 t4) :: (D, oD) :: (nodesL ns ++ R)) →
   (D == sysModules) = false → oD.IsDictOf (PySem.strKind PG w) (kvsOf ns) → ns.length ≤ 5000 → StrsAre preds us → us.length ≤ 100 → Gr ns Eg Eg → Eg.length ≤ 5000 →
   (∀ h' tk ns' oD', Fr h₀ L h' m → News h₀ L h' ((S, instObj 169 dS) :: (dS, attrObj w D .none np nf t1 t2 t3 t4) :: (D, oD') :: (nodesL ns' ++ R)) → ND ((S, instObj 169 dS) :: (dS, attrObj w D .none np nf t1 t2 t3 t4) :: (D, oD') :: (nodesL ns' ++ R)) →
      oD'.IsDictOf (PySem.strKind PG w) (kvsOf ns') → Gr ns' (Eg ++ us.map fun u => (u, key)) (Eg ++ us.map fun u => (u, key)) → (∀ x, x ∈ ns'.map (·.key) ↔ x ∈ ns.map (·.key) ∨ x = key ∨ x ∈ us) → Q .none { s with heap := h', toks := tk }) →
   codeAny (model PG w) A (.call (.ref 119) ⟨.ref S :: .str key kt :: preds, []⟩) (fun r s' => match r with | .ok (.ret v) => Q v s' | .ok _ => False | .error e => E e s') s := by
  walk_at "mfill"
  intro w A A₀ p loose mean mg mb base h₀ s env L m R outer S dS D np nf t1 t2 t3 t4 oD ns₀ key kt preds us Eg Q E X T B hfr hef hek hh F N hd hnd lo hD hlen hus hul hG hel hQ
  obtain ⟨ah, ad, af, ag, au⟩ := A
  obtain rfl : af = some (env :: outer) := hfr
  obtain rfl : ah = none := hh
  dsimp only at hd
  refine' kp_rest (vs := preds) (g₁ := fun D' => some [(Str.ofString "self", .ref S), (Str.ofString "node", .str key kt), (Str.ofString "predecessors", .ref D')]) (binds := fun D' => [(Str.ofString "self", .ref S), (Str.ofString "node", .str key kt), (Str.ofString "predecessors", .ref D')]) ?k1 ?k2 ?k3 ?k4 ?k5 ?kA ?kF ?kK ?k6 ?k7 ?k8 ?kV ?kP ?kG ?kB ?_ ?c2 ?c3 ?c4 ?c5
  case k1 => assumption
  case k2 => assumption
  case k3 => assumption
  case k4 => assumption
  case k5 => assumption
  case kA => exact rfl
  case kF => assumption
  case kK => assumption
  case k6 => k_is
  case k7 => k_is
  case k8 => k_room
  case kV => exact rfl
  case kP =>
    refine Eq.trans (congrArg (peek1 _ _) (?hb : _ = newTuple preds >>= fun t => pure [(Str.ofString "self", .ref S), (Str.ofString "node", .str key kt), (Str.ofString "predecessors", t)])) ?_
    case hb => cases preds with | nil => exact rfl | cons a b => exact rfl
    rw [newTuple_small (by rw [StrsAre.length hus, sizeLine_eq]; omega)]
    exact rfl
  case kG => exact fun _ => rfl
  case kB => exact fun _ => locs rfl
  case c2 => exact rfl
  case c3 => exact rfl
  case c4 => exact rfl
  case c5 => decide
  intro Dt g' L' h1 l1 FG' F1 N1 B' X' T'
  k_fold
  clear F N
  replace N1 := News.permP N1 (unfront _ _ _ _ _ _)
  have hnd1 := (ND.consLt (o := ⟨.type "tuple", none, .seq preds.toArray, #[]⟩) hnd l1).perm (unfront _ _ _ _ _ _)

  refine hideQ fun Q9 hQ9 => ?_
  walk_at "go"
  refine unstop ?_
  refine getinfo_call X' T' B' rfl rfl rfl F1 N1 (by show ad + 1 < 800; omega) hnd1 lo hD (by omega) ?_
  intro h2 tk2 ns2 oD2 n F2 N2 hnd2 hD2 hn hkey hcase
  clear F1 N1
  have hG2 : Gr ns2 Eg Eg := by
    rcases hcase with rfl | ⟨h1, rfl, h2, h3⟩
    · exact hG
    · exact hG.addNode (fun n' hn' => by rw [hkey]; exact h1 n' hn') h2 h3
  have hlen2 : ns2.length ≤ 5001 := by
    rcases hcase with rfl | ⟨h1, rfl, h2, h3⟩
    · omega
    · rw [List.length_append]; show ns₀.length + 1 ≤ _; omega
  have hkeys2 : ∀ x, x ∈ ns2.map (·.key) ↔ x ∈ ns₀.map (·.key) ∨ x = key := by
    intro x
    rcases hcase with rfl | ⟨h1, rfl, h2, h3⟩
    · refine ⟨.inl, fun h => h.elim id fun e => ?_⟩
      rw [e, ← hkey]; exact List.mem_map_of_mem hn
    · rw [List.map_append, List.mem_append, List.map_cons, List.map_nil, List.mem_singleton, hkey]
  clear hcase
  obtain ⟨pre, post, rfl⟩ := List.append_of_mem hn
  replace N2 := News.permP N2 (focus _ _ _ _ _ _ _)
  have hnd3 := hnd2.perm (focus _ _ _ _ _ _ _)
  have hA := hnd3.ne
  walk_at "go"
  rename Fr g' _ _ _ => F3
  rename News g' _ _ _ => N3
  have htm : (Dt, (⟨.type "tuple", none, .seq preds.toArray, #[]⟩ : Obj)) ∈ nodesL (pre ++ post) ++ (Dt, (⟨.type "tuple", none, .seq preds.toArray, #[]⟩ : Obj)) :: R := List.mem_append_right _ (.head _)
  refine kun_lenT (k := us.length) (News.isTup N3 (.tail _ (.tail _ (.tail _ (.tail _ (.tail _ (.tail _ htm))))))) (by rw [List.size_toArray, StrsAre.length hus]) (by omega) ?_
  walk_at "go"
  rename Fr g' _ _ _ => F4
  rename News g' _ _ _ => N4
  have N5 := News.permP N4 (focus _ _ _ pre post ⟨n.a, n.dx, n.l, n.key, n.kt, n.np + us.length, _, n.vs, n.ep⟩ _).symm
  have hnd5 := (ND.same (b := (n.a, nodeObj n.dx n.l (n.np + us.length) 0 n.key n.kt) :: (n.dx, dictOf [] 0) :: (n.l, listOf n.vs n.ep) :: (S, instObj 169 dS) :: (dS, attrObj w D .none np nf t1 t2 t3 t4) :: (D, oD2) :: (nodesL (pre ++ post) ++ (Dt, (⟨.type "tuple", none, .seq preds.toArray, #[]⟩ : Obj)) :: R)) hnd3 rfl).perm (focus _ _ _ pre post ⟨n.a, n.dx, n.l, n.key, n.kt, n.np + us.length, 0, n.vs, n.ep⟩ _).symm
  refine unstop ?_
  refine wpAny_For ?_
  walk_at "go"
  have hst0 := StrsAre.length hus
  obtain ⟨J, hJ⟩ : ∃ J : Nat → (Str → Option Value) → List (Addr × Obj) → Prop, ∀ i m news, J i m news ↔ ∀ C9 : Prop, (∀ ns oD, news = ((S, instObj 169 dS) :: (dS, attrObj w D .none np nf t1 t2 t3 t4) :: (D, oD) :: (nodesL (ns) ++ (Dt, (⟨.type "tuple", none, .seq preds.toArray, #[]⟩ : Obj)) :: R)) → m (Str.ofString "self") = some (.ref S) → m (Str.ofString "node") = some (.str key kt) → oD.IsDictOf (PySem.strKind PG w) (kvsOf ns) → ND ((S, instObj 169 dS) :: (dS, attrObj w D .none np nf t1 t2 t3 t4) :: (D, oD) :: (nodesL (ns) ++ (Dt, (⟨.type "tuple", none, .seq preds.toArray, #[]⟩ : Obj)) :: R)) → Gr ns (Eg ++ us.map fun u => (u, key)) (Eg ++ (us.take i).map fun u => (u, key)) → (∀ x, x ∈ ns.map (·.key) ↔ (x ∈ ns₀.map (·.key) ∨ x = key) ∨ x ∈ us.take i) → ns.length ≤ 5001 + i → C9) → C9 := ⟨_, fun _ _ _ => Iff.rfl⟩
  refine iter_tupleE (h₀ := g') (vs := preds) J
    rfl (N5 _ (.tail _ (.tail _ (.tail _ (List.mem_append_right _ (.head _)))))).1 rfl rfl (.inr ?_) F4 N5 ((hJ _ _ _).mpr fun C9 k9 => k9 _ _ rfl rfl rfl ?_ (ND.same hnd5 ?_) ?_ ?_ ?_) ?_ ?_
  · intro i m news hj
    refine (hJ _ _ _).mp hj _ fun ns oD eJ2 _ => ?_
    intros
    subst eJ2
    exact .tail _ (.tail _ (.tail _ (List.mem_append_right _ (.head _))))
  · rw [kvs_app] at hD2 ⊢; exact hD2
  · simp [nodesL]
  · rw [List.take_zero, List.map_nil, List.append_nil]
    rw [show (fun u : Str => (u, key)) = (fun u => (u, n.key)) from by rw [hkey]]
    exact hG2.bump us _
  · intro x; rw [List.take_zero]; have := hkeys2 x; simp at this ⊢; exact this
  · simpa using hlen2
  · intro i v m₁ news₁ h tk I oI _ hv hj ha F6 N6
    refine (hJ _ _ _).mp hj _ fun ns oD eJ2 hm1 hm2 hD6 hnd6 hG6 hk6 hl6 => ?_
    subst eJ2
    obtain ⟨u, tu, rfl, hu⟩ : ∃ u tu, v = .str u tu ∧ us[i]? = some u := StrsAre.item_str hus hv
    rw [know_eq2 hm1 hm2] at F6
    have hnd7 := ND.snoc (o := oI) hnd6 ha
    have hilt : i < us.length := (List.getElem?_eq_some_iff.mp hu).1
    clear F4 N4 N5 hA
    replace N6 : News g' L' h ((S, instObj 169 dS) :: (dS, attrObj w D .none np nf t1 t2 t3 t4) :: (D, oD) :: (nodesL (ns) ++ ((Dt, (⟨.type "tuple", none, .seq preds.toArray, #[]⟩ : Obj)) :: R ++ [(I, oI)]))) := by simpa only [List.cons_append, List.append_assoc] using N6
    replace hnd7 : ND ((S, instObj 169 dS) :: (dS, attrObj w D .none np nf t1 t2 t3 t4) :: (D, oD) :: (nodesL (ns) ++ ((Dt, (⟨.type "tuple", none, .seq preds.toArray, #[]⟩ : Obj)) :: R ++ [(I, oI)]))) := by simpa only [List.cons_append, List.append_assoc] using hnd7
    walk_at "go"
    refine unstop ?_
    refine getinfo_call X' T' B' rfl rfl rfl F6 N6 (by show ad + 1 < 800; omega) hnd7 lo hD6 (by omega) ?_
    intro h8 tk8 ns8 oD8 n8 F8 N8 hnd8 hD8 hn8 hkey8 hcase8
    have hG8 : Gr ns8 (Eg ++ us.map fun u => (u, key)) (Eg ++ (us.take i).map fun u => (u, key)) := by
      rcases hcase8 with rfl | ⟨h1, rfl, h2, h3⟩
      · exact hG6
      · exact hG6.addNode (fun n' hn' => by rw [hkey8]; exact h1 n' hn') h2 h3
    have hlen8 : ns8.length ≤ 5001 + (i + 1) := by
      rcases hcase8 with rfl | ⟨h1, rfl, h2, h3⟩
      · omega
      · rw [List.length_append]; show ns.length + 1 ≤ _; omega
    have hkeys8 : ∀ x, x ∈ ns8.map (·.key) ↔ (x ∈ ns₀.map (·.key) ∨ x = key) ∨ x ∈ us.take (i + 1) := by
      intro x
      rw [List.take_add_one, hu, Option.toList_some, List.mem_append, List.mem_singleton, ← or_assoc, ← hk6]
      rcases hcase8 with rfl | ⟨h1, rfl, h2, h3⟩
      · refine ⟨.inl, fun h => h.elim id fun e => ?_⟩
        rw [e, ← hkey8]; exact List.mem_map_of_mem hn8
      · rw [List.map_append, List.mem_append, List.map_cons, List.map_nil, List.mem_singleton, hkey8]
    clear hcase8 F6 N6
    obtain ⟨pre8, post8, rfl⟩ := List.append_of_mem hn8
    replace N8 := News.permP N8 (focus _ _ _ _ _ _ _)
    have hnd9 := hnd8.perm (focus _ _ _ _ _ _ _)
    have hsz : n8.vs.size ≤ 6000 := by
      have h1 := StrsAre.length (hG8.succ n8 hn8)
      rw [Array.length_toList, List.length_map] at h1
      have h2 := List.length_filter_le (fun e : Str × Str => decide (e.1 = n8.key)) (Eg ++ (us.take i).map fun u => (u, key))
      rw [List.length_append, List.length_map, List.length_take] at h2
      omega
    have hA8 := hnd9.tail.tail.ne
    have hA9 := neN (hnd9.ne (n8.l, _) (.tail _ (.head _)))
    have hA10 := neN (hnd9.tail.ne (n8.l, _) (.head _))
    dsimp only at hA9 hA10
    walk_at "go"
    rename Fr g' _ _ _ => F9
    rename News g' _ _ _ => N9
    have N10 := News.permP N9 (focus _ _ _ pre8 post8 ⟨n8.a, n8.dx, n8.l, n8.key, n8.kt, n8.np, n8.pt, n8.vs.push (.str key kt), _⟩ _).symm
    rw [← hkey8] at hu
    refine FPost.next (news' := ((S, instObj 169 dS) :: (dS, attrObj w D .none np nf t1 t2 t3 t4) :: (D, oD8) :: (nodesL (pre8 ++ ⟨n8.a, n8.dx, n8.l, n8.key, n8.kt, n8.np, n8.pt, n8.vs.push (.str key kt), _⟩ :: post8) ++ (Dt, (⟨.type "tuple", none, .seq preds.toArray, #[]⟩ : Obj)) :: R))) F9 (by simpa only [List.cons_append, List.append_assoc] using N10) ?_ ((hJ _ _ _).mpr fun C9 k9 => k9 _ oD8 rfl rfl rfl ?_ ?_ ?_ ?_ ?_)
    · exact nd_last_ne (o := oI) (ND.same hnd8 (by simp [nodesL]))
    · rw [kvs_app] at hD8 ⊢; exact hD8
    · exact nd_dropLast (d := (I, oI)) (ND.same hnd8 (by simp [nodesL]))
    · rw [List.take_add_one, hu, Option.toList_some, List.map_append, ← List.append_assoc]
      exact hG8.push key kt _
    · intro x; rw [← hkeys8]; simp
    · simpa using hlen8
  · intro m₁ news₁ h tk _ hj F6 N6
    refine (hJ _ _ _).mp hj _ fun ns oD eJ2 hm1 hm2 hD6 hnd6 hG6 hk6 hl6 => ?_
    subst eJ2
    walk_at "go"
    refine hQ9 _ _ ?_
    walk_at "go"
    rename Fr h₀ _ _ _ => kF
    rename News h₀ _ _ _ => kN
    rw [hst0, List.take_length] at hG6
    refine hQ _ _ ns oD kF (News.sub kN ?_) ?_ hD6 hG6 ?_
    · intro q hq
      simp only [List.mem_cons, List.mem_append] at hq ⊢
      rcases hq with h | h | h | h | h <;> simp [h]
    · refine hnd6.sublist ?_
      refine .cons₂ _ (.cons₂ _ (.cons₂ _ (List.Sublist.append_left (List.sublist_cons_self _ _) _)))
    · intro x; rw [hk6, hst0, List.take_length, or_assoc]
end Mine
end -- S5
section -- S6
open PySem PySem.W PySem.Calls PyProof.Rows
set_option Elab.async false
set_option maxRecDepth 100000
set_option maxHeartbeats 8000000
namespace Mine
local macro_rules | `(tactic| walk_at "no such key") => `(tactic| skip)
local macro_rules | `(tactic| walk_at "no such key") => `(tactic| skip)
local macro_rules | `(tactic| walk_at "no such key") => `(tactic| skip)
local macro_rules | `(tactic| walk_at "no such key") => `(tactic| skip)
local macro_rules | `(tactic| walk_at "mfill") => `(tactic| (w_top off; (have kf : PySem.Challenge.rw_mr0297_01 = PySem.Challenge.rw_mr0297_01 ∧ hd.heap_39 = hd.heap_39 := (by (k_fill; exact ⟨rfl, rfl⟩))); clear kf))
local macro_rules | `(tactic| walk_at "go") => `(tactic| repeat' (first | walk1 | (dsimp only; walk1)))
local macro_rules | `(tactic| walk_at "execs cons") => `(tactic| refine wpAny_execs_cons ?_)
local macro_rules | `(tactic| walk_at "execs nil") => `(tactic| refine wpAny_execs_nil ?_)
local macro_rules | `(tactic| k_room) => `(tactic| ((try simp only [depth_under_make, depth_under_kw, depth_in1, depth_deeper, depth_caller]); (try dsimp only); unfold recursionLimit; omega))
local macro_rules | `(tactic| k_all) => `(tactic| assumption)
local macro_rules | `(tactic| walk_at "mcode") => `(tactic| (refine' code_def ?k1 ?k2 ?k3 ?k4 ?k5 ?kA ?kF ?kK ?k6 ?k7 ?k8 ?k9 ?kB ?_ ?c2 ?c3 ?c4 ?c5; (case k1 => assumption); (case k2 => assumption); (case k3 => assumption); (case k4 => assumption); (case k5 => assumption); (case kA => exact rfl); (case kF => assumption); (case kK => assumption); (case k6 => k_is); (case k7 => k_is); (case k8 => k_room); (case k9 => exact BindsTo.of_eq rfl); (case kB => exact locs rfl); (case c2 => exact rfl); (case c3 => exact rfl); (case c4 => exact rfl); (case c5 => decide)))

theorem meets_bool_list (l : Addr) (items : Array Value) (hfit : (items.size : Int) < 2 ^ 63) : Meets (Builtin.«bool.__new__» ⟨[.type "bool", .ref l], []⟩) (fun _ R s => s.heap.IsList l items ∧ R (.ok (.ret (.bool (!items.isEmpty)))) { s with toks := s.toks + 1 + 1 }) :=
  Meets.of_wp fun prog w A R s hs => by
    obtain ⟨hp, g, d, tk, os⟩ := s
    have f1 := PySem.F.conv_sub_bool
    repeat (any_goals (first | assumption | with_reducible exact hs.1 | with_reducible apply wpAny_truthy_list hs.1 hfit | wp_step))
    all_goals first | exact ⟨_, rfl, hs.2⟩ | skip

theorem call_bool_list {prog : Program} {w : World} {A : Around} {E : Value → Shared → Prop} {s : Shared} {l : Addr} {items : Array Value} {Q : Value → Shared → Prop} (hl : s.heap.IsList l items) (hfit : (items.size : Int) < 2 ^ 63) (h : Q (.bool (!items.isEmpty)) { s with toks := s.toks + 1 + 1 }) :
    wpAny (model prog w) A (call (.type "bool") [.ref l]) Q E s :=
  call_bool_1 (meets_bool_list l items hfit) ⟨hl, ⟨rfl, h⟩⟩

theorem active_call : ∀ {w : World} {A A₀ : Around} {p : Program} {loose : List Str} {mean : ExcName → Option Value} {mg mb : Str → Option Value} {base h₀ : Heap} {s : Shared}
   {env : Env} {L : Addr} {m : Str → Option Value} {R : List (Addr × Obj)} {outer : List Env} {S dS D rl : Addr} {a b : Int} {ta tb : Tok} {t1 t2 t3 t4 : Tok} {rv : Array Value} {re : Nat} {oD : Obj}
   {Q : Value → Shared → Prop} {E : Value → Shared → Prop},
   (hd.heap_39 w.params).In h₀ → Top p loose mean mg mb h₀ → Below A₀ base outer h₀ → A.frames = some (env :: outer) → env.frame = some L → env.scope.kind = .function →
   Fr h₀ L s.heap m → News h₀ L s.heap ((S, instObj 169 dS) :: (dS, attrObj w D (.ref rl) (.int a ta) (.int b tb) t1 t2 t3 t4) :: (D, oD) :: (rl, listOf rv re) :: R) → A.depth < 800 → rv.size ≤ 10000 →
   (∀ h' tk, Fr h₀ L h' m → News h₀ L h' ((S, instObj 169 dS) :: (dS, attrObj w D (.ref rl) (.int a ta) (.int b tb) t1 t2 t3 t4) :: (D, oD) :: (rl, listOf rv re) :: R) → Q (.bool (decide (b < a) || !rv.isEmpty)) { s with heap := h', toks := tk }) →
   wpAny (model PG w) A (call (.ref 138) [.ref S] []) Q E s := by
  walk_at "mfill"
  intro w A A₀ p loose mean mg mb base h₀ s env L m R outer S dS D rl a b ta tb t1 t2 t3 t4 rv re oD Q E X T B hfr hef hek F N hd hsz hQ
  obtain ⟨ah, ad, af, ag, au⟩ := A
  obtain rfl : af = some (env :: outer) := hfr
  dsimp only at hd
  refine wpAny_call ?_
  walk_at "mcode"
  intro g' L' h1 FG' F1 N1 B' X' T'
  k_fold
  clear F N
  walk_at "go"
  · rename Fr h₀ _ _ _ => kF
    rename News h₀ _ _ _ => kN
    rename b < a => hc
    rw [decide_eq_true hc, Bool.true_or] at hQ
    rw [decide_eq_true hc]
    exact hQ _ _ kF kN
  · rename ¬ (b < a) => hc
    refine call_bool_list (News.isList N1 (.tail _ (.tail _ (.tail _ (.head _))))) (by omega) ?_
    walk_at "go"
    rename Fr h₀ _ _ _ => kF
    rename News h₀ _ _ _ => kN
    rw [decide_eq_false hc, Bool.false_or] at hQ
    exact hQ _ _ kF kN
end Mine
end -- S6
section -- S7
open PySem PySem.W PySem.Calls PyProof.Rows
set_option Elab.async false
set_option maxRecDepth 100000
set_option maxHeartbeats 8000000
namespace Mine
local macro_rules | `(tactic| walk_at "no such key") => `(tactic| skip)
local macro_rules | `(tactic| walk_at "no such key") => `(tactic| skip)
local macro_rules | `(tactic| walk_at "no such key") => `(tactic| skip)
local macro_rules | `(tactic| walk_at "mfill") => `(tactic| (w_top off; (have kf : PySem.Challenge.rw_mr0297_01 = PySem.Challenge.rw_mr0297_01 ∧ hd.heap_39 = hd.heap_39 := (by (k_fill; exact ⟨rfl, rfl⟩))); clear kf))
local macro_rules | `(tactic| walk_at "go") => `(tactic| repeat' (first | walk1 | (dsimp only; walk1)))
local macro_rules | `(tactic| walk_at "execs cons") => `(tactic| refine wpAny_execs_cons ?_)
local macro_rules | `(tactic| walk_at "execs nil") => `(tactic| refine wpAny_execs_nil ?_)
local macro_rules | `(tactic| k_room) => `(tactic| ((try simp only [depth_under_make, depth_under_kw, depth_in1, depth_deeper, depth_caller]); (try dsimp only); unfold recursionLimit; omega))
local macro_rules | `(tactic| k_all) => `(tactic| assumption)
local macro_rules | `(tactic| walk_at "mcode") => `(tactic| (refine' code_def ?k1 ?k2 ?k3 ?k4 ?k5 ?kA ?kF ?kK ?k6 ?k7 ?k8 ?k9 ?kB ?_ ?c2 ?c3 ?c4 ?c5; (case k1 => assumption); (case k2 => assumption); (case k3 => assumption); (case k4 => assumption); (case k5 => assumption); (case kA => exact rfl); (case kF => assumption); (case kK => assumption); (case k6 => k_is); (case k7 => k_is); (case k8 => k_room); (case k9 => exact BindsTo.of_eq rfl); (case kB => exact locs rfl); (case c2 => exact rfl); (case c3 => exact rfl); (case c4 => exact rfl); (case c5 => decide)))
local macro_rules | `(tactic| walk_at "exec For Name Name cons nil") => `(tactic| refine stop ?_)
local macro_rules | `(tactic| walk_at "call type:tuple") => `(tactic| refine stop ?_)

def succs (Eg : List (Str × Str)) (x : Str) : List Str := (Eg.filter fun e => e.1 = x).map (·.2)

/-- a sorter at work: the nodes' counts are c -/
structure Run (ns : List Nd) (Eg : List (Str × Str)) (Ks : List Str) (c : Str → Int) : Prop where
  keys : ns.map (·.key) = Ks
  nodup : Ks.Nodup
  np : ∀ n ∈ ns, n.np = c n.key
  succ : ∀ n ∈ ns, StrsAre n.vs.toList (succs Eg n.key)
  src : ∀ e ∈ Eg, e.1 ∈ Ks
  tgt : ∀ e ∈ Eg, e.2 ∈ Ks

theorem Run.find {ns : List Nd} {Eg : List (Str × Str)} {Ks : List Str} {c : Str → Int} (g : Run ns Eg Ks c) {x : Str} (hx : x ∈ Ks) : ∃ pre n post, ns = pre ++ n :: post ∧ n.key = x ∧ valueAt (kvsOf ns) x = some (.ref n.a) := by
  have hx' := hx
  rw [← g.keys] at hx'
  obtain ⟨n0, hn0, e0⟩ := List.mem_map.mp hx'
  cases hf : ns.find? (fun n => n.key = x) with
  | none => exact absurd (decide_eq_true e0) (List.find?_eq_none.mp hf n0 hn0)
  | some n =>
    obtain ⟨pre, post, e⟩ := List.append_of_mem (List.mem_of_find?_eq_some hf)
    exact ⟨pre, n, post, e, of_decide_eq_true (List.find?_some hf :), by rw [kvs_find, hf]; rfl⟩

theorem Run.set {pre post : List Nd} {n : Nd} {Eg : List (Str × Str)} {Ks : List Str} {c : Str → Int} (g : Run (pre ++ n :: post) Eg Ks c) (v : Int) (pt : Tok) :
    Run (pre ++ ⟨n.a, n.dx, n.l, n.key, n.kt, v, pt, n.vs, n.ep⟩ :: post) Eg Ks (fun x => if x = n.key then v else c x) := by
  have hn := g.nodup
  rw [← g.keys, List.map_append, List.map_cons, List.nodup_append] at hn
  obtain ⟨h1, h2, h3⟩ := hn
  refine ⟨by rw [← g.keys]; simp, g.nodup, ?_, ?_, g.src, g.tgt⟩
  · intro n' hn'
    rcases mem_mid hn' with e | h
    · subst e; simp
    · have h0 := g.np n' (by simp only [List.mem_append, List.mem_cons] at h ⊢; rcases h with h | h <;> simp [h])
      have hne : n'.key ≠ n.key := by
        intro e
        rcases List.mem_append.mp h with h | h
        · exact h3 _ (List.mem_map_of_mem h) _ (.head _) e
        · exact (List.nodup_cons.mp h2).1 (e ▸ List.mem_map_of_mem h)
      rw [if_neg hne]; exact h0
  · intro n' hn'
    rcases mem_mid hn' with e | h
    · subst e; exact g.succ n (by simp)
    · exact g.succ n' (by simp only [List.mem_append, List.mem_cons] at h ⊢; rcases h with h | h <;> simp [h])

theorem Run.congr {ns : List Nd} {Eg : List (Str × Str)} {Ks : List Str} {c c' : Str → Int} (g : Run ns Eg Ks c) (h : ∀ x ∈ Ks, c x = c' x) : Run ns Eg Ks c' :=
  { g with np := fun n hn => by rw [g.np n hn]; exact h _ (g.keys ▸ List.mem_map_of_mem hn) }

theorem focus4 (x y z t : Addr × Obj) (pre post : List Nd) (n : Nd) (R : List (Addr × Obj)) :
    (x :: y :: z :: t :: (nodesL (pre ++ n :: post) ++ R)).Perm ((n.a, nodeObj n.dx n.l n.np n.pt n.key n.kt) :: (n.dx, dictOf [] 0) :: (n.l, listOf n.vs n.ep) :: x :: y :: z :: t :: (nodesL (pre ++ post) ++ R)) := by
  rw [nodesL_app, nodesL_cons, nodesL_app]
  exact perm_focus [x, y, z, t] (nodesL pre) n.objs (nodesL post) R
theorem unfront4 {α : Type} (d x y z t : α) (N R : List α) : (d :: x :: y :: z :: t :: (N ++ R)).Perm (x :: y :: z :: t :: (N ++ d :: R)) :=
  (List.perm_middle (l₁ := x :: y :: z :: t :: N) (a := d) (l₂ := R)).symm

theorem nd_dropLast4 {x y z t d : Addr × Obj} {N R : List (Addr × Obj)} (h : ND (x :: y :: z :: t :: (N ++ (R ++ [d])))) : ND (x :: y :: z :: t :: (N ++ R)) := by
  have h' : ND ((x :: y :: z :: t :: (N ++ R)) ++ [d]) := by simpa only [List.cons_append, List.append_assoc] using h
  exact h'.sublist (List.sublist_append_left _ _)
theorem nd_last_ne4 {x y z t : Addr × Obj} {I : Addr} {o : Obj} {N R : List (Addr × Obj)} (h : ND (x :: y :: z :: t :: (N ++ (R ++ [(I, o)])))) : ∀ q ∈ x :: y :: z :: t :: (N ++ R), q.1 ≠ I := by
  have h' : ND ((x :: y :: z :: t :: (N ++ R)) ++ [(I, o)]) := by simpa only [List.cons_append, List.append_assoc] using h
  exact (h'.perm List.perm_append_comm).ne

theorem clear_any {prog : Program} {w : World} {A : Around} {E : Value → Shared → Prop} {s : Shared} {h₀ : Heap} {L D : Addr} {m : Str → Option Value} {news : List (Addr × Obj)} {g : Nat → List (Addr × Obj)} {its : Array Value} {n : Nat} {Q : Value → Shared → Prop}
    (F : Fr h₀ L s.heap m) (N : News h₀ L s.heap news) (U : ∀ k, Upd D (listOf its n) (listOf #[] k) news (g k)) (hz : its.size ≤ 10000)
    (h : ∀ k h', Fr h₀ L h' m → News h₀ L h' (g k) → Q .none { s with heap := h' }) : wpAny (model prog w) A (call (.builtin "list.clear") [.ref D]) Q E s := by
  by_cases hne : its.toList.length = 0
  · obtain ⟨pre, post, rfl, e, a, c⟩ := (U n).split
    have z := N (D, listOf its n) (List.mem_append.mpr (.inr (.head _)))
    rw [Array.length_toList] at hne
    refine call_meets PySem.F.slot_list_clear ⟨_, z.1, rfl⟩ PySem.F.entry_list_clear (PySem.F.args_list_clear_1 _) (PySem.AutoSeq1.list_clear_list_0 D its n (by rw [sizeLine_eq]; omega)) ⟨z.1, h n _ (F.change (Heap.SameBut.update ..) z.2.1 z.2.2) (e ▸ kl_turn0 (fun _ => #[]) N a c rfl ?_)⟩
    rw [hne]; rfl
  · exact kl_clear F N (U (n + 1)) hne (by rw [sizeLine_eq, Array.length_toList]; omega) (fun h' F' N' => h _ h' F' N')

theorem ready_call : ∀ {w : World} {A A₀ : Around} {p : Program} {loose : List Str} {mean : ExcName → Option Value} {mg mb : Str → Option Value} {base h₀ : Heap} {s : Shared}
   {env : Env} {L : Addr} {m : Str → Option Value} {R : List (Addr × Obj)} {outer : List Env} {S dS D rl : Addr} {a b : Int} {ta tb : Tok} {t1 t2 t3 t4 : Tok} {rv : Array Value} {re : Nat} {oD : Obj} {ns : List Nd} {Eg : List (Str × Str)} {Ks rs : List Str} {c : Str → Int}
   {Q : Value → Shared → Prop} {E : Value → Shared → Prop},
   (hd.heap_39 w.params).In h₀ → Top p loose mean mg mb h₀ → Below A₀ base outer h₀ → A.frames = some (env :: outer) → env.frame = some L → env.scope.kind = .function → A.handled = none →
   Fr h₀ L s.heap m → News h₀ L s.heap ((S, instObj 169 dS) :: (dS, attrObj w D (.ref rl) (.int a ta) (.int b tb) t1 t2 t3 t4) :: (D, oD) :: (rl, listOf rv re) :: (nodesL ns ++ R)) → A.depth < 800 →
   ND ((S, instObj 169 dS) :: (dS, attrObj w D (.ref rl) (.int a ta) (.int b tb) t1 t2 t3 t4) :: (D, oD) :: (rl, listOf rv re) :: (nodesL ns ++ R)) → oD.IsDictOf (PySem.strKind PG w) (kvsOf ns) → (D == sysModules) = false →
   Run ns Eg Ks c → StrsAre rv.toList rs → (∀ x ∈ rs, x ∈ Ks) → rs.length ≤ 5000 →
   (∀ h' tk tp ns' ta' re', Fr h₀ L h' m → News h₀ L h' ((tp, ⟨.type "tuple", none, .seq rv.toList.toArray, #[]⟩) :: (S, instObj 169 dS) :: (dS, attrObj w D (.ref rl) (.int (a + rs.length) ta') (.int b tb) t1 t2 t3 t4) :: (D, oD) :: (rl, listOf #[] re') :: (nodesL ns' ++ R)) → 
      ND ((tp, ⟨.type "tuple", none, .seq rv.toList.toArray, #[]⟩) :: (S, instObj 169 dS) :: (dS, attrObj w D (.ref rl) (.int (a + rs.length) ta') (.int b tb) t1 t2 t3 t4) :: (D, oD) :: (rl, listOf #[] re') :: (nodesL ns' ++ R)) → 
      oD.IsDictOf (PySem.strKind PG w) (kvsOf ns') → Run ns' Eg Ks (fun x => if x ∈ rs then -1 else c x) → Q (.ref tp) { s with heap := h', toks := tk }) →
   wpAny (model PG w) A (call (.ref 131) [.ref S] []) Q E s := by
  walk_at "mfill"
  intro w A A₀ p loose mean mg mb base h₀ s env L m R outer S dS D rl a b ta tb t1 t2 t3 t4 rv re oD ns Eg Ks rs c Q E X T B hfr hef hek hh F N hd hnd hD lo hR hrs hrk hrl hQ
  obtain ⟨ah, ad, af, ag, au⟩ := A
  obtain rfl : af = some (env :: outer) := hfr
  obtain rfl : ah = none := hh
  dsimp only at hd
  have hrsz : rv.size ≤ 5000 := by have := StrsAre.length hrs; rw [Array.length_toList] at this; omega
  refine wpAny_call ?_
  walk_at "mcode"
  intro g' L' h1 FG' F1 N1 B' X' T'
  k_fold
  clear F N
  refine hideQ fun Q9 hQ9 => ?_
  walk_at "go"
  refine unstop ?_
  refine kde_tupleOf F1 N1 (News.isList N1 (.tail _ (.tail _ (.tail _ (.head _))))) (by omega) rfl ?_
  intro tp h2 F2 N2 hlt
  clear F1 N1
  walk_at "go"
  rename Fr g' _ _ _ => F3
  rename News g' _ _ _ => N3
  replace N3 := News.permP N3 (unfront4 _ _ _ _ _ _ _)
  have hnd1 := (ND.consLt (o := ⟨.type "tuple", none, .seq rv.toList.toArray, #[]⟩) hnd hlt).perm (unfront4 _ _ _ _ _ _ _)
  refine unstop ?_
  refine wpAny_For ?_
  walk_at "go"
  obtain ⟨J, hJ⟩ : ∃ J : Nat → (Str → Option Value) → List (Addr × Obj) → Prop, ∀ i m news, J i m news ↔ ∀ C9 : Prop, (∀ ns, news = ((S, instObj 169 dS) :: (dS, attrObj w D (.ref rl) (.int a ta) (.int b tb) t1 t2 t3 t4) :: (D, oD) :: (rl, listOf rv re) :: (nodesL (ns) ++ (tp, (⟨.type "tuple", none, .seq rv.toList.toArray, #[]⟩ : Obj)) :: R)) → m (Str.ofString "self") = some (.ref S) → m (Str.ofString "n2i") = some (.ref D) → m (Str.ofString "result") = some (.ref tp) → oD.IsDictOf (PySem.strKind PG w) (kvsOf ns) → ND ((S, instObj 169 dS) :: (dS, attrObj w D (.ref rl) (.int a ta) (.int b tb) t1 t2 t3 t4) :: (D, oD) :: (rl, listOf rv re) :: (nodesL (ns) ++ (tp, (⟨.type "tuple", none, .seq rv.toList.toArray, #[]⟩ : Obj)) :: R)) → Run ns Eg Ks (fun x => if x ∈ rs.take i then -1 else c x) → C9) → C9 := ⟨_, fun _ _ _ => Iff.rfl⟩
  refine iter_tupleE (h₀ := g') (vs := rv.toList) J
    rfl (N3 _ (.tail _ (.tail _ (.tail _ (.tail _ (List.mem_append_right _ (.head _))))))).1 rfl rfl (.inr ?_) F3 N3 ((hJ _ _ _).mpr fun C9 k9 => k9 ns rfl rfl rfl rfl hD hnd1 ?_) ?_ ?_
  · intro i m news hj
    refine (hJ _ _ _).mp hj _ fun ns eJ1 _ => ?_
    intros
    subst eJ1
    exact .tail _ (.tail _ (.tail _ (.tail _ (List.mem_append_right _ (.head _)))))
  · rw [List.take_zero]; exact hR.congr fun x _ => by simp
  · intro i v m₁ news₁ h tk I oI _ hv hj ha F6 N6
    refine (hJ _ _ _).mp hj _ fun ns eJ1 hm1 hm2 hm3 hD6 hnd6 hG6 => ?_
    subst eJ1
    obtain ⟨u, tu, rfl, hu⟩ : ∃ u tu, v = .str u tu ∧ rs[i]? = some u := StrsAre.item_str hrs hv
    rw [know_eq3 hm1 hm2 hm3] at F6
    have hnd7 := ND.snoc (o := oI) hnd6 ha
    clear F3 N3
    obtain ⟨pre, n, post, rfl, hkey, hval⟩ := hG6.find (hrk u (List.mem_of_getElem? hu))
    replace N6 : News g' L' h ((S, instObj 169 dS) :: (dS, attrObj w D (.ref rl) (.int a ta) (.int b tb) t1 t2 t3 t4) :: (D, oD) :: (rl, listOf rv re) :: (nodesL (pre ++ n :: post) ++ ((tp, (⟨.type "tuple", none, .seq rv.toList.toArray, #[]⟩ : Obj)) :: R ++ [(I, oI)]))) := by simpa only [List.cons_append, List.append_assoc] using N6
    replace hnd7 : ND ((S, instObj 169 dS) :: (dS, attrObj w D (.ref rl) (.int a ta) (.int b tb) t1 t2 t3 t4) :: (D, oD) :: (rl, listOf rv re) :: (nodesL (pre ++ n :: post) ++ ((tp, (⟨.type "tuple", none, .seq rv.toList.toArray, #[]⟩ : Obj)) :: R ++ [(I, oI)]))) := by simpa only [List.cons_append, List.append_assoc] using hnd7
    replace N6 := News.permP N6 (focus4 _ _ _ _ _ _ _ _)
    have hnd8 := hnd7.perm (focus4 _ _ _ _ _ _ _ _)
    have hA := hnd8.ne
    walk_at "go"
    refine kda_item N6 (.tail _ (.tail _ (.tail _ (.tail _ (.tail _ (.head _)))))) hD6 (strKind_is _ _ _ _) hval ?_
    walk_at "go"
    rename Fr g' _ _ _ => F9
    rename News g' _ _ _ => N9
    have N10 := News.permP N9 (focus4 _ _ _ _ pre post ⟨n.a, n.dx, n.l, n.key, n.kt, -1, _, n.vs, n.ep⟩ _).symm
    refine FPost.next (news' := ((S, instObj 169 dS) :: (dS, attrObj w D (.ref rl) (.int a ta) (.int b tb) t1 t2 t3 t4) :: (D, oD) :: (rl, listOf rv re) :: (nodesL (pre ++ ⟨n.a, n.dx, n.l, n.key, n.kt, -1, _, n.vs, n.ep⟩ :: post) ++ (tp, (⟨.type "tuple", none, .seq rv.toList.toArray, #[]⟩ : Obj)) :: R))) F9 (by simpa only [List.cons_append, List.append_assoc] using N10) ?_ ((hJ _ _ _).mpr fun C9 k9 => k9 _ rfl rfl rfl rfl ?_ ?_ ?_)
    · exact nd_last_ne4 (o := oI) (ND.same hnd7 (by simp [nodesL]))
    · rw [kvs_app] at hD6 ⊢; exact hD6
    · exact nd_dropLast4 (d := (I, oI)) (ND.same hnd7 (by simp [nodesL]))
    · refine (hG6.set (-1) _).congr ?_
      intro x hx
      rw [List.take_add_one, hu, Option.toList_some, hkey]
      by_cases h1 : x = u
      · simp [h1]
      · simp [h1]
  · intro m₁ news₁ h tk _ hj F6 N6
    refine (hJ _ _ _).mp hj _ fun ns eJ1 hm1 hm2 hm3 hD6 hnd6 hG6 => ?_
    subst eJ1
    rw [know_eq3 hm1 hm2 hm3] at F6
    replace N6 := News.permP N6 (unfront4 _ _ _ _ _ _ _).symm
    have hnd7 := hnd6.perm (unfront4 _ _ _ _ _ _ _).symm
    have hA1 := hnd7.tail.tail.tail.tail.ne
    have hA2 := hnd7.tail.tail.ne
    walk_at "go"
    have hB1 : S ≠ rl := fun e => hnd7.tail.ne (rl, _) (.tail _ (.tail _ (.head _))) e.symm
    have hB2 : dS ≠ rl := fun e => hnd7.tail.tail.ne (rl, _) (.tail _ (.head _)) e.symm
    have hB3 : D ≠ rl := fun e => hnd7.tail.tail.tail.ne (rl, _) (.head _) e.symm
    have hB4 : tp ≠ rl := fun e => hnd7.ne (rl, _) (.tail _ (.tail _ (.tail _ (.head _)))) e.symm
    refine clear_any F6 N6 (fun k => .tail hB4 (.tail hB1 (.tail hB2 (.tail hB3 (.head hA1))))) (by omega) ?_
    intro k h7 F7 N7
    clear F6 N6
    have hnd8 : ND ((tp, (⟨.type "tuple", none, .seq rv.toList.toArray, #[]⟩ : Obj)) :: (S, instObj 169 dS) :: (dS, attrObj w D (.ref rl) (.int a ta) (.int b tb) t1 t2 t3 t4) :: (D, oD) :: (rl, listOf #[] k) :: (nodesL ns ++ R)) := ND.same hnd7 rfl
    have hA3 := hnd8.tail.tail.ne
    have hC1 := neN (hnd8.ne (dS, _) (.tail _ (.head _)))
    have hC2 := neN (hnd8.tail.ne (dS, _) (.head _))
    have hC1' := neN (Ne.symm hC1)
    have hC2' := neN (Ne.symm hC2)
    dsimp only at hC1 hC2 hC1' hC2'
    walk_at "go"
    refine kun_lenT (k := rs.length) (News.isTup N7 (.head _)) (by rw [List.size_toArray, StrsAre.length hrs]) (by omega) ?_
    walk_at "go"
    refine hQ9 _ _ ?_
    walk_at "go"
    rename Fr h₀ _ _ _ => kF
    rename News h₀ _ _ _ => kN
    have e1 : rv.toList.length = rs.length := StrsAre.length hrs
    rw [e1, List.take_length] at hG6
    exact hQ _ _ tp ns _ k kF kN (ND.same hnd8 rfl) hD6 hG6
end Mine
end -- S7
section -- S8
open PySem PySem.W PySem.Calls PyProof.Rows
set_option Elab.async false
set_option maxRecDepth 100000
set_option maxHeartbeats 8000000
namespace Mine
local macro_rules | `(tactic| walk_at "no such key") => `(tactic| skip)
local macro_rules | `(tactic| walk_at "no such key") => `(tactic| skip)
local macro_rules | `(tactic| walk_at "no such key") => `(tactic| skip)
local macro_rules | `(tactic| walk_at "mfill") => `(tactic| (w_top off; (have kf : PySem.Challenge.rw_mr0297_01 = PySem.Challenge.rw_mr0297_01 ∧ hd.heap_39 = hd.heap_39 := (by (k_fill; exact ⟨rfl, rfl⟩))); clear kf))
local macro_rules | `(tactic| walk_at "go") => `(tactic| repeat' (first | walk1 | (dsimp only; walk1)))
local macro_rules | `(tactic| walk_at "execs cons") => `(tactic| refine wpAny_execs_cons ?_)
local macro_rules | `(tactic| walk_at "execs nil") => `(tactic| refine wpAny_execs_nil ?_)
local macro_rules | `(tactic| k_room) => `(tactic| ((try simp only [depth_under_make, depth_under_kw, depth_in1, depth_deeper, depth_caller]); (try dsimp only); unfold recursionLimit; omega))
local macro_rules | `(tactic| k_all) => `(tactic| assumption)
local macro_rules | `(tactic| walk_at "mcode") => `(tactic| (refine' code_def ?k1 ?k2 ?k3 ?k4 ?k5 ?kA ?kF ?kK ?k6 ?k7 ?k8 ?k9 ?kB ?_ ?c2 ?c3 ?c4 ?c5; (case k1 => assumption); (case k2 => assumption); (case k3 => assumption); (case k4 => assumption); (case k5 => assumption); (case kA => exact rfl); (case kF => assumption); (case kK => assumption); (case k6 => k_is); (case k7 => k_is); (case k8 => k_room); (case k9 => exact BindsTo.of_eq rfl); (case kB => exact locs rfl); (case c2 => exact rfl); (case c3 => exact rfl); (case c4 => exact rfl); (case c5 => decide)))
local macro_rules | `(tactic| walk_at "exec If") => `(tactic| refine wpAny_If ?_)
local macro_rules | `(tactic| walk_at "exec For Name Name cons nil") => `(tactic| refine stop ?_)
local macro_rules | `(tactic| walk_at "exec For Name Attribute cons nil") => `(tactic| refine stop ?_)

def setC (c : Str → Int) (x : Str) (v : Int) : Str → Int := fun y => if y = x then v else c y
def subF (st : (Str → Int) × List Str) (v : Str) : (Str → Int) × List Str := (setC st.1 v (st.1 v - 1), if st.1 v - 1 = 0 then st.2 ++ [v] else st.2)
def doneF (Eg : List (Str × Str)) (st : (Str → Int) × List Str) (x : Str) : (Str → Int) × List Str := (succs Eg x).foldl subF (setC st.1 x (-2), st.2)

theorem assoc4 {α : Type} (x y z t : α) (N R Z : List α) : (x :: y :: z :: t :: (N ++ R)) ++ Z = x :: y :: z :: t :: (N ++ (R ++ Z)) := by simp only [List.cons_append, List.append_assoc]
theorem done_call : ∀ {w : World} {A A₀ : Around} {p : Program} {loose : List Str} {mean : ExcName → Option Value} {mg mb : Str → Option Value} {base h₀ : Heap} {s : Shared}
   {env : Env} {L : Addr} {m : Str → Option Value} {R : List (Addr × Obj)} {outer : List Env} {S dS D rl : Addr} {npv : Value} {b : Int} {tb : Tok} {t1 t2 t3 t4 : Tok} {rv : Array Value} {re : Nat} {oD : Obj} {ns : List Nd} {Eg : List (Str × Str)} {Ks rs gs : List Str} {c : Str → Int} {gv : List Value}
   {Q : Value → Shared → Prop} {E : Value → Shared → Prop},
   (hd.heap_39 w.params).In h₀ → Top p loose mean mg mb h₀ → Below A₀ base outer h₀ → A.frames = some (env :: outer) → env.frame = some L → env.scope.kind = .function → A.handled = none →
   Fr h₀ L s.heap m → News h₀ L s.heap ((S, instObj 169 dS) :: (dS, attrObj w D (.ref rl) npv (.int b tb) t1 t2 t3 t4) :: (D, oD) :: (rl, listOf rv re) :: (nodesL (ns) ++ R)) → A.depth < 800 →
   ND ((S, instObj 169 dS) :: (dS, attrObj w D (.ref rl) npv (.int b tb) t1 t2 t3 t4) :: (D, oD) :: (rl, listOf rv re) :: (nodesL (ns) ++ R)) → oD.IsDictOf (PySem.strKind PG w) (kvsOf ns) → (D == sysModules) = false →
   Run ns Eg Ks c → StrsAre rv.toList rs → StrsAre gv gs → gs.length ≤ 1300 → Eg.length ≤ 2600 → rs.length ≤ 5000 → (∀ i x, gs[i]? = some x → x ∈ Ks ∧ ((gs.take i).foldl (doneF Eg) (c, rs)).1 x = -1) →
   (∀ h' tk ns' tb' rv' re', Fr h₀ L h' m → News h₀ L h' ((S, instObj 169 dS) :: (dS, attrObj w D (.ref rl) npv (.int (b + gs.length) tb') t1 t2 t3 t4) :: (D, oD) :: (rl, listOf rv' re') :: (nodesL (ns') ++ R)) → 
      ND ((S, instObj 169 dS) :: (dS, attrObj w D (.ref rl) npv (.int (b + gs.length) tb') t1 t2 t3 t4) :: (D, oD) :: (rl, listOf rv' re') :: (nodesL (ns') ++ R)) → 
      oD.IsDictOf (PySem.strKind PG w) (kvsOf ns') → Run ns' Eg Ks (gs.foldl (doneF Eg) (c, rs)).1 → StrsAre rv'.toList (gs.foldl (doneF Eg) (c, rs)).2 → Q .none { s with heap := h', toks := tk }) →
   codeAny (model PG w) A (.call (.ref 152) ⟨.ref S :: gv, []⟩) (fun r s' => match r with | .ok (.ret v) => Q v s' | .ok _ => False | .error e => E e s') s := by
  walk_at "mfill"
  intro w A A₀ p loose mean mg mb base h₀ s env L m R outer S dS D rl npv b tb t1 t2 t3 t4 rv re oD ns Eg Ks rs₀ gs c gv Q E X T B hfr hef hek hh F N hd hnd hD lo hR hrs hgs hgl hel hrl hpre hQ
  obtain ⟨ah, ad, af, ag, au⟩ := A
  obtain rfl : af = some (env :: outer) := hfr
  obtain rfl : ah = none := hh
  dsimp only at hd
  refine' kp_rest (vs := gv) (g₁ := fun D' => some [(Str.ofString "self", .ref S), (Str.ofString "nodes", .ref D')]) (binds := fun D' => [(Str.ofString "self", .ref S), (Str.ofString "nodes", .ref D')]) ?k1 ?k2 ?k3 ?k4 ?k5 ?kA ?kF ?kK ?k6 ?k7 ?k8 ?kV ?kP ?kG ?kB ?_ ?c2 ?c3 ?c4 ?c5
  case k1 => assumption
  case k2 => assumption
  case k3 => assumption
  case k4 => assumption
  case k5 => assumption
  case kA => exact rfl
  case kF => assumption
  case kK => assumption
  case k6 => k_is
  case k7 => k_is
  case k8 => k_room
  case kV => exact rfl
  case kP =>
    refine Eq.trans (congrArg (peek1 _ _) (?hb : _ = newTuple gv >>= fun t => pure [(Str.ofString "self", .ref S), (Str.ofString "nodes", t)])) ?_
    case hb => cases gv with | nil => exact rfl | cons a b => exact rfl
    rw [newTuple_small (by rw [StrsAre.length hgs, sizeLine_eq]; omega)]
    exact rfl
  case kG => exact fun _ => rfl
  case kB => exact fun _ => locs rfl
  case c2 => exact rfl
  case c3 => exact rfl
  case c4 => exact rfl
  case c5 => decide
  intro tp g' L' h1 l1 FG' F1 N1 B' X' T'
  k_fold
  clear F N
  replace N1 := News.permP N1 (unfront4 _ _ _ _ _ _ _)
  have hnd1 := (ND.consLt (o := ⟨.type "tuple", none, .seq gv.toArray, #[]⟩) hnd l1).perm (unfront4 _ _ _ _ _ _ _)
  refine hideQ fun Q9 hQ9 => ?_
  walk_at "go"
  rename Fr g' _ _ _ => F3
  rename News g' _ _ _ => N3
  refine unstop ?_
  refine wpAny_For ?_
  walk_at "go"
  obtain ⟨J, hJ⟩ : ∃ J : Nat → (Str → Option Value) → List (Addr × Obj) → Prop, ∀ i m news, J i m news ↔ ∀ C : Prop, (∀ (ns : List Nd) (rv : Array Value) (re : Nat) (tb : Tok), news = ((S, instObj 169 dS) :: (dS, attrObj w D (.ref rl) npv (.int (b + i) tb) t1 t2 t3 t4) :: (D, oD) :: (rl, listOf rv re) :: (nodesL (ns) ++ (tp, (⟨.type "tuple", none, .seq gv.toArray, #[]⟩ : Obj)) :: R)) → m (Str.ofString "self") = some (.ref S) → m (Str.ofString "n2i") = some (.ref D) → oD.IsDictOf (PySem.strKind PG w) (kvsOf ns) →
      ND ((S, instObj 169 dS) :: (dS, attrObj w D (.ref rl) npv (.int (b + i) tb) t1 t2 t3 t4) :: (D, oD) :: (rl, listOf rv re) :: (nodesL (ns) ++ (tp, (⟨.type "tuple", none, .seq gv.toArray, #[]⟩ : Obj)) :: R)) → Run ns Eg Ks ((gs.take i).foldl (doneF Eg) (c, rs₀)).1 → StrsAre rv.toList ((gs.take i).foldl (doneF Eg) (c, rs₀)).2 → rv.size ≤ 5000 + i * 2600 → C) → C := ⟨_, fun _ _ _ => Iff.rfl⟩
  refine iter_tupleE (h₀ := g') (vs := gv) J
    rfl (N3 _ (.tail _ (.tail _ (.tail _ (.tail _ (List.mem_append_right _ (.head _))))))).1 rfl rfl (.inr ?_) F3 N3 ((hJ _ _ _).mpr fun C k => k ns rv re tb ?_ rfl rfl hD ?_ ?_ ?_ ?_) ?_ ?_
  · intro i m news hj
    refine (hJ _ _ _).mp hj _ fun ns rv re tb e _ _ _ _ _ _ _ => ?_
    rw [e]
    exact .tail _ (.tail _ (.tail _ (.tail _ (List.mem_append_right _ (.head _)))))
  · rw [show b + ((0 : Nat) : Int) = b from by omega]
  · exact hnd1.same rfl
  · exact hR
  · exact hrs
  · have := StrsAre.length hrs; rw [Array.length_toList] at this; omega
  · clear hnd hD hR hrs hnd1
    intro i v m₁ news₁ h tk I oI _ hv hj ha F6 N6
    refine (hJ _ _ _).mp hj _ fun ns rv re tb e6 hm1 hm2 hD6 hnd6 hG6 hrs hrz => ?_
    rw [e6] at ha N6
    refine hideG fun X9 hX9 => ?_
    obtain ⟨u, tu, rfl, hu⟩ : ∃ u tu, v = .str u tu ∧ gs[i]? = some u := StrsAre.item_str hgs hv
    rw [know_eq2 hm1 hm2] at F6
    have hnd7 := ND.snoc (o := oI) hnd6 ha
    clear F3 N3
    obtain ⟨huK, hum⟩ := hpre i u hu
    have hstep : (gs.take (i + 1)).foldl (doneF Eg) (c, rs₀) = doneF Eg ((gs.take i).foldl (doneF Eg) (c, rs₀)) u := by
      rw [List.take_add_one, hu, Option.toList_some, List.foldl_append]; rfl
    generalize hst : (gs.take i).foldl (doneF Eg) (c, rs₀) = st at hum hstep hG6 hrs
    obtain ⟨c6, rs6⟩ := st
    dsimp only at hum hG6 hrs
    obtain ⟨pre, n, post, rfl, hkey, hval⟩ := hG6.find huK
    have hnp : n.np = -1 := by rw [hG6.np n (by simp), hkey]; exact hum
    replace N6 := News.permP N6 (.of_eq (assoc4 _ _ _ _ _ _ _))
    replace hnd7 := hnd7.perm (.of_eq (assoc4 _ _ _ _ _ _ _))
    replace N6 := News.permP N6 (focus4 _ _ _ _ _ _ _ _)
    have hnd8 := hnd7.perm (focus4 _ _ _ _ _ _ _ _)
    obtain ⟨na, ndx, nl, nkey, nkt, nnp, npt, nvs, nep⟩ := n
    dsimp only at hnp hkey
    subst hnp
    dsimp only at N6 hnd8 hval
    have hA := hnd8.ne
    refine hX9 ?_
    walk_at "go"
    refine kdg_get1 N6 (.tail _ (.tail _ (.tail _ (.tail _ (.tail _ (.head _)))))) hD6 lo (strKind_is _ _ _ _) _ hval ?_
    dsimp only [Option.getD]
    walk_at "go"
    rename Fr g' _ _ _ => F9
    rename News g' _ _ _ => N9
    refine unstop ?_
    refine wpAny_For ?_
    walk_at "go"
    have N10 := News.permP N9 (focus4 _ _ _ _ pre post ⟨na, ndx, nl, nkey, nkt, -2, _, nvs, nep⟩ _).symm
    have hG9 := fun pt => hG6.set (-2) pt
    dsimp only at hG9
    have hsu : StrsAre nvs.toList (succs Eg u) := by have := hG6.succ ⟨na, ndx, nl, nkey, nkt, -1, npt, nvs, nep⟩ (by simp); dsimp only at this; rwa [hkey] at this
    obtain ⟨J2, hJ2⟩ : ∃ J : Nat → (Str → Option Value) → List (Addr × Obj) → Prop, ∀ j m news, J j m news ↔ ∀ C : Prop, (∀ (ns : List Nd) (rv : Array Value) (re : Nat), news = ((S, instObj 169 dS) :: (dS, attrObj w D (.ref rl) npv (.int (b + i) tb) t1 t2 t3 t4) :: (D, oD) :: (rl, listOf rv re) :: (nodesL (ns) ++ ((tp, (⟨.type "tuple", none, .seq gv.toArray, #[]⟩ : Obj)) :: R ++ [(I, oI)]))) → m (Str.ofString "self") = some (.ref S) → m (Str.ofString "n2i") = some (.ref D) → oD.IsDictOf (PySem.strKind PG w) (kvsOf ns) →
      ND ((S, instObj 169 dS) :: (dS, attrObj w D (.ref rl) npv (.int (b + i) tb) t1 t2 t3 t4) :: (D, oD) :: (rl, listOf rv re) :: (nodesL (ns) ++ ((tp, (⟨.type "tuple", none, .seq gv.toArray, #[]⟩ : Obj)) :: R ++ [(I, oI)]))) → Run ns Eg Ks (((succs Eg u).take j).foldl subF (setC c6 u (-2), rs6)).1 → StrsAre rv.toList (((succs Eg u).take j).foldl subF (setC c6 u (-2), rs6)).2 → rv.size ≤ 5000 + i * 2600 + j → (∃ n' ∈ ns, n'.l = nl ∧ n'.vs = nvs ∧ n'.ep = nep) → C) → C := ⟨_, fun _ _ _ => Iff.rfl⟩
    refine iter_listE (h₀ := g') (vs := nvs.toList) J2
      rfl (N9 _ (.tail _ (.tail _ (.head _)))).1 rfl rfl (.inr ?_) F9 N10 ((hJ2 _ _ _).mpr fun C k => k _ rv re rfl rfl rfl ?_ (ND.same hnd7 ?_) ?_ hrs (by omega) ⟨_, List.mem_append_right _ (.head _), rfl, rfl, rfl⟩) ?_ ?_
    · intro j m news hj
      refine (hJ2 _ _ _).mp hj _ fun ns rv re e _ _ _ _ _ _ _ hn => ?_
      obtain ⟨n', hn', rfl, rfl, rfl⟩ := hn
      rw [e]
      refine .tail _ (.tail _ (.tail _ (.tail _ (List.mem_append_left _ ?_))))
      exact List.mem_flatMap.mpr ⟨n', hn', .tail _ (.tail _ (.head _))⟩
    · rw [kvs_app] at hD6 ⊢; exact hD6
    · simp [nodesL]
    · exact (hG9 _).congr fun x _ => by rw [List.take_zero]; show _ = setC c6 u (-2) x; unfold setC; rw [hkey]
    · intro j v m₂ news₂ h2 tk2 I2 oI2 _ hv2 hj ha2 F12 N12
      refine (hJ2 _ _ _).mp hj _ fun ns2 rv2 re2 e12 hm1 hm2 hD12 hnd12 hG12 hrs12 hrz12 hn12 => ?_
      rw [e12] at ha2 N12
      refine hideG fun X9 hX9 => ?_
      obtain ⟨x, tx, rfl, hx⟩ : ∃ x tx, v = .str x tx ∧ (succs Eg u)[j]? = some x := StrsAre.item_str hsu hv2
      rw [know_eq2 hm1 hm2] at F12
      have hnd13 := ND.snoc (o := oI2) hnd12 ha2
      clear F9 N9 N10
      have hxK : x ∈ Ks := by
        obtain ⟨e, he, e2⟩ := List.mem_map.mp (List.mem_of_getElem? hx)
        rw [← e2]; exact hG12.tgt e (List.mem_filter.mp he).1
      obtain ⟨pre2, n2, post2, rfl, hkey2, hval2⟩ := hG12.find hxK
      replace N12 := News.permP N12 (.of_eq (assoc4 _ _ _ _ _ _ _))
      replace hnd13 := hnd13.perm (.of_eq (assoc4 _ _ _ _ _ _ _))
      replace N12 := News.permP N12 (focus4 _ _ _ _ _ _ _ _)
      have hnd14 := hnd13.perm (focus4 _ _ _ _ _ _ _ _)
      have hA2 := hnd14.ne
      have hC0 := hnd14.tail.tail.tail.tail.tail.tail.ne
      have hC1 := neN (hnd14.ne (rl, _) (.tail _ (.tail _ (.tail _ (.tail _ (.tail _ (.head _)))))))
      have hC2 := neN (hnd14.tail.ne (rl, _) (.tail _ (.tail _ (.tail _ (.tail _ (.head _))))))
      have hC3 := neN (hnd14.tail.tail.ne (rl, _) (.tail _ (.tail _ (.tail _ (.head _)))))
      have hC4 := neN (hnd14.tail.tail.tail.ne (rl, _) (.tail _ (.tail _ (.head _))))
      have hC5 := neN (hnd14.tail.tail.tail.tail.ne (rl, _) (.tail _ (.head _)))
      have hC6 := neN (hnd14.tail.tail.tail.tail.tail.ne (rl, _) (.head _))
      dsimp only at hC1 hC2 hC3 hC4 hC5 hC6
      have hnp2 : n2.np = (((succs Eg u).take j).foldl subF (setC c6 u (-2), rs6)).1 x := by rw [hG12.np n2 (by simp), hkey2]
      have hstep2 : ((succs Eg u).take (j + 1)).foldl subF (setC c6 u (-2), rs6) = subF (((succs Eg u).take j).foldl subF (setC c6 u (-2), rs6)) x := by
        rw [List.take_add_one, hx, Option.toList_some, List.foldl_append]; rfl
      have hil : i < gs.length := (List.getElem?_eq_some_iff.mp hu).1
      have hjl : j < (succs Eg u).length := (List.getElem?_eq_some_iff.mp hx).1
      have hsl : (succs Eg u).length ≤ Eg.length := by unfold succs; rw [List.length_map]; exact List.length_filter_le _ _
      have hend : ∀ (h' : Heap) (m' : Str → Option Value) (pt' : Tok) (rv' : Array Value) (re' : Nat), Fr g' L' h' m' → m' (Str.ofString "self") = some (.ref S) → m' (Str.ofString "n2i") = some (.ref D) →
          News g' L' h' ((n2.a, nodeObj n2.dx n2.l (n2.np - 1) pt' n2.key n2.kt) :: (n2.dx, dictOf [] 0) :: (n2.l, listOf n2.vs n2.ep) :: (S, instObj 169 dS) :: (dS, attrObj w D (.ref rl) npv (.int (b + i) tb) t1 t2 t3 t4) :: (D, oD) :: (rl, listOf rv' re') :: (nodesL (pre2 ++ post2) ++ ((tp, (⟨.type "tuple", none, .seq gv.toArray, #[]⟩ : Obj)) :: R ++ [(I, oI)] ++ [(I2, oI2)]))) →
          StrsAre rv'.toList (((succs Eg u).take (j + 1)).foldl subF (setC c6 u (-2), rs6)).2 → rv'.size ≤ 5000 + i * 2600 + (j + 1) →
          ∃ (m'' : Str → Option Value) (news' : List (Addr × Obj)), Fr g' L' h' m'' ∧ News g' L' h' (news' ++ [(I2, oI2)]) ∧ (∀ p ∈ news', p.1 ≠ I2) ∧ J2 (j + 1) m'' news' := by
        intro h' m' pt' rv' re' Fa q1 q2 Na sa za
        have Nb := News.permP (News.permP Na (focus4 _ _ _ _ pre2 post2 ⟨n2.a, n2.dx, n2.l, n2.key, n2.kt, n2.np - 1, pt', n2.vs, n2.ep⟩ _).symm) (.of_eq (assoc4 _ _ _ _ _ _ _).symm)
        have hp : (((succs Eg u).take (j + 1)).foldl subF (setC c6 u (-2), rs6)).1 = fun y => if y = n2.key then n2.np - 1 else (((succs Eg u).take j).foldl subF (setC c6 u (-2), rs6)).1 y := by
          rw [hstep2]; funext y; rw [hkey2, hnp2]; rfl
        refine ⟨m', _, Fa, Nb, nd_last_ne4 (o := oI2) (ND.same hnd13 (by simp [nodesL])), (hJ2 _ _ _).mpr fun C k => k _ rv' re' rfl q1 q2 ?_ (nd_dropLast4 (d := (I2, oI2)) (ND.same hnd13 (by simp [nodesL]))) ?_ sa za ?_⟩
        · rw [kvs_app] at hD12 ⊢; exact hD12
        · rw [hp]; exact hG12.set (n2.np - 1) _
        · obtain ⟨n', hn', hn'l, hn'v, hn'e⟩ := hn12
          rcases mem_mid hn' with e | hm
          · exact ⟨_, List.mem_append_right _ (.head _), by rw [← hn'l, e], by rw [← hn'v, e], by rw [← hn'e, e]⟩
          · refine ⟨n', ?_, hn'l, hn'v, hn'e⟩
            rcases List.mem_append.mp hm with hm | hm
            · exact List.mem_append_left _ hm
            · exact List.mem_append_right _ (.tail _ hm)
      refine hX9 ?_
      walk_at "go"
      refine kda_item N12 (.tail _ (.tail _ (.tail _ (.tail _ (.tail _ (.head _)))))) hD12 (strKind_is _ _ _ _) hval2 ?_
      walk_at "go"
      · rename Fr g' _ _ _ => F15
        rename News g' _ _ _ => N15
        rename n2.np - 1 = 0 => hc0
        refine (hend _ _ _ _ _ F15 rfl rfl N15 ?_ ?_).elim fun m'' he => he.elim fun news' he => FPost.next he.1 he.2.1 he.2.2.1 he.2.2.2
        · rw [hstep2]
          show StrsAre _ (if _ then _ else _)
          rw [← hnp2, if_pos hc0]
          exact strsAre_push hrs12
        · rw [Array.size_push]; omega
      · rename Fr g' _ _ _ => F15
        rename News g' _ _ _ => N15
        rename ¬ (n2.np - 1 = 0) => hc0
        refine (hend _ _ _ _ _ F15 rfl rfl N15 ?_ ?_).elim fun m'' he => he.elim fun news' he => FPost.next he.1 he.2.1 he.2.2.1 he.2.2.2
        · rw [hstep2]
          show StrsAre _ (if _ then _ else _)
          rw [← hnp2, if_neg hc0]
          exact hrs12
        · omega
    · intro m₂ news₂ h2 tk2 _ hj F12 N12
      refine (hJ2 _ _ _).mp hj _ fun ns2 rv2 re2 e12 hm1 hm2 hD12 hnd12 hG12 hrs12 hrz12 _ => ?_
      rw [e12] at N12
      refine hideG fun X9 hX9 => ?_
      have e1 : nvs.toList.length = (succs Eg u).length := StrsAre.length hsu
      have hsl : (succs Eg u).length ≤ Eg.length := by unfold succs; rw [List.length_map]; exact List.length_filter_le _ _
      have hil : i < gs.length := (List.getElem?_eq_some_iff.mp hu).1
      rw [e1, List.take_length] at hG12 hrs12
      rw [know_eq2 hm1 hm2] at F12
      have hA2 := hnd12.tail.ne
      have hC1 := neN (hnd12.ne (dS, _) (.head _))
      have hC2 := neN (Ne.symm hC1)
      dsimp only at hC1 hC2
      clear F9 N9 N10
      refine hX9 ?_
      walk_at "go"
      rename Fr g' _ _ _ => F15
      rename News g' _ _ _ => N15
      rw [show b + (i : Int) + 1 = b + ((i + 1 : Nat) : Int) from by omega] at N15
      refine FPost.next (news' := ((S, instObj 169 dS) :: (dS, attrObj w D (.ref rl) npv (.int (b + ((i + 1 : Nat) : Int)) _) t1 t2 t3 t4) :: (D, oD) :: (rl, listOf rv2 re2) :: (nodesL (ns2) ++ (tp, (⟨.type "tuple", none, .seq gv.toArray, #[]⟩ : Obj)) :: R))) F15 (News.permP N15 (.of_eq (assoc4 _ _ _ _ _ _ _).symm)) ?_ ((hJ _ _ _).mpr fun C k => k ns2 rv2 re2 _ rfl rfl rfl hD12 ?_ ?_ ?_ ?_)
      · exact nd_last_ne4 (o := oI) (ND.same hnd12 (by simp))
      · exact nd_dropLast4 (d := (I, oI)) (ND.same hnd12 (by simp))
      · rw [hstep]; exact hG12
      · rw [hstep]; exact hrs12
      · omega
  · intro m₁ news₁ h tk _ hj F12 N12
    refine (hJ _ _ _).mp hj _ fun ns2 rv2 re2 tb2 e12 hm1 hm2 hD12 hnd12 hG12 hrs12 hrz12 => ?_
    rw [e12] at N12
    have e1 : gv.length = gs.length := StrsAre.length hgs
    rw [e1, List.take_length] at hG12 hrs12
    rw [e1] at N12 hnd12
    walk_at "go"
    refine hQ9 _ _ ?_
    walk_at "go"
    rename Fr h₀ _ _ _ => kF
    rename News h₀ _ _ _ => kN
    refine hQ _ _ ns2 tb2 rv2 re2 kF (News.sub kN ?_) ?_ hD12 hG12 hrs12
    · intro q hq
      simp only [List.mem_cons, List.mem_append] at hq ⊢
      rcases hq with h | h | h | h | h | h <;> simp [h]
    · refine hnd12.sublist ?_
      refine .cons₂ _ (.cons₂ _ (.cons₂ _ (.cons₂ _ (List.Sublist.append_left (List.sublist_cons_self _ _) _))))
end Mine
end -- S8
section -- B6
open PySem PySem.W PySem.Calls PyProof.Rows
set_option Elab.async false
set_option maxRecDepth 100000
set_option maxHeartbeats 8000000
namespace Mine
section
variable {prog : Program} {w : World} {A : Around} {E : Value → Shared → Prop} {s : Shared} {h₀ : Heap} {body : List Stmt} {Q : Flow → Shared → Prop} {m : Str → Option Value} {news : List (Addr × Obj)}

/-- for x in a dict with texts as keys -/
theorem iter_dictE {nm : Str} {sc : Scope} {L a : Addr} {cd : Value} {x : Str} {px : Pos} {l : Addr} {kvs : List (Str × Value)} {ol : Obj} (J : Nat → (Str → Option Value) → List (Addr × Obj) → Prop) (hh : A.handled = none)
    (lo : (l == sysModules) = false) (hol : s.heap.get? l = some ol) (hD : ol.IsDictOf (PySem.strKind prog w) kvs) (hst : h₀.get? l = some ol ∨ ∀ i m₁ news₁, J i m₁ news₁ → (l, ol) ∈ news₁)
    (F : Fr h₀ L s.heap m) (N : News h₀ L s.heap news) (h0 : J 0 m news)
    (turn : ∀ i k t y m₁ news₁ h tk I oI, s.toks ≤ tk → kvs[i]? = some (k, y) → J i m₁ news₁ → (∀ p ∈ news₁, p.1 ≠ I) → Fr h₀ L h (fun z => if z = x then some (.str k t) else m₁ z) → News h₀ L h (news₁ ++ [(I, oI)]) →
      wpAny (model prog w) A (execs body (envOf nm sc L a cd)) (FPost h₀ L I oI (J (i + 1)) s Q) NoE { s with heap := h, toks := tk })
    (done : ∀ m₁ news₁ h tk, s.toks ≤ tk → J kvs.length m₁ news₁ → Fr h₀ L h m₁ → News h₀ L h news₁ → Q .next { s with heap := h, toks := tk })
    (hx : (envOf nm sc L a cd).kindOf x = some .local := by rfl)
    (hp : (sc.kind == .class || (sc.kind == .module && L != mainGlobals)) = false := by rfl) :
    wpAny (model prog w) A (pyIter (.ref l)) (fun it s₂ => codeAny (model prog w) A (.forLoop (.Name x px) it body [] (envOf nm sc L a cd)) (fun r s' => match r with | .ok f => Q f s' | .error e => cameBackBy (model prog w) A (envOf nm sc L a cd) E e s') s₂) E s := by
  obtain ⟨ep, hdm⟩ := (Heap.dictOf_iff.mpr ⟨ol, hol, hD⟩ : s.heap.DictOf (PySem.strKind prog w) l kvs).dictAt
  have hne : l ≠ s.heap.objs.size := Nat.ne_of_lt (Heap.lt_size hol)
  refine wpAny_pyIter_dict lo hdm ?_
  have W := Walks.dictKeys (prog := prog) (w := w) (knd := PySem.strKind prog w) hh s.heap.objs.size l hne kvs ep
  refine forRule (env := envOf nm sc L a cd) (h₀ := h₀) (s := { s with heap := _ }) W J (fun _ v m₁ y => if y = x then some v else m₁ y) (Nat.ne_of_lt F.ns.lt) (next_is_new F) (fun i h st => let ⟨o, ho, _⟩ := st.1; ⟨o, ho⟩) ?_ (fun _ _ _ _ _ _ hq => wpAny_pure hq) ?_
    ⟨⟨_, Heap.get?_push_size _ rfl, rfl, rfl⟩, hdm.push _⟩ (F.push _) (fun p hp => ⟨Heap.get?_push_of_some _ (N p hp).1, (N p hp).2⟩) (fun p hp => Nat.ne_of_lt (Heap.lt_size (N p hp).1)) h0 ?_ done
  · intro b hb hbI
    rcases List.mem_cons.mp hb with e | hb
    · exact absurd e hbI
    · rw [List.mem_singleton.mp hb]
      exact ⟨ol, Heap.get?_push_of_some _ hol, hst⟩
  · intro i v s₁ m₁ news₁ oI Q' _ _ F₁ N₁ hQ'
    exact wpAny_assign_Name (wpAny_storeName_local hx F₁.ns (fun h' hn hs => hQ' h' _ (F₁.set hn hs) (N₁.set hs)) hp)
  · intro i v m₁ news₁ h tk oI hle _ hP hJ ha F₁ N₁
    obtain ⟨k, y, hk, hkey⟩ := hP
    obtain ⟨t, rfl⟩ := Value.isStrOf_shape hkey
    exact turn i k t y m₁ news₁ h tk _ oI hle hk hJ ha F₁ N₁
end
end Mine
end -- B6
section -- B7
open PySem PySem.W PySem.Calls PyProof.Rows
set_option Elab.async false
set_option maxRecDepth 100000
set_option maxHeartbeats 8000000
namespace Mine
section
variable {prog : Program} {w : World} {A : Around} {E : Value → Shared → Prop} {s : Shared} {h₀ : Heap} {L l : Addr} {m : Str → Option Value} {news : List (Addr × Obj)}

abbrev liObj (l : Addr) (i : Nat) : Obj := ⟨.type "list_iterator", none, .fields #[.ref l, .int i 0], #[]⟩

theorem iter_of_list {its : Array Value} {Q : Value → Shared → Prop} (F : Fr h₀ L s.heap m) (N : News h₀ L s.heap news) (hl : s.heap.IsList l its)
    (h : ∀ (I : Addr) h', Fr h₀ L h' m → News h₀ L h' ((I, liObj l 0) :: news) → (∀ p ∈ news, p.1 < I) → Q (.ref I) { s with heap := h' }) :
    wpAny (model prog w) A (call (.builtin "iter") [.ref l]) Q E s := by
  refine call_function_entry (by decide +kernel) (by decide +kernel) kdk_entry_iter (kdk_args_iter _) ?_
  unfold Builtin.«iter»
  refine wpAny_bind (m := someArgs "iter" 1 2 _) (wpAny_of_eq (a := [Value.ref l]) (by first | rfl | kernel_rfl!) ?_)
  show wpAny _ _ (pyIter (.ref l) >>= _) _ _ _
  refine wpAny_bind (wpAny_pyIter_list hl ?_)
  exact wpAny_pure ⟨_, rfl, h _ _ (F.push _) (News.push F N _ rfl) (fun q hq => Heap.lt_size (N q hq).1)⟩
end
end Mine
end -- B7
section -- B8
open PySem PySem.W PySem.Calls PyProof.Rows
set_option Elab.async false
set_option maxRecDepth 100000
set_option maxHeartbeats 2000000
namespace Mine
theorem li_next_lookup : typeLookup (.type "list_iterator") "__next__" = pure (some (.builtin "list_iterator.__next__")) := by rw [typeLookup_type, builtinLookup_eq_fast]; kernel_rfl
theorem li_next_type : typeOf (.builtin "list_iterator.__next__") = pure (.type "wrapper_descriptor") := by kernel_rfl
theorem slot_wd_get : Slot "wrapper_descriptor" "__get__" "wrapper_descriptor.__get__" :=
  .of (owner := "wrapper_descriptor") (n := "__get__") (by rw [typeLookup_type, builtinLookup_eq_fast]; kernel_rfl) (by decide +kernel) (by decide +kernel) (by decide +kernel)
    (by first | exact .inl (by decide +kernel) | exact .inr (by decide +kernel)) (by rw [isSubtype_type]; kernel_rfl)
theorem wd_set : typeLookup (.type "wrapper_descriptor") "__set__" = pure none := by rw [typeLookup_type, builtinLookup_eq_fast]; kernel_rfl
theorem wd_del : typeLookup (.type "wrapper_descriptor") "__delete__" = pure none := by rw [typeLookup_type, builtinLookup_eq_fast]; kernel_rfl
theorem li_dict : typeLookup (.type "list_iterator") "__dict__" = pure none := by rw [typeLookup_type, builtinLookup_eq_fast]; kernel_rfl
theorem entry_wd_get : entryFor table "wrapper_descriptor.__get__" = some Builtin.«wrapper_descriptor.__get__» := entryFor_of_tree (by kernel_rfl)
theorem args_wd_get (a b c : Value) : argsOk "wrapper_descriptor.__get__" ⟨[a, b, c], []⟩ := by unfold argsOk; kernel_rfl
theorem slot_li_ga : Slot "list_iterator" "__getattribute__" "object.__getattribute__" :=
  .of (owner := "object") (n := "__getattribute__") (by rw [typeLookup_type, builtinLookup_eq_fast]; kernel_rfl) (by decide +kernel) (by decide +kernel) (by decide +kernel)
    (by first | exact .inl (by decide +kernel) | exact .inr (by decide +kernel)) (by rw [isSubtype_type]; kernel_rfl)
theorem entry_ob_ga : entryFor table "object.__getattribute__" = some Builtin.«object.__getattribute__» := entryFor_of_tree (by kernel_rfl)
theorem args_ob_ga (a b : Value) : argsOk "object.__getattribute__" ⟨[a, b], []⟩ := by unfold argsOk; kernel_rfl
theorem li_sub_self : isSubtype (.type "list_iterator") (.type (".".intercalate ("list_iterator.__next__".cutAt '.').dropLast)) = pure true := by
  have e : (".".intercalate ("list_iterator.__next__".cutAt '.').dropLast) = "list_iterator" := by
    have e0 : "list_iterator.__next__".cutAt '.' = ["list_iterator", "__next__"] := by first | rfl | decide +kernel
    rw [e0]; decide +kernel
  rw [e, isSubtype_type]; kernel_rfl
theorem li_getattr : typeLookup (.type "list_iterator") "__getattr__" = pure none := by rw [typeLookup_type, builtinLookup_eq_fast]; kernel_rfl

abbrev mwObj (I : Addr) : Obj := ⟨.type "method-wrapper", none, .fields #[.builtin "list_iterator.__next__", .ref I], #[]⟩
section
variable {prog : Program} {w : World} {A : Around} {E : Value → Shared → Prop} {h : Heap} {g : Array GenState} {d : Drawn} {t : Nat} {os : OsState} {a : Addr} {o : Obj}

theorem next_get {R : Result → Shared → Prop} (hx : h.get? a = some o) (hc : o.cls = .type "list_iterator") (hq : R (.ok (.ret (.ref h.objs.size))) ⟨h.push (mwObj a), g, d, t, os⟩) :
    codeAny (model prog w) A (.call (.builtin "wrapper_descriptor.__get__") ⟨[.builtin "list_iterator.__next__", .ref a, .type "list_iterator"], []⟩) R ⟨h, g, d, t, os⟩ := by
  have hT : (⟨h, g, d, t, os⟩ : Shared).TypeIs (.ref a) "list_iterator" := ⟨_, hx, hc⟩
  have hT5 : (⟨h, g, d, t, os⟩ : Shared).TypeIs (.builtin "list_iterator.__next__") "wrapper_descriptor" := li_next_type
  have f8 := li_sub_self
  refine codeAny_call_builtin slot_wd_get.plain entry_wd_get (slot_wd_get.check _ _ _ _ _ _ _ _ hT5 (args_wd_get _ _ _) ?_)
  repeat (any_goals (first | assumption | wp_step))

theorem next_entry {l : Addr} {j : Nat} {tk : Tok} {Q : Fin → Shared → Prop} (hx : h.get? a = some (liObj l j)) (hq : Q (.done (.ret (.ref h.objs.size))) ⟨h.push (mwObj a), g, d, t, os⟩) :
    wpAny (model prog w) A (Builtin.«object.__getattribute__» ⟨[.ref a, .str "__next__" tk], []⟩) Q E ⟨h, g, d, t, os⟩ := by
  have hT : (⟨h, g, d, t, os⟩ : Shared).TypeIs (.ref a) "list_iterator" := ⟨_, hx, rfl⟩
  have hT5 : (⟨h, g, d, t, os⟩ : Shared).TypeIs (.builtin "list_iterator.__next__") "wrapper_descriptor" := li_next_type
  have f4 := li_next_lookup
  have f5 := li_next_type
  have f6 := slot_wd_get.lookup
  have f7 := wd_set
  have f8 := wd_del
  have f9 := li_dict
  repeat (any_goals (first | assumption | wp_step))
  refine next_get hx rfl ?_
  repeat (any_goals (first | assumption | wp_step))

theorem next_call {l : Addr} {j : Nat} {tk : Tok} {R : Result → Shared → Prop} (hx : h.get? a = some (liObj l j)) (hq : R (.ok (.ret (.ref h.objs.size))) ⟨h.push (mwObj a), g, d, t, os⟩) :
    codeAny (model prog w) A (.call (.builtin "object.__getattribute__") ⟨[.ref a, .str "__next__" tk], []⟩) R ⟨h, g, d, t, os⟩ :=
  codeAny_call_builtin slot_li_ga.plain entry_ob_ga (slot_li_ga.check _ _ _ _ _ _ _ _ (show (⟨h, g, d, t, os⟩ : Shared).TypeIs (.ref a) "list_iterator" from ⟨_, hx, rfl⟩) (args_ob_ga _ _) (next_entry hx hq))

theorem next_by {l : Addr} {j : Nat} {tk : Tok} {Q : Value → Shared → Prop} (hx : h.get? a = some (liObj l j)) (hq : Q (.ref h.objs.size) ⟨h.push (mwObj a), g, d, t, os⟩) : wpAny (model prog w) A (getAttrBy (.ref a) (.str "__next__" tk) true true) Q E ⟨h, g, d, t, os⟩ := by
  have hT : (⟨h, g, d, t, os⟩ : Shared).TypeIs (.ref a) "list_iterator" := ⟨_, hx, rfl⟩
  have f2 := slot_li_ga.lookup
  have f3 := slot_li_ga.bind (.ref a)
  repeat (any_goals (first | assumption | wp_step))
  refine next_call hx ?_
  repeat (any_goals (first | assumption | wp_step))

theorem next_attr {l : Addr} {j : Nat} {Q : Value → Shared → Prop} (hx : h.get? a = some (liObj l j)) (hq : Q (.ref h.objs.size) ⟨h.push (mwObj a), g, d, t + 1, os⟩) : wpAny (model prog w) A (getAttr (.ref a) (Str.ofString "__next__") true) Q E ⟨h, g, d, t, os⟩ := by
  unfold getAttr
  refine wpAny_bind (wpAny_mkText ?_)
  exact next_by hx hq
end
end Mine
end -- B8
section -- B9
open PySem PySem.W PySem.Calls PyProof.Rows
set_option Elab.async false
set_option maxRecDepth 100000
set_option maxHeartbeats 2000000
namespace Mine
theorem quiet_lin : "list_iterator.__next__".startsWith "lifetime." = false := by decide +kernel
section
variable {prog : Program} {w : World} {A : Around} {E : Value → Shared → Prop} {s : Shared} {W I l : Addr} {j : Nat}

theorem mw_with {pos : Pos} {M : Model} {Q : Value → Shared → Prop} (ho : s.heap.get? W = some (mwObj I))
    (h : wpAny M A (call (.ref W) []) Q E s) : wpAny M A (callWith pos (.ref W) [] [] []) Q E s := by
  unfold callWith
  refine wpAny_bind (wpAny_holding ?_)
  refine wpAny_pure ?_
  refine wpAny_bind (wpAny_standAt ?_)
  refine wpAny_bind (m := keeperOf (.ref W)) ?_
  unfold keeperOf
  refine wpAny_bind (wpAny_load ho ?_)
  simp only [show (Value.type "method-wrapper" != Value.type "method") = true by decide, show (Value.type "method-wrapper" == Value.type "builtin_function_or_method" || Value.type "method-wrapper" == Value.type "method-wrapper") = true by decide, if_true]
  refine wpAny_pure ?_
  exact wpAny_bind (wpAny_mono h (fun r s₂ hr => wpAny_bind (wpAny_holding (wpAny_point (wpAny_pure hr)))) fun _ _ x => x)

theorem check_lin : checkBoundCall "list_iterator.__next__" ⟨[.ref I], []⟩ = pure () := by first | kernel_rfl | rfl

theorem mw_item {items : Array Value} {x : Value} {Q : Value → Shared → Prop} (ho : s.heap.get? W = some (mwObj I)) (hI : s.heap.get? I = some (liObj l j)) (hl : s.heap.IsList l items) (hx : items[j]? = some x)
    (hQ : ∀ h', h'.get? I = some (liObj l (j + 1)) → Heap.SameBut I s.heap h' → Q x { s with heap := h' }) : wpAny (model prog w) A (call (.ref W) []) Q E s := by
  obtain ⟨ol, hol, _, nl, hdl⟩ := hl
  refine wpAny_call (codeAny_of_tree ?_)
  show wpAny _ A.in1 (callAny (.ref W) ⟨[], []⟩) _ _ s
  simp only [callAny]
  refine wpAny_bind (wpAny_load ho ?_)
  simp only [show (Value.type "method-wrapper" == Value.type "method" || Value.type "method-wrapper" == Value.type "builtin_function_or_method" || Value.type "method-wrapper" == Value.type "method-wrapper") = true by decide, if_true]
  show wpAny _ _ (if (Value.type "method-wrapper" != Value.type "method") = true then _ else _) _ _ _
  rw [if_pos (by decide)]
  refine wpAny_bind (wpAny_of_eq (a := ()) check_lin ?_)
  refine wpAny_bind (wpAny_pure (wpAny_pure ?_))
  refine ⟨Code.quiet_builtin _ quiet_lin, codeAny_builtin entry_listiter_next ?_⟩
  show wpAny _ _ (field (.ref I) 0 >>= _) _ _ s
  refine wpAny_bind (wpAny_field hI rfl (x := .ref l) rfl ?_)
  show wpAny _ _ (if (Value.ref l == Value.none) = true then _ else _) _ _ s
  rw [if_neg (show ¬ ((Value.ref l == Value.none) = true) from Bool.false_ne_true)]
  show wpAny _ _ (field (.ref I) 1 >>= _) _ _ s
  refine wpAny_bind (wpAny_field hI rfl (x := .int j 0) rfl ?_)
  show wpAny _ _ (seqItems? (.ref l) >>= _) _ _ s
  refine wpAny_bind (wpAny_seqItems hol hdl ?_)
  simp only [Int.toNat_natCast, hx]
  refine wpAny_bind (wpAny_setField hI rfl (by simp) (wpAny_pure (hQ _ ?_ (Heap.SameBut.update ..))))
  have := Heap.get?_update_self (Obj.mapFields (·.setIfInBounds 1 (rawInt (j + 1)))) hI (Obj.isFreed_of_fields (Obj.data_mapFields rfl _))
  exact this

theorem mw_end {items : Array Value} {Q : Value → Shared → Prop} (hh : A.handled = none) (ho : s.heap.get? W = some (mwObj I)) (hI : s.heap.get? I = some (liObj l j)) (hl : s.heap.IsList l items) (hx : items[j]? = none)
    (hQ : ∀ hm h' e, Heap.SameBut I s.heap hm → Heap.NewExc hm h' e "StopIteration" → E (.ref e) { s with heap := h' }) : wpAny (model prog w) A (call (.ref W) []) Q E s := by
  obtain ⟨ol, hol, _, nl, hdl⟩ := hl
  refine wpAny_call (codeAny_of_tree ?_)
  show wpAny _ A.in1 (callAny (.ref W) ⟨[], []⟩) _ _ s
  simp only [callAny]
  refine wpAny_bind (wpAny_load ho ?_)
  simp only [show (Value.type "method-wrapper" == Value.type "method" || Value.type "method-wrapper" == Value.type "builtin_function_or_method" || Value.type "method-wrapper" == Value.type "method-wrapper") = true by decide, if_true]
  show wpAny _ _ (if (Value.type "method-wrapper" != Value.type "method") = true then _ else _) _ _ _
  rw [if_pos (by decide)]
  refine wpAny_bind (wpAny_of_eq (a := ()) check_lin ?_)
  refine wpAny_bind (wpAny_pure (wpAny_pure ?_))
  refine ⟨Code.quiet_builtin _ quiet_lin, codeAny_builtin entry_listiter_next ?_⟩
  show wpAny _ _ (field (.ref I) 0 >>= _) _ _ s
  refine wpAny_bind (wpAny_field hI rfl (x := .ref l) rfl ?_)
  show wpAny _ _ (if (Value.ref l == Value.none) = true then _ else _) _ _ s
  rw [if_neg (show ¬ ((Value.ref l == Value.none) = true) from Bool.false_ne_true)]
  show wpAny _ _ (field (.ref I) 1 >>= _) _ _ s
  refine wpAny_bind (wpAny_field hI rfl (x := .int j 0) rfl ?_)
  show wpAny _ _ (seqItems? (.ref l) >>= _) _ _ s
  refine wpAny_bind (wpAny_seqItems hol hdl ?_)
  simp only [Int.toNat_natCast, hx]
  refine wpAny_bind (wpAny_rule (wpAny_bind (wpAny_setField hI rfl (by simp) ?_)))
  show wpAny _ _ (newExc (.type "StopIteration") [] >>= _) _ _ _
  refine wpAny_bind ?_
  simp only [newExc, newTuple]
  refine wpAny_bind (wpAny_newObj_type ?_ (by size_fits))
  refine wpAny_bind (m := firstArgMember _ _) (wpAny_of_eq (a := Value.none) (by first | rfl | (simp only [firstArgMember]; rfl)) ?_)
  refine wpAny_newObj_type ?_ (by size_fits)
  simp only [raiseNew]
  refine wpAny_bind (wpAny_handled ?_)
  rw [show ∀ c, (A.under c).handled = none from fun c => by first | exact hh | (cases c <;> exact hh)]
  refine wpAny_bind (wpAny_pure (wpAny_throw ?_))
  refine hQ _ _ _ (Heap.SameBut.update ..) ⟨fun b o hb => Heap.get?_push_of_some _ (Heap.get?_push_of_some _ hb), Heap.get?_none_of_le ?_, ⟨_, _, Heap.get?_push_size _ rfl, rfl, rfl⟩⟩
  rw [Heap.size_push]; exact Nat.le_succ _
end
end Mine
end -- B9
section -- B10
open PySem PySem.W PySem.Calls PyProof.Rows PySem.Spec
set_option Elab.async false
set_option maxRecDepth 100000
set_option maxHeartbeats 2000000
namespace Mine
section
variable {prog : Program} {w : World} {A₀ : Around} {s' : Shared} {base g g₀ h : Heap} {outer : List Env} {L a e : Addr} {m : Str → Option Value} {name : Str} {scope : Scope} {cd : Value}
  {b₀ : Stmt} {suite : List Stmt} {pos np : Pos} {rest : List ExceptHandler} {Q : Flow → Shared → Prop} {news : List (Addr × Obj)} {KF : Frag}
  {p : Program} {loose : List Str} {mean : ExcName → Option Value} {mg mb : Str → Option Value} {x : Str} {X T' : String}

theorem caught_new (hx : Heap.NewExc h s'.heap e X) (F : Fr g L h m) (N : News g L h news) (K : Below A₀ base outer g) (XB : KF.In base) (TB : Top p loose mean mg mb base)
    (D : KtsDicts (outer.filterMap (·.frame)) g) (T0 : KtsTurn (outer.filterMap (·.frame)) g₀ g)
    (ex : nsIn KF mainGlobals x = some none) (hv : bootBuiltins x = some (.type T')) (hn' : x ≠ "__name__")
    (hexc : isSubtype (.type T') (.type "BaseException") = pure true) (hnt : isSubtype (.type ((Manifest.find? T').elim "type" fun y => y.metatype)) (.type "tuple") = pure false) (hsub : isSubtype (.type X) (.type T') = pure true)
    (k : ∀ h' g', KtsTurn (outer.filterMap (·.frame)) g₀ g' → Fr g' L h' m → News g' L h' news → Below A₀ base outer g' → KF.In g' → Top p loose mean mg mb g' → KtsDicts (outer.filterMap (·.frame)) g' →
      wpAny (model prog w) ((A₀.deeper (envOf name scope L a cd)).mark (some (.ref e))) (execs (b₀ :: suite) (envOf name scope L a cd)) Q NoE { s' with heap := h' })
    (hk : scope.kind = .function := by rfl) (hxk : (envOf name scope L a cd).kindOf x = some .globalImplicit := by rfl) (hd : (x == ("__debug__" : Str)) = false := by decide) :
    wpAny (model prog w) (A₀.deeper (envOf name scope L a cd)) (noteFrame (.ref e) (envOf name scope L a cd))
      (fun _ s₂ => wpAny (model prog w) (A₀.deeper (envOf name scope L a cd)) (setFlight (.ref e) none) (fun _ s₃ =>
        wpAny (model prog w) (A₀.deeper (envOf name scope L a cd)) (handleBy (.ref e) (envOf name scope L a cd) (.ExceptHandler (some (.Name x np)) none (b₀ :: suite) pos :: rest)) Q NoE s₃) NoE s₂) NoE s' := by
  have K' := K.push (name := name) (a := a) (cd := cd) F hk
  have hin : ∀ env ∈ (envOf name scope L a cd :: outer), ∀ b, env.frame = some b → b ∈ (envOf name scope L a cd :: outer).filterMap (·.frame) := fun env he b hb => List.mem_filterMap.mpr ⟨env, he, hb⟩
  have hBG : ∀ b o, h.get? b = some o → b ∉ (envOf name scope L a cd :: outer).filterMap (·.frame) → (hideAll h ((envOf name scope L a cd :: outer).filterMap (·.frame))).get? b = some o := fun b o q nm => hideAll_get _ q nm
  have hl : ∀ q ∈ news, (hideAll h ((envOf name scope L a cd :: outer).filterMap (·.frame))).get? q.1 = some q.2 ∧ g.get? q.1 = none ∧ base.get? q.1 = none := fun q hq => by
    refine ⟨hideAll_get _ (N q hq).1 fun hm => ?_, (N q hq).2.2, fresh_of_stays K.stays (N q hq).2.2⟩
    obtain ⟨env, he, hf⟩ := List.mem_filterMap.mp hm
    rcases List.mem_cons.mp he with rfl | he
    · exact (N q hq).2.1 (Option.some.inj hf).symm
    · obtain ⟨o, ho, _⟩ := (K.frames.mem (List.mem_filterMap.mpr ⟨env, he, hf⟩)).2
      rw [(N q hq).2.2] at ho; cases ho
  obtain ⟨ob, tp, he, hcls, hdt⟩ := hx.there
  have hen : (hideAll h ((envOf name scope L a cd :: outer).filterMap (·.frame))).get? e = none := by
    cases q : (hideAll h ((envOf name scope L a cd :: outer).filterMap (·.frame))).get? e with
    | none => rfl
    | some o => have := of_hideAll _ q; rw [hx.new] at this; cases this
  have hff := (funFrames_hide K'.frames hin).of_keeps (h' := s'.heap) fun b o hb _ => ⟨o, hx.keeps b o hb, rfl⟩
  unfold noteFrame
  simp only [show (envOf name scope L a cd).frame = some L from rfl]
  refine wpAny_bind (wpAny_field he hdt (x := .none) rfl ?_)
  rw [if_neg (by decide)]
  refine wpAny_entryW (a0 := tp) (Around.frames_deeper K.stack) hff rfl he (fun b o eb => hx.keeps b o (of_hideAll _ eb)) hen hdt (by show 1 < 6; decide) rfl fun h₄ hN => ?_
  obtain ⟨k1, k2, k3, k4⟩ := hN
  rw [hcls] at k3
  have hsm : h.UpToSlots s'.heap := Heap.UpToSlots.of_keeps hx.keeps
  have hheld₄ : Heap.HeldW (hideAll h ((envOf name scope L a cd :: outer).filterMap (·.frame))) (envOf name scope L a cd :: outer) e (.type X) tp L h₄ := ⟨k1, hen, k2, k3⟩
  refine wpAny_landsW hheld₄ fun h₅ hheld hsm₅' => ?_
  have hsm₅ : s'.heap.UpToSlots h₅ := Heap.UpToSlots.trans k4 hsm₅'
  obtain ⟨g₅, T₅, F₅, K₅⟩ := kts_ground K F hBG hheld.1 (hsm.trans hsm₅)
  have X₅ : KF.In g₅ := XB.keeps K₅.stays
  have P₅ : TopRead p loose mg mb g₅ := topRead_of (TB.keeps K₅.stays)
  obtain ⟨ob', hob, hobc⟩ := hheld.there
  refine wpAny_handleBy_builtin (X := X) (T := T') (b := true) hexc hnt hsub (name_B F₅ X₅ P₅ ex hv hn' ⟨rfl, ⟨ob', hob, hobc⟩, ?_⟩ hk hxk hd)
  refine lands_againW hheld fun h₆ hfl₆ hsm₆ => ?_
  obtain ⟨g₆, T₆, F₆, K₆⟩ := kts_ground K F hBG hfl₆.1 ((hsm.trans hsm₅).trans hsm₆)
  have hL : (hideAll h ((envOf name scope L a cd :: outer).filterMap (·.frame))).get? L = none := by
    obtain ⟨_, ⟨L', _, hf, hn', _⟩, _⟩ := hfl₆.2.2.1
    obtain rfl : L = L' := Option.some.inj hf
    exact hn'
  have Nl : News g₆ L h₆ news := fun q hq => ⟨hfl₆.1 _ _ (hl q hq).1, (fun z => by have := (hl q hq).1; rw [z, hL] at this; cases this), T₆.none_ _ (hl q hq).2.1⟩
  have X₆ : KF.In g₆ := XB.keeps K₆.stays
  have P₆ : Top p loose mean mg mb g₆ := TB.keeps K₆.stays
  have D₆ : KtsDicts (outer.filterMap (·.frame)) g₆ := D.turn T₆
  exact wpAny_passesOwnAt PassesOwnAt.never (k h₆ g₆ (T0.trans T₆) F₆ Nl K₆ X₆ P₆ D₆)
end

def FPostG (Gp : Heap → Prop) (L I : Addr) (oI : Obj) (Jn : (Str → Option Value) → List (Addr × Obj) → Prop) (s : Shared) (Q : Flow → Shared → Prop) (f : Flow) (s₂ : Shared) : Prop :=
  match f with
  | .ret v => Q (.ret v) s₂
  | .brk => Q .next s₂
  | _ => ∃ h₀ h' tk m' news', Gp h₀ ∧ s₂ = { s with heap := h', toks := tk } ∧ Fr h₀ L h' m' ∧ News h₀ L h' (news' ++ [(I, oI)]) ∧ (∀ p ∈ news', p.1 ≠ I) ∧ Jn m' news'

section
variable {prog : Program} {w : World} {A : Around} {E : Value → Shared → Prop} {s : Shared} {env : Env} {h₀ : Heap} {Gp : Heap → Prop} {target : Expr} {body : List Stmt} {Q : Flow → Shared → Prop}
  {I : Addr} {fp : List Addr} {n : Nat} {P : Nat → Value → Prop} {St : Nat → Heap → Prop} {m : Str → Option Value} {news : List (Addr × Obj)}

theorem FPostG.next {L : Addr} {oI : Obj} {Jn : (Str → Option Value) → List (Addr × Obj) → Prop} {h' : Heap} {tk : Nat} {m' : Str → Option Value} {news' : List (Addr × Obj)} (g : Gp h₀)
    (F : Fr h₀ L h' m') (N : News h₀ L h' (news' ++ [(I, oI)])) (ha : ∀ p ∈ news', p.1 ≠ I) (hj : Jn m' news') : FPostG Gp L I oI Jn s Q .next { s with heap := h', toks := tk } :=
  ⟨h₀, h', tk, m', news', g, rfl, F, N, ha, hj⟩
theorem FPostG.cont {L : Addr} {oI : Obj} {Jn : (Str → Option Value) → List (Addr × Obj) → Prop} {h' : Heap} {tk : Nat} {m' : Str → Option Value} {news' : List (Addr × Obj)} (g : Gp h₀)
    (F : Fr h₀ L h' m') (N : News h₀ L h' (news' ++ [(I, oI)])) (ha : ∀ p ∈ news', p.1 ≠ I) (hj : Jn m' news') : FPostG Gp L I oI Jn s Q .cont { s with heap := h', toks := tk } :=
  ⟨h₀, h', tk, m', news', g, rfl, F, N, ha, hj⟩

theorem forRuleG (W : Walks prog w A I fp [I] n P St) (J : Nat → (Str → Option Value) → List (Addr × Obj) → Prop) (bnd : Nat → Value → (Str → Option Value) → (Str → Option Value))
    (hLI : env.locals ≠ I) (hI0 : ∀ h₀, Gp h₀ → h₀.get? I = none) (hSI : ∀ i h, St i h → ∃ o, h.get? I = some o)
    (hfp : ∀ b ∈ fp, b ≠ I → ∃ o, s.heap.get? b = some o ∧ (∀ i m₁ news₁, J i m₁ news₁ → (b, o) ∈ news₁))
    (hgo : ∀ i v s₁ (Q' : Unit → Shared → Prop), P i v → St (i + 1) s₁.heap → Q' () s₁ → wpAny (model prog w) A (letOwnedTupleGo target (.ref I) v) Q' NoE s₁)
    (hasg : ∀ h₀ i v s₁ m₁ news₁ oI (Q' : Unit → Shared → Prop), Gp h₀ → P i v → J i m₁ news₁ → Fr h₀ env.locals s₁.heap m₁ → News h₀ env.locals s₁.heap (news₁ ++ [(I, oI)]) →
      (∀ h₂ tk₂, Fr h₀ env.locals h₂ (bnd i v m₁) → News h₀ env.locals h₂ (news₁ ++ [(I, oI)]) → Q' () { s₁ with heap := h₂, toks := tk₂ }) → wpAny (model prog w) A (assign target env v) Q' NoE s₁)
    (st0 : St 0 s.heap) (G : Gp h₀) (F : Fr h₀ env.locals s.heap m) (N : News h₀ env.locals s.heap news) (hnI : ∀ p ∈ news, p.1 ≠ I) (h0 : J 0 m news)
    (turn : ∀ h₀ i v m₁ news₁ h tk oI, Gp h₀ → s.toks ≤ tk → i < n → P i v → J i m₁ news₁ → (∀ p ∈ news₁, p.1 ≠ I) → Fr h₀ env.locals h (bnd i v m₁) → News h₀ env.locals h (news₁ ++ [(I, oI)]) →
      wpAny (model prog w) A (execs body env) (FPostG Gp env.locals I oI (J (i + 1)) s Q) NoE { s with heap := h, toks := tk })
    (done : ∀ h₀ m₁ news₁ h tk, Gp h₀ → s.toks ≤ tk → J n m₁ news₁ → Fr h₀ env.locals h m₁ → News h₀ env.locals h news₁ → Q .next { s with heap := h, toks := tk }) :
    codeAny (model prog w) A (.forLoop target (.ref I) body [] env) (fun r s' => match r with | .ok f => Q f s' | .error e => cameBackBy (model prog w) A env E e s') s := by
  have stay : ∀ i j m₁ news₁ h m₂ news₂ h' oI, J i m₁ news₁ → J j m₂ news₂ → (∃ h₀, News h₀ env.locals h (news₁ ++ [(I, oI)])) → (∃ h₀, News h₀ env.locals h' (news₂ ++ [(I, oI)])) →
      ∀ b ∈ fp, ∀ o, h.get? b = some o → h'.get? b = some o := by
    rintro i j m₁ news₁ h m₂ news₂ h' oI hJ hJ' ⟨_, N₁⟩ ⟨_, N₂⟩ b hb o e
    by_cases hbI : b = I
    · have e1 := (N₁ (I, oI) (by simp)).1
      rw [← hbI, e] at e1
      rw [hbI, Option.some.inj e1]
      exact (N₂ (I, oI) (by simp)).1
    · obtain ⟨o', _, hq⟩ := hfp b hb hbI
      have e1 := (N₁ (b, o') (List.mem_append_left _ (hq _ _ _ hJ))).1
      rw [e] at e1
      rw [Option.some.inj e1]
      exact (N₂ (b, o') (List.mem_append_left _ (hq _ _ _ hJ'))).1
  refine codeAny_forLoop_any
    (fun k s' => ∃ h₀ h' tk m' news' i, Gp h₀ ∧ s' = { s with heap := h', toks := tk } ∧ St i h' ∧ Fr h₀ env.locals h' m' ∧ News h₀ env.locals h' news' ∧ (∀ p ∈ news', p.1 ≠ I) ∧ J i m' news' ∧ i ≤ n ∧ k = n + 1 - i ∧ s.toks ≤ tk) ?_ (n + 1)
    ⟨h₀, s.heap, s.toks, m, news, 0, G, rfl, st0, F, N, hnI, h0, Nat.zero_le _, rfl, Nat.le_refl _⟩
  rintro k s' ⟨h₀, h', tk, m', news', i, G, rfl, hst, F', N', hn', hJ, hi, rfl, hle⟩
  have carry : ∀ h₁ : Heap, (∀ b o, b ∉ [I] → h'.get? b = some o → h₁.get? b = some o) → Fr h₀ env.locals h₁ m' ∧ News h₀ env.locals h₁ news' := fun h₁ hk₁ =>
    ⟨⟨F'.ns.at' fun o e => hk₁ _ o (by simpa using hLI) e, fun b o e => hk₁ b o (fun q => by rw [List.mem_singleton.mp q, hI0 _ G] at e; cases e) (F'.keep b o e), F'.above⟩,
      fun p hp => ⟨hk₁ _ _ (by simpa using hn' p hp) (N' p hp).1, (N' p hp).2⟩⟩
  by_cases hlt : i < n
  · refine wpAny_with_toks (n := s.toks) hle (noE (W.item i _ _ _ hlt hst fun v h₁ tk₁ hP hst₁ hk₁ hle₁ => ?_))
    obtain ⟨F₁, N₁⟩ := carry h₁ hk₁
    obtain ⟨oI, hoI⟩ := hSI _ _ hst₁
    have N₁' : News h₀ env.locals h₁ (news' ++ [(I, oI)]) := fun p hp => by
      rcases List.mem_append.mp hp with hp | hp
      · exact N₁ p hp
      · rw [List.mem_singleton.mp hp]; exact ⟨hoI, hLI.symm, hI0 _ G⟩
    refine noE (hgo i v _ _ hP hst₁ ?_)
    refine wpAny_with_toks (n := s.toks) hle₁ (noE (hasg h₀ i v _ m' news' oI _ G hP hJ F₁ N₁' fun h₂ tk₂ F₂ N₂ hle₂ => ?_))
    have hst₂ : St (i + 1) h₂ := W.frame _ _ _ hst₁ (stay i i _ _ _ _ _ _ oI hJ hJ ⟨_, N₁'⟩ ⟨_, N₂⟩)
    refine noE (wpAny_mono (wpAny_toks_of (n := s.toks) hle₂ (turn h₀ i v m' news' h₂ tk₂ oI G hle₂ hlt hP hJ hn' F₂ N₂)) (fun f s₃ h₃' => ?_) fun _ _ x => x.2)
    obtain ⟨hle₃, h₃⟩ := h₃'
    have fin : (∃ h₀ h' tk m' news', Gp h₀ ∧ s₃ = { s with heap := h', toks := tk } ∧ Fr h₀ env.locals h' m' ∧ News h₀ env.locals h' (news' ++ [(I, oI)]) ∧ (∀ p ∈ news', p.1 ≠ I) ∧ J (i + 1) m' news') →
        ∃ m, m < n + 1 - i ∧ ∃ h₀ h' tk m' news' i, Gp h₀ ∧ s₃ = { s with heap := h', toks := tk } ∧ St i h' ∧ Fr h₀ env.locals h' m' ∧ News h₀ env.locals h' news' ∧ (∀ p ∈ news', p.1 ≠ I) ∧ J i m' news' ∧ i ≤ n ∧ m = n + 1 - i ∧ s.toks ≤ tk := by
      rintro ⟨h₀₃, h₃', tk₃, m₃, news₃, G₃, rfl, F₃, N₃, hn₃, hJ₃⟩
      refine ⟨n + 1 - (i + 1), by omega, h₀₃, h₃', tk₃, m₃, news₃, i + 1, G₃, rfl, ?_, F₃, News.sub N₃ fun p hp => List.mem_append_left _ hp, hn₃, hJ₃, hlt, rfl, hle₃⟩
      exact W.frame _ _ _ hst₂ (stay i (i + 1) _ _ _ _ _ _ oI hJ hJ₃ ⟨_, N₂⟩ ⟨_, N₃⟩)
    cases f with
    | ret v => exact h₃
    | brk => exact h₃
    | cont => exact fin h₃
    | next => exact fin h₃
  · have hin : i = n := by omega
    subst hin
    refine wpAny_with_toks (n := s.toks) hle (noE (W.done _ _ _ hst fun h₁ tk₁ hk₁ hle₁ => wpAny_execs_nil ?_))
    obtain ⟨F₁, N₁⟩ := carry h₁ hk₁
    exact done h₀ m' news' h₁ tk₁ G hle₁ hJ F₁ N₁

/-- for x in a dict with texts as keys; the ground may turn -/
theorem iter_dictG {nm : Str} {sc : Scope} {L a : Addr} {cd : Value} {x : Str} {px : Pos} {l : Addr} {kvs : List (Str × Value)} {ol : Obj} (J : Nat → (Str → Option Value) → List (Addr × Obj) → Prop) (hh : A.handled = none)
    (lo : (l == sysModules) = false) (hol : s.heap.get? l = some ol) (hD : ol.IsDictOf (PySem.strKind prog w) kvs) (hst : ∀ i m₁ news₁, J i m₁ news₁ → (l, ol) ∈ news₁)
    (hsz : ∀ g, Gp g → g.objs.size ≤ h₀.objs.size) (G : Gp h₀)
    (F : Fr h₀ L s.heap m) (N : News h₀ L s.heap news) (h0 : J 0 m news)
    (turn : ∀ h₀ i k t y m₁ news₁ h tk I oI, Gp h₀ → s.toks ≤ tk → kvs[i]? = some (k, y) → J i m₁ news₁ → (∀ p ∈ news₁, p.1 ≠ I) → Fr h₀ L h (fun z => if z = x then some (.str k t) else m₁ z) → News h₀ L h (news₁ ++ [(I, oI)]) →
      wpAny (model prog w) A (execs body (envOf nm sc L a cd)) (FPostG Gp L I oI (J (i + 1)) s Q) NoE { s with heap := h, toks := tk })
    (done : ∀ h₀ m₁ news₁ h tk, Gp h₀ → s.toks ≤ tk → J kvs.length m₁ news₁ → Fr h₀ L h m₁ → News h₀ L h news₁ → Q .next { s with heap := h, toks := tk })
    (hx : (envOf nm sc L a cd).kindOf x = some .local := by rfl)
    (hp : (sc.kind == .class || (sc.kind == .module && L != mainGlobals)) = false := by rfl) :
    wpAny (model prog w) A (pyIter (.ref l)) (fun it s₂ => codeAny (model prog w) A (.forLoop (.Name x px) it body [] (envOf nm sc L a cd)) (fun r s' => match r with | .ok f => Q f s' | .error e => cameBackBy (model prog w) A (envOf nm sc L a cd) E e s') s₂) E s := by
  obtain ⟨ep, hdm⟩ := (Heap.dictOf_iff.mpr ⟨ol, hol, hD⟩ : s.heap.DictOf (PySem.strKind prog w) l kvs).dictAt
  have hne : l ≠ s.heap.objs.size := Nat.ne_of_lt (Heap.lt_size hol)
  refine wpAny_pyIter_dict lo hdm ?_
  have W := Walks.dictKeys (prog := prog) (w := w) (knd := PySem.strKind prog w) hh s.heap.objs.size l hne kvs ep
  have hab : ∀ g, Gp g → g.get? s.heap.objs.size = none := fun g hg => Heap.get?_none_of_le (Nat.le_trans (hsz g hg) (Nat.le_trans F.above (Nat.le_of_lt F.ns.lt)))
  refine forRuleG (env := envOf nm sc L a cd) (h₀ := h₀) (Gp := Gp) (s := { s with heap := _ }) W J (fun _ v m₁ y => if y = x then some v else m₁ y) (Nat.ne_of_lt F.ns.lt) hab (fun i h st => let ⟨o, ho, _⟩ := st.1; ⟨o, ho⟩) ?_ (fun _ _ _ _ _ _ hq => wpAny_pure hq) ?_
    ⟨⟨_, Heap.get?_push_size _ rfl, rfl, rfl⟩, hdm.push _⟩ G (F.push _) (fun p hp => ⟨Heap.get?_push_of_some _ (N p hp).1, (N p hp).2⟩) (fun p hp => Nat.ne_of_lt (Heap.lt_size (N p hp).1)) h0 ?_ done
  · intro b hb hbI
    rcases List.mem_cons.mp hb with e | hb
    · exact absurd e hbI
    · rw [List.mem_singleton.mp hb]
      exact ⟨ol, Heap.get?_push_of_some _ hol, hst⟩
  · intro h₀ i v s₁ m₁ news₁ oI Q' _ _ _ F₁ N₁ hQ'
    exact wpAny_assign_Name (wpAny_storeName_local hx F₁.ns (fun h' hn hs => hQ' h' _ (F₁.set hn hs) (N₁.set hs)) hp)
  · intro h₀ i v m₁ news₁ h tk oI G hle _ hP hJ ha F₁ N₁
    obtain ⟨k, y, hk, hkey⟩ := hP
    obtain ⟨t, rfl⟩ := Value.isStrOf_shape hkey
    exact turn h₀ i k t y m₁ news₁ h tk _ oI G hle hk hJ ha F₁ N₁
end
end Mine
end -- B10
section -- C1
open PySem PySem.W PySem.Calls PyProof.Rows PySem.Spec
set_option Elab.async false
set_option maxRecDepth 100000
set_option maxHeartbeats 2000000
namespace Mine

/-- a frame of the search: the next-method, the iterator, the list, the place, the key -/
structure Fm where
  W : Addr
  I : Addr
  l : Addr
  j : Nat
  key : Str
  kt : Tok
  v : Value

abbrev Fm.objs (f : Fm) : List (Addr × Obj) := [(f.W, mwObj f.I), (f.I, liObj f.l f.j)]
def frL (fs : List Fm) : List (Addr × Obj) := fs.flatMap Fm.objs
def itA : List Fm → Array Value | [] => #[] | f :: fs => (itA fs).push (.ref f.W)
def stA : List Fm → Array Value | [] => #[] | f :: fs => (stA fs).push (.str f.key f.kt)
def kvF : List Fm → List (Str × Value) | [] => [] | f :: fs => kvF fs ++ [(f.key, f.v)]

theorem frL_cons (f : Fm) (fs : List Fm) : frL (f :: fs) = (f.W, mwObj f.I) :: (f.I, liObj f.l f.j) :: frL fs := rfl
theorem itA_size : ∀ fs : List Fm, (itA fs).size = fs.length
  | [] => rfl
  | f :: fs => by rw [itA, Array.size_push, itA_size fs]; rfl
theorem stA_size : ∀ fs : List Fm, (stA fs).size = fs.length
  | [] => rfl
  | f :: fs => by rw [stA, Array.size_push, stA_size fs]; rfl
theorem kvF_len : ∀ fs : List Fm, (kvF fs).length = fs.length
  | [] => rfl
  | f :: fs => by rw [kvF, List.length_append, kvF_len fs]; rfl
theorem kvF_mem : ∀ (fs : List Fm) (p : Str × Value), p ∈ kvF fs → p.1 ∈ fs.map (·.key)
  | [], _, h => nomatch h
  | f :: fs, p, h => by
    rw [kvF, List.mem_append] at h
    rcases h with h | h
    · exact .tail _ (kvF_mem fs p h)
    · rw [List.mem_singleton.mp h]; exact .head _

theorem valueAt_none {kvs : List (Str × Value)} {k : Str} (h : ∀ p ∈ kvs, p.1 ≠ k) : valueAt kvs k = none := by
  unfold valueAt
  rw [Option.map_eq_none_iff, List.find?_eq_none]
  intro p hp hc
  exact h p hp (of_decide_eq_true hc)
theorem stored_new {kvs : List (Str × Value)} {k : Str} {v : Value} (h : ∀ p ∈ kvs, p.1 ≠ k) : stored kvs k v = kvs ++ [(k, v)] := by
  unfold stored
  rw [if_neg]
  intro hc
  obtain ⟨p, hp, e⟩ := List.any_eq_true.mp hc
  exact h p hp (of_decide_eq_true e)

/-- the path of the search -/
structure Path (ns : List Nd) (Eg : List (Str × Str)) (lev : Str → Nat) (sn : List Str) (fs : List Fm) : Prop where
  seen : ∀ f ∈ fs, f.key ∈ sn
  node : ∀ f ∈ fs, ∃ n ∈ ns, n.key = f.key ∧ n.l = f.l
  desc : fs.Pairwise (fun f f' => lev f'.key < lev f.key)
  le : ∀ f ∈ fs, f.j ≤ (succs Eg f.key).length

theorem Path.fresh {ns : List Nd} {Eg : List (Str × Str)} {lev : Str → Nat} {sn : List Str} {fs : List Fm} {k : Str} (p : Path ns Eg lev sn fs) (h : ∀ f, fs.head? = some f → lev f.key < lev k) : ∀ f ∈ fs, lev f.key < lev k := by
  cases fs with
  | nil => exact fun _ h => nomatch h
  | cons a r =>
    intro f hf
    rcases List.mem_cons.mp hf with e | hf
    · rw [e]; exact h a rfl
    · exact Nat.lt_trans ((List.pairwise_cons.mp p.desc).1 f hf) (h a rfl)
theorem Path.tail {ns : List Nd} {Eg : List (Str × Str)} {lev : Str → Nat} {sn : List Str} {f : Fm} {fs : List Fm} (p : Path ns Eg lev sn (f :: fs)) : Path ns Eg lev sn fs :=
  ⟨fun f hf => p.seen f (.tail _ hf), fun f hf => p.node f (.tail _ hf), (List.pairwise_cons.mp p.desc).2, fun f hf => p.le f (.tail _ hf)⟩
theorem Path.push {ns : List Nd} {Eg : List (Str × Str)} {lev : Str → Nat} {sn : List Str} {f : Fm} {fs : List Fm} (p : Path ns Eg lev sn fs) (h : ∀ f' ∈ fs, lev f'.key < lev f.key) (hn : ∃ n ∈ ns, n.key = f.key ∧ n.l = f.l) (hj : f.j ≤ (succs Eg f.key).length) : Path ns Eg lev (f.key :: sn) (f :: fs) := by
  refine ⟨fun f' hf => ?_, fun f' hf => ?_, List.pairwise_cons.mpr ⟨h, p.desc⟩, fun f' hf => ?_⟩
  · rcases List.mem_cons.mp hf with e | hf
    · rw [e]; exact .head _
    · exact .tail _ (p.seen f' hf)
  · rcases List.mem_cons.mp hf with e | hf
    · rw [e]; exact hn
    · exact p.node f' hf
  · rcases List.mem_cons.mp hf with e | hf
    · rw [e]; exact hj
    · exact p.le f' hf
theorem Path.step {ns : List Nd} {Eg : List (Str × Str)} {lev : Str → Nat} {sn : List Str} {f : Fm} {fs : List Fm} (p : Path ns Eg lev sn (f :: fs)) (hj : f.j < (succs Eg f.key).length) : Path ns Eg lev sn ({ f with j := f.j + 1 } :: fs) := by
  refine ⟨fun f' hf => ?_, fun f' hf => ?_, List.pairwise_cons.mpr ⟨(List.pairwise_cons.mp p.desc).1, (List.pairwise_cons.mp p.desc).2⟩, fun f' hf => ?_⟩
  · rcases List.mem_cons.mp hf with e | hf
    · rw [e]; exact p.seen f (.head _)
    · exact p.seen f' (.tail _ hf)
  · rcases List.mem_cons.mp hf with e | hf
    · rw [e]; exact p.node f (.head _)
    · exact p.node f' (.tail _ hf)
  · rcases List.mem_cons.mp hf with e | hf
    · rw [e]; exact hj
    · exact p.le f' (.tail _ hf)

/-- what is yet to come of the unseen -/
def unseen (Eg : List (Str × Str)) (sn : List Str) : List Str → Nat
  | [] => 0
  | k :: r => (if k ∈ sn then 0 else (succs Eg k).length + 1) + unseen Eg sn r
def remain (Eg : List (Str × Str)) : List Fm → Nat
  | [] => 0
  | f :: r => ((succs Eg f.key).length - f.j) + remain Eg r
theorem unseen_not (Eg : List (Str × Str)) (sn : List Str) (k : Str) : ∀ Ks : List Str, k ∉ Ks → unseen Eg (k :: sn) Ks = unseen Eg sn Ks
  | [], _ => rfl
  | a :: r, h => by
    have h1 : a ≠ k := fun e => h (e ▸ .head _)
    have h2 : k ∉ r := fun e => h (.tail _ e)
    rw [unseen, unseen, unseen_not Eg sn k r h2]
    simp [h1]
theorem unseen_add (Eg : List (Str × Str)) (sn : List Str) (k : Str) (hs : k ∉ sn) : ∀ Ks : List Str, Ks.Nodup → k ∈ Ks → unseen Eg (k :: sn) Ks + (succs Eg k).length + 1 = unseen Eg sn Ks
  | [], _, h => nomatch h
  | a :: r, hn, h => by
    obtain ⟨n1, n2⟩ := List.nodup_cons.mp hn
    by_cases e : a = k
    · subst e
      rw [unseen, unseen, unseen_not Eg sn a r n1, if_pos (.head _), if_neg hs]
      omega
    · have h2 : k ∈ r := by
        rcases List.mem_cons.mp h with q | q
        · exact absurd q.symm e
        · exact q
      have ih := unseen_add Eg sn k hs r n2 h2
      rw [unseen, unseen]
      have : (a ∈ k :: sn) ↔ a ∈ sn := by simp [e]
      simp only [this]
      omega
theorem seen_len {sn Ks : List Str} (hn : sn.Nodup) (hs : ∀ x ∈ sn, x ∈ Ks) : sn.length ≤ Ks.length :=
  List.Nodup.length_le_of_subset hn hs
theorem Path.len {ns : List Nd} {Eg : List (Str × Str)} {lev : Str → Nat} {sn : List Str} {fs : List Fm} (p : Path ns Eg lev sn fs) : fs.length ≤ sn.length := by
  have h1 : (fs.map (·.key)).Nodup := by
    rw [List.nodup_iff_pairwise_ne, List.pairwise_map]
    exact p.desc.imp fun {a b} h e => by rw [e] at h; exact Nat.lt_irrefl _ h
  have h2 := List.Nodup.length_le_of_subset h1 (l₂ := sn) (fun x hx => by
    obtain ⟨f, hf, rfl⟩ := List.mem_map.mp hx
    exact p.seen f hf)
  simpa using h2
theorem Path.notin {ns : List Nd} {Eg : List (Str × Str)} {lev : Str → Nat} {sn : List Str} {fs : List Fm} {k : Str} (p : Path ns Eg lev sn fs) (h : ∀ f, fs.head? = some f → lev f.key < lev k) : ∀ q ∈ kvF fs, q.1 ≠ k := by
  intro q hq e
  obtain ⟨f, hf, e2⟩ := List.mem_map.mp (kvF_mem fs q hq)
  have := p.fresh h f hf
  rw [e2, e] at this
  exact Nat.lt_irrefl _ this

section
variable {prog : Program} {w : World} {A : Around} {E : Value → Shared → Prop} {s : Shared} {h₀ : Heap} {L I l : Addr} {j : Nat} {m : Str → Option Value} {news : List (Addr × Obj)}
theorem next_K {Q : Value → Shared → Prop} (F : Fr h₀ L s.heap m) (N : News h₀ L s.heap news) (hm : (I, liObj l j) ∈ news)
    (h : ∀ W h', Fr h₀ L h' m → News h₀ L h' ((W, mwObj I) :: news) → (∀ p ∈ news, p.1 < W) → Q (.ref W) { s with heap := h', toks := s.toks + 1 }) :
    wpAny (model prog w) A (getAttr (.ref I) (Str.ofString "__next__") true) Q E s :=
  next_attr (N _ hm).1 (h _ _ (F.push _) (News.push F N _ rfl) (fun q hq => Heap.lt_size (N q hq).1))

/-- an object of the ledger, at its head, is changed -/
theorem head_changed {x : Addr} {o o' : Obj} {r : List (Addr × Obj)} {h' : Heap} (F : Fr h₀ L s.heap m) (N : News h₀ L s.heap ((x, o) :: r)) (hr : ∀ p ∈ r, p.1 ≠ x) (hs : Heap.SameBut x s.heap h') (ho : h'.get? x = some o') :
    Fr h₀ L h' m ∧ News h₀ L h' ((x, o') :: r) := by
  have z := N (x, o) (.head _)
  refine ⟨F.change hs z.2.1 z.2.2, fun p hp => ?_⟩
  rcases List.mem_cons.mp hp with e | hp
  · rw [e]; exact ⟨ho, z.2⟩
  · have y := N p (.tail _ hp)
    exact ⟨(hs.2 p.1 (hr p hp)).trans y.1, y.2⟩
theorem head_gone {x : Addr} {o : Obj} {r : List (Addr × Obj)} {h' : Heap} (F : Fr h₀ L s.heap m) (N : News h₀ L s.heap ((x, o) :: r)) (hr : ∀ p ∈ r, p.1 ≠ x) (hs : Heap.SameBut x s.heap h') :
    Fr h₀ L h' m ∧ News h₀ L h' r := by
  have z := N (x, o) (.head _)
  refine ⟨F.change hs z.2.1 z.2.2, fun p hp => ?_⟩
  have y := N p (.tail _ hp)
  exact ⟨(hs.2 p.1 (hr p hp)).trans y.1, y.2⟩
end
theorem perm24 {α : Type} (a b x y z t : α) (r : List α) : (a :: b :: x :: y :: z :: t :: r).Perm (x :: y :: z :: t :: a :: b :: r) :=
  List.perm_append_comm_assoc [a, b] [x, y, z, t] r
theorem perm15 {α : Type} (a b c d e x : α) (r : List α) : (a :: b :: c :: d :: e :: x :: r).Perm (x :: a :: b :: c :: d :: e :: r) :=
  List.perm_middle (l₁ := [a, b, c, d, e])
theorem stop_isExc : isSubtype (.type "StopIteration") (.type "BaseException") = pure true := by rw [isSubtype_type]; kernel_rfl
theorem stop_notTuple : isSubtype (.type ((Manifest.find? "StopIteration").elim "type" fun y => y.metatype)) (.type "tuple") = pure false := by
  rw [show ((Manifest.find? "StopIteration").elim "type" fun y => y.metatype) = "type" by decide +kernel, isSubtype_type]; kernel_rfl
theorem stop_sub : isSubtype (.type "StopIteration") (.type "StopIteration") = pure true := by rw [isSubtype_type]; kernel_rfl
theorem kl_last_snoc : ∀ (l : List Value) (y : Value), kl_last (l ++ [y]) = some (l, y)
  | [], _ => rfl
  | a :: r, y => by rw [List.cons_append, kl_last, kl_last_snoc r y]
theorem pop_K {prog : Program} {w : World} {A : Around} {E : Value → Shared → Prop} {s : Shared} {h₀ : Heap} {L D : Addr} {m : Str → Option Value} {news news' : List (Addr × Obj)} {its : Array Value} {y : Value} {n : Nat} {Q : Value → Shared → Prop} (F : Fr h₀ L s.heap m) (N : News h₀ L s.heap news)
    (U : Upd D (listOf (its.push y) n) (listOf its (n + 1)) news news') (hz : its.size < 10000) (h : ∀ h', Fr h₀ L h' m → News h₀ L h' news' → Q y { s with heap := h' }) : wpAny (model prog w) A (call (.builtin "list.pop") [.ref D]) Q E s :=
  kl_pop (p := its.toList) (y := y) F N (by rw [Array.toList_push]; exact kl_last_snoc _ _) (by rw [Array.toArray_toList]; exact U) (by rw [Array.length_toList, Array.size_push, sizeLine_eq]; omega) h
theorem valueAt_last {kvs : List (Str × Value)} {k : Str} {v : Value} (h : ∀ p ∈ kvs, p.1 ≠ k) : valueAt (kvs ++ [(k, v)]) k = some v := by
  have h0 : kvs.find? (fun p => decide (p.1 = k)) = none := List.find?_eq_none.mpr fun p hp => by simpa using h p hp
  unfold valueAt
  rw [List.find?_append, h0]
  simp
theorem without_last {kvs : List (Str × Value)} {k : Str} {v : Value} (h : ∀ p ∈ kvs, p.1 ≠ k) : without (kvs ++ [(k, v)]) k = kvs := by
  unfold without
  rw [List.filter_append, List.filter_eq_self.mpr (fun p hp => by simpa using h p hp)]
  simp
theorem set_more {so : Obj} {prog : Program} {w : World} {sn : List Str} {k : Str} (hk : k ∉ sn) (h : so.SetObjOf (PySem.strKind prog w) (fun k' => decide (k' ∈ sn) || decide (k' = k)) (if decide (k ∈ sn) = true then sn.length else sn.length + 1)) :
    so.SetObjOf (PySem.strKind prog w) (fun k' => decide (k' ∈ k :: sn)) (k :: sn).length := by
  rw [if_neg (by simpa using hk)] at h
  have e : (fun k' => decide (k' ∈ k :: sn)) = fun k' => decide (k' ∈ sn) || decide (k' = k) := by
    funext k'
    by_cases h1 : k' = k <;> by_cases h2 : k' ∈ sn <;> simp [h1, h2]
  rw [e]; exact h
end Mine
end -- C1
section -- M1
open PySem PySem.W PySem.Calls PyProof.Rows
set_option Elab.async false
namespace Mine
open Builtin Builtin.Str

theorem idx_ss (a b len : Nat) : strSliceIndices (some (a : Int)) (some (b : Int)) 1 len = strSliceIndices (some ((min a len : Nat) : Int)) (some ((min b len : Nat) : Int)) 1 len := by
  simp only [strSliceIndices, show ((1 : Int) > 0) = True from by simp, if_true]
  congr 1 <;> split <;> split <;> omega
theorem idx_ns (b len : Nat) : strSliceIndices none (some (b : Int)) 1 len = strSliceIndices (some ((0 : Nat) : Int)) (some ((min b len : Nat) : Int)) 1 len := by
  simp only [strSliceIndices, show ((1 : Int) > 0) = True from by simp, if_true]
  congr 1 <;> split <;> (try split) <;> omega
theorem idx_sn (a len : Nat) : strSliceIndices (some (a : Int)) none 1 len = strSliceIndices (some ((min a len : Nat) : Int)) (some ((len : Nat) : Int)) 1 len := by
  simp only [strSliceIndices, show ((1 : Int) > 0) = True from by simp, if_true]
  congr 1 <;> split <;> (try split) <;> omega
theorem drop_take_min {l : List Nat} {a b : Nat} (h : a ≤ b) : (l.drop (min a l.length)).take (min b l.length - min a l.length) = (l.drop a).take (b - a) := by
  by_cases ha : a ≤ l.length
  · rw [Nat.min_eq_left ha]
    by_cases hb : b ≤ l.length
    · rw [Nat.min_eq_left hb]
    · rw [Nat.min_eq_right (by omega), List.take_of_length_le (by rw [List.length_drop]; omega), List.take_of_length_le (by rw [List.length_drop]; omega)]
  · rw [Nat.min_eq_right (a := a) (by omega), List.drop_length, List.drop_eq_nil_of_le (by omega)]; simp
theorem slice_list {x : Str} {l u : Option Int} {a b : Nat} (e : strSliceIndices l u 1 x.length = strSliceIndices (some (a : Int)) (some (b : Int)) 1 x.length) (hab : a ≤ b) (hb : b ≤ x.length) :
    (Txt.slice x l u).cps.toList = (x.cps.toList.drop a).take (b - a) := by
  unfold Txt.slice
  rw [e]
  split
  · rename_i h
    rw [StrLaws.strSliceIndices_plain hab hb] at h
    have h' : b - a = x.length := by simpa using h
    have ha : a = 0 := by omega
    have hx : x.cps.toList.length = x.length := Array.length_toList
    subst ha
    rw [List.drop_zero, List.take_of_length_le (by omega)]
  · rw [StrLaws.sliced_plain x hab hb]
theorem slice_ss (x : Str) {a b : Nat} (h : a ≤ b) : (Txt.slice x (some (a : Int)) (some (b : Int))).cps.toList = (x.cps.toList.drop a).take (b - a) := by
  have hx : x.cps.toList.length = x.length := Array.length_toList
  rw [slice_list (idx_ss a b x.length) (by omega) (by omega), ← hx, drop_take_min h]
theorem slice_ns (x : Str) (b : Nat) : (Txt.slice x none (some (b : Int))).cps.toList = x.cps.toList.take b := by
  have hx : x.cps.toList.length = x.length := Array.length_toList
  rw [slice_list (idx_ns b x.length) (by omega) (by omega), List.drop_zero, Nat.sub_zero, ← hx, ← List.take_eq_take_min]
theorem slice_sn (x : Str) (a : Nat) : (Txt.slice x (some (a : Int)) none).cps.toList = x.cps.toList.drop a := by
  have hx : x.cps.toList.length = x.length := Array.length_toList
  rw [slice_list (idx_sn a x.length) (by omega) (by omega), ← hx]
  by_cases ha : a ≤ x.cps.toList.length
  · rw [Nat.min_eq_left ha, List.take_of_length_le (by rw [List.length_drop]; omega)]
  · rw [Nat.min_eq_right (by omega), List.drop_length, List.drop_eq_nil_of_le (by omega)]; simp
theorem five_le {x : Str} (h : (Txt.slice x (some 3) (some 5) != Str.ofString " \"") = false) : 5 ≤ x.length := by
  have e : Txt.slice x (some 3) (some 5) = Str.ofString " \"" := by simpa using h
  have e2 := congrArg (fun y : Str => y.cps.toList.length) e
  have e3 := slice_ss x (a := 3) (b := 5) (by omega)
  have e4 : (Txt.slice x (some ((3 : Nat) : Int)) (some ((5 : Nat) : Int))).cps.toList.length = 2 := e2
  rw [e3, List.length_take, List.length_drop, Array.length_toList] at e4
  show 5 ≤ x.cps.size
  omega
end Mine
end -- M1
section -- M2
open PySem PySem.W PySem.Calls PyProof.Rows
set_option Elab.async false
namespace Mine
open Builtin Builtin.Str StrLaws

/-- doubled quotes give way to one tilde, from the left -/
def rep2 : List Nat → List Nat
  | [] => []
  | [c] => [c]
  | c :: c' :: r => if c = 34 ∧ c' = 34 then 126 :: rep2 r else c :: rep2 (c' :: r)

def QQ : Str := ⟨#[34, 34]⟩

theorem at_iff (x : Str) (k : Nat) : At x QQ x.length k ↔ ∃ r, x.cps.toList.drop k = 34 :: 34 :: r := by
  have hx : x.cps.toList.length = x.length := Array.length_toList
  unfold At
  rw [subAt_eq]
  show k + 2 ≤ x.length ∧ ((x.cps.toList.drop k).take 2 == [34, 34]) = true ↔ _
  constructor
  · rintro ⟨_, h⟩
    have h' : (x.cps.toList.drop k).take 2 = [34, 34] := by simpa using h
    match hd : x.cps.toList.drop k with
    | [] => rw [hd] at h'; simp at h'
    | [c] => rw [hd] at h'; simp at h'
    | c :: c' :: r => rw [hd] at h'; simp at h'; exact ⟨r, by rw [h'.1, h'.2]⟩
  · rintro ⟨r, h⟩
    have h2 := congrArg List.length h
    rw [List.length_drop, hx] at h2
    simp only [List.length_cons] at h2
    exact ⟨by omega, by rw [h]; simp⟩

theorem rep2_skip {c : Nat} {l : List Nat} (h : ¬ ∃ r, c :: l = 34 :: 34 :: r) : rep2 (c :: l) = c :: rep2 l := by
  match l with
  | [] => rfl
  | c' :: r =>
    rw [rep2, if_neg]
    rintro ⟨rfl, rfl⟩
    exact h ⟨r, rfl⟩

theorem rep2_run (x : Str) : ∀ (n a : Nat), (∀ k, a ≤ k → k < a + n → ¬ At x QQ x.length k) → a + n ≤ x.length →
    rep2 (x.cps.toList.drop a) = (x.cps.toList.drop a).take n ++ rep2 (x.cps.toList.drop (a + n))
  | 0, a, _, _ => by simp
  | n + 1, a, h, hl => by
    have hx : x.cps.toList.length = x.length := Array.length_toList
    have hd : x.cps.toList.drop a = x.cps.toList[a] :: x.cps.toList.drop (a + 1) := List.drop_eq_getElem_cons (by omega)
    have ih := rep2_run x n (a + 1) (fun k h1 h2 => h k (by omega) (by omega)) (by omega)
    have h0 := h a (Nat.le_refl _) (by omega)
    rw [at_iff, hd] at h0
    rw [hd, rep2_skip h0, ih, List.take_succ_cons, List.cons_append, show a + 1 + n = a + (n + 1) by omega]

theorem rep2_none (x : Str) (a : Nat) (h : ∀ k, a ≤ k → ¬ At x QQ x.length k) : rep2 (x.cps.toList.drop a) = x.cps.toList.drop a := by
  have hx : x.cps.toList.length = x.length := Array.length_toList
  by_cases ha : a ≤ x.length
  · have := rep2_run x (x.length - a) a (fun k h1 _ => h k h1) (by omega)
    rw [this, show a + (x.length - a) = x.cps.toList.length by omega, List.drop_length, rep2, List.append_nil, List.take_of_length_le (by rw [List.length_drop]; omega)]
  · rw [List.drop_eq_nil_of_le (by omega)]; rfl

theorem join_cons (z p : Str) : ∀ l : List Str, l ≠ [] → Str.join z (p :: l) = p ++ z ++ Str.join z l
  | [], h => absurd rfl h
  | _ :: _, _ => rfl

theorem join_rep2 (x : Str) : ∀ (cuts : List Nat) (a f : Nat), ChainG x QQ x.length a cuts f → (∀ k, f ≤ k → ¬ At x QQ x.length k) → (Str.join ⟨#[126]⟩ (partsFrom x 2 a cuts)).cps.toList = rep2 (x.cps.toList.drop a)
  | [], a, f, h, hn => by
    have hx : x.cps.toList.length = x.length := Array.length_toList
    have e : f = a := h
    subst e
    rw [rep2_none x f hn]
    show (strSub x f x.length).cps.toList = _
    rw [strSub_toList, List.take_of_length_le (by rw [List.length_drop]; omega)]
  | c :: r, a, f, h, hn => by
    have hx : x.cps.toList.length = x.length := Array.length_toList
    obtain ⟨h1, h2, h3, h4⟩ := h
    have ih := join_rep2 x r (c + 2) f h4 hn
    have hlen := h2.1
    obtain ⟨q, hq⟩ := (at_iff x c).mp h2
    have hne : partsFrom x 2 (c + 2) r ≠ [] := by
      obtain ⟨p, r', e⟩ := partsFrom_ne x 2 (c + 2) r
      rw [e]; simp
    rw [partsFrom, join_cons _ _ _ hne]
    rw [Str.cps_append, Str.cps_append, Array.toList_append, Array.toList_append, ih, strSub_toList]
    have e1 := rep2_run x (c - a) a (fun k ha hb => h3 k ha (by omega)) (by have : QQ.length = 2 := rfl; omega)
    rw [e1, show a + (c - a) = c by omega, hq]
    have e2 : x.cps.toList.drop (c + 2) = q := by
      rw [← List.drop_drop, hq]; rfl
    rw [rep2, if_pos ⟨rfl, rfl⟩, e2]
    simp

theorem replace_rep2 (x : Str) : (Txt.replace x QQ ⟨#[126]⟩).cps.toList = rep2 x.cps.toList := by
  obtain ⟨f, hc, hn⟩ := occ_tight x QQ (by decide)
  have key := join_rep2 x _ 0 f hc hn
  rw [List.drop_zero] at key
  unfold Txt.replace
  rw [show (QQ.length == 0) = false from rfl, Bool.false_and, Bool.or_false]
  split
  · rename_i he
    rw [List.isEmpty_iff.mp he] at hc
    have e : f = 0 := hc
    subst e
    have := rep2_none x 0 hn
    rw [List.drop_zero] at this
    exact this.symm
  · rw [glued_eq_join, partsBetween_eq, show QQ.length = 2 from rfl]
    exact key

theorem takeWhile_part {c : Nat} : ∀ {p l : List Nat}, c ∉ p → (p ++ c :: l).takeWhile (fun k => decide (k ≠ c)) = p
  | [], l, _ => by simp
  | k :: p, l, h => by
    have h1 : k ≠ c := fun e => h (e ▸ List.mem_cons_self ..)
    have h2 : c ∉ p := fun m => h (List.mem_cons_of_mem _ m)
    rw [List.cons_append, List.takeWhile_cons, if_pos (by simpa using h1), takeWhile_part h2]
theorem takeWhile_all' {c : Nat} : ∀ {p : List Nat}, c ∉ p → p.takeWhile (fun k => decide (k ≠ c)) = p
  | [], _ => rfl
  | k :: p, h => by
    have h1 : k ≠ c := fun e => h (e ▸ List.mem_cons_self ..)
    have h2 : c ∉ p := fun m => h (List.mem_cons_of_mem _ m)
    rw [List.takeWhile_cons, if_pos (by simpa using h1), takeWhile_all' h2]

theorem split_head (x : Str) (c : Nat) : ((Txt.split x ⟨#[c]⟩).headD Str.empty).cps.toList = x.cps.toList.takeWhile (fun k => decide (k ≠ c)) := by
  have hf := split_free x c
  have hj := join_split x ⟨#[c]⟩
  match hs : Txt.split x ⟨#[c]⟩ with
  | [] => rw [hs] at hj; rw [← hj]; rfl
  | [p] =>
    rw [hs] at hj hf
    have e : p = x := hj
    subst e
    exact (takeWhile_all' (hf _ (List.mem_singleton.mpr rfl))).symm
  | p :: q :: r =>
    rw [hs] at hj hf
    have e : p ++ ⟨#[c]⟩ ++ Str.join ⟨#[c]⟩ (q :: r) = x := hj
    rw [← e, Str.cps_append, Str.cps_append, Array.toList_append, Array.toList_append, List.append_assoc]
    show p.cps.toList = _
    exact (takeWhile_part (hf _ (List.mem_cons_self ..))).symm

def subst1 (c d : Nat) (l : List Nat) : List Nat := l.map fun k => if k = c then d else k
theorem subst1_free {c d : Nat} : ∀ {l : List Nat}, c ∉ l → subst1 c d l = l
  | [], _ => rfl
  | k :: r, h => by
    have h1 : ¬ k = c := fun e => h (e ▸ List.mem_cons_self ..)
    have h2 : c ∉ r := fun m => h (List.mem_cons_of_mem _ m)
    show (if k = c then d else k) :: subst1 c d r = k :: r
    rw [if_neg h1, subst1_free h2]
theorem subst1_join (c d : Nat) : ∀ parts : List Str, (∀ p ∈ parts, c ∉ p.cps.toList) → subst1 c d (Str.join ⟨#[c]⟩ parts).cps.toList = (Str.join ⟨#[d]⟩ parts).cps.toList
  | [], _ => rfl
  | [p], h => subst1_free (h p (List.mem_singleton.mpr rfl))
  | p :: q :: r, h => by
    have ih := subst1_join c d (q :: r) fun a ha => h a (List.mem_cons_of_mem _ ha)
    show subst1 c d (p ++ ⟨#[c]⟩ ++ Str.join ⟨#[c]⟩ (q :: r)).cps.toList = (p ++ ⟨#[d]⟩ ++ Str.join ⟨#[d]⟩ (q :: r)).cps.toList
    simp only [Str.cps_append, Array.toList_append]
    rw [← ih]
    unfold subst1
    rw [List.map_append, List.map_append]
    have e := subst1_free (d := d) (h p (List.mem_cons_self ..))
    unfold subst1 at e
    rw [e]
    simp
theorem replace_sub (x : Str) (c d : Nat) : (Txt.replace x ⟨#[c]⟩ ⟨#[d]⟩).cps.toList = subst1 c d x.cps.toList := by
  rw [replace_one, ← subst1_join c d _ (split_free x c), join_split]

/-- what the loop of parse257 takes out of the codes ahead of it -/
def scan : List Nat → List Nat
  | [] => []
  | [c] => if c = 34 then [] else [c]
  | c :: c' :: r => if c = 34 then (if c' = 34 then 34 :: scan r else []) else c :: scan (c' :: r)

theorem scan_eq : ∀ l : List Nat, 126 ∉ l → scan l = subst1 126 34 ((rep2 l).takeWhile (fun k => decide (k ≠ 34)))
  | [], _ => rfl
  | [c], h => by
    have h1 : ¬ c = 126 := fun e => h (e ▸ List.mem_cons_self ..)
    by_cases hc : c = 34
    · simp [scan, rep2, hc, subst1]
    · simp [scan, rep2, hc, subst1, h1]
  | c :: c' :: r, h => by
    have h1 : ¬ c = 126 := fun e => h (e ▸ List.mem_cons_self ..)
    have h2 : 126 ∉ c' :: r := fun m => h (List.mem_cons_of_mem _ m)
    have h3 : 126 ∉ r := fun m => h2 (List.mem_cons_of_mem _ m)
    by_cases hc : c = 34
    · by_cases hc' : c' = 34
      · have ih := scan_eq r h3
        rw [scan, if_pos hc, if_pos hc', rep2, if_pos ⟨hc, hc'⟩, ih]
        simp [subst1]
      · rw [scan, if_pos hc, if_neg hc', rep2, if_neg (fun q => hc' q.2), hc]
        simp [subst1]
    · have ih := scan_eq (c' :: r) h2
      rw [scan, if_neg hc, rep2, if_neg (fun q => hc q.1), ih, List.takeWhile_cons, if_pos (by simpa using hc)]
      show _ = (if c = 126 then 34 else c) :: _
      rw [if_neg h1]; rfl

theorem scan_len : ∀ l : List Nat, (scan l).length ≤ l.length
  | [] => Nat.le_refl _
  | [c] => by by_cases hc : c = 34 <;> simp [scan, hc]
  | c :: c' :: r => by
    have ih := scan_len r
    have ih2 := scan_len (c' :: r)
    rw [scan]
    split
    · split
      · simp only [List.length_cons]; omega
      · simp
    · simp only [List.length_cons] at ih2 ⊢; omega
theorem scan_mem : ∀ (l : List Nat) (k : Nat), k ∈ scan l → k ∈ l
  | [], _, h => h
  | [c], k, h => by by_cases hc : c = 34 <;> simp [scan, hc] at h ⊢; exact h
  | c :: c' :: r, k, h => by
    have ih := scan_mem r k
    have ih2 := scan_mem (c' :: r) k
    rw [scan] at h
    split at h
    · split at h
      · rcases List.mem_cons.mp h with e | h
        · subst e; rename_i e1 _; exact e1 ▸ List.mem_cons_self ..
        · exact List.mem_cons_of_mem _ (List.mem_cons_of_mem _ (ih h))
      · cases h
    · rcases List.mem_cons.mp h with e | h
      · exact e ▸ List.mem_cons_self ..
      · exact List.mem_cons_of_mem _ (ih2 h)
end Mine
end -- M2
section -- M3
open PySem PySem.W PySem.Calls PyProof.Rows
set_option Elab.async false
namespace Mine
open Builtin Builtin.Str StrLaws

def askF (x : Str) : Option Str :=
  if (Txt.slice x none (some 3) != Str.ofString "257") = true then none
  else if (Txt.slice x (some 3) (some 5) != Str.ofString " \"") = true then some Str.empty
  else some ⟨(scan (x.cps.toList.drop 5)).toArray⟩

theorem str_ext {a b : Str} (h : a.cps.toList = b.cps.toList) : a = b := by
  cases a; cases b; simp only [Array.toList_inj] at h; rw [h]

theorem read_eq_ask {x : Str} (h : 126 ∉ x.cps.toList) : readF x = askF x := by
  unfold readF askF
  split
  · rfl
  · split
    · rfl
    · congr 1
      apply str_ext
      rw [show Str.ofString "\"\"" = QQ from by decide +kernel, show Str.ofString "~" = ⟨#[126]⟩ from by decide +kernel, show Str.ofString "\"" = ⟨#[34]⟩ from by decide +kernel]
      rw [replace_sub]
      unfold firstOf
      rw [split_head, replace_rep2]
      rw [show (Txt.slice x (some 5) none).cps.toList = x.cps.toList.drop 5 from slice_sn x 5]
      rw [← scan_eq _ (fun m => h (List.mem_of_mem_drop m))]

theorem ask_good {x y : Str} (hx : GoodT x) (e : askF x = some y) : GoodT y ∧ y.length < x.length := by
  unfold askF at e
  split at e
  · cases e
  · rename_i h1
    have hl3 : 3 ≤ x.length := by
      have e1 : Txt.slice x none (some 3) = Str.ofString "257" := by simpa using h1
      have e2 : (Txt.slice x none (some ((3 : Nat) : Int))).cps.toList.length = 3 := congrArg (fun y : Str => y.cps.toList.length) e1
      rw [slice_ns, List.length_take, Array.length_toList] at e2
      show 3 ≤ x.cps.size
      omega
    split at e
    · cases e
      exact ⟨⟨by decide +kernel, Nat.zero_le _⟩, by show 0 < x.length; omega⟩
    · rename_i h2
      have h5 := five_le (x := x) (by simpa using h2)
      cases e
      have hs := scan_len (x.cps.toList.drop 5)
      have hx2 : x.cps.toList.length = x.length := Array.length_toList
      rw [List.length_drop, hx2] at hs
      refine ⟨⟨fun m => hx.1 (List.mem_of_mem_drop (scan_mem _ _ m)), ?_⟩, ?_⟩
      · have := hx.2; show (scan (x.cps.toList.drop 5)).toArray.size ≤ 100; rw [List.size_toArray]; omega
      · show (scan (x.cps.toList.drop 5)).toArray.size < x.length; rw [List.size_toArray]; omega
end Mine
end -- M3
section -- M4
open PySem PySem.W PySem.Calls PyProof.Rows
set_option Elab.async false
set_option maxRecDepth 100000
namespace Mine
open Builtin Builtin.Str

theorem ask_short {x y : Str} (e : askF x = some y) : y = Str.empty ∨ y.length + 5 ≤ x.length := by
  unfold askF at e
  split at e
  · cases e
  · split at e
    · exact .inl (Option.some.inj e).symm
    · rename_i h
      have h5 := five_le (by simpa using h)
      refine .inr ?_
      rw [← Option.some.inj e]
      have hs := scan_len (x.cps.toList.drop 5)
      have hx2 : x.cps.toList.length = x.length := Array.length_toList
      rw [List.length_drop, hx2] at hs
      show (scan (x.cps.toList.drop 5)).toArray.size + 5 ≤ x.length
      rw [List.size_toArray]
      omega
theorem ask_empty : askF Str.empty = none := by decide +kernel

/-- a text, its reading, .. -/
def ch : Nat → Str → List Str
  | 0, _ => []
  | n + 1, t => t :: (match askF t with | some y => ch n y | none => [])
theorem ch_len : ∀ n t, (ch n t).length ≤ n
  | 0, _ => Nat.le_refl _
  | n + 1, t => by
    rw [ch, List.length_cons]
    cases askF t with
    | none => exact Nat.succ_le_succ (Nat.zero_le _)
    | some y => exact Nat.succ_le_succ (ch_len n y)
theorem ch_empty : ∀ n, ∀ x ∈ ch n Str.empty, x = Str.empty
  | 0, _, h => nomatch h
  | n + 1, x, h => by
    rw [ch, ask_empty] at h
    exact List.mem_singleton.mp h
theorem ch_closed : ∀ n (t : Str), t.length < 5 * n → ∀ x ∈ ch n t, ∀ y, askF x = some y → y ∈ ch n t ∨ y = Str.empty
  | 0, _, _, _, h, _, _ => nomatch h
  | n + 1, t, ht, x, hx, y, e => by
    rw [ch] at hx ⊢
    rcases List.mem_cons.mp hx with h | h
    · subst h
      rw [e]
      rcases ask_short e with h0 | h0
      · exact .inr h0
      · cases n with
        | zero => omega
        | succ n => exact .inl (.tail _ (show y ∈ ch (n + 1) y from .head _))
    · cases e2 : askF t with
      | none => rw [e2] at h; cases h
      | some z =>
        rw [e2] at h
        rcases ask_short e2 with h0 | h0
        · subst h0
          rw [ch_empty n x h, ask_empty] at e; cases e
        · rcases ch_closed n z (by omega) x h y e with h1 | h1
          · exact .inl (.tail _ h1)
          · exact .inr h1

/-- a text that reads back to an elder one, or is refused, or is short -/
def OkR (ts : List Str) (y : Str) : Prop := y.length ≤ 29 ∨ askF y = none ∨ ∃ z ∈ ts, askF y = some z
def OkT (ts : List Str) (y : Str) : Prop := OkR ts y ∧ PyData.strOk y = true
theorem strOk_iff {x : Str} : PyData.strOk x = true ↔ ∀ k ∈ x.cps.toList, k < 0x110000 := by
  unfold PyData.strOk
  rw [Array.all_eq_true']
  constructor
  · intro h k hk; exact of_decide_eq_true (h k (by simpa using hk))
  · intro h k hk; exact decide_eq_true (h k (by simpa using hk))
theorem strOk_append {a b : Str} (ha : PyData.strOk a = true) (hb : PyData.strOk b = true) : PyData.strOk (a ++ b) = true := by
  rw [strOk_iff] at *
  intro k hk
  rw [Str.cps_append, Array.toList_append, List.mem_append] at hk
  exact hk.elim (ha k) (hb k)
theorem dbl_mem (c : Nat) : ∀ (l : List Nat) (k : Nat), k ∈ StrLaws.dbl c l → k ∈ l
  | [], _, h => h
  | a :: r, k, h => by
    unfold StrLaws.dbl at h
    split at h
    · rcases List.mem_cons.mp h with e | h
      · rw [e]; exact .head _
      · rcases List.mem_cons.mp h with e | h
        · rw [e]; exact .head _
        · exact .tail _ (dbl_mem c r k h)
    · rcases List.mem_cons.mp h with e | h
      · rw [e]; exact .head _
      · exact .tail _ (dbl_mem c r k h)
theorem dbl_codes (nm : Str) : (Txt.replace nm (Str.ofString "\"") (Str.ofString "\"\"")).cps.toList = StrLaws.dbl 34 nm.cps.toList := by
  rw [show Str.ofString "\"" = ⟨#[34]⟩ from by decide +kernel, show Str.ofString "\"\"" = ⟨#[34, 34]⟩ from by decide +kernel, StrLaws.replace_double]
theorem strOk_dbl {nm : Str} (h : PyData.strOk nm = true) : PyData.strOk (Txt.replace nm (Str.ofString "\"") (Str.ofString "\"\"")) = true := by
  rw [strOk_iff] at *
  rw [dbl_codes]
  exact fun k hk => h k (dbl_mem _ _ k hk)
theorem strOk_ask {x y : Str} (h : PyData.strOk x = true) (e : askF x = some y) : PyData.strOk y = true := by
  unfold askF at e
  split at e
  · cases e
  · split at e
    · rw [← Option.some.inj e]; decide +kernel
    · rw [← Option.some.inj e]
      rw [strOk_iff] at *
      intro k hk
      exact h k (List.mem_of_mem_drop (scan_mem _ _ hk))
def Lc (ts : List Str) : List Str := ts.flatMap fun t => if t.length ≤ 29 then ch 6 t else [t]
theorem Lc_self {ts : List Str} {x : Str} (h : x ∈ ts) : x ∈ Lc ts := by
  refine List.mem_flatMap.mpr ⟨x, h, ?_⟩
  split
  · rw [ch]; exact .head _
  · exact .head _
theorem Lc_closed {ts : List Str} (h0 : Str.empty ∈ ts) (hok : ∀ t ∈ ts, OkT ts t) : ∀ x ∈ Lc ts, ∀ y, askF x = some y → y ∈ Lc ts := by
  intro x hx y e
  obtain ⟨t, ht, hx⟩ := List.mem_flatMap.mp hx
  split at hx
  · rename_i hl
    rcases ch_closed 6 t (by omega) x hx y e with h | h
    · exact List.mem_flatMap.mpr ⟨t, ht, by rw [if_pos hl]; exact h⟩
    · rw [h]; exact Lc_self h0
  · rename_i hl
    rw [List.mem_singleton.mp hx] at e
    rcases (hok t ht).1 with h | h | ⟨z, hz, h⟩
    · exact absurd h hl
    · rw [h] at e; cases e
    · rw [h] at e; rw [← Option.some.inj e]; exact Lc_self hz
theorem ch_ok : ∀ n (t : Str), PyData.strOk t = true → ∀ x ∈ ch n t, PyData.strOk x = true
  | 0, _, _, _, h => nomatch h
  | n + 1, t, ht, x, hx => by
    rw [ch] at hx
    rcases List.mem_cons.mp hx with h | h
    · rw [h]; exact ht
    · cases e2 : askF t with
      | none => rw [e2] at h; cases h
      | some z => rw [e2] at h; exact ch_ok n z (strOk_ask ht e2) x h
theorem Lc_ok {ts : List Str} (hok : ∀ t ∈ ts, OkT ts t) : ∀ x ∈ Lc ts, PyData.strOk x = true := by
  intro x hx
  obtain ⟨t, ht, hx⟩ := List.mem_flatMap.mp hx
  split at hx
  · exact ch_ok 6 t (hok t ht).2 x hx
  · rw [List.mem_singleton.mp hx]; exact (hok t ht).2
theorem flat_len {α β : Type} (f : α → List β) (k : Nat) (h : ∀ a, (f a).length ≤ k) : ∀ l : List α, (l.flatMap f).length ≤ k * l.length
  | [] => by simp
  | a :: r => by
    rw [List.flatMap_cons, List.length_append, List.length_cons]
    have := flat_len f k h r
    have := h a
    rw [Nat.mul_add]; omega
theorem Lc_len {ts : List Str} (r : List Str) (e : ts = Str.empty :: r) : (Lc ts).length ≤ 1 + 6 * r.length := by
  subst e
  unfold Lc
  rw [List.flatMap_cons, List.length_append]
  have h1 : (if Str.empty.length ≤ 29 then ch 6 Str.empty else [Str.empty]).length ≤ 1 := by
    rw [if_pos (by decide), ch, ask_empty]; exact Nat.le_refl _
  have h2 := flat_len (fun t : Str => if t.length ≤ 29 then ch 6 t else [t]) 6 (fun t => by
    split
    · exact ch_len 6 t
    · simp) r
  omega

/-- the doubled quotes, then one quote and no other behind it -/
theorem scan_dbl : ∀ (l r : List Nat), (∀ q, r ≠ 34 :: q) → scan (StrLaws.dbl 34 l ++ 34 :: r) = l
  | [], r, h => by
    rw [StrLaws.dbl, List.nil_append]
    cases r with
    | nil => simp [scan]
    | cons a q =>
      have : a ≠ 34 := fun e => h q (by rw [e])
      simp [scan, this]
  | k :: l, r, h => by
    have ih := scan_dbl l r h
    rw [StrLaws.dbl]
    by_cases hk : k = 34
    · rw [if_pos hk]
      simp [scan, hk, ih]
    · rw [if_neg hk]
      rw [List.cons_append]
      have : ∀ q, scan (k :: q) = k :: scan q := fun q => by cases q <;> simp [scan, hk]
      rw [this, ih]
theorem ask_257 {x : Str} {l : List Nat} (e : x.cps.toList = [50, 53, 55, 32, 34] ++ l) : askF x = some ⟨(scan l).toArray⟩ := by
  unfold askF
  have h1 : Txt.slice x none (some 3) = Str.ofString "257" := str_ext (by
    have := slice_ns x 3
    rw [show ((3 : Nat) : Int) = 3 from rfl] at this
    rw [this, e]; rfl)
  have h2 : Txt.slice x (some 3) (some 5) = Str.ofString " \"" := str_ext (by
    have := slice_ss x (a := 3) (b := 5) (by decide)
    rw [show ((3 : Nat) : Int) = 3 from rfl, show ((5 : Nat) : Int) = 5 from rfl] at this
    rw [this, e]; rfl)
  rw [h1, h2]
  rw [if_neg (by simp), if_neg (by simp)]
  rw [e]; rfl
theorem ask_back (nm : Str) (r : Str) (q : List Nat) (hr : r.cps.toList = 34 :: q) (hq : ∀ z, q ≠ 34 :: z) :
    askF (Str.ofString "257 \"" ++ Txt.replace nm (Str.ofString "\"") (Str.ofString "\"\"") ++ r) = some nm := by
  rw [ask_257 (l := StrLaws.dbl 34 nm.cps.toList ++ 34 :: q)]
  · rw [scan_dbl _ _ hq]
  · rw [Str.cps_append, Str.cps_append, Array.toList_append, Array.toList_append, dbl_codes, hr, List.append_assoc]
    rfl
theorem ask_250 (tw : Str) : askF (Str.ofString "250 \"" ++ tw ++ Str.ofString "\"") = none := by
  unfold askF
  rw [if_pos]
  have h1 : (Txt.slice (Str.ofString "250 \"" ++ tw ++ Str.ofString "\"") none (some 3)).cps.toList = [50, 53, 48] := by
    have := slice_ns (Str.ofString "250 \"" ++ tw ++ Str.ofString "\"") 3
    rw [show ((3 : Nat) : Int) = 3 from rfl] at this
    rw [this, Str.cps_append, Str.cps_append, Array.toList_append, Array.toList_append]; rfl
  apply bne_iff_ne.mpr
  intro e
  rw [e] at h1
  exact absurd h1 (by decide +kernel)
end Mine
end -- M4
section -- B11
open PySem PySem.W PySem.Calls PyProof.Rows PySem.Spec
set_option Elab.async false
set_option maxRecDepth 100000
set_option maxHeartbeats 2000000
namespace Mine
section
variable {M : Model} {A : Around} {E : Value → Shared → Prop} {s : Shared} {env : Env}
theorem one_test {c : Expr} {R : Bool → Shared → Prop} (h : wpAny M A (isTrue c env (eval c env)) R E s) :
    wpAny M A (forIn [c] true fun c r => if r = true then do let ok ← isTrue c env (eval c env); pure (ForInStep.yield ok) else pure (ForInStep.yield r)) R E s := by
  rw [List.forIn_cons]
  refine wpAny_bind ?_
  rw [if_pos rfl]
  refine wpAny_bind (wpAny_mono h (fun b s₂ hb => wpAny_pure ?_) fun _ _ x => x)
  show wpAny M A (forIn [] b _) R E s₂
  rw [List.forIn_nil]
  exact wpAny_pure hb
theorem no_test {R : Bool → Shared → Prop} (h : R true s) :
    wpAny M A (forIn ([] : List Expr) true fun c r => if r = true then do let ok ← isTrue c env (eval c env); pure (ForInStep.yield ok) else pure (ForInStep.yield r)) R E s := by
  rw [List.forIn_nil]
  exact wpAny_pure h
theorem comp_name {C : Addr} {scope : Scope} {x : Str} {pos : Pos} {v : Value} {m : Str → Option Value} {Q : Value → Shared → Prop} (hx : scope.names.lookup x = some .local) (hk : scope.kind = .function) (hn : s.heap.Ns C m) (hv : m x = some v) (h : Q v s) (hd : (x == ("__debug__" : Str)) = false := by decide) :
    wpAny M A (eval (.Name x pos) (compEnv scope C env)) Q E s := by
  refine wpAny_Name ?_ hd
  exact wpAny_loadName_local (m := m) hk hx hn hv h
theorem compC_name {C : Addr} {scope : Scope} {cl : List (Str × Addr)} {x : Str} {pos : Pos} {v : Value} {m : Str → Option Value} {Q : Value → Shared → Prop} (hx : (relabel scope env).names.lookup x = some .local) (hk : scope.kind = .function) (hn : s.heap.Ns C m) (hv : m x = some v) (h : Q v s) (hd : (x == ("__debug__" : Str)) = false := by decide) :
    wpAny M A (eval (.Name x pos) (compEnvC scope cl C env)) Q E s :=
  wpAny_Name (wpAny_loadName_local (m := m) hk hx hn hv h) hd
theorem compC_cell {C c : Addr} {scope : Scope} {cl : List (Str × Addr)} {x : Str} {pos : Pos} {v : Value} {o : Obj} {Q : Value → Shared → Prop} (hx : (relabel scope env).names.lookup x = some .cell) (hk : scope.kind = .function) (hc : cl.lookup x = some c) (ho : s.heap.get? c = some o) (hv : o.data = .cell (some v)) (h : Q v s) (hd : (x == ("__debug__" : Str)) = false := by decide) :
    wpAny M A (eval (.Name x pos) (compEnvC scope cl C env)) Q E s :=
  wpAny_Name (wpAny_loadName_cell hk hx hc ⟨o, ho, hv⟩ h) hd
end
end Mine
end -- B11
section -- P1
open PySem PySem.W PySem.Calls PyProof.Rows
set_option Elab.async false
namespace Mine

def ct (l : List Str) (x : Str) : Nat := l.countP fun y => decide (y = x)
theorem ct_cons (v : Str) (r : List Str) (x : Str) : ct (v :: r) x = ct r x + if v = x then 1 else 0 := by
  unfold ct; rw [List.countP_cons]; simp
theorem ct_append (a b : List Str) (x : Str) : ct (a ++ b) x = ct a x + ct b x := by unfold ct; rw [List.countP_append]
theorem ct_pos {l : List Str} {x : Str} : x ∈ l ↔ 0 < ct l x := by
  unfold ct
  rw [List.countP_pos_iff]
  exact ⟨fun h => ⟨x, h, by simp⟩, fun ⟨y, h, e⟩ => (of_decide_eq_true e) ▸ h⟩
theorem ct_zero {l : List Str} {x : Str} (h : x ∉ l) : ct l x = 0 := by
  have := mt ct_pos.mpr h; omega

theorem subFold : ∀ (vs : List Str) (c : Str → Int) (rs : List Str), (∀ x ∈ vs, ((ct vs x : Nat) : Int) ≤ c x) →
    (∀ x, (vs.foldl subF (c, rs)).1 x = c x - ct vs x) ∧ ∃ new, (vs.foldl subF (c, rs)).2 = rs ++ new ∧ new.Nodup ∧ ∀ x, x ∈ new ↔ x ∈ vs ∧ c x = ct vs x
  | [], c, rs, _ => ⟨fun x => by simp [ct], [], by simp, List.nodup_nil, fun x => by simp⟩
  | v :: r, c, rs, h => by
    have hv := h v (.head _)
    rw [ct_cons, if_pos rfl] at hv
    have h1 : ∀ x ∈ r, ((ct r x : Nat) : Int) ≤ (setC c v (c v - 1)) x := by
      intro x hx
      have := h x (.tail _ hx)
      rw [ct_cons] at this
      unfold setC
      by_cases e : x = v
      · subst e; rw [if_pos rfl] at *; push_cast at this; omega
      · rw [if_neg e]; rw [if_neg (Ne.symm e)] at this; exact this
    obtain ⟨i1, new, i2, i3, i4⟩ := subFold r (setC c v (c v - 1)) (if c v - 1 = 0 then rs ++ [v] else rs) h1
    have step : (v :: r).foldl subF (c, rs) = r.foldl subF (setC c v (c v - 1), if c v - 1 = 0 then rs ++ [v] else rs) := rfl
    rw [step]
    refine ⟨fun x => ?_, ?_⟩
    · rw [i1 x, ct_cons]
      unfold setC
      by_cases e : x = v
      · subst e; rw [if_pos rfl, if_pos rfl]; push_cast; omega
      · rw [if_neg e, if_neg (Ne.symm e)]; simp
    · by_cases hz : c v - 1 = 0
      · rw [if_pos hz] at i2
        have hvr : v ∉ r := fun hm => by
          have := ct_pos.mp hm
          omega
        refine ⟨v :: new, by rw [if_pos hz, i2, List.append_assoc]; rfl, List.nodup_cons.mpr ⟨fun hm => hvr ((i4 v).mp hm).1, i3⟩, fun x => ?_⟩
        rw [List.mem_cons, i4 x, List.mem_cons, ct_cons]
        unfold setC
        by_cases e : x = v
        · subst e
          rw [ct_zero hvr]
          constructor
          · intro _; exact ⟨.inl rfl, by rw [if_pos rfl]; omega⟩
          · intro _; exact .inl rfl
        · rw [if_neg e, if_neg (Ne.symm e)]
          simp [e]
      · rw [if_neg hz] at i2
        refine ⟨new, by rw [if_neg hz]; exact i2, i3, fun x => ?_⟩
        rw [i4 x, List.mem_cons, ct_cons]
        unfold setC
        by_cases e : x = v
        · subst e
          rw [if_pos rfl, if_pos rfl]
          constructor
          · rintro ⟨a, b⟩; exact ⟨.inl rfl, by push_cast; omega⟩
          · rintro ⟨_, b⟩
            push_cast at b
            refine ⟨ct_pos.mpr (by omega), by omega⟩
        · rw [if_neg e, if_neg (Ne.symm e)]
          simp [e]

def allT (Eg : List (Str × Str)) (gs : List Str) : List Str := gs.flatMap (succs Eg)
theorem allT_cons (Eg : List (Str × Str)) (u : Str) (g : List Str) : allT Eg (u :: g) = succs Eg u ++ allT Eg g := rfl

theorem doneFold (Eg : List (Str × Str)) : ∀ (gs : List Str) (c : Str → Int) (rs : List Str), (∀ x ∈ allT Eg gs, ((ct (allT Eg gs) x : Nat) : Int) ≤ c x) → (∀ u ∈ gs, u ∉ allT Eg gs) →
    (∀ x, (gs.foldl (doneF Eg) (c, rs)).1 x = if x ∈ gs then -2 else c x - ct (allT Eg gs) x) ∧ ∃ new, (gs.foldl (doneF Eg) (c, rs)).2 = rs ++ new ∧ new.Nodup ∧ ∀ x, x ∈ new ↔ x ∈ allT Eg gs ∧ c x = ct (allT Eg gs) x
  | [], c, rs, _, _ => ⟨fun x => by simp [allT, ct], [], by simp, List.nodup_nil, fun x => by simp [allT]⟩
  | u :: g, c, rs, h, hd => by
    have hu : u ∉ succs Eg u := fun hm => hd u (.head _) (List.mem_append_left _ hm)
    have hu2 : u ∉ allT Eg g := fun hm => hd u (.head _) (List.mem_append_right _ hm)
    have hall : ∀ x, ct (allT Eg (u :: g)) x = ct (succs Eg u) x + ct (allT Eg g) x := fun x => by rw [allT_cons, ct_append]
    have hne : ∀ x ∈ succs Eg u, x ≠ u := fun x hx e => hu (e ▸ hx)
    obtain ⟨a1, new1, a2, a3, a4⟩ := subFold (succs Eg u) (setC c u (-2)) rs (fun x hx => by
      have := h x (List.mem_append_left _ hx)
      rw [hall] at this
      unfold setC; rw [if_neg (hne x hx)]
      push_cast at this; omega)
    have step : (u :: g).foldl (doneF Eg) (c, rs) = g.foldl (doneF Eg) (doneF Eg (c, rs) u) := rfl
    rw [step]
    have e1 : doneF Eg (c, rs) u = ((doneF Eg (c, rs) u).1, (doneF Eg (c, rs) u).2) := rfl
    have b1 : ∀ x, (doneF Eg (c, rs) u).1 x = setC c u (-2) x - ct (succs Eg u) x := a1
    have b2 : (doneF Eg (c, rs) u).2 = rs ++ new1 := a2
    rw [e1, b2]
    obtain ⟨i1, new2, i2, i3, i4⟩ := doneFold Eg g (doneF Eg (c, rs) u).1 (rs ++ new1) (fun x hx => by
      have := h x (List.mem_append_right _ hx)
      rw [hall] at this
      have hxu : x ≠ u := fun e => hu2 (e ▸ hx)
      rw [b1]; unfold setC; rw [if_neg hxu]
      push_cast at this; omega) (fun v hv hm => hd v (.tail _ hv) (List.mem_append_right _ hm))
    refine ⟨fun x => ?_, new1 ++ new2, by rw [i2, List.append_assoc], ?_, fun x => ?_⟩
    · rw [i1 x, hall]
      by_cases hg : x ∈ g
      · rw [if_pos hg, if_pos (.tail _ hg)]
      · rw [if_neg hg, b1]
        unfold setC
        by_cases e : x = u
        · subst e; rw [if_pos rfl, if_pos (.head _), ct_zero hu, ct_zero hu2]; simp
        · rw [if_neg e, if_neg (by simp [e, hg])]; push_cast; omega
    · rw [List.nodup_append]
      refine ⟨a3, i3, fun x hx y hy e => ?_⟩
      subst e
      obtain ⟨q1, q2⟩ := (a4 x).mp hx
      obtain ⟨q3, q4⟩ := (i4 x).mp hy
      have q5 := h x (List.mem_append_left _ q1)
      rw [hall] at q5
      have := ct_pos.mp q3
      unfold setC at q2; rw [if_neg (hne x q1)] at q2
      push_cast at q5; omega
    · rw [List.mem_append, a4, i4, hall, allT_cons, List.mem_append, b1]
      unfold setC
      by_cases e : x = u
      · subst e
        constructor
        · rintro (⟨q, _⟩ | ⟨q, _⟩)
          · exact absurd q hu
          · exact absurd q hu2
        · rintro ⟨q | q, _⟩
          · exact absurd q hu
          · exact absurd q hu2
      · rw [if_neg e]
        constructor
        · rintro (⟨q1, q2⟩ | ⟨q1, q2⟩)
          · refine ⟨.inl q1, ?_⟩
            have q5 := h x (List.mem_append_left _ q1)
            rw [hall] at q5
            push_cast at q5 ⊢; omega
          · exact ⟨.inr q1, by push_cast; omega⟩
        · rintro ⟨q1, q2⟩
          push_cast at q2
          by_cases hg : x ∈ allT Eg g
          · exact .inr ⟨hg, by omega⟩
          · rw [ct_zero hg] at q2
            exact .inl ⟨q1.resolve_right hg, by omega⟩
end Mine
end -- P1
section -- P2
open PySem PySem.W PySem.Calls PyProof.Rows
set_option Elab.async false
namespace Mine

/-- levels: an edge goes up, and each text above the ground has an edge from one level below -/
structure Lv (Eg : List (Str × Str)) (Ks : List Str) (lev : Str → Nat) : Prop where
  up : ∀ e ∈ Eg, lev e.1 < lev e.2
  dn : ∀ x ∈ Ks, 0 < lev x → ∃ e ∈ Eg, e.2 = x ∧ lev e.1 + 1 = lev x
  src : ∀ e ∈ Eg, e.1 ∈ Ks
  tgt : ∀ e ∈ Eg, e.2 ∈ Ks
  nodup : Ks.Nodup

def cnt (Eg : List (Str × Str)) (lev : Str → Nat) (r : Nat) (x : Str) : Nat := Eg.countP fun e => decide (e.2 = x) && decide (r ≤ lev e.1)

structure RSt (Eg : List (Str × Str)) (Ks : List Str) (lev : Str → Nat) (r : Nat) (c : Str → Int) (rs : List Str) : Prop where
  nodup : rs.Nodup
  mem : ∀ x, x ∈ rs ↔ x ∈ Ks ∧ lev x = r
  count : ∀ x ∈ Ks, r ≤ lev x → c x = cnt Eg lev r x

theorem succs_ct (Eg : List (Str × Str)) (u x : Str) : ct (succs Eg u) x = Eg.countP fun e => decide (e.1 = u) && decide (e.2 = x) := by
  unfold ct succs
  rw [List.countP_map, List.countP_filter]
  congr 1
  funext e
  simp [Bool.and_comm]
theorem countP_add {α : Type} (p q : α → Bool) (h : ∀ a, ¬ (p a = true ∧ q a = true)) : ∀ l : List α, l.countP (fun a => p a || q a) = l.countP p + l.countP q
  | [] => rfl
  | a :: r => by
    rw [List.countP_cons, List.countP_cons, List.countP_cons, countP_add p q h r]
    have := h a
    cases hp : p a <;> cases hq : q a <;> simp_all <;> omega
theorem allT_ct (Eg : List (Str × Str)) (x : Str) : ∀ gs : List Str, gs.Nodup → ct (allT Eg gs) x = Eg.countP fun e => decide (e.1 ∈ gs) && decide (e.2 = x)
  | [], _ => by simp [allT, ct]
  | u :: g, h => by
    obtain ⟨h1, h2⟩ := List.nodup_cons.mp h
    rw [allT_cons, ct_append, succs_ct, allT_ct Eg x g h2, ← countP_add]
    · congr 1
      funext e
      by_cases q1 : e.1 = u <;> by_cases q2 : e.1 ∈ g <;> by_cases q3 : e.2 = x <;> simp [q1, q2, q3]
    · intro e hh
      simp only [Bool.and_eq_true, decide_eq_true_eq] at hh
      exact h1 (hh.1.1 ▸ hh.2.1)
theorem mem_allT {Eg : List (Str × Str)} {gs : List Str} {x : Str} : x ∈ allT Eg gs ↔ ∃ e ∈ Eg, e.1 ∈ gs ∧ e.2 = x := by
  unfold allT succs
  rw [List.mem_flatMap]
  constructor
  · rintro ⟨u, hu, hm⟩
    obtain ⟨e, he, rfl⟩ := List.mem_map.mp hm
    obtain ⟨h1, h2⟩ := List.mem_filter.mp he
    exact ⟨e, h1, (of_decide_eq_true h2) ▸ hu, rfl⟩
  · rintro ⟨e, he, h1, h2⟩
    exact ⟨e.1, h1, List.mem_map.mpr ⟨e, List.mem_filter.mpr ⟨he, by simp⟩, h2⟩⟩

section
variable {Eg : List (Str × Str)} {Ks : List Str} {lev : Str → Nat} {r : Nat} {c : Str → Int} {rs : List Str}

theorem RSt.tot (g : Lv Eg Ks lev) (h : RSt Eg Ks lev r c rs) {x : Str} (_hx : x ∈ Ks) : cnt Eg lev r x = ct (allT Eg rs) x + cnt Eg lev (r + 1) x := by
  rw [allT_ct Eg x rs h.nodup]
  unfold cnt
  rw [← countP_add]
  · apply List.countP_congr
    intro e he
    have hs := h.mem e.1
    have := g.src e he
    by_cases q : e.2 = x
    · simp only [q, decide_true, Bool.true_and, Bool.and_true, decide_eq_true_eq, Bool.or_eq_true]
      constructor
      · intro hr
        by_cases e1 : lev e.1 = r
        · exact .inl (hs.mpr ⟨this, e1⟩)
        · exact .inr (by omega)
      · rintro (q1 | q1)
        · have := (hs.mp q1).2; omega
        · omega
    · simp [q]
  · intro e hh
    simp only [Bool.and_eq_true, decide_eq_true_eq] at hh
    have := ((h.mem e.1).mp hh.1.1).2
    omega

theorem RSt.step (g : Lv Eg Ks lev) (h : RSt Eg Ks lev r c rs) :
    RSt Eg Ks lev (r + 1) (rs.foldl (doneF Eg) (fun x => if x ∈ rs then -1 else c x, [])).1 (rs.foldl (doneF Eg) (fun x => if x ∈ rs then -1 else c x, [])).2 ∧
    ∀ i u, rs[i]? = some u → u ∈ Ks ∧ ((rs.take i).foldl (doneF Eg) (fun x => if x ∈ rs then -1 else c x, [])).1 u = -1 := by
  have hlev : ∀ x ∈ allT Eg rs, x ∈ Ks ∧ r < lev x ∧ x ∉ rs := fun x hx => by
    obtain ⟨e, he, h1, rfl⟩ := mem_allT.mp hx
    have h2 := g.up e he
    have h3 := ((h.mem e.1).mp h1).2
    exact ⟨g.tgt e he, by omega, fun hm => by have := ((h.mem e.2).mp hm).2; omega⟩
  have hdis : ∀ u ∈ rs, u ∉ allT Eg rs := fun u hu hm => (hlev u hm).2.2 hu
  have hle : ∀ x ∈ allT Eg rs, ((ct (allT Eg rs) x : Nat) : Int) ≤ (if x ∈ rs then -1 else c x) := fun x hx => by
    obtain ⟨h1, h2, h3⟩ := hlev x hx
    rw [if_neg h3, h.count x h1 (by omega), h.tot g h1]
    push_cast; omega
  obtain ⟨a1, new, a2, a3, a4⟩ := doneFold Eg rs (fun x => if x ∈ rs then -1 else c x) [] hle hdis
  refine ⟨⟨by rw [a2]; exact a3, fun x => ?_, fun x hx hr => ?_⟩, fun i u hu => ⟨((h.mem u).mp (List.mem_of_getElem? hu)).1, ?_⟩⟩
  · rw [a2, List.nil_append, a4]
    constructor
    · rintro ⟨q1, q2⟩
      obtain ⟨h1, h2, h3⟩ := hlev x q1
      rw [if_neg h3, h.count x h1 (by omega), h.tot g h1] at q2
      refine ⟨h1, ?_⟩
      by_cases e : lev x = r + 1
      · exact e
      · obtain ⟨e, he, e1, e2⟩ := g.dn x h1 (by omega)
        have : 0 < cnt Eg lev (r + 1) x := List.countP_pos_iff.mpr ⟨e, he, by simp [e1]; omega⟩
        push_cast at q2; omega
    · rintro ⟨q1, q2⟩
      obtain ⟨e, he, e1, e2⟩ := g.dn x q1 (by omega)
      have hs : e.1 ∈ rs := (h.mem e.1).mpr ⟨g.src e he, by omega⟩
      refine ⟨mem_allT.mpr ⟨e, he, hs, e1⟩, ?_⟩
      have hxr : x ∉ rs := fun hm => by have := ((h.mem x).mp hm).2; omega
      rw [if_neg hxr, h.count x q1 (by omega), h.tot g q1]
      have : cnt Eg lev (r + 1) x = 0 := List.countP_eq_zero.mpr fun e' he' hc => by
        simp only [Bool.and_eq_true, decide_eq_true_eq] at hc
        have := g.up e' he'
        rw [hc.1] at this
        omega
      rw [this]; simp
  · rw [a1]
    have hxr : x ∉ rs := fun hm => by have := ((h.mem x).mp hm).2; omega
    rw [if_neg hxr, if_neg hxr, h.count x hx (by omega), h.tot g hx]
    push_cast; omega
  · have hsub : ∀ v ∈ rs.take i, v ∈ rs := fun v hv => List.mem_of_mem_take hv
    have hallT : ∀ x ∈ allT Eg (rs.take i), x ∈ allT Eg rs := fun x hx => by
      obtain ⟨e, he, h1, h2⟩ := mem_allT.mp hx
      exact mem_allT.mpr ⟨e, he, hsub _ h1, h2⟩
    have hcl : ∀ x, ct (allT Eg (rs.take i)) x ≤ ct (allT Eg rs) x := fun x => by
      have : allT Eg rs = allT Eg (rs.take i) ++ allT Eg (rs.drop i) := by
        conv => lhs; rw [← List.take_append_drop i rs]
        unfold allT; rw [List.flatMap_append]
      rw [this, ct_append]; omega
    obtain ⟨b1, _⟩ := doneFold Eg (rs.take i) (fun x => if x ∈ rs then -1 else c x) [] (fun x hx => by
      have := hle x (hallT x hx); have := hcl x; omega) (fun v hv hm => hdis v (hsub v hv) (hallT v hm))
    rw [b1]
    have hur := List.mem_of_getElem? hu
    have hut : u ∉ rs.take i := fun hm => by
      have hn := h.nodup
      rw [← List.take_append_drop i rs, List.nodup_append] at hn
      refine hn.2.2 u hm u ?_ rfl
      have hi := (List.getElem?_eq_some_iff.mp hu).1
      rw [List.drop_eq_getElem_cons hi]
      rw [(List.getElem?_eq_some_iff.mp hu).2]
      exact .head _
    rw [if_neg hut, if_pos hur, ct_zero (fun hm => hdis u hur (hallT u hm))]; rfl

theorem RSt.start (g : Lv Eg Ks lev) (hc : ∀ x ∈ Ks, c x = ((Eg.countP fun e => decide (e.2 = x) : Nat) : Int)) : RSt Eg Ks lev 0 c (Ks.filter fun k => decide (c k = 0)) := by
  refine ⟨List.Nodup.sublist List.filter_sublist g.nodup, fun x => ?_, fun x hx _ => ?_⟩
  · rw [List.mem_filter, decide_eq_true_eq]
    constructor
    · rintro ⟨q1, q2⟩
      refine ⟨q1, ?_⟩
      by_cases e : lev x = 0
      · exact e
      · obtain ⟨e, he, e1, e2⟩ := g.dn x q1 (by omega)
        rw [hc x q1] at q2
        have : 0 < Eg.countP fun e => decide (e.2 = x) := List.countP_pos_iff.mpr ⟨e, he, by simp [e1]⟩
        omega
    · rintro ⟨q1, q2⟩
      refine ⟨q1, ?_⟩
      rw [hc x q1]
      have : (Eg.countP fun e => decide (e.2 = x)) = 0 := List.countP_eq_zero.mpr fun e he hh => by
        have := g.up e he
        rw [of_decide_eq_true hh] at this; omega
      rw [this]; rfl
  · rw [hc x hx]
    unfold cnt
    simp

/-- the levels have no gap -/
theorem Lv.below (g : Lv Eg Ks lev) : ∀ (k : Nat) (x : Str), x ∈ Ks → lev x = k → ∀ r ≤ k, ∃ y ∈ Ks, lev y = r
  | 0, x, hx, e, r, hr => ⟨x, hx, by omega⟩
  | k + 1, x, hx, e, r, hr => by
    by_cases hk : r = k + 1
    · exact ⟨x, hx, by omega⟩
    · obtain ⟨e', he, e1, e2⟩ := g.dn x hx (by omega)
      exact g.below k e'.1 (g.src e' he) (by omega) r (by omega)
end
end Mine
end -- P2
section -- B5
open PySem PySem.W PySem.Calls PyProof.Rows
set_option Elab.async false
namespace Mine

abbrev tupOf (a b : Value) : Obj := { cls := .type "tuple", data := .seq #[a, b] }

/-- the pairs that lie in a list: its items, the tuples behind them, what they say -/
inductive PairsAre : List Value → List (Addr × Obj) → List (Str × Option Str) → Prop
  | nil : PairsAre [] [] []
  | cons {t : Addr} {x : Str} {tx : Tok} {v : Value} {o : Option Str} {vs tups P} : ReadV o v → PairsAre vs tups P → PairsAre (.ref t :: vs) ((t, tupOf (.str x tx) v) :: tups) ((x, o) :: P)

theorem PairsAre.append {t : Addr} {x : Str} {tx : Tok} {v : Value} {o : Option Str} (hv : ReadV o v) : ∀ {vs tups P}, PairsAre vs tups P → PairsAre (vs ++ [.ref t]) (tups ++ [(t, tupOf (.str x tx) v)]) (P ++ [(x, o)])
  | _, _, _, .nil => .cons hv .nil
  | _, _, _, .cons h1 h2 => .cons h1 (PairsAre.append hv h2)
theorem PairsAre.len : ∀ {vs tups P}, PairsAre vs tups P → vs.length = P.length ∧ tups.length = P.length
  | _, _, _, .nil => ⟨rfl, rfl⟩
  | _, _, _, .cons _ h => by obtain ⟨a, b⟩ := h.len; exact ⟨by simp [a], by simp [b]⟩
theorem PairsAre.at : ∀ {vs tups P}, PairsAre vs tups P → ∀ {i : Nat} {v : Value}, vs[i]? = some v → ∃ t x tx u o, v = .ref t ∧ (t, tupOf (.str x tx) u) ∈ tups ∧ P[i]? = some (x, o) ∧ ReadV o u
  | _, _, _, .nil, i, _, h => by simp at h
  | _, _, _, .cons (t := t) (x := x) (tx := tx) (v := u) (o := o) h1 h2, 0, v, h => by
    have : v = .ref t := by simpa using h.symm
    exact ⟨t, x, tx, u, o, this, List.mem_cons_self .., rfl, h1⟩
  | _, _, _, .cons h1 h2, i + 1, v, h => by
    obtain ⟨t, x, tx, u, o, e, m, p, r⟩ := h2.at (i := i) (v := v) (by simpa using h)
    exact ⟨t, x, tx, u, o, e, List.mem_cons_of_mem _ m, by simpa using p, r⟩

/-- a table of readings, closed -/
structure Clo (P : List (Str × Option Str)) : Prop where
  nodup : (P.map (·.1)).Nodup
  reads : ∀ q ∈ P, q.2 = askF q.1
  good : ∀ q ∈ P, GoodT q.1
  closed : ∀ q ∈ P, ∀ y, q.2 = some y → y ∈ P.map (·.1)
  ne : P ≠ []
  len : P.length ≤ 1200
end Mine
end -- B5
section -- B15
open PySem PySem.W PySem.Calls PyProof.Rows PySem.Spec
set_option Elab.async false
set_option maxRecDepth 100000
namespace Mine
/-- a dict from texts to ints -/
def IntVals (kvs : List (Str × Value)) (val : Str → Int) : Prop := ∀ p ∈ kvs, ∃ t, p.2 = .int (val p.1) t

theorem valueAt_mem : ∀ {kvs : List (Str × Value)} {k : Str} {y : Value}, (kvs.map (·.1)).Nodup → (k, y) ∈ kvs → valueAt kvs k = some y
  | [], _, _, _, h => nomatch h
  | (a, b) :: r, k, y, hn, h => by
    rw [List.map_cons, List.nodup_cons] at hn
    unfold valueAt
    rw [List.find?_cons]
    rcases List.mem_cons.mp h with e | h
    · obtain ⟨rfl, rfl⟩ := Prod.mk.inj e
      simp
    · have hne : a ≠ k := fun e => hn.1 (e ▸ List.mem_map.mpr ⟨_, h, rfl⟩)
      rw [decide_eq_false hne]
      exact valueAt_mem hn.2 h
def isLev (lev : Str → Nat) (i : Nat) (v : Value) : Bool := match v with | .str k _ => decide (lev k = i) | _ => false
theorem paired_eq : ∀ {vs ys : List Value}, Paired (fun v y => y = v) vs ys → ys = vs
  | _, _, .nil => rfl
  | _, _, .cons h r => by rw [h, paired_eq r]
theorem keys_strs {prog : Program} {w : World} (lev : Str → Nat) (i : Nat) : ∀ (vs : List Value) (kvs : List (Str × Value)), vs.length = kvs.length → (∀ (j : Nat) v, vs[j]? = some v → ∃ k x, kvs[j]? = some (k, x) ∧ (PySem.strKind prog w).is k v = true) →
    StrsAre (vs.filter (isLev lev i)) ((kvs.map (·.1)).filter fun k => decide (lev k = i))
  | [], [], _, _ => .nil
  | [], _ :: _, h, _ => by simp at h
  | _ :: _, [], h, _ => by simp at h
  | v :: r, (a, b) :: t, h, hj => by
    obtain ⟨k, x, e1, e2⟩ := hj 0 v rfl
    obtain ⟨rfl, rfl⟩ := Prod.mk.inj (Option.some.inj (show some (a, b) = some (k, x) from e1))
    obtain ⟨tt, rfl⟩ := Value.isStrOf_shape e2
    have ih := keys_strs (prog := prog) (w := w) lev i r t (by simpa using h) (fun j v hv => by simpa using hj (j + 1) v (by simpa using hv))
    rw [List.map_cons, List.filter_cons, List.filter_cons]
    show StrsAre (if isLev lev i (.str a tt) = true then _ else _) (if decide (lev a = i) = true then _ else _)
    have e : isLev lev i (.str a tt) = decide (lev a = i) := rfl
    rw [e]
    by_cases hl : lev a = i
    · rw [decide_eq_true hl]; exact .cons _ _ ih
    · rw [decide_eq_false hl]; exact ih
theorem max_vals {prog : Program} {w : World} {A : Around} {E : Value → Shared → Prop} {s : Shared} {h₀ : Heap} {L v d : Addr} {m : Str → Option Value} {news : List (Addr × Obj)} {oD : Obj} {kvs : List (Str × Value)} {val : Str → Int} {Q : Value → Shared → Prop}
    (hh : A.handled = none) (F : Fr h₀ L s.heap m) (N : News h₀ L s.heap news) (hv : (v, ({ cls := .type "dict_values", data := .fields #[.ref d] } : Obj)) ∈ news) (hd : (d, oD) ∈ news) (hD : oD.IsDictOf (PySem.strKind prog w) kvs)
    (hi : IntVals kvs val) (hne : kvs ≠ [])
    (h : ∀ h' M t tk, Fr h₀ L h' m → News h₀ L h' news → (∃ p ∈ kvs, val p.1 = M) → (∀ p ∈ kvs, val p.1 ≤ M) → Q (.int M t) { s with heap := h', toks := tk }) :
    wpAny (model prog w) A (call (.builtin "max") [.ref v]) Q E s := by
  obtain ⟨ep, hdm⟩ := (Heap.dictOf_iff.mpr ⟨oD, (N _ hd).1, hD⟩ : s.heap.DictOf (PySem.strKind prog w) d kvs).dictAt
  have hlt := Heap.lt_size (N _ hd).1
  have hpos : 0 < kvs.length := List.length_pos_iff.mpr hne
  let num : Nat → Int := fun i => match kvs[i]? with | some p => val p.1 | none => 0
  have hnum : ∀ (i : Nat) (p : Str × Value), kvs[i]? = some p → num i = val p.1 := fun i p e => by show (match kvs[i]? with | some p => val p.1 | none => 0) = _; rw [e]
  refine call_max_walk ?_
  refine wpAny_pyIter_values ⟨_, (N _ hv).1, rfl, rfl⟩ hdm ?_
  refine ⟨_, _, _, _, _, _, _, rfl, Walks.dictValues (prog := prog) (w := w) (A := A.in1) (knd := PySem.strKind prog w) hh _ d (Nat.ne_of_lt hlt) kvs ep, ⟨⟨_, Heap.get?_push_size _ rfl, rfl, rfl⟩, hdm.push _⟩, ?_, hpos, CmpOf.ints_gt num (fun i v hP => ?_), fun v h' tk hP hk => ?_⟩
  · intro b hb
    rcases List.mem_cons.mp hb with e | hb
    · rw [e]; show _ < (Heap.push _ _).objs.size; rw [Heap.size_push]; exact Nat.lt_succ_self _
    · rw [List.mem_singleton.mp hb]; show _ < (Heap.push _ _).objs.size; rw [Heap.size_push]; exact Nat.lt_succ_of_lt hlt
  · obtain ⟨k, e⟩ := hP
    obtain ⟨t, ht⟩ := hi _ (List.mem_of_getElem? e)
    exact ⟨t, by rw [hnum i _ e]; exact ht⟩
  · obtain ⟨k, e⟩ := hP
    obtain ⟨t, ht⟩ := hi _ (List.mem_of_getElem? e)
    dsimp only at ht
    subst ht
    have hk2 : ∀ b o, s.heap.get? b = some o → h'.get? b = some o := fun b o hb => hk b o (by
      have := Heap.lt_size hb
      intro q; rw [List.mem_singleton.mp q] at this; exact Nat.lt_irrefl _ this) (Heap.get?_push_of_some _ hb)
    obtain ⟨a1, a2⟩ := argBest_gt num (kvs.length - 1)
    refine h h' (val k) t tk (Fr.stays F hk2) (News.stays N hk2) ⟨_, List.mem_of_getElem? e, rfl⟩ fun p hp => ?_
    obtain ⟨j, hj⟩ := List.getElem?_of_mem hp
    have hjl := (List.getElem?_eq_some_iff.mp hj).1
    have := a2 j (by omega)
    rw [hnum j p hj, hnum _ _ e] at this
    exact this
end Mine
end -- B15
section -- C3
open PySem PySem.W PySem.Calls PyProof.Rows PySem.Spec
set_option Elab.async false
namespace Mine
/-- a list of lists of texts -/
inductive RowsAre : List Value → List (Addr × Obj) → List (List Str) → Prop
  | nil : RowsAre [] [] []
  | cons {a : Addr} {vs : List Value} {e : Nat} {ss : List Str} {items led rows} : StrsAre vs ss → RowsAre items led rows → RowsAre (.ref a :: items) ((a, listOf vs.toArray e) :: led) (ss :: rows)
theorem RowsAre.snoc {a : Addr} {vs : List Value} {e : Nat} {ss : List Str} (h : StrsAre vs ss) : ∀ {items led rows}, RowsAre items led rows → RowsAre (items ++ [.ref a]) (led ++ [(a, listOf vs.toArray e)]) (rows ++ [ss])
  | _, _, _, .nil => .cons h .nil
  | _, _, _, .cons h1 h2 => .cons h1 (RowsAre.snoc h h2)
theorem RowsAre.len : ∀ {items led rows}, RowsAre items led rows → items.length = rows.length
  | _, _, _, .nil => rfl
  | _, _, _, .cons _ h => by simp [h.len]

structure RowsOk (Ks : List Str) (lev : Str → Nat) (rows : List (List Str)) : Prop where
  row : ∀ (r : Nat) ss, rows[r]? = some ss → ss.Nodup ∧ (∀ x, x ∈ ss ↔ x ∈ Ks ∧ lev x = r) ∧ sortedS ss = true
  full : ∀ x ∈ Ks, lev x < rows.length
  tight : ∀ r < rows.length, ∃ y ∈ Ks, lev y = r

theorem max_lev (lev : Str → Nat) : ∀ Ks : List Str, ∃ M, ∀ x ∈ Ks, lev x ≤ M
  | [] => ⟨0, fun _ h => nomatch h⟩
  | a :: r => by
    obtain ⟨M, h⟩ := max_lev lev r
    refine ⟨max (lev a) M, fun x hx => ?_⟩
    rcases List.mem_cons.mp hx with e | hx
    · subst e; omega
    · have := h x hx; omega

theorem RowsOk.len_eq {Ks : List Str} {lev : Str → Nat} {a b : List (List Str)} (h : RowsOk Ks lev a) (g : RowsOk Ks lev b) : a.length ≤ b.length := by
  cases ha : a.length with
  | zero => omega
  | succ n =>
    obtain ⟨y, hy, e⟩ := h.tight n (by omega)
    have := g.full y hy
    omega
theorem rising_pair : ∀ (p : Str) (l : List Str), risingS p l = true → (p :: l).Pairwise (fun a b => a.cps.toList ≤ b.cps.toList)
  | p, [], _ => List.pairwise_singleton _ _
  | p, x :: r, h => by
    rw [risingS, Bool.and_eq_true] at h
    have h1 : p.cps.toList ≤ x.cps.toList := by
      have := h.1
      rw [ltCps_eq] at this
      simpa using this
    have ih := rising_pair x r h.2
    refine List.pairwise_cons.mpr ⟨fun y hy => ?_, ih⟩
    rcases List.mem_cons.mp hy with e | hy
    · rw [e]; exact h1
    · exact List.le_trans h1 ((List.pairwise_cons.mp ih).1 y hy)
theorem sortedS_pair : ∀ {ss : List Str}, sortedS ss = true → ss.Pairwise (fun a b => a.cps.toList ≤ b.cps.toList)
  | [], _ => .nil
  | x :: r, h => rising_pair x r h
theorem pair_uniq : ∀ {a b : List Str}, a.Perm b → a.Pairwise (fun a b => a.cps.toList ≤ b.cps.toList) → b.Pairwise (fun a b => a.cps.toList ≤ b.cps.toList) → a = b
  | [], b, p, _, _ => p.nil_eq
  | x :: r, [], p, _, _ => absurd p.symm.nil_eq (by simp)
  | x :: r, y :: t, p, ha, hb => by
    obtain ⟨a1, a2⟩ := List.pairwise_cons.mp ha
    obtain ⟨b1, b2⟩ := List.pairwise_cons.mp hb
    have hx : x.cps.toList ≤ y.cps.toList := by
      rcases List.mem_cons.mp (p.mem_iff.mpr (.head _) : y ∈ x :: r) with e | h
      · rw [e]; exact List.le_refl _
      · exact a1 y h
    have hy : y.cps.toList ≤ x.cps.toList := by
      rcases List.mem_cons.mp (p.mem_iff.mp (.head _) : x ∈ y :: t) with e | h
      · rw [e]; exact List.le_refl _
      · exact b1 x h
    have e : x = y := str_ext (List.le_antisymm hx hy)
    subst e
    rw [pair_uniq p.cons_inv a2 b2]
theorem sorted_uniq {a b : List Str} (p : a.Perm b) (ha : sortedS a = true) (hb : sortedS b = true) : a = b := pair_uniq p (sortedS_pair ha) (sortedS_pair hb)
theorem RowsOk.uniq {Ks : List Str} {lev : Str → Nat} {a b : List (List Str)} (h : RowsOk Ks lev a) (g : RowsOk Ks lev b) : a = b := by
  have hl : a.length = b.length := Nat.le_antisymm (h.len_eq g) (g.len_eq h)
  refine List.ext_getElem? fun r => ?_
  cases ha : a[r]? with
  | none =>
    have := List.getElem?_eq_none_iff.mp ha
    exact (List.getElem?_eq_none_iff.mpr (by omega)).symm
  | some ss =>
    have hr := (List.getElem?_eq_some_iff.mp ha).1
    have hb : b[r]? = some b[r] := List.getElem?_eq_getElem (by omega)
    rw [hb]
    obtain ⟨h1, h2, h3⟩ := h.row r ss ha
    obtain ⟨g1, g2, g3⟩ := g.row r _ hb
    congr 1
    refine sorted_uniq ?_ h3 g3
    exact (List.perm_ext_iff_of_nodup h1 g1).mpr fun x => by rw [h2, g2]
end Mine
end -- C3
section -- B17
open PySem PySem.W PySem.Calls PyProof.Rows
set_option Elab.async false
namespace Mine
theorem News.front {h₀ h : Heap} {L : Addr} {x : Addr × Obj} {a : List (Addr × Obj)} (N : News h₀ L h a) (hx : x ∈ a) : News h₀ L h (x :: a) := fun p hp => by
  rcases List.mem_cons.mp hp with e | hp
  · rw [e]; exact N x hx
  · exact N p hp

theorem perm_map_inv {α β : Type} {f : α → β} : ∀ {l m : List β}, l.Perm m → ∀ T : List α, m = T.map f → ∃ T' : List α, T'.Perm T ∧ l = T'.map f := by
  intro l m h
  induction h with
  | nil => intro T e; exact ⟨T, .refl _, e⟩
  | cons x _ ih =>
    intro T e
    cases T with
    | nil => simp at e
    | cons t T =>
      rw [List.map_cons] at e
      obtain ⟨rfl, e2⟩ := List.cons.inj e
      obtain ⟨T', h1, rfl⟩ := ih T e2
      exact ⟨t :: T', h1.cons _, rfl⟩
  | swap x y l =>
    intro T e
    match T, e with
    | a :: b :: T, e =>
      obtain ⟨rfl, rfl, rfl⟩ : x = f a ∧ y = f b ∧ l = T.map f := by simpa using e
      exact ⟨b :: a :: T, .swap _ _ _, rfl⟩
  | trans _ _ ih1 ih2 =>
    intro T e
    obtain ⟨T2, h2, e2⟩ := ih2 T e
    obtain ⟨T1, h1, e1⟩ := ih1 T2 e2
    exact ⟨T1, h1.trans h2, e1⟩

/-- one row of the list: address, text, its token, the value behind it, the reading -/
abbrev Row5 := Addr × Str × Tok × Value × Option Str
def Row5.v (r : Row5) : Value := .ref r.1
def Row5.t (r : Row5) : Addr × Obj := (r.1, tupOf (.str r.2.1 r.2.2.1) r.2.2.2.1)
def Row5.p (r : Row5) : Str × Option Str := (r.2.1, r.2.2.2.2)
theorem PairsAre.rows : ∀ {vs tups P}, PairsAre vs tups P → ∃ T : List Row5, vs = T.map Row5.v ∧ tups = T.map Row5.t ∧ P = T.map Row5.p ∧ ∀ r ∈ T, ReadV r.2.2.2.2 r.2.2.2.1
  | _, _, _, .nil => ⟨[], rfl, rfl, rfl, fun _ h => nomatch h⟩
  | _, _, _, .cons (t := t) (x := x) (tx := tx) (v := u) (o := o) h1 h2 => by
    obtain ⟨T, rfl, rfl, rfl, h⟩ := h2.rows
    refine ⟨(t, x, tx, u, o) :: T, rfl, rfl, rfl, fun r hr => ?_⟩
    rcases List.mem_cons.mp hr with e | hr
    · rw [e]; exact h1
    · exact h r hr
theorem PairsAre.ofRows : ∀ T : List Row5, (∀ r ∈ T, ReadV r.2.2.2.2 r.2.2.2.1) → PairsAre (T.map Row5.v) (T.map Row5.t) (T.map Row5.p)
  | [], _ => .nil
  | _ :: T, h => .cons (h _ (.head _)) (PairsAre.ofRows T fun r hr => h r (.tail _ hr))

theorem pairs_sorted {vs out : List Value} {tups : List (Addr × Obj)} {P : List (Str × Option Str)} {k : Str → Int} (hP : PairsAre vs tups P) (h : KskOut false (P.map fun q => k q.1) vs out) :
    ∃ tups' P', PairsAre out tups' P' ∧ P'.Perm P ∧ (∀ t ∈ tups', t ∈ tups) ∧ P'.Pairwise fun p q => k p.1 ≤ k q.1 := by
  obtain ⟨T, rfl, rfl, rfl, hr⟩ := hP.rows
  obtain ⟨ps, hpm, rfl, hpw⟩ := h
  have e : (List.map (fun q => k q.1) (T.map Row5.p)).zip (T.map Row5.v) = T.map fun r => (k r.p.1, r.v) := by
    rw [List.map_map, List.zip_map']; rfl
  obtain ⟨T', hT, rfl⟩ := perm_map_inv hpm T e
  refine ⟨T'.map Row5.t, T'.map Row5.p, ?_, hT.map _, fun t ht => (hT.map _).mem_iff.mp ht, ?_⟩
  · rw [List.map_map]
    exact PairsAre.ofRows T' fun r h => hr r (hT.mem_iff.mp h)
  · rw [List.pairwise_map] at hpw ⊢
    exact hpw.imp fun h => h

theorem RowsOk.keys {Ks Ks' : List Str} {lev : Str → Nat} {rows : List (List Str)} (h : RowsOk Ks lev rows) (e : ∀ x, x ∈ Ks ↔ x ∈ Ks') : RowsOk Ks' lev rows :=
  ⟨fun r ss hr => ⟨(h.row r ss hr).1, fun x => by rw [(h.row r ss hr).2.1 x, e x], (h.row r ss hr).2.2⟩, fun x hx => h.full x ((e x).mpr hx), fun r hr => by
    obtain ⟨y, hy, e2⟩ := h.tight r hr
    exact ⟨y, (e y).mp hy, e2⟩⟩

/-- in a table sorted by length the reading stands ahead of its text -/
theorem due_ahead {P P' : List (Str × Option Str)} (hC : Clo P) (hpm : P'.Perm P) (hpw : P'.Pairwise fun p q => ((p.1.length : Nat) : Int) ≤ (q.1.length : Nat)) {i : Nat} {x y : Str} (hi : P'[i]? = some (x, some y)) :
    y ∈ (P'.take i).map (·.1) := by
  have hm : (x, some y) ∈ P := hpm.mem_iff.mp (List.mem_of_getElem? hi)
  obtain ⟨q, hq, e⟩ := List.mem_map.mp (hC.closed _ hm y rfl)
  have hlt : y.length < x.length := (ask_good (hC.good _ hm) (hC.reads _ hm).symm).2
  obtain ⟨j, hj⟩ := List.getElem?_of_mem (hpm.mem_iff.mpr hq)
  obtain ⟨hil, hie⟩ := List.getElem?_eq_some_iff.mp hi
  obtain ⟨hjl, hje⟩ := List.getElem?_eq_some_iff.mp hj
  by_cases hij : j < i
  · refine List.mem_map.mpr ⟨q, ?_, e⟩
    rw [← hje]
    exact List.mem_take_iff_getElem.mpr ⟨j, by omega, rfl⟩
  · exfalso
    by_cases h2 : i = j
    · subst h2
      rw [hi] at hj
      have : x = q.1 := by rw [← Option.some.inj hj]
      rw [this, e] at hlt
      exact Nat.lt_irrefl _ hlt
    · have := List.pairwise_iff_getElem.mp hpw i j hil hjl (by omega)
      rw [hie, hje, e] at this
      simp only at this
      omega
/-- the key of the row is new -/
theorem key_new {P P' : List (Str × Option Str)} (hC : Clo P) (hpm : P'.Perm P) {i : Nat} {q : Str × Option Str} (hi : P'[i]? = some q) : q.1 ∉ (P'.take i).map (·.1) := by
  intro h
  have hn : (P'.map (·.1)).Nodup := (hpm.map _).nodup_iff.mpr hC.nodup
  obtain ⟨hil, hie⟩ := List.getElem?_eq_some_iff.mp hi
  obtain ⟨r, hr, e⟩ := List.mem_map.mp h
  obtain ⟨j, hj, e2⟩ := List.mem_take_iff_getElem.mp hr
  have h3 : j < i := by omega
  have := List.pairwise_iff_getElem.mp hn j i (by rw [List.length_map]; omega) (by rw [List.length_map]; exact hil) h3
  rw [List.getElem_map, List.getElem_map, hie, e2, e] at this
  exact this rfl
theorem table_of {g h : Heap} {L td D P : Addr} {od x : Obj} {f c : Addr × Obj} {ps : Array Value} {R : List (Addr × Obj)} (N : News g L h ((D, x) :: f :: c :: (td, od) :: (P, tabObj ps) :: R)) :
    ∃ ps', News g L h ((td, od) :: (D, x) :: (P, tabObj ps') :: R) := ⟨ps, News.sub N fun q hq => by
  rcases List.mem_cons.mp hq with h | hq
  · rw [h]; exact .tail _ (.tail _ (.tail _ (.head _)))
  rcases List.mem_cons.mp hq with h | hq
  · rw [h]; exact .head _
  exact .tail _ (.tail _ (.tail _ (.tail _ hq)))⟩
end Mine
end -- B17
section -- B19
open PySem PySem.W PySem.Calls PyProof.Rows PySem.Spec
set_option Elab.async false
set_option maxRecDepth 100000
set_option maxHeartbeats 2000000
namespace Mine
theorem stored_old {kvs : List (Str × Value)} {k : Str} {v : Value} (h : k ∈ kvs.map (·.1)) : stored kvs k v = kvs.map (fun kv => if kv.1 = k then (kv.1, v) else kv) := by
  unfold stored
  rw [if_pos]
  obtain ⟨p, hp, e⟩ := List.mem_map.mp h
  exact List.any_eq_true.mpr ⟨p, hp, by simp [e]⟩
theorem stored_old_keys {kvs : List (Str × Value)} {k : Str} {v : Value} (h : k ∈ kvs.map (·.1)) : (stored kvs k v).map (·.1) = kvs.map (·.1) := by
  rw [stored_old h, List.map_map]
  refine List.map_congr_left fun p _ => ?_
  show (if p.1 = k then (p.1, v) else p).1 = p.1
  split <;> rfl
theorem stored_old_vals {kvs : List (Str × Value)} {k : Str} {n : Int} {t : Tok} {f g : Str → Int} (h : k ∈ kvs.map (·.1)) (hv : IntVals kvs f) (hg : ∀ x, g x = if x = k then n else f x) : IntVals (stored kvs k (.int n t)) g := by
  rw [stored_old h]
  intro p hp
  obtain ⟨q, hq, rfl⟩ := List.mem_map.mp hp
  by_cases e : q.1 = k
  · rw [if_pos e]; exact ⟨t, by rw [hg, if_pos e]⟩
  · rw [if_neg e]
    obtain ⟨t', h'⟩ := hv q hq
    exact ⟨t', by rw [hg, if_neg e, h']⟩

/-- what the rows hold after some of the pairs -/
structure Abv (lev f : Str → Nat) (Q : List (Str × Option Str)) : Prop where
  ge : ∀ q ∈ Q, ∀ y, q.2 = some y → lev q.1 + 1 ≤ f y
  hit : ∀ y, 0 < f y → ∃ q ∈ Q, q.2 = some y ∧ lev q.1 + 1 = f y

/-- the longest row: one more than the longest above -/
structure Tall (P : List (Str × Option Str)) (lev : Str → Nat) : Prop where
  up : ∀ q ∈ P, ∀ y, q.2 = some y → lev q.1 + 1 ≤ lev y
  dn : ∀ y, 0 < lev y → ∃ q ∈ P, q.2 = some y ∧ lev q.1 + 1 = lev y

theorem Abv.start (lev : Str → Nat) : Abv lev (fun _ => 0) [] := ⟨fun _ h => (nomatch h), fun _ h => absurd h (Nat.lt_irrefl 0)⟩
theorem Abv.skip {lev f : Str → Nat} {Q : List (Str × Option Str)} {x : Str} (h : Abv lev f Q) : Abv lev f (Q ++ [(x, none)]) := by
  refine ⟨fun q hq y e => ?_, fun y hy => ?_⟩
  · rcases List.mem_append.mp hq with hq | hq
    · exact h.ge q hq y e
    · rw [List.mem_singleton.mp hq] at e; simp at e
  · obtain ⟨q, hq, e⟩ := h.hit y hy
    exact ⟨q, List.mem_append_left _ hq, e⟩
theorem Abv.put {lev f : Str → Nat} {Q : List (Str × Option Str)} {x y : Str} (h : Abv lev f Q) : Abv lev (fun z => if z = y then max (f y) (lev x + 1) else f z) (Q ++ [(x, some y)]) := by
  refine ⟨fun q hq z e => ?_, fun z hz => ?_⟩
  · rcases List.mem_append.mp hq with hq | hq
    · have := h.ge q hq z e
      show _ ≤ if z = y then max (f y) (lev x + 1) else f z
      by_cases e2 : z = y
      · rw [if_pos e2]; subst e2; omega
      · rw [if_neg e2]; exact this
    · rw [List.mem_singleton.mp hq] at e ⊢
      obtain rfl : y = z := Option.some.inj e
      show _ ≤ if y = y then max (f y) (lev x + 1) else f y
      rw [if_pos rfl]; show lev x + 1 ≤ _; omega
  · have hz' : 0 < if z = y then max (f y) (lev x + 1) else f z := hz
    show ∃ q ∈ Q ++ [(x, some y)], q.2 = some z ∧ lev q.1 + 1 = if z = y then max (f y) (lev x + 1) else f z
    by_cases e : z = y
    · subst e
      rw [if_pos rfl] at hz' ⊢
      by_cases hm : lev x + 1 ≤ f z
      · obtain ⟨q, hq, e1, e2⟩ := h.hit z (by omega)
        exact ⟨q, List.mem_append_left _ hq, e1, by omega⟩
      · exact ⟨(x, some z), List.mem_append_right _ (.head _), rfl, by show lev x + 1 = _; omega⟩
    · rw [if_neg e] at hz' ⊢
      obtain ⟨q, hq, e1, e2⟩ := h.hit z hz'
      exact ⟨q, List.mem_append_left _ hq, e1, e2⟩
/-- once all that comes down to a text is done, its place is right -/
theorem Abv.full {lev f : Str → Nat} {P Q : List (Str × Option Str)} (h : Abv lev f Q) (hT : Tall P lev) (hs : ∀ q ∈ Q, q ∈ P) {x : Str} (hx : ∀ q ∈ P, q.2 = some x → q ∈ Q) : f x = lev x := by
  have h1 : f x ≤ lev x := by
    by_cases h0 : 0 < f x
    · obtain ⟨q, hq, e1, e2⟩ := h.hit x h0
      have := hT.up q (hs q hq) x e1
      omega
    · omega
  have h2 : lev x ≤ f x := by
    by_cases h0 : 0 < lev x
    · obtain ⟨q, hq, e1, e2⟩ := hT.dn x h0
      have := h.ge q (hx q hq e1) x e1
      omega
    · omega
  omega
/-- in a table sorted by falling length, what reads to a text stands ahead of it -/
theorem all_ahead {P P' : List (Str × Option Str)} (hC : Clo P) (hpm : P'.Perm P) (hpw : P'.Pairwise fun p q => -((p.1.length : Nat) : Int) ≤ -((q.1.length : Nat) : Int)) {i : Nat} {x : Str} {o : Option Str} (hi : P'[i]? = some (x, o)) :
    ∀ q ∈ P, q.2 = some x → q ∈ P'.take i := by
  intro q hq e
  have hlt : x.length < q.1.length := (ask_good (hC.good _ hq) (by rw [← hC.reads _ hq, e])).2
  obtain ⟨j, hj⟩ := List.getElem?_of_mem (hpm.mem_iff.mpr hq)
  obtain ⟨hil, hie⟩ := List.getElem?_eq_some_iff.mp hi
  obtain ⟨hjl, hje⟩ := List.getElem?_eq_some_iff.mp hj
  by_cases hij : j < i
  · rw [← hje]
    exact List.mem_take_iff_getElem.mpr ⟨j, by omega, rfl⟩
  · exfalso
    by_cases h2 : i = j
    · subst h2
      rw [hi] at hj
      have : x = q.1 := by rw [← Option.some.inj hj]
      rw [this] at hlt
      exact Nat.lt_irrefl _ hlt
    · have := List.pairwise_iff_getElem.mp hpw i j hil hjl (by omega)
      rw [hie, hje] at this
      simp only at this
      omega
end Mine
end -- B19
section -- P3
open PySem PySem.W PySem.Calls PyProof.Rows PySem.Spec
set_option Elab.async false
namespace Mine
theorem ask_lt {x y : Str} (e : askF x = some y) : y.length < x.length := by
  rcases ask_short e with h | h
  · subst h
    by_cases hx : x.length = 0
    · have : x = Str.empty := str_ext (by
        have h1 : x.cps.toList.length = 0 := by simpa [Str.length] using hx
        rw [List.eq_nil_of_length_eq_zero h1]; rfl)
      rw [this, ask_empty] at e
      cases e
    · show 0 < _
      omega
  · omega
/-- how many times a text can be read -/
def dl : Nat → Str → Nat
  | 0, _ => 0
  | n + 1, x => match askF x with | none => 0 | some y => dl n y + 1
theorem dl_none {n : Nat} {x : Str} (e : askF x = none) : dl (n + 1) x = 0 := by
  show (match askF x with | none => 0 | some y => dl n y + 1) = 0
  rw [e]
theorem dl_some {n : Nat} {x y : Str} (e : askF x = some y) : dl (n + 1) x = dl n y + 1 := by
  show (match askF x with | none => 0 | some y => dl n y + 1) = _
  rw [e]
theorem dl_same : ∀ (n k : Nat) (x : Str), x.length < n → x.length < k → dl n x = dl k x
  | 0, _, _, h, _ => absurd h (Nat.not_lt_zero _)
  | _, 0, _, _, h => absurd h (Nat.not_lt_zero _)
  | n + 1, k + 1, x, h1, h2 => by
    cases e : askF x with
    | none => exact (dl_none e).trans (dl_none e).symm
    | some y =>
      have := ask_lt e
      exact (dl_some e).trans ((congrArg (· + 1) (dl_same n k y (by omega) (by omega))).trans (dl_some e).symm)
def dlev (x : Str) : Nat := dl (x.length + 1) x
theorem dlev_none {x : Str} (e : askF x = none) : dlev x = 0 := dl_none e
theorem dlev_some {x y : Str} (e : askF x = some y) : dlev x = dlev y + 1 := by
  have := ask_lt e
  exact (dl_some e).trans (congrArg (· + 1) (dl_same x.length (y.length + 1) y (by omega) (by omega)))

/-- the longest row that comes down to a text -/
def tl (P : List (Str × Option Str)) : Nat → Str → Nat
  | 0, _ => 0
  | n + 1, y => P.foldr (fun q k => if q.2 = some y then max (tl P n q.1 + 1) k else k) 0
theorem fold_ge {α : Type} (c : α → Bool) (f : α → Nat) : ∀ (P : List α) (q : α), q ∈ P → c q = true → f q ≤ P.foldr (fun q k => if c q = true then max (f q) k else k) 0
  | [], _, h, _ => nomatch h
  | a :: r, q, h, hq => by
    rw [List.foldr_cons]
    rcases List.mem_cons.mp h with e | h
    · subst e; rw [if_pos hq]; omega
    · have := fold_ge c f r q h hq
      split <;> omega
theorem fold_hit {α : Type} (c : α → Bool) (f : α → Nat) : ∀ (P : List α), 0 < P.foldr (fun q k => if c q = true then max (f q) k else k) 0 → ∃ q ∈ P, c q = true ∧ f q = P.foldr (fun q k => if c q = true then max (f q) k else k) 0
  | [], h => absurd h (Nat.lt_irrefl 0)
  | a :: r, h => by
    rw [List.foldr_cons] at h ⊢
    by_cases hc : c a = true
    · rw [if_pos hc] at h ⊢
      by_cases hm : f a ≤ r.foldr (fun q k => if c q = true then max (f q) k else k) 0
      · by_cases h0 : 0 < r.foldr (fun q k => if c q = true then max (f q) k else k) 0
        · obtain ⟨q, hq, h1, h2⟩ := fold_hit c f r h0
          exact ⟨q, .tail _ hq, h1, by omega⟩
        · exact ⟨a, .head _, hc, by omega⟩
      · exact ⟨a, .head _, hc, by omega⟩
    · rw [if_neg hc] at h ⊢
      obtain ⟨q, hq, h1, h2⟩ := fold_hit c f r h
      exact ⟨q, .tail _ hq, h1, h2⟩
theorem fold_congr {α : Type} (c : α → Bool) (f g : α → Nat) : ∀ (P : List α), (∀ q ∈ P, c q = true → f q = g q) → P.foldr (fun q k => if c q = true then max (f q) k else k) 0 = P.foldr (fun q k => if c q = true then max (g q) k else k) 0
  | [], _ => rfl
  | a :: r, h => by
    rw [List.foldr_cons, List.foldr_cons, fold_congr c f g r fun q hq => h q (.tail _ hq)]
    by_cases hc : c a = true
    · rw [if_pos hc, if_pos hc, h a (.head _) hc]
    · rw [if_neg hc, if_neg hc]
theorem tl_succ (P : List (Str × Option Str)) (n : Nat) (y : Str) : tl P (n + 1) y = P.foldr (fun q k => if decide (q.2 = some y) = true then max (tl P n q.1 + 1) k else k) 0 := by
  rw [tl]; congr 1; funext q k; by_cases h : q.2 = some y <;> simp [h]
theorem tl_same {P : List (Str × Option Str)} (hC : Clo P) : ∀ (n k : Nat) (x : Str), 101 ≤ x.length + n → 101 ≤ x.length + k → tl P n x = tl P k x
  | 0, 0, _, _, _ => rfl
  | 0, k + 1, x, h1, _ => by
    rw [tl_succ]
    have h0 : ¬ 0 < P.foldr (fun q j => if decide (q.2 = some x) = true then max (tl P k q.1 + 1) j else j) 0 := fun h => by
      obtain ⟨q, hq, e, _⟩ := fold_hit (fun q : Str × Option Str => decide (q.2 = some x)) (fun q => tl P k q.1 + 1) P h
      have := ask_lt (x := q.1) (y := x) (by rw [← hC.reads q hq]; exact of_decide_eq_true e)
      have := (hC.good q hq).2
      omega
    show 0 = _
    omega
  | n + 1, 0, x, _, h2 => by
    rw [tl_succ]
    have h0 : ¬ 0 < P.foldr (fun q j => if decide (q.2 = some x) = true then max (tl P n q.1 + 1) j else j) 0 := fun h => by
      obtain ⟨q, hq, e, _⟩ := fold_hit (fun q : Str × Option Str => decide (q.2 = some x)) (fun q => tl P n q.1 + 1) P h
      have := ask_lt (x := q.1) (y := x) (by rw [← hC.reads q hq]; exact of_decide_eq_true e)
      have := (hC.good q hq).2
      omega
    show _ = 0
    omega
  | n + 1, k + 1, x, h1, h2 => by
    rw [tl_succ, tl_succ]
    refine fold_congr (fun q : Str × Option Str => decide (q.2 = some x)) (fun q => tl P n q.1 + 1) (fun q => tl P k q.1 + 1) P fun q hq e => ?_
    have := ask_lt (x := q.1) (y := x) (by rw [← hC.reads q hq]; exact of_decide_eq_true e)
    show tl P n q.1 + 1 = tl P k q.1 + 1
    rw [tl_same hC n k q.1 (by omega) (by omega)]
theorem tl_fix {P : List (Str × Option Str)} (hC : Clo P) (N : Nat) (hN : 101 ≤ N) (y : Str) : tl P N y = P.foldr (fun q k => if decide (q.2 = some y) = true then max (tl P N q.1 + 1) k else k) 0 := by
  rw [tl_same hC N (N + 1) y (by omega) (by omega), tl_succ]
theorem tall {P : List (Str × Option Str)} (hC : Clo P) : ∃ lev, Tall P lev := by
  obtain ⟨N, hN⟩ : ∃ N : Nat, 101 ≤ N := ⟨101, Nat.le_refl _⟩
  refine ⟨tl P N, fun q hq y e => ?_, fun y h => ?_⟩
  · rw [tl_fix hC N hN y]
    exact fold_ge (fun q : Str × Option Str => decide (q.2 = some y)) (fun q => tl P N q.1 + 1) P q hq (decide_eq_true e)
  · rw [tl_fix hC N hN y] at h ⊢
    obtain ⟨q, hq, e, e2⟩ := fold_hit (fun q : Str × Option Str => decide (q.2 = some y)) (fun q => tl P N q.1 + 1) P h
    exact ⟨q, hq, of_decide_eq_true e, e2⟩
end Mine
end -- P3
section -- P4
open PySem PySem.W PySem.Calls PyProof.Rows PySem.Spec
set_option Elab.async false
namespace Mine
/-- told once or twice -/
def wice (x : Str) : Nat := 1 + x.length % 2
def egD (P : List (Str × Option Str)) : List (Str × Str) := P.flatMap fun q => match q.2 with | none => [] | some y => (List.replicate (wice q.1) y).map fun u => (u, q.1)
def egB (P : List (Str × Option Str)) : List (Str × Str) := P.flatMap fun q => match q.2 with | none => [] | some y => (List.replicate (wice q.1) q.1).map fun u => (u, y)
theorem mem_egD {P : List (Str × Option Str)} {e : Str × Str} : e ∈ egD P ↔ (e.2, some e.1) ∈ P := by
  unfold egD
  rw [List.mem_flatMap]
  constructor
  · rintro ⟨q, hq, h⟩
    obtain ⟨x, o⟩ := q
    cases o with
    | none => exact nomatch h
    | some y =>
      obtain ⟨u, hu, rfl⟩ := List.mem_map.mp h
      rw [List.eq_of_mem_replicate hu]
      exact hq
  · intro h
    refine ⟨_, h, List.mem_map.mpr ⟨e.1, ?_, rfl⟩⟩
    exact List.mem_replicate.mpr ⟨by unfold wice; omega, rfl⟩
theorem mem_egB {P : List (Str × Option Str)} {e : Str × Str} : e ∈ egB P ↔ (e.1, some e.2) ∈ P := by
  unfold egB
  rw [List.mem_flatMap]
  constructor
  · rintro ⟨q, hq, h⟩
    obtain ⟨x, o⟩ := q
    cases o with
    | none => exact nomatch h
    | some y =>
      obtain ⟨u, hu, rfl⟩ := List.mem_map.mp h
      rw [List.eq_of_mem_replicate hu]
      exact hq
  · intro h
    refine ⟨_, h, List.mem_map.mpr ⟨e.1, ?_, rfl⟩⟩
    exact List.mem_replicate.mpr ⟨by unfold wice; omega, rfl⟩
theorem flat_le {α β : Type} (f : α → List β) (h : ∀ a, (f a).length ≤ 2) : ∀ l : List α, (l.flatMap f).length ≤ 2 * l.length
  | [] => Nat.le_refl _
  | a :: r => by
    rw [List.flatMap_cons, List.length_append, List.length_cons]
    have := h a
    have := flat_le f h r
    omega
theorem egD_len (P : List (Str × Option Str)) : (egD P).length ≤ 2 * P.length := flat_le _ (fun q => by
  cases q.2 with
  | none => exact Nat.zero_le _
  | some y => show ((List.replicate (wice q.1) y).map _).length ≤ 2; rw [List.length_map, List.length_replicate]; unfold wice; omega) P
theorem egB_len (P : List (Str × Option Str)) : (egB P).length ≤ 2 * P.length := flat_le _ (fun q => by
  cases q.2 with
  | none => exact Nat.zero_le _
  | some y => show ((List.replicate (wice q.1) q.1).map _).length ≤ 2; rw [List.length_map, List.length_replicate]; unfold wice; omega) P
theorem egD_none (P : List (Str × Option Str)) (x : Str) : egD (P ++ [(x, none)]) = egD P := by simp [egD]
theorem egB_none (P : List (Str × Option Str)) (x : Str) : egB (P ++ [(x, none)]) = egB P := by simp [egB]
theorem egD_some (P : List (Str × Option Str)) (x y : Str) : egD (P ++ [(x, some y)]) = egD P ++ (List.replicate (wice x) y).map fun u => (u, x) := by
  unfold egD; rw [List.flatMap_append, List.flatMap_singleton]
theorem egB_some (P : List (Str × Option Str)) (x y : Str) : egB (P ++ [(x, some y)]) = egB P ++ (List.replicate (wice x) x).map fun u => (u, y) := by
  unfold egB; rw [List.flatMap_append, List.flatMap_singleton]

/-- what a sorter was told of: the texts and what is read of them -/
def Told (P : List (Str × Option Str)) (x : Str) : Prop := ∃ q ∈ P, x = q.1 ∨ q.2 = some x
theorem Told.all {P : List (Str × Option Str)} (hC : Clo P) (x : Str) : Told P x ↔ x ∈ P.map (·.1) := by
  constructor
  · rintro ⟨q, hq, e | e⟩
    · rw [e]; exact List.mem_map_of_mem hq
    · exact hC.closed q hq x e
  · intro h
    obtain ⟨q, hq, e⟩ := List.mem_map.mp h
    exact ⟨q, hq, .inl e.symm⟩
theorem Told.none {P : List (Str × Option Str)} {x z : Str} : Told (P ++ [(x, none)]) z ↔ Told P z ∨ z = x := by
  constructor
  · rintro ⟨q, hq, h⟩
    rcases List.mem_append.mp hq with hq | hq
    · exact .inl ⟨q, hq, h⟩
    · rw [List.mem_singleton.mp hq] at h
      rcases h with h | h
      · exact .inr h
      · simp at h
  · rintro (⟨q, hq, h⟩ | h)
    · exact ⟨q, List.mem_append_left _ hq, h⟩
    · exact ⟨(x, .none), List.mem_append_right _ (.head _), .inl h⟩
theorem Told.some {P : List (Str × Option Str)} {x y z : Str} : Told (P ++ [(x, some y)]) z ↔ Told P z ∨ z = x ∨ z = y := by
  constructor
  · rintro ⟨q, hq, h⟩
    rcases List.mem_append.mp hq with hq | hq
    · exact .inl ⟨q, hq, h⟩
    · rw [List.mem_singleton.mp hq] at h
      rcases h with h | h
      · exact .inr (.inl h)
      · exact .inr (.inr (Option.some.inj h).symm)
  · rintro (⟨q, hq, h⟩ | h | h)
    · exact ⟨q, List.mem_append_left _ hq, h⟩
    · exact ⟨(x, .some y), List.mem_append_right _ (.head _), .inl h⟩
    · exact ⟨(x, .some y), List.mem_append_right _ (.head _), .inr (by rw [h])⟩

theorem Gr.run {ns : List Nd} {Eg : List (Str × Str)} (g : Gr ns Eg Eg) : Run ns Eg (ns.map (·.key)) (fun x => ((Eg.countP fun e => decide (e.2 = x) : Nat) : Int)) :=
  ⟨rfl, g.nodup, g.np, g.succ, g.src, g.tgt⟩

theorem lvD {P : List (Str × Option Str)} {Ks : List Str} (hC : Clo P) (hn : Ks.Nodup) (hk : ∀ x, x ∈ Ks ↔ x ∈ P.map (·.1)) : Lv (egD P) Ks dlev := by
  have step : ∀ x y, (x, some y) ∈ P → dlev x = dlev y + 1 := fun x y h => dlev_some (hC.reads _ h).symm
  refine ⟨fun e he => ?_, fun x hx h0 => ?_, fun e he => ?_, fun e he => ?_, hn⟩
  · have := step _ _ (mem_egD.mp he); omega
  · obtain ⟨q, hq, rfl⟩ := List.mem_map.mp ((hk x).mp hx)
    obtain ⟨x, o⟩ := q
    cases o with
    | none => rw [dlev_none (hC.reads _ hq).symm] at h0; exact absurd h0 (Nat.lt_irrefl 0)
    | some y => exact ⟨(y, x), mem_egD.mpr hq, rfl, (step x y hq).symm⟩
  · exact (hk _).mpr (hC.closed _ (mem_egD.mp he) _ rfl)
  · exact (hk _).mpr (List.mem_map.mpr ⟨_, mem_egD.mp he, rfl⟩)
theorem lvB {P : List (Str × Option Str)} {Ks : List Str} {lev : Str → Nat} (hC : Clo P) (hT : Tall P lev) (hn : Ks.Nodup) (hk : ∀ x, x ∈ Ks ↔ x ∈ P.map (·.1)) : Lv (egB P) Ks lev := by
  refine ⟨fun e he => ?_, fun x hx h0 => ?_, fun e he => ?_, fun e he => ?_, hn⟩
  · have := hT.up _ (mem_egB.mp he) _ rfl; exact this
  · obtain ⟨q, hq, e1, e2⟩ := hT.dn x h0
    exact ⟨(q.1, x), mem_egB.mpr (by rw [← e1]; exact hq), rfl, e2⟩
  · exact (hk _).mpr (List.mem_map.mpr ⟨_, mem_egB.mp he, rfl⟩)
  · exact (hk _).mpr (hC.closed _ (mem_egB.mp he) _ rfl)
end Mine
end -- P4
section -- B12
open PySem PySem.W PySem.Calls PyProof.Rows PySem.Spec
set_option Elab.async false
set_option maxRecDepth 100000
set_option maxHeartbeats 2000000
namespace Mine
section
variable {prog : Program} {w : World} {A : Around} {E : Value → Shared → Prop} {s : Shared}
/-- what list(t) or sorted(t) takes out of a tuple -/
theorem collect_tup {l : Addr} {vs : List Value} {Q : List Value → Shared → Prop} (hl : s.heap.IsTuple l vs.toArray) (hsz : vs.length < 64)
    (h : Q vs { s with heap := (s.heap.push (seqObj "list" #[] 0)).update s.heap.objs.size (Obj.mapSeq (· ++ vs.toArray)) }) : wpAny (model prog w) A (collect (.ref l)) Q E s := by
  obtain ⟨o, ho, hc, n, hd⟩ := hl
  have ho' : (s.heap.push (seqObj "list" #[] 0)).get? l = some o := Heap.get?_push_of_some _ ho
  have hnew : (s.heap.push (seqObj "list" #[] 0)).get? s.heap.objs.size = some (seqObj "list" #[] 0) := Heap.get?_push_size _ rfl
  have hup := get?_update_seq hnew (fun x : Array Value => x ++ vs.toArray)
  unfold collect
  refine wpAny_bind (wpAny_runValue (codeAny_builtin entry_proto_collect' ?_))
  show wpAny _ _ (do again (.builtin "list.__iadd__" ⟨[← newList [], .ref l], []⟩)) _ _ s
  refine wpAny_bind (wpAny_newList (wpAny_pure ⟨Code.quiet_builtin _ (by decide +kernel), codeAny_builtin entry_list_iadd' ?_⟩))
  show wpAny _ _ (Builtin.List.listExtendWith (.ref s.heap.objs.size) (.ref l) (.ref s.heap.objs.size)) _ _ { s with heap := s.heap.push (seqObj "list" #[] 0) }
  unfold Builtin.List.listExtendWith
  refine wpAny_bind (wpAny_typeOf (T := "tuple") ⟨o, ho', hc⟩ ?_)
  rw [if_pos (by rw [show (Value.type "tuple" == Value.type "tuple") = true from by decide]; simp)]
  refine wpAny_bind (listItems_at ho' hd (wpAny_bind (listItems_at (xs := #[]) (n := 0) hnew rfl ?_)))
  rw [if_neg (by simp)]
  refine wpAny_bind (listUpdate_at (xs := #[]) (n := 0) hnew rfl (wpAny_pure ?_) (Nat.zero_le _) (by rw [sizeLine_eq]; simp; omega))
  refine wpAny_bind (wpAny_load hup ?_)
  show wpAny _ _ (pure ((#[] : Array Value) ++ vs.toArray).toList) Q E _
  rw [show ((#[] : Array Value) ++ vs.toArray).toList = vs by simp]
  exact wpAny_pure h

theorem sorted_tup {h₀ : Heap} {L : Addr} {m : Str → Option Value} {news : List (Addr × Obj)} {l : Addr} {vs : List Value} {ss : List Str} {Q : Value → Shared → Prop}
    (F : Fr h₀ L s.heap m) (N : News h₀ L s.heap news) (hl : s.heap.IsTuple l vs.toArray) (hS : StrsAre vs ss) (h64 : vs.length < 64)
    (h : ∀ (a : Addr) (h' : Heap) (vs' : List Value) (ss' : List Str) (e : Nat), Fr h₀ L h' m → News h₀ L h' ((a, listOf vs'.toArray e) :: news) → (∀ p ∈ news, p.1 < a) →
      StrsAre vs' ss' → ss'.Perm ss → sortedS ss' = true → Q (.ref a) { s with heap := h' }) :
    wpAny (model prog w) A (call (.builtin "sorted") [.ref l]) Q E s := by
  have hsz : ((s.heap.push (seqObj "list" #[] 0)).update s.heap.objs.size (Obj.mapSeq (· ++ vs.toArray))).objs.size = s.heap.objs.size + 1 := by
    rw [Heap.size_update, size_push']
  have hoL : (((s.heap.push (seqObj "list" #[] 0)).update s.heap.objs.size (Obj.mapSeq (· ++ vs.toArray))).push (seqObj "list" vs.toArray 0)).get? (s.heap.objs.size + 1) = some (seqObj "list" vs.toArray 0) := by
    rw [← hsz]; exact Heap.get?_push_size _ rfl
  refine Calls.call_function_entry kind_sorted plain_sorted entry_sorted (args_sorted1 _) ?_
  unfold Builtin.«sorted»
  refine wpAny_bind (m := checkCount "sorted" 1 1 _) (wpAny_pure (wpAny_bind (collect_tup hl h64 (wpAny_bind (wpAny_newList ?_)))))
  show wpAny _ _ _ _ _ { s with heap := ((s.heap.push (seqObj "list" #[] 0)).update s.heap.objs.size (Obj.mapSeq (· ++ vs.toArray))).push (seqObj "list" vs.toArray 0) }
  rw [hsz]
  refine wpAny_bind (wpAny_holding (wpAny_call_entry slot_list_sort ⟨_, hoL, rfl⟩ entry_list_sort (list_sort_treeK strKind_oneLt hoL hS.keysOf (fun v₁ v₂ rest e => keyKind_strs (by rw [← e]; exact hS)) h64 fun st' hp hs => ⟨_, rfl, ?_⟩) (args_list_sort _)))
  obtain ⟨ss', h1, h2, h3⟩ := sorted_out_str hS hp hs
  obtain ⟨e, he⟩ := sortedAll_at s.heap vs ((arrOf st').map (·.2))
  refine wpAny_pure ⟨_, rfl, ?_⟩
  exact h _ _ ((arrOf st').map (·.2)).toList ss' e (F.kept fun _ _ => sortedAll_old) (N.kept_cons F (fun _ _ => sortedAll_old) (Nat.le_succ _) he) (fun p hp => Nat.lt_succ_of_lt (Heap.lt_size (N p hp).1)) h1 h2 h3
end
end Mine
end -- B12
section -- B13
open PySem PySem.W PySem.Calls PyProof.Rows PySem.Spec
set_option Elab.async false
set_option maxRecDepth 100000
namespace Mine
theorem strs_read {h : Heap} : ∀ {vs : List Value} {ss : List Str}, StrsAre vs ss → ReadsAll h vs (ss.map PyData.str) []
  | _, _, .nil => .nil
  | _, _, .cons _ _ r => readsAll_cons_val (.str _ _) (strs_read r)
section
variable {prog : Program} {w : World} {A : Around} {E : Value → Shared → Prop} {s : Shared} {t u : Addr} {vs : List Value} {ss : List Str} {Q : Value → Shared → Prop}
theorem shaped_tup {ss : List Str} (h : ∀ x ∈ ss, PyData.strOk x = true) : SeqAt.shaped (.tuple (ss.map PyData.str)) = true := by
  unfold SeqAt.shaped
  rw [Bool.and_eq_true]
  refine ⟨?_, ?_⟩
  · rw [PyData.canLay0, canLayAll_strs']; exact List.all_eq_true.mpr h
  · rw [PyData.depth, depthAll_strs']; decide
theorem eqv_nil (ss : List Str) : PyData.eqv (.tuple (ss.map PyData.str)) (.tuple []) = ss.isEmpty := by
  cases ss <;> simp [PyData.eqv, PyData.eqvAll]
theorem eq_tup0 (ht : s.heap.IsTuple t vs.toArray) (hS : StrsAre vs ss) (hok : ∀ x ∈ ss, PyData.strOk x = true) (hu0 : s.heap.IsTuple u #[]) (hu : A.units + 64 < cLine) (h : Q (.bool ss.isEmpty) s) :
    wpAny (model prog w) A (compareOp .Eq (.ref t) (.ref u)) Q E s := by
  obtain ⟨o, ho, hc, n, hd⟩ := ht
  obtain ⟨o', ho', hc', n', hd'⟩ := hu0
  refine eq_dataH (reads_tuple_at ho hc hd (by simpa using strs_read hS)) (reads_tuple_at (xs := []) ho' hc' hd' .nil) (shaped_tup hok) (shaped_tup (ss := []) (fun _ h => nomatch h)) hu ?_
  rw [eqv_nil]; exact h
theorem ne_tup0 (ht : s.heap.IsTuple t vs.toArray) (hS : StrsAre vs ss) (hok : ∀ x ∈ ss, PyData.strOk x = true) (hu0 : s.heap.IsTuple u #[]) (hu : A.units + 64 < cLine) (h : Q (.bool (!ss.isEmpty)) s) :
    wpAny (model prog w) A (compareOp .NotEq (.ref t) (.ref u)) Q E s := by
  obtain ⟨o, ho, hc, n, hd⟩ := ht
  obtain ⟨o', ho', hc', n', hd'⟩ := hu0
  refine ne_dataH (reads_tuple_at ho hc hd (by simpa using strs_read hS)) (reads_tuple_at (xs := []) ho' hc' hd' .nil) (shaped_tup hok) (shaped_tup (ss := []) (fun _ h => nomatch h)) hu ?_
  rw [eqv_nil]; exact h
end
section
variable {prog : Program} {w : World} {A : Around} {E : Value → Shared → Prop} {s : Shared} {h₀ : Heap} {L a b : Addr} {news la lb : List (Addr × Obj)} {xs ys : List Value} {ra rb : List (List Str)} {ea eb : Nat} {Q : Value → Shared → Prop}
def rowDat (ss : List Str) : Dat := .list (ss.map Dat.str)
theorem strs_dat {news : List (Addr × Obj)} : ∀ {vs : List Value} {ss : List Str}, StrsAre vs ss → DatAll news vs (ss.map Dat.str)
  | _, _, .nil => .nil
  | _, _, .cons _ t r => .cons (.str _ _) (strs_dat r)
theorem rows_dat : ∀ {xs : List Value} {led : List (Addr × Obj)} {rows : List (List Str)} {news : List (Addr × Obj)}, RowsAre xs led rows → (∀ p ∈ led, p ∈ news) → DatAll news xs (rows.map rowDat)
  | _, _, _, _, .nil, _ => .nil
  | _, _, _, _, .cons h1 h2, hs => .cons (.list (hs _ (.head _)) (strs_dat h1)) (rows_dat h2 fun p hp => hs p (.tail _ hp))
theorem strDat_inj : ∀ {a b : List Str}, a.map Dat.str = b.map Dat.str → a = b
  | [], [], _ => rfl
  | [], _ :: _, h => by simp at h
  | _ :: _, [], h => by simp at h
  | x :: r, y :: t, h => by
    rw [List.map_cons, List.map_cons, List.cons.injEq, Dat.str.injEq] at h
    rw [h.1, strDat_inj h.2]
theorem rows_eq (N : News h₀ L s.heap news) (ma : (a, listOf xs.toArray ea) ∈ news) (mb : (b, listOf ys.toArray eb) ∈ news) (Ra : RowsAre xs la ra) (Rb : RowsAre ys lb ra) (sa : ∀ p ∈ la, p ∈ news) (sb : ∀ p ∈ lb, p ∈ news)
    (hok : ∀ ss ∈ ra, ∀ x ∈ ss, PyData.strOk x = true) (hu : A.units + 64 < cLine) (h : Q (.bool true) s) : wpAny (model prog w) A (compareOp .Eq (.ref a) (.ref b)) Q E s := by
  have hk : ∀ d ∈ ra.map rowDat, kqdOk 8 d = true := fun d hd => by
    obtain ⟨ss, hs, rfl⟩ := List.mem_map.mp hd
    unfold rowDat
    rw [kqdOk, List.all_eq_true]
    intro d hd
    obtain ⟨x, hx, rfl⟩ := List.mem_map.mp hd
    rw [kqdOk]; exact hok ss hs x hx
  refine kqd_eq N ma rfl rfl (rows_dat Ra fun _ h => h) sa mb rfl rfl (rows_dat Rb fun _ h => h) sb hk hk hu ?_
  simpa using h
end
end Mine
end -- B13
section -- B14
open PySem PySem.W PySem.Calls PyProof.Rows PySem.Spec
set_option Elab.async false
set_option maxRecDepth 100000
namespace Mine
section
variable {M : Model} {A : Around} {E : Value → Shared → Prop} {s : Shared} {env : Env}
/-- o.name(.., *xs): the bound method is made -/
theorem StarCall_ {o : Expr} {name : Str} {apos pos : Pos} {args : List Expr} {Q : Value → Shared → Prop}
    (h : wpAny M A (eval o env) (fun ov s₁ => wpAny M A (getAttr ov name true) (fun f s₂ => wpAny M A (callWith pos f [] (backTo pos (starEach args env)) []) Q E s₂) E s₁) E s)
    (hb : attributeBase o name env (eval o env) = eval o env := by rfl)
    (hf : methodCallForm (args.length + ([] : List Keyword).length) (backTo pos (starEach args env)) (backToKw pos (keywordEach [] env)) = false := by rfl) :
    wpAny M A (eval (.Call (.Attribute o name apos) args [] pos) env) Q E s := by
  rw [arm_eval_Call, hb]
  refine wpAny_bind (wpAny_mono h (fun ov s₁ h₁ => wpAny_bind (wpAny_standAt ?_)) fun _ _ x => x)
  unfold methodCall
  rw [hf]
  refine wpAny_bind (wpAny_holding ?_)
  unfold calleeOf
  rw [if_neg Bool.false_ne_true]
  refine wpAny_bind (wpAny_mono h₁ (fun f s₂ h₂ => wpAny_pure ?_) fun _ _ x => x)
  unfold methodCallPos
  refine wpAny_bind ?_
  rw [if_pos (by simp)]
  exact wpAny_pure h₂
end
section
variable {M : Model} {A : Around} {E : Value → Shared → Prop} {s : Shared} {K : Frag} {env : Env} {pos p : Pos} {q f : Addr} {self : Value} {Q : Value → Shared → Prop} {e : Expr} {rest : List Expr}
theorem callWith_MS (hk : fnIn K f = true) (h : wpAny M A (eval e env) (fun v s₁ => StarOf M A E v (fun vs s₂ => MethP K q f self s₂.heap ∧ wpAny M A (call (.ref q) vs) Q E s₂) s₁) E s)
    (he : starEach [.Starred e p] env = [(true, eval e env)] := by rfl) :
    wpAny M A (callWith pos (.ref q) [] (backTo pos (starEach [.Starred e p] env)) []) Q E s := by
  rw [he]
  exact ks_call rfl (keeps_M hk) (ks_lone h)
theorem callWith_MS2 (hk : fnIn K f = true) (h : wpAny M A (spliced (backTo pos (starEach (e :: rest) env))) (fun vs s₁ => MethP K q f self s₁.heap ∧ wpAny M A (call (.ref q) vs) Q E s₁) E s)
    (he : starEach (e :: rest) env = (false, eval e env) :: starEach rest env := by rfl) (hst : (backTo pos (starEach rest env)).any (·.1) = true := by rfl) :
    wpAny M A (callWith pos (.ref q) [] (backTo pos (starEach (e :: rest) env)) []) Q E s := by
  rw [he] at h ⊢
  exact ks_call (by show (false || (backTo pos (starEach rest env)).any (·.1)) = true; rw [hst]; rfl) (keeps_M hk) (evalArgs_plain h)
end
theorem call_bound {prog : Program} {w : World} {A : Around} {E : Value → Shared → Prop} {s : Shared} {q f : Addr} {self : Value} {vs : List Value} {Q : Value → Shared → Prop} (hb : s.heap.get? q = some (methodObj (.ref f) self))
    (h : codeAny (model prog w) A (.call (.ref f) ⟨self :: vs, []⟩) (fun r s' => match r with | .ok (.ret v) => Q v s' | .ok _ => False | .error e => E e s') s) : wpAny (model prog w) A (call (.ref q) vs) Q E s :=
  wpAny_call (ks_codeAny_call_bound hb h)
end Mine
end -- B14
section -- B16
open PySem PySem.W PySem.Calls PyProof.Rows PySem.Spec
set_option Elab.async false
set_option maxRecDepth 100000
namespace Mine
section
variable {prog : Program} {w : World} {A : Around} {E : Value → Shared → Prop} {s : Shared} {env : Env} {h₀ : Heap} {target : Expr} {body : List Stmt} {Q : Flow → Shared → Prop}
  {I : Addr} {n : Nat} {P : Nat → Value → Prop} {St : Nat → Heap → Prop} {m : Str → Option Value} {news : List (Addr × Obj)}

/-- a for whose target's store may turn the ledger -/
theorem forRuleX (W : Walks prog w A I [I] [I] n P St) (J : Nat → (Str → Option Value) → List (Addr × Obj) → Prop) (J2 : Nat → Value → (Str → Option Value) → List (Addr × Obj) → Prop)
    (hLI : env.locals ≠ I) (hI0 : h₀.get? I = none) (hSI : ∀ i h, St i h → ∃ o, h.get? I = some o)
    (hgo : ∀ i v s₁ (Q' : Unit → Shared → Prop), P i v → St (i + 1) s₁.heap → Q' () s₁ → wpAny (model prog w) A (letOwnedTupleGo target (.ref I) v) Q' NoE s₁)
    (hasg : ∀ i v s₁ m₁ news₁ oI (Q' : Unit → Shared → Prop), P i v → J i m₁ news₁ → (∀ p ∈ news₁, p.1 ≠ I) → Fr h₀ env.locals s₁.heap m₁ → News h₀ env.locals s₁.heap (news₁ ++ [(I, oI)]) →
      (∀ h₂ tk₂ m₂ news₂, Fr h₀ env.locals h₂ m₂ → News h₀ env.locals h₂ (news₂ ++ [(I, oI)]) → (∀ p ∈ news₂, p.1 ≠ I) → J2 i v m₂ news₂ → Q' () { s₁ with heap := h₂, toks := tk₂ }) → wpAny (model prog w) A (assign target env v) Q' NoE s₁)
    (st0 : St 0 s.heap) (F : Fr h₀ env.locals s.heap m) (N : News h₀ env.locals s.heap news) (hnI : ∀ p ∈ news, p.1 ≠ I) (h0 : J 0 m news)
    (turn : ∀ i v m₁ news₁ h tk oI, s.toks ≤ tk → i < n → P i v → J2 i v m₁ news₁ → (∀ p ∈ news₁, p.1 ≠ I) → Fr h₀ env.locals h m₁ → News h₀ env.locals h (news₁ ++ [(I, oI)]) →
      wpAny (model prog w) A (execs body env) (FPost h₀ env.locals I oI (J (i + 1)) s Q) NoE { s with heap := h, toks := tk })
    (done : ∀ m₁ news₁ h tk, s.toks ≤ tk → J n m₁ news₁ → Fr h₀ env.locals h m₁ → News h₀ env.locals h news₁ → Q .next { s with heap := h, toks := tk }) :
    codeAny (model prog w) A (.forLoop target (.ref I) body [] env) (fun r s' => match r with | .ok f => Q f s' | .error e => cameBackBy (model prog w) A env E e s') s := by
  have stay : ∀ {news₁ news₂ : List (Addr × Obj)} {h h' : Heap} {oI : Obj}, News h₀ env.locals h (news₁ ++ [(I, oI)]) → News h₀ env.locals h' (news₂ ++ [(I, oI)]) → ∀ b ∈ [I], ∀ o, h.get? b = some o → h'.get? b = some o := by
    intro news₁ news₂ h h' oI N₁ N₂ b hb o e
    rw [List.mem_singleton.mp hb] at e ⊢
    have e1 := (N₁ (I, oI) (by simp)).1
    rw [e] at e1
    rw [Option.some.inj e1]
    exact (N₂ (I, oI) (by simp)).1
  refine codeAny_forLoop_any
    (fun k s' => ∃ h' tk m' news' i, s' = { s with heap := h', toks := tk } ∧ St i h' ∧ Fr h₀ env.locals h' m' ∧ News h₀ env.locals h' news' ∧ (∀ p ∈ news', p.1 ≠ I) ∧ J i m' news' ∧ i ≤ n ∧ k = n + 1 - i ∧ s.toks ≤ tk) ?_ (n + 1)
    ⟨s.heap, s.toks, m, news, 0, rfl, st0, F, N, hnI, h0, Nat.zero_le _, rfl, Nat.le_refl _⟩
  rintro k s' ⟨h', tk, m', news', i, rfl, hst, F', N', hn', hJ, hi, rfl, hle⟩
  have carry : ∀ h₁ : Heap, (∀ b o, b ∉ [I] → h'.get? b = some o → h₁.get? b = some o) → Fr h₀ env.locals h₁ m' ∧ News h₀ env.locals h₁ news' := fun h₁ hk₁ =>
    ⟨⟨F'.ns.at' fun o e => hk₁ _ o (by simpa using hLI) e, fun b o e => hk₁ b o (fun q => by rw [List.mem_singleton.mp q, hI0] at e; cases e) (F'.keep b o e), F'.above⟩,
      fun p hp => ⟨hk₁ _ _ (by simpa using hn' p hp) (N' p hp).1, (N' p hp).2⟩⟩
  by_cases hlt : i < n
  · refine wpAny_with_toks (n := s.toks) hle (noE (W.item i _ _ _ hlt hst fun v h₁ tk₁ hP hst₁ hk₁ hle₁ => ?_))
    obtain ⟨F₁, N₁⟩ := carry h₁ hk₁
    obtain ⟨oI, hoI⟩ := hSI _ _ hst₁
    have N₁' : News h₀ env.locals h₁ (news' ++ [(I, oI)]) := fun p hp => by
      rcases List.mem_append.mp hp with hp | hp
      · exact N₁ p hp
      · rw [List.mem_singleton.mp hp]; exact ⟨hoI, hLI.symm, hI0⟩
    refine noE (hgo i v _ _ hP hst₁ ?_)
    refine wpAny_with_toks (n := s.toks) hle₁ (noE (hasg i v _ m' news' oI _ hP hJ hn' F₁ N₁' fun h₂ tk₂ m₂ news₂ F₂ N₂ hn₂ hJ2 hle₂ => ?_))
    have hst₂ : St (i + 1) h₂ := W.frame _ _ _ hst₁ (stay N₁' N₂)
    refine noE (wpAny_mono (wpAny_toks_of (n := s.toks) hle₂ (turn i v m₂ news₂ h₂ tk₂ oI hle₂ hlt hP hJ2 hn₂ F₂ N₂)) (fun f s₃ h₃' => ?_) fun _ _ x => x.2)
    obtain ⟨hle₃, h₃⟩ := h₃'
    have fin : (∃ h' tk m' news', s₃ = { s with heap := h', toks := tk } ∧ Fr h₀ env.locals h' m' ∧ News h₀ env.locals h' (news' ++ [(I, oI)]) ∧ (∀ p ∈ news', p.1 ≠ I) ∧ J (i + 1) m' news') →
        ∃ m, m < n + 1 - i ∧ ∃ h' tk m' news' i, s₃ = { s with heap := h', toks := tk } ∧ St i h' ∧ Fr h₀ env.locals h' m' ∧ News h₀ env.locals h' news' ∧ (∀ p ∈ news', p.1 ≠ I) ∧ J i m' news' ∧ i ≤ n ∧ m = n + 1 - i ∧ s.toks ≤ tk := by
      rintro ⟨h₃', tk₃, m₃, news₃, rfl, F₃, N₃, hn₃, hJ₃⟩
      exact ⟨n + 1 - (i + 1), by omega, h₃', tk₃, m₃, news₃, i + 1, rfl, W.frame _ _ _ hst₂ (stay N₂ N₃), F₃, News.sub N₃ fun p hp => List.mem_append_left _ hp, hn₃, hJ₃, hlt, rfl, hle₃⟩
    cases f with
    | ret v => exact h₃
    | brk => exact h₃
    | cont => exact fin h₃
    | next => exact fin h₃
  · have hin : i = n := by omega
    subst hin
    refine wpAny_with_toks (n := s.toks) hle (noE (W.done _ _ _ hst fun h₁ tk₁ hk₁ hle₁ => wpAny_execs_nil ?_))
    obtain ⟨F₁, N₁⟩ := carry h₁ hk₁
    exact done m' news' h₁ tk₁ hle₁ hJ F₁ N₁

/-- for x in range(n), x a cell -/
theorem iter_rangeC {cn : Str} {cs : Scope} {L a c r : Addr} {ccd : Value} {cl : List (Str × Addr)} {x : Str} {px : Pos} {b : Int} {t u v : Tok} (J : Nat → (Str → Option Value) → List (Addr × Obj) → Prop) (hh : A.handled = none)
    (hr : IsRange s.heap r 0 b 1 t u v) (hb : b = (n : Int)) (hsmall : Builtin.Range.small 0 b 1 = true) (hc : cl.lookup x = some c)
    (F : Fr h₀ L s.heap m) (N : News h₀ L s.heap news) (h0 : J 0 m news)
    (hcell : ∀ i m₁ news₁, J i m₁ news₁ → ∃ o v₀ rest, news₁ = (c, o) :: rest ∧ o.data = .cell v₀ ∧ ∀ p ∈ rest, p.1 ≠ c)
    (turn : ∀ i m₁ o o' rest h tk t I oI, s.toks ≤ tk → i < n → J i m₁ ((c, o) :: rest) → o'.data = .cell (some (.int (i : Nat) t)) → (∀ p ∈ (c, o') :: rest, p.1 ≠ I) → Fr h₀ L h m₁ → News h₀ L h (((c, o') :: rest) ++ [(I, oI)]) →
      wpAny (model prog w) A (execs body (envX cn cs L a ccd cl)) (FPost h₀ L I oI (J (i + 1)) s Q) NoE { s with heap := h, toks := tk })
    (done : ∀ m₁ news₁ h tk, s.toks ≤ tk → J n m₁ news₁ → Fr h₀ L h m₁ → News h₀ L h news₁ → Q .next { s with heap := h, toks := tk })
    (hk : cs.kind = .function := by rfl) (hx : (envX cn cs L a ccd cl).kindOf x = some .cell := by rfl) :
    wpAny (model prog w) A (pyIter (.ref r)) (fun it s₂ => codeAny (model prog w) A (.forLoop (.Name x px) it body [] (envX cn cs L a ccd cl)) (fun r s' => match r with | .ok f => Q f s' | .error e => cameBackBy (model prog w) A (envX cn cs L a ccd cl) E e s') s₂) E s := by
  refine wpAny_pyIter_range hr hsmall ?_
  have hsz : Builtin.Range.rangeSize 0 b 1 = (n : Int) := by
    rw [hb, PyProof.Rows.rangeSize_nat]; omega
  have W := Walks.range (prog := prog) (w := w) hh s.heap.objs.size 0 1 n
  refine forRuleX (env := envX cn cs L a ccd cl) (h₀ := h₀) (s := { s with heap := _ }) W J (fun i v m₁ news₁ => ∃ o o' rest t, v = .int (i : Nat) t ∧ news₁ = (c, o') :: rest ∧ o'.data = .cell (some v) ∧ J i m₁ ((c, o) :: rest)) (Nat.ne_of_lt F.ns.lt) (next_is_new F) (fun i h st => ⟨_, st⟩) (fun _ _ _ _ _ _ hq => wpAny_pure hq) ?_
    ?_ (F.push _) (fun p hp => ⟨Heap.get?_push_of_some _ (N p hp).1, (N p hp).2⟩) (fun p hp => Nat.ne_of_lt (Heap.lt_size (N p hp).1)) h0 ?_ done
  · intro i v s₁ m₁ news₁ oI Q' hP hJ hn F₁ N₁ hQ'
    obtain ⟨t', rfl⟩ := hP
    obtain ⟨o, v₀, rest, rfl, hd, hr⟩ := hcell i m₁ news₁ hJ
    refine wpAny_assign_Name (storeX_C F₁ N₁ hc (.head ?_) hd ?_ hk hx)
    · intro p hp
      rcases List.mem_append.mp hp with hp | hp
      · exact hr p hp
      · rw [List.mem_singleton.mp hp]; exact Ne.symm (hn (c, o) (.head _))
    · intro h' o' F' N' hd'
      exact hQ' h' _ m₁ ((c, o') :: rest) F' N' (fun p hp => by
        rcases List.mem_cons.mp hp with e | hp
        · rw [e]; exact hn (c, o) (.head _)
        · exact hn p (.tail _ hp)) ⟨o, o', rest, t', by simp, rfl, hd', hJ⟩
  · show IsRangeIter _ _ _ _ _
    have h1 := Heap.get?_push_size s.heap (o := { cls := .type "range_iterator", data := .fields #[rawInt 0, rawInt (Builtin.Range.rangeSize 0 b 1), rawInt 1] }) rfl
    rw [hsz] at h1
    rw [hsz]
    simpa [IsRangeIter] using h1
  · rintro i v m₁ news₁ h tk oI hle hi hP ⟨o, o', rest, t', rfl, rfl, hd', hJ⟩ hn F₁ N₁
    exact turn i m₁ o o' rest h tk t' _ oI hle hi hJ hd' hn F₁ N₁
end
end Mine
end -- B16
section -- B18
open PySem PySem.W PySem.Calls PyProof.Rows PySem.Spec
set_option Elab.async false
set_option maxRecDepth 100000
set_option maxHeartbeats 2000000
namespace Mine
section
variable {prog : Program} {w : World} {A : Around} {E : Value → Shared → Prop} {s : Shared}
theorem dict_loop {kx vx target iter : Expr} {scope : Scope} {pos : Pos} {it : Value} {D : Addr} {env : Env} {R : Result → Shared → Prop} (I : Nat → Shared → Prop)
    (turn : ∀ n s, I n s → wpAny (model prog w) A (pyNext it) (fun r s₁ => match r with
      | none => R (.ok .next) s₁
      | some v => wpAny (model prog w) A (letOwnedTupleGo target it v) (fun _ s₀ => wpAny (model prog w) A (assign target env v) (fun _ s₂ =>
          wpAny (model prog w) A (eval kx env) (fun kv s₄ => wpAny (model prog w) A (eval vx env) (fun vv s₅ =>
            wpAny (model prog w) A (dictSet D kv vv) (fun _ s₆ => ∃ m, m < n ∧ I m s₆) (notedBy (model prog w) A env fun e s' => R (.error e) s') s₅) (notedBy (model prog w) A env fun e s' => R (.error e) s') s₄) (notedBy (model prog w) A env fun e s' => R (.error e) s') s₂)
          (notedBy (model prog w) A env fun e s' => R (.error e) s') s₀) (notedBy (model prog w) A env fun e s' => R (.error e) s') s₁) (notedBy (model prog w) A env fun e s' => R (.error e) s') s)
    (n : Nat) (h : I n s) : codeAny (model prog w) A (.compLoop (.DictComp kx vx [⟨target, iter, [], 0⟩] scope pos) 0 it (.ref D) env) R s := by
  refine codeAny_loop rfl I (fun n s hI => ?_) n h
  show wpAny _ A ((compTurn (.DictComp kx vx [⟨target, iter, [], 0⟩] scope pos) 0 it (.ref D) env).onRaise (fun x => do noteFrame x env; theTreesLotGoes x)) _ _ s
  refine wpAny_noted ?_
  rw [compTurn_dict]
  refine wpAny_bind (wpAny_standAt (wpAny_bind (wpAny_mono (turn n s hI) (fun r s₁ h₁ => ?_) fun _ _ h' => h')))
  cases r with
  | none => exact wpAny_pure h₁
  | some v =>
    refine wpAny_bind (wpAny_mono h₁ (fun _ s₀ h0 => ?_) fun _ _ h' => h')
    refine wpAny_bind (wpAny_mono h0 (fun _ s₂ h₂ => ?_) fun _ _ h' => h')
    refine wpAny_bind (no_test ?_)
    exact wpAny_bind (wpAny_bind (wpAny_mono h₂ (fun kv s₄ h₄ => wpAny_bind (wpAny_holding (wpAny_mono h₄ (fun vv s₅ h₅ => wpAny_bind (wpAny_standAt (wpAny_holding (wpAny_mono h₅ (fun _ s₆ h₆ => wpAny_pure ⟨rfl, h₆⟩) fun _ _ h' => h')))) fun _ _ h' => h'))) fun _ _ h' => h'))

/-- what the block of zeros leaves: a dict with each text, in order -/
def Zeros (kvs : List (Str × Value)) (T : List Row5) : Prop := kvs.map (·.1) = T.map (·.2.1) ∧ ∀ p ∈ kvs, ∃ t, p.2 = .int 0 t

theorem zeros_loop {iter : Expr} {a b : Str} {pa pb tp ka kv : Pos} {kk k0 : Nat} {scope : Scope} {cl : List (Str × Addr)} {pos : Pos} {I C D ax : Addr} {T : List Row5} {env : Env} {m : Str → Option Value} {R : Result → Shared → Prop}
    (hh : A.handled = none) (hkind : scope.kind = .function) (hxa : scope.names.lookup a = some .local) (hxb : scope.names.lookup b = some .local) (hab : a ≠ b) (hdb : (a == ("__debug__" : Str)) = false)
    (hIC : I ≠ C) (hDI : D ≠ I) (hDC : D ≠ C) (haI : ax ≠ I) (haC : ax ≠ C) (haD : ax ≠ D) (hrI : ∀ r ∈ T, r.1 ≠ I ∧ r.1 ≠ C ∧ r.1 ≠ D)
    (hit : s.heap.IsListIter I ax 0) (hl : s.heap.IsList ax (T.map Row5.v).toArray) (hT : ∀ r ∈ T, s.heap.get? r.1 = some r.t.2) (hdup : (T.map fun r => r.2.1).Nodup) (hsz : T.length ≤ sizeLine)
    (hD : s.heap.DictOf (PySem.strKind prog w) D []) (hn : s.heap.Ns C m)
    (hR : ∀ h' tk m' kvs, h'.Ns C m' → h'.DictOf (PySem.strKind prog w) D kvs → Zeros kvs T → (∀ c o, c ≠ C → c ≠ I → c ≠ D → s.heap.get? c = some o → h'.get? c = some o) → R (.ok .next) { s with heap := h', toks := tk }) :
    codeAny (model prog w) A (.compLoop (.DictComp (.Name a ka) (.Constant (.int 0) k0 kv) [⟨.Tuple [.Name a pa, .Name b pb] kk tp, iter, [], 0⟩] scope pos) 0 (.ref I) (.ref D) (compEnvC scope cl C env)) R s := by
  refine dict_loop (fun k s' => ∃ h' tk m' kvs i, s' = { s with heap := h', toks := tk } ∧ h'.IsListIter I ax i ∧ h'.DictOf (PySem.strKind prog w) D kvs ∧ h'.Ns C m' ∧ Zeros kvs (T.take i) ∧ i ≤ T.length ∧ k = T.length + 1 - i ∧
      ∀ c o, c ≠ C → c ≠ I → c ≠ D → s.heap.get? c = some o → h'.get? c = some o) ?_ (T.length + 1)
    ⟨s.heap, s.toks, m, [], 0, rfl, hit, hD, hn, ⟨rfl, fun _ h => (nomatch h)⟩, Nat.zero_le _, rfl, fun _ _ _ _ _ e => e⟩
  rintro k s' ⟨h', tk, m', kvs, i, rfl, hit', hD', hn', hz, hi, rfl, hk⟩
  have hl' : h'.IsList ax (T.map Row5.v).toArray := hl.at fun o e => hk ax o haC haI haD e
  cases hv : T[i]? with
  | none =>
    have hle : T.length ≤ i := List.getElem?_eq_none_iff.mp hv
    refine wpAny_pyNext_list_end hh hit' hl' (by simpa using hle) fun h₁ he₁ => ?_
    refine hR h₁ tk m' kvs (hn'.extBut he₁ (Ne.symm hIC)) (hD'.at fun o e => he₁ D o hDI e) (by rw [List.take_of_length_le hle] at hz; exact hz) fun c o hC hI hDn e => he₁ c o hI (hk c o hC hI hDn e)
  | some r =>
    obtain ⟨hlt, hre⟩ := List.getElem?_eq_some_iff.mp hv
    have hrm : r ∈ T := List.mem_of_getElem? hv
    obtain ⟨ra, x, tx, u, oy⟩ := r
    obtain ⟨h1, h2, h3⟩ := hrI _ hrm
    dsimp only at h1 h2 h3
    have hvi : (T.map Row5.v).toArray[i]? = some (.ref ra) := by
      rw [List.getElem?_toArray, List.getElem?_map, hv]; rfl
    refine wpAny_pyNext_list_item hit' hl' hvi fun h₁ hit₁ hs₁ => ?_
    dsimp only
    refine wpAny_letOwnedTupleGo_listiter hit₁ ?_
    have hTr : h₁.get? ra = some (tupOf (.str x tx) u) := hs₁.extBut _ _ h1 (hk _ _ h2 h1 h3 (hT _ hrm))
    refine kcp_assign (env := compEnvC scope cl C env) hh ⟨_, hTr, rfl, 0, rfl⟩ (lookup_relabel_local hxa) (lookup_relabel_local hxb) (by simp [compEnvC, relabel, hkind]) (hn'.at' fun o e => hs₁.extBut _ o (Ne.symm hIC) e) fun h₄ tk₄ hn₄ hs₄ => ?_
    refine compC_name (v := .str x tx) (lookup_relabel_local hxa) hkind hn₄ (by simp [hab]) ?_ hdb
    refine wpAny_Constant_int ?_
    have hkl : kvs.length ≤ sizeLine := by
      have e := congrArg List.length hz.1
      rw [List.length_map, List.length_map, List.length_take] at e
      omega
    refine wpAny_dictSet_pairs (hsz := hkl) (strKind_is _ _ _ _) (hD'.at fun o e => hs₄ D o hDC (hs₁.extBut D o hDI e)) fun h₆ hl₆ hs₆ => ?_
    refine ⟨T.length + 1 - (i + 1), by omega, h₆, _, _, stored kvs x (.int 0 _), i + 1, rfl, ?_, hl₆, (hn₄.sameBut hs₆ (Ne.symm hDC)), ?_, hlt, rfl, fun c o hC hI hDn e => hs₆.extBut c o hDn (hs₄ c o hC (hs₁.extBut c o hI (hk c o hC hI hDn e)))⟩
    · exact hit₁.at fun o e => hs₆.extBut I o (Ne.symm hDI) (hs₄ I o hIC e)
    · have hne : ∀ p ∈ kvs, p.1 ≠ x := fun p hp e => by
        have : x ∈ (T.take i).map (·.2.1) := hz.1 ▸ (e ▸ List.mem_map_of_mem hp)
        obtain ⟨q, hq, e2⟩ := List.mem_map.mp this
        obtain ⟨j, hj, e3⟩ := List.mem_take_iff_getElem.mp hq
        have hj2 : j < i := by omega
        have := List.pairwise_iff_getElem.mp hdup j i (by rw [List.length_map]; omega) (by rw [List.length_map]; exact hlt) hj2
        rw [List.getElem_map, List.getElem_map, hre, e3, e2] at this
        exact this rfl
      rw [stored_new hne]
      refine ⟨?_, ?_⟩
      · rw [List.map_append, hz.1, List.take_add_one, hv, List.map_append]; rfl
      · intro p hp
        rcases List.mem_append.mp hp with hp | hp
        · exact hz.2 p hp
        · rw [List.mem_singleton.mp hp]; exact ⟨_, rfl⟩

theorem zeros_assign {iter : Expr} {a b y : Str} {pa pb tp ka kv py spos : Pos} {kk k0 : Nat} {scope : Scope} {cl : List (Str × Addr)} {pos : Pos} {env : Env} {h₀ : Heap} {L : Addr} {Q : Flow → Shared → Prop}
    (hsw : swapsWith (.DictComp (.Name a ka) (.Constant (.int 0) k0 kv) [⟨.Tuple [.Name a pa, .Name b pb] kk tp, iter, [], 0⟩] scope pos) (some (.Name y py)) spos.line env = pure true) (hL : env.locals = L)
    (hh : A.handled = none) (hclos : closureFor scope env = pure cl) (hcell : ∀ z ∈ scope.names, z.2 ≠ .cell) (hkind : scope.kind = .function)
    (hnames : ∀ z ∈ scope.names, z.2 = .local → scope.names.lookup z.1 = some .local) (hxa : scope.names.lookup a = some .local) (hxb : scope.names.lookup b = some .local) (hab : a ≠ b) (hdb : (a == ("__debug__" : Str)) = false)
    (hy : env.kindOf y = some .local) (hp : (env.scope.kind == .class || (env.scope.kind == .module && env.locals != env.globals)) = false)
    (hs : ∀ x, foldedSetIterable iter env x = pure x)
    (h : wpAny (model prog w) A (eval iter env) (fun xv s₁ => Stop (∃ ax T news m, xv = .ref ax ∧ s₁.heap.IsList ax (T.map Row5.v).toArray ∧ (∀ r ∈ T, s₁.heap.get? r.1 = some r.t.2) ∧ (T.map fun r => r.2.1).Nodup ∧ T.length ≤ sizeLine ∧ h₀.NoLimit ∧ Fr h₀ L s₁.heap m ∧ News h₀ L s₁.heap news ∧
      ∀ D o h' tk kvs, Fr h₀ L h' (fun z => if z = y then some (.ref D) else m z) → News h₀ L h' ((D, o) :: news) → (∀ p ∈ news, p.1 < D) → (D == sysModules) = false → o.IsDictOf (PySem.strKind prog w) kvs → Zeros kvs T → Q .next { s₁ with heap := h', toks := tk })) E s) :
    wpAny (model prog w) A (exec (.Assign [.Name y py] (.DictComp (.Name a ka) (.Constant (.int 0) k0 kv) [⟨.Tuple [.Name a pa, .Name b pb] kk tp, iter, [], 0⟩] scope pos) spos) env) Q E s := by
  subst hL
  rw [exec_Assign_Name_used _ _ _ _ hsw]
  refine wpAny_bind (wpAny_standAt (wpAny_bind ?_))
  show wpAny _ A (do let _ ← comprehension (.DictComp (.Name a ka) (.Constant (.int 0) k0 kv) [⟨.Tuple [.Name a pa, .Name b pb] kk tp, iter, [], 0⟩] scope pos) scope env _ newDict false (eval iter env) (some (assign (.Name y py) env))) _ _ s
  refine wpAny_bind (wpAny_mono (wpAny_comprehension_free (use := some (assign (.Name y py) env)) (Q := fun _ s' => Q .next s') rfl hs hclos hkind hnames
    (wpAny_mono h (fun xv s₁ h₁ => ?_) fun _ _ e => e)) (fun _ s' hq => wpAny_pure (wpAny_pure hq)) fun _ _ e => e)
  obtain ⟨ax, T, news, m, rfl, hl, hT, hdup, hsz, hbig, F, N, hQ⟩ := h₁
  have hax : ax < s₁.heap.objs.size := by obtain ⟨_, e, _⟩ := hl; exact Heap.lt_size e
  refine wpAny_pyIter_list hl ?_
  refine wpAny_newObj_type (wpAny_newFunctionEnv hcell (by intro y hy; simp at hy) (fun h₁ hns₁ hsb₁ => ?_) hkind)
  dsimp only at hns₁ hsb₁ ⊢
  obtain ⟨H1, hH1⟩ : ∃ H1, H1 = s₁.heap.push { cls := .type "list_iterator", data := .fields #[.ref ax, .int 0 0] } := ⟨_, rfl⟩
  rw [← hH1] at hns₁ hsb₁ ⊢
  have hI1 : H1.IsListIter s₁.heap.objs.size ax 0 := by rw [hH1]; exact ⟨_, Heap.get?_push_size _ rfl, rfl, rfl⟩
  have hs1 : H1.objs.size = s₁.heap.objs.size + 1 := by rw [hH1, Heap.size_push]
  have o1 : ∀ c o, s₁.heap.get? c = some o → H1.get? c = some o := fun c o e => by rw [hH1]; exact Heap.get?_push_of_some _ e
  have F1 : Fr h₀ env.locals H1 m := by rw [hH1]; exact F.push _
  have hnew : (H1.push { cls := .type "dict", dict := none, data := .dict #[] }).DictOf (PySem.strKind prog w) H1.objs.size [] := Heap.DictOf.new H1
  obtain ⟨H2, hH2⟩ : ∃ H2, H2 = H1.push { cls := .type "dict", dict := none, data := .dict #[] } := ⟨_, rfl⟩
  rw [← hH2] at hns₁ hsb₁ hnew ⊢
  have hs2 : H2.objs.size = H1.objs.size + 1 := by rw [hH2, Heap.size_push]
  have o2 : ∀ c o, H1.get? c = some o → H2.get? c = some o := fun c o e => by rw [hH2]; exact Heap.get?_push_of_some _ e
  have n2 : ∀ c o, H2.get? c = some o → c ≠ H2.objs.size := fun c o e => Nat.ne_of_lt (Heap.lt_size e)
  have o3 : ∀ c o, H2.get? c = some o → h₁.get? c = some o := fun c o e => hsb₁.extBut c o (n2 c o e) (Heap.get?_push_of_some _ e)
  have old : ∀ c o, s₁.heap.get? c = some o → h₁.get? c = some o := fun c o e => o3 c o (o2 c o (o1 c o e))
  have low : ∀ c o, s₁.heap.get? c = some o → c ≠ s₁.heap.objs.size ∧ c ≠ H2.objs.size ∧ c ≠ H1.objs.size := fun c o e => by
    have := Heap.lt_size e
    refine ⟨Nat.ne_of_lt this, Nat.ne_of_lt ?_, Nat.ne_of_lt ?_⟩
    · rw [hs2, hs1]; exact Nat.lt_succ_of_lt (Nat.lt_succ_of_lt this)
    · rw [hs1]; exact Nat.lt_succ_of_lt this
  have hIC : s₁.heap.objs.size ≠ H2.objs.size := by rw [hs2, hs1]; exact Nat.ne_of_lt (Nat.lt_succ_of_lt (Nat.lt_succ_self _))
  have hDI : H1.objs.size ≠ s₁.heap.objs.size := by rw [hs1]; exact Nat.ne_of_gt (Nat.lt_succ_self _)
  have hDC : H1.objs.size ≠ H2.objs.size := by rw [hs2]; exact Nat.ne_of_lt (Nat.lt_succ_self _)
  obtain ⟨oax, eax, _⟩ := id hl
  obtain ⟨l1, l2, l3⟩ := low ax oax eax
  have hit₁ : h₁.IsListIter s₁.heap.objs.size ax 0 := hI1.at fun o e => o3 _ o (o2 _ o e)
  have loop : ∀ s₃ : Shared, s₃ = { s₁ with heap := h₁, toks := s₁.toks + ([] : List (Str × Value)).length } →
      codeAny (model prog w) A (.compLoop (.DictComp (.Name a ka) (.Constant (.int 0) k0 kv) [⟨.Tuple [.Name a pa, .Name b pb] kk tp, iter, [], 0⟩] scope pos) 0 (.ref s₁.heap.objs.size) (.ref H1.objs.size) (compEnvC scope cl H2.objs.size env))
        (compPost (model prog w) A E (some (assign (.Name y py) env)) (fun _ s' => Q .next s') (.ref H1.objs.size) H2.objs.size) s₃ := by
    rintro s₃ rfl
    refine zeros_loop (T := T) (ax := ax) hh hkind hxa hxb hab hdb hIC hDI hDC l1 l2 l3 (fun r hr => low _ _ (hT r hr)) hit₁ (hl.at fun o e => old _ o e) (fun r hr => old _ _ (hT r hr)) hdup hsz (hnew.at fun o e => o3 _ o e) hns₁ ?_
    intro h₅ tk₅ m₅ kvs hn₅ hD₅ hz hk₅
    have up : ∀ c o, s₁.heap.get? c = some o → h₅.get? c = some o := fun c o e => hk₅ c o (low c o e).2.1 (low c o e).1 (low c o e).2.2 (old c o e)
    have hLl : env.locals < s₁.heap.objs.size := F.ns.lt
    have hLC : env.locals ≠ H2.objs.size := by rw [hs2, hs1]; exact Nat.ne_of_lt (Nat.lt_succ_of_lt (Nat.lt_succ_of_lt hLl))
    have hLD : env.locals ≠ H1.objs.size := by rw [hs1]; exact Nat.ne_of_lt (Nat.lt_succ_of_lt hLl)
    show wpAny _ A (assign (.Name y py) env (.ref H1.objs.size)) _ _ _
    refine wpAny_assign_Name (wpAny_storeName_local hy (F.ns.at' fun o e => up _ o e) (fun h₂ hn₂ hs₂ => ?_) hp)
    refine ⟨m₅, hn₅.sameBut hs₂ (Ne.symm hLC), fun h₃ hs₃ => ?_⟩
    have keep : ∀ c o, c ≠ env.locals → s₁.heap.get? c = some o → h₃.get? c = some o := fun c o hc e => hs₃.extBut c o (low c o e).2.1 (hs₂.extBut c o hc (up c o e))
    have hD₃ : h₃.DictOf (PySem.strKind prog w) H1.objs.size kvs := (hD₅.extBut hs₂.extBut (Ne.symm hLD)).extBut hs₃.extBut hDC
    obtain ⟨oD, hoD, hdD⟩ := Heap.dictOf_iff.mp hD₃
    have hF : Fr h₀ env.locals h₃ (fun z => if z = y then some (.ref H1.objs.size) else m z) := ⟨hn₂.sameBut hs₃ hLC, fun c o e => keep c o (Nat.ne_of_lt (Nat.lt_of_lt_of_le (Heap.lt_size e) F.above)) (F.keep c o e), F.above⟩
    refine hQ H1.objs.size oD h₃ _ kvs hF (fun q hq => ?_) (fun q hq => by rw [hs1]; exact Nat.lt_succ_of_lt (Heap.lt_size (N q hq).1)) (F1.notModules (modules_low hbig)) hdD hz
    rcases List.mem_cons.mp hq with e | hq
    · rw [e]; exact ⟨hoD, Ne.symm hLD, next_is_new F1⟩
    · exact ⟨keep _ _ (N q hq).2.1 (N q hq).1, (N q hq).2⟩
  exact codeAny_compStart_dict (loop _ rfl) (wpAny_pyIter_listiter hit₁ (loop _ rfl))
end
end Mine
end -- B18
section -- B20
open PySem PySem.W PySem.Calls PyProof.Rows PySem.Spec
set_option Elab.async false
set_option maxRecDepth 100000
namespace Mine
theorem news_fresh {h₀ h h' : Heap} {L : Addr} {m : Str → Option Value} {news : List (Addr × Obj)} (F : Fr h₀ L h m) (hq : ∀ q ∈ news, h'.get? q.1 = some q.2 ∧ h.get? q.1 = none) : News h₀ L h' news := by
  intro q hm
  obtain ⟨h1, h2⟩ := hq q hm
  refine ⟨h1, fun e => ?_, ?_⟩
  · obtain ⟨o, _, _, ho, _⟩ := F.ns
    rw [e, ho] at h2; cases h2
  · cases e : h₀.get? q.1 with
    | none => rfl
    | some o => rw [F.keep _ _ e] at h2; cases h2
theorem PairsAre.shape : ∀ {vs tups P}, PairsAre vs tups P → ∀ q ∈ tups, ∃ x tx u, q.2 = tupOf (.str x tx) u ∧ x ∈ P.map (·.1)
  | _, _, _, .nil, _, h => nomatch h
  | _, _, _, .cons (t := t) (x := x) (tx := tx) (v := u) _ h2, q, h => by
    rcases List.mem_cons.mp h with e | h
    · exact ⟨x, tx, u, by rw [e], .head _⟩
    · obtain ⟨x', tx', u', e1, e2⟩ := h2.shape q h
      exact ⟨x', tx', u', e1, .tail _ e2⟩
theorem PairsAre.nd {h : Heap} : ∀ {vs tups P}, PairsAre vs tups P → (P.map (·.1)).Nodup → (∀ q ∈ tups, h.get? q.1 = some q.2) → ND tups
  | _, _, _, .nil, _, _ => List.nodup_nil
  | _, _, _, .cons (t := t) (x := x) (tx := tx) (v := u) _ h2, hn, hh => by
    rw [List.map_cons, List.nodup_cons] at hn
    refine ND.cons (h2.nd hn.2 fun q hq => hh q (.tail _ hq)) fun q hq e => ?_
    obtain ⟨x', tx', u', e1, e2⟩ := h2.shape q hq
    have h3 := hh q (.tail _ hq)
    rw [e, hh _ (.head _), e1] at h3
    have h4 : #[Value.str x tx, u] = #[Value.str x' tx', u'] := by
      have := congrArg Obj.data (Option.some.inj h3)
      exact (Data.seq.inj this).1
    have h5 : x = x' := by
      have := congrArg (fun a : Array Value => a[0]?) h4
      simp at this
      exact this.1
    exact hn.1 (h5 ▸ e2)
theorem ND.append {a b : List (Addr × Obj)} (ha : ND a) (hb : ND b) (h : ∀ p ∈ a, ∀ q ∈ b, p.1 ≠ q.1) : ND (a ++ b) := by
  unfold ND at *
  rw [List.map_append, List.nodup_append]
  refine ⟨ha, hb, fun x hx y hy => ?_⟩
  obtain ⟨p, hp, rfl⟩ := List.mem_map.mp hx
  obtain ⟨q, hq, rfl⟩ := List.mem_map.mp hy
  exact h p hp q hq
end Mine
end -- B20
section -- B21
open PySem PySem.W PySem.Calls PyProof.Rows PySem.Spec
set_option Elab.async false
set_option maxRecDepth 100000
set_option maxHeartbeats 2000000
namespace Mine
section
variable {prog : Program} {w : World} {A : Around} {E : Value → Shared → Prop} {s : Shared} {h₀ : Heap} {L : Addr} {m : Str → Option Value} {news : List (Addr × Obj)}
/-- [v] * x -/
theorem mul_one {l : Addr} {v : Value} {e : Nat} {x : Int} {u : Tok} {Q : Value → Shared → Prop} (Fm : Fr h₀ L s.heap m) (N : News h₀ L s.heap news) (hm : (l, listOf #[v] e) ∈ news) (h0 : 0 ≤ x) (h1 : x ≤ 100)
    (h : ∀ D h', Fr h₀ L h' m → News h₀ L h' ((D, listOf (List.replicate x.toNat v).toArray 0) :: news) → (∀ p ∈ news, p.1 < D) → Q (.ref D) { s with heap := h' }) :
    wpAny (model prog w) A (binaryOp .Mult (.ref l) (.int x u)) Q E s :=
  mul_list Fm N (N _ hm).1 (by omega) (by omega) (by show 1 * x.toNat ≤ _; omega) fun h' F' N' => by
    rw [listMul_foldl_if] at N'
    refine h _ _ F' ?_ fun p hp => Heap.lt_size (N p hp).1
    rw [show (List.replicate x.toNat (#[v] : Array Value).toList).flatten = List.replicate x.toNat v from lm_rep_flat_one v _] at N'
    exact N'
theorem ne_str_same {x : Str} {t u : Tok} {Q : Value → Shared → Prop} (h : Q (.bool false) s) : wpAny (model prog w) A (compareOp .NotEq (.str x t) (.str x u)) Q E s :=
  ne_str (by simpa using h)
theorem ne_strs {a b : Addr} {xs ys : List Value} {ea eb : Nat} {ss : List Str} {Q : Value → Shared → Prop} (N : News h₀ L s.heap news) (ma : (a, listOf xs.toArray ea) ∈ news) (mb : (b, listOf ys.toArray eb) ∈ news) (Sa : StrsAre xs ss) (Sb : StrsAre ys ss)
    (hok : ∀ x ∈ ss, PyData.strOk x = true) (hu : A.units + 64 < cLine) (h : Q (.bool false) s) : wpAny (model prog w) A (compareOp .NotEq (.ref a) (.ref b)) Q E s := by
  have hk : ∀ d ∈ ss.map Dat.str, kqdOk 8 d = true := fun d hd => by
    obtain ⟨x, hx, rfl⟩ := List.mem_map.mp hd
    rw [kqdOk]; exact hok x hx
  refine kqd_ne N ma rfl rfl (strsD Sa) (n₁ := []) (fun _ h => nomatch h) mb rfl rfl (strsD Sb) (n₂ := []) (fun _ h => nomatch h) hk hk hu ?_
  simpa using h
where
  strsD : ∀ {vs : List Value} {ss : List Str}, StrsAre vs ss → DatAll [] vs (ss.map Dat.str)
    | _, _, .nil => .nil
    | _, _, .cons _ t r => .cons (.str _ _) (strsD r)
end
theorem RowsOk.congr {Ks Ks' : List Str} {lev : Str → Nat} {rows : List (List Str)} (h : RowsOk Ks lev rows) (e : ∀ x, x ∈ Ks ↔ x ∈ Ks') : RowsOk Ks' lev rows := by
  refine ⟨fun r ss hr => ?_, fun x hx => h.full x ((e x).mpr hx), fun r hr => ?_⟩
  · obtain ⟨a, b, c⟩ := h.row r ss hr
    exact ⟨a, fun x => by rw [b x, e x], c⟩
  · obtain ⟨y, hy, e'⟩ := h.tight r hr
    exact ⟨y, (e y).mp hy, e'⟩
theorem wice_eq (x : Str) : (1 : Int) + Int.fmod (x.length : Int) 2 = ((wice x : Nat) : Int) := by
  unfold wice
  rw [Int.fmod_eq_emod_of_nonneg _ (by decide)]
  push_cast; rfl
theorem wice_le (x : Str) : 0 < wice x ∧ wice x ≤ 2 := by unfold wice; omega
theorem told_in {P : List (Str × Option Str)} (hC : Clo P) {i : Nat} {x : Str} (h : Told (P.take i) x) : x ∈ P.map (·.1) := by
  obtain ⟨q, hq, e⟩ := h
  exact (Told.all hC x).mp ⟨q, List.mem_of_mem_take hq, e⟩
theorem nodes_len {P : List (Str × Option Str)} {ns : List Nd} {i : Nat} {E1 E2 : List (Str × Str)} (hC : Clo P) (g : Gr ns E1 E2) (hK : ∀ x, x ∈ ns.map (·.key) → Told (P.take i) x) : ns.length ≤ P.length := by
  have h := List.Nodup.length_le_of_subset g.nodup fun x hx => told_in hC (hK x hx)
  rwa [List.length_map, List.length_map] at h
theorem take_len {α : Type} (P : List α) (i : Nat) : (P.take i).length ≤ P.length := by rw [List.length_take]; omega
theorem strs_rep (u : Str) (t : Tok) : ∀ n : Nat, StrsAre (List.replicate n (.str u t)) (List.replicate n u)
  | 0 => .nil
  | n + 1 => .cons _ _ (strs_rep u t n)
theorem mem_rep_iff {n : Nat} {x u : Str} (h : 0 < n) : x ∈ List.replicate n u ↔ x = u :=
  ⟨fun hm => List.eq_of_mem_replicate hm, fun e => List.mem_replicate.mpr ⟨by omega, e⟩⟩
end Mine
end -- B21
section -- F_read

open PySem PySem.W PySem.Calls PyProof.Rows
set_option Elab.async false
set_option maxRecDepth 100000
set_option maxHeartbeats 8000000
namespace Mine

local macro_rules | `(tactic| walk_at "no such key") => `(tactic| skip)
local macro_rules | `(tactic| walk_at "no such key") => `(tactic| skip)
local macro_rules | `(tactic| walk_at "no such key") => `(tactic| skip)
local macro_rules | `(tactic| walk_at "no such key") => `(tactic| skip)
local macro_rules | `(tactic| walk_at "no such key") => `(tactic| skip)
local macro_rules | `(tactic| walk_at "no such key") => `(tactic| skip)
local macro_rules | `(tactic| walk_at "mfill") => `(tactic| (w_top off; (have kf : PySem.Challenge.rw_mr0297_01 = PySem.Challenge.rw_mr0297_01 ∧ hd.heap_39 = hd.heap_39 := (by (k_fill; exact ⟨rfl, rfl⟩))); clear kf))
local macro_rules | `(tactic| walk_at "menter") => `(tactic| (refine' enterP ?kX ?kT ?k1 ?k2 ?kr ?kb ?kl ?_ ?c1 ?c2 ?c3 ?c4; (case kX => assumption); (case kT => assumption); (case kr => (simp only [recursionLimit]; omega)); (case k1 => k_is); (case k2 => k_is); (case kb => exact BindsTo.of_eq rfl); (case kl => exact locs rfl); (case c1 => rfl); (case c2 => rfl); (case c3 => rfl); (case c4 => decide)))
local macro_rules | `(tactic| walk_at "go") => `(tactic| repeat' (first | walk1 | (dsimp only; walk1)))
local macro_rules | `(tactic| walk_at "subscriptTail Name Slice str ref") => `(tactic| ((with_reducible show wpAny _ _ (subscriptTail _ (Expr.Slice none (some _) none _) _ _) _ _ _); (with_reducible rename Fr _ _ _ _ => F'); (with_reducible rename News _ _ _ _ => N'); (with_reducible rename (1 : Nat) ≤ _ => kT); refine wpAny_with_toks (n := 1) (by (dsimp only at kT ⊢; omega)) ?_; clear kT; refine slice_strN_ns_len (s := ⟨_, _, _, _, _⟩) F' N' ?_; intro _ _ _ _ _ _ htk))
local macro_rules | `(tactic| walk_at "subscriptTail Name Slice str ref") => `(tactic| ((with_reducible show wpAny _ _ (subscriptTail _ (Expr.Slice (some _) none none _) _ _) _ _ _); (with_reducible rename Fr _ _ _ _ => F'); (with_reducible rename News _ _ _ _ => N'); (with_reducible rename (1 : Nat) ≤ _ => kT); refine wpAny_with_toks (n := 1) (by (dsimp only at kT ⊢; omega)) ?_; clear kT; refine slice_strN_sn_len (s := ⟨_, _, _, _, _⟩) F' N' ?_; intro _ _ _ _ _ _ htk))
local macro_rules | `(tactic| walk_at "subscriptTail Name Slice str ref") => `(tactic| ((with_reducible show wpAny _ _ (subscriptTail _ (Expr.Slice (some _) (some _) none _) _ _) _ _ _); (with_reducible rename Fr _ _ _ _ => F'); (with_reducible rename News _ _ _ _ => N'); (with_reducible rename (1 : Nat) ≤ _ => kT); refine wpAny_with_toks (n := 1) (by (dsimp only at kT ⊢; omega)) ?_; clear kT; refine slice_strN_ss_len (s := ⟨_, _, _, _, _⟩) F' N' ?_; intro _ _ _ _ _ _ htk))

theorem read_call : ∀ {w : World} {A : Around} {p : Program} {loose : List Str} {mean : ExcName → Option Value} {mg mb : Str → Option Value} {s : Shared} {x : Str} {t : Tok}
   {Q : Value → Shared → Prop} {E : Value → Shared → Prop},
   (hd.heap_39 w.params).In s.heap → Top p loose mean mg mb s.heap → A.depth < 900 → x.length ≤ 1000 → 1 ≤ s.toks →
   (∀ v h' tk, s.heap.StaysIn h' → s.heap.objs.size ≤ h'.objs.size → ReadV (readF x) v → Q v { s with heap := h', toks := tk }) →
   wpAny (model PG w) A (call (.ref 187) [.str x t] []) Q E s := by
  (have kf : PySem.Challenge.rw_mr0297_01 = PySem.Challenge.rw_mr0297_01 ∧ hd.heap_39 = hd.heap_39 := (by (k_fill; exact ⟨rfl, rfl⟩)))
  clear kf
  intro w A p loose mean mg mb s x t Q E X T hd hx htk hQ
  refine wpAny_call ?_
  walk_at "menter"
  intro L' h₁ hst F' N' hL'
  k_fold
  walk_at "go"
  · rename Fr _ _ _ _ => F1
    rename (Txt.slice x none (some 3) != Str.ofString "257") = true => hc
    dsimp only; k_unfold; dsimp only
    refine hQ _ _ _ F1.keep (Nat.le_of_lt (hL' ▸ F1.ns.lt)) ?_
    unfold readF; rw [if_pos hc]; rfl
  · rename Fr _ _ _ _ => F1
    rename (Txt.slice x none (some 3) != Str.ofString "257") = false => hc1
    rename (Txt.slice x (some 3) (some 5) != Str.ofString " \"") = true => hc2
    dsimp only; k_unfold; dsimp only
    refine hQ _ _ _ F1.keep (Nat.le_of_lt (hL' ▸ F1.ns.lt)) ?_
    unfold readF; rw [hc1, if_neg Bool.false_ne_true, if_pos hc2]; exact ⟨_, rfl⟩
  · rename (Txt.slice x none (some 3) != Str.ofString "257") = false => hc1
    rename (Txt.slice x (some 3) (some 5) != Str.ofString " \"") = false => hc2
    rename (1 : Nat) ≤ _ => htk'
    rename (Txt.slice x (some 5) none).length ≤ _ => hsl
    dsimp only at htk'
    refine wpAny_with_toks (n := 1) (by dsimp only; omega) ?_
    refine SC.replaceW (Nat.ne_of_gt htk') (Nat.succ_ne_zero _) (Nat.ne_of_lt (Nat.lt_succ_self _)) (by decide) (by omega) (by decide) ?_
    intro t1 k1 htk1
    dsimp only at htk1
    have hl1 := len_replace_le (Txt.slice x (some 5) none) (Str.ofString "\"\"") (Str.ofString "~")
    rw [show (Str.ofString "~").length = 1 from rfl] at hl1
    walk_at "go"
    rename_i hsp _ hlen _ F1 _ y1 t1 hy
    have hy' := List.mem_of_getElem? hy
    have hl2 := hlen _ hy'
    refine SC.replaceW (Nat.succ_ne_zero _) (Nat.succ_ne_zero _) (Nat.ne_of_lt (Nat.lt_succ_self _)) (by decide) (by omega) (by decide) ?_
    intro t2 k2
    dsimp only; k_unfold; dsimp only
    refine hQ _ _ _ F1.keep (Nat.le_of_lt (hL' ▸ F1.ns.lt)) ?_
    unfold readF; rw [hc1, if_neg Bool.false_ne_true, hc2, if_neg Bool.false_ne_true]
    rw [hsp] at hy
    obtain ⟨p0, r0, e0⟩ := split_ne (Txt.replace (Txt.slice x (some 5) none) (Str.ofString "\"\"") (Str.ofString "~")) (Str.ofString "\"")
    rw [e0] at hy
    have : p0 = y1 := by simpa using hy
    subst this
    exact ⟨t2, by rw [e0]; rfl⟩
end Mine
end -- F_read
section -- F_texts

open PySem PySem.W PySem.Calls PyProof.Rows
set_option Elab.async false
set_option maxRecDepth 100000
set_option maxHeartbeats 8000000
namespace Mine

local macro_rules | `(tactic| walk_at "no such key") => `(tactic| skip)
local macro_rules | `(tactic| walk_at "no such key") => `(tactic| skip)
local macro_rules | `(tactic| walk_at "no such key") => `(tactic| skip)
local macro_rules | `(tactic| walk_at "no such key") => `(tactic| skip)
local macro_rules | `(tactic| walk_at "no such key") => `(tactic| skip)
local macro_rules | `(tactic| walk_at "mfill") => `(tactic| (w_top off; (have kf : PySem.Challenge.rw_mr0297_01 = PySem.Challenge.rw_mr0297_01 ∧ hd.heap_39 = hd.heap_39 := (by (k_fill; exact ⟨rfl, rfl⟩))); clear kf))
local macro_rules | `(tactic| walk_at "menter") => `(tactic| (refine' enterP ?kX ?kT ?k1 ?k2 ?kr ?kb ?kl ?_ ?c1 ?c2 ?c3 ?c4; (case kX => assumption); (case kT => assumption); (case kr => (simp only [recursionLimit]; omega)); (case k1 => k_is); (case k2 => k_is); (case kb => exact BindsTo.of_eq rfl); (case kl => exact locs rfl); (case c1 => rfl); (case c2 => rfl); (case c3 => rfl); (case c4 => decide)))
local macro_rules | `(tactic| walk_at "goif") => `(tactic| (refine wpAny_If ?_; walk_at "go"))
local macro_rules | `(tactic| walk_at "go") => `(tactic| repeat' (first | walk1 | (dsimp only; walk1)))

local macro_rules | `(tactic| walk_at "execs cons") => `(tactic| refine wpAny_execs_cons ?_)
local macro_rules | `(tactic| walk_at "execs nil") => `(tactic| refine wpAny_execs_nil ?_)
local macro_rules | `(tactic| walk_at "exec If") => `(tactic| refine stop ?_)
local macro_rules | `(tactic| walk_at "exec For Name Name cons nil") => `(tactic| refine stop ?_)


theorem texts_call : ∀ {w : World} {A : Around} {p : Program} {loose : List Str} {mean : ExcName → Option Value} {mg mb : Str → Option Value} {s : Shared} {l : Addr} {vs : List Value} {ns : List Int} {ol : Obj} {ep : Nat}
   {Q : Value → Shared → Prop} {E : Value → Shared → Prop},
   (hd.heap_39 w.params).In s.heap → Top p loose mean mg mb s.heap → A.depth < 900 → A.handled = none → 1 ≤ s.toks →
   s.heap.get? l = some ol → ol.cls = .type "list" → ol.data = .seq vs.toArray ep → IntsAre vs ns → ns.length ≤ 100 →
   (∀ l' h' tk ts its n, s.heap.StaysIn h' → s.heap.objs.size ≤ h'.objs.size → h'.get? l' = some (listOf its n) → s.heap.get? l' = none → StrsAre its.toList ts → (∀ x ∈ ts, GoodT x) → ts ≠ [] → ts.length = ns.length + 2 → (∀ x ∈ ts, OkT ts x) → ts[0]? = some Str.empty → Q (.ref l') { s with heap := h', toks := tk }) →
   wpAny (model PG w) A (call (.ref 180) [.ref l] []) Q E s := by
  walk_at "mfill"
  intro w A p loose mean mg mb s l vs ns ol ep Q E X T hd hh htk hol hcl hda hI hns hQ
  refine wpAny_call ?_
  walk_at "menter"
  intro L' h₁ hst F' N' hL'
  k_fold
  refine hideQ fun Q9 hQ9 => ?_
  walk_at "go"
  refine unstop ?_
  refine wpAny_For ?_
  walk_at "go"
  rename Fr _ _ _ _ => F1
  rename News _ _ _ _ => N1
  rename_i lt _ _ _
  obtain ⟨J, hJ⟩ : ∃ J : Nat → (Str → Option Value) → List (Addr × Obj) → Prop, ∀ i m news, J i m news ↔ ∀ C9 : Prop, (∀ its n ts, news = [(lt, listOf its n)] → m (Str.ofString "texts") = some (.ref lt) → StrsAre its.toList ts → (∀ x ∈ ts, GoodT x) → ts.length = i + 2 → ts[1]? = some (Str.ofString "257 \"a\"\"b\"") → (∀ x ∈ ts, OkT ts x) → ts[0]? = some Str.empty → C9) → C9 := ⟨_, fun _ _ _ => Iff.rfl⟩
  refine iter_listE (h₀ := s.heap) J
    hh (F1.keep _ _ hol) hcl hda (.inl hol) F1 N1 ((hJ _ _ _).mpr fun C9 k9 => k9 _ _ ([Str.ofString "", Str.ofString "257 \"a\"\"b\""]) rfl rfl ?_ ?_ rfl rfl ?_ ?_) ?_ ?_
  · exact .cons _ _ (.cons _ _ .nil)
  · intro x hx
    rcases List.mem_cons.mp hx with e | hx
    · rw [e]; exact ⟨by decide +kernel, by decide +kernel⟩
    · rw [List.mem_singleton.mp hx]; exact ⟨by decide +kernel, by decide +kernel⟩
  · intro x hx
    rcases List.mem_cons.mp hx with e | hx
    · rw [e]; exact ⟨.inl (by decide +kernel), by decide +kernel⟩
    · rw [List.mem_singleton.mp hx]; exact ⟨.inl (by decide +kernel), by decide +kernel⟩
  · exact congrArg some (by decide +kernel)
  · intro i v m₁ news₁ h tk I oI htk1 hv hj ha F2 N2
    refine (hJ _ _ _).mp hj _ fun its n ts eJ3 hm hS hG hlen h1t hok h0t => ?_
    subst eJ3
    obtain ⟨x, t, rfl⟩ : ∃ x t, v = .int x t := IntsAre.item_int hI hv
    have F3 := Fr.know2 F2 hm
    clear F2 F1 N1
    have hneI := neN (ha (lt, _) (List.mem_singleton.mpr rfl))
    dsimp only at hneI
    replace N2 : News s.heap L' h [(lt, listOf its n), (I, oI)] := N2
    have hlt : h.IsList lt its := isList_of (N2 (lt, listOf its n) (.head _)).1
    have hil : its.size = i + 2 := by rw [← Array.length_toList, hS.len_eq, hlen]
    have hi63 : i < 100 := by
      have := List.getElem?_eq_some_iff.mp hv
      obtain ⟨h1, _⟩ := this
      have := hI.length; omega
    show wpAny _ _ _ _ _ _
    k_fold
    walk_at "go"
    have hk0 := fmod_nonneg' (x.fdiv 7) (n := ((i + 2 : Nat) : Int)) (by omega)
    have hk1 := fmod_lt' (x.fdiv 7) (n := ((i + 2 : Nat) : Int)) (by omega)
    refine item_strsA (l := its.toList) (by simpa using hlt) hS hk0 (by omega) (by omega) ?_
    intro t1
    have hgn : GoodT (ts.getD ((x.fdiv 7).fmod ((i + 2 : Nat) : Int)).toNat Str.empty) := by
      have h3 : ((x.fdiv 7).fmod ((i + 2 : Nat) : Int)).toNat < ts.length := by omega
      rw [List.getD_eq_getElem?_getD, List.getElem?_eq_getElem h3]; exact hG _ (List.getElem_mem _)
    have hnmm : ts.getD ((x.fdiv 7).fmod ((i + 2 : Nat) : Int)).toNat Str.empty ∈ ts := by
      have h3 : ((x.fdiv 7).fmod ((i + 2 : Nat) : Int)).toNat < ts.length := by omega
      rw [List.getD_eq_getElem?_getD, List.getElem?_eq_getElem h3]; exact List.getElem_mem _
    generalize ts.getD ((x.fdiv 7).fmod ((i + 2 : Nat) : Int)).toNat Str.empty = nm at hgn hnmm ⊢
    clear hk0 hk1
    have hgl := hgn.2
    dsimp only at htk1
    walk_at "go"
    rename Fr _ _ _ _ => F4
    rename News _ _ _ _ => N4
    refine unstop (mid (fun f s' => Stop (∃ h' tk' nm' t', f = .next ∧ s' = { s with heap := h', toks := tk' } ∧ 1 ≤ tk' ∧ GoodT nm' ∧ nm'.length ≤ 24 ∧ nm' ∈ ts ∧ Fr s.heap L' h' (fun y => if y = Str.ofString "name" then some (.str nm' t') else if y = Str.ofString "x" then some (Value.int x t) else if y = Str.ofString "texts" then some (Value.ref lt) else m₁ y) ∧ News s.heap L' h' [(lt, listOf its n), (I, oI)])) ?_ ?_)
    · walk_at "goif"
      · rename Fr _ _ _ _ => F5
        rw [List.getD_eq_getElem?_getD, show Int.toNat 1 = 1 from rfl, h1t] at F5
        have F6 := Fr.drop2 F5
        refine unstop ⟨_, _, Str.ofString "257 \"a\"\"b\"", _, rfl, rfl, ?_, ⟨by decide +kernel, by decide +kernel⟩, by decide +kernel, List.mem_of_getElem? h1t, F6, by assumption⟩
        dsimp only; omega
      · rename ¬ ((24 : Int) < _) => hle
        refine unstop ⟨_, _, nm, _, rfl, rfl, ?_, hgn, by omega, hnmm, F4, N4⟩
        dsimp only; omega
    · rintro f s' ⟨h', tk', nm', t', rfl, rfl, htk', hg', hl', hm', F5, N5⟩
      clear F4 N4 hgn hgl
      have hlr := len_replace_le nm' (Str.ofString "\"") (Str.ofString "\"\"")
      rw [show (Str.ofString "\"\"").length = 2 from rfl] at hlr
      dsimp only
      walk_at "go"
      refine SC.replaceW (Nat.ne_of_gt htk') (Nat.succ_ne_zero _) (Nat.ne_of_lt (Nat.lt_succ_self _)) (by decide) (by omega) (by decide) ?_
      intro t2 k2
      generalize hrp : Txt.replace nm' (Str.ofString "\"") (Str.ofString "\"\"") = tw at hlr ⊢
      walk_at "go"
      have htw : 126 ∉ tw.cps.toList := hrp ▸ nt_replace hg'.1
      have hnm := hg'.1
      refine' iadd_KF (fun W => W.size = 7 ∧ ∀ v ∈ W.toList, ∃ y t, v = .str y t ∧ GoodT y ∧ OkT ts y) ?kF ?kN ?kM ?kU ?kS ?kP ?_
      case kF => assumption
      case kN => assumption
      case kM => k_mem
      case kU => k_updF
      case kS => simp
      case kP =>
        refine ⟨rfl, ?_⟩
        simp only [Array.toList_append, List.cons_append, List.nil_append, List.forall_mem_cons, List.forall_mem_nil, and_true]
        simp only [Str.length_append] at *
        have e1 : (Str.ofString "257 \"").length = 5 := rfl
        have e2 : (Str.ofString "\"").length = 1 := rfl
        have e3 : (Str.ofString "\" \"on\"").length = 6 := rfl
        have e4 : (Str.ofString "257 ").length = 4 := rfl
        have e5 : (Str.ofString "250 \"").length = 5 := rfl
        have e6 : (Str.ofString "257").length = 3 := rfl
        have hsn : PyData.strOk nm' = true := (hok nm' hm').2
        have hst : PyData.strOk tw = true := hrp ▸ strOk_dbl hsn
        refine ⟨⟨_, _, rfl, ?_, .inr (.inr ⟨nm', hm', ?_⟩), ?_⟩, ⟨_, _, rfl, ?_, .inr (.inr ⟨nm', hm', ?_⟩), ?_⟩, ⟨_, _, rfl, ?_, .inl ?_, ?_⟩, ⟨_, _, rfl, ?_, .inl ?_, ?_⟩, ⟨_, _, rfl, ?_, .inr (.inl (ask_250 _)), ?_⟩, ⟨_, _, rfl, ?_, .inl ?_, ?_⟩, ⟨_, _, rfl, ?_, .inl ?_, ?_⟩, fun _ h => nomatch h⟩
        · exact And.intro (nt_append (nt_append (by decide +kernel) htw) (by decide +kernel)) (by simp only [Str.length_append]; omega)
        · exact hrp ▸ ask_back nm' _ [] rfl (fun _ h => nomatch h)
        · exact strOk_append (strOk_append (by decide +kernel) hst) (by decide +kernel)
        · exact And.intro (nt_append (nt_append (by decide +kernel) htw) (by decide +kernel)) (by simp only [Str.length_append]; omega)
        · exact hrp ▸ ask_back nm' _ [32, 34, 111, 110, 34] rfl (fun _ h => by cases h)
        · exact strOk_append (strOk_append (by decide +kernel) hst) (by decide +kernel)
        · exact And.intro (nt_append (by decide +kernel) hnm) (by simp only [Str.length_append]; omega)
        · simp only [Str.length_append]; omega
        · exact strOk_append (by decide +kernel) hsn
        · exact And.intro (nt_append (by decide +kernel) hnm) (by simp only [Str.length_append]; omega)
        · simp only [Str.length_append]; omega
        · exact strOk_append (by decide +kernel) hsn
        · exact And.intro (nt_append (nt_append (by decide +kernel) htw) (by decide +kernel)) (by simp only [Str.length_append]; omega)
        · exact strOk_append (strOk_append (by decide +kernel) hst) (by decide +kernel)
        · exact And.intro (nt_append hnm (by decide +kernel)) (by simp only [Str.length_append]; omega)
        · simp only [Str.length_append]; omega
        · exact strOk_append hsn (by decide +kernel)
        · exact And.intro (nt_append (by decide +kernel) hnm) (by simp only [Str.length_append]; omega)
        · simp only [Str.length_append]; omega
        · exact strOk_append (by decide +kernel) hsn
      intro h6 W e6 hW F6 N6
      dsimp only
      walk_at "go"
      have hk0 := fmod_nonneg' x (n := 7) (by decide)
      have hk1 := fmod_lt' x (n := 7) (by decide)
      obtain ⟨y, ty, hy, hgy, hoky⟩ : ∃ y ty, W[(x.fmod 7).toNat]? = some (.str y ty) ∧ GoodT y ∧ OkT ts y := by
        have hlt7 : (x.fmod 7).toNat < W.size := by omega
        obtain ⟨y, ty, e, hg⟩ := hW.2 W[(x.fmod 7).toNat] (Array.getElem_mem_toList hlt7)
        exact ⟨y, ty, by rw [Array.getElem?_eq_getElem hlt7, e], hg⟩
      refine' item_list ?hl hk0 ?hf hy ?_
      case hl => exact isList_of (News.get (by assumption) (by k_mem))
      case hf => omega
      walk_at "go"
      rename Fr _ _ _ _ => F7
      rename News _ _ _ _ => N7
      k_unfold
      dsimp only
      refine FPost.next (news' := [(lt, listOf (its.push (.str y ty)) (n + 1))]) F7 (fun p hp => N7 p ?_) ?_ ((hJ _ _ _).mpr fun C9 k9 => k9 _ _ (ts ++ [y]) rfl rfl ?_ ?_ ?_ ?_ ?_ ?_)
      · exact .tail _ (.tail _ hp)
      · intro p hp; rw [List.mem_singleton.mp hp]; exact hneI
      · rw [Array.toList_push]; exact hS.append' (.cons _ _ .nil)
      · intro x hx
        rcases List.mem_append.mp hx with hx | hx
        · exact hG x hx
        · rw [List.mem_singleton.mp hx]; exact hgy
      · rw [List.length_append, hlen]; rfl
      · rw [List.getElem?_append_left (by omega)]; exact h1t
      · intro x hx
        have hmono : ∀ z, OkT ts z → OkT (ts ++ [y]) z := fun z hz => by
          refine ⟨?_, hz.2⟩
          rcases hz.1 with h | h | ⟨q, hq, h⟩
          · exact .inl h
          · exact .inr (.inl h)
          · exact .inr (.inr ⟨q, List.mem_append_left _ hq, h⟩)
        rcases List.mem_append.mp hx with hx | hx
        · exact hmono x (hok x hx)
        · rw [List.mem_singleton.mp hx]; exact hmono y hoky
      · rw [List.getElem?_append_left (by omega)]; exact h0t
  · intro m₁ news₁ h tk htk1 hj F2 N2
    refine (hJ _ _ _).mp hj _ fun its n ts eJ3 hm hS hG hlen h1t hok h0t => ?_
    subst eJ3
    have F3 := Fr.know F2 hm
    clear F2 F1 N1
    dsimp only
    walk_at "go"
    refine hQ9 _ _ ?_
    have N3 := N2 (lt, listOf its n) (.head _)
    refine hQ lt _ _ ts its n F3.keep (Nat.le_of_lt (hL' ▸ F3.ns.lt)) N3.1 N3.2.2 hS hG ?_ ?_ hok h0t
    · intro e; rw [e] at h1t; cases h1t
    · have := hI.length; omega
end Mine
end -- F_texts
section -- B4
open PySem PySem.W PySem.Calls PyProof.Rows
set_option Elab.async false
set_option maxRecDepth 100000
namespace Mine
open Builtin Builtin.Str Builtin.BaseException Builtin.Exceptions
section
variable {prog : Program} {w : World} {A : Around} {E : Value → Shared → Prop} {s : Shared} {K : Frag} {C e t0 : Addr}

def OwnExc (h : Heap) (e : Addr) (C : Addr) (a0 : Value) : Prop := ∃ o vs, h.get? e = some o ∧ o.cls = .ref C ∧ o.data = .fields vs ∧ vs[0]? = some a0

theorem bexcArgs_own {M : Model} {items : List Value} {Q : Value × List Value → Shared → Prop} (x : OwnExc s.heap e C (.ref t0)) (ht : s.heap.TupAt t0 items) (hq : Q (.ref t0, items) s) :
    wpAny M A (bexcArgs (.ref e)) Q E s := by
  obtain ⟨o, vs, ho, _, hd, h0⟩ := x
  obtain ⟨ot, k, hto, _, htd⟩ := ht
  unfold bexcArgs
  refine wpAny_bind (wpAny_field ho hd h0 (wpAny_bind (wpAny_seqItems hto htd ?_)))
  have : items.toArray.toList = items := by simp
  show wpAny M A (pure (Value.ref t0, items.toArray.toList)) Q E s
  rw [this]; exact wpAny_pure hq

theorem bexcStr_own {m : Str} {tk : Tok} {Q : Fin → Shared → Prop} (x : OwnExc s.heap e C (.ref t0)) (ht : s.heap.TupAt t0 [.str m tk]) (hq : Q (.done (.ret (.str m tk))) s) :
    wpAny (model prog w) A (Builtin.«BaseException.__str__» ⟨[.ref e], []⟩) Q E s := by
  unfold Builtin.«BaseException.__str__»
  repeat (first | with_reducible refine bexcArgs_own x ht ?_ | wp_step)
  exact hq

theorem bes_bind (self : Value) : bindSpecial (.builtin "BaseException.__str__") self = pure (.builtin "BaseException.__str__", [self]) :=
  (Slot.of (T := "BaseException") (name := "__str__") (owner := "BaseException") (n := "__str__") (by rw [typeLookup_type, builtinLookup_eq_fast]; kernel_rfl) (by decide +kernel) (by decide +kernel) (by decide +kernel)
    (.inl (by decide +kernel)) (by rw [isSubtype_type]; kernel_rfl)).bind self
theorem bes_plain : plainId "BaseException.__str__" = true := by decide +kernel
theorem bes_kind : builtinKind "BaseException.__str__" = some .slot := by decide +kernel
theorem bes_split : splitId "BaseException.__str__" = some ("BaseException", "__str__") := by decide +kernel

theorem own_type {M : Model} (x : OwnExc s.heap e C (.ref t0)) : Looks M s.heap (typeOf (.ref e)) (.ref C) := by
  obtain ⟨o, vs, ho, hc, hd, h0⟩ := x
  exact hc ▸ (Looks.ld ho).andThen .now

theorem strOf_own (X : K.In s.heap) (hf : findIn K (.ref C) "__str__" = some (some (.builtin "BaseException.__str__"))) (hsub : subIn K (.ref C) (.type "BaseException") = some true)
    (hu : A.units < cLine) {m : Str} {tk : Tok} {Q : Value → Shared → Prop} (x : OwnExc s.heap e C (.ref t0)) (ht : s.heap.TupAt t0 [.str m tk]) (hq : Q (.str m tk) s) :
    wpAny (model prog w) A (Builtin.Str.strOf (.ref e)) Q E s := by
  have cs : ∀ {Q' : Option Value → Shared → Prop}, Q' (some (.str m tk)) s → wpAny (model prog w) A (callSpecial? (.ref e) "__str__" []) Q' E s := by
    intro Q' hq'
    unfold callSpecial?
    refine wpAny_bind ?_
    refine wpAny_bind ((own_type x).here ?_)
    refine (looks_findIn X hf).here ?_
    dsimp only
    refine wpAny_holding (wpAny_bind ((Looks.of_pure (bes_bind (.ref e))).here ?_))
    refine wpAny_bind (wpAny_mono (Q := fun v s' => Q' (some v) s') (E := E) ?_ (fun _ _ z => wpAny_pure z) fun _ _ z => z)
    show wpAny _ _ (call (.builtin "BaseException.__str__") [.ref e] []) _ _ _
    have t2 : Looks (model prog w) s.heap (isInstance (.ref e) (.type "BaseException")) true := (own_type x).andThen (looks_subIn X hsub)
    refine wpAny_call (codeAny_call_builtin bes_plain F.entry_bexc_str (@check_slot (model prog w) _ _ _ "BaseException.__str__" "BaseException" "__str__" (.ref e) [] [] _ bes_kind bes_split t2 (F.args_bexc_str _) ?_))
    exact bexcStr_own x ht hq'
  unfold Builtin.Str.strOf
  repeat (first | with_reducible refine wpAny_cRoomFor hu ?_ | with_reducible refine cs ?_ | wp_step)
  exact hq

theorem str_own {K : Frag} {m : Str} {u : Tok} {Q : Value → Shared → Prop} (X : K.In s.heap) (hf : findIn K (.ref C) "__str__" = some (some (.builtin "BaseException.__str__"))) (hsub : subIn K (.ref C) (.type "BaseException") = some true)
    (hu : A.units + 2 < cLine) (x : OwnExc s.heap e C (.ref t0)) (ht : s.heap.TupAt t0 [.str m u]) (h : Q (.str m u) s) :
    wpAny (model prog w) A (call (.type "str") [.ref e]) Q E s :=
  callType_new F.called_str (by decide) (F.typeCall_str_1 _) (F.newCall_str_1 _) (fun obj => F.args_object_init_2 obj _) F.entry_str_new
    (meets_str_new (S := fun A' R s' => A'.units + 1 < cLine ∧ K.In s'.heap ∧ OwnExc s'.heap e C (.ref t0) ∧ s'.heap.TupAt t0 [.str m u] ∧ R (.ok (.ret (.str m u))) s')
      fun _ _ A' _ _ hq => strOf_own (A := A'.in1) hq.2.1 hf hsub hq.1 hq.2.2.1 hq.2.2.2.1 hq.2.2.2.2)
    ⟨(show A.units + 1 + 1 < cLine from hu), X, x, ht, typeIs_str _ _ _, h⟩

theorem Got.own {h₀ h : Heap} {L : Addr} {news : List (Addr × Obj)} {t : Addr} {vs : List Value} (N : News h₀ L h news) (G : Got news e t (.ref C) vs) : OwnExc h e C (.ref t) ∧ h.TupAt t vs := by
  obtain ⟨oe, ot, ws, nt, h1, h2, hc, hd, h0, htc, htd⟩ := G
  exact ⟨⟨oe, ws, N.get h1, hc, hd, h0⟩, ⟨ot, nt, N.get h2, htc, htd⟩⟩
end
end Mine
end -- B4
section -- F_ask
open PySem PySem.W PySem.Calls PyProof.Rows
set_option Elab.async false
set_option maxRecDepth 100000
set_option maxHeartbeats 8000000
namespace Mine

local macro_rules | `(tactic| walk_at "no such key") => `(tactic| skip)
local macro_rules | `(tactic| walk_at "no such key") => `(tactic| skip)
local macro_rules | `(tactic| walk_at "no such key") => `(tactic| skip)
local macro_rules | `(tactic| walk_at "no such key") => `(tactic| skip)
local macro_rules | `(tactic| walk_at "no such key") => `(tactic| skip)
local macro_rules | `(tactic| walk_at "no such key") => `(tactic| skip)
local macro_rules | `(tactic| walk_at "no such key") => `(tactic| skip)
local macro_rules | `(tactic| walk_at "mfill") => `(tactic| (w_top off; (have kf : PySem.Challenge.rw_mr0297_01 = PySem.Challenge.rw_mr0297_01 ∧ hd.heap_39 = hd.heap_39 := (by (k_fill; exact ⟨rfl, rfl⟩))); clear kf))
local macro_rules | `(tactic| walk_at "menter") => `(tactic| (refine' enterP ?kX ?kT ?k1 ?k2 ?kr ?kb ?kl ?_ ?c1 ?c2 ?c3 ?c4; (case kX => assumption); (case kT => assumption); (case kr => (simp only [recursionLimit]; omega)); (case k1 => k_is); (case k2 => k_is); (case kb => exact BindsTo.of_eq rfl); (case kl => exact locs rfl); (case c1 => rfl); (case c2 => rfl); (case c3 => rfl); (case c4 => decide)))
local macro_rules | `(tactic| walk_at "go") => `(tactic| repeat' (first | walk1 | (dsimp only; walk1)))
local macro_rules | `(tactic| walk_at "execs cons") => `(tactic| refine wpAny_execs_cons ?_)
local macro_rules | `(tactic| walk_at "execs nil") => `(tactic| refine wpAny_execs_nil ?_)
local macro_rules | `(tactic| walk_at "exec While Compare cons nil") => `(tactic| refine stop ?_)
local macro_rules | `(tactic| k_room) => `(tactic| (simp only [recursionLimit, Around.deeper]; omega))

local macro_rules | `(tactic| walk_at "menterS") => `(tactic| (refine' code_defS0 ?k1 ?k2 ?k3 ?k4 ?k5 ?kA ?k6 ?k7 ?k8 ?k9 ?kB ?_ ?cK ?c2 ?c3 ?c4 ?c5; (case kA => exact rfl); (case k2 => k_asm); (case k1 => k_asm); (case k3 => k_asm); (case k4 => k_asm); (case k5 => k_asm); (case k6 => k_is); (case k7 => k_is); (case k8 => (simp only [recursionLimit]; omega)); (case k9 => exact BindsTo.of_eq rfl); (case kB => exact locs rfl); (case cK => assumption); (case c2 => exact rfl); (case c3 => exact rfl); (case c4 => exact rfl); (case c5 => decide); k_whole))

theorem drop_at {x : Str} {iv : Nat} (h : iv < x.length) : ∃ c, x.cps[iv]? = some c ∧ x.cps.toList.drop iv = c :: x.cps.toList.drop (iv + 1) := by
  have h' : iv < x.cps.toList.length := by rw [Array.length_toList]; exact h
  refine ⟨x.cps.toList[iv], ?_, ?_⟩
  · rw [← Array.getElem?_toList]; exact List.getElem?_eq_getElem h'
  · exact List.drop_eq_getElem_cons h'
theorem item_is {x : Str} {i : Int} {iv c : Nat} (e : x.cps[iv]? = some c) (hi : i = (iv : Int)) : Txt.item x i = ⟨#[c]⟩ := by
  subst hi
  exact item_meets (by omega) (by simpa using e)
theorem quote_is : Str.ofString "\"" = ⟨#[34]⟩ := by decide +kernel
theorem one_eq {c : Nat} : ((⟨#[c]⟩ : Str) == Str.ofString "\"") = decide (c = 34) := by
  rw [quote_is]; exact one_beq
theorem scan_q {c : Nat} {r : List Nat} (h : c = 34) : scan (c :: r) = match r with | [] => [] | c' :: r' => if c' = 34 then 34 :: scan r' else [] := by
  cases r with
  | nil => simp [scan, h]
  | cons c' r' => simp [scan, h]
theorem scan_p {c : Nat} {r : List Nat} (h : ¬ c = 34) : scan (c :: r) = c :: scan r := by
  cases r with
  | nil => simp [scan, h]
  | cons c' r' => simp [scan, h]
theorem str_of_list {d : Str} {l : List Nat} (h : d.cps.toList = l) : d = ⟨l.toArray⟩ := by
  subst h; cases d; simp

theorem ask_exit {x d : Str} {iv : Nat} (hle : iv ≤ x.length) (h : ¬ ((iv : Int) < (x.length : Int))) (hsc : d.cps.toList ++ scan (x.cps.toList.drop iv) = scan (x.cps.toList.drop 5)) : d = ⟨(scan (x.cps.toList.drop 5)).toArray⟩ := by
  have : x.cps.toList.drop iv = [] := List.drop_eq_nil_of_le (by rw [Array.length_toList]; show x.length ≤ iv; omega)
  rw [this, scan, List.append_nil] at hsc
  exact str_of_list hsc
theorem ask_q1 {x d : Str} {iv : Nat} (hlt : (iv : Int) < (x.length : Int)) (hq : (Txt.item x (iv : Int) == Str.ofString "\"") = true) (he : (x.length : Int) ≤ (iv : Int) + 1) (hsc : d.cps.toList ++ scan (x.cps.toList.drop iv) = scan (x.cps.toList.drop 5)) : d = ⟨(scan (x.cps.toList.drop 5)).toArray⟩ := by
  obtain ⟨c, e1, e2⟩ := drop_at (x := x) (iv := iv) (by omega)
  rw [item_is e1 rfl, one_eq] at hq
  have h0 : x.cps.toList.drop (iv + 1) = [] := List.drop_eq_nil_of_le (by rw [Array.length_toList]; show x.length ≤ iv + 1; omega)
  rw [e2, scan_q (of_decide_eq_true hq), h0] at hsc
  exact str_of_list (by simpa using hsc)
theorem ask_q2 {x d : Str} {iv : Nat} (hlt : (iv : Int) < (x.length : Int)) (hq : (Txt.item x (iv : Int) == Str.ofString "\"") = true) (he : ¬ ((x.length : Int) ≤ (iv : Int) + 1)) (hn : (Txt.item x ((iv : Int) + 1) != Str.ofString "\"") = true) (hsc : d.cps.toList ++ scan (x.cps.toList.drop iv) = scan (x.cps.toList.drop 5)) : d = ⟨(scan (x.cps.toList.drop 5)).toArray⟩ := by
  obtain ⟨c, e1, e2⟩ := drop_at (x := x) (iv := iv) (by omega)
  obtain ⟨c', e3, e4⟩ := drop_at (x := x) (iv := iv + 1) (by omega)
  rw [item_is e1 rfl, one_eq] at hq
  rw [bne, item_is e3 (by omega), one_eq] at hn
  have hn' : ¬ c' = 34 := by simpa using hn
  rw [e2, scan_q (of_decide_eq_true hq), e4] at hsc
  exact str_of_list (by simpa [hn'] using hsc)
theorem ask_q3 {x d : Str} {iv : Nat} (hlt : (iv : Int) < (x.length : Int)) (hq : (Txt.item x (iv : Int) == Str.ofString "\"") = true) (he : ¬ ((x.length : Int) ≤ (iv : Int) + 1)) (hn : (Txt.item x ((iv : Int) + 1) != Str.ofString "\"") = false) (hsc : d.cps.toList ++ scan (x.cps.toList.drop iv) = scan (x.cps.toList.drop 5)) :
    (d ++ Txt.item x (iv : Int)).cps.toList ++ scan (x.cps.toList.drop (iv + 2)) = scan (x.cps.toList.drop 5) := by
  obtain ⟨c, e1, e2⟩ := drop_at (x := x) (iv := iv) (by omega)
  obtain ⟨c', e3, e4⟩ := drop_at (x := x) (iv := iv + 1) (by omega)
  rw [item_is e1 rfl, one_eq] at hq
  rw [bne, item_is e3 (by omega), one_eq] at hn
  have hn' : c' = 34 := by simpa using hn
  have hc' : c = 34 := of_decide_eq_true hq
  rw [e2, scan_q hc', e4] at hsc
  rw [item_is e1 rfl, ← hsc, Str.cps_append, Array.toList_append, List.append_assoc]
  simp [hn', hc']
theorem ask_p {x d : Str} {iv : Nat} (hlt : (iv : Int) < (x.length : Int)) (hq : (Txt.item x (iv : Int) == Str.ofString "\"") = false) (hsc : d.cps.toList ++ scan (x.cps.toList.drop iv) = scan (x.cps.toList.drop 5)) :
    (d ++ Txt.item x (iv : Int)).cps.toList ++ scan (x.cps.toList.drop (iv + 1)) = scan (x.cps.toList.drop 5) := by
  obtain ⟨c, e1, e2⟩ := drop_at (x := x) (iv := iv) (by omega)
  rw [item_is e1 rfl, one_eq] at hq
  have hc' : ¬ c = 34 := of_decide_eq_false hq
  rw [e2, scan_p hc'] at hsc
  rw [item_is e1 rfl, ← hsc, Str.cps_append, Array.toList_append, List.append_assoc]
  simp

theorem ask_call : ∀ {w : World} {A A₀ : Around} {p : Program} {loose : List Str} {mean : ExcName → Option Value} {mg mb : Str → Option Value} {base h₀ : Heap} {s : Shared} {x : Str} {t : Tok}
   {cn : Str} {cs : Scope} {L a : Addr} {ccd : Value} {m : Str → Option Value} {news : List (Addr × Obj)}
   {Q : Value → Shared → Prop} {E : Value → Shared → Prop},
   (hd.heap_39 w.params).In base → Top p loose mean mg mb base → (hd.heap_39 w.params).In h₀ → Top p loose mean mg mb h₀ → Below A₀ base [] h₀ → A.frames = some [envOf cn cs L a ccd] → cs.kind = .function →
   Fr h₀ L s.heap m → News h₀ L s.heap news → A.depth < 900 → A.units ≤ 100 → A.handled = none → 1 ≤ s.toks → x.length ≤ 100 →
   (∀ v h' tk, Fr h₀ L h' m → ((∃ y t', askF x = some y ∧ v = .str y t' ∧ News h₀ L h' news) ∨ (∃ lr k1, askF x = none ∧ v = .ref lr ∧ (∀ p ∈ news, p.1 < lr) ∧ News h₀ L h' ((lr, listOf #[.str (Str.ofString "refused") k1, .str x t] 0) :: news))) → Q v { s with heap := h', toks := tk }) →
   wpAny (model PG w) A (call (.ref 218) [.str x t] []) Q E s := by
  walk_at "mfill"
  intro w A A₀ p loose mean mg mb base h₀ s x t cn cs L a ccd m news Q E XB TB X T B hfr hck F N hd hun hh htk hx hQ
  obtain ⟨ah, ad, af, ag, au⟩ := A
  obtain rfl : af = some [envOf cn cs L a ccd] := hfr
  obtain rfl : ah = none := hh
  dsimp only at hd
  refine wpAny_call ?_
  walk_at "menterS"
  intro g' L' h' FG' F' N' B' X' T' D'
  k_fold
  clear F N X T B
  walk_at "go"
  · rename Got _ _ _ _ _ => hG
    obtain ⟨hx1, hx2⟩ := Got.own (by assumption) hG
    refine' str_own ?X ?f ?s ?u hx1 hx2 ?_
    case X => k_in
    case f => k_is
    case s => k_is
    case u => show au + 3 + 2 < cLine; unfold cLine; dsimp only at hun; omega
    walk1
    rename Fr _ _ _ _ => F3
    rename News _ _ _ _ => N3
    rename KtsTurn _ _ _ => T3
    walk1
    rename_i lr _ _ _ _
    rename Fr _ _ _ _ => F4
    rename News _ _ _ _ => N4
    refine name_goes F4 N4 ?_
    intro h5 m5 F5 N5
    dsimp only
    k_unfold
    dsimp only
    rename (Txt.slice x none (some 3) != Str.ofString "257") = true => hc
    rename ∀ p ∈ news, _ => hlr
    refine leaveS0_ F5 N5 T3 fun Fa Na => hQ _ _ _ Fa (.inr ⟨lr, _, ?_, rfl, hlr, Na⟩)
    unfold askF; rw [if_pos hc]
  · rename (Txt.slice x none (some 3) != Str.ofString "257") = false => hc1
    rename (Txt.slice x (some 3) (some 5) != Str.ofString " \"") = true => hc2
    rename Fr g' _ _ _ => F5
    rename News g' _ _ _ => N5
    refine leaveS0_ F5 N5 KtsTurn.refl fun Fa Na => hQ _ _ _ Fa (.inl ⟨_, _, ?_, rfl, Na⟩)
    unfold askF; rw [hc1, if_neg Bool.false_ne_true, if_pos hc2]; rfl
  · rename (Txt.slice x none (some 3) != Str.ofString "257") = false => hc1
    rename (Txt.slice x (some 3) (some 5) != Str.ofString " \"") = false => hc2
    rename Fr _ _ _ _ => F5
    rename News _ _ _ _ => N5
    refine unstop ?_
    obtain ⟨J2, hJ2⟩ : ∃ J2 : Heap → Addr → Nat → Shared → Prop, ∀ g2 L2 k s', J2 g2 L2 k s' ↔ ∀ C9 : Prop, (∀ h' tk iv ti d td tn tr mm, s' = { s with heap := h', toks := tk } → mm (Str.ofString "n") = some (.int x.length tn) → mm (Str.ofString "i") = some (.int (iv : Nat) ti) → mm (Str.ofString "dirname") = some (.str d td) → mm (Str.ofString "resp") = some (.str x tr) → Fr g2 L2 h' mm → News g2 L2 h' news → iv ≤ x.length → k = x.length - iv → d.cps.toList ++ scan (x.cps.toList.drop iv) = scan (x.cps.toList.drop 5) → d.length ≤ iv → C9) → C9 := ⟨_, fun _ _ _ _ => Iff.rfl⟩
    refine while_rule (J2 _ _) ?_ (x.length - 5) ((hJ2 _ _ _ _).mpr fun C9 k9 => k9 _ _ 5 _ Str.empty _ _ _ _ rfl rfl rfl rfl rfl F5 N5 ?_ rfl rfl ?_)
    rotate_left
    · exact five_le hc2
    · exact Nat.zero_le _
    · intro k s' hj
      refine (hJ2 _ _ _ _).mp hj _ fun h6 tk6 iv ti d td tn tr mm eJ9 m1 m2 m3 m4 F6 N6 hle eJ17 hsc hdl => ?_
      subst eJ9
      subst eJ17
      have F7 := Fr.know (Fr.know (Fr.know (Fr.know F6 m4) (x := Str.ofString "dirname") (ne_look (by decide) m3)) (x := Str.ofString "i") (ne_look2 (by decide) (by decide) m2)) (x := Str.ofString "n") (ne_look3 (by decide) (by decide) (by decide) m1)
      clear F5 N5 F6
      walk_at "go"
      · rename (Txt.item x _ == Str.ofString "\"") = true => hq
        rename (_ : Int) ≤ _ => he
        rename (_ : Int) < _ => hlt
        rename Fr g' _ _ _ => Fa
        rename News g' _ _ _ => Na
        refine leaveS0_ Fa Na KtsTurn.refl fun Fb Nb => hQ _ _ _ Fb (.inl ⟨_, _, ?_, rfl, Nb⟩)
        unfold askF; rw [hc1, if_neg Bool.false_ne_true, hc2, if_neg Bool.false_ne_true, ← ask_q1 hlt hq he hsc]
      · rename (Txt.item x _ == Str.ofString "\"") = true => hq
        rename (Txt.item x _ != Str.ofString "\"") = true => hn
        rename ¬ ((_ : Int) ≤ _) => he
        rename (_ : Int) < _ => hlt
        rename Fr g' _ _ _ => Fa
        rename News g' _ _ _ => Na
        refine leaveS0_ Fa Na KtsTurn.refl fun Fb Nb => hQ _ _ _ Fb (.inl ⟨_, _, ?_, rfl, Nb⟩)
        unfold askF; rw [hc1, if_neg Bool.false_ne_true, hc2, if_neg Bool.false_ne_true, ← ask_q2 hlt hq he hn hsc]
      · rename (Txt.item x _ == Str.ofString "\"") = true => hq
        rename (Txt.item x _ != Str.ofString "\"") = false => hn
        rename ¬ ((_ : Int) ≤ _) => he
        rename (_ : Int) < _ => hlt
        rename Fr _ _ _ _ => Fa
        rename News _ _ _ _ => Na
        dsimp only
        refine unstop ⟨x.length - (iv + 2), by omega, ((hJ2 _ _ _ _).mpr fun C9 k9 => k9 _ _ (iv + 2) _ (d ++ Txt.item x (iv : Int)) _ _ _ _ rfl rfl rfl rfl rfl Fa Na (by omega) rfl (ask_q3 hlt hq he hn hsc) ?_)⟩
        rw [Str.length_append, len_item]; omega
      · rename (Txt.item x _ == Str.ofString "\"") = false => hq
        rename (_ : Int) < _ => hlt
        rename Fr _ _ _ _ => Fa
        rename News _ _ _ _ => Na
        dsimp only
        refine unstop ⟨x.length - (iv + 1), by omega, ((hJ2 _ _ _ _).mpr fun C9 k9 => k9 _ _ (iv + 1) _ (d ++ Txt.item x (iv : Int)) _ _ _ _ rfl rfl rfl rfl rfl Fa Na (by omega) rfl (ask_p hlt hq hsc) ?_)⟩
        rw [Str.length_append, len_item]; omega
      · rename ¬ ((_ : Int) < _) => hlt
        rename Fr g' _ _ _ => Fa
        rename News g' _ _ _ => Na
        refine leaveS0_ Fa Na KtsTurn.refl fun Fb Nb => hQ _ _ _ Fb (.inl ⟨_, _, ?_, rfl, Nb⟩)
        unfold askF; rw [hc1, if_neg Bool.false_ne_true, hc2, if_neg Bool.false_ne_true, ← ask_exit hle hlt hsc]
end Mine
end -- F_ask
section -- F_closed
open PySem PySem.W PySem.Calls PyProof.Rows
set_option Elab.async false
set_option maxRecDepth 100000
set_option maxHeartbeats 8000000
namespace Mine

local macro_rules | `(tactic| walk_at "no such key") => `(tactic| skip)
local macro_rules | `(tactic| walk_at "no such key") => `(tactic| skip)
local macro_rules | `(tactic| walk_at "no such key") => `(tactic| skip)
local macro_rules | `(tactic| walk_at "no such key") => `(tactic| skip)
local macro_rules | `(tactic| walk_at "no such key") => `(tactic| skip)
local macro_rules | `(tactic| walk_at "no such key") => `(tactic| skip)
local macro_rules | `(tactic| walk_at "mfill") => `(tactic| (w_top off; (have kf : PySem.Challenge.rw_mr0297_01 = PySem.Challenge.rw_mr0297_01 ∧ hd.heap_39 = hd.heap_39 := (by (k_fill; exact ⟨rfl, rfl⟩))); clear kf))
local macro_rules | `(tactic| walk_at "menter") => `(tactic| (refine' enterP ?kX ?kT ?k1 ?k2 ?kr ?kb ?kl ?_ ?c1 ?c2 ?c3 ?c4; (case kX => assumption); (case kT => assumption); (case kr => (simp only [recursionLimit]; omega)); (case k1 => k_is); (case k2 => k_is); (case kb => exact BindsTo.of_eq rfl); (case kl => exact locs rfl); (case c1 => rfl); (case c2 => rfl); (case c3 => rfl); (case c4 => decide)))
local macro_rules | `(tactic| walk_at "go") => `(tactic| repeat' (first | walk1 | (dsimp only; walk1)))
local macro_rules | `(tactic| walk_at "execs cons") => `(tactic| refine wpAny_execs_cons ?_)
local macro_rules | `(tactic| walk_at "execs nil") => `(tactic| refine wpAny_execs_nil ?_)
local macro_rules | `(tactic| walk_at "exec While BoolOp cons nil") => `(tactic| refine stop ?_)
local macro_rules | `(tactic| walk_at "exec For Name Name cons nil") => `(tactic| refine stop ?_)
local macro_rules | `(tactic| walk_at "call ref") => `(tactic| ((with_reducible show wpAny _ _ (call (Value.ref 187) _ _) _ _ _); refine stop ?_))
local macro_rules | `(tactic| walk_at "subscriptTail Name UnaryOp ref int") => `(tactic| refine stop ?_)
local macro_rules | `(tactic| k_all) => `(tactic| assumption)

theorem AllLt.all {d : Nat} : ∀ {l : List (Addr × Obj)}, AllLt d l → ∀ p ∈ l, p.1 < d
  | [], _, _, h => nomatch h
  | _ :: _, ⟨h1, h2⟩, p, h => by
    rcases List.mem_cons.mp h with e | h
    · rw [e]; exact h1
    · exact AllLt.all h2 p h
def mu : Option Str → Nat
  | none => 0
  | some x => x.length + 1

structure Pre (Lx : List Str) (P : List (Str × Option Str)) (o : Option Str) : Prop where
  nodup : (P.map (·.1)).Nodup
  reads : ∀ q ∈ P, q.2 = askF q.1
  good : ∀ q ∈ P, GoodT q.1
  pend : ∀ q ∈ P, ∀ y, q.2 = some y → y ∈ P.map (·.1) ∨ o = some y
  og : ∀ x, o = some x → GoodT x
  inL : ∀ q ∈ P, q.1 ∈ Lx
  oL : ∀ x, o = some x → x ∈ Lx
theorem Pre.step {Lx : List Str} {P : List (Str × Option Str)} {x : Str} (h : Pre Lx P (some x)) (hx : x ∉ P.map (·.1)) (hcl : ∀ x ∈ Lx, ∀ y, askF x = some y → y ∈ Lx) : Pre Lx (P ++ [(x, askF x)]) (askF x) where
  nodup := by
    rw [List.map_append, List.nodup_append]
    refine ⟨h.nodup, by simp, fun a ha b hb => ?_⟩
    have : b = x := by simpa using hb
    subst this
    intro e; subst e; exact hx ha
  reads := fun q hq => by
    rcases List.mem_append.mp hq with hq | hq
    · exact h.reads q hq
    · rw [List.mem_singleton.mp hq]
  good := fun q hq => by
    rcases List.mem_append.mp hq with hq | hq
    · exact h.good q hq
    · rw [List.mem_singleton.mp hq]; exact h.og x rfl
  pend := fun q hq y e => by
    rw [List.map_append]
    rcases List.mem_append.mp hq with hq | hq
    · rcases h.pend q hq y e with h1 | h1
      · exact .inl (List.mem_append_left _ h1)
      · exact .inl (List.mem_append_right _ (by cases h1; simp))
    · rw [List.mem_singleton.mp hq] at e; exact .inr e
  og := fun y e => (ask_good (h.og x rfl) e).1
  inL := fun q hq => by
    rcases List.mem_append.mp hq with hq | hq
    · exact h.inL q hq
    · rw [List.mem_singleton.mp hq]; exact h.oL x rfl
  oL := fun y e => hcl x (h.oL x rfl) y e
theorem Pre.anew {Lx : List Str} {P : List (Str × Option Str)} {o : Option Str} {x : Str} (h : Pre Lx P o) (hc : o = none ∨ ∃ y, o = some y ∧ y ∈ P.map (·.1)) (hx : GoodT x) (hxL : x ∈ Lx) : Pre Lx P (some x) where
  nodup := h.nodup
  reads := h.reads
  good := h.good
  pend := fun q hq y e => by
    rcases h.pend q hq y e with h1 | h1
    · exact .inl h1
    · rcases hc with hc | ⟨z, hc, hm⟩
      · rw [hc] at h1; cases h1
      · rw [hc] at h1; cases h1; exact .inl hm
  og := fun y e => by cases e; exact hx
  inL := h.inL
  oL := fun y e => by cases e; exact hxL
theorem set_more2 {P : List (Str × Option Str)} {x : Str} {o : Option Str} {prog : Program} {w : World} {so : Obj} (hx : x ∉ P.map (·.1))
    (h : so.SetObjOf (PySem.strKind prog w) (fun k' => decide (k' ∈ P.map (·.1)) || decide (k' = x)) (if decide (x ∈ P.map (·.1)) = true then P.length else P.length + 1)) :
    so.SetObjOf (PySem.strKind prog w) (fun k => decide (k ∈ (P ++ [(x, o)]).map (·.1))) (P ++ [(x, o)]).length := by
  rw [if_neg (by simpa using hx)] at h
  have e : (fun k => decide (k ∈ (P ++ [(x, o)]).map (·.1))) = fun k' => decide (k' ∈ P.map (·.1)) || decide (k' = x) := by
    funext k
    rw [Bool.eq_iff_iff]
    simp
  rw [e, List.length_append]
  exact h

theorem closed_call : ∀ {w : World} {A : Around} {p : Program} {loose : List Str} {mean : ExcName → Option Value} {mg mb : Str → Option Value} {s : Shared} {l : Addr} {its : Array Value} {ts Lx : List Str} {n : Nat}
   {Q : Value → Shared → Prop} {E : Value → Shared → Prop},
   (hd.heap_39 w.params).In s.heap → Top p loose mean mg mb s.heap → A.depth < 800 → A.handled = none → 1 ≤ s.toks →
   s.heap.get? l = some (listOf its n) → StrsAre its.toList ts → (∀ x ∈ ts, GoodT x) → ts ≠ [] → ts.length ≤ 11 → (∀ x ∈ ts, x ∈ Lx) → (∀ x ∈ Lx, ∀ y, askF x = some y → y ∈ Lx) →
   (∀ l' h' tk its' n' tups P, s.heap.StaysIn h' → s.heap.objs.size ≤ h'.objs.size → (∀ q ∈ (l', listOf its' n') :: tups, h'.get? q.1 = some q.2 ∧ s.heap.get? q.1 = none) → PairsAre its'.toList tups P → Clo P → (∀ q ∈ P, q.1 ∈ Lx) → Q (.ref l') { s with heap := h', toks := tk }) →
   wpAny (model PG w) A (call (.ref 194) [.ref l] []) Q E s := by
  walk_at "mfill"
  intro w A p loose mean mg mb s l its ts Lx n Q E X T hd hh htk hol hS hG hne hlen hLx hLc hQ
  refine wpAny_call ?_
  walk_at "menter"
  intro L' h₁ hst F' N' hL'
  k_fold
  walk_at "go"
  refine unstop ?_
  refine wpAny_For ?_
  walk_at "go"
  rename Fr _ _ _ _ => F1
  rename News _ _ _ _ => N1
  rename_i lp _ _ _ ls _ _ _ hz hlt _
  obtain ⟨J, hJ⟩ : ∃ J : Nat → (Str → Option Value) → List (Addr × Obj) → Prop, ∀ i m news, J i m news ↔ ∀ C9 : Prop, (∀ itp n so P tups o, m (Str.ofString "pairs") = some (.ref lp) → m (Str.ofString "seen") = some (.ref ls) → news = (lp, listOf itp n) :: (ls, so) :: tups → PairsAre itp.toList tups P → so.SetObjOf (PySem.strKind PG w) (fun k => decide (k ∈ P.map (·.1))) P.length → Pre Lx P o → (o = none ∨ ∃ y, o = some y ∧ y ∈ P.map (·.1)) → (0 < i → P ≠ []) → P.length ≤ 101 * i → (∀ p ∈ tups, p.1 ≠ lp) → (∀ p ∈ tups, p.1 ≠ ls) → C9) → C9 := ⟨_, fun _ _ _ => Iff.rfl⟩
  refine iter_listE (h₀ := s.heap) (vs := its.toList) J
    hh (F1.keep _ _ hol) rfl rfl (.inl hol) F1 (News.sub N1 (b := [(lp, listOf #[] 0), (ls, _)]) ?_) ((hJ _ _ _).mpr fun C9 k9 => k9 (#[]) 0 _ ([]) ([]) none rfl rfl rfl .nil hz ?_ (.inl rfl) ?_ (Nat.le_refl _) ?_ ?_) ?_ ?_
  · intro p hp
    rcases List.mem_cons.mp hp with e | hp
    · rw [e]; exact .tail _ (.head _)
    · rw [List.mem_singleton.mp hp]; exact .head _
  · exact ⟨List.nodup_nil, (fun _ h => nomatch h), (fun _ h => nomatch h), (fun _ h => nomatch h), (fun _ h => nomatch h), (fun _ h => nomatch h), fun _ h => nomatch h⟩
  · exact fun h => absurd h (Nat.lt_irrefl _)
  · exact fun _ h => nomatch h
  · exact fun _ h => nomatch h
  · intro i v m₁ news₁ h tk I oI htk1 hv hj ha F2 N2
    refine (hJ _ _ _).mp hj _ fun itp n1 so P tups o hm1 hm2 eJ8 hP hso hpre ho hPn hPl ht1 ht2 => ?_
    subst eJ8
    obtain ⟨x, t, rfl, hx⟩ : ∃ x t, v = .str x t ∧ ts[i]? = some x := hS.item i v hv
    have hgx : GoodT x := hG x (List.mem_of_getElem? hx)
    rw [know_eq2 hm1 hm2] at F2
    dsimp only at F2
    have hneI := neN (ha (lp, _) (.head _))
    have hneI2 := neN (ha (ls, _) (.tail _ (.head _)))
    dsimp only at hneI hneI2
    replace N2 : News s.heap L' h ((lp, listOf itp n1) :: (ls, so) :: (tups ++ [(I, oI)])) := N2
    clear F1 N1
    dsimp only at htk1
    show wpAny _ _ _ _ _ _
    k_fold
    walk_at "go"
    rename Fr _ _ _ _ => F4
    rename News _ _ _ _ => N4
    refine unstop ?_
    obtain ⟨J2, hJ2⟩ : ∃ J2 : Nat → Shared → Prop, ∀ k s', J2 k s' ↔ ∀ C9 : Prop, (∀ h' tk itp n so P tups o tv mm, s' = { s with heap := h', toks := tk } → 1 ≤ tk → mm (Str.ofString "pairs") = some (.ref lp) → mm (Str.ofString "seen") = some (.ref ls) → mm (Str.ofString "text") = some tv → ReadV o tv → Fr s.heap L' h' mm → News s.heap L' h' ((lp, listOf itp n) :: (ls, so) :: (tups ++ [(I, oI)])) → PairsAre itp.toList tups P → so.SetObjOf (PySem.strKind PG w) (fun k => decide (k ∈ P.map (·.1))) P.length → Pre Lx P o → (o = none → P ≠ []) → P.length + mu o ≤ 101 * (i + 1) → (∀ p ∈ tups, p.1 ≠ lp) → (∀ p ∈ tups, p.1 ≠ ls) → (∀ p ∈ tups, p.1 ≠ I) → k = mu o → C9) → C9 := ⟨_, fun _ _ => Iff.rfl⟩
    refine while_rule J2 ?_ (mu (some x))
      ((hJ2 _ _).mpr fun C9 k9 => k9 _ _ itp n1 so P tups (some x) _ _ rfl ?_ rfl rfl rfl ⟨t, rfl⟩ F4 N4 hP hso (hpre.anew ho hgx (hLx x (List.mem_of_getElem? hx))) (fun e => nomatch e) ?_ ht1 ht2 ?_ rfl)
    · intro k s' hj2
      refine (hJ2 _ _).mp hj2 _ fun h5 tk5 itp5 n5 so5 P5 tups5 o5 tv5 mm eJ10 htk5 hmm1 hmm2 hmm3 hv5 F5 N5 hP5 hso5 hpre5 hon5 hlen5 ht15 ht25 htI5 eJ26 => ?_
      subst eJ10
      subst eJ26
      clear F4 N4 hP hso hpre ho hPn hPl ht1 ht2
      rw [know_eq3 hmm1 hmm2 hmm3] at F5
      have hc11 : i < 11 := by have := (List.getElem?_eq_some_iff.mp hx).1; omega
      have hkl : ∀ p ∈ tups5 ++ [(I, oI)], p.1 ≠ lp := fun p hp => by
        rcases List.mem_append.mp hp with hp | hp
        · exact ht15 p hp
        · rw [List.mem_singleton.mp hp]; exact hneI.symm
      have hks : ∀ p ∈ tups5 ++ [(I, oI)], p.1 ≠ ls := fun p hp => by
        rcases List.mem_append.mp hp with hp | hp
        · exact ht25 p hp
        · rw [List.mem_singleton.mp hp]; exact hneI2.symm
      have hz5 : P5.length < 1112 := by
        have : P5.length ≤ 101 * (i + 1) := by omega
        omega
      have hisz : itp5.size < 1112 := by rw [← Array.length_toList, hP5.len.1]; exact hz5
      have fap : ∀ p ∈ (lp, listOf itp5 n5) :: (ls, so5) :: tups5, p.1 ≠ I := fun p hp => by
        rcases List.mem_cons.mp hp with e | hp
        · rw [e]; exact hneI
        · rcases List.mem_cons.mp hp with e | hp
          · rw [e]; exact hneI2
          · exact htI5 p hp
      cases o5 with
      | none =>
        obtain rfl : tv5 = .none := hv5
        walk_at "go"
        refine FPost.next (news' := (lp, listOf itp5 n5) :: (ls, so5) :: tups5) F5 N5 ?_ ((hJ _ _ _).mpr fun C9 k9 => k9 itp5 n5 so5 P5 tups5 none rfl rfl rfl hP5 hso5 hpre5 (.inl rfl) (fun _ => hon5 rfl) ?_ ht15 ht25)
        · exact fap
        · exact hlen5
      | some x5 =>
        obtain ⟨t5, rfl⟩ : ∃ t, tv5 = .str x5 t := hv5
        have hg5 := hpre5.og x5 rfl
        have hgl5 := hg5.2
        walk_at "go"
        · have hmem : x5 ∈ P5.map (·.1) := by
            first
              | assumption
              | (rename_i hm; simpa using hm)
          refine FPost.next (news' := (lp, listOf itp5 n5) :: (ls, so5) :: tups5) F5 N5 fap ((hJ _ _ _).mpr fun C9 k9 => k9 itp5 n5 so5 P5 tups5 (some x5) rfl rfl rfl hP5 hso5 hpre5 (.inr ⟨x5, rfl, hmem⟩) (fun _ e => ?_) ?_ ht15 ht25)
          · rw [e] at hmem; cases hmem
          · have : P5.length + mu (some x5) ≤ 101 * (i + 1) := hlen5
            omega
        · rename Fr _ _ _ _ => F6
          rename News _ _ _ _ => N6
          refine unstop ?_
          refine read_call (Frag.In.keeps X F6.keep) (T.keeps F6.keep) ?_ ?_ ?_ ?_
          · show A.depth + 1 < 900; omega
          · omega
          · dsimp only; omega
          intro v7 h7 tk7 st7 sz7 hv7
          have F7 := Fr.stays F6 st7
          have N7 := News.stays N6 st7
          clear F6 N6
          rw [read_eq_ask hg5.1] at hv7
          dsimp only
          walk_at "go"
          refine unstop ?_
          refine' item_last (its := itp5) ?hl (Nat.lt_trans hisz (by decide)) ?_
          case hl => exact isList_of (News.get (by assumption) (by k_mem))
          walk_at "go"
          rename Fr _ _ _ _ => F8
          rename News _ _ _ _ => N8
          rename_i D _ hal _ _
          rename Obj.SetObjOf _ _ _ _ => hs8
          rename ¬ _ => hmem
          have hnm : x5 ∉ P5.map (·.1) := by simpa using hmem
          have hD : ∀ p ∈ tups5 ++ [(I, oI)], p.1 < _ := AllLt.all hal.2.2
          have hmu : mu (askF x5) < mu (some x5) := by
            cases e : askF x5 with
            | none => exact Nat.succ_pos _
            | some y => have := (ask_good hg5 e).2; show y.length + 1 < x5.length + 1; omega
          dsimp only
          refine unstop ⟨mu (askF x5), hmu, ((hJ2 _ _).mpr fun C9 k9 => k9 _ _ (itp5.push (.ref D)) (n5 + 1) _ (P5 ++ [(x5, askF x5)]) (tups5 ++ [(D, tupOf (.str x5 t5) v7)]) (askF x5) v7 _ rfl ?a rfl rfl rfl hv7 F8 ?N ?P (set_more2 hnm hs8) (hpre5.step hnm hLc) ?e ?f ?g ?i ?j rfl)⟩
          case N => exact news_reorder N8
          case P => rw [Array.toList_push]; exact hP5.append hv7
          case a => omega
          case e => intro _ q; exact absurd q (by simp)
          case f => rw [List.length_append]; show P5.length + 1 + _ ≤ _; omega
          case g =>
            intro p hp
            rcases List.mem_append.mp hp with hp | hp
            · exact ht15 p hp
            · rw [List.mem_singleton.mp hp]; exact Nat.ne_of_gt hal.1
          case i =>
            intro p hp
            rcases List.mem_append.mp hp with hp | hp
            · exact ht25 p hp
            · rw [List.mem_singleton.mp hp]; exact Nat.ne_of_gt hal.2.1
          case j =>
            intro p hp
            rcases List.mem_append.mp hp with hp | hp
            · exact htI5 p hp
            · rw [List.mem_singleton.mp hp]; exact Nat.ne_of_gt (hD (I, oI) (List.mem_append_right _ (.head _)))
    · dsimp only; omega
    · show P.length + (x.length + 1) ≤ 101 * (i + 1)
      have := hgx.2
      omega
    · intro p hp; exact ha p (.tail _ (.tail _ hp))
  · intro m₁ news₁ h tk htk1 hj F2 N2
    refine (hJ _ _ _).mp hj _ fun itp n1 so P tups o hm1 hm2 eJ8 hP hso hpre ho hPn hPl ht1 ht2 => ?_
    subst eJ8
    rw [know_eq1 hm1] at F2
    clear F1 N1
    have hil : its.toList.length = ts.length := hS.len_eq
    walk_at "go"
    refine hQ lp _ _ itp n1 tups P F2.keep (Nat.le_of_lt (hL' ▸ F2.ns.lt)) ?_ hP ⟨hpre.nodup, hpre.reads, hpre.good, ?_, hPn ?_, by omega⟩ hpre.inL
    · intro q hq
      have := N2 q (by rcases List.mem_cons.mp hq with e | hq; exact e ▸ .head _; exact .tail _ (.tail _ hq))
      exact ⟨this.1, this.2.2⟩
    · intro q hq y e
      rcases hpre.pend q hq y e with h1 | h1
      · exact h1
      · rcases ho with ho | ⟨z, ho, hm⟩
        · rw [ho] at h1; cases h1
        · rw [ho] at h1; cases h1; exact hm
    · rw [hil]; exact List.length_pos_iff.mpr hne
end Mine
end -- F_closed
section -- S9
open PySem PySem.W PySem.Calls PyProof.Rows
set_option Elab.async false
set_option maxRecDepth 100000
set_option maxHeartbeats 8000000
namespace Mine
local macro_rules | `(tactic| walk_at "mfill") => `(tactic| (w_top off; (have kf : PySem.Challenge.rw_mr0297_01 = PySem.Challenge.rw_mr0297_01 ∧ hd.heap_39 = hd.heap_39 := (by (k_fill; exact ⟨rfl, rfl⟩))); clear kf))
local macro_rules | `(tactic| walk_at "go") => `(tactic| repeat' (first | walk1 | (dsimp only; walk1)))
local macro_rules | `(tactic| walk_at "execs cons") => `(tactic| refine wpAny_execs_cons ?_)
local macro_rules | `(tactic| walk_at "execs nil") => `(tactic| refine wpAny_execs_nil ?_)
local macro_rules | `(tactic| k_room) => `(tactic| ((try simp only [depth_under_make, depth_under_kw, depth_in1, depth_deeper, depth_caller]); (try dsimp only); unfold recursionLimit; omega))
local macro_rules | `(tactic| k_all) => `(tactic| assumption)
local macro_rules | `(tactic| walk_at "mcode") => `(tactic| (refine' code_def ?k1 ?k2 ?k3 ?k4 ?k5 ?kA ?kF ?kK ?k6 ?k7 ?k8 ?k9 ?kB ?_ ?c2 ?c3 ?c4 ?c5; (case k1 => assumption); (case k2 => assumption); (case k3 => assumption); (case k4 => assumption); (case k5 => assumption); (case kA => exact rfl); (case kF => assumption); (case kK => assumption); (case k6 => k_is); (case k7 => k_is); (case k8 => k_room); (case k9 => exact BindsTo.of_eq rfl); (case kB => exact locs rfl); (case c2 => exact rfl); (case c3 => exact rfl); (case c4 => exact rfl); (case c5 => decide)))
local macro_rules | `(tactic| walk_at "exec If") => `(tactic| refine wpAny_If ?_)
local macro_rules | `(tactic| walk_at "exec For Name Name cons nil") => `(tactic| refine stop ?_)
local macro_rules | `(tactic| walk_at "exec While Constant cons nil") => `(tactic| refine stop ?_)
local macro_rules | `(tactic| walk_at "exec While Name cons cons") => `(tactic| refine stop ?_)
local macro_rules | `(tactic| walk_at "exec Try") => `(tactic| refine stop ?_)
local macro_rules | `(tactic| walk_at "exec If Compare cons cons") => `(tactic| refine stop ?_)
local macro_rules | `(tactic| walk_at "truthy ref") => `(tactic| refine stop ?_)
local macro_rules | `(tactic| walk_at "compareOp In str ref") => `(tactic| refine stop ?_)
local macro_rules | `(tactic| walk_at "call builtin:set.add") => `(tactic| refine stop ?_)
local macro_rules | `(tactic| walk_at "call builtin:iter") => `(tactic| refine stop ?_)
local macro_rules | `(tactic| walk_at "call builtin:len") => `(tactic| refine stop ?_)
local macro_rules | `(tactic| walk_at "call builtin:list.pop") => `(tactic| refine stop ?_)
local macro_rules | `(tactic| walk_at "subscriptTail Name Name ref str") => `(tactic| refine stop ?_)
local macro_rules | `(tactic| walk_at "subscriptTail Name UnaryOp ref int") => `(tactic| refine stop ?_)
local macro_rules | `(tactic| walk_at "setItem ref str") => `(tactic| refine stop ?_)
local macro_rules | `(tactic| walk_at "delItem ref str") => `(tactic| refine stop ?_)
local macro_rules | `(tactic| walk_at "callWith") => `(tactic| ((show wpAny _ _ (callWith _ _ [] [] []) _ _ _); refine stop ?_))
local macro_rules | `(tactic| walk_at "LeaveS") => `(tactic| refine stop ?_)
local macro_rules | `(tactic| walk_at "getAttr ref") => `(tactic| ((show wpAny _ _ (getAttr _ (Str.ofString "__next__") true) _ _ _); refine stop ?_))
local macro_rules | `(tactic| walk_at "mcodeS") => `(tactic| (refine' code_defS ?k1 ?k2 ?k3 ?k4 ?k5 ?XB ?TB ?D ?T0 ?kA ?k6 ?k7 ?k8 ?k9 ?kB ?_ ?cK ?c2 ?c3 ?c4 ?c5; (case kA => exact rfl); (case k2 => assumption); (case k1 => assumption); (case XB => assumption); (case TB => assumption); (case D => assumption); (case T0 => exact KtsTurn.refl); (case k3 => assumption); (case k4 => assumption); (case k5 => assumption); (case k6 => k_is); (case k7 => k_is); (case k8 => k_room); (case k9 => exact BindsTo.of_eq rfl); (case kB => exact locs rfl); (case cK => assumption); (case c2 => exact rfl); (case c3 => exact rfl); (case c4 => exact rfl); (case c5 => decide)))

theorem cycle_call : ∀ {w : World} {A A₀ : Around} {p : Program} {loose : List Str} {mean : ExcName → Option Value} {mg mb : Str → Option Value} {base h₀ : Heap} {s : Shared}
   {cn : Str} {cs : Scope} {L a : Addr} {ccd : Value} {m : Str → Option Value} {R : List (Addr × Obj)} {outer : List Env} {S dS D : Addr} {rdy npv nf : Value} {t1 t2 t3 t4 : Tok} {oD : Obj} {ns : List Nd} {Eg : List (Str × Str)} {Ks : List Str} {c : Str → Int} {lev : Str → Nat}
   {Q : Value → Shared → Prop} {E : Value → Shared → Prop},
   (hd.heap_39 w.params).In base → Top p loose mean mg mb base → (hd.heap_39 w.params).In h₀ → Top p loose mean mg mb h₀ → Below A₀ base outer h₀ → KtsDicts (outer.filterMap (·.frame)) h₀ → A.frames = some (envOf cn cs L a ccd :: outer) → cs.kind = .function → A.handled = none →
   Fr h₀ L s.heap m → News h₀ L s.heap ((S, instObj 169 dS) :: (dS, attrObj w D rdy npv nf t1 t2 t3 t4) :: (D, oD) :: (nodesL (ns) ++ R)) → A.depth < 700 →
   ND ((S, instObj 169 dS) :: (dS, attrObj w D rdy npv nf t1 t2 t3 t4) :: (D, oD) :: (nodesL (ns) ++ R)) → oD.IsDictOf (PySem.strKind PG w) (kvsOf ns) → (D == sysModules) = false →
   Run ns Eg Ks c → Ks.length ≤ 1300 → Eg.length ≤ 2600 → (∀ e ∈ Eg, lev e.1 < lev e.2) →
   (∀ h' tk g', KtsTurn (outer.filterMap (·.frame)) h₀ g' → Fr g' L h' m → News g' L h' ((S, instObj 169 dS) :: (dS, attrObj w D rdy npv nf t1 t2 t3 t4) :: (D, oD) :: (nodesL (ns) ++ R)) → Below A₀ base outer g' → (hd.heap_39 w.params).In g' → Top p loose mean mg mb g' → KtsDicts (outer.filterMap (·.frame)) g' → Q .none { s with heap := h', toks := tk }) →
   wpAny (model PG w) A (call (.ref 159) [.ref S] []) Q E s := by
  walk_at "mfill"
  intro w A A₀ p loose mean mg mb base h₀ s cn cs L a ccd m R outer S dS D rdy npv nf t1 t2 t3 t4 oD ns Eg Ks c lev Q E XB TB X T B hKD hfr hck hh F N hdp hnd hD lo hR hkl hel hlev hQ
  obtain ⟨ah, ad, af, ag, au⟩ := A
  obtain rfl : af = some (envOf cn cs L a ccd :: outer) := hfr
  obtain rfl : ah = none := hh
  dsimp only at hdp
  refine wpAny_call ?_
  walk_at "mcodeS"
  intro g' L' h1 FG' F1 N1 B' X' T' D'
  k_fold
  clear F N X T
  refine hideQ fun Q9 hQ9 => ?_
  walk_at "go"
  rename_i st h2 l1 h3 it h4 l2 h5 se h6 os hse hsz l3 h7 dn h8 on lon hsn fn hin fin l4 h9 F2 N2
  clear hse fn hin fin
  refine unstop ?_
  refine wpAny_For ?_
  walk_at "go"
  have hnd2 : ND ((dn, on) :: (se, (⟨.type "set", none, .set #[] 0 (.fresh 0 0 os), #[]⟩ : Obj)) :: (it, listOf #[] 0) :: (st, listOf #[] 0) :: ((S, instObj 169 dS) :: (dS, attrObj w D rdy npv nf t1 t2 t3 t4) :: (D, oD) :: (nodesL ns ++ R))) :=
    ND.consLt (ND.consLt (ND.consLt (ND.consLt hnd (allLt_get (l := ((S, instObj 169 dS) :: (dS, attrObj w D rdy npv nf t1 t2 t3 t4) :: (D, oD) :: (nodesL ns ++ R))) l1)) (allLt_get (l := (st, listOf #[] 0) :: ((S, instObj 169 dS) :: (dS, attrObj w D rdy npv nf t1 t2 t3 t4) :: (D, oD) :: (nodesL ns ++ R))) l2)) (allLt_get (l := (it, listOf #[] 0) :: (st, listOf #[] 0) :: ((S, instObj 169 dS) :: (dS, attrObj w D rdy npv nf t1 t2 t3 t4) :: (D, oD) :: (nodesL ns ++ R))) l3)) (allLt_get (l := (se, (⟨.type "set", none, .set #[] 0 (.fresh 0 0 os), #[]⟩ : Obj)) :: (it, listOf #[] 0) :: (st, listOf #[] 0) :: ((S, instObj 169 dS) :: (dS, attrObj w D rdy npv nf t1 t2 t3 t4) :: (D, oD) :: (nodesL ns ++ R))) l4)
  obtain ⟨Gp, hGp⟩ : ∃ Gp : Heap → Prop, ∀ gg, Gp gg ↔ (KtsTurn ((envOf cn cs L a ccd :: outer).filterMap (·.frame)) g' gg ∧ Below ⟨none, ad, some (envOf cn cs L a ccd :: outer), ag, au⟩ base (envOf cn cs L a ccd :: outer) gg ∧ (hd.heap_39 w.params).In gg ∧ Top p loose mean mg mb gg ∧ KtsDicts ((envOf cn cs L a ccd :: outer).filterMap (·.frame)) gg) := ⟨_, fun _ => Iff.rfl⟩
  obtain ⟨J0, hJ0⟩ : ∃ J0 : (Str → Option Value) → List (Addr × Obj) → Prop, ∀ m news, J0 m news ↔ ∀ C9 : Prop, (∀ (oS on : Obj) (sn : List Str) (e1 e2 : Nat), news = (dn, on) :: (se, oS) :: (it, listOf #[] e2) :: (st, listOf #[] e1) :: ((S, instObj 169 dS) :: (dS, attrObj w D rdy npv nf t1 t2 t3 t4) :: (D, oD) :: (nodesL ns ++ R)) → m (Str.ofString "n2i") = some (.ref D) → m (Str.ofString "stack") = some (.ref st) → m (Str.ofString "itstack") = some (.ref it) → m (Str.ofString "seen") = some (.ref se) → m (Str.ofString "node2stacki") = some (.ref dn) → on.IsDictOf (PySem.strKind PG w) [] → oS.SetObjOf (PySem.strKind PG w) (fun k => decide (k ∈ sn)) sn.length → sn.Nodup → (∀ x ∈ sn, x ∈ Ks) → C9) → C9 := ⟨_, fun _ _ => Iff.rfl⟩
  refine iter_dictG (h₀ := g') (kvs := kvsOf ns) (Gp := Gp) (fun _ => J0)
    rfl lo (N2 _ (.tail _ (.tail _ (.tail _ (.tail _ (.tail _ (.tail _ (.head _)))))))).1 hD ?_ (fun g hg => Nat.le_of_eq ((hGp _).mp hg).1.size) ((hGp _).mpr ⟨KtsTurn.refl, B', X', T', D'⟩) F2 N2 ((hJ0 _ _).mpr fun C9 k9 => k9 _ on ([]) _ _ rfl rfl rfl rfl rfl rfl hsn ?_ List.nodup_nil (fun _ h => (nomatch h))) ?_ ?_
  · rintro i m news hj
    refine (hJ0 _ _).mp hj _ fun oS on sn e1 e2 eJ5 _ => ?_
    intros
    subst eJ5
    exact .tail _ (.tail _ (.tail _ (.tail _ (.tail _ (.tail _ (.head _))))))
  · simpa using hsz
  · clear F2 N2 hsn hsz X' T' B' D'
    intro gg i k t y m₁ news₁ h tk I oI hG _ hk hj ha F6 N6
    refine (hJ0 _ _).mp hj _ fun oS on sn e1 e2 eJ5 hm1 hm2 hm3 hm4 hm5 hon hoS hsnd hsk => ?_
    subst eJ5
    obtain ⟨GT, GB, GX, GP, GD⟩ := (hGp _).mp hG
    rw [know_eq5 hm1 hm2 hm3 hm4 hm5] at F6
    have hcnt : sn.length ≤ 1300 := Nat.le_trans (seen_len hsnd hsk) hkl
    have hnd6 : ND (((dn, on) :: (se, oS) :: (it, listOf #[] e2) :: (st, listOf #[] e1) :: ((S, instObj 169 dS) :: (dS, attrObj w D rdy npv nf t1 t2 t3 t4) :: (D, oD) :: (nodesL ns ++ R))) ++ [(I, oI)]) := ND.snoc (hnd2.same rfl) ha
    replace N6 : News gg L' h ((dn, on) :: (se, oS) :: (it, listOf #[] e2) :: (st, listOf #[] e1) :: (((S, instObj 169 dS) :: (dS, attrObj w D rdy npv nf t1 t2 t3 t4) :: (D, oD) :: (nodesL ns ++ R)) ++ [(I, oI)])) := N6
    replace hnd6 : ND ((dn, on) :: (se, oS) :: (it, listOf #[] e2) :: (st, listOf #[] e1) :: (((S, instObj 169 dS) :: (dS, attrObj w D rdy npv nf t1 t2 t3 t4) :: (D, oD) :: (nodesL ns ++ R)) ++ [(I, oI)])) := hnd6
    generalize hRR : ((S, instObj 169 dS) :: (dS, attrObj w D rdy npv nf t1 t2 t3 t4) :: (D, oD) :: (nodesL ns ++ R)) ++ [(I, oI)] = RR at N6 hnd6
    have hkK : k ∈ Ks := by
      have h1 := List.mem_of_getElem? hk
      unfold kvsOf at h1
      obtain ⟨n, hn, e⟩ := List.mem_map.mp h1
      rw [← hR.keys, ← (Prod.mk.inj e).1]
      exact List.mem_map_of_mem hn
    walk_at "go"
    refine unstop ?_
    refine kse_in N6 (.tail (Ne.symm (hnd6.ne (se, _) (.head _))) (.head hnd6.tail.ne)) hoS (Nat.lt_of_le_of_lt hcnt (by decide)) (strKind_is _ _ _ _) rfl ?_
    walk_at "go"
    · rename News gg _ _ _ => N6
      refine FPostG.cont (h₀ := gg) hG F6 (news' := (dn, on) :: (se, oS) :: (it, listOf #[] e2) :: (st, listOf #[] e1) :: ((S, instObj 169 dS) :: (dS, attrObj w D rdy npv nf t1 t2 t3 t4) :: (D, oD) :: (nodesL ns ++ R))) ?_ ha ((hJ0 _ _).mpr fun C9 k9 => k9 oS on sn e1 e2 rfl rfl rfl rfl rfl rfl hon hoS hsnd hsk)
      rw [← hRR] at N6; exact N6
    · rename_i hns
      refine unstop ?_
      obtain ⟨J2, hJ2⟩ : ∃ J2 : Nat → Shared → Prop, ∀ nn s', J2 nn s' ↔ ∀ C9 : Prop, (∀ (gg h' : Heap) (tk : Nat) (m' : Str → Option Value) (on oS : Obj) (sn : List Str) (fs : List Fm) (e1 e2 : Nat), Gp gg → s' = { s with heap := h', toks := tk } → Fr gg L' h' m' → m' (Str.ofString "n2i") = some (.ref D) → m' (Str.ofString "stack") = some (.ref st) → m' (Str.ofString "itstack") = some (.ref it) → m' (Str.ofString "seen") = some (.ref se) → m' (Str.ofString "node2stacki") = some (.ref dn) → News gg L' h' ((dn, on) :: (se, oS) :: (it, listOf (itA fs) e2) :: (st, listOf (stA fs) e1) :: (frL fs ++ RR)) → ND ((dn, on) :: (se, oS) :: (it, listOf (itA fs) e2) :: (st, listOf (stA fs) e1) :: (frL fs ++ RR)) → on.IsDictOf (PySem.strKind PG w) (kvF fs) → oS.SetObjOf (PySem.strKind PG w) (fun k => decide (k ∈ sn)) sn.length → sn.Nodup → (∀ x ∈ sn, x ∈ Ks) → Path ns Eg lev sn fs → unseen Eg sn Ks + remain Eg fs ≤ nn → C9) → C9 := ⟨_, fun _ _ => Iff.rfl⟩
      obtain ⟨J3, hJ3⟩ : ∃ J3 : Nat → Nat → Shared → Prop, ∀ nn mm s', J3 nn mm s' ↔ ∀ C9 : Prop, (∀ (gg h' : Heap) (tk : Nat) (m' : Str → Option Value) (on oS : Obj) (sn : List Str) (fs : List Fm) (e1 e2 : Nat), Gp gg → s' = { s with heap := h', toks := tk } → Fr gg L' h' m' → m' (Str.ofString "n2i") = some (.ref D) → m' (Str.ofString "stack") = some (.ref st) → m' (Str.ofString "itstack") = some (.ref it) → m' (Str.ofString "seen") = some (.ref se) → m' (Str.ofString "node2stacki") = some (.ref dn) → News gg L' h' ((dn, on) :: (se, oS) :: (it, listOf (itA fs) e2) :: (st, listOf (stA fs) e1) :: (frL fs ++ RR)) → ND ((dn, on) :: (se, oS) :: (it, listOf (itA fs) e2) :: (st, listOf (stA fs) e1) :: (frL fs ++ RR)) → on.IsDictOf (PySem.strKind PG w) (kvF fs) → oS.SetObjOf (PySem.strKind PG w) (fun k => decide (k ∈ sn)) sn.length → sn.Nodup → (∀ x ∈ sn, x ∈ Ks) → Path ns Eg lev sn fs → unseen Eg sn Ks + remain Eg fs ≤ nn → mm = fs.length → C9) → C9 := ⟨_, fun _ _ _ => Iff.rfl⟩
      obtain ⟨J1, hJ1⟩ : ∃ J1 : Nat → Shared → Prop, ∀ nn s', J1 nn s' ↔ ∀ C9 : Prop, (∀ (gg h' : Heap) (tk : Nat) (m' : Str → Option Value) (on oS : Obj) (sn : List Str) (fs : List Fm) (e1 e2 : Nat) (k : Str) (kt : Tok), Gp gg → s' = { s with heap := h', toks := tk } → Fr gg L' h' m' → m' (Str.ofString "n2i") = some (.ref D) → m' (Str.ofString "stack") = some (.ref st) → m' (Str.ofString "itstack") = some (.ref it) → m' (Str.ofString "seen") = some (.ref se) → m' (Str.ofString "node2stacki") = some (.ref dn) → m' (Str.ofString "node") = some (.str k kt) → News gg L' h' ((dn, on) :: (se, oS) :: (it, listOf (itA fs) e2) :: (st, listOf (stA fs) e1) :: (frL fs ++ RR)) → ND ((dn, on) :: (se, oS) :: (it, listOf (itA fs) e2) :: (st, listOf (stA fs) e1) :: (frL fs ++ RR)) → on.IsDictOf (PySem.strKind PG w) (kvF fs) → oS.SetObjOf (PySem.strKind PG w) (fun k => decide (k ∈ sn)) sn.length → sn.Nodup → (∀ x ∈ sn, x ∈ Ks) → Path ns Eg lev sn fs → k ∈ Ks → (∀ f, fs.head? = some f → lev f.key < lev k) → unseen Eg sn Ks + remain Eg fs ≤ nn → C9) → C9 := ⟨_, fun _ _ => Iff.rfl⟩
      rename News gg _ _ _ => N6
      refine while_rule J1 ?_ (unseen Eg sn Ks) ((hJ1 _ _).mpr fun C9 k9 => k9 gg _ _ _ on oS sn ([]) e1 e2 k t hG rfl F6 rfl rfl rfl rfl rfl rfl N6 hnd6 hon hoS hsnd hsk ⟨fun _ h => (nomatch h), fun _ h => (nomatch h), List.Pairwise.nil, fun _ h => (nomatch h)⟩ hkK (fun _ h => (nomatch h)) (Nat.le_refl _))
      · clear hj hG GT GB GX GP GD F6 N6 hnd6 hon hoS hsnd hsk hm1 hm2 hm3 hm4 hm5 ha hkK hcnt hns hk
        intro nn s' hI
        refine (hJ1 _ _).mp hI _ fun gg h tk m' on oS sn fs e1 e2 k kt hG eJ13 F6 hm1 hm2 hm3 hm4 hm5 hm6 N6 hnd6 hon hoS hsnd hsk hpath hkK hlk hnn => ?_
        subst eJ13
        clear hI
        obtain ⟨GT, GB, GX, GP, GD⟩ := (hGp _).mp hG
        rw [know_eq6 hm1 hm2 hm3 hm4 hm5 hm6] at F6
        have hcnt : sn.length ≤ 1300 := Nat.le_trans (seen_len hsnd hsk) hkl
        walk_at "go"
        refine unstop ?_
        refine mid (fun f s' => Stop (f = .next ∧ J2 nn s')) ?_ ?_
        · refine wpAny_If ?_
          walk_at "go"
          refine unstop ?_
          refine kse_in N6 (.tail (Ne.symm (hnd6.ne (se, _) (.head _))) (.head hnd6.tail.ne)) hoS (Nat.lt_of_le_of_lt hcnt (by decide)) (strKind_is _ _ _ _) rfl ?_
          have hfl : fs.length ≤ 1300 := Nat.le_trans hpath.len hcnt
          have hz1 : (itA fs).size ≤ 1300 := by rw [itA_size]; exact hfl
          have hz2 : (stA fs).size ≤ 1300 := by rw [stA_size]; exact hfl
          walk_at "go"
          · rename News gg _ _ _ => N6
            refine unstop ?_
            refine kda_in N6 (.head _) hon lon (strKind_is _ _ _ _) false (by rw [valueAt_none (hpath.notin hlk)]; rfl) ?_
            walk_at "go"
            rename Fr gg _ _ _ => F7
            rename News gg _ _ _ => N7
            refine unstop ⟨rfl, ((hJ2 _ _).mpr fun C9 k9 => k9 gg _ _ _ on oS sn fs e1 e2 hG rfl F7 rfl rfl rfl rfl rfl N7 hnd6 hon hoS hsnd hsk hpath hnn)⟩
          · rename ¬ k ∈ sn => hns
            rename News gg _ _ _ => N6
            rename Obj.SetObjOf _ oS _ _ => hoS
            refine unstop ?_
            refine kse_add F6 N6 (.tail (Ne.symm (hnd6.ne (se, _) (.head _))) (.head hnd6.tail.ne)) hoS (Nat.lt_of_le_of_lt (Nat.succ_le_succ hcnt) (by decide)) (strKind_is _ _ _ _) rfl ?_
            intro h10 oS10 F10 N10 hoS10
            have hnd10 : ND ((dn, on) :: (se, oS10) :: (it, listOf (itA fs) e2) :: (st, listOf (stA fs) e1) :: (frL fs ++ RR)) := hnd6.same rfl
            clear F6 N6
            walk_at "go"
            obtain ⟨pre, n, post, hns', hkey, hval⟩ := hR.find (x := k) hkK
            have hDm : (D, oD) ∈ RR := by rw [← hRR]; exact .tail _ (.tail _ (.head _))
            have hnn' : n ∈ ns := by rw [hns']; simp
            have hno : ∀ q ∈ n.objs, q ∈ RR := fun q hq => by rw [← hRR]; exact List.mem_append_left _ (.tail _ (.tail _ (.tail _ (List.mem_append_left _ (List.mem_flatMap.mpr ⟨n, hnn', hq⟩)))))
            refine unstop ?_
            refine kda_item N10 (.tail _ (.tail _ (.tail _ (.tail _ (List.mem_append_right _ hDm))))) hD (strKind_is _ _ _ _) hval ?_
            replace N10 : News gg L' h10 ((n.a, nodeObj n.dx n.l n.np n.pt n.key n.kt) :: (n.dx, dictOf [] 0) :: (n.l, listOf n.vs n.ep) :: (dn, on) :: (se, oS10) :: (it, listOf (itA fs) e2) :: (st, listOf (stA fs) e1) :: (frL fs ++ RR)) := News.sub N10 fun q hq => by
              rcases List.mem_append.mp (show q ∈ n.objs ++ _ from hq) with h | h
              · exact .tail _ (.tail _ (.tail _ (.tail _ (List.mem_append_right _ (hno q h)))))
              · exact h
            walk_at "go"
            refine unstop ?_
            refine iter_of_list F10 N10 (News.isList N10 (.tail _ (.tail _ (.head _)))) ?_
            intro I2 h11 F11 N11 lI2
            clear F10 N10
            walk_at "go"
            refine unstop ?_
            refine next_K F11 N11 (.head _) ?_
            intro W h12 F12 N12 lW
            replace N12 : News gg L' h12 ((W, mwObj I2) :: (I2, liObj n.l 0) :: (dn, on) :: (se, oS10) :: (it, listOf (itA fs) e2) :: (st, listOf (stA fs) e1) :: (frL fs ++ RR)) := News.sub N12 fun q hq => by
              rcases List.mem_cons.mp hq with h | h
              · rw [h]; exact .head _
              · rcases List.mem_cons.mp h with h | h
                · rw [h]; exact .tail _ (.head _)
                · exact .tail _ (.tail _ (.tail _ (.tail _ (.tail _ h))))
            have hnd12 : ND ((W, mwObj I2) :: (I2, liObj n.l 0) :: (dn, on) :: (se, oS10) :: (it, listOf (itA fs) e2) :: (st, listOf (stA fs) e1) :: (frL fs ++ RR)) :=
              ND.consLt (ND.consLt hnd10 fun q hq => lI2 q (.tail _ (.tail _ (.tail _ hq)))) fun q hq => by
                rcases List.mem_cons.mp hq with h | h
                · rw [h]; exact lW _ (.head _)
                · exact lW q (.tail _ (.tail _ (.tail _ (.tail _ h))))
            clear F11 N11
            have hA1 := hnd12.tail.tail.tail.tail.ne
            have hA2 := hnd12.tail.tail.tail.tail.tail.ne
            have hC1 := neN (hnd12.ne (it, _) (.tail _ (.tail _ (.tail _ (.head _)))))
            have hC2 := neN (hnd12.tail.ne (it, _) (.tail _ (.tail _ (.head _))))
            have hC3 := neN (hnd12.tail.tail.ne (it, _) (.tail _ (.head _)))
            have hC4 := neN (hnd12.tail.tail.tail.ne (it, _) (.head _))
            have hC5 := neN (hnd12.ne (st, _) (.tail _ (.tail _ (.tail _ (.tail _ (.head _))))))
            have hC6 := neN (hnd12.tail.ne (st, _) (.tail _ (.tail _ (.tail _ (.head _)))))
            have hC7 := neN (hnd12.tail.tail.ne (st, _) (.tail _ (.tail _ (.head _))))
            have hC8 := neN (hnd12.tail.tail.tail.ne (st, _) (.tail _ (.head _)))
            have hC9 := neN (hnd12.tail.tail.tail.tail.ne (st, _) (.head _))
            dsimp only at hC1 hC2 hC3 hC4 hC5 hC6 hC7 hC8 hC9
            walk_at "go"
            rename Fr gg _ _ _ => F13
            rename News gg _ _ _ => N13
            refine unstop ?_
            refine kun_lenL (k := fs.length) (News.isList N13 (.tail _ (.tail _ (.tail _ (.tail _ (.tail _ (.head _))))))) (by rw [stA_size]) (by omega) ?_
            walk_at "go"
            have hnd13 : ND ((W, mwObj I2) :: (I2, liObj n.l 0) :: (dn, on) :: (se, oS10) :: (it, listOf ((itA fs).push (.ref W)) (e2 + 1)) :: (st, listOf (stA fs) e1) :: (frL fs ++ RR)) := hnd12.same rfl
            refine unstop ?_
            refine kda_set F13 N13 (.tail (Ne.symm (hnd13.ne (dn, _) (.tail _ (.head _)))) (.tail (Ne.symm (hnd13.tail.ne (dn, _) (.head _))) (.head hnd13.tail.tail.ne))) hon (strKind_is _ _ _ _) (by rw [kvF_len, sizeLine_eq]; omega) ?_
            intro h14 on14 F14 N14 hon14
            rw [stored_new (hpath.notin hlk)] at hon14
            clear F13 N13
            walk_at "go"
            rename Fr gg _ _ _ => F15
            rename News gg _ _ _ => N15
            refine unstop ⟨rfl, ((hJ2 _ _).mpr fun C9 k9 => k9 gg _ _ _ on14 oS10 (k :: sn) (⟨W, I2, n.l, 0, k, kt, .int fs.length _⟩ :: fs) _ _ hG rfl F15 rfl rfl rfl rfl rfl (News.permP N15 (perm24 (W, mwObj I2) (I2, liObj n.l 0) _ _ _ _ (frL fs ++ RR))) ?_ hon14 (set_more hns hoS10) (List.nodup_cons.mpr ⟨hns, hsnd⟩) ?_ (hpath.push (f := ⟨W, I2, n.l, 0, k, kt, _⟩) (hpath.fresh hlk) ⟨n, hnn', hkey, rfl⟩ (Nat.zero_le _)) ?_)⟩
            · exact ND.same (hnd12.perm (perm24 _ _ _ _ _ _ _)) rfl
            · intro x hx
              rcases List.mem_cons.mp hx with e | hx
              · rw [e]; exact hkK
              · exact hsk x hx
            · have := unseen_add Eg sn k hns Ks hR.nodup hkK
              rw [remain]; dsimp only; omega
        · rintro f s' ⟨rfl, hI⟩
          dsimp only
          clear hG GT GB GX GP GD F6 N6 hnd6 hon hoS hsnd hsk hpath hkK hlk hcnt hnn
          walk_at "go"
          refine unstop ?_
          obtain ⟨mm, hI3⟩ : ∃ mm, J3 nn mm s' := by
            refine (hJ2 _ _).mp hI _ fun gg h tk m' on oS sn fs e1 e2 hG eJ11 F6 hm1 hm2 hm3 hm4 hm5 N6 hnd6 hon hoS hsnd hsk hpath hle => ?_
            subst eJ11
            exact ⟨fs.length, ((hJ3 _ _ _).mpr fun C9 k9 => k9 gg h tk m' on oS sn fs e1 e2 hG rfl F6 hm1 hm2 hm3 hm4 hm5 N6 hnd6 hon hoS hsnd hsk hpath hle rfl)⟩
          refine while_rule (J3 nn) ?_ mm hI3
          clear hI hI3
          intro mm s' hI
          refine (hJ3 _ _ _).mp hI _ fun gg h tk m' on oS sn fs e1 e2 hG eJ11 F6 hm1 hm2 hm3 hm4 hm5 N6 hnd6 hon hoS hsnd hsk hpath hle hmm => ?_
          subst eJ11
          clear hI
          obtain ⟨GT, GB, GX, GP, GD⟩ := (hGp _).mp hG
          rw [know_eq5 hm1 hm2 hm3 hm4 hm5] at F6
          have hcnt : sn.length ≤ 1300 := Nat.le_trans (seen_len hsnd hsk) hkl
          have hfl : fs.length ≤ 1300 := Nat.le_trans hpath.len hcnt
          have hz1 : (itA fs).size ≤ 1300 := by rw [itA_size]; exact hfl
          have hz2 : (stA fs).size ≤ 1300 := by rw [stA_size]; exact hfl
          walk_at "go"
          refine unstop ?_
          refine wpAny_truthy_list (News.isList N6 (.tail _ (.tail _ (.tail _ (.head _))))) (by omega) ?_
          cases fs with
          | nil =>
            dsimp only [itA, stA] at N6 hnd6 hz1 hz2
            walk_at "go"
            rename Fr gg _ _ _ => F7
            rename News gg _ _ _ => N7
            subst hRR
            refine FPostG.next (h₀ := gg) hG F7 (news' := (dn, on) :: (se, oS) :: (it, listOf #[] e2) :: (st, listOf #[] e1) :: ((S, instObj 169 dS) :: (dS, attrObj w D rdy npv nf t1 t2 t3 t4) :: (D, oD) :: (nodesL ns ++ R))) N7 ?_ ((hJ0 _ _).mpr fun C9 k9 => k9 oS on sn e1 e2 rfl rfl rfl rfl rfl rfl hon hoS hsnd hsk)
            have h' : ND (((dn, on) :: (se, oS) :: (it, listOf #[] e2) :: (st, listOf #[] e1) :: ((S, instObj 169 dS) :: (dS, attrObj w D rdy npv nf t1 t2 t3 t4) :: (D, oD) :: (nodesL ns ++ R))) ++ [(I, oI)]) := hnd6
            exact (h'.perm List.perm_append_comm).ne
          | cons f fs =>
            have htr : (!(stA (f :: fs)).isEmpty) = true := by simp [stA]
            dsimp only [itA, stA] at N6 hnd6 hz1 hz2
            rw [if_pos htr]
            walk_at "go"
            refine unstop ?_
            obtain ⟨n, hnm, hnk, hnl⟩ := hpath.node f (.head _)
            have hsu : StrsAre n.vs.toList (succs Eg f.key) := by have := hR.succ n hnm; rwa [hnk] at this
            have hlm : (f.l, listOf n.vs n.ep) ∈ RR := by
              rw [← hRR, ← hnl]
              exact List.mem_append_left _ (.tail _ (.tail _ (.tail _ (List.mem_append_left _ (List.mem_flatMap.mpr ⟨n, hnm, .tail _ (.tail _ (.head _))⟩)))))
            have hlen : n.vs.size = (succs Eg f.key).length := by have := StrsAre.length hsu; rwa [Array.length_toList] at this
            refine wpAny_Try_except ?_
            walk_at "go"
            refine unstop ?_
            refine item_last (News.isList N6 (.tail _ (.tail _ (.head _)))) (by rw [itA_size]; have := hfl; rw [List.length_cons] at this; omega) ?_
            walk_at "go"
            refine unstop ?_
            have hW := (N6 (f.W, mwObj f.I) (.tail _ (.tail _ (.tail _ (.tail _ (.head _)))))).1
            have hI := (N6 (f.I, liObj f.l f.j) (.tail _ (.tail _ (.tail _ (.tail _ (.tail _ (.head _))))))).1
            have hl : h.IsList f.l n.vs := News.isList N6 (.tail _ (.tail _ (.tail _ (.tail _ (.tail _ (.tail _ (List.mem_append_right _ hlm)))))))
            refine mw_with (I := f.I) hW ?_
            have Np := News.permP N6 (perm15 _ _ _ _ _ (f.I, liObj f.l f.j) (frL fs ++ RR))
            have hndp := hnd6.perm (perm15 _ _ _ _ _ (f.I, liObj f.l f.j) (frL fs ++ RR))
            by_cases hj : f.j < (succs Eg f.key).length
            · have hv : n.vs.toList[f.j]? = some (n.vs.toList[f.j]'(by rw [Array.length_toList]; omega)) := List.getElem?_eq_getElem _
              obtain ⟨u, tu, hvu, hu⟩ := StrsAre.item_str hsu hv
              rw [hvu] at hv
              have hmem : (f.key, u) ∈ Eg := by
                obtain ⟨e, he, e2⟩ := List.mem_map.mp (List.mem_of_getElem? hu)
                obtain ⟨he1, he2⟩ := List.mem_filter.mp he
                have : e = (f.key, u) := by rw [← e2, ← of_decide_eq_true he2]
                rw [← this]; exact he1
              refine mw_item (x := .str u tu) hW hI hl (by rw [← Array.getElem?_toList]; exact hv) ?_
              intro h7 hI7 hs7
              obtain ⟨F7, N7⟩ := head_changed F6 Np hndp.ne hs7 hI7
              have hnd7 : ND ((f.I, liObj f.l (f.j + 1)) :: (dn, on) :: (se, oS) :: (it, listOf ((itA fs).push (.ref f.W)) e2) :: (st, listOf ((stA fs).push (.str f.key f.kt)) e1) :: (f.W, mwObj f.I) :: (frL fs ++ RR)) := hndp.same rfl
              replace N7 := News.permP N7 (perm15 (dn, on) (se, oS) (it, listOf ((itA fs).push (.ref f.W)) e2) (st, listOf ((stA fs).push (.str f.key f.kt)) e1) (f.W, mwObj f.I) (f.I, liObj f.l (f.j + 1)) (frL fs ++ RR)).symm
              replace hnd7 := hnd7.perm (perm15 (dn, on) (se, oS) (it, listOf ((itA fs).push (.ref f.W)) e2) (st, listOf ((stA fs).push (.str f.key f.kt)) e1) (f.W, mwObj f.I) (f.I, liObj f.l (f.j + 1)) (frL fs ++ RR)).symm
              clear F6 N6 Np
              walk_at "go"
              rename Fr gg _ _ _ => F8
              rename News gg _ _ _ => N8
              dsimp only
              refine unstop ⟨unseen Eg sn Ks + remain Eg ({ f with j := f.j + 1 } :: fs), ?_, ((hJ1 _ _).mpr fun C9 k9 => k9 gg _ _ _ on oS sn ({ f with j := f.j + 1 } :: fs) e1 e2 u tu hG rfl F8 rfl rfl rfl rfl rfl rfl N8 hnd7 hon hoS hsnd hsk (hpath.step hj) (hR.tgt _ hmem) ?_ (Nat.le_refl _))⟩
              · rw [remain] at hle ⊢; dsimp only; omega
              · intro f' hf'
                rw [← Option.some.inj hf']
                exact hlev _ hmem
            · have hx : n.vs[f.j]? = none := by rw [Array.getElem?_eq_none_iff]; omega
              refine mw_end rfl hW hI hl hx ?_
              intro hm h8 e hs8 hx8
              obtain ⟨F7, N7⟩ := head_gone F6 Np hndp.ne hs8
              clear F6 N6 Np
              refine caught_new (T' := "StopIteration") hx8 F7 N7 GB XB TB GD GT (by k_is) PyProof.Rows.Boot.«StopIteration» (by decide) stop_isExc stop_notTuple stop_sub ?_
              clear GT GB GX GP GD F7 N7
              intro h9 gg2 GT GF GN GB GX GP GD
              have hnd9 := hndp.tail
              have hnk : ∀ q ∈ kvF fs, q.1 ≠ f.key := hpath.tail.notin (fun f' hf' => (List.pairwise_cons.mp hpath.desc).1 f' (List.mem_of_mem_head? hf'))
              have hfl' : fs.length < 1300 := by rw [List.length_cons] at hfl; omega
              have hzz1 : (itA fs).size < 1300 := by rw [itA_size]; exact hfl'
              have hzz2 : (stA fs).size < 1300 := by rw [stA_size]; exact hfl'
              walk_at "go"
              refine unstop ?_
              refine pop_K GF GN (.tail (Ne.symm (hnd9.ne (st, _) (.tail _ (.tail _ (.head _))))) (.tail (Ne.symm (hnd9.tail.ne (st, _) (.tail _ (.head _)))) (.tail (Ne.symm (hnd9.tail.tail.ne (st, _) (.head _))) (.head hnd9.tail.tail.tail.ne)))) (by omega) ?_
              intro h10 F10 N10
              have hnd10 : ND ((dn, on) :: (se, oS) :: (it, listOf ((itA fs).push (.ref f.W)) e2) :: (st, listOf (stA fs) (e1 + 1)) :: (f.W, mwObj f.I) :: (frL fs ++ RR)) := hnd9.same rfl
              clear GF GN
              walk_at "go"
              refine unstop ?_
              refine kob_del F10 N10 (.head hnd10.ne) hon (strKind_is _ _ _ _) (by rw [kvF, valueAt_last hnk]; rfl) (by rw [kvF_len, sizeLine_eq]; omega) ?_
              intro h11 on11 F11 N11 hon11
              rw [kvF, without_last hnk] at hon11
              have hnd11 : ND ((dn, on11) :: (se, oS) :: (it, listOf ((itA fs).push (.ref f.W)) e2) :: (st, listOf (stA fs) (e1 + 1)) :: (f.W, mwObj f.I) :: (frL fs ++ RR)) := hnd10.same rfl
              clear F10 N10
              walk_at "go"
              refine unstop ?_
              refine pop_K F11 N11 (.tail (Ne.symm (hnd11.ne (it, _) (.tail _ (.head _)))) (.tail (Ne.symm (hnd11.tail.ne (it, _) (.head _))) (.head hnd11.tail.tail.ne))) (by omega) ?_
              intro h12 F12 N12
              clear F11 N11
              walk_at "go"
              dsimp only
              have hnd12 : ND ((dn, on11) :: (se, oS) :: (it, listOf (itA fs) (e2 + 1)) :: (st, listOf (stA fs) (e1 + 1)) :: (f.W, mwObj f.I) :: (frL fs ++ RR)) := hnd11.same rfl
              refine unstop ⟨fs.length, by rw [hmm]; exact Nat.lt_succ_self _, ((hJ3 _ _ _).mpr fun C9 k9 => k9 gg2 h12 _ _ on11 oS sn fs (e1 + 1) (e2 + 1) ((hGp _).mpr ⟨GT, GB, GX, GP, GD⟩) rfl F12 rfl rfl rfl rfl rfl ?_ ?_ hon11 hoS hsnd hsk hpath.tail ?_ rfl)⟩
              · refine News.sub N12 fun q hq => ?_
                rcases List.mem_cons.mp hq with h | hq
                · rw [h]; exact .head _
                rcases List.mem_cons.mp hq with h | hq
                · rw [h]; exact .tail _ (.head _)
                rcases List.mem_cons.mp hq with h | hq
                · rw [h]; exact .tail _ (.tail _ (.head _))
                rcases List.mem_cons.mp hq with h | hq
                · rw [h]; exact .tail _ (.tail _ (.tail _ (.head _)))
                exact .tail _ (.tail _ (.tail _ (.tail _ (.tail _ hq))))
              · exact hnd12.sublist (.cons₂ _ (.cons₂ _ (.cons₂ _ (.cons₂ _ (.cons _ (List.Sublist.refl _))))))
              · rw [remain] at hle; omega
  · intro gg m₁ news₁ h tk hG _ hj F6 N6
    refine (hJ0 _ _).mp hj _ fun oS on sn e1 e2 eJ5 hm1 hm2 hm3 hm4 hm5 hon hoS hsnd hsk => ?_
    subst eJ5
    obtain ⟨GT, GB, GX, GP, GD⟩ := (hGp _).mp hG
    clear F2 N2 X' T' B' D'
    walk_at "go"
    refine hQ9 _ _ ?_
    walk_at "go"
    refine unstop ?_
    rename Fr gg _ _ _ => F7
    rename News gg _ _ _ => N7
    refine leaveS_r F7 N7 GT ?_
    intro h₀' kT kF kN kB kX kP kD
    exact hQ _ _ _ kT kF (News.sub kN fun q hq => .tail _ (.tail _ (.tail _ (.tail _ hq)))) kB kX kP kD
end Mine
end -- S9
section -- C2
open PySem PySem.W PySem.Calls PyProof.Rows PySem.Spec
set_option Elab.async false
set_option maxRecDepth 100000
set_option maxHeartbeats 2000000
namespace Mine
theorem perm_rdy {α : Type} (x y z d : α) (N R : List α) : (x :: y :: z :: (N ++ d :: R)).Perm (x :: y :: z :: d :: (N ++ R)) :=
  .cons _ (.cons _ (.cons _ List.perm_middle))
theorem nodes_inj : ∀ {ns : List Nd}, ND (nodesL ns) → ∀ {n n' : Nd}, n ∈ ns → n' ∈ ns → n.a = n'.a → n = n'
  | [], _, _, _, h, _, _ => nomatch h
  | x :: r, hnd, n, n', hn, hn', e => by
    rw [nodesL_cons] at hnd
    have h1 : ∀ m ∈ r, m.a ≠ x.a := fun m hm => hnd.ne (m.a, nodeObj m.dx m.l m.np m.pt m.key m.kt) (.tail _ (.tail _ (List.mem_flatMap.mpr ⟨m, hm, .head _⟩)))
    have h2 : ND (nodesL r) := hnd.tail.tail.tail
    rcases List.mem_cons.mp hn with e1 | hn
    · rcases List.mem_cons.mp hn' with e2 | hn'
      · rw [e1, e2]
      · exact absurd (by rw [← e1, e]) (h1 n' hn')
    · rcases List.mem_cons.mp hn' with e2 | hn'
      · exact absurd (by rw [e, e2]) (h1 n hn)
      · exact nodes_inj h2 hn hn' e

def zeroP (ns : List Nd) (v : Value) : Bool := ns.any fun n => decide (v = .ref n.a) && decide (n.np = 0)
def zeroF (ns : List Nd) (v y : Value) : Prop := ∃ n ∈ ns, v = .ref n.a ∧ y = .str n.key n.kt
theorem zeroP_node {ns : List Nd} (hnd : ND (nodesL ns)) {n : Nd} (hn : n ∈ ns) : zeroP ns (.ref n.a) = decide (n.np = 0) := by
  unfold zeroP
  by_cases h : n.np = 0
  · rw [decide_eq_true h]
    exact List.any_eq_true.mpr ⟨n, hn, by simp [h]⟩
  · rw [decide_eq_false h]
    rw [List.any_eq_false]
    intro m hm hc
    simp only [Bool.and_eq_true, decide_eq_true_eq, Value.ref.injEq] at hc
    exact h ((nodes_inj hnd hn hm hc.1) ▸ hc.2)
theorem ready_keys {ns : List Nd} (hnd : ND (nodesL ns)) {c : Str → Int} (hc : ∀ n ∈ ns, n.np = c n.key) : ∀ (ms : List Nd), (∀ n ∈ ms, n ∈ ns) → ∀ ys, Paired (zeroF ns) ((ms.map fun n => Value.ref n.a).filter (zeroP ns)) ys → StrsAre ys ((ms.map (·.key)).filter fun k => decide (c k = 0))
  | [], _, ys, h => by cases h; exact .nil
  | x :: r, hs, ys, h => by
    have hx := hs x (.head _)
    rw [List.map_cons, List.filter_cons] at h
    rw [List.map_cons, List.filter_cons]
    rw [zeroP_node hnd hx, hc x hx] at h
    by_cases hz : c x.key = 0
    · rw [if_pos (decide_eq_true hz)] at h ⊢
      cases h with
      | cons h1 h2 =>
        obtain ⟨n, hn, e1, e2⟩ := h1
        have e3 := nodes_inj hnd hx hn (Value.ref.inj e1)
        rw [e2, ← e3]
        exact .cons _ _ (ready_keys hnd hc r (fun n hn => hs n (.tail _ hn)) _ h2)
    · rw [if_neg (by simpa using hz)] at h ⊢
      exact ready_keys hnd hc r (fun n hn => hs n (.tail _ hn)) _ h
theorem vals_are {ns : List Nd} {vs : List Value} (hl : vs.length = (kvsOf ns).length) (h : ∀ (j : Nat) v, vs[j]? = some v → ∃ k, (kvsOf ns)[j]? = some (k, v)) : vs = ns.map fun n => Value.ref n.a := by
  refine List.ext_getElem? fun j => ?_
  cases hv : vs[j]? with
  | none =>
    have := List.getElem?_eq_none_iff.mp hv
    symm; rw [List.getElem?_eq_none_iff]; simp [kvsOf] at hl ⊢; omega
  | some v =>
    obtain ⟨k, hk⟩ := h j v hv
    unfold kvsOf at hk
    rw [List.getElem?_map] at hk ⊢
    cases hn : ns[j]? with
    | none => rw [hn] at hk; cases hk
    | some n => rw [hn] at hk; simp at hk; simp [hk.2]
end Mine
end -- C2
section -- S10
open PySem PySem.W PySem.Calls PyProof.Rows
set_option Elab.async false
set_option maxRecDepth 100000
set_option maxHeartbeats 8000000
namespace Mine
local macro_rules | `(tactic| walk_at "no such key") => `(tactic| skip)
local macro_rules | `(tactic| walk_at "no such key") => `(tactic| skip)
local macro_rules | `(tactic| walk_at "no such key") => `(tactic| skip)
local macro_rules | `(tactic| walk_at "no such key") => `(tactic| skip)
local macro_rules | `(tactic| walk_at "no such key") => `(tactic| skip)
local macro_rules | `(tactic| walk_at "no such key") => `(tactic| skip)
local macro_rules | `(tactic| walk_at "mfill") => `(tactic| (w_top off; (have kf : PySem.Challenge.rw_mr0297_01 = PySem.Challenge.rw_mr0297_01 ∧ hd.heap_39 = hd.heap_39 := (by (k_fill; exact ⟨rfl, rfl⟩))); clear kf))
local macro_rules | `(tactic| walk_at "go") => `(tactic| repeat' (first | walk1 | (dsimp only; walk1)))
local macro_rules | `(tactic| walk_at "execs cons") => `(tactic| refine wpAny_execs_cons ?_)
local macro_rules | `(tactic| walk_at "execs nil") => `(tactic| refine wpAny_execs_nil ?_)
local macro_rules | `(tactic| k_room) => `(tactic| ((try simp only [depth_under_make, depth_under_kw, depth_in1, depth_deeper, depth_caller]); (try dsimp only); unfold recursionLimit; omega))
local macro_rules | `(tactic| k_all) => `(tactic| assumption)
local macro_rules | `(tactic| walk_at "mcode") => `(tactic| (refine' code_def ?k1 ?k2 ?k3 ?k4 ?k5 ?kA ?kF ?kK ?k6 ?k7 ?k8 ?k9 ?kB ?_ ?c2 ?c3 ?c4 ?c5; (case k1 => assumption); (case k2 => assumption); (case k3 => assumption); (case k4 => assumption); (case k5 => assumption); (case kA => exact rfl); (case kF => assumption); (case kK => assumption); (case k6 => k_is); (case k7 => k_is); (case k8 => k_room); (case k9 => exact BindsTo.of_eq rfl); (case kB => exact locs rfl); (case c2 => exact rfl); (case c3 => exact rfl); (case c4 => exact rfl); (case c5 => decide)))
local macro_rules | `(tactic| walk_at "exec If") => `(tactic| refine wpAny_If ?_)
local macro_rules | `(tactic| walk_at "eval Name") => `(tactic| ((show wpAny _ _ (eval _ (compEnv _ _ _)) _ _ _); refine stop ?_))
local macro_rules | `(tactic| walk_at "call ref") => `(tactic| ((show wpAny _ _ (call (Value.ref 159) _ _) _ _ _); refine stop ?_))
local macro_rules | `(tactic| walk_at "LeaveS") => `(tactic| refine stop ?_)
local macro_rules | `(tactic| walk_at "mcodeS") => `(tactic| (refine' code_defS ?k1 ?k2 ?k3 ?k4 ?k5 ?XB ?TB ?D ?T0 ?kA ?k6 ?k7 ?k8 ?k9 ?kB ?_ ?cK ?c2 ?c3 ?c4 ?c5; (case kA => exact rfl); (case k2 => assumption); (case k1 => assumption); (case XB => assumption); (case TB => assumption); (case D => assumption); (case T0 => exact KtsTurn.refl); (case k3 => assumption); (case k4 => assumption); (case k5 => assumption); (case k6 => k_is); (case k7 => k_is); (case k8 => k_room); (case k9 => exact BindsTo.of_eq rfl); (case kB => exact locs rfl); (case cK => assumption); (case c2 => exact rfl); (case c3 => exact rfl); (case c4 => exact rfl); (case c5 => decide)))

theorem prepare_call : ∀ {w : World} {A A₀ : Around} {p : Program} {loose : List Str} {mean : ExcName → Option Value} {mg mb : Str → Option Value} {base h₀ : Heap} {s : Shared}
   {cn : Str} {cs : Scope} {L a : Addr} {ccd : Value} {m : Str → Option Value} {R : List (Addr × Obj)} {outer : List Env} {S dS D : Addr} {npv nf : Value} {t1 t2 t3 t4 : Tok} {oD : Obj} {ns : List Nd} {Eg : List (Str × Str)} {Ks : List Str} {c : Str → Int} {lev : Str → Nat}
   {Q : Value → Shared → Prop} {E : Value → Shared → Prop},
   (hd.heap_39 w.params).In base → Top p loose mean mg mb base → (hd.heap_39 w.params).In h₀ → Top p loose mean mg mb h₀ → Below A₀ base outer h₀ → KtsDicts (outer.filterMap (·.frame)) h₀ → A.frames = some (envOf cn cs L a ccd :: outer) → cs.kind = .function → A.handled = none →
   Fr h₀ L s.heap m → News h₀ L s.heap ((S, instObj 169 dS) :: (dS, attrObj w D .none npv nf t1 t2 t3 t4) :: (D, oD) :: (nodesL (ns) ++ R)) → A.depth < 600 →
   ND ((S, instObj 169 dS) :: (dS, attrObj w D .none npv nf t1 t2 t3 t4) :: (D, oD) :: (nodesL (ns) ++ R)) → oD.IsDictOf (PySem.strKind PG w) (kvsOf ns) → (D == sysModules) = false →
   Run ns Eg Ks c → Ks.length ≤ 1300 → Eg.length ≤ 2600 → (∀ e ∈ Eg, lev e.1 < lev e.2) →
   (∀ h' tk g' rl rv re t2', StrsAre rv.toList (Ks.filter fun k => decide (c k = 0)) → KtsTurn (outer.filterMap (·.frame)) h₀ g' → Fr g' L h' m → News g' L h' ((S, instObj 169 dS) :: (dS, attrObj w D (.ref rl) npv nf t1 t2' t3 t4) :: (D, oD) :: (rl, listOf rv re) :: (nodesL (ns) ++ R)) →
     ND ((S, instObj 169 dS) :: (dS, attrObj w D (.ref rl) npv nf t1 t2' t3 t4) :: (D, oD) :: (rl, listOf rv re) :: (nodesL (ns) ++ R)) → Below A₀ base outer g' → (hd.heap_39 w.params).In g' → Top p loose mean mg mb g' → KtsDicts (outer.filterMap (·.frame)) g' → Q .none { s with heap := h', toks := tk }) →
   wpAny (model PG w) A (call (.ref 124) [.ref S] []) Q E s := by
  walk_at "mfill"
  intro w A A₀ p loose mean mg mb base h₀ s cn cs L a ccd m R outer S dS D npv nf t1 t2 t3 t4 oD ns Eg Ks c lev Q E XB TB X T B hKD hfr hck hh F N hdp hnd hD lo hR hkl hel hlev hQ
  obtain ⟨ah, ad, af, ag, au⟩ := A
  obtain rfl : af = some (envOf cn cs L a ccd :: outer) := hfr
  obtain rfl : ah = none := hh
  dsimp only at hdp
  refine wpAny_call ?_
  walk_at "mcodeS"
  intro g' L' h1 FG' F1 N1 B' X' T' D'
  k_fold
  clear F N X T
  have hA1 := hnd.tail.ne
  have hC1 := neN (hnd.ne (dS, _) (.head _))
  dsimp only at hC1
  walk_at "go"
  rename_i vw h2 F2 N2 l2
  have hndN : ND (nodesL ns) := hnd.tail.tail.tail.sublist (List.sublist_append_left _ _)
  obtain ⟨ep, hdm⟩ := (Heap.dictOf_iff.mpr ⟨oD, (N2 _ (.tail _ (.tail _ (.tail _ (.head _))))).1, hD⟩ : Heap.DictOf (PySem.strKind PG w) _ D (kvsOf ns)).dictAt
  refine wpAny_pyIter_values ⟨_, (N2 _ (.head _)).1, rfl, rfl⟩ hdm ?_
  refine ⟨zeroP ns, zeroF ns, _, _, _, _, _, _, rfl, Walks.dictValues (prog := PG) (w := w) (knd := PySem.strKind PG w) rfl _ D ?_ (kvsOf ns) ep, ?_, ⟨⟨_, Heap.get?_push_size _ rfl, rfl, rfl⟩, hdm.push _⟩, ?_, ⟨?_, ?_⟩, ?_⟩
  · exact Nat.ne_of_lt (Heap.lt_size (N2 _ (.tail _ (.tail _ (.tail _ (.head _))))).1)
  · rw [show (kvsOf ns).length = Ks.length from by rw [← hR.keys]; simp [kvsOf], sizeLine_eq]; omega
  · intro b hb
    rcases List.mem_cons.mp hb with e | hb
    · rw [e]; show _ < (Heap.push _ _).objs.size; rw [Heap.size_push]; exact Nat.lt_succ_self _
    · rw [List.mem_singleton.mp hb]; show _ < (Heap.push _ _).objs.size; rw [Heap.size_push]; exact Nat.lt_succ_of_lt (Heap.lt_size (N2 _ (.tail _ (.tail _ (.tail _ (.head _))))).1)
  · intro C i v s₃ m₃ E' hP hns hmx hkeep htk
    obtain ⟨kk, hkv⟩ := hP
    obtain ⟨n, hn, hne⟩ : ∃ n ∈ ns, (n.key, Value.ref n.a) = (kk, v) := by
      have := List.mem_of_getElem? hkv
      unfold kvsOf at this
      obtain ⟨n, hn, e⟩ := List.mem_map.mp this
      exact ⟨n, hn, e⟩
    obtain ⟨rfl, rfl⟩ := Prod.mk.inj hne
    have hnob : (n.a, nodeObj n.dx n.l n.np n.pt n.key n.kt) ∈ nodesL ns := List.mem_flatMap.mpr ⟨n, hn, .head _⟩
    have hL'o : ∃ o, h2.get? L' = some o := by obtain ⟨o, _, _, ho, _⟩ := F2.ns; exact ⟨o, ho⟩
    have hnob : (n.a, nodeObj n.dx n.l n.np n.pt n.key n.kt) ∈ nodesL ns := List.mem_flatMap.mpr ⟨n, hn, .head _⟩
    have hk2 : ∀ b o, h2.get? b = some o → s₃.heap.get? b = some o := fun b o hb => hkeep b o (by
      have := Heap.lt_size hb
      intro q; rw [List.mem_singleton.mp q] at this; exact Nat.lt_irrefl _ this) (Heap.get?_push_of_some _ hb)
    have F3 : Fr g' L' s₃.heap _ := Fr.stays F2 hk2
    have N3 : News g' L' s₃.heap [(n.a, nodeObj n.dx n.l n.np n.pt n.key n.kt), (n.dx, dictOf [] 0), (n.l, listOf n.vs n.ep)] := News.stays (News.sub N2 fun q hq => .tail _ (.tail _ (.tail _ (.tail _ (List.mem_append_left _ (List.mem_flatMap.mpr ⟨n, hn, hq⟩)))))) hk2
    clear F2 N2
    refine one_test ?_
    walk_at "go"
    refine unstop ?_
    refine comp_name rfl rfl hns hmx ?_
    walk_at "go"
    · rw [zeroP_node hndN hn]; by_cases hz : n.np = 0 <;> simp [hz]
    · exact ⟨_, _, rfl, fun _ _ h => h⟩
  · intro C i v s₃ m₃ E' hP _ hns hmx hkeep htk
    obtain ⟨kk, hkv⟩ := hP
    obtain ⟨n, hn, hne⟩ : ∃ n ∈ ns, (n.key, Value.ref n.a) = (kk, v) := by
      have := List.mem_of_getElem? hkv
      unfold kvsOf at this
      obtain ⟨n, hn, e⟩ := List.mem_map.mp this
      exact ⟨n, hn, e⟩
    obtain ⟨rfl, rfl⟩ := Prod.mk.inj hne
    have hnob : (n.a, nodeObj n.dx n.l n.np n.pt n.key n.kt) ∈ nodesL ns := List.mem_flatMap.mpr ⟨n, hn, .head _⟩
    have hL'o : ∃ o, h2.get? L' = some o := by obtain ⟨o, _, _, ho, _⟩ := F2.ns; exact ⟨o, ho⟩
    have hnob : (n.a, nodeObj n.dx n.l n.np n.pt n.key n.kt) ∈ nodesL ns := List.mem_flatMap.mpr ⟨n, hn, .head _⟩
    have hk2 : ∀ b o, h2.get? b = some o → s₃.heap.get? b = some o := fun b o hb => hkeep b o (by
      have := Heap.lt_size hb
      intro q; rw [List.mem_singleton.mp q] at this; exact Nat.lt_irrefl _ this) (Heap.get?_push_of_some _ hb)
    have F3 : Fr g' L' s₃.heap _ := Fr.stays F2 hk2
    have N3 : News g' L' s₃.heap [(n.a, nodeObj n.dx n.l n.np n.pt n.key n.kt), (n.dx, dictOf [] 0), (n.l, listOf n.vs n.ep)] := News.stays (News.sub N2 fun q hq => .tail _ (.tail _ (.tail _ (.tail _ (List.mem_append_left _ (List.mem_flatMap.mpr ⟨n, hn, hq⟩)))))) hk2
    clear F2 N2
    walk_at "go"
    refine unstop ?_
    refine comp_name rfl rfl hns hmx ?_
    walk_at "go"
    · exact ⟨n, hn, rfl, rfl⟩
    · exact ⟨_, _, rfl, fun _ _ h => h⟩
  · intro DD h5 tk5 ys vs hDD hls hpl hlen hP hpair hkeep
    have hvs := vals_are hlen hP
    subst hvs
    have hst := ready_keys hndN hR.np ns (fun _ h => h) _ hpair
    rw [hR.keys] at hst
    have hysz : ys.size ≤ 1300 := by
      have h1 := StrsAre.length hst
      rw [Array.length_toList] at h1
      have h2 := List.length_filter_le (fun k => decide (c k = 0)) Ks
      omega
    obtain ⟨ey, hey⟩ := hpl
    have hk2 : ∀ b o, h2.get? b = some o → h5.get? b = some o := fun b o hb => hkeep b o (by
      have := Heap.lt_size hb
      intro q; rw [List.mem_singleton.mp q] at this; exact Nat.lt_irrefl _ this) (Heap.get?_push_of_some _ hb)
    have hDD2 : h2.get? DD = none := by
      cases q : h2.get? DD with
      | none => rfl
      | some o => exact (nomatch (Heap.get?_push_of_some _ q).symm.trans hDD)
    have F5 : Fr g' L' h5 _ := Fr.stays F2 hk2
    have hDDL : DD ≠ L' := fun e => by
      obtain ⟨o, _, _, ho, _⟩ := F2.ns
      rw [← e, hDD2] at ho; cases ho
    have hDDg : g'.get? DD = none := by
      cases q : g'.get? DD with
      | none => rfl
      | some o => have := F2.keep _ _ q; rw [hDD2] at this; cases this
    have hDDn : ∀ q ∈ (S, instObj 169 dS) :: (dS, attrObj w D .none npv nf t1 t2 t3 t4) :: (D, oD) :: (nodesL ns ++ R), q.1 ≠ DD := fun q hq e => by
      have := (N2 q (.tail _ hq)).1
      rw [e, hDD2] at this; cases this
    have N5 : News g' L' h5 ((DD, listOf ys ey) :: (S, instObj 169 dS) :: (dS, attrObj w D .none npv nf t1 t2 t3 t4) :: (D, oD) :: (nodesL ns ++ R)) := fun q hq => by
      rcases List.mem_cons.mp hq with e | hq
      · rw [e]; exact ⟨hey, hDDL, hDDg⟩
      · have y := N2 q (.tail _ hq)
        exact ⟨hk2 _ _ y.1, y.2⟩
    have hnd5 : ND ((DD, listOf ys ey) :: (S, instObj 169 dS) :: (dS, attrObj w D .none npv nf t1 t2 t3 t4) :: (D, oD) :: (nodesL ns ++ R)) := hnd.cons hDDn
    have hC2 := neN (Ne.symm (hnd5.ne (dS, _) (.tail _ (.head _))))
    have hC3 := neN (Ne.symm (hnd5.ne (S, _) (.head _)))
    have hC4 := neN (Ne.symm hC1)
    have hC5 := neN (Ne.symm hC2)
    have hC6 := neN (Ne.symm hC3)
    dsimp only at hC2 hC3 hC4 hC5 hC6
    clear F2 N2
    walk_at "go"
    rename Fr g' _ _ _ => F6
    rename News g' _ _ _ => N6
    refine unstop ?_
    replace N6 := News.permP N6 (unfront _ _ _ _ _ _)
    have hnd6 := hnd5.perm (unfront _ _ _ _ _ _)
    refine cycle_call XB TB X' T' B' D' rfl rfl rfl F6 N6 (by show ad + 1 < 700; omega) (ND.same hnd6 rfl) hD lo hR hkl hel hlev ?_
    intro h7 tk7 gg GT F7 N7 GB GX GP GD
    clear F6 N6 X' T' B' D'
    walk_at "go"
    rename Fr gg _ _ _ => F8
    rename News gg _ _ _ => N8
    refine unstop ?_
    refine leaveS_r F8 N8 GT ?_
    intro h₀' kT kF kN kB kX kP kD
    have hnd8 := hnd6.perm (perm_rdy _ _ _ _ _ _)
    refine hQ _ _ _ DD ys ey t2 hst kT kF (News.permP kN ?_) (ND.same hnd8 rfl) kB kX kP kD
    exact perm_rdy _ _ _ _ _ _
end Mine
end -- S10
section -- S11
open PySem PySem.W PySem.Calls PyProof.Rows
set_option Elab.async false
set_option maxRecDepth 100000
set_option maxHeartbeats 8000000
namespace Mine
local macro_rules | `(tactic| walk_at "no such key") => `(tactic| skip)
local macro_rules | `(tactic| walk_at "mfill") => `(tactic| (w_top off; (have kf : PySem.Challenge.rw_mr0297_01 = PySem.Challenge.rw_mr0297_01 ∧ hd.heap_39 = hd.heap_39 := (by (k_fill; exact ⟨rfl, rfl⟩))); clear kf))
local macro_rules | `(tactic| walk_at "go") => `(tactic| repeat' (first | walk1 | (dsimp only; walk1)))
local macro_rules | `(tactic| walk_at "execs cons") => `(tactic| refine wpAny_execs_cons ?_)
local macro_rules | `(tactic| walk_at "execs nil") => `(tactic| refine wpAny_execs_nil ?_)
local macro_rules | `(tactic| k_room) => `(tactic| ((try simp only [depth_under_make, depth_under_kw, depth_in1, depth_deeper, depth_caller]); (try dsimp only); unfold recursionLimit; omega))
local macro_rules | `(tactic| k_all) => `(tactic| assumption)
local macro_rules | `(tactic| walk_at "mcode") => `(tactic| (refine' code_def ?k1 ?k2 ?k3 ?k4 ?k5 ?kA ?kF ?kK ?k6 ?k7 ?k8 ?k9 ?kB ?_ ?c2 ?c3 ?c4 ?c5; (case k1 => assumption); (case k2 => assumption); (case k3 => assumption); (case k4 => assumption); (case k5 => assumption); (case kA => exact rfl); (case kF => assumption); (case kK => assumption); (case k6 => k_is); (case k7 => k_is); (case k8 => k_room); (case k9 => exact BindsTo.of_eq rfl); (case kB => exact locs rfl); (case c2 => exact rfl); (case c3 => exact rfl); (case c4 => exact rfl); (case c5 => decide)))
local macro_rules | `(tactic| walk_at "exec If") => `(tactic| refine wpAny_If ?_)
local macro_rules | `(tactic| walk_at "mcodeS") => `(tactic| (refine' code_defS ?k1 ?k2 ?k3 ?k4 ?k5 ?XB ?TB ?D ?T0 ?kA ?k6 ?k7 ?k8 ?k9 ?kB ?_ ?cK ?c2 ?c3 ?c4 ?c5; (case kA => exact rfl); (case k2 => assumption); (case k1 => assumption); (case XB => assumption); (case TB => assumption); (case D => assumption); (case T0 => exact KtsTurn.refl); (case k3 => assumption); (case k4 => assumption); (case k5 => assumption); (case k6 => k_is); (case k7 => k_is); (case k8 => k_room); (case k9 => exact BindsTo.of_eq rfl); (case kB => exact locs rfl); (case cK => assumption); (case c2 => exact rfl); (case c3 => exact rfl); (case c4 => exact rfl); (case c5 => decide)))

local macro_rules | `(tactic| walk_at "exec While Compare cons nil") => `(tactic| refine stop ?_)
local macro_rules | `(tactic| walk_at "call ref") => `(tactic| first | ((show wpAny _ _ (call (Value.ref 124) _ _) _ _ _); refine stop ?_) | ((show wpAny _ _ (call (Value.ref 138) _ _) _ _ _); refine stop ?_) | ((show wpAny _ _ (call (Value.ref 131) _ _) _ _ _); refine stop ?_) | ((show wpAny _ _ (call (Value.ref 152) _ _) _ _ _); refine stop ?_))
local macro_rules | `(tactic| walk_at "call builtin:sorted") => `(tactic| refine stop ?_)
local macro_rules | `(tactic| walk_at "compareOp Eq ref ref") => `(tactic| refine stop ?_)
local macro_rules | `(tactic| walk_at "compareOp NotEq ref ref") => `(tactic| refine stop ?_)
local macro_rules | `(tactic| walk_at "callWith ref") => `(tactic| ((show wpAny _ _ (callWith _ _ [] (backTo _ (starEach [Expr.Starred _ _] _)) []) _ _ _); refine stop ?_))
local macro_rules | `(tactic| walk_at "eval Call Attribute") => `(tactic| ((show wpAny _ _ (eval (Expr.Call (Expr.Attribute _ _ _) [Expr.Starred _ _] _ _) _) _ _ _); refine stop ?_))
local macro_rules | `(tactic| walk_at "LeaveS0") => `(tactic| refine stop ?_)
local macro_rules | `(tactic| walk_at "menterS") => `(tactic| (refine' code_defS0 ?k1 ?k2 ?k3 ?k4 ?k5 ?kA ?k6 ?k7 ?k8 ?k9 ?kB ?_ ?cK ?c2 ?c3 ?c4 ?c5; (case kA => exact rfl); (case k2 => assumption); (case k1 => assumption); (case k3 => assumption); (case k4 => assumption); (case k5 => assumption); (case k6 => k_is); (case k7 => k_is); (case k8 => k_room); (case k9 => exact BindsTo.of_eq rfl); (case kB => exact locs rfl); (case cK => assumption); (case c2 => exact rfl); (case c3 => exact rfl); (case c4 => exact rfl); (case c5 => decide)))
theorem perm_rr {α : Type} (t x y z u r : α) (N T : List α) : (t :: x :: y :: z :: u :: (N ++ r :: T)).Perm (r :: t :: x :: y :: z :: u :: (N ++ T)) :=
  List.perm_middle (l₁ := t :: x :: y :: z :: u :: N)
theorem perm41 {α : Type} (x y z u t : α) (T : List α) : (x :: y :: z :: u :: t :: T).Perm (t :: x :: y :: z :: u :: T) :=
  List.perm_middle (l₁ := [x, y, z, u])
theorem perm_in {α : Type} (a r : α) (X N led R : List α) : (a :: r :: (X ++ (N ++ (led ++ R)))).Perm (X ++ (N ++ r :: ((led ++ [a]) ++ R))) := by
  have h1 : (X ++ (N ++ r :: ((led ++ [a]) ++ R))).Perm (r :: (X ++ (N ++ ((led ++ [a]) ++ R)))) := by
    rw [← List.append_assoc, ← List.append_assoc X N]; exact List.perm_middle
  have h2 : (X ++ (N ++ ((led ++ [a]) ++ R))).Perm (a :: (X ++ (N ++ (led ++ R)))) := by
    have : X ++ (N ++ ((led ++ [a]) ++ R)) = (X ++ N ++ led) ++ a :: R := by simp
    rw [this]
    have e2 : a :: (X ++ (N ++ (led ++ R))) = a :: ((X ++ N ++ led) ++ R) := by simp
    rw [e2]; exact List.perm_middle
  exact ((List.Perm.swap r a _).trans (List.Perm.cons r h2.symm)).trans h1.symm

theorem rounds_call : ∀ {w : World} {A A₀ : Around} {p : Program} {loose : List Str} {mean : ExcName → Option Value} {mg mb : Str → Option Value} {base h₀ : Heap} {s : Shared}
   {cn : Str} {cs : Scope} {L a : Addr} {ccd : Value} {m : Str → Option Value} {R : List (Addr × Obj)} {S dS D : Addr} {tp tf : Tok} {t1 t2 t3 t4 : Tok} {oD : Obj} {ns : List Nd} {Eg : List (Str × Str)} {Ks : List Str} {c : Str → Int} {lev : Str → Nat}
   {Q : Value → Shared → Prop} {E : Value → Shared → Prop},
   (hd.heap_39 w.params).In base → Top p loose mean mg mb base → (hd.heap_39 w.params).In h₀ → Top p loose mean mg mb h₀ → Below A₀ base [] h₀ → A.frames = some [envOf cn cs L a ccd] → cs.kind = .function → A.handled = none →
   Fr h₀ L s.heap m → News h₀ L s.heap ((S, instObj 169 dS) :: (dS, attrObj w D .none (.int 0 tp) (.int 0 tf) t1 t2 t3 t4) :: (D, oD) :: (nodesL (ns) ++ R)) → A.depth < 500 → A.units ≤ 100 → (∀ x ∈ Ks, PyData.strOk x = true) →
   ND ((S, instObj 169 dS) :: (dS, attrObj w D .none (.int 0 tp) (.int 0 tf) t1 t2 t3 t4) :: (D, oD) :: (nodesL (ns) ++ R)) → oD.IsDictOf (PySem.strKind PG w) (kvsOf ns) → (D == sysModules) = false →
   Run ns Eg Ks c → Ks.length < 64 → Eg.length ≤ 2600 → Lv Eg Ks lev → (∀ x ∈ Ks, c x = ((Eg.countP fun e => decide (e.2 = x) : Nat) : Int)) →
   (∀ h' tk rr items e led rows, RowsAre items led rows → RowsOk Ks lev rows → Fr h₀ L h' m → News h₀ L h' ((rr, listOf items.toArray e) :: (led ++ R)) → ND ((rr, listOf items.toArray e) :: (led ++ R)) → Q (.ref rr) { s with heap := h', toks := tk }) →
   wpAny (model PG w) A (call (.ref 225) [.ref S] []) Q E s := by
  walk_at "mfill"
  intro w A A₀ p loose mean mg mb base h₀ s cn cs L a ccd m R S dS D tp tf t1 t2 t3 t4 oD ns Eg Ks c lev Q E XB TB X T B hfr hck hh F N hdp hun hok hnd hD lo hR hkl hel hLv hcc hQ
  obtain ⟨ah, ad, af, ag, au⟩ := A
  obtain rfl : af = some [envOf cn cs L a ccd] := hfr
  obtain rfl : ah = none := hh
  dsimp only at hdp hun
  refine wpAny_call ?_
  walk_at "menterS"
  intro g' L' h1 FG' F1 N1 B' X' T' D'
  k_fold
  clear F N X T
  refine hideQ fun Q9 hQ9 => ?_
  walk_at "go"
  refine unstop ?_
  refine prepare_call XB TB X' T' B' D' rfl rfl rfl F1 N1 (by show ad + 1 < 600; omega) hnd hD lo hR (by omega) hel hLv.up ?_
  intro h2 tk2 gg rl rv re t2' hst GT F2 N2 hnd2 GB GX GP GD
  clear F1 N1 X' T' B' D'
  walk_at "go"
  rename_i rr h3 l3 h4 F4 N4
  refine unstop ?_
  obtain ⟨M, hM⟩ := max_lev lev Ks
  have hnd4 : ND ((rr, listOf #[] 0) :: (S, instObj 169 dS) :: (dS, attrObj w D (.ref rl) (.int 0 tp) (.int 0 tf) t1 t2' t3 t4) :: (D, oD) :: (rl, listOf rv re) :: (nodesL ns ++ R)) := ND.consLt hnd2 (allLt_get (l := (S, instObj 169 dS) :: (dS, attrObj w D (.ref rl) (.int 0 tp) (.int 0 tf) t1 t2' t3 t4) :: (D, oD) :: (rl, listOf rv re) :: (nodesL ns ++ R)) l3)
  replace N4 := News.permP N4 (unfront4 _ _ _ _ _ _ _)
  replace hnd4 := hnd4.perm (unfront4 _ _ _ _ _ _ _)
  obtain ⟨J, hJ⟩ : ∃ J : Nat → Shared → Prop, ∀ nn s', J nn s' ↔ ∀ C9 : Prop, (∀ (h' : Heap) (tk : Nat) (m' : Str → Option Value) (ns : List Nd) (rv : Array Value) (re : Nat) (c : Str → Int) (rs : List Str) (items : List Value) (e : Nat) (led : List (Addr × Obj)) (rows : List (List Str)) (k : Int) (ta tb : Tok), s' = { s with heap := h', toks := tk } → Fr gg L' h' m' → m' (Str.ofString "sorter") = some (.ref S) → m' (Str.ofString "rounds") = some (.ref rr) → News gg L' h' ((S, instObj 169 dS) :: (dS, attrObj w D (.ref rl) (.int k ta) (.int k tb) t1 t2' t3 t4) :: (D, oD) :: (rl, listOf rv re) :: (nodesL ns ++ (rr, listOf items.toArray e) :: (led ++ R))) → ND ((S, instObj 169 dS) :: (dS, attrObj w D (.ref rl) (.int k ta) (.int k tb) t1 t2' t3 t4) :: (D, oD) :: (rl, listOf rv re) :: (nodesL ns ++ (rr, listOf items.toArray e) :: (led ++ R))) → oD.IsDictOf (PySem.strKind PG w) (kvsOf ns) → Run ns Eg Ks c → StrsAre rv.toList rs → RSt Eg Ks lev rows.length c rs → RowsAre items led rows → (∀ (r : Nat) ss, rows[r]? = some ss → ss.Nodup ∧ (∀ x, x ∈ ss ↔ x ∈ Ks ∧ lev x = r) ∧ sortedS ss = true) → (∀ r < rows.length, ∃ y ∈ Ks, lev y = r) → nn = M + 1 - rows.length → C9) → C9 := ⟨_, fun _ _ => Iff.rfl⟩
  have hgo : ∀ {rs : List Str} {r : Nat} {c : Str → Int} {rv : Array Value}, RSt Eg Ks lev r c rs → StrsAre rv.toList rs → rs.length < 64 ∧ rv.size < 64 := by
    intro rs r c rv h1 h2
    have h3 := StrsAre.length h2
    rw [Array.length_toList] at h3
    have h4 := List.Nodup.length_le_of_subset h1.nodup (l₂ := Ks) (fun x hx => ((h1.mem x).mp hx).1)
    omega
  refine while_rule J ?_ (M + 1) ((hJ _ _).mpr fun C9 k9 => k9 _ _ _ ns rv re c _ ([]) 0 ([]) ([]) 0 tp tf rfl F4 rfl rfl N4 hnd4 hD hR hst (RSt.start hLv hcc) .nil ?_ ?_ rfl)
  rotate_left
  · intro r ss h; simp at h
  · intro r h; exact absurd h (Nat.not_lt_zero _)
  clear F4 N4 hnd2 hnd4 hD hR hst hnd
  intro nn s' hI
  refine (hJ _ _).mp hI _ fun h tk m' ns rv re c rs items e led rows k ta tb eJ15 F5 hm1 hm2 N5 hnd5 hD hR hrs hSt hRw hrow htight hnn => ?_
  subst eJ15
  clear hI
  obtain ⟨hz1, hz2⟩ := hgo hSt hrs
  rw [know_eq2 hm1 hm2] at F5
  walk_at "go"
  refine unstop ?_
  refine active_call GX GP GB rfl rfl rfl F5 N5 (by show ad + 1 < 800; omega) (by omega) ?_
  intro h6 tk6 F6 N6
  clear F5 N5
  walk_at "go"
  · rename_i hact
    have hne : rs ≠ [] := by
      intro e; subst e
      have := StrsAre.length hrs
      have hv : rv = #[] := by
        have : rv.size = 0 := by rw [← Array.length_toList]; simpa using this
        exact Array.eq_empty_of_size_eq_zero this
      subst hv
      simp at hact
    refine unstop ?_
    refine ready_call GX GP GB rfl rfl rfl rfl F6 N6 (by show ad + 1 < 800; omega) hnd5 hD lo hR hrs (fun x hx => ((hSt.mem x).mp hx).1) (by omega) ?_
    intro h7 tk7 tpl ns7 ta7 re7 F7 N7 hnd7 hD7 hR7
    clear F6 N6
    walk_at "go"
    rename_i h8 dt h9 F9 N9 l9
    refine unstop ?_
    refine eq_tup0 (vs := rv.toList) ⟨_, (N9 _ (.tail _ (.head _))).1, rfl, _, rfl⟩ hrs (fun x hx => hok x ((hSt.mem x).mp hx).1) ⟨_, (N9 _ (.head _)).1, rfl, _, rfl⟩ (by show au + 3 + 64 < cLine; unfold cLine; omega) ?_
    rw [show rs.isEmpty = false from by cases rs with | nil => exact absurd rfl hne | cons _ _ => rfl]
    walk_at "go"
    refine unstop ?_
    replace N9 : News gg L' h9 ((S, instObj 169 dS) :: (dS, attrObj w D (.ref rl) (.int (k + rs.length) ta7) (.int k tb) t1 t2' t3 t4) :: (D, oD) :: (rl, listOf #[] re7) :: ((tpl, (⟨.type "tuple", none, .seq rv.toList.toArray, #[]⟩ : Obj)) :: (nodesL ns7 ++ (rr, listOf items.toArray e) :: (led ++ R)))) := News.sub N9 fun q hq => by
      refine .tail _ ?_
      rcases List.mem_cons.mp hq with h | hq
      · rw [h]; exact .tail _ (.head _)
      rcases List.mem_cons.mp hq with h | hq
      · rw [h]; exact .tail _ (.tail _ (.head _))
      rcases List.mem_cons.mp hq with h | hq
      · rw [h]; exact .tail _ (.tail _ (.tail _ (.head _)))
      rcases List.mem_cons.mp hq with h | hq
      · rw [h]; exact .tail _ (.tail _ (.tail _ (.tail _ (.head _))))
      rcases List.mem_cons.mp hq with h | hq
      · rw [h]; exact .head _
      exact .tail _ (.tail _ (.tail _ (.tail _ (.tail _ hq))))
    refine active_call GX GP GB rfl rfl rfl F9 N9 (by show ad + 1 < 800; omega) (by simp) ?_
    intro h10 tk10 F10 N10
    rw [show (decide (k < k + (rs.length : Int)) || !(#[] : Array Value).isEmpty) = true from by
      have : 0 < rs.length := List.length_pos_iff.mpr hne
      simp; omega]
    clear F9 N9
    have hnd10 : ND ((rr, listOf items.toArray e) :: (tpl, (⟨.type "tuple", none, .seq rv.toList.toArray, #[]⟩ : Obj)) :: (S, instObj 169 dS) :: (dS, attrObj w D (.ref rl) (.int (k + rs.length) ta7) (.int k tb) t1 t2' t3 t4) :: (D, oD) :: (rl, listOf #[] re7) :: (nodesL ns7 ++ (led ++ R))) := hnd7.perm (perm_rr _ _ _ _ _ _ _ _)
    replace N10 : News gg L' h10 ((rr, listOf items.toArray e) :: (tpl, (⟨.type "tuple", none, .seq rv.toList.toArray, #[]⟩ : Obj)) :: (S, instObj 169 dS) :: (dS, attrObj w D (.ref rl) (.int (k + rs.length) ta7) (.int k tb) t1 t2' t3 t4) :: (D, oD) :: (rl, listOf #[] re7) :: (nodesL ns7 ++ (led ++ R))) := News.permP N10 ((perm41 _ _ _ _ _ _).trans (perm_rr _ _ _ _ _ _ _ _))
    have hA1 := hnd10.ne
    have hitz : items.length < 10000 := by
      rw [hRw.len]
      have h1 : (List.range rows.length).length ≤ (Ks.map lev).length := List.Nodup.length_le_of_subset List.nodup_range fun r hr => by
        obtain ⟨y, hy, e⟩ := htight r (List.mem_range.mp hr)
        exact List.mem_map.mpr ⟨y, hy, e⟩
      rw [List.length_range, List.length_map] at h1
      omega
    walk_at "go"
    refine unstop ?_
    rename Fr gg _ _ _ => F11
    rename News gg _ _ _ => N11
    refine sorted_tup (vs := rv.toList) F11 N11 ⟨_, (N11 _ (.tail _ (.head _))).1, rfl, _, rfl⟩ hrs (by rw [Array.length_toList]; omega) ?_
    intro sa h12 vs12 ss12 e12 F12 N12 l12 hss hperm hsorted
    have hnd12 : ND ((sa, listOf vs12.toArray e12) :: (rr, listOf items.toArray e) :: (tpl, (⟨.type "tuple", none, .seq rv.toList.toArray, #[]⟩ : Obj)) :: (S, instObj 169 dS) :: (dS, attrObj w D (.ref rl) (.int (k + rs.length) ta7) (.int k tb) t1 t2' t3 t4) :: (D, oD) :: (rl, listOf #[] re7) :: (nodesL ns7 ++ (led ++ R))) := hnd10.consLt l12
    have hC1 := neN (hnd12.ne (rr, _) (.head _))
    dsimp only at hC1
    clear F11 N11
    walk_at "go"
    refine unstop ?_
    refine StarCall_ ?_
    have hC2 := neN (Ne.symm (hnd12.tail.ne (S, _) (.tail _ (.head _))))
    dsimp only at hC2
    walk_at "go"
    rename_i h13 F13 N13 q h14 F14 N14 l14
    refine unstop ?_
    refine callWith_MS (K := hd.heap_39 w.params) (f := 152) (self := .ref S) (by k_is) ?_
    walk_at "go"
    refine star_seq F14 N14 (.tail _ (.tail _ (.tail _ (.head _)))) rfl rfl (.inr rfl) rfl (by rw [sizeLine_eq]; simp; omega) ?_
    intro h15 F15 N15
    refine ⟨⟨(N15 _ (.head _)).1, GX.keeps F15.keep⟩, ?_⟩
    refine call_bound (f := 152) (self := .ref S) (N15 _ (.head _)).1 ?_
    clear F14 N14
    rw [List.push_toArray] at N15
    have hnd15 : ND ((S, instObj 169 dS) :: (dS, attrObj w D (.ref rl) (.int (k + rs.length) ta7) (.int k tb) t1 t2' t3 t4) :: (D, oD) :: (rl, listOf #[] re7) :: (nodesL ns7 ++ (rr, listOf (items ++ [Value.ref sa]).toArray (e + 1)) :: ((led ++ [(sa, listOf vs12.toArray e12)]) ++ R))) := by
      have h1 : ND ((sa, listOf vs12.toArray e12) :: (rr, listOf (items ++ [Value.ref sa]).toArray (e + 1)) :: (S, instObj 169 dS) :: (dS, attrObj w D (.ref rl) (.int (k + rs.length) ta7) (.int k tb) t1 t2' t3 t4) :: (D, oD) :: (rl, listOf #[] re7) :: (nodesL ns7 ++ (led ++ R))) := ND.same (hnd12.sublist (.cons₂ _ (.cons₂ _ (.cons _ (List.Sublist.refl _))))) rfl
      exact h1.perm (perm_in _ _ [_, _, _, _] _ _ _)
    replace N15 : News gg L' h15 ((S, instObj 169 dS) :: (dS, attrObj w D (.ref rl) (.int (k + rs.length) ta7) (.int k tb) t1 t2' t3 t4) :: (D, oD) :: (rl, listOf #[] re7) :: (nodesL ns7 ++ (rr, listOf (items ++ [Value.ref sa]).toArray (e + 1)) :: ((led ++ [(sa, listOf vs12.toArray e12)]) ++ R))) := by
      have h1 : News gg L' h15 ((sa, listOf vs12.toArray e12) :: (rr, listOf (items ++ [Value.ref sa]).toArray (e + 1)) :: (S, instObj 169 dS) :: (dS, attrObj w D (.ref rl) (.int (k + rs.length) ta7) (.int k tb) t1 t2' t3 t4) :: (D, oD) :: (rl, listOf #[] re7) :: (nodesL ns7 ++ (led ++ R))) := News.sub N15 fun q hq => by
        rcases List.mem_cons.mp hq with h | hq
        · rw [h]; exact .tail _ (.head _)
        rcases List.mem_cons.mp hq with h | hq
        · rw [h]; exact .tail _ (.tail _ (.head _))
        exact .tail _ (.tail _ (.tail _ (.tail _ hq)))
      exact News.permP h1 (perm_in _ _ [_, _, _, _] _ _ _)
    obtain ⟨hSt', hpre⟩ := hSt.step hLv
    refine done_call GX GP GB rfl rfl rfl rfl F15 N15 (by show ad + 1 < 800; omega) hnd15 hD7 lo hR7 (.nil) hrs (by omega) hel (by simp) hpre ?_
    intro h16 tk16 ns16 tb16 rv16 re16 F16 N16 hnd16 hD16 hR16 hrs16
    clear F15 N15
    walk_at "go"
    dsimp only
    obtain ⟨x0, hx0⟩ := List.exists_mem_of_ne_nil rs hne
    have hx1 := (hSt.mem x0).mp hx0
    have hx2 := hM x0 hx1.1
    refine unstop ⟨M + 1 - (rows ++ [ss12]).length, by rw [List.length_append]; show M + 1 - (rows.length + 1) < nn; omega, ((hJ _ _).mpr fun C9 k9 => k9 h16 tk16 _ ns16 rv16 re16 _ _ (items ++ [Value.ref sa]) (e + 1) (led ++ [(sa, listOf vs12.toArray e12)]) (rows ++ [ss12]) (k + rs.length) ta7 tb16 rfl F16 rfl rfl N16 hnd16 hD16 hR16 hrs16 (by rw [List.length_append]; exact hSt') (hRw.snoc hss) ?_ ?_ rfl)⟩
    · intro r ss hr
      by_cases hlt : r < rows.length
      · rw [List.getElem?_append_left hlt] at hr; exact hrow r ss hr
      · rw [List.getElem?_append_right (by omega)] at hr
        have hr0 : r - rows.length = 0 := by
          have := (List.getElem?_eq_some_iff.mp hr).1
          simp at this; omega
        rw [hr0] at hr
        obtain rfl : ss12 = ss := by simpa using hr
        have hre : r = rows.length := by omega
        refine ⟨hperm.symm.nodup_iff.mp hSt.nodup, fun x => ?_, hsorted⟩
        rw [hperm.mem_iff, hSt.mem, hre]
    · intro r hr
      rw [List.length_append] at hr
      by_cases hlt : r < rows.length
      · exact htight r hlt
      · exact ⟨x0, hx1.1, by have : r < rows.length + 1 := hr; omega⟩
  · rename_i hact
    have hv : rv = #[] := by
      by_cases h0 : rv.isEmpty = true
      · exact Array.isEmpty_iff.mp h0
      · exact absurd hact (by simp at h0 ⊢; exact h0)
    subst hv
    have hrs0 : rs = [] := by cases hrs; rfl
    subst hrs0
    refine unstop ?_
    refine active_call GX GP GB rfl rfl rfl F6 N6 (by show ad + 1 < 800; omega) (by simp) ?_
    intro h7 tk7 F7 N7
    rw [show (decide (k < k) || !(#[] : Array Value).isEmpty) = false from by simp]
    clear F6 N6
    walk_at "go"
    refine unstop ?_
    refine ready_call GX GP GB rfl rfl rfl rfl F7 N7 (by show ad + 1 < 800; omega) hnd5 hD lo hR hrs (fun x hx => (nomatch hx)) (by simp) ?_
    intro h8 tk8 tpl ns8 ta8 re8 F8 N8 hnd8 hD8 hR8
    clear F7 N7
    walk_at "go"
    rename_i dt h9 F9 N9 l9
    refine unstop ?_
    refine ne_tup0 (vs := []) (ss := []) ⟨_, (N9 _ (.tail _ (.head _))).1, rfl, _, rfl⟩ .nil (fun x hx => (nomatch hx)) ⟨_, (N9 _ (.head _)).1, rfl, _, rfl⟩ (by show au + 3 + 64 < cLine; unfold cLine; omega) ?_
    rw [show (!([] : List Str).isEmpty) = false from rfl]
    walk_at "go"
    refine hQ9 _ _ ?_
    walk_at "go"
    refine unstop ?_
    rename Fr gg _ _ _ => F10
    rename News gg _ _ _ => N10
    refine leaveS0_ F10 N10 GT ?_
    intro kF kN
    refine hQ _ _ rr items e led rows hRw ⟨hrow, ?_, htight⟩ kF (News.sub kN fun q hq => ?_) ?_
    · intro x hx
      by_cases hlt : lev x < rows.length
      · exact hlt
      · exfalso
        obtain ⟨y, hy, e1⟩ := hLv.below (lev x) x hx rfl rows.length (by omega)
        exact (nomatch (hSt.mem y).mpr ⟨hy, e1⟩)
    · exact .tail _ (.tail _ (.tail _ (.tail _ (.tail _ (.tail _ (List.mem_append_right _ hq))))))
    · exact hnd5.sublist (.cons _ (.cons _ (.cons _ (.cons _ (List.sublist_append_right _ _)))))
end Mine
end -- S11
section -- S12
open PySem PySem.W PySem.Calls PyProof.Rows
set_option Elab.async false
set_option maxRecDepth 100000
set_option maxHeartbeats 8000000
namespace Mine
local macro_rules | `(tactic| walk_at "no such key") => `(tactic| skip)
local macro_rules | `(tactic| walk_at "no such key") => `(tactic| skip)
local macro_rules | `(tactic| walk_at "no such key") => `(tactic| skip)
local macro_rules | `(tactic| walk_at "mfill") => `(tactic| (w_top off; (have kf : PySem.Challenge.rw_mr0297_01 = PySem.Challenge.rw_mr0297_01 ∧ hd.heap_39 = hd.heap_39 := (by (k_fill; exact ⟨rfl, rfl⟩))); clear kf))
local macro_rules | `(tactic| walk_at "go") => `(tactic| repeat' (first | walk1 | (dsimp only; walk1)))
local macro_rules | `(tactic| walk_at "execs cons") => `(tactic| refine wpAny_execs_cons ?_)
local macro_rules | `(tactic| walk_at "execs nil") => `(tactic| refine wpAny_execs_nil ?_)
local macro_rules | `(tactic| k_room) => `(tactic| ((try simp only [depth_under_make, depth_under_kw, depth_in1, depth_deeper, depth_caller]); (try dsimp only); unfold recursionLimit; omega))
local macro_rules | `(tactic| k_all) => `(tactic| assumption)
local macro_rules | `(tactic| walk_at "mcode") => `(tactic| (refine' code_def ?k1 ?k2 ?k3 ?k4 ?k5 ?kA ?kF ?kK ?k6 ?k7 ?k8 ?k9 ?kB ?_ ?c2 ?c3 ?c4 ?c5; (case k1 => assumption); (case k2 => assumption); (case k3 => assumption); (case k4 => assumption); (case k5 => assumption); (case kA => exact rfl); (case kF => assumption); (case kK => assumption); (case k6 => k_is); (case k7 => k_is); (case k8 => k_room); (case k9 => exact BindsTo.of_eq rfl); (case kB => exact locs rfl); (case c2 => exact rfl); (case c3 => exact rfl); (case c4 => exact rfl); (case c5 => decide)))
local macro_rules | `(tactic| walk_at "exec If") => `(tactic| refine wpAny_If ?_)
local macro_rules | `(tactic| walk_at "mcodeS") => `(tactic| (refine' code_defS ?k1 ?k2 ?k3 ?k4 ?k5 ?XB ?TB ?D ?T0 ?kA ?k6 ?k7 ?k8 ?k9 ?kB ?_ ?cK ?c2 ?c3 ?c4 ?c5; (case kA => exact rfl); (case k2 => assumption); (case k1 => assumption); (case XB => assumption); (case TB => assumption); (case D => assumption); (case T0 => exact KtsTurn.refl); (case k3 => assumption); (case k4 => assumption); (case k5 => assumption); (case k6 => k_is); (case k7 => k_is); (case k8 => k_room); (case k9 => exact BindsTo.of_eq rfl); (case kB => exact locs rfl); (case cK => assumption); (case c2 => exact rfl); (case c3 => exact rfl); (case c4 => exact rfl); (case c5 => decide)))

local macro_rules | `(tactic| walk_at "exec For Name Call cons nil") => `(tactic| refine stop ?_)
local macro_rules | `(tactic| walk_at "call builtin:sorted") => `(tactic| refine stop ?_)
local macro_rules | `(tactic| walk_at "call builtin:max") => `(tactic| refine stop ?_)
local macro_rules | `(tactic| walk_at "pyIter ref") => `(tactic| refine stop ?_)
local macro_rules | `(tactic| walk_at "eval ListComp") => `(tactic| refine stop ?_)
local macro_rules | `(tactic| walk_at "eval Name") => `(tactic| ((show wpAny _ _ (eval _ (compEnvC _ _ _ _)) _ _ _); refine stop ?_))
local macro_rules | `(tactic| walk_at "subscriptTail Name Name ref str") => `(tactic| refine stop ?_)
local macro_rules | `(tactic| walk_at "LeaveK") => `(tactic| refine stop ?_)
theorem perm_by {α : Type} (r a x y : α) (led T : List α) : (r :: a :: x :: y :: (led ++ T)).Perm (x :: y :: r :: ((led ++ [a]) ++ T)) := by
  have h1 : (r :: a :: x :: y :: (led ++ T)).Perm (x :: y :: r :: a :: (led ++ T)) := List.perm_append_comm_assoc [r, a] [x, y] (led ++ T)
  have h2 : (a :: (led ++ T)).Perm ((led ++ [a]) ++ T) := by
    rw [List.append_assoc]; exact List.perm_middle.symm
  exact h1.trans (.cons _ (.cons _ (.cons _ h2)))

theorem by_call : ∀ {w : World} {A A₀ : Around} {p : Program} {loose : List Str} {mean : ExcName → Option Value} {mg mb : Str → Option Value} {base h₀ : Heap} {s : Shared}
   {env : Env} {L : Addr} {m : Str → Option Value} {R : List (Addr × Obj)} {outer : List Env} {d : Addr} {oD : Obj} {kvs : List (Str × Value)} {lev : Str → Nat}
   {Q : Value → Shared → Prop} {E : Value → Shared → Prop},
   (hd.heap_39 w.params).In h₀ → Top p loose mean mg mb h₀ → Below A₀ base outer h₀ → A.frames = some (env :: outer) → env.frame = some L → env.scope.kind = .function → A.handled = none →
   Fr h₀ L s.heap m → News h₀ L s.heap ((d, oD) :: R) → A.depth < 500 → ND ((d, oD) :: R) → oD.IsDictOf (PySem.strKind PG w) kvs → (d == sysModules) = false → IntVals kvs (fun x => (lev x : Int)) → kvs ≠ [] → kvs.length < 64 →
   (∀ x ∈ kvs.map (·.1), ∀ r ≤ lev x, ∃ y ∈ kvs.map (·.1), lev y = r) →
   (∀ h' tk rr items e led rows, RowsAre items led rows → RowsOk (kvs.map (·.1)) lev rows → Fr h₀ L h' m → News h₀ L h' ((rr, listOf items.toArray e) :: (led ++ (d, oD) :: R)) → ND ((rr, listOf items.toArray e) :: (led ++ (d, oD) :: R)) → Q (.ref rr) { s with heap := h', toks := tk }) →
   wpAny (model PG w) A (call (.ref 199) [.ref d] []) Q E s := by
  walk_at "mfill"
  intro w A A₀ p loose mean mg mb base h₀ s env L m R outer d oD kvs lev Q E X T B hfr hef hek hh F N hdp hnd hD lo hiv hne hlen hgap hQ
  obtain ⟨ah, ad, af, ag, au⟩ := A
  obtain rfl : af = some (env :: outer) := hfr
  obtain rfl : ah = none := hh
  dsimp only at hdp
  refine wpAny_call ?_
  refine' code_defC ?k1 ?k2 ?k3 ?k4 ?k5 ?kA ?kF ?kK ?k6 ?k7 ?k8 ?k9 ?kB ?kN ?_ ?c2 ?c3 ?c4
  case k1 => assumption
  case k2 => assumption
  case k3 => assumption
  case k4 => assumption
  case k5 => assumption
  case kA => exact rfl
  case kF => assumption
  case kK => assumption
  case k6 => k_is
  case k7 => k_is
  case k8 => k_room
  case k9 => exact BindsTo.of_eq rfl
  case kB => exact rfl
  case kN => decide
  case c2 => exact rfl
  case c3 => exact rfl
  case c4 => exact rfl
  intro g' L' h1 tk1 cells FG' F1 N1 hcells B' X' T' l1
  k_cells hcells
  simp only [List.cons_append, List.nil_append] at N1
  (try dsimp only)
  (try k_fold)
  clear F N
  refine hideQ fun Q9 hQ9 => ?_
  walk_at "go"
  refine unstop ?_
  refine wpAny_For ?_
  walk_at "go"
  rename_i vw h3 F3 N3 l3
  refine unstop ?_
  refine max_vals rfl F3 N3 (.head _) (.tail _ (.tail _ (.tail _ (.tail _ (.head _))))) hD hiv hne ?_
  intro h4 M tM tk4 F4 N4 hM1 hM2
  clear F3 N3
  obtain ⟨p0, hp0, hM0⟩ := hM1
  obtain ⟨Mn, rfl⟩ : ∃ Mn : Nat, M = (Mn : Int) := ⟨lev p0.1, hM0.symm⟩
  have hMl : Mn < 64 := by
    have h1 : (List.range (Mn + 1)).length ≤ ((kvs.map (·.1)).map lev).length := List.Nodup.length_le_of_subset List.nodup_range fun r hr => by
      obtain ⟨y, hy, e⟩ := hgap p0.1 (List.mem_map_of_mem hp0) r (by have := List.mem_range.mp hr; omega)
      exact List.mem_map.mpr ⟨y, hy, e⟩
    rw [List.length_range, List.length_map, List.length_map] at h1
    omega
  walk_at "go"
  rename_i oc ol dc dl rr h5 l5 h6 F6' N6' F7' N7' h8 tk8 t8 u8 v8 hrg F8 N8 hX
  clear hX F6' N6' F7' N7'
  have hdl : ol.data = .cell (some (.ref d)) := dl
  replace N8 : News g' L' h8 ((L' + 1 + 1, oc) :: (L' + 1, ol) :: (rr, listOf #[] 0) :: (d, oD) :: R) := News.sub N8 fun q hq => by
    rcases List.mem_cons.mp hq with h | hq
    · rw [h]; exact .tail _ (.tail _ (.head _))
    rcases List.mem_cons.mp hq with h | hq
    · rw [h]; exact .tail _ (.tail _ (.tail _ (.head _)))
    rcases List.mem_cons.mp hq with h | hq
    · rw [h]; exact .tail _ (.head _)
    exact .tail _ (.tail _ (.tail _ (.tail _ hq)))
  have hndc : ND ((L' + 1 + 1, oc) :: (L' + 1, ol) :: (rr, listOf #[] 0) :: (d, oD) :: R) := by
    have h0 : ND ((L' + 1 + 1, oc) :: (L' + 1, ol) :: (d, oD) :: R) := ND.consLt (ND.consLt hnd fun q hq => Nat.lt_succ_of_lt (l1 q hq)) fun q hq => by
      rcases List.mem_cons.mp hq with h | hq
      · rw [h]; exact Nat.lt_succ_self _
      · exact Nat.lt_succ_of_lt (Nat.lt_succ_of_lt (l1 q hq))
    have h1 : ND ((rr, listOf #[] 0) :: (L' + 1 + 1, oc) :: (L' + 1, ol) :: (d, oD) :: R) := ND.consLt h0 (allLt_get (l := (L' + 1 + 1, oc) :: (L' + 1, ol) :: (d, oD) :: R) l5)
    exact h1.perm (List.perm_middle (l₁ := [_, _])).symm
  refine unstop ?_
  obtain ⟨J, hJ⟩ : ∃ J : Nat → (Str → Option Value) → List (Addr × Obj) → Prop, ∀ i m news, J i m news ↔ ∀ C9 : Prop, (∀ (o : Obj) (v₀ : Option Value) (items : List Value) (e : Nat) (led : List (Addr × Obj)) (rows : List (List Str)), news = (L' + 1 + 1, o) :: (L' + 1, ol) :: (rr, listOf items.toArray e) :: (led ++ (d, oD) :: R) → o.data = .cell v₀ → m (Str.ofString "rounds") = some (.ref rr) → ND news → RowsAre items led rows → rows.length = i → (∀ (r : Nat) ss, rows[r]? = some ss → ss.Nodup ∧ (∀ x, x ∈ ss ↔ x ∈ kvs.map (·.1) ∧ lev x = r) ∧ sortedS ss = true) → C9) → C9 := ⟨_, fun _ _ _ => Iff.rfl⟩
  refine iter_rangeC (h₀ := g') (n := Mn + 1) (c := L' + 1 + 1) J rfl hrg (by omega) (small_one (by decide) (by decide) (by omega) (by omega)) rfl F8 N8 ((hJ _ _ _).mpr fun C9 k9 => k9 oc _ ([]) 0 ([]) ([]) rfl dc rfl hndc .nil rfl ?_) ?_ ?_ ?_
  · intro r ss h; simp at h
  · intro i m₁ news₁ hj
    refine (hJ _ _ _).mp hj _ fun o v₀ items e led rows eJ6 hd _ hnd' _ => ?_
    intros
    subst eJ6
    exact ⟨o, v₀, _, rfl, hd, hnd'.ne⟩
  · intro i m₁ o o' rest h tk t I oI _ hi hj hd' hn F9 N9
    refine (hJ _ _ _).mp hj _ fun o0 v₀ items e led rows he hd0 hm1 hnd9 hRw hri hrow => ?_
    obtain ⟨e1, rfl⟩ := List.cons.inj he
    rw [know_eq1 hm1] at F9
    walk_at "go"
    refine unstop ?_
    refine wpAny_ListComp_free (cl := [(Str.ofString "levels", L' + 1), (Str.ofString "level", L' + 1 + 1)]) (isLev lev i) (fun v y => y = v) rfl (by decide) rfl (by decide) rfl ?_
    walk_at "go"
    refine unstop ?_
    obtain ⟨ep, hdm⟩ := (Heap.dictOf_iff.mpr ⟨oD, (N9 (d, oD) (List.mem_append_left _ (.tail _ (.tail _ (.tail _ (List.mem_append_right _ (.head _))))))).1, hD⟩ : Heap.DictOf (PySem.strKind PG w) _ d kvs).dictAt
    have hlt := Heap.lt_size (N9 (d, oD) (List.mem_append_left _ (.tail _ (.tail _ (.tail _ (List.mem_append_right _ (.head _))))))).1
    refine wpAny_pyIter_dict lo hdm ?_
    refine ⟨_, _, _, _, _, _, rfl, Walks.dictKeys (prog := PG) (w := w) (knd := PySem.strKind PG w) rfl _ d (Nat.ne_of_lt hlt) kvs ep, ?_, ⟨⟨_, Heap.get?_push_size _ rfl, rfl, rfl⟩, hdm.push _⟩, ?_, ⟨?_, ?_⟩, ?_⟩
    · rw [sizeLine_eq]; omega
    · intro b hb
      rcases List.mem_cons.mp hb with e | hb
      · rw [e]; show _ < (Heap.push _ _).objs.size; rw [Heap.size_push]; exact Nat.lt_succ_self _
      · rw [List.mem_singleton.mp hb]; show _ < (Heap.push _ _).objs.size; rw [Heap.size_push]; exact Nat.lt_succ_of_lt hlt
    · intro C j v s₃ m₃ E' _ hP hns hmx hkeep htk
      obtain ⟨kk, y, hkv, hkey⟩ := hP
      obtain ⟨tt, rfl⟩ := Value.isStrOf_shape hkey
      have hk2 : ∀ b o, h.get? b = some o → s₃.heap.get? b = some o := fun b o hb => hkeep b o (by
        have := Heap.lt_size hb
        intro q; rw [List.mem_singleton.mp q] at this; exact Nat.lt_irrefl _ this) (Heap.get?_push_of_some _ hb)
      have F10 : Fr g' L' s₃.heap _ := Fr.stays F9 hk2
      have N10 := News.stays N9 hk2
      refine one_test ?_
      have hm10 : ∀ q ∈ (L' + 1 + 1, o') :: (L' + 1, ol) :: (rr, listOf items.toArray e) :: (led ++ (d, oD) :: R), s₃.heap.get? q.1 = some q.2 := fun q hq => (N10 q (List.mem_append_left _ hq)).1
      obtain ⟨tv, hyv⟩ := hiv _ (List.mem_of_getElem? hkv)
      dsimp only at hyv
      walk_at "go"
      refine unstop ?_
      refine compC_cell (c := L' + 1) rfl rfl rfl (hm10 (L' + 1, ol) (.tail _ (.head _))) hdl ?_
      walk_at "go"
      refine unstop ?_
      refine compC_name rfl rfl hns hmx ?_
      walk_at "go"
      refine unstop ?_
      refine kda_item N10 (List.mem_append_left _ (.tail _ (.tail _ (.tail _ (List.mem_append_right _ (.head _)))))) hD (strKind_is _ _ _ _) (valueAt_mem (keysNodup_of_isDictOf hD) (List.mem_of_getElem? hkv)) ?_
      subst hyv
      walk_at "go"
      refine unstop ?_
      refine compC_cell (c := L' + 1 + 1) rfl rfl rfl (hm10 (L' + 1 + 1, o') (.head _)) hd' ?_
      walk_at "go"
      · show ((lev kk : Int) == (i : Int)) = decide (lev kk = i)
        by_cases hq : lev kk = i
        · simp [hq]
        · rw [decide_eq_false hq]; simp; omega
      · exact ⟨_, _, rfl, fun _ _ h => h⟩
    · intro C j v s₃ m₃ E' _ hP _ hns hmx hkeep htk
      walk_at "go"
      refine unstop ?_
      refine compC_name rfl rfl hns hmx ?_
      exact ⟨rfl, _, _, rfl, fun _ _ h => h⟩
    · intro DD h11 tk11 ys vs hDD hls hpl hlen11 hP hpair hkeep
      have hys := paired_eq hpair
      have hst := keys_strs (prog := PG) (w := w) lev i vs kvs hlen11 hP
      rw [← hys] at hst
      have hk2 : ∀ b o, h.get? b = some o → h11.get? b = some o := fun b o hb => hkeep b o (by
        have := Heap.lt_size hb
        intro q; rw [List.mem_singleton.mp q] at this; exact Nat.lt_irrefl _ this) (Heap.get?_push_of_some _ hb)
      have F11 : Fr g' L' h11 _ := Fr.stays F9 hk2
      have N11 := News.stays N9 hk2
      have hylen : ys.toList.length < 64 := by
        rw [StrsAre.length hst]
        have := List.length_filter_le (fun k => decide (lev k = i)) (kvs.map (·.1))
        rw [List.length_map] at this; omega
      clear F9 N9
      walk_at "go"
      refine unstop ?_
      refine sorted_N_str (vs := ys.toList) F11 N11 (by simpa using hls) hst hylen ?_
      intro h12 vs12 ss12 e12 F12 N12 hss hperm hsorted
      have hlsa : ∀ q ∈ ((L' + 1 + 1, o') :: (L' + 1, ol) :: (rr, listOf items.toArray e) :: (led ++ (d, oD) :: R)) ++ [(I, oI)], q.1 < h11.objs.size + 1 := fun q hq => Nat.lt_succ_of_lt (Heap.lt_size (N11 q hq).1)
      generalize h11.objs.size + 1 = sa at N12 hlsa ⊢
      clear F11 N11
      have hnd12 : ND ((sa, listOf vs12.toArray e12) :: (((L' + 1 + 1, o') :: (L' + 1, ol) :: (rr, listOf items.toArray e) :: (led ++ (d, oD) :: R)) ++ [(I, oI)])) := ND.consLt (ND.snoc (hnd9.same rfl) hn) hlsa
      have N13 : News g' L' h12 ((rr, listOf items.toArray e) :: (sa, listOf vs12.toArray e12) :: (L' + 1 + 1, o') :: (L' + 1, ol) :: ((led ++ (d, oD) :: R) ++ [(I, oI)])) := News.permP N12 (List.perm_middle (l₁ := [_, _, _]))
      have hnd13 : ND ((rr, listOf items.toArray e) :: (sa, listOf vs12.toArray e12) :: (L' + 1 + 1, o') :: (L' + 1, ol) :: ((led ++ (d, oD) :: R) ++ [(I, oI)])) := hnd12.perm (List.perm_middle (l₁ := [_, _, _]))
      have hA1 := hnd13.ne
      have hitz : items.length < 10000 := by rw [hRw.len, hri]; omega
      clear N12
      walk_at "go"
      rename Fr g' _ _ _ => F14
      rename News g' _ _ _ => N14
      rw [List.push_toArray] at N14
      have hnd14 : ND ((L' + 1 + 1, o') :: (L' + 1, ol) :: (rr, listOf (items ++ [Value.ref sa]).toArray (e + 1)) :: ((led ++ [(sa, listOf vs12.toArray e12)]) ++ (d, oD) :: R)) := by
        have h1 : ND ((rr, listOf (items ++ [Value.ref sa]).toArray (e + 1)) :: (sa, listOf vs12.toArray e12) :: (L' + 1 + 1, o') :: (L' + 1, ol) :: (led ++ (d, oD) :: R)) := ND.same (hnd13.sublist (.cons₂ _ (.cons₂ _ (.cons₂ _ (.cons₂ _ (List.sublist_append_left _ _)))))) rfl
        exact h1.perm (perm_by _ _ _ _ _ _)
      refine FPost.next (news' := (L' + 1 + 1, o') :: (L' + 1, ol) :: (rr, listOf (items ++ [Value.ref sa]).toArray (e + 1)) :: ((led ++ [(sa, listOf vs12.toArray e12)]) ++ (d, oD) :: R)) F14 ?_ ?_ ((hJ _ _ _).mpr fun C9 k9 => k9 o' _ (items ++ [Value.ref sa]) (e + 1) (led ++ [(sa, listOf vs12.toArray e12)]) (rows ++ [ss12]) rfl hd' rfl hnd14 (hRw.snoc hss) (by rw [List.length_append, hri]; rfl) ?_)
      · refine News.sub N14 fun q hq => ?_
        rcases List.mem_append.mp hq with hq | hq
        · rcases List.mem_cons.mp ((perm_by _ _ _ _ _ _).mem_iff.mpr hq) with h | hq
          · rw [h]; exact .head _
          rcases List.mem_cons.mp hq with h | hq
          · rw [h]; exact .tail _ (.head _)
          rcases List.mem_cons.mp hq with h | hq
          · rw [h]; exact .tail _ (.tail _ (.head _))
          rcases List.mem_cons.mp hq with h | hq
          · rw [h]; exact .tail _ (.tail _ (.tail _ (.head _)))
          exact .tail _ (.tail _ (.tail _ (.tail _ (List.mem_append_left _ hq))))
        · exact .tail _ (.tail _ (.tail _ (.tail _ (List.mem_append_right _ hq))))
      · intro q hq
        have hI13 : ND (((rr, listOf items.toArray e) :: (sa, listOf vs12.toArray e12) :: (L' + 1 + 1, o') :: (L' + 1, ol) :: (led ++ (d, oD) :: R)) ++ [(I, oI)]) := hnd13
        have hI14 := (hI13.perm List.perm_append_comm).ne
        rcases List.mem_cons.mp ((perm_by _ _ _ _ _ _).mem_iff.mpr hq) with h | hq
        · rw [h]; exact hI14 (rr, listOf items.toArray e) (.head _)
        · exact hI14 q (.tail _ hq)
      · intro r ss hr
        by_cases hlt' : r < rows.length
        · rw [List.getElem?_append_left hlt'] at hr; exact hrow r ss hr
        · rw [List.getElem?_append_right (by omega)] at hr
          have hr0 : r - rows.length = 0 := by
            have := (List.getElem?_eq_some_iff.mp hr).1
            simp at this; omega
          rw [hr0] at hr
          obtain rfl : ss12 = ss := by simpa using hr
          have hre : r = i := by omega
          have hndk : ((kvs.map (·.1)).filter fun k => decide (lev k = i)).Nodup := List.Nodup.sublist List.filter_sublist (keysNodup_of_isDictOf hD)
          refine ⟨hperm.symm.nodup_iff.mp hndk, fun x => ?_, hsorted⟩
          rw [hperm.mem_iff, List.mem_filter, hre, decide_eq_true_eq]
  · intro m₁ news₁ h tk _ hj F9 N9
    refine (hJ _ _ _).mp hj _ fun o0 v₀ items e led rows eJ6 hd0 hm1 hnd9 hRw hri hrow => ?_
    subst eJ6
    rw [know_eq1 hm1] at F9
    walk_at "go"
    refine unstop ?_
    rename Fr g' _ _ _ => F10
    rename News g' _ _ _ => N10
    refine hQ9 _ _ ?_
    dsimp only
    refine leaveK_ F10 N10 ?_
    intro kF kN
    refine hQ _ _ rr items e led rows hRw ⟨hrow, ?_, ?_⟩ kF (News.sub kN fun q hq => .tail _ (.tail _ hq)) hnd9.tail.tail
    · intro x hx
      obtain ⟨q, hq, rfl⟩ := List.mem_map.mp hx
      have := hM2 q hq
      omega
    · intro r hr
      refine hgap p0.1 (List.mem_map_of_mem hp0) r ?_
      omega
end Mine
end -- S12
section -- S13
open PySem PySem.W PySem.Calls PyProof.Rows
set_option Elab.async false
set_option maxRecDepth 100000
set_option maxHeartbeats 8000000
namespace Mine
local macro_rules | `(tactic| walk_at "no such key") => `(tactic| skip)
local macro_rules | `(tactic| walk_at "no such key") => `(tactic| skip)
local macro_rules | `(tactic| walk_at "no such key") => `(tactic| skip)
local macro_rules | `(tactic| walk_at "no such key") => `(tactic| skip)
local macro_rules | `(tactic| walk_at "no such key") => `(tactic| skip)
local macro_rules | `(tactic| walk_at "no such key") => `(tactic| skip)
local macro_rules | `(tactic| walk_at "mfill") => `(tactic| (w_top off; (have kf : PySem.Challenge.rw_mr0297_01 = PySem.Challenge.rw_mr0297_01 ∧ hd.heap_39 = hd.heap_39 := (by (k_fill; exact ⟨rfl, rfl⟩))); clear kf))
local macro_rules | `(tactic| walk_at "go") => `(tactic| repeat' (first | walk1 | (dsimp only; walk1)))
local macro_rules | `(tactic| walk_at "execs cons") => `(tactic| refine wpAny_execs_cons ?_)
local macro_rules | `(tactic| walk_at "execs nil") => `(tactic| refine wpAny_execs_nil ?_)
local macro_rules | `(tactic| k_room) => `(tactic| ((try simp only [depth_under_make, depth_under_kw, depth_in1, depth_deeper, depth_caller]); (try dsimp only); unfold recursionLimit; omega))
local macro_rules | `(tactic| k_all) => `(tactic| assumption)
local macro_rules | `(tactic| walk_at "mcode") => `(tactic| (refine' code_def ?k1 ?k2 ?k3 ?k4 ?k5 ?kA ?kF ?kK ?k6 ?k7 ?k8 ?k9 ?kB ?_ ?c2 ?c3 ?c4 ?c5; (case k1 => assumption); (case k2 => assumption); (case k3 => assumption); (case k4 => assumption); (case k5 => assumption); (case kA => exact rfl); (case kF => assumption); (case kK => assumption); (case k6 => k_is); (case k7 => k_is); (case k8 => k_room); (case k9 => exact BindsTo.of_eq rfl); (case kB => exact locs rfl); (case c2 => exact rfl); (case c3 => exact rfl); (case c4 => exact rfl); (case c5 => decide)))
local macro_rules | `(tactic| walk_at "exec If") => `(tactic| refine wpAny_If ?_)
local macro_rules | `(tactic| walk_at "mcodeS") => `(tactic| (refine' code_defS ?k1 ?k2 ?k3 ?k4 ?k5 ?XB ?TB ?D ?T0 ?kA ?k6 ?k7 ?k8 ?k9 ?kB ?_ ?cK ?c2 ?c3 ?c4 ?c5; (case kA => exact rfl); (case k2 => assumption); (case k1 => assumption); (case XB => assumption); (case TB => assumption); (case D => assumption); (case T0 => exact KtsTurn.refl); (case k3 => assumption); (case k4 => assumption); (case k5 => assumption); (case k6 => k_is); (case k7 => k_is); (case k8 => k_room); (case k9 => exact BindsTo.of_eq rfl); (case kB => exact locs rfl); (case cK => assumption); (case c2 => exact rfl); (case c3 => exact rfl); (case c4 => exact rfl); (case c5 => decide)))

local macro_rules | `(tactic| walk_at "call ref") => `(tactic| ((with_reducible show wpAny _ _ (call (Value.ref 199) _ _) _ _ _); refine stop ?_))
local macro_rules | `(tactic| walk_at "setItem ref str") => `(tactic| refine stop ?_)
local macro_rules | `(tactic| walk_at "subscriptTail Name Name ref str") => `(tactic| refine stop ?_)
local macro_rules | `(tactic| walk_at "exec For Tuple Call cons nil") => `(tactic| refine stop ?_)
local macro_rules | `(tactic| walk_at "call builtin:sorted") => `(tactic| refine stop ?_)
local macro_rules | `(tactic| walk_at "pyIter ref") => `(tactic| refine stop ?_)
theorem times_call : ∀ {w : World} {A A₀ : Around} {p : Program} {loose : List Str} {mean : ExcName → Option Value} {mg mb : Str → Option Value} {base h₀ : Heap} {s : Shared}
   {env : Env} {L : Addr} {m : Str → Option Value} {R tups : List (Addr × Obj)} {outer : List Env} {l : Addr} {its : Array Value} {ne : Nat} {P : List (Str × Option Str)} {lev : Str → Nat}
   {Q : Value → Shared → Prop} {E : Value → Shared → Prop},
   CodeHd h₀ 205 201 → (hd.heap_39 w.params).In h₀ → Top p loose mean mg mb h₀ → Below A₀ base outer h₀ → A.frames = some (env :: outer) → env.frame = some L → env.scope.kind = .function → A.handled = none →
   Fr h₀ L s.heap m → News h₀ L s.heap ((201, tabObj #[]) :: (l, listOf its ne) :: (tups ++ R)) → A.depth < 400 → ND ((201, tabObj #[]) :: (l, listOf its ne) :: (tups ++ R)) → PairsAre its.toList tups P → Clo P → P.length < 64 →
   (∀ q ∈ P, lev q.1 = match q.2 with | none => 0 | some y => lev y + 1) → (∀ x ∈ P.map (·.1), ∀ r ≤ lev x, ∃ y ∈ P.map (·.1), lev y = r) →
   (∀ h' tk rr items e led rows ps, RowsAre items led rows → RowsOk (P.map (·.1)) lev rows → Fr h₀ L h' m → News h₀ L h' ((rr, listOf items.toArray e) :: (led ++ (201, tabObj ps) :: (l, listOf its ne) :: (tups ++ R))) → ND ((rr, listOf items.toArray e) :: (led ++ (201, tabObj ps) :: (l, listOf its ne) :: (tups ++ R))) → Q (.ref rr) { s with heap := h', toks := tk }) →
   wpAny (model PG w) A (call (.ref 206) [.ref l] []) Q E s := by
  walk_at "mfill"
  intro w A A₀ p loose mean mg mb base h₀ s env L m R tups outer l its ne P lev Q E hcd0 X T B hfr hef hek hh F N hdp hnd hP hClo hlen hlev hgap hQ
  obtain ⟨ah, ad, af, ag, au⟩ := A
  obtain rfl : af = some (env :: outer) := hfr
  obtain rfl : ah = none := hh
  dsimp only at hdp
  refine wpAny_call ?_
  walk_at "mcode"
  intro g' L' h1 FG' F1 N1 B' X' T'
  k_fold
  clear F N
  refine hideQ fun Q9 hQ9 => ?_
  have hA0 := hnd.ne
  have hcd1 : CodeHd g' 205 201 := hcd0.keeps FG'.keep
  walk_at "go"
  rename_i td h2 od lod hsd fs' hi' fi' l2 h3 F3 N3
  clear fs' hi' fi'
  refine unstop ?_
  refine wpAny_For ?_
  walk_at "go"
  rename Fr g' _ _ _ => F4
  rename News g' _ _ _ => N4
  refine unstop ?_
  have hvl : its.toList.length = P.length := hP.len.1
  refine ksk_sorted (b := false) (vs := its.toList) (kz := P.map fun q => (q.1.length : Int)) F4 N4 (by simpa using News.isList N4 (.tail _ (.tail _ (.tail _ (.tail _ (.head _)))))) (by rw [List.length_map, hvl]) (by omega) (ksk_s1 _ _) (fun _ => ksk_l1 _ _) (fun _ => ksk_t1 _ _) ?_ ?_
  · intro i v k hv hk h5 tk5 own F5 N5
    obtain ⟨tt, x, tx, u, o, rfl, hmt, hPi, hru⟩ := hP.at hv
    have hkx : k = (x.length : Int) := by
      rw [List.getElem?_map, hPi] at hk
      simpa using hk.symm
    subst hkx
    have hgx : GoodT x := hClo.good (x, o) (List.mem_of_getElem? hPi)
    clear F4 N4
    have hgl := hgx.2
    have hN5 := N5
    replace N5 := News.front (x := (tt, tupOf (.str x tx) u)) N5 (List.mem_append_left _ (.tail _ (.tail _ (.tail _ (.tail _ (.tail _ (List.mem_append_left _ hmt)))))))
    walk_at "go"
  · intro D h6 tk6 out c6 F6 N6 hD6 hOut
    clear F4 N4
    obtain ⟨tups', P', hP', hpm, hsub, hpw⟩ := pairs_sorted (k := fun x => (x.length : Int)) hP hOut
    obtain ⟨Tr, hv', rfl, rfl, hrd⟩ := hP'.rows
    clear hP'
    obtain ⟨ps, N6⟩ := table_of N6
    have hnd6 : ND ((td, od) :: (D, seqObj "list" out c6) :: (201, tabObj ps) :: (l, listOf its ne) :: (tups ++ R)) := by
      have h1 : ND ((td, od) :: (201, tabObj ps) :: (l, listOf its ne) :: (tups ++ R)) := ND.consLt (hnd.same rfl) (allLt_get (l := (201, tabObj ps) :: (l, listOf its ne) :: (tups ++ R)) l2)
      have h2 : ((td, od) :: (201, tabObj ps) :: (l, listOf its ne) :: (tups ++ R)).map (·.1) = ((td, od) :: (201, tabObj #[]) :: (l, listOf its ne) :: (tups ++ R)).map (·.1) := rfl
      refine (ND.consLt (a := D) (o := seqObj "list" out c6) h1 fun q hq => ?_).perm (.swap _ _ _)
      have h3 : q.1 ∈ ((td, od) :: (201, tabObj #[]) :: (l, listOf its ne) :: (tups ++ R)).map (·.1) := h2 ▸ List.mem_map_of_mem hq
      obtain ⟨q', hq', e⟩ := List.mem_map.mp h3
      rw [← e]
      rcases List.mem_cons.mp hq' with h | hq'
      · rw [h]; exact hD6 _ (.tail _ (.tail _ (.head _)))
      rcases List.mem_cons.mp hq' with h | hq'
      · rw [h]; have h4 := hD6 _ (.tail _ (.tail _ (.tail _ (.head _)))); exact h4
      · exact hD6 _ (.tail _ (.tail _ (.tail _ (.tail _ hq'))))
    clear hD6 hOut
    walk_at "go"
    refine unstop ?_
    obtain ⟨J, hJ⟩ : ∃ J : Nat → (Str → Option Value) → List (Addr × Obj) → Prop, ∀ i m news, J i m news ↔ ∀ C9 : Prop, (∀ (o : Obj) (kvs : List (Str × Value)), news = (td, o) :: (D, seqObj "list" out c6) :: (201, tabObj ps) :: (l, listOf its ne) :: (tups ++ R) → o.IsDictOf (PySem.strKind PG w) kvs → m (Str.ofString "times") = some (.ref td) → IntVals kvs (fun x => (lev x : Int)) → kvs.map (·.1) = ((Tr.map Row5.p).take i).map (·.1) → C9) → C9 := ⟨_, fun _ _ _ => Iff.rfl⟩
    refine iter_pairsE (h₀ := g') (l := D) (vs := out.toList) (ol := seqObj "list" out c6) (ep := c6) J (fun i => match Tr[i]? with | some r => (.str r.2.1 r.2.2.1, r.2.2.2.1) | none => (.none, .none)) rfl (N6 _ (.tail _ (.head _))).1 rfl (by rw [Array.toArray_toList]) (.inr ?_) ?_ F6 N6 ((hJ _ _ _).mpr fun C9 k9 => k9 od ([]) rfl hsd rfl (fun _ h => (nomatch h)) rfl) ?_ ?_
    · intro i m₁ news₁ hj
      refine (hJ _ _ _).mp hj _ fun o kvs eJ2 _ => ?_
      intros
      subst eJ2
      exact .tail _ (.head _)
    · intro i v hv
      rw [hv', List.getElem?_map] at hv
      cases hT : Tr[i]? with
      | none => rw [hT] at hv; cases hv
      | some r =>
        rw [hT] at hv
        obtain rfl : Row5.v r = v := by simpa using hv
        refine ⟨r.1, (tupOf (.str r.2.1 r.2.2.1) r.2.2.2.1), 0, rfl, rfl, rfl, .inr fun j m₁ news₁ hj => ?_⟩
        refine (hJ _ _ _).mp hj _ fun o kvs eJ2 _ => ?_
        intros
        subst eJ2
        exact .tail _ (.tail _ (.tail _ (.tail _ (List.mem_append_left _ (hsub _ (List.mem_map.mpr ⟨r, List.mem_of_getElem? hT, rfl⟩))))))
    · intro i m₁ news₁ h tk I oI _ hi hj hn F7 N7
      refine (hJ _ _ _).mp hj _ fun o kvs eJ2 hD7 hm1 hiv hks => ?_
      subst eJ2
      have hil : i < Tr.length := by rw [hv', List.length_map] at hi; exact hi
      obtain ⟨r, hr⟩ : ∃ r, Tr[i]? = some r := ⟨_, List.getElem?_eq_getElem hil⟩
      obtain ⟨ra, x, tx, u, oy⟩ := r
      have hpi : (Tr.map Row5.p)[i]? = some (x, oy) := by rw [List.getElem?_map, hr]; rfl
      have hrdi : ReadV oy u := hrd _ (List.mem_of_getElem? hr)
      have hnew := key_new hClo hpm hpi
      have hlx := hlev (x, oy) (hpm.mem_iff.mp (List.mem_of_getElem? hpi))
      rw [hr] at F7
      dsimp only at F7 hnew hlx
      rw [know_eq1 hm1] at F7
      clear F6 N6
      have hx63 : kvs.length ≤ sizeLine := by
        have h1 := congrArg List.length hks
        rw [List.length_map, List.length_map, List.length_take, hpm.length_eq] at h1
        rw [sizeLine_eq]; omega
      have hkn : ∀ p ∈ kvs, p.1 ≠ x := fun p hp e => hnew (hks ▸ (List.mem_map.mpr ⟨p, hp, e⟩))
      have hnI : ∀ p ∈ (D, seqObj "list" out c6) :: (201, tabObj ps) :: (l, listOf its ne) :: (tups ++ R) ++ [(I, oI)], p.1 ≠ td := by
        intro p hp
        rcases List.mem_append.mp hp with hp | hp
        · exact hnd6.ne p hp
        · rw [List.mem_singleton.mp hp]; exact fun e => hn (td, o) (.head _) e.symm
      have hfin : ∀ (h' : Heap) (tk' : Nat) (m' : Str → Option Value) (t : Tok) (o' : Obj), m' (Str.ofString "times") = some (.ref td) → Fr g' L' h' m' → News g' L' h' ((td, o') :: ((D, seqObj "list" out c6) :: (201, tabObj ps) :: (l, listOf its ne) :: (tups ++ R) ++ [(I, oI)])) → o'.IsDictOf (PySem.strKind PG w) (stored kvs x (.int (lev x : Nat) t)) →
          ∃ (m'' : Str → Option Value) (news' : List (Addr × Obj)), Fr g' L' h' m'' ∧ News g' L' h' (news' ++ [(I, oI)]) ∧ (∀ p ∈ news', p.1 ≠ I) ∧ J (i + 1) m'' news' := by
        intro h' tk' m' t o' hm' F9 N9 hD9
        refine ⟨m', (td, o') :: (D, seqObj "list" out c6) :: (201, tabObj ps) :: (l, listOf its ne) :: (tups ++ R), F9, N9, fun p hp => ?_, ((hJ _ _ _).mpr fun C9 k9 => k9 o' _ rfl hD9 hm' ?_ ?_)⟩
        · rcases List.mem_cons.mp hp with e | hp
          · rw [e]; exact hn (td, o) (.head _)
          · exact hn p (.tail _ hp)
        · rw [stored_new hkn]
          intro p hp
          rcases List.mem_append.mp hp with hp | hp
          · exact hiv p hp
          · rw [List.mem_singleton.mp hp]; exact ⟨t, rfl⟩
        · rw [stored_new hkn, List.map_append, hks, List.take_add_one, hpi, List.map_append]; rfl
      cases oy with
      | none =>
        obtain rfl : u = .none := hrdi
        walk_at "go"
        refine unstop ?_
        have hz : lev x = 0 := hlx
        refine kda_set F7 N7 (.head hnI) hD7 (strKind_is _ _ _ _) hx63 ?_
        intro h8 o8 F8 N8 hD8
        clear F7 N7
        walk_at "go"
        refine (fun q => ?_) (hfin _ 0 _ _ o8 rfl F8 N8 (by rw [hz]; exact hD8))
        obtain ⟨m'', news', Fa, Na, hna, hja⟩ := q
        exact FPost.next Fa Na hna hja
      | some y =>
        obtain ⟨ty, rfl⟩ : ∃ t, u = .str y t := hrdi
        have hy : lev x = lev y + 1 := hlx
        walk_at "go"
        refine unstop ?_
        obtain ⟨⟨k0, v0⟩, hp0, hk0⟩ := List.mem_map.mp (hks ▸ due_ahead hClo hpm hpw hpi : y ∈ kvs.map (·.1))
        obtain rfl : k0 = y := hk0
        obtain ⟨tv, hv0⟩ := hiv _ hp0
        dsimp only at hv0
        subst hv0
        refine kda_item N7 (.head _) hD7 (strKind_is _ _ _ _) (valueAt_mem (keysNodup_of_isDictOf hD7) hp0) ?_
        walk_at "go"
        refine unstop ?_
        rename Fr g' _ _ _ => F8
        rename News g' _ _ _ => N8
        refine kda_set F8 N8 (.head hnI) hD7 (strKind_is _ _ _ _) hx63 ?_
        intro h9 o9 F9 N9 hD9
        clear F8 N8
        walk_at "go"
        refine (fun q => ?_) (hfin _ 0 _ _ o9 rfl F9 N9 (by rw [hy]; exact hD9))
        obtain ⟨m'', news', Fa, Na, hna, hja⟩ := q
        exact FPost.next Fa Na hna hja
    · intro m₁ news₁ h tk _ hj F7 N7
      refine (hJ _ _ _).mp hj _ fun o kvs eJ2 hD7 hm1 hiv hks => ?_
      subst eJ2
      rw [know_eq1 hm1] at F7
      clear F6 N6
      walk_at "go"
      refine unstop ?_
      have hvl6 : out.toList.length = Tr.length := by rw [hv', List.length_map]
      have hke : kvs.map (·.1) = (Tr.map Row5.p).map (·.1) := by rw [hks, List.take_of_length_le (by rw [List.length_map, hvl6]; exact Nat.le_refl _)]
      have hkm : ∀ x, x ∈ kvs.map (·.1) ↔ x ∈ P.map (·.1) := fun x => by rw [hke]; exact (hpm.map _).mem_iff
      have hkl : kvs.length = P.length := by
        have h1 := congrArg List.length hke
        rw [List.length_map, List.length_map, hpm.length_eq] at h1; exact h1
      refine by_call X' T' B' rfl rfl rfl rfl F7 N7 (by show ad + 1 < 500; omega) (hnd6.same rfl) hD7 lod hiv ?_ (by omega) ?_ ?_
      · intro e
        rw [e] at hkl
        exact hClo.ne (List.eq_nil_of_length_eq_zero hkl.symm)
      · intro x hx r hr
        obtain ⟨y, hy, e⟩ := hgap x ((hkm x).mp hx) r hr
        exact ⟨y, (hkm y).mpr hy, e⟩
      · intro h8 tk8 rr items e led rows hRw hOk F8 N8 hnd8
        clear F7 N7
        walk_at "go"
        refine hQ9 _ _ ?_
        walk_at "go"
        rename Fr h₀ _ _ _ => F9
        rename News h₀ _ _ _ => N9
        have hsl : ((rr, listOf items.toArray e) :: (led ++ (201, tabObj ps) :: (l, listOf its ne) :: (tups ++ R))).Sublist ((rr, listOf items.toArray e) :: (led ++ (td, o) :: (D, seqObj "list" out c6) :: (201, tabObj ps) :: (l, listOf its ne) :: (tups ++ R))) :=
          .cons₂ _ ((List.Sublist.refl led).append (.cons _ (.cons _ (.refl _))))
        exact hQ _ _ rr items e led rows ps hRw (hOk.keys hkm) F9 (News.sub N9 fun q hq => hsl.subset hq) (hnd8.sublist hsl)
end Mine
end -- S13
section -- S14
open PySem PySem.W PySem.Calls PyProof.Rows
set_option Elab.async false
set_option maxRecDepth 100000
set_option maxHeartbeats 8000000
namespace Mine
local macro_rules | `(tactic| walk_at "no such key") => `(tactic| skip)
local macro_rules | `(tactic| walk_at "no such key") => `(tactic| skip)
local macro_rules | `(tactic| walk_at "no such key") => `(tactic| skip)
local macro_rules | `(tactic| walk_at "no such key") => `(tactic| skip)
local macro_rules | `(tactic| walk_at "no such key") => `(tactic| skip)
local macro_rules | `(tactic| walk_at "no such key") => `(tactic| skip)
local macro_rules | `(tactic| walk_at "mfill") => `(tactic| (w_top off; (have kf : PySem.Challenge.rw_mr0297_01 = PySem.Challenge.rw_mr0297_01 ∧ hd.heap_39 = hd.heap_39 := (by (k_fill; exact ⟨rfl, rfl⟩))); clear kf))
local macro_rules | `(tactic| walk_at "go") => `(tactic| repeat' (first | walk1 | (dsimp only; walk1)))
local macro_rules | `(tactic| walk_at "execs cons") => `(tactic| refine wpAny_execs_cons ?_)
local macro_rules | `(tactic| walk_at "execs nil") => `(tactic| refine wpAny_execs_nil ?_)
local macro_rules | `(tactic| k_room) => `(tactic| ((try simp only [depth_under_make, depth_under_kw, depth_in1, depth_deeper, depth_caller]); (try dsimp only); unfold recursionLimit; omega))
local macro_rules | `(tactic| k_all) => `(tactic| assumption)
local macro_rules | `(tactic| walk_at "mcode") => `(tactic| (refine' code_def ?k1 ?k2 ?k3 ?k4 ?k5 ?kA ?kF ?kK ?k6 ?k7 ?k8 ?k9 ?kB ?_ ?c2 ?c3 ?c4 ?c5; (case k1 => assumption); (case k2 => assumption); (case k3 => assumption); (case k4 => assumption); (case k5 => assumption); (case kA => exact rfl); (case kF => assumption); (case kK => assumption); (case k6 => k_is); (case k7 => k_is); (case k8 => k_room); (case k9 => exact BindsTo.of_eq rfl); (case kB => exact locs rfl); (case c2 => exact rfl); (case c3 => exact rfl); (case c4 => exact rfl); (case c5 => decide)))
local macro_rules | `(tactic| walk_at "exec If") => `(tactic| refine wpAny_If ?_)
local macro_rules | `(tactic| walk_at "mcodeS") => `(tactic| (refine' code_defS ?k1 ?k2 ?k3 ?k4 ?k5 ?XB ?TB ?D ?T0 ?kA ?k6 ?k7 ?k8 ?k9 ?kB ?_ ?cK ?c2 ?c3 ?c4 ?c5; (case kA => exact rfl); (case k2 => assumption); (case k1 => assumption); (case XB => assumption); (case TB => assumption); (case D => assumption); (case T0 => exact KtsTurn.refl); (case k3 => assumption); (case k4 => assumption); (case k5 => assumption); (case k6 => k_is); (case k7 => k_is); (case k8 => k_room); (case k9 => exact BindsTo.of_eq rfl); (case kB => exact locs rfl); (case cK => assumption); (case c2 => exact rfl); (case c3 => exact rfl); (case c4 => exact rfl); (case c5 => decide)))

local macro_rules | `(tactic| walk_at "exec Assign cons DictComp") => `(tactic| refine stop ?_)
local macro_rules | `(tactic| walk_at "call ref") => `(tactic| ((with_reducible show wpAny _ _ (call (Value.ref 199) _ _) _ _ _); refine stop ?_))
local macro_rules | `(tactic| walk_at "setItem ref str") => `(tactic| refine stop ?_)
local macro_rules | `(tactic| walk_at "subscriptTail Name Name ref str") => `(tactic| refine stop ?_)
local macro_rules | `(tactic| walk_at "exec For Tuple Call cons nil") => `(tactic| refine stop ?_)
local macro_rules | `(tactic| walk_at "call builtin:sorted") => `(tactic| refine stop ?_)
local macro_rules | `(tactic| walk_at "pyIter ref") => `(tactic| refine stop ?_)
theorem rowsL_call : ∀ {w : World} {A A₀ : Around} {p : Program} {loose : List Str} {mean : ExcName → Option Value} {mg mb : Str → Option Value} {base h₀ : Heap} {s : Shared}
   {env : Env} {L : Addr} {m : Str → Option Value} {R tups : List (Addr × Obj)} {outer : List Env} {l : Addr} {its : Array Value} {ne : Nat} {P : List (Str × Option Str)} {lev : Str → Nat}
   {Q : Value → Shared → Prop} {E : Value → Shared → Prop},
   CodeHd h₀ 210 208 → (hd.heap_39 w.params).In h₀ → Top p loose mean mg mb h₀ → Below A₀ base outer h₀ → A.frames = some (env :: outer) → env.frame = some L → env.scope.kind = .function → A.handled = none →
   Fr h₀ L s.heap m → News h₀ L s.heap ((208, tabObj #[]) :: (l, listOf its ne) :: (tups ++ R)) → A.depth < 400 → ND ((208, tabObj #[]) :: (l, listOf its ne) :: (tups ++ R)) → PairsAre its.toList tups P → Clo P → P.length < 64 →
   Tall P lev → (∀ x ∈ P.map (·.1), ∀ r ≤ lev x, ∃ y ∈ P.map (·.1), lev y = r) →
   (∀ h' tk rr items e led rows ps, RowsAre items led rows → RowsOk (P.map (·.1)) lev rows → Fr h₀ L h' m → News h₀ L h' ((rr, listOf items.toArray e) :: (led ++ (208, tabObj ps) :: (l, listOf its ne) :: (tups ++ R))) → ND ((rr, listOf items.toArray e) :: (led ++ (208, tabObj ps) :: (l, listOf its ne) :: (tups ++ R))) → Q (.ref rr) { s with heap := h', toks := tk }) →
   wpAny (model PG w) A (call (.ref 211) [.ref l] []) Q E s := by
  walk_at "mfill"
  intro w A A₀ p loose mean mg mb base h₀ s env L m R tups outer l its ne P lev Q E hcd0 X T B hfr hef hek hh F N hdp hnd hP hClo hlen hlev hgap hQ
  obtain ⟨ah, ad, af, ag, au⟩ := A
  obtain rfl : af = some (env :: outer) := hfr
  obtain rfl : ah = none := hh
  dsimp only at hdp
  refine wpAny_call ?_
  walk_at "mcode"
  intro g' L' h1 FG' F1 N1 B' X' T'
  k_fold
  clear F N
  refine hideQ fun Q9 hQ9 => ?_
  have hA0 := hnd.ne
  have hcd1 : CodeHd g' 210 208 := hcd0.keeps FG'.keep
  walk_at "go"
  refine unstop ?_
  refine zeros_assign (h₀ := g') (L := L') (cl := []) ?a1 ?a2 ?a3 ?a4 ?a5 ?a6 ?a7 ?a8 ?a9 ?b1 ?b2 ?b3 ?b4 ?b5 ?_
  case a1 => with_unfolding_all rfl
  case a2 => rfl
  case a3 => rfl
  case a4 => with_unfolding_all rfl
  case a5 => decide
  case a6 => rfl
  case a7 => decide
  case a8 => rfl
  case a9 => rfl
  case b1 => decide
  case b2 => decide
  case b3 => rfl
  case b4 => rfl
  case b5 => exact fun _ => rfl
  walk_at "go"
  refine unstop ?_
  obtain ⟨T0, hv0, ht0, hp0, hrd0⟩ := hP.rows
  have hT0l : T0.length = P.length := by rw [hp0, List.length_map]
  have hT0n : (T0.map fun r => r.2.1).Nodup := by
    have := hClo.nodup
    rw [hp0, List.map_map] at this
    exact this
  refine ⟨l, T0, _, _, rfl, ?_, ?_, hT0n, by rw [sizeLine_eq]; omega, Top.nolimit T', F1, N1, ?_⟩
  · rw [← hv0, Array.toArray_toList]; exact News.isList N1 (.tail _ (.head _))
  · intro r hr
    exact (N1 r.t (.tail _ (.tail _ (List.mem_append_left _ (by rw [ht0]; exact List.mem_map_of_mem hr))))).1
  intro td od h3 tk3 kv0 F3 N3 l2 lod hsd hz0
  clear F1 N1
  have hA1 := hnd.tail.ne
  k_lt l2
  walk_at "go"
  refine unstop ?_
  refine wpAny_For ?_
  walk_at "go"
  rename Fr g' _ _ _ => F4
  rename News g' _ _ _ => N4
  refine unstop ?_
  have hvl : its.toList.length = P.length := hP.len.1
  refine ksk_sorted (b := false) (vs := its.toList) (kz := P.map fun q => -(q.1.length : Int)) F4 N4 (by simpa using News.isList N4 (.tail _ (.tail _ (.tail _ (.tail _ (.head _)))))) (by rw [List.length_map, hvl]) (by omega) (ksk_s1 _ _) (fun _ => ksk_l1 _ _) (fun _ => ksk_t1 _ _) ?_ ?_
  · intro i v k hv hk h5 tk5 own F5 N5
    obtain ⟨tt, x, tx, u, o, rfl, hmt, hPi, hru⟩ := hP.at hv
    have hkx : k = -(x.length : Int) := by
      rw [List.getElem?_map, hPi] at hk
      simpa using hk.symm
    subst hkx
    have hgx : GoodT x := hClo.good (x, o) (List.mem_of_getElem? hPi)
    clear F4 N4
    have hgl := hgx.2
    have hN5 := N5
    replace N5 := News.front (x := (tt, tupOf (.str x tx) u)) N5 (List.mem_append_left _ (.tail _ (.tail _ (.tail _ (.tail _ (.tail _ (List.mem_append_left _ hmt)))))))
    walk_at "go"
  · intro D h6 tk6 out c6 F6 N6 hD6 hOut
    clear F4 N4
    obtain ⟨tups', P', hP', hpm, hsub, hpw⟩ := pairs_sorted (k := fun x => -(x.length : Int)) hP hOut
    obtain ⟨Tr, hv', rfl, rfl, hrd⟩ := hP'.rows
    clear hP'
    obtain ⟨ps, N6⟩ := table_of N6
    have hnd6 : ND ((td, od) :: (D, seqObj "list" out c6) :: (208, tabObj ps) :: (l, listOf its ne) :: (tups ++ R)) := by
      have h1 : ND ((td, od) :: (208, tabObj ps) :: (l, listOf its ne) :: (tups ++ R)) := ND.consLt (hnd.same rfl) (allLt_get (l := (208, tabObj ps) :: (l, listOf its ne) :: (tups ++ R)) l2)
      have h2 : ((td, od) :: (208, tabObj ps) :: (l, listOf its ne) :: (tups ++ R)).map (·.1) = ((td, od) :: (208, tabObj #[]) :: (l, listOf its ne) :: (tups ++ R)).map (·.1) := rfl
      refine (ND.consLt (a := D) (o := seqObj "list" out c6) h1 fun q hq => ?_).perm (.swap _ _ _)
      have h3 : q.1 ∈ ((td, od) :: (208, tabObj #[]) :: (l, listOf its ne) :: (tups ++ R)).map (·.1) := h2 ▸ List.mem_map_of_mem hq
      obtain ⟨q', hq', e⟩ := List.mem_map.mp h3
      rw [← e]
      rcases List.mem_cons.mp hq' with h | hq'
      · rw [h]; exact hD6 _ (.tail _ (.tail _ (.head _)))
      rcases List.mem_cons.mp hq' with h | hq'
      · rw [h]; have h4 := hD6 _ (.tail _ (.tail _ (.tail _ (.head _)))); exact h4
      · exact hD6 _ (.tail _ (.tail _ (.tail _ (.tail _ hq'))))
    clear hD6 hOut
    walk_at "go"
    refine unstop ?_
    obtain ⟨J, hJ⟩ : ∃ J : Nat → (Str → Option Value) → List (Addr × Obj) → Prop, ∀ i m news, J i m news ↔ ∀ C9 : Prop, (∀ (o : Obj) (kvs : List (Str × Value)), news = (td, o) :: (D, seqObj "list" out c6) :: (208, tabObj ps) :: (l, listOf its ne) :: (tups ++ R) → o.IsDictOf (PySem.strKind PG w) kvs → m (Str.ofString "above") = some (.ref td) → kvs.map (·.1) = P.map (·.1) → ∀ (f : Str → Nat), IntVals kvs (fun x => (f x : Int)) → Abv lev f ((Tr.map Row5.p).take i) → C9) → C9 := ⟨_, fun _ _ _ => Iff.rfl⟩
    refine iter_pairsE (h₀ := g') (l := D) (vs := out.toList) (ol := seqObj "list" out c6) (ep := c6) J (fun i => match Tr[i]? with | some r => (.str r.2.1 r.2.2.1, r.2.2.2.1) | none => (.none, .none)) rfl (N6 _ (.tail _ (.head _))).1 rfl (by rw [Array.toArray_toList]) (.inr ?_) ?_ F6 N6 ((hJ _ _ _).mpr fun C9 k9 => k9 od kv0 rfl hsd rfl (hz0.1.trans (by rw [hp0, List.map_map]; rfl)) (fun _ => 0) hz0.2 (Abv.start lev)) ?_ ?_
    · intro i m₁ news₁ hj
      refine (hJ _ _ _).mp hj _ fun o kvs eJ2 _ => ?_
      intros
      subst eJ2
      exact .tail _ (.head _)
    · intro i v hv
      rw [hv', List.getElem?_map] at hv
      cases hT : Tr[i]? with
      | none => rw [hT] at hv; cases hv
      | some r =>
        rw [hT] at hv
        obtain rfl : Row5.v r = v := by simpa using hv
        refine ⟨r.1, (tupOf (.str r.2.1 r.2.2.1) r.2.2.2.1), 0, rfl, rfl, rfl, .inr fun j m₁ news₁ hj => ?_⟩
        refine (hJ _ _ _).mp hj _ fun o kvs eJ2 _ => ?_
        intros
        subst eJ2
        exact .tail _ (.tail _ (.tail _ (.tail _ (List.mem_append_left _ (hsub _ (List.mem_map.mpr ⟨r, List.mem_of_getElem? hT, rfl⟩))))))
    · intro i m₁ news₁ h tk I oI _ hi hj hn F7 N7
      refine (hJ _ _ _).mp hj _ fun o kvs eJ2 hD7 hm1 hks f hiv hab => ?_
      subst eJ2
      have hil : i < Tr.length := by rw [hv', List.length_map] at hi; exact hi
      obtain ⟨r, hr⟩ : ∃ r, Tr[i]? = some r := ⟨_, List.getElem?_eq_getElem hil⟩
      obtain ⟨ra, x, tx, u, oy⟩ := r
      have hpi : (Tr.map Row5.p)[i]? = some (x, oy) := by rw [List.getElem?_map, hr]; rfl
      have hpP : (x, oy) ∈ P := hpm.mem_iff.mp (List.mem_of_getElem? hpi)
      have hrdi : ReadV oy u := hrd _ (List.mem_of_getElem? hr)
      rw [hr] at F7
      dsimp only at F7
      rw [know_eq1 hm1] at F7
      clear F6 N6
      have hx63 : kvs.length ≤ sizeLine := by
        have h1 := congrArg List.length hks
        rw [List.length_map, List.length_map] at h1
        rw [sizeLine_eq]; omega
      have hnI : ∀ p ∈ (D, seqObj "list" out c6) :: (208, tabObj ps) :: (l, listOf its ne) :: (tups ++ R) ++ [(I, oI)], p.1 ≠ td := by
        intro p hp
        rcases List.mem_append.mp hp with hp | hp
        · exact hnd6.ne p hp
        · rw [List.mem_singleton.mp hp]; exact fun e => hn (td, o) (.head _) e.symm
      have htk : (Tr.map Row5.p).take (i + 1) = (Tr.map Row5.p).take i ++ [(x, oy)] := by rw [List.take_add_one, hpi]; rfl
      have hfin : ∀ (h' : Heap) (m' : Str → Option Value) (o' : Obj) (kvs' : List (Str × Value)) (f' : Str → Nat), m' (Str.ofString "above") = some (.ref td) → Fr g' L' h' m' → News g' L' h' ((td, o') :: ((D, seqObj "list" out c6) :: (208, tabObj ps) :: (l, listOf its ne) :: (tups ++ R) ++ [(I, oI)])) → o'.IsDictOf (PySem.strKind PG w) kvs' → kvs'.map (·.1) = P.map (·.1) → IntVals kvs' (fun x => (f' x : Int)) → Abv lev f' ((Tr.map Row5.p).take (i + 1)) →
          ∃ (m'' : Str → Option Value) (news' : List (Addr × Obj)), Fr g' L' h' m'' ∧ News g' L' h' (news' ++ [(I, oI)]) ∧ (∀ p ∈ news', p.1 ≠ I) ∧ J (i + 1) m'' news' := by
        intro h' m' o' kvs' f' hm' F9 N9 hD9 hk9 hi9 ha9
        refine ⟨m', (td, o') :: (D, seqObj "list" out c6) :: (208, tabObj ps) :: (l, listOf its ne) :: (tups ++ R), F9, N9, fun p hp => ?_, ((hJ _ _ _).mpr fun C9 k9 => k9 o' _ rfl hD9 hm' hk9 f' hi9 ha9)⟩
        rcases List.mem_cons.mp hp with e | hp
        · rw [e]; exact hn (td, o) (.head _)
        · exact hn p (.tail _ hp)
      cases oy with
      | none =>
        obtain rfl : u = .none := hrdi
        walk_at "go"
        obtain ⟨m'', news', Fa, Na, hna, hja⟩ := hfin _ _ o kvs f rfl F7 N7 hD7 hks hiv (by rw [htk]; exact hab.skip)
        exact FPost.next Fa Na hna hja
      | some y =>
        obtain ⟨ty, rfl⟩ : ∃ t, u = .str y t := hrdi
        have hfx : f x = lev x := hab.full hlev (fun q hq => hpm.mem_iff.mp (List.mem_of_mem_take hq)) (all_ahead hClo hpm hpw hpi)
        have hyk : y ∈ kvs.map (·.1) := by rw [hks]; exact hClo.closed _ hpP y rfl
        have hxk : x ∈ kvs.map (·.1) := by rw [hks]; exact List.mem_map.mpr ⟨_, hpP, rfl⟩
        obtain ⟨⟨k0, v0⟩, hp0', hk0⟩ := List.mem_map.mp hyk
        obtain rfl : k0 = y := hk0
        obtain ⟨⟨k1, v1⟩, hp1', hk1⟩ := List.mem_map.mp hxk
        obtain rfl : k1 = x := hk1
        obtain ⟨tv, hv0'⟩ := hiv _ hp0'
        obtain ⟨tw, hv1'⟩ := hiv _ hp1'
        dsimp only at hv0' hv1'
        subst hv0' hv1'
        walk_at "go"
        refine unstop ?_
        refine kda_item N7 (.head _) hD7 (strKind_is _ _ _ _) (valueAt_mem (keysNodup_of_isDictOf hD7) hp0') ?_
        walk_at "go"
        refine unstop ?_
        refine kda_item N7 (.head _) hD7 (strKind_is _ _ _ _) (valueAt_mem (keysNodup_of_isDictOf hD7) hp1') ?_
        walk_at "go"
        refine unstop ?_
        rename Fr g' _ _ _ => F8
        rename News g' _ _ _ => N8
        refine kda_set F8 N8 (.head hnI) hD7 (strKind_is _ _ _ _) hx63 ?_
        intro h9 o9 F9 N9 hD9
        clear F8 N8
        walk_at "go"
        obtain ⟨m'', news', Fa, Na, hna, hja⟩ := hfin _ _ o9 _ (fun z => if z = k0 then max (f k0) (lev k1 + 1) else f z) rfl F9 N9 hD9 ((stored_old_keys hyk).trans hks) (stored_old_vals hyk hiv (fun z => by
          rw [hfx]
          by_cases e : z = k0
          · rw [if_pos e, if_pos e]; split <;> omega
          · rw [if_neg e, if_neg e])) (by rw [htk]; exact hab.put)
        exact FPost.next Fa Na hna hja
    · intro m₁ news₁ h tk _ hj F7 N7
      refine (hJ _ _ _).mp hj _ fun o kvs eJ2 hD7 hm1 hks f hiv hab => ?_
      subst eJ2
      rw [know_eq1 hm1] at F7
      clear F6 N6
      walk_at "go"
      refine unstop ?_
      have hvl6 : out.toList.length = Tr.length := by rw [hv', List.length_map]
      have hkm : ∀ x, x ∈ kvs.map (·.1) ↔ x ∈ P.map (·.1) := fun x => by rw [hks]
      have hkl : kvs.length = P.length := by
        have h1 := congrArg List.length hks
        rw [List.length_map, List.length_map] at h1; exact h1
      rw [List.take_of_length_le (by rw [List.length_map, hvl6]; exact Nat.le_refl _)] at hab
      have hiv2 : IntVals kvs (fun x => (lev x : Int)) := fun q hq => by
        obtain ⟨t, e⟩ := hiv q hq
        refine ⟨t, ?_⟩
        rw [e]
        show Value.int ((f q.1 : Nat) : Int) t = Value.int ((lev q.1 : Nat) : Int) t
        rw [hab.full hlev (fun q hq => hpm.mem_iff.mp hq) (fun q hq _ => hpm.mem_iff.mpr hq)]
      refine by_call X' T' B' rfl rfl rfl rfl F7 N7 (by show ad + 1 < 500; omega) (hnd6.same rfl) hD7 lod hiv2 ?_ (by omega) ?_ ?_
      · intro e
        rw [e] at hkl
        exact hClo.ne (List.eq_nil_of_length_eq_zero hkl.symm)
      · intro x hx r hr
        obtain ⟨y, hy, e⟩ := hgap x ((hkm x).mp hx) r hr
        exact ⟨y, (hkm y).mpr hy, e⟩
      · intro h8 tk8 rr items e led rows hRw hOk F8 N8 hnd8
        clear F7 N7
        walk_at "go"
        refine hQ9 _ _ ?_
        walk_at "go"
        rename Fr h₀ _ _ _ => F9
        rename News h₀ _ _ _ => N9
        have hsl : ((rr, listOf items.toArray e) :: (led ++ (208, tabObj ps) :: (l, listOf its ne) :: (tups ++ R))).Sublist ((rr, listOf items.toArray e) :: (led ++ (td, o) :: (D, seqObj "list" out c6) :: (208, tabObj ps) :: (l, listOf its ne) :: (tups ++ R))) :=
          .cons₂ _ ((List.Sublist.refl led).append (.cons _ (.cons _ (.refl _))))
        exact hQ _ _ rr items e led rows ps hRw (hOk.keys hkm) F9 (News.sub N9 fun q hq => hsl.subset hq) (hnd8.sublist hsl)
end Mine
end -- S14
section -- L1
open PySem PySem.W PySem.Calls PyProof.Rows
set_option Elab.async false
set_option maxRecDepth 100000
set_option maxHeartbeats 8000000
namespace Mine
local macro_rules | `(tactic| walk_at "no such key") => `(tactic| skip)
local macro_rules | `(tactic| walk_at "no such key") => `(tactic| skip)
local macro_rules | `(tactic| walk_at "mfill") => `(tactic| (w_top off; (have kf : PySem.Challenge.rw_mr0297_01 = PySem.Challenge.rw_mr0297_01 ∧ hd.heap_39 = hd.heap_39 := (by (k_fill; exact ⟨rfl, rfl⟩))); clear kf))
local macro_rules | `(tactic| walk_at "go") => `(tactic| repeat' (first | walk1 | (dsimp only; walk1)))
local macro_rules | `(tactic| walk_at "execs cons") => `(tactic| refine wpAny_execs_cons ?_)
local macro_rules | `(tactic| walk_at "execs nil") => `(tactic| refine wpAny_execs_nil ?_)
local macro_rules | `(tactic| k_room) => `(tactic| ((try simp only [depth_under_make, depth_under_kw, depth_in1, depth_deeper, depth_caller]); (try dsimp only); unfold recursionLimit; omega))
local macro_rules | `(tactic| k_all) => `(tactic| assumption)
local macro_rules | `(tactic| walk_at "mcode") => `(tactic| (refine' code_def ?k1 ?k2 ?k3 ?k4 ?k5 ?kA ?kF ?kK ?k6 ?k7 ?k8 ?k9 ?kB ?_ ?c2 ?c3 ?c4 ?c5; (case k1 => assumption); (case k2 => assumption); (case k3 => assumption); (case k4 => assumption); (case k5 => assumption); (case kA => exact rfl); (case kF => assumption); (case kK => assumption); (case k6 => k_is); (case k7 => k_is); (case k8 => k_room); (case k9 => exact BindsTo.of_eq rfl); (case kB => exact locs rfl); (case c2 => exact rfl); (case c3 => exact rfl); (case c4 => exact rfl); (case c5 => decide)))
local macro_rules | `(tactic| walk_at "exec If") => `(tactic| refine wpAny_If ?_)
local macro_rules | `(tactic| walk_at "mcodeS") => `(tactic| (refine' code_defS ?k1 ?k2 ?k3 ?k4 ?k5 ?XB ?TB ?D ?T0 ?kA ?k6 ?k7 ?k8 ?k9 ?kB ?_ ?cK ?c2 ?c3 ?c4 ?c5; (case kA => exact rfl); (case k2 => assumption); (case k1 => assumption); (case XB => assumption); (case TB => assumption); (case D => assumption); (case T0 => exact KtsTurn.refl); (case k3 => assumption); (case k4 => assumption); (case k5 => assumption); (case k6 => k_is); (case k7 => k_is); (case k8 => k_room); (case k9 => exact BindsTo.of_eq rfl); (case kB => exact locs rfl); (case cK => assumption); (case c2 => exact rfl); (case c3 => exact rfl); (case c4 => exact rfl); (case c5 => decide)))

local macro_rules | `(tactic| walk_at "call ref") => `(tactic| first | ((with_reducible show wpAny _ _ (call (Value.ref 180) _ _) _ _ _); refine stop ?_) | ((with_reducible show wpAny _ _ (call (Value.ref 194) _ _) _ _ _); refine stop ?_) | ((with_reducible show wpAny _ _ (call (Value.ref 169) _ _) _ _ _); refine stop ?_) | ((with_reducible show wpAny _ _ (call (Value.ref 218) _ _) _ _ _); refine stop ?_) | ((with_reducible show wpAny _ _ (call (Value.ref 225) _ _) _ _ _); refine stop ?_) | ((with_reducible show wpAny _ _ (call (Value.ref 206) _ _) _ _ _); refine stop ?_) | ((with_reducible show wpAny _ _ (call (Value.ref 211) _ _) _ _ _); refine stop ?_) | ((with_reducible show wpAny _ _ (call (Value.ref 119) _ _) _ _ _); refine stop ?_))
local macro_rules | `(tactic| walk_at "eval Call Attribute") => `(tactic| ((with_reducible show wpAny _ _ (eval (Expr.Call (Expr.Attribute _ _ _) [_, Expr.Starred _ _] _ _) _) _ _ _); refine stop ?_))
local macro_rules | `(tactic| walk_at "callWith ref") => `(tactic| ((with_reducible show wpAny _ _ (callWith _ _ [] (backTo _ (starEach [_, Expr.Starred _ _] _)) []) _ _ _); refine stop ?_))
local macro_rules | `(tactic| walk_at "binaryOp Mod int int") => `(tactic| ((with_reducible show wpAny _ _ (binaryOp Operator.Mod (Value.int (Nat.cast (Str.length _)) _) _) _ _ _); refine stop ?_))
local macro_rules | `(tactic| walk_at "binaryOp Add int int") => `(tactic| ((with_reducible show wpAny _ _ (binaryOp Operator.Add _ (Value.int (Int.fmod (Nat.cast (Str.length _)) _) _)) _ _ _); refine stop ?_))
local macro_rules | `(tactic| walk_at "pyIter ref") => `(tactic| refine stop ?_)
local macro_rules | `(tactic| walk_at "exec For Tuple Name cons nil") => `(tactic| refine stop ?_)
local macro_rules | `(tactic| walk_at "compareOp NotEq ref ref") => `(tactic| refine stop ?_)
local macro_rules | `(tactic| walk_at "compareOp NotEq str str") => `(tactic| refine stop ?_)
local macro_rules | `(tactic| walk_at "binaryOp Mult ref int") => `(tactic| refine stop ?_)
local macro_rules | `(tactic| walk_at "call builtin:len") => `(tactic| refine stop ?_)
local macro_rules | `(tactic| walk_at "compareOp Eq ref ref") => `(tactic| refine stop ?_)
theorem perm_t1 {α : Type} (Z T : List α) (l a b : α) : (Z ++ (l :: (T ++ [a, b]))).Perm (b :: l :: (T ++ (a :: Z))) := by
  have h1 : (T ++ [a, b]).Perm (b :: (T ++ [a])) := by
    have := List.perm_middle (l₁ := T ++ [a]) (a := b) (l₂ := [])
    simpa only [List.append_assoc, List.cons_append, List.nil_append, List.append_nil] using this
  have h2 : (Z ++ (l :: (T ++ [a, b]))).Perm ((l :: (b :: (T ++ [a]))) ++ Z) := List.perm_append_comm.trans (List.Perm.append_right Z (h1.cons l))
  have h3 : ((l :: (b :: (T ++ [a]))) ++ Z).Perm (b :: l :: (T ++ (a :: Z))) := by
    simpa only [List.cons_append, List.append_assoc, List.nil_append] using List.Perm.swap b l (T ++ (a :: Z))
  exact h2.trans h3
theorem perm_t2 {α : Type} (Z T : List α) (l a : α) : (Z ++ (l :: (T ++ [a]))).Perm (a :: l :: (T ++ Z)) := by
  have h1 : (T ++ [a]).Perm (a :: T) := List.perm_append_comm
  have h2 : (Z ++ (l :: (T ++ [a]))).Perm ((l :: (a :: T)) ++ Z) := List.perm_append_comm.trans (List.Perm.append_right Z (h1.cons l))
  have h3 : ((l :: (a :: T)) ++ Z).Perm (a :: l :: (T ++ Z)) := by
    simpa only [List.cons_append, List.append_assoc, List.nil_append] using List.Perm.swap a l (T ++ Z)
  exact h2.trans h3
theorem perm_t3 {α : Type} (r s d e : α) (G N T : List α) (l a b : α) : (r :: (G ++ (s :: d :: e :: (N ++ (l :: (T ++ [a, b])))))).Perm (b :: l :: (T ++ (a :: r :: (G ++ (s :: d :: e :: N))))) := by
  have := perm_t1 (r :: (G ++ (s :: d :: e :: N))) T l a b
  simpa only [List.cons_append, List.append_assoc] using this
theorem perm_t4 {α : Type} (s d e : α) (N T : List α) (l a b : α) : (b :: l :: (T ++ (a :: (s :: d :: e :: N)))).Perm (s :: d :: e :: (N ++ (l :: (T ++ [a, b])))) := by
  have := (perm_t1 (s :: d :: e :: N) T l a b).symm
  simpa only [List.cons_append, List.append_assoc] using this
theorem perm_t5 {α : Type} (r : α) (G T : List α) (l a b : α) : (r :: (G ++ (l :: (T ++ [a, b])))).Perm (a :: l :: (T ++ (b :: r :: G))) := by
  have h1 : (T ++ [a, b]).Perm (T ++ [b, a]) := List.Perm.append_left T (List.Perm.swap b a [])
  have h2 := (List.Perm.append_left (r :: G) (h1.cons l)).trans (perm_t1 (r :: G) T l b a)
  simpa only [List.cons_append, List.append_assoc] using h2
theorem sub_t {α : Type} (r1 r2 a b l : α) (G1 G2 T X : List α) : (b :: l :: (T ++ (a :: X))).Sublist (r2 :: (G2 ++ (b :: l :: (T ++ (a :: r1 :: (G1 ++ X)))))) :=
  .cons _ (List.Sublist.trans (.cons_cons _ (.cons_cons _ (List.Sublist.append (List.Sublist.refl _) (.cons_cons _ (.cons _ (List.sublist_append_right _ _)))))) (List.sublist_append_right _ _))
theorem dlev_at {P : List (Str × Option Str)} (hC : Clo P) : ∀ q ∈ P, dlev q.1 = match q.2 with | none => 0 | some y => dlev y + 1 := by
  rintro ⟨x, o⟩ hq
  cases o with
  | none => exact dlev_none (hC.reads _ hq).symm
  | some y => exact dlev_some (hC.reads _ hq).symm
theorem rows_ok {Ks : List Str} {lev : Str → Nat} {rows : List (List Str)} (h : RowsOk Ks lev rows) (hok : ∀ x ∈ Ks, PyData.strOk x = true) : ∀ ss ∈ rows, ∀ x ∈ ss, PyData.strOk x = true := by
  intro ss hs x hx
  obtain ⟨r, hr⟩ := List.getElem?_of_mem hs
  exact hok x (((h.row r ss hr).2.1 x).mp hx).1
theorem perm_end {α : Type} (a b c d e f : α) (N M R : List α) (z : α) : ((a :: b :: c :: (N ++ (d :: e :: f :: (M ++ R)))) ++ [z]).Perm (a :: b :: c :: (N ++ (d :: e :: f :: (M ++ (z :: R))))) := by
  have h : (R ++ [z]).Perm (z :: R) := List.perm_append_comm
  have := List.Perm.append_left (a :: b :: c :: (N ++ (d :: e :: f :: M))) h
  simpa only [List.cons_append, List.append_assoc] using this
theorem gr_nil : Gr [] [] [] := ⟨List.nodup_nil, fun _ h => (nomatch h), fun _ h => (nomatch h), fun _ h => (nomatch h), fun _ h => (nomatch h)⟩
theorem told_nil (x : Str) : x ∈ ([] : List Nd).map (·.key) ↔ Told [] x := ⟨fun h => (nomatch h), fun ⟨_, h, _⟩ => (nomatch h)⟩
theorem perm_two {α : Type} (a b c d e f : α) (N M R : List α) : (a :: b :: c :: (N ++ (d :: e :: f :: (M ++ R)))).Perm (d :: e :: f :: (M ++ (a :: b :: c :: (N ++ R)))) := by
  have := List.perm_append_comm_assoc (a :: b :: c :: N) (d :: e :: f :: M) R
  simpa only [List.cons_append, List.append_assoc] using this
theorem law_depth (env : Env) : (callerA.deeper env).depth < 400 := by
  show 1 + claimMargin + 1 < 400
  decide
theorem law_units (env : Env) : (callerA.deeper env).units ≤ 100 := by
  show callerA.units + _ ≤ 100
  decide
theorem law_units64 (env : Env) : (callerA.deeper env).units + 64 < cLine := by
  have := law_units env
  unfold cLine; omega
theorem law_holds : PySem.Challenge.rw_mr0297_01.Holds := by
  refine hd (by rfl) (by rfl) (by rfl) ?_
  k_go0
  all_goals (try k_fold)
  refine hideQ fun Q9 hQ9 => ?_
  walk_at "go"
  rename Fr _ _ _ _ => F
  rename News _ _ _ _ => N
  rename (hd.heap_39 _).In (ghostOf _ _) => X
  rename Top _ _ _ _ _ (ghostOf _ _) => T
  rename Below _ _ _ _ => B
  rename CodeHd _ 205 201 => hc5
  rename CodeHd _ 210 208 => hc0
  rename IntsAre _ (_ ++ _) => hI
  rename World => w0
  rename Shared => s9
  refine unstop ?_
  refine wpAny_with_toks (n := 1) (by dsimp only; omega) ?_
  refine texts_call (X.keeps F.keep) (T.keeps F.keep) (Nat.lt_trans (law_depth _) (by decide)) rfl (by dsimp only; omega) (N _ (.head _)).1 rfl rfl hI (by simp; omega) ?_
  intro l1 h1 tk1 ts1 its1 n1 st1 sz1 g1 f1 hS1 hG1 hne1 hlen1 hok1 h01 htk1
  have F1 := Fr.stays F st1
  have N1 : News _ _ h1 ((l1, listOf its1 n1) :: [(208, tabObj #[]), (201, tabObj #[])]) := fun q hq => by
    rcases List.mem_cons.mp hq with e | hq
    · rw [e]; exact news_fresh F (news := [(l1, listOf its1 n1)]) (fun q hq => by rw [List.mem_singleton.mp hq]; exact ⟨g1, f1⟩) _ (.head _)
    · exact News.stays N st1 q (.tail _ (.tail _ (.tail _ (.tail _ (.tail _ hq)))))
  have hl1 : ts1.length ≤ 11 := by
    rw [hlen1]; simp; omega
  clear F N hI
  dsimp only at htk1
  walk_at "go"
  refine unstop ?_
  refine wpAny_with_toks (n := 1) htk1 ?_
  have h0m : Str.empty ∈ ts1 := List.mem_of_getElem? h01
  refine closed_call (Lx := Lc ts1) (X.keeps F1.keep) (T.keeps F1.keep) (Nat.lt_trans (law_depth _) (by decide)) rfl htk1 (N1 _ (.head _)).1 hS1 hG1 hne1 hl1 (fun x hx => Lc_self hx) (Lc_closed h0m hok1) ?_
  intro l2 h2 tk2 its2 n2 tups P st2 sz2 f2 hP hC hPL htk2
  dsimp only at htk2
  have F2 := Fr.stays F1 st2
  have N2 : News _ _ h2 (((l2, listOf its2 n2) :: tups) ++ [(208, tabObj #[]), (201, tabObj #[])]) := fun q hq => by
    rcases List.mem_append.mp hq with hq | hq
    · exact news_fresh F1 f2 q hq
    · exact News.stays N1 st2 q (.tail _ hq)
  have hPl : P.length ≤ 61 := by
    obtain ⟨r, hr⟩ : ∃ r, ts1 = Str.empty :: r := by
      cases ts1 with
      | nil => exact absurd rfl hne1
      | cons a r => exact ⟨r, by simp at h01; rw [h01]⟩
    have h3 := Lc_len r hr
    have h4 : r.length + 1 ≤ 11 := by rw [hr] at hl1; exact hl1
    have h5 : (P.map (·.1)).length ≤ (Lc ts1).length := List.Nodup.length_le_of_subset hC.nodup fun x hx => by
      obtain ⟨q, hq, rfl⟩ := List.mem_map.mp hx
      exact hPL q hq
    rw [List.length_map] at h5
    omega
  have hPok : ∀ x ∈ P.map (·.1), PyData.strOk x = true := fun x hx => by
    obtain ⟨q, hq, rfl⟩ := List.mem_map.mp hx
    exact Lc_ok hok1 _ (hPL q hq)
  have hnd2 : ND (((l2, listOf its2 n2) :: tups) ++ [(208, tabObj #[]), (201, tabObj #[])]) := by
    have h1 : ND tups := hP.nd hC.nodup fun q hq => (f2 q (.tail _ hq)).1
    refine ND.append (ND.cons h1 fun q hq e => ?_) ?_ ?_
    · obtain ⟨x', tx', u', e1, _⟩ := hP.shape q hq
      have h3 := (f2 q (.tail _ hq)).1
      rw [e, (f2 _ (.head _)).1, e1] at h3
      have h4 := congrArg Obj.cls (Option.some.inj h3)
      injection h4 with h4
      exact absurd h4 (by decide)
    · exact (by decide : [208, 201].Nodup)
    · intro q hq r hr e
      have h3 := (f2 q hq).2
      rw [e, (N1 r (.tail _ hr)).1] at h3
      cases h3
  clear F1 N1
  walk_at "go"
  refine unstop ?_
  rename Fr _ _ _ _ => F3
  rename News _ _ _ _ => N3
  refine wpAny_with_toks (n := 1) (by dsimp only; omega) ?_
  refine newSorter X T B rfl rfl rfl F3 N3 (Nat.lt_trans (law_depth _) (by decide)) hnd2 ?_
  intro S1 dS1 D1 oD1 a1 a2 a3 a4 a5 a6 h4 tk4 F4 N4 hnd4 lo1 hD1 htk4
  dsimp only at htk4
  clear F3 N3
  walk_at "go"
  refine unstop ?_
  rename Fr _ _ _ _ => F5
  rename News _ _ _ _ => N5
  refine wpAny_with_toks (n := 1) (by dsimp only; omega) ?_
  refine newSorter X T B rfl rfl rfl F5 N5 (Nat.lt_trans (law_depth _) (by decide)) hnd4 ?_
  intro S2 dS2 D2 oD2 b1 b2 b3 b4 b5 b6 h6 tk6 F6 N6 hnd6 lo2 hD2 htk6
  dsimp only at htk6
  clear F5 N5
  walk_at "go"
  refine unstop ?_
  refine wpAny_For ?_
  walk_at "go"
  rename Fr _ _ _ _ => F7
  rename News _ _ _ _ => N7
  obtain ⟨T0, hv0, ht0, hp0, hrd0⟩ := hP.rows
  obtain ⟨RR, hRR⟩ : ∃ RR, RR = ((l2, W.listOf its2 n2) :: tups) ++ [(208, tabObj #[]), (201, tabObj #[])] := ⟨_, rfl⟩
  rw [← hRR] at N7 hnd6
  obtain ⟨J, hJ⟩ : ∃ J : Nat → (Str → Option Value) → List (Addr × Obj) → Prop, ∀ i m news, J i m news ↔ ∀ C9 : Prop, (∀ (oD1 oD2 : Obj) (ns1 ns2 : List Nd), news = (S1, instObj 169 dS1) :: (dS1, attrObj w0 D1 .none (.int 0 a5) (.int 0 a6) a1 a2 a3 a4) :: (D1, oD1) :: (nodesL ns1 ++ ((S2, instObj 169 dS2) :: (dS2, attrObj w0 D2 .none (.int 0 b5) (.int 0 b6) b1 b2 b3 b4) :: (D2, oD2) :: (nodesL ns2 ++ RR))) → m (Str.ofString "pairs") = some (.ref l2) → m (Str.ofString "down") = some (.ref S1) → m (Str.ofString "back") = some (.ref S2) → ND ((S1, instObj 169 dS1) :: (dS1, attrObj w0 D1 .none (.int 0 a5) (.int 0 a6) a1 a2 a3 a4) :: (D1, oD1) :: (nodesL ns1 ++ ((S2, instObj 169 dS2) :: (dS2, attrObj w0 D2 .none (.int 0 b5) (.int 0 b6) b1 b2 b3 b4) :: (D2, oD2) :: (nodesL ns2 ++ RR)))) → oD1.IsDictOf (PySem.strKind PG w0) (kvsOf ns1) → oD2.IsDictOf (PySem.strKind PG w0) (kvsOf ns2) → Gr ns1 (egD (P.take i)) (egD (P.take i)) → Gr ns2 (egB (P.take i)) (egB (P.take i)) → (∀ x, x ∈ ns1.map (·.key) ↔ Told (P.take i) x) → (∀ x, x ∈ ns2.map (·.key) ↔ Told (P.take i) x) → C9) → C9 := ⟨_, fun _ _ _ => Iff.rfl⟩
  have hl2R : (l2, W.listOf its2 n2) ∈ RR := by rw [hRR]; exact .head _
  have htR : ∀ q ∈ tups, q ∈ RR := fun q hq => by rw [hRR]; exact .tail _ (List.mem_append_left _ hq)
  refine iter_pairsE (vs := its2.toList) (ol := W.listOf its2 n2) (ep := n2) J (fun i => match T0[i]? with | some r => (.str r.2.1 r.2.2.1, r.2.2.2.1) | none => (.none, .none)) rfl (N7 _ (.tail _ (.tail _ (.tail _ (.tail _ (.tail _ (.tail _ hl2R))))))).1 rfl (by rw [Array.toArray_toList]) (.inr ?_) ?_ F7 (News.permP N7 (perm_two _ _ _ _ _ _ [] [] _)) ((hJ _ _ _).mpr fun C9 k9 => k9 oD1 oD2 ([]) ([]) rfl rfl rfl rfl (hnd6.perm (perm_two _ _ _ _ _ _ [] [] _)) hD1 hD2 ?_ ?_ ?_ ?_) ?_ ?_
  · intro i m₁ news₁ hj
    refine (hJ _ _ _).mp hj _ fun oD1 oD2 ns1 ns2 eJ4 _ => ?_
    intros
    subst eJ4
    exact .tail _ (.tail _ (.tail _ (List.mem_append_right _ (.tail _ (.tail _ (.tail _ (List.mem_append_right _ hl2R)))))))
  · intro i v hv
    rw [hv0, List.getElem?_map] at hv
    cases hT : T0[i]? with
    | none => rw [hT] at hv; cases hv
    | some r =>
      rw [hT] at hv
      obtain rfl : Row5.v r = v := by simpa using hv
      refine ⟨r.1, (tupOf (.str r.2.1 r.2.2.1) r.2.2.2.1), 0, rfl, rfl, rfl, .inr fun j m₁ news₁ hj => ?_⟩
      refine (hJ _ _ _).mp hj _ fun oD1 oD2 ns1 ns2 eJ4 _ => ?_
      intros
      subst eJ4
      exact .tail _ (.tail _ (.tail _ (List.mem_append_right _ (.tail _ (.tail _ (.tail _ (List.mem_append_right _ (htR _ (by rw [ht0]; exact List.mem_map.mpr ⟨r, List.mem_of_getElem? hT, rfl⟩)))))))))
  · exact gr_nil
  · exact gr_nil
  · exact told_nil
  · exact told_nil
  · clear F7 N7 hD1 hD2 hnd6 hnd4 hnd2
    intro i m₁ news₁ h tk I oI htk hi hj hn F7 N7
    refine (hJ _ _ _).mp hj _ fun oD1 oD2 ns1 ns2 eJ4 hm1 hm2 hm3 hnd hD1 hD2 hG1 hG2 hK1 hK2 => ?_
    subst eJ4
    have hil : i < T0.length := by rw [hv0, List.length_map] at hi; exact hi
    obtain ⟨r, hr⟩ : ∃ r, T0[i]? = some r := ⟨_, List.getElem?_eq_getElem hil⟩
    obtain ⟨ra, x, tx, u, oy⟩ := r
    have hpi : P[i]? = some (x, oy) := by rw [hp0, List.getElem?_map, hr]; rfl
    have hpP : (x, oy) ∈ P := List.mem_of_getElem? hpi
    have hrdi : ReadV oy u := hrd0 _ (List.mem_of_getElem? hr)
    have hoy : oy = askF x := hC.reads _ hpP
    have hgx : GoodT x := hC.good _ hpP
    have htk' : P.take (i + 1) = P.take i ++ [(x, oy)] := by rw [List.take_add_one, hpi]; rfl
    rw [hr] at F7
    dsimp only at F7
    rw [know_eq3 hm1 hm2 hm3] at F7
    replace N7 := News.permP N7 (perm_end _ _ _ _ _ _ _ _ _ _)
    have hnd7 := (ND.snoc (o := oI) hnd hn).perm (perm_end _ _ _ _ _ _ _ _ _ _)
    have hfin : ∀ (h' : Heap) (m' : Str → Option Value) (oE1 oE2 : Obj) (nt1 nt2 : List Nd), Fr (ghostOf s9.heap [(210, 208), (205, 201)]) s9.heap.objs.size h' m' → m' (Str.ofString "pairs") = some (.ref l2) → m' (Str.ofString "down") = some (.ref S1) → m' (Str.ofString "back") = some (.ref S2) →
        News (ghostOf s9.heap [(210, 208), (205, 201)]) s9.heap.objs.size h' ((S1, instObj 169 dS1) :: (dS1, attrObj w0 D1 .none (.int 0 a5) (.int 0 a6) a1 a2 a3 a4) :: (D1, oE1) :: (nodesL nt1 ++ ((S2, instObj 169 dS2) :: (dS2, attrObj w0 D2 .none (.int 0 b5) (.int 0 b6) b1 b2 b3 b4) :: (D2, oE2) :: (nodesL nt2 ++ ((I, oI) :: RR))))) → ND ((S1, instObj 169 dS1) :: (dS1, attrObj w0 D1 .none (.int 0 a5) (.int 0 a6) a1 a2 a3 a4) :: (D1, oE1) :: (nodesL nt1 ++ ((S2, instObj 169 dS2) :: (dS2, attrObj w0 D2 .none (.int 0 b5) (.int 0 b6) b1 b2 b3 b4) :: (D2, oE2) :: (nodesL nt2 ++ ((I, oI) :: RR))))) →
        oE1.IsDictOf (PySem.strKind PG w0) (kvsOf nt1) → oE2.IsDictOf (PySem.strKind PG w0) (kvsOf nt2) → Gr nt1 (egD (P.take (i + 1))) (egD (P.take (i + 1))) → Gr nt2 (egB (P.take (i + 1))) (egB (P.take (i + 1))) →
        (∀ x, x ∈ nt1.map (·.key) ↔ Told (P.take (i + 1)) x) → (∀ x, x ∈ nt2.map (·.key) ↔ Told (P.take (i + 1)) x) →
        ∃ (m'' : Str → Option Value) (news' : List (Addr × Obj)), Fr (ghostOf s9.heap [(210, 208), (205, 201)]) s9.heap.objs.size h' m'' ∧ News (ghostOf s9.heap [(210, 208), (205, 201)]) s9.heap.objs.size h' (news' ++ [(I, oI)]) ∧ (∀ p ∈ news', p.1 ≠ I) ∧ J (i + 1) m'' news' := by
      intro h' m' oE1 oE2 nt1 nt2 Fa q1 q2 q3 Na Da d1 d2 g1 g2 k1 k2
      have Db := Da.perm (perm_end _ _ _ _ _ _ _ _ _ _).symm
      exact ⟨m', _, Fa, News.permP Na (perm_end _ _ _ _ _ _ _ _ _ _).symm, (Db.perm List.perm_append_comm).ne, ((hJ _ _ _).mpr fun C9 k9 => k9 oE1 oE2 nt1 nt2 rfl q1 q2 q3 ((Db.perm List.perm_append_comm).tail) d1 d2 g1 g2 k1 k2)⟩
    have hn1 : ns1.length ≤ 61 := Nat.le_trans (nodes_len hC hG1 fun x => (hK1 x).mp) hPl
    have hn2 : ns2.length ≤ 61 := Nat.le_trans (nodes_len hC hG2 fun x => (hK2 x).mp) hPl
    have he1 : (egD (P.take i)).length ≤ 122 := by have := egD_len (P.take i); have := take_len P i; omega
    have he2 : (egB (P.take i)).length ≤ 122 := by have := egB_len (P.take i); have := take_len P i; omega
    have hxok : PyData.strOk x = true := hPok _ (List.mem_map.mpr ⟨_, hpP, rfl⟩)
    walk_at "go"
    refine unstop ?_
    refine ask_call X T X T B rfl rfl F7 N7 (Nat.lt_trans (law_depth _) (by decide)) (law_units _) rfl (by dsimp only at htk ⊢; omega) hgx.2 ?_
    intro v h8 tk8 F8 hcase
    clear F7 N7
    rcases hcase with ⟨y, t', ha, rfl, N8⟩ | ⟨lr, k1, ha, rfl, hlt, N8⟩
    · obtain rfl : oy = some y := hoy.trans ha
      obtain ⟨ty, rfl⟩ : ∃ t, u = .str y t := hrdi
      walk_at "go"
      refine unstop ?_
      refine ne_str_same ?_
      walk_at "go"
      refine unstop ?_
      refine StarCall_ ?_
      walk_at "go"
      refine unstop ?_
      refine callWith_MS2 (K := hd.heap_39 w0.params) (f := 119) (self := .ref S1) (by k_is) ?_
      walk_at "go"
      refine unstop ?_
      refine len_str (by have := hgx.2; omega) ?_
      walk_at "go"
      refine unstop ?_
      refine mod_int' (by decide) ?_
      walk_at "go"
      refine unstop ?_
      refine add_int ?_
      rw [wice_eq x]
      walk_at "go"
      refine unstop ?_
      rename Fr _ _ _ _ => F9
      rename News _ _ _ _ => N9
      refine mul_one F9 N9 (.head _) (by omega) (by have := wice_le x; omega) ?_
      intro D10 h10 F10 N10 l10
      rw [Int.toNat_natCast] at N10
      clear F9 N9
      walk_at "go"
      refine star_seq F10 N10 (.head _) rfl rfl (.inl rfl) rfl (by rw [sizeLine_eq]; have := wice_le x; simp; omega) ?_
      intro h11 F11 N11
      clear F10 N10 l10
      walk1
      refine ⟨⟨(N11 _ (.tail _ (.tail _ (.head _)))).1, X.keeps F11.keep⟩, ?_⟩
      refine call_bound (f := 119) (self := .ref S1) (N11 _ (.tail _ (.tail _ (.head _)))).1 ?_
      rw [List.append_nil]
      replace N11 := News.sub N11 fun q hq => .tail _ (.tail _ (.tail _ hq))
      refine add_call X T B rfl rfl rfl rfl F11 N11 (Nat.lt_trans (law_depth _) (by decide)) hnd7 lo1 hD1 (by omega) (strs_rep y t' (wice x)) (by rw [List.length_replicate]; have := wice_le x; omega) hG1 (by omega) ?_
      intro h12 tk12 nt1 oE1 F12 N12 hnd12 hE1 hG12 hK12
      clear F11 N11
      replace N12 := News.permP N12 (perm_two _ _ _ _ _ _ _ _ _)
      replace hnd12 := hnd12.perm (perm_two _ _ _ _ _ _ _ _ _)
      dsimp only
      walk_at "go"
      refine unstop ?_
      refine StarCall_ ?_
      walk_at "go"
      refine unstop ?_
      refine callWith_MS2 (K := hd.heap_39 w0.params) (f := 119) (self := .ref S2) (by k_is) ?_
      walk_at "go"
      refine unstop ?_
      refine len_str (by have := hgx.2; omega) ?_
      walk_at "go"
      refine unstop ?_
      refine mod_int' (by decide) ?_
      walk_at "go"
      refine unstop ?_
      refine add_int ?_
      rw [wice_eq x]
      walk_at "go"
      refine unstop ?_
      rename Fr _ _ _ _ => F9
      rename News _ _ _ _ => N9
      refine mul_one F9 N9 (.head _) (by omega) (by have := wice_le x; omega) ?_
      intro D10 h10 F10 N10 l10
      rw [Int.toNat_natCast] at N10
      clear F9 N9
      walk_at "go"
      refine star_seq F10 N10 (.head _) rfl rfl (.inl rfl) rfl (by rw [sizeLine_eq]; have := wice_le x; simp; omega) ?_
      intro h11 F11 N11
      clear F10 N10 l10
      walk1
      refine ⟨⟨(N11 _ (.tail _ (.tail _ (.head _)))).1, X.keeps F11.keep⟩, ?_⟩
      refine call_bound (f := 119) (self := .ref S2) (N11 _ (.tail _ (.tail _ (.head _)))).1 ?_
      rw [List.append_nil]
      replace N11 := News.sub N11 fun q hq => .tail _ (.tail _ (.tail _ hq))
      refine add_call X T B rfl rfl rfl rfl F11 N11 (Nat.lt_trans (law_depth _) (by decide)) hnd12 lo2 hD2 (by omega) (strs_rep x tx (wice x)) (by rw [List.length_replicate]; have := wice_le x; omega) hG2 (by omega) ?_
      intro h14 tk14 nt2 oE2 F14 N14 hnd14 hE2 hG14 hK14
      clear F11 N11
      replace N14 := News.permP N14 (perm_two _ _ _ _ _ _ _ _ _)
      replace hnd14 := hnd14.perm (perm_two _ _ _ _ _ _ _ _ _)
      dsimp only
      walk_at "go"
      obtain ⟨m'', news', Fa, Na, hna, hja⟩ := hfin _ _ oE1 oE2 nt1 nt2 F14 rfl rfl rfl N14 hnd14 hE1 hE2 (by rw [htk', egD_some]; exact hG12) (by rw [htk', egB_some]; exact hG14)
        (fun z => by rw [htk', Told.some, hK12, hK1, mem_rep_iff (wice_le x).1]) (fun z => by rw [htk', Told.some, hK14, hK2, mem_rep_iff (wice_le x).1]; exact or_congr_right or_comm)
      exact FPost.next Fa Na hna hja
    · obtain rfl : oy = none := hoy.trans ha
      obtain rfl : u = .none := hrdi
      walk_at "go"
      refine unstop ?_
      rename Fr _ _ _ _ => F9
      rename News _ _ _ _ => N9
      refine ne_strs (xs := [_, _]) (ys := [_, _]) (ss := [Str.ofString "refused", x]) N9 (.tail _ (.head _)) (.head _) (.cons _ _ (.cons _ _ .nil)) (.cons _ _ (.cons _ _ .nil)) (fun z hz => ?_) (law_units64 _) ?_
      · rcases List.mem_cons.mp hz with e | hz
        · rw [e]; decide +kernel
        · rw [List.mem_singleton.mp hz]; exact hxok
      have N10 := News.sub N9 fun q hq => .tail _ (.tail _ hq)
      clear N9
      walk_at "go"
      refine unstop ?_
      rename Fr _ _ _ _ => F11
      rename News _ _ _ _ => N11
      refine wpAny_call (add_call X T B rfl rfl rfl rfl F11 N11 (Nat.lt_trans (law_depth _) (by decide)) hnd7 lo1 hD1 (by omega) .nil (by decide) hG1 (by omega) ?_)
      intro h12 tk12 nt1 oE1 F12 N12 hnd12 hE1 hG12 hK12
      clear F11 N11
      replace N12 := News.permP N12 (perm_two _ _ _ _ _ _ _ _ _)
      replace hnd12 := hnd12.perm (perm_two _ _ _ _ _ _ _ _ _)
      walk_at "go"
      refine unstop ?_
      rename Fr _ _ _ _ => F13
      rename News _ _ _ _ => N13
      refine wpAny_call (add_call X T B rfl rfl rfl rfl F13 N13 (Nat.lt_trans (law_depth _) (by decide)) hnd12 lo2 hD2 (by omega) .nil (by decide) hG2 (by omega) ?_)
      intro h14 tk14 nt2 oE2 F14 N14 hnd14 hE2 hG14 hK14
      clear F13 N13
      replace N14 := News.permP N14 (perm_two _ _ _ _ _ _ _ _ _)
      replace hnd14 := hnd14.perm (perm_two _ _ _ _ _ _ _ _ _)
      walk_at "go"
      obtain ⟨m'', news', Fa, Na, hna, hja⟩ := hfin _ _ oE1 oE2 nt1 nt2 F14 rfl rfl rfl N14 hnd14 hE1 hE2 (by rw [htk', egD_none]; simpa using hG12) (by rw [htk', egB_none]; simpa using hG14)
        (fun z => by rw [htk', Told.none, hK12, hK1]; simp) (fun z => by rw [htk', Told.none, hK14, hK2]; simp)
      exact FPost.next Fa Na hna hja
  · clear F7 N7 hD1 hD2 hnd6 hnd4 hnd2
    intro m₁ news₁ h tk htk hj F8 N8
    refine (hJ _ _ _).mp hj _ fun oE1 oE2 nt1 nt2 eJ4 hm1 hm2 hm3 hndE hE1 hE2 hG1 hG2 hK1 hK2 => ?_
    subst eJ4
    have hPt : P.take its2.toList.length = P := List.take_of_length_le (by rw [hP.len.1]; exact Nat.le_refl _)
    rw [hPt] at hG1 hG2 hK1 hK2
    rw [know_eq3 hm1 hm2 hm3] at F8
    have hk1 : ∀ x, x ∈ nt1.map (·.key) ↔ x ∈ P.map (·.1) := fun x => (hK1 x).trans (Told.all hC x)
    have hk2 : ∀ x, x ∈ nt2.map (·.key) ↔ x ∈ P.map (·.1) := fun x => (hK2 x).trans (Told.all hC x)
    have lv1 := lvD hC hG1.nodup hk1
    obtain ⟨lev, hTall⟩ := tall hC
    have lv2 := lvB hC hTall hG2.nodup hk2
    have hn1 : (nt1.map (·.key)).length < 64 := by
      have := List.Nodup.length_le_of_subset hG1.nodup fun x hx => (hk1 x).mp hx
      rw [List.length_map] at this ⊢; rw [List.length_map] at this; omega
    have hn2 : (nt2.map (·.key)).length < 64 := by
      have := List.Nodup.length_le_of_subset hG2.nodup fun x hx => (hk2 x).mp hx
      rw [List.length_map] at this ⊢; rw [List.length_map] at this; omega
    have he1 : (egD P).length ≤ 2600 := by have := egD_len P; omega
    have he2 : (egB P).length ≤ 2600 := by have := egB_len P; omega
    clear hm1 hm2 hm3 hj hK1 hK2
    walk_at "go"
    refine unstop ?_
    refine rounds_call X T X T B rfl rfl rfl F8 N8 (Nat.lt_trans (law_depth _) (by decide)) (law_units _) (fun x hx => hPok x ((hk1 x).mp hx)) hndE hE1 lo1 hG1.run hn1 he1 lv1 (fun _ _ => rfl) ?_
    intro h9 tk9 rr1 it1 e1 led1 rows1 hR1 hO1 F9 N9 hnd9
    clear F8 N8 hndE
    rw [hRR] at N9 hnd9
    replace N9 := News.permP N9 (perm_t3 _ _ _ _ _ _ _ _ _ _)
    replace hnd9 := hnd9.perm (perm_t3 _ _ _ _ _ _ _ _ _ _)
    walk_at "go"
    refine unstop ?_
    rename Fr _ _ _ _ => F10
    rename News _ _ _ _ => N10
    refine times_call (lev := dlev) hc5 X T B rfl rfl rfl rfl F10 N10 (law_depth _) hnd9 hP hC (by omega) (dlev_at hC) (fun x hx r hr => ?_) ?_
    · obtain ⟨z, hz, e⟩ := lv1.below _ x ((hk1 x).mpr hx) rfl r hr
      exact ⟨z, (hk1 z).mp hz, e⟩
    intro h11 tk11 rr2 it2 e2 led2 rows2 ps2 hR2 hO2 F11 N11 hnd11
    clear F10 N10 hnd9
    walk_at "go"
    refine unstop ?_
    rename Fr _ _ _ _ => F12
    rename News _ _ _ _ => N12
    obtain rfl := (hO1.congr hk1).uniq hO2
    have hrk1 := rows_ok hO2 hPok
    refine rows_eq N12 (.tail _ (List.mem_append_right _ (.tail _ (.tail _ (List.mem_append_right _ (.tail _ (.head _))))))) (.head _) hR1 hR2 (fun q hq => .tail _ (List.mem_append_right _ (.tail _ (.tail _ (List.mem_append_right _ (.tail _ (.tail _ (List.mem_append_left _ hq))))))))
      (fun q hq => .tail _ (List.mem_append_left _ hq)) hrk1 (law_units64 _) ?_
    clear hR1 hR2 hO1 hO2 hrk1
    have N13 := News.permP (News.sub N12 fun q hq => (sub_t _ _ _ _ _ _ _ _ _).mem hq) (perm_t4 _ _ _ _ _ _ _ _)
    have hnd13 := (hnd11.sublist (sub_t _ _ _ _ _ _ _ _ _)).perm (perm_t4 _ _ _ _ _ _ _ _)
    clear N12 hnd11
    walk_at "go"
    refine unstop ?_
    rename Fr _ _ _ _ => F14
    rename News _ _ _ _ => N14
    refine rounds_call X T X T B rfl rfl rfl F14 N14 (Nat.lt_trans (law_depth _) (by decide)) (law_units _) (fun x hx => hPok x ((hk2 x).mp hx)) hnd13 hE2 lo2 hG2.run hn2 he2 lv2 (fun _ _ => rfl) ?_
    intro h15 tk15 rr3 it3 e3 led3 rows3 hR3 hO3 F15 N15 hnd15
    clear F14 N14 hnd13
    replace N15 := News.permP N15 (perm_t5 _ _ _ _ _ _)
    replace hnd15 := hnd15.perm (perm_t5 _ _ _ _ _ _)
    walk_at "go"
    refine unstop ?_
    rename Fr _ _ _ _ => F16
    rename News _ _ _ _ => N16
    refine rowsL_call (lev := lev) hc0 X T B rfl rfl rfl rfl F16 N16 (law_depth _) hnd15 hP hC (by omega) hTall (fun x hx r hr => ?_) ?_
    · obtain ⟨z, hz, e⟩ := lv2.below _ x ((hk2 x).mpr hx) rfl r hr
      exact ⟨z, (hk2 z).mp hz, e⟩
    intro h17 tk17 rr4 it4 e4 led4 rows4 ps4 hR4 hO4 F17 N17 hnd17
    clear F16 N16 hnd15
    walk_at "go"
    refine unstop ?_
    rename Fr _ _ _ _ => F18
    rename News _ _ _ _ => N18
    obtain rfl := (hO3.congr hk2).uniq hO4
    have hrk3 := rows_ok hO4 hPok
    refine rows_eq N18 (.tail _ (List.mem_append_right _ (.tail _ (.tail _ (List.mem_append_right _ (.tail _ (.head _))))))) (.head _) hR3 hR4 (fun q hq => .tail _ (List.mem_append_right _ (.tail _ (.tail _ (List.mem_append_right _ (.tail _ (.tail _ hq)))))))
      (fun q hq => .tail _ (List.mem_append_left _ hq)) hrk3 (law_units64 _) ?_
    clear hR3 hR4 hO3 hO4 hrk3
    refine hQ9 _ _ ?_
    refine ⟨?_, ⟨_, (N18 _ (.tail _ (List.mem_append_right _ (.head _)))).1⟩, ⟨_, (N18 _ (.tail _ (List.mem_append_right _ (.tail _ (.tail _ (List.mem_append_right _ (.head _))))))).1⟩, trivial⟩
    clear N18 hnd17
    refine goodW_bool F18 (by assumption) (fun _ => rfl) ?_
    first
      | rfl
      | with_unfolding_all rfl
end Mine
end -- L1
open PySem PySem.W PyProof.Rows
theorem PySem.Challenge.cw_mr0297_01_holds : PySem.Challenge.rw_mr0297_01.Holds := by
  exact Mine.law_holds
