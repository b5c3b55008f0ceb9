import PyProof.Rows.All
import Wide.All
import OpenK.AllK
import Wide.FinOn
import KE.FramesApart
import KE.KDictSum
import KE.KDictList
import OpenK.TopRead
import Lean
import PySem.Challenge.RW_te0001_04
open PySem PySem.W PySem.Calls PyProof.Rows
set_option Elab.async false
set_option maxRecDepth 100000
set_option compiler.extract_closed false
set_option maxHeartbeats 8000000
set_option linter.unusedVariables false
section
set_option autoImplicit false
namespace Mine
noncomputable abbrev pw : Program := PySem.Challenge.pw_te0001_04
noncomputable def stAt (l : List Stmt) (i : Nat) : Stmt := l.getD i (.Pass ⟨0, 0, 0, 0⟩)
noncomputable def stBody : Stmt → List Stmt
  | .FunctionDef _ _ b .. => b
  | .ClassDef _ _ _ b .. => b
  | _ => []
noncomputable def stArgs : Stmt → Arguments
  | .FunctionDef _ a .. => a
  | _ => ⟨[], [], none, [], [], none, []⟩
noncomputable def stScope : Stmt → Scope
  | .FunctionDef _ _ _ _ _ _ sc .. => sc
  | _ => { kind := .function, names := [], isGenerator := false, isCoroutine := false }
noncomputable def view : Program := { pw with main := { pw.main with body := [0, 2, 3, 4, 5, 6, 7, 8, 9, 11, 12, 13, 14, 15, 16, 17, 18, 19].map (stAt pw.main.body) } }
noncomputable def lawHeap (P : Params) : Frag := [
  (2, Obj.mk (Value.none) (none) (Data.dict   #[{ hash := PyData.keyHash P (Str.ofString "type.__subclasses__.Exception.0"),       key := Value.str (Str.ofString "type.__subclasses__.Exception.0") 212, val := Value.int 31 0 },     { hash := PyData.keyHash P (Str.ofString "type.__subclasses__.Exception.n"),       key := Value.str (Str.ofString "type.__subclasses__.Exception.n") 213, val := Value.int 1 0 }]   2) (#[])),
  (3, Obj.mk (Value.type "dict") (none) (Data.dict   #[{ hash := PyData.keyHash P (Str.ofString "__name__"), key := Value.str (Str.ofString "__name__") 165,       val := Value.str (Str.ofString "law_te0001_04") 536 },     { hash := PyData.keyHash P (Str.ofString "__doc__"), key := Value.str (Str.ofString "__doc__") 166,       val := Value.none },     { hash := PyData.keyHash P (Str.ofString "__package__"), key := Value.str (Str.ofString "__package__") 167,       val := Value.none },     { hash := PyData.keyHash P (Str.ofString "__loader__"), key := Value.str (Str.ofString "__loader__") 168,       val := Value.builtin "__main__.__loader__#opaque" },     { hash := PyData.keyHash P (Str.ofString "__spec__"), key := Value.str (Str.ofString "__spec__") 169,       val := Value.none },     { hash := PyData.keyHash P (Str.ofString "__annotations__"), key := Value.str (Str.ofString "__annotations__") 170,       val := Value.ref 6 },     { hash := PyData.keyHash P (Str.ofString "__builtins__"), key := Value.str (Str.ofString "__builtins__") 171,       val := Value.ref 4 },     { hash := PyData.keyHash P (Str.ofString "__file__"), key := Value.str (Str.ofString "__file__") 173,       val := Value.str (Str.ofString "/claim/cut.py") 172 },     { hash := PyData.keyHash P (Str.ofString "__cached__"), key := Value.str (Str.ofString "__cached__") 174,       val := Value.none },     { hash := PyData.keyHash P (Str.ofString "_wall"), key := Value.str (Str.ofString "_wall") 193,       val := Value.ref 21 },     { hash := PyData.keyHash P (Str.ofString "YaccError"), key := Value.str (Str.ofString "YaccError") 215,       val := Value.ref 31 },     { hash := PyData.keyHash P (Str.ofString "_is_identifier"), key := Value.str (Str.ofString "_is_identifier") 221,       val := Value.ref 39 },     { hash := PyData.keyHash P (Str.ofString "_IDENTIFIER"), key := Value.str (Str.ofString "_IDENTIFIER") 223,       val := Value.str (Str.ofString "abcdefghijklmnopqrstuvwxyzABCDEFGHIJKLMNOPQRSTUVWXYZ0123456789_-") 222 },     { hash := PyData.keyHash P (Str.ofString "_literal"), key := Value.str (Str.ofString "_literal") 230,       val := Value.ref 46 },     { hash := PyData.keyHash P (Str.ofString "Production"), key := Value.str (Str.ofString "Production") 323,       val := Value.ref 100 },     { hash := PyData.keyHash P (Str.ofString "rightmost_terminal"),       key := Value.str (Str.ofString "rightmost_terminal") 332, val := Value.ref 111 },     { hash := PyData.keyHash P (Str.ofString "GrammarError"), key := Value.str (Str.ofString "GrammarError") 348,       val := Value.ref 121 },     { hash := PyData.keyHash P (Str.ofString "Grammar"), key := Value.str (Str.ofString "Grammar") 535,       val := Value.ref 246 },     { hash := PyData.keyHash P (Str.ofString "_law_NAMES"), key := Value.str (Str.ofString "_law_NAMES") 543,       val := Value.ref 257 },     { hash := PyData.keyHash P (Str.ofString "_law_SYMBOLS"), key := Value.str (Str.ofString "_law_SYMBOLS") 551,       val := Value.ref 258 },     { hash := PyData.keyHash P (Str.ofString "_law_next"), key := Value.str (Str.ofString "_law_next") 558,       val := Value.ref 265 },     { hash := PyData.keyHash P (Str.ofString "_law_rules"), key := Value.str (Str.ofString "_law_rules") 564,       val := Value.ref 270 },     { hash := PyData.keyHash P (Str.ofString "_law_taken"), key := Value.str (Str.ofString "_law_taken") 570,       val := Value.ref 275 },     { hash := PyData.keyHash P (Str.ofString "_law_grammar"), key := Value.str (Str.ofString "_law_grammar") 581,       val := Value.ref 282 },     { hash := PyData.keyHash P (Str.ofString "_law_ended"), key := Value.str (Str.ofString "_law_ended") 587,       val := Value.ref 287 },     { hash := PyData.keyHash P (Str.ofString "_law_joined"), key := Value.str (Str.ofString "_law_joined") 593,       val := Value.ref 292 },     { hash := PyData.keyHash P (Str.ofString "law"), key := Value.str (Str.ofString "law") 599, val := Value.ref 297 }]   27) (#[])),
  (20, Obj.mk (Value.type "code") (none) (Data.fields   #[Value.str (Str.ofString "_wall") 187, Value.str (Str.ofString "_wall") 188,     Value.str (Str.ofString "/claim/cut.py") 189, Value.int 1 0, Value.int 1 0, Value.int 0 0, Value.int 0 0,     Value.int 3 0, Value.ref 15, Value.bool true, Value.int 181 0, Value.ref 16, Value.none, Value.ref 17, Value.ref 18,     Value.ref 19, Value.int 191 0, Value.int 1 0, Value.str (Str.ofString "/claim/cut.py") 192]) (#[])),
  (21, Obj.mk (Value.type "function") (none) (Data.func (FuncData.mk (Str.ofString "_wall") (Str.ofString "_wall") (stArgs (stAt pw.main.body 0)) (.stmts (stBody (stAt pw.main.body 0))) (stScope (stAt pw.main.body 0)) 3 [] (Value.none) (Value.none) (Value.none) (Value.str (Str.ofString "__main__") 164) (none) (Value.ref 20) (Value.none) 0)) (#[])),
  (30, Obj.mk (Value.type "dict") (none) (Data.dict   #[{ hash := PyData.keyHash P (Str.ofString "__module__"), key := Value.str (Str.ofString "__module__") 203,       val := Value.str (Str.ofString "ply.yacc") 194 },     { hash := PyData.keyHash P (Str.ofString "__firstlineno__"), key := Value.str (Str.ofString "__firstlineno__") 207,       val := Value.int 5 206 },     { hash := PyData.keyHash P (Str.ofString "__static_attributes__"),       key := Value.str (Str.ofString "__static_attributes__") 208, val := Value.ref 29 },     { hash := PyData.keyHash P (Str.ofString "__weakref__"), key := Value.str (Str.ofString "__weakref__") 210,       val := Value.ref 32 },     { hash := PyData.keyHash P (Str.ofString "__doc__"), key := Value.str (Str.ofString "__doc__") 211,       val := Value.none }]   3) (#[])),
  (31, Obj.mk (Value.type "type") (none) (Data.cls   { name := Str.ofString "YaccError", bases := [Value.type "Exception"],     mro := [Value.ref 31, Value.type "Exception", Value.type "BaseException", Value.type "object"], ns := 30,     qualname := Str.ofString "YaccError", subclasses := [Value.ref 121] }) (#[some (Value.ref 22), none, some (Value.str (Str.ofString "YaccError") 196),   some (Value.str (Str.ofString "YaccError") 204), some (Value.builtin "Exception.__new__"), some (Value.bool true)])),
  (32, Obj.mk (Value.type "getset_descriptor") (none) (Data.fields   #[Value.str (Str.ofString "__weakref__") 209, Value.ref 31, Value.builtin "ExceptionGroup.__weakref__", Value.none]) (#[])),
  (38, Obj.mk (Value.type "code") (none) (Data.fields   #[Value.str (Str.ofString "_is_identifier") 216, Value.str (Str.ofString "_is_identifier") 217,     Value.str (Str.ofString "/claim/cut.py") 218, Value.int 7 0, Value.int 1 0, Value.int 0 0, Value.int 0 0,     Value.int 3 0, Value.ref 35, Value.bool true, Value.int 181 0, Value.ref 36, Value.none, Value.none, Value.none,     Value.ref 37, Value.int 219 0, Value.int 7 0, Value.str (Str.ofString "/claim/cut.py") 220]) (#[])),
  (39, Obj.mk (Value.type "function") (none) (Data.func (FuncData.mk (Str.ofString "_is_identifier") (Str.ofString "_is_identifier") (stArgs (stAt pw.main.body 3)) (.stmts (stBody (stAt pw.main.body 3))) (stScope (stAt pw.main.body 3)) 3 [] (Value.none) (Value.none) (Value.none) (Value.str (Str.ofString "ply.yacc") 194) (none) (Value.ref 38) (Value.none) 0)) (#[])),
  (45, Obj.mk (Value.type "code") (none) (Data.fields   #[Value.str (Str.ofString "_literal") 224, Value.str (Str.ofString "_literal") 225,     Value.str (Str.ofString "/claim/cut.py") 226, Value.int 10 0, Value.int 1 0, Value.int 0 0, Value.int 0 0,     Value.int 3 0, Value.ref 40, Value.bool true, Value.int 181 0, Value.ref 41, Value.none, Value.ref 42, Value.ref 43,     Value.ref 44, Value.int 228 0, Value.int 10 0, Value.str (Str.ofString "/claim/cut.py") 229]) (#[])),
  (46, Obj.mk (Value.type "function") (none) (Data.func (FuncData.mk (Str.ofString "_literal") (Str.ofString "_literal") (stArgs (stAt pw.main.body 5)) (.stmts (stBody (stAt pw.main.body 5))) (stScope (stAt pw.main.body 5)) 3 [] (Value.none) (Value.none) (Value.none) (Value.str (Str.ofString "ply.yacc") 194) (none) (Value.ref 45) (Value.none) 0)) (#[])),
  (54, Obj.mk (Value.type "tuple") (none) (Data.seq #[Value.str (Str.ofString "right") 247, Value.int 0 248]) (#[])),
  (55, Obj.mk (Value.type "tuple") (none) (Data.seq #[Value.ref 54, Value.none, Value.str (Str.ofString "") 249, Value.int 0 250]) (#[])),
  (61, Obj.mk (Value.type "code") (none) (Data.fields   #[Value.str (Str.ofString "__init__") 251, Value.str (Str.ofString "Production.__init__") 252,     Value.str (Str.ofString "/claim/cut.py") 253, Value.int 18 0, Value.int 8 0, Value.int 0 0, Value.int 0 0,     Value.int 3 0, Value.ref 56, Value.bool true, Value.int 181 0, Value.ref 57, Value.none, Value.ref 58, Value.ref 59,     Value.ref 60, Value.int 263 0, Value.int 18 0, Value.str (Str.ofString "/claim/cut.py") 264]) (#[])),
  (62, Obj.mk (Value.type "function") (none) (Data.func (FuncData.mk (Str.ofString "__init__") (Str.ofString "Production.__init__") (stArgs (stAt (stBody (stAt pw.main.body 6)) 2)) (.stmts (stBody (stAt (stBody (stAt pw.main.body 6)) 2))) (stScope (stAt (stBody (stAt pw.main.body 6)) 2)) 3 [] (Value.ref 55) (Value.none) (Value.none) (Value.str (Str.ofString "ply.yacc") 194) (none) (Value.ref 61) (Value.none) 0)) (#[])),
  (68, Obj.mk (Value.type "code") (none) (Data.fields   #[Value.str (Str.ofString "__str__") 266, Value.str (Str.ofString "Production.__str__") 267,     Value.str (Str.ofString "/claim/cut.py") 268, Value.int 39 0, Value.int 1 0, Value.int 0 0, Value.int 0 0,     Value.int 3 0, Value.ref 63, Value.bool true, Value.int 181 0, Value.ref 64, Value.none, Value.ref 65, Value.ref 66,     Value.ref 67, Value.int 270 0, Value.int 39 0, Value.str (Str.ofString "/claim/cut.py") 271]) (#[])),
  (69, Obj.mk (Value.type "function") (none) (Data.func (FuncData.mk (Str.ofString "__str__") (Str.ofString "Production.__str__") (stArgs (stAt (stBody (stAt pw.main.body 6)) 3)) (.stmts (stBody (stAt (stBody (stAt pw.main.body 6)) 3))) (stScope (stAt (stBody (stAt pw.main.body 6)) 3)) 3 [] (Value.none) (Value.none) (Value.none) (Value.str (Str.ofString "ply.yacc") 194) (none) (Value.ref 68) (Value.none) 0)) (#[])),
  (75, Obj.mk (Value.type "code") (none) (Data.fields   #[Value.str (Str.ofString "__repr__") 273, Value.str (Str.ofString "Production.__repr__") 274,     Value.str (Str.ofString "/claim/cut.py") 275, Value.int 42 0, Value.int 1 0, Value.int 0 0, Value.int 0 0,     Value.int 3 0, Value.ref 70, Value.bool true, Value.int 181 0, Value.ref 71, Value.none, Value.ref 72, Value.ref 73,     Value.ref 74, Value.int 277 0, Value.int 42 0, Value.str (Str.ofString "/claim/cut.py") 278]) (#[])),
  (76, Obj.mk (Value.type "function") (none) (Data.func (FuncData.mk (Str.ofString "__repr__") (Str.ofString "Production.__repr__") (stArgs (stAt (stBody (stAt pw.main.body 6)) 4)) (.stmts (stBody (stAt (stBody (stAt pw.main.body 6)) 4))) (stScope (stAt (stBody (stAt pw.main.body 6)) 4)) 3 [] (Value.none) (Value.none) (Value.none) (Value.str (Str.ofString "ply.yacc") 194) (none) (Value.ref 75) (Value.none) 0)) (#[])),
  (82, Obj.mk (Value.type "code") (none) (Data.fields   #[Value.str (Str.ofString "__len__") 280, Value.str (Str.ofString "Production.__len__") 281,     Value.str (Str.ofString "/claim/cut.py") 282, Value.int 45 0, Value.int 1 0, Value.int 0 0, Value.int 0 0,     Value.int 3 0, Value.ref 77, Value.bool true, Value.int 181 0, Value.ref 78, Value.none, Value.ref 79, Value.ref 80,     Value.ref 81, Value.int 284 0, Value.int 45 0, Value.str (Str.ofString "/claim/cut.py") 285]) (#[])),
  (83, Obj.mk (Value.type "function") (none) (Data.func (FuncData.mk (Str.ofString "__len__") (Str.ofString "Production.__len__") (stArgs (stAt (stBody (stAt pw.main.body 6)) 5)) (.stmts (stBody (stAt (stBody (stAt pw.main.body 6)) 5))) (stScope (stAt (stBody (stAt pw.main.body 6)) 5)) 3 [] (Value.none) (Value.none) (Value.none) (Value.str (Str.ofString "ply.yacc") 194) (none) (Value.ref 82) (Value.none) 0)) (#[])),
  (89, Obj.mk (Value.type "code") (none) (Data.fields   #[Value.str (Str.ofString "__getitem__") 287, Value.str (Str.ofString "Production.__getitem__") 288,     Value.str (Str.ofString "/claim/cut.py") 289, Value.int 48 0, Value.int 2 0, Value.int 0 0, Value.int 0 0,     Value.int 3 0, Value.ref 84, Value.bool true, Value.int 181 0, Value.ref 85, Value.none, Value.ref 86, Value.ref 87,     Value.ref 88, Value.int 292 0, Value.int 48 0, Value.str (Str.ofString "/claim/cut.py") 293]) (#[])),
  (90, Obj.mk (Value.type "function") (none) (Data.func (FuncData.mk (Str.ofString "__getitem__") (Str.ofString "Production.__getitem__") (stArgs (stAt (stBody (stAt pw.main.body 6)) 6)) (.stmts (stBody (stAt (stBody (stAt pw.main.body 6)) 6))) (stScope (stAt (stBody (stAt pw.main.body 6)) 6)) 3 [] (Value.none) (Value.none) (Value.none) (Value.str (Str.ofString "ply.yacc") 194) (none) (Value.ref 89) (Value.none) 0)) (#[])),
  (96, Obj.mk (Value.type "code") (none) (Data.fields   #[Value.str (Str.ofString "bind") 295, Value.str (Str.ofString "Production.bind") 296,     Value.str (Str.ofString "/claim/cut.py") 297, Value.int 51 0, Value.int 2 0, Value.int 0 0, Value.int 0 0,     Value.int 3 0, Value.ref 91, Value.bool true, Value.int 181 0, Value.ref 92, Value.none, Value.ref 93, Value.ref 94,     Value.ref 95, Value.int 300 0, Value.int 51 0, Value.str (Str.ofString "/claim/cut.py") 301]) (#[])),
  (97, Obj.mk (Value.type "function") (none) (Data.func (FuncData.mk (Str.ofString "bind") (Str.ofString "Production.bind") (stArgs (stAt (stBody (stAt pw.main.body 6)) 7)) (.stmts (stBody (stAt (stBody (stAt pw.main.body 6)) 7))) (stScope (stAt (stBody (stAt pw.main.body 6)) 7)) 3 [] (Value.none) (Value.none) (Value.none) (Value.str (Str.ofString "ply.yacc") 194) (none) (Value.ref 96) (Value.none) 0)) (#[])),
  (99, Obj.mk (Value.type "dict") (none) (Data.dict   #[{ hash := PyData.keyHash P (Str.ofString "__module__"), key := Value.str (Str.ofString "__module__") 238,       val := Value.str (Str.ofString "ply.yacc") 194 },     { hash := PyData.keyHash P (Str.ofString "__firstlineno__"), key := Value.str (Str.ofString "__firstlineno__") 242,       val := Value.int 14 241 },     { hash := PyData.keyHash P (Str.ofString "reduced"), key := Value.str (Str.ofString "reduced") 244,       val := Value.int 0 243 },     { hash := PyData.keyHash P (Str.ofString "lr0_added"), key := Value.str (Str.ofString "lr0_added") 246,       val := Value.int 0 245 },     { hash := PyData.keyHash P (Str.ofString "__init__"), key := Value.str (Str.ofString "__init__") 265,       val := Value.ref 62 },     { hash := PyData.keyHash P (Str.ofString "__str__"), key := Value.str (Str.ofString "__str__") 272,       val := Value.ref 69 },     { hash := PyData.keyHash P (Str.ofString "__repr__"), key := Value.str (Str.ofString "__repr__") 279,       val := Value.ref 76 },     { hash := PyData.keyHash P (Str.ofString "__len__"), key := Value.str (Str.ofString "__len__") 286,       val := Value.ref 83 },     { hash := PyData.keyHash P (Str.ofString "__getitem__"), key := Value.str (Str.ofString "__getitem__") 294,       val := Value.ref 90 },     { hash := PyData.keyHash P (Str.ofString "bind"), key := Value.str (Str.ofString "bind") 302, val := Value.ref 97 },     { hash := PyData.keyHash P (Str.ofString "__static_attributes__"),       key := Value.str (Str.ofString "__static_attributes__") 316, val := Value.ref 98 },     { hash := PyData.keyHash P (Str.ofString "__dict__"), key := Value.str (Str.ofString "__dict__") 318,       val := Value.ref 101 },     { hash := PyData.keyHash P (Str.ofString "__weakref__"), key := Value.str (Str.ofString "__weakref__") 320,       val := Value.ref 102 },     { hash := PyData.keyHash P (Str.ofString "__doc__"), key := Value.str (Str.ofString "__doc__") 321,       val := Value.none }]   4) (#[])),
  (100, Obj.mk (Value.type "type") (none) (Data.cls   { name := Str.ofString "Production", bases := [Value.type "object"], mro := [Value.ref 100, Value.type "object"],     ns := 99, qualname := Str.ofString "Production" }) (#[some (Value.ref 47), none, some (Value.str (Str.ofString "Production") 231),   some (Value.str (Str.ofString "Production") 239), some (Value.builtin "object.__new__"), some (Value.bool true)])),
  (101, Obj.mk (Value.type "getset_descriptor") (none) (Data.fields   #[Value.str (Str.ofString "__dict__") 317, Value.ref 100, Value.builtin "function.__dict__",     Value.builtin "function.__dict__#set"]) (#[])),
  (102, Obj.mk (Value.type "getset_descriptor") (none) (Data.fields   #[Value.str (Str.ofString "__weakref__") 319, Value.ref 100, Value.builtin "ExceptionGroup.__weakref__", Value.none]) (#[])),
  (110, Obj.mk (Value.type "code") (none) (Data.fields   #[Value.str (Str.ofString "rightmost_terminal") 324, Value.str (Str.ofString "rightmost_terminal") 325,     Value.str (Str.ofString "/claim/cut.py") 326, Value.int 53 0, Value.int 2 0, Value.int 0 0, Value.int 0 0,     Value.int 3 0, Value.ref 105, Value.bool true, Value.int 181 0, Value.ref 106, Value.none, Value.ref 107,     Value.ref 108, Value.ref 109, Value.int 330 0, Value.int 53 0, Value.str (Str.ofString "/claim/cut.py") 331]) (#[])),
  (111, Obj.mk (Value.type "function") (none) (Data.func (FuncData.mk (Str.ofString "rightmost_terminal") (Str.ofString "rightmost_terminal") (stArgs (stAt pw.main.body 7)) (.stmts (stBody (stAt pw.main.body 7))) (stScope (stAt pw.main.body 7)) 3 [] (Value.none) (Value.none) (Value.none) (Value.str (Str.ofString "ply.yacc") 194) (none) (Value.ref 110) (Value.none) 0)) (#[])),
  (120, Obj.mk (Value.type "dict") (none) (Data.dict   #[{ hash := PyData.keyHash P (Str.ofString "__module__"), key := Value.str (Str.ofString "__module__") 340,       val := Value.str (Str.ofString "ply.yacc") 194 },     { hash := PyData.keyHash P (Str.ofString "__firstlineno__"), key := Value.str (Str.ofString "__firstlineno__") 344,       val := Value.int 60 343 },     { hash := PyData.keyHash P (Str.ofString "__static_attributes__"),       key := Value.str (Str.ofString "__static_attributes__") 345, val := Value.ref 119 },     { hash := PyData.keyHash P (Str.ofString "__doc__"), key := Value.str (Str.ofString "__doc__") 346,       val := Value.none }]   2) (#[])),
  (121, Obj.mk (Value.type "type") (none) (Data.cls   { name := Str.ofString "GrammarError", bases := [Value.ref 31],     mro := [Value.ref 121, Value.ref 31, Value.type "Exception", Value.type "BaseException", Value.type "object"],     ns := 120, qualname := Str.ofString "GrammarError" }) (#[some (Value.ref 112), none, some (Value.str (Str.ofString "GrammarError") 333),   some (Value.str (Str.ofString "GrammarError") 341), some (Value.builtin "Exception.__new__"), some (Value.bool true)])),
  (136, Obj.mk (Value.type "code") (none) (Data.fields   #[Value.str (Str.ofString "__init__") 361, Value.str (Str.ofString "Grammar.__init__") 362,     Value.str (Str.ofString "/claim/cut.py") 363, Value.int 64 0, Value.int 2 0, Value.int 0 0, Value.int 0 0,     Value.int 3 0, Value.ref 131, Value.bool true, Value.int 181 0, Value.ref 132, Value.none, Value.ref 133,     Value.ref 134, Value.ref 135, Value.int 367 0, Value.int 64 0, Value.str (Str.ofString "/claim/cut.py") 368]) (#[])),
  (137, Obj.mk (Value.type "function") (none) (Data.func (FuncData.mk (Str.ofString "__init__") (Str.ofString "Grammar.__init__") (stArgs (stAt (stBody (stAt pw.main.body 9)) 0)) (.stmts (stBody (stAt (stBody (stAt pw.main.body 9)) 0))) (stScope (stAt (stBody (stAt pw.main.body 9)) 0)) 3 [] (Value.none) (Value.none) (Value.none) (Value.str (Str.ofString "ply.yacc") 194) (none) (Value.ref 136) (Value.none) 0)) (#[])),
  (143, Obj.mk (Value.type "code") (none) (Data.fields   #[Value.str (Str.ofString "__len__") 370, Value.str (Str.ofString "Grammar.__len__") 371,     Value.str (Str.ofString "/claim/cut.py") 372, Value.int 79 0, Value.int 1 0, Value.int 0 0, Value.int 0 0,     Value.int 3 0, Value.ref 138, Value.bool true, Value.int 181 0, Value.ref 139, Value.none, Value.ref 140,     Value.ref 141, Value.ref 142, Value.int 374 0, Value.int 79 0, Value.str (Str.ofString "/claim/cut.py") 375]) (#[])),
  (144, Obj.mk (Value.type "function") (none) (Data.func (FuncData.mk (Str.ofString "__len__") (Str.ofString "Grammar.__len__") (stArgs (stAt (stBody (stAt pw.main.body 9)) 1)) (.stmts (stBody (stAt (stBody (stAt pw.main.body 9)) 1))) (stScope (stAt (stBody (stAt pw.main.body 9)) 1)) 3 [] (Value.none) (Value.none) (Value.none) (Value.str (Str.ofString "ply.yacc") 194) (none) (Value.ref 143) (Value.none) 0)) (#[])),
  (150, Obj.mk (Value.type "code") (none) (Data.fields   #[Value.str (Str.ofString "__getitem__") 377, Value.str (Str.ofString "Grammar.__getitem__") 378,     Value.str (Str.ofString "/claim/cut.py") 379, Value.int 82 0, Value.int 2 0, Value.int 0 0, Value.int 0 0,     Value.int 3 0, Value.ref 145, Value.bool true, Value.int 181 0, Value.ref 146, Value.none, Value.ref 147,     Value.ref 148, Value.ref 149, Value.int 382 0, Value.int 82 0, Value.str (Str.ofString "/claim/cut.py") 383]) (#[])),
  (151, Obj.mk (Value.type "function") (none) (Data.func (FuncData.mk (Str.ofString "__getitem__") (Str.ofString "Grammar.__getitem__") (stArgs (stAt (stBody (stAt pw.main.body 9)) 2)) (.stmts (stBody (stAt (stBody (stAt pw.main.body 9)) 2))) (stScope (stAt (stBody (stAt pw.main.body 9)) 2)) 3 [] (Value.none) (Value.none) (Value.none) (Value.str (Str.ofString "ply.yacc") 194) (none) (Value.ref 150) (Value.none) 0)) (#[])),
  (157, Obj.mk (Value.type "code") (none) (Data.fields   #[Value.str (Str.ofString "set_precedence") 385, Value.str (Str.ofString "Grammar.set_precedence") 386,     Value.str (Str.ofString "/claim/cut.py") 387, Value.int 85 0, Value.int 4 0, Value.int 0 0, Value.int 0 0,     Value.int 3 0, Value.ref 152, Value.bool true, Value.int 181 0, Value.ref 153, Value.none, Value.ref 154,     Value.ref 155, Value.ref 156, Value.int 392 0, Value.int 85 0, Value.str (Str.ofString "/claim/cut.py") 393]) (#[])),
  (158, Obj.mk (Value.type "function") (none) (Data.func (FuncData.mk (Str.ofString "set_precedence") (Str.ofString "Grammar.set_precedence") (stArgs (stAt (stBody (stAt pw.main.body 9)) 3)) (.stmts (stBody (stAt (stBody (stAt pw.main.body 9)) 3))) (stScope (stAt (stBody (stAt pw.main.body 9)) 3)) 3 [] (Value.none) (Value.none) (Value.none) (Value.str (Str.ofString "ply.yacc") 194) (none) (Value.ref 157) (Value.none) 0)) (#[])),
  (159, Obj.mk (Value.type "tuple") (none) (Data.seq #[Value.none, Value.str (Str.ofString "") 395, Value.int 0 396]) (#[])),
  (165, Obj.mk (Value.type "code") (none) (Data.fields   #[Value.str (Str.ofString "add_production") 397, Value.str (Str.ofString "Grammar.add_production") 398,     Value.str (Str.ofString "/claim/cut.py") 399, Value.int 88 0, Value.int 6 0, Value.int 0 0, Value.int 0 0,     Value.int 3 0, Value.ref 160, Value.bool true, Value.int 181 0, Value.ref 161, Value.none, Value.ref 162,     Value.ref 163, Value.ref 164, Value.int 416 0, Value.int 88 0, Value.str (Str.ofString "/claim/cut.py") 417]) (#[])),
  (166, Obj.mk (Value.type "function") (none) (Data.func (FuncData.mk (Str.ofString "add_production") (Str.ofString "Grammar.add_production") (stArgs (stAt (stBody (stAt pw.main.body 9)) 4)) (.stmts (stBody (stAt (stBody (stAt pw.main.body 9)) 4))) (stScope (stAt (stBody (stAt pw.main.body 9)) 4)) 3 [] (Value.ref 159) (Value.none) (Value.none) (Value.str (Str.ofString "ply.yacc") 194) (none) (Value.ref 165) (Value.none) 0)) (#[])),
  (167, Obj.mk (Value.type "tuple") (none) (Data.seq #[Value.none]) (#[])),
  (173, Obj.mk (Value.type "code") (none) (Data.fields   #[Value.str (Str.ofString "set_start") 419, Value.str (Str.ofString "Grammar.set_start") 420,     Value.str (Str.ofString "/claim/cut.py") 421, Value.int 146 0, Value.int 2 0, Value.int 0 0, Value.int 0 0,     Value.int 3 0, Value.ref 168, Value.bool true, Value.int 181 0, Value.ref 169, Value.none, Value.ref 170,     Value.ref 171, Value.ref 172, Value.int 424 0, Value.int 146 0, Value.str (Str.ofString "/claim/cut.py") 425]) (#[])),
  (174, Obj.mk (Value.type "function") (none) (Data.func (FuncData.mk (Str.ofString "set_start") (Str.ofString "Grammar.set_start") (stArgs (stAt (stBody (stAt pw.main.body 9)) 5)) (.stmts (stBody (stAt (stBody (stAt pw.main.body 9)) 5))) (stScope (stAt (stBody (stAt pw.main.body 9)) 5)) 3 [] (Value.ref 167) (Value.none) (Value.none) (Value.str (Str.ofString "ply.yacc") 194) (none) (Value.ref 173) (Value.none) 0)) (#[])),
  (178, Obj.mk (Value.type "code") (none) (Data.fields   #[Value.str (Str.ofString "find_unreachable") 427, Value.str (Str.ofString "Grammar.find_unreachable") 428,     Value.str (Str.ofString "/claim/cut.py") 429, Value.int 155 0, Value.int 1 0, Value.int 0 0, Value.int 0 0,     Value.int 3 0, Value.ref 175, Value.bool true, Value.int 181 0, Value.ref 176, Value.none, Value.none, Value.none,     Value.ref 177, Value.int 430 0, Value.int 155 0, Value.str (Str.ofString "/claim/cut.py") 431]) (#[])),
  (179, Obj.mk (Value.type "function") (none) (Data.func (FuncData.mk (Str.ofString "find_unreachable") (Str.ofString "Grammar.find_unreachable") (stArgs (stAt (stBody (stAt pw.main.body 9)) 6)) (.stmts (stBody (stAt (stBody (stAt pw.main.body 9)) 6))) (stScope (stAt (stBody (stAt pw.main.body 9)) 6)) 3 [] (Value.none) (Value.none) (Value.none) (Value.str (Str.ofString "ply.yacc") 194) (none) (Value.ref 178) (Value.none) 0)) (#[])),
  (185, Obj.mk (Value.type "code") (none) (Data.fields   #[Value.str (Str.ofString "infinite_cycles") 433, Value.str (Str.ofString "Grammar.infinite_cycles") 434,     Value.str (Str.ofString "/claim/cut.py") 435, Value.int 168 0, Value.int 1 0, Value.int 0 0, Value.int 0 0,     Value.int 3 0, Value.ref 180, Value.bool true, Value.int 181 0, Value.ref 181, Value.none, Value.ref 182,     Value.ref 183, Value.ref 184, Value.int 447 0, Value.int 168 0, Value.str (Str.ofString "/claim/cut.py") 448]) (#[])),
  (186, Obj.mk (Value.type "function") (none) (Data.func (FuncData.mk (Str.ofString "infinite_cycles") (Str.ofString "Grammar.infinite_cycles") (stArgs (stAt (stBody (stAt pw.main.body 9)) 7)) (.stmts (stBody (stAt (stBody (stAt pw.main.body 9)) 7))) (stScope (stAt (stBody (stAt pw.main.body 9)) 7)) 3 [] (Value.none) (Value.none) (Value.none) (Value.str (Str.ofString "ply.yacc") 194) (none) (Value.ref 185) (Value.none) 0)) (#[])),
  (192, Obj.mk (Value.type "code") (none) (Data.fields   #[Value.str (Str.ofString "undefined_symbols") 450, Value.str (Str.ofString "Grammar.undefined_symbols") 451,     Value.str (Str.ofString "/claim/cut.py") 452, Value.int 201 0, Value.int 1 0, Value.int 0 0, Value.int 0 0,     Value.int 3 0, Value.ref 187, Value.bool true, Value.int 181 0, Value.ref 188, Value.none, Value.ref 189,     Value.ref 190, Value.ref 191, Value.int 457 0, Value.int 201 0, Value.str (Str.ofString "/claim/cut.py") 458]) (#[])),
  (193, Obj.mk (Value.type "function") (none) (Data.func (FuncData.mk (Str.ofString "undefined_symbols") (Str.ofString "Grammar.undefined_symbols") (stArgs (stAt (stBody (stAt pw.main.body 9)) 8)) (.stmts (stBody (stAt (stBody (stAt pw.main.body 9)) 8))) (stScope (stAt (stBody (stAt pw.main.body 9)) 8)) 3 [] (Value.none) (Value.none) (Value.none) (Value.str (Str.ofString "ply.yacc") 194) (none) (Value.ref 192) (Value.none) 0)) (#[])),
  (199, Obj.mk (Value.type "code") (none) (Data.fields   #[Value.str (Str.ofString "unused_terminals") 460, Value.str (Str.ofString "Grammar.unused_terminals") 461,     Value.str (Str.ofString "/claim/cut.py") 462, Value.int 211 0, Value.int 1 0, Value.int 0 0, Value.int 0 0,     Value.int 3 0, Value.ref 194, Value.bool true, Value.int 181 0, Value.ref 195, Value.none, Value.ref 196,     Value.ref 197, Value.ref 198, Value.int 467 0, Value.int 211 0, Value.str (Str.ofString "/claim/cut.py") 468]) (#[])),
  (200, Obj.mk (Value.type "function") (none) (Data.func (FuncData.mk (Str.ofString "unused_terminals") (Str.ofString "Grammar.unused_terminals") (stArgs (stAt (stBody (stAt pw.main.body 9)) 9)) (.stmts (stBody (stAt (stBody (stAt pw.main.body 9)) 9))) (stScope (stAt (stBody (stAt pw.main.body 9)) 9)) 3 [] (Value.none) (Value.none) (Value.none) (Value.str (Str.ofString "ply.yacc") 194) (none) (Value.ref 199) (Value.none) 0)) (#[])),
  (206, Obj.mk (Value.type "code") (none) (Data.fields   #[Value.str (Str.ofString "unused_rules") 470, Value.str (Str.ofString "Grammar.unused_rules") 471,     Value.str (Str.ofString "/claim/cut.py") 472, Value.int 218 0, Value.int 1 0, Value.int 0 0, Value.int 0 0,     Value.int 3 0, Value.ref 201, Value.bool true, Value.int 181 0, Value.ref 202, Value.none, Value.ref 203,     Value.ref 204, Value.ref 205, Value.int 478 0, Value.int 218 0, Value.str (Str.ofString "/claim/cut.py") 479]) (#[])),
  (207, Obj.mk (Value.type "function") (none) (Data.func (FuncData.mk (Str.ofString "unused_rules") (Str.ofString "Grammar.unused_rules") (stArgs (stAt (stBody (stAt pw.main.body 9)) 10)) (.stmts (stBody (stAt (stBody (stAt pw.main.body 9)) 10))) (stScope (stAt (stBody (stAt pw.main.body 9)) 10)) 3 [] (Value.none) (Value.none) (Value.none) (Value.str (Str.ofString "ply.yacc") 194) (none) (Value.ref 206) (Value.none) 0)) (#[])),
  (213, Obj.mk (Value.type "code") (none) (Data.fields   #[Value.str (Str.ofString "unused_precedence") 481, Value.str (Str.ofString "Grammar.unused_precedence") 482,     Value.str (Str.ofString "/claim/cut.py") 483, Value.int 226 0, Value.int 1 0, Value.int 0 0, Value.int 0 0,     Value.int 3 0, Value.ref 208, Value.bool true, Value.int 181 0, Value.ref 209, Value.none, Value.ref 210,     Value.ref 211, Value.ref 212, Value.int 485 0, Value.int 226 0, Value.str (Str.ofString "/claim/cut.py") 486]) (#[])),
  (214, Obj.mk (Value.type "function") (none) (Data.func (FuncData.mk (Str.ofString "unused_precedence") (Str.ofString "Grammar.unused_precedence") (stArgs (stAt (stBody (stAt pw.main.body 9)) 11)) (.stmts (stBody (stAt (stBody (stAt pw.main.body 9)) 11))) (stScope (stAt (stBody (stAt pw.main.body 9)) 11)) 3 [] (Value.none) (Value.none) (Value.none) (Value.str (Str.ofString "ply.yacc") 194) (none) (Value.ref 213) (Value.none) 0)) (#[])),
  (220, Obj.mk (Value.type "code") (none) (Data.fields   #[Value.str (Str.ofString "_first") 488, Value.str (Str.ofString "Grammar._first") 489,     Value.str (Str.ofString "/claim/cut.py") 490, Value.int 229 0, Value.int 2 0, Value.int 0 0, Value.int 0 0,     Value.int 3 0, Value.ref 215, Value.bool true, Value.int 181 0, Value.ref 216, Value.none, Value.ref 217,     Value.ref 218, Value.ref 219, Value.int 493 0, Value.int 229 0, Value.str (Str.ofString "/claim/cut.py") 494]) (#[])),
  (221, Obj.mk (Value.type "function") (none) (Data.func (FuncData.mk (Str.ofString "_first") (Str.ofString "Grammar._first") (stArgs (stAt (stBody (stAt pw.main.body 9)) 12)) (.stmts (stBody (stAt (stBody (stAt pw.main.body 9)) 12))) (stScope (stAt (stBody (stAt pw.main.body 9)) 12)) 3 [] (Value.none) (Value.none) (Value.none) (Value.str (Str.ofString "ply.yacc") 194) (none) (Value.ref 220) (Value.none) 0)) (#[])),
  (227, Obj.mk (Value.type "code") (none) (Data.fields   #[Value.str (Str.ofString "compute_first") 496, Value.str (Str.ofString "Grammar.compute_first") 497,     Value.str (Str.ofString "/claim/cut.py") 498, Value.int 232 0, Value.int 1 0, Value.int 0 0, Value.int 0 0,     Value.int 3 0, Value.ref 222, Value.bool true, Value.int 181 0, Value.ref 223, Value.none, Value.ref 224,     Value.ref 225, Value.ref 226, Value.int 500 0, Value.int 232 0, Value.str (Str.ofString "/claim/cut.py") 501]) (#[])),
  (228, Obj.mk (Value.type "function") (none) (Data.func (FuncData.mk (Str.ofString "compute_first") (Str.ofString "Grammar.compute_first") (stArgs (stAt (stBody (stAt pw.main.body 9)) 13)) (.stmts (stBody (stAt (stBody (stAt pw.main.body 9)) 13))) (stScope (stAt (stBody (stAt pw.main.body 9)) 13)) 3 [] (Value.none) (Value.none) (Value.none) (Value.str (Str.ofString "ply.yacc") 194) (none) (Value.ref 227) (Value.none) 0)) (#[])),
  (229, Obj.mk (Value.type "tuple") (none) (Data.seq #[Value.none]) (#[])),
  (235, Obj.mk (Value.type "code") (none) (Data.fields   #[Value.str (Str.ofString "compute_follow") 503, Value.str (Str.ofString "Grammar.compute_follow") 504,     Value.str (Str.ofString "/claim/cut.py") 505, Value.int 235 0, Value.int 2 0, Value.int 0 0, Value.int 0 0,     Value.int 3 0, Value.ref 230, Value.bool true, Value.int 181 0, Value.ref 231, Value.none, Value.ref 232,     Value.ref 233, Value.ref 234, Value.int 508 0, Value.int 235 0, Value.str (Str.ofString "/claim/cut.py") 509]) (#[])),
  (236, Obj.mk (Value.type "function") (none) (Data.func (FuncData.mk (Str.ofString "compute_follow") (Str.ofString "Grammar.compute_follow") (stArgs (stAt (stBody (stAt pw.main.body 9)) 14)) (.stmts (stBody (stAt (stBody (stAt pw.main.body 9)) 14))) (stScope (stAt (stBody (stAt pw.main.body 9)) 14)) 3 [] (Value.ref 229) (Value.none) (Value.none) (Value.str (Str.ofString "ply.yacc") 194) (none) (Value.ref 235) (Value.none) 0)) (#[])),
  (242, Obj.mk (Value.type "code") (none) (Data.fields   #[Value.str (Str.ofString "build_lritems") 511, Value.str (Str.ofString "Grammar.build_lritems") 512,     Value.str (Str.ofString "/claim/cut.py") 513, Value.int 238 0, Value.int 1 0, Value.int 0 0, Value.int 0 0,     Value.int 3 0, Value.ref 237, Value.bool true, Value.int 181 0, Value.ref 238, Value.none, Value.ref 239,     Value.ref 240, Value.ref 241, Value.int 515 0, Value.int 238 0, Value.str (Str.ofString "/claim/cut.py") 516]) (#[])),
  (243, Obj.mk (Value.type "function") (none) (Data.func (FuncData.mk (Str.ofString "build_lritems") (Str.ofString "Grammar.build_lritems") (stArgs (stAt (stBody (stAt pw.main.body 9)) 15)) (.stmts (stBody (stAt (stBody (stAt pw.main.body 9)) 15))) (stScope (stAt (stBody (stAt pw.main.body 9)) 15)) 3 [] (Value.none) (Value.none) (Value.none) (Value.str (Str.ofString "ply.yacc") 194) (none) (Value.ref 242) (Value.none) 0)) (#[])),
  (245, Obj.mk (Value.type "dict") (none) (Data.dict   #[{ hash := PyData.keyHash P (Str.ofString "__module__"), key := Value.str (Str.ofString "__module__") 356,       val := Value.str (Str.ofString "ply.yacc") 194 },     { hash := PyData.keyHash P (Str.ofString "__firstlineno__"), key := Value.str (Str.ofString "__firstlineno__") 360,       val := Value.int 62 359 },     { hash := PyData.keyHash P (Str.ofString "__init__"), key := Value.str (Str.ofString "__init__") 369,       val := Value.ref 137 },     { hash := PyData.keyHash P (Str.ofString "__len__"), key := Value.str (Str.ofString "__len__") 376,       val := Value.ref 144 },     { hash := PyData.keyHash P (Str.ofString "__getitem__"), key := Value.str (Str.ofString "__getitem__") 384,       val := Value.ref 151 },     { hash := PyData.keyHash P (Str.ofString "set_precedence"), key := Value.str (Str.ofString "set_precedence") 394,       val := Value.ref 158 },     { hash := PyData.keyHash P (Str.ofString "add_production"), key := Value.str (Str.ofString "add_production") 418,       val := Value.ref 166 },     { hash := PyData.keyHash P (Str.ofString "set_start"), key := Value.str (Str.ofString "set_start") 426,       val := Value.ref 174 },     { hash := PyData.keyHash P (Str.ofString "find_unreachable"),       key := Value.str (Str.ofString "find_unreachable") 432, val := Value.ref 179 },     { hash := PyData.keyHash P (Str.ofString "infinite_cycles"), key := Value.str (Str.ofString "infinite_cycles") 449,       val := Value.ref 186 },     { hash := PyData.keyHash P (Str.ofString "undefined_symbols"),       key := Value.str (Str.ofString "undefined_symbols") 459, val := Value.ref 193 },     { hash := PyData.keyHash P (Str.ofString "unused_terminals"),       key := Value.str (Str.ofString "unused_terminals") 469, val := Value.ref 200 },     { hash := PyData.keyHash P (Str.ofString "unused_rules"), key := Value.str (Str.ofString "unused_rules") 480,       val := Value.ref 207 },     { hash := PyData.keyHash P (Str.ofString "unused_precedence"),       key := Value.str (Str.ofString "unused_precedence") 487, val := Value.ref 214 },     { hash := PyData.keyHash P (Str.ofString "_first"), key := Value.str (Str.ofString "_first") 495,       val := Value.ref 221 },     { hash := PyData.keyHash P (Str.ofString "compute_first"), key := Value.str (Str.ofString "compute_first") 502,       val := Value.ref 228 },     { hash := PyData.keyHash P (Str.ofString "compute_follow"), key := Value.str (Str.ofString "compute_follow") 510,       val := Value.ref 236 },     { hash := PyData.keyHash P (Str.ofString "build_lritems"), key := Value.str (Str.ofString "build_lritems") 517,       val := Value.ref 243 },     { hash := PyData.keyHash P (Str.ofString "__static_attributes__"),       key := Value.str (Str.ofString "__static_attributes__") 528, val := Value.ref 244 },     { hash := PyData.keyHash P (Str.ofString "__dict__"), key := Value.str (Str.ofString "__dict__") 530,       val := Value.ref 247 },     { hash := PyData.keyHash P (Str.ofString "__weakref__"), key := Value.str (Str.ofString "__weakref__") 532,       val := Value.ref 248 },     { hash := PyData.keyHash P (Str.ofString "__doc__"), key := Value.str (Str.ofString "__doc__") 533,       val := Value.none }]   4) (#[])),
  (246, Obj.mk (Value.type "type") (none) (Data.cls   { name := Str.ofString "Grammar", bases := [Value.type "object"], mro := [Value.ref 246, Value.type "object"],     ns := 245, qualname := Str.ofString "Grammar" }) (#[some (Value.ref 124), none, some (Value.str (Str.ofString "Grammar") 349),   some (Value.str (Str.ofString "Grammar") 357), some (Value.builtin "object.__new__"), some (Value.bool true)])),
  (247, Obj.mk (Value.type "getset_descriptor") (none) (Data.fields   #[Value.str (Str.ofString "__dict__") 529, Value.ref 246, Value.builtin "function.__dict__",     Value.builtin "function.__dict__#set"]) (#[])),
  (248, Obj.mk (Value.type "getset_descriptor") (none) (Data.fields   #[Value.str (Str.ofString "__weakref__") 531, Value.ref 246, Value.builtin "ExceptionGroup.__weakref__", Value.none]) (#[])),
  (256, Obj.mk (Value.type "code") (none) (Data.fields   #[Value.str (Str.ofString "_law_NAMES") 538, Value.str (Str.ofString "_law_NAMES") 539,     Value.str (Str.ofString "/claim/cut.py") 540, Value.int 241 0, Value.int 0 0, Value.int 0 0, Value.int 0 0,     Value.int 3 0, Value.ref 251, Value.bool true, Value.int 181 0, Value.ref 252, Value.none, Value.ref 253,     Value.ref 254, Value.ref 255, Value.int 541 0, Value.int 241 0, Value.str (Str.ofString "/claim/cut.py") 542]) (#[])),
  (257, Obj.mk (Value.type "function") (none) (Data.func (FuncData.mk (Str.ofString "_law_NAMES") (Str.ofString "_law_NAMES") (stArgs (stAt pw.main.body 11)) (.stmts (stBody (stAt pw.main.body 11))) (stScope (stAt pw.main.body 11)) 3 [] (Value.none) (Value.none) (Value.none) (Value.str (Str.ofString "law_te0001_04") 536) (none) (Value.ref 256) (Value.none) 0)) (#[])),
  (258, Obj.mk (Value.type "list") (none) (Data.seq   #[Value.str (Str.ofString "S") 544, Value.str (Str.ofString "A") 545, Value.str (Str.ofString "B") 546,     Value.str (Str.ofString "C") 547, Value.str (Str.ofString "a") 548, Value.str (Str.ofString "b") 549,     Value.str (Str.ofString "c") 550]) (#[])),
  (264, Obj.mk (Value.type "code") (none) (Data.fields   #[Value.str (Str.ofString "_law_next") 552, Value.str (Str.ofString "_law_next") 553,     Value.str (Str.ofString "/claim/cut.py") 554, Value.int 244 0, Value.int 1 0, Value.int 0 0, Value.int 0 0,     Value.int 3 0, Value.ref 259, Value.bool true, Value.int 181 0, Value.ref 260, Value.none, Value.ref 261,     Value.ref 262, Value.ref 263, Value.int 556 0, Value.int 244 0, Value.str (Str.ofString "/claim/cut.py") 557]) (#[])),
  (265, Obj.mk (Value.type "function") (none) (Data.func (FuncData.mk (Str.ofString "_law_next") (Str.ofString "_law_next") (stArgs (stAt pw.main.body 13)) (.stmts (stBody (stAt pw.main.body 13))) (stScope (stAt pw.main.body 13)) 3 [] (Value.none) (Value.none) (Value.none) (Value.str (Str.ofString "law_te0001_04") 536) (none) (Value.ref 264) (Value.none) 0)) (#[])),
  (269, Obj.mk (Value.type "code") (none) (Data.fields   #[Value.str (Str.ofString "_law_rules") 559, Value.str (Str.ofString "_law_rules") 560,     Value.str (Str.ofString "/claim/cut.py") 561, Value.int 246 0, Value.int 1 0, Value.int 0 0, Value.int 0 0,     Value.int 3 0, Value.ref 266, Value.bool true, Value.int 181 0, Value.ref 267, Value.none, Value.none, Value.none,     Value.ref 268, Value.int 562 0, Value.int 246 0, Value.str (Str.ofString "/claim/cut.py") 563]) (#[])),
  (270, Obj.mk (Value.type "function") (none) (Data.func (FuncData.mk (Str.ofString "_law_rules") (Str.ofString "_law_rules") (stArgs (stAt pw.main.body 14)) (.stmts (stBody (stAt pw.main.body 14))) (stScope (stAt pw.main.body 14)) 3 [] (Value.none) (Value.none) (Value.none) (Value.str (Str.ofString "law_te0001_04") 536) (none) (Value.ref 269) (Value.none) 0)) (#[])),
  (274, Obj.mk (Value.type "code") (none) (Data.fields   #[Value.str (Str.ofString "_law_taken") 565, Value.str (Str.ofString "_law_taken") 566,     Value.str (Str.ofString "/claim/cut.py") 567, Value.int 255 0, Value.int 1 0, Value.int 0 0, Value.int 0 0,     Value.int 3 0, Value.ref 271, Value.bool true, Value.int 181 0, Value.ref 272, Value.none, Value.none, Value.none,     Value.ref 273, Value.int 568 0, Value.int 255 0, Value.str (Str.ofString "/claim/cut.py") 569]) (#[])),
  (275, Obj.mk (Value.type "function") (none) (Data.func (FuncData.mk (Str.ofString "_law_taken") (Str.ofString "_law_taken") (stArgs (stAt pw.main.body 15)) (.stmts (stBody (stAt pw.main.body 15))) (stScope (stAt pw.main.body 15)) 3 [] (Value.none) (Value.none) (Value.none) (Value.str (Str.ofString "law_te0001_04") 536) (none) (Value.ref 274) (Value.none) 0)) (#[])),
  (281, Obj.mk (Value.type "code") (none) (Data.fields   #[Value.str (Str.ofString "_law_grammar") 571, Value.str (Str.ofString "_law_grammar") 572,     Value.str (Str.ofString "/claim/cut.py") 573, Value.int 267 0, Value.int 2 0, Value.int 0 0, Value.int 0 0,     Value.int 3 0, Value.ref 276, Value.bool true, Value.int 181 0, Value.ref 277, Value.none, Value.ref 278,     Value.ref 279, Value.ref 280, Value.int 579 0, Value.int 267 0, Value.str (Str.ofString "/claim/cut.py") 580]) (#[])),
  (282, Obj.mk (Value.type "function") (none) (Data.func (FuncData.mk (Str.ofString "_law_grammar") (Str.ofString "_law_grammar") (stArgs (stAt pw.main.body 16)) (.stmts (stBody (stAt pw.main.body 16))) (stScope (stAt pw.main.body 16)) 3 [] (Value.none) (Value.none) (Value.none) (Value.str (Str.ofString "law_te0001_04") 536) (none) (Value.ref 281) (Value.none) 0)) (#[])),
  (286, Obj.mk (Value.type "code") (none) (Data.fields   #[Value.str (Str.ofString "_law_ended") 582, Value.str (Str.ofString "_law_ended") 583,     Value.str (Str.ofString "/claim/cut.py") 584, Value.int 273 0, Value.int 1 0, Value.int 0 0, Value.int 0 0,     Value.int 3 0, Value.ref 283, Value.bool true, Value.int 181 0, Value.ref 284, Value.none, Value.none, Value.none,     Value.ref 285, Value.int 585 0, Value.int 273 0, Value.str (Str.ofString "/claim/cut.py") 586]) (#[])),
  (287, Obj.mk (Value.type "function") (none) (Data.func (FuncData.mk (Str.ofString "_law_ended") (Str.ofString "_law_ended") (stArgs (stAt pw.main.body 17)) (.stmts (stBody (stAt pw.main.body 17))) (stScope (stAt pw.main.body 17)) 3 [] (Value.none) (Value.none) (Value.none) (Value.str (Str.ofString "law_te0001_04") 536) (none) (Value.ref 286) (Value.none) 0)) (#[])),
  (291, Obj.mk (Value.type "code") (none) (Data.fields   #[Value.str (Str.ofString "_law_joined") 588, Value.str (Str.ofString "_law_joined") 589,     Value.str (Str.ofString "/claim/cut.py") 590, Value.int 277 0, Value.int 1 0, Value.int 0 0, Value.int 0 0,     Value.int 3 0, Value.ref 288, Value.bool true, Value.int 181 0, Value.ref 289, Value.none, Value.none, Value.none,     Value.ref 290, Value.int 591 0, Value.int 277 0, Value.str (Str.ofString "/claim/cut.py") 592]) (#[])),
  (292, Obj.mk (Value.type "function") (none) (Data.func (FuncData.mk (Str.ofString "_law_joined") (Str.ofString "_law_joined") (stArgs (stAt pw.main.body 18)) (.stmts (stBody (stAt pw.main.body 18))) (stScope (stAt pw.main.body 18)) 3 [] (Value.none) (Value.none) (Value.none) (Value.str (Str.ofString "law_te0001_04") 536) (none) (Value.ref 291) (Value.none) 0)) (#[])),
  (296, Obj.mk (Value.type "code") (none) (Data.fields   #[Value.str (Str.ofString "law") 594, Value.str (Str.ofString "law") 595,     Value.str (Str.ofString "/claim/cut.py") 596, Value.int 280 0, Value.int 1 0, Value.int 0 0, Value.int 0 0,     Value.int 3 0, Value.ref 293, Value.bool true, Value.int 181 0, Value.ref 294, Value.none, Value.none, Value.none,     Value.ref 295, Value.int 597 0, Value.int 280 0, Value.str (Str.ofString "/claim/cut.py") 598]) (#[])),
  (297, Obj.mk (Value.type "function") (none) (Data.func (FuncData.mk (Str.ofString "law") (Str.ofString "law") (stArgs (stAt pw.main.body 19)) (.stmts (stBody (stAt pw.main.body 19))) (stScope (stAt pw.main.body 19)) 3 [] (Value.none) (Value.none) (Value.none) (Value.str (Str.ofString "law_te0001_04") 536) (none) (Value.ref 296) (Value.none) 0)) (#[]))]
noncomputable def lawAddrs : List Nat := [2, 3, 20, 21, 30, 31, 32, 38, 39, 45, 46, 54, 55, 61, 62, 68, 69, 75, 76, 82, 83, 89, 90, 96, 97, 99, 100, 101, 102, 110, 111, 120, 121, 136, 137, 143, 144, 150, 151, 157, 158, 159, 165, 166, 167, 173, 174, 178, 179, 185, 186, 192, 193, 199, 200, 206, 207, 213, 214, 220, 221, 227, 228, 229, 235, 236, 242, 243, 245, 246, 247, 248, 256, 257, 258, 264, 265, 269, 270, 274, 275, 281, 282, 286, 287, 291, 292, 296, 297]
noncomputable def lawHeapT (P : Params) : Frag := (176, { cls := .none, data := .fields #[] }) :: lawHeap P
end Mine
end
section
namespace Mine
theorem lawHas : ∀ P, 176 :: lawAddrs = (lawHeapT P).map (·.1) := fun _ => by kernel_rfl
noncomputable def lawHook : Hook := kHook lawHeapT (176 :: lawAddrs) lawHas
theorem lawLeft : LeftO PySem.Challenge.pw_te0001_04 view ["Production", "Grammar", "_law_SYMBOLS"] (fun s => xlAt view [] s && recOk [] s) (Hook.obs lawHook) (Hook.val lawHook) 4050 := by
  intro w
  kernel_rfl
noncomputable def lawD : DefRec := ⟨"law", stArgs (stAt pw.main.body 19), stBody (stAt pw.main.body 19), stScope (stAt pw.main.body 19), (stAt pw.main.body 19).pos⟩
theorem head (walk : WalkO view ["Production", "Grammar", "_law_SYMBOLS"] (XL view []) (Hook.says lawHook) PySem.Challenge.rw_te0001_04.row.toRowW lawD [] fun f vs => PySem.call f vs) : PySem.Challenge.rw_te0001_04.Holds := by
  w_on
  refine holds_law (by decide +kernel) fun said => ?_
  refine holds_open (q := view) (loose := ["Production", "Grammar", "_law_SYMBOLS"]) (Xt := fun s => xlAt view [] s && recOk [] s) (XP := XL view []) (Yf := Hook.obs lawHook) (Ya := Hook.val lawHook) (YP := Hook.says lawHook) (N := 4050) lawLeft (Hook.of lawHook) (Hook.keeps lawHook) (fun s e => xl_of s (Bool.and_eq_true_iff.mp e).1) XL.keeps (by rfl) (by rfl) (by rfl) (fun s e => recFacts_of (Bool.and_eq_true_iff.mp e).2) (by rfl) (by first | assumption | decide +kernel) (by decide +kernel) ⟨rfl, rfl, rfl, rfl, rfl, by decide +kernel⟩ ?hw walk
  w_witness2
end Mine
end
section
namespace Mine
inductive V where
  | none | bool (b : Bool) | int (i : Int) | str (s : Str)
  | tup (xs : List V) | lst (xs : List V)
  | ins (C : Addr) (attrs : List (Str × V))
  | ref (a : Addr) | glob (v : Value)
deriving Inhabited
inductive AObj where
  | list (xs : List V) | dict (es : List (Str × V)) (ep : Nat) | set (xs : List V)
  | inst (C d : Addr) | cell (v : Option V) | raw (o : Obj) | iter (lst : Bool) (i : Nat) (x : V)
noncomputable abbrev Frz := Addr → Obj → Prop
set_option genInjectivity false in
set_option genSizeOf false in
structure Wd where
  prog : Program
  w : World
  K : Frag
  hb : Heap
  mg : Str → Option Value
  mb : Str → Option Value
  os : OsState
  p : Program
  loose : List Str
  KIn : K.In hb
  top : TopRead p loose mg mb hb
  nolim : hb.NoLimit
mutual
inductive VR (W : Wd) (F : Frz) : V → Value → Prop
  | none : VR W F .none .none
  | bool (b : Bool) : VR W F (.bool b) (.bool b)
  | int (i : Int) (t : Tok) : VR W F (.int i) (.int i t)
  | str (s : Str) (t : Tok) : VR W F (.str s) (.str s t)
  | ref (a : Addr) : VR W F (.ref a) (.ref a)
  | glob (v : Value) : VR W F (.glob v) v
  | tup {xs : List V} {a : Addr} {vs : Array Value} {n : Nat} : F a { cls := .type "tuple", data := .seq vs n } → VRs W F xs vs.toList → VR W F (.tup xs) (.ref a)
  | lst {xs : List V} {a : Addr} {vs : Array Value} {n : Nat} : F a { cls := .type "list", data := .seq vs n } → VRs W F xs vs.toList → VR W F (.lst xs) (.ref a)
  | ins {C : Addr} {attrs : List (Str × V)} {a d : Addr} {od : Obj} {kvs : List (Str × Value)} : F a (instObj C d) → F d od → od.IsDictOf (strKind W.prog W.w) kvs → VRp W F attrs kvs → VR W F (.ins C attrs) (.ref a)
inductive VRs (W : Wd) (F : Frz) : List V → List Value → Prop
  | nil : VRs W F [] []
  | cons {x : V} {v : Value} {xs : List V} {vs : List Value} : VR W F x v → VRs W F xs vs → VRs W F (x :: xs) (v :: vs)
inductive VRp (W : Wd) (F : Frz) : List (Str × V) → List (Str × Value) → Prop
  | nil : VRp W F [] []
  | cons {k : Str} {x : V} {v : Value} {xs : List (Str × V)} {vs : List (Str × Value)} : VR W F x v → VRp W F xs vs → VRp W F ((k, x) :: xs) ((k, v) :: vs)
end
inductive VNone : Value → Prop
  | none : VNone .none
inductive VBool (b : Bool) : Value → Prop
  | bool : VBool b (.bool b)
inductive VInt (i : Int) : Value → Prop
  | int (t : Tok) : VInt i (.int i t)
inductive VStr (s : Str) : Value → Prop
  | str (t : Tok) : VStr s (.str s t)
inductive VRef (a : Addr) : Value → Prop
  | ref : VRef a (.ref a)
inductive VGlob (v : Value) : Value → Prop
  | glob : VGlob v v
inductive VTup (W : Wd) (F : Frz) (xs : List V) : Value → Prop
  | tup {a : Addr} {vs : Array Value} {n : Nat} : F a { cls := .type "tuple", data := .seq vs n } → VRs W F xs vs.toList → VTup W F xs (.ref a)
inductive VLst (W : Wd) (F : Frz) (xs : List V) : Value → Prop
  | lst {a : Addr} {vs : Array Value} {n : Nat} : F a { cls := .type "list", data := .seq vs n } → VRs W F xs vs.toList → VLst W F xs (.ref a)
inductive VIns (W : Wd) (F : Frz) (C : Addr) (attrs : List (Str × V)) : Value → Prop
  | ins {a d : Addr} {od : Obj} {kvs : List (Str × Value)} : F a (instObj C d) → F d od → od.IsDictOf (strKind W.prog W.w) kvs → VRp W F attrs kvs → VIns W F C attrs (.ref a)
noncomputable def VView (W : Wd) (F : Frz) : V → Value → Prop
  | .none => VNone
  | .bool b => VBool b
  | .int i => VInt i
  | .str s => VStr s
  | .tup xs => VTup W F xs
  | .lst xs => VLst W F xs
  | .ins C as => VIns W F C as
  | .ref a => VRef a
  | .glob v => VGlob v
theorem VR.view {W : Wd} {F : Frz} {x : V} {v : Value} (r : VR W F x v) : VView W F x v := by
  cases r with
  | none => exact .none
  | bool => exact .bool
  | int => exact .int _
  | str => exact .str _
  | ref => exact .ref
  | glob => exact .glob
  | tup f q => exact .tup f q
  | lst f q => exact .lst f q
  | ins f g k q => exact .ins f g k q
inductive VsNil : List Value → Prop
  | nil : VsNil []
inductive VsCons (W : Wd) (F : Frz) (x : V) (xs : List V) : List Value → Prop
  | cons {v : Value} {vs : List Value} : VR W F x v → VRs W F xs vs → VsCons W F x xs (v :: vs)
noncomputable def VsView (W : Wd) (F : Frz) : List V → List Value → Prop
  | [] => VsNil
  | x :: xs => VsCons W F x xs
theorem VRs.view {W : Wd} {F : Frz} {xs : List V} {vs : List Value} (r : VRs W F xs vs) : VsView W F xs vs := by
  cases r with
  | nil => exact .nil
  | cons a b => exact .cons a b
inductive VpNil : List (Str × Value) → Prop
  | nil : VpNil []
inductive VpCons (W : Wd) (F : Frz) (k : Str) (x : V) (xs : List (Str × V)) : List (Str × Value) → Prop
  | cons {v : Value} {vs : List (Str × Value)} : VR W F x v → VRp W F xs vs → VpCons W F k x xs ((k, v) :: vs)
noncomputable def VpView (W : Wd) (F : Frz) : List (Str × V) → List (Str × Value) → Prop
  | [] => VpNil
  | (k, x) :: xs => VpCons W F k x xs
theorem VRp.view {W : Wd} {F : Frz} {xs : List (Str × V)} {vs : List (Str × Value)} (r : VRp W F xs vs) : VpView W F xs vs := by
  cases r with
  | nil => exact .nil
  | cons a b => exact .cons a b
theorem VR.mono {W : Wd} {F F' : Frz} (h : ∀ a o, F a o → F' a o) {x : V} {v : Value} (r : VR W F x v) : VR W F' x v :=
  VR.rec (motive_1 := fun x v _ => VR W F' x v) (motive_2 := fun xs vs _ => VRs W F' xs vs) (motive_3 := fun xs vs _ => VRp W F' xs vs) .none .bool .int .str .ref .glob (fun f _ ih => .tup (h _ _ f) ih) (fun f _ ih => .lst (h _ _ f) ih) (fun f g k _ ih => .ins (h _ _ f) (h _ _ g) k ih) .nil (fun _ _ a b => .cons a b) .nil (fun _ _ a b => .cons a b) r
theorem VRs.mono {W : Wd} {F F' : Frz} (h : ∀ a o, F a o → F' a o) {x : List V} {v : List Value} (r : VRs W F x v) : VRs W F' x v :=
  VRs.rec (motive_1 := fun x v _ => VR W F' x v) (motive_2 := fun xs vs _ => VRs W F' xs vs) (motive_3 := fun xs vs _ => VRp W F' xs vs) .none .bool .int .str .ref .glob (fun f _ ih => .tup (h _ _ f) ih) (fun f _ ih => .lst (h _ _ f) ih) (fun f g k _ ih => .ins (h _ _ f) (h _ _ g) k ih) .nil (fun _ _ a b => .cons a b) .nil (fun _ _ a b => .cons a b) r
theorem VRp.mono {W : Wd} {F F' : Frz} (h : ∀ a o, F a o → F' a o) {x : List (Str × V)} {v : List (Str × Value)} (r : VRp W F x v) : VRp W F' x v :=
  VRp.rec (motive_1 := fun x v _ => VR W F' x v) (motive_2 := fun xs vs _ => VRs W F' xs vs) (motive_3 := fun xs vs _ => VRp W F' xs vs) .none .bool .int .str .ref .glob (fun f _ ih => .tup (h _ _ f) ih) (fun f _ ih => .lst (h _ _ f) ih) (fun f g k _ ih => .ins (h _ _ f) (h _ _ g) k ih) .nil (fun _ _ a b => .cons a b) .nil (fun _ _ a b => .cons a b) r
inductive OR (W : Wd) (F : Frz) : AObj → Obj → Prop
  | list {xs : List V} {vs : Array Value} {n : Nat} : VRs W F xs vs.toList → OR W F (.list xs) { cls := .type "list", data := .seq vs n }
  | dict {es : List (Str × V)} {ds : List DictEntry} {ep : Nat} {kvs : List (Str × Value)} : (dictOf ds ep).IsDictOf (strKind W.prog W.w) kvs → VRp W F es kvs → OR W F (.dict es ep) (dictOf ds ep)
  | inst {C d : Addr} : OR W F (.inst C d) (instObj C d)
  | raw {o : Obj} : OR W F (.raw o) o
  | iter {lst : Bool} {i : Nat} {x : V} {a : Addr} {o : Obj} : VR W F x (.ref a) → o.cls = .type (if lst then "list_iterator" else "tuple_iterator") → o.data = .fields #[.ref a, .int i 0] → OR W F (.iter lst i x) o
  | cell {v : Option V} {o : Obj} {u : Option Value} : o.data = .cell u → (∀ x, v = some x → ∃ y, u = some y ∧ VR W F x y) → (v = none → u = none) → OR W F (.cell v) o
inductive OList (W : Wd) (F : Frz) (xs : List V) : Obj → Prop
  | list {vs : Array Value} {n : Nat} : VRs W F xs vs.toList → OList W F xs { cls := .type "list", data := .seq vs n }
inductive ODict (W : Wd) (F : Frz) (es : List (Str × V)) (ep : Nat) : Obj → Prop
  | dict {ds : List DictEntry} {kvs : List (Str × Value)} : (dictOf ds ep).IsDictOf (strKind W.prog W.w) kvs → VRp W F es kvs → ODict W F es ep (dictOf ds ep)
inductive OInst (C d : Addr) : Obj → Prop
  | inst : OInst C d (instObj C d)
inductive ORaw (o : Obj) : Obj → Prop
  | raw : ORaw o o
inductive OIter (W : Wd) (F : Frz) (lst : Bool) (i : Nat) (x : V) : Obj → Prop
  | iter {a : Addr} {o : Obj} : VR W F x (.ref a) → o.cls = .type (if lst then "list_iterator" else "tuple_iterator") → o.data = .fields #[.ref a, .int i 0] → OIter W F lst i x o
inductive OCell (W : Wd) (F : Frz) (v : Option V) : Obj → Prop
  | cell {o : Obj} {u : Option Value} : o.data = .cell u → (∀ x, v = some x → ∃ y, u = some y ∧ VR W F x y) → (v = none → u = none) → OCell W F v o
noncomputable def OView (W : Wd) (F : Frz) : AObj → Obj → Prop
  | .list xs => OList W F xs
  | .dict es ep => ODict W F es ep
  | .set _ => fun _ => False
  | .inst C d => OInst C d
  | .cell v => OCell W F v
  | .raw o => ORaw o
  | .iter l i x => OIter W F l i x
theorem OR.view {W : Wd} {F : Frz} {x : AObj} {o : Obj} (r : OR W F x o) : OView W F x o := by
  cases r with
  | list q => exact .list q
  | dict k q => exact .dict k q
  | inst => exact .inst
  | raw => exact .raw
  | iter q c d => exact .iter q c d
  | cell k q z => exact .cell k q z
theorem OR.mono {W : Wd} {F F' : Frz} (h : ∀ a o, F a o → F' a o) {x : AObj} {o : Obj} (r : OR W F x o) : OR W F' x o := by
  cases r with
  | list r => exact .list (r.mono h)
  | dict k r => exact .dict k (r.mono h)
  | inst => exact .inst
  | raw => exact .raw
  | iter r c d => exact .iter (r.mono h) c d
  | cell k r z => exact .cell k (fun x e => let ⟨y, e', q⟩ := r x e; ⟨y, e', q.mono h⟩) z
noncomputable abbrev Loc := List (Str × V)
noncomputable abbrev Mem := Addr → Option AObj
noncomputable def tgo : AObj → Nat
  | .list _ => 0 | .dict _ _ => 1 | .set _ => 2 | .inst _ _ => 3 | .cell _ => 4 | .raw _ => 5 | .iter _ _ _ => 6
noncomputable def tg : Option AObj → Nat
  | none => 0
  | some x => tgo x + 1
theorem nex {m : Mem} {a b : Addr} {x y : Option AObj} (h1 : m a = x) (h2 : m b = y) (h : (tg x == tg y) = false := by rfl) : a ≠ b := fun e => by
  rw [e, h2] at h1
  rw [h1, beq_self_eq_true] at h
  cases h
noncomputable abbrev Outs := List (Addr × (Str → Option Value))
inductive Held (W : Wd) (F : Frz) (h : Heap) (a : Addr) (x : AObj) : Prop
  | intro (o : Obj) (h1_ : h.get? a = some o) (h2_ : OR W F x o)
inductive NsIs (W : Wd) (F : Frz) (h : Heap) (L : Addr) (loc : Loc) : Prop
  | intro (m : Str → Option Value) (h1_ : h.Ns L m) (h2_ : ∀ x v, loc.lookup x = some v → ∃ v', m x = some v' ∧ VR W F v v')
structure Sim0 (W : Wd) (env : Env) (outer : Outs) (loc : Loc) (mem : Mem) (F : Frz) (s : Shared) : Prop where
  frz : ∀ a o, F a o → s.heap.get? a = some o
  base : ∀ a o, W.hb.get? a = some o → F a o
  memF : ∀ a o, F a o → mem a = none
  memOk : ∀ a x, mem a = some x → Held W F s.heap a x
  ns : NsIs W F s.heap env.locals loc
  nsF : (∀ o, ¬ F env.locals o) ∧ mem env.locals = none
  outs : ∀ q ∈ outer, s.heap.Ns q.1 q.2 ∧ (∀ o, ¬ F q.1 o) ∧ mem q.1 = none ∧ q.1 ≠ env.locals
  low : W.hb.objs.size ≤ env.locals
  memLow : ∀ a x, mem a = some x → a ≠ sysModules
  gens : s.gens = #[]
  os : s.os = W.os
theorem notMod {W : Wd} {a : Addr} (h : W.hb.objs.size ≤ a) : a ≠ sysModules := Nat.ne_of_gt (Nat.lt_of_lt_of_le (modules_low W.nolim) h)
noncomputable def mset (mem : Mem) (a : Addr) (x : AObj) : Mem := fun b => if b = a then some x else mem b
@[simp] theorem mset_self (mem : Mem) (a : Addr) (x : AObj) : mset mem a x a = some x := if_pos rfl
theorem mset_ne {mem : Mem} {a b : Addr} {x : AObj} (h : b ≠ a) : mset mem a x b = mem b := if_neg h
noncomputable def mdel (mem : Mem) (a : Addr) : Mem := fun b => if b = a then none else mem b
noncomputable def Incl (F F' : Frz) : Prop := ∀ a o, F a o → F' a o
theorem Incl.refl (F : Frz) : Incl F F := fun _ _ h => h
theorem Incl.trans {F G H : Frz} (x : Incl F G) (y : Incl G H) : Incl F H := fun a o h => y a o (x a o h)
noncomputable def fadd (F : Frz) (a : Addr) (o : Obj) : Frz := fun b p => F b p ∨ (b = a ∧ p = o)
theorem Incl.fadd (F : Frz) (a : Addr) (o : Obj) : Incl F (fadd F a o) := fun _ _ h => .inl h
noncomputable def LocRel (W : Wd) (F : Frz) (loc : Loc) (m : Str → Option Value) : Prop := ∀ x v, loc.lookup x = some v → ∃ v', m x = some v' ∧ VR W F v v'
theorem LocRel.mono {W : Wd} {F F' : Frz} {loc : Loc} {m : Str → Option Value} (h : Incl F F') (r : LocRel W F loc m) : LocRel W F' loc m :=
  fun x v e => let ⟨v', e', q⟩ := r x v e; ⟨v', e', q.mono h⟩
section
variable {W : Wd} {env : Env} {outer : Outs} {loc : Loc} {mem : Mem} {F : Frz} {s : Shared}
theorem Sim0.kin (S : Sim0 W env outer loc mem F s) : W.K.In s.heap := W.KIn.keeps fun b o e => S.frz b o (S.base b o e)
theorem Sim0.hbase (S : Sim0 W env outer loc mem F s) : ∀ b o, W.hb.get? b = some o → s.heap.get? b = some o := fun b o e => S.frz b o (S.base b o e)
theorem Sim0.fresh_base {a : Addr} {x : AObj} (S : Sim0 W env outer loc mem F s) (h : mem a = some x) : W.hb.get? a = none := by
  cases q : W.hb.get? a with
  | none => rfl
  | some o => have := S.memF a o (S.base a o q); rw [h] at this; cases this
theorem Sim0.fr {m : Str → Option Value} (S : Sim0 W env outer loc mem F s) (hn : s.heap.Ns env.locals m) : Fr W.hb env.locals s.heap m := ⟨hn, S.hbase, S.low⟩
theorem Sim0.grow {h' : Heap} {t : Nat} {d : Drawn} (S : Sim0 W env outer loc mem F s) (hk : ∀ b o, s.heap.get? b = some o → h'.get? b = some o) :
    Sim0 W env outer loc mem F { s with heap := h', toks := t, drawn := d } where
  frz a o h := hk _ _ (S.frz a o h)
  base := S.base
  memF := S.memF
  memOk a x h := let ⟨o, e, r⟩ := S.memOk a x h; ⟨o, hk _ _ e, r⟩
  ns := let ⟨m, a, b⟩ := S.ns; ⟨m, a.keeps hk, b⟩
  nsF := S.nsF
  outs q hq := let ⟨a, b⟩ := S.outs q hq; ⟨a.keeps hk, b⟩
  low := S.low
  memLow := S.memLow
  gens := S.gens
  os := S.os
theorem Sim0.tick {t : Nat} (S : Sim0 W env outer loc mem F s) : Sim0 W env outer loc mem F { s with toks := t } := S.grow fun _ _ e => e
theorem Sim0.ne_locals {a : Addr} {x : AObj} (S : Sim0 W env outer loc mem F s) (h : mem a = some x) : a ≠ env.locals := fun e => by
  have := S.nsF.2; rw [← e, h] at this; cases this
theorem Sim0.upd {a : Addr} {x x' : AObj} {h' : Heap} {t : Nat} {d : Drawn} {o' : Obj} (S : Sim0 W env outer loc mem F s) (hm : mem a = some x)
    (hs : ∀ b o, b ≠ a → s.heap.get? b = some o → h'.get? b = some o) (ho : h'.get? a = some o') (r : OR W F x' o') :
    Sim0 W env outer loc (mset mem a x') F { s with heap := h', toks := t, drawn := d } where
  frz b o h := hs b o (fun e => by have := S.memF b o h; rw [e, hm] at this; cases this) (S.frz b o h)
  base := S.base
  memF b o h := by
    have hb : b ≠ a := fun e => by have := S.memF b o h; rw [e, hm] at this; cases this
    rw [mset_ne hb]; exact S.memF b o h
  memOk b y h := by
    by_cases e : b = a
    · subst e; rw [mset_self] at h; cases h; exact ⟨o', ho, r⟩
    · rw [mset_ne e] at h; obtain ⟨o, e', q⟩ := S.memOk b y h; exact ⟨o, hs b o e e', q⟩
  ns := let ⟨m, z, b⟩ := S.ns; ⟨m, by
    obtain ⟨o, es, ep, e, q⟩ := z
    exact ⟨o, es, ep, hs _ _ (Ne.symm (S.ne_locals hm)) e, q⟩, b⟩
  nsF := ⟨S.nsF.1, by rw [mset_ne (Ne.symm (S.ne_locals hm))]; exact S.nsF.2⟩
  outs q hq := by
    obtain ⟨z, b, c, e⟩ := S.outs q hq
    have hq' : q.1 ≠ a := fun e => by rw [e, hm] at c; cases c
    obtain ⟨o, es, ep, e', r'⟩ := z
    exact ⟨⟨o, es, ep, hs _ _ hq' e', r'⟩, b, by rw [mset_ne hq']; exact c, e⟩
  low := S.low
  memLow b y h := by
    unfold mset at h
    split at h
    · rename_i q; rw [q]; exact S.memLow a x hm
    · exact S.memLow b y h
  gens := S.gens
  os := S.os
theorem Sim0.free_of_none {a : Addr} (S : Sim0 W env outer loc mem F s) (ha : s.heap.get? a = none) : mem a = none ∧ (∀ o, ¬ F a o) ∧ a ≠ env.locals ∧ ∀ q ∈ outer, q.1 ≠ a := by
  refine ⟨?_, fun o h => ?_, fun e => ?_, fun q hq e => ?_⟩
  · cases q : mem a with
    | none => rfl
    | some x => obtain ⟨o, e, _⟩ := S.memOk a x q; rw [ha] at e; cases e
  · have := S.frz a o h; rw [ha] at this; cases this
  · obtain ⟨m, ⟨o, es, ep, h, _⟩, _⟩ := S.ns; rw [← e, ha] at h; cases h
  · obtain ⟨⟨o, es, ep, h, _⟩, _⟩ := S.outs q hq; rw [e, ha] at h; cases h
theorem Sim0.alloc {a : Addr} {x : AObj} {h' : Heap} {t : Nat} {d : Drawn} {o' : Obj} (S : Sim0 W env outer loc mem F s) (ha : s.heap.get? a = none) (hlo : W.hb.objs.size ≤ a)
    (hs : ∀ b o, s.heap.get? b = some o → h'.get? b = some o) (ho : h'.get? a = some o') (r : OR W F x o') :
    Sim0 W env outer loc (mset mem a x) F { s with heap := h', toks := t, drawn := d } := by
  obtain ⟨f1, f2, f3, f4⟩ := S.free_of_none ha
  have ne : ∀ {b o}, F b o → b ≠ a := fun h e => f2 _ (e ▸ h)
  exact {
    frz := fun b o h => hs b o (S.frz b o h)
    base := S.base
    memF := fun b o h => by rw [mset_ne (ne h)]; exact S.memF b o h
    memOk := fun b y h => by
      by_cases e : b = a
      · subst e; rw [mset_self] at h; cases h; exact ⟨o', ho, r⟩
      · rw [mset_ne e] at h; obtain ⟨o, e', q⟩ := S.memOk b y h; exact ⟨o, hs b o e', q⟩
    ns := let ⟨m, z, b⟩ := S.ns; ⟨m, z.keeps hs, b⟩
    nsF := ⟨S.nsF.1, by rw [mset_ne (Ne.symm f3)]; exact S.nsF.2⟩
    outs := fun q hq => by
      obtain ⟨z, b, c, e⟩ := S.outs q hq
      exact ⟨z.keeps hs, b, by rw [mset_ne (f4 q hq)]; exact c, e⟩
    low := S.low
    memLow := fun b y h => by
      unfold mset at h
      split at h
      · rename_i q; rw [q]; exact notMod hlo
      · exact S.memLow b y h
    gens := S.gens
    os := S.os }
theorem Sim0.freeze {a : Addr} {h' : Heap} {t : Nat} {d : Drawn} {o' : Obj} (S : Sim0 W env outer loc mem F s) (ha : s.heap.get? a = none)
    (hs : ∀ b o, s.heap.get? b = some o → h'.get? b = some o) (ho : h'.get? a = some o') :
    Sim0 W env outer loc mem (fadd F a o') { s with heap := h', toks := t, drawn := d } := by
  obtain ⟨f1, f2, f3, f4⟩ := S.free_of_none ha
  exact {
    frz := fun b o h => by rcases h with h | ⟨rfl, rfl⟩; exact hs b o (S.frz b o h); exact ho
    base := fun b o h => .inl (S.base b o h)
    memF := fun b o h => by rcases h with h | ⟨rfl, rfl⟩; exact S.memF b o h; exact f1
    memOk := fun b y h => let ⟨o, e', q⟩ := S.memOk b y h; ⟨o, hs b o e', q.mono (Incl.fadd _ _ _)⟩
    ns := let ⟨m, z, b⟩ := S.ns; ⟨m, z.keeps hs, LocRel.mono (Incl.fadd _ _ _) b⟩
    nsF := ⟨fun o h => by rcases h with h | ⟨e, rfl⟩; exact S.nsF.1 o h; exact f3 e.symm, S.nsF.2⟩
    outs := fun q hq => by
      obtain ⟨z, b, c, e⟩ := S.outs q hq
      exact ⟨z.keeps hs, fun o h => by rcases h with h | ⟨e, rfl⟩; exact b o h; exact f4 q hq e, c, e⟩
    low := S.low
    memLow := S.memLow
    gens := S.gens
    os := S.os }
theorem Sim0.drop {mem' : Mem} (S : Sim0 W env outer loc mem F s) (h : ∀ a x, mem' a = some x → mem a = some x) : Sim0 W env outer loc mem' F s := by
  have dn : ∀ {b}, mem b = none → mem' b = none := fun {b} e => by
    cases q : mem' b with
    | none => rfl
    | some x => rw [h b x q] at e; cases e
  exact { frz := S.frz, base := S.base, memF := fun b o q => dn (S.memF b o q), memOk := fun b y q => S.memOk b y (h b y q), ns := S.ns, nsF := ⟨S.nsF.1, dn S.nsF.2⟩,
          outs := fun q hq => let ⟨z, b, c, e⟩ := S.outs q hq; ⟨z, b, dn c, e⟩, low := S.low, memLow := fun b y q => S.memLow b y (h b y q), gens := S.gens, os := S.os }
noncomputable def setL (x : Str) (v : V) : Loc → Loc
  | [] => [(x, v)]
  | (y, u) :: r => if y = x then (x, v) :: r else (y, u) :: setL x v r
theorem lookup_setL (x y : Str) (v : V) : ∀ loc : Loc, (setL x v loc).lookup y = if y = x then some v else loc.lookup y
  | [] => by
    unfold setL
    by_cases h : y = x
    · subst h; simp [List.lookup]
    · have : (y == x) = false := by simpa using h
      simp [List.lookup, this, h]
  | (z, u) :: r => by
    unfold setL
    by_cases hz : z = x
    · subst hz
      rw [if_pos rfl]
      by_cases h : y = z
      · subst h; simp [List.lookup]
      · have : (y == z) = false := by simpa using h
        simp [List.lookup, this, h]
    · rw [if_neg hz, List.lookup_cons, List.lookup_cons, lookup_setL x y v r]
      by_cases h : y = x
      · subst h
        have : (y == z) = false := by simpa using (Ne.symm hz)
        simp [this]
      · simp [h]
theorem Sim0.store {x : Str} {v : V} {v' : Value} {h' : Heap} {t : Nat} {m : Str → Option Value} (S : Sim0 W env outer loc mem F s) (r : VR W F v v') (l : LocRel W F loc m)
    (hn : h'.Ns env.locals fun y => if y = x then some v' else m y) (hs : Heap.SameBut env.locals s.heap h') : Sim0 W env outer (setL x v loc) mem F { s with heap := h', toks := t } where
  frz a o h := (hs.2 a fun e => S.nsF.1 o (e ▸ h)).trans (S.frz a o h)
  base := S.base
  memF := S.memF
  memOk a y h := let ⟨o, e, r⟩ := S.memOk a y h; ⟨o, (hs.2 a (S.ne_locals h)).trans e, r⟩
  ns := ⟨_, hn, fun y u e => by
    rw [lookup_setL] at e
    by_cases q : y = x
    · rw [if_pos q] at e; cases e; exact ⟨v', if_pos q, r⟩
    · rw [if_neg q] at e; obtain ⟨u', e', q'⟩ := l y u e; exact ⟨u', (if_neg q).trans e', q'⟩⟩
  nsF := S.nsF
  outs q hq := let ⟨z, b, c, e⟩ := S.outs q hq; ⟨z.sameBut hs e, b, c, e⟩
  low := S.low
  memLow := S.memLow
  gens := S.gens
  os := S.os
end
noncomputable def mun (m R : Mem) : Mem := fun a => match m a with | some x => some x | none => R a
noncomputable def Dis (m R : Mem) : Prop := ∀ a x, m a = some x → R a = none
theorem mun_l {m R : Mem} {a : Addr} {x : AObj} (h : m a = some x) : mun m R a = some x := by unfold mun; rw [h]
theorem mun_r {m R : Mem} {a : Addr} (h : m a = none) : mun m R a = R a := by unfold mun; rw [h]
theorem mun_none {m R : Mem} {a : Addr} (h : mun m R a = none) : m a = none ∧ R a = none := by
  unfold mun at h
  cases q : m a with
  | none => rw [q] at h; exact ⟨rfl, h⟩
  | some x => rw [q] at h; cases h
theorem mset_mun (m R : Mem) (a : Addr) (x : AObj) : mset (mun m R) a x = mun (mset m a x) R := by
  funext b
  unfold mset mun
  by_cases h : b = a
  · simp [h]
  · simp [h]
theorem mset_munR {m R : Mem} {a : Addr} (h : m a = none) (x : AObj) : mset (mun m R) a x = mun m (mset R a x) := by
  funext b
  unfold mset mun
  by_cases hb : b = a
  · subst hb; simp [h]
  · simp [hb]
structure Sim (W : Wd) (env : Env) (outer : Outs) (loc : Loc) (mem R : Mem) (F : Frz) (s : Shared) : Prop where
  dis : Dis mem R
  z : Sim0 W env outer loc (mun mem R) F s
section
variable {W : Wd} {env : Env} {outer : Outs} {loc : Loc} {mem R : Mem} {F : Frz} {s : Shared}
theorem Sim.kin (S : Sim W env outer loc mem R F s) : W.K.In s.heap := S.z.kin
theorem Sim.hbase (S : Sim W env outer loc mem R F s) : ∀ b o, W.hb.get? b = some o → s.heap.get? b = some o := S.z.hbase
theorem Sim.frz (S : Sim W env outer loc mem R F s) : ∀ a o, F a o → s.heap.get? a = some o := S.z.frz
theorem Sim.base (S : Sim W env outer loc mem R F s) : ∀ a o, W.hb.get? a = some o → F a o := S.z.base
theorem Sim.memOk (S : Sim W env outer loc mem R F s) (a : Addr) (x : AObj) (h : mem a = some x) : Held W F s.heap a x := S.z.memOk a x (mun_l h)
theorem Sim.ns (S : Sim W env outer loc mem R F s) : NsIs W F s.heap env.locals loc := S.z.ns
theorem Sim.fresh_base {a : Addr} {x : AObj} (S : Sim W env outer loc mem R F s) (h : mem a = some x) : W.hb.get? a = none := S.z.fresh_base (mun_l h)
theorem Sim.fr {m : Str → Option Value} (S : Sim W env outer loc mem R F s) (hn : s.heap.Ns env.locals m) : Fr W.hb env.locals s.heap m := S.z.fr hn
theorem Sim.gens (S : Sim W env outer loc mem R F s) : s.gens = #[] := S.z.gens
theorem Sim.os (S : Sim W env outer loc mem R F s) : s.os = W.os := S.z.os
theorem Sim.ne_locals {a : Addr} {x : AObj} (S : Sim W env outer loc mem R F s) (h : mem a = some x) : a ≠ env.locals := S.z.ne_locals (mun_l h)
theorem Sim.grow {h' : Heap} {t : Nat} {d : Drawn} (S : Sim W env outer loc mem R F s) (hk : ∀ b o, s.heap.get? b = some o → h'.get? b = some o) :
    Sim W env outer loc mem R F { s with heap := h', toks := t, drawn := d } := ⟨S.dis, S.z.grow hk⟩
theorem Sim.tick {t : Nat} (S : Sim W env outer loc mem R F s) : Sim W env outer loc mem R F { s with toks := t } := ⟨S.dis, S.z.tick⟩
theorem Sim.size_le (S : Sim W env outer loc mem R F s) : W.hb.objs.size ≤ s.heap.objs.size := by
  obtain ⟨m, hn, _⟩ := S.ns
  exact Nat.le_trans S.z.low (Nat.le_of_lt hn.lt)
theorem get?_size (h : Heap) : h.get? h.objs.size = none := by
  cases q : h.get? h.objs.size with
  | none => rfl
  | some o => exact absurd (Heap.lt_size q) (Nat.lt_irrefl _)
theorem get?_ge {h : Heap} {a : Addr} (l : h.objs.size ≤ a) : h.get? a = none := by
  cases q : h.get? a with
  | none => rfl
  | some o => exact absurd (Heap.lt_size q) (Nat.not_lt.mpr l)
theorem Sim.not_modules {a : Addr} {x : AObj} (S : Sim W env outer loc mem R F s) (h : mem a = some x) : (a == sysModules) = false :=
  beq_eq_false_iff_ne.mpr (S.z.memLow a x (mun_l h))
theorem Dis.set {a : Addr} {x x' : AObj} (d : Dis mem R) (h : mem a = some x) : Dis (mset mem a x') R := fun b y e => by
  unfold mset at e
  split at e
  · rename_i q; rw [q]; exact d a x h
  · exact d b y e
theorem Sim.upd {a : Addr} {x x' : AObj} {h' : Heap} {t : Nat} {d : Drawn} {o' : Obj} (S : Sim W env outer loc mem R F s) (hm : mem a = some x)
    (hs : ∀ b o, b ≠ a → s.heap.get? b = some o → h'.get? b = some o) (ho : h'.get? a = some o') (r : OR W F x' o') :
    Sim W env outer loc (mset mem a x') R F { s with heap := h', toks := t, drawn := d } := ⟨S.dis.set hm, mset_mun mem R a x' ▸ S.z.upd (mun_l hm) hs ho r⟩
theorem Sim.free {a : Addr} (S : Sim W env outer loc mem R F s) (ha : s.heap.get? a = none) : mem a = none ∧ R a = none := mun_none (S.z.free_of_none ha).1
theorem Sim.alloc {a : Addr} {x : AObj} {h' : Heap} {t : Nat} {d : Drawn} {o' : Obj} (S : Sim W env outer loc mem R F s) (ha : s.heap.get? a = none) (hlo : W.hb.objs.size ≤ a)
    (hs : ∀ b o, s.heap.get? b = some o → h'.get? b = some o) (ho : h'.get? a = some o') (r : OR W F x o') :
    Sim W env outer loc (mset mem a x) R F { s with heap := h', toks := t, drawn := d } :=
  ⟨fun b y e => by
    unfold mset at e
    split at e
    · rename_i q; rw [q]; exact (S.free ha).2
    · exact S.dis b y e, mset_mun mem R a x ▸ S.z.alloc ha hlo hs ho r⟩
theorem Sim.allocR {a : Addr} {x : AObj} {h' : Heap} {t : Nat} {d : Drawn} {o' : Obj} (S : Sim W env outer loc mem R F s) (ha : s.heap.get? a = none) (hlo : W.hb.objs.size ≤ a)
    (hs : ∀ b o, s.heap.get? b = some o → h'.get? b = some o) (ho : h'.get? a = some o') (r : OR W F x o') :
    Sim W env outer loc mem (mset R a x) F { s with heap := h', toks := t, drawn := d } :=
  ⟨fun b y e => by
    unfold mset
    split
    · rename_i q; rw [q, (S.free ha).1] at e; cases e
    · exact S.dis b y e, mset_munR (S.free ha).1 x ▸ S.z.alloc ha hlo hs ho r⟩
theorem Sim.updR {a : Addr} {x x' : AObj} {h' : Heap} {t : Nat} {d : Drawn} {o' : Obj} (S : Sim W env outer loc mem (mset R a x) F s)
    (hs : ∀ b o, b ≠ a → s.heap.get? b = some o → h'.get? b = some o) (ho : h'.get? a = some o') (r : OR W F x' o') :
    Sim W env outer loc mem (mset R a x') F { s with heap := h', toks := t, drawn := d } := by
  have hm : mem a = none := by
    cases q : mem a with
    | none => rfl
    | some y => have := S.dis a y q; rw [mset_self] at this; cases this
  refine ⟨fun b y e => ?_, ?_⟩
  · have := S.dis b y e
    unfold mset at this ⊢
    split
    · rename_i q; rw [if_pos q] at this; cases this
    · rename_i q; rw [if_neg q] at this; exact this
  · have := S.z.upd (x := x) (x' := x') (t := t) (d := d) (by rw [mun_r hm, mset_self]) hs ho r
    rw [mset_munR hm] at this
    have e : mset (mset R a x) a x' = mset R a x' := by funext b; unfold mset; split <;> simp_all
    rwa [e] at this
theorem Sim.atR {a : Addr} {x : AObj} (S : Sim W env outer loc mem (mset R a x) F s) : Held W F s.heap a x := by
  have hm : mem a = none := by
    cases q : mem a with
    | none => rfl
    | some y => have := S.dis a y q; rw [mset_self] at this; cases this
  exact S.z.memOk a x (by rw [mun_r hm, mset_self])
theorem Sim.offR {a : Addr} {x : AObj} (S : Sim W env outer loc mem (mset R a x) F s) (hR : R a = none) : Sim W env outer loc mem R F s := by
  refine ⟨fun b y e => ?_, S.z.drop fun b y e => ?_⟩
  · have := S.dis b y e
    unfold mset at this
    split at this
    · cases this
    · exact this
  · cases q : mem b with
    | some z => rw [mun_l q] at e ⊢; exact e
    | none =>
      rw [mun_r q] at e ⊢
      unfold mset
      split
      · rename_i q'; rw [q', hR] at e; cases e
      · exact e
theorem Sim.freeze {a : Addr} {h' : Heap} {t : Nat} {d : Drawn} {o' : Obj} (S : Sim W env outer loc mem R F s) (ha : s.heap.get? a = none)
    (hs : ∀ b o, s.heap.get? b = some o → h'.get? b = some o) (ho : h'.get? a = some o') :
    Sim W env outer loc mem R (fadd F a o') { s with heap := h', toks := t, drawn := d } := ⟨S.dis, S.z.freeze ha hs ho⟩
theorem Sim.drop {mem' : Mem} (S : Sim W env outer loc mem R F s) (h : ∀ a x, mem' a = some x → mem a = some x) : Sim W env outer loc mem' R F s := by
  refine ⟨fun a x e => S.dis a x (h a x e), S.z.drop fun a x e => ?_⟩
  unfold mun at e
  cases q : mem' a with
  | some y => rw [q] at e; rw [mun_l (h a y q)]; exact e
  | none =>
    rw [q] at e
    dsimp only at e
    cases q' : mem a with
    | none => rw [mun_r q']; exact e
    | some y => have := S.dis a y q'; rw [e] at this; cases this
theorem Sim.store {x : Str} {v : V} {v' : Value} {h' : Heap} {t : Nat} {m : Str → Option Value} (S : Sim W env outer loc mem R F s) (r : VR W F v v') (l : LocRel W F loc m)
    (hn : h'.Ns env.locals fun y => if y = x then some v' else m y) (hs : Heap.SameBut env.locals s.heap h') : Sim W env outer (setL x v loc) mem R F { s with heap := h', toks := t } :=
  ⟨S.dis, S.z.store r l hn hs⟩
end
inductive Post (W : Wd) (env : Env) (outer : Outs) {α β : Type} (RV : Frz → β → α → Prop) (R : Mem) (F : Frz) (Q : β → Loc → Mem → Prop) (v' : α) (s' : Shared) : Prop
  | intro (F' : Frz) (v : β) (loc' : Loc) (mem' : Mem) (h1_ : Incl F F') (h2_ : RV F' v v') (h3_ : Sim W env outer loc' mem' R F' s') (h4_ : Q v loc' mem')
structure Less (W : Wd) (R R' : Mem) : Prop where
  sim : ∀ {env : Env} {outer : Outs} {loc : Loc} {mem : Mem} {F : Frz} {s : Shared}, Sim W env outer loc mem R' F s → Sim W env outer loc mem R F s
  sub : ∀ a x, R a = some x → R' a = some x
theorem Less.refl {W : Wd} (R : Mem) : Less W R R := ⟨fun S => S, fun _ _ h => h⟩
structure Ex (W : Wd) where
  p : Mem → Frz → Value → Shared → Prop
  mono : ∀ {R R' : Mem} {F F' : Frz} {v : Value} {s : Shared}, Less W R R' → Incl F F' → p R' F' v s → p R F v s
theorem Ex.up {W : Wd} {E : Ex W} {R : Mem} {F F' : Frz} {v : Value} {s : Shared} (i : Incl F F') (h : E.p R F' v s) : E.p R F v s := E.mono (Less.refl R) i h
noncomputable def Ex.no {W : Wd} : Ex W := ⟨fun _ _ _ _ => False, fun _ _ h => h⟩
noncomputable def Tr (W : Wd) (A : Around) (env : Env) (outer : Outs) {α β : Type} (RV : Frz → β → α → Prop) (t : Sem α) (loc : Loc) (mem : Mem) (Q : β → Loc → Mem → Prop) (E : Ex W) : Prop :=
  ∀ R F s, Sim W env outer loc mem R F s → wpAny (model W.prog W.w) A t (Post W env outer RV R F Q) (E.p R F) s
noncomputable abbrev TrV (W : Wd) (A : Around) (env : Env) (outer : Outs) (t : Sem Value) (loc : Loc) (mem : Mem) (Q : V → Loc → Mem → Prop) (E : Ex W) : Prop :=
  Tr W A env outer (VR W) t loc mem Q E
noncomputable abbrev TrB (W : Wd) (A : Around) (env : Env) (outer : Outs) (t : Sem Bool) (loc : Loc) (mem : Mem) (Q : Bool → Loc → Mem → Prop) (E : Ex W) : Prop :=
  Tr W A env outer (fun _ (b c : Bool) => c = b) t loc mem Q E
inductive Fl where
  | next | brk | cont | ret (v : V)
inductive FR (W : Wd) (F : Frz) : Fl → Flow → Prop
  | next : FR W F .next .next
  | brk : FR W F .brk .brk
  | cont : FR W F .cont .cont
  | ret {v : V} {v' : Value} : VR W F v v' → FR W F (.ret v) (.ret v')
noncomputable abbrev TrS (W : Wd) (A : Around) (env : Env) (outer : Outs) (t : Sem Flow) (loc : Loc) (mem : Mem) (Q : Fl → Loc → Mem → Prop) (E : Ex W) : Prop :=
  Tr W A env outer (FR W) t loc mem Q E
noncomputable abbrev TrL (W : Wd) (A : Around) (env : Env) (outer : Outs) (t : Sem (List Value)) (loc : Loc) (mem : Mem) (Q : List V → Loc → Mem → Prop) (E : Ex W) : Prop :=
  Tr W A env outer (VRs W) t loc mem Q E
noncomputable def Op (W : Wd) (A : Around) (env : Env) (outer : Outs) {α β : Type} (RV : Frz → β → α → Prop) (f : List Value → Sem α) (xs : List V) (loc : Loc) (mem : Mem) (Q : β → Loc → Mem → Prop) (E : Ex W) : Prop :=
  ∀ R F s vs, Sim W env outer loc mem R F s → VRs W F xs vs → wpAny (model W.prog W.w) A (f vs) (Post W env outer RV R F Q) (E.p R F) s
section
variable {W : Wd} {A : Around} {env : Env} {outer : Outs} {α β : Type} {RV : Frz → β → α → Prop} {loc : Loc} {mem R : Mem} {E : Ex W}
theorem Post.weaken {F G : Frz} {Q : β → Loc → Mem → Prop} {v : α} {s : Shared} (h : Incl F G) (p : Post W env outer RV R G Q v s) : Post W env outer RV R F Q v s :=
  let ⟨F', x, l, m, a, b, c, d⟩ := p; ⟨F', x, l, m, h.trans a, b, c, d⟩
theorem Post.mk {F : Frz} {Q : β → Loc → Mem → Prop} {v : α} {x : β} {s : Shared} (r : RV F x v) (S : Sim W env outer loc mem R F s) (q : Q x loc mem) : Post W env outer RV R F Q v s :=
  ⟨F, x, loc, mem, Incl.refl F, r, S, q⟩
theorem Tr.mono {t : Sem α} {Q Q' : β → Loc → Mem → Prop} (h : Tr W A env outer RV t loc mem Q E) (hq : ∀ x l m, Q x l m → Q' x l m) : Tr W A env outer RV t loc mem Q' E :=
  fun R F s S => wpAny_mono (h R F s S) (fun _ _ ⟨F', x, l, m, a, b, c, d⟩ => ⟨F', x, l, m, a, b, c, hq x l m d⟩) fun _ _ e => e
theorem Tr.drop {t : Sem α} {Q : β → Loc → Mem → Prop} {mem' : Mem} (h : Tr W A env outer RV t loc mem' Q E) (hm : ∀ a x, mem' a = some x → mem a = some x) : Tr W A env outer RV t loc mem Q E :=
  fun R F s S => h R F s (S.drop hm)
end
end Mine
end
section
namespace Mine
section
variable {W : Wd} {A : Around} {env : Env} {outer : Outs} {loc : Loc} {mem R : Mem} {E : Ex W} {F : Frz} {s : Shared}
theorem after {α β γ δ : Type} {RV : Frz → β → α → Prop} {RW : Frz → δ → γ → Prop} {t : Sem α} {P : β → Loc → Mem → Prop} {Q' : α → Shared → Prop} {Q : δ → Loc → Mem → Prop}
    {F0 : Frz} (h : wpAny (model W.prog W.w) A t (Post W env outer RV R F P) (E.p R F) s)
    (hk : ∀ v' s' F1 x l1 m1, Incl F F1 → RV F1 x v' → Sim W env outer l1 m1 R F1 s' → P x l1 m1 → Q' v' s')
    (i : Incl F0 F := by first | exact Incl.refl _ | assumption | exact Incl.trans (by assumption) (by assumption) | exact Incl.trans (Incl.trans (by assumption) (by assumption)) (by assumption) | exact Incl.trans (Incl.trans (Incl.trans (by assumption) (by assumption)) (by assumption)) (by assumption)) : wpAny (model W.prog W.w) A t Q' (E.p R F0) s :=
  wpAny_mono h (fun v' s' ⟨F1, x, l1, m1, a, b, c, d⟩ => hk v' s' F1 x l1 m1 a b c d) fun _ _ e => E.up i e
theorem after' {α β γ δ : Type} {RV : Frz → β → α → Prop} {RW : Frz → δ → γ → Prop} {t : Sem α} {P : β → Loc → Mem → Prop} {Q' : α → Shared → Prop} {Q : δ → Loc → Mem → Prop} {E0 E' : Value → Shared → Prop}
    (h : wpAny (model W.prog W.w) A t (Post W env outer RV R F P) E0 s)
    (he : ∀ e s, E0 e s → E' e s)
    (hk : ∀ v' s' F1 x l1 m1, Incl F F1 → RV F1 x v' → Sim W env outer l1 m1 R F1 s' → P x l1 m1 → Q' v' s') : wpAny (model W.prog W.w) A t Q' E' s :=
  wpAny_mono h (fun v' s' ⟨F1, x, l1, m1, a, b, c, d⟩ => hk v' s' F1 x l1 m1 a b c d) fun e s h => he e s h
theorem e_none {k : Nat} {pos : Pos} {Q : V → Loc → Mem → Prop} (h : Q .none loc mem) : TrV W A env outer (eval (.Constant .none k pos) env) loc mem Q E :=
  fun R F s S => wpAny_Constant_none (Post.mk .none S h)
theorem e_bool {b : Bool} {k : Nat} {pos : Pos} {Q : V → Loc → Mem → Prop} (h : Q (.bool b) loc mem) : TrV W A env outer (eval (.Constant (.bool b) k pos) env) loc mem Q E :=
  fun R F s S => wpAny_Constant_bool (Post.mk (.bool b) S h)
theorem e_int {i : Int} {k : Nat} {pos : Pos} {Q : V → Loc → Mem → Prop} (h : Q (.int i) loc mem) : TrV W A env outer (eval (.Constant (.int i) k pos) env) loc mem Q E :=
  fun R F s S => wpAny_Constant_int (Post.mk (.int i _) S.tick h)
theorem e_str {x : Str} {k : Nat} {pos : Pos} {Q : V → Loc → Mem → Prop} (h : Q (.str x) loc mem) : TrV W A env outer (eval (.Constant (.str x) k pos) env) loc mem Q E :=
  fun R F s S => wpAny_Constant_str (Post.mk (.str x _) S.tick h)
theorem e_local {x : Str} {pos : Pos} {v : V} {Q : V → Loc → Mem → Prop} (hk : env.scope.kind = .function) (hl : env.kindOf x = some .local) (hd : (x == ("__debug__" : Str)) = false) (hv : loc.lookup x = some v) (h : Q v loc mem) :
    TrV W A env outer (eval (.Name x pos) env) loc mem Q E := fun R F s S => by
  obtain ⟨m, hn, l⟩ := S.ns
  obtain ⟨v', e, r⟩ := l x v hv
  exact wpAny_Name (wpAny_loadName_local hk hl hn e (Post.mk r S h)) hd
theorem e_cell {x : Str} {pos : Pos} {c : Addr} {v : V} {Q : V → Loc → Mem → Prop} (hk : env.scope.kind = .function) (hl : env.kindOf x = some .cell) (hd : (x == ("__debug__" : Str)) = false)
    (hc : env.cells.lookup x = some c) (hv : mem c = some (.cell (some v))) (h : Q v loc mem) : TrV W A env outer (eval (.Name x pos) env) loc mem Q E := fun R F s S => by
  obtain ⟨o, ho, r⟩ := S.memOk c _ hv
  cases r.view with
  | cell k r z =>
    obtain ⟨y, rfl, q⟩ := r _ rfl
    exact wpAny_Name (wpAny_loadName_cell hk hl hc ⟨o, ho, k⟩ (Post.mk q S h)) hd
theorem e_free {x : Str} {pos : Pos} {c : Addr} {v : V} {Q : V → Loc → Mem → Prop} (hk : env.scope.kind = .function) (hl : env.kindOf x = some .free) (hd : (x == ("__debug__" : Str)) = false) (hn : (x == ("__classdict__" : Str)) = false)
    (hc : env.cells.lookup x = some c) (hv : mem c = some (.cell (some v))) (h : Q v loc mem) : TrV W A env outer (eval (.Name x pos) env) loc mem Q E := fun R F s S => by
  obtain ⟨o, ho, r⟩ := S.memOk c _ hv
  cases r.view with
  | cell k r z =>
    obtain ⟨y, rfl, q⟩ := r _ rfl
    exact wpAny_Name (wpAny_loadName_free hk hl hc ⟨o, ho, k⟩ (Post.mk q S h) hn) hd
theorem e_top {x : Str} {pos : Pos} {u : Value} {v : V} {Q : V → Loc → Mem → Prop} (hg : env.globals = mainGlobals) (hk : env.scope.kind = .function) (hl : env.kindOf x = some .globalImplicit) (hd : (x == ("__debug__" : Str)) = false)
    (e : nsIn W.K mainGlobals x = some (some u)) (r : ∀ F, (∀ a o, W.hb.get? a = some o → F a o) → VR W F v u) (h : Q v loc mem) : TrV W A env outer (eval (.Name x pos) env) loc mem Q E := fun R F s S => by
  obtain ⟨m, hn, l⟩ := S.ns
  exact nameG_K (S.fr hn) W.KIn W.top e (Post.mk (r F S.base) S h) hg hk hl hd
theorem e_topG {x : Str} {pos : Pos} {u : Value} {Q : V → Loc → Mem → Prop} (hg : env.globals = mainGlobals) (hk : env.scope.kind = .function) (hl : env.kindOf x = some .globalImplicit) (hd : (x == ("__debug__" : Str)) = false)
    (e : nsIn W.K mainGlobals x = some (some u)) (h : Q (.glob u) loc mem) : TrV W A env outer (eval (.Name x pos) env) loc mem Q E := e_top hg hk hl hd e (fun _ _ => .glob u) h
theorem e_boot {x : Str} {pos : Pos} {u : Value} {Q : V → Loc → Mem → Prop} (hg : env.globals = mainGlobals) (hb : env.builtins = builtinsNs) (hk : env.scope.kind = .function) (hl : env.kindOf x = some .globalImplicit) (hd : (x == ("__debug__" : Str)) = false)
    (e : nsIn W.K mainGlobals x = some none) (hv : bootBuiltins x = some u) (hn : x ≠ "__name__") (h : Q (.glob u) loc mem) : TrV W A env outer (eval (.Name x pos) env) loc mem Q E := fun R F s S => by
  obtain ⟨m, hns, l⟩ := S.ns
  have T := W.top
  have Fr' := S.fr hns
  exact Name_function_global hk hl (loadGlobal_builtin (env := env) (by rw [hg]; exact T.g.keeps Fr'.keep) (mg_none_of W.KIn T.g e) (by rw [hb]; exact T.b.keeps Fr'.keep) ((T.builtins x hn).trans hv) (Post.mk (.glob u) S h)) hd
theorem e_binop {l r : PySem.Expr} {op : Operator} {pos : Pos} {Q : V → Loc → Mem → Prop}
    (h : TrV W A env outer (eval l env) loc mem (fun a l1 m1 => TrV W A env outer (eval r env) l1 m1 (fun b l2 m2 => Op W A env outer (VR W) (fun | [x, y] => binaryOp op x y | _ => pure .none) [a, b] l2 m2 Q E) E) E) :
    TrV W A env outer (eval (.BinOp l op r pos) env) loc mem Q E := fun R F s S =>
  wpAny_BinOp (after (RW := VR W) (Q := Q) (h R F s S) fun v' s' F1 x l1 m1 i1 r1 S1 h1 => after (RW := VR W) (Q := Q) (h1 R F1 s' S1) fun u' s2 F2 y l2 m2 i2 r2 S2 h2 =>
    wpAny_mono (h2 R F2 s2 [v', u'] S2 (.cons (r1.mono i2) (.cons r2 .nil))) (fun _ _ p => p.weaken (i1.trans i2)) fun _ _ e => E.up (i1.trans i2) e)
theorem e_cmp {l r : PySem.Expr} {op : CmpOp} {pos : Pos} {Q : V → Loc → Mem → Prop} (hm : behindInMarks op r = false)
    (h : TrV W A env outer (eval l env) loc mem (fun a l1 m1 => TrV W A env outer (eval r env) l1 m1 (fun b l2 m2 => Op W A env outer (VR W) (fun | [x, y] => compareOp op x y | _ => pure .none) [a, b] l2 m2 Q E) E) E) :
    TrV W A env outer (eval (.Compare l [op] [r] pos) env) loc mem Q E := fun R F s S =>
  wpAny_Compare1 (hm := hm) (after (RW := VR W) (Q := Q) (h R F s S) fun v' s' F1 x l1 m1 i1 r1 S1 h1 => after (RW := VR W) (Q := Q) (h1 R F1 s' S1) fun u' s2 F2 y l2 m2 i2 r2 S2 h2 =>
    wpAny_mono (h2 R F2 s2 [v', u'] S2 (.cons (r1.mono i2) (.cons r2 .nil))) (fun _ _ p => p.weaken (i1.trans i2)) fun _ _ e => E.up (i1.trans i2) e)
theorem b_cmp {l r : PySem.Expr} {op : CmpOp} {pos : Pos} {whole : Sem Value} {Q : Bool → Loc → Mem → Prop} (hm : behindInMarks op r = false)
    (h : TrV W A env outer (eval l env) loc mem (fun a l1 m1 => TrV W A env outer (eval r env) l1 m1 (fun b l2 m2 => Op W A env outer (VR W) (fun | [x, y] => compareOp op x y | _ => pure .none) [a, b] l2 m2 (fun c l3 m3 =>
      Op W A env outer (fun _ (b c : Bool) => c = b) (fun | [x] => truthy x | _ => pure false) [c] l3 m3 Q E) E) E) E) :
    TrB W A env outer (isTrue (.Compare l [op] [r] pos) env whole) loc mem Q E := fun R F s S =>
  wpAny_isTrue_Compare1 (hm := hm) (after (RW := VR W) (Q := fun _ _ _ => True) (h R F s S) fun v' s' F1 x l1 m1 i1 r1 S1 h1 => after (RW := VR W) (Q := fun _ _ _ => True) (h1 R F1 s' S1) fun u' s2 F2 y l2 m2 i2 r2 S2 h2 =>
    after (RW := VR W) (Q := fun _ _ _ => True) (h2 R F2 s2 [v', u'] S2 (.cons (r1.mono i2) (.cons r2 .nil))) fun c' s3 F3 c l3 m3 i3 r3 S3 h3 =>
      wpAny_mono (h3 R F3 s3 [c'] S3 (.cons r3 .nil)) (fun _ _ p => p.weaken ((i1.trans i2).trans i3)) fun _ _ e => E.up ((i1.trans i2).trans i3) e)
theorem b_not {x : PySem.Expr} {pos : Pos} {whole : Sem Value} {Q : Bool → Loc → Mem → Prop} (h : TrB W A env outer (isTrue x env (eval x env)) loc mem (fun b l m => Q (!b) l m) E) :
    TrB W A env outer (isTrue (.UnaryOp .Not x pos) env whole) loc mem Q E := fun R F s S =>
  wpAny_isTrue_Not (after (RW := VR W) (Q := fun _ _ _ => True) (h R F s S) fun v' s' F1 b l1 m1 i1 r1 S1 h1 => ⟨F1, !b, l1, m1, i1, by rw [r1], S1, h1⟩)
theorem b_value {e : PySem.Expr} {whole : Sem Value} {Q : Bool → Loc → Mem → Prop} (he : isTrue e env whole = (do let v ← whole; standAt e.pos; holding [v] (truthy v)))
    (h : TrV W A env outer whole loc mem (fun c l m => Op W A env outer (fun _ (b c : Bool) => c = b) (fun | [x] => truthy x | _ => pure false) [c] l m Q E) E) : TrB W A env outer (isTrue e env whole) loc mem Q E := fun R F s S =>
  wpAny_isTrue_value (he := he) (after (RW := VR W) (Q := fun _ _ _ => True) (h R F s S) fun v' s' F1 b l1 m1 i1 r1 S1 h1 => wpAny_mono (h1 R F1 s' [v'] S1 (.cons r1 .nil)) (fun _ _ p => p.weaken i1) fun _ _ e => E.up i1 e)
theorem b_bool {op : BoolOp} {values : List PySem.Expr} {pos : Pos} {whole : Sem Value} {Q : Bool → Loc → Mem → Prop} (h : TrB W A env outer (allTrue op values env) loc mem Q E) :
    TrB W A env outer (isTrue (.BoolOp op values pos) env whole) loc mem Q E := fun R F s S => wpAny_isTrue_BoolOp (h R F s S)
theorem b_and_nil {Q : Bool → Loc → Mem → Prop} (h : Q true loc mem) : TrB W A env outer (allTrue .And [] env) loc mem Q E := fun R F s S => wpAny_allTrue_And_nil (Post.mk rfl S h)
theorem b_or_nil {Q : Bool → Loc → Mem → Prop} (h : Q false loc mem) : TrB W A env outer (allTrue .Or [] env) loc mem Q E := fun R F s S => wpAny_allTrue_Or_nil (Post.mk rfl S h)
theorem b_and_cons {x : PySem.Expr} {rest : List PySem.Expr} {Q : Bool → Loc → Mem → Prop}
    (h : TrB W A env outer (isTrue x env (eval x env)) loc mem (fun b l m => (b = true → TrB W A env outer (allTrue .And rest env) l m Q E) ∧ (b = false → Q false l m)) E) :
    TrB W A env outer (allTrue .And (x :: rest) env) loc mem Q E := fun R F s S =>
  wpAny_allTrue_And_cons (after (RW := VR W) (Q := fun _ _ _ => True) (h R F s S) fun v' s' F1 b l1 m1 i1 r1 S1 h1 => by
    subst r1
    cases v' with
    | true => exact wpAny_mono (h1.1 rfl R F1 s' S1) (fun _ _ p => p.weaken i1) fun _ _ e => E.up i1 e
    | false => exact ⟨F1, false, l1, m1, i1, rfl, S1, h1.2 rfl⟩)
theorem b_or_cons {x : PySem.Expr} {rest : List PySem.Expr} {Q : Bool → Loc → Mem → Prop}
    (h : TrB W A env outer (isTrue x env (eval x env)) loc mem (fun b l m => (b = false → TrB W A env outer (allTrue .Or rest env) l m Q E) ∧ (b = true → Q true l m)) E) :
    TrB W A env outer (allTrue .Or (x :: rest) env) loc mem Q E := fun R F s S =>
  wpAny_allTrue_Or_cons (after (RW := VR W) (Q := fun _ _ _ => True) (h R F s S) fun v' s' F1 b l1 m1 i1 r1 S1 h1 => by
    subst r1
    cases v' with
    | false => exact wpAny_mono (h1.1 rfl R F1 s' S1) (fun _ _ p => p.weaken i1) fun _ _ e => E.up i1 e
    | true => exact ⟨F1, true, l1, m1, i1, rfl, S1, h1.2 rfl⟩)
theorem e_ifexp {test body orelse : PySem.Expr} {pos : Pos} {Q : V → Loc → Mem → Prop}
    (h : TrB W A env outer (isTrue test env (eval test env)) loc mem (fun b l m => (b = true → TrV W A env outer (eval body env) l m Q E) ∧ (b = false → TrV W A env outer (eval orelse env) l m Q E)) E) :
    TrV W A env outer (eval (.IfExp test body orelse pos) env) loc mem Q E := fun R F s S =>
  wpAny_IfExp (after (RW := VR W) (Q := fun _ _ _ => True) (h R F s S) fun v' s' F1 b l1 m1 i1 r1 S1 h1 => by
    subst r1
    cases v' with
    | true => rw [if_pos rfl]; exact wpAny_mono (h1.1 rfl R F1 s' S1) (fun _ _ p => p.weaken i1) fun _ _ e => E.up i1 e
    | false => rw [if_neg Bool.false_ne_true]; exact wpAny_mono (h1.2 rfl R F1 s' S1) (fun _ _ p => p.weaken i1) fun _ _ e => E.up i1 e)
theorem e_and2 {x y : PySem.Expr} {pos : Pos} {Q : V → Loc → Mem → Prop}
    (h : TrV W A env outer (eval x env) loc mem (fun v l m => Op W A env outer (fun _ (b c : Bool) => c = b) (fun | [x] => truthy x | _ => pure false) [v] l m (fun b l m => (b = true → TrV W A env outer (eval y env) l m Q E) ∧ (b = false → Q v l m)) E) E) :
    TrV W A env outer (eval (.BoolOp .And [x, y] pos) env) loc mem Q E := fun R F s S =>
  wpAny_And2 (after (RW := VR W) (Q := fun _ _ _ => True) (h R F s S) fun v' s' F1 v l1 m1 i1 r1 S1 h1 =>
    after (RW := VR W) (Q := fun _ _ _ => True) (h1 R F1 s' [v'] S1 (.cons r1 .nil)) fun b' s2 F2 b l2 m2 i2 r2 S2 h2 => by
      subst r2
      cases b' with
      | true => rw [if_pos rfl]; exact wpAny_mono (h2.1 rfl R F2 s2 S2) (fun _ _ p => p.weaken (i1.trans i2)) fun _ _ e => E.up (i1.trans i2) e
      | false => rw [if_neg Bool.false_ne_true]; exact ⟨F2, v, l2, m2, i1.trans i2, r1.mono i2, S2, h2.2 rfl⟩)
theorem e_or2 {x y : PySem.Expr} {pos : Pos} {Q : V → Loc → Mem → Prop}
    (h : TrV W A env outer (eval x env) loc mem (fun v l m => Op W A env outer (fun _ (b c : Bool) => c = b) (fun | [x] => truthy x | _ => pure false) [v] l m (fun b l m => (b = false → TrV W A env outer (eval y env) l m Q E) ∧ (b = true → Q v l m)) E) E) :
    TrV W A env outer (eval (.BoolOp .Or [x, y] pos) env) loc mem Q E := fun R F s S =>
  wpAny_Or2 (after (RW := VR W) (Q := fun _ _ _ => True) (h R F s S) fun v' s' F1 v l1 m1 i1 r1 S1 h1 =>
    after (RW := VR W) (Q := fun _ _ _ => True) (h1 R F1 s' [v'] S1 (.cons r1 .nil)) fun b' s2 F2 b l2 m2 i2 r2 S2 h2 => by
      subst r2
      cases b' with
      | false => rw [if_neg Bool.false_ne_true]; exact wpAny_mono (h2.1 rfl R F2 s2 S2) (fun _ _ p => p.weaken (i1.trans i2)) fun _ _ e => E.up (i1.trans i2) e
      | true => rw [if_pos rfl]; exact ⟨F2, v, l2, m2, i1.trans i2, r1.mono i2, S2, h2.2 rfl⟩)
theorem tr_bool {b : Bool} {Q : Bool → Loc → Mem → Prop} (h : Q b loc mem) : Op W A env outer (fun _ (b c : Bool) => c = b) (fun | [x] => truthy x | _ => pure false) [.bool b] loc mem Q E := fun R F s vs S r => by
  cases r.view with
  | cons r1 r2 => cases r2.view; cases r1.view; exact wpAny_truthy_bool (Post.mk rfl S h)
theorem a_nil {pos : Pos} {Q : List V → Loc → Mem → Prop} (h : Q [] loc mem) : TrL W A env outer (spliced (backTo pos (starEach [] env))) loc mem Q E := fun R F s S => wpAny_items_nil (Post.mk .nil S h)
theorem a_cons {pos : Pos} {e : PySem.Expr} {rest : List PySem.Expr} {Q : List V → Loc → Mem → Prop} (he : starEach (e :: rest) env = (false, eval e env) :: starEach rest env)
    (h : TrV W A env outer (eval e env) loc mem (fun x l m => TrL W A env outer (spliced (backTo pos (starEach rest env))) l m (fun xs l m => Q (x :: xs) l m) E) E) :
    TrL W A env outer (spliced (backTo pos (starEach (e :: rest) env))) loc mem Q E := fun R F s S =>
  wpAny_items_cons (he := he) (after (RW := VR W) (Q := fun _ _ _ => True) (h R F s S) fun v' s' F1 v l1 m1 i1 r1 S1 h1 =>
    after (RW := VR W) (Q := fun _ _ _ => True) (h1 R F1 s' S1) fun vs s2 F2 xs l2 m2 i2 r2 S2 h2 => ⟨F2, v :: xs, l2, m2, i1.trans i2, .cons (r1.mono i2) r2, S2, h2⟩)
end
end Mine
end
section
namespace Mine
section
variable {W : Wd} {A : Around} {env : Env} {outer : Outs} {loc : Loc} {mem R : Mem} {E : Ex W} {F : Frz} {s : Shared}
noncomputable def Cont (W : Wd) (A : Around) (env : Env) (outer : Outs) (rest : List Stmt) (Q : Fl → Loc → Mem → Prop) (E : Ex W) : Fl → Loc → Mem → Prop
  | .next, l, m => TrS W A env outer (execs rest env) l m Q E
  | f, l, m => Q f l m
theorem s_nil {Q : Fl → Loc → Mem → Prop} (h : Q .next loc mem) : TrS W A env outer (execs [] env) loc mem Q E := fun R F s S => wpAny_execs_nil (Post.mk .next S h)
theorem s_cons {st : Stmt} {rest : List Stmt} {Q : Fl → Loc → Mem → Prop} (h : TrS W A env outer (exec st env) loc mem (Cont W A env outer rest Q E) E) :
    TrS W A env outer (execs (st :: rest) env) loc mem Q E := fun R F s S =>
  wpAny_execs_cons (after (RW := VR W) (Q := fun _ _ _ => True) (h R F s S) fun v' s' F1 f l1 m1 i1 r1 S1 h1 => by
    cases r1 with
    | next => exact wpAny_mono (h1 R F1 s' S1) (fun _ _ p => p.weaken i1) fun _ _ e => E.up i1 e
    | brk => exact ⟨F1, .brk, l1, m1, i1, .brk, S1, h1⟩
    | cont => exact ⟨F1, .cont, l1, m1, i1, .cont, S1, h1⟩
    | ret r => exact ⟨F1, .ret _, l1, m1, i1, .ret r, S1, h1⟩)
theorem s_pass {pos : Pos} {Q : Fl → Loc → Mem → Prop} (h : Q .next loc mem) : TrS W A env outer (exec (.Pass pos) env) loc mem Q E := fun R F s S => wpAny_Pass (Post.mk .next S h)
theorem s_break {pos : Pos} {Q : Fl → Loc → Mem → Prop} (h : Q .brk loc mem) : TrS W A env outer (exec (.Break pos) env) loc mem Q E := fun R F s S => wpAny_Break (Post.mk .brk S h)
theorem s_continue {pos : Pos} {Q : Fl → Loc → Mem → Prop} (h : Q .cont loc mem) : TrS W A env outer (exec (.Continue pos) env) loc mem Q E := fun R F s S => wpAny_Continue (Post.mk .cont S h)
theorem s_ret {e : PySem.Expr} {pos : Pos} {Q : Fl → Loc → Mem → Prop} (h : TrV W A env outer (eval e env) loc mem (fun v => Q (.ret v)) E) :
    TrS W A env outer (exec (.Return (some e) pos) env) loc mem Q E := fun R F s S =>
  wpAny_Return_some (after (RW := VR W) (Q := fun _ _ _ => True) (h R F s S) fun v' s' F1 f l1 m1 i1 r1 S1 h1 => ⟨F1, .ret f, l1, m1, i1, .ret r1, S1, h1⟩)
theorem s_expr {e : PySem.Expr} {pos : Pos} {Q : Fl → Loc → Mem → Prop} (hi : interactive env = false) (hs : swapsWith e none pos.line env = pure false)
    (h : TrV W A env outer (eval e env) loc mem (fun _ => Q .next) E) : TrS W A env outer (exec (.Expr e pos) env) loc mem Q E := fun R F s S =>
  wpAny_Expr_any (hi := hi) (hs := hs) (after (RW := VR W) (Q := fun _ _ _ => True) (h R F s S) fun v' s' F1 f l1 m1 i1 r1 S1 h1 => ⟨F1, .next, l1, m1, i1, .next, S1, h1⟩)
theorem s_if {test : PySem.Expr} {body orelse : List Stmt} {pos : Pos} {Q : Fl → Loc → Mem → Prop}
    (h : TrB W A env outer (isTrue test env (eval test env)) loc mem (fun b l m => (b = true → TrS W A env outer (execs body env) l m Q E) ∧ (b = false → TrS W A env outer (execs orelse env) l m Q E)) E) :
    TrS W A env outer (exec (.If test body orelse pos) env) loc mem Q E := fun R F s S =>
  wpAny_If (after (RW := VR W) (Q := fun _ _ _ => True) (h R F s S) fun v' s' F1 b l1 m1 i1 r1 S1 h1 => by
    subst r1
    cases v' with
    | true => rw [if_pos rfl]; exact wpAny_mono (h1.1 rfl R F1 s' S1) (fun _ _ p => p.weaken i1) fun _ _ e => E.up i1 e
    | false => rw [if_neg Bool.false_ne_true]; exact wpAny_mono (h1.2 rfl R F1 s' S1) (fun _ _ p => p.weaken i1) fun _ _ e => E.up i1 e)
theorem st_local {x : Str} {v : V} {Q : Loc → Mem → Prop} (hl : env.kindOf x = some .local) (hp : (env.scope.kind == .class || (env.scope.kind == .module && env.locals != env.globals)) = false) (h : Q (setL x v loc) mem) :
    Op W A env outer (fun _ (_ _ : Unit) => True) (fun | [y] => storeName env x y | _ => pure ()) [v] loc mem (fun _ => Q) E := fun R F s vs S r => by
  cases r.view with
  | cons r1 r2 =>
    cases r2.view
    obtain ⟨m, hn, l⟩ := S.ns
    exact wpAny_storeName_local hl hn (fun h' hn' hs => Post.mk (x := ()) trivial (S.store r1 l hn' hs) h) hp
theorem cell_back {c : Addr} {u : Option V} {v : V} {o : Obj} {v' : Value} (r : VR W F v v') (hd : o.data = .cell (some v')) : OR W F (.cell (some v)) o :=
  .cell hd (fun x e => by cases e; exact ⟨v', rfl, r⟩) (fun e => by cases e)
theorem st_cell {x : Str} {c : Addr} {u : Option V} {v : V} {Q : Loc → Mem → Prop} (hk : env.scope.kind = .function) (hl : env.kindOf x = some .cell) (hc : env.cells.lookup x = some c) (hm : mem c = some (.cell u))
    (h : Q loc (mset mem c (.cell (some v)))) :
    Op W A env outer (fun _ (_ _ : Unit) => True) (fun | [y] => storeName env x y | _ => pure ()) [v] loc mem (fun _ => Q) E := fun R F s vs S r => by
  cases r.view with
  | cons r1 r2 =>
    cases r2.view
    obtain ⟨o, ho, ro⟩ := S.memOk c _ hm
    cases ro.view with
    | cell k _ _ =>
      refine wpAny_storeName_cell hk hl hc ⟨o, ho, k⟩ fun h' hv hs => ?_
      obtain ⟨o', ho', hd'⟩ := hv
      exact Post.mk (x := ()) trivial (S.upd (t := s.toks) (d := s.drawn) hm (fun b ob hb e => (hs.2 b hb).trans e) ho' (cell_back (c := c) (u := u) r1 hd')) h
theorem s_assign {x : Str} {pos' pos : Pos} {value : PySem.Expr} {Q : Fl → Loc → Mem → Prop} (hs : swapsWith value (some (.Name x pos')) pos.line env = pure false)
    (h : TrV W A env outer (eval value env) loc mem (fun v l m => Op W A env outer (fun _ (_ _ : Unit) => True) (fun | [y] => storeName env x y | _ => pure ()) [v] l m (fun _ => Q .next) E) E) :
    TrS W A env outer (exec (.Assign [.Name x pos'] value pos) env) loc mem Q E := fun R F s S =>
  wpAny_Assign_Name (hs := hs) (after (RW := VR W) (Q := fun _ _ _ => True) (h R F s S) fun v' s' F1 f l1 m1 i1 r1 S1 h1 =>
    after (RW := VR W) (Q := fun _ _ _ => True) (h1 R F1 s' [v'] S1 (.cons r1 .nil)) fun _ s2 F2 _ l2 m2 i2 _ S2 h2 => ⟨F2, .next, l2, m2, i1.trans i2, .next, S2, h2⟩)
theorem s_assign_attr {o : PySem.Expr} {attr : Str} {pos' pos : Pos} {value : PySem.Expr} {Q : Fl → Loc → Mem → Prop} (hs : swapsWith value (some (.Attribute o attr pos')) pos.line env = pure false)
    (h : TrV W A env outer (eval value env) loc mem (fun v l m => TrV W A env outer (eval o env) l m (fun ov l m => Op W A env outer (fun _ (_ _ : Unit) => True) (fun | [x, y] => setAttr x attr y | _ => pure ()) [ov, v] l m (fun _ => Q .next) E) E) E) :
    TrS W A env outer (exec (.Assign [.Attribute o attr pos'] value pos) env) loc mem Q E := fun R F s S =>
  plainObj_wpAny_Assign_Attribute (hs := hs) (after (RW := VR W) (Q := fun _ _ _ => True) (h R F s S) fun v' s' F1 f l1 m1 i1 r1 S1 h1 =>
    after (RW := VR W) (Q := fun _ _ _ => True) (h1 R F1 s' S1) fun u' s2 F2 g l2 m2 i2 r2 S2 h2 =>
      after (RW := VR W) (Q := fun _ _ _ => True) (h2 R F2 s2 [u', v'] S2 (.cons r2 (.cons (r1.mono i2) .nil))) fun _ s3 F3 _ l3 m3 i3 _ S3 h3 => ⟨F3, .next, l3, m3, (i1.trans i2).trans i3, .next, S3, h3⟩)
theorem s_assign_sub {o i : PySem.Expr} {pos' pos : Pos} {value : PySem.Expr} {Q : Fl → Loc → Mem → Prop} (hs : swapsWith value (some (.Subscript o i pos')) pos.line env = pure false)
    (h : TrV W A env outer (eval value env) loc mem (fun v l m => TrV W A env outer (eval o env) l m (fun ov l m => TrV W A env outer (eval i env) l m (fun iv l m =>
      Op W A env outer (fun _ (_ _ : Unit) => True) (fun | [x, y, z] => setItem x y z | _ => pure ()) [ov, iv, v] l m (fun _ => Q .next) E) E) E) E) :
    TrS W A env outer (exec (.Assign [.Subscript o i pos'] value pos) env) loc mem Q E := fun R F s S =>
  wpAny_Assign_Subscript (hs := hs) (after (RW := VR W) (Q := fun _ _ _ => True) (h R F s S) fun v' s' F1 f l1 m1 i1 r1 S1 h1 =>
    after (RW := VR W) (Q := fun _ _ _ => True) (h1 R F1 s' S1) fun u' s2 F2 g l2 m2 i2 r2 S2 h2 =>
      after (RW := VR W) (Q := fun _ _ _ => True) (h2 R F2 s2 S2) fun w' s3 F3 k l3 m3 i3 r3 S3 h3 =>
        after (RW := VR W) (Q := fun _ _ _ => True) (h3 R F3 s3 [u', w', v'] S3 (.cons (r2.mono i3) (.cons r3 (.cons (r1.mono (i2.trans i3)) .nil)))) fun _ s4 F4 _ l4 m4 i4 _ S4 h4 =>
          ⟨F4, .next, l4, m4, ((i1.trans i2).trans i3).trans i4, .next, S4, h4⟩)
theorem s_aug {x : Str} {pos' pos : Pos} {op : Operator} {value : PySem.Expr} {v : V} {Q : Fl → Loc → Mem → Prop} (hk : env.scope.kind = .function) (hl : env.kindOf x = some .local) (hv : loc.lookup x = some v)
    (h : TrV W A env outer (eval value env) loc mem (fun u l m => Op W A env outer (VR W) (fun | [a, b] => inplaceOp op a b | _ => pure .none) [v, u] l m (fun r l m => Op W A env outer (fun _ (_ _ : Unit) => True) (fun | [y] => storeName env x y | _ => pure ()) [r] l m (fun _ => Q .next) E) E) E) :
    TrS W A env outer (exec (.AugAssign (.Name x pos') op value pos) env) loc mem Q E := fun R F s S => by
  obtain ⟨m, hn, l⟩ := S.ns
  obtain ⟨v', e, r⟩ := l x v hv
  refine wpAny_AugAssign_Name (wpAny_loadName_local hk hl hn e ?_)
  exact after (RW := VR W) (Q := fun _ _ _ => True) (h R F s S) fun u' s2 F2 g l2 m2 i2 r2 S2 h2 =>
      after (RW := VR W) (Q := fun _ _ _ => True) (h2 R F2 s2 [v', u'] S2 (.cons (r.mono i2) (.cons r2 .nil))) fun w' s3 F3 k l3 m3 i3 r3 S3 h3 =>
        after (RW := VR W) (Q := fun _ _ _ => True) (h3 R F3 s3 [w'] S3 (.cons r3 .nil)) fun _ s4 F4 _ l4 m4 i4 _ S4 h4 =>
          ⟨F4, .next, l4, m4, (i2.trans i3).trans i4, .next, S4, h4⟩
noncomputable def LoopE (W : Wd) (A : Around) (env : Env) (E : Ex W) : Ex W where
  p R F := notedBy (model W.prog W.w) A env fun e s' => cameBackBy (model W.prog W.w) A env (E.p R F) e s'
  mono l i h := wpAny_mono h (fun _ _ q => wpAny_mono q (fun _ _ z => E.mono l i z) fun _ _ z => E.mono l i z) fun _ _ z => wpAny_mono z (fun _ _ z => E.mono l i z) fun _ _ z => E.mono l i z
noncomputable abbrev WhlQ (I : Nat → Loc → Mem → Prop) (k : Nat) (Q : Fl → Loc → Mem → Prop) : Fl → Loc → Mem → Prop
  | .next, l, m => ∃ k', k' < k ∧ I k' l m
  | .cont, l, m => ∃ k', k' < k ∧ I k' l m
  | .brk, l, m => Q .next l m
  | .ret v, l, m => Q (.ret v) l m
noncomputable abbrev ForQ (I : Nat → Nat → Loc → Mem → Prop) (k i : Nat) (Q : Fl → Loc → Mem → Prop) : Fl → Loc → Mem → Prop
  | .next, l, m => ∃ k', k' < k ∧ I k' i l m
  | .cont, l, m => ∃ k', k' < k ∧ I k' i l m
  | .brk, l, m => Q .next l m
  | .ret v, l, m => Q (.ret v) l m
theorem nameQ {α β : Type} {RV : Frz → β → α → Prop} {t : Sem α} {Q : β → Loc → Mem → Prop} (h : let q := Q; let e := E; Tr W A env outer RV t loc mem q e) : Tr W A env outer RV t loc mem Q E := h
inductive WhlI (W : Wd) (env : Env) (outer : Outs) (F : Frz) (R : Mem) (I : Nat → Loc → Mem → Prop) (n : Nat) (s : Shared) : Prop
  | intro (F' : Frz) (l : Loc) (m : Mem) (h1_ : Incl F F') (h2_ : Sim W env outer l m R F' s) (h3_ : I n l m)
theorem only_t {p q : Prop} (h : p) : (true = true → p) ∧ (true = false → q) := ⟨fun _ => h, fun e => (nomatch e)⟩
theorem only_f {p q : Prop} (h : q) : (false = true → p) ∧ (false = false → q) := ⟨fun e => (nomatch e), fun _ => h⟩
theorem nameS {sts : List Stmt} {Q : Fl → Loc → Mem → Prop} (h : let a := A; let v := env; let o := outer; let q := Q; let e := E; TrS W a v o (execs sts v) loc mem q e) : TrS W A env outer (execs sts env) loc mem Q E := h
theorem s_while {test : PySem.Expr} {body orelse : List Stmt} {pos : Pos} {Q : Fl → Loc → Mem → Prop} (I : Nat → Loc → Mem → Prop)
    (turn : ∀ k l m, I k l m → TrB W A env outer (isTrue test env (eval test env)) l m (fun b l m =>
      (b = true → TrS W A env outer (execs body env) l m (WhlQ I k Q) (LoopE W A env E)) ∧
      (b = false → TrS W A env outer (execs orelse env) l m Q (LoopE W A env E))) (LoopE W A env E))
    (k : Nat) (h : I k loc mem) : TrS W A env outer (exec (.While test body orelse pos) env) loc mem Q E := fun R F s S => by
  refine wpAny_While (codeAny_whileLoop (WhlI W env outer F R I) (fun n s hI => ?_) k ⟨F, loc, mem, Incl.refl F, S, h⟩)
  obtain ⟨F', l, m, i, S', hI⟩ := hI
  refine after' (RW := VR W) (Q := fun _ _ _ => True) (turn n l m hI R F' s S') (fun _ _ z => (LoopE W A env E).mono (Less.refl R) i z) fun b' s1 F1 b l1 m1 i1 r1 S1 h1 => ?_
  subst r1
  cases b' with
  | true =>
    rw [if_pos rfl]
    refine after' (RW := VR W) (Q := fun _ _ _ => True) (h1.1 rfl R F1 s1 S1) (fun _ _ z => (LoopE W A env E).mono (Less.refl R) (i.trans i1) z) fun f' s2 F2 f l2 m2 i2 r2 S2 h2 => ?_
    cases r2 with
    | next => obtain ⟨k', hk, q⟩ := h2; exact ⟨k', hk, F2, l2, m2, (i.trans i1).trans i2, S2, q⟩
    | cont => obtain ⟨k', hk, q⟩ := h2; exact ⟨k', hk, F2, l2, m2, (i.trans i1).trans i2, S2, q⟩
    | brk => exact ⟨F2, .next, l2, m2, (i.trans i1).trans i2, .next, S2, h2⟩
    | ret r => exact ⟨F2, .ret _, l2, m2, (i.trans i1).trans i2, .ret r, S2, h2⟩
  | false =>
    rw [if_neg Bool.false_ne_true]
    exact after' (RW := VR W) (Q := fun _ _ _ => True) (h1.2 rfl R F1 s1 S1) (fun _ _ z => (LoopE W A env E).mono (Less.refl R) (i.trans i1) z) fun f' s2 F2 f l2 m2 i2 r2 S2 h2 => ⟨F2, f, l2, m2, (i.trans i1).trans i2, r2, S2, h2⟩
inductive FedI (W : Wd) (env : Env) (outer : Outs) (loc : Loc) (mem R₀ : Mem) (F : Frz) (st : Nat → Mem → Mem → Prop) (i : Nat) (v : V) (v' : Value) (s : Shared) : Prop
  | intro (F' : Frz) (R' : Mem) (h1_ : Incl F F') (h2_ : VR W F' v v') (h3_ : st i R₀ R') (h4_ : Sim W env outer loc mem R' F' s)
structure Feed (W : Wd) (A : Around) (F₀ : Frz) (target : PySem.Expr) (it : Value) (item : Nat → Mem → Option (Option V)) (st : Nat → Mem → Mem → Prop) : Prop where
  next : ∀ {i : Nat} {env : Env} {outer : Outs} {loc : Loc} {mem R₀ R : Mem} {F : Frz} {s : Shared} {v : V} (E : Value → Shared → Prop), Incl F₀ F → st i R₀ R → item i mem = some (some v) → Sim W env outer loc mem R F s →
    wpAny (model W.prog W.w) A (pyNext it) (fun r s1 => ∃ v', r = some v' ∧ wpAny (model W.prog W.w) A (letOwnedTupleGo target it v') (fun _ s2 => FedI W env outer loc mem R₀ F st (i + 1) v v' s2) E s1) E s
  done : ∀ {i : Nat} {env : Env} {outer : Outs} {loc : Loc} {mem R₀ R : Mem} {F : Frz} {s : Shared} (E : Value → Shared → Prop), Incl F₀ F → st i R₀ R → item i mem = some none → Sim W env outer loc mem R F s →
    wpAny (model W.prog W.w) A (pyNext it) (fun r s1 => r = none ∧ Sim W env outer loc mem R₀ F s1) E s
  self : ∀ {i : Nat} {env : Env} {outer : Outs} {loc : Loc} {mem R₀ R : Mem} {F : Frz} {s : Shared} (E : Value → Shared → Prop) (Q : Value → Shared → Prop), st i R₀ R → Sim W env outer loc mem R F s → Q it s → wpAny (model W.prog W.w) A (pyIter it) Q E s
  frame : ∀ {i : Nat} {R₀ R : Mem} {D : Addr} (x : AObj), st i R₀ R → R D = R₀ D → st i (mset R₀ D x) (mset R D x)
  same : ∀ {i : Nat} {R₀ R : Mem} {D : Addr}, st i R₀ R → R₀ D ≠ none → R D = R₀ D
  off : ∀ {i : Nat} {env : Env} {outer : Outs} {loc : Loc} {mem R₀ R : Mem} {F : Frz} {s : Shared}, st i R₀ R → Sim W env outer loc mem R F s → Sim W env outer loc mem R₀ F s
noncomputable def Itr (W : Wd) (A : Around) (target : PySem.Expr) (x : V) (mem mem₀ : Mem) (item : Nat → Mem → Option (Option V)) : Prop :=
  ∀ {env : Env} {outer : Outs} {loc : Loc} {R : Mem} {F : Frz} {s : Shared} {x' : Value} (E : Value → Shared → Prop), Sim W env outer loc mem R F s → VR W F x x' →
    wpAny (model W.prog W.w) A (pyIter x') (fun it s' => ∃ st R', Feed W A F target it item st ∧ st 0 R R' ∧ Sim W env outer loc mem₀ R' F s') E s
noncomputable def ForK (W : Wd) (A : Around) (env : Env) (outer : Outs) (target : PySem.Expr) (body orelse : List Stmt) (x : V) (loc : Loc) (mem : Mem) (Q : Fl → Loc → Mem → Prop) (E : Ex W) : Prop :=
  ∀ R F s x', Sim W env outer loc mem R F s → VR W F x x' → wpAny (model W.prog W.w) A (pyIter x') (fun it s2 => codeAny (model W.prog W.w) A (.forLoop target it body orelse env) (fun r s' => match r with
    | .ok f => Post W env outer (FR W) R F Q f s'
    | .error e => cameBackBy (model W.prog W.w) A env (E.p R F) e s') s2) (E.p R F) s
theorem s_for {target iter : PySem.Expr} {body orelse : List Stmt} {pos : Pos} {Q : Fl → Loc → Mem → Prop} (hs : ∀ x, foldedSetIterable iter env x = pure x)
    (h : TrV W A env outer (eval iter env) loc mem (fun x l m => ForK W A env outer target body orelse x l m Q E) E) :
    TrS W A env outer (exec (.For target iter body orelse pos) env) loc mem Q E := fun R F s S =>
  wpAny_For (hs := hs) (after (RW := VR W) (Q := fun _ _ _ => True) (h R F s S) fun x' s1 F1 x l1 m1 i1 r1 S1 h1 =>
    wpAny_mono (h1 R F1 s1 x' S1 r1) (fun it s2 h2 => codeAny_mono h2 fun r s' h3 => by
      cases r with
      | ok f => exact Post.weaken i1 h3
      | error e => exact wpAny_mono h3 (fun _ _ z => E.up i1 z) fun _ _ z => E.up i1 z) fun _ _ e => E.up i1 e)
inductive ForI (W : Wd) (env : Env) (outer : Outs) (F : Frz) (R : Mem) (st : Nat → Mem → Mem → Prop) (I : Nat → Nat → Loc → Mem → Prop) (n : Nat) (s : Shared) : Prop
  | intro (i : Nat) (F' : Frz) (R' : Mem) (l : Loc) (m : Mem) (h1_ : Incl F F') (h2_ : st i R R') (h3_ : Sim W env outer l m R' F' s) (h4_ : I n i l m)
theorem for_k {mem₀ : Mem} {target : PySem.Expr} {body orelse : List Stmt} {x : V} {Q : Fl → Loc → Mem → Prop} {item : Nat → Mem → Option (Option V)} (hx : Itr W A target x mem mem₀ item) (I : Nat → Nat → Loc → Mem → Prop)
    (turn : ∀ k i l m, I k i l m → item i m ≠ none ∧ (item i m = some none → TrS W A env outer (execs orelse env) l m Q (LoopE W A env E)) ∧
      ∀ v, item i m = some (some v) → Op W A env outer (fun _ (_ _ : Unit) => True) (fun | [y] => assign target env y | _ => pure ()) [v] l m (fun _ l m => TrS W A env outer (execs body env) l m (ForQ I k (i + 1) Q) (LoopE W A env E)) (LoopE W A env E))
    (k : Nat) (h : I k 0 loc mem₀) : ForK W A env outer target body orelse x loc mem Q E := fun R F s x' S r => by
  refine wpAny_mono (hx (E.p R F) S r) (fun it s2 h2 => ?_) fun _ _ e => e
  obtain ⟨st, R', fd, h0, S2⟩ := h2
  refine codeAny_forLoop_any (ForI W env outer F R st I) (fun n s hI => ?_) k ⟨0, F, R', loc, mem₀, Incl.refl F, h0, S2, h⟩
  obtain ⟨i, F', R1, l, m, ic, hst, S', hI⟩ := hI
  obtain ⟨t1, t2, t3⟩ := turn n i l m hI
  cases hit : item i m with
  | none => exact absurd hit t1
  | some w =>
    cases w with
    | none =>
      refine wpAny_mono (fd.done _ ic hst hit S') (fun r s1 h1 => ?_) fun _ _ e => e
      obtain ⟨rfl, S1⟩ := h1
      exact wpAny_mono (t2 hit R F' s1 S1) (fun f s3 h3 => Post.weaken ic h3) fun _ _ e => (LoopE W A env E).mono (Less.refl R) ic e
    | some v =>
      refine wpAny_mono (fd.next _ ic hst hit S') (fun r s1 h1 => ?_) fun _ _ e => e
      obtain ⟨v', rfl, h1⟩ := h1
      refine wpAny_mono h1 (fun _ s2 h2 => ?_) fun _ _ e => e
      obtain ⟨F2, R2, i2, r2, hst2, S2⟩ := h2
      have less : Less W R R2 := ⟨fun S => fd.off hst2 S, fun a x h => by rw [fd.same hst2 (by rw [h]; exact fun e => nomatch e)]; exact h⟩
      refine after' (RW := VR W) (Q := fun _ _ _ => True) (t3 v hit R2 F2 s2 [v'] S2 (.cons r2 .nil)) (fun _ _ z => (LoopE W A env E).mono less (ic.trans i2) z) fun _ s3 F3 _ l3 m3 i3 _ S3 h3 => ?_
      refine after' (RW := VR W) (Q := fun _ _ _ => True) (h3 R2 F3 s3 S3) (fun _ _ z => (LoopE W A env E).mono less ((ic.trans i2).trans i3) z) fun f' s4 F4 f l4 m4 i4 r4 S4 h4 => ?_
      have hi := ((ic.trans i2).trans i3).trans i4
      cases r4 with
      | next => obtain ⟨k', hk, q⟩ := h4; exact ⟨k', hk, i + 1, F4, R2, l4, m4, hi, hst2, S4, q⟩
      | cont => obtain ⟨k', hk, q⟩ := h4; exact ⟨k', hk, i + 1, F4, R2, l4, m4, hi, hst2, S4, q⟩
      | brk => exact ⟨F4, .next, l4, m4, hi, .next, fd.off hst2 S4, h4⟩
      | ret r => exact ⟨F4, .ret _, l4, m4, hi, .ret r, fd.off hst2 S4, h4⟩
end
end Mine
end
section
namespace Mine
noncomputable def ledger (hb h : Heap) (L d : Addr) : List (Addr × Obj) := (List.range h.objs.size).filterMap fun a => if a = L ∨ a = d ∨ (hb.get? a).isSome = true then none else (h.get? a).map fun o => (a, o)
theorem mem_ledger {hb h : Heap} {L d : Addr} {p : Addr × Obj} : p ∈ ledger hb h L d ↔ h.get? p.1 = some p.2 ∧ p.1 ≠ L ∧ p.1 ≠ d ∧ hb.get? p.1 = none := by
  unfold ledger
  rw [List.mem_filterMap]
  constructor
  · rintro ⟨a, ha, e⟩
    split at e
    · cases e
    · rename_i hn
      cases q : h.get? a with
      | none => rw [q] at e; cases e
      | some o =>
        rw [q] at e
        cases e
        refine ⟨q, fun e => hn (.inl e), fun e => hn (.inr (.inl e)), ?_⟩
        cases z : hb.get? a with
        | none => rfl
        | some y => exact absurd (.inr (.inr (by rw [z]; rfl))) hn
  · rintro ⟨h1, h2, h3, h4⟩
    refine ⟨p.1, List.mem_range.mpr (Heap.lt_size h1), ?_⟩
    rw [if_neg, h1]
    · rfl
    · rintro (e | e | e)
      · exact h2 e
      · exact h3 e
      · rw [h4] at e; cases e
theorem ledger_ne {hb h : Heap} {L d : Addr} {p : Addr × Obj} (hp : p ∈ ledger hb h L d) : p.1 ≠ d := (mem_ledger.mp hp).2.2.1
section
variable {W : Wd} {env : Env} {outer : Outs} {loc : Loc} {mem R : Mem} {F : Frz} {s : Shared}
theorem Sim.newsAll {a : Addr} {x : AObj} {o : Obj} (S : Sim W env outer loc mem R F s) (h : mem a = some x) (ho : s.heap.get? a = some o) : News W.hb env.locals s.heap ((a, o) :: ledger W.hb s.heap env.locals a) := by
  intro p hp
  rcases List.mem_cons.mp hp with rfl | hp
  · exact ⟨ho, S.ne_locals h, S.fresh_base h⟩
  · have := mem_ledger.mp hp; exact ⟨this.1, this.2.1, this.2.2.2⟩
theorem Sim0.updN {a : Addr} {x x' : AObj} {h' : Heap} {t : Nat} {d : Drawn} {o' : Obj} {m : Str → Option Value} (S : Sim0 W env outer loc mem F s) (hm : mem a = some x) (l : LocRel W F loc m)
    (Fr' : Fr W.hb env.locals h' m) (N' : News W.hb env.locals h' ((a, o') :: ledger W.hb s.heap env.locals a)) (r : OR W F x' o') :
    Sim0 W env outer loc (mset mem a x') F { s with heap := h', toks := t, drawn := d } := by
  have hs : ∀ b o, b ≠ a → b ≠ env.locals → s.heap.get? b = some o → h'.get? b = some o := fun b o h1 h2 e => by
    cases q : W.hb.get? b with
    | some o' =>
      have := S.frz _ _ (S.base _ _ q)
      rw [e] at this; cases this
      exact Fr'.keep b o q
    | none => exact (N' (b, o) (.tail _ (mem_ledger.mpr ⟨e, h2, h1, q⟩))).1
  have ho := (N' (a, o') (.head _)).1
  exact {
    frz := fun b o h => hs b o (fun e => by have := S.memF b o h; rw [e, hm] at this; cases this) (fun e => S.nsF.1 o (e ▸ h)) (S.frz b o h)
    base := S.base
    memF := fun b o h => by
      have hb : b ≠ a := fun e => by have := S.memF b o h; rw [e, hm] at this; cases this
      rw [mset_ne hb]; exact S.memF b o h
    memOk := fun b y h => by
      by_cases e : b = a
      · subst e; rw [mset_self] at h; cases h; exact ⟨o', ho, r⟩
      · rw [mset_ne e] at h; obtain ⟨o, e', q⟩ := S.memOk b y h; exact ⟨o, hs b o e (S.ne_locals h) e', q⟩
    ns := ⟨m, Fr'.ns, l⟩
    nsF := ⟨S.nsF.1, by rw [mset_ne (Ne.symm (S.ne_locals hm))]; exact S.nsF.2⟩
    outs := fun q hq => by
      obtain ⟨z, b, c, e⟩ := S.outs q hq
      have hq' : q.1 ≠ a := fun e => by rw [e, hm] at c; cases c
      obtain ⟨o, es, ep, e', r'⟩ := z
      exact ⟨⟨o, es, ep, hs _ _ hq' e e', r'⟩, b, by rw [mset_ne hq']; exact c, e⟩
    low := S.low
    memLow := fun b y h => by
      unfold mset at h
      split at h
      · rename_i q; rw [q]; exact S.memLow a x hm
      · exact S.memLow b y h
    gens := S.gens
    os := S.os }
theorem Sim.updN {a : Addr} {x x' : AObj} {h' : Heap} {t : Nat} {d : Drawn} {o' : Obj} {m : Str → Option Value} (S : Sim W env outer loc mem R F s) (hm : mem a = some x) (l : LocRel W F loc m)
    (Fr' : Fr W.hb env.locals h' m) (N' : News W.hb env.locals h' ((a, o') :: ledger W.hb s.heap env.locals a)) (r : OR W F x' o') :
    Sim W env outer loc (mset mem a x') R F { s with heap := h', toks := t, drawn := d } := ⟨S.dis.set hm, mset_mun mem R a x' ▸ S.z.updN (mun_l hm) l Fr' N' r⟩
end
noncomputable def getA (es : List (Str × V)) (k : Str) : Option V := (es.find? fun e => e.1 = k).map (·.2)
noncomputable def stA (es : List (Str × V)) (k : Str) (v : V) : List (Str × V) :=
  if es.any (fun e => e.1 = k) then es.map (fun e => if e.1 = k then (e.1, v) else e) else es ++ [(k, v)]
section
variable {W : Wd} {F : Frz}
theorem VRp.get {es : List (Str × V)} {kvs : List (Str × Value)} (r : VRp W F es kvs) (k : Str) :
    (∀ x, getA es k = some x → ∃ v, valueAt kvs k = some v ∧ VR W F x v) ∧ (getA es k = none → valueAt kvs k = none) := by
  induction es generalizing kvs with
  | nil => cases r.view; exact ⟨fun x h => (nomatch h), fun _ => rfl⟩
  | cons e es ih =>
    cases r with
    | @cons k' x v xs vs r1 r2 =>
      unfold getA valueAt
      rw [List.find?_cons, List.find?_cons]
      by_cases h : k' = k
      · simp only [h, decide_true]
        exact ⟨fun y e => by cases e; exact ⟨v, rfl, r1⟩, fun e => (nomatch e)⟩
      · simp only [h, decide_false]
        exact ih r2
theorem VRp.keys {es : List (Str × V)} {kvs : List (Str × Value)} (r : VRp W F es kvs) : kvs.map (·.1) = es.map (·.1) := by
  induction es generalizing kvs with
  | nil => cases r.view; rfl
  | cons e es ih => cases r.view with | cons r1 r2 => simp [ih r2]
theorem VRp.length {es : List (Str × V)} {kvs : List (Str × Value)} (r : VRp W F es kvs) : kvs.length = es.length := by
  have := congrArg List.length r.keys; simpa using this
theorem VRp.append {es es' : List (Str × V)} {kvs kvs' : List (Str × Value)} (r : VRp W F es kvs) (r' : VRp W F es' kvs') : VRp W F (es ++ es') (kvs ++ kvs') := by
  induction es generalizing kvs with
  | nil => cases r.view; exact r'
  | cons e es ih => cases r.view with | cons r1 r2 => exact .cons r1 (ih r2)
theorem VRp.any {es : List (Str × V)} {kvs : List (Str × Value)} (r : VRp W F es kvs) (k : Str) : kvs.any (fun e => decide (e.1 = k)) = es.any (fun e => decide (e.1 = k)) := by
  induction es generalizing kvs with
  | nil => cases r.view; rfl
  | cons e es ih => cases r.view with | cons r1 r2 => simp [ih r2]
theorem VRp.map {es : List (Str × V)} {kvs : List (Str × Value)} (r : VRp W F es kvs) (k : Str) {x : V} {v : Value} (rx : VR W F x v) :
    VRp W F (es.map fun e => if e.1 = k then (e.1, x) else e) (kvs.map fun e => if e.1 = k then (e.1, v) else e) := by
  induction es generalizing kvs with
  | nil => cases r.view; exact .nil
  | cons e es ih =>
    cases r with
    | @cons k' y u xs vs r1 r2 =>
      rw [List.map_cons, List.map_cons]
      by_cases h : k' = k
      · simp only [h, if_true]; exact .cons rx (ih r2)
      · simp only [h, if_false]; exact .cons r1 (ih r2)
theorem VRp.store {es : List (Str × V)} {kvs : List (Str × Value)} (r : VRp W F es kvs) (k : Str) {x : V} {v : Value} (rx : VR W F x v) : VRp W F (stA es k x) (stored kvs k v) := by
  unfold stA stored
  rw [r.any k]
  split
  · exact r.map k rx
  · exact r.append (.cons rx .nil)
theorem VRp.rev {es : List (Str × V)} {kvs : List (Str × Value)} (r : VRp W F es kvs) : VRp W F es.reverse kvs.reverse := by
  induction es generalizing kvs with
  | nil => cases r.view; exact .nil
  | cons e es ih => cases r.view with | cons r1 r2 => rw [List.reverse_cons, List.reverse_cons]; exact (ih r2).append (.cons r1 .nil)
theorem VRp.loc {es : List (Str × V)} {kvs : List (Str × Value)} (r : VRp W F es kvs) : LocRel W F es (fun x => kvs.lookup x) := by
  induction es generalizing kvs with
  | nil => intro x v e; cases e
  | cons e es ih =>
    cases r with
    | @cons k y u xs vs r1 r2 =>
      intro x v e
      rw [List.lookup_cons] at e
      show ∃ v', List.lookup x ((k, u) :: vs) = some v' ∧ _
      rw [List.lookup_cons]
      split at e
      · cases e; exact ⟨u, rfl, r1⟩
      · exact ih r2 x v e
theorem VRs.length {xs : List V} {vs : List Value} (r : VRs W F xs vs) : vs.length = xs.length := by
  induction xs generalizing vs with
  | nil => cases r.view; rfl
  | cons x xs ih => cases r.view with | cons r1 r2 => simp [ih r2]
end
section
variable {W : Wd} {A : Around} {env : Env} {outer : Outs} {loc : Loc} {mem R : Mem} {E : Ex W} {F : Frz} {s : Shared}
theorem Pairs.refKey {es : List DictEntry} {kvs : List (Str × Value)} (h : Pairs (strKind W.prog W.w) es kvs) : es.any (·.refKey) = false := by
  induction h with
  | nil => rfl
  | cons hk _ _ ih =>
    obtain ⟨t, e⟩ := Value.isStrOf_shape hk
    rw [List.any_cons, ih, Bool.or_false]
    unfold DictEntry.refKey
    rw [e]
theorem lookIn_of {o : Obj} {kvs : List (Str × Value)} (h : o.IsDictOf (strKind W.prog W.w) kvs) (k : Str) : lookIn k o = some (valueAt kvs k) := by
  obtain ⟨es, ep, hx, hd, hk, hp, hn⟩ := h
  unfold lookIn
  rw [hd]
  dsimp only
  have e := hp.find k
  have e2 : (es.toList.find? fun e => e.key.isStr k) = es.toList.find? fun e => (strKind W.prog W.w).is k e.key := by
    congr 1; funext e; exact isStr_of k e.key
  rw [e2]
  rw [← e]
  cases q : es.toList.find? fun e => (strKind W.prog W.w).is k e.key with
  | some e' => rfl
  | none => rw [Pairs.refKey hp]; rfl
theorem putL_eq_of_find {k : Str} {hsh : Int} {key v : Value} : ∀ {es : List DictEntry} {i : Nat}, es.findIdx? (fun x => x.key.isStr k) = some i → putL k hsh key v es = es.modify i fun e => { e with val := v } := by
  intro es i h
  rw [← putL_find k hsh key v es, h]
theorem putL_eq_of_none {k : Str} {hsh : Int} {key v : Value} {es : List DictEntry} (h : es.findIdx? (fun x => x.key.isStr k) = none) : putL k hsh key v es = es ++ [⟨hsh, key, v⟩] := by
  rw [← putL_find k hsh key v es, h]
theorem dictOf_put {ds : List DictEntry} {n m : Nat} {kvs : List (Str × Value)} {k : Str} {t : Tok} {v : Value} (h : (dictOf ds n).IsDictOf (strKind W.prog W.w) kvs) :
    (dictOf (putL k (PyData.keyHash W.w.params k) (.str k t) v ds) m).IsDictOf (strKind W.prog W.w) (stored kvs k v) := by
  obtain ⟨es, ep, hx, hd, hk, hp, hn⟩ := h
  have he : es = ds.toArray := by cases hd; rfl
  subst he
  have e2 : ∀ (l : List DictEntry), (l.findIdx? fun e => e.key.isStr k) = l.findIdx? fun e => (strKind W.prog W.w).is k e.key := fun l => by
    congr 1; funext e; exact isStr_of k e.key
  refine ⟨(putL k (PyData.keyHash W.w.params k) (.str k t) v ds).toArray, m, ⟨rfl, rfl, rfl⟩, rfl, ?_, ?_, ?_⟩
  · intro e he
    have he' : e ∈ putL k (PyData.keyHash W.w.params k) (.str k t) v ds := by simpa using he
    cases q : ds.findIdx? (fun x => x.key.isStr k) with
    | some i =>
      rw [putL_eq_of_find q] at he'
      have := hk.modify i v
      exact this e (by rw [List.modify_toArray]; simpa using he')
    | none =>
      rw [putL_eq_of_none q] at he'
      rcases List.mem_append.mp he' with h | h
      · exact hk e (by simpa using h)
      · rw [List.mem_singleton] at h; subst h; exact ⟨k, strKind_is _ _ k t, rfl⟩
  · show Pairs _ (putL k (PyData.keyHash W.w.params k) (.str k t) v ds) _
    have hp' : Pairs (strKind W.prog W.w) ds kvs := hp
    cases q : ds.findIdx? (fun x => x.key.isStr k) with
    | some i =>
      rw [putL_eq_of_find q]
      have q' := q
      rw [e2] at q
      have q2 := q
      rw [hp'.findIdx k] at q2
      unfold stored
      rw [if_pos (any_of_findIdx_some q2)]
      exact hp'.modify hn q v
    | none =>
      rw [putL_eq_of_none q]
      rw [e2, hp'.findIdx k] at q
      unfold stored
      rw [if_neg]
      · exact hp'.append (strKind_is _ _ k t) _ v
      · intro hh
        have := not_mem_of_findIdx_none q
        obtain ⟨x, hx1, hx2⟩ := List.any_eq_true.mp hh
        exact this (List.mem_map.mpr ⟨x, hx1, of_decide_eq_true hx2⟩)
  · unfold stored
    split
    · rw [keys_map_store]; exact hn
    · rename_i hh
      rw [List.map_append, List.nodup_append]
      refine ⟨hn, by simp, ?_⟩
      intro a ha b hb e
      subst e
      simp only [List.map_cons, List.map_nil, List.mem_singleton] at hb
      subst hb
      obtain ⟨x, hx1, hx2⟩ := List.mem_map.mp ha
      exact hh (List.any_eq_true.mpr ⟨x, hx1, by simpa using hx2⟩)
inductive Inst (W : Wd) (mem : Mem) : V → Addr → List (Str × V) → Prop
  | own {x C d : Addr} {es : List (Str × V)} {ep : Nat} : mem x = some (.inst C d) → mem d = some (.dict es ep) → Inst W mem (.ref x) C es
  | frz {C : Addr} {es : List (Str × V)} : Inst W mem (.ins C es) C es
theorem Inst.at {v : V} {C : Addr} {es : List (Str × V)} {v' : Value} (I : Inst W mem v C es) (S : Sim W env outer loc mem R F s) (r : VR W F v v') :
    ∃ x d od kvs, v' = .ref x ∧ InstAt s.heap x (instObj C d) C (some od) ∧ od.IsDictOf (strKind W.prog W.w) kvs ∧ VRp W F es kvs := by
  cases I with
  | own h1 h2 =>
    cases r.view
    obtain ⟨o, ho, r1⟩ := S.memOk _ _ h1
    obtain ⟨o2, ho2, r2⟩ := S.memOk _ _ h2
    cases r1.view
    cases r2.view with
    | dict k q => exact ⟨_, _, _, _, rfl, ⟨ho, rfl, rfl, ho2⟩, k, q⟩
  | frz =>
    cases r.view with
    | ins f g k q => exact ⟨_, _, _, _, rfl, ⟨S.frz _ _ f, rfl, rfl, S.frz _ _ g⟩, k, q⟩
noncomputable def okV : V → Bool
  | .glob u => handedIn u
  | _ => true
theorem VR.handed {v : V} {v' : Value} (r : VR W F v v') (h : okV v = true) : handedIn v' = true := by
  cases r <;> first | rfl | exact h
theorem get_field {v : V} {C : Addr} {es : List (Str × V)} {name : Str} {expr : Bool} {x : V} {attr : Option Value} {Q : V → Loc → Mem → Prop} (I : Inst W mem v C es) (hg : plainGet W.K C name = true) (hh : hasDictIn W.K C = true)
    (ha : findIn W.K (.ref C) name = some attr) (hn : noGet W.K attr = true) (hl : getA es name = some x) (hv : okV x = true) (h : Q x loc mem) :
    Op W A env outer (VR W) (fun | [y] => getAttr y name expr | _ => pure .none) [v] loc mem Q E := fun R F s vs S r => by
  cases r.view with
  | cons r1 r2 =>
    cases r2.view
    obtain ⟨xa, d, od, kvs, rfl, J, hd, rp⟩ := I.at S r1
    obtain ⟨u, hu, ru⟩ := (rp.get name).1 x hl
    exact get_value S.kin J (plainGet_of hg).1 (findObj_own hh ha hn (by rw [lookIn_of hd, hu])) (ru.handed hv) (Post.mk ru S.tick h)
theorem e_attr {value : PySem.Expr} {attr : Str} {pos : Pos} {Q : V → Loc → Mem → Prop}
    (he : eval (.Attribute value attr pos) env = (do
      let o ← eval value env
      standAt pos.atName
      let r ← holding [o] (getAttr o attr true)
      letTemporaryGo value o r
      pure r))
    (h : TrV W A env outer (eval value env) loc mem (fun o l m => Op W A env outer (VR W) (fun | [y] => getAttr y attr true | _ => pure .none) [o] l m Q E) E) :
    TrV W A env outer (eval (.Attribute value attr pos) env) loc mem Q E := fun R F s S =>
  Attribute_any_ (he := he) (after (RW := VR W) (Q := fun _ _ _ => True) (h R F s S) fun v' s' F1 v l1 m1 i1 r1 S1 h1 => wpAny_mono (h1 R F1 s' [v'] S1 (.cons r1 .nil)) (fun _ _ p => p.weaken i1) fun _ _ e => E.up i1 e)
theorem set_field {x C d : Addr} {es : List (Str × V)} {ep : Nat} {name : Str} {v : V} {Q : Loc → Mem → Prop} (h1 : mem x = some (.inst C d)) (h2 : mem d = some (.dict es ep))
    (hs : findIn W.K (.ref C) "__setattr__" = some (some (.builtin "object.__setattr__"))) (hp : plainOver W.K C = true) (ht : takerIn W.K C name = some none) (hh : hasDictIn W.K C = true) (hz : es.length ≤ 900)
    (h : ∀ ep', Q loc (mset mem d (.dict (stA es name v) ep'))) :
    Op W A env outer (fun _ (_ _ : Unit) => True) (fun | [y, z] => setAttr y name z | _ => pure ()) [.ref x, v] loc mem (fun _ => Q) E := fun R F s vs S r => by
  cases r.view with
  | cons r1 r2 =>
    cases r1.view
    cases r2.view with
    | @cons v' _ ru r3 =>
      cases r3.view
      obtain ⟨o, ho, q1⟩ := S.memOk _ _ h1
      obtain ⟨o2, ho2, q2⟩ := S.memOk _ _ h2
      cases q1.view
      cases q2.view with
      | @dict ds kvs k q =>
        obtain ⟨m, hn, l⟩ := S.ns
        have hl : (getL name ds).isSome = true := by
          have := lookIn_of k name
          rw [lookIn_dict] at this
          rw [this]; rfl
        have hlen : (putL name (PyData.keyHash W.w.params name) (.str name (s.toks + 1)) v' ds).length ≤ 1000 := by
          have hp' : Pairs (strKind W.prog W.w) (putL name (PyData.keyHash W.w.params name) (.str name (s.toks + 1)) v' ds) (stored kvs name v') := by
            obtain ⟨es', ep', _, hd', _, hp', _⟩ := dictOf_put (m := 0) (t := s.toks + 1) (k := name) (v := v') k
            cases hd'; exact hp'
          have z1 := hp'.length
          have z2 := stored_length_le kvs name v'
          have z3 := q.length
          omega
        refine set_dict (S.fr hn) W.KIn (S.newsAll h2 ho2) ⟨ho, rfl, rfl, ho2⟩ rfl hs hp ht hh hl rfl (.head (fun p hp => ledger_ne hp)) hlen fun h' F' N' => ?_
        exact Post.mk (x := ()) trivial (S.updN (t := s.toks + 2) (d := s.drawn) h2 l F' N' (.dict (dictOf_put k) (q.store name ru))) (h _)
end
end Mine
end
section
namespace Mine
section
variable {W : Wd} {A : Around} {env : Env} {outer : Outs} {loc : Loc} {mem R : Mem} {E : Ex W} {F : Frz} {s : Shared}
noncomputable def LeaveE (W : Wd) (A : Around) (env' : Env) (E : Ex W) : Ex W where
  p R F e s' := wpAny (model W.prog W.w) (A.deeper env') (leaving env' e) (fun _ s'' => E.p R F e s'') (fun e' s'' => E.p R F e' s'') s'
  mono l i h := wpAny_mono h (fun _ _ z => E.mono l i z) fun _ _ z => E.mono l i z
noncomputable def retOf : Fl → V
  | .ret v => v
  | _ => .none
noncomputable def Body (W : Wd) (A : Around) (env : Env) (outer : Outs) (qual : Str) (scope : Scope) (body : List Stmt) (cdv : Value) (cl : List (Str × Addr)) (f : Addr) (bs : Loc) (mem : Mem) (Q : V → Mem → Prop) (E : Ex W) : Prop :=
  ∀ (L : Addr) (m0 : Str → Option Value), TrS W (A.deeper (envX qual scope L f cdv cl)) (envX qual scope L f cdv cl) ((env.locals, m0) :: outer) (execs body (envX qual scope L f cdv cl)) bs mem (fun fl _ m => ∃ m', (∀ a x, m' a = some x → m a = some x) ∧ Q (retOf fl) m') (LeaveE W A (envX qual scope L f cdv cl) E)
theorem Sim0.enter {L : Addr} {env' : Env} {h₁ : Heap} {t : Nat} {m m' : Str → Option Value} {loc' : Loc} (S : Sim0 W env outer loc mem F s) (hn : s.heap.Ns env.locals m) (hL : L = s.heap.objs.size) (hl' : env'.locals = L)
    (hn' : h₁.Ns L m') (hk : ∀ b o, s.heap.get? b = some o → h₁.get? b = some o) (l' : LocRel W F loc' m') : Sim0 W env' ((env.locals, m) :: outer) loc' mem F { s with heap := h₁, toks := t } := by
  have ge : s.heap.get? L = none := by rw [hL]; exact get?_size _
  obtain ⟨f1, f2, f3, f4⟩ := S.free_of_none ge
  exact {
    frz := fun a o h => hk a o (S.frz a o h)
    base := S.base
    memF := S.memF
    memOk := fun a x h => let ⟨o, e, r⟩ := S.memOk a x h; ⟨o, hk _ _ e, r⟩
    ns := ⟨m', by rw [hl']; exact hn', l'⟩
    nsF := ⟨fun o => by rw [hl']; exact f2 o, by rw [hl']; exact f1⟩
    outs := fun q hq => by
      rw [hl']
      rcases List.mem_cons.mp hq with rfl | hq
      · exact ⟨hn.keeps hk, S.nsF.1, S.nsF.2, Ne.symm f3⟩
      · obtain ⟨z, b, c, e⟩ := S.outs q hq; exact ⟨z.keeps hk, b, c, f4 q hq⟩
    low := by rw [hl', hL]; exact Nat.le_trans S.low (Nat.le_of_lt hn.lt)
    memLow := S.memLow
    gens := S.gens
    os := S.os }
theorem Sim0.leave {env' : Env} {m : Str → Option Value} {loc' : Loc} {mem' : Mem} {F' : Frz} {s' : Shared} (S : Sim0 W env outer loc mem F s) (l : LocRel W F loc m) (i : Incl F F')
    (S' : Sim0 W env' ((env.locals, m) :: outer) loc' mem' F' s') : Sim0 W env outer loc mem' F' s' where
  frz := S'.frz
  base := S'.base
  memF := S'.memF
  memOk := S'.memOk
  ns := ⟨m, (S'.outs _ (.head _)).1, l.mono i⟩
  nsF := ⟨(S'.outs _ (.head _)).2.1, (S'.outs _ (.head _)).2.2.1⟩
  outs q hq := let ⟨z, b, c, _⟩ := S'.outs q (.tail _ hq); ⟨z, b, c, (S.outs q hq).2.2.2⟩
  low := S.low
  memLow := S'.memLow
  gens := S'.gens
  os := S'.os
theorem code_fn {name qual : Str} {params : Arguments} {body : List Stmt} {scope : Scope} {cl : List (Str × Addr)} {dV kV doc pm cdv ct : Value} {an : Option Addr} {fo : Obj} {f : Addr} {args : Args} {bs : List (Str × V)} {bv : List (Str × Value)} {Q : V → Mem → Prop} {Rz : Result → Shared → Prop}
    (S : Sim W env outer loc mem R F s) (ho : s.heap.get? f = some fo) (hd : fo.data = .func (fnX name qual params body scope cl dV kV doc pm an cdv ct)) (hcd : s.heap.CodeRec cdv qual) (hroom : A.depth < recursionLimit)
    (hbind : BindsTo s (fnX name qual params body scope cl dV kV doc pm an cdv ct) args bv) (rb : VRp W F bs bv) (hloc : ∀ y ∈ bs, scope.names.lookup y.1 = some .local)
    (hcell : ∀ x ∈ scope.names, x.2 ≠ .cell) (hco : scope.isCoroutine = false) (hgen : scope.isGenerator = false) (hk : scope.kind = .function)
    (E' : Ex W) (hE : ∀ e s', E'.p R F e s' → Rz (.error e) s')
    (hR : ∀ F' v v' m' s', Incl F F' → VR W F' v v' → Sim W env outer loc m' R F' s' → Q v m' → Rz (.ok (.ret v')) s')
    (h : Body W A env outer qual scope body cdv cl f bs.reverse mem Q E') : codeAny (model W.prog W.w) A (.call (.ref f) args) Rz s := by
  obtain ⟨m, hn, l⟩ := S.ns
  have hloc' : ∀ y ∈ bv, scope.names.lookup y.1 = some .local := fun y hy => by
    have : y.1 ∈ bs.map (·.1) := rb.keys ▸ List.mem_map_of_mem hy
    obtain ⟨z, hz, e⟩ := List.mem_map.mp this
    exact e ▸ hloc z hz
  refine codeAny_call_def (fd := fnX name qual params body scope cl dV kV doc pm an cdv ct) (body := body) (binds := bv) hroom ho hd (W.nolim.keeps S.hbase) hcd rfl hbind hcell hloc' (fun h₁ hns hk₁ => ?_) hco hgen hk
  have S' : Sim W (envX qual scope s.heap.objs.size f cdv cl) ((env.locals, m) :: outer) bs.reverse mem R F { s with heap := h₁, toks := s.toks + bv.length } :=
    ⟨S.dis, S.z.enter hn rfl rfl hns hk₁ rb.rev.loc⟩
  refine wpAny_mono (h s.heap.objs.size m R F _ S') (fun fl s' hp => ?_) fun e s' he => wpAny_mono he (fun _ _ q => hE _ _ q) fun _ _ q => hE _ _ q
  obtain ⟨F', fl', l', m2, i, r, S2, m', hm', q⟩ := hp
  have S2 := S2.drop hm'
  have S3 : Sim W env outer loc m' R F' s' := ⟨S2.dis, S.z.leave l i S2.z⟩
  cases r with
  | next => exact hR F' .none .none m' s' i .none S3 q
  | brk => exact hR F' .none .none m' s' i .none S3 q
  | cont => exact hR F' .none .none m' s' i .none S3 q
  | ret r => exact hR F' _ _ m' s' i r S3 q
noncomputable def Binds (W : Wd) (fd : FuncData) (kw : List (Str × Value)) (xs : List V) (bs : List (Str × V)) : Prop :=
  ∀ (F : Frz) (s : Shared) (vs : List Value), (∀ a o, W.hb.get? a = some o → F a o) → W.K.In s.heap → VRs W F xs vs → ∃ bv, BindsTo s fd ⟨vs, kw⟩ bv ∧ VRp W F bs bv
theorem call_fn {name qual : Str} {params : Arguments} {body : List Stmt} {scope : Scope} {dV kV doc pm cdv ct oc : Value} {an od : Option Addr} {osl : Array (Option Value)} {f : Addr} {xs : List V} {bs : List (Str × V)} {Q : V → Loc → Mem → Prop}
    (ho : W.K.lookup f = some ⟨oc, od, .func (fnOf name qual params body scope dV kV doc pm an cdv ct), osl⟩) (hcd : codeIn W.K cdv qual = true) (hroom : A.depth < recursionLimit)
    (hbind : Binds W (fnOf name qual params body scope dV kV doc pm an cdv ct) [] xs bs) (hloc : ∀ y ∈ bs, scope.names.lookup y.1 = some .local)
    (hcell : ∀ x ∈ scope.names, x.2 ≠ .cell) (hco : scope.isCoroutine = false) (hgen : scope.isGenerator = false) (hk : scope.kind = .function)
    (h : Body W A env outer qual scope body cdv [] f bs.reverse mem (fun v m => Q v loc m) E) : Op W A env outer (VR W) (fun vs => call (.ref f) vs) xs loc mem Q E := fun R F s vs S r => by
  obtain ⟨bv, hb, rb⟩ := hbind F s vs S.base S.kin r
  exact wpAny_call (code_fn S (S.kin _ _ ho) rfl (codeRec_of S.kin hcd) hroom hb rb hloc hcell hco hgen hk E (fun _ _ e => e) (fun F' v v' m' s' i r S' q => ⟨F', v, loc, m', i, r, S', q⟩) h)
theorem c_name {func : PySem.Expr} {args : List PySem.Expr} {pos : Pos} {Q : V → Loc → Mem → Prop}
    (he : eval (.Call func args [] pos) env = (do callWith pos (← eval func env) [] (backTo pos (starEach args env)) (backToKw pos (keywordEach [] env))))
    (h : TrV W A env outer (eval func env) loc mem (fun g l m => Op W A env outer (VR W) (fun | [f] => callWith pos f [] (backTo pos (starEach args env)) [] | _ => pure .none) [g] l m Q E) E) :
    TrV W A env outer (eval (.Call func args [] pos) env) loc mem Q E := fun R F s S => by
  rw [he]
  exact wpAny_bind (after (RW := VR W) (Q := fun _ _ _ => True) (h R F s S) fun v' s' F1 v l1 m1 i1 r1 S1 h1 => wpAny_mono (h1 R F1 s' [v'] S1 (.cons r1 .nil)) (fun _ _ p => p.weaken i1) fun _ _ e => E.up i1 e)
theorem c_top {a : Addr} {e : PySem.Expr} {rest : List PySem.Expr} {pos : Pos} {Q : V → Loc → Mem → Prop} (hk : keepIn W.K (.ref a) = true) (he : starEach (e :: rest) env = (false, eval e env) :: starEach rest env) (hplain : (backTo pos (starEach rest env)).any (·.1) = false)
    (h : TrL W A env outer (spliced (backTo pos (starEach (e :: rest) env))) loc mem (fun xs l m => Op W A env outer (VR W) (fun vs => call (.ref a) vs) xs l m Q E) E) :
    Op W A env outer (VR W) (fun | [f] => callWith pos f [] (backTo pos (starEach (e :: rest) env)) [] | _ => pure .none) [.glob (.ref a)] loc mem Q E := fun R F s vs S r => by
  cases r.view with
  | cons r1 r2 =>
    cases r2.view; cases r1.view
    refine callWith_K (h₀ := s.heap) S.kin hk (after (RW := VR W) (Q := fun _ _ _ => True) (h R F s S) fun vs s' F1 xs l1 m1 i1 r1 S1 h1 => ⟨S1.kin, ?_⟩) he hplain
    exact wpAny_mono (h1 R F1 s' vs S1 r1) (fun _ _ p => p.weaken i1) fun _ _ e => E.up i1 e
theorem c_top0 {a : Addr} {pos : Pos} {Q : V → Loc → Mem → Prop} (hk : keepIn W.K (.ref a) = true)
    (h : Op W A env outer (VR W) (fun vs => call (.ref a) vs) [] loc mem Q E) :
    Op W A env outer (VR W) (fun | [f] => callWith pos f [] (backTo pos (starEach [] env)) [] | _ => pure .none) [.glob (.ref a)] loc mem Q E := fun R F s vs S r => by
  cases r.view with
  | cons r1 r2 =>
    cases r2.view; cases r1.view
    exact callWith_K0 S.kin hk (h R F s [] S .nil)
theorem c_builtin {id : String} {e : PySem.Expr} {rest : List PySem.Expr} {pos : Pos} {Q : V → Loc → Mem → Prop} (he : starEach (e :: rest) env = (false, eval e env) :: starEach rest env) (hplain : (backTo pos (starEach rest env)).any (·.1) = false)
    (h : TrL W A env outer (spliced (backTo pos (starEach (e :: rest) env))) loc mem (fun xs l m => Op W A env outer (VR W) (fun vs => call (.builtin id) vs) xs l m Q E) E) :
    Op W A env outer (VR W) (fun | [f] => callWith pos f [] (backTo pos (starEach (e :: rest) env)) [] | _ => pure .none) [.glob (.builtin id)] loc mem Q E := fun R F s vs S r => by
  cases r.view with
  | cons r1 r2 =>
    cases r2.view; cases r1.view
    refine PyProof.Rows.callWith_builtin1 (after (RW := VR W) (Q := fun _ _ _ => True) (h R F s S) fun vs s' F1 xs l1 m1 i1 r1 S1 h1 => ?_) he hplain
    exact wpAny_mono (h1 R F1 s' vs S1 r1) (fun _ _ p => p.weaken i1) fun _ _ e => E.up i1 e
theorem c_type {T : String} {e : PySem.Expr} {rest : List PySem.Expr} {pos : Pos} {Q : V → Loc → Mem → Prop} (he : starEach (e :: rest) env = (false, eval e env) :: starEach rest env) (hplain : (backTo pos (starEach rest env)).any (·.1) = false)
    (h : TrL W A env outer (spliced (backTo pos (starEach (e :: rest) env))) loc mem (fun xs l m => Op W A env outer (VR W) (fun vs => call (.type T) vs) xs l m Q E) E) :
    Op W A env outer (VR W) (fun | [f] => callWith pos f [] (backTo pos (starEach (e :: rest) env)) [] | _ => pure .none) [.glob (.type T)] loc mem Q E := fun R F s vs S r => by
  cases r.view with
  | cons r1 r2 =>
    cases r2.view; cases r1.view
    refine PyProof.Rows.callWith_type1 (after (RW := VR W) (Q := fun _ _ _ => True) (h R F s S) fun vs s' F1 xs l1 m1 i1 r1 S1 h1 => ?_) he hplain
    exact wpAny_mono (h1 R F1 s' vs S1 r1) (fun _ _ p => p.weaken i1) fun _ _ e => E.up i1 e
theorem c_type0 {T : String} {pos : Pos} {Q : V → Loc → Mem → Prop}
    (h : Op W A env outer (VR W) (fun vs => call (.type T) vs) [] loc mem Q E) :
    Op W A env outer (VR W) (fun | [f] => callWith pos f [] (backTo pos (starEach [] env)) [] | _ => pure .none) [.glob (.type T)] loc mem Q E := fun R F s vs S r => by
  cases r.view with
  | cons r1 r2 =>
    cases r2.view; cases r1.view
    exact PyProof.Rows.callWith_type0 (h R F s [] S .nil)
noncomputable def Meth (W : Wd) (A : Around) (env : Env) (outer : Outs) (name : Str) (pl : Sem Bool) (pos : Pos) (args : List PySem.Expr) (v : V) (loc : Loc) (mem : Mem) (Q : V → Loc → Mem → Prop) (E : Ex W) : Prop :=
  ∀ R F s v', Sim W env outer loc mem R F s → VR W F v v' → wpAny (model W.prog W.w) A (getMethod v' name pl) (fun fx s₂ => wpAny (model W.prog W.w) A (callWith pos fx.1 fx.2 (backTo pos (starEach args env)) []) (Post W env outer (VR W) R F Q) (E.p R F) s₂) (E.p R F) s
theorem c_meth {o : PySem.Expr} {name : Str} {apos pos : Pos} {args : List PySem.Expr} {pl : Sem Bool} {Q : V → Loc → Mem → Prop}
    (he : eval (.Call (.Attribute o name apos) args [] pos) env = (do
      let ov ← eval o env
      standAt apos.atName
      let (f, first) ← holding [ov] (getMethod ov name pl)
      callWith pos f first (backTo pos (starEach args env)) (backToKw pos (keywordEach [] env))))
    (h : TrV W A env outer (eval o env) loc mem (fun v l m => Meth W A env outer name pl pos args v l m Q E) E) :
    TrV W A env outer (eval (.Call (.Attribute o name apos) args [] pos) env) loc mem Q E := fun R F s S =>
  methodCall_KW (kws := []) (pl := pl) (after (RW := VR W) (Q := fun _ _ _ => True) (h R F s S) fun v' s' F1 v l1 m1 i1 r1 S1 h1 =>
    wpAny_mono (h1 R F1 s' v' S1 r1) (fun fx s2 h2 => wpAny_mono h2 (fun _ _ p => p.weaken i1) fun _ _ e => E.up i1 e) fun _ _ e => E.up i1 e) he
theorem m_own {v : V} {C f : Addr} {es : List (Str × V)} {name : Str} {pl : Sem Bool} {pos : Pos} {e : PySem.Expr} {rest : List PySem.Expr} {Q : V → Loc → Mem → Prop} (I : Inst W mem v C es) (hg : plainGet W.K C name = true)
    (hf : findIn W.K (.ref C) name = some (some (.ref f))) (ht : isFn W.K (.ref f) = true) (hl : getA es name = none) (hk : keepIn W.K (.ref f) = true) (he : starEach (e :: rest) env = (false, eval e env) :: starEach rest env) (hplain : (backTo pos (starEach rest env)).any (·.1) = false)
    (h : TrL W A env outer (spliced (backTo pos (starEach (e :: rest) env))) loc mem (fun xs l m => Op W A env outer (VR W) (fun vs => call (.ref f) vs) (v :: xs) l m Q E) E) :
    Meth W A env outer name pl pos (e :: rest) v loc mem Q E := fun R F s v' S r => by
  obtain ⟨xa, d, od, kvs, rfl, J, hd, rp⟩ := I.at S r
  refine method_fn S.kin J (plainGet_of hg).1 (plainGet_of hg).2 hf (beq_iff_eq.mp ht) (by show (lookIn name od).map _ = _; rw [lookIn_of hd, (rp.get name).2 hl]; rfl) ?_
  refine callWith_K (h₀ := s.heap) S.kin hk (after (RW := VR W) (Q := fun _ _ _ => True) (h R F s S) fun vs s' F1 xs l1 m1 i1 r1 S1 h1 => ⟨S1.kin, ?_⟩) he hplain
  exact wpAny_mono (h1 R F1 s' (.ref xa :: vs) S1 (.cons (r.mono i1) r1)) (fun _ _ p => p.weaken i1) fun _ _ e => E.up i1 e
theorem m_own0 {v : V} {C f : Addr} {es : List (Str × V)} {name : Str} {pl : Sem Bool} {pos : Pos} {Q : V → Loc → Mem → Prop} (I : Inst W mem v C es) (hg : plainGet W.K C name = true)
    (hf : findIn W.K (.ref C) name = some (some (.ref f))) (ht : isFn W.K (.ref f) = true) (hl : getA es name = none) (hk : keepIn W.K (.ref f) = true)
    (h : Op W A env outer (VR W) (fun vs => call (.ref f) vs) [v] loc mem Q E) :
    Meth W A env outer name pl pos [] v loc mem Q E := fun R F s v' S r => by
  obtain ⟨xa, d, od, kvs, rfl, J, hd, rp⟩ := I.at S r
  refine method_fn S.kin J (plainGet_of hg).1 (plainGet_of hg).2 hf (beq_iff_eq.mp ht) (by show (lookIn name od).map _ = _; rw [lookIn_of hd, (rp.get name).2 hl]; rfl) ?_
  exact callWith_K0 S.kin hk (h R F s [.ref xa] S (.cons r .nil))
inductive Ty (mem : Mem) : V → String → Prop
  | str (x : Str) : Ty mem (.str x) "str"
  | lst (xs : List V) : Ty mem (.lst xs) "list"
  | tup (xs : List V) : Ty mem (.tup xs) "tuple"
  | list {a : Addr} {xs : List V} : mem a = some (.list xs) → Ty mem (.ref a) "list"
  | dict {a : Addr} {es : List (Str × V)} {ep : Nat} : mem a = some (.dict es ep) → Ty mem (.ref a) "dict"
theorem Ty.at {v : V} {T : String} {v' : Value} (t : Ty mem v T) (S : Sim W env outer loc mem R F s) (r : VR W F v v') : s.TypeIs v' T ∧ ∀ a, v' = .ref a → ∃ o, s.heap.get? a = some o ∧ o.dict = none := by
  cases t with
  | str x => cases r.view; exact ⟨by exact typeIs_str s _ _, fun a e => by cases e⟩
  | lst xs => cases r.view with | lst f q => exact ⟨⟨_, S.frz _ _ f, rfl⟩, fun a e => by cases e; exact ⟨_, S.frz _ _ f, rfl⟩⟩
  | tup xs => cases r.view with | tup f q => exact ⟨⟨_, S.frz _ _ f, rfl⟩, fun a e => by cases e; exact ⟨_, S.frz _ _ f, rfl⟩⟩
  | list h =>
    cases r.view
    obtain ⟨o, ho, q⟩ := S.memOk _ _ h
    cases q.view
    exact ⟨⟨_, ho, rfl⟩, fun a e => by cases e; exact ⟨_, ho, rfl⟩⟩
  | dict h =>
    cases r.view
    obtain ⟨o, ho, q⟩ := S.memOk _ _ h
    cases q.view
    exact ⟨⟨_, ho, rfl⟩, fun a e => by cases e; exact ⟨_, ho, rfl⟩⟩
theorem m_builtin {v : V} {T : String} {name : Str} {id : String} {pl : Sem Bool} {pos : Pos} {e : PySem.Expr} {rest : List PySem.Expr} {Q : V → Loc → Mem → Prop} (t : Ty mem v T) (pa : PlainAttrs T) (slot : Slot T name id) (hty : typeOf (.builtin id) = pure (.type "method_descriptor"))
    (he : starEach (e :: rest) env = (false, eval e env) :: starEach rest env) (hplain : (backTo pos (starEach rest env)).any (·.1) = false)
    (h : TrL W A env outer (spliced (backTo pos (starEach (e :: rest) env))) loc mem (fun xs l m => Op W A env outer (VR W) (fun vs => call (.builtin id) vs) (v :: xs) l m Q E) E) :
    Meth W A env outer name pl pos (e :: rest) v loc mem Q E := fun R F s v' S r => by
  obtain ⟨hT, hd⟩ := t.at S r
  refine getMethod_builtin hT pa slot hty hd ?_
  rw [he]
  refine Calls.callWith_builtin (by show (false || (backTo pos (starEach rest env)).any (·.1)) = false; rw [hplain]; rfl) (Calls.evalArgs_plain ?_)
  have h' := h R F s S
  rw [he] at h'
  refine after (RW := VR W) (Q := fun _ _ _ => True) h' fun vs s' F1 xs l1 m1 i1 r1 S1 h1 => ?_
  exact wpAny_mono (h1 R F1 s' (v' :: vs) S1 (.cons (r.mono i1) r1)) (fun _ _ p => p.weaken i1) fun _ _ e => E.up i1 e
theorem m_builtin0 {v : V} {T : String} {name : Str} {id : String} {pl : Sem Bool} {pos : Pos} {Q : V → Loc → Mem → Prop} (t : Ty mem v T) (pa : PlainAttrs T) (slot : Slot T name id) (hty : typeOf (.builtin id) = pure (.type "method_descriptor"))
    (h : Op W A env outer (VR W) (fun vs => call (.builtin id) vs) [v] loc mem Q E) :
    Meth W A env outer name pl pos [] v loc mem Q E := fun R F s v' S r => by
  obtain ⟨hT, hd⟩ := t.at S r
  refine getMethod_builtin hT pa slot hty hd ?_
  exact Calls.callWith_builtin rfl (PyProof.Rows.evalArgs_nil3 (h R F s [v'] S (.cons r .nil)))
theorem tc_units (args : Args) : Code.cUnits (.builtin "type.__call__" args) ≤ 8 := by
  show 1 + 3 * (if (Code.builtin "type.__call__" args).isFrame = true then 1 else 0) ≤ 8
  split <;> decide
theorem mset_comm {m : Mem} {a b : Addr} (h : a ≠ b) (x y : AObj) : mset (mset m a x) b y = mset (mset m b y) a x := by
  funext c
  unfold mset
  by_cases h1 : c = b <;> by_cases h2 : c = a <;> simp_all
theorem call_cls {name qual : Str} {params : Arguments} {body : List Stmt} {scope : Scope} {dV kV doc pm cdv ct oc : Value} {an od : Option Addr} {osl : Array (Option Value)} {C f : Addr} {xs : List V} {bs : Addr → List (Str × V)} {Q : V → Loc → Mem → Prop}
    (hm : makesIn W.K C = true) (hi : findIn W.K (.ref C) "__init__" = some (some (.ref f))) (hf : isFn W.K (.ref f) = true)
    (ho : W.K.lookup f = some ⟨oc, od, .func (fnOf name qual params body scope dV kV doc pm an cdv ct), osl⟩) (hcd : codeIn W.K cdv qual = true) (hroom : A.depth + 1 < recursionLimit)
    (hbind : ∀ x : Addr, Binds W (fnOf name qual params body scope dV kV doc pm an cdv ct) [] (.ref x :: xs) (bs x)) (hloc : ∀ x : Addr, ∀ y ∈ bs x, scope.names.lookup y.1 = some .local)
    (hcell : ∀ x ∈ scope.names, x.2 ≠ .cell) (hco : scope.isCoroutine = false) (hgen : scope.isGenerator = false) (hk : scope.kind = .function)
    (h : ∀ (A' : Around) (x d : Addr), A'.depth = A.depth + 1 → A'.handled = A.handled → A'.guards = A.guards → A'.frames = A.frames → A'.units ≤ A.units + 8 → mem x = none → mem d = none → x ≠ d →
      Body W A' env outer qual scope body cdv [] f (bs x).reverse (mset (mset mem d (.dict [] 0)) x (.inst C d)) (fun v m => v = .none ∧ Q (.ref x) loc m) E) :
    Op W A env outer (VR W) (fun vs => call (.ref C) vs) xs loc mem Q E := fun R F s vs S r => by
  have X := S.kin
  obtain ⟨hp, g, d, t, os⟩ := s
  refine wpAny_call (make_core (rest := vs) (kw := []) (init := .ref f) (makes_of X hm) (looks_findIn X hi) (fun self => bind_fn X self (beq_iff_eq.mp hf)) (.inl (by simp)) ?_)
  have hd : hp.get? hp.objs.size = none := get?_size hp
  have e1 : (hp.push emptyDict).get? hp.objs.size = some emptyDict := Heap.get?_push_size _ rfl
  have hsz : (hp.push emptyDict).objs.size = hp.objs.size + 1 := Heap.size_push _ _
  have S1 := S.alloc (t := t) (d := d) (x := .dict [] 0) (a := hp.objs.size) (o' := emptyDict) hd S.size_le (fun b o e => Heap.get?_push_of_some _ e) e1 (by
    have : emptyDict = dictOf [] 0 := rfl
    rw [this]
    exact .dict (kvs := []) ⟨#[], 0, ⟨rfl, rfl, rfl⟩, rfl, fun e he => by simp at he, .nil, by simp⟩ .nil)
  have hx : (hp.push emptyDict).get? (hp.objs.size + 1) = none := get?_ge (by rw [hsz]; exact Nat.le_refl _)
  have S2 := S1.alloc (t := t) (d := d) (x := .inst C hp.objs.size) (a := hp.objs.size + 1) (h' := (hp.push emptyDict).push (instObj C hp.objs.size)) (o' := instObj C hp.objs.size) hx (Nat.le_trans S.size_le (Nat.le_succ _)) (fun b o e => Heap.get?_push_of_some _ e) (by rw [← hsz]; exact Heap.get?_push_size _ rfl) .inst
  obtain ⟨bv, hb, rb⟩ := hbind (hp.objs.size + 1) F _ (.ref (hp.objs.size + 1) :: vs) S.base S2.kin (.cons (.ref _) r)
  have hA : (A.under (.builtin "type.__call__" ⟨.ref C :: vs, []⟩)).depth = A.depth + 1 := rfl
  refine code_fn S2 (S2.kin _ _ ho) rfl (codeRec_of S2.kin hcd) (by rw [hA]; exact hroom) hb rb (hloc _) hcell hco hgen hk E (fun _ _ e => e) (Q := fun v m => v = .none ∧ Q (.ref (hp.objs.size + 1)) loc m) (fun F' v v' m' s' i rr S' q => ?_) ?_
  · obtain ⟨rfl, q⟩ := q
    cases rr.view
    exact ⟨rfl, F', .ref (hp.objs.size + 1), loc, m', i, .ref _, S', q⟩
  · have m1 : mem hp.objs.size = none := (S.free hd).1
    have m2 : mem (hp.objs.size + 1) = none := (S.free (get?_ge (Nat.le_succ _))).1
    exact h _ (hp.objs.size + 1) hp.objs.size hA rfl rfl (by show pushEnvs [] A.frames = A.frames; rfl) (by show A.units + Code.cUnits _ ≤ _; exact Nat.add_le_add_left (tc_units _) _) m2 m1 (Nat.succ_ne_self _)
end
end Mine
end
section
set_option autoImplicit false
namespace Mine
noncomputable def toPy : Nat → V → PyData
  | _, .bool b => .bool b
  | _, .int i => .int i
  | _, .str s => .str s
  | n + 1, .tup xs => .tuple (xs.map (toPy n))
  | n + 1, .lst xs => .list (xs.map (toPy n))
  | _, _ => .none
noncomputable def isD : Nat → V → Bool
  | _, .none => true
  | _, .int _ => true
  | _, .str s => PyData.strOk s
  | n + 1, .tup xs => xs.all (isD n)
  | n + 1, .lst xs => xs.all (isD n)
  | _, _ => false
section
variable {W : Wd} {F : Frz}
theorem reads_all {n : Nat} {h : Heap} (ih : ∀ x v, isD n x = true → VR W F x v → ∃ as, Reads h v (toPy n x) as) :
    ∀ {xs : List V} {vs : List Value}, xs.all (isD n) = true → VRs W F xs vs → ∃ as, ReadsAll h vs (xs.map (toPy n)) as
  | [], _, _, .nil => ⟨[], .nil⟩
  | x :: xs, _, hd, .cons r1 r2 => by
    rw [List.all_cons, Bool.and_eq_true] at hd
    obtain ⟨as, ra⟩ := ih x _ hd.1 r1
    obtain ⟨bs, rb⟩ := reads_all ih hd.2 r2
    exact ⟨as ++ bs, .cons ra rb⟩
theorem VR.reads {h : Heap} (hF : ∀ a o, F a o → h.get? a = some o) : ∀ {n : Nat} {x : V} {v : Value}, isD n x = true → VR W F x v → ∃ as, Reads h v (toPy n x) as := by
  intro n
  induction n with
  | zero =>
    intro x v hd r
    cases r <;> first | exact ⟨_, .none⟩ | exact ⟨_, .int _ _⟩ | exact ⟨_, .str _ _⟩ | (simp [isD] at hd)
  | succ n ih =>
    intro x v hd r
    cases r with
    | none => exact ⟨_, .none⟩
    | int => exact ⟨_, .int _ _⟩
    | str => exact ⟨_, .str _ _⟩
    | bool => simp [isD] at hd
    | ref => simp [isD] at hd
    | glob => cases hd
    | ins => simp [isD] at hd
    | tup f q =>
      obtain ⟨as, ra⟩ := reads_all (fun x v a b => ih a b) hd q
      exact ⟨_, .tuple (hF _ _ f) rfl rfl ra⟩
    | lst f q =>
      obtain ⟨as, ra⟩ := reads_all (fun x v a b => ih a b) hd q
      exact ⟨_, .list (hF _ _ f) rfl rfl ra⟩
end
theorem canLayAll0_iff (ds : List PyData) : PyData.canLayAll0 ds = ds.all PyData.canLay0 := by
  induction ds with
  | nil => rfl
  | cons d ds ih => rw [PyData.canLayAll0, List.all_cons, ih]
theorem isD_can : ∀ {n : Nat} {x : V}, isD n x = true → (toPy n x).canLay0 = true ∧ (toPy n x).depth ≤ n := by
  intro n
  have da : ∀ {m : Nat} {ds : List PyData}, (∀ d ∈ ds, d.depth ≤ m) → PyData.depthAll ds ≤ m := by
    intro m ds
    induction ds with
    | nil => intro _; exact Nat.zero_le _
    | cons d ds ih => intro h; rw [PyData.depthAll]; exact Nat.max_le.mpr ⟨h d (.head _), ih fun e he => h e (.tail _ he)⟩
  induction n with
  | zero =>
    intro x hd
    cases x <;> simp_all [isD, toPy, PyData.canLay0, PyData.depth]
  | succ n ih =>
    intro x hd
    cases x with
    | none => simp [toPy, PyData.canLay0, PyData.depth]
    | int => simp [toPy, PyData.canLay0, PyData.depth]
    | str s => exact ⟨by simpa [toPy, PyData.canLay0, isD] using hd, by simp [toPy, PyData.depth]⟩
    | bool => simp [isD] at hd
    | ref => simp [isD] at hd
    | glob => simp [isD] at hd
    | ins => simp [isD] at hd
    | tup xs =>
      have hd' : xs.all (isD n) = true := hd
      show (PyData.tuple (xs.map (toPy n))).canLay0 = true ∧ (PyData.tuple (xs.map (toPy n))).depth ≤ n + 1
      rw [PyData.canLay0, PyData.depth, canLayAll0_iff]
      refine ⟨?_, Nat.succ_le_succ (da ?_)⟩
      · rw [List.all_map, List.all_eq_true]; exact fun x hx => (ih (List.all_eq_true.mp hd' x hx)).1
      · intro d hd; obtain ⟨x, hx, rfl⟩ := List.mem_map.mp hd; exact (ih (List.all_eq_true.mp hd' x hx)).2
    | lst xs =>
      have hd' : xs.all (isD n) = true := hd
      show (PyData.list (xs.map (toPy n))).canLay0 = true ∧ (PyData.list (xs.map (toPy n))).depth ≤ n + 1
      rw [PyData.canLay0, PyData.depth, canLayAll0_iff]
      refine ⟨?_, Nat.succ_le_succ (da ?_)⟩
      · rw [List.all_map, List.all_eq_true]; exact fun x hx => (ih (List.all_eq_true.mp hd' x hx)).1
      · intro d hd; obtain ⟨x, hx, rfl⟩ := List.mem_map.mp hd; exact (ih (List.all_eq_true.mp hd' x hx)).2
theorem isD_shaped {n : Nat} {x : V} (h : isD n x = true) (hn : n ≤ 64) : SeqAt.shaped (toPy n x) = true := by
  obtain ⟨a, b⟩ := isD_can h
  unfold SeqAt.shaped
  rw [a, Bool.true_and]
  exact decide_eq_true (Nat.le_trans b hn)
theorem all_shaped {n : Nat} {xs : List V} (h : xs.all (isD n) = true) (hn : n < 64) : SeqAt.shaped (.list (xs.map (toPy n))) = true ∧ SeqAt.shaped (.tuple (xs.map (toPy n))) = true :=
  ⟨isD_shaped (x := .lst xs) (n := n + 1) h hn, isD_shaped (x := .tup xs) (n := n + 1) h hn⟩
mutual
noncomputable def noB : PyData → Bool
  | .list xs => noBs xs
  | .tuple xs => noBs xs
  | .none | .int _ | .str _ => true
  | _ => false
noncomputable def noBs : List PyData → Bool
  | [] => true
  | x :: xs => noB x && noBs xs
end
mutual
theorem noMix_of : ∀ d e : PyData, noB d = true → noB e = true → SeqAt.noMix d e = true
  | .list xs, .list ys, h, g => noMixs_of xs ys h g
  | .tuple xs, .tuple ys, h, g => noMixs_of xs ys h g
  | .none, e, _, _ => by cases e <;> rfl
  | .str _, e, _, _ => by cases e <;> rfl
  | .int _, e, _, g => by cases e <;> first | rfl | cases g
  | .list _, .none, _, _ => rfl
  | .list _, .int _, _, _ => rfl
  | .list _, .str _, _, _ => rfl
  | .list _, .tuple _, _, _ => rfl
  | .tuple _, .none, _, _ => rfl
  | .tuple _, .int _, _, _ => rfl
  | .tuple _, .str _, _, _ => rfl
  | .tuple _, .list _, _, _ => rfl
theorem noMixs_of : ∀ xs ys : List PyData, noBs xs = true → noBs ys = true → SeqAt.noMixAll xs ys = true
  | [], [], _, _ => rfl
  | [], _ :: _, _, _ => rfl
  | _ :: _, [], _, _ => rfl
  | x :: xs, y :: ys, h, g => by
    rw [noBs, Bool.and_eq_true] at h g
    rw [SeqAt.noMixAll, noMix_of x y h.1 g.1, noMixs_of xs ys h.2 g.2]; rfl
end
theorem noBs_of {ds : List PyData} (h : ∀ d ∈ ds, noB d = true) : noBs ds = true := by
  induction ds with
  | nil => rfl
  | cons d ds ih => rw [noBs, h d (.head _), ih fun e he => h e (.tail _ he)]; rfl
theorem isD_noB : ∀ {n : Nat} {x : V}, isD n x = true → noB (toPy n x) = true := by
  intro n
  induction n with
  | zero => intro x h; cases x <;> first | rfl | cases h
  | succ n ih =>
    intro x h
    have all : ∀ {xs : List V}, xs.all (isD n) = true → noBs (xs.map (toPy n)) = true := fun h => noBs_of fun d hd => by
      obtain ⟨a, ha, rfl⟩ := List.mem_map.mp hd
      exact ih (List.all_eq_true.mp h a ha)
    cases x with
    | tup xs => exact all h
    | lst xs => exact all h
    | none => rfl
    | int => rfl
    | str => rfl
    | bool => cases h
    | ins => cases h
    | ref => cases h
    | glob => cases h
theorem isD_noMix {n m : Nat} {x y : V} (hx : isD n x = true) (hy : isD m y = true) : SeqAt.noMix (toPy n x) (toPy m y) = true := noMix_of _ _ (isD_noB hx) (isD_noB hy)
noncomputable def ofD : Nat → PyData → V
  | _, .int i => .int i
  | _, .str s => .str s
  | n + 1, .tuple xs => .tup (xs.map (ofD n))
  | n + 1, .list xs => .lst (xs.map (ofD n))
  | _, _ => .none
theorem ofD_toPy : ∀ {n k : Nat} {x : V}, isD n x = true → n ≤ k → ofD k (toPy n x) = x := by
  intro n
  induction n with
  | zero => intro k x h _; cases x <;> first | (cases k <;> rfl) | cases h
  | succ n ih =>
    intro k x h hk
    cases k with
    | zero => exact absurd hk (Nat.not_succ_le_zero _)
    | succ k =>
      have all : ∀ {xs : List V}, xs.all (isD n) = true → (xs.map (toPy n)).map (ofD k) = xs := fun {xs} h => by
        rw [List.map_map]
        exact (List.map_congr_left fun a ha => ih (List.all_eq_true.mp h a ha) (Nat.le_of_succ_le_succ hk)).trans (List.map_id xs)
      cases x with
      | tup xs => exact congrArg V.tup (all h)
      | lst xs => exact congrArg V.lst (all h)
      | none => rfl
      | int => rfl
      | str => rfl
      | bool => cases h
      | ins => cases h
      | ref => cases h
      | glob => cases h
theorem same_iff {n m : Nat} {x y : V} (hx : isD n x = true) (hy : isD m y = true) : Spec.same (toPy n x) (toPy m y) = true ↔ x = y := by
  rw [PyProof.Rows.same_iff]
  refine ⟨fun e => ?_, fun e => ?_⟩
  · rw [← ofD_toPy hx (Nat.le_max_left n m), e, ofD_toPy hy (Nat.le_max_right n m)]
  · have : ∀ {n m : Nat} {x : V}, isD n x = true → isD m x = true → toPy n x = toPy m x := by
      intro n
      induction n with
      | zero => intro m x h g; cases x <;> first | (cases m <;> rfl) | cases h
      | succ n ih =>
        intro m x h g
        cases m with
        | zero => cases x <;> first | rfl | cases g
        | succ m =>
          have all : ∀ {xs : List V}, xs.all (isD n) = true → xs.all (isD m) = true → xs.map (toPy n) = xs.map (toPy m) := fun {xs} h g => List.map_congr_left fun a ha => ih (List.all_eq_true.mp h a ha) (List.all_eq_true.mp g a ha)
          cases x with
          | tup xs => exact congrArg PyData.tuple (all h g)
          | lst xs => exact congrArg PyData.list (all h g)
          | none => rfl
          | int => rfl
          | str => rfl
          | bool => rfl
          | ins => rfl
          | ref => rfl
          | glob => rfl
    subst e
    exact this hx hy
section
variable {W : Wd} {A : Around} {env : Env} {outer : Outs} {loc : Loc} {mem R : Mem} {E : Ex W} {F : Frz} {s : Shared}
noncomputable abbrev OpV (W : Wd) (A : Around) (env : Env) (outer : Outs) (f : List Value → Sem Value) (xs : List V) (loc : Loc) (mem : Mem) (Q : V → Loc → Mem → Prop) (E : Ex W) : Prop := Op W A env outer (VR W) f xs loc mem Q E
noncomputable abbrev OpB (W : Wd) (A : Around) (env : Env) (outer : Outs) (f : List Value → Sem Bool) (xs : List V) (loc : Loc) (mem : Mem) (Q : Bool → Loc → Mem → Prop) (E : Ex W) : Prop := Op W A env outer (fun _ (b c : Bool) => c = b) f xs loc mem Q E
noncomputable abbrev OpU (W : Wd) (A : Around) (env : Env) (outer : Outs) (f : List Value → Sem Unit) (xs : List V) (loc : Loc) (mem : Mem) (Q : Loc → Mem → Prop) (E : Ex W) : Prop := Op W A env outer (fun _ (_ _ : Unit) => True) f xs loc mem (fun _ => Q) E
theorem op1 {α β : Type} {RV : Frz → β → α → Prop} {f : List Value → Sem α} {x : V} {Q : β → Loc → Mem → Prop}
    (h : ∀ R F s v, Sim W env outer loc mem R F s → VR W F x v → wpAny (model W.prog W.w) A (f [v]) (Post W env outer RV R F Q) (E.p R F) s) : Op W A env outer RV f [x] loc mem Q E := fun R F s vs S r => by
  cases r.view with | cons r1 r2 => cases r2.view; exact h R F s _ S r1
theorem op2 {α β : Type} {RV : Frz → β → α → Prop} {f : List Value → Sem α} {x y : V} {Q : β → Loc → Mem → Prop}
    (h : ∀ R F s v u, Sim W env outer loc mem R F s → VR W F x v → VR W F y u → wpAny (model W.prog W.w) A (f [v, u]) (Post W env outer RV R F Q) (E.p R F) s) : Op W A env outer RV f [x, y] loc mem Q E := fun R F s vs S r => by
  cases r with | cons r1 r2 => cases r2 with | cons r2 r3 => cases r3; exact h R F s _ _ S r1 r2
theorem op3 {α β : Type} {RV : Frz → β → α → Prop} {f : List Value → Sem α} {x y z : V} {Q : β → Loc → Mem → Prop}
    (h : ∀ R F s v u t, Sim W env outer loc mem R F s → VR W F x v → VR W F y u → VR W F z t → wpAny (model W.prog W.w) A (f [v, u, t]) (Post W env outer RV R F Q) (E.p R F) s) : Op W A env outer RV f [x, y, z] loc mem Q E := fun R F s vs S r => by
  cases r with | cons r1 r2 => cases r2 with | cons r2 r3 => cases r3 with | cons r3 r4 => cases r4; exact h R F s _ _ _ S r1 r2 r3
theorem add_ii {a b : Int} {Q : V → Loc → Mem → Prop} (h : Q (.int (a + b)) loc mem) : OpV W A env outer (fun | [x, y] => binaryOp .Add x y | _ => pure .none) [.int a, .int b] loc mem Q E := op2 fun R F s v u S r1 r2 => by
  cases r1.view; cases r2.view; exact PyProof.Rows.add_int (Post.mk (.int _ _) S.tick h)
theorem sub_ii {a b : Int} {Q : V → Loc → Mem → Prop} (h : Q (.int (a - b)) loc mem) : OpV W A env outer (fun | [x, y] => binaryOp .Sub x y | _ => pure .none) [.int a, .int b] loc mem Q E := op2 fun R F s v u S r1 r2 => by
  cases r1.view; cases r2.view; exact PyProof.Rows.sub_int (Post.mk (.int _ _) S.tick h)
theorem isub_ii {a b : Int} {Q : V → Loc → Mem → Prop} (h : Q (.int (a - b)) loc mem) : OpV W A env outer (fun | [x, y] => inplaceOp .Sub x y | _ => pure .none) [.int a, .int b] loc mem Q E := op2 fun R F s v u S r1 r2 => by
  cases r1.view; cases r2.view; exact PyProof.Rows.isub_int (Post.mk (.int _ _) S.tick h)
theorem mod_ii {a b : Int} {Q : V → Loc → Mem → Prop} (hb : b ≠ 0) (h : Q (.int (a.fmod b)) loc mem) : OpV W A env outer (fun | [x, y] => binaryOp .Mod x y | _ => pure .none) [.int a, .int b] loc mem Q E := op2 fun R F s v u S r1 r2 => by
  cases r1.view; cases r2.view; exact PyProof.Rows.mod_int hb (Post.mk (.int _ _) S.tick h)
theorem lt_ii {a b : Int} {Q : V → Loc → Mem → Prop} (h : Q (.bool (decide (a < b))) loc mem) : OpV W A env outer (fun | [x, y] => compareOp .Lt x y | _ => pure .none) [.int a, .int b] loc mem Q E := op2 fun R F s v u S r1 r2 => by
  cases r1.view; cases r2.view; exact PyProof.Rows.lt_int (Post.mk (.bool _) S h)
theorem gt_ii {a b : Int} {Q : V → Loc → Mem → Prop} (h : Q (.bool (decide (b < a))) loc mem) : OpV W A env outer (fun | [x, y] => compareOp .Gt x y | _ => pure .none) [.int a, .int b] loc mem Q E := op2 fun R F s v u S r1 r2 => by
  cases r1.view; cases r2.view; exact PyProof.Rows.gt_int (Post.mk (.bool _) S h)
theorem eq_ss {a b : Str} {Q : V → Loc → Mem → Prop} (h : Q (.bool (decide (a = b))) loc mem) : OpV W A env outer (fun | [x, y] => compareOp .Eq x y | _ => pure .none) [.str a, .str b] loc mem Q E := op2 fun R F s v u S r1 r2 => by
  cases r1.view; cases r2.view; exact PyProof.Rows.eq_str (Post.mk (.bool _) S (by have : (a == b) = decide (a = b) := rfl; rw [this]; exact h))
theorem ne_ss {a b : Str} {Q : V → Loc → Mem → Prop} (h : Q (.bool (!decide (a = b))) loc mem) : OpV W A env outer (fun | [x, y] => compareOp .NotEq x y | _ => pure .none) [.str a, .str b] loc mem Q E := op2 fun R F s v u S r1 r2 => by
  cases r1.view; cases r2.view; exact PyProof.Rows.ne_str (Post.mk (.bool _) S (by have : (a != b) = !decide (a = b) := rfl; rw [this]; exact h))
theorem eq_dd {n m : Nat} {x y : V} {Q : V → Loc → Mem → Prop} (hx : isD n x = true) (hy : isD m y = true) (hn : n ≤ 64) (hm : m ≤ 64) (hu : A.units + 64 < cLine) (h : ∀ b : Bool, (b = true ↔ x = y) → Q (.bool b) loc mem) :
    OpV W A env outer (fun | [x, y] => compareOp .Eq x y | _ => pure .none) [x, y] loc mem Q E := op2 fun R F s v u S r1 r2 => by
  obtain ⟨as, ra⟩ := r1.reads S.frz hx
  obtain ⟨bs, rb⟩ := r2.reads S.frz hy
  exact eq_dataH_same ra rb (isD_shaped hx hn) (isD_shaped hy hm) hu (isD_noMix hx hy) (Post.mk (.bool _) S (h _ (same_iff hx hy)))
theorem ne_dd {n m : Nat} {x y : V} {Q : V → Loc → Mem → Prop} (hx : isD n x = true) (hy : isD m y = true) (hn : n ≤ 64) (hm : m ≤ 64) (hu : A.units + 64 < cLine) (h : ∀ b : Bool, (b = true ↔ x = y) → Q (.bool (!b)) loc mem) :
    OpV W A env outer (fun | [x, y] => compareOp .NotEq x y | _ => pure .none) [x, y] loc mem Q E := op2 fun R F s v u S r1 r2 => by
  obtain ⟨as, ra⟩ := r1.reads S.frz hx
  obtain ⟨bs, rb⟩ := r2.reads S.frz hy
  exact ne_dataH_same ra rb (isD_shaped hx hn) (isD_shaped hy hm) hu (isD_noMix hx hy) (Post.mk (.bool _) S (h _ (same_iff hx hy)))
end
end Mine
end
section
set_option autoImplicit false
namespace Mine
section
variable {W : Wd} {A : Around} {env : Env} {outer : Outs} {loc : Loc} {mem R : Mem} {E : Ex W} {F : Frz} {s : Shared}
theorem Sim.newsL (S : Sim W env outer loc mem R F s) : News W.hb env.locals s.heap (ledger W.hb s.heap env.locals env.locals) := fun p hp => by
  have := mem_ledger.mp hp; exact ⟨this.1, this.2.1, this.2.2.2⟩
theorem Sim.keepN {m : Str → Option Value} {h' : Heap} {t : Nat} {d : Drawn} (S : Sim W env outer loc mem R F s) (l : LocRel W F loc m) (Fr' : Fr W.hb env.locals h' m) (hN : ∀ p ∈ ledger W.hb s.heap env.locals env.locals, h'.get? p.1 = some p.2) :
    Sim W env outer loc mem R F { s with heap := h', toks := t, drawn := d } := by
  have hs : ∀ b o, b ≠ env.locals → s.heap.get? b = some o → h'.get? b = some o := fun b o h2 e => by
    cases q : W.hb.get? b with
    | some o' =>
      have := S.frz _ _ (S.base _ _ q)
      rw [e] at this; cases this
      exact Fr'.keep b o q
    | none => exact hN (b, o) (mem_ledger.mpr ⟨e, h2, h2, q⟩)
  refine ⟨S.dis, ?_⟩
  have Z := S.z
  exact {
    frz := fun b o h => hs b o (fun e => Z.nsF.1 o (e ▸ h)) (Z.frz b o h)
    base := Z.base
    memF := Z.memF
    memOk := fun b y h => let ⟨o, e', q⟩ := Z.memOk b y h; ⟨o, hs b o (Z.ne_locals h) e', q⟩
    ns := ⟨m, Fr'.ns, l⟩
    nsF := Z.nsF
    outs := fun q hq => by
      obtain ⟨⟨o, es, ep, e', r'⟩, b, c, e⟩ := Z.outs q hq
      exact ⟨⟨o, es, ep, hs _ _ e e', r'⟩, b, c, e⟩
    low := Z.low
    memLow := Z.memLow
    gens := Z.gens
    os := Z.os }
inductive Sq (mem : Mem) : V → String → List V → Prop
  | lst (xs : List V) : Sq mem (.lst xs) "list" xs
  | tup (xs : List V) : Sq mem (.tup xs) "tuple" xs
  | own {a : Addr} {xs : List V} : mem a = some (.list xs) → Sq mem (.ref a) "list" xs
theorem Sq.at {v : V} {T : String} {xs : List V} {v' : Value} (q : Sq mem v T xs) (S : Sim W env outer loc mem R F s) (r : VR W F v v') :
    ∃ a vs n, v' = .ref a ∧ s.heap.get? a = some { cls := .type T, data := .seq vs n } ∧ VRs W F xs vs.toList := by
  cases q with
  | lst xs => cases r.view with | lst f q => exact ⟨_, _, _, rfl, S.frz _ _ f, q⟩
  | tup xs => cases r.view with | tup f q => exact ⟨_, _, _, rfl, S.frz _ _ f, q⟩
  | own h =>
    cases r.view
    obtain ⟨o, ho, q⟩ := S.memOk _ _ h
    cases q with
    | list q => exact ⟨_, _, _, rfl, ho, q⟩
theorem Sq.kind {v : V} {T : String} {xs : List V} (q : Sq mem v T xs) : T = "list" ∨ T = "tuple" := by cases q <;> simp
theorem VRs.size {xs : List V} {vs : Array Value} (r : VRs W F xs vs.toList) : vs.size = xs.length := by rw [← r.length, Array.length_toList]
theorem VRs.get {xs : List V} {vs : List Value} (r : VRs W F xs vs) : ∀ {i : Nat} {x : V}, xs[i]? = some x → ∃ v, vs[i]? = some v ∧ VR W F x v := by
  induction xs generalizing vs with
  | nil => intro i x h; cases h
  | cons y ys ih =>
    cases r.view with
    | cons r1 r2 =>
      intro i x h
      cases i with
      | zero => cases h; exact ⟨_, rfl, r1⟩
      | succ i => exact ih r2 h
theorem VRs.getA {xs : List V} {vs : Array Value} (r : VRs W F xs vs.toList) {i : Nat} {x : V} (h : xs[i]? = some x) : ∃ v, vs[i]? = some v ∧ VR W F x v := by
  obtain ⟨v, a, b⟩ := r.get h; exact ⟨v, by rw [← a, Array.getElem?_toList], b⟩
theorem VRs.app {xs ys : List V} {vs ws : List Value} (r : VRs W F xs vs) (q : VRs W F ys ws) : VRs W F (xs ++ ys) (vs ++ ws) := by
  induction xs generalizing vs with
  | nil => cases r.view; exact q
  | cons x xs ih => cases r.view with | cons r1 r2 => exact .cons r1 (ih r2)
theorem VRs.take {xs : List V} {vs : List Value} (r : VRs W F xs vs) (k : Nat) : VRs W F (xs.take k) (vs.take k) := by
  induction k generalizing xs vs with
  | zero => exact .nil
  | succ k ih => cases r with | nil => exact .nil | cons r1 r2 => exact .cons r1 (ih r2)
theorem len_sq {v : V} {T : String} {xs : List V} {Q : V → Loc → Mem → Prop} (q : Sq mem v T xs) (hz : (xs.length : Int) < 2 ^ 63) (h : Q (.int xs.length) loc mem) : OpV W A env outer (fun vs => call (.builtin "len") vs) [v] loc mem Q E := op1 fun R F s v' S r => by
  obtain ⟨a, vs, n, rfl, ho, rs⟩ := q.at S r
  have hs := rs.size
  rcases q.kind with rfl | rfl
  · exact call_len_list (items := vs) ⟨_, ho, rfl, n, rfl⟩ (by rw [hs]; exact hz) (Post.mk (.int _ _) S.tick (by rw [hs]; exact h))
  · exact len_tuple (items := vs) ⟨_, ho, rfl, n, rfl⟩ (by rw [hs]; exact hz) (Post.mk (.int _ _) S.tick (by rw [hs]; exact h))
theorem tr_list {v : V} {xs : List V} {Q : Bool → Loc → Mem → Prop} (q : Sq mem v "list" xs) (hz : (xs.length : Int) < 2 ^ 63) (h : Q (!xs.isEmpty) loc mem) : OpB W A env outer (fun | [x] => truthy x | _ => pure false) [v] loc mem Q E := op1 fun R F s v' S r => by
  obtain ⟨a, vs, n, rfl, ho, rs⟩ := q.at S r
  have hs := rs.size
  have he : vs.isEmpty = xs.isEmpty := by
    rw [Array.isEmpty, hs]; cases xs <;> simp
  exact wpAny_truthy_list (items := vs) ⟨_, ho, rfl, n, rfl⟩ (by rw [hs]; exact hz) (Post.mk (by rw [he]) S.tick h)
theorem e_sub {value slice : PySem.Expr} {pos : Pos} {Q : V → Loc → Mem → Prop} (hs : ∀ o i, subscripted slice false o i = operate [o, i] (getItem o i))
    (h : TrV W A env outer (eval value env) loc mem (fun o l m => TrV W A env outer (eval slice env) l m (fun i l m => ∃ T id, Ty m o T ∧ typeLookup (.type T) "__getitem__" = pure (some (.builtin id)) ∧
      OpV W A env outer (fun | [x, y] => getItem x y | _ => pure .none) [o, i] l m Q E) E) E) : TrV W A env outer (eval (.Subscript value slice pos) env) loc mem Q E := fun R F s S =>
  Subscript_ (after (RW := VR W) (Q := fun _ _ _ => True) (h R F s S) fun v' s' F1 f l1 m1 i1 r1 S1 h1 =>
    after (RW := VR W) (Q := fun _ _ _ => True) (h1 R F1 s' S1) fun u' s2 F2 g l2 m2 i2 r2 S2 h2 => by
      obtain ⟨T, id, ty, hl, op⟩ := h2
      have r1' := r1.mono i2
      exact PyProof.Rows.tail_any (ty.at S2 r1').1 hl (wpAny_mono (op R F2 s2 [v', u'] S2 (.cons r1' (.cons r2 .nil))) (fun _ _ p => p.weaken (i1.trans i2)) fun _ _ e => E.up (i1.trans i2) e) (hs _ _))
theorem Sq.ty {v : V} {T : String} {xs : List V} (q : Sq mem v T xs) : Ty mem v T := by
  cases q with
  | lst xs => exact .lst xs
  | tup xs => exact .tup xs
  | own h => exact .list h
theorem seqIndex?_nonneg {k : Int} {n : Nat} (h0 : 0 ≤ k) (hn : k.toNat < n) : seqIndex? k n = some k.toNat := by
  unfold seqIndex?
  have h1 : ¬ k < 0 := by omega
  simp only [h1, if_false]
  have h2 : 0 ≤ k ∧ k < (n : Int) := ⟨h0, by omega⟩
  simp [h2]
  try omega
theorem getItem_sq {v : V} {T : String} {xs : List V} {k : Int} {x : V} {Q : V → Loc → Mem → Prop} (q : Sq mem v T xs) (h0 : 0 ≤ k) (hk : k < 2 ^ 63) (hx : xs[k.toNat]? = some x) (h : Q x loc mem) :
    OpV W A env outer (fun | [x, y] => getItem x y | _ => pure .none) [v, .int k] loc mem Q E := op2 fun R F s v' i' S r ri => by
  obtain ⟨a, vs, n, rfl, ho, rs⟩ := q.at S r
  cases ri
  obtain ⟨u, hu, ru⟩ := rs.getA hx
  rcases q.kind with rfl | rfl
  · exact wpAny_getItem_list (items := vs) ⟨_, ho, rfl, n, rfl⟩ h0 hk hu (Post.mk ru S h)
  · have hlt : k.toNat < vs.size := by
      rw [Array.getElem?_eq_some_iff] at hu
      exact hu.1
    exact getItem_tuple (items := vs) ⟨_, ho, rfl, n, rfl⟩ (by omega) hk (seqIndex?_nonneg h0 hlt) hu (Post.mk ru S h)
theorem new_tup {xs : List V} {Q : V → Loc → Mem → Prop} (hz : xs.length ≤ sizeLine) (h : Q (.tup xs) loc mem) : OpV W A env outer newTuple xs loc mem Q E := fun R F s vs S r => by
  refine wpAny_newTuple ?_ (by rw [r.length]; exact hz)
  have S' := S.freeze (t := s.toks) (d := s.drawn) (o' := { cls := .type "tuple", data := .seq vs.toArray }) (get?_size s.heap) (fun b o e => Heap.get?_push_of_some _ e) (Heap.get?_push_size _ rfl)
  exact ⟨_, .tup xs, loc, mem, Incl.fadd _ _ _, .tup (.inr ⟨rfl, rfl⟩) (by simpa using r.mono (Incl.fadd _ _ _)), S', h⟩
theorem new_lst {xs : List V} {Q : V → Loc → Mem → Prop} (hz : xs.length ≤ sizeLine) (h : Q (.lst xs) loc mem) : OpV W A env outer newList xs loc mem Q E := fun R F s vs S r => by
  refine wpAny_newList ?_ (by rw [r.length]; exact hz)
  have S' := S.freeze (t := s.toks) (d := s.drawn) (o' := { cls := .type "list", data := .seq vs.toArray }) (get?_size s.heap) (fun b o e => Heap.get?_push_of_some _ e) (Heap.get?_push_size _ rfl)
  exact ⟨_, .lst xs, loc, mem, Incl.fadd _ _ _, .lst (.inr ⟨rfl, rfl⟩) (by simpa using r.mono (Incl.fadd _ _ _)), S', h⟩
theorem new_own {xs : List V} {Q : V → Loc → Mem → Prop} (hz : xs.length ≤ sizeLine) (h : ∀ a, mem a = none → Q (.ref a) loc (mset mem a (.list xs))) : OpV W A env outer newList xs loc mem Q E := fun R F s vs S r => by
  refine wpAny_newList ?_ (by rw [r.length]; exact hz)
  have S' := S.alloc (t := s.toks) (d := s.drawn) (x := .list xs) (o' := { cls := .type "list", data := .seq vs.toArray }) (get?_size s.heap) S.size_le (fun b o e => Heap.get?_push_of_some _ e) (Heap.get?_push_size _ rfl) (.list (by simpa using r))
  exact Post.mk (.ref _) S' (h _ (S.free (get?_size s.heap)).1)
theorem e_tuple {elts : List PySem.Expr} {k : Nat} {pos : Pos} {Q : V → Loc → Mem → Prop} (h : TrL W A env outer (spliced (backTo pos (starEach elts env))) loc mem (fun xs l m => OpV W A env outer newTuple xs l m Q E) E) :
    TrV W A env outer (eval (.Tuple elts k pos) env) loc mem Q E := fun R F s S =>
  PyProof.Rows.Tuple_ (after (RW := VR W) (Q := fun _ _ _ => True) (h R F s S) fun vs s' F1 xs l1 m1 i1 r1 S1 h1 => wpAny_mono (h1 R F1 s' vs S1 r1) (fun _ _ p => p.weaken i1) fun _ _ e => E.up i1 e)
theorem e_list {elts : List PySem.Expr} {pos : Pos} {Q : V → Loc → Mem → Prop} (h : TrL W A env outer (spliced (backTo pos (starEach elts env))) loc mem (fun xs l m => OpV W A env outer newList xs l m Q E) E) :
    TrV W A env outer (eval (.List elts pos) env) loc mem Q E := fun R F s S =>
  PyProof.Rows.List_ (after (RW := VR W) (Q := fun _ _ _ => True) (h R F s S) fun vs s' F1 xs l1 m1 i1 r1 S1 h1 => wpAny_mono (h1 R F1 s' vs S1 r1) (fun _ _ p => p.weaken i1) fun _ _ e => E.up i1 e)
theorem append_own {a : Addr} {xs : List V} {x : V} {Q : V → Loc → Mem → Prop} (h1 : mem a = some (.list xs)) (hz : xs.length ≤ sizeLine) (h : Q .none loc (mset mem a (.list (xs ++ [x])))) :
    OpV W A env outer (fun vs => call (.builtin "list.append") vs) [.ref a, x] loc mem Q E := op2 fun R F s v' i' S r ri => by
  cases r.view
  obtain ⟨o, ho, q⟩ := S.memOk _ _ h1
  cases q with
  | @list _ vs n q =>
    refine append_at ho (fun h' hs ho' => ?_) (by rw [q.size]; exact hz)
    exact Post.mk .none (S.upd (t := s.toks) (d := s.drawn) h1 (fun b ob hb e => (hs.2 b hb).trans e) ho' (.list (by simpa using q.app (.cons ri .nil)))) h
theorem pop0_own {a : Addr} {xs : List V} {x : V} {Q : V → Loc → Mem → Prop} (h1 : mem a = some (.list (x :: xs))) (hz : xs.length + 1 ≤ sizeLine) (h : Q x loc (mset mem a (.list xs))) :
    OpV W A env outer (fun vs => call (.builtin "list.pop") vs) [.ref a, .int 0] loc mem Q E := op2 fun R F s v' i' S r ri => by
  cases r.view
  cases ri
  obtain ⟨o, ho, q⟩ := S.memOk _ _ h1
  cases q with
  | @list _ vs n q =>
    obtain ⟨m, hn, l⟩ := S.ns
    obtain ⟨us, hus⟩ : ∃ us, vs = List.toArray us := ⟨vs.toList, by simp⟩
    subst hus
    have q' : VRs W F (x :: xs) us := by simpa using q
    cases q' with
    | @cons _ u _ us r1 r2 =>
      refine kl_popAt (k := 0) (p := []) (y := u) (q := us) (S.fr hn) (S.newsAll h1 ho) (by decide) (by
        rw [seqIndex?_nonneg (Int.le_refl 0) (by simp)]; rfl) (by simp [kl_cut]) (.head fun p hp => ledger_ne hp) (by simp [r2.length]; omega) fun h' F' N' => ?_
      exact Post.mk r1 (S.updN (t := s.toks) (d := s.drawn) h1 l F' N' (.list (by simpa using r2))) h
theorem list_sq {v : V} {T : String} {xs : List V} {Q : V → Loc → Mem → Prop} (q : Sq mem v T xs) (hz : xs.length ≤ sizeLine) (h : ∀ a, mem a = none → Q (.ref a) loc (mset mem a (.list xs))) :
    OpV W A env outer (fun vs => call (.type "list") vs) [v] loc mem Q E := op1 fun R F s v' S r => by
  obtain ⟨a, vs, n, rfl, ho, rs⟩ := q.at S r
  refine call_list_seq (items := vs) (hsz := by rw [rs.size]; exact hz) a q.kind ho rfl rfl fun h' c' hk hD => ?_
  have S' := S.alloc (t := s.toks) (d := s.drawn) (x := .list xs) (get?_size s.heap) S.size_le hk hD (.list rs)
  exact Post.mk (.ref _) S' (h _ (S.free (get?_size s.heap)).1)
end
end Mine
end
section
set_option autoImplicit false
namespace Mine
section
variable {W : Wd} {A : Around} {env : Env} {outer : Outs} {loc : Loc} {mem R : Mem} {E : Ex W} {F : Frz} {s : Shared}
theorem Sim0.growBut {it : Addr} {x : AObj} {h' : Heap} {t : Nat} {d : Drawn} (S : Sim0 W env outer loc (mset mem it x) F s) (hm : mem it = none) (hk : ∀ b o, b ≠ it → s.heap.get? b = some o → h'.get? b = some o) :
    Sim0 W env outer loc mem F { s with heap := h', toks := t, drawn := d } := by
  have up : ∀ {a y}, mem a = some y → a ≠ it ∧ mset mem it x a = some y := fun {a y} e => by
    have : a ≠ it := fun q => by rw [q, hm] at e; cases e
    exact ⟨this, by rw [mset_ne this]; exact e⟩
  have dn : ∀ {a}, mset mem it x a = none → a ≠ it ∧ mem a = none := fun {a} e => by
    have : a ≠ it := fun q => by rw [q, mset_self] at e; cases e
    exact ⟨this, by rw [mset_ne this] at e; exact e⟩
  exact {
    frz := fun a o h => hk _ _ (dn (S.memF a o h)).1 (S.frz a o h)
    base := S.base
    memF := fun a o h => (dn (S.memF a o h)).2
    memOk := fun a y h => let ⟨o, e, r⟩ := S.memOk a y (up h).2; ⟨o, hk _ _ (up h).1 e, r⟩
    ns := let ⟨m, ⟨o, es, ep, e, q⟩, b⟩ := S.ns; ⟨m, ⟨o, es, ep, hk _ _ (dn S.nsF.2).1 e, q⟩, b⟩
    nsF := ⟨S.nsF.1, (dn S.nsF.2).2⟩
    outs := fun q hq => by
      obtain ⟨⟨o, es, ep, e, r⟩, b, c, n⟩ := S.outs q hq
      exact ⟨⟨o, es, ep, hk _ _ (dn c).1 e, r⟩, b, (dn c).2, n⟩
    low := S.low
    memLow := fun a y h => S.memLow a y (up h).2
    gens := S.gens
    os := S.os }
theorem Sim.endR {it : Addr} {x : AObj} {h' : Heap} {t : Nat} {d : Drawn} (S : Sim W env outer loc mem (mset R it x) F s) (hR : R it = none) (hk : ∀ b o, b ≠ it → s.heap.get? b = some o → h'.get? b = some o) :
    Sim W env outer loc mem R F { s with heap := h', toks := t, drawn := d } := by
  have hm : mem it = none := by
    cases q : mem it with
    | none => rfl
    | some y => have := S.dis it y q; rw [mset_self] at this; cases this
  refine ⟨fun b y e => ?_, ?_⟩
  · have := S.dis b y e
    unfold mset at this
    split at this
    · cases this
    · exact this
  · have z := S.z
    rw [← mset_munR hm] at z
    exact z.growBut (by rw [mun_r hm]; exact hR) hk
theorem feed_raw {F₀ : Frz} {target : PySem.Expr} {it : Addr} {item : Nat → Mem → Option (Option V)} (P : Nat → Obj → Prop)
    (next : ∀ {i : Nat} {env : Env} {outer : Outs} {loc : Loc} {mem R : Mem} {F : Frz} {s : Shared} {v : V} {o : Obj} (E : Value → Shared → Prop) (Q : Option Value → Shared → Prop), Incl F₀ F → P i o → item i mem = some (some v) → s.heap.get? it = some o → Sim W env outer loc mem R F s →
      (∀ v' h' t o', VR W F v v' → h'.get? it = some o' → P (i + 1) o' → Heap.SameBut it s.heap h' → Q (some v') { s with heap := h', toks := t }) → wpAny (model W.prog W.w) A (pyNext (.ref it)) Q E s)
    (go : ∀ {i : Nat} {s : Shared} {v' : Value} {o : Obj} (E : Value → Shared → Prop) (Q : Unit → Shared → Prop), P i o → s.heap.get? it = some o → Q () s → wpAny (model W.prog W.w) A (letOwnedTupleGo target (.ref it) v') Q E s)
    (done : ∀ {i : Nat} {env : Env} {outer : Outs} {loc : Loc} {mem R : Mem} {F : Frz} {s : Shared} {o : Obj} (E : Value → Shared → Prop) (Q : Option Value → Shared → Prop), Incl F₀ F → P i o → item i mem = some none → s.heap.get? it = some o → Sim W env outer loc mem R F s →
      (∀ h', Heap.ExtBut it s.heap h' → Q none { s with heap := h' }) → wpAny (model W.prog W.w) A (pyNext (.ref it)) Q E s)
    (self : ∀ {i : Nat} {s : Shared} {o : Obj} (E : Value → Shared → Prop) (Q : Value → Shared → Prop), P i o → s.heap.get? it = some o → Q (.ref it) s → wpAny (model W.prog W.w) A (pyIter (.ref it)) Q E s) :
    Feed W A F₀ target (.ref it) item (fun i R₀ R => R₀ it = none ∧ ∃ o, R = mset R₀ it (.raw o) ∧ P i o) where
  next := by
    rintro i env outer loc mem R₀ R F s v E ic ⟨hn, o, rfl, hP⟩ hi S
    obtain ⟨o₁, ho, r⟩ := S.atR
    cases r.view
    refine next E _ ic hP hi ho S fun v' h' t o' rv ho' hP' sb => ⟨v', rfl, ?_⟩
    have S' := S.updR (t := t) (d := s.drawn) (x' := .raw o') (fun b ob hb e => (sb.2 b hb).trans e) ho' .raw
    exact go E _ hP' ho' ⟨F, _, Incl.refl F, rv, ⟨hn, o', rfl, hP'⟩, S'⟩
  done := by
    rintro i env outer loc mem R₀ R F s E ic ⟨hn, o, rfl, hP⟩ hi S
    obtain ⟨o₁, ho, r⟩ := S.atR
    cases r.view
    exact done E _ ic hP hi ho S fun h' eb => ⟨rfl, S.endR (t := s.toks) (d := s.drawn) hn fun b ob hb e => eb b ob hb e⟩
  off := by
    rintro i env outer loc mem R₀ R F s ⟨hn, o, rfl, hP⟩ S
    exact S.offR hn
  self := by
    rintro i env outer loc mem R₀ R F s E Q ⟨hn, o, rfl, hP⟩ S h
    obtain ⟨o₁, ho, r⟩ := S.atR
    cases r.view
    exact self E Q hP ho h
  frame := by
    rintro i R₀ R D x ⟨hn, o, rfl, hP⟩ e
    have hD : D ≠ it := fun q => by rw [q, mset_self, hn] at e; cases e
    refine ⟨by rw [mset_ne (Ne.symm hD)]; exact hn, o, ?_, hP⟩
    funext b
    unfold mset
    by_cases h1 : b = D <;> by_cases h2 : b = it <;> simp_all
  same := by
    rintro i R₀ R D ⟨hn, o, rfl, hP⟩ h
    exact mset_ne fun q => h (q ▸ hn)
theorem Sim.iterNew {o : Obj} (S : Sim W env outer loc mem R F s) (hf : o.isFreed = false := by rfl) : R s.heap.objs.size = none ∧ Sim W env outer loc mem (mset R s.heap.objs.size (.raw o)) F { s with heap := s.heap.push o } :=
  ⟨(S.free (get?_size s.heap)).2, S.allocR (t := s.toks) (d := s.drawn) (get?_size s.heap) S.size_le (fun b ob e => Heap.get?_push_of_some _ e) (Heap.get?_push_size _ hf) .raw⟩
theorem letGo_plain {target : PySem.Expr} {it : Addr} {v : Value} {o : Obj} {n : String} {vs : Array Value} {s : Shared} {E : Value → Shared → Prop} {Q : Unit → Shared → Prop} (ho : s.heap.get? it = some o) (hc : o.cls = .type n) (hd : o.data = .fields vs)
    (hn : ["enumerate", "zip", "dict_itemiterator", "dict_reverseitemiterator", "odict_iterator", "itertools.zip_longest", "itertools.pairwise"].contains n = false) (h : Q () s) :
    wpAny (model W.prog W.w) A (letOwnedTupleGo target (.ref it) v) Q E s := by
  unfold letOwnedTupleGo
  cases target <;> first
    | exact wpAny_pure h
    | (cases v <;> first
        | exact wpAny_pure h
        | (refine wpAny_bind (wpAny_load ho ?_)
           rw [hc, hd]
           simp only [hn, Bool.false_and, Bool.false_eq_true, if_false]
           exact wpAny_pure h))
noncomputable def ownItem (a : Addr) (i : Nat) (m : Mem) : Option (Option V) := match m a with
  | some (.list xs) => some xs[i]?
  | _ => none
theorem ownItem_eq {a : Addr} {i : Nat} {m : Mem} {xs : List V} (h : m a = some (.list xs)) : ownItem a i m = some xs[i]? := by unfold ownItem; rw [h]
theorem ownItem_some {a : Addr} {i : Nat} {m : Mem} {v : Option V} (h : ownItem a i m = some v) : ∃ xs, m a = some (.list xs) ∧ xs[i]? = v := by
  unfold ownItem at h
  split at h
  · rename_i xs e; cases h; exact ⟨xs, e, rfl⟩
  · cases h
theorem VRs.getN {xs : List V} {vs : Array Value} (r : VRs W F xs vs.toList) {i : Nat} (h : xs[i]? = none) : vs[i]? = none := by
  rw [List.getElem?_eq_none_iff] at h
  rw [Array.getElem?_eq_none_iff, r.size]; exact h
theorem itr_own {target : PySem.Expr} {a : Addr} {xs : List V} (hh : A.handled = none) (h : mem a = some (.list xs)) : Itr W A target (.ref a) mem mem (ownItem a) := by
  intro env outer loc R F s x' E S r
  cases r.view
  obtain ⟨o, ho, q⟩ := S.memOk _ _ h
  cases q with
  | @list _ vs n q =>
    obtain ⟨hR, S'⟩ := S.iterNew (o := { cls := .type "list_iterator", data := .fields #[.ref a, .int 0 0] })
    refine wpAny_pyIter_list (items := vs) ⟨_, ho, rfl, n, rfl⟩ ⟨_, _, feed_raw (fun i o => o.cls = .type "list_iterator" ∧ o.data = .fields #[.ref a, .int i 0]) ?_ ?_ ?_ ?_, ⟨hR, _, rfl, ⟨rfl, rfl⟩⟩, S'⟩
    · intro i env outer loc mem R F s v o E Q ic hP hi ho S k
      obtain ⟨xs, hx, hi⟩ := ownItem_some hi
      obtain ⟨o', ho', q⟩ := S.memOk _ _ hx
      cases q with
      | @list _ vs n q =>
        obtain ⟨u, hu, ru⟩ := q.getA hi
        refine wpAny_pyNext_list_item (items := vs) ⟨o, ho, hP⟩ ⟨_, ho', rfl, n, rfl⟩ hu fun h' hit sb => ?_
        obtain ⟨o2, h2, hP2⟩ := hit
        exact k u h' s.toks o2 ru h2 hP2 sb
    · intro i s v' o E Q hP ho q
      exact letGo_plain ho hP.1 hP.2 (by decide) q
    · intro i env outer loc mem R F s o E Q ic hP hi ho S k
      obtain ⟨xs, hx, hi⟩ := ownItem_some hi
      obtain ⟨o', ho', q⟩ := S.memOk _ _ hx
      cases q with
      | @list _ vs n q => exact wpAny_pyNext_list_end (items := vs) hh ⟨o, ho, hP⟩ ⟨_, ho', rfl, n, rfl⟩ (q.getN hi) k
    · intro i s o E Q hP ho q; exact wpAny_pyIter_listiter ⟨o, ho, hP⟩ q
noncomputable def setItem_ (xs : List V) (i : Nat) (_ : Mem) : Option (Option V) := some xs[i]?
theorem itr_lst {target : PySem.Expr} {xs : List V} (hh : A.handled = none) : Itr W A target (.lst xs) mem mem (setItem_ xs) := by
  intro env outer loc R F₀ s x' E S r
  cases r with
  | @lst _ a vs n fa q =>
    obtain ⟨hR, S'⟩ := S.iterNew (o := { cls := .type "list_iterator", data := .fields #[.ref a, .int 0 0] })
    refine wpAny_pyIter_list (items := vs) ⟨_, S.frz _ _ fa, rfl, n, rfl⟩ ⟨_, _, feed_raw (fun i o => o.cls = .type "list_iterator" ∧ o.data = .fields #[.ref a, .int i 0]) ?_ ?_ ?_ ?_, ⟨hR, _, rfl, ⟨rfl, rfl⟩⟩, S'⟩
    · intro i env outer loc mem R F s v o E Q ic hP hi ho S k
      cases hi' : xs[i]? with
      | none => unfold setItem_ at hi; rw [hi'] at hi; cases hi
      | some y =>
        have : y = v := by unfold setItem_ at hi; rw [hi'] at hi; cases hi; rfl
        subst this
        obtain ⟨u, hu, ru⟩ := (q.mono ic).getA hi'
        refine wpAny_pyNext_list_item (items := vs) ⟨o, ho, hP⟩ ⟨_, S.frz _ _ (ic _ _ fa), rfl, n, rfl⟩ hu fun h' hit sb => ?_
        obtain ⟨o2, h2, hP2⟩ := hit
        exact k u h' s.toks o2 ru h2 hP2 sb
    · intro i s v' o E Q hP ho q
      exact letGo_plain ho hP.1 hP.2 (by decide) q
    · intro i env outer loc mem R F s o E Q ic hP hi ho S k
      have hi' : xs[i]? = none := by unfold setItem_ at hi; exact Option.some.inj hi
      exact wpAny_pyNext_list_end (items := vs) hh ⟨o, ho, hP⟩ ⟨_, S.frz _ _ (ic _ _ fa), rfl, n, rfl⟩ (q.getN hi') k
    · intro i s o E Q hP ho q; exact wpAny_pyIter_listiter ⟨o, ho, hP⟩ q
theorem itr_tup {target : PySem.Expr} {xs : List V} (hh : A.handled = none) : Itr W A target (.tup xs) mem mem (setItem_ xs) := by
  intro env outer loc R F₀ s x' E S r
  cases r with
  | @tup _ a vs n fa q =>
    obtain ⟨hR, S'⟩ := S.iterNew (o := { cls := .type "tuple_iterator", data := .fields #[.ref a, .int 0 0] })
    refine iter_tuple (items := vs) ⟨_, S.frz _ _ fa, rfl, n, rfl⟩ ⟨_, _, feed_raw (fun i o => o.cls = .type "tuple_iterator" ∧ o.data = .fields #[.ref a, .int i 0]) ?_ ?_ ?_ ?_, ⟨hR, _, rfl, ⟨rfl, rfl⟩⟩, S'⟩
    · intro i env outer loc mem R F s v o E Q ic hP hi ho S k
      cases hi' : xs[i]? with
      | none => unfold setItem_ at hi; rw [hi'] at hi; cases hi
      | some y =>
        have : y = v := by unfold setItem_ at hi; rw [hi'] at hi; cases hi; rfl
        subst this
        obtain ⟨u, hu, ru⟩ := (q.mono ic).getA hi'
        refine next_tuple_item (items := vs) ⟨o, ho, hP⟩ ⟨_, S.frz _ _ (ic _ _ fa), rfl, n, rfl⟩ hu fun h' hit sb => ?_
        obtain ⟨o2, h2, hP2⟩ := hit
        exact k u h' s.toks o2 ru h2 hP2 sb
    · intro i s v' o E Q hP ho q
      exact letGo_plain ho hP.1 hP.2 (by decide) q
    · intro i env outer loc mem R F s o E Q ic hP hi ho S k
      have hi' : xs[i]? = none := by unfold setItem_ at hi; exact Option.some.inj hi
      exact next_tuple_end (items := vs) hh ⟨o, ho, hP⟩ ⟨_, S.frz _ _ (ic _ _ fa), rfl, n, rfl⟩ (q.getN hi') k
    · intro i s o E Q hP ho q; exact wpAny_pyIter_tupleiter ⟨o, ho, hP⟩ q
noncomputable def keyItem (a : Addr) (n ep i : Nat) (m : Mem) : Option (Option V) := match m a with
  | some (.dict es e) => if es.length = n ∧ e = ep then some (es[i]?.map fun q => .str q.1) else none
  | _ => none
theorem keyItem_eq {a : Addr} {n ep i : Nat} {m : Mem} {es : List (Str × V)} (h : m a = some (.dict es ep)) (hn : es.length = n) : keyItem a n ep i m = some (es[i]?.map fun q => .str q.1) := by unfold keyItem; rw [h]; simp [hn]
theorem keyItem_some {a : Addr} {n ep i : Nat} {m : Mem} {v : Option V} (h : keyItem a n ep i m = some v) : ∃ es, m a = some (.dict es ep) ∧ es.length = n ∧ v = es[i]?.map fun q => .str q.1 := by
  unfold keyItem at h
  split at h
  · rename_i es e q
    split at h
    · rename_i z; cases h; exact ⟨es, z.2 ▸ q, z.1, rfl⟩
    · cases h
  · cases h
theorem dictOf_ep {ds : List DictEntry} {n : Nat} {kvs : List (Str × Value)} (h : (dictOf ds n).IsDictOf (strKind W.prog W.w) kvs) {hp : Heap} {a : Addr} (ha : hp.get? a = some (dictOf ds n)) : hp.DictAt (strKind W.prog W.w) a kvs n := by
  obtain ⟨es, ep, hx, hd, hk, hpr, hn⟩ := h
  refine ⟨_, es, ha, hx, ?_, hk, hpr, hn⟩
  rw [hd]; cases hd; rfl
theorem VRp.at {es : List (Str × V)} {kvs : List (Str × Value)} (r : VRp W F es kvs) : ∀ {i : Nat} {k : Str} {x : V}, es[i]? = some (k, x) → ∃ v, kvs[i]? = some (k, v) ∧ VR W F x v := by
  induction es generalizing kvs with
  | nil => intro i k x h; cases h
  | cons e es ih =>
    cases r.view with
    | cons r1 r2 =>
      intro i k x h
      cases i with
      | zero => cases h; exact ⟨_, rfl, r1⟩
      | succ i => exact ih r2 h
theorem VRp.atN {es : List (Str × V)} {kvs : List (Str × Value)} (r : VRp W F es kvs) {i : Nat} (h : es[i]? = none) : kvs[i]? = none := by
  rw [List.getElem?_eq_none_iff] at h ⊢
  rw [r.length]; exact h
theorem itr_dict {target : PySem.Expr} {a : Addr} {es : List (Str × V)} {ep : Nat} (hh : A.handled = none) (h : mem a = some (.dict es ep)) : Itr W A target (.ref a) mem mem (keyItem a es.length ep) := by
  intro env outer loc R F₀ s x' E S r
  cases r.view
  obtain ⟨o, ho, q⟩ := S.memOk _ _ h
  cases q with
  | @dict _ ds _ kvs k q =>
    obtain ⟨hR, S'⟩ := S.iterNew (o := { cls := .type "dict_keyiterator", data := .fields #[.ref a, .int 0 0, .int kvs.length 0, .int ep 0] })
    refine wpAny_pyIter_dict (knd := strKind W.prog W.w) (S.not_modules h) (dictOf_ep k ho) ⟨_, _, feed_raw (fun i o => o.cls = .type "dict_keyiterator" ∧ o.data = .fields #[.ref a, .int i 0, .int kvs.length 0, .int ep 0]) ?_ ?_ ?_ ?_, ⟨hR, _, rfl, ⟨rfl, rfl⟩⟩, S'⟩
    · intro i env outer loc mem R F s v o E Q ic hP hi ho S k
      obtain ⟨es', hx, hl, hi⟩ := keyItem_some hi
      obtain ⟨o', ho', q'⟩ := S.memOk _ _ hx
      cases q' with
      | @dict _ ds' _ kvs' k' q' =>
        have hlen : kvs.length = kvs'.length := by rw [q.length, q'.length, hl]
        cases he : es'[i]? with
        | none => rw [he] at hi; cases hi
        | some e =>
          obtain ⟨ke, xe⟩ := e
          rw [he] at hi
          cases hi
          obtain ⟨u, hu, ru⟩ := q'.at he
          refine wpAny_pyNext_dict_item (knd := strKind W.prog W.w) (kvs := kvs') (hlen ▸ ⟨o, ho, hP⟩) (dictOf_ep k' ho') hu fun key h' hkey hit sb => ?_
          obtain ⟨o2, h2, hP2⟩ := hit
          obtain ⟨t, rfl⟩ := Value.isStrOf_shape hkey
          exact k _ h' s.toks o2 (.str _ _) h2 (hlen ▸ hP2) sb
    · intro i s v' o E Q hP ho q
      exact letGo_plain ho hP.1 hP.2 (by decide) q
    · intro i env outer loc mem R F s o E Q ic hP hi ho S k
      obtain ⟨es', hx, hl, hi⟩ := keyItem_some hi
      obtain ⟨o', ho', q'⟩ := S.memOk _ _ hx
      cases q' with
      | @dict _ ds' _ kvs' k' q' =>
        have hlen : kvs.length = kvs'.length := by rw [q.length, q'.length, hl]
        have he : es'[i]? = none := by
          cases he : es'[i]? with
          | none => rfl
          | some e => rw [he] at hi; cases hi
        exact wpAny_pyNext_dict_end (knd := strKind W.prog W.w) (kvs := kvs') hh (hlen ▸ ⟨o, ho, hP⟩) (dictOf_ep k' ho') (q'.atN he) k
    · intro i s o E Q hP ho q; exact wpAny_pyIter_keyiter ⟨o, ho, hP⟩ q
noncomputable def strItem (x : Str) (i : Nat) (_ : Mem) : Option (Option V) := some (x.cps[i]?.map fun c => .str ⟨#[c]⟩)
theorem itr_str {target : PySem.Expr} {x : Str} (hh : A.handled = none) : Itr W A target (.str x) mem mem (strItem x) := by
  intro env outer loc R F₀ s x' E S r
  cases r with
  | str _ t =>
    cases ha : x.cps.all (· < 128) with
    | true =>
      obtain ⟨hR, S'⟩ := S.iterNew (o := { cls := .type "str_ascii_iterator", data := .fields #[.str x t, .int 0 0] })
      refine wpAny_pyIter_ascii ha ⟨_, _, feed_raw (fun i o => o.cls = .type "str_ascii_iterator" ∧ o.data = .fields #[.str x t, .int i 0]) ?_ ?_ ?_ ?_, ⟨hR, _, rfl, ⟨rfl, rfl⟩⟩, S'⟩
      · intro i env outer loc mem R F s v o E Q ic hP hi ho S k
        cases hi' : x.cps[i]? with
        | none => unfold strItem at hi; rw [hi'] at hi; cases hi
        | some y =>
          have : V.str ⟨#[y]⟩ = v := by unfold strItem at hi; rw [hi'] at hi; cases hi; rfl
          subst this
          refine wpAny_pyNext_ascii_item ⟨o, ho, hP⟩ hi' fun h' hit sb => ?_
          obtain ⟨o2, h2, hP2⟩ := hit
          exact k _ h' _ o2 (.str _ _) h2 hP2 sb
      · intro i s v' o E Q hP ho q
        exact letGo_plain ho hP.1 hP.2 (by decide) q
      · intro i env outer loc mem R F s o E Q ic hP hi ho S k
        have hi' : x.cps[i]? = none := by
          cases hi' : x.cps[i]? with
          | none => rfl
          | some y => unfold strItem at hi; rw [hi'] at hi; cases hi
        exact wpAny_pyNext_ascii_end hh ⟨o, ho, hP⟩ hi' k
      · intro i s o E Q hP ho q; exact wpAny_pyIter_striter_ascii ⟨o, ho, hP⟩ q
    | false =>
      obtain ⟨hR, S'⟩ := S.iterNew (o := { cls := .type "str_iterator", data := .fields #[.str x t, .int 0 0] })
      refine wpAny_pyIter_wide ha ⟨_, _, feed_raw (fun i o => o.cls = .type "str_iterator" ∧ o.data = .fields #[.str x t, .int i 0]) ?_ ?_ ?_ ?_, ⟨hR, _, rfl, ⟨rfl, rfl⟩⟩, S'⟩
      · intro i env outer loc mem R F s v o E Q ic hP hi ho S k
        cases hi' : x.cps[i]? with
        | none => unfold strItem at hi; rw [hi'] at hi; cases hi
        | some y =>
          have : V.str ⟨#[y]⟩ = v := by unfold strItem at hi; rw [hi'] at hi; cases hi; rfl
          subst this
          refine wpAny_pyNext_wide_item ⟨o, ho, hP⟩ hi' fun h' hit sb => ?_
          obtain ⟨o2, h2, hP2⟩ := hit
          exact k _ h' _ o2 (.str _ _) h2 hP2 sb
      · intro i s v' o E Q hP ho q
        exact letGo_plain ho hP.1 hP.2 (by decide) q
      · intro i env outer loc mem R F s o E Q ic hP hi ho S k
        have hi' : x.cps[i]? = none := by
          cases hi' : x.cps[i]? with
          | none => rfl
          | some y => unfold strItem at hi; rw [hi'] at hi; cases hi
        exact wpAny_pyNext_wide_end hh ⟨o, ho, hP⟩ hi' k
      · intro i s o E Q hP ho q; exact wpAny_pyIter_striter_wide ⟨o, ho, hP⟩ q
end
end Mine
end
section
set_option autoImplicit false
namespace Mine
section
variable {W : Wd} {A : Around} {env : Env} {outer : Outs} {loc : Loc} {mem R : Mem} {E : Ex W} {F : Frz} {s : Shared}
theorem dictOf_of {ds : List DictEntry} {n : Nat} {kvs : List (Str × Value)} (h : (dictOf ds n).IsDictOf (strKind W.prog W.w) kvs) {hp : Heap} {a : Addr} (ha : hp.get? a = some (dictOf ds n)) : hp.DictOf (strKind W.prog W.w) a kvs := by
  obtain ⟨es, ep, hx, hd, hk, hpr, hn⟩ := h
  exact ⟨_, es, ep, ha, hx, hd, hk, hpr, hn⟩
theorem dictOf_back {hp : Heap} {a : Addr} {kvs : List (Str × Value)} (h : hp.DictOf (strKind W.prog W.w) a kvs) : ∃ ds ep, hp.get? a = some (dictOf ds ep) ∧ (dictOf ds ep).IsDictOf (strKind W.prog W.w) kvs := by
  obtain ⟨o, es, ep, ha, hx, hd, hk, hpr, hn⟩ := h
  have e : o = dictOf es.toList ep := by
    obtain ⟨h1, h2, h3⟩ := hx
    cases o
    simp only at h1 h2 h3 hd
    subst h1; subst h2; subst h3; subst hd
    simp [dictOf]
  refine ⟨es.toList, ep, e ▸ ha, es, ep, e ▸ hx, e ▸ hd, hk, hpr, hn⟩
theorem Sim.dict {a : Addr} {es : List (Str × V)} {ep : Nat} (S : Sim W env outer loc mem R F s) (h : mem a = some (.dict es ep)) : ∃ kvs, s.heap.DictOf (strKind W.prog W.w) a kvs ∧ VRp W F es kvs := by
  obtain ⟨o, ho, q⟩ := S.memOk _ _ h
  cases q with
  | dict k q => exact ⟨_, dictOf_of k ho, q⟩
theorem VRp.isSome {es : List (Str × V)} {kvs : List (Str × Value)} (r : VRp W F es kvs) (k : Str) : (valueAt kvs k).isSome = (getA es k).isSome := by
  cases q : getA es k with
  | none => rw [(r.get k).2 q]; rfl
  | some x => obtain ⟨v, e, _⟩ := (r.get k).1 x q; rw [e]; rfl
theorem in_dict {a : Addr} {es : List (Str × V)} {ep : Nat} {k : Str} {Q : V → Loc → Mem → Prop} (hm : mem a = some (.dict es ep)) (h : Q (.bool (getA es k).isSome) loc mem) :
    OpV W A env outer (fun | [x, y] => compareOp .In x y | _ => pure .none) [.str k, .ref a] loc mem Q E := op2 fun R F s v u S r1 r2 => by
  cases r1.view; cases r2.view
  obtain ⟨kvs, hd, q⟩ := S.dict hm
  exact wpAny_in_of (knd := strKind W.prog W.w) (k := k) (strKind_is _ _ k _) (S.not_modules hm) hd.mapOf (Post.mk (.bool _) S.tick (by rw [q.isSome]; exact h))
theorem notin_dict {a : Addr} {es : List (Str × V)} {ep : Nat} {k : Str} {Q : V → Loc → Mem → Prop} (hm : mem a = some (.dict es ep)) (h : Q (.bool (!(getA es k).isSome)) loc mem) :
    OpV W A env outer (fun | [x, y] => compareOp .NotIn x y | _ => pure .none) [.str k, .ref a] loc mem Q E := op2 fun R F s v u S r1 r2 => by
  cases r1.view; cases r2.view
  obtain ⟨kvs, hd, q⟩ := S.dict hm
  exact wpAny_notIn_of (knd := strKind W.prog W.w) (k := k) (strKind_is _ _ k _) (S.not_modules hm) hd.mapOf (Post.mk (.bool _) S.tick (by rw [q.isSome]; exact h))
theorem getItem_dict {a : Addr} {es : List (Str × V)} {ep : Nat} {k : Str} {x : V} {Q : V → Loc → Mem → Prop} (hm : mem a = some (.dict es ep)) (hx : getA es k = some x) (h : Q x loc mem) :
    OpV W A env outer (fun | [x, y] => getItem x y | _ => pure .none) [.ref a, .str k] loc mem Q E := op2 fun R F s v u S r1 r2 => by
  cases r1.view; cases r2.view
  obtain ⟨kvs, hd, q⟩ := S.dict hm
  obtain ⟨u, hu, ru⟩ := (q.get k).1 x hx
  exact wpAny_getItem_of (knd := strKind W.prog W.w) (k := k) (strKind_is _ _ k _) hd.mapOf hu (Post.mk ru S.tick h)
theorem setItem_dict {a : Addr} {es : List (Str × V)} {ep : Nat} {k : Str} {x : V} {Q : Loc → Mem → Prop} (hm : mem a = some (.dict es ep)) (hz : es.length ≤ sizeLine) (h : ∀ ep', Q loc (mset mem a (.dict (stA es k x) ep'))) :
    OpU W A env outer (fun | [x, y, z] => setItem x y z | _ => pure ()) [.ref a, .str k, x] loc mem Q E := op3 fun R F s v u t S r1 r2 r3 => by
  cases r1.view; cases r2.view
  obtain ⟨kvs, hd, q⟩ := S.dict hm
  refine wpAny_setItem_pairs (knd := strKind W.prog W.w) (k := k) (strKind_is _ _ k _) hd (fun h' hd' sb => ?_) (by rw [q.length]; exact hz)
  obtain ⟨ds, ep', ho, hd'⟩ := dictOf_back hd'
  exact Post.mk (x := ()) trivial (S.upd (t := s.toks + 1) (d := s.drawn) hm (fun b ob hb e => (sb.2 b hb).trans e) ho (.dict hd' (q.store k r3))) (h ep')
theorem dict_get2 {a : Addr} {es : List (Str × V)} {ep : Nat} {k : Str} {d : V} {Q : V → Loc → Mem → Prop} (hm : mem a = some (.dict es ep)) (h : Q ((getA es k).getD d) loc mem) :
    OpV W A env outer (fun vs => call (.builtin "dict.get") vs) [.ref a, .str k, d] loc mem Q E := op3 fun R F s v u t S r1 r2 r3 => by
  cases r1.view; cases r2.view
  obtain ⟨kvs, hd, q⟩ := S.dict hm
  refine call_meetsIn PySem.F.slot_dict_get hd.mapOf.typeIs PySem.F.entry_dict_get (PySem.F.args_dict_get_3 _ _ _) (meets_dict_get_default (strKind W.prog W.w) a (k := k) (strKind_is _ _ k _) (S.not_modules hm) t) ⟨_, hd.mapOf, ?_⟩
  cases e : getA es k with
  | none => rw [(q.get k).2 e]; rw [e] at h; exact Post.mk r3 S.tick h
  | some x => obtain ⟨u, hu, ru⟩ := (q.get k).1 x e; rw [hu]; rw [e] at h; exact Post.mk ru S.tick h
theorem e_dict0 {pos : Pos} {Q : V → Loc → Mem → Prop} (h : ∀ a, mem a = none → Q (.ref a) loc (mset mem a (.dict [] 0))) : TrV W A env outer (eval (.Dict [] [] pos) env) loc mem Q E := fun R F s S => by
  refine wpAny_Dict_empty ?_
  have S' := S.alloc (t := s.toks) (d := s.drawn) (x := .dict [] 0) (o' := { cls := .type "dict", data := .dict #[] }) (get?_size s.heap) S.size_le (fun b o e => Heap.get?_push_of_some _ e) (Heap.get?_push_size _ rfl) (by
    have : ({ cls := .type "dict", data := .dict #[] } : Obj) = dictOf [] 0 := rfl
    rw [this]
    exact .dict (kvs := []) ⟨#[], 0, ⟨rfl, rfl, rfl⟩, rfl, fun e he => by simp at he, .nil, by simp⟩ .nil)
  exact Post.mk (.ref _) S' (h _ (S.free (get?_size s.heap)).1)
theorem getItem_missing {Ev : Value → Shared → Prop} {a : Addr} {es : List (Str × V)} {ep : Nat} {k : Str} {v u : Value} {Q : Value → Shared → Prop} (S : Sim W env outer loc mem R F s) (hm : mem a = some (.dict es ep)) (hx : getA es k = none) (hh : A.handled = none) (r1 : VR W F (.ref a) v) (r2 : VR W F (.str k) u)
    (h : ∀ h' e t, Heap.NewExc s.heap h' e "KeyError" → Ev (.ref e) { s with heap := h', toks := t }) : wpAny (model W.prog W.w) A (getItem v u) Q Ev s := by
  cases r1.view; cases r2.view
  obtain ⟨kvs, hd, q⟩ := S.dict hm
  exact wpAny_getItem_missing_of (knd := strKind W.prog W.w) (k := k) (strKind_is _ _ k _) (S.not_modules hm) hh hd.mapOf ((q.get k).2 hx) fun h' e n => h h' e _ n
end
end Mine
end
section
set_option autoImplicit false
namespace Mine
section
variable {W : Wd} {A : Around} {env : Env} {outer : Outs} {loc : Loc} {mem R : Mem} {E : Ex W} {F : Frz} {s : Shared}
noncomputable def TrP (W : Wd) (A : Around) (env : Env) (outer : Outs) (e : Option PySem.Expr) (loc : Loc) (mem : Mem) (Q : Option Int → Loc → Mem → Prop) (E : Ex W) : Prop := match e with
  | none => Q none loc mem
  | some e => TrV W A env outer (eval e env) loc mem (fun v l m => ∃ i, v = .int i ∧ Q (some i) l m) E
theorem TrP.run {e : Option PySem.Expr} {Q : Option Int → Loc → Mem → Prop} (h : TrP W A env outer e loc mem Q E) (S : Sim W env outer loc mem R F s) :
    wpAny (model W.prog W.w) A (evalPart e env) (Post W env outer (fun _ p v => IsPart v p) R F Q) (E.p R F) s := by
  cases e with
  | none => exact wpAny_evalPart_none ⟨F, none, loc, mem, Incl.refl F, .none, S, h⟩
  | some e =>
    refine wpAny_evalPart_some (after (RW := VR W) (Q := fun _ _ _ => True) (h R F s S) fun v' s' F1 v l1 m1 i1 r1 S1 h1 => ?_)
    obtain ⟨i, rfl, q⟩ := h1
    cases r1.view
    exact ⟨F1, some i, l1, m1, i1, .int i _, S1, q⟩
noncomputable def SliceAt (W : Wd) (A : Around) (env : Env) (outer : Outs) (o : V) (lo hi : Option Int) (loc : Loc) (mem : Mem) (Q : V → Loc → Mem → Prop) (E : Ex W) : Prop :=
  ∀ R F s o' l' u' sl, Sim W env outer loc mem R F s → VR W F o o' → IsPart l' lo → IsPart u' hi → s.heap.IsSliceOf sl l' u' .none → wpAny (model W.prog W.w) A (getItem o' (.ref sl)) (Post W env outer (VR W) R F Q) (E.p R F) s
theorem e_slice {value : PySem.Expr} {lower upper : Option PySem.Expr} {p pos : Pos} {Q : V → Loc → Mem → Prop}
    (h : TrV W A env outer (eval value env) loc mem (fun o l m => TrP W A env outer lower l m (fun lo l m => TrP W A env outer upper l m (fun hi l m => ∃ T id, Ty m o T ∧ typeLookup (.type T) "__getitem__" = pure (some (.builtin id)) ∧
      SliceAt W A env outer o lo hi l m Q E) E) E) E) : TrV W A env outer (eval (.Subscript value (.Slice lower upper none p) pos) env) loc mem Q E := fun R F s S => by
  refine Subscript_ (after (RW := VR W) (Q := fun _ _ _ => True) (h R F s S) fun v' s' F1 f l1 m1 i1 r1 S1 h1 => wpAny_Slice ?_)
  refine after (RW := VR W) (Q := fun _ _ _ => True) (h1.run S1) fun l' s2 F2 lo l2 m2 i2 r2 S2 h2 => ?_
  refine after (RW := VR W) (Q := fun _ _ _ => True) (TrP.run h2 S2) fun u' s3 F3 hi l3 m3 i3 r3 S3 h3 => ?_
  refine wpAny_evalPart_none ?_
  obtain ⟨T, id, ty, hl, op⟩ := h3
  have r1' := (r1.mono i2).mono i3
  have S4 := S3.grow (t := s3.toks) (d := s3.drawn) (h' := s3.heap.push { cls := .type "slice", data := .fields #[l', u', .none] }) fun b o e => Heap.get?_push_of_some _ e
  exact PyProof.Rows.tail_any (ty.at S4 r1').1 hl (wpAny_mono (op R F3 _ v' l' u' _ S4 r1' r2 r3 (Heap.IsSliceOf.new _ _ _ _)) (fun _ _ p => p.weaken ((i1.trans i2).trans i3)) fun _ _ e => E.up ((i1.trans i2).trans i3) e) rfl
theorem slice_listL {v : V} {xs : List V} {lo hi : Option Int} {ys : List V} {Q : V → Loc → Mem → Prop} (q : Sq mem v "list" xs) (hz : xs.length ≤ sizeLine)
    (hy : ∀ us : List Value, us.length = xs.length → ∀ F : Frz, VRs W F xs us → VRs W F ys (slicePick us.toArray lo hi none).toList) (h : Q (.lst ys) loc mem) : SliceAt W A env outer v lo hi loc mem Q E := fun R F s o' l' u' sl S r pl pu hs => by
  obtain ⟨a, vs, n, rfl, ho, rs⟩ := q.at S r
  refine wpAny_getItem_list_slice (items := vs) ⟨_, ho, rfl, n, rfl⟩ hs pl pu .none (by simp) ?_ (by rw [rs.size]; exact hz)
  have S' := S.freeze (t := s.toks) (d := s.drawn) (o' := { cls := .type "list", data := .seq (slicePick vs lo hi none) }) (get?_size s.heap) (fun b o e => Heap.get?_push_of_some _ e) (Heap.get?_push_size _ rfl)
  refine ⟨_, .lst ys, loc, mem, Incl.fadd _ _ _, .lst (.inr ⟨rfl, rfl⟩) ?_, S', h⟩
  have := hy vs.toList rs.length _ (rs.mono (Incl.fadd F s.heap.objs.size { cls := .type "list", data := .seq (slicePick vs lo hi none) }))
  simpa using this
theorem pick_upto {us : List Value} {k : Nat} : (slicePick us.toArray none (some k) none).toList = us.take k := by
  by_cases h : k ≤ us.length
  · have := slicePick_upto us.toArray k (by simpa using h); rw [this]
  · have := slicePick_plain us.toArray none (some (k : Int)); rw [this]
    simp only [Option.elim, List.drop_zero, Nat.sub_zero]
    have : clipAt us.toArray.size (k : Int) = us.length := by
      unfold clipAt; simp; omega
    rw [this]; simp; rw [List.take_of_length_le (by omega)]
theorem slice_upto {v : V} {xs : List V} {k : Nat} {Q : V → Loc → Mem → Prop} (q : Sq mem v "list" xs) (hz : xs.length ≤ sizeLine) (h : Q (.lst (xs.take k)) loc mem) : SliceAt W A env outer v none (some (k : Int)) loc mem Q E :=
  slice_listL q hz (fun us hl F r => by rw [pick_upto]; exact r.take k) h
noncomputable def rangeObj (a b c : Int) (t u v : Tok) : Obj := { cls := .type "range", data := .fields #[.int a t, .int b u, .int c v] }
theorem range1 {n : Int} {Q : V → Loc → Mem → Prop} (h : ∀ a t u v, mem a = none → Q (.ref a) loc (mset mem a (.raw (rangeObj 0 n 1 t u v)))) :
    OpV W A env outer (fun vs => call (.type "range") vs) [.int n] loc mem Q E := op1 fun R F s v S r => by
  cases r with
  | int _ t =>
  refine call_range_1 ?_
  have S' := S.alloc (t := s.toks + 1 + 1) (d := s.drawn) (x := .raw _) (o' := rangeObj 0 n 1 s.toks t (s.toks + 1)) (get?_size s.heap) S.size_le (fun b o e => Heap.get?_push_of_some _ e) (Heap.get?_push_size _ rfl) .raw
  exact Post.mk (.ref _) S' (h _ _ _ _ (S.free (get?_size s.heap)).1)
noncomputable def rangeItem (k : Int) (n : Nat) (i : Nat) (_ : Mem) : Option (Option V) := some (if i < n then some (.int (k + i)) else none)
theorem itr_range {target : PySem.Expr} {a : Addr} {k : Int} {n : Nat} {t u v : Tok} (hh : A.handled = none) (hm : mem a = some (.raw (rangeObj k (k + n) 1 t u v))) (hsm : Builtin.Range.small k (k + n) 1 = true) : Itr W A target (.ref a) mem mem (rangeItem k n) := by
  intro env outer loc R F₀ s x' E S r
  cases r.view
  obtain ⟨o, ho, q⟩ := S.memOk _ _ hm
  cases q.view
  have hsz : Builtin.Range.rangeSize k (k + n) 1 = n := by
    unfold Builtin.Range.rangeSize; simp; try omega
  obtain ⟨hR, S'⟩ := S.iterNew (o := { cls := .type "range_iterator", data := .fields #[rawInt k, rawInt (Builtin.Range.rangeSize k (k + n) 1), rawInt 1] })
  refine wpAny_pyIter_range (a := k) (b := k + n) (c := 1) (t := t) (u := u) (v := v) ho hsm ⟨_, _, feed_raw (fun i o => o = { cls := .type "range_iterator", dict := none, data := .fields #[rawInt (k + i), rawInt ((n : Int) - i), rawInt 1], slots := #[] }) ?_ ?_ ?_ ?_, ⟨hR, _, rfl, by rw [hsz]; simp⟩, S'⟩
  · intro i env outer loc mem R F s v o E Q ic hP hi ho S k'
    subst hP
    unfold rangeItem at hi
    split at hi
    · rename_i hlt
      cases hi
      refine wpAny_pyNext_range_item (x := k + i) (left := (n : Int) - i) (step := 1) ho (by omega) fun h' hit sb => ?_
      exact k' _ h' _ _ (.int _ _) hit (by simp [Int.add_assoc, Int.sub_sub]) sb
    · cases hi
  · intro i s v' o E Q hP ho q
    subst hP
    exact letGo_plain ho rfl rfl (by decide) q
  · intro i env outer loc mem R F s o E Q ic hP hi ho S k'
    subst hP
    unfold rangeItem at hi
    split at hi
    · cases hi
    · exact wpAny_pyNext_range_end (x := k + i) (left := (n : Int) - i) (step := 1) hh ho (by omega) k'
  · intro i s o E Q hP ho q; subst hP; exact wpAny_pyIter_rangeiter ho q
theorem Sq.reads {v : V} {xs : List V} {n : Nat} {v' : Value} (q : Sq mem v "list" xs) (hd : xs.all (isD n) = true) (S : Sim W env outer loc mem R F s) (r : VR W F v v') : ∃ as, Reads s.heap v' (.list (xs.map (toPy n))) as := by
  obtain ⟨a, vs, k, rfl, ho, rs⟩ := q.at S r
  obtain ⟨as, ra⟩ := reads_all (fun x v a b => VR.reads S.frz a b) hd rs
  exact ⟨_, .list ho rfl rfl ra⟩
theorem countIn_nonneg (d : PyData) (ds : List PyData) : 0 ≤ Spec.countIn d ds := by
  induction ds with
  | nil => exact Int.le_refl 0
  | cons e ds ih => unfold Spec.countIn; split <;> omega
theorem countIn_pos {n : Nat} {x : V} {xs : List V} (hx : isD n x = true) (hxs : xs.all (isD n) = true) : decide (Spec.countIn (toPy n x) (xs.map (toPy n)) ≠ 0) = true ↔ x ∈ xs := by
  rw [decide_eq_true_iff]
  induction xs with
  | nil => simp [Spec.countIn]
  | cons y ys ih =>
    rw [List.all_cons, Bool.and_eq_true] at hxs
    have e := same_iff hxs.1 hx
    have nn := countIn_nonneg (toPy n x) (ys.map (toPy n))
    have ih := ih hxs.2
    rw [List.map_cons, Spec.countIn, List.mem_cons]
    by_cases q : y = x
    · rw [if_pos (e.mpr q)]
      exact ⟨fun _ => .inl q.symm, fun _ => by omega⟩
    · rw [if_neg (fun z => q (e.mp z)), Int.zero_add, ih]
      exact ⟨.inr, fun z => z.resolve_left fun z => q z.symm⟩
theorem in_list {v : V} {x : V} {xs : List V} {n : Nat} {Q : V → Loc → Mem → Prop} (q : Sq mem v "list" xs) (hx : isD n x = true) (hxs : xs.all (isD n) = true) (hn : n < 64) (hu : A.units + 65 < cLine)
    (h : ∀ b : Bool, (b = true ↔ x ∈ xs) → Q (.bool b) loc mem) : OpV W A env outer (fun | [x, y] => compareOp .In x y | _ => pure .none) [x, v] loc mem Q E := op2 fun R F s x' v' S r1 r2 => by
  obtain ⟨as, ra⟩ := r1.reads S.frz hx
  obtain ⟨bs, rb⟩ := q.reads hxs S r2
  exact in_list_dataH rb ra (all_shaped hxs hn).1 (isD_shaped hx (by omega)) hu (fun y hy => by obtain ⟨z, hz, rfl⟩ := List.mem_map.mp hy; exact isD_noMix (List.all_eq_true.mp hxs z hz) hx) (Post.mk (.bool _) S (h _ (countIn_pos hx hxs)))
theorem notin_list {v : V} {x : V} {xs : List V} {n : Nat} {Q : V → Loc → Mem → Prop} (q : Sq mem v "list" xs) (hx : isD n x = true) (hxs : xs.all (isD n) = true) (hn : n < 64) (hu : A.units + 65 < cLine)
    (h : ∀ b : Bool, (b = true ↔ x ∈ xs) → Q (.bool (!b)) loc mem) : OpV W A env outer (fun | [x, y] => compareOp .NotIn x y | _ => pure .none) [x, v] loc mem Q E := op2 fun R F s x' v' S r1 r2 => by
  obtain ⟨as, ra⟩ := r1.reads S.frz hx
  obtain ⟨bs, rb⟩ := q.reads hxs S r2
  exact notIn_list_dataH rb ra (all_shaped hxs hn).1 (isD_shaped hx (by omega)) hu (fun y hy => by obtain ⟨z, hz, rfl⟩ := List.mem_map.mp hy; exact isD_noMix (List.all_eq_true.mp hxs z hz) hx) (Post.mk (.bool _) S (h _ (countIn_pos hx hxs)))
theorem tuple_list {v : V} {xs : List V} {Q : V → Loc → Mem → Prop} (q : Sq mem v "list" xs) (hz : xs.length ≤ sizeLine) (h : Q (.tup xs) loc mem) : OpV W A env outer (fun vs => call (.type "tuple") vs) [v] loc mem Q E := op1 fun R F s v' S r => by
  obtain ⟨a, vs, n, rfl, ho, rs⟩ := q.at S r
  refine call_tuple_list (items := vs) ⟨_, ho, rfl, n, rfl⟩ (fun h' hk => ?_) (by rw [rs.size]; exact hz)
  have S1 := S.grow (t := s.toks) (d := s.drawn) hk
  have S' := S1.freeze (t := s.toks) (d := s.drawn) (o' := { cls := .type "tuple", data := .seq vs }) (get?_size h') (fun b o e => Heap.get?_push_of_some _ e) (Heap.get?_push_size _ rfl)
  exact ⟨_, .tup xs, loc, mem, Incl.fadd _ _ _, .tup (.inr ⟨rfl, rfl⟩) (rs.mono (Incl.fadd _ _ _)), S', h⟩
theorem Sq.isL {v : V} {xs : List V} {v' : Value} (q : Sq mem v "list" xs) (S : Sim W env outer loc mem R F s) (r : VR W F v v') : ∃ a vs n, v' = .ref a ∧ IsL s.heap a vs n ∧ VRs W F xs vs.toList := by
  obtain ⟨a, vs, n, rfl, ho, rs⟩ := q.at S r
  exact ⟨a, vs, n, rfl, by exact ho, rs⟩
theorem add_own {v u : V} {xs ys : List V} {Q : V → Loc → Mem → Prop} (q : Sq mem v "list" xs) (q' : Sq mem u "list" ys) (hz : xs.length + ys.length ≤ sizeLine) (h : ∀ a, mem a = none → Q (.ref a) loc (mset mem a (.list (xs ++ ys)))) :
    OpV W A env outer (fun | [x, y] => binaryOp .Add x y | _ => pure .none) [v, u] loc mem Q E := op2 fun R F s v' u' S r1 r2 => by
  obtain ⟨a, vs, n, rfl, ho, rs⟩ := q.isL S r1
  obtain ⟨b, ws, n2, rfl, ho2, rs2⟩ := q'.isL S r2
  refine P.add_list ho ho2 ?_ (by rw [rs.size, rs2.size]; exact hz)
  have S' := S.alloc (t := s.toks) (d := s.drawn) (x := .list (xs ++ ys)) (o' := { cls := .type "list", data := .seq (vs ++ ws) }) (get?_size s.heap) S.size_le (fun b o e => Heap.get?_push_of_some _ e) (Heap.get?_push_size _ rfl) (.list (by simpa using rs.app rs2))
  exact Post.mk (.ref _) S' (h _ (S.free (get?_size s.heap)).1)
end
end Mine
end
section
set_option autoImplicit false
namespace Mine
section
variable {W : Wd} {A : Around} {env : Env} {outer : Outs} {loc : Loc} {mem R : Mem} {E : Ex W} {F : Frz} {s : Shared}
theorem mset_mset (m : Mem) (a : Addr) (x y : AObj) : mset (mset m a x) a y = mset m a y := by funext b; unfold mset; split <;> simp_all
theorem mset_eq {m : Mem} {a : Addr} {x : AObj} (h : m a = some x) : mset m a x = m := by
  funext b; unfold mset; split
  · rename_i e; rw [e, h]
  · rfl
theorem Sim.fromR {D : Addr} {x : AObj} (S : Sim W env outer loc mem (mset R D x) F s) (hR : R D = none) : Sim W env outer loc (mset mem D x) R F s := by
  have hm : mem D = none := by
    cases q : mem D with
    | none => rfl
    | some y => have := S.dis D y q; rw [mset_self] at this; cases this
  refine ⟨fun b y e => ?_, ?_⟩
  · unfold mset at e
    split at e
    · rename_i q; rw [q]; exact hR
    · rename_i q
      have := S.dis b y e
      rw [mset_ne q] at this; exact this
  · have z := S.z
    rw [← mset_munR hm, mset_mun] at z
    exact z
theorem Sim.offM {D : Addr} {x : AObj} (S : Sim W env outer loc mem (mset R D x) F s) : mem D = none := by
  cases q : mem D with
  | none => rfl
  | some y => have := S.dis D y q; rw [mset_self] at this; cases this
theorem Sim0.swap {env' : Env} {m m' : Str → Option Value} {loc' : Loc} {mem' : Mem} {F' : Frz} {s' : Shared} (S : Sim0 W env outer loc mem F s) (l : LocRel W F loc m) (i : Incl F F')
    (S' : Sim0 W env' ((env.locals, m) :: outer) loc' mem' F' s') (hn : s'.heap.Ns env'.locals m') : Sim0 W env ((env'.locals, m') :: outer) loc mem' F' s' where
  frz := S'.frz
  base := S'.base
  memF := S'.memF
  memOk := S'.memOk
  ns := ⟨m, (S'.outs _ (.head _)).1, l.mono i⟩
  nsF := ⟨(S'.outs _ (.head _)).2.1, (S'.outs _ (.head _)).2.2.1⟩
  outs q hq := by
    rcases List.mem_cons.mp hq with rfl | hq
    · exact ⟨hn, S'.nsF.1, S'.nsF.2, Ne.symm (S'.outs _ (.head _)).2.2.2⟩
    · obtain ⟨z, b, c, _⟩ := S'.outs q (.tail _ hq); exact ⟨z, b, c, (S.outs q hq).2.2.2⟩
  low := S.low
  memLow := S'.memLow
  gens := S'.gens
  os := S'.os
theorem Sim0.dropOut {q : Addr × (Str → Option Value)} {h' : Heap} {t : Nat} (S : Sim0 W env (q :: outer) loc mem F s) (ho : ∀ p ∈ outer, p.1 ≠ q.1) (hs : Heap.SameBut q.1 s.heap h') : Sim0 W env outer loc mem F { s with heap := h', toks := t } := by
  obtain ⟨z, b, c, n⟩ := S.outs q (.head _)
  have up : ∀ {a o}, F a o → a ≠ q.1 := fun h e => b _ (e ▸ h)
  have um : ∀ {a x}, mem a = some x → a ≠ q.1 := fun h e => by rw [e, c] at h; cases h
  exact {
    frz := fun a o h => (hs.2 a (up h)).trans (S.frz a o h)
    base := S.base
    memF := S.memF
    memOk := fun a x h => let ⟨o, e, r⟩ := S.memOk a x h; ⟨o, (hs.2 a (um h)).trans e, r⟩
    ns := let ⟨m, z', l⟩ := S.ns; ⟨m, z'.sameBut hs (Ne.symm n), l⟩
    nsF := S.nsF
    outs := fun p hp => let ⟨z', b', c', n'⟩ := S.outs p (.tail _ hp); ⟨z'.sameBut hs (ho p hp), b', c', n'⟩
    low := S.low
    memLow := S.memLow
    gens := S.gens
    os := S.os }
inductive CompEnd (W : Wd) (env : Env) (outer : Outs) (loc : Loc) (R : Mem) (F : Frz) (Q : V → Loc → Mem → Prop) (acc : Value) (C : Addr) (s' : Shared) : Prop
  | intro (F' : Frz) (mem' : Mem) (D : Addr) (m' : Str → Option Value) (h1_ : acc = .ref D) (h2_ : Incl F F') (h3_ : ∀ p ∈ outer, p.1 ≠ C) (h4_ : Sim W env ((C, m') :: outer) loc mem' R F' s') (h5_ : Q (.ref D) loc mem')
noncomputable def CompTurn (W : Wd) (A : Around) (env : Env) (outer : Outs) (ifs : List PySem.Expr) (elt : PySem.Expr) (loc : Loc) (mem : Mem) (Q : Option V → Mem → Prop) : Prop := match ifs with
  | [] => TrV W A env outer (eval elt env) loc mem (fun y _ m => Q (some y) m) Ex.no
  | [c] => TrB W A env outer (isTrue c env (eval c env)) loc mem (fun b l m => (b = true → TrV W A env outer (eval elt env) l m (fun y _ m => Q (some y) m) Ex.no) ∧ (b = false → Q none m)) Ex.no
  | _ => False
theorem comp_loop {elt target iter : PySem.Expr} {ifs : List PySem.Expr} {scope : Scope} {pos : Pos} {it acc : Value} {env : Env} {R : Result → Shared → Prop} (I : Nat → Shared → Prop)
    (turn : ∀ n s, I n s → wpAny (model W.prog W.w) A (pyNext it) (fun r s₁ => match r with
      | none => R (.ok .next) s₁
      | some v => wpAny (model W.prog W.w) A (letOwnedTupleGo target it v) (fun _ s₀ => wpAny (model W.prog W.w) A (assign target env v) (fun _ s₂ =>
          wpAny (model W.prog W.w) A (forIn ifs true fun c r => if r = true then do let ok ← isTrue c env (eval c env); pure (ForInStep.yield ok) else pure (ForInStep.yield r)) (fun ok s₃ => if ok = true then wpAny (model W.prog W.w) A (eval elt env) (fun x s₄ =>
            wpAny (model W.prog W.w) A (call (.builtin "list.append") [acc, x]) (fun _ s₅ => ∃ m, m < n ∧ I m s₅) (fun _ _ => False) s₄) (fun _ _ => False) s₃
            else ∃ m, m < n ∧ I m s₃) (fun _ _ => False) s₂) (fun _ _ => False) s₀) (fun _ _ => False) s₁) (fun _ _ => False) s)
    (n : Nat) (h : I n s) : codeAny (model W.prog W.w) A (.compLoop (.ListComp elt [⟨target, iter, ifs, 0⟩] scope pos) 0 it acc env) R s := by
  refine codeAny_loop rfl I (fun n s hI => ?_) n h
  show wpAny _ A ((compTurn (.ListComp elt [⟨target, iter, ifs, 0⟩] scope pos) 0 it acc env).onRaise (fun x => do noteFrame x env; theTreesLotGoes x)) _ _ s
  refine wpAny_noted ?_
  rw [compTurn_list]
  refine wpAny_bind (wpAny_standAt (wpAny_bind (wpAny_mono (turn n s hI) (fun r s₁ h₁ => ?_) fun _ _ f => f.elim)))
  cases r with
  | none => exact wpAny_pure h₁
  | some v =>
    refine wpAny_bind (wpAny_mono h₁ (fun _ s₀ h₀' => ?_) fun _ _ f => f.elim)
    refine wpAny_bind (wpAny_mono h₀' (fun _ s₂ h₂ => ?_) fun _ _ f => f.elim)
    refine wpAny_bind (wpAny_mono h₂ (fun okb s₃ h₃ => ?_) fun _ _ f => f.elim)
    cases okb with
    | false => exact wpAny_pure ⟨rfl, h₃⟩
    | true => exact wpAny_bind (wpAny_bind (wpAny_mono h₃ (fun x s₄ h₄ => wpAny_bind (wpAny_mono h₄ (fun _ s₅ h₅ => wpAny_pure (wpAny_pure ⟨rfl, h₅⟩)) fun _ _ f => f.elim)) fun _ _ f => f.elim))
inductive CoreI (W : Wd) (env : Env) (outer : Outs) (F : Frz) (R : Mem) (D : Addr) (st : Nat → Mem → Mem → Prop) (I : Nat → Nat → List V → Mem → Prop) (n : Nat) (s : Shared) : Prop
  | intro (i : Nat) (F' : Frz) (ys : List V) (R1 : Mem) (l : Loc) (m : Mem) (h1_ : Incl F F') (h2_ : st i (mset R D (.list ys)) R1) (h3_ : Sim W env outer l m R1 F' s) (h4_ : I n i ys m)
theorem comp_core {E0 : Value → Shared → Prop} {mem₀ : Mem} {elt target iter : PySem.Expr} {ifs : List PySem.Expr} {scope : Scope} {cl : List (Str × Addr)} {pos : Pos} {x : V} {item : Nat → Mem → Option (Option V)} {Q : V → Loc → Mem → Prop} {x' : Value} {RR : Value → Addr → Result → Shared → Prop}
    (hcell : ∀ y ∈ scope.names, y.2 ≠ .cell) (hkind : scope.kind = .function) (hx : Itr W A target x mem mem₀ item) (I : Nat → Nat → List V → Mem → Prop) (hz : ∀ k i ys m, I k i ys m → ys.length ≤ sizeLine)
    (turn : ∀ (C : Addr) (outer' : Outs) k i ys m l, I k i ys m → item i m ≠ none ∧ (item i m = some none → ∀ D, m D = none → ∃ m', (∀ a x, m' a = some x → mset m D (.list ys) a = some x) ∧ Q (.ref D) loc m') ∧
      ∀ v, item i m = some (some v) → Op W A (compEnvC scope cl C env) outer' (fun _ (_ _ : Unit) => True) (fun | [y] => assign target (compEnvC scope cl C env) y | _ => pure ()) [v] l m (fun _ l m =>
        CompTurn W A (compEnvC scope cl C env) outer' ifs elt l m (fun y m => match y with
          | some y => ∃ k', k' < k ∧ I k' (i + 1) (ys ++ [y]) m
          | none => ∃ k', k' < k ∧ I k' (i + 1) ys m)) Ex.no)
    (k : Nat) (h : I k 0 [] mem₀) (S : Sim W env outer loc mem R F s) (r : VR W F x x') (hRR : ∀ acc C s', CompEnd W env outer loc R F Q acc C s' → RR acc C (.ok .next) s') :
    wpAny (model W.prog W.w) A (pyIter x') (fun it s₂ => wpAny (model W.prog W.w) A (newList []) (fun acc s₃ =>
      wpAny (model W.prog W.w) A (newFunctionEnv scope env.globals cl [] env.qual none .none (some env)) (fun cenv s₄ =>
        codeAny (model W.prog W.w) A (.compStart (.ListComp elt [⟨target, iter, ifs, 0⟩] scope pos) 0 it acc { cenv with scope := relabel scope env }) (RR acc cenv.locals) s₄) E0 s₃) E0 s₂) E0 s := by
  refine wpAny_mono (hx E0 S r) (fun it s₂ h2 => ?_) fun _ _ e => e
  obtain ⟨st, R', fd, h0, S2⟩ := h2
  refine wpAny_newObj_type (wpAny_newFunctionEnv hcell (by intro y hy; simp at hy) (fun h₁ hns₁ hsb₁ => ?_) hkind)
  dsimp only at hns₁ hsb₁ ⊢
  generalize hD : s₂.heap.objs.size = D at *
  have fD : s₂.heap.get? D = none := hD ▸ get?_size _
  obtain ⟨fm, fR⟩ := S2.free fD
  have fR0 : R D = none := by
    cases q : R D with
    | none => rfl
    | some y => have := fd.same (D := D) h0 (by rw [q]; exact fun e => nomatch e); rw [fR, q] at this; cases this
  generalize hH2 : s₂.heap.push { cls := .type "list", dict := none, data := .seq ([] : List Value).toArray } = H2 at hns₁ hsb₁ ⊢
  have S3 := S2.allocR (t := s₂.toks) (d := s₂.drawn) (x := .list []) (o' := { cls := .type "list", dict := none, data := .seq ([] : List Value).toArray }) fD (hD ▸ S2.size_le)
    (h' := H2) (fun b o e => hH2 ▸ Heap.get?_push_of_some _ e) (by rw [← hH2, ← hD]; exact Heap.get?_push_size _ rfl) (.list .nil)
  have st3 : st 0 (mset R D (.list [])) (mset R' D (.list [])) := fd.frame _ h0 (by rw [fR, fR0])
  generalize hC : H2.objs.size = C at *
  obtain ⟨m, hnm, lm⟩ := S3.z.ns
  have S4 : Sim W (compEnvC scope cl C env) ((env.locals, m) :: outer) [] mem₀ (mset R' D (.list [])) F { s₂ with heap := h₁, toks := s₂.toks + ([] : List (Str × Value)).length } :=
    ⟨S3.dis, S3.z.enter (s := { s₂ with heap := H2 }) (m' := fun x => ([] : List (Str × Value)).reverse.lookup x) hnm hC.symm rfl hns₁ (fun b o e => hsb₁.extBut b o (fun q => by
      have := Heap.lt_size e; rw [q, ← hC] at this; exact Nat.lt_irrefl _ this) (Heap.get?_push_of_some _ e)) (fun x v e => by cases e)⟩
  have oC : ∀ p ∈ outer, p.1 ≠ C := fun p hp e => by
    have := (S4.z.outs p (.tail _ hp)).2.2.2; exact this e
  have loop : codeAny (model W.prog W.w) A (.compLoop (.ListComp elt [⟨target, iter, ifs, 0⟩] scope pos) 0 it (.ref D) (compEnvC scope cl C env)) (RR (.ref D) C) { s₂ with heap := h₁, toks := s₂.toks + ([] : List (Str × Value)).length } := by
    refine comp_loop (CoreI W (compEnvC scope cl C env) ((env.locals, m) :: outer) F R D st I) (fun n s hI => ?_) k ⟨0, F, [], _, [], mem₀, Incl.refl F, st3, S4, h⟩
    obtain ⟨i, F', ys, R1, l, m', ic, hst, S', hI⟩ := hI
    obtain ⟨t1, t2, t3⟩ := turn C ((env.locals, m) :: outer) n i ys m' l hI
    cases hit : item i m' with
    | none => exact absurd hit t1
    | some w =>
      cases w with
      | none =>
        refine wpAny_mono (fd.done _ ic hst hit S') (fun r s1 h1 => ?_) fun _ _ e => e
        obtain ⟨rfl, S1⟩ := h1
        refine hRR _ _ _ ?_
        obtain ⟨mc, hnc, _⟩ := S1.z.ns
        have z := S.z.swap lm ic S1.z hnc
        have S5 : Sim W env ((C, mc) :: outer) loc m' (mset R D (.list ys)) F' s1 := ⟨S1.dis, z⟩
        obtain ⟨m2, hm2, q2⟩ := t2 hit D S5.offM
        exact ⟨F', m2, D, mc, rfl, ic, oC, (S5.fromR fR0).drop hm2, q2⟩
      | some v =>
        refine wpAny_mono (fd.next _ ic hst hit S') (fun r s1 h1 => ?_) fun _ _ e => e
        obtain ⟨v', rfl, h1⟩ := h1
        refine wpAny_mono h1 (fun _ s2 h2 => ?_) fun _ _ e => e
        obtain ⟨F2, R2, i2, r2, hst2, S2'⟩ := h2
        refine after' (RW := VR W) (Q := fun _ _ _ => True) (t3 v hit R2 F2 s2 [v'] S2' (.cons r2 .nil)) (fun _ _ z => z) fun _ s3 F3 _ l3 m3 i3 _ S3' h3 => ?_
        have elts : ∀ (F4 : Frz) (l4 : Loc) (m4 : Mem) (s4 : Shared), Incl F' F4 → Sim W (compEnvC scope cl C env) ((env.locals, m) :: outer) l4 m4 R2 F4 s4 → TrV W A (compEnvC scope cl C env) ((env.locals, m) :: outer) (eval elt (compEnvC scope cl C env)) l4 m4 (fun y _ m => ∃ k', k' < n ∧ I k' (i + 1) (ys ++ [y]) m) Ex.no →
            wpAny (model W.prog W.w) A (eval elt (compEnvC scope cl C env)) (fun x s₄ => wpAny (model W.prog W.w) A (call (.builtin "list.append") [.ref D, x]) (fun _ s₅ => ∃ m', m' < n ∧ CoreI W (compEnvC scope cl C env) ((env.locals, m) :: outer) F R D st I m' s₅) (fun _ _ => False) s₄) (fun _ _ => False) s4 := fun F4 l4 m4 s4 i4 S4 he => by
          refine after' (RW := VR W) (Q := fun _ _ _ => True) (he R2 F4 s4 S4) (fun _ _ z => z) fun y' s5 F5 y l5 m5 i5 r5 S5 h5 => ?_
          obtain ⟨k', hk', hI'⟩ := h5
          have e2 : R2 D = some (.list ys) := by rw [fd.same hst2 (by rw [mset_self]; exact fun e => nomatch e), mset_self]
          have e3 := mset_eq e2
          rw [← e3] at S5
          obtain ⟨o, ho, ro⟩ := S5.atR
          cases ro.view with
          | @list vs nn q =>
            refine append_at ho (fun h' hs ho' => ?_) (by rw [q.size]; exact hz _ _ _ _ hI)
            have S6 := S5.updR (t := s5.toks) (d := s5.drawn) (x' := .list (ys ++ [y])) (fun b ob hb e => (hs.2 b hb).trans e) ho' (.list (by simpa using q.app (.cons r5 .nil)))
            refine ⟨k', hk', i + 1, F5, ys ++ [y], _, l5, m5, (ic.trans i4).trans i5, ?_, S6, hI'⟩
            have := fd.frame (D := D) (.list (ys ++ [y])) hst2 (by rw [e2, mset_self])
            rwa [mset_mset] at this
        match ifs, h3 with
        | [], h3 =>
          refine wpAny_tests_nil ?_
          rw [if_pos rfl]
          exact elts F3 l3 m3 s3 (i2.trans i3) S3' h3
        | [c], h3 =>
          refine wpAny_tests_one (after' (RW := VR W) (Q := fun _ _ _ => True) (h3 R2 F3 s3 S3') (fun _ _ z => z) fun b' s4 F4 b l4 m4 i4 r4 S4' h4 => ?_)
          subst r4
          cases b' with
          | true => rw [if_pos rfl]; exact elts F4 l4 m4 s4 ((i2.trans i3).trans i4) S4' (h4.1 rfl)
          | false =>
            rw [if_neg Bool.false_ne_true]
            obtain ⟨k', hk', hI'⟩ := h4.2 rfl
            exact ⟨k', hk', i + 1, F4, ys, R2, l4, m4, ((ic.trans i2).trans i3).trans i4, hst2, S4', hI'⟩
        | _ :: _ :: _, h3 => exact h3.elim
  exact codeAny_compStart_list loop (fd.self _ _ st3 S4 loop)
inductive CompOk (W : Wd) (A : Around) (env : Env) (elt target : PySem.Expr) (ifs : List PySem.Expr) (scope : Scope) (cl : List (Str × Addr)) (loc : Loc) (mem : Mem) (x : V) (Q : V → Loc → Mem → Prop) : Prop
  | mk (item : Nat → Mem → Option (Option V)) (mem₀ : Mem) (itr : Itr W A target x mem mem₀ item) (I : Nat → Nat → List V → Mem → Prop) (size : ∀ k i ys m, I k i ys m → ys.length ≤ sizeLine)
    (turn : ∀ (C : Addr) (outer' : Outs) k i ys m l, I k i ys m → item i m ≠ none ∧ (item i m = some none → ∀ D, m D = none → ∃ m', (∀ a x, m' a = some x → mset m D (.list ys) a = some x) ∧ Q (.ref D) loc m') ∧
      ∀ v, item i m = some (some v) → Op W A (compEnvC scope cl C env) outer' (fun _ (_ _ : Unit) => True) (fun | [y] => assign target (compEnvC scope cl C env) y | _ => pure ()) [v] l m (fun _ l m =>
        CompTurn W A (compEnvC scope cl C env) outer' ifs elt l m (fun y m => match y with
          | some y => ∃ k', k' < k ∧ I k' (i + 1) (ys ++ [y]) m
          | none => ∃ k', k' < k ∧ I k' (i + 1) ys m)) Ex.no) (k : Nat) (init : I k 0 [] mem₀)
theorem e_listcomp {elt target iter : PySem.Expr} {ifs : List PySem.Expr} {scope : Scope} {cl : List (Str × Addr)} {pos : Pos} {Q : V → Loc → Mem → Prop}
    (hclos : closureFor scope env = pure cl) (hcell : ∀ y ∈ scope.names, y.2 ≠ .cell) (hkind : scope.kind = .function)
    (hnames : ∀ y ∈ scope.names, y.2 = .local → scope.names.lookup y.1 = some .local) (hs : ∀ x, foldedSetIterable iter env x = pure x)
    (h : TrV W A env outer (eval iter env) loc mem (fun x l m => CompOk W A env elt target ifs scope cl l m x Q) E) :
    TrV W A env outer (eval (.ListComp elt [⟨target, iter, ifs, 0⟩] scope pos) env) loc mem Q E := fun R F s S => by
  rw [eval_ListComp]
  refine wpAny_comprehension_free (use := none) rfl hs hclos hkind hnames (after (RW := VR W) (Q := fun _ _ _ => True) (h R F s S) fun x' s1 F1 x l1 m1 i1 r1 S1 h1 => ?_)
  obtain ⟨item, mem₀, itr, I, size, turn, k, init⟩ := h1
  refine comp_core (RR := fun acc C => compPost (model W.prog W.w) A (E.p R F) none (Post W env outer (VR W) R F Q) acc C) hcell hkind itr I size turn k init S1 r1 fun acc C s' he => ?_
  obtain ⟨F', mem', D, m', rfl, i', oC, S', q⟩ := he
  refine ⟨m', (S'.z.outs _ (.head _)).1, fun h' hs' => ⟨F', .ref D, l1, mem', i1.trans i', .ref D, ⟨S'.dis, S'.z.dropOut (t := s'.toks) oC hs'⟩, q⟩⟩
theorem s_assign_listcomp {elt target iter : PySem.Expr} {ifs : List PySem.Expr} {scope : Scope} {cl : List (Str × Addr)} {pos py spos : Pos} {y : Str} {Q : Fl → Loc → Mem → Prop}
    (hsw : swapsWith (.ListComp elt [⟨target, iter, ifs, 0⟩] scope pos) (some (.Name y py)) spos.line env = pure true)
    (hclos : closureFor scope env = pure cl) (hcell : ∀ y ∈ scope.names, y.2 ≠ .cell) (hkind : scope.kind = .function)
    (hnames : ∀ y ∈ scope.names, y.2 = .local → scope.names.lookup y.1 = some .local) (hy : env.kindOf y = some .local) (hp : (env.scope.kind == .class || (env.scope.kind == .module && env.locals != env.globals)) = false)
    (hs : ∀ x, foldedSetIterable iter env x = pure x)
    (h : TrV W A env outer (eval iter env) loc mem (fun x l m => CompOk W A env elt target ifs scope cl l m x (fun v l m => Q .next (setL y v l) m)) E) :
    TrS W A env outer (exec (.Assign [.Name y py] (.ListComp elt [⟨target, iter, ifs, 0⟩] scope pos) spos) env) loc mem Q E := fun R F s S => by
  rw [exec_Assign_Name_used _ _ _ _ hsw]
  refine wpAny_bind (wpAny_standAt (wpAny_bind ?_))
  show wpAny _ A (do let _ ← comprehension (.ListComp elt [⟨target, iter, ifs, 0⟩] scope pos) scope env _ (newList []) false (eval iter env) (some (assign (.Name y py) env))) _ _ s
  refine wpAny_bind (wpAny_mono (wpAny_comprehension_free (use := some (assign (.Name y py) env)) (Q := fun _ s' => Post W env outer (FR W) R F Q .next s') rfl hs hclos hkind hnames
    (after (RW := VR W) (Q := fun _ _ _ => True) (h R F s S) fun x' s1 F1 x l1 m1 i1 r1 S1 h1 => ?_)) (fun _ s' hq => wpAny_pure (wpAny_pure hq)) fun _ _ e => e)
  obtain ⟨item, mem₀, itr, I, size, turn, k, init⟩ := h1
  refine comp_core (Q := fun v l m => Q .next (setL y v l) m) (RR := fun acc C => compPost (model W.prog W.w) A (E.p R F) (some (assign (.Name y py) env)) (fun _ s' => Post W env outer (FR W) R F Q .next s') acc C) hcell hkind itr I size turn k init S1 r1 fun acc C s' he => ?_
  obtain ⟨F', mem', D, m', rfl, i', oC, S', q⟩ := he
  refine wpAny_assign_Name (after (RW := fun _ (_ _ : Unit) => True) (Q := fun _ _ _ => True) (st_local (A := A) (E := E) (v := .ref D) (Q := fun l m => Q .next l m) hy hp q R F' s' [.ref D] S' (.cons (.ref D) .nil)) fun _ s2 F2 _ l2 m2 i2 _ S2 q2 => ?_)
  exact ⟨m', (S2.z.outs _ (.head _)).1, fun h' hs' => ⟨F2, .next, l2, m2, (i1.trans i').trans i2, .next, ⟨S2.dis, S2.z.dropOut (t := s2.toks) oC hs'⟩, q2⟩⟩
end
end Mine
end
section
set_option autoImplicit false
namespace Mine
section
variable {W : Wd} {A : Around} {env : Env} {outer : Outs} {loc : Loc} {mem R : Mem} {E : Ex W} {F : Frz} {s : Shared}
theorem Sim.reR {R' : Mem} {h' : Heap} {t : Nat} {d : Drawn} (S : Sim W env outer loc mem R F s) (h1 : ∀ b, R b = none → R' b = none) (h2 : ∀ b x, R' b = some x → Held W F h' b x)
    (h3 : ∀ b o, s.heap.get? b = some o → R b = none → h'.get? b = some o) : Sim W env outer loc mem R' F { s with heap := h', toks := t, drawn := d } := by
  have Z := S.z
  have dn : ∀ {b}, mun mem R b = none → R b = none ∧ mun mem R' b = none := fun {b} e => by
    obtain ⟨a, c⟩ := mun_none e
    exact ⟨c, by rw [mun_r a]; exact h1 b c⟩
  refine ⟨fun b y e => h1 b (S.dis b y e), ?_⟩
  exact {
    frz := fun b o h => h3 b o (Z.frz b o h) (dn (Z.memF b o h)).1
    base := Z.base
    memF := fun b o h => (dn (Z.memF b o h)).2
    memOk := fun b y h => by
      cases q : mem b with
      | some z =>
        rw [mun_l q] at h; cases h
        obtain ⟨o, ho, r⟩ := Z.memOk b _ (mun_l q)
        exact ⟨o, h3 b o ho (S.dis b _ q), r⟩
      | none => rw [mun_r q] at h; exact h2 b y h
    ns := let ⟨m, ⟨o, es, ep, e, q⟩, b⟩ := Z.ns; ⟨m, ⟨o, es, ep, h3 _ _ e (dn Z.nsF.2).1, q⟩, b⟩
    nsF := ⟨Z.nsF.1, (dn Z.nsF.2).2⟩
    outs := fun q hq => by
      obtain ⟨⟨o, es, ep, e, r⟩, b, c, n⟩ := Z.outs q hq
      exact ⟨⟨o, es, ep, h3 _ _ e (dn c).1, r⟩, b, (dn c).2, n⟩
    low := Z.low
    memLow := fun b y h => by
      cases q : mem b with
      | some z => exact Z.memLow b z (mun_l q)
      | none =>
        rw [mun_r q] at h
        cases q' : R b with
        | none => rw [h1 b q'] at h; cases h
        | some z => exact Z.memLow b z (by rw [mun_r q]; exact q')
    gens := Z.gens
    os := Z.os }
theorem Sim.adopt {a : Addr} {o : Obj} (S : Sim W env outer loc mem R F s) (f1 : mun mem R a = none) (f2 : ∀ o, ¬ F a o) (f3 : a ≠ env.locals) (f4 : ∀ q ∈ outer, q.1 ≠ a) (ho : s.heap.get? a = some o) : Sim W env outer loc mem R (fadd F a o) s := by
  refine ⟨S.dis, ?_⟩
  have Z := S.z
  exact {
    frz := fun b o e => by rcases e with e | ⟨rfl, rfl⟩; exact Z.frz b o e; exact ho
    base := fun b o e => .inl (Z.base b o e)
    memF := fun b o e => by rcases e with e | ⟨rfl, rfl⟩; exact Z.memF b o e; exact f1
    memOk := fun b y e => let ⟨o, e', q⟩ := Z.memOk b y e; ⟨o, e', q.mono (Incl.fadd _ _ _)⟩
    ns := let ⟨m, z, b⟩ := Z.ns; ⟨m, z, LocRel.mono (Incl.fadd _ _ _) b⟩
    nsF := ⟨fun o e => by rcases e with e | ⟨e, rfl⟩; exact Z.nsF.1 o e; exact f3 e.symm, Z.nsF.2⟩
    outs := fun q hq => by
      obtain ⟨z, b, c, e⟩ := Z.outs q hq
      exact ⟨z, fun o e => by rcases e with e | ⟨e, rfl⟩; exact b o e; exact f4 q hq e, c, e⟩
    low := Z.low
    memLow := Z.memLow
    gens := Z.gens
    os := Z.os }
theorem Sim.toR {D : Addr} {x : AObj} (S : Sim W env outer loc (mset mem D x) R F s) (hm : mem D = none) : Sim W env outer loc mem (mset R D x) F s := by
  have hR : R D = none := S.dis D x (mset_self _ _ _)
  refine ⟨fun b y e => ?_, ?_⟩
  · have hb : b ≠ D := fun q => by rw [q, hm] at e; cases e
    rw [mset_ne hb]
    exact S.dis b y (by rw [mset_ne hb]; exact e)
  · have z := S.z
    rw [← mset_mun, mset_munR hm] at z
    exact z
theorem Sim.rawAt {a : Addr} {x : AObj} (S : Sim W env outer loc mem R F s) (h : R a = some x) : Held W F s.heap a x := by
  have hm : mem a = none := by
    cases q : mem a with
    | none => rfl
    | some y => have := S.dis a y q; rw [h] at this; cases this
  exact S.z.memOk a x (by rw [mun_r hm]; exact h)
theorem nextOf_tuple_item {prog : Program} {w : World} {A : Around} {E : Value → Shared → Prop} {s : Shared} {it t : Addr} {i : Nat} {items : Array Value} {x : Value} {Q : Value → Shared → Prop} (hit : s.heap.IsTupleIter it t i)
    (ht : s.heap.IsTuple t items) (hx : items[i]? = some x) (hQ : ∀ h', h'.IsTupleIter it t (i + 1) → Heap.SameBut it s.heap h' → Q x { s with heap := h' }) :
    wpAny (model prog w) A (Builtin.SmallTypes.nextOf (.ref it)) Q E s := by
  obtain ⟨o, ho, hc, hd⟩ := id hit
  obtain ⟨ol, hol, _, nl, hdl⟩ := ht
  unfold Builtin.SmallTypes.nextOf
  refine wpAny_bind (wpAny_callSpecial?_slot (name := Str.ofString "__next__") hit.typeIs PySem.F.slot_tuple_iterator_next
    (wpAny_call_entry PySem.F.slot_tuple_iterator_next hit.typeIs PySem.F.entry_tuple_iterator_next ?_ (PySem.F.args_tuple_iterator_next_1 _)))
  show wpAny _ _ (field (.ref it) 0 >>= _) _ _ s
  refine wpAny_bind (wpAny_field ho hd (x := .ref t) rfl ?_)
  show wpAny _ _ (if (Value.ref t == Value.none) = true then _ else _) _ _ s
  rw [if_neg (show ¬ ((Value.ref t == Value.none) = true) from Bool.false_ne_true)]
  show wpAny _ _ (field (.ref it) 1 >>= _) _ _ s
  refine wpAny_bind (wpAny_field ho hd (x := .int i 0) rfl ?_)
  show wpAny _ _ (seqItems? (.ref t) >>= _) _ _ s
  refine wpAny_bind (wpAny_seqItems hol hdl ?_)
  simp only [Int.toNat_natCast, hx]
  refine wpAny_bind (wpAny_setField ho hd (by simp) (wpAny_pure ⟨x, rfl, wpAny_pure (hQ _ ?_ (Heap.SameBut.update ..))⟩))
  exact ⟨_, Heap.get?_update_self _ ho (Obj.isFreed_of_fields (Obj.data_mapFields hd _)), (Obj.cls_mapFields ..).trans hc, by
    rw [Obj.data_mapFields hd]; simp [rawInt]⟩
theorem nextOf_tuple_end {prog : Program} {w : World} {A : Around} {E : Value → Shared → Prop} {s : Shared} {it t : Addr} {i : Nat} {items : Array Value} {Q : Value → Shared → Prop} (hh : A.handled = none) (hit : s.heap.IsTupleIter it t i)
    (ht : s.heap.IsTuple t items) (hx : items[i]? = none) (hE : ∀ h' e, Heap.ExtBut it s.heap h' → (∃ o, h'.get? e = some o ∧ o.cls = .type "StopIteration") → E (.ref e) { s with heap := h' }) :
    wpAny (model prog w) A (Builtin.SmallTypes.nextOf (.ref it)) Q E s := by
  obtain ⟨o, ho, hc, hd⟩ := id hit
  obtain ⟨ol, hol, _, nl, hdl⟩ := ht
  unfold Builtin.SmallTypes.nextOf
  refine wpAny_bind (wpAny_callSpecial?_slot (name := Str.ofString "__next__") hit.typeIs PySem.F.slot_tuple_iterator_next
    (wpAny_call_entry PySem.F.slot_tuple_iterator_next hit.typeIs PySem.F.entry_tuple_iterator_next ?_ (PySem.F.args_tuple_iterator_next_1 _)))
  show wpAny _ _ (field (.ref it) 0 >>= _) _ _ s
  refine wpAny_bind (wpAny_field ho hd (x := .ref t) rfl ?_)
  show wpAny _ _ (if (Value.ref t == Value.none) = true then _ else _) _ _ s
  rw [if_neg (show ¬ ((Value.ref t == Value.none) = true) from Bool.false_ne_true)]
  show wpAny _ _ (field (.ref it) 1 >>= _) _ _ s
  refine wpAny_bind (wpAny_field ho hd (x := .int i 0) rfl ?_)
  show wpAny _ _ (seqItems? (.ref t) >>= _) _ _ s
  refine wpAny_bind (wpAny_seqItems hol hdl ?_)
  simp only [Int.toNat_natCast, hx]
  refine wpAny_bind (wpAny_rule (wpAny_bind (wpAny_setField ho hd (by simp) ?_)))
  show wpAny _ _ (newExc (.type "StopIteration") [] >>= _) _ _ _
  refine wpAny_bind ?_
  simp only [newExc, newTuple]
  refine wpAny_bind (wpAny_newObj_type ?_ (by size_fits))
  refine wpAny_bind (m := firstArgMember _ _) (wpAny_of_eq (a := Value.none) (by first | rfl | (simp only [firstArgMember]; rfl)) ?_)
  refine wpAny_newObj_type ?_ (by size_fits)
  simp only [raiseNew]
  refine wpAny_bind (wpAny_handled ?_)
  first | rw [show A.in1.handled = none from hh] | rw [hh]
  refine wpAny_bind (wpAny_pure (wpAny_throw ?_))
  exact hE _ _ (((Heap.SameBut.update ..).extBut.push _).push _) ⟨_, Heap.get?_push_size _ rfl, rfl⟩
theorem draws_tuple {prog : Program} {w : World} {A : Around} (hh : A.handled = none) (it l : Addr) (hne : l ≠ it) (items : Array Value) :
    Draws prog w A it [it, l] items.size (fun i v => items[i]? = some v) (fun i h => h.IsTupleIter it l i ∧ h.IsTuple l items) where
  live := fun _ _ st => let ⟨o, ho, _⟩ := st.1; ⟨o, ho⟩
  frame := fun _ _ _ st hk => by
    obtain ⟨⟨o, ho, r⟩, ⟨o2, ho2, r2⟩⟩ := st
    exact ⟨⟨o, hk it (by simp) o ho, r⟩, ⟨o2, hk l (by simp) o2 ho2, r2⟩⟩
  item := fun i s Q E hi st hQ => by
    refine nextOf_tuple_item st.1 st.2 (x := items[i]) (by simp [hi]) fun h' hit' hs' => ?_
    exact hQ _ h' s.toks (by simp [hi]) ⟨hit', st.2.extBut hs'.extBut hne⟩ hs'
  done := fun s Q E st hE => nextOf_tuple_end hh st.1 st.2 (by simp) hE
noncomputable def enumObj (it : Addr) (i : Int) (old : Value) : Obj := { cls := .type "enumerate", dict := none, data := .fields #[.none, .bool false, .ref it, rawInt i, .none, old], slots := #[] }
theorem alloc2 {D : Addr} {x1 x2 : AObj} {h' : Heap} {t : Nat} {d : Drawn} {o1 o2 : Obj} (S : Sim W env outer loc mem R F s) (hD : D = s.heap.objs.size) (hk : ∀ b o, s.heap.get? b = some o → h'.get? b = some o)
    (g1 : h'.get? D = some o1) (g2 : h'.get? (D + 1) = some o2) (r1 : OR W F x1 o1) (r2 : OR W F x2 o2) : mem D = none ∧ mem (D + 1) = none ∧ Sim W env outer loc (mset (mset mem D x1) (D + 1) x2) R F { s with heap := h', toks := t, drawn := d } := by
  subst hD
  have n1 : s.heap.get? s.heap.objs.size = none := get?_size _
  have n2 : s.heap.get? (s.heap.objs.size + 1) = none := get?_ge (Nat.le_succ _)
  obtain ⟨a1, b1⟩ := S.free n1
  obtain ⟨a2, b2⟩ := S.free n2
  obtain ⟨-, p1, q1, u1⟩ := S.z.free_of_none n1
  obtain ⟨-, p2, q2, u2⟩ := S.z.free_of_none n2
  have lo := S.size_le
  refine ⟨a1, a2, ?_⟩
  have Z := S.z
  have ne : s.heap.objs.size ≠ s.heap.objs.size + 1 := (Nat.succ_ne_self _).symm
  have key : ∀ {b}, b ≠ s.heap.objs.size → b ≠ s.heap.objs.size + 1 → mun (mset (mset mem s.heap.objs.size x1) (s.heap.objs.size + 1) x2) R b = mun mem R b := fun {b} h1 h2 => by
    unfold mun; rw [mset_ne h2, mset_ne h1]
  refine ⟨fun b y e => ?_, ?_⟩
  · by_cases h2 : b = s.heap.objs.size + 1
    · rw [h2]; exact b2
    · rw [mset_ne h2] at e
      by_cases h1 : b = s.heap.objs.size
      · rw [h1]; exact b1
      · rw [mset_ne h1] at e; exact S.dis b y e
  · exact {
      frz := fun b o h => hk b o (Z.frz b o h)
      base := Z.base
      memF := fun b o h => by rw [key (fun e => p1 o (e ▸ h)) (fun e => p2 o (e ▸ h))]; exact Z.memF b o h
      memOk := fun b y h => by
        by_cases h2 : b = s.heap.objs.size + 1
        · subst h2; rw [mun_l (mset_self _ _ _)] at h; cases h; exact ⟨o2, g2, r2⟩
        · by_cases h1 : b = s.heap.objs.size
          · subst h1; rw [mun_l (x := x1) (by rw [mset_ne ne, mset_self])] at h; cases h; exact ⟨o1, g1, r1⟩
          · rw [key h1 h2] at h; obtain ⟨o, e, r⟩ := Z.memOk b y h; exact ⟨o, hk b o e, r⟩
      ns := let ⟨m, z, b⟩ := Z.ns; ⟨m, z.keeps hk, b⟩
      nsF := ⟨Z.nsF.1, by rw [key (Ne.symm q1) (Ne.symm q2)]; exact Z.nsF.2⟩
      outs := fun q hq => let ⟨z, b, c, e⟩ := Z.outs q hq; ⟨z.keeps hk, b, by rw [key (u1 q hq) (u2 q hq)]; exact c, e⟩
      low := Z.low
      memLow := fun b y h => by
        by_cases h2 : b = s.heap.objs.size + 1
        · rw [h2]; exact notMod (Nat.le_trans lo (Nat.le_succ _))
        · by_cases h1 : b = s.heap.objs.size
          · rw [h1]; exact notMod lo
          · rw [key h1 h2] at h; exact Z.memLow b y h
      gens := Z.gens
      os := Z.os }
theorem enum_own {a : Addr} {xs : List V} {Q : V → Loc → Mem → Prop} (hm : mem a = some (.list xs)) (h : ∀ e, mem e = none → mem (e + 1) = none → Q (.ref (e + 1)) loc (mset (mset mem e (.iter true 0 (.ref a))) (e + 1) (.raw (enumObj e 0 .none)))) :
    OpV W A env outer (fun vs => call (.type "enumerate") vs) [.ref a] loc mem Q E := op1 fun R F s v S r => by
  cases r.view
  obtain ⟨o, ho, q⟩ := S.memOk _ _ hm
  cases q.view with
  | @list vs n q =>
    refine call_enumerate_1 (items := vs) ho fun h' he hit hsz hk => ?_
    obtain ⟨o', ho', hc, hd⟩ := hit
    obtain ⟨a1, a2, S'⟩ := alloc2 (t := s.toks) (d := s.drawn) S rfl hk ho' he (x1 := .iter true 0 (.ref a)) (x2 := .raw (enumObj s.heap.objs.size 0 .none)) (.iter (.ref a) hc hd) .raw
    exact Post.mk (.ref _) S' (h _ a1 a2)
theorem enum_lst {xs : List V} {Q : V → Loc → Mem → Prop} (h : ∀ e, mem e = none → mem (e + 1) = none → Q (.ref (e + 1)) loc (mset (mset mem e (.iter true 0 (.lst xs))) (e + 1) (.raw (enumObj e 0 .none)))) :
    OpV W A env outer (fun vs => call (.type "enumerate") vs) [.lst xs] loc mem Q E := op1 fun R F s v S r => by
  cases r.view with
  | @lst a vs n fa q =>
    refine call_enumerate_1 (items := vs) (S.frz _ _ fa) fun h' he hit hsz hk => ?_
    obtain ⟨o', ho', hc, hd⟩ := hit
    obtain ⟨a1, a2, S'⟩ := alloc2 (t := s.toks) (d := s.drawn) S rfl hk ho' he (x1 := .iter true 0 (.lst xs)) (x2 := .raw (enumObj s.heap.objs.size 0 .none)) (.iter (.lst fa q) hc hd) .raw
    exact Post.mk (.ref _) S' (h _ a1 a2)
noncomputable def seqNow (x : V) (m : Mem) : Option (List V) := match x with
  | .ref a => (match m a with | some (.list xs) => some xs | _ => none)
  | .tup xs => some xs
  | .lst xs => some xs
  | _ => none
noncomputable def enumItem (x : V) (i : Nat) (m : Mem) : Option (Option V) := (seqNow x m).bind fun xs => if i ≤ xs.length then some (xs[i]?.map fun y => .tup [.int i, y]) else none
theorem cls_no {o o' : Obj} (h : some o = some o') (n : (o.cls == o'.cls) = false) : False := by cases h; rw [show (o.cls == o.cls) = true from beq_self_eq_true _] at n; cases n
inductive SrcOk (mem : Mem) : Bool → V → List V → Prop
  | own {a : Addr} {xs : List V} : mem a = some (.list xs) → SrcOk mem true (.ref a) xs
  | tup (xs : List V) : SrcOk mem false (.tup xs) xs
  | lst (xs : List V) : SrcOk mem true (.lst xs) xs
theorem seqNow_ok {x : V} {m : Mem} {xs : List V} {b : Bool} (h : seqNow x m = some xs) (hb : ∀ ys, x = .tup ys ↔ b = false ∧ x = .tup ys) (hb2 : (∃ a, x = .ref a) ∨ (∃ ys, x = .lst ys) → b = true) : SrcOk m b x xs := by
  unfold seqNow at h
  split at h
  · split at h
    · rename_i a xs' e; cases h; rw [hb2 (.inl ⟨_, rfl⟩)]; exact .own e
    · cases h
  · rename_i ys; cases h; have := (hb xs).mp rfl; rw [this.1]; exact .tup _
  · rename_i ys; cases h; rw [hb2 (.inr ⟨_, rfl⟩)]; exact .lst _
  · cases h
theorem SrcOk.at {b : Bool} {x : V} {xs : List V} {a : Addr} (q : SrcOk mem b x xs) (S : Sim W env outer loc mem R F s) (r : VR W F x (.ref a)) :
    ∃ vs n, s.heap.get? a = some { cls := .type (if b then "list" else "tuple"), data := .seq vs n } ∧ VRs W F xs vs.toList := by
  cases q with
  | own h =>
    cases r.view
    obtain ⟨o, ho, q⟩ := S.memOk _ _ h
    cases q with | list q => exact ⟨_, _, ho, q⟩
  | tup => cases r.view with | tup f q => exact ⟨_, _, S.frz _ _ f, q⟩
  | lst => cases r.view with | lst f q => exact ⟨_, _, S.frz _ _ f, q⟩
theorem SrcOk.fit {b : Bool} {x : V} {xs : List V} (q : SrcOk mem b x xs) : (∀ ys, x = .tup ys ↔ b = false ∧ x = .tup ys) ∧ ((∃ a, x = .ref a) ∨ (∃ ys, x = .lst ys) → b = true) := by
  cases q <;> simp
inductive EnSt (e : Addr) (b : Bool) (x : V) (i : Nat) (R₀ R : Mem) : Prop
  | mk (h1_ : R₀ e = none) (h2_ : R₀ (e + 1) = none) (old : Value) (h3_ : R = mset (mset R₀ e (.iter b i x)) (e + 1) (.raw (enumObj e i old)))
inductive EnAt (W : Wd) (F : Frz) (s : Shared) (e : Addr) (b : Bool) (x : V) (i : Nat) (old : Value) (xs : List V) : Prop
  | mk (h1_ : IsEnum s.heap (e + 1) e i old) (a : Addr) (o : Obj) (vs : Array Value) (n : Nat) (h2_ : s.heap.get? e = some o) (h3_ : o.cls = .type (if b then "list_iterator" else "tuple_iterator")) (h4_ : o.data = .fields #[.ref a, .int i 0]) (h5_ : VR W F x (.ref a))
    (h6_ : s.heap.get? a = some { cls := .type (if b then "list" else "tuple"), data := .seq vs n }) (h7_ : VRs W F xs vs.toList)
theorem enAcc {mem R₀ : Mem} {F : Frz} {s : Shared} {e : Addr} {b : Bool} {x : V} {i : Nat} {old : Value} {xs : List V} (S : Sim W env outer loc mem (mset (mset R₀ e (.iter b i x)) (e + 1) (.raw (enumObj e i old))) F s) (q : SrcOk mem b x xs) : EnAt W F s e b x i old xs := by
  have ne : e ≠ e + 1 := (Nat.succ_ne_self e).symm
  obtain ⟨o1, g1, r1⟩ := S.rawAt (a := e + 1) (mset_self _ _ _)
  cases r1.view
  obtain ⟨o2, g2, r2⟩ := S.rawAt (a := e) (by rw [mset_ne ne, mset_self])
  cases r2.view with
  | iter rx hc hd =>
    obtain ⟨vs, n, ho, rs⟩ := q.at S rx
    exact ⟨g1, _, _, vs, n, g2, hc, hd, rx, ho, rs⟩
theorem enKeep {R₀ : Mem} {e : Addr} {x1 x2 : AObj} {bb : Addr} (h : mset (mset R₀ e x1) (e + 1) x2 bb = none) : bb ≠ e + 1 ∧ bb ≠ e := by
  constructor
  · intro q; rw [q, mset_self] at h; cases h
  · intro q; rw [q, mset_ne (Nat.succ_ne_self e).symm, mset_self] at h; cases h
theorem itr_enum {elts : List PySem.Expr} {kk : Nat} {pos : Pos} {e : Addr} {b : Bool} {x : V} {xs : List V} (hh : A.handled = none) (q0 : SrcOk mem b x xs) (h1 : mem e = none) (h2 : mem (e + 1) = none) :
    Itr W A (.Tuple elts kk pos) (.ref (e + 1)) (mset (mset mem e (.iter b 0 x)) (e + 1) (.raw (enumObj e 0 .none))) mem (enumItem x) := by
  obtain ⟨fit1, fit2⟩ := q0.fit
  have ne : e ≠ e + 1 := (Nat.succ_ne_self e).symm
  intro env outer loc R F₀ s x' E S r
  cases r.view
  have n2 : mset mem e (.iter b 0 x) (e + 1) = none := by rw [mset_ne (Ne.symm ne)]; exact h2
  obtain ⟨oe, hoe, re⟩ := S.memOk (e + 1) _ (mset_self _ _ _)
  cases re.view
  have hR2 : R (e + 1) = none := S.dis (e + 1) _ (mset_self _ _ _)
  have hR1 : R e = none := S.dis e (.iter b 0 x) (by rw [mset_ne ne, mset_self])
  have S1 := S.toR n2
  have S2 := S1.toR h1
  have S3 : Sim W env outer loc mem (mset (mset R e (.iter b 0 x)) (e + 1) (.raw (enumObj e 0 .none))) F₀ s := by
    rw [mset_comm ne]; exact S2
  refine wpAny_pyIter_enum (it := e) (i := 0) (old := .none) hoe ⟨EnSt e b x, _, ?_, ⟨hR1, hR2, .none, rfl⟩, S3⟩
  refine {
    next := ?_
    done := ?_
    self := ?_
    frame := ?_
    same := ?_
    off := ?_ }
  · rintro i env outer loc mem R₀ R F s v E ic ⟨n1, n2, old, rfl⟩ hi S
    unfold enumItem at hi
    cases hs : seqNow x mem with
    | none => rw [hs] at hi; cases hi
    | some ys =>
      rw [hs] at hi
      cases hy : ys[i]? with
      | none => simp only [Option.bind_some, hy, Option.map_none] at hi; split at hi <;> cases hi
      | some y =>
        simp only [Option.bind_some, hy, Option.map_some] at hi
        split at hi
        case isFalse => cases hi
        rename_i hle
        have hi : V.tup [.int i, y] = v := by cases hi; rfl
        subst hi
        have q := seqNow_ok hs fit1 fit2
        obtain ⟨he, a, o, vs, n, g2, hc, hd, rx, ho, rs⟩ := enAcc S q
        obtain ⟨u, hu, ru⟩ := rs.getA hy
        have hlt : i < vs.size := by rw [Array.getElem?_eq_some_iff] at hu; exact hu.1
        have fin : ∀ h' tk, IsEnumOut h' (e + 1) e ((i : Int) + 1) u s.heap.objs.size → (∃ o', h'.get? e = some o' ∧ o'.cls = .type (if b then "list_iterator" else "tuple_iterator") ∧ o'.data = .fields #[.ref a, .int ((i + 1 : Nat) : Int) 0]) →
            h'.get? s.heap.objs.size = some { cls := .type "tuple", data := .seq #[.int i tk, u] } → (∀ b o, b ≠ e + 1 → b ≠ e → s.heap.get? b = some o → h'.get? b = some o) →
            wpAny (model W.prog W.w) A (letOwnedTupleGo (.Tuple elts kk pos) (.ref (e + 1)) (.ref s.heap.objs.size)) (fun _ s2 => FedI W env outer loc mem R₀ F (EnSt e b x) (i + 1) (.tup [.int i, y]) (.ref s.heap.objs.size) s2) E { s with heap := h', toks := tk + 1 } := fun h' tk hout hit htup hk => by
          refine wpAny_letOwnedTupleGo_enum hout fun h2 hen hsb => ?_
          obtain ⟨o', ho', hc', hd'⟩ := hit
          have z := S.z.free_of_none (get?_size s.heap)
          have sz1 : s.heap.objs.size ≠ e + 1 := fun q => by have := Heap.lt_size he; rw [← q] at this; exact Nat.lt_irrefl _ this
          have sz2 : s.heap.objs.size ≠ e := fun q => by have := Heap.lt_size g2; rw [← q] at this; exact Nat.lt_irrefl _ this
          have S' := S.reR (R' := mset (mset R₀ e (.iter b (i + 1) x)) (e + 1) (.raw (enumObj e (i + 1 : Nat) u))) (h' := h2) (t := tk + 1) (d := s.drawn) (fun bb hbb => by
              obtain ⟨c1, c2⟩ := enKeep hbb
              rw [mset_ne c1, mset_ne c2] at hbb ⊢; exact hbb) (fun bb xx hbb => by
              by_cases c1 : bb = e + 1
              · subst c1; rw [mset_self] at hbb; cases hbb; exact ⟨_, by exact_mod_cast hen, .raw⟩
              · rw [mset_ne c1] at hbb
                by_cases c2 : bb = e
                · subst c2; rw [mset_self] at hbb; cases hbb; exact ⟨o', (hsb.2 _ c1).trans ho', .iter rx hc' hd'⟩
                · rw [mset_ne c2] at hbb
                  obtain ⟨ob, hob, rb⟩ := S.rawAt (a := bb) (x := xx) (by rw [mset_ne c1, mset_ne c2]; exact hbb)
                  exact ⟨ob, (hsb.2 _ c1).trans (hk _ _ c1 c2 hob), rb⟩) (fun bb ob hob hbb => by
              obtain ⟨c1, c2⟩ := enKeep hbb
              exact (hsb.2 _ c1).trans (hk _ _ c1 c2 hob))
          have hTup : h2.get? s.heap.objs.size = some { cls := .type "tuple", data := .seq #[.int i tk, u] } := (hsb.2 _ sz1).trans htup
          have S'' := S'.adopt (a := s.heap.objs.size) (by
            have := z.1
            obtain ⟨c1, c2⟩ := mun_none this
            rw [mun_r c1]
            rw [mset_ne sz1, mset_ne sz2] at c2 ⊢
            exact c2) z.2.1 z.2.2.1 z.2.2.2 hTup
          exact ⟨_, _, Incl.fadd _ _ _, .tup (.inr ⟨rfl, rfl⟩) (.cons (.int _ _) (.cons (ru.mono (Incl.fadd _ _ _)) .nil)), ⟨n1, n2, u, rfl⟩, S''⟩
        cases b with
        | true =>
          have hane : a ≠ e := fun q => by rw [q, g2] at ho; exact cls_no ho (by rw [hc]; rfl)
          refine wpAny_pyNext_enum_itemD (Draws.list (A := A.in1) hh e a hane vs) he ⟨⟨o, g2, hc, hd⟩, ⟨_, ho, rfl, n, rfl⟩⟩ hlt (Ne.symm ne) (by simp only [List.mem_cons, List.not_mem_nil, or_false, not_or]; exact ⟨Ne.symm ne, fun q => by rw [← q, he] at ho; exact cls_no ho (by rfl)⟩) fun x2 h' tk hx2 hout hst htup hsz hk => ?_
          rw [hu] at hx2; cases hx2
          exact ⟨_, rfl, fin h' tk hout hst.1 htup hk⟩
        | false =>
          have hane : a ≠ e := fun q => by rw [q, g2] at ho; exact cls_no ho (by rw [hc]; rfl)
          refine wpAny_pyNext_enum_itemD (draws_tuple (A := A.in1) hh e a hane vs) he ⟨⟨o, g2, hc, hd⟩, ⟨_, ho, rfl, n, rfl⟩⟩ hlt (Ne.symm ne) (by simp only [List.mem_cons, List.not_mem_nil, or_false, not_or]; exact ⟨Ne.symm ne, fun q => by rw [← q, he] at ho; exact cls_no ho (by rfl)⟩) fun x2 h' tk hx2 hout hst htup hsz hk => ?_
          rw [hu] at hx2; cases hx2
          exact ⟨_, rfl, fin h' tk hout hst.1 htup hk⟩
  · rintro i env outer loc mem R₀ R F s E ic ⟨n1, n2, old, rfl⟩ hi S
    unfold enumItem at hi
    cases hs : seqNow x mem with
    | none => rw [hs] at hi; cases hi
    | some ys =>
      rw [hs] at hi
      have hy : ys[i]? = none := by
        cases hy : ys[i]? with
        | none => rfl
        | some y => simp only [Option.bind_some, hy, Option.map_some] at hi; split at hi <;> cases hi
      have hle : i ≤ ys.length := by
        simp only [Option.bind_some] at hi
        split at hi
        · assumption
        · cases hi
      have q := seqNow_ok hs fit1 fit2
      obtain ⟨he, a, o, vs, n, g2, hc, hd, rx, ho, rs⟩ := enAcc S q
      have hv := rs.getN hy
      have fin : ∀ h', Heap.ExtBut e s.heap h' → Sim W env outer loc mem R₀ F { s with heap := h' } := fun h' eb => by
        refine S.reR (R' := R₀) (t := s.toks) (d := s.drawn) (fun bb hbb => ?_) (fun bb xx hbb => ?_) (fun bb ob hob hbb => ?_)
        · obtain ⟨c1, c2⟩ := enKeep hbb
          rw [mset_ne c1, mset_ne c2] at hbb; exact hbb
        · have c1 : bb ≠ e + 1 := fun q => by rw [q, n2] at hbb; cases hbb
          have c2 : bb ≠ e := fun q => by rw [q, n1] at hbb; cases hbb
          obtain ⟨ob, hob, rb⟩ := S.rawAt (a := bb) (x := xx) (by rw [mset_ne c1, mset_ne c2]; exact hbb)
          exact ⟨ob, eb _ _ c2 hob, rb⟩
        · obtain ⟨c1, c2⟩ := enKeep hbb
          exact eb _ _ c2 hob
      have hi2 : i = vs.size := by
        rw [Array.getElem?_eq_none_iff] at hv
        have := rs.size; omega
      subst hi2
      cases b with
      | true =>
        have hane : a ≠ e := fun q => by rw [q, g2] at ho; exact cls_no ho (by rw [hc]; rfl)
        exact wpAny_pyNext_enum_endD (Draws.list (A := A.in1) hh e a hane vs) he ⟨⟨o, g2, hc, hd⟩, ⟨_, ho, rfl, n, rfl⟩⟩ fun h' eb => ⟨rfl, fin h' eb⟩
      | false =>
        have hane : a ≠ e := fun q => by rw [q, g2] at ho; exact cls_no ho (by rw [hc]; rfl)
        exact wpAny_pyNext_enum_endD (draws_tuple (A := A.in1) hh e a hane vs) he ⟨⟨o, g2, hc, hd⟩, ⟨_, ho, rfl, n, rfl⟩⟩ fun h' eb => ⟨rfl, fin h' eb⟩
  · rintro i env outer loc mem R₀ R F s E Q ⟨n1, n2, old, rfl⟩ S h
    obtain ⟨o1, g1, r1⟩ := S.rawAt (a := e + 1) (mset_self _ _ _)
    cases r1.view
    exact wpAny_pyIter_enum (it := e) (i := i) (old := old) g1 h
  · rintro i R₀ R D xx ⟨n1, n2, old, rfl⟩ hD
    have d1 : D ≠ e + 1 := fun q => by rw [q, mset_self, n2] at hD; cases hD
    have d2 : D ≠ e := fun q => by rw [q, mset_ne ne, mset_self, n1] at hD; cases hD
    refine ⟨by rw [mset_ne (Ne.symm d2)]; exact n1, by rw [mset_ne (Ne.symm d1)]; exact n2, old, ?_⟩
    rw [mset_comm (Ne.symm d1), mset_comm (Ne.symm d2)]
  · rintro i R₀ R D ⟨n1, n2, old, rfl⟩ hD
    rw [mset_ne (fun q : D = e + 1 => hD (by rw [q]; exact n2)), mset_ne (fun q : D = e => hD (by rw [q]; exact n1))]
  · rintro i env outer loc mem R₀ R F s ⟨n1, n2, old, rfl⟩ S
    exact (S.offR (by rw [mset_ne (Ne.symm ne)]; exact n2)).offR n1
end
end Mine
end
section
set_option autoImplicit false
namespace Mine
structure Calm (A : Around) (d u : Nat) : Prop where
  handled : A.handled = none
  guards : A.guards = some []
  depth : A.depth ≤ d
  units : A.units ≤ u
theorem Calm.mono {A : Around} {d u d' u' : Nat} (c : Calm A d u) (h1 : d ≤ d') (h2 : u ≤ u') : Calm A d' u' := ⟨c.handled, c.guards, Nat.le_trans c.depth h1, Nat.le_trans c.units h2⟩
theorem Calm.deeper {A : Around} {d u : Nat} (c : Calm A d u) (env : Env) : Calm (A.deeper env) (d + 1) (u + 3) := ⟨c.handled, c.guards, Nat.succ_le_succ c.depth, Nat.add_le_add_right c.units 3⟩
noncomputable def strIn (sub x : Str) : Bool := !(Builtin.Str.occurrences x sub 0 x.length 1).isEmpty
section
variable {W : Wd} {A : Around} {env : Env} {outer : Outs} {loc : Loc} {mem R : Mem} {E : Ex W} {F : Frz} {s : Shared}
noncomputable def Asg (W : Wd) (A : Around) (env : Env) (outer : Outs) (t : PySem.Expr) (v : V) (loc : Loc) (mem : Mem) (Q : Loc → Mem → Prop) (E : Ex W) : Prop :=
  Op W A env outer (fun _ (_ _ : Unit) => True) (fun | [y] => assign t env y | _ => pure ()) [v] loc mem (fun _ => Q) E
noncomputable def AsgAll (W : Wd) (A : Around) (env : Env) (outer : Outs) : List PySem.Expr → List V → Loc → Mem → (Loc → Mem → Prop) → Ex W → Prop
  | [], _, loc, mem, Q, _ => Q loc mem
  | _ :: _, [], loc, mem, Q, _ => Q loc mem
  | t :: ts, x :: xs, loc, mem, Q, E => Asg W A env outer t x loc mem (fun l m => AsgAll W A env outer ts xs l m Q E) E
theorem AsgAll.run : ∀ {ts : List PySem.Expr} {xs : List V} {loc : Loc} {mem : Mem} {Q : Loc → Mem → Prop} {F : Frz} {s : Shared} {vs : List Value}, AsgAll W A env outer ts xs loc mem Q E → Sim W env outer loc mem R F s → VRs W F xs vs →
    wpAny (model W.prog W.w) A (assignInOrder (ts.map fun e => assign e env) vs) (Post W env outer (fun _ (_ _ : Unit) => True) R F (fun _ => Q)) (E.p R F) s
  | [], _, _, _, _, _, _, _, h, S, _ => wpAny_pure (Post.mk (x := ()) trivial S h)
  | _ :: _, [], _, _, _, _, _, _, h, S, .nil => wpAny_pure (Post.mk (x := ()) trivial S h)
  | t :: ts, x :: xs, _, _, _, F, _, _, h, S, .cons (vs := vs) r1 r2 => by
    show wpAny _ A (do holding vs (assign t env _); assignInOrder (ts.map fun e => assign e env) vs) _ _ _
    refine wpAny_bind (wpAny_holding (after (RW := fun _ (_ _ : Unit) => True) (Q := fun _ _ _ => True) (h R F _ [_] S (.cons r1 .nil)) fun _ s2 F2 _ l2 m2 i2 _ S2 h2 => ?_))
    exact wpAny_mono (AsgAll.run h2 S2 (r2.mono i2)) (fun _ _ p => p.weaken i2) fun _ _ e => E.up i2 e
theorem asg_name {x : Str} {pos : Pos} {v : V} {Q : Loc → Mem → Prop} (h : Op W A env outer (fun _ (_ _ : Unit) => True) (fun | [y] => storeName env x y | _ => pure ()) [v] loc mem (fun _ => Q) E) :
    Asg W A env outer (.Name x pos) v loc mem Q E := op1 fun R F s v' S r => wpAny_assign_Name (h R F s [v'] S (.cons r .nil))
theorem asg_tuple {elts : List PySem.Expr} {k : Nat} {pos : Pos} {xs : List V} {Q : Loc → Mem → Prop} (hh : A.handled = none) (hE : assignEach elts env = elts.map fun e => (false, assign e env)) (hn : elts.length = xs.length)
    (h : AsgAll W A env outer elts xs loc mem Q E) : Asg W A env outer (.Tuple elts k pos) (.tup xs) loc mem Q E := op1 fun R F s v' S r => by
  cases r.view with
  | @tup a vs n fa q =>
    refine assign_Tuple_tuple (items := vs) hh ⟨_, S.frz _ _ fa, rfl, n, rfl⟩ (by rw [hE, List.length_map, q.size, hn]) (by
      rw [hE]
      have : ∀ l : List PySem.Expr, (l.map fun e => (false, assign e env)).findIdx? (·.1) = none := fun l => by
        rw [List.findIdx?_eq_none_iff]; intro x hx; obtain ⟨e, _, rfl⟩ := List.mem_map.mp hx; rfl
      exact this _) fun h' eb => ?_
    rw [hE, List.map_map]
    exact AsgAll.run h (S.grow (t := s.toks) (d := s.drawn) fun b o e => eb b o (fun q => by have := Heap.lt_size e; rw [q] at this; exact Nat.lt_irrefl _ this) e) q
theorem in_ss {a b : Str} {Q : V → Loc → Mem → Prop} (h : Q (.bool (strIn a b)) loc mem) : OpV W A env outer (fun | [x, y] => compareOp .In x y | _ => pure .none) [.str a, .str b] loc mem Q E := op2 fun R F s v u S r1 r2 => by
  cases r1.view; cases r2.view; exact PyProof.Rows.in_str (Post.mk (.bool _) S h)
theorem getItem_s {x : Str} {i : Int} {c : Nat} {Q : V → Loc → Mem → Prop} (hr : (decide (i < -(2 ^ 63 : Int)) || decide (i ≥ 2 ^ 63)) = false) (hc : (seqIndex? i x.length).bind (x.cps[·]?) = some c) (h : Q (.str ⟨#[c]⟩) loc mem) :
    OpV W A env outer (fun | [x, y] => getItem x y | _ => pure .none) [.str x, .int i] loc mem Q E := op2 fun R F s v u S r1 r2 => by
  cases r1.view; cases r2.view; exact PyProof.Rows.getItem_str hr hc (Post.mk (.str _ _) S.tick h)
theorem len_s {x : Str} {Q : V → Loc → Mem → Prop} (hz : (x.length : Int) < 2 ^ 63) (h : Q (.int x.length) loc mem) : OpV W A env outer (fun vs => call (.builtin "len") vs) [.str x] loc mem Q E := op1 fun R F s v S r => by
  cases r.view; exact P.len_str (by omega) (Post.mk (.int _ _) S.tick h)
theorem tr_str {x : Str} {Q : Bool → Loc → Mem → Prop} (hz : (x.length : Int) < 2 ^ 63) (h : Q ((x.length : Int) != 0) loc mem) : OpB W A env outer (fun | [x] => truthy x | _ => pure false) [.str x] loc mem Q E := op1 fun R F s v S r => by
  cases r.view; exact P.truthy_str (by omega) (Post.mk rfl S.tick h)
theorem tr_none {Q : Bool → Loc → Mem → Prop} (h : Q false loc mem) : OpB W A env outer (fun | [x] => truthy x | _ => pure false) [.none] loc mem Q E := op1 fun R F s v S r => by
  cases r.view; exact PyProof.Rows.truthy_none (Post.mk rfl S h)
theorem tr_tup {xs : List V} {Q : Bool → Loc → Mem → Prop} (hz : (xs.length : Int) < 2 ^ 63) (h : Q (!xs.isEmpty) loc mem) : OpB W A env outer (fun | [x] => truthy x | _ => pure false) [.tup xs] loc mem Q E := op1 fun R F s v S r => by
  cases r.view with
  | @tup a vs n fa q =>
    have hs := q.size
    exact PyProof.Rows.truthy_tuple (items := vs) ⟨_, S.frz _ _ fa, rfl, n, rfl⟩ (by rw [hs]; exact hz) (Post.mk (by rw [Array.isEmpty, hs]; cases xs <;> simp) S.tick h)
theorem VRs.strs : ∀ {ys : List Str} {vs : List Value}, VRs W F (ys.map .str) vs → StrsAre vs ys
  | [], _, .nil => .nil
  | y :: ys, _, .cons r1 r2 => by cases r1.view; exact .cons y _ (VRs.strs r2)
theorem VRs.ofStrs : ∀ {ys : List Str} {vs : List Value}, StrsAre vs ys → VRs W F (ys.map .str) vs
  | [], _, .nil => .nil
  | y :: ys, _, .cons _ t r => .cons (.str y t) (VRs.ofStrs r)
theorem join_tup {x : Str} {ys : List Str} {Q : V → Loc → Mem → Prop} (hs : x.length ≤ 16) (hw : (ys.map (·.length)).sum + ys.length ≤ 1048576) (h : Q (.str (Txt.join x ys)) loc mem) :
    OpV W A env outer (fun vs => call (.builtin "str.join") vs) [.str x, .tup (ys.map .str)] loc mem Q E := op2 fun R F s v u S r1 r2 => by
  cases r1.view
  cases r2.view with
  | @tup a vs n fa q => exact join_tupleW (items := vs) ⟨_, S.frz _ _ fa, rfl, n, rfl⟩ q.strs hs hw fun t' k => Post.mk (.str _ _) S.tick h
theorem VRs.bools : ∀ {bs : List Bool} {vs : List Value}, VRs W F (bs.map .bool) vs → vs = bs.map .bool
  | [], _, .nil => rfl
  | b :: bs, _, .cons r1 r2 => by cases r1.view; rw [VRs.bools r2]; rfl
theorem all_bools {v : V} {bs : List Bool} {Q : V → Loc → Mem → Prop} (hh : A.handled = none) (q : Sq mem v "list" (bs.map .bool)) (h : Q (.bool (bs.all id)) loc mem) :
    OpV W A env outer (fun vs => call (.builtin "all") vs) [v] loc mem Q E := op1 fun R F s v' S r => by
  obtain ⟨a, vs, n, rfl, ho, rs⟩ := q.at S r
  have e := rs.bools
  refine call_all_walk (wpAny_pyIter_list (items := vs) ⟨_, ho, rfl, n, rfl⟩ ?_)
  have hne : a ≠ s.heap.objs.size := fun q => by have := Heap.lt_size ho; rw [q] at this; exact Nat.lt_irrefl _ this
  have hv : ∀ i, vs[i]? = (bs[i]?).map Value.bool := fun i => by rw [← Array.getElem?_toList, e, List.getElem?_map]
  have hsz : vs.size = bs.length := by rw [← Array.length_toList, e, List.length_map]
  refine ⟨_, _, _, _, _, _, fun i => (bs[i]?).getD false, rfl, Walks.list (A := A.in1) hh s.heap.objs.size a hne vs, ⟨⟨_, Heap.get?_push_size _ rfl, rfl, rfl⟩, ⟨_, Heap.get?_push_of_some _ ho, rfl, n, rfl⟩⟩, fun i v s Q E hP hQ => ?_, fun h' tk hk => ?_⟩
  · have hP' : vs[i]? = some v := hP
    rw [hv i] at hP'
    cases hb : bs[i]? with
    | none => rw [hb] at hP'; cases hP'
    | some b =>
      rw [hb] at hP'
      cases hP'
      refine wpAny_truthy_bool ?_
      simp only [hb, Option.getD_some] at hQ
      exact hQ
  · have S' := (S.grow (t := s.toks) (d := s.drawn) (h' := s.heap.push { cls := .type "list_iterator", data := .fields #[.ref a, .int 0 0] }) fun b o e => Heap.get?_push_of_some _ e)
    have S2 := S.grow (t := tk) (d := s.drawn) (h' := h') fun b o e => hk b o (by
      intro hb
      have := Heap.lt_size e
      simp only [List.mem_cons, List.not_mem_nil, or_false] at hb
      rw [hb] at this
      exact Nat.lt_irrefl _ this) (Heap.get?_push_of_some _ e)
    refine Post.mk (.bool _) S2 ?_
    have : (List.range vs.size).all (fun i => (bs[i]?).getD false) = bs.all id := by
      rw [hsz]
      rw [Bool.eq_iff_iff, List.all_eq_true, List.all_eq_true]
      constructor
      · intro hx x hx2
        obtain ⟨i, hi, rfl⟩ := List.mem_iff_getElem.mp hx2
        have := hx i (List.mem_range.mpr hi)
        simpa [List.getElem?_eq_getElem hi] using this
      · intro hx i hi
        have hi := List.mem_range.mp hi
        simpa [List.getElem?_eq_getElem hi] using hx _ (List.getElem_mem hi)
    show Q (.bool _) loc mem
    rw [this]; exact h
theorem sorted_strs {v : V} {ss : List Str} {Q : V → Loc → Mem → Prop} (q : Sq mem v "list" (ss.map .str)) (hz : ss.length < 64) (h : ∀ a ss', mem a = none → ss'.Perm ss → sortedS ss' = true → Q (.ref a) loc (mset mem a (.list (ss'.map .str)))) :
    OpV W A env outer (fun vs => call (.builtin "sorted") vs) [v] loc mem Q E := op1 fun R F s v' S r => by
  obtain ⟨a, vs, n, rfl, ho, rs⟩ := q.at S r
  obtain ⟨m, hn, l⟩ := S.ns
  obtain ⟨vl, rfl⟩ : ∃ l, vs = List.toArray l := ⟨vs.toList, by simp⟩
  have rs' : VRs W F (ss.map .str) vl := by simpa using rs
  refine sorted_N_str (S.fr hn) S.newsL ⟨_, ho, rfl, n, rfl⟩ rs'.strs (by rw [rs'.length, List.length_map]; exact hz) fun h' vs' ss' e F' N' hS' hp hs => ?_
  have S1 := S.keepN (t := s.toks) (d := s.drawn) l F' fun p hp => (N' p (.tail _ hp)).1
  have hD := (N' _ (.head _)).1
  have fr : s.heap.get? (s.heap.objs.size + 1) = none := get?_ge (Nat.le_succ _)
  obtain ⟨f1, f2⟩ := S.free fr
  have nd := S.z.free_of_none fr
  have o1 : OR W F (.list (ss'.map .str)) (seqObj "list" vs'.toArray e) := .list (by simpa using VRs.ofStrs hS')
  have S2 : Sim W env outer loc (mset mem (s.heap.objs.size + 1) (.list (ss'.map .str))) R F { s with heap := h' } := by
    have Z := S1.z
    have key : ∀ {b}, b ≠ s.heap.objs.size + 1 → mun (mset mem (s.heap.objs.size + 1) (.list (ss'.map .str))) R b = mun mem R b := fun {b} h2 => by unfold mun; rw [mset_ne h2]
    refine ⟨fun b y e => ?_, ?_⟩
    · by_cases h2 : b = s.heap.objs.size + 1
      · rw [h2]; exact f2
      · rw [mset_ne h2] at e; exact S.dis b y e
    · exact {
        frz := Z.frz
        base := Z.base
        memF := fun b o h => by rw [key (fun e => nd.2.1 o (e ▸ h))]; exact Z.memF b o h
        memOk := fun b y h => by
          by_cases h2 : b = s.heap.objs.size + 1
          · subst h2; rw [mun_l (mset_self _ _ _)] at h; cases h; exact ⟨_, hD, o1⟩
          · rw [key h2] at h; exact Z.memOk b y h
        ns := Z.ns
        nsF := ⟨Z.nsF.1, by rw [key (Ne.symm nd.2.2.1)]; exact Z.nsF.2⟩
        outs := fun q hq => let ⟨z, b, c, e⟩ := Z.outs q hq; ⟨z, b, by rw [key (nd.2.2.2 q hq)]; exact c, e⟩
        low := Z.low
        memLow := fun b y h => by
          by_cases h2 : b = s.heap.objs.size + 1
          · rw [h2]; exact notMod (Nat.le_trans S.size_le (Nat.le_succ _))
          · rw [key h2] at h; exact Z.memLow b y h
        gens := Z.gens
        os := Z.os }
  exact Post.mk (.ref _) S2 (h _ ss' f1 hp hs)
end
end Mine
end
section
set_option autoImplicit false
namespace Mine
section
variable {W : Wd} {A : Around} {env : Env} {outer : Outs} {loc : Loc} {mem R : Mem} {E : Ex W} {F : Frz} {s : Shared}
noncomputable def onlyL (k : Str → Option NameKind) (bs : List (Str × V)) : Loc := (bs.filter fun p => k p.1 = some .local).reverse
noncomputable def onlyC (k : Str → Option NameKind) (bs : List (Str × V)) : Loc := (bs.filter fun p => ¬ k p.1 = some .local).reverse
theorem lookup_append' {β : Type} (y : Str) : ∀ (xs ys : List (Str × β)), (xs ++ ys).lookup y = (xs.lookup y).or (ys.lookup y)
  | [], ys => by simp [List.lookup]
  | (a, b) :: xs, ys => by
    rw [List.cons_append, List.lookup_cons, List.lookup_cons]
    split
    · rfl
    · exact lookup_append' y xs ys
theorem bindL_eq (k : Str → Option NameKind) : ∀ (bv : List (Str × Value)) (m : Str → Option Value) (y : Str), bindL k bv m y = ((bv.filter fun p => k p.1 = some .local).reverse.lookup y).or (m y)
  | [], m, y => rfl
  | (n, v) :: r, m, y => by
    unfold bindL
    rw [bindL_eq k r]
    by_cases h : k n = some .local
    · rw [if_pos h, List.filter_cons_of_pos (by simpa using h), List.reverse_cons, lookup_append', Option.or_assoc]
      congr 1
      by_cases e : y = n
      · subst e; simp [List.lookup]
      · have : (y == n) = false := by simpa using e
        simp [List.lookup, this, e]
    · rw [if_neg h, List.filter_cons_of_neg (by simpa using h)]
theorem bindC_eq (k : Str → Option NameKind) : ∀ (bv : List (Str × Value)) (m : Str → Option Value) (y : Str), bindC k bv m y = ((bv.filter fun p => ¬ k p.1 = some .local).reverse.lookup y).or (m y)
  | [], m, y => rfl
  | (n, v) :: r, m, y => by
    unfold bindC
    rw [bindC_eq k r]
    by_cases h : k n = some .local
    · rw [if_pos h, List.filter_cons_of_neg (by simpa using h)]
    · rw [if_neg h, List.filter_cons_of_pos (by simpa using h), List.reverse_cons, lookup_append', Option.or_assoc]
      congr 1
      by_cases e : y = n
      · subst e; simp [List.lookup]
      · have : (y == n) = false := by simpa using e
        simp [List.lookup, this, e]
theorem VRp.filter {es : List (Str × V)} {kvs : List (Str × Value)} (r : VRp W F es kvs) (p : Str → Bool) : VRp W F (es.filter fun e => p e.1) (kvs.filter fun e => p e.1) := by
  induction es generalizing kvs with
  | nil => cases r.view; exact .nil
  | cons e es ih =>
    cases r with
    | @cons k x v xs vs r1 r2 =>
      cases h : p k with
      | true => rw [List.filter_cons_of_pos (by simpa using h), List.filter_cons_of_pos (by simpa using h)]; exact .cons r1 (ih r2)
      | false => rw [List.filter_cons_of_neg (by simp [h]), List.filter_cons_of_neg (by simp [h])]; exact ih r2
theorem VRp.lookup {es : List (Str × V)} {kvs : List (Str × Value)} (r : VRp W F es kvs) (x : Str) : (∀ v, es.lookup x = some v → ∃ v', kvs.lookup x = some v' ∧ VR W F v v') ∧ (es.lookup x = none → kvs.lookup x = none) := by
  induction es generalizing kvs with
  | nil => cases r.view; exact ⟨fun v h => (nomatch h), fun _ => rfl⟩
  | cons e es ih =>
    cases r with
    | @cons k y v xs vs r1 r2 =>
      rw [List.lookup_cons, List.lookup_cons]
      split
      · exact ⟨fun v h => by cases h; exact ⟨_, rfl, r1⟩, fun h => (nomatch h)⟩
      · exact ih r2
noncomputable def layC (f : Str → Option V) : List (Str × Addr) → Mem → Mem
  | [], m => m
  | (n, c) :: r, m => mset (layC f r m) c (.cell (f n))
theorem layC_off {f : Str → Option V} : ∀ {cs : List (Str × Addr)} {m : Mem} {a : Addr}, (∀ p ∈ cs, p.2 ≠ a) → layC f cs m a = m a
  | [], _, _, _ => rfl
  | (n, c) :: r, m, a, h => by
    unfold layC
    rw [mset_ne (Ne.symm (h (n, c) (.head _))), layC_off fun p hp => h p (.tail _ hp)]
theorem layC_at {f : Str → Option V} : ∀ {cs : List (Str × Addr)} {m : Mem} {a : Addr} {x : AObj}, layC f cs m a = some x → (∃ n, (n, a) ∈ cs ∧ x = .cell (f n)) ∨ ((∀ p ∈ cs, p.2 ≠ a) ∧ m a = some x)
  | [], _, _, _, h => .inr ⟨fun p hp => (nomatch hp), h⟩
  | (n, c) :: r, m, a, x, h => by
    unfold layC at h
    by_cases e : a = c
    · subst e; rw [mset_self] at h; cases h; exact .inl ⟨n, .head _, rfl⟩
    · rw [mset_ne e] at h
      rcases layC_at h with ⟨n', hm, hx⟩ | ⟨h1, h2⟩
      · exact .inl ⟨n', .tail _ hm, hx⟩
      · refine .inr ⟨fun p hp => ?_, h2⟩
        rcases List.mem_cons.mp hp with rfl | hp
        · exact Ne.symm e
        · exact h1 p hp
noncomputable def envC (qual : Str) (scope : Scope) (L f : Addr) (cdv : Value) : Env := newEnv scope L mainGlobals (cellsFrom (L + 1) scope.names []) (qual ++ ".<locals>.") (some f) cdv none builtinsNs
noncomputable def BodyC (W : Wd) (A : Around) (env : Env) (outer : Outs) (qual : Str) (scope : Scope) (body : List Stmt) (cdv : Value) (f : Addr) (bs : List (Str × V)) (mem : Mem) (Q : V → Mem → Prop) (E : Ex W) : Prop :=
  ∀ (L : Addr) (m0 : Str → Option Value), (∀ p ∈ cellsFrom (L + 1) scope.names [], mem p.2 = none) → mem L = none →
    TrS W (A.deeper (envC qual scope L f cdv)) (envC qual scope L f cdv) ((env.locals, m0) :: outer) (execs body (envC qual scope L f cdv)) (onlyL (fun n => scope.names.lookup n) bs)
      (layC (fun n => (onlyC (fun n => scope.names.lookup n) bs).lookup n) (cellsFrom (L + 1) scope.names []) mem) (fun fl _ m => ∃ m', (∀ a x, m' a = some x → m a = some x) ∧ Q (retOf fl) m') (LeaveE W A (envC qual scope L f cdv) E)
theorem code_fnC {name qual : Str} {params : Arguments} {body : List Stmt} {scope : Scope} {dV kV doc pm cdv ct : Value} {an : Option Addr} {fo : Obj} {f : Addr} {vals : List Value} {bs : List (Str × V)} {bv : List (Str × Value)} {Q : V → Mem → Prop} {Rz : Result → Shared → Prop}
    (S : Sim W env outer loc mem R F s) (ho : s.heap.get? f = some fo) (hd : fo.data = .func (fnX name qual params body scope [] dV kV doc pm an cdv ct)) (hcd : s.heap.CodeRec cdv qual) (hroom : A.depth < recursionLimit)
    (hbind : bindArgs (fnX name qual params body scope [] dV kV doc pm an cdv ct) ⟨vals, []⟩ = pure bv) (rb : VRp W F bs bv)
    (hk : scope.kind = .function) (hco : scope.isCoroutine = false) (hgen : scope.isGenerator = false)
    (hkind : ∀ x ∈ bs, scope.names.lookup x.1 = some .local ∨ (scope.names.lookup x.1 = some .cell ∧ ∀ n, ((cellsFrom n scope.names []).lookup x.1).isSome = true))
    (hnd : ∀ k, ∀ p ∈ cellsFrom k scope.names [], (cellsFrom k scope.names []).lookup p.1 = some p.2)
    (E' : Ex W) (hE : ∀ e s', E'.p R F e s' → Rz (.error e) s')
    (hR : ∀ F' v v' m' s', Incl F F' → VR W F' v v' → Sim W env outer loc m' R F' s' → Q v m' → Rz (.ok (.ret v')) s')
    (h : BodyC W A env outer qual scope body cdv f bs mem Q E') : codeAny (model W.prog W.w) A (.call (.ref f) ⟨vals, []⟩) Rz s := by
  obtain ⟨m, hn, l⟩ := S.ns
  have hkind' : ∀ x ∈ bv, scope.names.lookup x.1 = some .local ∨ (scope.names.lookup x.1 = some .cell ∧ ((cellsFrom (s.heap.objs.size + 1) scope.names []).lookup x.1).isSome = true) := fun y hy => by
    have : y.1 ∈ bs.map (·.1) := rb.keys ▸ List.mem_map_of_mem hy
    obtain ⟨z, hz, e⟩ := List.mem_map.mp this
    rw [← e]
    rcases hkind z hz with h | ⟨h1, h2⟩
    · exact .inl h
    · exact .inr ⟨h1, h2 _⟩
  refine codeAny_call_cells (fd := fnX name qual params body scope [] dV kV doc pm an cdv ct) (body := body) (binds := bv) hroom ho hd (W.nolim.keeps S.hbase) hcd rfl hbind rfl hkind' (fun s₁ x => ?_) hco hgen hk
  have hfree : ∀ p ∈ cellsFrom (s.heap.objs.size + 1) scope.names [], s.heap.objs.size < p.2 := fun p hp => x.above p.1 p.2 hp
  have gL : s.heap.get? s.heap.objs.size = none := get?_size _
  have gC : ∀ p ∈ cellsFrom (s.heap.objs.size + 1) scope.names [], s.heap.get? p.2 = none := fun p hp => get?_ge (Nat.le_of_lt (hfree p hp))
  obtain ⟨h', tk, rfl, hk'⟩ := x.done
  have hns := x.toInCall.ns
  have Z := S.z
  have fL := Z.free_of_none gL
  have nodup : ∀ n c, (n, c) ∈ cellsFrom (s.heap.objs.size + 1) scope.names [] → Held W F h' c (.cell ((onlyC (fun n => scope.names.lookup n) bs).lookup n)) := fun n c hm => by
    obtain ⟨o, ho, hd⟩ := x.cell n c (hnd _ (n, c) hm)
    have e : bindC (fun n => scope.names.lookup n) bv (fun _ => none) n = (bv.filter fun p => ¬ scope.names.lookup p.1 = some .local).reverse.lookup n := by rw [bindC_eq, Option.or_none]
    have q := ((rb.filter (fun n => decide (¬ scope.names.lookup n = some .local))).rev).lookup n
    refine ⟨o, ho, .cell (u := bindC (fun n => scope.names.lookup n) bv (fun _ => none) n) hd (fun y hy => ?_) (fun hy => ?_)⟩
    · rw [e]; exact q.1 y hy
    · rw [e]; exact q.2 hy
  have lL : LocRel W F (onlyL (fun n => scope.names.lookup n) bs) (bindL (fun n => scope.names.lookup n) bv fun _ => none) := fun y v hy => by
    rw [bindL_eq, Option.or_none]
    exact (((rb.filter (fun n => decide (scope.names.lookup n = some .local))).rev).lookup y).1 v hy
  have S' : Sim W (envC qual scope s.heap.objs.size f cdv) ((env.locals, m) :: outer) (onlyL (fun n => scope.names.lookup n) bs)
      (layC (fun n => (onlyC (fun n => scope.names.lookup n) bs).lookup n) (cellsFrom (s.heap.objs.size + 1) scope.names []) mem) R F { s with heap := h', toks := tk } := by
    have cfree : ∀ n c, (n, c) ∈ cellsFrom (s.heap.objs.size + 1) scope.names [] → s.heap.get? c = none := fun n c hm => gC (n, c) hm
    have key : ∀ {b}, (∀ n, (n, b) ∉ cellsFrom (s.heap.objs.size + 1) scope.names []) → mun (layC (fun n => (onlyC (fun n => scope.names.lookup n) bs).lookup n) (cellsFrom (s.heap.objs.size + 1) scope.names []) mem) R b = mun mem R b := fun {b} hb => by
      unfold mun; rw [layC_off fun p hp e => hb p.1 (by rw [← e]; exact hp)]
    have noC : ∀ {b o}, s.heap.get? b = some o → ∀ n, (n, b) ∉ cellsFrom (s.heap.objs.size + 1) scope.names [] := fun {b o} e n hm => by rw [cfree n b hm] at e; cases e
    have lo := S.size_le
    refine ⟨fun b y e => ?_, ?_⟩
    · rcases layC_at e with ⟨n, hm, rfl⟩ | ⟨_, h2⟩
      · exact (S.free (cfree n b hm)).2
      · exact S.dis b y h2
    · exact {
        frz := fun b o h => hk' b o (Z.frz b o h)
        base := Z.base
        memF := fun b o h => by rw [key (noC (Z.frz b o h))]; exact Z.memF b o h
        memOk := fun b y h => by
          by_cases hb : ∃ n, (n, b) ∈ cellsFrom (s.heap.objs.size + 1) scope.names []
          · obtain ⟨n, hm⟩ := hb
            cases q : layC (fun n => (onlyC (fun n => scope.names.lookup n) bs).lookup n) (cellsFrom (s.heap.objs.size + 1) scope.names []) mem b with
            | some z =>
              rw [mun_l q] at h; cases h
              rcases layC_at q with ⟨n', hm', rfl⟩ | ⟨h1, _⟩
              · exact nodup n' b hm'
              · exact absurd rfl (h1 (n, b) hm)
            | none => rw [mun_r q, (S.free (cfree n b hm)).2] at h; cases h
          · rw [key fun n hm => hb ⟨n, hm⟩] at h
            obtain ⟨o, e, r⟩ := Z.memOk b y h; exact ⟨o, hk' b o e, r⟩
        ns := ⟨_, hns, lL⟩
        nsF := ⟨fun o => fL.2.1 o, by
          show mun _ _ s.heap.objs.size = none
          rw [key fun n hm => Nat.lt_irrefl _ (hfree (n, s.heap.objs.size) hm)]; exact fL.1⟩
        outs := fun q hq => by
          rcases List.mem_cons.mp hq with rfl | hq
          · exact ⟨hn.keeps hk', Z.nsF.1, by
              obtain ⟨o, es, ep, e, _⟩ := hn
              rw [key (noC e)]; exact Z.nsF.2, Ne.symm fL.2.2.1⟩
          · obtain ⟨z, b, c, e⟩ := Z.outs q hq
            obtain ⟨o, es, ep, e', r'⟩ := z
            exact ⟨⟨o, es, ep, hk' _ _ e', r'⟩, b, by rw [key (noC e')]; exact c, fL.2.2.2 q hq⟩
        low := lo
        memLow := fun b y h => by
          by_cases hb : ∃ n, (n, b) ∈ cellsFrom (s.heap.objs.size + 1) scope.names []
          · obtain ⟨n, hm⟩ := hb
            exact notMod (Nat.le_trans lo (Nat.le_of_lt (hfree (n, b) hm)))
          · rw [key fun n hm => hb ⟨n, hm⟩] at h; exact Z.memLow b y h
        gens := Z.gens
        os := Z.os }
  refine wpAny_mono (h s.heap.objs.size m (fun p hp => (S.free (gC p hp)).1) (S.free gL).1 R F _ S') (fun fl s' hp => ?_) fun e s' he => wpAny_mono he (fun _ _ q => hE _ _ q) fun _ _ q => hE _ _ q
  obtain ⟨F', fl', l', m', i, r, S2, m2, hm2, q⟩ := hp
  have S2 := S2.drop hm2
  have S3 : Sim W env outer loc m2 R F' s' := ⟨S2.dis, S.z.leave l i S2.z⟩
  cases r with
  | next => exact hR F' .none .none m2 s' i .none S3 q
  | brk => exact hR F' .none .none m2 s' i .none S3 q
  | cont => exact hR F' .none .none m2 s' i .none S3 q
  | ret r => exact hR F' _ _ m2 s' i r S3 q
theorem call_fnC {name qual : Str} {params : Arguments} {body : List Stmt} {scope : Scope} {dV kV doc pm cdv ct oc : Value} {an od : Option Addr} {osl : Array (Option Value)} {f : Addr} {xs : List V} {bs : List (Str × V)} {Q : V → Loc → Mem → Prop}
    (ho : W.K.lookup f = some ⟨oc, od, .func (fnOf name qual params body scope dV kV doc pm an cdv ct), osl⟩) (hcd : codeIn W.K cdv qual = true) (hroom : A.depth < recursionLimit)
    (hbind : ∀ (F : Frz) (vs : List Value), VRs W F xs vs → ∃ bv, bindArgs (fnOf name qual params body scope dV kV doc pm an cdv ct) ⟨vs, []⟩ = pure bv ∧ VRp W F bs bv)
    (hk : scope.kind = .function) (hco : scope.isCoroutine = false) (hgen : scope.isGenerator = false)
    (hkind : ∀ x ∈ bs, scope.names.lookup x.1 = some .local ∨ (scope.names.lookup x.1 = some .cell ∧ ∀ n, ((cellsFrom n scope.names []).lookup x.1).isSome = true))
    (hnd : ∀ k, ∀ p ∈ cellsFrom k scope.names [], (cellsFrom k scope.names []).lookup p.1 = some p.2)
    (h : BodyC W A env outer qual scope body cdv f bs mem (fun v m => Q v loc m) E) : Op W A env outer (VR W) (fun vs => call (.ref f) vs) xs loc mem Q E := fun R F s vs S r => by
  obtain ⟨bv, hb, rb⟩ := hbind F vs r
  exact wpAny_call (code_fnC S (S.kin _ _ ho) rfl (codeRec_of S.kin hcd) hroom hb rb hk hco hgen hkind hnd E (fun _ _ e => e) (fun F' v v' m' s' i r S' q => ⟨F', v, loc, m', i, r, S', q⟩) h)
theorem sub_refl (m : Mem) : ∀ a x, m a = some x → m a = some x := fun _ _ h => h
theorem sub_mset {m m' : Mem} {b : Addr} {y : AObj} (h : m b = none) (k : ∀ a x, m' a = some x → m a = some x) : ∀ a x, m' a = some x → mset m b y a = some x := fun a x e => by
  have := k a x e
  rw [mset_ne (nex this h)]; exact this
theorem Op.drop {α β : Type} {RV : Frz → β → α → Prop} {f : List Value → Sem α} {xs : List V} {Q : β → Loc → Mem → Prop} {mem' : Mem} (h : Op W A env outer RV f xs loc mem' Q E) (hm : ∀ a x, mem' a = some x → mem a = some x) : Op W A env outer RV f xs loc mem Q E :=
  fun R F s vs S r => h R F s vs (S.drop hm) r
noncomputable abbrev Sub (m m' : Mem) : Prop := ∀ a x, m a = some x → m' a = some x
noncomputable def LSub (a b : Loc) : Prop := a.map (fun q => b.lookup q.1) = a.map fun q => some q.2
theorem LSub.get {a b : Loc} (h : LSub a b) (x : Str) (v : V) (e : a.lookup x = some v) : b.lookup x = some v := by
  induction a with
  | nil => cases e
  | cons q r ih =>
    have h1 := List.cons.inj h
    rw [List.lookup_cons] at e
    split at e
    · rename_i z; rw [beq_iff_eq.mp z]; cases e; exact h1.1
    · exact ih h1.2 e
theorem Sim.locs {loc' : Loc} (S : Sim W env outer loc mem R F s) (h : LSub loc' loc) : Sim W env outer loc' mem R F s :=
  ⟨S.dis, { S.z with ns := let ⟨m, a, b⟩ := S.z.ns; ⟨m, a, fun x v e => b x v (h.get x v e)⟩ }⟩
theorem Tr.locs {α β : Type} {RV : Frz → β → α → Prop} {t : Sem α} {Q : β → Loc → Mem → Prop} {loc' : Loc} (hl : LSub loc' loc) (h : Tr W A env outer RV t loc' mem Q E) : Tr W A env outer RV t loc mem Q E := fun R F s S => h R F s (S.locs hl)
theorem Op.locs {α β : Type} {RV : Frz → β → α → Prop} {f : List Value → Sem α} {xs : List V} {Q : β → Loc → Mem → Prop} {loc' : Loc} (hl : LSub loc' loc) (h : Op W A env outer RV f xs loc' mem Q E) : Op W A env outer RV f xs loc mem Q E :=
  fun R F s vs S r => h R F s vs (S.locs hl) r
theorem Tr.memS {α β : Type} {RV : Frz → β → α → Prop} {t : Sem α} {Q : β → Loc → Mem → Prop} {mem' : Mem} (hm : Sub mem' mem) (h : Tr W A env outer RV t loc mem' Q E) : Tr W A env outer RV t loc mem Q E := h.drop hm
theorem Op.memS {α β : Type} {RV : Frz → β → α → Prop} {f : List Value → Sem α} {xs : List V} {Q : β → Loc → Mem → Prop} {mem' : Mem} (hm : Sub mem' mem) (h : Op W A env outer RV f xs loc mem' Q E) : Op W A env outer RV f xs loc mem Q E := h.drop hm
theorem comp_map {elt target : PySem.Expr} {ifs : List PySem.Expr} {scope : Scope} {cl : List (Str × Addr)} {x : V} {Q : V → Loc → Mem → Prop} {mem₀ : Mem} {item : Nat → Mem → Option (Option V)}
    (hi : Itr W A target x mem mem₀ item) (items : List V) (hit : ∀ m i, Sub mem₀ m → i ≤ items.length → item i m = some items[i]?) (hz : items.length ≤ sizeLine) (g : V → Option V)
    (turn : ∀ (C : Addr) (outer' : Outs) (i : Nat) (v : V), items[i]? = some v → Asg W A (compEnvC scope cl C env) outer' target v [] mem₀ (fun l m => CompTurn W A (compEnvC scope cl C env) outer' ifs elt l m (fun y m => y = g v ∧ Sub mem₀ m)) Ex.no)
    (h : ∀ D, mem₀ D = none → Q (.ref D) loc (mset mem₀ D (.list (items.filterMap g)))) : CompOk W A env elt target ifs scope cl loc mem x Q := .mk (item) (mem₀) (hi)
  (fun k i ys m => k + i = items.length ∧ ys = (items.take i).filterMap g ∧ Sub mem₀ m)
  (fun k i ys m hI => by
    obtain ⟨h1, rfl, _⟩ := hI
    refine Nat.le_trans (List.length_filterMap_le _ _) (Nat.le_trans ?_ hz)
    rw [List.length_take]; exact Nat.min_le_right _ _)
  (fun C outer' k i ys m l hI => by
    obtain ⟨h1, rfl, hs⟩ := hI
    have e := hit m i hs (by omega)
    refine ⟨by rw [e]; exact fun q => (nomatch q), fun q D hD => ?_, fun v q => ?_⟩
    · rw [e] at q
      have hn : items[i]? = none := Option.some.inj q
      rw [List.getElem?_eq_none_iff] at hn
      have hD0 : mem₀ D = none := by
        cases z : mem₀ D with
        | none => rfl
        | some y => rw [hs D y z] at hD; cases hD
      refine ⟨_, fun a y hy => ?_, h D hD0⟩
      unfold mset at hy ⊢
      split at hy
      · rename_i z; rw [if_pos z, List.take_of_length_le hn]; exact hy
      · rename_i z; rw [if_neg z]; exact hs a y hy
    · rw [e] at q
      have hv : items[i]? = some v := Option.some.inj q
      have hlt : i < items.length := by rw [List.getElem?_eq_some_iff] at hv; exact hv.1
      have tk : (items.take (i + 1)).filterMap g = (items.take i).filterMap g ++ (match g v with | some y => [y] | none => []) := by
        have hget : items[i] = v := by rw [List.getElem?_eq_getElem hlt] at hv; exact Option.some.inj hv
        rw [List.take_succ_eq_append_getElem hlt, List.filterMap_append, hget]
        cases hg : g v with
        | none => simp [hg]
        | some y => simp [hg]
      have t := turn C outer' i v hv
      refine Op.memS hs (Op.locs (loc' := []) rfl ?_)
      refine fun R F s vs S r => wpAny_mono (t R F s vs S r) (fun _ s' ⟨F', x, l', m', a, b, c, d⟩ => ⟨F', x, l', m', a, b, c, ?_⟩) fun _ _ e => e
      have fin : ∀ y (m'' : Mem), (y = g v ∧ Sub mem₀ m'') → (match y with
          | some y => ∃ k', k' < k ∧ k' + (i + 1) = items.length ∧ (items.take i).filterMap g ++ [y] = (items.take (i + 1)).filterMap g ∧ Sub mem₀ m''
          | none => ∃ k', k' < k ∧ k' + (i + 1) = items.length ∧ (items.take i).filterMap g = (items.take (i + 1)).filterMap g ∧ Sub mem₀ m'') := fun y m'' ⟨h2, h3⟩ => by
        rw [tk, ← h2]
        cases y with
        | some y => exact ⟨k - 1, by omega, by omega, rfl, h3⟩
        | none => exact ⟨k - 1, by omega, by omega, by simp, h3⟩
      match ifs, d with
      | [], d => exact Tr.mono d fun y l m q => fin (some y) m q
      | [c], d => exact Tr.mono d fun b l m q => ⟨fun hb => Tr.mono (q.1 hb) fun y l m q => fin (some y) m q, fun hb => fin none m (q.2 hb)⟩
      | _ :: _ :: _, d => exact d)
  (items.length)
  (⟨rfl, by simp, fun _ _ h => h⟩)
end
end Mine
end
section
set_option autoImplicit false
namespace Mine
theorem pct_emptyM (t u : Tok) : ∀ z : PySem.Str, z.length ≤ 1000000 → Meets (Builtin.«str.__mod__» ⟨[.str ⟨(Str.ofString "%s -> <empty>").cps⟩ t, .str z u], []⟩) (fun _ R s => ∀ t' k, R (.ok (.ret (.str ((fun n => n ++ (" -> <empty>" : Str)) z) t'))) { s with toks := k }) := by
  have e : (⟨(Str.ofString "%s -> <empty>").cps⟩ : Str) = ⟨#[37, 115, 32, 45, 62, 32, 60, 101, 109, 112, 116, 121, 62]⟩ := by decide +kernel
  rw [e]
  k_dflt kpc_run_s
section
variable {W : Wd} {A : Around} {env : Env} {outer : Outs} {loc : Loc} {mem R : Mem} {E : Ex W} {F : Frz} {s : Shared}
theorem pct_empty {x : Str} {Q : V → Loc → Mem → Prop} (hx : x.length ≤ 1000000) (h : Q (.str (x ++ (" -> <empty>" : Str))) loc mem) :
    OpV W A env outer (fun | [x, y] => binaryOp .Mod x y | _ => pure .none) [.str "%s -> <empty>", .str x] loc mem Q E := op2 fun R F s v u S r1 r2 => by
  cases r1.view; cases r2.view
  exact KPc.mod_str (T := fun n => n ++ (" -> <empty>" : Str)) rfl hx (pct_emptyM _ _) fun t' k => Post.mk (.str _ _) S.tick h
end
end Mine
end
section
set_option autoImplicit false
namespace Mine
section
variable {W : Wd} {A : Around} {env : Env} {outer : Outs} {loc : Loc} {mem R : Mem} {E : Ex W} {F : Frz} {s : Shared}
end
end Mine
end
section
set_option autoImplicit false
namespace Mine
section
variable {W : Wd} {A : Around} {env : Env} {outer : Outs} {loc : Loc} {mem R : Mem} {E : Ex W} {F : Frz} {s : Shared}
noncomputable def Shift (W : Wd) (v : V) (m : Mem) (v' : V) (m' : Mem) : Prop := ∀ (env : Env) (outer : Outs) (loc : Loc) (R : Mem) (F : Frz) (s : Shared) (u : Value), Sim W env outer loc m R F s → VR W F v u → ∃ F', Incl F F' ∧ Sim W env outer loc m' R F' s ∧ VR W F' v' u
theorem Tr.shift {t : Sem Value} {Q : V → Loc → Mem → Prop} (h : TrV W A env outer t loc mem (fun v l m => ∃ v' m', Shift W v m v' m' ∧ Q v' l m') E) : TrV W A env outer t loc mem Q E := fun R F s S =>
  after (RW := VR W) (Q := fun _ _ _ => True) (h R F s S) fun u s1 F1 v l1 m1 i1 r1 S1 ⟨v', m', sh, q⟩ => by
    obtain ⟨F', i2, S2, r2⟩ := sh _ _ _ _ _ _ _ S1 r1
    exact ⟨F', v', l1, m', i1.trans i2, r2, S2, q⟩
theorem Op.shift {f : List Value → Sem Value} {xs : List V} {Q : V → Loc → Mem → Prop} (h : OpV W A env outer f xs loc mem (fun v l m => ∃ v' m', Shift W v m v' m' ∧ Q v' l m') E) : OpV W A env outer f xs loc mem Q E := fun R F s vs S r =>
  after (RW := VR W) (Q := fun _ _ _ => True) (h R F s vs S r) fun u s1 F1 v l1 m1 i1 r1 S1 ⟨v', m', sh, q⟩ => by
    obtain ⟨F', i2, S2, r2⟩ := sh _ _ _ _ _ _ _ S1 r1
    exact ⟨F', v', l1, m', i1.trans i2, r2, S2, q⟩
theorem Shift.sub {v : V} {m m' : Mem} (h : Sub m' m) : Shift W v m v m' := fun env outer loc R F s u S r => ⟨F, Incl.refl F, S.drop h, r⟩
theorem Sim.settleAll {m' : Mem} {P : Addr → Prop} (S : Sim W env outer loc mem R F s) (hP : ∀ a, P a → ∃ x, mem a = some x) (hs : Sub m' mem) (hn : ∀ a, P a → m' a = none) :
    Sim W env outer loc m' R (fun a o => F a o ∨ (P a ∧ s.heap.get? a = some o)) s := by
  have Z := S.z
  have dn : ∀ {a}, mun mem R a = none → mun m' R a = none := fun {a} e => by
    obtain ⟨h1, h2⟩ := mun_none e
    have : m' a = none := by
      cases q : m' a with
      | none => rfl
      | some y => rw [hs a y q] at h1; cases h1
    rw [mun_r this]; exact h2
  have no : ∀ {a}, mun mem R a = none → ¬ P a := fun {a} e p => by
    obtain ⟨x, hx⟩ := hP a p
    rw [mun_l hx] at e; cases e
  refine ⟨fun a x e => S.dis a x (hs a x e), ?_⟩
  exact {
    frz := fun a o h => by rcases h with h | ⟨_, h⟩; exact Z.frz a o h; exact h
    base := fun a o h => .inl (Z.base a o h)
    memF := fun a o h => by
      rcases h with h | ⟨p, h⟩
      · exact dn (Z.memF a o h)
      · obtain ⟨x, hx⟩ := hP a p
        rw [mun_r (hn a p)]; exact S.dis a x hx
    memOk := fun a y h => by
      have : mun mem R a = some y := by
        cases q : m' a with
        | some z => rw [mun_l q] at h; rw [mun_l (hs a z q)]; exact h
        | none =>
          rw [mun_r q] at h
          cases q' : mem a with
          | none => rw [mun_r q']; exact h
          | some z => rw [S.dis a z q'] at h; cases h
      obtain ⟨o, e, r⟩ := Z.memOk a y this
      exact ⟨o, e, r.mono fun _ _ h => .inl h⟩
    ns := let ⟨m, z, b⟩ := Z.ns; ⟨m, z, LocRel.mono (fun _ _ h => .inl h) b⟩
    nsF := ⟨fun o h => by rcases h with h | ⟨p, _⟩; exact Z.nsF.1 o h; exact no Z.nsF.2 p, dn Z.nsF.2⟩
    outs := fun q hq => by
      obtain ⟨z, b, c, e⟩ := Z.outs q hq
      exact ⟨z, fun o h => by rcases h with h | ⟨p, _⟩; exact b o h; exact no c p, dn c, e⟩
    low := Z.low
    memLow := fun a y h => by
      cases q : m' a with
      | some z => exact Z.memLow a z (mun_l (hs a z q))
      | none =>
        rw [mun_r q] at h
        cases q' : mem a with
        | none => exact Z.memLow a y (by rw [mun_r q']; exact h)
        | some z => rw [S.dis a z q'] at h; cases h
    gens := Z.gens
    os := Z.os }
theorem Shift.lst {a : Addr} {m m' : Mem} {xs : List V} (h : m a = some (.list xs)) (hs : Sub m' m) (hn : m' a = none) : Shift W (.ref a) m (.lst xs) m' := fun env outer loc R F s u S r => by
  cases r.view
  obtain ⟨o, ho, q⟩ := S.memOk _ _ h
  cases q with
  | list q =>
    exact ⟨_, fun _ _ h => .inl h, S.settleAll (P := fun b => b = a) (fun b e => ⟨_, e ▸ h⟩) hs (fun b e => e ▸ hn), .lst (.inr ⟨rfl, ho⟩) (q.mono fun _ _ h => .inl h)⟩
theorem mem_of_lookup' {L : List (Addr × List V)} {a : Addr} {xs : List V} (h : L.lookup a = some xs) : (a, xs) ∈ L := by
  induction L with
  | nil => cases h
  | cons p L ih =>
    obtain ⟨b, ys⟩ := p
    rw [List.lookup_cons] at h
    split at h
    · rename_i e; cases h; rw [beq_iff_eq.mp e]; exact .head _
    · exact .tail _ (ih h)
noncomputable def cvt (L : List (Addr × List V)) : V → V
  | .ref a => (match L.lookup a with | some xs => .lst xs | none => .ref a)
  | v => v
theorem Shift.inst {x C d : Addr} {m m' : Mem} {es : List (Str × V)} {ep : Nat} (L : List (Addr × List V)) (hx : m x = some (.inst C d)) (hd : m d = some (.dict es ep)) (hL : ∀ p ∈ L, m p.1 = some (.list p.2)) (hs : Sub m' m)
    (nx : m' x = none) (nd : m' d = none) (nL : ∀ p ∈ L, m' p.1 = none) : Shift W (.ref x) m (.ins C (es.map fun p => (p.1, cvt L p.2))) m' := fun env outer loc R F s u S r => by
  cases r.view
  obtain ⟨o1, h1, q1⟩ := S.memOk _ _ hx
  obtain ⟨o2, h2, q2⟩ := S.memOk _ _ hd
  cases q1.view
  cases q2 with
  | @dict _ ds _ kvs k q =>
    have Lmem : ∀ {a xs}, L.lookup a = some xs → (a, xs) ∈ L := fun e => mem_of_lookup' e
    refine ⟨_, fun _ _ h => .inl h, S.settleAll (P := fun b => b = x ∨ b = d ∨ ∃ p ∈ L, p.1 = b) ?_ hs ?_, .ins (.inr ⟨.inl rfl, h1⟩) (.inr ⟨.inr (.inl rfl), h2⟩) k ?_⟩
    · rintro b (rfl | rfl | ⟨p, hp, rfl⟩)
      · exact ⟨_, hx⟩
      · exact ⟨_, hd⟩
      · exact ⟨_, hL p hp⟩
    · rintro b (rfl | rfl | ⟨p, hp, rfl⟩)
      · exact nx
      · exact nd
      · exact nL p hp
    · clear k h2 hd nd
      induction es generalizing kvs with
      | nil => cases q.view; exact .nil
      | cons e es ih =>
        cases q with
        | @cons kk v val xs vs r1 r2 =>
          refine .cons ?_ (ih r2)
          cases v with
          | ref a =>
            cases r1.view
            show VR W _ (match L.lookup a with | some xs => .lst xs | none => .ref a) _
            cases hl : L.lookup a with
            | none => exact .ref a
            | some xs =>
              obtain ⟨o, ho, q⟩ := S.memOk _ _ (hL _ (Lmem hl))
              cases q with
              | list q => exact .lst (.inr ⟨.inr (.inr ⟨_, Lmem hl, rfl⟩), ho⟩) (q.mono fun _ _ h => .inl h)
          | none => exact r1.mono fun _ _ h => .inl h
          | bool => exact r1.mono fun _ _ h => .inl h
          | int => exact r1.mono fun _ _ h => .inl h
          | str => exact r1.mono fun _ _ h => .inl h
          | tup => exact r1.mono fun _ _ h => .inl h
          | lst => exact r1.mono fun _ _ h => .inl h
          | ins => exact r1.mono fun _ _ h => .inl h
          | glob => exact r1.mono fun _ _ h => .inl h
end
end Mine
end
section
set_option autoImplicit false
namespace Mine
noncomputable def IDENT : Str := "abcdefghijklmnopqrstuvwxyzABCDEFGHIJKLMNOPQRSTUVWXYZ0123456789_-"
noncomputable def chars (x : Str) : List Str := x.cps.toList.map fun c => ⟨#[c]⟩
noncomputable def isIdent (x : Str) : Bool := decide (0 < x.cps.size) && (chars x).all fun c => strIn c IDENT
noncomputable def rmost (terms : List Str) (syms : List Str) : Option Str := syms.reverse.find? fun s => terms.contains s
noncomputable def dedup (ys : List Str) : List Str := ys.foldl (fun acc y => if y ∈ acc then acc else acc ++ [y]) []
noncomputable def ruleText (name : Str) (syms : List Str) : Str := if syms.isEmpty then name ++ (" -> <empty>" : Str) else name ++ (" -> " : Str) ++ Txt.join (" " : Str) syms
noncomputable def mapText (name : Str) (syms : List Str) : Str := name ++ (" -> " : Str) ++ (PyData.list (syms.map .str)).shown
noncomputable def vStrs (ys : List Str) : List V := ys.map .str
noncomputable def prodAttrs (num : V) (name : Str) (syms : List Str) (prec func file line : V) : List (Str × V) :=
  [("name", .str name), ("prod", .tup (vStrs syms)), ("number", num), ("func", func), ("callable", .none), ("file", file), ("line", line), ("prec", prec), ("len", .int syms.length), ("usyms", .lst (vStrs (dedup syms))), ("lr_items", .lst []), ("lr_next", .none), ("str", .str (ruleText name syms))]
section
variable {W : Wd} {A : Around} {env : Env} {outer : Outs} {loc : Loc} {mem R : Mem} {E : Ex W} {F : Frz} {s : Shared}
theorem set_field' {x C d : Addr} {es : List (Str × V)} {ep : Nat} {name : Str} {v : V} {Q : Loc → Mem → Prop} (h1 : mem x = some (.inst C d)) (h2 : mem d = some (.dict es ep))
    (hs : findIn W.K (.ref C) "__setattr__" = some (some (.builtin "object.__setattr__"))) (hp : plainOver W.K C = true) (ht : takerIn W.K C name = some none) (hh : hasDictIn W.K C = true) (hz : es.length ≤ 900)
    (h : ∀ (m' : Mem) (ep' : Nat), m' x = some (.inst C d) → m' d = some (.dict (stA es name v) ep') → (∀ a, a ≠ d → m' a = mem a) → Q loc m') :
    Op W A env outer (fun _ (_ _ : Unit) => True) (fun | [y, z] => setAttr y name z | _ => pure ()) [.ref x, v] loc mem (fun _ => Q) E :=
  set_field h1 h2 hs hp ht hh hz fun ep' => h _ ep' (by
    have : x ≠ d := fun e => by rw [e, h2] at h1; cases h1
    rw [mset_ne this]; exact h1) (mset_self _ _ _) fun a ha => mset_ne ha
noncomputable def getOk (K : Frag) (C : Addr) (name : Str) : Bool := plainGet K C name && hasDictIn K C && (findIn K (.ref C) name).any (noGet K)
noncomputable def setOk (K : Frag) (C : Addr) (name : Str) : Bool := (match findIn K (.ref C) "__setattr__" with | some (some (.builtin b)) => b == "object.__setattr__" | _ => false) && plainOver K C && (match takerIn K C name with | some none => true | _ => false) && hasDictIn K C
theorem get_o {K0 : Params → Frag} {v : V} {C : Addr} {es : List (Str × V)} {name : Str} {expr : Bool} {x : V} {Q : V → Loc → Mem → Prop} (hK : W.K = K0 W.w.params) (f : ∀ P, getOk (K0 P) C name = true) (I : Inst W mem v C es) (hl : getA es name = some x) (hv : okV x = true) (h : Q x loc mem) :
    Op W A env outer (VR W) (fun | [y] => getAttr y name expr | _ => pure .none) [v] loc mem Q E := by
  have f := f W.w.params
  rw [← hK] at f
  unfold getOk at f
  rw [Bool.and_eq_true, Bool.and_eq_true] at f
  cases q : findIn W.K (.ref C) name with
  | none => rw [q] at f; cases f.2
  | some attr => rw [q] at f; exact get_field I f.1.1 f.1.2 q f.2 hl hv h
theorem set_o {K0 : Params → Frag} {x C d : Addr} {es : List (Str × V)} {ep : Nat} {name : Str} {v : V} {Q : Loc → Mem → Prop} (hK : W.K = K0 W.w.params) (f : ∀ P, setOk (K0 P) C name = true) (h1 : mem x = some (.inst C d)) (h2 : mem d = some (.dict es ep)) (hz : Nat.ble es.length 900 = true)
    (h : ∀ (m' : Mem) (ep' : Nat), m' x = some (.inst C d) → m' d = some (.dict (stA es name v) ep') → (∀ a, a ≠ d → m' a = mem a) → Q loc m') :
    Op W A env outer (fun _ (_ _ : Unit) => True) (fun | [y, z] => setAttr y name z | _ => pure ()) [.ref x, v] loc mem (fun _ => Q) E := by
  have f := f W.w.params
  rw [← hK] at f
  unfold setOk at f
  rw [Bool.and_eq_true, Bool.and_eq_true, Bool.and_eq_true] at f
  refine set_field' h1 h2 ?_ f.1.1.2 ?_ f.2 (Nat.le_of_ble_eq_true hz) h
  · have g := f.1.1.1
    split at g
    · rename_i b e; rw [e, eq_of_beq g]
    · cases g
  · have g := f.1.2
    split at g
    · assumption
    · cases g
theorem sub_sq {v x : V} {T : String} {xs : List V} {k : Int} {Q : V → Loc → Mem → Prop} (q : Sq mem v T xs) (h0 : 0 ≤ k) (hk : k < 2 ^ 63) (hx : xs[k.toNat]? = some x) (h : Q x loc mem) :
    ∃ T id, Ty mem v T ∧ typeLookup (.type T) "__getitem__" = pure (some (.builtin id)) ∧ OpV W A env outer (fun | [x, y] => getItem x y | _ => pure .none) [v, .int k] loc mem Q E := by
  rcases q.kind with rfl | rfl
  · exact ⟨_, _, q.ty, PySem.F.slot_list_getitem.lookup, getItem_sq q h0 hk hx h⟩
  · exact ⟨_, _, q.ty, PySem.F.slot_tuple_getitem.lookup, getItem_sq q h0 hk hx h⟩
theorem sub_dict {a : Addr} {es : List (Str × V)} {ep : Nat} {k : Str} {x : V} {Q : V → Loc → Mem → Prop} (hm : mem a = some (.dict es ep)) (hx : getA es k = some x) (h : Q x loc mem) :
    ∃ T id, Ty mem (.ref a) T ∧ typeLookup (.type T) "__getitem__" = pure (some (.builtin id)) ∧ OpV W A env outer (fun | [x, y] => getItem x y | _ => pure .none) [.ref a, .str k] loc mem Q E :=
  ⟨_, _, .dict hm, PySem.F.slot_dict_getitem.lookup, getItem_dict hm hx h⟩
theorem sub_str {x : Str} {i : Int} {c : Nat} {Q : V → Loc → Mem → Prop} (hr : (decide (i < -(2 ^ 63 : Int)) || decide (i ≥ 2 ^ 63)) = false) (hc : (seqIndex? i x.length).bind (x.cps[·]?) = some c) (h : Q (.str ⟨#[c]⟩) loc mem) :
    ∃ T id, Ty mem (.str x) T ∧ typeLookup (.type T) "__getitem__" = pure (some (.builtin id)) ∧ OpV W A env outer (fun | [x, y] => getItem x y | _ => pure .none) [.str x, .int i] loc mem Q E :=
  ⟨_, _, .str x, PySem.F.slot_str_getitem.lookup, getItem_s hr hc h⟩
theorem ge_ii {a b : Int} {Q : V → Loc → Mem → Prop} (h : Q (.bool (decide (b ≤ a))) loc mem) : OpV W A env outer (fun | [x, y] => compareOp .GtE x y | _ => pure .none) [.int a, .int b] loc mem Q E := op2 fun R F s v u S r1 r2 => by
  cases r1.view; cases r2.view; exact PyProof.Rows.ge_int (Post.mk (.bool _) S h)
theorem Sq.mono {m m' : Mem} {v : V} {T : String} {xs : List V} (q : Sq m v T xs) (h : Sub m m') : Sq m' v T xs := by
  cases q with
  | lst xs => exact .lst xs
  | tup xs => exact .tup xs
  | own e => exact .own (h _ _ e)
noncomputable def TrJ (W : Wd) (A : Around) (env : Env) (outer : Outs) : List PySem.Expr → Str → Loc → Mem → (V → Loc → Mem → Prop) → Ex W → Prop
  | [], acc, loc, mem, Q, _ => Q (.str acc) loc mem
  | e :: es, acc, loc, mem, Q, E => TrV W A env outer (eval e env) loc mem (fun v l m => ∃ y, v = .str y ∧ (acc ++ y).length ≤ sizeLine ∧ TrJ W A env outer es (acc ++ y) l m Q E) E
theorem TrJ.run : ∀ {es : List PySem.Expr} {acc : Str} {loc : Loc} {mem : Mem} {Q : V → Loc → Mem → Prop} {F0 F : Frz} {s : Shared}, TrJ W A env outer es acc loc mem Q E → acc.length ≤ sizeLine → Incl F0 F → Sim W env outer loc mem R F s →
    Joins (model W.prog W.w) A (E.p R F0) (evalEach es env) acc (fun out s₁ => out.length ≤ sizeLine ∧ Post W env outer (VR W) R F0 Q (.str out s₁.toks) { s₁ with toks := s₁.toks + 1 }) s
  | [], _, _, _, _, _, F, _, h, hz, i, S => ⟨hz, F, _, _, _, i, .str _ _, S.tick, h⟩
  | e :: es, acc, _, _, _, _, F, _, h, hz, i, S => by
    show wpAny _ _ _ _ _ _
    refine after (RW := VR W) (Q := fun _ _ _ => True) (h R F _ S) fun u s1 F1 v l1 m1 i1 r1 S1 ⟨y, e1, z, h1⟩ => ?_
    subst e1
    cases r1.view
    exact ⟨y, _, rfl, z, TrJ.run h1 z (i.trans i1) S1⟩
theorem e_joined {v₁ v₂ : PySem.Expr} {rest : List PySem.Expr} {pos : Pos} {Q : V → Loc → Mem → Prop} (h : TrJ W A env outer (v₁ :: v₂ :: rest) Str.empty loc mem Q E) : TrV W A env outer (eval (.JoinedStr (v₁ :: v₂ :: rest) pos) env) loc mem Q E := fun R F s S =>
  wpAny_JoinedStr (TrJ.run h (by decide) (Incl.refl F) S)
noncomputable def ShowK (W : Wd) (A : Around) (env : Env) (outer : Outs) (v : V) (loc : Loc) (mem : Mem) (Q : V → Loc → Mem → Prop) (E : Ex W) : Prop :=
  ∀ R F s v', Sim W env outer loc mem R F s → VR W F v v' → wpAny (model W.prog W.w) A (convS v') (fun r s₂ => wpAny (model W.prog W.w) A (formatField r Str.empty) (Post W env outer (VR W) R F Q) (E.p R F) s₂) (E.p R F) s
theorem e_fv_s {value : PySem.Expr} {pos : Pos} {Q : V → Loc → Mem → Prop} (h : TrV W A env outer (eval value env) loc mem (fun v l m => ShowK W A env outer v l m Q E) E) :
    TrV W A env outer (eval (.FormattedValue value 115 none pos) env) loc mem Q E := fun R F s S =>
  wpAny_FormattedValue_s (after (RW := VR W) (Q := fun _ _ _ => True) (h R F s S) fun u s1 F1 v l1 m1 i1 r1 S1 h1 =>
    wpAny_mono (h1 R F1 s1 u S1 r1) (fun _ _ h => wpAny_mono h (fun _ _ p => p.weaken i1) fun _ _ e => E.up i1 e) fun _ _ e => E.up i1 e)
theorem show_str {x : Str} {Q : V → Loc → Mem → Prop} (hz : x.length ≤ sizeLine) (h : Q (.str x) loc mem) : ShowK W A env outer (.str x) loc mem Q E := fun R F s v S r => by
  cases r.view
  exact SB.convS_str (fun t' k => PyProof.Rows.formatField_str (fun t2 k2 => Post.mk (.str _ _) S.tick h) hz) hz
theorem show_list {v : V} {xs : List V} {n : Nat} {Q : V → Loc → Mem → Prop} (hg : A.guards = some []) (q : Sq mem v "list" xs) (hxs : xs.all (isD n) = true) (hu : A.units + (PyData.list (xs.map (toPy n))).depth + 5 < cLine)
    (hd : (PyData.list (xs.map (toPy n))).shown.length ≤ sizeLine) (hs : (PyData.list (xs.map (toPy n))).showable = true) (hnd : (PyData.list (xs.map (toPy n))).hasDict = false)
    (h : Q (.str (PyData.list (xs.map (toPy n))).shown) loc mem) : ShowK W A env outer v loc mem Q E := fun R F s v' S r => by
  obtain ⟨as, ra⟩ := q.reads hxs S r
  obtain ⟨l, ls, ln, rfl, _, _⟩ := q.at S r
  refine convS_of_reads ra hs (fun e => by rw [hnd] at e; cases e) hg (by omega) (fun _ _ e => e) (fun h' u tk hk => ?_) hd
  exact PyProof.Rows.formatField_str (fun t2 k2 => Post.mk (.str _ _) (S.grow (t := k2) (d := s.drawn) hk) h) hd
theorem isD_strs {n : Nat} {ys : List Str} (h : ys.all PyData.strOk = true) : (vStrs ys).all (isD n) = true := by
  unfold vStrs
  rw [List.all_map, List.all_eq_true]
  intro y hy
  have := List.all_eq_true.mp h y hy
  cases n <;> exact this
end
section
variable {W : Wd} {A : Around} {env : Env} {outer : Outs} {loc : Loc} {mem R : Mem} {E : Ex W} {F : Frz} {s : Shared}
theorem new_own' {xs : List V} {Q : V → Loc → Mem → Prop} (hz : xs.length ≤ sizeLine) (h : ∀ a m', mem a = none → m' a = some (.list xs) → (∀ b, b ≠ a → m' b = mem b) → Q (.ref a) loc m') : OpV W A env outer newList xs loc mem Q E :=
  new_own hz fun a ha => h a _ ha (mset_self _ _ _) fun b hb => mset_ne hb
theorem append_own' {a : Addr} {xs : List V} {x : V} {Q : V → Loc → Mem → Prop} (h1 : mem a = some (.list xs)) (hz : xs.length ≤ sizeLine) (h : ∀ m', m' a = some (.list (xs ++ [x])) → (∀ b, b ≠ a → m' b = mem b) → Q .none loc m') :
    OpV W A env outer (fun vs => call (.builtin "list.append") vs) [.ref a, x] loc mem Q E := append_own h1 hz (h _ (mset_self _ _ _) fun b hb => mset_ne hb)
theorem e_dict0' {pos : Pos} {Q : V → Loc → Mem → Prop} (h : ∀ a m', mem a = none → m' a = some (.dict [] 0) → (∀ b, b ≠ a → m' b = mem b) → Q (.ref a) loc m') : TrV W A env outer (eval (.Dict [] [] pos) env) loc mem Q E :=
  e_dict0 fun a ha => h a _ ha (mset_self _ _ _) fun b hb => mset_ne hb
theorem setItem_dict' {a : Addr} {es : List (Str × V)} {ep : Nat} {k : Str} {x : V} {Q : Loc → Mem → Prop} (hm : mem a = some (.dict es ep)) (hz : es.length ≤ sizeLine) (h : ∀ (m' : Mem) (ep' : Nat), m' a = some (.dict (stA es k x) ep') → (∀ b, b ≠ a → m' b = mem b) → Q loc m') :
    OpU W A env outer (fun | [x, y, z] => setItem x y z | _ => pure ()) [.ref a, .str k, x] loc mem Q E := setItem_dict hm hz fun ep' => h _ ep' (mset_self _ _ _) fun b hb => mset_ne hb
theorem Sub.new {m0 m m' : Mem} {a : Addr} (h : Sub m0 m) (ha : m a = none) (hf : ∀ b, b ≠ a → m' b = m b) : Sub m0 m' := fun b y e => by
  have := h b y e
  rw [hf b (nex this ha)]; exact this
theorem Sub.upd {m0 m m' : Mem} {a : Addr} (h : Sub m0 m) (ha : m0 a = none) (hf : ∀ b, b ≠ a → m' b = m b) : Sub m0 m' := fun b y e => by
  rw [hf b (nex e ha)]; exact h b y e
theorem Sub.none {m0 m : Mem} {a : Addr} (h : Sub m0 m) (ha : m a = none) : m0 a = none := by
  cases q : m0 a with
  | none => rfl
  | some y => rw [h a y q] at ha; cases ha
end
theorem Calm.fit {A : Around} {d u : Nat} (c : Calm A d u) (h : u ≤ 9800) : A.units + 65 < cLine := Nat.lt_of_le_of_lt (Nat.add_le_add_right (Nat.le_trans c.units h) 65) (by decide)
theorem Calm.room {A : Around} {d u : Nat} (c : Calm A d u) (h : d < 1000) : A.depth < recursionLimit := Nat.lt_of_le_of_lt c.depth h
noncomputable def notRef : V → Bool
  | .ref _ => false
  | _ => true
theorem cvt_id (L : List (Addr × List V)) {v : V} (h : notRef v = true) : cvt L v = v := by cases v <;> first | rfl | cases h
theorem sum_len {ys : List Str} {B : Nat} (h : ∀ y ∈ ys, y.cps.size ≤ B) : (ys.map (·.length)).sum ≤ ys.length * B := by
  induction ys with
  | nil => simp
  | cons y ys ih =>
    have h1 : y.length ≤ B := h y (.head _)
    have h2 := ih fun z hz => h z (.tail _ hz)
    simp only [List.map_cons, List.sum_cons, List.length_cons, Nat.succ_mul]
    omega
theorem join_len {ys : List Str} {B : Nat} (h : ∀ y ∈ ys, y.cps.size ≤ B) : (Txt.join (" " : Str) ys).length ≤ ys.length * (B + 1) := by
  show (PySem.Builtin.Str.glued (" " : Str) ys).length ≤ _
  rw [StrLaws.glued_eq_join]
  refine Nat.le_trans (StrLaws.join_length_le _ _) ?_
  have := sum_len h
  have e : (Str.ofString " ").length = 1 := by decide +kernel
  rw [e, Nat.mul_add]
  omega
theorem empty_app (x : Str) : Str.empty ++ x = x := KPc.empty_app x
theorem len_app (x y : Str) : (x ++ y).length = x.length + y.length := strLen_append x y
theorem dedup_snoc (ys : List Str) (y : Str) : dedup (ys ++ [y]) = if y ∈ dedup ys then dedup ys else dedup ys ++ [y] := by unfold dedup; rw [List.foldl_append]; rfl
theorem dedup_sub (ys : List Str) : ∀ y ∈ dedup ys, y ∈ ys := by
  unfold dedup
  suffices h : ∀ (ys acc : List Str) (S : List Str), (∀ y ∈ acc, y ∈ S) → (∀ y ∈ ys, y ∈ S) → ∀ y ∈ ys.foldl (fun acc y => if y ∈ acc then acc else acc ++ [y]) acc, y ∈ S from h ys [] ys (fun y h => (nomatch h)) fun y h => h
  intro ys
  induction ys with
  | nil => intro acc S h1 h2 y hy; exact h1 y hy
  | cons z ys ih =>
    intro acc S h1 h2
    refine ih _ S ?_ fun y hy => h2 y (.tail _ hy)
    intro y hy
    dsimp only at hy
    split at hy
    · exact h1 y hy
    · rcases List.mem_append.mp hy with h | h
      · exact h1 y h
      · rw [List.mem_singleton.mp h]; exact h2 z (.head _)
theorem dedup_len (ys : List Str) : (dedup ys).length ≤ ys.length := by
  unfold dedup
  suffices h : ∀ (ys acc : List Str), (ys.foldl (fun acc y => if y ∈ acc then acc else acc ++ [y]) acc).length ≤ acc.length + ys.length by simpa using h ys []
  intro ys
  induction ys with
  | nil => intro acc; exact Nat.le_refl _
  | cons z ys ih =>
    intro acc
    refine Nat.le_trans (ih _) ?_
    dsimp only
    split <;> simp <;> omega
theorem vStrs_mem {y : Str} {ys : List Str} : V.str y ∈ vStrs ys ↔ y ∈ ys := by
  unfold vStrs
  rw [List.mem_map]
  exact ⟨fun ⟨z, hz, e⟩ => by cases e; exact hz, fun h => ⟨y, h, rfl⟩⟩
theorem vStrs_get {ys : List Str} {k : Nat} {y : Str} (e : ys[k]? = some y) : (vStrs ys)[k]? = some (.str y) := by unfold vStrs; rw [List.getElem?_map, e]; rfl
theorem vStrs_len (ys : List Str) : (vStrs ys).length = ys.length := by simp [vStrs]
theorem take_snoc {α : Type} {ys : List α} {k : Nat} {y : α} (e : ys[k]? = some y) : ys.take (k + 1) = ys.take k ++ [y] := by
  have hlt : k < ys.length := by rw [List.getElem?_eq_some_iff] at e; exact e.1
  have hget : ys[k] = y := by rw [List.getElem?_eq_getElem hlt] at e; exact Option.some.inj e
  rw [List.take_succ_eq_append_getElem hlt, hget]
end Mine
end
section
namespace Mine
theorem kst {k i n : Nat} (h : k + i = n) (hi : i < n) : k - 1 < k ∧ k - 1 + (i + 1) = n := by omega
noncomputable abbrev hdK : Params → Frag := lawHeap
noncomputable abbrev aIsId : Addr := 39
noncomputable abbrev aRmost : Addr := 111
noncomputable abbrev aGrammar : Addr := 246
noncomputable abbrev aProd : Addr := 100
noncomputable abbrev aProdInit : Addr := 62
noncomputable abbrev aGInit : Addr := 137
noncomputable abbrev aAdd : Addr := 166
noncomputable abbrev aStart : Addr := 174
noncomputable def isId.body : List Stmt := stBody (stAt pw.main.body 3)
noncomputable def isId.scope : Scope := stScope (stAt pw.main.body 3)
noncomputable def isId.params : Arguments := stArgs (stAt pw.main.body 3)
noncomputable def isId.code : Value := (Value.ref 38)
theorem isId.at (P : Params) : List.lookup 39 (lawHeap P) = some (Obj.mk (Value.type "function") none (Data.func (fnOf (Str.ofString "_is_identifier") (Str.ofString "_is_identifier") isId.params isId.body isId.scope (Value.none) (Value.none) (Value.none) (Value.str (Str.ofString "ply.yacc") 194) (none) isId.code (Value.none))) #[]) := by kernel_rfl
noncomputable def rmostF.body : List Stmt := stBody (stAt pw.main.body 7)
noncomputable def rmostF.scope : Scope := stScope (stAt pw.main.body 7)
noncomputable def rmostF.params : Arguments := stArgs (stAt pw.main.body 7)
noncomputable def rmostF.code : Value := (Value.ref 110)
theorem rmostF.at (P : Params) : List.lookup 111 (lawHeap P) = some (Obj.mk (Value.type "function") none (Data.func (fnOf (Str.ofString "rightmost_terminal") (Str.ofString "rightmost_terminal") rmostF.params rmostF.body rmostF.scope (Value.none) (Value.none) (Value.none) (Value.str (Str.ofString "ply.yacc") 194) (none) rmostF.code (Value.none))) #[]) := by kernel_rfl
noncomputable def prodInit.body : List Stmt := stBody (stAt (stBody (stAt pw.main.body 6)) 2)
noncomputable def prodInit.scope : Scope := stScope (stAt (stBody (stAt pw.main.body 6)) 2)
noncomputable def prodInit.params : Arguments := stArgs (stAt (stBody (stAt pw.main.body 6)) 2)
noncomputable def prodInit.code : Value := (Value.ref 61)
theorem prodInit.at (P : Params) : List.lookup 62 (lawHeap P) = some (Obj.mk (Value.type "function") none (Data.func (fnOf (Str.ofString "__init__") (Str.ofString "Production.__init__") prodInit.params prodInit.body prodInit.scope (Value.ref 55) (Value.none) (Value.none) (Value.str (Str.ofString "ply.yacc") 194) (none) prodInit.code (Value.none))) #[]) := by kernel_rfl
noncomputable def gInit.body : List Stmt := stBody (stAt (stBody (stAt pw.main.body 9)) 0)
noncomputable def gInit.scope : Scope := stScope (stAt (stBody (stAt pw.main.body 9)) 0)
noncomputable def gInit.params : Arguments := stArgs (stAt (stBody (stAt pw.main.body 9)) 0)
noncomputable def gInit.code : Value := (Value.ref 136)
theorem gInit.at (P : Params) : List.lookup 137 (lawHeap P) = some (Obj.mk (Value.type "function") none (Data.func (fnOf (Str.ofString "__init__") (Str.ofString "Grammar.__init__") gInit.params gInit.body gInit.scope (Value.none) (Value.none) (Value.none) (Value.str (Str.ofString "ply.yacc") 194) (none) gInit.code (Value.none))) #[]) := by kernel_rfl
noncomputable def addP.body : List Stmt := stBody (stAt (stBody (stAt pw.main.body 9)) 4)
noncomputable def addP.scope : Scope := stScope (stAt (stBody (stAt pw.main.body 9)) 4)
noncomputable def addP.params : Arguments := stArgs (stAt (stBody (stAt pw.main.body 9)) 4)
noncomputable def addP.code : Value := (Value.ref 165)
theorem addP.at (P : Params) : List.lookup 166 (lawHeap P) = some (Obj.mk (Value.type "function") none (Data.func (fnOf (Str.ofString "add_production") (Str.ofString "Grammar.add_production") addP.params addP.body addP.scope (Value.ref 159) (Value.none) (Value.none) (Value.str (Str.ofString "ply.yacc") 194) (none) addP.code (Value.none))) #[]) := by kernel_rfl
noncomputable def setStart.body : List Stmt := stBody (stAt (stBody (stAt pw.main.body 9)) 5)
noncomputable def setStart.scope : Scope := stScope (stAt (stBody (stAt pw.main.body 9)) 5)
noncomputable def setStart.params : Arguments := stArgs (stAt (stBody (stAt pw.main.body 9)) 5)
noncomputable def setStart.code : Value := (Value.ref 173)
theorem setStart.at (P : Params) : List.lookup 174 (lawHeap P) = some (Obj.mk (Value.type "function") none (Data.func (fnOf (Str.ofString "set_start") (Str.ofString "Grammar.set_start") setStart.params setStart.body setStart.scope (Value.ref 167) (Value.none) (Value.none) (Value.str (Str.ofString "ply.yacc") 194) (none) setStart.code (Value.none))) #[]) := by kernel_rfl
end Mine
end
section
set_option autoImplicit false
namespace Mine
section
variable {W : Wd} {A : Around} {env : Env} {outer : Outs} {loc : Loc} {mem : Mem} {E : Ex W}
theorem isId_spec {Q : V → Loc → Mem → Prop} (hK : W.K = hdK W.w.params) (c : Calm A 900 8000) {x : Str} (hz : x.cps.size ≤ 1000)
    (h : Q (.bool (isIdent x)) loc mem) : OpV W A env outer (fun vs => call (.ref aIsId) vs) [.str x] loc mem Q E := by
  refine call_fn (bs := [("s", .str x)]) (by rw [hK]; exact isId.at _) (by rw [hK]; rfl) (c.room (by decide)) ?_ (by intro y hy; simp at hy; subst hy; rfl) (by decide) rfl rfl rfl ?_
  · intro F s vs hb hk r
    cases r.view with
    | cons r1 r2 =>
      cases r2.view
      exact ⟨_, BindsTo.of_eq rfl, .cons r1 .nil⟩
  · intro L outer
    have cd := c.deeper (envX "_is_identifier" isId.scope L 39 isId.code [])
    (refine nameS ?_; intro aa vv oo qq ee; refine s_cons ?_); refine s_ret ?_; refine e_and2 ?_; refine e_cmp rfl ?_; refine c_name rfl ?_; refine e_boot rfl rfl rfl rfl rfl (by rw [hK]; rfl) rfl (by decide) ?_; refine c_builtin rfl rfl ?_; refine a_cons rfl ?_; refine e_local rfl rfl rfl rfl ?_; refine a_nil ?_
    refine len_s (by show (x.cps.size : Int) < _; omega) ?_
    refine e_int ?_; refine gt_ii ?_; refine tr_bool ?_
    refine ⟨fun hb => ?_, fun hb => ?_⟩
    · have hb : 0 < x.cps.size := by have := of_decide_eq_true hb; show 0 < x.cps.size; exact Int.ofNat_lt.mp this
      refine c_name rfl ?_; refine e_boot rfl rfl rfl rfl rfl (by rw [hK]; rfl) rfl (by decide) ?_; refine c_builtin rfl rfl ?_; refine a_cons rfl ?_; refine e_listcomp rfl (by decide) rfl (by decide) (fun _ => rfl) ?_; refine e_local rfl rfl rfl rfl ?_
      refine comp_map (itr_str cd.handled) ((chars x).map .str) (fun m i _ hi => ?_) (by simp [chars]; have : (1000 : Nat) ≤ sizeLine := by decide
                                                                                         omega) (fun v => match v with | .str c => some (.bool (strIn c IDENT)) | _ => none) ?_ ?_
      · simp [strItem, chars, Function.comp_def]
      · intro C outer' i v hv
        obtain ⟨ch, rfl⟩ : ∃ ch, v = .str ch := by
          rw [List.getElem?_map] at hv
          cases q : (chars x)[i]? with
          | none => rw [q] at hv; cases hv
          | some ch => rw [q] at hv; exact ⟨ch, (Option.some.inj hv).symm⟩
        refine asg_name ?_; refine st_local rfl rfl ?_; refine e_cmp rfl ?_; refine e_local rfl rfl rfl rfl ?_; refine e_top (v := .str _) rfl rfl rfl rfl (by rw [hK]; rfl) (fun _ _ => .str _ _) ?_; refine in_ss ?_
        exact ⟨rfl, sub_refl _⟩
      · intro D hD
        refine a_nil ?_
        refine all_bools (bs := (chars x).map fun c => strIn c IDENT) cd.handled (.own (by rw [mset_self]; congr 2; simp [List.filterMap_map, Function.comp_def])) ?_
        skip
        refine ⟨mem, sub_mset hD (sub_refl _), ?_⟩
        have e : isIdent x = (List.map (fun c => strIn c IDENT) (chars x)).all id := by
          unfold isIdent; rw [decide_eq_true hb, Bool.true_and, List.all_map]; rfl
        rw [e] at h; exact h
    · have hb : ¬ 0 < x.cps.size := by have := of_decide_eq_false hb; exact fun q => this (Int.ofNat_lt.mpr q)
      skip
      refine ⟨mem, sub_refl _, ?_⟩
      have e : isIdent x = decide (0 < (x.length : Int)) := by
        unfold isIdent; rw [decide_eq_false hb, Bool.false_and]; exact (decide_eq_false (fun q => hb (Int.ofNat_lt.mp q))).symm
      rw [e] at h; exact h
inductive P2A_J1 (mem : Mem) (sy : Addr) (te : Addr) (syms : List Str) (es : List (Str × V)) (k : Nat) (l : Loc) (m : Mem) : Prop
  | mk (h1_ : m = mem) (h2_ : LSub [("terminals", .ref te), ("symbols", .ref sy), ("i", .int ((k : Int) - 1))] l) (h3_ : k ≤ syms.length) (h4_ : rmost (es.map (·.1)) syms = rmost (es.map (·.1)) (syms.take k))
theorem rmost_spec {Q : V → Loc → Mem → Prop} (hK : W.K = hdK W.w.params) (c : Calm A 900 8000) {sy te : Addr} {syms : List Str} {es : List (Str × V)} {ep : Nat} (hs : mem sy = some (.list (vStrs syms))) (ht : mem te = some (.dict es ep)) (hz : syms.length ≤ 1000)
    (h : Q (match rmost (es.map (·.1)) syms with | some s => .str s | none => .none) loc mem) : OpV W A env outer (fun vs => call (.ref aRmost) vs) [.ref sy, .ref te] loc mem Q E := by
  refine call_fn (bs := [("symbols", .ref sy), ("terminals", .ref te)]) (by rw [hK]; exact rmostF.at _) (by rw [hK]; rfl) (c.room (by decide)) ?_ (by intro y hy; simp at hy; rcases hy with rfl | rfl <;> rfl) (by decide) rfl rfl rfl ?_
  · intro F s vs hb hk r
    cases r.view with
    | cons r1 r2 =>
      cases r2 with
      | cons r2 r3 =>
        cases r3
        exact ⟨_, BindsTo.of_eq rfl, .cons r1 (.cons r2 .nil)⟩
  · intro L outer
    have cd := c.deeper (envX "rightmost_terminal" rmostF.scope L 111 rmostF.code [])
    (refine nameS ?_; intro aa vv oo qq ee; refine s_cons ?_); refine s_assign rfl ?_; refine e_binop ?_; refine c_name rfl ?_; refine e_boot rfl rfl rfl rfl rfl (by rw [hK]; rfl) rfl (by decide) ?_; refine c_builtin rfl rfl ?_; refine a_cons rfl ?_; refine e_local rfl rfl rfl rfl ?_; refine a_nil ?_
    refine len_sq (.own hs) (by simp [vStrs]; omega) ?_
    refine e_int ?_; refine sub_ii ?_; refine st_local rfl rfl ?_; refine s_cons ?_
    have lk : ∀ (k : Nat) (y : Str), syms[k]? = some y → (vStrs syms)[k]? = some (.str y) := fun k y e => by unfold vStrs; rw [List.getElem?_map, e]; rfl
    have stp : ∀ (k : Nat) (y : Str), syms[k]? = some y → rmost (es.map (·.1)) (syms.take (k + 1)) = if (es.map (·.1)).contains y then some y else rmost (es.map (·.1)) (syms.take k) := fun k y e => by
      have hlt : k < syms.length := by rw [List.getElem?_eq_some_iff] at e; exact e.1
      have hget : syms[k] = y := by rw [List.getElem?_eq_getElem hlt] at e; exact Option.some.inj e
      unfold rmost
      rw [List.take_succ_eq_append_getElem hlt, hget, List.reverse_append, List.reverse_singleton, List.singleton_append, List.find?_cons]
      cases (es.map (·.1)).contains y <;> rfl
    have hin : ∀ y, (getA es y).isSome = (es.map (·.1)).contains y := fun y => by
      unfold getA
      rw [Option.isSome_map, Bool.eq_iff_iff, List.find?_isSome, List.contains_iff_mem, List.mem_map]
      constructor
      · rintro ⟨p, hp, e⟩; exact ⟨p, hp, of_decide_eq_true e⟩
      · rintro ⟨p, hp, e⟩; exact ⟨p, hp, decide_eq_true e⟩
    let J1 : Nat → Loc → Mem → Prop := P2A_J1 mem sy te syms es
    refine s_while J1 ?_ syms.length ⟨rfl, by rw [show (vStrs syms).length = syms.length by simp [vStrs]]; rfl, Nat.le_refl _, by rw [List.take_length]⟩
    rintro k l m ⟨rfl, hl, hk, hr⟩
    refine Tr.locs hl ?_
    refine b_cmp rfl ?_; refine e_local rfl rfl rfl rfl ?_; refine e_int ?_
    refine ge_ii ?_
    refine tr_bool ?_
    refine ⟨fun hb => ?_, fun hb => ?_⟩
    · have hb := of_decide_eq_true hb
      obtain ⟨k, rfl⟩ : ∃ j, k = j + 1 := ⟨k - 1, by omega⟩
      have hlt : k < syms.length := by omega
      have hget : syms[k]? = some syms[k] := List.getElem?_eq_getElem hlt
      have st := stp k _ hget
      have e1 : (((k + 1 : Nat) : Int) - 1) = (k : Int) := by omega
      rw [e1]
      (refine nameQ ?_; intro qq ee; refine s_cons ?_); refine s_if ?_; refine b_cmp rfl ?_; refine e_sub (fun _ _ => rfl) ?_; refine e_local rfl rfl rfl rfl ?_; refine e_local rfl rfl rfl rfl ?_
      refine sub_sq (.own hs) (Int.natCast_nonneg _) (by omega) (by rw [Int.toNat_natCast]; exact lk k _ hget) ?_
      refine e_local rfl rfl rfl rfl ?_
      refine in_dict ht ?_
      refine tr_bool ?_
      refine ⟨fun hb2 => ?_, fun hb2 => ?_⟩
      · (refine nameQ ?_; intro qq ee; refine s_cons ?_); refine s_ret ?_; refine e_sub (fun _ _ => rfl) ?_; refine e_local rfl rfl rfl rfl ?_; refine e_local rfl rfl rfl rfl ?_
        refine sub_sq (.own hs) (Int.natCast_nonneg _) (by omega) (by rw [Int.toNat_natCast]; exact lk k _ hget) ?_
        skip
        refine ⟨m, sub_refl _, ?_⟩
        rw [hin] at hb2
        rw [hr, st, if_pos hb2] at h
        exact h
      · refine s_nil ?_; refine s_cons ?_; refine s_aug rfl rfl rfl ?_; refine e_int ?_; refine isub_ii ?_; refine st_local rfl rfl ?_; refine s_nil ?_
        rw [hin] at hb2
        refine ⟨k, by omega, rfl, rfl, by omega, ?_⟩
        rw [hr, st, if_neg (by rw [hb2]; exact Bool.false_ne_true)]
    · have hb := of_decide_eq_false hb
      obtain rfl : k = 0 := by omega
      refine s_nil ?_; refine s_cons ?_; refine s_ret ?_; refine e_none ?_
      refine ⟨m, sub_refl _, ?_⟩
      rw [hr] at h
      exact h
end
end Mine
end
section
set_option autoImplicit false
namespace Mine
section
variable {W : Wd} {A : Around} {env : Env} {outer : Outs} {loc : Loc} {mem : Mem} {E : Ex W}
inductive P2B_J1 (syms : List Str) (x : Addr) (au : Addr) (m : Mem) (k : Nat) (i : Nat) (l : Loc) (m1 : Mem) : Prop
  | mk (h1_ : k + i = syms.length) (h2_ : LSub [("self", .ref x)] l) (h3_ : m1 au = some (.list (vStrs (dedup (syms.take i))))) (h4_ : ∀ b, b ≠ au → m1 b = m b)
theorem prod_spec' {num prec func file line sv : V} {xs : List V} {name : Str} {syms : List Str} {Q : V → Loc → Mem → Prop} (hK : W.K = hdK W.w.params) (c : Calm A 800 7000) (q : Sq mem sv "list" (vStrs syms)) (hz : syms.length ≤ 100) (hy : ∀ y ∈ syms, y.cps.size ≤ 100 ∧ PyData.strOk y = true) (hn : name.cps.size ≤ 100) (hr : notRef num = true ∧ notRef prec = true ∧ notRef func = true ∧ notRef file = true ∧ notRef line = true)
    (hbind : ∀ x : Addr, Binds W (fnOf "__init__" "Production.__init__" prodInit.params prodInit.body prodInit.scope (.ref 55) .none .none (.str "ply.yacc" 194) none prodInit.code .none) [] (.ref x :: xs) [("self", .ref x), ("number", num), ("name", .str name), ("prod", sv), ("precedence", prec), ("func", func), ("file", file), ("line", line)])
    (h : Q (.ins aProd (prodAttrs num name syms prec func file line)) loc mem) : OpV W A env outer (fun vs => call (.ref aProd) vs) xs loc mem Q E := by
  refine Op.shift ?_
  refine call_cls (C := aProd) (f := aProdInit) (bs := fun x => [("self", .ref x), ("number", num), ("name", .str name), ("prod", sv), ("precedence", prec), ("func", func), ("file", file), ("line", line)]) (by rw [hK]; first | rfl | kernel_rfl | decide +kernel) (by rw [hK]; first | rfl | kernel_rfl | decide +kernel) (by rw [hK]; first | rfl | kernel_rfl | decide +kernel)
    (by rw [hK]; exact prodInit.at _) (by rw [hK]; first | rfl | kernel_rfl | decide +kernel) (Nat.lt_of_le_of_lt (Nat.succ_le_succ c.depth) (by decide)) ?_ (by intro x y hy; simp at hy; rcases hy with rfl | rfl | rfl | rfl | rfl | rfl | rfl | rfl <;> rfl) (by decide) rfl rfl rfl ?_
  · exact hbind
  · intro A' x d hA hh hg hfr hu mx md hxd L outer
    have c1 : Calm A' 801 7008 := ⟨hh.trans c.handled, hg.trans c.guards, by have := c.depth; omega, by have := c.units; omega⟩
    have cd := c1.deeper (envX "Production.__init__" prodInit.scope L 62 prodInit.code [])
    obtain ⟨m, hm⟩ : ∃ m, m = mset (mset mem d (.dict [] 0)) x (.inst aProd d) := ⟨_, rfl⟩
    have hx : m x = some (.inst aProd d) := by rw [hm, mset_self]
    have hd : m d = some (.dict [] 0) := by rw [hm, mset_ne (Ne.symm hxd), mset_self]
    have hs : Sub mem m := by rw [hm]; exact sub_mset (by rw [mset_ne hxd]; exact mx) (sub_mset md (sub_refl _))
    rw [← hm]
    clear hm
    (refine nameS ?_; intro aa vv oo qq ee; refine s_cons ?_); refine s_assign_attr rfl ?_; refine e_local rfl rfl rfl rfl ?_; refine e_local rfl rfl rfl rfl ?_
    (refine set_o hK (fun _ => by kernel_rfl) hx hd rfl (fun m zep zhx zhd zhf => ?_); have hs := Sub.upd hs md zhf; (have hx := Eq.trans (zhf _ (by assumption)) hx); have hd := zhd; clear zhd zhx; (have hd : _ = some (AObj.dict [(Str.ofString "name", _)] _) := hd))
    refine s_cons ?_; refine s_assign_attr rfl ?_; refine c_name rfl ?_; refine e_boot rfl rfl rfl rfl rfl (by rw [hK]; rfl) rfl (by decide) ?_; refine c_type rfl rfl ?_; refine a_cons rfl ?_; refine e_local rfl rfl rfl rfl ?_; refine a_nil ?_
    refine tuple_list (Sq.mono ‹Sq mem sv "list" (vStrs syms)› hs) (by simp [vStrs]; exact Nat.le_trans hz (by decide)) ?_
    refine e_local rfl rfl rfl rfl ?_
    (refine set_o hK (fun _ => by kernel_rfl) hx hd rfl (fun m zep zhx zhd zhf => ?_); have hs := Sub.upd hs md zhf; (have hx := Eq.trans (zhf _ (by assumption)) hx); have hd := zhd; clear zhd zhx; (have hd : _ = some (AObj.dict [(Str.ofString "name", _), (Str.ofString "prod", _)] _) := hd))
    refine s_cons ?_; refine s_assign_attr rfl ?_; refine e_local rfl rfl rfl rfl ?_; refine e_local rfl rfl rfl rfl ?_
    (refine set_o hK (fun _ => by kernel_rfl) hx hd rfl (fun m zep zhx zhd zhf => ?_); have hs := Sub.upd hs md zhf; (have hx := Eq.trans (zhf _ (by assumption)) hx); have hd := zhd; clear zhd zhx; (have hd : _ = some (AObj.dict [(Str.ofString "name", _), (Str.ofString "prod", _), (Str.ofString "number", _)] _) := hd))
    refine s_cons ?_; refine s_assign_attr rfl ?_; refine e_local rfl rfl rfl rfl ?_; refine e_local rfl rfl rfl rfl ?_
    (refine set_o hK (fun _ => by kernel_rfl) hx hd rfl (fun m zep zhx zhd zhf => ?_); have hs := Sub.upd hs md zhf; (have hx := Eq.trans (zhf _ (by assumption)) hx); have hd := zhd; clear zhd zhx; (have hd : _ = some (AObj.dict [(Str.ofString "name", _), (Str.ofString "prod", _), (Str.ofString "number", _), (Str.ofString "func", _)] _) := hd))
    refine s_cons ?_; refine s_assign_attr rfl ?_; refine e_none ?_; refine e_local rfl rfl rfl rfl ?_
    (refine set_o hK (fun _ => by kernel_rfl) hx hd rfl (fun m zep zhx zhd zhf => ?_); have hs := Sub.upd hs md zhf; (have hx := Eq.trans (zhf _ (by assumption)) hx); have hd := zhd; clear zhd zhx; (have hd : _ = some (AObj.dict [(Str.ofString "name", _), (Str.ofString "prod", _), (Str.ofString "number", _), (Str.ofString "func", _), (Str.ofString "callable", _)] _) := hd))
    refine s_cons ?_; refine s_assign_attr rfl ?_; refine e_local rfl rfl rfl rfl ?_; refine e_local rfl rfl rfl rfl ?_
    (refine set_o hK (fun _ => by kernel_rfl) hx hd rfl (fun m zep zhx zhd zhf => ?_); have hs := Sub.upd hs md zhf; (have hx := Eq.trans (zhf _ (by assumption)) hx); have hd := zhd; clear zhd zhx; (have hd : _ = some (AObj.dict [(Str.ofString "name", _), (Str.ofString "prod", _), (Str.ofString "number", _), (Str.ofString "func", _), (Str.ofString "callable", _), (Str.ofString "file", _)] _) := hd))
    refine s_cons ?_; refine s_assign_attr rfl ?_; refine e_local rfl rfl rfl rfl ?_; refine e_local rfl rfl rfl rfl ?_
    (refine set_o hK (fun _ => by kernel_rfl) hx hd rfl (fun m zep zhx zhd zhf => ?_); have hs := Sub.upd hs md zhf; (have hx := Eq.trans (zhf _ (by assumption)) hx); have hd := zhd; clear zhd zhx; (have hd : _ = some (AObj.dict [(Str.ofString "name", _), (Str.ofString "prod", _), (Str.ofString "number", _), (Str.ofString "func", _), (Str.ofString "callable", _), (Str.ofString "file", _), (Str.ofString "line", _)] _) := hd))
    refine s_cons ?_; refine s_assign_attr rfl ?_; refine e_local rfl rfl rfl rfl ?_; refine e_local rfl rfl rfl rfl ?_
    (refine set_o hK (fun _ => by kernel_rfl) hx hd rfl (fun m zep zhx zhd zhf => ?_); have hs := Sub.upd hs md zhf; (have hx := Eq.trans (zhf _ (by assumption)) hx); have hd := zhd; clear zhd zhx; (have hd : _ = some (AObj.dict [(Str.ofString "name", _), (Str.ofString "prod", _), (Str.ofString "number", _), (Str.ofString "func", _), (Str.ofString "callable", _), (Str.ofString "file", _), (Str.ofString "line", _), (Str.ofString "prec", _)] _) := hd))
    refine s_cons ?_; refine s_assign_attr rfl ?_; refine c_name rfl ?_; refine e_boot rfl rfl rfl rfl rfl (by rw [hK]; rfl) rfl (by decide) ?_; refine c_builtin rfl rfl ?_; refine a_cons rfl ?_; refine e_attr rfl ?_; refine e_local rfl rfl rfl rfl ?_
    refine get_o hK (fun _ => by kernel_rfl) (.own hx hd) rfl rfl ?_
    refine a_nil ?_
    refine len_sq (.tup _) (by simp [vStrs]; omega) ?_
    refine e_local rfl rfl rfl rfl ?_
    (refine set_o hK (fun _ => by kernel_rfl) hx hd rfl (fun m zep zhx zhd zhf => ?_); have hs := Sub.upd hs md zhf; (have hx := Eq.trans (zhf _ (by assumption)) hx); have hd := zhd; clear zhd zhx; (have hd : _ = some (AObj.dict [(Str.ofString "name", _), (Str.ofString "prod", _), (Str.ofString "number", _), (Str.ofString "func", _), (Str.ofString "callable", _), (Str.ofString "file", _), (Str.ofString "line", _), (Str.ofString "prec", _), (Str.ofString "len", _)] _) := hd))
    refine s_cons ?_; refine s_assign_attr rfl ?_; refine e_list ?_; refine a_nil ?_
    refine new_own' (by decide) (fun au mu hau hlu hfu => ?_)
    have mau := Sub.none hs hau
    have hs := Sub.new hs hau hfu
    have hx := Eq.trans (hfu _ (nex hx hau)) hx; have hd := Eq.trans (hfu _ (nex hd hau)) hd
    refine e_local rfl rfl rfl rfl ?_
    (refine set_o hK (fun _ => by kernel_rfl) hx hd rfl (fun m zep zhx zhd zhf => ?_); have hs := Sub.upd hs md zhf; (have hlu := Eq.trans (zhf _ (nex hlu hd)) hlu; have hx := Eq.trans (zhf _ (by assumption)) hx); have hd := zhd; clear zhd zhx; (have hd : _ = some (AObj.dict [(Str.ofString "name", _), (Str.ofString "prod", _), (Str.ofString "number", _), (Str.ofString "func", _), (Str.ofString "callable", _), (Str.ofString "file", _), (Str.ofString "line", _), (Str.ofString "prec", _), (Str.ofString "len", _), (Str.ofString "usyms", _)] _) := hd))
    refine s_cons ?_; refine s_for (fun _ => rfl) ?_; refine e_attr rfl ?_; refine e_local rfl rfl rfl rfl ?_
    refine get_o hK (fun _ => by kernel_rfl) (.own hx hd) rfl rfl ?_
    have hsz : ∀ (k : Nat), (vStrs (dedup (syms.take k))).length ≤ 100 := fun k => by
      rw [vStrs_len]; have := dedup_len (syms.take k); rw [List.length_take] at this; omega
    have hok : ∀ k, (vStrs (dedup (syms.take k))).all (isD 0) = true := fun k => isD_strs (List.all_eq_true.mpr fun y hy' => (hy y (List.mem_of_mem_take (dedup_sub _ y hy'))).2)
    let J1 : Nat → Nat → Loc → Mem → Prop := P2B_J1 syms x au m
    refine for_k (itr_tup cd.handled) J1 ?_ syms.length ⟨rfl, rfl, hlu, fun b _ => rfl⟩
    · rintro k i l m1 ⟨hk, hl, hu1, hf1⟩
      refine ⟨by simp [setItem_], fun hn1 => ?_, fun v hv => ?_⟩
      · have hn1 : (vStrs syms)[i]? = none := Option.some.inj hn1
        rw [List.getElem?_eq_none_iff, vStrs_len] at hn1
        obtain rfl : i = syms.length := by omega
        rw [List.take_length] at hu1
        have hs := Sub.upd hs mau hf1
        have hx := Eq.trans (hf1 _ (nex hx hlu)) hx; have hd := Eq.trans (hf1 _ (nex hd hlu)) hd
        refine Tr.locs hl ?_
        refine s_nil ?_; refine s_cons ?_; refine s_assign_attr rfl ?_; refine e_list ?_; refine a_nil ?_
        refine new_own' (by decide) (fun al m2 hal hll hfl => ?_)
        have mal := Sub.none hs hal
        have nul : au ≠ al := fun e => by rw [e, hal] at hu1; cases hu1
        have hs := Sub.new hs hal hfl
        have hu1 := Eq.trans (hfl _ (by assumption)) hu1; have hx := Eq.trans (hfl _ (nex hx hal)) hx; have hd := Eq.trans (hfl _ (nex hd hal)) hd
        refine e_local rfl rfl rfl rfl ?_
        (refine set_o hK (fun _ => by kernel_rfl) hx hd rfl (fun m zep zhx zhd zhf => ?_); have hs := Sub.upd hs md zhf; (have hll := Eq.trans (zhf _ (nex hll hd)) hll; have hu1 := Eq.trans (zhf _ (nex hu1 hd)) hu1; have hx := Eq.trans (zhf _ (by assumption)) hx); have hd := zhd; clear zhd zhx; (have hd : _ = some (AObj.dict [(Str.ofString "name", _), (Str.ofString "prod", _), (Str.ofString "number", _), (Str.ofString "func", _), (Str.ofString "callable", _), (Str.ofString "file", _), (Str.ofString "line", _), (Str.ofString "prec", _), (Str.ofString "len", _), (Str.ofString "usyms", _), (Str.ofString "lr_items", _)] _) := hd))
        refine s_cons ?_; refine s_assign_attr rfl ?_; refine e_none ?_; refine e_local rfl rfl rfl rfl ?_
        (refine set_o hK (fun _ => by kernel_rfl) hx hd rfl (fun m zep zhx zhd zhf => ?_); have hs := Sub.upd hs md zhf; (have hll := Eq.trans (zhf _ (nex hll hd)) hll; have hu1 := Eq.trans (zhf _ (nex hu1 hd)) hu1; have hx := Eq.trans (zhf _ (by assumption)) hx); have hd := zhd; clear zhd zhx; (have hd : _ = some (AObj.dict [(Str.ofString "name", _), (Str.ofString "prod", _), (Str.ofString "number", _), (Str.ofString "func", _), (Str.ofString "callable", _), (Str.ofString "file", _), (Str.ofString "line", _), (Str.ofString "prec", _), (Str.ofString "len", _), (Str.ofString "usyms", _), (Str.ofString "lr_items", _), (Str.ofString "lr_next", _)] _) := hd))
        refine s_cons ?_; refine s_if ?_; refine b_value rfl ?_; refine e_attr rfl ?_; refine e_local rfl rfl rfl rfl ?_
        refine get_o hK (fun _ => by kernel_rfl) (.own hx hd) rfl rfl ?_
        skip
        refine tr_tup (by rw [vStrs_len]; omega) ?_
        skip
        have fin : ∀ (t : Str) (m : Mem) (ep : Nat), t = ruleText name syms → Sub mem m → m x = some (.inst aProd d) → m au = some (.list (vStrs (dedup syms))) → m al = some (.list []) →
            m d = some (.dict [("name", .str name), ("prod", .tup (vStrs syms)), ("number", num), ("func", func), ("callable", .none), ("file", file), ("line", line), ("prec", prec), ("len", .int (vStrs syms).length), ("usyms", .ref au), ("lr_items", .ref al), ("lr_next", .none), ("str", .str t)] ep) →
            ∃ m', Sub m' m ∧ V.none = V.none ∧ ∃ v' m'', Shift W (.ref x) m' v' m'' ∧ Q v' loc m'' := fun t m ep e hs hx hu hl hd => by
          refine ⟨m, sub_refl _, rfl, .ins aProd (prodAttrs num name syms prec func file line), mem, ?_, h⟩
          have sh := Shift.inst (W := W) (m' := mem) [(au, vStrs (dedup syms)), (al, [])] hx hd (by
            intro p hp
            rcases List.mem_cons.mp hp with rfl | hp
            · exact hu
            · rcases List.mem_cons.mp hp with rfl | hp
              · exact hl
              · cases hp) hs mx md (by
            intro p hp
            rcases List.mem_cons.mp hp with rfl | hp
            · exact mau
            · rcases List.mem_cons.mp hp with rfl | hp
              · exact mal
              · cases hp)
          obtain ⟨n1, n2, n3, n4, n5⟩ := hr
          simp only [List.map_cons, List.map_nil, cvt_id _ n1, cvt_id _ n2, cvt_id _ n3, cvt_id _ n4, cvt_id _ n5] at sh
          have e1 : cvt [(au, vStrs (dedup syms)), (al, [])] (.ref au) = .lst (vStrs (dedup syms)) := by simp [cvt, List.lookup]
          have e2 : cvt [(au, vStrs (dedup syms)), (al, [])] (.ref al) = .lst [] := by
            have : (al == au) = false := by simpa using (Ne.symm nul)
            simp [cvt, List.lookup, this]
          rw [e1, e2, vStrs_len] at sh
          rw [e] at sh
          exact sh
        have jl : (Txt.join (" " : Str) syms).length ≤ 20000 := Nat.le_trans (join_len fun y hy' => (hy y hy').1) (by omega)
        have l4 : (Str.ofString " -> ").length = 4 := by decide +kernel
        have hn' : name.length ≤ 100 := hn
        have hsl : (100000 : Nat) ≤ sizeLine := by decide
        refine ⟨fun hb => ?_, fun hb => ?_⟩
        · (refine nameQ ?_; intro qq ee; refine s_cons ?_); refine s_assign_attr rfl ?_; refine e_joined ?_; refine e_fv_s ?_; refine e_attr rfl ?_; refine e_local rfl rfl rfl rfl ?_
          refine get_o hK (fun _ => by kernel_rfl) (.own hx hd) rfl rfl ?_
          skip
          refine show_str (Nat.le_trans hn (by decide)) ?_
          refine ⟨_, rfl, by rw [empty_app]; omega, ?_⟩
          refine e_str ?_
          refine ⟨_, rfl, by rw [empty_app, len_app, l4]; omega, ?_⟩
          refine e_fv_s ?_; refine c_meth rfl ?_; refine e_str ?_
          refine m_builtin (.str _) PySem.F.plainAttrs_str PySem.F.slot_str_join (by show builtinType _ = _; rw [builtinType_eq_fast]; kernel_rfl) rfl rfl ?_
          refine a_cons rfl ?_; refine e_attr rfl ?_; refine e_local rfl rfl rfl rfl ?_
          refine get_o hK (fun _ => by kernel_rfl) (.own hx hd) rfl rfl ?_
          refine a_nil ?_
          refine join_tup (ys := syms) (by decide) (by have := sum_len fun y hy' => (hy y hy').1; omega) ?_
          skip
          refine show_str (Nat.le_trans jl (by decide)) ?_
          refine ⟨_, rfl, by rw [empty_app, len_app, len_app, l4]; omega, ?_⟩
          refine e_local rfl rfl rfl rfl ?_
          (refine set_o hK (fun _ => by kernel_rfl) hx hd rfl (fun m zep zhx zhd zhf => ?_); have hs := Sub.upd hs md zhf; (have hll := Eq.trans (zhf _ (nex hll hd)) hll; have hu1 := Eq.trans (zhf _ (nex hu1 hd)) hu1; have hx := Eq.trans (zhf _ (by assumption)) hx); have hd := zhd; clear zhd zhx; (have hd : _ = some (AObj.dict [(Str.ofString "name", _), (Str.ofString "prod", _), (Str.ofString "number", _), (Str.ofString "func", _), (Str.ofString "callable", _), (Str.ofString "file", _), (Str.ofString "line", _), (Str.ofString "prec", _), (Str.ofString "len", _), (Str.ofString "usyms", _), (Str.ofString "lr_items", _), (Str.ofString "lr_next", _), (Str.ofString "str", _)] _) := hd))
          refine s_nil ?_; refine s_nil ?_
          refine fin _ _ _ ?_ hs hx hu1 hll hd
          have : syms.isEmpty = false := by cases syms <;> simp_all [vStrs]
          unfold ruleText
          rw [this, empty_app]; rfl
        · (refine nameQ ?_; intro qq ee; refine s_cons ?_); refine s_assign_attr rfl ?_; refine e_binop ?_; refine e_str ?_; refine e_attr rfl ?_; refine e_local rfl rfl rfl rfl ?_
          refine get_o hK (fun _ => by kernel_rfl) (.own hx hd) rfl rfl ?_
          skip
          refine pct_empty (Nat.le_trans hn (by decide)) ?_
          refine e_local rfl rfl rfl rfl ?_
          (refine set_o hK (fun _ => by kernel_rfl) hx hd rfl (fun m zep zhx zhd zhf => ?_); have hs := Sub.upd hs md zhf; (have hll := Eq.trans (zhf _ (nex hll hd)) hll; have hu1 := Eq.trans (zhf _ (nex hu1 hd)) hu1; have hx := Eq.trans (zhf _ (by assumption)) hx); have hd := zhd; clear zhd zhx; (have hd : _ = some (AObj.dict [(Str.ofString "name", _), (Str.ofString "prod", _), (Str.ofString "number", _), (Str.ofString "func", _), (Str.ofString "callable", _), (Str.ofString "file", _), (Str.ofString "line", _), (Str.ofString "prec", _), (Str.ofString "len", _), (Str.ofString "usyms", _), (Str.ofString "lr_items", _), (Str.ofString "lr_next", _), (Str.ofString "str", _)] _) := hd))
          refine s_nil ?_; refine s_nil ?_
          refine fin _ _ _ ?_ hs hx hu1 hll hd
          have : syms.isEmpty = true := by cases syms <;> simp_all [vStrs]
          unfold ruleText
          rw [this]; rfl
      · have hi : (vStrs syms)[i]? = some v := Option.some.inj hv
        obtain ⟨y, rfl, hy1⟩ : ∃ y, v = .str y ∧ syms[i]? = some y := by
          unfold vStrs at hi
          rw [List.getElem?_map] at hi
          cases e : syms[i]? with
          | none => rw [e] at hi; cases hi
          | some y => rw [e] at hi; exact ⟨y, (Option.some.inj hi).symm, rfl⟩
        have hlt : i < syms.length := by rw [List.getElem?_eq_some_iff] at hy1; exact hy1.1
        have hym : y ∈ syms := List.mem_of_getElem? hy1
        have hx := Eq.trans (hf1 _ (nex hx hlu)) hx; have hd := Eq.trans (hf1 _ (nex hd hlu)) hd
        refine Op.locs hl ?_
        refine asg_name ?_; refine st_local rfl rfl ?_; (refine nameQ ?_; intro qq ee; refine s_cons ?_); refine s_if ?_; refine b_cmp rfl ?_; refine e_local rfl rfl rfl rfl ?_; refine e_attr rfl ?_; refine e_local rfl rfl rfl rfl ?_
        refine get_o hK (fun _ => by kernel_rfl) (.own hx hd) rfl rfl ?_
        skip
        refine notin_list (n := 0) (.own hu1) (hy y hym).2 (hok i) (by decide) (cd.fit (by decide)) (fun b hb => ?_)
        refine tr_bool ?_
        refine ⟨fun hb2 => ?_, fun hb2 => ?_⟩
        · (refine nameQ ?_; intro qq ee; refine s_cons ?_); refine s_expr rfl rfl ?_; refine c_meth rfl ?_; refine e_attr rfl ?_; refine e_local rfl rfl rfl rfl ?_
          refine get_o hK (fun _ => by kernel_rfl) (.own hx hd) rfl rfl ?_
          refine m_builtin (.list hu1) PySem.F.plainAttrs_list PySem.F.slot_list_append PySem.F.type_list_append rfl rfl ?_
          refine a_cons rfl ?_; refine e_local rfl rfl rfl rfl ?_; refine a_nil ?_
          refine append_own' hu1 (Nat.le_trans (hsz i) (by decide)) (fun m2 hu2 hf2 => ?_)
          refine s_nil ?_; refine s_nil ?_
          refine ⟨k - 1, (kst hk hlt).1, (kst hk hlt).2, rfl, ?_, fun b hb' => (hf2 b hb').trans (hf1 b hb')⟩
          have : ¬ y ∈ dedup (syms.take i) := fun q => by
            have := hb.mpr (vStrs_mem.mpr q); rw [this] at hb2; cases hb2
          rw [hu2, take_snoc hy1, dedup_snoc, if_neg this]
          simp [vStrs]
        · refine s_nil ?_; refine s_nil ?_
          refine ⟨k - 1, (kst hk hlt).1, (kst hk hlt).2, rfl, ?_, fun b hb' => hf1 b hb'⟩
          have : y ∈ dedup (syms.take i) := by
            refine vStrs_mem.mp (hb.mp ?_)
            cases b with
            | true => rfl
            | false => cases hb2
          rw [hu1, take_snoc hy1, dedup_snoc, if_pos this]
theorem prod_spec {num prec func file line sv : V} {name : Str} {syms : List Str} {Q : V → Loc → Mem → Prop} (hK : W.K = hdK W.w.params) (c : Calm A 800 7000) (q : Sq mem sv "list" (vStrs syms)) (hz : syms.length ≤ 100) (hy : ∀ y ∈ syms, y.cps.size ≤ 100 ∧ PyData.strOk y = true) (hn : name.cps.size ≤ 100) (hr : notRef num = true ∧ notRef prec = true ∧ notRef func = true ∧ notRef file = true ∧ notRef line = true)
    (h : Q (.ins aProd (prodAttrs num name syms prec func file line)) loc mem) : OpV W A env outer (fun vs => call (.ref aProd) vs) [num, .str name, sv, prec, func, file, line] loc mem Q E := by
  refine prod_spec' hK c q hz hy hn hr ?_ h
  · intro x F s vs hb hk r
    cases r with
    | cons r0 r => cases r with
      | cons r1 r => cases r with
        | cons r2 r => cases r with
          | cons r3 r => cases r with
            | cons r4 r => cases r with
              | cons r5 r => cases r with
                | cons r6 r => cases r with
                  | cons r7 r =>
                    cases r
                    exact ⟨_, binds_K (T := 55) hk rfl (by rw [hK]; rfl) rfl rfl rfl, .cons r0 (.cons r1 (.cons r2 (.cons r3 (.cons r4 (.cons r5 (.cons r6 (.cons r7 .nil)))))))⟩
theorem prod_spec3 {num sv : V} {name : Str} {syms : List Str} {Q : V → Loc → Mem → Prop} (hK : W.K = hdK W.w.params) (c : Calm A 800 7000) (q : Sq mem sv "list" (vStrs syms)) (hz : syms.length ≤ 100) (hy : ∀ y ∈ syms, y.cps.size ≤ 100 ∧ PyData.strOk y = true) (hn : name.cps.size ≤ 100) (hr : notRef num = true)
    (h : Q (.ins aProd (prodAttrs num name syms (.tup [.str "right", .int 0]) .none (.str "") (.int 0))) loc mem) : OpV W A env outer (fun vs => call (.ref aProd) vs) [num, .str name, sv] loc mem Q E := by
  refine prod_spec' hK c q hz hy hn ⟨hr, rfl, rfl, rfl, rfl⟩ ?_ h
  intro x F s vs hb hk r
  cases r with
  | cons r0 r => cases r with
    | cons r1 r => cases r with
      | cons r2 r => cases r with
        | cons r3 r =>
          cases r
          refine ⟨_, binds_K (T := 55) hk rfl (by rw [hK]; rfl) rfl rfl rfl, .cons r0 (.cons r1 (.cons r2 (.cons r3 (.cons ?_ (.cons .none (.cons (.str _ _) (.cons (.int _ _) .nil)))))))⟩
          exact .tup (hb _ _ (W.KIn _ _ (by rw [hK]; rfl))) (.cons (.str _ _) (.cons (.int _ _) .nil))
end
end Mine
end
section
set_option autoImplicit false
namespace Mine
section
variable {W : Wd} {A : Around} {env : Env} {outer : Outs} {loc : Loc} {mem R : Mem} {E : Ex W} {F : Frz} {s : Shared}
theorem mun_assoc (m R0 R : Mem) : mun m (mun R0 R) = mun (mun m R0) R := by
  funext a; unfold mun
  cases m a <;> rfl
theorem Sim.split {m R0 : Mem} (S : Sim W env outer loc (mun m R0) R F s) (hd : Dis m R0) : Sim W env outer loc m (mun R0 R) F s ∧ Dis R0 R := by
  have d0 : Dis R0 R := fun a x e => by
    have hm : m a = none := by
      cases q : m a with
      | none => rfl
      | some y => rw [hd a y q] at e; cases e
    exact S.dis a x (by rw [mun_r hm]; exact e)
  refine ⟨⟨fun a x e => ?_, by rw [mun_assoc]; exact S.z⟩, d0⟩
  rw [mun_r (hd a x e)]; exact S.dis a x (mun_l e)
theorem Sim.join {m R0 : Mem} (S : Sim W env outer loc m (mun R0 R) F s) (d0 : Dis R0 R) : Sim W env outer loc (mun m R0) R F s ∧ Dis m R0 := by
  have hd : Dis m R0 := fun a x e => (mun_none (S.dis a x e)).1
  refine ⟨⟨fun a x e => ?_, by rw [← mun_assoc]; exact S.z⟩, hd⟩
  cases q : m a with
  | some y => exact (mun_none (S.dis a y q)).2
  | none => rw [mun_r q] at e; exact d0 a x e
theorem Less.mun {R0 : Mem} (d0 : Dis R0 R) : Less W R (mun R0 R) := by
  refine ⟨fun {env outer loc mem F s} S => ?_, fun a x e => ?_⟩
  rotate_left
  · rw [mun_r]
    · exact e
    · cases z : R0 a with
      | none => rfl
      | some y => rw [d0 a y z] at e; cases e
  refine ⟨fun a x e => (mun_none (S.dis a x e)).2, S.z.drop fun a x e => ?_⟩
  cases q : mem a with
  | some y => rw [mun_l q] at e ⊢; exact e
  | none =>
    rw [mun_r q] at e ⊢
    rw [mun_r]
    · exact e
    · cases z : R0 a with
      | none => rfl
      | some y => rw [d0 a y z] at e; cases e
theorem Op.frame {α β : Type} {RV : Frz → β → α → Prop} {f : List Value → Sem α} {xs : List V} {Q Q' : β → Loc → Mem → Prop} {m R0 : Mem} (hd : Dis m R0) (h : Op W A env outer RV f xs loc m Q E)
    (hQ : ∀ v l m1, Dis m1 R0 → Q v l m1 → Q' v l (mun m1 R0)) : Op W A env outer RV f xs loc (mun m R0) Q' E := fun R F s vs S r => by
  obtain ⟨S1, d0⟩ := S.split hd
  refine wpAny_mono (h _ F s vs S1 r) (fun _ _ ⟨F', x, l, m1, a, b, S2, q⟩ => ?_) fun _ _ e => E.mono (Less.mun d0) (Incl.refl F) e
  obtain ⟨S3, hd1⟩ := S2.join d0
  exact ⟨F', x, l, mun m1 R0, a, b, S3, hQ x l m1 hd1 q⟩
theorem VRs.setN {xs : List V} {vs : List Value} (r : VRs W F xs vs) {k : Nat} {x : V} {v : Value} (rx : VR W F x v) : VRs W F (xs.set k x) (vs.set k v) := by
  induction k generalizing xs vs with
  | zero => cases r with | nil => exact .nil | cons _ r2 => exact .cons rx r2
  | succ k ih => cases r with | nil => exact .nil | cons r1 r2 => exact .cons r1 (ih r2)
theorem setItem_own {a : Addr} {xs : List V} {k : Nat} {x : V} {Q : Loc → Mem → Prop} (h1 : mem a = some (.list xs)) (hk : k < xs.length) (hk2 : k < 1000000) (h : ∀ m' : Mem, m' a = some (.list (xs.set k x)) → (∀ b, b ≠ a → m' b = mem b) → Q loc m') :
    OpU W A env outer (fun | [x, y, z] => setItem x y z | _ => pure ()) [.ref a, .int (k : Int), x] loc mem Q E := op3 fun R F s v u t S r1 r2 r3 => by
  cases r1.view; cases r2.view
  obtain ⟨o, ho, q⟩ := S.memOk _ _ h1
  cases q with
  | @list _ vs n q =>
    refine ki_setAt (items := vs) (n := n) ho (Int.natCast_nonneg _) (by omega) (by rw [q.size]; exact_mod_cast hk) ?_
    refine Post.mk (x := ()) trivial (S.upd (t := s.toks) (d := s.drawn) (x' := .list (xs.set k x)) h1 (fun b ob hb e => ((Heap.SameBut.update ..).2 b hb).trans e) (IsL.update (show IsL s.heap a vs n from ho) _) (.list ?_)) (h _ (mset_self _ _ _) fun b hb => mset_ne hb)
    rw [Int.toNat_natCast, Array.toList_setIfInBounds]
    exact q.setN r3
inductive Rl where
  | self | dict | pl | pn | pm | te | no | fi | fo | pr | up
  | teL (k : Str) | noL (k : Str) | pnL (k : Str) | fiL (k : Str) | foL (k : Str)
deriving DecidableEq
structure MemIs (adr : Rl → Addr) (c : Rl → Option AObj) (m : Mem) : Prop where
  inj : ∀ r r', c r ≠ none → c r' ≠ none → adr r = adr r' → r = r'
  is : ∀ a x, m a = some x ↔ ∃ r, adr r = a ∧ c r = some x
noncomputable def upd {β : Type} (f : Rl → β) (r : Rl) (y : β) : Rl → β := fun r' => if r' = r then y else f r'
theorem upd_self {β : Type} (f : Rl → β) (r : Rl) (y : β) : upd f r y r = y := if_pos rfl
theorem upd_ne {β : Type} {f : Rl → β} {r r' : Rl} {y : β} (h : r' ≠ r) : upd f r y r' = f r' := if_neg h
variable {adr : Rl → Addr} {c : Rl → Option AObj} {m m' : Mem}
theorem MemIs.get {r : Rl} {x : AObj} (M : MemIs adr c m) (h : c r = some x) : m (adr r) = some x := (M.is _ _).mpr ⟨r, rfl, h⟩
theorem MemIs.set {r : Rl} {x y : AObj} (M : MemIs adr c m) (h : c r = some x) (h1 : m' (adr r) = some y) (hf : ∀ b, b ≠ adr r → m' b = m b) : MemIs adr (upd c r (some y)) m' where
  inj a b ha hb e := by
    refine M.inj a b ?_ ?_ e
    · intro q; by_cases z : a = r
      · rw [z, h] at q; cases q
      · rw [upd_ne z] at ha; exact ha q
    · intro q; by_cases z : b = r
      · rw [z, h] at q; cases q
      · rw [upd_ne z] at hb; exact hb q
  is a z := by
    by_cases e : a = adr r
    · subst e
      rw [h1]
      constructor
      · intro q; exact ⟨r, rfl, by rw [upd_self]; exact q⟩
      · rintro ⟨r', e, q⟩
        by_cases hr : r' = r
        · rw [hr, upd_self] at q; exact q
        · rw [upd_ne hr] at q
          exact absurd (M.inj r' r (by rw [q]; exact fun e => nomatch e) (by rw [h]; exact fun e => nomatch e) e) hr
    · rw [hf a e, M.is]
      constructor
      · rintro ⟨r', rfl, q⟩
        have hr : r' ≠ r := fun z => e (by rw [z])
        exact ⟨r', rfl, by rw [upd_ne hr]; exact q⟩
      · rintro ⟨r', rfl, q⟩
        have hr : r' ≠ r := fun z => e (by rw [z])
        exact ⟨r', rfl, by rw [upd_ne hr] at q; exact q⟩
theorem MemIs.new {r : Rl} {a : Addr} {y : AObj} (M : MemIs adr c m) (h : c r = none) (ha : m a = none) (h1 : m' a = some y) (hf : ∀ b, b ≠ a → m' b = m b) : MemIs (upd adr r a) (upd c r (some y)) m' := by
  have off : ∀ r' x, c r' = some x → adr r' ≠ a := fun r' x q e => by
    have := M.get q; rw [e, ha] at this; cases this
  refine ⟨fun p q hp hq e => ?_, fun b z => ?_⟩
  · by_cases h1 : p = r
    · by_cases h2 : q = r
      · rw [h1, h2]
      · rw [h1, upd_self, upd_ne h2] at e
        rw [upd_ne h2] at hq
        cases w : c q with
        | none => exact absurd w hq
        | some x => exact absurd e.symm (off q x w)
    · by_cases h2 : q = r
      · rw [h2, upd_self, upd_ne h1] at e
        rw [upd_ne h1] at hp
        cases w : c p with
        | none => exact absurd w hp
        | some x => exact absurd e (off p x w)
      · rw [upd_ne h1] at hp e
        rw [upd_ne h2] at hq e
        exact M.inj p q hp hq e
  · by_cases e : b = a
    · subst e
      rw [h1]
      constructor
      · intro q; exact ⟨r, by rw [upd_self], by rw [upd_self]; exact q⟩
      · rintro ⟨r', e, q⟩
        by_cases hr : r' = r
        · rw [hr, upd_self] at q; exact q
        · rw [upd_ne hr] at q e
          exact absurd e (off r' _ q)
    · rw [hf b e, M.is]
      constructor
      · rintro ⟨r', e', q⟩
        have hr : r' ≠ r := fun z => by rw [z, h] at q; cases q
        exact ⟨r', by rw [upd_ne hr]; exact e', by rw [upd_ne hr]; exact q⟩
      · rintro ⟨r', e', q⟩
        have hr : r' ≠ r := fun z => by rw [z, upd_self] at e'; exact e e'.symm
        exact ⟨r', by rw [upd_ne hr] at e'; exact e', by rw [upd_ne hr] at q; exact q⟩
set_option genInjectivity false in
set_option genSizeOf false in
structure Pr where
  name : Str
  body : List Str
  num : Int
  prec : V
  func : V
  file : V
  line : V
set_option genInjectivity false in
set_option genSizeOf false in
structure GR where
  p0 : V
  prods : List Pr
  pn : List Str
  te : List (Str × List Int)
  no : List (Str × List Int)
  fi : List (Str × List Str)
  fo : List (Str × List Str)
  pr : List (Str × V)
  up : V
  start : V
noncomputable def pV (C : Addr) (p : Pr) : V := .ins C (prodAttrs (.int p.num) p.name p.body p.prec p.func p.file p.line)
noncomputable def vInts (ns : List Int) : List V := ns.map .int
noncomputable def leaf : Rl → Bool
  | .teL _ | .noL _ | .pnL _ | .fiL _ | .foL _ => true
  | _ => false
theorem leaf_ne {r r' : Rl} (h : leaf r = false) (h' : leaf r' = true) : r ≠ r' := fun e => by rw [e, h'] at h; cases h
noncomputable def gKeys : List (Str × Rl) := [("Productions", .pl), ("Prodnames", .pn), ("Prodmap", .pm), ("Terminals", .te), ("Nonterminals", .no), ("First", .fi), ("Follow", .fo), ("Precedence", .pr)]
noncomputable def gAttrs (adr : Rl → Addr) (up start : V) : List (Str × V) := gKeys.map (fun q => (q.1, V.ref (adr q.2))) ++ [((Str.ofString "UsedPrecedence"), up), ((Str.ofString "Start"), start)]
theorem gKeys_leaf : gKeys.all (fun q => leaf q.2 == false) = true := rfl
theorem gAttrs_eq {adr adr' : Rl → Addr} {up st : V} (h : ∀ r, leaf r = false → adr r = adr' r) : gAttrs adr up st = gAttrs adr' up st :=
  congrArg (fun l => l ++ [((Str.ofString "UsedPrecedence"), up), ((Str.ofString "Start"), st)]) (List.map_congr_left fun (q : Str × Rl) hq => congrArg (fun a => (q.1, V.ref a)) (h q.2 (eq_of_beq (List.all_eq_true.mp gKeys_leaf q hq))))
structure GOk (C CP : Addr) (adr : Rl → Addr) (c : Rl → Option AObj) (g : GR) : Prop where
  self : c .self = some (.inst C (adr .dict))
  dict : ∃ ep, c .dict = some (.dict (gAttrs adr g.up g.start) ep)
  pl : c .pl = some (.list (g.p0 :: g.prods.map (pV CP)))
  pn : ∃ ep, c .pn = some (.dict (g.pn.map fun k => (k, .ref (adr (.pnL k)))) ep)
  pnL : ∀ k, c (.pnL k) = if k ∈ g.pn then some (.list ((g.prods.filter fun p => p.name = k).map (pV CP))) else none
  pm : ∃ ep, c .pm = some (.dict (g.prods.map fun p => (mapText p.name p.body, pV CP p)) ep)
  te : ∃ ep, c .te = some (.dict (g.te.map fun q => (q.1, .ref (adr (.teL q.1)))) ep)
  teL : ∀ k, c (.teL k) = (g.te.lookup k).map fun ns => .list (vInts ns)
  no : ∃ ep, c .no = some (.dict (g.no.map fun q => (q.1, .ref (adr (.noL q.1)))) ep)
  noL : ∀ k, c (.noL k) = (g.no.lookup k).map fun ns => .list (vInts ns)
  fi : ∃ ep, c .fi = some (.dict (g.fi.map fun q => (q.1, .ref (adr (.fiL q.1)))) ep)
  fiL : ∀ k, c (.fiL k) = (g.fi.lookup k).map fun ns => .list (vStrs ns)
  fo : ∃ ep, c .fo = some (.dict (g.fo.map fun q => (q.1, .ref (adr (.foL q.1)))) ep)
  foL : ∀ k, c (.foL k) = (g.fo.lookup k).map fun ns => .list (vStrs ns)
  pr : ∃ ep, c .pr = some (.dict g.pr ep)
  up : c .up = none
noncomputable def GMem (C CP : Addr) (g : GR) (a : Addr) (m : Mem) : Prop := ∃ adr c, MemIs adr c m ∧ GOk C CP adr c g ∧ adr .self = a
theorem getA_map {β : Type} (l : List (Str × β)) (f : Str → V) (k : Str) : getA (l.map fun q => (q.1, f q.1)) k = if (l.map (·.1)).contains k then some (f k) else none := by
  induction l with
  | nil => rfl
  | cons q l ih =>
    unfold getA at ih ⊢
    rw [List.map_cons, List.find?_cons, List.map_cons, List.contains_cons]
    by_cases h : q.1 = k
    · have e : (k == q.1) = true := by simpa using h.symm
      simp [h]
    · have e : (k == q.1) = false := by simpa using (Ne.symm h)
      have e2 : decide (q.1 = k) = false := decide_eq_false h
      simp only [e2, e, Bool.false_or]
      exact ih
theorem stA_new {es : List (Str × V)} {k : Str} {v : V} (h : getA es k = none) : stA es k v = es ++ [(k, v)] := by
  unfold stA
  rw [if_neg]
  intro q
  obtain ⟨e, he, hk⟩ := List.any_eq_true.mp q
  unfold getA at h
  rw [Option.map_eq_none_iff, List.find?_eq_none] at h
  exact h e he hk
theorem lookup_contains {β : Type} (l : List (Str × β)) (k : Str) : (l.lookup k).isSome = (l.map (·.1)).contains k := by
  induction l with
  | nil => rfl
  | cons q l ih =>
    obtain ⟨a, b⟩ := q
    rw [List.lookup_cons, List.map_cons, List.contains_cons]
    cases h : k == a with
    | true => rfl
    | false => simp only [Bool.false_or]; exact ih
end
end Mine
end
section
set_option autoImplicit false
namespace Mine
section
variable {W : Wd} {A : Around} {env : Env} {outer : Outs} {loc : Loc} {mem : Mem} {E : Ex W}
theorem new_set {Q : V → Loc → Mem → Prop} (h : ∀ a, Q (.ref a) loc mem) : OpV W A env outer (fun vs => call (.type "set") vs) [] loc mem Q E := fun R F s vs S r => by
  cases r.view
  exact call_set_0 fun led => Post.mk (.ref _) (S.grow (t := s.toks) (d := s.drawn) fun b o e => Heap.get?_push_of_some _ e) (h _)
noncomputable def g0 (ts : List Str) (up : V) : GR := { p0 := .none, prods := [], pn := [], te := ts.map (fun t => (t, ([] : List Int))) ++ [(("error" : Str), [])], no := [], fi := [], fo := [], pr := [], up := up, start := .none }
inductive P2C_J1 (ts : List Str) (adr1 : Rl → Addr) (cc1 : Rl → Option AObj) (k : Nat) (i : Nat) (l : Loc) (m : Mem) : Prop
  | mk (h1_ : k + i = ts.length) (h2_ : LSub [("self", .ref (adr1 .self))] l) (adr : _) (cc : _) (h3_ : MemIs adr cc m) (h4_ : (∀ r, (∀ k, r ≠ .teL k) → adr r = adr1 r)) (h5_ : (∀ r, (∀ k, r ≠ .teL k) → r ≠ .te → cc r = cc1 r)) (h6_ : (∃ ep, cc .te = some (.dict ((ts.take i).map fun t => (t, .ref (adr (.teL t)))) ep))) (h7_ : ∀ k, cc (.teL k) = if k ∈ ts.take i then some (.list []) else none)
theorem gInit_spec {ts : List Str} {Q : V → Loc → Mem → Prop} (hK : W.K = hdK W.w.params) (c : Calm A 700 6000) (hz : ts.length ≤ 100) (hnd : ts.Nodup) (he : ("error" : Str) ∉ ts)
    (h : ∀ a m up, GMem aGrammar aProd (g0 ts up) a m → Q (.ref a) loc m) : OpV W A env outer (fun vs => call (.ref aGrammar) vs) [.lst (vStrs ts)] loc (fun _ => none) Q E := by
  refine call_cls (C := aGrammar) (f := aGInit) (bs := fun x => [("self", .ref x), ("terminals", .lst (vStrs ts))]) (by rw [hK]; first | rfl | kernel_rfl | decide +kernel) (by rw [hK]; first | rfl | kernel_rfl | decide +kernel) (by rw [hK]; first | rfl | kernel_rfl | decide +kernel)
    (by rw [hK]; exact gInit.at _) (by rw [hK]; first | rfl | kernel_rfl | decide +kernel) (Nat.lt_of_le_of_lt (Nat.succ_le_succ c.depth) (by decide)) ?_ (by intro x y hy; simp at hy; rcases hy with rfl | rfl <;> rfl) (by decide) rfl rfl rfl ?_
  · intro x F s vs hb hk r
    cases r with
    | cons r0 r => cases r with
      | cons r1 r =>
        cases r
        exact ⟨_, BindsTo.of_eq rfl, .cons r0 (.cons r1 .nil)⟩
  · intro A' x d hA hh hg hfr hu mx md hxd L outer
    have c1 : Calm A' 701 6008 := ⟨hh.trans c.handled, hg.trans c.guards, by have := c.depth; omega, by have := c.units; omega⟩
    have cd := c1.deeper (envX "Grammar.__init__" gInit.scope L 137 gInit.code [])
    obtain ⟨m, hm⟩ : ∃ m, m = mset (mset (fun _ => none) d (.dict [] 0)) x (.inst aGrammar d) := ⟨_, rfl⟩
    obtain ⟨adr, cc, M, e1, e2, hadr, hcc⟩ : ∃ (adr : Rl → Addr) (cc : Rl → Option AObj), MemIs adr cc m ∧ cc .self = some (.inst aGrammar d) ∧ cc .dict = some (.dict [] 0) ∧ (adr .self = x ∧ adr .dict = d) ∧ ∀ r, r ≠ .self → r ≠ .dict → cc r = none := by
      refine ⟨fun r => if r = .self then x else d, fun r => if r = .self then some (.inst aGrammar d) else if r = .dict then some (.dict [] 0) else none, ⟨?_, ?_⟩, rfl, rfl, ⟨rfl, rfl⟩, ?_⟩
      · intro r r' h1 h2 e
        by_cases a1 : r = .self <;> by_cases a2 : r' = .self <;> by_cases b1 : r = .dict <;> by_cases b2 : r' = .dict <;> simp_all
      · intro a z
        rw [hm]
        unfold mset
        constructor
        · intro q
          split at q
          · rename_i e; cases q; exact ⟨.self, e.symm, rfl⟩
          · split at q
            · rename_i e; cases q; exact ⟨.dict, e.symm, rfl⟩
            · cases q
        · rintro ⟨r, e, q⟩
          by_cases h1 : r = .self
          · simp only [h1, if_true] at e q; rw [if_pos e.symm]; exact q
          · by_cases h2 : r = .dict
            · subst h2; simp at e q; subst e; rw [if_neg (Ne.symm hxd), if_pos rfl, q]
            · simp only [h1, h2, if_false] at q; cases q
      · intro r h1 h2; simp [h1, h2]
    rw [← hm]
    clear hm
    obtain ⟨rfl, rfl⟩ := hadr
    (refine nameS ?_; intro aa vv oo qq ee; refine s_cons ?_); refine s_assign_attr rfl ?_; refine e_list ?_; refine a_cons rfl ?_; refine e_none ?_; refine a_nil ?_
    refine new_own' (by decide) (fun a1 m1 ha1 hl1 hf1 => ?_)
    have M := M.new (r := .pl) (hcc _ (by decide) (by decide)) ha1 hl1 hf1
    refine e_local rfl rfl rfl rfl ?_
    refine set_o hK (fun _ => by kernel_rfl) (M.get (r := .self) e1) (M.get (r := .dict) e2) rfl (fun m ep hx hd hf => ?_)
    have hd : _ = some (AObj.dict [(Str.ofString "Productions", _)] _) := hd
    have M := M.set (r := .dict) e2 hd hf
    clear hx hd hf
    refine s_cons ?_; refine s_assign_attr rfl ?_
    refine e_dict0' (fun a1 m1 ha1 hl1 hf1 => ?_)
    have M := M.new (r := .pn) (hcc _ (by decide) (by decide)) ha1 hl1 hf1
    clear ha1 hl1 hf1
    refine e_local rfl rfl rfl rfl ?_
    refine set_o hK (fun _ => by kernel_rfl) (M.get (r := .self) e1) (M.get (r := .dict) rfl) rfl (fun m ep hx hd hf => ?_)
    have hd : _ = some (AObj.dict [(Str.ofString "Productions", _), (Str.ofString "Prodnames", _)] _) := hd
    have M := M.set (r := .dict) rfl hd hf
    clear hx hd hf
    refine s_cons ?_; refine s_assign_attr rfl ?_
    refine e_dict0' (fun a1 m1 ha1 hl1 hf1 => ?_)
    have M := M.new (r := .pm) (hcc _ (by decide) (by decide)) ha1 hl1 hf1
    clear ha1 hl1 hf1
    refine e_local rfl rfl rfl rfl ?_
    refine set_o hK (fun _ => by kernel_rfl) (M.get (r := .self) e1) (M.get (r := .dict) rfl) rfl (fun m ep hx hd hf => ?_)
    have hd : _ = some (AObj.dict [(Str.ofString "Productions", _), (Str.ofString "Prodnames", _), (Str.ofString "Prodmap", _)] _) := hd
    have M := M.set (r := .dict) rfl hd hf
    clear hx hd hf
    refine s_cons ?_; refine s_assign_attr rfl ?_
    refine e_dict0' (fun a1 m1 ha1 hl1 hf1 => ?_)
    have M := M.new (r := .te) (hcc _ (by decide) (by decide)) ha1 hl1 hf1
    clear ha1 hl1 hf1
    refine e_local rfl rfl rfl rfl ?_
    refine set_o hK (fun _ => by kernel_rfl) (M.get (r := .self) e1) (M.get (r := .dict) rfl) rfl (fun m ep hx hd hf => ?_)
    have hd : _ = some (AObj.dict [(Str.ofString "Productions", _), (Str.ofString "Prodnames", _), (Str.ofString "Prodmap", _), (Str.ofString "Terminals", _)] _) := hd
    have M := M.set (r := .dict) rfl hd hf
    clear hx hd hf
    refine s_cons ?_; refine s_for (fun _ => rfl) ?_; refine e_local rfl rfl rfl rfl ?_
    obtain ⟨adr1, cc1, M, fs, fd, fself, ⟨epd, fdict⟩, fpl, fpn, fpm, fte, fno⟩ : ∃ (adr1 : Rl → Addr) (cc1 : Rl → Option AObj), MemIs adr1 cc1 m ∧ adr1 .self = adr .self ∧ adr1 .dict = adr .dict ∧ cc1 .self = some (.inst aGrammar (adr1 .dict)) ∧ (∃ ep, cc1 .dict = some (.dict [("Productions", .ref (adr1 .pl)), ("Prodnames", .ref (adr1 .pn)), ("Prodmap", .ref (adr1 .pm)), ("Terminals", .ref (adr1 .te))] ep)) ∧ cc1 .pl = some (.list [.none]) ∧ cc1 .pn = some (.dict [] 0) ∧ cc1 .pm = some (.dict [] 0) ∧ cc1 .te = some (.dict [] 0) ∧ (∀ r, r ≠ .self → r ≠ .dict → r ≠ .pl → r ≠ .pn → r ≠ .pm → r ≠ .te → cc1 r = none) := by
      refine ⟨_, _, M, rfl, rfl, e1, ⟨_, rfl⟩, rfl, rfl, rfl, rfl, fun r h1 h2 h3 h4 h5 h6 => ?_⟩
      simp [upd, h1, h2, h3, h4, h5, h6, hcc]
    rw [← fs] at hxd ⊢
    let J1 : Nat → Nat → Loc → Mem → Prop := P2C_J1 ts adr1 cc1
    refine for_k (itr_lst cd.handled) J1 ?_ ts.length ⟨rfl, rfl, adr1, cc1, M, fun _ _ => rfl, fun _ _ _ => rfl, ⟨0, fte⟩, fun k => by simp; exact fno _ (by simp) (by simp) (by simp) (by simp) (by simp) (by simp)⟩
    · rintro k i l m2 ⟨hk, hl, adr2, cc2, M, hadr, hcc2, ⟨ep2, hte⟩, htl⟩
      have s2 : adr2 .self = adr1 .self := hadr _ (by simp)
      have self2 : cc2 .self = some (.inst aGrammar (adr2 .dict)) := by rw [hadr .dict (by simp), hcc2 _ (by simp) (by simp)]; exact fself
      have dict2 : cc2 .dict = some (.dict [("Productions", .ref (adr2 .pl)), ("Prodnames", .ref (adr2 .pn)), ("Prodmap", .ref (adr2 .pm)), ("Terminals", .ref (adr2 .te))] epd) := by
        rw [hadr .pl (by simp), hadr .pn (by simp), hadr .pm (by simp), hadr .te (by simp), hcc2 _ (by simp) (by simp)]; exact fdict
      have no2 : ∀ r, (∀ k, r ≠ .teL k) → r ≠ .self → r ≠ .dict → r ≠ .pl → r ≠ .pn → r ≠ .pm → r ≠ .te → cc2 r = none := fun r h0 h1 h2 h3 h4 h5 h6 => by rw [hcc2 r h0 h6]; exact fno r h1 h2 h3 h4 h5 h6
      have pl2 : cc2 .pl = some (.list [.none]) := by rw [hcc2 _ (by simp) (by simp)]; exact fpl
      have pn2 : cc2 .pn = some (.dict [] 0) := by rw [hcc2 _ (by simp) (by simp)]; exact fpn
      have pm2 : cc2 .pm = some (.dict [] 0) := by rw [hcc2 _ (by simp) (by simp)]; exact fpm
      clear hxd fself fdict fno
      refine ⟨by simp [setItem_], fun hn1 => ?_, fun v hv => ?_⟩
      · have hn1 : (vStrs ts)[i]? = none := Option.some.inj hn1
        rw [List.getElem?_eq_none_iff, vStrs_len] at hn1
        obtain rfl : i = ts.length := by omega
        rw [List.take_length] at hte htl
        refine Tr.locs hl ?_
        rw [← s2]
        refine s_nil ?_; refine s_cons ?_; refine s_assign_sub rfl ?_; refine e_list ?_; refine a_nil ?_
        refine new_own' (by decide) (fun a1 m1 ha1 hl1 hf1 => ?_)
        have hnew : cc2 (.teL "error") = none := by rw [htl, if_neg he]
        have M1 := M.new (r := .teL "error") hnew ha1 hl1 hf1
        clear ha1 hl1 hf1
        refine e_attr rfl ?_; refine e_local rfl rfl rfl rfl ?_
        refine get_o hK (fun _ => by kernel_rfl) (.own (M1.get (r := .self) self2) (M1.get (r := .dict) dict2)) rfl rfl ?_
        refine e_str ?_
        refine setItem_dict' (M1.get (r := .te) hte) (by rw [List.length_map]; try rw [List.length_take]
                                                         exact Nat.le_trans (by omega) (show 100 ≤ sizeLine by decide)) (fun m3 ep3 hl3 hf3 => ?_)
        have M2 := M1.set (r := .te) hte hl3 hf3
        refine s_cons ?_; refine s_assign_attr rfl ?_
        have M := M2
        clear M1 M2
        refine e_dict0' (fun a1 m1 ha1 hl1 hf1 => ?_)
        have M := M.new (r := .no) (no2 _ (by simp) (by simp) (by simp) (by simp) (by simp) (by simp) (by simp)) ha1 hl1 hf1
        clear ha1 hl1 hf1
        refine e_local rfl rfl rfl rfl ?_
        refine set_o hK (fun _ => by kernel_rfl) (M.get (r := .self) self2) (M.get (r := .dict) dict2) rfl (fun m ep hx hd hf => ?_)
        have hd : _ = some (AObj.dict [(Str.ofString "Productions", _), (Str.ofString "Prodnames", _), (Str.ofString "Prodmap", _), (Str.ofString "Terminals", _), (Str.ofString "Nonterminals", _)] _) := hd
        have M := M.set (r := .dict) dict2 hd hf
        clear hx hd hf
        refine s_cons ?_; refine s_assign_attr rfl ?_
        refine e_dict0' (fun a1 m1 ha1 hl1 hf1 => ?_)
        have M := M.new (r := .fi) (no2 _ (by simp) (by simp) (by simp) (by simp) (by simp) (by simp) (by simp)) ha1 hl1 hf1
        clear ha1 hl1 hf1
        refine e_local rfl rfl rfl rfl ?_
        refine set_o hK (fun _ => by kernel_rfl) (M.get (r := .self) self2) (M.get (r := .dict) rfl) rfl (fun m ep hx hd hf => ?_)
        have hd : _ = some (AObj.dict [(Str.ofString "Productions", _), (Str.ofString "Prodnames", _), (Str.ofString "Prodmap", _), (Str.ofString "Terminals", _), (Str.ofString "Nonterminals", _), (Str.ofString "First", _)] _) := hd
        have M := M.set (r := .dict) rfl hd hf
        clear hx hd hf
        refine s_cons ?_; refine s_assign_attr rfl ?_
        refine e_dict0' (fun a1 m1 ha1 hl1 hf1 => ?_)
        have M := M.new (r := .fo) (no2 _ (by simp) (by simp) (by simp) (by simp) (by simp) (by simp) (by simp)) ha1 hl1 hf1
        clear ha1 hl1 hf1
        refine e_local rfl rfl rfl rfl ?_
        refine set_o hK (fun _ => by kernel_rfl) (M.get (r := .self) self2) (M.get (r := .dict) rfl) rfl (fun m ep hx hd hf => ?_)
        have hd : _ = some (AObj.dict [(Str.ofString "Productions", _), (Str.ofString "Prodnames", _), (Str.ofString "Prodmap", _), (Str.ofString "Terminals", _), (Str.ofString "Nonterminals", _), (Str.ofString "First", _), (Str.ofString "Follow", _)] _) := hd
        have M := M.set (r := .dict) rfl hd hf
        clear hx hd hf
        refine s_cons ?_; refine s_assign_attr rfl ?_
        refine e_dict0' (fun a1 m1 ha1 hl1 hf1 => ?_)
        have M := M.new (r := .pr) (no2 _ (by simp) (by simp) (by simp) (by simp) (by simp) (by simp) (by simp)) ha1 hl1 hf1
        clear ha1 hl1 hf1
        refine e_local rfl rfl rfl rfl ?_
        refine set_o hK (fun _ => by kernel_rfl) (M.get (r := .self) self2) (M.get (r := .dict) rfl) rfl (fun m ep hx hd hf => ?_)
        have hd : _ = some (AObj.dict [(Str.ofString "Productions", _), (Str.ofString "Prodnames", _), (Str.ofString "Prodmap", _), (Str.ofString "Terminals", _), (Str.ofString "Nonterminals", _), (Str.ofString "First", _), (Str.ofString "Follow", _), (Str.ofString "Precedence", _)] _) := hd
        have M := M.set (r := .dict) rfl hd hf
        clear hx hd hf
        refine s_cons ?_; refine s_assign_attr rfl ?_; refine c_name rfl ?_; refine e_boot rfl rfl rfl rfl rfl (by rw [hK]; rfl) rfl (by decide) ?_; refine c_type0 ?_
        refine new_set (fun up => ?_)
        refine e_local rfl rfl rfl rfl ?_
        refine set_o hK (fun _ => by kernel_rfl) (M.get (r := .self) self2) (M.get (r := .dict) rfl) rfl (fun m ep hx hd hf => ?_)
        have hd : _ = some (AObj.dict [(Str.ofString "Productions", _), (Str.ofString "Prodnames", _), (Str.ofString "Prodmap", _), (Str.ofString "Terminals", _), (Str.ofString "Nonterminals", _), (Str.ofString "First", _), (Str.ofString "Follow", _), (Str.ofString "Precedence", _), (Str.ofString "UsedPrecedence", _)] _) := hd
        have M := M.set (r := .dict) rfl hd hf
        clear hx hd hf
        refine s_cons ?_; refine s_assign_attr rfl ?_; refine e_none ?_; refine e_local rfl rfl rfl rfl ?_
        refine set_o hK (fun _ => by kernel_rfl) (M.get (r := .self) self2) (M.get (r := .dict) rfl) rfl (fun m ep hx hd hf => ?_)
        have hd : _ = some (AObj.dict [(Str.ofString "Productions", _), (Str.ofString "Prodnames", _), (Str.ofString "Prodmap", _), (Str.ofString "Terminals", _), (Str.ofString "Nonterminals", _), (Str.ofString "First", _), (Str.ofString "Follow", _), (Str.ofString "Precedence", _), (Str.ofString "UsedPrecedence", _), (Str.ofString "Start", _)] _) := hd
        have M := M.set (r := .dict) rfl hd hf
        clear hx hd hf
        refine s_nil ?_
        have gets : ∀ (b : Addr) (l : List Str), getA (l.map fun t => (t, V.ref (adr2 (.teL t)))) "error" = if l.contains ("error" : Str) then some (.ref (adr2 (.teL "error"))) else none := fun b l => by
          have := getA_map (l.map fun t => (t, ())) (fun t => V.ref (adr2 (.teL t))) "error"
          rw [List.map_map, List.map_map] at this
          simpa [Function.comp_def] using this
        refine ⟨m, sub_refl _, rfl, h _ _ (.ref up) ⟨_, _, M, ?_, s2.trans fs⟩⟩
        refine {
          self := self2
          dict := ⟨_, rfl⟩
          pl := pl2
          pn := ⟨_, pn2⟩
          pnL := fun k => (no2 (.pnL k) (by simp) (by simp) (by simp) (by simp) (by simp) (by simp) (by simp)).trans rfl
          pm := ⟨_, pm2⟩
          te := ⟨ep3, ?_⟩
          teL := fun k => ?_
          no := ⟨_, rfl⟩
          noL := fun k => no2 (.noL k) (by simp) (by simp) (by simp) (by simp) (by simp) (by simp) (by simp)
          fi := ⟨_, rfl⟩
          fiL := fun k => no2 (.fiL k) (by simp) (by simp) (by simp) (by simp) (by simp) (by simp) (by simp)
          fo := ⟨_, rfl⟩
          foL := fun k => no2 (.foL k) (by simp) (by simp) (by simp) (by simp) (by simp) (by simp) (by simp)
          pr := ⟨_, rfl⟩
          up := no2 .up (by simp) (by simp) (by simp) (by simp) (by simp) (by simp) (by simp) }
        · show some (AObj.dict (stA _ _ _) _) = _
          rw [stA_new (by rw [gets 0]; rw [if_neg (by rw [List.contains_iff_mem]; exact he)])]
          simp only [g0, List.map_append, List.map_map, List.map_cons, List.map_nil, Function.comp_def]
          refine congrArg (fun z => some (AObj.dict z ep3)) (congr (congrArg _ (List.map_congr_left fun t ht => ?_)) ?_)
          · have : t ≠ "error" := fun e => he (e ▸ ht)
            simp [upd, this]
          · simp [upd]
        · have hlk : ((g0 ts (.ref up)).te.lookup k).map (fun ns => AObj.list (vInts ns)) = if k = "error" then some (.list []) else if k ∈ ts then some (.list []) else none := by
            have hl : ∀ (l : List Str), (l.map fun t => (t, ([] : List Int))).lookup k = if k ∈ l then some [] else none := fun l => by
              induction l with
              | nil => rfl
              | cons z l ih =>
                rw [List.map_cons, List.lookup_cons, ih]
                by_cases e : k = z
                · subst e; simp
                · have : (k == z) = false := by simpa using e
                  simp [this, e]
            show ((ts.map (fun t => (t, ([] : List Int))) ++ [(("error" : Str), [])]).lookup k).map _ = _
            rw [lookup_append', hl]
            by_cases e : k = "error"
            · subst e; rw [if_neg he, if_pos rfl]; simp [List.lookup, vInts]
            · have : (k == ("error" : Str)) = false := by simpa using e
              by_cases e2 : k ∈ ts
              · rw [if_pos e2, if_neg e, if_pos e2]; rfl
              · rw [if_neg e2, if_neg e, if_neg e2]; simp [List.lookup, this]
          rw [hlk]
          by_cases e : k = "error"
          · subst e; simp [upd]
          · rw [if_neg e, ← htl k]
            simp [upd, e]
      · have hi : (vStrs ts)[i]? = some v := Option.some.inj hv
        obtain ⟨y, rfl, hy1⟩ : ∃ y, v = .str y ∧ ts[i]? = some y := by
          unfold vStrs at hi
          rw [List.getElem?_map] at hi
          cases e : ts[i]? with
          | none => rw [e] at hi; cases hi
          | some y => rw [e] at hi; exact ⟨y, (Option.some.inj hi).symm, rfl⟩
        refine Op.locs hl ?_
        rw [← s2]
        refine asg_name ?_; refine st_local rfl rfl ?_; (refine nameQ ?_; intro qq ee; refine s_cons ?_); refine s_assign_sub rfl ?_; refine e_list ?_; refine a_nil ?_
        refine new_own' (by decide) (fun a1 m1 ha1 hl1 hf1 => ?_)
        have hny : y ∉ ts.take i := fun q => by
          have hlt : i < ts.length := by rw [List.getElem?_eq_some_iff] at hy1; exact hy1.1
          have e := take_snoc hy1
          have nd : (ts.take (i + 1)).Nodup := hnd.sublist (List.take_sublist _ _)
          rw [e, List.nodup_append] at nd
          exact nd.2.2 y q y (by simp) rfl
        have hnew : cc2 (.teL y) = none := by rw [htl, if_neg hny]
        have M1 := M.new (r := .teL y) hnew ha1 hl1 hf1
        refine e_attr rfl ?_; refine e_local rfl rfl rfl rfl ?_
        refine get_o hK (fun _ => by kernel_rfl) (.own (M1.get (r := .self) self2) (M1.get (r := .dict) dict2)) rfl rfl ?_
        refine e_local rfl rfl rfl rfl ?_
        refine setItem_dict' (M1.get (r := .te) hte) (by rw [List.length_map]; try rw [List.length_take]
                                                         exact Nat.le_trans (by omega) (show 100 ≤ sizeLine by decide)) (fun m3 ep3 hl3 hf3 => ?_)
        have M2 := M1.set (r := .te) hte hl3 hf3
        refine s_nil ?_
        refine ⟨k - 1, by have hlt : i < ts.length := by rw [List.getElem?_eq_some_iff] at hy1; exact hy1.1
                          omega, by have hlt : i < ts.length := by rw [List.getElem?_eq_some_iff] at hy1; exact hy1.1
                                    omega, by rw [s2]; rfl, _, _, M2, fun r hr => ?_, fun r hr h2 => ?_, ⟨ep3, ?_⟩, fun k' => ?_⟩
        · rw [upd_ne (hr y)]; exact hadr r hr
        · rw [upd_ne h2, upd_ne (hr y)]; exact hcc2 r hr h2
        · rw [upd_self, stA_new]
          · rw [take_snoc hy1, List.map_append]
            refine congrArg (fun z => some (AObj.dict z ep3)) (congr (congrArg _ (List.map_congr_left fun t ht => ?_)) ?_)
            · have : t ≠ y := fun e => hny (e ▸ ht)
              simp [upd, this]
            · simp [upd]
          · have := getA_map ((ts.take i).map fun t => (t, ())) (fun t => V.ref (adr2 (.teL t))) y
            rw [List.map_map, List.map_map] at this
            rw [show ((ts.take i).map fun t => (t, V.ref (adr2 (.teL t)))) = List.map ((fun q : Str × Unit => (q.1, V.ref (adr2 (.teL q.1)))) ∘ fun t => (t, ())) (ts.take i) from rfl, this, if_neg]
            rw [List.contains_iff_mem]
            intro q; apply hny; simpa [Function.comp_def] using q
        · rw [upd_ne (by simp)]
          by_cases e : k' = y
          · subst e
            rw [upd_self, take_snoc hy1, if_pos (by simp)]
          · rw [upd_ne (by simpa using e), htl, take_snoc hy1]
            simp [e]
end
end Mine
end
section
set_option autoImplicit false
namespace Mine
noncomputable def isNone : Value → Bool
  | .none => true
  | _ => false
theorem isNone_shape {v : Value} (h : isNone v = true) : v = .none := by cases v <;> first | rfl | cases h
noncomputable def noneKind (prog : Program) (w : World) : KeyKind prog w Unit where
  is _ v := isNone v
  hash _ := hashW w.params .none
  inj _ _ _ _ _ := rfl
  byValue _ v h := by rw [isNone_shape h]; rfl
  pyHash := by
    intro A E s k v Q h q
    rw [isNone_shape h]
    exact pyHash_slot (T := "NoneType") rfl PySem.F.slot_NoneType_hash PySem.F.entry_NoneType_hash (PySem.F.args_NoneType_hash_1 _) (beq_builtin_none _) (.inl rfl) (wpAny_bind (wpAny_pure (wpAny_bind (wpAny_mkInt (wpAny_pure ⟨_, _, rfl, q⟩)))))
  eqBool := by
    intro A E s a b u v Q h1 h2 q
    rw [isNone_shape h1, isNone_shape h2]
    unfold PySem.eqBool
    refine wpAny_holding ?_
    show wpAny _ _ (do rule "eq-bool.same-object"; return true) _ _ _
    exact wpAny_bind (wpAny_rule (wpAny_pure q))
  «strs» := fun k x t v h => by cases h
section
variable {W : Wd} {A : Around} {env : Env} {outer : Outs} {loc : Loc} {mem R : Mem} {E : Ex W} {F : Frz} {s : Shared}
theorem dict_get2_none {a : Addr} {ep : Nat} {d : V} {Q : V → Loc → Mem → Prop} (hm : mem a = some (.dict [] ep)) (h : Q d loc mem) :
    OpV W A env outer (fun vs => call (.builtin "dict.get") vs) [.ref a, .none, d] loc mem Q E := op3 fun R F s v u t S r1 r2 r3 => by
  cases r1.view; cases r2.view
  obtain ⟨kvs, hd, q⟩ := S.dict hm
  cases q.view
  obtain ⟨o, es, ep', ho, hx, hdd, hk, hp, hn⟩ := hd
  have he : es = #[] := by
    have : es.toList = [] := by have := hp.length; exact List.eq_nil_of_length_eq_zero (by simpa using this)
    simpa using this
  subst he
  have mo : s.heap.MapOf (noneKind W.prog W.w) a (fun _ => none) := ⟨o, #[], ep', ho, hx, hdd, fun e he => by simp at he, fun k => rfl⟩
  exact call_meetsIn PySem.F.slot_dict_get mo.typeIs PySem.F.entry_dict_get (PySem.F.args_dict_get_3 _ _ _) (meets_dict_get_default (noneKind W.prog W.w) a (k := ()) rfl (S.not_modules hm) t) ⟨_, mo, Post.mk r3 S.tick h⟩
end
end Mine
end
section
set_option autoImplicit false
namespace Mine
theorem toPy_strs (ys : List Str) : (vStrs ys).map (toPy 0) = ys.map .str := by unfold vStrs; rw [List.map_map]; rfl
theorem strs_showable (ys : List Str) : (PyData.list (ys.map .str)).showable = true := by
  simp only [PyData.showable]
  induction ys with
  | nil => rfl
  | cons y ys ih => simp only [List.map_cons, PyData.showableAll, PyData.showable, Bool.true_and]; exact ih
theorem strs_noDict (ys : List Str) : (PyData.list (ys.map .str)).hasDict = false := by
  simp only [PyData.hasDict]
  induction ys with
  | nil => rfl
  | cons y ys ih => simp only [List.map_cons, PyData.hasDictAll, PyData.hasDict, Bool.false_or]; exact ih
theorem strs_depth (ys : List Str) : (PyData.list (ys.map .str)).depth ≤ 1 := by
  rw [PyData.depth]
  refine Nat.succ_le_succ ?_
  induction ys with
  | nil => exact Nat.le_refl _
  | cons y ys ih => rw [List.map_cons, PyData.depthAll]; exact Nat.max_le.mpr ⟨by rw [PyData.depth]; exact Nat.zero_le _, ih⟩
theorem strs_len {ys : List Str} (h : ∀ y ∈ ys, y.cps.size ≤ 100 ∧ PyData.strOk y = true) (hz : ys.length ≤ 100) : (PyData.list (ys.map .str)).shown.length ≤ 1000000 := by
  have hl : (PyData.list (ys.map .str)).leavesShort 8 = true := by
    refine PyData.leavesShort_of_canLay0 8 _ ?_ ?_
    · rw [PyData.canLay0, canLayAll0_iff, List.all_map, List.all_eq_true]
      exact fun y hy => by simpa [PyData.canLay0] using (h y hy).2
    · simp only [PyData.intsShort]
      clear h hz
      induction ys with
      | nil => rfl
      | cons y ys ih => simp only [List.map_cons, PyData.intsShortAll, PyData.intsShort, Bool.true_and]; exact ih
  have hw : (PyData.list (ys.map .str)).weight ≤ ys.length * 101 := by
    simp only [PyData.weight]
    clear hl hz
    induction ys with
    | nil => exact Nat.le_refl _
    | cons y ys ih =>
      have h1 := (h y (.head _)).1
      have h2 := ih fun z hz => h z (.tail _ hz)
      simp only [List.map_cons, PyData.weightAll, PyData.weight, List.length_cons, Nat.succ_mul]
      omega
  have := PyData.shown_le 8 (by decide) _ hl
  omega
end Mine
end
section
set_option autoImplicit false
namespace Mine
noncomputable def GS (adr : Rl → Addr) (c : Rl → Option AObj) (sy : Addr) (X : AObj) (m : Mem) : Prop := ∃ gm, m = mset gm sy X ∧ MemIs adr c gm ∧ gm sy = none
variable {adr : Rl → Addr} {c : Rl → Option AObj} {sy : Addr} {X : AObj} {m m' : Mem}
theorem GS.get {r : Rl} {x : AObj} (G : GS adr c sy X m) (h : c r = some x) : m (adr r) = some x := by
  obtain ⟨gm, rfl, M, hs⟩ := G
  have := M.get h
  rw [mset_ne (nex this hs)]; exact this
theorem GS.side (G : GS adr c sy X m) : m sy = some X := by obtain ⟨gm, rfl, M, hs⟩ := G; exact mset_self _ _ _
theorem GS.split (G : GS adr c sy X m) {a : Addr} (ha : a ≠ sy) {y : AObj} (h1 : m' a = some y) (hf : ∀ b, b ≠ a → m' b = m b) : ∃ gm, m = mset gm sy X ∧ MemIs adr c gm ∧ gm sy = none ∧ m' = mset (mset gm a y) sy X := by
  obtain ⟨gm, rfl, M, hs⟩ := G
  refine ⟨gm, rfl, M, hs, ?_⟩
  funext b
  by_cases e : b = a
  · rw [e, h1, mset_ne ha, mset_self]
  · rw [hf b e]
    by_cases e2 : b = sy
    · rw [e2, mset_self, mset_self]
    · rw [mset_ne e2, mset_ne e2, mset_ne e]
theorem GS.set {r : Rl} {x y : AObj} (G : GS adr c sy X m) (h : c r = some x) (h1 : m' (adr r) = some y) (hf : ∀ b, b ≠ adr r → m' b = m b) : GS adr (upd c r (some y)) sy X m' := by
  have ha : adr r ≠ sy := fun e => by
    obtain ⟨gm, rfl, M, hs⟩ := G
    have := M.get h; rw [e, hs] at this; cases this
  obtain ⟨gm, _, M, hs, e⟩ := G.split ha h1 hf
  exact ⟨_, e, M.set h (mset_self _ _ _) fun b hb => mset_ne hb, by rw [mset_ne (Ne.symm ha)]; exact hs⟩
theorem GS.new {r : Rl} {a : Addr} {y : AObj} (G : GS adr c sy X m) (h : c r = none) (hn : m a = none) (h1 : m' a = some y) (hf : ∀ b, b ≠ a → m' b = m b) : GS (upd adr r a) (upd c r (some y)) sy X m' := by
  have ha : a ≠ sy := fun e => by rw [e, G.side] at hn; cases hn
  obtain ⟨gm, e0, M, hs, e⟩ := G.split ha h1 hf
  have hg : gm a = none := by rw [e0, mset_ne ha] at hn; exact hn
  exact ⟨_, e, M.new h hg (mset_self _ _ _) fun b hb => mset_ne hb, by rw [mset_ne (Ne.symm ha)]; exact hs⟩
theorem GS.done (G : GS adr c sy X m) : ∃ gm, MemIs adr c gm ∧ Sub gm m := by
  obtain ⟨gm, rfl, M, hs⟩ := G
  exact ⟨gm, M, fun a x e => by rw [mset_ne (nex e hs)]; exact e⟩
end Mine
end
section
set_option autoImplicit false
namespace Mine
noncomputable def pushL (l : List (Str × List Int)) (k : Str) (n : Int) : List (Str × List Int) := l.map fun q => if q.1 = k then (q.1, q.2 ++ [n]) else q
theorem pushL_keys (l : List (Str × List Int)) (k : Str) (n : Int) : (pushL l k n).map (·.1) = l.map (·.1) := by
  unfold pushL; rw [List.map_map]; refine List.map_congr_left fun q _ => ?_
  simp only [Function.comp_apply]; split <;> rfl
theorem pushL_refs (l : List (Str × List Int)) (k : Str) (n : Int) (f : Str → V) : ((pushL l k n).map fun q => (q.1, f q.1)) = l.map fun q => (q.1, f q.1) := by
  unfold pushL; rw [List.map_map]; refine List.map_congr_left fun q _ => ?_
  simp only [Function.comp_apply]; split <;> rfl
theorem pushL_lookup (l : List (Str × List Int)) (k : Str) (n : Int) (k' : Str) : (pushL l k n).lookup k' = if k' = k then (l.lookup k').map (· ++ [n]) else l.lookup k' := by
  unfold pushL
  induction l with
  | nil => simp
  | cons q l ih =>
    obtain ⟨a, b⟩ := q
    rw [List.map_cons, List.lookup_cons]
    by_cases h : k' = a
    · subst h
      by_cases h2 : k' = k
      · subst h2; simp [List.lookup]
      · simp [List.lookup, h2]
    · have e : (k' == a) = false := by simpa using h
      have e2 : (k' == (if a = k then (a, b ++ [n]) else (a, b)).1) = false := by split <;> exact e
      rw [show (k' == (if (a, b).fst = k then ((a, b).fst, (a, b).snd ++ [n]) else (a, b)).fst) = false from e2]
      rw [List.lookup_cons, e]
      exact ih
noncomputable def known (l : List (Str × List Int)) (k : Str) : List (Str × List Int) := if (l.lookup k).isSome then l else l ++ [(k, [])]
theorem known_lookup (l : List (Str × List Int)) (k k' : Str) : (known l k).lookup k' = if k' = k then some ((l.lookup k).getD []) else l.lookup k' := by
  unfold known
  split
  · rename_i h
    obtain ⟨ns, e⟩ := Option.isSome_iff_exists.mp h
    by_cases q : k' = k
    · subst q; rw [if_pos rfl, e]; rfl
    · rw [if_neg q]
  · rename_i h
    rw [lookup_append']
    by_cases q : k' = k
    · subst q
      have : l.lookup k' = none := by cases z : l.lookup k' with | none => rfl | some _ => rw [z] at h; exact absurd rfl h
      rw [if_pos rfl, this]; simp [List.lookup]
    · have e : (k' == k) = false := by simpa using q
      rw [if_neg q]; simp [List.lookup, e]
noncomputable def noteSym (num : Int) (tn : List (Str × List Int) × List (Str × List Int)) (s : Str) : List (Str × List Int) × List (Str × List Int) :=
  if (tn.1.lookup s).isSome then (pushL tn.1 s num, tn.2) else (tn.1, pushL (known tn.2 s) s num)
noncomputable def addG (g : GR) (name : Str) (syms : List Str) (prec func file line : V) : GR :=
  let num : Int := g.prods.length + 1
  let tn := syms.foldl (noteSym num) (g.te, known g.no name)
  { g with prods := g.prods ++ [{ name := name, body := syms, num := num, prec := prec, func := func, file := file, line := line }], pn := if name ∈ g.pn then g.pn else g.pn ++ [name], te := tn.1, no := tn.2 }
end Mine
end
section
set_option autoImplicit false
namespace Mine
noncomputable def startG (C : Addr) (g : GR) (st : Str) : GR := { g with p0 := .ins C (prodAttrs (.int 0) "S'" [st] (.tup [.str "right", .int 0]) .none (.str "") (.int 0)), no := pushL g.no st 0, start := .str st }
section
variable {W : Wd} {A : Around} {env : Env} {outer : Outs} {loc : Loc} {mem : Mem} {E : Ex W}
theorem start_spec {g : GR} {a : Addr} {gm : Mem} {st : Str} {Q : V → Loc → Mem → Prop} (hK : W.K = hdK W.w.params) (c : Calm A 700 6000) (G : GMem aGrammar aProd g a gm) (hs0 : 0 < st.cps.size) (hs1 : st.cps.size ≤ 100) (hso : PyData.strOk st = true)
    (hno : (g.no.lookup st).isSome = true) (hnz : ∀ ns, g.no.lookup st = some ns → ns.length ≤ 100000) (h : ∀ m, GMem aGrammar aProd (startG aProd g st) a m → Q .none loc m) : OpV W A env outer (fun vs => call (.ref aStart) vs) [.ref a, .str st] loc gm Q E := by
  obtain ⟨adr, cc, M, ok, rfl⟩ := G
  refine call_fn (bs := [("self", .ref (adr .self)), ("start", .str st)]) (by rw [hK]; exact setStart.at _) (by rw [hK]; first | rfl | kernel_rfl | decide +kernel) (c.room (by decide)) ?_ (by intro y hy; simp at hy; rcases hy with rfl | rfl <;> rfl) (by decide) rfl rfl rfl ?_
  · intro F s vs hb hk r
    cases r.view with
    | cons r1 r2 =>
      cases r2 with
      | cons r2 r3 =>
        cases r3
        first
          | exact ⟨_, BindsTo.of_eq rfl, .cons r1 (.cons r2 .nil)⟩
          | exact ⟨_, binds_K hk rfl (by rw [hK]; rfl) rfl rfl rfl, .cons r1 (.cons r2 .nil)⟩
  · intro L outer
    have cd := c.deeper (envX "Grammar.set_start" setStart.scope L 174 setStart.code [])
    obtain ⟨epd, hdict⟩ := ok.dict
    obtain ⟨epn, hnod⟩ := ok.no
    obtain ⟨ns, hns⟩ : ∃ ns, g.no.lookup st = some ns := Option.isSome_iff_exists.mp hno
    have hnl : cc (.noL st) = some (.list (vInts ns)) := by rw [ok.noL, hns]; rfl
    (refine nameS ?_; intro aa vv oo qq ee; refine s_cons ?_); refine s_if ?_; refine b_not ?_; refine b_value rfl ?_; refine e_local rfl rfl rfl rfl ?_
    refine tr_str (by show (st.cps.size : Int) < _; omega) ?_
    have hne : ((st.length : Int) != 0) = true := by
      have : (st.length : Int) ≠ 0 := by show (st.cps.size : Int) ≠ 0; omega
      simpa using this
    rw [hne]
    skip
    refine only_f ?_
    refine s_nil ?_; refine s_cons ?_; refine s_if ?_; refine b_cmp rfl ?_; refine e_local rfl rfl rfl rfl ?_; refine e_attr rfl ?_; refine e_local rfl rfl rfl rfl ?_
    have hx := M.get ok.self
    have hd := M.get hdict
    refine get_o hK (fun _ => by kernel_rfl) (.own hx hd) rfl rfl ?_
    skip
    refine notin_dict (M.get hnod) ?_
    have hin : (getA (g.no.map fun q => (q.1, V.ref (adr (.noL q.1)))) st).isSome = true := by
      rw [getA_map g.no (fun k => V.ref (adr (.noL k))) st, if_pos (by rw [← lookup_contains, hns]; rfl)]; rfl
    rw [hin]
    refine tr_bool ?_
    refine only_f ?_
    refine s_nil ?_; refine s_cons ?_; refine s_assign_sub rfl ?_; refine c_name rfl ?_; refine e_topG rfl rfl rfl rfl (by rw [hK]; rfl) ?_; refine c_top (by rw [hK]; rfl) rfl rfl ?_; refine a_cons rfl ?_; refine e_int ?_; refine a_cons rfl ?_; refine e_str ?_; refine a_cons rfl ?_; refine e_list ?_; refine a_cons rfl ?_; refine e_local rfl rfl rfl rfl ?_; refine a_nil ?_
    refine new_lst (show 1 ≤ sizeLine by decide) ?_
    refine a_nil ?_
    refine prod_spec3 hK (cd.mono (by decide) (by decide)) (.lst _ : Sq _ _ _ (vStrs [st])) (by simp) (by intro y hy; simp at hy; subst hy; exact ⟨hs1, hso⟩) (by decide) rfl ?_
    refine e_attr rfl ?_; refine e_local rfl rfl rfl rfl ?_
    refine get_o hK (fun _ => by kernel_rfl) (.own hx hd) rfl rfl ?_
    refine e_int ?_
    refine setItem_own (k := 0) (M.get ok.pl) (by simp) (by omega) (fun m1 h1 f1 => ?_)
    have M1 := M.set (r := .pl) ok.pl h1 f1
    refine s_cons ?_; refine s_expr rfl rfl ?_; refine c_meth rfl ?_; refine e_sub (fun _ _ => rfl) ?_; refine e_attr rfl ?_; refine e_local rfl rfl rfl rfl ?_
    have hx := M1.get (r := .self) ok.self
    have hd := M1.get (r := .dict) hdict
    refine get_o hK (fun _ => by kernel_rfl) (.own hx hd) rfl rfl ?_
    refine e_local rfl rfl rfl rfl ?_
    refine sub_dict (x := .ref (adr (.noL st))) (M1.get (r := .no) hnod) (by rw [getA_map g.no (fun k => V.ref (adr (.noL k))) st, if_pos (by rw [← lookup_contains, hns]; rfl)]) ?_
    have hl1 := M1.get (r := .noL st) hnl
    refine m_builtin (.list hl1) PySem.F.plainAttrs_list PySem.F.slot_list_append PySem.F.type_list_append rfl rfl ?_
    refine a_cons rfl ?_; refine e_int ?_; refine a_nil ?_
    refine append_own' hl1 (by simp [vInts]; exact Nat.le_trans (hnz ns hns) (by decide)) (fun m2 h2 f2 => ?_)
    have M2 := M1.set (r := .noL st) hnl h2 f2
    refine s_cons ?_; refine s_assign_attr rfl ?_; refine e_local rfl rfl rfl rfl ?_; refine e_local rfl rfl rfl rfl ?_
    refine set_o hK (fun _ => by kernel_rfl) (M2.get (r := .self) ok.self) (M2.get (r := .dict) hdict) rfl (fun m3 ep3 hx3 hd3 f3 => ?_)
    have hd3 : _ = some (AObj.dict [((Str.ofString "Productions", Rl.pl).fst, _), ((Str.ofString "Prodnames", Rl.pn).fst, _), ((Str.ofString "Prodmap", Rl.pm).fst, _), ((Str.ofString "Terminals", Rl.te).fst, _), ((Str.ofString "Nonterminals", Rl.no).fst, _), ((Str.ofString "First", Rl.fi).fst, _), ((Str.ofString "Follow", Rl.fo).fst, _), ((Str.ofString "Precedence", Rl.pr).fst, _), (Str.ofString "UsedPrecedence", _), ((Str.ofString "Start", g.start).fst, _)] _) := hd3
    have M3 := M2.set (r := .dict) hdict hd3 f3
    refine s_nil ?_
    refine ⟨m3, sub_refl _, h m3 ⟨_, _, M3, ?_, rfl⟩⟩
    have off : ∀ (y1 y2 y3 : Option AObj) (r : Rl), r ≠ .pl → r ≠ .noL st → r ≠ .dict → upd (upd (upd cc .pl y1) (.noL st) y2) .dict y3 r = cc r := fun y1 y2 y3 r a1 a2 a3 => by rw [upd_ne a3, upd_ne a2, upd_ne a1]
    refine {
      self := (off _ _ _ _ (by simp) (by simp) (by simp)).trans ok.self
      dict := ⟨ep3, rfl⟩
      pl := rfl
      pn := ok.pn.imp fun ep e => (off _ _ _ _ (by simp) (by simp) (by simp)).trans e
      pnL := fun k => (off _ _ _ _ (by simp) (by simp) (by simp)).trans (ok.pnL k)
      pm := ok.pm.imp fun ep e => (off _ _ _ _ (by simp) (by simp) (by simp)).trans e
      te := ok.te.imp fun ep e => (off _ _ _ _ (by simp) (by simp) (by simp)).trans e
      teL := fun k => (off _ _ _ _ (by simp) (by simp) (by simp)).trans (ok.teL k)
      no := ⟨epn, ?_⟩
      noL := fun k => ?_
      fi := ok.fi.imp fun ep e => (off _ _ _ _ (by simp) (by simp) (by simp)).trans e
      fiL := fun k => (off _ _ _ _ (by simp) (by simp) (by simp)).trans (ok.fiL k)
      fo := ok.fo.imp fun ep e => (off _ _ _ _ (by simp) (by simp) (by simp)).trans e
      foL := fun k => (off _ _ _ _ (by simp) (by simp) (by simp)).trans (ok.foL k)
      pr := ok.pr.imp fun ep e => (off _ _ _ _ (by simp) (by simp) (by simp)).trans e
      up := (off _ _ _ _ (by simp) (by simp) (by simp)).trans ok.up }
    · rw [off _ _ _ _ (by simp) (by simp) (by simp), hnod]
      exact congrArg (fun z => some (AObj.dict z epn)) (pushL_refs g.no st 0 (fun k => V.ref (adr (.noL k)))).symm
    · show _ = ((pushL g.no st 0).lookup k).map _
      rw [pushL_lookup]
      by_cases e : k = st
      · subst e
        rw [if_pos rfl, hns]
        simp [upd, vInts]
      · rw [if_neg e, off _ _ _ _ (by simp) (by simpa using e) (by simp)]
        exact ok.noL k
end
end Mine
end
section
set_option autoImplicit false
namespace Mine
structure TN (adr0 : Rl → Addr) (c0 : Rl → Option AObj) (adr : Rl → Addr) (c : Rl → Option AObj) (te no : List (Str × List Int)) : Prop where
  adrE : ∀ r, (∀ k, r ≠ .noL k) → adr r = adr0 r
  cE : ∀ r, (∀ k, r ≠ .noL k) → (∀ k, r ≠ .teL k) → r ≠ .no → c r = c0 r
  hte : ∃ ep, c .te = some (.dict (te.map fun q => (q.1, .ref (adr (.teL q.1)))) ep)
  teL : ∀ k, c (.teL k) = (te.lookup k).map fun ns => .list (vInts ns)
  hno : ∃ ep, c .no = some (.dict (no.map fun q => (q.1, .ref (adr (.noL q.1)))) ep)
  noL : ∀ k, c (.noL k) = (no.lookup k).map fun ns => .list (vInts ns)
variable {adr0 adr : Rl → Addr} {c0 c : Rl → Option AObj} {te no : List (Str × List Int)}
theorem TN.pushT {s : Str} {n : Int} {ns : List Int} (T : TN adr0 c0 adr c te no) (h : te.lookup s = some ns) : TN adr0 c0 adr (upd c (.teL s) (some (.list (vInts ns ++ [.int n])))) (pushL te s n) no where
  adrE := T.adrE
  cE r a b d := by rw [upd_ne (b s)]; exact T.cE r a b d
  hte := by
    obtain ⟨ep, e⟩ := T.hte
    refine ⟨ep, ?_⟩
    rw [upd_ne (by simp), e]
    exact congrArg (fun z => some (AObj.dict z ep)) (pushL_refs te s n (fun k => V.ref (adr (.teL k)))).symm
  teL k := by
    rw [pushL_lookup]
    by_cases e : k = s
    · subst e; rw [upd_self, if_pos rfl, h]; simp [vInts]
    · rw [upd_ne (by simpa using e), if_neg e]; exact T.teL k
  hno := T.hno.imp fun ep e => by rw [upd_ne (by simp)]; exact e
  noL k := by rw [upd_ne (by simp)]; exact T.noL k
theorem TN.pushN {s : Str} {n : Int} {ns : List Int} (T : TN adr0 c0 adr c te no) (h : no.lookup s = some ns) : TN adr0 c0 adr (upd c (.noL s) (some (.list (vInts ns ++ [.int n])))) te (pushL no s n) where
  adrE := T.adrE
  cE r a b d := by rw [upd_ne (a s)]; exact T.cE r a b d
  hte := T.hte.imp fun ep e => by rw [upd_ne (by simp)]; exact e
  teL k := by rw [upd_ne (by simp)]; exact T.teL k
  hno := by
    obtain ⟨ep, e⟩ := T.hno
    refine ⟨ep, ?_⟩
    rw [upd_ne (by simp), e]
    exact congrArg (fun z => some (AObj.dict z ep)) (pushL_refs no s n (fun k => V.ref (adr (.noL k)))).symm
  noL k := by
    rw [pushL_lookup]
    by_cases e : k = s
    · subst e; rw [upd_self, if_pos rfl, h]; simp [vInts]
    · rw [upd_ne (by simpa using e), if_neg e]; exact T.noL k
theorem TN.newN {s : Str} {a : Addr} {ep' : Nat} (T : TN adr0 c0 adr c te no) (h : no.lookup s = none) :
    TN adr0 c0 (upd adr (.noL s) a) (upd (upd c (.noL s) (some (.list []))) .no (some (.dict (stA (no.map fun q => (q.1, .ref (adr (.noL q.1)))) s (.ref a)) ep'))) te (known no s) where
  adrE r hr := by rw [upd_ne (hr s)]; exact T.adrE r hr
  cE r a b d := by rw [upd_ne d, upd_ne (a s)]; exact T.cE r a b d
  hte := T.hte.imp fun ep e => by
    rw [upd_ne (by simp), upd_ne (by simp), e]
    refine congrArg (fun z => some (AObj.dict z ep)) (List.map_congr_left fun q _ => ?_)
    rw [upd_ne (by simp)]
  teL k := by rw [upd_ne (by simp), upd_ne (by simp)]; exact T.teL k
  hno := by
    refine ⟨ep', ?_⟩
    have hg : getA (no.map fun q => (q.1, V.ref (adr (.noL q.1)))) s = none := by
      rw [getA_map no (fun k => V.ref (adr (.noL k))) s, if_neg]
      rw [← lookup_contains, h]; simp
    rw [upd_self, stA_new hg]
    have hk : known no s = no ++ [(s, [])] := by unfold known; rw [h]; rfl
    rw [hk, List.map_append]
    refine congrArg (fun z => some (AObj.dict z ep')) (congr (congrArg _ (List.map_congr_left fun q hq => ?_)) ?_)
    · have : q.1 ≠ s := fun e => by
        have := lookup_contains no s
        rw [h] at this
        have hc : (no.map (·.1)).contains s = true := by rw [List.contains_iff_mem]; exact List.mem_map.mpr ⟨q, hq, e⟩
        rw [hc] at this; cases this
      rw [upd_ne (by simpa using this)]
    · simp [upd]
  noL k := by
    rw [known_lookup, upd_ne (by simp)]
    by_cases e : k = s
    · subst e; rw [upd_self, if_pos rfl, h]; simp [vInts]
    · rw [upd_ne (by simpa using e), if_neg e]; exact T.noL k
end Mine
end
section
set_option autoImplicit false
namespace Mine
noncomputable def Fits (A : Around) (env : Env) (outer : Outs) : Prop :=
  ∃ envs, A.frames = some (env :: envs) ∧ env.frame = some env.locals ∧ env.scope.kind = .function ∧ ∀ e ∈ envs, e.scope.kind ≠ .module ∧ ∃ q ∈ outer, e.frame = some q.1
structure Under (env : Env) (outer : Outs) (mem R : Mem) (F : Frz) (B h : Heap) : Prop where
  frz : ∀ a o, F a o → B.get? a = some o
  own : ∀ a x, mun mem R a = some x → ∃ o, B.get? a = some o
  stays : B.StaysIn h
  here : B.get? env.locals = none
  outs : ∀ q ∈ outer, B.get? q.1 = none
noncomputable def Flight (env : Env) (B h : Heap) (e : Addr) (cls : Value) : Prop :=
  (∃ oe vs a0, h.get? e = some oe ∧ oe.cls = cls ∧ oe.data = .fields vs ∧ vs[1]? = some .none ∧ vs[0]? = some a0) ∨ ∃ a0 fl, h.TracedAtW B e cls a0 fl ∧ (fl = .none ∨ fl = rawInt env.locals)
structure Aloft (W : Wd) (env : Env) (outer : Outs) (loc : Loc) (mem R : Mem) (F : Frz) (s : Shared) (e : Addr) (cls : Value) : Prop where
  sim : Sim W env outer loc mem R F s
  fly : ∃ B, Under env outer mem R F B s.heap ∧ B.get? e = none ∧ Flight env B s.heap e cls
section
variable {W : Wd} {A : Around} {env : Env} {outer : Outs} {loc : Loc} {mem R : Mem} {E : Ex W} {F : Frz} {s : Shared} {B : Heap}
theorem Fits.deeper {env' : Env} {m0 : Str → Option Value} (f : Fits A env outer) (h1 : env'.frame = some env'.locals) (h2 : env'.scope.kind = .function) : Fits (A.deeper env') env' ((env.locals, m0) :: outer) := by
  obtain ⟨envs, hf, hl, hk, ho⟩ := f
  refine ⟨env :: envs, Around.frames_deeper hf, h1, h2, fun e he => ?_⟩
  rcases List.mem_cons.mp he with rfl | he
  · exact ⟨by rw [hk]; decide, _, .head _, hl⟩
  · obtain ⟨a, q, hq, b⟩ := ho e he
    exact ⟨a, q, .tail _ hq, b⟩
theorem Fits.fun {outs : Outs} (f : Fits A env outer) (S : Sim W env outer loc mem R F s) (h1 : B.get? env.locals = none) (h2 : ∀ q ∈ outer, B.get? q.1 = none) : ∃ envs, A.frames = some (env :: envs) ∧ env.frame = some env.locals ∧ s.heap.FunFrames B (env :: envs) := by
  obtain ⟨envs, hf, hl, hk, ho⟩ := f
  refine ⟨envs, hf, hl, by rw [hk]; decide, ?_, ?_⟩
  · obtain ⟨m, ⟨o, es, ep, e, hd, _⟩, _⟩ := S.ns
    exact ⟨_, o, hl, h1, e, fun vs q => by rw [hd] at q; cases q⟩
  · clear hf
    induction envs with
    | nil => trivial
    | cons e l ih =>
      obtain ⟨a, q, hq, b⟩ := ho e (.head _)
      obtain ⟨o, es, ep, e1, hd, _⟩ := (S.z.outs q hq).1
      exact ⟨a, ⟨_, o, b, h2 q hq, e1, fun vs z => by rw [hd] at z; cases z⟩, ih fun e he => ho e (.tail _ he)⟩
theorem Sim.slots {h' : Heap} {t : Nat} (S : Sim W env outer loc mem R F s) (U : Under env outer mem R F B s.heap) (hs : B.StaysIn h') (up : s.heap.UpToSlots h') : Sim W env outer loc mem R F { s with heap := h', toks := t } := by
  have ns : ∀ {a m}, s.heap.Ns a m → h'.Ns a m := fun {a m} ⟨o, es, ep, e, hd, r⟩ => by
    obtain ⟨sl, e'⟩ := up a o e fun vs q => by rw [hd] at q; cases q
    exact ⟨_, es, ep, e', hd, r⟩
  refine ⟨S.dis, {
    frz := fun a o h => hs _ _ (U.frz a o h)
    base := S.z.base
    memF := S.z.memF
    memOk := fun a x h => ?_
    ns := let ⟨m, n, l⟩ := S.z.ns; ⟨m, ns n, l⟩
    nsF := S.z.nsF
    outs := fun q hq => let ⟨n, r⟩ := S.z.outs q hq; ⟨ns n, r⟩
    low := S.z.low
    memLow := S.z.memLow
    gens := S.z.gens
    os := S.z.os }⟩
  obtain ⟨o, e, r⟩ := S.z.memOk a x h
  obtain ⟨o', e'⟩ := U.own a x h
  have := U.stays _ _ e'
  rw [e] at this; cases this
  exact ⟨o, hs _ _ e', r⟩
theorem Under.stay {h h' : Heap} (U : Under env outer mem R F B h) (hs : B.StaysIn h') : Under env outer mem R F B h' := ⟨U.frz, U.own, hs, U.here, U.outs⟩
theorem Sim.raised {h' : Heap} {e : Addr} {X : String} {t : Nat} (S : Sim W env outer loc mem R F s) (n : Heap.NewExc s.heap h' e X) : Aloft W env outer loc mem R F { s with heap := h', toks := t } e (.type X) := by
  refine ⟨S.grow n.keeps, PyProof.Rows.TI.gone s.heap (env.locals :: outer.map (·.1)), ⟨fun a o h => ?_, fun a x h => ?_, fun b o h => n.keeps _ _ (PyProof.Rows.TI.gone_some h).2, PyProof.Rows.TI.gone_none (.head _), fun q hq => PyProof.Rows.TI.gone_none (.tail _ (List.mem_map.mpr ⟨q, hq, rfl⟩))⟩, ?_, ?_⟩
  · rw [PyProof.Rows.TI.gone_get]
    · exact S.frz a o h
    · intro hm
      rcases List.mem_cons.mp hm with rfl | hm
      · exact S.z.nsF.1 o h
      · obtain ⟨q, hq, rfl⟩ := List.mem_map.mp hm
        exact (S.z.outs q hq).2.1 o h
  · obtain ⟨o, ho, _⟩ := S.z.memOk a x h
    refine ⟨o, ?_⟩
    rw [PyProof.Rows.TI.gone_get]
    · exact ho
    · intro hm
      rcases List.mem_cons.mp hm with rfl | hm
      · have := S.z.nsF.2; rw [h] at this; cases this
      · obtain ⟨q, hq, rfl⟩ := List.mem_map.mp hm
        have := (S.z.outs q hq).2.2.1; rw [h] at this; cases this
  · cases q : (PyProof.Rows.TI.gone s.heap (env.locals :: outer.map (·.1))).get? e with
    | none => rfl
    | some o => have := (PyProof.Rows.TI.gone_some q).2; rw [n.new] at this; cases this
  · obtain ⟨ob, tp, he, hc, hd⟩ := n.there
    exact .inl ⟨ob, _, tp, he, hc, hd, rfl, rfl⟩
theorem Aloft.note {e : Addr} {cls : Value} {Q : Unit → Shared → Prop} {Ev : Value → Shared → Prop} (f : Fits A env outer) (x : Aloft W env outer loc mem R F s e cls)
    (h : ∀ h' B, Sim W env outer loc mem R F { s with heap := h' } → Under env outer mem R F B h' → B.get? e = none → (∃ a0, h'.TracedAtW B e cls a0 (rawInt env.locals)) → Q () { s with heap := h' }) : wpAny (model W.prog W.w) A (noteFrame (.ref e) env) Q Ev s := by
  obtain ⟨S, B, U, hB, fl⟩ := x
  obtain ⟨envs, hf, hl, ff⟩ := f.fun (outs := outer) S U.here U.outs
  rcases fl with ⟨oe, vs, a0, he, hc, hd, h1, h0⟩ | ⟨a0, fl, ht, rfl | rfl⟩
  · unfold noteFrame
    simp only [hl]
    refine wpAny_bind (wpAny_field he hd h1 ?_)
    rw [if_neg (by decide)]
    refine wpAny_entryW (a0 := a0) hf ff hl he U.stays hB hd (Array.getElem?_eq_some_iff.mp h1).1 h0 fun h' hN => ?_
    obtain ⟨n1, n2, n3, n4⟩ := hN
    exact h h' B (S.slots (t := s.toks) U n1 n4) (U.stay n1) hB ⟨a0, by rw [← hc]; exact n3⟩
  · refine wpAny_noteFrame_onW hf ff hl ht U.stays hB fun h' hN => ?_
    obtain ⟨n1, n2, n3, n4⟩ := hN
    exact h h' B (S.slots (t := s.toks) U n1 n4) (U.stay n1) hB ⟨a0, n3⟩
  · refine wpAny_noteFrame_againW hl ht ?_
    exact h s.heap B S U hB ⟨a0, ht⟩
theorem Aloft.land {e : Addr} {cls a0 fl : Value} {Q : Unit → Shared → Prop} {Ev : Value → Shared → Prop} (f : Fits A env outer) (S : Sim W env outer loc mem R F s) (U : Under env outer mem R F B s.heap) (hB : B.get? e = none) (ht : s.heap.TracedAtW B e cls a0 fl) {A' : Around}
    (h : ∀ h', Sim W env outer loc mem R F { s with heap := h' } → Under env outer mem R F B h' → h'.TracedAtW B e cls a0 .none → Q () { s with heap := h' }) : wpAny (model W.prog W.w) A' (setFlight (.ref e) none) Q Ev s := by
  obtain ⟨envs, hf, hl, ff⟩ := f.fun (outs := outer) S U.here U.outs
  refine wpAny_setFlight_noneW U.stays ff ht fun h' k1 k2 k3 k4 => ?_
  exact h h' (S.slots (t := s.toks) U k1 fun b o hb hn => ⟨o.slots, k4 b o hb hn⟩) (U.stay k1) k3.at
noncomputable def exX (W : Wd) (env : Env) (outer : Outs) (X : Value → Loc → Mem → Prop) : Ex W where
  p R F v s := ∃ F' l m e cls, v = .ref e ∧ Incl F F' ∧ Aloft W env outer l m R F' s e cls ∧ X cls l m
  mono := fun l i ⟨F', lo, m, e, cls, h1, h2, h3, h4⟩ => ⟨F', lo, m, e, cls, h1, i.trans h2, ⟨l.sim h3.sim, by
    obtain ⟨B, U, r⟩ := h3.fly
    refine ⟨B, ⟨U.frz, fun a x hx => ?_, U.stays, U.here, U.outs⟩, r⟩
    cases q : m a with
    | some y => exact U.own a y (mun_l q)
    | none => rw [mun_r q] at hx; exact U.own a x (by rw [mun_r q]; exact l.sub a x hx)⟩, h4⟩
noncomputable def markE (W : Wd) (A : Around) (hd : Option Value) (env : Env) (E : Ex W) : Ex W where
  p R F := notedBy (model W.prog W.w) (A.mark hd) env fun e s' => cameBackBy (model W.prog W.w) A env (E.p R F) e s'
  mono l i h := wpAny_mono h (fun _ _ q => wpAny_mono q (fun _ _ z => E.mono l i z) fun _ _ z => E.mono l i z) fun _ _ z => wpAny_mono z (fun _ _ z => E.mono l i z) fun _ _ z => E.mono l i z
theorem s_try1 {T : String} {x : Str} {body suite : List Stmt} {b₀ : Stmt} {np hp pos : Pos} {Q : Fl → Loc → Mem → Prop} (X : Loc → Mem → Prop) (f : Fits A env outer)
    (hexc : isSubtype (.type T) (.type "BaseException") = pure true) (hnt : isSubtype (.type ((Manifest.find? T).elim "type" fun x => x.metatype)) (.type "tuple") = pure false) (hsub : isSubtype (.type T) (.type T) = pure true)
    (hg : env.globals = mainGlobals) (hb : env.builtins = builtinsNs) (hk : env.scope.kind = .function) (hl : env.kindOf x = some .globalImplicit) (hd : (x == ("__debug__" : Str)) = false)
    (he : nsIn W.K mainGlobals x = some none) (hv : bootBuiltins x = some (.type T)) (hn : x ≠ "__name__")
    (h : TrS W A env outer (execs body env) loc mem Q (exX W env outer fun c l m => c = .type T ∧ X l m))
    (hh : ∀ e l m, X l m → TrS W (A.mark (some (.ref e))) env outer (execs (b₀ :: suite) env) l m Q (markE W A (some (.ref e)) env E)) :
    TrS W A env outer (exec (.Try body [.ExceptHandler (some (.Name x np)) none (b₀ :: suite) hp] [] [] pos) env) loc mem Q E := fun R F s S => by
  refine wpAny_Try_except (after' (RW := FR W) (Q := fun _ _ _ => True) (h R F s S) (fun v s1 hx => ?_) fun f' s1 F1 fl l1 m1 i1 r1 S1 h1 => ?_)
  · obtain ⟨F', l, m, e, cls, rfl, i, al, rfl, hX⟩ := hx
    refine al.note f fun h2 B S2 U2 hB ht2 => ?_
    obtain ⟨a0, ht2⟩ := ht2
    refine Aloft.land f S2 U2 hB ht2 fun h3 S3 U3 ht3 => ?_
    obtain ⟨m0, hns, l0⟩ := S3.ns
    have Fr' := S3.fr hns
    have hob : ∃ o, h3.get? e = some o ∧ o.cls = .type T := by obtain ⟨oe, _, _, _, _, q1, ⟨q2, _⟩, _⟩ := ht3; exact ⟨oe, q1, q2⟩
    refine wpAny_handleBy_builtin (X := T) (b := true) hexc hnt hsub (Name_function_global hk hl (loadGlobal_builtin (env := env) (by rw [hg]; exact W.top.g.keeps Fr'.keep) (mg_none_of W.KIn W.top.g he) (by rw [hb]; exact W.top.b.keeps Fr'.keep) ((W.top.builtins x hn).trans hv) ⟨rfl, hob, ?_⟩) hd)
    rw [if_pos rfl]
    refine Aloft.land f S3 U3 hB ht3 fun h5 S5 U5 ht5 => ?_
    exact after' (RW := FR W) (Q := fun _ _ _ => True) (hh e l m hX R F' _ S5) (fun _ _ z => (markE W A (some (.ref e)) env E).mono (Less.refl R) i z) fun f6 s6 F6 fl6 l6 m6 i6 r6 S6 h6 => ⟨F6, fl6, l6, m6, i.trans i6, r6, S6, h6⟩
  · cases r1 with
    | next => exact wpAny_execs_nil ⟨F1, .next, l1, m1, i1, .next, S1, h1⟩
    | brk => exact ⟨F1, .brk, l1, m1, i1, .brk, S1, h1⟩
    | cont => exact ⟨F1, .cont, l1, m1, i1, .cont, S1, h1⟩
    | ret r => exact ⟨F1, .ret _, l1, m1, i1, .ret r, S1, h1⟩
theorem getItem_none {a : Addr} {es : List (Str × V)} {ep : Nat} {k : Str} {X : Value → Loc → Mem → Prop} {Q : V → Loc → Mem → Prop} (hm : mem a = some (.dict es ep)) (hx : getA es k = none) (hh : A.handled = none) (h : X (.type "KeyError") loc mem) :
    OpV W A env outer (fun | [x, y] => getItem x y | _ => pure .none) [.ref a, .str k] loc mem Q (exX W env outer X) := op2 fun R F s v u S r1 r2 =>
  getItem_missing S hm hx hh r1 r2 fun h' e t n => ⟨F, loc, mem, e, _, rfl, Incl.refl F, S.raised n, h⟩
theorem sub_none {a : Addr} {es : List (Str × V)} {ep : Nat} {k : Str} {X : Value → Loc → Mem → Prop} {Q : V → Loc → Mem → Prop} (hm : mem a = some (.dict es ep)) (hx : getA es k = none) (hh : A.handled = none) (h : X (.type "KeyError") loc mem) :
    ∃ T id, Ty mem (.ref a) T ∧ typeLookup (.type T) "__getitem__" = pure (some (.builtin id)) ∧ OpV W A env outer (fun | [x, y] => getItem x y | _ => pure .none) [.ref a, .str k] loc mem Q (exX W env outer X) :=
  ⟨_, _, .dict hm, PySem.F.slot_dict_getitem.lookup, getItem_none hm hx hh h⟩
end
end Mine
end
section
set_option autoImplicit false
namespace Mine
structure SymOk (s : Str) : Prop where
  pos : 0 < s.cps.size
  size : s.cps.size ≤ 100
  ok : PyData.strOk s = true
  ident : isIdent s = true
  noQuote : ∀ c, s.cps[0]? = some c → strIn ⟨#[c]⟩ "'\"" = false
  noPrec : s ≠ "%prec"
noncomputable abbrev addE (L : Addr) : Env := envX "Grammar.add_production" addP.scope L aAdd addP.code []
noncomputable abbrev addL (a sy : Addr) (name map : Str) (prec func file line num : V) : Loc := [("self", .ref a), ("prodname", .str name), ("syms", .ref sy), ("func", func), ("file", file), ("line", line), ("prodprec", prec), ("map", .str map), ("pnumber", num)]
section
variable {W : Wd} {A : Around} {outer : Outs} {loc : Loc} {m : Mem} {E : Ex W} {L : Addr} {g : GR} {adr0 adr : Rl → Addr} {c0 cc : Rl → Option AObj} {te no : List (Str × List Int)} {sy : Addr} {X : AObj} {name map : Str} {prec func file line num : V}
theorem TN.at {r : Rl} {x : AObj} (T : TN adr0 c0 adr cc te no) (G : GS adr cc sy X m) (h1 : ∀ k, r ≠ .noL k) (h2 : ∀ k, r ≠ .teL k) (h3 : r ≠ .no) (h : c0 r = some x) : m (adr0 r) = some x := by
  have := G.get (r := r) ((T.cE r h1 h2 h3).trans h)
  rwa [T.adrE r h1] at this
theorem lookA {β : Type} {l : List (Str × β)} {f : Str → V} {k : Str} {b : Bool} (h : (l.lookup k).isSome = b) : (getA (l.map fun q => (q.1, f q.1)) k).isSome = b := by
  rw [getA_map l f k, ← h, lookup_contains]; split <;> rename_i z <;> simp_all
theorem lookB {β : Type} {l : List (Str × β)} {f : Str → V} {k : Str} (h : (l.lookup k).isSome = true) : getA (l.map fun q => (q.1, f q.1)) k = some (f k) := by
  rw [getA_map l f k, if_pos (by rw [← lookup_contains]; exact h)]
theorem add_know {Q : Fl → Loc → Mem → Prop} (hK : W.K = hdK W.w.params) (ok : GOk aGrammar aProd adr0 c0 g) (G : GS adr cc sy X m) (T : TN adr0 c0 adr cc te no) (hl : LSub (addL (adr0 .self) sy name map prec func file line num) loc) (hz : no.length ≤ 1000000)
    (h : ∀ l m adr1 cc1, LSub (addL (adr0 .self) sy name map prec func file line num) l → GS adr1 cc1 sy X m → TN adr0 c0 adr1 cc1 te (known no name) → Q .next l m) :
    TrS W A (addE L) outer (exec (addP.body.getD 8 (.Pass ⟨0, 0, 0, 0⟩)) (addE L)) loc m Q E := by
  refine Tr.locs hl ?_
  obtain ⟨epd, hdict⟩ := ok.dict
  have hx := T.at G (by simp) (by simp) (by simp) ok.self
  have hd := T.at G (by simp) (by simp) (by simp) hdict
  obtain ⟨epn, hnod⟩ := T.hno
  have hno := G.get hnod
  rw [T.adrE .no (by simp)] at hno
  refine s_if ?_; refine b_cmp rfl ?_; refine e_local rfl rfl rfl rfl ?_; refine e_attr rfl ?_; refine e_local rfl rfl rfl rfl ?_
  refine get_o hK (fun _ => by kernel_rfl) (.own hx hd) rfl rfl ?_
  skip
  refine notin_dict hno ?_
  cases q : (no.lookup name).isSome with
  | true =>
    rw [show (getA (no.map fun q => (q.1, V.ref (adr (.noL q.1)))) name).isSome = true from lookA (f := fun k => V.ref (adr (.noL k))) q]
    refine tr_bool ?_
    refine only_f ?_
    refine s_nil ?_
    refine h _ _ adr cc (rfl) G ?_
    have : known no name = no := by unfold known; rw [if_pos q]
    rw [this]; exact T
  | false =>
    rw [show (getA (no.map fun q => (q.1, V.ref (adr (.noL q.1)))) name).isSome = false from lookA (f := fun k => V.ref (adr (.noL k))) q]
    refine tr_bool ?_
    refine only_t ?_
    refine s_cons ?_; refine s_assign_sub rfl ?_; refine e_list ?_; refine a_nil ?_
    refine new_own' (by decide) (fun a m1 ha h1 f1 => ?_)
    have q' : no.lookup name = none := by cases z : no.lookup name with | none => rfl | some _ => rw [z] at q; cases q
    have hc : cc (.noL name) = none := by rw [T.noL, q']; rfl
    have G1 := G.new hc ha h1 f1
    have hx : m1 (adr0 .self) = _ := (f1 _ (nex hx ha)).trans hx
    have hd : m1 (adr0 .dict) = _ := (f1 _ (nex hd ha)).trans hd
    have hno : m1 (adr0 .no) = _ := (f1 _ (nex hno ha)).trans hno
    refine e_attr rfl ?_; refine e_local rfl rfl rfl rfl ?_
    refine get_o hK (fun _ => by kernel_rfl) (.own hx hd) rfl rfl ?_
    refine e_local rfl rfl rfl rfl ?_
    refine setItem_dict' hno (by simp; exact Nat.le_trans hz (by decide)) (fun m2 ep2 h2 f2 => ?_)
    refine s_nil ?_
    have hc2 : upd cc (.noL name) (some (.list [])) .no = some (.dict (no.map fun q => (q.1, .ref (adr (.noL q.1)))) epn) := by rw [upd_ne (by simp)]; exact hnod
    have e2 : upd adr (.noL name) a .no = adr0 .no := by rw [upd_ne (by simp), T.adrE .no (by simp)]
    have G2 := G1.set (r := .no) hc2 (by rw [e2]; exact h2) (by rw [e2]; exact f2)
    exact h _ _ _ _ (rfl) G2 (T.newN q')
noncomputable def LenOk (B : Nat) (tn : List (Str × List Int) × List (Str × List Int)) : Prop := tn.2.length ≤ B ∧ (∀ k ns, tn.1.lookup k = some ns → ns.length ≤ B) ∧ ∀ k ns, tn.2.lookup k = some ns → ns.length ≤ B
theorem pushL_len {B : Nat} {l : List (Str × List Int)} {s : Str} {n : Int} (h : ∀ k ns, l.lookup k = some ns → ns.length ≤ B) : ∀ k ns, (pushL l s n).lookup k = some ns → ns.length ≤ B + 1 := by
  intro k ns e
  rw [pushL_lookup] at e
  split at e
  · cases q : l.lookup k with
    | none => rw [q] at e; cases e
    | some z => rw [q] at e; cases e; have := h k z q; simp; omega
  · have := h k ns e; omega
theorem known_len {B : Nat} {l : List (Str × List Int)} {s : Str} (h : ∀ k ns, l.lookup k = some ns → ns.length ≤ B) : ∀ k ns, (known l s).lookup k = some ns → ns.length ≤ B := by
  intro k ns e
  rw [known_lookup] at e
  split at e
  · cases q : l.lookup s with
    | none => rw [q] at e; cases e; simp
    | some z => rw [q] at e; cases e; exact h s z q
  · exact h k ns e
theorem known_size {l : List (Str × List Int)} {s : Str} : (known l s).length ≤ l.length + 1 := by unfold known; split <;> simp
theorem LenOk.note {B : Nat} {tn : List (Str × List Int) × List (Str × List Int)} (h : LenOk B tn) (n : Int) (s : Str) : LenOk (B + 1) (noteSym n tn s) := by
  obtain ⟨h1, h2, h3⟩ := h
  unfold noteSym
  split
  · exact ⟨Nat.le_succ_of_le h1, pushL_len h2, fun k ns e => Nat.le_succ_of_le (h3 k ns e)⟩
  · refine ⟨?_, fun k ns e => Nat.le_succ_of_le (h2 k ns e), pushL_len (known_len h3)⟩
    show (pushL _ _ _).length ≤ _
    unfold pushL; rw [List.length_map]; have := @known_size tn.2 s; omega
theorem notes_len {B : Nat} {tn : List (Str × List Int) × List (Str × List Int)} (h : LenOk B tn) (n : Int) (syms : List Str) : LenOk (B + syms.length) (syms.foldl (noteSym n) tn) := by
  induction syms generalizing B tn with
  | nil => exact h
  | cons s l ih => have := ih (h.note n s); rw [List.length_cons, Nat.add_comm l.length 1, ← Nat.add_assoc]; exact this
inductive P2G_J1 (adr0 : Rl → Addr) (c0 : Rl → Option AObj) (te : List (Str × List Int)) (no : List (Str × List Int)) (sy : Addr) (name : Str) (map : Str) (prec : V) (func : V) (file : V) (line : V) (n : Int) (syms : List Str) (k : Nat) (i : Nat) (l : Loc) (m : Mem) : Prop
  | mk (h1_ : k + i = syms.length) (h2_ : LSub (addL (adr0 .self) sy name map prec func file line (.int n)) l) (adr1 : _) (cc1 : _) (h3_ : GS adr1 cc1 sy (.list (vStrs syms)) m) (h4_ : TN adr0 c0 adr1 cc1 ((syms.take i).foldl (noteSym n) (te, no)).1 ((syms.take i).foldl (noteSym n) (te, no)).2)
theorem add_loop {Q : Fl → Loc → Mem → Prop} {n : Int} {syms : List Str} (hK : W.K = hdK W.w.params) (hh : A.handled = none) (ok : GOk aGrammar aProd adr0 c0 g) (G : GS adr cc sy (.list (vStrs syms)) m) (T : TN adr0 c0 adr cc te no) (hl : LSub (addL (adr0 .self) sy name map prec func file line (.int n)) loc) (hz : LenOk 1000000 (te, no)) (hs : syms.length ≤ 1000)
    (h : ∀ l m adr1 cc1, LSub (addL (adr0 .self) sy name map prec func file line (.int n)) l → GS adr1 cc1 sy (.list (vStrs syms)) m → TN adr0 c0 adr1 cc1 (syms.foldl (noteSym n) (te, no)).1 (syms.foldl (noteSym n) (te, no)).2 → Q .next l m) :
    TrS W A (addE L) outer (exec (addP.body.getD 9 (.Pass ⟨0, 0, 0, 0⟩)) (addE L)) loc m Q E := by
  refine Tr.locs hl ?_
  refine s_for (fun _ => rfl) ?_; refine e_local rfl rfl rfl rfl ?_
  let J1 : Nat → Nat → Loc → Mem → Prop := P2G_J1 adr0 c0 te no sy name map prec func file line n syms
  refine for_k (itr_own hh G.side) J1 ?_ syms.length ⟨rfl, rfl, adr, cc, G, T⟩
  rintro k i l m ⟨hk, hl, adr1, cc1, G, T⟩
  have ei : ownItem sy i m = some (vStrs syms)[i]? := ownItem_eq G.side
  refine ⟨by rw [ei]; simp, fun hn1 => ?_, fun v hv => ?_⟩
  · rw [ei] at hn1
    have hn1 : (vStrs syms)[i]? = none := Option.some.inj hn1
    rw [List.getElem?_eq_none_iff, vStrs_len] at hn1
    obtain rfl : i = syms.length := by omega
    refine Tr.locs hl ?_
    refine s_nil ?_
    rw [List.take_length] at T
    exact h _ _ _ _ (rfl) G T
  · rw [ei] at hv
    have hi : (vStrs syms)[i]? = some v := Option.some.inj hv
    obtain ⟨y, rfl, hy1⟩ : ∃ y, v = .str y ∧ syms[i]? = some y := by
      unfold vStrs at hi
      rw [List.getElem?_map] at hi
      cases e : syms[i]? with
      | none => rw [e] at hi; cases hi
      | some y => rw [e] at hi; exact ⟨y, (Option.some.inj hi).symm, rfl⟩
    have hlt : i < syms.length := by rw [List.getElem?_eq_some_iff] at hy1; exact hy1.1
    have et : (syms.take (i + 1)).foldl (noteSym n) (te, no) = noteSym n ((syms.take i).foldl (noteSym n) (te, no)) y := by rw [take_snoc hy1, List.foldl_append]; rfl
    have hlen := notes_len hz n (syms.take i)
    generalize htn : (syms.take i).foldl (noteSym n) (te, no) = tn at *
    have hlen : LenOk 1001000 tn := by
      have e : (syms.take i).length ≤ 1000 := by rw [List.length_take]; omega
      obtain ⟨a, b, d⟩ := hlen
      exact ⟨by omega, fun k ns z => by have := b k ns z; omega, fun k ns z => by have := d k ns z; omega⟩
    obtain ⟨tt, nn⟩ := tn
    obtain ⟨hz1, hz2, hz3⟩ := hlen
    dsimp only at hz1 hz2 hz3 T
    obtain ⟨epd, hdict⟩ := ok.dict
    have hx := T.at G (by simp) (by simp) (by simp) ok.self
    have hd := T.at G (by simp) (by simp) (by simp) hdict
    obtain ⟨epn, hnod⟩ := T.hno
    have hno := G.get hnod
    rw [T.adrE .no (by simp)] at hno
    obtain ⟨ept, hted⟩ := T.hte
    have hte := G.get hted
    rw [T.adrE .te (by simp)] at hte
    refine Op.locs hl ?_
    refine asg_name ?_; refine st_local rfl rfl ?_; (refine nameQ ?_; intro qq ee; refine s_cons ?_); refine s_if ?_; refine b_cmp rfl ?_; refine e_local rfl rfl rfl rfl ?_; refine e_attr rfl ?_; refine e_local rfl rfl rfl rfl ?_
    refine get_o hK (fun _ => by kernel_rfl) (.own hx hd) rfl rfl ?_
    skip
    refine in_dict hte ?_
    cases q : (tt.lookup y).isSome with
    | true =>
      rw [show (getA (tt.map fun q => (q.1, V.ref (adr1 (.teL q.1)))) y).isSome = true from lookA (f := fun k => V.ref (adr1 (.teL k))) q]
      refine tr_bool ?_
      refine only_t ?_
      (refine nameQ ?_; intro qq ee; refine s_cons ?_); refine s_expr rfl rfl ?_; refine c_meth rfl ?_; refine e_sub (fun _ _ => rfl) ?_; refine e_attr rfl ?_; refine e_local rfl rfl rfl rfl ?_
      refine get_o hK (fun _ => by kernel_rfl) (.own hx hd) rfl rfl ?_
      refine e_local rfl rfl rfl rfl ?_
      refine sub_dict hte (lookB (f := fun k => V.ref (adr1 (.teL k))) q) ?_
      obtain ⟨ns, hns⟩ := Option.isSome_iff_exists.mp q
      have hcl : cc1 (.teL y) = some (.list (vInts ns)) := by rw [T.teL, hns]; rfl
      have hl1 := G.get hcl
      refine m_builtin (.list hl1) PySem.F.plainAttrs_list PySem.F.slot_list_append PySem.F.type_list_append rfl rfl ?_
      refine a_cons rfl ?_; refine e_local rfl rfl rfl rfl ?_; refine a_nil ?_
      refine append_own' hl1 (by have := hz2 y ns hns; simp [vInts]; exact Nat.le_trans this (by decide)) (fun m2 h2 f2 => ?_)
      refine s_nil ?_; refine s_nil ?_
      refine ⟨k - 1, (kst hk hlt).1, (kst hk hlt).2, rfl, _, _, G.set hcl h2 f2, ?_⟩
      have : noteSym n (tt, nn) y = (pushL tt y n, nn) := by unfold noteSym; rw [if_pos q]
      rw [et, this]
      exact T.pushT hns
    | false =>
      rw [show (getA (tt.map fun q => (q.1, V.ref (adr1 (.teL q.1)))) y).isSome = false from lookA (f := fun k => V.ref (adr1 (.teL k))) q]
      refine tr_bool ?_
      refine only_f ?_
      have hnote : noteSym n (tt, nn) y = (tt, pushL (known nn y) y n) := by unfold noteSym; rw [if_neg (by rw [q]; exact Bool.false_ne_true)]
      (refine nameQ ?_; intro qq ee; refine s_cons ?_)
      refine Tr.mono (Q := fun f l m => f = .next ∧ LSub (("t", .str y) :: addL (adr0 .self) sy name map prec func file line (.int n)) l ∧ ∃ adr2 cc2, GS adr2 cc2 sy (.list (vStrs syms)) m ∧ TN adr0 c0 adr2 cc2 tt (known nn y)) ?_ ?_
      · refine s_if ?_; refine b_cmp rfl ?_; refine e_local rfl rfl rfl rfl ?_; refine e_attr rfl ?_; refine e_local rfl rfl rfl rfl ?_
        refine get_o hK (fun _ => by kernel_rfl) (.own hx hd) rfl rfl ?_
        skip
        refine notin_dict hno ?_
        cases q2 : (nn.lookup y).isSome with
        | true =>
          rw [show (getA (nn.map fun q => (q.1, V.ref (adr1 (.noL q.1)))) y).isSome = true from lookA (f := fun k => V.ref (adr1 (.noL k))) q2]
          refine tr_bool ?_
          refine only_f ?_
          refine s_nil ?_
          have : known nn y = nn := by unfold known; rw [if_pos q2]
          rw [this]
          exact ⟨rfl, rfl, _, _, G, T⟩
        | false =>
          rw [show (getA (nn.map fun q => (q.1, V.ref (adr1 (.noL q.1)))) y).isSome = false from lookA (f := fun k => V.ref (adr1 (.noL k))) q2]
          refine tr_bool ?_
          refine only_t ?_
          (refine nameQ ?_; intro qq ee; refine s_cons ?_); refine s_assign_sub rfl ?_; refine e_list ?_; refine a_nil ?_
          refine new_own' (by decide) (fun a m1 ha h1 f1 => ?_)
          have q' : nn.lookup y = none := by cases z : nn.lookup y with | none => rfl | some _ => rw [z] at q2; cases q2
          have hc : cc1 (.noL y) = none := by rw [T.noL, q']; rfl
          have G1 := G.new hc ha h1 f1
          have hx : m1 (adr0 .self) = _ := (f1 _ (nex hx ha)).trans hx
          have hd : m1 (adr0 .dict) = _ := (f1 _ (nex hd ha)).trans hd
          have hno : m1 (adr0 .no) = _ := (f1 _ (nex hno ha)).trans hno
          refine e_attr rfl ?_; refine e_local rfl rfl rfl rfl ?_
          refine get_o hK (fun _ => by kernel_rfl) (.own hx hd) rfl rfl ?_
          refine e_local rfl rfl rfl rfl ?_
          refine setItem_dict' hno (by simp; exact Nat.le_trans hz1 (by decide)) (fun m2 ep2 h2 f2 => ?_)
          refine s_nil ?_
          have hc2 : upd cc1 (.noL y) (some (.list [])) .no = some (.dict (nn.map fun q => (q.1, .ref (adr1 (.noL q.1)))) epn) := by rw [upd_ne (by simp)]; exact hnod
          have e2 : upd adr1 (.noL y) a .no = adr0 .no := by rw [upd_ne (by simp), T.adrE .no (by simp)]
          have G2 := G1.set (r := .no) hc2 (by rw [e2]; exact h2) (by rw [e2]; exact f2)
          exact ⟨rfl, rfl, _, _, G2, T.newN q'⟩
      · rintro f l m ⟨rfl, hl, adr2, cc2, G, T⟩
        refine s_cons ?_
        refine Tr.locs hl ?_
        have hx := T.at G (by simp) (by simp) (by simp) ok.self
        have hd := T.at G (by simp) (by simp) (by simp) hdict
        obtain ⟨epn, hnod⟩ := T.hno
        have hno := G.get hnod
        rw [T.adrE .no (by simp)] at hno
        refine s_expr rfl rfl ?_; refine c_meth rfl ?_; refine e_sub (fun _ _ => rfl) ?_; refine e_attr rfl ?_; refine e_local rfl rfl rfl rfl ?_
        refine get_o hK (fun _ => by kernel_rfl) (.own hx hd) rfl rfl ?_
        refine e_local rfl rfl rfl rfl ?_
        have hk3 : (known nn y).lookup y = some ((nn.lookup y).getD []) := by rw [known_lookup, if_pos rfl]
        refine sub_dict hno (lookB (f := fun k => V.ref (adr2 (.noL k))) (by rw [hk3]; rfl)) ?_
        have hcl : cc2 (.noL y) = some (.list (vInts ((nn.lookup y).getD []))) := by rw [T.noL, hk3]; rfl
        have hl1 := G.get hcl
        refine m_builtin (.list hl1) PySem.F.plainAttrs_list PySem.F.slot_list_append PySem.F.type_list_append rfl rfl ?_
        refine a_cons rfl ?_; refine e_local rfl rfl rfl rfl ?_; refine a_nil ?_
        refine append_own' hl1 (by have := known_len hz3 y _ hk3; simp [vInts]; exact Nat.le_trans this (by decide)) (fun m2 h2 f2 => ?_)
        refine s_nil ?_; refine s_nil ?_
        refine ⟨k - 1, (kst hk hlt).1, (kst hk hlt).2, rfl, _, _, G.set hcl h2 f2, ?_⟩
        rw [et, hnote]
        exact T.pushN hk3
end
end Mine
end
section
set_option autoImplicit false
namespace Mine
theorem GOk.add {C CP : Addr} {g : GR} {adr0 adr adr' : Rl → Addr} {c0 cc c' : Rl → Option AObj} {te no : List (Str × List Int)} {p : Pr} {pn' : List Str} (ok : GOk C CP adr0 c0 g) (T : TN adr0 c0 adr cc te no)
    (ha : ∀ r, (∀ k, r ≠ .pnL k) → adr' r = adr r) (hc : ∀ r, r ≠ .pl → r ≠ .pm → r ≠ .pn → (∀ k, r ≠ .pnL k) → c' r = cc r)
    (hpl : c' .pl = some (.list (g.p0 :: (g.prods ++ [p]).map (pV CP)))) (hpm : ∃ ep, c' .pm = some (.dict ((g.prods ++ [p]).map fun p => (mapText p.name p.body, pV CP p)) ep))
    (hpn : ∃ ep, c' .pn = some (.dict (pn'.map fun k => (k, .ref (adr' (.pnL k)))) ep)) (hpnL : ∀ k, c' (.pnL k) = if k ∈ pn' then some (.list (((g.prods ++ [p]).filter fun p => p.name = k).map (pV CP))) else none) :
    GOk C CP adr' c' { g with prods := g.prods ++ [p], pn := pn', te := te, no := no } := by
  have hA : ∀ r, (∀ k, r ≠ .pnL k) → (∀ k, r ≠ .noL k) → adr' r = adr0 r := fun r h1 h2 => (ha r h1).trans (T.adrE r h2)
  have hC : ∀ r, r ≠ .pl → r ≠ .pm → r ≠ .pn → (∀ k, r ≠ .pnL k) → (∀ k, r ≠ .noL k) → (∀ k, r ≠ .teL k) → r ≠ .no → c' r = c0 r := fun r h1 h2 h3 h4 h5 h6 h7 => (hc r h1 h2 h3 h4).trans (T.cE r h5 h6 h7)
  exact {
    self := by rw [hC _ (by simp) (by simp) (by simp) (by simp) (by simp) (by simp) (by simp), hA .dict (by simp) (by simp)]; exact ok.self
    dict := by
      obtain ⟨ep, e⟩ := ok.dict
      refine ⟨ep, ?_⟩
      rw [hC _ (by simp) (by simp) (by simp) (by simp) (by simp) (by simp) (by simp), e]
      exact congrArg (fun z => some (AObj.dict z ep)) (gAttrs_eq fun r hr => hA r (fun _ => leaf_ne hr rfl) fun _ => leaf_ne hr rfl).symm
    pl := hpl
    pn := hpn
    pnL := hpnL
    pm := hpm
    te := by
      obtain ⟨ep, e⟩ := T.hte
      refine ⟨ep, ?_⟩
      rw [hc _ (by simp) (by simp) (by simp) (by simp), e]
      exact congrArg (fun z => some (AObj.dict z ep)) (List.map_congr_left fun q _ => by rw [ha _ (by simp)])
    teL := fun k => by rw [hc _ (by simp) (by simp) (by simp) (by simp)]; exact T.teL k
    no := by
      obtain ⟨ep, e⟩ := T.hno
      refine ⟨ep, ?_⟩
      rw [hc _ (by simp) (by simp) (by simp) (by simp), e]
      exact congrArg (fun z => some (AObj.dict z ep)) (List.map_congr_left fun q _ => by rw [ha _ (by simp)])
    noL := fun k => by rw [hc _ (by simp) (by simp) (by simp) (by simp)]; exact T.noL k
    fi := by
      obtain ⟨ep, e⟩ := ok.fi
      refine ⟨ep, ?_⟩
      rw [hC _ (by simp) (by simp) (by simp) (by simp) (by simp) (by simp) (by simp), e]
      exact congrArg (fun z => some (AObj.dict z ep)) (List.map_congr_left fun q _ => by rw [hA _ (by simp) (by simp)])
    fiL := fun k => by rw [hC _ (by simp) (by simp) (by simp) (by simp) (by simp) (by simp) (by simp)]; exact ok.fiL k
    fo := by
      obtain ⟨ep, e⟩ := ok.fo
      refine ⟨ep, ?_⟩
      rw [hC _ (by simp) (by simp) (by simp) (by simp) (by simp) (by simp) (by simp), e]
      exact congrArg (fun z => some (AObj.dict z ep)) (List.map_congr_left fun q _ => by rw [hA _ (by simp) (by simp)])
    foL := fun k => by rw [hC _ (by simp) (by simp) (by simp) (by simp) (by simp) (by simp) (by simp)]; exact ok.foL k
    pr := by rw [hC _ (by simp) (by simp) (by simp) (by simp) (by simp) (by simp) (by simp)]; exact ok.pr
    up := by rw [hC _ (by simp) (by simp) (by simp) (by simp) (by simp) (by simp) (by simp)]; exact ok.up }
section
variable {W : Wd} {A : Around} {outer : Outs} {loc : Loc} {m : Mem} {E : Ex W} {L : Addr} {g : GR} {adr0 adr : Rl → Addr} {c0 cc : Rl → Option AObj} {te no : List (Str × List Int)} {sy : Addr} {name map : Str} {prec func file line : V} {n : Int} {syms : List Str}
theorem keys_look (l : List Str) (f : Str → V) (k : Str) : getA (l.map fun k => (k, f k)) k = if k ∈ l then some (f k) else none := by
  have := getA_map (l.map fun k => (k, ())) f k
  rw [List.map_map, List.map_map] at this
  have e : ((fun q : Str × Unit => q.1) ∘ fun k => (k, ())) = id := rfl
  rw [e, List.map_id] at this
  refine Eq.trans this ?_
  by_cases h : k ∈ l
  · rw [if_pos h, if_pos (by rw [List.contains_iff_mem]; exact h)]
  · rw [if_neg h, if_neg (by rw [List.contains_iff_mem]; exact h)]
theorem add_end {Q : Fl → Loc → Mem → Prop} (hK : W.K = hdK W.w.params) (cd : Calm A 700 6000) (f : Fits A (addE L) outer) (ok : GOk aGrammar aProd adr0 c0 g) (G : GS adr cc sy (.list (vStrs syms)) m) (T : TN adr0 c0 adr cc te no) (hl : LSub (addL (adr0 .self) sy name map prec func file line (.int n)) loc)
    (hn : name.cps.size ≤ 100) (hs : syms.length ≤ 100) (hy : ∀ y ∈ syms, y.cps.size ≤ 100 ∧ PyData.strOk y = true) (hr : notRef prec = true ∧ notRef func = true ∧ notRef file = true ∧ notRef line = true)
    (hmap : map = mapText name syms) (hm : ∀ p ∈ g.prods, mapText p.name p.body ≠ map) (hnum : g.prods.length ≤ 1000) (hpn : ∀ p ∈ g.prods, p.name ∈ g.pn) (hpz : g.pn.length ≤ 1000)
    (h : ∀ l m gm', GMem aGrammar aProd { g with prods := g.prods ++ [{ name := name, body := syms, num := n, prec := prec, func := func, file := file, line := line }], pn := if name ∈ g.pn then g.pn else g.pn ++ [name], te := te, no := no } (adr0 .self) gm' → Sub gm' m → Q .next l m) :
    TrS W A (addE L) outer (execs (addP.body.drop 10) (addE L)) loc m Q E := by
  refine Tr.locs hl ?_
  obtain ⟨epd, hdict⟩ := ok.dict
  have hx := T.at G (by simp) (by simp) (by simp) ok.self
  have hd := T.at G (by simp) (by simp) (by simp) hdict
  refine s_cons ?_; refine s_assign rfl ?_; refine c_name rfl ?_; refine e_topG rfl rfl rfl rfl (by rw [hK]; rfl) ?_; refine c_top (by rw [hK]; rfl) rfl rfl ?_; refine a_cons rfl ?_; refine e_local rfl rfl rfl rfl ?_; refine a_cons rfl ?_; refine e_local rfl rfl rfl rfl ?_; refine a_cons rfl ?_; refine e_local rfl rfl rfl rfl ?_; refine a_cons rfl ?_; refine e_local rfl rfl rfl rfl ?_; refine a_cons rfl ?_; refine e_local rfl rfl rfl rfl ?_; refine a_cons rfl ?_; refine e_local rfl rfl rfl rfl ?_; refine a_cons rfl ?_; refine e_local rfl rfl rfl rfl ?_; refine a_nil ?_
  obtain ⟨p, hp⟩ : ∃ p : Pr, p = { name := name, body := syms, num := n, prec := prec, func := func, file := file, line := line } := ⟨_, rfl⟩
  have hP : V.ins aProd (prodAttrs (.int n) name syms prec func file line) = pV aProd p := by rw [hp]; rfl
  have hpn1 : p.name = name := by rw [hp]
  have hpm1 : mapText p.name p.body = map := by rw [hp, hmap]
  refine prod_spec hK (cd.mono (by decide) (by decide)) (.own G.side) hs hy hn ⟨rfl, hr⟩ ?_
  rw [hP]
  refine st_local rfl rfl ?_; refine s_cons ?_; refine s_expr rfl rfl ?_; refine c_meth rfl ?_; refine e_attr rfl ?_; refine e_local rfl rfl rfl rfl ?_
  refine get_o hK (fun _ => by kernel_rfl) (.own hx hd) rfl rfl ?_
  have hpl := G.get (r := .pl) ((T.cE .pl (by simp) (by simp) (by simp)).trans ok.pl)
  rw [T.adrE .pl (by simp)] at hpl
  refine m_builtin (.list hpl) PySem.F.plainAttrs_list PySem.F.slot_list_append PySem.F.type_list_append rfl rfl ?_
  refine a_cons rfl ?_; refine e_local rfl rfl rfl rfl ?_; refine a_nil ?_
  refine append_own' hpl (by simp; exact Nat.le_trans (Nat.succ_le_succ hnum) (by decide)) (fun m1 h1 f1 => ?_)
  have G1 := G.set (r := .pl) ((T.cE .pl (by simp) (by simp) (by simp)).trans ok.pl) (by rw [T.adrE .pl (by simp)]; exact h1) (by rw [T.adrE .pl (by simp)]; exact f1)
  have hx : m1 (adr0 .self) = _ := (f1 _ (nex hx hpl)).trans hx
  have hd : m1 (adr0 .dict) = _ := (f1 _ (nex hd hpl)).trans hd
  refine s_cons ?_; refine s_assign_sub rfl ?_; refine e_local rfl rfl rfl rfl ?_; refine e_attr rfl ?_; refine e_local rfl rfl rfl rfl ?_
  refine get_o hK (fun _ => by kernel_rfl) (.own hx hd) rfl rfl ?_
  refine e_local rfl rfl rfl rfl ?_
  obtain ⟨epm, hpmd⟩ := ok.pm
  have hcm : upd cc .pl (some (.list ((g.p0 :: g.prods.map (pV aProd)) ++ [pV aProd p]))) .pm = some (.dict (g.prods.map fun p => (mapText p.name p.body, pV aProd p)) epm) := by rw [upd_ne (by simp)]; exact (T.cE .pm (by simp) (by simp) (by simp)).trans hpmd
  have hpm := G1.get hcm
  rw [T.adrE .pm (by simp)] at hpm
  refine setItem_dict' hpm (by simp; exact Nat.le_trans hnum (by decide)) (fun m2 ep2 h2 f2 => ?_)
  have hno : getA (g.prods.map fun p => (mapText p.name p.body, pV aProd p)) map = none := by
    unfold getA
    rw [Option.map_eq_none_iff, List.find?_eq_none]
    intro z hz q
    obtain ⟨p', hp', rfl⟩ := List.mem_map.mp hz
    exact hm p' hp' (of_decide_eq_true q)
  rw [stA_new hno] at h2
  have G2 := G1.set (r := .pm) hcm (by rw [T.adrE .pm (by simp)]; exact h2) (by rw [T.adrE .pm (by simp)]; exact f2)
  have look : ∀ {r x}, (∀ k, r ≠ .noL k) → (∀ k, r ≠ .teL k) → r ≠ .no → r ≠ .pl → r ≠ .pm → c0 r = some x → m2 (adr0 r) = some x := fun {r x} a1 a2 a3 a4 a5 e => by
    have := G2.get (r := r) (x := x) (by rw [upd_ne a5, upd_ne a4]; exact (T.cE r a1 a2 a3).trans e)
    rwa [T.adrE r a1] at this
  have hx := look (by simp) (by simp) (by simp) (by simp) (by simp) ok.self
  have hd := look (by simp) (by simp) (by simp) (by simp) (by simp) hdict
  refine s_cons ?_
  obtain ⟨epp, hpnd⟩ := ok.pn
  have hcn : (upd (upd cc .pl (some (.list ((g.p0 :: g.prods.map (pV aProd)) ++ [pV aProd p])))) .pm (some (.dict ((g.prods.map fun p => (mapText p.name p.body, pV aProd p)) ++ [(map, pV aProd p)]) ep2))) .pn = some (.dict (g.pn.map fun k => (k, .ref (adr0 (.pnL k)))) epp) := by
    rw [upd_ne (by simp), upd_ne (by simp)]; exact (T.cE .pn (by simp) (by simp) (by simp)).trans hpnd
  have hpnm := G2.get hcn
  rw [T.adrE .pn (by simp)] at hpnm
  by_cases hin : name ∈ g.pn
  · refine s_try1 (T := "KeyError") (fun _ _ => False) f kr_isExc_KeyError kr_notTuple_KeyError (by rw [isSubtype_type]; kernel_rfl) rfl rfl rfl rfl (by decide) (by rw [hK]; rfl) PyProof.Rows.Boot.«KeyError» (by decide) ?_ (fun _ _ _ z => z.elim)
    (refine nameQ ?_; intro qq ee; refine s_cons ?_); refine s_expr rfl rfl ?_; refine c_meth rfl ?_; refine e_sub (fun _ _ => rfl) ?_; refine e_attr rfl ?_; refine e_local rfl rfl rfl rfl ?_
    refine get_o hK (fun _ => by kernel_rfl) (.own hx hd) rfl rfl ?_
    refine e_local rfl rfl rfl rfl ?_
    refine sub_dict hpnm (by rw [keys_look g.pn (fun k => V.ref (adr0 (.pnL k))), if_pos hin]) ?_
    have hl1 := look (r := .pnL name) (by simp) (by simp) (by simp) (by simp) (by simp) (by rw [ok.pnL, if_pos hin])
    refine m_builtin (.list hl1) PySem.F.plainAttrs_list PySem.F.slot_list_append PySem.F.type_list_append rfl rfl ?_
    refine a_cons rfl ?_; refine e_local rfl rfl rfl rfl ?_; refine a_nil ?_
    refine append_own' hl1 (by simp; exact Nat.le_trans (List.length_filter_le _ _) (Nat.le_trans hnum (by decide))) (fun m3 h3 f3 => ?_)
    refine s_nil ?_; refine s_nil ?_
    have hcl : upd (upd cc .pl (some (.list ((g.p0 :: g.prods.map (pV aProd)) ++ [pV aProd p])))) .pm (some (.dict ((g.prods.map fun p => (mapText p.name p.body, pV aProd p)) ++ [(map, pV aProd p)]) ep2)) (.pnL name) = some (.list ((g.prods.filter fun p => p.name = name).map (pV aProd))) := by
      rw [upd_ne (by simp), upd_ne (by simp)]; refine (T.cE _ (by simp) (by simp) (by simp)).trans ?_; rw [ok.pnL, if_pos hin]
    have eA : adr (.pnL name) = adr0 (.pnL name) := T.adrE _ (by simp)
    have G3 := G2.set hcl (by rw [eA]; exact h3) (by rw [eA]; exact f3)
    obtain ⟨gm', M', hsub⟩ := G3.done
    refine h _ _ gm' ?_ hsub
    rw [if_pos hin, ← hp]
    refine ⟨_, _, M', GOk.add ok T (fun _ _ => rfl) (fun r a1 a2 a3 a4 => by rw [upd_ne (a4 name), upd_ne a2, upd_ne a1]) ?_ ⟨ep2, ?_⟩ ⟨epp, ?_⟩ (fun k => ?_), T.adrE _ (by simp)⟩
    · rw [upd_ne (by simp), upd_ne (by simp), upd_self]; simp
    · rw [upd_ne (by simp), upd_self]; simp [hpm1]
    · rw [upd_ne (by simp), hcn]
      exact congrArg (fun z => some (AObj.dict z epp)) (List.map_congr_left fun k _ => by rw [T.adrE _ (by simp)])
    · by_cases e : k = name
      · subst e
        rw [upd_self, if_pos hin, List.filter_append]
        simp [hpn1]
      · rw [upd_ne (by simpa using e), upd_ne (by simp), upd_ne (by simp), T.cE _ (by simp) (by simp) (by simp), ok.pnL, List.filter_append]
        have : ¬ p.name = k := fun q => e (by rw [← q, hpn1])
        simp [this]
  · refine s_try1 (T := "KeyError") (fun l m => LSub (("p", pV aProd p) :: addL (adr0 .self) sy name map prec func file line (.int n)) l ∧ m = m2) f kr_isExc_KeyError kr_notTuple_KeyError (by rw [isSubtype_type]; kernel_rfl) rfl rfl rfl rfl (by decide) (by rw [hK]; rfl) PyProof.Rows.Boot.«KeyError» (by decide) ?_ ?_
    · (refine nameQ ?_; intro qq ee; refine s_cons ?_); refine s_expr rfl rfl ?_; refine c_meth rfl ?_; refine e_sub (fun _ _ => rfl) ?_; refine e_attr rfl ?_; refine e_local rfl rfl rfl rfl ?_
      refine get_o hK (fun _ => by kernel_rfl) (.own hx hd) rfl rfl ?_
      refine e_local rfl rfl rfl rfl ?_
      refine sub_none hpnm (by rw [keys_look g.pn (fun k => V.ref (adr0 (.pnL k))), if_neg hin]) cd.handled ⟨rfl, rfl, rfl⟩
    · rintro e l m ⟨hl, rfl⟩
      refine Tr.locs hl ?_
      (refine nameS ?_; intro aa vv oo qq ee; refine s_cons ?_); refine s_assign_sub rfl ?_; refine e_list ?_; refine a_cons rfl ?_; refine e_local rfl rfl rfl rfl ?_; refine a_nil ?_
      refine new_own' (show 1 ≤ sizeLine by decide) (fun a m3 ha h3 f3 => ?_)
      have hx : m3 (adr0 .self) = _ := (f3 _ (nex hx ha)).trans hx
      have hd : m3 (adr0 .dict) = _ := (f3 _ (nex hd ha)).trans hd
      have hpnm : m3 (adr0 .pn) = _ := (f3 _ (nex hpnm ha)).trans hpnm
      refine e_attr rfl ?_; refine e_local rfl rfl rfl rfl ?_
      refine get_o hK (fun _ => by kernel_rfl) (.own hx hd) rfl rfl ?_
      refine e_local rfl rfl rfl rfl ?_
      refine setItem_dict' hpnm (by simp; exact Nat.le_trans hpz (by decide)) (fun m4 ep4 h4 f4 => ?_)
      refine s_nil ?_; refine s_nil ?_
      have hcl : upd (upd cc .pl (some (.list ((g.p0 :: g.prods.map (pV aProd)) ++ [pV aProd p])))) .pm (some (.dict ((g.prods.map fun p => (mapText p.name p.body, pV aProd p)) ++ [(map, pV aProd p)]) ep2)) (.pnL name) = none := by
        rw [upd_ne (by simp), upd_ne (by simp)]; refine (T.cE _ (by simp) (by simp) (by simp)).trans ?_; rw [ok.pnL, if_neg hin]
      have G3 := G2.new hcl ha h3 f3
      have eA : upd adr (.pnL name) a .pn = adr0 .pn := by rw [upd_ne (by simp)]; exact T.adrE _ (by simp)
      have hcn2 := (upd_ne (f := upd (upd cc .pl (some (.list ((g.p0 :: g.prods.map (pV aProd)) ++ [pV aProd p])))) .pm (some (.dict ((g.prods.map fun p => (mapText p.name p.body, pV aProd p)) ++ [(map, pV aProd p)]) ep2))) (r := .pnL name) (r' := .pn) (y := some (.list [pV aProd p])) (by simp)).trans hcn
      have G4 := G3.set hcn2 (by rw [eA]; exact h4) (by rw [eA]; exact f4)
      obtain ⟨gm', M', hsub⟩ := G4.done
      refine h _ _ gm' ?_ hsub
      rw [if_neg hin, ← hp]
      refine ⟨_, _, M', GOk.add ok T (fun r a1 => upd_ne (a1 name)) (fun r a1 a2 a3 a4 => by rw [upd_ne a3, upd_ne (a4 name), upd_ne a2, upd_ne a1]) ?_ ⟨ep2, ?_⟩ ⟨ep4, ?_⟩ (fun k => ?_), by rw [upd_ne (by simp)]; exact T.adrE _ (by simp)⟩
      · rw [upd_ne (by simp), upd_ne (by simp), upd_ne (by simp), upd_self]; simp
      · rw [upd_ne (by simp), upd_ne (by simp), upd_self]; simp [hpm1]
      · have hg : getA (g.pn.map fun k => (k, V.ref (adr0 (.pnL k)))) name = none := by rw [keys_look g.pn (fun k => V.ref (adr0 (.pnL k))), if_neg hin]
        rw [upd_self, stA_new hg, List.map_append]
        refine congrArg (fun z => some (AObj.dict z ep4)) (congr (congrArg _ (List.map_congr_left fun k hk => ?_)) ?_)
        · rw [upd_ne (by intro q; cases q; exact hin hk), T.adrE _ (by simp)]
        · simp [upd]
      · by_cases e : k = name
        · subst e
          rw [upd_ne (by simp), upd_self, if_pos (by simp), List.filter_append]
          have : g.prods.filter (fun p => decide (p.name = k)) = [] := by
            rw [List.filter_eq_nil_iff]; intro q hq z; exact hin (of_decide_eq_true z ▸ hpn q hq)
          rw [this]
          simp [hpn1]
        · rw [upd_ne (by simp), upd_ne (by simpa using e), upd_ne (by simp), upd_ne (by simp), T.cE _ (by simp) (by simp) (by simp), ok.pnL, List.filter_append]
          have : ¬ p.name = k := fun q => e (by rw [← q, hpn1])
          simp [this, e]
end
end Mine
end
section
set_option autoImplicit false
namespace Mine
section
variable {W : Wd} {A : Around} {env : Env} {outer : Outs} {loc : Loc} {mem : Mem} {E : Ex W}
inductive P2F_J1 (sy : Addr) (gm : Mem) (name : Str) (syms : List Str) (adr : Rl → Addr) (k : Nat) (i : Nat) (l : Loc) (m : Mem) : Prop
  | mk (h1_ : k + i = syms.length) (h2_ : LSub [("self", .ref (adr .self)), ("prodname", .str name), ("syms", .ref sy), ("func", .none), ("file", .str ""), ("line", .int 0)] l) (h3_ : m = mset gm sy (.list (vStrs syms)))
theorem add_spec {g : GR} {a sy : Addr} {gm : Mem} {name : Str} {syms : List Str} {Q : V → Loc → Mem → Prop} (hK : W.K = hdK W.w.params) (c : Calm A 600 5000) (G : GMem aGrammar aProd g a gm) (hsy : gm sy = none)
    (hn : SymOk name) (hs : ∀ s ∈ syms, SymOk s) (hz : syms.length ≤ 100) (hne : name ≠ "error") (hnt : (g.te.lookup name) = none) (hpr : g.pr = []) (hmap : ∀ p ∈ g.prods, mapText p.name p.body ≠ mapText name syms)
    (hnum : g.prods.length ≤ 1000) (hf : Fits A env outer) (hpn : ∀ p ∈ g.prods, p.name ∈ g.pn) (hpz : g.pn.length ≤ 1000) (hlen : LenOk 900000 (g.te, g.no)) (h : ∀ m, GMem aGrammar aProd (addG g name syms (.tup [.str "right", .int 0]) .none (.str "") (.int 0)) a m → Q .none loc m) : OpV W A env outer (fun vs => call (.ref aAdd) vs) [.ref a, .str name, .ref sy] loc (mset gm sy (.list (vStrs syms))) Q E := by
  obtain ⟨adr, cc, M, ok, rfl⟩ := G
  refine call_fn (bs := [("self", .ref (adr .self)), ("prodname", .str name), ("syms", .ref sy), ("func", .none), ("file", .str ""), ("line", .int 0)]) (by rw [hK]; exact addP.at _) (by rw [hK]; first | rfl | kernel_rfl | decide +kernel) (c.room (by decide)) ?_ (by intro y hy; simp at hy; rcases hy with rfl | rfl | rfl | rfl | rfl | rfl <;> rfl) (by decide) rfl rfl rfl ?_
  · intro F s vs hb hk r
    cases r.view with
    | cons r1 r2 =>
      cases r2 with
      | cons r2 r3 =>
        cases r3 with
        | cons r3 r4 =>
          cases r4
          exact ⟨_, binds_K (T := 159) hk rfl (by rw [hK]; rfl) rfl rfl rfl, .cons r1 (.cons r2 (.cons r3 (.cons .none (.cons (.str _ _) (.cons (.int _ _) .nil)))))⟩
  · intro L outer
    have cd := c.deeper (envX "Grammar.add_production" addP.scope L aAdd addP.code [])
    obtain ⟨epd, hdict⟩ := ok.dict
    obtain ⟨ept, hted⟩ := ok.te
    have off : ∀ {z y} (xs : List V), gm z = some y → mset gm sy (.list xs) z = some y := fun {z y} xs e => by
      rw [mset_ne (nex e hsy)]; exact e
    have hx := off (vStrs syms) (M.get ok.self)
    have hd := off (vStrs syms) (M.get hdict)
    have ht := off (vStrs syms) (M.get hted)
    (refine nameS ?_; intro aa vv oo qq ee; refine s_cons ?_); refine s_if ?_; refine b_cmp rfl ?_; refine e_local rfl rfl rfl rfl ?_; refine e_attr rfl ?_; refine e_local rfl rfl rfl rfl ?_
    refine get_o hK (fun _ => by kernel_rfl) (.own hx hd) rfl rfl ?_
    skip
    refine in_dict ht ?_
    have hin : (getA (g.te.map fun q => (q.1, V.ref (adr (.teL q.1)))) name).isSome = false := by
      rw [getA_map g.te (fun k => V.ref (adr (.teL k))) name, if_neg]; rfl
      rw [← lookup_contains, hnt]; simp
    rw [hin]
    refine tr_bool ?_
    refine only_f ?_
    refine s_nil ?_; refine s_cons ?_; refine s_if ?_; refine b_cmp rfl ?_; refine e_local rfl rfl rfl rfl ?_; refine e_str ?_; refine eq_ss ?_; refine tr_bool ?_
    refine ⟨fun hb => (absurd (of_decide_eq_true hb) hne), fun _ => ?_⟩
    refine s_nil ?_; refine s_cons ?_; refine s_if ?_; refine b_not ?_; refine b_value rfl ?_; refine c_name rfl ?_; refine e_topG rfl rfl rfl rfl (by rw [hK]; rfl) ?_; refine c_top (by rw [hK]; rfl) rfl rfl ?_; refine a_cons rfl ?_; refine e_local rfl rfl rfl rfl ?_; refine a_nil ?_
    refine isId_spec hK (cd.mono (by decide) (by decide)) (Nat.le_trans hn.size (by omega)) ?_
    rw [hn.ident]
    refine tr_bool ?_
    refine only_f ?_
    refine s_nil ?_; refine s_cons ?_; refine s_for (fun _ => rfl) ?_; refine c_name rfl ?_; refine e_boot rfl rfl rfl rfl rfl (by rw [hK]; rfl) rfl (by decide) ?_; refine c_type rfl rfl ?_; refine a_cons rfl ?_; refine e_local rfl rfl rfl rfl ?_; refine a_nil ?_
    refine enum_own (mset_self _ _ _) (fun e he1 he2 => ?_)
    skip
    let J1 : Nat → Nat → Loc → Mem → Prop := P2F_J1 sy gm name syms adr
    refine for_k (itr_enum (b := true) cd.handled (.own (mset_self _ _ _)) he1 he2) J1 ?_ syms.length ⟨rfl, rfl, rfl⟩
    rintro k i l m ⟨hk, hl, rfl⟩
    have ei : enumItem (.ref sy) i (mset gm sy (.list (vStrs syms))) = some ((vStrs syms)[i]?.map fun y => .tup [.int i, y]) := by
      unfold enumItem seqNow
      simp only [mset_self, Option.bind_some]
      rw [if_pos (by rw [vStrs_len]; omega)]
    refine ⟨by rw [ei]; simp, fun hn1 => ?_, fun v hv => ?_⟩
    · rw [ei] at hn1
      refine Tr.locs hl ?_
      refine s_nil ?_; refine s_cons ?_; refine s_if ?_; refine b_cmp rfl ?_; refine e_str ?_; refine e_local rfl rfl rfl rfl ?_
      refine in_list (n := 0) (.own (mset_self _ _ _)) (by decide +kernel) (isD_strs (List.all_eq_true.mpr fun y hy => (hs y hy).ok)) (by decide) (cd.fit (by decide)) (fun b hb => ?_)
      have hbf : b = false := by
        cases b with
        | false => rfl
        | true => exact absurd rfl ((hs _ (vStrs_mem.mp (hb.mp rfl))).noPrec)
      subst hbf
      refine tr_bool ?_
      refine only_f ?_
      (refine nameQ ?_; intro qq ee; refine s_cons ?_); refine s_assign rfl ?_; refine c_name rfl ?_; refine e_topG rfl rfl rfl rfl (by rw [hK]; rfl) ?_; refine c_top (by rw [hK]; rfl) rfl rfl ?_; refine a_cons rfl ?_; refine e_local rfl rfl rfl rfl ?_; refine a_cons rfl ?_; refine e_attr rfl ?_; refine e_local rfl rfl rfl rfl ?_
      refine get_o hK (fun _ => by kernel_rfl) (.own hx hd) rfl rfl ?_
      refine a_nil ?_
      refine rmost_spec hK (cd.mono (by decide) (by decide)) (mset_self _ _ _) ht (by omega) ?_
      refine st_local rfl rfl ?_; refine s_cons ?_; refine s_assign rfl ?_; refine c_meth rfl ?_; refine e_attr rfl ?_; refine e_local rfl rfl rfl rfl ?_
      refine get_o hK (fun _ => by kernel_rfl) (.own hx hd) rfl rfl ?_
      skip
      obtain ⟨epp, hprd⟩ := ok.pr
      rw [hpr] at hprd
      have hp := off (vStrs syms) (M.get hprd)
      refine m_builtin (.dict hp) PySem.F.plainAttrs_dict PySem.F.slot_dict_get (by show builtinType _ = _; rw [builtinType_eq_fast]; kernel_rfl) rfl rfl ?_
      refine a_cons rfl ?_; refine e_local rfl rfl rfl rfl ?_; refine a_cons rfl ?_; refine e_tuple ?_; refine a_cons rfl ?_; refine e_str ?_; refine a_cons rfl ?_; refine e_int ?_; refine a_nil ?_
      refine new_tup (show 2 ≤ sizeLine by decide) ?_
      refine a_nil ?_
      have getP : ∀ {o : Option Str} {d : V} {Q : V → Loc → Mem → Prop} {A : Around} {env : Env} {outer : Outs} {loc : Loc} {E : Ex W}, Q d loc (mset gm sy (.list (vStrs syms))) → OpV W A env outer (fun vs => call (.builtin "dict.get") vs) [.ref (adr .pr), (match o with | some s => .str s | none => .none), d] loc (mset gm sy (.list (vStrs syms))) Q E := fun {o} => by
        intro d Q A env outer loc E h
        cases o with
        | none => exact dict_get2_none hp h
        | some s => exact dict_get2 hp h
      refine getP ?_
      refine st_local rfl rfl ?_; refine s_nil ?_; refine s_cons ?_; refine s_assign rfl ?_; refine e_joined ?_; refine e_fv_s ?_; refine e_local rfl rfl rfl rfl ?_
      refine show_str (Nat.le_trans hn.size (by decide)) ?_
      have l4 : (Str.ofString " -> ").length = 4 := by decide +kernel
      have hn' : name.length ≤ 100 := hn.size
      have hsl : (2000000 : Nat) ≤ sizeLine := by decide
      have hsh := strs_len (fun y hy => ⟨(hs y hy).size, (hs y hy).ok⟩) hz
      refine ⟨_, rfl, by rw [empty_app]; omega, ?_⟩
      refine e_str ?_
      refine ⟨_, rfl, by rw [empty_app, len_app, l4]; omega, ?_⟩
      refine e_fv_s ?_; refine e_local rfl rfl rfl rfl ?_
      have eaa : aa.units = (A.deeper (envX "Grammar.add_production" addP.scope L aAdd addP.code [])).units := rfl
      refine show_list (n := 0) cd.guards (.own (mset_self _ _ _)) (isD_strs (List.all_eq_true.mpr fun y hy => (hs y hy).ok)) (by rw [toPy_strs]; exact Nat.lt_of_le_of_lt (Nat.le_trans (Nat.add_le_add_right (Nat.add_le_add_left (strs_depth syms) _) 5) (by omega)) (cd.fit (by decide))) (by rw [toPy_strs]; omega) (by rw [toPy_strs]; exact strs_showable _) (by rw [toPy_strs]; exact strs_noDict _) ?_
      rw [toPy_strs]
      refine ⟨_, rfl, by rw [empty_app, len_app, len_app, l4]; omega, ?_⟩
      refine st_local rfl rfl ?_; refine s_cons ?_; refine s_if ?_; refine b_cmp rfl ?_; refine e_local rfl rfl rfl rfl ?_; refine e_attr rfl ?_; refine e_local rfl rfl rfl rfl ?_
      refine get_o hK (fun _ => by kernel_rfl) (.own hx hd) rfl rfl ?_
      skip
      obtain ⟨epm, hpmd⟩ := ok.pm
      have hpm := off (vStrs syms) (M.get hpmd)
      refine in_dict hpm ?_
      have hmn : (getA (g.prods.map fun p => (mapText p.name p.body, pV aProd p)) (mapText name syms)).isSome = false := by
        unfold getA
        rw [Option.isSome_map]
        rw [Bool.eq_false_iff]
        intro q
        obtain ⟨z, hz1, hz2⟩ := List.find?_isSome.mp q
        obtain ⟨p, hp, rfl⟩ := List.mem_map.mp hz1
        exact hmap p hp (of_decide_eq_true hz2)
      have emap : Str.empty ++ name ++ Str.ofString " -> " ++ (PyData.list (List.map PyData.str syms)).shown = mapText name syms := by rw [empty_app]; rfl
      rw [emap, hmn]
      refine tr_bool ?_
      refine only_f ?_
      refine s_nil ?_; refine s_cons ?_; refine s_assign rfl ?_; refine c_name rfl ?_; refine e_boot rfl rfl rfl rfl rfl (by rw [hK]; rfl) rfl (by decide) ?_; refine c_builtin rfl rfl ?_; refine a_cons rfl ?_; refine e_attr rfl ?_; refine e_local rfl rfl rfl rfl ?_
      refine get_o hK (fun _ => by kernel_rfl) (.own hx hd) rfl rfl ?_
      refine a_nil ?_
      have hpl := off (vStrs syms) (M.get ok.pl)
      refine len_sq (.own hpl) (by simp; omega) ?_
      refine st_local rfl rfl ?_
      refine s_cons ?_
      have G0 : GS adr cc sy (.list (vStrs syms)) (mset gm sy (.list (vStrs syms))) := ⟨gm, rfl, M, hsy⟩
      have T0 : TN adr cc adr cc g.te g.no := ⟨fun _ _ => rfl, fun _ _ _ _ => rfl, ok.te, ok.teL, ok.no, ok.noL⟩
      have hnum' : ((g.p0 :: g.prods.map (pV aProd)).length : Int) = (g.prods.length : Int) + 1 := by simp
      rw [hnum']
      refine add_know (name := name) (map := mapText name syms) (prec := .tup [.str "right", .int 0]) (func := .none) (file := .str "") (line := .int 0) (num := .int ((g.prods.length : Int) + 1)) hK ok G0 T0 (rfl) (by have := hlen.1; dsimp only at this; omega) (fun l m adr1 cc1 hl G1 T1 => ?_)
      refine s_cons ?_
      refine add_loop hK cd.handled ok G1 T1 hl ⟨?_, fun k ns e => ?_, fun k ns e => ?_⟩ (by omega) (fun l m adr2 cc2 hl G2 T2 => ?_)
      · have := @known_size g.no name; have h1 := hlen.1; dsimp only at h1 ⊢; omega
      · have := hlen.2.1 k ns e; omega
      · have := known_len hlen.2.2 k ns e; omega
      refine add_end hK (cd.mono (by decide) (by decide)) (hf.deeper rfl rfl) ok G2 T2 hl hn.size (by omega) (fun y hy => ⟨(hs y hy).size, (hs y hy).ok⟩) ⟨rfl, rfl, rfl, rfl⟩ rfl hmap hnum hpn hpz (fun l m gm' Gf hsub => ?_)
      exact ⟨gm', hsub, h gm' Gf⟩
    · rw [ei] at hv
      obtain ⟨y, rfl, hy1⟩ : ∃ y, v = .tup [.int i, .str y] ∧ syms[i]? = some y := by
        unfold vStrs at hv
        rw [List.getElem?_map] at hv
        cases e : syms[i]? with
        | none => rw [e] at hv; cases hv
        | some y => rw [e] at hv; cases hv; exact ⟨y, rfl, rfl⟩
      have hlt : i < syms.length := by rw [List.getElem?_eq_some_iff] at hy1; exact hy1.1
      have hok := hs y (List.mem_of_getElem? hy1)
      obtain ⟨ch, hch⟩ : ∃ ch, y.cps[0]? = some ch := ⟨y.cps[0]'hok.pos, Array.getElem?_eq_getElem hok.pos⟩
      refine Op.locs hl ?_
      refine   asg_tuple     (by       first       | assumption       | exact Calm.handled (by assumption))     rfl rfl ?_; refine asg_name ?_; refine st_local rfl rfl ?_; refine asg_name ?_; refine st_local rfl rfl ?_; (refine nameQ ?_; intro qq ee; refine s_cons ?_); refine s_if ?_; refine b_cmp rfl ?_; refine e_sub (fun _ _ => rfl) ?_; refine e_local rfl rfl rfl rfl ?_; refine e_int ?_
      refine sub_str (i := 0) (by decide) (c := ch) ?_ ?_
      · have hl : (0 : Nat) < y.length := hok.pos
        have : seqIndex? 0 y.length = some 0 := by unfold seqIndex?; simp [hl]
        rw [this]; exact hch
      refine e_str ?_; refine in_ss ?_; refine tr_bool ?_
      rw [hok.noQuote ch hch]
      skip
      refine only_f ?_
      refine s_nil ?_; refine s_cons ?_; refine s_if ?_; refine b_bool ?_; refine b_and_cons ?_; refine b_not ?_; refine b_value rfl ?_; refine c_name rfl ?_; refine e_topG rfl rfl rfl rfl (by rw [hK]; rfl) ?_; refine c_top (by rw [hK]; rfl) rfl rfl ?_; refine a_cons rfl ?_; refine e_local rfl rfl rfl rfl ?_; refine a_nil ?_
      refine isId_spec hK (cd.mono (by decide) (by decide)) (Nat.le_trans hok.size (by omega)) ?_
      rw [hok.ident]
      refine tr_bool ?_
      refine only_f ?_
      refine only_f ?_
      refine s_nil ?_; refine s_nil ?_
      exact ⟨k - 1, (kst hk hlt).1, (kst hk hlt).2, rfl, rfl⟩
end
end Mine
end
section
set_option autoImplicit false
namespace Mine
noncomputable abbrev Rule := Str × List Str
noncomputable def ruleV (r : Rule) : V := .tup [.str r.1, .tup (vStrs r.2)]
theorem vStrs_inj {a b : List Str} (h : vStrs a = vStrs b) : a = b := by
  unfold vStrs at h
  exact (List.map_inj_right (fun x y e => by cases e; rfl)).mp h
theorem ruleV_inj {a b : Rule} (h : ruleV a = ruleV b) : a = b := by
  obtain ⟨a1, a2⟩ := a
  obtain ⟨b1, b2⟩ := b
  unfold ruleV at h
  injection h with h
  injection h with h1 h2
  injection h1 with h1
  injection h2 with h2
  injection h2 with h2
  have h2 := vStrs_inj h2
  dsimp only at h1 h2
  rw [h1, h2]
theorem ruleV_mem {a : Rule} {T : List Rule} : ruleV a ∈ T.map ruleV ↔ a ∈ T := by
  rw [List.mem_map]
  exact ⟨fun ⟨b, hb, e⟩ => ruleV_inj e ▸ hb, fun h => ⟨a, h, rfl⟩⟩
noncomputable def addR (g : GR) (r : Rule) : GR := addG g r.1 r.2 (.tup [.str "right", .int 0]) .none (.str "") (.int 0)
noncomputable def madeG (ts : List Str) (up : V) (R : List Rule) : GR := R.foldl addR (g0 ts up)
structure MadeInv (ts : List Str) (R : List Rule) (g : GR) : Prop where
  prods : g.prods.map (fun p => (p.name, p.body)) = R
  te : g.te.map (·.1) = ts ++ [("error" : Str)]
  pn : ∀ n, n ∈ g.pn ↔ ∃ r ∈ R, r.1 = n
  nod : (g.no.map (·.1)).Nodup
  no : ∀ n, n ∈ g.no.map (·.1) ↔ ∃ r ∈ R, n = r.1 ∨ (n ∈ r.2 ∧ n ∉ ts ++ [("error" : Str)])
  pr : g.pr = []
  fi : g.fi = []
  fo : g.fo = []
  len : LenOk (30 * R.length) (g.te, g.no)
  pz : g.pn.length ≤ R.length
theorem known_keys (l : List (Str × List Int)) (k : Str) : (known l k).map (·.1) = if k ∈ l.map (·.1) then l.map (·.1) else l.map (·.1) ++ [k] := by
  unfold known
  rw [lookup_contains]
  by_cases h : k ∈ l.map (·.1)
  · rw [if_pos (by rw [List.contains_iff_mem]; exact h), if_pos h]
  · rw [if_neg (by rw [List.contains_iff_mem]; exact h), if_neg h, List.map_append]; rfl
theorem note_keys (num : Int) (tn : List (Str × List Int) × List (Str × List Int)) (s : Str) : (noteSym num tn s).1.map (·.1) = tn.1.map (·.1) ∧
    ((tn.2.map (·.1)).Nodup → ((noteSym num tn s).2.map (·.1)).Nodup) ∧ ∀ n, n ∈ (noteSym num tn s).2.map (·.1) ↔ n ∈ tn.2.map (·.1) ∨ (n = s ∧ n ∉ tn.1.map (·.1)) := by
  unfold noteSym
  rw [lookup_contains]
  by_cases h : s ∈ tn.1.map (·.1)
  · rw [if_pos (by rw [List.contains_iff_mem]; exact h)]
    refine ⟨pushL_keys _ _ _, id, fun n => ⟨.inl, fun q => q.elim id fun ⟨e, z⟩ => absurd (e ▸ h) z⟩⟩
  · rw [if_neg (by rw [List.contains_iff_mem]; exact h)]
    refine ⟨rfl, fun hn => ?_, fun n => ?_⟩
    · rw [pushL_keys, known_keys]
      split
      · exact hn
      · rename_i q
        rw [List.nodup_append]
        exact ⟨hn, by simp, fun a ha b hb e => by rw [List.mem_singleton] at hb; subst hb; exact q (e ▸ ha)⟩
    · rw [pushL_keys, known_keys]
      split
      · rename_i q
        exact ⟨.inl, fun z => z.elim id fun ⟨e, _⟩ => e ▸ q⟩
      · rw [List.mem_append, List.mem_singleton]
        exact ⟨fun z => z.elim .inl fun e => .inr ⟨e, e ▸ h⟩, fun z => z.elim .inl fun ⟨e, _⟩ => .inr e⟩
theorem notes_keys (num : Int) (syms : List Str) (tn : List (Str × List Int) × List (Str × List Int)) : (syms.foldl (noteSym num) tn).1.map (·.1) = tn.1.map (·.1) ∧
    ((tn.2.map (·.1)).Nodup → ((syms.foldl (noteSym num) tn).2.map (·.1)).Nodup) ∧ ∀ n, n ∈ (syms.foldl (noteSym num) tn).2.map (·.1) ↔ n ∈ tn.2.map (·.1) ∨ (n ∈ syms ∧ n ∉ tn.1.map (·.1)) := by
  induction syms generalizing tn with
  | nil => exact ⟨rfl, id, fun n => ⟨.inl, fun q => q.elim id fun ⟨e, _⟩ => nomatch e⟩⟩
  | cons s syms ih =>
    obtain ⟨a1, a2, a3⟩ := note_keys num tn s
    obtain ⟨b1, b2, b3⟩ := ih (noteSym num tn s)
    refine ⟨b1.trans a1, fun h => b2 (a2 h), fun n => ?_⟩
    rw [List.foldl_cons, b3, a3, a1, List.mem_cons]
    constructor
    · rintro ((h | ⟨h, z⟩) | ⟨h, z⟩)
      · exact .inl h
      · exact .inr ⟨.inl h, z⟩
      · exact .inr ⟨.inr h, z⟩
    · rintro (h | ⟨h | h, z⟩)
      · exact .inl (.inl h)
      · exact .inl (.inr ⟨h, z⟩)
      · exact .inr ⟨h, z⟩
theorem LenOk.mono {B B' : Nat} {tn : List (Str × List Int) × List (Str × List Int)} (h : LenOk B tn) (hB : B ≤ B') : LenOk B' tn :=
  ⟨Nat.le_trans h.1 hB, fun k ns e => Nat.le_trans (h.2.1 k ns e) hB, fun k ns e => Nat.le_trans (h.2.2 k ns e) hB⟩
theorem MadeInv.add {ts : List Str} {R : List Rule} {g : GR} (I : MadeInv ts R g) {r : Rule} (hr : r.1 ∉ ts ++ [("error" : Str)]) (hl : r.2.length ≤ 20) : MadeInv ts (R ++ [r]) (addR g r) := by
  obtain ⟨a1, a2, a3⟩ := notes_keys ((g.prods.length : Int) + 1) r.2 (g.te, known g.no r.1)
  have e : addR g r = { g with prods := g.prods ++ [{ name := r.1, body := r.2, num := (g.prods.length : Int) + 1, prec := .tup [.str "right", .int 0], func := .none, file := .str "", line := .int 0 }], pn := if r.1 ∈ g.pn then g.pn else g.pn ++ [r.1], te := (r.2.foldl (noteSym ((g.prods.length : Int) + 1)) (g.te, known g.no r.1)).1, no := (r.2.foldl (noteSym ((g.prods.length : Int) + 1)) (g.te, known g.no r.1)).2 } := rfl
  rw [e]
  constructor
  · show List.map _ (g.prods ++ _) = _
    rw [List.map_append, I.prods]; rfl
  · exact a1.trans I.te
  · intro n
    show n ∈ (if r.1 ∈ g.pn then g.pn else g.pn ++ [r.1]) ↔ _
    constructor
    · intro h
      have : n ∈ g.pn ∨ n = r.1 := by
        split at h
        · exact .inl h
        · rcases List.mem_append.mp h with h | h
          · exact .inl h
          · exact .inr (List.mem_singleton.mp h)
      rcases this with h | h
      · obtain ⟨q, hq, e⟩ := (I.pn n).mp h; exact ⟨q, List.mem_append_left _ hq, e⟩
      · exact ⟨r, List.mem_append_right _ (.head _), h.symm⟩
    · rintro ⟨q, hq, ee⟩
      rcases List.mem_append.mp hq with hq | hq
      · have := (I.pn n).mpr ⟨q, hq, ee⟩
        split
        · exact this
        · exact List.mem_append_left _ this
      · rw [List.mem_singleton] at hq; subst hq
        rw [← ee]
        split
        · assumption
        · exact List.mem_append_right _ (.head _)
  · refine a2 ?_
    show ((known g.no r.1).map (·.1)).Nodup
    rw [known_keys]
    split
    · exact I.nod
    · rename_i q
      rw [List.nodup_append]
      exact ⟨I.nod, by simp, fun a ha b hb e => by rw [List.mem_singleton] at hb; subst hb; exact q (e ▸ ha)⟩
  · intro n
    refine (a3 n).trans ?_
    show n ∈ (known g.no r.1).map (·.1) ∨ (n ∈ r.2 ∧ n ∉ g.te.map (·.1)) ↔ _
    rw [known_keys, I.te]
    have hk : n ∈ (if r.1 ∈ g.no.map (·.1) then g.no.map (·.1) else g.no.map (·.1) ++ [r.1]) ↔ n ∈ g.no.map (·.1) ∨ n = r.1 := by
      split
      · rename_i q; exact ⟨.inl, fun z => z.elim id fun e => e ▸ q⟩
      · rw [List.mem_append, List.mem_singleton]
    rw [hk, I.no]
    constructor
    · rintro ((⟨q, hq, z⟩ | h) | h)
      · exact ⟨q, List.mem_append_left _ hq, z⟩
      · exact ⟨r, List.mem_append_right _ (.head _), .inl h⟩
      · exact ⟨r, List.mem_append_right _ (.head _), .inr h⟩
    · rintro ⟨q, hq, z⟩
      rcases List.mem_append.mp hq with hq | hq
      · exact .inl (.inl ⟨q, hq, z⟩)
      · rw [List.mem_singleton] at hq; subst hq
        rcases z with z | z
        · exact .inl (.inr z)
        · exact .inr z
  · exact I.pr
  · exact I.fi
  · exact I.fo
  · have h1 : LenOk (30 * R.length + 1) (g.te, known g.no r.1) := by
      obtain ⟨b1, b2, b3⟩ := I.len
      refine ⟨?_, fun k ns e => by have := b2 k ns e; omega, fun k ns e => by have := known_len b3 k ns e; omega⟩
      have := @known_size g.no r.1
      dsimp only at b1 ⊢; omega
    have := notes_len h1 ((g.prods.length : Int) + 1) r.2
    refine this.mono ?_
    rw [List.length_append, List.length_singleton]; omega
  · show List.length (if r.1 ∈ g.pn then g.pn else g.pn ++ [r.1]) ≤ _
    rw [List.length_append, List.length_singleton]
    have := I.pz
    split
    · omega
    · rw [List.length_append, List.length_singleton]; omega
theorem MadeInv.zero (ts : List Str) (up : V) : MadeInv ts [] (g0 ts up) where
  prods := rfl
  te := by unfold g0; simp [List.map_append, List.map_map, Function.comp_def]
  pn := fun n => ⟨fun h => (nomatch h), fun ⟨r, h, _⟩ => (nomatch h)⟩
  nod := List.nodup_nil
  no := fun n => ⟨fun h => (nomatch h), fun ⟨r, h, _⟩ => (nomatch h)⟩
  pr := rfl
  fi := rfl
  fo := rfl
  len := ⟨Nat.le_refl _, fun k ns e => by
    have : ∀ q ∈ (g0 ts up).te, q.2 = [] := fun q hq => by
      rcases List.mem_append.mp hq with hq | hq
      · obtain ⟨t, _, rfl⟩ := List.mem_map.mp hq; rfl
      · rw [List.mem_singleton] at hq; rw [hq]
    have e2 : ∀ (l : List (Str × List Int)), l.lookup k = some ns → (k, ns) ∈ l := fun l => by
      induction l with
      | nil => intro z; cases z
      | cons a l ih =>
        obtain ⟨x, y⟩ := a
        intro z
        rw [List.lookup_cons] at z
        split at z
        · rename_i w; cases z; rw [beq_iff_eq] at w; rw [w]; exact .head _
        · exact .tail _ (ih z)
    have := this _ (e2 _ e)
    dsimp only at this; rw [this]; exact Nat.le_refl _, fun k ns e => nomatch e⟩
  pz := Nat.le_refl _
theorem MadeInv.all {ts : List Str} {up : V} (R : List Rule) (h : ∀ r ∈ R, r.1 ∉ ts ++ [("error" : Str)] ∧ r.2.length ≤ 20) : MadeInv ts R (madeG ts up R) := by
  suffices H : ∀ (R' R : List Rule) (g : GR), MadeInv ts R g → (∀ r ∈ R', r.1 ∉ ts ++ [("error" : Str)] ∧ r.2.length ≤ 20) → MadeInv ts (R ++ R') (R'.foldl addR g) from H R [] _ (MadeInv.zero ts up) h
  intro R'
  induction R' with
  | nil => intro R g I _; rw [List.append_nil]; exact I
  | cons r R' ih =>
    intro R g I h
    have := ih (R ++ [r]) (addR g r) (I.add (h r (.head _)).1 (h r (.head _)).2) fun q hq => h q (.tail _ hq)
    rw [List.append_assoc] at this; exact this
noncomputable def Emp (l : List (Str × List Int)) (P : Str → Prop) : Prop := ∀ q ∈ l, (q.2 = [] ↔ P q.1)
theorem Emp.push {l : List (Str × List Int)} {P : Str → Prop} (h : Emp l P) (s : Str) (n : Int) : Emp (pushL l s n) (fun k => P k ∧ k ≠ s) := by
  intro q hq
  obtain ⟨q', hq', rfl⟩ := List.mem_map.mp hq
  by_cases e : q'.1 = s
  · simp [e]
  · simp only [if_neg e]
    exact ⟨fun z => ⟨(h _ hq').mp z, e⟩, fun z => (h _ hq').mpr z.1⟩
theorem Emp.known {l : List (Str × List Int)} {P : Str → Prop} (h : Emp l P) (s : Str) (hs : s ∉ l.map (·.1) → P s) : Emp (known l s) P := by
  unfold Mine.known
  split
  · exact h
  · rename_i q
    intro z hz
    rcases List.mem_append.mp hz with hz | hz
    · exact h z hz
    · rw [List.mem_singleton] at hz; subst hz
      refine ⟨fun _ => hs fun w => q ?_, fun _ => rfl⟩
      rw [lookup_contains, List.contains_iff_mem]; exact w
theorem Emp.iff {l : List (Str × List Int)} {P P' : Str → Prop} (h : Emp l P) (hp : ∀ q ∈ l, (P q.1 ↔ P' q.1)) : Emp l P' := fun q hq => (h q hq).trans (hp q hq)
structure UI (tn : List (Str × List Int) × List (Str × List Int)) (P : Str → Prop) : Prop where
  te : Emp tn.1 P
  no : Emp tn.2 P
  dis : ∀ k, k ∈ tn.2.map (·.1) → k ∉ tn.1.map (·.1)
  new : ∀ k, k ∉ tn.1.map (·.1) → k ∉ tn.2.map (·.1) → P k
theorem UI.iff {tn : List (Str × List Int) × List (Str × List Int)} {P P' : Str → Prop} (h : UI tn P) (hp : ∀ k, P k ↔ P' k) : UI tn P' :=
  ⟨h.te.iff fun q _ => hp q.1, h.no.iff fun q _ => hp q.1, h.dis, fun k a b => (hp k).mp (h.new k a b)⟩
theorem UI.known {te no : List (Str × List Int)} {P : Str → Prop} (h : UI (te, no) P) (r : Str) (hr : r ∉ te.map (·.1)) : UI (te, known no r) P where
  te := h.te
  no := h.no.known r fun z => h.new r hr z
  dis k hk := by
    show k ∉ te.map (·.1)
    have hk : k ∈ (Mine.known no r).map (·.1) := hk
    rw [known_keys] at hk
    split at hk
    · exact h.dis k hk
    · rcases List.mem_append.mp hk with hk | hk
      · exact h.dis k hk
      · rw [List.mem_singleton] at hk; rw [hk]; exact hr
  new k h1 h2 := by
    refine h.new k h1 fun z => h2 ?_
    show k ∈ (Mine.known no r).map (·.1)
    rw [known_keys]
    split
    · exact z
    · exact List.mem_append_left _ z
theorem UI.note {tn : List (Str × List Int) × List (Str × List Int)} {P : Str → Prop} (h : UI tn P) (num : Int) (s : Str) : UI (noteSym num tn s) (fun k => P k ∧ k ≠ s) := by
  obtain ⟨te, no⟩ := tn
  unfold noteSym
  rw [lookup_contains]
  by_cases q : s ∈ te.map (·.1)
  · rw [if_pos (by rw [List.contains_iff_mem]; exact q)]
    refine ⟨h.te.push s num, h.no.iff fun z hz => ⟨fun w => ⟨w, fun e => h.dis z.1 (List.mem_map.mpr ⟨z, hz, rfl⟩) (e ▸ q)⟩, fun w => w.1⟩, fun k hk => ?_, fun k h1 h2 => ?_⟩
    · show k ∉ (pushL te s num).map (·.1)
      rw [pushL_keys]; exact h.dis k hk
    · have h1 : k ∉ (pushL te s num).map (·.1) := h1
      rw [pushL_keys] at h1
      exact ⟨h.new k h1 h2, fun e => h1 (e ▸ q)⟩
  · rw [if_neg (by rw [List.contains_iff_mem]; exact q)]
    have hk := h.known s q
    refine ⟨h.te.iff fun z hz => ⟨fun w => ⟨w, fun e => q (e ▸ List.mem_map.mpr ⟨z, hz, rfl⟩)⟩, fun w => w.1⟩, hk.no.push s num, fun k hk' => ?_, fun k h1 h2 => ?_⟩
    · have hk' : k ∈ (pushL (Mine.known no s) s num).map (·.1) := hk'
      rw [pushL_keys] at hk'; exact hk.dis k hk'
    · have h2 : k ∉ (pushL (Mine.known no s) s num).map (·.1) := h2
      rw [pushL_keys] at h2
      refine ⟨hk.new k h1 h2, fun e => h2 ?_⟩
      rw [e, known_keys]
      split
      · assumption
      · exact List.mem_append_right _ (.head _)
theorem UI.notes {tn : List (Str × List Int) × List (Str × List Int)} {P : Str → Prop} (h : UI tn P) (num : Int) (syms : List Str) : UI (syms.foldl (noteSym num) tn) (fun k => P k ∧ k ∉ syms) := by
  induction syms generalizing tn P with
  | nil => exact h.iff fun k => ⟨fun z => ⟨z, fun w => nomatch w⟩, fun z => z.1⟩
  | cons s syms ih =>
    refine (ih (h.note num s)).iff fun k => ?_
    rw [List.mem_cons, not_or]
    exact ⟨fun z => ⟨z.1.1, z.1.2, z.2⟩, fun z => ⟨⟨z.1, z.2.1⟩, z.2.2⟩⟩
theorem UI.add {R : List Rule} {g : GR} (h : UI (g.te, g.no) fun k => ∀ r ∈ R, k ∉ r.2) {r : Rule} (hr : r.1 ∉ g.te.map (·.1)) : UI ((addR g r).te, (addR g r).no) fun k => ∀ q ∈ R ++ [r], k ∉ q.2 := by
  have e : ((addR g r).te, (addR g r).no) = r.2.foldl (noteSym ((g.prods.length : Int) + 1)) (g.te, Mine.known g.no r.1) := rfl
  rw [e]
  refine ((h.known r.1 hr).notes _ r.2).iff fun k => ⟨fun z q hq => ?_, fun z => ⟨fun q hq => z q (List.mem_append_left _ hq), z r (List.mem_append_right _ (.head _))⟩⟩
  rcases List.mem_append.mp hq with hq | hq
  · exact z.1 q hq
  · rw [List.mem_singleton] at hq; rw [hq]; exact z.2
theorem UI.all {ts : List Str} {up : V} (R : List Rule) (h : ∀ r ∈ R, r.1 ∉ ts ++ [("error" : Str)] ∧ r.2.length ≤ 20) : UI ((madeG ts up R).te, (madeG ts up R).no) fun k => ∀ q ∈ R, k ∉ q.2 := by
  suffices H : ∀ (R' R : List Rule) (g : GR), MadeInv ts R g → UI (g.te, g.no) (fun k => ∀ r ∈ R, k ∉ r.2) → (∀ r ∈ R', r.1 ∉ ts ++ [("error" : Str)] ∧ r.2.length ≤ 20) → UI ((R'.foldl addR g).te, (R'.foldl addR g).no) fun k => ∀ q ∈ R ++ R', k ∉ q.2 from
    (H R [] _ (MadeInv.zero ts up) ⟨fun q hq => ⟨fun _ r hr => (nomatch hr), fun _ => by
      rcases List.mem_append.mp hq with hq | hq
      · obtain ⟨t, _, rfl⟩ := List.mem_map.mp hq; rfl
      · rw [List.mem_singleton] at hq; rw [hq]⟩, fun q hq => (nomatch hq), fun k hk => (nomatch hk), fun k _ _ r hr => (nomatch hr)⟩ h)
  intro R'
  induction R' with
  | nil => intro R g I U _; rw [List.append_nil]; exact U
  | cons r R' ih =>
    intro R g I U h
    have := ih (R ++ [r]) (addR g r) (I.add (h r (.head _)).1 (h r (.head _)).2) (U.add (by rw [I.te]; exact (h r (.head _)).1)) fun q hq => h q (.tail _ hq)
    rw [List.append_assoc] at this; exact this
end Mine
end
section
set_option autoImplicit false
namespace Mine
section
variable {W : Wd} {A : Around} {env : Env} {outer : Outs} {loc : Loc} {mem R : Mem} {E : Ex W} {F : Frz} {s : Shared}
noncomputable abbrev LstQ (I : Nat → Loc → Mem → Prop) (i : Nat) (Q : Fl → Loc → Mem → Prop) : Fl → Loc → Mem → Prop
  | .next, l, m => I i l m
  | .cont, l, m => I i l m
  | .brk, l, m => Q .next l m
  | .ret v, l, m => Q (.ret v) l m
theorem Op.mono {α β : Type} {RV : Frz → β → α → Prop} {f : List Value → Sem α} {xs : List V} {Q Q' : β → Loc → Mem → Prop} (h : Op W A env outer RV f xs loc mem Q E) (hq : ∀ x l m, Q x l m → Q' x l m) : Op W A env outer RV f xs loc mem Q' E :=
  fun R F s vs S r => wpAny_mono (h R F s vs S r) (fun _ _ ⟨F', x, l, m, a, b, c, d⟩ => ⟨F', x, l, m, a, b, c, hq x l m d⟩) fun _ _ e => e
theorem for_map {α : Type} {ys : List α} (f : Nat → α → V) {mem₀ : Mem} {target : PySem.Expr} {body orelse : List Stmt} {x : V} {Q : Fl → Loc → Mem → Prop} {item : Nat → Mem → Option (Option V)} (hx : Itr W A target x mem mem₀ item) (I : Nat → Loc → Mem → Prop)
    (hi : ∀ i l m, i ≤ ys.length → I i l m → item i m = some (ys[i]?.map (f i)))
    (fin : ∀ l m, I ys.length l m → TrS W A env outer (execs orelse env) l m Q (LoopE W A env E))
    (turn : ∀ i y l m, ys[i]? = some y → I i l m → Op W A env outer (fun _ (_ _ : Unit) => True) (fun | [y] => assign target env y | _ => pure ()) [f i y] l m (fun _ l m => TrS W A env outer (execs body env) l m (LstQ I (i + 1) Q) (LoopE W A env E)) (LoopE W A env E))
    (h : I 0 loc mem₀) : ForK W A env outer target body orelse x loc mem Q E := by
  refine for_k hx (fun k i l m => k + i = ys.length ∧ I i l m) ?_ ys.length ⟨rfl, h⟩
  rintro k i l m ⟨hk, hI⟩
  have e := hi i l m (by omega) hI
  cases q : ys[i]? with
  | none =>
    rw [q] at e
    refine ⟨fun n => (by rw [e] at n; cases n), fun _ => ?_, fun v hv => (by rw [e] at hv; cases hv)⟩
    rw [List.getElem?_eq_none_iff] at q
    obtain rfl : i = ys.length := by omega
    exact fin l m hI
  | some y =>
    rw [q] at e
    refine ⟨fun n => (by rw [e] at n; cases n), fun n => (by rw [e] at n; cases n), fun v hv => ?_⟩
    have hv : v = f i y := by rw [e] at hv; cases hv; rfl
    subst hv
    have hlt : i < ys.length := (List.getElem?_eq_some_iff.mp q).1
    refine (turn i y l m q hI).mono fun _ l m h => h.mono fun fl l m z => ?_
    cases fl with
    | next => exact ⟨k - 1, by omega, by omega, z⟩
    | cont => exact ⟨k - 1, by omega, by omega, z⟩
    | brk => exact z
    | ret => exact z
theorem ownItem_map {α : Type} {f : α → V} {ys : List α} {a : Addr} {i : Nat} {m : Mem} (h : m a = some (.list (ys.map f))) : ownItem a i m = some (ys[i]?.map f) := (ownItem_eq h).trans (by rw [List.getElem?_map])
end
end Mine
end
section
set_option autoImplicit false
namespace Mine
noncomputable def lNames.body : List Stmt := stBody (stAt pw.main.body 11)
noncomputable def lNames.scope : Scope := stScope (stAt pw.main.body 11)
noncomputable def lNames.params : Arguments := stArgs (stAt pw.main.body 11)
noncomputable def lNames.code : Value := (Value.ref 256)
theorem lNames.at (P : Params) : List.lookup 257 (lawHeap P) = some (Obj.mk (Value.type "function") none (Data.func (fnOf (Str.ofString "_law_NAMES") (Str.ofString "_law_NAMES") lNames.params lNames.body lNames.scope (Value.none) (Value.none) (Value.none) (Value.str (Str.ofString "law_te0001_04") 536) (none) lNames.code (Value.none))) #[]) := by kernel_rfl
noncomputable def lNext.body : List Stmt := stBody (stAt pw.main.body 13)
noncomputable def lNext.scope : Scope := stScope (stAt pw.main.body 13)
noncomputable def lNext.params : Arguments := stArgs (stAt pw.main.body 13)
noncomputable def lNext.code : Value := (Value.ref 264)
theorem lNext.at (P : Params) : List.lookup 265 (lawHeap P) = some (Obj.mk (Value.type "function") none (Data.func (fnOf (Str.ofString "_law_next") (Str.ofString "_law_next") lNext.params lNext.body lNext.scope (Value.none) (Value.none) (Value.none) (Value.str (Str.ofString "law_te0001_04") 536) (none) lNext.code (Value.none))) #[]) := by kernel_rfl
noncomputable def lRules.body : List Stmt := stBody (stAt pw.main.body 14)
noncomputable def lRules.scope : Scope := stScope (stAt pw.main.body 14)
noncomputable def lRules.params : Arguments := stArgs (stAt pw.main.body 14)
noncomputable def lRules.code : Value := (Value.ref 269)
theorem lRules.at (P : Params) : List.lookup 270 (lawHeap P) = some (Obj.mk (Value.type "function") none (Data.func (fnOf (Str.ofString "_law_rules") (Str.ofString "_law_rules") lRules.params lRules.body lRules.scope (Value.none) (Value.none) (Value.none) (Value.str (Str.ofString "law_te0001_04") 536) (none) lRules.code (Value.none))) #[]) := by kernel_rfl
noncomputable def lTaken.body : List Stmt := stBody (stAt pw.main.body 15)
noncomputable def lTaken.scope : Scope := stScope (stAt pw.main.body 15)
noncomputable def lTaken.params : Arguments := stArgs (stAt pw.main.body 15)
noncomputable def lTaken.code : Value := (Value.ref 274)
theorem lTaken.at (P : Params) : List.lookup 275 (lawHeap P) = some (Obj.mk (Value.type "function") none (Data.func (fnOf (Str.ofString "_law_taken") (Str.ofString "_law_taken") lTaken.params lTaken.body lTaken.scope (Value.none) (Value.none) (Value.none) (Value.str (Str.ofString "law_te0001_04") 536) (none) lTaken.code (Value.none))) #[]) := by kernel_rfl
noncomputable def lGram.body : List Stmt := stBody (stAt pw.main.body 16)
noncomputable def lGram.scope : Scope := stScope (stAt pw.main.body 16)
noncomputable def lGram.params : Arguments := stArgs (stAt pw.main.body 16)
noncomputable def lGram.code : Value := (Value.ref 281)
theorem lGram.at (P : Params) : List.lookup 282 (lawHeap P) = some (Obj.mk (Value.type "function") none (Data.func (fnOf (Str.ofString "_law_grammar") (Str.ofString "_law_grammar") lGram.params lGram.body lGram.scope (Value.none) (Value.none) (Value.none) (Value.str (Str.ofString "law_te0001_04") 536) (none) lGram.code (Value.none))) #[]) := by kernel_rfl
noncomputable def lEnded.body : List Stmt := stBody (stAt pw.main.body 17)
noncomputable def lEnded.scope : Scope := stScope (stAt pw.main.body 17)
noncomputable def lEnded.params : Arguments := stArgs (stAt pw.main.body 17)
noncomputable def lEnded.code : Value := (Value.ref 286)
theorem lEnded.at (P : Params) : List.lookup 287 (lawHeap P) = some (Obj.mk (Value.type "function") none (Data.func (fnOf (Str.ofString "_law_ended") (Str.ofString "_law_ended") lEnded.params lEnded.body lEnded.scope (Value.none) (Value.none) (Value.none) (Value.str (Str.ofString "law_te0001_04") 536) (none) lEnded.code (Value.none))) #[]) := by kernel_rfl
noncomputable def lJoined.body : List Stmt := stBody (stAt pw.main.body 18)
noncomputable def lJoined.scope : Scope := stScope (stAt pw.main.body 18)
noncomputable def lJoined.params : Arguments := stArgs (stAt pw.main.body 18)
noncomputable def lJoined.code : Value := (Value.ref 291)
theorem lJoined.at (P : Params) : List.lookup 292 (lawHeap P) = some (Obj.mk (Value.type "function") none (Data.func (fnOf (Str.ofString "_law_joined") (Str.ofString "_law_joined") lJoined.params lJoined.body lJoined.scope (Value.none) (Value.none) (Value.none) (Value.str (Str.ofString "law_te0001_04") 536) (none) lJoined.code (Value.none))) #[]) := by kernel_rfl
noncomputable def lLaw.body : List Stmt := stBody (stAt pw.main.body 19)
noncomputable def lLaw.scope : Scope := stScope (stAt pw.main.body 19)
noncomputable def lLaw.params : Arguments := stArgs (stAt pw.main.body 19)
noncomputable def lLaw.code : Value := (Value.ref 296)
theorem lLaw.at (P : Params) : List.lookup 297 (lawHeap P) = some (Obj.mk (Value.type "function") none (Data.func (fnOf (Str.ofString "law") (Str.ofString "law") lLaw.params lLaw.body lLaw.scope (Value.none) (Value.none) (Value.none) (Value.str (Str.ofString "law_te0001_04") 536) (none) lLaw.code (Value.none))) #[]) := by kernel_rfl
noncomputable def gUnreach.body : List Stmt := stBody (stAt (stBody (stAt pw.main.body 9)) 6)
noncomputable def gUnreach.scope : Scope := stScope (stAt (stBody (stAt pw.main.body 9)) 6)
noncomputable def gUnreach.params : Arguments := stArgs (stAt (stBody (stAt pw.main.body 9)) 6)
noncomputable def gUnreach.code : Value := (Value.ref 178)
theorem gUnreach.at (P : Params) : List.lookup 179 (lawHeap P) = some (Obj.mk (Value.type "function") none (Data.func (fnOf (Str.ofString "find_unreachable") (Str.ofString "Grammar.find_unreachable") gUnreach.params gUnreach.body gUnreach.scope (Value.none) (Value.none) (Value.none) (Value.str (Str.ofString "ply.yacc") 194) (none) gUnreach.code (Value.none))) #[]) := by kernel_rfl
noncomputable def gInf.body : List Stmt := stBody (stAt (stBody (stAt pw.main.body 9)) 7)
noncomputable def gInf.scope : Scope := stScope (stAt (stBody (stAt pw.main.body 9)) 7)
noncomputable def gInf.params : Arguments := stArgs (stAt (stBody (stAt pw.main.body 9)) 7)
noncomputable def gInf.code : Value := (Value.ref 185)
theorem gInf.at (P : Params) : List.lookup 186 (lawHeap P) = some (Obj.mk (Value.type "function") none (Data.func (fnOf (Str.ofString "infinite_cycles") (Str.ofString "Grammar.infinite_cycles") gInf.params gInf.body gInf.scope (Value.none) (Value.none) (Value.none) (Value.str (Str.ofString "ply.yacc") 194) (none) gInf.code (Value.none))) #[]) := by kernel_rfl
noncomputable def gUndef.body : List Stmt := stBody (stAt (stBody (stAt pw.main.body 9)) 8)
noncomputable def gUndef.scope : Scope := stScope (stAt (stBody (stAt pw.main.body 9)) 8)
noncomputable def gUndef.params : Arguments := stArgs (stAt (stBody (stAt pw.main.body 9)) 8)
noncomputable def gUndef.code : Value := (Value.ref 192)
theorem gUndef.at (P : Params) : List.lookup 193 (lawHeap P) = some (Obj.mk (Value.type "function") none (Data.func (fnOf (Str.ofString "undefined_symbols") (Str.ofString "Grammar.undefined_symbols") gUndef.params gUndef.body gUndef.scope (Value.none) (Value.none) (Value.none) (Value.str (Str.ofString "ply.yacc") 194) (none) gUndef.code (Value.none))) #[]) := by kernel_rfl
noncomputable def gIdle.body : List Stmt := stBody (stAt (stBody (stAt pw.main.body 9)) 9)
noncomputable def gIdle.scope : Scope := stScope (stAt (stBody (stAt pw.main.body 9)) 9)
noncomputable def gIdle.params : Arguments := stArgs (stAt (stBody (stAt pw.main.body 9)) 9)
noncomputable def gIdle.code : Value := (Value.ref 199)
theorem gIdle.at (P : Params) : List.lookup 200 (lawHeap P) = some (Obj.mk (Value.type "function") none (Data.func (fnOf (Str.ofString "unused_terminals") (Str.ofString "Grammar.unused_terminals") gIdle.params gIdle.body gIdle.scope (Value.none) (Value.none) (Value.none) (Value.str (Str.ofString "ply.yacc") 194) (none) gIdle.code (Value.none))) #[]) := by kernel_rfl
noncomputable def gAlone.body : List Stmt := stBody (stAt (stBody (stAt pw.main.body 9)) 10)
noncomputable def gAlone.scope : Scope := stScope (stAt (stBody (stAt pw.main.body 9)) 10)
noncomputable def gAlone.params : Arguments := stArgs (stAt (stBody (stAt pw.main.body 9)) 10)
noncomputable def gAlone.code : Value := (Value.ref 206)
theorem gAlone.at (P : Params) : List.lookup 207 (lawHeap P) = some (Obj.mk (Value.type "function") none (Data.func (fnOf (Str.ofString "unused_rules") (Str.ofString "Grammar.unused_rules") gAlone.params gAlone.body gAlone.scope (Value.none) (Value.none) (Value.none) (Value.str (Str.ofString "ply.yacc") 194) (none) gAlone.code (Value.none))) #[]) := by kernel_rfl
noncomputable def NM : List Str := ["S", "A", "B", "C"]
section
variable {W : Wd} {A : Around} {env : Env} {outer : Outs} {loc : Loc} {mem : Mem} {E : Ex W}
theorem names_spec {Q : V → Loc → Mem → Prop} (hK : W.K = hdK W.w.params) (c : Calm A 900 8000) (h : Q (.lst (vStrs NM)) loc mem) : OpV W A env outer (fun vs => call (.ref 257) vs) [] loc mem Q E := by
  refine call_fn (bs := []) (by rw [hK]; exact lNames.at _) (by rw [hK]; first | rfl | kernel_rfl | decide +kernel) (c.room (by decide)) ?_ (by intro y hy; cases hy) (by decide) rfl rfl rfl ?_
  · intro F s vs hb hk r
    cases r.view
    exact ⟨_, BindsTo.of_eq rfl, .nil⟩
  · intro L outer
    have cd := c.deeper (envX "_law_NAMES" lNames.scope L 257 lNames.code [])
    (refine nameS ?_; intro aa vv oo qq ee; refine s_cons ?_); refine s_ret ?_; refine e_list ?_; refine a_cons rfl ?_; refine e_str ?_; refine a_cons rfl ?_; refine e_str ?_; refine a_cons rfl ?_; refine e_str ?_; refine a_cons rfl ?_; refine e_str ?_; refine a_nil ?_
    refine new_lst (show 4 ≤ sizeLine by decide) ?_
    skip
    exact ⟨_, sub_refl _, h⟩
noncomputable def tNext : List Int → Int × List Int
  | [] => (0, [])
  | t :: ts => (t, ts)
theorem next_spec {ta : Addr} {ts : List Int} {Q : V → Loc → Mem → Prop} (hK : W.K = hdK W.w.params) (c : Calm A 900 8000) (hta : mem ta = some (.list (ts.map .int))) (hz : ts.length ≤ 1000)
    (h : Q (.int (tNext ts).1) loc (mset mem ta (.list ((tNext ts).2.map .int)))) : OpV W A env outer (fun vs => call (.ref 265) vs) [.ref ta] loc mem Q E := by
  refine call_fn (bs := [("tape", .ref ta)]) (by rw [hK]; exact lNext.at _) (by rw [hK]; first | rfl | kernel_rfl | decide +kernel) (c.room (by decide)) ?_ (by intro y hy; simp at hy; rcases hy with rfl | rfl <;> rfl) (by decide) rfl rfl rfl ?_
  · intro F s vs hb hk r
    cases r.view with
    | cons r1 r2 =>
      cases r2.view
      exact ⟨_, BindsTo.of_eq rfl, .cons r1 .nil⟩
  · intro L outer
    have cd := c.deeper (envX "_law_next" lNext.scope L 265 lNext.code [])
    (refine nameS ?_; intro aa vv oo qq ee; refine s_cons ?_); refine s_ret ?_; refine e_ifexp ?_; refine b_value rfl ?_; refine e_local rfl rfl rfl rfl ?_
    refine tr_list (.own hta) (by simp; omega) ?_
    cases ts with
    | nil =>
      skip
      refine only_f ?_
      refine e_int ?_
      exact ⟨_, sub_refl _, by have := h; rwa [show mset mem ta (.list ((tNext []).2.map .int)) = mem from mset_eq hta] at this⟩
    | cons t ts =>
      skip
      refine only_t ?_
      refine c_meth rfl ?_; refine e_local rfl rfl rfl rfl ?_
      refine m_builtin (.list hta) PySem.F.plainAttrs_list PySem.F.slot_list_pop (by show builtinType _ = _; rw [builtinType_eq_fast]; kernel_rfl) rfl rfl ?_
      refine a_cons rfl ?_; refine e_int ?_; refine a_nil ?_
      refine pop0_own (xs := ts.map .int) hta (Nat.le_trans (show _ ≤ 1000 from (by simp at hz ⊢; omega)) (by decide)) ?_
      skip
      exact ⟨_, sub_refl _, h⟩
end
end Mine
end
section
set_option autoImplicit false
namespace Mine
section
variable {W : Wd} {A : Around} {env : Env} {outer : Outs} {loc : Loc} {mem : Mem} {E : Ex W}
theorem mun_no (m : Mem) : mun (fun _ => none) m = m := rfl
theorem nodup_take' {α : Type} {l : List α} (h : l.Nodup) {i : Nat} {x : α} (e : l[i]? = some x) : x ∉ l.take i := by
  induction l generalizing i with
  | nil => simp at e
  | cons a l ih =>
    cases i with
    | zero => simp
    | succ i =>
      rw [List.take_succ_cons]
      intro hm
      rcases List.mem_cons.mp hm with rfl | hm
      · exact (List.nodup_cons.mp h).1 (List.mem_of_getElem? e)
      · exact ih (List.nodup_cons.mp h).2 e hm
theorem tab_none {β : Type} {l : List (Str × β)} {x : Str} (h : x ∉ l.map (·.1)) : l.lookup x = none := by
  have := lookup_contains l x
  cases q : l.lookup x with
  | none => rfl
  | some z =>
    rw [q] at this
    have hc : (l.map (·.1)).contains x = true := this.symm
    rw [List.contains_iff_mem] at hc; exact absurd hc h
inductive J4g (mem : Mem) (R : List Rule) (ts : List Str) (a : Addr) (up : V) (i : Nat) (l : Loc) (m : Mem) : Prop
  | mk (h2_ : LSub [("grammar", .ref a)] l) (gm : _) (h3_ : Dis gm mem) (h4_ : m = mun gm mem) (h5_ : GMem aGrammar aProd (madeG ts up (R.take i)) a gm)
structure GrOk (ts : List Str) (R : List Rule) : Prop where
  z : ts.length ≤ 100
  nd : ts.Nodup
  err : ("error" : Str) ∉ ts
  ok : ∀ r ∈ R, SymOk r.1 ∧ r.1 ∉ ts ++ [("error" : Str)] ∧ r.2.length ≤ 20 ∧ ∀ y ∈ r.2, SymOk y
  Rz : R.length ≤ 500
  Rd : R.Nodup
  mi : ∀ r ∈ R, ∀ q ∈ R, mapText r.1 r.2 = mapText q.1 q.2 → r = q
noncomputable def ssS : Str := "S"
theorem ss_ok : 0 < ssS.cps.size ∧ ssS.cps.size ≤ 100 ∧ PyData.strOk ssS = true := by decide +kernel
theorem gram_spec {R : List Rule} {ts : List Str} {Q : V → Loc → Mem → Prop} (hK : W.K = hdK W.w.params) (c : Calm A 350 3000) (hf : Fits A env outer)
    (G0 : GrOk ts R) (hstn : ∃ r ∈ R, ssS = r.1)
    (h : ∀ a gm up, GMem aGrammar aProd (startG aProd (madeG ts up R) ssS) a gm → Dis gm mem → Q (.ref a) loc (mun gm mem)) : OpV W A env outer (fun vs => call (.ref 282) vs) [.lst (R.map ruleV), .lst (vStrs ts)] loc mem Q E := by
  obtain ⟨hz, hnd, he, hR, hRz, hRd, hmi⟩ := G0
  refine call_fn (bs := [("rules", .lst (R.map ruleV)), ("terminals", .lst (vStrs ts))]) (by rw [hK]; exact lGram.at _) (by rw [hK]; first | rfl | kernel_rfl | decide +kernel) (c.room (by decide)) ?_ (by intro y hy; simp at hy; rcases hy with rfl | rfl <;> rfl) (by decide) rfl rfl rfl ?_
  · intro F s vs hb hk r
    cases r.view with
    | cons r1 r2 =>
      cases r2 with
      | cons r2 r3 =>
        cases r3
        exact ⟨_, BindsTo.of_eq rfl, .cons r1 (.cons r2 .nil)⟩
  · intro L outer
    have cd := c.deeper (envX "_law_grammar" lGram.scope L 282 lGram.code [])
    have fd := hf.deeper (env' := envX "_law_grammar" lGram.scope L 282 lGram.code []) (m0 := outer) rfl rfl
    (refine nameS ?_; intro aa vv oo qq ee; refine s_cons ?_); refine s_assign rfl ?_; refine c_name rfl ?_; refine e_topG rfl rfl rfl rfl (by rw [hK]; rfl) ?_; refine c_top (by rw [hK]; rfl) rfl rfl ?_; refine a_cons rfl ?_; refine e_local rfl rfl rfl rfl ?_; refine a_nil ?_
    rw [← mun_no mem]
    refine Op.frame (Q := fun v l m => l = _ ∧ ∃ a up, v = .ref a ∧ GMem aGrammar aProd (g0 ts up) a m) (fun _ _ e => nomatch e) (gInit_spec hK (cd.mono (by decide) (by decide)) hz hnd he (fun a m up G => ⟨rfl, a, up, rfl, G⟩)) ?_
    rintro v l m1 d1 ⟨rfl, a, up, rfl, G⟩
    refine st_local rfl rfl ?_; refine s_cons ?_; refine s_for (fun _ => rfl) ?_; refine e_local rfl rfl rfl rfl ?_
    refine for_map (ys := R) (fun _ => ruleV) (itr_lst cd.handled) (J4g mem R ts a up) (fun i l m hi J => ?_) (fun l m J => ?_) (fun i r l m hr1 J => ?_) ⟨rfl, m1, d1, rfl, G⟩
    · show some ((R.map ruleV)[i]?) = _
      rw [List.getElem?_map]
    · obtain ⟨hl, gm, d, rfl, G⟩ := J
      have I := MadeInv.all (ts := ts) (up := up) R fun r hr => ⟨(hR r hr).2.1, (hR r hr).2.2.1⟩
      rw [List.take_length] at G
      refine Tr.locs hl ?_
      refine s_nil ?_; refine s_cons ?_; refine s_expr rfl rfl ?_; refine c_meth rfl ?_; refine e_local rfl rfl rfl rfl ?_
      obtain ⟨adr, cc, M, ok, ea⟩ := id G
      obtain ⟨epd, hdict⟩ := ok.dict
      have hx := mun_l (R := mem) (M.get ok.self)
      have hd := mun_l (R := mem) (M.get hdict)
      rw [ea] at hx
      refine m_own (.own hx hd) (by rw [hK]; first | rfl | kernel_rfl | decide +kernel) (by rw [hK]; first | rfl | kernel_rfl | decide +kernel) (by rw [hK]; first | rfl | kernel_rfl | decide +kernel) rfl (by rw [hK]; first | rfl | kernel_rfl | decide +kernel) rfl rfl ?_
      refine a_cons rfl ?_; refine e_str ?_; refine a_nil ?_
      have hno : ((madeG ts up R).no.lookup ssS).isSome = true := by
        rw [lookup_contains, List.contains_iff_mem, I.no]
        obtain ⟨r, hr, e⟩ := hstn
        exact ⟨r, hr, .inl e⟩
      refine Op.frame (Q := fun v l m => l = _ ∧ v = .none ∧ GMem aGrammar aProd (startG aProd (madeG ts up R) ssS) a m) d (start_spec hK (cd.mono (by decide) (by decide)) G ss_ok.1 ss_ok.2.1 ss_ok.2.2 hno (fun ns e => by have := I.len.2.2 _ _ e; omega) (fun m G => ⟨rfl, rfl, G⟩)) ?_
      rintro v l m2 d2 ⟨rfl, rfl, G2⟩
      refine s_cons ?_; refine s_ret ?_; refine e_local rfl rfl rfl rfl ?_
      exact ⟨_, sub_refl _, h a m2 up G2 d2⟩
    · obtain ⟨hl, gm, d, rfl, G⟩ := J
      have I := MadeInv.all (ts := ts) (up := up) (R.take i) fun r hr => ⟨(hR r (List.mem_of_mem_take hr)).2.1, (hR r (List.mem_of_mem_take hr)).2.2.1⟩
      have hr : r ∈ R := List.mem_of_getElem? hr1
      obtain ⟨left, body⟩ := r
      obtain ⟨hs1, hs2, hs3, hs4⟩ := hR _ hr
      dsimp only at hs1 hs2 hs3 hs4
      refine Op.locs hl ?_
      refine   asg_tuple     (by       first       | assumption       | exact Calm.handled (by assumption))     rfl rfl ?_; refine asg_name ?_; refine st_local rfl rfl ?_; refine asg_name ?_; refine st_local rfl rfl ?_; (refine nameQ ?_; intro qq ee; refine s_cons ?_); refine s_expr rfl rfl ?_; refine c_meth rfl ?_; refine e_local rfl rfl rfl rfl ?_
      obtain ⟨adr, cc, M, ok, ea⟩ := id G
      obtain ⟨epd, hdict⟩ := ok.dict
      have hx := mun_l (R := mem) (M.get ok.self)
      have hd := mun_l (R := mem) (M.get hdict)
      rw [ea] at hx
      refine m_own (.own hx hd) (by rw [hK]; first | rfl | kernel_rfl | decide +kernel) (by rw [hK]; first | rfl | kernel_rfl | decide +kernel) (by rw [hK]; first | rfl | kernel_rfl | decide +kernel) rfl (by rw [hK]; first | rfl | kernel_rfl | decide +kernel) rfl rfl ?_
      refine a_cons rfl ?_; refine e_local rfl rfl rfl rfl ?_; refine a_cons rfl ?_; refine c_name rfl ?_; refine e_boot rfl rfl rfl rfl rfl (by rw [hK]; rfl) rfl (by decide) ?_; refine c_type rfl rfl ?_; refine a_cons rfl ?_; refine e_local rfl rfl rfl rfl ?_; refine a_nil ?_
      refine list_sq (.tup _) (by rw [vStrs_len]; exact Nat.le_trans hs3 (by decide)) (fun sy hsy => ?_)
      refine a_nil ?_
      obtain ⟨n1, n2⟩ := mun_none hsy
      rw [mset_mun]
      have hlenI := I.len
      rw [List.length_take] at hlenI
      have hpl : (madeG ts up (R.take i)).prods.length = (R.take i).length := by have := congrArg List.length I.prods; rw [List.length_map] at this; exact this
      have hmem : ∀ p ∈ (madeG ts up (R.take i)).prods, (p.name, p.body) ∈ R.take i := fun p hp => by
        have : (p.name, p.body) ∈ (madeG ts up (R.take i)).prods.map fun p => (p.name, p.body) := List.mem_map.mpr ⟨p, hp, rfl⟩
        rw [I.prods] at this; exact this
      refine Op.frame (Q := fun v l m => l = _ ∧ v = .none ∧ GMem aGrammar aProd (addR (madeG ts up (R.take i)) (left, body)) a m) (R0 := mem) (fun b x e => ?_) (add_spec (name := left) (syms := body) hK (cd.mono (by decide) (by decide)) G n1 hs1 hs4 (by omega) (fun e => hs2 (by rw [e]; exact List.mem_append_right _ (.head _))) (tab_none (by rw [I.te]; exact hs2)) I.pr (fun p hp e => ?_) (by rw [hpl, List.length_take]; omega) fd (fun p hp => (I.pn _).mpr ⟨_, hmem p hp, rfl⟩) (by have := I.pz; rw [List.length_take] at this; omega) (hlenI.mono (by omega)) (fun m G => ⟨rfl, rfl, G⟩)) ?_
      · by_cases q : b = sy
        · subst q; exact n2
        · rw [mset_ne q] at e; exact d b x e
      · have h1 := hmem p hp
        have := hmi _ (List.mem_of_mem_take h1) _ hr e
        rw [this] at h1
        exact nodup_take' hRd hr1 h1
      · rintro v l m2 d2 ⟨rfl, rfl, G2⟩
        refine s_nil ?_
        refine ⟨rfl, m2, d2, rfl, ?_⟩
        rw [take_snoc hr1, madeG, List.foldl_append]
        exact G2
end
end Mine
end
section
set_option autoImplicit false
namespace Mine
noncomputable def SY : List Str := ["S", "A", "B", "C", "a", "b", "c"]
theorem sy_ok : ∀ s ∈ SY, PyData.strOk s = true := by decide +kernel
theorem nm_sy : ∀ s ∈ NM, s ∈ SY := by decide +kernel
structure RL (r : Rule) : Prop where
  left : r.1 ∈ NM
  len : r.2.length ≤ 3
  body : ∀ y ∈ r.2, y ∈ SY
theorem RL.isD {r : Rule} (h : RL r) : isD 2 (ruleV r) = true := by
  unfold ruleV
  show (List.all [V.str r.1, V.tup (vStrs r.2)] (Mine.isD 1)) = true
  simp only [List.all_cons, List.all_nil, Bool.and_true, Bool.and_eq_true]
  refine ⟨sy_ok _ (nm_sy _ h.left), ?_⟩
  show (vStrs r.2).all (Mine.isD 0) = true
  exact isD_strs (List.all_eq_true.mpr fun y hy => sy_ok y (h.body y hy))
structure LawR (R : List Rule) : Prop where
  ok : ∀ r ∈ R, RL r
  nd : R.Nodup
  hz : R.length ≤ 7
  has : ∃ r ∈ R, r.1 = ssS
theorem fmod_rng {a b : Int} (hb : 0 < b) : 0 ≤ a.fmod b ∧ a.fmod b < b := ⟨Int.fmod_nonneg_of_pos a hb, Int.fmod_lt_of_pos a hb⟩
theorem at_mod (l : List Str) (hl : l.length ≠ 0) (t : Int) : ∃ y ∈ l, (vStrs l)[(t.fmod (l.length : Int)).toNat]? = some (.str y) := by
  obtain ⟨r1, r2⟩ := fmod_rng (a := t) (b := (l.length : Int)) (by omega)
  have hlt : (t.fmod (l.length : Int)).toNat < l.length := by omega
  exact ⟨l[(t.fmod (l.length : Int)).toNat], List.getElem_mem _, vStrs_get (List.getElem?_eq_getElem hlt)⟩
theorem tNext_len (ts : List Int) : (tNext ts).2.length ≤ ts.length ∧ (ts ≠ [] → (tNext ts).2.length < ts.length) := by
  cases ts with
  | nil => exact ⟨Nat.le_refl _, fun h => absurd rfl h⟩
  | cons t ts => exact ⟨Nat.le_succ _, fun _ => Nat.lt_succ_self _⟩
noncomputable def OffL (ta : Addr) (m m' : Mem) : Prop := ∀ b x, b ≠ ta → m b = some x → m' b = some x
section
variable {W : Wd} {A : Around} {env : Env} {outer : Outs} {loc : Loc} {mem : Mem} {E : Ex W}
noncomputable abbrev rlE (L : Addr) : Env := envC "_law_rules" lRules.scope L 270 lRules.code
inductive J4r (mem : Mem) (L ta ra : Addr) (k : Nat) (l : Loc) (m : Mem) : Prop
  | mk (h1_ : LSub [("rules", .ref ra)] l) (R : List Rule) (ts : List Int) (h2_ : m (L + 1) = some (.cell (some (.ref ta)))) (h3_ : m ta = some (.list (ts.map .int))) (h4_ : m ra = some (.list (R.map ruleV))) (h5_ : OffL ta mem m) (h6_ : R = [] ∨ LawR R) (h7_ : 2 * ts.length + (if R = [] then 1 else 0) = k) (h8_ : ts.length ≤ 30)
inductive J4s (m0 : Mem) (ta : Addr) (n b : Nat) (k i : Nat) (ys : List V) (m : Mem) : Prop
  | mk (bs : List Str) (ts : List Int) (h1_ : k + i = n) (h2_ : ys = vStrs bs) (h3_ : bs.length = i) (h4_ : ∀ y ∈ bs, y ∈ SY) (h5_ : m ta = some (.list (ts.map .int))) (h6_ : ts.length ≤ b) (h7_ : OffL ta m0 m)
inductive J4n (m0 : Mem) (ta ra : Addr) (R : List Rule) (ts : List Int) (l : Loc) (m : Mem) : Prop
  | mk (x : Str) (us : List Int) (h1_ : LSub [("rules", .ref ra), ("name", .str x)] l) (h2_ : x ∈ NM) (h3_ : R = [] → x = ssS) (h4_ : m ta = some (.list (us.map .int))) (h5_ : us.length ≤ ts.length) (h6_ : R ≠ [] → ts ≠ [] → us.length < ts.length) (h7_ : OffL ta m0 m)
theorem offL_set {ta : Addr} {x : AObj} (m : Mem) : OffL ta m (mset m ta x) := fun b y n e => by rw [mset_ne n]; exact e
theorem OffL.trans {ra : Addr} {m m' m'' : Mem} (h : OffL ra m m') (k : OffL ra m' m'') : OffL ra m m'' := fun b x n e => k b x n (h b x n e)
theorem small4 {n : Nat} (h : n ≤ 3) : Builtin.Range.small 0 (0 + (n : Int)) 1 = true := by
  have : n = 0 ∨ n = 1 ∨ n = 2 ∨ n = 3 := by omega
  rcases this with rfl | rfl | rfl | rfl <;> decide +kernel
theorem symV {F : Frz} (hK : W.K = hdK W.w.params) (h : ∀ a o, W.hb.get? a = some o → F a o) : VR W F (.lst (vStrs SY)) (.ref 258) := by
  refine .lst (h _ _ (W.KIn 258 _ (by rw [hK]; rfl))) ?_
  exact .cons (.str _ _) (.cons (.str _ _) (.cons (.str _ _) (.cons (.str _ _) (.cons (.str _ _) (.cons (.str _ _) (.cons (.str _ _) .nil))))))
theorem rules_spec {ta : Addr} {ts : List Int} {Q : V → Loc → Mem → Prop} (hK : W.K = hdK W.w.params) (c : Calm A 600 5000) (hta : mem ta = some (.list (ts.map .int))) (hz : ts.length ≤ 30)
    (h : ∀ R m', LawR R → OffL ta mem m' → Q (.lst (R.map ruleV)) loc m') : OpV W A env outer (fun vs => call (.ref 270) vs) [.ref ta] loc mem Q E := by
  refine call_fnC (bs := [("tape", .ref ta)]) (by rw [hK]; exact lRules.at _) (by rw [hK]; first | rfl | kernel_rfl | decide +kernel) (c.room (by decide)) ?_ rfl rfl rfl ?_ ?_ ?_
  · intro F vs r
    cases r.view with
    | cons r1 r2 =>
      cases r2.view
      exact ⟨_, rfl, .cons r1 .nil⟩
  · intro x hx
    simp at hx
    subst hx
    exact .inr ⟨rfl, fun n => rfl⟩
  · intro k p hp
    have : cellsFrom k lRules.scope.names [] = [(("tape" : Str), k)] := rfl
    rw [this] at hp ⊢
    simp only [List.mem_cons, List.not_mem_nil, or_false] at hp
    rcases hp with rfl; rfl
  · intro L m0 hc hL
    have cd := c.deeper (rlE L)
    have hc1 : mem (L + 1) = none := hc ("tape", L + 1) (.head _)
    have ecell : layC (fun n => List.lookup n (onlyC (fun n => List.lookup n lRules.scope.names) [("tape", V.ref ta)])) (cellsFrom (L + 1) lRules.scope.names []) mem = mset mem (L + 1) (.cell (some (.ref ta))) := by
      show layC _ [(("tape" : Str), L + 1)] mem = _
      rfl
    rw [ecell]
    obtain ⟨M0, hM0⟩ : ∃ M0, M0 = mset mem (L + 1) (.cell (some (.ref ta))) := ⟨_, rfl⟩
    have hT0 : M0 (L + 1) = some (.cell (some (.ref ta))) := by rw [hM0, mset_self]
    have hta0 := hta
    have s0 : Sub mem M0 := fun b x e => by rw [hM0, mset_ne (nex e hc1)]; exact e
    rw [← hM0]
    clear hM0 ecell
    (refine nameS ?_; intro aa vv oo qq ee; refine s_cons ?_); refine s_assign rfl ?_; refine e_list ?_; refine a_nil ?_
    refine new_own' (show 0 ≤ sizeLine by decide) (fun ra m1 hra h1 f1 => ?_)
    have s1 : Sub mem m1 := Sub.new s0 hra f1
    have hra0 : mem ra = none := Sub.none s0 hra
    have hT1 : m1 (L + 1) = _ := (f1 _ (nex hT0 hra)).trans hT0
    refine st_local rfl rfl ?_; refine s_cons ?_
    refine s_while (J4r mem L ta ra) (fun k l m J => ?_) _ ⟨rfl, [], ts, hT1, s1 _ _ hta, h1, fun b x _ e => s1 b x e, .inl rfl, rfl, hz⟩
    clear h1 f1 s1 hT1
    obtain ⟨hl, R, ts, hT, hta, hr, off, hR, hk, hz⟩ := J
    have hRz : R.length ≤ 7 := hR.elim (fun e => by rw [e]; exact Nat.zero_le _) LawR.hz
    refine Tr.locs hl ?_
    have nra : ra ≠ ta := fun e => by rw [e] at hra; have := s0 _ _ (show mem ta = _ from hta0); rw [hra] at this; cases this
    have nLt : L + 1 ≠ ta := fun e => by rw [e, hta] at hT; cases hT
    refine Tr.mono (Q := fun b l m' => l = [(("rules" : Str), V.ref ra)] ∧ m' = m ∧ (b = true → R = [] ∨ (ts ≠ [] ∧ R.length < 7)) ∧ (b = false → R ≠ [])) ?_ ?_
    · refine b_bool ?_; refine b_or_cons ?_; refine b_not ?_; refine b_value rfl ?_; refine e_local rfl rfl rfl rfl ?_
      refine tr_list (.own hr) (by rw [List.length_map]; omega) ?_
      skip
      have em : (!!(List.map ruleV R).isEmpty) = R.isEmpty := by cases R <;> rfl
      rw [em]
      refine ⟨fun hb => ?_, fun hb => ?_⟩
      · have hR1 : R ≠ [] := fun e => by rw [e] at hb; cases hb
        refine b_or_cons ?_; refine b_bool ?_; refine b_and_cons ?_; refine b_value rfl ?_; refine   e_cell rfl rfl rfl rfl     (by       first       | assumption       | simp [mset_self])     ?_
        refine tr_list (.own hta) (by rw [List.length_map]; omega) ?_
        have et : (!(List.map V.int ts).isEmpty) = !ts.isEmpty := by cases ts <;> rfl
        rw [et]
        refine ⟨fun hb2 => ?_, fun hb2 => ?_⟩
        · have ht1 : ts ≠ [] := fun e => by rw [e] at hb2; cases hb2
          refine b_and_cons ?_; refine b_cmp rfl ?_; refine c_name rfl ?_; refine e_boot rfl rfl rfl rfl rfl (by rw [hK]; rfl) rfl (by decide) ?_; refine c_builtin rfl rfl ?_; refine a_cons rfl ?_; refine e_local rfl rfl rfl rfl ?_; refine a_nil ?_
          refine len_sq (.own hr) (by rw [List.length_map]; omega) ?_
          refine e_int ?_; refine lt_ii ?_; refine tr_bool ?_
          refine ⟨fun hb3 => ?_, fun hb3 => ?_⟩
          · refine b_and_nil ?_
            exact ⟨(fun e => nomatch e), fun _ => ⟨rfl, rfl, fun _ => .inr ⟨ht1, by have := of_decide_eq_true hb3; rw [List.length_map] at this; omega⟩, fun e => nomatch e⟩⟩
          · skip
            refine ⟨fun _ => ?_, fun e => nomatch e⟩
            refine b_or_nil ?_
            exact ⟨rfl, rfl, (fun e => nomatch e), fun _ => hR1⟩
        · skip
          refine ⟨fun _ => ?_, fun e => nomatch e⟩
          refine b_or_nil ?_
          exact ⟨rfl, rfl, (fun e => nomatch e), fun _ => hR1⟩
      · have hR1 : R = [] := by cases R with | nil => rfl | cons _ _ => cases hb
        exact ⟨rfl, rfl, fun _ => .inl hR1, fun e => nomatch e⟩
    · rintro b l m' ⟨rfl, em, b1, b2⟩
      rw [em]
      clear em m'
      refine ⟨fun hb => ?_, fun hb => ?_⟩
      · have b1 := b1 hb
        (refine nameQ ?_; intro qq ee; refine s_cons ?_)
        refine Tr.mono (Q := fun f l m' => f = .next ∧ J4n m ta ra R ts l m') ?_ ?_
        · refine s_assign rfl ?_; refine e_ifexp ?_; refine b_value rfl ?_; refine e_local rfl rfl rfl rfl ?_
          refine tr_list (.own hr) (by rw [List.length_map]; omega) ?_
          skip
          refine ⟨fun hb => ?_, fun hb => ?_⟩
          · have hR1 : R ≠ [] := fun e => by rw [e] at hb; cases hb
            refine e_sub (fun _ _ => rfl) ?_; refine c_name rfl ?_; refine e_topG rfl rfl rfl rfl (by rw [hK]; rfl) ?_; refine c_top0 (by rw [hK]; rfl) ?_
            refine names_spec hK (cd.mono (by decide) (by decide)) ?_
            obtain ⟨y, hy, he⟩ := at_mod NM (by decide) (tNext ts).1
            have r4 := fmod_rng (a := (tNext ts).1) (b := 4) (by decide)
            refine e_binop ?_; refine c_name rfl ?_; refine e_topG rfl rfl rfl rfl (by rw [hK]; rfl) ?_; refine c_top (by rw [hK]; rfl) rfl rfl ?_; refine a_cons rfl ?_; refine   e_cell rfl rfl rfl rfl     (by       first       | assumption       | simp [mset_self])     ?_; refine a_nil ?_
            refine next_spec hK (cd.mono (by decide) (by decide)) hta (by omega) ?_
            refine e_int ?_
            refine mod_ii (by decide) ?_
            refine sub_sq (x := .str y) (.lst _) r4.1 (Int.lt_of_lt_of_le r4.2 (by decide)) he ?_
            refine st_local rfl rfl ?_
            exact ⟨rfl, y, _, rfl, hy, fun e => absurd e hR1, mset_self _ _ _, (tNext_len ts).1, fun _ ht => (tNext_len ts).2 ht, offL_set _⟩
          · have hR1 : R = [] := by cases R with | nil => rfl | cons _ _ => cases hb
            refine e_str ?_; refine st_local rfl rfl ?_
            exact ⟨rfl, ssS, ts, rfl, by decide, fun _ => rfl, hta, Nat.le_refl _, fun h => absurd hR1 h, fun b x _ e => e⟩
        · rintro f l m1 ⟨rfl, x, us, hl, hx, hx0, hta1, hu1, hu2, off1⟩
          refine s_cons ?_
          refine Tr.locs hl ?_
          refine Tr.mono (Q := fun f l m' => f = .next ∧ ∃ n : Nat, n ≤ 3 ∧ LSub [("rules", .ref ra), ("name", .str x), ("count", .int n)] l ∧ m' = mset m1 ta (.list ((tNext us).2.map .int))) ?_ ?_
          · refine s_assign rfl ?_; refine e_binop ?_; refine c_name rfl ?_; refine e_topG rfl rfl rfl rfl (by rw [hK]; rfl) ?_; refine c_top (by rw [hK]; rfl) rfl rfl ?_; refine a_cons rfl ?_
            have hT1 := off1 _ _ nLt hT
            refine e_cell rfl rfl rfl rfl hT1 ?_
            refine a_nil ?_
            refine next_spec hK (cd.mono (by decide) (by decide)) hta1 (by omega) ?_
            refine e_int ?_
            refine mod_ii (by decide) ?_
            refine st_local rfl rfl ?_
            have r4 := fmod_rng (a := (tNext us).1) (b := 4) (by decide)
            have e4 : (tNext us).1.fmod 4 = (((tNext us).1.fmod 4).toNat : Int) := (Int.toNat_of_nonneg r4.1).symm
            exact ⟨rfl, ((tNext us).1.fmod 4).toNat, by omega, by rw [← e4]; rfl, rfl⟩
          · rintro f l m2 ⟨rfl, n, hn, hl, em2⟩
            have hta2 : m2 ta = some (.list ((tNext us).2.map .int)) := by rw [em2, mset_self]
            have off2 : OffL ta m m2 := off1.trans (by rw [em2]; exact offL_set _)
            clear em2
            have hu3 := (tNext_len us).1
            have hT2 := off2 _ _ nLt hT
            have hr2 := off2 _ _ nra hr
            refine s_cons ?_
            refine Tr.locs hl ?_
            refine s_assign rfl ?_; refine e_tuple ?_; refine a_cons rfl ?_; refine e_local rfl rfl rfl rfl ?_; refine a_cons rfl ?_; refine c_name rfl ?_; refine e_boot rfl rfl rfl rfl rfl (by rw [hK]; rfl) rfl (by decide) ?_; refine c_type rfl rfl ?_; refine a_cons rfl ?_; refine e_listcomp rfl (by decide) rfl (by decide) (fun _ => rfl) ?_; refine c_name rfl ?_; refine e_boot rfl rfl rfl rfl rfl (by rw [hK]; rfl) rfl (by decide) ?_; refine c_type rfl rfl ?_; refine a_cons rfl ?_; refine e_local rfl rfl rfl rfl ?_; refine a_nil ?_
            refine range1 (fun rg t1 t2 t3 hrg => ?_)
            have hrt : rg ≠ ta := fun e => by rw [e, hta2] at hrg; cases hrg
            rw [show (n : Int) = ((0 : Int) + (n : Nat)) from (Int.zero_add _).symm]
            refine .mk (rangeItem 0 n) _ (itr_range (n := n) cd.handled (mset_self _ _ _) (small4 hn)) (J4s m2 ta n (tNext us).2.length) (fun kc i ys m hI => ?_) (fun C outer' kc i ys m l hI => ⟨by unfold rangeItem; simp, fun hdone D hD => ?_, fun v hv => ?_⟩) n
              ⟨[], (tNext us).2, by omega, rfl, rfl, (fun y hy => nomatch hy), by rw [mset_ne (Ne.symm hrt)]; exact hta2, Nat.le_refl _, fun b x _ e => by rw [mset_ne (nex e hrg)]; exact e⟩
            · obtain ⟨bs, ws, h1, rfl, h3, _⟩ := hI
              rw [vStrs_len]; exact Nat.le_trans (show bs.length ≤ 3 by omega) (by decide)
            · obtain ⟨bs, ws, h1, rfl, h3, h4, h5, h6, h7⟩ := hI
              have hj : ¬ i < n := fun q => by unfold rangeItem at hdone; rw [if_pos q] at hdone; cases hdone
              refine ⟨_, sub_refl _, ?_⟩
              refine a_nil ?_
              refine tuple_list (.own (mset_self _ _ _)) (by rw [vStrs_len]; exact Nat.le_trans (show bs.length ≤ 3 by omega) (by decide)) ?_
              refine a_nil ?_
              refine new_tup (show 2 ≤ sizeLine by decide) ?_
              obtain ⟨M, hM⟩ : ∃ M, M = mset m D (.list (vStrs bs)) := ⟨_, rfl⟩
              rw [← hM]
              have sM : Sub m M := by rw [hM]; exact sub_mset hD (sub_refl _)
              clear hM
              have hrM := sM _ _ (h7 _ _ nra hr2)
              have hrl : RL (x, bs) := ⟨hx, by show bs.length ≤ 3; omega, h4⟩
              refine st_local rfl rfl ?_; refine s_cons ?_; refine s_if ?_; refine b_cmp rfl ?_; refine e_local rfl rfl rfl rfl ?_; refine e_local rfl rfl rfl rfl ?_
              refine notin_list (.own hrM) hrl.isD (by
                rw [List.all_eq_true]; intro v hv
                obtain ⟨q, hq, rfl⟩ := List.mem_map.mp hv
                exact (hR.elim (fun e => by rw [e] at hq; cases hq) fun I => I.ok q hq).isD) (by decide) (Nat.lt_of_le_of_lt (Nat.add_le_add_right cd.units 65) (by decide)) ?_
              intro b hbm
              have hbm : b = true ↔ (x, bs) ∈ R := hbm.trans (ruleV_mem (a := (x, bs)))
              have hk' : 2 * ws.length < k := by
                rcases b1 with e | ⟨e, _⟩
                · rw [if_pos e] at hk; omega
                · by_cases q : R = []
                  · rw [if_pos q] at hk; omega
                  · have := hu2 q e; rw [if_neg q] at hk; omega
              have offM : OffL ta mem M := off.trans (off2.trans (h7.trans fun b x _ e => sM b x e))
              have htM := sM _ _ h5
              have hTM := sM _ _ (h7 _ _ nLt hT2)
              refine tr_bool ?_
              refine ⟨fun hb => ?_, fun hb => ?_⟩
              · have hnm : (x, bs) ∉ R := fun q => by rw [hbm.mpr q] at hb; cases hb
                (refine nameQ ?_; intro qq ee; refine s_cons ?_); refine s_expr rfl rfl ?_; refine c_meth rfl ?_; refine e_local rfl rfl rfl rfl ?_
                refine m_builtin (.list hrM) PySem.F.plainAttrs_list PySem.F.slot_list_append PySem.F.type_list_append rfl rfl ?_
                refine a_cons rfl ?_; refine e_local rfl rfl rfl rfl ?_; refine a_nil ?_
                refine append_own' hrM (by rw [List.length_map]; exact Nat.le_trans hRz (by decide)) (fun M2 hM2 fM2 => ?_)
                have nLr : L + 1 ≠ ra := nex hTM hrM
                refine s_nil ?_; refine s_nil ?_
                refine ⟨2 * ws.length, hk', rfl, R ++ [(x, bs)], ws, (fM2 _ nLr).trans hTM, (fM2 _ (Ne.symm nra)).trans htM, by rw [hM2, List.map_append]; rfl, fun b y hb e => ?_, .inr ⟨fun q hq => ?_, ?_, ?_, ?_⟩, ?_, by omega⟩
                · have hbr : b ≠ ra := fun q => by rw [q, hra0] at e; cases e
                  exact (fM2 _ hbr).trans (offM b y hb e)
                · rcases List.mem_append.mp hq with hq | hq
                  · exact (hR.elim (fun e => by rw [e] at hq; cases hq) fun I => I.ok q hq)
                  · rw [List.mem_singleton] at hq; rw [hq]; exact hrl
                · rw [List.nodup_append]
                  refine ⟨hR.elim (fun e => by rw [e]; exact List.nodup_nil) LawR.nd, by simp, fun a ha c hc e => ?_⟩
                  rw [List.mem_singleton] at hc; subst hc; exact hnm (e ▸ ha)
                · rw [List.length_append, List.length_singleton]
                  rcases b1 with e | ⟨_, e⟩
                  · rw [e]; exact (by decide : 0 + 1 ≤ 7)
                  · omega
                · rcases hR with e | I
                  · exact ⟨(x, bs), List.mem_append_right _ (.head _), hx0 e⟩
                  · obtain ⟨q, hq, e⟩ := I.has; exact ⟨q, List.mem_append_left _ hq, e⟩
                · rw [if_neg (by simp)]; omega
              · have hin : (x, bs) ∈ R := hbm.mp (by cases b with | true => rfl | false => cases hb)
                have hR1 : R ≠ [] := fun e => by rw [e] at hin; cases hin
                refine s_nil ?_; refine s_nil ?_
                refine ⟨2 * ws.length, hk', rfl, R, ws, hTM, htM, hrM, offM, hR, ?_, by omega⟩
                rw [if_neg hR1]; omega
            · obtain ⟨bs, ws, h1, rfl, h3, h4, h5, h6, h7⟩ := hI
              have hj : i < n := by
                unfold rangeItem at hv; split at hv
                · assumption
                · cases hv
              obtain ⟨y, hy, he⟩ := at_mod SY (by decide) (tNext ws).1
              have r7 := fmod_rng (a := (tNext ws).1) (b := 7) (by decide)
              have hT3 := h7 _ _ nLt hT2
              refine asg_name ?_
              refine st_local rfl rfl ?_
              refine e_sub (fun _ _ => rfl) ?_
              refine e_top (v := .lst (vStrs SY)) rfl rfl rfl rfl (by rw [hK]; rfl) (fun F hF => symV hK hF) ?_
              refine e_binop ?_; refine c_name rfl ?_; refine e_topG rfl rfl rfl rfl (by rw [hK]; rfl) ?_; refine c_top (by rw [hK]; rfl) rfl rfl ?_; refine a_cons rfl ?_; refine   e_cell rfl rfl rfl rfl     (by       first       | assumption       | simp [mset_self])     ?_; refine a_nil ?_
              refine next_spec hK (cd.mono (by decide) (by decide)) h5 (by omega) ?_
              refine e_int ?_
              refine mod_ii (by decide) ?_
              refine sub_sq (x := .str y) (.lst _) r7.1 (Int.lt_of_lt_of_le r7.2 (by decide)) he ?_
              skip
              refine ⟨kc - 1, by omega, bs ++ [y], (tNext ws).2, by omega, by unfold vStrs; rw [List.map_append]; rfl, by rw [List.length_append, h3]; rfl, fun z hz => ?_, mset_self _ _ _, Nat.le_trans (tNext_len ws).1 h6, h7.trans (offL_set _)⟩
              rcases List.mem_append.mp hz with hz | hz
              · exact h4 z hz
              · rw [List.mem_singleton] at hz; rw [hz]; exact hy
      · refine s_nil ?_
        refine s_cons ?_
        refine s_ret (Tr.shift ?_)
        refine e_local rfl rfl rfl rfl ?_
        have hR := hR.resolve_left (b2 hb)
        refine ⟨_, mdel m ra, Shift.lst hr (fun b x e => ?_) (by unfold mdel; rw [if_pos rfl]), mdel m ra, sub_refl _, h R _ hR fun b x hb e => ?_⟩
        · unfold mdel at e; split at e
          · cases e
          · exact e
        · have hbr : b ≠ ra := fun q => by rw [q, hra0] at e; cases e
          unfold mdel; rw [if_neg hbr]; exact off b x hb e
end
end Mine
end
section
set_option autoImplicit false
namespace Mine
theorem cut_at {c : Nat} : ∀ {a b x y : List Nat}, c ∉ a → c ∉ b → a ++ c :: x = b ++ c :: y → a = b ∧ x = y
  | [], [], x, y, _, _, h => by simp at h; exact ⟨rfl, h⟩
  | [], d :: b, x, y, _, hb, h => by simp at h; exact absurd (.head _) (h.1 ▸ hb)
  | d :: a, [], x, y, ha, _, h => by simp at h; exact absurd (.head _) (h.1 ▸ ha)
  | d :: a, e :: b, x, y, ha, hb, h => by
    simp only [List.cons_append, List.cons.injEq] at h
    obtain ⟨rfl, h⟩ := h
    obtain ⟨rfl, h2⟩ := cut_at (fun q => ha (.tail _ q)) (fun q => hb (.tail _ q)) h
    exact ⟨rfl, h2⟩
noncomputable def joinL : List (List Nat) → List Nat
  | [] => []
  | [x] => x
  | x :: y :: r => x ++ 44 :: 32 :: joinL (y :: r)
noncomputable def quo (s : List Nat) : List Nat := 39 :: s ++ [39]
theorem joinL_inj : ∀ {a b : List (List Nat)}, (∀ x ∈ a, 39 ∉ x) → (∀ x ∈ b, 39 ∉ x) → joinL (a.map quo) ++ [93] = joinL (b.map quo) ++ [93] → a = b
  | [], [], _, _, _ => rfl
  | [], [y], _, _, h => by simp [joinL, quo] at h
  | [], y :: z :: b, _, _, h => by simp [joinL, quo] at h
  | [x], [], _, _, h => by simp [joinL, quo] at h
  | x :: z :: a, [], _, _, h => by simp [joinL, quo] at h
  | [x], [y], ha, hb, h => by
    simp only [List.map_cons, List.map_nil, joinL, quo, List.cons_append, List.cons.injEq, true_and, List.append_assoc, List.nil_append] at h
    obtain ⟨rfl, _⟩ := cut_at (ha x (.head _)) (hb y (.head _)) h
    rfl
  | [x], y :: z :: b, ha, hb, h => by
    simp only [List.map_cons, List.map_nil, joinL, quo, List.cons_append, List.cons.injEq, true_and, List.append_assoc, List.nil_append] at h
    obtain ⟨_, h2⟩ := cut_at (ha x (.head _)) (hb y (.head _)) h
    simp at h2
  | x :: z :: a, [y], ha, hb, h => by
    simp only [List.map_cons, List.map_nil, joinL, quo, List.cons_append, List.cons.injEq, true_and, List.append_assoc, List.nil_append] at h
    obtain ⟨_, h2⟩ := cut_at (ha x (.head _)) (hb y (.head _)) h
    simp at h2
  | x :: z :: a, y :: w :: b, ha, hb, h => by
    simp only [List.map_cons, joinL] at h
    unfold quo at h
    simp only [List.cons_append, List.cons.injEq, true_and, List.append_assoc, List.nil_append] at h
    obtain ⟨rfl, h2⟩ := cut_at (ha x (.head _)) (hb y (.head _)) h
    simp only [List.cons.injEq, true_and] at h2
    have := joinL_inj (a := z :: a) (b := w :: b) (fun x hx => ha x (.tail _ hx)) (fun x hx => hb x (.tail _ hx)) h2
    rw [this]
theorem cps_append (a b : Str) : (a ++ b).cps.toList = a.cps.toList ++ b.cps.toList := Array.toList_append
theorem syms_shown : ∀ s ∈ SY, (PyData.str s).shown.cps.toList = quo s.cps.toList ∧ 39 ∉ s.cps.toList ∧ 32 ∉ s.cps.toList := by decide +kernel
theorem join_cps : ∀ (ys : List Str), (∀ y ∈ ys, y ∈ SY) → (Str.join ", " (PyData.shownAll (ys.map .str))).cps.toList = joinL ((ys.map fun s => s.cps.toList).map quo)
  | [], _ => rfl
  | [y], h => by
    show ((PyData.str y).shown).cps.toList = quo y.cps.toList
    exact (syms_shown y (h y (.head _))).1
  | y :: z :: ys, h => by
    have ih := join_cps (z :: ys) fun x hx => h x (.tail _ hx)
    show ((PyData.str y).shown ++ (", " : Str) ++ Str.join ", " (PyData.shownAll ((z :: ys).map .str))).cps.toList = quo y.cps.toList ++ 44 :: 32 :: joinL (((z :: ys).map fun s => s.cps.toList).map quo)
    rw [cps_append, cps_append, (syms_shown y (h y (.head _))).1, ih, List.append_assoc]
    congr 1
theorem str_ext {a b : Str} (h : a.cps.toList = b.cps.toList) : a = b := by
  cases a; cases b
  exact congrArg Str.mk (Array.toList_inj.mp h)
theorem mapText_inj {r q : Rule} (hr : RL r) (hq : RL q) (h : mapText r.1 r.2 = mapText q.1 q.2) : r = q := by
  have e : ∀ {r : Rule}, RL r → (mapText r.1 r.2).cps.toList = r.1.cps.toList ++ 32 :: 45 :: 62 :: 32 :: 91 :: (joinL ((r.2.map fun s => s.cps.toList).map quo) ++ [93]) := fun {r} hr => by
    unfold mapText
    rw [PyData.shown_list, cps_append, cps_append, cps_append, cps_append, join_cps _ hr.body]
    have e1 : (" -> " : Str).cps.toList = [32, 45, 62, 32] := by decide +kernel
    have e2 : ("[" : Str).cps.toList = [91] := by decide +kernel
    have e3 : ("]" : Str).cps.toList = [93] := by decide +kernel
    rw [e1, e2, e3]
    simp
  have h := congrArg (fun s : Str => s.cps.toList) h
  rw [e hr, e hq] at h
  obtain ⟨h1, h2⟩ := cut_at (syms_shown _ (nm_sy _ hr.left)).2.2 (syms_shown _ (nm_sy _ hq.left)).2.2 h
  simp only [List.cons.injEq, true_and] at h2
  have h3 := joinL_inj (fun x hx => by obtain ⟨s, hs, rfl⟩ := List.mem_map.mp hx; exact (syms_shown s (hr.body s hs)).2.1) (fun x hx => by obtain ⟨s, hs, rfl⟩ := List.mem_map.mp hx; exact (syms_shown s (hq.body s hs)).2.1) h2
  obtain ⟨l, b⟩ := r
  obtain ⟨l2, b2⟩ := q
  have h4 : b = b2 := (List.map_inj_right (fun x y e => str_ext e)).mp h3
  rw [show l = l2 from str_ext h1, h4]
end Mine
end
section
set_option autoImplicit false
namespace Mine
section
variable {W : Wd} {A : Around} {env : Env} {outer : Outs} {loc : Loc} {mem R : Mem} {E : Ex W} {F : Frz} {s : Shared}
noncomputable def viewObj (d : Addr) : Obj := { cls := .type "dict_items", data := .fields #[.ref d] }
noncomputable def itemsItem (a : Addr) (n ep i : Nat) (m : Mem) : Option (Option V) := match m a with
  | some (.dict es e) => if es.length = n ∧ e = ep then some (es[i]?.map fun q => .tup [.str q.1, q.2]) else none
  | _ => none
theorem itemsItem_eq {a : Addr} {n ep i : Nat} {m : Mem} {es : List (Str × V)} (h : m a = some (.dict es ep)) (hn : es.length = n) : itemsItem a n ep i m = some (es[i]?.map fun q => .tup [.str q.1, q.2]) := by unfold itemsItem; rw [h]; simp [hn]
theorem itemsItem_some {a : Addr} {n ep i : Nat} {m : Mem} {v : Option V} (h : itemsItem a n ep i m = some v) : ∃ es, m a = some (.dict es ep) ∧ es.length = n ∧ v = es[i]?.map fun q => .tup [.str q.1, q.2] := by
  unfold itemsItem at h
  split at h
  · rename_i es e q
    split at h
    · rename_i z; cases h; exact ⟨es, z.2 ▸ q, z.1, rfl⟩
    · cases h
  · cases h
noncomputable def itemIter (d : Addr) (i n ep : Nat) (ok ov : Value) : Obj := { cls := .type "dict_itemiterator", dict := none, data := .fields #[.none, .bool false, .ref d, .int i 0, .int n 0, .int ep 0, ok, ov], slots := #[] }
inductive ItSt (it d : Addr) (n ep : Nat) (i : Nat) (R₀ R : Mem) : Prop
  | mk (h1_ : R₀ it = none) (ok ov : Value) (h2_ : R = mset R₀ it (.raw (itemIter d i n ep ok ov)))
theorem dict_items {d : Addr} {es : List (Str × V)} {ep : Nat} {Q : V → Loc → Mem → Prop} (hm : mem d = some (.dict es ep)) (h : ∀ v m', mem v = none → m' v = some (.raw (viewObj d)) → (∀ b, b ≠ v → m' b = mem b) → Q (.ref v) loc m') :
    OpV W A env outer (fun vs => call (.builtin "dict.items") vs) [.ref d] loc mem Q E := op1 fun R F s v S r => by
  cases r.view
  obtain ⟨kvs, hd, q⟩ := S.dict hm
  refine call_meetsIn PySem.F.slot_dict_items hd.mapOf.typeIs PySem.F.entry_dict_items (PySem.F.args_dict_items_1 _) (meets_dict_items (strKind W.prog W.w) d (S.not_modules hm)) ⟨⟨kvs, hd⟩, ?_⟩
  have S' := S.alloc (t := s.toks) (d := s.drawn) (x := .raw (viewObj d)) (get?_size s.heap) S.size_le (fun b o e => Heap.get?_push_of_some _ e) (Heap.get?_push_size _ rfl) .raw
  exact Post.mk (.ref _) S' (h _ _ (S.free (get?_size _)).1 (mset_self _ _ _) fun b hb => mset_ne hb)
theorem entry_itemiter : entryFor table "dict_itemiterator.__iter__" = some Builtin.«dict_keyiterator.__iter__» := entryFor_alias (id' := "dict_keyiterator.__iter__") (by kernel_rfl) rfl (by decide +kernel) (by kernel_rfl)
theorem itr_items {elts : List PySem.Expr} {kk : Nat} {pos : Pos} {v d : Addr} {es : List (Str × V)} {ep : Nat} (hh : A.handled = none) (hv : mem v = some (.raw (viewObj d))) (hm : mem d = some (.dict es ep)) :
    Itr W A (.Tuple elts kk pos) (.ref v) mem mem (itemsItem d es.length ep) := by
  intro env outer loc R F₀ s x' E S r
  cases r.view
  obtain ⟨ov, hov, rv⟩ := S.memOk _ _ hv
  cases rv.view
  obtain ⟨o, ho, q⟩ := S.memOk _ _ hm
  cases q.view with
  | @dict ds kvs k qq =>
    obtain ⟨hR, S'⟩ := S.iterNew (o := itemIter d 0 kvs.length ep .none .none)
    refine wpAny_pyIter_items (knd := strKind W.prog W.w) (kvs := kvs) (ep := ep) ⟨_, hov, rfl, rfl⟩ (dictOf_ep k ho) ⟨ItSt s.heap.objs.size d kvs.length ep, _, ?_, ⟨hR, _, _, rfl⟩, S'⟩
    generalize s.heap.objs.size = it
    clear S' hR
    refine {
      next := ?_
      done := ?_
      self := ?_
      frame := ?_
      same := ?_
      off := ?_ }
    · rintro i env outer loc mem R₀ R F s v E ic ⟨hn, ok, ovv, rfl⟩ hi S
      obtain ⟨es', hx, hl, hi⟩ := itemsItem_some hi
      obtain ⟨o', ho', q'⟩ := S.memOk _ _ hx
      obtain ⟨oi, hoi, ri⟩ := S.rawAt (a := it) (mset_self _ _ _)
      cases ri.view
      cases q'.view with
      | @dict ds' kvs' k' qr =>
        have hlen : kvs.length = kvs'.length := by rw [qq.length, qr.length, hl]
        cases he : es'[i]? with
        | none => rw [he] at hi; cases hi
        | some e =>
          obtain ⟨ke, xe⟩ := e
          rw [he] at hi
          obtain rfl : V.tup [.str ke, xe] = v := by cases hi; rfl
          obtain ⟨u, hu, ru⟩ := qr.at he
          have dne : d ≠ it := fun z => by rw [z] at hx; have := S.dis _ _ hx; rw [mset_self] at this; cases this
          refine wpAny_pyNext_items_item (knd := strKind W.prog W.w) (kvs := kvs') (ok := ok) (ov := ovv) (by rw [← hlen]; exact hoi) (dictOf_ep k' ho') hu fun key h' hkey hit htup hsz hk => ?_
          obtain ⟨t, rfl⟩ := Value.isStrOf_shape hkey
          refine ⟨_, rfl, ?_⟩
          refine wpAny_letOwnedTupleGo_items hit fun h2 hen hsb => ?_
          have z := S.z.free_of_none (get?_size s.heap)
          have sz1 : s.heap.objs.size ≠ it := fun z => by have := Heap.lt_size hoi; rw [← z] at this; exact Nat.lt_irrefl _ this
          have S1 := S.updR (t := s.toks) (d := s.drawn) (h' := h2) (x' := .raw (itemIter d (i + 1) kvs.length ep (.str ke t) u)) (fun b ob hb e => (hsb.2 b hb).trans (hk b ob hb e)) (by rw [hlen]; exact hen) .raw
          have hTup : h2.get? s.heap.objs.size = some { cls := .type "tuple", data := .seq #[.str ke t, u] } := (hsb.2 _ sz1).trans htup
          have S2 := S1.adopt (a := s.heap.objs.size) (by
            obtain ⟨c1, c2⟩ := mun_none z.1
            rw [mun_r c1]
            rw [mset_ne sz1] at c2 ⊢
            exact c2) z.2.1 z.2.2.1 z.2.2.2 hTup
          exact ⟨_, _, Incl.fadd _ _ _, .tup (.inr ⟨rfl, rfl⟩) (.cons (.str _ _) (.cons (ru.mono (Incl.fadd _ _ _)) .nil)), ⟨hn, _, _, rfl⟩, S2⟩
    · rintro i env outer loc mem R₀ R F s E ic ⟨hn, ok, ovv, rfl⟩ hi S
      obtain ⟨es', hx, hl, hi⟩ := itemsItem_some hi
      obtain ⟨o', ho', q'⟩ := S.memOk _ _ hx
      obtain ⟨oi, hoi, ri⟩ := S.rawAt (a := it) (mset_self _ _ _)
      cases ri.view
      cases q'.view with
      | @dict ds' kvs' k' qr =>
        have hlen : kvs.length = kvs'.length := by rw [qq.length, qr.length, hl]
        have he : es'[i]? = none := by
          cases he : es'[i]? with
          | none => rfl
          | some e => rw [he] at hi; cases hi
        refine wpAny_pyNext_items_end (knd := strKind W.prog W.w) (kvs := kvs') hh (by rw [← hlen]; exact hoi) (dictOf_ep k' ho') (qr.atN he) fun h' eb => ⟨rfl, S.endR (t := s.toks) (d := s.drawn) hn fun b ob hb e => eb b ob hb e⟩
    · rintro i env outer loc mem R₀ R F s E Q ⟨hn, ok, ovv, rfl⟩ S h
      obtain ⟨oi, hoi, ri⟩ := S.rawAt (a := it) (mset_self _ _ _)
      cases ri.view
      have hT : s.TypeIs (.ref it) "dict_itemiterator" := ⟨_, hoi, rfl⟩
      refine wpAny_pyIter_slot hT PySem.F.slot_dict_itemiterator_iter (wpAny_call_entry PySem.F.slot_dict_itemiterator_iter hT entry_itemiter ?_ (PySem.F.args_dict_itemiterator_iter_1 _))
      show wpAny _ _ (ret (.ref it)) _ _ s
      exact wpAny_pure ⟨_, rfl, "dict_itemiterator", _, hT, PySem.F.slot_dict_itemiterator_next.lookup, h⟩
    · rintro i R₀ R D x ⟨hn, ok, ovv, rfl⟩ e
      have hD : D ≠ it := fun q => by rw [q, mset_self, hn] at e; cases e
      exact ⟨by rw [mset_ne (Ne.symm hD)]; exact hn, ok, ovv, mset_comm (Ne.symm hD) _ _⟩
    · rintro i R₀ R D ⟨hn, ok, ovv, rfl⟩ h
      exact mset_ne fun q => h (q ▸ hn)
    · rintro i env outer loc mem R₀ R F s ⟨hn, ok, ovv, rfl⟩ S
      exact S.offR hn
end
end Mine
end
section
set_option autoImplicit false
namespace Mine
structure Rd (adr : Rl → Addr) (g : GR) (m : Mem) : Prop where
  self : m (adr .self) = some (.inst aGrammar (adr .dict))
  dict : ∃ ep, m (adr .dict) = some (.dict (gAttrs adr g.up g.start) ep)
  pl : m (adr .pl) = some (.list (g.p0 :: g.prods.map (pV aProd)))
  pn : ∃ ep, m (adr .pn) = some (.dict (g.pn.map fun k => (k, .ref (adr (.pnL k)))) ep)
  pnL : ∀ k ∈ g.pn, m (adr (.pnL k)) = some (.list ((g.prods.filter fun p => p.name = k).map (pV aProd)))
  te : ∃ ep, m (adr .te) = some (.dict (g.te.map fun q => (q.1, .ref (adr (.teL q.1)))) ep)
  teL : ∀ k ns, g.te.lookup k = some ns → m (adr (.teL k)) = some (.list (vInts ns))
  no : ∃ ep, m (adr .no) = some (.dict (g.no.map fun q => (q.1, .ref (adr (.noL q.1)))) ep)
  noL : ∀ k ns, g.no.lookup k = some ns → m (adr (.noL k)) = some (.list (vInts ns))
theorem Rd.mono {adr : Rl → Addr} {g : GR} {m m' : Mem} (r : Rd adr g m) (s : Sub m m') : Rd adr g m' where
  self := s _ _ r.self
  dict := let ⟨ep, h⟩ := r.dict; ⟨ep, s _ _ h⟩
  pl := s _ _ r.pl
  pn := let ⟨ep, h⟩ := r.pn; ⟨ep, s _ _ h⟩
  pnL k hk := s _ _ (r.pnL k hk)
  te := let ⟨ep, h⟩ := r.te; ⟨ep, s _ _ h⟩
  teL k ns e := s _ _ (r.teL k ns e)
  no := let ⟨ep, h⟩ := r.no; ⟨ep, s _ _ h⟩
  noL k ns e := s _ _ (r.noL k ns e)
theorem GOk.rd {adr : Rl → Addr} {cc : Rl → Option AObj} {g : GR} {m : Mem} (M : MemIs adr cc m) (ok : GOk aGrammar aProd adr cc g) : Rd adr g m where
  self := M.get ok.self
  dict := let ⟨ep, h⟩ := ok.dict; ⟨ep, M.get h⟩
  pl := M.get ok.pl
  pn := let ⟨ep, h⟩ := ok.pn; ⟨ep, M.get h⟩
  pnL k hk := M.get (by rw [ok.pnL, if_pos hk])
  te := let ⟨ep, h⟩ := ok.te; ⟨ep, M.get h⟩
  teL k ns e := M.get (by rw [ok.teL, e]; rfl)
  no := let ⟨ep, h⟩ := ok.no; ⟨ep, M.get h⟩
  noL k ns e := M.get (by rw [ok.noL, e]; rfl)
section
variable {W : Wd} {A : Around} {env : Env} {outer : Outs} {loc : Loc} {mem : Mem} {E : Ex W} {adr : Rl → Addr} {g : GR}
theorem lookup_at {β : Type} {l : List (Str × β)} (hn : (l.map (·.1)).Nodup) {q : Str × β} (h : q ∈ l) : l.lookup q.1 = some q.2 := by
  induction l with
  | nil => cases h
  | cons a l ih =>
    obtain ⟨k, x⟩ := a
    rw [List.map_cons, List.nodup_cons] at hn
    rw [List.lookup_cons]
    rcases List.mem_cons.mp h with rfl | h
    · simp
    · have : q.1 ≠ k := fun e => hn.1 (e ▸ List.mem_map.mpr ⟨q, h, rfl⟩)
      have e : (q.1 == k) = false := by simpa using this
      rw [e]; exact ih hn.2 h
noncomputable def idleF (l : List (Str × List Int)) : List Str := (l.filter fun q => decide (q.1 ≠ ("error" : Str)) && q.2.isEmpty).map (·.1)
noncomputable abbrev idleOf (g : GR) : List Str := idleF g.te
theorem idleF_snoc (l : List (Str × List Int)) (y : Str × List Int) : idleF (l ++ [y]) = idleF l ++ (if decide (y.1 ≠ ("error" : Str)) && y.2.isEmpty then [y.1] else []) := by
  unfold idleF
  rw [List.filter_append, List.map_append, List.filter_cons]
  split <;> rfl
theorem idleF_len (l : List (Str × List Int)) : (idleF l).length ≤ l.length := by unfold idleF; rw [List.length_map]; exact List.length_filter_le _ _
inductive J4a (mem : Mem) (adr : Rl → Addr) (ul : Addr) (te : List (Str × List Int)) (i : Nat) (l : Loc) (m : Mem) : Prop
  | mk (h1_ : LSub [("self", .ref (adr .self)), ("unused_tok", .ref ul)] l) (h2_ : Sub mem m) (h3_ : m ul = some (.list (vStrs (idleF (te.take i)))))
theorem idle_spec {Q : V → Loc → Mem → Prop} (hK : W.K = hdK W.w.params) (c : Calm A 600 5000) (r : Rd adr g mem) (hn : (g.te.map (·.1)).Nodup) (hz : g.te.length ≤ 100) (hz2 : ∀ q ∈ g.te, q.2.length ≤ 1000)
    (h : Q (.lst (vStrs (idleOf g))) loc mem) : OpV W A env outer (fun vs => call (.ref 200) vs) [.ref (adr .self)] loc mem Q E := by
  refine call_fn (bs := [("self", .ref (adr .self))]) (by rw [hK]; exact gIdle.at _) (by rw [hK]; first | rfl | kernel_rfl | decide +kernel) (c.room (by decide)) ?_ (by intro y hy; simp at hy; rcases hy with rfl; rfl) (by decide) rfl rfl rfl ?_
  · intro F s vs hb hk r
    cases r.view with
    | cons r1 r2 =>
      cases r2.view
      exact ⟨_, BindsTo.of_eq rfl, .cons r1 .nil⟩
  · intro L outer
    have cd := c.deeper (envX "Grammar.unused_terminals" gIdle.scope L 200 gIdle.code [])
    obtain ⟨epd, hd⟩ := r.dict
    obtain ⟨ept, ht⟩ := r.te
    have hx := r.self
    (refine nameS ?_; intro aa vv oo qq ee; refine s_cons ?_); refine s_assign rfl ?_; refine e_list ?_; refine a_nil ?_
    refine new_own' (show 0 ≤ sizeLine by decide) (fun ul m1 hul h1 f1 => ?_)
    have s1 : Sub mem m1 := Sub.new (sub_refl _) hul f1
    refine st_local rfl rfl ?_; refine s_cons ?_; refine s_for (fun _ => rfl) ?_; refine c_meth rfl ?_; refine e_attr rfl ?_; refine e_local rfl rfl rfl rfl ?_
    have hx1 := s1 _ _ hx
    have hd1 := s1 _ _ hd
    have ht1 := s1 _ _ ht
    refine get_o hK (fun _ => by kernel_rfl) (.own hx1 hd1) rfl rfl ?_
    skip
    refine m_builtin0 (.dict ht1) PySem.F.plainAttrs_dict PySem.F.slot_dict_items (by show builtinType _ = _; rw [builtinType_eq_fast]; kernel_rfl) ?_
    refine dict_items ht1 (fun v m2 hv h2 f2 => ?_)
    have s2 : Sub mem m2 := Sub.new s1 hv f2
    have h1 : m2 ul = _ := (f2 _ (nex h1 hv)).trans h1
    refine for_map (ys := g.te) (fun _ q => .tup [.str q.1, .ref (adr (.teL q.1))]) (itr_items cd.handled h2 (s2 _ _ ht)) (J4a mem adr ul g.te) (fun i l m hi J => ?_) (fun l m J => ?_) (fun i y l m hy J => ?_) ⟨rfl, s2, h1⟩
    · obtain ⟨_, s, _⟩ := J
      rw [itemsItem_eq (s _ _ ht) rfl, List.getElem?_map, Option.map_map]; rfl
    · obtain ⟨hl, s, hu⟩ := J
      rw [List.take_length] at hu
      refine Tr.locs hl ?_
      refine s_nil ?_
      refine s_cons ?_
      refine s_ret (Tr.shift ?_)
      refine e_local rfl rfl rfl rfl ?_
      exact ⟨_, mem, Shift.lst hu s hul, mem, sub_refl _, h⟩
    · obtain ⟨hl, s, hu⟩ := J
      have hm : y ∈ g.te := List.mem_of_getElem? hy
      refine Op.locs hl ?_
      have hlist := s _ _ (r.teL _ _ (lookup_at hn hm))
      have hlen : (vStrs (idleF (g.te.take i))).length ≤ 100 := by
        rw [vStrs_len]; have := idleF_len (g.te.take i); rw [List.length_take] at this; omega
      have hst : idleF (g.te.take (i + 1)) = _ := (congrArg idleF (take_snoc hy)).trans (idleF_snoc _ _)
      refine   asg_tuple     (by       first       | assumption       | exact Calm.handled (by assumption))     rfl rfl ?_; refine asg_name ?_; refine st_local rfl rfl ?_; refine asg_name ?_; refine st_local rfl rfl ?_; (refine nameQ ?_; intro qq ee; refine s_cons ?_); refine s_if ?_; refine b_bool ?_; refine b_and_cons ?_; refine b_cmp rfl ?_; refine e_local rfl rfl rfl rfl ?_; refine e_str ?_; refine ne_ss ?_; refine tr_bool ?_
      refine ⟨fun hb => ?_, fun hb => only_f ?_⟩
      · have hne : y.1 ≠ ("error" : Str) := fun e => by rw [e] at hb; simp at hb
        refine b_and_cons ?_; refine b_not ?_; refine b_value rfl ?_; refine e_local rfl rfl rfl rfl ?_
        refine tr_list (.own hlist) (by unfold vInts; rw [List.length_map]; have := hz2 _ hm; omega) ?_
        skip
        refine ⟨fun hb2 => ?_, fun hb2 => ?_⟩
        · refine b_and_nil ?_
          refine only_t ?_
          (refine nameQ ?_; intro qq ee; refine s_cons ?_); refine s_expr rfl rfl ?_; refine c_meth rfl ?_; refine e_local rfl rfl rfl rfl ?_
          refine m_builtin (.list hu) PySem.F.plainAttrs_list PySem.F.slot_list_append PySem.F.type_list_append rfl rfl ?_
          refine a_cons rfl ?_; refine e_local rfl rfl rfl rfl ?_; refine a_nil ?_
          refine append_own' hu (Nat.le_trans hlen (by decide)) (fun m3 h3 f3 => ?_)
          refine s_nil ?_; refine s_nil ?_
          refine ⟨rfl, Sub.upd s hul f3, ?_⟩
          have e2 : y.2.isEmpty = true := by unfold vInts at hb2; simpa using hb2
          rw [hst, if_pos (by rw [e2, decide_eq_true hne]; rfl), vStrs, List.map_append]; exact h3
        · refine only_f ?_
          refine s_nil ?_; refine s_nil ?_
          refine ⟨rfl, s, ?_⟩
          have e2 : y.2.isEmpty = false := by unfold vInts at hb2; simpa using hb2
          rw [hst, if_neg (by rw [e2, Bool.and_false]; exact Bool.false_ne_true), List.append_nil]; exact hu
      · have hne : y.1 = ("error" : Str) := by simpa using hb
        refine s_nil ?_; refine s_nil ?_
        refine ⟨rfl, s, ?_⟩
        rw [hst, if_neg (by rw [decide_eq_false (fun z => z hne)]; intro q; cases q), List.append_nil]; exact hu
end
end Mine
end
section
set_option autoImplicit false
namespace Mine
theorem getA_keys {l : List Str} (f : Str → V) (k : Str) : getA (l.map fun k => (k, f k)) k = if k ∈ l then some (f k) else none := by
  induction l with
  | nil => rfl
  | cons a l ih =>
    unfold getA at ih ⊢
    rw [List.map_cons, List.find?_cons]
    by_cases h : a = k
    · subst h; simp
    · have e2 : decide (a = k) = false := decide_eq_false h
      simp only [e2]
      rw [ih]
      simp [Ne.symm h]
section
variable {W : Wd} {A : Around} {env : Env} {outer : Outs} {loc : Loc} {mem : Mem} {E : Ex W} {adr : Rl → Addr} {g : GR}
noncomputable def aloneF (g : GR) (l : List (Str × List Int)) : List Pr := l.filterMap fun q => if q.2.isEmpty then g.prods.find? (fun p => p.name = q.1) else none
inductive J4b (mem : Mem) (adr : Rl → Addr) (ul : Addr) (g : GR) (i : Nat) (l : Loc) (m : Mem) : Prop
  | mk (h1_ : LSub [("self", .ref (adr .self)), ("unused_prod", .ref ul)] l) (h2_ : Sub mem m) (h3_ : m ul = some (.list ((aloneF g (g.no.take i)).map (pV aProd))))
theorem alone_spec {Q : V → Loc → Mem → Prop} (hK : W.K = hdK W.w.params) (c : Calm A 600 5000) (r : Rd adr g mem) (hn : (g.no.map (·.1)).Nodup) (hz : g.no.length ≤ 100) (hz2 : ∀ q ∈ g.no, q.2.length ≤ 100000)
    (hp : ∀ q ∈ g.no, q.2 = [] → q.1 ∈ g.pn ∧ ∃ p ∈ g.prods, p.name = q.1)
    (h : Q (.lst ((aloneF g g.no).map (pV aProd))) loc mem) : OpV W A env outer (fun vs => call (.ref 207) vs) [.ref (adr .self)] loc mem Q E := by
  refine call_fn (bs := [("self", .ref (adr .self))]) (by rw [hK]; exact gAlone.at _) (by rw [hK]; first | rfl | kernel_rfl | decide +kernel) (c.room (by decide)) ?_ (by intro y hy; simp at hy; rcases hy with rfl; rfl) (by decide) rfl rfl rfl ?_
  · intro F s vs hb hk r
    cases r.view with
    | cons r1 r2 =>
      cases r2.view
      exact ⟨_, BindsTo.of_eq rfl, .cons r1 .nil⟩
  · intro L outer
    have cd := c.deeper (envX "Grammar.unused_rules" gAlone.scope L 207 gAlone.code [])
    obtain ⟨epd, hd⟩ := r.dict
    obtain ⟨ept, ht⟩ := r.no
    obtain ⟨epn, hpn⟩ := r.pn
    have hx := r.self
    (refine nameS ?_; intro aa vv oo qq ee; refine s_cons ?_); refine s_assign rfl ?_; refine e_list ?_; refine a_nil ?_
    refine new_own' (show 0 ≤ sizeLine by decide) (fun ul m1 hul h1 f1 => ?_)
    have s1 : Sub mem m1 := Sub.new (sub_refl _) hul f1
    refine st_local rfl rfl ?_; refine s_cons ?_; refine s_for (fun _ => rfl) ?_; refine c_meth rfl ?_; refine e_attr rfl ?_; refine e_local rfl rfl rfl rfl ?_
    have hx1 := s1 _ _ hx
    have hd1 := s1 _ _ hd
    have ht1 := s1 _ _ ht
    refine get_o hK (fun _ => by kernel_rfl) (.own hx1 hd1) rfl rfl ?_
    skip
    refine m_builtin0 (.dict ht1) PySem.F.plainAttrs_dict PySem.F.slot_dict_items (by show builtinType _ = _; rw [builtinType_eq_fast]; kernel_rfl) ?_
    refine dict_items ht1 (fun v m2 hv h2 f2 => ?_)
    have s2 : Sub mem m2 := Sub.new s1 hv f2
    have h1 : m2 ul = _ := (f2 _ (nex h1 hv)).trans h1
    refine for_map (ys := g.no) (fun _ q => .tup [.str q.1, .ref (adr (.noL q.1))]) (itr_items cd.handled h2 (s2 _ _ ht)) (J4b mem adr ul g) (fun i l m hi J => ?_) (fun l m J => ?_) (fun i y l m hy J => ?_) ⟨rfl, s2, h1⟩
    · obtain ⟨_, s, _⟩ := J
      rw [itemsItem_eq (s _ _ ht) rfl, List.getElem?_map, Option.map_map]; rfl
    · obtain ⟨hl, s, hu⟩ := J
      rw [List.take_length] at hu
      refine Tr.locs hl ?_
      refine s_nil ?_
      refine s_cons ?_
      refine s_ret (Tr.shift ?_)
      refine e_local rfl rfl rfl rfl ?_
      exact ⟨_, mem, Shift.lst hu s hul, mem, sub_refl _, h⟩
    · obtain ⟨hl, s, hu⟩ := J
      have hm : y ∈ g.no := List.mem_of_getElem? hy
      refine Op.locs hl ?_
      have hlist := s _ _ (r.noL _ _ (lookup_at hn hm))
      have hlen : ((aloneF g (g.no.take i)).map (pV aProd)).length ≤ 100 := by
        rw [List.length_map]
        have := List.length_filterMap_le (fun q : Str × List Int => if q.2.isEmpty then g.prods.find? (fun p => p.name = q.1) else none) (g.no.take i)
        rw [List.length_take] at this; unfold aloneF; omega
      have hst : aloneF g (g.no.take (i + 1)) = aloneF g (g.no.take i) ++ aloneF g [y] := by rw [take_snoc hy]; exact List.filterMap_append
      refine   asg_tuple     (by       first       | assumption       | exact Calm.handled (by assumption))     rfl rfl ?_; refine asg_name ?_; refine st_local rfl rfl ?_; refine asg_name ?_; refine st_local rfl rfl ?_; (refine nameQ ?_; intro qq ee; refine s_cons ?_); refine s_if ?_; refine b_not ?_; refine b_value rfl ?_; refine e_local rfl rfl rfl rfl ?_
      refine tr_list (.own hlist) (by unfold vInts; rw [List.length_map]; have := hz2 _ hm; omega) ?_
      skip
      refine ⟨fun hb2 => ?_, fun hb2 => ?_⟩
      · have e2 : y.2 = [] := by unfold vInts at hb2; simpa using hb2
        obtain ⟨hp1, p1, hp2, hp3⟩ := hp _ hm e2
        obtain ⟨p, hf⟩ : ∃ p, g.prods.find? (fun p => p.name = y.1) = some p := by
          cases q : g.prods.find? (fun p => decide (p.name = y.1)) with
          | some p => exact ⟨p, rfl⟩
          | none => rw [List.find?_eq_none] at q; exact absurd (decide_eq_true hp3) (q _ hp2)
        have hx3 := s _ _ hx
        have hd3 := s _ _ hd
        have hq3 := s _ _ hpn
        (refine nameQ ?_; intro qq ee; refine s_cons ?_); refine s_assign rfl ?_; refine e_sub (fun _ _ => rfl) ?_; refine e_sub (fun _ _ => rfl) ?_; refine e_attr rfl ?_; refine e_local rfl rfl rfl rfl ?_
        refine get_o hK (fun _ => by kernel_rfl) (.own hx3 hd3) rfl rfl ?_
        refine e_local rfl rfl rfl rfl ?_
        refine sub_dict (x := .ref (adr (.pnL y.1))) hq3 (by rw [getA_keys (fun k => V.ref (adr (.pnL k))), if_pos hp1]) ?_
        refine e_int ?_
        refine sub_sq (k := 0) (x := pV aProd p) (.own (s _ _ (r.pnL _ hp1))) (by decide) (by decide) (by
          show (List.map _ _)[0]? = _
          rw [List.getElem?_map, ← List.head?_eq_getElem?, List.head?_filter, hf]; rfl) ?_
        refine st_local rfl rfl ?_; refine s_cons ?_; refine s_expr rfl rfl ?_; refine c_meth rfl ?_; refine e_local rfl rfl rfl rfl ?_
        refine m_builtin (.list hu) PySem.F.plainAttrs_list PySem.F.slot_list_append PySem.F.type_list_append rfl rfl ?_
        refine a_cons rfl ?_; refine e_local rfl rfl rfl rfl ?_; refine a_nil ?_
        refine append_own' hu (Nat.le_trans hlen (by decide)) (fun m3 h3 f3 => ?_)
        refine s_nil ?_; refine s_nil ?_
        refine ⟨rfl, Sub.upd s hul f3, ?_⟩
        rw [hst, h3, List.map_append]
        unfold aloneF
        rw [List.filterMap_cons, if_pos (by rw [e2]; rfl), hf]; rfl
      · refine s_nil ?_; refine s_nil ?_
        refine ⟨rfl, s, ?_⟩
        have e2 : y.2.isEmpty = false := by unfold vInts at hb2; simpa using hb2
        rw [hst, hu]
        have : aloneF g [y] = [] := by unfold aloneF; rw [List.filterMap_cons, if_neg (by rw [e2]; exact Bool.false_ne_true)]; rfl
        rw [this, List.append_nil]
end
end Mine
end
section
set_option autoImplicit false
namespace Mine
section
variable {W : Wd} {A : Around} {env : Env} {outer : Outs} {loc : Loc} {mem R : Mem} {E : Ex W} {F : Frz} {s : Shared}
theorem tr_len {v : V} {C f : Addr} {es : List (Str × V)} {Q : Bool → Loc → Mem → Prop} (I : Inst W mem v C es) (hb : findIn W.K (.ref C) "__bool__" = some none) (hs : findIn W.K (.ref C) "__len__" = some (some (.ref f))) (hf : isFn W.K (.ref f) = true)
    (h : OpV W A.in1 env outer (fun vs => call (.ref f) vs) [v] loc mem (fun r l m => ∃ n : Int, r = .int n ∧ 0 ≤ n ∧ n < 2 ^ 63 ∧ Q (n != 0) l m) E) :
    OpB W A env outer (fun | [x] => truthy x | _ => pure false) [v] loc mem Q E := op1 fun R F s v' S r => by
  obtain ⟨x, d, od, kvs, rfl, J, hd, rp⟩ := I.at S r
  have X := S.kin
  show wpAny _ A (truthy (.ref x)) _ _ _
  unfold truthy
  refine wpAny_bind (m := callSpecial? (.ref x) (Str.ofString "__bool__")) (wpAny_bind (wpAny_bind (J.type.here ((looks_findIn X hb).here (wpAny_pure ?_)))))
  refine wpAny_bind (wpAny_bind (J.type.here ((looks_findIn X hs).here ?_)))
  refine wpAny_bind (wpAny_mono (wpAny_runValue (Q := fun r s' => ∃ n t, r = .int n t ∧ Post W env outer (fun _ (b c : Bool) => c = b) R F Q (n != 0) s') (codeAny_builtin entry_len ?_)) (fun r s' hr => ?_) fun _ _ e => e)
  · rw [Around.under_plainId plain_len _]
    unfold Builtin.«len»
    refine wpAny_bind (m := oneArg "len" _) (wpAny_pure ?_)
    refine wpAny_bind (m := callSpecial? (.ref x) (Str.ofString "__len__")) (special_fn X J hs (beq_iff_eq.mp hf) (wpAny_mono (h R F s [_] S (.cons r .nil)) (fun r s' hr => ?_) fun _ _ y => y))
    obtain ⟨F', y, l, m, i, ry, S', n, rfl, h0, h1, q⟩ := hr
    cases ry.view
    refine wpAny_bind (wpAny_holding (wpAny_pure ?_))
    refine wpAny_bind (wpAny_letGo ?_)
    show wpAny _ _ (if n < 0 then _ else _) _ _ _
    rw [if_neg (by omega)]
    show wpAny _ _ (if n ≥ 2 ^ 63 then _ else _) _ _ _
    rw [if_neg (by omega)]
    refine wpAny_bind (wpAny_mkInt (wpAny_pure ?_))
    exact ⟨n, _, rfl, F', _, l, m, i, rfl, S'.tick, q⟩
  · obtain ⟨n, t, rfl, p⟩ := hr
    exact wpAny_pure p
theorem Calm.in1 {d u : Nat} (c : Calm A d u) : Calm A.in1 (d + 1) (u + 1) := by
  obtain ⟨a, b, c, e⟩ := c
  constructor
  · exact a
  · exact b
  · show A.in1.depth ≤ d + 1
    simp [Around.in1]; omega
  · show A.in1.units ≤ u + 1
    simp [Around.in1]; omega
end
end Mine
end
section
set_option autoImplicit false
namespace Mine
noncomputable def pLen.body : List Stmt := stBody (stAt (stBody (stAt pw.main.body 6)) 5)
noncomputable def pLen.scope : Scope := stScope (stAt (stBody (stAt pw.main.body 6)) 5)
noncomputable def pLen.params : Arguments := stArgs (stAt (stBody (stAt pw.main.body 6)) 5)
noncomputable def pLen.code : Value := (Value.ref 82)
theorem pLen.at (P : Params) : List.lookup 83 (lawHeap P) = some (Obj.mk (Value.type "function") none (Data.func (fnOf (Str.ofString "__len__") (Str.ofString "Production.__len__") pLen.params pLen.body pLen.scope (Value.none) (Value.none) (Value.none) (Value.str (Str.ofString "ply.yacc") 194) (none) pLen.code (Value.none))) #[]) := by kernel_rfl
section
variable {W : Wd} {A : Around} {env : Env} {outer : Outs} {loc : Loc} {mem : Mem} {E : Ex W} {adr : Rl → Addr} {g : GR}
noncomputable def oPr : Option Pr → V
  | none => .none
  | some p => pV aProd p
theorem tr_pr {p : Pr} {Q : Bool → Loc → Mem → Prop} (hK : W.K = hdK W.w.params) (c : Calm A 700 6000) (hz : p.body.length ≤ 1000) (h : Q (!p.body.isEmpty) loc mem) :
    OpB W A env outer (fun | [x] => truthy x | _ => pure false) [pV aProd p] loc mem Q E := by
  refine tr_len (C := aProd) (f := 83) .frz (by rw [hK]; first | rfl | kernel_rfl | decide +kernel) (by rw [hK]; first | rfl | kernel_rfl | decide +kernel) (by rw [hK]; first | rfl | kernel_rfl | decide +kernel) ?_
  refine call_fn (bs := [("self", pV aProd p)]) (by rw [hK]; exact pLen.at _) (by rw [hK]; first | rfl | kernel_rfl | decide +kernel) (c.in1.room (by decide)) ?_ (by intro y hy; simp at hy; rcases hy with rfl; rfl) (by decide) rfl rfl rfl ?_
  · intro F s vs hb hk r
    cases r.view with
    | cons r1 r2 =>
      cases r2.view
      exact ⟨_, BindsTo.of_eq rfl, .cons r1 .nil⟩
  · intro L outer
    have cd := c.in1.deeper (envX "Production.__len__" pLen.scope L 83 pLen.code [])
    (refine nameS ?_; intro aa vv oo qq ee; refine s_cons ?_); refine s_ret ?_; refine c_name rfl ?_; refine e_boot rfl rfl rfl rfl rfl (by rw [hK]; rfl) rfl (by decide) ?_; refine c_builtin rfl rfl ?_; refine a_cons rfl ?_; refine e_attr rfl ?_; refine e_local rfl rfl rfl rfl ?_
    refine get_o hK (fun _ => by kernel_rfl) .frz rfl rfl ?_
    refine a_nil ?_
    refine len_sq (.tup _) (by rw [vStrs_len]; omega) ?_
    skip
    refine ⟨_, sub_refl _, _, rfl, Int.natCast_nonneg _, by rw [vStrs_len]; omega, ?_⟩
    rw [vStrs_len]
    have : (((p.body.length : Nat) : Int) != 0) = !p.body.isEmpty := by cases p.body <;> simp; omega
    rw [this]; exact h
noncomputable def undS (g : GR) (s : Str) : Bool := !decide (s ∈ g.pn) && (!decide (s ∈ g.te.map (·.1)) && !decide (s = ("error" : Str)))
noncomputable def undP (g : GR) (p : Pr) (b : List Str) : List V := (b.filter (undS g)).map fun s => .tup [.str s, pV aProd p]
noncomputable def undO (g : GR) : Option Pr → List V
  | none => []
  | some p => undP g p p.body
noncomputable def undF (g : GR) (l : List (Option Pr)) : List V := l.flatMap (undO g)
theorem undP_snoc (p : Pr) (b : List Str) (s : Str) : undP g p (b ++ [s]) = undP g p b ++ (if undS g s then [.tup [.str s, pV aProd p]] else []) := by
  unfold undP
  rw [List.filter_append, List.map_append, List.filter_cons]
  split <;> rfl
theorem undP_len (p : Pr) (b : List Str) : (undP g p b).length ≤ b.length := by unfold undP; rw [List.length_map]; exact List.length_filter_le _ _
theorem undF_len (l : List (Option Pr)) (h : ∀ p, some p ∈ l → p.body.length ≤ 20) : (undF g l).length ≤ 20 * l.length := by
  induction l with
  | nil => exact Nat.le_refl _
  | cons o l ih =>
    have := ih fun p hp => h p (.tail _ hp)
    unfold undF at this ⊢
    rw [List.flatMap_cons, List.length_append, List.length_cons]
    have h1 : (undO g o).length ≤ 20 := by
      cases o with
      | none => exact Nat.zero_le _
      | some p => exact Nat.le_trans (undP_len p p.body) (h p (.head _))
    omega
inductive J4c (mem : Mem) (adr : Rl → Addr) (ul : Addr) (g : GR) (os : List (Option Pr)) (i : Nat) (l : Loc) (m : Mem) : Prop
  | mk (h1_ : LSub [("self", .ref (adr .self)), ("result", .ref ul)] l) (h2_ : Sub mem m) (h3_ : m ul = some (.list (undF g (os.take i))))
inductive J4d (mem : Mem) (adr : Rl → Addr) (ul : Addr) (g : GR) (acc : List V) (p : Pr) (i : Nat) (l : Loc) (m : Mem) : Prop
  | mk (h1_ : LSub [("self", .ref (adr .self)), ("result", .ref ul), ("p", pV aProd p)] l) (h2_ : Sub mem m) (h3_ : m ul = some (.list (acc ++ undP g p (p.body.take i))))
theorem undef_spec {os : List (Option Pr)} {Q : V → Loc → Mem → Prop} (hK : W.K = hdK W.w.params) (c : Calm A 600 5000) (r : Rd adr g mem) (ho : g.p0 :: g.prods.map (pV aProd) = os.map oPr) (hz : os.length ≤ 100) (hz2 : ∀ p, some p ∈ os → p.body.length ≤ 20)
    (h : Q (.lst (undF g os)) loc mem) : OpV W A env outer (fun vs => call (.ref 193) vs) [.ref (adr .self)] loc mem Q E := by
  refine call_fn (bs := [("self", .ref (adr .self))]) (by rw [hK]; exact gUndef.at _) (by rw [hK]; first | rfl | kernel_rfl | decide +kernel) (c.room (by decide)) ?_ (by intro y hy; simp at hy; rcases hy with rfl; rfl) (by decide) rfl rfl rfl ?_
  · intro F s vs hb hk r
    cases r.view with
    | cons r1 r2 =>
      cases r2.view
      exact ⟨_, BindsTo.of_eq rfl, .cons r1 .nil⟩
  · intro L outer
    have cd := c.deeper (envX "Grammar.undefined_symbols" gUndef.scope L 193 gUndef.code [])
    obtain ⟨epd, hd⟩ := r.dict
    have ht := r.pl
    rw [ho] at ht
    obtain ⟨epn, hpn⟩ := r.pn
    obtain ⟨ept, hte⟩ := r.te
    have hx := r.self
    (refine nameS ?_; intro aa vv oo qq ee; refine s_cons ?_); refine s_assign rfl ?_; refine e_list ?_; refine a_nil ?_
    refine new_own' (show 0 ≤ sizeLine by decide) (fun ul m1 hul h1 f1 => ?_)
    have s1 : Sub mem m1 := Sub.new (sub_refl _) hul f1
    refine st_local rfl rfl ?_; refine s_cons ?_; refine s_for (fun _ => rfl) ?_; refine e_attr rfl ?_; refine e_local rfl rfl rfl rfl ?_
    have hx1 := s1 _ _ hx
    have hd1 := s1 _ _ hd
    have ht1 := s1 _ _ ht
    refine get_o hK (fun _ => by kernel_rfl) (.own hx1 hd1) rfl rfl ?_
    skip
    refine for_map (ys := os) (fun _ => oPr) (itr_own cd.handled ht1) (J4c mem adr ul g os) (fun i l m hi J => ?_) (fun l m J => ?_) (fun i y l m hy J => ?_) ⟨rfl, s1, h1⟩
    · obtain ⟨_, s, _⟩ := J
      exact ownItem_map (s _ _ ht)
    · obtain ⟨hl, s, hu⟩ := J
      rw [List.take_length] at hu
      refine Tr.locs hl ?_
      refine s_nil ?_
      refine s_cons ?_
      refine s_ret (Tr.shift ?_)
      refine e_local rfl rfl rfl rfl ?_
      exact ⟨_, mem, Shift.lst hu s hul, mem, sub_refl _, h⟩
    · obtain ⟨hl, s, hu⟩ := J
      have hm : y ∈ os := List.mem_of_getElem? hy
      have hilt : i < os.length := (List.getElem?_eq_some_iff.mp hy).1
      have hlen : (undF g (os.take i)).length ≤ 2000 := by
        have := undF_len (g := g) (os.take i) fun p hp => hz2 p (List.mem_of_mem_take hp)
        rw [List.length_take] at this; omega
      have hst : undF g (os.take (i + 1)) = undF g (os.take i) ++ undO g y := by rw [take_snoc hy]; unfold undF; rw [List.flatMap_append, List.flatMap_singleton]
      refine Op.locs hl ?_
      refine asg_name ?_; refine st_local rfl rfl ?_; (refine nameQ ?_; intro qq ee; refine s_cons ?_); refine s_if ?_; refine b_not ?_; refine b_value rfl ?_; refine e_local rfl rfl rfl rfl ?_
      cases y with
      | none =>
        refine tr_none ?_
        refine only_t ?_
        (refine nameQ ?_; intro qq ee; refine s_cons ?_); refine s_continue ?_
        refine ⟨rfl, s, ?_⟩
        rw [hst, hu]; exact congrArg (fun x => some (AObj.list x)) (List.append_nil _).symm
      | some p =>
        have hpz := hz2 p hm
        refine tr_pr hK (cd.mono (by decide) (by decide)) (by omega) ?_
        skip
        refine ⟨fun hb => ?_, fun hb => ?_⟩
        · have hb : p.body = [] := by cases e : p.body with | nil => rfl | cons _ _ => rw [e] at hb; cases hb
          (refine nameQ ?_; intro qq ee; refine s_cons ?_); refine s_continue ?_
          refine ⟨rfl, s, ?_⟩
          rw [hst, hu]
          have : undO g (some p) = [] := by show undP g p p.body = []; rw [hb]; rfl
          rw [this, List.append_nil]
        · refine s_nil ?_; refine s_cons ?_; refine s_for (fun _ => rfl) ?_; refine e_attr rfl ?_; refine e_local rfl rfl rfl rfl ?_
          refine get_o hK (fun _ => by kernel_rfl) .frz rfl rfl ?_
          skip
          refine for_map (ys := p.body) (fun _ => V.str) (itr_tup cd.handled) (J4d mem adr ul g (undF g (os.take i)) p) (fun j l m hj J => ?_) (fun l m J => ?_) (fun j y l m hy J => ?_) ⟨rfl, s, by rw [hu]; exact congrArg (fun x => some (AObj.list x)) (List.append_nil _).symm⟩
          · show some ((vStrs p.body)[j]?) = _
            unfold vStrs; rw [List.getElem?_map]
          · obtain ⟨hl, s, hu⟩ := J
            rw [List.take_length] at hu
            refine Tr.locs hl ?_
            refine s_nil ?_; refine s_nil ?_
            exact ⟨rfl, s, by rw [hst]; exact hu⟩
          · obtain ⟨hl, s, hu⟩ := J
            refine Op.locs hl ?_
            have hjlt : j < p.body.length := (List.getElem?_eq_some_iff.mp hy).1
            have hlen2 : (undF g (os.take i) ++ undP g p (p.body.take j)).length ≤ 2100 := by
              rw [List.length_append]
              have := undP_len (g := g) p (p.body.take j)
              rw [List.length_take] at this; omega
            have hst2 : undP g p (p.body.take (j + 1)) = _ := (congrArg (undP g p) (take_snoc hy)).trans (undP_snoc p _ y)
            have hx3 := s _ _ hx
            have hd3 := s _ _ hd
            have hq3 := s _ _ hpn
            have hq4 := s _ _ hte
            have g1 : (getA (g.pn.map fun k => (k, V.ref (adr (.pnL k)))) y).isSome = decide (y ∈ g.pn) := by rw [getA_keys (fun k => V.ref (adr (.pnL k)))]; split <;> simp [*]
            have g2 : (getA (g.te.map fun q => (q.1, V.ref (adr (.teL q.1)))) y).isSome = decide (y ∈ g.te.map (·.1)) := by
              rw [getA_map g.te (fun k => V.ref (adr (.teL k)))]
              by_cases z : y ∈ g.te.map (·.1)
              · rw [if_pos (List.contains_iff_mem.mpr z), decide_eq_true z]; rfl
              · rw [if_neg (fun w => z (List.contains_iff_mem.mp w)), decide_eq_false z]; rfl
            have no : undS g y = false → J4d mem adr ul g (undF g (os.take i)) p (j + 1) [("self", .ref (adr .self)), ("result", .ref ul), ("p", pV aProd p), ("s", .str y)] m := fun e => ⟨rfl, s, by rw [hst2, e, if_neg Bool.false_ne_true, List.append_nil]; exact hu⟩
            refine asg_name ?_; refine st_local rfl rfl ?_; (refine nameQ ?_; intro qq ee; refine s_cons ?_); refine s_if ?_; refine b_bool ?_; refine b_and_cons ?_; refine b_cmp rfl ?_; refine e_local rfl rfl rfl rfl ?_; refine e_attr rfl ?_; refine e_local rfl rfl rfl rfl ?_
            refine get_o hK (fun _ => by kernel_rfl) (.own hx3 hd3) rfl rfl ?_
            skip
            refine notin_dict hq3 ?_
            rw [g1]
            refine tr_bool ?_
            refine ⟨fun hb1 => ?_, fun hb1 => only_f ?_⟩
            · refine b_and_cons ?_; refine b_cmp rfl ?_; refine e_local rfl rfl rfl rfl ?_; refine e_attr rfl ?_; refine e_local rfl rfl rfl rfl ?_
              refine get_o hK (fun _ => by kernel_rfl) (.own hx3 hd3) rfl rfl ?_
              skip
              refine notin_dict hq4 ?_
              rw [g2]
              refine tr_bool ?_
              refine ⟨fun hb2 => ?_, fun hb2 => only_f ?_⟩
              · refine b_and_cons ?_; refine b_cmp rfl ?_; refine e_local rfl rfl rfl rfl ?_; refine e_str ?_; refine ne_ss ?_; refine tr_bool ?_
                refine ⟨fun hb3 => ?_, fun hb3 => only_f ?_⟩
                · refine b_and_nil ?_
                  refine only_t ?_
                  (refine nameQ ?_; intro qq ee; refine s_cons ?_); refine s_expr rfl rfl ?_; refine c_meth rfl ?_; refine e_local rfl rfl rfl rfl ?_
                  refine m_builtin (.list hu) PySem.F.plainAttrs_list PySem.F.slot_list_append PySem.F.type_list_append rfl rfl ?_
                  refine a_cons rfl ?_; refine e_tuple ?_; refine a_cons rfl ?_; refine e_local rfl rfl rfl rfl ?_; refine a_cons rfl ?_; refine e_local rfl rfl rfl rfl ?_; refine a_nil ?_
                  refine new_tup (show 2 ≤ sizeLine by decide) ?_
                  refine a_nil ?_
                  refine append_own' hu (Nat.le_trans hlen2 (by decide)) (fun m3 h3 f3 => ?_)
                  refine s_nil ?_; refine s_nil ?_
                  refine ⟨rfl, Sub.upd s hul f3, ?_⟩
                  rw [hst2, if_pos (by unfold undS; rw [hb1, hb2, hb3]; rfl), h3, List.append_assoc]
                · refine s_nil ?_; refine s_nil ?_
                  exact no (by unfold undS; rw [hb3, Bool.and_false, Bool.and_false])
              · refine s_nil ?_; refine s_nil ?_
                exact no (by unfold undS; rw [hb2, Bool.false_and, Bool.and_false])
            · refine s_nil ?_; refine s_nil ?_
              exact no (by unfold undS; rw [hb1, Bool.false_and])
end
end Mine
end
section
set_option autoImplicit false
namespace Mine
noncomputable def dEnd : Str := "$end"
noncomputable def tK (g : GR) : List Str := g.te.map (·.1) ++ [dEnd]
noncomputable def kK (g : GR) : List Str := tK g ++ g.no.map (·.1)
noncomputable def tb (K T : List Str) : List (Str × V) := K.map fun k => (k, .bool (decide (k ∈ T)))
theorem tb_get {K T : List Str} {s : Str} (h : s ∈ K) : getA (tb K T) s = some (.bool (decide (s ∈ T))) := by
  unfold tb; rw [getA_keys (fun k => V.bool (decide (k ∈ T))), if_pos h]
theorem tb_set {K T : List Str} {n : Str} (h : n ∈ K) : stA (tb K T) n (.bool true) = tb K (T ++ [n]) := by
  unfold stA tb
  rw [if_pos (List.any_eq_true.mpr ⟨_, List.mem_map.mpr ⟨n, h, rfl⟩, by simp⟩), List.map_map]
  refine List.map_congr_left fun k _ => ?_
  by_cases e : k = n
  · subst e; simp
  · simp [e]
noncomputable def endsB (P : List Pr) (T : List Str) (n : Str) : Bool := (P.filter fun p => p.name = n).any fun p => p.body.all fun s => decide (s ∈ T)
noncomputable def lackK (K T : List Str) : Nat := (K.filter fun s => !decide (s ∈ T)).length
theorem lack_lt {K T : List Str} {n : Str} (h : n ∈ K) (hn : n ∉ T) : lackK K (T ++ [n]) < lackK K T := by
  unfold lackK
  induction K with
  | nil => cases h
  | cons a K ih =>
    have le : ∀ K : List Str, (K.filter fun s => !decide (s ∈ T ++ [n])).length ≤ (K.filter fun s => !decide (s ∈ T)).length := fun K => by
      induction K with
      | nil => exact Nat.le_refl _
      | cons b K ih =>
        rw [List.filter_cons, List.filter_cons]
        by_cases e1 : b ∈ T
        · simp [e1] at ih ⊢; exact ih
        · by_cases e2 : b = n
          · simp [e1, e2, hn] at ih ⊢; omega
          · simp [e1, e2] at ih ⊢; exact ih
    rw [List.filter_cons, List.filter_cons]
    by_cases e2 : a = n
    · have := le K
      simp [e2, hn] at this ⊢; omega
    · have h := (List.mem_cons.mp h).resolve_left (Ne.symm e2)
      have := ih h
      by_cases e1 : a ∈ T
      · simp [e1] at this ⊢; exact this
      · simp [e1, e2] at this ⊢; exact this
inductive EndsI (P : List Pr) (T0 : List Str) : Str → Prop
  | base {s : Str} : s ∈ T0 → EndsI P T0 s
  | rule {p : Pr} : p ∈ P → (∀ s ∈ p.body, EndsI P T0 s) → EndsI P T0 p.name
structure TI (g : GR) (T : List Str) : Prop where
  sub0 : ∀ s ∈ tK g, s ∈ T
  snd : ∀ s ∈ T, EndsI g.prods (tK g) s
theorem TI.add {g : GR} {T : List Str} {n : Str} (h : TI g T) (e : endsB g.prods T n = true) : TI g (T ++ [n]) where
  sub0 s hs := List.mem_append_left _ (h.sub0 s hs)
  snd s hs := by
    rcases List.mem_append.mp hs with hs | hs
    · exact h.snd s hs
    · rw [List.mem_singleton] at hs; subst hs
      obtain ⟨p, hp, ha⟩ := List.any_eq_true.mp e
      obtain ⟨hp, hn⟩ := List.mem_filter.mp hp
      have hn := of_decide_eq_true hn
      rw [← hn]
      exact .rule hp fun s hs => h.snd s (of_decide_eq_true (List.all_eq_true.mp ha s hs))
structure IWf (g : GR) : Prop where
  nd : (kK g).Nodup
  tz : g.te.length ≤ 100
  nz : g.no.length ≤ 100
  pz : g.pn.length ≤ 100
  syms : ∀ p ∈ g.prods, ∀ s ∈ p.body, s ∈ kK g
  blen : ∀ p ∈ g.prods, p.body.length ≤ 100
  names : ∀ p ∈ g.prods, p.name ∈ g.pn
  pnk : ∀ n ∈ g.pn, n ∈ kK g
  prz : g.prods.length ≤ 1000
theorem ends_iff {g : GR} {T : List Str} (w : IWf g) (h : TI g T) (hc : ∀ n ∈ g.pn, endsB g.prods T n = true → n ∈ T) (s : Str) : s ∈ T ↔ EndsI g.prods (tK g) s := by
  refine ⟨h.snd s, fun e => ?_⟩
  induction e with
  | base hs => exact h.sub0 _ hs
  | @rule p hp _ ih => exact hc _ (w.names p hp) (List.any_eq_true.mpr ⟨p, List.mem_filter.mpr ⟨hp, decide_eq_true rfl⟩, List.all_eq_true.mpr fun s hs => decide_eq_true (ih s hs)⟩)
theorem nodup_take {α : Type} {l : List α} (h : l.Nodup) {i : Nat} {x : α} (e : l[i]? = some x) : x ∉ l.take i := by
  induction l generalizing i with
  | nil => simp at e
  | cons a l ih =>
    cases i with
    | zero => simp
    | succ i =>
      rw [List.take_succ_cons]
      intro hm
      rcases List.mem_cons.mp hm with rfl | hm
      · exact (List.nodup_cons.mp h).1 (List.mem_of_getElem? e)
      · exact ih (List.nodup_cons.mp h).2 e hm
noncomputable def infF (g : GR) (T K : List Str) : List Str := K.filter fun s => !decide (s ∈ T) && !undS g s
theorem infF_snoc {g : GR} {T K : List Str} (s : Str) : infF g T (K ++ [s]) = infF g T K ++ (if !decide (s ∈ T) && !undS g s then [s] else []) := by
  unfold infF; rw [List.filter_append, List.filter_cons]; split <;> rfl
theorem stA_app {es : List (Str × V)} {k : Str} {v : V} (h : k ∉ es.map (·.1)) : stA es k v = es ++ [(k, v)] := by
  unfold stA
  rw [if_neg]
  intro q
  obtain ⟨e, he, hk⟩ := List.any_eq_true.mp q
  exact h (List.mem_map.mpr ⟨e, he, of_decide_eq_true hk⟩)
theorem tb_start {g : GR} (w : IWf g) : (tK g).map (fun k => (k, V.bool true)) ++ (g.no.map (·.1)).map (fun k => (k, V.bool false)) = tb (kK g) (tK g) := by
  have nd := w.nd
  unfold kK at nd
  unfold tb kK
  rw [List.map_append]
  refine congr (congrArg _ (List.map_congr_left fun k hk => by rw [decide_eq_true hk])) (List.map_congr_left fun k hk => ?_)
  rw [decide_eq_false fun h => (List.nodup_append.mp nd).2.2 k h k hk rfl]
end Mine
end
section
set_option autoImplicit false
namespace Mine
noncomputable abbrev ifE (L : Addr) : Env := envX "Grammar.infinite_cycles" gInf.scope L 186 gInf.code []
section
variable {W : Wd} {A : Around} {env : Env} {outer : Outs} {loc : Loc} {mem m : Mem} {E : Ex W} {adr : Rl → Addr} {g : GR} {d L : Addr} {T : List Str} {b : Bool} {n : Str}
inductive K1 (mem : Mem) (adr : Rl → Addr) (d : Addr) (es : List (Str × V)) (l : Loc) (m : Mem) : Prop
  | mk (h1_ : LSub [("self", .ref (adr .self)), ("terminates", .ref d)] l) (h2_ : Sub mem m) (ep : Nat) (h3_ : m d = some (.dict es ep))
inductive KW (mem : Mem) (adr : Rl → Addr) (d : Addr) (g : GR) (k : Nat) (l : Loc) (m : Mem) : Prop
  | mk (h1_ : LSub [("self", .ref (adr .self)), ("terminates", .ref d)] l) (h2_ : Sub mem m) (ep : Nat) (T : List Str) (h3_ : m d = some (.dict (tb (kK g) T) ep)) (h4_ : TI g T) (h5_ : lackK (kK g) T = k)
inductive KF (mem : Mem) (adr : Rl → Addr) (d : Addr) (g : GR) (T0 : List Str) (i : Nat) (l : Loc) (m : Mem) : Prop
  | mk (b : Bool) (h1_ : LSub [("self", .ref (adr .self)), ("terminates", .ref d), ("some_change", .bool b)] l) (h2_ : Sub mem m) (ep : Nat) (T : List Str) (h3_ : m d = some (.dict (tb (kK g) T) ep)) (h4_ : TI g T)
    (h5_ : lackK (kK g) T ≤ lackK (kK g) T0) (h6_ : b = true → lackK (kK g) T < lackK (kK g) T0) (h7_ : b = false → T = T0 ∧ ∀ n ∈ g.pn.take i, endsB g.prods T0 n = true → n ∈ T0)
inductive KP (mem : Mem) (adr : Rl → Addr) (d : Addr) (g : GR) (T : List Str) (b : Bool) (n : Str) (ep : Nat) (i : Nat) (l : Loc) (m : Mem) : Prop
  | mk (h1_ : LSub [("self", .ref (adr .self)), ("terminates", .ref d), ("some_change", .bool b), ("n", .str n)] l) (h2_ : Sub mem m) (h3_ : m d = some (.dict (tb (kK g) T) ep))
    (h4_ : ∀ p ∈ (g.prods.filter fun p => p.name = n).take i, (p.body.all fun s => decide (s ∈ T)) = false)
inductive KS (mem : Mem) (adr : Rl → Addr) (d : Addr) (g : GR) (T : List Str) (b : Bool) (n : Str) (ep : Nat) (p : Pr) (i : Nat) (l : Loc) (m : Mem) : Prop
  | mk (h1_ : LSub [("self", .ref (adr .self)), ("terminates", .ref d), ("some_change", .bool b), ("n", .str n), ("p", pV aProd p)] l) (h2_ : Sub mem m) (h3_ : m d = some (.dict (tb (kK g) T) ep)) (h4_ : ∀ s ∈ p.body.take i, s ∈ T)
inductive KE (mem : Mem) (adr : Rl → Addr) (d : Addr) (g : GR) (T : List Str) (b : Bool) (n : Str) (ep : Nat) (p : Pr) (l : Loc) (m : Mem) : Prop
  | mk (h1_ : LSub [("self", .ref (adr .self)), ("terminates", .ref d), ("some_change", .bool b), ("n", .str n), ("p_terminates", .bool (p.body.all fun s => decide (s ∈ T)))] l) (h2_ : Sub mem m) (h3_ : m d = some (.dict (tb (kK g) T) ep))
inductive KR (mem : Mem) (adr : Rl → Addr) (d ul : Addr) (g : GR) (T : List Str) (ep : Nat) (i : Nat) (l : Loc) (m : Mem) : Prop
  | mk (h1_ : LSub [("self", .ref (adr .self)), ("infinite", .ref ul)] l) (h2_ : Sub mem m) (h3_ : m d = some (.dict (tb (kK g) T) ep)) (h4_ : m ul = some (.list (vStrs (infF g T ((kK g).take i)))))
theorem len_tb (K T : List Str) : (tb K T).length = K.length := by unfold tb; rw [List.length_map]
theorem kK_len (w : IWf g) : (kK g).length ≤ 300 := by
  have := w.tz; have := w.nz
  unfold kK tK; rw [List.length_append, List.length_append, List.length_map, List.length_map, List.length_singleton]; omega
theorem inf_terms {Q : Fl → Loc → Mem → Prop} (hK : W.K = hdK W.w.params) (hh : A.handled = none) (r : Rd adr g mem) (w : IWf g) (hd0 : mem d = none) (k1 : K1 mem adr d [] loc m)
    (h : ∀ l m, K1 mem adr d ((g.te.map (·.1)).map fun k => (k, V.bool true)) l m → Q .next l m) : TrS W A (ifE L) outer (exec (gInf.body.getD 1 (.Pass ⟨0, 0, 0, 0⟩)) (ifE L)) loc m Q E := by
  obtain ⟨hl, s, ep, hm⟩ := k1
  refine Tr.locs hl ?_
  obtain ⟨epd, hd⟩ := r.dict
  obtain ⟨ept, ht⟩ := r.te
  have hx1 := s _ _ r.self
  have hd1 := s _ _ hd
  have ht1 := s _ _ ht
  have nd := w.nd
  refine s_for (fun _ => rfl) ?_; refine e_attr rfl ?_; refine e_local rfl rfl rfl rfl ?_
  refine get_o hK (fun _ => by kernel_rfl) (.own hx1 hd1) rfl rfl ?_
  skip
  refine for_map (ys := g.te) (fun _ q => .str q.1) (itr_dict hh ht1) (fun i => K1 mem adr d (((g.te.take i).map (·.1)).map fun k => (k, V.bool true))) (fun i l m hi J => ?_) (fun l m J => ?_) (fun i y l m hy J => ?_) ⟨rfl, s, ep, hm⟩
  · obtain ⟨_, s, _⟩ := J
    rw [keyItem_eq (s _ _ ht) rfl, List.getElem?_map, Option.map_map]; rfl
  · refine s_nil ?_
    rw [List.take_length] at J
    exact h _ _ J
  · obtain ⟨hl, s, ep, hm⟩ := J
    refine Op.locs hl ?_
    have hilt : i < g.te.length := (List.getElem?_eq_some_iff.mp hy).1
    have hz := w.tz
    have hnew : y.1 ∉ (g.te.take i).map (·.1) := by
      rw [List.map_take]
      have n1 : (g.te.map (·.1)).Nodup := (List.nodup_append.mp (List.nodup_append.mp nd).1).1
      exact nodup_take n1 (by rw [List.getElem?_map, hy]; rfl)
    refine asg_name ?_; refine st_local rfl rfl ?_; (refine nameQ ?_; intro qq ee; refine s_cons ?_); refine s_assign_sub rfl ?_; refine e_bool ?_; refine e_local rfl rfl rfl rfl ?_; refine e_local rfl rfl rfl rfl ?_
    refine setItem_dict' hm (by rw [List.length_map, List.length_map, List.length_take]; exact Nat.le_trans (show min i g.te.length ≤ 100 by omega) (by decide)) (fun m2 ep2 h2 f2 => ?_)
    refine s_nil ?_
    refine ⟨rfl, Sub.upd s hd0 f2, ep2, ?_⟩
    rw [h2, stA_app (by rw [List.map_map]; simpa [Function.comp_def] using hnew), take_snoc hy, List.map_append, List.map_append]; rfl
theorem inf_names {Q : Fl → Loc → Mem → Prop} (hK : W.K = hdK W.w.params) (hh : A.handled = none) (r : Rd adr g mem) (w : IWf g) (hd0 : mem d = none) (k1 : K1 mem adr d ((tK g).map fun k => (k, V.bool true)) loc m)
    (h : ∀ l m, K1 mem adr d (tb (kK g) (tK g)) l m → Q .next l m) : TrS W A (ifE L) outer (exec (gInf.body.getD 3 (.Pass ⟨0, 0, 0, 0⟩)) (ifE L)) loc m Q E := by
  obtain ⟨hl, s, ep, hm⟩ := k1
  refine Tr.locs hl ?_
  obtain ⟨epd, hd⟩ := r.dict
  obtain ⟨ept, ht⟩ := r.no
  have hx1 := s _ _ r.self
  have hd1 := s _ _ hd
  have ht1 := s _ _ ht
  have nd := w.nd
  refine s_for (fun _ => rfl) ?_; refine e_attr rfl ?_; refine e_local rfl rfl rfl rfl ?_
  refine get_o hK (fun _ => by kernel_rfl) (.own hx1 hd1) rfl rfl ?_
  skip
  refine for_map (ys := g.no) (fun _ q => .str q.1) (itr_dict hh ht1) (fun i => K1 mem adr d ((tK g).map (fun k => (k, V.bool true)) ++ ((g.no.take i).map (·.1)).map fun k => (k, V.bool false))) (fun i l m hi J => ?_) (fun l m J => ?_) (fun i y l m hy J => ?_) ⟨rfl, s, ep, by rw [hm, List.take_zero, List.map_nil, List.map_nil, List.append_nil]⟩
  · obtain ⟨_, s, _⟩ := J
    rw [keyItem_eq (s _ _ ht) rfl, List.getElem?_map, Option.map_map]; rfl
  · refine s_nil ?_
    rw [List.take_length, tb_start w] at J
    exact h _ _ J
  · obtain ⟨hl, s, ep, hm⟩ := J
    refine Op.locs hl ?_
    have hilt : i < g.no.length := (List.getElem?_eq_some_iff.mp hy).1
    have hz := w.tz
    have hz2 := w.nz
    have hnew : y.1 ∉ tK g ++ (g.no.take i).map (·.1) := by
      have n1 := List.nodup_append.mp nd
      rw [List.mem_append, List.map_take]
      rintro (z | z)
      · exact n1.2.2 _ z _ (List.mem_map.mpr ⟨y, List.mem_of_getElem? hy, rfl⟩) rfl
      · exact nodup_take n1.2.1 (by rw [List.getElem?_map, hy]; rfl) z
    refine asg_name ?_; refine st_local rfl rfl ?_; (refine nameQ ?_; intro qq ee; refine s_cons ?_); refine s_assign_sub rfl ?_; refine e_bool ?_; refine e_local rfl rfl rfl rfl ?_; refine e_local rfl rfl rfl rfl ?_
    refine setItem_dict' hm (by
      rw [List.length_append, List.length_map, List.length_map, List.length_map, List.length_take]
      have : (tK g).length = g.te.length + 1 := by unfold tK; rw [List.length_append, List.length_map]; rfl
      exact Nat.le_trans (show (tK g).length + min i g.no.length ≤ 300 by omega) (by decide)) (fun m2 ep2 h2 f2 => ?_)
    refine s_nil ?_
    refine ⟨rfl, Sub.upd s hd0 f2, ep2, ?_⟩
    rw [h2, stA_app (by rw [List.map_append, List.map_map, List.map_map]; simpa [Function.comp_def] using hnew), take_snoc hy, List.map_append, List.map_append, List.append_assoc]; rfl
theorem inf_while {Q : Fl → Loc → Mem → Prop} (hK : W.K = hdK W.w.params) (hh : A.handled = none) (r : Rd adr g mem) (w : IWf g) (hd0 : mem d = none) (k1 : K1 mem adr d (tb (kK g) (tK g)) loc m)
    (h : ∀ l m T ep, LSub [("self", .ref (adr .self)), ("terminates", .ref d)] l → Sub mem m → m d = some (.dict (tb (kK g) T) ep) → (∀ s, s ∈ T ↔ EndsI g.prods (tK g) s) → Q .next l m) :
    TrS W A (ifE L) outer (exec (gInf.body.getD 4 (.Pass ⟨0, 0, 0, 0⟩)) (ifE L)) loc m Q E := by
  obtain ⟨hl, s, ep, hm⟩ := k1
  refine Tr.locs hl ?_
  obtain ⟨epd, hd⟩ := r.dict
  obtain ⟨epn, hpn⟩ := r.pn
  have hx := r.self
  refine s_while (KW mem adr d g) (fun k l m J => ?_) _ ⟨rfl, s, ep, _, hm, ⟨fun s hs => hs, fun s hs => .base hs⟩, rfl⟩
  clear hm s ep
  obtain ⟨hl, s, ep, T, hm, ti, hk⟩ := J
  refine Tr.locs hl ?_
  refine b_value rfl ?_; refine e_bool ?_; refine tr_bool ?_
  refine only_t ?_
  (refine nameQ ?_; intro qq ee; refine s_cons ?_); refine s_assign rfl ?_; refine e_bool ?_; refine st_local rfl rfl ?_; refine s_cons ?_; refine s_for (fun _ => rfl) ?_; refine c_meth rfl ?_; refine e_attr rfl ?_; refine e_local rfl rfl rfl rfl ?_
  have hx1 := s _ _ hx
  have hd1 := s _ _ hd
  have hp1 := s _ _ hpn
  refine get_o hK (fun _ => by kernel_rfl) (.own hx1 hd1) rfl rfl ?_
  skip
  refine m_builtin0 (.dict hp1) PySem.F.plainAttrs_dict PySem.F.slot_dict_items (by show builtinType _ = _; rw [builtinType_eq_fast]; kernel_rfl) ?_
  refine dict_items hp1 (fun v m2 hv h2 f2 => ?_)
  have s2 : Sub mem m2 := Sub.new s hv f2
  have hm2 : m2 d = _ := (f2 _ (nex hm hv)).trans hm
  refine for_map (ys := g.pn) (fun _ n => .tup [.str n, .ref (adr (.pnL n))]) (itr_items hh h2 (s2 _ _ hpn)) (KF mem adr d g T) (fun i l m hi J => ?_) (fun l m J => ?_) (fun i n l m hy J => ?_) ⟨false, rfl, s2, ep, T, hm2, ti, Nat.le_refl _, (fun e => nomatch e), fun _ => ⟨rfl, fun n hn => nomatch hn⟩⟩
  · obtain ⟨_, _, s⟩ := J
    rw [itemsItem_eq (s _ _ hpn) rfl, List.getElem?_map, Option.map_map]; rfl
  · obtain ⟨b, hl, s, ep, T', hm, ti', c1, c2, c3⟩ := J
    refine Tr.locs hl ?_
    refine s_nil ?_; refine s_cons ?_; refine s_if ?_; refine b_not ?_; refine b_value rfl ?_; refine e_local rfl rfl rfl rfl ?_; refine tr_bool ?_
    cases b with
    | false =>
      refine only_t ?_
      (refine nameQ ?_; intro qq ee; refine s_cons ?_); refine s_break ?_
      obtain ⟨e, c4⟩ := c3 rfl
      rw [List.take_length] at c4
      rw [e] at hm ti'
      exact h _ _ _ _ rfl s hm (ends_iff w ti' c4)
    | true =>
      refine only_f ?_
      refine s_nil ?_; refine s_nil ?_
      exact ⟨_, by have := c2 rfl; omega, rfl, s, ep, T', hm, ti', rfl⟩
  · obtain ⟨b, hl, s, ep, T', hm, ti', c1, c2, c3⟩ := J
    have hn : n ∈ g.pn := List.mem_of_getElem? hy
    have hp := s _ _ (r.pnL n hn)
    have hst := take_snoc hy
    refine Op.locs hl ?_
    refine   asg_tuple     (by       first       | assumption       | exact Calm.handled (by assumption))     rfl rfl ?_; refine asg_name ?_; refine st_local rfl rfl ?_; refine asg_name ?_; refine st_local rfl rfl ?_; (refine nameQ ?_; intro qq ee; refine s_cons ?_); refine s_for (fun _ => rfl) ?_; refine e_local rfl rfl rfl rfl ?_
    refine for_map (ys := g.prods.filter fun p => p.name = n) (fun _ => pV aProd) (itr_own hh hp) (KP mem adr d g T' b n ep) (fun j l m hj J => ?_) (fun l m J => ?_) (fun j p l m hy J => ?_) ⟨rfl, s, hm, fun p hp => nomatch hp⟩
    · obtain ⟨_, s, _⟩ := J
      exact ownItem_map (s _ _ (r.pnL n hn))
    · obtain ⟨hl, s, hm, hno⟩ := J
      rw [List.take_length] at hno
      refine Tr.locs hl ?_
      refine s_nil ?_; refine s_nil ?_
      refine ⟨b, rfl, s, ep, T', hm, ti', c1, c2, fun hb => ⟨(c3 hb).1, fun q hq hq2 => ?_⟩⟩
      rw [hst] at hq
      rcases List.mem_append.mp hq with hq | hq
      · exact (c3 hb).2 q hq hq2
      · rw [List.mem_singleton] at hq; subst hq
        obtain ⟨p, hp, ha⟩ := List.any_eq_true.mp hq2
        rw [← (c3 hb).1, hno p hp] at ha; cases ha
    · obtain ⟨hl, s, hm, hno⟩ := J
      have hpm : p ∈ g.prods.filter fun p => p.name = n := List.mem_of_getElem? hy
      obtain ⟨hpP, hpn'⟩ := List.mem_filter.mp hpm
      have hstp := take_snoc hy
      refine Op.locs hl ?_
      refine asg_name ?_
      refine st_local rfl rfl ?_
      (refine nameQ ?_; intro qq ee; refine s_cons ?_)
      refine Tr.mono (Q := fun f l m => f = .next ∧ KE mem adr d g T' b n ep p l m) ?_ ?_
      · refine s_for (fun _ => rfl) ?_; refine e_attr rfl ?_; refine e_local rfl rfl rfl rfl ?_
        refine get_o hK (fun _ => by kernel_rfl) .frz rfl rfl ?_
        skip
        refine for_map (ys := p.body) (fun _ => V.str) (itr_tup hh) (KS mem adr d g T' b n ep p) (fun j l m hj J => ?_) (fun l m J => ?_) (fun j y l m hy J => ?_) ⟨rfl, s, hm, fun s hs => nomatch hs⟩
        · show some ((vStrs p.body)[j]?) = _
          unfold vStrs; rw [List.getElem?_map]
        · obtain ⟨hl, s, hm, ha⟩ := J
          rw [List.take_length] at ha
          refine Tr.locs hl ?_
          (refine nameQ ?_; intro qq ee; refine s_cons ?_); refine s_assign rfl ?_; refine e_bool ?_; refine st_local rfl rfl ?_; refine s_nil ?_
          refine ⟨rfl, ?_, s, hm⟩
          rw [List.all_eq_true.mpr fun s hs => decide_eq_true (ha s hs)]; rfl
        · obtain ⟨hl, s, hm, ha⟩ := J
          refine Op.locs hl ?_
          have hyb : y ∈ p.body := List.mem_of_getElem? hy
          refine asg_name ?_; refine st_local rfl rfl ?_; (refine nameQ ?_; intro qq ee; refine s_cons ?_); refine s_if ?_; refine b_not ?_; refine b_value rfl ?_; refine e_sub (fun _ _ => rfl) ?_; refine e_local rfl rfl rfl rfl ?_; refine e_local rfl rfl rfl rfl ?_
          refine sub_dict (x := .bool (decide (y ∈ T'))) hm (tb_get (w.syms p hpP y hyb)) ?_
          refine tr_bool ?_
          refine ⟨fun hb => ?_, fun hb => ?_⟩
          · have hb : y ∉ T' := by simpa using hb
            (refine nameQ ?_; intro qq ee; refine s_cons ?_); refine s_assign rfl ?_; refine e_bool ?_; refine st_local rfl rfl ?_; refine s_cons ?_; refine s_break ?_
            refine ⟨rfl, ?_, s, hm⟩
            have : (p.body.all fun s => decide (s ∈ T')) = false := by
              cases q : p.body.all fun s => decide (s ∈ T') with
              | false => rfl
              | true => exact absurd (of_decide_eq_true (List.all_eq_true.mp q y hyb)) hb
            rw [this]; rfl
          · have hb : y ∈ T' := by simpa using hb
            refine s_nil ?_; refine s_nil ?_
            refine ⟨rfl, s, hm, fun z hz => ?_⟩
            rw [take_snoc hy] at hz
            rcases List.mem_append.mp hz with hz | hz
            · exact ha z hz
            · rw [List.mem_singleton] at hz; rw [hz]; exact hb
      · rintro f l m ⟨rfl, hl, s, hm⟩
        refine Tr.locs hl ?_
        refine s_cons ?_; refine s_if ?_; refine b_value rfl ?_; refine e_local rfl rfl rfl rfl ?_; refine tr_bool ?_
        refine ⟨fun hb => ?_, fun hb => ?_⟩
        · have he : endsB g.prods T' n = true := List.any_eq_true.mpr ⟨p, hpm, hb⟩
          rw [hb]
          (refine nameQ ?_; intro qq ee; refine s_cons ?_); refine s_if ?_; refine b_not ?_; refine b_value rfl ?_; refine e_sub (fun _ _ => rfl) ?_; refine e_local rfl rfl rfl rfl ?_; refine e_local rfl rfl rfl rfl ?_
          refine sub_dict (x := .bool (decide (n ∈ T'))) hm (tb_get (w.pnk n hn)) ?_
          refine tr_bool ?_
          refine ⟨fun hb2 => ?_, fun hb2 => ?_⟩
          · have hb2 : n ∉ T' := by simpa using hb2
            (refine nameQ ?_; intro qq ee; refine s_cons ?_); refine s_assign_sub rfl ?_; refine e_bool ?_; refine e_local rfl rfl rfl rfl ?_; refine e_local rfl rfl rfl rfl ?_
            refine setItem_dict' hm (by rw [len_tb]; exact Nat.le_trans (kK_len w) (by decide)) (fun m3 ep3 h3 f3 => ?_)
            rw [tb_set (w.pnk n hn)] at h3
            have hlt := lack_lt (w.pnk n hn) hb2
            refine s_cons ?_; refine s_assign rfl ?_; refine e_bool ?_; refine st_local rfl rfl ?_; refine s_nil ?_; refine s_cons ?_; refine s_break ?_; refine s_nil ?_
            exact ⟨true, rfl, Sub.upd s hd0 f3, ep3, _, h3, ti'.add he, by omega, fun _ => by omega, fun e => nomatch e⟩
          · have hb2 : n ∈ T' := by simpa using hb2
            refine s_nil ?_; refine s_cons ?_; refine s_break ?_; refine s_nil ?_
            refine ⟨b, rfl, s, ep, T', hm, ti', c1, c2, fun hb => ⟨(c3 hb).1, fun q hq hq2 => ?_⟩⟩
            rw [hst] at hq
            rcases List.mem_append.mp hq with hq | hq
            · exact (c3 hb).2 q hq hq2
            · rw [List.mem_singleton] at hq; rw [hq, ← (c3 hb).1]; exact hb2
        · rw [hb]
          refine s_nil ?_; refine s_nil ?_
          refine ⟨rfl, s, hm, fun q hq => ?_⟩
          rw [hstp] at hq
          rcases List.mem_append.mp hq with hq | hq
          · exact hno q hq
          · rw [List.mem_singleton] at hq; rw [hq]; exact hb
end
end Mine
end
section
set_option autoImplicit false
namespace Mine
section
variable {W : Wd} {A : Around} {env : Env} {outer : Outs} {loc : Loc} {mem : Mem} {E : Ex W} {adr : Rl → Addr} {g : GR}
theorem inf_spec {Q : V → Loc → Mem → Prop} (hK : W.K = hdK W.w.params) (c : Calm A 600 5000) (r : Rd adr g mem) (w : IWf g)
    (h : ∀ T, (∀ s, s ∈ T ↔ EndsI g.prods (tK g) s) → Q (.lst (vStrs (infF g T (kK g)))) loc mem) : OpV W A env outer (fun vs => call (.ref 186) vs) [.ref (adr .self)] loc mem Q E := by
  refine call_fn (bs := [("self", .ref (adr .self))]) (by rw [hK]; exact gInf.at _) (by rw [hK]; first | rfl | kernel_rfl | decide +kernel) (c.room (by decide)) ?_ (by intro y hy; simp at hy; rcases hy with rfl; rfl) (by decide) rfl rfl rfl ?_
  · intro F s vs hb hk r
    cases r.view with
    | cons r1 r2 =>
      cases r2.view
      exact ⟨_, BindsTo.of_eq rfl, .cons r1 .nil⟩
  · intro L outer
    have cd := c.deeper (ifE L)
    obtain ⟨epd, hd⟩ := r.dict
    obtain ⟨epn, hpn⟩ := r.pn
    obtain ⟨ept, hte⟩ := r.te
    have hx := r.self
    have nd := w.nd
    (refine nameS ?_; intro aa vv oo qq ee; refine s_cons ?_)
    refine s_assign rfl ?_
    refine e_dict0' (fun d m1 hd0 h1 f1 => ?_)
    have s1 : Sub mem m1 := Sub.new (sub_refl _) hd0 f1
    refine st_local rfl rfl ?_
    refine s_cons ?_
    refine inf_terms hK cd.handled r w hd0 ⟨rfl, s1, 0, h1⟩ (fun l m J => ?_)
    obtain ⟨hl, s, ep, hm⟩ := J
    refine s_cons ?_
    refine Tr.locs hl ?_
    refine s_assign_sub rfl ?_; refine e_bool ?_; refine e_local rfl rfl rfl rfl ?_; refine e_str ?_
    have hdl : (g.te.map (·.1)).length ≤ 1000 := by rw [List.length_map]; have := w.tz; omega
    refine setItem_dict' hm (by rw [List.length_map]; exact Nat.le_trans hdl (by decide)) (fun m2 ep2 h2 f2 => ?_)
    have n0 : dEnd ∉ g.te.map (·.1) := fun q => (List.nodup_append.mp (List.nodup_append.mp nd).1).2.2 _ q _ (.head _) rfl
    rw [stA_app (by rw [List.map_map]; simpa [Function.comp_def, dEnd] using n0)] at h2
    refine s_cons ?_
    refine inf_names hK cd.handled r w hd0 ⟨rfl, Sub.upd s hd0 f2, ep2, by rw [h2]; unfold tK; rw [List.map_append]; rfl⟩ (fun l m J => ?_)
    refine s_cons ?_
    refine inf_while hK cd.handled r w hd0 J (fun l m T ep hl s hm hT => ?_)
    refine s_cons ?_
    refine Tr.locs hl ?_
    refine s_assign rfl ?_; refine e_list ?_; refine a_nil ?_
    refine new_own' (show 0 ≤ sizeLine by decide) (fun ul m3 hul h3 f3 => ?_)
    have s3 : Sub mem m3 := Sub.new s hul f3
    have hul0 : mem ul = none := Sub.none s hul
    have hm3 : m3 d = _ := (f3 _ (nex hm hul)).trans hm
    refine st_local rfl rfl ?_; refine s_cons ?_; refine s_for (fun _ => rfl) ?_; refine c_meth rfl ?_; refine e_local rfl rfl rfl rfl ?_
    refine m_builtin0 (.dict hm3) PySem.F.plainAttrs_dict PySem.F.slot_dict_items (by show builtinType _ = _; rw [builtinType_eq_fast]; kernel_rfl) ?_
    refine dict_items hm3 (fun v m4 hv h4 f4 => ?_)
    have s4 : Sub mem m4 := Sub.new s3 hv f4
    have hm4 : m4 d = _ := (f4 _ (nex hm3 hv)).trans hm3
    have hu4 : m4 ul = _ := (f4 _ (nex h3 hv)).trans h3
    refine for_map (ys := kK g) (fun _ k => .tup [.str k, .bool (decide (k ∈ T))]) (itr_items cd.handled h4 hm4) (KR mem adr d ul g T ep) (fun i l m hi J => ?_) (fun l m J => ?_) (fun i y l m hy J => ?_) ⟨rfl, s4, hm4, hu4⟩
    · obtain ⟨_, _, hm, _⟩ := J
      rw [itemsItem_eq hm rfl]; unfold tb; rw [List.getElem?_map, Option.map_map]; rfl
    · obtain ⟨hl, s, hm, hu⟩ := J
      rw [List.take_length] at hu
      refine Tr.locs hl ?_
      refine s_nil ?_
      refine s_cons ?_
      refine s_ret (Tr.shift ?_)
      refine e_local rfl rfl rfl rfl ?_
      exact ⟨_, mem, Shift.lst hu s hul0, mem, sub_refl _, h T hT⟩
    · obtain ⟨hl, s, hm, hu⟩ := J
      refine Op.locs hl ?_
      have hilt : i < (kK g).length := (List.getElem?_eq_some_iff.mp hy).1
      have hkz := kK_len w
      have hlen : (vStrs (infF g T ((kK g).take i))).length ≤ 300 := by
        rw [vStrs_len]
        have := List.length_filter_le (fun s => !decide (s ∈ T) && !undS g s) ((kK g).take i)
        rw [List.length_take] at this; unfold infF; omega
      have hst : infF g T ((kK g).take (i + 1)) = _ := (congrArg (infF g T) (take_snoc hy)).trans (infF_snoc y)
      have hx3 := s _ _ hx
      have hd3 := s _ _ hd
      have hq3 := s _ _ hpn
      have hq4 := s _ _ hte
      have g1 : (getA (g.pn.map fun k => (k, V.ref (adr (.pnL k)))) y).isSome = decide (y ∈ g.pn) := by rw [getA_keys (fun k => V.ref (adr (.pnL k)))]; split <;> simp [*]
      have g2 : (getA (g.te.map fun q => (q.1, V.ref (adr (.teL q.1)))) y).isSome = decide (y ∈ g.te.map (·.1)) := by
        rw [getA_map g.te (fun k => V.ref (adr (.teL k)))]
        by_cases z : y ∈ g.te.map (·.1)
        · rw [if_pos (List.contains_iff_mem.mpr z), decide_eq_true z]; rfl
        · rw [if_neg (fun w => z (List.contains_iff_mem.mp w)), decide_eq_false z]; rfl
      have no : (!decide (y ∈ T) && !undS g y) = false → ∀ l, LSub [("self", .ref (adr .self)), ("infinite", .ref ul)] l → KR mem adr d ul g T ep (i + 1) l m := fun e l hl => ⟨hl, s, hm, by rw [hst, e, if_neg Bool.false_ne_true, List.append_nil]; exact hu⟩
      have yes : (!decide (y ∈ T) && !undS g y) = true → ∀ l m', LSub [("self", .ref (adr .self)), ("infinite", .ref ul)] l → m' ul = some (.list (vStrs (infF g T ((kK g).take i)) ++ [.str y])) → (∀ b, b ≠ ul → m' b = m b) → KR mem adr d ul g T ep (i + 1) l m' := fun e l m' hl h3 f3 =>
        ⟨hl, Sub.upd s hul0 f3, (f3 _ (fun q => by rw [q, hu] at hm; cases hm)).trans hm, by rw [hst, if_pos e, vStrs, List.map_append]; exact h3⟩
      refine   asg_tuple     (by       first       | assumption       | exact Calm.handled (by assumption))     rfl rfl ?_; refine asg_name ?_; refine st_local rfl rfl ?_; refine asg_name ?_; refine st_local rfl rfl ?_; (refine nameQ ?_; intro qq ee; refine s_cons ?_); refine s_if ?_; refine b_not ?_; refine b_value rfl ?_; refine e_local rfl rfl rfl rfl ?_; refine tr_bool ?_
      refine ⟨fun hb0 => ?_, fun hb0 => ?_⟩
      · have hb0 : decide (y ∈ T) = false := by simpa using hb0
        rw [hb0, Bool.not_false, Bool.true_and] at no yes
        (refine nameQ ?_; intro qq ee; refine s_cons ?_); refine s_if ?_; refine b_bool ?_; refine b_and_cons ?_; refine b_cmp rfl ?_; refine e_local rfl rfl rfl rfl ?_; refine e_attr rfl ?_; refine e_local rfl rfl rfl rfl ?_
        refine get_o hK (fun _ => by kernel_rfl) (.own hx3 hd3) rfl rfl ?_
        skip
        refine notin_dict hq3 ?_
        rw [g1]
        refine tr_bool ?_
        refine ⟨fun hb1 => ?_, fun hb1 => only_f ?_⟩
        · refine b_and_cons ?_; refine b_cmp rfl ?_; refine e_local rfl rfl rfl rfl ?_; refine e_attr rfl ?_; refine e_local rfl rfl rfl rfl ?_
          refine get_o hK (fun _ => by kernel_rfl) (.own hx3 hd3) rfl rfl ?_
          skip
          refine notin_dict hq4 ?_
          rw [g2]
          refine tr_bool ?_
          refine ⟨fun hb2 => ?_, fun hb2 => only_f ?_⟩
          · refine b_and_cons ?_; refine b_cmp rfl ?_; refine e_local rfl rfl rfl rfl ?_; refine e_str ?_; refine ne_ss ?_; refine tr_bool ?_
            refine ⟨fun hb3 => ?_, fun hb3 => only_f ?_⟩
            · refine b_and_nil ?_
              refine only_t ?_
              (refine nameQ ?_; intro qq ee; refine s_cons ?_); refine s_pass ?_; refine s_nil ?_; refine s_nil ?_; refine s_nil ?_
              exact no (by unfold undS; rw [hb1, hb2, hb3]; rfl) _ rfl
            · (refine nameQ ?_; intro qq ee; refine s_cons ?_); refine s_expr rfl rfl ?_; refine c_meth rfl ?_; refine e_local rfl rfl rfl rfl ?_
              refine m_builtin (.list hu) PySem.F.plainAttrs_list PySem.F.slot_list_append PySem.F.type_list_append rfl rfl ?_
              refine a_cons rfl ?_; refine e_local rfl rfl rfl rfl ?_; refine a_nil ?_
              refine append_own' hu (Nat.le_trans hlen (by decide)) (fun m5 h5 f5 => ?_)
              refine s_nil ?_; refine s_nil ?_; refine s_nil ?_
              exact yes (by unfold undS; rw [hb3, Bool.and_false, Bool.and_false]; rfl) _ _ rfl h5 f5
          · (refine nameQ ?_; intro qq ee; refine s_cons ?_); refine s_expr rfl rfl ?_; refine c_meth rfl ?_; refine e_local rfl rfl rfl rfl ?_
            refine m_builtin (.list hu) PySem.F.plainAttrs_list PySem.F.slot_list_append PySem.F.type_list_append rfl rfl ?_
            refine a_cons rfl ?_; refine e_local rfl rfl rfl rfl ?_; refine a_nil ?_
            refine append_own' hu (Nat.le_trans hlen (by decide)) (fun m5 h5 f5 => ?_)
            refine s_nil ?_; refine s_nil ?_; refine s_nil ?_
            exact yes (by unfold undS; rw [hb2, Bool.false_and, Bool.and_false]; rfl) _ _ rfl h5 f5
        · (refine nameQ ?_; intro qq ee; refine s_cons ?_); refine s_expr rfl rfl ?_; refine c_meth rfl ?_; refine e_local rfl rfl rfl rfl ?_
          refine m_builtin (.list hu) PySem.F.plainAttrs_list PySem.F.slot_list_append PySem.F.type_list_append rfl rfl ?_
          refine a_cons rfl ?_; refine e_local rfl rfl rfl rfl ?_; refine a_nil ?_
          refine append_own' hu (Nat.le_trans hlen (by decide)) (fun m5 h5 f5 => ?_)
          refine s_nil ?_; refine s_nil ?_; refine s_nil ?_
          exact yes (by unfold undS; rw [hb1, Bool.false_and]; rfl) _ _ rfl h5 f5
      · refine s_nil ?_; refine s_nil ?_
        exact no (by rw [show decide (y ∈ T) = true from by simpa using hb0]; rfl) _ rfl
end
end Mine
end
section
set_option autoImplicit false
namespace Mine
noncomputable def BmIs (W : Wd) : Prop := ∃ bm ob, W.mg "__builtins__" = some (.ref bm) ∧ bm ≠ builtinsNs ∧ W.hb.get? bm = some ob ∧ ob.cls = .type "module" ∧ ob.dict = some builtinsNs ∧ ob.data = .plain
inductive CodeOk (qual : Str) : Obj → Prop
  | mk {o : Obj} (vs : Array Value) (t : Tok) (h1_ : o.data = .fields vs) (h2_ : vs[1]? = some (.str qual t)) : CodeOk qual o
inductive CodeT (P : Addr) (pos : Pos) (qual : Str) (m : Mem) : Prop
  | fresh (h1_ : m P = some (.raw (tabObj #[])))
  | made (c' : Addr) (oc : Obj) (h1_ : m P = some (.raw (tabObj #[rawInt pos.line, rawInt pos.col, .ref c']))) (h2_ : m c' = some (.raw oc)) (h3_ : CodeOk qual oc)
section
variable {W : Wd} {A : Around} {env : Env} {outer : Outs} {loc : Loc} {mem R : Mem} {E : Ex W} {F : Frz} {s : Shared}
theorem Sim.take {a : Addr} {o : Obj} (S : Sim W env outer loc mem R F s) (f1 : mun mem R a = none) (f2 : ∀ o, ¬ F a o) (f3 : a ≠ env.locals) (f4 : ∀ q ∈ outer, q.1 ≠ a) (f5 : a ≠ sysModules) (ho : s.heap.get? a = some o) : Sim W env outer loc (mset mem a (.raw o)) R F s := by
  obtain ⟨g1, g2⟩ := mun_none f1
  have key : ∀ {b}, b ≠ a → mun (mset mem a (.raw o)) R b = mun mem R b := fun {b} hb => by unfold mun; rw [mset_ne hb]
  have Z := S.z
  refine ⟨fun b y e => ?_, ?_⟩
  · by_cases q : b = a
    · rw [q]; exact g2
    · rw [mset_ne q] at e; exact S.dis b y e
  · exact {
      frz := Z.frz
      base := Z.base
      memF := fun b p e => by
        have hb : b ≠ a := fun q => f2 p (q ▸ e)
        rw [key hb]; exact Z.memF b p e
      memOk := fun b y h => by
        by_cases q : b = a
        · subst q; rw [mun_l (mset_self _ _ _)] at h; cases h; exact ⟨o, ho, .raw⟩
        · rw [key q] at h; exact Z.memOk b y h
      ns := Z.ns
      nsF := ⟨Z.nsF.1, by rw [key (Ne.symm f3)]; exact Z.nsF.2⟩
      outs := fun q hq => let ⟨z, b, c, e⟩ := Z.outs q hq; ⟨z, b, by rw [key (f4 q hq)]; exact c, e⟩
      low := Z.low
      memLow := fun b y h => by
        by_cases q : b = a
        · rw [q]; exact f5
        · rw [key q] at h; exact Z.memLow b y h
      gens := Z.gens
      os := Z.os }
theorem s_def {name qual : Str} {params : Arguments} {body : List Stmt} {scope : Scope} {pos : Pos} {c P : Addr} {clos : List (Str × Addr)} {Q : Fl → Loc → Mem → Prop} (hd0 : params.defaults = []) (hk0 : params.kw_defaults = []) (ha : annTrees params none env = [])
    (hq : qualnameIn env name name = qual) (hcl : closureFor scope env = pure clos) (hg : env.globals = mainGlobals) (hcode : env.code = .ref c) (C : ∀ h, W.K.In h → CodeHd h c P) (B : BmIs W) (T : CodeT P pos qual mem)
    (h : ∀ (f c' : Addr) (oc : Obj) (doc pm ctv : Value) (m' : Mem), mem f = none → m' f = some (.raw (fnMade name qual params body scope clos doc pm c' ctv)) → m' c' = some (.raw oc) → CodeOk qual oc → CodeT P pos qual m' → (∀ b x, b ≠ P → mem b = some x → m' b = some x) →
      Op W A env outer (fun _ (_ _ : Unit) => True) (fun | [y] => storeName env name y | _ => pure ()) [.ref f] loc m' (fun _ => Q .next) E) :
    TrS W A env outer (exec (.FunctionDef name params body [] none [] scope none name pos) env) loc mem Q E := fun R F s S => by
  refine nestDef_K hd0 hk0 ha ?_
  rw [hq]
  have hgs : s.heap.Ns mainGlobals W.mg := W.top.g.keeps S.hbase
  obtain ⟨bm, ob, b1, b2, b3, b4, b5, b6⟩ := B
  have b3' := S.hbase _ _ b3
  have hbG : bm ≠ mainGlobals := fun q => by
    obtain ⟨o, es, ep, e, hd, _⟩ := hgs
    rw [q, e] at b3'; cases b3'; rw [hd] at b6; cases b6
  have C' := C _ S.kin
  have tabs : ∀ ps, mem P = some (.raw (tabObj ps)) → s.heap.get? P = some (tabObj ps) ∧ mainGlobals ≠ P ∧ s.heap.BuiltinsAt W.mg P := fun ps hm => by
    obtain ⟨o, ho, q⟩ := S.memOk _ _ hm
    cases q.view
    refine ⟨ho, fun q => ?_, bm, ob, b1, b2, hbG, fun q => ?_, b3', b4, b5, b6⟩
    · obtain ⟨o, es, ep, e, hd, _⟩ := hgs
      rw [q, ho] at e; cases e; cases hd
    · rw [q, ho] at b3'; cases b3'; cases b4
  cases T with
  | fresh hm =>
    obtain ⟨hP, hGP, hB⟩ := tabs _ hm
    refine makeFunction_K (mg := W.mg) (ps := #[]) hcl hg hgs hcode C' hP True.intro rfl hGP hB fun c' ctv doc h' tk hx hge hlt hrec htb => ?_
    obtain ⟨c₂, oc, vs, t, e2, hoc, hd, hv⟩ := hrec
    cases e2
    have fc := S.z.free_of_none (get?_ge hge)
    have hsz := S.size_le
    have hhs : s.heap.objs.size ≤ h'.objs.size := Nat.le_trans hge (Nat.le_of_lt hlt)
    have ff := S.z.free_of_none (get?_ge hhs)
    obtain ⟨fo, hfo⟩ : ∃ fo, fo = fnMade name qual params body scope clos doc ((W.mg "__name__").getD .none) c' ctv := ⟨_, rfl⟩
    have cP : c' ≠ P := fun q => by have := Heap.lt_size hP; rw [← q] at this; exact absurd this (Nat.not_lt.mpr hge)
    have fP : h'.objs.size ≠ P := fun q => by have := Heap.lt_size hP; rw [← q] at this; exact absurd this (Nat.not_lt.mpr hhs)
    have fcne : h'.objs.size ≠ c' := Nat.ne_of_gt hlt
    have S1 := S.upd (t := tk) (d := s.drawn) (h' := h'.push fo) (x' := .raw _) hm (fun b o hb e => Heap.get?_push_of_some _ (hx b o hb e)) (Heap.get?_push_of_some _ htb) .raw
    have kk : ∀ {b : Addr} {m : Mem} {x : AObj} {a : Addr}, b ≠ a → mun m R b = none → mun (mset m a x) R b = none := fun {b m x a} hb e => by unfold mun at e ⊢; rw [mset_ne hb]; exact e
    have S2 := S1.take (a := c') (kk cP fc.1) fc.2.1 fc.2.2.1 fc.2.2.2 (notMod (Nat.le_trans hsz hge)) (Heap.get?_push_of_some _ hoc)
    have S3 := S2.take (a := h'.objs.size) (kk fcne (kk fP ff.1)) ff.2.1 ff.2.2.1 ff.2.2.2 (notMod (Nat.le_trans hsz hhs)) (Heap.get?_push_size _ (by rw [hfo]; rfl))
    rw [← hfo]
    obtain ⟨M, hM⟩ : ∃ M, M = mset (mset (mset mem P (.raw (tabObj (#[] ++ #[rawInt pos.line, rawInt pos.col, Value.ref c'])))) c' (.raw oc)) h'.objs.size (.raw fo) := ⟨_, rfl⟩
    rw [← hM] at S3
    have h2 := h h'.objs.size c' oc doc ((W.mg "__name__").getD .none) ctv M (mun_none ff.1).1 (by rw [hM, mset_self, hfo]) (by rw [hM, mset_ne (Ne.symm fcne), mset_self]) ⟨vs, t, hd, hv⟩
      (.made c' oc (by rw [hM, mset_ne (Ne.symm fP), mset_ne (Ne.symm cP), mset_self]; rfl) (by rw [hM, mset_ne (Ne.symm fcne), mset_self]) ⟨vs, t, hd, hv⟩)
      (fun b x hb e => by
        have n1 : b ≠ c' := fun q => by rw [q, (mun_none fc.1).1] at e; cases e
        have n2 : b ≠ h'.objs.size := fun q => by rw [q, (mun_none ff.1).1] at e; cases e
        rw [hM, mset_ne n2, mset_ne n1, mset_ne hb]; exact e)
    exact wpAny_mono (h2 R F _ [_] S3 (.cons (.ref _) .nil)) (fun _ _ ⟨F', _, l, m, i, _, S', q⟩ => ⟨F', .next, l, m, i, .next, S', q⟩) fun _ _ e => e
  | made c' oc hm hc ok =>
    obtain ⟨hP, hGP, hB⟩ := tabs _ hm
    refine makeFunction_hit (mg := W.mg) hcl hg hgs hcode C' hP True.intro (cv := .ref c') (by simp [codeAmong, rawInt]) hB fun ctv doc h' tk hk hhs => ?_
    have hsz := S.size_le
    have ff := S.z.free_of_none (get?_ge hhs)
    obtain ⟨fo, hfo⟩ : ∃ fo, fo = fnMade name qual params body scope clos doc ((W.mg "__name__").getD .none) c' ctv := ⟨_, rfl⟩
    have S1 := S.grow (t := tk) (d := s.drawn) (h' := h'.push fo) fun b o e => Heap.get?_push_of_some _ (hk b o e)
    have S3 := S1.take (a := h'.objs.size) ff.1 ff.2.1 ff.2.2.1 ff.2.2.2 (notMod (Nat.le_trans hsz hhs)) (Heap.get?_push_size _ (by rw [hfo]; rfl))
    have off : ∀ b x, mem b = some x → b ≠ h'.objs.size := fun b x e q => by rw [q, (mun_none ff.1).1] at e; cases e
    obtain ⟨M, hM⟩ : ∃ M, M = mset mem h'.objs.size (.raw fo) := ⟨_, rfl⟩
    rw [← hM] at S3
    have h2 := h h'.objs.size c' oc doc ((W.mg "__name__").getD .none) ctv M (mun_none ff.1).1 (by rw [hM, mset_self, hfo]) (by rw [hM, mset_ne (off _ _ hc)]; exact hc) ok
      (.made c' oc (by rw [hM, mset_ne (off _ _ hm)]; exact hm) (by rw [hM, mset_ne (off _ _ hc)]; exact hc) ok)
      (fun b x hb e => by rw [hM, mset_ne (off _ _ e)]; exact e)
    rw [hfo] at S3
    exact wpAny_mono (h2 R F _ [_] S3 (.cons (.ref _) .nil)) (fun _ _ ⟨F', _, l, m, i, _, S', q⟩ => ⟨F', .next, l, m, i, .next, S', q⟩) fun _ _ e => e
theorem fnAt_of {f : Addr} {fo : Obj} {fd : FuncData} (S : Sim W env outer loc mem R F s) (h : mem f = some (.raw fo)) (hd : fo.data = .func fd) : FnAt f s.heap := by
  obtain ⟨o, ho, q⟩ := S.memOk _ _ h
  cases q.view
  obtain ⟨a, b, c, d⟩ := fo
  cases hd
  exact ⟨_, _, _, _, ho⟩
theorem c_mem {f : Addr} {fo : Obj} {fd : FuncData} {e : PySem.Expr} {rest : List PySem.Expr} {pos : Pos} {Q : V → Loc → Mem → Prop} (hm : mem f = some (.raw fo)) (hd : fo.data = .func fd) (he : starEach (e :: rest) env = (false, eval e env) :: starEach rest env) (hplain : (backTo pos (starEach rest env)).any (·.1) = false)
    (h : TrL W A env outer (spliced (backTo pos (starEach (e :: rest) env))) loc mem (fun xs l m => m f = some (.raw fo) ∧ Op W A env outer (VR W) (fun vs => call (.ref f) vs) xs l m Q E) E) :
    Op W A env outer (VR W) (fun | [f] => callWith pos f [] (backTo pos (starEach (e :: rest) env)) [] | _ => pure .none) [.ref f] loc mem Q E := fun R F s vs S r => by
  cases r.view with
  | cons r1 r2 =>
    cases r2.view; cases r1.view
    refine callWith_F (fnAt_of S hm hd) (after (RW := VR W) (Q := fun _ _ _ => True) (h R F s S) fun vs s' F1 xs l1 m1 i1 r1 S1 h1 => ⟨fnAt_of S1 h1.1 hd, ?_⟩) he hplain
    exact wpAny_mono (h1.2 R F1 s' vs S1 r1) (fun _ _ p => p.weaken i1) fun _ _ e => E.up i1 e
theorem call_mem {name qual : Str} {params : Arguments} {body : List Stmt} {scope : Scope} {cl : List (Str × Addr)} {doc pm ctv : Value} {c' : Addr} {oc : Obj} {f : Addr} {xs : List V} {bs : List (Str × V)} {Q : V → Loc → Mem → Prop}
    (hm : mem f = some (.raw (fnMade name qual params body scope cl doc pm c' ctv))) (hc : mem c' = some (.raw oc)) (ok : CodeOk qual oc) (hroom : A.depth < recursionLimit)
    (hbind : Binds W (fnX name qual params body scope cl .none .none doc pm none (.ref c') ctv) [] xs bs) (hloc : ∀ y ∈ bs, scope.names.lookup y.1 = some .local)
    (hcell : ∀ x ∈ scope.names, x.2 ≠ .cell) (hco : scope.isCoroutine = false) (hgen : scope.isGenerator = false) (hk : scope.kind = .function)
    (h : Body W A env outer qual scope body (.ref c') cl f bs.reverse mem (fun v m => Q v loc m) E) : Op W A env outer (VR W) (fun vs => call (.ref f) vs) xs loc mem Q E := fun R F s vs S r => by
  obtain ⟨bv, hb, rb⟩ := hbind F s vs S.base S.kin r
  obtain ⟨o, ho, q⟩ := S.memOk _ _ hm
  cases q.view
  obtain ⟨o2, ho2, q2⟩ := S.memOk _ _ hc
  cases q2.view
  obtain ⟨us, t, d1, d2⟩ := ok
  exact wpAny_call (code_fn S ho rfl ⟨c', oc, us, t, rfl, ho2, d1, d2⟩ hroom hb rb hloc hcell hco hgen hk E (fun _ _ e => e) (fun F' v v' m' s' i r S' q => ⟨F', v, loc, m', i, r, S', q⟩) h)
end
end Mine
end
section
set_option autoImplicit false
namespace Mine
noncomputable def SetB (W : Wd) (o : Obj) (S : Str → Bool) (n : Nat) : Prop := ∀ (h : Heap) (a : Addr), h.get? a = some o → h.SetOf (strKind W.prog W.w) a S n
section
variable {W : Wd} {A : Around} {env : Env} {outer : Outs} {loc : Loc} {mem R : Mem} {E : Ex W} {F : Frz} {s : Shared} {S : Str → Bool} {n : Nat}
theorem SetB.of {h : Heap} {a : Addr} (q : h.SetOf (strKind W.prog W.w) a S n) : ∃ o, h.get? a = some o ∧ SetB W o S n := by
  obtain ⟨o, es, ep, t, e, r⟩ := q
  exact ⟨o, e, fun h' a' e' => ⟨o, es, ep, t, e', r⟩⟩
theorem set_new0 {Q : V → Loc → Mem → Prop} (h : ∀ a o m', mem a = none → SetB W o (fun _ => false) 0 → m' a = some (.raw o) → (∀ b, b ≠ a → m' b = mem b) → Q (.ref a) loc m') : OpV W A env outer (fun vs => call (.type "set") vs) [] loc mem Q E := fun R F s vs S r => by
  cases r.view
  refine call_set_0 fun led => ?_
  refine Post.mk (.ref _) (S.alloc (t := s.toks) (d := s.drawn) (x := .raw _) (get?_size s.heap) S.size_le (fun b o e => Heap.get?_push_of_some _ e) (Heap.get?_push_size _ rfl) .raw) (h _ _ _ (S.free (get?_size s.heap)).1 ?_ (mset_self _ _ _) fun b hb => mset_ne hb)
  intro h a e
  exact ⟨_, #[], 0, _, e, ⟨rfl, rfl, rfl⟩, rfl, fun e he => by simp at he, fun k => by simp, by decide, rfl, rfl⟩
theorem in_setB {a : Addr} {o : Obj} {x : Str} {Q : V → Loc → Mem → Prop} (h1 : mem a = some (.raw o)) (T : SetB W o S n) (h : Q (.bool (S x)) loc mem) :
    OpV W A env outer (fun | [x, y] => compareOp .In x y | _ => pure .none) [.str x, .ref a] loc mem Q E := op2 fun R F s v u S r1 r2 => by
  cases r1.view; cases r2.view
  obtain ⟨o', ho, q⟩ := S.memOk _ _ h1
  cases q.view
  exact wpAny_inSet_of (strKind_is _ _ x _) rfl (T _ _ ho) (Post.mk (.bool _) S.tick h)
theorem notin_setB {a : Addr} {o : Obj} {x : Str} {Q : V → Loc → Mem → Prop} (h1 : mem a = some (.raw o)) (T : SetB W o S n) (h : Q (.bool (!S x)) loc mem) :
    OpV W A env outer (fun | [x, y] => compareOp .NotIn x y | _ => pure .none) [.str x, .ref a] loc mem Q E := op2 fun R F s v u S r1 r2 => by
  cases r1.view; cases r2.view
  obtain ⟨o', ho, q⟩ := S.memOk _ _ h1
  cases q.view
  exact wpAny_notInSet_of (strKind_is _ _ x _) rfl (T _ _ ho) (Post.mk (.bool _) S.tick h)
theorem add_setB {a : Addr} {o : Obj} {x : Str} {Q : V → Loc → Mem → Prop} (h1 : mem a = some (.raw o)) (T : SetB W o S n) (hz : n + 1 < scanBound)
    (h : ∀ o' m', SetB W o' (fun k => S k || decide (k = x)) (if S x then n else n + 1) → m' a = some (.raw o') → (∀ b, b ≠ a → m' b = mem b) → Q .none loc m') :
    OpV W A env outer (fun vs => call (.builtin "set.add") vs) [.ref a, .str x] loc mem Q E := op2 fun R F s v u S r1 r2 => by
  cases r1.view; cases r2.view
  obtain ⟨o', ho, q⟩ := S.memOk _ _ h1
  cases q.view
  refine call_set_add (strKind_is _ _ x _) rfl (T _ _ ho) hz fun h' hsb hS => ?_
  obtain ⟨o', e, T'⟩ := SetB.of hS
  exact Post.mk .none (S.upd (t := s.toks + 1) (d := s.drawn) (x' := .raw o') h1 (fun b ob hb e => (hsb.2 b hb).trans e) e .raw) (h o' _ T' (mset_self _ _ _) fun b hb => mset_ne hb)
theorem m_add_setB {a : Addr} {o : Obj} {pl : Sem Bool} {pos : Pos} {e : PySem.Expr} {rest : List PySem.Expr} {Q : V → Loc → Mem → Prop} (h1 : mem a = some (.raw o)) (T : SetB W o S n)
    (he : starEach (e :: rest) env = (false, eval e env) :: starEach rest env) (hplain : (backTo pos (starEach rest env)).any (·.1) = false)
    (h : TrL W A env outer (spliced (backTo pos (starEach (e :: rest) env))) loc mem (fun xs l m => Op W A env outer (VR W) (fun vs => call (.builtin "set.add") vs) (.ref a :: xs) l m Q E) E) :
    Meth W A env outer "add" pl pos (e :: rest) (.ref a) loc mem Q E := fun R F s v' S r => by
  cases r.view
  obtain ⟨o', ho, q⟩ := S.memOk _ _ h1
  cases q.view
  have hS := T _ _ ho
  refine getMethod_builtin hS.typeIs PySem.F.plainAttrs_set PySem.F.slot_set_add PySem.F.type_set_add hS.noDict ?_
  rw [he]
  refine Calls.callWith_builtin (by show (false || (backTo pos (starEach rest env)).any (·.1)) = false; rw [hplain]; rfl) (Calls.evalArgs_plain ?_)
  have h' := h R F s S
  rw [he] at h'
  refine after (RW := VR W) (Q := fun _ _ _ => True) h' fun vs s' F1 xs l1 m1 i1 r1 S1 h1 => ?_
  exact wpAny_mono (h1 R F1 s' (.ref a :: vs) S1 (.cons (.ref a) r1)) (fun _ _ p => p.weaken i1) fun _ _ e => E.up i1 e
end
end Mine
end
section
set_option autoImplicit false
namespace Mine
inductive Rch (P : List Pr) : Str → Str → Prop
  | refl (s : Str) : Rch P s s
  | step {s y z : Str} {p : Pr} : p ∈ P → p.name = s → y ∈ p.body → Rch P y z → Rch P s z
structure MarkOk (P : List Pr) (s : Str) (S S' : Str → Bool) : Prop where
  sub : ∀ x, S x = true → S' x = true
  has : S' s = true
  snd : ∀ x, S' x = true → S x = true ∨ Rch P s x
  cl : ∀ x, S' x = true → S x = true ∨ ∀ p ∈ P, p.name = x → ∀ y ∈ p.body, S' y = true
structure MI (P : List Pr) (s : Str) (S T : Str → Bool) : Prop where
  sub : ∀ x, S x = true → T x = true
  snd : ∀ x, T x = true → S x = true ∨ Rch P s x
  cl : ∀ x, T x = true → S x = true ∨ ∀ p ∈ P, p.name = x → ∀ y ∈ p.body, T y = true
theorem MI.step {P : List Pr} {s y : Str} {S T T' : Str → Bool} {p : Pr} (h : MI P s S T) (hp : p ∈ P) (hn : p.name = s) (hy : y ∈ p.body) (k : MarkOk P y T T') : MI P s S T' where
  sub x e := k.sub x (h.sub x e)
  snd x e := (k.snd x e).elim (fun e => h.snd x e) fun r => .inr (.step hp hn hy r)
  cl x e := (k.cl x e).elim (fun e => (h.cl x e).imp id fun r p hp hn y hy => k.sub y (r p hp hn y hy)) .inr
noncomputable def addS (S : Str → Bool) (x : Str) : Str → Bool := fun k => S k || decide (k = x)
theorem MI.fin {P : List Pr} {s : Str} {S T : Str → Bool} (h : MI P s (addS S s) T) (hd : ∀ p ∈ P, p.name = s → ∀ y ∈ p.body, T y = true) : MarkOk P s S T := by
  have hs : ∀ x, addS S s x = true → S x = true ∨ x = s := fun x e => by unfold addS at e; simpa using e
  refine ⟨fun x e => h.sub x (by unfold addS; rw [e]; rfl), h.sub s (by unfold addS; simp), fun x e => ?_, fun x e => ?_⟩
  · rcases h.snd x e with q | q
    · rcases hs x q with q | rfl
      · exact .inl q
      · exact .inr (.refl _)
    · exact .inr q
  · rcases h.cl x e with q | q
    · rcases hs x q with q | rfl
      · exact .inl q
      · exact .inr hd
    · exact .inr q
theorem mark_iff {P : List Pr} {s : Str} {T : Str → Bool} (k : MarkOk P s (fun _ => false) T) (x : Str) : T x = true ↔ Rch P s x := by
  refine ⟨fun e => (k.snd x e).elim (fun e => nomatch e) id, fun r => ?_⟩
  have : ∀ a b, Rch P a b → T a = true → T b = true := fun a b r => by
    induction r with
    | refl => exact id
    | step hp hn hy _ ih => exact fun e => ih ((k.cl _ e).elim (fun e => nomatch e) fun q => q _ hp hn _ hy)
  exact this s x r k.has
noncomputable def lackS (U : List Str) (S : Str → Bool) : Nat := (U.filter fun x => !S x).length
theorem lackS_le {U : List Str} {S T : Str → Bool} (h : ∀ x, S x = true → T x = true) : lackS U T ≤ lackS U S := by
  unfold lackS
  induction U with
  | nil => exact Nat.le_refl _
  | cons a U ih =>
    rw [List.filter_cons, List.filter_cons]
    cases e1 : S a with
    | true => rw [h a e1]; exact ih
    | false =>
      cases T a with
      | true => simp only [Bool.not_true, Bool.not_false, if_true, List.length_cons]; exact Nat.le_succ_of_le ih
      | false => simp only [Bool.not_false, if_true, List.length_cons]; exact Nat.succ_le_succ ih
theorem lackS_add {U : List Str} {S : Str → Bool} {x : Str} (hx : x ∈ U) (hn : S x = false) : lackS U (addS S x) < lackS U S := by
  have le := fun U : List Str => lackS_le (U := U) (S := S) (T := addS S x) fun y e => by unfold addS; rw [e]; rfl
  unfold lackS at le ⊢
  induction U with
  | nil => cases hx
  | cons a U ih =>
    rw [List.filter_cons, List.filter_cons]
    by_cases e : a = x
    · subst e
      have e1 : addS S a a = true := by unfold addS; simp
      rw [e1, hn]
      simp only [Bool.not_true, Bool.not_false, if_true, List.length_cons]
      exact Nat.lt_succ_of_le (le U)
    · have := ih ((List.mem_cons.mp hx).resolve_left (Ne.symm e))
      have e1 : addS S x a = S a := by unfold addS; rw [decide_eq_false e, Bool.or_false]
      rw [e1]
      cases S a with
      | true => exact this
      | false => simp only [Bool.not_false, if_true, List.length_cons]; exact Nat.succ_lt_succ this
noncomputable def mkName : Str := "mark_reachable_from"
noncomputable def mkQual : Str := "Grammar.find_unreachable.<locals>.mark_reachable_from"
noncomputable def mkStmt : Stmt := stAt gUnreach.body 0
noncomputable abbrev aTab : Addr := 176
section
variable {W : Wd} {A : Around} {env : Env} {outer : Outs} {loc : Loc} {mem : Mem} {E : Ex W} {adr : Rl → Addr} {g : GR}
theorem s_ret0 {pos : Pos} {Q : Fl → Loc → Mem → Prop} (h : Q (.ret .none) loc mem) : TrS W A env outer (exec (.Return none pos) env) loc mem Q E := fun R F s S => wpAny_Return_none (Post.mk (.ret .none) S h)
structure Mk (adr : Rl → Addr) (g : GR) (L f c' ra : Addr) (doc pm ctv : Value) (oc : Obj) (m : Mem) : Prop where
  rd : Rd adr g m
  hS : m (L + 1) = some (.cell (some (.ref (adr .self))))
  hM : m (L + 2) = some (.cell (some (.ref f)))
  hR : m (L + 3) = some (.cell (some (.ref ra)))
  hf : m f = some (.raw (fnMade mkName mkQual (stArgs mkStmt) (stBody mkStmt) (stScope mkStmt) [("self", L + 1), ("reachable", L + 3), (mkName, L + 2)] doc pm c' ctv))
  hc : m c' = some (.raw oc)
  ok : CodeOk mkQual oc
  ne1 : f ≠ ra
  ne2 : c' ≠ ra
noncomputable def Off (ra : Addr) (m m' : Mem) : Prop := ∀ b x, b ≠ ra → m b = some x → m' b = some x
theorem Off.trans {ra : Addr} {m m' m'' : Mem} (h : Off ra m m') (k : Off ra m' m'') : Off ra m m'' := fun b x n e => k b x n (h b x n e)
theorem Off.sub {ra : Addr} {m m' : Mem} (h : Sub m m') : Off ra m m' := fun b x _ e => h b x e
theorem Off.one {ra : Addr} {m m' : Mem} (h : ∀ b, b ≠ ra → m' b = m b) : Off ra m m' := fun b x n e => (h b n).trans e
theorem Rd.off {ra : Addr} {o : Obj} {m m' : Mem} (r : Rd adr g m) (hr : m ra = some (.raw o)) (s : Off ra m m') : Rd adr g m' where
  self := s _ _ (nex r.self hr) r.self
  dict := let ⟨ep, h⟩ := r.dict; ⟨ep, s _ _ (nex h hr) h⟩
  pl := s _ _ (nex r.pl hr) r.pl
  pn := let ⟨ep, h⟩ := r.pn; ⟨ep, s _ _ (nex h hr) h⟩
  pnL k hk := s _ _ (nex (r.pnL k hk) hr) (r.pnL k hk)
  te := let ⟨ep, h⟩ := r.te; ⟨ep, s _ _ (nex h hr) h⟩
  teL k ns e := s _ _ (nex (r.teL k ns e) hr) (r.teL k ns e)
  no := let ⟨ep, h⟩ := r.no; ⟨ep, s _ _ (nex h hr) h⟩
  noL k ns e := s _ _ (nex (r.noL k ns e) hr) (r.noL k ns e)
theorem Mk.off {L f c' ra : Addr} {doc pm ctv : Value} {oc : Obj} {m m' : Mem} {o : Obj} (h : Mk adr g L f c' ra doc pm ctv oc m) (hr : m ra = some (.raw o)) (s : Off ra m m') : Mk adr g L f c' ra doc pm ctv oc m' where
  rd := h.rd.off hr s
  hS := s _ _ (nex h.hS hr) h.hS
  hM := s _ _ (nex h.hM hr) h.hM
  hR := s _ _ (nex h.hR hr) h.hR
  hf := s _ _ h.ne1 h.hf
  hc := s _ _ h.ne2 h.hc
  ok := h.ok
  ne1 := h.ne1
  ne2 := h.ne2
structure UWf (g : GR) (U : List Str) : Prop where
  syms : ∀ p ∈ g.prods, ∀ y ∈ p.body, y ∈ U
  pn : ∀ p ∈ g.prods, p.name ∈ g.pn
  blen : ∀ p ∈ g.prods, p.body.length ≤ 100
inductive RS (W : Wd) (U : List Str) (ra : Addr) (T : Str → Bool) (m : Mem) : Prop
  | mk (o : Obj) (k : Nat) (h1_ : m ra = some (.raw o)) (h2_ : SetB W o T k) (h3_ : k + lackS U T ≤ 1000)
inductive MJ (W : Wd) (adr : Rl → Addr) (g : GR) (U : List Str) (L f c' ra : Addr) (doc pm ctv : Value) (oc : Obj) (s : Str) (S1 : Str → Bool) (m0 : Mem) (done : List Pr) (l : Loc) (m : Mem) : Prop
  | mk (h1_ : LSub [("s", .str s)] l) (T : Str → Bool) (h2_ : Mk adr g L f c' ra doc pm ctv oc m) (h3_ : RS W U ra T m) (h4_ : MI g.prods s S1 T) (h5_ : ∀ p ∈ done, ∀ y ∈ p.body, T y = true) (h6_ : Off ra m0 m)
inductive MJ2 (W : Wd) (adr : Rl → Addr) (g : GR) (U : List Str) (L f c' ra : Addr) (doc pm ctv : Value) (oc : Obj) (s : Str) (S1 : Str → Bool) (m0 : Mem) (done : List Pr) (dn : List Str) (l : Loc) (m : Mem) : Prop
  | mk (h1_ : LSub [("s", .str s)] l) (T : Str → Bool) (h2_ : Mk adr g L f c' ra doc pm ctv oc m) (h3_ : RS W U ra T m) (h4_ : MI g.prods s S1 T) (h5_ : ∀ p ∈ done, ∀ y ∈ p.body, T y = true) (h6_ : Off ra m0 m) (h7_ : ∀ y ∈ dn, T y = true)
theorem mark_step {U : List Str} {D u : Nat} {S : Str → Bool} {s : Str} {m0 : Mem} {Q : V → Loc → Mem → Prop} (hK : W.K = hdK W.w.params) (w : UWf g U) {L f c' ra : Addr} {doc pm ctv : Value} {oc : Obj}
    (c : Calm A D u) (hD : D ≤ 900) (hu : u ≤ 8000) (k : Mk adr g L f c' ra doc pm ctv oc m0) (rs : RS W U ra S m0) (hs : s ∈ U)
    (rec : S s = false → ∀ {A : Around} {env : Env} {outer : Outs} {loc : Loc} {m : Mem} {E : Ex W} {T : Str → Bool} {y : Str} {Q : V → Loc → Mem → Prop}, Calm A (D + 1) (u + 3) → Mk adr g L f c' ra doc pm ctv oc m → RS W U ra T m → y ∈ U → lackS U T < lackS U S →
      (∀ m' T', Off ra m m' → Mk adr g L f c' ra doc pm ctv oc m' → RS W U ra T' m' → MarkOk g.prods y T T' → Q .none loc m') → OpV W A env outer (fun vs => call (.ref f) vs) [.str y] loc m Q E)
    (h : ∀ m' T, Off ra m0 m' → Mk adr g L f c' ra doc pm ctv oc m' → RS W U ra T m' → MarkOk g.prods s S T → Q .none loc m') : OpV W A env outer (fun vs => call (.ref f) vs) [.str s] loc m0 Q E := by
  refine call_mem (bs := [("s", .str s)]) k.hf k.hc k.ok (Nat.lt_of_le_of_lt c.depth (Nat.lt_of_le_of_lt hD (by decide))) ?_ (by intro y hy; simp at hy; rcases hy with rfl; rfl) (by decide) rfl rfl rfl ?_
  · intro F s vs hb hk r
    cases r.view with
    | cons r1 r2 =>
      cases r2.view
      exact ⟨_, BindsTo.of_eq rfl, .cons r1 .nil⟩
  · intro L' outer
    have cd := c.deeper (envX mkQual (stScope mkStmt) L' f (.ref c') [("self", L + 1), ("reachable", L + 3), (mkName, L + 2)])
    obtain ⟨o, kk, ho, T0, hkz⟩ := rs
    have hR := k.hR
    have hS := k.hS
    have hM := k.hM
    (refine nameS ?_; intro aa vv oo qq ee; refine s_cons ?_); refine s_if ?_; refine b_cmp rfl ?_; refine e_local rfl rfl rfl rfl ?_; refine   e_free rfl rfl rfl rfl rfl     (by       first       | assumption       | simp [mset_self])     ?_
    refine in_setB ho T0 ?_
    refine tr_bool ?_
    refine ⟨fun hb => ?_, fun hb => ?_⟩
    · (refine nameQ ?_; intro qq ee; refine s_cons ?_)
      refine s_ret0 ?_
      refine ⟨m0, sub_refl _, h m0 S (Off.sub (sub_refl _)) k ⟨o, kk, ho, T0, hkz⟩ ⟨fun _ e => e, hb, fun _ e => .inl e, fun _ e => .inl e⟩⟩
    · refine s_nil ?_; refine s_cons ?_; refine s_expr rfl rfl ?_; refine c_meth rfl ?_; refine   e_free rfl rfl rfl rfl rfl     (by       first       | assumption       | simp [mset_self])     ?_
      refine m_add_setB ho T0 rfl rfl ?_
      refine a_cons rfl ?_; refine e_local rfl rfl rfl rfl ?_; refine a_nil ?_
      refine add_setB ho T0 (Nat.lt_of_le_of_lt (show kk + 1 ≤ 1001 by omega) (by decide)) (fun o1 m1 T1 h1 f1 => ?_)
      rw [hb, if_neg Bool.false_ne_true] at T1
      have o1m : Off ra m0 m1 := Off.one f1
      have k1 := k.off ho o1m
      have hlt := lackS_add hs hb
      have rs1 : RS W U ra (addS S s) m1 := ⟨o1, kk + 1, h1, T1, by omega⟩
      have hS1 := k1.hS
      have hx := k1.rd.self
      obtain ⟨epd, hd⟩ := k1.rd.dict
      obtain ⟨epn, hpn⟩ := k1.rd.pn
      refine s_cons ?_; refine s_for (fun _ => rfl) ?_; refine c_meth rfl ?_; refine e_attr rfl ?_; refine   e_free rfl rfl rfl rfl rfl     (by       first       | assumption       | simp [mset_self])     ?_
      refine get_o hK (fun _ => by kernel_rfl) (.own hx hd) rfl rfl ?_
      skip
      refine m_builtin (.dict hpn) PySem.F.plainAttrs_dict PySem.F.slot_dict_get (by show builtinType _ = _; rw [builtinType_eq_fast]; kernel_rfl) rfl rfl ?_
      refine a_cons rfl ?_; refine e_local rfl rfl rfl rfl ?_; refine a_cons rfl ?_; refine e_list ?_; refine a_nil ?_
      refine new_lst (show 0 ≤ sizeLine by decide) ?_
      refine a_nil ?_
      refine dict_get2 hpn ?_
      rw [getA_keys (fun k => V.ref (adr (.pnL k)))]
      have J0 : MJ W adr g U L f c' ra doc pm ctv oc s (addS S s) m0 [] [("s", .str s)] m1 := ⟨rfl, addS S s, k1, rs1, ⟨fun _ e => e, fun _ e => .inl e, fun _ e => .inl e⟩, (fun p hp => nomatch hp), o1m⟩
      have fin : ∀ (l : Loc) (m' : Mem), MJ W adr g U L f c' ra doc pm ctv oc s (addS S s) m0 (g.prods.filter fun p => p.name = s) l m' → TrS W aa vv oo (execs [] vv) l m' (Cont W aa vv oo [] qq ee) (LoopE W aa vv ee) := fun l m' J => by
        obtain ⟨hl, T, k2, rs2, mi, hd, hoff⟩ := J
        refine s_nil ?_; refine s_nil ?_
        exact ⟨m', sub_refl _, h m' T hoff k2 rs2 (mi.fin fun p hp hn y hy => hd p (List.mem_filter.mpr ⟨hp, decide_eq_true hn⟩) y hy)⟩
      by_cases hin : s ∈ g.pn
      · rw [if_pos hin]
        show ForK W aa vv oo _ _ _ (.ref (adr (.pnL s))) _ _ _ _
        have hpl := k1.rd.pnL s hin
        refine for_map (ys := g.prods.filter fun p => p.name = s) (fun _ => pV aProd) (itr_own cd.handled hpl) (fun i => MJ W adr g U L f c' ra doc pm ctv oc s (addS S s) m0 ((g.prods.filter fun p => p.name = s).take i)) (fun i l m hi J => ?_) (fun l m J => ?_) (fun i p l m hy J => ?_) (by rw [List.take_zero]; exact J0)
        · obtain ⟨_, _, k2, _⟩ := J
          exact ownItem_map (k2.rd.pnL s hin)
        · rw [List.take_length] at J
          exact fin l m J
        · obtain ⟨hl, T, k2, rs2, mi, hd, hoff⟩ := J
          obtain ⟨hpP, hpn'⟩ := List.mem_filter.mp (List.mem_of_getElem? hy)
          have hpn' := of_decide_eq_true hpn'
          have hst := take_snoc hy
          refine Op.locs hl ?_
          refine asg_name ?_; refine st_local rfl rfl ?_; (refine nameQ ?_; intro qq ee; refine s_cons ?_); refine s_for (fun _ => rfl) ?_; refine e_attr rfl ?_; refine e_local rfl rfl rfl rfl ?_
          refine get_o hK (fun _ => by kernel_rfl) .frz rfl rfl ?_
          skip
          refine for_map (ys := p.body) (fun _ => V.str) (itr_tup cd.handled) (fun j => MJ2 W adr g U L f c' ra doc pm ctv oc s (addS S s) m0 ((g.prods.filter fun p => p.name = s).take i) (p.body.take j)) (fun j l m hj J => ?_) (fun l m J => ?_) (fun j y l m hy J => ?_) ⟨rfl, T, k2, rs2, mi, hd, hoff, fun y hy => nomatch hy⟩
          · show some ((vStrs p.body)[j]?) = _
            unfold vStrs; rw [List.getElem?_map]
          · obtain ⟨hl, T, k2, rs2, mi, hd, hoff, hy⟩ := J
            rw [List.take_length] at hy
            refine s_nil ?_; refine s_nil ?_
            refine ⟨hl, T, k2, rs2, mi, fun q hq => ?_, hoff⟩
            rw [hst] at hq
            rcases List.mem_append.mp hq with hq | hq
            · exact hd q hq
            · rw [List.mem_singleton] at hq; rw [hq]; exact hy
          · obtain ⟨hl, T, k2, rs2, mi, hd, hoff, hdn⟩ := J
            have hyb : y ∈ p.body := List.mem_of_getElem? hy
            refine Op.locs hl ?_
            have hM2 := k2.hM
            refine asg_name ?_; refine st_local rfl rfl ?_; (refine nameQ ?_; intro qq ee; refine s_cons ?_); refine s_expr rfl rfl ?_; refine c_name rfl ?_; refine   e_free rfl rfl rfl rfl rfl     (by       first       | assumption       | simp [mset_self])     ?_
            refine c_mem k2.hf rfl rfl rfl ?_
            refine a_cons rfl ?_; refine e_local rfl rfl rfl rfl ?_; refine a_nil ?_
            refine ⟨k2.hf, ?_⟩
            obtain ⟨o2, kk2, ho2, T2, hkz2⟩ := id rs2
            refine rec hb (cd.mono (Nat.le_refl _) (Nat.le_refl _)) k2 rs2 (w.syms p hpP y hyb) (Nat.lt_of_le_of_lt (lackS_le mi.sub) hlt) (fun m' T' off k' rs' mk => ?_)
            refine s_nil ?_
            refine ⟨rfl, T', k', rs', mi.step hpP hpn' hyb mk, (fun q hq z hz => mk.sub z (hd q hq z hz)), hoff.trans off, fun z hz => ?_⟩
            rw [take_snoc hy] at hz
            rcases List.mem_append.mp hz with hz | hz
            · exact mk.sub z (hdn z hz)
            · rw [List.mem_singleton] at hz; rw [hz]; exact mk.has
      · rw [if_neg hin]
        show ForK W aa vv oo _ _ _ (.lst []) _ _ _ _
        have hno : (g.prods.filter fun p => p.name = s) = [] := by
          rw [List.filter_eq_nil_iff]
          intro p hp q
          exact hin (of_decide_eq_true q ▸ w.pn p hp)
        rw [hno] at fin
        refine for_map (ys := ([] : List Pr)) (fun _ => pV aProd) (itr_lst cd.handled) (fun i => MJ W adr g U L f c' ra doc pm ctv oc s (addS S s) m0 []) (fun i l m hi J => ?_) (fun l m J => fin l m J) (fun i p l m hy J => (by simp at hy)) J0
        show some (([] : List V)[i]?) = _
        simp
theorem mark_spec {U : List Str} (hK : W.K = hdK W.w.params) (w : UWf g U) {L f c' ra : Addr} {doc pm ctv : Value} {oc : Obj} : ∀ (n : Nat) {A : Around} {env : Env} {outer : Outs} {loc : Loc} {m : Mem} {E : Ex W} {S : Str → Bool} {s : Str} {Q : V → Loc → Mem → Prop},
    n ≤ 200 → Calm A (900 - n) (8000 - 10 * n) → Mk adr g L f c' ra doc pm ctv oc m → RS W U ra S m → s ∈ U → lackS U S ≤ n →
    (∀ m' T, Off ra m m' → Mk adr g L f c' ra doc pm ctv oc m' → RS W U ra T m' → MarkOk g.prods s S T → Q .none loc m') → OpV W A env outer (fun vs => call (.ref f) vs) [.str s] loc m Q E := by
  intro n
  induction n with
  | zero =>
    intro A env outer loc m E S s Q hn c k rs hs hl h
    exact mark_step hK w c (by decide) (by decide) k rs hs (fun hb => absurd (lackS_add hs hb) (by omega)) h
  | succ n ih =>
    intro A env outer loc m E S s Q hn c k rs hs hl h
    refine mark_step hK w c (by omega) (by omega) k rs hs (fun hb => ?_) h
    intro A env outer loc m E T y Q c k rs hy hlt h
    exact ih (by omega) (c.mono (by omega) (by omega)) k rs hy (by omega) h
end
end Mine
end
section
set_option autoImplicit false
namespace Mine
noncomputable def ABC : List Str := ["a", "b", "c"]
theorem sy_ident : ∀ s ∈ SY, (0 < s.cps.size ∧ s.cps.size ≤ 100 ∧ PyData.strOk s = true) ∧ isIdent s = true ∧ (∀ c ∈ s.cps[0]?, strIn ⟨#[c]⟩ "'\"" = false) ∧ s ≠ "%prec" := by decide +kernel
theorem symOk_of {s : Str} (h : s ∈ SY) : SymOk s := by
  obtain ⟨⟨a, b, c⟩, d, e, f⟩ := sy_ident s h
  exact ⟨a, b, c, d, fun x hx => e x hx, f⟩
theorem sy_facts : (∀ t ∈ ABC, t ∈ SY ∧ t ∉ NM ∧ t ≠ "error" ∧ t ≠ dEnd) ∧ (∀ s ∈ SY, s ∈ ABC ∨ s ∈ NM) ∧ ("error" : Str) ∉ SY ∧ dEnd ∉ SY ∧ ("error" : Str) ≠ dEnd ∧ ("error" : Str) ∉ ABC ∧ ABC.Nodup ∧ ssS ∈ NM ∧ ssS ∈ SY := by decide +kernel
structure RG (ts : List Str) (R : List Rule) : Prop where
  ok : ∀ r ∈ R, RL r
  nd : R.Nodup
  hz : R.length ≤ 7
  has : ∃ r ∈ R, ssS = r.1
  tnd : ts.Nodup
  tab : ∀ t ∈ ts, t ∈ ABC
  tm : ∀ r ∈ R, ∀ y ∈ r.2, y ∈ ts ∨ y ∈ NM
inductive Gd (ts : List Str) (R : List Rule) : Str → Prop
  | base {t : Str} : t ∈ ts → Gd ts R t
  | rule {r : Rule} : r ∈ R → (∀ y ∈ r.2, Gd ts R y) → Gd ts R r.1
inductive RchR (R : List Rule) : Str → Str → Prop
  | refl (s : Str) : RchR R s s
  | step {y z : Str} {r : Rule} : r ∈ R → y ∈ r.2 → RchR R y z → RchR R r.1 z
noncomputable def gOf (ts : List Str) (up : V) (R : List Rule) : GR := startG aProd (madeG ts up R) ssS
section
variable {ts : List Str} {R : List Rule} {up : V}
theorem sub_len {l u : List Str} (hn : l.Nodup) (h : ∀ x ∈ l, x ∈ u) : l.length ≤ u.length := by
  induction l generalizing u with
  | nil => exact Nat.zero_le _
  | cons a l ih =>
    rw [List.nodup_cons] at hn
    have ha := h a (.head _)
    have := ih (u := u.erase a) hn.2 fun x hx => by
      have hne : x ≠ a := fun e => hn.1 (e ▸ hx)
      exact (List.mem_erase_of_ne hne).mpr (h x (.tail _ hx))
    rw [List.length_erase_of_mem ha] at this
    have := List.length_pos_of_mem ha
    rw [List.length_cons]; omega
theorem tlen_of (h : ts.Nodup) (h2 : ∀ t ∈ ts, t ∈ ABC) : ts.length ≤ 3 := sub_len h h2
theorem RG.no_te (G : RG ts R) {r : Rule} (hr : r ∈ R) : r.1 ∉ ts ++ [("error" : Str)] := fun h => by
  have hl := (G.ok r hr).left
  rcases List.mem_append.mp h with h | h
  · exact (sy_facts.1 _ (G.tab _ h)).2.1 hl
  · rw [List.mem_singleton] at h; exact sy_facts.2.2.1 (h ▸ nm_sy _ hl)
theorem RG.gr (G : RG ts R) : GrOk ts R where
  z := Nat.le_trans (tlen_of G.tnd G.tab) (by decide)
  nd := G.tnd
  err := fun h => sy_facts.2.2.2.2.2.1 (G.tab _ h)
  ok := fun r hr => ⟨symOk_of (nm_sy _ (G.ok r hr).left), G.no_te hr, Nat.le_trans (G.ok r hr).len (by decide), fun y hy => symOk_of ((G.ok r hr).body y hy)⟩
  Rz := Nat.le_trans G.hz (by decide)
  Rd := G.nd
  mi := fun r hr q hq e => mapText_inj (G.ok r hr) (G.ok q hq) e
theorem RG.inv (G : RG ts R) (up : V) : MadeInv ts R (madeG ts up R) := MadeInv.all R fun r hr => ⟨G.no_te hr, Nat.le_trans (G.ok r hr).len (by decide)⟩
theorem RG.ui (G : RG ts R) (up : V) : UI ((madeG ts up R).te, (madeG ts up R).no) fun k => ∀ q ∈ R, k ∉ q.2 := UI.all R fun r hr => ⟨G.no_te hr, Nat.le_trans (G.ok r hr).len (by decide)⟩
theorem gOf_no : (gOf ts up R).no.map (·.1) = (madeG ts up R).no.map (·.1) := pushL_keys _ _ _
theorem RG.te (G : RG ts R) : (gOf ts up R).te.map (·.1) = ts ++ [("error" : Str)] := (G.inv up).te
theorem RG.prods (G : RG ts R) : (gOf ts up R).prods.map (fun p => (p.name, p.body)) = R := (G.inv up).prods
theorem RG.pm (G : RG ts R) {p : Pr} (h : p ∈ (gOf ts up R).prods) : (p.name, p.body) ∈ R := by
  have : (p.name, p.body) ∈ (gOf ts up R).prods.map fun p => (p.name, p.body) := List.mem_map.mpr ⟨p, h, rfl⟩
  rw [G.prods] at this; exact this
theorem RG.mp (G : RG ts R) {r : Rule} (h : r ∈ R) : ∃ p ∈ (gOf ts up R).prods, p.name = r.1 ∧ p.body = r.2 := by
  rw [← G.prods (up := up)] at h
  obtain ⟨p, hp, rfl⟩ := List.mem_map.mp h
  exact ⟨p, hp, rfl, rfl⟩
theorem RG.pn (G : RG ts R) (n : Str) : n ∈ (gOf ts up R).pn ↔ ∃ r ∈ R, r.1 = n := (G.inv up).pn n
theorem RG.no (G : RG ts R) (n : Str) : n ∈ (gOf ts up R).no.map (·.1) ↔ ∃ r ∈ R, n = r.1 ∨ (n ∈ r.2 ∧ n ∈ NM) := by
  rw [gOf_no, (G.inv up).no]
  refine exists_congr fun r => and_congr_right fun hr => or_congr Iff.rfl (and_congr_right fun hn => ?_)
  constructor
  · intro h
    exact (G.tm r hr n hn).resolve_left fun z => h (List.mem_append_left _ z)
  · intro h z
    rcases List.mem_append.mp z with z | z
    · exact (sy_facts.1 _ (G.tab _ z)).2.1 h
    · rw [List.mem_singleton] at z; exact sy_facts.2.2.1 (z ▸ nm_sy _ h)
theorem RG.no_nm (G : RG ts R) {n : Str} (h : n ∈ (gOf ts up R).no.map (·.1)) : n ∈ NM := by
  obtain ⟨r, hr, rfl | ⟨_, h⟩⟩ := (G.no n).mp h
  · exact (G.ok r hr).left
  · exact h
theorem RG.nod (G : RG ts R) : ((gOf ts up R).no.map (·.1)).Nodup := by rw [gOf_no]; exact (G.inv up).nod
theorem RG.tnod (G : RG ts R) : ((gOf ts up R).te.map (·.1)).Nodup := by
  rw [G.te, List.nodup_append]
  exact ⟨G.tnd, by simp, fun a ha b hb e => by rw [List.mem_singleton] at hb; subst hb; exact sy_facts.2.2.2.2.2.1 (G.tab _ (e ▸ ha))⟩
theorem RG.iwf (G : RG ts R) : IWf (gOf ts up R) where
  nd := by
    unfold kK tK
    rw [List.nodup_append, List.nodup_append]
    refine ⟨⟨G.tnod, by simp, fun a ha b hb e => ?_⟩, G.nod, fun a ha b hb e => ?_⟩
    · rw [List.mem_singleton] at hb; subst hb; subst e
      rw [G.te] at ha
      rcases List.mem_append.mp ha with h | h
      · exact (sy_facts.1 _ (G.tab _ h)).2.2.2 rfl
      · rw [List.mem_singleton] at h; exact sy_facts.2.2.2.2.1 h.symm
    · subst e
      have hb := G.no_nm hb
      rcases List.mem_append.mp ha with ha | ha
      · rw [G.te] at ha
        rcases List.mem_append.mp ha with h | h
        · exact (sy_facts.1 _ (G.tab _ h)).2.1 hb
        · rw [List.mem_singleton] at h; exact sy_facts.2.2.1 (h ▸ nm_sy _ hb)
      · rw [List.mem_singleton] at ha; exact sy_facts.2.2.2.1 (ha ▸ nm_sy _ hb)
  tz := by
    have := congrArg List.length (G.te (up := up))
    have h3 := tlen_of G.tnd G.tab
    rw [List.length_map, List.length_append, List.length_singleton] at this; omega
  nz := by
    have : ((gOf ts up R).no.map (·.1)).length ≤ 4 := sub_len (u := NM) G.nod fun n hn => G.no_nm hn
    rw [List.length_map] at this; omega
  pz := by have := (G.inv up).pz; have := G.hz; show (madeG ts up R).pn.length ≤ _; omega
  syms := fun p hp s hs => by
    have hr := G.pm hp
    unfold kK tK
    rcases G.tm _ hr s hs with h | h
    · exact List.mem_append_left _ (List.mem_append_left _ (by rw [G.te]; exact List.mem_append_left _ h))
    · exact List.mem_append_right _ ((G.no s).mpr ⟨_, hr, .inr ⟨hs, h⟩⟩)
  blen := fun p hp => Nat.le_trans (G.ok _ (G.pm hp)).len (by decide)
  names := fun p hp => (G.pn _).mpr ⟨_, G.pm hp, rfl⟩
  pnk := fun n hn => by
    obtain ⟨r, hr, rfl⟩ := (G.pn n).mp hn
    exact List.mem_append_right _ ((G.no _).mpr ⟨r, hr, .inl rfl⟩)
  prz := by have := congrArg List.length (G.prods (up := up)); rw [List.length_map] at this; have := G.hz; omega
theorem RG.uwf (G : RG ts R) : UWf (gOf ts up R) SY where
  syms := fun p hp y hy => (G.ok _ (G.pm hp)).body y hy
  pn := fun p hp => (G.pn _).mpr ⟨_, G.pm hp, rfl⟩
  blen := fun p hp => Nat.le_trans (G.ok _ (G.pm hp)).len (by decide)
theorem RG.ends (G : RG ts R) {s : Str} (hs : s ∈ SY) : EndsI (gOf ts up R).prods (tK (gOf ts up R)) s ↔ Gd ts R s := by
  constructor
  · intro h
    induction h with
    | @base s h =>
      unfold tK at h
      rw [G.te] at h
      rcases List.mem_append.mp h with h | h
      · rcases List.mem_append.mp h with h | h
        · exact .base h
        · rw [List.mem_singleton] at h; exact absurd (h ▸ hs) sy_facts.2.2.1
      · rw [List.mem_singleton] at h; exact absurd (h ▸ hs) sy_facts.2.2.2.1
    | @rule p hp _ ih =>
      have hr := G.pm hp
      exact Gd.rule (r := (p.name, p.body)) hr fun y hy => ih y hy ((G.ok _ hr).body y hy)
  · intro h
    induction h with
    | base h => exact .base (List.mem_append_left _ (by rw [G.te]; exact List.mem_append_left _ h))
    | @rule r hr _ ih =>
      obtain ⟨p, hp, e1, e2⟩ := G.mp (up := up) hr
      rw [← e1]
      exact .rule hp fun s hs => ih s (e2 ▸ hs) ((G.ok r hr).body s (e2 ▸ hs))
theorem RG.rch (G : RG ts R) {x y : Str} : Rch (gOf ts up R).prods x y ↔ RchR R x y := by
  constructor
  · intro h
    induction h with
    | refl s => exact .refl s
    | step hp hn hy _ ih => exact hn ▸ RchR.step (G.pm hp) hy ih
  · intro h
    induction h with
    | refl s => exact .refl s
    | @step y z r hr hy _ ih =>
      obtain ⟨p, hp, e1, e2⟩ := G.mp (up := up) hr
      exact .step hp e1 (e2 ▸ hy) ih
theorem RG.und (G : RG ts R) {s : Str} (hs : s ∈ SY) : undS (gOf ts up R) s = true ↔ (¬ ∃ r ∈ R, r.1 = s) ∧ s ∉ ts := by
  unfold undS
  rw [G.te]
  simp only [Bool.and_eq_true, Bool.not_eq_true', decide_eq_false_iff_not, G.pn, List.mem_append, List.mem_singleton, not_or]
  constructor
  · rintro ⟨a, b, _⟩; exact ⟨a, b.1⟩
  · rintro ⟨a, b⟩
    have : s ≠ ("error" : Str) := fun e => sy_facts.2.2.1 (e ▸ hs)
    exact ⟨a, ⟨b, this⟩, this⟩
end
end Mine
end
section
set_option autoImplicit false
namespace Mine
theorem unCode (K : Frag) (P : Params) (e : K = lawHeap P) : ∀ h : Heap, K.In h → CodeHd h 178 aTab := fun h X => by
  subst e
  exact ⟨_, _, _, _, _, _, _, _, _, X 178 _ (by rfl), rfl, rfl, rfl, rfl, rfl, rfl, rfl, rfl, by decide⟩
noncomputable def mkPos : Pos := ⟨157, 8, 163, 42⟩
theorem unClos (L : Addr) : closureFor (stScope mkStmt) (envC "Grammar.find_unreachable" gUnreach.scope L 179 gUnreach.code) = pure [(("self" : Str), L + 1), ("reachable", L + 3), (mkName, L + 2)] := by
  kernel_rfl
theorem unQual (L : Addr) : qualnameIn (envC "Grammar.find_unreachable" gUnreach.scope L 179 gUnreach.code) mkName mkName = mkQual := by kernel_rfl
section
variable {W : Wd} {A : Around} {env : Env} {outer : Outs} {loc : Loc} {mem : Mem} {E : Ex W} {adr : Rl → Addr} {g : GR}
theorem CodeT.mono {P : Addr} {pos : Pos} {qual : Str} {m m' : Mem} (T : CodeT P pos qual m) (h : ∀ b o, m b = some (.raw o) → m' b = some (.raw o)) : CodeT P pos qual m' := by
  cases T with
  | fresh a => exact .fresh (h _ _ a)
  | made c' oc a b d => exact .made c' oc (h _ _ a) (h _ _ b) d
theorem s_cell4 {x : Str} {c : Addr} {u : Option V} {v : V} {Q : Loc → Mem → Prop} {hk : env.scope.kind = .function} {hl : env.kindOf x = some .cell} {hc : env.cells.lookup x = some c} (hm : mem c = some (.cell u))
    (h : ∀ m', m' c = some (.cell (some v)) → (∀ b, b ≠ c → m' b = mem b) → Q loc m') :
    Op W A env outer (fun _ (_ _ : Unit) => True) (fun | [y] => storeName env x y | _ => pure ()) [v] loc mem (fun _ => Q) E := st_cell hk hl hc hm (h _ (mset_self _ _ _) fun b hb => mset_ne hb)
theorem unreach_spec {U : List Str} {q0 : Pr} {st : Str} {Q : V → Loc → Mem → Prop} (hK : W.K = hdK W.w.params) (B : BmIs W) (c : Calm A 600 5000) (r : Rd adr g mem) (w : UWf g U) (h0 : g.p0 = pV aProd q0) (hb0 : q0.body = [st]) (hst : st ∈ U) (hU : U.length ≤ 150) (hnz : g.no.length ≤ 100)
    (T0 : CodeT aTab mkPos mkQual mem)
    (h : ∀ (T : Str → Bool) m', (∀ x, T x = true ↔ Rch g.prods st x) → Off aTab mem m' → CodeT aTab mkPos mkQual m' → Q (.lst (vStrs ((g.no.map (·.1)).filter fun x => !T x))) loc m') : OpV W A env outer (fun vs => call (.ref 179) vs) [.ref (adr .self)] loc mem Q E := by
  refine call_fnC (bs := [("self", .ref (adr .self))]) (by rw [hK]; exact gUnreach.at _) (by rw [hK]; first | rfl | kernel_rfl | decide +kernel) (c.room (by decide)) ?_ rfl rfl rfl ?_ ?_ ?_
  · intro F vs r
    cases r.view with
    | cons r1 r2 =>
      cases r2.view
      exact ⟨_, rfl, .cons r1 .nil⟩
  · intro x hx
    simp at hx
    subst hx
    exact .inr ⟨rfl, fun n => rfl⟩
  · intro k p hp
    have : cellsFrom k gUnreach.scope.names [] = [(("reachable" : Str), k + 2), (mkName, k + 1), (("self" : Str), k)] := rfl
    rw [this] at hp ⊢
    simp only [List.mem_cons, List.not_mem_nil, or_false] at hp
    rcases hp with rfl | rfl | rfl <;> rfl
  · intro L m0 hc hL
    have cd := c.deeper (envC "Grammar.find_unreachable" gUnreach.scope L 179 gUnreach.code)
    have hc1 : mem (L + 1) = none := hc ("self", L + 1) (.tail _ (.tail _ (.head _)))
    have hc2 : mem (L + 2) = none := hc (mkName, L + 2) (.tail _ (.head _))
    have hc3 : mem (L + 3) = none := hc ("reachable", L + 3) (.head _)
    have ecell : layC (fun n => List.lookup n (onlyC (fun n => List.lookup n gUnreach.scope.names) [("self", V.ref (adr .self))])) (cellsFrom (L + 1) gUnreach.scope.names []) mem = mset (mset (mset mem (L + 1) (.cell (some (.ref (adr .self))))) (L + 2) (.cell none)) (L + 3) (.cell none) := by
      show layC _ [(("reachable" : Str), L + 1 + 2), (mkName, L + 1 + 1), (("self" : Str), L + 1)] mem = _
      rfl
    rw [ecell]
    obtain ⟨M0, hM0⟩ : ∃ M0, M0 = mset (mset (mset mem (L + 1) (.cell (some (.ref (adr .self))))) (L + 2) (.cell none)) (L + 3) (.cell none) := ⟨_, rfl⟩
    have n12 : L + 1 ≠ L + 2 := Nat.ne_of_lt (by omega)
    have n13 : L + 1 ≠ L + 3 := Nat.ne_of_lt (by omega)
    have n23 : L + 2 ≠ L + 3 := Nat.ne_of_lt (by omega)
    have hS0 : M0 (L + 1) = some (.cell (some (.ref (adr .self)))) := by rw [hM0, mset_ne n13, mset_ne n12, mset_self]
    have hM0' : M0 (L + 2) = some (.cell none) := by rw [hM0, mset_ne n23, mset_self]
    have hR0 : M0 (L + 3) = some (.cell none) := by rw [hM0, mset_self]
    have s0 : Sub mem M0 := fun b x e => by rw [hM0, mset_ne (nex e hc3), mset_ne (nex e hc2), mset_ne (nex e hc1)]; exact e
    have T1 := T0.mono (m' := M0) fun b o e => s0 _ _ e
    rw [← hM0]
    clear hM0 ecell
    refine s_cons ?_
    refine s_def (name := mkName) (params := stArgs mkStmt) (body := stBody mkStmt) (scope := stScope mkStmt) (pos := mkPos) (c := 178) (P := aTab) (qual := mkQual) rfl rfl rfl (unQual L) (unClos L) rfl rfl (unCode _ _ hK) B T1 (fun f c' oc doc pm ctv m1 hf0 hf hc' ok T2 off1 => ?_)
    have hTm : ∃ ps, mem aTab = some (.raw (tabObj ps)) := by
      cases T0 with
      | fresh a => exact ⟨_, a⟩
      | made c' oc a b d => exact ⟨_, a⟩
    obtain ⟨ps, hTm⟩ := hTm
    have hTm0 := s0 _ _ hTm
    have hS1 := off1 _ _ (nex hS0 hTm0) hS0
    have hM1 := off1 _ _ (nex hM0' hTm0) hM0'
    have hR1 := off1 _ _ (nex hR0 hTm0) hR0
    have off01 : Off aTab mem m1 := (Off.sub s0).trans off1
    refine st_cell rfl rfl rfl hM1 ?_
    obtain ⟨M2, hM2⟩ : ∃ M2, M2 = mset m1 (L + 2) (.cell (some (.ref f))) := ⟨_, rfl⟩
    rw [← hM2]
    have f2 : ∀ b, b ≠ L + 2 → M2 b = m1 b := fun b hb => by rw [hM2, mset_ne hb]
    have hM2' : M2 (L + 2) = some (.cell (some (.ref f))) := by rw [hM2, mset_self]
    clear hM2
    have hS2 : M2 (L + 1) = _ := (f2 _ n12).trans hS1
    have hR2 : M2 (L + 3) = _ := (f2 _ (Ne.symm n23)).trans hR1
    have hf2 : M2 f = _ := (f2 _ (nex hf hM1)).trans hf
    have hc2' : M2 c' = _ := (f2 _ (nex hc' hM1)).trans hc'
    have T2' := T2.mono (m' := M2) fun b o e => (f2 _ (nex e hM1)).trans e
    have off02 : Off aTab mem M2 := fun b x hb e => (f2 _ (nex e hc2)).trans (off01 b x hb e)
    (refine nameS ?_; intro aa vv oo qq ee; refine s_cons ?_); refine s_assign rfl ?_; refine c_name rfl ?_; refine e_boot rfl rfl rfl rfl rfl (by rw [hK]; rfl) rfl (by decide) ?_; refine c_type0 ?_
    refine set_new0 (fun ra o m3 hra T3 h3 f3 => ?_)
    have s3 : Sub M2 m3 := Sub.new (sub_refl _) hra f3
    have hR3 := s3 _ _ hR2
    refine s_cell4 (hk := rfl) (hl := rfl) (hc := rfl) hR3 (fun M4 hR4 f4 => ?_)
    have hS4 : M4 (L + 1) = _ := (f4 _ n13).trans (s3 _ _ hS2)
    have hM4 : M4 (L + 2) = _ := (f4 _ n23).trans (s3 _ _ hM2')
    have hf4 : M4 f = _ := (f4 _ (nex hf2 hR2)).trans (s3 _ _ hf2)
    have hc4 : M4 c' = _ := (f4 _ (nex hc2' hR2)).trans (s3 _ _ hc2')
    have h4 : M4 ra = _ := (f4 _ (nex h3 hR3)).trans h3
    have off04 : Off aTab mem M4 := fun b x hb e => (f4 _ (nex e hc3)).trans (s3 _ _ (off02 b x hb e))
    have r4 := r.off hTm off04
    have nf : f ≠ ra := fun e => by rw [e, hra] at hf2; cases hf2
    have nc : c' ≠ ra := fun e => by rw [e, hra] at hc2'; cases hc2'
    have k4 : Mk adr g L f c' ra doc pm ctv oc M4 := ⟨r4, hS4, hM4, hR4, hf4, hc4, ok, nf, nc⟩
    have hx := r4.self
    obtain ⟨epd, hd⟩ := r4.dict
    have hp := r4.pl
    refine s_cons ?_; refine s_expr rfl rfl ?_; refine c_name rfl ?_; refine   e_cell rfl rfl rfl rfl     (by       first       | assumption       | simp [mset_self])     ?_
    refine c_mem hf4 rfl rfl rfl ?_
    refine a_cons rfl ?_; refine e_sub (fun _ _ => rfl) ?_; refine e_attr rfl ?_; refine e_sub (fun _ _ => rfl) ?_; refine e_attr rfl ?_; refine   e_cell rfl rfl rfl rfl     (by       first       | assumption       | simp [mset_self])     ?_
    refine get_o hK (fun _ => by kernel_rfl) (.own hx hd) rfl rfl ?_
    refine e_int ?_
    refine sub_sq (k := 0) (x := pV aProd q0) (.own hp) (by decide) (by decide) (by rw [h0]; rfl) ?_
    skip
    refine get_o hK (fun _ => by kernel_rfl) .frz rfl rfl ?_
    refine e_int ?_
    refine sub_sq (k := 0) (x := .str st) (.tup _) (by decide) (by decide) (by rw [hb0]; rfl) ?_
    refine a_nil ?_
    refine ⟨hf4, ?_⟩
    refine mark_spec hK w 150 (by decide) (cd.mono (by decide) (by decide)) k4 ⟨o, 0, h4, T3, ?_⟩ hst ?_ (fun m5 T off5 k5 rs5 mk => ?_)
    · have : lackS U (fun _ => false) ≤ U.length := List.length_filter_le _ _
      omega
    · exact Nat.le_trans (List.length_filter_le _ _) hU
    obtain ⟨o5, kk5, h5, T5, _⟩ := rs5
    have off05 : ∀ b x, b ≠ aTab → mem b = some x → m5 b = some x := fun b x hb e => by
      have hbr : b ≠ ra := fun q => by have := off02 b x hb e; rw [q, hra] at this; cases this
      exact off5 b x hbr (off04 b x hb e)
    have raw5 : ∀ b o, M2 b = some (.raw o) → m5 b = some (.raw o) := fun b o e => by
      have hbr : b ≠ ra := fun q => by rw [q, hra] at e; cases e
      exact off5 b _ hbr ((f4 _ (nex e hR2)).trans (s3 _ _ e))
    have T5' := T2'.mono raw5
    have hS5 := k5.hS
    have hR5 := k5.hR
    have hx5 := k5.rd.self
    obtain ⟨epd5, hd5⟩ := k5.rd.dict
    obtain ⟨epn5, hn5⟩ := k5.rd.no
    refine s_cons ?_
    refine s_ret (Tr.shift ?_)
    refine e_listcomp rfl (by decide) rfl (by decide) (fun _ => rfl) ?_; refine e_attr rfl ?_; refine   e_cell rfl rfl rfl rfl     (by       first       | assumption       | simp [mset_self])     ?_
    refine get_o hK (fun _ => by kernel_rfl) (.own hx5 hd5) rfl rfl ?_
    skip
    refine comp_map (itr_dict cd.handled hn5) (vStrs (g.no.map (·.1))) (fun m i hs hi => ?_) (by rw [vStrs_len, List.length_map]; exact Nat.le_trans hnz (by decide)) (fun v => match v with | .str x => if !T x then some (.str x) else none | _ => none) ?_ ?_
    · rw [keyItem_eq (hs _ _ hn5) rfl, List.getElem?_map]; unfold vStrs; rw [List.getElem?_map, List.getElem?_map, Option.map_map, Option.map_map]; rfl
    · intro C outer' i v hv
      obtain ⟨x, hx', rfl⟩ := List.mem_map.mp (List.mem_of_getElem? hv)
      refine asg_name ?_; refine st_local rfl rfl ?_; refine b_cmp rfl ?_; refine e_local rfl rfl rfl rfl ?_; refine   e_cell rfl rfl rfl rfl     (by       first       | assumption       | simp [mset_self])     ?_
      refine notin_setB h5 T5 ?_
      refine tr_bool ?_
      refine ⟨fun hb => ?_, fun hb => ?_⟩
      · refine e_local rfl rfl rfl rfl ?_
        exact ⟨by show _ = if (!T x) = true then _ else _; rw [if_pos hb], sub_refl _⟩
      · exact ⟨by show _ = if (!T x) = true then _ else _; rw [if_neg (by rw [hb]; exact Bool.false_ne_true)], sub_refl _⟩
    · intro ul hul
      have e1 : (vStrs (g.no.map (·.1))).filterMap (fun v => match v with | .str x => if !T x then some (V.str x) else none | _ => none) = vStrs ((g.no.map (·.1)).filter fun x => !T x) := by
        generalize g.no.map (·.1) = l
        induction l with
        | nil => rfl
        | cons x l ih =>
          show List.filterMap _ (V.str x :: vStrs l) = _
          rw [List.filterMap_cons, List.filter_cons]
          cases q : T x with
          | true => simpa [q] using ih
          | false => simp only [q, Bool.not_false, if_true]; exact congrArg (V.str x :: ·) ih
      rw [e1]
      refine ⟨_, m5, Shift.lst (mset_self _ _ _) (sub_mset hul (sub_refl _)) hul, ?_⟩
      exact ⟨m5, sub_refl _, h T m5 (mark_iff mk) off05 T5'⟩
end
end Mine
end
section
set_option autoImplicit false
namespace Mine
section
variable {W : Wd} {A : Around} {env : Env} {outer : Outs} {loc : Loc} {mem R : Mem} {E : Ex W} {F : Frz} {s : Shared}
theorem any_bools {v : V} {bs : List Bool} {Q : V → Loc → Mem → Prop} (hh : A.handled = none) (q : Sq mem v "list" (bs.map .bool)) (h : Q (.bool (bs.any id)) loc mem) :
    OpV W A env outer (fun vs => call (.builtin "any") vs) [v] loc mem Q E := op1 fun R F s v' S r => by
  obtain ⟨a, vs, n, rfl, ho, rs⟩ := q.at S r
  have e := rs.bools
  refine call_any_walk (wpAny_pyIter_list (items := vs) ⟨_, ho, rfl, n, rfl⟩ ?_)
  have hne : a ≠ s.heap.objs.size := fun q => by have := Heap.lt_size ho; rw [q] at this; exact Nat.lt_irrefl _ this
  have hv : ∀ i, vs[i]? = (bs[i]?).map Value.bool := fun i => by rw [← Array.getElem?_toList, e, List.getElem?_map]
  have hsz : vs.size = bs.length := by rw [← Array.length_toList, e, List.length_map]
  refine ⟨_, _, _, _, _, _, fun i => (bs[i]?).getD false, rfl, Walks.list (A := A.in1) hh s.heap.objs.size a hne vs, ⟨⟨_, Heap.get?_push_size _ rfl, rfl, rfl⟩, ⟨_, Heap.get?_push_of_some _ ho, rfl, n, rfl⟩⟩, fun i v s Q E hP hQ => ?_, fun h' tk hk => ?_⟩
  · have hP' : vs[i]? = some v := hP
    rw [hv i] at hP'
    cases hb : bs[i]? with
    | none => rw [hb] at hP'; cases hP'
    | some b =>
      rw [hb] at hP'
      cases hP'
      refine wpAny_truthy_bool ?_
      simp only [hb, Option.getD_some] at hQ
      exact hQ
  · have S' := (S.grow (t := s.toks) (d := s.drawn) (h' := s.heap.push { cls := .type "list_iterator", data := .fields #[.ref a, .int 0 0] }) fun b o e => Heap.get?_push_of_some _ e)
    have S2 := S.grow (t := tk) (d := s.drawn) (h' := h') fun b o e => hk b o (by
      intro hb
      have := Heap.lt_size e
      simp only [List.mem_cons, List.not_mem_nil, or_false] at hb
      rw [hb] at this
      exact Nat.lt_irrefl _ this) (Heap.get?_push_of_some _ e)
    refine Post.mk (.bool _) S2 ?_
    have : (List.range vs.size).any (fun i => (bs[i]?).getD false) = bs.any id := by
      rw [hsz]
      rw [Bool.eq_iff_iff, List.any_eq_true, List.any_eq_true]
      constructor
      · rintro ⟨i, hi, hx⟩
        have hi := List.mem_range.mp hi
        exact ⟨bs[i], List.getElem_mem hi, by simpa [List.getElem?_eq_getElem hi] using hx⟩
      · rintro ⟨x, hx, hx2⟩
        obtain ⟨i, hi, rfl⟩ := List.mem_iff_getElem.mp hx
        exact ⟨i, List.mem_range.mpr hi, by simpa [List.getElem?_eq_getElem hi] using hx2⟩
    show Q (.bool _) loc mem
    rw [this]; exact h
end
end Mine
end
section
set_option autoImplicit false
namespace Mine
noncomputable def oTop (g : GR) : List (Option Pr) := some ⟨"S'", [ssS], 0, .tup [.str "right", .int 0], .none, .str "", .int 0⟩ :: g.prods.map some
noncomputable def undNames (g : GR) : List Str := (oTop g).flatMap fun o => match o with | none => [] | some p => p.body.filter (undS g)
noncomputable def fstV : V → Option V
  | .tup (.str s :: _) => some (.str s)
  | _ => none
theorem und_fst (g : GR) (l : List (Option Pr)) : (undF g l).filterMap fstV = vStrs (l.flatMap fun o => match o with | none => [] | some p => p.body.filter (undS g)) := by
  unfold undF
  induction l with
  | nil => rfl
  | cons o l ih =>
    rw [List.flatMap_cons, List.filterMap_append, ih, List.flatMap_cons]
    unfold vStrs
    rw [List.map_append]
    refine congrArg (· ++ _) ?_
    cases o with
    | none => rfl
    | some p =>
      show (undP g p p.body).filterMap fstV = (p.body.filter (undS g)).map V.str
      unfold undP
      rw [List.filterMap_map]
      generalize p.body.filter (undS g) = b
      induction b with
      | nil => rfl
      | cons x b ih => exact congrArg (V.str x :: ·) ih
section
variable {ts : List Str} {R : List Rule} {up : V}
theorem RG.top (G : RG ts R) : (gOf ts up R).p0 :: (gOf ts up R).prods.map (pV aProd) = (oTop (gOf ts up R)).map oPr := by
  unfold oTop
  rw [List.map_cons, List.map_map]; rfl
theorem RG.top_len (G : RG ts R) : (oTop (gOf ts up R)).length ≤ 100 ∧ ∀ p, some p ∈ oTop (gOf ts up R) → p.body.length ≤ 20 := by
  have w := G.iwf (up := up)
  have h1 := congrArg List.length (G.prods (up := up))
  rw [List.length_map] at h1
  have := G.hz
  refine ⟨by unfold oTop; rw [List.length_cons, List.length_map]; omega, fun p hp => ?_⟩
  unfold oTop at hp
  rcases List.mem_cons.mp hp with e | hp
  · cases e; exact (by decide : 1 ≤ 20)
  · obtain ⟨q, hq, e⟩ := List.mem_map.mp hp
    cases e
    exact Nat.le_trans (G.ok _ (G.pm hq)).len (by decide)
theorem RG.bad (G : RG ts R) {T : List Str} (hT : ∀ s, s ∈ T ↔ EndsI (gOf ts up R).prods (tK (gOf ts up R)) s) {r : Rule} (hr : r ∈ R) {y : Str} (hy : y ∈ r.2) :
    y ∈ infF (gOf ts up R) T (kK (gOf ts up R)) ++ undNames (gOf ts up R) ↔ ¬ Gd ts R y := by
  have hs := (G.ok r hr).body y hy
  rw [List.mem_append]
  unfold infF
  rw [List.mem_filter, Bool.and_eq_true, Bool.not_eq_true', Bool.not_eq_true', decide_eq_false_iff_not, hT y, G.ends hs]
  have hund : y ∈ undNames (gOf ts up R) ↔ undS (gOf ts up R) y = true := by
    constructor
    · intro h
      unfold undNames at h
      obtain ⟨o, ho, h⟩ := List.mem_flatMap.mp h
      cases o with
      | none => cases h
      | some p => exact (List.mem_filter.mp h).2
    · intro h
      obtain ⟨p, hp, e1, e2⟩ := G.mp (up := up) hr
      unfold undNames
      exact List.mem_flatMap.mpr ⟨some p, List.mem_cons_of_mem _ (List.mem_map.mpr ⟨p, hp, rfl⟩), List.mem_filter.mpr ⟨e2 ▸ hy, h⟩⟩
  rw [hund]
  constructor
  · rintro (⟨_, h, _⟩ | h)
    · exact h
    · obtain ⟨h1, h2⟩ := (G.und hs).mp h
      intro hg
      cases hg with
      | base hb => exact h2 hb
      | rule hb _ => exact h1 ⟨_, hb, rfl⟩
  · intro h
    have hts : y ∉ ts := fun z => h (.base z)
    cases q : undS (gOf ts up R) y with
    | true => exact .inr rfl
    | false => exact .inl ⟨List.mem_append_right _ ((G.no y).mpr ⟨r, hr, .inr ⟨hy, (G.tm r hr y hy).resolve_left hts⟩⟩), h, rfl⟩
theorem RG.start_bad (G : RG ts R) {T : List Str} (hT : ∀ s, s ∈ T ↔ EndsI (gOf ts up R).prods (tK (gOf ts up R)) s) : ssS ∈ infF (gOf ts up R) T (kK (gOf ts up R)) ↔ ¬ Gd ts R ssS := by
  obtain ⟨r, hr, e⟩ := G.has
  unfold infF
  rw [List.mem_filter, Bool.and_eq_true, Bool.not_eq_true', Bool.not_eq_true', decide_eq_false_iff_not, hT ssS, G.ends sy_facts.2.2.2.2.2.2.2.2]
  have hu : undS (gOf ts up R) ssS = false := by
    cases q : undS (gOf ts up R) ssS with
    | false => rfl
    | true => exact absurd ⟨r, hr, e.symm⟩ ((G.und sy_facts.2.2.2.2.2.2.2.2).mp q).1
  exact ⟨fun h => h.2.1, fun h => ⟨List.mem_append_right _ ((G.no _).mpr ⟨r, hr, .inl e⟩), h, hu⟩⟩
end
end Mine
end
section
set_option autoImplicit false
namespace Mine
noncomputable abbrev enE (L : Addr) : Env := envC "_law_ended" lEnded.scope L 287 lEnded.code
section
variable {W : Wd} {A : Around} {env : Env} {outer : Outs} {loc : Loc} {mem : Mem} {E : Ex W}
theorem strs_mem {y : Str} {l : List Str} : V.str y ∈ vStrs l ↔ y ∈ l := by
  unfold vStrs; rw [List.mem_map]
  exact ⟨fun ⟨a, ha, e⟩ => by cases e; exact ha, fun h => ⟨_, h, rfl⟩⟩
theorem in_strs {v : V} {x : Str} {l : List Str} {Q : V → Loc → Mem → Prop} (q : Sq mem v "list" (vStrs l)) (hx : PyData.strOk x = true) (hl : ∀ y ∈ l, PyData.strOk y = true) (hu : A.units + 65 < cLine) (h : Q (.bool (decide (x ∈ l))) loc mem) :
    OpV W A env outer (fun | [x, y] => compareOp .In x y | _ => pure .none) [.str x, v] loc mem Q E := by
  refine in_list (n := 0) q hx (isD_strs (List.all_eq_true.mpr hl)) (by decide) hu (fun b hb => ?_)
  rw [strs_mem] at hb
  have : b = decide (x ∈ l) := by
    by_cases q : x ∈ l
    · rw [hb.mpr q, decide_eq_true q]
    · cases b with
      | true => exact absurd (hb.mp rfl) q
      | false => rw [decide_eq_false q]
  rw [this]; exact h
theorem notin_strs {v : V} {x : Str} {l : List Str} {Q : V → Loc → Mem → Prop} (q : Sq mem v "list" (vStrs l)) (hx : PyData.strOk x = true) (hl : ∀ y ∈ l, PyData.strOk y = true) (hu : A.units + 65 < cLine) (h : Q (.bool (!decide (x ∈ l))) loc mem) :
    OpV W A env outer (fun | [x, y] => compareOp .NotIn x y | _ => pure .none) [.str x, v] loc mem Q E := by
  refine notin_list (n := 0) q hx (isD_strs (List.all_eq_true.mpr hl)) (by decide) hu (fun b hb => ?_)
  rw [strs_mem] at hb
  have : b = decide (x ∈ l) := by
    by_cases q : x ∈ l
    · rw [hb.mpr q, decide_eq_true q]
    · cases b with
      | true => exact absurd (hb.mp rfl) q
      | false => rw [decide_eq_false q]
  rw [this]; exact h
theorem undF_shape {g : GR} {l : List (Option Pr)} {v : V} (h : v ∈ undF g l) : ∃ s p, v = .tup [.str s, pV aProd p] := by
  unfold undF at h
  obtain ⟨o, ho, h⟩ := List.mem_flatMap.mp h
  cases o with
  | none => cases h
  | some p =>
    obtain ⟨s, _, rfl⟩ := List.mem_map.mp h
    exact ⟨s, p, rfl⟩
theorem more_ok : PyData.strOk ("error" : Str) = true ∧ PyData.strOk dEnd = true := by decide +kernel
theorem RG.okL {ts : List Str} {R : List Rule} {up : V} (G : RG ts R) (T : List Str) : (∀ y ∈ infF (gOf ts up R) T (kK (gOf ts up R)) ++ undNames (gOf ts up R), PyData.strOk y = true) ∧ (infF (gOf ts up R) T (kK (gOf ts up R))).length ≤ 300 ∧ (undF (gOf ts up R) (oTop (gOf ts up R))).length ≤ 2000 ∧ (undNames (gOf ts up R)).length ≤ 2000 := by
  have hu := undF_len (g := gOf ts up R) (oTop (gOf ts up R)) G.top_len.2
  have hl := G.top_len (up := up)
  refine ⟨fun y hy => ?_, Nat.le_trans (List.length_filter_le _ _) (kK_len G.iwf), by omega, ?_⟩
  · rcases List.mem_append.mp hy with hy | hy
    · have hy := (List.mem_filter.mp hy).1
      unfold kK tK at hy
      rw [G.te] at hy
      rcases List.mem_append.mp hy with hy | hy
      · rcases List.mem_append.mp hy with hy | hy
        · rcases List.mem_append.mp hy with hy | hy
          · exact sy_ok _ (sy_facts.1 _ (G.tab _ hy)).1
          · rw [List.mem_singleton] at hy; rw [hy]; exact more_ok.1
        · rw [List.mem_singleton] at hy; rw [hy]; exact more_ok.2
      · exact sy_ok _ (nm_sy _ (G.no_nm hy))
    · unfold undNames at hy
      obtain ⟨o, ho, hy⟩ := List.mem_flatMap.mp hy
      cases o with
      | none => cases hy
      | some p =>
        have hy := (List.mem_filter.mp hy).1
        unfold oTop at ho
        rcases List.mem_cons.mp ho with e | ho
        · cases e; rw [List.mem_singleton] at hy; rw [hy]; exact ss_ok.2.2
        · obtain ⟨q, hq, e⟩ := List.mem_map.mp ho
          cases e
          exact sy_ok _ ((G.ok _ (G.pm hq)).body y hy)
  · have := und_fst (gOf ts up R) (oTop (gOf ts up R))
    have h2 := congrArg List.length this
    rw [vStrs_len] at h2
    have h3 := List.length_filterMap_le fstV (undF (gOf ts up R) (oTop (gOf ts up R)))
    unfold undNames; omega
noncomputable def anyG (bad : List Str) : V → Option V
  | .str s => some (.bool (decide (s ∈ bad)))
  | _ => none
theorem anyG_map (bad b : List Str) : (vStrs b).filterMap (anyG bad) = (b.map fun s => decide (s ∈ bad)).map V.bool := by
  unfold vStrs
  induction b with
  | nil => rfl
  | cons s b ih => rw [List.map_cons, List.filterMap_cons]; exact congrArg (V.bool _ :: ·) ih
noncomputable def keepG (p : Rule → Bool) : V → Option V
  | .tup [.str a, .tup ys] => if p (a, ys.map fun v => match v with | .str s => s | _ => "") then some (.tup [.str a, .tup ys]) else none
  | _ => none
theorem keepG_rule (p : Rule → Bool) (r : Rule) : keepG p (ruleV r) = if p r then some (ruleV r) else none := by
  have : (vStrs r.2).map (fun v => match v with | .str s => s | _ => ("" : Str)) = r.2 := by
    unfold vStrs; rw [List.map_map]; exact List.map_id _
  obtain ⟨a, b⟩ := r
  show (if p (a, (vStrs b).map _) then _ else _) = _
  rw [this]; rfl
theorem keepG_map (p : Rule → Bool) (R : List Rule) : (R.map ruleV).filterMap (keepG p) = (R.filter p).map ruleV := by
  induction R with
  | nil => rfl
  | cons r R ih =>
    rw [List.map_cons, List.filterMap_cons, keepG_rule, List.filter_cons]
    cases p r with
    | true => exact congrArg (ruleV r :: ·) ih
    | false => exact ih
theorem ended_spec {R : List Rule} {Q : V → Loc → Mem → Prop} (hK : W.K = hdK W.w.params) (c : Calm A 330 2500) (hf : Fits A env outer) (G : RG ABC R)
    (h : ∀ gb : Str → Bool, (∀ r ∈ R, ∀ y ∈ r.2, (gb y = true ↔ Gd ABC R y)) → Q (.lst ((R.filter fun r => r.2.all gb).map ruleV)) loc mem) : OpV W A env outer (fun vs => call (.ref 287) vs) [.lst (R.map ruleV)] loc mem Q E := by
  refine call_fnC (bs := [("rules", .lst (R.map ruleV))]) (by rw [hK]; exact lEnded.at _) (by rw [hK]; first | rfl | kernel_rfl | decide +kernel) (c.room (by decide)) ?_ rfl rfl rfl ?_ ?_ ?_
  · intro F vs r
    cases r.view with
    | cons r1 r2 =>
      cases r2.view
      exact ⟨_, rfl, .cons r1 .nil⟩
  · intro x hx
    simp at hx
    subst hx
    exact .inl rfl
  · intro k p hp
    have : cellsFrom k lEnded.scope.names [] = [(("bad" : Str), k)] := rfl
    rw [this] at hp ⊢
    simp only [List.mem_cons, List.not_mem_nil, or_false] at hp
    rcases hp with rfl; rfl
  · intro L m0 hc hL
    have cd := c.deeper (enE L)
    have fd := hf.deeper (env' := enE L) (m0 := m0) rfl rfl
    have hc1 : mem (L + 1) = none := hc ("bad", L + 1) (.head _)
    have ecell : layC (fun n => List.lookup n (onlyC (fun n => List.lookup n lEnded.scope.names) [("rules", V.lst (R.map ruleV))])) (cellsFrom (L + 1) lEnded.scope.names []) mem = mset mem (L + 1) (.cell none) := by
      show layC _ [(("bad" : Str), L + 1)] mem = _
      rfl
    rw [ecell]
    obtain ⟨M0, hM0⟩ : ∃ M0, M0 = mset mem (L + 1) (.cell none) := ⟨_, rfl⟩
    have hT0 : M0 (L + 1) = some (.cell none) := by rw [hM0, mset_self]
    have s0 : Sub mem M0 := fun b x e => by rw [hM0, mset_ne (nex e hc1)]; exact e
    rw [← hM0]
    clear hM0 ecell
    (refine nameS ?_; intro aa vv oo qq ee; refine s_cons ?_)
    refine Tr.locs (loc' := [("rules", V.lst (R.map ruleV))]) rfl ?_
    refine s_assign rfl ?_; refine c_name rfl ?_; refine e_topG rfl rfl rfl rfl (by rw [hK]; rfl) ?_; refine c_top (by rw [hK]; rfl) rfl rfl ?_; refine a_cons rfl ?_; refine e_local rfl rfl rfl rfl ?_; refine a_cons rfl ?_; refine e_list ?_; refine a_cons rfl ?_; refine e_str ?_; refine a_cons rfl ?_; refine e_str ?_; refine a_cons rfl ?_; refine e_str ?_; refine a_nil ?_
    refine new_lst (xs := vStrs ABC) (show 3 ≤ sizeLine by decide) ?_
    refine a_nil ?_
    refine gram_spec hK (cd.mono (by decide) (by decide)) fd G.gr (let ⟨r, hr, e⟩ := G.has; ⟨r, hr, e⟩) (fun a gm up GM dis => ?_)
    obtain ⟨adr, cc, M, ok, ea⟩ := GM
    have r : Rd adr (gOf ABC up R) (mun gm M0) := (GOk.rd M ok).mono fun b x e => mun_l e
    have hT1 : mun gm M0 (L + 1) = some (.cell none) := by
      rw [mun_r]
      · exact hT0
      · cases q : gm (L + 1) with
        | none => rfl
        | some y => have := dis _ _ q; rw [hT0] at this; cases this
    have s1 : Sub mem (mun gm M0) := fun b x e => by
      rw [mun_r]
      · exact s0 b x e
      · cases q : gm b with
        | none => rfl
        | some y => have := dis _ _ q; rw [s0 b x e] at this; cases this
    rw [← ea]
    generalize mun gm M0 = m1 at *
    clear dis M ok s0 hT0
    obtain ⟨epd, hd⟩ := r.dict
    have hx := r.self
    refine st_local rfl rfl ?_; refine s_cons ?_; refine s_assign rfl ?_; refine e_binop ?_; refine c_meth rfl ?_; refine e_local rfl rfl rfl rfl ?_
    refine m_own0 (.own hx hd) (by rw [hK]; first | rfl | kernel_rfl | decide +kernel) (by rw [hK]; first | rfl | kernel_rfl | decide +kernel) (by rw [hK]; first | rfl | kernel_rfl | decide +kernel) rfl (by rw [hK]; first | rfl | kernel_rfl | decide +kernel) ?_
    refine inf_spec hK (cd.mono (by decide) (by decide)) r G.iwf (fun T hT => ?_)
    have hbad := fun r hr y hy => G.bad (up := up) hT (r := r) hr (y := y) hy
    obtain ⟨ok1, z1, z2, z3⟩ := G.okL (up := up) T
    have hund : (undF (gOf ABC up R) (oTop (gOf ABC up R))).filterMap fstV = vStrs (undNames (gOf ABC up R)) := und_fst _ _
    generalize infF (gOf ABC up R) T (kK (gOf ABC up R)) = inf at *
    refine e_listcomp rfl (by decide) rfl (by decide) (fun _ => rfl) ?_; refine c_meth rfl ?_; refine e_local rfl rfl rfl rfl ?_
    refine m_own0 (.own hx hd) (by rw [hK]; first | rfl | kernel_rfl | decide +kernel) (by rw [hK]; first | rfl | kernel_rfl | decide +kernel) (by rw [hK]; first | rfl | kernel_rfl | decide +kernel) rfl (by rw [hK]; first | rfl | kernel_rfl | decide +kernel) ?_
    refine undef_spec hK (cd.mono (by decide) (by decide)) r G.top G.top_len.1 G.top_len.2 ?_
    skip
    refine comp_map (itr_lst cd.handled) (undF (gOf ABC up R) (oTop (gOf ABC up R))) (fun m i hs hi => rfl) (Nat.le_trans z2 (by decide)) fstV ?_ ?_
    · intro C outer' i v hv
      obtain ⟨s, p, rfl⟩ := undF_shape (List.mem_of_getElem? hv)
      refine   asg_tuple     (by       first       | assumption       | exact Calm.handled (by assumption))     rfl rfl ?_; refine asg_name ?_; refine st_local rfl rfl ?_; refine asg_name ?_; refine st_local rfl rfl ?_; refine e_local rfl rfl rfl rfl ?_
      exact ⟨rfl, sub_refl _⟩
    · intro D hD
      rw [hund]
      generalize undNames (gOf ABC up R) = und at *
      have sD : Sub m1 (mset m1 D (.list (vStrs und))) := sub_mset hD (sub_refl _)
      refine add_own (.lst _) (.own (mset_self _ _ _)) (by rw [vStrs_len, vStrs_len]; exact Nat.le_trans (show inf.length + und.length ≤ 2300 by omega) (by decide)) (fun b hb => ?_)
      rw [show vStrs inf ++ vStrs und = vStrs (inf ++ und) from (List.map_append).symm]
      have sB := sub_mset (y := AObj.list (vStrs (inf ++ und))) hb sD
      refine s_cell4 (hk := rfl) (hl := rfl) (hc := rfl) (sB _ _ hT1) (fun m3 hT3 f3 => ?_)
      have hb3 : m3 b = some (.list (vStrs (inf ++ und))) := (f3 _ (nex (mset_self _ _ _) (sB _ _ hT1))).trans (mset_self _ _ _)
      have s3 : Sub mem m3 := fun b x e => (f3 _ (nex e hc1)).trans (sB _ _ (s1 b x e))
      generalize inf ++ und = bad at *
      clear f3 sB sD hb hD
      refine s_cons ?_
      refine Tr.locs (loc' := [("rules", V.lst (R.map ruleV))]) rfl ?_
      refine s_ret (Tr.shift ?_)
      refine e_listcomp rfl (by decide) rfl (by decide) (fun _ => rfl) ?_; refine e_local rfl rfl rfl rfl ?_
      refine comp_map (itr_lst cd.handled) (R.map ruleV) (fun m i hs hi => rfl) (by rw [List.length_map]; exact Nat.le_trans G.hz (by decide)) (keepG fun r => r.2.all fun y => !decide (y ∈ bad)) ?_ ?_
      · intro C outer' i v hv
        obtain ⟨r, hr, rfl⟩ := List.mem_map.mp (List.mem_of_getElem? hv)
        have hrl := G.ok r hr
        refine asg_name ?_; refine st_local rfl rfl ?_; refine b_not ?_; refine b_value rfl ?_; refine c_name rfl ?_; refine e_boot rfl rfl rfl rfl rfl (by rw [hK]; rfl) rfl (by decide) ?_; refine c_builtin rfl rfl ?_; refine a_cons rfl ?_; refine e_listcomp rfl (by decide) rfl (by decide) (fun _ => rfl) ?_; refine e_sub (fun _ _ => rfl) ?_; refine e_local rfl rfl rfl rfl ?_; refine e_int ?_
        refine sub_sq (.tup _) (by decide) (by decide) (x := .tup (vStrs r.2)) rfl ?_
        refine comp_map (itr_tup cd.handled) (vStrs r.2) (fun m i hs hi => rfl) (by rw [vStrs_len]; exact Nat.le_trans hrl.len (by decide)) (anyG bad) ?_ ?_
        · intro C2 outer2 j v hv
          obtain ⟨s', hs', rfl⟩ := List.mem_map.mp (List.mem_of_getElem? hv)
          refine asg_name ?_; refine st_local rfl rfl ?_; refine e_cmp rfl ?_; refine e_local rfl rfl rfl rfl ?_; refine   e_cell rfl rfl rfl rfl     (by       first       | assumption       | simp [mset_self])     ?_
          refine in_strs (.own hb3) (sy_ok _ (hrl.body _ hs')) ok1 (Nat.lt_of_le_of_lt (Nat.add_le_add_right cd.units 65) (by decide)) ?_
          exact ⟨rfl, sub_refl _⟩
        · intro D2 hD2
          rw [anyG_map]
          have s4 : Sub m3 (mset m3 D2 (.list ((r.2.map fun s => decide (s ∈ bad)).map V.bool))) := sub_mset hD2 (sub_refl _)
          refine a_nil ?_
          refine any_bools cd.handled (.own (mset_self _ _ _)) ?_
          have hb : (!(r.2.map fun s => decide (s ∈ bad)).any id) = r.2.all fun y => !decide (y ∈ bad) := by
            rw [List.any_map, List.not_any_eq_all_not]; rfl
          rw [keepG_rule]
          refine tr_bool ?_
          rw [hb]
          refine ⟨fun hb => ?_, fun hb => ?_⟩
          · refine e_local rfl rfl rfl rfl ?_
            exact ⟨by rw [if_pos hb], s4⟩
          · exact ⟨by rw [if_neg (by rw [hb]; exact Bool.false_ne_true)], s4⟩
      · intro ul hul
        rw [keepG_map]
        have hulm : mem ul = none := Sub.none s3 hul
        refine ⟨_, mem, Shift.lst (mset_self _ _ _) (sub_mset hul s3) hulm, mem, sub_refl _, h _ fun r hr y hy => ?_⟩
        rw [Bool.not_eq_true', decide_eq_false_iff_not, hbad r hr y hy]
        exact Classical.not_not
end
end Mine
end
section
set_option autoImplicit false
namespace Mine
noncomputable abbrev joE (L : Addr) : Env := envC "_law_joined" lJoined.scope L 292 lJoined.code
section
variable {W : Wd} {A : Around} {env : Env} {outer : Outs} {loc : Loc} {mem : Mem} {E : Ex W}
theorem p0_of (ts : List Str) (up : V) (R : List Rule) : (gOf ts up R).p0 = pV aProd ⟨"S'", [ssS], 0, .tup [.str "right", .int 0], .none, .str "", .int 0⟩ := rfl
theorem joined_spec {R : List Rule} {Q : V → Loc → Mem → Prop} (hK : W.K = hdK W.w.params) (c : Calm A 330 2500) (B : BmIs W) (hf : Fits A env outer) (G : RG ABC R) (T0 : CodeT aTab mkPos mkQual mem)
    (h : ∀ (rb : Str → Bool) m', (∀ x, rb x = true ↔ RchR R ssS x) → Off aTab mem m' → CodeT aTab mkPos mkQual m' → Q (.lst ((R.filter fun r => rb r.1).map ruleV)) loc m') : OpV W A env outer (fun vs => call (.ref 292) vs) [.lst (R.map ruleV)] loc mem Q E := by
  refine call_fnC (bs := [("rules", .lst (R.map ruleV))]) (by rw [hK]; exact lJoined.at _) (by rw [hK]; first | rfl | kernel_rfl | decide +kernel) (c.room (by decide)) ?_ rfl rfl rfl ?_ ?_ ?_
  · intro F vs r
    cases r.view with
    | cons r1 r2 =>
      cases r2.view
      exact ⟨_, rfl, .cons r1 .nil⟩
  · intro x hx
    simp at hx
    subst hx
    exact .inl rfl
  · intro k p hp
    have : cellsFrom k lJoined.scope.names [] = [(("gone" : Str), k)] := rfl
    rw [this] at hp ⊢
    simp only [List.mem_cons, List.not_mem_nil, or_false] at hp
    rcases hp with rfl; rfl
  · intro L m0 hc hL
    have cd := c.deeper (joE L)
    have fd := hf.deeper (env' := joE L) (m0 := m0) rfl rfl
    have hc1 : mem (L + 1) = none := hc ("gone", L + 1) (.head _)
    have ecell : layC (fun n => List.lookup n (onlyC (fun n => List.lookup n lJoined.scope.names) [("rules", V.lst (R.map ruleV))])) (cellsFrom (L + 1) lJoined.scope.names []) mem = mset mem (L + 1) (.cell none) := by
      show layC _ [(("gone" : Str), L + 1)] mem = _
      rfl
    rw [ecell]
    obtain ⟨M0, hM0⟩ : ∃ M0, M0 = mset mem (L + 1) (.cell none) := ⟨_, rfl⟩
    have hT0 : M0 (L + 1) = some (.cell none) := by rw [hM0, mset_self]
    have s0 : Sub mem M0 := fun b x e => by rw [hM0, mset_ne (nex e hc1)]; exact e
    rw [← hM0]
    clear hM0 ecell
    (refine nameS ?_; intro aa vv oo qq ee; refine s_cons ?_)
    refine Tr.locs (loc' := [("rules", V.lst (R.map ruleV))]) rfl ?_
    refine s_assign rfl ?_; refine c_meth rfl ?_; refine c_name rfl ?_; refine e_topG rfl rfl rfl rfl (by rw [hK]; rfl) ?_; refine c_top (by rw [hK]; rfl) rfl rfl ?_; refine a_cons rfl ?_; refine e_local rfl rfl rfl rfl ?_; refine a_cons rfl ?_; refine e_list ?_; refine a_cons rfl ?_; refine e_str ?_; refine a_cons rfl ?_; refine e_str ?_; refine a_cons rfl ?_; refine e_str ?_; refine a_nil ?_
    refine new_lst (xs := vStrs ABC) (show 3 ≤ sizeLine by decide) ?_
    refine a_nil ?_
    refine gram_spec hK (cd.mono (by decide) (by decide)) fd G.gr (let ⟨r, hr, e⟩ := G.has; ⟨r, hr, e⟩) (fun a gm up GM dis => ?_)
    obtain ⟨adr, cc, M, ok, ea⟩ := GM
    have r : Rd adr (gOf ABC up R) (mun gm M0) := (GOk.rd M ok).mono fun b x e => mun_l e
    have hT1 : mun gm M0 (L + 1) = some (.cell none) := by
      rw [mun_r]
      · exact hT0
      · cases q : gm (L + 1) with
        | none => rfl
        | some y => have := dis _ _ q; rw [hT0] at this; cases this
    have s1 : Sub mem (mun gm M0) := fun b x e => by
      rw [mun_r]
      · exact s0 b x e
      · cases q : gm b with
        | none => rfl
        | some y => have := dis _ _ q; rw [s0 b x e] at this; cases this
    rw [← ea]
    generalize mun gm M0 = m1 at *
    clear dis M ok s0 hT0
    obtain ⟨epd, hd⟩ := r.dict
    have hx := r.self
    skip
    refine m_own0 (.own hx hd) (by rw [hK]; first | rfl | kernel_rfl | decide +kernel) (by rw [hK]; first | rfl | kernel_rfl | decide +kernel) (by rw [hK]; first | rfl | kernel_rfl | decide +kernel) rfl (by rw [hK]; first | rfl | kernel_rfl | decide +kernel) ?_
    have T1 : CodeT aTab mkPos mkQual m1 := T0.mono fun b o e => s1 _ _ e
    refine unreach_spec hK B (cd.mono (by decide) (by decide)) r G.uwf (p0_of ABC up R) rfl sy_facts.2.2.2.2.2.2.2.2 (by decide) (G.iwf).nz T1 (fun T m2 hT off2 T2 => ?_)
    have hno := fun n => G.no (up := up) n
    have hnm := fun n => G.no_nm (up := up) (n := n)
    have hz := (G.iwf (up := up)).nz
    rw [← List.length_map (f := (·.1))] at hz
    generalize (gOf ABC up R).no.map (·.1) = nos at *
    have hTab : ∃ ps, m1 aTab = some (.raw (tabObj ps)) := by
      cases T1 with
      | fresh a => exact ⟨_, a⟩
      | made c' oc a b d => exact ⟨_, a⟩
    obtain ⟨ps, hTab⟩ := hTab
    have hT2 := off2 _ _ (nex hT1 hTab) hT1
    refine s_cell4 (hk := rfl) (hl := rfl) (hc := rfl) hT2 (fun m3 hT3 f3 => ?_)
    have off3 : Off aTab mem m3 := fun b x hb e => (f3 _ (nex e hc1)).trans (off2 _ _ hb (s1 b x e))
    have T3 := T2.mono (m' := m3) fun b o e => (f3 _ (nex e hT2)).trans e
    refine s_cons ?_
    refine Tr.locs (loc' := [("rules", V.lst (R.map ruleV))]) rfl ?_
    refine s_ret (Tr.shift ?_)
    refine e_listcomp rfl (by decide) rfl (by decide) (fun _ => rfl) ?_; refine e_local rfl rfl rfl rfl ?_
    refine comp_map (itr_lst cd.handled) (R.map ruleV) (fun m i hs hi => rfl) (by rw [List.length_map]; exact Nat.le_trans G.hz (by decide)) (keepG fun r => T r.1) ?_ ?_
    · intro C outer' i v hv
      obtain ⟨r, hr, rfl⟩ := List.mem_map.mp (List.mem_of_getElem? hv)
      refine asg_name ?_; refine st_local rfl rfl ?_; refine b_cmp rfl ?_; refine e_sub (fun _ _ => rfl) ?_; refine e_local rfl rfl rfl rfl ?_; refine e_int ?_
      refine sub_sq (.tup _) (by decide) (by decide) (x := .str r.1) rfl ?_
      refine   e_cell rfl rfl rfl rfl     (by       first       | assumption       | simp [mset_self])     ?_
      refine notin_strs (.lst _) (sy_ok _ (nm_sy _ (G.ok r hr).left)) (fun y hy => sy_ok _ (nm_sy _ (hnm y (List.mem_filter.mp hy).1))) (Nat.lt_of_le_of_lt (Nat.add_le_add_right cd.units 65) (by decide)) ?_
      have hb : (!decide (r.1 ∈ nos.filter fun x => !T x)) = T r.1 := by
        have h1 : r.1 ∈ nos := (hno _).mpr ⟨r, hr, .inl rfl⟩
        cases q : T r.1 with
        | true => rw [decide_eq_false]; · rfl
                  · intro z; have := (List.mem_filter.mp z).2; rw [q] at this; cases this
        | false => rw [decide_eq_true]; · rfl
                   · exact List.mem_filter.mpr ⟨h1, by rw [q]; rfl⟩
      rw [keepG_rule]
      refine tr_bool ?_
      rw [hb]
      refine ⟨fun hb => ?_, fun hb => ?_⟩
      · refine e_local rfl rfl rfl rfl ?_
        exact ⟨by rw [if_pos hb], sub_refl _⟩
      · exact ⟨by rw [if_neg (by rw [hb]; exact Bool.false_ne_true)], sub_refl _⟩
    · intro ul hul
      rw [keepG_map]
      refine ⟨_, m3, Shift.lst (mset_self _ _ _) (sub_mset hul (sub_refl _)) hul, m3, sub_refl _, h T m3 (fun x => (hT x).trans G.rch) off3 T3⟩
end
end Mine
end
section
set_option autoImplicit false
namespace Mine
theorem wpAny_choose {M : Model} {A : Around} {src : Source} {n : Nat} {Q : Nat → Shared → Prop} {E : Value → Shared → Prop} {s : Shared} (hn : n ≠ 0) (h : ∀ k d, k < n → Q k { s with drawn := d }) : wpAny M A (choose src n) Q E s := fun Γ p hΓ => by
  unfold choose
  rw [Sem.wp_choose]
  refine ⟨hn, ?_⟩
  rw [Sem.wp]
  exact h _ _ (Nat.mod_lt _ (Nat.pos_of_ne_zero hn))
theorem erase_perm {α : Type} : ∀ (l : List α) (k : Nat) (hk : k < l.length), (l[k] :: l.eraseIdx k).Perm l
  | a :: l, 0, _ => .refl _
  | a :: l, k + 1, hk => by
    have ih := erase_perm l k (Nat.lt_of_succ_lt_succ hk)
    exact (List.Perm.swap a _ _).trans (ih.cons a)
theorem wpAny_drawOrder {M : Model} {A : Around} {α : Type} {E : Value → Shared → Prop} : ∀ (n : Nat) (xs : List α) {s : Shared} {Q : List α → Shared → Prop}, xs.length = n → (∀ ys d, ys.Perm xs → Q ys { s with drawn := d }) → wpAny M A (drawOrder n xs) Q E s
  | 0, xs, s, Q, hn, h => by
    obtain rfl : xs = [] := List.eq_nil_of_length_eq_zero hn
    unfold drawOrder
    exact wpAny_pure (h [] s.drawn .nil)
  | n + 1, xs, s, Q, hn, h => by
    cases xs with
    | nil => cases hn
    | cons x l =>
      unfold drawOrder
      refine wpAny_bind (wpAny_choose (by simp) fun k d hk => ?_)
      rw [List.getElem?_eq_getElem hk]
      dsimp only
      refine wpAny_bind (wpAny_drawOrder n ((x :: l).eraseIdx k) (by rw [List.length_eraseIdx_of_lt hk, hn]; rfl) fun ys d' hp => ?_)
      refine wpAny_pure (h _ d' ?_)
      refine List.Perm.trans (List.Perm.cons _ hp) ?_
      exact erase_perm _ _ hk
noncomputable def setObj (es : Array (Int × Value)) (ep : Nat) (t : SetTable) : Obj := { cls := .type "set", dict := none, data := .set es ep t, slots := #[] }
theorem layNew_keeps (t : SetTable) (es : Array (Int × Value)) (h : Int) (x : Value) : (layNew t es h x).2.1.led = t.led ∧ ((layNew t es h x).2.1.plain = true → t.plain = true) := by
  have so : ∀ (t : SetTable) (n : Nat), (t.orStandIn n).led = t.led ∧ ((t.orStandIn n).plain = true → t.plain = true) := fun t n => by
    unfold SetTable.orStandIn
    split
    · exact ⟨rfl, id⟩
    · exact ⟨rfl, fun h => by cases h⟩
  unfold layNew
  split
  · rename_i slot wasDummy _
    exact so (t.put slot).1 _
  · exact ⟨rfl, fun h => by cases h⟩
theorem relayAll_keeps (t : SetTable) (es : Array (Int × Value)) (n : Nat) : (relayAll t es n).2.1.led = t.led ∧ ((relayAll t es n).2.1.plain = true → t.plain = true) := by
  unfold relayAll
  split
  · rename_i t' order e
    have key : t'.led = t.led ∧ t'.plain = t.plain := by
      unfold SetTable.relaid SetTable.laid at e
      cases q : SetTable.layClean (SetTable.sizeAbove n - 1) (es.map (·.1)) with
      | none => rw [q] at e; cases e
      | some z => rw [q] at e; cases e; exact ⟨rfl, rfl⟩
    dsimp only
    split
    · exact ⟨key.1, fun h => by rw [← key.2]; exact h⟩
    · exact ⟨rfl, fun h => by cases h⟩
  · exact ⟨rfl, fun h => by cases h⟩
section
variable {prog : Program} {w : World} {A : Around} {E : Value → Shared → Prop} {s : Shared}
end
end Mine
end
section
set_option autoImplicit false
namespace Mine
noncomputable def Rise (xs : Array Nat) : Prop := xs.toList.Pairwise (· < ·)
theorem Rise.lt {xs : Array Nat} (h : Rise xs) {i j : Nat} {a b : Nat} (hij : i < j) (ha : xs[i]? = some a) (hb : xs[j]? = some b) : a < b := by
  unfold Rise at h
  rw [List.pairwise_iff_getElem] at h
  rw [← Array.getElem?_toList] at ha hb
  obtain ⟨h1, rfl⟩ := List.getElem?_eq_some_iff.mp ha
  obtain ⟨h2, rfl⟩ := List.getElem?_eq_some_iff.mp hb
  exact h i j h1 h2 hij
theorem below_go {xs : Array Nat} {j : Nat} (hr : Rise xs) : ∀ (fuel lo hi : Nat), lo ≤ hi → hi ≤ xs.size → hi - lo ≤ fuel → (∀ i a, i < lo → xs[i]? = some a → a < j) → (∀ i a, hi ≤ i → xs[i]? = some a → j ≤ a) →
    SetTable.below.go xs j fuel lo hi ≤ xs.size ∧ (∀ i a, i < SetTable.below.go xs j fuel lo hi → xs[i]? = some a → a < j) ∧ (∀ i a, SetTable.below.go xs j fuel lo hi ≤ i → xs[i]? = some a → j ≤ a) := by
  intro fuel
  induction fuel with
  | zero =>
    intro lo hi h1 h2 h3 h4 h5
    have : lo = hi := by omega
    subst this
    exact ⟨h2, h4, h5⟩
  | succ fuel ih =>
    intro lo hi h1 h2 h3 h4 h5
    unfold SetTable.below.go
    by_cases hlt : lo < hi
    · rw [if_pos hlt]
      dsimp only
      have hm1 : (lo + hi) / 2 < hi := by omega
      have hm2 : lo ≤ (lo + hi) / 2 := by omega
      obtain ⟨v, hv⟩ : ∃ v, xs[(lo + hi) / 2]? = some v := ⟨xs[(lo + hi) / 2]'(by omega), Array.getElem?_eq_getElem (by omega)⟩
      have hg : xs.getD ((lo + hi) / 2) j = v := by rw [Array.getD_eq_getD_getElem?, hv]; rfl
      rw [hg]
      by_cases hvj : v < j
      · rw [if_pos hvj]
        refine ih _ _ (by omega) h2 (by omega) (fun i a hi' ha => ?_) h5
        rcases Nat.lt_or_ge i ((lo + hi) / 2) with q | q
        · exact Nat.lt_trans (hr.lt q ha hv) hvj
        · have : i = (lo + hi) / 2 := by omega
          rw [this, hv] at ha; cases ha; exact hvj
      · rw [if_neg hvj]
        refine ih _ _ hm2 (by omega) (by omega) h4 (fun i a hi' ha => ?_)
        rcases Nat.lt_or_ge ((lo + hi) / 2) i with q | q
        · have := hr.lt q hv ha; omega
        · have : i = (lo + hi) / 2 := by omega
          rw [this, hv] at ha; cases ha; omega
    · rw [if_neg hlt]
      have : lo = hi := by omega
      subst this
      exact ⟨h2, h4, h5⟩
theorem below_ok {xs : Array Nat} (hr : Rise xs) (j : Nat) : SetTable.below xs j ≤ xs.size ∧ (∀ i a, i < SetTable.below xs j → xs[i]? = some a → a < j) ∧ (∀ i a, SetTable.below xs j ≤ i → xs[i]? = some a → j ≤ a) :=
  below_go hr xs.size 0 xs.size (Nat.zero_le _) (Nat.le_refl _) (Nat.le_refl _) (fun i a h => absurd h (Nat.not_lt_zero _)) (fun i a h e => by
    rw [Array.getElem?_eq_none h] at e; cases e)
theorem rise_range (n : Nat) : Rise (Array.range n) := by unfold Rise; rw [Array.toList_range]; exact List.pairwise_lt_range
theorem rise_insert {xs : Array Nat} (hr : Rise xs) {j : Nat} (hj : xs[SetTable.below xs j]? ≠ some j) : Rise (SetTable.insertAt xs (SetTable.below xs j) j) := by
  obtain ⟨h1, h2, h3⟩ := below_ok hr j
  have e : (SetTable.insertAt xs (SetTable.below xs j) j).toList = xs.toList.take (SetTable.below xs j) ++ (j :: xs.toList.drop (SetTable.below xs j)) := by
    unfold SetTable.insertAt
    rw [Array.toList_append, Array.toList_push, Array.toList_extract, Array.toList_extract]
    simp [List.extract]
    exact List.take_of_length_le (by simp)
  unfold Rise at hr ⊢
  rw [e, List.pairwise_append, List.pairwise_cons]
  have up : ∀ a ∈ xs.toList.drop (SetTable.below xs j), j < a := fun a ha => by
    obtain ⟨i, hi⟩ := List.getElem?_of_mem ha
    rw [List.getElem?_drop, Array.getElem?_toList] at hi
    have h4 := h3 _ _ (Nat.le_add_right _ _) hi
    rcases Nat.lt_or_ge j a with q | q
    · exact q
    · exfalso
      have ej : a = j := by omega
      subst ej
      cases i with
      | zero => exact hj hi
      | succ i =>
        have hlt : SetTable.below xs a < xs.size := by
          rcases Nat.lt_or_ge (SetTable.below xs a) xs.size with q | q
          · exact q
          · rw [Array.getElem?_eq_none (by omega)] at hi; cases hi
        have hb := Array.getElem?_eq_getElem hlt
        have := h3 _ _ (Nat.le_refl _) hb
        have := Rise.lt (xs := xs) hr (show SetTable.below xs a < SetTable.below xs a + (i + 1) by omega) hb hi
        omega
  have lo : ∀ a ∈ xs.toList.take (SetTable.below xs j), a < j := fun a ha => by
    obtain ⟨i, hi⟩ := List.getElem?_of_mem ha
    rw [List.getElem?_take] at hi
    split at hi
    · rename_i q
      rw [Array.getElem?_toList] at hi
      exact h2 _ _ q hi
    · cases hi
  refine ⟨List.Pairwise.sublist (List.take_sublist _ _) hr, ⟨up, List.Pairwise.sublist (List.drop_sublist _ _) hr⟩, fun a ha b hb => ?_⟩
  rcases List.mem_cons.mp hb with rfl | hb
  · exact lo a ha
  · exact Nat.lt_trans (lo a ha) (up b hb)
structure TabR (t : SetTable) : Prop where
  rise : Rise t.place
  nod : t.dummies = #[]
theorem TabR.slot {t : SetTable} (h : TabR t) (j : Nat) : t.slot j ≠ .dummy := by
  unfold SetTable.slot
  dsimp only
  split
  · intro e; cases e
  · rw [h.nod]
    have : SetTable.has #[] j = false := by simp [SetTable.has]
    rw [this]; intro e; cases e
theorem probe_empty {t : SetTable} (hR : TabR t) (f : Nat → Int) (h : Int) : ∀ (fuel : Nat) (p : SetTable.Probe) (j : Nat) (d : Option Nat), p.dummy = none → SetTable.probe.go t f h fuel p = some (.empty j d) → d = none ∧ t.slot j = .empty := by
  intro fuel
  induction fuel with
  | zero => intro p j d _ e; cases e
  | succ fuel ih =>
    intro p j d hd e
    unfold SetTable.probe.go at e
    have adv : ∀ p : SetTable.Probe, p.dummy = none → (t.advance p).dummy = none := fun p hp => by
      unfold SetTable.advance
      split
      · exact hp
      · exact hp
    cases q : t.slot p.j with
    | empty => rw [q] at e; cases e; exact ⟨hd, q⟩
    | dummy => exact absurd q (hR.slot _)
    | live i =>
      rw [q] at e
      dsimp only at e
      split at e
      · cases e
      · exact ih _ _ _ (adv p hd) e
theorem freeSlot_ok {t : SetTable} (hR : TabR t) {h : Int} {j : Nat} {b : Bool} (e : t.freeSlot h = some (j, b)) : t.place[SetTable.below t.place j]? ≠ some j := by
  unfold SetTable.freeSlot at e
  cases q : t.probe (fun _ => h + 1) h (t.probeStart h) with
  | none => rw [q] at e; cases e
  | some m =>
    rw [q] at e
    cases m with
    | candidate => cases e
    | empty k d =>
      obtain ⟨rfl, hs⟩ := probe_empty hR _ _ _ _ _ _ rfl q
      have : k = j := by cases e; rfl
      subst this
      unfold SetTable.slot at hs
      dsimp only at hs
      intro z
      rw [if_pos (by rw [z]; simp)] at hs
      cases hs
theorem put_ok {t : SetTable} (hR : TabR t) {j : Nat} (h : t.place[SetTable.below t.place j]? ≠ some j) : TabR (t.put j).1 := by
  refine ⟨rise_insert hR.rise h, ?_⟩
  show (if SetTable.has t.dummies j then _ else t.dummies) = #[]
  rw [hR.nod]
  have : SetTable.has #[] j = false := by simp [SetTable.has]
  rw [this]; rfl
theorem standIn_ok (t : SetTable) (n : Nat) : TabR (t.standIn n) := ⟨rise_range n, rfl⟩
theorem orStandIn_ok {t : SetTable} (h : TabR t) (n : Nat) : TabR (t.orStandIn n) := by
  unfold SetTable.orStandIn; split
  · exact h
  · exact standIn_ok _ _
theorem layNew_tab {t : SetTable} (hR : TabR t) (es : Array (Int × Value)) (h : Int) (x : Value) : TabR (layNew t es h x).2.1 := by
  unfold layNew
  split
  · rename_i slot wasDummy e
    exact orStandIn_ok (put_ok hR (freeSlot_ok hR e)) _
  · exact standIn_ok _ _
theorem fm_fst (z : Array (Option Nat)) (l : List Nat) : (l.filterMap fun j => (z.getD j none).map (j, ·)).map (·.1) = l.filter fun x => (z.getD x none).isSome := by
  induction l with
  | nil => rfl
  | cons a l ih =>
    rw [List.filterMap_cons, List.filter_cons]
    cases z.getD a none with
    | none => exact ih
    | some y => exact congrArg (a :: ·) ih
theorem relayAll_tab (t : SetTable) (es : Array (Int × Value)) (n : Nat) : TabR (relayAll t es n).2.1 := by
  unfold relayAll
  split
  · rename_i t' order e
    have key : TabR t' := by
      unfold SetTable.relaid SetTable.laid at e
      cases q : SetTable.layClean (SetTable.sizeAbove n - 1) (es.map (·.1)) with
      | none => rw [q] at e; cases e
      | some z =>
        rw [q] at e; cases e
        refine ⟨?_, rfl⟩
        have e1 := fm_fst z (List.range (SetTable.sizeAbove n - 1 + 1))
        unfold Rise
        dsimp only
        rw [e1]
        exact List.Pairwise.sublist List.filter_sublist List.pairwise_lt_range
    dsimp only
    split
    · exact key
    · exact standIn_ok _ _
  · exact standIn_ok _ _
end Mine
end
section
set_option autoImplicit false
namespace Mine
noncomputable def intOf : Value → Int
  | .int i _ => i
  | _ => 0
noncomputable def IntEs (prog : Program) (w : World) (es : List (Int × Value)) : Prop := ∀ e ∈ es, ∃ x t, e = ((PySem.intKind prog w).hash x, .int x t)
structure SetZ (prog : Program) (w : World) (o : Obj) (xs : List Int) : Prop where
  ex : ∃ es ep t, o = setObj es ep t ∧ IntEs prog w es.toList ∧ (es.toList.map fun e => intOf e.2).Perm xs ∧ es.size < 64 ∧ t.fits es.size = true ∧ TabR t ∧ (t.led = true ∨ w.params.followText "set-order" = true)
  nodup : xs.Nodup
section
variable {prog : Program} {w : World} {A : Around} {E : Value → Shared → Prop} {s : Shared}
theorem IntEs.elems {es : List (Int × Value)} (h : IntEs prog w es) : ElemsOf (PySem.intKind prog w) es := fun e he => by
  obtain ⟨x, t, rfl⟩ := h e he
  exact ⟨⟨x, intKind_is _ _ x t, rfl⟩, rfl⟩
theorem IntEs.perm {es es' : List (Int × Value)} (h : IntEs prog w es) (p : es'.Perm es) : IntEs prog w es' := fun e he => h e (p.mem_iff.mp he)
theorem is_int {k x : Int} {t : Tok} : (PySem.intKind prog w).is k (.int x t) = true ↔ x = k := by
  constructor
  · intro h
    exact (PySem.intKind prog w).inj _ _ _ (intKind_is _ _ x t) h
  · intro h; subst h; exact intKind_is _ _ x t
theorem setAdd_Z {a : Addr} {o : Obj} {xs : List Int} {x : Int} {tk : Tok} {Q : Bool → Shared → Prop} (ho : s.heap.get? a = some o) (T : SetZ prog w o xs) (hz : xs.length < 60)
    (h : ∀ b h' o', Heap.SameBut a s.heap h' → h'.get? a = some o' → SetZ prog w o' (if x ∈ xs then xs else xs ++ [x]) → Q b { s with heap := h' }) :
    wpAny (model prog w) A (setAddHashed a (.int x tk) ((PySem.intKind prog w).hash x)) Q E s := by
  obtain ⟨es, ep, t, rfl, htx, hp, hb, hf, hpl, hled⟩ := T.ex
  have hd : (setObj es ep t).data = .set es ep t := rfl
  have hlen : es.size = xs.length := by rw [← hp.length_eq, List.length_map, Array.length_toList]
  have hel := htx.elems
  unfold setAddHashed setAddHashedIn
  refine wpAny_holding (wpAny_bind (wpAny_setState_of ho hd hf ?_))
  dsimp only
  rw [byScan_of (x := .int x tk) rfl (Nat.lt_trans hb (by decide)) hel]
  simp only [↓reduceIte]
  unfold setAddByScan
  refine wpAny_bind (wpAny_bind (wpAny_rule (wpAny_bind (wpAny_setScan_of (intKind_is _ _ x tk) ho hd hf hel ?_))))
  have hfind : ∀ (es : List (Int × Value)), IntEs prog w es → ((es.findIdx? fun e => (PySem.intKind prog w).is x e.2).isSome = true ↔ x ∈ es.map fun e => intOf e.2) := fun es htx => by
    rw [List.findIdx?_isSome, List.any_eq_true, List.mem_map]
    constructor
    · rintro ⟨e, he, q⟩
      obtain ⟨y, u, rfl⟩ := htx e he
      exact ⟨_, he, is_int.mp q⟩
    · rintro ⟨e, he, q⟩
      obtain ⟨y, u, rfl⟩ := htx e he
      exact ⟨_, he, is_int.mpr q⟩
  have hmem : ((es.toList.findIdx? fun e => (PySem.intKind prog w).is x e.2).isSome = true ↔ x ∈ xs) := (hfind _ htx).trans hp.mem_iff
  cases hr : List.findIdx? (fun e => (PySem.intKind prog w).is x e.2) es.toList with
  | some j =>
    rw [hr] at hmem
    have hx := hmem.mp rfl
    dsimp only
    refine wpAny_pure (wpAny_pure ?_)
    have e : s = { s with heap := s.heap } := by cases s; rfl
    rw [e]
    refine h false s.heap _ (Heap.SameBut.refl a s.heap) ho ?_
    rw [if_pos hx]; exact T
  | none =>
    rw [hr] at hmem
    have hx : x ∉ xs := fun q => by have := hmem.mpr q; cases this
    dsimp only
    have hgw : ∀ (b : Bool) {s₁ : Shared} {Q' : Unit → Shared → Prop}, Q' () s₁ → wpAny (model prog w) A (match b with | true => rule "set.scan.the-table-gave-way" | false => pure ()) Q' E s₁ :=
      fun b s₁ Q' hq => by cases b <;> first | exact wpAny_pure hq | exact wpAny_rule hq
    have hperm := layNew_perm t es ((PySem.intKind prog w).hash x) (.int x tk)
    have hfits := layNew_fits t es ((PySem.intKind prog w).hash x) (.int x tk)
    have htab := layNew_tab hpl es ((PySem.intKind prog w).hash x) (.int x tk)
    have hkeep := layNew_keeps t es ((PySem.intKind prog w).hash x) (.int x tk)
    generalize layNew t es ((PySem.intKind prog w).hash x) (.int x tk) = L at hperm hfits hkeep htab ⊢
    obtain ⟨es1, t1, wasDummy, gave⟩ := L
    dsimp only at hperm hfits hkeep htab ⊢
    rw [Array.toList_push] at hperm
    have htx1 : IntEs prog w es1.toList := fun e he => by
      rcases List.mem_append.mp (hperm.mem_iff.mp he) with q | q
      · exact htx e q
      · rw [List.mem_singleton] at q; exact ⟨x, tk, q⟩
    have hp1 : (es1.toList.map fun e => intOf e.2).Perm (xs ++ [x]) := by
      refine (hperm.map _).trans ?_
      rw [List.map_append]
      exact hp.append_right _
    have hsz1 : es1.size = es.size + 1 := by rw [← Array.length_toList, hperm.length_eq, List.length_append, Array.length_toList]; rfl
    have hb1 : es1.size < 64 := by omega
    have fin : ∀ (es2 : Array (Int × Value)) (ep2 : Nat) (t2 : SetTable), es2.toList.Perm es1.toList → t2.fits es2.size = true → TabR t2 → t2.led = t.led → SetZ prog w (setObj es2 ep2 t2) (if x ∈ xs then xs else xs ++ [x]) := fun es2 ep2 t2 p2 f2 pl2 l2 => by
      rw [if_neg hx]
      refine ⟨⟨es2, ep2, t2, rfl, htx1.perm p2, (p2.map _).trans hp1, ?_, f2, pl2, by rw [l2]; exact hled⟩, ?_⟩
      · rw [← Array.length_toList, p2.length_eq, Array.length_toList]; exact hb1
      · rw [List.nodup_append]
        exact ⟨T.nodup, by simp, fun a ha b hb e => by rw [List.mem_singleton] at hb; subst hb; exact hx (e ▸ ha)⟩
    refine wpAny_bind (hgw _ ?_)
    -- by value?
    have tail : ∀ (t2 : SetTable), t2.fits es1.size = true → TabR t2 → t2.led = t.led → wpAny (model prog w) A (do
        storeSet a es1 t2
        if (!wasDummy && t2.tooFull) = true then do
            (match (relayAll t2 es1 (SetTable.grown es1.size)).2.2 with | true => rule "set.scan.the-table-gave-way" | false => pure ())
            storeSet a (relayAll t2 es1 (SetTable.grown es1.size)).1 (relayAll t2 es1 (SetTable.grown es1.size)).2.1
            pure (some true)
          else pure (some true)) (fun r s₁ => ∃ b, r = some b ∧ Q b s₁) E s := fun t2 f2 pl2 l2 => by
      refine wpAny_bind (wpAny_storeSet_of ho hd ?_ (Nat.le_trans (Nat.le_of_lt hb1) (by decide)))
      have hg1 := Heap.get?_update_self (Obj.putSet es1 t2) ho (by rw [putSet_of es1 t2 hd]; rfl)
      rw [putSet_of es1 t2 hd] at hg1
      have hsb1 := Heap.SameBut.update s.heap a (Obj.putSet es1 t2)
      split
      · have q1 := relayAll_perm t2 es1 (SetTable.grown es1.size)
        have q2 := relayAll_fits t2 es1 (SetTable.grown es1.size)
        have q4 := relayAll_tab t2 es1 (SetTable.grown es1.size)
        have q3 := relayAll_keeps t2 es1 (SetTable.grown es1.size)
        generalize relayAll t2 es1 (SetTable.grown es1.size) = R at q1 q2 q3 q4 ⊢
        obtain ⟨es2, t3, gave2⟩ := R
        dsimp only at q1 q2 q3 q4 ⊢
        refine wpAny_bind (hgw _ ?_)
        have hsz2 : es2.size = es1.size := by rw [← Array.length_toList, q1.length_eq, Array.length_toList]
        refine wpAny_bind (wpAny_storeSet_of hg1 rfl ?_ (by rw [hsz2]; exact Nat.le_trans (Nat.le_of_lt hb1) (by decide)))
        have hg2 := Heap.get?_update_self (Obj.putSet es2 t3) hg1 (by rw [putSet_of es2 t3 rfl]; rfl)
        rw [putSet_of es2 t3 rfl] at hg2
        exact wpAny_pure ⟨true, rfl, h true _ _ (hsb1.trans (Heap.SameBut.update _ a _)) hg2 (fin es2 _ t3 q1 q2 q4 (q3.1.trans l2))⟩
      · exact wpAny_pure ⟨true, rfl, h true _ _ hsb1 hg1 (fin es1 _ t2 (.refl _) f2 pl2 l2)⟩
    cases hpl1 : t1.plain with
    | true =>
      rw [if_pos rfl, show hashByValue 8 (.int x tk) = pure true from rfl]
      refine wpAny_bind (wpAny_pure ?_)
      exact wpAny_mono (tail t1 hfits htab hkeep.1) (fun r s1 ⟨b, e, q⟩ => by subst e; exact wpAny_pure q) fun _ _ e => e
    | false =>
      rw [if_neg Bool.false_ne_true]
      refine wpAny_bind (wpAny_pure ?_)
      exact wpAny_mono (tail t1 hfits htab hkeep.1) (fun r s1 ⟨b, e, q⟩ => by subst e; exact wpAny_pure q) fun _ _ e => e
end
end Mine
end
section
set_option autoImplicit false
namespace Mine
section
variable {prog : Program} {w : World} {A : Around} {R : Result → Shared → Prop} {I : Addr} {fp wr : List Addr} {G : Array GenState → Array GenState → Prop} {n : Nat} {P : Nat → Value → Prop} {St : Nat → Shared → Prop}
end
section
variable {prog : Program} {w : World} {A : Around} {E : Value → Shared → Prop} {s : Shared}
theorem set_new_1T (a : Value) {Q₁ : Value → Shared → Prop} (h : Q₁ (.ref s.heap.objs.size) { s with heap := s.heap.push (setObj #[] 0 (.fresh 0 0 (!w.params.followText "set-order"))) }) :
    codeAny (model prog w) A (.call (.builtin "set.__new__") ⟨[.type "set", a], []⟩) (wants Q₁ E) s := by
  refine codeAny_of_tree ?_
  show wpAny _ A.in1 (do checkBuiltinCall "set.__new__" ⟨[.type "set", a], []⟩; again (.builtin "set.__new__" ⟨[.type "set", a], []⟩)) _ _ s
  refine wpAny_bind (wpAny_of_eq (PySem.F.newCall_set_1 a) (wpAny_pure ⟨plainId_quiet PySem.F.plain_set_new _, codeAny_builtin PySem.F.entry_set_new ?_⟩))
  rw [Around.under_plainId PySem.F.plain_set_new _]
  unfold Builtin.«set.__new__» Builtin.Frozenset.newClass
  have hsub := PySem.sub_set_self
  obtain ⟨hp, g, d, tk, os⟩ := s
  dsimp only
  wp_walk
  refine wpAny_askSetting (wpAny_pure ?_)
  dsimp only
  simp only [newObj]
  refine wpAny_bind (wpAny_alloc (wpAny_pure ?_))
  exact wpAny_pure h
set_option maxHeartbeats 4000000 in
theorem callType_chk {T newId initId : String} {args : List Value} {Q Q₁ : Value → Shared → Prop} (ft : TypeCalled T newId initId)
    (hct : checkTypeCall T ⟨args, []⟩ = pure ()) (hnew : codeAny (model prog w) A.in1 (.call (.builtin newId) ⟨.type T :: args, []⟩) (wants Q₁ E) s)
    (hnext : ∀ obj s₁, Q₁ obj s₁ → s₁.TypeIs obj T ∧ codeAny (model prog w) A.in1 (.call (.builtin initId) ⟨obj :: args, []⟩) (wants (fun r s₂ => r = .none ∧ Q obj s₂) E) s₁) :
    wpAny (model prog w) A (call (.type T) args) Q E s := by
  obtain ⟨c, tl, hmro⟩ := ft.mro
  have hmade := ft.made
  have hsub := ft.sub
  refine wpAny_call (codeAny_of_tree ?_)
  show wpAny _ _ (callAny (.type T) _) _ _ _
  refine wpAny_pure ⟨Code.quiet_builtin _ (by decide +kernel), codeAny_builtin PySem.F.entry_type_call ?_⟩
  rw [Around.under_plain (weight_type_call_type T args []) rfl]
  have h1 := ft.notType
  have h2 := ft.canCreate
  repeat (any_goals (first | assumption | wp_step))
  refine codeAny_mono hnew fun r s₁ hr => ?_
  cases r with
  | error e => exact hr
  | ok fl =>
    cases fl with
    | ret obj =>
      obtain ⟨hT, hcode⟩ := hnext obj s₁ hr
      have hli := ft.init.lookup
      have hbi := ft.init.bind obj
      repeat (any_goals (first | assumption | wp_step))
      refine codeAny_mono hcode fun r₂ s₂ hr₂ => ?_
      cases r₂ with
      | error e => exact hr₂
      | ok fl₂ =>
        cases fl₂ with
        | ret r =>
          obtain ⟨rfl, hq⟩ := hr₂
          repeat (any_goals (first | assumption | wp_step))
        | _ => exact hr₂.elim
    | _ => exact hr.elim
end
end Mine
end
section
set_option autoImplicit false
namespace Mine
noncomputable def dedupI (ys : List Int) : List Int := ys.foldl (fun acc y => if y ∈ acc then acc else acc ++ [y]) []
theorem dedupI_snoc (ys : List Int) (y : Int) : dedupI (ys ++ [y]) = if y ∈ dedupI ys then dedupI ys else dedupI ys ++ [y] := by unfold dedupI; rw [List.foldl_append]; rfl
theorem dedupI_sub (ys : List Int) : ∀ y ∈ dedupI ys, y ∈ ys := by
  unfold dedupI
  suffices h : ∀ (ys acc : List Int) (S : List Int), (∀ y ∈ acc, y ∈ S) → (∀ y ∈ ys, y ∈ S) → ∀ y ∈ ys.foldl (fun acc y => if y ∈ acc then acc else acc ++ [y]) acc, y ∈ S from h ys [] ys (fun y h => (nomatch h)) fun y h => h
  intro ys
  induction ys with
  | nil => intro acc S h1 h2 y hy; exact h1 y hy
  | cons z ys ih =>
    intro acc S h1 h2
    refine ih _ S ?_ fun y hy => h2 y (.tail _ hy)
    intro y hy
    dsimp only at hy
    split at hy
    · exact h1 y hy
    · rcases List.mem_append.mp hy with h | h
      · exact h1 y h
      · rw [List.mem_singleton.mp h]; exact h2 z (.head _)
theorem dedupI_len (ys : List Int) : (dedupI ys).length ≤ ys.length := by
  unfold dedupI
  suffices h : ∀ (ys acc : List Int), (ys.foldl (fun acc y => if y ∈ acc then acc else acc ++ [y]) acc).length ≤ acc.length + ys.length by simpa using h ys []
  intro ys
  induction ys with
  | nil => intro acc; exact Nat.le_refl _
  | cons z ys ih =>
    intro acc
    refine Nat.le_trans (ih _) ?_
    dsimp only
    split <;> simp <;> omega
theorem dedupI_nodup (ys : List Int) : (dedupI ys).Nodup := by
  unfold dedupI
  suffices h : ∀ (ys acc : List Int), acc.Nodup → (ys.foldl (fun acc y => if y ∈ acc then acc else acc ++ [y]) acc).Nodup from h ys [] List.nodup_nil
  intro ys
  induction ys with
  | nil => exact fun acc h => h
  | cons y ys ih =>
    intro acc h
    refine ih _ ?_
    show (if y ∈ acc then acc else acc ++ [y]).Nodup
    split
    · exact h
    · rename_i hy
      rw [List.nodup_append]
      exact ⟨h, by simp, fun a ha b hb e => by rw [List.mem_singleton] at hb; subst hb; exact hy (e ▸ ha)⟩
theorem dedupI_sup (ys : List Int) : ∀ y ∈ ys, y ∈ dedupI ys := by
  unfold dedupI
  suffices h : ∀ (ys acc : List Int), ∀ y, y ∈ acc ∨ y ∈ ys → y ∈ ys.foldl (fun acc y => if y ∈ acc then acc else acc ++ [y]) acc from fun y hy => h ys [] y (.inr hy)
  intro ys
  induction ys with
  | nil => intro acc y h; exact h.elim id fun h => (nomatch h)
  | cons x ys ih =>
    intro acc y h
    refine ih _ y ?_
    rcases h with h | h
    · left; show y ∈ if x ∈ acc then acc else acc ++ [x]
      split
      · exact h
      · exact List.mem_append_left _ h
    · cases h with
      | head => left; show x ∈ if x ∈ acc then acc else acc ++ [x]
                split
                · assumption
                · exact List.mem_append_right _ (.head _)
      | tail _ h => exact .inr h
section
variable {prog : Program} {w : World} {A : Around} {R : Result → Shared → Prop} {I : Addr} {fp wr : List Addr} {G : Array GenState → Array GenState → Prop} {n : Nat} {P : Nat → Value → Prop} {St : Nat → Shared → Prop}
theorem update_Z {ss : List Int} (Wk : WalksS prog w A.in1 I fp wr G ss.length P St) (S : Addr) (hSf : S ∉ fp) (hval : ∀ i v, P i v → ∃ t, v = .int (ss.getD i 0) t) (hb : ss.length < 60) :
    ∀ (k i : Nat) (s : Shared) (o : Obj), ss.length - i = k → i ≤ ss.length → St i s → s.heap.get? S = some o → SetZ prog w o (dedupI (ss.take i)) →
      (∀ s' o', Moved (S :: wr) G s s' → s'.heap.get? S = some o' → SetZ prog w o' (dedupI ss) → R (.ok (.ret .none)) s') →
      codeAny (model prog w) A (.builtin "set.update.loop" ⟨[.ref S, .ref I], []⟩) R s := by
  have hSw : S ∉ wr := fun h => hSf (Wk.sub _ h)
  have hsub : ∀ b ∈ wr, b ∈ S :: wr := fun b hb => List.mem_cons_of_mem _ hb
  intro k
  induction k with
  | zero =>
    intro i s o hk hi hst ho T hR
    obtain rfl : i = ss.length := by omega
    rw [List.take_length] at T
    refine codeAny_builtin PyProof.Rows.F.entry_set_update_loop ?_
    rw [Around.under_plainId PyProof.Rows.F.plain_set_update_loop _]
    show wpAny _ A.in1 (pyNext (.ref I) >>= _) _ _ s
    refine wpAny_bind (Wk.done s _ _ hst fun s' hm => ?_)
    show wpAny _ A.in1 (ret Value.none) _ _ s'
    exact wpAny_pure (hR s' o (hm.mono hsub) (hm.heap S _ hSw ho) T)
  | succ k ih =>
    intro i s o hk hi hst ho T hR
    have hlt : i < ss.length := by omega
    refine codeAny_builtin PyProof.Rows.F.entry_set_update_loop ?_
    rw [Around.under_plainId PyProof.Rows.F.plain_set_update_loop _]
    show wpAny _ A.in1 (pyNext (.ref I) >>= _) _ _ s
    refine wpAny_bind (Wk.item i s _ _ hlt hst fun v s' hP hst' hm => ?_)
    obtain ⟨t, rfl⟩ := hval i v hP
    have ho' := hm.heap S _ hSw ho
    show wpAny _ A.in1 (holding [Value.int (ss.getD i 0) t] (setAdd S (.int (ss.getD i 0) t)) >>= _) _ _ s'
    refine wpAny_bind (wpAny_holding ?_)
    unfold setAdd
    refine wpAny_holding ?_
    refine wpAny_bind ((PySem.intKind prog w).pyHash (k := ss.getD i 0) (intKind_is _ _ _ _) ?_)
    have hdl : (dedupI (ss.take i)).length < 60 := by have := dedupI_len (ss.take i); rw [List.length_take] at this; omega
    refine setAdd_Z (s := { s' with toks := s'.toks + 1 }) ho' T hdl fun b h' o' hsb hg T' => ?_
    have hx : ss[i]? = some (ss.getD i 0) := by rw [List.getD_eq_getElem?_getD, List.getElem?_eq_getElem hlt]; rfl
    have hstep : (if ss.getD i 0 ∈ dedupI (ss.take i) then dedupI (ss.take i) else dedupI (ss.take i) ++ [ss.getD i 0]) = dedupI (ss.take (i + 1)) := by rw [take_snoc hx, dedupI_snoc]
    rw [hstep] at T'
    refine wpAny_pure ⟨plainId_quiet PyProof.Rows.F.plain_set_update_loop _, ih (i + 1) _ o' (by omega) hlt (Wk.frame _ s' _ _ hst' (Nat.le_succ _) fun b hb o e => ?_) hg T' fun s'' o'' hm'' hg'' T'' => ?_⟩
    · rw [hsb.2 b (fun h : b = S => hSf (by rw [← h]; exact hb))]; exact e
    · refine hR s'' o'' (Moved.trans Wk.gtrans ((hm.mono hsub).then_heap (Nat.le_succ _) fun b o hb e => ?_) hm'') hg'' T''
      rw [hsb.2 b (fun h : b = S => hb (by rw [h]; exact List.mem_cons_self))]; exact e
end
section
variable {prog : Program} {w : World} {A : Around} {E : Value → Shared → Prop} {s : Shared}
theorem setZ_fresh : SetZ prog w (setObj #[] 0 (.fresh 0 0 (!w.params.followText "set-order"))) [] :=
  ⟨⟨#[], 0, _, rfl, fun e he => by simp at he, by simp, by decide, by rfl, ⟨List.Pairwise.nil, rfl⟩, by cases w.params.followText "set-order" <;> simp [SetTable.fresh]⟩, List.nodup_nil⟩
theorem ints_val : ∀ {vs : List Value} {ss : List Int} {i : Nat} {v : Value}, IntsAre vs ss → vs[i]? = some v → ∃ t, v = .int (ss.getD i 0) t
  | _, _, i, v, .nil, h => by simp at h
  | _, _, 0, v, .cons n t hr, h => by simp at h; exact ⟨t, by rw [← h]; rfl⟩
  | _, _, i + 1, v, .cons n t hr, h => by
    simp only [List.getElem?_cons_succ] at h
    obtain ⟨t', e⟩ := ints_val hr h
    exact ⟨t', by rw [e]; rfl⟩
end
section
variable {prog : Program} {w : World} {A : Around} {E : Value → Shared → Prop} {s : Shared}
set_option maxHeartbeats 4000000 in
theorem init_Z {l S : Addr} {items : Array Value} {ss : List Int} {so : Obj} {nl : Nat} {Q : Value → Shared → Prop} (hh : A.handled = none) (hS : s.heap.get? S = some so) (Tso : SetZ prog w so []) (hso : so = setObj #[] 0 (.fresh 0 0 (!w.params.followText "set-order")))
    (hl1 : s.heap.IsList l items) (hlS : l ≠ S) (hi : IntsAre items.toList ss) (hb : ss.length < 60)
    (h : ∀ (h' : Heap) (tk : Nat) o, h'.get? S = some o → SetZ prog w o (dedupI ss) → (∀ b o, b ≠ S → s.heap.get? b = some o → h'.get? b = some o) → Q .none { s with heap := h', toks := tk }) :
    codeAny (model prog w) A (.call (.builtin "set.__init__") ⟨[.ref S, .ref l], []⟩) (wants Q E) s := by
  have hsc : so.cls = .type "set" := by rw [hso]; rfl
  have hT : Shared.TypeIs s (.ref S) "set" := ⟨_, hS, hsc⟩
  have hlen : items.size = ss.length := by rw [← Array.length_toList]; exact hi.length
  have hlS2 : l < s.heap.objs.size := by obtain ⟨o, ho, _⟩ := hl1; exact Heap.lt_size ho
  have hSS : S < s.heap.objs.size := Heap.lt_size hS
  refine codeAny_call_builtin PySem.F.called_set.init.plain PySem.F.entry_set_init (check_set_init_1 hT ?_)
  have hused : ∀ {E' : Value → Shared → Prop} {A' : Around} {Q' : Bool → Shared → Prop}, Q' false s → wpAny (model prog w) A' (setUsed S) Q' E' s := fun {E' A' Q'} q => by
    unfold setUsed
    refine wpAny_bind (wpAny_setState_of (es := #[]) (ep := 0) (t := .fresh 0 0 (!w.params.followText "set-order")) hS (by rw [hso]; rfl) rfl ?_)
    exact wpAny_pure q
  have hl0 := hl1
  obtain ⟨ol, hol, hcl, nl, hdl⟩ := hl1
  obtain ⟨ocls, odict, odata, oslots⟩ := ol
  simp only at hcl hdl
  subst hcl; subst hdl
  have hsls := PySem.F.sub_list_set
  have hslf := PySem.F.sub_list_frozenset
  have hne : (Value.type "list" == Value.type "dict") = false := by decide
  unfold Builtin.«set.__init__» noKeywords Builtin.Frozenset.updateFrom
  generalize hPI : pyIter = PI at *
  generalize hSU : setUsed = SU at *
  wp_walk
  refine hused ?_
  wp_walk
  subst hPI
  refine wpAny_pyIter_list hl0 ?_
  refine wpAny_bind (wpAny_runValue ?_)
  have hh3 : A.in1.in1.handled = none := by simp [hh]
  have hneI : l ≠ s.heap.objs.size := Nat.ne_of_lt hlS2
  have hSf : S ∉ [s.heap.objs.size, l] := by
    simp only [List.mem_cons, List.not_mem_nil, or_false, not_or]
    exact ⟨Nat.ne_of_lt hSS, Ne.symm hlS⟩
  have hval : ∀ (i : Nat) (v : Value), items[i]? = some v → ∃ t, v = .int (ss.getD i 0) t := fun i v hv => ints_val hi (by rw [Array.getElem?_toList]; exact hv)
  have W0 := (Walks.list (prog := prog) (w := w) hh3 _ l hneI items).toS
  rw [hlen] at W0
  refine update_Z W0 S hSf hval hb (ss.length - 0) 0 _ so (by omega) (Nat.zero_le _) ⟨⟨_, Heap.get?_push_size _ rfl, rfl, rfl⟩, (hl0.push _)⟩ (Heap.get?_push_of_some _ hS) Tso ?_
  intro s' o' hm hg T'
  obtain ⟨h', g', d', tk', os'⟩ := s'
  have eg : g' = s.gens := hm.gens
  have ed : d' = s.drawn := hm.drawn
  have eo : os' = s.os := hm.os
  subst eg; subst ed; subst eo
  show wpAny _ _ _ _ _ _
  refine wpAny_pure ?_
  show wpAny _ _ (ret Value.none) _ _ _
  refine wpAny_pure (h h' tk' o' hg T' fun b o hb e => ?_)
  have hb2 : b ≠ s.heap.objs.size := Nat.ne_of_lt (Heap.lt_size e)
  exact hm.heap b o (by simp only [List.mem_cons, List.not_mem_nil, or_false, not_or]; exact ⟨hb, hb2⟩) (Heap.get?_push_of_some _ e)
end
end Mine
end
section
set_option autoImplicit false
namespace Mine
section
variable {prog : Program} {w : World} {A : Around} {E : Value → Shared → Prop} {s : Shared}
theorem call_set_Z {l : Addr} {items : Array Value} {ss : List Int} {Q : Value → Shared → Prop} (hh : A.handled = none) (hl : s.heap.IsList l items) (hi : IntsAre items.toList ss) (hb : ss.length < 60)
    (h : ∀ (h' : Heap) (tk : Nat) o, h'.get? s.heap.objs.size = some o → SetZ prog w o (dedupI ss) → (∀ b o, s.heap.get? b = some o → h'.get? b = some o) → Q (.ref s.heap.objs.size) { s with heap := h', toks := tk }) :
    wpAny (model prog w) A (call (.type "set") [.ref l]) Q E s := by
  obtain ⟨so, hso⟩ : ∃ so, so = setObj #[] 0 (.fresh 0 0 (!w.params.followText "set-order")) := ⟨_, rfl⟩
  refine callType_chk PySem.F.called_set (PySem.F.typeCall_set_1 (.ref l)) (set_new_1T (.ref l) (E := E) (Q₁ := fun obj s₁ => obj = .ref s.heap.objs.size ∧ s₁ = { s with heap := s.heap.push so }) ⟨rfl, by rw [hso]⟩) ?_
  rintro obj s₁ ⟨rfl, rfl⟩
  have hS : (s.heap.push so).get? s.heap.objs.size = some so := Heap.get?_push_size _ (by rw [hso]; rfl)
  have hlS : l ≠ s.heap.objs.size := by obtain ⟨o, ho, _⟩ := hl; exact Nat.ne_of_lt (Heap.lt_size ho)
  refine ⟨⟨so, hS, by rw [hso]; rfl⟩, ?_⟩
  refine init_Z (s := { s with heap := s.heap.push so }) (nl := 0) hh hS (hso ▸ setZ_fresh) hso (hl.push _) hlS hi hb fun h' tk o hg T' hk => ⟨rfl, ?_⟩
  exact h h' tk o hg T' fun b o e => hk b o (Nat.ne_of_lt (Heap.lt_size e)) (Heap.get?_push_of_some _ e)
end
section
variable {W : Wd} {A : Around} {env : Env} {outer : Outs} {loc : Loc} {mem R : Mem} {E : Ex W} {F : Frz} {s : Shared}
theorem VRs.ints : ∀ {ns : List Int} {vs : List Value}, VRs W F (ns.map .int) vs → IntsAre vs ns
  | [], _, .nil => .nil
  | _ :: _, _, .cons r q => by cases r.view; exact .cons _ _ (VRs.ints q)
theorem VRs.ofInts : ∀ {ns : List Int} {vs : List Value}, IntsAre vs ns → VRs W F (ns.map .int) vs
  | _, _, .nil => .nil
  | _, _, .cons i t r => .cons (.int i t) (VRs.ofInts r)
theorem set_ints {v : V} {ss : List Int} {Q : V → Loc → Mem → Prop} (hh : A.handled = none) (q : Sq mem v "list" (ss.map V.int)) (hz : ss.length < 60) (h : ∀ a o, mem a = none → SetZ W.prog W.w o (dedupI ss) → Q (.ref a) loc (mset mem a (.raw o))) :
    OpV W A env outer (fun vs => call (.type "set") vs) [v] loc mem Q E := op1 fun R F s v' S r => by
  obtain ⟨a, vs, n, rfl, ho, rs⟩ := q.at S r
  refine call_set_Z hh ⟨_, ho, rfl, n, rfl⟩ rs.ints hz fun h' tk o hg T hk => ?_
  exact Post.mk (.ref _) (S.alloc (t := tk) (d := s.drawn) (x := .raw o) (get?_size s.heap) S.size_le hk hg .raw) (h _ o (S.free (get?_size s.heap)).1 T)
end
end Mine
end
section
set_option autoImplicit false
namespace Mine
section
variable {prog : Program} {w : World} {A : Around} {E : Value → Shared → Prop} {s : Shared}
end
end Mine
end
section
set_option autoImplicit false
namespace Mine
section
variable {prog : Program} {w : World} {A : Around} {E : Value → Shared → Prop} {s : Shared}
end
section
variable {W : Wd} {A : Around} {env : Env} {outer : Outs} {loc : Loc} {mem R : Mem} {E : Ex W} {F : Frz} {s : Shared}
end
end Mine
end
section
set_option autoImplicit false
namespace Mine
theorem slot_setit_next : Slot "set_iterator" "__next__" "set_iterator.__next__" := .of (owner := "set_iterator") (n := "__next__") (by rw [typeLookup_type, builtinLookup_eq_fast]; kernel_rfl) (by decide +kernel) (by decide +kernel) (by decide +kernel) (by first | exact .inl (by decide +kernel) | exact .inr (by decide +kernel)) (by rw [isSubtype_type]; kernel_rfl)
theorem entry_setit_next : entryFor table "set_iterator.__next__" = some Builtin.«set_iterator.__next__» := entryFor_of_tree (by kernel_rfl)
theorem owner_setit : Manifest.owners.lookup (String.ofList ['r', 'o', 't', 'a', 'r', 'e', 't', 'i', '_', 't', 'e', 's'].reverse) = some Manifest.sig_set_iterator := by kernel_rfl
theorem entry_set_iter : entryFor table "set.__iter__" = some Builtin.«frozenset.__iter__» := entryFor_alias (id' := "frozenset.__iter__") (by kernel_rfl) rfl (by decide +kernel) (by kernel_rfl)
theorem args_setit_next (a : Value) : argsOk "set_iterator.__next__" ⟨[a], []⟩ := by
  unfold argsOk; rw [signature?_of (id := "set_iterator.__next__") (n := ['_', '_', 't', 'x', 'e', 'n', '_', '_']) (o := ['r', 'o', 't', 'a', 'r', 'e', 't', 'i', '_', 't', 'e', 's']) (by kernel_rfl) owner_setit]; kernel_rfl
noncomputable def setitObj (first : Value) (i : Nat) (a : Addr) (n ep : Nat) : Obj := { cls := .type "set_iterator", dict := none, data := .fields #[first, .int i 0, .ref a, .int n 0, .int ep 0], slots := #[] }
section
variable {prog : Program} {w : World} {A : Around} {E : Value → Shared → Prop} {s : Shared} {a : Addr} {es : Array (Int × Value)} {ep : Nat} {t : SetTable}
theorem setDrawn_at {Q : Bool → Shared → Prop} (ho : s.heap.get? a = some (setObj es ep t)) (hf : t.fits es.size = true) (h : Q (!w.params.followText "set-order" && (!t.plain && decide (es.size > 1))) s) : wpAny (model prog w) A (setDrawn a) Q E s := by
  unfold setDrawn
  refine wpAny_bind (wpAny_setState_of ho rfl hf ?_)
  dsimp only
  unfold setsByText
  refine wpAny_bind (wpAny_bind (wpAny_askSetting (wpAny_pure ?_)))
  exact wpAny_pure h
theorem pyIter_set {Q : Value → Shared → Prop} (ho : s.heap.get? a = some (setObj es ep t)) (hf : t.fits es.size = true) (hz : es.size < 64)
    (h1 : (!w.params.followText "set-order" && (!t.plain && decide (es.size > 1))) = false → Q (.ref s.heap.objs.size) { s with heap := s.heap.push (setitObj (.int 0 0) 0 a es.size ep) })
    (h2 : (!w.params.followText "set-order" && (!t.plain && decide (es.size > 1))) = true → ∀ (ps : List Nat) (d : Drawn), ps.Perm (List.range es.size) →
      Q (.ref (s.heap.objs.size + 1)) { s with heap := (s.heap.push { cls := .type "tuple", data := .seq (ps.map fun i => rawInt (i : Nat)).toArray }).push (setitObj (.ref s.heap.objs.size) 0 a es.size ep), drawn := d }) :
    wpAny (model prog w) A (pyIter (.ref a)) Q E s := by
  have hT : s.TypeIs (.ref a) "set" := ⟨_, ho, rfl⟩
  refine wpAny_pyIter_slot hT PySem.F.slot_set_iter (wpAny_call_entry PySem.F.slot_set_iter hT entry_set_iter ?_ (PySem.F.args_set_iter_1 _))
  unfold Builtin.«frozenset.__iter__» Builtin.Frozenset.slot0 slotArgs
  simp only [List.isEmpty_nil, Bool.not_true, Bool.false_eq_true, ↓reduceIte, bind_assoc, List.length_nil, bne_self_eq_false]
  unfold Builtin.Frozenset.addrOf Builtin.Frozenset.sizeOf
  refine wpAny_bind (wpAny_pure ?_)
  try dsimp only
  refine wpAny_bind (wpAny_pure ?_)
  refine wpAny_bind (wpAny_bind (wpAny_setEntries_of ho rfl hf (wpAny_pure ?_)))
  refine wpAny_bind (setDrawn_at ho hf ?_)
  cases hdr : (!w.params.followText "set-order" && (!t.plain && decide (es.size > 1))) with
  | false =>
    rw [if_neg Bool.false_ne_true]
    refine wpAny_bind (wpAny_pure ?_)
    refine wpAny_bind (wpAny_setEpoch_of ho rfl hf ?_)
    refine wpAny_bind ?_
    simp only [newFields]
    refine wpAny_newObj_type ?_ (by size_fits)
    exact wpAny_pure ⟨_, rfl, "set_iterator", _, ⟨_, Heap.get?_push_size _ rfl, rfl⟩, slot_setit_next.lookup, h1 hdr⟩
  | true =>
    rw [if_pos rfl]
    refine wpAny_bind (wpAny_drawOrder es.size (List.range es.size) (List.length_range) fun ps d hp => ?_)
    have hpl : ps.length = es.size := by rw [hp.length_eq, List.length_range]
    refine wpAny_bind ?_
    simp only [newTuple]
    refine wpAny_newObj_type ?_ (by show List.length _ ≤ _; rw [List.length_map, hpl]; exact Nat.le_trans (Nat.le_of_lt hz) (by decide))
    refine wpAny_bind (wpAny_setEpoch_of (Heap.get?_push_of_some _ ho) rfl hf ?_)
    refine wpAny_bind ?_
    simp only [newFields]
    refine wpAny_newObj_type ?_ (by size_fits)
    have := h2 hdr ps d hp
    refine wpAny_pure ⟨_, rfl, "set_iterator", _, ⟨_, Heap.get?_push_size _ rfl, rfl⟩, slot_setit_next.lookup, ?_⟩
    rw [Heap.size_push]
    exact this
end
end Mine
end
section
set_option autoImplicit false
namespace Mine
section
variable {prog : Program} {w : World} {A : Around} {E : Value → Shared → Prop} {s : Shared} {a it tp : Addr} {es : Array (Int × Value)} {ep i slot : Nat} {t : SetTable}
theorem setit_put {h : Heap} {k : Nat} {x first : Value} {i' : Int} (ho : h.get? it = some { cls := .type "set_iterator", dict := none, data := .fields #[first, .int i' 0, .ref a, .int es.size 0, .int ep 0], slots := #[] }) :
    (h.update it (Obj.mapFields (·.setIfInBounds k x))).get? it = some { cls := .type "set_iterator", dict := none, data := .fields (#[first, .int i' 0, .ref a, .int es.size 0, .int ep 0].setIfInBounds k x), slots := #[] } := by
  have := Heap.get?_update_self (Obj.mapFields (·.setIfInBounds k x)) ho (Obj.isFreed_of_fields (Obj.data_mapFields (vs := #[first, .int i' 0, .ref a, .int es.size 0, .int ep 0]) rfl _))
  rw [this]; rfl
theorem stop_here {Q : Option Value → Shared → Prop} {P : Fin → Shared → Prop} {s0 : Heap} (hh : A.handled = none) (hb : Heap.ExtBut it s0 s.heap) (hQ : ∀ h', Heap.ExtBut it s0 h' → Q none { s with heap := h' }) :
    wpAny (model prog w) A.in1 (do raiseNew (← newExc (.type "StopIteration") []) : Sem Fin) P (fun e s' => wpAny (model prog w) A (match (Except.error e : Except Value (Option Value)) with
      | .ok (some v) => pure (some v)
      | .ok none => unsupported "iter:the-iterator's-class-has-lost-its-__next__-amid-the-walk"
      | .error e => do if ← isInstance e (.type "StopIteration") then pure none else throw e) Q E s') s := by
  refine wpAny_bind ?_
  simp only [newExc, newTuple]
  refine wpAny_bind (wpAny_newObj_type ?_ (by size_fits))
  refine wpAny_bind (m := firstArgMember _ _) (wpAny_of_eq (a := Value.none) (by first | rfl | (simp only [firstArgMember]; rfl)) ?_)
  refine wpAny_newObj_type ?_ (by size_fits)
  simp only [raiseNew]
  refine wpAny_bind (wpAny_handled ?_)
  rw [show A.in1.handled = none from hh]
  refine wpAny_bind (wpAny_pure (wpAny_throw ?_))
  refine wpAny_bind (wpAny_isInstance (T := "StopIteration") (b := true) ⟨_, Heap.get?_push_size _ rfl, rfl⟩ isSubtype_stop ?_)
  exact wpAny_pure (hQ _ ((hb.push _).push _))
theorem next_drawn {Q : Option Value → Shared → Prop} {ps : List Nat} {p : Nat} {e : Int × Value} (hit : s.heap.get? it = some (setitObj (.ref tp) i a es.size ep)) (ho : s.heap.get? a = some (setObj es ep t)) (hf : t.fits es.size = true)
    (htp : s.heap.get? tp = some { cls := .type "tuple", data := .seq (ps.map fun i => rawInt (i : Nat)).toArray }) (hi : ps[i]? = some p) (hp : es[p]? = some e)
    (hQ : ∀ h', h'.get? it = some (setitObj (.ref tp) (i + 1) a es.size ep) → Heap.SameBut it s.heap h' → Q (some e.2) { s with heap := h' }) : wpAny (model prog w) A (pyNext (.ref it)) Q E s := by
  have hT : s.TypeIs (.ref it) "set_iterator" := ⟨_, hit, rfl⟩
  unfold pyNext
  refine wpAny_bind (wpAny_attempt (wpAny_callSpecial?_slot (name := Str.ofString "__next__") hT slot_setit_next
    (wpAny_call_entry slot_setit_next hT entry_setit_next ?_ (args_setit_next _))))
  unfold Builtin.«set_iterator.__next__»
  refine wpAny_bind (wpAny_of_eq (a := (Value.ref it, [])) rfl ?_)
  refine wpAny_bind (wpAny_fieldsOf hit rfl ?_)
  refine wpAny_bind (wpAny_setEntries_of ho rfl hf ?_)
  rw [if_neg (by simp)]
  have hseq : wpAny (model prog w) A.in1 (seqItems? (.ref tp)) (fun r s' => r = some (ps.map fun i => rawInt (i : Nat)).toArray ∧ s' = s) (fun _ _ => False) s := by
    unfold seqItems?
    exact wpAny_bind (wpAny_load htp (wpAny_pure ⟨rfl, rfl⟩))
  refine wpAny_bind (wpAny_mono hseq (fun r s' ⟨e1, e2⟩ => ?_) fun _ _ f => f.elim)
  subst e1; subst e2
  dsimp only
  rw [show (ps.map fun i => rawInt (i : Nat)).toArray[(i : Int).toNat]? = some (rawInt (p : Nat)) from by rw [Int.toNat_natCast, List.getElem?_toArray, List.getElem?_map, hi]; rfl]
  unfold setNextDrawn
  refine wpAny_bind (wpAny_bind (wpAny_setState_of ho rfl hf ?_))
  dsimp only
  rw [if_neg (by simp), Int.toNat_natCast, hp]
  refine wpAny_pure ?_
  refine wpAny_bind (wpAny_setField hit rfl (by show 1 < 5; decide) ?_)
  exact wpAny_pure ⟨_, rfl, wpAny_pure (hQ _ (setit_put hit) (Heap.SameBut.update ..))⟩
theorem next_drawn_end {Q : Option Value → Shared → Prop} {ps : List Nat} (hit : s.heap.get? it = some (setitObj (.ref tp) i a es.size ep)) (ho : s.heap.get? a = some (setObj es ep t)) (hf : t.fits es.size = true)
    (hh : A.handled = none) (htp : s.heap.get? tp = some { cls := .type "tuple", data := .seq (ps.map fun i => rawInt (i : Nat)).toArray }) (hi : ps[i]? = none)
    (hQ : ∀ h', Heap.ExtBut it s.heap h' → Q none { s with heap := h' }) : wpAny (model prog w) A (pyNext (.ref it)) Q E s := by
  have hT : s.TypeIs (.ref it) "set_iterator" := ⟨_, hit, rfl⟩
  unfold pyNext
  refine wpAny_bind (wpAny_attempt (wpAny_callSpecial?_slot (name := Str.ofString "__next__") hT slot_setit_next
    (wpAny_call_entry slot_setit_next hT entry_setit_next ?_ (args_setit_next _))))
  unfold Builtin.«set_iterator.__next__»
  refine wpAny_bind (wpAny_of_eq (a := (Value.ref it, [])) rfl ?_)
  refine wpAny_bind (wpAny_fieldsOf hit rfl ?_)
  refine wpAny_bind (wpAny_setEntries_of ho rfl hf ?_)
  rw [if_neg (by simp)]
  have hseq : wpAny (model prog w) A.in1 (seqItems? (.ref tp)) (fun r s' => r = some (ps.map fun i => rawInt (i : Nat)).toArray ∧ s' = s) (fun _ _ => False) s := by
    unfold seqItems?
    exact wpAny_bind (wpAny_load htp (wpAny_pure ⟨rfl, rfl⟩))
  refine wpAny_bind (wpAny_mono hseq (fun r s' ⟨e1, e2⟩ => ?_) fun _ _ f => f.elim)
  subst e1; subst e2
  dsimp only
  rw [show (ps.map fun i => rawInt (i : Nat)).toArray[(i : Int).toNat]? = none from by rw [Int.toNat_natCast, List.getElem?_toArray, List.getElem?_map, hi]; rfl]
  refine wpAny_bind (wpAny_setField hit rfl (by show 0 < 5; decide) ?_)
  refine wpAny_bind (wpAny_setField (setit_put hit) rfl (by show 2 < 5; decide) ?_)
  exact stop_here hh ((Heap.SameBut.update ..).trans (Heap.SameBut.update ..)).extBut hQ
theorem next_plain {Q : Option Value → Shared → Prop} {x : Value} {nx : Nat} (hit : s.heap.get? it = some (setitObj (.int slot 0) i a es.size ep)) (ho : s.heap.get? a = some (setObj es ep t)) (hf : t.fits es.size = true)
    (hn : ∀ {A' : Around} {E' : Value → Shared → Prop} {Q' : Option (Value × Nat) → Shared → Prop}, Q' (some (x, nx)) s → wpAny (model prog w) A' (setNext a slot i ep) Q' E' s)
    (hQ : ∀ h', h'.get? it = some (setitObj (.int nx 0) (i + 1) a es.size ep) → Heap.SameBut it s.heap h' → Q (some x) { s with heap := h' }) : wpAny (model prog w) A (pyNext (.ref it)) Q E s := by
  have hT : s.TypeIs (.ref it) "set_iterator" := ⟨_, hit, rfl⟩
  unfold pyNext
  refine wpAny_bind (wpAny_attempt (wpAny_callSpecial?_slot (name := Str.ofString "__next__") hT slot_setit_next
    (wpAny_call_entry slot_setit_next hT entry_setit_next ?_ (args_setit_next _))))
  unfold Builtin.«set_iterator.__next__»
  refine wpAny_bind (wpAny_of_eq (a := (Value.ref it, [])) rfl ?_)
  refine wpAny_bind (wpAny_fieldsOf hit rfl ?_)
  refine wpAny_bind (wpAny_setEntries_of ho rfl hf ?_)
  rw [if_neg (by simp)]
  refine wpAny_bind (hn ?_)
  dsimp only
  refine wpAny_bind (wpAny_setField hit rfl (by show 0 < 5; decide) ?_)
  refine wpAny_bind (wpAny_setField (setit_put hit) rfl (by show 1 < 5; decide) ?_)
  refine wpAny_pure ⟨_, rfl, wpAny_pure (hQ _ ?_ ((Heap.SameBut.update ..).trans (Heap.SameBut.update ..)))⟩
  have h1 := setit_put (k := 0) (x := rawInt (nx : Nat)) hit
  exact setit_put (k := 1) (x := rawInt ((i : Int) + 1)) h1
theorem next_plain_end {Q : Option Value → Shared → Prop}  (hit : s.heap.get? it = some (setitObj (.int slot 0) i a es.size ep)) (ho : s.heap.get? a = some (setObj es ep t)) (hf : t.fits es.size = true)
    (hh : A.handled = none) (hn : ∀ {A' : Around} {E' : Value → Shared → Prop} {Q' : Option (Value × Nat) → Shared → Prop}, Q' none s → wpAny (model prog w) A' (setNext a slot i ep) Q' E' s)
    (hQ : ∀ h', Heap.ExtBut it s.heap h' → Q none { s with heap := h' }) : wpAny (model prog w) A (pyNext (.ref it)) Q E s := by
  have hT : s.TypeIs (.ref it) "set_iterator" := ⟨_, hit, rfl⟩
  unfold pyNext
  refine wpAny_bind (wpAny_attempt (wpAny_callSpecial?_slot (name := Str.ofString "__next__") hT slot_setit_next
    (wpAny_call_entry slot_setit_next hT entry_setit_next ?_ (args_setit_next _))))
  unfold Builtin.«set_iterator.__next__»
  refine wpAny_bind (wpAny_of_eq (a := (Value.ref it, [])) rfl ?_)
  refine wpAny_bind (wpAny_fieldsOf hit rfl ?_)
  refine wpAny_bind (wpAny_setEntries_of ho rfl hf ?_)
  rw [if_neg (by simp)]
  refine wpAny_bind (hn ?_)
  dsimp only
  refine wpAny_bind (wpAny_setField hit rfl (by show 2 < 5; decide) ?_)
  exact stop_here hh (Heap.SameBut.update ..).extBut hQ
end
end Mine
end
section
set_option autoImplicit false
namespace Mine
structure SWalk (prog : Program) (w : World) (A : Around) (I : Addr) (fp : List Addr) (vs : List Value) (St : Nat → Heap → Prop) : Prop where
  frame : ∀ {i : Nat} {h h' : Heap}, St i h → (∀ b ∈ fp, ∀ o, h.get? b = some o → h'.get? b = some o) → St i h'
  item : ∀ {i : Nat} {v : Value} {s : Shared} {Q : Option Value → Shared → Prop} {E : Value → Shared → Prop}, vs[i]? = some v → St i s.heap →
    (∀ h', St (i + 1) h' → (∀ b o, b ≠ I → s.heap.get? b = some o → h'.get? b = some o) → Q (some v) { s with heap := h' }) → wpAny (model prog w) A (pyNext (.ref I)) Q E s
  done : ∀ {i : Nat} {s : Shared} {Q : Option Value → Shared → Prop} {E : Value → Shared → Prop}, vs[i]? = none → St i s.heap →
    (∀ h', (∀ b o, b ≠ I → s.heap.get? b = some o → h'.get? b = some o) → Q none { s with heap := h' }) → wpAny (model prog w) A (pyNext (.ref I)) Q E s
section
variable {prog : Program} {w : World} {A : Around} {E : Value → Shared → Prop} {s : Shared} {I : Addr} {fp : List Addr} {vs : List Value} {St : Nat → Heap → Prop}
theorem SWalk.loop {R : Result → Shared → Prop} (Wk : SWalk prog w A.in1 I fp vs St) (hz : vs.length < 64) (S : Addr) (hSf : S ∉ fp) (hSI : S ≠ I) (res : Value) :
    ∀ (k i : Nat) (s : Shared) (acc : Array Value) (c : Nat), vs.length - i = k → i ≤ vs.length → St i s.heap → s.heap.get? S = some (seqObj "list" acc c) → acc.toList = vs.take i →
      (∀ h' c', (∀ b o, b ≠ S → b ≠ I → s.heap.get? b = some o → h'.get? b = some o) → h'.get? S = some (seqObj "list" vs.toArray c') → R (.ok (.ret res)) { s with heap := h' }) →
      codeAny (model prog w) A (.builtin "list.extend.loop" ⟨[.ref S, .ref I, res], []⟩) R s := by
  intro k
  induction k with
  | zero =>
    intro i s acc c hk hi hst hS hacc hR
    obtain rfl : i = vs.length := by omega
    rw [List.take_length] at hacc
    obtain rfl : acc = vs.toArray := by rw [← hacc]
    refine codeAny_builtin PySem.F.entry_extend_loop ?_
    rw [Around.under_plainId PySem.F.plain_extend_loop _]
    show wpAny _ A.in1 (pyNext (.ref I) >>= _) _ _ s
    refine wpAny_bind (Wk.done (List.getElem?_eq_none (Nat.le_refl _)) hst fun h' hk' => ?_)
    exact wpAny_pure (hR h' c (fun b o _ hb e => hk' b o hb e) (hk' S _ hSI hS))
  | succ k ih =>
    intro i s acc c hk hi hst hS hacc hR
    have hlt : i < vs.length := by omega
    refine codeAny_builtin PySem.F.entry_extend_loop ?_
    rw [Around.under_plainId PySem.F.plain_extend_loop _]
    show wpAny _ A.in1 (pyNext (.ref I) >>= _) _ _ s
    refine wpAny_bind (Wk.item (List.getElem?_eq_getElem hlt) hst fun h' hst' hk' => ?_)
    have hS' := hk' S _ hSI hS
    have hsz : acc.size = i := by rw [← Array.length_toList, hacc, List.length_take]; omega
    show wpAny _ A.in1 (updateSeq S (·.push vs[i]) >>= _) _ _ _
    refine wpAny_bind ?_
    refine wpAny_updateSeq hS' rfl (wpAny_pure ⟨plainId_quiet PySem.F.plain_extend_loop _, ih (i + 1) _ (acc.push vs[i]) _ (by omega) hlt (Wk.frame hst' fun b hb o e => ?_) (get?_update_seq hS' (·.push vs[i])) (by rw [Array.toList_push, hacc, List.take_succ_eq_append_getElem hlt]) fun h'' c' hk'' hS'' => ?_⟩)
      (by rw [hsz]; exact Nat.le_trans (Nat.le_of_lt (Nat.lt_trans hlt hz)) (by decide)) (by show (acc.push vs[i]).size ≤ sizeLine + 1; rw [Array.size_push, hsz]; exact Nat.le_trans (Nat.succ_le_succ (Nat.le_of_lt (Nat.lt_trans hlt hz))) (by decide))
    · exact (Heap.get?_update_other _ _ (fun h : S = b => hSf (by rw [h]; exact hb))).trans e
    · refine hR h'' c' (fun b o hb1 hb2 e => hk'' b o hb1 hb2 ?_) hS''
      exact (Heap.get?_update_other _ _ (Ne.symm hb1)).trans (hk' b o hb2 e)
theorem hint_set {r : Addr} {Q : Bool → Shared → Prop} (hT : s.TypeIs (.ref r) "set") (h : Q false s) : wpAny (model prog w) A (Builtin.List.listLengthHint (.ref r)) Q E s := by
  unfold Builtin.List.listLengthHint
  refine wpAny_bind (wpAny_specialOf hT PySem.F.slot_set_len.lookup ?_)
  generalize hid : ("set.__len__" : String) = id0
  wp_delta
  rw [show splitId id0 = some ("set", "__len__") from by subst hid; decide +kernel]
  subst hid
  refine wpAny_bind (wpAny_isInstance (T := "set") (b := true) hT (by rw [isSubtype_type]; kernel_rfl) ?_)
  refine wpAny_ite_split (fun hab => absurd hab (by decide)) (fun _ => ?_)
  refine wpAny_ite_split (fun _ => ?_) (fun hab => absurd (by decide +kernel) hab)
  refine wpAny_bind (wpAny_typeOf hT ?_)
  exact wpAny_pure h
noncomputable def drawnVs (es : Array (Int × Value)) (ps : List Nat) : List Value := ps.map fun p => ((es[p]?).map (·.2)).getD .none
theorem drawnVs_perm {es : Array (Int × Value)} {ps : List Nat} (h : ps.Perm (List.range es.size)) : (drawnVs es ps).Perm (es.toList.map (·.2)) := by
  have h1 := h.map (fun p => ((es[p]?).map (·.2)).getD Value.none)
  refine h1.trans (List.Perm.of_eq ?_)
  apply List.ext_getElem
  · simp
  · intro i h1 h2
    simp only [List.length_map, List.length_range] at h1
    simp [h1]
theorem swalk_drawn {a tp : Addr} {es : Array (Int × Value)} {ep : Nat} {t : SetTable} {ps : List Nat} (hh : A.handled = none) (hf : t.fits es.size = true) (hp : ps.Perm (List.range es.size)) (h1 : I ≠ a) (h2 : I ≠ tp) :
    SWalk prog w A I [I, a, tp] (drawnVs es ps) (fun i h => h.get? I = some (setitObj (.ref tp) i a es.size ep) ∧ h.get? a = some (setObj es ep t) ∧ h.get? tp = some { cls := .type "tuple", data := .seq (ps.map fun i => rawInt (i : Nat)).toArray }) where
  frame := fun st hk => ⟨hk I (by simp) _ st.1, hk a (by simp) _ st.2.1, hk tp (by simp) _ st.2.2⟩
  item := fun {i v s Q E} hv st hQ => by
    unfold drawnVs at hv
    rw [List.getElem?_map] at hv
    cases hpi : ps[i]? with
    | none => rw [hpi] at hv; cases hv
    | some p =>
      rw [hpi] at hv
      have hlt : p < es.size := List.mem_range.mp (hp.mem_iff.mp (List.mem_of_getElem? hpi))
      have hep : es[p]? = some es[p] := Array.getElem?_eq_getElem hlt
      have hv : ((es[p]?).map (·.2)).getD Value.none = v := Option.some.inj hv
      rw [hep] at hv
      subst hv
      exact next_drawn st.1 st.2.1 hf st.2.2 hpi hep fun h' hg hs => hQ h' ⟨hg, (hs.2 a (Ne.symm h1)).trans st.2.1, (hs.2 tp (Ne.symm h2)).trans st.2.2⟩ fun b o hb e => (hs.2 b hb).trans e
  done := fun {i s Q E} hv st hQ => by
    unfold drawnVs at hv
    rw [List.getElem?_map, Option.map_eq_none_iff] at hv
    exact next_drawn_end st.1 st.2.1 hf hh st.2.2 hv fun h' hs => hQ h' fun b o hb e => hs b o hb e
theorem pick_perm {α : Type} (next : Nat → Nat) : ∀ (n k : Nat) (l : List α) (out : Array α), l.length = n → (pickOrder.go next n k l out).toList.Perm (out.toList ++ l)
  | 0, k, l, out, hl => by
    obtain rfl : l = [] := List.eq_nil_of_length_eq_zero hl
    unfold pickOrder.go
    rw [List.append_nil]
  | n + 1, k, l, out, hl => by
    have hlt : next k % l.length < l.length := Nat.mod_lt _ (by omega)
    unfold pickOrder.go
    rw [List.getElem?_eq_getElem hlt]
    dsimp only
    refine (pick_perm next n (k + 1) _ _ (by rw [List.length_eraseIdx_of_lt hlt, hl]; rfl)).trans ?_
    rw [Array.toList_push, List.append_assoc]
    exact (erase_perm l _ hlt).append_left _
theorem setNext_text {a : Addr} {es : Array (Int × Value)} {ep slot i : Nat} {t : SetTable} {Q : Option (Value × Nat) → Shared → Prop} (hb : w.params.followText "set-order" = true) (ho : s.heap.get? a = some (setObj es ep t)) (hf : t.fits es.size = true)
    (h : Q ((((pickOrder (w.params.setOrder a ep) es).toList.map (·.2))[i]?).map fun x => (x, slot)) s) : wpAny (model prog w) A (setNext a slot i ep) Q E s := by
  unfold setNext
  refine wpAny_bind (wpAny_setState_of ho rfl hf ?_)
  dsimp only
  unfold setsByText
  refine wpAny_bind (wpAny_bind (wpAny_askSetting (wpAny_pure ?_)))
  refine wpAny_ite_split (fun _ => ?_) (fun q => absurd hb q)
  rw [if_neg (by simp)]
  unfold setWalk setsByText
  refine wpAny_bind (wpAny_bind (wpAny_setState_of ho rfl hf ?_))
  dsimp only
  refine wpAny_bind (wpAny_bind (wpAny_askSetting (wpAny_pure ?_)))
  refine wpAny_ite_split (fun _ => ?_) (fun q => absurd hb q)
  refine wpAny_bind (wpAny_askSetting (wpAny_pure ?_))
  refine wpAny_pure ?_
  have : (((pickOrder (w.params.setOrder a ep) es).toList.map (·.2))[i]?).map (fun x => (x, slot)) = (((pickOrder (w.params.setOrder a ep) es))[i]?).map fun e => (e.2, slot) := by
    rw [List.getElem?_map, Option.map_map, Array.getElem?_toList]; rfl
  rw [this] at h
  exact h
theorem swalk_text {a : Addr} {es : Array (Int × Value)} {ep : Nat} {t : SetTable} (hh : A.handled = none) (hb : w.params.followText "set-order" = true) (hf : t.fits es.size = true) (h1 : I ≠ a) :
    SWalk prog w A I [I, a] ((pickOrder (w.params.setOrder a ep) es).toList.map (·.2)) (fun i h => h.get? I = some (setitObj (.int (0 : Nat) 0) i a es.size ep) ∧ h.get? a = some (setObj es ep t)) where
  frame := fun st hk => ⟨hk I (by simp) _ st.1, hk a (by simp) _ st.2⟩
  item := fun {i v s Q E} hv st hQ => by
    refine next_plain (slot := 0) (nx := 0) (x := v) st.1 st.2 hf (fun {A' E' Q'} q => setNext_text hb st.2 hf (by rw [hv]; exact q)) fun h' hg hs => hQ h' ⟨hg, (hs.2 a (Ne.symm h1)).trans st.2⟩ fun b o hb e => (hs.2 b hb).trans e
  done := fun {i s Q E} hv st hQ => by
    exact next_plain_end (slot := 0) st.1 st.2 hf hh (fun {A' E' Q'} q => setNext_text hb st.2 hf (by rw [hv]; exact q)) fun h' hs => hQ h' fun b o hb e => hs b o hb e
end
end Mine
end
section
set_option autoImplicit false
namespace Mine
theorem below_zero (xs : Array Nat) : SetTable.below xs 0 = 0 := by
  have : ∀ fuel hi, SetTable.below.go xs 0 fuel 0 hi = 0 := fun fuel => by
    induction fuel with
    | zero => intro hi; rfl
    | succ fuel ih =>
      intro hi
      unfold SetTable.below.go
      split
      · dsimp only
        rw [if_neg (Nat.not_lt_zero _)]; exact ih _
      · rfl
  exact this _ _
theorem below_next {xs : Array Nat} (h : Rise xs) {i p : Nat} (hp : xs[i]? = some p) : SetTable.below xs (p + 1) = i + 1 := by
  obtain ⟨h1, h2, h3⟩ := below_ok h (p + 1)
  have hi : i < xs.size := by
    rcases Nat.lt_or_ge i xs.size with q | q
    · exact q
    · rw [Array.getElem?_eq_none q] at hp; cases hp
  have a1 : i < SetTable.below xs (p + 1) := by
    rcases Nat.lt_or_ge i (SetTable.below xs (p + 1)) with q | q
    · exact q
    · have := h3 i p q hp; omega
  rcases Nat.lt_or_ge (i + 1) (SetTable.below xs (p + 1)) with q | q
  · have hlt : i + 1 < xs.size := by omega
    have hb := Array.getElem?_eq_getElem hlt
    have := h2 _ _ q hb
    have := h.lt (Nat.lt_succ_self i) hp hb
    omega
  · omega
section
variable {prog : Program} {w : World} {A : Around} {E : Value → Shared → Prop} {s : Shared} {I : Addr}
theorem setNext_place {a : Addr} {es : Array (Int × Value)} {ep slot i : Nat} {t : SetTable} {Q : Option (Value × Nat) → Shared → Prop} (hb : ¬ w.params.followText "set-order" = true) (hled : t.led = true) (hz : (!t.plain && decide (es.size > 1)) = false) (ho : s.heap.get? a = some (setObj es ep t)) (hf : t.fits es.size = true)
    (h : Q (match es[SetTable.below t.place slot]?, t.place[SetTable.below t.place slot]? with
    | some (_, x), some j => some (x, j + 1)
    | _, _ => none) s) : wpAny (model prog w) A (setNext a slot i ep) Q E s := by
  unfold setNext
  refine wpAny_bind (wpAny_setState_of ho rfl hf ?_)
  dsimp only
  unfold setsByText
  refine wpAny_bind (wpAny_bind (wpAny_askSetting (wpAny_pure ?_)))
  refine wpAny_ite_split (fun q => absurd q hb) (fun _ => ?_)
  refine wpAny_ite_split (fun q => ?_) (fun _ => ?_)
  · have q : (!t.plain && decide (es.size > 1)) = true := q
    rw [hz] at q; cases q
  · refine wpAny_bind ?_
    show wpAny _ _ (if (!t.led && !es.isEmpty) = true then unsupported "set:maker-not-led" else pure ()) _ _ _
    rw [hled]
    exact wpAny_pure (wpAny_pure h)
theorem swalk_place {a : Addr} {es : Array (Int × Value)} {ep : Nat} {t : SetTable} (hh : A.handled = none) (hb : ¬ w.params.followText "set-order" = true) (hled : t.led = true) (hz : (!t.plain && decide (es.size > 1)) = false) (hf : t.fits es.size = true) (hR : TabR t) (h1 : I ≠ a) :
    SWalk prog w A I [I, a] (es.toList.map (·.2)) (fun i h => (∃ slot : Nat, h.get? I = some (setitObj (.int slot 0) i a es.size ep) ∧ SetTable.below t.place slot = i) ∧ h.get? a = some (setObj es ep t)) where
  frame := fun st hk => ⟨let ⟨slot, e, r⟩ := st.1; ⟨slot, hk I (by simp) _ e, r⟩, hk a (by simp) _ st.2⟩
  item := fun {i v s Q E} hv st hQ => by
    obtain ⟨⟨slot, hit, c1⟩, ho⟩ := st
    have hps : t.place.size = es.size := by
      simp only [SetTable.fits, Bool.and_eq_true, beq_iff_eq] at hf
      exact hf.1
    obtain ⟨e, he, hve⟩ : ∃ e, es[i]? = some e ∧ e.2 = v := by
      rw [List.getElem?_map, Option.map_eq_some_iff] at hv
      obtain ⟨e, he, q⟩ := hv
      exact ⟨e, by rw [← Array.getElem?_toList]; exact he, q⟩
    have hlt : i < es.size := by
      rcases Nat.lt_or_ge i es.size with q | q
      · exact q
      · rw [Array.getElem?_eq_none q] at he; cases he
    have hp := Array.getElem?_eq_getElem (xs := t.place) (i := i) (by omega)
    generalize t.place[i]'(by omega) = p at hp
    obtain ⟨e1, e2⟩ := e
    refine next_plain (slot := slot) (nx := p + 1) (x := v) hit ho hf (fun {A' E' Q'} q => setNext_place hb hled hz ho hf (by rw [c1, he, hp]; rw [← hve] at q; exact q)) fun h' hg hs => hQ h' ⟨⟨p + 1, hg, below_next hR.rise hp⟩, (hs.2 a (Ne.symm h1)).trans ho⟩ fun b o hb e => (hs.2 b hb).trans e
  done := fun {i s Q E} hv st hQ => by
    obtain ⟨⟨slot, hit, c1⟩, ho⟩ := st
    rw [List.getElem?_eq_none_iff, List.length_map, Array.length_toList] at hv
    refine next_plain_end (slot := slot) hit ho hf hh (fun {A' E' Q'} q => setNext_place hb hled hz ho hf ?_) fun h' hs => hQ h' fun b o hb e => hs b o hb e
    rw [c1, Array.getElem?_eq_none hv]
    exact q
end
section
variable {prog : Program} {w : World} {A : Around} {E : Value → Shared → Prop} {s : Shared}
theorem pyIter_walkZ {A' : Around} {a : Addr} {o : Obj} {xs : List Int} {Q : Value → Shared → Prop} (hh : A'.handled = none) (ho : s.heap.get? a = some o) (T : SetZ prog w o xs)
    (h : ∀ (I : Addr) (fp : List Addr) (St : Nat → Heap → Prop) (h1 : Heap) (d : Drawn) (vs : List Value) (ss : List Int), SWalk prog w A' I fp vs St → St 0 h1 → (∀ b o, s.heap.get? b = some o → h1.get? b = some o) → s.heap.get? I = none → (∀ b ∈ fp, b = a ∨ s.heap.get? b = none) →
      IntsAre vs ss → ss.Perm xs → Q (.ref I) { s with heap := h1, drawn := d }) : wpAny (model prog w) A (pyIter (.ref a)) Q E s := by
  obtain ⟨es, ep, t, rfl, htx, hp, hz, hf, hpl, hled⟩ := T.ex
  have haL : a < s.heap.objs.size := Heap.lt_size ho
  have strsV : ∀ vs : List Value, vs.Perm (es.toList.map (·.2)) → ∃ ss, IntsAre vs ss ∧ ss.Perm xs := fun vs hv => by
    refine ⟨vs.map intOf, ?_, ?_⟩
    · have : ∀ v ∈ vs, ∃ x t, v = .int x t := fun v hm => by
        obtain ⟨e, he, rfl⟩ := List.mem_map.mp (hv.mem_iff.mp hm)
        obtain ⟨x, u, rfl⟩ := htx e he
        exact ⟨x, u, rfl⟩
      clear hv
      induction vs with
      | nil => exact .nil
      | cons v vs ih =>
        obtain ⟨x, u, rfl⟩ := this v (.head _)
        exact .cons x u (ih fun v hv => this v (.tail _ hv))
    · have := hv.map intOf
      rw [List.map_map] at this
      exact this.trans hp
  have hsz : s.heap.get? s.heap.objs.size = none := get?_size _
  refine pyIter_set ho hf hz (fun hd => ?_) (fun hd ps d hps => ?_)
  · have hne : s.heap.objs.size ≠ a := Nat.ne_of_gt haL
    have e1 : s = { s with drawn := s.drawn } := by cases s; rfl
    by_cases hb : w.params.followText "set-order" = true
    · obtain ⟨ss, h1, h2⟩ := strsV ((pickOrder (w.params.setOrder a ep) es).toList.map (·.2)) ((by
        have := pick_perm (w.params.setOrder a ep) es.size 0 es.toList #[] (by simp)
        simpa [pickOrder] using this : (pickOrder (w.params.setOrder a ep) es).toList.Perm es.toList).map _)
      exact h _ [s.heap.objs.size, a] _ _ s.drawn _ ss (swalk_text hh hb hf hne) ⟨Heap.get?_push_size _ rfl, Heap.get?_push_of_some _ ho⟩ (fun b o e => Heap.get?_push_of_some _ e) hsz (fun b hb => by
        simp only [List.mem_cons, List.not_mem_nil, or_false] at hb
        rcases hb with rfl | rfl
        · exact .inr hsz
        · exact .inl rfl) h1 h2
    · have hl : t.led = true := hled.resolve_right hb
      have hb' : w.params.followText "set-order" = false := by cases q : w.params.followText "set-order" with | true => exact absurd q hb | false => rfl
      rw [hb', Bool.not_false, Bool.true_and] at hd
      obtain ⟨ss, h1, h2⟩ := strsV (es.toList.map (·.2)) (.refl _)
      exact h _ [s.heap.objs.size, a] _ _ s.drawn _ ss (swalk_place hh hb hl hd hf hpl hne) ⟨⟨0, Heap.get?_push_size _ rfl, below_zero _⟩, Heap.get?_push_of_some _ ho⟩ (fun b o e => Heap.get?_push_of_some _ e) hsz (fun b hb => by
        simp only [List.mem_cons, List.not_mem_nil, or_false] at hb
        rcases hb with rfl | rfl
        · exact .inr hsz
        · exact .inl rfl) h1 h2
  · obtain ⟨ss, h1, h2⟩ := strsV (drawnVs es ps) (drawnVs_perm hps)
    have hI : s.heap.get? (s.heap.objs.size + 1) = none := get?_ge (Nat.le_succ _)
    have hne : s.heap.objs.size + 1 ≠ a := Nat.ne_of_gt (Nat.lt_succ_of_lt haL)
    refine h _ [s.heap.objs.size + 1, a, s.heap.objs.size] _ _ d _ ss (swalk_drawn (tp := s.heap.objs.size) hh hf hps hne (Nat.succ_ne_self _)) ⟨?_, Heap.get?_push_of_some _ (Heap.get?_push_of_some _ ho), Heap.get?_push_of_some _ (Heap.get?_push_size _ rfl)⟩ (fun b o e => Heap.get?_push_of_some _ (Heap.get?_push_of_some _ e)) hI (fun b hb => by
        simp only [List.mem_cons, List.not_mem_nil, or_false] at hb
        rcases hb with rfl | rfl | rfl
        · exact .inr hI
        · exact .inl rfl
        · exact .inr hsz) h1 h2
    have := Heap.get?_push_size (s.heap.push { cls := .type "tuple", data := .seq (ps.map fun i => rawInt (i : Nat)).toArray }) (o := setitObj (.ref s.heap.objs.size) 0 a es.size ep) rfl
    rw [Heap.size_push] at this
    exact this
theorem extend_setZ {R : Result → Shared → Prop} {a S : Addr} {o : Obj} {xs : List Int} {c₀ : Nat} {res : Value} (hh : A.handled = none) (ho : s.heap.get? a = some o) (T : SetZ prog w o xs) (hz : xs.length < 64) (hSa : S ≠ a) (hS : s.heap.get? S = some (seqObj "list" #[] c₀))
    (hR : ∀ h' d vs ss c', (∀ b o, b ≠ S → s.heap.get? b = some o → h'.get? b = some o) → h'.get? S = some (seqObj "list" (List.toArray vs) c') → IntsAre vs ss → ss.Perm xs → R (.ok (.ret res)) { s with heap := h', drawn := d }) :
    wpAny (model prog w) A.in1 (Builtin.List.listExtendWith (.ref S) (.ref a) res)
      (fun fin s' => match fin with | .done f => R (.ok f) s' | .again c' => c'.quiet = true ∧ codeAny (model prog w) A c' R s') (fun e s' => R (.error e) s') s := by
  have hT : s.TypeIs (.ref a) "set" := ⟨o, ho, by obtain ⟨es, ep, t, rfl, _⟩ := T.ex; rfl⟩
  unfold Builtin.List.listExtendWith
  refine wpAny_bind (wpAny_typeOf (T := "set") hT ?_)
  have h1 : Builtin.List.listSameRef (.ref S) (.ref a) = false := by simp [Builtin.List.listSameRef, hSa]
  have h2 : (Value.type "set" == Value.type "list") = false := by decide
  have h3 : (Value.type "set" == Value.type "tuple") = false := by decide
  simp only [h1, h2, h3, Bool.or_false, Bool.false_eq_true, if_false]
  refine wpAny_bind (pyIter_walkZ (A' := A.in1) (by simp [hh]) ho T fun I fp St hp1 d vs ss Wk st keep hI hfp hs hperm => ?_)
  have hlen : vs.length < 64 := by
    have e1 : vs.length = ss.length := hs.length
    have := hperm.length_eq; omega
  have hSI : S ≠ I := fun e => by rw [e, hI] at hS; cases hS
  have hSf : S ∉ fp := fun hm => by
    rcases hfp S hm with e | e
    · exact hSa e
    · rw [hS] at e; cases e
  have key : ∀ (h : Heap) (c₁ : Nat), St 0 h → (∀ b o, b ≠ S → s.heap.get? b = some o → h.get? b = some o) → h.get? S = some (seqObj "list" #[] c₁) →
      codeAny (model prog w) A (.builtin "list.extend.loop" ⟨[.ref S, .ref I, res], []⟩) R { s with heap := h, drawn := d } := fun h c₁ hst hk hS₁ =>
    Wk.loop hlen S hSf hSI res (vs.length - 0) 0 { s with heap := h, drawn := d } #[] c₁ rfl (Nat.zero_le _) hst hS₁ rfl fun h' c' hk' hS' =>
      hR h' d vs ss c' (fun b o hb e => hk' b o hb (fun z => by rw [z, hI] at e; cases e) (hk b o hb e)) hS' hs hperm
  have hS₁ := keep _ _ hS
  have hT1 : Shared.TypeIs { s with heap := hp1, drawn := d } (.ref a) "set" := let ⟨o, ho, hc⟩ := hT; ⟨o, keep _ _ ho, hc⟩
  refine wpAny_bind (wpAny_holding (hint_set hT1 ?_))
  refine wpAny_ite_split (fun _ => ?_) (fun _ => wpAny_pure ⟨plainId_quiet PySem.F.plain_extend_loop _, key hp1 c₀ st (fun b o _ e => keep b o e) hS₁⟩)
  refine wpAny_bind (wpAny_rule ?_)
  refine wpAny_bind ?_
  show wpAny _ _ (updateSeq S (·.push .none) >>= fun _ => updateSeq S (·.pop)) _ _ _
  refine wpAny_bind (wpAny_updateSeq hS₁ rfl ?_ (by seq_fits) (by seq_fits))
  have hS₂ := get?_update_seq hS₁ (·.push Value.none)
  refine wpAny_updateSeq (hz := by seq_fits) hS₂ rfl ?_ (by seq_fits)
  have hS₃ := get?_update_seq hS₂ (·.pop)
  refine wpAny_pure ⟨plainId_quiet PySem.F.plain_extend_loop _, key _ _ ?_ (fun b o hb e => ?_) hS₃⟩
  · refine Wk.frame st fun b hb o e => ?_
    have hbS : b ≠ S := fun h => hSf (h ▸ hb)
    exact (Heap.get?_update_other _ _ (Ne.symm hbS)).trans ((Heap.get?_update_other _ _ (Ne.symm hbS)).trans e)
  · exact (Heap.get?_update_other _ _ (Ne.symm hb)).trans ((Heap.get?_update_other _ _ (Ne.symm hb)).trans (keep _ _ e))
end
end Mine
end
section
set_option autoImplicit false
namespace Mine
section
variable {prog : Program} {w : World} {A : Around} {E : Value → Shared → Prop} {s : Shared}
theorem collect_setZ {a : Addr} {o : Obj} {xs : List Int} {R : List Value → Shared → Prop} (hh : A.handled = none) (ho : s.heap.get? a = some o) (T : SetZ prog w o xs) (hz : xs.length < 64)
    (h : ∀ h' d vs ss, (∀ b o, s.heap.get? b = some o → h'.get? b = some o) → IntsAre vs ss → ss.Perm xs → R vs { s with heap := h', drawn := d }) : wpAny (model prog w) A (collect (.ref a)) R E s := by
  unfold collect
  refine wpAny_bind (wpAny_runValue (codeAny_builtin PySem.F.entry_proto_collect ?_))
  rw [Around.under_plainId PySem.F.plain_proto_collect _]
  show wpAny _ A.in1 (newList [] >>= fun l => again (.builtin "list.__iadd__" ⟨[l, .ref a], []⟩)) _ _ s
  refine wpAny_bind (wpAny_newObj_type ?_)
  refine wpAny_pure ⟨plainId_quiet PySem.F.plain_list_iadd _, codeAny_builtin entry_list_iadd' ?_⟩
  rw [Around.under_plainId PySem.F.plain_list_iadd _]
  have hS₁ : (s.heap.push { cls := .type "list", data := .seq ([] : List Value).toArray }).get? s.heap.objs.size = some (seqObj "list" #[] 0) := Heap.get?_push_size _ rfl
  show wpAny _ A.in1 (Builtin.List.listExtendWith (.ref s.heap.objs.size) (.ref a) (.ref s.heap.objs.size)) _ _ _
  have key := extend_setZ (A := A) (s := { s with heap := s.heap.push { cls := .type "list", data := .seq ([] : List Value).toArray } })
    (R := fun (q : Result) (s' : Shared) => ∃ h' d vs ss c', q = .ok (.ret (.ref s.heap.objs.size)) ∧ s' = { s with heap := h', drawn := d } ∧ (∀ b o, s.heap.get? b = some o → h'.get? b = some o) ∧ h'.get? s.heap.objs.size = some (seqObj "list" (List.toArray vs) c') ∧ IntsAre vs ss ∧ ss.Perm xs)
    (res := .ref s.heap.objs.size) hh (Heap.get?_push_of_some _ ho) T hz (Nat.ne_of_gt (Heap.lt_size ho)) hS₁
    (fun h' d vs ss c' hk hS' hs hp => ⟨h', d, vs, ss, c', rfl, rfl, fun b o e => hk b o (Nat.ne_of_lt (Heap.lt_size e)) (Heap.get?_push_of_some _ e), hS', hs, hp⟩)
  refine wpAny_mono key (fun fin s' x => ?_) fun e s' x => ?_
  · cases fin with
    | done f =>
      obtain ⟨h', d, vs, ss, c', e, rfl, hk, hS', hs, hp⟩ := x
      cases e
      show wpAny _ A (load s.heap.objs.size >>= _) _ _ _
      refine wpAny_bind (wpAny_load hS' ?_)
      exact wpAny_pure (h h' d vs ss hk hs hp)
    | again c₁ =>
      refine ⟨x.1, codeAny_mono x.2 fun q s₂ y => ?_⟩
      obtain ⟨h', d, vs, ss, c', rfl, rfl, hk, hS', hs, hp⟩ := y
      show wpAny _ A (load s.heap.objs.size >>= _) _ _ _
      refine wpAny_bind (wpAny_load hS' ?_)
      exact wpAny_pure (h h' d vs ss hk hs hp)
  · obtain ⟨_, _, _, _, _, e', _⟩ := x
    cases e'
theorem sorted_ofZ {x : Value} {xs : List Int} {Q : Value → Shared → Prop} (h64 : xs.length < 64)
    (hc : ∀ {R : List Value → Shared → Prop}, (∀ h' d tk vs ss, (∀ b o, s.heap.get? b = some o → h'.get? b = some o) → IntsAre vs ss → ss.Perm xs → R vs { s with heap := h', toks := tk, drawn := d }) → wpAny (model prog w) A.in1 (collect x) R E s)
    (h : ∀ h' d tk (D : Addr) vs ss e, (∀ b o, s.heap.get? b = some o → h'.get? b = some o) → s.heap.get? D = none → (∃ h1 : Heap, (∀ b o, s.heap.get? b = some o → h1.get? b = some o) ∧ D = h1.objs.size) → h'.get? D = some (seqObj "list" (List.toArray vs) e) → IntsAre vs ss → ss.Perm xs → ss.Pairwise (· ≤ ·) → Q (.ref D) { s with heap := h', toks := tk, drawn := d }) :
    wpAny (model prog w) A (call (.builtin "sorted") [x]) Q E s := by
  refine Calls.call_function_entry kind_sorted plain_sorted entry_sorted (args_sorted1 _) ?_
  unfold Builtin.«sorted»
  refine wpAny_bind (m := checkCount "sorted" 1 1 _) (wpAny_pure ?_)
  refine wpAny_bind (hc fun h1 d tk vs ss hk hs hp => ?_)
  have hlen : vs.length < 64 := by have e1 : vs.length = ss.length := hs.length; have := hp.length_eq; omega
  refine wpAny_bind (wpAny_newList ?_ (Nat.le_trans (Nat.le_of_lt hlen) (by decide)))
  have hoL : (h1.push (seqObj "list" vs.toArray 0)).get? h1.objs.size = some (seqObj "list" vs.toArray 0) := Heap.get?_push_size _ rfl
  have hnone : s.heap.get? h1.objs.size = none := by
    cases q : s.heap.get? h1.objs.size with
    | none => rfl
    | some o => have := hk _ _ q; rw [get?_size] at this; cases this
  show wpAny _ _ _ _ _ { s with heap := h1.push (seqObj "list" vs.toArray 0), toks := tk, drawn := d }
  refine wpAny_bind (wpAny_holding (wpAny_call_entry slot_list_sort ⟨_, hoL, rfl⟩ entry_list_sort (list_sort_tree hoL hs hlen fun out ss' a1 a2 a3 => ⟨_, rfl, ?_⟩) (args_list_sort _)))
  obtain ⟨e, he⟩ := sortedHeap_at (vs := vs) (out := out) hoL
  refine wpAny_pure ⟨_, rfl, h _ d tk h1.objs.size out.toList ss' e (fun b o eb => ?_) hnone ⟨h1, hk, rfl⟩ (by rw [he]) a1 (a2.trans hp) a3⟩
  have hb := hk b o eb
  have hlt := Heap.lt_size hb
  rw [sortedHeap_old (Nat.ne_of_lt hlt) (by rw [Heap.size_push]; exact Nat.lt_succ_of_lt hlt)]
  exact Heap.get?_push_of_some _ hb
end
section
variable {W : Wd} {A : Around} {env : Env} {outer : Outs} {loc : Loc} {mem R : Mem} {E : Ex W} {F : Frz} {s : Shared}
theorem sorted_setZ {a : Addr} {o : Obj} {xs : List Int} {Q : V → Loc → Mem → Prop} (hh : A.handled = none) (h1 : mem a = some (.raw o)) (T : SetZ W.prog W.w o xs) (hz : xs.length < 64) (h : ∀ D (ss : List Int), mem D = none → ss.Perm xs → ss.Pairwise (· ≤ ·) → Q (.ref D) loc (mset mem D (.list (ss.map V.int)))) :
    OpV W A env outer (fun vs => call (.builtin "sorted") vs) [.ref a] loc mem Q E := op1 fun R F s v S r => by
  cases r.view
  obtain ⟨o', ho, q⟩ := S.memOk _ _ h1
  cases q.view
  refine sorted_ofZ (xs := xs) hz (fun {R} hR => collect_setZ (A := A.in1) (by simp [hh]) ho T hz fun h' d vs ss hk hs hp => hR h' d s.toks vs ss hk hs hp) fun h' d tk D vs ss e hk hD hDle hg hs hp ho => ?_
  obtain ⟨hp1, hk1, rfl⟩ := hDle
  have hle : W.hb.objs.size ≤ hp1.objs.size := (S.grow (t := s.toks) (d := s.drawn) hk1).size_le
  exact Post.mk (.ref _) (S.alloc (t := tk) (d := d) (x := .list (ss.map V.int)) hD hle hk hg (.list (by show VRs W F (ss.map V.int) _; exact VRs.ofInts hs))) (h _ ss (S.free hD).1 hp ho)
end
end Mine
end
section
set_option autoImplicit false
namespace Mine
noncomputable def okD (D : Str → Prop) (r : Rule) : Prop := ∀ s ∈ r.2, D s ∨ s ∉ NM
noncomputable def DI (R : List Rule) (D : Str → Prop) (i : Nat) (x : Str) : Prop := ∃ j r, j < i ∧ R[j]? = some r ∧ r.1 = x ∧ okD D r
noncomputable def BI (R : List Rule) (D : Str → Prop) (B : Str → Nat → Prop) (i : Nat) (x : Str) (k : Nat) : Prop := ∃ j r, j < i ∧ R[j]? = some r ∧ r.1 = x ∧ okD D r ∧ (k = j ∨ ∃ s ∈ r.2, B s k)
noncomputable def DB (R : List Rule) : Nat → (Str → Prop) × (Str → Nat → Prop)
  | 0 => (fun _ => False, fun _ _ => False)
  | n + 1 => (DI R (DB R n).1 R.length, BI R (DB R n).1 (DB R n).2 R.length)
noncomputable abbrev Tab := List (Str × List Int)
inductive TbAt (D : Prop) (B : Nat → Prop) : Option (List Int) → Prop
  | none (h1_ : ¬ D) : TbAt D B none
  | some (ns : List Int) (h1_ : D) (h2_ : ns.Pairwise (· < ·)) (h3_ : ∀ n, n ∈ ns ↔ ∃ k : Nat, n = k ∧ B k) : TbAt D B (some ns)
noncomputable def Tb (T : Tab) (D : Str → Prop) (B : Str → Nat → Prop) : Prop := ∀ x, TbAt (D x) (B x) (T.lookup x)
noncomputable def tbE (T : Tab) : List (Str × V) := T.map fun q => (q.1, .lst (vInts q.2))
theorem tbE_get (T : Tab) (x : Str) : getA (tbE T) x = (T.lookup x).map fun ns => .lst (vInts ns) := by
  unfold tbE getA
  induction T with
  | nil => rfl
  | cons q T ih =>
    obtain ⟨a, ns⟩ := q
    rw [List.map_cons, List.find?_cons, List.lookup_cons]
    by_cases h : a = x
    · subst h; simp
    · have e1 : (x == a) = false := by simpa using (Ne.symm h)
      have e2 : decide (a = x) = false := decide_eq_false h
      simp only [e1, e2]
      exact ih
noncomputable def putT (T : Tab) (x : Str) (v : List Int) : Tab := if T.any (fun q => q.1 = x) then T.map (fun q => if q.1 = x then (q.1, v) else q) else T ++ [(x, v)]
theorem tbE_put (T : Tab) (x : Str) (v : List Int) : stA (tbE T) x (.lst (vInts v)) = tbE (putT T x v) := by
  unfold stA tbE putT
  rw [List.any_map]
  have : (T.any ((fun e : Str × V => decide (e.1 = x)) ∘ fun q : Str × List Int => (q.1, V.lst (vInts q.2)))) = T.any fun q => decide (q.1 = x) := rfl
  rw [this]
  split
  · rw [List.map_map, List.map_map]
    refine List.map_congr_left fun q _ => ?_
    simp only [Function.comp_apply]
    split <;> rfl
  · rw [List.map_append]; rfl
theorem putT_lookup (T : Tab) (x : Str) (v : List Int) (y : Str) : (putT T x v).lookup y = if y = x then some v else T.lookup y := by
  unfold putT
  split
  · rename_i h
    have : ∀ T : Tab, ((T.map fun q => if q.1 = x then (q.1, v) else q).lookup y) = if y = x then (if T.any (fun q => q.1 = x) then some v else none) else T.lookup y := fun T => by
      induction T with
      | nil => simp
      | cons q T ih =>
        obtain ⟨a, ns⟩ := q
        rw [List.map_cons, List.lookup_cons, List.any_cons, List.lookup_cons]
        have ek : (if (a, ns).1 = x then ((a, ns).1, v) else (a, ns)).1 = a := by split <;> rfl
        rw [show (y == (if (a, ns).fst = x then ((a, ns).fst, v) else (a, ns)).fst) = (y == a) from by rw [ek]]
        by_cases hya : y = a
        · subst hya
          by_cases hyx : y = x
          · subst hyx; simp
          · simp [hyx]
        · have e1 : (y == a) = false := by simpa using hya
          rw [e1]
          dsimp only
          rw [ih]
          by_cases hyx : y = x
          · subst hyx
            rw [if_pos rfl, if_pos rfl, show decide ((a, ns).1 = y) = false from decide_eq_false (Ne.symm hya), Bool.false_or]
          · rw [if_neg hyx, if_neg hyx]
    rw [this, h]; simp
  · rename_i h
    rw [lookup_append']
    by_cases q : y = x
    · subst q
      have hn : T.lookup y = none := by
        cases z : T.lookup y with
        | none => rfl
        | some ns =>
          have := lookup_contains T y
          rw [z] at this
          have hc : y ∈ T.map (·.1) := List.contains_iff_mem.mp this.symm
          obtain ⟨q, hq, e⟩ := List.mem_map.mp hc
          exact absurd (List.any_eq_true.mpr ⟨q, hq, decide_eq_true e⟩) h
      rw [hn, if_pos rfl]; simp [List.lookup]
    · have e : (y == x) = false := by simpa using q
      rw [if_neg q]; simp [List.lookup, e]
theorem rise_len {ns : List Int} (h : ns.Pairwise (· < ·)) {b : Nat} (hb : ∀ n ∈ ns, 0 ≤ n ∧ n < b) : ns.length ≤ b := by
  have : ∀ (l : List Int) (lo : Int), l.Pairwise (· < ·) → (∀ n ∈ l, lo ≤ n ∧ n < b) → lo ≤ b → (l.length : Int) ≤ b - lo := fun l => by
    induction l with
    | nil => intro lo _ _ h; simp; omega
    | cons a l ih =>
      intro lo hp hb hlo
      rw [List.pairwise_cons] at hp
      have h1 := hb a (.head _)
      have := ih (a + 1) hp.2 (fun n hn => ⟨by have := hp.1 n hn; omega, (hb n (.tail _ hn)).2⟩) (by omega)
      rw [List.length_cons]; push_cast; omega
  have := this ns 0 h hb (by omega)
  omega
theorem pair_lt {ns : List Int} (h : ns.Pairwise (· ≤ ·)) (hn : ns.Nodup) : ns.Pairwise (· < ·) := by
  induction ns with
  | nil => exact .nil
  | cons a ns ih =>
    rw [List.pairwise_cons] at h ⊢
    rw [List.nodup_cons] at hn
    refine ⟨fun b hb => ?_, ih h.2 hn.2⟩
    have := h.1 b hb
    have : a ≠ b := fun e => hn.1 (e ▸ hb)
    omega
theorem DI_succ {R : List Rule} {D : Str → Prop} {i : Nat} {r : Rule} (hr : R[i]? = some r) (x : Str) : DI R D (i + 1) x ↔ DI R D i x ∨ (r.1 = x ∧ okD D r) := by
  constructor
  · rintro ⟨j, q, hj, hq, a, b⟩
    rcases Nat.lt_succ_iff_lt_or_eq.mp hj with h | rfl
    · exact .inl ⟨j, q, h, hq, a, b⟩
    · rw [hr] at hq; cases hq; exact .inr ⟨a, b⟩
  · rintro (⟨j, q, hj, hq, a, b⟩ | ⟨a, b⟩)
    · exact ⟨j, q, Nat.lt_succ_of_lt hj, hq, a, b⟩
    · exact ⟨i, r, Nat.lt_succ_self _, hr, a, b⟩
theorem BI_succ {R : List Rule} {D : Str → Prop} {B : Str → Nat → Prop} {i : Nat} {r : Rule} (hr : R[i]? = some r) (x : Str) (k : Nat) : BI R D B (i + 1) x k ↔ BI R D B i x k ∨ (r.1 = x ∧ okD D r ∧ (k = i ∨ ∃ s ∈ r.2, B s k)) := by
  constructor
  · rintro ⟨j, q, hj, hq, a, b, c⟩
    rcases Nat.lt_succ_iff_lt_or_eq.mp hj with h | rfl
    · exact .inl ⟨j, q, h, hq, a, b, c⟩
    · rw [hr] at hq; cases hq; exact .inr ⟨a, b, c⟩
  · rintro (⟨j, q, hj, hq, a, b, c⟩ | ⟨a, b, c⟩)
    · exact ⟨j, q, Nat.lt_succ_of_lt hj, hq, a, b, c⟩
    · exact ⟨i, r, Nat.lt_succ_self _, hr, a, b, c⟩
theorem TbAt.iff {D D' : Prop} {B B' : Nat → Prop} {o : Option (List Int)} (h : TbAt D B o) (hd : D ↔ D') (hb : ∀ k, B k ↔ B' k) : TbAt D' B' o := by
  cases h with
  | none a => exact .none fun z => a (hd.mpr z)
  | some ns a b c => exact .some ns (hd.mp a) b fun n => (c n).trans ⟨fun ⟨k, e, q⟩ => ⟨k, e, (hb k).mp q⟩, fun ⟨k, e, q⟩ => ⟨k, e, (hb k).mpr q⟩⟩
theorem TbAt.lst {D : Prop} {B : Nat → Prop} {o : Option (List Int)} (h : TbAt D B o) (hB : ∀ k, B k → D) : (o.getD []).Pairwise (· < ·) ∧ ∀ n, n ∈ o.getD [] ↔ ∃ k : Nat, n = k ∧ B k := by
  cases h with
  | none a => exact ⟨.nil, fun n => ⟨fun h => (nomatch h), fun ⟨k, _, q⟩ => absurd (hB k q) a⟩⟩
  | some ns a b c => exact ⟨b, c⟩
theorem BI_D {R : List Rule} {D : Str → Prop} {B : Str → Nat → Prop} {i : Nat} {x : Str} {k : Nat} (h : BI R D B i x k) : DI R D i x := by
  obtain ⟨j, r, a, b, c, d, _⟩ := h; exact ⟨j, r, a, b, c, d⟩
theorem DB_D {R : List Rule} (n : Nat) {x : Str} {k : Nat} (h : (DB R n).2 x k) : (DB R n).1 x := by
  cases n with
  | zero => exact h.elim
  | succ n => exact BI_D h
theorem DB_lt {R : List Rule} : ∀ (n : Nat) {x : Str} {k : Nat}, (DB R n).2 x k → k < R.length
  | 0, _, _, h => h.elim
  | n + 1, x, k, ⟨j, r, a, b, c, d, e⟩ => by
    rcases e with rfl | ⟨s, _, q⟩
    · exact a
    · exact DB_lt n q
end Mine
end
section
set_option autoImplicit false
namespace Mine
noncomputable abbrev tkE (L : Addr) : Env := envC "_law_taken" lTaken.scope L 275 lTaken.code
section
variable {W : Wd} {A : Around} {env : Env} {outer : Outs} {loc : Loc} {mem : Mem} {E : Ex W}
inductive KT (mem : Mem) (L : Addr) (R : List Rule) (n : Nat) (l : Loc) (m : Mem) : Prop
  | mk (h1_ : LSub [("rules", .lst (R.map ruleV))] l) (h2_ : Sub mem m) (d : Addr) (T : Tab) (ep : Nat) (h3_ : m (L + 1) = some (.cell (some (.ref d)))) (h4_ : m d = some (.dict (tbE T) ep)) (h5_ : Tb T (DB R n).1 (DB R n).2) (h6_ : mem d = none) (h7_ : mem (L + 1) = none)
inductive KG (m0 : Mem) (R : List Rule) (dg : Addr) (n i : Nat) (l : Loc) (m : Mem) : Prop
  | mk (h1_ : LSub [("rules", .lst (R.map ruleV)), ("grown", .ref dg)] l) (h2_ : Sub m0 m) (G : Tab) (ep : Nat) (h3_ : m dg = some (.dict (tbE G) ep)) (h4_ : Tb G (DI R (DB R n).1 i) (BI R (DB R n).1 (DB R n).2 i)) (h5_ : G.length ≤ i)
inductive KA (m0 : Mem) (R : List Rule) (dg : Addr) (B : Str → Nat → Prop) (i : Nat) (name : Str) (dn : List Str) (l : Loc) (m : Mem) : Prop
  | mk (pa : Addr) (acc : List Int) (h1_ : LSub [("rules", .lst (R.map ruleV)), ("grown", .ref dg), ("name", .str name), ("parts", .ref pa)] l) (h2_ : Sub m0 m) (h3_ : m pa = some (.list (vInts acc))) (h4_ : m0 pa = none) (h5_ : acc.length ≤ 1 + 7 * dn.length) (h6_ : ∀ n, n ∈ acc ↔ ∃ k : Nat, n = k ∧ (k = i ∨ ∃ s ∈ dn, B s k))
theorem s_cell5 {x : Str} {c : Addr} {u : Option V} {v : V} {Q : Loc → Mem → Prop} {hk : env.scope.kind = .function} {hl : env.kindOf x = some .cell} {hc : env.cells.lookup x = some c} (hm : mem c = some (.cell u))
    (h : ∀ m', m' c = some (.cell (some v)) → (∀ b, b ≠ c → m' b = mem b) → Q loc m') :
    Op W A env outer (fun _ (_ _ : Unit) => True) (fun | [y] => storeName env x y | _ => pure ()) [v] loc mem (fun _ => Q) E := st_cell hk hl hc hm (h _ (mset_self _ _ _) fun b hb => mset_ne hb)
theorem getD_lst (T : Tab) (x : Str) : ((T.lookup x).map fun ns => V.lst (vInts ns)).getD (.lst []) = .lst (vInts ((T.lookup x).getD [])) := by cases T.lookup x <;> rfl
noncomputable def okT (T : Tab) (s : Str) : Bool := (T.lookup s).isSome || !decide (s ∈ NM)
noncomputable def okG (T : Tab) : V → Option V
  | .str s => some (.bool (okT T s))
  | _ => none
theorem okG_map (T : Tab) (b : List Str) : (vStrs b).filterMap (okG T) = (b.map (okT T)).map V.bool := by
  unfold vStrs
  induction b with
  | nil => rfl
  | cons s b ih => rw [List.map_cons, List.filterMap_cons]; exact congrArg (V.bool (okT T s) :: ·) ih
theorem okT_all {T : Tab} {D : Str → Prop} {B : Str → Nat → Prop} (tb : Tb T D B) (b : List Str) (x : Str) : (b.map (okT T)).all id = true ↔ okD D (x, b) := by
  rw [List.all_map, List.all_eq_true]
  refine forall_congr' fun s => imp_congr_right fun hs => ?_
  have : (T.lookup s).isSome = true ↔ D s := by
    have h := tb s
    cases q : T.lookup s with
    | none => rw [q] at h; cases h with | none a => exact ⟨fun z => (nomatch z), fun z => absurd z a⟩
    | some ns => rw [q] at h; cases h with | some _ a _ _ => exact ⟨fun _ => a, fun _ => rfl⟩
  show okT T s = true ↔ _
  unfold okT
  rw [Bool.or_eq_true, this]
  simp
theorem nm_isD : (vStrs NM).all (isD 0) = true := isD_strs (by decide +kernel)
theorem taken_spec {R : List Rule} {Q : V → Loc → Mem → Prop} (hK : W.K = hdK W.w.params) (c : Calm A 600 5000) (I : LawR R)
    (h : ∀ ns : List Int, ns.Pairwise (· < ·) → (∀ n, n ∈ ns ↔ ∃ k : Nat, n = k ∧ (DB R 8).2 ssS k) → Q (.lst (vInts ns)) loc mem) : OpV W A env outer (fun vs => call (.ref 275) vs) [.lst (R.map ruleV)] loc mem Q E := by
  refine call_fnC (bs := [("rules", .lst (R.map ruleV))]) (by rw [hK]; exact lTaken.at _) (by rw [hK]; first | rfl | kernel_rfl | decide +kernel) (c.room (by decide)) ?_ rfl rfl rfl ?_ ?_ ?_
  · intro F vs r
    cases r.view with
    | cons r1 r2 =>
      cases r2.view
      exact ⟨_, rfl, .cons r1 .nil⟩
  · intro x hx
    simp at hx
    subst hx
    exact .inl rfl
  · intro k p hp
    have : cellsFrom k lTaken.scope.names [] = [(("trees" : Str), k)] := rfl
    rw [this] at hp ⊢
    simp only [List.mem_cons, List.not_mem_nil, or_false] at hp
    rcases hp with rfl; rfl
  · intro L m0 hc hL
    have cd := c.deeper (tkE L)
    have hc1 : mem (L + 1) = none := hc ("trees", L + 1) (.head _)
    have ecell : layC (fun n => List.lookup n (onlyC (fun n => List.lookup n lTaken.scope.names) [("rules", V.lst (R.map ruleV))])) (cellsFrom (L + 1) lTaken.scope.names []) mem = mset mem (L + 1) (.cell none) := by
      show layC _ [(("trees" : Str), L + 1)] mem = _
      rfl
    rw [ecell]
    obtain ⟨M0, hM0⟩ : ∃ M0, M0 = mset mem (L + 1) (.cell none) := ⟨_, rfl⟩
    have hT0 : M0 (L + 1) = some (.cell none) := by rw [hM0, mset_self]
    have s0 : Sub mem M0 := fun b x e => by rw [hM0, mset_ne (nex e hc1)]; exact e
    rw [← hM0]
    clear hM0 ecell
    (refine nameS ?_; intro aa vv oo qq ee; refine s_cons ?_)
    refine Tr.locs (loc' := [("rules", V.lst (R.map ruleV))]) rfl ?_
    refine s_assign rfl ?_
    refine e_dict0' (fun d m1 hd0 h1 f1 => ?_)
    have s1 : Sub mem m1 := Sub.new s0 hd0 f1
    have hdm : mem d = none := Sub.none s0 hd0
    have hT1 : m1 (L + 1) = _ := (f1 _ (nex hT0 hd0)).trans hT0
    refine s_cell5 (hk := rfl) (hl := rfl) (hc := rfl) hT1 (fun m2 hT2 f2 => ?_)
    have s2 : Sub mem m2 := fun b x e => (f2 _ (nex e hc1)).trans (s1 _ _ e)
    have h2 : m2 d = _ := (f2 _ (nex h1 hT1)).trans h1
    refine s_cons ?_; refine s_for (fun _ => rfl) ?_; refine c_name rfl ?_; refine e_boot rfl rfl rfl rfl rfl (by rw [hK]; rfl) rfl (by decide) ?_; refine c_type rfl rfl ?_; refine a_cons rfl ?_; refine e_int ?_; refine a_nil ?_
    refine range1 (fun rg t1 t2 t3 hrg => ?_)
    have s3 : Sub m2 (mset m2 rg (.raw (rangeObj 0 8 1 t1 t2 t3))) := sub_mset hrg (sub_refl _)
    refine for_map (ys := List.range 8) (fun i _ => .int ((0 : Int) + i)) (itr_range (k := 0) (n := 8) cd.handled (mset_self _ _ _) (by decide +kernel)) (fun n => KT mem L R n) (fun n l m hn J => ?_) (fun l m J => ?_) (fun n y l m hy J => ?_) ⟨rfl, (fun b x e => s3 _ _ (s2 _ _ e)), d, [], 0, s3 _ _ hT2, s3 _ _ h2, (fun x => .none fun z => z), hdm, hc1⟩
    · unfold rangeItem
      by_cases q : n < 8
      · rw [if_pos q, List.getElem?_range q]; rfl
      · rw [if_neg q, List.getElem?_eq_none (by rw [List.length_range]; omega)]; rfl
    · obtain ⟨hl, s, d, T, ep, hT, hd, tb, _, _⟩ := J
      rw [List.length_range] at tb
      refine Tr.locs hl ?_
      refine s_nil ?_
      refine s_cons ?_
      refine s_ret (Tr.shift ?_)
      refine c_meth rfl ?_; refine   e_cell rfl rfl rfl rfl     (by       first       | assumption       | simp [mset_self])     ?_
      refine m_builtin (.dict hd) PySem.F.plainAttrs_dict PySem.F.slot_dict_get (by show builtinType _ = _; rw [builtinType_eq_fast]; kernel_rfl) rfl rfl ?_
      refine a_cons rfl ?_; refine e_str ?_; refine a_cons rfl ?_; refine e_list ?_; refine a_nil ?_
      refine new_lst (show 0 ≤ sizeLine by decide) ?_
      refine a_nil ?_
      refine dict_get2 hd ?_
      rw [tbE_get, getD_lst]
      obtain ⟨q1, q2⟩ := (tb ssS).lst (fun k z => DB_D 8 z)
      exact ⟨_, mem, Shift.sub s, mem, sub_refl _, h _ q1 q2⟩
    · obtain ⟨hl, s, d, T, ep, hT, hd, tb, hd0, hL0⟩ := J
      refine Op.locs hl ?_
      refine asg_name ?_
      refine st_local rfl rfl ?_
      (refine nameQ ?_; intro qq ee; refine s_cons ?_)
      refine Tr.locs (loc' := [("rules", V.lst (R.map ruleV))]) rfl ?_
      refine s_assign rfl ?_
      refine e_dict0' (fun dg m4 hdg h4 f4 => ?_)
      have s4 : Sub m m4 := Sub.new (sub_refl _) hdg f4
      refine st_local rfl rfl ?_; refine s_cons ?_; refine s_for (fun _ => rfl) ?_; refine c_name rfl ?_; refine e_boot rfl rfl rfl rfl rfl (by rw [hK]; rfl) rfl (by decide) ?_; refine c_type rfl rfl ?_; refine a_cons rfl ?_; refine e_local rfl rfl rfl rfl ?_; refine a_nil ?_
      refine enum_lst (fun e he1 he2 => ?_)
      refine for_map (ys := R) (fun i r => .tup [.int i, ruleV r]) (itr_enum cd.handled (.lst _) he1 he2) (KG m R dg n) (fun i l m hi J => ?_) (fun l m J => ?_) (fun i r l m5 hr J => ?_) ⟨rfl, s4, [], 0, h4, (fun x => .none fun ⟨j, _, a, _⟩ => (nomatch a)), Nat.le_refl _⟩
      · unfold enumItem seqNow
        show (if i ≤ (R.map ruleV).length then _ else _) = _
        rw [if_pos (by rw [List.length_map]; exact hi), List.getElem?_map, Option.map_map]; rfl
      · obtain ⟨hl, s5, G, ep5, hg, tg, hgz⟩ := J
        refine Tr.locs hl ?_
        refine s_nil ?_; refine s_cons ?_; refine s_assign rfl ?_; refine e_local rfl rfl rfl rfl ?_
        have hT5 := s5 _ _ hT
        refine s_cell5 (hk := rfl) (hl := rfl) (hc := rfl) hT5 (fun m6 hT6 f6 => ?_)
        refine s_nil ?_
        refine ⟨rfl, fun b x e => (f6 _ (nex e hL0)).trans (s5 _ _ (s _ _ e)), dg, G, ep5, hT6, (f6 _ (nex hg hT5)).trans hg, tg, Sub.none s hdg, hL0⟩
      · obtain ⟨hl, s5, G, ep5, hg, tg, hgz⟩ := J
        have hrR : r ∈ R := List.mem_of_getElem? hr
        have hrl := I.ok r hrR
        have hiR : i < R.length := (List.getElem?_eq_some_iff.mp hr).1
        obtain ⟨name, body⟩ := r
        have hT5 := s5 _ _ hT
        have hd5 := s5 _ _ hd
        refine Op.locs hl ?_
        refine   asg_tuple     (by       first       | assumption       | exact Calm.handled (by assumption))     rfl rfl ?_; refine asg_name ?_; refine st_local rfl rfl ?_; refine   asg_tuple     (by       first       | assumption       | exact Calm.handled (by assumption))     rfl rfl ?_; refine asg_name ?_; refine st_local rfl rfl ?_; refine asg_name ?_; refine st_local rfl rfl ?_; (refine nameQ ?_; intro qq ee; refine s_cons ?_); refine s_if ?_; refine b_value rfl ?_; refine c_name rfl ?_; refine e_boot rfl rfl rfl rfl rfl (by rw [hK]; rfl) rfl (by decide) ?_; refine c_builtin rfl rfl ?_; refine a_cons rfl ?_; refine e_listcomp rfl (by decide) rfl (by decide) (fun _ => rfl) ?_; refine e_local rfl rfl rfl rfl ?_
        refine comp_map (itr_tup cd.handled) (vStrs body) (fun m i hs hi => rfl) (by rw [vStrs_len]; exact Nat.le_trans hrl.len (by decide)) (okG T) ?_ ?_
        · intro C outer' j v hv
          obtain ⟨s', hs', rfl⟩ := List.mem_map.mp (List.mem_of_getElem? hv)
          refine asg_name ?_; refine st_local rfl rfl ?_; refine e_or2 ?_; refine e_cmp rfl ?_; refine e_local rfl rfl rfl rfl ?_; refine   e_cell rfl rfl rfl rfl     (by       first       | assumption       | simp [mset_self])     ?_
          refine in_dict hd5 ?_
          rw [tbE_get, Option.isSome_map]
          refine tr_bool ?_
          refine ⟨fun hb => ?_, fun hb => ?_⟩
          · refine e_cmp rfl ?_; refine e_local rfl rfl rfl rfl ?_; refine c_name rfl ?_; refine e_topG rfl rfl rfl rfl (by rw [hK]; rfl) ?_; refine c_top0 (by rw [hK]; rfl) ?_
            refine names_spec hK (cd.mono (by decide) (by decide)) ?_
            refine notin_list (.lst _) (n := 0) (sy_ok _ (hrl.body _ hs')) nm_isD (by decide) (Nat.lt_of_le_of_lt (Nat.add_le_add_right cd.units 65) (by decide)) (fun b hb2 => ?_)
            have hb2 : b = decide (s' ∈ NM) := by
              have e : V.str s' ∈ vStrs NM ↔ s' ∈ NM := by
                unfold vStrs; rw [List.mem_map]
                exact ⟨fun ⟨a, ha, e⟩ => by cases e; exact ha, fun h => ⟨_, h, rfl⟩⟩
              rw [e] at hb2
              by_cases q : s' ∈ NM
              · rw [hb2.mpr q, decide_eq_true q]
              · cases b with
                | true => exact absurd (hb2.mp rfl) q
                | false => rw [decide_eq_false q]
            exact ⟨by show _ = some (V.bool _); unfold okT; rw [hb, hb2]; rfl, sub_refl _⟩
          · exact ⟨by show _ = some (V.bool _); unfold okT; rw [hb]; rfl, sub_refl _⟩
        · intro al hal
          rw [okG_map]
          have s6 : Sub m5 (mset m5 al (.list ((body.map (okT T)).map V.bool))) := sub_mset hal (sub_refl _)
          refine a_nil ?_
          refine all_bools cd.handled (.own (mset_self _ _ _)) ?_
          refine Op.memS s6 ?_
          refine tr_bool ?_
          have hok := okT_all tb body name
          refine ⟨fun hb => ?_, fun hb => ?_⟩
          · have hok := hok.mp hb
            (refine nameQ ?_; intro qq ee; refine s_cons ?_); refine s_assign rfl ?_; refine e_list ?_; refine a_cons rfl ?_; refine e_local rfl rfl rfl rfl ?_; refine a_nil ?_
            refine new_own' (show 1 ≤ sizeLine by decide) (fun pa m6 hpa h6 f6 => ?_)
            have s6 : Sub m5 m6 := Sub.new (sub_refl _) hpa f6
            have tlen : ∀ s', ((T.lookup s').getD []).length ≤ 7 ∧ ∀ z, z ∈ (T.lookup s').getD [] ↔ ∃ k : Nat, z = k ∧ (DB R n).2 s' k := fun s' => by
              obtain ⟨q1, q2⟩ := (tb s').lst (fun k z => DB_D n z)
              refine ⟨rise_len q1 fun z hz => ?_, q2⟩
              obtain ⟨k, rfl, w⟩ := (q2 z).mp hz
              have := DB_lt n w
              have := I.hz
              exact ⟨Int.natCast_nonneg _, by omega⟩
            refine st_local rfl rfl ?_; refine s_cons ?_; refine s_for (fun _ => rfl) ?_; refine e_local rfl rfl rfl rfl ?_
            refine for_map (ys := body) (fun _ => V.str) (itr_tup cd.handled) (fun j => KA m5 R dg (DB R n).2 i name (body.take j)) (fun j l m hj J => ?_) (fun l m J => ?_) (fun j y l m hy J => ?_)
              ⟨pa, [(i : Int)], rfl, s6, h6, hpa, Nat.le_refl _, fun z => ⟨fun h => ⟨i, List.mem_singleton.mp h, .inl rfl⟩, fun ⟨k, e, w⟩ => by
                rcases w with rfl | ⟨s', hs', _⟩
                · rw [e]; exact .head _
                · cases hs'⟩⟩
            · show some ((vStrs body)[j]?) = _
              unfold vStrs; rw [List.getElem?_map]
            · obtain ⟨pb, acc, hl, s7, hpb, hpb0, hlen, hacc⟩ := J
              rw [List.take_length] at hlen hacc
              have hlen : acc.length ≤ 22 := by have := hrl.len; dsimp only at this; omega
              refine Tr.locs hl ?_
              have hg7 := s7 _ _ hg
              refine s_nil ?_
              refine s_cons ?_
              refine s_assign_sub rfl (Tr.shift ?_)
              refine c_name rfl ?_; refine e_boot rfl rfl rfl rfl rfl (by rw [hK]; rfl) rfl (by decide) ?_; refine c_builtin rfl rfl ?_; refine a_cons rfl ?_; refine c_name rfl ?_; refine e_boot rfl rfl rfl rfl rfl (by rw [hK]; rfl) rfl (by decide) ?_; refine c_type rfl rfl ?_; refine a_cons rfl ?_; refine e_binop ?_; refine c_meth rfl ?_; refine e_local rfl rfl rfl rfl ?_
              refine m_builtin (.dict hg7) PySem.F.plainAttrs_dict PySem.F.slot_dict_get (by show builtinType _ = _; rw [builtinType_eq_fast]; kernel_rfl) rfl rfl ?_
              refine a_cons rfl ?_; refine e_local rfl rfl rfl rfl ?_; refine a_cons rfl ?_; refine e_list ?_; refine a_nil ?_
              refine new_lst (show 0 ≤ sizeLine by decide) ?_
              refine a_nil ?_
              refine dict_get2 hg7 ?_
              rw [tbE_get, getD_lst]
              obtain ⟨g1, g2⟩ := (tg name).lst (fun k z => BI_D z)
              have glen : ((G.lookup name).getD []).length ≤ 7 := rise_len g1 fun z hz => by
                obtain ⟨k, rfl, j, q, a, b, c, d, w⟩ := (g2 z).mp hz
                have hz7 := I.hz
                refine ⟨Int.natCast_nonneg _, ?_⟩
                rcases w with rfl | ⟨s', _, w⟩
                · omega
                · have := DB_lt n w; omega
              generalize (G.lookup name).getD [] = gs at *
              refine e_local rfl rfl rfl rfl ?_
              refine add_own (.lst _) (.own hpb) (by unfold vInts; rw [List.length_map, List.length_map]; exact Nat.le_trans (show gs.length + acc.length ≤ 29 by omega) (by decide)) (fun q hq => ?_)
              rw [show vInts gs ++ vInts acc = (gs ++ acc).map V.int from (List.map_append).symm]
              refine a_nil ?_
              refine set_ints cd.handled (.own (mset_self _ _ _)) (by rw [List.length_append]; omega) (fun so o hso hZ => ?_)
              refine a_nil ?_
              have hdl : (dedupI (gs ++ acc)).length < 64 := by have := dedupI_len (gs ++ acc); rw [List.length_append] at this; omega
              refine sorted_setZ cd.handled (mset_self _ _ _) hZ hdl (fun D ss hD hp hs => ?_)
              have sQ : Sub m (mset m q (.list ((gs ++ acc).map V.int))) := sub_mset hq (sub_refl _)
              have sS := sub_mset (y := AObj.raw o) hso sQ
              have hDm : m D = none := Sub.none sS hD
              refine ⟨_, m, Shift.lst (mset_self _ _ _) (sub_mset hD sS) hDm, ?_⟩
              have hss : ∀ z, z ∈ ss ↔ z ∈ gs ∨ z ∈ acc := fun z => by
                rw [hp.mem_iff, ← List.mem_append]
                exact ⟨dedupI_sub _ z, dedupI_sup _ z⟩
              have hsn : ss.Pairwise (· < ·) := pair_lt hs (hp.nodup_iff.mpr (dedupI_nodup _))
              refine e_local rfl rfl rfl rfl ?_; refine e_local rfl rfl rfl rfl ?_
              have hge : (tbE G).length ≤ sizeLine := by unfold tbE; rw [List.length_map]; have := I.hz; exact Nat.le_trans (show G.length ≤ 7 by omega) (by decide)
              refine setItem_dict' hg7 hge (fun m8 ep8 h8 f8 => ?_)
              refine s_nil ?_; refine s_nil ?_
              rw [show V.lst (ss.map V.int) = .lst (vInts ss) from rfl, tbE_put] at h8
              refine ⟨rfl, Sub.upd (fun b x e => s7 _ _ (s5 _ _ e)) hdg f8, putT G name ss, ep8, h8, fun x => ?_, ?_⟩
              · rw [putT_lookup]
                by_cases q : x = name
                · subst q
                  rw [if_pos rfl]
                  refine .some ss ((DI_succ hr x).mpr (.inr ⟨rfl, hok⟩)) hsn fun z => ?_
                  rw [hss, g2, hacc]
                  constructor
                  · rintro (⟨k, e, w⟩ | ⟨k, e, w⟩)
                    · exact ⟨k, e, (BI_succ hr x k).mpr (.inl w)⟩
                    · exact ⟨k, e, (BI_succ hr x k).mpr (.inr ⟨rfl, hok, w⟩)⟩
                  · rintro ⟨k, e, w⟩
                    rcases (BI_succ hr x k).mp w with w | ⟨_, _, w⟩
                    · exact .inl ⟨k, e, w⟩
                    · exact .inr ⟨k, e, w⟩
                · rw [if_neg q]
                  refine (tg x).iff ?_ fun k => ?_
                  · exact ⟨fun z => (DI_succ hr x).mpr (.inl z), fun z => ((DI_succ hr x).mp z).resolve_right fun w => q w.1.symm⟩
                  · exact ⟨fun z => (BI_succ hr x k).mpr (.inl z), fun z => ((BI_succ hr x k).mp z).resolve_right fun w => q w.1.symm⟩
              · have : (putT G name ss).length ≤ G.length + 1 := by
                  unfold putT; split
                  · rw [List.length_map]; omega
                  · rw [List.length_append]; exact Nat.le_refl _
                omega
            · obtain ⟨pb, acc, hl, s7, hpb, hpb0, hlen, hacc⟩ := J
              refine Op.locs hl ?_
              have hT7 := s7 _ _ hT5
              have hd7 := s7 _ _ hd5
              have hjb : j < body.length := (List.getElem?_eq_some_iff.mp hy).1
              refine asg_name ?_; refine st_local rfl rfl ?_; (refine nameQ ?_; intro qq ee; refine s_cons ?_); refine s_assign rfl ?_; refine e_binop ?_; refine e_local rfl rfl rfl rfl ?_; refine c_meth rfl ?_; refine   e_cell rfl rfl rfl rfl     (by       first       | assumption       | simp [mset_self])     ?_
              refine m_builtin (.dict hd7) PySem.F.plainAttrs_dict PySem.F.slot_dict_get (by show builtinType _ = _; rw [builtinType_eq_fast]; kernel_rfl) rfl rfl ?_
              refine a_cons rfl ?_; refine e_local rfl rfl rfl rfl ?_; refine a_cons rfl ?_; refine e_list ?_; refine a_nil ?_
              refine new_lst (show 0 ≤ sizeLine by decide) ?_
              refine a_nil ?_
              refine dict_get2 hd7 ?_
              rw [tbE_get, getD_lst]
              obtain ⟨t1, t2⟩ := tlen y
              generalize (T.lookup y).getD [] = ns at *
              rw [List.length_take] at hlen
              have hb3 := hrl.len
              dsimp only at hb3
              skip
              refine add_own (.own hpb) (.lst _) (by unfold vInts; rw [List.length_map, List.length_map]; exact Nat.le_trans (show acc.length + ns.length ≤ 29 by omega) (by decide)) (fun q hq => ?_)
              rw [show vInts acc ++ vInts ns = vInts (acc ++ ns) from (List.map_append).symm]
              refine st_local rfl rfl ?_; refine s_nil ?_
              have hst := take_snoc hy
              refine ⟨q, acc ++ ns, rfl, sub_mset hq s7, mset_self _ _ _, Sub.none s7 hq, by rw [List.length_append, List.length_take]; omega, fun z => ?_⟩
              rw [List.mem_append, hacc, t2, hst]
              constructor
              · rintro (⟨k, e, w⟩ | ⟨k, e, w⟩)
                · exact ⟨k, e, w.imp id fun ⟨s', a, b⟩ => ⟨s', List.mem_append_left _ a, b⟩⟩
                · exact ⟨k, e, .inr ⟨y, List.mem_append_right _ (.head _), w⟩⟩
              · rintro ⟨k, e, w | ⟨s', a, b⟩⟩
                · exact .inl ⟨k, e, .inl w⟩
                · rcases List.mem_append.mp a with a | a
                  · exact .inl ⟨k, e, .inr ⟨s', a, b⟩⟩
                  · rw [List.mem_singleton] at a; subst a; exact .inr ⟨k, e, b⟩
          · have hok : ¬ okD (DB R n).1 (name, body) := fun q => by rw [hok.mpr q] at hb; cases hb
            refine s_nil ?_; refine s_nil ?_
            refine ⟨rfl, s5, G, ep5, hg, (fun x => (tg x).iff ?_ fun k => ?_), Nat.le_succ_of_le hgz⟩
            · exact ⟨fun z => (DI_succ hr x).mpr (.inl z), fun z => ((DI_succ hr x).mp z).resolve_right fun w => hok w.2⟩
            · exact ⟨fun z => (BI_succ hr x k).mpr (.inl z), fun z => ((BI_succ hr x k).mp z).resolve_right fun w => hok w.2.1⟩
end
end Mine
end
section
set_option autoImplicit false
namespace Mine
noncomputable def tf (p : Prop) : Bool := @decide p (Classical.propDecidable p)
theorem tf_iff {p : Prop} : tf p = true ↔ p := @decide_eq_true_iff p (Classical.propDecidable p)
noncomputable def endedL (R : List Rule) : List Rule := R.filter fun r => r.2.all fun y => tf (Gd ABC R y)
noncomputable def joinedL (R : List Rule) : List Rule := R.filter fun r => tf (RchR R ssS r.1)
noncomputable def dueL (R : List Rule) : List Rule := joinedL (endedL R)
noncomputable def spareOf (D : List Rule) : List Str := ABC.filter fun t => !(D.any fun r => decide (t ∈ r.2))
noncomputable def usedOf (D : List Rule) : List Str := ABC.filter fun t => !decide (t ∈ spareOf D)
structure LastP (g : GR) : Prop where
  reach : ∀ n ∈ g.no.map (·.1), Rch g.prods ssS n
  ends : ∀ s ∈ kK g, EndsI g.prods (tK g) s
  und : undF g (oTop g) = []
  idle : idleF g.te = []
  alone : ∀ q ∈ g.no, q.2 ≠ []
structure LawP (R : List Rule) : Prop where
  taken : ∀ ns : List Int, ns.Pairwise (· < ·) → (∀ n, n ∈ ns ↔ ∃ k : Nat, n = k ∧ (DB R 8).2 ssS k) → ns.filterMap (fun n => R[n.toNat]?) = dueL R
  nil : dueL R = [] ↔ ¬ Gd ABC R ssS
  g0 : RG ABC R
  gE : Gd ABC R ssS → RG ABC (endedL R)
  gJ : RG ABC (joinedL R)
  gEJ : Gd ABC R ssS → RG ABC (endedL (joinedL R))
  gD : Gd ABC R ssS → RG ABC (dueL R)
  eq2 : joinedL (endedL (joinedL R)) = dueL R
  idle : ∀ up, Gd ABC R ssS → idleF (gOf ABC up (dueL R)).te = spareOf (dueL R)
  gU : Gd ABC R ssS → RG (usedOf (dueL R)) (dueL R)
  last : ∀ up, Gd ABC R ssS → LastP (gOf (usedOf (dueL R)) up (dueL R))
noncomputable abbrev lwE (L : Addr) : Env := envC "law" lLaw.scope L 297 lLaw.code
section
variable {W : Wd} {A : Around} {env : Env} {outer : Outs} {loc : Loc} {mem : Mem} {E : Ex W}
theorem s_try0 {body : List Stmt} {h₀ : ExceptHandler} {hs : List ExceptHandler} {pos : Pos} {Q : Fl → Loc → Mem → Prop} (h : TrS W A env outer (execs body env) loc mem Q Ex.no) :
    TrS W A env outer (exec (.Try body (h₀ :: hs) [] [] pos) env) loc mem Q E := fun R F s S => by
  refine wpAny_Try_except (after' (RW := FR W) (Q := fun _ _ _ => True) (h R F s S) (fun v s1 hx => hx.elim) fun f' s1 F1 fl l1 m1 i1 r1 S1 h1 => ?_)
  cases r1 with
  | next => exact wpAny_execs_nil ⟨F1, .next, l1, m1, i1, .next, S1, h1⟩
  | brk => exact ⟨F1, .brk, l1, m1, i1, .brk, S1, h1⟩
  | cont => exact ⟨F1, .cont, l1, m1, i1, .cont, S1, h1⟩
  | ret r => exact ⟨F1, .ret _, l1, m1, i1, .ret r, S1, h1⟩
theorem ended_eq {R : List Rule} {gb : Str → Bool} (h : ∀ r ∈ R, ∀ y ∈ r.2, (gb y = true ↔ Gd ABC R y)) : (R.filter fun r => r.2.all gb) = endedL R := by
  unfold endedL
  refine List.filter_congr fun r hr => ?_
  rw [Bool.eq_iff_iff, List.all_eq_true, List.all_eq_true]
  exact forall_congr' fun y => imp_congr_right fun hy => (h r hr y hy).trans tf_iff.symm
theorem joined_eq {R : List Rule} {rb : Str → Bool} (h : ∀ x, rb x = true ↔ RchR R ssS x) : (R.filter fun r => rb r.1) = joinedL R := by
  unfold joinedL
  refine List.filter_congr fun r hr => ?_
  rw [Bool.eq_iff_iff, h, tf_iff]
noncomputable def modG : V → Option V
  | .int n => some (.int (n.fmod 720720))
  | _ => none
theorem modG_map (ns : List Int) : (vInts ns).filterMap modG = (ns.map fun n => n.fmod 720720).map V.int := by
  unfold vInts
  induction ns with
  | nil => rfl
  | cons n ns ih => rw [List.map_cons, List.filterMap_cons]; exact congrArg (V.int _ :: ·) ih
noncomputable def pickG (R : List Rule) : V → Option V
  | .int n => (R[n.toNat]?).map ruleV
  | _ => none
theorem pickG_map (R : List Rule) (ns : List Int) : (vInts ns).filterMap (pickG R) = (ns.filterMap fun n => R[n.toNat]?).map ruleV := by
  unfold vInts
  induction ns with
  | nil => rfl
  | cons n ns ih =>
    rw [List.map_cons, List.filterMap_cons, List.filterMap_cons]
    rw [show pickG R (.int n) = (R[n.toNat]?).map ruleV from rfl]
    cases R[n.toNat]? with
    | none => exact ih
    | some r => exact congrArg (ruleV r :: ·) ih
theorem law_a {L : Addr} {ns : List Int} {M0 : Mem} {Q : Fl → Loc → Mem → Prop} (hK : W.K = hdK W.w.params) (cd : Calm A 310 2000) (hns : ns.length ≤ 63)
    (c1 : M0 (L + 1) = some (.cell none)) (c2 : M0 (L + 2) = some (.cell none)) (c3 : M0 (L + 3) = some (.cell none)) (hP : ∀ R, LawR R → LawP R) (T0 : CodeT aTab mkPos mkQual M0)
    (h : ∀ R m, LawP R → m (L + 1) = some (.cell (some (.lst (R.map ruleV)))) → m (L + 2) = some (.cell (some (.lst ((dueL R).map ruleV)))) → m (L + 3) = some (.cell none) → CodeT aTab mkPos mkQual m → TrS W A (lwE L) outer (execs (lLaw.body.drop 3) (lwE L)) [] m Q E) :
    TrS W A (lwE L) outer (execs lLaw.body (lwE L)) [("script", .lst (vInts ns))] M0 Q E := by
  refine s_cons ?_
  refine s_assign_listcomp (cl := []) rfl rfl (by decide) rfl (by decide) rfl rfl (fun _ => rfl) ?_
  refine e_slice ?_; refine e_local rfl rfl rfl rfl ?_; refine e_int ?_
  refine ⟨30, rfl, ?_⟩
  skip
  refine ⟨_, _, .lst _, PySem.F.slot_list_getitem.lookup, ?_⟩
  refine slice_upto (xs := ns.map .int) (k := 30) (.lst _) (by rw [List.length_map]; exact Nat.le_trans hns (by decide)) ?_
  rw [← List.map_take]
  have hz0 : (ns.take 30).length ≤ 30 := by rw [List.length_take]; exact Nat.min_le_left _ _
  generalize ns.take 30 = t0 at hz0
  refine comp_map (itr_lst cd.handled) (vInts t0) (fun m i hs hi => rfl) (by unfold vInts; rw [List.length_map]; exact Nat.le_trans hz0 (by decide)) modG ?_ ?_
  · intro C outer' i v hv
    obtain ⟨n, hn, rfl⟩ := List.mem_map.mp (List.mem_of_getElem? hv)
    refine asg_name ?_; refine st_local rfl rfl ?_; refine e_binop ?_; refine e_local rfl rfl rfl rfl ?_; refine e_int ?_
    refine mod_ii (by decide) ?_
    exact ⟨rfl, sub_refl _⟩
  · intro ta hta
    rw [modG_map]
    obtain ⟨M1, hM1⟩ : ∃ M1, M1 = mset M0 ta (.list ((t0.map fun n => n.fmod 720720).map V.int)) := ⟨_, rfl⟩
    have hta1 : M1 ta = some (.list ((t0.map fun n => n.fmod 720720).map V.int)) := by rw [hM1, mset_self]
    have s1 : Sub M0 M1 := by rw [hM1]; exact sub_mset hta (sub_refl _)
    rw [← hM1]
    clear hM1
    refine s_cons ?_
    refine Tr.locs (loc' := [("tape", V.ref ta)]) rfl ?_
    refine s_assign rfl ?_; refine c_name rfl ?_; refine e_topG rfl rfl rfl rfl (by rw [hK]; rfl) ?_; refine c_top (by rw [hK]; rfl) rfl rfl ?_; refine a_cons rfl ?_; refine e_local rfl rfl rfl rfl ?_; refine a_nil ?_
    refine rules_spec hK (cd.mono (by decide) (by decide)) hta1 (by rw [List.length_map]; exact hz0) (fun R M2 IR off2 => ?_)
    have I := hP R IR
    have k1 := off2 _ _ (nex (s1 _ _ c1) hta1) (s1 _ _ c1)
    have k2 := off2 _ _ (nex (s1 _ _ c2) hta1) (s1 _ _ c2)
    have k3 := off2 _ _ (nex (s1 _ _ c3) hta1) (s1 _ _ c3)
    have T2 : CodeT aTab mkPos mkQual M2 := T0.mono fun b o e => off2 _ _ (nex (s1 _ _ e) hta1) (s1 _ _ e)
    clear off2 s1 hta1 hta
    refine s_cell4 (hk := rfl) (hl := rfl) (hc := rfl) k1 (fun M3 r3 f3 => ?_)
    have n12 : L + 2 ≠ L + 1 := by intro e; exact absurd e (Nat.ne_of_gt (by omega))
    have n13 : L + 3 ≠ L + 1 := by intro e; exact absurd e (Nat.ne_of_gt (by omega))
    have n23 : L + 3 ≠ L + 2 := by intro e; exact absurd e (Nat.ne_of_gt (by omega))
    have k2 := (f3 _ n12).trans k2
    have k3 := (f3 _ n13).trans k3
    have T3 := T2.mono (m' := M3) fun b o e => (f3 _ (nex e k1)).trans e
    refine s_cons ?_
    refine Tr.locs (loc' := []) rfl ?_
    refine s_assign rfl (Tr.shift ?_)
    refine e_listcomp rfl (by decide) rfl (by decide) (fun _ => rfl) ?_; refine c_name rfl ?_; refine e_topG rfl rfl rfl rfl (by rw [hK]; rfl) ?_; refine c_top (by rw [hK]; rfl) rfl rfl ?_; refine a_cons rfl ?_; refine   e_cell rfl rfl rfl rfl     (by       first       | assumption       | simp [mset_self])     ?_; refine a_nil ?_
    refine taken_spec hK (cd.mono (by decide) (by decide)) IR (fun ks hks hm => ?_)
    have hR7 := IR.hz
    have hin : ∀ n ∈ ks, 0 ≤ n ∧ n < 7 ∧ ∃ r, R[n.toNat]? = some r := fun n hn => by
      obtain ⟨k, rfl, hk⟩ := (hm n).mp hn
      have hlt := DB_lt 8 hk
      exact ⟨Int.natCast_nonneg _, by omega, R[k], by rw [Int.toNat_natCast]; exact List.getElem?_eq_getElem hlt⟩
    have hkl : ks.length ≤ 7 := rise_len hks fun n hn => ⟨(hin n hn).1, (hin n hn).2.1⟩
    refine comp_map (itr_lst cd.handled) (vInts ks) (fun m i hs hi => rfl) (by unfold vInts; rw [List.length_map]; exact Nat.le_trans hkl (by decide)) (pickG R) ?_ ?_
    · intro C outer' i v hv
      obtain ⟨n, hn, rfl⟩ := List.mem_map.mp (List.mem_of_getElem? hv)
      obtain ⟨h0, h7, r, hr⟩ := hin n hn
      refine asg_name ?_; refine st_local rfl rfl ?_; refine e_sub (fun _ _ => rfl) ?_; refine   e_cell rfl rfl rfl rfl     (by       first       | assumption       | simp [mset_self])     ?_; refine e_local rfl rfl rfl rfl ?_
      refine sub_sq (.lst _) h0 (Int.lt_trans h7 (by decide)) (x := ruleV r) (by rw [List.getElem?_map, hr]; rfl) ?_
      exact ⟨by show _ = (R[n.toNat]?).map ruleV; rw [hr]; rfl, sub_refl _⟩
    · intro D hD
      rw [pickG_map, I.taken ks hks hm]
      refine ⟨_, M3, Shift.lst (mset_self _ _ _) (sub_mset hD (sub_refl _)) hD, ?_⟩
      refine s_cell4 (hk := rfl) (hl := rfl) (hc := rfl) k2 (fun M4 r4 f4 => ?_)
      have r3' := (f4 _ (Ne.symm n12)).trans r3
      have k3' := (f4 _ n23).trans k3
      have T4 := T3.mono (m' := M4) fun b o e => (f4 _ (nex e k2)).trans e
      exact h R M4 I r3' r4 k3' T4
end
end Mine
end
section
set_option autoImplicit false
namespace Mine
section
variable {W : Wd} {A : Around} {env : Env} {outer : Outs} {loc : Loc} {mem : Mem} {E : Ex W}
theorem rules_isD {R : List Rule} (h : ∀ r ∈ R, RL r) : isD 3 (.lst (R.map ruleV)) = true := by
  show (R.map ruleV).all (isD 2) = true
  rw [List.all_eq_true]
  intro v hv
  obtain ⟨r, hr, rfl⟩ := List.mem_map.mp hv
  exact (h r hr).isD
theorem rules_inj {R S : List Rule} : V.lst (R.map ruleV) = .lst (S.map ruleV) ↔ R = S := by
  constructor
  · intro h
    injection h with h
    exact (List.map_inj_right fun x y e => ruleV_inj e).mp h
  · rintro rfl; rfl
theorem due_ok {R : List Rule} (I : LawP R) : ∀ r ∈ dueL R, RL r := fun r hr => I.g0.ok r (List.mem_filter.mp (List.mem_filter.mp hr).1).1
theorem eq_rules {R S : List Rule} {Q : V → Loc → Mem → Prop} (hR : ∀ r ∈ R, RL r) (hS : ∀ r ∈ S, RL r) (hu : A.units + 64 < cLine) (h : Q (.bool (tf (R = S))) loc mem) :
    OpV W A env outer (fun | [x, y] => compareOp .Eq x y | _ => pure .none) [.lst (R.map ruleV), .lst (S.map ruleV)] loc mem Q E :=
  eq_dd (rules_isD hR) (rules_isD hS) (by decide) (by decide) hu fun b hb => by
    rw [rules_inj] at hb
    have : b = tf (R = S) := by rw [Bool.eq_iff_iff, tf_iff]; exact hb
    rw [this]; exact h
theorem ne_rules {R S : List Rule} {Q : V → Loc → Mem → Prop} (hR : ∀ r ∈ R, RL r) (hS : ∀ r ∈ S, RL r) (hu : A.units + 64 < cLine) (h : Q (.bool (!tf (R = S))) loc mem) :
    OpV W A env outer (fun | [x, y] => compareOp .NotEq x y | _ => pure .none) [.lst (R.map ruleV), .lst (S.map ruleV)] loc mem Q E :=
  ne_dd (rules_isD hR) (rules_isD hS) (by decide) (by decide) hu fun b hb => by
    rw [rules_inj] at hb
    have : b = tf (R = S) := by rw [Bool.eq_iff_iff, tf_iff]; exact hb
    rw [this]; exact h
theorem law_b {L : Addr} {R : List Rule} {m : Mem} {Q : Fl → Loc → Mem → Prop} (hK : W.K = hdK W.w.params) (B : BmIs W) (cd : Calm A 310 2000) (hf : Fits A (lwE L) outer) (I : LawP R)
    (c1 : m (L + 1) = some (.cell (some (.lst (R.map ruleV))))) (c2 : m (L + 2) = some (.cell (some (.lst ((dueL R).map ruleV))))) (c3 : m (L + 3) = some (.cell none)) (T0 : CodeT aTab mkPos mkQual m)
    (hq : ∀ l m, CodeT aTab mkPos mkQual m → Q (.ret (.bool true)) l m)
    (h : Gd ABC R ssS → ∀ m, m (L + 1) = some (.cell (some (.lst (R.map ruleV)))) → m (L + 2) = some (.cell (some (.lst ((dueL R).map ruleV)))) → m (L + 3) = some (.cell none) → CodeT aTab mkPos mkQual m → TrS W A (lwE L) outer (execs (lLaw.body.drop 5) (lwE L)) [] m Q E) :
    TrS W A (lwE L) outer (execs (lLaw.body.drop 3) (lwE L)) [] m Q E := by
  refine s_cons ?_; refine s_assign rfl ?_; refine c_meth rfl ?_; refine c_name rfl ?_; refine e_topG rfl rfl rfl rfl (by rw [hK]; rfl) ?_; refine c_top (by rw [hK]; rfl) rfl rfl ?_; refine a_cons rfl ?_; refine   e_cell rfl rfl rfl rfl     (by       first       | assumption       | simp [mset_self])     ?_; refine a_cons rfl ?_; refine e_list ?_; refine a_cons rfl ?_; refine e_str ?_; refine a_cons rfl ?_; refine e_str ?_; refine a_cons rfl ?_; refine e_str ?_; refine a_nil ?_
  refine new_lst (xs := vStrs ABC) (show 3 ≤ sizeLine by decide) ?_
  refine a_nil ?_
  refine gram_spec hK (cd.mono (by decide) (by decide)) hf I.g0.gr (let ⟨r, hr, e⟩ := I.g0.has; ⟨r, hr, e⟩) (fun a gm up GM dis => ?_)
  obtain ⟨adr, cc, M, ok, ea⟩ := GM
  have r : Rd adr (gOf ABC up R) (mun gm m) := (GOk.rd M ok).mono fun b x e => mun_l e
  have s1 : Sub m (mun gm m) := fun b x e => by
    rw [mun_r]
    · exact e
    · cases q : gm b with
      | none => rfl
      | some y => have := dis _ _ q; rw [e] at this; cases this
  rw [← ea]
  generalize mun gm m = m1 at *
  clear dis M ok
  obtain ⟨epd, hd⟩ := r.dict
  have hx := r.self
  skip
  refine m_own0 (.own hx hd) (by rw [hK]; first | rfl | kernel_rfl | decide +kernel) (by rw [hK]; first | rfl | kernel_rfl | decide +kernel) (by rw [hK]; first | rfl | kernel_rfl | decide +kernel) rfl (by rw [hK]; first | rfl | kernel_rfl | decide +kernel) ?_
  refine inf_spec hK (cd.mono (by decide) (by decide)) r I.g0.iwf (fun T hT => ?_)
  have hS := I.g0.start_bad (up := up) hT
  obtain ⟨ok1, _, _, _⟩ := I.g0.okL (up := up) T
  have ok1 : ∀ y ∈ infF (gOf ABC up R) T (kK (gOf ABC up R)), PyData.strOk y = true := fun y hy => ok1 y (List.mem_append_left _ hy)
  generalize infF (gOf ABC up R) T (kK (gOf ABC up R)) = inf at *
  refine Op.memS s1 ?_
  refine st_local rfl rfl ?_
  refine s_cons ?_
  refine Tr.locs (loc' := [("endless", V.lst (vStrs inf))]) rfl ?_
  have hu : A.units + 64 < cLine := Nat.lt_of_le_of_lt (Nat.add_le_add_right cd.units 64) (by decide)
  have hu2 : A.units + 65 < cLine := Nat.lt_of_le_of_lt (Nat.add_le_add_right cd.units 65) (by decide)
  refine s_if ?_; refine b_bool ?_; refine b_or_cons ?_; refine b_cmp rfl ?_; refine   e_cell rfl rfl rfl rfl     (by       first       | assumption       | simp [mset_self])     ?_; refine e_list ?_; refine a_nil ?_
  refine new_lst (show 0 ≤ sizeLine by decide) ?_
  skip
  refine eq_rules (S := []) (due_ok I) (fun r h => nomatch h) hu ?_
  by_cases hg : Gd ABC R ssS
  · have e1 : tf (dueL R = []) = false := by
      cases q : tf (dueL R = []) with
      | false => rfl
      | true => exact absurd hg (I.nil.mp (tf_iff.mp q))
    rw [e1]
    refine tr_bool ?_
    refine ⟨fun _ => ?_, fun e => (nomatch e)⟩
    refine b_or_cons ?_; refine b_cmp rfl ?_; refine e_str ?_; refine e_local rfl rfl rfl rfl ?_
    refine in_strs (x := ssS) (.lst _) ss_ok.2.2 ok1 hu2 ?_
    rw [decide_eq_false (fun z => (hS.mp z) hg)]
    refine tr_bool ?_
    refine ⟨fun _ => ?_, fun e => (nomatch e)⟩
    refine b_or_nil ?_
    refine only_f ?_
    refine s_nil ?_
    refine Tr.locs (loc' := []) rfl ?_
    exact h hg m c1 c2 c3 T0
  · have e1 : tf (dueL R = []) = true := tf_iff.mpr (I.nil.mpr hg)
    rw [e1]
    refine tr_bool ?_
    refine ⟨fun e => (nomatch e), fun _ => ?_⟩
    refine only_t ?_
    (refine nameQ ?_; intro qq ee; refine s_cons ?_); refine s_ret ?_; refine e_and2 ?_; refine e_cmp rfl ?_; refine   e_cell rfl rfl rfl rfl     (by       first       | assumption       | simp [mset_self])     ?_; refine e_list ?_; refine a_nil ?_
    refine new_lst (show 0 ≤ sizeLine by decide) ?_
    skip
    refine eq_rules (S := []) (due_ok I) (fun r h => nomatch h) hu ?_
    rw [e1]
    refine tr_bool ?_
    refine only_t ?_
    refine e_cmp rfl ?_; refine e_str ?_; refine e_local rfl rfl rfl rfl ?_
    refine in_strs (x := ssS) (.lst _) ss_ok.2.2 ok1 hu2 ?_
    rw [decide_eq_true (hS.mpr hg)]
    exact hq _ _ T0
end
end Mine
end
section
set_option autoImplicit false
namespace Mine
structure CE (L : Addr) (R : List Rule) (sp : Option V) (m : Mem) : Prop where
  c1 : m (L + 1) = some (.cell (some (.lst (R.map ruleV))))
  c2 : m (L + 2) = some (.cell (some (.lst ((dueL R).map ruleV))))
  c3 : m (L + 3) = some (.cell sp)
  T : CodeT aTab mkPos mkQual m
theorem CE.off {L : Addr} {R : List Rule} {sp : Option V} {m m' : Mem} (h : CE L R sp m) (o : Off aTab m m') (T : CodeT aTab mkPos mkQual m') : CE L R sp m' := by
  have hT : ∃ ps, m aTab = some (.raw (tabObj ps)) := by
    cases h.T with
    | fresh a => exact ⟨_, a⟩
    | made c' oc a b d => exact ⟨_, a⟩
  obtain ⟨ps, hT⟩ := hT
  exact ⟨o _ _ (nex h.c1 hT) h.c1, o _ _ (nex h.c2 hT) h.c2, o _ _ (nex h.c3 hT) h.c3, T⟩
noncomputable def tryB : List Stmt := match stAt lLaw.body 5 with
  | .Try b _ _ _ _ => b
  | _ => []
section
variable {W : Wd} {A : Around} {env : Env} {outer : Outs} {loc : Loc} {mem : Mem} {E : Ex W}
theorem law_c {L : Addr} {R : List Rule} {m : Mem} {Q : Fl → Loc → Mem → Prop} (hK : W.K = hdK W.w.params) (B : BmIs W) (cd : Calm A 310 2000) (hf : Fits A (lwE L) outer) (I : LawP R) (hg : Gd ABC R ssS)
    (c : CE L R none m) (h : ∀ m, CE L R none m → TrS W A (lwE L) outer (execs (tryB.drop 1) (lwE L)) [] m Q E) :
    TrS W A (lwE L) outer (execs tryB (lwE L)) [] m Q E := by
  obtain ⟨c1, c2, c3, T0⟩ := id c
  have hu : A.units + 64 < cLine := Nat.lt_of_le_of_lt (Nat.add_le_add_right cd.units 64) (by decide)
  refine s_cons ?_; refine s_if ?_; refine b_bool ?_; refine b_or_cons ?_; refine b_cmp rfl ?_; refine c_name rfl ?_; refine e_topG rfl rfl rfl rfl (by rw [hK]; rfl) ?_; refine c_top (by rw [hK]; rfl) rfl rfl ?_; refine a_cons rfl ?_; refine c_name rfl ?_; refine e_topG rfl rfl rfl rfl (by rw [hK]; rfl) ?_; refine c_top (by rw [hK]; rfl) rfl rfl ?_; refine a_cons rfl ?_; refine   e_cell rfl rfl rfl rfl     (by       first       | assumption       | simp [mset_self])     ?_; refine a_nil ?_
  refine ended_spec hK (cd.mono (by decide) (by decide)) hf I.g0 (fun gb hgb => ?_)
  rw [ended_eq hgb]
  refine a_nil ?_
  refine joined_spec hK (cd.mono (by decide) (by decide)) B hf (I.gE hg) T0 (fun rb m1 hrb off1 T1 => ?_)
  rw [joined_eq hrb]
  have k1 := c.off off1 T1
  obtain ⟨a1, a2, a3, _⟩ := id k1
  refine   e_cell rfl rfl rfl rfl     (by       first       | assumption       | simp [mset_self])     ?_
  refine ne_rules (R := joinedL (endedL R)) (S := dueL R) (due_ok I) (due_ok I) hu ?_
  rw [show tf (joinedL (endedL R) = dueL R) = true from tf_iff.mpr rfl]
  refine tr_bool ?_
  refine ⟨fun _ => ?_, fun e => (nomatch e)⟩
  refine b_or_cons ?_; refine b_cmp rfl ?_; refine c_name rfl ?_; refine e_topG rfl rfl rfl rfl (by rw [hK]; rfl) ?_; refine c_top (by rw [hK]; rfl) rfl rfl ?_; refine a_cons rfl ?_; refine c_name rfl ?_; refine e_topG rfl rfl rfl rfl (by rw [hK]; rfl) ?_; refine c_top (by rw [hK]; rfl) rfl rfl ?_; refine a_cons rfl ?_; refine c_name rfl ?_; refine e_topG rfl rfl rfl rfl (by rw [hK]; rfl) ?_; refine c_top (by rw [hK]; rfl) rfl rfl ?_; refine a_cons rfl ?_; refine   e_cell rfl rfl rfl rfl     (by       first       | assumption       | simp [mset_self])     ?_; refine a_nil ?_
  refine joined_spec hK (cd.mono (by decide) (by decide)) B hf I.g0 T1 (fun rb m2 hrb off2 T2 => ?_)
  rw [joined_eq hrb]
  have k2 := k1.off off2 T2
  refine a_nil ?_
  refine ended_spec hK (cd.mono (by decide) (by decide)) hf I.gJ (fun gb hgb => ?_)
  rw [ended_eq hgb]
  refine a_nil ?_
  refine joined_spec hK (cd.mono (by decide) (by decide)) B hf (I.gEJ hg) T2 (fun rb m3 hrb off3 T3 => ?_)
  rw [joined_eq hrb]
  have k3 := k2.off off3 T3
  obtain ⟨b1, b2, b3, _⟩ := id k3
  refine   e_cell rfl rfl rfl rfl     (by       first       | assumption       | simp [mset_self])     ?_
  refine ne_rules (R := joinedL (endedL (joinedL R))) (S := dueL R) (by rw [I.eq2]; exact due_ok I) (due_ok I) hu ?_
  rw [show tf (joinedL (endedL (joinedL R)) = dueL R) = true from tf_iff.mpr I.eq2]
  refine tr_bool ?_
  refine ⟨fun _ => ?_, fun e => (nomatch e)⟩
  refine b_or_nil ?_
  refine only_f ?_
  refine s_nil ?_
  exact h m3 k3
end
end Mine
end
section
set_option autoImplicit false
namespace Mine
noncomputable abbrev vStr (ys : List Str) : List V := ys.map .str
noncomputable def nsO : Obj := { cls := .type "dict", data := .dict #[] }
noncomputable def cellO : Obj := { cls := .type "cell", data := .cell none }
section
variable {M : Model} {A : Around} {E : Value → Shared → Prop} {s : Shared}
theorem newEnv_one {scope : Scope} {globals : Addr} {cl : List (Str × Addr)} {qual tn : Str} {env : Env} {b : Addr} {Q : Env → Shared → Prop} (hone : ∀ k, cellsFrom k scope.names cl = (tn, k) :: cl) (hpush : ∀ h, pushCells h scope.names = h.push cellO)
    (h : Q (newEnv scope s.heap.objs.size globals ((tn, s.heap.objs.size + 1) :: cl) qual none .none (some env) b) { s with heap := (s.heap.push nsO).push cellO }) :
    wpAny M A (newFunctionEnv scope globals cl [] qual none .none (some env) b) Q E s := by
  simp only [newFunctionEnv, Option.isSome_some, if_true]
  refine wpAny_bind (wpAny_alloc ?_)
  refine wpAny_bind (wpAny_layCells _ (fun name kind cells => by cases hkc : kind == NameKind.cell <;> simp [hkc]) _ _ _ _ ?_)
  dsimp only
  rw [hpush, hone, Heap.size_push]
  refine wpAny_bind ?_
  rw [List.forIn_nil]
  exact wpAny_pure (wpAny_pure h)
end
section
variable {W : Wd} {A : Around} {env : Env} {outer : Outs} {loc : Loc} {mem R : Mem} {E : Ex W} {F : Frz} {s : Shared}
theorem Sim.takeX {a : Addr} {o : Obj} {x : AObj} (S : Sim W env outer loc mem R F s) (f1 : mun mem R a = none) (f2 : ∀ o, ¬ F a o) (f3 : a ≠ env.locals) (f4 : ∀ q ∈ outer, q.1 ≠ a) (f5 : a ≠ sysModules) (ho : s.heap.get? a = some o) (r : OR W F x o) : Sim W env outer loc (mset mem a x) R F s := by
  obtain ⟨g1, g2⟩ := mun_none f1
  have key : ∀ {b}, b ≠ a → mun (mset mem a x) R b = mun mem R b := fun {b} hb => by unfold mun; rw [mset_ne hb]
  have Z := S.z
  refine ⟨fun b y e => ?_, ?_⟩
  · by_cases q : b = a
    · rw [q]; exact g2
    · rw [mset_ne q] at e; exact S.dis b y e
  · exact {
      frz := Z.frz
      base := Z.base
      memF := fun b p e => by
        have hb : b ≠ a := fun q => f2 p (q ▸ e)
        rw [key hb]; exact Z.memF b p e
      memOk := fun b y h => by
        by_cases q : b = a
        · subst q; rw [mun_l (mset_self _ _ _)] at h; cases h; exact ⟨o, ho, r⟩
        · rw [key q] at h; exact Z.memOk b y h
      ns := Z.ns
      nsF := ⟨Z.nsF.1, by rw [key (Ne.symm f3)]; exact Z.nsF.2⟩
      outs := fun q hq => let ⟨z, b, c, e⟩ := Z.outs q hq; ⟨z, b, by rw [key (f4 q hq)]; exact c, e⟩
      low := Z.low
      memLow := fun b y h => by
        by_cases q : b = a
        · rw [q]; exact f5
        · rw [key q] at h; exact Z.memLow b y h
      gens := Z.gens
      os := Z.os }
theorem comp_coreC {E0 : Value → Shared → Prop} {mem₀ : Mem} {elt target iter : PySem.Expr} {ifs : List PySem.Expr} {scope : Scope} {cl : List (Str × Addr)} {pos : Pos} {x : V} {item : Nat → Mem → Option (Option V)} {Q : V → Loc → Mem → Prop} {tn : Str} {x' : Value} {RR : Value → Addr → Result → Shared → Prop}
    (hone : ∀ k, cellsFrom k scope.names cl = (tn, k) :: cl) (hpush : ∀ h, pushCells h scope.names = h.push cellO) (hkind : scope.kind = .function) (hx : Itr W A target x mem mem₀ item) (I : Addr → Nat → Nat → List V → Mem → Prop) (hz : ∀ c k i ys m, I c k i ys m → ys.length ≤ sizeLine)
    (turn : ∀ (C : Addr) (outer' : Outs) k i ys m l, I (C + 1) k i ys m → item i m ≠ none ∧ (item i m = some none → ∀ D, m D = none → ∃ m', (∀ a x, m' a = some x → mset m D (.list ys) a = some x) ∧ Q (.ref D) loc m') ∧
      ∀ v, item i m = some (some v) → Op W A (compEnvC scope ((tn, C + 1) :: cl) C env) outer' (fun _ (_ _ : Unit) => True) (fun | [y] => assign target (compEnvC scope ((tn, C + 1) :: cl) C env) y | _ => pure ()) [v] l m (fun _ l m =>
        CompTurn W A (compEnvC scope ((tn, C + 1) :: cl) C env) outer' ifs elt l m (fun y m => match y with
          | some y => ∃ k', k' < k ∧ I (C + 1) k' (i + 1) (ys ++ [y]) m
          | none => ∃ k', k' < k ∧ I (C + 1) k' (i + 1) ys m)) Ex.no)
    (k : Nat) (h : ∀ c m', mem₀ c = none → m' c = some (.cell none) → (∀ b, b ≠ c → m' b = mem₀ b) → I c k 0 [] m') (S : Sim W env outer loc mem R F s) (r : VR W F x x') (hRR : ∀ acc C s', CompEnd W env outer loc R F Q acc C s' → RR acc C (.ok .next) s') :
    wpAny (model W.prog W.w) A (pyIter x') (fun it s₂ => wpAny (model W.prog W.w) A (newList []) (fun acc s₃ =>
      wpAny (model W.prog W.w) A (newFunctionEnv scope env.globals cl [] env.qual none .none (some env)) (fun cenv s₄ =>
        codeAny (model W.prog W.w) A (.compStart (.ListComp elt [⟨target, iter, ifs, 0⟩] scope pos) 0 it acc { cenv with scope := relabel scope env }) (RR acc cenv.locals) s₄) E0 s₃) E0 s₂) E0 s := by
  refine wpAny_mono (hx E0 S r) (fun it s₂ h2 => ?_) fun _ _ e => e
  obtain ⟨st, R', fd, h0, S2⟩ := h2
  refine wpAny_newObj_type (newEnv_one hone hpush ?_)
  dsimp only
  generalize hD : s₂.heap.objs.size = D at *
  have fD : s₂.heap.get? D = none := hD ▸ get?_size _
  obtain ⟨fm, fR⟩ := S2.free fD
  have fR0 : R D = none := by
    cases q : R D with
    | none => rfl
    | some y => have := fd.same (D := D) h0 (by rw [q]; exact fun e => nomatch e); rw [fR, q] at this; cases this
  generalize hH2 : s₂.heap.push { cls := .type "list", dict := none, data := .seq ([] : List Value).toArray } = H2
  have S3 := S2.allocR (t := s₂.toks) (d := s₂.drawn) (x := .list []) (o' := { cls := .type "list", dict := none, data := .seq ([] : List Value).toArray }) fD (hD ▸ S2.size_le)
    (h' := H2) (fun b o e => hH2 ▸ Heap.get?_push_of_some _ e) (by rw [← hH2, ← hD]; exact Heap.get?_push_size _ rfl) (.list .nil)
  have st3 : st 0 (mset R D (.list [])) (mset R' D (.list [])) := fd.frame _ h0 (by rw [fR, fR0])
  generalize hC : H2.objs.size = C at *
  obtain ⟨m, hnm, lm⟩ := S3.z.ns
  have hns₁ : ((H2.push nsO).push cellO).Ns C (fun x => ([] : List (Str × Value)).reverse.lookup x) := hC ▸ (Heap.Ns.new H2 (.type "dict")).push _
  have keep₁ : ∀ b o, H2.get? b = some o → ((H2.push nsO).push cellO).get? b = some o := fun b o e => Heap.get?_push_of_some _ (Heap.get?_push_of_some _ e)
  have hcell₁ : ((H2.push nsO).push cellO).get? (C + 1) = some cellO := by
    have := Heap.get?_push_size (H2.push nsO) (o := cellO) rfl
    rwa [Heap.size_push, hC] at this
  have S4a : Sim W (compEnvC scope ((tn, C + 1) :: cl) C env) ((env.locals, m) :: outer) [] mem₀ (mset R' D (.list [])) F { s₂ with heap := (H2.push nsO).push cellO } :=
    ⟨S3.dis, S3.z.enter (s := { s₂ with heap := H2 }) (m' := fun x => ([] : List (Str × Value)).reverse.lookup x) hnm hC.symm rfl hns₁ keep₁ (fun x v e => by cases e)⟩
  have fC := S3.z.free_of_none (a := C + 1) (get?_ge (by rw [hC]; exact Nat.le_succ _))
  have S4 := S4a.takeX (x := .cell none) fC.1 fC.2.1 (Nat.succ_ne_self C) (fun q hq => by
    rcases List.mem_cons.mp hq with rfl | hq
    · exact Ne.symm fC.2.2.1
    · exact fC.2.2.2 q hq) (notMod (Nat.le_trans (hC ▸ S3.size_le) (Nat.le_succ _))) hcell₁ (.cell rfl (fun x e => nomatch e) fun _ => rfl)
  have hI0 := h (C + 1) _ (mun_none fC.1).1 (mset_self mem₀ (C + 1) (.cell none)) fun b hb => mset_ne hb
  have oC : ∀ p ∈ outer, p.1 ≠ C := fun p hp e => by
    have := (S4.z.outs p (.tail _ hp)).2.2.2; exact this e
  have loop : codeAny (model W.prog W.w) A (.compLoop (.ListComp elt [⟨target, iter, ifs, 0⟩] scope pos) 0 it (.ref D) (compEnvC scope ((tn, C + 1) :: cl) C env)) (RR (.ref D) C) { s₂ with heap := (H2.push nsO).push cellO } := by
    refine comp_loop (CoreI W (compEnvC scope ((tn, C + 1) :: cl) C env) ((env.locals, m) :: outer) F R D st (I (C + 1))) (fun n s hI => ?_) k ⟨0, F, [], _, [], _, Incl.refl F, st3, S4, hI0⟩
    obtain ⟨i, F', ys, R1, l, m', ic, hst, S', hI⟩ := hI
    obtain ⟨t1, t2, t3⟩ := turn C ((env.locals, m) :: outer) n i ys m' l hI
    cases hit : item i m' with
    | none => exact absurd hit t1
    | some w =>
      cases w with
      | none =>
        refine wpAny_mono (fd.done _ ic hst hit S') (fun r s1 h1 => ?_) fun _ _ e => e
        obtain ⟨rfl, S1⟩ := h1
        refine hRR _ _ _ ?_
        obtain ⟨mc, hnc, _⟩ := S1.z.ns
        have z := S.z.swap lm ic S1.z hnc
        have S5 : Sim W env ((C, mc) :: outer) loc m' (mset R D (.list ys)) F' s1 := ⟨S1.dis, z⟩
        obtain ⟨m2, hm2, q2⟩ := t2 hit D S5.offM
        exact ⟨F', m2, D, mc, rfl, ic, oC, (S5.fromR fR0).drop hm2, q2⟩
      | some v =>
        refine wpAny_mono (fd.next _ ic hst hit S') (fun r s1 h1 => ?_) fun _ _ e => e
        obtain ⟨v', rfl, h1⟩ := h1
        refine wpAny_mono h1 (fun _ s2 h2 => ?_) fun _ _ e => e
        obtain ⟨F2, R2, i2, r2, hst2, S2'⟩ := h2
        refine after' (RW := VR W) (Q := fun _ _ _ => True) (t3 v hit R2 F2 s2 [v'] S2' (.cons r2 .nil)) (fun _ _ z => z) fun _ s3 F3 _ l3 m3 i3 _ S3' h3 => ?_
        have elts : ∀ (F4 : Frz) (l4 : Loc) (m4 : Mem) (s4 : Shared), Incl F' F4 → Sim W (compEnvC scope ((tn, C + 1) :: cl) C env) ((env.locals, m) :: outer) l4 m4 R2 F4 s4 → TrV W A (compEnvC scope ((tn, C + 1) :: cl) C env) ((env.locals, m) :: outer) (eval elt (compEnvC scope ((tn, C + 1) :: cl) C env)) l4 m4 (fun y _ m => ∃ k', k' < n ∧ I (C + 1) k' (i + 1) (ys ++ [y]) m) Ex.no →
            wpAny (model W.prog W.w) A (eval elt (compEnvC scope ((tn, C + 1) :: cl) C env)) (fun x s₄ => wpAny (model W.prog W.w) A (call (.builtin "list.append") [.ref D, x]) (fun _ s₅ => ∃ m', m' < n ∧ CoreI W (compEnvC scope ((tn, C + 1) :: cl) C env) ((env.locals, m) :: outer) F R D st (I (C + 1)) m' s₅) (fun _ _ => False) s₄) (fun _ _ => False) s4 := fun F4 l4 m4 s4 i4 S4 he => by
          refine after' (RW := VR W) (Q := fun _ _ _ => True) (he R2 F4 s4 S4) (fun _ _ z => z) fun y' s5 F5 y l5 m5 i5 r5 S5 h5 => ?_
          obtain ⟨k', hk', hI'⟩ := h5
          have e2 : R2 D = some (.list ys) := by rw [fd.same hst2 (by rw [mset_self]; exact fun e => nomatch e), mset_self]
          have e3 := mset_eq e2
          rw [← e3] at S5
          obtain ⟨o, ho, ro⟩ := S5.atR
          cases ro.view with
          | @list vs nn q =>
            refine append_at ho (fun h' hs ho' => ?_) (by rw [q.size]; exact hz _ _ _ _ _ hI)
            have S6 := S5.updR (t := s5.toks) (d := s5.drawn) (x' := .list (ys ++ [y])) (fun b ob hb e => (hs.2 b hb).trans e) ho' (.list (by simpa using q.app (.cons r5 .nil)))
            refine ⟨k', hk', i + 1, F5, ys ++ [y], _, l5, m5, (ic.trans i4).trans i5, ?_, S6, hI'⟩
            have := fd.frame (D := D) (.list (ys ++ [y])) hst2 (by rw [e2, mset_self])
            rwa [mset_mset] at this
        match ifs, h3 with
        | [], h3 =>
          refine wpAny_tests_nil ?_
          rw [if_pos rfl]
          exact elts F3 l3 m3 s3 (i2.trans i3) S3' h3
        | [c], h3 =>
          refine wpAny_tests_one (after' (RW := VR W) (Q := fun _ _ _ => True) (h3 R2 F3 s3 S3') (fun _ _ z => z) fun b' s4 F4 b l4 m4 i4 r4 S4' h4 => ?_)
          subst r4
          cases b' with
          | true => rw [if_pos rfl]; exact elts F4 l4 m4 s4 ((i2.trans i3).trans i4) S4' (h4.1 rfl)
          | false =>
            rw [if_neg Bool.false_ne_true]
            obtain ⟨k', hk', hI'⟩ := h4.2 rfl
            exact ⟨k', hk', i + 1, F4, ys, R2, l4, m4, ((ic.trans i2).trans i3).trans i4, hst2, S4', hI'⟩
        | _ :: _ :: _, h3 => exact h3.elim
  exact codeAny_compStart_list loop (fd.self _ _ st3 S4 loop)
inductive CompOkC (W : Wd) (A : Around) (env : Env) (elt target : PySem.Expr) (ifs : List PySem.Expr) (scope : Scope) (cl : List (Str × Addr)) (loc : Loc) (mem : Mem) (tn : Str) (x : V) (Q : V → Loc → Mem → Prop) : Prop
  | mk (item : Nat → Mem → Option (Option V)) (mem₀ : Mem) (itr : Itr W A target x mem mem₀ item) (I : Addr → Nat → Nat → List V → Mem → Prop) (size : ∀ c k i ys m, I c k i ys m → ys.length ≤ sizeLine)
    (turn : ∀ (C : Addr) (outer' : Outs) k i ys m l, I (C + 1) k i ys m → item i m ≠ none ∧ (item i m = some none → ∀ D, m D = none → ∃ m', (∀ a x, m' a = some x → mset m D (.list ys) a = some x) ∧ Q (.ref D) loc m') ∧
      ∀ v, item i m = some (some v) → Op W A (compEnvC scope ((tn, C + 1) :: cl) C env) outer' (fun _ (_ _ : Unit) => True) (fun | [y] => assign target (compEnvC scope ((tn, C + 1) :: cl) C env) y | _ => pure ()) [v] l m (fun _ l m =>
        CompTurn W A (compEnvC scope ((tn, C + 1) :: cl) C env) outer' ifs elt l m (fun y m => match y with
          | some y => ∃ k', k' < k ∧ I (C + 1) k' (i + 1) (ys ++ [y]) m
          | none => ∃ k', k' < k ∧ I (C + 1) k' (i + 1) ys m)) Ex.no) (k : Nat) (init : ∀ c m', mem₀ c = none → m' c = some (.cell none) → (∀ b, b ≠ c → m' b = mem₀ b) → I c k 0 [] m')
theorem e_listcompC {elt target iter : PySem.Expr} {ifs : List PySem.Expr} {scope : Scope} {cl : List (Str × Addr)} {pos : Pos} {tn : Str} {Q : V → Loc → Mem → Prop}
    (hclos : closureFor scope env = pure cl) (hone : ∀ k, cellsFrom k scope.names cl = (tn, k) :: cl) (hpush : ∀ h, pushCells h scope.names = h.push cellO) (hkind : scope.kind = .function)
    (hnames : ∀ y ∈ scope.names, y.2 = .local → scope.names.lookup y.1 = some .local) (hs : ∀ x, foldedSetIterable iter env x = pure x)
    (h : TrV W A env outer (eval iter env) loc mem (fun x l m => CompOkC W A env elt target ifs scope cl l m tn x Q) E) :
    TrV W A env outer (eval (.ListComp elt [⟨target, iter, ifs, 0⟩] scope pos) env) loc mem Q E := fun R F s S => by
  rw [eval_ListComp]
  refine wpAny_comprehension_free (use := none) rfl hs hclos hkind hnames (after (RW := VR W) (Q := fun _ _ _ => True) (h R F s S) fun x' s1 F1 x l1 m1 i1 r1 S1 h1 => ?_)
  obtain ⟨item, mem₀, itr, I, size, turn, k, init⟩ := h1
  refine comp_coreC (RR := fun acc C => compPost (model W.prog W.w) A (E.p R F) none (Post W env outer (VR W) R F Q) acc C) hone hpush hkind itr I size turn k init S1 r1 fun acc C s' he => ?_
  obtain ⟨F', mem', D, m', rfl, i', oC, S', q⟩ := he
  refine ⟨m', (S'.z.outs _ (.head _)).1, fun h' hs' => ⟨F', .ref D, l1, mem', i1.trans i', .ref D, ⟨S'.dis, S'.z.dropOut (t := s'.toks) oC hs'⟩, q⟩⟩
theorem comp_mapC {elt target : PySem.Expr} {ifs : List PySem.Expr} {scope : Scope} {cl : List (Str × Addr)} {tn : Str} {x : V} {Q : V → Loc → Mem → Prop} {mem₀ : Mem} {item : Nat → Mem → Option (Option V)}
    (hi : Itr W A target x mem mem₀ item) (items : List V) (hit : ∀ m i, Sub mem₀ m → i ≤ items.length → item i m = some items[i]?) (hz : items.length ≤ sizeLine) (g : V → Option V)
    (turn : ∀ (C : Addr) (outer' : Outs) (i : Nat) (v : V) (m : Mem) (u : Option V), items[i]? = some v → Sub mem₀ m → m (C + 1) = some (.cell u) → mem₀ (C + 1) = none → Asg W A (compEnvC scope ((tn, C + 1) :: cl) C env) outer' target v [] m (fun l m => CompTurn W A (compEnvC scope ((tn, C + 1) :: cl) C env) outer' ifs elt l m (fun y m => y = g v ∧ Sub mem₀ m ∧ ∃ u, m (C + 1) = some (.cell u))) Ex.no)
    (h : ∀ D, mem₀ D = none → Q (.ref D) loc (mset mem₀ D (.list (items.filterMap g)))) : CompOkC W A env elt target ifs scope cl loc mem tn x Q := .mk (item) (mem₀) (hi)
  (fun c k i ys m => (k + i = items.length ∧ ys = (items.take i).filterMap g ∧ Sub mem₀ m) ∧ (∃ u, m c = some (.cell u)) ∧ mem₀ c = none)
  (fun c k i ys m hI => by
    obtain ⟨⟨h1, rfl, _⟩, _⟩ := hI
    refine Nat.le_trans (List.length_filterMap_le _ _) (Nat.le_trans ?_ hz)
    rw [List.length_take]; exact Nat.min_le_right _ _)
  (fun C outer' k i ys m l hI => by
    obtain ⟨⟨h1, rfl, hs⟩, ⟨u, hu⟩, hc0⟩ := hI
    have e := hit m i hs (by omega)
    refine ⟨by rw [e]; exact fun q => (nomatch q), fun q D hD => ?_, fun v q => ?_⟩
    · rw [e] at q
      have hn : items[i]? = none := Option.some.inj q
      rw [List.getElem?_eq_none_iff] at hn
      have hD0 : mem₀ D = none := by
        cases z : mem₀ D with
        | none => rfl
        | some y => rw [hs D y z] at hD; cases hD
      refine ⟨_, fun a y hy => ?_, h D hD0⟩
      unfold mset at hy ⊢
      split at hy
      · rename_i z; rw [if_pos z, List.take_of_length_le hn]; exact hy
      · rename_i z; rw [if_neg z]; exact hs a y hy
    · rw [e] at q
      have hv : items[i]? = some v := Option.some.inj q
      have hlt : i < items.length := by rw [List.getElem?_eq_some_iff] at hv; exact hv.1
      have tk : (items.take (i + 1)).filterMap g = (items.take i).filterMap g ++ (match g v with | some y => [y] | none => []) := by
        have hget : items[i] = v := by rw [List.getElem?_eq_getElem hlt] at hv; exact Option.some.inj hv
        rw [List.take_succ_eq_append_getElem hlt, List.filterMap_append, hget]
        cases hg : g v with
        | none => simp [hg]
        | some y => simp [hg]
      have t := turn C outer' i v m u hv hs hu hc0
      refine Op.locs (loc' := []) rfl ?_
      refine fun R F s vs S r => wpAny_mono (t R F s vs S r) (fun _ s' ⟨F', x, l', m', a, b, c, d⟩ => ⟨F', x, l', m', a, b, c, ?_⟩) fun _ _ e => e
      have fin : ∀ y (m'' : Mem), (y = g v ∧ Sub mem₀ m'' ∧ ∃ u, m'' (C + 1) = some (.cell u)) → (match y with
          | some y => ∃ k', k' < k ∧ (k' + (i + 1) = items.length ∧ (items.take i).filterMap g ++ [y] = (items.take (i + 1)).filterMap g ∧ Sub mem₀ m'') ∧ (∃ u, m'' (C + 1) = some (.cell u)) ∧ mem₀ (C + 1) = none
          | none => ∃ k', k' < k ∧ (k' + (i + 1) = items.length ∧ (items.take i).filterMap g = (items.take (i + 1)).filterMap g ∧ Sub mem₀ m'') ∧ (∃ u, m'' (C + 1) = some (.cell u)) ∧ mem₀ (C + 1) = none) := fun y m'' ⟨h2, h3, h4⟩ => by
        rw [tk, ← h2]
        cases y with
        | some y => exact ⟨k - 1, by omega, ⟨by omega, rfl, h3⟩, h4, hc0⟩
        | none => exact ⟨k - 1, by omega, ⟨by omega, by simp, h3⟩, h4, hc0⟩
      match ifs, d with
      | [], d => exact Tr.mono d fun y l m q => fin (some y) m q
      | [c], d => exact Tr.mono d fun b l m q => ⟨fun hb => Tr.mono (q.1 hb) fun y l m q => fin (some y) m q, fun hb => fin none m (q.2 hb)⟩
      | _ :: _ :: _, d => exact d)
  (items.length)
  (fun c m' h0 h1 hf => ⟨⟨rfl, by simp, fun b x e => by rw [hf b (fun q => by rw [q, h0] at e; cases e)]; exact e⟩, ⟨none, h1⟩, h0⟩)
theorem in_tupS {x : Str} {ys : List Str} {Q : V → Loc → Mem → Prop} (h : Q (.bool (decide (x ∈ ys))) loc mem) : OpV W A env outer (fun | [x, y] => compareOp .In x y | _ => pure .none) [.str x, .tup (vStr ys)] loc mem Q E := op2 fun R F s x' v' S r1 r2 => by
  cases r1.view
  cases r2.view with
  | @tup a vs n fa q =>
    refine in_tuple_strs (items := vs) (t := a) ⟨_, S.frz _ _ fa, rfl, n, rfl⟩ q.strs ?_
    have : (ys.any fun z => z == x) = decide (x ∈ ys) := by
      rw [Bool.eq_iff_iff, List.any_eq_true, decide_eq_true_iff]
      exact ⟨fun ⟨z, hz, e⟩ => (beq_iff_eq.mp e) ▸ hz, fun h => ⟨x, h, beq_self_eq_true x⟩⟩
    rw [this]
    exact Post.mk (.bool _) S h
end
end Mine
end
section
set_option autoImplicit false
namespace Mine
section
variable {prog : Program} {w : World} {A : Around} {E : Value → Shared → Prop} {s : Shared} {I : Addr}
end
end Mine
end
section
set_option autoImplicit false
namespace Mine
section
variable {prog : Program} {w : World} {A : Around} {E : Value → Shared → Prop} {s : Shared}
end
end Mine
end
section
set_option autoImplicit false
namespace Mine
section
variable {prog : Program} {w : World} {A : Around} {E : Value → Shared → Prop} {s : Shared}
end
section
variable {W : Wd} {A : Around} {env : Env} {outer : Outs} {loc : Loc} {mem R : Mem} {E : Ex W} {F : Frz} {s : Shared}
end
end Mine
end
section
set_option autoImplicit false
namespace Mine
section
variable {W : Wd} {A : Around} {env : Env} {outer : Outs} {loc : Loc} {mem R : Mem} {E : Ex W} {F : Frz} {s : Shared}
end
end Mine
end
section
set_option autoImplicit false
namespace Mine
theorem risingS_pw : ∀ (l : List Str) (p : Str), risingS p l = true → (p :: l).Pairwise fun a b => a.cps.toList ≤ b.cps.toList
  | [], p, _ => by simp
  | x :: r, p, h => by
    have h : (!Spec.ltCps x.cps.toList p.cps.toList && risingS x r) = true := h
    rw [Bool.and_eq_true] at h
    have h1 : ¬ x.cps.toList < p.cps.toList := by
      have := h.1
      rw [ltCps_eq] at this
      simpa using this
    have ih := risingS_pw r x h.2
    refine List.pairwise_cons.mpr ⟨fun y hy => ?_, ih⟩
    rcases List.mem_cons.mp hy with rfl | hm
    · exact h1
    · exact List.le_trans h1 ((List.pairwise_cons.mp ih).1 y hm)
theorem sortedS_pw {l : List Str} (h : sortedS l = true) : l.Pairwise fun a b => a.cps.toList ≤ b.cps.toList := by
  cases l with
  | nil => exact .nil
  | cons x r => exact risingS_pw r x h
theorem sorted_unique {a b : List Str} (ha : sortedS a = true) (hb : sortedS b = true) (hp : a.Perm b) : a = b := by
  refine List.Perm.eq_of_pairwise (le := fun a b : Str => a.cps.toList ≤ b.cps.toList) (fun x y _ _ h1 h2 => ?_) (sortedS_pw ha) (sortedS_pw hb) hp
  have := List.le_antisymm h1 h2
  cases x; cases y
  exact congrArg Str.mk (Array.toList_inj.mp this)
section
variable {W : Wd} {A : Around} {env : Env} {outer : Outs} {loc : Loc} {mem : Mem} {E : Ex W}
theorem ne_lists {v u : V} {xs ys : List V} {n : Nat} {Q : V → Loc → Mem → Prop} (q : Sq mem v "list" xs) (q' : Sq mem u "list" ys) (hx : xs.all (isD n) = true) (hy : ys.all (isD n) = true) (hn : n < 64) (hu : A.units + 65 < cLine) (h : ∀ b : Bool, (b = true ↔ xs = ys) → Q (.bool (!b)) loc mem) :
    OpV W A env outer (fun | [x, y] => compareOp .NotEq x y | _ => pure .none) [v, u] loc mem Q E := op2 fun R F s v' u' S r1 r2 => by
  obtain ⟨as, ra⟩ := q.reads hx S r1
  obtain ⟨bs, rb⟩ := q'.reads hy S r2
  have hx' : isD (n + 1) (.lst xs) = true := hx
  have hy' : isD (n + 1) (.lst ys) = true := hy
  have e := same_iff hx' hy'
  rw [show (V.lst xs = V.lst ys) = (xs = ys) by simp] at e
  exact ne_dataH_same ra rb (isD_shaped hx' (by omega)) (isD_shaped hy' (by omega)) (by omega) (isD_noMix hx' hy') (Post.mk (.bool _) S (h _ e))
end
end Mine
end
section
set_option autoImplicit false
namespace Mine
theorem abc_sorted (p : Str → Bool) : sortedS (ABC.filter p) = true ∧ ∀ y ∈ ABC.filter p, PyData.strOk y = true := by
  have h : ∀ a b c : Bool, sortedS ((if a then [("a" : Str)] else []) ++ ((if b then [("b" : Str)] else []) ++ (if c then [("c" : Str)] else []))) = true := by decide +kernel
  refine ⟨?_, fun y hy => sy_ok _ (sy_facts.1 _ (List.mem_filter.mp hy).1).1⟩
  have e : ABC.filter p = (if p "a" then [("a" : Str)] else []) ++ ((if p "b" then [("b" : Str)] else []) ++ (if p "c" then [("c" : Str)] else [])) := by
    unfold ABC
    rw [List.filter_cons, List.filter_cons, List.filter_cons, List.filter_nil]
    cases p "a" <;> cases p "b" <;> cases p "c" <;> rfl
  rw [e]; exact h _ _ _
noncomputable def spG (D : List Rule) : V → Option V
  | .str t => if !(D.any fun r => decide (t ∈ r.2)) then some (.str t) else none
  | _ => none
theorem spG_map (D : List Rule) : (vStrs ABC).filterMap (spG D) = vStrs (spareOf D) := by
  unfold spareOf
  generalize ABC = l
  unfold vStrs
  induction l with
  | nil => rfl
  | cons t l ih =>
    rw [List.map_cons, List.filterMap_cons, List.filter_cons]
    rw [show spG D (.str t) = if !(D.any fun r => decide (t ∈ r.2)) then some (V.str t) else none from rfl]
    cases !(D.any fun r => decide (t ∈ r.2)) with
    | true => exact congrArg (V.str t :: ·) ih
    | false => exact ih
noncomputable def hasG (t : Str) : V → Option V
  | .tup [.str _, .tup ys] => some (.bool (ys.any fun v => match v with | .str s => decide (s = t) | _ => false))
  | _ => none
theorem hasG_rule (t : Str) (r : Rule) : hasG t (ruleV r) = some (.bool (decide (t ∈ r.2))) := by
  show some (V.bool ((vStrs r.2).any _)) = _
  unfold vStrs
  rw [List.any_map]
  refine congrArg (fun b => some (V.bool b)) ?_
  rw [Bool.eq_iff_iff, List.any_eq_true, decide_eq_true_iff]
  exact ⟨fun ⟨x, hx, e⟩ => (of_decide_eq_true e) ▸ hx, fun h => ⟨t, h, decide_eq_true rfl⟩⟩
theorem hasG_map (t : Str) (D : List Rule) : (D.map ruleV).filterMap (hasG t) = (D.map fun r => decide (t ∈ r.2)).map V.bool := by
  induction D with
  | nil => rfl
  | cons r D ih => rw [List.map_cons, List.filterMap_cons, hasG_rule]; exact congrArg (V.bool _ :: ·) ih
section
variable {W : Wd} {A : Around} {env : Env} {outer : Outs} {loc : Loc} {mem : Mem} {E : Ex W}
theorem law_d {L : Addr} {R : List Rule} {m : Mem} {Q : Fl → Loc → Mem → Prop} (hK : W.K = hdK W.w.params) (B : BmIs W) (cd : Calm A 310 2000) (hf : Fits A (lwE L) outer) (I : LawP R) (hg : Gd ABC R ssS)
    (c : CE L R none m) (h : ∀ m, CE L R (some (.lst (vStrs (spareOf (dueL R))))) m → TrS W A (lwE L) outer (execs (tryB.drop 4) (lwE L)) [] m Q E) :
    TrS W A (lwE L) outer (execs (tryB.drop 1) (lwE L)) [] m Q E := by
  obtain ⟨c1, c2, c3, T0⟩ := id c
  have G := I.gD hg
  have hu : A.units + 64 < cLine := Nat.lt_of_le_of_lt (Nat.add_le_add_right cd.units 64) (by decide)
  refine s_cons ?_; refine s_assign rfl ?_; refine c_meth rfl ?_; refine c_name rfl ?_; refine e_topG rfl rfl rfl rfl (by rw [hK]; rfl) ?_; refine c_top (by rw [hK]; rfl) rfl rfl ?_; refine a_cons rfl ?_; refine   e_cell rfl rfl rfl rfl     (by       first       | assumption       | simp [mset_self])     ?_; refine a_cons rfl ?_; refine e_list ?_; refine a_cons rfl ?_; refine e_str ?_; refine a_cons rfl ?_; refine e_str ?_; refine a_cons rfl ?_; refine e_str ?_; refine a_nil ?_
  refine new_lst (xs := vStrs ABC) (show 3 ≤ sizeLine by decide) ?_
  refine a_nil ?_
  refine gram_spec hK (cd.mono (by decide) (by decide)) hf G.gr (let ⟨r, hr, e⟩ := G.has; ⟨r, hr, e⟩) (fun a gm up GM dis => ?_)
  obtain ⟨adr, cc, M, ok, ea⟩ := GM
  have r : Rd adr (gOf ABC up (dueL R)) (mun gm m) := (GOk.rd M ok).mono fun b x e => mun_l e
  have s1 : Sub m (mun gm m) := fun b x e => by
    rw [mun_r]
    · exact e
    · cases q : gm b with
      | none => rfl
      | some y => have := dis _ _ q; rw [e] at this; cases this
  rw [← ea]
  generalize mun gm m = m1 at *
  clear dis M ok
  obtain ⟨epd, hd⟩ := r.dict
  have hx := r.self
  skip
  refine m_own0 (.own hx hd) (by rw [hK]; first | rfl | kernel_rfl | decide +kernel) (by rw [hK]; first | rfl | kernel_rfl | decide +kernel) (by rw [hK]; first | rfl | kernel_rfl | decide +kernel) rfl (by rw [hK]; first | rfl | kernel_rfl | decide +kernel) ?_
  refine idle_spec hK (cd.mono (by decide) (by decide)) r G.tnod (G.iwf (up := up)).tz (fun q hq => ?_) ?_
  · have := (G.inv up).len.2.1 q.1 q.2 (lookup_at G.tnod hq)
    have := G.hz
    omega
  rw [show idleOf (gOf ABC up (dueL R)) = spareOf (dueL R) from I.idle up hg]
  refine Op.memS s1 ?_
  refine st_local rfl rfl ?_
  refine s_cons ?_
  refine Tr.locs (loc' := [("idle", V.lst (vStrs (spareOf (dueL R))))]) rfl ?_
  refine s_assign rfl (Tr.shift ?_)
  refine e_listcompC (cl := [(("due" : Str), L + 2)]) (tn := "t") rfl (fun k => rfl) (fun h => rfl) rfl (by decide) (fun _ => rfl) ?_
  refine e_list ?_; refine a_cons rfl ?_; refine e_str ?_; refine a_cons rfl ?_; refine e_str ?_; refine a_cons rfl ?_; refine e_str ?_; refine a_nil ?_
  refine new_lst (xs := vStrs ABC) (show 3 ≤ sizeLine by decide) ?_
  refine comp_mapC (itr_lst cd.handled) (vStrs ABC) (fun m i hs hi => rfl) (show 3 ≤ sizeLine by decide) (spG (dueL R)) ?_ ?_
  · intro C outer' i v m3 u hv s3 hu3 hc0
    obtain ⟨t, ht, rfl⟩ := List.mem_map.mp (List.mem_of_getElem? hv)
    have hL2 : mset m3 (C + 1) (.cell (some (.str t))) (L + 2) = some (.cell (some (.lst ((dueL R).map ruleV)))) := by
      rw [mset_ne (nex c2 hc0)]; exact s3 _ _ c2
    have s4 : Sub m (mset m3 (C + 1) (.cell (some (.str t)))) := fun b x e => by
      rw [mset_ne (nex e hc0)]; exact s3 b x e
    have hC1 : mset m3 (C + 1) (.cell (some (.str t))) (C + 1) = some (.cell (some (.str t))) := mset_self _ _ _
    refine asg_name ?_; refine   st_cell rfl rfl rfl     (by       first       | assumption       | simp [mset_self])     ?_; refine b_not ?_; refine b_value rfl ?_; refine c_name rfl ?_; refine e_boot rfl rfl rfl rfl rfl (by rw [hK]; rfl) rfl (by decide) ?_; refine c_builtin rfl rfl ?_; refine a_cons rfl ?_; refine e_listcomp rfl (by decide) rfl (by decide) (fun _ => rfl) ?_; refine   e_cell rfl rfl rfl rfl     (by       first       | assumption       | simp [mset_self])     ?_
    generalize mset m3 (C + 1) (.cell (some (.str t))) = m4 at *
    skip
    refine comp_map (itr_lst cd.handled) ((dueL R).map ruleV) (fun m i hs hi => rfl) (by rw [List.length_map]; exact Nat.le_trans G.hz (by decide)) (hasG t) ?_ ?_
    · intro C2 outer2 j v hv
      obtain ⟨r, hr, rfl⟩ := List.mem_map.mp (List.mem_of_getElem? hv)
      refine   asg_tuple     (by       first       | assumption       | exact Calm.handled (by assumption))     rfl rfl ?_; refine asg_name ?_; refine st_local rfl rfl ?_; refine asg_name ?_; refine st_local rfl rfl ?_; refine e_cmp rfl ?_; refine   e_cell rfl rfl rfl rfl     (by       first       | assumption       | simp [mset_self])     ?_; refine e_local rfl rfl rfl rfl ?_
      refine in_tupS ?_
      exact ⟨by rw [hasG_rule], sub_refl _⟩
    · intro D2 hD2
      rw [hasG_map]
      have s5 : Sub m4 (mset m4 D2 (.list (((dueL R).map fun r => decide (t ∈ r.2)).map V.bool))) := sub_mset hD2 (sub_refl _)
      refine a_nil ?_
      refine any_bools cd.handled (.own (mset_self _ _ _)) ?_
      refine Op.memS s5 ?_
      have hb : ((dueL R).map fun r => decide (t ∈ r.2)).any id = (dueL R).any fun r => decide (t ∈ r.2) := by rw [List.any_map]; rfl
      rw [hb, show spG (dueL R) (.str t) = if !((dueL R).any fun r => decide (t ∈ r.2)) then some (V.str t) else none from rfl]
      refine tr_bool ?_
      refine ⟨fun hb => ?_, fun hb => ?_⟩
      · refine   e_cell rfl rfl rfl rfl     (by       first       | assumption       | simp [mset_self])     ?_
        exact ⟨by rw [if_pos hb], s4, _, hC1⟩
      · exact ⟨by rw [if_neg (by rw [hb]; exact Bool.false_ne_true)], s4, _, hC1⟩
  · intro D hD
    rw [spG_map]
    refine ⟨_, m, Shift.lst (mset_self _ _ _) (sub_mset hD (sub_refl _)) hD, ?_⟩
    refine s_cell4 (hk := rfl) (hl := rfl) (hc := rfl) c3 (fun m3 r3 f3 => ?_)
    have n1 : L + 1 ≠ L + 3 := by intro e; exact absurd e (Nat.ne_of_lt (by omega))
    have n2 : L + 2 ≠ L + 3 := by intro e; exact absurd e (Nat.ne_of_lt (by omega))
    have k3 : CE L R (some (.lst (vStrs (spareOf (dueL R))))) m3 := ⟨(f3 _ n1).trans c1, (f3 _ n2).trans c2, r3, T0.mono fun b o e => (f3 _ (nex e c3)).trans e⟩
    refine s_cons ?_; refine s_if ?_; refine b_cmp rfl ?_; refine c_name rfl ?_; refine e_boot rfl rfl rfl rfl rfl (by rw [hK]; rfl) rfl (by decide) ?_; refine c_builtin rfl rfl ?_; refine a_cons rfl ?_; refine e_local rfl rfl rfl rfl ?_; refine a_nil ?_
    obtain ⟨so, sk⟩ := abc_sorted fun t => !((dueL R).any fun r => decide (t ∈ r.2))
    have so : sortedS (spareOf (dueL R)) = true := so
    have sk : ∀ y ∈ spareOf (dueL R), PyData.strOk y = true := sk
    have sz : (spareOf (dueL R)).length ≤ 3 := List.length_filter_le _ _
    generalize hsp : spareOf (dueL R) = sp at *
    refine sorted_strs (ss := sp) (.lst _) (by omega) (fun D3 ss' hD3 hp hs' => ?_)
    obtain rfl : ss' = sp := sorted_unique hs' so hp
    obtain ⟨M4, hM4⟩ : ∃ M4, M4 = mset m3 D3 (.list (ss'.map .str)) := ⟨_, rfl⟩
    have s4 : Sub m3 M4 := by rw [hM4]; exact sub_mset hD3 (sub_refl _)
    have hD4 : M4 D3 = some (.list (vStrs ss')) := by rw [hM4, mset_self]; rfl
    rw [← hM4]
    have r4 := s4 _ _ r3
    refine   e_cell rfl rfl rfl rfl     (by       first       | assumption       | simp [mset_self])     ?_
    refine ne_lists (n := 0) (.own hD4) (.lst _) (isD_strs (List.all_eq_true.mpr sk)) (isD_strs (List.all_eq_true.mpr sk)) (by decide) (Nat.lt_of_le_of_lt (Nat.add_le_add_right cd.units 65) (by decide)) (fun b hb => ?_)
    rw [hb.mpr rfl]
    refine tr_bool ?_
    refine only_f ?_
    refine s_nil ?_
    refine Tr.locs (loc' := []) rfl ?_
    refine Tr.memS s4 ?_
    exact h m3 k3
end
end Mine
end
section
set_option autoImplicit false
namespace Mine
noncomputable def usG (sp : List Str) : V → Option V
  | .str t => if !decide (t ∈ sp) then some (.str t) else none
  | _ => none
theorem usG_map (D : List Rule) : (vStrs ABC).filterMap (usG (spareOf D)) = vStrs (usedOf D) := by
  unfold usedOf
  generalize ABC = l
  generalize spareOf D = sp
  unfold vStrs
  induction l with
  | nil => rfl
  | cons t l ih =>
    rw [List.map_cons, List.filterMap_cons, List.filter_cons]
    rw [show usG sp (.str t) = if !decide (t ∈ sp) then some (V.str t) else none from rfl]
    cases !decide (t ∈ sp) with
    | true => exact congrArg (V.str t :: ·) ih
    | false => exact ih
theorem RG.nolen {ts : List Str} {R : List Rule} {up : V} (G : RG ts R) : ∀ q ∈ (gOf ts up R).no, q.2.length ≤ 1000 := fun q hq => by
  have hq : q ∈ pushL (madeG ts up R).no ssS 0 := hq
  obtain ⟨q', hq', rfl⟩ := List.mem_map.mp hq
  have h1 := (G.inv up).len.2.2 q'.1 q'.2 (lookup_at (G.inv up).nod hq')
  have := G.hz
  split
  · show (q'.2 ++ [(0 : Int)]).length ≤ 1000
    rw [List.length_append, List.length_singleton]; omega
  · show q'.2.length ≤ 1000; omega
section
variable {W : Wd} {A : Around} {env : Env} {outer : Outs} {loc : Loc} {mem : Mem} {E : Ex W}
theorem law_e {L : Addr} {R : List Rule} {m : Mem} {Q : Fl → Loc → Mem → Prop} (hK : W.K = hdK W.w.params) (B : BmIs W) (cd : Calm A 310 2000) (hf : Fits A (lwE L) outer) (I : LawP R) (hg : Gd ABC R ssS)
    (c : CE L R (some (.lst (vStrs (spareOf (dueL R))))) m) (h : ∀ l m adr up, Rd adr (gOf (usedOf (dueL R)) up (dueL R)) m → CodeT aTab mkPos mkQual m → LSub [("last", .ref (adr .self))] l → Q .next l m) :
    TrS W A (lwE L) outer (execs (tryB.drop 4) (lwE L)) [] m Q E := by
  obtain ⟨c1, c2, c3, T0⟩ := id c
  have G := I.gU hg
  have sk : ∀ y ∈ spareOf (dueL R), PyData.strOk y = true := fun y hy => sy_ok _ (sy_facts.1 _ (List.mem_filter.mp hy).1).1
  refine s_cons ?_
  refine s_assign rfl ?_
  refine c_name rfl ?_
  refine e_topG rfl rfl rfl rfl (by rw [hK]; rfl) ?_
  refine c_top (by rw [hK]; rfl) rfl rfl ?_
  refine a_cons rfl ?_
  refine   e_cell rfl rfl rfl rfl     (by       first       | assumption       | simp [mset_self])     ?_
  refine a_cons rfl ?_
  refine Tr.shift ?_
  refine e_listcomp rfl (by decide) rfl (by decide) (fun _ => rfl) ?_; refine e_list ?_; refine a_cons rfl ?_; refine e_str ?_; refine a_cons rfl ?_; refine e_str ?_; refine a_cons rfl ?_; refine e_str ?_; refine a_nil ?_
  refine new_lst (xs := vStrs ABC) (show 3 ≤ sizeLine by decide) ?_
  refine comp_map (itr_lst cd.handled) (vStrs ABC) (fun m i hs hi => rfl) (show 3 ≤ sizeLine by decide) (usG (spareOf (dueL R))) ?_ ?_
  · intro C outer' i v hv
    obtain ⟨t, ht, rfl⟩ := List.mem_map.mp (List.mem_of_getElem? hv)
    refine asg_name ?_; refine st_local rfl rfl ?_; refine b_cmp rfl ?_; refine e_local rfl rfl rfl rfl ?_; refine   e_cell rfl rfl rfl rfl     (by       first       | assumption       | simp [mset_self])     ?_
    refine notin_strs (.lst _) (sy_ok _ (sy_facts.1 _ ht).1) sk (Nat.lt_of_le_of_lt (Nat.add_le_add_right cd.units 65) (by decide)) ?_
    refine tr_bool ?_
    rw [show usG (spareOf (dueL R)) (.str t) = if !decide (t ∈ spareOf (dueL R)) then some (V.str t) else none from rfl]
    refine ⟨fun hb => ?_, fun hb => ?_⟩
    · refine e_local rfl rfl rfl rfl ?_
      exact ⟨by rw [if_pos hb], sub_refl _⟩
    · exact ⟨by rw [if_neg (by rw [hb]; exact Bool.false_ne_true)], sub_refl _⟩
  · intro D hD
    rw [usG_map]
    refine ⟨_, m, Shift.lst (mset_self _ _ _) (sub_mset hD (sub_refl _)) hD, ?_⟩
    refine a_nil ?_
    refine gram_spec hK (cd.mono (by decide) (by decide)) hf G.gr (let ⟨r, hr, e⟩ := G.has; ⟨r, hr, e⟩) (fun a gm up GM dis => ?_)
    obtain ⟨adr, cc, M, ok, ea⟩ := GM
    have r : Rd adr (gOf (usedOf (dueL R)) up (dueL R)) (mun gm m) := (GOk.rd M ok).mono fun b x e => mun_l e
    have s1 : Sub m (mun gm m) := fun b x e => by
      rw [mun_r]
      · exact e
      · cases q : gm b with
        | none => rfl
        | some y => have := dis _ _ q; rw [e] at this; cases this
    rw [← ea]
    refine st_local rfl rfl ?_; refine s_nil ?_
    exact h _ _ adr up r (T0.mono fun b o e => s1 _ _ e) rfl
theorem empties_isD : isD 3 (.lst [.lst [], .lst [], .lst [], .lst [], .lst []]) = true := rfl
theorem law_f {L : Addr} {R : List Rule} {m : Mem} {adr : Rl → Addr} {up : V} {Q : Fl → Loc → Mem → Prop} (hK : W.K = hdK W.w.params) (B : BmIs W) (cd : Calm A 310 2000) (hf : Fits A (lwE L) outer) (I : LawP R) (hg : Gd ABC R ssS)
    (r : Rd adr (gOf (usedOf (dueL R)) up (dueL R)) m) (T0 : CodeT aTab mkPos mkQual m) (hq : ∀ l m, CodeT aTab mkPos mkQual m → Q (.ret (.bool true)) l m) :
    TrS W A (lwE L) outer (execs (lLaw.body.drop 6) (lwE L)) [("last", .ref (adr .self))] m Q E := by
  have G := I.gU hg
  have P := I.last up hg
  obtain ⟨epd, hd⟩ := r.dict
  have hx := r.self
  refine s_cons ?_; refine s_assign rfl ?_; refine e_list ?_; refine a_cons rfl ?_; refine c_meth rfl ?_; refine e_local rfl rfl rfl rfl ?_
  refine m_own0 (.own hx hd) (by rw [hK]; first | rfl | kernel_rfl | decide +kernel) (by rw [hK]; first | rfl | kernel_rfl | decide +kernel) (by rw [hK]; first | rfl | kernel_rfl | decide +kernel) rfl (by rw [hK]; first | rfl | kernel_rfl | decide +kernel) ?_
  refine unreach_spec hK B (cd.mono (by decide) (by decide)) r G.uwf (p0_of _ up _) rfl sy_facts.2.2.2.2.2.2.2.2 (by decide) (G.iwf).nz T0 (fun T m2 hT off2 T2 => ?_)
  have e1 : (((gOf (usedOf (dueL R)) up (dueL R)).no.map (·.1)).filter fun x => !T x) = [] := by
    rw [List.filter_eq_nil_iff]
    intro n hn
    rw [(hT n).mpr (P.reach n hn)]; exact Bool.false_ne_true
  rw [e1]
  have hTab : ∃ ps, m aTab = some (.raw (tabObj ps)) := by
    cases T0 with
    | fresh a => exact ⟨_, a⟩
    | made c' oc a b d => exact ⟨_, a⟩
  obtain ⟨ps, hTab⟩ := hTab
  have r2 := r.off hTab off2
  have hx2 := r2.self
  obtain ⟨epd2, hd2⟩ := r2.dict
  refine a_cons rfl ?_; refine c_meth rfl ?_; refine e_local rfl rfl rfl rfl ?_
  refine m_own0 (.own hx2 hd2) (by rw [hK]; first | rfl | kernel_rfl | decide +kernel) (by rw [hK]; first | rfl | kernel_rfl | decide +kernel) (by rw [hK]; first | rfl | kernel_rfl | decide +kernel) rfl (by rw [hK]; first | rfl | kernel_rfl | decide +kernel) ?_
  refine inf_spec hK (cd.mono (by decide) (by decide)) r2 G.iwf (fun T3 hT3 => ?_)
  have e2 : infF (gOf (usedOf (dueL R)) up (dueL R)) T3 (kK (gOf (usedOf (dueL R)) up (dueL R))) = [] := by
    unfold infF
    rw [List.filter_eq_nil_iff]
    intro n hn
    rw [decide_eq_true ((hT3 n).mpr (P.ends n hn))]; exact Bool.false_ne_true
  rw [e2]
  refine a_cons rfl ?_; refine c_meth rfl ?_; refine e_local rfl rfl rfl rfl ?_
  refine m_own0 (.own hx2 hd2) (by rw [hK]; first | rfl | kernel_rfl | decide +kernel) (by rw [hK]; first | rfl | kernel_rfl | decide +kernel) (by rw [hK]; first | rfl | kernel_rfl | decide +kernel) rfl (by rw [hK]; first | rfl | kernel_rfl | decide +kernel) ?_
  refine undef_spec hK (cd.mono (by decide) (by decide)) r2 G.top G.top_len.1 G.top_len.2 ?_
  rw [P.und]
  refine a_nil ?_
  refine new_lst (xs := [.lst [], .lst [], .lst []]) (show 3 ≤ sizeLine by decide) ?_
  refine st_local rfl rfl ?_; refine s_cons ?_; refine s_ret ?_; refine e_cmp rfl ?_; refine e_binop ?_; refine e_local rfl rfl rfl rfl ?_; refine e_list ?_; refine a_cons rfl ?_; refine c_meth rfl ?_; refine e_local rfl rfl rfl rfl ?_
  refine m_own0 (.own hx2 hd2) (by rw [hK]; first | rfl | kernel_rfl | decide +kernel) (by rw [hK]; first | rfl | kernel_rfl | decide +kernel) (by rw [hK]; first | rfl | kernel_rfl | decide +kernel) rfl (by rw [hK]; first | rfl | kernel_rfl | decide +kernel) ?_
  refine idle_spec hK (cd.mono (by decide) (by decide)) r2 G.tnod (G.iwf (up := up)).tz (fun q hq => ?_) ?_
  · have := (G.inv up).len.2.1 q.1 q.2 (lookup_at G.tnod hq)
    have := G.hz
    omega
  rw [show idleOf (gOf (usedOf (dueL R)) up (dueL R)) = [] from P.idle]
  refine a_cons rfl ?_; refine c_meth rfl ?_; refine e_local rfl rfl rfl rfl ?_
  refine m_own0 (.own hx2 hd2) (by rw [hK]; first | rfl | kernel_rfl | decide +kernel) (by rw [hK]; first | rfl | kernel_rfl | decide +kernel) (by rw [hK]; first | rfl | kernel_rfl | decide +kernel) rfl (by rw [hK]; first | rfl | kernel_rfl | decide +kernel) ?_
  refine alone_spec hK (cd.mono (by decide) (by decide)) r2 G.nod (G.iwf (up := up)).nz (fun q hq => Nat.le_trans (G.nolen q hq) (by decide)) (fun q hq e => absurd e (P.alone q hq)) ?_
  have e5 : aloneF (gOf (usedOf (dueL R)) up (dueL R)) (gOf (usedOf (dueL R)) up (dueL R)).no = [] := by
    unfold aloneF
    rw [List.filterMap_eq_nil_iff]
    intro q hq
    rw [if_neg]
    intro z
    exact P.alone q hq (List.isEmpty_iff.mp z)
  rw [e5]
  refine a_nil ?_
  refine new_lst (xs := [.lst [], .lst []]) (show 2 ≤ sizeLine by decide) ?_
  refine Op.shift ?_
  refine add_own (.lst _) (.lst _) (show 5 ≤ sizeLine by decide) (fun a ha => ?_)
  refine ⟨_, m2, Shift.lst (mset_self _ _ _) (sub_mset ha (sub_refl _)) ha, ?_⟩
  refine e_list ?_; refine a_cons rfl ?_; refine e_list ?_; refine a_nil ?_
  refine new_lst (show 0 ≤ sizeLine by decide) ?_
  refine a_cons rfl ?_; refine e_list ?_; refine a_nil ?_
  refine new_lst (show 0 ≤ sizeLine by decide) ?_
  refine a_cons rfl ?_; refine e_list ?_; refine a_nil ?_
  refine new_lst (show 0 ≤ sizeLine by decide) ?_
  refine a_cons rfl ?_; refine e_list ?_; refine a_nil ?_
  refine new_lst (show 0 ≤ sizeLine by decide) ?_
  refine a_cons rfl ?_; refine e_list ?_; refine a_nil ?_
  refine new_lst (show 0 ≤ sizeLine by decide) ?_
  refine a_nil ?_
  refine new_lst (show 5 ≤ sizeLine by decide) ?_
  refine eq_dd (n := 3) (m := 3) empties_isD empties_isD (by decide) (by decide) (Nat.lt_of_le_of_lt (Nat.add_le_add_right cd.units 64) (by decide)) (fun b hb => ?_)
  rw [hb.mpr rfl]
  exact hq _ _ T2
end
end Mine
end
section
set_option autoImplicit false
namespace Mine
section
variable {W : Wd} {A : Around} {env : Env} {outer : Outs} {loc : Loc} {mem : Mem} {E : Ex W}
theorem law_body {L : Addr} {ns : List Int} {M0 : Mem} (hK : W.K = hdK W.w.params) (B : BmIs W) (cd : Calm A 310 2000) (hf : Fits A (lwE L) outer) (hns : ns.length ≤ 63) (hP : ∀ R, LawR R → LawP R)
    (c1 : M0 (L + 1) = some (.cell none)) (c2 : M0 (L + 2) = some (.cell none)) (c3 : M0 (L + 3) = some (.cell none)) (c4 : M0 aTab = some (.raw (tabObj #[]))) :
    TrS W A (lwE L) outer (execs lLaw.body (lwE L)) [("script", .lst (vInts ns))] M0 (fun f _ m => f = .ret (.bool true) ∧ ∃ ps, m aTab = some (.raw (tabObj ps))) E := by
  have tab : ∀ {m : Mem}, CodeT aTab mkPos mkQual m → ∃ ps, m aTab = some (.raw (tabObj ps)) := fun T => by
    cases T with
    | fresh a => exact ⟨_, a⟩
    | made c' oc a b d => exact ⟨_, a⟩
  refine law_a hK cd hns c1 c2 c3 hP (.fresh c4) (fun R m I c1 c2 c3 T => ?_)
  refine law_b hK B cd hf I c1 c2 c3 T (fun l m T => ⟨rfl, tab T⟩) (fun hg m c1 c2 c3 T => ?_)
  refine s_cons ?_
  refine s_try0 (body := tryB) ?_
  refine law_c hK B cd hf I hg ⟨c1, c2, c3, T⟩ (fun m c => ?_)
  refine law_d hK B cd hf I hg c (fun m c => ?_)
  refine law_e hK B cd hf I hg c (fun l m adr up r T hl => ?_)
  exact Tr.locs hl (law_f hK B cd hf I hg r T (fun l m T => ⟨rfl, tab T⟩))
end
end Mine
end
section
set_option autoImplicit false
namespace Mine
theorem vrs_ints {W : Wd} {F : Frz} {ns : List Int} {vs : List Value} (h : IntsAre vs ns) : VRs W F (vInts ns) vs := by
  induction h with
  | nil => exact .nil
  | cons _ _ _ ih => exact .cons (.int _ _) ih
end Mine
end
section
set_option autoImplicit false
namespace Mine
theorem enterC {prog : Program} {w : World} {K : Frag} {p : Program} {loose : List Str} {mean mean2 : ExcName → Option Value} {mg mb : Str → Option Value} {s₁ : Shared} {h₁ : Heap} {t : Nat} {a cc P L : Addr} {ns : List Int} {vs : List Value} {env : Env} {A : Around} {sts : List Stmt} {o1 o2 o3 : Obj}
    {m : Str → Option Value} {c : ClaimW} {cl : Str → Option Addr} {args : List WData} {E : Value → Shared → Prop}
    (hT : TabsAt [(cc, P)] s₁.heap) (hPm : P ≠ sysModules) (KX : K.In s₁.heap) (hK : noTabs K = true) (T : Top p loose mean mg mb s₁.heap) (hg : s₁.gens = #[]) (hLs : s₁.heap.IsList a vs.toArray) (hI : IntsAre vs ns) (wl : Well w.params s₁.heap (.ref a) (ofPy (.list (ns.map .int)))) (FF : Fr s₁.heap L h₁ m) (hm : m "script" = some (.ref a)) (hL : L = s₁.heap.objs.size) (hL2 : env.locals = L)
    (N : News s₁.heap L h₁ [(L + 1 + 1 + 1, o3), (L + 1 + 1, o2), (L + 1, o1)]) (d1 : o1.data = .cell none) (d2 : o2.data = .cell none) (d3 : o3.data = .cell none)
    (hr : ∀ cls, c.raises args cls = false) (hp : c.post args (.bool true) args = true)
    (h : ∀ W : Wd, W.prog = prog → W.w = w → W.K = K → BmIs W → ∀ M0 : Mem, M0 (L + 1) = some (.cell none) → M0 (L + 2) = some (.cell none) → M0 (L + 3) = some (.cell none) → M0 P = some (.raw (tabObj #[])) →
      TrS W A env [] (execs sts env) [("script", .lst (vInts ns))] M0 (fun f _ m => f = .ret (.bool true) ∧ ∃ ps, m P = some (.raw (tabObj ps))) Ex.no) :
    wpAny (model prog w) A (execs sts env) (fun f s' => GoodW c cl mean2 args { s₁ with heap := ghostOf s₁.heap [(cc, P)] } (.ok (.ret (match f with | .ret v => v | _ => .none))) s' ∧ GrownAll [(cc, P)] s'.heap) E { heap := h₁, gens := s₁.gens, drawn := s₁.drawn, toks := t, os := s₁.os } := by
  have TG := ghost_top hT T
  let W : Wd := { prog := prog, w := w, K := K, hb := ghostOf s₁.heap [(cc, P)], mg := mg, mb := mb, os := s₁.os, p := topProg, loose := _, KIn := ghost_K hT KX hK, top := topRead_of TG, nolim := TG.nolimit }
  have hP := (hT _ (.head _)).2
  have hPL : P < L := by rw [hL]; exact Heap.lt_size hP
  have gsz : (ghostOf s₁.heap [(cc, P)]).objs.size = L := (hideAll_size _ _).trans hL.symm
  have hPg : (ghostOf s₁.heap [(cc, P)]).get? P = none := hideAll_none _ (.head _)
  have n1 := N _ (.tail _ (.tail _ (.head _)))
  have n2 := N _ (.tail _ (.head _))
  have n3 := N _ (.head _)
  obtain ⟨M0, hM0⟩ : ∃ M0 : Mem, M0 = mset (mset (mset (mset (fun _ => none) (L + 1) (.cell none)) (L + 2) (.cell none)) (L + 3) (.cell none)) P (.raw (tabObj #[])) := ⟨_, rfl⟩
  have a12 : L + 1 ≠ L + 2 := by intro e; exact absurd e (Nat.ne_of_lt (by omega))
  have a13 : L + 1 ≠ L + 3 := by intro e; exact absurd e (Nat.ne_of_lt (by omega))
  have a23 : L + 2 ≠ L + 3 := by intro e; exact absurd e (Nat.ne_of_lt (by omega))
  have p1 : L + 1 ≠ P := Nat.ne_of_gt (Nat.lt_of_lt_of_le hPL (Nat.le_add_right _ _))
  have p2 : L + 2 ≠ P := Nat.ne_of_gt (Nat.lt_of_lt_of_le hPL (Nat.le_add_right _ _))
  have p3 : L + 3 ≠ P := Nat.ne_of_gt (Nat.lt_of_lt_of_le hPL (Nat.le_add_right _ _))
  have m1 : M0 (L + 1) = some (.cell none) := by rw [hM0, mset_ne p1, mset_ne a13, mset_ne a12, mset_self]
  have m2 : M0 (L + 2) = some (.cell none) := by rw [hM0, mset_ne p2, mset_ne a23, mset_self]
  have m3 : M0 (L + 3) = some (.cell none) := by rw [hM0, mset_ne p3, mset_self]
  have m4 : M0 P = some (.raw (tabObj #[])) := by rw [hM0, mset_self]
  have inv : ∀ b x, M0 b = some x → (b = P ∧ x = .raw (tabObj #[])) ∨ (b = L + 1 ∧ x = .cell none) ∨ (b = L + 2 ∧ x = .cell none) ∨ (b = L + 3 ∧ x = .cell none) := fun b x e => by
    by_cases q : b = P
    · rw [q, m4] at e; cases e; exact .inl ⟨q, rfl⟩
    · by_cases q3 : b = L + 3
      · rw [q3, m3] at e; cases e; exact .inr (.inr (.inr ⟨q3, rfl⟩))
      · by_cases q2 : b = L + 2
        · rw [q2, m2] at e; cases e; exact .inr (.inr (.inl ⟨q2, rfl⟩))
        · by_cases q1 : b = L + 1
          · rw [q1, m1] at e; cases e; exact .inr (.inl ⟨q1, rfl⟩)
          · rw [hM0, mset_ne q, mset_ne q3, mset_ne q2, mset_ne q1] at e; cases e
  clear hM0
  have gnone : ∀ b x, M0 b = some x → (ghostOf s₁.heap [(cc, P)]).get? b = none := fun b x e => by
    rcases inv b x e with ⟨rfl, _⟩ | ⟨rfl, _⟩ | ⟨rfl, _⟩ | ⟨rfl, _⟩
    · exact hPg
    · exact ghost_fresh n1.2.2
    · exact ghost_fresh n2.2.2
    · exact ghost_fresh n3.2.2
  have Lnone : (ghostOf s₁.heap [(cc, P)]).get? L = none := by rw [← gsz]; exact get?_size _
  have ML : M0 L = none := by
    cases q : M0 L with
    | none => rfl
    | some x =>
      rcases inv L x q with ⟨e, _⟩ | ⟨e, _⟩ | ⟨e, _⟩ | ⟨e, _⟩
      · exact absurd e (Nat.ne_of_gt hPL)
      · exact absurd e (Nat.ne_of_lt (by omega))
      · exact absurd e (Nat.ne_of_lt (by omega))
      · exact absurd e (Nat.ne_of_lt (by omega))
  have cellO : ∀ {F : Frz} {o : Obj}, o.data = .cell none → OR W F (.cell none) o := fun {F o} d => .cell d (fun x e => nomatch e) fun _ => rfl
  have lsV : VR W (fun b o => (ghostOf s₁.heap [(cc, P)]).get? b = some o) (.lst (vInts ns)) (.ref a) := by
    cases wl with
    | list e r =>
      obtain ⟨o, ho, hc, n, hd⟩ := hLs
      rw [e] at ho
      obtain rfl := Option.some.inj ho
      injection hd with hd _
      exact .lst (ghost_get hT e (fun q => by cases q)) (by rw [hd]; exact vrs_ints hI)
  have S : Sim W env [] [("script", .lst (vInts ns))] M0 (fun _ => none) (fun b o => (ghostOf s₁.heap [(cc, P)]).get? b = some o) { heap := h₁, gens := s₁.gens, drawn := s₁.drawn, toks := t, os := s₁.os } := {
    dis := fun a x e => rfl
    z := {
      frz := fun b o e => FF.keep b o (of_hideAll _ e)
      base := fun b o e => e
      memF := fun b o e => by
        show mun M0 _ b = none
        unfold mun
        cases q : M0 b with
        | none => rfl
        | some x => rw [gnone b x q] at e; cases e
      memOk := fun b x e => by
        have e : M0 b = some x := by unfold mun at e; cases q : M0 b with | none => rw [q] at e; cases e | some y => rw [q] at e; exact e
        rcases inv b x e with ⟨rfl, rfl⟩ | ⟨rfl, rfl⟩ | ⟨rfl, rfl⟩ | ⟨rfl, rfl⟩
        · exact ⟨_, FF.keep _ _ hP, .raw⟩
        · exact ⟨_, n1.1, cellO d1⟩
        · exact ⟨_, n2.1, cellO d2⟩
        · exact ⟨_, n3.1, cellO d3⟩
      ns := ⟨m, by rw [hL2]; exact FF.ns, fun x v e => by
        rw [List.lookup_cons] at e
        split at e
        · rename_i q
          cases e
          rw [show x = "script" from by simpa using q]
          exact ⟨_, hm, lsV⟩
        · cases e⟩
      nsF := ⟨fun o e => (by rw [hL2, Lnone] at e; cases e), by show mun M0 _ _ = none; unfold mun; rw [hL2, ML]⟩
      outs := fun q hq => nomatch hq
      low := by rw [hL2]; exact Nat.le_of_eq gsz
      memLow := fun b x e => by
        have e : M0 b = some x := by unfold mun at e; cases q : M0 b with | none => rw [q] at e; cases e | some y => rw [q] at e; exact e
        rcases inv b x e with ⟨rfl, _⟩ | ⟨rfl, _⟩ | ⟨rfl, _⟩ | ⟨rfl, _⟩
        · exact hPm
        · exact notMod (W := W) (Nat.le_trans (Nat.le_of_eq gsz) (Nat.le_add_right _ _))
        · exact notMod (W := W) (Nat.le_trans (Nat.le_of_eq gsz) (Nat.le_add_right _ _))
        · exact notMod (W := W) (Nat.le_trans (Nat.le_of_eq gsz) (Nat.le_add_right _ _))
      gens := hg
      os := rfl } }
  refine wpAny_mono (h W rfl rfl rfl TG.bmain M0 m1 m2 m3 m4 (fun _ => none) _ _ S) (fun f s' q => ?_) fun _ _ e => e.elim
  obtain ⟨F', v, l', m', i, r, S', rfl, ps, hps⟩ := q
  obtain ⟨op, hop, qp⟩ := S'.memOk _ _ hps
  cases qp.view
  cases r with
  | ret r =>
    cases r.view
    exact ⟨⟨.inl ⟨_, .bool true, [], rfl, hr, ReadsW.bool true, hp, fun _ => ⟨List.nodup_nil, fun _ hm => (nomatch hm)⟩⟩, fun b o e => S'.frz b o (i b o e), S'.os, S'.gens⟩, ⟨ps, hop⟩, trivial⟩
end Mine
end
section
set_option autoImplicit false
namespace Mine
theorem mem_ended {R : List Rule} {r : Rule} : r ∈ endedL R ↔ r ∈ R ∧ ∀ y ∈ r.2, Gd ABC R y := by
  unfold endedL
  rw [List.mem_filter, List.all_eq_true]
  exact and_congr_right fun _ => forall_congr' fun y => imp_congr_right fun _ => tf_iff
theorem mem_joined {R : List Rule} {r : Rule} : r ∈ joinedL R ↔ r ∈ R ∧ RchR R ssS r.1 := by
  unfold joinedL
  rw [List.mem_filter, tf_iff]
theorem mem_due {R : List Rule} {r : Rule} : r ∈ dueL R ↔ (r ∈ R ∧ ∀ y ∈ r.2, Gd ABC R y) ∧ RchR (endedL R) ssS r.1 := by
  unfold dueL
  rw [mem_joined, mem_ended]
theorem LawR.rg {R : List Rule} (I : LawR R) : RG ABC R where
  ok := I.ok
  nd := I.nd
  hz := I.hz
  has := let ⟨r, hr, e⟩ := I.has; ⟨r, hr, e.symm⟩
  tnd := sy_facts.2.2.2.2.2.2.1
  tab := fun _ h => h
  tm := fun r hr y hy => sy_facts.2.1 y ((I.ok r hr).body y hy)
theorem RG.filter {ts : List Str} {R : List Rule} (G : RG ts R) (p : Rule → Bool) (h : ∃ r ∈ R.filter p, ssS = r.1) : RG ts (R.filter p) where
  ok := fun r hr => G.ok r (List.mem_filter.mp hr).1
  nd := G.nd.filter p
  hz := Nat.le_trans (List.length_filter_le _ _) G.hz
  has := h
  tnd := G.tnd
  tab := G.tab
  tm := fun r hr => G.tm r (List.mem_filter.mp hr).1
theorem Gd.inv {ts : List Str} {R : List Rule} {x : Str} (h : Gd ts R x) : x ∈ ts ∨ ∃ r ∈ R, r.1 = x ∧ ∀ y ∈ r.2, Gd ts R y := by
  cases h with
  | base h => exact .inl h
  | rule h1 h2 => exact .inr ⟨_, h1, rfl, h2⟩
theorem Gd.mono {ts : List Str} {R R' : List Rule} (hs : ∀ r ∈ R', r ∈ R) {x : Str} (h : Gd ts R' x) : Gd ts R x := by
  induction h with
  | base h => exact .base h
  | rule h1 _ ih => exact .rule (hs _ h1) ih
theorem RchR.mono {R R' : List Rule} (hs : ∀ r ∈ R', r ∈ R) {x y : Str} (h : RchR R' x y) : RchR R x y := by
  induction h with
  | refl s => exact .refl s
  | step h1 h2 _ ih => exact .step (hs _ h1) h2 ih
theorem RchR.snoc {R : List Rule} {a : Str} {r : Rule} {y : Str} (h : RchR R a r.1) (hr : r ∈ R) (hy : y ∈ r.2) : RchR R a y := by
  generalize e : r.1 = x at h
  induction h with
  | refl s => subst e; exact .step hr hy (.refl _)
  | step h1 h2 _ ih => exact .step h1 h2 (ih e)
theorem RchR.last {R : List Rule} {a z : Str} (h : RchR R a z) : z = a ∨ ∃ r ∈ R, z ∈ r.2 := by
  induction h with
  | refl s => exact .inl rfl
  | step h1 h2 _ ih => exact ih.elim (fun e => .inr ⟨_, h1, e ▸ h2⟩) .inr
theorem RchR.first {R : List Rule} {a z : Str} (h : RchR R a z) : z = a ∨ ∃ r ∈ R, r.1 = a := by
  cases h with
  | refl => exact .inl rfl
  | step h1 _ _ => exact .inr ⟨_, h1, rfl⟩
theorem Gd.keep {R D : List Rule} {us : List Str} {X : Str → Prop} (hD : ∀ r ∈ R, (∀ y ∈ r.2, Gd ABC R y) → X r.1 → r ∈ D) (hX : ∀ r ∈ R, (∀ y ∈ r.2, Gd ABC R y) → X r.1 → ∀ y ∈ r.2, X y)
    (hu : ∀ r ∈ D, ∀ y ∈ r.2, y ∈ ABC → y ∈ us) {x : Str} (h : Gd ABC R x) : X x → (x ∈ ABC → x ∈ us) → Gd us D x := by
  induction h with
  | base h => exact fun _ k => .base (k h)
  | @rule r h1 h2 ih =>
    intro hx _
    have hd := hD r h1 h2 hx
    exact .rule hd fun y hy => ih y hy (hX r h1 h2 hx y hy) (hu r hd y hy)
section
variable {R : List Rule}
theorem start_rule (I : LawR R) (hg : Gd ABC R ssS) : ∃ r ∈ R, r.1 = ssS ∧ ∀ y ∈ r.2, Gd ABC R y := by
  rcases hg.inv with h | h
  · exact absurd sy_facts.2.2.2.2.2.2.2.1 (sy_facts.1 _ h).2.1
  · exact h
theorem gd_joined (h : Str → Prop) {x : Str} (hg : Gd ABC R x) (hx : RchR R ssS x) : Gd ABC (joinedL R) x :=
  hg.keep (X := fun x => RchR R ssS x) (us := ABC) (fun r hr _ hx => mem_joined.mpr ⟨hr, hx⟩) (fun r hr _ hx y hy => hx.snoc hr hy) (fun _ _ _ _ h => h) hx id
theorem ended_joined {r : Rule} : r ∈ endedL (joinedL R) ↔ r ∈ endedL R ∧ RchR R ssS r.1 := by
  rw [mem_ended, mem_joined, mem_ended]
  constructor
  · rintro ⟨⟨h1, h2⟩, h3⟩
    exact ⟨⟨h1, fun y hy => (h3 y hy).mono fun r hr => (mem_joined.mp hr).1⟩, h2⟩
  · rintro ⟨⟨h1, h3⟩, h2⟩
    exact ⟨⟨h1, h2⟩, fun y hy => gd_joined (fun _ => True) (h3 y hy) (h2.snoc h1 hy)⟩
theorem rch_joined {x : Str} : RchR (endedL (joinedL R)) ssS x ↔ RchR (endedL R) ssS x := by
  constructor
  · exact fun h => h.mono fun r hr => (ended_joined.mp hr).1
  · have : ∀ a, RchR (endedL R) a x → RchR R ssS a → RchR (endedL (joinedL R)) a x := fun a h => by
      induction h with
      | refl s => exact fun _ => .refl s
      | @step y z r h1 h2 _ ih =>
        intro ha
        exact .step (ended_joined.mpr ⟨h1, ha⟩) h2 (ih (ha.snoc (mem_ended.mp h1).1 h2))
    exact fun h => this _ h (.refl _)
theorem rch_due {x : Str} : RchR (endedL R) ssS x → RchR (dueL R) ssS x := by
  have : ∀ a, RchR (endedL R) a x → RchR (endedL R) ssS a → RchR (dueL R) a x := fun a h => by
    induction h with
    | refl s => exact fun _ => .refl s
    | @step y z r h1 h2 _ ih =>
      intro ha
      exact .step (mem_joined.mpr ⟨h1, ha⟩) h2 (ih (ha.snoc h1 h2))
  exact fun h => this _ h (.refl _)
noncomputable def IsF (R l : List Rule) : Prop := ∃ p : Rule → Bool, l = R.filter p
theorem isF_self (R : List Rule) : IsF R R := ⟨fun _ => true, (List.filter_eq_self.mpr fun _ _ => rfl).symm⟩
theorem isF_filter {R l : List Rule} (h : IsF R l) (q : Rule → Bool) : IsF R (l.filter q) := by
  obtain ⟨p, rfl⟩ := h
  exact ⟨_, List.filter_filter⟩
theorem isF_joined {R l : List Rule} (h : IsF R l) : IsF R (joinedL l) := isF_filter h _
theorem isF_ended {R l : List Rule} (h : IsF R l) : IsF R (endedL l) := isF_filter h _
theorem isF_eq {R l l' : List Rule} (h : IsF R l) (h' : IsF R l') (hm : ∀ r, r ∈ l ↔ r ∈ l') : l = l' := by
  obtain ⟨p, rfl⟩ := h
  obtain ⟨q, rfl⟩ := h'
  refine List.filter_congr fun r hr => ?_
  have := hm r
  rw [List.mem_filter, List.mem_filter] at this
  rw [Bool.eq_iff_iff]
  exact ⟨fun h => (this.mp ⟨hr, h⟩).2, fun h => (this.mpr ⟨hr, h⟩).2⟩
theorem eq2 : joinedL (endedL (joinedL R)) = dueL R := by
  have hJ : ∀ r, r ∈ joinedL (endedL (joinedL R)) ↔ r ∈ dueL R := fun r => by
    rw [mem_joined, ended_joined, mem_due, rch_joined, mem_ended]
    exact ⟨fun ⟨⟨a, _⟩, c⟩ => ⟨a, c⟩, fun ⟨a, c⟩ => ⟨⟨a, c.mono fun r hr => (mem_ended.mp hr).1⟩, c⟩⟩
  exact isF_eq (isF_joined (isF_ended (isF_joined (isF_self R)))) (isF_joined (isF_ended (isF_self R))) hJ
theorem due_nil (I : LawR R) : dueL R = [] ↔ ¬ Gd ABC R ssS := by
  constructor
  · intro h hg
    obtain ⟨r, hr, e, hy⟩ := start_rule I hg
    have : r ∈ dueL R := mem_due.mpr ⟨⟨hr, hy⟩, e ▸ .refl _⟩
    rw [h] at this; cases this
  · intro h
    rw [List.eq_nil_iff_forall_not_mem]
    intro r hr
    obtain ⟨⟨h1, h2⟩, h3⟩ := mem_due.mp hr
    rcases h3.first with e | ⟨q, hq, e⟩
    · exact h (e ▸ .rule h1 h2)
    · have := mem_ended.mp hq
      exact h (e ▸ .rule this.1 this.2)
end
end Mine
end
section
set_option autoImplicit false
namespace Mine
noncomputable def cntN (X : Str → Prop) : Nat := (NM.filter fun s => tf (X s)).length
theorem cntN_le (X : Str → Prop) : cntN X ≤ 4 := List.length_filter_le _ _
theorem cntN_lt {X Y : Str → Prop} (h : ∀ s, X s → Y s) {s : Str} (hs : s ∈ NM) (hy : Y s) (hx : ¬ X s) : cntN X < cntN Y := by
  unfold cntN
  have le : ∀ l : List Str, (l.filter fun s => tf (X s)).length ≤ (l.filter fun s => tf (Y s)).length := fun l => by
    induction l with
    | nil => exact Nat.le_refl _
    | cons a l ih =>
      rw [List.filter_cons, List.filter_cons]
      cases q : tf (X a) with
      | true => rw [tf_iff.mpr (h a (tf_iff.mp q))]; exact Nat.succ_le_succ ih
      | false =>
        cases tf (Y a) with
        | true => exact Nat.le_succ_of_le ih
        | false => exact ih
  generalize NM = l at hs
  induction l with
  | nil => cases hs
  | cons a l ih =>
    rw [List.filter_cons, List.filter_cons]
    by_cases e : a = s
    · subst e
      have : tf (X a) = false := by cases q : tf (X a) with | false => rfl | true => exact absurd (tf_iff.mp q) hx
      rw [this, tf_iff.mpr hy]
      exact Nat.lt_succ_of_le (le l)
    · have := ih ((List.mem_cons.mp hs).resolve_left (Ne.symm e))
      cases q : tf (X a) with
      | true => rw [tf_iff.mpr (h a (tf_iff.mp q))]; exact Nat.succ_lt_succ this
      | false =>
        cases tf (Y a) with
        | true => exact Nat.lt_succ_of_lt this
        | false => exact this
structure Chain (X : Nat → Str → Prop) : Prop where
  up : ∀ n s, X n s → X (n + 1) s
  nm : ∀ n s, X n s → s ∈ NM
  det : ∀ n, (∀ s, X (n + 1) s → X n s) → ∀ s, X (n + 2) s → X (n + 1) s
theorem Chain.mono {X : Nat → Str → Prop} (c : Chain X) {s : Str} (n : Nat) : ∀ k, X n s → X (n + k) s
  | 0, h => h
  | k + 1, h => c.up _ _ (c.mono n k h)
theorem Chain.still {X : Nat → Str → Prop} (c : Chain X) {j : Nat} (h : ∀ s, X (j + 1) s → X j s) : ∀ k s, X (j + k) s → X j s := by
  have st : ∀ k s, X (j + k + 1) s → X (j + k) s := fun k => by
    induction k with
    | zero => exact h
    | succ k ih => exact c.det _ ih
  intro k
  induction k with
  | zero => exact fun s h => h
  | succ k ih => exact fun s h => ih s (st k s h)
theorem Chain.stop {X : Nat → Str → Prop} (c : Chain X) (b : Nat) (hb : b ≤ cntN (X 0)) (hb4 : b ≤ 4) : ∀ m s, X m s → X (4 - b) s := by
  have key : ∀ n, n + b ≤ cntN (X n) ∨ ∃ j, j < n ∧ ∀ s, X (j + 1) s → X j s := fun n => by
    induction n with
    | zero => exact .inl (by rw [Nat.zero_add]; exact hb)
    | succ n ih =>
      rcases ih with ih | ⟨j, hj, h⟩
      · by_cases q : ∀ s, X (n + 1) s → X n s
        · exact .inr ⟨n, Nat.lt_succ_self _, q⟩
        · refine .inl ?_
          obtain ⟨s, hs⟩ := Classical.not_forall.mp q
          obtain ⟨h1, h2⟩ := Classical.not_imp.mp hs
          have := cntN_lt (c.up n) (c.nm _ _ h1) h1 h2
          omega
      · exact .inr ⟨j, Nat.lt_succ_of_lt hj, h⟩
  intro m s h
  rcases key (4 - b + 1) with q | ⟨j, hj, q⟩
  · have := cntN_le (X (4 - b + 1)); omega
  · have h1 : X j s := by
      rcases Nat.lt_or_ge m j with z | z
      · have := c.mono m (j - m) h; rwa [Nat.add_sub_cancel' (Nat.le_of_lt z)] at this
      · exact c.still q (m - j) s (by rwa [Nat.add_sub_cancel' z])
    have := c.mono j (4 - b - j) h1
    rwa [Nat.add_sub_cancel' (by omega)] at this
section
variable {R : List Rule}
theorem okD_mono {D D' : Str → Prop} (h : ∀ s, D s → D' s) {r : Rule} (k : okD D r) : okD D' r := fun s hs => (k s hs).imp (h s) id
theorem DB_up (n : Nat) : ∀ s, (DB R n).1 s → (DB R (n + 1)).1 s := by
  induction n with
  | zero => exact fun s h => h.elim
  | succ n ih => exact fun s ⟨j, r, a, b, c, d⟩ => ⟨j, r, a, b, c, okD_mono ih d⟩
theorem DB_upB (n : Nat) : ∀ s k, (DB R n).2 s k → (DB R (n + 1)).2 s k := by
  induction n with
  | zero => exact fun s k h => h.elim
  | succ n ih => exact fun s k ⟨j, r, a, b, c, d, e⟩ => ⟨j, r, a, b, c, okD_mono (DB_up n) d, e.imp id fun ⟨y, hy, w⟩ => ⟨y, hy, ih y k w⟩⟩
theorem DB_chain (I : LawR R) : Chain fun n => (DB R n).1 where
  up := DB_up
  nm := fun n s h => by
    cases n with
    | zero => exact h.elim
    | succ n =>
      obtain ⟨j, r, a, b, c, d⟩ := h
      exact c ▸ (I.ok r (List.mem_of_getElem? b)).left
  det := fun n h s ⟨j, r, a, b, c, d⟩ => ⟨j, r, a, b, c, okD_mono h d⟩
theorem okD_gd (I : LawR R) {D : Str → Prop} (hD : ∀ s, D s → Gd ABC R s) {r : Rule} (hr : r ∈ R) (h : okD D r) : ∀ y ∈ r.2, Gd ABC R y := fun y hy =>
  (h y hy).elim (hD y) fun hn => .base ((sy_facts.2.1 y ((I.ok r hr).body y hy)).resolve_right hn)
theorem DB_gd (I : LawR R) (n : Nat) : ∀ s, (DB R n).1 s → Gd ABC R s := by
  induction n with
  | zero => exact fun s h => h.elim
  | succ n ih => exact fun s ⟨j, r, a, b, c, d⟩ => c ▸ .rule (List.mem_of_getElem? b) (okD_gd I ih (List.mem_of_getElem? b) d)
theorem gd_DB (I : LawR R) {s : Str} (h : Gd ABC R s) : s ∈ NM → (DB R 4).1 s := by
  induction h with
  | base h => exact fun hn => absurd hn (sy_facts.1 _ h).2.1
  | @rule r hr h2 ih =>
    intro _
    obtain ⟨j, hj⟩ := List.getElem?_of_mem hr
    have hlt : j < R.length := (List.getElem?_eq_some_iff.mp hj).1
    refine (DB_chain I).stop 0 (Nat.zero_le _) (by decide) 5 r.1 ⟨j, r, hlt, hj, rfl, fun y hy => ?_⟩
    by_cases q : y ∈ NM
    · exact .inl (ih y hy q)
    · exact .inr q
theorem good_ok (I : LawR R) {n : Nat} (hn : 4 ≤ n) {r : Rule} (h : ∀ y ∈ r.2, Gd ABC R y) : okD (DB R n).1 r := fun y hy => by
  by_cases q : y ∈ NM
  · have := (DB_chain I).mono 4 (n - 4) (gd_DB I (h y hy) q)
    rw [Nat.add_sub_cancel' hn] at this
    exact .inl this
  · exact .inr q
theorem DB_sound (I : LawR R) (n : Nat) : ∀ x k, (DB R n).2 x k → ∃ r, R[k]? = some r ∧ (∀ y ∈ r.2, Gd ABC R y) ∧ RchR (endedL R) x r.1 := by
  induction n with
  | zero => exact fun x k h => h.elim
  | succ n ih =>
    rintro x k ⟨j, q, a, b, c, d, e⟩
    have hq := okD_gd I (DB_gd I n) (List.mem_of_getElem? b) d
    rcases e with rfl | ⟨s, hs, w⟩
    · exact ⟨q, b, hq, c ▸ .refl _⟩
    · obtain ⟨r, h1, h2, h3⟩ := ih s k w
      exact ⟨r, h1, h2, c ▸ .step (mem_ended.mpr ⟨List.mem_of_getElem? b, hq⟩) hs h3⟩
noncomputable def RN (E : List Rule) : Nat → Str → Prop
  | 0 => fun s => s = ssS
  | n + 1 => fun s => RN E n s ∨ ∃ r ∈ E, RN E n r.1 ∧ s ∈ r.2 ∧ s ∈ NM
theorem RN_chain (E : List Rule) : Chain (RN E) where
  up := fun n s h => .inl h
  nm := fun n => by
    induction n with
    | zero => exact fun s h => h ▸ sy_facts.2.2.2.2.2.2.2.1
    | succ n ih => exact fun s h => h.elim (ih s) fun ⟨_, _, _, _, h⟩ => h
  det := fun n h s hs => by
    rcases hs with hs | ⟨r, hr, h1, h2, h3⟩
    · exact hs
    · exact .inr ⟨r, hr, h r.1 h1, h2, h3⟩
theorem RN_of (E : List Rule) {x : Str} (h : RchR E ssS x) (hx : x ∈ NM) (hE : ∀ r ∈ E, r.1 ∈ NM) : RN E 3 x := by
  have c0 : 1 ≤ cntN (RN E 0) := by
    have := cntN_lt (X := fun _ => False) (Y := RN E 0) (fun _ h => h.elim) sy_facts.2.2.2.2.2.2.2.1 (s := ssS) rfl (fun h => h)
    omega
  have key : ∀ a z, RchR E a z → z ∈ NM → (∃ m, RN E m a) → ∃ m, RN E m z := fun a z h => by
    induction h with
    | refl s => exact fun _ h => h
    | @step y z r h1 h2 h3 ih =>
      intro hz hm
      obtain ⟨m, hm⟩ := hm
      refine ih hz ⟨m + 1, .inr ⟨r, h1, hm, h2, ?_⟩⟩
      rcases h3.first with e | ⟨q, hq, e⟩
      · rw [← e]; exact hz
      · rw [← e]; exact hE q hq
  obtain ⟨m, hm⟩ := key _ _ h hx ⟨0, rfl⟩
  exact (RN_chain E).stop 1 c0 (by decide) m x hm
theorem DB_lift (I : LawR R) : ∀ m n x k, 4 ≤ n → RN (endedL R) m x → (DB R n).2 x k → (DB R (n + m)).2 ssS k := by
  intro m
  induction m with
  | zero => intro n x k _ hx h; rw [show x = ssS from hx] at h; exact h
  | succ m ih =>
    intro n x k hn hx h
    rcases hx with hx | ⟨r, hr, h1, h2, _⟩
    · exact DB_upB _ _ _ (ih n x k hn hx h)
    · obtain ⟨hr1, hr2⟩ := mem_ended.mp hr
      obtain ⟨j, hj⟩ := List.getElem?_of_mem hr1
      have hlt : j < R.length := (List.getElem?_eq_some_iff.mp hj).1
      have := ih (n + 1) r.1 k (by omega) h1 ⟨j, r, hlt, hj, rfl, good_ok I hn hr2, .inr ⟨x, h2, h⟩⟩
      rwa [show n + 1 + m = n + (m + 1) by omega] at this
theorem DB_8 (I : LawR R) {k : Nat} {r : Rule} (hk : R[k]? = some r) : (DB R 8).2 ssS k ↔ r ∈ dueL R := by
  constructor
  · intro h
    obtain ⟨r', h1, h2, h3⟩ := DB_sound I 8 _ _ h
    rw [hk] at h1; cases h1
    exact mem_due.mpr ⟨⟨List.mem_of_getElem? hk, h2⟩, h3⟩
  · intro h
    obtain ⟨⟨h1, h2⟩, h3⟩ := mem_due.mp h
    have hlt : k < R.length := (List.getElem?_eq_some_iff.mp hk).1
    have hl := (I.ok r h1).left
    have b5 : (DB R 5).2 r.1 k := ⟨k, r, hlt, hk, rfl, good_ok I (Nat.le_refl 4) h2, .inl rfl⟩
    exact DB_lift I 3 5 r.1 k (by decide) (RN_of _ h3 hl fun q hq => (I.ok q (mem_ended.mp hq).1).left) b5
theorem fm_congr {α β : Type} {f g : α → Option β} {l : List α} (h : ∀ a ∈ l, f a = g a) : l.filterMap f = l.filterMap g := by
  induction l with
  | nil => rfl
  | cons a l ih => rw [List.filterMap_cons, List.filterMap_cons, h a (.head _), ih fun b hb => h b (.tail _ hb)]
theorem pick_rules (p : Rule → Bool) : ∀ (l : List Rule) (o : Nat) (ns : List Int), ns.Pairwise (· < ·) → (∀ n ∈ ns, (o : Int) ≤ n ∧ n < o + l.length) → (∀ k r, l[k]? = some r → (((o + k : Nat) : Int) ∈ ns ↔ p r = true)) →
    ns.filterMap (fun n : Int => l[(n - (o : Int)).toNat]?) = l.filter p := by
  intro l
  induction l with
  | nil =>
    intro o ns _ h _
    cases ns with
    | nil => rfl
    | cons n ns => have := h n (.head _); simp at this; omega
  | cons r l ih =>
    intro o ns hp hb hm
    have h0 := hm 0 r rfl
    rw [Nat.add_zero] at h0
    have hm' : ∀ k q, l[k]? = some q → (((o + 1 + k : Nat) : Int) ∈ ns ↔ p q = true) := fun k q hq => by
      have := hm (k + 1) q (by rw [List.getElem?_cons_succ]; exact hq)
      rwa [show o + (k + 1) = o + 1 + k by omega] at this
    have step : ∀ ms : List Int, (∀ n ∈ ms, ((o + 1 : Nat) : Int) ≤ n) → ms.filterMap (fun n : Int => (r :: l)[(n - (o : Int)).toNat]?) = ms.filterMap (fun n : Int => l[(n - ((o + 1 : Nat) : Int)).toNat]?) := fun ms hms => by
      refine fm_congr fun n hn => ?_
      have := hms n hn
      rw [show (n - (o : Int)).toNat = (n - ((o + 1 : Nat) : Int)).toNat + 1 by push_cast at this ⊢; omega, List.getElem?_cons_succ]
    rw [List.filter_cons]
    by_cases q : ((o : Nat) : Int) ∈ ns
    · rw [if_pos (h0.mp q)]
      cases ns with
      | nil => cases q
      | cons n ns =>
        rw [List.pairwise_cons] at hp
        have hno : n = (o : Int) := by
          rcases List.mem_cons.mp q with e | e
          · exact e.symm
          · have := hp.1 _ e; have := (hb n (.head _)).1; omega
        subst hno
        have hlo : ∀ n ∈ ns, ((o + 1 : Nat) : Int) ≤ n := fun n hn => by have := hp.1 n hn; push_cast; omega
        rw [List.filterMap_cons]
        rw [show ((o : Int) - (o : Int)).toNat = 0 by omega]
        show r :: ns.filterMap _ = _
        rw [step ns hlo]
        refine congrArg (r :: ·) (ih (o + 1) ns hp.2 (fun n hn => ⟨hlo n hn, by have := (hb n (.tail _ hn)).2; rw [List.length_cons] at this; push_cast at this ⊢; omega⟩) fun k q' hq => ?_)
        have := hm' k q' hq
        rw [← this, List.mem_cons]
        exact ⟨.inr, fun h => h.resolve_left fun e => by push_cast at e; omega⟩
    · rw [if_neg fun z => q (h0.mpr z)]
      have hlo : ∀ n ∈ ns, ((o + 1 : Nat) : Int) ≤ n := fun n hn => by
        have := (hb n hn).1
        have : n ≠ (o : Int) := fun e => q (e ▸ hn)
        push_cast; omega
      rw [step ns hlo]
      exact ih (o + 1) ns hp (fun n hn => ⟨hlo n hn, by have := (hb n hn).2; rw [List.length_cons] at this; push_cast at this ⊢; omega⟩) hm'
theorem taken_due (I : LawR R) (ns : List Int) (h1 : ns.Pairwise (· < ·)) (h2 : ∀ n, n ∈ ns ↔ ∃ k : Nat, n = k ∧ (DB R 8).2 ssS k) : ns.filterMap (fun n => R[n.toNat]?) = dueL R := by
  obtain ⟨p, hp⟩ := isF_joined (isF_ended (isF_self R))
  have := pick_rules p R 0 ns h1 (fun n hn => by
    obtain ⟨k, rfl, w⟩ := (h2 n).mp hn
    have := DB_lt 8 w
    exact ⟨Int.natCast_nonneg _, by push_cast; omega⟩) (fun k r hk => by
      rw [h2, Nat.zero_add]
      have hd : r ∈ dueL R ↔ p r = true := by
        show r ∈ joinedL (endedL R) ↔ _
        rw [hp, List.mem_filter]
        exact ⟨fun h => h.2, fun h => ⟨List.mem_of_getElem? hk, h⟩⟩
      rw [← hd, ← DB_8 I hk]
      exact ⟨fun ⟨j, e, w⟩ => by have : k = j := by omega
                                 exact this ▸ w, fun w => ⟨k, rfl, w⟩⟩)
  have hp : dueL R = R.filter p := hp
  rw [hp, ← this]
  refine fm_congr fun n hn => ?_
  rw [show n - ((0 : Nat) : Int) = n by push_cast; omega]
end
end Mine
end
section
set_option autoImplicit false
namespace Mine
theorem used_mem {D : List Rule} {t : Str} : t ∈ usedOf D ↔ t ∈ ABC ∧ ∃ r ∈ D, t ∈ r.2 := by
  unfold usedOf
  rw [List.mem_filter, Bool.not_eq_true', decide_eq_false_iff_not]
  refine and_congr_right fun ht => ?_
  unfold spareOf
  rw [List.mem_filter]
  constructor
  · intro h
    cases q : D.any fun r => decide (t ∈ r.2) with
    | true => obtain ⟨r, hr, e⟩ := List.any_eq_true.mp q; exact ⟨r, hr, of_decide_eq_true e⟩
    | false => exact absurd ⟨ht, by rw [q]; rfl⟩ h
  · rintro ⟨r, hr, h⟩ ⟨_, q⟩
    rw [List.any_eq_true.mpr ⟨r, hr, decide_eq_true h⟩] at q
    cases q
theorem idle_of {l : List (Str × List Int)} {D : List Rule} (h : Emp l fun k => ∀ r ∈ D, k ∉ r.2) : idleF l = (l.map (·.1)).filter fun k => decide (k ≠ ("error" : Str)) && !(D.any fun r => decide (k ∈ r.2)) := by
  unfold idleF
  induction l with
  | nil => rfl
  | cons q l ih =>
    have h1 := h q (.head _)
    have ih := ih fun z hz => h z (.tail _ hz)
    have e : q.2.isEmpty = !(D.any fun r => decide (q.1 ∈ r.2)) := by
      rw [Bool.eq_iff_iff, List.isEmpty_iff, h1, Bool.not_eq_true', List.any_eq_false]
      exact forall_congr' fun r => imp_congr_right fun _ => by rw [decide_eq_true_iff]
    rw [List.filter_cons, List.map_cons, List.filter_cons, ← e]
    split
    · rw [List.map_cons, ih]
    · exact ih
section
variable {R : List Rule}
theorem due_start (I : LawR R) (hg : Gd ABC R ssS) : ∃ r ∈ dueL R, ssS = r.1 := by
  obtain ⟨r, hr, e, hy⟩ := start_rule I hg
  exact ⟨r, mem_due.mpr ⟨⟨hr, hy⟩, e ▸ .refl _⟩, e.symm⟩
theorem rg_of {l : List Rule} (G : RG ABC R) (h : IsF R l) (hs : ∃ r ∈ l, ssS = r.1) : RG ABC l := by
  obtain ⟨p, rfl⟩ := h
  exact G.filter p hs
theorem due_good {r : Rule} (h : r ∈ dueL R) : (∀ y ∈ r.2, Gd ABC R y) ∧ RchR (endedL R) ssS r.1 := ⟨(mem_due.mp h).1.2, (mem_due.mp h).2⟩
theorem due_rg (I : LawR R) (hg : Gd ABC R ssS) : RG ABC (dueL R) := rg_of I.rg (isF_joined (isF_ended (isF_self R))) (due_start I hg)
theorem due_rgU (I : LawR R) (hg : Gd ABC R ssS) : RG (usedOf (dueL R)) (dueL R) := by
  have G := due_rg I hg
  exact { ok := G.ok, nd := G.nd, hz := G.hz, has := G.has, tnd := G.tnd.filter _, tab := fun t ht => (used_mem.mp ht).1,
          tm := fun r hr y hy => (G.tm r hr y hy).imp (fun h => used_mem.mpr ⟨h, r, hr, hy⟩) id }
theorem due_gd {x : Str} (hg : Gd ABC R x) (hx : RchR (endedL R) ssS x) (hu : x ∈ ABC → x ∈ usedOf (dueL R)) : Gd (usedOf (dueL R)) (dueL R) x :=
  hg.keep (X := fun x => RchR (endedL R) ssS x) (fun r hr h1 hx => mem_due.mpr ⟨⟨hr, h1⟩, hx⟩) (fun r hr h1 hx y hy => hx.snoc (mem_ended.mpr ⟨hr, h1⟩) hy) (fun r hr y hy ht => used_mem.mpr ⟨ht, r, hr, hy⟩) hx hu
theorem due_no (I : LawR R) (hg : Gd ABC R ssS) {up : V} {n : Str} (h : n ∈ (gOf (usedOf (dueL R)) up (dueL R)).no.map (·.1)) : n ∈ NM ∧ Gd ABC R n ∧ RchR (endedL R) ssS n := by
  have G := due_rgU I hg
  obtain ⟨r, hr, e⟩ := (G.no n).mp h
  obtain ⟨g1, g2⟩ := due_good hr
  have hrR := (mem_due.mp hr).1.1
  rcases e with rfl | ⟨h1, h2⟩
  · exact ⟨(G.ok r hr).left, .rule hrR g1, g2⟩
  · exact ⟨h2, g1 n h1, g2.snoc (mem_ended.mpr ⟨hrR, g1⟩) h1⟩
theorem last_of (I : LawR R) (hg : Gd ABC R ssS) (up : V) : LastP (gOf (usedOf (dueL R)) up (dueL R)) := by
  have G := due_rgU I hg
  have ui := G.ui up
  refine ⟨fun n hn => ?_, fun s hs => ?_, ?_, ?_, fun q hq => ?_⟩
  · exact G.rch.mpr (rch_due (due_no I hg hn).2.2)
  · unfold kK at hs
    rcases List.mem_append.mp hs with hs | hs
    · exact .base hs
    · obtain ⟨h1, h2, h3⟩ := due_no I hg hs
      exact (G.ends (nm_sy _ h1)).mpr (due_gd h2 h3 fun ht => absurd h1 (sy_facts.1 _ ht).2.1)
  · unfold undF
    rw [List.flatMap_eq_nil_iff]
    intro o ho
    have none : ∀ p : Pr, (∀ y ∈ p.body, undS (gOf (usedOf (dueL R)) up (dueL R)) y = false) → undO (gOf (usedOf (dueL R)) up (dueL R)) (some p) = [] := fun p hp => by
      show (p.body.filter _).map _ = []
      rw [List.filter_eq_nil_iff.mpr fun y hy => by rw [hp y hy]; exact Bool.false_ne_true]
      rfl
    have good : ∀ y, y ∈ SY → ((∃ r ∈ dueL R, r.1 = y) ∨ y ∈ usedOf (dueL R)) → undS (gOf (usedOf (dueL R)) up (dueL R)) y = false := fun y hs h => by
      cases q : undS (gOf (usedOf (dueL R)) up (dueL R)) y with
      | false => rfl
      | true =>
        obtain ⟨a, b⟩ := (G.und hs).mp q
        exact absurd h (not_or.mpr ⟨a, b⟩)
    unfold oTop at ho
    rcases List.mem_cons.mp ho with rfl | ho
    · refine none _ fun y hy => ?_
      rw [List.mem_singleton] at hy
      subst hy
      obtain ⟨r, hr, e⟩ := G.has
      exact good _ sy_facts.2.2.2.2.2.2.2.2 (.inl ⟨r, hr, e.symm⟩)
    · obtain ⟨p, hp, rfl⟩ := List.mem_map.mp ho
      refine none p fun y hy => ?_
      have hr := G.pm hp
      have hs := (G.ok _ hr).body y hy
      refine good y hs ?_
      rcases G.tm _ hr y hy with h | h
      · exact .inr h
      · obtain ⟨g1, g2⟩ := due_good hr
        rcases (g1 y hy).inv with z | ⟨q, hq, e, hq2⟩
        · exact absurd h (sy_facts.1 _ z).2.1
        · exact .inl ⟨q, mem_due.mpr ⟨⟨hq, hq2⟩, e ▸ g2.snoc (mem_ended.mpr ⟨(mem_due.mp hr).1.1, g1⟩) hy⟩, e⟩
  · have := idle_of ui.te
    have e : (gOf (usedOf (dueL R)) up (dueL R)).te = (madeG (usedOf (dueL R)) up (dueL R)).te := rfl
    rw [e, this, show (madeG (usedOf (dueL R)) up (dueL R)).te.map (·.1) = _ from G.te (up := up), List.filter_eq_nil_iff]
    intro k hk
    rcases List.mem_append.mp hk with hk | hk
    · obtain ⟨_, r, hr, h⟩ := used_mem.mp hk
      rw [List.any_eq_true.mpr ⟨r, hr, decide_eq_true h⟩, Bool.not_true, Bool.and_false]; exact Bool.false_ne_true
    · rw [List.mem_singleton] at hk
      rw [decide_eq_false (fun z => z hk), Bool.false_and]; exact Bool.false_ne_true
  · intro e
    have h1 : Emp (gOf (usedOf (dueL R)) up (dueL R)).no fun k => (∀ r ∈ dueL R, k ∉ r.2) ∧ k ≠ ssS := ui.no.push ssS 0
    obtain ⟨h2, h3⟩ := (h1 q hq).mp e
    obtain ⟨r, hr, z⟩ := (G.no q.1).mp (List.mem_map.mpr ⟨q, hq, rfl⟩)
    rcases z with z | ⟨z, _⟩
    · rcases (rch_due (due_good hr).2).last with w | ⟨r', hr', w⟩
      · exact h3 (z.trans w)
      · exact h2 r' hr' (z ▸ w)
    · exact h2 r hr z
theorem lawP (R : List Rule) (I : LawR R) : LawP R where
  taken := taken_due I
  nil := due_nil I
  g0 := I.rg
  gE := fun hg => rg_of I.rg (isF_ended (isF_self R)) (by
    obtain ⟨r, hr, e, hy⟩ := start_rule I hg
    exact ⟨r, mem_ended.mpr ⟨hr, hy⟩, e.symm⟩)
  gJ := rg_of I.rg (isF_joined (isF_self R)) (by
    obtain ⟨r, hr, e⟩ := I.has
    exact ⟨r, mem_joined.mpr ⟨hr, e ▸ .refl _⟩, e.symm⟩)
  gEJ := fun hg => rg_of I.rg (isF_ended (isF_joined (isF_self R))) (by
    obtain ⟨r, hr, e, hy⟩ := start_rule I hg
    exact ⟨r, ended_joined.mpr ⟨mem_ended.mpr ⟨hr, hy⟩, e ▸ .refl _⟩, e.symm⟩)
  gD := due_rg I
  eq2 := eq2
  idle := fun up hg => by
    have G := due_rg I hg
    have := idle_of (G.ui up).te
    have e : (gOf ABC up (dueL R)).te = (madeG ABC up (dueL R)).te := rfl
    rw [e, this, show (madeG ABC up (dueL R)).te.map (·.1) = _ from G.te (up := up), List.filter_append]
    have e1 : ([("error" : Str)].filter fun k => decide (k ≠ ("error" : Str)) && !((dueL R).any fun r => decide (k ∈ r.2))) = [] := by
      rw [List.filter_eq_nil_iff]
      intro k hk
      rw [List.mem_singleton] at hk
      rw [decide_eq_false (fun z => z hk), Bool.false_and]; exact Bool.false_ne_true
    rw [e1, List.append_nil]
    unfold spareOf
    refine List.filter_congr fun t ht => ?_
    have hne : t ≠ ("error" : Str) := fun z => sy_facts.2.2.2.2.2.1 (z ▸ ht)
    have hd : decide (t ≠ ("error" : Str)) = true := decide_eq_true hne
    rw [hd, Bool.true_and]
  gU := due_rgU I
  last := fun up hg => last_of I hg up
end
end Mine
end
section
namespace Mine
noncomputable def codeOf : Data → Value
  | .func f => f.code
  | _ => .none
theorem noTab176 : ∀ P : Params, (lawHeap P).lookup 176 = none := fun _ => by kernel_rfl
theorem lawHeap_of {P : Params} {h : Heap} (X : (lawHeapT P).In h) : (lawHeap P).In h ∧ h.get? 176 = some { cls := .none, data := .fields #[] } := by
  refine ⟨fun a o e => ?_, X _ _ (by rfl)⟩
  refine X a o ?_
  show List.lookup a ((176, _) :: lawHeap P) = _
  rw [List.lookup_cons]
  by_cases q : a = 176
  · rw [q, noTab176] at e; cases e
  · have : (a == 176) = false := by simpa using q
    rw [this]; exact e
theorem noTabs_law : ∀ P : Params, noTabs (lawHeap P) = true := fun _ => by kernel_rfl
theorem fin : PySem.Challenge.rw_te0001_04.Holds := head (by
  k_fill
  intro w s₀ s₁ mg mb G Y fa o pm cd doc dV kV ho hd hcd hD hmg hg args vals as hpre hlay hrd hwl hlo
  have KT : (lawHeapT w.params).In s₁.heap := kIn_of Y
  obtain ⟨KX, hTab⟩ := lawHeap_of KT
  have hmg2 := hmg
  have ho2 := ho
  have hd2 := congrArg codeOf hd
  refine Ground.open G ?_
  intro T B D TE TW
  obtain ⟨_, _, M⟩ := bmod_of_top T
  have TA := at_of_top T
  clear hmg
  wrow_args hpre hlay hrd hwl hlo
  all_goals (
    refine enter_call ?_
    w_top on
    have hT9 : TabsAt ([(178, 176)] : List (Addr × Addr)) s₁.heap := List.forall_mem_cons.mpr ⟨⟨unCode _ _ rfl _ KX, hTab⟩, fun _ h => nomatch h⟩
    refine kn_post hT9 (fun _ _ => rfl) ?_
    have K0 := below_caller (Top.heap T)
    w_call any ho hd hcd hD T F
    clear hd TA
    k_drop)
  have T : Top view (looseW view ["Production", "Grammar", "_law_SYMBOLS"]) (ExcName.means s₀.heap) mg mb s₁.heap := by assumption
  have efa : fa = 297 := by
    have e := (mg_of (n := "law") KX T.g (by rfl)).symm.trans hmg2
    cases e; rfl
  subst efa
  have eo := (KX _ _ (lLaw.at w.params)).symm.trans ho2
  obtain rfl := Option.some.inj eo
  have ecd : lLaw.code = cd := hd2
  rw [← ecd]
  clear hd2 ho2 eo hmg2
  refine enterC (env := lwE s₁.heap.objs.size) (L := s₁.heap.objs.size) hT9 (by decide) KX (noTabs_law _) T hg (by assumption) (by assumption) (by assumption) (by assumption) rfl rfl rfl (by assumption) (by assumption) (by assumption) (by assumption) (fun _ => rfl) (by kernel_rfl) fun W e1 e2 e3 eB M0 c1 c2 c3 c4 => ?_
  exact law_body (e3.trans (by rw [e2])) eB ⟨rfl, rfl, Nat.le_of_ble_eq_true rfl, Nat.le_of_ble_eq_true rfl⟩ ⟨[], rfl, rfl, rfl, fun e he => nomatch he⟩ (by omega) lawP c1 c2 c3 c4)
end Mine
end
theorem PySem.Challenge.cw_te0001_04_holds : PySem.Challenge.rw_te0001_04.Holds :=
  Mine.fin
