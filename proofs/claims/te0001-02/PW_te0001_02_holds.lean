import PyProof.Rows.All
import Wide.All
import OpenK.AllK
import Wide.FinOn
import KE.FramesApart
import KE.KDictSum
import KE.KDictList
import OpenK.TopRead
import Lean
import PySem.Challenge.RW_te0001_02
open PySem PySem.W PySem.Calls PyProof.Rows
set_option Elab.async false
set_option maxRecDepth 100000
set_option compiler.extract_closed false
set_option maxHeartbeats 8000000
set_option linter.unusedVariables false
section
set_option autoImplicit false
namespace Mine
noncomputable abbrev pw : Program := PySem.Challenge.pw_te0001_02
noncomputable def stAt (l : List Stmt) (i : Nat) : Stmt := l.getD i (.Pass ⟨0, 0, 0, 0⟩)
noncomputable def stBody : Stmt → List Stmt
  | .FunctionDef _ _ b .. => b
  | .ClassDef _ _ _ b .. => b
  | _ => []
noncomputable def stArgs : Stmt → Arguments
  | .FunctionDef _ a .. => a
  | _ => ⟨[], [], none, [], [], none, []⟩
noncomputable def stScope : Stmt → Scope
  | .FunctionDef _ _ _ _ _ _ sc .. => sc
  | _ => { kind := .function, names := [], isGenerator := false, isCoroutine := false }
noncomputable def view : Program := { pw with main := { pw.main with body := [0, 2, 3, 4, 5, 6, 7, 8, 9, 11, 12, 13, 14, 15, 16].map (stAt pw.main.body) } }
noncomputable def lawHeap (P : Params) : Frag := [
  (2, Obj.mk (Value.none) (none) (Data.dict   #[{ hash := PyData.keyHash P (Str.ofString "type.__subclasses__.Exception.0"),       key := Value.str (Str.ofString "type.__subclasses__.Exception.0") 212, val := Value.int 31 0 },     { hash := PyData.keyHash P (Str.ofString "type.__subclasses__.Exception.n"),       key := Value.str (Str.ofString "type.__subclasses__.Exception.n") 213, val := Value.int 1 0 }]   2) (#[])),
  (3, Obj.mk (Value.type "dict") (none) (Data.dict   #[{ hash := PyData.keyHash P (Str.ofString "__name__"), key := Value.str (Str.ofString "__name__") 165,       val := Value.str (Str.ofString "law_te0001_02") 534 },     { hash := PyData.keyHash P (Str.ofString "__doc__"), key := Value.str (Str.ofString "__doc__") 166,       val := Value.none },     { hash := PyData.keyHash P (Str.ofString "__package__"), key := Value.str (Str.ofString "__package__") 167,       val := Value.none },     { hash := PyData.keyHash P (Str.ofString "__loader__"), key := Value.str (Str.ofString "__loader__") 168,       val := Value.builtin "__main__.__loader__#opaque" },     { hash := PyData.keyHash P (Str.ofString "__spec__"), key := Value.str (Str.ofString "__spec__") 169,       val := Value.none },     { hash := PyData.keyHash P (Str.ofString "__annotations__"), key := Value.str (Str.ofString "__annotations__") 170,       val := Value.ref 6 },     { hash := PyData.keyHash P (Str.ofString "__builtins__"), key := Value.str (Str.ofString "__builtins__") 171,       val := Value.ref 4 },     { hash := PyData.keyHash P (Str.ofString "__file__"), key := Value.str (Str.ofString "__file__") 173,       val := Value.str (Str.ofString "/claim/cut.py") 172 },     { hash := PyData.keyHash P (Str.ofString "__cached__"), key := Value.str (Str.ofString "__cached__") 174,       val := Value.none },     { hash := PyData.keyHash P (Str.ofString "_wall"), key := Value.str (Str.ofString "_wall") 193,       val := Value.ref 21 },     { hash := PyData.keyHash P (Str.ofString "YaccError"), key := Value.str (Str.ofString "YaccError") 215,       val := Value.ref 31 },     { hash := PyData.keyHash P (Str.ofString "_is_identifier"), key := Value.str (Str.ofString "_is_identifier") 221,       val := Value.ref 39 },     { hash := PyData.keyHash P (Str.ofString "_IDENTIFIER"), key := Value.str (Str.ofString "_IDENTIFIER") 223,       val := Value.str (Str.ofString "abcdefghijklmnopqrstuvwxyzABCDEFGHIJKLMNOPQRSTUVWXYZ0123456789_-") 222 },     { hash := PyData.keyHash P (Str.ofString "_literal"), key := Value.str (Str.ofString "_literal") 230,       val := Value.ref 46 },     { hash := PyData.keyHash P (Str.ofString "Production"), key := Value.str (Str.ofString "Production") 323,       val := Value.ref 100 },     { hash := PyData.keyHash P (Str.ofString "rightmost_terminal"),       key := Value.str (Str.ofString "rightmost_terminal") 332, val := Value.ref 111 },     { hash := PyData.keyHash P (Str.ofString "GrammarError"), key := Value.str (Str.ofString "GrammarError") 348,       val := Value.ref 121 },     { hash := PyData.keyHash P (Str.ofString "Grammar"), key := Value.str (Str.ofString "Grammar") 533,       val := Value.ref 248 },     { hash := PyData.keyHash P (Str.ofString "_law_SIGNS"), key := Value.str (Str.ofString "_law_SIGNS") 541,       val := Value.ref 259 },     { hash := PyData.keyHash P (Str.ofString "_law_body"), key := Value.str (Str.ofString "_law_body") 551,       val := Value.ref 266 },     { hash := PyData.keyHash P (Str.ofString "_law_tails"), key := Value.str (Str.ofString "_law_tails") 564,       val := Value.ref 273 },     { hash := PyData.keyHash P (Str.ofString "_law_made"), key := Value.str (Str.ofString "_law_made") 576,       val := Value.ref 280 },     { hash := PyData.keyHash P (Str.ofString "_law_opening"), key := Value.str (Str.ofString "_law_opening") 582,       val := Value.ref 285 },     { hash := PyData.keyHash P (Str.ofString "law"), key := Value.str (Str.ofString "law") 588, val := Value.ref 290 }]   24) (#[])),
  (20, Obj.mk (Value.type "code") (none) (Data.fields   #[Value.str (Str.ofString "_wall") 187, Value.str (Str.ofString "_wall") 188,     Value.str (Str.ofString "/claim/cut.py") 189, Value.int 1 0, Value.int 1 0, Value.int 0 0, Value.int 0 0,     Value.int 3 0, Value.ref 15, Value.bool true, Value.int 181 0, Value.ref 16, Value.none, Value.ref 17, Value.ref 18,     Value.ref 19, Value.int 191 0, Value.int 1 0, Value.str (Str.ofString "/claim/cut.py") 192]) (#[])),
  (21, Obj.mk (Value.type "function") (none) (Data.func (FuncData.mk (Str.ofString "_wall") (Str.ofString "_wall") (stArgs (stAt pw.main.body 0)) (.stmts (stBody (stAt pw.main.body 0))) (stScope (stAt pw.main.body 0)) 3 [] (Value.none) (Value.none) (Value.none) (Value.str (Str.ofString "__main__") 164) (none) (Value.ref 20) (Value.none) 0)) (#[])),
  (30, Obj.mk (Value.type "dict") (none) (Data.dict   #[{ hash := PyData.keyHash P (Str.ofString "__module__"), key := Value.str (Str.ofString "__module__") 203,       val := Value.str (Str.ofString "ply.yacc") 194 },     { hash := PyData.keyHash P (Str.ofString "__firstlineno__"), key := Value.str (Str.ofString "__firstlineno__") 207,       val := Value.int 5 206 },     { hash := PyData.keyHash P (Str.ofString "__static_attributes__"),       key := Value.str (Str.ofString "__static_attributes__") 208, val := Value.ref 29 },     { hash := PyData.keyHash P (Str.ofString "__weakref__"), key := Value.str (Str.ofString "__weakref__") 210,       val := Value.ref 32 },     { hash := PyData.keyHash P (Str.ofString "__doc__"), key := Value.str (Str.ofString "__doc__") 211,       val := Value.none }]   3) (#[])),
  (31, Obj.mk (Value.type "type") (none) (Data.cls   { name := Str.ofString "YaccError", bases := [Value.type "Exception"],     mro := [Value.ref 31, Value.type "Exception", Value.type "BaseException", Value.type "object"], ns := 30,     qualname := Str.ofString "YaccError", subclasses := [Value.ref 121] }) (#[some (Value.ref 22), none, some (Value.str (Str.ofString "YaccError") 196),   some (Value.str (Str.ofString "YaccError") 204), some (Value.builtin "Exception.__new__"), some (Value.bool true)])),
  (32, Obj.mk (Value.type "getset_descriptor") (none) (Data.fields   #[Value.str (Str.ofString "__weakref__") 209, Value.ref 31, Value.builtin "ExceptionGroup.__weakref__", Value.none]) (#[])),
  (38, Obj.mk (Value.type "code") (none) (Data.fields   #[Value.str (Str.ofString "_is_identifier") 216, Value.str (Str.ofString "_is_identifier") 217,     Value.str (Str.ofString "/claim/cut.py") 218, Value.int 7 0, Value.int 1 0, Value.int 0 0, Value.int 0 0,     Value.int 3 0, Value.ref 35, Value.bool true, Value.int 181 0, Value.ref 36, Value.none, Value.none, Value.none,     Value.ref 37, Value.int 219 0, Value.int 7 0, Value.str (Str.ofString "/claim/cut.py") 220]) (#[])),
  (39, Obj.mk (Value.type "function") (none) (Data.func (FuncData.mk (Str.ofString "_is_identifier") (Str.ofString "_is_identifier") (stArgs (stAt pw.main.body 3)) (.stmts (stBody (stAt pw.main.body 3))) (stScope (stAt pw.main.body 3)) 3 [] (Value.none) (Value.none) (Value.none) (Value.str (Str.ofString "ply.yacc") 194) (none) (Value.ref 38) (Value.none) 0)) (#[])),
  (45, Obj.mk (Value.type "code") (none) (Data.fields   #[Value.str (Str.ofString "_literal") 224, Value.str (Str.ofString "_literal") 225,     Value.str (Str.ofString "/claim/cut.py") 226, Value.int 10 0, Value.int 1 0, Value.int 0 0, Value.int 0 0,     Value.int 3 0, Value.ref 40, Value.bool true, Value.int 181 0, Value.ref 41, Value.none, Value.ref 42, Value.ref 43,     Value.ref 44, Value.int 228 0, Value.int 10 0, Value.str (Str.ofString "/claim/cut.py") 229]) (#[])),
  (46, Obj.mk (Value.type "function") (none) (Data.func (FuncData.mk (Str.ofString "_literal") (Str.ofString "_literal") (stArgs (stAt pw.main.body 5)) (.stmts (stBody (stAt pw.main.body 5))) (stScope (stAt pw.main.body 5)) 3 [] (Value.none) (Value.none) (Value.none) (Value.str (Str.ofString "ply.yacc") 194) (none) (Value.ref 45) (Value.none) 0)) (#[])),
  (54, Obj.mk (Value.type "tuple") (none) (Data.seq #[Value.str (Str.ofString "right") 247, Value.int 0 248]) (#[])),
  (55, Obj.mk (Value.type "tuple") (none) (Data.seq #[Value.ref 54, Value.none, Value.str (Str.ofString "") 249, Value.int 0 250]) (#[])),
  (61, Obj.mk (Value.type "code") (none) (Data.fields   #[Value.str (Str.ofString "__init__") 251, Value.str (Str.ofString "Production.__init__") 252,     Value.str (Str.ofString "/claim/cut.py") 253, Value.int 18 0, Value.int 8 0, Value.int 0 0, Value.int 0 0,     Value.int 3 0, Value.ref 56, Value.bool true, Value.int 181 0, Value.ref 57, Value.none, Value.ref 58, Value.ref 59,     Value.ref 60, Value.int 263 0, Value.int 18 0, Value.str (Str.ofString "/claim/cut.py") 264]) (#[])),
  (62, Obj.mk (Value.type "function") (none) (Data.func (FuncData.mk (Str.ofString "__init__") (Str.ofString "Production.__init__") (stArgs (stAt (stBody (stAt pw.main.body 6)) 2)) (.stmts (stBody (stAt (stBody (stAt pw.main.body 6)) 2))) (stScope (stAt (stBody (stAt pw.main.body 6)) 2)) 3 [] (Value.ref 55) (Value.none) (Value.none) (Value.str (Str.ofString "ply.yacc") 194) (none) (Value.ref 61) (Value.none) 0)) (#[])),
  (68, Obj.mk (Value.type "code") (none) (Data.fields   #[Value.str (Str.ofString "__str__") 266, Value.str (Str.ofString "Production.__str__") 267,     Value.str (Str.ofString "/claim/cut.py") 268, Value.int 39 0, Value.int 1 0, Value.int 0 0, Value.int 0 0,     Value.int 3 0, Value.ref 63, Value.bool true, Value.int 181 0, Value.ref 64, Value.none, Value.ref 65, Value.ref 66,     Value.ref 67, Value.int 270 0, Value.int 39 0, Value.str (Str.ofString "/claim/cut.py") 271]) (#[])),
  (69, Obj.mk (Value.type "function") (none) (Data.func (FuncData.mk (Str.ofString "__str__") (Str.ofString "Production.__str__") (stArgs (stAt (stBody (stAt pw.main.body 6)) 3)) (.stmts (stBody (stAt (stBody (stAt pw.main.body 6)) 3))) (stScope (stAt (stBody (stAt pw.main.body 6)) 3)) 3 [] (Value.none) (Value.none) (Value.none) (Value.str (Str.ofString "ply.yacc") 194) (none) (Value.ref 68) (Value.none) 0)) (#[])),
  (75, Obj.mk (Value.type "code") (none) (Data.fields   #[Value.str (Str.ofString "__repr__") 273, Value.str (Str.ofString "Production.__repr__") 274,     Value.str (Str.ofString "/claim/cut.py") 275, Value.int 42 0, Value.int 1 0, Value.int 0 0, Value.int 0 0,     Value.int 3 0, Value.ref 70, Value.bool true, Value.int 181 0, Value.ref 71, Value.none, Value.ref 72, Value.ref 73,     Value.ref 74, Value.int 277 0, Value.int 42 0, Value.str (Str.ofString "/claim/cut.py") 278]) (#[])),
  (76, Obj.mk (Value.type "function") (none) (Data.func (FuncData.mk (Str.ofString "__repr__") (Str.ofString "Production.__repr__") (stArgs (stAt (stBody (stAt pw.main.body 6)) 4)) (.stmts (stBody (stAt (stBody (stAt pw.main.body 6)) 4))) (stScope (stAt (stBody (stAt pw.main.body 6)) 4)) 3 [] (Value.none) (Value.none) (Value.none) (Value.str (Str.ofString "ply.yacc") 194) (none) (Value.ref 75) (Value.none) 0)) (#[])),
  (82, Obj.mk (Value.type "code") (none) (Data.fields   #[Value.str (Str.ofString "__len__") 280, Value.str (Str.ofString "Production.__len__") 281,     Value.str (Str.ofString "/claim/cut.py") 282, Value.int 45 0, Value.int 1 0, Value.int 0 0, Value.int 0 0,     Value.int 3 0, Value.ref 77, Value.bool true, Value.int 181 0, Value.ref 78, Value.none, Value.ref 79, Value.ref 80,     Value.ref 81, Value.int 284 0, Value.int 45 0, Value.str (Str.ofString "/claim/cut.py") 285]) (#[])),
  (83, Obj.mk (Value.type "function") (none) (Data.func (FuncData.mk (Str.ofString "__len__") (Str.ofString "Production.__len__") (stArgs (stAt (stBody (stAt pw.main.body 6)) 5)) (.stmts (stBody (stAt (stBody (stAt pw.main.body 6)) 5))) (stScope (stAt (stBody (stAt pw.main.body 6)) 5)) 3 [] (Value.none) (Value.none) (Value.none) (Value.str (Str.ofString "ply.yacc") 194) (none) (Value.ref 82) (Value.none) 0)) (#[])),
  (89, Obj.mk (Value.type "code") (none) (Data.fields   #[Value.str (Str.ofString "__getitem__") 287, Value.str (Str.ofString "Production.__getitem__") 288,     Value.str (Str.ofString "/claim/cut.py") 289, Value.int 48 0, Value.int 2 0, Value.int 0 0, Value.int 0 0,     Value.int 3 0, Value.ref 84, Value.bool true, Value.int 181 0, Value.ref 85, Value.none, Value.ref 86, Value.ref 87,     Value.ref 88, Value.int 292 0, Value.int 48 0, Value.str (Str.ofString "/claim/cut.py") 293]) (#[])),
  (90, Obj.mk (Value.type "function") (none) (Data.func (FuncData.mk (Str.ofString "__getitem__") (Str.ofString "Production.__getitem__") (stArgs (stAt (stBody (stAt pw.main.body 6)) 6)) (.stmts (stBody (stAt (stBody (stAt pw.main.body 6)) 6))) (stScope (stAt (stBody (stAt pw.main.body 6)) 6)) 3 [] (Value.none) (Value.none) (Value.none) (Value.str (Str.ofString "ply.yacc") 194) (none) (Value.ref 89) (Value.none) 0)) (#[])),
  (96, Obj.mk (Value.type "code") (none) (Data.fields   #[Value.str (Str.ofString "bind") 295, Value.str (Str.ofString "Production.bind") 296,     Value.str (Str.ofString "/claim/cut.py") 297, Value.int 51 0, Value.int 2 0, Value.int 0 0, Value.int 0 0,     Value.int 3 0, Value.ref 91, Value.bool true, Value.int 181 0, Value.ref 92, Value.none, Value.ref 93, Value.ref 94,     Value.ref 95, Value.int 300 0, Value.int 51 0, Value.str (Str.ofString "/claim/cut.py") 301]) (#[])),
  (97, Obj.mk (Value.type "function") (none) (Data.func (FuncData.mk (Str.ofString "bind") (Str.ofString "Production.bind") (stArgs (stAt (stBody (stAt pw.main.body 6)) 7)) (.stmts (stBody (stAt (stBody (stAt pw.main.body 6)) 7))) (stScope (stAt (stBody (stAt pw.main.body 6)) 7)) 3 [] (Value.none) (Value.none) (Value.none) (Value.str (Str.ofString "ply.yacc") 194) (none) (Value.ref 96) (Value.none) 0)) (#[])),
  (99, Obj.mk (Value.type "dict") (none) (Data.dict   #[{ hash := PyData.keyHash P (Str.ofString "__module__"), key := Value.str (Str.ofString "__module__") 238,       val := Value.str (Str.ofString "ply.yacc") 194 },     { hash := PyData.keyHash P (Str.ofString "__firstlineno__"), key := Value.str (Str.ofString "__firstlineno__") 242,       val := Value.int 14 241 },     { hash := PyData.keyHash P (Str.ofString "reduced"), key := Value.str (Str.ofString "reduced") 244,       val := Value.int 0 243 },     { hash := PyData.keyHash P (Str.ofString "lr0_added"), key := Value.str (Str.ofString "lr0_added") 246,       val := Value.int 0 245 },     { hash := PyData.keyHash P (Str.ofString "__init__"), key := Value.str (Str.ofString "__init__") 265,       val := Value.ref 62 },     { hash := PyData.keyHash P (Str.ofString "__str__"), key := Value.str (Str.ofString "__str__") 272,       val := Value.ref 69 },     { hash := PyData.keyHash P (Str.ofString "__repr__"), key := Value.str (Str.ofString "__repr__") 279,       val := Value.ref 76 },     { hash := PyData.keyHash P (Str.ofString "__len__"), key := Value.str (Str.ofString "__len__") 286,       val := Value.ref 83 },     { hash := PyData.keyHash P (Str.ofString "__getitem__"), key := Value.str (Str.ofString "__getitem__") 294,       val := Value.ref 90 },     { hash := PyData.keyHash P (Str.ofString "bind"), key := Value.str (Str.ofString "bind") 302, val := Value.ref 97 },     { hash := PyData.keyHash P (Str.ofString "__static_attributes__"),       key := Value.str (Str.ofString "__static_attributes__") 316, val := Value.ref 98 },     { hash := PyData.keyHash P (Str.ofString "__dict__"), key := Value.str (Str.ofString "__dict__") 318,       val := Value.ref 101 },     { hash := PyData.keyHash P (Str.ofString "__weakref__"), key := Value.str (Str.ofString "__weakref__") 320,       val := Value.ref 102 },     { hash := PyData.keyHash P (Str.ofString "__doc__"), key := Value.str (Str.ofString "__doc__") 321,       val := Value.none }]   4) (#[])),
  (100, Obj.mk (Value.type "type") (none) (Data.cls   { name := Str.ofString "Production", bases := [Value.type "object"], mro := [Value.ref 100, Value.type "object"],     ns := 99, qualname := Str.ofString "Production" }) (#[some (Value.ref 47), none, some (Value.str (Str.ofString "Production") 231),   some (Value.str (Str.ofString "Production") 239), some (Value.builtin "object.__new__"), some (Value.bool true)])),
  (101, Obj.mk (Value.type "getset_descriptor") (none) (Data.fields   #[Value.str (Str.ofString "__dict__") 317, Value.ref 100, Value.builtin "function.__dict__",     Value.builtin "function.__dict__#set"]) (#[])),
  (102, Obj.mk (Value.type "getset_descriptor") (none) (Data.fields   #[Value.str (Str.ofString "__weakref__") 319, Value.ref 100, Value.builtin "ExceptionGroup.__weakref__", Value.none]) (#[])),
  (110, Obj.mk (Value.type "code") (none) (Data.fields   #[Value.str (Str.ofString "rightmost_terminal") 324, Value.str (Str.ofString "rightmost_terminal") 325,     Value.str (Str.ofString "/claim/cut.py") 326, Value.int 53 0, Value.int 2 0, Value.int 0 0, Value.int 0 0,     Value.int 3 0, Value.ref 105, Value.bool true, Value.int 181 0, Value.ref 106, Value.none, Value.ref 107,     Value.ref 108, Value.ref 109, Value.int 330 0, Value.int 53 0, Value.str (Str.ofString "/claim/cut.py") 331]) (#[])),
  (111, Obj.mk (Value.type "function") (none) (Data.func (FuncData.mk (Str.ofString "rightmost_terminal") (Str.ofString "rightmost_terminal") (stArgs (stAt pw.main.body 7)) (.stmts (stBody (stAt pw.main.body 7))) (stScope (stAt pw.main.body 7)) 3 [] (Value.none) (Value.none) (Value.none) (Value.str (Str.ofString "ply.yacc") 194) (none) (Value.ref 110) (Value.none) 0)) (#[])),
  (120, Obj.mk (Value.type "dict") (none) (Data.dict   #[{ hash := PyData.keyHash P (Str.ofString "__module__"), key := Value.str (Str.ofString "__module__") 340,       val := Value.str (Str.ofString "ply.yacc") 194 },     { hash := PyData.keyHash P (Str.ofString "__firstlineno__"), key := Value.str (Str.ofString "__firstlineno__") 344,       val := Value.int 60 343 },     { hash := PyData.keyHash P (Str.ofString "__static_attributes__"),       key := Value.str (Str.ofString "__static_attributes__") 345, val := Value.ref 119 },     { hash := PyData.keyHash P (Str.ofString "__doc__"), key := Value.str (Str.ofString "__doc__") 346,       val := Value.none }]   2) (#[])),
  (121, Obj.mk (Value.type "type") (none) (Data.cls   { name := Str.ofString "GrammarError", bases := [Value.ref 31],     mro := [Value.ref 121, Value.ref 31, Value.type "Exception", Value.type "BaseException", Value.type "object"],     ns := 120, qualname := Str.ofString "GrammarError" }) (#[some (Value.ref 112), none, some (Value.str (Str.ofString "GrammarError") 333),   some (Value.str (Str.ofString "GrammarError") 341), some (Value.builtin "Exception.__new__"), some (Value.bool true)])),
  (136, Obj.mk (Value.type "code") (none) (Data.fields   #[Value.str (Str.ofString "__init__") 361, Value.str (Str.ofString "Grammar.__init__") 362,     Value.str (Str.ofString "/claim/cut.py") 363, Value.int 64 0, Value.int 2 0, Value.int 0 0, Value.int 0 0,     Value.int 3 0, Value.ref 131, Value.bool true, Value.int 181 0, Value.ref 132, Value.none, Value.ref 133,     Value.ref 134, Value.ref 135, Value.int 367 0, Value.int 64 0, Value.str (Str.ofString "/claim/cut.py") 368]) (#[])),
  (137, Obj.mk (Value.type "function") (none) (Data.func (FuncData.mk (Str.ofString "__init__") (Str.ofString "Grammar.__init__") (stArgs (stAt (stBody (stAt pw.main.body 9)) 0)) (.stmts (stBody (stAt (stBody (stAt pw.main.body 9)) 0))) (stScope (stAt (stBody (stAt pw.main.body 9)) 0)) 3 [] (Value.none) (Value.none) (Value.none) (Value.str (Str.ofString "ply.yacc") 194) (none) (Value.ref 136) (Value.none) 0)) (#[])),
  (143, Obj.mk (Value.type "code") (none) (Data.fields   #[Value.str (Str.ofString "__len__") 370, Value.str (Str.ofString "Grammar.__len__") 371,     Value.str (Str.ofString "/claim/cut.py") 372, Value.int 79 0, Value.int 1 0, Value.int 0 0, Value.int 0 0,     Value.int 3 0, Value.ref 138, Value.bool true, Value.int 181 0, Value.ref 139, Value.none, Value.ref 140,     Value.ref 141, Value.ref 142, Value.int 374 0, Value.int 79 0, Value.str (Str.ofString "/claim/cut.py") 375]) (#[])),
  (144, Obj.mk (Value.type "function") (none) (Data.func (FuncData.mk (Str.ofString "__len__") (Str.ofString "Grammar.__len__") (stArgs (stAt (stBody (stAt pw.main.body 9)) 1)) (.stmts (stBody (stAt (stBody (stAt pw.main.body 9)) 1))) (stScope (stAt (stBody (stAt pw.main.body 9)) 1)) 3 [] (Value.none) (Value.none) (Value.none) (Value.str (Str.ofString "ply.yacc") 194) (none) (Value.ref 143) (Value.none) 0)) (#[])),
  (150, Obj.mk (Value.type "code") (none) (Data.fields   #[Value.str (Str.ofString "__getitem__") 377, Value.str (Str.ofString "Grammar.__getitem__") 378,     Value.str (Str.ofString "/claim/cut.py") 379, Value.int 82 0, Value.int 2 0, Value.int 0 0, Value.int 0 0,     Value.int 3 0, Value.ref 145, Value.bool true, Value.int 181 0, Value.ref 146, Value.none, Value.ref 147,     Value.ref 148, Value.ref 149, Value.int 382 0, Value.int 82 0, Value.str (Str.ofString "/claim/cut.py") 383]) (#[])),
  (151, Obj.mk (Value.type "function") (none) (Data.func (FuncData.mk (Str.ofString "__getitem__") (Str.ofString "Grammar.__getitem__") (stArgs (stAt (stBody (stAt pw.main.body 9)) 2)) (.stmts (stBody (stAt (stBody (stAt pw.main.body 9)) 2))) (stScope (stAt (stBody (stAt pw.main.body 9)) 2)) 3 [] (Value.none) (Value.none) (Value.none) (Value.str (Str.ofString "ply.yacc") 194) (none) (Value.ref 150) (Value.none) 0)) (#[])),
  (157, Obj.mk (Value.type "code") (none) (Data.fields   #[Value.str (Str.ofString "set_precedence") 385, Value.str (Str.ofString "Grammar.set_precedence") 386,     Value.str (Str.ofString "/claim/cut.py") 387, Value.int 85 0, Value.int 4 0, Value.int 0 0, Value.int 0 0,     Value.int 3 0, Value.ref 152, Value.bool true, Value.int 181 0, Value.ref 153, Value.none, Value.ref 154,     Value.ref 155, Value.ref 156, Value.int 392 0, Value.int 85 0, Value.str (Str.ofString "/claim/cut.py") 393]) (#[])),
  (158, Obj.mk (Value.type "function") (none) (Data.func (FuncData.mk (Str.ofString "set_precedence") (Str.ofString "Grammar.set_precedence") (stArgs (stAt (stBody (stAt pw.main.body 9)) 3)) (.stmts (stBody (stAt (stBody (stAt pw.main.body 9)) 3))) (stScope (stAt (stBody (stAt pw.main.body 9)) 3)) 3 [] (Value.none) (Value.none) (Value.none) (Value.str (Str.ofString "ply.yacc") 194) (none) (Value.ref 157) (Value.none) 0)) (#[])),
  (159, Obj.mk (Value.type "tuple") (none) (Data.seq #[Value.none, Value.str (Str.ofString "") 395, Value.int 0 396]) (#[])),
  (165, Obj.mk (Value.type "code") (none) (Data.fields   #[Value.str (Str.ofString "add_production") 397, Value.str (Str.ofString "Grammar.add_production") 398,     Value.str (Str.ofString "/claim/cut.py") 399, Value.int 88 0, Value.int 6 0, Value.int 0 0, Value.int 0 0,     Value.int 3 0, Value.ref 160, Value.bool true, Value.int 181 0, Value.ref 161, Value.none, Value.ref 162,     Value.ref 163, Value.ref 164, Value.int 416 0, Value.int 88 0, Value.str (Str.ofString "/claim/cut.py") 417]) (#[])),
  (166, Obj.mk (Value.type "function") (none) (Data.func (FuncData.mk (Str.ofString "add_production") (Str.ofString "Grammar.add_production") (stArgs (stAt (stBody (stAt pw.main.body 9)) 4)) (.stmts (stBody (stAt (stBody (stAt pw.main.body 9)) 4))) (stScope (stAt (stBody (stAt pw.main.body 9)) 4)) 3 [] (Value.ref 159) (Value.none) (Value.none) (Value.str (Str.ofString "ply.yacc") 194) (none) (Value.ref 165) (Value.none) 0)) (#[])),
  (167, Obj.mk (Value.type "tuple") (none) (Data.seq #[Value.none]) (#[])),
  (173, Obj.mk (Value.type "code") (none) (Data.fields   #[Value.str (Str.ofString "set_start") 419, Value.str (Str.ofString "Grammar.set_start") 420,     Value.str (Str.ofString "/claim/cut.py") 421, Value.int 146 0, Value.int 2 0, Value.int 0 0, Value.int 0 0,     Value.int 3 0, Value.ref 168, Value.bool true, Value.int 181 0, Value.ref 169, Value.none, Value.ref 170,     Value.ref 171, Value.ref 172, Value.int 424 0, Value.int 146 0, Value.str (Str.ofString "/claim/cut.py") 425]) (#[])),
  (174, Obj.mk (Value.type "function") (none) (Data.func (FuncData.mk (Str.ofString "set_start") (Str.ofString "Grammar.set_start") (stArgs (stAt (stBody (stAt pw.main.body 9)) 5)) (.stmts (stBody (stAt (stBody (stAt pw.main.body 9)) 5))) (stScope (stAt (stBody (stAt pw.main.body 9)) 5)) 3 [] (Value.ref 167) (Value.none) (Value.none) (Value.str (Str.ofString "ply.yacc") 194) (none) (Value.ref 173) (Value.none) 0)) (#[])),
  (180, Obj.mk (Value.type "code") (none) (Data.fields   #[Value.str (Str.ofString "find_unreachable") 427, Value.str (Str.ofString "Grammar.find_unreachable") 428,     Value.str (Str.ofString "/claim/cut.py") 429, Value.int 155 0, Value.int 1 0, Value.int 0 0, Value.int 0 0,     Value.int 3 0, Value.ref 175, Value.bool true, Value.int 181 0, Value.ref 176, Value.none, Value.ref 177,     Value.ref 178, Value.ref 179, Value.int 431 0, Value.int 155 0, Value.str (Str.ofString "/claim/cut.py") 432]) (#[])),
  (181, Obj.mk (Value.type "function") (none) (Data.func (FuncData.mk (Str.ofString "find_unreachable") (Str.ofString "Grammar.find_unreachable") (stArgs (stAt (stBody (stAt pw.main.body 9)) 6)) (.stmts (stBody (stAt (stBody (stAt pw.main.body 9)) 6))) (stScope (stAt (stBody (stAt pw.main.body 9)) 6)) 3 [] (Value.none) (Value.none) (Value.none) (Value.str (Str.ofString "ply.yacc") 194) (none) (Value.ref 180) (Value.none) 0)) (#[])),
  (187, Obj.mk (Value.type "code") (none) (Data.fields   #[Value.str (Str.ofString "infinite_cycles") 434, Value.str (Str.ofString "Grammar.infinite_cycles") 435,     Value.str (Str.ofString "/claim/cut.py") 436, Value.int 158 0, Value.int 1 0, Value.int 0 0, Value.int 0 0,     Value.int 3 0, Value.ref 182, Value.bool true, Value.int 181 0, Value.ref 183, Value.none, Value.ref 184,     Value.ref 185, Value.ref 186, Value.int 438 0, Value.int 158 0, Value.str (Str.ofString "/claim/cut.py") 439]) (#[])),
  (188, Obj.mk (Value.type "function") (none) (Data.func (FuncData.mk (Str.ofString "infinite_cycles") (Str.ofString "Grammar.infinite_cycles") (stArgs (stAt (stBody (stAt pw.main.body 9)) 7)) (.stmts (stBody (stAt (stBody (stAt pw.main.body 9)) 7))) (stScope (stAt (stBody (stAt pw.main.body 9)) 7)) 3 [] (Value.none) (Value.none) (Value.none) (Value.str (Str.ofString "ply.yacc") 194) (none) (Value.ref 187) (Value.none) 0)) (#[])),
  (194, Obj.mk (Value.type "code") (none) (Data.fields   #[Value.str (Str.ofString "undefined_symbols") 441, Value.str (Str.ofString "Grammar.undefined_symbols") 442,     Value.str (Str.ofString "/claim/cut.py") 443, Value.int 161 0, Value.int 1 0, Value.int 0 0, Value.int 0 0,     Value.int 3 0, Value.ref 189, Value.bool true, Value.int 181 0, Value.ref 190, Value.none, Value.ref 191,     Value.ref 192, Value.ref 193, Value.int 445 0, Value.int 161 0, Value.str (Str.ofString "/claim/cut.py") 446]) (#[])),
  (195, Obj.mk (Value.type "function") (none) (Data.func (FuncData.mk (Str.ofString "undefined_symbols") (Str.ofString "Grammar.undefined_symbols") (stArgs (stAt (stBody (stAt pw.main.body 9)) 8)) (.stmts (stBody (stAt (stBody (stAt pw.main.body 9)) 8))) (stScope (stAt (stBody (stAt pw.main.body 9)) 8)) 3 [] (Value.none) (Value.none) (Value.none) (Value.str (Str.ofString "ply.yacc") 194) (none) (Value.ref 194) (Value.none) 0)) (#[])),
  (201, Obj.mk (Value.type "code") (none) (Data.fields   #[Value.str (Str.ofString "unused_terminals") 448, Value.str (Str.ofString "Grammar.unused_terminals") 449,     Value.str (Str.ofString "/claim/cut.py") 450, Value.int 164 0, Value.int 1 0, Value.int 0 0, Value.int 0 0,     Value.int 3 0, Value.ref 196, Value.bool true, Value.int 181 0, Value.ref 197, Value.none, Value.ref 198,     Value.ref 199, Value.ref 200, Value.int 452 0, Value.int 164 0, Value.str (Str.ofString "/claim/cut.py") 453]) (#[])),
  (202, Obj.mk (Value.type "function") (none) (Data.func (FuncData.mk (Str.ofString "unused_terminals") (Str.ofString "Grammar.unused_terminals") (stArgs (stAt (stBody (stAt pw.main.body 9)) 9)) (.stmts (stBody (stAt (stBody (stAt pw.main.body 9)) 9))) (stScope (stAt (stBody (stAt pw.main.body 9)) 9)) 3 [] (Value.none) (Value.none) (Value.none) (Value.str (Str.ofString "ply.yacc") 194) (none) (Value.ref 201) (Value.none) 0)) (#[])),
  (208, Obj.mk (Value.type "code") (none) (Data.fields   #[Value.str (Str.ofString "unused_rules") 455, Value.str (Str.ofString "Grammar.unused_rules") 456,     Value.str (Str.ofString "/claim/cut.py") 457, Value.int 167 0, Value.int 1 0, Value.int 0 0, Value.int 0 0,     Value.int 3 0, Value.ref 203, Value.bool true, Value.int 181 0, Value.ref 204, Value.none, Value.ref 205,     Value.ref 206, Value.ref 207, Value.int 459 0, Value.int 167 0, Value.str (Str.ofString "/claim/cut.py") 460]) (#[])),
  (209, Obj.mk (Value.type "function") (none) (Data.func (FuncData.mk (Str.ofString "unused_rules") (Str.ofString "Grammar.unused_rules") (stArgs (stAt (stBody (stAt pw.main.body 9)) 10)) (.stmts (stBody (stAt (stBody (stAt pw.main.body 9)) 10))) (stScope (stAt (stBody (stAt pw.main.body 9)) 10)) 3 [] (Value.none) (Value.none) (Value.none) (Value.str (Str.ofString "ply.yacc") 194) (none) (Value.ref 208) (Value.none) 0)) (#[])),
  (215, Obj.mk (Value.type "code") (none) (Data.fields   #[Value.str (Str.ofString "unused_precedence") 462, Value.str (Str.ofString "Grammar.unused_precedence") 463,     Value.str (Str.ofString "/claim/cut.py") 464, Value.int 170 0, Value.int 1 0, Value.int 0 0, Value.int 0 0,     Value.int 3 0, Value.ref 210, Value.bool true, Value.int 181 0, Value.ref 211, Value.none, Value.ref 212,     Value.ref 213, Value.ref 214, Value.int 466 0, Value.int 170 0, Value.str (Str.ofString "/claim/cut.py") 467]) (#[])),
  (216, Obj.mk (Value.type "function") (none) (Data.func (FuncData.mk (Str.ofString "unused_precedence") (Str.ofString "Grammar.unused_precedence") (stArgs (stAt (stBody (stAt pw.main.body 9)) 11)) (.stmts (stBody (stAt (stBody (stAt pw.main.body 9)) 11))) (stScope (stAt (stBody (stAt pw.main.body 9)) 11)) 3 [] (Value.none) (Value.none) (Value.none) (Value.str (Str.ofString "ply.yacc") 194) (none) (Value.ref 215) (Value.none) 0)) (#[])),
  (222, Obj.mk (Value.type "code") (none) (Data.fields   #[Value.str (Str.ofString "_first") 469, Value.str (Str.ofString "Grammar._first") 470,     Value.str (Str.ofString "/claim/cut.py") 471, Value.int 173 0, Value.int 2 0, Value.int 0 0, Value.int 0 0,     Value.int 3 0, Value.ref 217, Value.bool true, Value.int 181 0, Value.ref 218, Value.none, Value.ref 219,     Value.ref 220, Value.ref 221, Value.int 478 0, Value.int 173 0, Value.str (Str.ofString "/claim/cut.py") 479]) (#[])),
  (223, Obj.mk (Value.type "function") (none) (Data.func (FuncData.mk (Str.ofString "_first") (Str.ofString "Grammar._first") (stArgs (stAt (stBody (stAt pw.main.body 9)) 12)) (.stmts (stBody (stAt (stBody (stAt pw.main.body 9)) 12))) (stScope (stAt (stBody (stAt pw.main.body 9)) 12)) 3 [] (Value.none) (Value.none) (Value.none) (Value.str (Str.ofString "ply.yacc") 194) (none) (Value.ref 222) (Value.none) 0)) (#[])),
  (229, Obj.mk (Value.type "code") (none) (Data.fields   #[Value.str (Str.ofString "compute_first") 481, Value.str (Str.ofString "Grammar.compute_first") 482,     Value.str (Str.ofString "/claim/cut.py") 483, Value.int 190 0, Value.int 1 0, Value.int 0 0, Value.int 0 0,     Value.int 3 0, Value.ref 224, Value.bool true, Value.int 181 0, Value.ref 225, Value.none, Value.ref 226,     Value.ref 227, Value.ref 228, Value.int 490 0, Value.int 190 0, Value.str (Str.ofString "/claim/cut.py") 491]) (#[])),
  (230, Obj.mk (Value.type "function") (none) (Data.func (FuncData.mk (Str.ofString "compute_first") (Str.ofString "Grammar.compute_first") (stArgs (stAt (stBody (stAt pw.main.body 9)) 13)) (.stmts (stBody (stAt (stBody (stAt pw.main.body 9)) 13))) (stScope (stAt (stBody (stAt pw.main.body 9)) 13)) 3 [] (Value.none) (Value.none) (Value.none) (Value.str (Str.ofString "ply.yacc") 194) (none) (Value.ref 229) (Value.none) 0)) (#[])),
  (231, Obj.mk (Value.type "tuple") (none) (Data.seq #[Value.none]) (#[])),
  (237, Obj.mk (Value.type "code") (none) (Data.fields   #[Value.str (Str.ofString "compute_follow") 493, Value.str (Str.ofString "Grammar.compute_follow") 494,     Value.str (Str.ofString "/claim/cut.py") 495, Value.int 210 0, Value.int 2 0, Value.int 0 0, Value.int 0 0,     Value.int 3 0, Value.ref 232, Value.bool true, Value.int 181 0, Value.ref 233, Value.none, Value.ref 234,     Value.ref 235, Value.ref 236, Value.int 506 0, Value.int 210 0, Value.str (Str.ofString "/claim/cut.py") 507]) (#[])),
  (238, Obj.mk (Value.type "function") (none) (Data.func (FuncData.mk (Str.ofString "compute_follow") (Str.ofString "Grammar.compute_follow") (stArgs (stAt (stBody (stAt pw.main.body 9)) 14)) (.stmts (stBody (stAt (stBody (stAt pw.main.body 9)) 14))) (stScope (stAt (stBody (stAt pw.main.body 9)) 14)) 3 [] (Value.ref 231) (Value.none) (Value.none) (Value.str (Str.ofString "ply.yacc") 194) (none) (Value.ref 237) (Value.none) 0)) (#[])),
  (244, Obj.mk (Value.type "code") (none) (Data.fields   #[Value.str (Str.ofString "build_lritems") 509, Value.str (Str.ofString "Grammar.build_lritems") 510,     Value.str (Str.ofString "/claim/cut.py") 511, Value.int 242 0, Value.int 1 0, Value.int 0 0, Value.int 0 0,     Value.int 3 0, Value.ref 239, Value.bool true, Value.int 181 0, Value.ref 240, Value.none, Value.ref 241,     Value.ref 242, Value.ref 243, Value.int 513 0, Value.int 242 0, Value.str (Str.ofString "/claim/cut.py") 514]) (#[])),
  (245, Obj.mk (Value.type "function") (none) (Data.func (FuncData.mk (Str.ofString "build_lritems") (Str.ofString "Grammar.build_lritems") (stArgs (stAt (stBody (stAt pw.main.body 9)) 15)) (.stmts (stBody (stAt (stBody (stAt pw.main.body 9)) 15))) (stScope (stAt (stBody (stAt pw.main.body 9)) 15)) 3 [] (Value.none) (Value.none) (Value.none) (Value.str (Str.ofString "ply.yacc") 194) (none) (Value.ref 244) (Value.none) 0)) (#[])),
  (247, Obj.mk (Value.type "dict") (none) (Data.dict   #[{ hash := PyData.keyHash P (Str.ofString "__module__"), key := Value.str (Str.ofString "__module__") 356,       val := Value.str (Str.ofString "ply.yacc") 194 },     { hash := PyData.keyHash P (Str.ofString "__firstlineno__"), key := Value.str (Str.ofString "__firstlineno__") 360,       val := Value.int 62 359 },     { hash := PyData.keyHash P (Str.ofString "__init__"), key := Value.str (Str.ofString "__init__") 369,       val := Value.ref 137 },     { hash := PyData.keyHash P (Str.ofString "__len__"), key := Value.str (Str.ofString "__len__") 376,       val := Value.ref 144 },     { hash := PyData.keyHash P (Str.ofString "__getitem__"), key := Value.str (Str.ofString "__getitem__") 384,       val := Value.ref 151 },     { hash := PyData.keyHash P (Str.ofString "set_precedence"), key := Value.str (Str.ofString "set_precedence") 394,       val := Value.ref 158 },     { hash := PyData.keyHash P (Str.ofString "add_production"), key := Value.str (Str.ofString "add_production") 418,       val := Value.ref 166 },     { hash := PyData.keyHash P (Str.ofString "set_start"), key := Value.str (Str.ofString "set_start") 426,       val := Value.ref 174 },     { hash := PyData.keyHash P (Str.ofString "find_unreachable"),       key := Value.str (Str.ofString "find_unreachable") 433, val := Value.ref 181 },     { hash := PyData.keyHash P (Str.ofString "infinite_cycles"), key := Value.str (Str.ofString "infinite_cycles") 440,       val := Value.ref 188 },     { hash := PyData.keyHash P (Str.ofString "undefined_symbols"),       key := Value.str (Str.ofString "undefined_symbols") 447, val := Value.ref 195 },     { hash := PyData.keyHash P (Str.ofString "unused_terminals"),       key := Value.str (Str.ofString "unused_terminals") 454, val := Value.ref 202 },     { hash := PyData.keyHash P (Str.ofString "unused_rules"), key := Value.str (Str.ofString "unused_rules") 461,       val := Value.ref 209 },     { hash := PyData.keyHash P (Str.ofString "unused_precedence"),       key := Value.str (Str.ofString "unused_precedence") 468, val := Value.ref 216 },     { hash := PyData.keyHash P (Str.ofString "_first"), key := Value.str (Str.ofString "_first") 480,       val := Value.ref 223 },     { hash := PyData.keyHash P (Str.ofString "compute_first"), key := Value.str (Str.ofString "compute_first") 492,       val := Value.ref 230 },     { hash := PyData.keyHash P (Str.ofString "compute_follow"), key := Value.str (Str.ofString "compute_follow") 508,       val := Value.ref 238 },     { hash := PyData.keyHash P (Str.ofString "build_lritems"), key := Value.str (Str.ofString "build_lritems") 515,       val := Value.ref 245 },     { hash := PyData.keyHash P (Str.ofString "__static_attributes__"),       key := Value.str (Str.ofString "__static_attributes__") 526, val := Value.ref 246 },     { hash := PyData.keyHash P (Str.ofString "__dict__"), key := Value.str (Str.ofString "__dict__") 528,       val := Value.ref 249 },     { hash := PyData.keyHash P (Str.ofString "__weakref__"), key := Value.str (Str.ofString "__weakref__") 530,       val := Value.ref 250 },     { hash := PyData.keyHash P (Str.ofString "__doc__"), key := Value.str (Str.ofString "__doc__") 531,       val := Value.none }]   4) (#[])),
  (248, Obj.mk (Value.type "type") (none) (Data.cls   { name := Str.ofString "Grammar", bases := [Value.type "object"], mro := [Value.ref 248, Value.type "object"],     ns := 247, qualname := Str.ofString "Grammar" }) (#[some (Value.ref 124), none, some (Value.str (Str.ofString "Grammar") 349),   some (Value.str (Str.ofString "Grammar") 357), some (Value.builtin "object.__new__"), some (Value.bool true)])),
  (249, Obj.mk (Value.type "getset_descriptor") (none) (Data.fields   #[Value.str (Str.ofString "__dict__") 527, Value.ref 248, Value.builtin "function.__dict__",     Value.builtin "function.__dict__#set"]) (#[])),
  (250, Obj.mk (Value.type "getset_descriptor") (none) (Data.fields   #[Value.str (Str.ofString "__weakref__") 529, Value.ref 248, Value.builtin "ExceptionGroup.__weakref__", Value.none]) (#[])),
  (258, Obj.mk (Value.type "code") (none) (Data.fields   #[Value.str (Str.ofString "_law_SIGNS") 536, Value.str (Str.ofString "_law_SIGNS") 537,     Value.str (Str.ofString "/claim/cut.py") 538, Value.int 245 0, Value.int 0 0, Value.int 0 0, Value.int 0 0,     Value.int 3 0, Value.ref 253, Value.bool true, Value.int 181 0, Value.ref 254, Value.none, Value.ref 255,     Value.ref 256, Value.ref 257, Value.int 539 0, Value.int 245 0, Value.str (Str.ofString "/claim/cut.py") 540]) (#[])),
  (259, Obj.mk (Value.type "function") (none) (Data.func (FuncData.mk (Str.ofString "_law_SIGNS") (Str.ofString "_law_SIGNS") (stArgs (stAt pw.main.body 11)) (.stmts (stBody (stAt pw.main.body 11))) (stScope (stAt pw.main.body 11)) 3 [] (Value.none) (Value.none) (Value.none) (Value.str (Str.ofString "law_te0001_02") 534) (none) (Value.ref 258) (Value.none) 0)) (#[])),
  (265, Obj.mk (Value.type "code") (none) (Data.fields   #[Value.str (Str.ofString "_law_body") 542, Value.str (Str.ofString "_law_body") 543,     Value.str (Str.ofString "/claim/cut.py") 544, Value.int 247 0, Value.int 2 0, Value.int 0 0, Value.int 0 0,     Value.int 3 0, Value.ref 260, Value.bool true, Value.int 181 0, Value.ref 261, Value.none, Value.ref 262,     Value.ref 263, Value.ref 264, Value.int 549 0, Value.int 247 0, Value.str (Str.ofString "/claim/cut.py") 550]) (#[])),
  (266, Obj.mk (Value.type "function") (none) (Data.func (FuncData.mk (Str.ofString "_law_body") (Str.ofString "_law_body") (stArgs (stAt pw.main.body 12)) (.stmts (stBody (stAt pw.main.body 12))) (stScope (stAt pw.main.body 12)) 3 [] (Value.none) (Value.none) (Value.none) (Value.str (Str.ofString "law_te0001_02") 534) (none) (Value.ref 265) (Value.none) 0)) (#[])),
  (272, Obj.mk (Value.type "code") (none) (Data.fields   #[Value.str (Str.ofString "_law_tails") 552, Value.str (Str.ofString "_law_tails") 553,     Value.str (Str.ofString "/claim/cut.py") 554, Value.int 253 0, Value.int 2 0, Value.int 0 0, Value.int 0 0,     Value.int 3 0, Value.ref 267, Value.bool true, Value.int 181 0, Value.ref 268, Value.none, Value.ref 269,     Value.ref 270, Value.ref 271, Value.int 562 0, Value.int 253 0, Value.str (Str.ofString "/claim/cut.py") 563]) (#[])),
  (273, Obj.mk (Value.type "function") (none) (Data.func (FuncData.mk (Str.ofString "_law_tails") (Str.ofString "_law_tails") (stArgs (stAt pw.main.body 13)) (.stmts (stBody (stAt pw.main.body 13))) (stScope (stAt pw.main.body 13)) 3 [] (Value.none) (Value.none) (Value.none) (Value.str (Str.ofString "law_te0001_02") 534) (none) (Value.ref 272) (Value.none) 0)) (#[])),
  (279, Obj.mk (Value.type "code") (none) (Data.fields   #[Value.str (Str.ofString "_law_made") 565, Value.str (Str.ofString "_law_made") 566,     Value.str (Str.ofString "/claim/cut.py") 567, Value.int 261 0, Value.int 3 0, Value.int 0 0, Value.int 0 0,     Value.int 3 0, Value.ref 274, Value.bool true, Value.int 181 0, Value.ref 275, Value.none, Value.ref 276,     Value.ref 277, Value.ref 278, Value.int 574 0, Value.int 261 0, Value.str (Str.ofString "/claim/cut.py") 575]) (#[])),
  (280, Obj.mk (Value.type "function") (none) (Data.func (FuncData.mk (Str.ofString "_law_made") (Str.ofString "_law_made") (stArgs (stAt pw.main.body 14)) (.stmts (stBody (stAt pw.main.body 14))) (stScope (stAt pw.main.body 14)) 3 [] (Value.none) (Value.none) (Value.none) (Value.str (Str.ofString "law_te0001_02") 534) (none) (Value.ref 279) (Value.none) 0)) (#[])),
  (284, Obj.mk (Value.type "code") (none) (Data.fields   #[Value.str (Str.ofString "_law_opening") 577, Value.str (Str.ofString "_law_opening") 578,     Value.str (Str.ofString "/claim/cut.py") 579, Value.int 267 0, Value.int 2 0, Value.int 0 0, Value.int 0 0,     Value.int 3 0, Value.ref 281, Value.bool true, Value.int 181 0, Value.ref 282, Value.none, Value.none, Value.none,     Value.ref 283, Value.int 580 0, Value.int 267 0, Value.str (Str.ofString "/claim/cut.py") 581]) (#[])),
  (285, Obj.mk (Value.type "function") (none) (Data.func (FuncData.mk (Str.ofString "_law_opening") (Str.ofString "_law_opening") (stArgs (stAt pw.main.body 15)) (.stmts (stBody (stAt pw.main.body 15))) (stScope (stAt pw.main.body 15)) 3 [] (Value.none) (Value.none) (Value.none) (Value.str (Str.ofString "law_te0001_02") 534) (none) (Value.ref 284) (Value.none) 0)) (#[])),
  (289, Obj.mk (Value.type "code") (none) (Data.fields   #[Value.str (Str.ofString "law") 583, Value.str (Str.ofString "law") 584,     Value.str (Str.ofString "/claim/cut.py") 585, Value.int 288 0, Value.int 1 0, Value.int 0 0, Value.int 0 0,     Value.int 3 0, Value.ref 286, Value.bool true, Value.int 181 0, Value.ref 287, Value.none, Value.none, Value.none,     Value.ref 288, Value.int 586 0, Value.int 288 0, Value.str (Str.ofString "/claim/cut.py") 587]) (#[])),
  (290, Obj.mk (Value.type "function") (none) (Data.func (FuncData.mk (Str.ofString "law") (Str.ofString "law") (stArgs (stAt pw.main.body 16)) (.stmts (stBody (stAt pw.main.body 16))) (stScope (stAt pw.main.body 16)) 3 [] (Value.none) (Value.none) (Value.none) (Value.str (Str.ofString "law_te0001_02") 534) (none) (Value.ref 289) (Value.none) 0)) (#[]))]
noncomputable def lawAddrs : List Nat := [2, 3, 20, 21, 30, 31, 32, 38, 39, 45, 46, 54, 55, 61, 62, 68, 69, 75, 76, 82, 83, 89, 90, 96, 97, 99, 100, 101, 102, 110, 111, 120, 121, 136, 137, 143, 144, 150, 151, 157, 158, 159, 165, 166, 167, 173, 174, 180, 181, 187, 188, 194, 195, 201, 202, 208, 209, 215, 216, 222, 223, 229, 230, 231, 237, 238, 244, 245, 247, 248, 249, 250, 258, 259, 265, 266, 272, 273, 279, 280, 284, 285, 289, 290]
end Mine
end
section
namespace Mine
theorem lawHas : ∀ P, lawAddrs = (lawHeap P).map (·.1) := fun _ => by kernel_rfl
noncomputable def lawHook : Hook := kHook lawHeap lawAddrs lawHas
theorem lawLeft : LeftO PySem.Challenge.pw_te0001_02 view ["Production", "Grammar"] (fun s => xlAt view [] s && recOk [] s) (Hook.obs lawHook) (Hook.val lawHook) 3938 := by
  intro w
  kernel_rfl
noncomputable def lawD : DefRec := ⟨"law", stArgs (stAt pw.main.body 16), stBody (stAt pw.main.body 16), stScope (stAt pw.main.body 16), (stAt pw.main.body 16).pos⟩
theorem head (walk : WalkO view ["Production", "Grammar"] (XL view []) (Hook.says lawHook) PySem.Challenge.rw_te0001_02.row.toRowW lawD [] fun f vs => PySem.call f vs) : PySem.Challenge.rw_te0001_02.Holds := by
  w_on
  refine holds_law (by decide +kernel) fun said => ?_
  refine holds_open (q := view) (loose := ["Production", "Grammar"]) (Xt := fun s => xlAt view [] s && recOk [] s) (XP := XL view []) (Yf := Hook.obs lawHook) (Ya := Hook.val lawHook) (YP := Hook.says lawHook) (N := 3938) lawLeft (Hook.of lawHook) (Hook.keeps lawHook) (fun s e => xl_of s (Bool.and_eq_true_iff.mp e).1) XL.keeps (by rfl) (by rfl) (by rfl) (fun s e => recFacts_of (Bool.and_eq_true_iff.mp e).2) (by rfl) (by first | assumption | decide +kernel) (by decide +kernel) ⟨rfl, rfl, rfl, rfl, rfl, by decide +kernel⟩ ?hw walk
  w_witness2
end Mine
end
section
namespace Mine
inductive V where
  | none | bool (b : Bool) | int (i : Int) | str (s : Str)
  | tup (xs : List V) | lst (xs : List V)
  | ins (C : Addr) (attrs : List (Str × V))
  | ref (a : Addr) | glob (v : Value)
deriving Inhabited
inductive AObj where
  | list (xs : List V) | dict (es : List (Str × V)) (ep : Nat) | set (xs : List V)
  | inst (C d : Addr) | cell (v : Option V) | raw (o : Obj) | iter (lst : Bool) (i : Nat) (x : V)
noncomputable abbrev Frz := Addr → Obj → Prop
set_option genInjectivity false in
set_option genSizeOf false in
structure Wd where
  prog : Program
  w : World
  K : Frag
  hb : Heap
  mg : Str → Option Value
  mb : Str → Option Value
  os : OsState
  p : Program
  loose : List Str
  KIn : K.In hb
  top : TopRead p loose mg mb hb
  nolim : hb.NoLimit
mutual
inductive VR (W : Wd) (F : Frz) : V → Value → Prop
  | none : VR W F .none .none
  | bool (b : Bool) : VR W F (.bool b) (.bool b)
  | int (i : Int) (t : Tok) : VR W F (.int i) (.int i t)
  | str (s : Str) (t : Tok) : VR W F (.str s) (.str s t)
  | ref (a : Addr) : VR W F (.ref a) (.ref a)
  | glob (v : Value) : VR W F (.glob v) v
  | tup {xs : List V} {a : Addr} {vs : Array Value} {n : Nat} : F a { cls := .type "tuple", data := .seq vs n } → VRs W F xs vs.toList → VR W F (.tup xs) (.ref a)
  | lst {xs : List V} {a : Addr} {vs : Array Value} {n : Nat} : F a { cls := .type "list", data := .seq vs n } → VRs W F xs vs.toList → VR W F (.lst xs) (.ref a)
  | ins {C : Addr} {attrs : List (Str × V)} {a d : Addr} {od : Obj} {kvs : List (Str × Value)} : F a (instObj C d) → F d od → od.IsDictOf (strKind W.prog W.w) kvs → VRp W F attrs kvs → VR W F (.ins C attrs) (.ref a)
inductive VRs (W : Wd) (F : Frz) : List V → List Value → Prop
  | nil : VRs W F [] []
  | cons {x : V} {v : Value} {xs : List V} {vs : List Value} : VR W F x v → VRs W F xs vs → VRs W F (x :: xs) (v :: vs)
inductive VRp (W : Wd) (F : Frz) : List (Str × V) → List (Str × Value) → Prop
  | nil : VRp W F [] []
  | cons {k : Str} {x : V} {v : Value} {xs : List (Str × V)} {vs : List (Str × Value)} : VR W F x v → VRp W F xs vs → VRp W F ((k, x) :: xs) ((k, v) :: vs)
end
inductive VNone : Value → Prop
  | none : VNone .none
inductive VBool (b : Bool) : Value → Prop
  | bool : VBool b (.bool b)
inductive VInt (i : Int) : Value → Prop
  | int (t : Tok) : VInt i (.int i t)
inductive VStr (s : Str) : Value → Prop
  | str (t : Tok) : VStr s (.str s t)
inductive VRef (a : Addr) : Value → Prop
  | ref : VRef a (.ref a)
inductive VGlob (v : Value) : Value → Prop
  | glob : VGlob v v
inductive VTup (W : Wd) (F : Frz) (xs : List V) : Value → Prop
  | tup {a : Addr} {vs : Array Value} {n : Nat} : F a { cls := .type "tuple", data := .seq vs n } → VRs W F xs vs.toList → VTup W F xs (.ref a)
inductive VLst (W : Wd) (F : Frz) (xs : List V) : Value → Prop
  | lst {a : Addr} {vs : Array Value} {n : Nat} : F a { cls := .type "list", data := .seq vs n } → VRs W F xs vs.toList → VLst W F xs (.ref a)
inductive VIns (W : Wd) (F : Frz) (C : Addr) (attrs : List (Str × V)) : Value → Prop
  | ins {a d : Addr} {od : Obj} {kvs : List (Str × Value)} : F a (instObj C d) → F d od → od.IsDictOf (strKind W.prog W.w) kvs → VRp W F attrs kvs → VIns W F C attrs (.ref a)
noncomputable def VView (W : Wd) (F : Frz) : V → Value → Prop
  | .none => VNone
  | .bool b => VBool b
  | .int i => VInt i
  | .str s => VStr s
  | .tup xs => VTup W F xs
  | .lst xs => VLst W F xs
  | .ins C as => VIns W F C as
  | .ref a => VRef a
  | .glob v => VGlob v
theorem VR.view {W : Wd} {F : Frz} {x : V} {v : Value} (r : VR W F x v) : VView W F x v := by
  cases r with
  | none => exact .none
  | bool => exact .bool
  | int => exact .int _
  | str => exact .str _
  | ref => exact .ref
  | glob => exact .glob
  | tup f q => exact .tup f q
  | lst f q => exact .lst f q
  | ins f g k q => exact .ins f g k q
inductive VsNil : List Value → Prop
  | nil : VsNil []
inductive VsCons (W : Wd) (F : Frz) (x : V) (xs : List V) : List Value → Prop
  | cons {v : Value} {vs : List Value} : VR W F x v → VRs W F xs vs → VsCons W F x xs (v :: vs)
noncomputable def VsView (W : Wd) (F : Frz) : List V → List Value → Prop
  | [] => VsNil
  | x :: xs => VsCons W F x xs
theorem VRs.view {W : Wd} {F : Frz} {xs : List V} {vs : List Value} (r : VRs W F xs vs) : VsView W F xs vs := by
  cases r with
  | nil => exact .nil
  | cons a b => exact .cons a b
inductive VpNil : List (Str × Value) → Prop
  | nil : VpNil []
inductive VpCons (W : Wd) (F : Frz) (k : Str) (x : V) (xs : List (Str × V)) : List (Str × Value) → Prop
  | cons {v : Value} {vs : List (Str × Value)} : VR W F x v → VRp W F xs vs → VpCons W F k x xs ((k, v) :: vs)
noncomputable def VpView (W : Wd) (F : Frz) : List (Str × V) → List (Str × Value) → Prop
  | [] => VpNil
  | (k, x) :: xs => VpCons W F k x xs
theorem VRp.view {W : Wd} {F : Frz} {xs : List (Str × V)} {vs : List (Str × Value)} (r : VRp W F xs vs) : VpView W F xs vs := by
  cases r with
  | nil => exact .nil
  | cons a b => exact .cons a b
theorem VR.mono {W : Wd} {F F' : Frz} (h : ∀ a o, F a o → F' a o) {x : V} {v : Value} (r : VR W F x v) : VR W F' x v :=
  VR.rec (motive_1 := fun x v _ => VR W F' x v) (motive_2 := fun xs vs _ => VRs W F' xs vs) (motive_3 := fun xs vs _ => VRp W F' xs vs) .none .bool .int .str .ref .glob (fun f _ ih => .tup (h _ _ f) ih) (fun f _ ih => .lst (h _ _ f) ih) (fun f g k _ ih => .ins (h _ _ f) (h _ _ g) k ih) .nil (fun _ _ a b => .cons a b) .nil (fun _ _ a b => .cons a b) r
theorem VRs.mono {W : Wd} {F F' : Frz} (h : ∀ a o, F a o → F' a o) {x : List V} {v : List Value} (r : VRs W F x v) : VRs W F' x v :=
  VRs.rec (motive_1 := fun x v _ => VR W F' x v) (motive_2 := fun xs vs _ => VRs W F' xs vs) (motive_3 := fun xs vs _ => VRp W F' xs vs) .none .bool .int .str .ref .glob (fun f _ ih => .tup (h _ _ f) ih) (fun f _ ih => .lst (h _ _ f) ih) (fun f g k _ ih => .ins (h _ _ f) (h _ _ g) k ih) .nil (fun _ _ a b => .cons a b) .nil (fun _ _ a b => .cons a b) r
theorem VRp.mono {W : Wd} {F F' : Frz} (h : ∀ a o, F a o → F' a o) {x : List (Str × V)} {v : List (Str × Value)} (r : VRp W F x v) : VRp W F' x v :=
  VRp.rec (motive_1 := fun x v _ => VR W F' x v) (motive_2 := fun xs vs _ => VRs W F' xs vs) (motive_3 := fun xs vs _ => VRp W F' xs vs) .none .bool .int .str .ref .glob (fun f _ ih => .tup (h _ _ f) ih) (fun f _ ih => .lst (h _ _ f) ih) (fun f g k _ ih => .ins (h _ _ f) (h _ _ g) k ih) .nil (fun _ _ a b => .cons a b) .nil (fun _ _ a b => .cons a b) r
inductive OR (W : Wd) (F : Frz) : AObj → Obj → Prop
  | list {xs : List V} {vs : Array Value} {n : Nat} : VRs W F xs vs.toList → OR W F (.list xs) { cls := .type "list", data := .seq vs n }
  | dict {es : List (Str × V)} {ds : List DictEntry} {ep : Nat} {kvs : List (Str × Value)} : (dictOf ds ep).IsDictOf (strKind W.prog W.w) kvs → VRp W F es kvs → OR W F (.dict es ep) (dictOf ds ep)
  | inst {C d : Addr} : OR W F (.inst C d) (instObj C d)
  | raw {o : Obj} : OR W F (.raw o) o
  | iter {lst : Bool} {i : Nat} {x : V} {a : Addr} {o : Obj} : VR W F x (.ref a) → o.cls = .type (if lst then "list_iterator" else "tuple_iterator") → o.data = .fields #[.ref a, .int i 0] → OR W F (.iter lst i x) o
  | cell {v : Option V} {o : Obj} {u : Option Value} : o.data = .cell u → (∀ x, v = some x → ∃ y, u = some y ∧ VR W F x y) → (v = none → u = none) → OR W F (.cell v) o
inductive OList (W : Wd) (F : Frz) (xs : List V) : Obj → Prop
  | list {vs : Array Value} {n : Nat} : VRs W F xs vs.toList → OList W F xs { cls := .type "list", data := .seq vs n }
inductive ODict (W : Wd) (F : Frz) (es : List (Str × V)) (ep : Nat) : Obj → Prop
  | dict {ds : List DictEntry} {kvs : List (Str × Value)} : (dictOf ds ep).IsDictOf (strKind W.prog W.w) kvs → VRp W F es kvs → ODict W F es ep (dictOf ds ep)
inductive OInst (C d : Addr) : Obj → Prop
  | inst : OInst C d (instObj C d)
inductive ORaw (o : Obj) : Obj → Prop
  | raw : ORaw o o
inductive OIter (W : Wd) (F : Frz) (lst : Bool) (i : Nat) (x : V) : Obj → Prop
  | iter {a : Addr} {o : Obj} : VR W F x (.ref a) → o.cls = .type (if lst then "list_iterator" else "tuple_iterator") → o.data = .fields #[.ref a, .int i 0] → OIter W F lst i x o
inductive OCell (W : Wd) (F : Frz) (v : Option V) : Obj → Prop
  | cell {o : Obj} {u : Option Value} : o.data = .cell u → (∀ x, v = some x → ∃ y, u = some y ∧ VR W F x y) → (v = none → u = none) → OCell W F v o
noncomputable def OView (W : Wd) (F : Frz) : AObj → Obj → Prop
  | .list xs => OList W F xs
  | .dict es ep => ODict W F es ep
  | .set _ => fun _ => False
  | .inst C d => OInst C d
  | .cell v => OCell W F v
  | .raw o => ORaw o
  | .iter l i x => OIter W F l i x
theorem OR.view {W : Wd} {F : Frz} {x : AObj} {o : Obj} (r : OR W F x o) : OView W F x o := by
  cases r with
  | list q => exact .list q
  | dict k q => exact .dict k q
  | inst => exact .inst
  | raw => exact .raw
  | iter q c d => exact .iter q c d
  | cell k q z => exact .cell k q z
theorem OR.mono {W : Wd} {F F' : Frz} (h : ∀ a o, F a o → F' a o) {x : AObj} {o : Obj} (r : OR W F x o) : OR W F' x o := by
  cases r with
  | list r => exact .list (r.mono h)
  | dict k r => exact .dict k (r.mono h)
  | inst => exact .inst
  | raw => exact .raw
  | iter r c d => exact .iter (r.mono h) c d
  | cell k r z => exact .cell k (fun x e => let ⟨y, e', q⟩ := r x e; ⟨y, e', q.mono h⟩) z
noncomputable abbrev Loc := List (Str × V)
noncomputable abbrev Mem := Addr → Option AObj
noncomputable def tgo : AObj → Nat
  | .list _ => 0 | .dict _ _ => 1 | .set _ => 2 | .inst _ _ => 3 | .cell _ => 4 | .raw _ => 5 | .iter _ _ _ => 6
noncomputable def tg : Option AObj → Nat
  | none => 0
  | some x => tgo x + 1
theorem nex {m : Mem} {a b : Addr} {x y : Option AObj} (h1 : m a = x) (h2 : m b = y) (h : (tg x == tg y) = false := by rfl) : a ≠ b := fun e => by
  rw [e, h2] at h1
  rw [h1, beq_self_eq_true] at h
  cases h
noncomputable abbrev Outs := List (Addr × (Str → Option Value))
inductive Held (W : Wd) (F : Frz) (h : Heap) (a : Addr) (x : AObj) : Prop
  | intro (o : Obj) (h1_ : h.get? a = some o) (h2_ : OR W F x o)
inductive NsIs (W : Wd) (F : Frz) (h : Heap) (L : Addr) (loc : Loc) : Prop
  | intro (m : Str → Option Value) (h1_ : h.Ns L m) (h2_ : ∀ x v, loc.lookup x = some v → ∃ v', m x = some v' ∧ VR W F v v')
structure Sim0 (W : Wd) (env : Env) (outer : Outs) (loc : Loc) (mem : Mem) (F : Frz) (s : Shared) : Prop where
  frz : ∀ a o, F a o → s.heap.get? a = some o
  base : ∀ a o, W.hb.get? a = some o → F a o
  memF : ∀ a o, F a o → mem a = none
  memOk : ∀ a x, mem a = some x → Held W F s.heap a x
  ns : NsIs W F s.heap env.locals loc
  nsF : (∀ o, ¬ F env.locals o) ∧ mem env.locals = none
  outs : ∀ q ∈ outer, s.heap.Ns q.1 q.2 ∧ (∀ o, ¬ F q.1 o) ∧ mem q.1 = none ∧ q.1 ≠ env.locals
  low : W.hb.objs.size ≤ env.locals
  memLow : ∀ a x, mem a = some x → W.hb.objs.size ≤ a
  gens : s.gens = #[]
  os : s.os = W.os
noncomputable def mset (mem : Mem) (a : Addr) (x : AObj) : Mem := fun b => if b = a then some x else mem b
@[simp] theorem mset_self (mem : Mem) (a : Addr) (x : AObj) : mset mem a x a = some x := if_pos rfl
theorem mset_ne {mem : Mem} {a b : Addr} {x : AObj} (h : b ≠ a) : mset mem a x b = mem b := if_neg h
noncomputable def Incl (F F' : Frz) : Prop := ∀ a o, F a o → F' a o
theorem Incl.refl (F : Frz) : Incl F F := fun _ _ h => h
theorem Incl.trans {F G H : Frz} (x : Incl F G) (y : Incl G H) : Incl F H := fun a o h => y a o (x a o h)
noncomputable def fadd (F : Frz) (a : Addr) (o : Obj) : Frz := fun b p => F b p ∨ (b = a ∧ p = o)
theorem Incl.fadd (F : Frz) (a : Addr) (o : Obj) : Incl F (fadd F a o) := fun _ _ h => .inl h
noncomputable def LocRel (W : Wd) (F : Frz) (loc : Loc) (m : Str → Option Value) : Prop := ∀ x v, loc.lookup x = some v → ∃ v', m x = some v' ∧ VR W F v v'
theorem LocRel.mono {W : Wd} {F F' : Frz} {loc : Loc} {m : Str → Option Value} (h : Incl F F') (r : LocRel W F loc m) : LocRel W F' loc m :=
  fun x v e => let ⟨v', e', q⟩ := r x v e; ⟨v', e', q.mono h⟩
section
variable {W : Wd} {env : Env} {outer : Outs} {loc : Loc} {mem : Mem} {F : Frz} {s : Shared}
theorem Sim0.kin (S : Sim0 W env outer loc mem F s) : W.K.In s.heap := W.KIn.keeps fun b o e => S.frz b o (S.base b o e)
theorem Sim0.hbase (S : Sim0 W env outer loc mem F s) : ∀ b o, W.hb.get? b = some o → s.heap.get? b = some o := fun b o e => S.frz b o (S.base b o e)
theorem Sim0.fresh_base {a : Addr} {x : AObj} (S : Sim0 W env outer loc mem F s) (h : mem a = some x) : W.hb.get? a = none := by
  cases q : W.hb.get? a with
  | none => rfl
  | some o => have := S.memF a o (S.base a o q); rw [h] at this; cases this
theorem Sim0.fr {m : Str → Option Value} (S : Sim0 W env outer loc mem F s) (hn : s.heap.Ns env.locals m) : Fr W.hb env.locals s.heap m := ⟨hn, S.hbase, S.low⟩
theorem Sim0.grow {h' : Heap} {t : Nat} {d : Drawn} (S : Sim0 W env outer loc mem F s) (hk : ∀ b o, s.heap.get? b = some o → h'.get? b = some o) :
    Sim0 W env outer loc mem F { s with heap := h', toks := t, drawn := d } where
  frz a o h := hk _ _ (S.frz a o h)
  base := S.base
  memF := S.memF
  memOk a x h := let ⟨o, e, r⟩ := S.memOk a x h; ⟨o, hk _ _ e, r⟩
  ns := let ⟨m, a, b⟩ := S.ns; ⟨m, a.keeps hk, b⟩
  nsF := S.nsF
  outs q hq := let ⟨a, b⟩ := S.outs q hq; ⟨a.keeps hk, b⟩
  low := S.low
  memLow := S.memLow
  gens := S.gens
  os := S.os
theorem Sim0.tick {t : Nat} (S : Sim0 W env outer loc mem F s) : Sim0 W env outer loc mem F { s with toks := t } := S.grow fun _ _ e => e
theorem Sim0.ne_locals {a : Addr} {x : AObj} (S : Sim0 W env outer loc mem F s) (h : mem a = some x) : a ≠ env.locals := fun e => by
  have := S.nsF.2; rw [← e, h] at this; cases this
theorem Sim0.upd {a : Addr} {x x' : AObj} {h' : Heap} {t : Nat} {d : Drawn} {o' : Obj} (S : Sim0 W env outer loc mem F s) (hm : mem a = some x)
    (hs : ∀ b o, b ≠ a → s.heap.get? b = some o → h'.get? b = some o) (ho : h'.get? a = some o') (r : OR W F x' o') :
    Sim0 W env outer loc (mset mem a x') F { s with heap := h', toks := t, drawn := d } where
  frz b o h := hs b o (fun e => by have := S.memF b o h; rw [e, hm] at this; cases this) (S.frz b o h)
  base := S.base
  memF b o h := by
    have hb : b ≠ a := fun e => by have := S.memF b o h; rw [e, hm] at this; cases this
    rw [mset_ne hb]; exact S.memF b o h
  memOk b y h := by
    by_cases e : b = a
    · subst e; rw [mset_self] at h; cases h; exact ⟨o', ho, r⟩
    · rw [mset_ne e] at h; obtain ⟨o, e', q⟩ := S.memOk b y h; exact ⟨o, hs b o e e', q⟩
  ns := let ⟨m, z, b⟩ := S.ns; ⟨m, by
    obtain ⟨o, es, ep, e, q⟩ := z
    exact ⟨o, es, ep, hs _ _ (Ne.symm (S.ne_locals hm)) e, q⟩, b⟩
  nsF := ⟨S.nsF.1, by rw [mset_ne (Ne.symm (S.ne_locals hm))]; exact S.nsF.2⟩
  outs q hq := by
    obtain ⟨z, b, c, e⟩ := S.outs q hq
    have hq' : q.1 ≠ a := fun e => by rw [e, hm] at c; cases c
    obtain ⟨o, es, ep, e', r'⟩ := z
    exact ⟨⟨o, es, ep, hs _ _ hq' e', r'⟩, b, by rw [mset_ne hq']; exact c, e⟩
  low := S.low
  memLow b y h := by
    unfold mset at h
    split at h
    · rename_i q; rw [q]; exact S.memLow a x hm
    · exact S.memLow b y h
  gens := S.gens
  os := S.os
theorem Sim0.free_of_none {a : Addr} (S : Sim0 W env outer loc mem F s) (ha : s.heap.get? a = none) : mem a = none ∧ (∀ o, ¬ F a o) ∧ a ≠ env.locals ∧ ∀ q ∈ outer, q.1 ≠ a := by
  refine ⟨?_, fun o h => ?_, fun e => ?_, fun q hq e => ?_⟩
  · cases q : mem a with
    | none => rfl
    | some x => obtain ⟨o, e, _⟩ := S.memOk a x q; rw [ha] at e; cases e
  · have := S.frz a o h; rw [ha] at this; cases this
  · obtain ⟨m, ⟨o, es, ep, h, _⟩, _⟩ := S.ns; rw [← e, ha] at h; cases h
  · obtain ⟨⟨o, es, ep, h, _⟩, _⟩ := S.outs q hq; rw [e, ha] at h; cases h
theorem Sim0.alloc {a : Addr} {x : AObj} {h' : Heap} {t : Nat} {d : Drawn} {o' : Obj} (S : Sim0 W env outer loc mem F s) (ha : s.heap.get? a = none) (hlo : W.hb.objs.size ≤ a)
    (hs : ∀ b o, s.heap.get? b = some o → h'.get? b = some o) (ho : h'.get? a = some o') (r : OR W F x o') :
    Sim0 W env outer loc (mset mem a x) F { s with heap := h', toks := t, drawn := d } := by
  obtain ⟨f1, f2, f3, f4⟩ := S.free_of_none ha
  have ne : ∀ {b o}, F b o → b ≠ a := fun h e => f2 _ (e ▸ h)
  exact {
    frz := fun b o h => hs b o (S.frz b o h)
    base := S.base
    memF := fun b o h => by rw [mset_ne (ne h)]; exact S.memF b o h
    memOk := fun b y h => by
      by_cases e : b = a
      · subst e; rw [mset_self] at h; cases h; exact ⟨o', ho, r⟩
      · rw [mset_ne e] at h; obtain ⟨o, e', q⟩ := S.memOk b y h; exact ⟨o, hs b o e', q⟩
    ns := let ⟨m, z, b⟩ := S.ns; ⟨m, z.keeps hs, b⟩
    nsF := ⟨S.nsF.1, by rw [mset_ne (Ne.symm f3)]; exact S.nsF.2⟩
    outs := fun q hq => by
      obtain ⟨z, b, c, e⟩ := S.outs q hq
      exact ⟨z.keeps hs, b, by rw [mset_ne (f4 q hq)]; exact c, e⟩
    low := S.low
    memLow := fun b y h => by
      unfold mset at h
      split at h
      · rename_i q; rw [q]; exact hlo
      · exact S.memLow b y h
    gens := S.gens
    os := S.os }
theorem Sim0.freeze {a : Addr} {h' : Heap} {t : Nat} {d : Drawn} {o' : Obj} (S : Sim0 W env outer loc mem F s) (ha : s.heap.get? a = none)
    (hs : ∀ b o, s.heap.get? b = some o → h'.get? b = some o) (ho : h'.get? a = some o') :
    Sim0 W env outer loc mem (fadd F a o') { s with heap := h', toks := t, drawn := d } := by
  obtain ⟨f1, f2, f3, f4⟩ := S.free_of_none ha
  exact {
    frz := fun b o h => by rcases h with h | ⟨rfl, rfl⟩; exact hs b o (S.frz b o h); exact ho
    base := fun b o h => .inl (S.base b o h)
    memF := fun b o h => by rcases h with h | ⟨rfl, rfl⟩; exact S.memF b o h; exact f1
    memOk := fun b y h => let ⟨o, e', q⟩ := S.memOk b y h; ⟨o, hs b o e', q.mono (Incl.fadd _ _ _)⟩
    ns := let ⟨m, z, b⟩ := S.ns; ⟨m, z.keeps hs, LocRel.mono (Incl.fadd _ _ _) b⟩
    nsF := ⟨fun o h => by rcases h with h | ⟨e, rfl⟩; exact S.nsF.1 o h; exact f3 e.symm, S.nsF.2⟩
    outs := fun q hq => by
      obtain ⟨z, b, c, e⟩ := S.outs q hq
      exact ⟨z.keeps hs, fun o h => by rcases h with h | ⟨e, rfl⟩; exact b o h; exact f4 q hq e, c, e⟩
    low := S.low
    memLow := S.memLow
    gens := S.gens
    os := S.os }
theorem Sim0.drop {mem' : Mem} (S : Sim0 W env outer loc mem F s) (h : ∀ a x, mem' a = some x → mem a = some x) : Sim0 W env outer loc mem' F s := by
  have dn : ∀ {b}, mem b = none → mem' b = none := fun {b} e => by
    cases q : mem' b with
    | none => rfl
    | some x => rw [h b x q] at e; cases e
  exact { frz := S.frz, base := S.base, memF := fun b o q => dn (S.memF b o q), memOk := fun b y q => S.memOk b y (h b y q), ns := S.ns, nsF := ⟨S.nsF.1, dn S.nsF.2⟩,
          outs := fun q hq => let ⟨z, b, c, e⟩ := S.outs q hq; ⟨z, b, dn c, e⟩, low := S.low, memLow := fun b y q => S.memLow b y (h b y q), gens := S.gens, os := S.os }
noncomputable def setL (x : Str) (v : V) : Loc → Loc
  | [] => [(x, v)]
  | (y, u) :: r => if y = x then (x, v) :: r else (y, u) :: setL x v r
theorem lookup_setL (x y : Str) (v : V) : ∀ loc : Loc, (setL x v loc).lookup y = if y = x then some v else loc.lookup y
  | [] => by
    unfold setL
    by_cases h : y = x
    · subst h; simp [List.lookup]
    · have : (y == x) = false := by simpa using h
      simp [List.lookup, this, h]
  | (z, u) :: r => by
    unfold setL
    by_cases hz : z = x
    · subst hz
      rw [if_pos rfl]
      by_cases h : y = z
      · subst h; simp [List.lookup]
      · have : (y == z) = false := by simpa using h
        simp [List.lookup, this, h]
    · rw [if_neg hz, List.lookup_cons, List.lookup_cons, lookup_setL x y v r]
      by_cases h : y = x
      · subst h
        have : (y == z) = false := by simpa using (Ne.symm hz)
        simp [this]
      · simp [h]
theorem Sim0.store {x : Str} {v : V} {v' : Value} {h' : Heap} {t : Nat} {m : Str → Option Value} (S : Sim0 W env outer loc mem F s) (r : VR W F v v') (l : LocRel W F loc m)
    (hn : h'.Ns env.locals fun y => if y = x then some v' else m y) (hs : Heap.SameBut env.locals s.heap h') : Sim0 W env outer (setL x v loc) mem F { s with heap := h', toks := t } where
  frz a o h := (hs.2 a fun e => S.nsF.1 o (e ▸ h)).trans (S.frz a o h)
  base := S.base
  memF := S.memF
  memOk a y h := let ⟨o, e, r⟩ := S.memOk a y h; ⟨o, (hs.2 a (S.ne_locals h)).trans e, r⟩
  ns := ⟨_, hn, fun y u e => by
    rw [lookup_setL] at e
    by_cases q : y = x
    · rw [if_pos q] at e; cases e; exact ⟨v', if_pos q, r⟩
    · rw [if_neg q] at e; obtain ⟨u', e', q'⟩ := l y u e; exact ⟨u', (if_neg q).trans e', q'⟩⟩
  nsF := S.nsF
  outs q hq := let ⟨z, b, c, e⟩ := S.outs q hq; ⟨z.sameBut hs e, b, c, e⟩
  low := S.low
  memLow := S.memLow
  gens := S.gens
  os := S.os
end
noncomputable def mun (m R : Mem) : Mem := fun a => match m a with | some x => some x | none => R a
noncomputable def Dis (m R : Mem) : Prop := ∀ a x, m a = some x → R a = none
theorem mun_l {m R : Mem} {a : Addr} {x : AObj} (h : m a = some x) : mun m R a = some x := by unfold mun; rw [h]
theorem mun_r {m R : Mem} {a : Addr} (h : m a = none) : mun m R a = R a := by unfold mun; rw [h]
theorem mun_none {m R : Mem} {a : Addr} (h : mun m R a = none) : m a = none ∧ R a = none := by
  unfold mun at h
  cases q : m a with
  | none => rw [q] at h; exact ⟨rfl, h⟩
  | some x => rw [q] at h; cases h
theorem mset_mun (m R : Mem) (a : Addr) (x : AObj) : mset (mun m R) a x = mun (mset m a x) R := by
  funext b
  unfold mset mun
  by_cases h : b = a
  · simp [h]
  · simp [h]
theorem mset_munR {m R : Mem} {a : Addr} (h : m a = none) (x : AObj) : mset (mun m R) a x = mun m (mset R a x) := by
  funext b
  unfold mset mun
  by_cases hb : b = a
  · subst hb; simp [h]
  · simp [hb]
structure Sim (W : Wd) (env : Env) (outer : Outs) (loc : Loc) (mem R : Mem) (F : Frz) (s : Shared) : Prop where
  dis : Dis mem R
  z : Sim0 W env outer loc (mun mem R) F s
section
variable {W : Wd} {env : Env} {outer : Outs} {loc : Loc} {mem R : Mem} {F : Frz} {s : Shared}
theorem Sim.kin (S : Sim W env outer loc mem R F s) : W.K.In s.heap := S.z.kin
theorem Sim.hbase (S : Sim W env outer loc mem R F s) : ∀ b o, W.hb.get? b = some o → s.heap.get? b = some o := S.z.hbase
theorem Sim.frz (S : Sim W env outer loc mem R F s) : ∀ a o, F a o → s.heap.get? a = some o := S.z.frz
theorem Sim.base (S : Sim W env outer loc mem R F s) : ∀ a o, W.hb.get? a = some o → F a o := S.z.base
theorem Sim.memOk (S : Sim W env outer loc mem R F s) (a : Addr) (x : AObj) (h : mem a = some x) : Held W F s.heap a x := S.z.memOk a x (mun_l h)
theorem Sim.ns (S : Sim W env outer loc mem R F s) : NsIs W F s.heap env.locals loc := S.z.ns
theorem Sim.fresh_base {a : Addr} {x : AObj} (S : Sim W env outer loc mem R F s) (h : mem a = some x) : W.hb.get? a = none := S.z.fresh_base (mun_l h)
theorem Sim.fr {m : Str → Option Value} (S : Sim W env outer loc mem R F s) (hn : s.heap.Ns env.locals m) : Fr W.hb env.locals s.heap m := S.z.fr hn
theorem Sim.gens (S : Sim W env outer loc mem R F s) : s.gens = #[] := S.z.gens
theorem Sim.os (S : Sim W env outer loc mem R F s) : s.os = W.os := S.z.os
theorem Sim.ne_locals {a : Addr} {x : AObj} (S : Sim W env outer loc mem R F s) (h : mem a = some x) : a ≠ env.locals := S.z.ne_locals (mun_l h)
theorem Sim.grow {h' : Heap} {t : Nat} {d : Drawn} (S : Sim W env outer loc mem R F s) (hk : ∀ b o, s.heap.get? b = some o → h'.get? b = some o) :
    Sim W env outer loc mem R F { s with heap := h', toks := t, drawn := d } := ⟨S.dis, S.z.grow hk⟩
theorem Sim.tick {t : Nat} (S : Sim W env outer loc mem R F s) : Sim W env outer loc mem R F { s with toks := t } := ⟨S.dis, S.z.tick⟩
theorem Sim.size_le (S : Sim W env outer loc mem R F s) : W.hb.objs.size ≤ s.heap.objs.size := by
  obtain ⟨m, hn, _⟩ := S.ns
  exact Nat.le_trans S.z.low (Nat.le_of_lt hn.lt)
theorem get?_size (h : Heap) : h.get? h.objs.size = none := by
  cases q : h.get? h.objs.size with
  | none => rfl
  | some o => exact absurd (Heap.lt_size q) (Nat.lt_irrefl _)
theorem get?_ge {h : Heap} {a : Addr} (l : h.objs.size ≤ a) : h.get? a = none := by
  cases q : h.get? a with
  | none => rfl
  | some o => exact absurd (Heap.lt_size q) (Nat.not_lt.mpr l)
theorem Sim.not_modules {a : Addr} {x : AObj} (S : Sim W env outer loc mem R F s) (h : mem a = some x) : (a == sysModules) = false :=
  beq_eq_false_iff_ne.mpr (Nat.ne_of_gt (Nat.lt_of_lt_of_le (modules_low W.nolim) (S.z.memLow a x (mun_l h))))
theorem Dis.set {a : Addr} {x x' : AObj} (d : Dis mem R) (h : mem a = some x) : Dis (mset mem a x') R := fun b y e => by
  unfold mset at e
  split at e
  · rename_i q; rw [q]; exact d a x h
  · exact d b y e
theorem Sim.upd {a : Addr} {x x' : AObj} {h' : Heap} {t : Nat} {d : Drawn} {o' : Obj} (S : Sim W env outer loc mem R F s) (hm : mem a = some x)
    (hs : ∀ b o, b ≠ a → s.heap.get? b = some o → h'.get? b = some o) (ho : h'.get? a = some o') (r : OR W F x' o') :
    Sim W env outer loc (mset mem a x') R F { s with heap := h', toks := t, drawn := d } := ⟨S.dis.set hm, mset_mun mem R a x' ▸ S.z.upd (mun_l hm) hs ho r⟩
theorem Sim.free {a : Addr} (S : Sim W env outer loc mem R F s) (ha : s.heap.get? a = none) : mem a = none ∧ R a = none := mun_none (S.z.free_of_none ha).1
theorem Sim.alloc {a : Addr} {x : AObj} {h' : Heap} {t : Nat} {d : Drawn} {o' : Obj} (S : Sim W env outer loc mem R F s) (ha : s.heap.get? a = none) (hlo : W.hb.objs.size ≤ a)
    (hs : ∀ b o, s.heap.get? b = some o → h'.get? b = some o) (ho : h'.get? a = some o') (r : OR W F x o') :
    Sim W env outer loc (mset mem a x) R F { s with heap := h', toks := t, drawn := d } :=
  ⟨fun b y e => by
    unfold mset at e
    split at e
    · rename_i q; rw [q]; exact (S.free ha).2
    · exact S.dis b y e, mset_mun mem R a x ▸ S.z.alloc ha hlo hs ho r⟩
theorem Sim.allocR {a : Addr} {x : AObj} {h' : Heap} {t : Nat} {d : Drawn} {o' : Obj} (S : Sim W env outer loc mem R F s) (ha : s.heap.get? a = none) (hlo : W.hb.objs.size ≤ a)
    (hs : ∀ b o, s.heap.get? b = some o → h'.get? b = some o) (ho : h'.get? a = some o') (r : OR W F x o') :
    Sim W env outer loc mem (mset R a x) F { s with heap := h', toks := t, drawn := d } :=
  ⟨fun b y e => by
    unfold mset
    split
    · rename_i q; rw [q, (S.free ha).1] at e; cases e
    · exact S.dis b y e, mset_munR (S.free ha).1 x ▸ S.z.alloc ha hlo hs ho r⟩
theorem Sim.updR {a : Addr} {x x' : AObj} {h' : Heap} {t : Nat} {d : Drawn} {o' : Obj} (S : Sim W env outer loc mem (mset R a x) F s)
    (hs : ∀ b o, b ≠ a → s.heap.get? b = some o → h'.get? b = some o) (ho : h'.get? a = some o') (r : OR W F x' o') :
    Sim W env outer loc mem (mset R a x') F { s with heap := h', toks := t, drawn := d } := by
  have hm : mem a = none := by
    cases q : mem a with
    | none => rfl
    | some y => have := S.dis a y q; rw [mset_self] at this; cases this
  refine ⟨fun b y e => ?_, ?_⟩
  · have := S.dis b y e
    unfold mset at this ⊢
    split
    · rename_i q; rw [if_pos q] at this; cases this
    · rename_i q; rw [if_neg q] at this; exact this
  · have := S.z.upd (x := x) (x' := x') (t := t) (d := d) (by rw [mun_r hm, mset_self]) hs ho r
    rw [mset_munR hm] at this
    have e : mset (mset R a x) a x' = mset R a x' := by funext b; unfold mset; split <;> simp_all
    rwa [e] at this
theorem Sim.atR {a : Addr} {x : AObj} (S : Sim W env outer loc mem (mset R a x) F s) : Held W F s.heap a x := by
  have hm : mem a = none := by
    cases q : mem a with
    | none => rfl
    | some y => have := S.dis a y q; rw [mset_self] at this; cases this
  exact S.z.memOk a x (by rw [mun_r hm, mset_self])
theorem Sim.offR {a : Addr} {x : AObj} (S : Sim W env outer loc mem (mset R a x) F s) (hR : R a = none) : Sim W env outer loc mem R F s := by
  refine ⟨fun b y e => ?_, S.z.drop fun b y e => ?_⟩
  · have := S.dis b y e
    unfold mset at this
    split at this
    · cases this
    · exact this
  · cases q : mem b with
    | some z => rw [mun_l q] at e ⊢; exact e
    | none =>
      rw [mun_r q] at e ⊢
      unfold mset
      split
      · rename_i q'; rw [q', hR] at e; cases e
      · exact e
theorem Sim.freeze {a : Addr} {h' : Heap} {t : Nat} {d : Drawn} {o' : Obj} (S : Sim W env outer loc mem R F s) (ha : s.heap.get? a = none)
    (hs : ∀ b o, s.heap.get? b = some o → h'.get? b = some o) (ho : h'.get? a = some o') :
    Sim W env outer loc mem R (fadd F a o') { s with heap := h', toks := t, drawn := d } := ⟨S.dis, S.z.freeze ha hs ho⟩
theorem Sim.drop {mem' : Mem} (S : Sim W env outer loc mem R F s) (h : ∀ a x, mem' a = some x → mem a = some x) : Sim W env outer loc mem' R F s := by
  refine ⟨fun a x e => S.dis a x (h a x e), S.z.drop fun a x e => ?_⟩
  unfold mun at e
  cases q : mem' a with
  | some y => rw [q] at e; rw [mun_l (h a y q)]; exact e
  | none =>
    rw [q] at e
    dsimp only at e
    cases q' : mem a with
    | none => rw [mun_r q']; exact e
    | some y => have := S.dis a y q'; rw [e] at this; cases this
theorem Sim.store {x : Str} {v : V} {v' : Value} {h' : Heap} {t : Nat} {m : Str → Option Value} (S : Sim W env outer loc mem R F s) (r : VR W F v v') (l : LocRel W F loc m)
    (hn : h'.Ns env.locals fun y => if y = x then some v' else m y) (hs : Heap.SameBut env.locals s.heap h') : Sim W env outer (setL x v loc) mem R F { s with heap := h', toks := t } :=
  ⟨S.dis, S.z.store r l hn hs⟩
end
inductive Post (W : Wd) (env : Env) (outer : Outs) {α β : Type} (RV : Frz → β → α → Prop) (R : Mem) (F : Frz) (Q : β → Loc → Mem → Prop) (v' : α) (s' : Shared) : Prop
  | intro (F' : Frz) (v : β) (loc' : Loc) (mem' : Mem) (h1_ : Incl F F') (h2_ : RV F' v v') (h3_ : Sim W env outer loc' mem' R F' s') (h4_ : Q v loc' mem')
structure Less (W : Wd) (R R' : Mem) : Prop where
  sim : ∀ {env : Env} {outer : Outs} {loc : Loc} {mem : Mem} {F : Frz} {s : Shared}, Sim W env outer loc mem R' F s → Sim W env outer loc mem R F s
  sub : ∀ a x, R a = some x → R' a = some x
theorem Less.refl {W : Wd} (R : Mem) : Less W R R := ⟨fun S => S, fun _ _ h => h⟩
structure Ex (W : Wd) where
  p : Mem → Frz → Value → Shared → Prop
  mono : ∀ {R R' : Mem} {F F' : Frz} {v : Value} {s : Shared}, Less W R R' → Incl F F' → p R' F' v s → p R F v s
theorem Ex.up {W : Wd} {E : Ex W} {R : Mem} {F F' : Frz} {v : Value} {s : Shared} (i : Incl F F') (h : E.p R F' v s) : E.p R F v s := E.mono (Less.refl R) i h
noncomputable def Ex.no {W : Wd} : Ex W := ⟨fun _ _ _ _ => False, fun _ _ h => h⟩
noncomputable def Tr (W : Wd) (A : Around) (env : Env) (outer : Outs) {α β : Type} (RV : Frz → β → α → Prop) (t : Sem α) (loc : Loc) (mem : Mem) (Q : β → Loc → Mem → Prop) (E : Ex W) : Prop :=
  ∀ R F s, Sim W env outer loc mem R F s → wpAny (model W.prog W.w) A t (Post W env outer RV R F Q) (E.p R F) s
noncomputable abbrev TrV (W : Wd) (A : Around) (env : Env) (outer : Outs) (t : Sem Value) (loc : Loc) (mem : Mem) (Q : V → Loc → Mem → Prop) (E : Ex W) : Prop :=
  Tr W A env outer (VR W) t loc mem Q E
noncomputable abbrev TrB (W : Wd) (A : Around) (env : Env) (outer : Outs) (t : Sem Bool) (loc : Loc) (mem : Mem) (Q : Bool → Loc → Mem → Prop) (E : Ex W) : Prop :=
  Tr W A env outer (fun _ (b c : Bool) => c = b) t loc mem Q E
inductive Fl where
  | next | brk | cont | ret (v : V)
inductive FR (W : Wd) (F : Frz) : Fl → Flow → Prop
  | next : FR W F .next .next
  | brk : FR W F .brk .brk
  | cont : FR W F .cont .cont
  | ret {v : V} {v' : Value} : VR W F v v' → FR W F (.ret v) (.ret v')
noncomputable abbrev TrS (W : Wd) (A : Around) (env : Env) (outer : Outs) (t : Sem Flow) (loc : Loc) (mem : Mem) (Q : Fl → Loc → Mem → Prop) (E : Ex W) : Prop :=
  Tr W A env outer (FR W) t loc mem Q E
noncomputable abbrev TrL (W : Wd) (A : Around) (env : Env) (outer : Outs) (t : Sem (List Value)) (loc : Loc) (mem : Mem) (Q : List V → Loc → Mem → Prop) (E : Ex W) : Prop :=
  Tr W A env outer (VRs W) t loc mem Q E
noncomputable def Op (W : Wd) (A : Around) (env : Env) (outer : Outs) {α β : Type} (RV : Frz → β → α → Prop) (f : List Value → Sem α) (xs : List V) (loc : Loc) (mem : Mem) (Q : β → Loc → Mem → Prop) (E : Ex W) : Prop :=
  ∀ R F s vs, Sim W env outer loc mem R F s → VRs W F xs vs → wpAny (model W.prog W.w) A (f vs) (Post W env outer RV R F Q) (E.p R F) s
section
variable {W : Wd} {A : Around} {env : Env} {outer : Outs} {α β : Type} {RV : Frz → β → α → Prop} {loc : Loc} {mem R : Mem} {E : Ex W}
theorem Post.weaken {F G : Frz} {Q : β → Loc → Mem → Prop} {v : α} {s : Shared} (h : Incl F G) (p : Post W env outer RV R G Q v s) : Post W env outer RV R F Q v s :=
  let ⟨F', x, l, m, a, b, c, d⟩ := p; ⟨F', x, l, m, h.trans a, b, c, d⟩
theorem Post.mk {F : Frz} {Q : β → Loc → Mem → Prop} {v : α} {x : β} {s : Shared} (r : RV F x v) (S : Sim W env outer loc mem R F s) (q : Q x loc mem) : Post W env outer RV R F Q v s :=
  ⟨F, x, loc, mem, Incl.refl F, r, S, q⟩
theorem Tr.mono {t : Sem α} {Q Q' : β → Loc → Mem → Prop} (h : Tr W A env outer RV t loc mem Q E) (hq : ∀ x l m, Q x l m → Q' x l m) : Tr W A env outer RV t loc mem Q' E :=
  fun R F s S => wpAny_mono (h R F s S) (fun _ _ ⟨F', x, l, m, a, b, c, d⟩ => ⟨F', x, l, m, a, b, c, hq x l m d⟩) fun _ _ e => e
theorem Tr.drop {t : Sem α} {Q : β → Loc → Mem → Prop} {mem' : Mem} (h : Tr W A env outer RV t loc mem' Q E) (hm : ∀ a x, mem' a = some x → mem a = some x) : Tr W A env outer RV t loc mem Q E :=
  fun R F s S => h R F s (S.drop hm)
end
end Mine
end
section
namespace Mine
section
variable {W : Wd} {A : Around} {env : Env} {outer : Outs} {loc : Loc} {mem R : Mem} {E : Ex W} {F : Frz} {s : Shared}
theorem after {α β γ δ : Type} {RV : Frz → β → α → Prop} {RW : Frz → δ → γ → Prop} {t : Sem α} {P : β → Loc → Mem → Prop} {Q' : α → Shared → Prop} {Q : δ → Loc → Mem → Prop}
    {F0 : Frz} (h : wpAny (model W.prog W.w) A t (Post W env outer RV R F P) (E.p R F) s)
    (hk : ∀ v' s' F1 x l1 m1, Incl F F1 → RV F1 x v' → Sim W env outer l1 m1 R F1 s' → P x l1 m1 → Q' v' s')
    (i : Incl F0 F := by first | exact Incl.refl _ | assumption | exact Incl.trans (by assumption) (by assumption) | exact Incl.trans (Incl.trans (by assumption) (by assumption)) (by assumption) | exact Incl.trans (Incl.trans (Incl.trans (by assumption) (by assumption)) (by assumption)) (by assumption)) : wpAny (model W.prog W.w) A t Q' (E.p R F0) s :=
  wpAny_mono h (fun v' s' ⟨F1, x, l1, m1, a, b, c, d⟩ => hk v' s' F1 x l1 m1 a b c d) fun _ _ e => E.up i e
theorem after' {α β γ δ : Type} {RV : Frz → β → α → Prop} {RW : Frz → δ → γ → Prop} {t : Sem α} {P : β → Loc → Mem → Prop} {Q' : α → Shared → Prop} {Q : δ → Loc → Mem → Prop} {E0 E' : Value → Shared → Prop}
    (h : wpAny (model W.prog W.w) A t (Post W env outer RV R F P) E0 s)
    (he : ∀ e s, E0 e s → E' e s)
    (hk : ∀ v' s' F1 x l1 m1, Incl F F1 → RV F1 x v' → Sim W env outer l1 m1 R F1 s' → P x l1 m1 → Q' v' s') : wpAny (model W.prog W.w) A t Q' E' s :=
  wpAny_mono h (fun v' s' ⟨F1, x, l1, m1, a, b, c, d⟩ => hk v' s' F1 x l1 m1 a b c d) fun e s h => he e s h
theorem e_none {k : Nat} {pos : Pos} {Q : V → Loc → Mem → Prop} (h : Q .none loc mem) : TrV W A env outer (eval (.Constant .none k pos) env) loc mem Q E :=
  fun R F s S => wpAny_Constant_none (Post.mk .none S h)
theorem e_bool {b : Bool} {k : Nat} {pos : Pos} {Q : V → Loc → Mem → Prop} (h : Q (.bool b) loc mem) : TrV W A env outer (eval (.Constant (.bool b) k pos) env) loc mem Q E :=
  fun R F s S => wpAny_Constant_bool (Post.mk (.bool b) S h)
theorem e_int {i : Int} {k : Nat} {pos : Pos} {Q : V → Loc → Mem → Prop} (h : Q (.int i) loc mem) : TrV W A env outer (eval (.Constant (.int i) k pos) env) loc mem Q E :=
  fun R F s S => wpAny_Constant_int (Post.mk (.int i _) S.tick h)
theorem e_str {x : Str} {k : Nat} {pos : Pos} {Q : V → Loc → Mem → Prop} (h : Q (.str x) loc mem) : TrV W A env outer (eval (.Constant (.str x) k pos) env) loc mem Q E :=
  fun R F s S => wpAny_Constant_str (Post.mk (.str x _) S.tick h)
theorem e_local {x : Str} {pos : Pos} {v : V} {Q : V → Loc → Mem → Prop} (hk : env.scope.kind = .function) (hl : env.kindOf x = some .local) (hd : (x == ("__debug__" : Str)) = false) (hv : loc.lookup x = some v) (h : Q v loc mem) :
    TrV W A env outer (eval (.Name x pos) env) loc mem Q E := fun R F s S => by
  obtain ⟨m, hn, l⟩ := S.ns
  obtain ⟨v', e, r⟩ := l x v hv
  exact wpAny_Name (wpAny_loadName_local hk hl hn e (Post.mk r S h)) hd
theorem e_cell {x : Str} {pos : Pos} {c : Addr} {v : V} {Q : V → Loc → Mem → Prop} (hk : env.scope.kind = .function) (hl : env.kindOf x = some .cell) (hd : (x == ("__debug__" : Str)) = false)
    (hc : env.cells.lookup x = some c) (hv : mem c = some (.cell (some v))) (h : Q v loc mem) : TrV W A env outer (eval (.Name x pos) env) loc mem Q E := fun R F s S => by
  obtain ⟨o, ho, r⟩ := S.memOk c _ hv
  cases r.view with
  | cell k r z =>
    obtain ⟨y, rfl, q⟩ := r _ rfl
    exact wpAny_Name (wpAny_loadName_cell hk hl hc ⟨o, ho, k⟩ (Post.mk q S h)) hd
theorem e_top {x : Str} {pos : Pos} {u : Value} {v : V} {Q : V → Loc → Mem → Prop} (hg : env.globals = mainGlobals) (hk : env.scope.kind = .function) (hl : env.kindOf x = some .globalImplicit) (hd : (x == ("__debug__" : Str)) = false)
    (e : nsIn W.K mainGlobals x = some (some u)) (r : ∀ F, (∀ a o, W.hb.get? a = some o → F a o) → VR W F v u) (h : Q v loc mem) : TrV W A env outer (eval (.Name x pos) env) loc mem Q E := fun R F s S => by
  obtain ⟨m, hn, l⟩ := S.ns
  exact nameG_K (S.fr hn) W.KIn W.top e (Post.mk (r F S.base) S h) hg hk hl hd
theorem e_topG {x : Str} {pos : Pos} {u : Value} {Q : V → Loc → Mem → Prop} (hg : env.globals = mainGlobals) (hk : env.scope.kind = .function) (hl : env.kindOf x = some .globalImplicit) (hd : (x == ("__debug__" : Str)) = false)
    (e : nsIn W.K mainGlobals x = some (some u)) (h : Q (.glob u) loc mem) : TrV W A env outer (eval (.Name x pos) env) loc mem Q E := e_top hg hk hl hd e (fun _ _ => .glob u) h
theorem e_boot {x : Str} {pos : Pos} {u : Value} {Q : V → Loc → Mem → Prop} (hg : env.globals = mainGlobals) (hb : env.builtins = builtinsNs) (hk : env.scope.kind = .function) (hl : env.kindOf x = some .globalImplicit) (hd : (x == ("__debug__" : Str)) = false)
    (e : nsIn W.K mainGlobals x = some none) (hv : bootBuiltins x = some u) (hn : x ≠ "__name__") (h : Q (.glob u) loc mem) : TrV W A env outer (eval (.Name x pos) env) loc mem Q E := fun R F s S => by
  obtain ⟨m, hns, l⟩ := S.ns
  have T := W.top
  have Fr' := S.fr hns
  exact Name_function_global hk hl (loadGlobal_builtin (env := env) (by rw [hg]; exact T.g.keeps Fr'.keep) (mg_none_of W.KIn T.g e) (by rw [hb]; exact T.b.keeps Fr'.keep) ((T.builtins x hn).trans hv) (Post.mk (.glob u) S h)) hd
theorem e_binop {l r : PySem.Expr} {op : Operator} {pos : Pos} {Q : V → Loc → Mem → Prop}
    (h : TrV W A env outer (eval l env) loc mem (fun a l1 m1 => TrV W A env outer (eval r env) l1 m1 (fun b l2 m2 => Op W A env outer (VR W) (fun | [x, y] => binaryOp op x y | _ => pure .none) [a, b] l2 m2 Q E) E) E) :
    TrV W A env outer (eval (.BinOp l op r pos) env) loc mem Q E := fun R F s S =>
  wpAny_BinOp (after (RW := VR W) (Q := Q) (h R F s S) fun v' s' F1 x l1 m1 i1 r1 S1 h1 => after (RW := VR W) (Q := Q) (h1 R F1 s' S1) fun u' s2 F2 y l2 m2 i2 r2 S2 h2 =>
    wpAny_mono (h2 R F2 s2 [v', u'] S2 (.cons (r1.mono i2) (.cons r2 .nil))) (fun _ _ p => p.weaken (i1.trans i2)) fun _ _ e => E.up (i1.trans i2) e)
theorem e_cmp {l r : PySem.Expr} {op : CmpOp} {pos : Pos} {Q : V → Loc → Mem → Prop} (hm : behindInMarks op r = false)
    (h : TrV W A env outer (eval l env) loc mem (fun a l1 m1 => TrV W A env outer (eval r env) l1 m1 (fun b l2 m2 => Op W A env outer (VR W) (fun | [x, y] => compareOp op x y | _ => pure .none) [a, b] l2 m2 Q E) E) E) :
    TrV W A env outer (eval (.Compare l [op] [r] pos) env) loc mem Q E := fun R F s S =>
  wpAny_Compare1 (hm := hm) (after (RW := VR W) (Q := Q) (h R F s S) fun v' s' F1 x l1 m1 i1 r1 S1 h1 => after (RW := VR W) (Q := Q) (h1 R F1 s' S1) fun u' s2 F2 y l2 m2 i2 r2 S2 h2 =>
    wpAny_mono (h2 R F2 s2 [v', u'] S2 (.cons (r1.mono i2) (.cons r2 .nil))) (fun _ _ p => p.weaken (i1.trans i2)) fun _ _ e => E.up (i1.trans i2) e)
theorem b_cmp {l r : PySem.Expr} {op : CmpOp} {pos : Pos} {whole : Sem Value} {Q : Bool → Loc → Mem → Prop} (hm : behindInMarks op r = false)
    (h : TrV W A env outer (eval l env) loc mem (fun a l1 m1 => TrV W A env outer (eval r env) l1 m1 (fun b l2 m2 => Op W A env outer (VR W) (fun | [x, y] => compareOp op x y | _ => pure .none) [a, b] l2 m2 (fun c l3 m3 =>
      Op W A env outer (fun _ (b c : Bool) => c = b) (fun | [x] => truthy x | _ => pure false) [c] l3 m3 Q E) E) E) E) :
    TrB W A env outer (isTrue (.Compare l [op] [r] pos) env whole) loc mem Q E := fun R F s S =>
  wpAny_isTrue_Compare1 (hm := hm) (after (RW := VR W) (Q := fun _ _ _ => True) (h R F s S) fun v' s' F1 x l1 m1 i1 r1 S1 h1 => after (RW := VR W) (Q := fun _ _ _ => True) (h1 R F1 s' S1) fun u' s2 F2 y l2 m2 i2 r2 S2 h2 =>
    after (RW := VR W) (Q := fun _ _ _ => True) (h2 R F2 s2 [v', u'] S2 (.cons (r1.mono i2) (.cons r2 .nil))) fun c' s3 F3 c l3 m3 i3 r3 S3 h3 =>
      wpAny_mono (h3 R F3 s3 [c'] S3 (.cons r3 .nil)) (fun _ _ p => p.weaken ((i1.trans i2).trans i3)) fun _ _ e => E.up ((i1.trans i2).trans i3) e)
theorem b_not {x : PySem.Expr} {pos : Pos} {whole : Sem Value} {Q : Bool → Loc → Mem → Prop} (h : TrB W A env outer (isTrue x env (eval x env)) loc mem (fun b l m => Q (!b) l m) E) :
    TrB W A env outer (isTrue (.UnaryOp .Not x pos) env whole) loc mem Q E := fun R F s S =>
  wpAny_isTrue_Not (after (RW := VR W) (Q := fun _ _ _ => True) (h R F s S) fun v' s' F1 b l1 m1 i1 r1 S1 h1 => ⟨F1, !b, l1, m1, i1, by rw [r1], S1, h1⟩)
theorem b_value {e : PySem.Expr} {whole : Sem Value} {Q : Bool → Loc → Mem → Prop} (he : isTrue e env whole = (do let v ← whole; standAt e.pos; holding [v] (truthy v)))
    (h : TrV W A env outer whole loc mem (fun c l m => Op W A env outer (fun _ (b c : Bool) => c = b) (fun | [x] => truthy x | _ => pure false) [c] l m Q E) E) : TrB W A env outer (isTrue e env whole) loc mem Q E := fun R F s S =>
  wpAny_isTrue_value (he := he) (after (RW := VR W) (Q := fun _ _ _ => True) (h R F s S) fun v' s' F1 b l1 m1 i1 r1 S1 h1 => wpAny_mono (h1 R F1 s' [v'] S1 (.cons r1 .nil)) (fun _ _ p => p.weaken i1) fun _ _ e => E.up i1 e)
theorem b_bool {op : BoolOp} {values : List PySem.Expr} {pos : Pos} {whole : Sem Value} {Q : Bool → Loc → Mem → Prop} (h : TrB W A env outer (allTrue op values env) loc mem Q E) :
    TrB W A env outer (isTrue (.BoolOp op values pos) env whole) loc mem Q E := fun R F s S => wpAny_isTrue_BoolOp (h R F s S)
theorem b_and_nil {Q : Bool → Loc → Mem → Prop} (h : Q true loc mem) : TrB W A env outer (allTrue .And [] env) loc mem Q E := fun R F s S => wpAny_allTrue_And_nil (Post.mk rfl S h)
theorem b_or_nil {Q : Bool → Loc → Mem → Prop} (h : Q false loc mem) : TrB W A env outer (allTrue .Or [] env) loc mem Q E := fun R F s S => wpAny_allTrue_Or_nil (Post.mk rfl S h)
theorem b_and_cons {x : PySem.Expr} {rest : List PySem.Expr} {Q : Bool → Loc → Mem → Prop}
    (h : TrB W A env outer (isTrue x env (eval x env)) loc mem (fun b l m => (b = true → TrB W A env outer (allTrue .And rest env) l m Q E) ∧ (b = false → Q false l m)) E) :
    TrB W A env outer (allTrue .And (x :: rest) env) loc mem Q E := fun R F s S =>
  wpAny_allTrue_And_cons (after (RW := VR W) (Q := fun _ _ _ => True) (h R F s S) fun v' s' F1 b l1 m1 i1 r1 S1 h1 => by
    subst r1
    cases v' with
    | true => exact wpAny_mono (h1.1 rfl R F1 s' S1) (fun _ _ p => p.weaken i1) fun _ _ e => E.up i1 e
    | false => exact ⟨F1, false, l1, m1, i1, rfl, S1, h1.2 rfl⟩)
theorem b_or_cons {x : PySem.Expr} {rest : List PySem.Expr} {Q : Bool → Loc → Mem → Prop}
    (h : TrB W A env outer (isTrue x env (eval x env)) loc mem (fun b l m => (b = false → TrB W A env outer (allTrue .Or rest env) l m Q E) ∧ (b = true → Q true l m)) E) :
    TrB W A env outer (allTrue .Or (x :: rest) env) loc mem Q E := fun R F s S =>
  wpAny_allTrue_Or_cons (after (RW := VR W) (Q := fun _ _ _ => True) (h R F s S) fun v' s' F1 b l1 m1 i1 r1 S1 h1 => by
    subst r1
    cases v' with
    | false => exact wpAny_mono (h1.1 rfl R F1 s' S1) (fun _ _ p => p.weaken i1) fun _ _ e => E.up i1 e
    | true => exact ⟨F1, true, l1, m1, i1, rfl, S1, h1.2 rfl⟩)
theorem e_ifexp {test body orelse : PySem.Expr} {pos : Pos} {Q : V → Loc → Mem → Prop}
    (h : TrB W A env outer (isTrue test env (eval test env)) loc mem (fun b l m => (b = true → TrV W A env outer (eval body env) l m Q E) ∧ (b = false → TrV W A env outer (eval orelse env) l m Q E)) E) :
    TrV W A env outer (eval (.IfExp test body orelse pos) env) loc mem Q E := fun R F s S =>
  wpAny_IfExp (after (RW := VR W) (Q := fun _ _ _ => True) (h R F s S) fun v' s' F1 b l1 m1 i1 r1 S1 h1 => by
    subst r1
    cases v' with
    | true => rw [if_pos rfl]; exact wpAny_mono (h1.1 rfl R F1 s' S1) (fun _ _ p => p.weaken i1) fun _ _ e => E.up i1 e
    | false => rw [if_neg Bool.false_ne_true]; exact wpAny_mono (h1.2 rfl R F1 s' S1) (fun _ _ p => p.weaken i1) fun _ _ e => E.up i1 e)
theorem e_and2 {x y : PySem.Expr} {pos : Pos} {Q : V → Loc → Mem → Prop}
    (h : TrV W A env outer (eval x env) loc mem (fun v l m => Op W A env outer (fun _ (b c : Bool) => c = b) (fun | [x] => truthy x | _ => pure false) [v] l m (fun b l m => (b = true → TrV W A env outer (eval y env) l m Q E) ∧ (b = false → Q v l m)) E) E) :
    TrV W A env outer (eval (.BoolOp .And [x, y] pos) env) loc mem Q E := fun R F s S =>
  wpAny_And2 (after (RW := VR W) (Q := fun _ _ _ => True) (h R F s S) fun v' s' F1 v l1 m1 i1 r1 S1 h1 =>
    after (RW := VR W) (Q := fun _ _ _ => True) (h1 R F1 s' [v'] S1 (.cons r1 .nil)) fun b' s2 F2 b l2 m2 i2 r2 S2 h2 => by
      subst r2
      cases b' with
      | true => rw [if_pos rfl]; exact wpAny_mono (h2.1 rfl R F2 s2 S2) (fun _ _ p => p.weaken (i1.trans i2)) fun _ _ e => E.up (i1.trans i2) e
      | false => rw [if_neg Bool.false_ne_true]; exact ⟨F2, v, l2, m2, i1.trans i2, r1.mono i2, S2, h2.2 rfl⟩)
theorem e_unop {op : UnaryOp} {x : PySem.Expr} {pos : Pos} {Q : V → Loc → Mem → Prop} (h : TrV W A env outer (eval x env) loc mem (fun v l m => Op W A env outer (VR W) (fun | [x] => unaryOp op x | _ => pure .none) [v] l m Q E) E) :
    TrV W A env outer (eval (.UnaryOp op x pos) env) loc mem Q E := fun R F s S =>
  wpAny_UnaryOp (after (RW := VR W) (Q := fun _ _ _ => True) (h R F s S) fun v' s' F1 v l1 m1 i1 r1 S1 h1 => wpAny_mono (h1 R F1 s' [v'] S1 (.cons r1 .nil)) (fun _ _ p => p.weaken i1) fun _ _ e => E.up i1 e)
theorem tr_bool {b : Bool} {Q : Bool → Loc → Mem → Prop} (h : Q b loc mem) : Op W A env outer (fun _ (b c : Bool) => c = b) (fun | [x] => truthy x | _ => pure false) [.bool b] loc mem Q E := fun R F s vs S r => by
  cases r.view with
  | cons r1 r2 => cases r2.view; cases r1.view; exact wpAny_truthy_bool (Post.mk rfl S h)
theorem a_nil {pos : Pos} {Q : List V → Loc → Mem → Prop} (h : Q [] loc mem) : TrL W A env outer (spliced (backTo pos (starEach [] env))) loc mem Q E := fun R F s S => wpAny_items_nil (Post.mk .nil S h)
theorem a_cons {pos : Pos} {e : PySem.Expr} {rest : List PySem.Expr} {Q : List V → Loc → Mem → Prop} (he : starEach (e :: rest) env = (false, eval e env) :: starEach rest env)
    (h : TrV W A env outer (eval e env) loc mem (fun x l m => TrL W A env outer (spliced (backTo pos (starEach rest env))) l m (fun xs l m => Q (x :: xs) l m) E) E) :
    TrL W A env outer (spliced (backTo pos (starEach (e :: rest) env))) loc mem Q E := fun R F s S =>
  wpAny_items_cons (he := he) (after (RW := VR W) (Q := fun _ _ _ => True) (h R F s S) fun v' s' F1 v l1 m1 i1 r1 S1 h1 =>
    after (RW := VR W) (Q := fun _ _ _ => True) (h1 R F1 s' S1) fun vs s2 F2 xs l2 m2 i2 r2 S2 h2 => ⟨F2, v :: xs, l2, m2, i1.trans i2, .cons (r1.mono i2) r2, S2, h2⟩)
end
end Mine
end
section
namespace Mine
section
variable {W : Wd} {A : Around} {env : Env} {outer : Outs} {loc : Loc} {mem R : Mem} {E : Ex W} {F : Frz} {s : Shared}
noncomputable def Cont (W : Wd) (A : Around) (env : Env) (outer : Outs) (rest : List Stmt) (Q : Fl → Loc → Mem → Prop) (E : Ex W) : Fl → Loc → Mem → Prop
  | .next, l, m => TrS W A env outer (execs rest env) l m Q E
  | f, l, m => Q f l m
theorem s_nil {Q : Fl → Loc → Mem → Prop} (h : Q .next loc mem) : TrS W A env outer (execs [] env) loc mem Q E := fun R F s S => wpAny_execs_nil (Post.mk .next S h)
theorem s_cons {st : Stmt} {rest : List Stmt} {Q : Fl → Loc → Mem → Prop} (h : TrS W A env outer (exec st env) loc mem (Cont W A env outer rest Q E) E) :
    TrS W A env outer (execs (st :: rest) env) loc mem Q E := fun R F s S =>
  wpAny_execs_cons (after (RW := VR W) (Q := fun _ _ _ => True) (h R F s S) fun v' s' F1 f l1 m1 i1 r1 S1 h1 => by
    cases r1 with
    | next => exact wpAny_mono (h1 R F1 s' S1) (fun _ _ p => p.weaken i1) fun _ _ e => E.up i1 e
    | brk => exact ⟨F1, .brk, l1, m1, i1, .brk, S1, h1⟩
    | cont => exact ⟨F1, .cont, l1, m1, i1, .cont, S1, h1⟩
    | ret r => exact ⟨F1, .ret _, l1, m1, i1, .ret r, S1, h1⟩)
theorem s_pass {pos : Pos} {Q : Fl → Loc → Mem → Prop} (h : Q .next loc mem) : TrS W A env outer (exec (.Pass pos) env) loc mem Q E := fun R F s S => wpAny_Pass (Post.mk .next S h)
theorem s_break {pos : Pos} {Q : Fl → Loc → Mem → Prop} (h : Q .brk loc mem) : TrS W A env outer (exec (.Break pos) env) loc mem Q E := fun R F s S => wpAny_Break (Post.mk .brk S h)
theorem s_ret {e : PySem.Expr} {pos : Pos} {Q : Fl → Loc → Mem → Prop} (h : TrV W A env outer (eval e env) loc mem (fun v => Q (.ret v)) E) :
    TrS W A env outer (exec (.Return (some e) pos) env) loc mem Q E := fun R F s S =>
  wpAny_Return_some (after (RW := VR W) (Q := fun _ _ _ => True) (h R F s S) fun v' s' F1 f l1 m1 i1 r1 S1 h1 => ⟨F1, .ret f, l1, m1, i1, .ret r1, S1, h1⟩)
theorem s_expr {e : PySem.Expr} {pos : Pos} {Q : Fl → Loc → Mem → Prop} (hi : interactive env = false) (hs : swapsWith e none pos.line env = pure false)
    (h : TrV W A env outer (eval e env) loc mem (fun _ => Q .next) E) : TrS W A env outer (exec (.Expr e pos) env) loc mem Q E := fun R F s S =>
  wpAny_Expr_any (hi := hi) (hs := hs) (after (RW := VR W) (Q := fun _ _ _ => True) (h R F s S) fun v' s' F1 f l1 m1 i1 r1 S1 h1 => ⟨F1, .next, l1, m1, i1, .next, S1, h1⟩)
theorem s_if {test : PySem.Expr} {body orelse : List Stmt} {pos : Pos} {Q : Fl → Loc → Mem → Prop}
    (h : TrB W A env outer (isTrue test env (eval test env)) loc mem (fun b l m => (b = true → TrS W A env outer (execs body env) l m Q E) ∧ (b = false → TrS W A env outer (execs orelse env) l m Q E)) E) :
    TrS W A env outer (exec (.If test body orelse pos) env) loc mem Q E := fun R F s S =>
  wpAny_If (after (RW := VR W) (Q := fun _ _ _ => True) (h R F s S) fun v' s' F1 b l1 m1 i1 r1 S1 h1 => by
    subst r1
    cases v' with
    | true => rw [if_pos rfl]; exact wpAny_mono (h1.1 rfl R F1 s' S1) (fun _ _ p => p.weaken i1) fun _ _ e => E.up i1 e
    | false => rw [if_neg Bool.false_ne_true]; exact wpAny_mono (h1.2 rfl R F1 s' S1) (fun _ _ p => p.weaken i1) fun _ _ e => E.up i1 e)
theorem st_local {x : Str} {v : V} {Q : Loc → Mem → Prop} (hl : env.kindOf x = some .local) (hp : (env.scope.kind == .class || (env.scope.kind == .module && env.locals != env.globals)) = false) (h : Q (setL x v loc) mem) :
    Op W A env outer (fun _ (_ _ : Unit) => True) (fun | [y] => storeName env x y | _ => pure ()) [v] loc mem (fun _ => Q) E := fun R F s vs S r => by
  cases r.view with
  | cons r1 r2 =>
    cases r2.view
    obtain ⟨m, hn, l⟩ := S.ns
    exact wpAny_storeName_local hl hn (fun h' hn' hs => Post.mk (x := ()) trivial (S.store r1 l hn' hs) h) hp
theorem cell_back {c : Addr} {u : Option V} {v : V} {o : Obj} {v' : Value} (r : VR W F v v') (hd : o.data = .cell (some v')) : OR W F (.cell (some v)) o :=
  .cell hd (fun x e => by cases e; exact ⟨v', rfl, r⟩) (fun e => by cases e)
theorem st_cell {x : Str} {c : Addr} {u : Option V} {v : V} {Q : Loc → Mem → Prop} (hk : env.scope.kind = .function) (hl : env.kindOf x = some .cell) (hc : env.cells.lookup x = some c) (hm : mem c = some (.cell u))
    (h : Q loc (mset mem c (.cell (some v)))) :
    Op W A env outer (fun _ (_ _ : Unit) => True) (fun | [y] => storeName env x y | _ => pure ()) [v] loc mem (fun _ => Q) E := fun R F s vs S r => by
  cases r.view with
  | cons r1 r2 =>
    cases r2.view
    obtain ⟨o, ho, ro⟩ := S.memOk c _ hm
    cases ro.view with
    | cell k _ _ =>
      refine wpAny_storeName_cell hk hl hc ⟨o, ho, k⟩ fun h' hv hs => ?_
      obtain ⟨o', ho', hd'⟩ := hv
      exact Post.mk (x := ()) trivial (S.upd (t := s.toks) (d := s.drawn) hm (fun b ob hb e => (hs.2 b hb).trans e) ho' (cell_back (c := c) (u := u) r1 hd')) h
theorem s_assign {x : Str} {pos' pos : Pos} {value : PySem.Expr} {Q : Fl → Loc → Mem → Prop} (hs : swapsWith value (some (.Name x pos')) pos.line env = pure false)
    (h : TrV W A env outer (eval value env) loc mem (fun v l m => Op W A env outer (fun _ (_ _ : Unit) => True) (fun | [y] => storeName env x y | _ => pure ()) [v] l m (fun _ => Q .next) E) E) :
    TrS W A env outer (exec (.Assign [.Name x pos'] value pos) env) loc mem Q E := fun R F s S =>
  wpAny_Assign_Name (hs := hs) (after (RW := VR W) (Q := fun _ _ _ => True) (h R F s S) fun v' s' F1 f l1 m1 i1 r1 S1 h1 =>
    after (RW := VR W) (Q := fun _ _ _ => True) (h1 R F1 s' [v'] S1 (.cons r1 .nil)) fun _ s2 F2 _ l2 m2 i2 _ S2 h2 => ⟨F2, .next, l2, m2, i1.trans i2, .next, S2, h2⟩)
theorem s_assign_attr {o : PySem.Expr} {attr : Str} {pos' pos : Pos} {value : PySem.Expr} {Q : Fl → Loc → Mem → Prop} (hs : swapsWith value (some (.Attribute o attr pos')) pos.line env = pure false)
    (h : TrV W A env outer (eval value env) loc mem (fun v l m => TrV W A env outer (eval o env) l m (fun ov l m => Op W A env outer (fun _ (_ _ : Unit) => True) (fun | [x, y] => setAttr x attr y | _ => pure ()) [ov, v] l m (fun _ => Q .next) E) E) E) :
    TrS W A env outer (exec (.Assign [.Attribute o attr pos'] value pos) env) loc mem Q E := fun R F s S =>
  plainObj_wpAny_Assign_Attribute (hs := hs) (after (RW := VR W) (Q := fun _ _ _ => True) (h R F s S) fun v' s' F1 f l1 m1 i1 r1 S1 h1 =>
    after (RW := VR W) (Q := fun _ _ _ => True) (h1 R F1 s' S1) fun u' s2 F2 g l2 m2 i2 r2 S2 h2 =>
      after (RW := VR W) (Q := fun _ _ _ => True) (h2 R F2 s2 [u', v'] S2 (.cons r2 (.cons (r1.mono i2) .nil))) fun _ s3 F3 _ l3 m3 i3 _ S3 h3 => ⟨F3, .next, l3, m3, (i1.trans i2).trans i3, .next, S3, h3⟩)
theorem s_assign_sub {o i : PySem.Expr} {pos' pos : Pos} {value : PySem.Expr} {Q : Fl → Loc → Mem → Prop} (hs : swapsWith value (some (.Subscript o i pos')) pos.line env = pure false)
    (h : TrV W A env outer (eval value env) loc mem (fun v l m => TrV W A env outer (eval o env) l m (fun ov l m => TrV W A env outer (eval i env) l m (fun iv l m =>
      Op W A env outer (fun _ (_ _ : Unit) => True) (fun | [x, y, z] => setItem x y z | _ => pure ()) [ov, iv, v] l m (fun _ => Q .next) E) E) E) E) :
    TrS W A env outer (exec (.Assign [.Subscript o i pos'] value pos) env) loc mem Q E := fun R F s S =>
  wpAny_Assign_Subscript (hs := hs) (after (RW := VR W) (Q := fun _ _ _ => True) (h R F s S) fun v' s' F1 f l1 m1 i1 r1 S1 h1 =>
    after (RW := VR W) (Q := fun _ _ _ => True) (h1 R F1 s' S1) fun u' s2 F2 g l2 m2 i2 r2 S2 h2 =>
      after (RW := VR W) (Q := fun _ _ _ => True) (h2 R F2 s2 S2) fun w' s3 F3 k l3 m3 i3 r3 S3 h3 =>
        after (RW := VR W) (Q := fun _ _ _ => True) (h3 R F3 s3 [u', w', v'] S3 (.cons (r2.mono i3) (.cons r3 (.cons (r1.mono (i2.trans i3)) .nil)))) fun _ s4 F4 _ l4 m4 i4 _ S4 h4 =>
          ⟨F4, .next, l4, m4, ((i1.trans i2).trans i3).trans i4, .next, S4, h4⟩)
theorem s_aug {x : Str} {pos' pos : Pos} {op : Operator} {value : PySem.Expr} {v : V} {Q : Fl → Loc → Mem → Prop} (hk : env.scope.kind = .function) (hl : env.kindOf x = some .local) (hv : loc.lookup x = some v)
    (h : TrV W A env outer (eval value env) loc mem (fun u l m => Op W A env outer (VR W) (fun | [a, b] => inplaceOp op a b | _ => pure .none) [v, u] l m (fun r l m => Op W A env outer (fun _ (_ _ : Unit) => True) (fun | [y] => storeName env x y | _ => pure ()) [r] l m (fun _ => Q .next) E) E) E) :
    TrS W A env outer (exec (.AugAssign (.Name x pos') op value pos) env) loc mem Q E := fun R F s S => by
  obtain ⟨m, hn, l⟩ := S.ns
  obtain ⟨v', e, r⟩ := l x v hv
  refine wpAny_AugAssign_Name (wpAny_loadName_local hk hl hn e ?_)
  exact after (RW := VR W) (Q := fun _ _ _ => True) (h R F s S) fun u' s2 F2 g l2 m2 i2 r2 S2 h2 =>
      after (RW := VR W) (Q := fun _ _ _ => True) (h2 R F2 s2 [v', u'] S2 (.cons (r.mono i2) (.cons r2 .nil))) fun w' s3 F3 k l3 m3 i3 r3 S3 h3 =>
        after (RW := VR W) (Q := fun _ _ _ => True) (h3 R F3 s3 [w'] S3 (.cons r3 .nil)) fun _ s4 F4 _ l4 m4 i4 _ S4 h4 =>
          ⟨F4, .next, l4, m4, (i2.trans i3).trans i4, .next, S4, h4⟩
noncomputable def LoopE (W : Wd) (A : Around) (env : Env) (E : Ex W) : Ex W where
  p R F := notedBy (model W.prog W.w) A env fun e s' => cameBackBy (model W.prog W.w) A env (E.p R F) e s'
  mono l i h := wpAny_mono h (fun _ _ q => wpAny_mono q (fun _ _ z => E.mono l i z) fun _ _ z => E.mono l i z) fun _ _ z => wpAny_mono z (fun _ _ z => E.mono l i z) fun _ _ z => E.mono l i z
noncomputable abbrev WhlQ (I : Nat → Loc → Mem → Prop) (k : Nat) (Q : Fl → Loc → Mem → Prop) : Fl → Loc → Mem → Prop
  | .next, l, m => ∃ k', k' < k ∧ I k' l m
  | .cont, l, m => ∃ k', k' < k ∧ I k' l m
  | .brk, l, m => Q .next l m
  | .ret v, l, m => Q (.ret v) l m
noncomputable abbrev ForQ (I : Nat → Nat → Loc → Mem → Prop) (k i : Nat) (Q : Fl → Loc → Mem → Prop) : Fl → Loc → Mem → Prop
  | .next, l, m => ∃ k', k' < k ∧ I k' i l m
  | .cont, l, m => ∃ k', k' < k ∧ I k' i l m
  | .brk, l, m => Q .next l m
  | .ret v, l, m => Q (.ret v) l m
theorem nameQ {α β : Type} {RV : Frz → β → α → Prop} {t : Sem α} {Q : β → Loc → Mem → Prop} (h : let q := Q; let e := E; Tr W A env outer RV t loc mem q e) : Tr W A env outer RV t loc mem Q E := h
inductive WhlI (W : Wd) (env : Env) (outer : Outs) (F : Frz) (R : Mem) (I : Nat → Loc → Mem → Prop) (n : Nat) (s : Shared) : Prop
  | intro (F' : Frz) (l : Loc) (m : Mem) (h1_ : Incl F F') (h2_ : Sim W env outer l m R F' s) (h3_ : I n l m)
theorem only_t {p q : Prop} (h : p) : (true = true → p) ∧ (true = false → q) := ⟨fun _ => h, fun e => (nomatch e)⟩
theorem only_f {p q : Prop} (h : q) : (false = true → p) ∧ (false = false → q) := ⟨fun e => (nomatch e), fun _ => h⟩
theorem nameS {sts : List Stmt} {Q : Fl → Loc → Mem → Prop} (h : let a := A; let v := env; let o := outer; let q := Q; let e := E; TrS W a v o (execs sts v) loc mem q e) : TrS W A env outer (execs sts env) loc mem Q E := h
theorem s_while {test : PySem.Expr} {body orelse : List Stmt} {pos : Pos} {Q : Fl → Loc → Mem → Prop} (I : Nat → Loc → Mem → Prop)
    (turn : ∀ k l m, I k l m → TrB W A env outer (isTrue test env (eval test env)) l m (fun b l m =>
      (b = true → TrS W A env outer (execs body env) l m (WhlQ I k Q) (LoopE W A env E)) ∧
      (b = false → TrS W A env outer (execs orelse env) l m Q (LoopE W A env E))) (LoopE W A env E))
    (k : Nat) (h : I k loc mem) : TrS W A env outer (exec (.While test body orelse pos) env) loc mem Q E := fun R F s S => by
  refine wpAny_While (codeAny_whileLoop (WhlI W env outer F R I) (fun n s hI => ?_) k ⟨F, loc, mem, Incl.refl F, S, h⟩)
  obtain ⟨F', l, m, i, S', hI⟩ := hI
  refine after' (RW := VR W) (Q := fun _ _ _ => True) (turn n l m hI R F' s S') (fun _ _ z => (LoopE W A env E).mono (Less.refl R) i z) fun b' s1 F1 b l1 m1 i1 r1 S1 h1 => ?_
  subst r1
  cases b' with
  | true =>
    rw [if_pos rfl]
    refine after' (RW := VR W) (Q := fun _ _ _ => True) (h1.1 rfl R F1 s1 S1) (fun _ _ z => (LoopE W A env E).mono (Less.refl R) (i.trans i1) z) fun f' s2 F2 f l2 m2 i2 r2 S2 h2 => ?_
    cases r2 with
    | next => obtain ⟨k', hk, q⟩ := h2; exact ⟨k', hk, F2, l2, m2, (i.trans i1).trans i2, S2, q⟩
    | cont => obtain ⟨k', hk, q⟩ := h2; exact ⟨k', hk, F2, l2, m2, (i.trans i1).trans i2, S2, q⟩
    | brk => exact ⟨F2, .next, l2, m2, (i.trans i1).trans i2, .next, S2, h2⟩
    | ret r => exact ⟨F2, .ret _, l2, m2, (i.trans i1).trans i2, .ret r, S2, h2⟩
  | false =>
    rw [if_neg Bool.false_ne_true]
    exact after' (RW := VR W) (Q := fun _ _ _ => True) (h1.2 rfl R F1 s1 S1) (fun _ _ z => (LoopE W A env E).mono (Less.refl R) (i.trans i1) z) fun f' s2 F2 f l2 m2 i2 r2 S2 h2 => ⟨F2, f, l2, m2, (i.trans i1).trans i2, r2, S2, h2⟩
inductive FedI (W : Wd) (env : Env) (outer : Outs) (loc : Loc) (mem R₀ : Mem) (F : Frz) (st : Nat → Mem → Mem → Prop) (i : Nat) (v : V) (v' : Value) (s : Shared) : Prop
  | intro (F' : Frz) (R' : Mem) (h1_ : Incl F F') (h2_ : VR W F' v v') (h3_ : st i R₀ R') (h4_ : Sim W env outer loc mem R' F' s)
structure Feed (W : Wd) (A : Around) (F₀ : Frz) (target : PySem.Expr) (it : Value) (item : Nat → Mem → Option (Option V)) (st : Nat → Mem → Mem → Prop) : Prop where
  next : ∀ {i : Nat} {env : Env} {outer : Outs} {loc : Loc} {mem R₀ R : Mem} {F : Frz} {s : Shared} {v : V} (E : Value → Shared → Prop), Incl F₀ F → st i R₀ R → item i mem = some (some v) → Sim W env outer loc mem R F s →
    wpAny (model W.prog W.w) A (pyNext it) (fun r s1 => ∃ v', r = some v' ∧ wpAny (model W.prog W.w) A (letOwnedTupleGo target it v') (fun _ s2 => FedI W env outer loc mem R₀ F st (i + 1) v v' s2) E s1) E s
  done : ∀ {i : Nat} {env : Env} {outer : Outs} {loc : Loc} {mem R₀ R : Mem} {F : Frz} {s : Shared} (E : Value → Shared → Prop), Incl F₀ F → st i R₀ R → item i mem = some none → Sim W env outer loc mem R F s →
    wpAny (model W.prog W.w) A (pyNext it) (fun r s1 => r = none ∧ Sim W env outer loc mem R₀ F s1) E s
  self : ∀ {i : Nat} {env : Env} {outer : Outs} {loc : Loc} {mem R₀ R : Mem} {F : Frz} {s : Shared} (E : Value → Shared → Prop) (Q : Value → Shared → Prop), st i R₀ R → Sim W env outer loc mem R F s → Q it s → wpAny (model W.prog W.w) A (pyIter it) Q E s
  frame : ∀ {i : Nat} {R₀ R : Mem} {D : Addr} (x : AObj), st i R₀ R → R D = R₀ D → st i (mset R₀ D x) (mset R D x)
  same : ∀ {i : Nat} {R₀ R : Mem} {D : Addr}, st i R₀ R → R₀ D ≠ none → R D = R₀ D
  off : ∀ {i : Nat} {env : Env} {outer : Outs} {loc : Loc} {mem R₀ R : Mem} {F : Frz} {s : Shared}, st i R₀ R → Sim W env outer loc mem R F s → Sim W env outer loc mem R₀ F s
noncomputable def Itr (W : Wd) (A : Around) (target : PySem.Expr) (x : V) (mem mem₀ : Mem) (item : Nat → Mem → Option (Option V)) : Prop :=
  ∀ {env : Env} {outer : Outs} {loc : Loc} {R : Mem} {F : Frz} {s : Shared} {x' : Value} (E : Value → Shared → Prop), Sim W env outer loc mem R F s → VR W F x x' →
    wpAny (model W.prog W.w) A (pyIter x') (fun it s' => ∃ st R', Feed W A F target it item st ∧ st 0 R R' ∧ Sim W env outer loc mem₀ R' F s') E s
noncomputable def ForK (W : Wd) (A : Around) (env : Env) (outer : Outs) (target : PySem.Expr) (body orelse : List Stmt) (x : V) (loc : Loc) (mem : Mem) (Q : Fl → Loc → Mem → Prop) (E : Ex W) : Prop :=
  ∀ R F s x', Sim W env outer loc mem R F s → VR W F x x' → wpAny (model W.prog W.w) A (pyIter x') (fun it s2 => codeAny (model W.prog W.w) A (.forLoop target it body orelse env) (fun r s' => match r with
    | .ok f => Post W env outer (FR W) R F Q f s'
    | .error e => cameBackBy (model W.prog W.w) A env (E.p R F) e s') s2) (E.p R F) s
theorem s_for {target iter : PySem.Expr} {body orelse : List Stmt} {pos : Pos} {Q : Fl → Loc → Mem → Prop} (hs : ∀ x, foldedSetIterable iter env x = pure x)
    (h : TrV W A env outer (eval iter env) loc mem (fun x l m => ForK W A env outer target body orelse x l m Q E) E) :
    TrS W A env outer (exec (.For target iter body orelse pos) env) loc mem Q E := fun R F s S =>
  wpAny_For (hs := hs) (after (RW := VR W) (Q := fun _ _ _ => True) (h R F s S) fun x' s1 F1 x l1 m1 i1 r1 S1 h1 =>
    wpAny_mono (h1 R F1 s1 x' S1 r1) (fun it s2 h2 => codeAny_mono h2 fun r s' h3 => by
      cases r with
      | ok f => exact Post.weaken i1 h3
      | error e => exact wpAny_mono h3 (fun _ _ z => E.up i1 z) fun _ _ z => E.up i1 z) fun _ _ e => E.up i1 e)
inductive ForI (W : Wd) (env : Env) (outer : Outs) (F : Frz) (R : Mem) (st : Nat → Mem → Mem → Prop) (I : Nat → Nat → Loc → Mem → Prop) (n : Nat) (s : Shared) : Prop
  | intro (i : Nat) (F' : Frz) (R' : Mem) (l : Loc) (m : Mem) (h1_ : Incl F F') (h2_ : st i R R') (h3_ : Sim W env outer l m R' F' s) (h4_ : I n i l m)
theorem for_k {mem₀ : Mem} {target : PySem.Expr} {body orelse : List Stmt} {x : V} {Q : Fl → Loc → Mem → Prop} {item : Nat → Mem → Option (Option V)} (hx : Itr W A target x mem mem₀ item) (I : Nat → Nat → Loc → Mem → Prop)
    (turn : ∀ k i l m, I k i l m → item i m ≠ none ∧ (item i m = some none → TrS W A env outer (execs orelse env) l m Q (LoopE W A env E)) ∧
      ∀ v, item i m = some (some v) → Op W A env outer (fun _ (_ _ : Unit) => True) (fun | [y] => assign target env y | _ => pure ()) [v] l m (fun _ l m => TrS W A env outer (execs body env) l m (ForQ I k (i + 1) Q) (LoopE W A env E)) (LoopE W A env E))
    (k : Nat) (h : I k 0 loc mem₀) : ForK W A env outer target body orelse x loc mem Q E := fun R F s x' S r => by
  refine wpAny_mono (hx (E.p R F) S r) (fun it s2 h2 => ?_) fun _ _ e => e
  obtain ⟨st, R', fd, h0, S2⟩ := h2
  refine codeAny_forLoop_any (ForI W env outer F R st I) (fun n s hI => ?_) k ⟨0, F, R', loc, mem₀, Incl.refl F, h0, S2, h⟩
  obtain ⟨i, F', R1, l, m, ic, hst, S', hI⟩ := hI
  obtain ⟨t1, t2, t3⟩ := turn n i l m hI
  cases hit : item i m with
  | none => exact absurd hit t1
  | some w =>
    cases w with
    | none =>
      refine wpAny_mono (fd.done _ ic hst hit S') (fun r s1 h1 => ?_) fun _ _ e => e
      obtain ⟨rfl, S1⟩ := h1
      exact wpAny_mono (t2 hit R F' s1 S1) (fun f s3 h3 => Post.weaken ic h3) fun _ _ e => (LoopE W A env E).mono (Less.refl R) ic e
    | some v =>
      refine wpAny_mono (fd.next _ ic hst hit S') (fun r s1 h1 => ?_) fun _ _ e => e
      obtain ⟨v', rfl, h1⟩ := h1
      refine wpAny_mono h1 (fun _ s2 h2 => ?_) fun _ _ e => e
      obtain ⟨F2, R2, i2, r2, hst2, S2⟩ := h2
      have less : Less W R R2 := ⟨fun S => fd.off hst2 S, fun a x h => by rw [fd.same hst2 (by rw [h]; exact fun e => nomatch e)]; exact h⟩
      refine after' (RW := VR W) (Q := fun _ _ _ => True) (t3 v hit R2 F2 s2 [v'] S2 (.cons r2 .nil)) (fun _ _ z => (LoopE W A env E).mono less (ic.trans i2) z) fun _ s3 F3 _ l3 m3 i3 _ S3 h3 => ?_
      refine after' (RW := VR W) (Q := fun _ _ _ => True) (h3 R2 F3 s3 S3) (fun _ _ z => (LoopE W A env E).mono less ((ic.trans i2).trans i3) z) fun f' s4 F4 f l4 m4 i4 r4 S4 h4 => ?_
      have hi := ((ic.trans i2).trans i3).trans i4
      cases r4 with
      | next => obtain ⟨k', hk, q⟩ := h4; exact ⟨k', hk, i + 1, F4, R2, l4, m4, hi, hst2, S4, q⟩
      | cont => obtain ⟨k', hk, q⟩ := h4; exact ⟨k', hk, i + 1, F4, R2, l4, m4, hi, hst2, S4, q⟩
      | brk => exact ⟨F4, .next, l4, m4, hi, .next, fd.off hst2 S4, h4⟩
      | ret r => exact ⟨F4, .ret _, l4, m4, hi, .ret r, fd.off hst2 S4, h4⟩
end
end Mine
end
section
namespace Mine
noncomputable def ledger (hb h : Heap) (L d : Addr) : List (Addr × Obj) := (List.range h.objs.size).filterMap fun a => if a = L ∨ a = d ∨ (hb.get? a).isSome = true then none else (h.get? a).map fun o => (a, o)
theorem mem_ledger {hb h : Heap} {L d : Addr} {p : Addr × Obj} : p ∈ ledger hb h L d ↔ h.get? p.1 = some p.2 ∧ p.1 ≠ L ∧ p.1 ≠ d ∧ hb.get? p.1 = none := by
  unfold ledger
  rw [List.mem_filterMap]
  constructor
  · rintro ⟨a, ha, e⟩
    split at e
    · cases e
    · rename_i hn
      cases q : h.get? a with
      | none => rw [q] at e; cases e
      | some o =>
        rw [q] at e
        cases e
        refine ⟨q, fun e => hn (.inl e), fun e => hn (.inr (.inl e)), ?_⟩
        cases z : hb.get? a with
        | none => rfl
        | some y => exact absurd (.inr (.inr (by rw [z]; rfl))) hn
  · rintro ⟨h1, h2, h3, h4⟩
    refine ⟨p.1, List.mem_range.mpr (Heap.lt_size h1), ?_⟩
    rw [if_neg, h1]
    · rfl
    · rintro (e | e | e)
      · exact h2 e
      · exact h3 e
      · rw [h4] at e; cases e
theorem ledger_ne {hb h : Heap} {L d : Addr} {p : Addr × Obj} (hp : p ∈ ledger hb h L d) : p.1 ≠ d := (mem_ledger.mp hp).2.2.1
section
variable {W : Wd} {env : Env} {outer : Outs} {loc : Loc} {mem R : Mem} {F : Frz} {s : Shared}
theorem Sim.newsAll {a : Addr} {x : AObj} {o : Obj} (S : Sim W env outer loc mem R F s) (h : mem a = some x) (ho : s.heap.get? a = some o) : News W.hb env.locals s.heap ((a, o) :: ledger W.hb s.heap env.locals a) := by
  intro p hp
  rcases List.mem_cons.mp hp with rfl | hp
  · exact ⟨ho, S.ne_locals h, S.fresh_base h⟩
  · have := mem_ledger.mp hp; exact ⟨this.1, this.2.1, this.2.2.2⟩
theorem Sim0.updN {a : Addr} {x x' : AObj} {h' : Heap} {t : Nat} {d : Drawn} {o' : Obj} {m : Str → Option Value} (S : Sim0 W env outer loc mem F s) (hm : mem a = some x) (l : LocRel W F loc m)
    (Fr' : Fr W.hb env.locals h' m) (N' : News W.hb env.locals h' ((a, o') :: ledger W.hb s.heap env.locals a)) (r : OR W F x' o') :
    Sim0 W env outer loc (mset mem a x') F { s with heap := h', toks := t, drawn := d } := by
  have hs : ∀ b o, b ≠ a → b ≠ env.locals → s.heap.get? b = some o → h'.get? b = some o := fun b o h1 h2 e => by
    cases q : W.hb.get? b with
    | some o' =>
      have := S.frz _ _ (S.base _ _ q)
      rw [e] at this; cases this
      exact Fr'.keep b o q
    | none => exact (N' (b, o) (.tail _ (mem_ledger.mpr ⟨e, h2, h1, q⟩))).1
  have ho := (N' (a, o') (.head _)).1
  exact {
    frz := fun b o h => hs b o (fun e => by have := S.memF b o h; rw [e, hm] at this; cases this) (fun e => S.nsF.1 o (e ▸ h)) (S.frz b o h)
    base := S.base
    memF := fun b o h => by
      have hb : b ≠ a := fun e => by have := S.memF b o h; rw [e, hm] at this; cases this
      rw [mset_ne hb]; exact S.memF b o h
    memOk := fun b y h => by
      by_cases e : b = a
      · subst e; rw [mset_self] at h; cases h; exact ⟨o', ho, r⟩
      · rw [mset_ne e] at h; obtain ⟨o, e', q⟩ := S.memOk b y h; exact ⟨o, hs b o e (S.ne_locals h) e', q⟩
    ns := ⟨m, Fr'.ns, l⟩
    nsF := ⟨S.nsF.1, by rw [mset_ne (Ne.symm (S.ne_locals hm))]; exact S.nsF.2⟩
    outs := fun q hq => by
      obtain ⟨z, b, c, e⟩ := S.outs q hq
      have hq' : q.1 ≠ a := fun e => by rw [e, hm] at c; cases c
      obtain ⟨o, es, ep, e', r'⟩ := z
      exact ⟨⟨o, es, ep, hs _ _ hq' e e', r'⟩, b, by rw [mset_ne hq']; exact c, e⟩
    low := S.low
    memLow := fun b y h => by
      unfold mset at h
      split at h
      · rename_i q; rw [q]; exact S.memLow a x hm
      · exact S.memLow b y h
    gens := S.gens
    os := S.os }
theorem Sim.updN {a : Addr} {x x' : AObj} {h' : Heap} {t : Nat} {d : Drawn} {o' : Obj} {m : Str → Option Value} (S : Sim W env outer loc mem R F s) (hm : mem a = some x) (l : LocRel W F loc m)
    (Fr' : Fr W.hb env.locals h' m) (N' : News W.hb env.locals h' ((a, o') :: ledger W.hb s.heap env.locals a)) (r : OR W F x' o') :
    Sim W env outer loc (mset mem a x') R F { s with heap := h', toks := t, drawn := d } := ⟨S.dis.set hm, mset_mun mem R a x' ▸ S.z.updN (mun_l hm) l Fr' N' r⟩
end
noncomputable def getA (es : List (Str × V)) (k : Str) : Option V := (es.find? fun e => e.1 = k).map (·.2)
noncomputable def stA (es : List (Str × V)) (k : Str) (v : V) : List (Str × V) :=
  if es.any (fun e => e.1 = k) then es.map (fun e => if e.1 = k then (e.1, v) else e) else es ++ [(k, v)]
section
variable {W : Wd} {F : Frz}
theorem VRp.get {es : List (Str × V)} {kvs : List (Str × Value)} (r : VRp W F es kvs) (k : Str) :
    (∀ x, getA es k = some x → ∃ v, valueAt kvs k = some v ∧ VR W F x v) ∧ (getA es k = none → valueAt kvs k = none) := by
  induction es generalizing kvs with
  | nil => cases r.view; exact ⟨fun x h => (nomatch h), fun _ => rfl⟩
  | cons e es ih =>
    cases r with
    | @cons k' x v xs vs r1 r2 =>
      unfold getA valueAt
      rw [List.find?_cons, List.find?_cons]
      by_cases h : k' = k
      · simp only [h, decide_true]
        exact ⟨fun y e => by cases e; exact ⟨v, rfl, r1⟩, fun e => (nomatch e)⟩
      · simp only [h, decide_false]
        exact ih r2
theorem VRp.keys {es : List (Str × V)} {kvs : List (Str × Value)} (r : VRp W F es kvs) : kvs.map (·.1) = es.map (·.1) := by
  induction es generalizing kvs with
  | nil => cases r.view; rfl
  | cons e es ih => cases r.view with | cons r1 r2 => simp [ih r2]
theorem VRp.length {es : List (Str × V)} {kvs : List (Str × Value)} (r : VRp W F es kvs) : kvs.length = es.length := by
  have := congrArg List.length r.keys; simpa using this
theorem VRp.append {es es' : List (Str × V)} {kvs kvs' : List (Str × Value)} (r : VRp W F es kvs) (r' : VRp W F es' kvs') : VRp W F (es ++ es') (kvs ++ kvs') := by
  induction es generalizing kvs with
  | nil => cases r.view; exact r'
  | cons e es ih => cases r.view with | cons r1 r2 => exact .cons r1 (ih r2)
theorem VRp.any {es : List (Str × V)} {kvs : List (Str × Value)} (r : VRp W F es kvs) (k : Str) : kvs.any (fun e => decide (e.1 = k)) = es.any (fun e => decide (e.1 = k)) := by
  induction es generalizing kvs with
  | nil => cases r.view; rfl
  | cons e es ih => cases r.view with | cons r1 r2 => simp [ih r2]
theorem VRp.map {es : List (Str × V)} {kvs : List (Str × Value)} (r : VRp W F es kvs) (k : Str) {x : V} {v : Value} (rx : VR W F x v) :
    VRp W F (es.map fun e => if e.1 = k then (e.1, x) else e) (kvs.map fun e => if e.1 = k then (e.1, v) else e) := by
  induction es generalizing kvs with
  | nil => cases r.view; exact .nil
  | cons e es ih =>
    cases r with
    | @cons k' y u xs vs r1 r2 =>
      rw [List.map_cons, List.map_cons]
      by_cases h : k' = k
      · simp only [h, if_true]; exact .cons rx (ih r2)
      · simp only [h, if_false]; exact .cons r1 (ih r2)
theorem VRp.store {es : List (Str × V)} {kvs : List (Str × Value)} (r : VRp W F es kvs) (k : Str) {x : V} {v : Value} (rx : VR W F x v) : VRp W F (stA es k x) (stored kvs k v) := by
  unfold stA stored
  rw [r.any k]
  split
  · exact r.map k rx
  · exact r.append (.cons rx .nil)
theorem VRp.rev {es : List (Str × V)} {kvs : List (Str × Value)} (r : VRp W F es kvs) : VRp W F es.reverse kvs.reverse := by
  induction es generalizing kvs with
  | nil => cases r.view; exact .nil
  | cons e es ih => cases r.view with | cons r1 r2 => rw [List.reverse_cons, List.reverse_cons]; exact (ih r2).append (.cons r1 .nil)
theorem VRp.loc {es : List (Str × V)} {kvs : List (Str × Value)} (r : VRp W F es kvs) : LocRel W F es (fun x => kvs.lookup x) := by
  induction es generalizing kvs with
  | nil => intro x v e; cases e
  | cons e es ih =>
    cases r with
    | @cons k y u xs vs r1 r2 =>
      intro x v e
      rw [List.lookup_cons] at e
      show ∃ v', List.lookup x ((k, u) :: vs) = some v' ∧ _
      rw [List.lookup_cons]
      split at e
      · cases e; exact ⟨u, rfl, r1⟩
      · exact ih r2 x v e
theorem VRs.length {xs : List V} {vs : List Value} (r : VRs W F xs vs) : vs.length = xs.length := by
  induction xs generalizing vs with
  | nil => cases r.view; rfl
  | cons x xs ih => cases r.view with | cons r1 r2 => simp [ih r2]
end
section
variable {W : Wd} {A : Around} {env : Env} {outer : Outs} {loc : Loc} {mem R : Mem} {E : Ex W} {F : Frz} {s : Shared}
theorem Pairs.refKey {es : List DictEntry} {kvs : List (Str × Value)} (h : Pairs (strKind W.prog W.w) es kvs) : es.any (·.refKey) = false := by
  induction h with
  | nil => rfl
  | cons hk _ _ ih =>
    obtain ⟨t, e⟩ := Value.isStrOf_shape hk
    rw [List.any_cons, ih, Bool.or_false]
    unfold DictEntry.refKey
    rw [e]
theorem lookIn_of {o : Obj} {kvs : List (Str × Value)} (h : o.IsDictOf (strKind W.prog W.w) kvs) (k : Str) : lookIn k o = some (valueAt kvs k) := by
  obtain ⟨es, ep, hx, hd, hk, hp, hn⟩ := h
  unfold lookIn
  rw [hd]
  dsimp only
  have e := hp.find k
  have e2 : (es.toList.find? fun e => e.key.isStr k) = es.toList.find? fun e => (strKind W.prog W.w).is k e.key := by
    congr 1; funext e; exact isStr_of k e.key
  rw [e2]
  rw [← e]
  cases q : es.toList.find? fun e => (strKind W.prog W.w).is k e.key with
  | some e' => rfl
  | none => rw [Pairs.refKey hp]; rfl
theorem putL_eq_of_find {k : Str} {hsh : Int} {key v : Value} : ∀ {es : List DictEntry} {i : Nat}, es.findIdx? (fun x => x.key.isStr k) = some i → putL k hsh key v es = es.modify i fun e => { e with val := v } := by
  intro es i h
  rw [← putL_find k hsh key v es, h]
theorem putL_eq_of_none {k : Str} {hsh : Int} {key v : Value} {es : List DictEntry} (h : es.findIdx? (fun x => x.key.isStr k) = none) : putL k hsh key v es = es ++ [⟨hsh, key, v⟩] := by
  rw [← putL_find k hsh key v es, h]
theorem dictOf_put {ds : List DictEntry} {n m : Nat} {kvs : List (Str × Value)} {k : Str} {t : Tok} {v : Value} (h : (dictOf ds n).IsDictOf (strKind W.prog W.w) kvs) :
    (dictOf (putL k (PyData.keyHash W.w.params k) (.str k t) v ds) m).IsDictOf (strKind W.prog W.w) (stored kvs k v) := by
  obtain ⟨es, ep, hx, hd, hk, hp, hn⟩ := h
  have he : es = ds.toArray := by cases hd; rfl
  subst he
  have e2 : ∀ (l : List DictEntry), (l.findIdx? fun e => e.key.isStr k) = l.findIdx? fun e => (strKind W.prog W.w).is k e.key := fun l => by
    congr 1; funext e; exact isStr_of k e.key
  refine ⟨(putL k (PyData.keyHash W.w.params k) (.str k t) v ds).toArray, m, ⟨rfl, rfl, rfl⟩, rfl, ?_, ?_, ?_⟩
  · intro e he
    have he' : e ∈ putL k (PyData.keyHash W.w.params k) (.str k t) v ds := by simpa using he
    cases q : ds.findIdx? (fun x => x.key.isStr k) with
    | some i =>
      rw [putL_eq_of_find q] at he'
      have := hk.modify i v
      exact this e (by rw [List.modify_toArray]; simpa using he')
    | none =>
      rw [putL_eq_of_none q] at he'
      rcases List.mem_append.mp he' with h | h
      · exact hk e (by simpa using h)
      · rw [List.mem_singleton] at h; subst h; exact ⟨k, strKind_is _ _ k t, rfl⟩
  · show Pairs _ (putL k (PyData.keyHash W.w.params k) (.str k t) v ds) _
    have hp' : Pairs (strKind W.prog W.w) ds kvs := hp
    cases q : ds.findIdx? (fun x => x.key.isStr k) with
    | some i =>
      rw [putL_eq_of_find q]
      have q' := q
      rw [e2] at q
      have q2 := q
      rw [hp'.findIdx k] at q2
      unfold stored
      rw [if_pos (any_of_findIdx_some q2)]
      exact hp'.modify hn q v
    | none =>
      rw [putL_eq_of_none q]
      rw [e2, hp'.findIdx k] at q
      unfold stored
      rw [if_neg]
      · exact hp'.append (strKind_is _ _ k t) _ v
      · intro hh
        have := not_mem_of_findIdx_none q
        obtain ⟨x, hx1, hx2⟩ := List.any_eq_true.mp hh
        exact this (List.mem_map.mpr ⟨x, hx1, of_decide_eq_true hx2⟩)
  · unfold stored
    split
    · rw [keys_map_store]; exact hn
    · rename_i hh
      rw [List.map_append, List.nodup_append]
      refine ⟨hn, by simp, ?_⟩
      intro a ha b hb e
      subst e
      simp only [List.map_cons, List.map_nil, List.mem_singleton] at hb
      subst hb
      obtain ⟨x, hx1, hx2⟩ := List.mem_map.mp ha
      exact hh (List.any_eq_true.mpr ⟨x, hx1, by simpa using hx2⟩)
inductive Inst (W : Wd) (mem : Mem) : V → Addr → List (Str × V) → Prop
  | own {x C d : Addr} {es : List (Str × V)} {ep : Nat} : mem x = some (.inst C d) → mem d = some (.dict es ep) → Inst W mem (.ref x) C es
  | frz {C : Addr} {es : List (Str × V)} : Inst W mem (.ins C es) C es
theorem Inst.at {v : V} {C : Addr} {es : List (Str × V)} {v' : Value} (I : Inst W mem v C es) (S : Sim W env outer loc mem R F s) (r : VR W F v v') :
    ∃ x d od kvs, v' = .ref x ∧ InstAt s.heap x (instObj C d) C (some od) ∧ od.IsDictOf (strKind W.prog W.w) kvs ∧ VRp W F es kvs := by
  cases I with
  | own h1 h2 =>
    cases r.view
    obtain ⟨o, ho, r1⟩ := S.memOk _ _ h1
    obtain ⟨o2, ho2, r2⟩ := S.memOk _ _ h2
    cases r1.view
    cases r2.view with
    | dict k q => exact ⟨_, _, _, _, rfl, ⟨ho, rfl, rfl, ho2⟩, k, q⟩
  | frz =>
    cases r.view with
    | ins f g k q => exact ⟨_, _, _, _, rfl, ⟨S.frz _ _ f, rfl, rfl, S.frz _ _ g⟩, k, q⟩
noncomputable def okV : V → Bool
  | .glob u => handedIn u
  | _ => true
theorem VR.handed {v : V} {v' : Value} (r : VR W F v v') (h : okV v = true) : handedIn v' = true := by
  cases r <;> first | rfl | exact h
theorem get_field {v : V} {C : Addr} {es : List (Str × V)} {name : Str} {expr : Bool} {x : V} {attr : Option Value} {Q : V → Loc → Mem → Prop} (I : Inst W mem v C es) (hg : plainGet W.K C name = true) (hh : hasDictIn W.K C = true)
    (ha : findIn W.K (.ref C) name = some attr) (hn : noGet W.K attr = true) (hl : getA es name = some x) (hv : okV x = true) (h : Q x loc mem) :
    Op W A env outer (VR W) (fun | [y] => getAttr y name expr | _ => pure .none) [v] loc mem Q E := fun R F s vs S r => by
  cases r.view with
  | cons r1 r2 =>
    cases r2.view
    obtain ⟨xa, d, od, kvs, rfl, J, hd, rp⟩ := I.at S r1
    obtain ⟨u, hu, ru⟩ := (rp.get name).1 x hl
    exact get_value S.kin J (plainGet_of hg).1 (findObj_own hh ha hn (by rw [lookIn_of hd, hu])) (ru.handed hv) (Post.mk ru S.tick h)
theorem e_attr {value : PySem.Expr} {attr : Str} {pos : Pos} {Q : V → Loc → Mem → Prop}
    (he : eval (.Attribute value attr pos) env = (do
      let o ← eval value env
      standAt pos.atName
      let r ← holding [o] (getAttr o attr true)
      letTemporaryGo value o r
      pure r))
    (h : TrV W A env outer (eval value env) loc mem (fun o l m => Op W A env outer (VR W) (fun | [y] => getAttr y attr true | _ => pure .none) [o] l m Q E) E) :
    TrV W A env outer (eval (.Attribute value attr pos) env) loc mem Q E := fun R F s S =>
  Attribute_any_ (he := he) (after (RW := VR W) (Q := fun _ _ _ => True) (h R F s S) fun v' s' F1 v l1 m1 i1 r1 S1 h1 => wpAny_mono (h1 R F1 s' [v'] S1 (.cons r1 .nil)) (fun _ _ p => p.weaken i1) fun _ _ e => E.up i1 e)
theorem set_field {x C d : Addr} {es : List (Str × V)} {ep : Nat} {name : Str} {v : V} {Q : Loc → Mem → Prop} (h1 : mem x = some (.inst C d)) (h2 : mem d = some (.dict es ep))
    (hs : findIn W.K (.ref C) "__setattr__" = some (some (.builtin "object.__setattr__"))) (hp : plainOver W.K C = true) (ht : takerIn W.K C name = some none) (hh : hasDictIn W.K C = true) (hz : es.length ≤ 900)
    (h : ∀ ep', Q loc (mset mem d (.dict (stA es name v) ep'))) :
    Op W A env outer (fun _ (_ _ : Unit) => True) (fun | [y, z] => setAttr y name z | _ => pure ()) [.ref x, v] loc mem (fun _ => Q) E := fun R F s vs S r => by
  cases r.view with
  | cons r1 r2 =>
    cases r1.view
    cases r2.view with
    | @cons v' _ ru r3 =>
      cases r3.view
      obtain ⟨o, ho, q1⟩ := S.memOk _ _ h1
      obtain ⟨o2, ho2, q2⟩ := S.memOk _ _ h2
      cases q1.view
      cases q2.view with
      | @dict ds kvs k q =>
        obtain ⟨m, hn, l⟩ := S.ns
        have hl : (getL name ds).isSome = true := by
          have := lookIn_of k name
          rw [lookIn_dict] at this
          rw [this]; rfl
        have hlen : (putL name (PyData.keyHash W.w.params name) (.str name (s.toks + 1)) v' ds).length ≤ 1000 := by
          have hp' : Pairs (strKind W.prog W.w) (putL name (PyData.keyHash W.w.params name) (.str name (s.toks + 1)) v' ds) (stored kvs name v') := by
            obtain ⟨es', ep', _, hd', _, hp', _⟩ := dictOf_put (m := 0) (t := s.toks + 1) (k := name) (v := v') k
            cases hd'; exact hp'
          have z1 := hp'.length
          have z2 := stored_length_le kvs name v'
          have z3 := q.length
          omega
        refine set_dict (S.fr hn) W.KIn (S.newsAll h2 ho2) ⟨ho, rfl, rfl, ho2⟩ rfl hs hp ht hh hl rfl (.head (fun p hp => ledger_ne hp)) hlen fun h' F' N' => ?_
        exact Post.mk (x := ()) trivial (S.updN (t := s.toks + 2) (d := s.drawn) h2 l F' N' (.dict (dictOf_put k) (q.store name ru))) (h _)
end
end Mine
end
section
namespace Mine
section
variable {W : Wd} {A : Around} {env : Env} {outer : Outs} {loc : Loc} {mem R : Mem} {E : Ex W} {F : Frz} {s : Shared}
noncomputable def LeaveE (W : Wd) (A : Around) (env' : Env) (E : Ex W) : Ex W where
  p R F e s' := wpAny (model W.prog W.w) (A.deeper env') (leaving env' e) (fun _ s'' => E.p R F e s'') (fun e' s'' => E.p R F e' s'') s'
  mono l i h := wpAny_mono h (fun _ _ z => E.mono l i z) fun _ _ z => E.mono l i z
noncomputable def retOf : Fl → V
  | .ret v => v
  | _ => .none
noncomputable def Body (W : Wd) (A : Around) (env : Env) (outer : Outs) (qual : Str) (scope : Scope) (body : List Stmt) (cdv : Value) (cl : List (Str × Addr)) (f : Addr) (bs : Loc) (mem : Mem) (Q : V → Mem → Prop) (E : Ex W) : Prop :=
  ∀ (L : Addr) (m0 : Str → Option Value), TrS W (A.deeper (envX qual scope L f cdv cl)) (envX qual scope L f cdv cl) ((env.locals, m0) :: outer) (execs body (envX qual scope L f cdv cl)) bs mem (fun fl _ m => ∃ m', (∀ a x, m' a = some x → m a = some x) ∧ Q (retOf fl) m') (LeaveE W A (envX qual scope L f cdv cl) E)
theorem Sim0.enter {L : Addr} {env' : Env} {h₁ : Heap} {t : Nat} {m m' : Str → Option Value} {loc' : Loc} (S : Sim0 W env outer loc mem F s) (hn : s.heap.Ns env.locals m) (hL : L = s.heap.objs.size) (hl' : env'.locals = L)
    (hn' : h₁.Ns L m') (hk : ∀ b o, s.heap.get? b = some o → h₁.get? b = some o) (l' : LocRel W F loc' m') : Sim0 W env' ((env.locals, m) :: outer) loc' mem F { s with heap := h₁, toks := t } := by
  have ge : s.heap.get? L = none := by rw [hL]; exact get?_size _
  obtain ⟨f1, f2, f3, f4⟩ := S.free_of_none ge
  exact {
    frz := fun a o h => hk a o (S.frz a o h)
    base := S.base
    memF := S.memF
    memOk := fun a x h => let ⟨o, e, r⟩ := S.memOk a x h; ⟨o, hk _ _ e, r⟩
    ns := ⟨m', by rw [hl']; exact hn', l'⟩
    nsF := ⟨fun o => by rw [hl']; exact f2 o, by rw [hl']; exact f1⟩
    outs := fun q hq => by
      rw [hl']
      rcases List.mem_cons.mp hq with rfl | hq
      · exact ⟨hn.keeps hk, S.nsF.1, S.nsF.2, Ne.symm f3⟩
      · obtain ⟨z, b, c, e⟩ := S.outs q hq; exact ⟨z.keeps hk, b, c, f4 q hq⟩
    low := by rw [hl', hL]; exact Nat.le_trans S.low (Nat.le_of_lt hn.lt)
    memLow := S.memLow
    gens := S.gens
    os := S.os }
theorem Sim0.leave {env' : Env} {m : Str → Option Value} {loc' : Loc} {mem' : Mem} {F' : Frz} {s' : Shared} (S : Sim0 W env outer loc mem F s) (l : LocRel W F loc m) (i : Incl F F')
    (S' : Sim0 W env' ((env.locals, m) :: outer) loc' mem' F' s') : Sim0 W env outer loc mem' F' s' where
  frz := S'.frz
  base := S'.base
  memF := S'.memF
  memOk := S'.memOk
  ns := ⟨m, (S'.outs _ (.head _)).1, l.mono i⟩
  nsF := ⟨(S'.outs _ (.head _)).2.1, (S'.outs _ (.head _)).2.2.1⟩
  outs q hq := let ⟨z, b, c, _⟩ := S'.outs q (.tail _ hq); ⟨z, b, c, (S.outs q hq).2.2.2⟩
  low := S.low
  memLow := S'.memLow
  gens := S'.gens
  os := S'.os
theorem code_fn {name qual : Str} {params : Arguments} {body : List Stmt} {scope : Scope} {cl : List (Str × Addr)} {dV kV doc pm cdv ct : Value} {an : Option Addr} {fo : Obj} {f : Addr} {args : Args} {bs : List (Str × V)} {bv : List (Str × Value)} {Q : V → Mem → Prop} {Rz : Result → Shared → Prop}
    (S : Sim W env outer loc mem R F s) (ho : s.heap.get? f = some fo) (hd : fo.data = .func (fnX name qual params body scope cl dV kV doc pm an cdv ct)) (hcd : s.heap.CodeRec cdv qual) (hroom : A.depth < recursionLimit)
    (hbind : BindsTo s (fnX name qual params body scope cl dV kV doc pm an cdv ct) args bv) (rb : VRp W F bs bv) (hloc : ∀ y ∈ bs, scope.names.lookup y.1 = some .local)
    (hcell : ∀ x ∈ scope.names, x.2 ≠ .cell) (hco : scope.isCoroutine = false) (hgen : scope.isGenerator = false) (hk : scope.kind = .function)
    (E' : Ex W) (hE : ∀ e s', E'.p R F e s' → Rz (.error e) s')
    (hR : ∀ F' v v' m' s', Incl F F' → VR W F' v v' → Sim W env outer loc m' R F' s' → Q v m' → Rz (.ok (.ret v')) s')
    (h : Body W A env outer qual scope body cdv cl f bs.reverse mem Q E') : codeAny (model W.prog W.w) A (.call (.ref f) args) Rz s := by
  obtain ⟨m, hn, l⟩ := S.ns
  have hloc' : ∀ y ∈ bv, scope.names.lookup y.1 = some .local := fun y hy => by
    have : y.1 ∈ bs.map (·.1) := rb.keys ▸ List.mem_map_of_mem hy
    obtain ⟨z, hz, e⟩ := List.mem_map.mp this
    exact e ▸ hloc z hz
  refine codeAny_call_def (fd := fnX name qual params body scope cl dV kV doc pm an cdv ct) (body := body) (binds := bv) hroom ho hd (W.nolim.keeps S.hbase) hcd rfl hbind hcell hloc' (fun h₁ hns hk₁ => ?_) hco hgen hk
  have S' : Sim W (envX qual scope s.heap.objs.size f cdv cl) ((env.locals, m) :: outer) bs.reverse mem R F { s with heap := h₁, toks := s.toks + bv.length } :=
    ⟨S.dis, S.z.enter hn rfl rfl hns hk₁ rb.rev.loc⟩
  refine wpAny_mono (h s.heap.objs.size m R F _ S') (fun fl s' hp => ?_) fun e s' he => wpAny_mono he (fun _ _ q => hE _ _ q) fun _ _ q => hE _ _ q
  obtain ⟨F', fl', l', m2, i, r, S2, m', hm', q⟩ := hp
  have S2 := S2.drop hm'
  have S3 : Sim W env outer loc m' R F' s' := ⟨S2.dis, S.z.leave l i S2.z⟩
  cases r with
  | next => exact hR F' .none .none m' s' i .none S3 q
  | brk => exact hR F' .none .none m' s' i .none S3 q
  | cont => exact hR F' .none .none m' s' i .none S3 q
  | ret r => exact hR F' _ _ m' s' i r S3 q
noncomputable def Binds (W : Wd) (fd : FuncData) (kw : List (Str × Value)) (xs : List V) (bs : List (Str × V)) : Prop :=
  ∀ (F : Frz) (s : Shared) (vs : List Value), (∀ a o, W.hb.get? a = some o → F a o) → W.K.In s.heap → VRs W F xs vs → ∃ bv, BindsTo s fd ⟨vs, kw⟩ bv ∧ VRp W F bs bv
theorem call_fn {name qual : Str} {params : Arguments} {body : List Stmt} {scope : Scope} {dV kV doc pm cdv ct oc : Value} {an od : Option Addr} {osl : Array (Option Value)} {f : Addr} {xs : List V} {bs : List (Str × V)} {Q : V → Loc → Mem → Prop}
    (ho : W.K.lookup f = some ⟨oc, od, .func (fnOf name qual params body scope dV kV doc pm an cdv ct), osl⟩) (hcd : codeIn W.K cdv qual = true) (hroom : A.depth < recursionLimit)
    (hbind : Binds W (fnOf name qual params body scope dV kV doc pm an cdv ct) [] xs bs) (hloc : ∀ y ∈ bs, scope.names.lookup y.1 = some .local)
    (hcell : ∀ x ∈ scope.names, x.2 ≠ .cell) (hco : scope.isCoroutine = false) (hgen : scope.isGenerator = false) (hk : scope.kind = .function)
    (h : Body W A env outer qual scope body cdv [] f bs.reverse mem (fun v m => Q v loc m) E) : Op W A env outer (VR W) (fun vs => call (.ref f) vs) xs loc mem Q E := fun R F s vs S r => by
  obtain ⟨bv, hb, rb⟩ := hbind F s vs S.base S.kin r
  exact wpAny_call (code_fn S (S.kin _ _ ho) rfl (codeRec_of S.kin hcd) hroom hb rb hloc hcell hco hgen hk E (fun _ _ e => e) (fun F' v v' m' s' i r S' q => ⟨F', v, loc, m', i, r, S', q⟩) h)
theorem c_name {func : PySem.Expr} {args : List PySem.Expr} {pos : Pos} {Q : V → Loc → Mem → Prop}
    (he : eval (.Call func args [] pos) env = (do callWith pos (← eval func env) [] (backTo pos (starEach args env)) (backToKw pos (keywordEach [] env))))
    (h : TrV W A env outer (eval func env) loc mem (fun g l m => Op W A env outer (VR W) (fun | [f] => callWith pos f [] (backTo pos (starEach args env)) [] | _ => pure .none) [g] l m Q E) E) :
    TrV W A env outer (eval (.Call func args [] pos) env) loc mem Q E := fun R F s S => by
  rw [he]
  exact wpAny_bind (after (RW := VR W) (Q := fun _ _ _ => True) (h R F s S) fun v' s' F1 v l1 m1 i1 r1 S1 h1 => wpAny_mono (h1 R F1 s' [v'] S1 (.cons r1 .nil)) (fun _ _ p => p.weaken i1) fun _ _ e => E.up i1 e)
theorem c_top {a : Addr} {e : PySem.Expr} {rest : List PySem.Expr} {pos : Pos} {Q : V → Loc → Mem → Prop} (hk : keepIn W.K (.ref a) = true) (he : starEach (e :: rest) env = (false, eval e env) :: starEach rest env) (hplain : (backTo pos (starEach rest env)).any (·.1) = false)
    (h : TrL W A env outer (spliced (backTo pos (starEach (e :: rest) env))) loc mem (fun xs l m => Op W A env outer (VR W) (fun vs => call (.ref a) vs) xs l m Q E) E) :
    Op W A env outer (VR W) (fun | [f] => callWith pos f [] (backTo pos (starEach (e :: rest) env)) [] | _ => pure .none) [.glob (.ref a)] loc mem Q E := fun R F s vs S r => by
  cases r.view with
  | cons r1 r2 =>
    cases r2.view; cases r1.view
    refine callWith_K (h₀ := s.heap) S.kin hk (after (RW := VR W) (Q := fun _ _ _ => True) (h R F s S) fun vs s' F1 xs l1 m1 i1 r1 S1 h1 => ⟨S1.kin, ?_⟩) he hplain
    exact wpAny_mono (h1 R F1 s' vs S1 r1) (fun _ _ p => p.weaken i1) fun _ _ e => E.up i1 e
theorem c_top0 {a : Addr} {pos : Pos} {Q : V → Loc → Mem → Prop} (hk : keepIn W.K (.ref a) = true)
    (h : Op W A env outer (VR W) (fun vs => call (.ref a) vs) [] loc mem Q E) :
    Op W A env outer (VR W) (fun | [f] => callWith pos f [] (backTo pos (starEach [] env)) [] | _ => pure .none) [.glob (.ref a)] loc mem Q E := fun R F s vs S r => by
  cases r.view with
  | cons r1 r2 =>
    cases r2.view; cases r1.view
    exact callWith_K0 S.kin hk (h R F s [] S .nil)
theorem c_builtin {id : String} {e : PySem.Expr} {rest : List PySem.Expr} {pos : Pos} {Q : V → Loc → Mem → Prop} (he : starEach (e :: rest) env = (false, eval e env) :: starEach rest env) (hplain : (backTo pos (starEach rest env)).any (·.1) = false)
    (h : TrL W A env outer (spliced (backTo pos (starEach (e :: rest) env))) loc mem (fun xs l m => Op W A env outer (VR W) (fun vs => call (.builtin id) vs) xs l m Q E) E) :
    Op W A env outer (VR W) (fun | [f] => callWith pos f [] (backTo pos (starEach (e :: rest) env)) [] | _ => pure .none) [.glob (.builtin id)] loc mem Q E := fun R F s vs S r => by
  cases r.view with
  | cons r1 r2 =>
    cases r2.view; cases r1.view
    refine PyProof.Rows.callWith_builtin1 (after (RW := VR W) (Q := fun _ _ _ => True) (h R F s S) fun vs s' F1 xs l1 m1 i1 r1 S1 h1 => ?_) he hplain
    exact wpAny_mono (h1 R F1 s' vs S1 r1) (fun _ _ p => p.weaken i1) fun _ _ e => E.up i1 e
theorem c_type {T : String} {e : PySem.Expr} {rest : List PySem.Expr} {pos : Pos} {Q : V → Loc → Mem → Prop} (he : starEach (e :: rest) env = (false, eval e env) :: starEach rest env) (hplain : (backTo pos (starEach rest env)).any (·.1) = false)
    (h : TrL W A env outer (spliced (backTo pos (starEach (e :: rest) env))) loc mem (fun xs l m => Op W A env outer (VR W) (fun vs => call (.type T) vs) xs l m Q E) E) :
    Op W A env outer (VR W) (fun | [f] => callWith pos f [] (backTo pos (starEach (e :: rest) env)) [] | _ => pure .none) [.glob (.type T)] loc mem Q E := fun R F s vs S r => by
  cases r.view with
  | cons r1 r2 =>
    cases r2.view; cases r1.view
    refine PyProof.Rows.callWith_type1 (after (RW := VR W) (Q := fun _ _ _ => True) (h R F s S) fun vs s' F1 xs l1 m1 i1 r1 S1 h1 => ?_) he hplain
    exact wpAny_mono (h1 R F1 s' vs S1 r1) (fun _ _ p => p.weaken i1) fun _ _ e => E.up i1 e
theorem c_type0 {T : String} {pos : Pos} {Q : V → Loc → Mem → Prop}
    (h : Op W A env outer (VR W) (fun vs => call (.type T) vs) [] loc mem Q E) :
    Op W A env outer (VR W) (fun | [f] => callWith pos f [] (backTo pos (starEach [] env)) [] | _ => pure .none) [.glob (.type T)] loc mem Q E := fun R F s vs S r => by
  cases r.view with
  | cons r1 r2 =>
    cases r2.view; cases r1.view
    exact PyProof.Rows.callWith_type0 (h R F s [] S .nil)
noncomputable def Meth (W : Wd) (A : Around) (env : Env) (outer : Outs) (name : Str) (pl : Sem Bool) (pos : Pos) (args : List PySem.Expr) (v : V) (loc : Loc) (mem : Mem) (Q : V → Loc → Mem → Prop) (E : Ex W) : Prop :=
  ∀ R F s v', Sim W env outer loc mem R F s → VR W F v v' → wpAny (model W.prog W.w) A (getMethod v' name pl) (fun fx s₂ => wpAny (model W.prog W.w) A (callWith pos fx.1 fx.2 (backTo pos (starEach args env)) []) (Post W env outer (VR W) R F Q) (E.p R F) s₂) (E.p R F) s
theorem c_meth {o : PySem.Expr} {name : Str} {apos pos : Pos} {args : List PySem.Expr} {pl : Sem Bool} {Q : V → Loc → Mem → Prop}
    (he : eval (.Call (.Attribute o name apos) args [] pos) env = (do
      let ov ← eval o env
      standAt apos.atName
      let (f, first) ← holding [ov] (getMethod ov name pl)
      callWith pos f first (backTo pos (starEach args env)) (backToKw pos (keywordEach [] env))))
    (h : TrV W A env outer (eval o env) loc mem (fun v l m => Meth W A env outer name pl pos args v l m Q E) E) :
    TrV W A env outer (eval (.Call (.Attribute o name apos) args [] pos) env) loc mem Q E := fun R F s S =>
  methodCall_KW (kws := []) (pl := pl) (after (RW := VR W) (Q := fun _ _ _ => True) (h R F s S) fun v' s' F1 v l1 m1 i1 r1 S1 h1 =>
    wpAny_mono (h1 R F1 s' v' S1 r1) (fun fx s2 h2 => wpAny_mono h2 (fun _ _ p => p.weaken i1) fun _ _ e => E.up i1 e) fun _ _ e => E.up i1 e) he
theorem m_own {v : V} {C f : Addr} {es : List (Str × V)} {name : Str} {pl : Sem Bool} {pos : Pos} {e : PySem.Expr} {rest : List PySem.Expr} {Q : V → Loc → Mem → Prop} (I : Inst W mem v C es) (hg : plainGet W.K C name = true)
    (hf : findIn W.K (.ref C) name = some (some (.ref f))) (ht : isFn W.K (.ref f) = true) (hl : getA es name = none) (hk : keepIn W.K (.ref f) = true) (he : starEach (e :: rest) env = (false, eval e env) :: starEach rest env) (hplain : (backTo pos (starEach rest env)).any (·.1) = false)
    (h : TrL W A env outer (spliced (backTo pos (starEach (e :: rest) env))) loc mem (fun xs l m => Op W A env outer (VR W) (fun vs => call (.ref f) vs) (v :: xs) l m Q E) E) :
    Meth W A env outer name pl pos (e :: rest) v loc mem Q E := fun R F s v' S r => by
  obtain ⟨xa, d, od, kvs, rfl, J, hd, rp⟩ := I.at S r
  refine method_fn S.kin J (plainGet_of hg).1 (plainGet_of hg).2 hf (beq_iff_eq.mp ht) (by show (lookIn name od).map _ = _; rw [lookIn_of hd, (rp.get name).2 hl]; rfl) ?_
  refine callWith_K (h₀ := s.heap) S.kin hk (after (RW := VR W) (Q := fun _ _ _ => True) (h R F s S) fun vs s' F1 xs l1 m1 i1 r1 S1 h1 => ⟨S1.kin, ?_⟩) he hplain
  exact wpAny_mono (h1 R F1 s' (.ref xa :: vs) S1 (.cons (r.mono i1) r1)) (fun _ _ p => p.weaken i1) fun _ _ e => E.up i1 e
theorem m_own0 {v : V} {C f : Addr} {es : List (Str × V)} {name : Str} {pl : Sem Bool} {pos : Pos} {Q : V → Loc → Mem → Prop} (I : Inst W mem v C es) (hg : plainGet W.K C name = true)
    (hf : findIn W.K (.ref C) name = some (some (.ref f))) (ht : isFn W.K (.ref f) = true) (hl : getA es name = none) (hk : keepIn W.K (.ref f) = true)
    (h : Op W A env outer (VR W) (fun vs => call (.ref f) vs) [v] loc mem Q E) :
    Meth W A env outer name pl pos [] v loc mem Q E := fun R F s v' S r => by
  obtain ⟨xa, d, od, kvs, rfl, J, hd, rp⟩ := I.at S r
  refine method_fn S.kin J (plainGet_of hg).1 (plainGet_of hg).2 hf (beq_iff_eq.mp ht) (by show (lookIn name od).map _ = _; rw [lookIn_of hd, (rp.get name).2 hl]; rfl) ?_
  exact callWith_K0 S.kin hk (h R F s [.ref xa] S (.cons r .nil))
inductive Ty (mem : Mem) : V → String → Prop
  | str (x : Str) : Ty mem (.str x) "str"
  | lst (xs : List V) : Ty mem (.lst xs) "list"
  | tup (xs : List V) : Ty mem (.tup xs) "tuple"
  | list {a : Addr} {xs : List V} : mem a = some (.list xs) → Ty mem (.ref a) "list"
  | dict {a : Addr} {es : List (Str × V)} {ep : Nat} : mem a = some (.dict es ep) → Ty mem (.ref a) "dict"
theorem Ty.at {v : V} {T : String} {v' : Value} (t : Ty mem v T) (S : Sim W env outer loc mem R F s) (r : VR W F v v') : s.TypeIs v' T ∧ ∀ a, v' = .ref a → ∃ o, s.heap.get? a = some o ∧ o.dict = none := by
  cases t with
  | str x => cases r.view; exact ⟨by exact typeIs_str s _ _, fun a e => by cases e⟩
  | lst xs => cases r.view with | lst f q => exact ⟨⟨_, S.frz _ _ f, rfl⟩, fun a e => by cases e; exact ⟨_, S.frz _ _ f, rfl⟩⟩
  | tup xs => cases r.view with | tup f q => exact ⟨⟨_, S.frz _ _ f, rfl⟩, fun a e => by cases e; exact ⟨_, S.frz _ _ f, rfl⟩⟩
  | list h =>
    cases r.view
    obtain ⟨o, ho, q⟩ := S.memOk _ _ h
    cases q.view
    exact ⟨⟨_, ho, rfl⟩, fun a e => by cases e; exact ⟨_, ho, rfl⟩⟩
  | dict h =>
    cases r.view
    obtain ⟨o, ho, q⟩ := S.memOk _ _ h
    cases q.view
    exact ⟨⟨_, ho, rfl⟩, fun a e => by cases e; exact ⟨_, ho, rfl⟩⟩
theorem m_builtin {v : V} {T : String} {name : Str} {id : String} {pl : Sem Bool} {pos : Pos} {e : PySem.Expr} {rest : List PySem.Expr} {Q : V → Loc → Mem → Prop} (t : Ty mem v T) (pa : PlainAttrs T) (slot : Slot T name id) (hty : typeOf (.builtin id) = pure (.type "method_descriptor"))
    (he : starEach (e :: rest) env = (false, eval e env) :: starEach rest env) (hplain : (backTo pos (starEach rest env)).any (·.1) = false)
    (h : TrL W A env outer (spliced (backTo pos (starEach (e :: rest) env))) loc mem (fun xs l m => Op W A env outer (VR W) (fun vs => call (.builtin id) vs) (v :: xs) l m Q E) E) :
    Meth W A env outer name pl pos (e :: rest) v loc mem Q E := fun R F s v' S r => by
  obtain ⟨hT, hd⟩ := t.at S r
  refine getMethod_builtin hT pa slot hty hd ?_
  rw [he]
  refine Calls.callWith_builtin (by show (false || (backTo pos (starEach rest env)).any (·.1)) = false; rw [hplain]; rfl) (Calls.evalArgs_plain ?_)
  have h' := h R F s S
  rw [he] at h'
  refine after (RW := VR W) (Q := fun _ _ _ => True) h' fun vs s' F1 xs l1 m1 i1 r1 S1 h1 => ?_
  exact wpAny_mono (h1 R F1 s' (v' :: vs) S1 (.cons (r.mono i1) r1)) (fun _ _ p => p.weaken i1) fun _ _ e => E.up i1 e
theorem tc_units (args : Args) : Code.cUnits (.builtin "type.__call__" args) ≤ 8 := by
  show 1 + 3 * (if (Code.builtin "type.__call__" args).isFrame = true then 1 else 0) ≤ 8
  split <;> decide
theorem mset_comm {m : Mem} {a b : Addr} (h : a ≠ b) (x y : AObj) : mset (mset m a x) b y = mset (mset m b y) a x := by
  funext c
  unfold mset
  by_cases h1 : c = b <;> by_cases h2 : c = a <;> simp_all
theorem call_cls {name qual : Str} {params : Arguments} {body : List Stmt} {scope : Scope} {dV kV doc pm cdv ct oc : Value} {an od : Option Addr} {osl : Array (Option Value)} {C f : Addr} {xs : List V} {bs : Addr → List (Str × V)} {Q : V → Loc → Mem → Prop}
    (hm : makesIn W.K C = true) (hi : findIn W.K (.ref C) "__init__" = some (some (.ref f))) (hf : isFn W.K (.ref f) = true)
    (ho : W.K.lookup f = some ⟨oc, od, .func (fnOf name qual params body scope dV kV doc pm an cdv ct), osl⟩) (hcd : codeIn W.K cdv qual = true) (hroom : A.depth + 1 < recursionLimit)
    (hbind : ∀ x : Addr, Binds W (fnOf name qual params body scope dV kV doc pm an cdv ct) [] (.ref x :: xs) (bs x)) (hloc : ∀ x : Addr, ∀ y ∈ bs x, scope.names.lookup y.1 = some .local)
    (hcell : ∀ x ∈ scope.names, x.2 ≠ .cell) (hco : scope.isCoroutine = false) (hgen : scope.isGenerator = false) (hk : scope.kind = .function)
    (h : ∀ (A' : Around) (x d : Addr), A'.depth = A.depth + 1 → A'.handled = A.handled → A'.guards = A.guards → A'.frames = A.frames → A'.units ≤ A.units + 8 → mem x = none → mem d = none → x ≠ d →
      Body W A' env outer qual scope body cdv [] f (bs x).reverse (mset (mset mem d (.dict [] 0)) x (.inst C d)) (fun v m => v = .none ∧ Q (.ref x) loc m) E) :
    Op W A env outer (VR W) (fun vs => call (.ref C) vs) xs loc mem Q E := fun R F s vs S r => by
  have X := S.kin
  obtain ⟨hp, g, d, t, os⟩ := s
  refine wpAny_call (make_core (rest := vs) (kw := []) (init := .ref f) (makes_of X hm) (looks_findIn X hi) (fun self => bind_fn X self (beq_iff_eq.mp hf)) (.inl (by simp)) ?_)
  have hd : hp.get? hp.objs.size = none := get?_size hp
  have e1 : (hp.push emptyDict).get? hp.objs.size = some emptyDict := Heap.get?_push_size _ rfl
  have hsz : (hp.push emptyDict).objs.size = hp.objs.size + 1 := Heap.size_push _ _
  have S1 := S.alloc (t := t) (d := d) (x := .dict [] 0) (a := hp.objs.size) (o' := emptyDict) hd S.size_le (fun b o e => Heap.get?_push_of_some _ e) e1 (by
    have : emptyDict = dictOf [] 0 := rfl
    rw [this]
    exact .dict (kvs := []) ⟨#[], 0, ⟨rfl, rfl, rfl⟩, rfl, fun e he => by simp at he, .nil, by simp⟩ .nil)
  have hx : (hp.push emptyDict).get? (hp.objs.size + 1) = none := get?_ge (by rw [hsz]; exact Nat.le_refl _)
  have S2 := S1.alloc (t := t) (d := d) (x := .inst C hp.objs.size) (a := hp.objs.size + 1) (h' := (hp.push emptyDict).push (instObj C hp.objs.size)) (o' := instObj C hp.objs.size) hx (Nat.le_trans S.size_le (Nat.le_succ _)) (fun b o e => Heap.get?_push_of_some _ e) (by rw [← hsz]; exact Heap.get?_push_size _ rfl) .inst
  obtain ⟨bv, hb, rb⟩ := hbind (hp.objs.size + 1) F _ (.ref (hp.objs.size + 1) :: vs) S.base S2.kin (.cons (.ref _) r)
  have hA : (A.under (.builtin "type.__call__" ⟨.ref C :: vs, []⟩)).depth = A.depth + 1 := rfl
  refine code_fn S2 (S2.kin _ _ ho) rfl (codeRec_of S2.kin hcd) (by rw [hA]; exact hroom) hb rb (hloc _) hcell hco hgen hk E (fun _ _ e => e) (Q := fun v m => v = .none ∧ Q (.ref (hp.objs.size + 1)) loc m) (fun F' v v' m' s' i rr S' q => ?_) ?_
  · obtain ⟨rfl, q⟩ := q
    cases rr.view
    exact ⟨rfl, F', .ref (hp.objs.size + 1), loc, m', i, .ref _, S', q⟩
  · have m1 : mem hp.objs.size = none := (S.free hd).1
    have m2 : mem (hp.objs.size + 1) = none := (S.free (get?_ge (Nat.le_succ _))).1
    exact h _ (hp.objs.size + 1) hp.objs.size hA rfl rfl (by show pushEnvs [] A.frames = A.frames; rfl) (by show A.units + Code.cUnits _ ≤ _; exact Nat.add_le_add_left (tc_units _) _) m2 m1 (Nat.succ_ne_self _)
end
end Mine
end
section
set_option autoImplicit false
namespace Mine
noncomputable def toPy : Nat → V → PyData
  | _, .bool b => .bool b
  | _, .int i => .int i
  | _, .str s => .str s
  | n + 1, .tup xs => .tuple (xs.map (toPy n))
  | n + 1, .lst xs => .list (xs.map (toPy n))
  | _, _ => .none
noncomputable def isD : Nat → V → Bool
  | _, .none => true
  | _, .int _ => true
  | _, .str s => PyData.strOk s
  | n + 1, .tup xs => xs.all (isD n)
  | n + 1, .lst xs => xs.all (isD n)
  | _, _ => false
section
variable {W : Wd} {F : Frz}
theorem reads_all {n : Nat} {h : Heap} (ih : ∀ x v, isD n x = true → VR W F x v → ∃ as, Reads h v (toPy n x) as) :
    ∀ {xs : List V} {vs : List Value}, xs.all (isD n) = true → VRs W F xs vs → ∃ as, ReadsAll h vs (xs.map (toPy n)) as
  | [], _, _, .nil => ⟨[], .nil⟩
  | x :: xs, _, hd, .cons r1 r2 => by
    rw [List.all_cons, Bool.and_eq_true] at hd
    obtain ⟨as, ra⟩ := ih x _ hd.1 r1
    obtain ⟨bs, rb⟩ := reads_all ih hd.2 r2
    exact ⟨as ++ bs, .cons ra rb⟩
theorem VR.reads {h : Heap} (hF : ∀ a o, F a o → h.get? a = some o) : ∀ {n : Nat} {x : V} {v : Value}, isD n x = true → VR W F x v → ∃ as, Reads h v (toPy n x) as := by
  intro n
  induction n with
  | zero =>
    intro x v hd r
    cases r <;> first | exact ⟨_, .none⟩ | exact ⟨_, .int _ _⟩ | exact ⟨_, .str _ _⟩ | (simp [isD] at hd)
  | succ n ih =>
    intro x v hd r
    cases r with
    | none => exact ⟨_, .none⟩
    | int => exact ⟨_, .int _ _⟩
    | str => exact ⟨_, .str _ _⟩
    | bool => simp [isD] at hd
    | ref => simp [isD] at hd
    | glob => cases hd
    | ins => simp [isD] at hd
    | tup f q =>
      obtain ⟨as, ra⟩ := reads_all (fun x v a b => ih a b) hd q
      exact ⟨_, .tuple (hF _ _ f) rfl rfl ra⟩
    | lst f q =>
      obtain ⟨as, ra⟩ := reads_all (fun x v a b => ih a b) hd q
      exact ⟨_, .list (hF _ _ f) rfl rfl ra⟩
end
theorem canLayAll0_iff (ds : List PyData) : PyData.canLayAll0 ds = ds.all PyData.canLay0 := by
  induction ds with
  | nil => rfl
  | cons d ds ih => rw [PyData.canLayAll0, List.all_cons, ih]
theorem isD_can : ∀ {n : Nat} {x : V}, isD n x = true → (toPy n x).canLay0 = true ∧ (toPy n x).depth ≤ n := by
  intro n
  have da : ∀ {m : Nat} {ds : List PyData}, (∀ d ∈ ds, d.depth ≤ m) → PyData.depthAll ds ≤ m := by
    intro m ds
    induction ds with
    | nil => intro _; exact Nat.zero_le _
    | cons d ds ih => intro h; rw [PyData.depthAll]; exact Nat.max_le.mpr ⟨h d (.head _), ih fun e he => h e (.tail _ he)⟩
  induction n with
  | zero =>
    intro x hd
    cases x <;> simp_all [isD, toPy, PyData.canLay0, PyData.depth]
  | succ n ih =>
    intro x hd
    cases x with
    | none => simp [toPy, PyData.canLay0, PyData.depth]
    | int => simp [toPy, PyData.canLay0, PyData.depth]
    | str s => exact ⟨by simpa [toPy, PyData.canLay0, isD] using hd, by simp [toPy, PyData.depth]⟩
    | bool => simp [isD] at hd
    | ref => simp [isD] at hd
    | glob => simp [isD] at hd
    | ins => simp [isD] at hd
    | tup xs =>
      have hd' : xs.all (isD n) = true := hd
      show (PyData.tuple (xs.map (toPy n))).canLay0 = true ∧ (PyData.tuple (xs.map (toPy n))).depth ≤ n + 1
      rw [PyData.canLay0, PyData.depth, canLayAll0_iff]
      refine ⟨?_, Nat.succ_le_succ (da ?_)⟩
      · rw [List.all_map, List.all_eq_true]; exact fun x hx => (ih (List.all_eq_true.mp hd' x hx)).1
      · intro d hd; obtain ⟨x, hx, rfl⟩ := List.mem_map.mp hd; exact (ih (List.all_eq_true.mp hd' x hx)).2
    | lst xs =>
      have hd' : xs.all (isD n) = true := hd
      show (PyData.list (xs.map (toPy n))).canLay0 = true ∧ (PyData.list (xs.map (toPy n))).depth ≤ n + 1
      rw [PyData.canLay0, PyData.depth, canLayAll0_iff]
      refine ⟨?_, Nat.succ_le_succ (da ?_)⟩
      · rw [List.all_map, List.all_eq_true]; exact fun x hx => (ih (List.all_eq_true.mp hd' x hx)).1
      · intro d hd; obtain ⟨x, hx, rfl⟩ := List.mem_map.mp hd; exact (ih (List.all_eq_true.mp hd' x hx)).2
theorem isD_shaped {n : Nat} {x : V} (h : isD n x = true) (hn : n ≤ 64) : SeqAt.shaped (toPy n x) = true := by
  obtain ⟨a, b⟩ := isD_can h
  unfold SeqAt.shaped
  rw [a, Bool.true_and]
  exact decide_eq_true (Nat.le_trans b hn)
theorem all_shaped {n : Nat} {xs : List V} (h : xs.all (isD n) = true) (hn : n < 64) : SeqAt.shaped (.list (xs.map (toPy n))) = true ∧ SeqAt.shaped (.tuple (xs.map (toPy n))) = true :=
  ⟨isD_shaped (x := .lst xs) (n := n + 1) h hn, isD_shaped (x := .tup xs) (n := n + 1) h hn⟩
mutual
noncomputable def noB : PyData → Bool
  | .list xs => noBs xs
  | .tuple xs => noBs xs
  | .none | .int _ | .str _ => true
  | _ => false
noncomputable def noBs : List PyData → Bool
  | [] => true
  | x :: xs => noB x && noBs xs
end
mutual
theorem noMix_of : ∀ d e : PyData, noB d = true → noB e = true → SeqAt.noMix d e = true
  | .list xs, .list ys, h, g => noMixs_of xs ys h g
  | .tuple xs, .tuple ys, h, g => noMixs_of xs ys h g
  | .none, e, _, _ => by cases e <;> rfl
  | .str _, e, _, _ => by cases e <;> rfl
  | .int _, e, _, g => by cases e <;> first | rfl | cases g
  | .list _, .none, _, _ => rfl
  | .list _, .int _, _, _ => rfl
  | .list _, .str _, _, _ => rfl
  | .list _, .tuple _, _, _ => rfl
  | .tuple _, .none, _, _ => rfl
  | .tuple _, .int _, _, _ => rfl
  | .tuple _, .str _, _, _ => rfl
  | .tuple _, .list _, _, _ => rfl
theorem noMixs_of : ∀ xs ys : List PyData, noBs xs = true → noBs ys = true → SeqAt.noMixAll xs ys = true
  | [], [], _, _ => rfl
  | [], _ :: _, _, _ => rfl
  | _ :: _, [], _, _ => rfl
  | x :: xs, y :: ys, h, g => by
    rw [noBs, Bool.and_eq_true] at h g
    rw [SeqAt.noMixAll, noMix_of x y h.1 g.1, noMixs_of xs ys h.2 g.2]; rfl
end
theorem noBs_of {ds : List PyData} (h : ∀ d ∈ ds, noB d = true) : noBs ds = true := by
  induction ds with
  | nil => rfl
  | cons d ds ih => rw [noBs, h d (.head _), ih fun e he => h e (.tail _ he)]; rfl
theorem isD_noB : ∀ {n : Nat} {x : V}, isD n x = true → noB (toPy n x) = true := by
  intro n
  induction n with
  | zero => intro x h; cases x <;> first | rfl | cases h
  | succ n ih =>
    intro x h
    have all : ∀ {xs : List V}, xs.all (isD n) = true → noBs (xs.map (toPy n)) = true := fun h => noBs_of fun d hd => by
      obtain ⟨a, ha, rfl⟩ := List.mem_map.mp hd
      exact ih (List.all_eq_true.mp h a ha)
    cases x with
    | tup xs => exact all h
    | lst xs => exact all h
    | none => rfl
    | int => rfl
    | str => rfl
    | bool => cases h
    | ins => cases h
    | ref => cases h
    | glob => cases h
theorem isD_noMix {n m : Nat} {x y : V} (hx : isD n x = true) (hy : isD m y = true) : SeqAt.noMix (toPy n x) (toPy m y) = true := noMix_of _ _ (isD_noB hx) (isD_noB hy)
noncomputable def ofD : Nat → PyData → V
  | _, .int i => .int i
  | _, .str s => .str s
  | n + 1, .tuple xs => .tup (xs.map (ofD n))
  | n + 1, .list xs => .lst (xs.map (ofD n))
  | _, _ => .none
theorem ofD_toPy : ∀ {n k : Nat} {x : V}, isD n x = true → n ≤ k → ofD k (toPy n x) = x := by
  intro n
  induction n with
  | zero => intro k x h _; cases x <;> first | (cases k <;> rfl) | cases h
  | succ n ih =>
    intro k x h hk
    cases k with
    | zero => exact absurd hk (Nat.not_succ_le_zero _)
    | succ k =>
      have all : ∀ {xs : List V}, xs.all (isD n) = true → (xs.map (toPy n)).map (ofD k) = xs := fun {xs} h => by
        rw [List.map_map]
        exact (List.map_congr_left fun a ha => ih (List.all_eq_true.mp h a ha) (Nat.le_of_succ_le_succ hk)).trans (List.map_id xs)
      cases x with
      | tup xs => exact congrArg V.tup (all h)
      | lst xs => exact congrArg V.lst (all h)
      | none => rfl
      | int => rfl
      | str => rfl
      | bool => cases h
      | ins => cases h
      | ref => cases h
      | glob => cases h
theorem same_iff {n m : Nat} {x y : V} (hx : isD n x = true) (hy : isD m y = true) : Spec.same (toPy n x) (toPy m y) = true ↔ x = y := by
  rw [PyProof.Rows.same_iff]
  refine ⟨fun e => ?_, fun e => ?_⟩
  · rw [← ofD_toPy hx (Nat.le_max_left n m), e, ofD_toPy hy (Nat.le_max_right n m)]
  · have : ∀ {n m : Nat} {x : V}, isD n x = true → isD m x = true → toPy n x = toPy m x := by
      intro n
      induction n with
      | zero => intro m x h g; cases x <;> first | (cases m <;> rfl) | cases h
      | succ n ih =>
        intro m x h g
        cases m with
        | zero => cases x <;> first | rfl | cases g
        | succ m =>
          have all : ∀ {xs : List V}, xs.all (isD n) = true → xs.all (isD m) = true → xs.map (toPy n) = xs.map (toPy m) := fun {xs} h g => List.map_congr_left fun a ha => ih (List.all_eq_true.mp h a ha) (List.all_eq_true.mp g a ha)
          cases x with
          | tup xs => exact congrArg PyData.tuple (all h g)
          | lst xs => exact congrArg PyData.list (all h g)
          | none => rfl
          | int => rfl
          | str => rfl
          | bool => rfl
          | ins => rfl
          | ref => rfl
          | glob => rfl
    subst e
    exact this hx hy
section
variable {W : Wd} {A : Around} {env : Env} {outer : Outs} {loc : Loc} {mem R : Mem} {E : Ex W} {F : Frz} {s : Shared}
noncomputable abbrev OpV (W : Wd) (A : Around) (env : Env) (outer : Outs) (f : List Value → Sem Value) (xs : List V) (loc : Loc) (mem : Mem) (Q : V → Loc → Mem → Prop) (E : Ex W) : Prop := Op W A env outer (VR W) f xs loc mem Q E
noncomputable abbrev OpB (W : Wd) (A : Around) (env : Env) (outer : Outs) (f : List Value → Sem Bool) (xs : List V) (loc : Loc) (mem : Mem) (Q : Bool → Loc → Mem → Prop) (E : Ex W) : Prop := Op W A env outer (fun _ (b c : Bool) => c = b) f xs loc mem Q E
noncomputable abbrev OpU (W : Wd) (A : Around) (env : Env) (outer : Outs) (f : List Value → Sem Unit) (xs : List V) (loc : Loc) (mem : Mem) (Q : Loc → Mem → Prop) (E : Ex W) : Prop := Op W A env outer (fun _ (_ _ : Unit) => True) f xs loc mem (fun _ => Q) E
theorem op1 {α β : Type} {RV : Frz → β → α → Prop} {f : List Value → Sem α} {x : V} {Q : β → Loc → Mem → Prop}
    (h : ∀ R F s v, Sim W env outer loc mem R F s → VR W F x v → wpAny (model W.prog W.w) A (f [v]) (Post W env outer RV R F Q) (E.p R F) s) : Op W A env outer RV f [x] loc mem Q E := fun R F s vs S r => by
  cases r.view with | cons r1 r2 => cases r2.view; exact h R F s _ S r1
theorem op2 {α β : Type} {RV : Frz → β → α → Prop} {f : List Value → Sem α} {x y : V} {Q : β → Loc → Mem → Prop}
    (h : ∀ R F s v u, Sim W env outer loc mem R F s → VR W F x v → VR W F y u → wpAny (model W.prog W.w) A (f [v, u]) (Post W env outer RV R F Q) (E.p R F) s) : Op W A env outer RV f [x, y] loc mem Q E := fun R F s vs S r => by
  cases r with | cons r1 r2 => cases r2 with | cons r2 r3 => cases r3; exact h R F s _ _ S r1 r2
theorem op3 {α β : Type} {RV : Frz → β → α → Prop} {f : List Value → Sem α} {x y z : V} {Q : β → Loc → Mem → Prop}
    (h : ∀ R F s v u t, Sim W env outer loc mem R F s → VR W F x v → VR W F y u → VR W F z t → wpAny (model W.prog W.w) A (f [v, u, t]) (Post W env outer RV R F Q) (E.p R F) s) : Op W A env outer RV f [x, y, z] loc mem Q E := fun R F s vs S r => by
  cases r with | cons r1 r2 => cases r2 with | cons r2 r3 => cases r3 with | cons r3 r4 => cases r4; exact h R F s _ _ _ S r1 r2 r3
theorem add_ii {a b : Int} {Q : V → Loc → Mem → Prop} (h : Q (.int (a + b)) loc mem) : OpV W A env outer (fun | [x, y] => binaryOp .Add x y | _ => pure .none) [.int a, .int b] loc mem Q E := op2 fun R F s v u S r1 r2 => by
  cases r1.view; cases r2.view; exact PyProof.Rows.add_int (Post.mk (.int _ _) S.tick h)
theorem sub_ii {a b : Int} {Q : V → Loc → Mem → Prop} (h : Q (.int (a - b)) loc mem) : OpV W A env outer (fun | [x, y] => binaryOp .Sub x y | _ => pure .none) [.int a, .int b] loc mem Q E := op2 fun R F s v u S r1 r2 => by
  cases r1.view; cases r2.view; exact PyProof.Rows.sub_int (Post.mk (.int _ _) S.tick h)
theorem isub_ii {a b : Int} {Q : V → Loc → Mem → Prop} (h : Q (.int (a - b)) loc mem) : OpV W A env outer (fun | [x, y] => inplaceOp .Sub x y | _ => pure .none) [.int a, .int b] loc mem Q E := op2 fun R F s v u S r1 r2 => by
  cases r1.view; cases r2.view; exact PyProof.Rows.isub_int (Post.mk (.int _ _) S.tick h)
theorem mod_ii {a b : Int} {Q : V → Loc → Mem → Prop} (hb : b ≠ 0) (h : Q (.int (a.fmod b)) loc mem) : OpV W A env outer (fun | [x, y] => binaryOp .Mod x y | _ => pure .none) [.int a, .int b] loc mem Q E := op2 fun R F s v u S r1 r2 => by
  cases r1.view; cases r2.view; exact PyProof.Rows.mod_int hb (Post.mk (.int _ _) S.tick h)
theorem eq_ii {a b : Int} {Q : V → Loc → Mem → Prop} (h : Q (.bool (decide (a = b))) loc mem) : OpV W A env outer (fun | [x, y] => compareOp .Eq x y | _ => pure .none) [.int a, .int b] loc mem Q E := op2 fun R F s v u S r1 r2 => by
  cases r1.view; cases r2.view; exact PyProof.Rows.eq_int (Post.mk (.bool _) S (show Q (.bool (decide (a = b))) loc mem from h))
theorem ne_ii {a b : Int} {Q : V → Loc → Mem → Prop} (h : Q (.bool (!decide (a = b))) loc mem) : OpV W A env outer (fun | [x, y] => compareOp .NotEq x y | _ => pure .none) [.int a, .int b] loc mem Q E := op2 fun R F s v u S r1 r2 => by
  cases r1.view; cases r2.view; exact PyProof.Rows.ne_int (Post.mk (.bool _) S (show Q (.bool (!decide (a = b))) loc mem from h))
theorem lt_ii {a b : Int} {Q : V → Loc → Mem → Prop} (h : Q (.bool (decide (a < b))) loc mem) : OpV W A env outer (fun | [x, y] => compareOp .Lt x y | _ => pure .none) [.int a, .int b] loc mem Q E := op2 fun R F s v u S r1 r2 => by
  cases r1.view; cases r2.view; exact PyProof.Rows.lt_int (Post.mk (.bool _) S h)
theorem gt_ii {a b : Int} {Q : V → Loc → Mem → Prop} (h : Q (.bool (decide (b < a))) loc mem) : OpV W A env outer (fun | [x, y] => compareOp .Gt x y | _ => pure .none) [.int a, .int b] loc mem Q E := op2 fun R F s v u S r1 r2 => by
  cases r1.view; cases r2.view; exact PyProof.Rows.gt_int (Post.mk (.bool _) S h)
theorem neg_i {a : Int} {Q : V → Loc → Mem → Prop} (h : Q (.int (-a)) loc mem) : OpV W A env outer (fun | [x] => unaryOp .USub x | _ => pure .none) [.int a] loc mem Q E := op1 fun R F s v S r1 => by
  cases r1.view; exact PyProof.Rows.neg_int (Post.mk (.int _ _) S.tick h)
theorem eq_ss {a b : Str} {Q : V → Loc → Mem → Prop} (h : Q (.bool (decide (a = b))) loc mem) : OpV W A env outer (fun | [x, y] => compareOp .Eq x y | _ => pure .none) [.str a, .str b] loc mem Q E := op2 fun R F s v u S r1 r2 => by
  cases r1.view; cases r2.view; exact PyProof.Rows.eq_str (Post.mk (.bool _) S (by have : (a == b) = decide (a = b) := rfl; rw [this]; exact h))
theorem ne_ss {a b : Str} {Q : V → Loc → Mem → Prop} (h : Q (.bool (!decide (a = b))) loc mem) : OpV W A env outer (fun | [x, y] => compareOp .NotEq x y | _ => pure .none) [.str a, .str b] loc mem Q E := op2 fun R F s v u S r1 r2 => by
  cases r1.view; cases r2.view; exact PyProof.Rows.ne_str (Post.mk (.bool _) S (by have : (a != b) = !decide (a = b) := rfl; rw [this]; exact h))
theorem add_ss {a b : Str} {Q : V → Loc → Mem → Prop} (hsz : a.length + b.length ≤ sizeLine) (h : Q (.str (a ++ b)) loc mem) : OpV W A env outer (fun | [x, y] => binaryOp .Add x y | _ => pure .none) [.str a, .str b] loc mem Q E := op2 fun R F s v u S r1 r2 => by
  cases r1.view; cases r2.view; exact PyProof.Rows.add_str (fun t' k => Post.mk (.str _ _) S.tick h) hsz
end
end Mine
end
section
set_option autoImplicit false
namespace Mine
section
variable {W : Wd} {A : Around} {env : Env} {outer : Outs} {loc : Loc} {mem R : Mem} {E : Ex W} {F : Frz} {s : Shared}
theorem Sim.newsL (S : Sim W env outer loc mem R F s) : News W.hb env.locals s.heap (ledger W.hb s.heap env.locals env.locals) := fun p hp => by
  have := mem_ledger.mp hp; exact ⟨this.1, this.2.1, this.2.2.2⟩
theorem Sim.keepN {m : Str → Option Value} {h' : Heap} {t : Nat} {d : Drawn} (S : Sim W env outer loc mem R F s) (l : LocRel W F loc m) (Fr' : Fr W.hb env.locals h' m) (hN : ∀ p ∈ ledger W.hb s.heap env.locals env.locals, h'.get? p.1 = some p.2) :
    Sim W env outer loc mem R F { s with heap := h', toks := t, drawn := d } := by
  have hs : ∀ b o, b ≠ env.locals → s.heap.get? b = some o → h'.get? b = some o := fun b o h2 e => by
    cases q : W.hb.get? b with
    | some o' =>
      have := S.frz _ _ (S.base _ _ q)
      rw [e] at this; cases this
      exact Fr'.keep b o q
    | none => exact hN (b, o) (mem_ledger.mpr ⟨e, h2, h2, q⟩)
  refine ⟨S.dis, ?_⟩
  have Z := S.z
  exact {
    frz := fun b o h => hs b o (fun e => Z.nsF.1 o (e ▸ h)) (Z.frz b o h)
    base := Z.base
    memF := Z.memF
    memOk := fun b y h => let ⟨o, e', q⟩ := Z.memOk b y h; ⟨o, hs b o (Z.ne_locals h) e', q⟩
    ns := ⟨m, Fr'.ns, l⟩
    nsF := Z.nsF
    outs := fun q hq => by
      obtain ⟨⟨o, es, ep, e', r'⟩, b, c, e⟩ := Z.outs q hq
      exact ⟨⟨o, es, ep, hs _ _ e e', r'⟩, b, c, e⟩
    low := Z.low
    memLow := Z.memLow
    gens := Z.gens
    os := Z.os }
inductive Sq (mem : Mem) : V → String → List V → Prop
  | lst (xs : List V) : Sq mem (.lst xs) "list" xs
  | tup (xs : List V) : Sq mem (.tup xs) "tuple" xs
  | own {a : Addr} {xs : List V} : mem a = some (.list xs) → Sq mem (.ref a) "list" xs
theorem Sq.at {v : V} {T : String} {xs : List V} {v' : Value} (q : Sq mem v T xs) (S : Sim W env outer loc mem R F s) (r : VR W F v v') :
    ∃ a vs n, v' = .ref a ∧ s.heap.get? a = some { cls := .type T, data := .seq vs n } ∧ VRs W F xs vs.toList := by
  cases q with
  | lst xs => cases r.view with | lst f q => exact ⟨_, _, _, rfl, S.frz _ _ f, q⟩
  | tup xs => cases r.view with | tup f q => exact ⟨_, _, _, rfl, S.frz _ _ f, q⟩
  | own h =>
    cases r.view
    obtain ⟨o, ho, q⟩ := S.memOk _ _ h
    cases q with
    | list q => exact ⟨_, _, _, rfl, ho, q⟩
theorem Sq.kind {v : V} {T : String} {xs : List V} (q : Sq mem v T xs) : T = "list" ∨ T = "tuple" := by cases q <;> simp
theorem VRs.size {xs : List V} {vs : Array Value} (r : VRs W F xs vs.toList) : vs.size = xs.length := by rw [← r.length, Array.length_toList]
theorem VRs.get {xs : List V} {vs : List Value} (r : VRs W F xs vs) : ∀ {i : Nat} {x : V}, xs[i]? = some x → ∃ v, vs[i]? = some v ∧ VR W F x v := by
  induction xs generalizing vs with
  | nil => intro i x h; cases h
  | cons y ys ih =>
    cases r.view with
    | cons r1 r2 =>
      intro i x h
      cases i with
      | zero => cases h; exact ⟨_, rfl, r1⟩
      | succ i => exact ih r2 h
theorem VRs.getA {xs : List V} {vs : Array Value} (r : VRs W F xs vs.toList) {i : Nat} {x : V} (h : xs[i]? = some x) : ∃ v, vs[i]? = some v ∧ VR W F x v := by
  obtain ⟨v, a, b⟩ := r.get h; exact ⟨v, by rw [← a, Array.getElem?_toList], b⟩
theorem VRs.app {xs ys : List V} {vs ws : List Value} (r : VRs W F xs vs) (q : VRs W F ys ws) : VRs W F (xs ++ ys) (vs ++ ws) := by
  induction xs generalizing vs with
  | nil => cases r.view; exact q
  | cons x xs ih => cases r.view with | cons r1 r2 => exact .cons r1 (ih r2)
theorem VRs.drop {xs : List V} {vs : List Value} (r : VRs W F xs vs) (k : Nat) : VRs W F (xs.drop k) (vs.drop k) := by
  induction k generalizing xs vs with
  | zero => exact r
  | succ k ih => cases r with | nil => exact .nil | cons r1 r2 => exact ih r2
theorem VRs.take {xs : List V} {vs : List Value} (r : VRs W F xs vs) (k : Nat) : VRs W F (xs.take k) (vs.take k) := by
  induction k generalizing xs vs with
  | zero => exact .nil
  | succ k ih => cases r with | nil => exact .nil | cons r1 r2 => exact .cons r1 (ih r2)
theorem len_sq {v : V} {T : String} {xs : List V} {Q : V → Loc → Mem → Prop} (q : Sq mem v T xs) (hz : (xs.length : Int) < 2 ^ 63) (h : Q (.int xs.length) loc mem) : OpV W A env outer (fun vs => call (.builtin "len") vs) [v] loc mem Q E := op1 fun R F s v' S r => by
  obtain ⟨a, vs, n, rfl, ho, rs⟩ := q.at S r
  have hs := rs.size
  rcases q.kind with rfl | rfl
  · exact call_len_list (items := vs) ⟨_, ho, rfl, n, rfl⟩ (by rw [hs]; exact hz) (Post.mk (.int _ _) S.tick (by rw [hs]; exact h))
  · exact len_tuple (items := vs) ⟨_, ho, rfl, n, rfl⟩ (by rw [hs]; exact hz) (Post.mk (.int _ _) S.tick (by rw [hs]; exact h))
theorem tr_list {v : V} {xs : List V} {Q : Bool → Loc → Mem → Prop} (q : Sq mem v "list" xs) (hz : (xs.length : Int) < 2 ^ 63) (h : Q (!xs.isEmpty) loc mem) : OpB W A env outer (fun | [x] => truthy x | _ => pure false) [v] loc mem Q E := op1 fun R F s v' S r => by
  obtain ⟨a, vs, n, rfl, ho, rs⟩ := q.at S r
  have hs := rs.size
  have he : vs.isEmpty = xs.isEmpty := by
    rw [Array.isEmpty, hs]; cases xs <;> simp
  exact wpAny_truthy_list (items := vs) ⟨_, ho, rfl, n, rfl⟩ (by rw [hs]; exact hz) (Post.mk (by rw [he]) S.tick h)
theorem e_sub {value slice : PySem.Expr} {pos : Pos} {Q : V → Loc → Mem → Prop} (hs : ∀ o i, subscripted slice false o i = operate [o, i] (getItem o i))
    (h : TrV W A env outer (eval value env) loc mem (fun o l m => TrV W A env outer (eval slice env) l m (fun i l m => ∃ T id, Ty m o T ∧ typeLookup (.type T) "__getitem__" = pure (some (.builtin id)) ∧
      OpV W A env outer (fun | [x, y] => getItem x y | _ => pure .none) [o, i] l m Q E) E) E) : TrV W A env outer (eval (.Subscript value slice pos) env) loc mem Q E := fun R F s S =>
  Subscript_ (after (RW := VR W) (Q := fun _ _ _ => True) (h R F s S) fun v' s' F1 f l1 m1 i1 r1 S1 h1 =>
    after (RW := VR W) (Q := fun _ _ _ => True) (h1 R F1 s' S1) fun u' s2 F2 g l2 m2 i2 r2 S2 h2 => by
      obtain ⟨T, id, ty, hl, op⟩ := h2
      have r1' := r1.mono i2
      exact PyProof.Rows.tail_any (ty.at S2 r1').1 hl (wpAny_mono (op R F2 s2 [v', u'] S2 (.cons r1' (.cons r2 .nil))) (fun _ _ p => p.weaken (i1.trans i2)) fun _ _ e => E.up (i1.trans i2) e) (hs _ _))
theorem Sq.ty {v : V} {T : String} {xs : List V} (q : Sq mem v T xs) : Ty mem v T := by
  cases q with
  | lst xs => exact .lst xs
  | tup xs => exact .tup xs
  | own h => exact .list h
theorem seqIndex?_nonneg {k : Int} {n : Nat} (h0 : 0 ≤ k) (hn : k.toNat < n) : seqIndex? k n = some k.toNat := by
  unfold seqIndex?
  have h1 : ¬ k < 0 := by omega
  simp only [h1, if_false]
  have h2 : 0 ≤ k ∧ k < (n : Int) := ⟨h0, by omega⟩
  simp [h2]
  try omega
theorem getItem_sq {v : V} {T : String} {xs : List V} {k : Int} {x : V} {Q : V → Loc → Mem → Prop} (q : Sq mem v T xs) (h0 : 0 ≤ k) (hk : k < 2 ^ 63) (hx : xs[k.toNat]? = some x) (h : Q x loc mem) :
    OpV W A env outer (fun | [x, y] => getItem x y | _ => pure .none) [v, .int k] loc mem Q E := op2 fun R F s v' i' S r ri => by
  obtain ⟨a, vs, n, rfl, ho, rs⟩ := q.at S r
  cases ri
  obtain ⟨u, hu, ru⟩ := rs.getA hx
  rcases q.kind with rfl | rfl
  · exact wpAny_getItem_list (items := vs) ⟨_, ho, rfl, n, rfl⟩ h0 hk hu (Post.mk ru S h)
  · have hlt : k.toNat < vs.size := by
      rw [Array.getElem?_eq_some_iff] at hu
      exact hu.1
    exact getItem_tuple (items := vs) ⟨_, ho, rfl, n, rfl⟩ (by omega) hk (seqIndex?_nonneg h0 hlt) hu (Post.mk ru S h)
theorem new_tup {xs : List V} {Q : V → Loc → Mem → Prop} (hz : xs.length ≤ sizeLine) (h : Q (.tup xs) loc mem) : OpV W A env outer newTuple xs loc mem Q E := fun R F s vs S r => by
  refine wpAny_newTuple ?_ (by rw [r.length]; exact hz)
  have S' := S.freeze (t := s.toks) (d := s.drawn) (o' := { cls := .type "tuple", data := .seq vs.toArray }) (get?_size s.heap) (fun b o e => Heap.get?_push_of_some _ e) (Heap.get?_push_size _ rfl)
  exact ⟨_, .tup xs, loc, mem, Incl.fadd _ _ _, .tup (.inr ⟨rfl, rfl⟩) (by simpa using r.mono (Incl.fadd _ _ _)), S', h⟩
theorem new_lst {xs : List V} {Q : V → Loc → Mem → Prop} (hz : xs.length ≤ sizeLine) (h : Q (.lst xs) loc mem) : OpV W A env outer newList xs loc mem Q E := fun R F s vs S r => by
  refine wpAny_newList ?_ (by rw [r.length]; exact hz)
  have S' := S.freeze (t := s.toks) (d := s.drawn) (o' := { cls := .type "list", data := .seq vs.toArray }) (get?_size s.heap) (fun b o e => Heap.get?_push_of_some _ e) (Heap.get?_push_size _ rfl)
  exact ⟨_, .lst xs, loc, mem, Incl.fadd _ _ _, .lst (.inr ⟨rfl, rfl⟩) (by simpa using r.mono (Incl.fadd _ _ _)), S', h⟩
theorem new_own {xs : List V} {Q : V → Loc → Mem → Prop} (hz : xs.length ≤ sizeLine) (h : ∀ a, mem a = none → Q (.ref a) loc (mset mem a (.list xs))) : OpV W A env outer newList xs loc mem Q E := fun R F s vs S r => by
  refine wpAny_newList ?_ (by rw [r.length]; exact hz)
  have S' := S.alloc (t := s.toks) (d := s.drawn) (x := .list xs) (o' := { cls := .type "list", data := .seq vs.toArray }) (get?_size s.heap) S.size_le (fun b o e => Heap.get?_push_of_some _ e) (Heap.get?_push_size _ rfl) (.list (by simpa using r))
  exact Post.mk (.ref _) S' (h _ (S.free (get?_size s.heap)).1)
theorem e_tuple {elts : List PySem.Expr} {k : Nat} {pos : Pos} {Q : V → Loc → Mem → Prop} (h : TrL W A env outer (spliced (backTo pos (starEach elts env))) loc mem (fun xs l m => OpV W A env outer newTuple xs l m Q E) E) :
    TrV W A env outer (eval (.Tuple elts k pos) env) loc mem Q E := fun R F s S =>
  PyProof.Rows.Tuple_ (after (RW := VR W) (Q := fun _ _ _ => True) (h R F s S) fun vs s' F1 xs l1 m1 i1 r1 S1 h1 => wpAny_mono (h1 R F1 s' vs S1 r1) (fun _ _ p => p.weaken i1) fun _ _ e => E.up i1 e)
theorem e_list {elts : List PySem.Expr} {pos : Pos} {Q : V → Loc → Mem → Prop} (h : TrL W A env outer (spliced (backTo pos (starEach elts env))) loc mem (fun xs l m => OpV W A env outer newList xs l m Q E) E) :
    TrV W A env outer (eval (.List elts pos) env) loc mem Q E := fun R F s S =>
  PyProof.Rows.List_ (after (RW := VR W) (Q := fun _ _ _ => True) (h R F s S) fun vs s' F1 xs l1 m1 i1 r1 S1 h1 => wpAny_mono (h1 R F1 s' vs S1 r1) (fun _ _ p => p.weaken i1) fun _ _ e => E.up i1 e)
theorem append_own {a : Addr} {xs : List V} {x : V} {Q : V → Loc → Mem → Prop} (h1 : mem a = some (.list xs)) (hz : xs.length ≤ sizeLine) (h : Q .none loc (mset mem a (.list (xs ++ [x])))) :
    OpV W A env outer (fun vs => call (.builtin "list.append") vs) [.ref a, x] loc mem Q E := op2 fun R F s v' i' S r ri => by
  cases r.view
  obtain ⟨o, ho, q⟩ := S.memOk _ _ h1
  cases q with
  | @list _ vs n q =>
    refine append_at ho (fun h' hs ho' => ?_) (by rw [q.size]; exact hz)
    exact Post.mk .none (S.upd (t := s.toks) (d := s.drawn) h1 (fun b ob hb e => (hs.2 b hb).trans e) ho' (.list (by simpa using q.app (.cons ri .nil)))) h
theorem pop0_own {a : Addr} {xs : List V} {x : V} {Q : V → Loc → Mem → Prop} (h1 : mem a = some (.list (x :: xs))) (hz : xs.length + 1 ≤ sizeLine) (h : Q x loc (mset mem a (.list xs))) :
    OpV W A env outer (fun vs => call (.builtin "list.pop") vs) [.ref a, .int 0] loc mem Q E := op2 fun R F s v' i' S r ri => by
  cases r.view
  cases ri
  obtain ⟨o, ho, q⟩ := S.memOk _ _ h1
  cases q with
  | @list _ vs n q =>
    obtain ⟨m, hn, l⟩ := S.ns
    obtain ⟨us, hus⟩ : ∃ us, vs = List.toArray us := ⟨vs.toList, by simp⟩
    subst hus
    have q' : VRs W F (x :: xs) us := by simpa using q
    cases q' with
    | @cons _ u _ us r1 r2 =>
      refine kl_popAt (k := 0) (p := []) (y := u) (q := us) (S.fr hn) (S.newsAll h1 ho) (by decide) (by
        rw [seqIndex?_nonneg (Int.le_refl 0) (by simp)]; rfl) (by simp [kl_cut]) (.head fun p hp => ledger_ne hp) (by simp [r2.length]; omega) fun h' F' N' => ?_
      exact Post.mk r1 (S.updN (t := s.toks) (d := s.drawn) h1 l F' N' (.list (by simpa using r2))) h
theorem list_sq {v : V} {T : String} {xs : List V} {Q : V → Loc → Mem → Prop} (q : Sq mem v T xs) (hz : xs.length ≤ sizeLine) (h : ∀ a, mem a = none → Q (.ref a) loc (mset mem a (.list xs))) :
    OpV W A env outer (fun vs => call (.type "list") vs) [v] loc mem Q E := op1 fun R F s v' S r => by
  obtain ⟨a, vs, n, rfl, ho, rs⟩ := q.at S r
  refine call_list_seq (items := vs) (hsz := by rw [rs.size]; exact hz) a q.kind ho rfl rfl fun h' c' hk hD => ?_
  have S' := S.alloc (t := s.toks) (d := s.drawn) (x := .list xs) (get?_size s.heap) S.size_le hk hD (.list rs)
  exact Post.mk (.ref _) S' (h _ (S.free (get?_size s.heap)).1)
end
end Mine
end
section
set_option autoImplicit false
namespace Mine
section
variable {W : Wd} {A : Around} {env : Env} {outer : Outs} {loc : Loc} {mem R : Mem} {E : Ex W} {F : Frz} {s : Shared}
theorem Sim0.growBut {it : Addr} {x : AObj} {h' : Heap} {t : Nat} {d : Drawn} (S : Sim0 W env outer loc (mset mem it x) F s) (hm : mem it = none) (hk : ∀ b o, b ≠ it → s.heap.get? b = some o → h'.get? b = some o) :
    Sim0 W env outer loc mem F { s with heap := h', toks := t, drawn := d } := by
  have up : ∀ {a y}, mem a = some y → a ≠ it ∧ mset mem it x a = some y := fun {a y} e => by
    have : a ≠ it := fun q => by rw [q, hm] at e; cases e
    exact ⟨this, by rw [mset_ne this]; exact e⟩
  have dn : ∀ {a}, mset mem it x a = none → a ≠ it ∧ mem a = none := fun {a} e => by
    have : a ≠ it := fun q => by rw [q, mset_self] at e; cases e
    exact ⟨this, by rw [mset_ne this] at e; exact e⟩
  exact {
    frz := fun a o h => hk _ _ (dn (S.memF a o h)).1 (S.frz a o h)
    base := S.base
    memF := fun a o h => (dn (S.memF a o h)).2
    memOk := fun a y h => let ⟨o, e, r⟩ := S.memOk a y (up h).2; ⟨o, hk _ _ (up h).1 e, r⟩
    ns := let ⟨m, ⟨o, es, ep, e, q⟩, b⟩ := S.ns; ⟨m, ⟨o, es, ep, hk _ _ (dn S.nsF.2).1 e, q⟩, b⟩
    nsF := ⟨S.nsF.1, (dn S.nsF.2).2⟩
    outs := fun q hq => by
      obtain ⟨⟨o, es, ep, e, r⟩, b, c, n⟩ := S.outs q hq
      exact ⟨⟨o, es, ep, hk _ _ (dn c).1 e, r⟩, b, (dn c).2, n⟩
    low := S.low
    memLow := fun a y h => S.memLow a y (up h).2
    gens := S.gens
    os := S.os }
theorem Sim.endR {it : Addr} {x : AObj} {h' : Heap} {t : Nat} {d : Drawn} (S : Sim W env outer loc mem (mset R it x) F s) (hR : R it = none) (hk : ∀ b o, b ≠ it → s.heap.get? b = some o → h'.get? b = some o) :
    Sim W env outer loc mem R F { s with heap := h', toks := t, drawn := d } := by
  have hm : mem it = none := by
    cases q : mem it with
    | none => rfl
    | some y => have := S.dis it y q; rw [mset_self] at this; cases this
  refine ⟨fun b y e => ?_, ?_⟩
  · have := S.dis b y e
    unfold mset at this
    split at this
    · cases this
    · exact this
  · have z := S.z
    rw [← mset_munR hm] at z
    exact z.growBut (by rw [mun_r hm]; exact hR) hk
theorem feed_raw {F₀ : Frz} {target : PySem.Expr} {it : Addr} {item : Nat → Mem → Option (Option V)} (P : Nat → Obj → Prop)
    (next : ∀ {i : Nat} {env : Env} {outer : Outs} {loc : Loc} {mem R : Mem} {F : Frz} {s : Shared} {v : V} {o : Obj} (E : Value → Shared → Prop) (Q : Option Value → Shared → Prop), Incl F₀ F → P i o → item i mem = some (some v) → s.heap.get? it = some o → Sim W env outer loc mem R F s →
      (∀ v' h' t o', VR W F v v' → h'.get? it = some o' → P (i + 1) o' → Heap.SameBut it s.heap h' → Q (some v') { s with heap := h', toks := t }) → wpAny (model W.prog W.w) A (pyNext (.ref it)) Q E s)
    (go : ∀ {i : Nat} {s : Shared} {v' : Value} {o : Obj} (E : Value → Shared → Prop) (Q : Unit → Shared → Prop), P i o → s.heap.get? it = some o → Q () s → wpAny (model W.prog W.w) A (letOwnedTupleGo target (.ref it) v') Q E s)
    (done : ∀ {i : Nat} {env : Env} {outer : Outs} {loc : Loc} {mem R : Mem} {F : Frz} {s : Shared} {o : Obj} (E : Value → Shared → Prop) (Q : Option Value → Shared → Prop), Incl F₀ F → P i o → item i mem = some none → s.heap.get? it = some o → Sim W env outer loc mem R F s →
      (∀ h', Heap.ExtBut it s.heap h' → Q none { s with heap := h' }) → wpAny (model W.prog W.w) A (pyNext (.ref it)) Q E s)
    (self : ∀ {i : Nat} {s : Shared} {o : Obj} (E : Value → Shared → Prop) (Q : Value → Shared → Prop), P i o → s.heap.get? it = some o → Q (.ref it) s → wpAny (model W.prog W.w) A (pyIter (.ref it)) Q E s) :
    Feed W A F₀ target (.ref it) item (fun i R₀ R => R₀ it = none ∧ ∃ o, R = mset R₀ it (.raw o) ∧ P i o) where
  next := by
    rintro i env outer loc mem R₀ R F s v E ic ⟨hn, o, rfl, hP⟩ hi S
    obtain ⟨o₁, ho, r⟩ := S.atR
    cases r.view
    refine next E _ ic hP hi ho S fun v' h' t o' rv ho' hP' sb => ⟨v', rfl, ?_⟩
    have S' := S.updR (t := t) (d := s.drawn) (x' := .raw o') (fun b ob hb e => (sb.2 b hb).trans e) ho' .raw
    exact go E _ hP' ho' ⟨F, _, Incl.refl F, rv, ⟨hn, o', rfl, hP'⟩, S'⟩
  done := by
    rintro i env outer loc mem R₀ R F s E ic ⟨hn, o, rfl, hP⟩ hi S
    obtain ⟨o₁, ho, r⟩ := S.atR
    cases r.view
    exact done E _ ic hP hi ho S fun h' eb => ⟨rfl, S.endR (t := s.toks) (d := s.drawn) hn fun b ob hb e => eb b ob hb e⟩
  off := by
    rintro i env outer loc mem R₀ R F s ⟨hn, o, rfl, hP⟩ S
    exact S.offR hn
  self := by
    rintro i env outer loc mem R₀ R F s E Q ⟨hn, o, rfl, hP⟩ S h
    obtain ⟨o₁, ho, r⟩ := S.atR
    cases r.view
    exact self E Q hP ho h
  frame := by
    rintro i R₀ R D x ⟨hn, o, rfl, hP⟩ e
    have hD : D ≠ it := fun q => by rw [q, mset_self, hn] at e; cases e
    refine ⟨by rw [mset_ne (Ne.symm hD)]; exact hn, o, ?_, hP⟩
    funext b
    unfold mset
    by_cases h1 : b = D <;> by_cases h2 : b = it <;> simp_all
  same := by
    rintro i R₀ R D ⟨hn, o, rfl, hP⟩ h
    exact mset_ne fun q => h (q ▸ hn)
theorem Sim.iterNew {o : Obj} (S : Sim W env outer loc mem R F s) (hf : o.isFreed = false := by rfl) : R s.heap.objs.size = none ∧ Sim W env outer loc mem (mset R s.heap.objs.size (.raw o)) F { s with heap := s.heap.push o } :=
  ⟨(S.free (get?_size s.heap)).2, S.allocR (t := s.toks) (d := s.drawn) (get?_size s.heap) S.size_le (fun b ob e => Heap.get?_push_of_some _ e) (Heap.get?_push_size _ hf) .raw⟩
theorem letGo_plain {target : PySem.Expr} {it : Addr} {v : Value} {o : Obj} {n : String} {vs : Array Value} {s : Shared} {E : Value → Shared → Prop} {Q : Unit → Shared → Prop} (ho : s.heap.get? it = some o) (hc : o.cls = .type n) (hd : o.data = .fields vs)
    (hn : ["enumerate", "zip", "dict_itemiterator", "dict_reverseitemiterator", "odict_iterator", "itertools.zip_longest", "itertools.pairwise"].contains n = false) (h : Q () s) :
    wpAny (model W.prog W.w) A (letOwnedTupleGo target (.ref it) v) Q E s := by
  unfold letOwnedTupleGo
  cases target <;> first
    | exact wpAny_pure h
    | (cases v <;> first
        | exact wpAny_pure h
        | (refine wpAny_bind (wpAny_load ho ?_)
           rw [hc, hd]
           simp only [hn, Bool.false_and, Bool.false_eq_true, if_false]
           exact wpAny_pure h))
noncomputable def ownItem (a : Addr) (i : Nat) (m : Mem) : Option (Option V) := match m a with
  | some (.list xs) => some xs[i]?
  | _ => none
theorem ownItem_eq {a : Addr} {i : Nat} {m : Mem} {xs : List V} (h : m a = some (.list xs)) : ownItem a i m = some xs[i]? := by unfold ownItem; rw [h]
theorem ownItem_some {a : Addr} {i : Nat} {m : Mem} {v : Option V} (h : ownItem a i m = some v) : ∃ xs, m a = some (.list xs) ∧ xs[i]? = v := by
  unfold ownItem at h
  split at h
  · rename_i xs e; cases h; exact ⟨xs, e, rfl⟩
  · cases h
theorem VRs.getN {xs : List V} {vs : Array Value} (r : VRs W F xs vs.toList) {i : Nat} (h : xs[i]? = none) : vs[i]? = none := by
  rw [List.getElem?_eq_none_iff] at h
  rw [Array.getElem?_eq_none_iff, r.size]; exact h
theorem itr_own {target : PySem.Expr} {a : Addr} {xs : List V} (hh : A.handled = none) (h : mem a = some (.list xs)) : Itr W A target (.ref a) mem mem (ownItem a) := by
  intro env outer loc R F s x' E S r
  cases r.view
  obtain ⟨o, ho, q⟩ := S.memOk _ _ h
  cases q with
  | @list _ vs n q =>
    obtain ⟨hR, S'⟩ := S.iterNew (o := { cls := .type "list_iterator", data := .fields #[.ref a, .int 0 0] })
    refine wpAny_pyIter_list (items := vs) ⟨_, ho, rfl, n, rfl⟩ ⟨_, _, feed_raw (fun i o => o.cls = .type "list_iterator" ∧ o.data = .fields #[.ref a, .int i 0]) ?_ ?_ ?_ ?_, ⟨hR, _, rfl, ⟨rfl, rfl⟩⟩, S'⟩
    · intro i env outer loc mem R F s v o E Q ic hP hi ho S k
      obtain ⟨xs, hx, hi⟩ := ownItem_some hi
      obtain ⟨o', ho', q⟩ := S.memOk _ _ hx
      cases q with
      | @list _ vs n q =>
        obtain ⟨u, hu, ru⟩ := q.getA hi
        refine wpAny_pyNext_list_item (items := vs) ⟨o, ho, hP⟩ ⟨_, ho', rfl, n, rfl⟩ hu fun h' hit sb => ?_
        obtain ⟨o2, h2, hP2⟩ := hit
        exact k u h' s.toks o2 ru h2 hP2 sb
    · intro i s v' o E Q hP ho q
      exact letGo_plain ho hP.1 hP.2 (by decide) q
    · intro i env outer loc mem R F s o E Q ic hP hi ho S k
      obtain ⟨xs, hx, hi⟩ := ownItem_some hi
      obtain ⟨o', ho', q⟩ := S.memOk _ _ hx
      cases q with
      | @list _ vs n q => exact wpAny_pyNext_list_end (items := vs) hh ⟨o, ho, hP⟩ ⟨_, ho', rfl, n, rfl⟩ (q.getN hi) k
    · intro i s o E Q hP ho q; exact wpAny_pyIter_listiter ⟨o, ho, hP⟩ q
noncomputable def setItem_ (xs : List V) (i : Nat) (_ : Mem) : Option (Option V) := some xs[i]?
theorem itr_lst {target : PySem.Expr} {xs : List V} (hh : A.handled = none) : Itr W A target (.lst xs) mem mem (setItem_ xs) := by
  intro env outer loc R F₀ s x' E S r
  cases r with
  | @lst _ a vs n fa q =>
    obtain ⟨hR, S'⟩ := S.iterNew (o := { cls := .type "list_iterator", data := .fields #[.ref a, .int 0 0] })
    refine wpAny_pyIter_list (items := vs) ⟨_, S.frz _ _ fa, rfl, n, rfl⟩ ⟨_, _, feed_raw (fun i o => o.cls = .type "list_iterator" ∧ o.data = .fields #[.ref a, .int i 0]) ?_ ?_ ?_ ?_, ⟨hR, _, rfl, ⟨rfl, rfl⟩⟩, S'⟩
    · intro i env outer loc mem R F s v o E Q ic hP hi ho S k
      cases hi' : xs[i]? with
      | none => unfold setItem_ at hi; rw [hi'] at hi; cases hi
      | some y =>
        have : y = v := by unfold setItem_ at hi; rw [hi'] at hi; cases hi; rfl
        subst this
        obtain ⟨u, hu, ru⟩ := (q.mono ic).getA hi'
        refine wpAny_pyNext_list_item (items := vs) ⟨o, ho, hP⟩ ⟨_, S.frz _ _ (ic _ _ fa), rfl, n, rfl⟩ hu fun h' hit sb => ?_
        obtain ⟨o2, h2, hP2⟩ := hit
        exact k u h' s.toks o2 ru h2 hP2 sb
    · intro i s v' o E Q hP ho q
      exact letGo_plain ho hP.1 hP.2 (by decide) q
    · intro i env outer loc mem R F s o E Q ic hP hi ho S k
      have hi' : xs[i]? = none := by unfold setItem_ at hi; exact Option.some.inj hi
      exact wpAny_pyNext_list_end (items := vs) hh ⟨o, ho, hP⟩ ⟨_, S.frz _ _ (ic _ _ fa), rfl, n, rfl⟩ (q.getN hi') k
    · intro i s o E Q hP ho q; exact wpAny_pyIter_listiter ⟨o, ho, hP⟩ q
theorem itr_tup {target : PySem.Expr} {xs : List V} (hh : A.handled = none) : Itr W A target (.tup xs) mem mem (setItem_ xs) := by
  intro env outer loc R F₀ s x' E S r
  cases r with
  | @tup _ a vs n fa q =>
    obtain ⟨hR, S'⟩ := S.iterNew (o := { cls := .type "tuple_iterator", data := .fields #[.ref a, .int 0 0] })
    refine iter_tuple (items := vs) ⟨_, S.frz _ _ fa, rfl, n, rfl⟩ ⟨_, _, feed_raw (fun i o => o.cls = .type "tuple_iterator" ∧ o.data = .fields #[.ref a, .int i 0]) ?_ ?_ ?_ ?_, ⟨hR, _, rfl, ⟨rfl, rfl⟩⟩, S'⟩
    · intro i env outer loc mem R F s v o E Q ic hP hi ho S k
      cases hi' : xs[i]? with
      | none => unfold setItem_ at hi; rw [hi'] at hi; cases hi
      | some y =>
        have : y = v := by unfold setItem_ at hi; rw [hi'] at hi; cases hi; rfl
        subst this
        obtain ⟨u, hu, ru⟩ := (q.mono ic).getA hi'
        refine next_tuple_item (items := vs) ⟨o, ho, hP⟩ ⟨_, S.frz _ _ (ic _ _ fa), rfl, n, rfl⟩ hu fun h' hit sb => ?_
        obtain ⟨o2, h2, hP2⟩ := hit
        exact k u h' s.toks o2 ru h2 hP2 sb
    · intro i s v' o E Q hP ho q
      exact letGo_plain ho hP.1 hP.2 (by decide) q
    · intro i env outer loc mem R F s o E Q ic hP hi ho S k
      have hi' : xs[i]? = none := by unfold setItem_ at hi; exact Option.some.inj hi
      exact next_tuple_end (items := vs) hh ⟨o, ho, hP⟩ ⟨_, S.frz _ _ (ic _ _ fa), rfl, n, rfl⟩ (q.getN hi') k
    · intro i s o E Q hP ho q; exact wpAny_pyIter_tupleiter ⟨o, ho, hP⟩ q
noncomputable def keyItem (a : Addr) (n ep i : Nat) (m : Mem) : Option (Option V) := match m a with
  | some (.dict es e) => if es.length = n ∧ e = ep then some (es[i]?.map fun q => .str q.1) else none
  | _ => none
theorem keyItem_eq {a : Addr} {n ep i : Nat} {m : Mem} {es : List (Str × V)} (h : m a = some (.dict es ep)) (hn : es.length = n) : keyItem a n ep i m = some (es[i]?.map fun q => .str q.1) := by unfold keyItem; rw [h]; simp [hn]
theorem keyItem_some {a : Addr} {n ep i : Nat} {m : Mem} {v : Option V} (h : keyItem a n ep i m = some v) : ∃ es, m a = some (.dict es ep) ∧ es.length = n ∧ v = es[i]?.map fun q => .str q.1 := by
  unfold keyItem at h
  split at h
  · rename_i es e q
    split at h
    · rename_i z; cases h; exact ⟨es, z.2 ▸ q, z.1, rfl⟩
    · cases h
  · cases h
theorem dictOf_ep {ds : List DictEntry} {n : Nat} {kvs : List (Str × Value)} (h : (dictOf ds n).IsDictOf (strKind W.prog W.w) kvs) {hp : Heap} {a : Addr} (ha : hp.get? a = some (dictOf ds n)) : hp.DictAt (strKind W.prog W.w) a kvs n := by
  obtain ⟨es, ep, hx, hd, hk, hpr, hn⟩ := h
  refine ⟨_, es, ha, hx, ?_, hk, hpr, hn⟩
  rw [hd]; cases hd; rfl
theorem VRp.at {es : List (Str × V)} {kvs : List (Str × Value)} (r : VRp W F es kvs) : ∀ {i : Nat} {k : Str} {x : V}, es[i]? = some (k, x) → ∃ v, kvs[i]? = some (k, v) ∧ VR W F x v := by
  induction es generalizing kvs with
  | nil => intro i k x h; cases h
  | cons e es ih =>
    cases r.view with
    | cons r1 r2 =>
      intro i k x h
      cases i with
      | zero => cases h; exact ⟨_, rfl, r1⟩
      | succ i => exact ih r2 h
theorem VRp.atN {es : List (Str × V)} {kvs : List (Str × Value)} (r : VRp W F es kvs) {i : Nat} (h : es[i]? = none) : kvs[i]? = none := by
  rw [List.getElem?_eq_none_iff] at h ⊢
  rw [r.length]; exact h
theorem itr_dict {target : PySem.Expr} {a : Addr} {es : List (Str × V)} {ep : Nat} (hh : A.handled = none) (h : mem a = some (.dict es ep)) : Itr W A target (.ref a) mem mem (keyItem a es.length ep) := by
  intro env outer loc R F₀ s x' E S r
  cases r.view
  obtain ⟨o, ho, q⟩ := S.memOk _ _ h
  cases q with
  | @dict _ ds _ kvs k q =>
    obtain ⟨hR, S'⟩ := S.iterNew (o := { cls := .type "dict_keyiterator", data := .fields #[.ref a, .int 0 0, .int kvs.length 0, .int ep 0] })
    refine wpAny_pyIter_dict (knd := strKind W.prog W.w) (S.not_modules h) (dictOf_ep k ho) ⟨_, _, feed_raw (fun i o => o.cls = .type "dict_keyiterator" ∧ o.data = .fields #[.ref a, .int i 0, .int kvs.length 0, .int ep 0]) ?_ ?_ ?_ ?_, ⟨hR, _, rfl, ⟨rfl, rfl⟩⟩, S'⟩
    · intro i env outer loc mem R F s v o E Q ic hP hi ho S k
      obtain ⟨es', hx, hl, hi⟩ := keyItem_some hi
      obtain ⟨o', ho', q'⟩ := S.memOk _ _ hx
      cases q' with
      | @dict _ ds' _ kvs' k' q' =>
        have hlen : kvs.length = kvs'.length := by rw [q.length, q'.length, hl]
        cases he : es'[i]? with
        | none => rw [he] at hi; cases hi
        | some e =>
          obtain ⟨ke, xe⟩ := e
          rw [he] at hi
          cases hi
          obtain ⟨u, hu, ru⟩ := q'.at he
          refine wpAny_pyNext_dict_item (knd := strKind W.prog W.w) (kvs := kvs') (hlen ▸ ⟨o, ho, hP⟩) (dictOf_ep k' ho') hu fun key h' hkey hit sb => ?_
          obtain ⟨o2, h2, hP2⟩ := hit
          obtain ⟨t, rfl⟩ := Value.isStrOf_shape hkey
          exact k _ h' s.toks o2 (.str _ _) h2 (hlen ▸ hP2) sb
    · intro i s v' o E Q hP ho q
      exact letGo_plain ho hP.1 hP.2 (by decide) q
    · intro i env outer loc mem R F s o E Q ic hP hi ho S k
      obtain ⟨es', hx, hl, hi⟩ := keyItem_some hi
      obtain ⟨o', ho', q'⟩ := S.memOk _ _ hx
      cases q' with
      | @dict _ ds' _ kvs' k' q' =>
        have hlen : kvs.length = kvs'.length := by rw [q.length, q'.length, hl]
        have he : es'[i]? = none := by
          cases he : es'[i]? with
          | none => rfl
          | some e => rw [he] at hi; cases hi
        exact wpAny_pyNext_dict_end (knd := strKind W.prog W.w) (kvs := kvs') hh (hlen ▸ ⟨o, ho, hP⟩) (dictOf_ep k' ho') (q'.atN he) k
    · intro i s o E Q hP ho q; exact wpAny_pyIter_keyiter ⟨o, ho, hP⟩ q
noncomputable def strItem (x : Str) (i : Nat) (_ : Mem) : Option (Option V) := some (x.cps[i]?.map fun c => .str ⟨#[c]⟩)
theorem itr_str {target : PySem.Expr} {x : Str} (hh : A.handled = none) : Itr W A target (.str x) mem mem (strItem x) := by
  intro env outer loc R F₀ s x' E S r
  cases r with
  | str _ t =>
    cases ha : x.cps.all (· < 128) with
    | true =>
      obtain ⟨hR, S'⟩ := S.iterNew (o := { cls := .type "str_ascii_iterator", data := .fields #[.str x t, .int 0 0] })
      refine wpAny_pyIter_ascii ha ⟨_, _, feed_raw (fun i o => o.cls = .type "str_ascii_iterator" ∧ o.data = .fields #[.str x t, .int i 0]) ?_ ?_ ?_ ?_, ⟨hR, _, rfl, ⟨rfl, rfl⟩⟩, S'⟩
      · intro i env outer loc mem R F s v o E Q ic hP hi ho S k
        cases hi' : x.cps[i]? with
        | none => unfold strItem at hi; rw [hi'] at hi; cases hi
        | some y =>
          have : V.str ⟨#[y]⟩ = v := by unfold strItem at hi; rw [hi'] at hi; cases hi; rfl
          subst this
          refine wpAny_pyNext_ascii_item ⟨o, ho, hP⟩ hi' fun h' hit sb => ?_
          obtain ⟨o2, h2, hP2⟩ := hit
          exact k _ h' _ o2 (.str _ _) h2 hP2 sb
      · intro i s v' o E Q hP ho q
        exact letGo_plain ho hP.1 hP.2 (by decide) q
      · intro i env outer loc mem R F s o E Q ic hP hi ho S k
        have hi' : x.cps[i]? = none := by
          cases hi' : x.cps[i]? with
          | none => rfl
          | some y => unfold strItem at hi; rw [hi'] at hi; cases hi
        exact wpAny_pyNext_ascii_end hh ⟨o, ho, hP⟩ hi' k
      · intro i s o E Q hP ho q; exact wpAny_pyIter_striter_ascii ⟨o, ho, hP⟩ q
    | false =>
      obtain ⟨hR, S'⟩ := S.iterNew (o := { cls := .type "str_iterator", data := .fields #[.str x t, .int 0 0] })
      refine wpAny_pyIter_wide ha ⟨_, _, feed_raw (fun i o => o.cls = .type "str_iterator" ∧ o.data = .fields #[.str x t, .int i 0]) ?_ ?_ ?_ ?_, ⟨hR, _, rfl, ⟨rfl, rfl⟩⟩, S'⟩
      · intro i env outer loc mem R F s v o E Q ic hP hi ho S k
        cases hi' : x.cps[i]? with
        | none => unfold strItem at hi; rw [hi'] at hi; cases hi
        | some y =>
          have : V.str ⟨#[y]⟩ = v := by unfold strItem at hi; rw [hi'] at hi; cases hi; rfl
          subst this
          refine wpAny_pyNext_wide_item ⟨o, ho, hP⟩ hi' fun h' hit sb => ?_
          obtain ⟨o2, h2, hP2⟩ := hit
          exact k _ h' _ o2 (.str _ _) h2 hP2 sb
      · intro i s v' o E Q hP ho q
        exact letGo_plain ho hP.1 hP.2 (by decide) q
      · intro i env outer loc mem R F s o E Q ic hP hi ho S k
        have hi' : x.cps[i]? = none := by
          cases hi' : x.cps[i]? with
          | none => rfl
          | some y => unfold strItem at hi; rw [hi'] at hi; cases hi
        exact wpAny_pyNext_wide_end hh ⟨o, ho, hP⟩ hi' k
      · intro i s o E Q hP ho q; exact wpAny_pyIter_striter_wide ⟨o, ho, hP⟩ q
end
end Mine
end
section
set_option autoImplicit false
namespace Mine
section
variable {W : Wd} {A : Around} {env : Env} {outer : Outs} {loc : Loc} {mem R : Mem} {E : Ex W} {F : Frz} {s : Shared}
theorem dictOf_of {ds : List DictEntry} {n : Nat} {kvs : List (Str × Value)} (h : (dictOf ds n).IsDictOf (strKind W.prog W.w) kvs) {hp : Heap} {a : Addr} (ha : hp.get? a = some (dictOf ds n)) : hp.DictOf (strKind W.prog W.w) a kvs := by
  obtain ⟨es, ep, hx, hd, hk, hpr, hn⟩ := h
  exact ⟨_, es, ep, ha, hx, hd, hk, hpr, hn⟩
theorem dictOf_back {hp : Heap} {a : Addr} {kvs : List (Str × Value)} (h : hp.DictOf (strKind W.prog W.w) a kvs) : ∃ ds ep, hp.get? a = some (dictOf ds ep) ∧ (dictOf ds ep).IsDictOf (strKind W.prog W.w) kvs := by
  obtain ⟨o, es, ep, ha, hx, hd, hk, hpr, hn⟩ := h
  have e : o = dictOf es.toList ep := by
    obtain ⟨h1, h2, h3⟩ := hx
    cases o
    simp only at h1 h2 h3 hd
    subst h1; subst h2; subst h3; subst hd
    simp [dictOf]
  refine ⟨es.toList, ep, e ▸ ha, es, ep, e ▸ hx, e ▸ hd, hk, hpr, hn⟩
theorem Sim.dict {a : Addr} {es : List (Str × V)} {ep : Nat} (S : Sim W env outer loc mem R F s) (h : mem a = some (.dict es ep)) : ∃ kvs, s.heap.DictOf (strKind W.prog W.w) a kvs ∧ VRp W F es kvs := by
  obtain ⟨o, ho, q⟩ := S.memOk _ _ h
  cases q with
  | dict k q => exact ⟨_, dictOf_of k ho, q⟩
theorem VRp.isSome {es : List (Str × V)} {kvs : List (Str × Value)} (r : VRp W F es kvs) (k : Str) : (valueAt kvs k).isSome = (getA es k).isSome := by
  cases q : getA es k with
  | none => rw [(r.get k).2 q]; rfl
  | some x => obtain ⟨v, e, _⟩ := (r.get k).1 x q; rw [e]; rfl
theorem in_dict {a : Addr} {es : List (Str × V)} {ep : Nat} {k : Str} {Q : V → Loc → Mem → Prop} (hm : mem a = some (.dict es ep)) (h : Q (.bool (getA es k).isSome) loc mem) :
    OpV W A env outer (fun | [x, y] => compareOp .In x y | _ => pure .none) [.str k, .ref a] loc mem Q E := op2 fun R F s v u S r1 r2 => by
  cases r1.view; cases r2.view
  obtain ⟨kvs, hd, q⟩ := S.dict hm
  exact wpAny_in_of (knd := strKind W.prog W.w) (k := k) (strKind_is _ _ k _) (S.not_modules hm) hd.mapOf (Post.mk (.bool _) S.tick (by rw [q.isSome]; exact h))
theorem notin_dict {a : Addr} {es : List (Str × V)} {ep : Nat} {k : Str} {Q : V → Loc → Mem → Prop} (hm : mem a = some (.dict es ep)) (h : Q (.bool (!(getA es k).isSome)) loc mem) :
    OpV W A env outer (fun | [x, y] => compareOp .NotIn x y | _ => pure .none) [.str k, .ref a] loc mem Q E := op2 fun R F s v u S r1 r2 => by
  cases r1.view; cases r2.view
  obtain ⟨kvs, hd, q⟩ := S.dict hm
  exact wpAny_notIn_of (knd := strKind W.prog W.w) (k := k) (strKind_is _ _ k _) (S.not_modules hm) hd.mapOf (Post.mk (.bool _) S.tick (by rw [q.isSome]; exact h))
theorem getItem_dict {a : Addr} {es : List (Str × V)} {ep : Nat} {k : Str} {x : V} {Q : V → Loc → Mem → Prop} (hm : mem a = some (.dict es ep)) (hx : getA es k = some x) (h : Q x loc mem) :
    OpV W A env outer (fun | [x, y] => getItem x y | _ => pure .none) [.ref a, .str k] loc mem Q E := op2 fun R F s v u S r1 r2 => by
  cases r1.view; cases r2.view
  obtain ⟨kvs, hd, q⟩ := S.dict hm
  obtain ⟨u, hu, ru⟩ := (q.get k).1 x hx
  exact wpAny_getItem_of (knd := strKind W.prog W.w) (k := k) (strKind_is _ _ k _) hd.mapOf hu (Post.mk ru S.tick h)
theorem setItem_dict {a : Addr} {es : List (Str × V)} {ep : Nat} {k : Str} {x : V} {Q : Loc → Mem → Prop} (hm : mem a = some (.dict es ep)) (hz : es.length ≤ sizeLine) (h : ∀ ep', Q loc (mset mem a (.dict (stA es k x) ep'))) :
    OpU W A env outer (fun | [x, y, z] => setItem x y z | _ => pure ()) [.ref a, .str k, x] loc mem Q E := op3 fun R F s v u t S r1 r2 r3 => by
  cases r1.view; cases r2.view
  obtain ⟨kvs, hd, q⟩ := S.dict hm
  refine wpAny_setItem_pairs (knd := strKind W.prog W.w) (k := k) (strKind_is _ _ k _) hd (fun h' hd' sb => ?_) (by rw [q.length]; exact hz)
  obtain ⟨ds, ep', ho, hd'⟩ := dictOf_back hd'
  exact Post.mk (x := ()) trivial (S.upd (t := s.toks + 1) (d := s.drawn) hm (fun b ob hb e => (sb.2 b hb).trans e) ho (.dict hd' (q.store k r3))) (h ep')
theorem tr_dict {a : Addr} {es : List (Str × V)} {ep : Nat} {Q : Bool → Loc → Mem → Prop} (hm : mem a = some (.dict es ep)) (hz : (es.length : Int) < 2 ^ 63) (h : Q (!es.isEmpty) loc mem) :
    OpB W A env outer (fun | [x] => truthy x | _ => pure false) [.ref a] loc mem Q E := op1 fun R F s v S r => by
  cases r.view
  obtain ⟨kvs, hd, q⟩ := S.dict hm
  have e : kvs.isEmpty = es.isEmpty := by have := q.length; cases kvs <;> cases es <;> simp_all
  exact wpAny_truthy_dict (knd := strKind W.prog W.w) (S.not_modules hm) hd (by rw [q.length]; exact hz) (Post.mk (by rw [e]) S.tick h)
theorem dict_get2 {a : Addr} {es : List (Str × V)} {ep : Nat} {k : Str} {d : V} {Q : V → Loc → Mem → Prop} (hm : mem a = some (.dict es ep)) (h : Q ((getA es k).getD d) loc mem) :
    OpV W A env outer (fun vs => call (.builtin "dict.get") vs) [.ref a, .str k, d] loc mem Q E := op3 fun R F s v u t S r1 r2 r3 => by
  cases r1.view; cases r2.view
  obtain ⟨kvs, hd, q⟩ := S.dict hm
  refine call_meetsIn PySem.F.slot_dict_get hd.mapOf.typeIs PySem.F.entry_dict_get (PySem.F.args_dict_get_3 _ _ _) (meets_dict_get_default (strKind W.prog W.w) a (k := k) (strKind_is _ _ k _) (S.not_modules hm) t) ⟨_, hd.mapOf, ?_⟩
  cases e : getA es k with
  | none => rw [(q.get k).2 e]; rw [e] at h; exact Post.mk r3 S.tick h
  | some x => obtain ⟨u, hu, ru⟩ := (q.get k).1 x e; rw [hu]; rw [e] at h; exact Post.mk ru S.tick h
theorem e_dict0 {pos : Pos} {Q : V → Loc → Mem → Prop} (h : ∀ a, mem a = none → Q (.ref a) loc (mset mem a (.dict [] 0))) : TrV W A env outer (eval (.Dict [] [] pos) env) loc mem Q E := fun R F s S => by
  refine wpAny_Dict_empty ?_
  have S' := S.alloc (t := s.toks) (d := s.drawn) (x := .dict [] 0) (o' := { cls := .type "dict", data := .dict #[] }) (get?_size s.heap) S.size_le (fun b o e => Heap.get?_push_of_some _ e) (Heap.get?_push_size _ rfl) (by
    have : ({ cls := .type "dict", data := .dict #[] } : Obj) = dictOf [] 0 := rfl
    rw [this]
    exact .dict (kvs := []) ⟨#[], 0, ⟨rfl, rfl, rfl⟩, rfl, fun e he => by simp at he, .nil, by simp⟩ .nil)
  exact Post.mk (.ref _) S' (h _ (S.free (get?_size s.heap)).1)
theorem getItem_missing {Ev : Value → Shared → Prop} {a : Addr} {es : List (Str × V)} {ep : Nat} {k : Str} {v u : Value} {Q : Value → Shared → Prop} (S : Sim W env outer loc mem R F s) (hm : mem a = some (.dict es ep)) (hx : getA es k = none) (hh : A.handled = none) (r1 : VR W F (.ref a) v) (r2 : VR W F (.str k) u)
    (h : ∀ h' e t, Heap.NewExc s.heap h' e "KeyError" → Ev (.ref e) { s with heap := h', toks := t }) : wpAny (model W.prog W.w) A (getItem v u) Q Ev s := by
  cases r1.view; cases r2.view
  obtain ⟨kvs, hd, q⟩ := S.dict hm
  exact wpAny_getItem_missing_of (knd := strKind W.prog W.w) (k := k) (strKind_is _ _ k _) (S.not_modules hm) hh hd.mapOf ((q.get k).2 hx) fun h' e n => h h' e _ n
end
end Mine
end
section
set_option autoImplicit false
namespace Mine
section
variable {W : Wd} {A : Around} {env : Env} {outer : Outs} {loc : Loc} {mem R : Mem} {E : Ex W} {F : Frz} {s : Shared}
noncomputable def TrP (W : Wd) (A : Around) (env : Env) (outer : Outs) (e : Option PySem.Expr) (loc : Loc) (mem : Mem) (Q : Option Int → Loc → Mem → Prop) (E : Ex W) : Prop := match e with
  | none => Q none loc mem
  | some e => TrV W A env outer (eval e env) loc mem (fun v l m => ∃ i, v = .int i ∧ Q (some i) l m) E
theorem TrP.run {e : Option PySem.Expr} {Q : Option Int → Loc → Mem → Prop} (h : TrP W A env outer e loc mem Q E) (S : Sim W env outer loc mem R F s) :
    wpAny (model W.prog W.w) A (evalPart e env) (Post W env outer (fun _ p v => IsPart v p) R F Q) (E.p R F) s := by
  cases e with
  | none => exact wpAny_evalPart_none ⟨F, none, loc, mem, Incl.refl F, .none, S, h⟩
  | some e =>
    refine wpAny_evalPart_some (after (RW := VR W) (Q := fun _ _ _ => True) (h R F s S) fun v' s' F1 v l1 m1 i1 r1 S1 h1 => ?_)
    obtain ⟨i, rfl, q⟩ := h1
    cases r1.view
    exact ⟨F1, some i, l1, m1, i1, .int i _, S1, q⟩
noncomputable def SliceAt (W : Wd) (A : Around) (env : Env) (outer : Outs) (o : V) (lo hi : Option Int) (loc : Loc) (mem : Mem) (Q : V → Loc → Mem → Prop) (E : Ex W) : Prop :=
  ∀ R F s o' l' u' sl, Sim W env outer loc mem R F s → VR W F o o' → IsPart l' lo → IsPart u' hi → s.heap.IsSliceOf sl l' u' .none → wpAny (model W.prog W.w) A (getItem o' (.ref sl)) (Post W env outer (VR W) R F Q) (E.p R F) s
theorem e_slice {value : PySem.Expr} {lower upper : Option PySem.Expr} {p pos : Pos} {Q : V → Loc → Mem → Prop}
    (h : TrV W A env outer (eval value env) loc mem (fun o l m => TrP W A env outer lower l m (fun lo l m => TrP W A env outer upper l m (fun hi l m => ∃ T id, Ty m o T ∧ typeLookup (.type T) "__getitem__" = pure (some (.builtin id)) ∧
      SliceAt W A env outer o lo hi l m Q E) E) E) E) : TrV W A env outer (eval (.Subscript value (.Slice lower upper none p) pos) env) loc mem Q E := fun R F s S => by
  refine Subscript_ (after (RW := VR W) (Q := fun _ _ _ => True) (h R F s S) fun v' s' F1 f l1 m1 i1 r1 S1 h1 => wpAny_Slice ?_)
  refine after (RW := VR W) (Q := fun _ _ _ => True) (h1.run S1) fun l' s2 F2 lo l2 m2 i2 r2 S2 h2 => ?_
  refine after (RW := VR W) (Q := fun _ _ _ => True) (TrP.run h2 S2) fun u' s3 F3 hi l3 m3 i3 r3 S3 h3 => ?_
  refine wpAny_evalPart_none ?_
  obtain ⟨T, id, ty, hl, op⟩ := h3
  have r1' := (r1.mono i2).mono i3
  have S4 := S3.grow (t := s3.toks) (d := s3.drawn) (h' := s3.heap.push { cls := .type "slice", data := .fields #[l', u', .none] }) fun b o e => Heap.get?_push_of_some _ e
  exact PyProof.Rows.tail_any (ty.at S4 r1').1 hl (wpAny_mono (op R F3 _ v' l' u' _ S4 r1' r2 r3 (Heap.IsSliceOf.new _ _ _ _)) (fun _ _ p => p.weaken ((i1.trans i2).trans i3)) fun _ _ e => E.up ((i1.trans i2).trans i3) e) rfl
theorem slice_listL {v : V} {xs : List V} {lo hi : Option Int} {ys : List V} {Q : V → Loc → Mem → Prop} (q : Sq mem v "list" xs) (hz : xs.length ≤ sizeLine)
    (hy : ∀ us : List Value, us.length = xs.length → ∀ F : Frz, VRs W F xs us → VRs W F ys (slicePick us.toArray lo hi none).toList) (h : Q (.lst ys) loc mem) : SliceAt W A env outer v lo hi loc mem Q E := fun R F s o' l' u' sl S r pl pu hs => by
  obtain ⟨a, vs, n, rfl, ho, rs⟩ := q.at S r
  refine wpAny_getItem_list_slice (items := vs) ⟨_, ho, rfl, n, rfl⟩ hs pl pu .none (by simp) ?_ (by rw [rs.size]; exact hz)
  have S' := S.freeze (t := s.toks) (d := s.drawn) (o' := { cls := .type "list", data := .seq (slicePick vs lo hi none) }) (get?_size s.heap) (fun b o e => Heap.get?_push_of_some _ e) (Heap.get?_push_size _ rfl)
  refine ⟨_, .lst ys, loc, mem, Incl.fadd _ _ _, .lst (.inr ⟨rfl, rfl⟩) ?_, S', h⟩
  have := hy vs.toList rs.length _ (rs.mono (Incl.fadd F s.heap.objs.size { cls := .type "list", data := .seq (slicePick vs lo hi none) }))
  simpa using this
theorem pick_from {us : List Value} {k : Nat} (h : k ≤ us.length) : (slicePick us.toArray (some k) none none).toList = us.drop k := by
  have := slicePick_from us.toArray k (by simpa using h); rw [this]
theorem slice_from {v : V} {xs : List V} {k : Nat} {Q : V → Loc → Mem → Prop} (q : Sq mem v "list" xs) (hz : xs.length ≤ sizeLine) (hk : k ≤ xs.length) (h : Q (.lst (xs.drop k)) loc mem) : SliceAt W A env outer v (some (k : Int)) none loc mem Q E :=
  slice_listL q hz (fun us hl F r => by rw [pick_from (by rw [hl]; exact hk)]; exact r.drop k) h
theorem pick_upto {us : List Value} {k : Nat} : (slicePick us.toArray none (some k) none).toList = us.take k := by
  by_cases h : k ≤ us.length
  · have := slicePick_upto us.toArray k (by simpa using h); rw [this]
  · have := slicePick_plain us.toArray none (some (k : Int)); rw [this]
    simp only [Option.elim, List.drop_zero, Nat.sub_zero]
    have : clipAt us.toArray.size (k : Int) = us.length := by
      unfold clipAt; simp; omega
    rw [this]; simp; rw [List.take_of_length_le (by omega)]
theorem slice_upto {v : V} {xs : List V} {k : Nat} {Q : V → Loc → Mem → Prop} (q : Sq mem v "list" xs) (hz : xs.length ≤ sizeLine) (h : Q (.lst (xs.take k)) loc mem) : SliceAt W A env outer v none (some (k : Int)) loc mem Q E :=
  slice_listL q hz (fun us hl F r => by rw [pick_upto]; exact r.take k) h
theorem slice_tup {xs : List V} {k : Nat} {Q : V → Loc → Mem → Prop} (hz : xs.length ≤ sizeLine) (h1 : 1 ≤ k) (hk : k ≤ xs.length) (h : Q (.tup (xs.drop k)) loc mem) : SliceAt W A env outer (.tup xs) (some (k : Int)) none loc mem Q E := fun R F s o' l' u' sl S r pl pu hs => by
  obtain ⟨a, vs, n, rfl, ho, rs⟩ := (Sq.tup (mem := mem) xs).at S r
  cases pl; cases pu
  refine getItem_tuple_from (items := vs) ⟨_, ho, rfl, n, rfl⟩ hs h1 (by rw [rs.size]; exact hk) ?_ (by rw [rs.size]; exact hz)
  have S' := S.freeze (t := s.toks) (d := s.drawn) (o' := { cls := .type "tuple", data := .seq (vs.toList.drop k).toArray }) (get?_size s.heap) (fun b o e => Heap.get?_push_of_some _ e) (Heap.get?_push_size _ rfl)
  refine ⟨_, .tup (xs.drop k), loc, mem, Incl.fadd _ _ _, .tup (.inr ⟨rfl, rfl⟩) ?_, S', h⟩
  have := (rs.mono (Incl.fadd F s.heap.objs.size { cls := .type "tuple", data := .seq (vs.toList.drop k).toArray })).drop k
  simpa using this
noncomputable def rangeObj (a b c : Int) (t u v : Tok) : Obj := { cls := .type "range", data := .fields #[.int a t, .int b u, .int c v] }
theorem range1 {n : Int} {Q : V → Loc → Mem → Prop} (h : ∀ a t u v, mem a = none → Q (.ref a) loc (mset mem a (.raw (rangeObj 0 n 1 t u v)))) :
    OpV W A env outer (fun vs => call (.type "range") vs) [.int n] loc mem Q E := op1 fun R F s v S r => by
  cases r with
  | int _ t =>
  refine call_range_1 ?_
  have S' := S.alloc (t := s.toks + 1 + 1) (d := s.drawn) (x := .raw _) (o' := rangeObj 0 n 1 s.toks t (s.toks + 1)) (get?_size s.heap) S.size_le (fun b o e => Heap.get?_push_of_some _ e) (Heap.get?_push_size _ rfl) .raw
  exact Post.mk (.ref _) S' (h _ _ _ _ (S.free (get?_size s.heap)).1)
noncomputable def rangeItem (k : Int) (n : Nat) (i : Nat) (_ : Mem) : Option (Option V) := some (if i < n then some (.int (k + i)) else none)
theorem itr_range {target : PySem.Expr} {a : Addr} {k : Int} {n : Nat} {t u v : Tok} (hh : A.handled = none) (hm : mem a = some (.raw (rangeObj k (k + n) 1 t u v))) (hsm : Builtin.Range.small k (k + n) 1 = true) : Itr W A target (.ref a) mem mem (rangeItem k n) := by
  intro env outer loc R F₀ s x' E S r
  cases r.view
  obtain ⟨o, ho, q⟩ := S.memOk _ _ hm
  cases q.view
  have hsz : Builtin.Range.rangeSize k (k + n) 1 = n := by
    unfold Builtin.Range.rangeSize; simp; try omega
  obtain ⟨hR, S'⟩ := S.iterNew (o := { cls := .type "range_iterator", data := .fields #[rawInt k, rawInt (Builtin.Range.rangeSize k (k + n) 1), rawInt 1] })
  refine wpAny_pyIter_range (a := k) (b := k + n) (c := 1) (t := t) (u := u) (v := v) ho hsm ⟨_, _, feed_raw (fun i o => o = { cls := .type "range_iterator", dict := none, data := .fields #[rawInt (k + i), rawInt ((n : Int) - i), rawInt 1], slots := #[] }) ?_ ?_ ?_ ?_, ⟨hR, _, rfl, by rw [hsz]; simp⟩, S'⟩
  · intro i env outer loc mem R F s v o E Q ic hP hi ho S k'
    subst hP
    unfold rangeItem at hi
    split at hi
    · rename_i hlt
      cases hi
      refine wpAny_pyNext_range_item (x := k + i) (left := (n : Int) - i) (step := 1) ho (by omega) fun h' hit sb => ?_
      exact k' _ h' _ _ (.int _ _) hit (by simp [Int.add_assoc, Int.sub_sub]) sb
    · cases hi
  · intro i s v' o E Q hP ho q
    subst hP
    exact letGo_plain ho rfl rfl (by decide) q
  · intro i env outer loc mem R F s o E Q ic hP hi ho S k'
    subst hP
    unfold rangeItem at hi
    split at hi
    · cases hi
    · exact wpAny_pyNext_range_end (x := k + i) (left := (n : Int) - i) (step := 1) hh ho (by omega) k'
  · intro i s o E Q hP ho q; subst hP; exact wpAny_pyIter_rangeiter ho q
theorem Sq.reads {v : V} {xs : List V} {n : Nat} {v' : Value} (q : Sq mem v "list" xs) (hd : xs.all (isD n) = true) (S : Sim W env outer loc mem R F s) (r : VR W F v v') : ∃ as, Reads s.heap v' (.list (xs.map (toPy n))) as := by
  obtain ⟨a, vs, k, rfl, ho, rs⟩ := q.at S r
  obtain ⟨as, ra⟩ := reads_all (fun x v a b => VR.reads S.frz a b) hd rs
  exact ⟨_, .list ho rfl rfl ra⟩
theorem countIn_nonneg (d : PyData) (ds : List PyData) : 0 ≤ Spec.countIn d ds := by
  induction ds with
  | nil => exact Int.le_refl 0
  | cons e ds ih => unfold Spec.countIn; split <;> omega
theorem countIn_pos {n : Nat} {x : V} {xs : List V} (hx : isD n x = true) (hxs : xs.all (isD n) = true) : decide (Spec.countIn (toPy n x) (xs.map (toPy n)) ≠ 0) = true ↔ x ∈ xs := by
  rw [decide_eq_true_iff]
  induction xs with
  | nil => simp [Spec.countIn]
  | cons y ys ih =>
    rw [List.all_cons, Bool.and_eq_true] at hxs
    have e := same_iff hxs.1 hx
    have nn := countIn_nonneg (toPy n x) (ys.map (toPy n))
    have ih := ih hxs.2
    rw [List.map_cons, Spec.countIn, List.mem_cons]
    by_cases q : y = x
    · rw [if_pos (e.mpr q)]
      exact ⟨fun _ => .inl q.symm, fun _ => by omega⟩
    · rw [if_neg (fun z => q (e.mp z)), Int.zero_add, ih]
      exact ⟨.inr, fun z => z.resolve_left fun z => q z.symm⟩
theorem in_list {v : V} {x : V} {xs : List V} {n : Nat} {Q : V → Loc → Mem → Prop} (q : Sq mem v "list" xs) (hx : isD n x = true) (hxs : xs.all (isD n) = true) (hn : n < 64) (hu : A.units + 65 < cLine)
    (h : ∀ b : Bool, (b = true ↔ x ∈ xs) → Q (.bool b) loc mem) : OpV W A env outer (fun | [x, y] => compareOp .In x y | _ => pure .none) [x, v] loc mem Q E := op2 fun R F s x' v' S r1 r2 => by
  obtain ⟨as, ra⟩ := r1.reads S.frz hx
  obtain ⟨bs, rb⟩ := q.reads hxs S r2
  exact in_list_dataH rb ra (all_shaped hxs hn).1 (isD_shaped hx (by omega)) hu (fun y hy => by obtain ⟨z, hz, rfl⟩ := List.mem_map.mp hy; exact isD_noMix (List.all_eq_true.mp hxs z hz) hx) (Post.mk (.bool _) S (h _ (countIn_pos hx hxs)))
theorem notin_list {v : V} {x : V} {xs : List V} {n : Nat} {Q : V → Loc → Mem → Prop} (q : Sq mem v "list" xs) (hx : isD n x = true) (hxs : xs.all (isD n) = true) (hn : n < 64) (hu : A.units + 65 < cLine)
    (h : ∀ b : Bool, (b = true ↔ x ∈ xs) → Q (.bool (!b)) loc mem) : OpV W A env outer (fun | [x, y] => compareOp .NotIn x y | _ => pure .none) [x, v] loc mem Q E := op2 fun R F s x' v' S r1 r2 => by
  obtain ⟨as, ra⟩ := r1.reads S.frz hx
  obtain ⟨bs, rb⟩ := q.reads hxs S r2
  exact notIn_list_dataH rb ra (all_shaped hxs hn).1 (isD_shaped hx (by omega)) hu (fun y hy => by obtain ⟨z, hz, rfl⟩ := List.mem_map.mp hy; exact isD_noMix (List.all_eq_true.mp hxs z hz) hx) (Post.mk (.bool _) S (h _ (countIn_pos hx hxs)))
theorem tuple_list {v : V} {xs : List V} {Q : V → Loc → Mem → Prop} (q : Sq mem v "list" xs) (hz : xs.length ≤ sizeLine) (h : Q (.tup xs) loc mem) : OpV W A env outer (fun vs => call (.type "tuple") vs) [v] loc mem Q E := op1 fun R F s v' S r => by
  obtain ⟨a, vs, n, rfl, ho, rs⟩ := q.at S r
  refine call_tuple_list (items := vs) ⟨_, ho, rfl, n, rfl⟩ (fun h' hk => ?_) (by rw [rs.size]; exact hz)
  have S1 := S.grow (t := s.toks) (d := s.drawn) hk
  have S' := S1.freeze (t := s.toks) (d := s.drawn) (o' := { cls := .type "tuple", data := .seq vs }) (get?_size h') (fun b o e => Heap.get?_push_of_some _ e) (Heap.get?_push_size _ rfl)
  exact ⟨_, .tup xs, loc, mem, Incl.fadd _ _ _, .tup (.inr ⟨rfl, rfl⟩) (rs.mono (Incl.fadd _ _ _)), S', h⟩
theorem add_tt {xs ys : List V} {Q : V → Loc → Mem → Prop} (hz : xs.length + ys.length ≤ sizeLine) (h : Q (.tup (xs ++ ys)) loc mem) : OpV W A env outer (fun | [x, y] => binaryOp .Add x y | _ => pure .none) [.tup xs, .tup ys] loc mem Q E := op2 fun R F s v u S r1 r2 => by
  obtain ⟨m, hn, l⟩ := S.ns
  obtain ⟨a, vs, n, rfl, ho, rs⟩ := (Sq.tup (mem := mem) xs).at S r1
  obtain ⟨b, ws, n2, rfl, ho2, rs2⟩ := (Sq.tup (mem := mem) ys).at S r2
  obtain ⟨vl, rfl⟩ : ∃ l, vs = List.toArray l := ⟨vs.toList, by simp⟩
  obtain ⟨wl, rfl⟩ : ∃ l, ws = List.toArray l := ⟨ws.toList, by simp⟩
  have rs' : VRs W F xs vl := by simpa using rs
  have rs2' : VRs W F ys wl := by simpa using rs2
  refine add_tuples (S.fr hn) S.newsL (vs := vl) (ws := wl) ⟨_, ho, rfl, n, rfl⟩ ⟨_, ho2, rfl, n2, rfl⟩ (fun e => ?_) (fun _ e => ?_) (fun _ _ h' F' N' => ?_) (by rw [rs'.length, rs2'.length]; exact hz)
  · subst e; cases rs'; exact Post.mk r2 S h
  · subst e; cases rs2'; rw [List.append_nil] at h; exact Post.mk r1 S h
  · have lt : ∀ q ∈ ledger W.hb s.heap env.locals env.locals, q.1 < s.heap.objs.size := fun q hq => Heap.lt_size (mem_ledger.mp hq).1
    have S1 := S.keepN (t := s.toks) (d := s.drawn) l F' fun p hp => (N' p (.tail _ hp)).1
    have hD := (N' _ (.head _)).1
    obtain ⟨f1, f2⟩ := S.free (get?_size s.heap)
    have nd := S.z.free_of_none (get?_size s.heap)
    have fz : Sim W env outer loc mem R (fadd F s.heap.objs.size { cls := .type "tuple", data := .seq (vl ++ wl).toArray }) { s with heap := h' } := by
      refine ⟨S1.dis, ?_⟩
      have Z := S1.z
      exact {
        frz := fun b o e => by rcases e with e | ⟨rfl, rfl⟩; exact Z.frz b o e; exact hD
        base := fun b o e => .inl (Z.base b o e)
        memF := fun b o e => by rcases e with e | ⟨rfl, rfl⟩; exact Z.memF b o e; exact nd.1
        memOk := fun b y e => let ⟨o, e', q⟩ := Z.memOk b y e; ⟨o, e', q.mono (Incl.fadd _ _ _)⟩
        ns := let ⟨m, z, b⟩ := Z.ns; ⟨m, z, LocRel.mono (Incl.fadd _ _ _) b⟩
        nsF := ⟨fun o e => by rcases e with e | ⟨e, rfl⟩; exact Z.nsF.1 o e; exact nd.2.2.1 e.symm, Z.nsF.2⟩
        outs := fun q hq => by
          obtain ⟨z, b, c, e⟩ := Z.outs q hq
          exact ⟨z, fun o e => by rcases e with e | ⟨e, rfl⟩; exact b o e; exact nd.2.2.2 q hq e, c, e⟩
        low := Z.low
        memLow := Z.memLow
        gens := Z.gens
        os := Z.os }
    exact ⟨_, .tup (xs ++ ys), loc, mem, Incl.fadd _ _ _, .tup (.inr ⟨rfl, rfl⟩) (by simpa using (rs'.mono (Incl.fadd _ _ _)).app (rs2'.mono (Incl.fadd _ _ _))), fz, h⟩
theorem Sq.isL {v : V} {xs : List V} {v' : Value} (q : Sq mem v "list" xs) (S : Sim W env outer loc mem R F s) (r : VR W F v v') : ∃ a vs n, v' = .ref a ∧ IsL s.heap a vs n ∧ VRs W F xs vs.toList := by
  obtain ⟨a, vs, n, rfl, ho, rs⟩ := q.at S r
  exact ⟨a, vs, n, rfl, by exact ho, rs⟩
theorem add_own {v u : V} {xs ys : List V} {Q : V → Loc → Mem → Prop} (q : Sq mem v "list" xs) (q' : Sq mem u "list" ys) (hz : xs.length + ys.length ≤ sizeLine) (h : ∀ a, mem a = none → Q (.ref a) loc (mset mem a (.list (xs ++ ys)))) :
    OpV W A env outer (fun | [x, y] => binaryOp .Add x y | _ => pure .none) [v, u] loc mem Q E := op2 fun R F s v' u' S r1 r2 => by
  obtain ⟨a, vs, n, rfl, ho, rs⟩ := q.isL S r1
  obtain ⟨b, ws, n2, rfl, ho2, rs2⟩ := q'.isL S r2
  refine P.add_list ho ho2 ?_ (by rw [rs.size, rs2.size]; exact hz)
  have S' := S.alloc (t := s.toks) (d := s.drawn) (x := .list (xs ++ ys)) (o' := { cls := .type "list", data := .seq (vs ++ ws) }) (get?_size s.heap) S.size_le (fun b o e => Heap.get?_push_of_some _ e) (Heap.get?_push_size _ rfl) (.list (by simpa using rs.app rs2))
  exact Post.mk (.ref _) S' (h _ (S.free (get?_size s.heap)).1)
end
end Mine
end
section
set_option autoImplicit false
namespace Mine
section
variable {W : Wd} {A : Around} {env : Env} {outer : Outs} {loc : Loc} {mem R : Mem} {E : Ex W} {F : Frz} {s : Shared}
theorem mset_mset (m : Mem) (a : Addr) (x y : AObj) : mset (mset m a x) a y = mset m a y := by funext b; unfold mset; split <;> simp_all
theorem mset_eq {m : Mem} {a : Addr} {x : AObj} (h : m a = some x) : mset m a x = m := by
  funext b; unfold mset; split
  · rename_i e; rw [e, h]
  · rfl
theorem Sim.fromR {D : Addr} {x : AObj} (S : Sim W env outer loc mem (mset R D x) F s) (hR : R D = none) : Sim W env outer loc (mset mem D x) R F s := by
  have hm : mem D = none := by
    cases q : mem D with
    | none => rfl
    | some y => have := S.dis D y q; rw [mset_self] at this; cases this
  refine ⟨fun b y e => ?_, ?_⟩
  · unfold mset at e
    split at e
    · rename_i q; rw [q]; exact hR
    · rename_i q
      have := S.dis b y e
      rw [mset_ne q] at this; exact this
  · have z := S.z
    rw [← mset_munR hm, mset_mun] at z
    exact z
theorem Sim.offM {D : Addr} {x : AObj} (S : Sim W env outer loc mem (mset R D x) F s) : mem D = none := by
  cases q : mem D with
  | none => rfl
  | some y => have := S.dis D y q; rw [mset_self] at this; cases this
theorem Sim0.swap {env' : Env} {m m' : Str → Option Value} {loc' : Loc} {mem' : Mem} {F' : Frz} {s' : Shared} (S : Sim0 W env outer loc mem F s) (l : LocRel W F loc m) (i : Incl F F')
    (S' : Sim0 W env' ((env.locals, m) :: outer) loc' mem' F' s') (hn : s'.heap.Ns env'.locals m') : Sim0 W env ((env'.locals, m') :: outer) loc mem' F' s' where
  frz := S'.frz
  base := S'.base
  memF := S'.memF
  memOk := S'.memOk
  ns := ⟨m, (S'.outs _ (.head _)).1, l.mono i⟩
  nsF := ⟨(S'.outs _ (.head _)).2.1, (S'.outs _ (.head _)).2.2.1⟩
  outs q hq := by
    rcases List.mem_cons.mp hq with rfl | hq
    · exact ⟨hn, S'.nsF.1, S'.nsF.2, Ne.symm (S'.outs _ (.head _)).2.2.2⟩
    · obtain ⟨z, b, c, _⟩ := S'.outs q (.tail _ hq); exact ⟨z, b, c, (S.outs q hq).2.2.2⟩
  low := S.low
  memLow := S'.memLow
  gens := S'.gens
  os := S'.os
theorem Sim0.dropOut {q : Addr × (Str → Option Value)} {h' : Heap} {t : Nat} (S : Sim0 W env (q :: outer) loc mem F s) (ho : ∀ p ∈ outer, p.1 ≠ q.1) (hs : Heap.SameBut q.1 s.heap h') : Sim0 W env outer loc mem F { s with heap := h', toks := t } := by
  obtain ⟨z, b, c, n⟩ := S.outs q (.head _)
  have up : ∀ {a o}, F a o → a ≠ q.1 := fun h e => b _ (e ▸ h)
  have um : ∀ {a x}, mem a = some x → a ≠ q.1 := fun h e => by rw [e, c] at h; cases h
  exact {
    frz := fun a o h => (hs.2 a (up h)).trans (S.frz a o h)
    base := S.base
    memF := S.memF
    memOk := fun a x h => let ⟨o, e, r⟩ := S.memOk a x h; ⟨o, (hs.2 a (um h)).trans e, r⟩
    ns := let ⟨m, z', l⟩ := S.ns; ⟨m, z'.sameBut hs (Ne.symm n), l⟩
    nsF := S.nsF
    outs := fun p hp => let ⟨z', b', c', n'⟩ := S.outs p (.tail _ hp); ⟨z'.sameBut hs (ho p hp), b', c', n'⟩
    low := S.low
    memLow := S.memLow
    gens := S.gens
    os := S.os }
inductive CompEnd (W : Wd) (env : Env) (outer : Outs) (loc : Loc) (R : Mem) (F : Frz) (Q : V → Loc → Mem → Prop) (acc : Value) (C : Addr) (s' : Shared) : Prop
  | intro (F' : Frz) (mem' : Mem) (D : Addr) (m' : Str → Option Value) (h1_ : acc = .ref D) (h2_ : Incl F F') (h3_ : ∀ p ∈ outer, p.1 ≠ C) (h4_ : Sim W env ((C, m') :: outer) loc mem' R F' s') (h5_ : Q (.ref D) loc mem')
noncomputable def CompTurn (W : Wd) (A : Around) (env : Env) (outer : Outs) (ifs : List PySem.Expr) (elt : PySem.Expr) (loc : Loc) (mem : Mem) (Q : Option V → Mem → Prop) : Prop := match ifs with
  | [] => TrV W A env outer (eval elt env) loc mem (fun y _ m => Q (some y) m) Ex.no
  | [c] => TrB W A env outer (isTrue c env (eval c env)) loc mem (fun b l m => (b = true → TrV W A env outer (eval elt env) l m (fun y _ m => Q (some y) m) Ex.no) ∧ (b = false → Q none m)) Ex.no
  | _ => False
theorem comp_loop {elt target iter : PySem.Expr} {ifs : List PySem.Expr} {scope : Scope} {pos : Pos} {it acc : Value} {env : Env} {R : Result → Shared → Prop} (I : Nat → Shared → Prop)
    (turn : ∀ n s, I n s → wpAny (model W.prog W.w) A (pyNext it) (fun r s₁ => match r with
      | none => R (.ok .next) s₁
      | some v => wpAny (model W.prog W.w) A (letOwnedTupleGo target it v) (fun _ s₀ => wpAny (model W.prog W.w) A (assign target env v) (fun _ s₂ =>
          wpAny (model W.prog W.w) A (forIn ifs true fun c r => if r = true then do let ok ← isTrue c env (eval c env); pure (ForInStep.yield ok) else pure (ForInStep.yield r)) (fun ok s₃ => if ok = true then wpAny (model W.prog W.w) A (eval elt env) (fun x s₄ =>
            wpAny (model W.prog W.w) A (call (.builtin "list.append") [acc, x]) (fun _ s₅ => ∃ m, m < n ∧ I m s₅) (fun _ _ => False) s₄) (fun _ _ => False) s₃
            else ∃ m, m < n ∧ I m s₃) (fun _ _ => False) s₂) (fun _ _ => False) s₀) (fun _ _ => False) s₁) (fun _ _ => False) s)
    (n : Nat) (h : I n s) : codeAny (model W.prog W.w) A (.compLoop (.ListComp elt [⟨target, iter, ifs, 0⟩] scope pos) 0 it acc env) R s := by
  refine codeAny_loop rfl I (fun n s hI => ?_) n h
  show wpAny _ A ((compTurn (.ListComp elt [⟨target, iter, ifs, 0⟩] scope pos) 0 it acc env).onRaise (fun x => do noteFrame x env; theTreesLotGoes x)) _ _ s
  refine wpAny_noted ?_
  rw [compTurn_list]
  refine wpAny_bind (wpAny_standAt (wpAny_bind (wpAny_mono (turn n s hI) (fun r s₁ h₁ => ?_) fun _ _ f => f.elim)))
  cases r with
  | none => exact wpAny_pure h₁
  | some v =>
    refine wpAny_bind (wpAny_mono h₁ (fun _ s₀ h₀' => ?_) fun _ _ f => f.elim)
    refine wpAny_bind (wpAny_mono h₀' (fun _ s₂ h₂ => ?_) fun _ _ f => f.elim)
    refine wpAny_bind (wpAny_mono h₂ (fun okb s₃ h₃ => ?_) fun _ _ f => f.elim)
    cases okb with
    | false => exact wpAny_pure ⟨rfl, h₃⟩
    | true => exact wpAny_bind (wpAny_bind (wpAny_mono h₃ (fun x s₄ h₄ => wpAny_bind (wpAny_mono h₄ (fun _ s₅ h₅ => wpAny_pure (wpAny_pure ⟨rfl, h₅⟩)) fun _ _ f => f.elim)) fun _ _ f => f.elim))
inductive CoreI (W : Wd) (env : Env) (outer : Outs) (F : Frz) (R : Mem) (D : Addr) (st : Nat → Mem → Mem → Prop) (I : Nat → Nat → List V → Mem → Prop) (n : Nat) (s : Shared) : Prop
  | intro (i : Nat) (F' : Frz) (ys : List V) (R1 : Mem) (l : Loc) (m : Mem) (h1_ : Incl F F') (h2_ : st i (mset R D (.list ys)) R1) (h3_ : Sim W env outer l m R1 F' s) (h4_ : I n i ys m)
theorem comp_core {E0 : Value → Shared → Prop} {mem₀ : Mem} {elt target iter : PySem.Expr} {ifs : List PySem.Expr} {scope : Scope} {cl : List (Str × Addr)} {pos : Pos} {x : V} {item : Nat → Mem → Option (Option V)} {Q : V → Loc → Mem → Prop} {x' : Value} {RR : Value → Addr → Result → Shared → Prop}
    (hcell : ∀ y ∈ scope.names, y.2 ≠ .cell) (hkind : scope.kind = .function) (hx : Itr W A target x mem mem₀ item) (I : Nat → Nat → List V → Mem → Prop) (hz : ∀ k i ys m, I k i ys m → ys.length ≤ sizeLine)
    (turn : ∀ (C : Addr) (outer' : Outs) k i ys m l, I k i ys m → item i m ≠ none ∧ (item i m = some none → ∀ D, m D = none → ∃ m', (∀ a x, m' a = some x → mset m D (.list ys) a = some x) ∧ Q (.ref D) loc m') ∧
      ∀ v, item i m = some (some v) → Op W A (compEnvC scope cl C env) outer' (fun _ (_ _ : Unit) => True) (fun | [y] => assign target (compEnvC scope cl C env) y | _ => pure ()) [v] l m (fun _ l m =>
        CompTurn W A (compEnvC scope cl C env) outer' ifs elt l m (fun y m => match y with
          | some y => ∃ k', k' < k ∧ I k' (i + 1) (ys ++ [y]) m
          | none => ∃ k', k' < k ∧ I k' (i + 1) ys m)) Ex.no)
    (k : Nat) (h : I k 0 [] mem₀) (S : Sim W env outer loc mem R F s) (r : VR W F x x') (hRR : ∀ acc C s', CompEnd W env outer loc R F Q acc C s' → RR acc C (.ok .next) s') :
    wpAny (model W.prog W.w) A (pyIter x') (fun it s₂ => wpAny (model W.prog W.w) A (newList []) (fun acc s₃ =>
      wpAny (model W.prog W.w) A (newFunctionEnv scope env.globals cl [] env.qual none .none (some env)) (fun cenv s₄ =>
        codeAny (model W.prog W.w) A (.compStart (.ListComp elt [⟨target, iter, ifs, 0⟩] scope pos) 0 it acc { cenv with scope := relabel scope env }) (RR acc cenv.locals) s₄) E0 s₃) E0 s₂) E0 s := by
  refine wpAny_mono (hx E0 S r) (fun it s₂ h2 => ?_) fun _ _ e => e
  obtain ⟨st, R', fd, h0, S2⟩ := h2
  refine wpAny_newObj_type (wpAny_newFunctionEnv hcell (by intro y hy; simp at hy) (fun h₁ hns₁ hsb₁ => ?_) hkind)
  dsimp only at hns₁ hsb₁ ⊢
  generalize hD : s₂.heap.objs.size = D at *
  have fD : s₂.heap.get? D = none := hD ▸ get?_size _
  obtain ⟨fm, fR⟩ := S2.free fD
  have fR0 : R D = none := by
    cases q : R D with
    | none => rfl
    | some y => have := fd.same (D := D) h0 (by rw [q]; exact fun e => nomatch e); rw [fR, q] at this; cases this
  generalize hH2 : s₂.heap.push { cls := .type "list", dict := none, data := .seq ([] : List Value).toArray } = H2 at hns₁ hsb₁ ⊢
  have S3 := S2.allocR (t := s₂.toks) (d := s₂.drawn) (x := .list []) (o' := { cls := .type "list", dict := none, data := .seq ([] : List Value).toArray }) fD (hD ▸ S2.size_le)
    (h' := H2) (fun b o e => hH2 ▸ Heap.get?_push_of_some _ e) (by rw [← hH2, ← hD]; exact Heap.get?_push_size _ rfl) (.list .nil)
  have st3 : st 0 (mset R D (.list [])) (mset R' D (.list [])) := fd.frame _ h0 (by rw [fR, fR0])
  generalize hC : H2.objs.size = C at *
  obtain ⟨m, hnm, lm⟩ := S3.z.ns
  have S4 : Sim W (compEnvC scope cl C env) ((env.locals, m) :: outer) [] mem₀ (mset R' D (.list [])) F { s₂ with heap := h₁, toks := s₂.toks + ([] : List (Str × Value)).length } :=
    ⟨S3.dis, S3.z.enter (s := { s₂ with heap := H2 }) (m' := fun x => ([] : List (Str × Value)).reverse.lookup x) hnm hC.symm rfl hns₁ (fun b o e => hsb₁.extBut b o (fun q => by
      have := Heap.lt_size e; rw [q, ← hC] at this; exact Nat.lt_irrefl _ this) (Heap.get?_push_of_some _ e)) (fun x v e => by cases e)⟩
  have oC : ∀ p ∈ outer, p.1 ≠ C := fun p hp e => by
    have := (S4.z.outs p (.tail _ hp)).2.2.2; exact this e
  have loop : codeAny (model W.prog W.w) A (.compLoop (.ListComp elt [⟨target, iter, ifs, 0⟩] scope pos) 0 it (.ref D) (compEnvC scope cl C env)) (RR (.ref D) C) { s₂ with heap := h₁, toks := s₂.toks + ([] : List (Str × Value)).length } := by
    refine comp_loop (CoreI W (compEnvC scope cl C env) ((env.locals, m) :: outer) F R D st I) (fun n s hI => ?_) k ⟨0, F, [], _, [], mem₀, Incl.refl F, st3, S4, h⟩
    obtain ⟨i, F', ys, R1, l, m', ic, hst, S', hI⟩ := hI
    obtain ⟨t1, t2, t3⟩ := turn C ((env.locals, m) :: outer) n i ys m' l hI
    cases hit : item i m' with
    | none => exact absurd hit t1
    | some w =>
      cases w with
      | none =>
        refine wpAny_mono (fd.done _ ic hst hit S') (fun r s1 h1 => ?_) fun _ _ e => e
        obtain ⟨rfl, S1⟩ := h1
        refine hRR _ _ _ ?_
        obtain ⟨mc, hnc, _⟩ := S1.z.ns
        have z := S.z.swap lm ic S1.z hnc
        have S5 : Sim W env ((C, mc) :: outer) loc m' (mset R D (.list ys)) F' s1 := ⟨S1.dis, z⟩
        obtain ⟨m2, hm2, q2⟩ := t2 hit D S5.offM
        exact ⟨F', m2, D, mc, rfl, ic, oC, (S5.fromR fR0).drop hm2, q2⟩
      | some v =>
        refine wpAny_mono (fd.next _ ic hst hit S') (fun r s1 h1 => ?_) fun _ _ e => e
        obtain ⟨v', rfl, h1⟩ := h1
        refine wpAny_mono h1 (fun _ s2 h2 => ?_) fun _ _ e => e
        obtain ⟨F2, R2, i2, r2, hst2, S2'⟩ := h2
        refine after' (RW := VR W) (Q := fun _ _ _ => True) (t3 v hit R2 F2 s2 [v'] S2' (.cons r2 .nil)) (fun _ _ z => z) fun _ s3 F3 _ l3 m3 i3 _ S3' h3 => ?_
        have elts : ∀ (F4 : Frz) (l4 : Loc) (m4 : Mem) (s4 : Shared), Incl F' F4 → Sim W (compEnvC scope cl C env) ((env.locals, m) :: outer) l4 m4 R2 F4 s4 → TrV W A (compEnvC scope cl C env) ((env.locals, m) :: outer) (eval elt (compEnvC scope cl C env)) l4 m4 (fun y _ m => ∃ k', k' < n ∧ I k' (i + 1) (ys ++ [y]) m) Ex.no →
            wpAny (model W.prog W.w) A (eval elt (compEnvC scope cl C env)) (fun x s₄ => wpAny (model W.prog W.w) A (call (.builtin "list.append") [.ref D, x]) (fun _ s₅ => ∃ m', m' < n ∧ CoreI W (compEnvC scope cl C env) ((env.locals, m) :: outer) F R D st I m' s₅) (fun _ _ => False) s₄) (fun _ _ => False) s4 := fun F4 l4 m4 s4 i4 S4 he => by
          refine after' (RW := VR W) (Q := fun _ _ _ => True) (he R2 F4 s4 S4) (fun _ _ z => z) fun y' s5 F5 y l5 m5 i5 r5 S5 h5 => ?_
          obtain ⟨k', hk', hI'⟩ := h5
          have e2 : R2 D = some (.list ys) := by rw [fd.same hst2 (by rw [mset_self]; exact fun e => nomatch e), mset_self]
          have e3 := mset_eq e2
          rw [← e3] at S5
          obtain ⟨o, ho, ro⟩ := S5.atR
          cases ro.view with
          | @list vs nn q =>
            refine append_at ho (fun h' hs ho' => ?_) (by rw [q.size]; exact hz _ _ _ _ hI)
            have S6 := S5.updR (t := s5.toks) (d := s5.drawn) (x' := .list (ys ++ [y])) (fun b ob hb e => (hs.2 b hb).trans e) ho' (.list (by simpa using q.app (.cons r5 .nil)))
            refine ⟨k', hk', i + 1, F5, ys ++ [y], _, l5, m5, (ic.trans i4).trans i5, ?_, S6, hI'⟩
            have := fd.frame (D := D) (.list (ys ++ [y])) hst2 (by rw [e2, mset_self])
            rwa [mset_mset] at this
        match ifs, h3 with
        | [], h3 =>
          refine wpAny_tests_nil ?_
          rw [if_pos rfl]
          exact elts F3 l3 m3 s3 (i2.trans i3) S3' h3
        | [c], h3 =>
          refine wpAny_tests_one (after' (RW := VR W) (Q := fun _ _ _ => True) (h3 R2 F3 s3 S3') (fun _ _ z => z) fun b' s4 F4 b l4 m4 i4 r4 S4' h4 => ?_)
          subst r4
          cases b' with
          | true => rw [if_pos rfl]; exact elts F4 l4 m4 s4 ((i2.trans i3).trans i4) S4' (h4.1 rfl)
          | false =>
            rw [if_neg Bool.false_ne_true]
            obtain ⟨k', hk', hI'⟩ := h4.2 rfl
            exact ⟨k', hk', i + 1, F4, ys, R2, l4, m4, ((ic.trans i2).trans i3).trans i4, hst2, S4', hI'⟩
        | _ :: _ :: _, h3 => exact h3.elim
  exact codeAny_compStart_list loop (fd.self _ _ st3 S4 loop)
inductive CompOk (W : Wd) (A : Around) (env : Env) (elt target : PySem.Expr) (ifs : List PySem.Expr) (scope : Scope) (cl : List (Str × Addr)) (loc : Loc) (mem : Mem) (x : V) (Q : V → Loc → Mem → Prop) : Prop
  | mk (item : Nat → Mem → Option (Option V)) (mem₀ : Mem) (itr : Itr W A target x mem mem₀ item) (I : Nat → Nat → List V → Mem → Prop) (size : ∀ k i ys m, I k i ys m → ys.length ≤ sizeLine)
    (turn : ∀ (C : Addr) (outer' : Outs) k i ys m l, I k i ys m → item i m ≠ none ∧ (item i m = some none → ∀ D, m D = none → ∃ m', (∀ a x, m' a = some x → mset m D (.list ys) a = some x) ∧ Q (.ref D) loc m') ∧
      ∀ v, item i m = some (some v) → Op W A (compEnvC scope cl C env) outer' (fun _ (_ _ : Unit) => True) (fun | [y] => assign target (compEnvC scope cl C env) y | _ => pure ()) [v] l m (fun _ l m =>
        CompTurn W A (compEnvC scope cl C env) outer' ifs elt l m (fun y m => match y with
          | some y => ∃ k', k' < k ∧ I k' (i + 1) (ys ++ [y]) m
          | none => ∃ k', k' < k ∧ I k' (i + 1) ys m)) Ex.no) (k : Nat) (init : I k 0 [] mem₀)
theorem e_listcomp {elt target iter : PySem.Expr} {ifs : List PySem.Expr} {scope : Scope} {cl : List (Str × Addr)} {pos : Pos} {Q : V → Loc → Mem → Prop}
    (hclos : closureFor scope env = pure cl) (hcell : ∀ y ∈ scope.names, y.2 ≠ .cell) (hkind : scope.kind = .function)
    (hnames : ∀ y ∈ scope.names, y.2 = .local → scope.names.lookup y.1 = some .local) (hs : ∀ x, foldedSetIterable iter env x = pure x)
    (h : TrV W A env outer (eval iter env) loc mem (fun x l m => CompOk W A env elt target ifs scope cl l m x Q) E) :
    TrV W A env outer (eval (.ListComp elt [⟨target, iter, ifs, 0⟩] scope pos) env) loc mem Q E := fun R F s S => by
  rw [eval_ListComp]
  refine wpAny_comprehension_free (use := none) rfl hs hclos hkind hnames (after (RW := VR W) (Q := fun _ _ _ => True) (h R F s S) fun x' s1 F1 x l1 m1 i1 r1 S1 h1 => ?_)
  obtain ⟨item, mem₀, itr, I, size, turn, k, init⟩ := h1
  refine comp_core (RR := fun acc C => compPost (model W.prog W.w) A (E.p R F) none (Post W env outer (VR W) R F Q) acc C) hcell hkind itr I size turn k init S1 r1 fun acc C s' he => ?_
  obtain ⟨F', mem', D, m', rfl, i', oC, S', q⟩ := he
  refine ⟨m', (S'.z.outs _ (.head _)).1, fun h' hs' => ⟨F', .ref D, l1, mem', i1.trans i', .ref D, ⟨S'.dis, S'.z.dropOut (t := s'.toks) oC hs'⟩, q⟩⟩
theorem s_assign_listcomp {elt target iter : PySem.Expr} {ifs : List PySem.Expr} {scope : Scope} {cl : List (Str × Addr)} {pos py spos : Pos} {y : Str} {Q : Fl → Loc → Mem → Prop}
    (hsw : swapsWith (.ListComp elt [⟨target, iter, ifs, 0⟩] scope pos) (some (.Name y py)) spos.line env = pure true)
    (hclos : closureFor scope env = pure cl) (hcell : ∀ y ∈ scope.names, y.2 ≠ .cell) (hkind : scope.kind = .function)
    (hnames : ∀ y ∈ scope.names, y.2 = .local → scope.names.lookup y.1 = some .local) (hy : env.kindOf y = some .local) (hp : (env.scope.kind == .class || (env.scope.kind == .module && env.locals != env.globals)) = false)
    (hs : ∀ x, foldedSetIterable iter env x = pure x)
    (h : TrV W A env outer (eval iter env) loc mem (fun x l m => CompOk W A env elt target ifs scope cl l m x (fun v l m => Q .next (setL y v l) m)) E) :
    TrS W A env outer (exec (.Assign [.Name y py] (.ListComp elt [⟨target, iter, ifs, 0⟩] scope pos) spos) env) loc mem Q E := fun R F s S => by
  rw [exec_Assign_Name_used _ _ _ _ hsw]
  refine wpAny_bind (wpAny_standAt (wpAny_bind ?_))
  show wpAny _ A (do let _ ← comprehension (.ListComp elt [⟨target, iter, ifs, 0⟩] scope pos) scope env _ (newList []) false (eval iter env) (some (assign (.Name y py) env))) _ _ s
  refine wpAny_bind (wpAny_mono (wpAny_comprehension_free (use := some (assign (.Name y py) env)) (Q := fun _ s' => Post W env outer (FR W) R F Q .next s') rfl hs hclos hkind hnames
    (after (RW := VR W) (Q := fun _ _ _ => True) (h R F s S) fun x' s1 F1 x l1 m1 i1 r1 S1 h1 => ?_)) (fun _ s' hq => wpAny_pure (wpAny_pure hq)) fun _ _ e => e)
  obtain ⟨item, mem₀, itr, I, size, turn, k, init⟩ := h1
  refine comp_core (Q := fun v l m => Q .next (setL y v l) m) (RR := fun acc C => compPost (model W.prog W.w) A (E.p R F) (some (assign (.Name y py) env)) (fun _ s' => Post W env outer (FR W) R F Q .next s') acc C) hcell hkind itr I size turn k init S1 r1 fun acc C s' he => ?_
  obtain ⟨F', mem', D, m', rfl, i', oC, S', q⟩ := he
  refine wpAny_assign_Name (after (RW := fun _ (_ _ : Unit) => True) (Q := fun _ _ _ => True) (st_local (A := A) (E := E) (v := .ref D) (Q := fun l m => Q .next l m) hy hp q R F' s' [.ref D] S' (.cons (.ref D) .nil)) fun _ s2 F2 _ l2 m2 i2 _ S2 q2 => ?_)
  exact ⟨m', (S2.z.outs _ (.head _)).1, fun h' hs' => ⟨F2, .next, l2, m2, (i1.trans i').trans i2, .next, ⟨S2.dis, S2.z.dropOut (t := s2.toks) oC hs'⟩, q2⟩⟩
end
end Mine
end
section
set_option autoImplicit false
namespace Mine
section
variable {W : Wd} {A : Around} {env : Env} {outer : Outs} {loc : Loc} {mem R : Mem} {E : Ex W} {F : Frz} {s : Shared}
theorem Sim.reR {R' : Mem} {h' : Heap} {t : Nat} {d : Drawn} (S : Sim W env outer loc mem R F s) (h1 : ∀ b, R b = none → R' b = none) (h2 : ∀ b x, R' b = some x → Held W F h' b x)
    (h3 : ∀ b o, s.heap.get? b = some o → R b = none → h'.get? b = some o) : Sim W env outer loc mem R' F { s with heap := h', toks := t, drawn := d } := by
  have Z := S.z
  have dn : ∀ {b}, mun mem R b = none → R b = none ∧ mun mem R' b = none := fun {b} e => by
    obtain ⟨a, c⟩ := mun_none e
    exact ⟨c, by rw [mun_r a]; exact h1 b c⟩
  refine ⟨fun b y e => h1 b (S.dis b y e), ?_⟩
  exact {
    frz := fun b o h => h3 b o (Z.frz b o h) (dn (Z.memF b o h)).1
    base := Z.base
    memF := fun b o h => (dn (Z.memF b o h)).2
    memOk := fun b y h => by
      cases q : mem b with
      | some z =>
        rw [mun_l q] at h; cases h
        obtain ⟨o, ho, r⟩ := Z.memOk b _ (mun_l q)
        exact ⟨o, h3 b o ho (S.dis b _ q), r⟩
      | none => rw [mun_r q] at h; exact h2 b y h
    ns := let ⟨m, ⟨o, es, ep, e, q⟩, b⟩ := Z.ns; ⟨m, ⟨o, es, ep, h3 _ _ e (dn Z.nsF.2).1, q⟩, b⟩
    nsF := ⟨Z.nsF.1, (dn Z.nsF.2).2⟩
    outs := fun q hq => by
      obtain ⟨⟨o, es, ep, e, r⟩, b, c, n⟩ := Z.outs q hq
      exact ⟨⟨o, es, ep, h3 _ _ e (dn c).1, r⟩, b, (dn c).2, n⟩
    low := Z.low
    memLow := fun b y h => by
      cases q : mem b with
      | some z => exact Z.memLow b z (mun_l q)
      | none =>
        rw [mun_r q] at h
        cases q' : R b with
        | none => rw [h1 b q'] at h; cases h
        | some z => exact Z.memLow b z (by rw [mun_r q]; exact q')
    gens := Z.gens
    os := Z.os }
theorem Sim.adopt {a : Addr} {o : Obj} (S : Sim W env outer loc mem R F s) (f1 : mun mem R a = none) (f2 : ∀ o, ¬ F a o) (f3 : a ≠ env.locals) (f4 : ∀ q ∈ outer, q.1 ≠ a) (ho : s.heap.get? a = some o) : Sim W env outer loc mem R (fadd F a o) s := by
  refine ⟨S.dis, ?_⟩
  have Z := S.z
  exact {
    frz := fun b o e => by rcases e with e | ⟨rfl, rfl⟩; exact Z.frz b o e; exact ho
    base := fun b o e => .inl (Z.base b o e)
    memF := fun b o e => by rcases e with e | ⟨rfl, rfl⟩; exact Z.memF b o e; exact f1
    memOk := fun b y e => let ⟨o, e', q⟩ := Z.memOk b y e; ⟨o, e', q.mono (Incl.fadd _ _ _)⟩
    ns := let ⟨m, z, b⟩ := Z.ns; ⟨m, z, LocRel.mono (Incl.fadd _ _ _) b⟩
    nsF := ⟨fun o e => by rcases e with e | ⟨e, rfl⟩; exact Z.nsF.1 o e; exact f3 e.symm, Z.nsF.2⟩
    outs := fun q hq => by
      obtain ⟨z, b, c, e⟩ := Z.outs q hq
      exact ⟨z, fun o e => by rcases e with e | ⟨e, rfl⟩; exact b o e; exact f4 q hq e, c, e⟩
    low := Z.low
    memLow := Z.memLow
    gens := Z.gens
    os := Z.os }
theorem Sim.toR {D : Addr} {x : AObj} (S : Sim W env outer loc (mset mem D x) R F s) (hm : mem D = none) : Sim W env outer loc mem (mset R D x) F s := by
  have hR : R D = none := S.dis D x (mset_self _ _ _)
  refine ⟨fun b y e => ?_, ?_⟩
  · have hb : b ≠ D := fun q => by rw [q, hm] at e; cases e
    rw [mset_ne hb]
    exact S.dis b y (by rw [mset_ne hb]; exact e)
  · have z := S.z
    rw [← mset_mun, mset_munR hm] at z
    exact z
theorem Sim.rawAt {a : Addr} {x : AObj} (S : Sim W env outer loc mem R F s) (h : R a = some x) : Held W F s.heap a x := by
  have hm : mem a = none := by
    cases q : mem a with
    | none => rfl
    | some y => have := S.dis a y q; rw [h] at this; cases this
  exact S.z.memOk a x (by rw [mun_r hm]; exact h)
theorem nextOf_tuple_item {prog : Program} {w : World} {A : Around} {E : Value → Shared → Prop} {s : Shared} {it t : Addr} {i : Nat} {items : Array Value} {x : Value} {Q : Value → Shared → Prop} (hit : s.heap.IsTupleIter it t i)
    (ht : s.heap.IsTuple t items) (hx : items[i]? = some x) (hQ : ∀ h', h'.IsTupleIter it t (i + 1) → Heap.SameBut it s.heap h' → Q x { s with heap := h' }) :
    wpAny (model prog w) A (Builtin.SmallTypes.nextOf (.ref it)) Q E s := by
  obtain ⟨o, ho, hc, hd⟩ := id hit
  obtain ⟨ol, hol, _, nl, hdl⟩ := ht
  unfold Builtin.SmallTypes.nextOf
  refine wpAny_bind (wpAny_callSpecial?_slot (name := Str.ofString "__next__") hit.typeIs PySem.F.slot_tuple_iterator_next
    (wpAny_call_entry PySem.F.slot_tuple_iterator_next hit.typeIs PySem.F.entry_tuple_iterator_next ?_ (PySem.F.args_tuple_iterator_next_1 _)))
  show wpAny _ _ (field (.ref it) 0 >>= _) _ _ s
  refine wpAny_bind (wpAny_field ho hd (x := .ref t) rfl ?_)
  show wpAny _ _ (if (Value.ref t == Value.none) = true then _ else _) _ _ s
  rw [if_neg (show ¬ ((Value.ref t == Value.none) = true) from Bool.false_ne_true)]
  show wpAny _ _ (field (.ref it) 1 >>= _) _ _ s
  refine wpAny_bind (wpAny_field ho hd (x := .int i 0) rfl ?_)
  show wpAny _ _ (seqItems? (.ref t) >>= _) _ _ s
  refine wpAny_bind (wpAny_seqItems hol hdl ?_)
  simp only [Int.toNat_natCast, hx]
  refine wpAny_bind (wpAny_setField ho hd (by simp) (wpAny_pure ⟨x, rfl, wpAny_pure (hQ _ ?_ (Heap.SameBut.update ..))⟩))
  exact ⟨_, Heap.get?_update_self _ ho (Obj.isFreed_of_fields (Obj.data_mapFields hd _)), (Obj.cls_mapFields ..).trans hc, by
    rw [Obj.data_mapFields hd]; simp [rawInt]⟩
theorem nextOf_tuple_end {prog : Program} {w : World} {A : Around} {E : Value → Shared → Prop} {s : Shared} {it t : Addr} {i : Nat} {items : Array Value} {Q : Value → Shared → Prop} (hh : A.handled = none) (hit : s.heap.IsTupleIter it t i)
    (ht : s.heap.IsTuple t items) (hx : items[i]? = none) (hE : ∀ h' e, Heap.ExtBut it s.heap h' → (∃ o, h'.get? e = some o ∧ o.cls = .type "StopIteration") → E (.ref e) { s with heap := h' }) :
    wpAny (model prog w) A (Builtin.SmallTypes.nextOf (.ref it)) Q E s := by
  obtain ⟨o, ho, hc, hd⟩ := id hit
  obtain ⟨ol, hol, _, nl, hdl⟩ := ht
  unfold Builtin.SmallTypes.nextOf
  refine wpAny_bind (wpAny_callSpecial?_slot (name := Str.ofString "__next__") hit.typeIs PySem.F.slot_tuple_iterator_next
    (wpAny_call_entry PySem.F.slot_tuple_iterator_next hit.typeIs PySem.F.entry_tuple_iterator_next ?_ (PySem.F.args_tuple_iterator_next_1 _)))
  show wpAny _ _ (field (.ref it) 0 >>= _) _ _ s
  refine wpAny_bind (wpAny_field ho hd (x := .ref t) rfl ?_)
  show wpAny _ _ (if (Value.ref t == Value.none) = true then _ else _) _ _ s
  rw [if_neg (show ¬ ((Value.ref t == Value.none) = true) from Bool.false_ne_true)]
  show wpAny _ _ (field (.ref it) 1 >>= _) _ _ s
  refine wpAny_bind (wpAny_field ho hd (x := .int i 0) rfl ?_)
  show wpAny _ _ (seqItems? (.ref t) >>= _) _ _ s
  refine wpAny_bind (wpAny_seqItems hol hdl ?_)
  simp only [Int.toNat_natCast, hx]
  refine wpAny_bind (wpAny_rule (wpAny_bind (wpAny_setField ho hd (by simp) ?_)))
  show wpAny _ _ (newExc (.type "StopIteration") [] >>= _) _ _ _
  refine wpAny_bind ?_
  simp only [newExc, newTuple]
  refine wpAny_bind (wpAny_newObj_type ?_ (by size_fits))
  refine wpAny_bind (m := firstArgMember _ _) (wpAny_of_eq (a := Value.none) (by first | rfl | (simp only [firstArgMember]; rfl)) ?_)
  refine wpAny_newObj_type ?_ (by size_fits)
  simp only [raiseNew]
  refine wpAny_bind (wpAny_handled ?_)
  first | rw [show A.in1.handled = none from hh] | rw [hh]
  refine wpAny_bind (wpAny_pure (wpAny_throw ?_))
  exact hE _ _ (((Heap.SameBut.update ..).extBut.push _).push _) ⟨_, Heap.get?_push_size _ rfl, rfl⟩
theorem draws_tuple {prog : Program} {w : World} {A : Around} (hh : A.handled = none) (it l : Addr) (hne : l ≠ it) (items : Array Value) :
    Draws prog w A it [it, l] items.size (fun i v => items[i]? = some v) (fun i h => h.IsTupleIter it l i ∧ h.IsTuple l items) where
  live := fun _ _ st => let ⟨o, ho, _⟩ := st.1; ⟨o, ho⟩
  frame := fun _ _ _ st hk => by
    obtain ⟨⟨o, ho, r⟩, ⟨o2, ho2, r2⟩⟩ := st
    exact ⟨⟨o, hk it (by simp) o ho, r⟩, ⟨o2, hk l (by simp) o2 ho2, r2⟩⟩
  item := fun i s Q E hi st hQ => by
    refine nextOf_tuple_item st.1 st.2 (x := items[i]) (by simp [hi]) fun h' hit' hs' => ?_
    exact hQ _ h' s.toks (by simp [hi]) ⟨hit', st.2.extBut hs'.extBut hne⟩ hs'
  done := fun s Q E st hE => nextOf_tuple_end hh st.1 st.2 (by simp) hE
theorem meets_enumerate_newT (l : Addr) (items : Array Value) (n : Nat) :
    Meets (Builtin.«enumerate.__new__» ⟨[.type "enumerate", .ref l], []⟩) (fun _ R s => s.heap.get? l = some { cls := .type "tuple", dict := none, data := .seq items n, slots := #[] } ∧
      R (.ok (.ret (.ref (s.heap.push { cls := .type "tuple_iterator", data := .fields #[.ref l, .int 0 0] }).objs.size)))
        { s with heap := (s.heap.push { cls := .type "tuple_iterator", data := .fields #[.ref l, .int 0 0] }).push { cls := .type "enumerate", data := .fields #[.none, .bool false, .ref s.heap.objs.size, rawInt 0, .none, .none] } }) :=
  .of_wp fun prog w A R s h => by
    obtain ⟨hp, g, d, tk, os⟩ := s; obtain ⟨hl, h⟩ := h
    have hsub := sub_enumerate
    have hL : Heap.IsTuple (Shared.heap ⟨hp, g, d, tk, os⟩) l items := ⟨_, hl, rfl, n, rfl⟩
    wp_walk using AutoSeq1.wpAny_loadPart' hl
    refine wpAny_stack_any fun st => wpAny_pure ?_
    split
    · rename_i c _ _ _ _ _
      cases (c == Value.type "enumerate")
      · wp_walk using AutoSeq1.wpAny_loadPart' hl, wpAny_pyIter_tuple hL
        exact ⟨_, rfl, h⟩
      · wp_walk using AutoSeq1.wpAny_loadPart' hl, wpAny_pyIter_tuple hL
        exact ⟨_, rfl, h⟩
    · wp_walk using AutoSeq1.wpAny_loadPart' hl, wpAny_pyIter_tuple hL
      exact ⟨_, rfl, h⟩
theorem call_enumerate_tuple {prog : Program} {w : World} {A : Around} {E : Value → Shared → Prop} {s : Shared} {l : Addr} {items : Array Value} {n : Nat} {Q : Value → Shared → Prop} (hl : s.heap.get? l = some { cls := .type "tuple", dict := none, data := .seq items n, slots := #[] })
    (h : ∀ h', IsEnum h' (s.heap.objs.size + 1) s.heap.objs.size 0 .none → h'.IsTupleIter s.heap.objs.size l 0 → h'.objs.size = s.heap.objs.size + 2 →
      (∀ b o, s.heap.get? b = some o → h'.get? b = some o) → Q (.ref (s.heap.objs.size + 1)) { s with heap := h' }) :
    wpAny (model prog w) A (call (.type "enumerate") [.ref l]) Q E s := by
  refine callType_new PySem.F.called_enumerate (by decide) (PySem.F.typeCall_enumerate_1 _) (PySem.F.newCall_enumerate_1 _) (fun obj => PySem.F.args_object_init_2 obj _) PySem.F.entry_enumerate_new
    (meets_enumerate_newT l items n) ⟨hl, ?_⟩
  have hz : (s.heap.push { cls := .type "tuple_iterator", data := .fields #[.ref l, .int 0 0] }).objs.size = s.heap.objs.size + 1 := Heap.size_push ..
  show _ ∧ _
  rw [hz]
  have he : IsEnum ((s.heap.push { cls := .type "tuple_iterator", data := .fields #[.ref l, .int 0 0] }).push
      { cls := .type "enumerate", data := .fields #[.none, .bool false, .ref s.heap.objs.size, rawInt 0, .none, .none] }) (s.heap.objs.size + 1) s.heap.objs.size 0 .none := by
    have := Heap.get?_push_size (s.heap.push { cls := .type "tuple_iterator", data := .fields #[.ref l, .int 0 0] })
      (o := { cls := .type "enumerate", data := .fields #[.none, .bool false, .ref s.heap.objs.size, rawInt 0, .none, .none] }) rfl
    rw [hz] at this; exact this
  refine ⟨⟨_, he, rfl⟩, h _ he ⟨_, Heap.get?_push_of_some _ (Heap.get?_push_size _ rfl), rfl, rfl⟩ (by rw [Heap.size_push, hz]) fun b o x => Heap.get?_push_of_some _ (Heap.get?_push_of_some _ x)⟩
noncomputable def enumObj (it : Addr) (i : Int) (old : Value) : Obj := { cls := .type "enumerate", dict := none, data := .fields #[.none, .bool false, .ref it, rawInt i, .none, old], slots := #[] }
theorem alloc2 {D : Addr} {x1 x2 : AObj} {h' : Heap} {t : Nat} {d : Drawn} {o1 o2 : Obj} (S : Sim W env outer loc mem R F s) (hD : D = s.heap.objs.size) (hk : ∀ b o, s.heap.get? b = some o → h'.get? b = some o)
    (g1 : h'.get? D = some o1) (g2 : h'.get? (D + 1) = some o2) (r1 : OR W F x1 o1) (r2 : OR W F x2 o2) : mem D = none ∧ mem (D + 1) = none ∧ Sim W env outer loc (mset (mset mem D x1) (D + 1) x2) R F { s with heap := h', toks := t, drawn := d } := by
  subst hD
  have n1 : s.heap.get? s.heap.objs.size = none := get?_size _
  have n2 : s.heap.get? (s.heap.objs.size + 1) = none := get?_ge (Nat.le_succ _)
  obtain ⟨a1, b1⟩ := S.free n1
  obtain ⟨a2, b2⟩ := S.free n2
  obtain ⟨-, p1, q1, u1⟩ := S.z.free_of_none n1
  obtain ⟨-, p2, q2, u2⟩ := S.z.free_of_none n2
  have lo := S.size_le
  refine ⟨a1, a2, ?_⟩
  have Z := S.z
  have ne : s.heap.objs.size ≠ s.heap.objs.size + 1 := (Nat.succ_ne_self _).symm
  have key : ∀ {b}, b ≠ s.heap.objs.size → b ≠ s.heap.objs.size + 1 → mun (mset (mset mem s.heap.objs.size x1) (s.heap.objs.size + 1) x2) R b = mun mem R b := fun {b} h1 h2 => by
    unfold mun; rw [mset_ne h2, mset_ne h1]
  refine ⟨fun b y e => ?_, ?_⟩
  · by_cases h2 : b = s.heap.objs.size + 1
    · rw [h2]; exact b2
    · rw [mset_ne h2] at e
      by_cases h1 : b = s.heap.objs.size
      · rw [h1]; exact b1
      · rw [mset_ne h1] at e; exact S.dis b y e
  · exact {
      frz := fun b o h => hk b o (Z.frz b o h)
      base := Z.base
      memF := fun b o h => by rw [key (fun e => p1 o (e ▸ h)) (fun e => p2 o (e ▸ h))]; exact Z.memF b o h
      memOk := fun b y h => by
        by_cases h2 : b = s.heap.objs.size + 1
        · subst h2; rw [mun_l (mset_self _ _ _)] at h; cases h; exact ⟨o2, g2, r2⟩
        · by_cases h1 : b = s.heap.objs.size
          · subst h1; rw [mun_l (x := x1) (by rw [mset_ne ne, mset_self])] at h; cases h; exact ⟨o1, g1, r1⟩
          · rw [key h1 h2] at h; obtain ⟨o, e, r⟩ := Z.memOk b y h; exact ⟨o, hk b o e, r⟩
      ns := let ⟨m, z, b⟩ := Z.ns; ⟨m, z.keeps hk, b⟩
      nsF := ⟨Z.nsF.1, by rw [key (Ne.symm q1) (Ne.symm q2)]; exact Z.nsF.2⟩
      outs := fun q hq => let ⟨z, b, c, e⟩ := Z.outs q hq; ⟨z.keeps hk, b, by rw [key (u1 q hq) (u2 q hq)]; exact c, e⟩
      low := Z.low
      memLow := fun b y h => by
        by_cases h2 : b = s.heap.objs.size + 1
        · rw [h2]; exact Nat.le_trans lo (Nat.le_succ _)
        · by_cases h1 : b = s.heap.objs.size
          · rw [h1]; exact lo
          · rw [key h1 h2] at h; exact Z.memLow b y h
      gens := Z.gens
      os := Z.os }
theorem enum_own {a : Addr} {xs : List V} {Q : V → Loc → Mem → Prop} (hm : mem a = some (.list xs)) (h : ∀ e, mem e = none → mem (e + 1) = none → Q (.ref (e + 1)) loc (mset (mset mem e (.iter true 0 (.ref a))) (e + 1) (.raw (enumObj e 0 .none)))) :
    OpV W A env outer (fun vs => call (.type "enumerate") vs) [.ref a] loc mem Q E := op1 fun R F s v S r => by
  cases r.view
  obtain ⟨o, ho, q⟩ := S.memOk _ _ hm
  cases q.view with
  | @list vs n q =>
    refine call_enumerate_1 (items := vs) ho fun h' he hit hsz hk => ?_
    obtain ⟨o', ho', hc, hd⟩ := hit
    obtain ⟨a1, a2, S'⟩ := alloc2 (t := s.toks) (d := s.drawn) S rfl hk ho' he (x1 := .iter true 0 (.ref a)) (x2 := .raw (enumObj s.heap.objs.size 0 .none)) (.iter (.ref a) hc hd) .raw
    exact Post.mk (.ref _) S' (h _ a1 a2)
theorem enum_tup {xs : List V} {Q : V → Loc → Mem → Prop} (h : ∀ e, mem e = none → mem (e + 1) = none → Q (.ref (e + 1)) loc (mset (mset mem e (.iter false 0 (.tup xs))) (e + 1) (.raw (enumObj e 0 .none)))) :
    OpV W A env outer (fun vs => call (.type "enumerate") vs) [.tup xs] loc mem Q E := op1 fun R F s v S r => by
  cases r.view with
  | @tup a vs n fa q =>
    refine call_enumerate_tuple (items := vs) (S.frz _ _ fa) fun h' he hit hsz hk => ?_
    obtain ⟨o', ho', hc, hd⟩ := hit
    obtain ⟨a1, a2, S'⟩ := alloc2 (t := s.toks) (d := s.drawn) S rfl hk ho' he (x1 := .iter false 0 (.tup xs)) (x2 := .raw (enumObj s.heap.objs.size 0 .none)) (.iter (.tup fa q) hc hd) .raw
    exact Post.mk (.ref _) S' (h _ a1 a2)
noncomputable def seqNow (x : V) (m : Mem) : Option (List V) := match x with
  | .ref a => (match m a with | some (.list xs) => some xs | _ => none)
  | .tup xs => some xs
  | .lst xs => some xs
  | _ => none
noncomputable def enumItem (x : V) (i : Nat) (m : Mem) : Option (Option V) := (seqNow x m).bind fun xs => if i ≤ xs.length then some (xs[i]?.map fun y => .tup [.int i, y]) else none
theorem cls_no {o o' : Obj} (h : some o = some o') (n : (o.cls == o'.cls) = false) : False := by cases h; rw [show (o.cls == o.cls) = true from beq_self_eq_true _] at n; cases n
inductive SrcOk (mem : Mem) : Bool → V → List V → Prop
  | own {a : Addr} {xs : List V} : mem a = some (.list xs) → SrcOk mem true (.ref a) xs
  | tup (xs : List V) : SrcOk mem false (.tup xs) xs
  | lst (xs : List V) : SrcOk mem true (.lst xs) xs
theorem seqNow_ok {x : V} {m : Mem} {xs : List V} {b : Bool} (h : seqNow x m = some xs) (hb : ∀ ys, x = .tup ys ↔ b = false ∧ x = .tup ys) (hb2 : (∃ a, x = .ref a) ∨ (∃ ys, x = .lst ys) → b = true) : SrcOk m b x xs := by
  unfold seqNow at h
  split at h
  · split at h
    · rename_i a xs' e; cases h; rw [hb2 (.inl ⟨_, rfl⟩)]; exact .own e
    · cases h
  · rename_i ys; cases h; have := (hb xs).mp rfl; rw [this.1]; exact .tup _
  · rename_i ys; cases h; rw [hb2 (.inr ⟨_, rfl⟩)]; exact .lst _
  · cases h
theorem SrcOk.at {b : Bool} {x : V} {xs : List V} {a : Addr} (q : SrcOk mem b x xs) (S : Sim W env outer loc mem R F s) (r : VR W F x (.ref a)) :
    ∃ vs n, s.heap.get? a = some { cls := .type (if b then "list" else "tuple"), data := .seq vs n } ∧ VRs W F xs vs.toList := by
  cases q with
  | own h =>
    cases r.view
    obtain ⟨o, ho, q⟩ := S.memOk _ _ h
    cases q with | list q => exact ⟨_, _, ho, q⟩
  | tup => cases r.view with | tup f q => exact ⟨_, _, S.frz _ _ f, q⟩
  | lst => cases r.view with | lst f q => exact ⟨_, _, S.frz _ _ f, q⟩
theorem SrcOk.fit {b : Bool} {x : V} {xs : List V} (q : SrcOk mem b x xs) : (∀ ys, x = .tup ys ↔ b = false ∧ x = .tup ys) ∧ ((∃ a, x = .ref a) ∨ (∃ ys, x = .lst ys) → b = true) := by
  cases q <;> simp
inductive EnSt (e : Addr) (b : Bool) (x : V) (i : Nat) (R₀ R : Mem) : Prop
  | mk (h1_ : R₀ e = none) (h2_ : R₀ (e + 1) = none) (old : Value) (h3_ : R = mset (mset R₀ e (.iter b i x)) (e + 1) (.raw (enumObj e i old)))
inductive EnAt (W : Wd) (F : Frz) (s : Shared) (e : Addr) (b : Bool) (x : V) (i : Nat) (old : Value) (xs : List V) : Prop
  | mk (h1_ : IsEnum s.heap (e + 1) e i old) (a : Addr) (o : Obj) (vs : Array Value) (n : Nat) (h2_ : s.heap.get? e = some o) (h3_ : o.cls = .type (if b then "list_iterator" else "tuple_iterator")) (h4_ : o.data = .fields #[.ref a, .int i 0]) (h5_ : VR W F x (.ref a))
    (h6_ : s.heap.get? a = some { cls := .type (if b then "list" else "tuple"), data := .seq vs n }) (h7_ : VRs W F xs vs.toList)
theorem enAcc {mem R₀ : Mem} {F : Frz} {s : Shared} {e : Addr} {b : Bool} {x : V} {i : Nat} {old : Value} {xs : List V} (S : Sim W env outer loc mem (mset (mset R₀ e (.iter b i x)) (e + 1) (.raw (enumObj e i old))) F s) (q : SrcOk mem b x xs) : EnAt W F s e b x i old xs := by
  have ne : e ≠ e + 1 := (Nat.succ_ne_self e).symm
  obtain ⟨o1, g1, r1⟩ := S.rawAt (a := e + 1) (mset_self _ _ _)
  cases r1.view
  obtain ⟨o2, g2, r2⟩ := S.rawAt (a := e) (by rw [mset_ne ne, mset_self])
  cases r2.view with
  | iter rx hc hd =>
    obtain ⟨vs, n, ho, rs⟩ := q.at S rx
    exact ⟨g1, _, _, vs, n, g2, hc, hd, rx, ho, rs⟩
theorem enKeep {R₀ : Mem} {e : Addr} {x1 x2 : AObj} {bb : Addr} (h : mset (mset R₀ e x1) (e + 1) x2 bb = none) : bb ≠ e + 1 ∧ bb ≠ e := by
  constructor
  · intro q; rw [q, mset_self] at h; cases h
  · intro q; rw [q, mset_ne (Nat.succ_ne_self e).symm, mset_self] at h; cases h
theorem itr_enum {elts : List PySem.Expr} {kk : Nat} {pos : Pos} {e : Addr} {b : Bool} {x : V} {xs : List V} (hh : A.handled = none) (q0 : SrcOk mem b x xs) (h1 : mem e = none) (h2 : mem (e + 1) = none) :
    Itr W A (.Tuple elts kk pos) (.ref (e + 1)) (mset (mset mem e (.iter b 0 x)) (e + 1) (.raw (enumObj e 0 .none))) mem (enumItem x) := by
  obtain ⟨fit1, fit2⟩ := q0.fit
  have ne : e ≠ e + 1 := (Nat.succ_ne_self e).symm
  intro env outer loc R F₀ s x' E S r
  cases r.view
  have n2 : mset mem e (.iter b 0 x) (e + 1) = none := by rw [mset_ne (Ne.symm ne)]; exact h2
  obtain ⟨oe, hoe, re⟩ := S.memOk (e + 1) _ (mset_self _ _ _)
  cases re.view
  have hR2 : R (e + 1) = none := S.dis (e + 1) _ (mset_self _ _ _)
  have hR1 : R e = none := S.dis e (.iter b 0 x) (by rw [mset_ne ne, mset_self])
  have S1 := S.toR n2
  have S2 := S1.toR h1
  have S3 : Sim W env outer loc mem (mset (mset R e (.iter b 0 x)) (e + 1) (.raw (enumObj e 0 .none))) F₀ s := by
    rw [mset_comm ne]; exact S2
  refine wpAny_pyIter_enum (it := e) (i := 0) (old := .none) hoe ⟨EnSt e b x, _, ?_, ⟨hR1, hR2, .none, rfl⟩, S3⟩
  refine {
    next := ?_
    done := ?_
    self := ?_
    frame := ?_
    same := ?_
    off := ?_ }
  · rintro i env outer loc mem R₀ R F s v E ic ⟨n1, n2, old, rfl⟩ hi S
    unfold enumItem at hi
    cases hs : seqNow x mem with
    | none => rw [hs] at hi; cases hi
    | some ys =>
      rw [hs] at hi
      cases hy : ys[i]? with
      | none => simp only [Option.bind_some, hy, Option.map_none] at hi; split at hi <;> cases hi
      | some y =>
        simp only [Option.bind_some, hy, Option.map_some] at hi
        split at hi
        case isFalse => cases hi
        rename_i hle
        have hi : V.tup [.int i, y] = v := by cases hi; rfl
        subst hi
        have q := seqNow_ok hs fit1 fit2
        obtain ⟨he, a, o, vs, n, g2, hc, hd, rx, ho, rs⟩ := enAcc S q
        obtain ⟨u, hu, ru⟩ := rs.getA hy
        have hlt : i < vs.size := by rw [Array.getElem?_eq_some_iff] at hu; exact hu.1
        have fin : ∀ h' tk, IsEnumOut h' (e + 1) e ((i : Int) + 1) u s.heap.objs.size → (∃ o', h'.get? e = some o' ∧ o'.cls = .type (if b then "list_iterator" else "tuple_iterator") ∧ o'.data = .fields #[.ref a, .int ((i + 1 : Nat) : Int) 0]) →
            h'.get? s.heap.objs.size = some { cls := .type "tuple", data := .seq #[.int i tk, u] } → (∀ b o, b ≠ e + 1 → b ≠ e → s.heap.get? b = some o → h'.get? b = some o) →
            wpAny (model W.prog W.w) A (letOwnedTupleGo (.Tuple elts kk pos) (.ref (e + 1)) (.ref s.heap.objs.size)) (fun _ s2 => FedI W env outer loc mem R₀ F (EnSt e b x) (i + 1) (.tup [.int i, y]) (.ref s.heap.objs.size) s2) E { s with heap := h', toks := tk + 1 } := fun h' tk hout hit htup hk => by
          refine wpAny_letOwnedTupleGo_enum hout fun h2 hen hsb => ?_
          obtain ⟨o', ho', hc', hd'⟩ := hit
          have z := S.z.free_of_none (get?_size s.heap)
          have sz1 : s.heap.objs.size ≠ e + 1 := fun q => by have := Heap.lt_size he; rw [← q] at this; exact Nat.lt_irrefl _ this
          have sz2 : s.heap.objs.size ≠ e := fun q => by have := Heap.lt_size g2; rw [← q] at this; exact Nat.lt_irrefl _ this
          have S' := S.reR (R' := mset (mset R₀ e (.iter b (i + 1) x)) (e + 1) (.raw (enumObj e (i + 1 : Nat) u))) (h' := h2) (t := tk + 1) (d := s.drawn) (fun bb hbb => by
              obtain ⟨c1, c2⟩ := enKeep hbb
              rw [mset_ne c1, mset_ne c2] at hbb ⊢; exact hbb) (fun bb xx hbb => by
              by_cases c1 : bb = e + 1
              · subst c1; rw [mset_self] at hbb; cases hbb; exact ⟨_, by exact_mod_cast hen, .raw⟩
              · rw [mset_ne c1] at hbb
                by_cases c2 : bb = e
                · subst c2; rw [mset_self] at hbb; cases hbb; exact ⟨o', (hsb.2 _ c1).trans ho', .iter rx hc' hd'⟩
                · rw [mset_ne c2] at hbb
                  obtain ⟨ob, hob, rb⟩ := S.rawAt (a := bb) (x := xx) (by rw [mset_ne c1, mset_ne c2]; exact hbb)
                  exact ⟨ob, (hsb.2 _ c1).trans (hk _ _ c1 c2 hob), rb⟩) (fun bb ob hob hbb => by
              obtain ⟨c1, c2⟩ := enKeep hbb
              exact (hsb.2 _ c1).trans (hk _ _ c1 c2 hob))
          have hTup : h2.get? s.heap.objs.size = some { cls := .type "tuple", data := .seq #[.int i tk, u] } := (hsb.2 _ sz1).trans htup
          have S'' := S'.adopt (a := s.heap.objs.size) (by
            have := z.1
            obtain ⟨c1, c2⟩ := mun_none this
            rw [mun_r c1]
            rw [mset_ne sz1, mset_ne sz2] at c2 ⊢
            exact c2) z.2.1 z.2.2.1 z.2.2.2 hTup
          exact ⟨_, _, Incl.fadd _ _ _, .tup (.inr ⟨rfl, rfl⟩) (.cons (.int _ _) (.cons (ru.mono (Incl.fadd _ _ _)) .nil)), ⟨n1, n2, u, rfl⟩, S''⟩
        cases b with
        | true =>
          have hane : a ≠ e := fun q => by rw [q, g2] at ho; exact cls_no ho (by rw [hc]; rfl)
          refine wpAny_pyNext_enum_itemD (Draws.list (A := A.in1) hh e a hane vs) he ⟨⟨o, g2, hc, hd⟩, ⟨_, ho, rfl, n, rfl⟩⟩ hlt (Ne.symm ne) (by simp only [List.mem_cons, List.not_mem_nil, or_false, not_or]; exact ⟨Ne.symm ne, fun q => by rw [← q, he] at ho; exact cls_no ho (by rfl)⟩) fun x2 h' tk hx2 hout hst htup hsz hk => ?_
          rw [hu] at hx2; cases hx2
          exact ⟨_, rfl, fin h' tk hout hst.1 htup hk⟩
        | false =>
          have hane : a ≠ e := fun q => by rw [q, g2] at ho; exact cls_no ho (by rw [hc]; rfl)
          refine wpAny_pyNext_enum_itemD (draws_tuple (A := A.in1) hh e a hane vs) he ⟨⟨o, g2, hc, hd⟩, ⟨_, ho, rfl, n, rfl⟩⟩ hlt (Ne.symm ne) (by simp only [List.mem_cons, List.not_mem_nil, or_false, not_or]; exact ⟨Ne.symm ne, fun q => by rw [← q, he] at ho; exact cls_no ho (by rfl)⟩) fun x2 h' tk hx2 hout hst htup hsz hk => ?_
          rw [hu] at hx2; cases hx2
          exact ⟨_, rfl, fin h' tk hout hst.1 htup hk⟩
  · rintro i env outer loc mem R₀ R F s E ic ⟨n1, n2, old, rfl⟩ hi S
    unfold enumItem at hi
    cases hs : seqNow x mem with
    | none => rw [hs] at hi; cases hi
    | some ys =>
      rw [hs] at hi
      have hy : ys[i]? = none := by
        cases hy : ys[i]? with
        | none => rfl
        | some y => simp only [Option.bind_some, hy, Option.map_some] at hi; split at hi <;> cases hi
      have hle : i ≤ ys.length := by
        simp only [Option.bind_some] at hi
        split at hi
        · assumption
        · cases hi
      have q := seqNow_ok hs fit1 fit2
      obtain ⟨he, a, o, vs, n, g2, hc, hd, rx, ho, rs⟩ := enAcc S q
      have hv := rs.getN hy
      have fin : ∀ h', Heap.ExtBut e s.heap h' → Sim W env outer loc mem R₀ F { s with heap := h' } := fun h' eb => by
        refine S.reR (R' := R₀) (t := s.toks) (d := s.drawn) (fun bb hbb => ?_) (fun bb xx hbb => ?_) (fun bb ob hob hbb => ?_)
        · obtain ⟨c1, c2⟩ := enKeep hbb
          rw [mset_ne c1, mset_ne c2] at hbb; exact hbb
        · have c1 : bb ≠ e + 1 := fun q => by rw [q, n2] at hbb; cases hbb
          have c2 : bb ≠ e := fun q => by rw [q, n1] at hbb; cases hbb
          obtain ⟨ob, hob, rb⟩ := S.rawAt (a := bb) (x := xx) (by rw [mset_ne c1, mset_ne c2]; exact hbb)
          exact ⟨ob, eb _ _ c2 hob, rb⟩
        · obtain ⟨c1, c2⟩ := enKeep hbb
          exact eb _ _ c2 hob
      have hi2 : i = vs.size := by
        rw [Array.getElem?_eq_none_iff] at hv
        have := rs.size; omega
      subst hi2
      cases b with
      | true =>
        have hane : a ≠ e := fun q => by rw [q, g2] at ho; exact cls_no ho (by rw [hc]; rfl)
        exact wpAny_pyNext_enum_endD (Draws.list (A := A.in1) hh e a hane vs) he ⟨⟨o, g2, hc, hd⟩, ⟨_, ho, rfl, n, rfl⟩⟩ fun h' eb => ⟨rfl, fin h' eb⟩
      | false =>
        have hane : a ≠ e := fun q => by rw [q, g2] at ho; exact cls_no ho (by rw [hc]; rfl)
        exact wpAny_pyNext_enum_endD (draws_tuple (A := A.in1) hh e a hane vs) he ⟨⟨o, g2, hc, hd⟩, ⟨_, ho, rfl, n, rfl⟩⟩ fun h' eb => ⟨rfl, fin h' eb⟩
  · rintro i env outer loc mem R₀ R F s E Q ⟨n1, n2, old, rfl⟩ S h
    obtain ⟨o1, g1, r1⟩ := S.rawAt (a := e + 1) (mset_self _ _ _)
    cases r1.view
    exact wpAny_pyIter_enum (it := e) (i := i) (old := old) g1 h
  · rintro i R₀ R D xx ⟨n1, n2, old, rfl⟩ hD
    have d1 : D ≠ e + 1 := fun q => by rw [q, mset_self, n2] at hD; cases hD
    have d2 : D ≠ e := fun q => by rw [q, mset_ne ne, mset_self, n1] at hD; cases hD
    refine ⟨by rw [mset_ne (Ne.symm d2)]; exact n1, by rw [mset_ne (Ne.symm d1)]; exact n2, old, ?_⟩
    rw [mset_comm (Ne.symm d1), mset_comm (Ne.symm d2)]
  · rintro i R₀ R D ⟨n1, n2, old, rfl⟩ hD
    rw [mset_ne (fun q : D = e + 1 => hD (by rw [q]; exact n2)), mset_ne (fun q : D = e => hD (by rw [q]; exact n1))]
  · rintro i env outer loc mem R₀ R F s ⟨n1, n2, old, rfl⟩ S
    exact (S.offR (by rw [mset_ne (Ne.symm ne)]; exact n2)).offR n1
end
end Mine
end
section
set_option autoImplicit false
namespace Mine
structure Calm (A : Around) (d u : Nat) : Prop where
  handled : A.handled = none
  guards : A.guards = some []
  depth : A.depth ≤ d
  units : A.units ≤ u
theorem Calm.mono {A : Around} {d u d' u' : Nat} (c : Calm A d u) (h1 : d ≤ d') (h2 : u ≤ u') : Calm A d' u' := ⟨c.handled, c.guards, Nat.le_trans c.depth h1, Nat.le_trans c.units h2⟩
theorem Calm.deeper {A : Around} {d u : Nat} (c : Calm A d u) (env : Env) : Calm (A.deeper env) (d + 1) (u + 3) := ⟨c.handled, c.guards, Nat.succ_le_succ c.depth, Nat.add_le_add_right c.units 3⟩
noncomputable def strIn (sub x : Str) : Bool := !(Builtin.Str.occurrences x sub 0 x.length 1).isEmpty
section
variable {W : Wd} {A : Around} {env : Env} {outer : Outs} {loc : Loc} {mem R : Mem} {E : Ex W} {F : Frz} {s : Shared}
noncomputable def Asg (W : Wd) (A : Around) (env : Env) (outer : Outs) (t : PySem.Expr) (v : V) (loc : Loc) (mem : Mem) (Q : Loc → Mem → Prop) (E : Ex W) : Prop :=
  Op W A env outer (fun _ (_ _ : Unit) => True) (fun | [y] => assign t env y | _ => pure ()) [v] loc mem (fun _ => Q) E
noncomputable def AsgAll (W : Wd) (A : Around) (env : Env) (outer : Outs) : List PySem.Expr → List V → Loc → Mem → (Loc → Mem → Prop) → Ex W → Prop
  | [], _, loc, mem, Q, _ => Q loc mem
  | _ :: _, [], loc, mem, Q, _ => Q loc mem
  | t :: ts, x :: xs, loc, mem, Q, E => Asg W A env outer t x loc mem (fun l m => AsgAll W A env outer ts xs l m Q E) E
theorem AsgAll.run : ∀ {ts : List PySem.Expr} {xs : List V} {loc : Loc} {mem : Mem} {Q : Loc → Mem → Prop} {F : Frz} {s : Shared} {vs : List Value}, AsgAll W A env outer ts xs loc mem Q E → Sim W env outer loc mem R F s → VRs W F xs vs →
    wpAny (model W.prog W.w) A (assignInOrder (ts.map fun e => assign e env) vs) (Post W env outer (fun _ (_ _ : Unit) => True) R F (fun _ => Q)) (E.p R F) s
  | [], _, _, _, _, _, _, _, h, S, _ => wpAny_pure (Post.mk (x := ()) trivial S h)
  | _ :: _, [], _, _, _, _, _, _, h, S, .nil => wpAny_pure (Post.mk (x := ()) trivial S h)
  | t :: ts, x :: xs, _, _, _, F, _, _, h, S, .cons (vs := vs) r1 r2 => by
    show wpAny _ A (do holding vs (assign t env _); assignInOrder (ts.map fun e => assign e env) vs) _ _ _
    refine wpAny_bind (wpAny_holding (after (RW := fun _ (_ _ : Unit) => True) (Q := fun _ _ _ => True) (h R F _ [_] S (.cons r1 .nil)) fun _ s2 F2 _ l2 m2 i2 _ S2 h2 => ?_))
    exact wpAny_mono (AsgAll.run h2 S2 (r2.mono i2)) (fun _ _ p => p.weaken i2) fun _ _ e => E.up i2 e
theorem asg_name {x : Str} {pos : Pos} {v : V} {Q : Loc → Mem → Prop} (h : Op W A env outer (fun _ (_ _ : Unit) => True) (fun | [y] => storeName env x y | _ => pure ()) [v] loc mem (fun _ => Q) E) :
    Asg W A env outer (.Name x pos) v loc mem Q E := op1 fun R F s v' S r => wpAny_assign_Name (h R F s [v'] S (.cons r .nil))
theorem asg_tuple {elts : List PySem.Expr} {k : Nat} {pos : Pos} {xs : List V} {Q : Loc → Mem → Prop} (hh : A.handled = none) (hE : assignEach elts env = elts.map fun e => (false, assign e env)) (hn : elts.length = xs.length)
    (h : AsgAll W A env outer elts xs loc mem Q E) : Asg W A env outer (.Tuple elts k pos) (.tup xs) loc mem Q E := op1 fun R F s v' S r => by
  cases r.view with
  | @tup a vs n fa q =>
    refine assign_Tuple_tuple (items := vs) hh ⟨_, S.frz _ _ fa, rfl, n, rfl⟩ (by rw [hE, List.length_map, q.size, hn]) (by
      rw [hE]
      have : ∀ l : List PySem.Expr, (l.map fun e => (false, assign e env)).findIdx? (·.1) = none := fun l => by
        rw [List.findIdx?_eq_none_iff]; intro x hx; obtain ⟨e, _, rfl⟩ := List.mem_map.mp hx; rfl
      exact this _) fun h' eb => ?_
    rw [hE, List.map_map]
    exact AsgAll.run h (S.grow (t := s.toks) (d := s.drawn) fun b o e => eb b o (fun q => by have := Heap.lt_size e; rw [q] at this; exact Nat.lt_irrefl _ this) e) q
theorem in_ss {a b : Str} {Q : V → Loc → Mem → Prop} (h : Q (.bool (strIn a b)) loc mem) : OpV W A env outer (fun | [x, y] => compareOp .In x y | _ => pure .none) [.str a, .str b] loc mem Q E := op2 fun R F s v u S r1 r2 => by
  cases r1.view; cases r2.view; exact PyProof.Rows.in_str (Post.mk (.bool _) S h)
theorem getItem_s {x : Str} {i : Int} {c : Nat} {Q : V → Loc → Mem → Prop} (hr : (decide (i < -(2 ^ 63 : Int)) || decide (i ≥ 2 ^ 63)) = false) (hc : (seqIndex? i x.length).bind (x.cps[·]?) = some c) (h : Q (.str ⟨#[c]⟩) loc mem) :
    OpV W A env outer (fun | [x, y] => getItem x y | _ => pure .none) [.str x, .int i] loc mem Q E := op2 fun R F s v u S r1 r2 => by
  cases r1.view; cases r2.view; exact PyProof.Rows.getItem_str hr hc (Post.mk (.str _ _) S.tick h)
theorem len_s {x : Str} {Q : V → Loc → Mem → Prop} (hz : (x.length : Int) < 2 ^ 63) (h : Q (.int x.length) loc mem) : OpV W A env outer (fun vs => call (.builtin "len") vs) [.str x] loc mem Q E := op1 fun R F s v S r => by
  cases r.view; exact P.len_str (by omega) (Post.mk (.int _ _) S.tick h)
theorem tr_str {x : Str} {Q : Bool → Loc → Mem → Prop} (hz : (x.length : Int) < 2 ^ 63) (h : Q ((x.length : Int) != 0) loc mem) : OpB W A env outer (fun | [x] => truthy x | _ => pure false) [.str x] loc mem Q E := op1 fun R F s v S r => by
  cases r.view; exact P.truthy_str (by omega) (Post.mk rfl S.tick h)
theorem tr_tup {xs : List V} {Q : Bool → Loc → Mem → Prop} (hz : (xs.length : Int) < 2 ^ 63) (h : Q (!xs.isEmpty) loc mem) : OpB W A env outer (fun | [x] => truthy x | _ => pure false) [.tup xs] loc mem Q E := op1 fun R F s v S r => by
  cases r.view with
  | @tup a vs n fa q =>
    have hs := q.size
    exact PyProof.Rows.truthy_tuple (items := vs) ⟨_, S.frz _ _ fa, rfl, n, rfl⟩ (by rw [hs]; exact hz) (Post.mk (by rw [Array.isEmpty, hs]; cases xs <;> simp) S.tick h)
theorem VRs.strs : ∀ {ys : List Str} {vs : List Value}, VRs W F (ys.map .str) vs → StrsAre vs ys
  | [], _, .nil => .nil
  | y :: ys, _, .cons r1 r2 => by cases r1.view; exact .cons y _ (VRs.strs r2)
theorem VRs.ofStrs : ∀ {ys : List Str} {vs : List Value}, StrsAre vs ys → VRs W F (ys.map .str) vs
  | [], _, .nil => .nil
  | y :: ys, _, .cons _ t r => .cons (.str y t) (VRs.ofStrs r)
theorem join_tup {x : Str} {ys : List Str} {Q : V → Loc → Mem → Prop} (hs : x.length ≤ 16) (hw : (ys.map (·.length)).sum + ys.length ≤ 1048576) (h : Q (.str (Txt.join x ys)) loc mem) :
    OpV W A env outer (fun vs => call (.builtin "str.join") vs) [.str x, .tup (ys.map .str)] loc mem Q E := op2 fun R F s v u S r1 r2 => by
  cases r1.view
  cases r2.view with
  | @tup a vs n fa q => exact join_tupleW (items := vs) ⟨_, S.frz _ _ fa, rfl, n, rfl⟩ q.strs hs hw fun t' k => Post.mk (.str _ _) S.tick h
theorem VRs.bools : ∀ {bs : List Bool} {vs : List Value}, VRs W F (bs.map .bool) vs → vs = bs.map .bool
  | [], _, .nil => rfl
  | b :: bs, _, .cons r1 r2 => by cases r1.view; rw [VRs.bools r2]; rfl
theorem all_bools {v : V} {bs : List Bool} {Q : V → Loc → Mem → Prop} (hh : A.handled = none) (q : Sq mem v "list" (bs.map .bool)) (h : Q (.bool (bs.all id)) loc mem) :
    OpV W A env outer (fun vs => call (.builtin "all") vs) [v] loc mem Q E := op1 fun R F s v' S r => by
  obtain ⟨a, vs, n, rfl, ho, rs⟩ := q.at S r
  have e := rs.bools
  refine call_all_walk (wpAny_pyIter_list (items := vs) ⟨_, ho, rfl, n, rfl⟩ ?_)
  have hne : a ≠ s.heap.objs.size := fun q => by have := Heap.lt_size ho; rw [q] at this; exact Nat.lt_irrefl _ this
  have hv : ∀ i, vs[i]? = (bs[i]?).map Value.bool := fun i => by rw [← Array.getElem?_toList, e, List.getElem?_map]
  have hsz : vs.size = bs.length := by rw [← Array.length_toList, e, List.length_map]
  refine ⟨_, _, _, _, _, _, fun i => (bs[i]?).getD false, rfl, Walks.list (A := A.in1) hh s.heap.objs.size a hne vs, ⟨⟨_, Heap.get?_push_size _ rfl, rfl, rfl⟩, ⟨_, Heap.get?_push_of_some _ ho, rfl, n, rfl⟩⟩, fun i v s Q E hP hQ => ?_, fun h' tk hk => ?_⟩
  · have hP' : vs[i]? = some v := hP
    rw [hv i] at hP'
    cases hb : bs[i]? with
    | none => rw [hb] at hP'; cases hP'
    | some b =>
      rw [hb] at hP'
      cases hP'
      refine wpAny_truthy_bool ?_
      simp only [hb, Option.getD_some] at hQ
      exact hQ
  · have S' := (S.grow (t := s.toks) (d := s.drawn) (h' := s.heap.push { cls := .type "list_iterator", data := .fields #[.ref a, .int 0 0] }) fun b o e => Heap.get?_push_of_some _ e)
    have S2 := S.grow (t := tk) (d := s.drawn) (h' := h') fun b o e => hk b o (by
      intro hb
      have := Heap.lt_size e
      simp only [List.mem_cons, List.not_mem_nil, or_false] at hb
      rw [hb] at this
      exact Nat.lt_irrefl _ this) (Heap.get?_push_of_some _ e)
    refine Post.mk (.bool _) S2 ?_
    have : (List.range vs.size).all (fun i => (bs[i]?).getD false) = bs.all id := by
      rw [hsz]
      rw [Bool.eq_iff_iff, List.all_eq_true, List.all_eq_true]
      constructor
      · intro hx x hx2
        obtain ⟨i, hi, rfl⟩ := List.mem_iff_getElem.mp hx2
        have := hx i (List.mem_range.mpr hi)
        simpa [List.getElem?_eq_getElem hi] using this
      · intro hx i hi
        have hi := List.mem_range.mp hi
        simpa [List.getElem?_eq_getElem hi] using hx _ (List.getElem_mem hi)
    show Q (.bool _) loc mem
    rw [this]; exact h
theorem sorted_strs {v : V} {ss : List Str} {Q : V → Loc → Mem → Prop} (q : Sq mem v "list" (ss.map .str)) (hz : ss.length < 64) (h : ∀ a ss', mem a = none → ss'.Perm ss → sortedS ss' = true → Q (.ref a) loc (mset mem a (.list (ss'.map .str)))) :
    OpV W A env outer (fun vs => call (.builtin "sorted") vs) [v] loc mem Q E := op1 fun R F s v' S r => by
  obtain ⟨a, vs, n, rfl, ho, rs⟩ := q.at S r
  obtain ⟨m, hn, l⟩ := S.ns
  obtain ⟨vl, rfl⟩ : ∃ l, vs = List.toArray l := ⟨vs.toList, by simp⟩
  have rs' : VRs W F (ss.map .str) vl := by simpa using rs
  refine sorted_N_str (S.fr hn) S.newsL ⟨_, ho, rfl, n, rfl⟩ rs'.strs (by rw [rs'.length, List.length_map]; exact hz) fun h' vs' ss' e F' N' hS' hp hs => ?_
  have S1 := S.keepN (t := s.toks) (d := s.drawn) l F' fun p hp => (N' p (.tail _ hp)).1
  have hD := (N' _ (.head _)).1
  have fr : s.heap.get? (s.heap.objs.size + 1) = none := get?_ge (Nat.le_succ _)
  obtain ⟨f1, f2⟩ := S.free fr
  have nd := S.z.free_of_none fr
  have o1 : OR W F (.list (ss'.map .str)) (seqObj "list" vs'.toArray e) := .list (by simpa using VRs.ofStrs hS')
  have S2 : Sim W env outer loc (mset mem (s.heap.objs.size + 1) (.list (ss'.map .str))) R F { s with heap := h' } := by
    have Z := S1.z
    have key : ∀ {b}, b ≠ s.heap.objs.size + 1 → mun (mset mem (s.heap.objs.size + 1) (.list (ss'.map .str))) R b = mun mem R b := fun {b} h2 => by unfold mun; rw [mset_ne h2]
    refine ⟨fun b y e => ?_, ?_⟩
    · by_cases h2 : b = s.heap.objs.size + 1
      · rw [h2]; exact f2
      · rw [mset_ne h2] at e; exact S.dis b y e
    · exact {
        frz := Z.frz
        base := Z.base
        memF := fun b o h => by rw [key (fun e => nd.2.1 o (e ▸ h))]; exact Z.memF b o h
        memOk := fun b y h => by
          by_cases h2 : b = s.heap.objs.size + 1
          · subst h2; rw [mun_l (mset_self _ _ _)] at h; cases h; exact ⟨_, hD, o1⟩
          · rw [key h2] at h; exact Z.memOk b y h
        ns := Z.ns
        nsF := ⟨Z.nsF.1, by rw [key (Ne.symm nd.2.2.1)]; exact Z.nsF.2⟩
        outs := fun q hq => let ⟨z, b, c, e⟩ := Z.outs q hq; ⟨z, b, by rw [key (nd.2.2.2 q hq)]; exact c, e⟩
        low := Z.low
        memLow := fun b y h => by
          by_cases h2 : b = s.heap.objs.size + 1
          · rw [h2]; exact Nat.le_trans S.size_le (Nat.le_succ _)
          · rw [key h2] at h; exact Z.memLow b y h
        gens := Z.gens
        os := Z.os }
  exact Post.mk (.ref _) S2 (h _ ss' f1 hp hs)
end
end Mine
end
section
set_option autoImplicit false
namespace Mine
section
variable {W : Wd} {A : Around} {env : Env} {outer : Outs} {loc : Loc} {mem R : Mem} {E : Ex W} {F : Frz} {s : Shared}
noncomputable def onlyL (k : Str → Option NameKind) (bs : List (Str × V)) : Loc := (bs.filter fun p => k p.1 = some .local).reverse
noncomputable def onlyC (k : Str → Option NameKind) (bs : List (Str × V)) : Loc := (bs.filter fun p => ¬ k p.1 = some .local).reverse
theorem lookup_append' {β : Type} (y : Str) : ∀ (xs ys : List (Str × β)), (xs ++ ys).lookup y = (xs.lookup y).or (ys.lookup y)
  | [], ys => by simp [List.lookup]
  | (a, b) :: xs, ys => by
    rw [List.cons_append, List.lookup_cons, List.lookup_cons]
    split
    · rfl
    · exact lookup_append' y xs ys
theorem bindL_eq (k : Str → Option NameKind) : ∀ (bv : List (Str × Value)) (m : Str → Option Value) (y : Str), bindL k bv m y = ((bv.filter fun p => k p.1 = some .local).reverse.lookup y).or (m y)
  | [], m, y => rfl
  | (n, v) :: r, m, y => by
    unfold bindL
    rw [bindL_eq k r]
    by_cases h : k n = some .local
    · rw [if_pos h, List.filter_cons_of_pos (by simpa using h), List.reverse_cons, lookup_append', Option.or_assoc]
      congr 1
      by_cases e : y = n
      · subst e; simp [List.lookup]
      · have : (y == n) = false := by simpa using e
        simp [List.lookup, this, e]
    · rw [if_neg h, List.filter_cons_of_neg (by simpa using h)]
theorem bindC_eq (k : Str → Option NameKind) : ∀ (bv : List (Str × Value)) (m : Str → Option Value) (y : Str), bindC k bv m y = ((bv.filter fun p => ¬ k p.1 = some .local).reverse.lookup y).or (m y)
  | [], m, y => rfl
  | (n, v) :: r, m, y => by
    unfold bindC
    rw [bindC_eq k r]
    by_cases h : k n = some .local
    · rw [if_pos h, List.filter_cons_of_neg (by simpa using h)]
    · rw [if_neg h, List.filter_cons_of_pos (by simpa using h), List.reverse_cons, lookup_append', Option.or_assoc]
      congr 1
      by_cases e : y = n
      · subst e; simp [List.lookup]
      · have : (y == n) = false := by simpa using e
        simp [List.lookup, this, e]
theorem VRp.filter {es : List (Str × V)} {kvs : List (Str × Value)} (r : VRp W F es kvs) (p : Str → Bool) : VRp W F (es.filter fun e => p e.1) (kvs.filter fun e => p e.1) := by
  induction es generalizing kvs with
  | nil => cases r.view; exact .nil
  | cons e es ih =>
    cases r with
    | @cons k x v xs vs r1 r2 =>
      cases h : p k with
      | true => rw [List.filter_cons_of_pos (by simpa using h), List.filter_cons_of_pos (by simpa using h)]; exact .cons r1 (ih r2)
      | false => rw [List.filter_cons_of_neg (by simp [h]), List.filter_cons_of_neg (by simp [h])]; exact ih r2
theorem VRp.lookup {es : List (Str × V)} {kvs : List (Str × Value)} (r : VRp W F es kvs) (x : Str) : (∀ v, es.lookup x = some v → ∃ v', kvs.lookup x = some v' ∧ VR W F v v') ∧ (es.lookup x = none → kvs.lookup x = none) := by
  induction es generalizing kvs with
  | nil => cases r.view; exact ⟨fun v h => (nomatch h), fun _ => rfl⟩
  | cons e es ih =>
    cases r with
    | @cons k y v xs vs r1 r2 =>
      rw [List.lookup_cons, List.lookup_cons]
      split
      · exact ⟨fun v h => by cases h; exact ⟨_, rfl, r1⟩, fun h => (nomatch h)⟩
      · exact ih r2
noncomputable def layC (f : Str → Option V) : List (Str × Addr) → Mem → Mem
  | [], m => m
  | (n, c) :: r, m => mset (layC f r m) c (.cell (f n))
theorem layC_off {f : Str → Option V} : ∀ {cs : List (Str × Addr)} {m : Mem} {a : Addr}, (∀ p ∈ cs, p.2 ≠ a) → layC f cs m a = m a
  | [], _, _, _ => rfl
  | (n, c) :: r, m, a, h => by
    unfold layC
    rw [mset_ne (Ne.symm (h (n, c) (.head _))), layC_off fun p hp => h p (.tail _ hp)]
theorem layC_at {f : Str → Option V} : ∀ {cs : List (Str × Addr)} {m : Mem} {a : Addr} {x : AObj}, layC f cs m a = some x → (∃ n, (n, a) ∈ cs ∧ x = .cell (f n)) ∨ ((∀ p ∈ cs, p.2 ≠ a) ∧ m a = some x)
  | [], _, _, _, h => .inr ⟨fun p hp => (nomatch hp), h⟩
  | (n, c) :: r, m, a, x, h => by
    unfold layC at h
    by_cases e : a = c
    · subst e; rw [mset_self] at h; cases h; exact .inl ⟨n, .head _, rfl⟩
    · rw [mset_ne e] at h
      rcases layC_at h with ⟨n', hm, hx⟩ | ⟨h1, h2⟩
      · exact .inl ⟨n', .tail _ hm, hx⟩
      · refine .inr ⟨fun p hp => ?_, h2⟩
        rcases List.mem_cons.mp hp with rfl | hp
        · exact Ne.symm e
        · exact h1 p hp
noncomputable def envC (qual : Str) (scope : Scope) (L f : Addr) (cdv : Value) : Env := newEnv scope L mainGlobals (cellsFrom (L + 1) scope.names []) (qual ++ ".<locals>.") (some f) cdv none builtinsNs
noncomputable def BodyC (W : Wd) (A : Around) (env : Env) (outer : Outs) (qual : Str) (scope : Scope) (body : List Stmt) (cdv : Value) (f : Addr) (bs : List (Str × V)) (mem : Mem) (Q : V → Mem → Prop) (E : Ex W) : Prop :=
  ∀ (L : Addr) (m0 : Str → Option Value), (∀ p ∈ cellsFrom (L + 1) scope.names [], mem p.2 = none) → mem L = none →
    TrS W (A.deeper (envC qual scope L f cdv)) (envC qual scope L f cdv) ((env.locals, m0) :: outer) (execs body (envC qual scope L f cdv)) (onlyL (fun n => scope.names.lookup n) bs)
      (layC (fun n => (onlyC (fun n => scope.names.lookup n) bs).lookup n) (cellsFrom (L + 1) scope.names []) mem) (fun fl _ m => ∃ m', (∀ a x, m' a = some x → m a = some x) ∧ Q (retOf fl) m') (LeaveE W A (envC qual scope L f cdv) E)
theorem code_fnC {name qual : Str} {params : Arguments} {body : List Stmt} {scope : Scope} {dV kV doc pm cdv ct : Value} {an : Option Addr} {fo : Obj} {f : Addr} {vals : List Value} {bs : List (Str × V)} {bv : List (Str × Value)} {Q : V → Mem → Prop} {Rz : Result → Shared → Prop}
    (S : Sim W env outer loc mem R F s) (ho : s.heap.get? f = some fo) (hd : fo.data = .func (fnX name qual params body scope [] dV kV doc pm an cdv ct)) (hcd : s.heap.CodeRec cdv qual) (hroom : A.depth < recursionLimit)
    (hbind : bindArgs (fnX name qual params body scope [] dV kV doc pm an cdv ct) ⟨vals, []⟩ = pure bv) (rb : VRp W F bs bv)
    (hk : scope.kind = .function) (hco : scope.isCoroutine = false) (hgen : scope.isGenerator = false)
    (hkind : ∀ x ∈ bs, scope.names.lookup x.1 = some .local ∨ (scope.names.lookup x.1 = some .cell ∧ ∀ n, ((cellsFrom n scope.names []).lookup x.1).isSome = true))
    (hnd : ∀ k, ∀ p ∈ cellsFrom k scope.names [], (cellsFrom k scope.names []).lookup p.1 = some p.2)
    (E' : Ex W) (hE : ∀ e s', E'.p R F e s' → Rz (.error e) s')
    (hR : ∀ F' v v' m' s', Incl F F' → VR W F' v v' → Sim W env outer loc m' R F' s' → Q v m' → Rz (.ok (.ret v')) s')
    (h : BodyC W A env outer qual scope body cdv f bs mem Q E') : codeAny (model W.prog W.w) A (.call (.ref f) ⟨vals, []⟩) Rz s := by
  obtain ⟨m, hn, l⟩ := S.ns
  have hkind' : ∀ x ∈ bv, scope.names.lookup x.1 = some .local ∨ (scope.names.lookup x.1 = some .cell ∧ ((cellsFrom (s.heap.objs.size + 1) scope.names []).lookup x.1).isSome = true) := fun y hy => by
    have : y.1 ∈ bs.map (·.1) := rb.keys ▸ List.mem_map_of_mem hy
    obtain ⟨z, hz, e⟩ := List.mem_map.mp this
    rw [← e]
    rcases hkind z hz with h | ⟨h1, h2⟩
    · exact .inl h
    · exact .inr ⟨h1, h2 _⟩
  refine codeAny_call_cells (fd := fnX name qual params body scope [] dV kV doc pm an cdv ct) (body := body) (binds := bv) hroom ho hd (W.nolim.keeps S.hbase) hcd rfl hbind rfl hkind' (fun s₁ x => ?_) hco hgen hk
  have hfree : ∀ p ∈ cellsFrom (s.heap.objs.size + 1) scope.names [], s.heap.objs.size < p.2 := fun p hp => x.above p.1 p.2 hp
  have gL : s.heap.get? s.heap.objs.size = none := get?_size _
  have gC : ∀ p ∈ cellsFrom (s.heap.objs.size + 1) scope.names [], s.heap.get? p.2 = none := fun p hp => get?_ge (Nat.le_of_lt (hfree p hp))
  obtain ⟨h', tk, rfl, hk'⟩ := x.done
  have hns := x.toInCall.ns
  have Z := S.z
  have fL := Z.free_of_none gL
  have nodup : ∀ n c, (n, c) ∈ cellsFrom (s.heap.objs.size + 1) scope.names [] → Held W F h' c (.cell ((onlyC (fun n => scope.names.lookup n) bs).lookup n)) := fun n c hm => by
    obtain ⟨o, ho, hd⟩ := x.cell n c (hnd _ (n, c) hm)
    have e : bindC (fun n => scope.names.lookup n) bv (fun _ => none) n = (bv.filter fun p => ¬ scope.names.lookup p.1 = some .local).reverse.lookup n := by rw [bindC_eq, Option.or_none]
    have q := ((rb.filter (fun n => decide (¬ scope.names.lookup n = some .local))).rev).lookup n
    refine ⟨o, ho, .cell (u := bindC (fun n => scope.names.lookup n) bv (fun _ => none) n) hd (fun y hy => ?_) (fun hy => ?_)⟩
    · rw [e]; exact q.1 y hy
    · rw [e]; exact q.2 hy
  have lL : LocRel W F (onlyL (fun n => scope.names.lookup n) bs) (bindL (fun n => scope.names.lookup n) bv fun _ => none) := fun y v hy => by
    rw [bindL_eq, Option.or_none]
    exact (((rb.filter (fun n => decide (scope.names.lookup n = some .local))).rev).lookup y).1 v hy
  have S' : Sim W (envC qual scope s.heap.objs.size f cdv) ((env.locals, m) :: outer) (onlyL (fun n => scope.names.lookup n) bs)
      (layC (fun n => (onlyC (fun n => scope.names.lookup n) bs).lookup n) (cellsFrom (s.heap.objs.size + 1) scope.names []) mem) R F { s with heap := h', toks := tk } := by
    have cfree : ∀ n c, (n, c) ∈ cellsFrom (s.heap.objs.size + 1) scope.names [] → s.heap.get? c = none := fun n c hm => gC (n, c) hm
    have key : ∀ {b}, (∀ n, (n, b) ∉ cellsFrom (s.heap.objs.size + 1) scope.names []) → mun (layC (fun n => (onlyC (fun n => scope.names.lookup n) bs).lookup n) (cellsFrom (s.heap.objs.size + 1) scope.names []) mem) R b = mun mem R b := fun {b} hb => by
      unfold mun; rw [layC_off fun p hp e => hb p.1 (by rw [← e]; exact hp)]
    have noC : ∀ {b o}, s.heap.get? b = some o → ∀ n, (n, b) ∉ cellsFrom (s.heap.objs.size + 1) scope.names [] := fun {b o} e n hm => by rw [cfree n b hm] at e; cases e
    have lo := S.size_le
    refine ⟨fun b y e => ?_, ?_⟩
    · rcases layC_at e with ⟨n, hm, rfl⟩ | ⟨_, h2⟩
      · exact (S.free (cfree n b hm)).2
      · exact S.dis b y h2
    · exact {
        frz := fun b o h => hk' b o (Z.frz b o h)
        base := Z.base
        memF := fun b o h => by rw [key (noC (Z.frz b o h))]; exact Z.memF b o h
        memOk := fun b y h => by
          by_cases hb : ∃ n, (n, b) ∈ cellsFrom (s.heap.objs.size + 1) scope.names []
          · obtain ⟨n, hm⟩ := hb
            cases q : layC (fun n => (onlyC (fun n => scope.names.lookup n) bs).lookup n) (cellsFrom (s.heap.objs.size + 1) scope.names []) mem b with
            | some z =>
              rw [mun_l q] at h; cases h
              rcases layC_at q with ⟨n', hm', rfl⟩ | ⟨h1, _⟩
              · exact nodup n' b hm'
              · exact absurd rfl (h1 (n, b) hm)
            | none => rw [mun_r q, (S.free (cfree n b hm)).2] at h; cases h
          · rw [key fun n hm => hb ⟨n, hm⟩] at h
            obtain ⟨o, e, r⟩ := Z.memOk b y h; exact ⟨o, hk' b o e, r⟩
        ns := ⟨_, hns, lL⟩
        nsF := ⟨fun o => fL.2.1 o, by
          show mun _ _ s.heap.objs.size = none
          rw [key fun n hm => Nat.lt_irrefl _ (hfree (n, s.heap.objs.size) hm)]; exact fL.1⟩
        outs := fun q hq => by
          rcases List.mem_cons.mp hq with rfl | hq
          · exact ⟨hn.keeps hk', Z.nsF.1, by
              obtain ⟨o, es, ep, e, _⟩ := hn
              rw [key (noC e)]; exact Z.nsF.2, Ne.symm fL.2.2.1⟩
          · obtain ⟨z, b, c, e⟩ := Z.outs q hq
            obtain ⟨o, es, ep, e', r'⟩ := z
            exact ⟨⟨o, es, ep, hk' _ _ e', r'⟩, b, by rw [key (noC e')]; exact c, fL.2.2.2 q hq⟩
        low := lo
        memLow := fun b y h => by
          by_cases hb : ∃ n, (n, b) ∈ cellsFrom (s.heap.objs.size + 1) scope.names []
          · obtain ⟨n, hm⟩ := hb
            exact Nat.le_trans lo (Nat.le_of_lt (hfree (n, b) hm))
          · rw [key fun n hm => hb ⟨n, hm⟩] at h; exact Z.memLow b y h
        gens := Z.gens
        os := Z.os }
  refine wpAny_mono (h s.heap.objs.size m (fun p hp => (S.free (gC p hp)).1) (S.free gL).1 R F _ S') (fun fl s' hp => ?_) fun e s' he => wpAny_mono he (fun _ _ q => hE _ _ q) fun _ _ q => hE _ _ q
  obtain ⟨F', fl', l', m', i, r, S2, m2, hm2, q⟩ := hp
  have S2 := S2.drop hm2
  have S3 : Sim W env outer loc m2 R F' s' := ⟨S2.dis, S.z.leave l i S2.z⟩
  cases r with
  | next => exact hR F' .none .none m2 s' i .none S3 q
  | brk => exact hR F' .none .none m2 s' i .none S3 q
  | cont => exact hR F' .none .none m2 s' i .none S3 q
  | ret r => exact hR F' _ _ m2 s' i r S3 q
theorem call_fnC {name qual : Str} {params : Arguments} {body : List Stmt} {scope : Scope} {dV kV doc pm cdv ct oc : Value} {an od : Option Addr} {osl : Array (Option Value)} {f : Addr} {xs : List V} {bs : List (Str × V)} {Q : V → Loc → Mem → Prop}
    (ho : W.K.lookup f = some ⟨oc, od, .func (fnOf name qual params body scope dV kV doc pm an cdv ct), osl⟩) (hcd : codeIn W.K cdv qual = true) (hroom : A.depth < recursionLimit)
    (hbind : ∀ (F : Frz) (vs : List Value), VRs W F xs vs → ∃ bv, bindArgs (fnOf name qual params body scope dV kV doc pm an cdv ct) ⟨vs, []⟩ = pure bv ∧ VRp W F bs bv)
    (hk : scope.kind = .function) (hco : scope.isCoroutine = false) (hgen : scope.isGenerator = false)
    (hkind : ∀ x ∈ bs, scope.names.lookup x.1 = some .local ∨ (scope.names.lookup x.1 = some .cell ∧ ∀ n, ((cellsFrom n scope.names []).lookup x.1).isSome = true))
    (hnd : ∀ k, ∀ p ∈ cellsFrom k scope.names [], (cellsFrom k scope.names []).lookup p.1 = some p.2)
    (h : BodyC W A env outer qual scope body cdv f bs mem (fun v m => Q v loc m) E) : Op W A env outer (VR W) (fun vs => call (.ref f) vs) xs loc mem Q E := fun R F s vs S r => by
  obtain ⟨bv, hb, rb⟩ := hbind F vs r
  exact wpAny_call (code_fnC S (S.kin _ _ ho) rfl (codeRec_of S.kin hcd) hroom hb rb hk hco hgen hkind hnd E (fun _ _ e => e) (fun F' v v' m' s' i r S' q => ⟨F', v, loc, m', i, r, S', q⟩) h)
theorem sub_refl (m : Mem) : ∀ a x, m a = some x → m a = some x := fun _ _ h => h
theorem sub_mset {m m' : Mem} {b : Addr} {y : AObj} (h : m b = none) (k : ∀ a x, m' a = some x → m a = some x) : ∀ a x, m' a = some x → mset m b y a = some x := fun a x e => by
  have := k a x e
  rw [mset_ne (nex this h)]; exact this
theorem Op.drop {α β : Type} {RV : Frz → β → α → Prop} {f : List Value → Sem α} {xs : List V} {Q : β → Loc → Mem → Prop} {mem' : Mem} (h : Op W A env outer RV f xs loc mem' Q E) (hm : ∀ a x, mem' a = some x → mem a = some x) : Op W A env outer RV f xs loc mem Q E :=
  fun R F s vs S r => h R F s vs (S.drop hm) r
noncomputable abbrev Sub (m m' : Mem) : Prop := ∀ a x, m a = some x → m' a = some x
noncomputable def LSub (a b : Loc) : Prop := a.map (fun q => b.lookup q.1) = a.map fun q => some q.2
theorem LSub.get {a b : Loc} (h : LSub a b) (x : Str) (v : V) (e : a.lookup x = some v) : b.lookup x = some v := by
  induction a with
  | nil => cases e
  | cons q r ih =>
    have h1 := List.cons.inj h
    rw [List.lookup_cons] at e
    split at e
    · rename_i z; rw [beq_iff_eq.mp z]; cases e; exact h1.1
    · exact ih h1.2 e
theorem Sim.locs {loc' : Loc} (S : Sim W env outer loc mem R F s) (h : LSub loc' loc) : Sim W env outer loc' mem R F s :=
  ⟨S.dis, { S.z with ns := let ⟨m, a, b⟩ := S.z.ns; ⟨m, a, fun x v e => b x v (h.get x v e)⟩ }⟩
theorem Tr.locs {α β : Type} {RV : Frz → β → α → Prop} {t : Sem α} {Q : β → Loc → Mem → Prop} {loc' : Loc} (hl : LSub loc' loc) (h : Tr W A env outer RV t loc' mem Q E) : Tr W A env outer RV t loc mem Q E := fun R F s S => h R F s (S.locs hl)
theorem Op.locs {α β : Type} {RV : Frz → β → α → Prop} {f : List Value → Sem α} {xs : List V} {Q : β → Loc → Mem → Prop} {loc' : Loc} (hl : LSub loc' loc) (h : Op W A env outer RV f xs loc' mem Q E) : Op W A env outer RV f xs loc mem Q E :=
  fun R F s vs S r => h R F s vs (S.locs hl) r
theorem Tr.memS {α β : Type} {RV : Frz → β → α → Prop} {t : Sem α} {Q : β → Loc → Mem → Prop} {mem' : Mem} (hm : Sub mem' mem) (h : Tr W A env outer RV t loc mem' Q E) : Tr W A env outer RV t loc mem Q E := h.drop hm
theorem Op.memS {α β : Type} {RV : Frz → β → α → Prop} {f : List Value → Sem α} {xs : List V} {Q : β → Loc → Mem → Prop} {mem' : Mem} (hm : Sub mem' mem) (h : Op W A env outer RV f xs loc mem' Q E) : Op W A env outer RV f xs loc mem Q E := h.drop hm
theorem comp_map {elt target : PySem.Expr} {ifs : List PySem.Expr} {scope : Scope} {cl : List (Str × Addr)} {x : V} {Q : V → Loc → Mem → Prop} {mem₀ : Mem} {item : Nat → Mem → Option (Option V)}
    (hi : Itr W A target x mem mem₀ item) (items : List V) (hit : ∀ m i, Sub mem₀ m → i ≤ items.length → item i m = some items[i]?) (hz : items.length ≤ sizeLine) (g : V → Option V)
    (turn : ∀ (C : Addr) (outer' : Outs) (i : Nat) (v : V), items[i]? = some v → Asg W A (compEnvC scope cl C env) outer' target v [] mem₀ (fun l m => CompTurn W A (compEnvC scope cl C env) outer' ifs elt l m (fun y m => y = g v ∧ Sub mem₀ m)) Ex.no)
    (h : ∀ D, mem₀ D = none → Q (.ref D) loc (mset mem₀ D (.list (items.filterMap g)))) : CompOk W A env elt target ifs scope cl loc mem x Q := .mk (item) (mem₀) (hi)
  (fun k i ys m => k + i = items.length ∧ ys = (items.take i).filterMap g ∧ Sub mem₀ m)
  (fun k i ys m hI => by
    obtain ⟨h1, rfl, _⟩ := hI
    refine Nat.le_trans (List.length_filterMap_le _ _) (Nat.le_trans ?_ hz)
    rw [List.length_take]; exact Nat.min_le_right _ _)
  (fun C outer' k i ys m l hI => by
    obtain ⟨h1, rfl, hs⟩ := hI
    have e := hit m i hs (by omega)
    refine ⟨by rw [e]; exact fun q => (nomatch q), fun q D hD => ?_, fun v q => ?_⟩
    · rw [e] at q
      have hn : items[i]? = none := Option.some.inj q
      rw [List.getElem?_eq_none_iff] at hn
      have hD0 : mem₀ D = none := by
        cases z : mem₀ D with
        | none => rfl
        | some y => rw [hs D y z] at hD; cases hD
      refine ⟨_, fun a y hy => ?_, h D hD0⟩
      unfold mset at hy ⊢
      split at hy
      · rename_i z; rw [if_pos z, List.take_of_length_le hn]; exact hy
      · rename_i z; rw [if_neg z]; exact hs a y hy
    · rw [e] at q
      have hv : items[i]? = some v := Option.some.inj q
      have hlt : i < items.length := by rw [List.getElem?_eq_some_iff] at hv; exact hv.1
      have tk : (items.take (i + 1)).filterMap g = (items.take i).filterMap g ++ (match g v with | some y => [y] | none => []) := by
        have hget : items[i] = v := by rw [List.getElem?_eq_getElem hlt] at hv; exact Option.some.inj hv
        rw [List.take_succ_eq_append_getElem hlt, List.filterMap_append, hget]
        cases hg : g v with
        | none => simp [hg]
        | some y => simp [hg]
      have t := turn C outer' i v hv
      refine Op.memS hs (Op.locs (loc' := []) rfl ?_)
      refine fun R F s vs S r => wpAny_mono (t R F s vs S r) (fun _ s' ⟨F', x, l', m', a, b, c, d⟩ => ⟨F', x, l', m', a, b, c, ?_⟩) fun _ _ e => e
      have fin : ∀ y (m'' : Mem), (y = g v ∧ Sub mem₀ m'') → (match y with
          | some y => ∃ k', k' < k ∧ k' + (i + 1) = items.length ∧ (items.take i).filterMap g ++ [y] = (items.take (i + 1)).filterMap g ∧ Sub mem₀ m''
          | none => ∃ k', k' < k ∧ k' + (i + 1) = items.length ∧ (items.take i).filterMap g = (items.take (i + 1)).filterMap g ∧ Sub mem₀ m'') := fun y m'' ⟨h2, h3⟩ => by
        rw [tk, ← h2]
        cases y with
        | some y => exact ⟨k - 1, by omega, by omega, rfl, h3⟩
        | none => exact ⟨k - 1, by omega, by omega, by simp, h3⟩
      match ifs, d with
      | [], d => exact Tr.mono d fun y l m q => fin (some y) m q
      | [c], d => exact Tr.mono d fun b l m q => ⟨fun hb => Tr.mono (q.1 hb) fun y l m q => fin (some y) m q, fun hb => fin none m (q.2 hb)⟩
      | _ :: _ :: _, d => exact d)
  (items.length)
  (⟨rfl, by simp, fun _ _ h => h⟩)
end
end Mine
end
section
set_option autoImplicit false
namespace Mine
theorem pct_emptyM (t u : Tok) : ∀ z : PySem.Str, z.length ≤ 1000000 → Meets (Builtin.«str.__mod__» ⟨[.str ⟨(Str.ofString "%s -> <empty>").cps⟩ t, .str z u], []⟩) (fun _ R s => ∀ t' k, R (.ok (.ret (.str ((fun n => n ++ (" -> <empty>" : Str)) z) t'))) { s with toks := k }) := by
  have e : (⟨(Str.ofString "%s -> <empty>").cps⟩ : Str) = ⟨#[37, 115, 32, 45, 62, 32, 60, 101, 109, 112, 116, 121, 62]⟩ := by decide +kernel
  rw [e]
  k_dflt kpc_run_s
section
variable {W : Wd} {A : Around} {env : Env} {outer : Outs} {loc : Loc} {mem R : Mem} {E : Ex W} {F : Frz} {s : Shared}
theorem pct_empty {x : Str} {Q : V → Loc → Mem → Prop} (hx : x.length ≤ 1000000) (h : Q (.str (x ++ (" -> <empty>" : Str))) loc mem) :
    OpV W A env outer (fun | [x, y] => binaryOp .Mod x y | _ => pure .none) [.str "%s -> <empty>", .str x] loc mem Q E := op2 fun R F s v u S r1 r2 => by
  cases r1.view; cases r2.view
  exact KPc.mod_str (T := fun n => n ++ (" -> <empty>" : Str)) rfl hx (pct_emptyM _ _) fun t' k => Post.mk (.str _ _) S.tick h
end
end Mine
end
section
set_option autoImplicit false
namespace Mine
section
variable {W : Wd} {A : Around} {env : Env} {outer : Outs} {loc : Loc} {mem R : Mem} {E : Ex W} {F : Frz} {s : Shared}
end
end Mine
end
section
set_option autoImplicit false
namespace Mine
section
variable {W : Wd} {A : Around} {env : Env} {outer : Outs} {loc : Loc} {mem R : Mem} {E : Ex W} {F : Frz} {s : Shared}
noncomputable def Shift (W : Wd) (v : V) (m : Mem) (v' : V) (m' : Mem) : Prop := ∀ (env : Env) (outer : Outs) (loc : Loc) (R : Mem) (F : Frz) (s : Shared) (u : Value), Sim W env outer loc m R F s → VR W F v u → ∃ F', Incl F F' ∧ Sim W env outer loc m' R F' s ∧ VR W F' v' u
theorem Tr.shift {t : Sem Value} {Q : V → Loc → Mem → Prop} (h : TrV W A env outer t loc mem (fun v l m => ∃ v' m', Shift W v m v' m' ∧ Q v' l m') E) : TrV W A env outer t loc mem Q E := fun R F s S =>
  after (RW := VR W) (Q := fun _ _ _ => True) (h R F s S) fun u s1 F1 v l1 m1 i1 r1 S1 ⟨v', m', sh, q⟩ => by
    obtain ⟨F', i2, S2, r2⟩ := sh _ _ _ _ _ _ _ S1 r1
    exact ⟨F', v', l1, m', i1.trans i2, r2, S2, q⟩
theorem Op.shift {f : List Value → Sem Value} {xs : List V} {Q : V → Loc → Mem → Prop} (h : OpV W A env outer f xs loc mem (fun v l m => ∃ v' m', Shift W v m v' m' ∧ Q v' l m') E) : OpV W A env outer f xs loc mem Q E := fun R F s vs S r =>
  after (RW := VR W) (Q := fun _ _ _ => True) (h R F s vs S r) fun u s1 F1 v l1 m1 i1 r1 S1 ⟨v', m', sh, q⟩ => by
    obtain ⟨F', i2, S2, r2⟩ := sh _ _ _ _ _ _ _ S1 r1
    exact ⟨F', v', l1, m', i1.trans i2, r2, S2, q⟩
theorem Sim.settleAll {m' : Mem} {P : Addr → Prop} (S : Sim W env outer loc mem R F s) (hP : ∀ a, P a → ∃ x, mem a = some x) (hs : Sub m' mem) (hn : ∀ a, P a → m' a = none) :
    Sim W env outer loc m' R (fun a o => F a o ∨ (P a ∧ s.heap.get? a = some o)) s := by
  have Z := S.z
  have dn : ∀ {a}, mun mem R a = none → mun m' R a = none := fun {a} e => by
    obtain ⟨h1, h2⟩ := mun_none e
    have : m' a = none := by
      cases q : m' a with
      | none => rfl
      | some y => rw [hs a y q] at h1; cases h1
    rw [mun_r this]; exact h2
  have no : ∀ {a}, mun mem R a = none → ¬ P a := fun {a} e p => by
    obtain ⟨x, hx⟩ := hP a p
    rw [mun_l hx] at e; cases e
  refine ⟨fun a x e => S.dis a x (hs a x e), ?_⟩
  exact {
    frz := fun a o h => by rcases h with h | ⟨_, h⟩; exact Z.frz a o h; exact h
    base := fun a o h => .inl (Z.base a o h)
    memF := fun a o h => by
      rcases h with h | ⟨p, h⟩
      · exact dn (Z.memF a o h)
      · obtain ⟨x, hx⟩ := hP a p
        rw [mun_r (hn a p)]; exact S.dis a x hx
    memOk := fun a y h => by
      have : mun mem R a = some y := by
        cases q : m' a with
        | some z => rw [mun_l q] at h; rw [mun_l (hs a z q)]; exact h
        | none =>
          rw [mun_r q] at h
          cases q' : mem a with
          | none => rw [mun_r q']; exact h
          | some z => rw [S.dis a z q'] at h; cases h
      obtain ⟨o, e, r⟩ := Z.memOk a y this
      exact ⟨o, e, r.mono fun _ _ h => .inl h⟩
    ns := let ⟨m, z, b⟩ := Z.ns; ⟨m, z, LocRel.mono (fun _ _ h => .inl h) b⟩
    nsF := ⟨fun o h => by rcases h with h | ⟨p, _⟩; exact Z.nsF.1 o h; exact no Z.nsF.2 p, dn Z.nsF.2⟩
    outs := fun q hq => by
      obtain ⟨z, b, c, e⟩ := Z.outs q hq
      exact ⟨z, fun o h => by rcases h with h | ⟨p, _⟩; exact b o h; exact no c p, dn c, e⟩
    low := Z.low
    memLow := fun a y h => by
      cases q : m' a with
      | some z => exact Z.memLow a z (mun_l (hs a z q))
      | none =>
        rw [mun_r q] at h
        cases q' : mem a with
        | none => exact Z.memLow a y (by rw [mun_r q']; exact h)
        | some z => rw [S.dis a z q'] at h; cases h
    gens := Z.gens
    os := Z.os }
theorem mem_of_lookup' {L : List (Addr × List V)} {a : Addr} {xs : List V} (h : L.lookup a = some xs) : (a, xs) ∈ L := by
  induction L with
  | nil => cases h
  | cons p L ih =>
    obtain ⟨b, ys⟩ := p
    rw [List.lookup_cons] at h
    split at h
    · rename_i e; cases h; rw [beq_iff_eq.mp e]; exact .head _
    · exact .tail _ (ih h)
noncomputable def cvt (L : List (Addr × List V)) : V → V
  | .ref a => (match L.lookup a with | some xs => .lst xs | none => .ref a)
  | v => v
theorem Shift.inst {x C d : Addr} {m m' : Mem} {es : List (Str × V)} {ep : Nat} (L : List (Addr × List V)) (hx : m x = some (.inst C d)) (hd : m d = some (.dict es ep)) (hL : ∀ p ∈ L, m p.1 = some (.list p.2)) (hs : Sub m' m)
    (nx : m' x = none) (nd : m' d = none) (nL : ∀ p ∈ L, m' p.1 = none) : Shift W (.ref x) m (.ins C (es.map fun p => (p.1, cvt L p.2))) m' := fun env outer loc R F s u S r => by
  cases r.view
  obtain ⟨o1, h1, q1⟩ := S.memOk _ _ hx
  obtain ⟨o2, h2, q2⟩ := S.memOk _ _ hd
  cases q1.view
  cases q2 with
  | @dict _ ds _ kvs k q =>
    have Lmem : ∀ {a xs}, L.lookup a = some xs → (a, xs) ∈ L := fun e => mem_of_lookup' e
    refine ⟨_, fun _ _ h => .inl h, S.settleAll (P := fun b => b = x ∨ b = d ∨ ∃ p ∈ L, p.1 = b) ?_ hs ?_, .ins (.inr ⟨.inl rfl, h1⟩) (.inr ⟨.inr (.inl rfl), h2⟩) k ?_⟩
    · rintro b (rfl | rfl | ⟨p, hp, rfl⟩)
      · exact ⟨_, hx⟩
      · exact ⟨_, hd⟩
      · exact ⟨_, hL p hp⟩
    · rintro b (rfl | rfl | ⟨p, hp, rfl⟩)
      · exact nx
      · exact nd
      · exact nL p hp
    · clear k h2 hd nd
      induction es generalizing kvs with
      | nil => cases q.view; exact .nil
      | cons e es ih =>
        cases q with
        | @cons kk v val xs vs r1 r2 =>
          refine .cons ?_ (ih r2)
          cases v with
          | ref a =>
            cases r1.view
            show VR W _ (match L.lookup a with | some xs => .lst xs | none => .ref a) _
            cases hl : L.lookup a with
            | none => exact .ref a
            | some xs =>
              obtain ⟨o, ho, q⟩ := S.memOk _ _ (hL _ (Lmem hl))
              cases q with
              | list q => exact .lst (.inr ⟨.inr (.inr ⟨_, Lmem hl, rfl⟩), ho⟩) (q.mono fun _ _ h => .inl h)
          | none => exact r1.mono fun _ _ h => .inl h
          | bool => exact r1.mono fun _ _ h => .inl h
          | int => exact r1.mono fun _ _ h => .inl h
          | str => exact r1.mono fun _ _ h => .inl h
          | tup => exact r1.mono fun _ _ h => .inl h
          | lst => exact r1.mono fun _ _ h => .inl h
          | ins => exact r1.mono fun _ _ h => .inl h
          | glob => exact r1.mono fun _ _ h => .inl h
end
end Mine
end
section
set_option autoImplicit false
namespace Mine
noncomputable def IDENT : Str := "abcdefghijklmnopqrstuvwxyzABCDEFGHIJKLMNOPQRSTUVWXYZ0123456789_-"
noncomputable def chars (x : Str) : List Str := x.cps.toList.map fun c => ⟨#[c]⟩
noncomputable def isIdent (x : Str) : Bool := decide (0 < x.cps.size) && (chars x).all fun c => strIn c IDENT
noncomputable def rmost (terms : List Str) (syms : List Str) : Option Str := syms.reverse.find? fun s => terms.contains s
noncomputable def dedup (ys : List Str) : List Str := ys.foldl (fun acc y => if y ∈ acc then acc else acc ++ [y]) []
noncomputable def ruleText (name : Str) (syms : List Str) : Str := if syms.isEmpty then name ++ (" -> <empty>" : Str) else name ++ (" -> " : Str) ++ Txt.join (" " : Str) syms
noncomputable def mapText (name : Str) (syms : List Str) : Str := name ++ (" -> " : Str) ++ (PyData.list (syms.map .str)).shown
noncomputable def vStrs (ys : List Str) : List V := ys.map .str
noncomputable def prodAttrs (num : V) (name : Str) (syms : List Str) (prec func file line : V) : List (Str × V) :=
  [("name", .str name), ("prod", .tup (vStrs syms)), ("number", num), ("func", func), ("callable", .none), ("file", file), ("line", line), ("prec", prec), ("len", .int syms.length), ("usyms", .lst (vStrs (dedup syms))), ("lr_items", .lst []), ("lr_next", .none), ("str", .str (ruleText name syms))]
section
variable {W : Wd} {A : Around} {env : Env} {outer : Outs} {loc : Loc} {mem R : Mem} {E : Ex W} {F : Frz} {s : Shared}
theorem set_field' {x C d : Addr} {es : List (Str × V)} {ep : Nat} {name : Str} {v : V} {Q : Loc → Mem → Prop} (h1 : mem x = some (.inst C d)) (h2 : mem d = some (.dict es ep))
    (hs : findIn W.K (.ref C) "__setattr__" = some (some (.builtin "object.__setattr__"))) (hp : plainOver W.K C = true) (ht : takerIn W.K C name = some none) (hh : hasDictIn W.K C = true) (hz : es.length ≤ 900)
    (h : ∀ (m' : Mem) (ep' : Nat), m' x = some (.inst C d) → m' d = some (.dict (stA es name v) ep') → (∀ a, a ≠ d → m' a = mem a) → Q loc m') :
    Op W A env outer (fun _ (_ _ : Unit) => True) (fun | [y, z] => setAttr y name z | _ => pure ()) [.ref x, v] loc mem (fun _ => Q) E :=
  set_field h1 h2 hs hp ht hh hz fun ep' => h _ ep' (by
    have : x ≠ d := fun e => by rw [e, h2] at h1; cases h1
    rw [mset_ne this]; exact h1) (mset_self _ _ _) fun a ha => mset_ne ha
noncomputable def getOk (K : Frag) (C : Addr) (name : Str) : Bool := plainGet K C name && hasDictIn K C && (findIn K (.ref C) name).any (noGet K)
noncomputable def setOk (K : Frag) (C : Addr) (name : Str) : Bool := (match findIn K (.ref C) "__setattr__" with | some (some (.builtin b)) => b == "object.__setattr__" | _ => false) && plainOver K C && (match takerIn K C name with | some none => true | _ => false) && hasDictIn K C
theorem get_o {K0 : Params → Frag} {v : V} {C : Addr} {es : List (Str × V)} {name : Str} {expr : Bool} {x : V} {Q : V → Loc → Mem → Prop} (hK : W.K = K0 W.w.params) (f : ∀ P, getOk (K0 P) C name = true) (I : Inst W mem v C es) (hl : getA es name = some x) (hv : okV x = true) (h : Q x loc mem) :
    Op W A env outer (VR W) (fun | [y] => getAttr y name expr | _ => pure .none) [v] loc mem Q E := by
  have f := f W.w.params
  rw [← hK] at f
  unfold getOk at f
  rw [Bool.and_eq_true, Bool.and_eq_true] at f
  cases q : findIn W.K (.ref C) name with
  | none => rw [q] at f; cases f.2
  | some attr => rw [q] at f; exact get_field I f.1.1 f.1.2 q f.2 hl hv h
theorem set_o {K0 : Params → Frag} {x C d : Addr} {es : List (Str × V)} {ep : Nat} {name : Str} {v : V} {Q : Loc → Mem → Prop} (hK : W.K = K0 W.w.params) (f : ∀ P, setOk (K0 P) C name = true) (h1 : mem x = some (.inst C d)) (h2 : mem d = some (.dict es ep)) (hz : Nat.ble es.length 900 = true)
    (h : ∀ (m' : Mem) (ep' : Nat), m' x = some (.inst C d) → m' d = some (.dict (stA es name v) ep') → (∀ a, a ≠ d → m' a = mem a) → Q loc m') :
    Op W A env outer (fun _ (_ _ : Unit) => True) (fun | [y, z] => setAttr y name z | _ => pure ()) [.ref x, v] loc mem (fun _ => Q) E := by
  have f := f W.w.params
  rw [← hK] at f
  unfold setOk at f
  rw [Bool.and_eq_true, Bool.and_eq_true, Bool.and_eq_true] at f
  refine set_field' h1 h2 ?_ f.1.1.2 ?_ f.2 (Nat.le_of_ble_eq_true hz) h
  · have g := f.1.1.1
    split at g
    · rename_i b e; rw [e, eq_of_beq g]
    · cases g
  · have g := f.1.2
    split at g
    · assumption
    · cases g
theorem sub_sq {v x : V} {T : String} {xs : List V} {k : Int} {Q : V → Loc → Mem → Prop} (q : Sq mem v T xs) (h0 : 0 ≤ k) (hk : k < 2 ^ 63) (hx : xs[k.toNat]? = some x) (h : Q x loc mem) :
    ∃ T id, Ty mem v T ∧ typeLookup (.type T) "__getitem__" = pure (some (.builtin id)) ∧ OpV W A env outer (fun | [x, y] => getItem x y | _ => pure .none) [v, .int k] loc mem Q E := by
  rcases q.kind with rfl | rfl
  · exact ⟨_, _, q.ty, PySem.F.slot_list_getitem.lookup, getItem_sq q h0 hk hx h⟩
  · exact ⟨_, _, q.ty, PySem.F.slot_tuple_getitem.lookup, getItem_sq q h0 hk hx h⟩
theorem sub_dict {a : Addr} {es : List (Str × V)} {ep : Nat} {k : Str} {x : V} {Q : V → Loc → Mem → Prop} (hm : mem a = some (.dict es ep)) (hx : getA es k = some x) (h : Q x loc mem) :
    ∃ T id, Ty mem (.ref a) T ∧ typeLookup (.type T) "__getitem__" = pure (some (.builtin id)) ∧ OpV W A env outer (fun | [x, y] => getItem x y | _ => pure .none) [.ref a, .str k] loc mem Q E :=
  ⟨_, _, .dict hm, PySem.F.slot_dict_getitem.lookup, getItem_dict hm hx h⟩
theorem sub_str {x : Str} {i : Int} {c : Nat} {Q : V → Loc → Mem → Prop} (hr : (decide (i < -(2 ^ 63 : Int)) || decide (i ≥ 2 ^ 63)) = false) (hc : (seqIndex? i x.length).bind (x.cps[·]?) = some c) (h : Q (.str ⟨#[c]⟩) loc mem) :
    ∃ T id, Ty mem (.str x) T ∧ typeLookup (.type T) "__getitem__" = pure (some (.builtin id)) ∧ OpV W A env outer (fun | [x, y] => getItem x y | _ => pure .none) [.str x, .int i] loc mem Q E :=
  ⟨_, _, .str x, PySem.F.slot_str_getitem.lookup, getItem_s hr hc h⟩
theorem ge_ii {a b : Int} {Q : V → Loc → Mem → Prop} (h : Q (.bool (decide (b ≤ a))) loc mem) : OpV W A env outer (fun | [x, y] => compareOp .GtE x y | _ => pure .none) [.int a, .int b] loc mem Q E := op2 fun R F s v u S r1 r2 => by
  cases r1.view; cases r2.view; exact PyProof.Rows.ge_int (Post.mk (.bool _) S h)
theorem Sq.mono {m m' : Mem} {v : V} {T : String} {xs : List V} (q : Sq m v T xs) (h : Sub m m') : Sq m' v T xs := by
  cases q with
  | lst xs => exact .lst xs
  | tup xs => exact .tup xs
  | own e => exact .own (h _ _ e)
noncomputable def TrJ (W : Wd) (A : Around) (env : Env) (outer : Outs) : List PySem.Expr → Str → Loc → Mem → (V → Loc → Mem → Prop) → Ex W → Prop
  | [], acc, loc, mem, Q, _ => Q (.str acc) loc mem
  | e :: es, acc, loc, mem, Q, E => TrV W A env outer (eval e env) loc mem (fun v l m => ∃ y, v = .str y ∧ (acc ++ y).length ≤ sizeLine ∧ TrJ W A env outer es (acc ++ y) l m Q E) E
theorem TrJ.run : ∀ {es : List PySem.Expr} {acc : Str} {loc : Loc} {mem : Mem} {Q : V → Loc → Mem → Prop} {F0 F : Frz} {s : Shared}, TrJ W A env outer es acc loc mem Q E → acc.length ≤ sizeLine → Incl F0 F → Sim W env outer loc mem R F s →
    Joins (model W.prog W.w) A (E.p R F0) (evalEach es env) acc (fun out s₁ => out.length ≤ sizeLine ∧ Post W env outer (VR W) R F0 Q (.str out s₁.toks) { s₁ with toks := s₁.toks + 1 }) s
  | [], _, _, _, _, _, F, _, h, hz, i, S => ⟨hz, F, _, _, _, i, .str _ _, S.tick, h⟩
  | e :: es, acc, _, _, _, _, F, _, h, hz, i, S => by
    show wpAny _ _ _ _ _ _
    refine after (RW := VR W) (Q := fun _ _ _ => True) (h R F _ S) fun u s1 F1 v l1 m1 i1 r1 S1 ⟨y, e1, z, h1⟩ => ?_
    subst e1
    cases r1.view
    exact ⟨y, _, rfl, z, TrJ.run h1 z (i.trans i1) S1⟩
theorem e_joined {v₁ v₂ : PySem.Expr} {rest : List PySem.Expr} {pos : Pos} {Q : V → Loc → Mem → Prop} (h : TrJ W A env outer (v₁ :: v₂ :: rest) Str.empty loc mem Q E) : TrV W A env outer (eval (.JoinedStr (v₁ :: v₂ :: rest) pos) env) loc mem Q E := fun R F s S =>
  wpAny_JoinedStr (TrJ.run h (by decide) (Incl.refl F) S)
noncomputable def ShowK (W : Wd) (A : Around) (env : Env) (outer : Outs) (v : V) (loc : Loc) (mem : Mem) (Q : V → Loc → Mem → Prop) (E : Ex W) : Prop :=
  ∀ R F s v', Sim W env outer loc mem R F s → VR W F v v' → wpAny (model W.prog W.w) A (convS v') (fun r s₂ => wpAny (model W.prog W.w) A (formatField r Str.empty) (Post W env outer (VR W) R F Q) (E.p R F) s₂) (E.p R F) s
theorem e_fv_s {value : PySem.Expr} {pos : Pos} {Q : V → Loc → Mem → Prop} (h : TrV W A env outer (eval value env) loc mem (fun v l m => ShowK W A env outer v l m Q E) E) :
    TrV W A env outer (eval (.FormattedValue value 115 none pos) env) loc mem Q E := fun R F s S =>
  wpAny_FormattedValue_s (after (RW := VR W) (Q := fun _ _ _ => True) (h R F s S) fun u s1 F1 v l1 m1 i1 r1 S1 h1 =>
    wpAny_mono (h1 R F1 s1 u S1 r1) (fun _ _ h => wpAny_mono h (fun _ _ p => p.weaken i1) fun _ _ e => E.up i1 e) fun _ _ e => E.up i1 e)
theorem show_str {x : Str} {Q : V → Loc → Mem → Prop} (hz : x.length ≤ sizeLine) (h : Q (.str x) loc mem) : ShowK W A env outer (.str x) loc mem Q E := fun R F s v S r => by
  cases r.view
  exact SB.convS_str (fun t' k => PyProof.Rows.formatField_str (fun t2 k2 => Post.mk (.str _ _) S.tick h) hz) hz
theorem show_list {v : V} {xs : List V} {n : Nat} {Q : V → Loc → Mem → Prop} (hg : A.guards = some []) (q : Sq mem v "list" xs) (hxs : xs.all (isD n) = true) (hu : A.units + (PyData.list (xs.map (toPy n))).depth + 5 < cLine)
    (hd : (PyData.list (xs.map (toPy n))).shown.length ≤ sizeLine) (hs : (PyData.list (xs.map (toPy n))).showable = true) (hnd : (PyData.list (xs.map (toPy n))).hasDict = false)
    (h : Q (.str (PyData.list (xs.map (toPy n))).shown) loc mem) : ShowK W A env outer v loc mem Q E := fun R F s v' S r => by
  obtain ⟨as, ra⟩ := q.reads hxs S r
  obtain ⟨l, ls, ln, rfl, _, _⟩ := q.at S r
  refine convS_of_reads ra hs (fun e => by rw [hnd] at e; cases e) hg (by omega) (fun _ _ e => e) (fun h' u tk hk => ?_) hd
  exact PyProof.Rows.formatField_str (fun t2 k2 => Post.mk (.str _ _) (S.grow (t := k2) (d := s.drawn) hk) h) hd
theorem isD_strs {n : Nat} {ys : List Str} (h : ys.all PyData.strOk = true) : (vStrs ys).all (isD n) = true := by
  unfold vStrs
  rw [List.all_map, List.all_eq_true]
  intro y hy
  have := List.all_eq_true.mp h y hy
  cases n <;> exact this
end
section
variable {W : Wd} {A : Around} {env : Env} {outer : Outs} {loc : Loc} {mem R : Mem} {E : Ex W} {F : Frz} {s : Shared}
theorem new_own' {xs : List V} {Q : V → Loc → Mem → Prop} (hz : xs.length ≤ sizeLine) (h : ∀ a m', mem a = none → m' a = some (.list xs) → (∀ b, b ≠ a → m' b = mem b) → Q (.ref a) loc m') : OpV W A env outer newList xs loc mem Q E :=
  new_own hz fun a ha => h a _ ha (mset_self _ _ _) fun b hb => mset_ne hb
theorem append_own' {a : Addr} {xs : List V} {x : V} {Q : V → Loc → Mem → Prop} (h1 : mem a = some (.list xs)) (hz : xs.length ≤ sizeLine) (h : ∀ m', m' a = some (.list (xs ++ [x])) → (∀ b, b ≠ a → m' b = mem b) → Q .none loc m') :
    OpV W A env outer (fun vs => call (.builtin "list.append") vs) [.ref a, x] loc mem Q E := append_own h1 hz (h _ (mset_self _ _ _) fun b hb => mset_ne hb)
theorem e_dict0' {pos : Pos} {Q : V → Loc → Mem → Prop} (h : ∀ a m', mem a = none → m' a = some (.dict [] 0) → (∀ b, b ≠ a → m' b = mem b) → Q (.ref a) loc m') : TrV W A env outer (eval (.Dict [] [] pos) env) loc mem Q E :=
  e_dict0 fun a ha => h a _ ha (mset_self _ _ _) fun b hb => mset_ne hb
theorem setItem_dict' {a : Addr} {es : List (Str × V)} {ep : Nat} {k : Str} {x : V} {Q : Loc → Mem → Prop} (hm : mem a = some (.dict es ep)) (hz : es.length ≤ sizeLine) (h : ∀ (m' : Mem) (ep' : Nat), m' a = some (.dict (stA es k x) ep') → (∀ b, b ≠ a → m' b = mem b) → Q loc m') :
    OpU W A env outer (fun | [x, y, z] => setItem x y z | _ => pure ()) [.ref a, .str k, x] loc mem Q E := setItem_dict hm hz fun ep' => h _ ep' (mset_self _ _ _) fun b hb => mset_ne hb
theorem Sub.new {m0 m m' : Mem} {a : Addr} (h : Sub m0 m) (ha : m a = none) (hf : ∀ b, b ≠ a → m' b = m b) : Sub m0 m' := fun b y e => by
  have := h b y e
  rw [hf b (nex this ha)]; exact this
theorem Sub.upd {m0 m m' : Mem} {a : Addr} (h : Sub m0 m) (ha : m0 a = none) (hf : ∀ b, b ≠ a → m' b = m b) : Sub m0 m' := fun b y e => by
  rw [hf b (nex e ha)]; exact h b y e
theorem Sub.none {m0 m : Mem} {a : Addr} (h : Sub m0 m) (ha : m a = none) : m0 a = none := by
  cases q : m0 a with
  | none => rfl
  | some y => rw [h a y q] at ha; cases ha
end
theorem Calm.fit {A : Around} {d u : Nat} (c : Calm A d u) (h : u ≤ 9800) : A.units + 65 < cLine := Nat.lt_of_le_of_lt (Nat.add_le_add_right (Nat.le_trans c.units h) 65) (by decide)
theorem Calm.room {A : Around} {d u : Nat} (c : Calm A d u) (h : d < 1000) : A.depth < recursionLimit := Nat.lt_of_le_of_lt c.depth h
noncomputable def notRef : V → Bool
  | .ref _ => false
  | _ => true
theorem cvt_id (L : List (Addr × List V)) {v : V} (h : notRef v = true) : cvt L v = v := by cases v <;> first | rfl | cases h
theorem sum_len {ys : List Str} {B : Nat} (h : ∀ y ∈ ys, y.cps.size ≤ B) : (ys.map (·.length)).sum ≤ ys.length * B := by
  induction ys with
  | nil => simp
  | cons y ys ih =>
    have h1 : y.length ≤ B := h y (.head _)
    have h2 := ih fun z hz => h z (.tail _ hz)
    simp only [List.map_cons, List.sum_cons, List.length_cons, Nat.succ_mul]
    omega
theorem join_len {ys : List Str} {B : Nat} (h : ∀ y ∈ ys, y.cps.size ≤ B) : (Txt.join (" " : Str) ys).length ≤ ys.length * (B + 1) := by
  show (PySem.Builtin.Str.glued (" " : Str) ys).length ≤ _
  rw [StrLaws.glued_eq_join]
  refine Nat.le_trans (StrLaws.join_length_le _ _) ?_
  have := sum_len h
  have e : (Str.ofString " ").length = 1 := by decide +kernel
  rw [e, Nat.mul_add]
  omega
theorem empty_app (x : Str) : Str.empty ++ x = x := KPc.empty_app x
theorem len_app (x y : Str) : (x ++ y).length = x.length + y.length := strLen_append x y
theorem dedup_snoc (ys : List Str) (y : Str) : dedup (ys ++ [y]) = if y ∈ dedup ys then dedup ys else dedup ys ++ [y] := by unfold dedup; rw [List.foldl_append]; rfl
theorem dedup_sub (ys : List Str) : ∀ y ∈ dedup ys, y ∈ ys := by
  unfold dedup
  suffices h : ∀ (ys acc : List Str) (S : List Str), (∀ y ∈ acc, y ∈ S) → (∀ y ∈ ys, y ∈ S) → ∀ y ∈ ys.foldl (fun acc y => if y ∈ acc then acc else acc ++ [y]) acc, y ∈ S from h ys [] ys (fun y h => (nomatch h)) fun y h => h
  intro ys
  induction ys with
  | nil => intro acc S h1 h2 y hy; exact h1 y hy
  | cons z ys ih =>
    intro acc S h1 h2
    refine ih _ S ?_ fun y hy => h2 y (.tail _ hy)
    intro y hy
    dsimp only at hy
    split at hy
    · exact h1 y hy
    · rcases List.mem_append.mp hy with h | h
      · exact h1 y h
      · rw [List.mem_singleton.mp h]; exact h2 z (.head _)
theorem dedup_len (ys : List Str) : (dedup ys).length ≤ ys.length := by
  unfold dedup
  suffices h : ∀ (ys acc : List Str), (ys.foldl (fun acc y => if y ∈ acc then acc else acc ++ [y]) acc).length ≤ acc.length + ys.length by simpa using h ys []
  intro ys
  induction ys with
  | nil => intro acc; exact Nat.le_refl _
  | cons z ys ih =>
    intro acc
    refine Nat.le_trans (ih _) ?_
    dsimp only
    split <;> simp <;> omega
theorem vStrs_mem {y : Str} {ys : List Str} : V.str y ∈ vStrs ys ↔ y ∈ ys := by
  unfold vStrs
  rw [List.mem_map]
  exact ⟨fun ⟨z, hz, e⟩ => by cases e; exact hz, fun h => ⟨y, h, rfl⟩⟩
theorem vStrs_get {ys : List Str} {k : Nat} {y : Str} (e : ys[k]? = some y) : (vStrs ys)[k]? = some (.str y) := by unfold vStrs; rw [List.getElem?_map, e]; rfl
theorem vStrs_len (ys : List Str) : (vStrs ys).length = ys.length := by simp [vStrs]
theorem take_snoc {α : Type} {ys : List α} {k : Nat} {y : α} (e : ys[k]? = some y) : ys.take (k + 1) = ys.take k ++ [y] := by
  have hlt : k < ys.length := by rw [List.getElem?_eq_some_iff] at e; exact e.1
  have hget : ys[k] = y := by rw [List.getElem?_eq_getElem hlt] at e; exact Option.some.inj e
  rw [List.take_succ_eq_append_getElem hlt, hget]
end Mine
end
section
namespace Mine
theorem kst {k i n : Nat} (h : k + i = n) (hi : i < n) : k - 1 < k ∧ k - 1 + (i + 1) = n := by omega
noncomputable abbrev hdK : Params → Frag := lawHeap
noncomputable abbrev aIsId : Addr := 39
noncomputable abbrev aRmost : Addr := 111
noncomputable abbrev aGrammar : Addr := 248
noncomputable abbrev aProd : Addr := 100
noncomputable abbrev aProdInit : Addr := 62
noncomputable abbrev aGInit : Addr := 137
noncomputable abbrev aAdd : Addr := 166
noncomputable abbrev aStart : Addr := 174
noncomputable def isId.body : List Stmt := stBody (stAt pw.main.body 3)
noncomputable def isId.scope : Scope := stScope (stAt pw.main.body 3)
noncomputable def isId.params : Arguments := stArgs (stAt pw.main.body 3)
noncomputable def isId.code : Value := (Value.ref 38)
theorem isId.at (P : Params) : List.lookup 39 (lawHeap P) = some (Obj.mk (Value.type "function") none (Data.func (fnOf (Str.ofString "_is_identifier") (Str.ofString "_is_identifier") isId.params isId.body isId.scope (Value.none) (Value.none) (Value.none) (Value.str (Str.ofString "ply.yacc") 194) (none) isId.code (Value.none))) #[]) := by kernel_rfl
noncomputable def rmostF.body : List Stmt := stBody (stAt pw.main.body 7)
noncomputable def rmostF.scope : Scope := stScope (stAt pw.main.body 7)
noncomputable def rmostF.params : Arguments := stArgs (stAt pw.main.body 7)
noncomputable def rmostF.code : Value := (Value.ref 110)
theorem rmostF.at (P : Params) : List.lookup 111 (lawHeap P) = some (Obj.mk (Value.type "function") none (Data.func (fnOf (Str.ofString "rightmost_terminal") (Str.ofString "rightmost_terminal") rmostF.params rmostF.body rmostF.scope (Value.none) (Value.none) (Value.none) (Value.str (Str.ofString "ply.yacc") 194) (none) rmostF.code (Value.none))) #[]) := by kernel_rfl
noncomputable def prodInit.body : List Stmt := stBody (stAt (stBody (stAt pw.main.body 6)) 2)
noncomputable def prodInit.scope : Scope := stScope (stAt (stBody (stAt pw.main.body 6)) 2)
noncomputable def prodInit.params : Arguments := stArgs (stAt (stBody (stAt pw.main.body 6)) 2)
noncomputable def prodInit.code : Value := (Value.ref 61)
theorem prodInit.at (P : Params) : List.lookup 62 (lawHeap P) = some (Obj.mk (Value.type "function") none (Data.func (fnOf (Str.ofString "__init__") (Str.ofString "Production.__init__") prodInit.params prodInit.body prodInit.scope (Value.ref 55) (Value.none) (Value.none) (Value.str (Str.ofString "ply.yacc") 194) (none) prodInit.code (Value.none))) #[]) := by kernel_rfl
noncomputable def gInit.body : List Stmt := stBody (stAt (stBody (stAt pw.main.body 9)) 0)
noncomputable def gInit.scope : Scope := stScope (stAt (stBody (stAt pw.main.body 9)) 0)
noncomputable def gInit.params : Arguments := stArgs (stAt (stBody (stAt pw.main.body 9)) 0)
noncomputable def gInit.code : Value := (Value.ref 136)
theorem gInit.at (P : Params) : List.lookup 137 (lawHeap P) = some (Obj.mk (Value.type "function") none (Data.func (fnOf (Str.ofString "__init__") (Str.ofString "Grammar.__init__") gInit.params gInit.body gInit.scope (Value.none) (Value.none) (Value.none) (Value.str (Str.ofString "ply.yacc") 194) (none) gInit.code (Value.none))) #[]) := by kernel_rfl
noncomputable def addP.body : List Stmt := stBody (stAt (stBody (stAt pw.main.body 9)) 4)
noncomputable def addP.scope : Scope := stScope (stAt (stBody (stAt pw.main.body 9)) 4)
noncomputable def addP.params : Arguments := stArgs (stAt (stBody (stAt pw.main.body 9)) 4)
noncomputable def addP.code : Value := (Value.ref 165)
theorem addP.at (P : Params) : List.lookup 166 (lawHeap P) = some (Obj.mk (Value.type "function") none (Data.func (fnOf (Str.ofString "add_production") (Str.ofString "Grammar.add_production") addP.params addP.body addP.scope (Value.ref 159) (Value.none) (Value.none) (Value.str (Str.ofString "ply.yacc") 194) (none) addP.code (Value.none))) #[]) := by kernel_rfl
noncomputable def setStart.body : List Stmt := stBody (stAt (stBody (stAt pw.main.body 9)) 5)
noncomputable def setStart.scope : Scope := stScope (stAt (stBody (stAt pw.main.body 9)) 5)
noncomputable def setStart.params : Arguments := stArgs (stAt (stBody (stAt pw.main.body 9)) 5)
noncomputable def setStart.code : Value := (Value.ref 173)
theorem setStart.at (P : Params) : List.lookup 174 (lawHeap P) = some (Obj.mk (Value.type "function") none (Data.func (fnOf (Str.ofString "set_start") (Str.ofString "Grammar.set_start") setStart.params setStart.body setStart.scope (Value.ref 167) (Value.none) (Value.none) (Value.str (Str.ofString "ply.yacc") 194) (none) setStart.code (Value.none))) #[]) := by kernel_rfl
noncomputable def firstB.body : List Stmt := stBody (stAt (stBody (stAt pw.main.body 9)) 12)
noncomputable def firstB.scope : Scope := stScope (stAt (stBody (stAt pw.main.body 9)) 12)
noncomputable def firstB.params : Arguments := stArgs (stAt (stBody (stAt pw.main.body 9)) 12)
noncomputable def firstB.code : Value := (Value.ref 222)
theorem firstB.at (P : Params) : List.lookup 223 (lawHeap P) = some (Obj.mk (Value.type "function") none (Data.func (fnOf (Str.ofString "_first") (Str.ofString "Grammar._first") firstB.params firstB.body firstB.scope (Value.none) (Value.none) (Value.none) (Value.str (Str.ofString "ply.yacc") 194) (none) firstB.code (Value.none))) #[]) := by kernel_rfl
noncomputable def compFirst.body : List Stmt := stBody (stAt (stBody (stAt pw.main.body 9)) 13)
noncomputable def compFirst.scope : Scope := stScope (stAt (stBody (stAt pw.main.body 9)) 13)
noncomputable def compFirst.params : Arguments := stArgs (stAt (stBody (stAt pw.main.body 9)) 13)
noncomputable def compFirst.code : Value := (Value.ref 229)
theorem compFirst.at (P : Params) : List.lookup 230 (lawHeap P) = some (Obj.mk (Value.type "function") none (Data.func (fnOf (Str.ofString "compute_first") (Str.ofString "Grammar.compute_first") compFirst.params compFirst.body compFirst.scope (Value.none) (Value.none) (Value.none) (Value.str (Str.ofString "ply.yacc") 194) (none) compFirst.code (Value.none))) #[]) := by kernel_rfl
noncomputable def compFollow.body : List Stmt := stBody (stAt (stBody (stAt pw.main.body 9)) 14)
noncomputable def compFollow.scope : Scope := stScope (stAt (stBody (stAt pw.main.body 9)) 14)
noncomputable def compFollow.params : Arguments := stArgs (stAt (stBody (stAt pw.main.body 9)) 14)
noncomputable def compFollow.code : Value := (Value.ref 237)
theorem compFollow.at (P : Params) : List.lookup 238 (lawHeap P) = some (Obj.mk (Value.type "function") none (Data.func (fnOf (Str.ofString "compute_follow") (Str.ofString "Grammar.compute_follow") compFollow.params compFollow.body compFollow.scope (Value.ref 231) (Value.none) (Value.none) (Value.str (Str.ofString "ply.yacc") 194) (none) compFollow.code (Value.none))) #[]) := by kernel_rfl
noncomputable def lMade.body : List Stmt := stBody (stAt pw.main.body 14)
noncomputable def lMade.scope : Scope := stScope (stAt pw.main.body 14)
noncomputable def lMade.params : Arguments := stArgs (stAt pw.main.body 14)
noncomputable def lMade.code : Value := (Value.ref 279)
theorem lMade.at (P : Params) : List.lookup 280 (lawHeap P) = some (Obj.mk (Value.type "function") none (Data.func (fnOf (Str.ofString "_law_made") (Str.ofString "_law_made") lMade.params lMade.body lMade.scope (Value.none) (Value.none) (Value.none) (Value.str (Str.ofString "law_te0001_02") 534) (none) lMade.code (Value.none))) #[]) := by kernel_rfl
noncomputable def lSigns.body : List Stmt := stBody (stAt pw.main.body 11)
noncomputable def lSigns.scope : Scope := stScope (stAt pw.main.body 11)
noncomputable def lSigns.params : Arguments := stArgs (stAt pw.main.body 11)
noncomputable def lSigns.code : Value := (Value.ref 258)
theorem lSigns.at (P : Params) : List.lookup 259 (lawHeap P) = some (Obj.mk (Value.type "function") none (Data.func (fnOf (Str.ofString "_law_SIGNS") (Str.ofString "_law_SIGNS") lSigns.params lSigns.body lSigns.scope (Value.none) (Value.none) (Value.none) (Value.str (Str.ofString "law_te0001_02") 534) (none) lSigns.code (Value.none))) #[]) := by kernel_rfl
noncomputable def lBody.body : List Stmt := stBody (stAt pw.main.body 12)
noncomputable def lBody.scope : Scope := stScope (stAt pw.main.body 12)
noncomputable def lBody.params : Arguments := stArgs (stAt pw.main.body 12)
noncomputable def lBody.code : Value := (Value.ref 265)
theorem lBody.at (P : Params) : List.lookup 266 (lawHeap P) = some (Obj.mk (Value.type "function") none (Data.func (fnOf (Str.ofString "_law_body") (Str.ofString "_law_body") lBody.params lBody.body lBody.scope (Value.none) (Value.none) (Value.none) (Value.str (Str.ofString "law_te0001_02") 534) (none) lBody.code (Value.none))) #[]) := by kernel_rfl
noncomputable def lTails.body : List Stmt := stBody (stAt pw.main.body 13)
noncomputable def lTails.scope : Scope := stScope (stAt pw.main.body 13)
noncomputable def lTails.params : Arguments := stArgs (stAt pw.main.body 13)
noncomputable def lTails.code : Value := (Value.ref 272)
theorem lTails.at (P : Params) : List.lookup 273 (lawHeap P) = some (Obj.mk (Value.type "function") none (Data.func (fnOf (Str.ofString "_law_tails") (Str.ofString "_law_tails") lTails.params lTails.body lTails.scope (Value.none) (Value.none) (Value.none) (Value.str (Str.ofString "law_te0001_02") 534) (none) lTails.code (Value.none))) #[]) := by kernel_rfl
noncomputable def lOpening.body : List Stmt := stBody (stAt pw.main.body 15)
noncomputable def lOpening.scope : Scope := stScope (stAt pw.main.body 15)
noncomputable def lOpening.params : Arguments := stArgs (stAt pw.main.body 15)
noncomputable def lOpening.code : Value := (Value.ref 284)
theorem lOpening.at (P : Params) : List.lookup 285 (lawHeap P) = some (Obj.mk (Value.type "function") none (Data.func (fnOf (Str.ofString "_law_opening") (Str.ofString "_law_opening") lOpening.params lOpening.body lOpening.scope (Value.none) (Value.none) (Value.none) (Value.str (Str.ofString "law_te0001_02") 534) (none) lOpening.code (Value.none))) #[]) := by kernel_rfl
end Mine
end
section
set_option autoImplicit false
namespace Mine
section
variable {W : Wd} {A : Around} {env : Env} {outer : Outs} {loc : Loc} {mem : Mem} {E : Ex W}
theorem isId_spec {Q : V → Loc → Mem → Prop} (hK : W.K = hdK W.w.params) (c : Calm A 900 8000) {x : Str} (hz : x.cps.size ≤ 1000)
    (h : Q (.bool (isIdent x)) loc mem) : OpV W A env outer (fun vs => call (.ref aIsId) vs) [.str x] loc mem Q E := by
  refine call_fn (bs := [("s", .str x)]) (by rw [hK]; exact isId.at _) (by rw [hK]; rfl) (c.room (by decide)) ?_ (by intro y hy; simp at hy; subst hy; rfl) (by decide) rfl rfl rfl ?_
  · intro F s vs hb hk r
    cases r.view with
    | cons r1 r2 =>
      cases r2.view
      exact ⟨_, BindsTo.of_eq rfl, .cons r1 .nil⟩
  · intro L outer
    have cd := c.deeper (envX "_is_identifier" isId.scope L 39 isId.code [])
    (refine nameS ?_; intro aa vv oo qq ee; refine s_cons ?_); refine s_ret ?_; refine e_and2 ?_; refine e_cmp rfl ?_; refine c_name rfl ?_; refine e_boot rfl rfl rfl rfl rfl (by rw [hK]; rfl) rfl (by decide) ?_; refine c_builtin rfl rfl ?_; refine a_cons rfl ?_; refine e_local rfl rfl rfl rfl ?_; refine a_nil ?_
    refine len_s (by show (x.cps.size : Int) < _; omega) ?_
    refine e_int ?_; refine gt_ii ?_; refine tr_bool ?_
    refine ⟨fun hb => ?_, fun hb => ?_⟩
    · have hb : 0 < x.cps.size := by have := of_decide_eq_true hb; show 0 < x.cps.size; exact Int.ofNat_lt.mp this
      refine c_name rfl ?_; refine e_boot rfl rfl rfl rfl rfl (by rw [hK]; rfl) rfl (by decide) ?_; refine c_builtin rfl rfl ?_; refine a_cons rfl ?_; refine e_listcomp rfl (by decide) rfl (by decide) (fun _ => rfl) ?_; refine e_local rfl rfl rfl rfl ?_
      refine comp_map (itr_str cd.handled) ((chars x).map .str) (fun m i _ hi => ?_) (by simp [chars]; have : (1000 : Nat) ≤ sizeLine := by decide
                                                                                         omega) (fun v => match v with | .str c => some (.bool (strIn c IDENT)) | _ => none) ?_ ?_
      · simp [strItem, chars, Function.comp_def]
      · intro C outer' i v hv
        obtain ⟨ch, rfl⟩ : ∃ ch, v = .str ch := by
          rw [List.getElem?_map] at hv
          cases q : (chars x)[i]? with
          | none => rw [q] at hv; cases hv
          | some ch => rw [q] at hv; exact ⟨ch, (Option.some.inj hv).symm⟩
        refine asg_name ?_; refine st_local rfl rfl ?_; refine e_cmp rfl ?_; refine e_local rfl rfl rfl rfl ?_; refine e_top (v := .str _) rfl rfl rfl rfl (by rw [hK]; rfl) (fun _ _ => .str _ _) ?_; refine in_ss ?_
        exact ⟨rfl, sub_refl _⟩
      · intro D hD
        refine a_nil ?_
        refine all_bools (bs := (chars x).map fun c => strIn c IDENT) cd.handled (.own (by rw [mset_self]; congr 2; simp [List.filterMap_map, Function.comp_def])) ?_
        skip
        refine ⟨mem, sub_mset hD (sub_refl _), ?_⟩
        have e : isIdent x = (List.map (fun c => strIn c IDENT) (chars x)).all id := by
          unfold isIdent; rw [decide_eq_true hb, Bool.true_and, List.all_map]; rfl
        rw [e] at h; exact h
    · have hb : ¬ 0 < x.cps.size := by have := of_decide_eq_false hb; exact fun q => this (Int.ofNat_lt.mpr q)
      skip
      refine ⟨mem, sub_refl _, ?_⟩
      have e : isIdent x = decide (0 < (x.length : Int)) := by
        unfold isIdent; rw [decide_eq_false hb, Bool.false_and]; exact (decide_eq_false (fun q => hb (Int.ofNat_lt.mp q))).symm
      rw [e] at h; exact h
inductive P2A_J1 (mem : Mem) (sy : Addr) (te : Addr) (syms : List Str) (es : List (Str × V)) (k : Nat) (l : Loc) (m : Mem) : Prop
  | mk (h1_ : m = mem) (h2_ : LSub [("terminals", .ref te), ("symbols", .ref sy), ("i", .int ((k : Int) - 1))] l) (h3_ : k ≤ syms.length) (h4_ : rmost (es.map (·.1)) syms = rmost (es.map (·.1)) (syms.take k))
theorem rmost_spec {Q : V → Loc → Mem → Prop} (hK : W.K = hdK W.w.params) (c : Calm A 900 8000) {sy te : Addr} {syms : List Str} {es : List (Str × V)} {ep : Nat} (hs : mem sy = some (.list (vStrs syms))) (ht : mem te = some (.dict es ep)) (hz : syms.length ≤ 1000)
    (h : Q (match rmost (es.map (·.1)) syms with | some s => .str s | none => .none) loc mem) : OpV W A env outer (fun vs => call (.ref aRmost) vs) [.ref sy, .ref te] loc mem Q E := by
  refine call_fn (bs := [("symbols", .ref sy), ("terminals", .ref te)]) (by rw [hK]; exact rmostF.at _) (by rw [hK]; rfl) (c.room (by decide)) ?_ (by intro y hy; simp at hy; rcases hy with rfl | rfl <;> rfl) (by decide) rfl rfl rfl ?_
  · intro F s vs hb hk r
    cases r.view with
    | cons r1 r2 =>
      cases r2 with
      | cons r2 r3 =>
        cases r3
        exact ⟨_, BindsTo.of_eq rfl, .cons r1 (.cons r2 .nil)⟩
  · intro L outer
    have cd := c.deeper (envX "rightmost_terminal" rmostF.scope L 111 rmostF.code [])
    (refine nameS ?_; intro aa vv oo qq ee; refine s_cons ?_); refine s_assign rfl ?_; refine e_binop ?_; refine c_name rfl ?_; refine e_boot rfl rfl rfl rfl rfl (by rw [hK]; rfl) rfl (by decide) ?_; refine c_builtin rfl rfl ?_; refine a_cons rfl ?_; refine e_local rfl rfl rfl rfl ?_; refine a_nil ?_
    refine len_sq (.own hs) (by simp [vStrs]; omega) ?_
    refine e_int ?_; refine sub_ii ?_; refine st_local rfl rfl ?_; refine s_cons ?_
    have lk : ∀ (k : Nat) (y : Str), syms[k]? = some y → (vStrs syms)[k]? = some (.str y) := fun k y e => by unfold vStrs; rw [List.getElem?_map, e]; rfl
    have stp : ∀ (k : Nat) (y : Str), syms[k]? = some y → rmost (es.map (·.1)) (syms.take (k + 1)) = if (es.map (·.1)).contains y then some y else rmost (es.map (·.1)) (syms.take k) := fun k y e => by
      have hlt : k < syms.length := by rw [List.getElem?_eq_some_iff] at e; exact e.1
      have hget : syms[k] = y := by rw [List.getElem?_eq_getElem hlt] at e; exact Option.some.inj e
      unfold rmost
      rw [List.take_succ_eq_append_getElem hlt, hget, List.reverse_append, List.reverse_singleton, List.singleton_append, List.find?_cons]
      cases (es.map (·.1)).contains y <;> rfl
    have hin : ∀ y, (getA es y).isSome = (es.map (·.1)).contains y := fun y => by
      unfold getA
      rw [Option.isSome_map, Bool.eq_iff_iff, List.find?_isSome, List.contains_iff_mem, List.mem_map]
      constructor
      · rintro ⟨p, hp, e⟩; exact ⟨p, hp, of_decide_eq_true e⟩
      · rintro ⟨p, hp, e⟩; exact ⟨p, hp, decide_eq_true e⟩
    let J1 : Nat → Loc → Mem → Prop := P2A_J1 mem sy te syms es
    refine s_while J1 ?_ syms.length ⟨rfl, by rw [show (vStrs syms).length = syms.length by simp [vStrs]]; rfl, Nat.le_refl _, by rw [List.take_length]⟩
    rintro k l m ⟨rfl, hl, hk, hr⟩
    refine Tr.locs hl ?_
    refine b_cmp rfl ?_; refine e_local rfl rfl rfl rfl ?_; refine e_int ?_
    refine ge_ii ?_
    refine tr_bool ?_
    refine ⟨fun hb => ?_, fun hb => ?_⟩
    · have hb := of_decide_eq_true hb
      obtain ⟨k, rfl⟩ : ∃ j, k = j + 1 := ⟨k - 1, by omega⟩
      have hlt : k < syms.length := by omega
      have hget : syms[k]? = some syms[k] := List.getElem?_eq_getElem hlt
      have st := stp k _ hget
      have e1 : (((k + 1 : Nat) : Int) - 1) = (k : Int) := by omega
      rw [e1]
      (refine nameQ ?_; intro qq ee; refine s_cons ?_); refine s_if ?_; refine b_cmp rfl ?_; refine e_sub (fun _ _ => rfl) ?_; refine e_local rfl rfl rfl rfl ?_; refine e_local rfl rfl rfl rfl ?_
      refine sub_sq (.own hs) (Int.natCast_nonneg _) (by omega) (by rw [Int.toNat_natCast]; exact lk k _ hget) ?_
      refine e_local rfl rfl rfl rfl ?_
      refine in_dict ht ?_
      refine tr_bool ?_
      refine ⟨fun hb2 => ?_, fun hb2 => ?_⟩
      · (refine nameQ ?_; intro qq ee; refine s_cons ?_); refine s_ret ?_; refine e_sub (fun _ _ => rfl) ?_; refine e_local rfl rfl rfl rfl ?_; refine e_local rfl rfl rfl rfl ?_
        refine sub_sq (.own hs) (Int.natCast_nonneg _) (by omega) (by rw [Int.toNat_natCast]; exact lk k _ hget) ?_
        skip
        refine ⟨m, sub_refl _, ?_⟩
        rw [hin] at hb2
        rw [hr, st, if_pos hb2] at h
        exact h
      · refine s_nil ?_; refine s_cons ?_; refine s_aug rfl rfl rfl ?_; refine e_int ?_; refine isub_ii ?_; refine st_local rfl rfl ?_; refine s_nil ?_
        rw [hin] at hb2
        refine ⟨k, by omega, rfl, rfl, by omega, ?_⟩
        rw [hr, st, if_neg (by rw [hb2]; exact Bool.false_ne_true)]
    · have hb := of_decide_eq_false hb
      obtain rfl : k = 0 := by omega
      refine s_nil ?_; refine s_cons ?_; refine s_ret ?_; refine e_none ?_
      refine ⟨m, sub_refl _, ?_⟩
      rw [hr] at h
      exact h
end
end Mine
end
section
set_option autoImplicit false
namespace Mine
section
variable {W : Wd} {A : Around} {env : Env} {outer : Outs} {loc : Loc} {mem : Mem} {E : Ex W}
inductive P2B_J1 (syms : List Str) (x : Addr) (au : Addr) (m : Mem) (k : Nat) (i : Nat) (l : Loc) (m1 : Mem) : Prop
  | mk (h1_ : k + i = syms.length) (h2_ : LSub [("self", .ref x)] l) (h3_ : m1 au = some (.list (vStrs (dedup (syms.take i))))) (h4_ : ∀ b, b ≠ au → m1 b = m b)
theorem prod_spec' {num prec func file line sv : V} {xs : List V} {name : Str} {syms : List Str} {Q : V → Loc → Mem → Prop} (hK : W.K = hdK W.w.params) (c : Calm A 800 7000) (q : Sq mem sv "list" (vStrs syms)) (hz : syms.length ≤ 100) (hy : ∀ y ∈ syms, y.cps.size ≤ 100 ∧ PyData.strOk y = true) (hn : name.cps.size ≤ 100) (hr : notRef num = true ∧ notRef prec = true ∧ notRef func = true ∧ notRef file = true ∧ notRef line = true)
    (hbind : ∀ x : Addr, Binds W (fnOf "__init__" "Production.__init__" prodInit.params prodInit.body prodInit.scope (.ref 55) .none .none (.str "ply.yacc" 194) none prodInit.code .none) [] (.ref x :: xs) [("self", .ref x), ("number", num), ("name", .str name), ("prod", sv), ("precedence", prec), ("func", func), ("file", file), ("line", line)])
    (h : Q (.ins aProd (prodAttrs num name syms prec func file line)) loc mem) : OpV W A env outer (fun vs => call (.ref aProd) vs) xs loc mem Q E := by
  refine Op.shift ?_
  refine call_cls (C := aProd) (f := aProdInit) (bs := fun x => [("self", .ref x), ("number", num), ("name", .str name), ("prod", sv), ("precedence", prec), ("func", func), ("file", file), ("line", line)]) (by rw [hK]; first | rfl | kernel_rfl | decide +kernel) (by rw [hK]; first | rfl | kernel_rfl | decide +kernel) (by rw [hK]; first | rfl | kernel_rfl | decide +kernel)
    (by rw [hK]; exact prodInit.at _) (by rw [hK]; first | rfl | kernel_rfl | decide +kernel) (Nat.lt_of_le_of_lt (Nat.succ_le_succ c.depth) (by decide)) ?_ (by intro x y hy; simp at hy; rcases hy with rfl | rfl | rfl | rfl | rfl | rfl | rfl | rfl <;> rfl) (by decide) rfl rfl rfl ?_
  · exact hbind
  · intro A' x d hA hh hg hfr hu mx md hxd L outer
    have c1 : Calm A' 801 7008 := ⟨hh.trans c.handled, hg.trans c.guards, by have := c.depth; omega, by have := c.units; omega⟩
    have cd := c1.deeper (envX "Production.__init__" prodInit.scope L 62 prodInit.code [])
    obtain ⟨m, hm⟩ : ∃ m, m = mset (mset mem d (.dict [] 0)) x (.inst aProd d) := ⟨_, rfl⟩
    have hx : m x = some (.inst aProd d) := by rw [hm, mset_self]
    have hd : m d = some (.dict [] 0) := by rw [hm, mset_ne (Ne.symm hxd), mset_self]
    have hs : Sub mem m := by rw [hm]; exact sub_mset (by rw [mset_ne hxd]; exact mx) (sub_mset md (sub_refl _))
    rw [← hm]
    clear hm
    (refine nameS ?_; intro aa vv oo qq ee; refine s_cons ?_); refine s_assign_attr rfl ?_; refine e_local rfl rfl rfl rfl ?_; refine e_local rfl rfl rfl rfl ?_
    (refine set_o hK (fun _ => by kernel_rfl) hx hd rfl (fun m zep zhx zhd zhf => ?_); have hs := Sub.upd hs md zhf; (have hx := Eq.trans (zhf _ (by assumption)) hx); have hd := zhd; clear zhd zhx; (have hd : _ = some (AObj.dict [(Str.ofString "name", _)] _) := hd))
    refine s_cons ?_; refine s_assign_attr rfl ?_; refine c_name rfl ?_; refine e_boot rfl rfl rfl rfl rfl (by rw [hK]; rfl) rfl (by decide) ?_; refine c_type rfl rfl ?_; refine a_cons rfl ?_; refine e_local rfl rfl rfl rfl ?_; refine a_nil ?_
    refine tuple_list (Sq.mono ‹Sq mem sv "list" (vStrs syms)› hs) (by simp [vStrs]; exact Nat.le_trans hz (by decide)) ?_
    refine e_local rfl rfl rfl rfl ?_
    (refine set_o hK (fun _ => by kernel_rfl) hx hd rfl (fun m zep zhx zhd zhf => ?_); have hs := Sub.upd hs md zhf; (have hx := Eq.trans (zhf _ (by assumption)) hx); have hd := zhd; clear zhd zhx; (have hd : _ = some (AObj.dict [(Str.ofString "name", _), (Str.ofString "prod", _)] _) := hd))
    refine s_cons ?_; refine s_assign_attr rfl ?_; refine e_local rfl rfl rfl rfl ?_; refine e_local rfl rfl rfl rfl ?_
    (refine set_o hK (fun _ => by kernel_rfl) hx hd rfl (fun m zep zhx zhd zhf => ?_); have hs := Sub.upd hs md zhf; (have hx := Eq.trans (zhf _ (by assumption)) hx); have hd := zhd; clear zhd zhx; (have hd : _ = some (AObj.dict [(Str.ofString "name", _), (Str.ofString "prod", _), (Str.ofString "number", _)] _) := hd))
    refine s_cons ?_; refine s_assign_attr rfl ?_; refine e_local rfl rfl rfl rfl ?_; refine e_local rfl rfl rfl rfl ?_
    (refine set_o hK (fun _ => by kernel_rfl) hx hd rfl (fun m zep zhx zhd zhf => ?_); have hs := Sub.upd hs md zhf; (have hx := Eq.trans (zhf _ (by assumption)) hx); have hd := zhd; clear zhd zhx; (have hd : _ = some (AObj.dict [(Str.ofString "name", _), (Str.ofString "prod", _), (Str.ofString "number", _), (Str.ofString "func", _)] _) := hd))
    refine s_cons ?_; refine s_assign_attr rfl ?_; refine e_none ?_; refine e_local rfl rfl rfl rfl ?_
    (refine set_o hK (fun _ => by kernel_rfl) hx hd rfl (fun m zep zhx zhd zhf => ?_); have hs := Sub.upd hs md zhf; (have hx := Eq.trans (zhf _ (by assumption)) hx); have hd := zhd; clear zhd zhx; (have hd : _ = some (AObj.dict [(Str.ofString "name", _), (Str.ofString "prod", _), (Str.ofString "number", _), (Str.ofString "func", _), (Str.ofString "callable", _)] _) := hd))
    refine s_cons ?_; refine s_assign_attr rfl ?_; refine e_local rfl rfl rfl rfl ?_; refine e_local rfl rfl rfl rfl ?_
    (refine set_o hK (fun _ => by kernel_rfl) hx hd rfl (fun m zep zhx zhd zhf => ?_); have hs := Sub.upd hs md zhf; (have hx := Eq.trans (zhf _ (by assumption)) hx); have hd := zhd; clear zhd zhx; (have hd : _ = some (AObj.dict [(Str.ofString "name", _), (Str.ofString "prod", _), (Str.ofString "number", _), (Str.ofString "func", _), (Str.ofString "callable", _), (Str.ofString "file", _)] _) := hd))
    refine s_cons ?_; refine s_assign_attr rfl ?_; refine e_local rfl rfl rfl rfl ?_; refine e_local rfl rfl rfl rfl ?_
    (refine set_o hK (fun _ => by kernel_rfl) hx hd rfl (fun m zep zhx zhd zhf => ?_); have hs := Sub.upd hs md zhf; (have hx := Eq.trans (zhf _ (by assumption)) hx); have hd := zhd; clear zhd zhx; (have hd : _ = some (AObj.dict [(Str.ofString "name", _), (Str.ofString "prod", _), (Str.ofString "number", _), (Str.ofString "func", _), (Str.ofString "callable", _), (Str.ofString "file", _), (Str.ofString "line", _)] _) := hd))
    refine s_cons ?_; refine s_assign_attr rfl ?_; refine e_local rfl rfl rfl rfl ?_; refine e_local rfl rfl rfl rfl ?_
    (refine set_o hK (fun _ => by kernel_rfl) hx hd rfl (fun m zep zhx zhd zhf => ?_); have hs := Sub.upd hs md zhf; (have hx := Eq.trans (zhf _ (by assumption)) hx); have hd := zhd; clear zhd zhx; (have hd : _ = some (AObj.dict [(Str.ofString "name", _), (Str.ofString "prod", _), (Str.ofString "number", _), (Str.ofString "func", _), (Str.ofString "callable", _), (Str.ofString "file", _), (Str.ofString "line", _), (Str.ofString "prec", _)] _) := hd))
    refine s_cons ?_; refine s_assign_attr rfl ?_; refine c_name rfl ?_; refine e_boot rfl rfl rfl rfl rfl (by rw [hK]; rfl) rfl (by decide) ?_; refine c_builtin rfl rfl ?_; refine a_cons rfl ?_; refine e_attr rfl ?_; refine e_local rfl rfl rfl rfl ?_
    refine get_o hK (fun _ => by kernel_rfl) (.own hx hd) rfl rfl ?_
    refine a_nil ?_
    refine len_sq (.tup _) (by simp [vStrs]; omega) ?_
    refine e_local rfl rfl rfl rfl ?_
    (refine set_o hK (fun _ => by kernel_rfl) hx hd rfl (fun m zep zhx zhd zhf => ?_); have hs := Sub.upd hs md zhf; (have hx := Eq.trans (zhf _ (by assumption)) hx); have hd := zhd; clear zhd zhx; (have hd : _ = some (AObj.dict [(Str.ofString "name", _), (Str.ofString "prod", _), (Str.ofString "number", _), (Str.ofString "func", _), (Str.ofString "callable", _), (Str.ofString "file", _), (Str.ofString "line", _), (Str.ofString "prec", _), (Str.ofString "len", _)] _) := hd))
    refine s_cons ?_; refine s_assign_attr rfl ?_; refine e_list ?_; refine a_nil ?_
    refine new_own' (by decide) (fun au mu hau hlu hfu => ?_)
    have mau := Sub.none hs hau
    have hs := Sub.new hs hau hfu
    have hx := Eq.trans (hfu _ (nex hx hau)) hx; have hd := Eq.trans (hfu _ (nex hd hau)) hd
    refine e_local rfl rfl rfl rfl ?_
    (refine set_o hK (fun _ => by kernel_rfl) hx hd rfl (fun m zep zhx zhd zhf => ?_); have hs := Sub.upd hs md zhf; (have hlu := Eq.trans (zhf _ (nex hlu hd)) hlu; have hx := Eq.trans (zhf _ (by assumption)) hx); have hd := zhd; clear zhd zhx; (have hd : _ = some (AObj.dict [(Str.ofString "name", _), (Str.ofString "prod", _), (Str.ofString "number", _), (Str.ofString "func", _), (Str.ofString "callable", _), (Str.ofString "file", _), (Str.ofString "line", _), (Str.ofString "prec", _), (Str.ofString "len", _), (Str.ofString "usyms", _)] _) := hd))
    refine s_cons ?_; refine s_for (fun _ => rfl) ?_; refine e_attr rfl ?_; refine e_local rfl rfl rfl rfl ?_
    refine get_o hK (fun _ => by kernel_rfl) (.own hx hd) rfl rfl ?_
    have hsz : ∀ (k : Nat), (vStrs (dedup (syms.take k))).length ≤ 100 := fun k => by
      rw [vStrs_len]; have := dedup_len (syms.take k); rw [List.length_take] at this; omega
    have hok : ∀ k, (vStrs (dedup (syms.take k))).all (isD 0) = true := fun k => isD_strs (List.all_eq_true.mpr fun y hy' => (hy y (List.mem_of_mem_take (dedup_sub _ y hy'))).2)
    let J1 : Nat → Nat → Loc → Mem → Prop := P2B_J1 syms x au m
    refine for_k (itr_tup cd.handled) J1 ?_ syms.length ⟨rfl, rfl, hlu, fun b _ => rfl⟩
    · rintro k i l m1 ⟨hk, hl, hu1, hf1⟩
      refine ⟨by simp [setItem_], fun hn1 => ?_, fun v hv => ?_⟩
      · have hn1 : (vStrs syms)[i]? = none := Option.some.inj hn1
        rw [List.getElem?_eq_none_iff, vStrs_len] at hn1
        obtain rfl : i = syms.length := by omega
        rw [List.take_length] at hu1
        have hs := Sub.upd hs mau hf1
        have hx := Eq.trans (hf1 _ (nex hx hlu)) hx; have hd := Eq.trans (hf1 _ (nex hd hlu)) hd
        refine Tr.locs hl ?_
        refine s_nil ?_; refine s_cons ?_; refine s_assign_attr rfl ?_; refine e_list ?_; refine a_nil ?_
        refine new_own' (by decide) (fun al m2 hal hll hfl => ?_)
        have mal := Sub.none hs hal
        have nul : au ≠ al := fun e => by rw [e, hal] at hu1; cases hu1
        have hs := Sub.new hs hal hfl
        have hu1 := Eq.trans (hfl _ (by assumption)) hu1; have hx := Eq.trans (hfl _ (nex hx hal)) hx; have hd := Eq.trans (hfl _ (nex hd hal)) hd
        refine e_local rfl rfl rfl rfl ?_
        (refine set_o hK (fun _ => by kernel_rfl) hx hd rfl (fun m zep zhx zhd zhf => ?_); have hs := Sub.upd hs md zhf; (have hll := Eq.trans (zhf _ (nex hll hd)) hll; have hu1 := Eq.trans (zhf _ (nex hu1 hd)) hu1; have hx := Eq.trans (zhf _ (by assumption)) hx); have hd := zhd; clear zhd zhx; (have hd : _ = some (AObj.dict [(Str.ofString "name", _), (Str.ofString "prod", _), (Str.ofString "number", _), (Str.ofString "func", _), (Str.ofString "callable", _), (Str.ofString "file", _), (Str.ofString "line", _), (Str.ofString "prec", _), (Str.ofString "len", _), (Str.ofString "usyms", _), (Str.ofString "lr_items", _)] _) := hd))
        refine s_cons ?_; refine s_assign_attr rfl ?_; refine e_none ?_; refine e_local rfl rfl rfl rfl ?_
        (refine set_o hK (fun _ => by kernel_rfl) hx hd rfl (fun m zep zhx zhd zhf => ?_); have hs := Sub.upd hs md zhf; (have hll := Eq.trans (zhf _ (nex hll hd)) hll; have hu1 := Eq.trans (zhf _ (nex hu1 hd)) hu1; have hx := Eq.trans (zhf _ (by assumption)) hx); have hd := zhd; clear zhd zhx; (have hd : _ = some (AObj.dict [(Str.ofString "name", _), (Str.ofString "prod", _), (Str.ofString "number", _), (Str.ofString "func", _), (Str.ofString "callable", _), (Str.ofString "file", _), (Str.ofString "line", _), (Str.ofString "prec", _), (Str.ofString "len", _), (Str.ofString "usyms", _), (Str.ofString "lr_items", _), (Str.ofString "lr_next", _)] _) := hd))
        refine s_cons ?_; refine s_if ?_; refine b_value rfl ?_; refine e_attr rfl ?_; refine e_local rfl rfl rfl rfl ?_
        refine get_o hK (fun _ => by kernel_rfl) (.own hx hd) rfl rfl ?_
        skip
        refine tr_tup (by rw [vStrs_len]; omega) ?_
        skip
        have fin : ∀ (t : Str) (m : Mem) (ep : Nat), t = ruleText name syms → Sub mem m → m x = some (.inst aProd d) → m au = some (.list (vStrs (dedup syms))) → m al = some (.list []) →
            m d = some (.dict [("name", .str name), ("prod", .tup (vStrs syms)), ("number", num), ("func", func), ("callable", .none), ("file", file), ("line", line), ("prec", prec), ("len", .int (vStrs syms).length), ("usyms", .ref au), ("lr_items", .ref al), ("lr_next", .none), ("str", .str t)] ep) →
            ∃ m', Sub m' m ∧ V.none = V.none ∧ ∃ v' m'', Shift W (.ref x) m' v' m'' ∧ Q v' loc m'' := fun t m ep e hs hx hu hl hd => by
          refine ⟨m, sub_refl _, rfl, .ins aProd (prodAttrs num name syms prec func file line), mem, ?_, h⟩
          have sh := Shift.inst (W := W) (m' := mem) [(au, vStrs (dedup syms)), (al, [])] hx hd (by
            intro p hp
            rcases List.mem_cons.mp hp with rfl | hp
            · exact hu
            · rcases List.mem_cons.mp hp with rfl | hp
              · exact hl
              · cases hp) hs mx md (by
            intro p hp
            rcases List.mem_cons.mp hp with rfl | hp
            · exact mau
            · rcases List.mem_cons.mp hp with rfl | hp
              · exact mal
              · cases hp)
          obtain ⟨n1, n2, n3, n4, n5⟩ := hr
          simp only [List.map_cons, List.map_nil, cvt_id _ n1, cvt_id _ n2, cvt_id _ n3, cvt_id _ n4, cvt_id _ n5] at sh
          have e1 : cvt [(au, vStrs (dedup syms)), (al, [])] (.ref au) = .lst (vStrs (dedup syms)) := by simp [cvt, List.lookup]
          have e2 : cvt [(au, vStrs (dedup syms)), (al, [])] (.ref al) = .lst [] := by
            have : (al == au) = false := by simpa using (Ne.symm nul)
            simp [cvt, List.lookup, this]
          rw [e1, e2, vStrs_len] at sh
          rw [e] at sh
          exact sh
        have jl : (Txt.join (" " : Str) syms).length ≤ 20000 := Nat.le_trans (join_len fun y hy' => (hy y hy').1) (by omega)
        have l4 : (Str.ofString " -> ").length = 4 := by decide +kernel
        have hn' : name.length ≤ 100 := hn
        have hsl : (100000 : Nat) ≤ sizeLine := by decide
        refine ⟨fun hb => ?_, fun hb => ?_⟩
        · (refine nameQ ?_; intro qq ee; refine s_cons ?_); refine s_assign_attr rfl ?_; refine e_joined ?_; refine e_fv_s ?_; refine e_attr rfl ?_; refine e_local rfl rfl rfl rfl ?_
          refine get_o hK (fun _ => by kernel_rfl) (.own hx hd) rfl rfl ?_
          skip
          refine show_str (Nat.le_trans hn (by decide)) ?_
          refine ⟨_, rfl, by rw [empty_app]; omega, ?_⟩
          refine e_str ?_
          refine ⟨_, rfl, by rw [empty_app, len_app, l4]; omega, ?_⟩
          refine e_fv_s ?_; refine c_meth rfl ?_; refine e_str ?_
          refine m_builtin (.str _) PySem.F.plainAttrs_str PySem.F.slot_str_join (by show builtinType _ = _; rw [builtinType_eq_fast]; kernel_rfl) rfl rfl ?_
          refine a_cons rfl ?_; refine e_attr rfl ?_; refine e_local rfl rfl rfl rfl ?_
          refine get_o hK (fun _ => by kernel_rfl) (.own hx hd) rfl rfl ?_
          refine a_nil ?_
          refine join_tup (ys := syms) (by decide) (by have := sum_len fun y hy' => (hy y hy').1; omega) ?_
          skip
          refine show_str (Nat.le_trans jl (by decide)) ?_
          refine ⟨_, rfl, by rw [empty_app, len_app, len_app, l4]; omega, ?_⟩
          refine e_local rfl rfl rfl rfl ?_
          (refine set_o hK (fun _ => by kernel_rfl) hx hd rfl (fun m zep zhx zhd zhf => ?_); have hs := Sub.upd hs md zhf; (have hll := Eq.trans (zhf _ (nex hll hd)) hll; have hu1 := Eq.trans (zhf _ (nex hu1 hd)) hu1; have hx := Eq.trans (zhf _ (by assumption)) hx); have hd := zhd; clear zhd zhx; (have hd : _ = some (AObj.dict [(Str.ofString "name", _), (Str.ofString "prod", _), (Str.ofString "number", _), (Str.ofString "func", _), (Str.ofString "callable", _), (Str.ofString "file", _), (Str.ofString "line", _), (Str.ofString "prec", _), (Str.ofString "len", _), (Str.ofString "usyms", _), (Str.ofString "lr_items", _), (Str.ofString "lr_next", _), (Str.ofString "str", _)] _) := hd))
          refine s_nil ?_; refine s_nil ?_
          refine fin _ _ _ ?_ hs hx hu1 hll hd
          have : syms.isEmpty = false := by cases syms <;> simp_all [vStrs]
          unfold ruleText
          rw [this, empty_app]; rfl
        · (refine nameQ ?_; intro qq ee; refine s_cons ?_); refine s_assign_attr rfl ?_; refine e_binop ?_; refine e_str ?_; refine e_attr rfl ?_; refine e_local rfl rfl rfl rfl ?_
          refine get_o hK (fun _ => by kernel_rfl) (.own hx hd) rfl rfl ?_
          skip
          refine pct_empty (Nat.le_trans hn (by decide)) ?_
          refine e_local rfl rfl rfl rfl ?_
          (refine set_o hK (fun _ => by kernel_rfl) hx hd rfl (fun m zep zhx zhd zhf => ?_); have hs := Sub.upd hs md zhf; (have hll := Eq.trans (zhf _ (nex hll hd)) hll; have hu1 := Eq.trans (zhf _ (nex hu1 hd)) hu1; have hx := Eq.trans (zhf _ (by assumption)) hx); have hd := zhd; clear zhd zhx; (have hd : _ = some (AObj.dict [(Str.ofString "name", _), (Str.ofString "prod", _), (Str.ofString "number", _), (Str.ofString "func", _), (Str.ofString "callable", _), (Str.ofString "file", _), (Str.ofString "line", _), (Str.ofString "prec", _), (Str.ofString "len", _), (Str.ofString "usyms", _), (Str.ofString "lr_items", _), (Str.ofString "lr_next", _), (Str.ofString "str", _)] _) := hd))
          refine s_nil ?_; refine s_nil ?_
          refine fin _ _ _ ?_ hs hx hu1 hll hd
          have : syms.isEmpty = true := by cases syms <;> simp_all [vStrs]
          unfold ruleText
          rw [this]; rfl
      · have hi : (vStrs syms)[i]? = some v := Option.some.inj hv
        obtain ⟨y, rfl, hy1⟩ : ∃ y, v = .str y ∧ syms[i]? = some y := by
          unfold vStrs at hi
          rw [List.getElem?_map] at hi
          cases e : syms[i]? with
          | none => rw [e] at hi; cases hi
          | some y => rw [e] at hi; exact ⟨y, (Option.some.inj hi).symm, rfl⟩
        have hlt : i < syms.length := by rw [List.getElem?_eq_some_iff] at hy1; exact hy1.1
        have hym : y ∈ syms := List.mem_of_getElem? hy1
        have hx := Eq.trans (hf1 _ (nex hx hlu)) hx; have hd := Eq.trans (hf1 _ (nex hd hlu)) hd
        refine Op.locs hl ?_
        refine asg_name ?_; refine st_local rfl rfl ?_; (refine nameQ ?_; intro qq ee; refine s_cons ?_); refine s_if ?_; refine b_cmp rfl ?_; refine e_local rfl rfl rfl rfl ?_; refine e_attr rfl ?_; refine e_local rfl rfl rfl rfl ?_
        refine get_o hK (fun _ => by kernel_rfl) (.own hx hd) rfl rfl ?_
        skip
        refine notin_list (n := 0) (.own hu1) (hy y hym).2 (hok i) (by decide) (cd.fit (by decide)) (fun b hb => ?_)
        refine tr_bool ?_
        refine ⟨fun hb2 => ?_, fun hb2 => ?_⟩
        · (refine nameQ ?_; intro qq ee; refine s_cons ?_); refine s_expr rfl rfl ?_; refine c_meth rfl ?_; refine e_attr rfl ?_; refine e_local rfl rfl rfl rfl ?_
          refine get_o hK (fun _ => by kernel_rfl) (.own hx hd) rfl rfl ?_
          refine m_builtin (.list hu1) PySem.F.plainAttrs_list PySem.F.slot_list_append PySem.F.type_list_append rfl rfl ?_
          refine a_cons rfl ?_; refine e_local rfl rfl rfl rfl ?_; refine a_nil ?_
          refine append_own' hu1 (Nat.le_trans (hsz i) (by decide)) (fun m2 hu2 hf2 => ?_)
          refine s_nil ?_; refine s_nil ?_
          refine ⟨k - 1, (kst hk hlt).1, (kst hk hlt).2, rfl, ?_, fun b hb' => (hf2 b hb').trans (hf1 b hb')⟩
          have : ¬ y ∈ dedup (syms.take i) := fun q => by
            have := hb.mpr (vStrs_mem.mpr q); rw [this] at hb2; cases hb2
          rw [hu2, take_snoc hy1, dedup_snoc, if_neg this]
          simp [vStrs]
        · refine s_nil ?_; refine s_nil ?_
          refine ⟨k - 1, (kst hk hlt).1, (kst hk hlt).2, rfl, ?_, fun b hb' => hf1 b hb'⟩
          have : y ∈ dedup (syms.take i) := by
            refine vStrs_mem.mp (hb.mp ?_)
            cases b with
            | true => rfl
            | false => cases hb2
          rw [hu1, take_snoc hy1, dedup_snoc, if_pos this]
theorem prod_spec {num prec func file line sv : V} {name : Str} {syms : List Str} {Q : V → Loc → Mem → Prop} (hK : W.K = hdK W.w.params) (c : Calm A 800 7000) (q : Sq mem sv "list" (vStrs syms)) (hz : syms.length ≤ 100) (hy : ∀ y ∈ syms, y.cps.size ≤ 100 ∧ PyData.strOk y = true) (hn : name.cps.size ≤ 100) (hr : notRef num = true ∧ notRef prec = true ∧ notRef func = true ∧ notRef file = true ∧ notRef line = true)
    (h : Q (.ins aProd (prodAttrs num name syms prec func file line)) loc mem) : OpV W A env outer (fun vs => call (.ref aProd) vs) [num, .str name, sv, prec, func, file, line] loc mem Q E := by
  refine prod_spec' hK c q hz hy hn hr ?_ h
  · intro x F s vs hb hk r
    cases r with
    | cons r0 r => cases r with
      | cons r1 r => cases r with
        | cons r2 r => cases r with
          | cons r3 r => cases r with
            | cons r4 r => cases r with
              | cons r5 r => cases r with
                | cons r6 r => cases r with
                  | cons r7 r =>
                    cases r
                    exact ⟨_, binds_K (T := 55) hk rfl (by rw [hK]; rfl) rfl rfl rfl, .cons r0 (.cons r1 (.cons r2 (.cons r3 (.cons r4 (.cons r5 (.cons r6 (.cons r7 .nil)))))))⟩
theorem prod_spec3 {num sv : V} {name : Str} {syms : List Str} {Q : V → Loc → Mem → Prop} (hK : W.K = hdK W.w.params) (c : Calm A 800 7000) (q : Sq mem sv "list" (vStrs syms)) (hz : syms.length ≤ 100) (hy : ∀ y ∈ syms, y.cps.size ≤ 100 ∧ PyData.strOk y = true) (hn : name.cps.size ≤ 100) (hr : notRef num = true)
    (h : Q (.ins aProd (prodAttrs num name syms (.tup [.str "right", .int 0]) .none (.str "") (.int 0))) loc mem) : OpV W A env outer (fun vs => call (.ref aProd) vs) [num, .str name, sv] loc mem Q E := by
  refine prod_spec' hK c q hz hy hn ⟨hr, rfl, rfl, rfl, rfl⟩ ?_ h
  intro x F s vs hb hk r
  cases r with
  | cons r0 r => cases r with
    | cons r1 r => cases r with
      | cons r2 r => cases r with
        | cons r3 r =>
          cases r
          refine ⟨_, binds_K (T := 55) hk rfl (by rw [hK]; rfl) rfl rfl rfl, .cons r0 (.cons r1 (.cons r2 (.cons r3 (.cons ?_ (.cons .none (.cons (.str _ _) (.cons (.int _ _) .nil)))))))⟩
          exact .tup (hb _ _ (W.KIn _ _ (by rw [hK]; rfl))) (.cons (.str _ _) (.cons (.int _ _) .nil))
end
end Mine
end
section
set_option autoImplicit false
namespace Mine
section
variable {W : Wd} {A : Around} {env : Env} {outer : Outs} {loc : Loc} {mem R : Mem} {E : Ex W} {F : Frz} {s : Shared}
theorem mun_assoc (m R0 R : Mem) : mun m (mun R0 R) = mun (mun m R0) R := by
  funext a; unfold mun
  cases m a <;> rfl
theorem Sim.split {m R0 : Mem} (S : Sim W env outer loc (mun m R0) R F s) (hd : Dis m R0) : Sim W env outer loc m (mun R0 R) F s ∧ Dis R0 R := by
  have d0 : Dis R0 R := fun a x e => by
    have hm : m a = none := by
      cases q : m a with
      | none => rfl
      | some y => rw [hd a y q] at e; cases e
    exact S.dis a x (by rw [mun_r hm]; exact e)
  refine ⟨⟨fun a x e => ?_, by rw [mun_assoc]; exact S.z⟩, d0⟩
  rw [mun_r (hd a x e)]; exact S.dis a x (mun_l e)
theorem Sim.join {m R0 : Mem} (S : Sim W env outer loc m (mun R0 R) F s) (d0 : Dis R0 R) : Sim W env outer loc (mun m R0) R F s ∧ Dis m R0 := by
  have hd : Dis m R0 := fun a x e => (mun_none (S.dis a x e)).1
  refine ⟨⟨fun a x e => ?_, by rw [← mun_assoc]; exact S.z⟩, hd⟩
  cases q : m a with
  | some y => exact (mun_none (S.dis a y q)).2
  | none => rw [mun_r q] at e; exact d0 a x e
theorem Less.mun {R0 : Mem} (d0 : Dis R0 R) : Less W R (mun R0 R) := by
  refine ⟨fun {env outer loc mem F s} S => ?_, fun a x e => ?_⟩
  rotate_left
  · rw [mun_r]
    · exact e
    · cases z : R0 a with
      | none => rfl
      | some y => rw [d0 a y z] at e; cases e
  refine ⟨fun a x e => (mun_none (S.dis a x e)).2, S.z.drop fun a x e => ?_⟩
  cases q : mem a with
  | some y => rw [mun_l q] at e ⊢; exact e
  | none =>
    rw [mun_r q] at e ⊢
    rw [mun_r]
    · exact e
    · cases z : R0 a with
      | none => rfl
      | some y => rw [d0 a y z] at e; cases e
theorem Op.frame {α β : Type} {RV : Frz → β → α → Prop} {f : List Value → Sem α} {xs : List V} {Q Q' : β → Loc → Mem → Prop} {m R0 : Mem} (hd : Dis m R0) (h : Op W A env outer RV f xs loc m Q E)
    (hQ : ∀ v l m1, Dis m1 R0 → Q v l m1 → Q' v l (mun m1 R0)) : Op W A env outer RV f xs loc (mun m R0) Q' E := fun R F s vs S r => by
  obtain ⟨S1, d0⟩ := S.split hd
  refine wpAny_mono (h _ F s vs S1 r) (fun _ _ ⟨F', x, l, m1, a, b, S2, q⟩ => ?_) fun _ _ e => E.mono (Less.mun d0) (Incl.refl F) e
  obtain ⟨S3, hd1⟩ := S2.join d0
  exact ⟨F', x, l, mun m1 R0, a, b, S3, hQ x l m1 hd1 q⟩
theorem VRs.setN {xs : List V} {vs : List Value} (r : VRs W F xs vs) {k : Nat} {x : V} {v : Value} (rx : VR W F x v) : VRs W F (xs.set k x) (vs.set k v) := by
  induction k generalizing xs vs with
  | zero => cases r with | nil => exact .nil | cons _ r2 => exact .cons rx r2
  | succ k ih => cases r with | nil => exact .nil | cons r1 r2 => exact .cons r1 (ih r2)
theorem setItem_own {a : Addr} {xs : List V} {k : Nat} {x : V} {Q : Loc → Mem → Prop} (h1 : mem a = some (.list xs)) (hk : k < xs.length) (hk2 : k < 1000000) (h : ∀ m' : Mem, m' a = some (.list (xs.set k x)) → (∀ b, b ≠ a → m' b = mem b) → Q loc m') :
    OpU W A env outer (fun | [x, y, z] => setItem x y z | _ => pure ()) [.ref a, .int (k : Int), x] loc mem Q E := op3 fun R F s v u t S r1 r2 r3 => by
  cases r1.view; cases r2.view
  obtain ⟨o, ho, q⟩ := S.memOk _ _ h1
  cases q with
  | @list _ vs n q =>
    refine ki_setAt (items := vs) (n := n) ho (Int.natCast_nonneg _) (by omega) (by rw [q.size]; exact_mod_cast hk) ?_
    refine Post.mk (x := ()) trivial (S.upd (t := s.toks) (d := s.drawn) (x' := .list (xs.set k x)) h1 (fun b ob hb e => ((Heap.SameBut.update ..).2 b hb).trans e) (IsL.update (show IsL s.heap a vs n from ho) _) (.list ?_)) (h _ (mset_self _ _ _) fun b hb => mset_ne hb)
    rw [Int.toNat_natCast, Array.toList_setIfInBounds]
    exact q.setN r3
inductive Rl where
  | self | dict | pl | pn | pm | te | no | fi | fo | pr | up
  | teL (k : Str) | noL (k : Str) | pnL (k : Str) | fiL (k : Str) | foL (k : Str)
deriving DecidableEq
structure MemIs (adr : Rl → Addr) (c : Rl → Option AObj) (m : Mem) : Prop where
  inj : ∀ r r', c r ≠ none → c r' ≠ none → adr r = adr r' → r = r'
  is : ∀ a x, m a = some x ↔ ∃ r, adr r = a ∧ c r = some x
noncomputable def upd {β : Type} (f : Rl → β) (r : Rl) (y : β) : Rl → β := fun r' => if r' = r then y else f r'
theorem upd_self {β : Type} (f : Rl → β) (r : Rl) (y : β) : upd f r y r = y := if_pos rfl
theorem upd_ne {β : Type} {f : Rl → β} {r r' : Rl} {y : β} (h : r' ≠ r) : upd f r y r' = f r' := if_neg h
variable {adr : Rl → Addr} {c : Rl → Option AObj} {m m' : Mem}
theorem MemIs.get {r : Rl} {x : AObj} (M : MemIs adr c m) (h : c r = some x) : m (adr r) = some x := (M.is _ _).mpr ⟨r, rfl, h⟩
theorem MemIs.set {r : Rl} {x y : AObj} (M : MemIs adr c m) (h : c r = some x) (h1 : m' (adr r) = some y) (hf : ∀ b, b ≠ adr r → m' b = m b) : MemIs adr (upd c r (some y)) m' where
  inj a b ha hb e := by
    refine M.inj a b ?_ ?_ e
    · intro q; by_cases z : a = r
      · rw [z, h] at q; cases q
      · rw [upd_ne z] at ha; exact ha q
    · intro q; by_cases z : b = r
      · rw [z, h] at q; cases q
      · rw [upd_ne z] at hb; exact hb q
  is a z := by
    by_cases e : a = adr r
    · subst e
      rw [h1]
      constructor
      · intro q; exact ⟨r, rfl, by rw [upd_self]; exact q⟩
      · rintro ⟨r', e, q⟩
        by_cases hr : r' = r
        · rw [hr, upd_self] at q; exact q
        · rw [upd_ne hr] at q
          exact absurd (M.inj r' r (by rw [q]; exact fun e => nomatch e) (by rw [h]; exact fun e => nomatch e) e) hr
    · rw [hf a e, M.is]
      constructor
      · rintro ⟨r', rfl, q⟩
        have hr : r' ≠ r := fun z => e (by rw [z])
        exact ⟨r', rfl, by rw [upd_ne hr]; exact q⟩
      · rintro ⟨r', rfl, q⟩
        have hr : r' ≠ r := fun z => e (by rw [z])
        exact ⟨r', rfl, by rw [upd_ne hr] at q; exact q⟩
theorem MemIs.new {r : Rl} {a : Addr} {y : AObj} (M : MemIs adr c m) (h : c r = none) (ha : m a = none) (h1 : m' a = some y) (hf : ∀ b, b ≠ a → m' b = m b) : MemIs (upd adr r a) (upd c r (some y)) m' := by
  have off : ∀ r' x, c r' = some x → adr r' ≠ a := fun r' x q e => by
    have := M.get q; rw [e, ha] at this; cases this
  refine ⟨fun p q hp hq e => ?_, fun b z => ?_⟩
  · by_cases h1 : p = r
    · by_cases h2 : q = r
      · rw [h1, h2]
      · rw [h1, upd_self, upd_ne h2] at e
        rw [upd_ne h2] at hq
        cases w : c q with
        | none => exact absurd w hq
        | some x => exact absurd e.symm (off q x w)
    · by_cases h2 : q = r
      · rw [h2, upd_self, upd_ne h1] at e
        rw [upd_ne h1] at hp
        cases w : c p with
        | none => exact absurd w hp
        | some x => exact absurd e (off p x w)
      · rw [upd_ne h1] at hp e
        rw [upd_ne h2] at hq e
        exact M.inj p q hp hq e
  · by_cases e : b = a
    · subst e
      rw [h1]
      constructor
      · intro q; exact ⟨r, by rw [upd_self], by rw [upd_self]; exact q⟩
      · rintro ⟨r', e, q⟩
        by_cases hr : r' = r
        · rw [hr, upd_self] at q; exact q
        · rw [upd_ne hr] at q e
          exact absurd e (off r' _ q)
    · rw [hf b e, M.is]
      constructor
      · rintro ⟨r', e', q⟩
        have hr : r' ≠ r := fun z => by rw [z, h] at q; cases q
        exact ⟨r', by rw [upd_ne hr]; exact e', by rw [upd_ne hr]; exact q⟩
      · rintro ⟨r', e', q⟩
        have hr : r' ≠ r := fun z => by rw [z, upd_self] at e'; exact e e'.symm
        exact ⟨r', by rw [upd_ne hr] at e'; exact e', by rw [upd_ne hr] at q; exact q⟩
set_option genInjectivity false in
set_option genSizeOf false in
structure Pr where
  name : Str
  body : List Str
  num : Int
  prec : V
  func : V
  file : V
  line : V
set_option genInjectivity false in
set_option genSizeOf false in
structure GR where
  p0 : V
  prods : List Pr
  pn : List Str
  te : List (Str × List Int)
  no : List (Str × List Int)
  fi : List (Str × List Str)
  fo : List (Str × List Str)
  pr : List (Str × V)
  up : V
  start : V
noncomputable def pV (C : Addr) (p : Pr) : V := .ins C (prodAttrs (.int p.num) p.name p.body p.prec p.func p.file p.line)
noncomputable def vInts (ns : List Int) : List V := ns.map .int
noncomputable def leaf : Rl → Bool
  | .teL _ | .noL _ | .pnL _ | .fiL _ | .foL _ => true
  | _ => false
theorem leaf_ne {r r' : Rl} (h : leaf r = false) (h' : leaf r' = true) : r ≠ r' := fun e => by rw [e, h'] at h; cases h
noncomputable def gKeys : List (Str × Rl) := [("Productions", .pl), ("Prodnames", .pn), ("Prodmap", .pm), ("Terminals", .te), ("Nonterminals", .no), ("First", .fi), ("Follow", .fo), ("Precedence", .pr)]
noncomputable def gAttrs (adr : Rl → Addr) (up start : V) : List (Str × V) := gKeys.map (fun q => (q.1, V.ref (adr q.2))) ++ [((Str.ofString "UsedPrecedence"), up), ((Str.ofString "Start"), start)]
theorem gKeys_leaf : gKeys.all (fun q => leaf q.2 == false) = true := rfl
theorem gAttrs_eq {adr adr' : Rl → Addr} {up st : V} (h : ∀ r, leaf r = false → adr r = adr' r) : gAttrs adr up st = gAttrs adr' up st :=
  congrArg (fun l => l ++ [((Str.ofString "UsedPrecedence"), up), ((Str.ofString "Start"), st)]) (List.map_congr_left fun (q : Str × Rl) hq => congrArg (fun a => (q.1, V.ref a)) (h q.2 (eq_of_beq (List.all_eq_true.mp gKeys_leaf q hq))))
structure GOk (C CP : Addr) (adr : Rl → Addr) (c : Rl → Option AObj) (g : GR) : Prop where
  self : c .self = some (.inst C (adr .dict))
  dict : ∃ ep, c .dict = some (.dict (gAttrs adr g.up g.start) ep)
  pl : c .pl = some (.list (g.p0 :: g.prods.map (pV CP)))
  pn : ∃ ep, c .pn = some (.dict (g.pn.map fun k => (k, .ref (adr (.pnL k)))) ep)
  pnL : ∀ k, c (.pnL k) = if k ∈ g.pn then some (.list ((g.prods.filter fun p => p.name = k).map (pV CP))) else none
  pm : ∃ ep, c .pm = some (.dict (g.prods.map fun p => (mapText p.name p.body, pV CP p)) ep)
  te : ∃ ep, c .te = some (.dict (g.te.map fun q => (q.1, .ref (adr (.teL q.1)))) ep)
  teL : ∀ k, c (.teL k) = (g.te.lookup k).map fun ns => .list (vInts ns)
  no : ∃ ep, c .no = some (.dict (g.no.map fun q => (q.1, .ref (adr (.noL q.1)))) ep)
  noL : ∀ k, c (.noL k) = (g.no.lookup k).map fun ns => .list (vInts ns)
  fi : ∃ ep, c .fi = some (.dict (g.fi.map fun q => (q.1, .ref (adr (.fiL q.1)))) ep)
  fiL : ∀ k, c (.fiL k) = (g.fi.lookup k).map fun ns => .list (vStrs ns)
  fo : ∃ ep, c .fo = some (.dict (g.fo.map fun q => (q.1, .ref (adr (.foL q.1)))) ep)
  foL : ∀ k, c (.foL k) = (g.fo.lookup k).map fun ns => .list (vStrs ns)
  pr : ∃ ep, c .pr = some (.dict g.pr ep)
  up : c .up = none
noncomputable def GMem (C CP : Addr) (g : GR) (a : Addr) (m : Mem) : Prop := ∃ adr c, MemIs adr c m ∧ GOk C CP adr c g ∧ adr .self = a
theorem getA_map {β : Type} (l : List (Str × β)) (f : Str → V) (k : Str) : getA (l.map fun q => (q.1, f q.1)) k = if (l.map (·.1)).contains k then some (f k) else none := by
  induction l with
  | nil => rfl
  | cons q l ih =>
    unfold getA at ih ⊢
    rw [List.map_cons, List.find?_cons, List.map_cons, List.contains_cons]
    by_cases h : q.1 = k
    · have e : (k == q.1) = true := by simpa using h.symm
      simp [h]
    · have e : (k == q.1) = false := by simpa using (Ne.symm h)
      have e2 : decide (q.1 = k) = false := decide_eq_false h
      simp only [e2, e, Bool.false_or]
      exact ih
theorem stA_new {es : List (Str × V)} {k : Str} {v : V} (h : getA es k = none) : stA es k v = es ++ [(k, v)] := by
  unfold stA
  rw [if_neg]
  intro q
  obtain ⟨e, he, hk⟩ := List.any_eq_true.mp q
  unfold getA at h
  rw [Option.map_eq_none_iff, List.find?_eq_none] at h
  exact h e he hk
theorem lookup_contains {β : Type} (l : List (Str × β)) (k : Str) : (l.lookup k).isSome = (l.map (·.1)).contains k := by
  induction l with
  | nil => rfl
  | cons q l ih =>
    obtain ⟨a, b⟩ := q
    rw [List.lookup_cons, List.map_cons, List.contains_cons]
    cases h : k == a with
    | true => rfl
    | false => simp only [Bool.false_or]; exact ih
end
end Mine
end
section
set_option autoImplicit false
namespace Mine
section
variable {W : Wd} {A : Around} {env : Env} {outer : Outs} {loc : Loc} {mem : Mem} {E : Ex W}
theorem new_set {Q : V → Loc → Mem → Prop} (h : ∀ a, Q (.ref a) loc mem) : OpV W A env outer (fun vs => call (.type "set") vs) [] loc mem Q E := fun R F s vs S r => by
  cases r.view
  exact call_set_0 fun led => Post.mk (.ref _) (S.grow (t := s.toks) (d := s.drawn) fun b o e => Heap.get?_push_of_some _ e) (h _)
noncomputable def g0 (ts : List Str) (up : V) : GR := { p0 := .none, prods := [], pn := [], te := ts.map (fun t => (t, ([] : List Int))) ++ [(("error" : Str), [])], no := [], fi := [], fo := [], pr := [], up := up, start := .none }
inductive P2C_J1 (ts : List Str) (adr1 : Rl → Addr) (cc1 : Rl → Option AObj) (k : Nat) (i : Nat) (l : Loc) (m : Mem) : Prop
  | mk (h1_ : k + i = ts.length) (h2_ : LSub [("self", .ref (adr1 .self))] l) (adr : _) (cc : _) (h3_ : MemIs adr cc m) (h4_ : (∀ r, (∀ k, r ≠ .teL k) → adr r = adr1 r)) (h5_ : (∀ r, (∀ k, r ≠ .teL k) → r ≠ .te → cc r = cc1 r)) (h6_ : (∃ ep, cc .te = some (.dict ((ts.take i).map fun t => (t, .ref (adr (.teL t)))) ep))) (h7_ : ∀ k, cc (.teL k) = if k ∈ ts.take i then some (.list []) else none)
theorem gInit_spec {ts : List Str} {Q : V → Loc → Mem → Prop} (hK : W.K = hdK W.w.params) (c : Calm A 700 6000) (hz : ts.length ≤ 100) (hnd : ts.Nodup) (he : ("error" : Str) ∉ ts)
    (h : ∀ a m up, GMem aGrammar aProd (g0 ts up) a m → Q (.ref a) loc m) : OpV W A env outer (fun vs => call (.ref aGrammar) vs) [.lst (vStrs ts)] loc (fun _ => none) Q E := by
  refine call_cls (C := aGrammar) (f := aGInit) (bs := fun x => [("self", .ref x), ("terminals", .lst (vStrs ts))]) (by rw [hK]; first | rfl | kernel_rfl | decide +kernel) (by rw [hK]; first | rfl | kernel_rfl | decide +kernel) (by rw [hK]; first | rfl | kernel_rfl | decide +kernel)
    (by rw [hK]; exact gInit.at _) (by rw [hK]; first | rfl | kernel_rfl | decide +kernel) (Nat.lt_of_le_of_lt (Nat.succ_le_succ c.depth) (by decide)) ?_ (by intro x y hy; simp at hy; rcases hy with rfl | rfl <;> rfl) (by decide) rfl rfl rfl ?_
  · intro x F s vs hb hk r
    cases r with
    | cons r0 r => cases r with
      | cons r1 r =>
        cases r
        exact ⟨_, BindsTo.of_eq rfl, .cons r0 (.cons r1 .nil)⟩
  · intro A' x d hA hh hg hfr hu mx md hxd L outer
    have c1 : Calm A' 701 6008 := ⟨hh.trans c.handled, hg.trans c.guards, by have := c.depth; omega, by have := c.units; omega⟩
    have cd := c1.deeper (envX "Grammar.__init__" gInit.scope L 137 gInit.code [])
    obtain ⟨m, hm⟩ : ∃ m, m = mset (mset (fun _ => none) d (.dict [] 0)) x (.inst aGrammar d) := ⟨_, rfl⟩
    obtain ⟨adr, cc, M, e1, e2, hadr, hcc⟩ : ∃ (adr : Rl → Addr) (cc : Rl → Option AObj), MemIs adr cc m ∧ cc .self = some (.inst aGrammar d) ∧ cc .dict = some (.dict [] 0) ∧ (adr .self = x ∧ adr .dict = d) ∧ ∀ r, r ≠ .self → r ≠ .dict → cc r = none := by
      refine ⟨fun r => if r = .self then x else d, fun r => if r = .self then some (.inst aGrammar d) else if r = .dict then some (.dict [] 0) else none, ⟨?_, ?_⟩, rfl, rfl, ⟨rfl, rfl⟩, ?_⟩
      · intro r r' h1 h2 e
        by_cases a1 : r = .self <;> by_cases a2 : r' = .self <;> by_cases b1 : r = .dict <;> by_cases b2 : r' = .dict <;> simp_all
      · intro a z
        rw [hm]
        unfold mset
        constructor
        · intro q
          split at q
          · rename_i e; cases q; exact ⟨.self, e.symm, rfl⟩
          · split at q
            · rename_i e; cases q; exact ⟨.dict, e.symm, rfl⟩
            · cases q
        · rintro ⟨r, e, q⟩
          by_cases h1 : r = .self
          · simp only [h1, if_true] at e q; rw [if_pos e.symm]; exact q
          · by_cases h2 : r = .dict
            · subst h2; simp at e q; subst e; rw [if_neg (Ne.symm hxd), if_pos rfl, q]
            · simp only [h1, h2, if_false] at q; cases q
      · intro r h1 h2; simp [h1, h2]
    rw [← hm]
    clear hm
    obtain ⟨rfl, rfl⟩ := hadr
    (refine nameS ?_; intro aa vv oo qq ee; refine s_cons ?_); refine s_assign_attr rfl ?_; refine e_list ?_; refine a_cons rfl ?_; refine e_none ?_; refine a_nil ?_
    refine new_own' (by decide) (fun a1 m1 ha1 hl1 hf1 => ?_)
    have M := M.new (r := .pl) (hcc _ (by decide) (by decide)) ha1 hl1 hf1
    refine e_local rfl rfl rfl rfl ?_
    refine set_o hK (fun _ => by kernel_rfl) (M.get (r := .self) e1) (M.get (r := .dict) e2) rfl (fun m ep hx hd hf => ?_)
    have hd : _ = some (AObj.dict [(Str.ofString "Productions", _)] _) := hd
    have M := M.set (r := .dict) e2 hd hf
    clear hx hd hf
    refine s_cons ?_; refine s_assign_attr rfl ?_
    refine e_dict0' (fun a1 m1 ha1 hl1 hf1 => ?_)
    have M := M.new (r := .pn) (hcc _ (by decide) (by decide)) ha1 hl1 hf1
    clear ha1 hl1 hf1
    refine e_local rfl rfl rfl rfl ?_
    refine set_o hK (fun _ => by kernel_rfl) (M.get (r := .self) e1) (M.get (r := .dict) rfl) rfl (fun m ep hx hd hf => ?_)
    have hd : _ = some (AObj.dict [(Str.ofString "Productions", _), (Str.ofString "Prodnames", _)] _) := hd
    have M := M.set (r := .dict) rfl hd hf
    clear hx hd hf
    refine s_cons ?_; refine s_assign_attr rfl ?_
    refine e_dict0' (fun a1 m1 ha1 hl1 hf1 => ?_)
    have M := M.new (r := .pm) (hcc _ (by decide) (by decide)) ha1 hl1 hf1
    clear ha1 hl1 hf1
    refine e_local rfl rfl rfl rfl ?_
    refine set_o hK (fun _ => by kernel_rfl) (M.get (r := .self) e1) (M.get (r := .dict) rfl) rfl (fun m ep hx hd hf => ?_)
    have hd : _ = some (AObj.dict [(Str.ofString "Productions", _), (Str.ofString "Prodnames", _), (Str.ofString "Prodmap", _)] _) := hd
    have M := M.set (r := .dict) rfl hd hf
    clear hx hd hf
    refine s_cons ?_; refine s_assign_attr rfl ?_
    refine e_dict0' (fun a1 m1 ha1 hl1 hf1 => ?_)
    have M := M.new (r := .te) (hcc _ (by decide) (by decide)) ha1 hl1 hf1
    clear ha1 hl1 hf1
    refine e_local rfl rfl rfl rfl ?_
    refine set_o hK (fun _ => by kernel_rfl) (M.get (r := .self) e1) (M.get (r := .dict) rfl) rfl (fun m ep hx hd hf => ?_)
    have hd : _ = some (AObj.dict [(Str.ofString "Productions", _), (Str.ofString "Prodnames", _), (Str.ofString "Prodmap", _), (Str.ofString "Terminals", _)] _) := hd
    have M := M.set (r := .dict) rfl hd hf
    clear hx hd hf
    refine s_cons ?_; refine s_for (fun _ => rfl) ?_; refine e_local rfl rfl rfl rfl ?_
    obtain ⟨adr1, cc1, M, fs, fd, fself, ⟨epd, fdict⟩, fpl, fpn, fpm, fte, fno⟩ : ∃ (adr1 : Rl → Addr) (cc1 : Rl → Option AObj), MemIs adr1 cc1 m ∧ adr1 .self = adr .self ∧ adr1 .dict = adr .dict ∧ cc1 .self = some (.inst aGrammar (adr1 .dict)) ∧ (∃ ep, cc1 .dict = some (.dict [("Productions", .ref (adr1 .pl)), ("Prodnames", .ref (adr1 .pn)), ("Prodmap", .ref (adr1 .pm)), ("Terminals", .ref (adr1 .te))] ep)) ∧ cc1 .pl = some (.list [.none]) ∧ cc1 .pn = some (.dict [] 0) ∧ cc1 .pm = some (.dict [] 0) ∧ cc1 .te = some (.dict [] 0) ∧ (∀ r, r ≠ .self → r ≠ .dict → r ≠ .pl → r ≠ .pn → r ≠ .pm → r ≠ .te → cc1 r = none) := by
      refine ⟨_, _, M, rfl, rfl, e1, ⟨_, rfl⟩, rfl, rfl, rfl, rfl, fun r h1 h2 h3 h4 h5 h6 => ?_⟩
      simp [upd, h1, h2, h3, h4, h5, h6, hcc]
    rw [← fs] at hxd ⊢
    let J1 : Nat → Nat → Loc → Mem → Prop := P2C_J1 ts adr1 cc1
    refine for_k (itr_lst cd.handled) J1 ?_ ts.length ⟨rfl, rfl, adr1, cc1, M, fun _ _ => rfl, fun _ _ _ => rfl, ⟨0, fte⟩, fun k => by simp; exact fno _ (by simp) (by simp) (by simp) (by simp) (by simp) (by simp)⟩
    · rintro k i l m2 ⟨hk, hl, adr2, cc2, M, hadr, hcc2, ⟨ep2, hte⟩, htl⟩
      have s2 : adr2 .self = adr1 .self := hadr _ (by simp)
      have self2 : cc2 .self = some (.inst aGrammar (adr2 .dict)) := by rw [hadr .dict (by simp), hcc2 _ (by simp) (by simp)]; exact fself
      have dict2 : cc2 .dict = some (.dict [("Productions", .ref (adr2 .pl)), ("Prodnames", .ref (adr2 .pn)), ("Prodmap", .ref (adr2 .pm)), ("Terminals", .ref (adr2 .te))] epd) := by
        rw [hadr .pl (by simp), hadr .pn (by simp), hadr .pm (by simp), hadr .te (by simp), hcc2 _ (by simp) (by simp)]; exact fdict
      have no2 : ∀ r, (∀ k, r ≠ .teL k) → r ≠ .self → r ≠ .dict → r ≠ .pl → r ≠ .pn → r ≠ .pm → r ≠ .te → cc2 r = none := fun r h0 h1 h2 h3 h4 h5 h6 => by rw [hcc2 r h0 h6]; exact fno r h1 h2 h3 h4 h5 h6
      have pl2 : cc2 .pl = some (.list [.none]) := by rw [hcc2 _ (by simp) (by simp)]; exact fpl
      have pn2 : cc2 .pn = some (.dict [] 0) := by rw [hcc2 _ (by simp) (by simp)]; exact fpn
      have pm2 : cc2 .pm = some (.dict [] 0) := by rw [hcc2 _ (by simp) (by simp)]; exact fpm
      clear hxd fself fdict fno
      refine ⟨by simp [setItem_], fun hn1 => ?_, fun v hv => ?_⟩
      · have hn1 : (vStrs ts)[i]? = none := Option.some.inj hn1
        rw [List.getElem?_eq_none_iff, vStrs_len] at hn1
        obtain rfl : i = ts.length := by omega
        rw [List.take_length] at hte htl
        refine Tr.locs hl ?_
        rw [← s2]
        refine s_nil ?_; refine s_cons ?_; refine s_assign_sub rfl ?_; refine e_list ?_; refine a_nil ?_
        refine new_own' (by decide) (fun a1 m1 ha1 hl1 hf1 => ?_)
        have hnew : cc2 (.teL "error") = none := by rw [htl, if_neg he]
        have M1 := M.new (r := .teL "error") hnew ha1 hl1 hf1
        clear ha1 hl1 hf1
        refine e_attr rfl ?_; refine e_local rfl rfl rfl rfl ?_
        refine get_o hK (fun _ => by kernel_rfl) (.own (M1.get (r := .self) self2) (M1.get (r := .dict) dict2)) rfl rfl ?_
        refine e_str ?_
        refine setItem_dict' (M1.get (r := .te) hte) (by rw [List.length_map]; try rw [List.length_take]
                                                         exact Nat.le_trans (by omega) (show 100 ≤ sizeLine by decide)) (fun m3 ep3 hl3 hf3 => ?_)
        have M2 := M1.set (r := .te) hte hl3 hf3
        refine s_cons ?_; refine s_assign_attr rfl ?_
        have M := M2
        clear M1 M2
        refine e_dict0' (fun a1 m1 ha1 hl1 hf1 => ?_)
        have M := M.new (r := .no) (no2 _ (by simp) (by simp) (by simp) (by simp) (by simp) (by simp) (by simp)) ha1 hl1 hf1
        clear ha1 hl1 hf1
        refine e_local rfl rfl rfl rfl ?_
        refine set_o hK (fun _ => by kernel_rfl) (M.get (r := .self) self2) (M.get (r := .dict) dict2) rfl (fun m ep hx hd hf => ?_)
        have hd : _ = some (AObj.dict [(Str.ofString "Productions", _), (Str.ofString "Prodnames", _), (Str.ofString "Prodmap", _), (Str.ofString "Terminals", _), (Str.ofString "Nonterminals", _)] _) := hd
        have M := M.set (r := .dict) dict2 hd hf
        clear hx hd hf
        refine s_cons ?_; refine s_assign_attr rfl ?_
        refine e_dict0' (fun a1 m1 ha1 hl1 hf1 => ?_)
        have M := M.new (r := .fi) (no2 _ (by simp) (by simp) (by simp) (by simp) (by simp) (by simp) (by simp)) ha1 hl1 hf1
        clear ha1 hl1 hf1
        refine e_local rfl rfl rfl rfl ?_
        refine set_o hK (fun _ => by kernel_rfl) (M.get (r := .self) self2) (M.get (r := .dict) rfl) rfl (fun m ep hx hd hf => ?_)
        have hd : _ = some (AObj.dict [(Str.ofString "Productions", _), (Str.ofString "Prodnames", _), (Str.ofString "Prodmap", _), (Str.ofString "Terminals", _), (Str.ofString "Nonterminals", _), (Str.ofString "First", _)] _) := hd
        have M := M.set (r := .dict) rfl hd hf
        clear hx hd hf
        refine s_cons ?_; refine s_assign_attr rfl ?_
        refine e_dict0' (fun a1 m1 ha1 hl1 hf1 => ?_)
        have M := M.new (r := .fo) (no2 _ (by simp) (by simp) (by simp) (by simp) (by simp) (by simp) (by simp)) ha1 hl1 hf1
        clear ha1 hl1 hf1
        refine e_local rfl rfl rfl rfl ?_
        refine set_o hK (fun _ => by kernel_rfl) (M.get (r := .self) self2) (M.get (r := .dict) rfl) rfl (fun m ep hx hd hf => ?_)
        have hd : _ = some (AObj.dict [(Str.ofString "Productions", _), (Str.ofString "Prodnames", _), (Str.ofString "Prodmap", _), (Str.ofString "Terminals", _), (Str.ofString "Nonterminals", _), (Str.ofString "First", _), (Str.ofString "Follow", _)] _) := hd
        have M := M.set (r := .dict) rfl hd hf
        clear hx hd hf
        refine s_cons ?_; refine s_assign_attr rfl ?_
        refine e_dict0' (fun a1 m1 ha1 hl1 hf1 => ?_)
        have M := M.new (r := .pr) (no2 _ (by simp) (by simp) (by simp) (by simp) (by simp) (by simp) (by simp)) ha1 hl1 hf1
        clear ha1 hl1 hf1
        refine e_local rfl rfl rfl rfl ?_
        refine set_o hK (fun _ => by kernel_rfl) (M.get (r := .self) self2) (M.get (r := .dict) rfl) rfl (fun m ep hx hd hf => ?_)
        have hd : _ = some (AObj.dict [(Str.ofString "Productions", _), (Str.ofString "Prodnames", _), (Str.ofString "Prodmap", _), (Str.ofString "Terminals", _), (Str.ofString "Nonterminals", _), (Str.ofString "First", _), (Str.ofString "Follow", _), (Str.ofString "Precedence", _)] _) := hd
        have M := M.set (r := .dict) rfl hd hf
        clear hx hd hf
        refine s_cons ?_; refine s_assign_attr rfl ?_; refine c_name rfl ?_; refine e_boot rfl rfl rfl rfl rfl (by rw [hK]; rfl) rfl (by decide) ?_; refine c_type0 ?_
        refine new_set (fun up => ?_)
        refine e_local rfl rfl rfl rfl ?_
        refine set_o hK (fun _ => by kernel_rfl) (M.get (r := .self) self2) (M.get (r := .dict) rfl) rfl (fun m ep hx hd hf => ?_)
        have hd : _ = some (AObj.dict [(Str.ofString "Productions", _), (Str.ofString "Prodnames", _), (Str.ofString "Prodmap", _), (Str.ofString "Terminals", _), (Str.ofString "Nonterminals", _), (Str.ofString "First", _), (Str.ofString "Follow", _), (Str.ofString "Precedence", _), (Str.ofString "UsedPrecedence", _)] _) := hd
        have M := M.set (r := .dict) rfl hd hf
        clear hx hd hf
        refine s_cons ?_; refine s_assign_attr rfl ?_; refine e_none ?_; refine e_local rfl rfl rfl rfl ?_
        refine set_o hK (fun _ => by kernel_rfl) (M.get (r := .self) self2) (M.get (r := .dict) rfl) rfl (fun m ep hx hd hf => ?_)
        have hd : _ = some (AObj.dict [(Str.ofString "Productions", _), (Str.ofString "Prodnames", _), (Str.ofString "Prodmap", _), (Str.ofString "Terminals", _), (Str.ofString "Nonterminals", _), (Str.ofString "First", _), (Str.ofString "Follow", _), (Str.ofString "Precedence", _), (Str.ofString "UsedPrecedence", _), (Str.ofString "Start", _)] _) := hd
        have M := M.set (r := .dict) rfl hd hf
        clear hx hd hf
        refine s_nil ?_
        have gets : ∀ (b : Addr) (l : List Str), getA (l.map fun t => (t, V.ref (adr2 (.teL t)))) "error" = if l.contains ("error" : Str) then some (.ref (adr2 (.teL "error"))) else none := fun b l => by
          have := getA_map (l.map fun t => (t, ())) (fun t => V.ref (adr2 (.teL t))) "error"
          rw [List.map_map, List.map_map] at this
          simpa [Function.comp_def] using this
        refine ⟨m, sub_refl _, rfl, h _ _ (.ref up) ⟨_, _, M, ?_, s2.trans fs⟩⟩
        refine {
          self := self2
          dict := ⟨_, rfl⟩
          pl := pl2
          pn := ⟨_, pn2⟩
          pnL := fun k => (no2 (.pnL k) (by simp) (by simp) (by simp) (by simp) (by simp) (by simp) (by simp)).trans rfl
          pm := ⟨_, pm2⟩
          te := ⟨ep3, ?_⟩
          teL := fun k => ?_
          no := ⟨_, rfl⟩
          noL := fun k => no2 (.noL k) (by simp) (by simp) (by simp) (by simp) (by simp) (by simp) (by simp)
          fi := ⟨_, rfl⟩
          fiL := fun k => no2 (.fiL k) (by simp) (by simp) (by simp) (by simp) (by simp) (by simp) (by simp)
          fo := ⟨_, rfl⟩
          foL := fun k => no2 (.foL k) (by simp) (by simp) (by simp) (by simp) (by simp) (by simp) (by simp)
          pr := ⟨_, rfl⟩
          up := no2 .up (by simp) (by simp) (by simp) (by simp) (by simp) (by simp) (by simp) }
        · show some (AObj.dict (stA _ _ _) _) = _
          rw [stA_new (by rw [gets 0]; rw [if_neg (by rw [List.contains_iff_mem]; exact he)])]
          simp only [g0, List.map_append, List.map_map, List.map_cons, List.map_nil, Function.comp_def]
          refine congrArg (fun z => some (AObj.dict z ep3)) (congr (congrArg _ (List.map_congr_left fun t ht => ?_)) ?_)
          · have : t ≠ "error" := fun e => he (e ▸ ht)
            simp [upd, this]
          · simp [upd]
        · have hlk : ((g0 ts (.ref up)).te.lookup k).map (fun ns => AObj.list (vInts ns)) = if k = "error" then some (.list []) else if k ∈ ts then some (.list []) else none := by
            have hl : ∀ (l : List Str), (l.map fun t => (t, ([] : List Int))).lookup k = if k ∈ l then some [] else none := fun l => by
              induction l with
              | nil => rfl
              | cons z l ih =>
                rw [List.map_cons, List.lookup_cons, ih]
                by_cases e : k = z
                · subst e; simp
                · have : (k == z) = false := by simpa using e
                  simp [this, e]
            show ((ts.map (fun t => (t, ([] : List Int))) ++ [(("error" : Str), [])]).lookup k).map _ = _
            rw [lookup_append', hl]
            by_cases e : k = "error"
            · subst e; rw [if_neg he, if_pos rfl]; simp [List.lookup, vInts]
            · have : (k == ("error" : Str)) = false := by simpa using e
              by_cases e2 : k ∈ ts
              · rw [if_pos e2, if_neg e, if_pos e2]; rfl
              · rw [if_neg e2, if_neg e, if_neg e2]; simp [List.lookup, this]
          rw [hlk]
          by_cases e : k = "error"
          · subst e; simp [upd]
          · rw [if_neg e, ← htl k]
            simp [upd, e]
      · have hi : (vStrs ts)[i]? = some v := Option.some.inj hv
        obtain ⟨y, rfl, hy1⟩ : ∃ y, v = .str y ∧ ts[i]? = some y := by
          unfold vStrs at hi
          rw [List.getElem?_map] at hi
          cases e : ts[i]? with
          | none => rw [e] at hi; cases hi
          | some y => rw [e] at hi; exact ⟨y, (Option.some.inj hi).symm, rfl⟩
        refine Op.locs hl ?_
        rw [← s2]
        refine asg_name ?_; refine st_local rfl rfl ?_; (refine nameQ ?_; intro qq ee; refine s_cons ?_); refine s_assign_sub rfl ?_; refine e_list ?_; refine a_nil ?_
        refine new_own' (by decide) (fun a1 m1 ha1 hl1 hf1 => ?_)
        have hny : y ∉ ts.take i := fun q => by
          have hlt : i < ts.length := by rw [List.getElem?_eq_some_iff] at hy1; exact hy1.1
          have e := take_snoc hy1
          have nd : (ts.take (i + 1)).Nodup := hnd.sublist (List.take_sublist _ _)
          rw [e, List.nodup_append] at nd
          exact nd.2.2 y q y (by simp) rfl
        have hnew : cc2 (.teL y) = none := by rw [htl, if_neg hny]
        have M1 := M.new (r := .teL y) hnew ha1 hl1 hf1
        refine e_attr rfl ?_; refine e_local rfl rfl rfl rfl ?_
        refine get_o hK (fun _ => by kernel_rfl) (.own (M1.get (r := .self) self2) (M1.get (r := .dict) dict2)) rfl rfl ?_
        refine e_local rfl rfl rfl rfl ?_
        refine setItem_dict' (M1.get (r := .te) hte) (by rw [List.length_map]; try rw [List.length_take]
                                                         exact Nat.le_trans (by omega) (show 100 ≤ sizeLine by decide)) (fun m3 ep3 hl3 hf3 => ?_)
        have M2 := M1.set (r := .te) hte hl3 hf3
        refine s_nil ?_
        refine ⟨k - 1, by have hlt : i < ts.length := by rw [List.getElem?_eq_some_iff] at hy1; exact hy1.1
                          omega, by have hlt : i < ts.length := by rw [List.getElem?_eq_some_iff] at hy1; exact hy1.1
                                    omega, by rw [s2]; rfl, _, _, M2, fun r hr => ?_, fun r hr h2 => ?_, ⟨ep3, ?_⟩, fun k' => ?_⟩
        · rw [upd_ne (hr y)]; exact hadr r hr
        · rw [upd_ne h2, upd_ne (hr y)]; exact hcc2 r hr h2
        · rw [upd_self, stA_new]
          · rw [take_snoc hy1, List.map_append]
            refine congrArg (fun z => some (AObj.dict z ep3)) (congr (congrArg _ (List.map_congr_left fun t ht => ?_)) ?_)
            · have : t ≠ y := fun e => hny (e ▸ ht)
              simp [upd, this]
            · simp [upd]
          · have := getA_map ((ts.take i).map fun t => (t, ())) (fun t => V.ref (adr2 (.teL t))) y
            rw [List.map_map, List.map_map] at this
            rw [show ((ts.take i).map fun t => (t, V.ref (adr2 (.teL t)))) = List.map ((fun q : Str × Unit => (q.1, V.ref (adr2 (.teL q.1)))) ∘ fun t => (t, ())) (ts.take i) from rfl, this, if_neg]
            rw [List.contains_iff_mem]
            intro q; apply hny; simpa [Function.comp_def] using q
        · rw [upd_ne (by simp)]
          by_cases e : k' = y
          · subst e
            rw [upd_self, take_snoc hy1, if_pos (by simp)]
          · rw [upd_ne (by simpa using e), htl, take_snoc hy1]
            simp [e]
end
end Mine
end
section
set_option autoImplicit false
namespace Mine
noncomputable def isNone : Value → Bool
  | .none => true
  | _ => false
theorem isNone_shape {v : Value} (h : isNone v = true) : v = .none := by cases v <;> first | rfl | cases h
noncomputable def noneKind (prog : Program) (w : World) : KeyKind prog w Unit where
  is _ v := isNone v
  hash _ := hashW w.params .none
  inj _ _ _ _ _ := rfl
  byValue _ v h := by rw [isNone_shape h]; rfl
  pyHash := by
    intro A E s k v Q h q
    rw [isNone_shape h]
    exact pyHash_slot (T := "NoneType") rfl PySem.F.slot_NoneType_hash PySem.F.entry_NoneType_hash (PySem.F.args_NoneType_hash_1 _) (beq_builtin_none _) (.inl rfl) (wpAny_bind (wpAny_pure (wpAny_bind (wpAny_mkInt (wpAny_pure ⟨_, _, rfl, q⟩)))))
  eqBool := by
    intro A E s a b u v Q h1 h2 q
    rw [isNone_shape h1, isNone_shape h2]
    unfold PySem.eqBool
    refine wpAny_holding ?_
    show wpAny _ _ (do rule "eq-bool.same-object"; return true) _ _ _
    exact wpAny_bind (wpAny_rule (wpAny_pure q))
  «strs» := fun k x t v h => by cases h
section
variable {W : Wd} {A : Around} {env : Env} {outer : Outs} {loc : Loc} {mem R : Mem} {E : Ex W} {F : Frz} {s : Shared}
theorem dict_get2_none {a : Addr} {ep : Nat} {d : V} {Q : V → Loc → Mem → Prop} (hm : mem a = some (.dict [] ep)) (h : Q d loc mem) :
    OpV W A env outer (fun vs => call (.builtin "dict.get") vs) [.ref a, .none, d] loc mem Q E := op3 fun R F s v u t S r1 r2 r3 => by
  cases r1.view; cases r2.view
  obtain ⟨kvs, hd, q⟩ := S.dict hm
  cases q.view
  obtain ⟨o, es, ep', ho, hx, hdd, hk, hp, hn⟩ := hd
  have he : es = #[] := by
    have : es.toList = [] := by have := hp.length; exact List.eq_nil_of_length_eq_zero (by simpa using this)
    simpa using this
  subst he
  have mo : s.heap.MapOf (noneKind W.prog W.w) a (fun _ => none) := ⟨o, #[], ep', ho, hx, hdd, fun e he => by simp at he, fun k => rfl⟩
  exact call_meetsIn PySem.F.slot_dict_get mo.typeIs PySem.F.entry_dict_get (PySem.F.args_dict_get_3 _ _ _) (meets_dict_get_default (noneKind W.prog W.w) a (k := ()) rfl (S.not_modules hm) t) ⟨_, mo, Post.mk r3 S.tick h⟩
end
end Mine
end
section
set_option autoImplicit false
namespace Mine
theorem toPy_strs (ys : List Str) : (vStrs ys).map (toPy 0) = ys.map .str := by unfold vStrs; rw [List.map_map]; rfl
theorem strs_showable (ys : List Str) : (PyData.list (ys.map .str)).showable = true := by
  simp only [PyData.showable]
  induction ys with
  | nil => rfl
  | cons y ys ih => simp only [List.map_cons, PyData.showableAll, PyData.showable, Bool.true_and]; exact ih
theorem strs_noDict (ys : List Str) : (PyData.list (ys.map .str)).hasDict = false := by
  simp only [PyData.hasDict]
  induction ys with
  | nil => rfl
  | cons y ys ih => simp only [List.map_cons, PyData.hasDictAll, PyData.hasDict, Bool.false_or]; exact ih
theorem strs_depth (ys : List Str) : (PyData.list (ys.map .str)).depth ≤ 1 := by
  rw [PyData.depth]
  refine Nat.succ_le_succ ?_
  induction ys with
  | nil => exact Nat.le_refl _
  | cons y ys ih => rw [List.map_cons, PyData.depthAll]; exact Nat.max_le.mpr ⟨by rw [PyData.depth]; exact Nat.zero_le _, ih⟩
theorem strs_len {ys : List Str} (h : ∀ y ∈ ys, y.cps.size ≤ 100 ∧ PyData.strOk y = true) (hz : ys.length ≤ 100) : (PyData.list (ys.map .str)).shown.length ≤ 1000000 := by
  have hl : (PyData.list (ys.map .str)).leavesShort 8 = true := by
    refine PyData.leavesShort_of_canLay0 8 _ ?_ ?_
    · rw [PyData.canLay0, canLayAll0_iff, List.all_map, List.all_eq_true]
      exact fun y hy => by simpa [PyData.canLay0] using (h y hy).2
    · simp only [PyData.intsShort]
      clear h hz
      induction ys with
      | nil => rfl
      | cons y ys ih => simp only [List.map_cons, PyData.intsShortAll, PyData.intsShort, Bool.true_and]; exact ih
  have hw : (PyData.list (ys.map .str)).weight ≤ ys.length * 101 := by
    simp only [PyData.weight]
    clear hl hz
    induction ys with
    | nil => exact Nat.le_refl _
    | cons y ys ih =>
      have h1 := (h y (.head _)).1
      have h2 := ih fun z hz => h z (.tail _ hz)
      simp only [List.map_cons, PyData.weightAll, PyData.weight, List.length_cons, Nat.succ_mul]
      omega
  have := PyData.shown_le 8 (by decide) _ hl
  omega
end Mine
end
section
set_option autoImplicit false
namespace Mine
noncomputable def GS (adr : Rl → Addr) (c : Rl → Option AObj) (sy : Addr) (X : AObj) (m : Mem) : Prop := ∃ gm, m = mset gm sy X ∧ MemIs adr c gm ∧ gm sy = none
variable {adr : Rl → Addr} {c : Rl → Option AObj} {sy : Addr} {X : AObj} {m m' : Mem}
theorem GS.get {r : Rl} {x : AObj} (G : GS adr c sy X m) (h : c r = some x) : m (adr r) = some x := by
  obtain ⟨gm, rfl, M, hs⟩ := G
  have := M.get h
  rw [mset_ne (nex this hs)]; exact this
theorem GS.side (G : GS adr c sy X m) : m sy = some X := by obtain ⟨gm, rfl, M, hs⟩ := G; exact mset_self _ _ _
theorem GS.split (G : GS adr c sy X m) {a : Addr} (ha : a ≠ sy) {y : AObj} (h1 : m' a = some y) (hf : ∀ b, b ≠ a → m' b = m b) : ∃ gm, m = mset gm sy X ∧ MemIs adr c gm ∧ gm sy = none ∧ m' = mset (mset gm a y) sy X := by
  obtain ⟨gm, rfl, M, hs⟩ := G
  refine ⟨gm, rfl, M, hs, ?_⟩
  funext b
  by_cases e : b = a
  · rw [e, h1, mset_ne ha, mset_self]
  · rw [hf b e]
    by_cases e2 : b = sy
    · rw [e2, mset_self, mset_self]
    · rw [mset_ne e2, mset_ne e2, mset_ne e]
theorem GS.set {r : Rl} {x y : AObj} (G : GS adr c sy X m) (h : c r = some x) (h1 : m' (adr r) = some y) (hf : ∀ b, b ≠ adr r → m' b = m b) : GS adr (upd c r (some y)) sy X m' := by
  have ha : adr r ≠ sy := fun e => by
    obtain ⟨gm, rfl, M, hs⟩ := G
    have := M.get h; rw [e, hs] at this; cases this
  obtain ⟨gm, _, M, hs, e⟩ := G.split ha h1 hf
  exact ⟨_, e, M.set h (mset_self _ _ _) fun b hb => mset_ne hb, by rw [mset_ne (Ne.symm ha)]; exact hs⟩
theorem GS.new {r : Rl} {a : Addr} {y : AObj} (G : GS adr c sy X m) (h : c r = none) (hn : m a = none) (h1 : m' a = some y) (hf : ∀ b, b ≠ a → m' b = m b) : GS (upd adr r a) (upd c r (some y)) sy X m' := by
  have ha : a ≠ sy := fun e => by rw [e, G.side] at hn; cases hn
  obtain ⟨gm, e0, M, hs, e⟩ := G.split ha h1 hf
  have hg : gm a = none := by rw [e0, mset_ne ha] at hn; exact hn
  exact ⟨_, e, M.new h hg (mset_self _ _ _) fun b hb => mset_ne hb, by rw [mset_ne (Ne.symm ha)]; exact hs⟩
theorem GS.done (G : GS adr c sy X m) : ∃ gm, MemIs adr c gm ∧ Sub gm m := by
  obtain ⟨gm, rfl, M, hs⟩ := G
  exact ⟨gm, M, fun a x e => by rw [mset_ne (nex e hs)]; exact e⟩
end Mine
end
section
set_option autoImplicit false
namespace Mine
noncomputable def pushL (l : List (Str × List Int)) (k : Str) (n : Int) : List (Str × List Int) := l.map fun q => if q.1 = k then (q.1, q.2 ++ [n]) else q
theorem pushL_keys (l : List (Str × List Int)) (k : Str) (n : Int) : (pushL l k n).map (·.1) = l.map (·.1) := by
  unfold pushL; rw [List.map_map]; refine List.map_congr_left fun q _ => ?_
  simp only [Function.comp_apply]; split <;> rfl
theorem pushL_refs (l : List (Str × List Int)) (k : Str) (n : Int) (f : Str → V) : ((pushL l k n).map fun q => (q.1, f q.1)) = l.map fun q => (q.1, f q.1) := by
  unfold pushL; rw [List.map_map]; refine List.map_congr_left fun q _ => ?_
  simp only [Function.comp_apply]; split <;> rfl
theorem pushL_lookup (l : List (Str × List Int)) (k : Str) (n : Int) (k' : Str) : (pushL l k n).lookup k' = if k' = k then (l.lookup k').map (· ++ [n]) else l.lookup k' := by
  unfold pushL
  induction l with
  | nil => simp
  | cons q l ih =>
    obtain ⟨a, b⟩ := q
    rw [List.map_cons, List.lookup_cons]
    by_cases h : k' = a
    · subst h
      by_cases h2 : k' = k
      · subst h2; simp [List.lookup]
      · simp [List.lookup, h2]
    · have e : (k' == a) = false := by simpa using h
      have e2 : (k' == (if a = k then (a, b ++ [n]) else (a, b)).1) = false := by split <;> exact e
      rw [show (k' == (if (a, b).fst = k then ((a, b).fst, (a, b).snd ++ [n]) else (a, b)).fst) = false from e2]
      rw [List.lookup_cons, e]
      exact ih
noncomputable def known (l : List (Str × List Int)) (k : Str) : List (Str × List Int) := if (l.lookup k).isSome then l else l ++ [(k, [])]
theorem known_lookup (l : List (Str × List Int)) (k k' : Str) : (known l k).lookup k' = if k' = k then some ((l.lookup k).getD []) else l.lookup k' := by
  unfold known
  split
  · rename_i h
    obtain ⟨ns, e⟩ := Option.isSome_iff_exists.mp h
    by_cases q : k' = k
    · subst q; rw [if_pos rfl, e]; rfl
    · rw [if_neg q]
  · rename_i h
    rw [lookup_append']
    by_cases q : k' = k
    · subst q
      have : l.lookup k' = none := by cases z : l.lookup k' with | none => rfl | some _ => rw [z] at h; exact absurd rfl h
      rw [if_pos rfl, this]; simp [List.lookup]
    · have e : (k' == k) = false := by simpa using q
      rw [if_neg q]; simp [List.lookup, e]
noncomputable def noteSym (num : Int) (tn : List (Str × List Int) × List (Str × List Int)) (s : Str) : List (Str × List Int) × List (Str × List Int) :=
  if (tn.1.lookup s).isSome then (pushL tn.1 s num, tn.2) else (tn.1, pushL (known tn.2 s) s num)
noncomputable def addG (g : GR) (name : Str) (syms : List Str) (prec func file line : V) : GR :=
  let num : Int := g.prods.length + 1
  let tn := syms.foldl (noteSym num) (g.te, known g.no name)
  { g with prods := g.prods ++ [{ name := name, body := syms, num := num, prec := prec, func := func, file := file, line := line }], pn := if name ∈ g.pn then g.pn else g.pn ++ [name], te := tn.1, no := tn.2 }
end Mine
end
section
set_option autoImplicit false
namespace Mine
structure TN (adr0 : Rl → Addr) (c0 : Rl → Option AObj) (adr : Rl → Addr) (c : Rl → Option AObj) (te no : List (Str × List Int)) : Prop where
  adrE : ∀ r, (∀ k, r ≠ .noL k) → adr r = adr0 r
  cE : ∀ r, (∀ k, r ≠ .noL k) → (∀ k, r ≠ .teL k) → r ≠ .no → c r = c0 r
  hte : ∃ ep, c .te = some (.dict (te.map fun q => (q.1, .ref (adr (.teL q.1)))) ep)
  teL : ∀ k, c (.teL k) = (te.lookup k).map fun ns => .list (vInts ns)
  hno : ∃ ep, c .no = some (.dict (no.map fun q => (q.1, .ref (adr (.noL q.1)))) ep)
  noL : ∀ k, c (.noL k) = (no.lookup k).map fun ns => .list (vInts ns)
variable {adr0 adr : Rl → Addr} {c0 c : Rl → Option AObj} {te no : List (Str × List Int)}
theorem TN.pushT {s : Str} {n : Int} {ns : List Int} (T : TN adr0 c0 adr c te no) (h : te.lookup s = some ns) : TN adr0 c0 adr (upd c (.teL s) (some (.list (vInts ns ++ [.int n])))) (pushL te s n) no where
  adrE := T.adrE
  cE r a b d := by rw [upd_ne (b s)]; exact T.cE r a b d
  hte := by
    obtain ⟨ep, e⟩ := T.hte
    refine ⟨ep, ?_⟩
    rw [upd_ne (by simp), e]
    exact congrArg (fun z => some (AObj.dict z ep)) (pushL_refs te s n (fun k => V.ref (adr (.teL k)))).symm
  teL k := by
    rw [pushL_lookup]
    by_cases e : k = s
    · subst e; rw [upd_self, if_pos rfl, h]; simp [vInts]
    · rw [upd_ne (by simpa using e), if_neg e]; exact T.teL k
  hno := T.hno.imp fun ep e => by rw [upd_ne (by simp)]; exact e
  noL k := by rw [upd_ne (by simp)]; exact T.noL k
theorem TN.pushN {s : Str} {n : Int} {ns : List Int} (T : TN adr0 c0 adr c te no) (h : no.lookup s = some ns) : TN adr0 c0 adr (upd c (.noL s) (some (.list (vInts ns ++ [.int n])))) te (pushL no s n) where
  adrE := T.adrE
  cE r a b d := by rw [upd_ne (a s)]; exact T.cE r a b d
  hte := T.hte.imp fun ep e => by rw [upd_ne (by simp)]; exact e
  teL k := by rw [upd_ne (by simp)]; exact T.teL k
  hno := by
    obtain ⟨ep, e⟩ := T.hno
    refine ⟨ep, ?_⟩
    rw [upd_ne (by simp), e]
    exact congrArg (fun z => some (AObj.dict z ep)) (pushL_refs no s n (fun k => V.ref (adr (.noL k)))).symm
  noL k := by
    rw [pushL_lookup]
    by_cases e : k = s
    · subst e; rw [upd_self, if_pos rfl, h]; simp [vInts]
    · rw [upd_ne (by simpa using e), if_neg e]; exact T.noL k
theorem TN.newN {s : Str} {a : Addr} {ep' : Nat} (T : TN adr0 c0 adr c te no) (h : no.lookup s = none) :
    TN adr0 c0 (upd adr (.noL s) a) (upd (upd c (.noL s) (some (.list []))) .no (some (.dict (stA (no.map fun q => (q.1, .ref (adr (.noL q.1)))) s (.ref a)) ep'))) te (known no s) where
  adrE r hr := by rw [upd_ne (hr s)]; exact T.adrE r hr
  cE r a b d := by rw [upd_ne d, upd_ne (a s)]; exact T.cE r a b d
  hte := T.hte.imp fun ep e => by
    rw [upd_ne (by simp), upd_ne (by simp), e]
    refine congrArg (fun z => some (AObj.dict z ep)) (List.map_congr_left fun q _ => ?_)
    rw [upd_ne (by simp)]
  teL k := by rw [upd_ne (by simp), upd_ne (by simp)]; exact T.teL k
  hno := by
    refine ⟨ep', ?_⟩
    have hg : getA (no.map fun q => (q.1, V.ref (adr (.noL q.1)))) s = none := by
      rw [getA_map no (fun k => V.ref (adr (.noL k))) s, if_neg]
      rw [← lookup_contains, h]; simp
    rw [upd_self, stA_new hg]
    have hk : known no s = no ++ [(s, [])] := by unfold known; rw [h]; rfl
    rw [hk, List.map_append]
    refine congrArg (fun z => some (AObj.dict z ep')) (congr (congrArg _ (List.map_congr_left fun q hq => ?_)) ?_)
    · have : q.1 ≠ s := fun e => by
        have := lookup_contains no s
        rw [h] at this
        have hc : (no.map (·.1)).contains s = true := by rw [List.contains_iff_mem]; exact List.mem_map.mpr ⟨q, hq, e⟩
        rw [hc] at this; cases this
      rw [upd_ne (by simpa using this)]
    · simp [upd]
  noL k := by
    rw [known_lookup, upd_ne (by simp)]
    by_cases e : k = s
    · subst e; rw [upd_self, if_pos rfl, h]; simp [vInts]
    · rw [upd_ne (by simpa using e), if_neg e]; exact T.noL k
end Mine
end
section
set_option autoImplicit false
namespace Mine
noncomputable def eps : Str := "<empty>"
noncomputable def addF (res fs : List Str) : List Str := fs.foldl (fun r f => if f = eps then r else if f ∈ r then r else r ++ [f]) res
noncomputable def firstOf (fi : Str → List Str) : List Str → List Str → List Str
  | res, [] => res ++ [eps]
  | res, x :: xs => if eps ∈ fi x then firstOf fi (addF res (fi x)) xs else addF res (fi x)
inductive Fst (P : List Pr) (T : List Str) : Str → List Str → Prop
  | eps : Fst P T eps []
  | term {t : Str} {r : List Str} : t ∈ T → Fst P T t (t :: r)
  | rule {p : Pr} {f : Str} {r : List Str} : p ∈ P → Fst P T f p.body → f ≠ Mine.eps → Fst P T f (p.name :: r)
  | skip {p : Pr} {f : Str} {r : List Str} : p ∈ P → Fst P T Mine.eps p.body → Fst P T f r → Fst P T f (p.name :: r)
noncomputable def FS (fi : Str → List Str) (f : Str) : List Str → Prop
  | [] => f = eps
  | x :: xs => (f ≠ eps ∧ f ∈ fi x) ∨ (eps ∈ fi x ∧ FS fi f xs)
theorem mem_addF (res fs : List Str) (f : Str) : f ∈ addF res fs ↔ f ∈ res ∨ (f ≠ eps ∧ f ∈ fs) := by
  unfold addF
  induction fs generalizing res with
  | nil => simp
  | cons g fs ih =>
    rw [List.foldl_cons, ih]
    by_cases h1 : g = eps
    · rw [if_pos h1]
      constructor
      · rintro (h | ⟨a, b⟩)
        · exact .inl h
        · exact .inr ⟨a, .tail _ b⟩
      · rintro (h | ⟨a, b⟩)
        · exact .inl h
        · rcases List.mem_cons.mp b with rfl | b
          · exact absurd h1 a
          · exact .inr ⟨a, b⟩
    · rw [if_neg h1]
      by_cases h2 : g ∈ res
      · rw [if_pos h2]
        constructor
        · rintro (h | ⟨a, b⟩)
          · exact .inl h
          · exact .inr ⟨a, .tail _ b⟩
        · rintro (h | ⟨a, b⟩)
          · exact .inl h
          · rcases List.mem_cons.mp b with rfl | b
            · exact .inl h2
            · exact .inr ⟨a, b⟩
      · rw [if_neg h2]
        constructor
        · rintro (h | ⟨a, b⟩)
          · rcases List.mem_append.mp h with h | h
            · exact .inl h
            · rw [List.mem_singleton] at h; subst h; exact .inr ⟨h1, .head _⟩
          · exact .inr ⟨a, .tail _ b⟩
        · rintro (h | ⟨a, b⟩)
          · exact .inl (List.mem_append_left _ h)
          · rcases List.mem_cons.mp b with rfl | b
            · exact .inl (List.mem_append_right _ (.head _))
            · exact .inr ⟨a, b⟩
theorem mem_firstOf (fi : Str → List Str) (f : Str) (b res : List Str) : f ∈ firstOf fi res b ↔ f ∈ res ∨ FS fi f b := by
  induction b generalizing res with
  | nil => simp [firstOf, FS]
  | cons x xs ih =>
    rw [firstOf, FS]
    by_cases h : eps ∈ fi x
    · rw [if_pos h, ih, mem_addF, or_assoc]; simp [h]
    · rw [if_neg h, mem_addF]; simp [h]
section
variable {P : List Pr} {T : List Str}
theorem Fst.more {f x : Str} (h : Fst P T f [x]) (hf : f ≠ Mine.eps) (r : List Str) : Fst P T f (x :: r) := by
  cases h with
  | term ht => exact .term ht
  | rule hp hb hf => exact .rule hp hb hf
  | skip hp hb hr => cases hr; exact absurd rfl hf
theorem Fst.pass {f x : Str} {r : List Str} (he : Mine.eps ∉ T) (h : Fst P T Mine.eps [x]) (hr : Fst P T f r) : Fst P T f (x :: r) := by
  generalize hz : Mine.eps = e at h
  cases h with
  | term ht => rw [← hz] at ht; exact absurd ht he
  | rule hp hb hf => exact absurd hz.symm hf
  | skip hp hb hr' => exact .skip hp hb hr
theorem Fst.kind {f : Str} {b : List Str} (h : Fst P T f b) : f = Mine.eps ∨ f ∈ T := by
  induction h with
  | eps => exact .inl rfl
  | term ht => exact .inr ht
  | rule _ _ _ ih => exact ih
  | skip _ _ _ _ ih => exact ih
theorem FS.sound {fi : Str → List Str} (he : Mine.eps ∉ T) (h : ∀ x, ∀ f ∈ fi x, Fst P T f [x]) {f : Str} {b : List Str} (hf : FS fi f b) : Fst P T f b := by
  induction b with
  | nil => rw [FS] at hf; subst hf; exact .eps
  | cons x xs ih =>
    rw [FS] at hf
    rcases hf with ⟨h1, h2⟩ | ⟨h1, h2⟩
    · exact (h x f h2).more h1 xs
    · exact Fst.pass he (h x _ h1) (ih h2)
theorem FS.full {fi : Str → List Str} (he : Mine.eps ∉ T) (h1 : ∀ t ∈ T, t ∈ fi t) (h2 : ∀ p ∈ P, ∀ f, FS fi f p.body → f ∈ fi p.name) {f : Str} {b : List Str} (h : Fst P T f b) : FS fi f b := by
  induction h with
  | eps => rfl
  | term ht => exact .inl ⟨fun q => he (q ▸ ht), h1 _ ht⟩
  | rule hp _ hf ih => exact .inl ⟨hf, h2 _ hp _ ih⟩
  | skip hp _ _ ih1 ih2 => exact .inr ⟨h2 _ hp _ ih1, ih2⟩
theorem Fst.iff {fi : Str → List Str} (he : Mine.eps ∉ T) (h0 : ∀ x, ∀ f ∈ fi x, Fst P T f [x]) (h1 : ∀ t ∈ T, t ∈ fi t) (h2 : ∀ p ∈ P, ∀ f, FS fi f p.body → f ∈ fi p.name) (hT : ∀ p ∈ P, p.name ∉ T) (f x : Str) (hx : x ∈ T ∨ ∃ p ∈ P, p.name = x) : f ∈ fi x ↔ Fst P T f [x] := by
  refine ⟨h0 x f, fun h => ?_⟩
  have := FS.full he h1 h2 h
  rw [FS] at this
  rcases this with ⟨_, q⟩ | ⟨q, r⟩
  · exact q
  · rw [FS] at r; rw [r]; exact q
end
noncomputable def pushS (l : List (Str × List Str)) (k n : Str) : List (Str × List Str) := l.map fun q => if q.1 = k then (q.1, q.2 ++ [n]) else q
theorem pushS_keys (l : List (Str × List Str)) (k n : Str) : (pushS l k n).map (·.1) = l.map (·.1) := by
  unfold pushS; rw [List.map_map]; refine List.map_congr_left fun q _ => ?_
  simp only [Function.comp_apply]; split <;> rfl
theorem pushS_refs (l : List (Str × List Str)) (k n : Str) (f : Str → V) : ((pushS l k n).map fun q => (q.1, f q.1)) = l.map fun q => (q.1, f q.1) := by
  unfold pushS; rw [List.map_map]; refine List.map_congr_left fun q _ => ?_
  simp only [Function.comp_apply]; split <;> rfl
theorem pushS_lookup (l : List (Str × List Str)) (k n k' : Str) : (pushS l k n).lookup k' = if k' = k then (l.lookup k').map (· ++ [n]) else l.lookup k' := by
  unfold pushS
  induction l with
  | nil => simp
  | cons q l ih =>
    obtain ⟨a, b⟩ := q
    rw [List.map_cons, List.lookup_cons]
    by_cases h : k' = a
    · subst h
      by_cases h2 : k' = k
      · subst h2; simp [List.lookup]
      · simp [List.lookup, h2]
    · have e : (k' == a) = false := by simpa using h
      have e2 : (k' == (if a = k then (a, b ++ [n]) else (a, b)).1) = false := by split <;> exact e
      rw [show (k' == (if (a, b).fst = k then ((a, b).fst, (a, b).snd ++ [n]) else (a, b)).fst) = false from e2]
      rw [List.lookup_cons, e]
      exact ih
noncomputable def atL (fi : List (Str × List Str)) (x : Str) : List Str := (fi.lookup x).getD []
noncomputable def lackOf (U : Nat) (ks : List Str) (fi : List (Str × List Str)) : Nat := (ks.map fun n => U - (atL fi n).length).sum
theorem atL_push {l : List (Str × List Str)} {k n k' : Str} (h : (l.lookup k).isSome = true) : atL (pushS l k n) k' = if k' = k then atL l k' ++ [n] else atL l k' := by
  unfold atL; rw [pushS_lookup]
  split
  · rename_i e; subst e; obtain ⟨z, hz⟩ := Option.isSome_iff_exists.mp h; rw [hz]; rfl
  · rfl
theorem lack_push {U : Nat} {ks : List Str} {fi : List (Str × List Str)} {k n : Str} (hk : k ∈ ks) (h : (fi.lookup k).isSome = true) (hU : (atL fi k).length < U) : lackOf U ks (pushS fi k n) < lackOf U ks fi := by
  have key : ∀ n', U - (atL (pushS fi k n) n').length ≤ U - (atL fi n').length := fun n' => by
    rw [atL_push h]; split <;> simp <;> omega
  have key2 : U - (atL (pushS fi k n) k).length < U - (atL fi k).length := by
    rw [atL_push h, if_pos rfl]; simp; omega
  unfold lackOf
  induction ks with
  | nil => cases hk
  | cons a ks ih =>
    rw [List.map_cons, List.map_cons, List.sum_cons, List.sum_cons]
    have hle : (ks.map fun n' => U - (atL (pushS fi k n) n').length).sum ≤ (ks.map fun n' => U - (atL fi n').length).sum := by
      clear ih hk
      induction ks with
      | nil => exact Nat.le_refl _
      | cons b ks ih => rw [List.map_cons, List.map_cons, List.sum_cons, List.sum_cons]; have := key b; omega
    rcases List.mem_cons.mp hk with rfl | hk
    · omega
    · have := ih hk; have := key a; omega
theorem nodup_len {α : Type} [DecidableEq α] {l u : List α} (h : l.Nodup) (hs : ∀ x ∈ l, x ∈ u) : l.length ≤ u.length := by
  induction l generalizing u with
  | nil => exact Nat.zero_le _
  | cons x l ih =>
    rw [List.nodup_cons] at h
    have hx := hs x (.head _)
    have := ih (u := u.erase x) h.2 fun y hy => by
      have hne : y ≠ x := fun e => h.1 (e ▸ hy)
      exact (List.mem_erase_of_ne hne).mpr (hs y (.tail _ hy))
    rw [List.length_erase_of_mem hx] at this
    have hpos : 0 < u.length := List.length_pos_of_mem hx
    simp only [List.length_cons]; omega
end Mine
end
section
set_option autoImplicit false
namespace Mine
theorem addF_snoc (res fs : List Str) (f : Str) : addF res (fs ++ [f]) = if f = eps then addF res fs else if f ∈ addF res fs then addF res fs else addF res fs ++ [f] := by unfold addF; rw [List.foldl_append]; rfl
theorem addF_len (res fs : List Str) : (addF res fs).length ≤ res.length + fs.length := by
  unfold addF
  induction fs generalizing res with
  | nil => exact Nat.le_refl _
  | cons f fs ih =>
    refine Nat.le_trans (ih _) ?_
    dsimp only
    split
    · simp
    · split <;> simp <;> omega
theorem addF_ok {p : Str → Bool} (res fs : List Str) (h1 : res.all p = true) (h2 : ∀ f ∈ fs, p f = true) : (addF res fs).all p = true := by
  unfold addF
  induction fs generalizing res with
  | nil => exact h1
  | cons f fs ih =>
    refine ih _ ?_ fun g hg => h2 g (.tail _ hg)
    dsimp only
    split
    · exact h1
    · split
      · exact h1
      · rw [List.all_append, h1]; simp [h2 f (.head _)]
noncomputable def fiOf (g : GR) (x : Str) : List Str := atL g.fi x
section
variable {W : Wd} {A : Around} {env : Env} {outer : Outs} {loc : Loc} {mem : Mem} {E : Ex W}
inductive P2D_J1 (g : GR) (gm : Mem) (b : List Str) (adr : Rl → Addr) (ar : Addr) (k : Nat) (i : Nat) (l : Loc) (m : Mem) : Prop
  | mk (h1_ : k + i = b.length) (h2_ : LSub [("self", .ref (adr .self)), ("result", .ref ar)] l) (res : _) (h3_ : m = mset gm ar (.list (vStrs res))) (h4_ : firstOf (fiOf g) [] b = firstOf (fiOf g) res (b.drop i)) (h5_ : res.length ≤ 1000 * i) (h6_ : res.all PyData.strOk = true)
inductive P2D_J2 (gm : Mem) (adr : Rl → Addr) (ar : Addr) (res : List Str) (fs : List Str) (k2 : Nat) (j : Nat) (l : Loc) (m : Mem) : Prop
  | mk (h1_ : k2 + j = fs.length) (h2_ : LSub [("self", .ref (adr .self)), ("result", .ref ar), ("x_produces_empty", .bool (decide (eps ∈ fs.take j)))] l) (h3_ : m = mset gm ar (.list (vStrs (addF res (fs.take j)))))
theorem first_spec {g : GR} {a : Addr} {gm : Mem} {b : List Str} {Q : V → Loc → Mem → Prop} (hK : W.K = hdK W.w.params) (c : Calm A 700 6000) (G : GMem aGrammar aProd g a gm) (hz : b.length ≤ 100)
    (hb : ∀ x ∈ b, (g.fi.lookup x).isSome = true) (hf : ∀ x, (fiOf g x).length ≤ 1000 ∧ ∀ f ∈ fiOf g x, PyData.strOk f = true)
    (h : ∀ ar, gm ar = none → Q (.ref ar) loc (mset gm ar (.list (vStrs (firstOf (fiOf g) [] b))))) : OpV W A env outer (fun vs => call (.ref 223) vs) [.ref a, .tup (vStrs b)] loc gm Q E := by
  obtain ⟨adr, cc, M, ok, rfl⟩ := G
  refine call_fn (bs := [("self", .ref (adr .self)), ("beta", .tup (vStrs b))]) (by rw [hK]; exact firstB.at _) (by rw [hK]; first | rfl | kernel_rfl | decide +kernel) (c.room (by decide)) ?_ (by intro y hy; simp at hy; rcases hy with rfl | rfl <;> rfl) (by decide) rfl rfl rfl ?_
  · intro F s vs hb hk r
    cases r.view with
    | cons r1 r2 =>
      cases r2 with
      | cons r2 r3 =>
        cases r3
        exact ⟨_, BindsTo.of_eq rfl, .cons r1 (.cons r2 .nil)⟩
  · intro L outer
    have cd := c.deeper (envX "Grammar._first" firstB.scope L 223 firstB.code [])
    obtain ⟨epd, hdict⟩ := ok.dict
    obtain ⟨epf, hfi⟩ := ok.fi
    have hx := M.get ok.self
    have hd := M.get hdict
    have hfi := M.get hfi
    (refine nameS ?_; intro aa vv oo qq ee; refine s_cons ?_); refine s_assign rfl ?_; refine e_list ?_; refine a_nil ?_
    refine new_own' (by decide) (fun ar m1 har hl1 hf1 => ?_)
    have e1 : m1 = mset gm ar (.list []) := by
      funext z
      by_cases e : z = ar
      · rw [e, hl1, mset_self]
      · rw [hf1 z e, mset_ne e]
    subst e1
    clear hl1 hf1
    have off : ∀ {z y} (xs : List V), gm z = some y → mset gm ar (.list xs) z = some y := fun {z y} xs e => by
      rw [mset_ne (nex e har)]; exact e
    refine st_local rfl rfl ?_; refine s_cons ?_; refine s_for (fun _ => rfl) ?_; refine e_local rfl rfl rfl rfl ?_
    let J1 : Nat → Nat → Loc → Mem → Prop := P2D_J1 g gm b adr ar
    refine for_k (itr_tup cd.handled) J1 ?_ b.length ⟨rfl, rfl, [], rfl, by simp, by simp, rfl⟩
    rintro k i l m ⟨hk, hl, res, rfl, hres, hlen, hok⟩
    refine ⟨by simp [setItem_], fun hn1 => ?_, fun v hv => ?_⟩
    · have hn1 : (vStrs b)[i]? = none := Option.some.inj hn1
      rw [List.getElem?_eq_none_iff, vStrs_len] at hn1
      obtain rfl : i = b.length := by omega
      refine Tr.locs hl ?_
      (refine nameQ ?_; intro qq ee; refine s_cons ?_); refine s_expr rfl rfl ?_; refine c_meth rfl ?_; refine e_local rfl rfl rfl rfl ?_
      refine m_builtin (.list (mset_self _ _ _)) PySem.F.plainAttrs_list PySem.F.slot_list_append PySem.F.type_list_append rfl rfl ?_
      refine a_cons rfl ?_; refine e_str ?_; refine a_nil ?_
      refine append_own (mset_self _ _ _) (by rw [vStrs_len]; exact Nat.le_trans hlen (Nat.le_trans (Nat.mul_le_mul_left 1000 hz) (by decide))) ?_
      refine s_nil ?_; refine s_cons ?_; refine s_ret ?_; refine e_local rfl rfl rfl rfl ?_
      rw [mset_mset]
      refine ⟨_, sub_refl _, ?_⟩
      have := h ar har
      rw [hres, List.drop_length] at this
      show Q (.ref ar) loc _
      simpa [firstOf, vStrs, eps] using this
    · have hi : (vStrs b)[i]? = some v := Option.some.inj hv
      obtain ⟨y, rfl, hy1⟩ : ∃ y, v = .str y ∧ b[i]? = some y := by
        unfold vStrs at hi
        rw [List.getElem?_map] at hi
        cases e : b[i]? with
        | none => rw [e] at hi; cases hi
        | some y => rw [e] at hi; exact ⟨y, (Option.some.inj hi).symm, rfl⟩
      refine Op.locs hl ?_
      refine asg_name ?_; refine st_local rfl rfl ?_; (refine nameQ ?_; intro qq ee; refine s_cons ?_); refine s_assign rfl ?_; refine e_bool ?_; refine st_local rfl rfl ?_; refine s_cons ?_; refine s_for (fun _ => rfl) ?_; refine e_sub (fun _ _ => rfl) ?_; refine e_attr rfl ?_; refine e_local rfl rfl rfl rfl ?_
      refine get_o hK (fun _ => by kernel_rfl) (.own (off _ hx) (off _ hd)) rfl rfl ?_
      refine e_local rfl rfl rfl rfl ?_
      have hym : y ∈ b := List.mem_of_getElem? hy1
      have hlt : i < b.length := by rw [List.getElem?_eq_some_iff] at hy1; exact hy1.1
      obtain ⟨fs, hfs⟩ : ∃ fs, g.fi.lookup y = some fs := Option.isSome_iff_exists.mp (hb y hym)
      have hfo : fiOf g y = fs := by unfold fiOf atL; rw [hfs]; rfl
      have hfl : gm (adr (.fiL y)) = some (.list (vStrs fs)) := M.get (by rw [ok.fiL, hfs]; rfl)
      obtain ⟨hfz, hfok⟩ := hf y
      rw [hfo] at hfz hfok
      refine sub_dict (x := .ref (adr (.fiL y))) (off _ hfi) (by rw [getA_map g.fi (fun k => V.ref (adr (.fiL k))) y, if_pos (by rw [← lookup_contains, hfs]; rfl)]) ?_
      skip
      let J2 : Nat → Nat → Loc → Mem → Prop := P2D_J2 gm adr ar res fs
      refine for_k (itr_own cd.handled (off _ hfl)) J2 ?_ fs.length ⟨rfl, rfl, rfl⟩
      rintro k2 j l2 m2 ⟨hk2, hl2, rfl⟩
      have ei : ownItem (adr (.fiL y)) j (mset gm ar (.list (vStrs (addF res (fs.take j))))) = some (vStrs fs)[j]? := ownItem_eq (off _ hfl)
      refine ⟨by rw [ei]; simp, fun hn1 => ?_, fun v hv => ?_⟩
      · rw [ei] at hn1
        have hn1 : (vStrs fs)[j]? = none := Option.some.inj hn1
        rw [List.getElem?_eq_none_iff, vStrs_len] at hn1
        obtain rfl : j = fs.length := by omega
        rw [List.take_length] at hl2 ⊢
        refine Tr.locs hl2 ?_
        refine s_nil ?_; refine s_cons ?_; refine s_if ?_; refine b_value rfl ?_; refine e_local rfl rfl rfl rfl ?_; refine tr_bool ?_
        refine ⟨fun he => ?_, fun he => ?_⟩
        · have he := of_decide_eq_true he
          (refine nameQ ?_; intro qq ee; refine s_cons ?_); refine s_pass ?_; refine s_nil ?_; refine s_nil ?_
          refine ⟨k - 1, (kst hk hlt).1, (kst hk hlt).2, rfl, addF res fs, rfl, ?_, ?_, addF_ok _ _ hok fun f hf' => hfok f hf'⟩
          · rw [hres]
            have : b.drop i = y :: b.drop (i + 1) := by
              have hget : b[i] = y := by rw [List.getElem?_eq_getElem hlt] at hy1; exact Option.some.inj hy1
              rw [← hget]; exact List.drop_eq_getElem_cons hlt
            rw [this, firstOf, hfo, if_pos he]
          · have := addF_len res fs; omega
        · have he := of_decide_eq_false he
          (refine nameQ ?_; intro qq ee; refine s_cons ?_); refine s_break ?_; refine s_cons ?_; refine s_ret ?_; refine e_local rfl rfl rfl rfl ?_
          refine ⟨_, sub_refl _, ?_⟩
          show Q (.ref ar) loc _
          have := h ar har
          have e2 : b.drop i = y :: b.drop (i + 1) := by
            have hget : b[i] = y := by rw [List.getElem?_eq_getElem hlt] at hy1; exact Option.some.inj hy1
            rw [← hget]; exact List.drop_eq_getElem_cons hlt
          rw [hres, e2, firstOf, hfo, if_neg he] at this
          exact this
      · rw [ei] at hv
        have hj : (vStrs fs)[j]? = some v := Option.some.inj hv
        obtain ⟨f, rfl, hf1⟩ : ∃ f, v = .str f ∧ fs[j]? = some f := by
          unfold vStrs at hj
          rw [List.getElem?_map] at hj
          cases e : fs[j]? with
          | none => rw [e] at hj; cases hj
          | some f => rw [e] at hj; exact ⟨f, (Option.some.inj hj).symm, rfl⟩
        have hfm : f ∈ fs := List.mem_of_getElem? hf1
        have hjlt : j < fs.length := by rw [List.getElem?_eq_some_iff] at hf1; exact hf1.1
        have hsn := addF_snoc res (fs.take j) f
        rw [← take_snoc hf1] at hsn
        have hall := addF_ok res (fs.take j) hok fun z hz => hfok z (List.mem_of_mem_take hz)
        have hlen2 : (addF res (fs.take j)).length ≤ 200000 := by
          have := addF_len res (fs.take j); rw [List.length_take] at this; omega
        refine Op.locs hl2 ?_
        refine asg_name ?_; refine st_local rfl rfl ?_; (refine nameQ ?_; intro qq ee; refine s_cons ?_); refine s_if ?_; refine b_cmp rfl ?_; refine e_local rfl rfl rfl rfl ?_; refine e_str ?_; refine eq_ss ?_; refine tr_bool ?_
        refine ⟨fun he => ?_, fun he => ?_⟩
        · have he : f = eps := of_decide_eq_true he
          (refine nameQ ?_; intro qq ee; refine s_cons ?_); refine s_assign rfl ?_; refine e_bool ?_; refine st_local rfl rfl ?_; refine s_nil ?_; refine s_nil ?_
          refine ⟨k2 - 1, (kst hk2 hjlt).1, (kst hk2 hjlt).2, ?_, by rw [hsn, if_pos he]⟩
          have : eps ∈ fs.take (j + 1) := by rw [take_snoc hf1, List.mem_append]; exact .inr (by rw [he]; exact .head _)
          rw [decide_eq_true this]; rfl
        · have he : ¬ f = eps := of_decide_eq_false he
          have hdec : decide (eps ∈ fs.take (j + 1)) = decide (eps ∈ fs.take j) := by
            congr 1; rw [take_snoc hf1, List.mem_append, List.mem_singleton]
            exact propext ⟨fun q => q.resolve_right fun q => he q.symm, .inl⟩
          (refine nameQ ?_; intro qq ee; refine s_cons ?_); refine s_if ?_; refine b_cmp rfl ?_; refine e_local rfl rfl rfl rfl ?_; refine e_local rfl rfl rfl rfl ?_
          refine notin_list (n := 0) (.own (mset_self _ _ _)) (hfok f hfm) (isD_strs hall) (by decide) (cd.fit (by decide)) (fun bb hbb => ?_)
          refine tr_bool ?_
          refine ⟨fun hb2 => ?_, fun hb2 => ?_⟩
          · (refine nameQ ?_; intro qq ee; refine s_cons ?_); refine s_expr rfl rfl ?_; refine c_meth rfl ?_; refine e_local rfl rfl rfl rfl ?_
            refine m_builtin (.list (mset_self _ _ _)) PySem.F.plainAttrs_list PySem.F.slot_list_append PySem.F.type_list_append rfl rfl ?_
            refine a_cons rfl ?_; refine e_local rfl rfl rfl rfl ?_; refine a_nil ?_
            refine append_own (mset_self _ _ _) (by rw [vStrs_len]; exact Nat.le_trans hlen2 (by decide)) ?_
            refine s_nil ?_; refine s_nil ?_; refine s_nil ?_
            rw [mset_mset]
            have : ¬ f ∈ addF res (fs.take j) := fun q => by
              have := hbb.mpr (vStrs_mem.mpr q); rw [this] at hb2; cases hb2
            refine ⟨k2 - 1, (kst hk2 hjlt).1, (kst hk2 hjlt).2, by rw [hdec]; rfl, by rw [hsn, if_neg he, if_neg this]; simp [vStrs]⟩
          · refine s_nil ?_; refine s_nil ?_; refine s_nil ?_
            have : f ∈ addF res (fs.take j) := by
              refine vStrs_mem.mp (hbb.mp ?_)
              cases bb with
              | true => rfl
              | false => cases hb2
            refine ⟨k2 - 1, (kst hk2 hjlt).1, (kst hk2 hjlt).2, by rw [hdec]; rfl, by rw [hsn, if_neg he, if_pos this]⟩
end
end Mine
end
section
set_option autoImplicit false
namespace Mine
structure FIx (adr0 : Rl → Addr) (c0 : Rl → Option AObj) (adr : Rl → Addr) (c : Rl → Option AObj) (fi : List (Str × List Str)) : Prop where
  adrE : ∀ r, (∀ k, r ≠ .fiL k) → adr r = adr0 r
  cE : ∀ r, (∀ k, r ≠ .fiL k) → r ≠ .fi → c r = c0 r
  hfi : ∃ ep, c .fi = some (.dict (fi.map fun q => (q.1, .ref (adr (.fiL q.1)))) ep)
  hfiL : ∀ k, c (.fiL k) = (fi.lookup k).map fun ns => .list (vStrs ns)
variable {adr0 adr : Rl → Addr} {c0 c : Rl → Option AObj} {fi : List (Str × List Str)} {m m1 m2 : Mem}
theorem lookup_snoc {β : Type} (l : List (Str × β)) (k k' : Str) (y : β) : (l ++ [(k, y)]).lookup k' = match l.lookup k' with | some z => some z | none => if k' = k then some y else none := by
  rw [lookup_append']
  cases h : l.lookup k' with
  | some z => rfl
  | none =>
    by_cases e : k' = k
    · subst e; simp [List.lookup]
    · have e' : (k' == k) = false := by simpa using e
      simp [List.lookup, e', e]
theorem getA_none {β : Type} {l : List (Str × β)} {f : Str → V} {k : Str} (h : l.lookup k = none) : getA (l.map fun q => (q.1, f q.1)) k = none := by
  rw [getA_map l f k, if_neg]
  rw [← lookup_contains, h]; exact Bool.false_ne_true
theorem keys_ne {β : Type} {l : List (Str × β)} {k : Str} (h : l.lookup k = none) : ∀ q ∈ l, q.1 ≠ k := fun q hq e => by
  have := lookup_contains l k
  rw [h] at this
  have hc : (l.map (·.1)).contains k = true := by rw [List.contains_iff_mem]; exact List.mem_map.mpr ⟨q, hq, e⟩
  rw [hc] at this; cases this
theorem FIx.store {k : Str} {a : Addr} {ys : List Str} {ep2 : Nat} (M : MemIs adr c m) (X : FIx adr0 c0 adr c fi) (hk : fi.lookup k = none) (ha : m a = none) (h1 : m1 a = some (.list (vStrs ys))) (f1 : ∀ b, b ≠ a → m1 b = m b)
    (h2 : m2 (adr0 .fi) = some (.dict (stA (fi.map fun q => (q.1, .ref (adr (.fiL q.1)))) k (.ref a)) ep2)) (f2 : ∀ b, b ≠ adr0 .fi → m2 b = m1 b) : ∃ adr' c', MemIs adr' c' m2 ∧ FIx adr0 c0 adr' c' (fi ++ [(k, ys)]) := by
  have hc : c (.fiL k) = none := by rw [X.hfiL, hk]; rfl
  obtain ⟨ep, hfi⟩ := X.hfi
  have M1 := M.new hc ha h1 f1
  have e : upd adr (.fiL k) a .fi = adr0 .fi := by rw [upd_ne (by simp)]; exact X.adrE _ (by simp)
  have M2 := M1.set (r := .fi) (x := .dict (fi.map fun q => (q.1, .ref (adr (.fiL q.1)))) ep) (by rw [upd_ne (by simp)]; exact hfi) (by rw [e]; exact h2) (by rw [e]; exact f2)
  refine ⟨_, _, M2, ⟨fun r hr => by rw [upd_ne (hr k)]; exact X.adrE r hr, fun r hr h => by rw [upd_ne h, upd_ne (hr k)]; exact X.cE r hr h, ⟨ep2, ?_⟩, fun k' => ?_⟩⟩
  · rw [upd_self, stA_new (getA_none (f := fun k => V.ref (adr (.fiL k))) hk), List.map_append]
    refine congrArg (fun z => some (AObj.dict z ep2)) (congr (congrArg _ (List.map_congr_left fun q hq => ?_)) ?_)
    · rw [upd_ne (by simpa using keys_ne hk q hq)]
    · simp [upd]
  · rw [upd_ne (by simp), lookup_snoc]
    by_cases e : k' = k
    · subst e; rw [upd_self, hk]; simp
    · rw [upd_ne (by simpa using e), X.hfiL]
      cases fi.lookup k' <;> simp [e]
theorem FIx.push {k y : Str} {ns : List Str} (X : FIx adr0 c0 adr c fi) (h : fi.lookup k = some ns) : FIx adr0 c0 adr (upd c (.fiL k) (some (.list (vStrs ns ++ [.str y])))) (pushS fi k y) where
  adrE := X.adrE
  cE r a b := by rw [upd_ne (a k)]; exact X.cE r a b
  hfi := by
    obtain ⟨ep, e⟩ := X.hfi
    refine ⟨ep, ?_⟩
    rw [upd_ne (by simp), e]
    exact congrArg (fun z => some (AObj.dict z ep)) (pushS_refs fi k y (fun k => V.ref (adr (.fiL k)))).symm
  hfiL k' := by
    rw [pushS_lookup]
    by_cases e : k' = k
    · subst e; rw [upd_self, if_pos rfl, h]; simp [vStrs]
    · rw [upd_ne (by simpa using e), if_neg e]; exact X.hfiL k'
theorem FIx.at (M : MemIs adr c m) {r : Rl} {x : AObj} (X : FIx adr0 c0 adr c fi) (h1 : ∀ k, r ≠ .fiL k) (h2 : r ≠ .fi) (h : c0 r = some x) : m (adr0 r) = some x := by
  have := M.get (r := r) ((X.cE r h1 h2).trans h)
  rwa [X.adrE r h1] at this
theorem FIx.gok {C CP : Addr} {g : GR} (ok : GOk C CP adr0 c0 g) (X : FIx adr0 c0 adr c fi) : GOk C CP adr c { g with fi := fi } := by
  have e := X.adrE
  have h := X.cE
  exact {
    self := by rw [h _ (by simp) (by simp), e .dict (by simp)]; exact ok.self
    dict := by
      obtain ⟨ep, q⟩ := ok.dict
      exact ⟨ep, by rw [h _ (by simp) (by simp), q]; exact congrArg (fun z => some (AObj.dict z ep)) (gAttrs_eq fun r hr => e r fun _ => leaf_ne hr rfl).symm⟩
    pl := by rw [h _ (by simp) (by simp)]; exact ok.pl
    pn := by
      obtain ⟨ep, q⟩ := ok.pn
      exact ⟨ep, by rw [h _ (by simp) (by simp), q]; exact congrArg (fun z => some (AObj.dict z ep)) (List.map_congr_left fun q _ => by rw [e _ (by simp)])⟩
    pnL := fun k => by rw [h _ (by simp) (by simp)]; exact ok.pnL k
    pm := by rw [h _ (by simp) (by simp)]; exact ok.pm
    te := by
      obtain ⟨ep, q⟩ := ok.te
      exact ⟨ep, by rw [h _ (by simp) (by simp), q]; exact congrArg (fun z => some (AObj.dict z ep)) (List.map_congr_left fun q _ => by rw [e _ (by simp)])⟩
    teL := fun k => by rw [h _ (by simp) (by simp)]; exact ok.teL k
    no := by
      obtain ⟨ep, q⟩ := ok.no
      exact ⟨ep, by rw [h _ (by simp) (by simp), q]; exact congrArg (fun z => some (AObj.dict z ep)) (List.map_congr_left fun q _ => by rw [e _ (by simp)])⟩
    noL := fun k => by rw [h _ (by simp) (by simp)]; exact ok.noL k
    fi := X.hfi
    fiL := X.hfiL
    fo := by
      obtain ⟨ep, q⟩ := ok.fo
      exact ⟨ep, by rw [h _ (by simp) (by simp), q]; exact congrArg (fun z => some (AObj.dict z ep)) (List.map_congr_left fun q _ => by rw [e _ (by simp)])⟩
    foL := fun k => by rw [h _ (by simp) (by simp)]; exact ok.foL k
    pr := by rw [h _ (by simp) (by simp)]; exact ok.pr
    up := by rw [h _ (by simp) (by simp)]; exact ok.up }
end Mine
end
section
set_option autoImplicit false
namespace Mine
noncomputable def Fits (A : Around) (env : Env) (outer : Outs) : Prop :=
  ∃ envs, A.frames = some (env :: envs) ∧ env.frame = some env.locals ∧ env.scope.kind = .function ∧ ∀ e ∈ envs, e.scope.kind ≠ .module ∧ ∃ q ∈ outer, e.frame = some q.1
structure Under (env : Env) (outer : Outs) (mem R : Mem) (F : Frz) (B h : Heap) : Prop where
  frz : ∀ a o, F a o → B.get? a = some o
  own : ∀ a x, mun mem R a = some x → ∃ o, B.get? a = some o
  stays : B.StaysIn h
  here : B.get? env.locals = none
  outs : ∀ q ∈ outer, B.get? q.1 = none
noncomputable def Flight (env : Env) (B h : Heap) (e : Addr) (cls : Value) : Prop :=
  (∃ oe vs a0, h.get? e = some oe ∧ oe.cls = cls ∧ oe.data = .fields vs ∧ vs[1]? = some .none ∧ vs[0]? = some a0) ∨ ∃ a0 fl, h.TracedAtW B e cls a0 fl ∧ (fl = .none ∨ fl = rawInt env.locals)
structure Aloft (W : Wd) (env : Env) (outer : Outs) (loc : Loc) (mem R : Mem) (F : Frz) (s : Shared) (e : Addr) (cls : Value) : Prop where
  sim : Sim W env outer loc mem R F s
  fly : ∃ B, Under env outer mem R F B s.heap ∧ B.get? e = none ∧ Flight env B s.heap e cls
section
variable {W : Wd} {A : Around} {env : Env} {outer : Outs} {loc : Loc} {mem R : Mem} {E : Ex W} {F : Frz} {s : Shared} {B : Heap}
theorem Fits.deeper {env' : Env} {m0 : Str → Option Value} (f : Fits A env outer) (h1 : env'.frame = some env'.locals) (h2 : env'.scope.kind = .function) : Fits (A.deeper env') env' ((env.locals, m0) :: outer) := by
  obtain ⟨envs, hf, hl, hk, ho⟩ := f
  refine ⟨env :: envs, Around.frames_deeper hf, h1, h2, fun e he => ?_⟩
  rcases List.mem_cons.mp he with rfl | he
  · exact ⟨by rw [hk]; decide, _, .head _, hl⟩
  · obtain ⟨a, q, hq, b⟩ := ho e he
    exact ⟨a, q, .tail _ hq, b⟩
theorem Fits.fun {outs : Outs} (f : Fits A env outer) (S : Sim W env outer loc mem R F s) (h1 : B.get? env.locals = none) (h2 : ∀ q ∈ outer, B.get? q.1 = none) : ∃ envs, A.frames = some (env :: envs) ∧ env.frame = some env.locals ∧ s.heap.FunFrames B (env :: envs) := by
  obtain ⟨envs, hf, hl, hk, ho⟩ := f
  refine ⟨envs, hf, hl, by rw [hk]; decide, ?_, ?_⟩
  · obtain ⟨m, ⟨o, es, ep, e, hd, _⟩, _⟩ := S.ns
    exact ⟨_, o, hl, h1, e, fun vs q => by rw [hd] at q; cases q⟩
  · clear hf
    induction envs with
    | nil => trivial
    | cons e l ih =>
      obtain ⟨a, q, hq, b⟩ := ho e (.head _)
      obtain ⟨o, es, ep, e1, hd, _⟩ := (S.z.outs q hq).1
      exact ⟨a, ⟨_, o, b, h2 q hq, e1, fun vs z => by rw [hd] at z; cases z⟩, ih fun e he => ho e (.tail _ he)⟩
theorem Sim.slots {h' : Heap} {t : Nat} (S : Sim W env outer loc mem R F s) (U : Under env outer mem R F B s.heap) (hs : B.StaysIn h') (up : s.heap.UpToSlots h') : Sim W env outer loc mem R F { s with heap := h', toks := t } := by
  have ns : ∀ {a m}, s.heap.Ns a m → h'.Ns a m := fun {a m} ⟨o, es, ep, e, hd, r⟩ => by
    obtain ⟨sl, e'⟩ := up a o e fun vs q => by rw [hd] at q; cases q
    exact ⟨_, es, ep, e', hd, r⟩
  refine ⟨S.dis, {
    frz := fun a o h => hs _ _ (U.frz a o h)
    base := S.z.base
    memF := S.z.memF
    memOk := fun a x h => ?_
    ns := let ⟨m, n, l⟩ := S.z.ns; ⟨m, ns n, l⟩
    nsF := S.z.nsF
    outs := fun q hq => let ⟨n, r⟩ := S.z.outs q hq; ⟨ns n, r⟩
    low := S.z.low
    memLow := S.z.memLow
    gens := S.z.gens
    os := S.z.os }⟩
  obtain ⟨o, e, r⟩ := S.z.memOk a x h
  obtain ⟨o', e'⟩ := U.own a x h
  have := U.stays _ _ e'
  rw [e] at this; cases this
  exact ⟨o, hs _ _ e', r⟩
theorem Under.stay {h h' : Heap} (U : Under env outer mem R F B h) (hs : B.StaysIn h') : Under env outer mem R F B h' := ⟨U.frz, U.own, hs, U.here, U.outs⟩
theorem Sim.raised {h' : Heap} {e : Addr} {X : String} {t : Nat} (S : Sim W env outer loc mem R F s) (n : Heap.NewExc s.heap h' e X) : Aloft W env outer loc mem R F { s with heap := h', toks := t } e (.type X) := by
  refine ⟨S.grow n.keeps, PyProof.Rows.TI.gone s.heap (env.locals :: outer.map (·.1)), ⟨fun a o h => ?_, fun a x h => ?_, fun b o h => n.keeps _ _ (PyProof.Rows.TI.gone_some h).2, PyProof.Rows.TI.gone_none (.head _), fun q hq => PyProof.Rows.TI.gone_none (.tail _ (List.mem_map.mpr ⟨q, hq, rfl⟩))⟩, ?_, ?_⟩
  · rw [PyProof.Rows.TI.gone_get]
    · exact S.frz a o h
    · intro hm
      rcases List.mem_cons.mp hm with rfl | hm
      · exact S.z.nsF.1 o h
      · obtain ⟨q, hq, rfl⟩ := List.mem_map.mp hm
        exact (S.z.outs q hq).2.1 o h
  · obtain ⟨o, ho, _⟩ := S.z.memOk a x h
    refine ⟨o, ?_⟩
    rw [PyProof.Rows.TI.gone_get]
    · exact ho
    · intro hm
      rcases List.mem_cons.mp hm with rfl | hm
      · have := S.z.nsF.2; rw [h] at this; cases this
      · obtain ⟨q, hq, rfl⟩ := List.mem_map.mp hm
        have := (S.z.outs q hq).2.2.1; rw [h] at this; cases this
  · cases q : (PyProof.Rows.TI.gone s.heap (env.locals :: outer.map (·.1))).get? e with
    | none => rfl
    | some o => have := (PyProof.Rows.TI.gone_some q).2; rw [n.new] at this; cases this
  · obtain ⟨ob, tp, he, hc, hd⟩ := n.there
    exact .inl ⟨ob, _, tp, he, hc, hd, rfl, rfl⟩
theorem Aloft.note {e : Addr} {cls : Value} {Q : Unit → Shared → Prop} {Ev : Value → Shared → Prop} (f : Fits A env outer) (x : Aloft W env outer loc mem R F s e cls)
    (h : ∀ h' B, Sim W env outer loc mem R F { s with heap := h' } → Under env outer mem R F B h' → B.get? e = none → (∃ a0, h'.TracedAtW B e cls a0 (rawInt env.locals)) → Q () { s with heap := h' }) : wpAny (model W.prog W.w) A (noteFrame (.ref e) env) Q Ev s := by
  obtain ⟨S, B, U, hB, fl⟩ := x
  obtain ⟨envs, hf, hl, ff⟩ := f.fun (outs := outer) S U.here U.outs
  rcases fl with ⟨oe, vs, a0, he, hc, hd, h1, h0⟩ | ⟨a0, fl, ht, rfl | rfl⟩
  · unfold noteFrame
    simp only [hl]
    refine wpAny_bind (wpAny_field he hd h1 ?_)
    rw [if_neg (by decide)]
    refine wpAny_entryW (a0 := a0) hf ff hl he U.stays hB hd (Array.getElem?_eq_some_iff.mp h1).1 h0 fun h' hN => ?_
    obtain ⟨n1, n2, n3, n4⟩ := hN
    exact h h' B (S.slots (t := s.toks) U n1 n4) (U.stay n1) hB ⟨a0, by rw [← hc]; exact n3⟩
  · refine wpAny_noteFrame_onW hf ff hl ht U.stays hB fun h' hN => ?_
    obtain ⟨n1, n2, n3, n4⟩ := hN
    exact h h' B (S.slots (t := s.toks) U n1 n4) (U.stay n1) hB ⟨a0, n3⟩
  · refine wpAny_noteFrame_againW hl ht ?_
    exact h s.heap B S U hB ⟨a0, ht⟩
theorem Aloft.land {e : Addr} {cls a0 fl : Value} {Q : Unit → Shared → Prop} {Ev : Value → Shared → Prop} (f : Fits A env outer) (S : Sim W env outer loc mem R F s) (U : Under env outer mem R F B s.heap) (hB : B.get? e = none) (ht : s.heap.TracedAtW B e cls a0 fl) {A' : Around}
    (h : ∀ h', Sim W env outer loc mem R F { s with heap := h' } → Under env outer mem R F B h' → h'.TracedAtW B e cls a0 .none → Q () { s with heap := h' }) : wpAny (model W.prog W.w) A' (setFlight (.ref e) none) Q Ev s := by
  obtain ⟨envs, hf, hl, ff⟩ := f.fun (outs := outer) S U.here U.outs
  refine wpAny_setFlight_noneW U.stays ff ht fun h' k1 k2 k3 k4 => ?_
  exact h h' (S.slots (t := s.toks) U k1 fun b o hb hn => ⟨o.slots, k4 b o hb hn⟩) (U.stay k1) k3.at
noncomputable def exX (W : Wd) (env : Env) (outer : Outs) (X : Value → Loc → Mem → Prop) : Ex W where
  p R F v s := ∃ F' l m e cls, v = .ref e ∧ Incl F F' ∧ Aloft W env outer l m R F' s e cls ∧ X cls l m
  mono := fun l i ⟨F', lo, m, e, cls, h1, h2, h3, h4⟩ => ⟨F', lo, m, e, cls, h1, i.trans h2, ⟨l.sim h3.sim, by
    obtain ⟨B, U, r⟩ := h3.fly
    refine ⟨B, ⟨U.frz, fun a x hx => ?_, U.stays, U.here, U.outs⟩, r⟩
    cases q : m a with
    | some y => exact U.own a y (mun_l q)
    | none => rw [mun_r q] at hx; exact U.own a x (by rw [mun_r q]; exact l.sub a x hx)⟩, h4⟩
noncomputable def markE (W : Wd) (A : Around) (hd : Option Value) (env : Env) (E : Ex W) : Ex W where
  p R F := notedBy (model W.prog W.w) (A.mark hd) env fun e s' => cameBackBy (model W.prog W.w) A env (E.p R F) e s'
  mono l i h := wpAny_mono h (fun _ _ q => wpAny_mono q (fun _ _ z => E.mono l i z) fun _ _ z => E.mono l i z) fun _ _ z => wpAny_mono z (fun _ _ z => E.mono l i z) fun _ _ z => E.mono l i z
theorem s_try1 {T : String} {x : Str} {body suite : List Stmt} {b₀ : Stmt} {np hp pos : Pos} {Q : Fl → Loc → Mem → Prop} (X : Loc → Mem → Prop) (f : Fits A env outer)
    (hexc : isSubtype (.type T) (.type "BaseException") = pure true) (hnt : isSubtype (.type ((Manifest.find? T).elim "type" fun x => x.metatype)) (.type "tuple") = pure false) (hsub : isSubtype (.type T) (.type T) = pure true)
    (hg : env.globals = mainGlobals) (hb : env.builtins = builtinsNs) (hk : env.scope.kind = .function) (hl : env.kindOf x = some .globalImplicit) (hd : (x == ("__debug__" : Str)) = false)
    (he : nsIn W.K mainGlobals x = some none) (hv : bootBuiltins x = some (.type T)) (hn : x ≠ "__name__")
    (h : TrS W A env outer (execs body env) loc mem Q (exX W env outer fun c l m => c = .type T ∧ X l m))
    (hh : ∀ e l m, X l m → TrS W (A.mark (some (.ref e))) env outer (execs (b₀ :: suite) env) l m Q (markE W A (some (.ref e)) env E)) :
    TrS W A env outer (exec (.Try body [.ExceptHandler (some (.Name x np)) none (b₀ :: suite) hp] [] [] pos) env) loc mem Q E := fun R F s S => by
  refine wpAny_Try_except (after' (RW := FR W) (Q := fun _ _ _ => True) (h R F s S) (fun v s1 hx => ?_) fun f' s1 F1 fl l1 m1 i1 r1 S1 h1 => ?_)
  · obtain ⟨F', l, m, e, cls, rfl, i, al, rfl, hX⟩ := hx
    refine al.note f fun h2 B S2 U2 hB ht2 => ?_
    obtain ⟨a0, ht2⟩ := ht2
    refine Aloft.land f S2 U2 hB ht2 fun h3 S3 U3 ht3 => ?_
    obtain ⟨m0, hns, l0⟩ := S3.ns
    have Fr' := S3.fr hns
    have hob : ∃ o, h3.get? e = some o ∧ o.cls = .type T := by obtain ⟨oe, _, _, _, _, q1, ⟨q2, _⟩, _⟩ := ht3; exact ⟨oe, q1, q2⟩
    refine wpAny_handleBy_builtin (X := T) (b := true) hexc hnt hsub (Name_function_global hk hl (loadGlobal_builtin (env := env) (by rw [hg]; exact W.top.g.keeps Fr'.keep) (mg_none_of W.KIn W.top.g he) (by rw [hb]; exact W.top.b.keeps Fr'.keep) ((W.top.builtins x hn).trans hv) ⟨rfl, hob, ?_⟩) hd)
    rw [if_pos rfl]
    refine Aloft.land f S3 U3 hB ht3 fun h5 S5 U5 ht5 => ?_
    exact after' (RW := FR W) (Q := fun _ _ _ => True) (hh e l m hX R F' _ S5) (fun _ _ z => (markE W A (some (.ref e)) env E).mono (Less.refl R) i z) fun f6 s6 F6 fl6 l6 m6 i6 r6 S6 h6 => ⟨F6, fl6, l6, m6, i.trans i6, r6, S6, h6⟩
  · cases r1 with
    | next => exact wpAny_execs_nil ⟨F1, .next, l1, m1, i1, .next, S1, h1⟩
    | brk => exact ⟨F1, .brk, l1, m1, i1, .brk, S1, h1⟩
    | cont => exact ⟨F1, .cont, l1, m1, i1, .cont, S1, h1⟩
    | ret r => exact ⟨F1, .ret _, l1, m1, i1, .ret r, S1, h1⟩
theorem getItem_none {a : Addr} {es : List (Str × V)} {ep : Nat} {k : Str} {X : Value → Loc → Mem → Prop} {Q : V → Loc → Mem → Prop} (hm : mem a = some (.dict es ep)) (hx : getA es k = none) (hh : A.handled = none) (h : X (.type "KeyError") loc mem) :
    OpV W A env outer (fun | [x, y] => getItem x y | _ => pure .none) [.ref a, .str k] loc mem Q (exX W env outer X) := op2 fun R F s v u S r1 r2 =>
  getItem_missing S hm hx hh r1 r2 fun h' e t n => ⟨F, loc, mem, e, _, rfl, Incl.refl F, S.raised n, h⟩
theorem sub_none {a : Addr} {es : List (Str × V)} {ep : Nat} {k : Str} {X : Value → Loc → Mem → Prop} {Q : V → Loc → Mem → Prop} (hm : mem a = some (.dict es ep)) (hx : getA es k = none) (hh : A.handled = none) (h : X (.type "KeyError") loc mem) :
    ∃ T id, Ty mem (.ref a) T ∧ typeLookup (.type T) "__getitem__" = pure (some (.builtin id)) ∧ OpV W A env outer (fun | [x, y] => getItem x y | _ => pure .none) [.ref a, .str k] loc mem Q (exX W env outer X) :=
  ⟨_, _, .dict hm, PySem.F.slot_dict_getitem.lookup, getItem_none hm hx hh h⟩
end
end Mine
end
section
set_option autoImplicit false
namespace Mine
noncomputable abbrev aCF : Addr := 230
noncomputable abbrev cfE (L : Addr) : Env := envX "Grammar.compute_first" compFirst.scope L aCF compFirst.code []
section
variable {W : Wd} {A : Around} {outer : Outs} {loc : Loc} {m : Mem} {E : Ex W} {L : Addr} {g : GR} {adr0 adr : Rl → Addr} {c0 cc : Rl → Option AObj} {fi : List (Str × List Str)}
theorem nodup_take {α : Type} {l : List α} (h : l.Nodup) {i : Nat} {x : α} (e : l[i]? = some x) : x ∉ l.take i := by
  induction l generalizing i with
  | nil => simp at e
  | cons a l ih =>
    cases i with
    | zero => simp
    | succ i =>
      rw [List.take_succ_cons]
      intro hm
      rcases List.mem_cons.mp hm with rfl | hm
      · exact (List.nodup_cons.mp h).1 (List.mem_of_getElem? e)
      · exact ih (List.nodup_cons.mp h).2 e hm
theorem tab_none {β : Type} {l : List (Str × β)} {x : Str} (h : x ∉ l.map (·.1)) : l.lookup x = none := by
  have := lookup_contains l x
  cases q : l.lookup x with
  | none => rfl
  | some z =>
    rw [q] at this
    have hc : (l.map (·.1)).contains x = true := this.symm
    rw [List.contains_iff_mem] at hc; exact absurd hc h
inductive P2I_J1 (g : GR) (adr0 : Rl → Addr) (c0 : Rl → Option AObj) (fi : List (Str × List Str)) (k : Nat) (i : Nat) (l : Loc) (m : Mem) : Prop
  | mk (h1_ : k + i = g.te.length) (h2_ : LSub [("self", .ref (adr0 .self))] l) (adr1 : _) (c1 : _) (h3_ : MemIs adr1 c1 m) (h4_ : FIx adr0 c0 adr1 c1 (fi ++ (g.te.take i).map fun q => (q.1, [q.1])))
inductive P2I_J2 (g : GR) (adr0 : Rl → Addr) (c0 : Rl → Option AObj) (fi : List (Str × List Str)) (k : Nat) (i : Nat) (l : Loc) (m : Mem) : Prop
  | mk (h1_ : k + i = g.no.length) (h2_ : LSub [("self", .ref (adr0 .self))] l) (adr1 : _) (c1 : _) (h3_ : MemIs adr1 c1 m) (h4_ : FIx adr0 c0 adr1 c1 (fi ++ (g.no.take i).map fun q => (q.1, ([] : List Str))))
theorem cf_terms {Q : Fl → Loc → Mem → Prop} (hK : W.K = hdK W.w.params) (hh : A.handled = none) (ok : GOk aGrammar aProd adr0 c0 g) (M : MemIs adr cc m) (X : FIx adr0 c0 adr cc fi) (hl : LSub [("self", .ref (adr0 .self))] loc)
    (hnd : (g.te.map (·.1)).Nodup) (hfi : ∀ x ∈ g.te.map (·.1), x ∉ fi.map (·.1)) (hz : g.te.length + fi.length ≤ 1000)
    (h : ∀ l m adr1 c1, LSub [("self", .ref (adr0 .self))] l → MemIs adr1 c1 m → FIx adr0 c0 adr1 c1 (fi ++ g.te.map fun q => (q.1, [q.1])) → Q .next l m) :
    TrS W A (cfE L) outer (exec (compFirst.body.getD 1 (.Pass ⟨0, 0, 0, 0⟩)) (cfE L)) loc m Q E := by
  refine Tr.locs hl ?_
  obtain ⟨epd, hdict⟩ := ok.dict
  obtain ⟨ept, htab⟩ := ok.te
  have hx := X.at M (by simp) (by simp) ok.self
  have hd := X.at M (by simp) (by simp) hdict
  have ht := X.at M (by simp) (by simp) htab
  refine s_for (fun _ => rfl) ?_; refine e_attr rfl ?_; refine e_local rfl rfl rfl rfl ?_
  refine get_o hK (fun _ => by kernel_rfl) (.own hx hd) rfl rfl ?_
  skip
  let J1 : Nat → Nat → Loc → Mem → Prop := P2I_J1 g adr0 c0 fi
  refine for_k (itr_dict hh ht) J1 ?_ g.te.length ⟨rfl, rfl, adr, cc, M, by simpa using X⟩
  rintro k i l m ⟨hk, hl, adr1, c1, M, X⟩
  have hx := X.at M (by simp) (by simp) ok.self
  have hd := X.at M (by simp) (by simp) hdict
  have ht := X.at M (by simp) (by simp) htab
  have ei := keyItem_eq (i := i) ht rfl
  refine ⟨by rw [ei]; simp, fun hn1 => ?_, fun v hv => ?_⟩
  · rw [ei] at hn1
    have hn1 := Option.some.inj hn1
    rw [Option.map_eq_none_iff, List.getElem?_eq_none_iff, List.length_map] at hn1
    obtain rfl : i = g.te.length := by omega
    refine Tr.locs hl ?_
    refine s_nil ?_
    rw [List.take_length] at X
    exact h _ _ _ _ (rfl) M X
  · rw [ei] at hv
    have hv := Option.some.inj hv
    rw [List.getElem?_map] at hv
    cases hy : g.te[i]? with
    | none => rw [hy] at hv; cases hv
    | some q =>
      rw [hy] at hv
      obtain rfl : v = .str q.1 := by cases hv; rfl
      have hlt : i < g.te.length := by rw [List.getElem?_eq_some_iff] at hy; exact hy.1
      have hq : q ∈ g.te := List.mem_of_getElem? hy
      have hnew : (fi ++ (g.te.take i).map fun q => (q.1, [q.1])).lookup q.1 = none := by
        refine tab_none ?_
        rw [List.map_append, List.map_map, List.mem_append]
        rintro (z | z)
        · exact hfi _ (List.mem_map.mpr ⟨q, hq, rfl⟩) z
        · have z : q.1 ∈ (g.te.take i).map (·.1) := z
          rw [List.map_take] at z
          exact nodup_take hnd (by rw [List.getElem?_map, hy]; rfl) z
      refine Op.locs hl ?_
      refine asg_name ?_; refine st_local rfl rfl ?_; (refine nameQ ?_; intro qq ee; refine s_cons ?_); refine s_assign_sub rfl ?_; refine e_list ?_; refine a_cons rfl ?_; refine e_local rfl rfl rfl rfl ?_; refine a_nil ?_
      refine new_own' (Nat.le_trans (show _ ≤ 1 from (by simp)) (show 1 ≤ sizeLine by decide)) (fun a m1 ha h1 f1 => ?_)
      have hx : m1 (adr0 .self) = _ := (f1 _ (nex hx ha)).trans hx
      have hd : m1 (adr0 .dict) = _ := (f1 _ (nex hd ha)).trans hd
      obtain ⟨epf, hfi1⟩ := X.hfi
      have hf := M.get hfi1
      rw [X.adrE .fi (by simp)] at hf
      have hf : m1 (adr0 .fi) = _ := (f1 _ (nex hf ha)).trans hf
      refine e_attr rfl ?_; refine e_local rfl rfl rfl rfl ?_
      refine get_o hK (fun _ => by kernel_rfl) (.own hx hd) rfl rfl ?_
      refine e_local rfl rfl rfl rfl ?_
      refine setItem_dict' hf (by rw [List.length_map, List.length_append, List.length_map, List.length_take]; exact Nat.le_trans (show fi.length + min i g.te.length ≤ 1000 by omega) (by decide)) (fun m2 ep2 h2 f2 => ?_)
      refine s_nil ?_
      obtain ⟨adr2, c2, M2, X2⟩ := X.store (ys := [q.1]) M hnew ha h1 f1 h2 f2
      refine ⟨k - 1, (kst hk hlt).1, (kst hk hlt).2, rfl, adr2, c2, M2, ?_⟩
      rw [take_snoc hy, List.map_append, ← List.append_assoc]
      exact X2
theorem cf_names {Q : Fl → Loc → Mem → Prop} (hK : W.K = hdK W.w.params) (hh : A.handled = none) (ok : GOk aGrammar aProd adr0 c0 g) (M : MemIs adr cc m) (X : FIx adr0 c0 adr cc fi) (hl : LSub [("self", .ref (adr0 .self))] loc)
    (hnd : (g.no.map (·.1)).Nodup) (hfi : ∀ x ∈ g.no.map (·.1), x ∉ fi.map (·.1)) (hz : g.no.length + fi.length ≤ 1000)
    (h : ∀ l m adr1 c1, LSub [("self", .ref (adr0 .self))] l → MemIs adr1 c1 m → FIx adr0 c0 adr1 c1 (fi ++ g.no.map fun q => (q.1, ([] : List Str))) → Q .next l m) :
    TrS W A (cfE L) outer (exec (compFirst.body.getD 3 (.Pass ⟨0, 0, 0, 0⟩)) (cfE L)) loc m Q E := by
  refine Tr.locs hl ?_
  obtain ⟨epd, hdict⟩ := ok.dict
  obtain ⟨ept, htab⟩ := ok.no
  have hx := X.at M (by simp) (by simp) ok.self
  have hd := X.at M (by simp) (by simp) hdict
  have ht := X.at M (by simp) (by simp) htab
  refine s_for (fun _ => rfl) ?_; refine e_attr rfl ?_; refine e_local rfl rfl rfl rfl ?_
  refine get_o hK (fun _ => by kernel_rfl) (.own hx hd) rfl rfl ?_
  skip
  let J2 : Nat → Nat → Loc → Mem → Prop := P2I_J2 g adr0 c0 fi
  refine for_k (itr_dict hh ht) J2 ?_ g.no.length ⟨rfl, rfl, adr, cc, M, by simpa using X⟩
  rintro k i l m ⟨hk, hl, adr1, c1, M, X⟩
  have hx := X.at M (by simp) (by simp) ok.self
  have hd := X.at M (by simp) (by simp) hdict
  have ht := X.at M (by simp) (by simp) htab
  have ei := keyItem_eq (i := i) ht rfl
  refine ⟨by rw [ei]; simp, fun hn1 => ?_, fun v hv => ?_⟩
  · rw [ei] at hn1
    have hn1 := Option.some.inj hn1
    rw [Option.map_eq_none_iff, List.getElem?_eq_none_iff, List.length_map] at hn1
    obtain rfl : i = g.no.length := by omega
    refine Tr.locs hl ?_
    refine s_nil ?_
    rw [List.take_length] at X
    exact h _ _ _ _ (rfl) M X
  · rw [ei] at hv
    have hv := Option.some.inj hv
    rw [List.getElem?_map] at hv
    cases hy : g.no[i]? with
    | none => rw [hy] at hv; cases hv
    | some q =>
      rw [hy] at hv
      obtain rfl : v = .str q.1 := by cases hv; rfl
      have hlt : i < g.no.length := by rw [List.getElem?_eq_some_iff] at hy; exact hy.1
      have hq : q ∈ g.no := List.mem_of_getElem? hy
      have hnew : (fi ++ (g.no.take i).map fun q => (q.1, ([] : List Str))).lookup q.1 = none := by
        refine tab_none ?_
        rw [List.map_append, List.map_map, List.mem_append]
        rintro (z | z)
        · exact hfi _ (List.mem_map.mpr ⟨q, hq, rfl⟩) z
        · have z : q.1 ∈ (g.no.take i).map (·.1) := z
          rw [List.map_take] at z
          exact nodup_take hnd (by rw [List.getElem?_map, hy]; rfl) z
      refine Op.locs hl ?_
      refine asg_name ?_; refine st_local rfl rfl ?_; (refine nameQ ?_; intro qq ee; refine s_cons ?_); refine s_assign_sub rfl ?_; refine e_list ?_; refine a_nil ?_
      refine new_own' (Nat.le_trans (show _ ≤ 1 from (by simp)) (show 1 ≤ sizeLine by decide)) (fun a m1 ha h1 f1 => ?_)
      have hx : m1 (adr0 .self) = _ := (f1 _ (nex hx ha)).trans hx
      have hd : m1 (adr0 .dict) = _ := (f1 _ (nex hd ha)).trans hd
      obtain ⟨epf, hfi1⟩ := X.hfi
      have hf := M.get hfi1
      rw [X.adrE .fi (by simp)] at hf
      have hf : m1 (adr0 .fi) = _ := (f1 _ (nex hf ha)).trans hf
      refine e_attr rfl ?_; refine e_local rfl rfl rfl rfl ?_
      refine get_o hK (fun _ => by kernel_rfl) (.own hx hd) rfl rfl ?_
      refine e_local rfl rfl rfl rfl ?_
      refine setItem_dict' hf (by rw [List.length_map, List.length_append, List.length_map, List.length_take]; exact Nat.le_trans (show fi.length + min i g.no.length ≤ 1000 by omega) (by decide)) (fun m2 ep2 h2 f2 => ?_)
      refine s_nil ?_
      obtain ⟨adr2, c2, M2, X2⟩ := X.store (ys := ([] : List Str)) M hnew ha h1 f1 h2 f2
      refine ⟨k - 1, (kst hk hlt).1, (kst hk hlt).2, rfl, adr2, c2, M2, ?_⟩
      rw [take_snoc hy, List.map_append, ← List.append_assoc]
      exact X2
end
end Mine
end
section
set_option autoImplicit false
namespace Mine
noncomputable def startG (C : Addr) (g : GR) (st : Str) : GR := { g with p0 := .ins C (prodAttrs (.int 0) "S'" [st] (.tup [.str "right", .int 0]) .none (.str "") (.int 0)), no := pushL g.no st 0, start := .str st }
section
variable {W : Wd} {A : Around} {env : Env} {outer : Outs} {loc : Loc} {mem : Mem} {E : Ex W}
theorem start_spec {g : GR} {a : Addr} {gm : Mem} {st : Str} {Q : V → Loc → Mem → Prop} (hK : W.K = hdK W.w.params) (c : Calm A 700 6000) (G : GMem aGrammar aProd g a gm) (hs0 : 0 < st.cps.size) (hs1 : st.cps.size ≤ 100) (hso : PyData.strOk st = true)
    (hno : (g.no.lookup st).isSome = true) (hnz : ∀ ns, g.no.lookup st = some ns → ns.length ≤ 100000) (h : ∀ m, GMem aGrammar aProd (startG aProd g st) a m → Q .none loc m) : OpV W A env outer (fun vs => call (.ref aStart) vs) [.ref a, .str st] loc gm Q E := by
  obtain ⟨adr, cc, M, ok, rfl⟩ := G
  refine call_fn (bs := [("self", .ref (adr .self)), ("start", .str st)]) (by rw [hK]; exact setStart.at _) (by rw [hK]; first | rfl | kernel_rfl | decide +kernel) (c.room (by decide)) ?_ (by intro y hy; simp at hy; rcases hy with rfl | rfl <;> rfl) (by decide) rfl rfl rfl ?_
  · intro F s vs hb hk r
    cases r.view with
    | cons r1 r2 =>
      cases r2 with
      | cons r2 r3 =>
        cases r3
        first
          | exact ⟨_, BindsTo.of_eq rfl, .cons r1 (.cons r2 .nil)⟩
          | exact ⟨_, binds_K hk rfl (by rw [hK]; rfl) rfl rfl rfl, .cons r1 (.cons r2 .nil)⟩
  · intro L outer
    have cd := c.deeper (envX "Grammar.set_start" setStart.scope L 174 setStart.code [])
    obtain ⟨epd, hdict⟩ := ok.dict
    obtain ⟨epn, hnod⟩ := ok.no
    obtain ⟨ns, hns⟩ : ∃ ns, g.no.lookup st = some ns := Option.isSome_iff_exists.mp hno
    have hnl : cc (.noL st) = some (.list (vInts ns)) := by rw [ok.noL, hns]; rfl
    (refine nameS ?_; intro aa vv oo qq ee; refine s_cons ?_); refine s_if ?_; refine b_not ?_; refine b_value rfl ?_; refine e_local rfl rfl rfl rfl ?_
    refine tr_str (by show (st.cps.size : Int) < _; omega) ?_
    have hne : ((st.length : Int) != 0) = true := by
      have : (st.length : Int) ≠ 0 := by show (st.cps.size : Int) ≠ 0; omega
      simpa using this
    rw [hne]
    skip
    refine only_f ?_
    refine s_nil ?_; refine s_cons ?_; refine s_if ?_; refine b_cmp rfl ?_; refine e_local rfl rfl rfl rfl ?_; refine e_attr rfl ?_; refine e_local rfl rfl rfl rfl ?_
    have hx := M.get ok.self
    have hd := M.get hdict
    refine get_o hK (fun _ => by kernel_rfl) (.own hx hd) rfl rfl ?_
    skip
    refine notin_dict (M.get hnod) ?_
    have hin : (getA (g.no.map fun q => (q.1, V.ref (adr (.noL q.1)))) st).isSome = true := by
      rw [getA_map g.no (fun k => V.ref (adr (.noL k))) st, if_pos (by rw [← lookup_contains, hns]; rfl)]; rfl
    rw [hin]
    refine tr_bool ?_
    refine only_f ?_
    refine s_nil ?_; refine s_cons ?_; refine s_assign_sub rfl ?_; refine c_name rfl ?_; refine e_topG rfl rfl rfl rfl (by rw [hK]; rfl) ?_; refine c_top (by rw [hK]; rfl) rfl rfl ?_; refine a_cons rfl ?_; refine e_int ?_; refine a_cons rfl ?_; refine e_str ?_; refine a_cons rfl ?_; refine e_list ?_; refine a_cons rfl ?_; refine e_local rfl rfl rfl rfl ?_; refine a_nil ?_
    refine new_lst (show 1 ≤ sizeLine by decide) ?_
    refine a_nil ?_
    refine prod_spec3 hK (cd.mono (by decide) (by decide)) (.lst _ : Sq _ _ _ (vStrs [st])) (by simp) (by intro y hy; simp at hy; subst hy; exact ⟨hs1, hso⟩) (by decide) rfl ?_
    refine e_attr rfl ?_; refine e_local rfl rfl rfl rfl ?_
    refine get_o hK (fun _ => by kernel_rfl) (.own hx hd) rfl rfl ?_
    refine e_int ?_
    refine setItem_own (k := 0) (M.get ok.pl) (by simp) (by omega) (fun m1 h1 f1 => ?_)
    have M1 := M.set (r := .pl) ok.pl h1 f1
    refine s_cons ?_; refine s_expr rfl rfl ?_; refine c_meth rfl ?_; refine e_sub (fun _ _ => rfl) ?_; refine e_attr rfl ?_; refine e_local rfl rfl rfl rfl ?_
    have hx := M1.get (r := .self) ok.self
    have hd := M1.get (r := .dict) hdict
    refine get_o hK (fun _ => by kernel_rfl) (.own hx hd) rfl rfl ?_
    refine e_local rfl rfl rfl rfl ?_
    refine sub_dict (x := .ref (adr (.noL st))) (M1.get (r := .no) hnod) (by rw [getA_map g.no (fun k => V.ref (adr (.noL k))) st, if_pos (by rw [← lookup_contains, hns]; rfl)]) ?_
    have hl1 := M1.get (r := .noL st) hnl
    refine m_builtin (.list hl1) PySem.F.plainAttrs_list PySem.F.slot_list_append PySem.F.type_list_append rfl rfl ?_
    refine a_cons rfl ?_; refine e_int ?_; refine a_nil ?_
    refine append_own' hl1 (by simp [vInts]; exact Nat.le_trans (hnz ns hns) (by decide)) (fun m2 h2 f2 => ?_)
    have M2 := M1.set (r := .noL st) hnl h2 f2
    refine s_cons ?_; refine s_assign_attr rfl ?_; refine e_local rfl rfl rfl rfl ?_; refine e_local rfl rfl rfl rfl ?_
    refine set_o hK (fun _ => by kernel_rfl) (M2.get (r := .self) ok.self) (M2.get (r := .dict) hdict) rfl (fun m3 ep3 hx3 hd3 f3 => ?_)
    have hd3 : _ = some (AObj.dict [((Str.ofString "Productions", Rl.pl).fst, _), ((Str.ofString "Prodnames", Rl.pn).fst, _), ((Str.ofString "Prodmap", Rl.pm).fst, _), ((Str.ofString "Terminals", Rl.te).fst, _), ((Str.ofString "Nonterminals", Rl.no).fst, _), ((Str.ofString "First", Rl.fi).fst, _), ((Str.ofString "Follow", Rl.fo).fst, _), ((Str.ofString "Precedence", Rl.pr).fst, _), (Str.ofString "UsedPrecedence", _), ((Str.ofString "Start", g.start).fst, _)] _) := hd3
    have M3 := M2.set (r := .dict) hdict hd3 f3
    refine s_nil ?_
    refine ⟨m3, sub_refl _, h m3 ⟨_, _, M3, ?_, rfl⟩⟩
    have off : ∀ (y1 y2 y3 : Option AObj) (r : Rl), r ≠ .pl → r ≠ .noL st → r ≠ .dict → upd (upd (upd cc .pl y1) (.noL st) y2) .dict y3 r = cc r := fun y1 y2 y3 r a1 a2 a3 => by rw [upd_ne a3, upd_ne a2, upd_ne a1]
    refine {
      self := (off _ _ _ _ (by simp) (by simp) (by simp)).trans ok.self
      dict := ⟨ep3, rfl⟩
      pl := rfl
      pn := ok.pn.imp fun ep e => (off _ _ _ _ (by simp) (by simp) (by simp)).trans e
      pnL := fun k => (off _ _ _ _ (by simp) (by simp) (by simp)).trans (ok.pnL k)
      pm := ok.pm.imp fun ep e => (off _ _ _ _ (by simp) (by simp) (by simp)).trans e
      te := ok.te.imp fun ep e => (off _ _ _ _ (by simp) (by simp) (by simp)).trans e
      teL := fun k => (off _ _ _ _ (by simp) (by simp) (by simp)).trans (ok.teL k)
      no := ⟨epn, ?_⟩
      noL := fun k => ?_
      fi := ok.fi.imp fun ep e => (off _ _ _ _ (by simp) (by simp) (by simp)).trans e
      fiL := fun k => (off _ _ _ _ (by simp) (by simp) (by simp)).trans (ok.fiL k)
      fo := ok.fo.imp fun ep e => (off _ _ _ _ (by simp) (by simp) (by simp)).trans e
      foL := fun k => (off _ _ _ _ (by simp) (by simp) (by simp)).trans (ok.foL k)
      pr := ok.pr.imp fun ep e => (off _ _ _ _ (by simp) (by simp) (by simp)).trans e
      up := (off _ _ _ _ (by simp) (by simp) (by simp)).trans ok.up }
    · rw [off _ _ _ _ (by simp) (by simp) (by simp), hnod]
      exact congrArg (fun z => some (AObj.dict z epn)) (pushL_refs g.no st 0 (fun k => V.ref (adr (.noL k)))).symm
    · show _ = ((pushL g.no st 0).lookup k).map _
      rw [pushL_lookup]
      by_cases e : k = st
      · subst e
        rw [if_pos rfl, hns]
        simp [upd, vInts]
      · rw [if_neg e, off _ _ _ _ (by simp) (by simpa using e) (by simp)]
        exact ok.noL k
end
end Mine
end
section
set_option autoImplicit false
namespace Mine
structure SymOk (s : Str) : Prop where
  pos : 0 < s.cps.size
  size : s.cps.size ≤ 100
  ok : PyData.strOk s = true
  ident : isIdent s = true
  noQuote : ∀ c, s.cps[0]? = some c → strIn ⟨#[c]⟩ "'\"" = false
  noPrec : s ≠ "%prec"
noncomputable abbrev addE (L : Addr) : Env := envX "Grammar.add_production" addP.scope L aAdd addP.code []
noncomputable abbrev addL (a sy : Addr) (name map : Str) (prec func file line num : V) : Loc := [("self", .ref a), ("prodname", .str name), ("syms", .ref sy), ("func", func), ("file", file), ("line", line), ("prodprec", prec), ("map", .str map), ("pnumber", num)]
section
variable {W : Wd} {A : Around} {outer : Outs} {loc : Loc} {m : Mem} {E : Ex W} {L : Addr} {g : GR} {adr0 adr : Rl → Addr} {c0 cc : Rl → Option AObj} {te no : List (Str × List Int)} {sy : Addr} {X : AObj} {name map : Str} {prec func file line num : V}
theorem TN.at {r : Rl} {x : AObj} (T : TN adr0 c0 adr cc te no) (G : GS adr cc sy X m) (h1 : ∀ k, r ≠ .noL k) (h2 : ∀ k, r ≠ .teL k) (h3 : r ≠ .no) (h : c0 r = some x) : m (adr0 r) = some x := by
  have := G.get (r := r) ((T.cE r h1 h2 h3).trans h)
  rwa [T.adrE r h1] at this
theorem lookA {β : Type} {l : List (Str × β)} {f : Str → V} {k : Str} {b : Bool} (h : (l.lookup k).isSome = b) : (getA (l.map fun q => (q.1, f q.1)) k).isSome = b := by
  rw [getA_map l f k, ← h, lookup_contains]; split <;> rename_i z <;> simp_all
theorem lookB {β : Type} {l : List (Str × β)} {f : Str → V} {k : Str} (h : (l.lookup k).isSome = true) : getA (l.map fun q => (q.1, f q.1)) k = some (f k) := by
  rw [getA_map l f k, if_pos (by rw [← lookup_contains]; exact h)]
theorem add_know {Q : Fl → Loc → Mem → Prop} (hK : W.K = hdK W.w.params) (ok : GOk aGrammar aProd adr0 c0 g) (G : GS adr cc sy X m) (T : TN adr0 c0 adr cc te no) (hl : LSub (addL (adr0 .self) sy name map prec func file line num) loc) (hz : no.length ≤ 1000000)
    (h : ∀ l m adr1 cc1, LSub (addL (adr0 .self) sy name map prec func file line num) l → GS adr1 cc1 sy X m → TN adr0 c0 adr1 cc1 te (known no name) → Q .next l m) :
    TrS W A (addE L) outer (exec (addP.body.getD 8 (.Pass ⟨0, 0, 0, 0⟩)) (addE L)) loc m Q E := by
  refine Tr.locs hl ?_
  obtain ⟨epd, hdict⟩ := ok.dict
  have hx := T.at G (by simp) (by simp) (by simp) ok.self
  have hd := T.at G (by simp) (by simp) (by simp) hdict
  obtain ⟨epn, hnod⟩ := T.hno
  have hno := G.get hnod
  rw [T.adrE .no (by simp)] at hno
  refine s_if ?_; refine b_cmp rfl ?_; refine e_local rfl rfl rfl rfl ?_; refine e_attr rfl ?_; refine e_local rfl rfl rfl rfl ?_
  refine get_o hK (fun _ => by kernel_rfl) (.own hx hd) rfl rfl ?_
  skip
  refine notin_dict hno ?_
  cases q : (no.lookup name).isSome with
  | true =>
    rw [show (getA (no.map fun q => (q.1, V.ref (adr (.noL q.1)))) name).isSome = true from lookA (f := fun k => V.ref (adr (.noL k))) q]
    refine tr_bool ?_
    refine only_f ?_
    refine s_nil ?_
    refine h _ _ adr cc (rfl) G ?_
    have : known no name = no := by unfold known; rw [if_pos q]
    rw [this]; exact T
  | false =>
    rw [show (getA (no.map fun q => (q.1, V.ref (adr (.noL q.1)))) name).isSome = false from lookA (f := fun k => V.ref (adr (.noL k))) q]
    refine tr_bool ?_
    refine only_t ?_
    refine s_cons ?_; refine s_assign_sub rfl ?_; refine e_list ?_; refine a_nil ?_
    refine new_own' (by decide) (fun a m1 ha h1 f1 => ?_)
    have q' : no.lookup name = none := by cases z : no.lookup name with | none => rfl | some _ => rw [z] at q; cases q
    have hc : cc (.noL name) = none := by rw [T.noL, q']; rfl
    have G1 := G.new hc ha h1 f1
    have hx : m1 (adr0 .self) = _ := (f1 _ (nex hx ha)).trans hx
    have hd : m1 (adr0 .dict) = _ := (f1 _ (nex hd ha)).trans hd
    have hno : m1 (adr0 .no) = _ := (f1 _ (nex hno ha)).trans hno
    refine e_attr rfl ?_; refine e_local rfl rfl rfl rfl ?_
    refine get_o hK (fun _ => by kernel_rfl) (.own hx hd) rfl rfl ?_
    refine e_local rfl rfl rfl rfl ?_
    refine setItem_dict' hno (by simp; exact Nat.le_trans hz (by decide)) (fun m2 ep2 h2 f2 => ?_)
    refine s_nil ?_
    have hc2 : upd cc (.noL name) (some (.list [])) .no = some (.dict (no.map fun q => (q.1, .ref (adr (.noL q.1)))) epn) := by rw [upd_ne (by simp)]; exact hnod
    have e2 : upd adr (.noL name) a .no = adr0 .no := by rw [upd_ne (by simp), T.adrE .no (by simp)]
    have G2 := G1.set (r := .no) hc2 (by rw [e2]; exact h2) (by rw [e2]; exact f2)
    exact h _ _ _ _ (rfl) G2 (T.newN q')
noncomputable def LenOk (B : Nat) (tn : List (Str × List Int) × List (Str × List Int)) : Prop := tn.2.length ≤ B ∧ (∀ k ns, tn.1.lookup k = some ns → ns.length ≤ B) ∧ ∀ k ns, tn.2.lookup k = some ns → ns.length ≤ B
theorem pushL_len {B : Nat} {l : List (Str × List Int)} {s : Str} {n : Int} (h : ∀ k ns, l.lookup k = some ns → ns.length ≤ B) : ∀ k ns, (pushL l s n).lookup k = some ns → ns.length ≤ B + 1 := by
  intro k ns e
  rw [pushL_lookup] at e
  split at e
  · cases q : l.lookup k with
    | none => rw [q] at e; cases e
    | some z => rw [q] at e; cases e; have := h k z q; simp; omega
  · have := h k ns e; omega
theorem known_len {B : Nat} {l : List (Str × List Int)} {s : Str} (h : ∀ k ns, l.lookup k = some ns → ns.length ≤ B) : ∀ k ns, (known l s).lookup k = some ns → ns.length ≤ B := by
  intro k ns e
  rw [known_lookup] at e
  split at e
  · cases q : l.lookup s with
    | none => rw [q] at e; cases e; simp
    | some z => rw [q] at e; cases e; exact h s z q
  · exact h k ns e
theorem known_size {l : List (Str × List Int)} {s : Str} : (known l s).length ≤ l.length + 1 := by unfold known; split <;> simp
theorem LenOk.note {B : Nat} {tn : List (Str × List Int) × List (Str × List Int)} (h : LenOk B tn) (n : Int) (s : Str) : LenOk (B + 1) (noteSym n tn s) := by
  obtain ⟨h1, h2, h3⟩ := h
  unfold noteSym
  split
  · exact ⟨Nat.le_succ_of_le h1, pushL_len h2, fun k ns e => Nat.le_succ_of_le (h3 k ns e)⟩
  · refine ⟨?_, fun k ns e => Nat.le_succ_of_le (h2 k ns e), pushL_len (known_len h3)⟩
    show (pushL _ _ _).length ≤ _
    unfold pushL; rw [List.length_map]; have := @known_size tn.2 s; omega
theorem notes_len {B : Nat} {tn : List (Str × List Int) × List (Str × List Int)} (h : LenOk B tn) (n : Int) (syms : List Str) : LenOk (B + syms.length) (syms.foldl (noteSym n) tn) := by
  induction syms generalizing B tn with
  | nil => exact h
  | cons s l ih => have := ih (h.note n s); rw [List.length_cons, Nat.add_comm l.length 1, ← Nat.add_assoc]; exact this
inductive P2G_J1 (adr0 : Rl → Addr) (c0 : Rl → Option AObj) (te : List (Str × List Int)) (no : List (Str × List Int)) (sy : Addr) (name : Str) (map : Str) (prec : V) (func : V) (file : V) (line : V) (n : Int) (syms : List Str) (k : Nat) (i : Nat) (l : Loc) (m : Mem) : Prop
  | mk (h1_ : k + i = syms.length) (h2_ : LSub (addL (adr0 .self) sy name map prec func file line (.int n)) l) (adr1 : _) (cc1 : _) (h3_ : GS adr1 cc1 sy (.list (vStrs syms)) m) (h4_ : TN adr0 c0 adr1 cc1 ((syms.take i).foldl (noteSym n) (te, no)).1 ((syms.take i).foldl (noteSym n) (te, no)).2)
theorem add_loop {Q : Fl → Loc → Mem → Prop} {n : Int} {syms : List Str} (hK : W.K = hdK W.w.params) (hh : A.handled = none) (ok : GOk aGrammar aProd adr0 c0 g) (G : GS adr cc sy (.list (vStrs syms)) m) (T : TN adr0 c0 adr cc te no) (hl : LSub (addL (adr0 .self) sy name map prec func file line (.int n)) loc) (hz : LenOk 1000000 (te, no)) (hs : syms.length ≤ 1000)
    (h : ∀ l m adr1 cc1, LSub (addL (adr0 .self) sy name map prec func file line (.int n)) l → GS adr1 cc1 sy (.list (vStrs syms)) m → TN adr0 c0 adr1 cc1 (syms.foldl (noteSym n) (te, no)).1 (syms.foldl (noteSym n) (te, no)).2 → Q .next l m) :
    TrS W A (addE L) outer (exec (addP.body.getD 9 (.Pass ⟨0, 0, 0, 0⟩)) (addE L)) loc m Q E := by
  refine Tr.locs hl ?_
  refine s_for (fun _ => rfl) ?_; refine e_local rfl rfl rfl rfl ?_
  let J1 : Nat → Nat → Loc → Mem → Prop := P2G_J1 adr0 c0 te no sy name map prec func file line n syms
  refine for_k (itr_own hh G.side) J1 ?_ syms.length ⟨rfl, rfl, adr, cc, G, T⟩
  rintro k i l m ⟨hk, hl, adr1, cc1, G, T⟩
  have ei : ownItem sy i m = some (vStrs syms)[i]? := ownItem_eq G.side
  refine ⟨by rw [ei]; simp, fun hn1 => ?_, fun v hv => ?_⟩
  · rw [ei] at hn1
    have hn1 : (vStrs syms)[i]? = none := Option.some.inj hn1
    rw [List.getElem?_eq_none_iff, vStrs_len] at hn1
    obtain rfl : i = syms.length := by omega
    refine Tr.locs hl ?_
    refine s_nil ?_
    rw [List.take_length] at T
    exact h _ _ _ _ (rfl) G T
  · rw [ei] at hv
    have hi : (vStrs syms)[i]? = some v := Option.some.inj hv
    obtain ⟨y, rfl, hy1⟩ : ∃ y, v = .str y ∧ syms[i]? = some y := by
      unfold vStrs at hi
      rw [List.getElem?_map] at hi
      cases e : syms[i]? with
      | none => rw [e] at hi; cases hi
      | some y => rw [e] at hi; exact ⟨y, (Option.some.inj hi).symm, rfl⟩
    have hlt : i < syms.length := by rw [List.getElem?_eq_some_iff] at hy1; exact hy1.1
    have et : (syms.take (i + 1)).foldl (noteSym n) (te, no) = noteSym n ((syms.take i).foldl (noteSym n) (te, no)) y := by rw [take_snoc hy1, List.foldl_append]; rfl
    have hlen := notes_len hz n (syms.take i)
    generalize htn : (syms.take i).foldl (noteSym n) (te, no) = tn at *
    have hlen : LenOk 1001000 tn := by
      have e : (syms.take i).length ≤ 1000 := by rw [List.length_take]; omega
      obtain ⟨a, b, d⟩ := hlen
      exact ⟨by omega, fun k ns z => by have := b k ns z; omega, fun k ns z => by have := d k ns z; omega⟩
    obtain ⟨tt, nn⟩ := tn
    obtain ⟨hz1, hz2, hz3⟩ := hlen
    dsimp only at hz1 hz2 hz3 T
    obtain ⟨epd, hdict⟩ := ok.dict
    have hx := T.at G (by simp) (by simp) (by simp) ok.self
    have hd := T.at G (by simp) (by simp) (by simp) hdict
    obtain ⟨epn, hnod⟩ := T.hno
    have hno := G.get hnod
    rw [T.adrE .no (by simp)] at hno
    obtain ⟨ept, hted⟩ := T.hte
    have hte := G.get hted
    rw [T.adrE .te (by simp)] at hte
    refine Op.locs hl ?_
    refine asg_name ?_; refine st_local rfl rfl ?_; (refine nameQ ?_; intro qq ee; refine s_cons ?_); refine s_if ?_; refine b_cmp rfl ?_; refine e_local rfl rfl rfl rfl ?_; refine e_attr rfl ?_; refine e_local rfl rfl rfl rfl ?_
    refine get_o hK (fun _ => by kernel_rfl) (.own hx hd) rfl rfl ?_
    skip
    refine in_dict hte ?_
    cases q : (tt.lookup y).isSome with
    | true =>
      rw [show (getA (tt.map fun q => (q.1, V.ref (adr1 (.teL q.1)))) y).isSome = true from lookA (f := fun k => V.ref (adr1 (.teL k))) q]
      refine tr_bool ?_
      refine only_t ?_
      (refine nameQ ?_; intro qq ee; refine s_cons ?_); refine s_expr rfl rfl ?_; refine c_meth rfl ?_; refine e_sub (fun _ _ => rfl) ?_; refine e_attr rfl ?_; refine e_local rfl rfl rfl rfl ?_
      refine get_o hK (fun _ => by kernel_rfl) (.own hx hd) rfl rfl ?_
      refine e_local rfl rfl rfl rfl ?_
      refine sub_dict hte (lookB (f := fun k => V.ref (adr1 (.teL k))) q) ?_
      obtain ⟨ns, hns⟩ := Option.isSome_iff_exists.mp q
      have hcl : cc1 (.teL y) = some (.list (vInts ns)) := by rw [T.teL, hns]; rfl
      have hl1 := G.get hcl
      refine m_builtin (.list hl1) PySem.F.plainAttrs_list PySem.F.slot_list_append PySem.F.type_list_append rfl rfl ?_
      refine a_cons rfl ?_; refine e_local rfl rfl rfl rfl ?_; refine a_nil ?_
      refine append_own' hl1 (by have := hz2 y ns hns; simp [vInts]; exact Nat.le_trans this (by decide)) (fun m2 h2 f2 => ?_)
      refine s_nil ?_; refine s_nil ?_
      refine ⟨k - 1, (kst hk hlt).1, (kst hk hlt).2, rfl, _, _, G.set hcl h2 f2, ?_⟩
      have : noteSym n (tt, nn) y = (pushL tt y n, nn) := by unfold noteSym; rw [if_pos q]
      rw [et, this]
      exact T.pushT hns
    | false =>
      rw [show (getA (tt.map fun q => (q.1, V.ref (adr1 (.teL q.1)))) y).isSome = false from lookA (f := fun k => V.ref (adr1 (.teL k))) q]
      refine tr_bool ?_
      refine only_f ?_
      have hnote : noteSym n (tt, nn) y = (tt, pushL (known nn y) y n) := by unfold noteSym; rw [if_neg (by rw [q]; exact Bool.false_ne_true)]
      (refine nameQ ?_; intro qq ee; refine s_cons ?_)
      refine Tr.mono (Q := fun f l m => f = .next ∧ LSub (("t", .str y) :: addL (adr0 .self) sy name map prec func file line (.int n)) l ∧ ∃ adr2 cc2, GS adr2 cc2 sy (.list (vStrs syms)) m ∧ TN adr0 c0 adr2 cc2 tt (known nn y)) ?_ ?_
      · refine s_if ?_; refine b_cmp rfl ?_; refine e_local rfl rfl rfl rfl ?_; refine e_attr rfl ?_; refine e_local rfl rfl rfl rfl ?_
        refine get_o hK (fun _ => by kernel_rfl) (.own hx hd) rfl rfl ?_
        skip
        refine notin_dict hno ?_
        cases q2 : (nn.lookup y).isSome with
        | true =>
          rw [show (getA (nn.map fun q => (q.1, V.ref (adr1 (.noL q.1)))) y).isSome = true from lookA (f := fun k => V.ref (adr1 (.noL k))) q2]
          refine tr_bool ?_
          refine only_f ?_
          refine s_nil ?_
          have : known nn y = nn := by unfold known; rw [if_pos q2]
          rw [this]
          exact ⟨rfl, rfl, _, _, G, T⟩
        | false =>
          rw [show (getA (nn.map fun q => (q.1, V.ref (adr1 (.noL q.1)))) y).isSome = false from lookA (f := fun k => V.ref (adr1 (.noL k))) q2]
          refine tr_bool ?_
          refine only_t ?_
          (refine nameQ ?_; intro qq ee; refine s_cons ?_); refine s_assign_sub rfl ?_; refine e_list ?_; refine a_nil ?_
          refine new_own' (by decide) (fun a m1 ha h1 f1 => ?_)
          have q' : nn.lookup y = none := by cases z : nn.lookup y with | none => rfl | some _ => rw [z] at q2; cases q2
          have hc : cc1 (.noL y) = none := by rw [T.noL, q']; rfl
          have G1 := G.new hc ha h1 f1
          have hx : m1 (adr0 .self) = _ := (f1 _ (nex hx ha)).trans hx
          have hd : m1 (adr0 .dict) = _ := (f1 _ (nex hd ha)).trans hd
          have hno : m1 (adr0 .no) = _ := (f1 _ (nex hno ha)).trans hno
          refine e_attr rfl ?_; refine e_local rfl rfl rfl rfl ?_
          refine get_o hK (fun _ => by kernel_rfl) (.own hx hd) rfl rfl ?_
          refine e_local rfl rfl rfl rfl ?_
          refine setItem_dict' hno (by simp; exact Nat.le_trans hz1 (by decide)) (fun m2 ep2 h2 f2 => ?_)
          refine s_nil ?_
          have hc2 : upd cc1 (.noL y) (some (.list [])) .no = some (.dict (nn.map fun q => (q.1, .ref (adr1 (.noL q.1)))) epn) := by rw [upd_ne (by simp)]; exact hnod
          have e2 : upd adr1 (.noL y) a .no = adr0 .no := by rw [upd_ne (by simp), T.adrE .no (by simp)]
          have G2 := G1.set (r := .no) hc2 (by rw [e2]; exact h2) (by rw [e2]; exact f2)
          exact ⟨rfl, rfl, _, _, G2, T.newN q'⟩
      · rintro f l m ⟨rfl, hl, adr2, cc2, G, T⟩
        refine s_cons ?_
        refine Tr.locs hl ?_
        have hx := T.at G (by simp) (by simp) (by simp) ok.self
        have hd := T.at G (by simp) (by simp) (by simp) hdict
        obtain ⟨epn, hnod⟩ := T.hno
        have hno := G.get hnod
        rw [T.adrE .no (by simp)] at hno
        refine s_expr rfl rfl ?_; refine c_meth rfl ?_; refine e_sub (fun _ _ => rfl) ?_; refine e_attr rfl ?_; refine e_local rfl rfl rfl rfl ?_
        refine get_o hK (fun _ => by kernel_rfl) (.own hx hd) rfl rfl ?_
        refine e_local rfl rfl rfl rfl ?_
        have hk3 : (known nn y).lookup y = some ((nn.lookup y).getD []) := by rw [known_lookup, if_pos rfl]
        refine sub_dict hno (lookB (f := fun k => V.ref (adr2 (.noL k))) (by rw [hk3]; rfl)) ?_
        have hcl : cc2 (.noL y) = some (.list (vInts ((nn.lookup y).getD []))) := by rw [T.noL, hk3]; rfl
        have hl1 := G.get hcl
        refine m_builtin (.list hl1) PySem.F.plainAttrs_list PySem.F.slot_list_append PySem.F.type_list_append rfl rfl ?_
        refine a_cons rfl ?_; refine e_local rfl rfl rfl rfl ?_; refine a_nil ?_
        refine append_own' hl1 (by have := known_len hz3 y _ hk3; simp [vInts]; exact Nat.le_trans this (by decide)) (fun m2 h2 f2 => ?_)
        refine s_nil ?_; refine s_nil ?_
        refine ⟨k - 1, (kst hk hlt).1, (kst hk hlt).2, rfl, _, _, G.set hcl h2 f2, ?_⟩
        rw [et, hnote]
        exact T.pushN hk3
end
end Mine
end
section
set_option autoImplicit false
namespace Mine
theorem GOk.add {C CP : Addr} {g : GR} {adr0 adr adr' : Rl → Addr} {c0 cc c' : Rl → Option AObj} {te no : List (Str × List Int)} {p : Pr} {pn' : List Str} (ok : GOk C CP adr0 c0 g) (T : TN adr0 c0 adr cc te no)
    (ha : ∀ r, (∀ k, r ≠ .pnL k) → adr' r = adr r) (hc : ∀ r, r ≠ .pl → r ≠ .pm → r ≠ .pn → (∀ k, r ≠ .pnL k) → c' r = cc r)
    (hpl : c' .pl = some (.list (g.p0 :: (g.prods ++ [p]).map (pV CP)))) (hpm : ∃ ep, c' .pm = some (.dict ((g.prods ++ [p]).map fun p => (mapText p.name p.body, pV CP p)) ep))
    (hpn : ∃ ep, c' .pn = some (.dict (pn'.map fun k => (k, .ref (adr' (.pnL k)))) ep)) (hpnL : ∀ k, c' (.pnL k) = if k ∈ pn' then some (.list (((g.prods ++ [p]).filter fun p => p.name = k).map (pV CP))) else none) :
    GOk C CP adr' c' { g with prods := g.prods ++ [p], pn := pn', te := te, no := no } := by
  have hA : ∀ r, (∀ k, r ≠ .pnL k) → (∀ k, r ≠ .noL k) → adr' r = adr0 r := fun r h1 h2 => (ha r h1).trans (T.adrE r h2)
  have hC : ∀ r, r ≠ .pl → r ≠ .pm → r ≠ .pn → (∀ k, r ≠ .pnL k) → (∀ k, r ≠ .noL k) → (∀ k, r ≠ .teL k) → r ≠ .no → c' r = c0 r := fun r h1 h2 h3 h4 h5 h6 h7 => (hc r h1 h2 h3 h4).trans (T.cE r h5 h6 h7)
  exact {
    self := by rw [hC _ (by simp) (by simp) (by simp) (by simp) (by simp) (by simp) (by simp), hA .dict (by simp) (by simp)]; exact ok.self
    dict := by
      obtain ⟨ep, e⟩ := ok.dict
      refine ⟨ep, ?_⟩
      rw [hC _ (by simp) (by simp) (by simp) (by simp) (by simp) (by simp) (by simp), e]
      exact congrArg (fun z => some (AObj.dict z ep)) (gAttrs_eq fun r hr => hA r (fun _ => leaf_ne hr rfl) fun _ => leaf_ne hr rfl).symm
    pl := hpl
    pn := hpn
    pnL := hpnL
    pm := hpm
    te := by
      obtain ⟨ep, e⟩ := T.hte
      refine ⟨ep, ?_⟩
      rw [hc _ (by simp) (by simp) (by simp) (by simp), e]
      exact congrArg (fun z => some (AObj.dict z ep)) (List.map_congr_left fun q _ => by rw [ha _ (by simp)])
    teL := fun k => by rw [hc _ (by simp) (by simp) (by simp) (by simp)]; exact T.teL k
    no := by
      obtain ⟨ep, e⟩ := T.hno
      refine ⟨ep, ?_⟩
      rw [hc _ (by simp) (by simp) (by simp) (by simp), e]
      exact congrArg (fun z => some (AObj.dict z ep)) (List.map_congr_left fun q _ => by rw [ha _ (by simp)])
    noL := fun k => by rw [hc _ (by simp) (by simp) (by simp) (by simp)]; exact T.noL k
    fi := by
      obtain ⟨ep, e⟩ := ok.fi
      refine ⟨ep, ?_⟩
      rw [hC _ (by simp) (by simp) (by simp) (by simp) (by simp) (by simp) (by simp), e]
      exact congrArg (fun z => some (AObj.dict z ep)) (List.map_congr_left fun q _ => by rw [hA _ (by simp) (by simp)])
    fiL := fun k => by rw [hC _ (by simp) (by simp) (by simp) (by simp) (by simp) (by simp) (by simp)]; exact ok.fiL k
    fo := by
      obtain ⟨ep, e⟩ := ok.fo
      refine ⟨ep, ?_⟩
      rw [hC _ (by simp) (by simp) (by simp) (by simp) (by simp) (by simp) (by simp), e]
      exact congrArg (fun z => some (AObj.dict z ep)) (List.map_congr_left fun q _ => by rw [hA _ (by simp) (by simp)])
    foL := fun k => by rw [hC _ (by simp) (by simp) (by simp) (by simp) (by simp) (by simp) (by simp)]; exact ok.foL k
    pr := by rw [hC _ (by simp) (by simp) (by simp) (by simp) (by simp) (by simp) (by simp)]; exact ok.pr
    up := by rw [hC _ (by simp) (by simp) (by simp) (by simp) (by simp) (by simp) (by simp)]; exact ok.up }
section
variable {W : Wd} {A : Around} {outer : Outs} {loc : Loc} {m : Mem} {E : Ex W} {L : Addr} {g : GR} {adr0 adr : Rl → Addr} {c0 cc : Rl → Option AObj} {te no : List (Str × List Int)} {sy : Addr} {name map : Str} {prec func file line : V} {n : Int} {syms : List Str}
theorem keys_look (l : List Str) (f : Str → V) (k : Str) : getA (l.map fun k => (k, f k)) k = if k ∈ l then some (f k) else none := by
  have := getA_map (l.map fun k => (k, ())) f k
  rw [List.map_map, List.map_map] at this
  have e : ((fun q : Str × Unit => q.1) ∘ fun k => (k, ())) = id := rfl
  rw [e, List.map_id] at this
  refine Eq.trans this ?_
  by_cases h : k ∈ l
  · rw [if_pos h, if_pos (by rw [List.contains_iff_mem]; exact h)]
  · rw [if_neg h, if_neg (by rw [List.contains_iff_mem]; exact h)]
theorem add_end {Q : Fl → Loc → Mem → Prop} (hK : W.K = hdK W.w.params) (cd : Calm A 700 6000) (f : Fits A (addE L) outer) (ok : GOk aGrammar aProd adr0 c0 g) (G : GS adr cc sy (.list (vStrs syms)) m) (T : TN adr0 c0 adr cc te no) (hl : LSub (addL (adr0 .self) sy name map prec func file line (.int n)) loc)
    (hn : name.cps.size ≤ 100) (hs : syms.length ≤ 100) (hy : ∀ y ∈ syms, y.cps.size ≤ 100 ∧ PyData.strOk y = true) (hr : notRef prec = true ∧ notRef func = true ∧ notRef file = true ∧ notRef line = true)
    (hmap : map = mapText name syms) (hm : ∀ p ∈ g.prods, mapText p.name p.body ≠ map) (hnum : g.prods.length ≤ 1000) (hpn : ∀ p ∈ g.prods, p.name ∈ g.pn) (hpz : g.pn.length ≤ 1000)
    (h : ∀ l m gm', GMem aGrammar aProd { g with prods := g.prods ++ [{ name := name, body := syms, num := n, prec := prec, func := func, file := file, line := line }], pn := if name ∈ g.pn then g.pn else g.pn ++ [name], te := te, no := no } (adr0 .self) gm' → Sub gm' m → Q .next l m) :
    TrS W A (addE L) outer (execs (addP.body.drop 10) (addE L)) loc m Q E := by
  refine Tr.locs hl ?_
  obtain ⟨epd, hdict⟩ := ok.dict
  have hx := T.at G (by simp) (by simp) (by simp) ok.self
  have hd := T.at G (by simp) (by simp) (by simp) hdict
  refine s_cons ?_; refine s_assign rfl ?_; refine c_name rfl ?_; refine e_topG rfl rfl rfl rfl (by rw [hK]; rfl) ?_; refine c_top (by rw [hK]; rfl) rfl rfl ?_; refine a_cons rfl ?_; refine e_local rfl rfl rfl rfl ?_; refine a_cons rfl ?_; refine e_local rfl rfl rfl rfl ?_; refine a_cons rfl ?_; refine e_local rfl rfl rfl rfl ?_; refine a_cons rfl ?_; refine e_local rfl rfl rfl rfl ?_; refine a_cons rfl ?_; refine e_local rfl rfl rfl rfl ?_; refine a_cons rfl ?_; refine e_local rfl rfl rfl rfl ?_; refine a_cons rfl ?_; refine e_local rfl rfl rfl rfl ?_; refine a_nil ?_
  obtain ⟨p, hp⟩ : ∃ p : Pr, p = { name := name, body := syms, num := n, prec := prec, func := func, file := file, line := line } := ⟨_, rfl⟩
  have hP : V.ins aProd (prodAttrs (.int n) name syms prec func file line) = pV aProd p := by rw [hp]; rfl
  have hpn1 : p.name = name := by rw [hp]
  have hpm1 : mapText p.name p.body = map := by rw [hp, hmap]
  refine prod_spec hK (cd.mono (by decide) (by decide)) (.own G.side) hs hy hn ⟨rfl, hr⟩ ?_
  rw [hP]
  refine st_local rfl rfl ?_; refine s_cons ?_; refine s_expr rfl rfl ?_; refine c_meth rfl ?_; refine e_attr rfl ?_; refine e_local rfl rfl rfl rfl ?_
  refine get_o hK (fun _ => by kernel_rfl) (.own hx hd) rfl rfl ?_
  have hpl := G.get (r := .pl) ((T.cE .pl (by simp) (by simp) (by simp)).trans ok.pl)
  rw [T.adrE .pl (by simp)] at hpl
  refine m_builtin (.list hpl) PySem.F.plainAttrs_list PySem.F.slot_list_append PySem.F.type_list_append rfl rfl ?_
  refine a_cons rfl ?_; refine e_local rfl rfl rfl rfl ?_; refine a_nil ?_
  refine append_own' hpl (by simp; exact Nat.le_trans (Nat.succ_le_succ hnum) (by decide)) (fun m1 h1 f1 => ?_)
  have G1 := G.set (r := .pl) ((T.cE .pl (by simp) (by simp) (by simp)).trans ok.pl) (by rw [T.adrE .pl (by simp)]; exact h1) (by rw [T.adrE .pl (by simp)]; exact f1)
  have hx : m1 (adr0 .self) = _ := (f1 _ (nex hx hpl)).trans hx
  have hd : m1 (adr0 .dict) = _ := (f1 _ (nex hd hpl)).trans hd
  refine s_cons ?_; refine s_assign_sub rfl ?_; refine e_local rfl rfl rfl rfl ?_; refine e_attr rfl ?_; refine e_local rfl rfl rfl rfl ?_
  refine get_o hK (fun _ => by kernel_rfl) (.own hx hd) rfl rfl ?_
  refine e_local rfl rfl rfl rfl ?_
  obtain ⟨epm, hpmd⟩ := ok.pm
  have hcm : upd cc .pl (some (.list ((g.p0 :: g.prods.map (pV aProd)) ++ [pV aProd p]))) .pm = some (.dict (g.prods.map fun p => (mapText p.name p.body, pV aProd p)) epm) := by rw [upd_ne (by simp)]; exact (T.cE .pm (by simp) (by simp) (by simp)).trans hpmd
  have hpm := G1.get hcm
  rw [T.adrE .pm (by simp)] at hpm
  refine setItem_dict' hpm (by simp; exact Nat.le_trans hnum (by decide)) (fun m2 ep2 h2 f2 => ?_)
  have hno : getA (g.prods.map fun p => (mapText p.name p.body, pV aProd p)) map = none := by
    unfold getA
    rw [Option.map_eq_none_iff, List.find?_eq_none]
    intro z hz q
    obtain ⟨p', hp', rfl⟩ := List.mem_map.mp hz
    exact hm p' hp' (of_decide_eq_true q)
  rw [stA_new hno] at h2
  have G2 := G1.set (r := .pm) hcm (by rw [T.adrE .pm (by simp)]; exact h2) (by rw [T.adrE .pm (by simp)]; exact f2)
  have look : ∀ {r x}, (∀ k, r ≠ .noL k) → (∀ k, r ≠ .teL k) → r ≠ .no → r ≠ .pl → r ≠ .pm → c0 r = some x → m2 (adr0 r) = some x := fun {r x} a1 a2 a3 a4 a5 e => by
    have := G2.get (r := r) (x := x) (by rw [upd_ne a5, upd_ne a4]; exact (T.cE r a1 a2 a3).trans e)
    rwa [T.adrE r a1] at this
  have hx := look (by simp) (by simp) (by simp) (by simp) (by simp) ok.self
  have hd := look (by simp) (by simp) (by simp) (by simp) (by simp) hdict
  refine s_cons ?_
  obtain ⟨epp, hpnd⟩ := ok.pn
  have hcn : (upd (upd cc .pl (some (.list ((g.p0 :: g.prods.map (pV aProd)) ++ [pV aProd p])))) .pm (some (.dict ((g.prods.map fun p => (mapText p.name p.body, pV aProd p)) ++ [(map, pV aProd p)]) ep2))) .pn = some (.dict (g.pn.map fun k => (k, .ref (adr0 (.pnL k)))) epp) := by
    rw [upd_ne (by simp), upd_ne (by simp)]; exact (T.cE .pn (by simp) (by simp) (by simp)).trans hpnd
  have hpnm := G2.get hcn
  rw [T.adrE .pn (by simp)] at hpnm
  by_cases hin : name ∈ g.pn
  · refine s_try1 (T := "KeyError") (fun _ _ => False) f kr_isExc_KeyError kr_notTuple_KeyError (by rw [isSubtype_type]; kernel_rfl) rfl rfl rfl rfl (by decide) (by rw [hK]; rfl) PyProof.Rows.Boot.«KeyError» (by decide) ?_ (fun _ _ _ z => z.elim)
    (refine nameQ ?_; intro qq ee; refine s_cons ?_); refine s_expr rfl rfl ?_; refine c_meth rfl ?_; refine e_sub (fun _ _ => rfl) ?_; refine e_attr rfl ?_; refine e_local rfl rfl rfl rfl ?_
    refine get_o hK (fun _ => by kernel_rfl) (.own hx hd) rfl rfl ?_
    refine e_local rfl rfl rfl rfl ?_
    refine sub_dict hpnm (by rw [keys_look g.pn (fun k => V.ref (adr0 (.pnL k))), if_pos hin]) ?_
    have hl1 := look (r := .pnL name) (by simp) (by simp) (by simp) (by simp) (by simp) (by rw [ok.pnL, if_pos hin])
    refine m_builtin (.list hl1) PySem.F.plainAttrs_list PySem.F.slot_list_append PySem.F.type_list_append rfl rfl ?_
    refine a_cons rfl ?_; refine e_local rfl rfl rfl rfl ?_; refine a_nil ?_
    refine append_own' hl1 (by simp; exact Nat.le_trans (List.length_filter_le _ _) (Nat.le_trans hnum (by decide))) (fun m3 h3 f3 => ?_)
    refine s_nil ?_; refine s_nil ?_
    have hcl : upd (upd cc .pl (some (.list ((g.p0 :: g.prods.map (pV aProd)) ++ [pV aProd p])))) .pm (some (.dict ((g.prods.map fun p => (mapText p.name p.body, pV aProd p)) ++ [(map, pV aProd p)]) ep2)) (.pnL name) = some (.list ((g.prods.filter fun p => p.name = name).map (pV aProd))) := by
      rw [upd_ne (by simp), upd_ne (by simp)]; refine (T.cE _ (by simp) (by simp) (by simp)).trans ?_; rw [ok.pnL, if_pos hin]
    have eA : adr (.pnL name) = adr0 (.pnL name) := T.adrE _ (by simp)
    have G3 := G2.set hcl (by rw [eA]; exact h3) (by rw [eA]; exact f3)
    obtain ⟨gm', M', hsub⟩ := G3.done
    refine h _ _ gm' ?_ hsub
    rw [if_pos hin, ← hp]
    refine ⟨_, _, M', GOk.add ok T (fun _ _ => rfl) (fun r a1 a2 a3 a4 => by rw [upd_ne (a4 name), upd_ne a2, upd_ne a1]) ?_ ⟨ep2, ?_⟩ ⟨epp, ?_⟩ (fun k => ?_), T.adrE _ (by simp)⟩
    · rw [upd_ne (by simp), upd_ne (by simp), upd_self]; simp
    · rw [upd_ne (by simp), upd_self]; simp [hpm1]
    · rw [upd_ne (by simp), hcn]
      exact congrArg (fun z => some (AObj.dict z epp)) (List.map_congr_left fun k _ => by rw [T.adrE _ (by simp)])
    · by_cases e : k = name
      · subst e
        rw [upd_self, if_pos hin, List.filter_append]
        simp [hpn1]
      · rw [upd_ne (by simpa using e), upd_ne (by simp), upd_ne (by simp), T.cE _ (by simp) (by simp) (by simp), ok.pnL, List.filter_append]
        have : ¬ p.name = k := fun q => e (by rw [← q, hpn1])
        simp [this]
  · refine s_try1 (T := "KeyError") (fun l m => LSub (("p", pV aProd p) :: addL (adr0 .self) sy name map prec func file line (.int n)) l ∧ m = m2) f kr_isExc_KeyError kr_notTuple_KeyError (by rw [isSubtype_type]; kernel_rfl) rfl rfl rfl rfl (by decide) (by rw [hK]; rfl) PyProof.Rows.Boot.«KeyError» (by decide) ?_ ?_
    · (refine nameQ ?_; intro qq ee; refine s_cons ?_); refine s_expr rfl rfl ?_; refine c_meth rfl ?_; refine e_sub (fun _ _ => rfl) ?_; refine e_attr rfl ?_; refine e_local rfl rfl rfl rfl ?_
      refine get_o hK (fun _ => by kernel_rfl) (.own hx hd) rfl rfl ?_
      refine e_local rfl rfl rfl rfl ?_
      refine sub_none hpnm (by rw [keys_look g.pn (fun k => V.ref (adr0 (.pnL k))), if_neg hin]) cd.handled ⟨rfl, rfl, rfl⟩
    · rintro e l m ⟨hl, rfl⟩
      refine Tr.locs hl ?_
      (refine nameS ?_; intro aa vv oo qq ee; refine s_cons ?_); refine s_assign_sub rfl ?_; refine e_list ?_; refine a_cons rfl ?_; refine e_local rfl rfl rfl rfl ?_; refine a_nil ?_
      refine new_own' (show 1 ≤ sizeLine by decide) (fun a m3 ha h3 f3 => ?_)
      have hx : m3 (adr0 .self) = _ := (f3 _ (nex hx ha)).trans hx
      have hd : m3 (adr0 .dict) = _ := (f3 _ (nex hd ha)).trans hd
      have hpnm : m3 (adr0 .pn) = _ := (f3 _ (nex hpnm ha)).trans hpnm
      refine e_attr rfl ?_; refine e_local rfl rfl rfl rfl ?_
      refine get_o hK (fun _ => by kernel_rfl) (.own hx hd) rfl rfl ?_
      refine e_local rfl rfl rfl rfl ?_
      refine setItem_dict' hpnm (by simp; exact Nat.le_trans hpz (by decide)) (fun m4 ep4 h4 f4 => ?_)
      refine s_nil ?_; refine s_nil ?_
      have hcl : upd (upd cc .pl (some (.list ((g.p0 :: g.prods.map (pV aProd)) ++ [pV aProd p])))) .pm (some (.dict ((g.prods.map fun p => (mapText p.name p.body, pV aProd p)) ++ [(map, pV aProd p)]) ep2)) (.pnL name) = none := by
        rw [upd_ne (by simp), upd_ne (by simp)]; refine (T.cE _ (by simp) (by simp) (by simp)).trans ?_; rw [ok.pnL, if_neg hin]
      have G3 := G2.new hcl ha h3 f3
      have eA : upd adr (.pnL name) a .pn = adr0 .pn := by rw [upd_ne (by simp)]; exact T.adrE _ (by simp)
      have hcn2 := (upd_ne (f := upd (upd cc .pl (some (.list ((g.p0 :: g.prods.map (pV aProd)) ++ [pV aProd p])))) .pm (some (.dict ((g.prods.map fun p => (mapText p.name p.body, pV aProd p)) ++ [(map, pV aProd p)]) ep2))) (r := .pnL name) (r' := .pn) (y := some (.list [pV aProd p])) (by simp)).trans hcn
      have G4 := G3.set hcn2 (by rw [eA]; exact h4) (by rw [eA]; exact f4)
      obtain ⟨gm', M', hsub⟩ := G4.done
      refine h _ _ gm' ?_ hsub
      rw [if_neg hin, ← hp]
      refine ⟨_, _, M', GOk.add ok T (fun r a1 => upd_ne (a1 name)) (fun r a1 a2 a3 a4 => by rw [upd_ne a3, upd_ne (a4 name), upd_ne a2, upd_ne a1]) ?_ ⟨ep2, ?_⟩ ⟨ep4, ?_⟩ (fun k => ?_), by rw [upd_ne (by simp)]; exact T.adrE _ (by simp)⟩
      · rw [upd_ne (by simp), upd_ne (by simp), upd_ne (by simp), upd_self]; simp
      · rw [upd_ne (by simp), upd_ne (by simp), upd_self]; simp [hpm1]
      · have hg : getA (g.pn.map fun k => (k, V.ref (adr0 (.pnL k)))) name = none := by rw [keys_look g.pn (fun k => V.ref (adr0 (.pnL k))), if_neg hin]
        rw [upd_self, stA_new hg, List.map_append]
        refine congrArg (fun z => some (AObj.dict z ep4)) (congr (congrArg _ (List.map_congr_left fun k hk => ?_)) ?_)
        · rw [upd_ne (by intro q; cases q; exact hin hk), T.adrE _ (by simp)]
        · simp [upd]
      · by_cases e : k = name
        · subst e
          rw [upd_ne (by simp), upd_self, if_pos (by simp), List.filter_append]
          have : g.prods.filter (fun p => decide (p.name = k)) = [] := by
            rw [List.filter_eq_nil_iff]; intro q hq z; exact hin (of_decide_eq_true z ▸ hpn q hq)
          rw [this]
          simp [hpn1]
        · rw [upd_ne (by simp), upd_ne (by simpa using e), upd_ne (by simp), upd_ne (by simp), T.cE _ (by simp) (by simp) (by simp), ok.pnL, List.filter_append]
          have : ¬ p.name = k := fun q => e (by rw [← q, hpn1])
          simp [this, e]
end
end Mine
end
section
set_option autoImplicit false
namespace Mine
section
variable {W : Wd} {A : Around} {env : Env} {outer : Outs} {loc : Loc} {mem : Mem} {E : Ex W}
inductive P2F_J1 (sy : Addr) (gm : Mem) (name : Str) (syms : List Str) (adr : Rl → Addr) (k : Nat) (i : Nat) (l : Loc) (m : Mem) : Prop
  | mk (h1_ : k + i = syms.length) (h2_ : LSub [("self", .ref (adr .self)), ("prodname", .str name), ("syms", .ref sy), ("func", .none), ("file", .str ""), ("line", .int 0)] l) (h3_ : m = mset gm sy (.list (vStrs syms)))
theorem add_spec {g : GR} {a sy : Addr} {gm : Mem} {name : Str} {syms : List Str} {Q : V → Loc → Mem → Prop} (hK : W.K = hdK W.w.params) (c : Calm A 600 5000) (G : GMem aGrammar aProd g a gm) (hsy : gm sy = none)
    (hn : SymOk name) (hs : ∀ s ∈ syms, SymOk s) (hz : syms.length ≤ 100) (hne : name ≠ "error") (hnt : (g.te.lookup name) = none) (hpr : g.pr = []) (hmap : ∀ p ∈ g.prods, mapText p.name p.body ≠ mapText name syms)
    (hnum : g.prods.length ≤ 1000) (hf : Fits A env outer) (hpn : ∀ p ∈ g.prods, p.name ∈ g.pn) (hpz : g.pn.length ≤ 1000) (hlen : LenOk 900000 (g.te, g.no)) (h : ∀ m, GMem aGrammar aProd (addG g name syms (.tup [.str "right", .int 0]) .none (.str "") (.int 0)) a m → Q .none loc m) : OpV W A env outer (fun vs => call (.ref aAdd) vs) [.ref a, .str name, .ref sy] loc (mset gm sy (.list (vStrs syms))) Q E := by
  obtain ⟨adr, cc, M, ok, rfl⟩ := G
  refine call_fn (bs := [("self", .ref (adr .self)), ("prodname", .str name), ("syms", .ref sy), ("func", .none), ("file", .str ""), ("line", .int 0)]) (by rw [hK]; exact addP.at _) (by rw [hK]; first | rfl | kernel_rfl | decide +kernel) (c.room (by decide)) ?_ (by intro y hy; simp at hy; rcases hy with rfl | rfl | rfl | rfl | rfl | rfl <;> rfl) (by decide) rfl rfl rfl ?_
  · intro F s vs hb hk r
    cases r.view with
    | cons r1 r2 =>
      cases r2 with
      | cons r2 r3 =>
        cases r3 with
        | cons r3 r4 =>
          cases r4
          exact ⟨_, binds_K (T := 159) hk rfl (by rw [hK]; rfl) rfl rfl rfl, .cons r1 (.cons r2 (.cons r3 (.cons .none (.cons (.str _ _) (.cons (.int _ _) .nil)))))⟩
  · intro L outer
    have cd := c.deeper (envX "Grammar.add_production" addP.scope L aAdd addP.code [])
    obtain ⟨epd, hdict⟩ := ok.dict
    obtain ⟨ept, hted⟩ := ok.te
    have off : ∀ {z y} (xs : List V), gm z = some y → mset gm sy (.list xs) z = some y := fun {z y} xs e => by
      rw [mset_ne (nex e hsy)]; exact e
    have hx := off (vStrs syms) (M.get ok.self)
    have hd := off (vStrs syms) (M.get hdict)
    have ht := off (vStrs syms) (M.get hted)
    (refine nameS ?_; intro aa vv oo qq ee; refine s_cons ?_); refine s_if ?_; refine b_cmp rfl ?_; refine e_local rfl rfl rfl rfl ?_; refine e_attr rfl ?_; refine e_local rfl rfl rfl rfl ?_
    refine get_o hK (fun _ => by kernel_rfl) (.own hx hd) rfl rfl ?_
    skip
    refine in_dict ht ?_
    have hin : (getA (g.te.map fun q => (q.1, V.ref (adr (.teL q.1)))) name).isSome = false := by
      rw [getA_map g.te (fun k => V.ref (adr (.teL k))) name, if_neg]; rfl
      rw [← lookup_contains, hnt]; simp
    rw [hin]
    refine tr_bool ?_
    refine only_f ?_
    refine s_nil ?_; refine s_cons ?_; refine s_if ?_; refine b_cmp rfl ?_; refine e_local rfl rfl rfl rfl ?_; refine e_str ?_; refine eq_ss ?_; refine tr_bool ?_
    refine ⟨fun hb => (absurd (of_decide_eq_true hb) hne), fun _ => ?_⟩
    refine s_nil ?_; refine s_cons ?_; refine s_if ?_; refine b_not ?_; refine b_value rfl ?_; refine c_name rfl ?_; refine e_topG rfl rfl rfl rfl (by rw [hK]; rfl) ?_; refine c_top (by rw [hK]; rfl) rfl rfl ?_; refine a_cons rfl ?_; refine e_local rfl rfl rfl rfl ?_; refine a_nil ?_
    refine isId_spec hK (cd.mono (by decide) (by decide)) (Nat.le_trans hn.size (by omega)) ?_
    rw [hn.ident]
    refine tr_bool ?_
    refine only_f ?_
    refine s_nil ?_; refine s_cons ?_; refine s_for (fun _ => rfl) ?_; refine c_name rfl ?_; refine e_boot rfl rfl rfl rfl rfl (by rw [hK]; rfl) rfl (by decide) ?_; refine c_type rfl rfl ?_; refine a_cons rfl ?_; refine e_local rfl rfl rfl rfl ?_; refine a_nil ?_
    refine enum_own (mset_self _ _ _) (fun e he1 he2 => ?_)
    skip
    let J1 : Nat → Nat → Loc → Mem → Prop := P2F_J1 sy gm name syms adr
    refine for_k (itr_enum (b := true) cd.handled (.own (mset_self _ _ _)) he1 he2) J1 ?_ syms.length ⟨rfl, rfl, rfl⟩
    rintro k i l m ⟨hk, hl, rfl⟩
    have ei : enumItem (.ref sy) i (mset gm sy (.list (vStrs syms))) = some ((vStrs syms)[i]?.map fun y => .tup [.int i, y]) := by
      unfold enumItem seqNow
      simp only [mset_self, Option.bind_some]
      rw [if_pos (by rw [vStrs_len]; omega)]
    refine ⟨by rw [ei]; simp, fun hn1 => ?_, fun v hv => ?_⟩
    · rw [ei] at hn1
      refine Tr.locs hl ?_
      refine s_nil ?_; refine s_cons ?_; refine s_if ?_; refine b_cmp rfl ?_; refine e_str ?_; refine e_local rfl rfl rfl rfl ?_
      refine in_list (n := 0) (.own (mset_self _ _ _)) (by decide +kernel) (isD_strs (List.all_eq_true.mpr fun y hy => (hs y hy).ok)) (by decide) (cd.fit (by decide)) (fun b hb => ?_)
      have hbf : b = false := by
        cases b with
        | false => rfl
        | true => exact absurd rfl ((hs _ (vStrs_mem.mp (hb.mp rfl))).noPrec)
      subst hbf
      refine tr_bool ?_
      refine only_f ?_
      (refine nameQ ?_; intro qq ee; refine s_cons ?_); refine s_assign rfl ?_; refine c_name rfl ?_; refine e_topG rfl rfl rfl rfl (by rw [hK]; rfl) ?_; refine c_top (by rw [hK]; rfl) rfl rfl ?_; refine a_cons rfl ?_; refine e_local rfl rfl rfl rfl ?_; refine a_cons rfl ?_; refine e_attr rfl ?_; refine e_local rfl rfl rfl rfl ?_
      refine get_o hK (fun _ => by kernel_rfl) (.own hx hd) rfl rfl ?_
      refine a_nil ?_
      refine rmost_spec hK (cd.mono (by decide) (by decide)) (mset_self _ _ _) ht (by omega) ?_
      refine st_local rfl rfl ?_; refine s_cons ?_; refine s_assign rfl ?_; refine c_meth rfl ?_; refine e_attr rfl ?_; refine e_local rfl rfl rfl rfl ?_
      refine get_o hK (fun _ => by kernel_rfl) (.own hx hd) rfl rfl ?_
      skip
      obtain ⟨epp, hprd⟩ := ok.pr
      rw [hpr] at hprd
      have hp := off (vStrs syms) (M.get hprd)
      refine m_builtin (.dict hp) PySem.F.plainAttrs_dict PySem.F.slot_dict_get (by show builtinType _ = _; rw [builtinType_eq_fast]; kernel_rfl) rfl rfl ?_
      refine a_cons rfl ?_; refine e_local rfl rfl rfl rfl ?_; refine a_cons rfl ?_; refine e_tuple ?_; refine a_cons rfl ?_; refine e_str ?_; refine a_cons rfl ?_; refine e_int ?_; refine a_nil ?_
      refine new_tup (show 2 ≤ sizeLine by decide) ?_
      refine a_nil ?_
      have getP : ∀ {o : Option Str} {d : V} {Q : V → Loc → Mem → Prop} {A : Around} {env : Env} {outer : Outs} {loc : Loc} {E : Ex W}, Q d loc (mset gm sy (.list (vStrs syms))) → OpV W A env outer (fun vs => call (.builtin "dict.get") vs) [.ref (adr .pr), (match o with | some s => .str s | none => .none), d] loc (mset gm sy (.list (vStrs syms))) Q E := fun {o} => by
        intro d Q A env outer loc E h
        cases o with
        | none => exact dict_get2_none hp h
        | some s => exact dict_get2 hp h
      refine getP ?_
      refine st_local rfl rfl ?_; refine s_nil ?_; refine s_cons ?_; refine s_assign rfl ?_; refine e_joined ?_; refine e_fv_s ?_; refine e_local rfl rfl rfl rfl ?_
      refine show_str (Nat.le_trans hn.size (by decide)) ?_
      have l4 : (Str.ofString " -> ").length = 4 := by decide +kernel
      have hn' : name.length ≤ 100 := hn.size
      have hsl : (2000000 : Nat) ≤ sizeLine := by decide
      have hsh := strs_len (fun y hy => ⟨(hs y hy).size, (hs y hy).ok⟩) hz
      refine ⟨_, rfl, by rw [empty_app]; omega, ?_⟩
      refine e_str ?_
      refine ⟨_, rfl, by rw [empty_app, len_app, l4]; omega, ?_⟩
      refine e_fv_s ?_; refine e_local rfl rfl rfl rfl ?_
      have eaa : aa.units = (A.deeper (envX "Grammar.add_production" addP.scope L aAdd addP.code [])).units := rfl
      refine show_list (n := 0) cd.guards (.own (mset_self _ _ _)) (isD_strs (List.all_eq_true.mpr fun y hy => (hs y hy).ok)) (by rw [toPy_strs]; exact Nat.lt_of_le_of_lt (Nat.le_trans (Nat.add_le_add_right (Nat.add_le_add_left (strs_depth syms) _) 5) (by omega)) (cd.fit (by decide))) (by rw [toPy_strs]; omega) (by rw [toPy_strs]; exact strs_showable _) (by rw [toPy_strs]; exact strs_noDict _) ?_
      rw [toPy_strs]
      refine ⟨_, rfl, by rw [empty_app, len_app, len_app, l4]; omega, ?_⟩
      refine st_local rfl rfl ?_; refine s_cons ?_; refine s_if ?_; refine b_cmp rfl ?_; refine e_local rfl rfl rfl rfl ?_; refine e_attr rfl ?_; refine e_local rfl rfl rfl rfl ?_
      refine get_o hK (fun _ => by kernel_rfl) (.own hx hd) rfl rfl ?_
      skip
      obtain ⟨epm, hpmd⟩ := ok.pm
      have hpm := off (vStrs syms) (M.get hpmd)
      refine in_dict hpm ?_
      have hmn : (getA (g.prods.map fun p => (mapText p.name p.body, pV aProd p)) (mapText name syms)).isSome = false := by
        unfold getA
        rw [Option.isSome_map]
        rw [Bool.eq_false_iff]
        intro q
        obtain ⟨z, hz1, hz2⟩ := List.find?_isSome.mp q
        obtain ⟨p, hp, rfl⟩ := List.mem_map.mp hz1
        exact hmap p hp (of_decide_eq_true hz2)
      have emap : Str.empty ++ name ++ Str.ofString " -> " ++ (PyData.list (List.map PyData.str syms)).shown = mapText name syms := by rw [empty_app]; rfl
      rw [emap, hmn]
      refine tr_bool ?_
      refine only_f ?_
      refine s_nil ?_; refine s_cons ?_; refine s_assign rfl ?_; refine c_name rfl ?_; refine e_boot rfl rfl rfl rfl rfl (by rw [hK]; rfl) rfl (by decide) ?_; refine c_builtin rfl rfl ?_; refine a_cons rfl ?_; refine e_attr rfl ?_; refine e_local rfl rfl rfl rfl ?_
      refine get_o hK (fun _ => by kernel_rfl) (.own hx hd) rfl rfl ?_
      refine a_nil ?_
      have hpl := off (vStrs syms) (M.get ok.pl)
      refine len_sq (.own hpl) (by simp; omega) ?_
      refine st_local rfl rfl ?_
      refine s_cons ?_
      have G0 : GS adr cc sy (.list (vStrs syms)) (mset gm sy (.list (vStrs syms))) := ⟨gm, rfl, M, hsy⟩
      have T0 : TN adr cc adr cc g.te g.no := ⟨fun _ _ => rfl, fun _ _ _ _ => rfl, ok.te, ok.teL, ok.no, ok.noL⟩
      have hnum' : ((g.p0 :: g.prods.map (pV aProd)).length : Int) = (g.prods.length : Int) + 1 := by simp
      rw [hnum']
      refine add_know (name := name) (map := mapText name syms) (prec := .tup [.str "right", .int 0]) (func := .none) (file := .str "") (line := .int 0) (num := .int ((g.prods.length : Int) + 1)) hK ok G0 T0 (rfl) (by have := hlen.1; dsimp only at this; omega) (fun l m adr1 cc1 hl G1 T1 => ?_)
      refine s_cons ?_
      refine add_loop hK cd.handled ok G1 T1 hl ⟨?_, fun k ns e => ?_, fun k ns e => ?_⟩ (by omega) (fun l m adr2 cc2 hl G2 T2 => ?_)
      · have := @known_size g.no name; have h1 := hlen.1; dsimp only at h1 ⊢; omega
      · have := hlen.2.1 k ns e; omega
      · have := known_len hlen.2.2 k ns e; omega
      refine add_end hK (cd.mono (by decide) (by decide)) (hf.deeper rfl rfl) ok G2 T2 hl hn.size (by omega) (fun y hy => ⟨(hs y hy).size, (hs y hy).ok⟩) ⟨rfl, rfl, rfl, rfl⟩ rfl hmap hnum hpn hpz (fun l m gm' Gf hsub => ?_)
      exact ⟨gm', hsub, h gm' Gf⟩
    · rw [ei] at hv
      obtain ⟨y, rfl, hy1⟩ : ∃ y, v = .tup [.int i, .str y] ∧ syms[i]? = some y := by
        unfold vStrs at hv
        rw [List.getElem?_map] at hv
        cases e : syms[i]? with
        | none => rw [e] at hv; cases hv
        | some y => rw [e] at hv; cases hv; exact ⟨y, rfl, rfl⟩
      have hlt : i < syms.length := by rw [List.getElem?_eq_some_iff] at hy1; exact hy1.1
      have hok := hs y (List.mem_of_getElem? hy1)
      obtain ⟨ch, hch⟩ : ∃ ch, y.cps[0]? = some ch := ⟨y.cps[0]'hok.pos, Array.getElem?_eq_getElem hok.pos⟩
      refine Op.locs hl ?_
      refine   asg_tuple     (by       first       | assumption       | exact Calm.handled (by assumption))     rfl rfl ?_; refine asg_name ?_; refine st_local rfl rfl ?_; refine asg_name ?_; refine st_local rfl rfl ?_; (refine nameQ ?_; intro qq ee; refine s_cons ?_); refine s_if ?_; refine b_cmp rfl ?_; refine e_sub (fun _ _ => rfl) ?_; refine e_local rfl rfl rfl rfl ?_; refine e_int ?_
      refine sub_str (i := 0) (by decide) (c := ch) ?_ ?_
      · have hl : (0 : Nat) < y.length := hok.pos
        have : seqIndex? 0 y.length = some 0 := by unfold seqIndex?; simp [hl]
        rw [this]; exact hch
      refine e_str ?_; refine in_ss ?_; refine tr_bool ?_
      rw [hok.noQuote ch hch]
      skip
      refine only_f ?_
      refine s_nil ?_; refine s_cons ?_; refine s_if ?_; refine b_bool ?_; refine b_and_cons ?_; refine b_not ?_; refine b_value rfl ?_; refine c_name rfl ?_; refine e_topG rfl rfl rfl rfl (by rw [hK]; rfl) ?_; refine c_top (by rw [hK]; rfl) rfl rfl ?_; refine a_cons rfl ?_; refine e_local rfl rfl rfl rfl ?_; refine a_nil ?_
      refine isId_spec hK (cd.mono (by decide) (by decide)) (Nat.le_trans hok.size (by omega)) ?_
      rw [hok.ident]
      refine tr_bool ?_
      refine only_f ?_
      refine only_f ?_
      refine s_nil ?_; refine s_nil ?_
      exact ⟨k - 1, (kst hk hlt).1, (kst hk hlt).2, rfl, rfl⟩
end
end Mine
end
section
set_option autoImplicit false
namespace Mine
noncomputable def dend : Str := "$end"
noncomputable def TT (g : GR) : List Str := g.te.map (·.1) ++ [dend]
noncomputable def NN (g : GR) : List Str := g.no.map (·.1)
structure GWf (g : GR) : Prop where
  nodup : (TT g ++ NN g).Nodup
  tok : ∀ t ∈ TT g, PyData.strOk t = true
  noeps : eps ∉ TT g
  tz : g.te.length ≤ 100
  nz : g.no.length ≤ 100
  syms : ∀ p ∈ g.prods, ∀ x ∈ p.body, x ∈ TT g ++ NN g
  names : ∀ p ∈ g.prods, p.name ∈ NN g
  pn : ∀ n ∈ NN g, n ∈ g.pn
  blen : ∀ p ∈ g.prods, p.body.length ≤ 100
  pz : g.prods.length ≤ 1000
structure FiOk (g : GR) (fi : List (Str × List Str)) : Prop where
  keys : fi.map (·.1) = TT g ++ NN g
  term : ∀ t ∈ TT g, fi.lookup t = some [t]
  nod : ∀ n ∈ NN g, (atL fi n).Nodup
  snd : ∀ x, ∀ f ∈ atL fi x, Fst g.prods (TT g) f [x]
noncomputable def Closed (g : GR) (fi : List (Str × List Str)) (p : Pr) : Prop := ∀ f ∈ firstOf (atL fi) [] p.body, f ∈ atL fi p.name
section
variable {g : GR} {fi : List (Str × List Str)}
theorem FiOk.has (K : FiOk g fi) {x : Str} (hx : x ∈ TT g ++ NN g) : (fi.lookup x).isSome = true := by
  rw [lookup_contains, List.contains_iff_mem, K.keys]; exact hx
theorem FiOk.kind (K : FiOk g fi) {x f : Str} (hf : f ∈ atL fi x) : f ∈ eps :: TT g := by
  rcases (K.snd x f hf).kind with h | h
  · rw [h]; exact .head _
  · exact .tail _ h
theorem FiOk.ok (K : FiOk g fi) (w : GWf g) {x f : Str} (hf : f ∈ atL fi x) : PyData.strOk f = true := by
  rcases List.mem_cons.mp (K.kind hf) with h | h
  · rw [h]; decide +kernel
  · exact w.tok f h
theorem FiOk.len (K : FiOk g fi) (w : GWf g) (x : Str) : (atL fi x).length ≤ 102 := by
  by_cases h1 : x ∈ TT g
  · unfold atL; rw [K.term x h1]; simp
  by_cases h2 : x ∈ NN g
  · have := nodup_len (K.nod x h2) fun f hf => K.kind hf
    have e : (eps :: TT g).length = g.te.length + 2 := by simp [TT]
    rw [e] at this; have := w.tz; omega
  · unfold atL
    rw [tab_none (by rw [K.keys]; intro z; rcases List.mem_append.mp z with z | z <;> contradiction)]; simp
noncomputable def lack (g : GR) (fi : List (Str × List Str)) : Nat := lackOf (g.te.length + 2) (NN g) fi
theorem FiOk.push (K : FiOk g fi) (w : GWf g) {n f : Str} (hn : n ∈ NN g) (hf : f ∉ atL fi n) (hF : Fst g.prods (TT g) f [n]) : FiOk g (pushS fi n f) ∧ lack g (pushS fi n f) < lack g fi := by
  have hs := K.has (x := n) (List.mem_append_right _ hn)
  have hnT : n ∉ TT g := fun h => by
    have := List.nodup_append.mp w.nodup
    exact this.2.2 n h n hn rfl
  have K' : FiOk g (pushS fi n f) := ⟨by rw [pushS_keys]; exact K.keys, fun t ht => by rw [pushS_lookup, if_neg (fun e : t = n => hnT (e ▸ ht))]; exact K.term t ht, fun n' hn' => by
    rw [atL_push hs]
    split
    · rename_i e; subst e
      rw [List.nodup_append]
      exact ⟨K.nod _ hn', by simp, fun a ha b hb e => by rw [List.mem_singleton] at hb; subst hb; exact hf (e ▸ ha)⟩
    · exact K.nod _ hn', fun x f' hf' => by
    rw [atL_push hs] at hf'
    split at hf'
    · rename_i e; subst e
      rcases List.mem_append.mp hf' with h | h
      · exact K.snd _ _ h
      · rw [List.mem_singleton] at h; rw [h]; exact hF
    · exact K.snd _ _ hf'⟩
  refine ⟨K', lack_push hn hs ?_⟩
  have := nodup_len (K'.nod n hn) fun f hf => K'.kind hf
  rw [atL_push hs, if_pos rfl] at this
  have e : (eps :: TT g).length = g.te.length + 2 := by simp [TT]
  rw [e] at this; simp at this; omega
theorem FiOk.first (K : FiOk g fi) (w : GWf g) {p : Pr} (hp : p ∈ g.prods) {f : Str} (hf : f ∈ firstOf (atL fi) [] p.body) : Fst g.prods (TT g) f [p.name] := by
  have := ((mem_firstOf _ _ _ _).mp hf).resolve_left (by simp)
  have hb := FS.sound w.noeps K.snd this
  by_cases e : f = eps
  · subst e; exact .skip hp hb .eps
  · exact .rule hp hb e
end
section
variable {W : Wd} {A : Around} {outer : Outs} {loc : Loc} {m : Mem} {E : Ex W} {L : Addr} {g : GR} {adr0 adr : Rl → Addr} {c0 cc : Rl → Option AObj} {fi : List (Str × List Str)}
theorem strs_at {ys : List Str} {i : Nat} {v : V} (h : (vStrs ys)[i]? = some v) : ∃ y, v = .str y ∧ ys[i]? = some y := by
  unfold vStrs at h
  rw [List.getElem?_map] at h
  cases e : ys[i]? with
  | none => rw [e] at h; cases h
  | some y => rw [e] at h; exact ⟨y, (Option.some.inj h).symm, rfl⟩
inductive CfI (g : GR) (adr0 : Rl → Addr) (c0 : Rl → Option AObj) (fi0 fi : List (Str × List Str)) (b : Bool) (m : Mem) : Prop
  | mk (gm : Mem) (adr : Rl → Addr) (c : Rl → Option AObj) (h1_ : Sub gm m) (h2_ : MemIs adr c gm) (h3_ : FIx adr0 c0 adr c fi) (h4_ : FiOk g fi) (h5_ : b = true → lack g fi < lack g fi0) (h6_ : b = false → fi = fi0)
inductive P2J_J1 (g : GR) (adr0 : Rl → Addr) (c0 : Rl → Option AObj) (k : Nat) (l : Loc) (m : Mem) : Prop
  | mk (h1_ : LSub [("self", .ref (adr0 .self))] l) (fi : _) (h2_ : CfI g adr0 c0 fi fi false m) (h3_ : k = lack g fi)
inductive P2J_J2 (g : GR) (adr0 : Rl → Addr) (c0 : Rl → Option AObj) (fi0 : List (Str × List Str)) (k : Nat) (i : Nat) (l : Loc) (m : Mem) : Prop
  | mk (h1_ : k + i = g.no.length) (b : _) (fi : _) (h2_ : LSub [("self", .ref (adr0 .self)), ("some_change", .bool b)] l) (h3_ : CfI g adr0 c0 fi0 fi b m) (h4_ : (b = false → ∀ n ∈ (NN g).take i, ∀ p ∈ g.prods, p.name = n → Closed g fi p))
inductive P2J_J3 (g : GR) (adr0 : Rl → Addr) (c0 : Rl → Option AObj) (fi0 : List (Str × List Str)) (i : Nat) (n : Str) (k' : Nat) (j : Nat) (l : Loc) (m : Mem) : Prop
  | mk (h1_ : k' + j = (g.prods.filter fun p => p.name = n).length) (b : _) (fi : _) (h2_ : LSub [("self", .ref (adr0 .self)), ("n", .str n), ("some_change", .bool b)] l) (h3_ : CfI g adr0 c0 fi0 fi b m) (h4_ : (b = false → (∀ n ∈ (NN g).take i, ∀ p ∈ g.prods, p.name = n → Closed g fi p) ∧ ∀ p ∈ (g.prods.filter fun p => p.name = n).take j, Closed g fi p))
inductive P2J_J4 (g : GR) (adr0 : Rl → Addr) (c0 : Rl → Option AObj) (fi0 : List (Str × List Str)) (n : Str) (b : Bool) (fi : List (Str × List Str)) (p : Pr) (ar : Addr) (fl : List Str) (k2 : Nat) (t : Nat) (l : Loc) (m : Mem) : Prop
  | mk (h1_ : k2 + t = fl.length) (b1 : _) (fi1 : _) (adr1 : _) (c1 : _) (gm1 : _) (h2_ : LSub [("self", .ref (adr0 .self)), ("n", .str n), ("some_change", .bool b1), ("p", pV aProd p)] l) (h3_ : Sub gm1 m) (h4_ : GS adr1 c1 ar (.list (vStrs fl)) gm1) (h5_ : FIx adr0 c0 adr1 c1 fi1) (h6_ : FiOk g fi1) (h7_ : (b1 = true → lack g fi1 < lack g fi0)) (h8_ : (b1 = false → fi1 = fi0 ∧ fi = fi0 ∧ b = false ∧ ∀ f ∈ fl.take t, f ∈ atL fi1 n))
theorem cf_while {Q : Fl → Loc → Mem → Prop} (hK : W.K = hdK W.w.params) (cd : Calm A 700 6000) (ok : GOk aGrammar aProd adr0 c0 g) (w : GWf g) (M : MemIs adr cc m) (X : FIx adr0 c0 adr cc fi) (K : FiOk g fi) (hl : LSub [("self", .ref (adr0 .self))] loc)
    (h : ∀ l m gm adr1 c1 fi1, LSub [("self", .ref (adr0 .self))] l → Sub gm m → MemIs adr1 c1 gm → FIx adr0 c0 adr1 c1 fi1 → FiOk g fi1 → (∀ p ∈ g.prods, Closed g fi1 p) → Q .next l m) :
    TrS W A (cfE L) outer (exec (compFirst.body.getD 4 (.Pass ⟨0, 0, 0, 0⟩)) (cfE L)) loc m Q E := by
  let J1 : Nat → Loc → Mem → Prop := P2J_J1 g adr0 c0
  refine s_while J1 ?_ (lack g fi) ⟨hl, fi, ⟨m, adr, cc, sub_refl _, M, X, K, (by simp), fun _ => rfl⟩, rfl⟩
  rintro k l m ⟨hl, fi0, ⟨gm, adr, cc, hsub, M, X, K0, _, _⟩, rfl⟩
  obtain ⟨epd, hdict⟩ := ok.dict
  obtain ⟨epn, hnoT⟩ := ok.no
  have hx := X.at M (by simp) (by simp) ok.self
  have hd := X.at M (by simp) (by simp) hdict
  have hno := X.at M (by simp) (by simp) hnoT
  refine Tr.memS hsub (Tr.locs hl ?_)
  refine b_value rfl ?_; refine e_bool ?_; refine tr_bool ?_
  refine only_t ?_
  (refine nameQ ?_; intro qq ee; refine s_cons ?_); refine s_assign rfl ?_; refine e_bool ?_; refine st_local rfl rfl ?_; refine s_cons ?_; refine s_for (fun _ => rfl) ?_; refine e_attr rfl ?_; refine e_local rfl rfl rfl rfl ?_
  refine get_o hK (fun _ => by kernel_rfl) (.own hx hd) rfl rfl ?_
  skip
  -- the names
  let J2 : Nat → Nat → Loc → Mem → Prop := P2J_J2 g adr0 c0 fi0
  refine for_k (itr_dict cd.handled hno) J2 ?_ g.no.length ⟨rfl, false, fi0, rfl, ⟨gm, adr, cc, sub_refl _, M, X, K0, (by simp), fun _ => rfl⟩, by simp⟩
  rintro k i l m ⟨hk, b, fi, hl, ⟨gm, adr, cc, hsub, M, X, K, hb1, hb0⟩, hcl⟩
  have hx := X.at M (by simp) (by simp) ok.self
  have hd := X.at M (by simp) (by simp) hdict
  have hno := X.at M (by simp) (by simp) hnoT
  have ei := keyItem_eq (i := i) (hsub _ _ hno) rfl
  refine ⟨by rw [ei]; simp, fun hn1 => ?_, fun v hv => ?_⟩
  · rw [ei] at hn1
    have hn1 := Option.some.inj hn1
    rw [Option.map_eq_none_iff, List.getElem?_eq_none_iff, List.length_map] at hn1
    obtain rfl : i = g.no.length := by omega
    refine Tr.locs hl ?_
    refine s_nil ?_; refine s_cons ?_; refine s_if ?_; refine b_not ?_; refine b_value rfl ?_; refine e_local rfl rfl rfl rfl ?_; refine tr_bool ?_
    cases b with
    | true =>
      refine only_f ?_
      refine s_nil ?_; refine s_nil ?_
      exact ⟨_, hb1 rfl, rfl, fi, ⟨gm, adr, cc, hsub, M, X, K, (by simp), fun _ => rfl⟩, rfl⟩
    | false =>
      refine only_t ?_
      (refine nameQ ?_; intro qq ee; refine s_cons ?_); refine s_break ?_
      refine h _ _ gm adr cc fi (rfl) hsub M X K fun p hp => hcl rfl p.name ?_ p hp rfl
      have e : (NN g).take g.no.length = NN g := List.take_of_length_le (by simp [NN])
      rw [e]; exact w.names p hp
  · rw [ei] at hv
    have hv := Option.some.inj hv
    rw [List.getElem?_map] at hv
    cases hy : g.no[i]? with
    | none => rw [hy] at hv; cases hv
    | some q =>
      rw [hy] at hv
      obtain rfl : v = .str q.1 := by cases hv; rfl
      obtain ⟨n, nl⟩ := q
      dsimp only at hv ⊢
      have hlt : i < g.no.length := by rw [List.getElem?_eq_some_iff] at hy; exact hy.1
      have hn : n ∈ NN g := List.mem_map.mpr ⟨_, List.mem_of_getElem? hy, rfl⟩
      have hni : (NN g)[i]? = some n := by unfold NN; rw [List.getElem?_map, hy]; rfl
      obtain ⟨epp, hpnT⟩ := ok.pn
      have hpn := X.at M (by simp) (by simp) hpnT
      have hpnL := X.at M (r := .pnL n) (by simp) (by simp) (by rw [ok.pnL, if_pos (w.pn n hn)])
      refine Op.memS hsub (Op.locs hl ?_)
      refine asg_name ?_; refine st_local rfl rfl ?_; (refine nameQ ?_; intro qq ee; refine s_cons ?_); refine s_for (fun _ => rfl) ?_; refine e_sub (fun _ _ => rfl) ?_; refine e_attr rfl ?_; refine e_local rfl rfl rfl rfl ?_
      refine get_o hK (fun _ => by kernel_rfl) (.own hx hd) rfl rfl ?_
      refine e_local rfl rfl rfl rfl ?_
      refine sub_dict hpn (by rw [keys_look g.pn (fun k => V.ref (adr0 (.pnL k))), if_pos (w.pn n hn)]) ?_
      skip
      let J3 : Nat → Nat → Loc → Mem → Prop := P2J_J3 g adr0 c0 fi0 i n
      refine for_k (itr_own cd.handled hpnL) J3 ?_ (g.prods.filter fun p => p.name = n).length ⟨rfl, b, fi, rfl, ⟨gm, adr, cc, sub_refl _, M, X, K, hb1, hb0⟩, fun e => ⟨hcl e, by simp⟩⟩
      clear hcl hb1 hb0 hv hl hsub hpnL hpn hx hd hno ei M X K
      rintro k' j l m ⟨hk', b, fi, hl, ⟨gm, adr, cc, hsub, M, X, K, hb1, hb0⟩, hcl⟩
      have hx := X.at M (by simp) (by simp) ok.self
      have hd := X.at M (by simp) (by simp) hdict
      have hpnL := X.at M (r := .pnL n) (by simp) (by simp) (by rw [ok.pnL, if_pos (w.pn n hn)])
      have ej := ownItem_eq (i := j) (hsub _ _ hpnL)
      refine ⟨by rw [ej]; simp, fun hn1 => ?_, fun v hv => ?_⟩
      · rw [ej] at hn1
        have hn1 := Option.some.inj hn1
        rw [List.getElem?_map, Option.map_eq_none_iff, List.getElem?_eq_none_iff] at hn1
        obtain rfl : j = (g.prods.filter fun p => p.name = n).length := by omega
        refine Tr.locs hl ?_
        refine s_nil ?_; refine s_nil ?_
        refine ⟨k - 1, (kst hk hlt).1, (kst hk hlt).2, b, fi, rfl, ⟨gm, adr, cc, hsub, M, X, K, hb1, hb0⟩, fun e => ?_⟩
        obtain ⟨c1, c2⟩ := hcl e
        rw [List.take_length] at c2
        intro n' hn' p hp hpn
        rw [take_snoc hni] at hn'
        rcases List.mem_append.mp hn' with z | z
        · exact c1 n' z p hp hpn
        · rw [List.mem_singleton] at z; subst z
          exact c2 p (List.mem_filter.mpr ⟨hp, by simpa using hpn⟩)
      · rw [ej] at hv
        have hv := Option.some.inj hv
        rw [List.getElem?_map] at hv
        cases hp1 : (g.prods.filter fun p => p.name = n)[j]? with
        | none => rw [hp1] at hv; cases hv
        | some p =>
          rw [hp1] at hv
          obtain rfl : v = pV aProd p := by cases hv; rfl
          have hpm := List.mem_filter.mp (List.mem_of_getElem? hp1)
          have hp : p ∈ g.prods := hpm.1
          have hpname : p.name = n := by simpa using hpm.2
          have hjlt : j < (g.prods.filter fun p => p.name = n).length := by rw [List.getElem?_eq_some_iff] at hp1; exact hp1.1
          refine Op.memS hsub (Op.locs hl ?_)
          refine asg_name ?_; refine st_local rfl rfl ?_; (refine nameQ ?_; intro qq ee; refine s_cons ?_); refine s_for (fun _ => rfl) ?_; refine c_meth rfl ?_; refine e_local rfl rfl rfl rfl ?_
          refine m_own (.own hx hd) (by rw [hK]; first | rfl | kernel_rfl | decide +kernel) (by rw [hK]; first | rfl | kernel_rfl | decide +kernel) (by rw [hK]; first | rfl | kernel_rfl | decide +kernel) rfl (by rw [hK]; first | rfl | kernel_rfl | decide +kernel) rfl rfl ?_
          refine a_cons rfl ?_; refine e_attr rfl ?_; refine e_local rfl rfl rfl rfl ?_
          refine get_o hK (fun _ => by kernel_rfl) (.frz : Inst W gm (pV aProd p) _ _) rfl rfl ?_
          refine a_nil ?_
          have gok := X.gok ok
          refine first_spec (g := { g with fi := fi }) hK cd ⟨adr, cc, M, gok, X.adrE .self (by simp)⟩ (w.blen p hp) (fun x hx => K.has (w.syms p hp x hx)) (fun x => ⟨Nat.le_trans (K.len w x) (by omega), fun f hf => K.ok w hf⟩) (fun ar har => ?_)
          skip
          have hfirst : ∀ f ∈ firstOf (atL fi) [] p.body, Fst g.prods (TT g) f [n] := fun f hf => hpname ▸ K.first w hp hf
          have efl : firstOf (fiOf { g with fi := fi }) [] p.body = firstOf (atL fi) [] p.body := rfl
          rw [efl]
          generalize hfl : firstOf (atL fi) [] p.body = fl at *
          let J4 : Nat → Nat → Loc → Mem → Prop := P2J_J4 g adr0 c0 fi0 n b fi p ar fl
          refine for_k (itr_own cd.handled (mset_self gm ar _)) J4 ?_ fl.length ⟨rfl, b, fi, adr, cc, _, rfl, sub_refl _, ⟨gm, rfl, M, har⟩, X, K, hb1, fun e => ⟨hb0 e, hb0 e, e, by simp⟩⟩
          rintro k2 t l m ⟨hk2, b1, fi1, adr1, c1, gm1, hl, hsub, G, X1, K1, hc1, hc0⟩
          have el := ownItem_eq (i := t) (hsub _ _ G.side)
          refine ⟨by rw [el]; simp, fun hn1 => ?_, fun v hv => ?_⟩
          · rw [el] at hn1
            have hn1 := Option.some.inj hn1
            rw [List.getElem?_eq_none_iff, vStrs_len] at hn1
            obtain rfl : t = fl.length := by omega
            refine Tr.locs hl ?_
            refine s_nil ?_; refine s_nil ?_
            obtain ⟨gm2, M2, hs2⟩ := G.done
            refine ⟨k' - 1, (kst hk' hjlt).1, (kst hk' hjlt).2, b1, fi1, rfl, ⟨gm2, adr1, c1, fun a x e => hsub a x (hs2 a x e), M2, X1, K1, hc1, fun e => (hc0 e).1⟩, fun e => ?_⟩
            obtain ⟨e1, e2, e3, e4⟩ := hc0 e
            have e5 : fi = fi1 := e2.trans e1.symm
            obtain ⟨d1, d2⟩ := hcl e3
            rw [e5] at d1 d2 hfl
            refine ⟨d1, fun p' hp' => ?_⟩
            rw [take_snoc hp1] at hp'
            rcases List.mem_append.mp hp' with z | z
            · exact d2 p' z
            · rw [List.mem_singleton] at z; subst z
              intro f hf
              rw [hfl] at hf
              rw [hpname]
              exact e4 f (by rw [List.take_length]; exact hf)
          · rw [el] at hv
            obtain ⟨f, rfl, hf1⟩ := strs_at (Option.some.inj hv)
            have hfm : f ∈ fl := List.mem_of_getElem? hf1
            have htlt : t < fl.length := by rw [List.getElem?_eq_some_iff] at hf1; exact hf1.1
            have hat : ∀ {r x}, (∀ k, r ≠ .fiL k) → r ≠ .fi → c0 r = some x → gm1 (adr0 r) = some x := fun {r x} a1 a2 e => by
              have := G.get (r := r) ((X1.cE r a1 a2).trans e)
              rwa [X1.adrE r a1] at this
            have hx := hat (by simp) (by simp) ok.self
            have hd := hat (by simp) (by simp) hdict
            obtain ⟨epf, hfiT⟩ := X1.hfi
            have hfi := G.get hfiT
            rw [X1.adrE .fi (by simp)] at hfi
            obtain ⟨ns, hns⟩ := Option.isSome_iff_exists.mp (K1.has (x := n) (List.mem_append_right _ hn))
            have hat1 : atL fi1 n = ns := by unfold atL; rw [hns]; rfl
            have hcn : c1 (.fiL n) = some (.list (vStrs ns)) := by rw [X1.hfiL, hns]; rfl
            have hln := G.get hcn
            have hget : getA (fi1.map fun q => (q.1, V.ref (adr1 (.fiL q.1)))) n = some (.ref (adr1 (.fiL n))) := lookB (f := fun k => V.ref (adr1 (.fiL k))) (by rw [hns]; rfl)
            have hnsok : ns.all PyData.strOk = true := List.all_eq_true.mpr fun y hy => K1.ok w (x := n) (by rw [hat1]; exact hy)
            have hfok : PyData.strOk f = true := by
              rcases (hfirst f hfm).kind with z | z
              · rw [z]; decide +kernel
              · exact w.tok f z
            have hnz : ns.length ≤ 102 := by rw [← hat1]; exact K1.len w n
            refine Op.memS hsub (Op.locs hl ?_)
            refine asg_name ?_; refine st_local rfl rfl ?_; (refine nameQ ?_; intro qq ee; refine s_cons ?_); refine s_if ?_; refine b_cmp rfl ?_; refine e_local rfl rfl rfl rfl ?_; refine e_sub (fun _ _ => rfl) ?_; refine e_attr rfl ?_; refine e_local rfl rfl rfl rfl ?_
            refine get_o hK (fun _ => by kernel_rfl) (.own hx hd) rfl rfl ?_
            refine e_local rfl rfl rfl rfl ?_
            refine sub_dict hfi hget ?_
            skip
            refine notin_list (n := 0) (.own hln) hfok (isD_strs hnsok) (by decide) (cd.fit (by decide)) (fun bb hbb => ?_)
            refine tr_bool ?_
            refine ⟨fun hb => ?_, fun hb => ?_⟩
            · have hnf : f ∉ ns := fun q => by
                have := hbb.mpr (vStrs_mem.mpr q); rw [this] at hb; cases hb
              (refine nameQ ?_; intro qq ee; refine s_cons ?_); refine s_expr rfl rfl ?_; refine c_meth rfl ?_; refine e_sub (fun _ _ => rfl) ?_; refine e_attr rfl ?_; refine e_local rfl rfl rfl rfl ?_
              refine get_o hK (fun _ => by kernel_rfl) (.own hx hd) rfl rfl ?_
              refine e_local rfl rfl rfl rfl ?_
              refine sub_dict hfi hget ?_
              refine m_builtin (.list hln) PySem.F.plainAttrs_list PySem.F.slot_list_append PySem.F.type_list_append rfl rfl ?_
              refine a_cons rfl ?_; refine e_local rfl rfl rfl rfl ?_; refine a_nil ?_
              refine append_own' hln (by rw [vStrs_len]; exact Nat.le_trans hnz (by decide)) (fun m2 h2 f2 => ?_)
              refine s_cons ?_; refine s_assign rfl ?_; refine e_bool ?_; refine st_local rfl rfl ?_; refine s_nil ?_; refine s_nil ?_
              obtain ⟨K2, hlt2⟩ := K1.push w hn (f := f) (by rw [hat1]; exact hnf) (hfirst f hfm)
              refine ⟨k2 - 1, (kst hk2 htlt).1, (kst hk2 htlt).2, true, pushS fi1 n f, adr1, _, m2, rfl, sub_refl _, G.set hcn h2 f2, X1.push hns, K2, fun _ => ?_, by simp⟩
              cases b1 with
              | true => exact Nat.lt_trans hlt2 (hc1 rfl)
              | false => rw [(hc0 rfl).1] at hlt2 ⊢; exact hlt2
            · have hfn : f ∈ ns := vStrs_mem.mp (hbb.mp (by cases bb with | true => rfl | false => cases hb))
              refine s_nil ?_; refine s_nil ?_
              refine ⟨k2 - 1, (kst hk2 htlt).1, (kst hk2 htlt).2, b1, fi1, adr1, c1, gm1, rfl, sub_refl _, G, X1, K1, hc1, fun e => ?_⟩
              obtain ⟨e1, e2, e3, e4⟩ := hc0 e
              refine ⟨e1, e2, e3, fun f' hf' => ?_⟩
              rw [take_snoc hf1] at hf'
              rcases List.mem_append.mp hf' with z | z
              · exact e4 f' z
              · rw [List.mem_singleton] at z; subst z; rw [hat1]; exact hfn
end
end Mine
end
section
set_option autoImplicit false
namespace Mine
section
variable {W : Wd} {A : Around} {env : Env} {outer : Outs} {loc : Loc} {mem : Mem} {E : Ex W}
theorem look_app1 {β : Type} {l l' : List (Str × β)} {k : Str} {z : β} (h : l.lookup k = some z) : (l ++ l').lookup k = some z := by rw [lookup_append', h]; rfl
theorem look_self {l : List Str} {k : Str} (h : k ∈ l) : (l.map fun q => (q, [q])).lookup k = some [k] := by
  induction l with
  | nil => cases h
  | cons a l ih =>
    rw [List.map_cons, List.lookup_cons]
    by_cases e : k = a
    · subst e; simp
    · have e' : (k == a) = false := by simpa using e
      rw [e']
      exact ih ((List.mem_cons.mp h).resolve_left e)
theorem FiOk.start {g : GR} (w : GWf g) : FiOk g ((g.te.map fun q => (q.1, [q.1])) ++ [(dend, [dend])] ++ g.no.map fun q => (q.1, ([] : List Str))) := by
  have e1 : (g.te.map fun q => (q.1, [q.1])) ++ [(dend, [dend])] = (TT g).map fun q => (q, [q]) := by unfold TT; rw [List.map_append, List.map_map]; rfl
  have hT : ∀ t ∈ TT g, ((g.te.map fun q => (q.1, [q.1])) ++ [(dend, [dend])] ++ g.no.map fun q => (q.1, ([] : List Str))).lookup t = some [t] := fun t ht => by rw [e1]; exact look_app1 (look_self ht)
  have hN : ∀ x, x ∉ TT g → atL ((g.te.map fun q => (q.1, [q.1])) ++ [(dend, [dend])] ++ g.no.map fun q => (q.1, ([] : List Str))) x = [] := fun x hx => by
    unfold atL
    rw [lookup_append', e1, tab_none (l := (TT g).map fun q => (q, [q])) (by rw [List.map_map]; simpa using hx)]
    have : ∀ l : List (Str × List Int), ((l.map fun q => (q.1, ([] : List Str))).lookup x).getD [] = [] := fun l => by
      induction l with
      | nil => rfl
      | cons a l ih => rw [List.map_cons, List.lookup_cons]; split; · rfl
                       · exact ih
    exact this g.no
  refine ⟨?_, hT, fun n hn => ?_, fun x f hf => ?_⟩
  · rw [List.map_append, e1, List.map_map, List.map_map]
    have : ((fun q : Str × List Str => q.1) ∘ fun q : Str => (q, [q])) = id := rfl
    rw [this, List.map_id]; rfl
  · rw [hN n fun h => (List.nodup_append.mp w.nodup).2.2 n h n hn rfl]; exact List.nodup_nil
  · by_cases h : x ∈ TT g
    · unfold atL at hf
      rw [hT x h] at hf
      have : f = x := List.mem_singleton.mp hf
      subst this; exact .term h
    · rw [hN x h] at hf; cases hf
theorem cf_spec {g : GR} {a : Addr} {gm : Mem} {Q : V → Loc → Mem → Prop} (hK : W.K = hdK W.w.params) (c : Calm A 600 5000) (G : GMem aGrammar aProd g a gm) (w : GWf g) (h0 : g.fi = [])
    (h : ∀ m adr cc fi, MemIs adr cc m → GOk aGrammar aProd adr cc { g with fi := fi } → adr .self = a → FiOk g fi → (∀ p ∈ g.prods, Closed g fi p) → Q (.ref (adr .fi)) loc m) : OpV W A env outer (fun vs => call (.ref aCF) vs) [.ref a] loc gm Q E := by
  obtain ⟨adr, cc, M, ok, rfl⟩ := G
  refine call_fn (bs := [("self", .ref (adr .self))]) (by rw [hK]; exact compFirst.at _) (by rw [hK]; first | rfl | kernel_rfl | decide +kernel) (c.room (by decide)) ?_ (by intro y hy; simp at hy; rcases hy with rfl; rfl) (by decide) rfl rfl rfl ?_
  · intro F s vs hb hk r
    cases r.view with
    | cons r1 r2 =>
      cases r2.view
      exact ⟨_, BindsTo.of_eq rfl, .cons r1 .nil⟩
  · intro L outer
    have cd := c.deeper (cfE L)
    obtain ⟨epd, hdict⟩ := ok.dict
    obtain ⟨epf, hfi⟩ := ok.fi
    have hx := M.get ok.self
    have hd := M.get hdict
    have hf := M.get hfi
    (refine nameS ?_; intro aa vv oo qq ee; refine s_cons ?_); refine s_if ?_; refine b_value rfl ?_; refine e_attr rfl ?_; refine e_local rfl rfl rfl rfl ?_
    refine get_o hK (fun _ => by kernel_rfl) (.own hx hd) rfl rfl ?_
    skip
    refine tr_dict hf (by rw [h0]; exact (by decide : ((0 : Nat) : Int) < 2 ^ 63)) ?_
    rw [h0]
    skip
    refine only_f ?_
    refine s_nil ?_
    refine s_cons ?_
    have X0 : FIx adr cc adr cc [] := ⟨fun _ _ => rfl, fun _ _ _ => rfl, ⟨epf, by rw [hfi, h0]⟩, fun k => by rw [ok.fiL, h0]⟩
    have hl0 : LSub [("self", .ref (adr .self))] [("self", .ref (adr .self))] := rfl
    obtain ⟨n1, n2, n3⟩ := List.nodup_append.mp w.nodup
    obtain ⟨n4, n5, n6⟩ := List.nodup_append.mp n1
    have htz := w.tz
    have hnz := w.nz
    refine cf_terms hK cd.handled ok M X0 hl0 n4 (by simp) (by simp; omega) (fun l m adr1 c1 hl M1 X1 => ?_)
    rw [List.nil_append] at X1
    refine s_cons ?_
    refine Tr.locs hl ?_
    have hd1 : (g.te.map fun q => (q.1, [q.1])).lookup dend = none := tab_none (by rw [List.map_map]; exact fun z => n6 _ z dend (.head _) rfl)
    have hx := X1.at M1 (by simp) (by simp) ok.self
    have hd := X1.at M1 (by simp) (by simp) hdict
    obtain ⟨epf1, hfi1⟩ := X1.hfi
    have hf := M1.get hfi1
    rw [X1.adrE .fi (by simp)] at hf
    refine s_assign_sub rfl ?_; refine e_list ?_; refine a_cons rfl ?_; refine e_str ?_; refine a_nil ?_
    refine new_own' (show 1 ≤ sizeLine by decide) (fun b m1 ha h1 f1 => ?_)
    have hx : m1 (adr .self) = _ := (f1 _ (nex hx ha)).trans hx
    have hd : m1 (adr .dict) = _ := (f1 _ (nex hd ha)).trans hd
    have hf : m1 (adr .fi) = _ := (f1 _ (nex hf ha)).trans hf
    refine e_attr rfl ?_; refine e_local rfl rfl rfl rfl ?_
    refine get_o hK (fun _ => by kernel_rfl) (.own hx hd) rfl rfl ?_
    refine e_str ?_
    refine setItem_dict' hf (by rw [List.length_map, List.length_map]; exact Nat.le_trans htz (by decide)) (fun m2 ep2 h2 f2 => ?_)
    obtain ⟨adr2, c2, M2, X2⟩ := X1.store (ys := [dend]) M1 hd1 ha h1 f1 h2 f2
    refine s_cons ?_
    refine cf_names hK cd.handled ok M2 X2 (rfl) n2 (fun x hx hm => ?_) (by simp; omega) (fun l m adr3 c3 hl M3 X3 => ?_)
    · refine n3 x ?_ x hx rfl
      rw [List.map_append, List.map_map] at hm
      exact hm
    refine s_cons ?_
    refine cf_while hK (cd.mono (by decide) (by decide)) ok w M3 X3 (FiOk.start w) hl (fun l m gm4 adr4 c4 fi4 hl hsub M4 X4 K4 hcl => ?_)
    refine s_cons ?_
    refine Tr.memS hsub (Tr.locs hl ?_)
    have hx := X4.at M4 (by simp) (by simp) ok.self
    have hd := X4.at M4 (by simp) (by simp) hdict
    refine s_ret ?_; refine e_attr rfl ?_; refine e_local rfl rfl rfl rfl ?_
    refine get_o hK (fun _ => by kernel_rfl) (.own hx hd) rfl rfl ?_
    skip
    refine ⟨gm4, sub_refl _, ?_⟩
    have := h gm4 adr4 c4 fi4 M4 (X4.gok ok) (X4.adrE .self (by simp)) K4 hcl
    rw [X4.adrE .fi (by simp)] at this
    exact this
theorem cf_again {g : GR} {adr : Rl → Addr} {cc : Rl → Option AObj} {gm : Mem} {Q : V → Loc → Mem → Prop} (hK : W.K = hdK W.w.params) (c : Calm A 600 5000) (M : MemIs adr cc gm) (ok : GOk aGrammar aProd adr cc g) (h0 : g.fi ≠ []) (hz : g.fi.length ≤ 1000)
    (h : Q (.ref (adr .fi)) loc gm) : OpV W A env outer (fun vs => call (.ref aCF) vs) [.ref (adr .self)] loc gm Q E := by
  refine call_fn (bs := [("self", .ref (adr .self))]) (by rw [hK]; exact compFirst.at _) (by rw [hK]; first | rfl | kernel_rfl | decide +kernel) (c.room (by decide)) ?_ (by intro y hy; simp at hy; rcases hy with rfl; rfl) (by decide) rfl rfl rfl ?_
  · intro F s vs hb hk r
    cases r.view with
    | cons r1 r2 =>
      cases r2.view
      exact ⟨_, BindsTo.of_eq rfl, .cons r1 .nil⟩
  · intro L outer
    have cd := c.deeper (cfE L)
    obtain ⟨epd, hdict⟩ := ok.dict
    obtain ⟨epf, hfi⟩ := ok.fi
    have hx := M.get ok.self
    have hd := M.get hdict
    have hf := M.get hfi
    (refine nameS ?_; intro aa vv oo qq ee; refine s_cons ?_); refine s_if ?_; refine b_value rfl ?_; refine e_attr rfl ?_; refine e_local rfl rfl rfl rfl ?_
    refine get_o hK (fun _ => by kernel_rfl) (.own hx hd) rfl rfl ?_
    skip
    refine tr_dict hf (by rw [List.length_map]; omega) ?_
    have : (g.fi.map fun q => (q.1, V.ref (adr (.fiL q.1)))).isEmpty = false := by cases e : g.fi with | nil => exact absurd e h0 | cons _ _ => rfl
    rw [this]
    skip
    refine only_t ?_
    (refine nameQ ?_; intro qq ee; refine s_cons ?_); refine s_ret ?_; refine e_attr rfl ?_; refine e_local rfl rfl rfl rfl ?_
    refine get_o hK (fun _ => by kernel_rfl) (.own hx hd) rfl rfl ?_
    skip
    exact ⟨gm, sub_refl _, h⟩
end
end Mine
end
section
set_option autoImplicit false
namespace Mine
structure FOx (adr0 : Rl → Addr) (c0 : Rl → Option AObj) (adr : Rl → Addr) (c : Rl → Option AObj) (fi : List (Str × List Str)) : Prop where
  adrE : ∀ r, (∀ k, r ≠ .foL k) → adr r = adr0 r
  cE : ∀ r, (∀ k, r ≠ .foL k) → r ≠ .fo → c r = c0 r
  hfo : ∃ ep, c .fo = some (.dict (fi.map fun q => (q.1, .ref (adr (.foL q.1)))) ep)
  hfoL : ∀ k, c (.foL k) = (fi.lookup k).map fun ns => .list (vStrs ns)
variable {adr0 adr : Rl → Addr} {c0 c : Rl → Option AObj} {fi : List (Str × List Str)} {m m1 m2 : Mem}
theorem FOx.store {k : Str} {a : Addr} {ys : List Str} {ep2 : Nat} (M : MemIs adr c m) (X : FOx adr0 c0 adr c fi) (hk : fi.lookup k = none) (ha : m a = none) (h1 : m1 a = some (.list (vStrs ys))) (f1 : ∀ b, b ≠ a → m1 b = m b)
    (h2 : m2 (adr0 .fo) = some (.dict (stA (fi.map fun q => (q.1, .ref (adr (.foL q.1)))) k (.ref a)) ep2)) (f2 : ∀ b, b ≠ adr0 .fo → m2 b = m1 b) : ∃ adr' c', MemIs adr' c' m2 ∧ FOx adr0 c0 adr' c' (fi ++ [(k, ys)]) := by
  have hc : c (.foL k) = none := by rw [X.hfoL, hk]; rfl
  obtain ⟨ep, hfo⟩ := X.hfo
  have M1 := M.new hc ha h1 f1
  have e : upd adr (.foL k) a .fo = adr0 .fo := by rw [upd_ne (by simp)]; exact X.adrE _ (by simp)
  have M2 := M1.set (r := .fo) (x := .dict (fi.map fun q => (q.1, .ref (adr (.foL q.1)))) ep) (by rw [upd_ne (by simp)]; exact hfo) (by rw [e]; exact h2) (by rw [e]; exact f2)
  refine ⟨_, _, M2, ⟨fun r hr => by rw [upd_ne (hr k)]; exact X.adrE r hr, fun r hr h => by rw [upd_ne h, upd_ne (hr k)]; exact X.cE r hr h, ⟨ep2, ?_⟩, fun k' => ?_⟩⟩
  · rw [upd_self, stA_new (getA_none (f := fun k => V.ref (adr (.foL k))) hk), List.map_append]
    refine congrArg (fun z => some (AObj.dict z ep2)) (congr (congrArg _ (List.map_congr_left fun q hq => ?_)) ?_)
    · rw [upd_ne (by simpa using keys_ne hk q hq)]
    · simp [upd]
  · rw [upd_ne (by simp), lookup_snoc]
    by_cases e : k' = k
    · subst e; rw [upd_self, hk]; simp
    · rw [upd_ne (by simpa using e), X.hfoL]
      cases fi.lookup k' <;> simp [e]
theorem FOx.push {k y : Str} {ns : List Str} (X : FOx adr0 c0 adr c fi) (h : fi.lookup k = some ns) : FOx adr0 c0 adr (upd c (.foL k) (some (.list (vStrs ns ++ [.str y])))) (pushS fi k y) where
  adrE := X.adrE
  cE r a b := by rw [upd_ne (a k)]; exact X.cE r a b
  hfo := by
    obtain ⟨ep, e⟩ := X.hfo
    refine ⟨ep, ?_⟩
    rw [upd_ne (by simp), e]
    exact congrArg (fun z => some (AObj.dict z ep)) (pushS_refs fi k y (fun k => V.ref (adr (.foL k)))).symm
  hfoL k' := by
    rw [pushS_lookup]
    by_cases e : k' = k
    · subst e; rw [upd_self, if_pos rfl, h]; simp [vStrs]
    · rw [upd_ne (by simpa using e), if_neg e]; exact X.hfoL k'
theorem FOx.at (M : MemIs adr c m) {r : Rl} {x : AObj} (X : FOx adr0 c0 adr c fi) (h1 : ∀ k, r ≠ .foL k) (h2 : r ≠ .fo) (h : c0 r = some x) : m (adr0 r) = some x := by
  have := M.get (r := r) ((X.cE r h1 h2).trans h)
  rwa [X.adrE r h1] at this
theorem FOx.gok {C CP : Addr} {g : GR} (ok : GOk C CP adr0 c0 g) (X : FOx adr0 c0 adr c fi) : GOk C CP adr c { g with fo := fi } := by
  have e := X.adrE
  have h := X.cE
  exact {
    self := by rw [h _ (by simp) (by simp), e .dict (by simp)]; exact ok.self
    dict := by
      obtain ⟨ep, q⟩ := ok.dict
      exact ⟨ep, by rw [h _ (by simp) (by simp), q]; exact congrArg (fun z => some (AObj.dict z ep)) (gAttrs_eq fun r hr => e r fun _ => leaf_ne hr rfl).symm⟩
    pl := by rw [h _ (by simp) (by simp)]; exact ok.pl
    pn := by
      obtain ⟨ep, q⟩ := ok.pn
      exact ⟨ep, by rw [h _ (by simp) (by simp), q]; exact congrArg (fun z => some (AObj.dict z ep)) (List.map_congr_left fun q _ => by rw [e _ (by simp)])⟩
    pnL := fun k => by rw [h _ (by simp) (by simp)]; exact ok.pnL k
    pm := by rw [h _ (by simp) (by simp)]; exact ok.pm
    te := by
      obtain ⟨ep, q⟩ := ok.te
      exact ⟨ep, by rw [h _ (by simp) (by simp), q]; exact congrArg (fun z => some (AObj.dict z ep)) (List.map_congr_left fun q _ => by rw [e _ (by simp)])⟩
    teL := fun k => by rw [h _ (by simp) (by simp)]; exact ok.teL k
    no := by
      obtain ⟨ep, q⟩ := ok.no
      exact ⟨ep, by rw [h _ (by simp) (by simp), q]; exact congrArg (fun z => some (AObj.dict z ep)) (List.map_congr_left fun q _ => by rw [e _ (by simp)])⟩
    noL := fun k => by rw [h _ (by simp) (by simp)]; exact ok.noL k
    fi := by
      obtain ⟨ep, q⟩ := ok.fi
      exact ⟨ep, by rw [h _ (by simp) (by simp), q]; exact congrArg (fun z => some (AObj.dict z ep)) (List.map_congr_left fun q _ => by rw [e _ (by simp)])⟩
    fiL := fun k => by rw [h _ (by simp) (by simp)]; exact ok.fiL k
    fo := X.hfo
    foL := X.hfoL
    pr := by rw [h _ (by simp) (by simp)]; exact ok.pr
    up := by rw [h _ (by simp) (by simp)]; exact ok.up }
end Mine
end
section
set_option autoImplicit false
namespace Mine
noncomputable def GF (adr : Rl → Addr) (c : Rl → Option AObj) (R0 m : Mem) : Prop := ∃ gm, Dis gm R0 ∧ m = mun gm R0 ∧ MemIs adr c gm
noncomputable def mno : Mem := fun _ => none
variable {adr : Rl → Addr} {c : Rl → Option AObj} {R0 m m' gm : Mem}
theorem GF.of (M : MemIs adr c m) : GF adr c mno m := ⟨m, fun _ _ _ => rfl, by funext a; unfold mun mno; cases m a <;> rfl, M⟩
theorem GF.get {r : Rl} {x : AObj} (G : GF adr c R0 m) (h : c r = some x) : m (adr r) = some x := by
  obtain ⟨gm, d, rfl, M⟩ := G
  exact mun_l (M.get h)
theorem GF.set {r : Rl} {x y : AObj} (G : GF adr c R0 m) (h : c r = some x) (h1 : m' (adr r) = some y) (hf : ∀ b, b ≠ adr r → m' b = m b) : GF adr (upd c r (some y)) R0 m' := by
  obtain ⟨gm, d, rfl, M⟩ := G
  have hg := M.get h
  refine ⟨mset gm (adr r) y, fun a z hz => ?_, ?_, M.set h (mset_self _ _ _) fun b hb => mset_ne hb⟩
  · by_cases e : a = adr r
    · subst e; exact d _ _ hg
    · rw [mset_ne e] at hz; exact d _ _ hz
  · rw [← mset_mun]
    funext b
    by_cases e : b = adr r
    · subst e; rw [h1, mset_self]
    · rw [hf b e, mset_ne e]
theorem GF.new {r : Rl} {a : Addr} {y : AObj} (G : GF adr c R0 m) (h : c r = none) (hn : m a = none) (h1 : m' a = some y) (hf : ∀ b, b ≠ a → m' b = m b) : GF (upd adr r a) (upd c r (some y)) R0 m' := by
  obtain ⟨gm, d, rfl, M⟩ := G
  obtain ⟨n1, n2⟩ := mun_none hn
  refine ⟨mset gm a y, fun b z hz => ?_, ?_, M.new h n1 (mset_self _ _ _) fun b hb => mset_ne hb⟩
  · by_cases e : b = a
    · subst e; exact n2
    · rw [mset_ne e] at hz; exact d _ _ hz
  · rw [← mset_mun]
    funext b
    by_cases e : b = a
    · subst e; rw [h1, mset_self]
    · rw [hf b e, mset_ne e]
theorem GF.done (G : GF adr c R0 m) : ∃ gm, Sub gm m ∧ MemIs adr c gm := by
  obtain ⟨gm, d, rfl, M⟩ := G
  exact ⟨gm, fun a x e => mun_l e, M⟩
theorem GF.drop (G : GF adr c R0 m) (r : Rl) : ∃ gm, Sub gm m ∧ GF adr (Mine.upd c r none) R0 gm := by
  obtain ⟨gm, d, rfl, M⟩ := G
  cases hr : c r with
  | none =>
    have : Mine.upd c r none = c := by funext x; unfold Mine.upd; split; · rename_i e; rw [e, hr]
                                       · rfl
    rw [this]
    exact ⟨_, fun _ _ h => h, gm, d, rfl, M⟩
  | some x =>
    have hm := M.get hr
    have sub : ∀ a y, (if a = adr r then none else gm a) = some y → gm a = some y := fun a y e => by split at e; · cases e
                                                                                                     · exact e
    refine ⟨mun (fun a => if a = adr r then none else gm a) R0, fun a y e => ?_, (fun a => if a = adr r then none else gm a), fun a y e => d a y (sub a y e), rfl, ⟨fun p q hp hq e => ?_, fun a y => ?_⟩⟩
    · by_cases q : a = adr r
      · have : (fun a => if a = adr r then none else gm a) a = none := by dsimp only; rw [if_pos q]
        rw [mun_r this] at e
        have := d a x (by rw [q]; exact hm)
        rw [this] at e; cases e
      · unfold mun at e ⊢
        dsimp only at e
        rw [if_neg q] at e; exact e
    · refine M.inj p q ?_ ?_ e
      · intro z; by_cases y : p = r
        · rw [y] at hp; exact hp (upd_self _ _ _)
        · rw [upd_ne y] at hp; exact hp z
      · intro z; by_cases y : q = r
        · rw [y] at hq; exact hq (upd_self _ _ _)
        · rw [upd_ne y] at hq; exact hq z
    · constructor
      · intro e
        have e1 := sub a y e
        obtain ⟨r', h1, h2⟩ := (M.is a y).mp e1
        refine ⟨r', h1, ?_⟩
        rw [upd_ne (fun z => by rw [← h1, z, if_pos rfl] at e; cases e)]; exact h2
      · rintro ⟨r', h1, h2⟩
        have hr' : r' ≠ r := fun z => by rw [z, upd_self] at h2; cases h2
        rw [upd_ne hr'] at h2
        rw [if_neg]
        · exact (M.is a y).mpr ⟨r', h1, h2⟩
        · intro z
          exact hr' (M.inj r' r (by rw [h2]; exact fun e => nomatch e) (by rw [hr]; exact fun e => nomatch e) (h1.trans z))
end Mine
end
section
set_option autoImplicit false
namespace Mine
noncomputable abbrev aCFo : Addr := 238
noncomputable abbrev cfoE (L : Addr) : Env := envX "Grammar.compute_follow" compFollow.scope L aCFo compFollow.code []
section
variable {W : Wd} {A : Around} {outer : Outs} {loc : Loc} {m m1 m2 : Mem} {E : Ex W} {L : Addr} {g : GR} {adr0 adr : Rl → Addr} {c0 cc : Rl → Option AObj} {fi : List (Str × List Str)} {st : Str} {R0 : Mem}
inductive P2L_J1 (g : GR) (adr0 : Rl → Addr) (c0 : Rl → Option AObj) (fi : List (Str × List Str)) (st : Str) (k : Nat) (i : Nat) (l : Loc) (m : Mem) : Prop
  | mk (h1_ : k + i = g.no.length) (h2_ : LSub [("self", .ref (adr0 .self)), ("start", .str st)] l) (adr1 : _) (c1 : _) (h3_ : MemIs adr1 c1 m) (h4_ : FOx adr0 c0 adr1 c1 (fi ++ (g.no.take i).map fun q => (q.1, ([] : List Str))))
theorem cfo_names {Q : Fl → Loc → Mem → Prop} (hK : W.K = hdK W.w.params) (hh : A.handled = none) (ok : GOk aGrammar aProd adr0 c0 g) (M : MemIs adr cc m) (X : FOx adr0 c0 adr cc fi) (hl : LSub [("self", .ref (adr0 .self)), ("start", .str st)] loc)
    (hnd : (g.no.map (·.1)).Nodup) (hfi : ∀ x ∈ g.no.map (·.1), x ∉ fi.map (·.1)) (hz : g.no.length + fi.length ≤ 1000)
    (h : ∀ l m adr1 c1, LSub [("self", .ref (adr0 .self)), ("start", .str st)] l → MemIs adr1 c1 m → FOx adr0 c0 adr1 c1 (fi ++ g.no.map fun q => (q.1, ([] : List Str))) → Q .next l m) :
    TrS W A (cfoE L) outer (exec (compFollow.body.getD 2 (.Pass ⟨0, 0, 0, 0⟩)) (cfoE L)) loc m Q E := by
  refine Tr.locs hl ?_
  obtain ⟨epd, hdict⟩ := ok.dict
  obtain ⟨ept, htab⟩ := ok.no
  have hx := X.at M (by simp) (by simp) ok.self
  have hd := X.at M (by simp) (by simp) hdict
  have ht := X.at M (by simp) (by simp) htab
  refine s_for (fun _ => rfl) ?_; refine e_attr rfl ?_; refine e_local rfl rfl rfl rfl ?_
  refine get_o hK (fun _ => by kernel_rfl) (.own hx hd) rfl rfl ?_
  skip
  let J1 : Nat → Nat → Loc → Mem → Prop := P2L_J1 g adr0 c0 fi st
  refine for_k (itr_dict hh ht) J1 ?_ g.no.length ⟨rfl, rfl, adr, cc, M, by simpa using X⟩
  rintro k i l m ⟨hk, hl, adr1, c1, M, X⟩
  have hx := X.at M (by simp) (by simp) ok.self
  have hd := X.at M (by simp) (by simp) hdict
  have ht := X.at M (by simp) (by simp) htab
  have ei := keyItem_eq (i := i) ht rfl
  refine ⟨by rw [ei]; simp, fun hn1 => ?_, fun v hv => ?_⟩
  · rw [ei] at hn1
    have hn1 := Option.some.inj hn1
    rw [Option.map_eq_none_iff, List.getElem?_eq_none_iff, List.length_map] at hn1
    obtain rfl : i = g.no.length := by omega
    refine Tr.locs hl ?_
    refine s_nil ?_
    rw [List.take_length] at X
    exact h _ _ _ _ (rfl) M X
  · rw [ei] at hv
    have hv := Option.some.inj hv
    rw [List.getElem?_map] at hv
    cases hy : g.no[i]? with
    | none => rw [hy] at hv; cases hv
    | some q =>
      rw [hy] at hv
      obtain rfl : v = .str q.1 := by cases hv; rfl
      have hlt : i < g.no.length := by rw [List.getElem?_eq_some_iff] at hy; exact hy.1
      have hq : q ∈ g.no := List.mem_of_getElem? hy
      have hnew : (fi ++ (g.no.take i).map fun q => (q.1, ([] : List Str))).lookup q.1 = none := by
        refine tab_none ?_
        rw [List.map_append, List.map_map, List.mem_append]
        rintro (z | z)
        · exact hfi _ (List.mem_map.mpr ⟨q, hq, rfl⟩) z
        · have z : q.1 ∈ (g.no.take i).map (·.1) := z
          rw [List.map_take] at z
          exact nodup_take hnd (by rw [List.getElem?_map, hy]; rfl) z
      refine Op.locs hl ?_
      refine asg_name ?_; refine st_local rfl rfl ?_; (refine nameQ ?_; intro qq ee; refine s_cons ?_); refine s_assign_sub rfl ?_; refine e_list ?_; refine a_nil ?_
      refine new_own' (Nat.le_trans (show _ ≤ 1 from (by simp)) (show 1 ≤ sizeLine by decide)) (fun a m1 ha h1 f1 => ?_)
      have hx : m1 (adr0 .self) = _ := (f1 _ (nex hx ha)).trans hx
      have hd : m1 (adr0 .dict) = _ := (f1 _ (nex hd ha)).trans hd
      obtain ⟨epf, hfi1⟩ := X.hfo
      have hf := M.get hfi1
      rw [X.adrE .fo (by simp)] at hf
      have hf : m1 (adr0 .fo) = _ := (f1 _ (nex hf ha)).trans hf
      refine e_attr rfl ?_; refine e_local rfl rfl rfl rfl ?_
      refine get_o hK (fun _ => by kernel_rfl) (.own hx hd) rfl rfl ?_
      refine e_local rfl rfl rfl rfl ?_
      refine setItem_dict' hf (by rw [List.length_map, List.length_append, List.length_map, List.length_take]; exact Nat.le_trans (show fi.length + min i g.no.length ≤ 1000 by omega) (by decide)) (fun m2 ep2 h2 f2 => ?_)
      refine s_nil ?_
      obtain ⟨adr2, c2, M2, X2⟩ := X.store (ys := ([] : List Str)) M hnew ha h1 f1 h2 f2
      refine ⟨k - 1, (kst hk hlt).1, (kst hk hlt).2, rfl, adr2, c2, M2, ?_⟩
      rw [take_snoc hy, List.map_append, ← List.append_assoc]
      exact X2
noncomputable def setS (l : List (Str × List Str)) (k : Str) (ys : List Str) : List (Str × List Str) := l.map fun q => if q.1 = k then (q.1, ys) else q
theorem setS_keys (l : List (Str × List Str)) (k : Str) (ys : List Str) : (setS l k ys).map (·.1) = l.map (·.1) := by
  unfold setS; rw [List.map_map]; refine List.map_congr_left fun q _ => ?_
  simp only [Function.comp_apply]; split <;> rfl
theorem setS_lookup (l : List (Str × List Str)) (k : Str) (ys : List Str) (k' : Str) : (setS l k ys).lookup k' = if k' = k then (l.lookup k').map (fun _ => ys) else l.lookup k' := by
  unfold setS
  induction l with
  | nil => simp
  | cons q l ih =>
    obtain ⟨a, b⟩ := q
    rw [List.map_cons, List.lookup_cons]
    by_cases h : k' = a
    · subst h
      by_cases h2 : k' = k
      · subst h2; simp [List.lookup]
      · simp [List.lookup, h2]
    · have e : (k' == a) = false := by simpa using h
      have e2 : (k' == (if a = k then (a, ys) else (a, b)).1) = false := by split <;> exact e
      rw [show (k' == (if (a, b).fst = k then ((a, b).fst, ys) else (a, b)).fst) = false from e2]
      rw [List.lookup_cons, e]
      exact ih
theorem stA_old {es : List (Str × V)} {k : Str} {v x : V} (h : getA es k = some x) : stA es k v = es.map fun e => if e.1 = k then (e.1, v) else e := by
  unfold stA
  rw [if_pos]
  · unfold getA at h
    cases q : es.find? fun e => decide (e.1 = k) with
    | none => rw [q] at h; cases h
    | some e => exact List.any_eq_true.mpr ⟨e, List.mem_of_find?_eq_some q, List.find?_some (p := fun e : Str × V => decide (e.1 = k)) q⟩
theorem FOx.reset {fo : List (Str × List Str)} {k : Str} {a : Addr} {ys old : List Str} {ep2 : Nat} (G : GF adr cc R0 m) (X : FOx adr0 c0 adr cc fo) (hk : fo.lookup k = some old) (ha : m a = none) (h1 : m1 a = some (.list (vStrs ys))) (f1 : ∀ b, b ≠ a → m1 b = m b)
    (h2 : m2 (adr0 .fo) = some (.dict (stA (fo.map fun q => (q.1, .ref (adr (.foL q.1)))) k (.ref a)) ep2)) (f2 : ∀ b, b ≠ adr0 .fo → m2 b = m1 b) : ∃ adr' c' gm, Sub gm m2 ∧ GF adr' c' R0 gm ∧ FOx adr0 c0 adr' c' (setS fo k ys) := by
  obtain ⟨g1, s1, G1⟩ := G.drop (.foL k)
  have ha1 : g1 a = none := s1.none ha
  have G2 := G1.new (r := .foL k) (a := a) (y := .list (vStrs ys)) (m' := mset g1 a (.list (vStrs ys))) (upd_self _ _ _) ha1 (mset_self _ _ _) fun b hb => mset_ne hb
  obtain ⟨ep, hfo⟩ := X.hfo
  have hne : adr0 .fo ≠ a := fun e => by
    have := G.get hfo
    rw [X.adrE _ (by simp), e, ha] at this; cases this
  have eA : upd adr (.foL k) a .fo = adr0 .fo := by rw [upd_ne (by simp)]; exact X.adrE _ (by simp)
  have hc2 : upd (upd cc (.foL k) none) (.foL k) (some (.list (vStrs ys))) .fo = some (.dict (fo.map fun q => (q.1, .ref (adr (.foL q.1)))) ep) := by rw [upd_ne (by simp), upd_ne (by simp)]; exact hfo
  have G3 := G2.set (r := .fo) (y := .dict (stA (fo.map fun q => (q.1, .ref (adr (.foL q.1)))) k (.ref a)) ep2) (m' := mset (mset g1 a (.list (vStrs ys))) (adr0 .fo) (.dict (stA (fo.map fun q => (q.1, .ref (adr (.foL q.1)))) k (.ref a)) ep2)) hc2 (by rw [eA]; exact mset_self _ _ _) (by rw [eA]; exact fun b hb => mset_ne hb)
  refine ⟨_, _, _, fun b y e => ?_, G3, ⟨fun r hr => by rw [upd_ne (hr k)]; exact X.adrE r hr, fun r hr h => by rw [upd_ne h, upd_ne (hr k), upd_ne (hr k)]; exact X.cE r hr h, ⟨ep2, ?_⟩, fun k' => ?_⟩⟩
  · by_cases q : b = adr0 .fo
    · subst q; rw [mset_self] at e; rw [h2]; exact e
    · rw [mset_ne q] at e
      rw [f2 b q]
      by_cases q2 : b = a
      · subst q2; rw [mset_self] at e; rw [h1]; exact e
      · rw [mset_ne q2] at e; rw [f1 b q2]; exact s1 _ _ e
  · rw [upd_self, stA_old (lookB (f := fun k => V.ref (adr (.foL k))) (by rw [hk]; rfl))]
    unfold setS
    rw [List.map_map, List.map_map]
    refine congrArg (fun z => some (AObj.dict z ep2)) (List.map_congr_left fun q _ => ?_)
    simp only [Function.comp_apply]
    by_cases e : q.1 = k
    · simp [e, upd]
    · simp only [if_neg e]; rw [upd_ne (by simpa using e)]
  · rw [upd_ne (by simp), setS_lookup]
    by_cases e : k' = k
    · subst e; rw [upd_self, hk]; simp
    · rw [upd_ne (by simpa using e), upd_ne (by simpa using e), if_neg e]; exact X.hfoL k'
end
end Mine
end
section
set_option autoImplicit false
namespace Mine
inductive Fol (P : List Pr) (T N : List Str) (st : Str) : Str → Str → Prop
  | start : Fol P T N st dend st
  | fst {p : Pr} {pre post : List Str} {B f : Str} : p ∈ P → p.body = pre ++ B :: post → B ∈ N → Fst P T f post → f ≠ Mine.eps → Fol P T N st f B
  | fol {p : Pr} {pre post : List Str} {B f : Str} : p ∈ P → p.body = pre ++ B :: post → B ∈ N → Fst P T Mine.eps post → Fol P T N st f p.name → Fol P T N st f B
structure FoOk (g : GR) (st : Str) (fo : List (Str × List Str)) : Prop where
  keys : fo.map (·.1) = NN g
  nod : ∀ n ∈ NN g, (atL fo n).Nodup
  snd : ∀ x, ∀ f ∈ atL fo x, Fol g.prods (TT g) (NN g) st f x
  st : dend ∈ atL fo st
noncomputable def FoCl (g : GR) (fi fo : List (Str × List Str)) (p : Pr) (i : Nat) : Prop := ∀ B, p.body[i]? = some B → B ∈ NN g →
  (∀ f ∈ firstOf (atL fi) [] (p.body.drop (i + 1)), f ≠ eps → f ∈ atL fo B) ∧ (eps ∈ firstOf (atL fi) [] (p.body.drop (i + 1)) → ∀ f ∈ atL fo p.name, f ∈ atL fo B)
section
variable {g : GR} {fi fo : List (Str × List Str)} {st : Str}
theorem Fol.kind {P : List Pr} {T N : List Str} {f B : Str} (hd : dend ∈ T) (h : Fol P T N st f B) : f ∈ T := by
  induction h with
  | start => exact hd
  | fst _ _ _ h hf => exact h.kind.resolve_left hf
  | fol _ _ _ _ _ ih => exact ih
theorem dend_in (g : GR) : dend ∈ TT g := List.mem_append_right _ (.head _)
theorem FoOk.has (K : FoOk g st fo) {x : Str} (hx : x ∈ NN g) : (fo.lookup x).isSome = true := by
  rw [lookup_contains, List.contains_iff_mem, K.keys]; exact hx
theorem FoOk.ok (K : FoOk g st fo) (w : GWf g) {x f : Str} (hf : f ∈ atL fo x) : PyData.strOk f = true := w.tok f ((K.snd x f hf).kind (dend_in g))
theorem FoOk.len (K : FoOk g st fo) (w : GWf g) {x : Str} (hx : x ∈ NN g) : (atL fo x).length ≤ 101 := by
  have := nodup_len (K.nod x hx) fun f hf => (K.snd x f hf).kind (dend_in g)
  have e : (TT g).length = g.te.length + 1 := by simp [TT]
  rw [e] at this; have := w.tz; omega
theorem FoOk.push (K : FoOk g st fo) (w : GWf g) {n f : Str} (hn : n ∈ NN g) (hf : f ∉ atL fo n) (hF : Fol g.prods (TT g) (NN g) st f n) : FoOk g st (pushS fo n f) ∧ lack g (pushS fo n f) < lack g fo := by
  have hs := K.has hn
  have K' : FoOk g st (pushS fo n f) := ⟨by rw [pushS_keys]; exact K.keys, fun n' hn' => by
    rw [atL_push hs]
    split
    · rename_i e; subst e
      rw [List.nodup_append]
      exact ⟨K.nod _ hn', by simp, fun a ha b hb e => by rw [List.mem_singleton] at hb; subst hb; exact hf (e ▸ ha)⟩
    · exact K.nod _ hn', fun x f' hf' => by
    rw [atL_push hs] at hf'
    split at hf'
    · rename_i e; subst e
      rcases List.mem_append.mp hf' with h | h
      · exact K.snd _ _ h
      · rw [List.mem_singleton] at h; rw [h]; exact hF
    · exact K.snd _ _ hf', by
    rw [atL_push hs]
    split
    · exact List.mem_append_left _ K.st
    · exact K.st⟩
  refine ⟨K', lack_push hn hs ?_⟩
  have := nodup_len (K'.nod n hn) fun f hf => (K'.snd n f hf).kind (dend_in g)
  rw [atL_push hs, if_pos rfl] at this
  have e : (TT g).length = g.te.length + 1 := by simp [TT]
  rw [e] at this; simp at this; omega
theorem firstOf_snd (K : FiOk g fi) (w : GWf g) {b : List Str} {f : Str} (hf : f ∈ firstOf (atL fi) [] b) : Fst g.prods (TT g) f b :=
  FS.sound w.noeps K.snd (((mem_firstOf _ _ _ _).mp hf).resolve_left (by simp))
theorem firstOf_full (K : FiOk g fi) (w : GWf g) (hc : ∀ p ∈ g.prods, Closed g fi p) {b : List Str} {f : Str} (hf : Fst g.prods (TT g) f b) : f ∈ firstOf (atL fi) [] b :=
  (mem_firstOf _ _ _ _).mpr (.inr (FS.full w.noeps (fun t ht => by unfold atL; rw [K.term t ht]; exact .head _) (fun p hp f hf => hc p hp f ((mem_firstOf _ _ _ _).mpr (.inr hf))) hf))
theorem split_at {b : List Str} {i : Nat} {B : Str} (h : b[i]? = some B) : b = b.take i ++ B :: b.drop (i + 1) := by
  have hlt : i < b.length := by rw [List.getElem?_eq_some_iff] at h; exact h.1
  have hget : b[i] = B := by rw [List.getElem?_eq_getElem hlt] at h; exact Option.some.inj h
  have h2 := List.drop_eq_getElem_cons hlt
  rw [hget] at h2
  rw [← h2, List.take_append_drop]
theorem Fol.iff (K : FiOk g fi) (w : GWf g) (hc : ∀ p ∈ g.prods, Closed g fi p) (K2 : FoOk g st fo) (hf : ∀ p ∈ g.prods, ∀ i, FoCl g fi fo p i) (f B : Str) : f ∈ atL fo B ↔ Fol g.prods (TT g) (NN g) st f B := by
  refine ⟨K2.snd B f, fun h => ?_⟩
  have pos : ∀ {pre post : List Str} {B : Str} {b : List Str}, b = pre ++ B :: post → b[pre.length]? = some B ∧ b.drop (pre.length + 1) = post := fun {pre post B b} e => by
    subst e; exact ⟨by simp, by simp⟩
  induction h with
  | start => exact K2.st
  | fst hp hb hB h hne =>
    obtain ⟨e1, e2⟩ := pos hb
    exact (hf _ hp _ _ e1 hB).1 _ (by rw [e2]; exact firstOf_full K w hc h) hne
  | fol hp hb hB h _ ih =>
    obtain ⟨e1, e2⟩ := pos hb
    exact (hf _ hp _ _ e1 hB).2 (by rw [e2]; exact firstOf_full K w hc h) _ ih
end
section
variable {W : Wd} {A : Around} {outer : Outs} {loc : Loc} {m : Mem} {E : Ex W} {L : Addr} {g : GR} {adr0 adr : Rl → Addr} {c0 cc : Rl → Option AObj} {fo : List (Str × List Str)} {st : Str}
inductive FoI (g : GR) (st : Str) (adr0 : Rl → Addr) (c0 : Rl → Option AObj) (fo0 fo : List (Str × List Str)) (b : Bool) (m : Mem) : Prop
  | mk (gm : Mem) (adr : Rl → Addr) (c : Rl → Option AObj) (h1_ : Sub gm m) (h2_ : MemIs adr c gm) (h3_ : FOx adr0 c0 adr c fo) (h4_ : FoOk g st fo) (h5_ : b = true → lack g fo < lack g fo0) (h6_ : b = false → fo = fo0)
inductive P2M_J1 (g : GR) (adr0 : Rl → Addr) (c0 : Rl → Option AObj) (st : Str) (k : Nat) (l : Loc) (m : Mem) : Prop
  | mk (h1_ : LSub [("self", .ref (adr0 .self))] l) (fo : _) (h2_ : FoI g st adr0 c0 fo fo false m) (h3_ : k = lack g fo)
inductive P2M_J2 (g : GR) (adr0 : Rl → Addr) (c0 : Rl → Option AObj) (st : Str) (fo0 : List (Str × List Str)) (k : Nat) (i : Nat) (l : Loc) (m : Mem) : Prop
  | mk (h1_ : k + i = g.prods.length) (b : _) (fo : _) (h2_ : LSub [("self", .ref (adr0 .self)), ("didadd", .bool b)] l) (h3_ : FoI g st adr0 c0 fo0 fo b m) (h4_ : (b = false → ∀ p ∈ g.prods.take i, ∀ j, FoCl g g.fi fo p j))
inductive P2M_J3 (g : GR) (adr0 : Rl → Addr) (c0 : Rl → Option AObj) (st : Str) (fo0 : List (Str × List Str)) (i : Nat) (p : Pr) (k' : Nat) (j : Nat) (l : Loc) (m : Mem) : Prop
  | mk (h1_ : k' + j = p.body.length) (b : _) (fo : _) (h2_ : LSub [("self", .ref (adr0 .self)), ("didadd", .bool b), ("p", pV aProd p)] l) (h3_ : FoI g st adr0 c0 fo0 fo b m) (h4_ : (b = false → (∀ p ∈ g.prods.take i, ∀ j, FoCl g g.fi fo p j) ∧ ∀ t, t < j → FoCl g g.fi fo p t))
inductive P2M_J4 (g : GR) (adr0 : Rl → Addr) (c0 : Rl → Option AObj) (st : Str) (fo0 : List (Str × List Str)) (p : Pr) (j : Nat) (b : Bool) (fo : List (Str × List Str)) (B : Str) (ar : Addr) (fl : List Str) (k2 : Nat) (t : Nat) (l : Loc) (m : Mem) : Prop
  | mk (h1_ : k2 + t = fl.length) (b1 : _) (fo1 : _) (adr1 : _) (c1 : _) (gm1 : _) (h2_ : LSub [("self", .ref (adr0 .self)), ("didadd", .bool b1), ("p", pV aProd p), ("i", .int j), ("B", .str B), ("hasempty", .bool (decide (eps ∈ fl.take t)))] l) (h3_ : Sub gm1 m) (h4_ : GS adr1 c1 ar (.list (vStrs fl)) gm1) (h5_ : FOx adr0 c0 adr1 c1 fo1) (h6_ : FoOk g st fo1) (h7_ : (b1 = true → lack g fo1 < lack g fo0)) (h8_ : (b1 = false → fo1 = fo0 ∧ fo = fo0 ∧ b = false ∧ ∀ f ∈ fl.take t, f ≠ eps → f ∈ atL fo1 B))
inductive P2M_J5 (g : GR) (adr0 : Rl → Addr) (c0 : Rl → Option AObj) (st : Str) (fo0 : List (Str × List Str)) (p : Pr) (j : Nat) (B : Str) (b1 : Bool) (fo1 : List (Str × List Str)) (adr1 : Rl → Addr) (ys : List Str) (k3 : Nat) (t : Nat) (l : Loc) (m : Mem) : Prop
  | mk (h1_ : k3 + t = ys.length) (b2 : _) (fo2 : _) (c2 : _) (gm3 : _) (h2_ : LSub [("self", .ref (adr0 .self)), ("didadd", .bool b2), ("p", pV aProd p), ("i", .int j), ("B", .str B)] l) (h3_ : Sub gm3 m) (h4_ : MemIs adr1 c2 gm3) (h5_ : FOx adr0 c0 adr1 c2 fo2) (h6_ : FoOk g st fo2) (h7_ : fo2.lookup p.name = some ys) (h8_ : (b2 = true → lack g fo2 < lack g fo0)) (h9_ : (b2 = false → fo2 = fo0 ∧ fo1 = fo0 ∧ b1 = false ∧ ∀ f ∈ ys.take t, f ∈ atL fo2 B))
theorem cfo_while {Q : Fl → Loc → Mem → Prop} (hK : W.K = hdK W.w.params) (cd : Calm A 600 5000) (ok : GOk aGrammar aProd adr0 c0 g) (w : GWf g) (Ki : FiOk g g.fi) (M : MemIs adr cc m) (X : FOx adr0 c0 adr cc fo) (K : FoOk g st fo) (hl : LSub [("self", .ref (adr0 .self))] loc)
    (h : ∀ l m gm adr1 c1 fo1, LSub [("self", .ref (adr0 .self))] l → Sub gm m → MemIs adr1 c1 gm → FOx adr0 c0 adr1 c1 fo1 → FoOk g st fo1 → (∀ p ∈ g.prods, ∀ i, FoCl g g.fi fo1 p i) → Q .next l m) :
    TrS W A (cfoE L) outer (exec (compFollow.body.getD 5 (.Pass ⟨0, 0, 0, 0⟩)) (cfoE L)) loc m Q E := by
  let J1 : Nat → Loc → Mem → Prop := P2M_J1 g adr0 c0 st
  refine s_while J1 ?_ (lack g fo) ⟨hl, fo, ⟨m, adr, cc, sub_refl _, M, X, K, (by simp), fun _ => rfl⟩, rfl⟩
  rintro k l m ⟨hl, fo0, ⟨gm, adr, cc, hsub, M, X, K0, _, _⟩, rfl⟩
  obtain ⟨epd, hdict⟩ := ok.dict
  obtain ⟨epn, hnoT⟩ := ok.no
  have hx := X.at M (by simp) (by simp) ok.self
  have hd := X.at M (by simp) (by simp) hdict
  have hpl := X.at M (by simp) (by simp) ok.pl
  refine Tr.memS hsub (Tr.locs hl ?_)
  refine b_value rfl ?_; refine e_bool ?_; refine tr_bool ?_
  refine only_t ?_
  (refine nameQ ?_; intro qq ee; refine s_cons ?_); refine s_assign rfl ?_; refine e_bool ?_; refine st_local rfl rfl ?_; refine s_cons ?_; refine s_for (fun _ => rfl) ?_; refine e_slice ?_; refine e_attr rfl ?_; refine e_local rfl rfl rfl rfl ?_
  refine get_o hK (fun _ => by kernel_rfl) (.own hx hd) rfl rfl ?_
  refine e_int ?_
  refine ⟨1, rfl, ?_⟩
  skip
  refine ⟨_, _, .list hpl, PySem.F.slot_list_getitem.lookup, ?_⟩
  refine slice_from (k := 1) (.own hpl) (by simp; exact Nat.le_trans (Nat.succ_le_succ w.pz) (by decide)) (by simp) ?_
  rw [show (g.p0 :: g.prods.map (pV aProd)).drop 1 = g.prods.map (pV aProd) from rfl]
  skip
  let J2 : Nat → Nat → Loc → Mem → Prop := P2M_J2 g adr0 c0 st fo0
  refine for_k (itr_lst cd.handled) J2 ?_ g.prods.length ⟨rfl, false, fo0, rfl, ⟨gm, adr, cc, sub_refl _, M, X, K0, (by simp), fun _ => rfl⟩, by simp⟩
  rintro k i l m ⟨hk, b, fo, hl, ⟨gm, adr, cc, hsub, M, X, K, hb1, hb0⟩, hcl⟩
  refine ⟨by simp [setItem_], fun hn1 => ?_, fun v hv => ?_⟩
  · have hn1 : (g.prods.map (pV aProd))[i]? = none := Option.some.inj hn1
    rw [List.getElem?_eq_none_iff, List.length_map] at hn1
    obtain rfl : i = g.prods.length := by omega
    refine Tr.locs hl ?_
    refine s_nil ?_; refine s_cons ?_; refine s_if ?_; refine b_not ?_; refine b_value rfl ?_; refine e_local rfl rfl rfl rfl ?_; refine tr_bool ?_
    cases b with
    | true =>
      refine only_f ?_
      refine s_nil ?_; refine s_nil ?_
      exact ⟨_, hb1 rfl, rfl, fo, ⟨gm, adr, cc, hsub, M, X, K, (by simp), fun _ => rfl⟩, rfl⟩
    | false =>
      refine only_t ?_
      (refine nameQ ?_; intro qq ee; refine s_cons ?_); refine s_break ?_
      rw [List.take_length] at hcl
      exact h _ _ gm adr cc fo (rfl) hsub M X K (hcl rfl)
  · have hv : (g.prods.map (pV aProd))[i]? = some v := Option.some.inj hv
    rw [List.getElem?_map] at hv
    cases hp1 : g.prods[i]? with
    | none => rw [hp1] at hv; cases hv
    | some p =>
      rw [hp1] at hv
      obtain rfl : v = pV aProd p := by cases hv; rfl
      have hp : p ∈ g.prods := List.mem_of_getElem? hp1
      have hilt : i < g.prods.length := by rw [List.getElem?_eq_some_iff] at hp1; exact hp1.1
      refine Op.memS hsub (Op.locs hl ?_)
      refine asg_name ?_; refine st_local rfl rfl ?_; (refine nameQ ?_; intro qq ee; refine s_cons ?_); refine s_for (fun _ => rfl) ?_; refine c_name rfl ?_; refine e_boot rfl rfl rfl rfl rfl (by rw [hK]; rfl) rfl (by decide) ?_; refine c_type rfl rfl ?_; refine a_cons rfl ?_; refine e_attr rfl ?_; refine e_local rfl rfl rfl rfl ?_
      refine get_o hK (fun _ => by kernel_rfl) (.frz : Inst W gm (pV aProd p) _ _) rfl rfl ?_
      refine a_nil ?_
      refine enum_tup (fun e he1 he2 => ?_)
      skip
      let J3 : Nat → Nat → Loc → Mem → Prop := P2M_J3 g adr0 c0 st fo0 i p
      refine for_k (itr_enum (b := false) cd.handled (.tup _) he1 he2) J3 ?_ p.body.length ⟨rfl, b, fo, rfl, ⟨gm, adr, cc, sub_refl _, M, X, K, hb1, hb0⟩, fun e => ⟨hcl e, fun t ht => (by omega)⟩⟩
      clear hcl hb1 hb0 hv hl hsub hpl hx hd M X K he1 he2
      rintro k' j l m ⟨hk', b, fo, hl, ⟨gm, adr, cc, hsub, M, X, K, hb1, hb0⟩, hcl⟩
      have ei : enumItem (.tup (vStrs p.body)) j m = some ((vStrs p.body)[j]?.map fun y => .tup [.int j, y]) := by
        unfold enumItem seqNow
        simp only [Option.bind_some]
        rw [if_pos (by rw [vStrs_len]; omega)]
      refine ⟨by rw [ei]; simp, fun hn1 => ?_, fun v hv => ?_⟩
      · rw [ei] at hn1
        have hn1 := Option.some.inj hn1
        rw [Option.map_eq_none_iff, List.getElem?_eq_none_iff, vStrs_len] at hn1
        obtain rfl : j = p.body.length := by omega
        refine Tr.locs hl ?_
        refine s_nil ?_; refine s_nil ?_
        refine ⟨k - 1, (kst hk hilt).1, (kst hk hilt).2, b, fo, rfl, ⟨gm, adr, cc, hsub, M, X, K, hb1, hb0⟩, fun e p' hp' t => ?_⟩
        obtain ⟨c1, c2⟩ := hcl e
        rw [take_snoc hp1] at hp'
        rcases List.mem_append.mp hp' with z | z
        · exact c1 p' z t
        · rw [List.mem_singleton] at z; subst z
          by_cases ht : t < p'.body.length
          · exact c2 t ht
          · intro B hB; rw [List.getElem?_eq_none (by omega)] at hB; cases hB
      · rw [ei] at hv
        obtain ⟨B, rfl, hB⟩ : ∃ y, v = .tup [.int j, .str y] ∧ p.body[j]? = some y := by
          unfold vStrs at hv
          rw [List.getElem?_map] at hv
          cases e : p.body[j]? with
          | none => rw [e] at hv; cases hv
          | some y => rw [e] at hv; cases hv; exact ⟨y, rfl, rfl⟩
        have hjlt : j < p.body.length := by rw [List.getElem?_eq_some_iff] at hB; exact hB.1
        have hx := X.at M (by simp) (by simp) ok.self
        have hd := X.at M (by simp) (by simp) hdict
        have hno := X.at M (by simp) (by simp) hnoT
        have hBm : B ∈ p.body := List.mem_of_getElem? hB
        refine Op.memS hsub (Op.locs hl ?_)
        refine   asg_tuple     (by       first       | assumption       | exact Calm.handled (by assumption))     rfl rfl ?_; refine asg_name ?_; refine st_local rfl rfl ?_; refine asg_name ?_; refine st_local rfl rfl ?_; (refine nameQ ?_; intro qq ee; refine s_cons ?_); refine s_if ?_; refine b_cmp rfl ?_; refine e_local rfl rfl rfl rfl ?_; refine e_attr rfl ?_; refine e_local rfl rfl rfl rfl ?_
        refine get_o hK (fun _ => by kernel_rfl) (.own hx hd) rfl rfl ?_
        skip
        refine in_dict hno ?_
        cases q : (g.no.lookup B).isSome with
        | false =>
          rw [show (getA (g.no.map fun q => (q.1, V.ref (adr0 (.noL q.1)))) B).isSome = false from lookA (f := fun k => V.ref (adr0 (.noL k))) q]
          refine tr_bool ?_
          refine only_f ?_
          refine s_nil ?_; refine s_nil ?_
          refine ⟨k' - 1, (kst hk' hjlt).1, (kst hk' hjlt).2, b, fo, rfl, ⟨gm, adr, cc, sub_refl _, M, X, K, hb1, hb0⟩, fun e => ⟨(hcl e).1, fun t ht => ?_⟩⟩
          by_cases htj : t < j
          · exact (hcl e).2 t htj
          · obtain rfl : t = j := by omega
            intro B' hB' hN
            rw [hB] at hB'; cases hB'
            rw [lookup_contains] at q
            have : (NN g).contains B = true := by rw [List.contains_iff_mem]; exact hN
            unfold NN at this; rw [this] at q; cases q
        | true =>
          rw [show (getA (g.no.map fun q => (q.1, V.ref (adr0 (.noL q.1)))) B).isSome = true from lookA (f := fun k => V.ref (adr0 (.noL k))) q]
          have hBN : B ∈ NN g := by rw [lookup_contains, List.contains_iff_mem] at q; exact q
          refine tr_bool ?_
          refine only_t ?_
          (refine nameQ ?_; intro qq ee; refine s_cons ?_); refine s_assign rfl ?_; refine c_meth rfl ?_; refine e_local rfl rfl rfl rfl ?_
          refine m_own (.own hx hd) (by rw [hK]; first | rfl | kernel_rfl | decide +kernel) (by rw [hK]; first | rfl | kernel_rfl | decide +kernel) (by rw [hK]; first | rfl | kernel_rfl | decide +kernel) rfl (by rw [hK]; first | rfl | kernel_rfl | decide +kernel) rfl rfl ?_
          refine a_cons rfl ?_; refine e_slice ?_; refine e_attr rfl ?_; refine e_local rfl rfl rfl rfl ?_
          refine get_o hK (fun _ => by kernel_rfl) (.frz : Inst W gm (pV aProd p) _ _) rfl rfl ?_
          refine e_binop ?_; refine e_local rfl rfl rfl rfl ?_; refine e_int ?_; refine add_ii ?_
          refine ⟨(j : Int) + 1, rfl, ?_⟩
          skip
          refine ⟨_, _, .tup _, PySem.F.slot_tuple_getitem.lookup, ?_⟩
          have hbl := w.blen p hp
          rw [show ((j : Int) + 1) = ((j + 1 : Nat) : Int) from rfl]
          refine slice_tup (k := j + 1) (by rw [vStrs_len]; exact Nat.le_trans hbl (by decide)) (by omega) (by rw [vStrs_len]; omega) ?_
          rw [show (vStrs p.body).drop (j + 1) = vStrs (p.body.drop (j + 1)) from (List.map_drop ..).symm]
          refine a_nil ?_
          refine first_spec (g := { g with fo := fo }) hK (cd.mono (by decide) (by decide)) ⟨adr, cc, M, X.gok ok, X.adrE .self (by simp)⟩ (by rw [List.length_drop]; omega) (fun x hx => Ki.has (w.syms p hp x (List.mem_of_mem_drop hx))) (fun x => ⟨Nat.le_trans (Ki.len w x) (by omega), fun f hf => Ki.ok w hf⟩) (fun ar har => ?_)
          have efl : firstOf (fiOf { g with fo := fo }) [] (p.body.drop (j + 1)) = firstOf (atL g.fi) [] (p.body.drop (j + 1)) := rfl
          rw [efl]
          have hsnd : ∀ f ∈ firstOf (atL g.fi) [] (p.body.drop (j + 1)), Fst g.prods (TT g) f (p.body.drop (j + 1)) := fun f hf => firstOf_snd Ki w hf
          have hlast : eps ∉ firstOf (atL g.fi) [] (p.body.drop (j + 1)) → j + 1 ≠ p.body.length := fun h e => h (by rw [List.drop_eq_nil_of_le (by omega)]; exact .head _)
          generalize hfl : firstOf (atL g.fi) [] (p.body.drop (j + 1)) = fl at *
          refine st_local rfl rfl ?_; refine s_cons ?_; refine s_assign rfl ?_; refine e_bool ?_; refine st_local rfl rfl ?_; refine s_cons ?_; refine s_for (fun _ => rfl) ?_; refine e_local rfl rfl rfl rfl ?_
          let J4 : Nat → Nat → Loc → Mem → Prop := P2M_J4 g adr0 c0 st fo0 p j b fo B ar fl
          refine for_k (itr_own cd.handled (mset_self gm ar _)) J4 ?_ fl.length ⟨rfl, b, fo, adr, cc, _, rfl, sub_refl _, ⟨gm, rfl, M, har⟩, X, K, hb1, fun e => ⟨hb0 e, hb0 e, e, by simp⟩⟩
          clear hl hx hd hno
          rintro k2 t l m ⟨hk2, b1, fo1, adr1, c1, gm1, hl, hsub1, G, X1, K1, hc1, hc0⟩
          have el := ownItem_eq (i := t) (hsub1 _ _ G.side)
          have hat : ∀ {r x}, (∀ k, r ≠ .foL k) → r ≠ .fo → c0 r = some x → gm1 (adr0 r) = some x := fun {r x} a1 a2 e => by
            have := G.get (r := r) ((X1.cE r a1 a2).trans e)
            rwa [X1.adrE r a1] at this
          have hx := hat (by simp) (by simp) ok.self
          have hd := hat (by simp) (by simp) hdict
          obtain ⟨epf, hfoT⟩ := X1.hfo
          have hfo := G.get hfoT
          rw [X1.adrE .fo (by simp)] at hfo
          refine ⟨by rw [el]; simp, fun hn1 => ?_, fun v hv => ?_⟩
          · rw [el] at hn1
            have hn1 := Option.some.inj hn1
            rw [List.getElem?_eq_none_iff, vStrs_len] at hn1
            obtain rfl : t = fl.length := by omega
            rw [List.take_length] at hl hc0
            obtain ⟨gm2, M2, hs2⟩ := G.done
            refine Tr.memS (fun a x e => hsub1 a x (hs2 a x e)) (Tr.locs hl ?_)
            have hat2 : ∀ {r x}, (∀ k, r ≠ .foL k) → r ≠ .fo → c0 r = some x → gm2 (adr0 r) = some x := fun {r x} a1 a2 e => X1.at M2 a1 a2 e
            have hx := hat2 (by simp) (by simp) ok.self
            have hd := hat2 (by simp) (by simp) hdict
            have hfo := M2.get hfoT
            rw [X1.adrE .fo (by simp)] at hfo
            refine s_nil ?_; refine s_cons ?_; refine s_if ?_; refine b_bool ?_; refine b_or_cons ?_; refine b_value rfl ?_; refine e_local rfl rfl rfl rfl ?_; refine tr_bool ?_
            refine ⟨fun he => ?_, fun he => ?_⟩
            · have he : eps ∉ fl := of_decide_eq_false he
              refine b_or_cons ?_; refine b_cmp rfl ?_; refine e_local rfl rfl rfl rfl ?_; refine e_binop ?_; refine c_name rfl ?_; refine e_boot rfl rfl rfl rfl rfl (by rw [hK]; rfl) rfl (by decide) ?_; refine c_builtin rfl rfl ?_; refine a_cons rfl ?_; refine e_attr rfl ?_; refine e_local rfl rfl rfl rfl ?_
              refine get_o hK (fun _ => by kernel_rfl) (.frz : Inst W gm2 (pV aProd p) _ _) rfl rfl ?_
              refine a_nil ?_
              refine len_sq (.tup _) (by rw [vStrs_len]; omega) ?_
              refine e_int ?_; refine sub_ii ?_; refine eq_ii ?_; refine tr_bool ?_
              have hnl := hlast he
              refine ⟨fun hb => ?_, fun hb => ?_⟩
              · refine b_or_nil ?_
                refine only_f ?_
                refine s_nil ?_; refine s_nil ?_; refine s_nil ?_
                refine ⟨k' - 1, (kst hk' hjlt).1, (kst hk' hjlt).2, b1, fo1, rfl, ⟨gm2, adr1, c1, sub_refl _, M2, X1, K1, hc1, fun e => (hc0 e).1⟩, fun e => ?_⟩
                obtain ⟨e1, e2, e3, e4⟩ := hc0 e
                obtain ⟨d1, d2⟩ := hcl e3
                have e5 : fo = fo1 := e2.trans e1.symm
                rw [e5] at d1 d2
                refine ⟨d1, fun t ht => ?_⟩
                by_cases htj : t < j
                · exact d2 t htj
                · obtain rfl : t = j := by omega
                  intro B' hB' hN
                  rw [hB] at hB'; cases hB'
                  rw [hfl]
                  exact ⟨e4, fun q => absurd q he⟩
              · have hb := of_decide_eq_true hb
                rw [vStrs_len] at hb
                omega
            · have he : eps ∈ fl := of_decide_eq_true he
              refine only_t ?_
              (refine nameQ ?_; intro qq ee; refine s_cons ?_); refine s_for (fun _ => rfl) ?_; refine e_sub (fun _ _ => rfl) ?_; refine e_attr rfl ?_; refine e_local rfl rfl rfl rfl ?_
              refine get_o hK (fun _ => by kernel_rfl) (.own hx hd) rfl rfl ?_
              refine e_attr rfl ?_; refine e_local rfl rfl rfl rfl ?_
              refine get_o hK (fun _ => by kernel_rfl) (.frz : Inst W gm2 (pV aProd p) _ _) rfl rfl ?_
              skip
              have hpN := w.names p hp
              obtain ⟨ys, hys⟩ := Option.isSome_iff_exists.mp (K1.has hpN)
              have haty : atL fo1 p.name = ys := by unfold atL; rw [hys]; rfl
              have hly := M2.get (r := .foL p.name) (x := .list (vStrs ys)) (by rw [X1.hfoL, hys]; rfl)
              refine sub_dict hfo (lookB (f := fun k => V.ref (adr1 (.foL k))) (by rw [hys]; rfl)) ?_
              skip
              let J5 : Nat → Nat → Loc → Mem → Prop := P2M_J5 g adr0 c0 st fo0 p j B b1 fo1 adr1 ys
              refine for_k (itr_own cd.handled hly) J5 ?_ ys.length ⟨rfl, b1, fo1, c1, gm2, rfl, sub_refl _, M2, X1, K1, hys, hc1, fun e => ⟨(hc0 e).1, (hc0 e).1, e, by simp⟩⟩
              rintro k3 t l m ⟨hk3, b2, fo2, c2, gm3, hl, hsub3, M3, X3, K3, hys3, hd1, hd0⟩
              have hly3 := M3.get (r := .foL p.name) (x := .list (vStrs ys)) (by rw [X3.hfoL, hys3]; rfl)
              have ey := ownItem_eq (i := t) (hsub3 _ _ hly3)
              refine ⟨by rw [ey]; simp, fun hn1 => ?_, fun v hv => ?_⟩
              · rw [ey] at hn1
                have hn1 := Option.some.inj hn1
                rw [List.getElem?_eq_none_iff, vStrs_len] at hn1
                obtain rfl : t = ys.length := by omega
                rw [List.take_length] at hd0
                refine Tr.locs hl ?_
                refine s_nil ?_; refine s_nil ?_; refine s_nil ?_; refine s_nil ?_
                refine ⟨k' - 1, (kst hk' hjlt).1, (kst hk' hjlt).2, b2, fo2, rfl, ⟨gm3, adr1, c2, hsub3, M3, X3, K3, hd1, fun e => (hd0 e).1⟩, fun e => ?_⟩
                obtain ⟨a1, a2, a3, a4⟩ := hd0 e
                obtain ⟨e1, e2, e3, e4⟩ := hc0 a3
                obtain ⟨d1, d2⟩ := hcl e3
                have e5 : fo = fo2 := e2.trans a1.symm
                have e6 : fo1 = fo2 := a2.trans a1.symm
                rw [e5] at d1 d2
                rw [e6] at e4 haty
                refine ⟨d1, fun t ht => ?_⟩
                by_cases htj : t < j
                · exact d2 t htj
                · obtain rfl : t = j := by omega
                  intro B' hB' hN
                  rw [hB] at hB'; cases hB'
                  rw [hfl]
                  exact ⟨e4, fun _ f hf => a4 f (by rw [haty] at hf; exact hf)⟩
              · rw [ey] at hv
                obtain ⟨f, rfl, hf1⟩ := strs_at (Option.some.inj hv)
                have hfm : f ∈ ys := List.mem_of_getElem? hf1
                have htlt : t < ys.length := by rw [List.getElem?_eq_some_iff] at hf1; exact hf1.1
                obtain ⟨ns, hns⟩ := Option.isSome_iff_exists.mp (K3.has hBN)
                have hat1 : atL fo2 B = ns := by unfold atL; rw [hns]; rfl
                have haty3 : atL fo2 p.name = ys := by unfold atL; rw [hys3]; rfl
                have hcn : c2 (.foL B) = some (.list (vStrs ns)) := by rw [X3.hfoL, hns]; rfl
                have hln := M3.get hcn
                have hget : getA (fo2.map fun q => (q.1, V.ref (adr1 (.foL q.1)))) B = some (.ref (adr1 (.foL B))) := lookB (f := fun k => V.ref (adr1 (.foL k))) (by rw [hns]; rfl)
                have hnsok : ns.all PyData.strOk = true := List.all_eq_true.mpr fun y hy => K3.ok w (x := B) (by rw [hat1]; exact hy)
                have hfok : PyData.strOk f = true := K3.ok w (x := p.name) (by rw [haty3]; exact hfm)
                have hnz : ns.length ≤ 101 := by rw [← hat1]; exact K3.len w hBN
                have hx := X3.at M3 (by simp) (by simp) ok.self
                have hd := X3.at M3 (by simp) (by simp) hdict
                obtain ⟨epf3, hfoT3⟩ := X3.hfo
                have hfo := M3.get hfoT3
                rw [X3.adrE .fo (by simp)] at hfo
                refine Op.memS hsub3 (Op.locs hl ?_)
                refine asg_name ?_; refine st_local rfl rfl ?_; (refine nameQ ?_; intro qq ee; refine s_cons ?_); refine s_if ?_; refine b_cmp rfl ?_; refine e_local rfl rfl rfl rfl ?_; refine e_sub (fun _ _ => rfl) ?_; refine e_attr rfl ?_; refine e_local rfl rfl rfl rfl ?_
                refine get_o hK (fun _ => by kernel_rfl) (.own hx hd) rfl rfl ?_
                refine e_local rfl rfl rfl rfl ?_
                refine sub_dict hfo hget ?_
                skip
                refine notin_list (n := 0) (.own hln) hfok (isD_strs hnsok) (by decide) (cd.fit (by decide)) (fun bb hbb => ?_)
                refine tr_bool ?_
                refine ⟨fun hb => ?_, fun hb => ?_⟩
                · have hnf : f ∉ ns := fun q => by
                    have := hbb.mpr (vStrs_mem.mpr q); rw [this] at hb; cases hb
                  (refine nameQ ?_; intro qq ee; refine s_cons ?_); refine s_expr rfl rfl ?_; refine c_meth rfl ?_; refine e_sub (fun _ _ => rfl) ?_; refine e_attr rfl ?_; refine e_local rfl rfl rfl rfl ?_
                  refine get_o hK (fun _ => by kernel_rfl) (.own hx hd) rfl rfl ?_
                  refine e_local rfl rfl rfl rfl ?_
                  refine sub_dict hfo hget ?_
                  refine m_builtin (.list hln) PySem.F.plainAttrs_list PySem.F.slot_list_append PySem.F.type_list_append rfl rfl ?_
                  refine a_cons rfl ?_; refine e_local rfl rfl rfl rfl ?_; refine a_nil ?_
                  refine append_own' hln (by rw [vStrs_len]; exact Nat.le_trans hnz (by decide)) (fun m2 h2 f2 => ?_)
                  refine s_cons ?_; refine s_assign rfl ?_; refine e_bool ?_; refine st_local rfl rfl ?_; refine s_nil ?_; refine s_nil ?_
                  obtain ⟨K2, hlt2⟩ := K3.push w hBN (f := f) (by rw [hat1]; exact hnf) (.fol hp (split_at hB) hBN (hsnd _ he) (K3.snd p.name f (by rw [haty3]; exact hfm)))
                  have hneB : p.name ≠ B := fun e => by rw [e, hns] at hys3; cases hys3; exact hnf hfm
                  refine ⟨k3 - 1, (kst hk3 htlt).1, (kst hk3 htlt).2, true, pushS fo2 B f, _, m2, rfl, sub_refl _, M3.set hcn h2 f2, X3.push hns, K2, by rw [pushS_lookup, if_neg hneB]; exact hys3, fun _ => ?_, by simp⟩
                  cases b2 with
                  | true => exact Nat.lt_trans hlt2 (hd1 rfl)
                  | false => rw [(hd0 rfl).1] at hlt2 ⊢; exact hlt2
                · have hfn : f ∈ ns := vStrs_mem.mp (hbb.mp (by cases bb with | true => rfl | false => cases hb))
                  refine s_nil ?_; refine s_nil ?_
                  refine ⟨k3 - 1, (kst hk3 htlt).1, (kst hk3 htlt).2, b2, fo2, c2, gm3, rfl, sub_refl _, M3, X3, K3, hys3, hd1, fun e => ?_⟩
                  obtain ⟨e1, e2, e3, e4⟩ := hd0 e
                  refine ⟨e1, e2, e3, fun f' hf' => ?_⟩
                  rw [take_snoc hf1] at hf'
                  rcases List.mem_append.mp hf' with z | z
                  · exact e4 f' z
                  · rw [List.mem_singleton] at z; subst z; rw [hat1]; exact hfn
          · rw [el] at hv
            obtain ⟨f, rfl, hf1⟩ := strs_at (Option.some.inj hv)
            have hfm : f ∈ fl := List.mem_of_getElem? hf1
            have htlt : t < fl.length := by rw [List.getElem?_eq_some_iff] at hf1; exact hf1.1
            obtain ⟨ns, hns⟩ := Option.isSome_iff_exists.mp (K1.has hBN)
            have hat1 : atL fo1 B = ns := by unfold atL; rw [hns]; rfl
            have hcn : c1 (.foL B) = some (.list (vStrs ns)) := by rw [X1.hfoL, hns]; rfl
            have hln := G.get hcn
            have hget : getA (fo1.map fun q => (q.1, V.ref (adr1 (.foL q.1)))) B = some (.ref (adr1 (.foL B))) := lookB (f := fun k => V.ref (adr1 (.foL k))) (by rw [hns]; rfl)
            have hnsok : ns.all PyData.strOk = true := List.all_eq_true.mpr fun y hy => K1.ok w (x := B) (by rw [hat1]; exact hy)
            have hfok : PyData.strOk f = true := by
              rcases (hsnd f hfm).kind with z | z
              · rw [z]; decide +kernel
              · exact w.tok f z
            have hnz : ns.length ≤ 101 := by rw [← hat1]; exact K1.len w hBN
            refine Op.memS hsub1 (Op.locs hl ?_)
            refine asg_name ?_
            refine st_local rfl rfl ?_
            (refine nameQ ?_; intro qq ee; refine s_cons ?_)
            refine Tr.mono (Q := fun fl' l m => fl' = .next ∧ ∃ b2 fo2 c2 gm2, LSub [("self", .ref (adr0 .self)), ("didadd", .bool b2), ("p", pV aProd p), ("i", .int j), ("B", .str B), ("hasempty", .bool (decide (eps ∈ fl.take t))), ("f", .str f)] l ∧ Sub gm2 m ∧ GS adr1 c2 ar (.list (vStrs fl)) gm2 ∧ FOx adr0 c0 adr1 c2 fo2 ∧ FoOk g st fo2 ∧ (b2 = true → lack g fo2 < lack g fo0) ∧ (b2 = false → fo2 = fo0 ∧ fo = fo0 ∧ b = false ∧ ∀ f ∈ fl.take (t + 1), f ≠ eps → f ∈ atL fo2 B)) ?_ ?_
            · refine s_if ?_; refine b_bool ?_; refine b_and_cons ?_; refine b_cmp rfl ?_; refine e_local rfl rfl rfl rfl ?_; refine e_str ?_; refine ne_ss ?_; refine tr_bool ?_
              refine ⟨fun hne => ?_, fun heq => ?_⟩
              · have hne : f ≠ eps := fun e => by rw [e] at hne; exact absurd hne (by decide)
                refine b_and_cons ?_; refine b_cmp rfl ?_; refine e_local rfl rfl rfl rfl ?_; refine e_sub (fun _ _ => rfl) ?_; refine e_attr rfl ?_; refine e_local rfl rfl rfl rfl ?_
                refine get_o hK (fun _ => by kernel_rfl) (.own hx hd) rfl rfl ?_
                refine e_local rfl rfl rfl rfl ?_
                refine sub_dict hfo hget ?_
                skip
                refine notin_list (n := 0) (.own hln) hfok (isD_strs hnsok) (by decide) (cd.fit (by decide)) (fun bb hbb => ?_)
                refine tr_bool ?_
                refine ⟨fun hb => ?_, fun hb => ?_⟩
                · refine b_and_nil ?_
                  have hnf : f ∉ ns := fun q => by
                    have := hbb.mpr (vStrs_mem.mpr q); rw [this] at hb; cases hb
                  refine only_t ?_
                  (refine nameQ ?_; intro qq ee; refine s_cons ?_); refine s_expr rfl rfl ?_; refine c_meth rfl ?_; refine e_sub (fun _ _ => rfl) ?_; refine e_attr rfl ?_; refine e_local rfl rfl rfl rfl ?_
                  refine get_o hK (fun _ => by kernel_rfl) (.own hx hd) rfl rfl ?_
                  refine e_local rfl rfl rfl rfl ?_
                  refine sub_dict hfo hget ?_
                  refine m_builtin (.list hln) PySem.F.plainAttrs_list PySem.F.slot_list_append PySem.F.type_list_append rfl rfl ?_
                  refine a_cons rfl ?_; refine e_local rfl rfl rfl rfl ?_; refine a_nil ?_
                  refine append_own' hln (by rw [vStrs_len]; exact Nat.le_trans hnz (by decide)) (fun m2 h2 f2 => ?_)
                  refine s_cons ?_; refine s_assign rfl ?_; refine e_bool ?_; refine st_local rfl rfl ?_; refine s_nil ?_
                  obtain ⟨K2, hlt2⟩ := K1.push w hBN (f := f) (by rw [hat1]; exact hnf) (.fst hp (split_at hB) hBN (hsnd f hfm) hne)
                  refine ⟨rfl, true, pushS fo1 B f, _, m2, rfl, sub_refl _, G.set hcn h2 f2, X1.push hns, K2, fun _ => ?_, by simp⟩
                  cases b1 with
                  | true => exact Nat.lt_trans hlt2 (hc1 rfl)
                  | false => rw [(hc0 rfl).1] at hlt2 ⊢; exact hlt2
                · have hfn : f ∈ ns := vStrs_mem.mp (hbb.mp (by cases bb with | true => rfl | false => cases hb))
                  refine only_f ?_
                  refine s_nil ?_
                  refine ⟨rfl, b1, fo1, c1, gm1, rfl, sub_refl _, G, X1, K1, hc1, fun e => ?_⟩
                  obtain ⟨e1, e2, e3, e4⟩ := hc0 e
                  refine ⟨e1, e2, e3, fun f' hf' hne' => ?_⟩
                  rw [take_snoc hf1] at hf'
                  rcases List.mem_append.mp hf' with z | z
                  · exact e4 f' z hne'
                  · rw [List.mem_singleton] at z; subst z; rw [hat1]; exact hfn
              · have heq : f = eps := by
                  cases q : decide (f = Str.ofString "<empty>") with
                  | true => exact of_decide_eq_true q
                  | false => rw [q] at heq; cases heq
                refine only_f ?_
                refine s_nil ?_
                refine ⟨rfl, b1, fo1, c1, gm1, rfl, sub_refl _, G, X1, K1, hc1, fun e => ?_⟩
                obtain ⟨e1, e2, e3, e4⟩ := hc0 e
                refine ⟨e1, e2, e3, fun f' hf' hne' => ?_⟩
                rw [take_snoc hf1] at hf'
                rcases List.mem_append.mp hf' with z | z
                · exact e4 f' z hne'
                · rw [List.mem_singleton] at z; subst z; exact absurd heq hne'
            · rintro f' l m ⟨rfl, b2, fo2, c2, gm2, hl, hsub2, G2, X2, K2, hc1', hc0'⟩
              refine s_cons ?_
              refine Tr.memS hsub2 (Tr.locs hl ?_)
              refine s_if ?_; refine b_cmp rfl ?_; refine e_local rfl rfl rfl rfl ?_; refine e_str ?_; refine eq_ss ?_; refine tr_bool ?_
              have hdec : f ≠ eps → decide (eps ∈ fl.take (t + 1)) = decide (eps ∈ fl.take t) := fun he => by
                congr 1; rw [take_snoc hf1, List.mem_append, List.mem_singleton]
                exact propext ⟨fun q => q.resolve_right fun q => he q.symm, .inl⟩
              refine ⟨fun he => ?_, fun he => ?_⟩
              · have he : f = eps := of_decide_eq_true he
                have : decide (eps ∈ fl.take (t + 1)) = true := decide_eq_true (by rw [take_snoc hf1, List.mem_append]; exact .inr (by rw [he]; exact .head _))
                (refine nameQ ?_; intro qq ee; refine s_cons ?_); refine s_assign rfl ?_; refine e_bool ?_; refine st_local rfl rfl ?_; refine s_nil ?_; refine s_nil ?_
                exact ⟨k2 - 1, (kst hk2 htlt).1, (kst hk2 htlt).2, b2, fo2, adr1, c2, gm2, by rw [this]; exact rfl, sub_refl _, G2, X2, K2, hc1', hc0'⟩
              · have he : ¬ f = eps := of_decide_eq_false he
                refine s_nil ?_; refine s_nil ?_
                exact ⟨k2 - 1, (kst hk2 htlt).1, (kst hk2 htlt).2, b2, fo2, adr1, c2, gm2, by rw [hdec he]; exact rfl, sub_refl _, G2, X2, K2, hc1', hc0'⟩
end
end Mine
end
section
set_option autoImplicit false
namespace Mine
theorem GWf.withFi {g : GR} (w : GWf g) (fi : List (Str × List Str)) : GWf { g with fi := fi } := ⟨w.nodup, w.tok, w.noeps, w.tz, w.nz, w.syms, w.names, w.pn, w.blen, w.pz⟩
theorem FiOk.withFi {g : GR} {fi : List (Str × List Str)} (K : FiOk g fi) (fi' : List (Str × List Str)) : FiOk { g with fi := fi' } fi := ⟨K.keys, K.term, K.nod, K.snd⟩
theorem look_nil (l : List (Str × List Int)) (x : Str) : ((l.map fun q => (q.1, ([] : List Str))).lookup x).getD [] = [] := by
  induction l with
  | nil => rfl
  | cons a l ih =>
    rw [List.map_cons, List.lookup_cons]
    split
    · rfl
    · exact ih
theorem FoOk.begin {g : GR} {st : Str} (hst : st ∈ NN g) : FoOk g st (setS (g.no.map fun q => (q.1, ([] : List Str))) st [dend]) := by
  have hat : ∀ x, atL (setS (g.no.map fun q => (q.1, ([] : List Str))) st [dend]) x = if x = st then [dend] else [] := fun x => by
    unfold atL
    rw [setS_lookup]
    split
    · rename_i e; subst e
      have : ((g.no.map fun q => (q.1, ([] : List Str))).lookup x).isSome = true := by
        rw [lookup_contains, List.map_map, List.contains_iff_mem]; exact hst
      obtain ⟨z, hz⟩ := Option.isSome_iff_exists.mp this
      rw [hz]; rfl
    · exact look_nil g.no x
  refine ⟨by rw [setS_keys, List.map_map]; rfl, fun n hn => ?_, fun x f hf => ?_, ?_⟩
  · rw [hat]; split <;> simp
  · rw [hat] at hf
    split at hf
    · rename_i e; rw [List.mem_singleton] at hf; rw [e, hf]; exact .start
    · cases hf
  · rw [hat, if_pos rfl]; exact .head _
section
variable {W : Wd} {A : Around} {env : Env} {outer : Outs} {loc : Loc} {mem : Mem} {E : Ex W}
theorem cfo_spec {g : GR} {a : Addr} {gm : Mem} {st : Str} {Q : V → Loc → Mem → Prop} (hK : W.K = hdK W.w.params) (c : Calm A 400 4000) (G : GMem aGrammar aProd g a gm) (w : GWf g) (h0 : g.fi = []) (h1 : g.fo = []) (hst : st ∈ NN g) (hs0 : 0 < st.cps.size) (hs1 : st.cps.size ≤ 100)
    (h : ∀ m adr cc fi fo, MemIs adr cc m → GOk aGrammar aProd adr cc { g with fi := fi, fo := fo } → adr .self = a → FiOk g fi → (∀ p ∈ g.prods, Closed g fi p) → FoOk g st fo → (∀ p ∈ g.prods, ∀ i, FoCl g fi fo p i) → Q (.ref (adr .fo)) loc m) : OpV W A env outer (fun vs => call (.ref aCFo) vs) [.ref a, .str st] loc gm Q E := by
  obtain ⟨adr, cc, M, ok, rfl⟩ := G
  refine call_fn (bs := [("self", .ref (adr .self)), ("start", .str st)]) (by rw [hK]; exact compFollow.at _) (by rw [hK]; first | rfl | kernel_rfl | decide +kernel) (c.room (by decide)) ?_ (by intro y hy; simp at hy; rcases hy with rfl | rfl <;> rfl) (by decide) rfl rfl rfl ?_
  · intro F s vs hb hk r
    cases r.view with
    | cons r1 r2 =>
      cases r2 with
      | cons r2 r3 =>
        cases r3
        first
          | exact ⟨_, BindsTo.of_eq rfl, .cons r1 (.cons r2 .nil)⟩
          | exact ⟨_, binds_K hk rfl (by rw [hK]; rfl) rfl rfl rfl, .cons r1 (.cons r2 .nil)⟩
  · intro L outer
    have cd := c.deeper (cfoE L)
    obtain ⟨epd, hdict⟩ := ok.dict
    obtain ⟨epf, hfi⟩ := ok.fi
    obtain ⟨epo, hfo⟩ := ok.fo
    have hx := M.get ok.self
    have hd := M.get hdict
    have hf := M.get hfi
    have ho := M.get hfo
    (refine nameS ?_; intro aa vv oo qq ee; refine s_cons ?_); refine s_if ?_; refine b_value rfl ?_; refine e_attr rfl ?_; refine e_local rfl rfl rfl rfl ?_
    refine get_o hK (fun _ => by kernel_rfl) (.own hx hd) rfl rfl ?_
    skip
    refine tr_dict ho (by rw [h1]; exact (by decide : ((0 : Nat) : Int) < 2 ^ 63)) ?_
    rw [h1]
    skip
    refine only_f ?_
    refine s_nil ?_; refine s_cons ?_; refine s_if ?_; refine b_not ?_; refine b_value rfl ?_; refine e_attr rfl ?_; refine e_local rfl rfl rfl rfl ?_
    refine get_o hK (fun _ => by kernel_rfl) (.own hx hd) rfl rfl ?_
    skip
    refine tr_dict hf (by rw [h0]; exact (by decide : ((0 : Nat) : Int) < 2 ^ 63)) ?_
    rw [h0]
    skip
    refine only_t ?_
    (refine nameQ ?_; intro qq ee; refine s_cons ?_); refine s_expr rfl rfl ?_; refine c_meth rfl ?_; refine e_local rfl rfl rfl rfl ?_
    refine m_own0 (.own hx hd) (by rw [hK]; first | rfl | kernel_rfl | decide +kernel) (by rw [hK]; first | rfl | kernel_rfl | decide +kernel) (by rw [hK]; first | rfl | kernel_rfl | decide +kernel) rfl (by rw [hK]; first | rfl | kernel_rfl | decide +kernel) ?_
    refine cf_spec hK (cd.mono (by decide) (by decide)) ⟨adr, cc, M, ok, rfl⟩ w h0 (fun m1 adr1 c1 fi M1 ok1 ea Ki hcl => ?_)
    refine s_nil ?_
    refine s_cons ?_
    rw [← ea]
    obtain ⟨n1, n2, n3⟩ := List.nodup_append.mp w.nodup
    have htz := w.tz
    have hnz := w.nz
    obtain ⟨epo1, hfo1⟩ := ok1.fo
    have X0 : FOx adr1 c1 adr1 c1 [] := ⟨fun _ _ => rfl, fun _ _ _ => rfl, ⟨epo1, by rw [hfo1]; show some (AObj.dict (g.fo.map _) _) = _; rw [h1]⟩, fun k => by rw [ok1.foL]; show (g.fo.lookup k).map _ = _; rw [h1]⟩
    refine cfo_names (g := { g with fi := fi }) hK cd.handled ok1 M1 X0 (rfl) n2 (by simp) (by simp; omega) (fun l m adr2 c2 hl M2 X2 => ?_)
    rw [List.nil_append] at X2
    refine s_cons ?_
    refine Tr.locs hl ?_
    refine s_if ?_; refine b_not ?_; refine b_value rfl ?_; refine e_local rfl rfl rfl rfl ?_
    refine tr_str (by show (st.cps.size : Int) < _; omega) ?_
    have hne : ((st.length : Int) != 0) = true := by
      have : (st.length : Int) ≠ 0 := by show (st.cps.size : Int) ≠ 0; omega
      simpa using this
    rw [hne]
    skip
    refine only_f ?_
    refine s_nil ?_; refine s_cons ?_; refine s_assign_sub rfl ?_; refine e_list ?_; refine a_cons rfl ?_; refine e_str ?_; refine a_nil ?_
    refine new_own' (show 1 ≤ sizeLine by decide) (fun b m3 ha h3 f3 => ?_)
    obtain ⟨epd1, hdict1⟩ := ok1.dict
    have hx := X2.at M2 (by simp) (by simp) ok1.self
    have hd := X2.at M2 (by simp) (by simp) hdict1
    obtain ⟨epf2, hfo2⟩ := X2.hfo
    have hf := M2.get hfo2
    rw [X2.adrE .fo (by simp)] at hf
    have hx : m3 (adr1 .self) = _ := (f3 _ (nex hx ha)).trans hx
    have hd : m3 (adr1 .dict) = _ := (f3 _ (nex hd ha)).trans hd
    have hf : m3 (adr1 .fo) = _ := (f3 _ (nex hf ha)).trans hf
    refine e_attr rfl ?_; refine e_local rfl rfl rfl rfl ?_
    refine get_o hK (fun _ => by kernel_rfl) (.own hx hd) rfl rfl ?_
    refine e_local rfl rfl rfl rfl ?_
    refine setItem_dict' hf (by rw [List.length_map, List.length_map]; exact Nat.le_trans hnz (by decide)) (fun m4 ep4 h4 f4 => ?_)
    have hlook : ∃ old, (g.no.map fun q => (q.1, ([] : List Str))).lookup st = some old := Option.isSome_iff_exists.mp (by rw [lookup_contains, List.map_map, List.contains_iff_mem]; exact hst)
    obtain ⟨old, hold⟩ := hlook
    obtain ⟨adr5, c5, gm5, hs5, G5, X5⟩ := FOx.reset (GF.of M2) X2 (ys := [dend]) hold ha h3 f3 h4 f4
    obtain ⟨gm6, hs6, M6⟩ := G5.done
    refine s_cons ?_
    refine Tr.memS (fun a x e => hs5 a x (hs6 a x e)) ?_
    refine cfo_while (g := { g with fi := fi }) hK (cd.mono (by decide) (by decide)) ok1 (w.withFi fi) (Ki.withFi fi) M6 X5 (FoOk.begin (g := { g with fi := fi }) hst) (rfl) (fun l m gm7 adr7 c7 fo7 hl hsub M7 X7 K7 hcl7 => ?_)
    refine s_cons ?_
    refine Tr.memS hsub (Tr.locs hl ?_)
    have hx := X7.at M7 (by simp) (by simp) ok1.self
    have hd := X7.at M7 (by simp) (by simp) hdict1
    refine s_ret ?_; refine e_attr rfl ?_; refine e_local rfl rfl rfl rfl ?_
    refine get_o hK (fun _ => by kernel_rfl) (.own hx hd) rfl rfl ?_
    skip
    refine ⟨gm7, sub_refl _, ?_⟩
    have := h gm7 adr7 c7 fi fo7 M7 (X7.gok ok1) ((X7.adrE .self (by simp)).trans ea) Ki hcl ⟨K7.keys, K7.nod, K7.snd, K7.st⟩ hcl7
    rw [X7.adrE .fo (by simp)] at this
    exact this
end
end Mine
end
section
set_option autoImplicit false
namespace Mine
noncomputable def SIGNS : List Str := ["S", "A", "B", "a", "b", "c"]
noncomputable def signAt (k : Int) : Str := SIGNS.getD k.toNat "a"
noncomputable def fillB : Nat → List Int → List Str × List Int
  | 0, ts => ([], ts)
  | n + 1, [] => ("a" :: (fillB n []).1, (fillB n []).2)
  | n + 1, t :: ts => (signAt (t.fmod 6) :: (fillB n ts).1, (fillB n ts).2)
noncomputable def lawBody (limit : Int) : List Int → List Str × List Int
  | [] => ([], [])
  | t :: ts => fillB (t.fmod limit).toNat ts
theorem fillB_len : ∀ (n : Nat) (ts : List Int), (fillB n ts).1.length = n
  | 0, ts => rfl
  | n + 1, [] => by rw [fillB]; simp [fillB_len n]
  | n + 1, t :: ts => by rw [fillB]; simp [fillB_len n]
theorem fillB_rest : ∀ (n : Nat) (ts : List Int), (fillB n ts).2.length ≤ ts.length
  | 0, ts => Nat.le_refl _
  | n + 1, [] => by rw [fillB]; exact fillB_rest n []
  | n + 1, t :: ts => by rw [fillB]; exact Nat.le_succ_of_le (fillB_rest n ts)
theorem signAt_mem (k : Int) : signAt k ∈ SIGNS := by
  unfold signAt
  rw [List.getD_eq_getElem?_getD]
  cases h : SIGNS[k.toNat]? with
  | none => decide +kernel
  | some x => exact List.mem_of_getElem? h
theorem fillB_mem : ∀ (n : Nat) (ts : List Int), ∀ x ∈ (fillB n ts).1, x ∈ SIGNS
  | 0, ts => fun x hx => nomatch hx
  | n + 1, [] => fun x hx => by
    rw [fillB] at hx
    rcases List.mem_cons.mp hx with rfl | hx
    · decide +kernel
    · exact fillB_mem n [] x hx
  | n + 1, t :: ts => fun x hx => by
    rw [fillB] at hx
    rcases List.mem_cons.mp hx with rfl | hx
    · exact signAt_mem _
    · exact fillB_mem n ts x hx
theorem lawBody_mem (limit : Int) (ts : List Int) : ∀ x ∈ (lawBody limit ts).1, x ∈ SIGNS := by
  cases ts with
  | nil => exact fun x hx => nomatch hx
  | cons t ts => exact fillB_mem _ _
theorem lawBody_rest (limit : Int) (ts : List Int) : (lawBody limit ts).2.length ≤ ts.length := by
  cases ts with
  | nil => exact Nat.le_refl _
  | cons t ts => exact Nat.le_succ_of_le (fillB_rest _ _)
theorem fmod_rng {a b : Int} (hb : 0 < b) : 0 ≤ a.fmod b ∧ a.fmod b < b := ⟨Int.fmod_nonneg_of_pos a hb, Int.fmod_lt_of_pos a hb⟩
theorem lawBody_len {limit : Int} (hb : 0 < limit) (ts : List Int) : (lawBody limit ts).1.length < limit.toNat := by
  cases ts with
  | nil => show 0 < _; omega
  | cons t ts =>
    show (fillB _ _).1.length < _
    rw [fillB_len]; have := fmod_rng (a := t) hb; omega
section
variable {W : Wd} {A : Around} {env : Env} {outer : Outs} {loc : Loc} {mem : Mem} {E : Ex W}
theorem signs_spec {Q : V → Loc → Mem → Prop} (hK : W.K = hdK W.w.params) (c : Calm A 900 8000) (h : Q (.lst (vStrs SIGNS)) loc mem) : OpV W A env outer (fun vs => call (.ref 259) vs) [] loc mem Q E := by
  refine call_fn (bs := []) (by rw [hK]; exact lSigns.at _) (by rw [hK]; first | rfl | kernel_rfl | decide +kernel) (c.room (by decide)) ?_ (by intro y hy; cases hy) (by decide) rfl rfl rfl ?_
  · intro F s vs hb hk r
    cases r.view
    exact ⟨_, BindsTo.of_eq rfl, .nil⟩
  · intro L outer
    have cd := c.deeper (envX "_law_SIGNS" lSigns.scope L 259 lSigns.code [])
    (refine nameS ?_; intro aa vv oo qq ee; refine s_cons ?_); refine s_ret ?_; refine e_list ?_; refine a_cons rfl ?_; refine e_str ?_; refine a_cons rfl ?_; refine e_str ?_; refine a_cons rfl ?_; refine e_str ?_; refine a_cons rfl ?_; refine e_str ?_; refine a_cons rfl ?_; refine e_str ?_; refine a_cons rfl ?_; refine e_str ?_; refine a_nil ?_
    refine new_lst (show 6 ≤ sizeLine by decide) ?_
    skip
    exact ⟨_, sub_refl _, h⟩
inductive P2O_J1 (mem : Mem) (ta : Addr) (ts : List Int) (limit : Int) (n : Nat) (bo : Addr) (k : Nat) (l : Loc) (m : Mem) : Prop
  | mk (h1_ : LSub [("tape", .ref ta), ("limit", .int limit), ("size", .int n), ("body", .ref bo)] l) (bs : List Str) (us : List Int) (h2_ : m ta = some (.list (us.map .int))) (h3_ : m bo = some (.list (vStrs bs))) (h4_ : (∀ b x, b ≠ ta → mem b = some x → m b = some x)) (h5_ : k + bs.length = n) (h6_ : (bs ++ (fillB k us).1, (fillB k us).2) = lawBody limit ts) (h7_ : us.length ≤ 1000)
theorem body_spec {ta : Addr} {ts : List Int} {limit : Int} {Q : V → Loc → Mem → Prop} (hK : W.K = hdK W.w.params) (c : Calm A 800 7000) (hta : mem ta = some (.list (ts.map .int))) (hz : ts.length ≤ 1000) (hl0 : 0 < limit) (hl1 : limit ≤ 100)
    (h : Q (.tup (vStrs (lawBody limit ts).1)) loc (mset mem ta (.list ((lawBody limit ts).2.map .int)))) : OpV W A env outer (fun vs => call (.ref 266) vs) [.ref ta, .int limit] loc mem Q E := by
  refine call_fn (bs := [("tape", .ref ta), ("limit", .int limit)]) (by rw [hK]; exact lBody.at _) (by rw [hK]; first | rfl | kernel_rfl | decide +kernel) (c.room (by decide)) ?_ (by intro y hy; simp at hy; rcases hy with rfl | rfl <;> rfl) (by decide) rfl rfl rfl ?_
  · intro F s vs hb hk r
    cases r.view with
    | cons r1 r2 =>
      cases r2 with
      | cons r2 r3 =>
        cases r3
        exact ⟨_, BindsTo.of_eq rfl, .cons r1 (.cons r2 .nil)⟩
  · intro L outer
    have cd := c.deeper (envX "_law_body" lBody.scope L 266 lBody.code [])
    refine s_cons ?_
    -- the size
    refine Tr.mono (Q := fun f l m => f = .next ∧ ∃ (n : Nat) (ts' : List Int), LSub [("tape", .ref ta), ("limit", .int limit), ("size", .int n)] l ∧ m = mset mem ta (.list (ts'.map .int)) ∧ fillB n ts' = lawBody limit ts ∧ ts'.length ≤ ts.length ∧ n ≤ 100) ?_ ?_
    · refine s_assign rfl ?_; refine e_ifexp ?_; refine b_value rfl ?_; refine e_local rfl rfl rfl rfl ?_
      refine tr_list (.own hta) (by simp; omega) ?_
      cases ts with
      | nil =>
        skip
        refine only_f ?_
        refine e_int ?_; refine st_local rfl rfl ?_
        refine ⟨rfl, 0, [], rfl, (mset_eq hta).symm, rfl, Nat.le_refl _, by omega⟩
      | cons t ts =>
        skip
        refine only_t ?_
        refine e_binop ?_; refine c_meth rfl ?_; refine e_local rfl rfl rfl rfl ?_
        refine m_builtin (.list hta) PySem.F.plainAttrs_list PySem.F.slot_list_pop (by show builtinType _ = _; rw [builtinType_eq_fast]; kernel_rfl) rfl rfl ?_
        refine a_cons rfl ?_; refine e_int ?_; refine a_nil ?_
        refine pop0_own (xs := ts.map .int) hta (Nat.le_trans (show _ ≤ 1000 from (by simp at hz ⊢; omega)) (by decide)) ?_
        refine e_local rfl rfl rfl rfl ?_
        refine mod_ii (by omega) ?_
        refine st_local rfl rfl ?_
        obtain ⟨r1, r2⟩ := fmod_rng (a := t) hl0
        have e : t.fmod limit = ((t.fmod limit).toNat : Int) := (Int.toNat_of_nonneg r1).symm
        refine ⟨rfl, (t.fmod limit).toNat, ts, by rw [← e]; exact rfl, rfl, rfl, Nat.le_succ _, by omega⟩
    · rintro f l m ⟨rfl, n, ts', hl, rfl, hf, htz, hn⟩
      (refine nameS ?_; intro aa vv oo qq ee; refine s_cons ?_)
      refine Tr.locs hl ?_
      refine s_assign rfl ?_; refine e_list ?_; refine a_nil ?_
      refine new_own' (show 0 ≤ sizeLine by decide) (fun bo m1 hbo h1 f1 => ?_)
      have hne : bo ≠ ta := fun e => by rw [e, mset_self] at hbo; cases hbo
      refine st_local rfl rfl ?_; refine s_cons ?_
      let J1 : Nat → Loc → Mem → Prop := P2O_J1 mem ta ts limit n bo
      refine s_while J1 ?_ n ⟨rfl, [], ts', by rw [f1 _ (Ne.symm hne), mset_self], h1, fun b x hb hx => ?_, rfl, hf, by omega⟩
      · rintro k l m ⟨hl, bs, us, m1, m2, keep, hk, hfin, huz⟩
        refine Tr.locs hl ?_
        refine b_cmp rfl ?_; refine c_name rfl ?_; refine e_boot rfl rfl rfl rfl rfl (by rw [hK]; rfl) rfl (by decide) ?_; refine c_builtin rfl rfl ?_; refine a_cons rfl ?_; refine e_local rfl rfl rfl rfl ?_; refine a_nil ?_
        refine len_sq (.own m2) (by rw [vStrs_len]; omega) ?_
        refine e_local rfl rfl rfl rfl ?_; refine lt_ii ?_; refine tr_bool ?_
        refine ⟨fun hb => ?_, fun hb => ?_⟩
        · have hb := of_decide_eq_true hb
          rw [vStrs_len] at hb
          obtain ⟨k', rfl⟩ : ∃ k', k = k' + 1 := ⟨k - 1, by omega⟩
          (refine nameQ ?_; intro qq ee; refine s_cons ?_); refine s_expr rfl rfl ?_; refine c_meth rfl ?_; refine e_local rfl rfl rfl rfl ?_
          refine m_builtin (.list m2) PySem.F.plainAttrs_list PySem.F.slot_list_append PySem.F.type_list_append rfl rfl ?_
          refine a_cons rfl ?_; refine e_ifexp ?_; refine b_value rfl ?_; refine e_local rfl rfl rfl rfl ?_
          refine tr_list (.own m1) (by simp; omega) ?_
          cases us with
          | nil =>
            skip
            refine only_f ?_
            refine e_str ?_; refine a_nil ?_
            refine append_own' m2 (by rw [vStrs_len]; exact Nat.le_trans (show bs.length ≤ 100 by omega) (by decide)) (fun m3 h3 f3 => ?_)
            refine s_nil ?_
            rw [fillB] at hfin
            refine ⟨k', by omega, rfl, bs ++ [("a" : Str)], [], by rw [f3 _ (Ne.symm hne)]; exact m1, by rw [h3]; simp [vStrs], fun b x hb hx => ?_, by simp; omega, ?_, by simp⟩
            · by_cases e : b = bo
              · subst e; have := hbo; rw [mset_ne hne] at this; rw [this] at hx; cases hx
              · rw [f3 b e]; exact keep b x hb hx
            · rw [List.append_assoc]; exact hfin
          | cons u us =>
            skip
            refine only_t ?_
            refine e_sub (fun _ _ => rfl) ?_; refine c_name rfl ?_; refine e_topG rfl rfl rfl rfl (by rw [hK]; rfl) ?_; refine c_top0 (by rw [hK]; rfl) ?_
            refine signs_spec hK (cd.mono (by decide) (by decide)) ?_
            refine e_binop ?_; refine c_meth rfl ?_; refine e_local rfl rfl rfl rfl ?_
            refine m_builtin (.list m1) PySem.F.plainAttrs_list PySem.F.slot_list_pop (by show builtinType _ = _; rw [builtinType_eq_fast]; kernel_rfl) rfl rfl ?_
            refine a_cons rfl ?_; refine e_int ?_; refine a_nil ?_
            refine pop0_own (xs := us.map .int) m1 (Nat.le_trans (show _ ≤ 1000 from (by simp at huz ⊢; omega)) (by decide)) ?_
            refine e_int ?_
            refine mod_ii (by decide) ?_
            obtain ⟨r1, r2⟩ := fmod_rng (a := u) (b := 6) (by decide)
            refine sub_sq (.lst _) r1 (by omega) (x := .str (signAt (u.fmod 6))) ?_ ?_
            · have hlt : (u.fmod 6).toNat < SIGNS.length := by show _ < 6; omega
              refine vStrs_get ?_
              unfold signAt
              rw [List.getD_eq_getElem?_getD, List.getElem?_eq_getElem hlt]; rfl
            refine a_nil ?_
            have m2' : mset m ta (.list (us.map .int)) bo = some (.list (vStrs bs)) := by rw [mset_ne hne]; exact m2
            refine append_own' m2' (by rw [vStrs_len]; exact Nat.le_trans (show bs.length ≤ 100 by omega) (by decide)) (fun m3 h3 f3 => ?_)
            refine s_nil ?_
            rw [fillB] at hfin
            refine ⟨k', by omega, rfl, bs ++ [signAt (u.fmod 6)], us, by rw [f3 _ (Ne.symm hne), mset_self], by rw [h3]; simp [vStrs], fun b x hb hx => ?_, by simp; omega, ?_, by simp at huz; omega⟩
            · by_cases e : b = bo
              · subst e; have := hbo; rw [mset_ne hne] at this; rw [this] at hx; cases hx
              · rw [f3 b e, mset_ne hb]; exact keep b x hb hx
            · rw [List.append_assoc]; exact hfin
        · have hb := of_decide_eq_false hb
          rw [vStrs_len] at hb
          obtain rfl : k = 0 := by omega
          refine s_nil ?_; refine s_cons ?_; refine s_ret ?_; refine c_name rfl ?_; refine e_boot rfl rfl rfl rfl rfl (by rw [hK]; rfl) rfl (by decide) ?_; refine c_type rfl rfl ?_; refine a_cons rfl ?_; refine e_local rfl rfl rfl rfl ?_; refine a_nil ?_
          refine tuple_list (.own m2) (by rw [vStrs_len]; exact Nat.le_trans (show bs.length ≤ 100 by omega) (by decide)) ?_
          skip
          rw [fillB, List.append_nil] at hfin
          refine ⟨mset mem ta (.list (us.map .int)), fun b x hx => ?_, ?_⟩
          · by_cases e : b = ta
            · subst e; rw [mset_self] at hx; rw [m1]; exact hx
            · rw [mset_ne e] at hx; exact keep b x e hx
          · rw [← hfin] at h; exact h
      · have hx2 : mset mem ta (.list (ts'.map .int)) b = some x := by rw [mset_ne hb]; exact hx
        rw [f1 b (nex hx2 hbo)]; exact hx2
end
end Mine
end
section
set_option autoImplicit false
namespace Mine
noncomputable abbrev Rule := Str × List Str
noncomputable def ruleV (r : Rule) : V := .tup [.str r.1, .tup (vStrs r.2)]
noncomputable def NAMES : List Str := ["S", "A", "B"]
noncomputable def us (x : Str) : Str := x ++ ("_" : Str)
noncomputable def addTail (left : Str) (body : List Str) (T : List Rule) (k : Nat) : List Rule :=
  let y := body.getD k ""
  let row : Rule := (us y, body.drop (k + 1) ++ [us left])
  if y ∈ NAMES ∧ row ∉ T then T ++ [row] else T
noncomputable def tails0 (start : Str) : List Rule := [(us start, ["end"]), ("S_", ["S_"]), ("A_", ["A_"]), ("B_", ["B_"])]
noncomputable def tailsOf (T : List Rule) (r : Rule) : List Rule := (List.range r.2.length).foldl (addTail r.1 r.2) T
noncomputable def lawTails (R : List Rule) (start : Str) : List Rule := R.foldl tailsOf (tails0 start)
theorem vStrs_inj {a b : List Str} (h : vStrs a = vStrs b) : a = b := by
  unfold vStrs at h
  exact (List.map_inj_right (fun x y e => by cases e; rfl)).mp h
theorem ruleV_inj {a b : Rule} (h : ruleV a = ruleV b) : a = b := by
  obtain ⟨a1, a2⟩ := a
  obtain ⟨b1, b2⟩ := b
  unfold ruleV at h
  injection h with h
  injection h with h1 h2
  injection h1 with h1
  injection h2 with h2
  injection h2 with h2
  have h2 := vStrs_inj h2
  dsimp only at h1 h2
  rw [h1, h2]
theorem ruleV_mem {a : Rule} {T : List Rule} : ruleV a ∈ T.map ruleV ↔ a ∈ T := by
  rw [List.mem_map]
  exact ⟨fun ⟨b, hb, e⟩ => ruleV_inj e ▸ hb, fun h => ⟨a, h, rfl⟩⟩
noncomputable def SYMS : List Str := SIGNS ++ (["S_", "A_", "B_", "end"] : List Str)
theorem syms_ok : ∀ s ∈ SYMS, PyData.strOk s = true ∧ s.cps.size ≤ 20 := by decide +kernel
theorem us_syms : ∀ s ∈ NAMES, us s ∈ SYMS := by decide +kernel
theorem names_syms : ∀ s ∈ NAMES, s ∈ SYMS := by decide +kernel
theorem signs_syms : ∀ s ∈ SIGNS, s ∈ SYMS := fun s h => List.mem_append_left _ h
theorem in_SAB : ∀ s ∈ SIGNS, strIn s "SAB" = decide (s ∈ NAMES) := by decide +kernel
structure RuleOk (r : Rule) : Prop where
  left : r.1 ∈ SYMS
  len : r.2.length ≤ 20
  body : ∀ y ∈ r.2, y ∈ SYMS
theorem RuleOk.isD {r : Rule} (h : RuleOk r) : isD 2 (ruleV r) = true := by
  unfold ruleV
  show (List.all [V.str r.1, V.tup (vStrs r.2)] (Mine.isD 1)) = true
  simp only [List.all_cons, List.all_nil, Bool.and_true, Bool.and_eq_true]
  refine ⟨(syms_ok _ h.left).1, ?_⟩
  show (vStrs r.2).all (Mine.isD 0) = true
  exact isD_strs (List.all_eq_true.mpr fun y hy => (syms_ok y (h.body y hy)).1)
structure RuleG (r : Rule) : Prop where
  left : r.1 ∈ NAMES
  len : r.2.length ≤ 10
  body : ∀ y ∈ r.2, y ∈ SIGNS
theorem addTail_len (left : Str) (body : List Str) (T : List Rule) (k : Nat) : (addTail left body T k).length ≤ T.length + 1 := by
  unfold addTail; dsimp only; split <;> simp
theorem row_ok {r : Rule} (h : RuleG r) {k : Nat} {y : Str} (hy : y ∈ NAMES) : RuleOk (us y, r.2.drop (k + 1) ++ [us r.1]) where
  left := us_syms y hy
  len := by simp; have := h.len; omega
  body := fun z hz => by
    rcases List.mem_append.mp hz with hz | hz
    · exact signs_syms z (h.body z (List.mem_of_mem_drop hz))
    · rw [List.mem_singleton] at hz; rw [hz]; exact us_syms _ h.left
theorem addTail_ok {r : Rule} (h : RuleG r) {T : List Rule} (hT : ∀ q ∈ T, RuleOk q) (k : Nat) : ∀ q ∈ addTail r.1 r.2 T k, RuleOk q := by
  unfold addTail; dsimp only
  split
  · rename_i hh
    intro q hq
    rcases List.mem_append.mp hq with hq | hq
    · exact hT q hq
    · rw [List.mem_singleton] at hq; rw [hq]; exact row_ok h hh.1
  · exact hT
theorem foldTail_ok {r : Rule} (h : RuleG r) (ks : List Nat) {T : List Rule} (hT : ∀ q ∈ T, RuleOk q) : ∀ q ∈ ks.foldl (addTail r.1 r.2) T, RuleOk q := by
  induction ks generalizing T with
  | nil => exact hT
  | cons k ks ih => exact ih (addTail_ok h hT k)
theorem foldTail_len (left : Str) (body : List Str) (ks : List Nat) (T : List Rule) : (ks.foldl (addTail left body) T).length ≤ T.length + ks.length := by
  induction ks generalizing T with
  | nil => exact Nat.le_refl _
  | cons k ks ih =>
    have := ih (addTail left body T k); have := addTail_len left body T k
    rw [List.foldl_cons, List.length_cons]; omega
theorem tails0_ok {start : Str} (h : start ∈ NAMES) : ∀ q ∈ tails0 start, RuleOk q := by
  intro q hq
  unfold tails0 at hq
  simp only [List.mem_cons, List.not_mem_nil, or_false] at hq
  rcases hq with rfl | rfl | rfl | rfl
  · exact ⟨us_syms _ h, by simp, (show ∀ y ∈ (["end"] : List Str), y ∈ SYMS by decide +kernel)⟩
  · exact ⟨by decide +kernel, by decide, by decide +kernel⟩
  · exact ⟨by decide +kernel, by decide, by decide +kernel⟩
  · exact ⟨by decide +kernel, by decide, by decide +kernel⟩
theorem foldTails {R : List Rule} (hR : ∀ r ∈ R, RuleG r) {T : List Rule} (hT : ∀ q ∈ T, RuleOk q) : (∀ q ∈ R.foldl tailsOf T, RuleOk q) ∧ (R.foldl tailsOf T).length ≤ T.length + 10 * R.length := by
  induction R generalizing T with
  | nil => exact ⟨hT, Nat.le_refl _⟩
  | cons r R ih =>
    have h := hR r (.head _)
    obtain ⟨a, b⟩ := ih (fun q hq => hR q (.tail _ hq)) (T := tailsOf T r) (foldTail_ok h _ hT)
    refine ⟨a, ?_⟩
    have := foldTail_len r.1 r.2 (List.range r.2.length) T
    rw [List.length_range] at this
    have := h.len
    rw [List.foldl_cons, List.length_cons]
    unfold tailsOf at b ⊢
    omega
theorem small10 {n : Nat} (h : n ≤ 10) : Builtin.Range.small 0 (0 + (n : Int)) 1 = true := by
  have : ∀ n : Fin 11, Builtin.Range.small 0 (0 + (n.val : Int)) 1 = true := by decide +kernel
  exact this ⟨n, by omega⟩
section
variable {W : Wd} {A : Around} {env : Env} {outer : Outs} {loc : Loc} {mem : Mem} {E : Ex W}
inductive P2P_J1 (mem : Mem) (ra : Addr) (R : List Rule) (start : Str) (tb : Addr) (k : Nat) (i : Nat) (l : Loc) (m : Mem) : Prop
  | mk (h1_ : k + i = R.length) (h2_ : LSub [("rules", .ref ra), ("start", .str start), ("tails", .ref tb)] l) (h3_ : m tb = some (.list (((R.take i).foldl tailsOf (tails0 start)).map ruleV))) (h4_ : ∀ b x, mem b = some x → m b = some x)
inductive P2P_J2 (mem : Mem) (ra : Addr) (start : Str) (tb : Addr) (left : Str) (body : List Str) (T0 : List Rule) (k' : Nat) (j : Nat) (l : Loc) (m : Mem) : Prop
  | mk (h1_ : k' + j = body.length) (h2_ : LSub [("rules", .ref ra), ("start", .str start), ("tails", .ref tb), ("left", .str left), ("body", .tup (vStrs body))] l) (h3_ : m tb = some (.list (((List.range j).foldl (addTail left body) T0).map ruleV))) (h4_ : ∀ b x, mem b = some x → m b = some x)
theorem tails_spec {ra : Addr} {R : List Rule} {start : Str} {Q : V → Loc → Mem → Prop} (hK : W.K = hdK W.w.params) (c : Calm A 800 7000) (hra : mem ra = some (.list (R.map ruleV))) (hR : ∀ r ∈ R, RuleG r) (hz : R.length ≤ 100) (hst : start ∈ NAMES)
    (h : ∀ tb, mem tb = none → Q (.ref tb) loc (mset mem tb (.list ((lawTails R start).map ruleV)))) : OpV W A env outer (fun vs => call (.ref 273) vs) [.ref ra, .str start] loc mem Q E := by
  refine call_fn (bs := [("rules", .ref ra), ("start", .str start)]) (by rw [hK]; exact lTails.at _) (by rw [hK]; first | rfl | kernel_rfl | decide +kernel) (c.room (by decide)) ?_ (by intro y hy; simp at hy; rcases hy with rfl | rfl <;> rfl) (by decide) rfl rfl rfl ?_
  · intro F s vs hb hk r
    cases r.view with
    | cons r1 r2 =>
      cases r2 with
      | cons r2 r3 =>
        cases r3
        exact ⟨_, BindsTo.of_eq rfl, .cons r1 (.cons r2 .nil)⟩
  · intro L outer
    have cd := c.deeper (envX "_law_tails" lTails.scope L 273 lTails.code [])
    have hsz := (syms_ok _ (names_syms _ hst)).2
    (refine nameS ?_; intro aa vv oo qq ee; refine s_cons ?_); refine s_assign rfl ?_; refine e_list ?_; refine a_cons rfl ?_; refine e_tuple ?_; refine a_cons rfl ?_; refine e_binop ?_; refine e_local rfl rfl rfl rfl ?_; refine e_str ?_
    refine add_ss (Nat.le_trans (show start.length + 1 ≤ 100 from (by show start.cps.size + 1 ≤ 100; omega)) (by decide)) ?_
    refine a_cons rfl ?_; refine e_tuple ?_; refine a_cons rfl ?_; refine e_str ?_; refine a_nil ?_
    refine new_tup (show 1 ≤ sizeLine by decide) ?_
    refine a_nil ?_
    refine new_tup (show 2 ≤ sizeLine by decide) ?_
    refine a_cons rfl ?_; refine e_tuple ?_; refine a_cons rfl ?_; refine e_str ?_; refine a_cons rfl ?_; refine e_tuple ?_; refine a_cons rfl ?_; refine e_str ?_; refine a_nil ?_
    refine new_tup (show 1 ≤ sizeLine by decide) ?_
    refine a_nil ?_
    refine new_tup (show 2 ≤ sizeLine by decide) ?_
    refine a_cons rfl ?_; refine e_tuple ?_; refine a_cons rfl ?_; refine e_str ?_; refine a_cons rfl ?_; refine e_tuple ?_; refine a_cons rfl ?_; refine e_str ?_; refine a_nil ?_
    refine new_tup (show 1 ≤ sizeLine by decide) ?_
    refine a_nil ?_
    refine new_tup (show 2 ≤ sizeLine by decide) ?_
    refine a_cons rfl ?_; refine e_tuple ?_; refine a_cons rfl ?_; refine e_str ?_; refine a_cons rfl ?_; refine e_tuple ?_; refine a_cons rfl ?_; refine e_str ?_; refine a_nil ?_
    refine new_tup (show 1 ≤ sizeLine by decide) ?_
    refine a_nil ?_
    refine new_tup (show 2 ≤ sizeLine by decide) ?_
    refine a_nil ?_
    refine new_own' (show 4 ≤ sizeLine by decide) (fun tb m1 htb h1 f1 => ?_)
    have hne : ra ≠ tb := fun e => by rw [e, htb] at hra; cases hra
    have h1' : m1 tb = some (.list ((tails0 start).map ruleV)) := h1
    have keep1 : ∀ b x, mem b = some x → m1 b = some x := fun b x e => by rw [f1 b (nex e htb)]; exact e
    refine st_local rfl rfl ?_; refine s_cons ?_; refine s_for (fun _ => rfl) ?_; refine e_local rfl rfl rfl rfl ?_
    let J1 : Nat → Nat → Loc → Mem → Prop := P2P_J1 mem ra R start tb
    refine for_k (itr_own cd.handled (keep1 _ _ hra)) J1 ?_ R.length ⟨rfl, rfl, h1', keep1⟩
    clear h1 f1 h1' keep1
    rintro k i l m ⟨hk, hl, ht, keep⟩
    have ei := ownItem_eq (i := i) (keep _ _ hra)
    refine ⟨by rw [ei]; simp, fun hn1 => ?_, fun v hv => ?_⟩
    · rw [ei] at hn1
      have hn1 := Option.some.inj hn1
      rw [List.getElem?_map, Option.map_eq_none_iff, List.getElem?_eq_none_iff] at hn1
      obtain rfl : i = R.length := by omega
      rw [List.take_length] at ht
      refine Tr.locs hl ?_
      refine s_nil ?_; refine s_cons ?_; refine s_ret ?_; refine e_local rfl rfl rfl rfl ?_
      refine ⟨mset mem tb (.list ((lawTails R start).map ruleV)), fun b x e => ?_, h tb htb⟩
      by_cases q : b = tb
      · subst q; rw [mset_self] at e; rw [ht]; exact e
      · rw [mset_ne q] at e; exact keep b x e
    · rw [ei] at hv
      have hv := Option.some.inj hv
      rw [List.getElem?_map] at hv
      cases hr1 : R[i]? with
      | none => rw [hr1] at hv; cases hv
      | some r =>
        rw [hr1] at hv
        obtain rfl : v = ruleV r := by cases hv; rfl
        have hr : r ∈ R := List.mem_of_getElem? hr1
        have hilt : i < R.length := by rw [List.getElem?_eq_some_iff] at hr1; exact hr1.1
        have hg := hR r hr
        obtain ⟨left, body⟩ := r
        have hbl := hg.len
        dsimp only at hbl
        refine Op.locs hl ?_
        refine   asg_tuple     (by       first       | assumption       | exact Calm.handled (by assumption))     rfl rfl ?_; refine asg_name ?_; refine st_local rfl rfl ?_; refine asg_name ?_; refine st_local rfl rfl ?_; (refine nameQ ?_; intro qq ee; refine s_cons ?_); refine s_for (fun _ => rfl) ?_; refine c_name rfl ?_; refine e_boot rfl rfl rfl rfl rfl (by rw [hK]; rfl) rfl (by decide) ?_; refine c_type rfl rfl ?_; refine a_cons rfl ?_; refine c_name rfl ?_; refine e_boot rfl rfl rfl rfl rfl (by rw [hK]; rfl) rfl (by decide) ?_; refine c_builtin rfl rfl ?_; refine a_cons rfl ?_; refine e_local rfl rfl rfl rfl ?_; refine a_nil ?_
        refine len_sq (.tup _) (by rw [vStrs_len]; show (body.length : Int) < _; omega) ?_
        refine a_nil ?_
        refine range1 (fun rg t1 t2 t3 hrg => ?_)
        have hrt : rg ≠ tb := fun e => by rw [e, ht] at hrg; cases hrg
        have hT := foldTails (R := R.take i) (fun q hq => hR q (List.mem_of_mem_take hq)) (tails0_ok hst)
        generalize hT0 : (R.take i).foldl tailsOf (tails0 start) = T0 at *
        rw [vStrs_len, show (body.length : Int) = ((0 : Int) + (body.length : Nat)) from (Int.zero_add _).symm]
        let J2 : Nat → Nat → Loc → Mem → Prop := P2P_J2 mem ra start tb left body T0
        refine for_k (itr_range (n := body.length) cd.handled (mset_self _ _ _) (small10 hbl)) J2 ?_ body.length ⟨rfl, rfl, by rw [mset_ne (Ne.symm hrt)]; exact ht, fun b x e => by rw [mset_ne (fun q => by have := keep b x e; rw [q, hrg] at this; cases this)]; exact keep b x e⟩
        clear hl hrg hrt keep ht
        rintro k' j l m ⟨hk', hl, ht, keep⟩
        refine ⟨by unfold rangeItem; simp, fun hn1 => ?_, fun v hv => ?_⟩
        · have hj : ¬ j < body.length := fun q => by unfold rangeItem at hn1; rw [if_pos q] at hn1; cases hn1
          obtain rfl : j = body.length := by omega
          refine Tr.locs hl ?_
          refine s_nil ?_; refine s_nil ?_
          refine ⟨k - 1, (kst hk hilt).1, (kst hk hilt).2, rfl, ?_, keep⟩
          rw [take_snoc hr1, List.foldl_append, hT0]; exact ht
        · have hj : j < body.length := by
            unfold rangeItem at hv; split at hv
            · assumption
            · cases hv
          obtain rfl : v = .int ((0 : Int) + j) := by unfold rangeItem at hv; rw [if_pos hj] at hv; cases hv; rfl
          rw [Int.zero_add]
          obtain ⟨y, hy⟩ : ∃ y, body[j]? = some y := ⟨_, List.getElem?_eq_getElem hj⟩
          have hyd : body.getD j "" = y := by rw [List.getD_eq_getElem?_getD, hy]; rfl
          have hys : y ∈ SIGNS := hg.body y (List.mem_of_getElem? hy)
          have hyz := (syms_ok y (signs_syms y hys)).2
          have hlz := (syms_ok left (names_syms left hg.left)).2
          refine Op.locs hl ?_
          refine asg_name ?_; refine st_local rfl rfl ?_; (refine nameQ ?_; intro qq ee; refine s_cons ?_); refine s_assign rfl ?_; refine e_tuple ?_; refine a_cons rfl ?_; refine e_binop ?_; refine e_sub (fun _ _ => rfl) ?_; refine e_local rfl rfl rfl rfl ?_; refine e_local rfl rfl rfl rfl ?_
          refine sub_sq (.tup _) (by omega) (by omega) (x := .str y) (by rw [Int.toNat_natCast]; exact vStrs_get hy) ?_
          refine e_str ?_
          refine add_ss (Nat.le_trans (show y.length + 1 ≤ 100 from (by show y.cps.size + 1 ≤ 100; omega)) (by decide)) ?_
          refine a_cons rfl ?_; refine e_binop ?_; refine e_slice ?_; refine e_local rfl rfl rfl rfl ?_; refine e_binop ?_; refine e_local rfl rfl rfl rfl ?_; refine e_int ?_; refine add_ii ?_
          refine ⟨(j : Int) + 1, rfl, ?_⟩
          skip
          refine ⟨_, _, .tup _, PySem.F.slot_tuple_getitem.lookup, ?_⟩
          rw [show ((j : Int) + 1) = ((j + 1 : Nat) : Int) from rfl]
          refine slice_tup (k := j + 1) (by rw [vStrs_len]; exact Nat.le_trans (show body.length ≤ 10 from hbl) (by decide)) (by omega) (by rw [vStrs_len]; omega) ?_
          rw [show (vStrs body).drop (j + 1) = vStrs (body.drop (j + 1)) from (List.map_drop ..).symm]
          refine e_tuple ?_; refine a_cons rfl ?_; refine e_binop ?_; refine e_local rfl rfl rfl rfl ?_; refine e_str ?_
          refine add_ss (Nat.le_trans (show left.length + 1 ≤ 100 from (by show left.cps.size + 1 ≤ 100; omega)) (by decide)) ?_
          refine a_nil ?_
          refine new_tup (show 1 ≤ sizeLine by decide) ?_
          skip
          refine add_tt (by rw [vStrs_len, List.length_drop]; exact Nat.le_trans (show _ ≤ 100 from (by simp; omega)) (by decide)) ?_
          refine a_nil ?_
          refine new_tup (show 2 ≤ sizeLine by decide) ?_
          refine st_local rfl rfl ?_; refine s_cons ?_; refine s_if ?_; refine b_bool ?_; refine b_and_cons ?_; refine b_cmp rfl ?_; refine e_sub (fun _ _ => rfl) ?_; refine e_local rfl rfl rfl rfl ?_; refine e_local rfl rfl rfl rfl ?_
          have hrow : V.tup [.str (y ++ Str.ofString "_"), .tup (vStrs (body.drop (j + 1)) ++ [.str (left ++ Str.ofString "_")])] = ruleV (us y, body.drop (j + 1) ++ [us left]) := by
            unfold ruleV us vStrs; rw [List.map_append]; rfl
          rw [hrow]
          refine sub_sq (.tup _) (by omega) (by omega) (x := .str y) (by rw [Int.toNat_natCast]; exact vStrs_get hy) ?_
          refine e_str ?_; refine in_ss ?_; refine tr_bool ?_
          rw [in_SAB y hys]
          have hfold : (List.range (j + 1)).foldl (addTail left body) T0 = addTail left body ((List.range j).foldl (addTail left body) T0) j := by rw [List.range_succ, List.foldl_append]; rfl
          have hTok := foldTail_ok hg (List.range j) hT.1
          have hTl := foldTail_len left body (List.range j) T0
          rw [List.length_range] at hTl
          generalize (List.range j).foldl (addTail left body) T0 = T1 at *
          have htz : (tails0 start).length = 4 := rfl
          have hTz : T1.length ≤ 5000 := by have := hT.2; rw [htz, List.length_take] at this; omega
          refine ⟨fun hyn => ?_, fun hyn => ?_⟩
          · have hyn := of_decide_eq_true hyn
            refine b_and_cons ?_; refine b_cmp rfl ?_; refine e_local rfl rfl rfl rfl ?_; refine e_local rfl rfl rfl rfl ?_
            refine notin_list (n := 2) (.own ht) (row_ok hg hyn).isD (List.all_eq_true.mpr fun q hq => by obtain ⟨r, hr, rfl⟩ := List.mem_map.mp hq; exact (hTok r hr).isD) (by decide) (cd.fit (by decide)) (fun bb hbb => ?_)
            rw [ruleV_mem] at hbb
            refine tr_bool ?_
            refine ⟨fun hb => ?_, fun hb => ?_⟩
            · have hnot : (us y, body.drop (j + 1) ++ [us left]) ∉ T1 := fun q => by
                have := hbb.mpr q; rw [this] at hb; cases hb
              refine b_and_nil ?_
              refine only_t ?_
              (refine nameQ ?_; intro qq ee; refine s_cons ?_); refine s_expr rfl rfl ?_; refine c_meth rfl ?_; refine e_local rfl rfl rfl rfl ?_
              refine m_builtin (.list ht) PySem.F.plainAttrs_list PySem.F.slot_list_append PySem.F.type_list_append rfl rfl ?_
              refine a_cons rfl ?_; refine e_local rfl rfl rfl rfl ?_; refine a_nil ?_
              refine append_own' ht (by rw [List.length_map]; exact Nat.le_trans hTz (by decide)) (fun m2 h2 f2 => ?_)
              refine s_nil ?_; refine s_nil ?_
              refine ⟨k' - 1, by omega, by omega, rfl, ?_, fun b x e => ?_⟩
              · rw [hfold, h2]
                unfold addTail
                dsimp only
                rw [hyd, if_pos ⟨hyn, hnot⟩, List.map_append]; rfl
              · rw [f2 b (nex e htb)]; exact keep b x e
            · have hin : (us y, body.drop (j + 1) ++ [us left]) ∈ T1 := hbb.mp (by cases bb with | true => rfl | false => cases hb)
              refine only_f ?_
              refine s_nil ?_; refine s_nil ?_
              refine ⟨k' - 1, by omega, by omega, rfl, ?_, keep⟩
              rw [hfold, ht]
              unfold addTail
              dsimp only
              rw [hyd, if_neg (fun q => q.2 hin)]
          · have hyn := of_decide_eq_false hyn
            refine only_f ?_
            refine s_nil ?_; refine s_nil ?_
            refine ⟨k' - 1, by omega, by omega, rfl, ?_, keep⟩
            rw [hfold, ht]
            unfold addTail
            dsimp only
            rw [hyd, if_neg (fun q => hyn q.1)]
end
end Mine
end
section
set_option autoImplicit false
namespace Mine
noncomputable def addR (g : GR) (r : Rule) : GR := addG g r.1 r.2 (.tup [.str "right", .int 0]) .none (.str "") (.int 0)
noncomputable def madeG (ts : List Str) (up : V) (R : List Rule) : GR := R.foldl addR (g0 ts up)
structure MadeInv (ts : List Str) (R : List Rule) (g : GR) : Prop where
  prods : g.prods.map (fun p => (p.name, p.body)) = R
  te : g.te.map (·.1) = ts ++ [("error" : Str)]
  pn : ∀ n, n ∈ g.pn ↔ ∃ r ∈ R, r.1 = n
  nod : (g.no.map (·.1)).Nodup
  no : ∀ n, n ∈ g.no.map (·.1) ↔ ∃ r ∈ R, n = r.1 ∨ (n ∈ r.2 ∧ n ∉ ts ++ [("error" : Str)])
  pr : g.pr = []
  fi : g.fi = []
  fo : g.fo = []
  len : LenOk (30 * R.length) (g.te, g.no)
  pz : g.pn.length ≤ R.length
theorem known_keys (l : List (Str × List Int)) (k : Str) : (known l k).map (·.1) = if k ∈ l.map (·.1) then l.map (·.1) else l.map (·.1) ++ [k] := by
  unfold known
  rw [lookup_contains]
  by_cases h : k ∈ l.map (·.1)
  · rw [if_pos (by rw [List.contains_iff_mem]; exact h), if_pos h]
  · rw [if_neg (by rw [List.contains_iff_mem]; exact h), if_neg h, List.map_append]; rfl
theorem note_keys (num : Int) (tn : List (Str × List Int) × List (Str × List Int)) (s : Str) : (noteSym num tn s).1.map (·.1) = tn.1.map (·.1) ∧
    ((tn.2.map (·.1)).Nodup → ((noteSym num tn s).2.map (·.1)).Nodup) ∧ ∀ n, n ∈ (noteSym num tn s).2.map (·.1) ↔ n ∈ tn.2.map (·.1) ∨ (n = s ∧ n ∉ tn.1.map (·.1)) := by
  unfold noteSym
  rw [lookup_contains]
  by_cases h : s ∈ tn.1.map (·.1)
  · rw [if_pos (by rw [List.contains_iff_mem]; exact h)]
    refine ⟨pushL_keys _ _ _, id, fun n => ⟨.inl, fun q => q.elim id fun ⟨e, z⟩ => absurd (e ▸ h) z⟩⟩
  · rw [if_neg (by rw [List.contains_iff_mem]; exact h)]
    refine ⟨rfl, fun hn => ?_, fun n => ?_⟩
    · rw [pushL_keys, known_keys]
      split
      · exact hn
      · rename_i q
        rw [List.nodup_append]
        exact ⟨hn, by simp, fun a ha b hb e => by rw [List.mem_singleton] at hb; subst hb; exact q (e ▸ ha)⟩
    · rw [pushL_keys, known_keys]
      split
      · rename_i q
        exact ⟨.inl, fun z => z.elim id fun ⟨e, _⟩ => e ▸ q⟩
      · rw [List.mem_append, List.mem_singleton]
        exact ⟨fun z => z.elim .inl fun e => .inr ⟨e, e ▸ h⟩, fun z => z.elim .inl fun ⟨e, _⟩ => .inr e⟩
theorem notes_keys (num : Int) (syms : List Str) (tn : List (Str × List Int) × List (Str × List Int)) : (syms.foldl (noteSym num) tn).1.map (·.1) = tn.1.map (·.1) ∧
    ((tn.2.map (·.1)).Nodup → ((syms.foldl (noteSym num) tn).2.map (·.1)).Nodup) ∧ ∀ n, n ∈ (syms.foldl (noteSym num) tn).2.map (·.1) ↔ n ∈ tn.2.map (·.1) ∨ (n ∈ syms ∧ n ∉ tn.1.map (·.1)) := by
  induction syms generalizing tn with
  | nil => exact ⟨rfl, id, fun n => ⟨.inl, fun q => q.elim id fun ⟨e, _⟩ => nomatch e⟩⟩
  | cons s syms ih =>
    obtain ⟨a1, a2, a3⟩ := note_keys num tn s
    obtain ⟨b1, b2, b3⟩ := ih (noteSym num tn s)
    refine ⟨b1.trans a1, fun h => b2 (a2 h), fun n => ?_⟩
    rw [List.foldl_cons, b3, a3, a1, List.mem_cons]
    constructor
    · rintro ((h | ⟨h, z⟩) | ⟨h, z⟩)
      · exact .inl h
      · exact .inr ⟨.inl h, z⟩
      · exact .inr ⟨.inr h, z⟩
    · rintro (h | ⟨h | h, z⟩)
      · exact .inl (.inl h)
      · exact .inl (.inr ⟨h, z⟩)
      · exact .inr ⟨h, z⟩
theorem LenOk.mono {B B' : Nat} {tn : List (Str × List Int) × List (Str × List Int)} (h : LenOk B tn) (hB : B ≤ B') : LenOk B' tn :=
  ⟨Nat.le_trans h.1 hB, fun k ns e => Nat.le_trans (h.2.1 k ns e) hB, fun k ns e => Nat.le_trans (h.2.2 k ns e) hB⟩
theorem MadeInv.add {ts : List Str} {R : List Rule} {g : GR} (I : MadeInv ts R g) {r : Rule} (hr : r.1 ∉ ts ++ [("error" : Str)]) (hl : r.2.length ≤ 20) : MadeInv ts (R ++ [r]) (addR g r) := by
  obtain ⟨a1, a2, a3⟩ := notes_keys ((g.prods.length : Int) + 1) r.2 (g.te, known g.no r.1)
  have e : addR g r = { g with prods := g.prods ++ [{ name := r.1, body := r.2, num := (g.prods.length : Int) + 1, prec := .tup [.str "right", .int 0], func := .none, file := .str "", line := .int 0 }], pn := if r.1 ∈ g.pn then g.pn else g.pn ++ [r.1], te := (r.2.foldl (noteSym ((g.prods.length : Int) + 1)) (g.te, known g.no r.1)).1, no := (r.2.foldl (noteSym ((g.prods.length : Int) + 1)) (g.te, known g.no r.1)).2 } := rfl
  rw [e]
  constructor
  · show List.map _ (g.prods ++ _) = _
    rw [List.map_append, I.prods]; rfl
  · exact a1.trans I.te
  · intro n
    show n ∈ (if r.1 ∈ g.pn then g.pn else g.pn ++ [r.1]) ↔ _
    constructor
    · intro h
      have : n ∈ g.pn ∨ n = r.1 := by
        split at h
        · exact .inl h
        · rcases List.mem_append.mp h with h | h
          · exact .inl h
          · exact .inr (List.mem_singleton.mp h)
      rcases this with h | h
      · obtain ⟨q, hq, e⟩ := (I.pn n).mp h; exact ⟨q, List.mem_append_left _ hq, e⟩
      · exact ⟨r, List.mem_append_right _ (.head _), h.symm⟩
    · rintro ⟨q, hq, ee⟩
      rcases List.mem_append.mp hq with hq | hq
      · have := (I.pn n).mpr ⟨q, hq, ee⟩
        split
        · exact this
        · exact List.mem_append_left _ this
      · rw [List.mem_singleton] at hq; subst hq
        rw [← ee]
        split
        · assumption
        · exact List.mem_append_right _ (.head _)
  · refine a2 ?_
    show ((known g.no r.1).map (·.1)).Nodup
    rw [known_keys]
    split
    · exact I.nod
    · rename_i q
      rw [List.nodup_append]
      exact ⟨I.nod, by simp, fun a ha b hb e => by rw [List.mem_singleton] at hb; subst hb; exact q (e ▸ ha)⟩
  · intro n
    refine (a3 n).trans ?_
    show n ∈ (known g.no r.1).map (·.1) ∨ (n ∈ r.2 ∧ n ∉ g.te.map (·.1)) ↔ _
    rw [known_keys, I.te]
    have hk : n ∈ (if r.1 ∈ g.no.map (·.1) then g.no.map (·.1) else g.no.map (·.1) ++ [r.1]) ↔ n ∈ g.no.map (·.1) ∨ n = r.1 := by
      split
      · rename_i q; exact ⟨.inl, fun z => z.elim id fun e => e ▸ q⟩
      · rw [List.mem_append, List.mem_singleton]
    rw [hk, I.no]
    constructor
    · rintro ((⟨q, hq, z⟩ | h) | h)
      · exact ⟨q, List.mem_append_left _ hq, z⟩
      · exact ⟨r, List.mem_append_right _ (.head _), .inl h⟩
      · exact ⟨r, List.mem_append_right _ (.head _), .inr h⟩
    · rintro ⟨q, hq, z⟩
      rcases List.mem_append.mp hq with hq | hq
      · exact .inl (.inl ⟨q, hq, z⟩)
      · rw [List.mem_singleton] at hq; subst hq
        rcases z with z | z
        · exact .inl (.inr z)
        · exact .inr z
  · exact I.pr
  · exact I.fi
  · exact I.fo
  · have h1 : LenOk (30 * R.length + 1) (g.te, known g.no r.1) := by
      obtain ⟨b1, b2, b3⟩ := I.len
      refine ⟨?_, fun k ns e => by have := b2 k ns e; omega, fun k ns e => by have := known_len b3 k ns e; omega⟩
      have := @known_size g.no r.1
      dsimp only at b1 ⊢; omega
    have := notes_len h1 ((g.prods.length : Int) + 1) r.2
    refine this.mono ?_
    rw [List.length_append, List.length_singleton]; omega
  · show List.length (if r.1 ∈ g.pn then g.pn else g.pn ++ [r.1]) ≤ _
    rw [List.length_append, List.length_singleton]
    have := I.pz
    split
    · omega
    · rw [List.length_append, List.length_singleton]; omega
theorem MadeInv.zero (ts : List Str) (up : V) : MadeInv ts [] (g0 ts up) where
  prods := rfl
  te := by unfold g0; simp [List.map_append, List.map_map, Function.comp_def]
  pn := fun n => ⟨fun h => (nomatch h), fun ⟨r, h, _⟩ => (nomatch h)⟩
  nod := List.nodup_nil
  no := fun n => ⟨fun h => (nomatch h), fun ⟨r, h, _⟩ => (nomatch h)⟩
  pr := rfl
  fi := rfl
  fo := rfl
  len := ⟨Nat.le_refl _, fun k ns e => by
    have : ∀ q ∈ (g0 ts up).te, q.2 = [] := fun q hq => by
      rcases List.mem_append.mp hq with hq | hq
      · obtain ⟨t, _, rfl⟩ := List.mem_map.mp hq; rfl
      · rw [List.mem_singleton] at hq; rw [hq]
    have e2 : ∀ (l : List (Str × List Int)), l.lookup k = some ns → (k, ns) ∈ l := fun l => by
      induction l with
      | nil => intro z; cases z
      | cons a l ih =>
        obtain ⟨x, y⟩ := a
        intro z
        rw [List.lookup_cons] at z
        split at z
        · rename_i w; cases z; rw [beq_iff_eq] at w; rw [w]; exact .head _
        · exact .tail _ (ih z)
    have := this _ (e2 _ e)
    dsimp only at this; rw [this]; exact Nat.le_refl _, fun k ns e => nomatch e⟩
  pz := Nat.le_refl _
theorem MadeInv.all {ts : List Str} {up : V} (R : List Rule) (h : ∀ r ∈ R, r.1 ∉ ts ++ [("error" : Str)] ∧ r.2.length ≤ 20) : MadeInv ts R (madeG ts up R) := by
  suffices H : ∀ (R' R : List Rule) (g : GR), MadeInv ts R g → (∀ r ∈ R', r.1 ∉ ts ++ [("error" : Str)] ∧ r.2.length ≤ 20) → MadeInv ts (R ++ R') (R'.foldl addR g) from H R [] _ (MadeInv.zero ts up) h
  intro R'
  induction R' with
  | nil => intro R g I _; rw [List.append_nil]; exact I
  | cons r R' ih =>
    intro R g I h
    have := ih (R ++ [r]) (addR g r) (I.add (h r (.head _)).1 (h r (.head _)).2) fun q hq => h q (.tail _ hq)
    rw [List.append_assoc] at this; exact this
end Mine
end
section
set_option autoImplicit false
namespace Mine
section
variable {W : Wd} {A : Around} {env : Env} {outer : Outs} {loc : Loc} {mem : Mem} {E : Ex W}
theorem mun_no (m : Mem) : mun (fun _ => none) m = m := rfl
inductive P2R_J1 (mem : Mem) (ra : Addr) (R : List Rule) (ts : List Str) (st : Str) (a : Addr) (up : V) (k : Nat) (i : Nat) (l : Loc) (m : Mem) : Prop
  | mk (h1_ : k + i = R.length) (h2_ : LSub [("start", .str st), ("rules", .ref ra), ("grammar", .ref a)] l) (gm : _) (h3_ : Dis gm mem) (h4_ : m = mun gm mem) (h5_ : GMem aGrammar aProd (madeG ts up (R.take i)) a gm)
theorem made_spec {ra : Addr} {R : List Rule} {ts : List Str} {st : Str} {Q : V → Loc → Mem → Prop} (hK : W.K = hdK W.w.params) (c : Calm A 350 3000) (hf : Fits A env outer) (hra : mem ra = some (.list (R.map ruleV)))
    (hz : ts.length ≤ 100) (hnd : ts.Nodup) (he : ("error" : Str) ∉ ts) (hR : ∀ r ∈ R, SymOk r.1 ∧ r.1 ∉ ts ++ [("error" : Str)] ∧ r.2.length ≤ 20 ∧ ∀ y ∈ r.2, SymOk y) (hRz : R.length ≤ 500) (hRd : R.Nodup)
    (hmi : ∀ r ∈ R, ∀ q ∈ R, mapText r.1 r.2 = mapText q.1 q.2 → r = q) (hst : SymOk st) (hstn : ∃ r ∈ R, st = r.1)
    (h : ∀ a gm up, GMem aGrammar aProd (startG aProd (madeG ts up R) st) a gm → Dis gm mem → Q (.ref a) loc (mun gm mem)) : OpV W A env outer (fun vs => call (.ref 280) vs) [.lst (vStrs ts), .ref ra, .str st] loc mem Q E := by
  refine call_fn (bs := [("letters", .lst (vStrs ts)), ("rules", .ref ra), ("start", .str st)]) (by rw [hK]; exact lMade.at _) (by rw [hK]; first | rfl | kernel_rfl | decide +kernel) (c.room (by decide)) ?_ (by intro y hy; simp at hy; rcases hy with rfl | rfl | rfl <;> rfl) (by decide) rfl rfl rfl ?_
  · intro F s vs hb hk r
    cases r.view with
    | cons r1 r2 =>
      cases r2 with
      | cons r2 r3 =>
        cases r3 with
        | cons r3 r4 =>
          cases r4
          exact ⟨_, BindsTo.of_eq rfl, .cons r1 (.cons r2 (.cons r3 .nil))⟩
  · intro L outer
    have cd := c.deeper (envX "_law_made" lMade.scope L 280 lMade.code [])
    have fd := hf.deeper (env' := envX "_law_made" lMade.scope L 280 lMade.code []) (m0 := outer) rfl rfl
    (refine nameS ?_; intro aa vv oo qq ee; refine s_cons ?_); refine s_assign rfl ?_; refine c_name rfl ?_; refine e_topG rfl rfl rfl rfl (by rw [hK]; rfl) ?_; refine c_top (by rw [hK]; rfl) rfl rfl ?_; refine a_cons rfl ?_; refine e_local rfl rfl rfl rfl ?_; refine a_nil ?_
    rw [← mun_no mem]
    refine Op.frame (Q := fun v l m => l = _ ∧ ∃ a up, v = .ref a ∧ GMem aGrammar aProd (g0 ts up) a m) (fun _ _ e => nomatch e) (gInit_spec hK (cd.mono (by decide) (by decide)) hz hnd he (fun a m up G => ⟨rfl, a, up, rfl, G⟩)) ?_
    rintro v l m1 d1 ⟨rfl, a, up, rfl, G⟩
    refine st_local rfl rfl ?_; refine s_cons ?_; refine s_for (fun _ => rfl) ?_; refine e_local rfl rfl rfl rfl ?_
    have side : ∀ {gm : Mem} {b x}, Dis gm mem → mem b = some x → mun gm mem b = some x := fun {gm b x} d e => by
      rw [mun_r]
      · exact e
      · cases q : gm b with
        | none => rfl
        | some y => rw [d b y q] at e; cases e
    let J1 : Nat → Nat → Loc → Mem → Prop := P2R_J1 mem ra R ts st a up
    refine for_k (itr_own cd.handled (side d1 hra)) J1 ?_ R.length ⟨rfl, rfl, m1, d1, rfl, G⟩
    clear d1 G
    rintro k i l m ⟨hk, hl, gm, d, rfl, G⟩
    have ei := ownItem_eq (i := i) (side d hra)
    have I := MadeInv.all (ts := ts) (up := up) (R.take i) fun r hr => ⟨(hR r (List.mem_of_mem_take hr)).2.1, (hR r (List.mem_of_mem_take hr)).2.2.1⟩
    refine ⟨by rw [ei]; simp, fun hn1 => ?_, fun v hv => ?_⟩
    · rw [ei] at hn1
      have hn1 := Option.some.inj hn1
      rw [List.getElem?_map, Option.map_eq_none_iff, List.getElem?_eq_none_iff] at hn1
      obtain rfl : i = R.length := by omega
      rw [List.take_length] at G I
      refine Tr.locs hl ?_
      refine s_nil ?_; refine s_cons ?_; refine s_expr rfl rfl ?_; refine c_meth rfl ?_; refine e_local rfl rfl rfl rfl ?_
      obtain ⟨adr, cc, M, ok, ea⟩ := id G
      obtain ⟨epd, hdict⟩ := ok.dict
      have hx := mun_l (R := mem) (M.get ok.self)
      have hd := mun_l (R := mem) (M.get hdict)
      rw [ea] at hx
      refine m_own (.own hx hd) (by rw [hK]; first | rfl | kernel_rfl | decide +kernel) (by rw [hK]; first | rfl | kernel_rfl | decide +kernel) (by rw [hK]; first | rfl | kernel_rfl | decide +kernel) rfl (by rw [hK]; first | rfl | kernel_rfl | decide +kernel) rfl rfl ?_
      refine a_cons rfl ?_; refine e_local rfl rfl rfl rfl ?_; refine a_nil ?_
      have hno : ((madeG ts up R).no.lookup st).isSome = true := by
        rw [lookup_contains, List.contains_iff_mem, I.no]
        obtain ⟨r, hr, e⟩ := hstn
        exact ⟨r, hr, .inl e⟩
      refine Op.frame (Q := fun v l m => l = _ ∧ v = .none ∧ GMem aGrammar aProd (startG aProd (madeG ts up R) st) a m) d (start_spec hK (cd.mono (by decide) (by decide)) G hst.pos hst.size hst.ok hno (fun ns e => by have := I.len.2.2 _ _ e; omega) (fun m G => ⟨rfl, rfl, G⟩)) ?_
      rintro v l m2 d2 ⟨rfl, rfl, G2⟩
      refine s_cons ?_; refine s_ret ?_; refine e_local rfl rfl rfl rfl ?_
      exact ⟨_, sub_refl _, h a m2 up G2 d2⟩
    · rw [ei] at hv
      have hv := Option.some.inj hv
      rw [List.getElem?_map] at hv
      cases hr1 : R[i]? with
      | none => rw [hr1] at hv; cases hv
      | some r =>
        rw [hr1] at hv
        obtain rfl : v = ruleV r := by cases hv; rfl
        have hr : r ∈ R := List.mem_of_getElem? hr1
        have hilt : i < R.length := by rw [List.getElem?_eq_some_iff] at hr1; exact hr1.1
        obtain ⟨left, body⟩ := r
        obtain ⟨hs1, hs2, hs3, hs4⟩ := hR _ hr
        dsimp only at hs1 hs2 hs3 hs4
        refine Op.locs hl ?_
        refine   asg_tuple     (by       first       | assumption       | exact Calm.handled (by assumption))     rfl rfl ?_; refine asg_name ?_; refine st_local rfl rfl ?_; refine asg_name ?_; refine st_local rfl rfl ?_; (refine nameQ ?_; intro qq ee; refine s_cons ?_); refine s_expr rfl rfl ?_; refine c_meth rfl ?_; refine e_local rfl rfl rfl rfl ?_
        obtain ⟨adr, cc, M, ok, ea⟩ := id G
        obtain ⟨epd, hdict⟩ := ok.dict
        have hx := mun_l (R := mem) (M.get ok.self)
        have hd := mun_l (R := mem) (M.get hdict)
        rw [ea] at hx
        refine m_own (.own hx hd) (by rw [hK]; first | rfl | kernel_rfl | decide +kernel) (by rw [hK]; first | rfl | kernel_rfl | decide +kernel) (by rw [hK]; first | rfl | kernel_rfl | decide +kernel) rfl (by rw [hK]; first | rfl | kernel_rfl | decide +kernel) rfl rfl ?_
        refine a_cons rfl ?_; refine e_local rfl rfl rfl rfl ?_; refine a_cons rfl ?_; refine c_name rfl ?_; refine e_boot rfl rfl rfl rfl rfl (by rw [hK]; rfl) rfl (by decide) ?_; refine c_type rfl rfl ?_; refine a_cons rfl ?_; refine e_local rfl rfl rfl rfl ?_; refine a_nil ?_
        refine list_sq (.tup _) (by rw [vStrs_len]; exact Nat.le_trans hs3 (by decide)) (fun sy hsy => ?_)
        refine a_nil ?_
        obtain ⟨n1, n2⟩ := mun_none hsy
        rw [mset_mun]
        have hlenI := I.len
        rw [List.length_take] at hlenI
        have hpl : (madeG ts up (R.take i)).prods.length = (R.take i).length := by have := congrArg List.length I.prods; rw [List.length_map] at this; exact this
        have hmem : ∀ p ∈ (madeG ts up (R.take i)).prods, (p.name, p.body) ∈ R.take i := fun p hp => by
          have : (p.name, p.body) ∈ (madeG ts up (R.take i)).prods.map fun p => (p.name, p.body) := List.mem_map.mpr ⟨p, hp, rfl⟩
          rw [I.prods] at this; exact this
        refine Op.frame (Q := fun v l m => l = _ ∧ v = .none ∧ GMem aGrammar aProd (addR (madeG ts up (R.take i)) (left, body)) a m) (R0 := mem) (fun b x e => ?_) (add_spec (name := left) (syms := body) hK (cd.mono (by decide) (by decide)) G n1 hs1 hs4 (by omega) (fun e => hs2 (by rw [e]; exact List.mem_append_right _ (.head _))) (tab_none (by rw [I.te]; exact hs2)) I.pr (fun p hp e => ?_) (by rw [hpl, List.length_take]; omega) fd (fun p hp => (I.pn _).mpr ⟨_, hmem p hp, rfl⟩) (by have := I.pz; rw [List.length_take] at this; omega) (hlenI.mono (by omega)) (fun m G => ⟨rfl, rfl, G⟩)) ?_
        · by_cases q : b = sy
          · subst q; exact n2
          · rw [mset_ne q] at e; exact d b x e
        · have h1 := hmem p hp
          have := hmi _ (List.mem_of_mem_take h1) _ hr e
          rw [this] at h1
          exact nodup_take hRd hr1 h1
        · rintro v l m2 d2 ⟨rfl, rfl, G2⟩
          refine s_nil ?_
          refine ⟨k - 1, (kst hk hilt).1, (kst hk hilt).2, rfl, m2, d2, rfl, ?_⟩
          rw [take_snoc hr1, madeG, List.foldl_append]
          exact G2
end
end Mine
end
section
set_option autoImplicit false
namespace Mine
theorem wpAny_choose {M : Model} {A : Around} {src : Source} {n : Nat} {Q : Nat → Shared → Prop} {E : Value → Shared → Prop} {s : Shared} (hn : n ≠ 0) (h : ∀ k d, k < n → Q k { s with drawn := d }) : wpAny M A (choose src n) Q E s := fun Γ p hΓ => by
  unfold choose
  rw [Sem.wp_choose]
  refine ⟨hn, ?_⟩
  rw [Sem.wp]
  exact h _ _ (Nat.mod_lt _ (Nat.pos_of_ne_zero hn))
theorem erase_perm {α : Type} : ∀ (l : List α) (k : Nat) (hk : k < l.length), (l[k] :: l.eraseIdx k).Perm l
  | a :: l, 0, _ => .refl _
  | a :: l, k + 1, hk => by
    have ih := erase_perm l k (Nat.lt_of_succ_lt_succ hk)
    exact (List.Perm.swap a _ _).trans (ih.cons a)
theorem wpAny_drawOrder {M : Model} {A : Around} {α : Type} {E : Value → Shared → Prop} : ∀ (n : Nat) (xs : List α) {s : Shared} {Q : List α → Shared → Prop}, xs.length = n → (∀ ys d, ys.Perm xs → Q ys { s with drawn := d }) → wpAny M A (drawOrder n xs) Q E s
  | 0, xs, s, Q, hn, h => by
    obtain rfl : xs = [] := List.eq_nil_of_length_eq_zero hn
    unfold drawOrder
    exact wpAny_pure (h [] s.drawn .nil)
  | n + 1, xs, s, Q, hn, h => by
    cases xs with
    | nil => cases hn
    | cons x l =>
      unfold drawOrder
      refine wpAny_bind (wpAny_choose (by simp) fun k d hk => ?_)
      rw [List.getElem?_eq_getElem hk]
      dsimp only
      refine wpAny_bind (wpAny_drawOrder n ((x :: l).eraseIdx k) (by rw [List.length_eraseIdx_of_lt hk, hn]; rfl) fun ys d' hp => ?_)
      refine wpAny_pure (h _ d' ?_)
      refine List.Perm.trans (List.Perm.cons _ hp) ?_
      exact erase_perm _ _ hk
noncomputable def strOf : Value → Str
  | .str x _ => x
  | _ => ""
noncomputable def setObj (es : Array (Int × Value)) (ep : Nat) (t : SetTable) : Obj := { cls := .type "set", dict := none, data := .set es ep t, slots := #[] }
noncomputable def TxtEs (prog : Program) (w : World) (es : List (Int × Value)) : Prop := ∀ e ∈ es, ∃ x t, e = ((PySem.strKind prog w).hash x, .str x t)
structure SetT (prog : Program) (w : World) (o : Obj) (xs : List Str) : Prop where
  ex : ∃ es ep t, o = setObj es ep t ∧ TxtEs prog w es.toList ∧ (es.toList.map fun e => strOf e.2).Perm xs ∧ es.size < 64 ∧ t.fits es.size = true ∧ (es.size ≠ 0 → t.plain = false) ∧ (t.led = true ∨ w.params.followText "set-order" = true)
  nodup : xs.Nodup
theorem layNew_keeps (t : SetTable) (es : Array (Int × Value)) (h : Int) (x : Value) : (layNew t es h x).2.1.led = t.led ∧ ((layNew t es h x).2.1.plain = true → t.plain = true) := by
  have so : ∀ (t : SetTable) (n : Nat), (t.orStandIn n).led = t.led ∧ ((t.orStandIn n).plain = true → t.plain = true) := fun t n => by
    unfold SetTable.orStandIn
    split
    · exact ⟨rfl, id⟩
    · exact ⟨rfl, fun h => by cases h⟩
  unfold layNew
  split
  · rename_i slot wasDummy _
    exact so (t.put slot).1 _
  · exact ⟨rfl, fun h => by cases h⟩
theorem relayAll_keeps (t : SetTable) (es : Array (Int × Value)) (n : Nat) : (relayAll t es n).2.1.led = t.led ∧ ((relayAll t es n).2.1.plain = true → t.plain = true) := by
  unfold relayAll
  split
  · rename_i t' order e
    have key : t'.led = t.led ∧ t'.plain = t.plain := by
      unfold SetTable.relaid SetTable.laid at e
      cases q : SetTable.layClean (SetTable.sizeAbove n - 1) (es.map (·.1)) with
      | none => rw [q] at e; cases e
      | some z => rw [q] at e; cases e; exact ⟨rfl, rfl⟩
    dsimp only
    split
    · exact ⟨key.1, fun h => by rw [← key.2]; exact h⟩
    · exact ⟨rfl, fun h => by cases h⟩
  · exact ⟨rfl, fun h => by cases h⟩
section
variable {prog : Program} {w : World} {A : Around} {E : Value → Shared → Prop} {s : Shared}
theorem TxtEs.elems {es : List (Int × Value)} (h : TxtEs prog w es) : ElemsOf (PySem.strKind prog w) es := fun e he => by
  obtain ⟨x, t, rfl⟩ := h e he
  exact ⟨⟨x, strKind_is _ _ x t, rfl⟩, rfl⟩
theorem TxtEs.perm {es es' : List (Int × Value)} (h : TxtEs prog w es) (p : es'.Perm es) : TxtEs prog w es' := fun e he => h e (p.mem_iff.mp he)
theorem is_str {k x : Str} {t : Tok} : (PySem.strKind prog w).is k (.str x t) = true ↔ x = k := by
  constructor
  · intro h
    exact (PySem.strKind prog w).inj _ _ _ (strKind_is _ _ x t) h
  · intro h; subst h; exact strKind_is _ _ x t
theorem setAdd_T {a : Addr} {o : Obj} {xs : List Str} {x : Str} {tk : Tok} {Q : Bool → Shared → Prop} (ho : s.heap.get? a = some o) (T : SetT prog w o xs) (hz : xs.length < 60)
    (h : ∀ b h' o', Heap.SameBut a s.heap h' → h'.get? a = some o' → SetT prog w o' (if x ∈ xs then xs else xs ++ [x]) → Q b { s with heap := h' }) :
    wpAny (model prog w) A (setAddHashed a (.str x tk) ((PySem.strKind prog w).hash x)) Q E s := by
  obtain ⟨es, ep, t, rfl, htx, hp, hb, hf, hpl, hled⟩ := T.ex
  have hd : (setObj es ep t).data = .set es ep t := rfl
  have hlen : es.size = xs.length := by rw [← hp.length_eq, List.length_map, Array.length_toList]
  have hel := htx.elems
  unfold setAddHashed setAddHashedIn
  refine wpAny_holding (wpAny_bind (wpAny_setState_of ho hd hf ?_))
  dsimp only
  rw [byScan_of (x := .str x tk) rfl (Nat.lt_trans hb (by decide)) hel]
  simp only [↓reduceIte]
  unfold setAddByScan
  refine wpAny_bind (wpAny_bind (wpAny_rule (wpAny_bind (wpAny_setScan_of (strKind_is _ _ x tk) ho hd hf hel ?_))))
  have hfind : ∀ (es : List (Int × Value)), TxtEs prog w es → ((es.findIdx? fun e => (PySem.strKind prog w).is x e.2).isSome = true ↔ x ∈ es.map fun e => strOf e.2) := fun es htx => by
    rw [List.findIdx?_isSome, List.any_eq_true, List.mem_map]
    constructor
    · rintro ⟨e, he, q⟩
      obtain ⟨y, u, rfl⟩ := htx e he
      exact ⟨_, he, is_str.mp q⟩
    · rintro ⟨e, he, q⟩
      obtain ⟨y, u, rfl⟩ := htx e he
      exact ⟨_, he, is_str.mpr q⟩
  have hmem : ((es.toList.findIdx? fun e => (PySem.strKind prog w).is x e.2).isSome = true ↔ x ∈ xs) := (hfind _ htx).trans hp.mem_iff
  cases hr : List.findIdx? (fun e => (PySem.strKind prog w).is x e.2) es.toList with
  | some j =>
    rw [hr] at hmem
    have hx := hmem.mp rfl
    dsimp only
    refine wpAny_pure (wpAny_pure ?_)
    have e : s = { s with heap := s.heap } := by cases s; rfl
    rw [e]
    refine h false s.heap _ (Heap.SameBut.refl a s.heap) ho ?_
    rw [if_pos hx]; exact T
  | none =>
    rw [hr] at hmem
    have hx : x ∉ xs := fun q => by have := hmem.mpr q; cases this
    dsimp only
    have hgw : ∀ (b : Bool) {s₁ : Shared} {Q' : Unit → Shared → Prop}, Q' () s₁ → wpAny (model prog w) A (match b with | true => rule "set.scan.the-table-gave-way" | false => pure ()) Q' E s₁ :=
      fun b s₁ Q' hq => by cases b <;> first | exact wpAny_pure hq | exact wpAny_rule hq
    have hperm := layNew_perm t es ((PySem.strKind prog w).hash x) (.str x tk)
    have hfits := layNew_fits t es ((PySem.strKind prog w).hash x) (.str x tk)
    have hkeep := layNew_keeps t es ((PySem.strKind prog w).hash x) (.str x tk)
    generalize layNew t es ((PySem.strKind prog w).hash x) (.str x tk) = L at hperm hfits hkeep ⊢
    obtain ⟨es1, t1, wasDummy, gave⟩ := L
    dsimp only at hperm hfits hkeep ⊢
    rw [Array.toList_push] at hperm
    have htx1 : TxtEs prog w es1.toList := fun e he => by
      rcases List.mem_append.mp (hperm.mem_iff.mp he) with q | q
      · exact htx e q
      · rw [List.mem_singleton] at q; exact ⟨x, tk, q⟩
    have hp1 : (es1.toList.map fun e => strOf e.2).Perm (xs ++ [x]) := by
      refine (hperm.map _).trans ?_
      rw [List.map_append]
      exact hp.append_right _
    have hsz1 : es1.size = es.size + 1 := by rw [← Array.length_toList, hperm.length_eq, List.length_append, Array.length_toList]; rfl
    have hb1 : es1.size < 64 := by omega
    have fin : ∀ (es2 : Array (Int × Value)) (ep2 : Nat) (t2 : SetTable), es2.toList.Perm es1.toList → t2.fits es2.size = true → t2.plain = false → t2.led = t.led → SetT prog w (setObj es2 ep2 t2) (if x ∈ xs then xs else xs ++ [x]) := fun es2 ep2 t2 p2 f2 pl2 l2 => by
      rw [if_neg hx]
      refine ⟨⟨es2, ep2, t2, rfl, htx1.perm p2, (p2.map _).trans hp1, ?_, f2, fun _ => pl2, by rw [l2]; exact hled⟩, ?_⟩
      · rw [← Array.length_toList, p2.length_eq, Array.length_toList]; exact hb1
      · rw [List.nodup_append]
        exact ⟨T.nodup, by simp, fun a ha b hb e => by rw [List.mem_singleton] at hb; subst hb; exact hx (e ▸ ha)⟩
    refine wpAny_bind (hgw _ ?_)
    -- by value?
    have tail : ∀ (t2 : SetTable), t2.fits es1.size = true → t2.plain = false → t2.led = t.led → wpAny (model prog w) A (do
        storeSet a es1 t2
        if (!wasDummy && t2.tooFull) = true then do
            (match (relayAll t2 es1 (SetTable.grown es1.size)).2.2 with | true => rule "set.scan.the-table-gave-way" | false => pure ())
            storeSet a (relayAll t2 es1 (SetTable.grown es1.size)).1 (relayAll t2 es1 (SetTable.grown es1.size)).2.1
            pure (some true)
          else pure (some true)) (fun r s₁ => ∃ b, r = some b ∧ Q b s₁) E s := fun t2 f2 pl2 l2 => by
      refine wpAny_bind (wpAny_storeSet_of ho hd ?_ (Nat.le_trans (Nat.le_of_lt hb1) (by decide)))
      have hg1 := Heap.get?_update_self (Obj.putSet es1 t2) ho (by rw [putSet_of es1 t2 hd]; rfl)
      rw [putSet_of es1 t2 hd] at hg1
      have hsb1 := Heap.SameBut.update s.heap a (Obj.putSet es1 t2)
      split
      · have q1 := relayAll_perm t2 es1 (SetTable.grown es1.size)
        have q2 := relayAll_fits t2 es1 (SetTable.grown es1.size)
        have q3 := relayAll_keeps t2 es1 (SetTable.grown es1.size)
        generalize relayAll t2 es1 (SetTable.grown es1.size) = R at q1 q2 q3 ⊢
        obtain ⟨es2, t3, gave2⟩ := R
        dsimp only at q1 q2 q3 ⊢
        refine wpAny_bind (hgw _ ?_)
        have hsz2 : es2.size = es1.size := by rw [← Array.length_toList, q1.length_eq, Array.length_toList]
        refine wpAny_bind (wpAny_storeSet_of hg1 rfl ?_ (by rw [hsz2]; exact Nat.le_trans (Nat.le_of_lt hb1) (by decide)))
        have hg2 := Heap.get?_update_self (Obj.putSet es2 t3) hg1 (by rw [putSet_of es2 t3 rfl]; rfl)
        rw [putSet_of es2 t3 rfl] at hg2
        refine wpAny_pure ⟨true, rfl, h true _ _ (hsb1.trans (Heap.SameBut.update _ a _)) hg2 (fin es2 _ t3 q1 q2 ?_ (q3.1.trans l2))⟩
        cases z : t3.plain with
        | false => rfl
        | true => have := q3.2 z; rw [pl2] at this; cases this
      · exact wpAny_pure ⟨true, rfl, h true _ _ hsb1 hg1 (fin es1 _ t2 (.refl _) f2 pl2 l2)⟩
    cases hpl1 : t1.plain with
    | true =>
      rw [if_pos rfl, hashByValue_scannable 8 (x := .str x tk) rfl]
      refine wpAny_bind (wpAny_pure ?_)
      exact wpAny_mono (tail { t1 with plain := false } (SetTable.fits_plain_off hfits) rfl hkeep.1) (fun r s1 ⟨b, e, q⟩ => by subst e; exact wpAny_pure q) fun _ _ e => e
    | false =>
      rw [if_neg Bool.false_ne_true]
      refine wpAny_bind (wpAny_pure ?_)
      exact wpAny_mono (tail t1 hfits hpl1 hkeep.1) (fun r s1 ⟨b, e, q⟩ => by subst e; exact wpAny_pure q) fun _ _ e => e
end
end Mine
end
section
set_option autoImplicit false
namespace Mine
section
variable {prog : Program} {w : World} {A : Around} {R : Result → Shared → Prop} {I : Addr} {fp wr : List Addr} {G : Array GenState → Array GenState → Prop} {n : Nat} {P : Nat → Value → Prop} {St : Nat → Shared → Prop}
theorem update_T {ss : List Str} (Wk : WalksS prog w A.in1 I fp wr G ss.length P St) (S : Addr) (hSf : S ∉ fp) (hval : ∀ i v, P i v → ∃ t, v = .str (ss.getD i "") t) (hb : ss.length < 60) :
    ∀ (k i : Nat) (s : Shared) (o : Obj), ss.length - i = k → i ≤ ss.length → St i s → s.heap.get? S = some o → SetT prog w o (dedup (ss.take i)) →
      (∀ s' o', Moved (S :: wr) G s s' → s'.heap.get? S = some o' → SetT prog w o' (dedup ss) → R (.ok (.ret .none)) s') →
      codeAny (model prog w) A (.builtin "set.update.loop" ⟨[.ref S, .ref I], []⟩) R s := by
  have hSw : S ∉ wr := fun h => hSf (Wk.sub _ h)
  have hsub : ∀ b ∈ wr, b ∈ S :: wr := fun b hb => List.mem_cons_of_mem _ hb
  intro k
  induction k with
  | zero =>
    intro i s o hk hi hst ho T hR
    obtain rfl : i = ss.length := by omega
    rw [List.take_length] at T
    refine codeAny_builtin PyProof.Rows.F.entry_set_update_loop ?_
    rw [Around.under_plainId PyProof.Rows.F.plain_set_update_loop _]
    show wpAny _ A.in1 (pyNext (.ref I) >>= _) _ _ s
    refine wpAny_bind (Wk.done s _ _ hst fun s' hm => ?_)
    show wpAny _ A.in1 (ret Value.none) _ _ s'
    exact wpAny_pure (hR s' o (hm.mono hsub) (hm.heap S _ hSw ho) T)
  | succ k ih =>
    intro i s o hk hi hst ho T hR
    have hlt : i < ss.length := by omega
    refine codeAny_builtin PyProof.Rows.F.entry_set_update_loop ?_
    rw [Around.under_plainId PyProof.Rows.F.plain_set_update_loop _]
    show wpAny _ A.in1 (pyNext (.ref I) >>= _) _ _ s
    refine wpAny_bind (Wk.item i s _ _ hlt hst fun v s' hP hst' hm => ?_)
    obtain ⟨t, rfl⟩ := hval i v hP
    have ho' := hm.heap S _ hSw ho
    show wpAny _ A.in1 (holding [Value.str (ss.getD i "") t] (setAdd S (.str (ss.getD i "") t)) >>= _) _ _ s'
    refine wpAny_bind (wpAny_holding ?_)
    unfold setAdd
    refine wpAny_holding ?_
    refine wpAny_bind ((PySem.strKind prog w).pyHash (k := ss.getD i "") (strKind_is _ _ _ _) ?_)
    have hdl : (dedup (ss.take i)).length < 60 := by have := dedup_len (ss.take i); rw [List.length_take] at this; omega
    refine setAdd_T (s := { s' with toks := s'.toks + 1 }) ho' T hdl fun b h' o' hsb hg T' => ?_
    have hx : ss[i]? = some (ss.getD i "") := by rw [List.getD_eq_getElem?_getD, List.getElem?_eq_getElem hlt]; rfl
    have hstep : (if ss.getD i "" ∈ dedup (ss.take i) then dedup (ss.take i) else dedup (ss.take i) ++ [ss.getD i ""]) = dedup (ss.take (i + 1)) := by rw [take_snoc hx, dedup_snoc]
    rw [hstep] at T'
    refine wpAny_pure ⟨plainId_quiet PyProof.Rows.F.plain_set_update_loop _, ih (i + 1) _ o' (by omega) hlt (Wk.frame _ s' _ _ hst' (Nat.le_succ _) fun b hb o e => ?_) hg T' fun s'' o'' hm'' hg'' T'' => ?_⟩
    · rw [hsb.2 b (fun h : b = S => hSf (by rw [← h]; exact hb))]; exact e
    · refine hR s'' o'' (Moved.trans Wk.gtrans ((hm.mono hsub).then_heap (Nat.le_succ _) fun b o hb e => ?_) hm'') hg'' T''
      rw [hsb.2 b (fun h : b = S => hb (by rw [h]; exact List.mem_cons_self))]; exact e
end
section
variable {prog : Program} {w : World} {A : Around} {E : Value → Shared → Prop} {s : Shared}
theorem setT_fresh : SetT prog w (setObj #[] 0 (.fresh 0 0 (!w.params.followText "set-order"))) [] :=
  ⟨⟨#[], 0, _, rfl, fun e he => by simp at he, by simp, by decide, by rfl, fun h => absurd rfl h, by cases w.params.followText "set-order" <;> simp [SetTable.fresh]⟩, List.nodup_nil⟩
theorem set_new_1T (a : Value) {Q₁ : Value → Shared → Prop} (h : Q₁ (.ref s.heap.objs.size) { s with heap := s.heap.push (setObj #[] 0 (.fresh 0 0 (!w.params.followText "set-order"))) }) :
    codeAny (model prog w) A (.call (.builtin "set.__new__") ⟨[.type "set", a], []⟩) (wants Q₁ E) s := by
  refine codeAny_of_tree ?_
  show wpAny _ A.in1 (do checkBuiltinCall "set.__new__" ⟨[.type "set", a], []⟩; again (.builtin "set.__new__" ⟨[.type "set", a], []⟩)) _ _ s
  refine wpAny_bind (wpAny_of_eq (PySem.F.newCall_set_1 a) (wpAny_pure ⟨plainId_quiet PySem.F.plain_set_new _, codeAny_builtin PySem.F.entry_set_new ?_⟩))
  rw [Around.under_plainId PySem.F.plain_set_new _]
  unfold Builtin.«set.__new__» Builtin.Frozenset.newClass
  have hsub := PySem.sub_set_self
  obtain ⟨hp, g, d, tk, os⟩ := s
  dsimp only
  wp_walk
  refine wpAny_askSetting (wpAny_pure ?_)
  dsimp only
  simp only [newObj]
  refine wpAny_bind (wpAny_alloc (wpAny_pure ?_))
  exact wpAny_pure h
theorem strs_val : ∀ {vs : List Value} {ss : List Str} {i : Nat} {v : Value}, StrsAre vs ss → vs[i]? = some v → ∃ t, v = .str (ss.getD i "") t
  | _, _, i, v, .nil, h => by simp at h
  | _, _, 0, v, .cons n t hr, h => by simp at h; exact ⟨t, by rw [← h]; rfl⟩
  | _, _, i + 1, v, .cons n t hr, h => by
    simp only [List.getElem?_cons_succ] at h
    obtain ⟨t', e⟩ := strs_val hr h
    exact ⟨t', by rw [e]; rfl⟩
set_option maxHeartbeats 4000000 in
theorem callType_chk {T newId initId : String} {args : List Value} {Q Q₁ : Value → Shared → Prop} (ft : TypeCalled T newId initId)
    (hct : checkTypeCall T ⟨args, []⟩ = pure ()) (hnew : codeAny (model prog w) A.in1 (.call (.builtin newId) ⟨.type T :: args, []⟩) (wants Q₁ E) s)
    (hnext : ∀ obj s₁, Q₁ obj s₁ → s₁.TypeIs obj T ∧ codeAny (model prog w) A.in1 (.call (.builtin initId) ⟨obj :: args, []⟩) (wants (fun r s₂ => r = .none ∧ Q obj s₂) E) s₁) :
    wpAny (model prog w) A (call (.type T) args) Q E s := by
  obtain ⟨c, tl, hmro⟩ := ft.mro
  have hmade := ft.made
  have hsub := ft.sub
  refine wpAny_call (codeAny_of_tree ?_)
  show wpAny _ _ (callAny (.type T) _) _ _ _
  refine wpAny_pure ⟨Code.quiet_builtin _ (by decide +kernel), codeAny_builtin PySem.F.entry_type_call ?_⟩
  rw [Around.under_plain (weight_type_call_type T args []) rfl]
  have h1 := ft.notType
  have h2 := ft.canCreate
  repeat (any_goals (first | assumption | wp_step))
  refine codeAny_mono hnew fun r s₁ hr => ?_
  cases r with
  | error e => exact hr
  | ok fl =>
    cases fl with
    | ret obj =>
      obtain ⟨hT, hcode⟩ := hnext obj s₁ hr
      have hli := ft.init.lookup
      have hbi := ft.init.bind obj
      repeat (any_goals (first | assumption | wp_step))
      refine codeAny_mono hcode fun r₂ s₂ hr₂ => ?_
      cases r₂ with
      | error e => exact hr₂
      | ok fl₂ =>
        cases fl₂ with
        | ret r =>
          obtain ⟨rfl, hq⟩ := hr₂
          repeat (any_goals (first | assumption | wp_step))
        | _ => exact hr₂.elim
    | _ => exact hr.elim
end
end Mine
end
section
set_option autoImplicit false
namespace Mine
section
variable {prog : Program} {w : World} {A : Around} {E : Value → Shared → Prop} {s : Shared}
set_option maxHeartbeats 4000000 in
theorem init_T {l S : Addr} {items : Array Value} {ss : List Str} {so : Obj} {nl : Nat} {Q : Value → Shared → Prop} (hh : A.handled = none) (hS : s.heap.get? S = some so) (Tso : SetT prog w so []) (hso : so = setObj #[] 0 (.fresh 0 0 (!w.params.followText "set-order")))
    (hl1 : s.heap.IsList l items) (hlS : l ≠ S) (hi : StrsAre items.toList ss) (hb : ss.length < 60)
    (h : ∀ (h' : Heap) (tk : Nat) o, h'.get? S = some o → SetT prog w o (dedup ss) → (∀ b o, b ≠ S → s.heap.get? b = some o → h'.get? b = some o) → Q .none { s with heap := h', toks := tk }) :
    codeAny (model prog w) A (.call (.builtin "set.__init__") ⟨[.ref S, .ref l], []⟩) (wants Q E) s := by
  have hsc : so.cls = .type "set" := by rw [hso]; rfl
  have hT : Shared.TypeIs s (.ref S) "set" := ⟨_, hS, hsc⟩
  have hlen : items.size = ss.length := by rw [← Array.length_toList]; exact hi.length
  have hlS2 : l < s.heap.objs.size := by obtain ⟨o, ho, _⟩ := hl1; exact Heap.lt_size ho
  have hSS : S < s.heap.objs.size := Heap.lt_size hS
  refine codeAny_call_builtin PySem.F.called_set.init.plain PySem.F.entry_set_init (check_set_init_1 hT ?_)
  have hused : ∀ {E' : Value → Shared → Prop} {A' : Around} {Q' : Bool → Shared → Prop}, Q' false s → wpAny (model prog w) A' (setUsed S) Q' E' s := fun {E' A' Q'} q => by
    unfold setUsed
    refine wpAny_bind (wpAny_setState_of (es := #[]) (ep := 0) (t := .fresh 0 0 (!w.params.followText "set-order")) hS (by rw [hso]; rfl) rfl ?_)
    exact wpAny_pure q
  have hl0 := hl1
  obtain ⟨ol, hol, hcl, nl, hdl⟩ := hl1
  obtain ⟨ocls, odict, odata, oslots⟩ := ol
  simp only at hcl hdl
  subst hcl; subst hdl
  have hsls := PySem.F.sub_list_set
  have hslf := PySem.F.sub_list_frozenset
  have hne : (Value.type "list" == Value.type "dict") = false := by decide
  unfold Builtin.«set.__init__» noKeywords Builtin.Frozenset.updateFrom
  generalize hPI : pyIter = PI at *
  generalize hSU : setUsed = SU at *
  wp_walk
  refine hused ?_
  wp_walk
  subst hPI
  refine wpAny_pyIter_list hl0 ?_
  refine wpAny_bind (wpAny_runValue ?_)
  have hh3 : A.in1.in1.handled = none := by simp [hh]
  have hneI : l ≠ s.heap.objs.size := Nat.ne_of_lt hlS2
  have hSf : S ∉ [s.heap.objs.size, l] := by
    simp only [List.mem_cons, List.not_mem_nil, or_false, not_or]
    exact ⟨Nat.ne_of_lt hSS, Ne.symm hlS⟩
  have hval : ∀ (i : Nat) (v : Value), items[i]? = some v → ∃ t, v = .str (ss.getD i "") t := fun i v hv => strs_val hi (by rw [Array.getElem?_toList]; exact hv)
  have W0 := (Walks.list (prog := prog) (w := w) hh3 _ l hneI items).toS
  rw [hlen] at W0
  refine update_T W0 S hSf hval hb (ss.length - 0) 0 _ so (by omega) (Nat.zero_le _) ⟨⟨_, Heap.get?_push_size _ rfl, rfl, rfl⟩, (hl0.push _)⟩ (Heap.get?_push_of_some _ hS) Tso ?_
  intro s' o' hm hg T'
  obtain ⟨h', g', d', tk', os'⟩ := s'
  have eg : g' = s.gens := hm.gens
  have ed : d' = s.drawn := hm.drawn
  have eo : os' = s.os := hm.os
  subst eg; subst ed; subst eo
  show wpAny _ _ _ _ _ _
  refine wpAny_pure ?_
  show wpAny _ _ (ret Value.none) _ _ _
  refine wpAny_pure (h h' tk' o' hg T' fun b o hb e => ?_)
  have hb2 : b ≠ s.heap.objs.size := Nat.ne_of_lt (Heap.lt_size e)
  exact hm.heap b o (by simp only [List.mem_cons, List.not_mem_nil, or_false, not_or]; exact ⟨hb, hb2⟩) (Heap.get?_push_of_some _ e)
end
end Mine
end
section
set_option autoImplicit false
namespace Mine
section
variable {prog : Program} {w : World} {A : Around} {E : Value → Shared → Prop} {s : Shared}
theorem call_set_T {l : Addr} {items : Array Value} {ss : List Str} {Q : Value → Shared → Prop} (hh : A.handled = none) (hl : s.heap.IsList l items) (hi : StrsAre items.toList ss) (hb : ss.length < 60)
    (h : ∀ (h' : Heap) (tk : Nat) o, h'.get? s.heap.objs.size = some o → SetT prog w o (dedup ss) → (∀ b o, s.heap.get? b = some o → h'.get? b = some o) → Q (.ref s.heap.objs.size) { s with heap := h', toks := tk }) :
    wpAny (model prog w) A (call (.type "set") [.ref l]) Q E s := by
  obtain ⟨so, hso⟩ : ∃ so, so = setObj #[] 0 (.fresh 0 0 (!w.params.followText "set-order")) := ⟨_, rfl⟩
  refine callType_chk PySem.F.called_set (PySem.F.typeCall_set_1 (.ref l)) (set_new_1T (.ref l) (E := E) (Q₁ := fun obj s₁ => obj = .ref s.heap.objs.size ∧ s₁ = { s with heap := s.heap.push so }) ⟨rfl, by rw [hso]⟩) ?_
  rintro obj s₁ ⟨rfl, rfl⟩
  have hS : (s.heap.push so).get? s.heap.objs.size = some so := Heap.get?_push_size _ (by rw [hso]; rfl)
  have hlS : l ≠ s.heap.objs.size := by obtain ⟨o, ho, _⟩ := hl; exact Nat.ne_of_lt (Heap.lt_size ho)
  refine ⟨⟨so, hS, by rw [hso]; rfl⟩, ?_⟩
  refine init_T (s := { s with heap := s.heap.push so }) (nl := 0) hh hS (hso ▸ setT_fresh) hso (hl.push _) hlS hi hb fun h' tk o hg T' hk => ⟨rfl, ?_⟩
  exact h h' tk o hg T' fun b o e => hk b o (Nat.ne_of_lt (Heap.lt_size e)) (Heap.get?_push_of_some _ e)
theorem call_add_T {a : Addr} {o : Obj} {xs : List Str} {x : Str} {tk : Tok} {Q : Value → Shared → Prop} (ho : s.heap.get? a = some o) (T : SetT prog w o xs) (hz : xs.length < 60)
    (h : ∀ h' o' t, Heap.SameBut a s.heap h' → h'.get? a = some o' → SetT prog w o' (if x ∈ xs then xs else xs ++ [x]) → Q .none { s with heap := h', toks := t }) :
    wpAny (model prog w) A (call (.builtin "set.add") [.ref a, .str x tk]) Q E s := by
  have hT : s.TypeIs (.ref a) "set" := ⟨o, ho, by obtain ⟨es, ep, t, rfl, _⟩ := T.ex; rfl⟩
  refine wpAny_call_entry PySem.F.slot_set_add hT PySem.F.entry_set_add ?_ (PySem.F.args_set_add_2 _ _)
  unfold Builtin.«set.add» Builtin.Frozenset.oneOther
  simp only [List.isEmpty_nil, bind_assoc]
  unfold Builtin.Frozenset.addrOf setAdd
  refine wpAny_bind (wpAny_pure ?_)
  try dsimp only
  refine wpAny_bind (wpAny_pure ?_)
  try dsimp only
  refine wpAny_bind ?_
  refine wpAny_holding ?_
  refine wpAny_bind ((PySem.strKind prog w).pyHash (k := x) (strKind_is _ _ x tk) ?_)
  refine setAdd_T (s := { s with toks := s.toks + 1 }) ho T hz fun b h' o' hsb hg T' => ?_
  show wpAny _ _ (ret Value.none) _ _ _
  exact wpAny_pure ⟨_, rfl, h h' o' _ hsb hg T'⟩
end
section
variable {W : Wd} {A : Around} {env : Env} {outer : Outs} {loc : Loc} {mem R : Mem} {E : Ex W} {F : Frz} {s : Shared}
theorem set_strs {v : V} {ss : List Str} {Q : V → Loc → Mem → Prop} (hh : A.handled = none) (q : Sq mem v "list" (vStrs ss)) (hz : ss.length < 60) (h : ∀ a o, mem a = none → SetT W.prog W.w o (dedup ss) → Q (.ref a) loc (mset mem a (.raw o))) :
    OpV W A env outer (fun vs => call (.type "set") vs) [v] loc mem Q E := op1 fun R F s v' S r => by
  obtain ⟨a, vs, n, rfl, ho, rs⟩ := q.at S r
  refine call_set_T hh ⟨_, ho, rfl, n, rfl⟩ rs.strs hz fun h' tk o hg T hk => ?_
  exact Post.mk (.ref _) (S.alloc (t := tk) (d := s.drawn) (x := .raw o) (get?_size s.heap) S.size_le hk hg .raw) (h _ o (S.free (get?_size s.heap)).1 T)
theorem set_add {a : Addr} {o : Obj} {xs : List Str} {x : Str} {Q : V → Loc → Mem → Prop} (h1 : mem a = some (.raw o)) (T : SetT W.prog W.w o xs) (hz : xs.length < 60) (h : ∀ o', SetT W.prog W.w o' (if x ∈ xs then xs else xs ++ [x]) → Q .none loc (mset mem a (.raw o'))) :
    OpV W A env outer (fun vs => call (.builtin "set.add") vs) [.ref a, .str x] loc mem Q E := op2 fun R F s v u S r1 r2 => by
  cases r1.view; cases r2.view
  obtain ⟨o', ho, q⟩ := S.memOk _ _ h1
  cases q.view
  refine call_add_T ho T hz fun h' o' t hsb hg T' => ?_
  exact Post.mk .none (S.upd (t := t) (d := s.drawn) (x' := .raw o') h1 (fun b ob hb e => (hsb.2 b hb).trans e) hg .raw) (h o' T')
end
end Mine
end
section
set_option autoImplicit false
namespace Mine
theorem slot_setit_next : Slot "set_iterator" "__next__" "set_iterator.__next__" := .of (owner := "set_iterator") (n := "__next__") (by rw [typeLookup_type, builtinLookup_eq_fast]; kernel_rfl) (by decide +kernel) (by decide +kernel) (by decide +kernel) (by first | exact .inl (by decide +kernel) | exact .inr (by decide +kernel)) (by rw [isSubtype_type]; kernel_rfl)
theorem entry_setit_next : entryFor table "set_iterator.__next__" = some Builtin.«set_iterator.__next__» := entryFor_of_tree (by kernel_rfl)
theorem owner_setit : Manifest.owners.lookup (String.ofList ['r', 'o', 't', 'a', 'r', 'e', 't', 'i', '_', 't', 'e', 's'].reverse) = some Manifest.sig_set_iterator := by kernel_rfl
theorem entry_set_iter : entryFor table "set.__iter__" = some Builtin.«frozenset.__iter__» := entryFor_alias (id' := "frozenset.__iter__") (by kernel_rfl) rfl (by decide +kernel) (by kernel_rfl)
theorem args_setit_next (a : Value) : argsOk "set_iterator.__next__" ⟨[a], []⟩ := by
  unfold argsOk; rw [signature?_of (id := "set_iterator.__next__") (n := ['_', '_', 't', 'x', 'e', 'n', '_', '_']) (o := ['r', 'o', 't', 'a', 'r', 'e', 't', 'i', '_', 't', 'e', 's']) (by kernel_rfl) owner_setit]; kernel_rfl
noncomputable def setitObj (first : Value) (i : Nat) (a : Addr) (n ep : Nat) : Obj := { cls := .type "set_iterator", dict := none, data := .fields #[first, .int i 0, .ref a, .int n 0, .int ep 0], slots := #[] }
section
variable {prog : Program} {w : World} {A : Around} {E : Value → Shared → Prop} {s : Shared} {a : Addr} {es : Array (Int × Value)} {ep : Nat} {t : SetTable}
theorem setDrawn_at {Q : Bool → Shared → Prop} (ho : s.heap.get? a = some (setObj es ep t)) (hf : t.fits es.size = true) (h : Q (!w.params.followText "set-order" && (!t.plain && decide (es.size > 1))) s) : wpAny (model prog w) A (setDrawn a) Q E s := by
  unfold setDrawn
  refine wpAny_bind (wpAny_setState_of ho rfl hf ?_)
  dsimp only
  unfold setsByText
  refine wpAny_bind (wpAny_bind (wpAny_askSetting (wpAny_pure ?_)))
  exact wpAny_pure h
theorem pyIter_set {Q : Value → Shared → Prop} (ho : s.heap.get? a = some (setObj es ep t)) (hf : t.fits es.size = true) (hz : es.size < 64)
    (h1 : (!w.params.followText "set-order" && (!t.plain && decide (es.size > 1))) = false → Q (.ref s.heap.objs.size) { s with heap := s.heap.push (setitObj (.int 0 0) 0 a es.size ep) })
    (h2 : (!w.params.followText "set-order" && (!t.plain && decide (es.size > 1))) = true → ∀ (ps : List Nat) (d : Drawn), ps.Perm (List.range es.size) →
      Q (.ref (s.heap.objs.size + 1)) { s with heap := (s.heap.push { cls := .type "tuple", data := .seq (ps.map fun i => rawInt (i : Nat)).toArray }).push (setitObj (.ref s.heap.objs.size) 0 a es.size ep), drawn := d }) :
    wpAny (model prog w) A (pyIter (.ref a)) Q E s := by
  have hT : s.TypeIs (.ref a) "set" := ⟨_, ho, rfl⟩
  refine wpAny_pyIter_slot hT PySem.F.slot_set_iter (wpAny_call_entry PySem.F.slot_set_iter hT entry_set_iter ?_ (PySem.F.args_set_iter_1 _))
  unfold Builtin.«frozenset.__iter__» Builtin.Frozenset.slot0 slotArgs
  simp only [List.isEmpty_nil, Bool.not_true, Bool.false_eq_true, ↓reduceIte, bind_assoc, List.length_nil, bne_self_eq_false]
  unfold Builtin.Frozenset.addrOf Builtin.Frozenset.sizeOf
  refine wpAny_bind (wpAny_pure ?_)
  try dsimp only
  refine wpAny_bind (wpAny_pure ?_)
  refine wpAny_bind (wpAny_bind (wpAny_setEntries_of ho rfl hf (wpAny_pure ?_)))
  refine wpAny_bind (setDrawn_at ho hf ?_)
  cases hdr : (!w.params.followText "set-order" && (!t.plain && decide (es.size > 1))) with
  | false =>
    rw [if_neg Bool.false_ne_true]
    refine wpAny_bind (wpAny_pure ?_)
    refine wpAny_bind (wpAny_setEpoch_of ho rfl hf ?_)
    refine wpAny_bind ?_
    simp only [newFields]
    refine wpAny_newObj_type ?_ (by size_fits)
    exact wpAny_pure ⟨_, rfl, "set_iterator", _, ⟨_, Heap.get?_push_size _ rfl, rfl⟩, slot_setit_next.lookup, h1 hdr⟩
  | true =>
    rw [if_pos rfl]
    refine wpAny_bind (wpAny_drawOrder es.size (List.range es.size) (List.length_range) fun ps d hp => ?_)
    have hpl : ps.length = es.size := by rw [hp.length_eq, List.length_range]
    refine wpAny_bind ?_
    simp only [newTuple]
    refine wpAny_newObj_type ?_ (by show List.length _ ≤ _; rw [List.length_map, hpl]; exact Nat.le_trans (Nat.le_of_lt hz) (by decide))
    refine wpAny_bind (wpAny_setEpoch_of (Heap.get?_push_of_some _ ho) rfl hf ?_)
    refine wpAny_bind ?_
    simp only [newFields]
    refine wpAny_newObj_type ?_ (by size_fits)
    have := h2 hdr ps d hp
    refine wpAny_pure ⟨_, rfl, "set_iterator", _, ⟨_, Heap.get?_push_size _ rfl, rfl⟩, slot_setit_next.lookup, ?_⟩
    rw [Heap.size_push]
    exact this
end
end Mine
end
section
set_option autoImplicit false
namespace Mine
section
variable {prog : Program} {w : World} {A : Around} {E : Value → Shared → Prop} {s : Shared} {a it tp : Addr} {es : Array (Int × Value)} {ep i slot : Nat} {t : SetTable}
theorem setit_put {h : Heap} {k : Nat} {x first : Value} {i' : Int} (ho : h.get? it = some { cls := .type "set_iterator", dict := none, data := .fields #[first, .int i' 0, .ref a, .int es.size 0, .int ep 0], slots := #[] }) :
    (h.update it (Obj.mapFields (·.setIfInBounds k x))).get? it = some { cls := .type "set_iterator", dict := none, data := .fields (#[first, .int i' 0, .ref a, .int es.size 0, .int ep 0].setIfInBounds k x), slots := #[] } := by
  have := Heap.get?_update_self (Obj.mapFields (·.setIfInBounds k x)) ho (Obj.isFreed_of_fields (Obj.data_mapFields (vs := #[first, .int i' 0, .ref a, .int es.size 0, .int ep 0]) rfl _))
  rw [this]; rfl
theorem stop_here {Q : Option Value → Shared → Prop} {P : Fin → Shared → Prop} {s0 : Heap} (hh : A.handled = none) (hb : Heap.ExtBut it s0 s.heap) (hQ : ∀ h', Heap.ExtBut it s0 h' → Q none { s with heap := h' }) :
    wpAny (model prog w) A.in1 (do raiseNew (← newExc (.type "StopIteration") []) : Sem Fin) P (fun e s' => wpAny (model prog w) A (match (Except.error e : Except Value (Option Value)) with
      | .ok (some v) => pure (some v)
      | .ok none => unsupported "iter:the-iterator's-class-has-lost-its-__next__-amid-the-walk"
      | .error e => do if ← isInstance e (.type "StopIteration") then pure none else throw e) Q E s') s := by
  refine wpAny_bind ?_
  simp only [newExc, newTuple]
  refine wpAny_bind (wpAny_newObj_type ?_ (by size_fits))
  refine wpAny_bind (m := firstArgMember _ _) (wpAny_of_eq (a := Value.none) (by first | rfl | (simp only [firstArgMember]; rfl)) ?_)
  refine wpAny_newObj_type ?_ (by size_fits)
  simp only [raiseNew]
  refine wpAny_bind (wpAny_handled ?_)
  rw [show A.in1.handled = none from hh]
  refine wpAny_bind (wpAny_pure (wpAny_throw ?_))
  refine wpAny_bind (wpAny_isInstance (T := "StopIteration") (b := true) ⟨_, Heap.get?_push_size _ rfl, rfl⟩ isSubtype_stop ?_)
  exact wpAny_pure (hQ _ ((hb.push _).push _))
theorem next_drawn {Q : Option Value → Shared → Prop} {ps : List Nat} {p : Nat} {e : Int × Value} (hit : s.heap.get? it = some (setitObj (.ref tp) i a es.size ep)) (ho : s.heap.get? a = some (setObj es ep t)) (hf : t.fits es.size = true)
    (htp : s.heap.get? tp = some { cls := .type "tuple", data := .seq (ps.map fun i => rawInt (i : Nat)).toArray }) (hi : ps[i]? = some p) (hp : es[p]? = some e)
    (hQ : ∀ h', h'.get? it = some (setitObj (.ref tp) (i + 1) a es.size ep) → Heap.SameBut it s.heap h' → Q (some e.2) { s with heap := h' }) : wpAny (model prog w) A (pyNext (.ref it)) Q E s := by
  have hT : s.TypeIs (.ref it) "set_iterator" := ⟨_, hit, rfl⟩
  unfold pyNext
  refine wpAny_bind (wpAny_attempt (wpAny_callSpecial?_slot (name := Str.ofString "__next__") hT slot_setit_next
    (wpAny_call_entry slot_setit_next hT entry_setit_next ?_ (args_setit_next _))))
  unfold Builtin.«set_iterator.__next__»
  refine wpAny_bind (wpAny_of_eq (a := (Value.ref it, [])) rfl ?_)
  refine wpAny_bind (wpAny_fieldsOf hit rfl ?_)
  refine wpAny_bind (wpAny_setEntries_of ho rfl hf ?_)
  rw [if_neg (by simp)]
  have hseq : wpAny (model prog w) A.in1 (seqItems? (.ref tp)) (fun r s' => r = some (ps.map fun i => rawInt (i : Nat)).toArray ∧ s' = s) (fun _ _ => False) s := by
    unfold seqItems?
    exact wpAny_bind (wpAny_load htp (wpAny_pure ⟨rfl, rfl⟩))
  refine wpAny_bind (wpAny_mono hseq (fun r s' ⟨e1, e2⟩ => ?_) fun _ _ f => f.elim)
  subst e1; subst e2
  dsimp only
  rw [show (ps.map fun i => rawInt (i : Nat)).toArray[(i : Int).toNat]? = some (rawInt (p : Nat)) from by rw [Int.toNat_natCast, List.getElem?_toArray, List.getElem?_map, hi]; rfl]
  unfold setNextDrawn
  refine wpAny_bind (wpAny_bind (wpAny_setState_of ho rfl hf ?_))
  dsimp only
  rw [if_neg (by simp), Int.toNat_natCast, hp]
  refine wpAny_pure ?_
  refine wpAny_bind (wpAny_setField hit rfl (by show 1 < 5; decide) ?_)
  exact wpAny_pure ⟨_, rfl, wpAny_pure (hQ _ (setit_put hit) (Heap.SameBut.update ..))⟩
theorem next_drawn_end {Q : Option Value → Shared → Prop} {ps : List Nat} (hit : s.heap.get? it = some (setitObj (.ref tp) i a es.size ep)) (ho : s.heap.get? a = some (setObj es ep t)) (hf : t.fits es.size = true)
    (hh : A.handled = none) (htp : s.heap.get? tp = some { cls := .type "tuple", data := .seq (ps.map fun i => rawInt (i : Nat)).toArray }) (hi : ps[i]? = none)
    (hQ : ∀ h', Heap.ExtBut it s.heap h' → Q none { s with heap := h' }) : wpAny (model prog w) A (pyNext (.ref it)) Q E s := by
  have hT : s.TypeIs (.ref it) "set_iterator" := ⟨_, hit, rfl⟩
  unfold pyNext
  refine wpAny_bind (wpAny_attempt (wpAny_callSpecial?_slot (name := Str.ofString "__next__") hT slot_setit_next
    (wpAny_call_entry slot_setit_next hT entry_setit_next ?_ (args_setit_next _))))
  unfold Builtin.«set_iterator.__next__»
  refine wpAny_bind (wpAny_of_eq (a := (Value.ref it, [])) rfl ?_)
  refine wpAny_bind (wpAny_fieldsOf hit rfl ?_)
  refine wpAny_bind (wpAny_setEntries_of ho rfl hf ?_)
  rw [if_neg (by simp)]
  have hseq : wpAny (model prog w) A.in1 (seqItems? (.ref tp)) (fun r s' => r = some (ps.map fun i => rawInt (i : Nat)).toArray ∧ s' = s) (fun _ _ => False) s := by
    unfold seqItems?
    exact wpAny_bind (wpAny_load htp (wpAny_pure ⟨rfl, rfl⟩))
  refine wpAny_bind (wpAny_mono hseq (fun r s' ⟨e1, e2⟩ => ?_) fun _ _ f => f.elim)
  subst e1; subst e2
  dsimp only
  rw [show (ps.map fun i => rawInt (i : Nat)).toArray[(i : Int).toNat]? = none from by rw [Int.toNat_natCast, List.getElem?_toArray, List.getElem?_map, hi]; rfl]
  refine wpAny_bind (wpAny_setField hit rfl (by show 0 < 5; decide) ?_)
  refine wpAny_bind (wpAny_setField (setit_put hit) rfl (by show 2 < 5; decide) ?_)
  exact stop_here hh ((Heap.SameBut.update ..).trans (Heap.SameBut.update ..)).extBut hQ
theorem next_plain {Q : Option Value → Shared → Prop} {x : Value} {nx : Nat} (hit : s.heap.get? it = some (setitObj (.int slot 0) i a es.size ep)) (ho : s.heap.get? a = some (setObj es ep t)) (hf : t.fits es.size = true)
    (hn : ∀ {A' : Around} {E' : Value → Shared → Prop} {Q' : Option (Value × Nat) → Shared → Prop}, Q' (some (x, nx)) s → wpAny (model prog w) A' (setNext a slot i ep) Q' E' s)
    (hQ : ∀ h', h'.get? it = some (setitObj (.int nx 0) (i + 1) a es.size ep) → Heap.SameBut it s.heap h' → Q (some x) { s with heap := h' }) : wpAny (model prog w) A (pyNext (.ref it)) Q E s := by
  have hT : s.TypeIs (.ref it) "set_iterator" := ⟨_, hit, rfl⟩
  unfold pyNext
  refine wpAny_bind (wpAny_attempt (wpAny_callSpecial?_slot (name := Str.ofString "__next__") hT slot_setit_next
    (wpAny_call_entry slot_setit_next hT entry_setit_next ?_ (args_setit_next _))))
  unfold Builtin.«set_iterator.__next__»
  refine wpAny_bind (wpAny_of_eq (a := (Value.ref it, [])) rfl ?_)
  refine wpAny_bind (wpAny_fieldsOf hit rfl ?_)
  refine wpAny_bind (wpAny_setEntries_of ho rfl hf ?_)
  rw [if_neg (by simp)]
  refine wpAny_bind (hn ?_)
  dsimp only
  refine wpAny_bind (wpAny_setField hit rfl (by show 0 < 5; decide) ?_)
  refine wpAny_bind (wpAny_setField (setit_put hit) rfl (by show 1 < 5; decide) ?_)
  refine wpAny_pure ⟨_, rfl, wpAny_pure (hQ _ ?_ ((Heap.SameBut.update ..).trans (Heap.SameBut.update ..)))⟩
  have h1 := setit_put (k := 0) (x := rawInt (nx : Nat)) hit
  exact setit_put (k := 1) (x := rawInt ((i : Int) + 1)) h1
theorem next_plain_end {Q : Option Value → Shared → Prop}  (hit : s.heap.get? it = some (setitObj (.int slot 0) i a es.size ep)) (ho : s.heap.get? a = some (setObj es ep t)) (hf : t.fits es.size = true)
    (hh : A.handled = none) (hn : ∀ {A' : Around} {E' : Value → Shared → Prop} {Q' : Option (Value × Nat) → Shared → Prop}, Q' none s → wpAny (model prog w) A' (setNext a slot i ep) Q' E' s)
    (hQ : ∀ h', Heap.ExtBut it s.heap h' → Q none { s with heap := h' }) : wpAny (model prog w) A (pyNext (.ref it)) Q E s := by
  have hT : s.TypeIs (.ref it) "set_iterator" := ⟨_, hit, rfl⟩
  unfold pyNext
  refine wpAny_bind (wpAny_attempt (wpAny_callSpecial?_slot (name := Str.ofString "__next__") hT slot_setit_next
    (wpAny_call_entry slot_setit_next hT entry_setit_next ?_ (args_setit_next _))))
  unfold Builtin.«set_iterator.__next__»
  refine wpAny_bind (wpAny_of_eq (a := (Value.ref it, [])) rfl ?_)
  refine wpAny_bind (wpAny_fieldsOf hit rfl ?_)
  refine wpAny_bind (wpAny_setEntries_of ho rfl hf ?_)
  rw [if_neg (by simp)]
  refine wpAny_bind (hn ?_)
  dsimp only
  refine wpAny_bind (wpAny_setField hit rfl (by show 2 < 5; decide) ?_)
  exact stop_here hh (Heap.SameBut.update ..).extBut hQ
end
end Mine
end
section
set_option autoImplicit false
namespace Mine
structure SWalk (prog : Program) (w : World) (A : Around) (I : Addr) (fp : List Addr) (vs : List Value) (St : Nat → Heap → Prop) : Prop where
  frame : ∀ {i : Nat} {h h' : Heap}, St i h → (∀ b ∈ fp, ∀ o, h.get? b = some o → h'.get? b = some o) → St i h'
  item : ∀ {i : Nat} {v : Value} {s : Shared} {Q : Option Value → Shared → Prop} {E : Value → Shared → Prop}, vs[i]? = some v → St i s.heap →
    (∀ h', St (i + 1) h' → (∀ b o, b ≠ I → s.heap.get? b = some o → h'.get? b = some o) → Q (some v) { s with heap := h' }) → wpAny (model prog w) A (pyNext (.ref I)) Q E s
  done : ∀ {i : Nat} {s : Shared} {Q : Option Value → Shared → Prop} {E : Value → Shared → Prop}, vs[i]? = none → St i s.heap →
    (∀ h', (∀ b o, b ≠ I → s.heap.get? b = some o → h'.get? b = some o) → Q none { s with heap := h' }) → wpAny (model prog w) A (pyNext (.ref I)) Q E s
section
variable {prog : Program} {w : World} {A : Around} {E : Value → Shared → Prop} {s : Shared} {I : Addr} {fp : List Addr} {vs : List Value} {St : Nat → Heap → Prop}
theorem SWalk.loop {R : Result → Shared → Prop} (Wk : SWalk prog w A.in1 I fp vs St) (hz : vs.length < 64) (S : Addr) (hSf : S ∉ fp) (hSI : S ≠ I) (res : Value) :
    ∀ (k i : Nat) (s : Shared) (acc : Array Value) (c : Nat), vs.length - i = k → i ≤ vs.length → St i s.heap → s.heap.get? S = some (seqObj "list" acc c) → acc.toList = vs.take i →
      (∀ h' c', (∀ b o, b ≠ S → b ≠ I → s.heap.get? b = some o → h'.get? b = some o) → h'.get? S = some (seqObj "list" vs.toArray c') → R (.ok (.ret res)) { s with heap := h' }) →
      codeAny (model prog w) A (.builtin "list.extend.loop" ⟨[.ref S, .ref I, res], []⟩) R s := by
  intro k
  induction k with
  | zero =>
    intro i s acc c hk hi hst hS hacc hR
    obtain rfl : i = vs.length := by omega
    rw [List.take_length] at hacc
    obtain rfl : acc = vs.toArray := by rw [← hacc]
    refine codeAny_builtin PySem.F.entry_extend_loop ?_
    rw [Around.under_plainId PySem.F.plain_extend_loop _]
    show wpAny _ A.in1 (pyNext (.ref I) >>= _) _ _ s
    refine wpAny_bind (Wk.done (List.getElem?_eq_none (Nat.le_refl _)) hst fun h' hk' => ?_)
    exact wpAny_pure (hR h' c (fun b o _ hb e => hk' b o hb e) (hk' S _ hSI hS))
  | succ k ih =>
    intro i s acc c hk hi hst hS hacc hR
    have hlt : i < vs.length := by omega
    refine codeAny_builtin PySem.F.entry_extend_loop ?_
    rw [Around.under_plainId PySem.F.plain_extend_loop _]
    show wpAny _ A.in1 (pyNext (.ref I) >>= _) _ _ s
    refine wpAny_bind (Wk.item (List.getElem?_eq_getElem hlt) hst fun h' hst' hk' => ?_)
    have hS' := hk' S _ hSI hS
    have hsz : acc.size = i := by rw [← Array.length_toList, hacc, List.length_take]; omega
    show wpAny _ A.in1 (updateSeq S (·.push vs[i]) >>= _) _ _ _
    refine wpAny_bind ?_
    refine wpAny_updateSeq hS' rfl (wpAny_pure ⟨plainId_quiet PySem.F.plain_extend_loop _, ih (i + 1) _ (acc.push vs[i]) _ (by omega) hlt (Wk.frame hst' fun b hb o e => ?_) (get?_update_seq hS' (·.push vs[i])) (by rw [Array.toList_push, hacc, List.take_succ_eq_append_getElem hlt]) fun h'' c' hk'' hS'' => ?_⟩)
      (by rw [hsz]; exact Nat.le_trans (Nat.le_of_lt (Nat.lt_trans hlt hz)) (by decide)) (by show (acc.push vs[i]).size ≤ sizeLine + 1; rw [Array.size_push, hsz]; exact Nat.le_trans (Nat.succ_le_succ (Nat.le_of_lt (Nat.lt_trans hlt hz))) (by decide))
    · exact (Heap.get?_update_other _ _ (fun h : S = b => hSf (by rw [h]; exact hb))).trans e
    · refine hR h'' c' (fun b o hb1 hb2 e => hk'' b o hb1 hb2 ?_) hS''
      exact (Heap.get?_update_other _ _ (Ne.symm hb1)).trans (hk' b o hb2 e)
theorem hint_set {r : Addr} {Q : Bool → Shared → Prop} (hT : s.TypeIs (.ref r) "set") (h : Q false s) : wpAny (model prog w) A (Builtin.List.listLengthHint (.ref r)) Q E s := by
  unfold Builtin.List.listLengthHint
  refine wpAny_bind (wpAny_specialOf hT PySem.F.slot_set_len.lookup ?_)
  generalize hid : ("set.__len__" : String) = id0
  wp_delta
  rw [show splitId id0 = some ("set", "__len__") from by subst hid; decide +kernel]
  subst hid
  refine wpAny_bind (wpAny_isInstance (T := "set") (b := true) hT (by rw [isSubtype_type]; kernel_rfl) ?_)
  refine wpAny_ite_split (fun hab => absurd hab (by decide)) (fun _ => ?_)
  refine wpAny_ite_split (fun _ => ?_) (fun hab => absurd (by decide +kernel) hab)
  refine wpAny_bind (wpAny_typeOf hT ?_)
  exact wpAny_pure h
noncomputable def drawnVs (es : Array (Int × Value)) (ps : List Nat) : List Value := ps.map fun p => ((es[p]?).map (·.2)).getD .none
theorem drawnVs_perm {es : Array (Int × Value)} {ps : List Nat} (h : ps.Perm (List.range es.size)) : (drawnVs es ps).Perm (es.toList.map (·.2)) := by
  have h1 := h.map (fun p => ((es[p]?).map (·.2)).getD Value.none)
  refine h1.trans (List.Perm.of_eq ?_)
  apply List.ext_getElem
  · simp
  · intro i h1 h2
    simp only [List.length_map, List.length_range] at h1
    simp [h1]
theorem swalk_drawn {a tp : Addr} {es : Array (Int × Value)} {ep : Nat} {t : SetTable} {ps : List Nat} (hh : A.handled = none) (hf : t.fits es.size = true) (hp : ps.Perm (List.range es.size)) (h1 : I ≠ a) (h2 : I ≠ tp) :
    SWalk prog w A I [I, a, tp] (drawnVs es ps) (fun i h => h.get? I = some (setitObj (.ref tp) i a es.size ep) ∧ h.get? a = some (setObj es ep t) ∧ h.get? tp = some { cls := .type "tuple", data := .seq (ps.map fun i => rawInt (i : Nat)).toArray }) where
  frame := fun st hk => ⟨hk I (by simp) _ st.1, hk a (by simp) _ st.2.1, hk tp (by simp) _ st.2.2⟩
  item := fun {i v s Q E} hv st hQ => by
    unfold drawnVs at hv
    rw [List.getElem?_map] at hv
    cases hpi : ps[i]? with
    | none => rw [hpi] at hv; cases hv
    | some p =>
      rw [hpi] at hv
      have hlt : p < es.size := List.mem_range.mp (hp.mem_iff.mp (List.mem_of_getElem? hpi))
      have hep : es[p]? = some es[p] := Array.getElem?_eq_getElem hlt
      have hv : ((es[p]?).map (·.2)).getD Value.none = v := Option.some.inj hv
      rw [hep] at hv
      subst hv
      exact next_drawn st.1 st.2.1 hf st.2.2 hpi hep fun h' hg hs => hQ h' ⟨hg, (hs.2 a (Ne.symm h1)).trans st.2.1, (hs.2 tp (Ne.symm h2)).trans st.2.2⟩ fun b o hb e => (hs.2 b hb).trans e
  done := fun {i s Q E} hv st hQ => by
    unfold drawnVs at hv
    rw [List.getElem?_map, Option.map_eq_none_iff] at hv
    exact next_drawn_end st.1 st.2.1 hf hh st.2.2 hv fun h' hs => hQ h' fun b o hb e => hs b o hb e
theorem pick_perm {α : Type} (next : Nat → Nat) : ∀ (n k : Nat) (l : List α) (out : Array α), l.length = n → (pickOrder.go next n k l out).toList.Perm (out.toList ++ l)
  | 0, k, l, out, hl => by
    obtain rfl : l = [] := List.eq_nil_of_length_eq_zero hl
    unfold pickOrder.go
    rw [List.append_nil]
  | n + 1, k, l, out, hl => by
    have hlt : next k % l.length < l.length := Nat.mod_lt _ (by omega)
    unfold pickOrder.go
    rw [List.getElem?_eq_getElem hlt]
    dsimp only
    refine (pick_perm next n (k + 1) _ _ (by rw [List.length_eraseIdx_of_lt hlt, hl]; rfl)).trans ?_
    rw [Array.toList_push, List.append_assoc]
    exact (erase_perm l _ hlt).append_left _
theorem setNext_text {a : Addr} {es : Array (Int × Value)} {ep slot i : Nat} {t : SetTable} {Q : Option (Value × Nat) → Shared → Prop} (hb : w.params.followText "set-order" = true) (ho : s.heap.get? a = some (setObj es ep t)) (hf : t.fits es.size = true)
    (h : Q ((((pickOrder (w.params.setOrder a ep) es).toList.map (·.2))[i]?).map fun x => (x, slot)) s) : wpAny (model prog w) A (setNext a slot i ep) Q E s := by
  unfold setNext
  refine wpAny_bind (wpAny_setState_of ho rfl hf ?_)
  dsimp only
  unfold setsByText
  refine wpAny_bind (wpAny_bind (wpAny_askSetting (wpAny_pure ?_)))
  refine wpAny_ite_split (fun _ => ?_) (fun q => absurd hb q)
  rw [if_neg (by simp)]
  unfold setWalk setsByText
  refine wpAny_bind (wpAny_bind (wpAny_setState_of ho rfl hf ?_))
  dsimp only
  refine wpAny_bind (wpAny_bind (wpAny_askSetting (wpAny_pure ?_)))
  refine wpAny_ite_split (fun _ => ?_) (fun q => absurd hb q)
  refine wpAny_bind (wpAny_askSetting (wpAny_pure ?_))
  refine wpAny_pure ?_
  have : (((pickOrder (w.params.setOrder a ep) es).toList.map (·.2))[i]?).map (fun x => (x, slot)) = (((pickOrder (w.params.setOrder a ep) es))[i]?).map fun e => (e.2, slot) := by
    rw [List.getElem?_map, Option.map_map, Array.getElem?_toList]; rfl
  rw [this] at h
  exact h
theorem swalk_text {a : Addr} {es : Array (Int × Value)} {ep : Nat} {t : SetTable} (hh : A.handled = none) (hb : w.params.followText "set-order" = true) (hf : t.fits es.size = true) (h1 : I ≠ a) :
    SWalk prog w A I [I, a] ((pickOrder (w.params.setOrder a ep) es).toList.map (·.2)) (fun i h => h.get? I = some (setitObj (.int (0 : Nat) 0) i a es.size ep) ∧ h.get? a = some (setObj es ep t)) where
  frame := fun st hk => ⟨hk I (by simp) _ st.1, hk a (by simp) _ st.2⟩
  item := fun {i v s Q E} hv st hQ => by
    refine next_plain (slot := 0) (nx := 0) (x := v) st.1 st.2 hf (fun {A' E' Q'} q => setNext_text hb st.2 hf (by rw [hv]; exact q)) fun h' hg hs => hQ h' ⟨hg, (hs.2 a (Ne.symm h1)).trans st.2⟩ fun b o hb e => (hs.2 b hb).trans e
  done := fun {i s Q E} hv st hQ => by
    exact next_plain_end (slot := 0) st.1 st.2 hf hh (fun {A' E' Q'} q => setNext_text hb st.2 hf (by rw [hv]; exact q)) fun h' hs => hQ h' fun b o hb e => hs b o hb e
end
end Mine
end
section
set_option autoImplicit false
namespace Mine
section
variable {prog : Program} {w : World} {A : Around} {E : Value → Shared → Prop} {s : Shared} {I : Addr}
theorem below10 (p : Nat) : SetTable.below #[p] 0 = 0 := by simp [SetTable.below, SetTable.below.go]
theorem below11 (p : Nat) : SetTable.below #[p] (p + 1) = 1 := by simp [SetTable.below, SetTable.below.go]
theorem setNext_small {a : Addr} {es : Array (Int × Value)} {ep slot i : Nat} {t : SetTable} {Q : Option (Value × Nat) → Shared → Prop} (hb : ¬ w.params.followText "set-order" = true) (hled : t.led = true) (hz : es.size ≤ 1) (ho : s.heap.get? a = some (setObj es ep t)) (hf : t.fits es.size = true)
    (h : Q (match es[SetTable.below t.place slot]?, t.place[SetTable.below t.place slot]? with
    | some (_, x), some j => some (x, j + 1)
    | _, _ => none) s) : wpAny (model prog w) A (setNext a slot i ep) Q E s := by
  unfold setNext
  refine wpAny_bind (wpAny_setState_of ho rfl hf ?_)
  dsimp only
  unfold setsByText
  refine wpAny_bind (wpAny_bind (wpAny_askSetting (wpAny_pure ?_)))
  refine wpAny_ite_split (fun q => absurd q hb) (fun _ => ?_)
  refine wpAny_ite_split (fun q => ?_) (fun _ => ?_)
  · have q : (!t.plain && decide (es.size > 1)) = true := q
    rw [Bool.and_eq_true, decide_eq_true_eq] at q
    omega
  · refine wpAny_bind ?_
    show wpAny _ _ (if (!t.led && !es.isEmpty) = true then unsupported "set:maker-not-led" else pure ()) _ _ _
    rw [hled]
    exact wpAny_pure (wpAny_pure h)
theorem swalk_small {a : Addr} {es : Array (Int × Value)} {ep : Nat} {t : SetTable} (hh : A.handled = none) (hb : ¬ w.params.followText "set-order" = true) (hled : t.led = true) (hz : es.size ≤ 1) (hf : t.fits es.size = true) (h1 : I ≠ a) :
    SWalk prog w A I [I, a] (es.toList.map (·.2)) (fun i h => (∃ slot : Nat, h.get? I = some (setitObj (.int slot 0) i a es.size ep) ∧ (i = 0 → slot = 0) ∧ (0 < i → ∃ p, t.place = #[p] ∧ slot = p + 1)) ∧ h.get? a = some (setObj es ep t)) where
  frame := fun st hk => ⟨let ⟨slot, e, r⟩ := st.1; ⟨slot, hk I (by simp) _ e, r⟩, hk a (by simp) _ st.2⟩
  item := fun {i v s Q E} hv st hQ => by
    obtain ⟨⟨slot, hit, c1, c2⟩, ho⟩ := st
    have hlt : i < es.size := by
      rw [List.getElem?_map, Option.map_eq_some_iff] at hv
      obtain ⟨e, he, _⟩ := hv
      rw [List.getElem?_eq_some_iff] at he
      simpa using he.1
    obtain rfl : i = 0 := by omega
    obtain rfl := c1 rfl
    have hps : t.place.size = 1 := by
      simp only [SetTable.fits, Bool.and_eq_true, beq_iff_eq] at hf
      omega
    obtain ⟨p, hp⟩ : ∃ p, t.place = #[p] := ⟨t.place[0], by
      apply Array.ext
      · simp [hps]
      · intro j h1 h2; simp at h2; subst h2; rfl⟩
    obtain ⟨e, he⟩ : ∃ e, es[0]? = some e := ⟨es[0], Array.getElem?_eq_getElem hlt⟩
    have hve : e.2 = v := by
      rw [List.getElem?_map, Array.getElem?_toList, he] at hv
      exact Option.some.inj hv
    refine next_plain (slot := 0) (nx := p + 1) (x := v) hit ho hf (fun {A' E' Q'} q => setNext_small hb hled hz ho hf (by rw [hp, below10, he]; rw [← hve] at q; exact q)) fun h' hg hs => hQ h' ⟨⟨p + 1, hg, fun z => (nomatch z), fun _ => ⟨p, hp, rfl⟩⟩, (hs.2 a (Ne.symm h1)).trans ho⟩ fun b o hb e => (hs.2 b hb).trans e
  done := fun {i s Q E} hv st hQ => by
    obtain ⟨⟨slot, hit, c1, c2⟩, ho⟩ := st
    rw [List.getElem?_eq_none_iff, List.length_map, Array.length_toList] at hv
    have hps : t.place.size = es.size := by
      simp only [SetTable.fits, Bool.and_eq_true, beq_iff_eq] at hf
      exact hf.1
    refine next_plain_end (slot := slot) hit ho hf hh (fun {A' E' Q'} q => setNext_small hb hled hz ho hf ?_) fun h' hs => hQ h' fun b o hb e => hs b o hb e
    by_cases hi : 0 < i
    · obtain ⟨p, hp, hs⟩ := c2 hi
      rw [hp, hs, below11, Array.getElem?_eq_none (by omega)]
      exact q
    · have hes : es.size = 0 := by omega
      rw [Array.getElem?_eq_none (xs := es) (by omega)]
      exact q
end
end Mine
end
section
set_option autoImplicit false
namespace Mine
section
variable {prog : Program} {w : World} {A : Around} {E : Value → Shared → Prop} {s : Shared}
theorem pyIter_walk {A' : Around} {a : Addr} {o : Obj} {xs : List Str} {Q : Value → Shared → Prop} (hh : A'.handled = none) (ho : s.heap.get? a = some o) (T : SetT prog w o xs)
    (h : ∀ (I : Addr) (fp : List Addr) (St : Nat → Heap → Prop) (h1 : Heap) (d : Drawn) (vs : List Value) (ss : List Str), SWalk prog w A' I fp vs St → St 0 h1 → (∀ b o, s.heap.get? b = some o → h1.get? b = some o) → s.heap.get? I = none → (∀ b ∈ fp, b = a ∨ s.heap.get? b = none) →
      StrsAre vs ss → ss.Perm xs → Q (.ref I) { s with heap := h1, drawn := d }) : wpAny (model prog w) A (pyIter (.ref a)) Q E s := by
  obtain ⟨es, ep, t, rfl, htx, hp, hz, hf, hpl, hled⟩ := T.ex
  have haL : a < s.heap.objs.size := Heap.lt_size ho
  have strsV : ∀ vs : List Value, vs.Perm (es.toList.map (·.2)) → ∃ ss, StrsAre vs ss ∧ ss.Perm xs := fun vs hv => by
    refine ⟨vs.map strOf, ?_, ?_⟩
    · have : ∀ v ∈ vs, ∃ x t, v = .str x t := fun v hm => by
        obtain ⟨e, he, rfl⟩ := List.mem_map.mp (hv.mem_iff.mp hm)
        obtain ⟨x, u, rfl⟩ := htx e he
        exact ⟨x, u, rfl⟩
      clear hv
      induction vs with
      | nil => exact .nil
      | cons v vs ih =>
        obtain ⟨x, u, rfl⟩ := this v (.head _)
        exact .cons x u (ih fun v hv => this v (.tail _ hv))
    · have := hv.map strOf
      rw [List.map_map] at this
      exact this.trans hp
  have hsz : s.heap.get? s.heap.objs.size = none := get?_size _
  refine pyIter_set ho hf hz (fun hd => ?_) (fun hd ps d hps => ?_)
  · have hne : s.heap.objs.size ≠ a := Nat.ne_of_gt haL
    have e1 : s = { s with drawn := s.drawn } := by cases s; rfl
    by_cases hb : w.params.followText "set-order" = true
    · obtain ⟨ss, h1, h2⟩ := strsV ((pickOrder (w.params.setOrder a ep) es).toList.map (·.2)) ((by
        have := pick_perm (w.params.setOrder a ep) es.size 0 es.toList #[] (by simp)
        simpa [pickOrder] using this : (pickOrder (w.params.setOrder a ep) es).toList.Perm es.toList).map _)
      exact h _ [s.heap.objs.size, a] _ _ s.drawn _ ss (swalk_text hh hb hf hne) ⟨Heap.get?_push_size _ rfl, Heap.get?_push_of_some _ ho⟩ (fun b o e => Heap.get?_push_of_some _ e) hsz (fun b hb => by
        simp only [List.mem_cons, List.not_mem_nil, or_false] at hb
        rcases hb with rfl | rfl
        · exact .inr hsz
        · exact .inl rfl) h1 h2
    · have hl : t.led = true := hled.resolve_right hb
      have hz1 : es.size ≤ 1 := by
        by_cases h0 : es.size ≤ 1
        · exact h0
        · have hp0 := hpl (by omega)
          rw [hp0] at hd
          have hb' : w.params.followText "set-order" = false := by cases q : w.params.followText "set-order" with | true => exact absurd q hb | false => rfl
          rw [hb', show decide (es.size > 1) = true from decide_eq_true (by omega)] at hd
          cases hd
      obtain ⟨ss, h1, h2⟩ := strsV (es.toList.map (·.2)) (.refl _)
      exact h _ [s.heap.objs.size, a] _ _ s.drawn _ ss (swalk_small hh hb hl hz1 hf hne) ⟨⟨0, Heap.get?_push_size _ rfl, fun _ => rfl, fun z => absurd z (Nat.lt_irrefl _)⟩, Heap.get?_push_of_some _ ho⟩ (fun b o e => Heap.get?_push_of_some _ e) hsz (fun b hb => by
        simp only [List.mem_cons, List.not_mem_nil, or_false] at hb
        rcases hb with rfl | rfl
        · exact .inr hsz
        · exact .inl rfl) h1 h2
  · obtain ⟨ss, h1, h2⟩ := strsV (drawnVs es ps) (drawnVs_perm hps)
    have hI : s.heap.get? (s.heap.objs.size + 1) = none := get?_ge (Nat.le_succ _)
    have hne : s.heap.objs.size + 1 ≠ a := Nat.ne_of_gt (Nat.lt_succ_of_lt haL)
    refine h _ [s.heap.objs.size + 1, a, s.heap.objs.size] _ _ d _ ss (swalk_drawn (tp := s.heap.objs.size) hh hf hps hne (Nat.succ_ne_self _)) ⟨?_, Heap.get?_push_of_some _ (Heap.get?_push_of_some _ ho), Heap.get?_push_of_some _ (Heap.get?_push_size _ rfl)⟩ (fun b o e => Heap.get?_push_of_some _ (Heap.get?_push_of_some _ e)) hI (fun b hb => by
        simp only [List.mem_cons, List.not_mem_nil, or_false] at hb
        rcases hb with rfl | rfl | rfl
        · exact .inr hI
        · exact .inl rfl
        · exact .inr hsz) h1 h2
    have := Heap.get?_push_size (s.heap.push { cls := .type "tuple", data := .seq (ps.map fun i => rawInt (i : Nat)).toArray }) (o := setitObj (.ref s.heap.objs.size) 0 a es.size ep) rfl
    rw [Heap.size_push] at this
    exact this
theorem extend_set {R : Result → Shared → Prop} {a S : Addr} {o : Obj} {xs : List Str} {c₀ : Nat} {res : Value} (hh : A.handled = none) (ho : s.heap.get? a = some o) (T : SetT prog w o xs) (hz : xs.length < 64) (hSa : S ≠ a) (hS : s.heap.get? S = some (seqObj "list" #[] c₀))
    (hR : ∀ h' d vs ss c', (∀ b o, b ≠ S → s.heap.get? b = some o → h'.get? b = some o) → h'.get? S = some (seqObj "list" (List.toArray vs) c') → StrsAre vs ss → ss.Perm xs → R (.ok (.ret res)) { s with heap := h', drawn := d }) :
    wpAny (model prog w) A.in1 (Builtin.List.listExtendWith (.ref S) (.ref a) res)
      (fun fin s' => match fin with | .done f => R (.ok f) s' | .again c' => c'.quiet = true ∧ codeAny (model prog w) A c' R s') (fun e s' => R (.error e) s') s := by
  have hT : s.TypeIs (.ref a) "set" := ⟨o, ho, by obtain ⟨es, ep, t, rfl, _⟩ := T.ex; rfl⟩
  unfold Builtin.List.listExtendWith
  refine wpAny_bind (wpAny_typeOf (T := "set") hT ?_)
  have h1 : Builtin.List.listSameRef (.ref S) (.ref a) = false := by simp [Builtin.List.listSameRef, hSa]
  have h2 : (Value.type "set" == Value.type "list") = false := by decide
  have h3 : (Value.type "set" == Value.type "tuple") = false := by decide
  simp only [h1, h2, h3, Bool.or_false, Bool.false_eq_true, if_false]
  refine wpAny_bind (pyIter_walk (A' := A.in1) (by simp [hh]) ho T fun I fp St hp1 d vs ss Wk st keep hI hfp hs hperm => ?_)
  have hlen : vs.length < 64 := by
    have e1 : vs.length = ss.length := hs.length
    have := hperm.length_eq; omega
  have hSI : S ≠ I := fun e => by rw [e, hI] at hS; cases hS
  have hSf : S ∉ fp := fun hm => by
    rcases hfp S hm with e | e
    · exact hSa e
    · rw [hS] at e; cases e
  have key : ∀ (h : Heap) (c₁ : Nat), St 0 h → (∀ b o, b ≠ S → s.heap.get? b = some o → h.get? b = some o) → h.get? S = some (seqObj "list" #[] c₁) →
      codeAny (model prog w) A (.builtin "list.extend.loop" ⟨[.ref S, .ref I, res], []⟩) R { s with heap := h, drawn := d } := fun h c₁ hst hk hS₁ =>
    Wk.loop hlen S hSf hSI res (vs.length - 0) 0 { s with heap := h, drawn := d } #[] c₁ rfl (Nat.zero_le _) hst hS₁ rfl fun h' c' hk' hS' =>
      hR h' d vs ss c' (fun b o hb e => hk' b o hb (fun z => by rw [z, hI] at e; cases e) (hk b o hb e)) hS' hs hperm
  have hS₁ := keep _ _ hS
  have hT1 : Shared.TypeIs { s with heap := hp1, drawn := d } (.ref a) "set" := let ⟨o, ho, hc⟩ := hT; ⟨o, keep _ _ ho, hc⟩
  refine wpAny_bind (wpAny_holding (hint_set hT1 ?_))
  refine wpAny_ite_split (fun _ => ?_) (fun _ => wpAny_pure ⟨plainId_quiet PySem.F.plain_extend_loop _, key hp1 c₀ st (fun b o _ e => keep b o e) hS₁⟩)
  refine wpAny_bind (wpAny_rule ?_)
  refine wpAny_bind ?_
  show wpAny _ _ (updateSeq S (·.push .none) >>= fun _ => updateSeq S (·.pop)) _ _ _
  refine wpAny_bind (wpAny_updateSeq hS₁ rfl ?_ (by seq_fits) (by seq_fits))
  have hS₂ := get?_update_seq hS₁ (·.push Value.none)
  refine wpAny_updateSeq (hz := by seq_fits) hS₂ rfl ?_ (by seq_fits)
  have hS₃ := get?_update_seq hS₂ (·.pop)
  refine wpAny_pure ⟨plainId_quiet PySem.F.plain_extend_loop _, key _ _ ?_ (fun b o hb e => ?_) hS₃⟩
  · refine Wk.frame st fun b hb o e => ?_
    have hbS : b ≠ S := fun h => hSf (h ▸ hb)
    exact (Heap.get?_update_other _ _ (Ne.symm hbS)).trans ((Heap.get?_update_other _ _ (Ne.symm hbS)).trans e)
  · exact (Heap.get?_update_other _ _ (Ne.symm hb)).trans ((Heap.get?_update_other _ _ (Ne.symm hb)).trans (keep _ _ e))
end
end Mine
end
section
set_option autoImplicit false
namespace Mine
section
variable {prog : Program} {w : World} {A : Around} {E : Value → Shared → Prop} {s : Shared}
theorem collect_set {a : Addr} {o : Obj} {xs : List Str} {R : List Value → Shared → Prop} (hh : A.handled = none) (ho : s.heap.get? a = some o) (T : SetT prog w o xs) (hz : xs.length < 64)
    (h : ∀ h' d vs ss, (∀ b o, s.heap.get? b = some o → h'.get? b = some o) → StrsAre vs ss → ss.Perm xs → R vs { s with heap := h', drawn := d }) : wpAny (model prog w) A (collect (.ref a)) R E s := by
  unfold collect
  refine wpAny_bind (wpAny_runValue (codeAny_builtin PySem.F.entry_proto_collect ?_))
  rw [Around.under_plainId PySem.F.plain_proto_collect _]
  show wpAny _ A.in1 (newList [] >>= fun l => again (.builtin "list.__iadd__" ⟨[l, .ref a], []⟩)) _ _ s
  refine wpAny_bind (wpAny_newObj_type ?_)
  refine wpAny_pure ⟨plainId_quiet PySem.F.plain_list_iadd _, codeAny_builtin entry_list_iadd' ?_⟩
  rw [Around.under_plainId PySem.F.plain_list_iadd _]
  have hS₁ : (s.heap.push { cls := .type "list", data := .seq ([] : List Value).toArray }).get? s.heap.objs.size = some (seqObj "list" #[] 0) := Heap.get?_push_size _ rfl
  show wpAny _ A.in1 (Builtin.List.listExtendWith (.ref s.heap.objs.size) (.ref a) (.ref s.heap.objs.size)) _ _ _
  have key := extend_set (A := A) (s := { s with heap := s.heap.push { cls := .type "list", data := .seq ([] : List Value).toArray } })
    (R := fun (q : Result) (s' : Shared) => ∃ h' d vs ss c', q = .ok (.ret (.ref s.heap.objs.size)) ∧ s' = { s with heap := h', drawn := d } ∧ (∀ b o, s.heap.get? b = some o → h'.get? b = some o) ∧ h'.get? s.heap.objs.size = some (seqObj "list" (List.toArray vs) c') ∧ StrsAre vs ss ∧ ss.Perm xs)
    (res := .ref s.heap.objs.size) hh (Heap.get?_push_of_some _ ho) T hz (Nat.ne_of_gt (Heap.lt_size ho)) hS₁
    (fun h' d vs ss c' hk hS' hs hp => ⟨h', d, vs, ss, c', rfl, rfl, fun b o e => hk b o (Nat.ne_of_lt (Heap.lt_size e)) (Heap.get?_push_of_some _ e), hS', hs, hp⟩)
  refine wpAny_mono key (fun fin s' x => ?_) fun e s' x => ?_
  · cases fin with
    | done f =>
      obtain ⟨h', d, vs, ss, c', e, rfl, hk, hS', hs, hp⟩ := x
      cases e
      show wpAny _ A (load s.heap.objs.size >>= _) _ _ _
      refine wpAny_bind (wpAny_load hS' ?_)
      exact wpAny_pure (h h' d vs ss hk hs hp)
    | again c₁ =>
      refine ⟨x.1, codeAny_mono x.2 fun q s₂ y => ?_⟩
      obtain ⟨h', d, vs, ss, c', rfl, rfl, hk, hS', hs, hp⟩ := y
      show wpAny _ A (load s.heap.objs.size >>= _) _ _ _
      refine wpAny_bind (wpAny_load hS' ?_)
      exact wpAny_pure (h h' d vs ss hk hs hp)
  · obtain ⟨_, _, _, _, _, e', _⟩ := x
    cases e'
theorem sorted_of {x : Value} {xs : List Str} {Q : Value → Shared → Prop} (h64 : xs.length < 64)
    (hc : ∀ {R : List Value → Shared → Prop}, (∀ h' d tk vs ss, (∀ b o, s.heap.get? b = some o → h'.get? b = some o) → StrsAre vs ss → ss.Perm xs → R vs { s with heap := h', toks := tk, drawn := d }) → wpAny (model prog w) A.in1 (collect x) R E s)
    (h : ∀ h' d tk (D : Addr) vs ss e, (∀ b o, s.heap.get? b = some o → h'.get? b = some o) → s.heap.get? D = none → (∃ h1 : Heap, (∀ b o, s.heap.get? b = some o → h1.get? b = some o) ∧ D = h1.objs.size) → h'.get? D = some (seqObj "list" (List.toArray vs) e) → StrsAre vs ss → ss.Perm xs → sortedS ss = true → Q (.ref D) { s with heap := h', toks := tk, drawn := d }) :
    wpAny (model prog w) A (call (.builtin "sorted") [x]) Q E s := by
  refine Calls.call_function_entry kind_sorted plain_sorted entry_sorted (args_sorted1 _) ?_
  unfold Builtin.«sorted»
  refine wpAny_bind (m := checkCount "sorted" 1 1 _) (wpAny_pure ?_)
  refine wpAny_bind (hc fun h1 d tk vs ss hk hs hp => ?_)
  have hlen : vs.length < 64 := by have e1 : vs.length = ss.length := hs.length; have := hp.length_eq; omega
  refine wpAny_bind (wpAny_newList ?_ (Nat.le_trans (Nat.le_of_lt hlen) (by decide)))
  have hoL : (h1.push (seqObj "list" vs.toArray 0)).get? h1.objs.size = some (seqObj "list" vs.toArray 0) := Heap.get?_push_size _ rfl
  have hnone : s.heap.get? h1.objs.size = none := by
    cases q : s.heap.get? h1.objs.size with
    | none => rfl
    | some o => have := hk _ _ q; rw [get?_size] at this; cases this
  show wpAny _ _ _ _ _ { s with heap := h1.push (seqObj "list" vs.toArray 0), toks := tk, drawn := d }
  refine wpAny_bind (wpAny_holding (wpAny_call_entry slot_list_sort ⟨_, hoL, rfl⟩ entry_list_sort (list_sort_treeK strKind_oneLt hoL hs.keysOf (fun v₁ v₂ rest e => keyKind_strs (by rw [← e]; exact hs)) hlen fun st' a1 a2 => ⟨_, rfl, ?_⟩) (args_list_sort _)))
  obtain ⟨ss', b1, b2, b3⟩ := sorted_out_str hs a1 a2
  obtain ⟨e, he⟩ := sortedHeap_at (vs := vs) (out := (arrOf st').map (·.2)) hoL
  refine wpAny_pure ⟨_, rfl, h _ d tk h1.objs.size ((arrOf st').map (·.2)).toList ss' e (fun b o eb => ?_) hnone ⟨h1, hk, rfl⟩ (by rw [he]) b1 (b2.trans hp) b3⟩
  have hb := hk b o eb
  have hlt := Heap.lt_size hb
  rw [sortedHeap_old (Nat.ne_of_lt hlt) (by rw [Heap.size_push]; exact Nat.lt_succ_of_lt hlt)]
  exact Heap.get?_push_of_some _ hb
end
theorem strs_of_items : ∀ {vs : List Value} {ss : List Str}, vs.length = ss.length → (∀ (j : Nat) (v : Value), vs[j]? = some v → ∃ x t, ss[j]? = some x ∧ v = .str x t) → StrsAre vs ss
  | [], ss, hl, _ => by
    obtain rfl : ss = [] := List.eq_nil_of_length_eq_zero hl.symm
    exact .nil
  | v :: vs, [], hl, _ => by cases hl
  | v :: vs, s :: ss, hl, h => by
    obtain ⟨x, t, e, rfl⟩ := h 0 v rfl
    cases e
    exact .cons _ t (strs_of_items (by simpa using hl) fun j v hv => h (j + 1) v hv)
section
variable {W : Wd} {A : Around} {env : Env} {outer : Outs} {loc : Loc} {mem R : Mem} {E : Ex W} {F : Frz} {s : Shared}
theorem sorted_set {a : Addr} {o : Obj} {xs : List Str} {Q : V → Loc → Mem → Prop} (hh : A.handled = none) (h1 : mem a = some (.raw o)) (T : SetT W.prog W.w o xs) (hz : xs.length < 64) (h : ∀ D ss, mem D = none → ss.Perm xs → sortedS ss = true → Q (.ref D) loc (mset mem D (.list (vStrs ss)))) :
    OpV W A env outer (fun vs => call (.builtin "sorted") vs) [.ref a] loc mem Q E := op1 fun R F s v S r => by
  cases r.view
  obtain ⟨o', ho, q⟩ := S.memOk _ _ h1
  cases q.view
  refine sorted_of (xs := xs) hz (fun {R} hR => collect_set (A := A.in1) (by simp [hh]) ho T hz fun h' d vs ss hk hs hp => hR h' d s.toks vs ss hk hs hp) fun h' d tk D vs ss e hk hD hDle hg hs hp ho => ?_
  obtain ⟨hp1, hk1, rfl⟩ := hDle
  have hle : W.hb.objs.size ≤ hp1.objs.size := (S.grow (t := s.toks) (d := s.drawn) hk1).size_le
  exact Post.mk (.ref _) (S.alloc (t := tk) (d := d) (x := .list (vStrs ss)) hD hle hk hg (.list (by show VRs W F (vStrs ss) _; exact VRs.ofStrs hs))) (h _ ss (S.free hD).1 hp ho)
theorem sorted_dict {a : Addr} {es : List (Str × V)} {ep : Nat} {Q : V → Loc → Mem → Prop} (hh : A.handled = none) (h1 : mem a = some (.dict es ep)) (hz : es.length < 64) (h : ∀ D ss, mem D = none → ss.Perm (es.map (·.1)) → sortedS ss = true → Q (.ref D) loc (mset mem D (.list (vStrs ss)))) :
    OpV W A env outer (fun vs => call (.builtin "sorted") vs) [.ref a] loc mem Q E := op1 fun R F s v S r => by
  cases r.view
  obtain ⟨o', ho, q⟩ := S.memOk _ _ h1
  cases q with
  | @dict _ ds _ kvs k q =>
    have hkeys : kvs.map (·.1) = es.map (·.1) := q.keys
    have K := kdl_dict (prog := W.prog) (w := W.w) (knd := PySem.strKind W.prog W.w) (d := a) (kvs := kvs) (ep := ep) (S.not_modules h1)
    have hlen : kvs.length = es.length := by have := congrArg List.length hkeys; simpa using this
    refine sorted_of (xs := es.map (·.1)) (by rw [List.length_map]; exact hz) (fun {R} hR => kdu_collect (A := A.in1) K (by simp [hh]) (dictOf_ep k ho) (by rw [hlen]; exact Nat.le_trans (Nat.le_of_lt hz) (by decide)) fun h' tk acc hk hacc => hR h' s.drawn tk acc.toList (es.map (·.1)) hk ?_ (.refl _)) fun h' d tk D vs ss e hk hD hDle hg hs hp ho => ?_
    · rw [← hkeys]
      refine strs_of_items ?_ fun j v hv => ?_
      · rw [Array.length_toList, List.length_map]; exact hacc.1
      · obtain ⟨k0, x, e1, e2⟩ := hacc.2 j v (by rw [← Array.getElem?_toList]; exact hv)
        obtain ⟨t, rfl⟩ := Value.isStrOf_shape e2
        exact ⟨k0, t, by rw [List.getElem?_map, e1]; rfl, rfl⟩
    · obtain ⟨hp1, hk1, rfl⟩ := hDle
      have hle : W.hb.objs.size ≤ hp1.objs.size := (S.grow (t := s.toks) (d := s.drawn) hk1).size_le
      exact Post.mk (.ref _) (S.alloc (t := tk) (d := d) (x := .list (vStrs ss)) hD hle hk hg (.list (by show VRs W F (vStrs ss) _; exact VRs.ofStrs hs))) (h _ ss (S.free hD).1 hp ho)
end
end Mine
end
section
set_option autoImplicit false
namespace Mine
section
variable {W : Wd} {A : Around} {env : Env} {outer : Outs} {loc : Loc} {mem R : Mem} {E : Ex W} {F : Frz} {s : Shared}
theorem extend_own {a : Addr} {v : V} {xs ys : List V} {Q : V → Loc → Mem → Prop} (h1 : mem a = some (.list xs)) (q : Sq mem v "list" ys) (hz : xs.length + ys.length ≤ 10000) (h : ∀ m', m' a = some (.list (xs ++ ys)) → (∀ b, b ≠ a → m' b = mem b) → Q .none loc m') :
    OpV W A env outer (fun vs => call (.builtin "list.extend") vs) [.ref a, v] loc mem Q E := op2 fun R F s v1 v2 S r1 r2 => by
  cases r1.view
  obtain ⟨o, ho, q1⟩ := S.memOk _ _ h1
  obtain ⟨b, ws, n2, rfl, hb, rs⟩ := q.at S r2
  cases q1 with
  | @list _ vs n q1 =>
    have e1 : vs.size = xs.length := q1.size
    have e2 : ws.size = ys.length := rs.size
    refine wpAny_call_entry PySem.F.slot_list_extend ⟨_, ho, rfl⟩ PySem.F.entry_list_extend ?_ (PySem.F.args_list_extend_2 _ _)
    show wpAny _ _ (Builtin.List.listExtendWith (.ref a) (.ref b) .none) _ _ _
    unfold Builtin.List.listExtendWith
    refine wpAny_bind (wpAny_typeOf (T := "list") ⟨_, hb, rfl⟩ ?_)
    rw [if_pos (by simp)]
    refine wpAny_bind (listItems_at hb rfl ?_)
    refine wpAny_bind (listItems_at ho rfl ?_)
    rw [if_neg (by
      intro z
      rw [Bool.and_eq_true] at z
      have z2 : Builtin.List.listTooLong (vs.size + ws.size) = true := z.2
      unfold Builtin.List.listTooLong at z2
      simp at z2
      have hsl : (10000 : Nat) ≤ sizeLine := by decide
      omega)]
    refine wpAny_bind (listUpdate_at ho rfl ?_ (by rw [e1]; exact Nat.le_trans (show xs.length ≤ 10000 by omega) (by decide)) (by show (vs ++ ws).size ≤ _; rw [Array.size_append, e1, e2]; exact Nat.le_trans hz (by decide)))
    refine wpAny_pure ⟨_, rfl, ?_⟩
    have hg := get?_update_seq ho (fun xs => xs ++ ws)
    exact Post.mk .none (S.upd (t := s.toks) (d := s.drawn) (x' := .list (xs ++ ys)) h1 (fun c oc hc e => (Heap.get?_update_other _ _ (Ne.symm hc)).trans e) hg (.list (by simpa using q1.app rs))) (h _ (mset_self _ _ _) fun c hc => mset_ne hc)
theorem m_set_add {a : Addr} {o : Obj} {xs : List Str} {pl : Sem Bool} {pos : Pos} {e : PySem.Expr} {rest : List PySem.Expr} {Q : V → Loc → Mem → Prop} (h1 : mem a = some (.raw o)) (T : SetT W.prog W.w o xs)
    (he : starEach (e :: rest) env = (false, eval e env) :: starEach rest env) (hplain : (backTo pos (starEach rest env)).any (·.1) = false)
    (h : TrL W A env outer (spliced (backTo pos (starEach (e :: rest) env))) loc mem (fun xs l m => Op W A env outer (VR W) (fun vs => call (.builtin "set.add") vs) (.ref a :: xs) l m Q E) E) :
    Meth W A env outer "add" pl pos (e :: rest) (.ref a) loc mem Q E := fun R F s v' S r => by
  cases r.view
  obtain ⟨o', ho, q⟩ := S.memOk _ _ h1
  cases q.view
  have hc : o.cls = .type "set" ∧ o.dict = none := by obtain ⟨es, ep, t, rfl, _⟩ := T.ex; exact ⟨rfl, rfl⟩
  refine getMethod_builtin ⟨o, ho, hc.1⟩ PySem.F.plainAttrs_set PySem.F.slot_set_add PySem.F.type_set_add (fun b e => by cases e; exact ⟨o, ho, hc.2⟩) ?_
  rw [he]
  refine Calls.callWith_builtin (by show (false || (backTo pos (starEach rest env)).any (·.1)) = false; rw [hplain]; rfl) (Calls.evalArgs_plain ?_)
  have h' := h R F s S
  rw [he] at h'
  refine after (RW := VR W) (Q := fun _ _ _ => True) h' fun vs s' F1 xs l1 m1 i1 r1 S1 h1 => ?_
  exact wpAny_mono (h1 R F1 s' (.ref a :: vs) S1 (.cons (.ref a) r1)) (fun _ _ p => p.weaken i1) fun _ _ e => E.up i1 e
end
end Mine
end
section
set_option autoImplicit false
namespace Mine
noncomputable def LET : List Str := ["a", "b", "c"]
inductive LC (P : List Pr) (T : List Str) (name : Str) : Str → Prop
  | start : LC P T name name
  | step {p : Pr} {pre post : List Str} {x : Str} : LC P T name p.name → p ∈ P → p.body = pre ++ x :: post → (∀ y ∈ pre, Fst P T eps [y]) → LC P T name x
structure OpG (P : List Pr) (T : List Str) : Prop where
  names : ∀ p ∈ P, p.name ∈ NAMES
  body : ∀ p ∈ P, ∀ y ∈ p.body, y ∈ SIGNS
  term : ∀ y ∈ SIGNS, y ∈ T ↔ y ∈ LET
  noeps : eps ∉ T
  len : ∀ p ∈ P, p.body.length ≤ 10
structure OpInv (P : List Pr) (T : List Str) (name : Str) (items : List Rule) (asked done : List Str) : Prop where
  item : ∀ q ∈ items, q.1 ∈ asked ∧ ∃ p ∈ P, p.name = q.1 ∧ ∃ pre, p.body = pre ++ q.2 ∧ ∀ y ∈ pre, Fst P T eps [y]
  lc : ∀ x ∈ asked, x ∈ NAMES ∧ LC P T name x
  start : name ∈ asked
  rules : ∀ x ∈ asked, ∀ p ∈ P, p.name = x → (x, p.body) ∈ items
  null : ∀ d ∈ done, d ∈ asked ∧ Fst P T eps [d]
  nodI : items.Nodup
  nodD : done.Nodup
  nodA : asked.Nodup
noncomputable def OpClosed (items : List Rule) (asked done : List Str) : Prop := ∀ q ∈ items, (q.2 = [] → q.1 ∈ done) ∧ ∀ x r, q.2 = x :: r → x ∈ NAMES → x ∈ asked ∧ (x ∈ done → (q.1, r) ∈ items)
section
variable {P : List Pr} {T : List Str} {name : Str} {items : List Rule} {asked done : List Str}
theorem Fst.front {f : Str} (he : Mine.eps ∉ T) {pre b : List Str} (hp : ∀ y ∈ pre, Fst P T Mine.eps [y]) (h : Fst P T f b) : Fst P T f (pre ++ b) := by
  induction pre with
  | nil => exact h
  | cons y pre ih => exact Fst.pass he (hp y (.head _)) (ih fun z hz => hp z (.tail _ hz))
theorem LC.up {x f : Str} (he : eps ∉ T) (h : LC P T name x) (hf : f ≠ eps) (hx : Fst P T f [x]) : Fst P T f [name] := by
  induction h with
  | start => exact hx
  | step hl hp hb hpre ih => exact ih (.rule hp (by rw [hb]; exact Fst.front he hpre (hx.more hf _)) hf)
theorem names_signs : ∀ s ∈ NAMES, s ∈ SIGNS ∧ s ∉ LET := by decide +kernel
theorem OpG.notT (g : OpG P T) {x : Str} (hx : x ∈ NAMES) : x ∉ T := fun h => (names_signs x hx).2 ((g.term x (names_signs x hx).1).mp h)
theorem OpInv.answer (g : OpG P T) (I : OpInv P T name items asked done) (C : OpClosed items asked done) (f : Str) :
    Fst P T f [name] ↔ (f = eps ∧ name ∈ done) ∨ (f ≠ eps ∧ f ∈ LET ∧ ∃ q ∈ items, ∃ r, q.2 = f :: r) := by
  have full : ∀ {f : Str} {b : List Str}, Fst P T f b → ∀ l, (l, b) ∈ items → (f = eps → l ∈ done) ∧ (f ≠ eps → f ∈ LET ∧ ∃ q ∈ items, ∃ r, q.2 = f :: r) := fun {f b} h => by
    have nm : ∀ {p : Pr} {r : List Str} {l : Str}, p ∈ P → (l, p.name :: r) ∈ items → p.name ∈ asked ∧ (p.name, p.body) ∈ items ∧ (p.name ∈ done → (l, r) ∈ items) := fun {p r l} hp hm => by
      obtain ⟨a, b⟩ := (C _ hm).2 p.name r rfl (g.names p hp)
      exact ⟨a, I.rules _ a p hp rfl, b⟩
    induction h with
    | eps => exact fun l hm => ⟨fun _ => (C _ hm).1 rfl, fun h => absurd rfl h⟩
    | @term t r ht =>
      intro l hm
      refine ⟨fun e => absurd (e ▸ ht) g.noeps, fun _ => ⟨?_, _, hm, r, rfl⟩⟩
      obtain ⟨_, p, hp, _, pre, hb, _⟩ := I.item _ hm
      exact (g.term t (g.body p hp t (by rw [hb]; exact List.mem_append_right _ (.head _)))).mp ht
    | rule hp _ hf ih =>
      intro l hm
      obtain ⟨a, b, _⟩ := nm hp hm
      exact ⟨fun e => absurd e hf, (ih _ b).2⟩
    | skip hp _ _ ih1 ih2 =>
      intro l hm
      obtain ⟨a, b, c⟩ := nm hp hm
      exact ih2 l (c ((ih1 _ b).1 rfl))
  constructor
  · intro h
    have hn := (I.lc name I.start).1
    have key : ∃ p ∈ P, p.name = name ∧ Fst P T f p.body := by
      generalize hz : [name] = z at h
      cases h with
      | eps => cases hz
      | term ht => cases hz; exact absurd ht (g.notT hn)
      | rule hp hb hf => cases hz; exact ⟨_, hp, rfl, hb⟩
      | skip hp hb hr => cases hz; cases hr; exact ⟨_, hp, rfl, hb⟩
    obtain ⟨p, hp, e, hb⟩ := key
    have := full hb p.name (e ▸ I.rules _ (e ▸ I.start) p hp e)
    by_cases hf : f = eps
    · exact .inl ⟨hf, e ▸ this.1 hf⟩
    · exact .inr ⟨hf, this.2 hf⟩
  · rintro (⟨rfl, h⟩ | ⟨hf, hl, q, hq, r, e⟩)
    · exact (I.null _ h).2
    · obtain ⟨ha, p, hp, en, pre, hb, hpre⟩ := I.item q hq
      have hs : f ∈ SIGNS := g.body p hp f (by rw [hb, e]; exact List.mem_append_right _ (.head _))
      have : Fst P T f p.body := by rw [hb, e]; exact Fst.front g.noeps hpre (.term ((g.term f hs).mpr hl))
      exact (I.lc _ ha).2.up g.noeps hf (en ▸ .rule hp this hf)
theorem OpInv.done1 (g : OpG P T) (I : OpInv P T name items asked done) {l : Str} (h : (l, ([] : List Str)) ∈ items) (hl : l ∉ done) : OpInv P T name items asked (done ++ [l]) where
  item := I.item
  lc := I.lc
  start := I.start
  rules := I.rules
  null := fun d hd => by
    rcases List.mem_append.mp hd with hd | hd
    · exact I.null d hd
    · rw [List.mem_singleton] at hd; subst hd
      obtain ⟨ha, p, hp, en, pre, hb, hpre⟩ := I.item _ h
      refine ⟨ha, ?_⟩
      have : Fst P T eps p.body := by rw [hb]; exact Fst.front g.noeps hpre .eps
      dsimp only at en
      rw [← en]; exact .skip hp this .eps
  nodI := I.nodI
  nodD := by
    rw [List.nodup_append]
    exact ⟨I.nodD, by simp, fun a ha b hb e => by rw [List.mem_singleton] at hb; subst hb; exact hl (e ▸ ha)⟩
  nodA := I.nodA
theorem OpInv.ask (g : OpG P T) (I : OpInv P T name items asked done) {R : List Rule} (hR : P.map (fun p => (p.name, p.body)) = R) (hnd : R.Nodup) {l x : Str} {r : List Str} (h : (l, x :: r) ∈ items) (hx : x ∈ NAMES) (hxa : x ∉ asked) :
    OpInv P T name (items ++ R.filter fun q => q.1 = x) (asked ++ [x]) done where
  item := fun q hq => by
    rcases List.mem_append.mp hq with hq | hq
    · obtain ⟨a, b⟩ := I.item q hq; exact ⟨List.mem_append_left _ a, b⟩
    · obtain ⟨h1, h2⟩ := List.mem_filter.mp hq
      have h2 : q.1 = x := of_decide_eq_true h2
      rw [← hR] at h1
      obtain ⟨p, hp, rfl⟩ := List.mem_map.mp h1
      exact ⟨List.mem_append_right _ (by rw [← h2]; exact .head _), p, hp, rfl, [], rfl, fun y hy => nomatch hy⟩
  lc := fun y hy => by
    rcases List.mem_append.mp hy with hy | hy
    · exact I.lc y hy
    · rw [List.mem_singleton] at hy; subst hy
      obtain ⟨ha, p, hp, en, pre, hb, hpre⟩ := I.item _ h
      dsimp only at ha en hb
      exact ⟨hx, .step (en ▸ (I.lc _ ha).2) hp hb hpre⟩
  start := List.mem_append_left _ I.start
  rules := fun y hy p hp e => by
    rcases List.mem_append.mp hy with hy | hy
    · exact List.mem_append_left _ (I.rules y hy p hp e)
    · rw [List.mem_singleton] at hy; subst hy
      refine List.mem_append_right _ (List.mem_filter.mpr ⟨?_, by simp⟩)
      rw [← hR, ← e]; exact List.mem_map.mpr ⟨p, hp, rfl⟩
  null := fun d hd => ⟨List.mem_append_left _ (I.null d hd).1, (I.null d hd).2⟩
  nodI := by
    rw [List.nodup_append]
    refine ⟨I.nodI, hnd.filter _, fun a ha b hb e => ?_⟩
    have h2 : b.1 = x := of_decide_eq_true (List.mem_filter.mp hb).2
    exact hxa (by rw [← h2, ← e]; exact (I.item a ha).1)
  nodD := I.nodD
  nodA := by
    rw [List.nodup_append]
    exact ⟨I.nodA, by simp, fun a ha b hb e => by rw [List.mem_singleton] at hb; subst hb; exact hxa (e ▸ ha)⟩
theorem OpInv.adv (g : OpG P T) (I : OpInv P T name items asked done) {l x : Str} {r : List Str} (h : (l, x :: r) ∈ items) (hx : x ∈ done) (hn : (l, r) ∉ items) : OpInv P T name (items ++ [(l, r)]) asked done where
  item := fun q hq => by
    rcases List.mem_append.mp hq with hq | hq
    · exact I.item q hq
    · rw [List.mem_singleton] at hq; subst hq
      obtain ⟨ha, p, hp, en, pre, hb, hpre⟩ := I.item _ h
      dsimp only at ha en hb
      refine ⟨ha, p, hp, en, pre ++ [x], by rw [hb, List.append_assoc]; rfl, fun y hy => ?_⟩
      rcases List.mem_append.mp hy with hy | hy
      · exact hpre y hy
      · rw [List.mem_singleton] at hy; rw [hy]; exact (I.null x hx).2
  lc := I.lc
  start := I.start
  rules := fun y hy p hp e => List.mem_append_left _ (I.rules y hy p hp e)
  null := I.null
  nodI := by
    rw [List.nodup_append]
    exact ⟨I.nodI, by simp, fun a ha b hb e => by rw [List.mem_singleton] at hb; subst hb; exact hn (e ▸ ha)⟩
  nodD := I.nodD
  nodA := I.nodA
noncomputable def opU (P : List Pr) : List Rule := P.flatMap fun p => (List.range (p.body.length + 1)).map fun k => (p.name, p.body.drop k)
theorem opU_len (g : OpG P T) : (opU P).length ≤ 11 * P.length := by
  have : ∀ P' : List Pr, (∀ p ∈ P', p.body.length ≤ 10) → (opU P').length ≤ 11 * P'.length := fun P' => by
    induction P' with
    | nil => intro _; exact Nat.le_refl _
    | cons p P' ih =>
      intro h
      have h1 := ih fun q hq => h q (.tail _ hq)
      have h2 := h p (.head _)
      unfold opU at h1 ⊢
      rw [List.flatMap_cons, List.length_append, List.length_map, List.length_range, List.length_cons]
      omega
  exact this P g.len
theorem OpInv.lenI (g : OpG P T) (I : OpInv P T name items asked done) : items.length ≤ 11 * P.length := by
  refine Nat.le_trans (nodup_len I.nodI fun q hq => ?_) (opU_len g)
  obtain ⟨_, p, hp, en, pre, hb, _⟩ := I.item q hq
  refine List.mem_flatMap.mpr ⟨p, hp, List.mem_map.mpr ⟨pre.length, List.mem_range.mpr ?_, ?_⟩⟩
  · rw [hb, List.length_append]; omega
  · rw [hb, List.drop_left, en]
theorem OpInv.lenA (I : OpInv P T name items asked done) : asked.length ≤ 3 := nodup_len I.nodA fun d hd => (I.lc d hd).1
theorem OpInv.lenD (I : OpInv P T name items asked done) : done.length ≤ 3 := nodup_len I.nodD fun d hd => (I.lc d (I.null d hd).1).1
end
end Mine
end
section
set_option autoImplicit false
namespace Mine
structure OpD (mem : Mem) (L ra ia aa da : Addr) : Prop where
  n : [ra, L + 1, L + 2, ia, aa, da].Nodup
  mi : mem ia = none
  ma : mem aa = none
  md : mem da = none
  m1 : mem (L + 1) = none
  m2 : mem (L + 2) = none
structure OpM (mem : Mem) (L ra ia aa da : Addr) (R : List Rule) (name : Str) (items : List Rule) (asked done : List Str) (u : Option V) (m : Mem) : Prop where
  hra : m ra = some (.list (R.map ruleV))
  hn : m (L + 1) = some (.cell (some (.str name)))
  hr : m (L + 2) = some (.cell u)
  hi : m ia = some (.list (items.map ruleV))
  ha : m aa = some (.list (vStrs asked))
  hd : m da = some (.list (vStrs done))
  keep : ∀ b x, mem b = some x → m b = some x
section
variable {mem m m' : Mem} {L ra ia aa da : Addr} {R items items' : List Rule} {name : Str} {asked asked' done done' : List Str} {u u' : Option V}
theorem OpM.setI (D : OpD mem L ra ia aa da) (M : OpM mem L ra ia aa da R name items asked done u m) (h : m' ia = some (.list (items'.map ruleV))) (f : ∀ b, b ≠ ia → m' b = m b) : OpM mem L ra ia aa da R name items' asked done u m' := by
  have n := D.n
  simp only [List.nodup_cons, List.mem_cons, List.not_mem_nil, or_false, not_or] at n
  obtain ⟨⟨n1, n2, n3, n4, n5⟩, ⟨n6, n7, n8, n9⟩, ⟨n10, n11, n12⟩, ⟨n13, n14⟩, n15, _⟩ := n
  exact ⟨(f _ n3).trans M.hra, (f _ n7).trans M.hn, (f _ n10).trans M.hr, h, (f _ (Ne.symm n13)).trans M.ha, (f _ (Ne.symm n14)).trans M.hd, fun b x e => (f b fun q => by rw [q, D.mi] at e; cases e).trans (M.keep b x e)⟩
theorem OpM.setA (D : OpD mem L ra ia aa da) (M : OpM mem L ra ia aa da R name items asked done u m) (h : m' aa = some (.list (vStrs asked'))) (f : ∀ b, b ≠ aa → m' b = m b) : OpM mem L ra ia aa da R name items asked' done u m' := by
  have n := D.n
  simp only [List.nodup_cons, List.mem_cons, List.not_mem_nil, or_false, not_or] at n
  obtain ⟨⟨n1, n2, n3, n4, n5⟩, ⟨n6, n7, n8, n9⟩, ⟨n10, n11, n12⟩, ⟨n13, n14⟩, n15, _⟩ := n
  exact ⟨(f _ n4).trans M.hra, (f _ n8).trans M.hn, (f _ n11).trans M.hr, (f _ n13).trans M.hi, h, (f _ (Ne.symm n15)).trans M.hd, fun b x e => (f b fun q => by rw [q, D.ma] at e; cases e).trans (M.keep b x e)⟩
theorem OpM.setD (D : OpD mem L ra ia aa da) (M : OpM mem L ra ia aa da R name items asked done u m) (h : m' da = some (.list (vStrs done'))) (f : ∀ b, b ≠ da → m' b = m b) : OpM mem L ra ia aa da R name items asked done' u m' := by
  have n := D.n
  simp only [List.nodup_cons, List.mem_cons, List.not_mem_nil, or_false, not_or] at n
  obtain ⟨⟨n1, n2, n3, n4, n5⟩, ⟨n6, n7, n8, n9⟩, ⟨n10, n11, n12⟩, ⟨n13, n14⟩, n15, _⟩ := n
  exact ⟨(f _ n5).trans M.hra, (f _ n9).trans M.hn, (f _ n12).trans M.hr, (f _ n14).trans M.hi, (f _ n15).trans M.ha, h, fun b x e => (f b fun q => by rw [q, D.md] at e; cases e).trans (M.keep b x e)⟩
theorem OpM.setR (D : OpD mem L ra ia aa da) (M : OpM mem L ra ia aa da R name items asked done u m) (h : m' (L + 2) = some (.cell u')) (f : ∀ b, b ≠ L + 2 → m' b = m b) : OpM mem L ra ia aa da R name items asked done u' m' := by
  have n := D.n
  simp only [List.nodup_cons, List.mem_cons, List.not_mem_nil, or_false, not_or] at n
  obtain ⟨⟨n1, n2, n3, n4, n5⟩, ⟨n6, n7, n8, n9⟩, ⟨n10, n11, n12⟩, ⟨n13, n14⟩, n15, _⟩ := n
  exact ⟨(f _ n2).trans M.hra, (f _ n6).trans M.hn, h, (f _ (Ne.symm n10)).trans M.hi, (f _ (Ne.symm n11)).trans M.ha, (f _ (Ne.symm n12)).trans M.hd, fun b x e => (f b fun q => by rw [q, D.m2] at e; cases e).trans (M.keep b x e)⟩
theorem OpM.new {a : Addr} (M : OpM mem L ra ia aa da R name items asked done u m) (ha : m a = none) (f : ∀ b, b ≠ a → m' b = m b) : OpM mem L ra ia aa da R name items asked done u m' := by
  have k : ∀ {b x}, m b = some x → m' b = some x := fun {b x} e => (f b fun q => by rw [q, ha] at e; cases e).trans e
  exact ⟨k M.hra, k M.hn, k M.hr, k M.hi, k M.ha, k M.hd, fun b x e => k (M.keep b x e)⟩
end
noncomputable def pickV (p : Rule → Bool) : V → Option V
  | .tup [.str l, .tup xs] => if p (l, xs.map fun x => match x with | .str s => s | _ => "") then some (.tup [.str l, .tup xs]) else none
  | _ => none
theorem vStrs_back (ys : List Str) : (vStrs ys).map (fun x => match x with | .str s => s | _ => ("" : Str)) = ys := by
  unfold vStrs; rw [List.map_map]
  refine (List.map_congr_left fun y _ => rfl).trans (List.map_id ys)
theorem pickV_rule (p : Rule → Bool) (r : Rule) : pickV p (ruleV r) = if p r then some (ruleV r) else none := by
  unfold ruleV pickV
  dsimp only
  rw [vStrs_back]
theorem pick_filter (p : Rule → Bool) (R : List Rule) : (R.map ruleV).filterMap (pickV p) = (R.filter p).map ruleV := by
  induction R with
  | nil => rfl
  | cons r R ih =>
    rw [List.map_cons, List.filterMap_cons, pickV_rule, List.filter_cons]
    cases h : p r with
    | true => rw [if_pos rfl, if_pos rfl, List.map_cons]; dsimp only; rw [ih]
    | false => rw [if_neg Bool.false_ne_true, if_neg Bool.false_ne_true]; dsimp only; rw [ih]
noncomputable def waitV : V → Option V
  | .tup [_, .tup (.str s :: _)] => if s ∈ LET then some (.str s) else none
  | _ => none
noncomputable def waitR (q : Rule) : Option Str := match q.2 with
  | x :: _ => if x ∈ LET then some x else none
  | [] => none
theorem waitV_rule (q : Rule) : waitV (ruleV q) = (waitR q).map .str := by
  obtain ⟨l, r⟩ := q
  cases r with
  | nil => rfl
  | cons x r =>
    show (if x ∈ LET then some (V.str x) else none) = (if x ∈ LET then some x else none).map V.str
    split <;> rfl
theorem wait_filter (R : List Rule) : (R.map ruleV).filterMap waitV = vStrs (R.filterMap waitR) := by
  induction R with
  | nil => rfl
  | cons q R ih =>
    rw [List.map_cons, List.filterMap_cons, List.filterMap_cons, waitV_rule]
    cases h : waitR q with
    | none => exact ih
    | some x => show V.str x :: _ = _; rw [ih]; rfl
theorem in_abc : ∀ s ∈ SIGNS, strIn s "abc" = decide (s ∈ LET) := by decide +kernel
theorem dedup_nodup (ys : List Str) : (dedup ys).Nodup := by
  unfold dedup
  suffices h : ∀ (ys acc : List Str), acc.Nodup → (ys.foldl (fun acc y => if y ∈ acc then acc else acc ++ [y]) acc).Nodup from h ys [] List.nodup_nil
  intro ys
  induction ys with
  | nil => exact fun acc h => h
  | cons y ys ih =>
    intro acc h
    refine ih _ ?_
    show (if y ∈ acc then acc else acc ++ [y]).Nodup
    split
    · exact h
    · rename_i hy
      rw [List.nodup_append]
      exact ⟨h, by simp, fun a ha b hb e => by rw [List.mem_singleton] at hb; subst hb; exact hy (e ▸ ha)⟩
theorem dedup_sup (ys : List Str) : ∀ y ∈ ys, y ∈ dedup ys := by
  unfold dedup
  suffices h : ∀ (ys acc : List Str), ∀ y, y ∈ acc ∨ y ∈ ys → y ∈ ys.foldl (fun acc y => if y ∈ acc then acc else acc ++ [y]) acc from fun y hy => h ys [] y (.inr hy)
  intro ys
  induction ys with
  | nil => intro acc y h; exact h.elim id fun h => (nomatch h)
  | cons x ys ih =>
    intro acc y h
    refine ih _ y ?_
    rcases h with h | h
    · left; show y ∈ if x ∈ acc then acc else acc ++ [x]
      split
      · exact h
      · exact List.mem_append_left _ h
    · cases h with
      | head => left; show x ∈ if x ∈ acc then acc else acc ++ [x]
                split
                · assumption
                · exact List.mem_append_right _ (.head _)
      | tail _ h => exact .inr h
theorem wait_mem {items : List Rule} {f : Str} : f ∈ dedup (items.filterMap waitR) ↔ f ∈ LET ∧ ∃ q ∈ items, ∃ r, q.2 = f :: r := by
  constructor
  · intro h
    obtain ⟨q, hq, e⟩ := List.mem_filterMap.mp (dedup_sub _ _ h)
    obtain ⟨l, r⟩ := q
    cases r with
    | nil => cases e
    | cons x r =>
      have e : (if x ∈ LET then some x else none) = some f := e
      split at e
      · cases e; exact ⟨by assumption, _, hq, r, rfl⟩
      · cases e
  · rintro ⟨hl, q, hq, r, e⟩
    refine dedup_sup _ _ (List.mem_filterMap.mpr ⟨q, hq, ?_⟩)
    unfold waitR
    rw [e]
    exact if_pos hl
theorem eps_let : eps ∉ LET := by decide +kernel
section
variable {W : Wd} {A : Around} {env : Env} {outer : Outs} {loc : Loc} {mem : Mem} {E : Ex W}
noncomputable abbrev opE (L : Addr) : Env := envC "_law_opening" lOpening.scope L 285 lOpening.code
inductive P2S_J1 (mem : Mem) (ra : Addr) (R : List Rule) (P : List Pr) (T : List Str) (name : Str) (L : Addr) (ia : Addr) (aa : Addr) (da : Addr) (k : Nat) (l : Loc) (m : Mem) : Prop
  | mk (kn : Int) (items : List Rule) (asked done : List Str) (u : Option V) (h1_ : LSub [("rules", .ref ra), ("items", .ref ia), ("asked", .ref aa), ("done", .ref da), ("known", .int kn)] l) (h2_ : OpM mem L ra ia aa da R name items asked done u m) (h3_ : OpInv P T name items asked done) (h4_ : k = 2 * (58 - (items.length + done.length)) + (if kn = ((items.length : Int) + done.length) then 0 else 1)) (h5_ : (kn = ((items.length : Int) + done.length) → OpClosed items asked done))
inductive P2S_J2 (mem : Mem) (ra : Addr) (R : List Rule) (P : List Pr) (T : List Str) (name : Str) (L : Addr) (ia : Addr) (aa : Addr) (da : Addr) (items : List Rule) (done : List Str) (k2 : Nat) (i : Nat) (l : Loc) (m : Mem) : Prop
  | mk (h1_ : k2 + i = 56) (items1 : List Rule) (asked1 done1 : List Str) (u1 : Option V) (h2_ : LSub [("rules", .ref ra), ("items", .ref ia), ("asked", .ref aa), ("done", .ref da), ("known", .int ((items.length : Int) + done.length))] l) (h3_ : OpM mem L ra ia aa da R name items1 asked1 done1 u1 m) (h4_ : OpInv P T name items1 asked1 done1) (h5_ : i ≤ items1.length) (h6_ : items.length + done.length ≤ items1.length + done1.length) (h7_ : (items1.length + done1.length = items.length + done.length → ∀ j q, j < i → items1[j]? = some q → (q.2 = [] → q.1 ∈ done1) ∧ ∀ x r, q.2 = x :: r → x ∈ NAMES → x ∈ asked1 ∧ (x ∈ done1 → (q.1, r) ∈ items1)))
theorem opening_spec {ra : Addr} {R : List Rule} {P : List Pr} {T : List Str} {name : Str} {Q : V → Loc → Mem → Prop} (hK : W.K = hdK W.w.params) (c : Calm A 700 6000) (hra : mem ra = some (.list (R.map ruleV))) (hP : P.map (fun p => (p.name, p.body)) = R) (g : OpG P T) (hnd : R.Nodup) (hz : R.length ≤ 5) (hn : name ∈ NAMES) (hall : ∀ x ∈ NAMES, ∃ p ∈ P, p.name = x)
    (h : ∀ D ss, mem D = none → sortedS ss = true → ss.Nodup → (∀ f, f ∈ ss ↔ Fst P T f [name]) → Q (.ref D) loc (mset mem D (.list (vStrs ss)))) : OpV W A env outer (fun vs => call (.ref 285) vs) [.ref ra, .str name] loc mem Q E := by
  refine call_fnC (bs := [("rules", .ref ra), ("name", .str name)]) (by rw [hK]; exact lOpening.at _) (by rw [hK]; first | rfl | kernel_rfl | decide +kernel) (c.room (by decide)) ?_ rfl rfl rfl ?_ ?_ ?_
  · intro F vs r
    cases r.view with
    | cons r1 r2 =>
      cases r2 with
      | cons r2 r3 =>
        cases r3
        exact ⟨_, rfl, .cons r1 (.cons r2 .nil)⟩
  · intro x hx
    simp only [List.mem_cons, List.not_mem_nil, or_false] at hx
    rcases hx with rfl | rfl
    · exact .inl rfl
    · exact .inr ⟨rfl, fun n => rfl⟩
  · intro k p hp
    have : cellsFrom k lOpening.scope.names [] = [(("rest" : Str), k + 1), (("name" : Str), k)] := rfl
    rw [this] at hp ⊢
    simp only [List.mem_cons, List.not_mem_nil, or_false] at hp
    rcases hp with rfl | rfl <;> rfl
  · intro L m0 hcells hL
    have cd := c.deeper (opE L)
    have hc1 : mem (L + 1) = none := hcells ("name", L + 1) (.tail _ (.head _))
    have hc2 : mem (L + 2) = none := hcells ("rest", L + 2) (.head _)
    have ecell : layC (fun n => List.lookup n (onlyC (fun n => List.lookup n lOpening.scope.names) [("rules", V.ref ra), ("name", V.str name)])) (cellsFrom (L + 1) lOpening.scope.names []) mem = mset (mset mem (L + 1) (.cell (some (.str name)))) (L + 2) (.cell none) := by
      show layC _ [(("rest" : Str), L + 1 + 1), (("name" : Str), L + 1)] mem = _
      rfl
    rw [ecell]
    have ne12 : L + 1 ≠ L + 2 := Nat.ne_of_lt (Nat.lt_succ_self _)
    have hra1 : ra ≠ L + 1 := fun e => by rw [e, hc1] at hra; cases hra
    have hra2 : ra ≠ L + 2 := fun e => by rw [e, hc2] at hra; cases hra
    obtain ⟨M0, hM0⟩ : ∃ M0, M0 = mset (mset mem (L + 1) (.cell (some (.str name)))) (L + 2) (.cell none) := ⟨_, rfl⟩
    have hcr : M0 (L + 2) = some (.cell none) := by rw [hM0, mset_self]
    have hcn : M0 (L + 1) = some (.cell (some (.str name))) := by rw [hM0, mset_ne ne12, mset_self]
    have hra0 : M0 ra = some (.list (R.map ruleV)) := by rw [hM0, mset_ne hra2, mset_ne hra1]; exact hra
    have keep0 : ∀ b x, mem b = some x → M0 b = some x := fun b x e => by
      rw [hM0, mset_ne (nex e hc2), mset_ne (nex e hc1)]; exact e
    have back0 : ∀ b, M0 b = none → mem b = none := fun b e => by
      cases q : mem b with
      | none => rfl
      | some x => rw [keep0 b x q] at e; cases e
    rw [← hM0]
    refine s_cons ?_
    refine s_assign_listcomp (cl := [(("name" : Str), L + 1)]) rfl rfl (by decide) rfl (by decide) rfl rfl (fun _ => rfl) ?_
    refine e_local rfl rfl rfl rfl ?_
    refine comp_map (itr_own cd.handled hra0) (R.map ruleV) (fun m i hs hi => ownItem_eq (hs _ _ hra0)) (by rw [List.length_map]; exact Nat.le_trans hz (by decide)) (pickV fun q => decide (q.1 = name)) ?_ ?_
    · intro C outer' i v hv
      obtain ⟨r, hr, rfl⟩ := List.mem_map.mp (List.mem_of_getElem? hv)
      refine asg_name ?_; refine st_local rfl rfl ?_; refine b_cmp rfl ?_; refine e_sub (fun _ _ => rfl) ?_; refine e_local rfl rfl rfl rfl ?_; refine e_int ?_
      refine sub_sq (.tup _) (by decide) (by decide) (x := .str r.1) rfl ?_
      refine   e_cell rfl rfl rfl rfl     (by       first       | assumption       | simp [mset_self])     ?_; refine eq_ss ?_; refine tr_bool ?_
      rw [pickV_rule]
      refine ⟨fun hb => ?_, fun hb => ?_⟩
      · refine e_local rfl rfl rfl rfl ?_
        exact ⟨by rw [if_pos hb], sub_refl _⟩
      · exact ⟨by rw [if_neg (by rw [hb]; exact Bool.false_ne_true)], sub_refl _⟩
    · intro ia hia
      rw [pick_filter]
      obtain ⟨M1, hM1⟩ : ∃ M1, M1 = mset M0 ia (.list ((R.filter fun q => decide (q.1 = name)).map ruleV)) := ⟨_, rfl⟩
      have hi1 : M1 ia = some (.list ((R.filter fun q => decide (q.1 = name)).map ruleV)) := by rw [hM1, mset_self]
      have k1 : ∀ {b x}, M0 b = some x → M1 b = some x := fun {b x} e => by rw [hM1, mset_ne (nex e hia)]; exact e
      have hcn1 := k1 hcn
      have hcr1 := k1 hcr
      have hra1' := k1 hra0
      rw [← hM1]
      (refine nameS ?_; intro aa vv oo qq ee; refine s_cons ?_); refine s_assign rfl ?_; refine e_list ?_; refine a_cons rfl ?_; refine   e_cell rfl rfl rfl rfl     (by       first       | assumption       | simp [mset_self])     ?_; refine a_nil ?_
      refine new_own' (show 1 ≤ sizeLine by decide) (fun aa m1 haa h1 f1 => ?_)
      have k2 : ∀ {b x}, M1 b = some x → m1 b = some x := fun {b x} e => (f1 b fun q => by rw [q, haa] at e; cases e).trans e
      have hcn2 := k2 hcn1
      refine st_local rfl rfl ?_; refine s_cons ?_; refine s_assign rfl ?_; refine e_list ?_; refine a_nil ?_
      refine new_own' (show 0 ≤ sizeLine by decide) (fun da m2 hda h2 f2 => ?_)
      have k3 : ∀ {b x}, m1 b = some x → m2 b = some x := fun {b x} e => (f2 b fun q => by rw [q, hda] at e; cases e).trans e
      refine st_local rfl rfl ?_; refine s_cons ?_; refine s_assign rfl ?_; refine e_unop ?_; refine e_int ?_
      refine neg_i ?_
      refine st_local rfl rfl ?_; refine s_cons ?_
      have D : OpD mem L ra ia aa da := by
        refine ⟨?_, back0 _ hia, back0 _ (by
          cases q : M0 aa with
          | none => rfl
          | some x => rw [k1 q] at haa; cases haa), back0 _ (by
          cases q : M0 da with
          | none => rfl
          | some x => rw [k2 (k1 q)] at hda; cases hda), hc1, hc2⟩
        have a1 : ra ≠ ia := fun e => by rw [← e, hra0] at hia; cases hia
        have a2 : ra ≠ aa := fun e => by rw [← e, hra1'] at haa; cases haa
        have a3 : ra ≠ da := fun e => by rw [← e, k2 hra1'] at hda; cases hda
        have b1 : L + 1 ≠ ia := fun e => by rw [← e, hcn] at hia; cases hia
        have b2 : L + 1 ≠ aa := fun e => by rw [← e, hcn1] at haa; cases haa
        have b3 : L + 1 ≠ da := fun e => by rw [← e, hcn2] at hda; cases hda
        have d1 : L + 2 ≠ ia := fun e => by rw [← e, hcr] at hia; cases hia
        have d2 : L + 2 ≠ aa := fun e => by rw [← e, hcr1] at haa; cases haa
        have d3 : L + 2 ≠ da := fun e => by rw [← e, k2 hcr1] at hda; cases hda
        have e1 : ia ≠ aa := fun e => by rw [← e, hi1] at haa; cases haa
        have e2 : ia ≠ da := fun e => by rw [← e, k2 hi1] at hda; cases hda
        have e3 : aa ≠ da := fun e => by rw [← e, h1] at hda; cases hda
        simp only [List.nodup_cons, List.mem_cons, List.not_mem_nil, or_false, not_or, not_false_eq_true, List.nodup_nil, and_true]
        exact ⟨⟨hra1, hra2, a1, a2, a3⟩, ⟨ne12, b1, b2, b3⟩, ⟨d1, d2, d3⟩, ⟨e1, e2⟩, e3⟩
      have M2 : OpM mem L ra ia aa da R name (R.filter fun q => decide (q.1 = name)) [name] [] none m2 := ⟨k3 (k2 hra1'), k3 hcn2, k3 (k2 hcr1), k3 (k2 hi1), k3 h1, h2, fun b x e => k3 (k2 (k1 (keep0 b x e)))⟩
      have I0 : OpInv P T name (R.filter fun q => decide (q.1 = name)) [name] [] := {
        item := fun q hq => by
          obtain ⟨q1, q2⟩ := List.mem_filter.mp hq
          have q2 : q.1 = name := of_decide_eq_true q2
          rw [← hP] at q1
          obtain ⟨p, hp, rfl⟩ := List.mem_map.mp q1
          exact ⟨by rw [q2]; exact .head _, p, hp, rfl, [], rfl, fun y hy => nomatch hy⟩
        lc := fun x hx => by rw [List.mem_singleton] at hx; subst hx; exact ⟨hn, .start⟩
        start := .head _
        rules := fun x hx p hp e => by
          rw [List.mem_singleton] at hx; subst hx
          refine List.mem_filter.mpr ⟨?_, by simp⟩
          rw [← hP, ← e]; exact List.mem_map.mpr ⟨p, hp, rfl⟩
        null := fun d hd => nomatch hd
        nodI := hnd.filter _
        nodD := List.nodup_nil
        nodA := by simp }
      have hPz : P.length ≤ 5 := by have := congrArg List.length hP; rw [List.length_map] at this; omega
      clear h1 h2 f1 f2 k1 k2 k3 hcn1 hcr1 hra1' hcn2 hi1 haa hda hia hM1 hM0 hcn hcr hra0 keep0 back0 ecell hcells hL
      -- the rounds
      let J1 : Nat → Loc → Mem → Prop := P2S_J1 mem ra R P T name L ia aa da
      refine s_while J1 ?_ (2 * (58 - ((R.filter fun q => decide (q.1 = name)).length + 0)) + 1) ⟨-1, _, [name], [], none, rfl, M2, I0, ?_, ?_⟩
      · rintro k l m ⟨kn, items, asked, done, u, hl, M, I, hk, hcl⟩
        have hi := M.hi
        have hd := M.hd
        have hil := I.lenI g
        have hdl := I.lenD
        refine Tr.locs hl ?_
        refine b_cmp rfl ?_; refine e_local rfl rfl rfl rfl ?_; refine e_binop ?_; refine c_name rfl ?_; refine e_boot rfl rfl rfl rfl rfl (by rw [hK]; rfl) rfl (by decide) ?_; refine c_builtin rfl rfl ?_; refine a_cons rfl ?_; refine e_local rfl rfl rfl rfl ?_; refine a_nil ?_
        refine len_sq (.own hi) (by rw [List.length_map]; omega) ?_
        refine c_name rfl ?_; refine e_boot rfl rfl rfl rfl rfl (by rw [hK]; rfl) rfl (by decide) ?_; refine c_builtin rfl rfl ?_; refine a_cons rfl ?_; refine e_local rfl rfl rfl rfl ?_; refine a_nil ?_
        refine len_sq (.own hd) (by rw [vStrs_len]; omega) ?_
        rw [List.length_map, vStrs_len]
        refine add_ii ?_; refine ne_ii ?_; refine tr_bool ?_
        refine ⟨fun hb => ?_, fun hb => ?_⟩
        · have hb : ¬ kn = (items.length : Int) + done.length := by
            intro e; rw [decide_eq_true e] at hb; cases hb
          rw [if_neg hb] at hk
          (refine nameQ ?_; intro qq ee; refine s_cons ?_); refine s_assign rfl ?_; refine e_binop ?_; refine c_name rfl ?_; refine e_boot rfl rfl rfl rfl rfl (by rw [hK]; rfl) rfl (by decide) ?_; refine c_builtin rfl rfl ?_; refine a_cons rfl ?_; refine e_local rfl rfl rfl rfl ?_; refine a_nil ?_
          refine len_sq (.own hi) (by rw [List.length_map]; omega) ?_
          refine c_name rfl ?_; refine e_boot rfl rfl rfl rfl rfl (by rw [hK]; rfl) rfl (by decide) ?_; refine c_builtin rfl rfl ?_; refine a_cons rfl ?_; refine e_local rfl rfl rfl rfl ?_; refine a_nil ?_
          refine len_sq (.own hd) (by rw [vStrs_len]; omega) ?_
          rw [List.length_map, vStrs_len]
          refine add_ii ?_; refine st_local rfl rfl ?_; refine s_cons ?_; refine s_for (fun _ => rfl) ?_; refine e_local rfl rfl rfl rfl ?_
          let J2 : Nat → Nat → Loc → Mem → Prop := P2S_J2 mem ra R P T name L ia aa da items done
          refine for_k (itr_own cd.handled hi) J2 ?_ 56 ⟨rfl, items, asked, done, u, rfl, M, I, Nat.zero_le _, Nat.le_refl _, fun _ j q hj => absurd hj (Nat.not_lt_zero _)⟩
          clear hi hd hl M I hcl hil hdl
          rintro k2 i l m ⟨hk2, items1, asked1, done1, u1, hl, M, I, hi1, htot, hcl⟩
          have hil := I.lenI g
          have hdl := I.lenD
          have hi := M.hi
          have ha := M.ha
          have hd := M.hd
          have hcr := M.hr
          have hra' := M.hra
          have ei := ownItem_eq (i := i) hi
          refine ⟨by rw [ei]; simp, fun hn1 => ?_, fun v hv => ?_⟩
          · rw [ei] at hn1
            have hn1 := Option.some.inj hn1
            rw [List.getElem?_map, Option.map_eq_none_iff, List.getElem?_eq_none_iff] at hn1
            obtain rfl : i = items1.length := by omega
            refine Tr.locs hl ?_
            refine s_nil ?_; refine s_nil ?_
            refine ⟨_, ?_, _, items1, asked1, done1, u1, rfl, M, I, rfl, fun e => ?_⟩
            · split <;> omega
            · intro q hq
              obtain ⟨j, hj, e2⟩ := List.mem_iff_getElem.mp hq
              exact hcl (by omega) j q hj (by rw [List.getElem?_eq_getElem hj, e2])
          · rw [ei] at hv
            have hv := Option.some.inj hv
            rw [List.getElem?_map] at hv
            cases hq1 : items1[i]? with
            | none => rw [hq1] at hv; cases hv
            | some q =>
              rw [hq1] at hv
              obtain rfl : v = ruleV q := by cases hv; rfl
              have hq : q ∈ items1 := List.mem_of_getElem? hq1
              have hilt : i < items1.length := by rw [List.getElem?_eq_some_iff] at hq1; exact hq1.1
              obtain ⟨left, rest⟩ := q
              obtain ⟨hla, p, hp, hpn, pre, hpb, hpre⟩ := I.item _ hq
              dsimp only at hla hpn hpb
              have hlN := (I.lc _ hla).1
              have hlok := (syms_ok _ (names_syms _ hlN)).1
              have hrs : ∀ y ∈ rest, y ∈ SIGNS := fun y hy => g.body p hp y (by rw [hpb]; exact List.mem_append_right _ hy)
              have hrz : rest.length ≤ 10 := by have := g.len p hp; rw [hpb, List.length_append] at this; omega
              have fin : ∀ (items2 : List Rule) (asked2 done2 : List Str), items1.length + done1.length ≤ items2.length + done2.length →
                  (items2.length + done2.length = items1.length + done1.length → items2 = items1 ∧ asked2 = asked1 ∧ done2 = done1 ∧ ((rest = [] → left ∈ done1) ∧ ∀ x r, rest = x :: r → x ∈ NAMES → x ∈ asked1 ∧ (x ∈ done1 → (left, r) ∈ items1))) →
                  items2.length + done2.length = items.length + done.length → ∀ j q, j < i + 1 → items2[j]? = some q → (q.2 = [] → q.1 ∈ done2) ∧ ∀ x r, q.2 = x :: r → x ∈ NAMES → x ∈ asked2 ∧ (x ∈ done2 → (q.1, r) ∈ items2) := fun items2 asked2 done2 h1 h2 h3 j q hj hq2 => by
                obtain ⟨rfl, rfl, rfl, hc⟩ := h2 (by omega)
                by_cases hji : j < i
                · exact hcl (by omega) j q hji hq2
                · obtain rfl : j = i := by omega
                  rw [hq1] at hq2; cases hq2
                  exact hc
              refine Op.locs hl ?_
              refine   asg_tuple     (by       first       | assumption       | exact Calm.handled (by assumption))     rfl rfl ?_; refine asg_name ?_; refine st_local rfl rfl ?_; refine asg_name ?_; refine   st_cell rfl rfl rfl     (by       first       | assumption       | simp [mset_self])     ?_; (refine nameQ ?_; intro qq ee; refine s_cons ?_); refine s_if ?_; refine b_not ?_; refine b_value rfl ?_
              have M3 := M.setR D (m' := mset m (L + 2) (.cell (some (.tup (vStrs rest))))) (mset_self _ _ _) (fun b hb => mset_ne hb)
              obtain ⟨m3, hm3⟩ : ∃ m3, m3 = mset m (L + 2) (.cell (some (.tup (vStrs rest)))) := ⟨_, rfl⟩
              rw [← hm3] at M3
              change TrV _ _ _ _ _ _ (mset m (L + 2) (.cell (some (.tup (vStrs rest))))) _ _
              rw [← hm3]
              clear hm3 M hi ha hd hcr hra' ei hl
              have hi := M3.hi
              have ha := M3.ha
              have hd := M3.hd
              have hcr := M3.hr
              have hra' := M3.hra
              refine   e_cell rfl rfl rfl rfl     (by       first       | assumption       | simp [mset_self])     ?_
              refine tr_tup (by rw [vStrs_len]; omega) ?_
              cases rest with
              | nil =>
                skip
                refine only_t ?_
                (refine nameQ ?_; intro qq ee; refine s_cons ?_); refine s_if ?_; refine b_cmp rfl ?_; refine e_local rfl rfl rfl rfl ?_; refine e_local rfl rfl rfl rfl ?_
                refine notin_list (n := 0) (.own hd) hlok (isD_strs (List.all_eq_true.mpr fun y hy => (syms_ok y (names_syms y (I.lc _ (I.null y hy).1).1)).1)) (by decide) (cd.fit (by decide)) (fun bb hbb => ?_)
                refine tr_bool ?_
                refine ⟨fun hb => ?_, fun hb => ?_⟩
                · have hnd' : left ∉ done1 := fun q => by
                    have := hbb.mpr (vStrs_mem.mpr q); rw [this] at hb; cases hb
                  (refine nameQ ?_; intro qq ee; refine s_cons ?_); refine s_expr rfl rfl ?_; refine c_meth rfl ?_; refine e_local rfl rfl rfl rfl ?_
                  refine m_builtin (.list hd) PySem.F.plainAttrs_list PySem.F.slot_list_append PySem.F.type_list_append rfl rfl ?_
                  refine a_cons rfl ?_; refine e_local rfl rfl rfl rfl ?_; refine a_nil ?_
                  refine append_own' hd (by rw [vStrs_len]; exact Nat.le_trans hdl (by decide)) (fun m4 h4 f4 => ?_)
                  refine s_nil ?_; refine s_nil ?_; refine s_nil ?_
                  have M4 := M3.setD (done' := done1 ++ [left]) D (by rw [h4]; simp [vStrs]) f4
                  refine ⟨k2 - 1, by omega, by omega, items1, asked1, done1 ++ [left], _, rfl, M4, I.done1 g hq hnd', by omega, by simp; omega, fin _ _ _ (by simp) (fun e => by simp at e)⟩
                · have hin : left ∈ done1 := vStrs_mem.mp (hbb.mp (by cases bb with | true => rfl | false => cases hb))
                  refine s_nil ?_; refine s_nil ?_; refine s_nil ?_
                  exact ⟨k2 - 1, by omega, by omega, items1, asked1, done1, _, rfl, M3, I, by omega, htot, fin _ _ _ (Nat.le_refl _) (fun _ => ⟨rfl, rfl, rfl, fun _ => hin, fun x r e => (nomatch e)⟩)⟩
              | cons x r =>
                have hxs : x ∈ SIGNS := hrs x (.head _)
                have hxok := (syms_ok x (signs_syms x hxs)).1
                skip
                refine only_f ?_
                (refine nameQ ?_; intro qq ee; refine s_cons ?_); refine s_if ?_; refine b_cmp rfl ?_; refine e_sub (fun _ _ => rfl) ?_; refine   e_cell rfl rfl rfl rfl     (by       first       | assumption       | simp [mset_self])     ?_; refine e_int ?_
                refine sub_sq (.tup _) (by decide) (by decide) (x := .str x) rfl ?_
                refine e_str ?_; refine in_ss ?_; refine tr_bool ?_
                rw [in_SAB x hxs]
                refine ⟨fun hxN => ?_, fun hxN => ?_⟩
                · have hxN := of_decide_eq_true hxN
                  have hokI : ∀ q ∈ items1, RuleOk q := fun q hq => by
                    obtain ⟨h1, p, hp, en, pre, hb, _⟩ := I.item q hq
                    exact ⟨names_syms _ (I.lc _ h1).1, by have := g.len p hp; rw [hb, List.length_append] at this; omega, fun y hy => signs_syms y (g.body p hp y (by rw [hb]; exact List.mem_append_right _ hy))⟩
                  (refine nameQ ?_; intro qq ee; refine s_cons ?_)
                  refine Tr.mono (Q := fun f l m' => f = .next ∧ ∃ (items2 : List Rule) (asked2 : List Str), LSub [("rules", .ref ra), ("items", .ref ia), ("asked", .ref aa), ("done", .ref da), ("known", .int ((items.length : Int) + done.length)), ("left", .str left)] l ∧ OpM mem L ra ia aa da R name items2 asked2 done1 (some (.tup (vStrs (x :: r)))) m' ∧ OpInv P T name items2 asked2 done1 ∧
                    x ∈ asked2 ∧ items1.length ≤ items2.length ∧ (items2.length = items1.length → items2 = items1 ∧ asked2 = asked1) ∧ ∀ q ∈ items1, q ∈ items2) ?_ ?_
                  · refine s_if ?_; refine b_cmp rfl ?_; refine e_sub (fun _ _ => rfl) ?_; refine   e_cell rfl rfl rfl rfl     (by       first       | assumption       | simp [mset_self])     ?_; refine e_int ?_
                    refine sub_sq (.tup _) (by decide) (by decide) (x := .str x) rfl ?_
                    refine e_local rfl rfl rfl rfl ?_
                    refine notin_list (n := 0) (.own ha) hxok (isD_strs (List.all_eq_true.mpr fun y hy => (syms_ok y (names_syms y (I.lc _ hy).1)).1)) (by decide) (cd.fit (by decide)) (fun bb hbb => ?_)
                    refine tr_bool ?_
                    refine ⟨fun hb => ?_, fun hb => ?_⟩
                    · have hxa : x ∉ asked1 := fun q => by
                        have := hbb.mpr (vStrs_mem.mpr q); rw [this] at hb; cases hb
                      have haz : asked1.length ≤ 10000 := Nat.le_trans I.lenA (by decide)
                      (refine nameQ ?_; intro qq ee; refine s_cons ?_); refine s_expr rfl rfl ?_; refine c_meth rfl ?_; refine e_local rfl rfl rfl rfl ?_
                      refine m_builtin (.list ha) PySem.F.plainAttrs_list PySem.F.slot_list_append PySem.F.type_list_append rfl rfl ?_
                      refine a_cons rfl ?_; refine e_sub (fun _ _ => rfl) ?_; refine   e_cell rfl rfl rfl rfl     (by       first       | assumption       | simp [mset_self])     ?_; refine e_int ?_
                      refine sub_sq (.tup _) (by decide) (by decide) (x := .str x) rfl ?_
                      refine a_nil ?_
                      refine append_own' ha (by rw [vStrs_len]; exact Nat.le_trans haz (by decide)) (fun m4 h4 f4 => ?_)
                      have M4 := M3.setA (asked' := asked1 ++ [x]) D (by rw [h4]; simp [vStrs]) f4
                      have hi4 := M4.hi
                      have hcr4 := M4.hr
                      have hra4 := M4.hra
                      refine s_cons ?_; refine s_expr rfl rfl ?_; refine c_meth rfl ?_; refine e_local rfl rfl rfl rfl ?_
                      refine m_builtin (.list hi4) PySem.F.plainAttrs_list PySem.F.slot_list_extend (by show builtinType _ = _; rw [builtinType_eq_fast]; kernel_rfl) rfl rfl ?_
                      refine a_cons rfl ?_; refine e_listcomp rfl (by decide) rfl (by decide) (fun _ => rfl) ?_; refine e_local rfl rfl rfl rfl ?_
                      refine comp_map (itr_own cd.handled hra4) (R.map ruleV) (fun m i hs hi => ownItem_eq (hs _ _ hra4)) (by rw [List.length_map]; exact Nat.le_trans hz (by decide)) (pickV fun q => decide (q.1 = x)) ?_ ?_
                      · intro C outer' i v hv
                        obtain ⟨q, hq, rfl⟩ := List.mem_map.mp (List.mem_of_getElem? hv)
                        refine asg_name ?_; refine st_local rfl rfl ?_; refine b_cmp rfl ?_; refine e_sub (fun _ _ => rfl) ?_; refine e_local rfl rfl rfl rfl ?_; refine e_int ?_
                        refine sub_sq (.tup _) (by decide) (by decide) (x := .str q.1) rfl ?_
                        refine e_sub (fun _ _ => rfl) ?_; refine   e_cell rfl rfl rfl rfl     (by       first       | assumption       | simp [mset_self])     ?_; refine e_int ?_
                        refine sub_sq (.tup _) (by decide) (by decide) (x := .str x) rfl ?_
                        refine eq_ss ?_; refine tr_bool ?_
                        rw [pickV_rule]
                        refine ⟨fun hb => ?_, fun hb => ?_⟩
                        · refine e_local rfl rfl rfl rfl ?_
                          exact ⟨by rw [if_pos hb], sub_refl _⟩
                        · exact ⟨by rw [if_neg (by rw [hb]; exact Bool.false_ne_true)], sub_refl _⟩
                      · intro Dx hDx
                        rw [pick_filter]
                        refine a_nil ?_
                        have M5 := M4.new (m' := mset m4 Dx (.list ((R.filter fun q => decide (q.1 = x)).map ruleV))) hDx (fun b hb => mset_ne hb)
                        have hflt : (R.filter fun q => decide (q.1 = x)).length ≤ 5 := Nat.le_trans (List.length_filter_le _ _) hz
                        refine extend_own M5.hi (.own (mset_self _ _ _)) (by rw [List.length_map, List.length_map]; omega) (fun m6 h6 f6 => ?_)
                        have M6 := M5.setI (items' := items1 ++ R.filter fun q => decide (q.1 = x)) D (by rw [h6, List.map_append]) f6
                        refine s_nil ?_
                        have hne : (R.filter fun q => decide (q.1 = x)) ≠ [] := fun e => by
                          obtain ⟨p, hp, hpx⟩ := hall x hxN
                          have : (p.name, p.body) ∈ R.filter fun q => decide (q.1 = x) := List.mem_filter.mpr ⟨by rw [← hP]; exact List.mem_map.mpr ⟨p, hp, rfl⟩, by simpa using hpx⟩
                          rw [e] at this; cases this
                        have hpos : 0 < (R.filter fun q => decide (q.1 = x)).length := List.length_pos_iff.mpr hne
                        exact ⟨rfl, _, asked1 ++ [x], rfl, M6, I.ask g hP hnd hq hxN hxa, List.mem_append_right _ (.head _), by rw [List.length_append]; omega, fun e => absurd e (by rw [List.length_append]; omega), fun q hq => List.mem_append_left _ hq⟩
                    · have hin : x ∈ asked1 := vStrs_mem.mp (hbb.mp (by cases bb with | true => rfl | false => cases hb))
                      refine s_nil ?_
                      exact ⟨rfl, items1, asked1, rfl, M3, I, hin, Nat.le_refl _, fun _ => ⟨rfl, rfl⟩, fun q hq => hq⟩
                  · rintro f l m' ⟨rfl, items2, asked2, hl, M5, I5, hxa, hlen, hsame, hsub⟩
                    have hi5 := M5.hi
                    have hd5 := M5.hd
                    have hcr5 := M5.hr
                    have hil5 := I5.lenI g
                    have hq5 := hsub _ hq
                    have hokI5 : ∀ q ∈ items2, RuleOk q := fun q hq => by
                      obtain ⟨h1, p, hp, en, pre, hb, _⟩ := I5.item q hq
                      exact ⟨names_syms _ (I5.lc _ h1).1, by have := g.len p hp; rw [hb, List.length_append] at this; omega, fun y hy => signs_syms y (g.body p hp y (by rw [hb]; exact List.mem_append_right _ hy))⟩
                    refine s_cons ?_
                    refine Tr.locs hl ?_
                    refine s_if ?_; refine b_bool ?_; refine b_and_cons ?_; refine b_cmp rfl ?_; refine e_sub (fun _ _ => rfl) ?_; refine   e_cell rfl rfl rfl rfl     (by       first       | assumption       | simp [mset_self])     ?_; refine e_int ?_
                    refine sub_sq (.tup _) (by decide) (by decide) (x := .str x) rfl ?_
                    refine e_local rfl rfl rfl rfl ?_
                    refine in_list (n := 0) (.own hd5) hxok (isD_strs (List.all_eq_true.mpr fun y hy => (syms_ok y (names_syms y (I.lc _ (I.null y hy).1).1)).1)) (by decide) (cd.fit (by decide)) (fun bb hbb => ?_)
                    rw [vStrs_mem] at hbb
                    refine tr_bool ?_
                    have stay : (x ∈ done1 → (left, r) ∈ items2) → ∃ k', k' < k2 ∧ J2 k' (i + 1) [("rules", V.ref ra), ("items", V.ref ia), ("asked", V.ref aa), ("done", V.ref da), ("known", V.int ((items.length : Int) + done.length)), ("left", V.str left)] m' := fun hadv =>
                      ⟨k2 - 1, by omega, by omega, items2, asked2, done1, _, rfl, M5, I5, by omega, by omega, fin _ _ _ (by omega) (fun e => by
                        obtain ⟨e1, e2⟩ := hsame (by omega)
                        rw [e1] at hadv
                        rw [e2] at hxa
                        exact ⟨e1, e2, rfl, fun e => (nomatch e), fun y r' e hy => by cases e; exact ⟨hxa, hadv⟩⟩)⟩
                    refine ⟨fun hb => ?_, fun hb => ?_⟩
                    · have hxd := hbb.mp hb
                      refine b_and_cons ?_; refine b_cmp rfl ?_; refine e_tuple ?_; refine a_cons rfl ?_; refine e_local rfl rfl rfl rfl ?_; refine a_cons rfl ?_; refine e_slice ?_; refine   e_cell rfl rfl rfl rfl     (by       first       | assumption       | simp [mset_self])     ?_; refine e_int ?_
                      refine ⟨1, rfl, ?_⟩
                      skip
                      refine ⟨_, _, .tup _, PySem.F.slot_tuple_getitem.lookup, ?_⟩
                      refine slice_tup (k := 1) (by rw [vStrs_len]; exact Nat.le_trans hrz (by decide)) (by omega) (by rw [vStrs_len]; simp) ?_
                      rw [show (vStrs (x :: r)).drop 1 = vStrs r from rfl]
                      refine a_nil ?_
                      refine new_tup (show 2 ≤ sizeLine by decide) ?_
                      refine e_local rfl rfl rfl rfl ?_
                      have hrow : V.tup [.str left, .tup (vStrs r)] = ruleV (left, r) := rfl
                      have hrok : RuleOk (left, r) := ⟨names_syms _ hlN, by simp at hrz ⊢; omega, fun y hy => signs_syms y (hrs y (.tail _ hy))⟩
                      rw [hrow]
                      refine notin_list (n := 2) (.own hi5) hrok.isD (List.all_eq_true.mpr fun q hq => by obtain ⟨z, hz, rfl⟩ := List.mem_map.mp hq; exact (hokI5 z hz).isD) (by decide) (cd.fit (by decide)) (fun b2 hb2 => ?_)
                      rw [ruleV_mem] at hb2
                      refine tr_bool ?_
                      refine ⟨fun hc => ?_, fun hc => ?_⟩
                      · have hnot : (left, r) ∉ items2 := fun q => by
                          have := hb2.mpr q; rw [this] at hc; cases hc
                        refine b_and_nil ?_
                        refine only_t ?_
                        (refine nameQ ?_; intro qq ee; refine s_cons ?_); refine s_expr rfl rfl ?_; refine c_meth rfl ?_; refine e_local rfl rfl rfl rfl ?_
                        refine m_builtin (.list hi5) PySem.F.plainAttrs_list PySem.F.slot_list_append PySem.F.type_list_append rfl rfl ?_
                        refine a_cons rfl ?_; refine e_tuple ?_; refine a_cons rfl ?_; refine e_local rfl rfl rfl rfl ?_; refine a_cons rfl ?_; refine e_slice ?_; refine   e_cell rfl rfl rfl rfl     (by       first       | assumption       | simp [mset_self])     ?_; refine e_int ?_
                        refine ⟨1, rfl, ?_⟩
                        skip
                        refine ⟨_, _, .tup _, PySem.F.slot_tuple_getitem.lookup, ?_⟩
                        refine slice_tup (k := 1) (by rw [vStrs_len]; exact Nat.le_trans hrz (by decide)) (by omega) (by rw [vStrs_len]; simp) ?_
                        rw [show (vStrs (x :: r)).drop 1 = vStrs r from rfl]
                        refine a_nil ?_
                        refine new_tup (show 2 ≤ sizeLine by decide) ?_
                        refine a_nil ?_
                        refine append_own' hi5 (by rw [List.length_map]; exact Nat.le_trans (show items2.length ≤ 10000 by omega) (by decide)) (fun m6 h6 f6 => ?_)
                        have M6 := M5.setI (items' := items2 ++ [(left, r)]) D (by rw [h6, List.map_append]; rfl) f6
                        refine s_nil ?_; refine s_nil ?_; refine s_nil ?_; refine s_nil ?_
                        exact ⟨k2 - 1, by omega, by omega, items2 ++ [(left, r)], asked2, done1, _, rfl, M6, I5.adv g hq5 hxd hnot, by simp; omega, by simp; omega, fin _ _ _ (by simp; omega) (fun e => absurd e (by simp; omega))⟩
                      · have hin2 : (left, r) ∈ items2 := hb2.mp (by cases b2 with | true => rfl | false => cases hc)
                        refine only_f ?_
                        refine s_nil ?_; refine s_nil ?_; refine s_nil ?_; refine s_nil ?_
                        exact stay fun _ => hin2
                    · have hxd : x ∉ done1 := fun q => by have := hbb.mpr q; rw [this] at hb; cases hb
                      refine only_f ?_
                      refine s_nil ?_; refine s_nil ?_; refine s_nil ?_; refine s_nil ?_
                      exact stay fun q => absurd q hxd
                · have hxN := of_decide_eq_false hxN
                  refine s_nil ?_; refine s_nil ?_; refine s_nil ?_
                  exact ⟨k2 - 1, by omega, by omega, items1, asked1, done1, _, rfl, M3, I, by omega, htot, fin _ _ _ (Nat.le_refl _) (fun _ => ⟨rfl, rfl, rfl, fun e => (nomatch e), fun y r' e hy => by cases e; exact absurd hy hxN⟩)⟩
        · have hb : kn = (items.length : Int) + done.length := by
            cases q : decide (kn = (items.length : Int) + done.length) with
            | true => exact of_decide_eq_true q
            | false => rw [q] at hb; cases hb
          have hcl := hcl hb
          refine s_nil ?_; refine s_cons ?_; refine s_assign rfl ?_; refine c_name rfl ?_; refine e_boot rfl rfl rfl rfl rfl (by rw [hK]; rfl) rfl (by decide) ?_; refine c_type rfl rfl ?_; refine a_cons rfl ?_; refine e_listcomp rfl (by decide) rfl (by decide) (fun _ => rfl) ?_; refine e_local rfl rfl rfl rfl ?_
          have hN : ∀ q ∈ items, (∀ y ∈ q.2, y ∈ SIGNS) ∧ q.2.length ≤ 10 := fun q hq => by
            obtain ⟨h1, p, hp, en, pre, hb, _⟩ := I.item q hq
            exact ⟨fun y hy => g.body p hp y (by rw [hb]; exact List.mem_append_right _ hy), by have := g.len p hp; rw [hb, List.length_append] at this; omega⟩
          refine comp_map (itr_own cd.handled hi) (items.map ruleV) (fun m i hs hi' => ownItem_eq (hs _ _ hi)) (by rw [List.length_map]; exact Nat.le_trans (show items.length ≤ 60 by omega) (by decide)) waitV ?_ ?_
          · intro C outer' i v hv
            obtain ⟨q, hq, rfl⟩ := List.mem_map.mp (List.mem_of_getElem? hv)
            obtain ⟨hq1, hq2⟩ := hN q hq
            rw [waitV_rule]
            obtain ⟨l, r⟩ := q
            refine   asg_tuple     (by       first       | assumption       | exact Calm.handled (by assumption))     rfl rfl ?_; refine asg_name ?_; refine st_local rfl rfl ?_; refine asg_name ?_; refine st_local rfl rfl ?_; refine b_bool ?_; refine b_and_cons ?_; refine b_value rfl ?_; refine e_local rfl rfl rfl rfl ?_
            refine tr_tup (by rw [vStrs_len]; omega) ?_
            cases r with
            | nil =>
              refine only_f ?_
              exact ⟨fun hb => (by cases hb), fun _ => ⟨rfl, sub_refl _⟩⟩
            | cons x r =>
              have hxs := hq1 x (.head _)
              refine only_t ?_
              refine b_and_cons ?_; refine b_cmp rfl ?_; refine e_sub (fun _ _ => rfl) ?_; refine e_local rfl rfl rfl rfl ?_; refine e_int ?_
              refine sub_sq (.tup _) (by decide) (by decide) (x := .str x) rfl ?_
              refine e_str ?_; refine in_ss ?_; refine tr_bool ?_
              rw [in_abc x hxs]
              refine ⟨fun hb => ?_, fun hb => ?_⟩
              · have hb := of_decide_eq_true hb
                refine b_and_nil ?_
                refine only_t ?_
                refine e_sub (fun _ _ => rfl) ?_; refine e_local rfl rfl rfl rfl ?_; refine e_int ?_
                refine sub_sq (.tup _) (by decide) (by decide) (x := .str x) rfl ?_
                skip
                exact ⟨by show some (V.str x) = Option.map V.str (if x ∈ LET then some x else none); rw [if_pos hb]; rfl, sub_refl _⟩
              · have hb := of_decide_eq_false hb
                exact ⟨fun hb => (by cases hb), fun _ => ⟨by show none = Option.map V.str (if x ∈ LET then some x else none); rw [if_neg hb]; rfl, sub_refl _⟩⟩
          · intro wa hwa
            rw [wait_filter]
            have hwl : (items.filterMap waitR).length ≤ 55 := Nat.le_trans (List.length_filterMap_le _ _) (by omega)
            refine a_nil ?_
            refine set_strs cd.handled (.own (mset_self _ _ _)) (by omega) (fun sa o hsa hT => ?_)
            refine st_local rfl rfl ?_; refine s_cons ?_; refine s_if ?_; refine b_cmp rfl ?_
            have M3 := (M.new (m' := mset m wa (.list (vStrs (items.filterMap waitR)))) hwa (fun b hb => mset_ne hb)).new (m' := mset (mset m wa (.list (vStrs (items.filterMap waitR)))) sa (.raw o)) hsa (fun b hb => mset_ne hb)
            obtain ⟨mm, hmm⟩ : ∃ mm, mm = mset (mset m wa (.list (vStrs (items.filterMap waitR)))) sa (.raw o) := ⟨_, rfl⟩
            have hsm : mm sa = some (.raw o) := by rw [hmm, mset_self]
            rw [← hmm] at M3
            have hms : mem sa = none := by
              cases q : mem sa with
              | none => rfl
              | some x => rw [mset_ne (fun e => by rw [e] at q; rw [M.keep _ _ q] at hwa; cases hwa), M.keep _ _ q] at hsa; cases hsa
            change TrV _ _ _ _ _ _ (mset (mset m wa _) sa (.raw o)) _ _
            rw [← hmm]
            clear hmm hsa hwa
            have hn3 := M3.hn
            have hd3 := M3.hd
            have ddl : (dedup (items.filterMap waitR)).length ≤ 55 := Nat.le_trans (dedup_len _) hwl
            have hne : eps ∉ dedup (items.filterMap waitR) := fun q => eps_let (wait_mem.mp q).1
            have hans := fun f => I.answer g hcl f
            have hkeep := M3.keep
            have fin : ∀ (m' : Mem) (Dd : Addr) (ss xs : List Str), (∀ b x, mem b = some x → m' b = some x) → m' Dd = none → ss.Perm xs → sortedS ss = true → xs.Nodup → (∀ f, f ∈ xs ↔ Fst P T f [name]) →
                ∃ m2, (∀ (a : Addr) (x : AObj), m2 a = some x → mset m' Dd (AObj.list (vStrs ss)) a = some x) ∧ Q (.ref Dd) loc m2 := fun m' Dd ss xs hk hD hp hss hnx hx => by
              have hD0 : mem Dd = none := by
                cases q : mem Dd with
                | none => rfl
                | some x => rw [hk _ _ q] at hD; cases hD
              refine ⟨_, fun b x e => ?_, h Dd ss hD0 hss (hp.nodup_iff.mpr hnx) fun f => (hp.mem_iff.trans (hx f))⟩
              by_cases z : b = Dd
              · subst z; rw [mset_self] at e ⊢; exact e
              · rw [mset_ne z] at e ⊢; exact hk _ _ e
            refine   e_cell rfl rfl rfl rfl     (by       first       | assumption       | simp [mset_self])     ?_; refine e_local rfl rfl rfl rfl ?_
            refine in_list (n := 0) (.own hd3) (syms_ok _ (names_syms _ hn)).1 (isD_strs (List.all_eq_true.mpr fun y hy => (syms_ok y (names_syms y (I.lc _ (I.null y hy).1).1)).1)) (by decide) (cd.fit (by decide)) (fun bb hbb => ?_)
            rw [vStrs_mem] at hbb
            refine tr_bool ?_
            refine ⟨fun hb => ?_, fun hb => ?_⟩
            · have hin := hbb.mp hb
              (refine nameQ ?_; intro qq ee; refine s_cons ?_); refine s_expr rfl rfl ?_; refine c_meth rfl ?_; refine e_local rfl rfl rfl rfl ?_
              refine m_set_add hsm hT rfl rfl ?_
              refine a_cons rfl ?_; refine e_str ?_; refine a_nil ?_
              refine set_add hsm hT (Nat.lt_of_le_of_lt ddl (by decide)) (fun o' hT' => ?_)
              rw [show (("<empty>" : Str)) = eps from rfl, if_neg hne] at hT'
              refine s_nil ?_; refine s_cons ?_; refine s_ret ?_; refine c_name rfl ?_; refine e_boot rfl rfl rfl rfl rfl (by rw [hK]; rfl) rfl (by decide) ?_; refine c_builtin rfl rfl ?_; refine a_cons rfl ?_; refine e_local rfl rfl rfl rfl ?_; refine a_nil ?_
              refine sorted_set cd.handled (mset_self _ _ _) hT' (by rw [List.length_append]; exact Nat.lt_of_le_of_lt (Nat.add_le_add_right ddl 1) (by decide)) (fun Dd ss hDd hp hss => ?_)
              skip
              refine fin _ Dd ss _ (fun b x e => by rw [mset_ne (nex e hms)]; exact hkeep _ _ e) hDd hp hss ?_ fun f => ?_
              · rw [List.nodup_append]
                exact ⟨dedup_nodup _, by simp, fun a ha b hb e => by rw [List.mem_singleton] at hb; subst hb; exact hne (e ▸ ha)⟩
              · rw [hans f, List.mem_append, wait_mem, List.mem_singleton]
                constructor
                · rintro (⟨hl, hq⟩ | rfl)
                  · exact .inr ⟨fun e => eps_let (e ▸ hl), hl, hq⟩
                  · exact .inl ⟨rfl, hin⟩
                · rintro (⟨rfl, _⟩ | ⟨_, hl, hq⟩)
                  · exact .inr rfl
                  · exact .inl ⟨hl, hq⟩
            · have hin : name ∉ done := fun q => by rw [hbb.mpr q] at hb; cases hb
              refine s_nil ?_; refine s_cons ?_; refine s_ret ?_; refine c_name rfl ?_; refine e_boot rfl rfl rfl rfl rfl (by rw [hK]; rfl) rfl (by decide) ?_; refine c_builtin rfl rfl ?_; refine a_cons rfl ?_; refine e_local rfl rfl rfl rfl ?_; refine a_nil ?_
              refine sorted_set cd.handled hsm hT (Nat.lt_of_le_of_lt ddl (by decide)) (fun Dd ss hDd hp hss => ?_)
              skip
              refine fin _ Dd ss _ hkeep hDd hp hss (dedup_nodup _) fun f => ?_
              rw [hans f, wait_mem]
              constructor
              · rintro ⟨hl, hq⟩
                exact .inr ⟨fun e => eps_let (e ▸ hl), hl, hq⟩
              · rintro (⟨_, q⟩ | ⟨_, hl, hq⟩)
                · exact absurd q hin
                · exact ⟨hl, hq⟩
      · rw [if_neg (by simp <;> omega)]; rfl
      · intro e; exact absurd e (by simp <;> omega)
end
end Mine
end
section
set_option autoImplicit false
namespace Mine
theorem risingS_pw : ∀ (l : List Str) (p : Str), risingS p l = true → (p :: l).Pairwise fun a b => a.cps.toList ≤ b.cps.toList
  | [], p, _ => by simp
  | x :: r, p, h => by
    have h : (!Spec.ltCps x.cps.toList p.cps.toList && risingS x r) = true := h
    rw [Bool.and_eq_true] at h
    have h1 : ¬ x.cps.toList < p.cps.toList := by
      have := h.1
      rw [ltCps_eq] at this
      simpa using this
    have ih := risingS_pw r x h.2
    refine List.pairwise_cons.mpr ⟨fun y hy => ?_, ih⟩
    rcases List.mem_cons.mp hy with rfl | hm
    · exact h1
    · exact List.le_trans h1 ((List.pairwise_cons.mp ih).1 y hm)
theorem sortedS_pw {l : List Str} (h : sortedS l = true) : l.Pairwise fun a b => a.cps.toList ≤ b.cps.toList := by
  cases l with
  | nil => exact .nil
  | cons x r => exact risingS_pw r x h
theorem sorted_unique {a b : List Str} (ha : sortedS a = true) (hb : sortedS b = true) (hp : a.Perm b) : a = b := by
  refine List.Perm.eq_of_pairwise (le := fun a b : Str => a.cps.toList ≤ b.cps.toList) (fun x y _ _ h1 h2 => ?_) (sortedS_pw ha) (sortedS_pw hb) hp
  have := List.le_antisymm h1 h2
  cases x; cases y
  exact congrArg Str.mk (Array.toList_inj.mp this)
theorem perm_of_mem {α : Type} [DecidableEq α] {a b : List α} (ha : a.Nodup) (hb : b.Nodup) (h : ∀ x, x ∈ a ↔ x ∈ b) : a.Perm b := by
  exact (List.perm_ext_iff_of_nodup ha hb).mpr h
section
variable {W : Wd} {A : Around} {env : Env} {outer : Outs} {loc : Loc} {mem : Mem} {E : Ex W}
theorem ne_lists {v u : V} {xs ys : List V} {n : Nat} {Q : V → Loc → Mem → Prop} (q : Sq mem v "list" xs) (q' : Sq mem u "list" ys) (hx : xs.all (isD n) = true) (hy : ys.all (isD n) = true) (hn : n < 64) (hu : A.units + 65 < cLine) (h : ∀ b : Bool, (b = true ↔ xs = ys) → Q (.bool (!b)) loc mem) :
    OpV W A env outer (fun | [x, y] => compareOp .NotEq x y | _ => pure .none) [v, u] loc mem Q E := op2 fun R F s v' u' S r1 r2 => by
  obtain ⟨as, ra⟩ := q.reads hx S r1
  obtain ⟨bs, rb⟩ := q'.reads hy S r2
  have hx' : isD (n + 1) (.lst xs) = true := hx
  have hy' : isD (n + 1) (.lst ys) = true := hy
  have e := same_iff hx' hy'
  rw [show (V.lst xs = V.lst ys) = (xs = ys) by simp] at e
  exact ne_dataH_same ra rb (isD_shaped hx' (by omega)) (isD_shaped hy' (by omega)) (by omega) (isD_noMix hx' hy') (Post.mk (.bool _) S (h _ e))
end
end Mine
end
section
set_option autoImplicit false
namespace Mine
noncomputable def lLaw.body : List Stmt := stBody (stAt pw.main.body 16)
noncomputable def lLaw.scope : Scope := stScope (stAt pw.main.body 16)
noncomputable def lLaw.params : Arguments := stArgs (stAt pw.main.body 16)
noncomputable def lLaw.code : Value := (Value.ref 289)
theorem lLaw.at (P : Params) : List.lookup 290 (lawHeap P) = some (Obj.mk (Value.type "function") none (Data.func (fnOf (Str.ofString "law") (Str.ofString "law") lLaw.params lLaw.body lLaw.scope (Value.none) (Value.none) (Value.none) (Value.str (Str.ofString "law_te0001_02") 534) (none) lLaw.code (Value.none))) #[]) := by kernel_rfl
structure LawR (R : List Rule) : Prop where
  ok : ∀ r ∈ R, RuleG r
  nd : R.Nodup
  hz : R.length ≤ 5
  all : ∀ x ∈ NAMES, ∃ r ∈ R, r.1 = x
noncomputable abbrev lwE (L : Addr) : Env := envX "law" lLaw.scope L 290 lLaw.code []
theorem signs3 (k : Int) (h0 : 0 ≤ k) (h3 : k < 3) : (vStrs SIGNS)[k.toNat]? = some (.str (signAt k)) ∧ signAt k ∈ NAMES := by
  have : ∀ n : Fin 3, (vStrs SIGNS)[n.val]? = some (.str (signAt (n.val : Int))) ∧ signAt (n.val : Int) ∈ NAMES := by
    intro n
    refine ⟨vStrs_get ?_, ?_⟩
    · unfold signAt
      match n with
      | 0 => rfl
      | 1 => rfl
      | 2 => rfl
    · revert n; decide +kernel
  have e : k = (k.toNat : Int) := (Int.toNat_of_nonneg h0).symm
  have := this ⟨k.toNat, by omega⟩
  rw [← e] at this; exact this
theorem ruleG_of {x : Str} (hx : x ∈ NAMES) {limit : Int} (h0 : 0 < limit) (h1 : limit ≤ 10) (ts : List Int) : RuleG (x, (lawBody limit ts).1) :=
  ⟨hx, by have := lawBody_len h0 ts; dsimp only; omega, lawBody_mem limit ts⟩
section
variable {W : Wd} {A : Around} {env : Env} {outer : Outs} {loc : Loc} {mem : Mem} {E : Ex W}
inductive P2T_J1 (ta : Addr) (st : Str) (ra : Addr) (k : Nat) (l : Loc) (m : Mem) : Prop
  | mk (h1_ : LSub [("tape", .ref ta), ("start", .str st), ("rules", .ref ra)] l) (R : List Rule) (ts : List Int) (h2_ : LawR R) (h3_ : m ta = some (.list (ts.map .int))) (h4_ : m ra = some (.list (R.map ruleV))) (h5_ : ts.length = k) (h6_ : k ≤ 19)
theorem law_a {ns : List Int} {L : Addr} {Q : Fl → Loc → Mem → Prop} (hK : W.K = hdK W.w.params) (cd : Calm A 310 2000) (hns : ns.length ≤ 63)
    (h : ∀ ra R st loc m, LawR R → st ∈ NAMES → LSub [("start", .str st), ("rules", .ref ra)] loc → m ra = some (.list (R.map ruleV)) → TrS W A (lwE L) outer (execs (lLaw.body.drop 6) (lwE L)) loc m Q E) :
    TrS W A (lwE L) outer (execs lLaw.body (lwE L)) [("script", .lst (vInts ns))] mem Q E := by
  refine s_cons ?_; refine s_assign rfl ?_; refine c_name rfl ?_; refine e_boot rfl rfl rfl rfl rfl (by rw [hK]; rfl) rfl (by decide) ?_; refine c_type rfl rfl ?_; refine a_cons rfl ?_; refine e_slice ?_; refine e_local rfl rfl rfl rfl ?_; refine e_int ?_
  refine ⟨19, rfl, ?_⟩
  skip
  refine ⟨_, _, .lst _, PySem.F.slot_list_getitem.lookup, ?_⟩
  refine slice_upto (xs := ns.map .int) (k := 19) (.lst _) (by rw [List.length_map]; exact Nat.le_trans hns (by decide)) ?_
  refine a_nil ?_
  refine list_sq (.lst _) (by rw [List.length_take]; exact Nat.le_trans (Nat.min_le_left _ _) (by decide)) (fun ta hta => ?_)
  rw [← List.map_take]
  have hz0 : (ns.take 19).length ≤ 19 := by rw [List.length_take]; exact Nat.min_le_left _ _
  generalize ns.take 19 = t0 at hz0
  refine Op.memS (mem' := mset mno ta (.list (t0.map .int))) (fun b x e => ?_) ?_
  · by_cases q : b = ta
    · subst q; rw [mset_self] at e ⊢; exact e
    · rw [mset_ne q] at e; cases e
  clear hta
  refine st_local rfl rfl ?_
  refine s_cons ?_
  refine Tr.locs (loc' := [("tape", .ref ta)]) (rfl) ?_
  refine Tr.mono (Q := fun f l m => f = .next ∧ ∃ (st : Str) (ts : List Int), st ∈ NAMES ∧ LSub [("tape", .ref ta), ("start", .str st)] l ∧ m = mset mno ta (.list (ts.map .int)) ∧ ts.length ≤ 19) ?_ ?_
  · refine s_assign rfl ?_; refine e_sub (fun _ _ => rfl) ?_; refine c_name rfl ?_; refine e_topG rfl rfl rfl rfl (by rw [hK]; rfl) ?_; refine c_top0 (by rw [hK]; rfl) ?_
    refine signs_spec hK (cd.mono (by decide) (by decide)) ?_
    refine e_ifexp ?_; refine b_value rfl ?_; refine e_local rfl rfl rfl rfl ?_
    refine tr_list (.own (mset_self _ _ _)) (by simp; omega) ?_
    cases t0 with
    | nil =>
      skip
      refine only_f ?_
      refine e_int ?_
      obtain ⟨h1, h2⟩ := signs3 0 (by decide) (by decide)
      refine sub_sq (.lst _) (by decide) (by decide) (x := .str (signAt 0)) h1 ?_
      refine st_local rfl rfl ?_
      exact ⟨rfl, _, [], h2, rfl, rfl, Nat.zero_le _⟩
    | cons t ts =>
      skip
      refine only_t ?_
      refine e_binop ?_; refine c_meth rfl ?_; refine e_local rfl rfl rfl rfl ?_
      refine m_builtin (.list (mset_self _ _ _)) PySem.F.plainAttrs_list PySem.F.slot_list_pop (by show builtinType _ = _; rw [builtinType_eq_fast]; kernel_rfl) rfl rfl ?_
      refine a_cons rfl ?_; refine e_int ?_; refine a_nil ?_
      refine pop0_own (xs := ts.map .int) (mset_self _ _ _) (Nat.le_trans (show _ ≤ 1000 from (by simp at hz0 ⊢; omega)) (by decide)) ?_
      rw [mset_mset]
      refine e_int ?_
      refine mod_ii (by decide) ?_
      obtain ⟨r1, r2⟩ := fmod_rng (a := t) (b := 3) (by decide)
      obtain ⟨h1, h2⟩ := signs3 _ r1 r2
      refine sub_sq (.lst _) r1 (by omega) (x := .str (signAt (t.fmod 3))) h1 ?_
      refine st_local rfl rfl ?_
      exact ⟨rfl, _, ts, h2, rfl, rfl, by simp at hz0; omega⟩
  rintro f l m ⟨rfl, st, t1, hst, hl, rfl, hz1⟩
  clear hz0
  refine s_cons ?_
  refine Tr.locs hl ?_
  refine s_assign rfl ?_; refine e_list ?_; refine a_cons rfl ?_; refine e_tuple ?_; refine a_cons rfl ?_; refine e_str ?_; refine a_cons rfl ?_; refine c_name rfl ?_; refine e_topG rfl rfl rfl rfl (by rw [hK]; rfl) ?_; refine c_top (by rw [hK]; rfl) rfl rfl ?_; refine a_cons rfl ?_; refine e_local rfl rfl rfl rfl ?_; refine a_cons rfl ?_; refine e_int ?_; refine a_nil ?_
  refine body_spec hK (cd.mono (by decide) (by decide)) (mset_self _ _ _) (by omega) (by decide) (by decide) ?_
  rw [mset_mset]
  have hb1 := ruleG_of (x := "S") (by decide +kernel) (limit := 4) (by decide) (by decide) t1
  have hr1 := lawBody_rest 4 t1
  generalize hB1 : lawBody 4 t1 = B1 at hb1 hr1
  refine a_nil ?_
  refine new_tup (show 2 ≤ sizeLine by decide) ?_
  refine a_nil ?_
  refine new_own' (show 1 ≤ sizeLine by decide) (fun ra m1 hra h1 f1 => ?_)
  have hne : ra ≠ ta := fun e => by rw [e, mset_self] at hra; cases hra
  have ht1 : m1 ta = some (.list (B1.2.map .int)) := (f1 _ (Ne.symm hne)).trans (mset_self _ _ _)
  refine st_local rfl rfl ?_; refine s_cons ?_; refine s_expr rfl rfl ?_; refine c_meth rfl ?_; refine e_local rfl rfl rfl rfl ?_
  refine m_builtin (.list h1) PySem.F.plainAttrs_list PySem.F.slot_list_append PySem.F.type_list_append rfl rfl ?_
  refine a_cons rfl ?_; refine e_tuple ?_; refine a_cons rfl ?_; refine e_str ?_; refine a_cons rfl ?_; refine c_name rfl ?_; refine e_topG rfl rfl rfl rfl (by rw [hK]; rfl) ?_; refine c_top (by rw [hK]; rfl) rfl rfl ?_; refine a_cons rfl ?_; refine e_local rfl rfl rfl rfl ?_; refine a_cons rfl ?_; refine e_int ?_; refine a_nil ?_
  refine body_spec hK (cd.mono (by decide) (by decide)) ht1 (by omega) (by decide) (by decide) ?_
  have hb2 := ruleG_of (x := "A") (by decide +kernel) (limit := 4) (by decide) (by decide) B1.2
  have hr2 := lawBody_rest 4 B1.2
  generalize hB2 : lawBody 4 B1.2 = B2 at hb2 hr2
  have h1' : mset m1 ta (.list (B2.2.map .int)) ra = some (.list [ruleV ("S", B1.1)]) := (mset_ne hne).trans h1
  refine a_nil ?_
  refine new_tup (show 2 ≤ sizeLine by decide) ?_
  refine a_nil ?_
  refine append_own' h1' (show 1 ≤ sizeLine by decide) (fun m2 h2 f2 => ?_)
  have ht2 : m2 ta = some (.list (B2.2.map .int)) := (f2 _ (Ne.symm hne)).trans (mset_self _ _ _)
  refine s_cons ?_; refine s_expr rfl rfl ?_; refine c_meth rfl ?_; refine e_local rfl rfl rfl rfl ?_
  refine m_builtin (.list h2) PySem.F.plainAttrs_list PySem.F.slot_list_append PySem.F.type_list_append rfl rfl ?_
  refine a_cons rfl ?_; refine e_tuple ?_; refine a_cons rfl ?_; refine e_str ?_; refine a_cons rfl ?_; refine c_name rfl ?_; refine e_topG rfl rfl rfl rfl (by rw [hK]; rfl) ?_; refine c_top (by rw [hK]; rfl) rfl rfl ?_; refine a_cons rfl ?_; refine e_local rfl rfl rfl rfl ?_; refine a_cons rfl ?_; refine e_int ?_; refine a_nil ?_
  refine body_spec hK (cd.mono (by decide) (by decide)) ht2 (by omega) (by decide) (by decide) ?_
  have hb3 := ruleG_of (x := "B") (by decide +kernel) (limit := 4) (by decide) (by decide) B2.2
  have hr3 := lawBody_rest 4 B2.2
  generalize hB3 : lawBody 4 B2.2 = B3 at hb3 hr3
  have h2' : mset m2 ta (.list (B3.2.map .int)) ra = some (.list [ruleV ("S", B1.1), ruleV ("A", B2.1)]) := (mset_ne hne).trans h2
  refine a_nil ?_
  refine new_tup (show 2 ≤ sizeLine by decide) ?_
  refine a_nil ?_
  refine append_own' h2' (show 2 ≤ sizeLine by decide) (fun m3 h3 f3 => ?_)
  have ht3 : m3 ta = some (.list (B3.2.map .int)) := (f3 _ (Ne.symm hne)).trans (mset_self _ _ _)
  have R0 : LawR [("S", B1.1), ("A", B2.1), ("B", B3.1)] := {
    ok := fun r hr => by
      simp only [List.mem_cons, List.not_mem_nil, or_false] at hr
      rcases hr with rfl | rfl | rfl
      · exact hb1
      · exact hb2
      · exact hb3
    nd := by
      have e1 : ("S" : Str) ≠ "A" := by decide +kernel
      have e2 : ("S" : Str) ≠ "B" := by decide +kernel
      have e3 : ("A" : Str) ≠ "B" := by decide +kernel
      simp [e1, e2, e3]
    hz := show 3 ≤ 5 by decide
    all := fun x hx => by
      unfold NAMES at hx
      simp only [List.mem_cons, List.not_mem_nil, or_false] at hx
      rcases hx with rfl | rfl | rfl
      · exact ⟨_, .head _, rfl⟩
      · exact ⟨_, .tail _ (.head _), rfl⟩
      · exact ⟨_, .tail _ (.tail _ (.head _)), rfl⟩ }
  have h3 : m3 ra = some (.list (([("S", B1.1), ("A", B2.1), ("B", B3.1)] : List Rule).map ruleV)) := h3
  have hz3 : B3.2.length ≤ 19 := by omega
  clear h1 f1 ht1 h1' h2 f2 ht2 h2' f3 hra
  refine s_cons ?_
  let J1 : Nat → Loc → Mem → Prop := P2T_J1 ta st ra
  refine s_while J1 ?_ _ ⟨rfl, _, _, R0, ht3, h3, rfl, hz3⟩
  clear R0 ht3 h3 hz3 hb1 hb2 hb3 hr1 hr2 hr3 hB1 hB2 hB3
  rintro k l m ⟨hl, R, ts, I, hta, hra, rfl, hk⟩
  have hRz := I.hz
  refine Tr.locs hl ?_
  refine b_bool ?_; refine b_and_cons ?_; refine b_value rfl ?_; refine e_local rfl rfl rfl rfl ?_
  refine tr_list (.own hta) (by simp; omega) ?_
  have hexit := h ra R st [("tape", .ref ta), ("start", .str st), ("rules", .ref ra)] m I hst (rfl) hra
  cases ts with
  | nil =>
    refine only_f ?_
    refine only_f ?_
    refine s_nil ?_
    exact hexit
  | cons t ts =>
    refine only_t ?_
    refine b_and_cons ?_; refine b_cmp rfl ?_; refine c_name rfl ?_; refine e_boot rfl rfl rfl rfl rfl (by rw [hK]; rfl) rfl (by decide) ?_; refine c_builtin rfl rfl ?_; refine a_cons rfl ?_; refine e_local rfl rfl rfl rfl ?_; refine a_nil ?_
    refine len_sq (.own hra) (by rw [List.length_map]; omega) ?_
    rw [List.length_map]
    refine e_int ?_; refine lt_ii ?_; refine tr_bool ?_
    refine ⟨fun hb => ?_, fun hb => ?_⟩
    · have hb := of_decide_eq_true hb
      refine b_and_nil ?_
      refine only_t ?_
      (refine nameQ ?_; intro qq ee; refine s_cons ?_); refine s_assign rfl ?_; refine e_sub (fun _ _ => rfl) ?_; refine c_name rfl ?_; refine e_topG rfl rfl rfl rfl (by rw [hK]; rfl) ?_; refine c_top0 (by rw [hK]; rfl) ?_
      refine signs_spec hK (cd.mono (by decide) (by decide)) ?_
      refine e_binop ?_; refine c_meth rfl ?_; refine e_local rfl rfl rfl rfl ?_
      refine m_builtin (.list hta) PySem.F.plainAttrs_list PySem.F.slot_list_pop (by show builtinType _ = _; rw [builtinType_eq_fast]; kernel_rfl) rfl rfl ?_
      refine a_cons rfl ?_; refine e_int ?_; refine a_nil ?_
      refine pop0_own (xs := ts.map .int) hta (Nat.le_trans (show _ ≤ 1000 from (by simp at hk ⊢; omega)) (by decide)) ?_
      have hra2 : mset m ta (.list (ts.map .int)) ra = some (.list (R.map ruleV)) := (mset_ne hne).trans hra
      refine e_int ?_
      refine mod_ii (by decide) ?_
      obtain ⟨r1, r2⟩ := fmod_rng (a := t) (b := 3) (by decide)
      obtain ⟨h1, h2⟩ := signs3 _ r1 r2
      refine sub_sq (.lst _) r1 (by omega) (x := .str (signAt (t.fmod 3))) h1 ?_
      refine st_local rfl rfl ?_; refine s_cons ?_; refine s_assign rfl ?_; refine e_tuple ?_; refine a_cons rfl ?_; refine e_local rfl rfl rfl rfl ?_; refine a_cons rfl ?_; refine c_name rfl ?_; refine e_topG rfl rfl rfl rfl (by rw [hK]; rfl) ?_; refine c_top (by rw [hK]; rfl) rfl rfl ?_; refine a_cons rfl ?_; refine e_local rfl rfl rfl rfl ?_; refine a_cons rfl ?_; refine e_int ?_; refine a_nil ?_
      refine body_spec hK (cd.mono (by decide) (by decide)) (mset_self _ _ _) (by simp at hk; omega) (by decide) (by decide) ?_
      rw [mset_mset]
      have hb1 := ruleG_of h2 (limit := 2) (by decide) (by decide) ts
      have hr1 := lawBody_rest 2 ts
      generalize hB1 : lawBody 2 ts = B1 at hb1 hr1
      have hra3 : mset m ta (.list (B1.2.map .int)) ra = some (.list (R.map ruleV)) := (mset_ne hne).trans hra
      refine a_nil ?_
      refine new_tup (show 2 ≤ sizeLine by decide) ?_
      refine st_local rfl rfl ?_; refine s_cons ?_; refine s_if ?_; refine b_cmp rfl ?_; refine e_local rfl rfl rfl rfl ?_; refine e_local rfl rfl rfl rfl ?_
      have hro : RuleOk (signAt (t.fmod 3), B1.1) := ⟨names_syms _ hb1.left, Nat.le_trans hb1.len (by decide), fun y hy => signs_syms y (hb1.body y hy)⟩
      have hrow : V.tup [V.str (signAt (t.fmod 3)), V.tup (vStrs B1.1)] = ruleV (signAt (t.fmod 3), B1.1) := rfl
      rw [hrow]
      refine notin_list (n := 2) (.own hra3) hro.isD (List.all_eq_true.mpr fun q hq => by obtain ⟨z, hz, rfl⟩ := List.mem_map.mp hq; exact RuleOk.isD ⟨names_syms _ (I.ok z hz).left, Nat.le_trans (I.ok z hz).len (by decide), fun y hy => signs_syms y ((I.ok z hz).body y hy)⟩) (by decide) (cd.fit (by decide)) (fun b2 hb2 => ?_)
      rw [ruleV_mem] at hb2
      refine tr_bool ?_
      refine ⟨fun hc => ?_, fun hc => ?_⟩
      · have hnot : (signAt (t.fmod 3), B1.1) ∉ R := fun q => by
          have := hb2.mpr q; rw [this] at hc; cases hc
        (refine nameQ ?_; intro qq ee; refine s_cons ?_); refine s_expr rfl rfl ?_; refine c_meth rfl ?_; refine e_local rfl rfl rfl rfl ?_
        refine m_builtin (.list hra3) PySem.F.plainAttrs_list PySem.F.slot_list_append PySem.F.type_list_append rfl rfl ?_
        refine a_cons rfl ?_; refine e_local rfl rfl rfl rfl ?_; refine a_nil ?_
        refine append_own' hra3 (by rw [List.length_map]; exact Nat.le_trans hRz (by decide)) (fun m4 h4 f4 => ?_)
        refine s_nil ?_; refine s_nil ?_
        refine ⟨B1.2.length, by simp; omega, rfl, R ++ [(signAt (t.fmod 3), B1.1)], B1.2, ?_, (f4 _ (Ne.symm hne)).trans (mset_self _ _ _), by rw [h4, List.map_append]; rfl, rfl, by simp at hk; omega⟩
        exact {
          ok := fun r hr => by
            rcases List.mem_append.mp hr with hr | hr
            · exact I.ok r hr
            · rw [List.mem_singleton] at hr; rw [hr]; exact hb1
          nd := by
            rw [List.nodup_append]
            exact ⟨I.nd, by simp, fun a ha b hb e => by rw [List.mem_singleton] at hb; subst hb; exact hnot (e ▸ ha)⟩
          hz := by rw [List.length_append, List.length_singleton]; omega
          all := fun x hx => by obtain ⟨r, hr, e⟩ := I.all x hx; exact ⟨r, List.mem_append_left _ hr, e⟩ }
      · refine s_nil ?_; refine s_nil ?_
        exact ⟨B1.2.length, by simp; omega, rfl, R, B1.2, I, mset_self _ _ _, hra3, rfl, by simp at hk; omega⟩
    · refine only_f ?_
      refine s_nil ?_
      exact hexit
end
end Mine
end
section
set_option autoImplicit false
namespace Mine
noncomputable def Tell (m : Mem) (d : Addr) (tab : List (Str × List Str)) : Prop := ∃ (ad : Str → Addr) (ep : Nat), m d = some (.dict (tab.map fun q => (q.1, .ref (ad q.1))) ep) ∧ ∀ k ys, tab.lookup k = some ys → m (ad k) = some (.list (vStrs ys))
noncomputable def ABS : List Str := ["A", "B", "S"]
noncomputable def endMap (t : Str) : Str := if t = "end" then "$end" else t
structure LawF (P : List Pr) (T : List Str) (fo fi fi2 : List (Str × List Str)) : Prop where
  keys : (fo.map (·.1)).Perm ABS
  fst : ∀ x ∈ NAMES, ∃ ys, fi.lookup x = some ys ∧ ys.Nodup ∧ ys.length < 64 ∧ ∀ f, f ∈ ys ↔ Fst P T f [x]
  fst2 : ∀ x ∈ NAMES, ∃ ys, fi2.lookup x = some ys ∧ ys.Nodup ∧ ys.length < 64 ∧ ∀ f, f ∈ ys ↔ Fst P T f [x]
  ok : ∀ x ∈ NAMES, ∀ f, Fst P T f [x] → PyData.strOk f = true
  fol : ∀ x ∈ NAMES, ∃ ys zs, fo.lookup x = some ys ∧ fi2.lookup (us x) = some zs ∧ ys.length < 64 ∧ zs.length < 64 ∧ ys.Perm (zs.map endMap) ∧ ∀ f ∈ ys, PyData.strOk f = true
section
variable {W : Wd} {A : Around} {env : Env} {outer : Outs} {loc : Loc} {m : Mem} {E : Ex W}
inductive P2U_J1 (m : Mem) (ra : Addr) (fd : Addr) (id : Addr) (bd : Addr) (k : Nat) (i : Nat) (l : Loc) (m' : Mem) : Prop
  | mk (h1_ : k + i = 3) (h2_ : LSub [("rules", .ref ra), ("follow", .ref fd), ("first", .ref id), ("behind", .ref bd)] l) (h3_ : Sub m m')
theorem law_c {L ra fd id bd : Addr} {R : List Rule} {P : List Pr} {T : List Str} {fo fi fi2 : List (Str × List Str)} {Q : Fl → Loc → Mem → Prop} (hK : W.K = hdK W.w.params) (cd : Calm A 310 2000) (I : LawR R) (hra : m ra = some (.list (R.map ruleV)))
    (hP : P.map (fun p => (p.name, p.body)) = R) (g : OpG P T) (T1 : Tell m fd fo) (T2 : Tell m id fi) (T3 : Tell m bd fi2) (F : LawF P T fo fi fi2)
    (hl : LSub [("rules", .ref ra), ("follow", .ref fd), ("first", .ref id), ("behind", .ref bd)] loc) (h : ∀ l m, Q (.ret (.bool true)) l m) :
    TrS W A (lwE L) outer (execs (lLaw.body.drop 11) (lwE L)) loc m Q E := by
  obtain ⟨a1, e1, t1, l1⟩ := T1
  obtain ⟨a2, e2, t2, l2⟩ := T2
  obtain ⟨a3, e3, t3, l3⟩ := T3
  refine Tr.locs hl ?_
  refine s_cons ?_; refine s_if ?_; refine b_cmp rfl ?_; refine c_name rfl ?_; refine e_boot rfl rfl rfl rfl rfl (by rw [hK]; rfl) rfl (by decide) ?_; refine c_builtin rfl rfl ?_; refine a_cons rfl ?_; refine e_local rfl rfl rfl rfl ?_; refine a_nil ?_
  have hk3 : (fo.map fun q => (q.1, V.ref (a1 q.1))).map (·.1) = fo.map (·.1) := by rw [List.map_map]; rfl
  refine sorted_dict cd.handled t1 (by have := F.keys.length_eq; rw [List.length_map] at this ⊢; rw [this]; decide) (fun D ss hD hp hs => ?_)
  rw [hk3] at hp
  have hss : ss = ABS := sorted_unique hs (by decide +kernel) (hp.trans F.keys)
  subst hss
  refine e_list ?_; refine a_cons rfl ?_; refine e_str ?_; refine a_cons rfl ?_; refine e_str ?_; refine a_cons rfl ?_; refine e_str ?_; refine a_nil ?_
  refine new_lst (show 3 ≤ sizeLine by decide) ?_
  skip
  refine ne_lists (n := 0) (xs := vStrs ABS) (ys := vStrs ABS) (.own (mset_self _ _ _)) (.lst _) (by decide +kernel) (by decide +kernel) (by decide) (cd.fit (by decide)) (fun b hb => ?_)
  rw [show b = true from hb.mpr rfl]
  refine tr_bool ?_
  first | refine only_f ?_ | refine ⟨fun hb => (by cases hb), fun _ => ?_⟩
  have hs1 : Sub m (mset m D (.list (vStrs ABS))) := sub_mset hD (sub_refl _)
  generalize mset m D (.list (vStrs ABS)) = m1 at hs1
  clear hs hp hD
  refine s_nil ?_; refine s_cons ?_; refine s_for (fun _ => rfl) ?_; refine e_list ?_; refine a_cons rfl ?_; refine e_str ?_; refine a_cons rfl ?_; refine e_str ?_; refine a_cons rfl ?_; refine e_str ?_; refine a_nil ?_
  refine new_lst (show 3 ≤ sizeLine by decide) ?_
  skip
  let J1 : Nat → Nat → Loc → Mem → Prop := P2U_J1 m ra fd id bd
  refine for_k (itr_lst cd.handled) J1 ?_ 3 ⟨rfl, rfl, hs1⟩
  clear hs1 m1
  rintro k i l m1 ⟨hk, hl, hs1⟩
  refine ⟨by unfold setItem_; simp, fun hn1 => ?_, fun v hv => ?_⟩
  · refine Tr.locs hl ?_
    refine s_nil ?_; refine s_cons ?_; refine s_ret ?_; refine e_bool ?_
    exact h _ _
  · have hv : (vStrs NAMES)[i]? = some v := Option.some.inj hv
    obtain ⟨x, hx, rfl⟩ : ∃ x ∈ NAMES, v = .str x := by
      have := List.mem_of_getElem? hv
      obtain ⟨x, hx, e⟩ := List.mem_map.mp this
      exact ⟨x, hx, e.symm⟩
    have hi : i < 3 := by rw [List.getElem?_eq_some_iff] at hv; exact hv.1
    refine Op.memS hs1 (Op.locs hl ?_)
    clear hs1 hl
    obtain ⟨ys1, y1, y2, y3, y4⟩ := F.fst x hx
    obtain ⟨ys2, z1, z2, z3, z4⟩ := F.fst2 x hx
    obtain ⟨ys, zs, w1, w2, w3, w4, w5, w6⟩ := F.fol x hx
    have hok := F.ok x hx
    have hxz := (syms_ok _ (names_syms _ hx)).2
    refine asg_name ?_; refine st_local rfl rfl ?_; (refine nameQ ?_; intro qq ee; refine s_cons ?_); refine s_assign rfl ?_; refine c_name rfl ?_; refine e_topG rfl rfl rfl rfl (by rw [hK]; rfl) ?_; refine c_top (by rw [hK]; rfl) rfl rfl ?_; refine a_cons rfl ?_; refine e_local rfl rfl rfl rfl ?_; refine a_cons rfl ?_; refine e_local rfl rfl rfl rfl ?_; refine a_nil ?_
    refine opening_spec hK (cd.mono (by decide) (by decide)) hra hP g I.nd I.hz hx (fun y hy => by
      obtain ⟨r, hr, e⟩ := I.all y hy
      rw [← hP] at hr
      obtain ⟨p, hp, rfl⟩ := List.mem_map.mp hr
      exact ⟨p, hp, e⟩) (fun D ss hD hs hn hm => ?_)
    have hs2 : Sub m (mset m D (.list (vStrs ss))) := sub_mset hD (sub_refl _)
    have hD1 : mset m D (.list (vStrs ss)) D = some (.list (vStrs ss)) := mset_self _ _ _
    generalize mset m D (.list (vStrs ss)) = m2 at hs2 hD1
    have hsok : (vStrs ss).all (isD 0) = true := isD_strs (List.all_eq_true.mpr fun y hy => hok y ((hm y).mp hy))
    refine st_local rfl rfl ?_; refine s_cons ?_; refine s_if ?_; refine b_bool ?_; refine b_or_cons ?_; refine b_cmp rfl ?_; refine c_name rfl ?_; refine e_boot rfl rfl rfl rfl rfl (by rw [hK]; rfl) rfl (by decide) ?_; refine c_builtin rfl rfl ?_; refine a_cons rfl ?_; refine e_sub (fun _ _ => rfl) ?_; refine e_local rfl rfl rfl rfl ?_; refine e_local rfl rfl rfl rfl ?_
    refine sub_dict (x := .ref (a2 x)) (hs2 _ _ t2) (by rw [getA_map fi (fun k => V.ref (a2 k)) x, if_pos (by rw [← lookup_contains, y1]; rfl)]) ?_
    refine a_nil ?_
    refine sorted_strs (.own (hs2 _ _ (l2 _ _ y1))) y3 (fun D2 ss2 hD2 hp2 hss2 => ?_)
    have e2 : ss2 = ss := sorted_unique hss2 hs (hp2.trans (perm_of_mem y2 hn fun f => (y4 f).trans (hm f).symm))
    subst e2
    have hs3 : Sub m2 (mset m2 D2 (.list (vStrs ss2))) := sub_mset hD2 (sub_refl _)
    have hD3 : mset m2 D2 (.list (vStrs ss2)) D2 = some (.list (vStrs ss2)) := mset_self _ _ _
    rw [show List.map V.str ss2 = vStrs ss2 from rfl]
    generalize mset m2 D2 (.list (vStrs ss2)) = m3 at hs3 hD3
    refine e_local rfl rfl rfl rfl ?_
    refine ne_lists (n := 0) (.own hD3) (.own (hs3 _ _ hD1)) hsok hsok (by decide) (cd.fit (by decide)) (fun b hb => ?_)
    rw [show b = true from hb.mpr rfl]
    refine tr_bool ?_
    first | refine only_t ?_ | refine ⟨fun _ => ?_, fun hb => (by cases hb)⟩
    refine b_or_cons ?_; refine b_cmp rfl ?_; refine c_name rfl ?_; refine e_boot rfl rfl rfl rfl rfl (by rw [hK]; rfl) rfl (by decide) ?_; refine c_builtin rfl rfl ?_; refine a_cons rfl ?_; refine e_sub (fun _ _ => rfl) ?_; refine e_local rfl rfl rfl rfl ?_; refine e_local rfl rfl rfl rfl ?_
    have hs4 : Sub m m3 := fun b x e => hs3 _ _ (hs2 _ _ e)
    have hD4 := hs3 _ _ hD1
    clear hs2 hs3 hD1 hD3 hp2 hss2 hb b
    refine sub_dict (x := .ref (a3 x)) (hs4 _ _ t3) (by rw [getA_map fi2 (fun k => V.ref (a3 k)) x, if_pos (by rw [← lookup_contains, z1]; rfl)]) ?_
    refine a_nil ?_
    refine sorted_strs (.own (hs4 _ _ (l3 _ _ z1))) z3 (fun D5 ss5 hD5 hp5 hss5 => ?_)
    have e5 : ss5 = ss2 := sorted_unique hss5 hs (hp5.trans (perm_of_mem z2 hn fun f => (z4 f).trans (hm f).symm))
    subst e5
    have hs5 : Sub m3 (mset m3 D5 (.list (vStrs ss5))) := sub_mset hD5 (sub_refl _)
    have hD6 : mset m3 D5 (.list (vStrs ss5)) D5 = some (.list (vStrs ss5)) := mset_self _ _ _
    rw [show List.map V.str ss5 = vStrs ss5 from rfl]
    generalize mset m3 D5 (.list (vStrs ss5)) = m5 at hs5 hD6
    refine e_local rfl rfl rfl rfl ?_
    refine ne_lists (n := 0) (.own hD6) (.own (hs5 _ _ hD4)) hsok hsok (by decide) (cd.fit (by decide)) (fun b hb => ?_)
    rw [show b = true from hb.mpr rfl]
    refine tr_bool ?_
    first | refine only_t ?_ | refine ⟨fun _ => ?_, fun hb => (by cases hb)⟩
    refine b_or_nil ?_
    first | refine only_f ?_ | refine ⟨fun hb => (by cases hb), fun _ => ?_⟩
    have hs6 : Sub m m5 := fun b x e => hs5 _ _ (hs4 _ _ e)
    clear hs4 hs5 hD4 hD6 hp5 hss5 hb b hsok hm hs hn
    refine s_nil ?_; refine s_cons ?_
    refine s_assign_listcomp (cl := []) rfl rfl (by decide) rfl (by decide) rfl rfl (fun _ => rfl) ?_
    refine e_sub (fun _ _ => rfl) ?_; refine e_local rfl rfl rfl rfl ?_; refine e_binop ?_; refine e_local rfl rfl rfl rfl ?_; refine e_str ?_
    refine add_ss (Nat.le_trans (show x.length + 1 ≤ 100 from (by show x.cps.size + 1 ≤ 100; omega)) (by decide)) ?_
    refine sub_dict (x := .ref (a3 (us x))) (hs6 _ _ t3) (by rw [getA_map fi2 (fun k => V.ref (a3 k)) _, if_pos (by rw [← lookup_contains]; show (fi2.lookup (us x)).isSome = true; rw [w2]; rfl)]; rfl) ?_
    have hzs : m5 (a3 (us x)) = some (.list (vStrs zs)) := hs6 _ _ (l3 _ _ w2)
    refine comp_map (itr_own cd.handled hzs) (vStrs zs) (fun m i hs hi => ownItem_eq (hs _ _ hzs)) (by rw [vStrs_len]; exact Nat.le_trans (Nat.le_of_lt w4) (by decide)) (fun v => match v with | .str c => some (.str (endMap c)) | _ => none) ?_ ?_
    · intro C outer' i v hv
      obtain ⟨t, ht, rfl⟩ := List.mem_map.mp (List.mem_of_getElem? hv)
      refine asg_name ?_; refine st_local rfl rfl ?_; refine e_ifexp ?_; refine b_cmp rfl ?_; refine e_local rfl rfl rfl rfl ?_; refine e_str ?_; refine eq_ss ?_; refine tr_bool ?_
      refine ⟨fun hb => ?_, fun hb => ?_⟩
      · have hb := of_decide_eq_true hb
        refine e_str ?_
        exact ⟨by show some (V.str "$end") = some (V.str (endMap t)); unfold endMap; rw [if_pos hb], sub_refl _⟩
      · have hb := of_decide_eq_false hb
        refine e_local rfl rfl rfl rfl ?_
        exact ⟨by show some (V.str t) = some (V.str (endMap t)); unfold endMap; rw [if_neg hb], sub_refl _⟩
    · intro D7 hD7
      have e7 : (vStrs zs).filterMap (fun v => match v with | .str c => some (V.str (endMap c)) | _ => none) = vStrs (zs.map endMap) := by
        unfold vStrs; rw [List.filterMap_map, List.map_map, ← List.filterMap_eq_map]; rfl
      rw [e7]
      have hs8 : Sub m (mset m5 D7 (.list (vStrs (zs.map endMap)))) := fun b x e => by rw [mset_ne (fun q => by rw [q] at e; rw [hs6 _ _ e] at hD7; cases hD7)]; exact hs6 _ _ e
      have hD8 : mset m5 D7 (.list (vStrs (zs.map endMap))) D7 = some (.list (vStrs (zs.map endMap))) := mset_self _ _ _
      generalize mset m5 D7 (.list (vStrs (zs.map endMap))) = m8 at hs8 hD8
      clear hs6 hzs hD7 e7
      refine s_cons ?_; refine s_if ?_; refine b_cmp rfl ?_; refine c_name rfl ?_; refine e_boot rfl rfl rfl rfl rfl (by rw [hK]; rfl) rfl (by decide) ?_; refine c_builtin rfl rfl ?_; refine a_cons rfl ?_; refine e_sub (fun _ _ => rfl) ?_; refine e_local rfl rfl rfl rfl ?_; refine e_local rfl rfl rfl rfl ?_
      refine sub_dict (x := .ref (a1 x)) (hs8 _ _ t1) (by rw [getA_map fo (fun k => V.ref (a1 k)) x, if_pos (by rw [← lookup_contains, w1]; rfl)]) ?_
      refine a_nil ?_
      refine sorted_strs (.own (hs8 _ _ (l1 _ _ w1))) w3 (fun D9 s9 hD9 hp9 hss9 => ?_)
      have hs9 : Sub m8 (mset m8 D9 (.list (vStrs s9))) := sub_mset hD9 (sub_refl _)
      have hD10 : mset m8 D9 (.list (vStrs s9)) D9 = some (.list (vStrs s9)) := mset_self _ _ _
      rw [show List.map V.str s9 = vStrs s9 from rfl]
      generalize mset m8 D9 (.list (vStrs s9)) = m9 at hs9 hD10
      refine c_name rfl ?_; refine e_boot rfl rfl rfl rfl rfl (by rw [hK]; rfl) rfl (by decide) ?_; refine c_builtin rfl rfl ?_; refine a_cons rfl ?_; refine e_local rfl rfl rfl rfl ?_; refine a_nil ?_
      refine sorted_strs (ss := zs.map endMap) (.own (hs9 _ _ hD8)) (by rw [List.length_map]; exact w4) (fun D11 s11 hD11 hp11 hss11 => ?_)
      have e11 : s11 = s9 := sorted_unique hss11 hss9 (hp11.trans (w5.symm.trans hp9.symm))
      subst e11
      have hsok : (vStrs s11).all (isD 0) = true := isD_strs (List.all_eq_true.mpr fun y hy => w6 y (hp9.mem_iff.mp hy))
      have hs11 : Sub m9 (mset m9 D11 (.list (vStrs s11))) := sub_mset hD11 (sub_refl _)
      have hD12 : mset m9 D11 (.list (vStrs s11)) D11 = some (.list (vStrs s11)) := mset_self _ _ _
      rw [show List.map V.str s11 = vStrs s11 from rfl]
      generalize mset m9 D11 (.list (vStrs s11)) = m11 at hs11 hD12
      skip
      refine ne_lists (n := 0) (.own (hs11 _ _ hD10)) (.own hD12) hsok hsok (by decide) (cd.fit (by decide)) (fun b hb => ?_)
      rw [show b = true from hb.mpr rfl]
      refine tr_bool ?_
      first | refine only_f ?_ | refine ⟨fun hb => (by cases hb), fun _ => ?_⟩
      refine s_nil ?_; refine s_nil ?_
      exact ⟨k - 1, by omega, by omega, rfl, fun b x e => hs11 _ _ (hs9 _ _ (hs8 _ _ e))⟩
end
end Mine
end
section
set_option autoImplicit false
namespace Mine
noncomputable def ts1 : List Str := ["a", "b", "c"]
noncomputable def ts2 : List Str := ["a", "b", "c", "end"]
noncomputable abbrev lg (ts : List Str) (up : V) (R : List Rule) (st : Str) : GR := startG aProd (madeG ts up R) st
structure MadeOk (ts : List Str) (R : List Rule) (st : Str) : Prop where
  hz : ts.length ≤ 100
  hnd : ts.Nodup
  he : ("error" : Str) ∉ ts
  hR : ∀ r ∈ R, SymOk r.1 ∧ r.1 ∉ ts ++ [("error" : Str)] ∧ r.2.length ≤ 20 ∧ ∀ y ∈ r.2, SymOk y
  hRz : R.length ≤ 500
  hRd : R.Nodup
  hmi : ∀ r ∈ R, ∀ q ∈ R, mapText r.1 r.2 = mapText q.1 q.2 → r = q
  hst : SymOk st
  hstn : ∃ r ∈ R, st = r.1
  wf : ∀ up, GWf (lg ts up R st)
  fi : ∀ up, (lg ts up R st).fi = []
  fo : ∀ up, (lg ts up R st).fo = []
  stn : ∀ up, st ∈ NN (lg ts up R st)
theorem tell_fi {adr : Rl → Addr} {cc : Rl → Option AObj} {gm m : Mem} {g : GR} (M : MemIs adr cc gm) (ok : GOk aGrammar aProd adr cc g) (s : Sub gm m) : Tell m (adr .fi) g.fi := by
  obtain ⟨ep, e⟩ := ok.fi
  refine ⟨fun k => adr (.fiL k), ep, s _ _ (M.get e), fun k ys q => s _ _ (M.get ?_)⟩
  rw [ok.fiL, q]; rfl
theorem tell_fo {adr : Rl → Addr} {cc : Rl → Option AObj} {gm m : Mem} {g : GR} (M : MemIs adr cc gm) (ok : GOk aGrammar aProd adr cc g) (s : Sub gm m) : Tell m (adr .fo) g.fo := by
  obtain ⟨ep, e⟩ := ok.fo
  refine ⟨fun k => adr (.foL k), ep, s _ _ (M.get e), fun k ys q => s _ _ (M.get ?_)⟩
  rw [ok.foL, q]; rfl
section
variable {W : Wd} {A : Around} {env : Env} {outer : Outs} {loc : Loc} {m : Mem} {E : Ex W}
theorem Meth.memS {name : Str} {pl : Sem Bool} {pos : Pos} {args : List PySem.Expr} {v : V} {Q : V → Loc → Mem → Prop} {mem' : Mem} (hm : Sub mem' m) (h : Meth W A env outer name pl pos args v loc mem' Q E) : Meth W A env outer name pl pos args v loc m Q E :=
  fun R F s v' S r => h R F s v' (S.drop hm) r
theorem law_b {L ra : Addr} {R : List Rule} {st : Str} {Q : Fl → Loc → Mem → Prop} (hK : W.K = hdK W.w.params) (cd : Calm A 310 2000) (hf : Fits A (lwE L) outer) (I : LawR R) (hst : st ∈ NAMES) (hra0 : m ra = some (.list (R.map ruleV)))
    (K1 : MadeOk ts1 R st) (K2 : MadeOk ts2 (lawTails R st ++ R) st) (hl : LSub [("start", .str st), ("rules", .ref ra)] loc)
    (h : ∀ loc m fd id bd up1 up2 fo fi fi2, Tell m fd fo → Tell m id fi → Tell m bd fi2 → m ra = some (.list (R.map ruleV)) → LSub [("rules", .ref ra), ("follow", .ref fd), ("first", .ref id), ("behind", .ref bd)] loc →
      FiOk (lg ts1 up1 R st) fi → (∀ p ∈ (lg ts1 up1 R st).prods, Closed (lg ts1 up1 R st) fi p) → FoOk (lg ts1 up1 R st) st fo → (∀ p ∈ (lg ts1 up1 R st).prods, ∀ i, FoCl (lg ts1 up1 R st) fi fo p i) →
      FiOk (lg ts2 up2 (lawTails R st ++ R) st) fi2 → (∀ p ∈ (lg ts2 up2 (lawTails R st ++ R) st).prods, Closed (lg ts2 up2 (lawTails R st ++ R) st) fi2 p) → TrS W A (lwE L) outer (execs (lLaw.body.drop 11) (lwE L)) loc m Q E) :
    TrS W A (lwE L) outer (execs (lLaw.body.drop 6) (lwE L)) loc m Q E := by
  refine Tr.memS (mem' := mset mno ra (.list (R.map ruleV))) (fun b x e => ?_) (Tr.locs hl ?_)
  · by_cases q : b = ra
    · subst q; rw [mset_self] at e; rw [hra0]; exact e
    · rw [mset_ne q] at e; cases e
  clear hra0 hl
  have hra : mset mno ra (.list (R.map ruleV)) ra = some (.list (R.map ruleV)) := mset_self _ _ _
  refine s_cons ?_; refine s_assign rfl ?_; refine c_name rfl ?_; refine e_topG rfl rfl rfl rfl (by rw [hK]; rfl) ?_; refine c_top (by rw [hK]; rfl) rfl rfl ?_; refine a_cons rfl ?_; refine e_list ?_; refine a_cons rfl ?_; refine e_str ?_; refine a_cons rfl ?_; refine e_str ?_; refine a_cons rfl ?_; refine e_str ?_; refine a_nil ?_
  refine new_lst (show 3 ≤ sizeLine by decide) ?_
  refine a_cons rfl ?_; refine e_local rfl rfl rfl rfl ?_; refine a_cons rfl ?_; refine e_local rfl rfl rfl rfl ?_; refine a_nil ?_
  refine made_spec (ts := ts1) hK (cd.mono (by decide) (by decide)) hf hra K1.hz K1.hnd K1.he K1.hR K1.hRz K1.hRd K1.hmi K1.hst K1.hstn (fun a1 gm1 up1 G1 d1 => ?_)
  refine st_local rfl rfl ?_; refine s_cons ?_; refine s_assign rfl ?_; refine c_name rfl ?_; refine e_topG rfl rfl rfl rfl (by rw [hK]; rfl) ?_; refine c_top (by rw [hK]; rfl) rfl rfl ?_; refine a_cons rfl ?_; refine e_list ?_; refine a_cons rfl ?_; refine e_str ?_; refine a_cons rfl ?_; refine e_str ?_; refine a_cons rfl ?_; refine e_str ?_; refine a_cons rfl ?_; refine e_str ?_; refine a_nil ?_
  refine new_lst (show 4 ≤ sizeLine by decide) ?_
  refine a_cons rfl ?_; refine e_binop ?_; refine c_name rfl ?_; refine e_topG rfl rfl rfl rfl (by rw [hK]; rfl) ?_; refine c_top (by rw [hK]; rfl) rfl rfl ?_; refine a_cons rfl ?_; refine e_local rfl rfl rfl rfl ?_; refine a_cons rfl ?_; refine e_local rfl rfl rfl rfl ?_; refine a_nil ?_
  have hra1 : mun gm1 (mset mno ra (.list (R.map ruleV))) ra = some (.list (R.map ruleV)) := by
    rw [mun_r]
    · exact hra
    · cases q : gm1 ra with
      | none => rfl
      | some y => rw [d1 _ _ q] at hra; cases hra
  refine tails_spec hK (cd.mono (by decide) (by decide)) hra1 I.ok (Nat.le_trans I.hz (by decide)) hst (fun tb htb => ?_)
  refine e_local rfl rfl rfl rfl ?_
  have htl := foldTails I.ok (T := tails0 st) (tails0_ok hst)
  have htz : (lawTails R st).length ≤ 54 := by
    have h1 := htl.2
    have h2 := I.hz
    have h3 : (tails0 st).length = 4 := rfl
    unfold lawTails; omega
  have hra2 : mset (mun gm1 (mset mno ra (.list (R.map ruleV)))) tb (.list ((lawTails R st).map ruleV)) ra = some (.list (R.map ruleV)) := by
    rw [mset_ne (nex hra1 htb)]; exact hra1
  refine add_own (.own (mset_self _ _ _)) (.own hra2) (by rw [List.length_map, List.length_map]; exact Nat.le_trans (show _ ≤ 60 from by have := I.hz; omega) (by decide)) (fun tc htc => ?_)
  rw [← List.map_append]
  refine a_cons rfl ?_; refine e_local rfl rfl rfl rfl ?_; refine a_nil ?_
  refine made_spec (ts := ts2) hK (cd.mono (by decide) (by decide)) hf (mset_self _ _ _) K2.hz K2.hnd K2.he K2.hR K2.hRz K2.hRd K2.hmi K2.hst K2.hstn (fun a2 gm2 up2 G2 d2 => ?_)
  -- two grammars, and the rules
  have d12 : ∀ b x, gm1 b = some x → gm2 b = none := fun b x e => by
    cases q : gm2 b with
    | none => rfl
    | some y =>
      have := d2 b y q
      by_cases z : b = tc
      · subst z; rw [mset_self] at this; cases this
      · rw [mset_ne z] at this
        by_cases z2 : b = tb
        · subst z2; rw [mset_self] at this; cases this
        · rw [mset_ne z2, mun_l e] at this; cases this
  have d2r : gm2 ra = none := by
    cases q : gm2 ra with
    | none => rfl
    | some y =>
      have := d2 ra y q
      by_cases z : ra = tc
      · subst z; rw [mset_self] at this; cases this
      · rw [mset_ne z, hra2] at this; cases this
  have d1r : gm1 ra = none := by
    cases q : gm1 ra with
    | none => rfl
    | some y => rw [d1 _ _ q] at hra; cases hra
  obtain ⟨R0, hR0⟩ : ∃ R0, R0 = mset mno ra (.list (R.map ruleV)) := ⟨_, rfl⟩
  have only : ∀ b x, R0 b = some x → b = ra := fun b x e => by
    by_cases q : b = ra
    · exact q
    · rw [hR0, mset_ne q] at e; cases e
  have hR0r : R0 ra = some (.list (R.map ruleV)) := by rw [hR0]; exact hra
  refine Op.memS (mem' := mun gm1 (mun gm2 R0)) (fun b x e => ?_) ?_
  · by_cases q : b = ra
    · subst q
      rw [mun_r d1r, mun_r d2r, hR0r] at e
      rw [mun_r d2r]
      by_cases z : b = tc
      · subst z; rw [mset_ne (nex hra1 htb), hra1] at htc; cases htc
      · rw [mset_ne z, hra2]; exact e
    · cases q1 : gm1 b with
      | some y =>
        rw [mun_l q1] at e
        rw [mun_r (d12 b y q1)]
        have e1 : mun gm1 (mset mno ra (.list (R.map ruleV))) b = some y := mun_l q1
        have z2 : b ≠ tb := fun q => by rw [q] at e1; rw [e1] at htb; cases htb
        have z1 : b ≠ tc := fun q => by rw [q] at e1 z2; rw [mset_ne z2, e1] at htc; cases htc
        rw [mset_ne z1, mset_ne z2, e1]; exact e
      | none =>
        rw [mun_r q1] at e
        cases q2 : gm2 b with
        | some y => rw [mun_l q2] at e ⊢; exact e
        | none => rw [mun_r q2] at e; exact absurd (only _ _ e) q
  have D1 : Dis gm1 (mun gm2 R0) := fun b x e => by
    rw [mun_r (d12 b x e)]
    cases q : R0 b with
    | none => rfl
    | some y => rw [only _ _ q, d1r] at e; cases e
  clear htb htc hra1 hra2 htl htz d1 d2 hra
  refine st_local rfl rfl ?_; refine s_cons ?_; refine s_assign rfl ?_; refine c_meth rfl ?_; refine e_local rfl rfl rfl rfl ?_
  obtain ⟨adr, cc, M, ok, ea⟩ := id G1
  obtain ⟨epd, hdict⟩ := ok.dict
  have hx := mun_l (R := mun gm2 R0) (M.get ok.self)
  have hd := mun_l (R := mun gm2 R0) (M.get hdict)
  rw [ea] at hx
  refine m_own (.own hx hd) (by rw [hK]; first | rfl | kernel_rfl | decide +kernel) (by rw [hK]; first | rfl | kernel_rfl | decide +kernel) (by rw [hK]; first | rfl | kernel_rfl | decide +kernel) rfl (by rw [hK]; first | rfl | kernel_rfl | decide +kernel) rfl rfl ?_
  clear hx hd hdict epd M ok ea adr cc
  refine a_cons rfl ?_; refine e_local rfl rfl rfl rfl ?_; refine a_nil ?_
  refine Op.frame (Q := fun v l m => l = _ ∧ ∃ adr cc fi fo, v = .ref (adr .fo) ∧ MemIs adr cc m ∧ GOk aGrammar aProd adr cc { lg ts1 up1 R st with fi := fi, fo := fo } ∧ adr .self = a1 ∧ FiOk (lg ts1 up1 R st) fi ∧ (∀ p ∈ (lg ts1 up1 R st).prods, Closed (lg ts1 up1 R st) fi p) ∧ FoOk (lg ts1 up1 R st) st fo ∧ (∀ p ∈ (lg ts1 up1 R st).prods, ∀ i, FoCl (lg ts1 up1 R st) fi fo p i)) D1
    (cfo_spec hK (cd.mono (by decide) (by decide)) G1 (K1.wf up1) (K1.fi up1) (K1.fo up1) (K1.stn up1) K1.hst.pos K1.hst.size (fun m adr cc fi fo M ok e k1 k2 k3 k4 => ⟨rfl, adr, cc, fi, fo, rfl, M, ok, e, k1, k2, k3, k4⟩)) ?_
  rintro v l gm3 D3 ⟨rfl, adr, cc, fi, fo, rfl, M, ok, ea, F1, F2, F3, F4⟩
  clear D1 G1 d12 d1r
  obtain ⟨epd, hdict⟩ := ok.dict
  have hx := mun_l (R := mun gm2 R0) (M.get ok.self)
  have hd := mun_l (R := mun gm2 R0) (M.get hdict)
  rw [ea] at hx
  refine st_local rfl rfl ?_; refine s_cons ?_; refine s_assign rfl ?_; refine c_meth rfl ?_; refine e_local rfl rfl rfl rfl ?_
  refine m_own0 (.own hx hd) (by rw [hK]; first | rfl | kernel_rfl | decide +kernel) (by rw [hK]; first | rfl | kernel_rfl | decide +kernel) (by rw [hK]; first | rfl | kernel_rfl | decide +kernel) rfl (by rw [hK]; first | rfl | kernel_rfl | decide +kernel) ?_
  clear hx hd hdict epd
  have hfn : fi ≠ [] := fun e => by
    have := F1.keys
    rw [e] at this
    have h2 : dend ∈ TT (lg ts1 up1 R st) ++ NN (lg ts1 up1 R st) := List.mem_append_left _ (dend_in _)
    rw [← this] at h2; cases h2
  have hfz : fi.length ≤ 1000 := by
    have := congrArg List.length F1.keys
    rw [List.length_map, List.length_append] at this
    have h1 := (K1.wf up1).tz
    have h2 := (K1.wf up1).nz
    have e1 : (TT (lg ts1 up1 R st)).length = (lg ts1 up1 R st).te.length + 1 := by simp [TT]
    have e2 : (NN (lg ts1 up1 R st)).length = (lg ts1 up1 R st).no.length := by simp [NN]
    omega
  rw [← ea]
  refine Op.frame (Q := fun v l m => l = _ ∧ v = .ref (adr .fi) ∧ gm3 = m) D3 (cf_again hK (cd.mono (by decide) (by decide)) M ok hfn hfz ⟨rfl, rfl, rfl⟩) ?_
  rintro v l _ _ ⟨rfl, rfl, rfl⟩
  refine st_local rfl rfl ?_; refine s_cons ?_; refine s_assign rfl ?_; refine c_meth rfl ?_; refine e_local rfl rfl rfl rfl ?_
  have D4 : Dis gm2 (mun gm3 R0) := fun b x e => by
    cases q : gm3 b with
    | some y => have := D3 b y q; rw [mun_l e] at this; cases this
    | none =>
      rw [mun_r q]
      cases q2 : R0 b with
      | none => rfl
      | some y => rw [only _ _ q2, d2r] at e; cases e
  refine Meth.memS (mem' := mun gm2 (mun gm3 R0)) (fun b x e => ?_) ?_
  · cases q2 : gm2 b with
    | some y =>
      rw [mun_l q2] at e
      rw [mun_r, mun_l q2]; exact e
      cases q3 : gm3 b with
      | none => rfl
      | some z => have := D3 b z q3; rw [mun_l q2] at this; cases this
    | none =>
      rw [mun_r q2] at e
      cases q3 : gm3 b with
      | some z => rw [mun_l q3] at e ⊢; exact e
      | none => rw [mun_r q3] at e ⊢; rw [mun_r q2]; exact e
  obtain ⟨adr2, cc2, M2, ok2, ea2⟩ := id G2
  obtain ⟨epd, hdict⟩ := ok2.dict
  have hx := mun_l (R := mun gm3 R0) (M2.get ok2.self)
  have hd := mun_l (R := mun gm3 R0) (M2.get hdict)
  rw [ea2] at hx
  refine m_own0 (.own hx hd) (by rw [hK]; first | rfl | kernel_rfl | decide +kernel) (by rw [hK]; first | rfl | kernel_rfl | decide +kernel) (by rw [hK]; first | rfl | kernel_rfl | decide +kernel) rfl (by rw [hK]; first | rfl | kernel_rfl | decide +kernel) ?_
  clear hx hd hdict epd M2 ok2 ea2 adr2 cc2
  refine Op.frame (Q := fun v l m => l = _ ∧ ∃ adr cc fi, v = .ref (adr .fi) ∧ MemIs adr cc m ∧ GOk aGrammar aProd adr cc { lg ts2 up2 (lawTails R st ++ R) st with fi := fi } ∧ FiOk (lg ts2 up2 (lawTails R st ++ R) st) fi ∧ (∀ p ∈ (lg ts2 up2 (lawTails R st ++ R) st).prods, Closed (lg ts2 up2 (lawTails R st ++ R) st) fi p)) D4
    (cf_spec hK (cd.mono (by decide) (by decide)) G2 (K2.wf up2) (K2.fi up2) (fun m adr cc fi M ok e k1 k2 => ⟨rfl, adr, cc, fi, rfl, M, ok, k1, k2⟩)) ?_
  rintro v l gm4 D5 ⟨rfl, adr2, cc2, fi2, rfl, M2, ok2, F5, F6⟩
  have hin : ∀ {b x}, mun gm3 R0 b = some x → mun gm4 (mun gm3 R0) b = some x := fun {b x} e => by
    rw [mun_r]
    · exact e
    · cases q : gm4 b with
      | none => rfl
      | some y => have := D5 b y q; rw [e] at this; cases this
  have h3r : gm3 ra = none := by
    cases q : gm3 ra with
    | none => rfl
    | some y => have := D3 ra y q; rw [mun_r d2r, hR0r] at this; cases this
  have hs3 : Sub gm3 (mun gm4 (mun gm3 R0)) := fun b x e => hin (mun_l e)
  refine st_local rfl rfl ?_
  refine h _ _ (adr .fo) (adr .fi) (adr2 .fi) up1 up2 fo fi fi2 (tell_fo M ok hs3) (tell_fi M ok hs3) (tell_fi M2 ok2 (fun b x e => mun_l e)) (hin (by rw [mun_r h3r]; exact hR0r)) (rfl) F1 F2 F3 F4 F5 F6
end
end Mine
end
section
set_option autoImplicit false
namespace Mine
theorem cut_at {c : Nat} : ∀ {a b x y : List Nat}, c ∉ a → c ∉ b → a ++ c :: x = b ++ c :: y → a = b ∧ x = y
  | [], [], x, y, _, _, h => by simp at h; exact ⟨rfl, h⟩
  | [], d :: b, x, y, _, hb, h => by simp at h; exact absurd (.head _) (h.1 ▸ hb)
  | d :: a, [], x, y, ha, _, h => by simp at h; exact absurd (.head _) (h.1 ▸ ha)
  | d :: a, e :: b, x, y, ha, hb, h => by
    simp only [List.cons_append, List.cons.injEq] at h
    obtain ⟨rfl, h⟩ := h
    obtain ⟨rfl, h2⟩ := cut_at (fun q => ha (.tail _ q)) (fun q => hb (.tail _ q)) h
    exact ⟨rfl, h2⟩
noncomputable def joinL : List (List Nat) → List Nat
  | [] => []
  | [x] => x
  | x :: y :: r => x ++ 44 :: 32 :: joinL (y :: r)
noncomputable def quo (s : List Nat) : List Nat := 39 :: s ++ [39]
theorem joinL_inj : ∀ {a b : List (List Nat)}, (∀ x ∈ a, 39 ∉ x) → (∀ x ∈ b, 39 ∉ x) → joinL (a.map quo) ++ [93] = joinL (b.map quo) ++ [93] → a = b
  | [], [], _, _, _ => rfl
  | [], [y], _, _, h => by simp [joinL, quo] at h
  | [], y :: z :: b, _, _, h => by simp [joinL, quo] at h
  | [x], [], _, _, h => by simp [joinL, quo] at h
  | x :: z :: a, [], _, _, h => by simp [joinL, quo] at h
  | [x], [y], ha, hb, h => by
    simp only [List.map_cons, List.map_nil, joinL, quo, List.cons_append, List.cons.injEq, true_and, List.append_assoc, List.nil_append] at h
    obtain ⟨rfl, _⟩ := cut_at (ha x (.head _)) (hb y (.head _)) h
    rfl
  | [x], y :: z :: b, ha, hb, h => by
    simp only [List.map_cons, List.map_nil, joinL, quo, List.cons_append, List.cons.injEq, true_and, List.append_assoc, List.nil_append] at h
    obtain ⟨_, h2⟩ := cut_at (ha x (.head _)) (hb y (.head _)) h
    simp at h2
  | x :: z :: a, [y], ha, hb, h => by
    simp only [List.map_cons, List.map_nil, joinL, quo, List.cons_append, List.cons.injEq, true_and, List.append_assoc, List.nil_append] at h
    obtain ⟨_, h2⟩ := cut_at (ha x (.head _)) (hb y (.head _)) h
    simp at h2
  | x :: z :: a, y :: w :: b, ha, hb, h => by
    simp only [List.map_cons, joinL] at h
    unfold quo at h
    simp only [List.cons_append, List.cons.injEq, true_and, List.append_assoc, List.nil_append] at h
    obtain ⟨rfl, h2⟩ := cut_at (ha x (.head _)) (hb y (.head _)) h
    simp only [List.cons.injEq, true_and] at h2
    have := joinL_inj (a := z :: a) (b := w :: b) (fun x hx => ha x (.tail _ hx)) (fun x hx => hb x (.tail _ hx)) h2
    rw [this]
theorem cps_append (a b : Str) : (a ++ b).cps.toList = a.cps.toList ++ b.cps.toList := Array.toList_append
theorem syms_shown : ∀ s ∈ SYMS, (PyData.str s).shown.cps.toList = quo s.cps.toList ∧ 39 ∉ s.cps.toList ∧ 32 ∉ s.cps.toList := by decide +kernel
theorem join_cps : ∀ (ys : List Str), (∀ y ∈ ys, y ∈ SYMS) → (Str.join ", " (PyData.shownAll (ys.map .str))).cps.toList = joinL ((ys.map fun s => s.cps.toList).map quo)
  | [], _ => rfl
  | [y], h => by
    show ((PyData.str y).shown).cps.toList = quo y.cps.toList
    exact (syms_shown y (h y (.head _))).1
  | y :: z :: ys, h => by
    have ih := join_cps (z :: ys) fun x hx => h x (.tail _ hx)
    show ((PyData.str y).shown ++ (", " : Str) ++ Str.join ", " (PyData.shownAll ((z :: ys).map .str))).cps.toList = quo y.cps.toList ++ 44 :: 32 :: joinL (((z :: ys).map fun s => s.cps.toList).map quo)
    rw [cps_append, cps_append, (syms_shown y (h y (.head _))).1, ih, List.append_assoc]
    congr 1
theorem str_ext {a b : Str} (h : a.cps.toList = b.cps.toList) : a = b := by
  cases a; cases b
  exact congrArg Str.mk (Array.toList_inj.mp h)
theorem mapText_inj {r q : Rule} (hr : RuleOk r) (hq : RuleOk q) (h : mapText r.1 r.2 = mapText q.1 q.2) : r = q := by
  have e : ∀ {r : Rule}, RuleOk r → (mapText r.1 r.2).cps.toList = r.1.cps.toList ++ 32 :: 45 :: 62 :: 32 :: 91 :: (joinL ((r.2.map fun s => s.cps.toList).map quo) ++ [93]) := fun {r} hr => by
    unfold mapText
    rw [PyData.shown_list, cps_append, cps_append, cps_append, cps_append, join_cps _ hr.body]
    have e1 : (" -> " : Str).cps.toList = [32, 45, 62, 32] := by decide +kernel
    have e2 : ("[" : Str).cps.toList = [91] := by decide +kernel
    have e3 : ("]" : Str).cps.toList = [93] := by decide +kernel
    rw [e1, e2, e3]
    simp
  have h := congrArg (fun s : Str => s.cps.toList) h
  rw [e hr, e hq] at h
  obtain ⟨h1, h2⟩ := cut_at (syms_shown _ hr.left).2.2 (syms_shown _ hq.left).2.2 h
  simp only [List.cons.injEq, true_and] at h2
  have h3 := joinL_inj (fun x hx => by obtain ⟨s, hs, rfl⟩ := List.mem_map.mp hx; exact (syms_shown s (hr.body s hs)).2.1) (fun x hx => by obtain ⟨s, hs, rfl⟩ := List.mem_map.mp hx; exact (syms_shown s (hq.body s hs)).2.1) h2
  obtain ⟨l, b⟩ := r
  obtain ⟨l2, b2⟩ := q
  have h4 : b = b2 := (List.map_inj_right (fun x y e => str_ext e)).mp h3
  rw [show l = l2 from str_ext h1, h4]
end Mine
end
section
set_option autoImplicit false
namespace Mine
theorem syms_ident : ∀ s ∈ SYMS, (0 < s.cps.size ∧ s.cps.size ≤ 100 ∧ PyData.strOk s = true) ∧ isIdent s = true ∧ (∀ c ∈ s.cps[0]?, strIn ⟨#[c]⟩ "'\"" = false) ∧ s ≠ "%prec" := by decide +kernel
theorem symOk_of {s : Str} (h : s ∈ SYMS) : SymOk s := by
  obtain ⟨⟨a, b, c⟩, d, e, f⟩ := syms_ident s h
  exact ⟨a, b, c, d, fun x hx => e x hx, f⟩
structure TsOk (ts : List Str) : Prop where
  z : ts.length ≤ 99
  nd : ts.Nodup
  er : ("error" : Str) ∉ ts
  de : dend ∉ ts
  ok : ∀ t ∈ ts, PyData.strOk t = true ∧ t ≠ eps
theorem ts1_ok : TsOk ts1 := ⟨by decide, by decide +kernel, by decide +kernel, by decide +kernel, by decide +kernel⟩
theorem ts2_ok : TsOk ts2 := ⟨by decide, by decide +kernel, by decide +kernel, by decide +kernel, by decide +kernel⟩
theorem err_ok : PyData.strOk ("error" : Str) = true ∧ ("error" : Str) ≠ dend ∧ ("error" : Str) ≠ eps ∧ PyData.strOk dend = true ∧ dend ≠ eps ∧ dend ∉ SYMS ∧ ("error" : Str) ∉ SYMS := by decide +kernel
structure MadePre (ts : List Str) (R : List Rule) (st : Str) : Prop where
  tk : TsOk ts
  ok : ∀ r ∈ R, RuleOk r
  left : ∀ r ∈ R, r.1 ∉ ts
  z : R.length ≤ 60
  nd : R.Nodup
  all : ∀ r ∈ R, ∀ y ∈ r.2, y ∈ ts ∨ ∃ q ∈ R, q.1 = y
  hs : ∃ r ∈ R, st = r.1
section
variable {ts : List Str} {R : List Rule} {st : Str}
theorem MadePre.inv (P : MadePre ts R st) (up : V) : MadeInv ts R (madeG ts up R) := MadeInv.all R fun r hr => ⟨fun h => by
  rcases List.mem_append.mp h with h | h
  · exact P.left r hr h
  · rw [List.mem_singleton] at h; exact err_ok.2.2.2.2.2.2 (h ▸ (P.ok r hr).left), (P.ok r hr).len⟩
theorem lg_no (up : V) : NN (lg ts up R st) = (madeG ts up R).no.map (·.1) := by
  show (pushL (madeG ts up R).no st 0).map (·.1) = _
  exact pushL_keys _ _ _
theorem MadePre.tt (P : MadePre ts R st) (up : V) : TT (lg ts up R st) = ts ++ [("error" : Str)] ++ [dend] := by
  show (madeG ts up R).te.map (·.1) ++ [dend] = _
  rw [(P.inv up).te]
theorem MadePre.nn (P : MadePre ts R st) (up : V) (n : Str) : n ∈ NN (lg ts up R st) ↔ ∃ r ∈ R, n = r.1 := by
  rw [lg_no, (P.inv up).no]
  constructor
  · rintro ⟨r, hr, rfl | ⟨h1, h2⟩⟩
    · exact ⟨r, hr, rfl⟩
    · rcases P.all r hr n h1 with h | ⟨q, hq, e⟩
      · exact absurd (List.mem_append_left _ h) h2
      · exact ⟨q, hq, e.symm⟩
  · rintro ⟨r, hr, e⟩; exact ⟨r, hr, .inl e⟩
theorem MadePre.pm (P : MadePre ts R st) (up : V) {p : Pr} (h : p ∈ (lg ts up R st).prods) : (p.name, p.body) ∈ R := by
  have : (p.name, p.body) ∈ (madeG ts up R).prods.map fun p => (p.name, p.body) := List.mem_map.mpr ⟨p, h, rfl⟩
  rw [(P.inv up).prods] at this; exact this
theorem MadePre.made (P : MadePre ts R st) : MadeOk ts R st where
  hz := Nat.le_trans P.tk.z (by decide)
  hnd := P.tk.nd
  he := P.tk.er
  hR := fun r hr => ⟨symOk_of (P.ok r hr).left, fun h => by
    rcases List.mem_append.mp h with h | h
    · exact P.left r hr h
    · rw [List.mem_singleton] at h; exact err_ok.2.2.2.2.2.2 (h ▸ (P.ok r hr).left), (P.ok r hr).len, fun y hy => symOk_of ((P.ok r hr).body y hy)⟩
  hRz := Nat.le_trans P.z (by decide)
  hRd := P.nd
  hmi := fun r hr q hq e => mapText_inj (P.ok r hr) (P.ok q hq) e
  hst := by obtain ⟨r, hr, e⟩ := P.hs; rw [e]; exact symOk_of (P.ok r hr).left
  hstn := P.hs
  fi := fun up => (P.inv up).fi
  fo := fun up => (P.inv up).fo
  stn := fun up => (P.nn up st).mpr P.hs
  wf := fun up => {
    nodup := by
      rw [P.tt up, List.nodup_append]
      refine ⟨?_, by rw [lg_no]; exact (P.inv up).nod, fun a ha b hb e => ?_⟩
      · rw [List.nodup_append, List.nodup_append]
        refine ⟨⟨P.tk.nd, by simp, fun a ha b hb e => by rw [List.mem_singleton] at hb; subst hb; exact P.tk.er (e ▸ ha)⟩, by simp, fun a ha b hb e => ?_⟩
        rw [List.mem_singleton] at hb; subst hb
        rcases List.mem_append.mp ha with h | h
        · exact P.tk.de (e ▸ h)
        · rw [List.mem_singleton] at h; exact err_ok.2.1 (h.symm.trans e)
      · obtain ⟨r, hr, e2⟩ := (P.nn up b).mp hb
        rcases List.mem_append.mp ha with h | h
        · rcases List.mem_append.mp h with h | h
          · exact P.left r hr (e2 ▸ e ▸ h)
          · rw [List.mem_singleton] at h; exact err_ok.2.2.2.2.2.2 (h ▸ e ▸ e2 ▸ (P.ok r hr).left)
        · rw [List.mem_singleton] at h; exact err_ok.2.2.2.2.2.1 (h ▸ e ▸ e2 ▸ (P.ok r hr).left)
    tok := fun t ht => by
      rw [P.tt up] at ht
      rcases List.mem_append.mp ht with h | h
      · rcases List.mem_append.mp h with h | h
        · exact (P.tk.ok t h).1
        · rw [List.mem_singleton] at h; rw [h]; exact err_ok.1
      · rw [List.mem_singleton] at h; rw [h]; exact err_ok.2.2.2.1
    noeps := fun ht => by
      rw [P.tt up] at ht
      rcases List.mem_append.mp ht with h | h
      · rcases List.mem_append.mp h with h | h
        · exact (P.tk.ok _ h).2 rfl
        · rw [List.mem_singleton] at h; exact err_ok.2.2.1 h.symm
      · rw [List.mem_singleton] at h; exact err_ok.2.2.2.2.1 h.symm
    tz := by
      have := congrArg List.length (P.inv up).te
      rw [List.length_map, List.length_append, List.length_singleton] at this
      have h2 := P.tk.z
      show (madeG ts up R).te.length ≤ 100
      omega
    nz := by
      have h1 : (NN (lg ts up R st)).Nodup := by rw [lg_no]; exact (P.inv up).nod
      have := nodup_len h1 (u := SYMS) fun n hn => by obtain ⟨r, hr, e⟩ := (P.nn up n).mp hn; rw [e]; exact (P.ok r hr).left
      have e2 : (NN (lg ts up R st)).length = (lg ts up R st).no.length := by simp [NN]
      rw [e2] at this
      exact Nat.le_trans this (by decide)
    syms := fun p hp x hx => by
      have hr := P.pm up hp
      rcases P.all _ hr x hx with h | ⟨q, hq, e⟩
      · refine List.mem_append_left _ ?_
        rw [P.tt up]
        exact List.mem_append_left _ (List.mem_append_left _ h)
      · exact List.mem_append_right _ ((P.nn up x).mpr ⟨q, hq, e.symm⟩)
    names := fun p hp => (P.nn up _).mpr ⟨_, P.pm up hp, rfl⟩
    pn := fun n hn => by
      obtain ⟨r, hr, e⟩ := (P.nn up n).mp hn
      exact ((P.inv up).pn n).mpr ⟨r, hr, e.symm⟩
    blen := fun p hp => Nat.le_trans (P.ok _ (P.pm up hp)).len (by decide)
    pz := by
      have := congrArg List.length (P.inv up).prods
      rw [List.length_map] at this
      have h2 := P.z
      show (madeG ts up R).prods.length ≤ 1000
      omega }
end
end Mine
end
section
set_option autoImplicit false
namespace Mine
theorem addTail_mem {l : Str} {b : List Str} {T : List Rule} {k : Nat} {q : Rule} : q ∈ addTail l b T k ↔ q ∈ T ∨ (b.getD k "" ∈ NAMES ∧ q = (us (b.getD k ""), b.drop (k + 1) ++ [us l])) := by
  unfold addTail; dsimp only
  split
  · rename_i h
    rw [List.mem_append, List.mem_singleton]
    exact ⟨fun z => z.elim .inl fun e => .inr ⟨h.1, e⟩, fun z => z.elim .inl fun e => .inr e.2⟩
  · rename_i h
    refine ⟨.inl, fun z => z.elim id fun ⟨a, e⟩ => ?_⟩
    rw [e]
    exact Decidable.byContradiction fun hn => h ⟨a, hn⟩
theorem addTail_nd {l : Str} {b : List Str} {T : List Rule} (k : Nat) (h : T.Nodup) : (addTail l b T k).Nodup := by
  unfold addTail; dsimp only
  split
  · rename_i hh
    rw [List.nodup_append]
    exact ⟨h, by simp, fun a ha b hb e => by rw [List.mem_singleton] at hb; subst hb; exact hh.2 (e ▸ ha)⟩
  · exact h
theorem foldTail_mem {l : Str} {b : List Str} {q : Rule} (ks : List Nat) {T : List Rule} : q ∈ ks.foldl (addTail l b) T ↔ q ∈ T ∨ ∃ k ∈ ks, b.getD k "" ∈ NAMES ∧ q = (us (b.getD k ""), b.drop (k + 1) ++ [us l]) := by
  induction ks generalizing T with
  | nil => simp
  | cons k ks ih =>
    rw [List.foldl_cons, ih, addTail_mem]
    simp only [List.mem_cons, exists_eq_or_imp, or_assoc]
theorem foldTail_nd {l : Str} {b : List Str} (ks : List Nat) {T : List Rule} (h : T.Nodup) : (ks.foldl (addTail l b) T).Nodup := by
  induction ks generalizing T with
  | nil => exact h
  | cons k ks ih => exact ih (addTail_nd k h)
noncomputable def TailOf (r q : Rule) : Prop := ∃ (k : Nat) (y : Str), r.2[k]? = some y ∧ y ∈ NAMES ∧ q = (us y, r.2.drop (k + 1) ++ [us r.1])
theorem tailsOf_mem {T : List Rule} {r q : Rule} : q ∈ tailsOf T r ↔ q ∈ T ∨ TailOf r q := by
  unfold tailsOf
  rw [foldTail_mem]
  refine or_congr Iff.rfl ⟨fun ⟨k, hk, h1, h2⟩ => ?_, fun ⟨k, y, h1, h2, h3⟩ => ?_⟩
  · rw [List.mem_range] at hk
    have e : r.2[k]? = some (r.2.getD k "") := by rw [List.getD_eq_getElem?_getD, List.getElem?_eq_getElem hk]; rfl
    exact ⟨k, _, e, h1, h2⟩
  · have e : r.2.getD k "" = y := by rw [List.getD_eq_getElem?_getD, h1]; rfl
    refine ⟨k, ?_, by rw [e]; exact h2, by rw [e]; exact h3⟩
    rw [List.mem_range]
    exact (List.getElem?_eq_some_iff.mp h1).1
theorem lawTails_mem {R : List Rule} {st : Str} {q : Rule} : q ∈ lawTails R st ↔ q ∈ tails0 st ∨ ∃ r ∈ R, TailOf r q := by
  unfold lawTails
  generalize tails0 st = T
  induction R generalizing T with
  | nil => simp
  | cons r R ih =>
    rw [List.foldl_cons, ih, tailsOf_mem]
    simp only [List.mem_cons, exists_eq_or_imp, or_assoc]
theorem tails0_facts : ∀ st ∈ NAMES, (tails0 st).Nodup ∧ (∀ q ∈ tails0 st, ∃ x ∈ NAMES, q.1 = us x ∧ ((q.2 = (["end"] : List Str) ∧ x = st) ∨ q.2 = [us x])) ∧ (us st, (["end"] : List Str)) ∈ tails0 st ∧ ∀ x ∈ NAMES, (us x, [us x]) ∈ tails0 st := by decide +kernel
theorem lawTails_nd {R : List Rule} {st : Str} (hst : st ∈ NAMES) : (lawTails R st).Nodup := by
  have h := (tails0_facts st hst).1
  unfold lawTails
  generalize tails0 st = T at h
  induction R generalizing T with
  | nil => exact h
  | cons r R ih => exact ih _ (foldTail_nd _ h)
theorem lawTails_cases {R : List Rule} {st : Str} (hst : st ∈ NAMES) {q : Rule} (h : q ∈ lawTails R st) : ∃ x ∈ NAMES, q.1 = us x ∧ ((q.2 = (["end"] : List Str) ∧ x = st) ∨ q.2 = [us x] ∨ ∃ r ∈ R, ∃ pre post, r.2 = pre ++ x :: post ∧ q.2 = post ++ [us r.1]) := by
  rcases lawTails_mem.mp h with h | ⟨r, hr, k, y, h1, h2, rfl⟩
  · obtain ⟨x, hx, e, z⟩ := (tails0_facts st hst).2.1 q h
    exact ⟨x, hx, e, z.elim .inl fun z => .inr (.inl z)⟩
  · exact ⟨y, h2, rfl, .inr (.inr ⟨r, hr, _, _, split_at h1, rfl⟩)⟩
theorem us_facts : ∀ x ∈ NAMES, us x ∉ SIGNS ∧ us x ∉ ts2 ∧ us x ≠ "end" ∧ us x ∉ NAMES ∧ ∀ y ∈ NAMES, us x = us y → x = y := by decide +kernel
theorem names_facts : ∀ x ∈ NAMES, x ∉ ts2 ∧ x ∉ ts1 ∧ x ∈ SIGNS ∧ x ≠ "end" := by decide +kernel
theorem signs_split : ∀ y ∈ SIGNS, y ∈ ts1 ∨ y ∈ NAMES := by decide +kernel
theorem end_facts : ("end" : Str) ∈ ts2 ∧ ("end" : Str) ∉ SIGNS ∧ ("end" : Str) ≠ eps ∧ endMap "end" = dend := by decide +kernel
theorem ts12 : ∀ t ∈ ts1, t ∈ ts2 := by decide +kernel
theorem ruleOk_of {r : Rule} (h : RuleG r) : RuleOk r := ⟨names_syms _ h.left, Nat.le_trans h.len (by decide), fun y hy => signs_syms y (h.body y hy)⟩
section
variable {R : List Rule} {st : Str}
theorem LawR.pre1 (I : LawR R) (hst : st ∈ NAMES) : MadePre ts1 R st where
  tk := ts1_ok
  ok := fun r hr => ruleOk_of (I.ok r hr)
  left := fun r hr => (names_facts _ (I.ok r hr).left).2.1
  z := Nat.le_trans I.hz (by decide)
  nd := I.nd
  all := fun r hr y hy => (signs_split y ((I.ok r hr).body y hy)).imp id (I.all y)
  hs := by obtain ⟨r, hr, e⟩ := I.all st hst; exact ⟨r, hr, e.symm⟩
theorem LawR.pre2 (I : LawR R) (hst : st ∈ NAMES) : MadePre ts2 (lawTails R st ++ R) st where
  tk := ts2_ok
  ok := fun r hr => by
    rcases List.mem_append.mp hr with hr | hr
    · exact (foldTails I.ok (tails0_ok hst)).1 r hr
    · exact ruleOk_of (I.ok r hr)
  left := fun r hr => by
    rcases List.mem_append.mp hr with hr | hr
    · obtain ⟨x, hx, e, _⟩ := lawTails_cases hst hr
      rw [e]; exact (us_facts x hx).2.1
    · exact (names_facts _ (I.ok r hr).left).1
  z := by
    have h1 := (foldTails I.ok (tails0_ok hst)).2
    have h2 := I.hz
    have h3 : (tails0 st).length = 4 := rfl
    have h4 : (lawTails R st).length ≤ (tails0 st).length + 10 * R.length := h1
    rw [List.length_append]; omega
  nd := by
    rw [List.nodup_append]
    refine ⟨lawTails_nd hst, I.nd, fun a ha b hb e => ?_⟩
    subst e
    obtain ⟨x, hx, e, _⟩ := lawTails_cases hst ha
    exact (us_facts x hx).2.2.2.1 (e ▸ (I.ok a hb).left)
  all := fun r hr y hy => by
    have names : ∀ x ∈ NAMES, ∃ q ∈ lawTails R st ++ R, q.1 = x := fun x hx => by obtain ⟨q, hq, e⟩ := I.all x hx; exact ⟨q, List.mem_append_right _ hq, e⟩
    have unders : ∀ x ∈ NAMES, ∃ q ∈ lawTails R st ++ R, q.1 = us x := fun x hx => ⟨_, List.mem_append_left _ (lawTails_mem.mpr (.inl ((tails0_facts st hst).2.2.2 x hx))), rfl⟩
    have signs : ∀ y ∈ SIGNS, y ∈ ts2 ∨ ∃ q ∈ lawTails R st ++ R, q.1 = y := fun y hy => (signs_split y hy).imp (ts12 y) (names y)
    rcases List.mem_append.mp hr with hr | hr
    · obtain ⟨x, hx, e, h | h | ⟨r0, hr0, pre, post, h, h2⟩⟩ := lawTails_cases hst hr
      · rw [h.1, List.mem_singleton] at hy; rw [hy]; exact .inl end_facts.1
      · rw [h, List.mem_singleton] at hy; rw [hy]; exact .inr (unders x hx)
      · rw [h2] at hy
        rcases List.mem_append.mp hy with hy | hy
        · exact signs y ((I.ok r0 hr0).body y (by rw [h]; exact List.mem_append_right _ (.tail _ hy)))
        · rw [List.mem_singleton] at hy; rw [hy]; exact .inr (unders _ (I.ok r0 hr0).left)
    · exact signs y ((I.ok r hr).body y hy)
  hs := by obtain ⟨r, hr, e⟩ := I.all st hst; exact ⟨r, List.mem_append_right _ hr, e.symm⟩
end
end Mine
end
section
set_option autoImplicit false
namespace Mine
noncomputable def T1 : List Str := ts1 ++ [("error" : Str)] ++ [dend]
noncomputable def T2 : List Str := ts2 ++ [("error" : Str)] ++ [dend]
theorem T_facts : (∀ t ∈ T1, t ∈ T2) ∧ (∀ t ∈ T2, t ∈ SIGNS → t ∈ T1) ∧ eps ∉ T1 ∧ eps ∉ T2 ∧ ("end" : Str) ∉ T1 ∧ (∀ x ∈ NAMES, x ∉ T2 ∧ us x ∉ T2 ∧ us x ≠ eps) ∧ ("end" : Str) ∈ T2 ∧ (∀ y ∈ SIGNS, y ∈ T1 ↔ y ∈ LET) ∧ (∀ t ∈ T2, PyData.strOk t = true) ∧ PyData.strOk eps = true ∧ dend ∈ T1 := by decide +kernel
theorem pm_of {P : List Pr} {R : List Rule} (h : P.map (fun p => (p.name, p.body)) = R) {p : Pr} (hp : p ∈ P) : (p.name, p.body) ∈ R := by
  rw [← h]; exact List.mem_map.mpr ⟨p, hp, rfl⟩
theorem mp_of {P : List Pr} {R : List Rule} (h : P.map (fun p => (p.name, p.body)) = R) {r : Rule} (hr : r ∈ R) : ∃ p ∈ P, p.name = r.1 ∧ p.body = r.2 := by
  rw [← h] at hr
  obtain ⟨p, hp, e⟩ := List.mem_map.mp hr
  exact ⟨p, hp, by rw [← e], by rw [← e]⟩
theorem Fst.app {P : List Pr} {T : List Str} {f : Str} {b : List Str} (h : Fst P T f b) (hf : f ≠ Mine.eps) (c : List Str) : Fst P T f (b ++ c) := by
  induction h with
  | eps => exact absurd rfl hf
  | term ht => exact .term ht
  | rule hp hb hf _ => exact .rule hp hb hf
  | skip hp hb _ _ ih => exact .skip hp hb (ih hf)
theorem Fst.after {P : List Pr} {T : List Str} {f : Str} {b c : List Str} (he : Mine.eps ∉ T) (h : Fst P T Mine.eps b) (hc : Fst P T f c) : Fst P T f (b ++ c) := by
  generalize hz : Mine.eps = e at h
  induction h with
  | eps => exact hc
  | term ht => rw [← hz] at ht; exact absurd ht he
  | rule _ _ hf _ => exact absurd hz.symm hf
  | skip hp hb _ _ ih => exact .skip hp hb (ih hz)
theorem Fst.src {P : List Pr} {T : List Str} {f : Str} {b : List Str} (h : Fst P T f b) : f = Mine.eps ∨ f ∈ b ∨ ∃ p ∈ P, f ∈ p.body := by
  induction h with
  | eps => exact .inl rfl
  | term ht => exact .inr (.inl (.head _))
  | rule hp _ _ ih => exact ih.imp id fun z => .inr (z.elim (fun z => ⟨_, hp, z⟩) id)
  | skip _ _ _ _ ih => exact ih.imp id fun z => z.imp (fun z => .tail _ z) id
theorem Fst.nil {P : List Pr} {T : List Str} {f : Str} (h : Fst P T f []) : f = Mine.eps := by cases h; rfl
section
variable {R : List Rule} {st : Str} {P1 P2 : List Pr} (I : LawR R) (hst : st ∈ NAMES) (h1 : P1.map (fun p => (p.name, p.body)) = R) (h2 : P2.map (fun p => (p.name, p.body)) = lawTails R st ++ R)
include h1 h2
theorem up12 {f : Str} {b : List Str} (h : Fst P1 T1 f b) : Fst P2 T2 f b := by
  induction h with
  | eps => exact .eps
  | term ht => exact .term (T_facts.1 _ ht)
  | rule hp _ hf ih =>
    obtain ⟨q, hq, e1, e2⟩ := mp_of h2 (List.mem_append_right _ (pm_of h1 hp))
    dsimp only at e1 e2
    rw [← e1]; exact .rule hq (by rw [e2]; exact ih) hf
  | skip hp _ _ ih1 ih2 =>
    obtain ⟨q, hq, e1, e2⟩ := mp_of h2 (List.mem_append_right _ (pm_of h1 hp))
    dsimp only at e1 e2
    rw [← e1]; exact .skip hq (by rw [e2]; exact ih1) ih2
include I hst
theorem down21 {f : Str} {b : List Str} (h : Fst P2 T2 f b) (hb : ∀ y ∈ b, y ∈ SIGNS) : Fst P1 T1 f b := by
  have key : ∀ p ∈ P2, p.name ∈ SIGNS → ∃ q ∈ P1, q.name = p.name ∧ q.body = p.body ∧ ∀ y ∈ p.body, y ∈ SIGNS := fun p hp hs => by
    rcases List.mem_append.mp (pm_of h2 hp) with h | h
    · obtain ⟨x, hx, e, _⟩ := lawTails_cases hst h
      exact absurd (show us x ∈ SIGNS from e ▸ hs) (us_facts x hx).1
    · obtain ⟨q, hq, e1, e2⟩ := mp_of h1 h
      exact ⟨q, hq, e1, e2, (I.ok _ h).body⟩
  induction h with
  | eps => exact .eps
  | term ht => exact .term (T_facts.2.1 _ ht (hb _ (.head _)))
  | rule hp _ hf ih =>
    obtain ⟨q, hq, e1, e2, e3⟩ := key _ hp (hb _ (.head _))
    rw [← e1]; exact .rule hq (by rw [e2]; exact ih e3) hf
  | skip hp _ _ ih1 ih2 =>
    obtain ⟨q, hq, e1, e2, e3⟩ := key _ hp (hb _ (.head _))
    rw [← e1]; exact .skip hq (by rw [e2]; exact ih1 e3) (ih2 fun y hy => hb y (.tail _ hy))
theorem no_under {f : Str} {b : List Str} (h : Fst P2 T2 f b) : f = eps → ∀ y ∈ b, (∀ x ∈ NAMES, y ≠ us x) ∧ y ≠ "end" := by
  induction h with
  | eps => exact fun _ y hy => nomatch hy
  | term ht => intro e; exact absurd (e ▸ ht) T_facts.2.2.2.1
  | rule _ _ hf _ => intro e; exact absurd e hf
  | @skip p f r hp hb hr ih1 ih2 =>
    intro e y hy
    cases hy with
    | tail _ hy => exact ih2 e y hy
    | head =>
      have hb' := ih1 rfl
      rcases List.mem_append.mp (pm_of h2 hp) with h | h
      · obtain ⟨x, hx, e, q | q | ⟨r0, hr0, pre, post, _, q⟩⟩ := lawTails_cases hst h
        · exact absurd rfl (hb' "end" (by rw [show p.body = _ from q.1]; exact .head _)).2
        · exact absurd rfl ((hb' (us x) (by rw [show p.body = _ from q]; exact .head _)).1 x hx)
        · exact absurd rfl ((hb' (us r0.1) (by rw [show p.body = _ from q]; exact List.mem_append_right _ (.head _))).1 _ (I.ok r0 hr0).left)
      · have hl := (I.ok _ h).left
        exact ⟨fun x hx e => (us_facts x hx).2.2.2.1 (e ▸ hl), (names_facts _ hl).2.2.2⟩
theorem endMap_ne {t : Str} (h : t ≠ "end") : endMap t = t := if_neg h
theorem fol_down {N : List Str} (hN : ∀ x ∈ NAMES, x ∈ N) {t : Str} {b : List Str} (h : Fst P2 T2 t b) : ∀ (post : List Str) (X : Str), b = post ++ [us X] → X ∈ NAMES → (∀ y ∈ post, y ∈ SIGNS) →
    (t ≠ eps ∧ t ≠ "end" ∧ Fst P1 T1 t post) ∨ (Fst P1 T1 eps post ∧ Fol P1 T1 N st (endMap t) X) := by
  have oldp : ∀ p ∈ P2, p.name ∈ SIGNS → ∃ q ∈ P1, q.name = p.name ∧ q.body = p.body ∧ ∀ y ∈ p.body, y ∈ SIGNS := fun p hp hs => by
    rcases List.mem_append.mp (pm_of h2 hp) with h | h
    · obtain ⟨x, hx, e, _⟩ := lawTails_cases hst h
      exact absurd (show us x ∈ SIGNS from e ▸ hs) (us_facts x hx).1
    · obtain ⟨q, hq, e1, e2⟩ := mp_of h1 h
      exact ⟨q, hq, e1, e2, (I.ok _ h).body⟩
  have ne : ∀ {f : Str} {b : List Str}, Fst P1 T1 f b → f ≠ "end" := fun h e => by
    rcases h.kind with q | q
    · exact end_facts.2.2.1 (e.symm.trans q)
    · exact T_facts.2.2.2.2.1 (e ▸ q)
  induction h with
  | eps => intro post X e; cases post <;> simp at e
  | @term t r ht =>
    intro post X e hX hp
    cases post with
    | nil =>
      simp only [List.nil_append, List.cons.injEq] at e
      exact absurd (e.1 ▸ ht) (T_facts.2.2.2.2.2.1 X hX).2.1
    | cons z post =>
      simp only [List.cons_append, List.cons.injEq] at e
      obtain ⟨rfl, rfl⟩ := e
      have h3 := T_facts.2.1 _ ht (hp _ (.head _))
      exact .inl ⟨fun q => T_facts.2.2.1 (q ▸ h3), ne (.term (r := []) h3), .term h3⟩
  | @rule p f r hp hb hf ih =>
    intro post X e hX hpo
    cases post with
    | nil =>
      simp only [List.nil_append, List.cons.injEq] at e
      obtain ⟨e1, rfl⟩ := e
      refine .inr ⟨.eps, ?_⟩
      rcases List.mem_append.mp (pm_of h2 hp) with h | h
      · obtain ⟨x, hx, e2, q | q | ⟨r0, hr0, pre, post, q0, q⟩⟩ := lawTails_cases hst h
        · have hX2 : X = x := (us_facts X hX).2.2.2.2 x hx (e1.symm.trans e2)
          have hq : p.body = (["end"] : List Str) := q.1
          rw [hq] at hb
          have hfe : f = "end" := by
            generalize hz : (["end"] : List Str) = z at hb
            cases hb with
            | eps => cases hz
            | term _ => exact (List.cons.inj hz).1.symm
            | @rule p2 _ _ hp2 _ _ =>
              exfalso
              have hn : p2.name = "end" := (List.cons.inj hz).1.symm
              rcases List.mem_append.mp (pm_of h2 hp2) with h | h
              · obtain ⟨y, hy, e3, _⟩ := lawTails_cases hst h
                exact (us_facts y hy).2.2.1 (e3.symm.trans hn)
              · exact (names_facts _ (I.ok _ h).left).2.2.2 hn
            | skip _ _ hr => rw [← (List.cons.inj hz).2] at hr; exact absurd hr.nil hf
          rw [hfe, end_facts.2.2.2, hX2, q.2]; exact .start
        · have hX2 : X = x := (us_facts X hX).2.2.2.2 x hx (e1.symm.trans e2)
          have hq : p.body = [us x] := q
          rcases ih [] X (by rw [hq, hX2]; rfl) hX (fun y hy => nomatch hy) with z | z
          · exact absurd z.2.2.nil hf
          · exact z.2
        · have hX2 : X = x := (us_facts X hX).2.2.2.2 x hx (e1.symm.trans e2)
          have hq : p.body = post ++ [us r0.1] := q
          have hsg : ∀ y ∈ post, y ∈ SIGNS := fun y hy => (I.ok r0 hr0).body y (by rw [q0]; exact List.mem_append_right _ (.tail _ hy))
          obtain ⟨p1, hp1, n1, n2⟩ := mp_of h1 hr0
          rcases ih post r0.1 hq (I.ok r0 hr0).left hsg with z | z
          · rw [endMap_ne I hst h1 h2 z.2.1]
            exact .fst (pre := pre) (post := post) hp1 (by rw [n2, q0, hX2]) (hN X hX) z.2.2 z.1
          · exact .fol (pre := pre) (post := post) hp1 (by rw [n2, q0, hX2]) (hN X hX) z.1 (by rw [n1]; exact z.2)
      · exact absurd (e1 ▸ (I.ok _ h).left) (us_facts X hX).2.2.2.1
    | cons z post =>
      simp only [List.cons_append, List.cons.injEq] at e
      obtain ⟨rfl, rfl⟩ := e
      obtain ⟨q, hq, e1, e2, e3⟩ := oldp p hp (hpo _ (.head _))
      have h3 : Fst P1 T1 f q.body := by rw [e2]; exact down21 I hst h1 h2 hb e3
      exact .inl ⟨hf, ne h3, by rw [← e1]; exact .rule hq h3 hf⟩
  | @skip p f r hp hb hr ih1 ih2 =>
    intro post X e hX hpo
    cases post with
    | nil =>
      simp only [List.nil_append, List.cons.injEq] at e
      obtain ⟨e1, rfl⟩ := e
      exfalso
      have hb' := no_under I hst h1 h2 hb rfl
      rcases List.mem_append.mp (pm_of h2 hp) with h | h
      · obtain ⟨x, hx, e2, q | q | ⟨r0, hr0, pre, post, q0, q⟩⟩ := lawTails_cases hst h
        · exact (hb' "end" (by rw [show p.body = _ from q.1]; exact .head _)).2 rfl
        · exact (hb' (us x) (by rw [show p.body = _ from q]; exact .head _)).1 x hx rfl
        · exact (hb' (us r0.1) (by rw [show p.body = _ from q]; exact List.mem_append_right _ (.head _))).1 _ (I.ok r0 hr0).left rfl
      · exact (us_facts X hX).2.2.2.1 (e1 ▸ (I.ok _ h).left)
    | cons z post =>
      simp only [List.cons_append, List.cons.injEq] at e
      obtain ⟨rfl, rfl⟩ := e
      obtain ⟨q, hq, e1, e2, e3⟩ := oldp p hp (hpo _ (.head _))
      have h3 : Fst P1 T1 eps q.body := by rw [e2]; exact down21 I hst h1 h2 hb e3
      rw [← e1]
      rcases ih2 post X rfl hX (fun y hy => hpo y (.tail _ hy)) with z | z
      · exact .inl ⟨z.1, z.2.1, .skip hq h3 z.2.2⟩
      · exact .inr ⟨.skip hq h3 z.1, z.2⟩
theorem fol_up {N : List Str} (hN : ∀ x ∈ N, x ∈ NAMES) {f B : Str} (h : Fol P1 T1 N st f B) : B ∈ NAMES ∧ ∃ t, endMap t = f ∧ t ≠ eps ∧ Fst P2 T2 t [us B] := by
  have new : ∀ {q : Rule}, q ∈ lawTails R st → ∃ p ∈ P2, p.name = q.1 ∧ p.body = q.2 := fun hq => mp_of h2 (List.mem_append_left _ hq)
  have row : ∀ {p : Pr} {pre post : List Str} {B : Str}, p ∈ P1 → p.body = pre ++ B :: post → B ∈ NAMES → p.name ∈ NAMES ∧ ∃ q ∈ P2, q.name = us B ∧ q.body = post ++ [us p.name] := fun {p pre post B} hp hb hB => by
    have hr := pm_of h1 hp
    refine ⟨(I.ok _ hr).left, new (q := (us B, post ++ [us p.name])) (lawTails_mem.mpr (.inr ⟨_, hr, pre.length, B, ?_, hB, ?_⟩))⟩
    · show p.body[pre.length]? = some B
      rw [hb]; simp
    · show _ = (us B, p.body.drop (pre.length + 1) ++ [us p.name])
      rw [hb]; simp
  induction h with
  | start =>
    obtain ⟨q, hq, e1, e2⟩ := new (lawTails_mem.mpr (.inl (tails0_facts st hst).2.2.1))
    dsimp only at e1 e2
    refine ⟨hst, "end", end_facts.2.2.2, end_facts.2.2.1, ?_⟩
    rw [← e1]
    exact .rule hq (by rw [e2]; exact .term T_facts.2.2.2.2.2.2.1) end_facts.2.2.1
  | @fst p pre post B f hp hb hB hf hfe =>
    have hBN := hN B hB
    obtain ⟨_, q, hq, e1, e2⟩ := row hp hb hBN
    refine ⟨hBN, f, endMap_ne I hst h1 h2 (fun e => ?_), hfe, ?_⟩
    · rcases hf.kind with z | z
      · exact hfe z
      · exact T_facts.2.2.2.2.1 (e ▸ z)
    · rw [← e1]
      exact .rule hq (by rw [e2]; exact (up12 h1 h2 hf).app hfe _) hfe
  | @fol p pre post B f hp hb hB he _ ih =>
    have hBN := hN B hB
    obtain ⟨_, q, hq, e1, e2⟩ := row hp hb hBN
    obtain ⟨_, t, ht, hte, hf⟩ := ih
    refine ⟨hBN, t, ht, hte, ?_⟩
    rw [← e1]
    exact .rule hq (by rw [e2]; exact Fst.after T_facts.2.2.2.1 (up12 h1 h2 he) hf) hte
theorem not_dend {t B : Str} (hB : B ∈ NAMES) (h : Fst P2 T2 t [us B]) : t ≠ dend := fun e => by
  have hd : dend ∉ SYMS := err_ok.2.2.2.2.2.1
  rcases h.src with q | q | ⟨p, hp, q⟩
  · exact err_ok.2.2.2.2.1 (e.symm.trans q)
  · rw [List.mem_singleton] at q; exact hd (by rw [← e, q]; exact us_syms _ hB)
  · refine hd ?_
    rw [← e]
    rcases List.mem_append.mp (pm_of h2 hp) with h | h
    · exact ((foldTails I.ok (tails0_ok hst)).1 _ h).body t q
    · exact signs_syms _ ((I.ok _ h).body t q)
end
end Mine
end
section
set_option autoImplicit false
namespace Mine
theorem fi_iff {g : GR} {fi : List (Str × List Str)} (K : FiOk g fi) (w : GWf g) (hc : ∀ p ∈ g.prods, Closed g fi p) {x : Str} (hx : ∃ p ∈ g.prods, p.name = x) (f : Str) : f ∈ atL fi x ↔ Fst g.prods (TT g) f [x] :=
  Fst.iff (fi := atL fi) w.noeps K.snd (fun t ht => by unfold atL; rw [K.term t ht]; exact .head _) (fun p hp f hf => hc p hp f ((mem_firstOf _ _ _ _).mpr (.inr hf)))
    (fun p hp h => (List.nodup_append.mp w.nodup).2.2 _ h _ (w.names p hp) rfl) f x (.inr hx)
theorem look_at {fi : List (Str × List Str)} {x : Str} (h : (fi.lookup x).isSome = true) : fi.lookup x = some (atL fi x) := by
  unfold atL
  cases q : fi.lookup x with
  | none => rw [q] at h; cases h
  | some y => rfl
theorem names_abs : ABS.Nodup ∧ ∀ x ∈ ABS, x ∈ NAMES := by decide +kernel
theorem abs_names : ∀ x ∈ NAMES, x ∈ ABS := by decide +kernel
theorem lawF {R : List Rule} {st : Str} {up1 up2 : V} {fi fo fi2 : List (Str × List Str)} (I : LawR R) (hst : st ∈ NAMES)
    (F1 : FiOk (lg ts1 up1 R st) fi) (F2 : ∀ p ∈ (lg ts1 up1 R st).prods, Closed (lg ts1 up1 R st) fi p) (F3 : FoOk (lg ts1 up1 R st) st fo) (F4 : ∀ p ∈ (lg ts1 up1 R st).prods, ∀ i, FoCl (lg ts1 up1 R st) fi fo p i)
    (F5 : FiOk (lg ts2 up2 (lawTails R st ++ R) st) fi2) (F6 : ∀ p ∈ (lg ts2 up2 (lawTails R st ++ R) st).prods, Closed (lg ts2 up2 (lawTails R st ++ R) st) fi2 p) :
    LawF (lg ts1 up1 R st).prods T1 fo fi fi2 ∧ OpG (lg ts1 up1 R st).prods T1 ∧ (lg ts1 up1 R st).prods.map (fun p => (p.name, p.body)) = R := by
  have M1 := I.pre1 hst
  have M2 := I.pre2 hst
  have w1 := M1.made.wf up1
  have w2 := M2.made.wf up2
  have e1 : TT (lg ts1 up1 R st) = T1 := M1.tt up1
  have e2 : TT (lg ts2 up2 (lawTails R st ++ R) st) = T2 := M2.tt up2
  have h1 : (lg ts1 up1 R st).prods.map (fun p => (p.name, p.body)) = R := (M1.inv up1).prods
  have h2 : (lg ts2 up2 (lawTails R st ++ R) st).prods.map (fun p => (p.name, p.body)) = lawTails R st ++ R := (M2.inv up2).prods
  have n1 : ∀ x, x ∈ NN (lg ts1 up1 R st) ↔ x ∈ NAMES := fun x => by
    rw [M1.nn up1]
    exact ⟨fun ⟨r, hr, e⟩ => e ▸ (I.ok r hr).left, fun hx => by obtain ⟨r, hr, e⟩ := I.all x hx; exact ⟨r, hr, e.symm⟩⟩
  have p1 : ∀ x ∈ NAMES, ∃ p ∈ (lg ts1 up1 R st).prods, p.name = x := fun x hx => by
    obtain ⟨r, hr, e⟩ := I.all x hx
    obtain ⟨p, hp, e1, _⟩ := mp_of h1 hr
    exact ⟨p, hp, e1.trans e⟩
  have p2 : ∀ r ∈ lawTails R st ++ R, ∃ p ∈ (lg ts2 up2 (lawTails R st ++ R) st).prods, p.name = r.1 := fun r hr => by
    obtain ⟨p, hp, e1, _⟩ := mp_of h2 hr
    exact ⟨p, hp, e1⟩
  have r2 : ∀ x ∈ NAMES, ∃ r ∈ lawTails R st ++ R, r.1 = x := fun x hx => by obtain ⟨r, hr, e⟩ := I.all x hx; exact ⟨r, List.mem_append_right _ hr, e⟩
  have u2 : ∀ x ∈ NAMES, ∃ r ∈ lawTails R st ++ R, r.1 = us x := fun x hx => ⟨_, List.mem_append_left _ (lawTails_mem.mpr (.inl ((tails0_facts st hst).2.2.2 x hx))), rfl⟩
  have i1 : ∀ x ∈ NAMES, ∀ f, f ∈ atL fi x ↔ Fst (lg ts1 up1 R st).prods T1 f [x] := fun x hx f => by rw [← e1]; exact fi_iff F1 w1 F2 (p1 x hx) f
  have i2 : ∀ r ∈ lawTails R st ++ R, ∀ f, f ∈ atL fi2 r.1 ↔ Fst (lg ts2 up2 (lawTails R st ++ R) st).prods T2 f [r.1] := fun r hr f => by rw [← e2]; exact fi_iff F5 w2 F6 (p2 r hr) f
  have nn2 : ∀ r ∈ lawTails R st ++ R, r.1 ∈ NN (lg ts2 up2 (lawTails R st ++ R) st) := fun r hr => (M2.nn up2 _).mpr ⟨r, hr, rfl⟩
  have z1 : ∀ {l : List Str}, l.Nodup → (∀ f ∈ l, f = eps ∨ f ∈ T2) → l.length < 64 := fun {l} hn hl => by
    have := nodup_len hn (u := eps :: T2) fun f hf => by
      rcases hl f hf with e | e
      · rw [e]; exact .head _
      · exact .tail _ e
    exact Nat.lt_of_le_of_lt this (by decide)
  refine ⟨⟨?_, fun x hx => ?_, fun x hx => ?_, fun x hx f hf => ?_, fun x hx => ?_⟩, ⟨fun p hp => (I.ok _ (pm_of h1 hp)).left, fun p hp => (I.ok _ (pm_of h1 hp)).body, T_facts.2.2.2.2.2.2.2.1, T_facts.2.2.1, fun p hp => (I.ok _ (pm_of h1 hp)).len⟩, h1⟩
  · rw [F3.keys]
    refine perm_of_mem (by rw [lg_no]; exact (M1.inv up1).nod) names_abs.1 fun x => ?_
    rw [n1 x]
    exact ⟨abs_names x, names_abs.2 x⟩
  · have hn := (n1 x).mpr hx
    refine ⟨_, look_at (F1.has (List.mem_append_right _ hn)), F1.nod x hn, z1 (F1.nod x hn) fun f hf => ?_, i1 x hx⟩
    exact ((i1 x hx f).mp hf).kind.imp id (T_facts.1 f)
  · obtain ⟨r, hr, rfl⟩ := r2 x hx
    have hn := nn2 r hr
    refine ⟨_, look_at (F5.has (List.mem_append_right _ hn)), F5.nod _ hn, z1 (F5.nod _ hn) fun f hf => ((i2 r hr f).mp hf).kind, fun f => (i2 r hr f).trans ⟨fun h => down21 I hst h1 h2 h fun y hy => ?_, up12 h1 h2⟩⟩
    rw [List.mem_singleton] at hy; rw [hy]; exact (names_facts _ hx).2.2.1
  · rcases hf.kind with e | e
    · rw [e]; exact T_facts.2.2.2.2.2.2.2.2.2.1
    · exact T_facts.2.2.2.2.2.2.2.2.1 f (T_facts.1 f e)
  · have hn := (n1 x).mpr hx
    obtain ⟨r, hr, er⟩ := u2 x hx
    have hn2 := nn2 r hr
    have i2' := i2 r hr
    rw [er] at hn2 i2'
    have ifo : ∀ f, f ∈ atL fo x ↔ Fol (lg ts1 up1 R st).prods T1 (NN (lg ts1 up1 R st)) st f x := fun f => by rw [← e1]; exact Fol.iff F1 w1 F2 F3 F4 f x
    have nd2 := F5.nod _ hn2
    have hkt : ∀ f ∈ atL fo x, f ∈ T1 := fun f hf => ((ifo f).mp hf).kind T_facts.2.2.2.2.2.2.2.2.2.2
    refine ⟨_, _, look_at (F3.has hn), look_at (F5.has (List.mem_append_right _ hn2)), z1 (F3.nod x hn) fun f hf => .inr (T_facts.1 f (hkt f hf)), z1 nd2 fun f hf => ((i2' f).mp hf).kind, ?_, fun f hf => T_facts.2.2.2.2.2.2.2.2.1 f (T_facts.1 f (hkt f hf))⟩
    refine perm_of_mem (F3.nod x hn) ?_ fun f => ?_
    · have inj : ∀ a ∈ atL fi2 (us x), ∀ b ∈ atL fi2 (us x), endMap a = endMap b → a = b := fun a ha b hb e => by
        have da := not_dend I hst h1 h2 hx ((i2' a).mp ha)
        have db := not_dend I hst h1 h2 hx ((i2' b).mp hb)
        unfold endMap at e
        split at e <;> split at e
        · rename_i q1 q2; rw [q1, q2]
        · exact absurd e.symm db
        · exact absurd e da
        · exact e
      generalize atL fi2 (us x) = l at nd2 inj
      clear i2'
      induction l with
      | nil => exact .nil
      | cons a l ih =>
        rw [List.nodup_cons] at nd2
        rw [List.map_cons, List.nodup_cons]
        refine ⟨fun h => ?_, ih nd2.2 fun a ha b hb => inj a (.tail _ ha) b (.tail _ hb)⟩
        obtain ⟨b, hb, e⟩ := List.mem_map.mp h
        have := inj b (.tail _ hb) a (.head _) e
        exact nd2.1 (this ▸ hb)
    · rw [ifo f, List.mem_map]
      constructor
      · intro h
        obtain ⟨_, t, ht, _, hf⟩ := fol_up I hst h1 h2 (fun y hy => (n1 y).mp hy) h
        exact ⟨t, (i2' t).mpr hf, ht⟩
      · rintro ⟨t, ht, rfl⟩
        rcases fol_down I hst h1 h2 (fun y hy => (n1 y).mpr hy) ((i2' t).mp ht) [] x rfl hx (fun y hy => nomatch hy) with z | z
        · exact absurd z.2.2.nil z.1
        · exact z.2
end Mine
end
section
set_option autoImplicit false
namespace Mine
variable {W : Wd} {A : Around} {outer : Outs} {mem : Mem} {E : Ex W}
theorem law_body {L : Addr} {ns : List Int} {Q : Fl → Loc → Mem → Prop}
    (hK : W.K = hdK W.w.params) (cd : Calm A 310 2000) (hf : Fits A (lwE L) outer) (hns : ns.length ≤ 63) (h : ∀ l m, Q (.ret (.bool true)) l m) :
    TrS W A (lwE L) outer (execs lLaw.body (lwE L)) [("script", .lst (vInts ns))] mem Q E := by
  refine law_a hK cd hns fun ra R st loc m I hst hl hra => ?_
  refine law_b hK cd hf I hst hra (I.pre1 hst).made (I.pre2 hst).made hl fun loc m fd id bd up1 up2 fo fi fi2 t1 t2 t3 hra hl f1 f2 f3 f4 f5 f6 => ?_
  obtain ⟨F, g, hP⟩ := lawF I hst f1 f2 f3 f4 f5 f6
  exact law_c hK cd I hra hP g t1 t2 t3 F hl h
end Mine
end
section
set_option autoImplicit false
namespace Mine
theorem vrs_ints {W : Wd} {F : Frz} {ns : List Int} {vs : List Value} (h : IntsAre vs ns) : VRs W F (vInts ns) vs := by
  induction h with
  | nil => exact .nil
  | cons _ _ _ ih => exact .cons (.int _ _) ih
theorem vr_laid {W : Wd} {F : Frz} {P : Params} {h : Heap} {a : Addr} {ns : List Int} {vs : List Value} (hF : ∀ a o, h.get? a = some o → F a o) (hL : h.IsList a vs.toArray) (hI : IntsAre vs ns) (w : Well P h (.ref a) (ofPy (.list (ns.map .int)))) : VR W F (.lst (vInts ns)) (.ref a) := by
  cases w with
  | list e r =>
    obtain ⟨o, ho, hc, n, hd⟩ := hL
    rw [e] at ho
    obtain rfl := Option.some.inj ho
    injection hd with hd _
    exact .lst (hF _ _ e) (by rw [hd]; exact vrs_ints hI)
theorem enter {prog : Program} {w : World} {K : Frag} {p : Program} {loose : List Str} {mean mean2 : ExcName → Option Value} {mg mb : Str → Option Value} {s₁ : Shared} {h₁ : Heap} {t : Nat} {a : Addr} {ns : List Int} {vs : List Value} {env : Env} {A : Around} {sts : List Stmt}
    {m : Str → Option Value} {c : ClaimW} {cl : Str → Option Addr} {args : List WData} {E : Value → Shared → Prop}
    (KX : K.In s₁.heap) (T : Top p loose mean mg mb s₁.heap) (hg : s₁.gens = #[]) (hLs : s₁.heap.IsList a vs.toArray) (hI : IntsAre vs ns) (wl : Well w.params s₁.heap (.ref a) (ofPy (.list (ns.map .int)))) (FF : Fr s₁.heap env.locals h₁ m) (hm : m "script" = some (.ref a)) (hL : env.locals = s₁.heap.objs.size)
    (hr : ∀ cls, c.raises args cls = false) (hp : c.post args (.bool true) args = true)
    (h : ∀ W : Wd, W.prog = prog → W.w = w → W.K = K → TrS W A env [] (execs sts env) [("script", .lst (vInts ns))] (fun _ => none) (fun f _ _ => f = .ret (.bool true)) Ex.no) :
    wpAny (model prog w) A (execs sts env) (fun f s' => GoodW c cl mean2 args s₁ (.ok (.ret (match f with | .ret v => v | _ => .none))) s') E { heap := h₁, gens := s₁.gens, drawn := s₁.drawn, toks := t, os := s₁.os } := by
  let W : Wd := { prog := prog, w := w, K := K, hb := s₁.heap, mg := mg, mb := mb, os := s₁.os, p := p, loose := loose, KIn := KX, top := topRead_of T, nolim := T.nolimit }
  have S : Sim W env [] [("script", .lst (vInts ns))] (fun _ => none) (fun _ => none) (fun a o => s₁.heap.get? a = some o) { heap := h₁, gens := s₁.gens, drawn := s₁.drawn, toks := t, os := s₁.os } := {
    dis := fun a x e => nomatch e
    z := {
      frz := fun a o e => FF.keep a o e
      base := fun a o e => e
      memF := fun _ _ _ => rfl
      memOk := fun a x e => nomatch e
      ns := ⟨m, FF.ns, fun x v e => by
        rw [List.lookup_cons] at e
        split at e
        · rename_i q
          cases e
          rw [show x = "script" from by simpa using q]
          exact ⟨_, hm, vr_laid (fun _ _ e => e) hLs hI wl⟩
        · cases e⟩
      nsF := ⟨fun o e => (by rw [hL, get?_size] at e; cases e), rfl⟩
      outs := fun q hq => nomatch hq
      low := FF.above
      memLow := fun a x e => nomatch e
      gens := hg
      os := rfl } }
  refine wpAny_mono (h W rfl rfl rfl (fun _ => none) _ _ S) (fun f s' q => ?_) fun _ _ e => e.elim
  obtain ⟨F', v, l', m', i, r, S', rfl⟩ := q
  cases r with
  | ret r =>
    cases r.view
    exact ⟨.inl ⟨_, .bool true, [], rfl, hr, ReadsW.bool true, hp, fun _ => ⟨List.nodup_nil, fun _ hm => (nomatch hm)⟩⟩, fun b o e => S'.frz b o (i b o e), S'.os, S'.gens⟩
end Mine
end
section
namespace Mine
noncomputable def codeOf : Data → Value
  | .func f => f.code
  | _ => .none
theorem fin : PySem.Challenge.rw_te0001_02.Holds := head (by
  k_fill
  intro w s₀ s₁ mg mb G Y fa o pm cd doc dV kV ho hd hcd hD hmg hg args vals as hpre hlay hrd hwl hlo
  have KX : (lawHeap w.params).In s₁.heap := kIn_of Y
  have hmg2 := hmg
  have ho2 := ho
  have hd2 := congrArg codeOf hd
  refine Ground.open G ?_
  intro T B D TE TW
  obtain ⟨_, _, M⟩ := bmod_of_top T
  have TA := at_of_top T
  clear hmg
  wrow_args hpre hlay hrd hwl hlo
  all_goals (
    refine enter_call ?_
    w_top on
    refine codeAny_mono ?_ (fun _ _ g => GoodW.toG g)
    have K0 := below_caller (Top.heap T)
    w_call any ho hd hcd hD T F
    clear hd TA
    k_drop)
  have T : Top view (looseW view ["Production", "Grammar"]) (ExcName.means s₀.heap) mg mb s₁.heap := by assumption
  have efa : fa = 290 := by
    have e := (mg_of (n := "law") KX T.g (by rfl)).symm.trans hmg2
    cases e; rfl
  subst efa
  have eo := (KX _ _ (lLaw.at w.params)).symm.trans ho2
  obtain rfl := Option.some.inj eo
  have ecd : lLaw.code = cd := hd2
  rw [← ecd]
  clear hd2 ho2 eo hmg2
  refine enter (env := lwE s₁.heap.objs.size) KX T hg (by assumption) (by assumption) (by assumption) (by assumption) rfl rfl (fun _ => rfl) (by kernel_rfl) fun W e1 e2 e3 => ?_
  exact law_body (e3.trans (by rw [e2])) ⟨rfl, rfl, Nat.le_of_ble_eq_true rfl, Nat.le_of_ble_eq_true rfl⟩ ⟨[], rfl, rfl, rfl, fun e he => nomatch he⟩ (by omega) fun _ _ => rfl)
end Mine
end
theorem PySem.Challenge.cw_te0001_02_holds : PySem.Challenge.rw_te0001_02.Holds :=
  Mine.fin
