import PyProof.Rows.All
import Wide.All
import OpenK.AllK
import Wide.FinOn
import KE.FramesApart
import PyProof.ExcBaseAll.Exception
import PyProof.Rows.CallKwBuiltin
import KE.KDictSum
import KE.KDictList
import KE.KTab
import KE.KSortTup
import KE.KEqDict
import OpenK.TopRead
import Lean
import PySem.Challenge.RW_te0001_01
open PySem PySem.W PySem.Calls PyProof.Rows
set_option Elab.async false
set_option maxRecDepth 100000
set_option autoImplicit false
set_option compiler.extract_closed false
set_option maxHeartbeats 8000000
set_option linter.unusedVariables false
namespace Mine
noncomputable abbrev pw:Program:=PySem.Challenge.pw_te0001_01
noncomputable def stAt(l:List Stmt)(i:Nat):Stmt:=l.getD i (.Pass ⟨0,0,0,0⟩)
noncomputable def noA:Arguments:=⟨[],[],none,[],[],none,[]⟩
noncomputable def noS:Scope:={ kind:=.function,names:=[],isGenerator:=false,isCoroutine:=false }
noncomputable def noP:Arguments×List Stmt×Scope:=(noA,[],noS)
noncomputable def stP(s:Stmt):Arguments×List Stmt×Scope:=Stmt.casesOn (motive_2:=fun _=>Arguments×List Stmt×Scope) s (fun _ a b _ _ _ s _ _ _=>(a,b,s)) (fun _ _ _ _ _ _ _ _ _ _=>noP) (fun _ _ _ b _ _ _ _ _ _ _=>(noA,b,noS)) (fun _ _=>noP) (fun _ _=>noP) (fun _ _ _=>noP) (fun _ _ _ _ _ _ _=>noP) (fun _ _ _ _=>noP) (fun _ _ _ _ _=>noP) (fun _ _ b _ _=>(noA,b,noS)) (fun _ _ _ _ _=>noP) (fun _ b _ _=>(noA,b,noS)) (fun _ b _ _=>(noA,b,noS)) (fun _ _ _=>noP) (fun _ _ _=>noP) (fun _ _ _=>noP) (fun _ _ _=>noP) (fun b _ _ _ _=>(noA,b,noS)) (fun _ _ _ _ _=>noP) (fun _ _ _=>noP) (fun _ _=>noP) (fun _ _ _ _=>noP) (fun _ _=>noP) (fun _ _=>noP) (fun _ _=>noP) (fun _=>noP) (fun _=>noP) (fun _=>noP)
noncomputable def stBody(s:Stmt):List Stmt:=(stP s).2.1
noncomputable def stArgs(s:Stmt):Arguments:=(stP s).1
noncomputable def stScope(s:Stmt):Scope:=(stP s).2.2
noncomputable def view:Program:={ pw with main:={ pw.main with body:=[0,2,3,4,5,6,7,8,9,11,12,13,14,15,16,17,18,19,20].map (stAt pw.main.body) } }
noncomputable def lawHeap(P:Params):Frag:=[
 (2,Obj.mk (Value.none) (none) (Data.dict #[{ hash:=PyData.keyHash P (Str.ofString "type.__subclasses__.Exception.0"),key:=Value.str (Str.ofString "type.__subclasses__.Exception.0") 212,val:=Value.int 31 0 },{ hash:=PyData.keyHash P (Str.ofString "type.__subclasses__.Exception.n"),key:=Value.str (Str.ofString "type.__subclasses__.Exception.n") 213,val:=Value.int 1 0 }] 2) (#[])),
 (3,Obj.mk (Value.type "dict") (none) (Data.dict #[{ hash:=PyData.keyHash P (Str.ofString "__name__"),key:=Value.str (Str.ofString "__name__") 165,val:=Value.str (Str.ofString "law_te0001_01") 519 },{ hash:=PyData.keyHash P (Str.ofString "__doc__"),key:=Value.str (Str.ofString "__doc__") 166,val:=Value.none },{ hash:=PyData.keyHash P (Str.ofString "__package__"),key:=Value.str (Str.ofString "__package__") 167,val:=Value.none },{ hash:=PyData.keyHash P (Str.ofString "__loader__"),key:=Value.str (Str.ofString "__loader__") 168,val:=Value.builtin "__main__.__loader__#opaque" },{ hash:=PyData.keyHash P (Str.ofString "__spec__"),key:=Value.str (Str.ofString "__spec__") 169,val:=Value.none },{ hash:=PyData.keyHash P (Str.ofString "__annotations__"),key:=Value.str (Str.ofString "__annotations__") 170,val:=Value.ref 6 },{ hash:=PyData.keyHash P (Str.ofString "__builtins__"),key:=Value.str (Str.ofString "__builtins__") 171,val:=Value.ref 4 },{ hash:=PyData.keyHash P (Str.ofString "__file__"),key:=Value.str (Str.ofString "__file__") 173,val:=Value.str (Str.ofString "/claim/cut.py") 172 },{ hash:=PyData.keyHash P (Str.ofString "__cached__"),key:=Value.str (Str.ofString "__cached__") 174,val:=Value.none },{ hash:=PyData.keyHash P (Str.ofString "_wall"),key:=Value.str (Str.ofString "_wall") 193,val:=Value.ref 21 },{ hash:=PyData.keyHash P (Str.ofString "YaccError"),key:=Value.str (Str.ofString "YaccError") 215,val:=Value.ref 31 },{ hash:=PyData.keyHash P (Str.ofString "_is_identifier"),key:=Value.str (Str.ofString "_is_identifier") 221,val:=Value.ref 39 },{ hash:=PyData.keyHash P (Str.ofString "_IDENTIFIER"),key:=Value.str (Str.ofString "_IDENTIFIER") 223,val:=Value.str (Str.ofString "abcdefghijklmnopqrstuvwxyzABCDEFGHIJKLMNOPQRSTUVWXYZ0123456789_-") 222 },{ hash:=PyData.keyHash P (Str.ofString "_literal"),key:=Value.str (Str.ofString "_literal") 230,val:=Value.ref 46 },{ hash:=PyData.keyHash P (Str.ofString "Production"),key:=Value.str (Str.ofString "Production") 323,val:=Value.ref 100 },{ hash:=PyData.keyHash P (Str.ofString "rightmost_terminal"),key:=Value.str (Str.ofString "rightmost_terminal") 332,val:=Value.ref 111 },{ hash:=PyData.keyHash P (Str.ofString "GrammarError"),key:=Value.str (Str.ofString "GrammarError") 348,val:=Value.ref 121 },{ hash:=PyData.keyHash P (Str.ofString "Grammar"),key:=Value.str (Str.ofString "Grammar") 518,val:=Value.ref 248 },{ hash:=PyData.keyHash P (Str.ofString "_law_WORDS"),key:=Value.str (Str.ofString "_law_WORDS") 537,val:=Value.ref 253 },{ hash:=PyData.keyHash P (Str.ofString "_law_MEANT"),key:=Value.str (Str.ofString "_law_MEANT") 565,val:=Value.ref 254 },{ hash:=PyData.keyHash P (Str.ofString "_law_HEADS"),key:=Value.str (Str.ofString "_law_HEADS") 571,val:=Value.ref 261 },{ hash:=PyData.keyHash P (Str.ofString "_law_next"),key:=Value.str (Str.ofString "_law_next") 578,val:=Value.ref 268 },{ hash:=PyData.keyHash P (Str.ofString "_law_set"),key:=Value.str (Str.ofString "_law_set") 588,val:=Value.ref 275 },{ hash:=PyData.keyHash P (Str.ofString "_law_add"),key:=Value.str (Str.ofString "_law_add") 598,val:=Value.ref 282 },{ hash:=PyData.keyHash P (Str.ofString "_law_start"),key:=Value.str (Str.ofString "_law_start") 606,val:=Value.ref 289 },{ hash:=PyData.keyHash P (Str.ofString "_law_words"),key:=Value.str (Str.ofString "_law_words") 612,val:=Value.ref 294 },{ hash:=PyData.keyHash P (Str.ofString "_law_reading"),key:=Value.str (Str.ofString "_law_reading") 618,val:=Value.ref 299 },{ hash:=PyData.keyHash P (Str.ofString "law"),key:=Value.str (Str.ofString "law") 624,val:=Value.ref 304 }] 28) (#[])),
 (20,Obj.mk (Value.type "code") (none) (Data.fields #[Value.str (Str.ofString "_wall") 187,Value.str (Str.ofString "_wall") 188,Value.str (Str.ofString "/claim/cut.py") 189,Value.int 1 0,Value.int 1 0,Value.int 0 0,Value.int 0 0,Value.int 3 0,Value.ref 15,Value.bool true,Value.int 181 0,Value.ref 16,Value.none,Value.ref 17,Value.ref 18,Value.ref 19,Value.int 191 0,Value.int 1 0,Value.str (Str.ofString "/claim/cut.py") 192]) (#[])),
 (21,Obj.mk (Value.type "function") (none) (Data.func (FuncData.mk (Str.ofString "_wall") (Str.ofString "_wall") (stArgs (stAt pw.main.body 0)) (.stmts (stBody (stAt pw.main.body 0))) (stScope (stAt pw.main.body 0)) 3 [] (Value.none) (Value.none) (Value.none) (Value.str (Str.ofString "__main__") 164) (none) (Value.ref 20) (Value.none) 0)) (#[])),
 (30,Obj.mk (Value.type "dict") (none) (Data.dict #[{ hash:=PyData.keyHash P (Str.ofString "__module__"),key:=Value.str (Str.ofString "__module__") 203,val:=Value.str (Str.ofString "ply.yacc") 194 },{ hash:=PyData.keyHash P (Str.ofString "__firstlineno__"),key:=Value.str (Str.ofString "__firstlineno__") 207,val:=Value.int 5 206 },{ hash:=PyData.keyHash P (Str.ofString "__static_attributes__"),key:=Value.str (Str.ofString "__static_attributes__") 208,val:=Value.ref 29 },{ hash:=PyData.keyHash P (Str.ofString "__weakref__"),key:=Value.str (Str.ofString "__weakref__") 210,val:=Value.ref 32 },{ hash:=PyData.keyHash P (Str.ofString "__doc__"),key:=Value.str (Str.ofString "__doc__") 211,val:=Value.none }] 3) (#[])),
 (31,Obj.mk (Value.type "type") (none) (Data.cls { name:=Str.ofString "YaccError",bases:=[Value.type "Exception"],mro:=[Value.ref 31,Value.type "Exception",Value.type "BaseException",Value.type "object"],ns:=30,qualname:=Str.ofString "YaccError",subclasses:=[Value.ref 121] }) (#[some (Value.ref 22),none,some (Value.str (Str.ofString "YaccError") 196),some (Value.str (Str.ofString "YaccError") 204),some (Value.builtin "Exception.__new__"),some (Value.bool true)])),
 (32,Obj.mk (Value.type "getset_descriptor") (none) (Data.fields #[Value.str (Str.ofString "__weakref__") 209,Value.ref 31,Value.builtin "ExceptionGroup.__weakref__",Value.none]) (#[])),
 (38,Obj.mk (Value.type "code") (none) (Data.fields #[Value.str (Str.ofString "_is_identifier") 216,Value.str (Str.ofString "_is_identifier") 217,Value.str (Str.ofString "/claim/cut.py") 218,Value.int 7 0,Value.int 1 0,Value.int 0 0,Value.int 0 0,Value.int 3 0,Value.ref 35,Value.bool true,Value.int 181 0,Value.ref 36,Value.none,Value.none,Value.none,Value.ref 37,Value.int 219 0,Value.int 7 0,Value.str (Str.ofString "/claim/cut.py") 220]) (#[])),
 (39,Obj.mk (Value.type "function") (none) (Data.func (FuncData.mk (Str.ofString "_is_identifier") (Str.ofString "_is_identifier") (stArgs (stAt pw.main.body 3)) (.stmts (stBody (stAt pw.main.body 3))) (stScope (stAt pw.main.body 3)) 3 [] (Value.none) (Value.none) (Value.none) (Value.str (Str.ofString "ply.yacc") 194) (none) (Value.ref 38) (Value.none) 0)) (#[])),
 (45,Obj.mk (Value.type "code") (none) (Data.fields #[Value.str (Str.ofString "_literal") 224,Value.str (Str.ofString "_literal") 225,Value.str (Str.ofString "/claim/cut.py") 226,Value.int 10 0,Value.int 1 0,Value.int 0 0,Value.int 0 0,Value.int 3 0,Value.ref 40,Value.bool true,Value.int 181 0,Value.ref 41,Value.none,Value.ref 42,Value.ref 43,Value.ref 44,Value.int 228 0,Value.int 10 0,Value.str (Str.ofString "/claim/cut.py") 229]) (#[])),
 (46,Obj.mk (Value.type "function") (none) (Data.func (FuncData.mk (Str.ofString "_literal") (Str.ofString "_literal") (stArgs (stAt pw.main.body 5)) (.stmts (stBody (stAt pw.main.body 5))) (stScope (stAt pw.main.body 5)) 3 [] (Value.none) (Value.none) (Value.none) (Value.str (Str.ofString "ply.yacc") 194) (none) (Value.ref 45) (Value.none) 0)) (#[])),
 (54,Obj.mk (Value.type "tuple") (none) (Data.seq #[Value.str (Str.ofString "right") 247,Value.int 0 248]) (#[])),
 (55,Obj.mk (Value.type "tuple") (none) (Data.seq #[Value.ref 54,Value.none,Value.str (Str.ofString "") 249,Value.int 0 250]) (#[])),
 (61,Obj.mk (Value.type "code") (none) (Data.fields #[Value.str (Str.ofString "__init__") 251,Value.str (Str.ofString "Production.__init__") 252,Value.str (Str.ofString "/claim/cut.py") 253,Value.int 18 0,Value.int 8 0,Value.int 0 0,Value.int 0 0,Value.int 3 0,Value.ref 56,Value.bool true,Value.int 181 0,Value.ref 57,Value.none,Value.ref 58,Value.ref 59,Value.ref 60,Value.int 263 0,Value.int 18 0,Value.str (Str.ofString "/claim/cut.py") 264]) (#[])),
 (62,Obj.mk (Value.type "function") (none) (Data.func (FuncData.mk (Str.ofString "__init__") (Str.ofString "Production.__init__") (stArgs (stAt (stBody (stAt pw.main.body 6)) 2)) (.stmts (stBody (stAt (stBody (stAt pw.main.body 6)) 2))) (stScope (stAt (stBody (stAt pw.main.body 6)) 2)) 3 [] (Value.ref 55) (Value.none) (Value.none) (Value.str (Str.ofString "ply.yacc") 194) (none) (Value.ref 61) (Value.none) 0)) (#[])),
 (68,Obj.mk (Value.type "code") (none) (Data.fields #[Value.str (Str.ofString "__str__") 266,Value.str (Str.ofString "Production.__str__") 267,Value.str (Str.ofString "/claim/cut.py") 268,Value.int 39 0,Value.int 1 0,Value.int 0 0,Value.int 0 0,Value.int 3 0,Value.ref 63,Value.bool true,Value.int 181 0,Value.ref 64,Value.none,Value.ref 65,Value.ref 66,Value.ref 67,Value.int 270 0,Value.int 39 0,Value.str (Str.ofString "/claim/cut.py") 271]) (#[])),
 (69,Obj.mk (Value.type "function") (none) (Data.func (FuncData.mk (Str.ofString "__str__") (Str.ofString "Production.__str__") (stArgs (stAt (stBody (stAt pw.main.body 6)) 3)) (.stmts (stBody (stAt (stBody (stAt pw.main.body 6)) 3))) (stScope (stAt (stBody (stAt pw.main.body 6)) 3)) 3 [] (Value.none) (Value.none) (Value.none) (Value.str (Str.ofString "ply.yacc") 194) (none) (Value.ref 68) (Value.none) 0)) (#[])),
 (75,Obj.mk (Value.type "code") (none) (Data.fields #[Value.str (Str.ofString "__repr__") 273,Value.str (Str.ofString "Production.__repr__") 274,Value.str (Str.ofString "/claim/cut.py") 275,Value.int 42 0,Value.int 1 0,Value.int 0 0,Value.int 0 0,Value.int 3 0,Value.ref 70,Value.bool true,Value.int 181 0,Value.ref 71,Value.none,Value.ref 72,Value.ref 73,Value.ref 74,Value.int 277 0,Value.int 42 0,Value.str (Str.ofString "/claim/cut.py") 278]) (#[])),
 (76,Obj.mk (Value.type "function") (none) (Data.func (FuncData.mk (Str.ofString "__repr__") (Str.ofString "Production.__repr__") (stArgs (stAt (stBody (stAt pw.main.body 6)) 4)) (.stmts (stBody (stAt (stBody (stAt pw.main.body 6)) 4))) (stScope (stAt (stBody (stAt pw.main.body 6)) 4)) 3 [] (Value.none) (Value.none) (Value.none) (Value.str (Str.ofString "ply.yacc") 194) (none) (Value.ref 75) (Value.none) 0)) (#[])),
 (82,Obj.mk (Value.type "code") (none) (Data.fields #[Value.str (Str.ofString "__len__") 280,Value.str (Str.ofString "Production.__len__") 281,Value.str (Str.ofString "/claim/cut.py") 282,Value.int 45 0,Value.int 1 0,Value.int 0 0,Value.int 0 0,Value.int 3 0,Value.ref 77,Value.bool true,Value.int 181 0,Value.ref 78,Value.none,Value.ref 79,Value.ref 80,Value.ref 81,Value.int 284 0,Value.int 45 0,Value.str (Str.ofString "/claim/cut.py") 285]) (#[])),
 (83,Obj.mk (Value.type "function") (none) (Data.func (FuncData.mk (Str.ofString "__len__") (Str.ofString "Production.__len__") (stArgs (stAt (stBody (stAt pw.main.body 6)) 5)) (.stmts (stBody (stAt (stBody (stAt pw.main.body 6)) 5))) (stScope (stAt (stBody (stAt pw.main.body 6)) 5)) 3 [] (Value.none) (Value.none) (Value.none) (Value.str (Str.ofString "ply.yacc") 194) (none) (Value.ref 82) (Value.none) 0)) (#[])),
 (89,Obj.mk (Value.type "code") (none) (Data.fields #[Value.str (Str.ofString "__getitem__") 287,Value.str (Str.ofString "Production.__getitem__") 288,Value.str (Str.ofString "/claim/cut.py") 289,Value.int 48 0,Value.int 2 0,Value.int 0 0,Value.int 0 0,Value.int 3 0,Value.ref 84,Value.bool true,Value.int 181 0,Value.ref 85,Value.none,Value.ref 86,Value.ref 87,Value.ref 88,Value.int 292 0,Value.int 48 0,Value.str (Str.ofString "/claim/cut.py") 293]) (#[])),
 (90,Obj.mk (Value.type "function") (none) (Data.func (FuncData.mk (Str.ofString "__getitem__") (Str.ofString "Production.__getitem__") (stArgs (stAt (stBody (stAt pw.main.body 6)) 6)) (.stmts (stBody (stAt (stBody (stAt pw.main.body 6)) 6))) (stScope (stAt (stBody (stAt pw.main.body 6)) 6)) 3 [] (Value.none) (Value.none) (Value.none) (Value.str (Str.ofString "ply.yacc") 194) (none) (Value.ref 89) (Value.none) 0)) (#[])),
 (96,Obj.mk (Value.type "code") (none) (Data.fields #[Value.str (Str.ofString "bind") 295,Value.str (Str.ofString "Production.bind") 296,Value.str (Str.ofString "/claim/cut.py") 297,Value.int 51 0,Value.int 2 0,Value.int 0 0,Value.int 0 0,Value.int 3 0,Value.ref 91,Value.bool true,Value.int 181 0,Value.ref 92,Value.none,Value.ref 93,Value.ref 94,Value.ref 95,Value.int 300 0,Value.int 51 0,Value.str (Str.ofString "/claim/cut.py") 301]) (#[])),
 (97,Obj.mk (Value.type "function") (none) (Data.func (FuncData.mk (Str.ofString "bind") (Str.ofString "Production.bind") (stArgs (stAt (stBody (stAt pw.main.body 6)) 7)) (.stmts (stBody (stAt (stBody (stAt pw.main.body 6)) 7))) (stScope (stAt (stBody (stAt pw.main.body 6)) 7)) 3 [] (Value.none) (Value.none) (Value.none) (Value.str (Str.ofString "ply.yacc") 194) (none) (Value.ref 96) (Value.none) 0)) (#[])),
 (99,Obj.mk (Value.type "dict") (none) (Data.dict #[{ hash:=PyData.keyHash P (Str.ofString "__module__"),key:=Value.str (Str.ofString "__module__") 238,val:=Value.str (Str.ofString "ply.yacc") 194 },{ hash:=PyData.keyHash P (Str.ofString "__firstlineno__"),key:=Value.str (Str.ofString "__firstlineno__") 242,val:=Value.int 14 241 },{ hash:=PyData.keyHash P (Str.ofString "reduced"),key:=Value.str (Str.ofString "reduced") 244,val:=Value.int 0 243 },{ hash:=PyData.keyHash P (Str.ofString "lr0_added"),key:=Value.str (Str.ofString "lr0_added") 246,val:=Value.int 0 245 },{ hash:=PyData.keyHash P (Str.ofString "__init__"),key:=Value.str (Str.ofString "__init__") 265,val:=Value.ref 62 },{ hash:=PyData.keyHash P (Str.ofString "__str__"),key:=Value.str (Str.ofString "__str__") 272,val:=Value.ref 69 },{ hash:=PyData.keyHash P (Str.ofString "__repr__"),key:=Value.str (Str.ofString "__repr__") 279,val:=Value.ref 76 },{ hash:=PyData.keyHash P (Str.ofString "__len__"),key:=Value.str (Str.ofString "__len__") 286,val:=Value.ref 83 },{ hash:=PyData.keyHash P (Str.ofString "__getitem__"),key:=Value.str (Str.ofString "__getitem__") 294,val:=Value.ref 90 },{ hash:=PyData.keyHash P (Str.ofString "bind"),key:=Value.str (Str.ofString "bind") 302,val:=Value.ref 97 },{ hash:=PyData.keyHash P (Str.ofString "__static_attributes__"),key:=Value.str (Str.ofString "__static_attributes__") 316,val:=Value.ref 98 },{ hash:=PyData.keyHash P (Str.ofString "__dict__"),key:=Value.str (Str.ofString "__dict__") 318,val:=Value.ref 101 },{ hash:=PyData.keyHash P (Str.ofString "__weakref__"),key:=Value.str (Str.ofString "__weakref__") 320,val:=Value.ref 102 },{ hash:=PyData.keyHash P (Str.ofString "__doc__"),key:=Value.str (Str.ofString "__doc__") 321,val:=Value.none }] 4) (#[])),
 (100,Obj.mk (Value.type "type") (none) (Data.cls { name:=Str.ofString "Production",bases:=[Value.type "object"],mro:=[Value.ref 100,Value.type "object"],ns:=99,qualname:=Str.ofString "Production" }) (#[some (Value.ref 47),none,some (Value.str (Str.ofString "Production") 231),some (Value.str (Str.ofString "Production") 239),some (Value.builtin "object.__new__"),some (Value.bool true)])),
 (101,Obj.mk (Value.type "getset_descriptor") (none) (Data.fields #[Value.str (Str.ofString "__dict__") 317,Value.ref 100,Value.builtin "function.__dict__",Value.builtin "function.__dict__#set"]) (#[])),
 (102,Obj.mk (Value.type "getset_descriptor") (none) (Data.fields #[Value.str (Str.ofString "__weakref__") 319,Value.ref 100,Value.builtin "ExceptionGroup.__weakref__",Value.none]) (#[])),
 (110,Obj.mk (Value.type "code") (none) (Data.fields #[Value.str (Str.ofString "rightmost_terminal") 324,Value.str (Str.ofString "rightmost_terminal") 325,Value.str (Str.ofString "/claim/cut.py") 326,Value.int 53 0,Value.int 2 0,Value.int 0 0,Value.int 0 0,Value.int 3 0,Value.ref 105,Value.bool true,Value.int 181 0,Value.ref 106,Value.none,Value.ref 107,Value.ref 108,Value.ref 109,Value.int 330 0,Value.int 53 0,Value.str (Str.ofString "/claim/cut.py") 331]) (#[])),
 (111,Obj.mk (Value.type "function") (none) (Data.func (FuncData.mk (Str.ofString "rightmost_terminal") (Str.ofString "rightmost_terminal") (stArgs (stAt pw.main.body 7)) (.stmts (stBody (stAt pw.main.body 7))) (stScope (stAt pw.main.body 7)) 3 [] (Value.none) (Value.none) (Value.none) (Value.str (Str.ofString "ply.yacc") 194) (none) (Value.ref 110) (Value.none) 0)) (#[])),
 (120,Obj.mk (Value.type "dict") (none) (Data.dict #[{ hash:=PyData.keyHash P (Str.ofString "__module__"),key:=Value.str (Str.ofString "__module__") 340,val:=Value.str (Str.ofString "ply.yacc") 194 },{ hash:=PyData.keyHash P (Str.ofString "__firstlineno__"),key:=Value.str (Str.ofString "__firstlineno__") 344,val:=Value.int 60 343 },{ hash:=PyData.keyHash P (Str.ofString "__static_attributes__"),key:=Value.str (Str.ofString "__static_attributes__") 345,val:=Value.ref 119 },{ hash:=PyData.keyHash P (Str.ofString "__doc__"),key:=Value.str (Str.ofString "__doc__") 346,val:=Value.none }] 2) (#[])),
 (121,Obj.mk (Value.type "type") (none) (Data.cls { name:=Str.ofString "GrammarError",bases:=[Value.ref 31],mro:=[Value.ref 121,Value.ref 31,Value.type "Exception",Value.type "BaseException",Value.type "object"],ns:=120,qualname:=Str.ofString "GrammarError" }) (#[some (Value.ref 112),none,some (Value.str (Str.ofString "GrammarError") 333),some (Value.str (Str.ofString "GrammarError") 341),some (Value.builtin "Exception.__new__"),some (Value.bool true)])),
 (136,Obj.mk (Value.type "code") (none) (Data.fields #[Value.str (Str.ofString "__init__") 361,Value.str (Str.ofString "Grammar.__init__") 362,Value.str (Str.ofString "/claim/cut.py") 363,Value.int 64 0,Value.int 2 0,Value.int 0 0,Value.int 0 0,Value.int 3 0,Value.ref 131,Value.bool true,Value.int 181 0,Value.ref 132,Value.none,Value.ref 133,Value.ref 134,Value.ref 135,Value.int 367 0,Value.int 64 0,Value.str (Str.ofString "/claim/cut.py") 368]) (#[])),
 (137,Obj.mk (Value.type "function") (none) (Data.func (FuncData.mk (Str.ofString "__init__") (Str.ofString "Grammar.__init__") (stArgs (stAt (stBody (stAt pw.main.body 9)) 0)) (.stmts (stBody (stAt (stBody (stAt pw.main.body 9)) 0))) (stScope (stAt (stBody (stAt pw.main.body 9)) 0)) 3 [] (Value.none) (Value.none) (Value.none) (Value.str (Str.ofString "ply.yacc") 194) (none) (Value.ref 136) (Value.none) 0)) (#[])),
 (143,Obj.mk (Value.type "code") (none) (Data.fields #[Value.str (Str.ofString "__len__") 370,Value.str (Str.ofString "Grammar.__len__") 371,Value.str (Str.ofString "/claim/cut.py") 372,Value.int 79 0,Value.int 1 0,Value.int 0 0,Value.int 0 0,Value.int 3 0,Value.ref 138,Value.bool true,Value.int 181 0,Value.ref 139,Value.none,Value.ref 140,Value.ref 141,Value.ref 142,Value.int 374 0,Value.int 79 0,Value.str (Str.ofString "/claim/cut.py") 375]) (#[])),
 (144,Obj.mk (Value.type "function") (none) (Data.func (FuncData.mk (Str.ofString "__len__") (Str.ofString "Grammar.__len__") (stArgs (stAt (stBody (stAt pw.main.body 9)) 1)) (.stmts (stBody (stAt (stBody (stAt pw.main.body 9)) 1))) (stScope (stAt (stBody (stAt pw.main.body 9)) 1)) 3 [] (Value.none) (Value.none) (Value.none) (Value.str (Str.ofString "ply.yacc") 194) (none) (Value.ref 143) (Value.none) 0)) (#[])),
 (150,Obj.mk (Value.type "code") (none) (Data.fields #[Value.str (Str.ofString "__getitem__") 377,Value.str (Str.ofString "Grammar.__getitem__") 378,Value.str (Str.ofString "/claim/cut.py") 379,Value.int 82 0,Value.int 2 0,Value.int 0 0,Value.int 0 0,Value.int 3 0,Value.ref 145,Value.bool true,Value.int 181 0,Value.ref 146,Value.none,Value.ref 147,Value.ref 148,Value.ref 149,Value.int 382 0,Value.int 82 0,Value.str (Str.ofString "/claim/cut.py") 383]) (#[])),
 (151,Obj.mk (Value.type "function") (none) (Data.func (FuncData.mk (Str.ofString "__getitem__") (Str.ofString "Grammar.__getitem__") (stArgs (stAt (stBody (stAt pw.main.body 9)) 2)) (.stmts (stBody (stAt (stBody (stAt pw.main.body 9)) 2))) (stScope (stAt (stBody (stAt pw.main.body 9)) 2)) 3 [] (Value.none) (Value.none) (Value.none) (Value.str (Str.ofString "ply.yacc") 194) (none) (Value.ref 150) (Value.none) 0)) (#[])),
 (157,Obj.mk (Value.type "code") (none) (Data.fields #[Value.str (Str.ofString "set_precedence") 385,Value.str (Str.ofString "Grammar.set_precedence") 386,Value.str (Str.ofString "/claim/cut.py") 387,Value.int 85 0,Value.int 4 0,Value.int 0 0,Value.int 0 0,Value.int 3 0,Value.ref 152,Value.bool true,Value.int 181 0,Value.ref 153,Value.none,Value.ref 154,Value.ref 155,Value.ref 156,Value.int 392 0,Value.int 85 0,Value.str (Str.ofString "/claim/cut.py") 393]) (#[])),
 (158,Obj.mk (Value.type "function") (none) (Data.func (FuncData.mk (Str.ofString "set_precedence") (Str.ofString "Grammar.set_precedence") (stArgs (stAt (stBody (stAt pw.main.body 9)) 3)) (.stmts (stBody (stAt (stBody (stAt pw.main.body 9)) 3))) (stScope (stAt (stBody (stAt pw.main.body 9)) 3)) 3 [] (Value.none) (Value.none) (Value.none) (Value.str (Str.ofString "ply.yacc") 194) (none) (Value.ref 157) (Value.none) 0)) (#[])),
 (159,Obj.mk (Value.type "tuple") (none) (Data.seq #[Value.none,Value.str (Str.ofString "") 395,Value.int 0 396]) (#[])),
 (165,Obj.mk (Value.type "code") (none) (Data.fields #[Value.str (Str.ofString "add_production") 397,Value.str (Str.ofString "Grammar.add_production") 398,Value.str (Str.ofString "/claim/cut.py") 399,Value.int 93 0,Value.int 6 0,Value.int 0 0,Value.int 0 0,Value.int 3 0,Value.ref 160,Value.bool true,Value.int 181 0,Value.ref 161,Value.none,Value.ref 162,Value.ref 163,Value.ref 164,Value.int 416 0,Value.int 93 0,Value.str (Str.ofString "/claim/cut.py") 417]) (#[])),
 (166,Obj.mk (Value.type "function") (none) (Data.func (FuncData.mk (Str.ofString "add_production") (Str.ofString "Grammar.add_production") (stArgs (stAt (stBody (stAt pw.main.body 9)) 4)) (.stmts (stBody (stAt (stBody (stAt pw.main.body 9)) 4))) (stScope (stAt (stBody (stAt pw.main.body 9)) 4)) 3 [] (Value.ref 159) (Value.none) (Value.none) (Value.str (Str.ofString "ply.yacc") 194) (none) (Value.ref 165) (Value.none) 0)) (#[])),
 (167,Obj.mk (Value.type "tuple") (none) (Data.seq #[Value.none]) (#[])),
 (173,Obj.mk (Value.type "code") (none) (Data.fields #[Value.str (Str.ofString "set_start") 419,Value.str (Str.ofString "Grammar.set_start") 420,Value.str (Str.ofString "/claim/cut.py") 421,Value.int 151 0,Value.int 2 0,Value.int 0 0,Value.int 0 0,Value.int 3 0,Value.ref 168,Value.bool true,Value.int 181 0,Value.ref 169,Value.none,Value.ref 170,Value.ref 171,Value.ref 172,Value.int 424 0,Value.int 151 0,Value.str (Str.ofString "/claim/cut.py") 425]) (#[])),
 (174,Obj.mk (Value.type "function") (none) (Data.func (FuncData.mk (Str.ofString "set_start") (Str.ofString "Grammar.set_start") (stArgs (stAt (stBody (stAt pw.main.body 9)) 5)) (.stmts (stBody (stAt (stBody (stAt pw.main.body 9)) 5))) (stScope (stAt (stBody (stAt pw.main.body 9)) 5)) 3 [] (Value.ref 167) (Value.none) (Value.none) (Value.str (Str.ofString "ply.yacc") 194) (none) (Value.ref 173) (Value.none) 0)) (#[])),
 (180,Obj.mk (Value.type "code") (none) (Data.fields #[Value.str (Str.ofString "find_unreachable") 427,Value.str (Str.ofString "Grammar.find_unreachable") 428,Value.str (Str.ofString "/claim/cut.py") 429,Value.int 160 0,Value.int 1 0,Value.int 0 0,Value.int 0 0,Value.int 3 0,Value.ref 175,Value.bool true,Value.int 181 0,Value.ref 176,Value.none,Value.ref 177,Value.ref 178,Value.ref 179,Value.int 431 0,Value.int 160 0,Value.str (Str.ofString "/claim/cut.py") 432]) (#[])),
 (181,Obj.mk (Value.type "function") (none) (Data.func (FuncData.mk (Str.ofString "find_unreachable") (Str.ofString "Grammar.find_unreachable") (stArgs (stAt (stBody (stAt pw.main.body 9)) 6)) (.stmts (stBody (stAt (stBody (stAt pw.main.body 9)) 6))) (stScope (stAt (stBody (stAt pw.main.body 9)) 6)) 3 [] (Value.none) (Value.none) (Value.none) (Value.str (Str.ofString "ply.yacc") 194) (none) (Value.ref 180) (Value.none) 0)) (#[])),
 (187,Obj.mk (Value.type "code") (none) (Data.fields #[Value.str (Str.ofString "infinite_cycles") 434,Value.str (Str.ofString "Grammar.infinite_cycles") 435,Value.str (Str.ofString "/claim/cut.py") 436,Value.int 163 0,Value.int 1 0,Value.int 0 0,Value.int 0 0,Value.int 3 0,Value.ref 182,Value.bool true,Value.int 181 0,Value.ref 183,Value.none,Value.ref 184,Value.ref 185,Value.ref 186,Value.int 438 0,Value.int 163 0,Value.str (Str.ofString "/claim/cut.py") 439]) (#[])),
 (188,Obj.mk (Value.type "function") (none) (Data.func (FuncData.mk (Str.ofString "infinite_cycles") (Str.ofString "Grammar.infinite_cycles") (stArgs (stAt (stBody (stAt pw.main.body 9)) 7)) (.stmts (stBody (stAt (stBody (stAt pw.main.body 9)) 7))) (stScope (stAt (stBody (stAt pw.main.body 9)) 7)) 3 [] (Value.none) (Value.none) (Value.none) (Value.str (Str.ofString "ply.yacc") 194) (none) (Value.ref 187) (Value.none) 0)) (#[])),
 (194,Obj.mk (Value.type "code") (none) (Data.fields #[Value.str (Str.ofString "undefined_symbols") 441,Value.str (Str.ofString "Grammar.undefined_symbols") 442,Value.str (Str.ofString "/claim/cut.py") 443,Value.int 166 0,Value.int 1 0,Value.int 0 0,Value.int 0 0,Value.int 3 0,Value.ref 189,Value.bool true,Value.int 181 0,Value.ref 190,Value.none,Value.ref 191,Value.ref 192,Value.ref 193,Value.int 445 0,Value.int 166 0,Value.str (Str.ofString "/claim/cut.py") 446]) (#[])),
 (195,Obj.mk (Value.type "function") (none) (Data.func (FuncData.mk (Str.ofString "undefined_symbols") (Str.ofString "Grammar.undefined_symbols") (stArgs (stAt (stBody (stAt pw.main.body 9)) 8)) (.stmts (stBody (stAt (stBody (stAt pw.main.body 9)) 8))) (stScope (stAt (stBody (stAt pw.main.body 9)) 8)) 3 [] (Value.none) (Value.none) (Value.none) (Value.str (Str.ofString "ply.yacc") 194) (none) (Value.ref 194) (Value.none) 0)) (#[])),
 (201,Obj.mk (Value.type "code") (none) (Data.fields #[Value.str (Str.ofString "unused_terminals") 448,Value.str (Str.ofString "Grammar.unused_terminals") 449,Value.str (Str.ofString "/claim/cut.py") 450,Value.int 169 0,Value.int 1 0,Value.int 0 0,Value.int 0 0,Value.int 3 0,Value.ref 196,Value.bool true,Value.int 181 0,Value.ref 197,Value.none,Value.ref 198,Value.ref 199,Value.ref 200,Value.int 452 0,Value.int 169 0,Value.str (Str.ofString "/claim/cut.py") 453]) (#[])),
 (202,Obj.mk (Value.type "function") (none) (Data.func (FuncData.mk (Str.ofString "unused_terminals") (Str.ofString "Grammar.unused_terminals") (stArgs (stAt (stBody (stAt pw.main.body 9)) 9)) (.stmts (stBody (stAt (stBody (stAt pw.main.body 9)) 9))) (stScope (stAt (stBody (stAt pw.main.body 9)) 9)) 3 [] (Value.none) (Value.none) (Value.none) (Value.str (Str.ofString "ply.yacc") 194) (none) (Value.ref 201) (Value.none) 0)) (#[])),
 (208,Obj.mk (Value.type "code") (none) (Data.fields #[Value.str (Str.ofString "unused_rules") 455,Value.str (Str.ofString "Grammar.unused_rules") 456,Value.str (Str.ofString "/claim/cut.py") 457,Value.int 172 0,Value.int 1 0,Value.int 0 0,Value.int 0 0,Value.int 3 0,Value.ref 203,Value.bool true,Value.int 181 0,Value.ref 204,Value.none,Value.ref 205,Value.ref 206,Value.ref 207,Value.int 459 0,Value.int 172 0,Value.str (Str.ofString "/claim/cut.py") 460]) (#[])),
 (209,Obj.mk (Value.type "function") (none) (Data.func (FuncData.mk (Str.ofString "unused_rules") (Str.ofString "Grammar.unused_rules") (stArgs (stAt (stBody (stAt pw.main.body 9)) 10)) (.stmts (stBody (stAt (stBody (stAt pw.main.body 9)) 10))) (stScope (stAt (stBody (stAt pw.main.body 9)) 10)) 3 [] (Value.none) (Value.none) (Value.none) (Value.str (Str.ofString "ply.yacc") 194) (none) (Value.ref 208) (Value.none) 0)) (#[])),
 (215,Obj.mk (Value.type "code") (none) (Data.fields #[Value.str (Str.ofString "unused_precedence") 462,Value.str (Str.ofString "Grammar.unused_precedence") 463,Value.str (Str.ofString "/claim/cut.py") 464,Value.int 175 0,Value.int 1 0,Value.int 0 0,Value.int 0 0,Value.int 3 0,Value.ref 210,Value.bool true,Value.int 181 0,Value.ref 211,Value.none,Value.ref 212,Value.ref 213,Value.ref 214,Value.int 468 0,Value.int 175 0,Value.str (Str.ofString "/claim/cut.py") 469]) (#[])),
 (216,Obj.mk (Value.type "function") (none) (Data.func (FuncData.mk (Str.ofString "unused_precedence") (Str.ofString "Grammar.unused_precedence") (stArgs (stAt (stBody (stAt pw.main.body 9)) 11)) (.stmts (stBody (stAt (stBody (stAt pw.main.body 9)) 11))) (stScope (stAt (stBody (stAt pw.main.body 9)) 11)) 3 [] (Value.none) (Value.none) (Value.none) (Value.str (Str.ofString "ply.yacc") 194) (none) (Value.ref 215) (Value.none) 0)) (#[])),
 (222,Obj.mk (Value.type "code") (none) (Data.fields #[Value.str (Str.ofString "_first") 471,Value.str (Str.ofString "Grammar._first") 472,Value.str (Str.ofString "/claim/cut.py") 473,Value.int 182 0,Value.int 2 0,Value.int 0 0,Value.int 0 0,Value.int 3 0,Value.ref 217,Value.bool true,Value.int 181 0,Value.ref 218,Value.none,Value.ref 219,Value.ref 220,Value.ref 221,Value.int 476 0,Value.int 182 0,Value.str (Str.ofString "/claim/cut.py") 477]) (#[])),
 (223,Obj.mk (Value.type "function") (none) (Data.func (FuncData.mk (Str.ofString "_first") (Str.ofString "Grammar._first") (stArgs (stAt (stBody (stAt pw.main.body 9)) 12)) (.stmts (stBody (stAt (stBody (stAt pw.main.body 9)) 12))) (stScope (stAt (stBody (stAt pw.main.body 9)) 12)) 3 [] (Value.none) (Value.none) (Value.none) (Value.str (Str.ofString "ply.yacc") 194) (none) (Value.ref 222) (Value.none) 0)) (#[])),
 (229,Obj.mk (Value.type "code") (none) (Data.fields #[Value.str (Str.ofString "compute_first") 479,Value.str (Str.ofString "Grammar.compute_first") 480,Value.str (Str.ofString "/claim/cut.py") 481,Value.int 185 0,Value.int 1 0,Value.int 0 0,Value.int 0 0,Value.int 3 0,Value.ref 224,Value.bool true,Value.int 181 0,Value.ref 225,Value.none,Value.ref 226,Value.ref 227,Value.ref 228,Value.int 483 0,Value.int 185 0,Value.str (Str.ofString "/claim/cut.py") 484]) (#[])),
 (230,Obj.mk (Value.type "function") (none) (Data.func (FuncData.mk (Str.ofString "compute_first") (Str.ofString "Grammar.compute_first") (stArgs (stAt (stBody (stAt pw.main.body 9)) 13)) (.stmts (stBody (stAt (stBody (stAt pw.main.body 9)) 13))) (stScope (stAt (stBody (stAt pw.main.body 9)) 13)) 3 [] (Value.none) (Value.none) (Value.none) (Value.str (Str.ofString "ply.yacc") 194) (none) (Value.ref 229) (Value.none) 0)) (#[])),
 (231,Obj.mk (Value.type "tuple") (none) (Data.seq #[Value.none]) (#[])),
 (237,Obj.mk (Value.type "code") (none) (Data.fields #[Value.str (Str.ofString "compute_follow") 486,Value.str (Str.ofString "Grammar.compute_follow") 487,Value.str (Str.ofString "/claim/cut.py") 488,Value.int 188 0,Value.int 2 0,Value.int 0 0,Value.int 0 0,Value.int 3 0,Value.ref 232,Value.bool true,Value.int 181 0,Value.ref 233,Value.none,Value.ref 234,Value.ref 235,Value.ref 236,Value.int 491 0,Value.int 188 0,Value.str (Str.ofString "/claim/cut.py") 492]) (#[])),
 (238,Obj.mk (Value.type "function") (none) (Data.func (FuncData.mk (Str.ofString "compute_follow") (Str.ofString "Grammar.compute_follow") (stArgs (stAt (stBody (stAt pw.main.body 9)) 14)) (.stmts (stBody (stAt (stBody (stAt pw.main.body 9)) 14))) (stScope (stAt (stBody (stAt pw.main.body 9)) 14)) 3 [] (Value.ref 231) (Value.none) (Value.none) (Value.str (Str.ofString "ply.yacc") 194) (none) (Value.ref 237) (Value.none) 0)) (#[])),
 (244,Obj.mk (Value.type "code") (none) (Data.fields #[Value.str (Str.ofString "build_lritems") 494,Value.str (Str.ofString "Grammar.build_lritems") 495,Value.str (Str.ofString "/claim/cut.py") 496,Value.int 191 0,Value.int 1 0,Value.int 0 0,Value.int 0 0,Value.int 3 0,Value.ref 239,Value.bool true,Value.int 181 0,Value.ref 240,Value.none,Value.ref 241,Value.ref 242,Value.ref 243,Value.int 498 0,Value.int 191 0,Value.str (Str.ofString "/claim/cut.py") 499]) (#[])),
 (245,Obj.mk (Value.type "function") (none) (Data.func (FuncData.mk (Str.ofString "build_lritems") (Str.ofString "Grammar.build_lritems") (stArgs (stAt (stBody (stAt pw.main.body 9)) 15)) (.stmts (stBody (stAt (stBody (stAt pw.main.body 9)) 15))) (stScope (stAt (stBody (stAt pw.main.body 9)) 15)) 3 [] (Value.none) (Value.none) (Value.none) (Value.str (Str.ofString "ply.yacc") 194) (none) (Value.ref 244) (Value.none) 0)) (#[])),
 (247,Obj.mk (Value.type "dict") (none) (Data.dict #[{ hash:=PyData.keyHash P (Str.ofString "__module__"),key:=Value.str (Str.ofString "__module__") 356,val:=Value.str (Str.ofString "ply.yacc") 194 },{ hash:=PyData.keyHash P (Str.ofString "__firstlineno__"),key:=Value.str (Str.ofString "__firstlineno__") 360,val:=Value.int 62 359 },{ hash:=PyData.keyHash P (Str.ofString "__init__"),key:=Value.str (Str.ofString "__init__") 369,val:=Value.ref 137 },{ hash:=PyData.keyHash P (Str.ofString "__len__"),key:=Value.str (Str.ofString "__len__") 376,val:=Value.ref 144 },{ hash:=PyData.keyHash P (Str.ofString "__getitem__"),key:=Value.str (Str.ofString "__getitem__") 384,val:=Value.ref 151 },{ hash:=PyData.keyHash P (Str.ofString "set_precedence"),key:=Value.str (Str.ofString "set_precedence") 394,val:=Value.ref 158 },{ hash:=PyData.keyHash P (Str.ofString "add_production"),key:=Value.str (Str.ofString "add_production") 418,val:=Value.ref 166 },{ hash:=PyData.keyHash P (Str.ofString "set_start"),key:=Value.str (Str.ofString "set_start") 426,val:=Value.ref 174 },{ hash:=PyData.keyHash P (Str.ofString "find_unreachable"),key:=Value.str (Str.ofString "find_unreachable") 433,val:=Value.ref 181 },{ hash:=PyData.keyHash P (Str.ofString "infinite_cycles"),key:=Value.str (Str.ofString "infinite_cycles") 440,val:=Value.ref 188 },{ hash:=PyData.keyHash P (Str.ofString "undefined_symbols"),key:=Value.str (Str.ofString "undefined_symbols") 447,val:=Value.ref 195 },{ hash:=PyData.keyHash P (Str.ofString "unused_terminals"),key:=Value.str (Str.ofString "unused_terminals") 454,val:=Value.ref 202 },{ hash:=PyData.keyHash P (Str.ofString "unused_rules"),key:=Value.str (Str.ofString "unused_rules") 461,val:=Value.ref 209 },{ hash:=PyData.keyHash P (Str.ofString "unused_precedence"),key:=Value.str (Str.ofString "unused_precedence") 470,val:=Value.ref 216 },{ hash:=PyData.keyHash P (Str.ofString "_first"),key:=Value.str (Str.ofString "_first") 478,val:=Value.ref 223 },{ hash:=PyData.keyHash P (Str.ofString "compute_first"),key:=Value.str (Str.ofString "compute_first") 485,val:=Value.ref 230 },{ hash:=PyData.keyHash P (Str.ofString "compute_follow"),key:=Value.str (Str.ofString "compute_follow") 493,val:=Value.ref 238 },{ hash:=PyData.keyHash P (Str.ofString "build_lritems"),key:=Value.str (Str.ofString "build_lritems") 500,val:=Value.ref 245 },{ hash:=PyData.keyHash P (Str.ofString "__static_attributes__"),key:=Value.str (Str.ofString "__static_attributes__") 511,val:=Value.ref 246 },{ hash:=PyData.keyHash P (Str.ofString "__dict__"),key:=Value.str (Str.ofString "__dict__") 513,val:=Value.ref 249 },{ hash:=PyData.keyHash P (Str.ofString "__weakref__"),key:=Value.str (Str.ofString "__weakref__") 515,val:=Value.ref 250 },{ hash:=PyData.keyHash P (Str.ofString "__doc__"),key:=Value.str (Str.ofString "__doc__") 516,val:=Value.none }] 4) (#[])),
 (248,Obj.mk (Value.type "type") (none) (Data.cls { name:=Str.ofString "Grammar",bases:=[Value.type "object"],mro:=[Value.ref 248,Value.type "object"],ns:=247,qualname:=Str.ofString "Grammar" }) (#[some (Value.ref 124),none,some (Value.str (Str.ofString "Grammar") 349),some (Value.str (Str.ofString "Grammar") 357),some (Value.builtin "object.__new__"),some (Value.bool true)])),
 (249,Obj.mk (Value.type "getset_descriptor") (none) (Data.fields #[Value.str (Str.ofString "__dict__") 512,Value.ref 248,Value.builtin "function.__dict__",Value.builtin "function.__dict__#set"]) (#[])),
 (250,Obj.mk (Value.type "getset_descriptor") (none) (Data.fields #[Value.str (Str.ofString "__weakref__") 514,Value.ref 248,Value.builtin "ExceptionGroup.__weakref__",Value.none]) (#[])),
 (253,Obj.mk (Value.type "list") (none) (Data.seq #[Value.str (Str.ofString "S") 521,Value.str (Str.ofString "A") 522,Value.str (Str.ofString "a") 523,Value.str (Str.ofString "b") 524,Value.str (Str.ofString "'+'") 525,Value.str (Str.ofString "'a'") 526,Value.str (Str.ofString "U") 527,Value.str (Str.ofString "\"b\"") 528,Value.str (Str.ofString "S") 529,Value.str (Str.ofString "a") 530,Value.str (Str.ofString "b") 531,Value.str (Str.ofString "'+'") 532,Value.str (Str.ofString "A") 533,Value.str (Str.ofString "b") 534,Value.str (Str.ofString "'ab'") 535,Value.str (Str.ofString "x y") 536]) (#[])),
 (254,Obj.mk (Value.type "dict") (none) (Data.dict #[{ hash:=PyData.keyHash P (Str.ofString "S"),key:=Value.str (Str.ofString "S") 538,val:=Value.str (Str.ofString "S") 539 },{ hash:=PyData.keyHash P (Str.ofString "A"),key:=Value.str (Str.ofString "A") 540,val:=Value.str (Str.ofString "A") 541 },{ hash:=PyData.keyHash P (Str.ofString "a"),key:=Value.str (Str.ofString "a") 542,val:=Value.str (Str.ofString "a") 543 },{ hash:=PyData.keyHash P (Str.ofString "b"),key:=Value.str (Str.ofString "b") 544,val:=Value.str (Str.ofString "b") 545 },{ hash:=PyData.keyHash P (Str.ofString "'+'"),key:=Value.str (Str.ofString "'+'") 546,val:=Value.str (Str.ofString "+") 547 },{ hash:=PyData.keyHash P (Str.ofString "'a'"),key:=Value.str (Str.ofString "'a'") 548,val:=Value.str (Str.ofString "a") 549 },{ hash:=PyData.keyHash P (Str.ofString "\"b\""),key:=Value.str (Str.ofString "\"b\"") 550,val:=Value.str (Str.ofString "b") 551 },{ hash:=PyData.keyHash P (Str.ofString "U"),key:=Value.str (Str.ofString "U") 552,val:=Value.str (Str.ofString "U") 553 },{ hash:=PyData.keyHash P (Str.ofString "%prec"),key:=Value.str (Str.ofString "%prec") 554,val:=Value.str (Str.ofString "%prec") 555 }] 9) (#[])),
 (260,Obj.mk (Value.type "code") (none) (Data.fields #[Value.str (Str.ofString "_law_HEADS") 566,Value.str (Str.ofString "_law_HEADS") 567,Value.str (Str.ofString "/claim/cut.py") 568,Value.int 196 0,Value.int 0 0,Value.int 0 0,Value.int 0 0,Value.int 3 0,Value.ref 255,Value.bool true,Value.int 181 0,Value.ref 256,Value.none,Value.ref 257,Value.ref 258,Value.ref 259,Value.int 569 0,Value.int 196 0,Value.str (Str.ofString "/claim/cut.py") 570]) (#[])),
 (261,Obj.mk (Value.type "function") (none) (Data.func (FuncData.mk (Str.ofString "_law_HEADS") (Str.ofString "_law_HEADS") (stArgs (stAt pw.main.body 13)) (.stmts (stBody (stAt pw.main.body 13))) (stScope (stAt pw.main.body 13)) 3 [] (Value.none) (Value.none) (Value.none) (Value.str (Str.ofString "law_te0001_01") 519) (none) (Value.ref 260) (Value.none) 0)) (#[])),
 (267,Obj.mk (Value.type "code") (none) (Data.fields #[Value.str (Str.ofString "_law_next") 572,Value.str (Str.ofString "_law_next") 573,Value.str (Str.ofString "/claim/cut.py") 574,Value.int 198 0,Value.int 1 0,Value.int 0 0,Value.int 0 0,Value.int 3 0,Value.ref 262,Value.bool true,Value.int 181 0,Value.ref 263,Value.none,Value.ref 264,Value.ref 265,Value.ref 266,Value.int 576 0,Value.int 198 0,Value.str (Str.ofString "/claim/cut.py") 577]) (#[])),
 (268,Obj.mk (Value.type "function") (none) (Data.func (FuncData.mk (Str.ofString "_law_next") (Str.ofString "_law_next") (stArgs (stAt pw.main.body 14)) (.stmts (stBody (stAt pw.main.body 14))) (stScope (stAt pw.main.body 14)) 3 [] (Value.none) (Value.none) (Value.none) (Value.str (Str.ofString "law_te0001_01") 519) (none) (Value.ref 267) (Value.none) 0)) (#[])),
 (274,Obj.mk (Value.type "code") (none) (Data.fields #[Value.str (Str.ofString "_law_set") 579,Value.str (Str.ofString "_law_set") 580,Value.str (Str.ofString "/claim/cut.py") 581,Value.int 200 0,Value.int 4 0,Value.int 0 0,Value.int 0 0,Value.int 3 0,Value.ref 269,Value.bool true,Value.int 181 0,Value.ref 270,Value.none,Value.ref 271,Value.ref 272,Value.ref 273,Value.int 586 0,Value.int 200 0,Value.str (Str.ofString "/claim/cut.py") 587]) (#[])),
 (275,Obj.mk (Value.type "function") (none) (Data.func (FuncData.mk (Str.ofString "_law_set") (Str.ofString "_law_set") (stArgs (stAt pw.main.body 15)) (.stmts (stBody (stAt pw.main.body 15))) (stScope (stAt pw.main.body 15)) 3 [] (Value.none) (Value.none) (Value.none) (Value.str (Str.ofString "law_te0001_01") 519) (none) (Value.ref 274) (Value.none) 0)) (#[])),
 (281,Obj.mk (Value.type "code") (none) (Data.fields #[Value.str (Str.ofString "_law_add") 589,Value.str (Str.ofString "_law_add") 590,Value.str (Str.ofString "/claim/cut.py") 591,Value.int 206 0,Value.int 4 0,Value.int 0 0,Value.int 0 0,Value.int 3 0,Value.ref 276,Value.bool true,Value.int 181 0,Value.ref 277,Value.none,Value.ref 278,Value.ref 279,Value.ref 280,Value.int 596 0,Value.int 206 0,Value.str (Str.ofString "/claim/cut.py") 597]) (#[])),
 (282,Obj.mk (Value.type "function") (none) (Data.func (FuncData.mk (Str.ofString "_law_add") (Str.ofString "_law_add") (stArgs (stAt pw.main.body 16)) (.stmts (stBody (stAt pw.main.body 16))) (stScope (stAt pw.main.body 16)) 3 [] (Value.none) (Value.none) (Value.none) (Value.str (Str.ofString "law_te0001_01") 519) (none) (Value.ref 281) (Value.none) 0)) (#[])),
 (288,Obj.mk (Value.type "code") (none) (Data.fields #[Value.str (Str.ofString "_law_start") 599,Value.str (Str.ofString "_law_start") 600,Value.str (Str.ofString "/claim/cut.py") 601,Value.int 212 0,Value.int 2 0,Value.int 0 0,Value.int 0 0,Value.int 3 0,Value.ref 283,Value.bool true,Value.int 181 0,Value.ref 284,Value.none,Value.ref 285,Value.ref 286,Value.ref 287,Value.int 604 0,Value.int 212 0,Value.str (Str.ofString "/claim/cut.py") 605]) (#[])),
 (289,Obj.mk (Value.type "function") (none) (Data.func (FuncData.mk (Str.ofString "_law_start") (Str.ofString "_law_start") (stArgs (stAt pw.main.body 17)) (.stmts (stBody (stAt pw.main.body 17))) (stScope (stAt pw.main.body 17)) 3 [] (Value.none) (Value.none) (Value.none) (Value.str (Str.ofString "law_te0001_01") 519) (none) (Value.ref 288) (Value.none) 0)) (#[])),
 (293,Obj.mk (Value.type "code") (none) (Data.fields #[Value.str (Str.ofString "_law_words") 607,Value.str (Str.ofString "_law_words") 608,Value.str (Str.ofString "/claim/cut.py") 609,Value.int 218 0,Value.int 1 0,Value.int 0 0,Value.int 0 0,Value.int 3 0,Value.ref 290,Value.bool true,Value.int 181 0,Value.ref 291,Value.none,Value.none,Value.none,Value.ref 292,Value.int 610 0,Value.int 218 0,Value.str (Str.ofString "/claim/cut.py") 611]) (#[])),
 (294,Obj.mk (Value.type "function") (none) (Data.func (FuncData.mk (Str.ofString "_law_words") (Str.ofString "_law_words") (stArgs (stAt pw.main.body 18)) (.stmts (stBody (stAt pw.main.body 18))) (stScope (stAt pw.main.body 18)) 3 [] (Value.none) (Value.none) (Value.none) (Value.str (Str.ofString "law_te0001_01") 519) (none) (Value.ref 293) (Value.none) 0)) (#[])),
 (298,Obj.mk (Value.type "code") (none) (Data.fields #[Value.str (Str.ofString "_law_reading") 613,Value.str (Str.ofString "_law_reading") 614,Value.str (Str.ofString "/claim/cut.py") 615,Value.int 227 0,Value.int 3 0,Value.int 0 0,Value.int 0 0,Value.int 3 0,Value.ref 295,Value.bool true,Value.int 181 0,Value.ref 296,Value.none,Value.none,Value.none,Value.ref 297,Value.int 616 0,Value.int 227 0,Value.str (Str.ofString "/claim/cut.py") 617]) (#[])),
 (299,Obj.mk (Value.type "function") (none) (Data.func (FuncData.mk (Str.ofString "_law_reading") (Str.ofString "_law_reading") (stArgs (stAt pw.main.body 19)) (.stmts (stBody (stAt pw.main.body 19))) (stScope (stAt pw.main.body 19)) 3 [] (Value.none) (Value.none) (Value.none) (Value.str (Str.ofString "law_te0001_01") 519) (none) (Value.ref 298) (Value.none) 0)) (#[])),
 (303,Obj.mk (Value.type "code") (none) (Data.fields #[Value.str (Str.ofString "law") 619,Value.str (Str.ofString "law") 620,Value.str (Str.ofString "/claim/cut.py") 621,Value.int 240 0,Value.int 1 0,Value.int 0 0,Value.int 0 0,Value.int 3 0,Value.ref 300,Value.bool true,Value.int 181 0,Value.ref 301,Value.none,Value.none,Value.none,Value.ref 302,Value.int 622 0,Value.int 240 0,Value.str (Str.ofString "/claim/cut.py") 623]) (#[])),
 (304,Obj.mk (Value.type "function") (none) (Data.func (FuncData.mk (Str.ofString "law") (Str.ofString "law") (stArgs (stAt pw.main.body 20)) (.stmts (stBody (stAt pw.main.body 20))) (stScope (stAt pw.main.body 20)) 3 [] (Value.none) (Value.none) (Value.none) (Value.str (Str.ofString "law_te0001_01") 519) (none) (Value.ref 303) (Value.none) 0)) (#[]))]
noncomputable def lawAddrs:List Nat:=[2,3,20,21,30,31,32,38,39,45,46,54,55,61,62,68,69,75,76,82,83,89,90,96,97,99,100,101,102,110,111,120,121,136,137,143,144,150,151,157,158,159,165,166,167,173,174,180,181,187,188,194,195,201,202,208,209,215,216,222,223,229,230,231,237,238,244,245,247,248,249,250,253,254,260,261,267,268,274,275,281,282,288,289,293,294,298,299,303,304]
theorem lawHas:∀ P,lawAddrs=(lawHeap P).map (·.1):=fun _=>by kernel_rfl
noncomputable def lawHook:Hook:=kHook lawHeap lawAddrs lawHas
noncomputable def lawEnds(w:World):Prop:=(openEnds treeTable PySem.Challenge.pw_te0001_01 w 4346).map (fun s=>(openSeen view ["Production","Grammar","_law_WORDS","_law_MEANT"] (importedModules PySem.Challenge.pw_te0001_01.main.body) (fun s=>xlAt view [] s&&recOk [] s) true s,Hook.obs lawHook s))=some (openGood view ["Production","Grammar","_law_WORDS","_law_MEANT"],Hook.val lawHook w)
theorem lawLeft0:∀ w:World,lawEnds (w.withFollow "special-get-raises" false):=by
 intro w
 unfold lawEnds
 kernel_rfl
theorem lawLeft1:∀ w:World,lawEnds (w.withFollow "special-get-raises" true):=by
 intro w
 unfold lawEnds
 kernel_rfl
theorem lawLeft:LeftO PySem.Challenge.pw_te0001_01 view ["Production","Grammar","_law_WORDS","_law_MEANT"] (fun s=>xlAt view [] s&&recOk [] s) (Hook.obs lawHook) (Hook.val lawHook) 4346:=
 byRow2 "special-get-raises" (P:=lawEnds) lawLeft0 lawLeft1
noncomputable def lawD:DefRec:=⟨"law",stArgs (stAt pw.main.body 20),stBody (stAt pw.main.body 20),stScope (stAt pw.main.body 20),(stAt pw.main.body 20).pos⟩
theorem head(walk:WalkO view ["Production","Grammar","_law_WORDS","_law_MEANT"] (XL view []) (Hook.says lawHook) PySem.Challenge.rw_te0001_01.row.toRowW lawD [] fun f vs=>PySem.call f vs):PySem.Challenge.rw_te0001_01.Holds:=by
 w_on
 refine holds_law (by decide +kernel) fun said=>?_
 refine holds_open (q:=view) (loose:=["Production","Grammar","_law_WORDS","_law_MEANT"]) (Xt:=fun s=>xlAt view [] s&&recOk [] s) (XP:=XL view []) (Yf:=Hook.obs lawHook) (Ya:=Hook.val lawHook) (YP:=Hook.says lawHook) (N:=4346) lawLeft (Hook.of lawHook) (Hook.keeps lawHook) (fun s e=>xl_of s (Bool.and_eq_true_iff.mp e).1) XL.keeps (by rfl) (by rfl) (by rfl) (fun s e=>recFacts_of (Bool.and_eq_true_iff.mp e).2) (by rfl) (by first|assumption|decide +kernel) (by decide +kernel) ⟨rfl,rfl,rfl,rfl,rfl,by decide +kernel⟩ ?hw walk
 w_witness2
theorem bv{G:Prop}(h:∀ C:Prop,(G->C)->C):G:=h G id
inductive InM{α β:Type}(f:α->β)(l:List α)(b:β):Prop
 | mk (a:α) (h:a∈l) (e:f a=b)
theorem inM{α β:Type}{f:α->β}{l:List α}{b:β}(h:b∈l.map f):InM f l b:=let ⟨a,x,e⟩:=List.mem_map.mp h;⟨a,x,e⟩
inductive V where
 | none|bool (b:Bool)|int (i:Int)|str (s:Str)
 | tup (xs:List V)|lst (xs:List V)
 | ins (C:Addr) (attrs:List (Str×V))
 | ref (a:Addr)|glob (v:Value)
deriving Inhabited
inductive AObj where
 | list (xs:List V)|dict (es:List (Str×V)) (ep:Nat)|set (xs:List V)
 | inst (C d:Addr)|cell (v:Option V)|raw (o:Obj)|iter (lst:Bool) (i:Nat) (x:V)
noncomputable abbrev Frz:=Addr->Obj->Prop
set_option genInjectivity false in
set_option genSizeOf false in
structure Wd where
 prog:Program
 w:World
 K:Frag
 hb:Heap
 mg:Str->Option Value
 mb:Str->Option Value
 os:OsState
 p:Program
 loose:List Str
 KIn:K.In hb
 top:TopRead p loose mg mb hb
 nolim:hb.NoLimit
mutual
inductive VR(W:Wd)(F:Frz):V->Value->Prop
 | none:VR W F .none .none
 | bool (b:Bool):VR W F (.bool b) (.bool b)
 | int (i:Int) (t:Tok):VR W F (.int i) (.int i t)
 | str (s:Str) (t:Tok):VR W F (.str s) (.str s t)
 | ref (a:Addr):VR W F (.ref a) (.ref a)
 | glob (v:Value):VR W F (.glob v) v
 | tup {xs:List V} {a:Addr} {vs:Array Value} {n:Nat}:F a { cls:=.type "tuple",data:=.seq vs n }->VRs W F xs vs.toList->VR W F (.tup xs) (.ref a)
 | lst {xs:List V} {a:Addr} {vs:Array Value} {n:Nat}:F a { cls:=.type "list",data:=.seq vs n }->VRs W F xs vs.toList->VR W F (.lst xs) (.ref a)
 | ins {C:Addr} {attrs:List (Str×V)} {a d:Addr} {od:Obj} {kvs:List (Str×Value)}:F a (instObj C d)->F d od->od.IsDictOf (strKind W.prog W.w) kvs->VRp W F attrs kvs->VR W F (.ins C attrs) (.ref a)
inductive VRs(W:Wd)(F:Frz):List V->List Value->Prop
 | nil:VRs W F [] []
 | cons {x:V} {v:Value} {xs:List V} {vs:List Value}:VR W F x v->VRs W F xs vs->VRs W F (x::xs) (v::vs)
inductive VRp(W:Wd)(F:Frz):List (Str×V)->List (Str×Value)->Prop
 | nil:VRp W F [] []
 | cons {k:Str} {x:V} {v:Value} {xs:List (Str×V)} {vs:List (Str×Value)}:VR W F x v->VRp W F xs vs->VRp W F ((k,x)::xs) ((k,v)::vs)
end
inductive VNone:Value->Prop
 | none:VNone .none
inductive VBool(b:Bool):Value->Prop
 | bool:VBool b (.bool b)
inductive VInt(i:Int):Value->Prop
 | int (t:Tok):VInt i (.int i t)
inductive VStr(s:Str):Value->Prop
 | str (t:Tok):VStr s (.str s t)
inductive VRef(a:Addr):Value->Prop
 | ref:VRef a (.ref a)
inductive VGlob(v:Value):Value->Prop
 | glob:VGlob v v
inductive VTup(W:Wd)(F:Frz)(xs:List V):Value->Prop
 | tup {a:Addr} {vs:Array Value} {n:Nat}:F a { cls:=.type "tuple",data:=.seq vs n }->VRs W F xs vs.toList->VTup W F xs (.ref a)
inductive VLst(W:Wd)(F:Frz)(xs:List V):Value->Prop
 | lst {a:Addr} {vs:Array Value} {n:Nat}:F a { cls:=.type "list",data:=.seq vs n }->VRs W F xs vs.toList->VLst W F xs (.ref a)
inductive VIns(W:Wd)(F:Frz)(C:Addr)(attrs:List (Str×V)):Value->Prop
 | ins {a d:Addr} {od:Obj} {kvs:List (Str×Value)}:F a (instObj C d)->F d od->od.IsDictOf (strKind W.prog W.w) kvs->VRp W F attrs kvs->VIns W F C attrs (.ref a)
noncomputable def VView(W:Wd)(F:Frz):V->Value->Prop
 | .none=>VNone
 | .bool b=>VBool b
 | .int i=>VInt i
 | .str s=>VStr s
 | .tup xs=>VTup W F xs
 | .lst xs=>VLst W F xs
 | .ins C as=>VIns W F C as
 | .ref a=>VRef a
 | .glob v=>VGlob v
theorem VR.view{W:Wd}{F:Frz}{x:V}{v:Value}(r:VR W F x v):VView W F x v:=by
 cases r with
 | none=>exact .none
 | bool=>exact .bool
 | int=>exact .int _
 | str=>exact .str _
 | ref=>exact .ref
 | glob=>exact .glob
 | tup f q=>exact .tup f q
 | lst f q=>exact .lst f q
 | ins f g k q=>exact .ins f g k q
inductive VsNil:List Value->Prop
 | nil:VsNil []
inductive VsCons(W:Wd)(F:Frz)(x:V)(xs:List V):List Value->Prop
 | cons {v:Value} {vs:List Value}:VR W F x v->VRs W F xs vs->VsCons W F x xs (v::vs)
noncomputable def VsView(W:Wd)(F:Frz):List V->List Value->Prop
 | []=>VsNil
 | x::xs=>VsCons W F x xs
theorem VRs.view{W:Wd}{F:Frz}{xs:List V}{vs:List Value}(r:VRs W F xs vs):VsView W F xs vs:=by
 cases r with
 | nil=>exact .nil
 | cons a b=>exact .cons a b
inductive VpNil:List (Str×Value)->Prop
 | nil:VpNil []
inductive VpCons(W:Wd)(F:Frz)(k:Str)(x:V)(xs:List (Str×V)):List (Str×Value)->Prop
 | cons {v:Value} {vs:List (Str×Value)}:VR W F x v->VRp W F xs vs->VpCons W F k x xs ((k,v)::vs)
noncomputable def VpView(W:Wd)(F:Frz):List (Str×V)->List (Str×Value)->Prop
 | []=>VpNil
 | (k,x)::xs=>VpCons W F k x xs
theorem VRp.view{W:Wd}{F:Frz}{xs:List (Str×V)}{vs:List (Str×Value)}(r:VRp W F xs vs):VpView W F xs vs:=by
 cases r with
 | nil=>exact .nil
 | cons a b=>exact .cons a b
theorem VR.isNone{W:Wd}{F:Frz}{v:Value}(r:VR W F .none v):v = .none:=by cases r.view;rfl
theorem VR.isRef{W:Wd}{F:Frz}{a:Addr}{v:Value}(r:VR W F (.ref a) v):v = .ref a:=by cases r.view;rfl
theorem VR.isGlob{W:Wd}{F:Frz}{u v:Value}(r:VR W F (.glob u) v):v=u:=by cases r.view;rfl
theorem VR.isBool{W:Wd}{F:Frz}{b:Bool}{v:Value}(r:VR W F (.bool b) v):v = .bool b:=by cases r.view;rfl
theorem VR.isInt{W:Wd}{F:Frz}{i:Int}{v:Value}(r:VR W F (.int i) v):∃ t,v = .int i t:=by cases r.view;exact⟨_,rfl⟩
theorem VR.isStr{W:Wd}{F:Frz}{s:Str}{v:Value}(r:VR W F (.str s) v):∃ t,v = .str s t:=by cases r.view;exact⟨_,rfl⟩
theorem VRs.isNil{W:Wd}{F:Frz}{l:List Value}(r:VRs W F [] l):l=[]:=by cases r.view;rfl
inductive IsC(W:Wd)(F:Frz)(x:V)(xs:List V)(l:List Value):Prop
 | mk (v:Value) (vs:List Value) (r1:VR W F x v) (r2:VRs W F xs vs) (e:l=v::vs)
theorem VRs.isCons{W:Wd}{F:Frz}{x:V}{xs:List V}{l:List Value}(r:VRs W F (x::xs) l):IsC W F x xs l:=by
 cases r.view with
 | cons a b=>exact⟨_,_,a,b,rfl⟩
inductive IsCp(W:Wd)(F:Frz)(k:Str)(x:V)(xs:List (Str×V))(l:List (Str×Value)):Prop
 | mk (v:Value) (vs:List (Str×Value)) (r1:VR W F x v) (r2:VRp W F xs vs) (e:l=(k,v)::vs)
theorem VRp.isCons{W:Wd}{F:Frz}{e:Str×V}{xs:List (Str×V)}{l:List (Str×Value)}(r:VRp W F (e::xs) l):IsCp W F e.1 e.2 xs l:=by
 obtain⟨k,x⟩:=e
 cases r.view with
 | cons a b=>exact⟨_,_,a,b,rfl⟩
theorem VR.mono{W:Wd}{F F':Frz}(h:∀ a o,F a o->F' a o){x:V}{v:Value}(r:VR W F x v):VR W F' x v:=
 VR.rec (motive_1:=fun x v _=>VR W F' x v) (motive_2:=fun xs vs _=>VRs W F' xs vs) (motive_3:=fun xs vs _=>VRp W F' xs vs) .none .bool .int .str .ref .glob (fun f _ ih=>.tup (h _ _ f) ih) (fun f _ ih=>.lst (h _ _ f) ih) (fun f g k _ ih=>.ins (h _ _ f) (h _ _ g) k ih) .nil (fun _ _ a b=>.cons a b) .nil (fun _ _ a b=>.cons a b) r
theorem VRs.mono{W:Wd}{F F':Frz}(h:∀ a o,F a o->F' a o){x:List V}{v:List Value}(r:VRs W F x v):VRs W F' x v:=
 VRs.rec (motive_1:=fun x v _=>VR W F' x v) (motive_2:=fun xs vs _=>VRs W F' xs vs) (motive_3:=fun xs vs _=>VRp W F' xs vs) .none .bool .int .str .ref .glob (fun f _ ih=>.tup (h _ _ f) ih) (fun f _ ih=>.lst (h _ _ f) ih) (fun f g k _ ih=>.ins (h _ _ f) (h _ _ g) k ih) .nil (fun _ _ a b=>.cons a b) .nil (fun _ _ a b=>.cons a b) r
theorem VRp.mono{W:Wd}{F F':Frz}(h:∀ a o,F a o->F' a o){x:List (Str×V)}{v:List (Str×Value)}(r:VRp W F x v):VRp W F' x v:=
 VRp.rec (motive_1:=fun x v _=>VR W F' x v) (motive_2:=fun xs vs _=>VRs W F' xs vs) (motive_3:=fun xs vs _=>VRp W F' xs vs) .none .bool .int .str .ref .glob (fun f _ ih=>.tup (h _ _ f) ih) (fun f _ ih=>.lst (h _ _ f) ih) (fun f g k _ ih=>.ins (h _ _ f) (h _ _ g) k ih) .nil (fun _ _ a b=>.cons a b) .nil (fun _ _ a b=>.cons a b) r
inductive OR(W:Wd)(F:Frz):AObj->Obj->Prop
 | list {xs:List V} {vs:Array Value} {n:Nat}:VRs W F xs vs.toList->OR W F (.list xs) { cls:=.type "list",data:=.seq vs n }
 | dict {es:List (Str×V)} {ds:List DictEntry} {ep:Nat} {kvs:List (Str×Value)}:(dictOf ds ep).IsDictOf (strKind W.prog W.w) kvs->VRp W F es kvs->OR W F (.dict es ep) (dictOf ds ep)
 | inst {C d:Addr}:OR W F (.inst C d) (instObj C d)
 | raw {o:Obj}:OR W F (.raw o) o
 | iter {lst:Bool} {i:Nat} {x:V} {a:Addr} {o:Obj}:VR W F x (.ref a)->o.cls = .type (if lst then "list_iterator" else "tuple_iterator")->o.data = .fields #[.ref a,.int i 0]->OR W F (.iter lst i x) o
 | cell {v:Option V} {o:Obj} {u:Option Value}:o.data = .cell u->(∀ x,v=some x->∃ y,u=some y/\VR W F x y)->(v=none->u=none)->OR W F (.cell v) o
inductive OList(W:Wd)(F:Frz)(xs:List V):Obj->Prop
 | list {vs:Array Value} {n:Nat}:VRs W F xs vs.toList->OList W F xs { cls:=.type "list",data:=.seq vs n }
inductive ODict(W:Wd)(F:Frz)(es:List (Str×V))(ep:Nat):Obj->Prop
 | dict {ds:List DictEntry} {kvs:List (Str×Value)}:(dictOf ds ep).IsDictOf (strKind W.prog W.w) kvs->VRp W F es kvs->ODict W F es ep (dictOf ds ep)
inductive OInst(C d:Addr):Obj->Prop
 | inst:OInst C d (instObj C d)
inductive ORaw(o:Obj):Obj->Prop
 | raw:ORaw o o
inductive OIter(W:Wd)(F:Frz)(lst:Bool)(i:Nat)(x:V):Obj->Prop
 | iter {a:Addr} {o:Obj}:VR W F x (.ref a)->o.cls = .type (if lst then "list_iterator" else "tuple_iterator")->o.data = .fields #[.ref a,.int i 0]->OIter W F lst i x o
inductive OCell(W:Wd)(F:Frz)(v:Option V):Obj->Prop
 | cell {o:Obj} {u:Option Value}:o.data = .cell u->(∀ x,v=some x->∃ y,u=some y/\VR W F x y)->(v=none->u=none)->OCell W F v o
noncomputable def OView(W:Wd)(F:Frz):AObj->Obj->Prop
 | .list xs=>OList W F xs
 | .dict es ep=>ODict W F es ep
 | .set _=>fun _=>False
 | .inst C d=>OInst C d
 | .cell v=>OCell W F v
 | .raw o=>ORaw o
 | .iter l i x=>OIter W F l i x
theorem OR.view{W:Wd}{F:Frz}{x:AObj}{o:Obj}(r:OR W F x o):OView W F x o:=by
 cases r with
 | list q=>exact .list q
 | dict k q=>exact .dict k q
 | inst=>exact .inst
 | raw=>exact .raw
 | iter q c d=>exact .iter q c d
 | cell k q z=>exact .cell k q z
theorem OR.mono{W:Wd}{F F':Frz}(h:∀ a o,F a o->F' a o){x:AObj}{o:Obj}(r:OR W F x o):OR W F' x o:=by
 cases r with
 | list r=>exact .list (r.mono h)
 | dict k r=>exact .dict k (r.mono h)
 | inst=>exact .inst
 | raw=>exact .raw
 | iter r c d=>exact .iter (r.mono h) c d
 | cell k r z=>exact .cell k (fun x e=>let ⟨y,e',q⟩:=r x e;⟨y,e',q.mono h⟩) z
noncomputable abbrev Loc:=List (Str×V)
noncomputable abbrev Mem:=Addr->Option AObj
noncomputable def tgo:AObj->Nat
 | .list _=>0|.dict _ _=>1|.set _=>2|.inst _ _=>3|.cell _=>4|.raw _=>5|.iter _ _ _=>6
noncomputable def tg:Option AObj->Nat
 | none=>0
 | some x=>tgo x+1
theorem nex{m:Mem}{a b:Addr}{x y:Option AObj}(h1:m a=x)(h2:m b=y)(h:(tg x==tg y)=false:=by rfl):a≠b:=fun e=>by
 rw[e,h2]at h1
 rw[h1,beq_self_eq_true]at h
 cases h
noncomputable abbrev Outs:=List (Addr×(Str->Option Value))
inductive Held(W:Wd)(F:Frz)(h:Heap)(a:Addr)(x:AObj):Prop
 | intro (o:Obj) (h1_:h.get? a=some o) (h2_:OR W F x o)
inductive NsIs(W:Wd)(F:Frz)(h:Heap)(L:Addr)(loc:Loc):Prop
 | intro (m:Str->Option Value) (h1_:h.Ns L m) (h2_:∀ x v,loc.lookup x=some v->∃ v',m x=some v'/\VR W F v v')
structure Sim0(W:Wd)(env:Env)(outer:Outs)(loc:Loc)(mem:Mem)(F:Frz)(s:Shared):Prop where
 frz:∀ a o,F a o->s.heap.get? a=some o
 base:∀ a o,W.hb.get? a=some o->F a o
 memF:∀ a o,F a o->mem a=none
 memOk:∀ a x,mem a=some x->Held W F s.heap a x
 ns:NsIs W F s.heap env.locals loc
 nsF:(∀ o,¬ F env.locals o)/\mem env.locals=none
 outs:∀ q∈outer,s.heap.Ns q.1 q.2/\(∀ o,¬ F q.1 o)/\mem q.1=none/\q.1≠env.locals
 low:W.hb.objs.size≤env.locals
 memLow:∀ a x,mem a=some x->a≠sysModules
 gens:s.gens = #[]
 os:s.os=W.os
theorem notMod{W:Wd}{a:Addr}(h:W.hb.objs.size≤a):a≠sysModules:=Nat.ne_of_gt (Nat.lt_of_lt_of_le (modules_low W.nolim) h)
noncomputable def mset(mem:Mem)(a:Addr)(x:AObj):Mem:=fun b=>if b=a then some x else mem b
@[simp] theorem mset_self (mem:Mem) (a:Addr) (x:AObj):mset mem a x a=some x:=if_pos rfl
theorem mset_ne{mem:Mem}{a b:Addr}{x:AObj}(h:b≠a):mset mem a x b=mem b:=if_neg h
noncomputable def Incl(F F':Frz):Prop:=∀ a o,F a o->F' a o
theorem Incl.refl(F:Frz):Incl F F:=fun _ _ h=>h
theorem Incl.trans{F G H:Frz}(x:Incl F G)(y:Incl G H):Incl F H:=fun a o h=>y a o (x a o h)
noncomputable def fadd(F:Frz)(a:Addr)(o:Obj):Frz:=fun b p=>F b p\/(b=a/\p=o)
theorem Incl.fadd(F:Frz)(a:Addr)(o:Obj):Incl F (fadd F a o):=fun _ _ h=>.inl h
noncomputable def LocRel(W:Wd)(F:Frz)(loc:Loc)(m:Str->Option Value):Prop:=∀ x v,loc.lookup x=some v->∃ v',m x=some v'/\VR W F v v'
theorem LocRel.mono{W:Wd}{F F':Frz}{loc:Loc}{m:Str->Option Value}(h:Incl F F')(r:LocRel W F loc m):LocRel W F' loc m:=
 fun x v e=>let ⟨v',e',q⟩:=r x v e;⟨v',e',q.mono h⟩
section
variable {W:Wd}{env:Env}{outer:Outs}{loc:Loc}{mem:Mem}{F:Frz}{s:Shared}
theorem Sim0.kin(S:Sim0 W env outer loc mem F s):W.K.In s.heap:=W.KIn.keeps fun b o e=>S.frz b o (S.base b o e)
theorem Sim0.hbase(S:Sim0 W env outer loc mem F s):∀ b o,W.hb.get? b=some o->s.heap.get? b=some o:=fun b o e=>S.frz b o (S.base b o e)
theorem Sim0.fresh_base{a:Addr}{x:AObj}(S:Sim0 W env outer loc mem F s)(h:mem a=some x):W.hb.get? a=none:=by
 cases q:W.hb.get? a with
 | none=>rfl
 | some o=>have:=S.memF a o (S.base a o q);rw[h]at this;cases this
theorem Sim0.fr{m:Str->Option Value}(S:Sim0 W env outer loc mem F s)(hn:s.heap.Ns env.locals m):Fr W.hb env.locals s.heap m:=⟨hn,S.hbase,S.low⟩
theorem Sim0.grow{h':Heap}{t:Nat}{d:Drawn}(S:Sim0 W env outer loc mem F s)(hk:∀ b o,s.heap.get? b=some o->h'.get? b=some o) :
  Sim0 W env outer loc mem F { s with heap:=h',toks:=t,drawn:=d } where
 frz a o h:=hk _ _ (S.frz a o h)
 base:=S.base
 memF:=S.memF
 memOk a x h:=let ⟨o,e,r⟩:=S.memOk a x h;⟨o,hk _ _ e,r⟩
 ns:=let ⟨m,a,b⟩:=S.ns;⟨m,a.keeps hk,b⟩
 nsF:=S.nsF
 outs q hq:=let ⟨a,b⟩:=S.outs q hq;⟨a.keeps hk,b⟩
 low:=S.low
 memLow:=S.memLow
 gens:=S.gens
 os:=S.os
theorem Sim0.tick{t:Nat}(S:Sim0 W env outer loc mem F s):Sim0 W env outer loc mem F { s with toks:=t }:=S.grow fun _ _ e=>e
theorem Sim0.ne_locals{a:Addr}{x:AObj}(S:Sim0 W env outer loc mem F s)(h:mem a=some x):a≠env.locals:=fun e=>by
 have:=S.nsF.2;rw[<-e,h]at this;cases this
theorem Sim0.upd{a:Addr}{x x':AObj}{h':Heap}{t:Nat}{d:Drawn}{o':Obj}(S:Sim0 W env outer loc mem F s)(hm:mem a=some x)
  (hs:∀ b o,b≠a->s.heap.get? b=some o->h'.get? b=some o) (ho:h'.get? a=some o') (r:OR W F x' o') :
  Sim0 W env outer loc (mset mem a x') F { s with heap:=h',toks:=t,drawn:=d } where
 frz b o h:=hs b o (fun e=>by have:=S.memF b o h;rw[e,hm]at this;cases this) (S.frz b o h)
 base:=S.base
 memF b o h:=by
  have hb:b≠a:=fun e=>by have:=S.memF b o h;rw[e,hm]at this;cases this
  rw[mset_ne hb];exact S.memF b o h
 memOk b y h:=by
  by_cases e:b=a
  ·subst e;rw[mset_self]at h;cases h;exact⟨o',ho,r⟩
  ·rw[mset_ne e]at h;obtain⟨o,e',q⟩:=S.memOk b y h;exact⟨o,hs b o e e',q⟩
 ns:=let ⟨m,z,b⟩:=S.ns;⟨m,by
  obtain⟨o,es,ep,e,q⟩:=z
  exact⟨o,es,ep,hs _ _ (Ne.symm (S.ne_locals hm)) e,q⟩,b⟩
 nsF:=⟨S.nsF.1,by rw[mset_ne (Ne.symm (S.ne_locals hm))];exact S.nsF.2⟩
 outs q hq:=by
  obtain⟨z,b,c,e⟩:=S.outs q hq
  have hq':q.1≠a:=fun e=>by rw[e,hm]at c;cases c
  obtain⟨o,es,ep,e',r'⟩:=z
  exact⟨⟨o,es,ep,hs _ _ hq' e',r'⟩,b,by rw[mset_ne hq'];exact c,e⟩
 low:=S.low
 memLow b y h:=by
  unfold mset at h
  split at h
  ·rename_i q;rw[q];exact S.memLow a x hm
  ·exact S.memLow b y h
 gens:=S.gens
 os:=S.os
theorem Sim0.free_of_none{a:Addr}(S:Sim0 W env outer loc mem F s)(ha:s.heap.get? a=none):mem a=none/\(∀ o,¬ F a o)/\a≠env.locals/\∀ q∈outer,q.1≠a:=by
 refine⟨?_,fun o h=>?_,fun e=>?_,fun q hq e=>?_⟩
 ·cases q:mem a with
  | none=>rfl
  | some x=>obtain⟨o,e,_⟩:=S.memOk a x q;rw[ha]at e;cases e
 ·have:=S.frz a o h;rw[ha]at this;cases this
 ·obtain⟨m,⟨o,es,ep,h,_⟩,_⟩:=S.ns;rw[<-e,ha]at h;cases h
 ·obtain⟨⟨o,es,ep,h,_⟩,_⟩:=S.outs q hq;rw[e,ha]at h;cases h
theorem Sim0.alloc{a:Addr}{x:AObj}{h':Heap}{t:Nat}{d:Drawn}{o':Obj}(S:Sim0 W env outer loc mem F s)(ha:s.heap.get? a=none)(hlo:W.hb.objs.size≤a)
  (hs:∀ b o,s.heap.get? b=some o->h'.get? b=some o) (ho:h'.get? a=some o') (r:OR W F x o') :
  Sim0 W env outer loc (mset mem a x) F { s with heap:=h',toks:=t,drawn:=d }:=by
 obtain⟨f1,f2,f3,f4⟩:=S.free_of_none ha
 have ne:∀ {b o},F b o->b≠a:=fun h e=>f2 _ (e▸h)
 exact {
  frz:=fun b o h=>hs b o (S.frz b o h)
  base:=S.base
  memF:=fun b o h=>by rw[mset_ne (ne h)];exact S.memF b o h
  memOk:=fun b y h=>by
   by_cases e:b=a
   ·subst e;rw[mset_self]at h;cases h;exact⟨o',ho,r⟩
   ·rw[mset_ne e]at h;obtain⟨o,e',q⟩:=S.memOk b y h;exact⟨o,hs b o e',q⟩
  ns:=let ⟨m,z,b⟩:=S.ns;⟨m,z.keeps hs,b⟩
  nsF:=⟨S.nsF.1,by rw[mset_ne (Ne.symm f3)];exact S.nsF.2⟩
  outs:=fun q hq=>by
   obtain⟨z,b,c,e⟩:=S.outs q hq
   exact⟨z.keeps hs,b,by rw[mset_ne (f4 q hq)];exact c,e⟩
  low:=S.low
  memLow:=fun b y h=>by
   unfold mset at h
   split at h
   ·rename_i q;rw[q];exact notMod hlo
   ·exact S.memLow b y h
  gens:=S.gens
  os:=S.os }
theorem Sim0.freeze{a:Addr}{h':Heap}{t:Nat}{d:Drawn}{o':Obj}(S:Sim0 W env outer loc mem F s)(ha:s.heap.get? a=none)
  (hs:∀ b o,s.heap.get? b=some o->h'.get? b=some o) (ho:h'.get? a=some o') :
  Sim0 W env outer loc mem (fadd F a o') { s with heap:=h',toks:=t,drawn:=d }:=by
 obtain⟨f1,f2,f3,f4⟩:=S.free_of_none ha
 exact {
  frz:=fun b o h=>by rcases h with h|⟨rfl,rfl⟩;exact hs b o (S.frz b o h);exact ho
  base:=fun b o h=>.inl (S.base b o h)
  memF:=fun b o h=>by rcases h with h|⟨rfl,rfl⟩;exact S.memF b o h;exact f1
  memOk:=fun b y h=>let ⟨o,e',q⟩:=S.memOk b y h;⟨o,hs b o e',q.mono (Incl.fadd _ _ _)⟩
  ns:=let ⟨m,z,b⟩:=S.ns;⟨m,z.keeps hs,LocRel.mono (Incl.fadd _ _ _) b⟩
  nsF:=⟨fun o h=>by rcases h with h|⟨e,rfl⟩;exact S.nsF.1 o h;exact f3 e.symm,S.nsF.2⟩
  outs:=fun q hq=>by
   obtain⟨z,b,c,e⟩:=S.outs q hq
   exact⟨z.keeps hs,fun o h=>by rcases h with h|⟨e,rfl⟩;exact b o h;exact f4 q hq e,c,e⟩
  low:=S.low
  memLow:=S.memLow
  gens:=S.gens
  os:=S.os }
theorem Sim0.drop{mem':Mem}(S:Sim0 W env outer loc mem F s)(h:∀ a x,mem' a=some x->mem a=some x):Sim0 W env outer loc mem' F s:=by
 have dn:∀ {b},mem b=none->mem' b=none:=fun {b} e=>by
  cases q:mem' b with
  | none=>rfl
  | some x=>rw[h b x q]at e;cases e
 exact { frz:=S.frz,base:=S.base,memF:=fun b o q=>dn (S.memF b o q),memOk:=fun b y q=>S.memOk b y (h b y q),ns:=S.ns,nsF:=⟨S.nsF.1,dn S.nsF.2⟩,outs:=fun q hq=>let ⟨z,b,c,e⟩:=S.outs q hq;⟨z,b,dn c,e⟩,low:=S.low,memLow:=fun b y q=>S.memLow b y (h b y q),gens:=S.gens,os:=S.os }
noncomputable def setL(x:Str)(v:V):Loc->Loc
 | []=>[(x,v)]
 | (y,u)::r=>if y=x then(x,v)::r else(y,u)::setL x v r
theorem lookup_setL(x y:Str)(v:V):∀ loc:Loc,(setL x v loc).lookup y=if y=x then some v else loc.lookup y
 | []=>by
  unfold setL
  by_cases h:y=x
  ·subst h;simp[List.lookup]
  ·have:(y==x)=false:=by simpa using h
   simp[List.lookup,this,h]
 | (z,u)::r=>by
  unfold setL
  by_cases hz:z=x
  ·subst hz
   rw[if_pos rfl]
   by_cases h:y=z
   ·subst h;simp[List.lookup]
   ·have:(y==z)=false:=by simpa using h
    simp[List.lookup,this,h]
  ·rw[if_neg hz,List.lookup_cons,List.lookup_cons,lookup_setL x y v r]
   by_cases h:y=x
   ·subst h
    have:(y==z)=false:=by simpa using (Ne.symm hz)
    simp[this]
   ·simp[h]
theorem Sim0.store{x:Str}{v:V}{v':Value}{h':Heap}{t:Nat}{m:Str->Option Value}(S:Sim0 W env outer loc mem F s)(r:VR W F v v')(l:LocRel W F loc m)
  (hn:h'.Ns env.locals fun y=>if y=x then some v' else m y) (hs:Heap.SameBut env.locals s.heap h'):Sim0 W env outer (setL x v loc) mem F { s with heap:=h',toks:=t } where
 frz a o h:=(hs.2 a fun e=>S.nsF.1 o (e▸h)).trans (S.frz a o h)
 base:=S.base
 memF:=S.memF
 memOk a y h:=let ⟨o,e,r⟩:=S.memOk a y h;⟨o,(hs.2 a (S.ne_locals h)).trans e,r⟩
 ns:=⟨_,hn,fun y u e=>by
  rw[lookup_setL]at e
  by_cases q:y=x
  ·rw[if_pos q]at e;cases e;exact⟨v',if_pos q,r⟩
  ·rw[if_neg q]at e;obtain⟨u',e',q'⟩:=l y u e;exact⟨u',(if_neg q).trans e',q'⟩⟩
 nsF:=S.nsF
 outs q hq:=let ⟨z,b,c,e⟩:=S.outs q hq;⟨z.sameBut hs e,b,c,e⟩
 low:=S.low
 memLow:=S.memLow
 gens:=S.gens
 os:=S.os
end
noncomputable def mun(m R:Mem):Mem:=fun a=>match m a with|some x=>some x|none=>R a
noncomputable def Dis(m R:Mem):Prop:=∀ a x,m a=some x->R a=none
theorem mun_l{m R:Mem}{a:Addr}{x:AObj}(h:m a=some x):mun m R a=some x:=by unfold mun;rw[h]
theorem mun_r{m R:Mem}{a:Addr}(h:m a=none):mun m R a=R a:=by unfold mun;rw[h]
theorem mun_none{m R:Mem}{a:Addr}(h:mun m R a=none):m a=none/\R a=none:=by
 unfold mun at h
 cases q:m a with
 | none=>rw[q]at h;exact⟨rfl,h⟩
 | some x=>rw[q]at h;cases h
theorem mset_mun(m R:Mem)(a:Addr)(x:AObj):mset (mun m R) a x=mun (mset m a x) R:=by
 funext b
 unfold mset mun
 by_cases h:b=a
 ·simp[h]
 ·simp[h]
theorem mset_munR{m R:Mem}{a:Addr}(h:m a=none)(x:AObj):mset (mun m R) a x=mun m (mset R a x):=by
 funext b
 unfold mset mun
 by_cases hb:b=a
 ·subst hb;simp[h]
 ·simp[hb]
structure Sim(W:Wd)(env:Env)(outer:Outs)(loc:Loc)(mem R:Mem)(F:Frz)(s:Shared):Prop where
 dis:Dis mem R
 z:Sim0 W env outer loc (mun mem R) F s
section
variable {W:Wd}{env:Env}{outer:Outs}{loc:Loc}{mem R:Mem}{F:Frz}{s:Shared}
theorem Sim.kin(S:Sim W env outer loc mem R F s):W.K.In s.heap:=S.z.kin
theorem Sim.hbase(S:Sim W env outer loc mem R F s):∀ b o,W.hb.get? b=some o->s.heap.get? b=some o:=S.z.hbase
theorem Sim.frz(S:Sim W env outer loc mem R F s):∀ a o,F a o->s.heap.get? a=some o:=S.z.frz
theorem Sim.base(S:Sim W env outer loc mem R F s):∀ a o,W.hb.get? a=some o->F a o:=S.z.base
theorem Sim.memOk(S:Sim W env outer loc mem R F s)(a:Addr)(x:AObj)(h:mem a=some x):Held W F s.heap a x:=S.z.memOk a x (mun_l h)
theorem Sim.ns(S:Sim W env outer loc mem R F s):NsIs W F s.heap env.locals loc:=S.z.ns
theorem Sim.fresh_base{a:Addr}{x:AObj}(S:Sim W env outer loc mem R F s)(h:mem a=some x):W.hb.get? a=none:=S.z.fresh_base (mun_l h)
theorem Sim.fr{m:Str->Option Value}(S:Sim W env outer loc mem R F s)(hn:s.heap.Ns env.locals m):Fr W.hb env.locals s.heap m:=S.z.fr hn
theorem Sim.gens(S:Sim W env outer loc mem R F s):s.gens = #[]:=S.z.gens
theorem Sim.os(S:Sim W env outer loc mem R F s):s.os=W.os:=S.z.os
theorem Sim.ne_locals{a:Addr}{x:AObj}(S:Sim W env outer loc mem R F s)(h:mem a=some x):a≠env.locals:=S.z.ne_locals (mun_l h)
theorem Sim.grow{h':Heap}{t:Nat}{d:Drawn}(S:Sim W env outer loc mem R F s)(hk:∀ b o,s.heap.get? b=some o->h'.get? b=some o) :
  Sim W env outer loc mem R F { s with heap:=h',toks:=t,drawn:=d }:=⟨S.dis,S.z.grow hk⟩
theorem Sim.tick{t:Nat}(S:Sim W env outer loc mem R F s):Sim W env outer loc mem R F { s with toks:=t }:=⟨S.dis,S.z.tick⟩
theorem Sim.size_le(S:Sim W env outer loc mem R F s):W.hb.objs.size≤s.heap.objs.size:=by
 obtain⟨m,hn,_⟩:=S.ns
 exact Nat.le_trans S.z.low (Nat.le_of_lt hn.lt)
theorem get?_size(h:Heap):h.get? h.objs.size=none:=by
 cases q:h.get? h.objs.size with
 | none=>rfl
 | some o=>exact absurd (Heap.lt_size q) (Nat.lt_irrefl _)
theorem get?_ge{h:Heap}{a:Addr}(l:h.objs.size≤a):h.get? a=none:=by
 cases q:h.get? a with
 | none=>rfl
 | some o=>exact absurd (Heap.lt_size q) (Nat.not_lt.mpr l)
theorem Sim.not_modules{a:Addr}{x:AObj}(S:Sim W env outer loc mem R F s)(h:mem a=some x):(a==sysModules)=false:=
 beq_eq_false_iff_ne.mpr (S.z.memLow a x (mun_l h))
theorem Dis.set{a:Addr}{x x':AObj}(d:Dis mem R)(h:mem a=some x):Dis (mset mem a x') R:=fun b y e=>by
 unfold mset at e
 split at e
 ·rename_i q;rw[q];exact d a x h
 ·exact d b y e
theorem Sim.upd{a:Addr}{x x':AObj}{h':Heap}{t:Nat}{d:Drawn}{o':Obj}(S:Sim W env outer loc mem R F s)(hm:mem a=some x)
  (hs:∀ b o,b≠a->s.heap.get? b=some o->h'.get? b=some o) (ho:h'.get? a=some o') (r:OR W F x' o') :
  Sim W env outer loc (mset mem a x') R F { s with heap:=h',toks:=t,drawn:=d }:=⟨S.dis.set hm,mset_mun mem R a x'▸S.z.upd (mun_l hm) hs ho r⟩
theorem Sim.free{a:Addr}(S:Sim W env outer loc mem R F s)(ha:s.heap.get? a=none):mem a=none/\R a=none:=mun_none (S.z.free_of_none ha).1
theorem Sim.alloc{a:Addr}{x:AObj}{h':Heap}{t:Nat}{d:Drawn}{o':Obj}(S:Sim W env outer loc mem R F s)(ha:s.heap.get? a=none)(hlo:W.hb.objs.size≤a)
  (hs:∀ b o,s.heap.get? b=some o->h'.get? b=some o) (ho:h'.get? a=some o') (r:OR W F x o') :
  Sim W env outer loc (mset mem a x) R F { s with heap:=h',toks:=t,drawn:=d }:=
 ⟨fun b y e=>by
  unfold mset at e
  split at e
  ·rename_i q;rw[q];exact(S.free ha).2
  ·exact S.dis b y e,mset_mun mem R a x▸S.z.alloc ha hlo hs ho r⟩
theorem Sim.allocR{a:Addr}{x:AObj}{h':Heap}{t:Nat}{d:Drawn}{o':Obj}(S:Sim W env outer loc mem R F s)(ha:s.heap.get? a=none)(hlo:W.hb.objs.size≤a)
  (hs:∀ b o,s.heap.get? b=some o->h'.get? b=some o) (ho:h'.get? a=some o') (r:OR W F x o') :
  Sim W env outer loc mem (mset R a x) F { s with heap:=h',toks:=t,drawn:=d }:=
 ⟨fun b y e=>by
  unfold mset
  split
  ·rename_i q;rw[q,(S.free ha).1]at e;cases e
  ·exact S.dis b y e,mset_munR (S.free ha).1 x▸S.z.alloc ha hlo hs ho r⟩
theorem Sim.updR{a:Addr}{x x':AObj}{h':Heap}{t:Nat}{d:Drawn}{o':Obj}(S:Sim W env outer loc mem (mset R a x) F s)
  (hs:∀ b o,b≠a->s.heap.get? b=some o->h'.get? b=some o) (ho:h'.get? a=some o') (r:OR W F x' o') :
  Sim W env outer loc mem (mset R a x') F { s with heap:=h',toks:=t,drawn:=d }:=by
 have hm:mem a=none:=by
  cases q:mem a with
  | none=>rfl
  | some y=>have:=S.dis a y q;rw[mset_self]at this;cases this
 refine⟨fun b y e=>?_,?_⟩
 ·have:=S.dis b y e
  unfold mset at this ⊢
  split
  ·rename_i q;rw[if_pos q]at this;cases this
  ·rename_i q;rw[if_neg q]at this;exact this
 ·have:=S.z.upd (x:=x) (x':=x') (t:=t) (d:=d) (by rw[mun_r hm,mset_self]) hs ho r
  rw[mset_munR hm]at this
  have e:mset (mset R a x) a x'=mset R a x':=by funext b;unfold mset;split<;>simp_all
  rwa [e]at this
theorem Sim.atR{a:Addr}{x:AObj}(S:Sim W env outer loc mem (mset R a x) F s):Held W F s.heap a x:=by
 have hm:mem a=none:=by
  cases q:mem a with
  | none=>rfl
  | some y=>have:=S.dis a y q;rw[mset_self]at this;cases this
 exact S.z.memOk a x (by rw[mun_r hm,mset_self])
theorem Sim.offR{a:Addr}{x:AObj}(S:Sim W env outer loc mem (mset R a x) F s)(hR:R a=none):Sim W env outer loc mem R F s:=by
 refine⟨fun b y e=>?_,S.z.drop fun b y e=>?_⟩
 ·have:=S.dis b y e
  unfold mset at this
  split at this
  ·cases this
  ·exact this
 ·cases q:mem b with
  | some z=>rw[mun_l q]at e ⊢;exact e
  | none=>
   rw[mun_r q]at e ⊢
   unfold mset
   split
   ·rename_i q';rw[q',hR]at e;cases e
   ·exact e
theorem Sim.freeze{a:Addr}{h':Heap}{t:Nat}{d:Drawn}{o':Obj}(S:Sim W env outer loc mem R F s)(ha:s.heap.get? a=none)
  (hs:∀ b o,s.heap.get? b=some o->h'.get? b=some o) (ho:h'.get? a=some o') :
  Sim W env outer loc mem R (fadd F a o') { s with heap:=h',toks:=t,drawn:=d }:=⟨S.dis,S.z.freeze ha hs ho⟩
theorem Sim.drop{mem':Mem}(S:Sim W env outer loc mem R F s)(h:∀ a x,mem' a=some x->mem a=some x):Sim W env outer loc mem' R F s:=by
 refine⟨fun a x e=>S.dis a x (h a x e),S.z.drop fun a x e=>?_⟩
 unfold mun at e
 cases q:mem' a with
 | some y=>rw[q]at e;rw[mun_l (h a y q)];exact e
 | none=>
  rw[q]at e
  dsimp only at e
  cases q':mem a with
  | none=>rw[mun_r q'];exact e
  | some y=>have:=S.dis a y q';rw[e]at this;cases this
theorem Sim.store{x:Str}{v:V}{v':Value}{h':Heap}{t:Nat}{m:Str->Option Value}(S:Sim W env outer loc mem R F s)(r:VR W F v v')(l:LocRel W F loc m)
  (hn:h'.Ns env.locals fun y=>if y=x then some v' else m y) (hs:Heap.SameBut env.locals s.heap h'):Sim W env outer (setL x v loc) mem R F { s with heap:=h',toks:=t }:=
 ⟨S.dis,S.z.store r l hn hs⟩
end
inductive Post(W:Wd)(env:Env)(outer:Outs){α β:Type}(RV:Frz->β->α->Prop)(R:Mem)(F:Frz)(Q:β->Loc->Mem->Prop)(v':α)(s':Shared):Prop
 | intro (F':Frz) (v:β) (loc':Loc) (mem':Mem) (h1_:Incl F F') (h2_:RV F' v v') (h3_:Sim W env outer loc' mem' R F' s') (h4_:Q v loc' mem')
structure Less(W:Wd)(R R':Mem):Prop where
 sim:∀ {env:Env} {outer:Outs} {loc:Loc} {mem:Mem} {F:Frz} {s:Shared},Sim W env outer loc mem R' F s->Sim W env outer loc mem R F s
 sub:∀ a x,R a=some x->R' a=some x
theorem Less.refl{W:Wd}(R:Mem):Less W R R:=⟨fun S=>S,fun _ _ h=>h⟩
structure Ex(W:Wd) where
 p:Mem->Frz->Value->Shared->Prop
 mono:∀ {R R':Mem} {F F':Frz} {v:Value} {s:Shared},Less W R R'->Incl F F'->p R' F' v s->p R F v s
theorem Ex.up{W:Wd}{E:Ex W}{R:Mem}{F F':Frz}{v:Value}{s:Shared}(i:Incl F F')(h:E.p R F' v s):E.p R F v s:=E.mono (Less.refl R) i h
noncomputable def Ex.no{W:Wd}:Ex W:=⟨fun _ _ _ _=>False,fun _ _ h=>h⟩
noncomputable def Tr(W:Wd)(A:Around)(env:Env)(outer:Outs){α β:Type}(RV:Frz->β->α->Prop)(t:Sem α)(loc:Loc)(mem:Mem)(Q:β->Loc->Mem->Prop)(E:Ex W):Prop:=
 ∀ R F s,Sim W env outer loc mem R F s->wpAny (model W.prog W.w) A t (Post W env outer RV R F Q) (E.p R F) s
noncomputable abbrev TrV(W:Wd)(A:Around)(env:Env)(outer:Outs)(t:Sem Value)(loc:Loc)(mem:Mem)(Q:V->Loc->Mem->Prop)(E:Ex W):Prop:=
 Tr W A env outer (VR W) t loc mem Q E
noncomputable abbrev TrB(W:Wd)(A:Around)(env:Env)(outer:Outs)(t:Sem Bool)(loc:Loc)(mem:Mem)(Q:Bool->Loc->Mem->Prop)(E:Ex W):Prop:=
 Tr W A env outer (fun _ (b c:Bool)=>c=b) t loc mem Q E
inductive Fl where
 | next|brk|cont|ret (v:V)
inductive FR(W:Wd)(F:Frz):Fl->Flow->Prop
 | next:FR W F .next .next
 | brk:FR W F .brk .brk
 | cont:FR W F .cont .cont
 | ret {v:V} {v':Value}:VR W F v v'->FR W F (.ret v) (.ret v')
noncomputable abbrev TrS(W:Wd)(A:Around)(env:Env)(outer:Outs)(t:Sem Flow)(loc:Loc)(mem:Mem)(Q:Fl->Loc->Mem->Prop)(E:Ex W):Prop:=
 Tr W A env outer (FR W) t loc mem Q E
noncomputable abbrev TrL(W:Wd)(A:Around)(env:Env)(outer:Outs)(t:Sem (List Value))(loc:Loc)(mem:Mem)(Q:List V->Loc->Mem->Prop)(E:Ex W):Prop:=
 Tr W A env outer (VRs W) t loc mem Q E
noncomputable def Op(W:Wd)(A:Around)(env:Env)(outer:Outs){α β:Type}(RV:Frz->β->α->Prop)(f:List Value->Sem α)(xs:List V)(loc:Loc)(mem:Mem)(Q:β->Loc->Mem->Prop)(E:Ex W):Prop:=
 ∀ R F s vs,Sim W env outer loc mem R F s->VRs W F xs vs->wpAny (model W.prog W.w) A (f vs) (Post W env outer RV R F Q) (E.p R F) s
section
variable {W:Wd}{A:Around}{env:Env}{outer:Outs}{α β:Type}{RV:Frz->β->α->Prop}{loc:Loc}{mem R:Mem}{E:Ex W}
theorem Post.weaken{F G:Frz}{Q:β->Loc->Mem->Prop}{v:α}{s:Shared}(h:Incl F G)(p:Post W env outer RV R G Q v s):Post W env outer RV R F Q v s:=
 let ⟨F',x,l,m,a,b,c,d⟩:=p;⟨F',x,l,m,h.trans a,b,c,d⟩
theorem Post.mk{F:Frz}{Q:β->Loc->Mem->Prop}{v:α}{x:β}{s:Shared}(r:RV F x v)(S:Sim W env outer loc mem R F s)(q:Q x loc mem):Post W env outer RV R F Q v s:=
 ⟨F,x,loc,mem,Incl.refl F,r,S,q⟩
theorem Tr.mono{t:Sem α}{Q Q':β->Loc->Mem->Prop}(h:Tr W A env outer RV t loc mem Q E)(hq:∀ x l m,Q x l m->Q' x l m):Tr W A env outer RV t loc mem Q' E:=
 fun R F s S=>wpAny_mono (h R F s S) (fun _ _ ⟨F',x,l,m,a,b,c,d⟩=>⟨F',x,l,m,a,b,c,hq x l m d⟩) fun _ _ e=>e
theorem Tr.drop{t:Sem α}{Q:β->Loc->Mem->Prop}{mem':Mem}(h:Tr W A env outer RV t loc mem' Q E)(hm:∀ a x,mem' a=some x->mem a=some x):Tr W A env outer RV t loc mem Q E:=
 fun R F s S=>h R F s (S.drop hm)
end
end Mine
namespace Mine
section
variable {W:Wd}{A:Around}{env:Env}{outer:Outs}{loc:Loc}{mem R:Mem}{E:Ex W}{F:Frz}{s:Shared}
theorem after{α β γ δ:Type}{RV:Frz->β->α->Prop}{RW:Frz->δ->γ->Prop}{t:Sem α}{P:β->Loc->Mem->Prop}{Q':α->Shared->Prop}{Q:δ->Loc->Mem->Prop}
  {F0:Frz} (h:wpAny (model W.prog W.w) A t (Post W env outer RV R F P) (E.p R F) s)
  (hk:∀ v' s' F1 x l1 m1,Incl F F1->RV F1 x v'->Sim W env outer l1 m1 R F1 s'->P x l1 m1->Q' v' s')
  (i:Incl F0 F):wpAny (model W.prog W.w) A t Q' (E.p R F0) s:=
 wpAny_mono h (fun v' s' ⟨F1,x,l1,m1,a,b,c,d⟩=>hk v' s' F1 x l1 m1 a b c d) fun _ _ e=>E.up i e
theorem after'{α β γ δ:Type}{RV:Frz->β->α->Prop}{RW:Frz->δ->γ->Prop}{t:Sem α}{P:β->Loc->Mem->Prop}{Q':α->Shared->Prop}{Q:δ->Loc->Mem->Prop}{E0 E':Value->Shared->Prop}
  (h:wpAny (model W.prog W.w) A t (Post W env outer RV R F P) E0 s)
  (he:∀ e s,E0 e s->E' e s)
  (hk:∀ v' s' F1 x l1 m1,Incl F F1->RV F1 x v'->Sim W env outer l1 m1 R F1 s'->P x l1 m1->Q' v' s'):wpAny (model W.prog W.w) A t Q' E' s:=
 wpAny_mono h (fun v' s' ⟨F1,x,l1,m1,a,b,c,d⟩=>hk v' s' F1 x l1 m1 a b c d) fun e s h=>he e s h
theorem e_none{k:Nat}{pos:Pos}{Q:V->Loc->Mem->Prop}(h:Q .none loc mem):TrV W A env outer (eval (.Constant .none k pos) env) loc mem Q E:=
 fun R F s S=>wpAny_Constant_none (Post.mk .none S h)
theorem e_bool{b:Bool}{k:Nat}{pos:Pos}{Q:V->Loc->Mem->Prop}(h:Q (.bool b) loc mem):TrV W A env outer (eval (.Constant (.bool b) k pos) env) loc mem Q E:=
 fun R F s S=>wpAny_Constant_bool (Post.mk (.bool b) S h)
theorem e_int{i:Int}{k:Nat}{pos:Pos}{Q:V->Loc->Mem->Prop}(h:Q (.int i) loc mem):TrV W A env outer (eval (.Constant (.int i) k pos) env) loc mem Q E:=
 fun R F s S=>wpAny_Constant_int (Post.mk (.int i _) S.tick h)
theorem e_str{x:Str}{k:Nat}{pos:Pos}{Q:V->Loc->Mem->Prop}(h:Q (.str x) loc mem):TrV W A env outer (eval (.Constant (.str x) k pos) env) loc mem Q E:=
 fun R F s S=>wpAny_Constant_str (Post.mk (.str x _) S.tick h)
theorem e_local{x:Str}{pos:Pos}{v:V}{Q:V->Loc->Mem->Prop}(hk:env.scope.kind = .function)(hl:env.kindOf x=some .local)(hd:(x==("__debug__" : Str))=false)(hv:loc.lookup x=some v)(h:Q v loc mem) :
  TrV W A env outer (eval (.Name x pos) env) loc mem Q E:=fun R F s S=>by
 obtain⟨m,hn,l⟩:=S.ns
 obtain⟨v',e,r⟩:=l x v hv
 exact wpAny_Name (wpAny_loadName_local hk hl hn e (Post.mk r S h)) hd
theorem e_cell{x:Str}{pos:Pos}{c:Addr}{v:V}{Q:V->Loc->Mem->Prop}(hk:env.scope.kind = .function)(hl:env.kindOf x=some .cell)(hd:(x==("__debug__" : Str))=false)
  (hc:env.cells.lookup x=some c) (hv:mem c=some (.cell (some v))) (h:Q v loc mem):TrV W A env outer (eval (.Name x pos) env) loc mem Q E:=fun R F s S=>by
 obtain⟨o,ho,r⟩:=S.memOk c _ hv
 cases r.view with
 | cell k r z=>
  obtain⟨y,rfl,q⟩:=r _ rfl
  exact wpAny_Name (wpAny_loadName_cell hk hl hc ⟨o,ho,k⟩ (Post.mk q S h)) hd
theorem e_top{x:Str}{pos:Pos}{u:Value}{v:V}{Q:V->Loc->Mem->Prop}(hg:env.globals=mainGlobals)(hk:env.scope.kind = .function)(hl:env.kindOf x=some .globalImplicit)(hd:(x==("__debug__" : Str))=false)
  (e:nsIn W.K mainGlobals x=some (some u)) (r:∀ F,(∀ a o,W.hb.get? a=some o->F a o)->VR W F v u) (h:Q v loc mem):TrV W A env outer (eval (.Name x pos) env) loc mem Q E:=fun R F s S=>by
 obtain⟨m,hn,l⟩:=S.ns
 exact nameG_K (S.fr hn) W.KIn W.top e (Post.mk (r F S.base) S h) hg hk hl hd
theorem e_topG{x:Str}{pos:Pos}{u:Value}{Q:V->Loc->Mem->Prop}(hg:env.globals=mainGlobals)(hk:env.scope.kind = .function)(hl:env.kindOf x=some .globalImplicit)(hd:(x==("__debug__" : Str))=false)
  (e:nsIn W.K mainGlobals x=some (some u)) (h:Q (.glob u) loc mem):TrV W A env outer (eval (.Name x pos) env) loc mem Q E:=e_top hg hk hl hd e (fun _ _=>.glob u) h
theorem e_boot{x:Str}{pos:Pos}{u:Value}{Q:V->Loc->Mem->Prop}(hg:env.globals=mainGlobals)(hb:env.builtins=builtinsNs)(hk:env.scope.kind = .function)(hl:env.kindOf x=some .globalImplicit)(hd:(x==("__debug__" : Str))=false)
  (e:nsIn W.K mainGlobals x=some none) (hv:bootBuiltins x=some u) (hn:x≠"__name__") (h:Q (.glob u) loc mem):TrV W A env outer (eval (.Name x pos) env) loc mem Q E:=fun R F s S=>by
 obtain⟨m,hns,l⟩:=S.ns
 have T:=W.top
 have Fr':=S.fr hns
 exact Name_function_global hk hl (loadGlobal_builtin (env:=env) (by rw[hg];exact T.g.keeps Fr'.keep) (mg_none_of W.KIn T.g e) (by rw[hb];exact T.b.keeps Fr'.keep) ((T.builtins x hn).trans hv) (Post.mk (.glob u) S h)) hd
theorem e_binop{l r:PySem.Expr}{op:Operator}{pos:Pos}{Q:V->Loc->Mem->Prop}
  (h:TrV W A env outer (eval l env) loc mem (fun a l1 m1=>TrV W A env outer (eval r env) l1 m1 (fun b l2 m2=>Op W A env outer (VR W) (fun|[x,y]=>binaryOp op x y|_=>pure .none) [a,b] l2 m2 Q E) E) E) :
  TrV W A env outer (eval (.BinOp l op r pos) env) loc mem Q E:=fun R F s S=>
 wpAny_BinOp (after (i:=.refl _) (RW:=VR W) (Q:=Q) (h R F s S) fun v' s' F1 x l1 m1 i1 r1 S1 h1=>after (i:=‹_›) (RW:=VR W) (Q:=Q) (h1 R F1 s' S1) fun u' s2 F2 y l2 m2 i2 r2 S2 h2=>
  wpAny_mono (h2 R F2 s2 [v',u'] S2 (.cons (r1.mono i2) (.cons r2 .nil))) (fun _ _ p=>p.weaken (i1.trans i2)) fun _ _ e=>E.up (i1.trans i2) e)
theorem e_cmp{l r:PySem.Expr}{op:CmpOp}{pos:Pos}{Q:V->Loc->Mem->Prop}(hm:behindInMarks op r=false)
  (h:TrV W A env outer (eval l env) loc mem (fun a l1 m1=>TrV W A env outer (eval r env) l1 m1 (fun b l2 m2=>Op W A env outer (VR W) (fun|[x,y]=>compareOp op x y|_=>pure .none) [a,b] l2 m2 Q E) E) E) :
  TrV W A env outer (eval (.Compare l [op] [r] pos) env) loc mem Q E:=fun R F s S=>
 wpAny_Compare1 (hm:=hm) (after (i:=.refl _) (RW:=VR W) (Q:=Q) (h R F s S) fun v' s' F1 x l1 m1 i1 r1 S1 h1=>after (i:=‹_›) (RW:=VR W) (Q:=Q) (h1 R F1 s' S1) fun u' s2 F2 y l2 m2 i2 r2 S2 h2=>
  wpAny_mono (h2 R F2 s2 [v',u'] S2 (.cons (r1.mono i2) (.cons r2 .nil))) (fun _ _ p=>p.weaken (i1.trans i2)) fun _ _ e=>E.up (i1.trans i2) e)
theorem b_cmp{l r:PySem.Expr}{op:CmpOp}{pos:Pos}{whole:Sem Value}{Q:Bool->Loc->Mem->Prop}(hm:behindInMarks op r=false)
  (h:TrV W A env outer (eval l env) loc mem (fun a l1 m1=>TrV W A env outer (eval r env) l1 m1 (fun b l2 m2=>Op W A env outer (VR W) (fun|[x,y]=>compareOp op x y|_=>pure .none) [a,b] l2 m2 (fun c l3 m3=>
   Op W A env outer (fun _ (b c:Bool)=>c=b) (fun|[x]=>truthy x|_=>pure false) [c] l3 m3 Q E) E) E) E) :
  TrB W A env outer (isTrue (.Compare l [op] [r] pos) env whole) loc mem Q E:=fun R F s S=>
 wpAny_isTrue_Compare1 (hm:=hm) (after (i:=.refl _) (RW:=VR W) (Q:=fun _ _ _=>True) (h R F s S) fun v' s' F1 x l1 m1 i1 r1 S1 h1=>after (i:=‹_›) (RW:=VR W) (Q:=fun _ _ _=>True) (h1 R F1 s' S1) fun u' s2 F2 y l2 m2 i2 r2 S2 h2=>
  after (i:=.trans ‹_› ‹_›) (RW:=VR W) (Q:=fun _ _ _=>True) (h2 R F2 s2 [v',u'] S2 (.cons (r1.mono i2) (.cons r2 .nil))) fun c' s3 F3 c l3 m3 i3 r3 S3 h3=>
   wpAny_mono (h3 R F3 s3 [c'] S3 (.cons r3 .nil)) (fun _ _ p=>p.weaken ((i1.trans i2).trans i3)) fun _ _ e=>E.up ((i1.trans i2).trans i3) e)
theorem b_not{x:PySem.Expr}{pos:Pos}{whole:Sem Value}{Q:Bool->Loc->Mem->Prop}(h:TrB W A env outer (isTrue x env (eval x env)) loc mem (fun b l m=>Q (!b) l m) E) :
  TrB W A env outer (isTrue (.UnaryOp .Not x pos) env whole) loc mem Q E:=fun R F s S=>
 wpAny_isTrue_Not (after (i:=.refl _) (RW:=VR W) (Q:=fun _ _ _=>True) (h R F s S) fun v' s' F1 b l1 m1 i1 r1 S1 h1=>⟨F1,!b,l1,m1,i1,by rw[r1],S1,h1⟩)
theorem b_value{e:PySem.Expr}{whole:Sem Value}{Q:Bool->Loc->Mem->Prop}(he:isTrue e env whole=(do let v<-whole;standAt e.pos;holding [v] (truthy v)))
  (h:TrV W A env outer whole loc mem (fun c l m=>Op W A env outer (fun _ (b c:Bool)=>c=b) (fun|[x]=>truthy x|_=>pure false) [c] l m Q E) E):TrB W A env outer (isTrue e env whole) loc mem Q E:=fun R F s S=>
 wpAny_isTrue_value (he:=he) (after (i:=.refl _) (RW:=VR W) (Q:=fun _ _ _=>True) (h R F s S) fun v' s' F1 b l1 m1 i1 r1 S1 h1=>wpAny_mono (h1 R F1 s' [v'] S1 (.cons r1 .nil)) (fun _ _ p=>p.weaken i1) fun _ _ e=>E.up i1 e)
theorem b_bool{op:BoolOp}{values:List PySem.Expr}{pos:Pos}{whole:Sem Value}{Q:Bool->Loc->Mem->Prop}(h:TrB W A env outer (allTrue op values env) loc mem Q E) :
  TrB W A env outer (isTrue (.BoolOp op values pos) env whole) loc mem Q E:=fun R F s S=>wpAny_isTrue_BoolOp (h R F s S)
theorem b_and_nil{Q:Bool->Loc->Mem->Prop}(h:Q true loc mem):TrB W A env outer (allTrue .And [] env) loc mem Q E:=fun R F s S=>wpAny_allTrue_And_nil (Post.mk rfl S h)
theorem b_or_nil{Q:Bool->Loc->Mem->Prop}(h:Q false loc mem):TrB W A env outer (allTrue .Or [] env) loc mem Q E:=fun R F s S=>wpAny_allTrue_Or_nil (Post.mk rfl S h)
theorem b_and_cons{x:PySem.Expr}{rest:List PySem.Expr}{Q:Bool->Loc->Mem->Prop}
  (h:TrB W A env outer (isTrue x env (eval x env)) loc mem (fun b l m=>(b=true->TrB W A env outer (allTrue .And rest env) l m Q E)/\(b=false->Q false l m)) E) :
  TrB W A env outer (allTrue .And (x::rest) env) loc mem Q E:=fun R F s S=>
 wpAny_allTrue_And_cons (after (i:=.refl _) (RW:=VR W) (Q:=fun _ _ _=>True) (h R F s S) fun v' s' F1 b l1 m1 i1 r1 S1 h1=>by
  subst r1
  cases v' with
  | true=>exact wpAny_mono (h1.1 rfl R F1 s' S1) (fun _ _ p=>p.weaken i1) fun _ _ e=>E.up i1 e
  | false=>exact⟨F1,false,l1,m1,i1,rfl,S1,h1.2 rfl⟩)
theorem b_or_cons{x:PySem.Expr}{rest:List PySem.Expr}{Q:Bool->Loc->Mem->Prop}
  (h:TrB W A env outer (isTrue x env (eval x env)) loc mem (fun b l m=>(b=false->TrB W A env outer (allTrue .Or rest env) l m Q E)/\(b=true->Q true l m)) E) :
  TrB W A env outer (allTrue .Or (x::rest) env) loc mem Q E:=fun R F s S=>
 wpAny_allTrue_Or_cons (after (i:=.refl _) (RW:=VR W) (Q:=fun _ _ _=>True) (h R F s S) fun v' s' F1 b l1 m1 i1 r1 S1 h1=>by
  subst r1
  cases v' with
  | false=>exact wpAny_mono (h1.1 rfl R F1 s' S1) (fun _ _ p=>p.weaken i1) fun _ _ e=>E.up i1 e
  | true=>exact⟨F1,true,l1,m1,i1,rfl,S1,h1.2 rfl⟩)
theorem e_ifexp{test body orelse:PySem.Expr}{pos:Pos}{Q:V->Loc->Mem->Prop}
  (h:TrB W A env outer (isTrue test env (eval test env)) loc mem (fun b l m=>(b=true->TrV W A env outer (eval body env) l m Q E)/\(b=false->TrV W A env outer (eval orelse env) l m Q E)) E) :
  TrV W A env outer (eval (.IfExp test body orelse pos) env) loc mem Q E:=fun R F s S=>
 wpAny_IfExp (after (i:=.refl _) (RW:=VR W) (Q:=fun _ _ _=>True) (h R F s S) fun v' s' F1 b l1 m1 i1 r1 S1 h1=>by
  subst r1
  cases v' with
  | true=>rw[if_pos rfl];exact wpAny_mono (h1.1 rfl R F1 s' S1) (fun _ _ p=>p.weaken i1) fun _ _ e=>E.up i1 e
  | false=>rw[if_neg Bool.false_ne_true];exact wpAny_mono (h1.2 rfl R F1 s' S1) (fun _ _ p=>p.weaken i1) fun _ _ e=>E.up i1 e)
theorem e_and2{x y:PySem.Expr}{pos:Pos}{Q:V->Loc->Mem->Prop}
  (h:TrV W A env outer (eval x env) loc mem (fun v l m=>Op W A env outer (fun _ (b c:Bool)=>c=b) (fun|[x]=>truthy x|_=>pure false) [v] l m (fun b l m=>(b=true->TrV W A env outer (eval y env) l m Q E)/\(b=false->Q v l m)) E) E) :
  TrV W A env outer (eval (.BoolOp .And [x,y] pos) env) loc mem Q E:=fun R F s S=>
 wpAny_And2 (after (i:=.refl _) (RW:=VR W) (Q:=fun _ _ _=>True) (h R F s S) fun v' s' F1 v l1 m1 i1 r1 S1 h1=>
  after (i:=‹_›) (RW:=VR W) (Q:=fun _ _ _=>True) (h1 R F1 s' [v'] S1 (.cons r1 .nil)) fun b' s2 F2 b l2 m2 i2 r2 S2 h2=>by
   subst r2
   cases b' with
   | true=>rw[if_pos rfl];exact wpAny_mono (h2.1 rfl R F2 s2 S2) (fun _ _ p=>p.weaken (i1.trans i2)) fun _ _ e=>E.up (i1.trans i2) e
   | false=>rw[if_neg Bool.false_ne_true];exact⟨F2,v,l2,m2,i1.trans i2,r1.mono i2,S2,h2.2 rfl⟩)
theorem e_unop{op:UnaryOp}{x:PySem.Expr}{pos:Pos}{Q:V->Loc->Mem->Prop}(h:TrV W A env outer (eval x env) loc mem (fun v l m=>Op W A env outer (VR W) (fun|[x]=>unaryOp op x|_=>pure .none) [v] l m Q E) E) :
  TrV W A env outer (eval (.UnaryOp op x pos) env) loc mem Q E:=fun R F s S=>
 wpAny_UnaryOp (after (i:=.refl _) (RW:=VR W) (Q:=fun _ _ _=>True) (h R F s S) fun v' s' F1 v l1 m1 i1 r1 S1 h1=>wpAny_mono (h1 R F1 s' [v'] S1 (.cons r1 .nil)) (fun _ _ p=>p.weaken i1) fun _ _ e=>E.up i1 e)
theorem tr_bool{b:Bool}{Q:Bool->Loc->Mem->Prop}(h:Q b loc mem):Op W A env outer (fun _ (b c:Bool)=>c=b) (fun|[x]=>truthy x|_=>pure false) [.bool b] loc mem Q E:=fun R F s vs S r=>by
 obtain⟨_,_,r1,r2,rfl⟩:=r.isCons
 obtain rfl:=r2.isNil;obtain rfl:=r1.isBool;refine wpAny_truthy_bool ?_;exact Post.mk rfl S h
theorem a_nil{pos:Pos}{Q:List V->Loc->Mem->Prop}(h:Q [] loc mem):TrL W A env outer (spliced (backTo pos (starEach [] env))) loc mem Q E:=fun R F s S=>wpAny_items_nil (Post.mk .nil S h)
theorem a_cons{pos:Pos}{e:PySem.Expr}{rest:List PySem.Expr}{Q:List V->Loc->Mem->Prop}(he:starEach (e::rest) env=(false,eval e env)::starEach rest env)
  (h:TrV W A env outer (eval e env) loc mem (fun x l m=>TrL W A env outer (spliced (backTo pos (starEach rest env))) l m (fun xs l m=>Q (x::xs) l m) E) E) :
  TrL W A env outer (spliced (backTo pos (starEach (e::rest) env))) loc mem Q E:=fun R F s S=>
 wpAny_items_cons (he:=he) (after (i:=.refl _) (RW:=VR W) (Q:=fun _ _ _=>True) (h R F s S) fun v' s' F1 v l1 m1 i1 r1 S1 h1=>
  after (i:=‹_›) (RW:=VR W) (Q:=fun _ _ _=>True) (h1 R F1 s' S1) fun vs s2 F2 xs l2 m2 i2 r2 S2 h2=>⟨F2,v::xs,l2,m2,i1.trans i2,.cons (r1.mono i2) r2,S2,h2⟩)
end
section
variable {W:Wd}{A:Around}{env:Env}{outer:Outs}{loc:Loc}{mem R:Mem}{E:Ex W}{F:Frz}{s:Shared}
noncomputable def Cont(W:Wd)(A:Around)(env:Env)(outer:Outs)(rest:List Stmt)(Q:Fl->Loc->Mem->Prop)(E:Ex W):Fl->Loc->Mem->Prop
 | .next,l,m=>TrS W A env outer (execs rest env) l m Q E
 | f,l,m=>Q f l m
theorem s_nil{Q:Fl->Loc->Mem->Prop}(h:Q .next loc mem):TrS W A env outer (execs [] env) loc mem Q E:=fun R F s S=>wpAny_execs_nil (Post.mk .next S h)
theorem s_cons{st:Stmt}{rest:List Stmt}{Q:Fl->Loc->Mem->Prop}(h:TrS W A env outer (exec st env) loc mem (Cont W A env outer rest Q E) E) :
  TrS W A env outer (execs (st::rest) env) loc mem Q E:=fun R F s S=>
 wpAny_execs_cons (after (i:=.refl _) (RW:=VR W) (Q:=fun _ _ _=>True) (h R F s S) fun v' s' F1 f l1 m1 i1 r1 S1 h1=>by
  cases r1 with
  | next=>exact wpAny_mono (h1 R F1 s' S1) (fun _ _ p=>p.weaken i1) fun _ _ e=>E.up i1 e
  | brk=>exact⟨F1,.brk,l1,m1,i1,.brk,S1,h1⟩
  | cont=>exact⟨F1,.cont,l1,m1,i1,.cont,S1,h1⟩
  | ret r=>exact⟨F1,.ret _,l1,m1,i1,.ret r,S1,h1⟩)
theorem s_break{pos:Pos}{Q:Fl->Loc->Mem->Prop}(h:Q .brk loc mem):TrS W A env outer (exec (.Break pos) env) loc mem Q E:=fun R F s S=>wpAny_Break (Post.mk .brk S h)
theorem s_continue{pos:Pos}{Q:Fl->Loc->Mem->Prop}(h:Q .cont loc mem):TrS W A env outer (exec (.Continue pos) env) loc mem Q E:=fun R F s S=>wpAny_Continue (Post.mk .cont S h)
theorem s_ret{e:PySem.Expr}{pos:Pos}{Q:Fl->Loc->Mem->Prop}(h:TrV W A env outer (eval e env) loc mem (fun v=>Q (.ret v)) E) :
  TrS W A env outer (exec (.Return (some e) pos) env) loc mem Q E:=fun R F s S=>
 wpAny_Return_some (after (i:=.refl _) (RW:=VR W) (Q:=fun _ _ _=>True) (h R F s S) fun v' s' F1 f l1 m1 i1 r1 S1 h1=>⟨F1,.ret f,l1,m1,i1,.ret r1,S1,h1⟩)
theorem s_expr{e:PySem.Expr}{pos:Pos}{Q:Fl->Loc->Mem->Prop}(hi:interactive env=false)(hs:swapsWith e none pos.line env=pure false)
  (h:TrV W A env outer (eval e env) loc mem (fun _=>Q .next) E):TrS W A env outer (exec (.Expr e pos) env) loc mem Q E:=fun R F s S=>
 wpAny_Expr_any (hi:=hi) (hs:=hs) (after (i:=.refl _) (RW:=VR W) (Q:=fun _ _ _=>True) (h R F s S) fun v' s' F1 f l1 m1 i1 r1 S1 h1=>⟨F1,.next,l1,m1,i1,.next,S1,h1⟩)
theorem s_if{test:PySem.Expr}{body orelse:List Stmt}{pos:Pos}{Q:Fl->Loc->Mem->Prop}
  (h:TrB W A env outer (isTrue test env (eval test env)) loc mem (fun b l m=>(b=true->TrS W A env outer (execs body env) l m Q E)/\(b=false->TrS W A env outer (execs orelse env) l m Q E)) E) :
  TrS W A env outer (exec (.If test body orelse pos) env) loc mem Q E:=fun R F s S=>
 wpAny_If (after (i:=.refl _) (RW:=VR W) (Q:=fun _ _ _=>True) (h R F s S) fun v' s' F1 b l1 m1 i1 r1 S1 h1=>by
  subst r1
  cases v' with
  | true=>rw[if_pos rfl];exact wpAny_mono (h1.1 rfl R F1 s' S1) (fun _ _ p=>p.weaken i1) fun _ _ e=>E.up i1 e
  | false=>rw[if_neg Bool.false_ne_true];exact wpAny_mono (h1.2 rfl R F1 s' S1) (fun _ _ p=>p.weaken i1) fun _ _ e=>E.up i1 e)
theorem st_local{x:Str}{v:V}{Q:Loc->Mem->Prop}(hl:env.kindOf x=some .local)(hp:(env.scope.kind == .class || (env.scope.kind == .module&&env.locals != env.globals))=false)(h:Q (setL x v loc) mem) :
  Op W A env outer (fun _ (_ _:Unit)=>True) (fun|[y]=>storeName env x y|_=>pure ()) [v] loc mem (fun _=>Q) E:=fun R F s vs S r=>by
 obtain⟨_,_,r1,r2,rfl⟩:=r.isCons
 obtain rfl:=r2.isNil
 obtain⟨m,hn,l⟩:=S.ns
 exact wpAny_storeName_local hl hn (fun h' hn' hs=>Post.mk (x:=()) trivial (S.store r1 l hn' hs) h) hp
theorem cell_back{c:Addr}{u:Option V}{v:V}{o:Obj}{v':Value}(r:VR W F v v')(hd:o.data = .cell (some v')):OR W F (.cell (some v)) o:=
 .cell hd (fun x e=>by cases e;exact⟨v',rfl,r⟩) (fun e=>by cases e)
theorem st_cell{x:Str}{c:Addr}{u:Option V}{v:V}{Q:Loc->Mem->Prop}(hk:env.scope.kind = .function)(hl:env.kindOf x=some .cell)(hc:env.cells.lookup x=some c)(hm:mem c=some (.cell u))
  (h:Q loc (mset mem c (.cell (some v)))) :
  Op W A env outer (fun _ (_ _:Unit)=>True) (fun|[y]=>storeName env x y|_=>pure ()) [v] loc mem (fun _=>Q) E:=fun R F s vs S r=>by
 obtain⟨_,_,r1,r2,rfl⟩:=r.isCons
 obtain rfl:=r2.isNil
 obtain⟨o,ho,ro⟩:=S.memOk c _ hm
 cases ro.view with
 | cell k _ _=>
  refine wpAny_storeName_cell hk hl hc ⟨o,ho,k⟩ fun h' hv hs=>?_
  obtain⟨o',ho',hd'⟩:=hv
  exact Post.mk (x:=()) trivial (S.upd (t:=s.toks) (d:=s.drawn) hm (fun b ob hb e=>(hs.2 b hb).trans e) ho' (cell_back (c:=c) (u:=u) r1 hd')) h
theorem s_assign{x:Str}{pos' pos:Pos}{value:PySem.Expr}{Q:Fl->Loc->Mem->Prop}(hs:swapsWith value (some (.Name x pos')) pos.line env=pure false)
  (h:TrV W A env outer (eval value env) loc mem (fun v l m=>Op W A env outer (fun _ (_ _:Unit)=>True) (fun|[y]=>storeName env x y|_=>pure ()) [v] l m (fun _=>Q .next) E) E) :
  TrS W A env outer (exec (.Assign [.Name x pos'] value pos) env) loc mem Q E:=fun R F s S=>
 wpAny_Assign_Name (hs:=hs) (after (i:=.refl _) (RW:=VR W) (Q:=fun _ _ _=>True) (h R F s S) fun v' s' F1 f l1 m1 i1 r1 S1 h1=>
  after (i:=‹_›) (RW:=VR W) (Q:=fun _ _ _=>True) (h1 R F1 s' [v'] S1 (.cons r1 .nil)) fun _ s2 F2 _ l2 m2 i2 _ S2 h2=>⟨F2,.next,l2,m2,i1.trans i2,.next,S2,h2⟩)
theorem s_assign_attr{o:PySem.Expr}{attr:Str}{pos' pos:Pos}{value:PySem.Expr}{Q:Fl->Loc->Mem->Prop}(hs:swapsWith value (some (.Attribute o attr pos')) pos.line env=pure false)
  (h:TrV W A env outer (eval value env) loc mem (fun v l m=>TrV W A env outer (eval o env) l m (fun ov l m=>Op W A env outer (fun _ (_ _:Unit)=>True) (fun|[x,y]=>setAttr x attr y|_=>pure ()) [ov,v] l m (fun _=>Q .next) E) E) E) :
  TrS W A env outer (exec (.Assign [.Attribute o attr pos'] value pos) env) loc mem Q E:=fun R F s S=>
 plainObj_wpAny_Assign_Attribute (hs:=hs) (after (i:=.refl _) (RW:=VR W) (Q:=fun _ _ _=>True) (h R F s S) fun v' s' F1 f l1 m1 i1 r1 S1 h1=>
  after (i:=‹_›) (RW:=VR W) (Q:=fun _ _ _=>True) (h1 R F1 s' S1) fun u' s2 F2 g l2 m2 i2 r2 S2 h2=>
   after (i:=.trans ‹_› ‹_›) (RW:=VR W) (Q:=fun _ _ _=>True) (h2 R F2 s2 [u',v'] S2 (.cons r2 (.cons (r1.mono i2) .nil))) fun _ s3 F3 _ l3 m3 i3 _ S3 h3=>⟨F3,.next,l3,m3,(i1.trans i2).trans i3,.next,S3,h3⟩)
theorem s_assign_sub{o i:PySem.Expr}{pos' pos:Pos}{value:PySem.Expr}{Q:Fl->Loc->Mem->Prop}(hs:swapsWith value (some (.Subscript o i pos')) pos.line env=pure false)
  (h:TrV W A env outer (eval value env) loc mem (fun v l m=>TrV W A env outer (eval o env) l m (fun ov l m=>TrV W A env outer (eval i env) l m (fun iv l m=>
   Op W A env outer (fun _ (_ _:Unit)=>True) (fun|[x,y,z]=>setItem x y z|_=>pure ()) [ov,iv,v] l m (fun _=>Q .next) E) E) E) E) :
  TrS W A env outer (exec (.Assign [.Subscript o i pos'] value pos) env) loc mem Q E:=fun R F s S=>
 wpAny_Assign_Subscript (hs:=hs) (after (i:=.refl _) (RW:=VR W) (Q:=fun _ _ _=>True) (h R F s S) fun v' s' F1 f l1 m1 i1 r1 S1 h1=>
  after (i:=‹_›) (RW:=VR W) (Q:=fun _ _ _=>True) (h1 R F1 s' S1) fun u' s2 F2 g l2 m2 i2 r2 S2 h2=>
   after (i:=.trans ‹_› ‹_›) (RW:=VR W) (Q:=fun _ _ _=>True) (h2 R F2 s2 S2) fun w' s3 F3 k l3 m3 i3 r3 S3 h3=>
    after (i:=.trans (.trans ‹_› ‹_›) ‹_›) (RW:=VR W) (Q:=fun _ _ _=>True) (h3 R F3 s3 [u',w',v'] S3 (.cons (r2.mono i3) (.cons r3 (.cons (r1.mono (i2.trans i3)) .nil)))) fun _ s4 F4 _ l4 m4 i4 _ S4 h4=>
     ⟨F4,.next,l4,m4,((i1.trans i2).trans i3).trans i4,.next,S4,h4⟩)
theorem s_aug{x:Str}{pos' pos:Pos}{op:Operator}{value:PySem.Expr}{v:V}{Q:Fl->Loc->Mem->Prop}(hk:env.scope.kind = .function)(hl:env.kindOf x=some .local)(hv:loc.lookup x=some v)
  (h:TrV W A env outer (eval value env) loc mem (fun u l m=>Op W A env outer (VR W) (fun|[a,b]=>inplaceOp op a b|_=>pure .none) [v,u] l m (fun r l m=>Op W A env outer (fun _ (_ _:Unit)=>True) (fun|[y]=>storeName env x y|_=>pure ()) [r] l m (fun _=>Q .next) E) E) E) :
  TrS W A env outer (exec (.AugAssign (.Name x pos') op value pos) env) loc mem Q E:=fun R F s S=>by
 obtain⟨m,hn,l⟩:=S.ns
 obtain⟨v',e,r⟩:=l x v hv
 refine wpAny_AugAssign_Name (wpAny_loadName_local hk hl hn e ?_)
 exact after (i:=.refl _) (RW:=VR W) (Q:=fun _ _ _=>True) (h R F s S) fun u' s2 F2 g l2 m2 i2 r2 S2 h2=>
   after (i:=‹_›) (RW:=VR W) (Q:=fun _ _ _=>True) (h2 R F2 s2 [v',u'] S2 (.cons (r.mono i2) (.cons r2 .nil))) fun w' s3 F3 k l3 m3 i3 r3 S3 h3=>
    after (i:=.trans ‹_› ‹_›) (RW:=VR W) (Q:=fun _ _ _=>True) (h3 R F3 s3 [w'] S3 (.cons r3 .nil)) fun _ s4 F4 _ l4 m4 i4 _ S4 h4=>
     ⟨F4,.next,l4,m4,(i2.trans i3).trans i4,.next,S4,h4⟩
theorem s_assert{test:PySem.Expr}{msg:Option PySem.Expr}{pos:Pos}{Q:Fl->Loc->Mem->Prop}(h:TrB W A env outer (isTrue test env (eval test env)) loc mem (fun b l m=>b=true/\Q .next l m) E) :
  TrS W A env outer (exec (.Assert test msg pos) env) loc mem Q E:=fun R F s S=>
 wpAny_Assert_holds (after (i:=.refl _) (RW:=VR W) (Q:=fun _ _ _=>True) (h R F s S) fun v' s' F1 b l1 m1 i1 r1 S1 h1=>⟨r1.trans h1.1,F1,.next,l1,m1,i1,.next,S1,h1.2⟩)
noncomputable def LoopE(W:Wd)(A:Around)(env:Env)(E:Ex W):Ex W where
 p R F:=notedBy (model W.prog W.w) A env fun e s'=>cameBackBy (model W.prog W.w) A env (E.p R F) e s'
 mono l i h:=wpAny_mono h (fun _ _ q=>wpAny_mono q (fun _ _ z=>E.mono l i z) fun _ _ z=>E.mono l i z) fun _ _ z=>wpAny_mono z (fun _ _ z=>E.mono l i z) fun _ _ z=>E.mono l i z
noncomputable abbrev WhlQ(I:Nat->Loc->Mem->Prop)(k:Nat)(Q:Fl->Loc->Mem->Prop):Fl->Loc->Mem->Prop
 | .next,l,m=>∃ k',k'<k/\I k' l m
 | .cont,l,m=>∃ k',k'<k/\I k' l m
 | .brk,l,m=>Q .next l m
 | .ret v,l,m=>Q (.ret v) l m
noncomputable abbrev ForQ(I:Nat->Nat->Loc->Mem->Prop)(k i:Nat)(Q:Fl->Loc->Mem->Prop):Fl->Loc->Mem->Prop
 | .next,l,m=>∃ k',k'<k/\I k' i l m
 | .cont,l,m=>∃ k',k'<k/\I k' i l m
 | .brk,l,m=>Q .next l m
 | .ret v,l,m=>Q (.ret v) l m
theorem nameQ{α β:Type}{RV:Frz->β->α->Prop}{t:Sem α}{Q:β->Loc->Mem->Prop}(h:let q:=Q;let e:=E;Tr W A env outer RV t loc mem q e):Tr W A env outer RV t loc mem Q E:=h
inductive WhlI(W:Wd)(env:Env)(outer:Outs)(F:Frz)(R:Mem)(I:Nat->Loc->Mem->Prop)(n:Nat)(s:Shared):Prop
 | intro (F':Frz) (l:Loc) (m:Mem) (h1_:Incl F F') (h2_:Sim W env outer l m R F' s) (h3_:I n l m)
theorem only_t{p q:Prop}(h:p):(true=true->p)/\(true=false->q):=⟨fun _=>h,fun e=>(nomatch e)⟩
theorem only_f{p q:Prop}(h:q):(false=true->p)/\(false=false->q):=⟨fun e=>(nomatch e),fun _=>h⟩
theorem nameS{sts:List Stmt}{Q:Fl->Loc->Mem->Prop}(h:let a:=A;let v:=env;let o:=outer;let q:=Q;let e:=E;TrS W a v o (execs sts v) loc mem q e):TrS W A env outer (execs sts env) loc mem Q E:=h
theorem s_while{test:PySem.Expr}{body orelse:List Stmt}{pos:Pos}{Q:Fl->Loc->Mem->Prop}(I:Nat->Loc->Mem->Prop)
  (turn:∀ k l m,I k l m->TrB W A env outer (isTrue test env (eval test env)) l m (fun b l m=>
   (b=true->TrS W A env outer (execs body env) l m (WhlQ I k Q) (LoopE W A env E))/\
   (b=false->TrS W A env outer (execs orelse env) l m Q (LoopE W A env E))) (LoopE W A env E))
  (k:Nat) (h:I k loc mem):TrS W A env outer (exec (.While test body orelse pos) env) loc mem Q E:=fun R F s S=>by
 refine wpAny_While (codeAny_whileLoop (WhlI W env outer F R I) (fun n s hI=>?_) k ⟨F,loc,mem,Incl.refl F,S,h⟩)
 obtain⟨F',l,m,i,S',hI⟩:=hI
 refine after' (RW:=VR W) (Q:=fun _ _ _=>True) (turn n l m hI R F' s S') (fun _ _ z=>(LoopE W A env E).mono (Less.refl R) i z) fun b' s1 F1 b l1 m1 i1 r1 S1 h1=>?_
 subst r1
 cases b' with
 | true=>
  rw[if_pos rfl]
  refine after' (RW:=VR W) (Q:=fun _ _ _=>True) (h1.1 rfl R F1 s1 S1) (fun _ _ z=>(LoopE W A env E).mono (Less.refl R) (i.trans i1) z) fun f' s2 F2 f l2 m2 i2 r2 S2 h2=>?_
  cases r2 with
  | next=>obtain⟨k',hk,q⟩:=h2;exact⟨k',hk,F2,l2,m2,(i.trans i1).trans i2,S2,q⟩
  | cont=>obtain⟨k',hk,q⟩:=h2;exact⟨k',hk,F2,l2,m2,(i.trans i1).trans i2,S2,q⟩
  | brk=>exact⟨F2,.next,l2,m2,(i.trans i1).trans i2,.next,S2,h2⟩
  | ret r=>exact⟨F2,.ret _,l2,m2,(i.trans i1).trans i2,.ret r,S2,h2⟩
 | false=>
  rw[if_neg Bool.false_ne_true]
  exact after' (RW:=VR W) (Q:=fun _ _ _=>True) (h1.2 rfl R F1 s1 S1) (fun _ _ z=>(LoopE W A env E).mono (Less.refl R) (i.trans i1) z) fun f' s2 F2 f l2 m2 i2 r2 S2 h2=>⟨F2,f,l2,m2,(i.trans i1).trans i2,r2,S2,h2⟩
inductive FedI(W:Wd)(env:Env)(outer:Outs)(loc:Loc)(mem R₀:Mem)(F:Frz)(st:Nat->Mem->Mem->Prop)(i:Nat)(v:V)(v':Value)(s:Shared):Prop
 | intro (F':Frz) (R':Mem) (h1_:Incl F F') (h2_:VR W F' v v') (h3_:st i R₀ R') (h4_:Sim W env outer loc mem R' F' s)
structure Feed(W:Wd)(A:Around)(F₀:Frz)(target:PySem.Expr)(it:Value)(item:Nat->Mem->Option (Option V))(st:Nat->Mem->Mem->Prop):Prop where
 next:∀ {i:Nat} {env:Env} {outer:Outs} {loc:Loc} {mem R₀ R:Mem} {F:Frz} {s:Shared} {v:V} (E:Value->Shared->Prop),Incl F₀ F->st i R₀ R->item i mem=some (some v)->Sim W env outer loc mem R F s->
  wpAny (model W.prog W.w) A (pyNext it) (fun r s1=>∃ v',r=some v'/\wpAny (model W.prog W.w) A (letOwnedTupleGo target it v') (fun _ s2=>FedI W env outer loc mem R₀ F st (i+1) v v' s2) E s1) E s
 done:∀ {i:Nat} {env:Env} {outer:Outs} {loc:Loc} {mem R₀ R:Mem} {F:Frz} {s:Shared} (E:Value->Shared->Prop),Incl F₀ F->st i R₀ R->item i mem=some none->Sim W env outer loc mem R F s->
  wpAny (model W.prog W.w) A (pyNext it) (fun r s1=>r=none/\Sim W env outer loc mem R₀ F s1) E s
 self:∀ {i:Nat} {env:Env} {outer:Outs} {loc:Loc} {mem R₀ R:Mem} {F:Frz} {s:Shared} (E:Value->Shared->Prop) (Q:Value->Shared->Prop),st i R₀ R->Sim W env outer loc mem R F s->Q it s->wpAny (model W.prog W.w) A (pyIter it) Q E s
 frame:∀ {i:Nat} {R₀ R:Mem} {D:Addr} (x:AObj),st i R₀ R->R D=R₀ D->st i (mset R₀ D x) (mset R D x)
 same:∀ {i:Nat} {R₀ R:Mem} {D:Addr},st i R₀ R->R₀ D≠none->R D=R₀ D
 off:∀ {i:Nat} {env:Env} {outer:Outs} {loc:Loc} {mem R₀ R:Mem} {F:Frz} {s:Shared},st i R₀ R->Sim W env outer loc mem R F s->Sim W env outer loc mem R₀ F s
noncomputable def Itr(W:Wd)(A:Around)(target:PySem.Expr)(x:V)(mem mem₀:Mem)(item:Nat->Mem->Option (Option V)):Prop:=
 ∀ {env:Env} {outer:Outs} {loc:Loc} {R:Mem} {F:Frz} {s:Shared} {x':Value} (E:Value->Shared->Prop),Sim W env outer loc mem R F s->VR W F x x'->
  wpAny (model W.prog W.w) A (pyIter x') (fun it s'=>∃ st R',Feed W A F target it item st/\st 0 R R'/\Sim W env outer loc mem₀ R' F s') E s
noncomputable def ForK(W:Wd)(A:Around)(env:Env)(outer:Outs)(target:PySem.Expr)(body orelse:List Stmt)(x:V)(loc:Loc)(mem:Mem)(Q:Fl->Loc->Mem->Prop)(E:Ex W):Prop:=
 ∀ R F s x',Sim W env outer loc mem R F s->VR W F x x'->wpAny (model W.prog W.w) A (pyIter x') (fun it s2=>codeAny (model W.prog W.w) A (.forLoop target it body orelse env) (fun r s'=>match r with
  | .ok f=>Post W env outer (FR W) R F Q f s'
  | .error e=>cameBackBy (model W.prog W.w) A env (E.p R F) e s') s2) (E.p R F) s
theorem s_for{target iter:PySem.Expr}{body orelse:List Stmt}{pos:Pos}{Q:Fl->Loc->Mem->Prop}(hs:∀ x,foldedSetIterable iter env x=pure x)
  (h:TrV W A env outer (eval iter env) loc mem (fun x l m=>ForK W A env outer target body orelse x l m Q E) E) :
  TrS W A env outer (exec (.For target iter body orelse pos) env) loc mem Q E:=fun R F s S=>
 wpAny_For (hs:=hs) (after (i:=.refl _) (RW:=VR W) (Q:=fun _ _ _=>True) (h R F s S) fun x' s1 F1 x l1 m1 i1 r1 S1 h1=>
  wpAny_mono (h1 R F1 s1 x' S1 r1) (fun it s2 h2=>codeAny_mono h2 fun r s' h3=>by
   cases r with
   | ok f=>exact Post.weaken i1 h3
   | error e=>exact wpAny_mono h3 (fun _ _ z=>E.up i1 z) fun _ _ z=>E.up i1 z) fun _ _ e=>E.up i1 e)
inductive ForI(W:Wd)(env:Env)(outer:Outs)(F:Frz)(R:Mem)(st:Nat->Mem->Mem->Prop)(I:Nat->Nat->Loc->Mem->Prop)(n:Nat)(s:Shared):Prop
 | intro (i:Nat) (F':Frz) (R':Mem) (l:Loc) (m:Mem) (h1_:Incl F F') (h2_:st i R R') (h3_:Sim W env outer l m R' F' s) (h4_:I n i l m)
theorem for_k{mem₀:Mem}{target:PySem.Expr}{body orelse:List Stmt}{x:V}{Q:Fl->Loc->Mem->Prop}{item:Nat->Mem->Option (Option V)}(hx:Itr W A target x mem mem₀ item)(I:Nat->Nat->Loc->Mem->Prop)
  (turn:∀ k i l m,I k i l m->item i m≠none/\(item i m=some none->TrS W A env outer (execs orelse env) l m Q (LoopE W A env E))/\
   ∀ v,item i m=some (some v)->Op W A env outer (fun _ (_ _:Unit)=>True) (fun|[y]=>assign target env y|_=>pure ()) [v] l m (fun _ l m=>TrS W A env outer (execs body env) l m (ForQ I k (i+1) Q) (LoopE W A env E)) (LoopE W A env E))
  (k:Nat) (h:I k 0 loc mem₀):ForK W A env outer target body orelse x loc mem Q E:=fun R F s x' S r=>by
 refine wpAny_mono (hx (E.p R F) S r) (fun it s2 h2=>?_) fun _ _ e=>e
 obtain⟨st,R',fd,h0,S2⟩:=h2
 refine codeAny_forLoop_any (ForI W env outer F R st I) (fun n s hI=>?_) k ⟨0,F,R',loc,mem₀,Incl.refl F,h0,S2,h⟩
 obtain⟨i,F',R1,l,m,ic,hst,S',hI⟩:=hI
 obtain⟨t1,t2,t3⟩:=turn n i l m hI
 cases hit:item i m with
 | none=>exact absurd hit t1
 | some w=>
  cases w with
  | none=>
   refine wpAny_mono (fd.done _ ic hst hit S') (fun r s1 h1=>?_) fun _ _ e=>e
   obtain⟨rfl,S1⟩:=h1
   exact wpAny_mono (t2 hit R F' s1 S1) (fun f s3 h3=>Post.weaken ic h3) fun _ _ e=>(LoopE W A env E).mono (Less.refl R) ic e
  | some v=>
   refine wpAny_mono (fd.next _ ic hst hit S') (fun r s1 h1=>?_) fun _ _ e=>e
   obtain⟨v',rfl,h1⟩:=h1
   refine wpAny_mono h1 (fun _ s2 h2=>?_) fun _ _ e=>e
   obtain⟨F2,R2,i2,r2,hst2,S2⟩:=h2
   have less:Less W R R2:=⟨fun S=>fd.off hst2 S,fun a x h=>by rw[fd.same hst2 (by rw[h];exact fun e=>nomatch e)];exact h⟩
   refine after' (RW:=VR W) (Q:=fun _ _ _=>True) (t3 v hit R2 F2 s2 [v'] S2 (.cons r2 .nil)) (fun _ _ z=>(LoopE W A env E).mono less (ic.trans i2) z) fun _ s3 F3 _ l3 m3 i3 _ S3 h3=>?_
   refine after' (RW:=VR W) (Q:=fun _ _ _=>True) (h3 R2 F3 s3 S3) (fun _ _ z=>(LoopE W A env E).mono less ((ic.trans i2).trans i3) z) fun f' s4 F4 f l4 m4 i4 r4 S4 h4=>?_
   have hi:=((ic.trans i2).trans i3).trans i4
   cases r4 with
   | next=>obtain⟨k',hk,q⟩:=h4;exact⟨k',hk,i+1,F4,R2,l4,m4,hi,hst2,S4,q⟩
   | cont=>obtain⟨k',hk,q⟩:=h4;exact⟨k',hk,i+1,F4,R2,l4,m4,hi,hst2,S4,q⟩
   | brk=>exact⟨F4,.next,l4,m4,hi,.next,fd.off hst2 S4,h4⟩
   | ret r=>exact⟨F4,.ret _,l4,m4,hi,.ret r,fd.off hst2 S4,h4⟩
end
noncomputable def ledger(hb h:Heap)(L d:Addr):List (Addr×Obj):=(List.range h.objs.size).filterMap fun a=>if a=L\/a=d\/(hb.get? a).isSome=true then none else(h.get? a).map fun o=>(a,o)
theorem mem_ledger{hb h:Heap}{L d:Addr}{p:Addr×Obj}:p∈ledger hb h L d↔h.get? p.1=some p.2/\p.1≠L/\p.1≠d/\hb.get? p.1=none:=by
 unfold ledger
 rw[List.mem_filterMap]
 constructor
 ·rintro⟨a,ha,e⟩
  split at e
  ·cases e
  ·rename_i hn
   cases q:h.get? a with
   | none=>rw[q]at e;cases e
   | some o=>
    rw[q]at e
    cases e
    refine⟨q,fun e=>hn (.inl e),fun e=>hn (.inr (.inl e)),?_⟩
    cases z:hb.get? a with
    | none=>rfl
    | some y=>exact absurd (.inr (.inr (by rw[z];rfl))) hn
 ·rintro⟨h1,h2,h3,h4⟩
  refine⟨p.1,List.mem_range.mpr (Heap.lt_size h1),?_⟩
  rw[if_neg,h1]
  ·rfl
  ·rintro(e|e|e)
   ·exact h2 e
   ·exact h3 e
   ·rw[h4]at e;cases e
theorem ledger_ne{hb h:Heap}{L d:Addr}{p:Addr×Obj}(hp:p∈ledger hb h L d):p.1≠d:=(mem_ledger.mp hp).2.2.1
section
variable {W:Wd}{env:Env}{outer:Outs}{loc:Loc}{mem R:Mem}{F:Frz}{s:Shared}
theorem Sim.newsAll{a:Addr}{x:AObj}{o:Obj}(S:Sim W env outer loc mem R F s)(h:mem a=some x)(ho:s.heap.get? a=some o):News W.hb env.locals s.heap ((a,o)::ledger W.hb s.heap env.locals a):=by
 intro p hp
 rcases List.mem_cons.mp hp with rfl|hp
 ·exact⟨ho,S.ne_locals h,S.fresh_base h⟩
 ·have:=mem_ledger.mp hp;exact⟨this.1,this.2.1,this.2.2.2⟩
theorem Sim0.updN{a:Addr}{x x':AObj}{h':Heap}{t:Nat}{d:Drawn}{o':Obj}{m:Str->Option Value}(S:Sim0 W env outer loc mem F s)(hm:mem a=some x)(l:LocRel W F loc m)
  (Fr':Fr W.hb env.locals h' m) (N':News W.hb env.locals h' ((a,o')::ledger W.hb s.heap env.locals a)) (r:OR W F x' o') :
  Sim0 W env outer loc (mset mem a x') F { s with heap:=h',toks:=t,drawn:=d }:=by
 have hs:∀ b o,b≠a->b≠env.locals->s.heap.get? b=some o->h'.get? b=some o:=fun b o h1 h2 e=>by
  cases q:W.hb.get? b with
  | some o'=>
   have:=S.frz _ _ (S.base _ _ q)
   rw[e]at this;cases this
   exact Fr'.keep b o q
  | none=>exact(N' (b,o) (.tail _ (mem_ledger.mpr ⟨e,h2,h1,q⟩))).1
 have ho:=(N' (a,o') (.head _)).1
 exact {
  frz:=fun b o h=>hs b o (fun e=>by have:=S.memF b o h;rw[e,hm]at this;cases this) (fun e=>S.nsF.1 o (e▸h)) (S.frz b o h)
  base:=S.base
  memF:=fun b o h=>by
   have hb:b≠a:=fun e=>by have:=S.memF b o h;rw[e,hm]at this;cases this
   rw[mset_ne hb];exact S.memF b o h
  memOk:=fun b y h=>by
   by_cases e:b=a
   ·subst e;rw[mset_self]at h;cases h;exact⟨o',ho,r⟩
   ·rw[mset_ne e]at h;obtain⟨o,e',q⟩:=S.memOk b y h;exact⟨o,hs b o e (S.ne_locals h) e',q⟩
  ns:=⟨m,Fr'.ns,l⟩
  nsF:=⟨S.nsF.1,by rw[mset_ne (Ne.symm (S.ne_locals hm))];exact S.nsF.2⟩
  outs:=fun q hq=>by
   obtain⟨z,b,c,e⟩:=S.outs q hq
   have hq':q.1≠a:=fun e=>by rw[e,hm]at c;cases c
   obtain⟨o,es,ep,e',r'⟩:=z
   exact⟨⟨o,es,ep,hs _ _ hq' e e',r'⟩,b,by rw[mset_ne hq'];exact c,e⟩
  low:=S.low
  memLow:=fun b y h=>by
   unfold mset at h
   split at h
   ·rename_i q;rw[q];exact S.memLow a x hm
   ·exact S.memLow b y h
  gens:=S.gens
  os:=S.os }
theorem Sim.updN{a:Addr}{x x':AObj}{h':Heap}{t:Nat}{d:Drawn}{o':Obj}{m:Str->Option Value}(S:Sim W env outer loc mem R F s)(hm:mem a=some x)(l:LocRel W F loc m)
  (Fr':Fr W.hb env.locals h' m) (N':News W.hb env.locals h' ((a,o')::ledger W.hb s.heap env.locals a)) (r:OR W F x' o') :
  Sim W env outer loc (mset mem a x') R F { s with heap:=h',toks:=t,drawn:=d }:=⟨S.dis.set hm,mset_mun mem R a x'▸S.z.updN (mun_l hm) l Fr' N' r⟩
end
noncomputable def getA(es:List (Str×V))(k:Str):Option V:=(es.find? fun e=>e.1=k).map (·.2)
noncomputable def stA(es:List (Str×V))(k:Str)(v:V):List (Str×V):=
 if es.any (fun e=>e.1=k) then es.map (fun e=>if e.1=k then(e.1,v) else e) else es++[(k,v)]
section
variable {W:Wd}{F:Frz}
theorem VRp.get{es:List (Str×V)}{kvs:List (Str×Value)}(r:VRp W F es kvs)(k:Str) :
  (∀ x,getA es k=some x->∃ v,valueAt kvs k=some v/\VR W F x v)/\(getA es k=none->valueAt kvs k=none):=by
 induction es generalizing kvs with
 | nil=>cases r.view;exact⟨fun x h=>(nomatch h),fun _=>rfl⟩
 | cons e es ih=>
  cases r with
  | @cons k' x v xs vs r1 r2=>
   unfold getA valueAt
   rw[List.find?_cons,List.find?_cons]
   by_cases h:k'=k
   ·simp only [h,decide_true]
    exact⟨fun y e=>by cases e;exact⟨v,rfl,r1⟩,fun e=>(nomatch e)⟩
   ·simp only [h,decide_false]
    exact ih r2
theorem VRp.keys{es:List (Str×V)}{kvs:List (Str×Value)}(r:VRp W F es kvs):kvs.map (·.1)=es.map (·.1):=by
 induction es generalizing kvs with
 | nil=>cases r.view;rfl
 | cons e es ih=>cases r.view with|cons r1 r2=>simp[ih r2]
theorem VRp.length{es:List (Str×V)}{kvs:List (Str×Value)}(r:VRp W F es kvs):kvs.length=es.length:=by
 have:=congrArg List.length r.keys;simpa using this
theorem VRp.append{es es':List (Str×V)}{kvs kvs':List (Str×Value)}(r:VRp W F es kvs)(r':VRp W F es' kvs'):VRp W F (es++es') (kvs++kvs'):=by
 induction es generalizing kvs with
 | nil=>cases r.view;exact r'
 | cons e es ih=>cases r.view with|cons r1 r2=>exact .cons r1 (ih r2)
theorem VRp.any{es:List (Str×V)}{kvs:List (Str×Value)}(r:VRp W F es kvs)(k:Str):kvs.any (fun e=>decide (e.1=k))=es.any (fun e=>decide (e.1=k)):=by
 induction es generalizing kvs with
 | nil=>cases r.view;rfl
 | cons e es ih=>cases r.view with|cons r1 r2=>simp[ih r2]
theorem VRp.map{es:List (Str×V)}{kvs:List (Str×Value)}(r:VRp W F es kvs)(k:Str){x:V}{v:Value}(rx:VR W F x v) :
  VRp W F (es.map fun e=>if e.1=k then(e.1,x) else e) (kvs.map fun e=>if e.1=k then(e.1,v) else e):=by
 induction es generalizing kvs with
 | nil=>cases r.view;exact .nil
 | cons e es ih=>
  cases r with
  | @cons k' y u xs vs r1 r2=>
   rw[List.map_cons,List.map_cons]
   by_cases h:k'=k
   ·simp only [h,if_true];exact .cons rx (ih r2)
   ·simp only [h,if_false];exact .cons r1 (ih r2)
theorem VRp.store{es:List (Str×V)}{kvs:List (Str×Value)}(r:VRp W F es kvs)(k:Str){x:V}{v:Value}(rx:VR W F x v):VRp W F (stA es k x) (stored kvs k v):=by
 unfold stA stored
 rw[r.any k]
 split
 ·exact r.map k rx
 ·exact r.append (.cons rx .nil)
theorem VRp.rev{es:List (Str×V)}{kvs:List (Str×Value)}(r:VRp W F es kvs):VRp W F es.reverse kvs.reverse:=by
 induction es generalizing kvs with
 | nil=>cases r.view;exact .nil
 | cons e es ih=>cases r.view with|cons r1 r2=>rw[List.reverse_cons,List.reverse_cons];exact(ih r2).append (.cons r1 .nil)
theorem VRp.loc{es:List (Str×V)}{kvs:List (Str×Value)}(r:VRp W F es kvs):LocRel W F es (fun x=>kvs.lookup x):=by
 induction es generalizing kvs with
 | nil=>intro x v e;cases e
 | cons e es ih=>
  cases r with
  | @cons k y u xs vs r1 r2=>
   intro x v e
   rw[List.lookup_cons]at e
   show ∃ v',List.lookup x ((k,u)::vs)=some v'/\_
   rw[List.lookup_cons]
   split at e
   ·cases e;exact⟨u,rfl,r1⟩
   ·exact ih r2 x v e
theorem VRs.length{xs:List V}{vs:List Value}(r:VRs W F xs vs):vs.length=xs.length:=by
 induction xs generalizing vs with
 | nil=>obtain rfl:=r.isNil;rfl
 | cons x xs ih=>cases r.view with|cons r1 r2=>simp[ih r2]
end
section
variable {W:Wd}{A:Around}{env:Env}{outer:Outs}{loc:Loc}{mem R:Mem}{E:Ex W}{F:Frz}{s:Shared}
theorem Pairs.refKey{es:List DictEntry}{kvs:List (Str×Value)}(h:Pairs (strKind W.prog W.w) es kvs):es.any (·.refKey)=false:=by
 induction h with
 | nil=>rfl
 | cons hk _ _ ih=>
  obtain⟨t,e⟩:=Value.isStrOf_shape hk
  rw[List.any_cons,ih,Bool.or_false]
  unfold DictEntry.refKey
  rw[e]
theorem lookIn_of{o:Obj}{kvs:List (Str×Value)}(h:o.IsDictOf (strKind W.prog W.w) kvs)(k:Str):lookIn k o=some (valueAt kvs k):=by
 obtain⟨es,ep,hx,hd,hk,hp,hn⟩:=h
 unfold lookIn
 rw[hd]
 dsimp only
 have e:=hp.find k
 have e2:(es.toList.find? fun e=>e.key.isStr k)=es.toList.find? fun e=>(strKind W.prog W.w).is k e.key:=by
  congr 1;funext e;exact isStr_of k e.key
 rw[e2]
 rw[<-e]
 cases q:es.toList.find? fun e=>(strKind W.prog W.w).is k e.key with
 | some e'=>rfl
 | none=>rw[Pairs.refKey hp];rfl
theorem putL_eq_of_find{k:Str}{hsh:Int}{key v:Value}:∀ {es:List DictEntry} {i:Nat},es.findIdx? (fun x=>x.key.isStr k)=some i->putL k hsh key v es=es.modify i fun e=>{ e with val:=v }:=by
 intro es i h
 rw[<-putL_find k hsh key v es,h]
theorem putL_eq_of_none{k:Str}{hsh:Int}{key v:Value}{es:List DictEntry}(h:es.findIdx? (fun x=>x.key.isStr k)=none):putL k hsh key v es=es++[⟨hsh,key,v⟩]:=by
 rw[<-putL_find k hsh key v es,h]
theorem dictOf_put{ds:List DictEntry}{n m:Nat}{kvs:List (Str×Value)}{k:Str}{t:Tok}{v:Value}(h:(dictOf ds n).IsDictOf (strKind W.prog W.w) kvs) :
  (dictOf (putL k (PyData.keyHash W.w.params k) (.str k t) v ds) m).IsDictOf (strKind W.prog W.w) (stored kvs k v):=by
 obtain⟨es,ep,hx,hd,hk,hp,hn⟩:=h
 have he:es=ds.toArray:=by cases hd;rfl
 subst he
 have e2:∀ (l:List DictEntry),(l.findIdx? fun e=>e.key.isStr k)=l.findIdx? fun e=>(strKind W.prog W.w).is k e.key:=fun l=>by
  congr 1;funext e;exact isStr_of k e.key
 refine⟨(putL k (PyData.keyHash W.w.params k) (.str k t) v ds).toArray,m,⟨rfl,rfl,rfl⟩,rfl,?_,?_,?_⟩
 ·intro e he
  have he':e∈putL k (PyData.keyHash W.w.params k) (.str k t) v ds:=by simpa using he
  cases q:ds.findIdx? (fun x=>x.key.isStr k) with
  | some i=>
   rw[putL_eq_of_find q]at he'
   have:=hk.modify i v
   exact this e (by rw[List.modify_toArray];simpa using he')
  | none=>
   rw[putL_eq_of_none q]at he'
   rcases List.mem_append.mp he' with h|h
   ·exact hk e (by simpa using h)
   ·rw[List.mem_singleton]at h;subst h;exact⟨k,strKind_is _ _ k t,rfl⟩
 ·show Pairs _ (putL k (PyData.keyHash W.w.params k) (.str k t) v ds) _
  have hp':Pairs (strKind W.prog W.w) ds kvs:=hp
  cases q:ds.findIdx? (fun x=>x.key.isStr k) with
  | some i=>
   rw[putL_eq_of_find q]
   have q':=q
   rw[e2]at q
   have q2:=q
   rw[hp'.findIdx k]at q2
   unfold stored
   rw[if_pos (any_of_findIdx_some q2)]
   exact hp'.modify hn q v
  | none=>
   rw[putL_eq_of_none q]
   rw[e2,hp'.findIdx k]at q
   unfold stored
   rw[if_neg]
   ·exact hp'.append (strKind_is _ _ k t) _ v
   ·intro hh
    have:=not_mem_of_findIdx_none q
    obtain⟨x,hx1,hx2⟩:=List.any_eq_true.mp hh
    exact this (List.mem_map.mpr ⟨x,hx1,of_decide_eq_true hx2⟩)
 ·unfold stored
  split
  ·rw[keys_map_store];exact hn
  ·rename_i hh
   rw[List.map_append,List.nodup_append]
   refine⟨hn,by simp,?_⟩
   intro a ha b hb e
   subst e
   simp only [List.map_cons,List.map_nil,List.mem_singleton]at hb
   subst hb
   obtain⟨x,hx1,hx2⟩:=inM ha
   exact hh (List.any_eq_true.mpr ⟨x,hx1,by simpa using hx2⟩)
inductive Inst(W:Wd)(mem:Mem):V->Addr->List (Str×V)->Prop
 | own {x C d:Addr} {es:List (Str×V)} {ep:Nat}:mem x=some (.inst C d)->mem d=some (.dict es ep)->Inst W mem (.ref x) C es
 | frz {C:Addr} {es:List (Str×V)}:Inst W mem (.ins C es) C es
theorem Inst.at{v:V}{C:Addr}{es:List (Str×V)}{v':Value}(I:Inst W mem v C es)(S:Sim W env outer loc mem R F s)(r:VR W F v v') :
  ∃ x d od kvs,v' = .ref x/\InstAt s.heap x (instObj C d) C (some od)/\od.IsDictOf (strKind W.prog W.w) kvs/\VRp W F es kvs:=by
 cases I with
 | own h1 h2=>
  obtain rfl:=r.isRef
  obtain⟨o,ho,r1⟩:=S.memOk _ _ h1
  obtain⟨o2,ho2,r2⟩:=S.memOk _ _ h2
  cases r1.view
  cases r2.view with
  | dict k q=>exact⟨_,_,_,_,rfl,⟨ho,rfl,rfl,ho2⟩,k,q⟩
 | frz=>
  cases r.view with
  | ins f g k q=>exact⟨_,_,_,_,rfl,⟨S.frz _ _ f,rfl,rfl,S.frz _ _ g⟩,k,q⟩
noncomputable def okV:V->Bool
 | .glob u=>handedIn u
 | _=>true
theorem VR.handed{v:V}{v':Value}(r:VR W F v v')(h:okV v=true):handedIn v'=true:=by
 cases r<;>first|rfl|exact h
theorem get_field{v:V}{C:Addr}{es:List (Str×V)}{name:Str}{expr:Bool}{x:V}{attr:Option Value}{Q:V->Loc->Mem->Prop}(I:Inst W mem v C es)(hg:plainGet W.K C name=true)(hh:hasDictIn W.K C=true)
  (ha:findIn W.K (.ref C) name=some attr) (hn:noGet W.K attr=true) (hl:getA es name=some x) (hv:okV x=true) (h:Q x loc mem) :
  Op W A env outer (VR W) (fun|[y]=>getAttr y name expr|_=>pure .none) [v] loc mem Q E:=fun R F s vs S r=>by
 obtain⟨_,_,r1,r2,rfl⟩:=r.isCons
 obtain rfl:=r2.isNil
 obtain⟨xa,d,od,kvs,rfl,J,hd,rp⟩:=I.at S r1
 obtain⟨u,hu,ru⟩:=(rp.get name).1 x hl
 exact get_value S.kin J (plainGet_of hg).1 (findObj_own hh ha hn (by rw[lookIn_of hd,hu])) (ru.handed hv) (Post.mk ru S.tick h)
theorem e_attr{value:PySem.Expr}{attr:Str}{pos:Pos}{Q:V->Loc->Mem->Prop}
  (he:eval (.Attribute value attr pos) env=(do
   let o<-eval value env
   standAt pos.atName
   let r<-holding [o] (getAttr o attr true)
   letTemporaryGo value o r
   pure r))
  (h:TrV W A env outer (eval value env) loc mem (fun o l m=>Op W A env outer (VR W) (fun|[y]=>getAttr y attr true|_=>pure .none) [o] l m Q E) E) :
  TrV W A env outer (eval (.Attribute value attr pos) env) loc mem Q E:=fun R F s S=>
 Attribute_any_ (he:=he) (after (i:=.refl _) (RW:=VR W) (Q:=fun _ _ _=>True) (h R F s S) fun v' s' F1 v l1 m1 i1 r1 S1 h1=>wpAny_mono (h1 R F1 s' [v'] S1 (.cons r1 .nil)) (fun _ _ p=>p.weaken i1) fun _ _ e=>E.up i1 e)
theorem set_field{x C d:Addr}{es:List (Str×V)}{ep:Nat}{name:Str}{v:V}{Q:Loc->Mem->Prop}(h1:mem x=some (.inst C d))(h2:mem d=some (.dict es ep))
  (hs:findIn W.K (.ref C) "__setattr__" = some (some (.builtin "object.__setattr__"))) (hp:plainOver W.K C=true) (ht:takerIn W.K C name=some none) (hh:hasDictIn W.K C=true) (hz:es.length≤900)
  (h:∀ ep',Q loc (mset mem d (.dict (stA es name v) ep'))) :
  Op W A env outer (fun _ (_ _:Unit)=>True) (fun|[y,z]=>setAttr y name z|_=>pure ()) [.ref x,v] loc mem (fun _=>Q) E:=fun R F s vs S r=>by
 obtain⟨_,_,r1,r2,rfl⟩:=r.isCons
 obtain rfl:=r1.isRef
 cases r2.view with
 | @cons v' _ ru r3=>
  obtain rfl:=r3.isNil
  obtain⟨o,ho,q1⟩:=S.memOk _ _ h1
  obtain⟨o2,ho2,q2⟩:=S.memOk _ _ h2
  cases q1.view
  cases q2.view with
  | @dict ds kvs k q=>
   obtain⟨m,hn,l⟩:=S.ns
   have hl:(getL name ds).isSome=true:=by
    have:=lookIn_of k name
    rw[lookIn_dict]at this
    rw[this];rfl
   have hlen:(putL name (PyData.keyHash W.w.params name) (.str name (s.toks+1)) v' ds).length≤1000:=by
    have hp':Pairs (strKind W.prog W.w) (putL name (PyData.keyHash W.w.params name) (.str name (s.toks+1)) v' ds) (stored kvs name v'):=by
     obtain⟨es',ep',_,hd',_,hp',_⟩:=dictOf_put (m:=0) (t:=s.toks+1) (k:=name) (v:=v') k
     cases hd';exact hp'
    have z1:=hp'.length
    have z2:=stored_length_le kvs name v'
    have z3:=q.length
    lia
   refine set_dict (S.fr hn) W.KIn (S.newsAll h2 ho2) ⟨ho,rfl,rfl,ho2⟩ rfl hs hp ht hh hl rfl (.head (fun p hp=>ledger_ne hp)) hlen fun h' F' N'=>?_
   exact Post.mk (x:=()) trivial (S.updN (t:=s.toks+2) (d:=s.drawn) h2 l F' N' (.dict (dictOf_put k) (q.store name ru))) (h _)
end
section
variable {W:Wd}{A:Around}{env:Env}{outer:Outs}{loc:Loc}{mem R:Mem}{E:Ex W}{F:Frz}{s:Shared}
noncomputable def LeaveE(W:Wd)(A:Around)(env':Env)(E:Ex W):Ex W where
 p R F e s':=wpAny (model W.prog W.w) (A.deeper env') (leaving env' e) (fun _ s''=>E.p R F e s'') (fun e' s''=>E.p R F e' s'') s'
 mono l i h:=wpAny_mono h (fun _ _ z=>E.mono l i z) fun _ _ z=>E.mono l i z
noncomputable def retOf:Fl->V
 | .ret v=>v
 | _=>.none
noncomputable def Body(W:Wd)(A:Around)(env:Env)(outer:Outs)(qual:Str)(scope:Scope)(body:List Stmt)(cdv:Value)(cl:List (Str×Addr))(f:Addr)(bs:Loc)(mem:Mem)(Q:V->Mem->Prop)(E:Ex W):Prop:=
 ∀ (L:Addr) (m0:Str->Option Value),TrS W (A.deeper (envX qual scope L f cdv cl)) (envX qual scope L f cdv cl) ((env.locals,m0)::outer) (execs body (envX qual scope L f cdv cl)) bs mem (fun fl _ m=>∃ m',(∀ a x,m' a=some x->m a=some x)/\Q (retOf fl) m') (LeaveE W A (envX qual scope L f cdv cl) E)
theorem Sim0.enter{L:Addr}{env':Env}{h₁:Heap}{t:Nat}{m m':Str->Option Value}{loc':Loc}(S:Sim0 W env outer loc mem F s)(hn:s.heap.Ns env.locals m)(hL:L=s.heap.objs.size)(hl':env'.locals=L)
  (hn':h₁.Ns L m') (hk:∀ b o,s.heap.get? b=some o->h₁.get? b=some o) (l':LocRel W F loc' m'):Sim0 W env' ((env.locals,m)::outer) loc' mem F { s with heap:=h₁,toks:=t }:=by
 have ge:s.heap.get? L=none:=by rw[hL];exact get?_size _
 obtain⟨f1,f2,f3,f4⟩:=S.free_of_none ge
 exact {
  frz:=fun a o h=>hk a o (S.frz a o h)
  base:=S.base
  memF:=S.memF
  memOk:=fun a x h=>let ⟨o,e,r⟩:=S.memOk a x h;⟨o,hk _ _ e,r⟩
  ns:=⟨m',by rw[hl'];exact hn',l'⟩
  nsF:=⟨fun o=>by rw[hl'];exact f2 o,by rw[hl'];exact f1⟩
  outs:=fun q hq=>by
   rw[hl']
   rcases List.mem_cons.mp hq with rfl|hq
   ·exact⟨hn.keeps hk,S.nsF.1,S.nsF.2,Ne.symm f3⟩
   ·obtain⟨z,b,c,e⟩:=S.outs q hq;exact⟨z.keeps hk,b,c,f4 q hq⟩
  low:=by rw[hl',hL];exact Nat.le_trans S.low (Nat.le_of_lt hn.lt)
  memLow:=S.memLow
  gens:=S.gens
  os:=S.os }
theorem Sim0.leave{env':Env}{m:Str->Option Value}{loc':Loc}{mem':Mem}{F':Frz}{s':Shared}(S:Sim0 W env outer loc mem F s)(l:LocRel W F loc m)(i:Incl F F')
  (S':Sim0 W env' ((env.locals,m)::outer) loc' mem' F' s'):Sim0 W env outer loc mem' F' s' where
 frz:=S'.frz
 base:=S'.base
 memF:=S'.memF
 memOk:=S'.memOk
 ns:=⟨m,(S'.outs _ (.head _)).1,l.mono i⟩
 nsF:=⟨(S'.outs _ (.head _)).2.1,(S'.outs _ (.head _)).2.2.1⟩
 outs q hq:=let ⟨z,b,c,_⟩:=S'.outs q (.tail _ hq);⟨z,b,c,(S.outs q hq).2.2.2⟩
 low:=S.low
 memLow:=S'.memLow
 gens:=S'.gens
 os:=S'.os
theorem code_fn{name qual:Str}{params:Arguments}{body:List Stmt}{scope:Scope}{cl:List (Str×Addr)}{dV kV doc pm cdv ct:Value}{an:Option Addr}{fo:Obj}{f:Addr}{args:Args}{bs:List (Str×V)}{bv:List (Str×Value)}{Q:V->Mem->Prop}{Rz:Result->Shared->Prop}
  (S:Sim W env outer loc mem R F s) (ho:s.heap.get? f=some fo) (hd:fo.data = .func (fnX name qual params body scope cl dV kV doc pm an cdv ct)) (hcd:s.heap.CodeRec cdv qual) (hroom:A.depth<recursionLimit)
  (hbind:BindsTo s (fnX name qual params body scope cl dV kV doc pm an cdv ct) args bv) (rb:VRp W F bs bv) (hloc:∀ y∈bs,scope.names.lookup y.1=some .local)
  (hcell:∀ x∈scope.names,x.2≠.cell) (hco:scope.isCoroutine=false) (hgen:scope.isGenerator=false) (hk:scope.kind = .function)
  (E':Ex W) (hE:∀ e s',E'.p R F e s'->Rz (.error e) s')
  (hR:∀ F' v v' m' s',Incl F F'->VR W F' v v'->Sim W env outer loc m' R F' s'->Q v m'->Rz (.ok (.ret v')) s')
  (h:Body W A env outer qual scope body cdv cl f bs.reverse mem Q E'):codeAny (model W.prog W.w) A (.call (.ref f) args) Rz s:=by
 obtain⟨m,hn,l⟩:=S.ns
 have hloc':∀ y∈bv,scope.names.lookup y.1=some .local:=fun y hy=>by
  have:y.1∈bs.map (·.1):=rb.keys▸List.mem_map_of_mem hy
  obtain⟨z,hz,e⟩:=inM this
  exact e▸hloc z hz
 refine codeAny_call_def (fd:=fnX name qual params body scope cl dV kV doc pm an cdv ct) (body:=body) (binds:=bv) hroom ho hd (W.nolim.keeps S.hbase) hcd rfl hbind hcell hloc' (fun h₁ hns hk₁=>?_) hco hgen hk
 have S':Sim W (envX qual scope s.heap.objs.size f cdv cl) ((env.locals,m)::outer) bs.reverse mem R F { s with heap:=h₁,toks:=s.toks+bv.length }:=
  ⟨S.dis,S.z.enter hn rfl rfl hns hk₁ rb.rev.loc⟩
 refine wpAny_mono (h s.heap.objs.size m R F _ S') (fun fl s' hp=>?_) fun e s' he=>wpAny_mono he (fun _ _ q=>hE _ _ q) fun _ _ q=>hE _ _ q
 obtain⟨F',fl',l',m2,i,r,S2,m',hm',q⟩:=hp
 have S2:=S2.drop hm'
 have S3:Sim W env outer loc m' R F' s':=⟨S2.dis,S.z.leave l i S2.z⟩
 cases r with
 | next=>exact hR F' .none .none m' s' i .none S3 q
 | brk=>exact hR F' .none .none m' s' i .none S3 q
 | cont=>exact hR F' .none .none m' s' i .none S3 q
 | ret r=>exact hR F' _ _ m' s' i r S3 q
noncomputable def Binds(W:Wd)(fd:FuncData)(kw:List (Str×Value))(xs:List V)(bs:List (Str×V)):Prop:=
 ∀ (F:Frz) (s:Shared) (vs:List Value),(∀ a o,W.hb.get? a=some o->F a o)->W.K.In s.heap->VRs W F xs vs->∃ bv,BindsTo s fd ⟨vs,kw⟩ bv/\VRp W F bs bv
theorem call_fn{name qual:Str}{params:Arguments}{body:List Stmt}{scope:Scope}{dV kV doc pm cdv ct oc:Value}{an od:Option Addr}{osl:Array (Option Value)}{f:Addr}{xs:List V}{bs:List (Str×V)}{Q:V->Loc->Mem->Prop}
  (ho:W.K.lookup f=some ⟨oc,od,.func (fnOf name qual params body scope dV kV doc pm an cdv ct),osl⟩) (hcd:codeIn W.K cdv qual=true) (hroom:A.depth<recursionLimit)
  (hbind:Binds W (fnOf name qual params body scope dV kV doc pm an cdv ct) [] xs bs) (hloc:∀ y∈bs,scope.names.lookup y.1=some .local)
  (hcell:∀ x∈scope.names,x.2≠.cell) (hco:scope.isCoroutine=false) (hgen:scope.isGenerator=false) (hk:scope.kind = .function)
  (h:Body W A env outer qual scope body cdv [] f bs.reverse mem (fun v m=>Q v loc m) E):Op W A env outer (VR W) (fun vs=>call (.ref f) vs) xs loc mem Q E:=fun R F s vs S r=>by
 obtain⟨bv,hb,rb⟩:=hbind F s vs S.base S.kin r
 exact wpAny_call (code_fn S (S.kin _ _ ho) rfl (codeRec_of S.kin hcd) hroom hb rb hloc hcell hco hgen hk E (fun _ _ e=>e) (fun F' v v' m' s' i r S' q=>⟨F',v,loc,m',i,r,S',q⟩) h)
theorem c_name{func:PySem.Expr}{args:List PySem.Expr}{pos:Pos}{Q:V->Loc->Mem->Prop}
  (he:eval (.Call func args [] pos) env=(do callWith pos (<-eval func env) [] (backTo pos (starEach args env)) (backToKw pos (keywordEach [] env))))
  (h:TrV W A env outer (eval func env) loc mem (fun g l m=>Op W A env outer (VR W) (fun|[f]=>callWith pos f [] (backTo pos (starEach args env)) []|_=>pure .none) [g] l m Q E) E) :
  TrV W A env outer (eval (.Call func args [] pos) env) loc mem Q E:=fun R F s S=>by
 rw[he]
 exact wpAny_bind (after (i:=.refl _) (RW:=VR W) (Q:=fun _ _ _=>True) (h R F s S) fun v' s' F1 v l1 m1 i1 r1 S1 h1=>wpAny_mono (h1 R F1 s' [v'] S1 (.cons r1 .nil)) (fun _ _ p=>p.weaken i1) fun _ _ e=>E.up i1 e)
theorem c_top{a:Addr}{e:PySem.Expr}{rest:List PySem.Expr}{pos:Pos}{Q:V->Loc->Mem->Prop}(hk:keepIn W.K (.ref a)=true)(he:starEach (e::rest) env=(false,eval e env)::starEach rest env)(hplain:(backTo pos (starEach rest env)).any (·.1)=false)
  (h:TrL W A env outer (spliced (backTo pos (starEach (e::rest) env))) loc mem (fun xs l m=>Op W A env outer (VR W) (fun vs=>call (.ref a) vs) xs l m Q E) E) :
  Op W A env outer (VR W) (fun|[f]=>callWith pos f [] (backTo pos (starEach (e::rest) env)) []|_=>pure .none) [.glob (.ref a)] loc mem Q E:=fun R F s vs S r=>by
 obtain⟨_,_,r1,r2,rfl⟩:=r.isCons
 obtain rfl:=r2.isNil;obtain rfl:=r1.isGlob
 refine callWith_K (h₀:=s.heap) S.kin hk (after (i:=.refl _) (RW:=VR W) (Q:=fun _ _ _=>True) (h R F s S) fun vs s' F1 xs l1 m1 i1 r1 S1 h1=>⟨S1.kin,?_⟩) he hplain
 exact wpAny_mono (h1 R F1 s' vs S1 r1) (fun _ _ p=>p.weaken i1) fun _ _ e=>E.up i1 e
theorem c_top0{a:Addr}{pos:Pos}{Q:V->Loc->Mem->Prop}(hk:keepIn W.K (.ref a)=true)
  (h:Op W A env outer (VR W) (fun vs=>call (.ref a) vs) [] loc mem Q E) :
  Op W A env outer (VR W) (fun|[f]=>callWith pos f [] (backTo pos (starEach [] env)) []|_=>pure .none) [.glob (.ref a)] loc mem Q E:=fun R F s vs S r=>by
 obtain⟨_,_,r1,r2,rfl⟩:=r.isCons
 obtain rfl:=r2.isNil;obtain rfl:=r1.isGlob
 exact callWith_K0 S.kin hk (h R F s [] S .nil)
theorem c_builtin{id:String}{e:PySem.Expr}{rest:List PySem.Expr}{pos:Pos}{Q:V->Loc->Mem->Prop}(he:starEach (e::rest) env=(false,eval e env)::starEach rest env)(hplain:(backTo pos (starEach rest env)).any (·.1)=false)
  (h:TrL W A env outer (spliced (backTo pos (starEach (e::rest) env))) loc mem (fun xs l m=>Op W A env outer (VR W) (fun vs=>call (.builtin id) vs) xs l m Q E) E) :
  Op W A env outer (VR W) (fun|[f]=>callWith pos f [] (backTo pos (starEach (e::rest) env)) []|_=>pure .none) [.glob (.builtin id)] loc mem Q E:=fun R F s vs S r=>by
 obtain⟨_,_,r1,r2,rfl⟩:=r.isCons
 obtain rfl:=r2.isNil;obtain rfl:=r1.isGlob
 refine PyProof.Rows.callWith_builtin1 (after (i:=.refl _) (RW:=VR W) (Q:=fun _ _ _=>True) (h R F s S) fun vs s' F1 xs l1 m1 i1 r1 S1 h1=>?_) he hplain
 exact wpAny_mono (h1 R F1 s' vs S1 r1) (fun _ _ p=>p.weaken i1) fun _ _ e=>E.up i1 e
theorem c_type{T:String}{e:PySem.Expr}{rest:List PySem.Expr}{pos:Pos}{Q:V->Loc->Mem->Prop}(he:starEach (e::rest) env=(false,eval e env)::starEach rest env)(hplain:(backTo pos (starEach rest env)).any (·.1)=false)
  (h:TrL W A env outer (spliced (backTo pos (starEach (e::rest) env))) loc mem (fun xs l m=>Op W A env outer (VR W) (fun vs=>call (.type T) vs) xs l m Q E) E) :
  Op W A env outer (VR W) (fun|[f]=>callWith pos f [] (backTo pos (starEach (e::rest) env)) []|_=>pure .none) [.glob (.type T)] loc mem Q E:=fun R F s vs S r=>by
 obtain⟨_,_,r1,r2,rfl⟩:=r.isCons
 obtain rfl:=r2.isNil;obtain rfl:=r1.isGlob
 refine PyProof.Rows.callWith_type1 (after (i:=.refl _) (RW:=VR W) (Q:=fun _ _ _=>True) (h R F s S) fun vs s' F1 xs l1 m1 i1 r1 S1 h1=>?_) he hplain
 exact wpAny_mono (h1 R F1 s' vs S1 r1) (fun _ _ p=>p.weaken i1) fun _ _ e=>E.up i1 e
theorem c_type0{T:String}{pos:Pos}{Q:V->Loc->Mem->Prop}
  (h:Op W A env outer (VR W) (fun vs=>call (.type T) vs) [] loc mem Q E) :
  Op W A env outer (VR W) (fun|[f]=>callWith pos f [] (backTo pos (starEach [] env)) []|_=>pure .none) [.glob (.type T)] loc mem Q E:=fun R F s vs S r=>by
 obtain⟨_,_,r1,r2,rfl⟩:=r.isCons
 obtain rfl:=r2.isNil;obtain rfl:=r1.isGlob
 exact PyProof.Rows.callWith_type0 (h R F s [] S .nil)
noncomputable def Meth(W:Wd)(A:Around)(env:Env)(outer:Outs)(name:Str)(pl:Sem Bool)(pos:Pos)(args:List PySem.Expr)(v:V)(loc:Loc)(mem:Mem)(Q:V->Loc->Mem->Prop)(E:Ex W):Prop:=
 ∀ R F s v',Sim W env outer loc mem R F s->VR W F v v'->wpAny (model W.prog W.w) A (getMethod v' name pl) (fun fx s₂=>wpAny (model W.prog W.w) A (callWith pos fx.1 fx.2 (backTo pos (starEach args env)) []) (Post W env outer (VR W) R F Q) (E.p R F) s₂) (E.p R F) s
theorem c_meth{o:PySem.Expr}{name:Str}{apos pos:Pos}{args:List PySem.Expr}{pl:Sem Bool}{Q:V->Loc->Mem->Prop}
  (he:eval (.Call (.Attribute o name apos) args [] pos) env=(do
   let ov<-eval o env
   standAt apos.atName
   let (f,first)<-holding [ov] (getMethod ov name pl)
   callWith pos f first (backTo pos (starEach args env)) (backToKw pos (keywordEach [] env))))
  (h:TrV W A env outer (eval o env) loc mem (fun v l m=>Meth W A env outer name pl pos args v l m Q E) E) :
  TrV W A env outer (eval (.Call (.Attribute o name apos) args [] pos) env) loc mem Q E:=fun R F s S=>
 methodCall_KW (kws:=[]) (pl:=pl) (after (i:=.refl _) (RW:=VR W) (Q:=fun _ _ _=>True) (h R F s S) fun v' s' F1 v l1 m1 i1 r1 S1 h1=>
  wpAny_mono (h1 R F1 s' v' S1 r1) (fun fx s2 h2=>wpAny_mono h2 (fun _ _ p=>p.weaken i1) fun _ _ e=>E.up i1 e) fun _ _ e=>E.up i1 e) he
theorem m_own{v:V}{C f:Addr}{es:List (Str×V)}{name:Str}{pl:Sem Bool}{pos:Pos}{e:PySem.Expr}{rest:List PySem.Expr}{Q:V->Loc->Mem->Prop}(I:Inst W mem v C es)(hg:plainGet W.K C name=true)
  (hf:findIn W.K (.ref C) name=some (some (.ref f))) (ht:isFn W.K (.ref f)=true) (hl:getA es name=none) (hk:keepIn W.K (.ref f)=true) (he:starEach (e::rest) env=(false,eval e env)::starEach rest env) (hplain:(backTo pos (starEach rest env)).any (·.1)=false)
  (h:TrL W A env outer (spliced (backTo pos (starEach (e::rest) env))) loc mem (fun xs l m=>Op W A env outer (VR W) (fun vs=>call (.ref f) vs) (v::xs) l m Q E) E) :
  Meth W A env outer name pl pos (e::rest) v loc mem Q E:=fun R F s v' S r=>by
 obtain⟨xa,d,od,kvs,rfl,J,hd,rp⟩:=I.at S r
 refine method_fn S.kin J (plainGet_of hg).1 (plainGet_of hg).2 hf (beq_iff_eq.mp ht) (by show(lookIn name od).map _=_;rw[lookIn_of hd,(rp.get name).2 hl];rfl) ?_
 refine callWith_K (h₀:=s.heap) S.kin hk (after (i:=.refl _) (RW:=VR W) (Q:=fun _ _ _=>True) (h R F s S) fun vs s' F1 xs l1 m1 i1 r1 S1 h1=>⟨S1.kin,?_⟩) he hplain
 exact wpAny_mono (h1 R F1 s' (.ref xa::vs) S1 (.cons (r.mono i1) r1)) (fun _ _ p=>p.weaken i1) fun _ _ e=>E.up i1 e
theorem m_own0{v:V}{C f:Addr}{es:List (Str×V)}{name:Str}{pl:Sem Bool}{pos:Pos}{Q:V->Loc->Mem->Prop}(I:Inst W mem v C es)(hg:plainGet W.K C name=true)
  (hf:findIn W.K (.ref C) name=some (some (.ref f))) (ht:isFn W.K (.ref f)=true) (hl:getA es name=none) (hk:keepIn W.K (.ref f)=true)
  (h:Op W A env outer (VR W) (fun vs=>call (.ref f) vs) [v] loc mem Q E) :
  Meth W A env outer name pl pos [] v loc mem Q E:=fun R F s v' S r=>by
 obtain⟨xa,d,od,kvs,rfl,J,hd,rp⟩:=I.at S r
 refine method_fn S.kin J (plainGet_of hg).1 (plainGet_of hg).2 hf (beq_iff_eq.mp ht) (by show(lookIn name od).map _=_;rw[lookIn_of hd,(rp.get name).2 hl];rfl) ?_
 exact callWith_K0 S.kin hk (h R F s [.ref xa] S (.cons r .nil))
inductive Ty(mem:Mem):V->String->Prop
 | str (x:Str):Ty mem (.str x) "str"
 | lst (xs:List V):Ty mem (.lst xs) "list"
 | tup (xs:List V):Ty mem (.tup xs) "tuple"
 | list {a:Addr} {xs:List V}:mem a=some (.list xs)->Ty mem (.ref a) "list"
 | dict {a:Addr} {es:List (Str×V)} {ep:Nat}:mem a=some (.dict es ep)->Ty mem (.ref a) "dict"
theorem Ty.at{v:V}{T:String}{v':Value}(t:Ty mem v T)(S:Sim W env outer loc mem R F s)(r:VR W F v v'):s.TypeIs v' T/\∀ a,v' = .ref a->∃ o,s.heap.get? a=some o/\o.dict=none:=by
 cases t with
 | str x=>obtain⟨_,rfl⟩:=r.isStr;exact⟨by exact typeIs_str s _ _,fun a e=>by cases e⟩
 | lst xs=>cases r.view with|lst f q=>exact⟨⟨_,S.frz _ _ f,rfl⟩,fun a e=>by cases e;exact⟨_,S.frz _ _ f,rfl⟩⟩
 | tup xs=>cases r.view with|tup f q=>exact⟨⟨_,S.frz _ _ f,rfl⟩,fun a e=>by cases e;exact⟨_,S.frz _ _ f,rfl⟩⟩
 | list h=>
  obtain rfl:=r.isRef
  obtain⟨o,ho,q⟩:=S.memOk _ _ h
  cases q.view
  exact⟨⟨_,ho,rfl⟩,fun a e=>by cases e;exact⟨_,ho,rfl⟩⟩
 | dict h=>
  obtain rfl:=r.isRef
  obtain⟨o,ho,q⟩:=S.memOk _ _ h
  cases q.view
  exact⟨⟨_,ho,rfl⟩,fun a e=>by cases e;exact⟨_,ho,rfl⟩⟩
theorem m_builtin{v:V}{T:String}{name:Str}{id:String}{pl:Sem Bool}{pos:Pos}{e:PySem.Expr}{rest:List PySem.Expr}{Q:V->Loc->Mem->Prop}(t:Ty mem v T)(pa:PlainAttrs T)(slot:Slot T name id)(hty:typeOf (.builtin id)=pure (.type "method_descriptor"))
  (he:starEach (e::rest) env=(false,eval e env)::starEach rest env) (hplain:(backTo pos (starEach rest env)).any (·.1)=false)
  (h:TrL W A env outer (spliced (backTo pos (starEach (e::rest) env))) loc mem (fun xs l m=>Op W A env outer (VR W) (fun vs=>call (.builtin id) vs) (v::xs) l m Q E) E) :
  Meth W A env outer name pl pos (e::rest) v loc mem Q E:=fun R F s v' S r=>by
 obtain⟨hT,hd⟩:=t.at S r
 refine getMethod_builtin hT pa slot hty hd ?_
 rw[he]
 refine Calls.callWith_builtin (by show(false || (backTo pos (starEach rest env)).any (·.1))=false;rw[hplain];rfl) (Calls.evalArgs_plain ?_)
 have h':=h R F s S
 rw[he]at h'
 refine after (i:=.refl _) (RW:=VR W) (Q:=fun _ _ _=>True) h' fun vs s' F1 xs l1 m1 i1 r1 S1 h1=>?_
 exact wpAny_mono (h1 R F1 s' (v'::vs) S1 (.cons (r.mono i1) r1)) (fun _ _ p=>p.weaken i1) fun _ _ e=>E.up i1 e
theorem tc_units(args:Args):Code.cUnits (.builtin "type.__call__" args)≤8:=by
 show 1+3*(if (Code.builtin "type.__call__" args).isFrame=true then 1 else 0)≤8
 split<;>decide
theorem mset_comm{m:Mem}{a b:Addr}(h:a≠b)(x y:AObj):mset (mset m a x) b y=mset (mset m b y) a x:=by
 funext c
 unfold mset
 by_cases h1:c=b<;>by_cases h2:c=a<;>simp_all
theorem call_cls{name qual:Str}{params:Arguments}{body:List Stmt}{scope:Scope}{dV kV doc pm cdv ct oc:Value}{an od:Option Addr}{osl:Array (Option Value)}{C f:Addr}{xs:List V}{bs:Addr->List (Str×V)}{Q:V->Loc->Mem->Prop}
  (hm:makesIn W.K C=true) (hi:findIn W.K (.ref C) "__init__" = some (some (.ref f))) (hf:isFn W.K (.ref f)=true)
  (ho:W.K.lookup f=some ⟨oc,od,.func (fnOf name qual params body scope dV kV doc pm an cdv ct),osl⟩) (hcd:codeIn W.K cdv qual=true) (hroom:A.depth+1<recursionLimit)
  (hbind:∀ x:Addr,Binds W (fnOf name qual params body scope dV kV doc pm an cdv ct) [] (.ref x::xs) (bs x)) (hloc:∀ x:Addr,∀ y∈bs x,scope.names.lookup y.1=some .local)
  (hcell:∀ x∈scope.names,x.2≠.cell) (hco:scope.isCoroutine=false) (hgen:scope.isGenerator=false) (hk:scope.kind = .function)
  (h:∀ (A':Around) (x d:Addr),A'.depth=A.depth+1->A'.handled=A.handled->A'.guards=A.guards->A'.frames=A.frames->A'.units≤A.units+8->mem x=none->mem d=none->x≠d->
   Body W A' env outer qual scope body cdv [] f (bs x).reverse (mset (mset mem d (.dict [] 0)) x (.inst C d)) (fun v m=>v = .none/\Q (.ref x) loc m) E) :
  Op W A env outer (VR W) (fun vs=>call (.ref C) vs) xs loc mem Q E:=fun R F s vs S r=>by
 have X:=S.kin
 obtain⟨hp,g,d,t,os⟩:=s
 refine wpAny_call (make_core (rest:=vs) (kw:=[]) (init:=.ref f) (makes_of X hm) (looks_findIn X hi) (fun self=>bind_fn X self (beq_iff_eq.mp hf)) (.inl (by simp)) ?_)
 have hd:hp.get? hp.objs.size=none:=get?_size hp
 have e1:(hp.push emptyDict).get? hp.objs.size=some emptyDict:=Heap.get?_push_size _ rfl
 have hsz:(hp.push emptyDict).objs.size=hp.objs.size+1:=Heap.size_push _ _
 have S1:=S.alloc (t:=t) (d:=d) (x:=.dict [] 0) (a:=hp.objs.size) (o':=emptyDict) hd S.size_le (fun b o e=>Heap.get?_push_of_some _ e) e1 (by
  have:emptyDict=dictOf [] 0:=rfl
  rw[this]
  exact .dict (kvs:=[]) ⟨#[],0,⟨rfl,rfl,rfl⟩,rfl,fun e he=>by simp at he,.nil,by simp⟩ .nil)
 have hx:(hp.push emptyDict).get? (hp.objs.size+1)=none:=get?_ge (by rw[hsz];exact Nat.le_refl _)
 have S2:=S1.alloc (t:=t) (d:=d) (x:=.inst C hp.objs.size) (a:=hp.objs.size+1) (h':=(hp.push emptyDict).push (instObj C hp.objs.size)) (o':=instObj C hp.objs.size) hx (Nat.le_trans S.size_le (Nat.le_succ _)) (fun b o e=>Heap.get?_push_of_some _ e) (by rw[<-hsz];exact Heap.get?_push_size _ rfl) .inst
 obtain⟨bv,hb,rb⟩:=hbind (hp.objs.size+1) F _ (.ref (hp.objs.size+1)::vs) S.base S2.kin (.cons (.ref _) r)
 have hA:(A.under (.builtin "type.__call__" ⟨.ref C::vs,[]⟩)).depth=A.depth+1:=rfl
 refine code_fn S2 (S2.kin _ _ ho) rfl (codeRec_of S2.kin hcd) (by rw[hA];exact hroom) hb rb (hloc _) hcell hco hgen hk E (fun _ _ e=>e) (Q:=fun v m=>v = .none/\Q (.ref (hp.objs.size+1)) loc m) (fun F' v v' m' s' i rr S' q=>?_) ?_
 ·obtain⟨rfl,q⟩:=q
  obtain rfl:=rr.isNone
  exact⟨rfl,F',.ref (hp.objs.size+1),loc,m',i,.ref _,S',q⟩
 ·have m1:mem hp.objs.size=none:=(S.free hd).1
  have m2:mem (hp.objs.size+1)=none:=(S.free (get?_ge (Nat.le_succ _))).1
  exact h _ (hp.objs.size+1) hp.objs.size hA rfl rfl (by show pushEnvs [] A.frames=A.frames;rfl) (by show A.units+Code.cUnits _≤_;exact Nat.add_le_add_left (tc_units _) _) m2 m1 (Nat.succ_ne_self _)
end
noncomputable def toPy:Nat->V->PyData
 | _,.bool b=>.bool b
 | _,.int i=>.int i
 | _,.str s=>.str s
 | n+1,.tup xs=>.tuple (xs.map (toPy n))
 | n+1,.lst xs=>.list (xs.map (toPy n))
 | _,_=>.none
noncomputable def isD:Nat->V->Bool
 | _,.none=>true
 | _,.int _=>true
 | _,.str s=>PyData.strOk s
 | n+1,.tup xs=>xs.all (isD n)
 | n+1,.lst xs=>xs.all (isD n)
 | _,_=>false
section
variable {W:Wd}{F:Frz}
theorem reads_all{n:Nat}{h:Heap}(ih:∀ x v,isD n x=true->VR W F x v->∃ as,Reads h v (toPy n x) as) :
  ∀ {xs:List V} {vs:List Value},xs.all (isD n)=true->VRs W F xs vs->∃ as,ReadsAll h vs (xs.map (toPy n)) as:=by
 intro xs vs hd r
 induction xs generalizing vs with
 | nil=>obtain rfl:=r.isNil;exact⟨[],.nil⟩
 | cons x xs ih2=>
  obtain⟨_,_,r1,r2,rfl⟩:=r.isCons
  rw[List.all_cons,Bool.and_eq_true]at hd
  obtain⟨as,ra⟩:=ih x _ hd.1 r1
  obtain⟨bs,rb⟩:=ih2 hd.2 r2
  exact⟨as++bs,.cons ra rb⟩
theorem VR.reads{h:Heap}(hF:∀ a o,F a o->h.get? a=some o):∀ {n:Nat} {x:V} {v:Value},isD n x=true->VR W F x v->∃ as,Reads h v (toPy n x) as:=by
 intro n
 induction n with
 | zero=>
  intro x v hd r
  cases r<;>first|exact⟨_,.none⟩|exact⟨_,.int _ _⟩|exact⟨_,.str _ _⟩|cases hd
 | succ n ih=>
  intro x v hd r
  cases r with
  | none=>exact⟨_,.none⟩
  | int=>exact⟨_,.int _ _⟩
  | str=>exact⟨_,.str _ _⟩
  | bool=>cases hd
  | ref=>cases hd
  | glob=>cases hd
  | ins=>cases hd
  | tup f q=>
   obtain⟨as,ra⟩:=reads_all (fun x v a b=>ih a b) hd q
   exact⟨_,.tuple (hF _ _ f) rfl rfl ra⟩
  | lst f q=>
   obtain⟨as,ra⟩:=reads_all (fun x v a b=>ih a b) hd q
   exact⟨_,.list (hF _ _ f) rfl rfl ra⟩
end
theorem canLayAll0_iff(ds:List PyData):PyData.canLayAll0 ds=ds.all PyData.canLay0:=by
 induction ds with
 | nil=>rfl
 | cons d ds ih=>rw[PyData.canLayAll0,List.all_cons,ih]
theorem isD_can:∀ {n:Nat} {x:V},isD n x=true->(toPy n x).canLay0=true/\(toPy n x).depth≤n:=by
 intro n
 have da:∀ {m:Nat} {ds:List PyData},(∀ d∈ds,d.depth≤m)->PyData.depthAll ds≤m:=by
  intro m ds
  induction ds with
  | nil=>intro _;exact Nat.zero_le _
  | cons d ds ih=>intro h;rw[PyData.depthAll];exact Nat.max_le.mpr ⟨h d (.head _),ih fun e he=>h e (.tail _ he)⟩
 induction n with
 | zero=>
  intro x hd
  cases x with
  | none=>exact⟨rfl,Nat.le_refl _⟩
  | int=>exact⟨rfl,Nat.le_refl _⟩
  | str s=>exact⟨hd,Nat.le_refl _⟩
  | _=>cases hd
 | succ n ih=>
  intro x hd
  cases x with
  | none=>exact⟨rfl,Nat.zero_le _⟩
  | int=>exact⟨rfl,Nat.zero_le _⟩
  | str s=>exact⟨hd,Nat.zero_le _⟩
  | bool=>cases hd
  | ref=>cases hd
  | glob=>cases hd
  | ins=>cases hd
  | tup xs=>
   have hd':xs.all (isD n)=true:=hd
   show(PyData.tuple (xs.map (toPy n))).canLay0=true/\(PyData.tuple (xs.map (toPy n))).depth≤n+1
   rw[PyData.canLay0,PyData.depth,canLayAll0_iff]
   refine⟨?_,Nat.succ_le_succ (da ?_)⟩
   ·rw[List.all_map,List.all_eq_true];exact fun x hx=>(ih (List.all_eq_true.mp hd' x hx)).1
   ·intro d hd;obtain⟨x,hx,rfl⟩:=inM hd;exact(ih (List.all_eq_true.mp hd' x hx)).2
  | lst xs=>
   have hd':xs.all (isD n)=true:=hd
   show(PyData.list (xs.map (toPy n))).canLay0=true/\(PyData.list (xs.map (toPy n))).depth≤n+1
   rw[PyData.canLay0,PyData.depth,canLayAll0_iff]
   refine⟨?_,Nat.succ_le_succ (da ?_)⟩
   ·rw[List.all_map,List.all_eq_true];exact fun x hx=>(ih (List.all_eq_true.mp hd' x hx)).1
   ·intro d hd;obtain⟨x,hx,rfl⟩:=inM hd;exact(ih (List.all_eq_true.mp hd' x hx)).2
theorem isD_shaped{n:Nat}{x:V}(h:isD n x=true)(hn:n≤64):SeqAt.shaped (toPy n x)=true:=by
 obtain⟨a,b⟩:=isD_can h
 unfold SeqAt.shaped
 rw[a,Bool.true_and]
 exact decide_eq_true (Nat.le_trans b hn)
theorem all_shaped{n:Nat}{xs:List V}(h:xs.all (isD n)=true)(hn:n<64):SeqAt.shaped (.list (xs.map (toPy n)))=true/\SeqAt.shaped (.tuple (xs.map (toPy n)))=true:=
 ⟨isD_shaped (x:=.lst xs) (n:=n+1) h hn,isD_shaped (x:=.tup xs) (n:=n+1) h hn⟩
mutual
noncomputable def noB:PyData->Bool
 | .list xs=>noBs xs
 | .tuple xs=>noBs xs
 | .none|.int _|.str _=>true
 | _=>false
noncomputable def noBs:List PyData->Bool
 | []=>true
 | x::xs=>noB x&&noBs xs
end
mutual
theorem noMix_of:∀ d e:PyData,noB d=true->noB e=true->SeqAt.noMix d e=true
 | .list xs,.list ys,h,g=>noMixs_of xs ys h g
 | .tuple xs,.tuple ys,h,g=>noMixs_of xs ys h g
 | .none,e,_,_=>by cases e<;>rfl
 | .str _,e,_,_=>by cases e<;>rfl
 | .int _,e,_,g=>by cases e<;>first|rfl|cases g
 | .list _,.none,_,_=>rfl
 | .list _,.int _,_,_=>rfl
 | .list _,.str _,_,_=>rfl
 | .list _,.tuple _,_,_=>rfl
 | .tuple _,.none,_,_=>rfl
 | .tuple _,.int _,_,_=>rfl
 | .tuple _,.str _,_,_=>rfl
 | .tuple _,.list _,_,_=>rfl
theorem noMixs_of:∀ xs ys:List PyData,noBs xs=true->noBs ys=true->SeqAt.noMixAll xs ys=true
 | [],[],_,_=>rfl
 | [],_::_,_,_=>rfl
 | _::_,[],_,_=>rfl
 | x::xs,y::ys,h,g=>by
  change (noB x&&noBs xs)=true at h
  change (noB y&&noBs ys)=true at g
  rw[Bool.and_eq_true]at h g
  rw[SeqAt.noMixAll,noMix_of x y h.1 g.1,noMixs_of xs ys h.2 g.2];rfl
end
theorem noBs_of{ds:List PyData}(h:∀ d∈ds,noB d=true):noBs ds=true:=by
 induction ds with
 | nil=>rfl
 | cons d ds ih=>show(noB d&&noBs ds)=true;rw[h d (.head _),ih fun e he=>h e (.tail _ he)];rfl
theorem isD_noB:∀ {n:Nat} {x:V},isD n x=true->noB (toPy n x)=true:=by
 intro n
 induction n with
 | zero=>intro x h;cases x<;>first|rfl|cases h
 | succ n ih=>
  intro x h
  have all:∀ {xs:List V},xs.all (isD n)=true->noBs (xs.map (toPy n))=true:=fun h=>noBs_of fun d hd=>by
   obtain⟨a,ha,rfl⟩:=inM hd
   exact ih (List.all_eq_true.mp h a ha)
  cases x with
  | tup xs=>exact all h
  | lst xs=>exact all h
  | none=>rfl
  | int=>rfl
  | str=>rfl
  | bool=>cases h
  | ins=>cases h
  | ref=>cases h
  | glob=>cases h
theorem isD_noMix{n m:Nat}{x y:V}(hx:isD n x=true)(hy:isD m y=true):SeqAt.noMix (toPy n x) (toPy m y)=true:=noMix_of _ _ (isD_noB hx) (isD_noB hy)
noncomputable def ofD:Nat->PyData->V
 | _,.int i=>.int i
 | _,.str s=>.str s
 | n+1,.tuple xs=>.tup (xs.map (ofD n))
 | n+1,.list xs=>.lst (xs.map (ofD n))
 | _,_=>.none
theorem ofD_toPy:∀ {n k:Nat} {x:V},isD n x=true->n≤k->ofD k (toPy n x)=x:=by
 intro n
 induction n with
 | zero=>intro k x h _;cases x<;>first|(cases k<;>rfl)|cases h
 | succ n ih=>
  intro k x h hk
  cases k with
  | zero=>exact absurd hk (Nat.not_succ_le_zero _)
  | succ k=>
   have all:∀ {xs:List V},xs.all (isD n)=true->(xs.map (toPy n)).map (ofD k)=xs:=fun {xs} h=>by
    rw[List.map_map]
    exact(List.map_congr_left fun a ha=>ih (List.all_eq_true.mp h a ha) (Nat.le_of_succ_le_succ hk)).trans (List.map_id xs)
   cases x with
   | tup xs=>exact congrArg V.tup (all h)
   | lst xs=>exact congrArg V.lst (all h)
   | none=>rfl
   | int=>rfl
   | str=>rfl
   | bool=>cases h
   | ins=>cases h
   | ref=>cases h
   | glob=>cases h
theorem same_iff{n m:Nat}{x y:V}(hx:isD n x=true)(hy:isD m y=true):Spec.same (toPy n x) (toPy m y)=true↔x=y:=by
 rw[PyProof.Rows.same_iff]
 refine⟨fun e=>?_,fun e=>?_⟩
 ·rw[<-ofD_toPy hx (Nat.le_max_left n m),e,ofD_toPy hy (Nat.le_max_right n m)]
 ·have:∀ {n m:Nat} {x:V},isD n x=true->isD m x=true->toPy n x=toPy m x:=by
   intro n
   induction n with
   | zero=>intro m x h g;cases x<;>first|(cases m<;>rfl)|cases h
   | succ n ih=>
    intro m x h g
    cases m with
    | zero=>cases x<;>first|rfl|cases g
    | succ m=>
     have all:∀ {xs:List V},xs.all (isD n)=true->xs.all (isD m)=true->xs.map (toPy n)=xs.map (toPy m):=fun {xs} h g=>List.map_congr_left fun a ha=>ih (List.all_eq_true.mp h a ha) (List.all_eq_true.mp g a ha)
     cases x with
     | tup xs=>exact congrArg PyData.tuple (all h g)
     | lst xs=>exact congrArg PyData.list (all h g)
     | none=>rfl
     | int=>rfl
     | str=>rfl
     | bool=>rfl
     | ins=>rfl
     | ref=>rfl
     | glob=>rfl
  subst e
  exact this hx hy
section
variable {W:Wd}{A:Around}{env:Env}{outer:Outs}{loc:Loc}{mem R:Mem}{E:Ex W}{F:Frz}{s:Shared}
noncomputable abbrev OpV(W:Wd)(A:Around)(env:Env)(outer:Outs)(f:List Value->Sem Value)(xs:List V)(loc:Loc)(mem:Mem)(Q:V->Loc->Mem->Prop)(E:Ex W):Prop:=Op W A env outer (VR W) f xs loc mem Q E
noncomputable abbrev OpB(W:Wd)(A:Around)(env:Env)(outer:Outs)(f:List Value->Sem Bool)(xs:List V)(loc:Loc)(mem:Mem)(Q:Bool->Loc->Mem->Prop)(E:Ex W):Prop:=Op W A env outer (fun _ (b c:Bool)=>c=b) f xs loc mem Q E
noncomputable abbrev OpU(W:Wd)(A:Around)(env:Env)(outer:Outs)(f:List Value->Sem Unit)(xs:List V)(loc:Loc)(mem:Mem)(Q:Loc->Mem->Prop)(E:Ex W):Prop:=Op W A env outer (fun _ (_ _:Unit)=>True) f xs loc mem (fun _=>Q) E
theorem op1{α β:Type}{RV:Frz->β->α->Prop}{f:List Value->Sem α}{x:V}{Q:β->Loc->Mem->Prop}
  (h:∀ R F s v,Sim W env outer loc mem R F s->VR W F x v->wpAny (model W.prog W.w) A (f [v]) (Post W env outer RV R F Q) (E.p R F) s):Op W A env outer RV f [x] loc mem Q E:=fun R F s vs S r=>by
 cases r.view with|cons r1 r2=>obtain rfl:=r2.isNil;exact h R F s _ S r1
theorem op2{α β:Type}{RV:Frz->β->α->Prop}{f:List Value->Sem α}{x y:V}{Q:β->Loc->Mem->Prop}
  (h:∀ R F s v u,Sim W env outer loc mem R F s->VR W F x v->VR W F y u->wpAny (model W.prog W.w) A (f [v,u]) (Post W env outer RV R F Q) (E.p R F) s):Op W A env outer RV f [x,y] loc mem Q E:=fun R F s vs S r=>by
 cases r with|cons r1 r2=>cases r2 with|cons r2 r3=>cases r3;exact h R F s _ _ S r1 r2
theorem op3{α β:Type}{RV:Frz->β->α->Prop}{f:List Value->Sem α}{x y z:V}{Q:β->Loc->Mem->Prop}
  (h:∀ R F s v u t,Sim W env outer loc mem R F s->VR W F x v->VR W F y u->VR W F z t->wpAny (model W.prog W.w) A (f [v,u,t]) (Post W env outer RV R F Q) (E.p R F) s):Op W A env outer RV f [x,y,z] loc mem Q E:=fun R F s vs S r=>by
 cases r with|cons r1 r2=>cases r2 with|cons r2 r3=>cases r3 with|cons r3 r4=>cases r4;exact h R F s _ _ _ S r1 r2 r3
theorem add_ii{a b:Int}{Q:V->Loc->Mem->Prop}(h:Q (.int (a+b)) loc mem):OpV W A env outer (fun|[x,y]=>binaryOp .Add x y|_=>pure .none) [.int a,.int b] loc mem Q E:=op2 fun R F s v u S r1 r2=>by
 obtain⟨_,rfl⟩:=r1.isInt;obtain⟨_,rfl⟩:=r2.isInt;exact PyProof.Rows.add_int (Post.mk (.int _ _) S.tick h)
theorem sub_ii{a b:Int}{Q:V->Loc->Mem->Prop}(h:Q (.int (a - b)) loc mem):OpV W A env outer (fun|[x,y]=>binaryOp .Sub x y|_=>pure .none) [.int a,.int b] loc mem Q E:=op2 fun R F s v u S r1 r2=>by
 obtain⟨_,rfl⟩:=r1.isInt;obtain⟨_,rfl⟩:=r2.isInt;exact PyProof.Rows.sub_int (Post.mk (.int _ _) S.tick h)
theorem isub_ii{a b:Int}{Q:V->Loc->Mem->Prop}(h:Q (.int (a - b)) loc mem):OpV W A env outer (fun|[x,y]=>inplaceOp .Sub x y|_=>pure .none) [.int a,.int b] loc mem Q E:=op2 fun R F s v u S r1 r2=>by
 obtain⟨_,rfl⟩:=r1.isInt;obtain⟨_,rfl⟩:=r2.isInt;exact PyProof.Rows.isub_int (Post.mk (.int _ _) S.tick h)
theorem mod_ii{a b:Int}{Q:V->Loc->Mem->Prop}(hb:b≠0)(h:Q (.int (a.fmod b)) loc mem):OpV W A env outer (fun|[x,y]=>binaryOp .Mod x y|_=>pure .none) [.int a,.int b] loc mem Q E:=op2 fun R F s v u S r1 r2=>by
 obtain⟨_,rfl⟩:=r1.isInt;obtain⟨_,rfl⟩:=r2.isInt;exact PyProof.Rows.mod_int hb (Post.mk (.int _ _) S.tick h)
theorem eq_ii{a b:Int}{Q:V->Loc->Mem->Prop}(h:Q (.bool (decide (a=b))) loc mem):OpV W A env outer (fun|[x,y]=>compareOp .Eq x y|_=>pure .none) [.int a,.int b] loc mem Q E:=op2 fun R F s v u S r1 r2=>by
 obtain⟨_,rfl⟩:=r1.isInt;obtain⟨_,rfl⟩:=r2.isInt;exact PyProof.Rows.eq_int (Post.mk (.bool _) S (show Q (.bool (decide (a=b))) loc mem from h))
theorem ne_ii{a b:Int}{Q:V->Loc->Mem->Prop}(h:Q (.bool (!decide (a=b))) loc mem):OpV W A env outer (fun|[x,y]=>compareOp .NotEq x y|_=>pure .none) [.int a,.int b] loc mem Q E:=op2 fun R F s v u S r1 r2=>by
 obtain⟨_,rfl⟩:=r1.isInt;obtain⟨_,rfl⟩:=r2.isInt;exact PyProof.Rows.ne_int (Post.mk (.bool _) S (show Q (.bool (!decide (a=b))) loc mem from h))
theorem lt_ii{a b:Int}{Q:V->Loc->Mem->Prop}(h:Q (.bool (decide (a<b))) loc mem):OpV W A env outer (fun|[x,y]=>compareOp .Lt x y|_=>pure .none) [.int a,.int b] loc mem Q E:=op2 fun R F s v u S r1 r2=>by
 obtain⟨_,rfl⟩:=r1.isInt;obtain⟨_,rfl⟩:=r2.isInt;exact PyProof.Rows.lt_int (Post.mk (.bool _) S h)
theorem gt_ii{a b:Int}{Q:V->Loc->Mem->Prop}(h:Q (.bool (decide (b<a))) loc mem):OpV W A env outer (fun|[x,y]=>compareOp .Gt x y|_=>pure .none) [.int a,.int b] loc mem Q E:=op2 fun R F s v u S r1 r2=>by
 obtain⟨_,rfl⟩:=r1.isInt;obtain⟨_,rfl⟩:=r2.isInt;exact PyProof.Rows.gt_int (Post.mk (.bool _) S h)
theorem neg_i{a:Int}{Q:V->Loc->Mem->Prop}(h:Q (.int (-a)) loc mem):OpV W A env outer (fun|[x]=>unaryOp .USub x|_=>pure .none) [.int a] loc mem Q E:=op1 fun R F s v S r1=>by
 obtain⟨_,rfl⟩:=r1.isInt;exact PyProof.Rows.neg_int (Post.mk (.int _ _) S.tick h)
theorem eq_ss{a b:Str}{Q:V->Loc->Mem->Prop}(h:Q (.bool (decide (a=b))) loc mem):OpV W A env outer (fun|[x,y]=>compareOp .Eq x y|_=>pure .none) [.str a,.str b] loc mem Q E:=op2 fun R F s v u S r1 r2=>by
 obtain⟨_,rfl⟩:=r1.isStr;obtain⟨_,rfl⟩:=r2.isStr;exact PyProof.Rows.eq_str (Post.mk (.bool _) S (by have:(a==b)=decide (a=b):=rfl;rw[this];exact h))
theorem ne_ss{a b:Str}{Q:V->Loc->Mem->Prop}(h:Q (.bool (!decide (a=b))) loc mem):OpV W A env outer (fun|[x,y]=>compareOp .NotEq x y|_=>pure .none) [.str a,.str b] loc mem Q E:=op2 fun R F s v u S r1 r2=>by
 obtain⟨_,rfl⟩:=r1.isStr;obtain⟨_,rfl⟩:=r2.isStr;exact PyProof.Rows.ne_str (Post.mk (.bool _) S (by have:(a != b) = !decide (a=b):=rfl;rw[this];exact h))
theorem add_ss{a b:Str}{Q:V->Loc->Mem->Prop}(hsz:a.length+b.length≤sizeLine)(h:Q (.str (a++b)) loc mem):OpV W A env outer (fun|[x,y]=>binaryOp .Add x y|_=>pure .none) [.str a,.str b] loc mem Q E:=op2 fun R F s v u S r1 r2=>by
 obtain⟨_,rfl⟩:=r1.isStr;obtain⟨_,rfl⟩:=r2.isStr;exact PyProof.Rows.add_str (fun t' k=>Post.mk (.str _ _) S.tick h) hsz
theorem eq_dd{n m:Nat}{x y:V}{Q:V->Loc->Mem->Prop}(hx:isD n x=true)(hy:isD m y=true)(hn:n≤64)(hm:m≤64)(hu:A.units+64<cLine)(h:∀ b:Bool,(b=true↔x=y)->Q (.bool b) loc mem) :
  OpV W A env outer (fun|[x,y]=>compareOp .Eq x y|_=>pure .none) [x,y] loc mem Q E:=op2 fun R F s v u S r1 r2=>by
 obtain⟨as,ra⟩:=r1.reads S.frz hx
 obtain⟨bs,rb⟩:=r2.reads S.frz hy
 exact eq_dataH_same ra rb (isD_shaped hx hn) (isD_shaped hy hm) hu (isD_noMix hx hy) (Post.mk (.bool _) S (h _ (same_iff hx hy)))
end
section
variable {W:Wd}{A:Around}{env:Env}{outer:Outs}{loc:Loc}{mem R:Mem}{E:Ex W}{F:Frz}{s:Shared}
inductive Sq(mem:Mem):V->String->List V->Prop
 | lst (xs:List V):Sq mem (.lst xs) "list" xs
 | tup (xs:List V):Sq mem (.tup xs) "tuple" xs
 | own {a:Addr} {xs:List V}:mem a=some (.list xs)->Sq mem (.ref a) "list" xs
theorem Sq.at{v:V}{T:String}{xs:List V}{v':Value}(q:Sq mem v T xs)(S:Sim W env outer loc mem R F s)(r:VR W F v v') :
  ∃ a vs n,v' = .ref a/\s.heap.get? a=some { cls:=.type T,data:=.seq vs n }/\VRs W F xs vs.toList:=by
 cases q with
 | lst xs=>cases r.view with|lst f q=>exact⟨_,_,_,rfl,S.frz _ _ f,q⟩
 | tup xs=>cases r.view with|tup f q=>exact⟨_,_,_,rfl,S.frz _ _ f,q⟩
 | own h=>
  obtain rfl:=r.isRef
  obtain⟨o,ho,q⟩:=S.memOk _ _ h
  cases q with
  | list q=>exact⟨_,_,_,rfl,ho,q⟩
theorem Sq.kind{v:V}{T:String}{xs:List V}(q:Sq mem v T xs):T = "list"\/T = "tuple":=by cases q<;>simp
theorem VRs.size{xs:List V}{vs:Array Value}(r:VRs W F xs vs.toList):vs.size=xs.length:=by rw[<-r.length,Array.length_toList]
theorem VRs.get{xs:List V}{vs:List Value}(r:VRs W F xs vs):∀ {i:Nat} {x:V},xs[i]? = some x->∃ v,vs[i]? = some v/\VR W F x v:=by
 induction xs generalizing vs with
 | nil=>intro i x h;cases h
 | cons y ys ih=>
  obtain⟨_,_,r1,r2,rfl⟩:=r.isCons
  intro i x h
  cases i with
  | zero=>cases h;exact⟨_,rfl,r1⟩
  | succ i=>exact ih r2 h
theorem VRs.getA{xs:List V}{vs:Array Value}(r:VRs W F xs vs.toList){i:Nat}{x:V}(h:xs[i]? = some x):∃ v,vs[i]? = some v/\VR W F x v:=by
 obtain⟨v,a,b⟩:=r.get h;exact⟨v,by rw[<-a,Array.getElem?_toList],b⟩
theorem VRs.app{xs ys:List V}{vs ws:List Value}(r:VRs W F xs vs)(q:VRs W F ys ws):VRs W F (xs++ys) (vs++ws):=by
 induction xs generalizing vs with
 | nil=>obtain rfl:=r.isNil;exact q
 | cons x xs ih=>cases r.view with|cons r1 r2=>exact .cons r1 (ih r2)
theorem VRs.drop{xs:List V}{vs:List Value}(r:VRs W F xs vs)(k:Nat):VRs W F (xs.drop k) (vs.drop k):=by
 induction k generalizing xs vs with
 | zero=>exact r
 | succ k ih=>cases r with|nil=>exact .nil|cons r1 r2=>exact ih r2
theorem VRs.take{xs:List V}{vs:List Value}(r:VRs W F xs vs)(k:Nat):VRs W F (xs.take k) (vs.take k):=by
 induction k generalizing xs vs with
 | zero=>exact .nil
 | succ k ih=>cases r with|nil=>exact .nil|cons r1 r2=>exact .cons r1 (ih r2)
theorem len_sq{v:V}{T:String}{xs:List V}{Q:V->Loc->Mem->Prop}(q:Sq mem v T xs)(hz:(xs.length:Int)<2 ^ 63)(h:Q (.int xs.length) loc mem):OpV W A env outer (fun vs=>call (.builtin "len") vs) [v] loc mem Q E:=op1 fun R F s v' S r=>by
 obtain⟨a,vs,n,rfl,ho,rs⟩:=q.at S r
 have hs:=rs.size
 rcases q.kind with rfl|rfl
 ·exact call_len_list (items:=vs) ⟨_,ho,rfl,n,rfl⟩ (by rw[hs];exact hz) (Post.mk (.int _ _) S.tick (by rw[hs];exact h))
 ·exact len_tuple (items:=vs) ⟨_,ho,rfl,n,rfl⟩ (by rw[hs];exact hz) (Post.mk (.int _ _) S.tick (by rw[hs];exact h))
theorem tr_list{v:V}{xs:List V}{Q:Bool->Loc->Mem->Prop}(q:Sq mem v "list" xs)(hz:(xs.length:Int)<2 ^ 63)(h:Q (!xs.isEmpty) loc mem):OpB W A env outer (fun|[x]=>truthy x|_=>pure false) [v] loc mem Q E:=op1 fun R F s v' S r=>by
 obtain⟨a,vs,n,rfl,ho,rs⟩:=q.at S r
 have hs:=rs.size
 have he:vs.isEmpty=xs.isEmpty:=by
  rw[Array.isEmpty,hs];cases xs<;>simp
 exact wpAny_truthy_list (items:=vs) ⟨_,ho,rfl,n,rfl⟩ (by rw[hs];exact hz) (Post.mk (by rw[he]) S.tick h)
theorem e_sub{value slice:PySem.Expr}{pos:Pos}{Q:V->Loc->Mem->Prop}(hs:∀ o i,subscripted slice false o i=operate [o,i] (getItem o i))
  (h:TrV W A env outer (eval value env) loc mem (fun o l m=>TrV W A env outer (eval slice env) l m (fun i l m=>∃ T id,Ty m o T/\typeLookup (.type T) "__getitem__" = pure (some (.builtin id))/\
   OpV W A env outer (fun|[x,y]=>getItem x y|_=>pure .none) [o,i] l m Q E) E) E):TrV W A env outer (eval (.Subscript value slice pos) env) loc mem Q E:=fun R F s S=>
 Subscript_ (after (i:=.refl _) (RW:=VR W) (Q:=fun _ _ _=>True) (h R F s S) fun v' s' F1 f l1 m1 i1 r1 S1 h1=>
  after (i:=‹_›) (RW:=VR W) (Q:=fun _ _ _=>True) (h1 R F1 s' S1) fun u' s2 F2 g l2 m2 i2 r2 S2 h2=>by
   obtain⟨T,id,ty,hl,op⟩:=h2
   have r1':=r1.mono i2
   exact PyProof.Rows.tail_any (ty.at S2 r1').1 hl (wpAny_mono (op R F2 s2 [v',u'] S2 (.cons r1' (.cons r2 .nil))) (fun _ _ p=>p.weaken (i1.trans i2)) fun _ _ e=>E.up (i1.trans i2) e) (hs _ _))
theorem Sq.ty{v:V}{T:String}{xs:List V}(q:Sq mem v T xs):Ty mem v T:=by
 cases q with
 | lst xs=>exact .lst xs
 | tup xs=>exact .tup xs
 | own h=>exact .list h
theorem seqIndex?_nonneg{k:Int}{n:Nat}(h0:0≤k)(hn:k.toNat<n):seqIndex? k n=some k.toNat:=by
 unfold seqIndex?
 have h1:¬ k<0:=by lia
 simp only [h1,if_false]
 have h2:0≤k/\k<(n:Int):=⟨h0,by lia⟩
 simp[h2]
 try omega
theorem getItem_sq{v:V}{T:String}{xs:List V}{k:Int}{x:V}{Q:V->Loc->Mem->Prop}(q:Sq mem v T xs)(h0:0≤k)(hk:k<2 ^ 63)(hx:xs[k.toNat]? = some x)(h:Q x loc mem) :
  OpV W A env outer (fun|[x,y]=>getItem x y|_=>pure .none) [v,.int k] loc mem Q E:=op2 fun R F s v' i' S r ri=>by
 obtain⟨a,vs,n,rfl,ho,rs⟩:=q.at S r
 cases ri
 obtain⟨u,hu,ru⟩:=rs.getA hx
 rcases q.kind with rfl|rfl
 ·exact wpAny_getItem_list (items:=vs) ⟨_,ho,rfl,n,rfl⟩ h0 hk hu (Post.mk ru S h)
 ·have hlt:k.toNat<vs.size:=by
   rw[Array.getElem?_eq_some_iff]at hu
   exact hu.1
  exact getItem_tuple (items:=vs) ⟨_,ho,rfl,n,rfl⟩ (by lia) hk (seqIndex?_nonneg h0 hlt) hu (Post.mk ru S h)
theorem new_tup{xs:List V}{Q:V->Loc->Mem->Prop}(hz:xs.length≤sizeLine)(h:Q (.tup xs) loc mem):OpV W A env outer newTuple xs loc mem Q E:=fun R F s vs S r=>by
 refine wpAny_newTuple ?_ (by rw[r.length];exact hz)
 have S':=S.freeze (t:=s.toks) (d:=s.drawn) (o':={ cls:=.type "tuple",data:=.seq vs.toArray }) (get?_size s.heap) (fun b o e=>Heap.get?_push_of_some _ e) (Heap.get?_push_size _ rfl)
 exact⟨_,.tup xs,loc,mem,Incl.fadd _ _ _,.tup (.inr ⟨rfl,rfl⟩) (by simpa using r.mono (Incl.fadd _ _ _)),S',h⟩
theorem new_lst{xs:List V}{Q:V->Loc->Mem->Prop}(hz:xs.length≤sizeLine)(h:Q (.lst xs) loc mem):OpV W A env outer newList xs loc mem Q E:=fun R F s vs S r=>by
 refine wpAny_newList ?_ (by rw[r.length];exact hz)
 have S':=S.freeze (t:=s.toks) (d:=s.drawn) (o':={ cls:=.type "list",data:=.seq vs.toArray }) (get?_size s.heap) (fun b o e=>Heap.get?_push_of_some _ e) (Heap.get?_push_size _ rfl)
 exact⟨_,.lst xs,loc,mem,Incl.fadd _ _ _,.lst (.inr ⟨rfl,rfl⟩) (by simpa using r.mono (Incl.fadd _ _ _)),S',h⟩
theorem new_own{xs:List V}{Q:V->Loc->Mem->Prop}(hz:xs.length≤sizeLine)(h:∀ a,mem a=none->Q (.ref a) loc (mset mem a (.list xs))):OpV W A env outer newList xs loc mem Q E:=fun R F s vs S r=>by
 refine wpAny_newList ?_ (by rw[r.length];exact hz)
 have S':=S.alloc (t:=s.toks) (d:=s.drawn) (x:=.list xs) (o':={ cls:=.type "list",data:=.seq vs.toArray }) (get?_size s.heap) S.size_le (fun b o e=>Heap.get?_push_of_some _ e) (Heap.get?_push_size _ rfl) (.list (by simpa using r))
 exact Post.mk (.ref _) S' (h _ (S.free (get?_size s.heap)).1)
theorem e_tuple{elts:List PySem.Expr}{k:Nat}{pos:Pos}{Q:V->Loc->Mem->Prop}(h:TrL W A env outer (spliced (backTo pos (starEach elts env))) loc mem (fun xs l m=>OpV W A env outer newTuple xs l m Q E) E) :
  TrV W A env outer (eval (.Tuple elts k pos) env) loc mem Q E:=fun R F s S=>
 PyProof.Rows.Tuple_ (after (i:=.refl _) (RW:=VR W) (Q:=fun _ _ _=>True) (h R F s S) fun vs s' F1 xs l1 m1 i1 r1 S1 h1=>wpAny_mono (h1 R F1 s' vs S1 r1) (fun _ _ p=>p.weaken i1) fun _ _ e=>E.up i1 e)
theorem e_list{elts:List PySem.Expr}{pos:Pos}{Q:V->Loc->Mem->Prop}(h:TrL W A env outer (spliced (backTo pos (starEach elts env))) loc mem (fun xs l m=>OpV W A env outer newList xs l m Q E) E) :
  TrV W A env outer (eval (.List elts pos) env) loc mem Q E:=fun R F s S=>
 PyProof.Rows.List_ (after (i:=.refl _) (RW:=VR W) (Q:=fun _ _ _=>True) (h R F s S) fun vs s' F1 xs l1 m1 i1 r1 S1 h1=>wpAny_mono (h1 R F1 s' vs S1 r1) (fun _ _ p=>p.weaken i1) fun _ _ e=>E.up i1 e)
theorem append_own{a:Addr}{xs:List V}{x:V}{Q:V->Loc->Mem->Prop}(h1:mem a=some (.list xs))(hz:xs.length≤sizeLine)(h:Q .none loc (mset mem a (.list (xs++[x])))) :
  OpV W A env outer (fun vs=>call (.builtin "list.append") vs) [.ref a,x] loc mem Q E:=op2 fun R F s v' i' S r ri=>by
 obtain rfl:=r.isRef
 obtain⟨o,ho,q⟩:=S.memOk _ _ h1
 cases q with
 | @list _ vs n q=>
  refine append_at ho (fun h' hs ho'=>?_) (by rw[q.size];exact hz)
  exact Post.mk .none (S.upd (t:=s.toks) (d:=s.drawn) h1 (fun b ob hb e=>(hs.2 b hb).trans e) ho' (.list (by simpa using q.app (.cons ri .nil)))) h
theorem pop0_own{a:Addr}{xs:List V}{x:V}{Q:V->Loc->Mem->Prop}(h1:mem a=some (.list (x::xs)))(hz:xs.length+1≤sizeLine)(h:Q x loc (mset mem a (.list xs))) :
  OpV W A env outer (fun vs=>call (.builtin "list.pop") vs) [.ref a,.int 0] loc mem Q E:=op2 fun R F s v' i' S r ri=>by
 obtain rfl:=r.isRef
 cases ri
 obtain⟨o,ho,q⟩:=S.memOk _ _ h1
 cases q with
 | @list _ vs n q=>
  obtain⟨m,hn,l⟩:=S.ns
  obtain⟨us,hus⟩:∃ us,vs=List.toArray us:=⟨vs.toList,by simp⟩
  subst hus
  have q':VRs W F (x::xs) us:=by simpa using q
  cases q' with
  | @cons _ u _ us r1 r2=>
   refine kl_popAt (k:=0) (p:=[]) (y:=u) (q:=us) (S.fr hn) (S.newsAll h1 ho) (by decide) (by
    rw[seqIndex?_nonneg (Int.le_refl 0) (by simp)];rfl) (by simp[kl_cut]) (.head fun p hp=>ledger_ne hp) (by simp[r2.length];lia) fun h' F' N'=>?_
   exact Post.mk r1 (S.updN (t:=s.toks) (d:=s.drawn) h1 l F' N' (.list (by simpa using r2))) h
theorem list_sq{v:V}{T:String}{xs:List V}{Q:V->Loc->Mem->Prop}(q:Sq mem v T xs)(hz:xs.length≤sizeLine)(h:∀ a,mem a=none->Q (.ref a) loc (mset mem a (.list xs))) :
  OpV W A env outer (fun vs=>call (.type "list") vs) [v] loc mem Q E:=op1 fun R F s v' S r=>by
 obtain⟨a,vs,n,rfl,ho,rs⟩:=q.at S r
 refine call_list_seq (items:=vs) (hsz:=by rw[rs.size];exact hz) a q.kind ho rfl rfl fun h' c' hk hD=>?_
 have S':=S.alloc (t:=s.toks) (d:=s.drawn) (x:=.list xs) (get?_size s.heap) S.size_le hk hD (.list rs)
 exact Post.mk (.ref _) S' (h _ (S.free (get?_size s.heap)).1)
end
section
variable {W:Wd}{A:Around}{env:Env}{outer:Outs}{loc:Loc}{mem R:Mem}{E:Ex W}{F:Frz}{s:Shared}
theorem Sim0.growBut{it:Addr}{x:AObj}{h':Heap}{t:Nat}{d:Drawn}(S:Sim0 W env outer loc (mset mem it x) F s)(hm:mem it=none)(hk:∀ b o,b≠it->s.heap.get? b=some o->h'.get? b=some o) :
  Sim0 W env outer loc mem F { s with heap:=h',toks:=t,drawn:=d }:=by
 have up:∀ {a y},mem a=some y->a≠it/\mset mem it x a=some y:=fun {a y} e=>by
  have:a≠it:=fun q=>by rw[q,hm]at e;cases e
  exact⟨this,by rw[mset_ne this];exact e⟩
 have dn:∀ {a},mset mem it x a=none->a≠it/\mem a=none:=fun {a} e=>by
  have:a≠it:=fun q=>by rw[q,mset_self]at e;cases e
  exact⟨this,by rw[mset_ne this]at e;exact e⟩
 exact {
  frz:=fun a o h=>hk _ _ (dn (S.memF a o h)).1 (S.frz a o h)
  base:=S.base
  memF:=fun a o h=>(dn (S.memF a o h)).2
  memOk:=fun a y h=>let ⟨o,e,r⟩:=S.memOk a y (up h).2;⟨o,hk _ _ (up h).1 e,r⟩
  ns:=let ⟨m,⟨o,es,ep,e,q⟩,b⟩:=S.ns;⟨m,⟨o,es,ep,hk _ _ (dn S.nsF.2).1 e,q⟩,b⟩
  nsF:=⟨S.nsF.1,(dn S.nsF.2).2⟩
  outs:=fun q hq=>by
   obtain⟨⟨o,es,ep,e,r⟩,b,c,n⟩:=S.outs q hq
   exact⟨⟨o,es,ep,hk _ _ (dn c).1 e,r⟩,b,(dn c).2,n⟩
  low:=S.low
  memLow:=fun a y h=>S.memLow a y (up h).2
  gens:=S.gens
  os:=S.os }
theorem Sim.endR{it:Addr}{x:AObj}{h':Heap}{t:Nat}{d:Drawn}(S:Sim W env outer loc mem (mset R it x) F s)(hR:R it=none)(hk:∀ b o,b≠it->s.heap.get? b=some o->h'.get? b=some o) :
  Sim W env outer loc mem R F { s with heap:=h',toks:=t,drawn:=d }:=by
 have hm:mem it=none:=by
  cases q:mem it with
  | none=>rfl
  | some y=>have:=S.dis it y q;rw[mset_self]at this;cases this
 refine⟨fun b y e=>?_,?_⟩
 ·have:=S.dis b y e
  unfold mset at this
  split at this
  ·cases this
  ·exact this
 ·have z:=S.z
  rw[<-mset_munR hm]at z
  exact z.growBut (by rw[mun_r hm];exact hR) hk
theorem feed_raw{F₀:Frz}{target:PySem.Expr}{it:Addr}{item:Nat->Mem->Option (Option V)}(P:Nat->Obj->Prop)
  (next:∀ {i:Nat} {env:Env} {outer:Outs} {loc:Loc} {mem R:Mem} {F:Frz} {s:Shared} {v:V} {o:Obj} (E:Value->Shared->Prop) (Q:Option Value->Shared->Prop),Incl F₀ F->P i o->item i mem=some (some v)->s.heap.get? it=some o->Sim W env outer loc mem R F s->
   (∀ v' h' t o',VR W F v v'->h'.get? it=some o'->P (i+1) o'->Heap.SameBut it s.heap h'->Q (some v') { s with heap:=h',toks:=t })->wpAny (model W.prog W.w) A (pyNext (.ref it)) Q E s)
  (go:∀ {i:Nat} {s:Shared} {v':Value} {o:Obj} (E:Value->Shared->Prop) (Q:Unit->Shared->Prop),P i o->s.heap.get? it=some o->Q () s->wpAny (model W.prog W.w) A (letOwnedTupleGo target (.ref it) v') Q E s)
  (done:∀ {i:Nat} {env:Env} {outer:Outs} {loc:Loc} {mem R:Mem} {F:Frz} {s:Shared} {o:Obj} (E:Value->Shared->Prop) (Q:Option Value->Shared->Prop),Incl F₀ F->P i o->item i mem=some none->s.heap.get? it=some o->Sim W env outer loc mem R F s->
   (∀ h',Heap.ExtBut it s.heap h'->Q none { s with heap:=h' })->wpAny (model W.prog W.w) A (pyNext (.ref it)) Q E s)
  (self:∀ {i:Nat} {s:Shared} {o:Obj} (E:Value->Shared->Prop) (Q:Value->Shared->Prop),P i o->s.heap.get? it=some o->Q (.ref it) s->wpAny (model W.prog W.w) A (pyIter (.ref it)) Q E s) :
  Feed W A F₀ target (.ref it) item (fun i R₀ R=>R₀ it=none/\∃ o,R=mset R₀ it (.raw o)/\P i o) where
 next:=by
  rintro i env outer loc mem R₀ R F s v E ic ⟨hn,o,rfl,hP⟩ hi S
  obtain⟨o₁,ho,r⟩:=S.atR
  cases r.view
  refine next E _ ic hP hi ho S fun v' h' t o' rv ho' hP' sb=>⟨v',rfl,?_⟩
  have S':=S.updR (t:=t) (d:=s.drawn) (x':=.raw o') (fun b ob hb e=>(sb.2 b hb).trans e) ho' .raw
  exact go E _ hP' ho' ⟨F,_,Incl.refl F,rv,⟨hn,o',rfl,hP'⟩,S'⟩
 done:=by
  rintro i env outer loc mem R₀ R F s E ic ⟨hn,o,rfl,hP⟩ hi S
  obtain⟨o₁,ho,r⟩:=S.atR
  cases r.view
  exact done E _ ic hP hi ho S fun h' eb=>⟨rfl,S.endR (t:=s.toks) (d:=s.drawn) hn fun b ob hb e=>eb b ob hb e⟩
 off:=by
  rintro i env outer loc mem R₀ R F s ⟨hn,o,rfl,hP⟩ S
  exact S.offR hn
 self:=by
  rintro i env outer loc mem R₀ R F s E Q ⟨hn,o,rfl,hP⟩ S h
  obtain⟨o₁,ho,r⟩:=S.atR
  cases r.view
  exact self E Q hP ho h
 frame:=by
  rintro i R₀ R D x ⟨hn,o,rfl,hP⟩ e
  have hD:D≠it:=fun q=>by rw[q,mset_self,hn]at e;cases e
  refine⟨by rw[mset_ne (Ne.symm hD)];exact hn,o,?_,hP⟩
  funext b
  unfold mset
  by_cases h1:b=D<;>by_cases h2:b=it<;>simp_all
 same:=by
  rintro i R₀ R D ⟨hn,o,rfl,hP⟩ h
  exact mset_ne fun q=>h (q▸hn)
theorem Sim.iterNew{o:Obj}(S:Sim W env outer loc mem R F s)(hf:o.isFreed=false:=by rfl):R s.heap.objs.size=none/\Sim W env outer loc mem (mset R s.heap.objs.size (.raw o)) F { s with heap:=s.heap.push o }:=
 ⟨(S.free (get?_size s.heap)).2,S.allocR (t:=s.toks) (d:=s.drawn) (get?_size s.heap) S.size_le (fun b ob e=>Heap.get?_push_of_some _ e) (Heap.get?_push_size _ hf) .raw⟩
theorem letGo_plain {target:PySem.Expr} {it:Addr} {v:Value} {o:Obj} {n:String} {vs:Array Value} {s:Shared} {E:Value->Shared->Prop} {Q:Unit->Shared->Prop} (ho:s.heap.get? it=some o) (hc:o.cls = .type n) (hd:o.data = .fields vs)
    (hn:["enumerate","zip","dict_itemiterator","dict_reverseitemiterator","odict_iterator","itertools.zip_longest","itertools.pairwise"].contains n=false) (h:Q () s) :
    wpAny (model W.prog W.w) A (letOwnedTupleGo target (.ref it) v) Q E s:=by
  unfold letOwnedTupleGo
  cases target<;>first
    | exact wpAny_pure h
    | (cases v<;>first
        | exact wpAny_pure h
        | (refine wpAny_bind (wpAny_load ho ?_)
           rw[hc,hd]
           simp only [hn,Bool.false_and,Bool.false_eq_true,if_false]
           exact wpAny_pure h))
noncomputable def listOf:Option AObj->Option (List V):=fun o=>Option.rec none (fun x=>AObj.casesOn x some (fun _ _=>none) (fun _=>none) (fun _ _=>none) (fun _=>none) (fun _=>none) (fun _ _ _=>none)) o
noncomputable def ownL(m:Mem)(a:Addr):Option (List V):=listOf (m a)
theorem ownL_eq{a:Addr}{m:Mem}{xs:List V}(h:m a=some (.list xs)):ownL m a=some xs:=congrArg listOf h
theorem listOf_some{o:Option AObj}{xs:List V}(h:listOf o=some xs):o=some (.list xs):=by
 cases o with
 | none=>cases h
 | some x=>cases x with
  | list ys=>rw[Option.some.inj h]
  | _=>cases h
theorem ownL_some{a:Addr}{m:Mem}{xs:List V}(h:ownL m a=some xs):m a=some (.list xs):=listOf_some h
noncomputable def ownItem(a:Addr)(i:Nat)(m:Mem):Option (Option V):=(ownL m a).map (·[i]?)
theorem ownItem_eq{a:Addr}{i:Nat}{m:Mem}{xs:List V}(h:m a=some (.list xs)):ownItem a i m=some xs[i]?:=congrArg (Option.map (·[i]?)) (ownL_eq h)
inductive OwnI(a:Addr)(i:Nat)(m:Mem)(v:Option V):Prop
 | mk (xs:List V) (h1_:m a=some (.list xs)) (h2_:xs[i]? = v)
theorem ownItem_some{a:Addr}{i:Nat}{m:Mem}{v:Option V}(h:ownItem a i m=some v):OwnI a i m v:=by
 unfold ownItem at h
 cases q:ownL m a with
 | none=>rw[q]at h;cases h
 | some xs=>rw[q]at h;exact⟨xs,ownL_some q,Option.some.inj h⟩
theorem VRs.getN{xs:List V}{vs:Array Value}(r:VRs W F xs vs.toList){i:Nat}(h:xs[i]? = none):vs[i]? = none:=by
 rw[List.getElem?_eq_none_iff]at h
 rw[Array.getElem?_eq_none_iff,r.size];exact h
theorem itr_own{target:PySem.Expr}{a:Addr}{xs:List V}(hh:A.handled=none)(h:mem a=some (.list xs)):Itr W A target (.ref a) mem mem (ownItem a):=by
 intro env outer loc R F s x' E S r
 obtain rfl:=r.isRef
 obtain⟨o,ho,q⟩:=S.memOk _ _ h
 cases q with
 | @list _ vs n q=>
  obtain⟨hR,S'⟩:=S.iterNew (o:={ cls:=.type "list_iterator",data:=.fields #[.ref a,.int 0 0] })
  refine wpAny_pyIter_list (items:=vs) ⟨_,ho,rfl,n,rfl⟩ ⟨_,_,feed_raw (fun i o=>o.cls = .type "list_iterator"/\o.data = .fields #[.ref a,.int i 0]) ?_ ?_ ?_ ?_,⟨hR,_,rfl,⟨rfl,rfl⟩⟩,S'⟩
  ·intro i env outer loc mem R F s v o E Q ic hP hi ho S k
   obtain⟨xs,hx,hi⟩:=ownItem_some hi
   obtain⟨o',ho',q⟩:=S.memOk _ _ hx
   cases q with
   | @list _ vs n q=>
    obtain⟨u,hu,ru⟩:=q.getA hi
    refine wpAny_pyNext_list_item (items:=vs) ⟨o,ho,hP⟩ ⟨_,ho',rfl,n,rfl⟩ hu fun h' hit sb=>?_
    obtain⟨o2,h2,hP2⟩:=hit
    exact k u h' s.toks o2 ru h2 hP2 sb
  ·intro i s v' o E Q hP ho q
   exact letGo_plain ho hP.1 hP.2 (by decide) q
  ·intro i env outer loc mem R F s o E Q ic hP hi ho S k
   obtain⟨xs,hx,hi⟩:=ownItem_some hi
   obtain⟨o',ho',q⟩:=S.memOk _ _ hx
   cases q with
   | @list _ vs n q=>exact wpAny_pyNext_list_end (items:=vs) hh ⟨o,ho,hP⟩ ⟨_,ho',rfl,n,rfl⟩ (q.getN hi) k
  ·intro i s o E Q hP ho q;exact wpAny_pyIter_listiter ⟨o,ho,hP⟩ q
noncomputable def setItem_(xs:List V)(i:Nat)(_:Mem):Option (Option V):=some xs[i]?
theorem itr_lst{target:PySem.Expr}{xs:List V}(hh:A.handled=none):Itr W A target (.lst xs) mem mem (setItem_ xs):=by
 intro env outer loc R F₀ s x' E S r
 cases r with
 | @lst _ a vs n fa q=>
  obtain⟨hR,S'⟩:=S.iterNew (o:={ cls:=.type "list_iterator",data:=.fields #[.ref a,.int 0 0] })
  refine wpAny_pyIter_list (items:=vs) ⟨_,S.frz _ _ fa,rfl,n,rfl⟩ ⟨_,_,feed_raw (fun i o=>o.cls = .type "list_iterator"/\o.data = .fields #[.ref a,.int i 0]) ?_ ?_ ?_ ?_,⟨hR,_,rfl,⟨rfl,rfl⟩⟩,S'⟩
  ·intro i env outer loc mem R F s v o E Q ic hP hi ho S k
   cases hi':xs[i]? with
   | none=>unfold setItem_ at hi;rw[hi']at hi;cases hi
   | some y=>
    have:y=v:=by unfold setItem_ at hi;rw[hi']at hi;cases hi;rfl
    subst this
    obtain⟨u,hu,ru⟩:=(q.mono ic).getA hi'
    refine wpAny_pyNext_list_item (items:=vs) ⟨o,ho,hP⟩ ⟨_,S.frz _ _ (ic _ _ fa),rfl,n,rfl⟩ hu fun h' hit sb=>?_
    obtain⟨o2,h2,hP2⟩:=hit
    exact k u h' s.toks o2 ru h2 hP2 sb
  ·intro i s v' o E Q hP ho q
   exact letGo_plain ho hP.1 hP.2 (by decide) q
  ·intro i env outer loc mem R F s o E Q ic hP hi ho S k
   have hi':xs[i]? = none:=by unfold setItem_ at hi;exact Option.some.inj hi
   exact wpAny_pyNext_list_end (items:=vs) hh ⟨o,ho,hP⟩ ⟨_,S.frz _ _ (ic _ _ fa),rfl,n,rfl⟩ (q.getN hi') k
  ·intro i s o E Q hP ho q;exact wpAny_pyIter_listiter ⟨o,ho,hP⟩ q
theorem itr_tup{target:PySem.Expr}{xs:List V}(hh:A.handled=none):Itr W A target (.tup xs) mem mem (setItem_ xs):=by
 intro env outer loc R F₀ s x' E S r
 cases r with
 | @tup _ a vs n fa q=>
  obtain⟨hR,S'⟩:=S.iterNew (o:={ cls:=.type "tuple_iterator",data:=.fields #[.ref a,.int 0 0] })
  refine iter_tuple (items:=vs) ⟨_,S.frz _ _ fa,rfl,n,rfl⟩ ⟨_,_,feed_raw (fun i o=>o.cls = .type "tuple_iterator"/\o.data = .fields #[.ref a,.int i 0]) ?_ ?_ ?_ ?_,⟨hR,_,rfl,⟨rfl,rfl⟩⟩,S'⟩
  ·intro i env outer loc mem R F s v o E Q ic hP hi ho S k
   cases hi':xs[i]? with
   | none=>unfold setItem_ at hi;rw[hi']at hi;cases hi
   | some y=>
    have:y=v:=by unfold setItem_ at hi;rw[hi']at hi;cases hi;rfl
    subst this
    obtain⟨u,hu,ru⟩:=(q.mono ic).getA hi'
    refine next_tuple_item (items:=vs) ⟨o,ho,hP⟩ ⟨_,S.frz _ _ (ic _ _ fa),rfl,n,rfl⟩ hu fun h' hit sb=>?_
    obtain⟨o2,h2,hP2⟩:=hit
    exact k u h' s.toks o2 ru h2 hP2 sb
  ·intro i s v' o E Q hP ho q
   exact letGo_plain ho hP.1 hP.2 (by decide) q
  ·intro i env outer loc mem R F s o E Q ic hP hi ho S k
   have hi':xs[i]? = none:=by unfold setItem_ at hi;exact Option.some.inj hi
   exact next_tuple_end (items:=vs) hh ⟨o,ho,hP⟩ ⟨_,S.frz _ _ (ic _ _ fa),rfl,n,rfl⟩ (q.getN hi') k
  ·intro i s o E Q hP ho q;exact wpAny_pyIter_tupleiter ⟨o,ho,hP⟩ q
noncomputable def dctOf:Option AObj->Option (List (Str×V)×Nat):=fun o=>Option.rec none (fun x=>AObj.casesOn x (fun _=>none) (fun es ep=>some (es,ep)) (fun _=>none) (fun _ _=>none) (fun _=>none) (fun _=>none) (fun _ _ _=>none)) o
theorem dctOf_some{o:Option AObj}{es:List (Str×V)}{ep:Nat}(h:dctOf o=some (es,ep)):o=some (.dict es ep):=by
 cases o with
 | none=>cases h
 | some x=>cases x with
  | dict es' ep'=>cases Option.some.inj h;rfl
  | _=>cases h
noncomputable def entI(f:Str×V->V)(a:Addr)(n ep i:Nat)(m:Mem):Option (Option V):=(dctOf (m a)).bind fun q=>if q.1.length=n/\q.2=ep then some (q.1[i]?.map f) else none
theorem entI_eq{f:Str×V->V}{a:Addr}{n ep i:Nat}{m:Mem}{es:List (Str×V)}(h:m a=some (.dict es ep))(hn:es.length=n):entI f a n ep i m=some (es[i]?.map f):=by unfold entI;rw[h];exact if_pos ⟨hn,rfl⟩
inductive EntI(f:Str×V->V)(a:Addr)(n ep i:Nat)(m:Mem)(v:Option V):Prop
 | mk (es:List (Str×V)) (h1_:m a=some (.dict es ep)) (h2_:es.length=n) (h3_:v=es[i]?.map f)
theorem entI_some{f:Str×V->V}{a:Addr}{n ep i:Nat}{m:Mem}{v:Option V}(h:entI f a n ep i m=some v):EntI f a n ep i m v:=by
 unfold entI at h
 cases q:dctOf (m a) with
 | none=>rw[q]at h;cases h
 | some z=>
  obtain⟨es,e⟩:=z
  rw[q]at h
  by_cases hz:es.length=n/\e=ep
  ·exact⟨es,hz.2▸dctOf_some q,hz.1,(Option.some.inj ((if_pos hz).symm.trans h)).symm⟩
  ·exact nomatch (if_neg hz).symm.trans h
noncomputable abbrev keyItem:Addr->Nat->Nat->Nat->Mem->Option (Option V):=entI fun q=>.str q.1
theorem keyItem_eq{a:Addr}{n ep i:Nat}{m:Mem}{es:List (Str×V)}(h:m a=some (.dict es ep))(hn:es.length=n):keyItem a n ep i m=some (es[i]?.map fun q=>.str q.1):=entI_eq h hn
theorem dictOf_ep{ds:List DictEntry}{n:Nat}{kvs:List (Str×Value)}(h:(dictOf ds n).IsDictOf (strKind W.prog W.w) kvs){hp:Heap}{a:Addr}(ha:hp.get? a=some (dictOf ds n)):hp.DictAt (strKind W.prog W.w) a kvs n:=by
 obtain⟨es,ep,hx,hd,hk,hpr,hn⟩:=h
 refine⟨_,es,ha,hx,?_,hk,hpr,hn⟩
 rw[hd];cases hd;rfl
theorem VRp.at{es:List (Str×V)}{kvs:List (Str×Value)}(r:VRp W F es kvs):∀ {i:Nat} {k:Str} {x:V},es[i]? = some (k,x)->∃ v,kvs[i]? = some (k,v)/\VR W F x v:=by
 induction es generalizing kvs with
 | nil=>intro i k x h;cases h
 | cons e es ih=>
  obtain⟨_,_,r1,r2,rfl⟩:=r.isCons
  intro i k x h
  cases i with
  | zero=>cases h;exact⟨_,rfl,r1⟩
  | succ i=>exact ih r2 h
theorem VRp.atN{es:List (Str×V)}{kvs:List (Str×Value)}(r:VRp W F es kvs){i:Nat}(h:es[i]? = none):kvs[i]? = none:=by
 rw[List.getElem?_eq_none_iff]at h ⊢
 rw[r.length];exact h
theorem itr_dict{target:PySem.Expr}{a:Addr}{es:List (Str×V)}{ep:Nat}(hh:A.handled=none)(h:mem a=some (.dict es ep)):Itr W A target (.ref a) mem mem (keyItem a es.length ep):=by
 intro env outer loc R F₀ s x' E S r
 obtain rfl:=r.isRef
 obtain⟨o,ho,q⟩:=S.memOk _ _ h
 cases q with
 | @dict _ ds _ kvs k q=>
  obtain⟨hR,S'⟩:=S.iterNew (o:={ cls:=.type "dict_keyiterator",data:=.fields #[.ref a,.int 0 0,.int kvs.length 0,.int ep 0] })
  refine wpAny_pyIter_dict (knd:=strKind W.prog W.w) (S.not_modules h) (dictOf_ep k ho) ⟨_,_,feed_raw (fun i o=>o.cls = .type "dict_keyiterator"/\o.data = .fields #[.ref a,.int i 0,.int kvs.length 0,.int ep 0]) ?_ ?_ ?_ ?_,⟨hR,_,rfl,⟨rfl,rfl⟩⟩,S'⟩
  ·intro i env outer loc mem R F s v o E Q ic hP hi ho S k
   obtain⟨es',hx,hl,hi⟩:=entI_some hi
   obtain⟨o',ho',q'⟩:=S.memOk _ _ hx
   cases q' with
   | @dict _ ds' _ kvs' k' q'=>
    have hlen:kvs.length=kvs'.length:=by rw[q.length,q'.length,hl]
    cases he:es'[i]? with
    | none=>rw[he]at hi;cases hi
    | some e=>
     obtain⟨ke,xe⟩:=e
     rw[he]at hi
     cases hi
     obtain⟨u,hu,ru⟩:=q'.at he
     refine wpAny_pyNext_dict_item (knd:=strKind W.prog W.w) (kvs:=kvs') (hlen▸⟨o,ho,hP⟩) (dictOf_ep k' ho') hu fun key h' hkey hit sb=>?_
     obtain⟨o2,h2,hP2⟩:=hit
     obtain⟨t,rfl⟩:=Value.isStrOf_shape hkey
     exact k _ h' s.toks o2 (.str _ _) h2 (hlen▸hP2) sb
  ·intro i s v' o E Q hP ho q
   exact letGo_plain ho hP.1 hP.2 (by decide) q
  ·intro i env outer loc mem R F s o E Q ic hP hi ho S k
   obtain⟨es',hx,hl,hi⟩:=entI_some hi
   obtain⟨o',ho',q'⟩:=S.memOk _ _ hx
   cases q' with
   | @dict _ ds' _ kvs' k' q'=>
    have hlen:kvs.length=kvs'.length:=by rw[q.length,q'.length,hl]
    have he:es'[i]? = none:=by
     cases he:es'[i]? with
     | none=>rfl
     | some e=>rw[he]at hi;cases hi
    exact wpAny_pyNext_dict_end (knd:=strKind W.prog W.w) (kvs:=kvs') hh (hlen▸⟨o,ho,hP⟩) (dictOf_ep k' ho') (q'.atN he) k
  ·intro i s o E Q hP ho q;exact wpAny_pyIter_keyiter ⟨o,ho,hP⟩ q
noncomputable def strItem(x:Str)(i:Nat)(_:Mem):Option (Option V):=some (x.cps[i]?.map fun c=>.str ⟨#[c]⟩)
theorem itr_str{target:PySem.Expr}{x:Str}(hh:A.handled=none):Itr W A target (.str x) mem mem (strItem x):=by
 intro env outer loc R F₀ s x' E S r
 cases r with
 | str _ t=>
  cases ha:x.cps.all (· < 128) with
  | true=>
   obtain⟨hR,S'⟩:=S.iterNew (o:={ cls:=.type "str_ascii_iterator",data:=.fields #[.str x t,.int 0 0] })
   refine wpAny_pyIter_ascii ha ⟨_,_,feed_raw (fun i o=>o.cls = .type "str_ascii_iterator"/\o.data = .fields #[.str x t,.int i 0]) ?_ ?_ ?_ ?_,⟨hR,_,rfl,⟨rfl,rfl⟩⟩,S'⟩
   ·intro i env outer loc mem R F s v o E Q ic hP hi ho S k
    cases hi':x.cps[i]? with
    | none=>unfold strItem at hi;rw[hi']at hi;cases hi
    | some y=>
     have:V.str ⟨#[y]⟩=v:=by unfold strItem at hi;rw[hi']at hi;cases hi;rfl
     subst this
     refine wpAny_pyNext_ascii_item ⟨o,ho,hP⟩ hi' fun h' hit sb=>?_
     obtain⟨o2,h2,hP2⟩:=hit
     exact k _ h' _ o2 (.str _ _) h2 hP2 sb
   ·intro i s v' o E Q hP ho q
    exact letGo_plain ho hP.1 hP.2 (by decide) q
   ·intro i env outer loc mem R F s o E Q ic hP hi ho S k
    have hi':x.cps[i]? = none:=by
     cases hi':x.cps[i]? with
     | none=>rfl
     | some y=>unfold strItem at hi;rw[hi']at hi;cases hi
    exact wpAny_pyNext_ascii_end hh ⟨o,ho,hP⟩ hi' k
   ·intro i s o E Q hP ho q;exact wpAny_pyIter_striter_ascii ⟨o,ho,hP⟩ q
  | false=>
   obtain⟨hR,S'⟩:=S.iterNew (o:={ cls:=.type "str_iterator",data:=.fields #[.str x t,.int 0 0] })
   refine wpAny_pyIter_wide ha ⟨_,_,feed_raw (fun i o=>o.cls = .type "str_iterator"/\o.data = .fields #[.str x t,.int i 0]) ?_ ?_ ?_ ?_,⟨hR,_,rfl,⟨rfl,rfl⟩⟩,S'⟩
   ·intro i env outer loc mem R F s v o E Q ic hP hi ho S k
    cases hi':x.cps[i]? with
    | none=>unfold strItem at hi;rw[hi']at hi;cases hi
    | some y=>
     have:V.str ⟨#[y]⟩=v:=by unfold strItem at hi;rw[hi']at hi;cases hi;rfl
     subst this
     refine wpAny_pyNext_wide_item ⟨o,ho,hP⟩ hi' fun h' hit sb=>?_
     obtain⟨o2,h2,hP2⟩:=hit
     exact k _ h' _ o2 (.str _ _) h2 hP2 sb
   ·intro i s v' o E Q hP ho q
    exact letGo_plain ho hP.1 hP.2 (by decide) q
   ·intro i env outer loc mem R F s o E Q ic hP hi ho S k
    have hi':x.cps[i]? = none:=by
     cases hi':x.cps[i]? with
     | none=>rfl
     | some y=>unfold strItem at hi;rw[hi']at hi;cases hi
    exact wpAny_pyNext_wide_end hh ⟨o,ho,hP⟩ hi' k
   ·intro i s o E Q hP ho q;exact wpAny_pyIter_striter_wide ⟨o,ho,hP⟩ q
end
section
variable {W:Wd}{A:Around}{env:Env}{outer:Outs}{loc:Loc}{mem R:Mem}{E:Ex W}{F:Frz}{s:Shared}
theorem dictOf_of{ds:List DictEntry}{n:Nat}{kvs:List (Str×Value)}(h:(dictOf ds n).IsDictOf (strKind W.prog W.w) kvs){hp:Heap}{a:Addr}(ha:hp.get? a=some (dictOf ds n)):hp.DictOf (strKind W.prog W.w) a kvs:=by
 obtain⟨es,ep,hx,hd,hk,hpr,hn⟩:=h
 exact⟨_,es,ep,ha,hx,hd,hk,hpr,hn⟩
theorem dictOf_back{hp:Heap}{a:Addr}{kvs:List (Str×Value)}(h:hp.DictOf (strKind W.prog W.w) a kvs):∃ ds ep,hp.get? a=some (dictOf ds ep)/\(dictOf ds ep).IsDictOf (strKind W.prog W.w) kvs:=by
 obtain⟨o,es,ep,ha,hx,hd,hk,hpr,hn⟩:=h
 have e:o=dictOf es.toList ep:=by
  obtain⟨h1,h2,h3⟩:=hx
  cases o
  simp only at h1 h2 h3 hd
  subst h1;subst h2;subst h3;subst hd
  simp[dictOf]
 refine⟨es.toList,ep,e▸ha,es,ep,e▸hx,e▸hd,hk,hpr,hn⟩
theorem Sim.dict{a:Addr}{es:List (Str×V)}{ep:Nat}(S:Sim W env outer loc mem R F s)(h:mem a=some (.dict es ep)):∃ kvs,s.heap.DictOf (strKind W.prog W.w) a kvs/\VRp W F es kvs:=by
 obtain⟨o,ho,q⟩:=S.memOk _ _ h
 cases q with
 | dict k q=>exact⟨_,dictOf_of k ho,q⟩
theorem VRp.isSome{es:List (Str×V)}{kvs:List (Str×Value)}(r:VRp W F es kvs)(k:Str):(valueAt kvs k).isSome=(getA es k).isSome:=by
 cases q:getA es k with
 | none=>rw[(r.get k).2 q];rfl
 | some x=>obtain⟨v,e,_⟩:=(r.get k).1 x q;rw[e];rfl
theorem in_dict{a:Addr}{es:List (Str×V)}{ep:Nat}{k:Str}{Q:V->Loc->Mem->Prop}(hm:mem a=some (.dict es ep))(h:Q (.bool (getA es k).isSome) loc mem) :
  OpV W A env outer (fun|[x,y]=>compareOp .In x y|_=>pure .none) [.str k,.ref a] loc mem Q E:=op2 fun R F s v u S r1 r2=>by
 obtain⟨_,rfl⟩:=r1.isStr;obtain rfl:=r2.isRef
 obtain⟨kvs,hd,q⟩:=S.dict hm
 exact wpAny_in_of (knd:=strKind W.prog W.w) (k:=k) (strKind_is _ _ k _) (S.not_modules hm) hd.mapOf (Post.mk (.bool _) S.tick (by rw[q.isSome];exact h))
theorem notin_dict{a:Addr}{es:List (Str×V)}{ep:Nat}{k:Str}{Q:V->Loc->Mem->Prop}(hm:mem a=some (.dict es ep))(h:Q (.bool (!(getA es k).isSome)) loc mem) :
  OpV W A env outer (fun|[x,y]=>compareOp .NotIn x y|_=>pure .none) [.str k,.ref a] loc mem Q E:=op2 fun R F s v u S r1 r2=>by
 obtain⟨_,rfl⟩:=r1.isStr;obtain rfl:=r2.isRef
 obtain⟨kvs,hd,q⟩:=S.dict hm
 exact wpAny_notIn_of (knd:=strKind W.prog W.w) (k:=k) (strKind_is _ _ k _) (S.not_modules hm) hd.mapOf (Post.mk (.bool _) S.tick (by rw[q.isSome];exact h))
theorem getItem_dict{a:Addr}{es:List (Str×V)}{ep:Nat}{k:Str}{x:V}{Q:V->Loc->Mem->Prop}(hm:mem a=some (.dict es ep))(hx:getA es k=some x)(h:Q x loc mem) :
  OpV W A env outer (fun|[x,y]=>getItem x y|_=>pure .none) [.ref a,.str k] loc mem Q E:=op2 fun R F s v u S r1 r2=>by
 obtain rfl:=r1.isRef;obtain⟨_,rfl⟩:=r2.isStr
 obtain⟨kvs,hd,q⟩:=S.dict hm
 obtain⟨u,hu,ru⟩:=(q.get k).1 x hx
 exact wpAny_getItem_of (knd:=strKind W.prog W.w) (k:=k) (strKind_is _ _ k _) hd.mapOf hu (Post.mk ru S.tick h)
theorem setItem_dict{a:Addr}{es:List (Str×V)}{ep:Nat}{k:Str}{x:V}{Q:Loc->Mem->Prop}(hm:mem a=some (.dict es ep))(hz:es.length≤sizeLine)(h:∀ ep',Q loc (mset mem a (.dict (stA es k x) ep'))) :
  OpU W A env outer (fun|[x,y,z]=>setItem x y z|_=>pure ()) [.ref a,.str k,x] loc mem Q E:=op3 fun R F s v u t S r1 r2 r3=>by
 obtain rfl:=r1.isRef;obtain⟨_,rfl⟩:=r2.isStr
 obtain⟨kvs,hd,q⟩:=S.dict hm
 refine wpAny_setItem_pairs (knd:=strKind W.prog W.w) (k:=k) (strKind_is _ _ k _) hd (fun h' hd' sb=>?_) (by rw[q.length];exact hz)
 obtain⟨ds,ep',ho,hd'⟩:=dictOf_back hd'
 exact Post.mk (x:=()) trivial (S.upd (t:=s.toks+1) (d:=s.drawn) hm (fun b ob hb e=>(sb.2 b hb).trans e) ho (.dict hd' (q.store k r3))) (h ep')
theorem dict_get2{a:Addr}{es:List (Str×V)}{ep:Nat}{k:Str}{d:V}{Q:V->Loc->Mem->Prop}(hm:mem a=some (.dict es ep))(h:Q ((getA es k).getD d) loc mem) :
  OpV W A env outer (fun vs=>call (.builtin "dict.get") vs) [.ref a,.str k,d] loc mem Q E:=op3 fun R F s v u t S r1 r2 r3=>by
 obtain rfl:=r1.isRef;obtain⟨_,rfl⟩:=r2.isStr
 obtain⟨kvs,hd,q⟩:=S.dict hm
 refine call_meetsIn PySem.F.slot_dict_get hd.mapOf.typeIs PySem.F.entry_dict_get (PySem.F.args_dict_get_3 _ _ _) (meets_dict_get_default (strKind W.prog W.w) a (k:=k) (strKind_is _ _ k _) (S.not_modules hm) t) ⟨_,hd.mapOf,?_⟩
 cases e:getA es k with
 | none=>rw[(q.get k).2 e];rw[e]at h;exact Post.mk r3 S.tick h
 | some x=>obtain⟨u,hu,ru⟩:=(q.get k).1 x e;rw[hu];rw[e]at h;exact Post.mk ru S.tick h
theorem dict_get1{a:Addr}{es:List (Str×V)}{ep:Nat}{k:Str}{Q:V->Loc->Mem->Prop}(hm:mem a=some (.dict es ep))(h:Q ((getA es k).getD .none) loc mem) :
  OpV W A env outer (fun vs=>call (.builtin "dict.get") vs) [.ref a,.str k] loc mem Q E:=op2 fun R F s v u S r1 r2=>by
 obtain rfl:=r1.isRef;obtain⟨_,rfl⟩:=r2.isStr
 obtain⟨kvs,hd,q⟩:=S.dict hm
 refine call_meetsIn PySem.F.slot_dict_get hd.mapOf.typeIs PySem.F.entry_dict_get (PySem.F.args_dict_get_2 _ _) (meets_dict_get (strKind W.prog W.w) a (k:=k) (strKind_is _ _ k _) (S.not_modules hm)) ⟨_,hd.mapOf,?_⟩
 cases e:getA es k with
 | none=>rw[(q.get k).2 e];rw[e]at h;exact Post.mk .none S.tick h
 | some x=>obtain⟨u,hu,ru⟩:=(q.get k).1 x e;rw[hu];rw[e]at h;exact Post.mk ru S.tick h
theorem e_dict0{pos:Pos}{Q:V->Loc->Mem->Prop}(h:∀ a,mem a=none->Q (.ref a) loc (mset mem a (.dict [] 0))):TrV W A env outer (eval (.Dict [] [] pos) env) loc mem Q E:=fun R F s S=>by
 refine wpAny_Dict_empty ?_
 have S':=S.alloc (t:=s.toks) (d:=s.drawn) (x:=.dict [] 0) (o':={ cls:=.type "dict",data:=.dict #[] }) (get?_size s.heap) S.size_le (fun b o e=>Heap.get?_push_of_some _ e) (Heap.get?_push_size _ rfl) (by
  have:({ cls:=.type "dict",data:=.dict #[] }:Obj)=dictOf [] 0:=rfl
  rw[this]
  exact .dict (kvs:=[]) ⟨#[],0,⟨rfl,rfl,rfl⟩,rfl,fun e he=>by simp at he,.nil,by simp⟩ .nil)
 exact Post.mk (.ref _) S' (h _ (S.free (get?_size s.heap)).1)
theorem getItem_missing{Ev:Value->Shared->Prop}{a:Addr}{es:List (Str×V)}{ep:Nat}{k:Str}{v u:Value}{Q:Value->Shared->Prop}(S:Sim W env outer loc mem R F s)(hm:mem a=some (.dict es ep))(hx:getA es k=none)(hh:A.handled=none)(r1:VR W F (.ref a) v)(r2:VR W F (.str k) u)
  (h:∀ h' e t,Heap.NewExc s.heap h' e "KeyError"->Ev (.ref e) { s with heap:=h',toks:=t }):wpAny (model W.prog W.w) A (getItem v u) Q Ev s:=by
 obtain rfl:=r1.isRef;obtain⟨_,rfl⟩:=r2.isStr
 obtain⟨kvs,hd,q⟩:=S.dict hm
 exact wpAny_getItem_missing_of (knd:=strKind W.prog W.w) (k:=k) (strKind_is _ _ k _) (S.not_modules hm) hh hd.mapOf ((q.get k).2 hx) fun h' e n=>h h' e _ n
end
section
variable {W:Wd}{A:Around}{env:Env}{outer:Outs}{loc:Loc}{mem R:Mem}{E:Ex W}{F:Frz}{s:Shared}
noncomputable def TrP(W:Wd)(A:Around)(env:Env)(outer:Outs)(e:Option PySem.Expr)(loc:Loc)(mem:Mem)(Q:Option Int->Loc->Mem->Prop)(E:Ex W):Prop:=match e with
 | none=>Q none loc mem
 | some e=>TrV W A env outer (eval e env) loc mem (fun v l m=>∃ i,v = .int i/\Q (some i) l m) E
theorem TrP.run{e:Option PySem.Expr}{Q:Option Int->Loc->Mem->Prop}(h:TrP W A env outer e loc mem Q E)(S:Sim W env outer loc mem R F s) :
  wpAny (model W.prog W.w) A (evalPart e env) (Post W env outer (fun _ p v=>IsPart v p) R F Q) (E.p R F) s:=by
 cases e with
 | none=>exact wpAny_evalPart_none ⟨F,none,loc,mem,Incl.refl F,.none,S,h⟩
 | some e=>
  refine wpAny_evalPart_some (after (i:=.refl _) (RW:=VR W) (Q:=fun _ _ _=>True) (h R F s S) fun v' s' F1 v l1 m1 i1 r1 S1 h1=>?_)
  obtain⟨i,rfl,q⟩:=h1
  obtain⟨_,rfl⟩:=r1.isInt
  exact⟨F1,some i,l1,m1,i1,.int i _,S1,q⟩
noncomputable def SliceAt(W:Wd)(A:Around)(env:Env)(outer:Outs)(o:V)(lo hi:Option Int)(loc:Loc)(mem:Mem)(Q:V->Loc->Mem->Prop)(E:Ex W):Prop:=
 ∀ R F s o' l' u' sl,Sim W env outer loc mem R F s->VR W F o o'->IsPart l' lo->IsPart u' hi->s.heap.IsSliceOf sl l' u' .none->wpAny (model W.prog W.w) A (getItem o' (.ref sl)) (Post W env outer (VR W) R F Q) (E.p R F) s
theorem e_slice{value:PySem.Expr}{lower upper:Option PySem.Expr}{p pos:Pos}{Q:V->Loc->Mem->Prop}
  (h:TrV W A env outer (eval value env) loc mem (fun o l m=>TrP W A env outer lower l m (fun lo l m=>TrP W A env outer upper l m (fun hi l m=>∃ T id,Ty m o T/\typeLookup (.type T) "__getitem__" = pure (some (.builtin id))/\
   SliceAt W A env outer o lo hi l m Q E) E) E) E):TrV W A env outer (eval (.Subscript value (.Slice lower upper none p) pos) env) loc mem Q E:=fun R F s S=>by
 refine Subscript_ (after (i:=.refl _) (RW:=VR W) (Q:=fun _ _ _=>True) (h R F s S) fun v' s' F1 f l1 m1 i1 r1 S1 h1=>wpAny_Slice ?_)
 refine after (i:=‹_›) (RW:=VR W) (Q:=fun _ _ _=>True) (h1.run S1) fun l' s2 F2 lo l2 m2 i2 r2 S2 h2=>?_
 refine after (i:=.trans ‹_› ‹_›) (RW:=VR W) (Q:=fun _ _ _=>True) (TrP.run h2 S2) fun u' s3 F3 hi l3 m3 i3 r3 S3 h3=>?_
 refine wpAny_evalPart_none ?_
 obtain⟨T,id,ty,hl,op⟩:=h3
 have r1':=(r1.mono i2).mono i3
 have S4:=S3.grow (t:=s3.toks) (d:=s3.drawn) (h':=s3.heap.push { cls:=.type "slice",data:=.fields #[l',u',.none] }) fun b o e=>Heap.get?_push_of_some _ e
 exact PyProof.Rows.tail_any (ty.at S4 r1').1 hl (wpAny_mono (op R F3 _ v' l' u' _ S4 r1' r2 r3 (Heap.IsSliceOf.new _ _ _ _)) (fun _ _ p=>p.weaken ((i1.trans i2).trans i3)) fun _ _ e=>E.up ((i1.trans i2).trans i3) e) rfl
theorem slice_listL{v:V}{xs:List V}{lo hi:Option Int}{ys:List V}{Q:V->Loc->Mem->Prop}(q:Sq mem v "list" xs)(hz:xs.length≤sizeLine)
  (hy:∀ us:List Value,us.length=xs.length->∀ F:Frz,VRs W F xs us->VRs W F ys (slicePick us.toArray lo hi none).toList) (h:Q (.lst ys) loc mem):SliceAt W A env outer v lo hi loc mem Q E:=fun R F s o' l' u' sl S r pl pu hs=>by
 obtain⟨a,vs,n,rfl,ho,rs⟩:=q.at S r
 refine wpAny_getItem_list_slice (items:=vs) ⟨_,ho,rfl,n,rfl⟩ hs pl pu .none (by simp) ?_ (by rw[rs.size];exact hz)
 have S':=S.freeze (t:=s.toks) (d:=s.drawn) (o':={ cls:=.type "list",data:=.seq (slicePick vs lo hi none) }) (get?_size s.heap) (fun b o e=>Heap.get?_push_of_some _ e) (Heap.get?_push_size _ rfl)
 refine⟨_,.lst ys,loc,mem,Incl.fadd _ _ _,.lst (.inr ⟨rfl,rfl⟩) ?_,S',h⟩
 have:=hy vs.toList rs.length _ (rs.mono (Incl.fadd F s.heap.objs.size { cls:=.type "list",data:=.seq (slicePick vs lo hi none) }))
 simpa using this
theorem slice_own{v:V}{xs:List V}{lo hi:Option Int}{ys:List V}{Q:V->Loc->Mem->Prop}(q:Sq mem v "list" xs)(hz:xs.length≤sizeLine)
  (hy:∀ us:List Value,us.length=xs.length->∀ F:Frz,VRs W F xs us->VRs W F ys (slicePick us.toArray lo hi none).toList) (h:∀ a,mem a=none->Q (.ref a) loc (mset mem a (.list ys))):SliceAt W A env outer v lo hi loc mem Q E:=fun R F s o' l' u' sl S r pl pu hs=>by
 obtain⟨a,vs,n,rfl,ho,rs⟩:=q.at S r
 refine wpAny_getItem_list_slice (items:=vs) ⟨_,ho,rfl,n,rfl⟩ hs pl pu .none (by simp) ?_ (by rw[rs.size];exact hz)
 have S':=S.alloc (t:=s.toks) (d:=s.drawn) (x:=.list ys) (o':={ cls:=.type "list",data:=.seq (slicePick vs lo hi none) }) (get?_size s.heap) S.size_le (fun b o e=>Heap.get?_push_of_some _ e) (Heap.get?_push_size _ rfl)
  (.list (by have:=hy vs.toList rs.length _ rs;simpa using this))
 exact Post.mk (.ref _) S' (h _ (S.free (get?_size s.heap)).1)
theorem pick_from{us:List Value}{k:Nat}(h:k≤us.length):(slicePick us.toArray (some k) none none).toList=us.drop k:=by
 have:=slicePick_from us.toArray k (by simpa using h);rw[this]
theorem slice_from{v:V}{xs:List V}{k:Nat}{Q:V->Loc->Mem->Prop}(q:Sq mem v "list" xs)(hz:xs.length≤sizeLine)(hk:k≤xs.length)(h:Q (.lst (xs.drop k)) loc mem):SliceAt W A env outer v (some (k:Int)) none loc mem Q E:=
 slice_listL q hz (fun us hl F r=>by rw[pick_from (by rw[hl];exact hk)];exact r.drop k) h
theorem pick_upto{us:List Value}{k:Nat}:(slicePick us.toArray none (some k) none).toList=us.take k:=by
 by_cases h:k≤us.length
 ·have:=slicePick_upto us.toArray k (by simpa using h);rw[this]
 ·have:=slicePick_plain us.toArray none (some (k:Int));rw[this]
  simp only [Option.elim,List.drop_zero,Nat.sub_zero]
  have:clipAt us.toArray.size (k:Int)=us.length:=by
   unfold clipAt;simp;lia
  rw[this];simp;rw[List.take_of_length_le (by lia)]
theorem slice_upto{v:V}{xs:List V}{k:Nat}{Q:V->Loc->Mem->Prop}(q:Sq mem v "list" xs)(hz:xs.length≤sizeLine)(h:Q (.lst (xs.take k)) loc mem):SliceAt W A env outer v none (some (k:Int)) loc mem Q E:=
 slice_listL q hz (fun us hl F r=>by rw[pick_upto];exact r.take k) h
noncomputable def rangeObj(a b c:Int)(t u v:Tok):Obj:={ cls:=.type "range",data:=.fields #[.int a t,.int b u,.int c v] }
theorem range1{n:Int}{Q:V->Loc->Mem->Prop}(h:∀ a t u v,mem a=none->Q (.ref a) loc (mset mem a (.raw (rangeObj 0 n 1 t u v)))) :
  OpV W A env outer (fun vs=>call (.type "range") vs) [.int n] loc mem Q E:=op1 fun R F s v S r=>by
 cases r with
 | int _ t=>
 refine call_range_1 ?_
 have S':=S.alloc (t:=s.toks+1+1) (d:=s.drawn) (x:=.raw _) (o':=rangeObj 0 n 1 s.toks t (s.toks+1)) (get?_size s.heap) S.size_le (fun b o e=>Heap.get?_push_of_some _ e) (Heap.get?_push_size _ rfl) .raw
 exact Post.mk (.ref _) S' (h _ _ _ _ (S.free (get?_size s.heap)).1)
theorem range2{n k:Int}{Q:V->Loc->Mem->Prop}(h:∀ a t u v,mem a=none->Q (.ref a) loc (mset mem a (.raw (rangeObj k n 1 t u v)))) :
  OpV W A env outer (fun vs=>call (.type "range") vs) [.int k,.int n] loc mem Q E:=op2 fun R F s v u S r r'=>by
 cases r with
 | int _ t=>
 cases r' with
 | int _ t'=>
 refine call_range_2 ?_
 have S':=S.alloc (t:=s.toks+1) (d:=s.drawn) (x:=.raw _) (o':=rangeObj k n 1 t t' s.toks) (get?_size s.heap) S.size_le (fun b o e=>Heap.get?_push_of_some _ e) (Heap.get?_push_size _ rfl) .raw
 exact Post.mk (.ref _) S' (h _ _ _ _ (S.free (get?_size s.heap)).1)
noncomputable def rangeItem(k:Int)(n:Nat)(i:Nat)(_:Mem):Option (Option V):=some (if i<n then some (.int (k+i)) else none)
theorem itr_range{target:PySem.Expr}{a:Addr}{k:Int}{n:Nat}{t u v:Tok}(hh:A.handled=none)(hm:mem a=some (.raw (rangeObj k (k+n) 1 t u v)))(hsm:Builtin.Range.small k (k+n) 1=true):Itr W A target (.ref a) mem mem (rangeItem k n):=by
 intro env outer loc R F₀ s x' E S r
 obtain rfl:=r.isRef
 obtain⟨o,ho,q⟩:=S.memOk _ _ hm
 cases q.view
 have hsz:Builtin.Range.rangeSize k (k+n) 1=n:=by
  unfold Builtin.Range.rangeSize;simp;try lia
 obtain⟨hR,S'⟩:=S.iterNew (o:={ cls:=.type "range_iterator",data:=.fields #[rawInt k,rawInt (Builtin.Range.rangeSize k (k+n) 1),rawInt 1] })
 refine wpAny_pyIter_range (a:=k) (b:=k+n) (c:=1) (t:=t) (u:=u) (v:=v) ho hsm ⟨_,_,feed_raw (fun i o=>o={ cls:=.type "range_iterator",dict:=none,data:=.fields #[rawInt (k+i),rawInt ((n:Int) - i),rawInt 1],slots:=#[] }) ?_ ?_ ?_ ?_,⟨hR,_,rfl,by rw[hsz];simp⟩,S'⟩
 ·intro i env outer loc mem R F s v o E Q ic hP hi ho S k'
  subst hP
  unfold rangeItem at hi
  split at hi
  ·rename_i hlt
   cases hi
   refine wpAny_pyNext_range_item (x:=k+i) (left:=(n:Int) - i) (step:=1) ho (by lia) fun h' hit sb=>?_
   exact k' _ h' _ _ (.int _ _) hit (by simp[Int.add_assoc,Int.sub_sub]) sb
  ·cases hi
 ·intro i s v' o E Q hP ho q
  subst hP
  exact letGo_plain ho rfl rfl (by decide) q
 ·intro i env outer loc mem R F s o E Q ic hP hi ho S k'
  subst hP
  unfold rangeItem at hi
  split at hi
  ·cases hi
  ·exact wpAny_pyNext_range_end (x:=k+i) (left:=(n:Int) - i) (step:=1) hh ho (by lia) k'
 ·intro i s o E Q hP ho q;subst hP;exact wpAny_pyIter_rangeiter ho q
theorem Sq.reads{v:V}{xs:List V}{n:Nat}{v':Value}(q:Sq mem v "list" xs)(hd:xs.all (isD n)=true)(S:Sim W env outer loc mem R F s)(r:VR W F v v'):∃ as,Reads s.heap v' (.list (xs.map (toPy n))) as:=by
 obtain⟨a,vs,k,rfl,ho,rs⟩:=q.at S r
 obtain⟨as,ra⟩:=reads_all (fun x v a b=>VR.reads S.frz a b) hd rs
 exact⟨_,.list ho rfl rfl ra⟩
theorem countIn_nonneg(d:PyData)(ds:List PyData):0≤Spec.countIn d ds:=by
 induction ds with
 | nil=>exact Int.le_refl 0
 | cons e ds ih=>unfold Spec.countIn;split<;>lia
theorem countIn_pos{n:Nat}{x:V}{xs:List V}(hx:isD n x=true)(hxs:xs.all (isD n)=true):decide (Spec.countIn (toPy n x) (xs.map (toPy n))≠0)=true↔x∈xs:=by
 rw[decide_eq_true_iff]
 induction xs with
 | nil=>simp[Spec.countIn]
 | cons y ys ih=>
  rw[List.all_cons,Bool.and_eq_true]at hxs
  have e:=same_iff hxs.1 hx
  have nn:=countIn_nonneg (toPy n x) (ys.map (toPy n))
  have ih:=ih hxs.2
  rw[List.map_cons,Spec.countIn,List.mem_cons]
  by_cases q:y=x
  ·rw[if_pos (e.mpr q)]
   exact⟨fun _=>.inl q.symm,fun _=>by lia⟩
  ·rw[if_neg (fun z=>q (e.mp z)),Int.zero_add,ih]
   exact⟨.inr,fun z=>z.resolve_left fun z=>q z.symm⟩
theorem in_list{v:V}{x:V}{xs:List V}{n:Nat}{Q:V->Loc->Mem->Prop}(q:Sq mem v "list" xs)(hx:isD n x=true)(hxs:xs.all (isD n)=true)(hn:n<64)(hu:A.units+65<cLine)
  (h:∀ b:Bool,(b=true↔x∈xs)->Q (.bool b) loc mem):OpV W A env outer (fun|[x,y]=>compareOp .In x y|_=>pure .none) [x,v] loc mem Q E:=op2 fun R F s x' v' S r1 r2=>by
 obtain⟨as,ra⟩:=r1.reads S.frz hx
 obtain⟨bs,rb⟩:=q.reads hxs S r2
 exact in_list_dataH rb ra (all_shaped hxs hn).1 (isD_shaped hx (by lia)) hu (fun y hy=>by obtain⟨z,hz,rfl⟩:=inM hy;exact isD_noMix (List.all_eq_true.mp hxs z hz) hx) (Post.mk (.bool _) S (h _ (countIn_pos hx hxs)))
theorem notin_list{v:V}{x:V}{xs:List V}{n:Nat}{Q:V->Loc->Mem->Prop}(q:Sq mem v "list" xs)(hx:isD n x=true)(hxs:xs.all (isD n)=true)(hn:n<64)(hu:A.units+65<cLine)
  (h:∀ b:Bool,(b=true↔x∈xs)->Q (.bool (!b)) loc mem):OpV W A env outer (fun|[x,y]=>compareOp .NotIn x y|_=>pure .none) [x,v] loc mem Q E:=op2 fun R F s x' v' S r1 r2=>by
 obtain⟨as,ra⟩:=r1.reads S.frz hx
 obtain⟨bs,rb⟩:=q.reads hxs S r2
 exact notIn_list_dataH rb ra (all_shaped hxs hn).1 (isD_shaped hx (by lia)) hu (fun y hy=>by obtain⟨z,hz,rfl⟩:=inM hy;exact isD_noMix (List.all_eq_true.mp hxs z hz) hx) (Post.mk (.bool _) S (h _ (countIn_pos hx hxs)))
theorem tuple_list{v:V}{xs:List V}{Q:V->Loc->Mem->Prop}(q:Sq mem v "list" xs)(hz:xs.length≤sizeLine)(h:Q (.tup xs) loc mem):OpV W A env outer (fun vs=>call (.type "tuple") vs) [v] loc mem Q E:=op1 fun R F s v' S r=>by
 obtain⟨a,vs,n,rfl,ho,rs⟩:=q.at S r
 refine call_tuple_list (items:=vs) ⟨_,ho,rfl,n,rfl⟩ (fun h' hk=>?_) (by rw[rs.size];exact hz)
 have S1:=S.grow (t:=s.toks) (d:=s.drawn) hk
 have S':=S1.freeze (t:=s.toks) (d:=s.drawn) (o':={ cls:=.type "tuple",data:=.seq vs }) (get?_size h') (fun b o e=>Heap.get?_push_of_some _ e) (Heap.get?_push_size _ rfl)
 exact⟨_,.tup xs,loc,mem,Incl.fadd _ _ _,.tup (.inr ⟨rfl,rfl⟩) (rs.mono (Incl.fadd _ _ _)),S',h⟩
end
section
variable {W:Wd}{A:Around}{env:Env}{outer:Outs}{loc:Loc}{mem R:Mem}{E:Ex W}{F:Frz}{s:Shared}
theorem mset_mset(m:Mem)(a:Addr)(x y:AObj):mset (mset m a x) a y=mset m a y:=by funext b;unfold mset;split<;>simp_all
theorem mset_eq{m:Mem}{a:Addr}{x:AObj}(h:m a=some x):mset m a x=m:=by
 funext b;unfold mset;split
 ·rename_i e;rw[e,h]
 ·rfl
theorem Sim.fromR{D:Addr}{x:AObj}(S:Sim W env outer loc mem (mset R D x) F s)(hR:R D=none):Sim W env outer loc (mset mem D x) R F s:=by
 have hm:mem D=none:=by
  cases q:mem D with
  | none=>rfl
  | some y=>have:=S.dis D y q;rw[mset_self]at this;cases this
 refine⟨fun b y e=>?_,?_⟩
 ·unfold mset at e
  split at e
  ·rename_i q;rw[q];exact hR
  ·rename_i q
   have:=S.dis b y e
   rw[mset_ne q]at this;exact this
 ·have z:=S.z
  rw[<-mset_munR hm,mset_mun]at z
  exact z
theorem Sim.offM{D:Addr}{x:AObj}(S:Sim W env outer loc mem (mset R D x) F s):mem D=none:=by
 cases q:mem D with
 | none=>rfl
 | some y=>have:=S.dis D y q;rw[mset_self]at this;cases this
theorem Sim0.swap{env':Env}{m m':Str->Option Value}{loc':Loc}{mem':Mem}{F':Frz}{s':Shared}(S:Sim0 W env outer loc mem F s)(l:LocRel W F loc m)(i:Incl F F')
  (S':Sim0 W env' ((env.locals,m)::outer) loc' mem' F' s') (hn:s'.heap.Ns env'.locals m'):Sim0 W env ((env'.locals,m')::outer) loc mem' F' s' where
 frz:=S'.frz
 base:=S'.base
 memF:=S'.memF
 memOk:=S'.memOk
 ns:=⟨m,(S'.outs _ (.head _)).1,l.mono i⟩
 nsF:=⟨(S'.outs _ (.head _)).2.1,(S'.outs _ (.head _)).2.2.1⟩
 outs q hq:=by
  rcases List.mem_cons.mp hq with rfl|hq
  ·exact⟨hn,S'.nsF.1,S'.nsF.2,Ne.symm (S'.outs _ (.head _)).2.2.2⟩
  ·obtain⟨z,b,c,_⟩:=S'.outs q (.tail _ hq);exact⟨z,b,c,(S.outs q hq).2.2.2⟩
 low:=S.low
 memLow:=S'.memLow
 gens:=S'.gens
 os:=S'.os
theorem Sim0.dropOut{q:Addr×(Str->Option Value)}{h':Heap}{t:Nat}(S:Sim0 W env (q::outer) loc mem F s)(ho:∀ p∈outer,p.1≠q.1)(hs:Heap.SameBut q.1 s.heap h'):Sim0 W env outer loc mem F { s with heap:=h',toks:=t }:=by
 obtain⟨z,b,c,n⟩:=S.outs q (.head _)
 have up:∀ {a o},F a o->a≠q.1:=fun h e=>b _ (e▸h)
 have um:∀ {a x},mem a=some x->a≠q.1:=fun h e=>by rw[e,c]at h;cases h
 exact {
  frz:=fun a o h=>(hs.2 a (up h)).trans (S.frz a o h)
  base:=S.base
  memF:=S.memF
  memOk:=fun a x h=>let ⟨o,e,r⟩:=S.memOk a x h;⟨o,(hs.2 a (um h)).trans e,r⟩
  ns:=let ⟨m,z',l⟩:=S.ns;⟨m,z'.sameBut hs (Ne.symm n),l⟩
  nsF:=S.nsF
  outs:=fun p hp=>let ⟨z',b',c',n'⟩:=S.outs p (.tail _ hp);⟨z'.sameBut hs (ho p hp),b',c',n'⟩
  low:=S.low
  memLow:=S.memLow
  gens:=S.gens
  os:=S.os }
inductive CompEnd(W:Wd)(env:Env)(outer:Outs)(loc:Loc)(R:Mem)(F:Frz)(Q:V->Loc->Mem->Prop)(acc:Value)(C:Addr)(s':Shared):Prop
 | intro (F':Frz) (mem':Mem) (D:Addr) (m':Str->Option Value) (h1_:acc = .ref D) (h2_:Incl F F') (h3_:∀ p∈outer,p.1≠C) (h4_:Sim W env ((C,m')::outer) loc mem' R F' s') (h5_:Q (.ref D) loc mem')
noncomputable abbrev CompT2(W:Wd)(A:Around)(env:Env)(outer:Outs)(ifs:List PySem.Expr)(elt:PySem.Expr)(loc:Loc)(mem:Mem)(Q:Option V->Loc->Mem->Prop):Prop:=match ifs with
 | []=>TrV W A env outer (eval elt env) loc mem (fun y l m=>Q (some y) l m) Ex.no
 | [c]=>TrB W A env outer (isTrue c env (eval c env)) loc mem (fun b l m=>(b=true->TrV W A env outer (eval elt env) l m (fun y l m=>Q (some y) l m) Ex.no)/\(b=false->Q none l m)) Ex.no
 | _=>False
noncomputable def CompTurn(W:Wd)(A:Around)(env:Env)(outer:Outs)(ifs:List PySem.Expr)(elt:PySem.Expr)(loc:Loc)(mem:Mem)(Q:Option V->Mem->Prop):Prop:=CompT2 W A env outer ifs elt loc mem fun y _ m=>Q y m
theorem CompT2.mono{ifs:List PySem.Expr}{elt:PySem.Expr}{P Q:Option V->Loc->Mem->Prop}(h:CompT2 W A env outer ifs elt loc mem P)(k:∀ y l m,P y l m->Q y l m):CompT2 W A env outer ifs elt loc mem Q:=by
 cases ifs with
 | nil=>exact Tr.mono h fun y l m q=>k _ _ _ q
 | cons c r=>
  cases r with
  | nil=>exact Tr.mono h fun b l m q=>⟨fun hb=>Tr.mono (q.1 hb) fun y l m q=>k _ _ _ q,fun hb=>k _ _ _ (q.2 hb)⟩
  | cons=>exact h
theorem CompT2.run{ifs:List PySem.Expr}{elt:PySem.Expr}{P:Option V->Loc->Mem->Prop}{Q':Bool->Shared->Prop}{E':Value->Shared->Prop}(h:CompT2 W A env outer ifs elt loc mem P)(S:Sim W env outer loc mem R F s)
  (k:∀ b s' F' l' m',Incl F F'->Sim W env outer l' m' R F' s'->(b=true->TrV W A env outer (eval elt env) l' m' (fun y l m=>P (some y) l m) Ex.no)->(b=false->P none l' m')->Q' b s') :
  wpAny (model W.prog W.w) A (forIn ifs true fun c r=>if r=true then do let ok<-isTrue c env (eval c env);pure (ForInStep.yield ok) else pure (ForInStep.yield r)) Q' E' s:=by
 cases ifs with
 | nil=>exact wpAny_tests_nil (k true s F loc mem (Incl.refl F) S (fun _=>h) fun e=>nomatch e)
 | cons c r=>
  cases r with
  | nil=>exact wpAny_tests_one (after' (RW:=VR W) (Q:=fun _ _ _=>True) (h R F s S) (fun _ _ z=>z.elim) fun b' s4 F4 b l4 m4 i4 r4 S4' h4=>k b' s4 F4 l4 m4 i4 S4' (fun e=>h4.1 (r4.symm.trans e)) fun e=>h4.2 (r4.symm.trans e))
  | cons=>exact h.elim
theorem comp_loop{elt target iter:PySem.Expr}{ifs:List PySem.Expr}{scope:Scope}{pos:Pos}{it acc:Value}{env:Env}{R:Result->Shared->Prop}(I:Nat->Shared->Prop)
  (turn:∀ n s,I n s->wpAny (model W.prog W.w) A (pyNext it) (fun r s₁=>match r with
   | none=>R (.ok .next) s₁
   | some v=>wpAny (model W.prog W.w) A (letOwnedTupleGo target it v) (fun _ s₀=>wpAny (model W.prog W.w) A (assign target env v) (fun _ s₂=>
     wpAny (model W.prog W.w) A (forIn ifs true fun c r=>if r=true then do let ok<-isTrue c env (eval c env);pure (ForInStep.yield ok) else pure (ForInStep.yield r)) (fun ok s₃=>if ok=true then wpAny (model W.prog W.w) A (eval elt env) (fun x s₄=>
      wpAny (model W.prog W.w) A (call (.builtin "list.append") [acc,x]) (fun _ s₅=>∃ m,m<n/\I m s₅) (fun _ _=>False) s₄) (fun _ _=>False) s₃
      else ∃ m,m<n/\I m s₃) (fun _ _=>False) s₂) (fun _ _=>False) s₀) (fun _ _=>False) s₁) (fun _ _=>False) s)
  (n:Nat) (h:I n s):codeAny (model W.prog W.w) A (.compLoop (.ListComp elt [⟨target,iter,ifs,0⟩] scope pos) 0 it acc env) R s:=by
 refine codeAny_loop rfl I (fun n s hI=>?_) n h
 show wpAny _ A ((compTurn (.ListComp elt [⟨target,iter,ifs,0⟩] scope pos) 0 it acc env).onRaise (fun x=>do noteFrame x env;theTreesLotGoes x)) _ _ s
 refine wpAny_noted ?_
 rw[compTurn_list]
 refine wpAny_bind (wpAny_standAt (wpAny_bind (wpAny_mono (turn n s hI) (fun r s₁ h₁=>?_) fun _ _ f=>f.elim)))
 cases r with
 | none=>exact wpAny_pure h₁
 | some v=>
  refine wpAny_bind (wpAny_mono h₁ (fun _ s₀ h₀'=>?_) fun _ _ f=>f.elim)
  refine wpAny_bind (wpAny_mono h₀' (fun _ s₂ h₂=>?_) fun _ _ f=>f.elim)
  refine wpAny_bind (wpAny_mono h₂ (fun okb s₃ h₃=>?_) fun _ _ f=>f.elim)
  cases okb with
  | false=>exact wpAny_pure ⟨rfl,h₃⟩
  | true=>exact wpAny_bind (wpAny_bind (wpAny_mono h₃ (fun x s₄ h₄=>wpAny_bind (wpAny_mono h₄ (fun _ s₅ h₅=>wpAny_pure (wpAny_pure ⟨rfl,h₅⟩)) fun _ _ f=>f.elim)) fun _ _ f=>f.elim))
inductive CoreI(W:Wd)(env:Env)(outer:Outs)(F:Frz)(R:Mem)(D:Addr)(st:Nat->Mem->Mem->Prop)(I:Nat->Nat->List V->Mem->Prop)(n:Nat)(s:Shared):Prop
 | intro (i:Nat) (F':Frz) (ys:List V) (R1:Mem) (l:Loc) (m:Mem) (h1_:Incl F F') (h2_:st i (mset R D (.list ys)) R1) (h3_:Sim W env outer l m R1 F' s) (h4_:I n i ys m)
theorem comp_open{E0:Value->Shared->Prop}{mem₀:Mem}{elt target:PySem.Expr}{iter:PySem.Expr}{ifs:List PySem.Expr}{rest:List Comprehension}{scope:Scope}{cl:List (Str×Addr)}{pos:Pos}{x:V}{item:Nat->Mem->Option (Option V)}{x':Value}{RR:Value->Addr->Result->Shared->Prop}
  (hcell:∀ y∈scope.names,y.2≠.cell) (hkind:scope.kind = .function) (hx:Itr W A target x mem mem₀ item) (S:Sim W env outer loc mem R F s) (r:VR W F x x')
  (loop:∀ (it:Value) (st:Nat->Mem->Mem->Prop) (R':Mem) (D C:Addr) (m:Str->Option Value) (s4:Shared),Feed W A F target it item st->R D=none->st 0 (mset R D (.list [])) R'->LocRel W F loc m->(∀ p∈outer,p.1≠C)->
   Sim W (compEnvC scope cl C env) ((env.locals,m)::outer) [] mem₀ R' F s4->codeAny (model W.prog W.w) A (.compLoop (.ListComp elt (⟨target,iter,ifs,0⟩::rest) scope pos) 0 it (.ref D) (compEnvC scope cl C env)) (RR (.ref D) C) s4) :
  wpAny (model W.prog W.w) A (pyIter x') (fun it s₂=>wpAny (model W.prog W.w) A (newList []) (fun acc s₃=>
   wpAny (model W.prog W.w) A (newFunctionEnv scope env.globals cl [] env.qual none .none (some env)) (fun cenv s₄=>
    codeAny (model W.prog W.w) A (.compStart (.ListComp elt (⟨target,iter,ifs,0⟩::rest) scope pos) 0 it acc { cenv with scope:=relabel scope env }) (RR acc cenv.locals) s₄) E0 s₃) E0 s₂) E0 s:=by
 refine wpAny_mono (hx E0 S r) (fun it s₂ h2=>?_) fun _ _ e=>e
 obtain⟨st,R',fd,h0,S2⟩:=h2
 refine wpAny_newObj_type (wpAny_newFunctionEnv hcell (by intro y hy;simp at hy) (fun h₁ hns₁ hsb₁=>?_) hkind)
 dsimp only at hns₁ hsb₁ ⊢
 generalize hD:s₂.heap.objs.size=D at *
 have fD:s₂.heap.get? D=none:=hD▸get?_size _
 obtain⟨fm,fR⟩:=S2.free fD
 have fR0:R D=none:=by
  cases q:R D with
  | none=>rfl
  | some y=>have:=fd.same (D:=D) h0 (by rw[q];exact fun e=>nomatch e);rw[fR,q]at this;cases this
 generalize hH2:s₂.heap.push { cls:=.type "list",dict:=none,data:=.seq ([]:List Value).toArray }=H2 at hns₁ hsb₁ ⊢
 have S3:=S2.allocR (t:=s₂.toks) (d:=s₂.drawn) (x:=.list []) (o':={ cls:=.type "list",dict:=none,data:=.seq ([]:List Value).toArray }) fD (hD▸S2.size_le)
  (h':=H2) (fun b o e=>hH2▸Heap.get?_push_of_some _ e) (by rw[<-hH2,<-hD];exact Heap.get?_push_size _ rfl) (.list .nil)
 have st3:st 0 (mset R D (.list [])) (mset R' D (.list [])):=fd.frame _ h0 (by rw[fR,fR0])
 generalize hC:H2.objs.size=C at *
 obtain⟨m,hnm,lm⟩:=S3.z.ns
 have S4:Sim W (compEnvC scope cl C env) ((env.locals,m)::outer) [] mem₀ (mset R' D (.list [])) F { s₂ with heap:=h₁,toks:=s₂.toks+([]:List (Str×Value)).length }:=
  ⟨S3.dis,S3.z.enter (s:={ s₂ with heap:=H2 }) (m':=fun x=>([]:List (Str×Value)).reverse.lookup x) hnm hC.symm rfl hns₁ (fun b o e=>hsb₁.extBut b o (fun q=>by
   have:=Heap.lt_size e;rw[q,<-hC]at this;exact Nat.lt_irrefl _ this) (Heap.get?_push_of_some _ e)) (fun x v e=>by cases e)⟩
 have oC:∀ p∈outer,p.1≠C:=fun p hp e=>by
  have:=(S4.z.outs p (.tail _ hp)).2.2.2;exact this e
 have l:=loop it st _ D C m _ fd fR0 st3 lm oC S4
 exact codeAny_compStart_list l (fd.self _ _ st3 S4 l)
theorem comp_core{E0:Value->Shared->Prop}{mem₀:Mem}{elt target iter:PySem.Expr}{ifs:List PySem.Expr}{scope:Scope}{cl:List (Str×Addr)}{pos:Pos}{x:V}{item:Nat->Mem->Option (Option V)}{Q:V->Loc->Mem->Prop}{x':Value}{RR:Value->Addr->Result->Shared->Prop}
  (hcell:∀ y∈scope.names,y.2≠.cell) (hkind:scope.kind = .function) (hx:Itr W A target x mem mem₀ item) (I:Nat->Nat->List V->Mem->Prop) (hz:∀ k i ys m,I k i ys m->ys.length≤sizeLine)
  (turn:∀ (C:Addr) (outer':Outs) k i ys m l,I k i ys m->item i m≠none/\(item i m=some none->∀ D,m D=none->∃ m',(∀ a x,m' a=some x->mset m D (.list ys) a=some x)/\Q (.ref D) loc m')/\
   ∀ v,item i m=some (some v)->Op W A (compEnvC scope cl C env) outer' (fun _ (_ _:Unit)=>True) (fun|[y]=>assign target (compEnvC scope cl C env) y|_=>pure ()) [v] l m (fun _ l m=>
    CompTurn W A (compEnvC scope cl C env) outer' ifs elt l m (fun y m=>∃ k',k'<k/\I k' (i+1) (ys++y.toList) m)) Ex.no)
  (k:Nat) (h:I k 0 [] mem₀) (S:Sim W env outer loc mem R F s) (r:VR W F x x') (hRR:∀ acc C s',CompEnd W env outer loc R F Q acc C s'->RR acc C (.ok .next) s') :
  wpAny (model W.prog W.w) A (pyIter x') (fun it s₂=>wpAny (model W.prog W.w) A (newList []) (fun acc s₃=>
   wpAny (model W.prog W.w) A (newFunctionEnv scope env.globals cl [] env.qual none .none (some env)) (fun cenv s₄=>
    codeAny (model W.prog W.w) A (.compStart (.ListComp elt [⟨target,iter,ifs,0⟩] scope pos) 0 it acc { cenv with scope:=relabel scope env }) (RR acc cenv.locals) s₄) E0 s₃) E0 s₂) E0 s:=by
 refine comp_open hcell hkind hx S r fun it st R' D C m s4 fd fR0 st3 lm oC S4=>?_
 refine comp_loop (CoreI W (compEnvC scope cl C env) ((env.locals,m)::outer) F R D st I) (fun n s hI=>?_) k ⟨0,F,[],_,[],mem₀,Incl.refl F,st3,S4,h⟩
 obtain⟨i,F',ys,R1,l,m',ic,hst,S',hI⟩:=hI
 obtain⟨t1,t2,t3⟩:=turn C ((env.locals,m)::outer) n i ys m' l hI
 cases hit:item i m' with
 | none=>exact absurd hit t1
 | some w=>
  cases w with
  | none=>
   refine wpAny_mono (fd.done _ ic hst hit S') (fun r s1 h1=>?_) fun _ _ e=>e
   obtain⟨rfl,S1⟩:=h1
   refine hRR _ _ _ ?_
   obtain⟨mc,hnc,_⟩:=S1.z.ns
   have z:=S.z.swap lm ic S1.z hnc
   have S5:Sim W env ((C,mc)::outer) loc m' (mset R D (.list ys)) F' s1:=⟨S1.dis,z⟩
   obtain⟨m2,hm2,q2⟩:=t2 hit D S5.offM
   exact⟨F',m2,D,mc,rfl,ic,oC,(S5.fromR fR0).drop hm2,q2⟩
  | some v=>
   refine wpAny_mono (fd.next _ ic hst hit S') (fun r s1 h1=>?_) fun _ _ e=>e
   obtain⟨v',rfl,h1⟩:=h1
   refine wpAny_mono h1 (fun _ s2 h2=>?_) fun _ _ e=>e
   obtain⟨F2,R2,i2,r2,hst2,S2'⟩:=h2
   refine after' (RW:=VR W) (Q:=fun _ _ _=>True) (t3 v hit R2 F2 s2 [v'] S2' (.cons r2 .nil)) (fun _ _ z=>z) fun _ s3 F3 _ l3 m3 i3 _ S3' h3=>?_
   have elts:∀ (F4:Frz) (l4:Loc) (m4:Mem) (s4:Shared),Incl F' F4->Sim W (compEnvC scope cl C env) ((env.locals,m)::outer) l4 m4 R2 F4 s4->TrV W A (compEnvC scope cl C env) ((env.locals,m)::outer) (eval elt (compEnvC scope cl C env)) l4 m4 (fun y _ m=>∃ k',k'<n/\I k' (i+1) (ys++[y]) m) Ex.no->
     wpAny (model W.prog W.w) A (eval elt (compEnvC scope cl C env)) (fun x s₄=>wpAny (model W.prog W.w) A (call (.builtin "list.append") [.ref D,x]) (fun _ s₅=>∃ m',m'<n/\CoreI W (compEnvC scope cl C env) ((env.locals,m)::outer) F R D st I m' s₅) (fun _ _=>False) s₄) (fun _ _=>False) s4:=fun F4 l4 m4 s4 i4 S4 he=>by
    refine after' (RW:=VR W) (Q:=fun _ _ _=>True) (he R2 F4 s4 S4) (fun _ _ z=>z) fun y' s5 F5 y l5 m5 i5 r5 S5 h5=>?_
    obtain⟨k',hk',hI'⟩:=h5
    have e2:R2 D=some (.list ys):=by rw[fd.same hst2 (by rw[mset_self];exact fun e=>nomatch e),mset_self]
    have e3:=mset_eq e2
    rw[<-e3]at S5
    obtain⟨o,ho,ro⟩:=S5.atR
    cases ro.view with
    | @list vs nn q=>
     refine append_at ho (fun h' hs ho'=>?_) (by rw[q.size];exact hz _ _ _ _ hI)
     have S6:=S5.updR (t:=s5.toks) (d:=s5.drawn) (x':=.list (ys++[y])) (fun b ob hb e=>(hs.2 b hb).trans e) ho' (.list (by simpa using q.app (.cons r5 .nil)))
     refine⟨k',hk',i+1,F5,ys++[y],_,l5,m5,(ic.trans i4).trans i5,?_,S6,hI'⟩
     have:=fd.frame (D:=D) (.list (ys++[y])) hst2 (by rw[e2,mset_self])
     rwa [mset_mset]at this
   unfold CompTurn at h3
   refine CompT2.run h3 S3' fun b' s4 F4 l4 m4 i4 S4' ht hf=>?_
   cases b' with
   | true=>rw[if_pos rfl];exact elts F4 l4 m4 s4 ((i2.trans i3).trans i4) S4' (ht rfl)
   | false=>
    rw[if_neg Bool.false_ne_true]
    obtain⟨k',hk',hI'⟩:=hf rfl
    exact⟨k',hk',i+1,F4,_,R2,l4,m4,((ic.trans i2).trans i3).trans i4,(List.append_nil ys).symm▸hst2,S4',hI'⟩
inductive CompOk(W:Wd)(A:Around)(env:Env)(elt target:PySem.Expr)(ifs:List PySem.Expr)(scope:Scope)(cl:List (Str×Addr))(loc:Loc)(mem:Mem)(x:V)(Q:V->Loc->Mem->Prop):Prop
 | mk (item:Nat->Mem->Option (Option V)) (mem₀:Mem) (itr:Itr W A target x mem mem₀ item) (I:Nat->Nat->List V->Mem->Prop) (size:∀ k i ys m,I k i ys m->ys.length≤sizeLine)
  (turn:∀ (C:Addr) (outer':Outs) k i ys m l,I k i ys m->item i m≠none/\(item i m=some none->∀ D,m D=none->∃ m',(∀ a x,m' a=some x->mset m D (.list ys) a=some x)/\Q (.ref D) loc m')/\
   ∀ v,item i m=some (some v)->Op W A (compEnvC scope cl C env) outer' (fun _ (_ _:Unit)=>True) (fun|[y]=>assign target (compEnvC scope cl C env) y|_=>pure ()) [v] l m (fun _ l m=>
    CompTurn W A (compEnvC scope cl C env) outer' ifs elt l m (fun y m=>∃ k',k'<k/\I k' (i+1) (ys++y.toList) m)) Ex.no) (k:Nat) (init:I k 0 [] mem₀)
theorem e_listcomp{elt target iter:PySem.Expr}{ifs:List PySem.Expr}{scope:Scope}{cl:List (Str×Addr)}{pos:Pos}{Q:V->Loc->Mem->Prop}
  (hclos:closureFor scope env=pure cl) (hcell:∀ y∈scope.names,y.2≠.cell) (hkind:scope.kind = .function)
  (hnames:∀ y∈scope.names,y.2 = .local->scope.names.lookup y.1=some .local) (hs:∀ x,foldedSetIterable iter env x=pure x)
  (h:TrV W A env outer (eval iter env) loc mem (fun x l m=>CompOk W A env elt target ifs scope cl l m x Q) E) :
  TrV W A env outer (eval (.ListComp elt [⟨target,iter,ifs,0⟩] scope pos) env) loc mem Q E:=fun R F s S=>by
 rw[eval_ListComp]
 refine wpAny_comprehension_free (use:=none) rfl hs hclos hkind hnames (after (i:=.refl _) (RW:=VR W) (Q:=fun _ _ _=>True) (h R F s S) fun x' s1 F1 x l1 m1 i1 r1 S1 h1=>?_)
 obtain⟨item,mem₀,itr,I,size,turn,k,init⟩:=h1
 refine comp_core (RR:=fun acc C=>compPost (model W.prog W.w) A (E.p R F) none (Post W env outer (VR W) R F Q) acc C) hcell hkind itr I size turn k init S1 r1 fun acc C s' he=>?_
 obtain⟨F',mem',D,m',rfl,i',oC,S',q⟩:=he
 refine⟨m',(S'.z.outs _ (.head _)).1,fun h' hs'=>⟨F',.ref D,l1,mem',i1.trans i',.ref D,⟨S'.dis,S'.z.dropOut (t:=s'.toks) oC hs'⟩,q⟩⟩
theorem s_assign_listcomp{elt target iter:PySem.Expr}{ifs:List PySem.Expr}{scope:Scope}{cl:List (Str×Addr)}{pos py spos:Pos}{y:Str}{Q:Fl->Loc->Mem->Prop}
  (hsw:swapsWith (.ListComp elt [⟨target,iter,ifs,0⟩] scope pos) (some (.Name y py)) spos.line env=pure true)
  (hclos:closureFor scope env=pure cl) (hcell:∀ y∈scope.names,y.2≠.cell) (hkind:scope.kind = .function)
  (hnames:∀ y∈scope.names,y.2 = .local->scope.names.lookup y.1=some .local) (hy:env.kindOf y=some .local) (hp:(env.scope.kind == .class || (env.scope.kind == .module&&env.locals != env.globals))=false)
  (hs:∀ x,foldedSetIterable iter env x=pure x)
  (h:TrV W A env outer (eval iter env) loc mem (fun x l m=>CompOk W A env elt target ifs scope cl l m x (fun v l m=>Q .next (setL y v l) m)) E) :
  TrS W A env outer (exec (.Assign [.Name y py] (.ListComp elt [⟨target,iter,ifs,0⟩] scope pos) spos) env) loc mem Q E:=fun R F s S=>by
 rw[exec_Assign_Name_used _ _ _ _ hsw]
 refine wpAny_bind (wpAny_standAt (wpAny_bind ?_))
 show wpAny _ A (do let _<-comprehension (.ListComp elt [⟨target,iter,ifs,0⟩] scope pos) scope env _ (newList []) false (eval iter env) (some (assign (.Name y py) env))) _ _ s
 refine wpAny_bind (wpAny_mono (wpAny_comprehension_free (use:=some (assign (.Name y py) env)) (Q:=fun _ s'=>Post W env outer (FR W) R F Q .next s') rfl hs hclos hkind hnames
  (after (i:=.refl _) (RW:=VR W) (Q:=fun _ _ _=>True) (h R F s S) fun x' s1 F1 x l1 m1 i1 r1 S1 h1=>?_)) (fun _ s' hq=>wpAny_pure (wpAny_pure hq)) fun _ _ e=>e)
 obtain⟨item,mem₀,itr,I,size,turn,k,init⟩:=h1
 refine comp_core (Q:=fun v l m=>Q .next (setL y v l) m) (RR:=fun acc C=>compPost (model W.prog W.w) A (E.p R F) (some (assign (.Name y py) env)) (fun _ s'=>Post W env outer (FR W) R F Q .next s') acc C) hcell hkind itr I size turn k init S1 r1 fun acc C s' he=>?_
 obtain⟨F',mem',D,m',rfl,i',oC,S',q⟩:=he
 refine wpAny_assign_Name (after (i:=.trans ‹_› ‹_›) (RW:=fun _ (_ _:Unit)=>True) (Q:=fun _ _ _=>True) (st_local (A:=A) (E:=E) (v:=.ref D) (Q:=fun l m=>Q .next l m) hy hp q R F' s' [.ref D] S' (.cons (.ref D) .nil)) fun _ s2 F2 _ l2 m2 i2 _ S2 q2=>?_)
 exact⟨m',(S2.z.outs _ (.head _)).1,fun h' hs'=>⟨F2,.next,l2,m2,(i1.trans i').trans i2,.next,⟨S2.dis,S2.z.dropOut (t:=s2.toks) oC hs'⟩,q2⟩⟩
end
section
variable {W:Wd}{A:Around}{env:Env}{outer:Outs}{loc:Loc}{mem R:Mem}{E:Ex W}{F:Frz}{s:Shared}
theorem Sim.reR{R':Mem}{h':Heap}{t:Nat}{d:Drawn}(S:Sim W env outer loc mem R F s)(h1:∀ b,R b=none->R' b=none)(h2:∀ b x,R' b=some x->Held W F h' b x)
  (h3:∀ b o,s.heap.get? b=some o->R b=none->h'.get? b=some o):Sim W env outer loc mem R' F { s with heap:=h',toks:=t,drawn:=d }:=by
 have Z:=S.z
 have dn:∀ {b},mun mem R b=none->R b=none/\mun mem R' b=none:=fun {b} e=>by
  obtain⟨a,c⟩:=mun_none e
  exact⟨c,by rw[mun_r a];exact h1 b c⟩
 refine⟨fun b y e=>h1 b (S.dis b y e),?_⟩
 exact {
  frz:=fun b o h=>h3 b o (Z.frz b o h) (dn (Z.memF b o h)).1
  base:=Z.base
  memF:=fun b o h=>(dn (Z.memF b o h)).2
  memOk:=fun b y h=>by
   cases q:mem b with
   | some z=>
    rw[mun_l q]at h;cases h
    obtain⟨o,ho,r⟩:=Z.memOk b _ (mun_l q)
    exact⟨o,h3 b o ho (S.dis b _ q),r⟩
   | none=>rw[mun_r q]at h;exact h2 b y h
  ns:=let ⟨m,⟨o,es,ep,e,q⟩,b⟩:=Z.ns;⟨m,⟨o,es,ep,h3 _ _ e (dn Z.nsF.2).1,q⟩,b⟩
  nsF:=⟨Z.nsF.1,(dn Z.nsF.2).2⟩
  outs:=fun q hq=>by
   obtain⟨⟨o,es,ep,e,r⟩,b,c,n⟩:=Z.outs q hq
   exact⟨⟨o,es,ep,h3 _ _ e (dn c).1,r⟩,b,(dn c).2,n⟩
  low:=Z.low
  memLow:=fun b y h=>by
   cases q:mem b with
   | some z=>exact Z.memLow b z (mun_l q)
   | none=>
    rw[mun_r q]at h
    cases q':R b with
    | none=>rw[h1 b q']at h;cases h
    | some z=>exact Z.memLow b z (by rw[mun_r q];exact q')
  gens:=Z.gens
  os:=Z.os }
theorem Sim.adopt{a:Addr}{o:Obj}(S:Sim W env outer loc mem R F s)(f1:mun mem R a=none)(f2:∀ o,¬ F a o)(f3:a≠env.locals)(f4:∀ q∈outer,q.1≠a)(ho:s.heap.get? a=some o):Sim W env outer loc mem R (fadd F a o) s:=by
 refine⟨S.dis,?_⟩
 have Z:=S.z
 exact {
  frz:=fun b o e=>by rcases e with e|⟨rfl,rfl⟩;exact Z.frz b o e;exact ho
  base:=fun b o e=>.inl (Z.base b o e)
  memF:=fun b o e=>by rcases e with e|⟨rfl,rfl⟩;exact Z.memF b o e;exact f1
  memOk:=fun b y e=>let ⟨o,e',q⟩:=Z.memOk b y e;⟨o,e',q.mono (Incl.fadd _ _ _)⟩
  ns:=let ⟨m,z,b⟩:=Z.ns;⟨m,z,LocRel.mono (Incl.fadd _ _ _) b⟩
  nsF:=⟨fun o e=>by rcases e with e|⟨e,rfl⟩;exact Z.nsF.1 o e;exact f3 e.symm,Z.nsF.2⟩
  outs:=fun q hq=>by
   obtain⟨z,b,c,e⟩:=Z.outs q hq
   exact⟨z,fun o e=>by rcases e with e|⟨e,rfl⟩;exact b o e;exact f4 q hq e,c,e⟩
  low:=Z.low
  memLow:=Z.memLow
  gens:=Z.gens
  os:=Z.os }
theorem Sim.toR{D:Addr}{x:AObj}(S:Sim W env outer loc (mset mem D x) R F s)(hm:mem D=none):Sim W env outer loc mem (mset R D x) F s:=by
 have hR:R D=none:=S.dis D x (mset_self _ _ _)
 refine⟨fun b y e=>?_,?_⟩
 ·have hb:b≠D:=fun q=>by rw[q,hm]at e;cases e
  rw[mset_ne hb]
  exact S.dis b y (by rw[mset_ne hb];exact e)
 ·have z:=S.z
  rw[<-mset_mun,mset_munR hm]at z
  exact z
theorem Sim.rawAt{a:Addr}{x:AObj}(S:Sim W env outer loc mem R F s)(h:R a=some x):Held W F s.heap a x:=by
 have hm:mem a=none:=by
  cases q:mem a with
  | none=>rfl
  | some y=>have:=S.dis a y q;rw[h]at this;cases this
 exact S.z.memOk a x (by rw[mun_r hm];exact h)
noncomputable def enumObj(it:Addr)(i:Int)(old:Value):Obj:={ cls:=.type "enumerate",dict:=none,data:=.fields #[.none,.bool false,.ref it,rawInt i,.none,old],slots:=#[] }
theorem alloc2{D:Addr}{x1 x2:AObj}{h':Heap}{t:Nat}{d:Drawn}{o1 o2:Obj}(S:Sim W env outer loc mem R F s)(hD:D=s.heap.objs.size)(hk:∀ b o,s.heap.get? b=some o->h'.get? b=some o)
  (g1:h'.get? D=some o1) (g2:h'.get? (D+1)=some o2) (r1:OR W F x1 o1) (r2:OR W F x2 o2):mem D=none/\mem (D+1)=none/\Sim W env outer loc (mset (mset mem D x1) (D+1) x2) R F { s with heap:=h',toks:=t,drawn:=d }:=by
 subst hD
 have n1:s.heap.get? s.heap.objs.size=none:=get?_size _
 have n2:s.heap.get? (s.heap.objs.size+1)=none:=get?_ge (Nat.le_succ _)
 obtain⟨a1,b1⟩:=S.free n1
 obtain⟨a2,b2⟩:=S.free n2
 obtain⟨-,p1,q1,u1⟩:=S.z.free_of_none n1
 obtain⟨-,p2,q2,u2⟩:=S.z.free_of_none n2
 have lo:=S.size_le
 refine⟨a1,a2,?_⟩
 have Z:=S.z
 have ne:s.heap.objs.size≠s.heap.objs.size+1:=(Nat.succ_ne_self _).symm
 have key:∀ {b},b≠s.heap.objs.size->b≠s.heap.objs.size+1->mun (mset (mset mem s.heap.objs.size x1) (s.heap.objs.size+1) x2) R b=mun mem R b:=fun {b} h1 h2=>by
  unfold mun;rw[mset_ne h2,mset_ne h1]
 refine⟨fun b y e=>?_,?_⟩
 ·by_cases h2:b=s.heap.objs.size+1
  ·rw[h2];exact b2
  ·rw[mset_ne h2]at e
   by_cases h1:b=s.heap.objs.size
   ·rw[h1];exact b1
   ·rw[mset_ne h1]at e;exact S.dis b y e
 ·exact {
   frz:=fun b o h=>hk b o (Z.frz b o h)
   base:=Z.base
   memF:=fun b o h=>by rw[key (fun e=>p1 o (e▸h)) (fun e=>p2 o (e▸h))];exact Z.memF b o h
   memOk:=fun b y h=>by
    by_cases h2:b=s.heap.objs.size+1
    ·subst h2;rw[mun_l (mset_self _ _ _)]at h;cases h;exact⟨o2,g2,r2⟩
    ·by_cases h1:b=s.heap.objs.size
     ·subst h1;rw[mun_l (x:=x1) (by rw[mset_ne ne,mset_self])]at h;cases h;exact⟨o1,g1,r1⟩
     ·rw[key h1 h2]at h;obtain⟨o,e,r⟩:=Z.memOk b y h;exact⟨o,hk b o e,r⟩
   ns:=let ⟨m,z,b⟩:=Z.ns;⟨m,z.keeps hk,b⟩
   nsF:=⟨Z.nsF.1,by rw[key (Ne.symm q1) (Ne.symm q2)];exact Z.nsF.2⟩
   outs:=fun q hq=>let ⟨z,b,c,e⟩:=Z.outs q hq;⟨z.keeps hk,b,by rw[key (u1 q hq) (u2 q hq)];exact c,e⟩
   low:=Z.low
   memLow:=fun b y h=>by
    by_cases h2:b=s.heap.objs.size+1
    ·rw[h2];exact notMod (Nat.le_trans lo (Nat.le_succ _))
    ·by_cases h1:b=s.heap.objs.size
     ·rw[h1];exact notMod lo
     ·rw[key h1 h2]at h;exact Z.memLow b y h
   gens:=Z.gens
   os:=Z.os }
theorem cls_no{o o':Obj}(h:some o=some o')(n:(o.cls==o'.cls)=false):False:=by cases h;rw[show(o.cls==o.cls)=true from beq_self_eq_true _]at n;cases n
theorem enKeep{R₀:Mem}{e:Addr}{x1 x2:AObj}{bb:Addr}(h:mset (mset R₀ e x1) (e+1) x2 bb=none):bb≠e+1/\bb≠e:=by
 constructor
 ·intro q;rw[q,mset_self]at h;cases h
 ·intro q;rw[q,mset_ne (Nat.succ_ne_self e).symm,mset_self]at h;cases h
end
structure Calm(A:Around)(d u:Nat):Prop where
 handled:A.handled=none
 guards:A.guards=some []
 depth:A.depth≤d
 units:A.units≤u
theorem Calm.mono{A:Around}{d u d' u':Nat}(c:Calm A d u)(h1:d≤d')(h2:u≤u'):Calm A d' u':=⟨c.handled,c.guards,Nat.le_trans c.depth h1,Nat.le_trans c.units h2⟩
theorem Calm.deeper{A:Around}{d u:Nat}(c:Calm A d u)(env:Env):Calm (A.deeper env) (d+1) (u+3):=⟨c.handled,c.guards,Nat.succ_le_succ c.depth,Nat.add_le_add_right c.units 3⟩
noncomputable def strIn(sub x:Str):Bool:=!(Builtin.Str.occurrences x sub 0 x.length 1).isEmpty
section
variable {W:Wd}{A:Around}{env:Env}{outer:Outs}{loc:Loc}{mem R:Mem}{E:Ex W}{F:Frz}{s:Shared}
noncomputable def Asg(W:Wd)(A:Around)(env:Env)(outer:Outs)(t:PySem.Expr)(v:V)(loc:Loc)(mem:Mem)(Q:Loc->Mem->Prop)(E:Ex W):Prop:=
 Op W A env outer (fun _ (_ _:Unit)=>True) (fun|[y]=>assign t env y|_=>pure ()) [v] loc mem (fun _=>Q) E
noncomputable def AsgAll(W:Wd)(A:Around)(env:Env)(outer:Outs):List PySem.Expr->List V->Loc->Mem->(Loc->Mem->Prop)->Ex W->Prop
 | [],_,loc,mem,Q,_=>Q loc mem
 | _::_,[],loc,mem,Q,_=>Q loc mem
 | t::ts,x::xs,loc,mem,Q,E=>Asg W A env outer t x loc mem (fun l m=>AsgAll W A env outer ts xs l m Q E) E
theorem AsgAll.run{ts:List PySem.Expr}{xs:List V}{loc:Loc}{mem:Mem}{Q:Loc->Mem->Prop}{F:Frz}{s:Shared}{vs:List Value}(h:AsgAll W A env outer ts xs loc mem Q E)(S:Sim W env outer loc mem R F s)(r:VRs W F xs vs) :
  wpAny (model W.prog W.w) A (assignInOrder (ts.map fun e=>assign e env) vs) (Post W env outer (fun _ (_ _:Unit)=>True) R F (fun _=>Q)) (E.p R F) s:=by
 induction ts generalizing xs loc mem F s vs with
 | nil=>exact wpAny_pure (Post.mk (x:=()) trivial S h)
 | cons t ts ih=>
  cases xs with
  | nil=>obtain rfl:=r.isNil;exact wpAny_pure (Post.mk (x:=()) trivial S h)
  | cons x xs=>
   cases r.view with
   | @cons _ vs r1 r2=>
    refine(?_:wpAny _ A (do holding vs (assign t env _);assignInOrder (ts.map fun e=>assign e env) vs) _ _ _)
    refine wpAny_bind (wpAny_holding (after (i:=.refl _) (RW:=fun _ (_ _:Unit)=>True) (Q:=fun _ _ _=>True) (h R F _ [_] S (.cons r1 .nil)) fun _ s2 F2 _ l2 m2 i2 _ S2 h2=>?_))
    exact wpAny_mono (ih h2 S2 (r2.mono i2)) (fun _ _ p=>p.weaken i2) fun _ _ e=>E.up i2 e
theorem asg_name{x:Str}{pos:Pos}{v:V}{Q:Loc->Mem->Prop}(h:Op W A env outer (fun _ (_ _:Unit)=>True) (fun|[y]=>storeName env x y|_=>pure ()) [v] loc mem (fun _=>Q) E) :
  Asg W A env outer (.Name x pos) v loc mem Q E:=op1 fun R F s v' S r=>wpAny_assign_Name (h R F s [v'] S (.cons r .nil))
theorem asg_tuple{elts:List PySem.Expr}{k:Nat}{pos:Pos}{xs:List V}{Q:Loc->Mem->Prop}(hh:A.handled=none)(hE:assignEach elts env=elts.map fun e=>(false,assign e env))(hn:elts.length=xs.length)
  (h:AsgAll W A env outer elts xs loc mem Q E):Asg W A env outer (.Tuple elts k pos) (.tup xs) loc mem Q E:=op1 fun R F s v' S r=>by
 cases r.view with
 | @tup a vs n fa q=>
  refine assign_Tuple_tuple (items:=vs) hh ⟨_,S.frz _ _ fa,rfl,n,rfl⟩ (by rw[hE,List.length_map,q.size,hn]) (by
   rw[hE]
   have:∀ l:List PySem.Expr,(l.map fun e=>(false,assign e env)).findIdx? (·.1)=none:=fun l=>by
    rw[List.findIdx?_eq_none_iff];intro x hx;obtain⟨e,_,rfl⟩:=inM hx;rfl
   exact this _) fun h' eb=>?_
  rw[hE,List.map_map]
  exact AsgAll.run h (S.grow (t:=s.toks) (d:=s.drawn) fun b o e=>eb b o (fun q=>by have:=Heap.lt_size e;rw[q]at this;exact Nat.lt_irrefl _ this) e) q
theorem in_ss{a b:Str}{Q:V->Loc->Mem->Prop}(h:Q (.bool (strIn a b)) loc mem):OpV W A env outer (fun|[x,y]=>compareOp .In x y|_=>pure .none) [.str a,.str b] loc mem Q E:=op2 fun R F s v u S r1 r2=>by
 obtain⟨_,rfl⟩:=r1.isStr;obtain⟨_,rfl⟩:=r2.isStr;exact PyProof.Rows.in_str (Post.mk (.bool _) S h)
theorem getItem_s{x:Str}{i:Int}{c:Nat}{Q:V->Loc->Mem->Prop}(hr:(decide (i < -(2 ^ 63:Int)) || decide (i≥2 ^ 63))=false)(hc:(seqIndex? i x.length).bind (x.cps[·]?)=some c)(h:Q (.str ⟨#[c]⟩) loc mem) :
  OpV W A env outer (fun|[x,y]=>getItem x y|_=>pure .none) [.str x,.int i] loc mem Q E:=op2 fun R F s v u S r1 r2=>by
 obtain⟨_,rfl⟩:=r1.isStr;obtain⟨_,rfl⟩:=r2.isInt;exact PyProof.Rows.getItem_str hr hc (Post.mk (.str _ _) S.tick h)
theorem len_s{x:Str}{Q:V->Loc->Mem->Prop}(hz:(x.length:Int)<2 ^ 63)(h:Q (.int x.length) loc mem):OpV W A env outer (fun vs=>call (.builtin "len") vs) [.str x] loc mem Q E:=op1 fun R F s v S r=>by
 obtain⟨_,rfl⟩:=r.isStr;exact P.len_str (by lia) (Post.mk (.int _ _) S.tick h)
theorem tr_str{x:Str}{Q:Bool->Loc->Mem->Prop}(hz:(x.length:Int)<2 ^ 63)(h:Q ((x.length:Int) != 0) loc mem):OpB W A env outer (fun|[x]=>truthy x|_=>pure false) [.str x] loc mem Q E:=op1 fun R F s v S r=>by
 obtain⟨_,rfl⟩:=r.isStr;refine P.truthy_str (by lia) ?_;exact Post.mk rfl S.tick h
theorem tr_none{Q:Bool->Loc->Mem->Prop}(h:Q false loc mem):OpB W A env outer (fun|[x]=>truthy x|_=>pure false) [.none] loc mem Q E:=op1 fun R F s v S r=>by
 obtain rfl:=r.isNone;refine PyProof.Rows.truthy_none ?_;exact Post.mk rfl S h
theorem tr_int{i:Int}{Q:Bool->Loc->Mem->Prop}(h:Q (i != 0) loc mem):OpB W A env outer (fun|[x]=>truthy x|_=>pure false) [.int i] loc mem Q E:=op1 fun R F s v S r=>by
 obtain⟨_,rfl⟩:=r.isInt;refine PyProof.Rows.truthy_int ?_;exact Post.mk rfl S h
theorem tr_tup{xs:List V}{Q:Bool->Loc->Mem->Prop}(hz:(xs.length:Int)<2 ^ 63)(h:Q (!xs.isEmpty) loc mem):OpB W A env outer (fun|[x]=>truthy x|_=>pure false) [.tup xs] loc mem Q E:=op1 fun R F s v S r=>by
 cases r.view with
 | @tup a vs n fa q=>
  have hs:=q.size
  exact PyProof.Rows.truthy_tuple (items:=vs) ⟨_,S.frz _ _ fa,rfl,n,rfl⟩ (by rw[hs];exact hz) (Post.mk (by rw[Array.isEmpty,hs];cases xs<;>simp) S.tick h)
theorem VRs.strs{ys:List Str}{vs:List Value}(r:VRs W F (ys.map .str) vs):StrsAre vs ys:=by
 induction ys generalizing vs with
 | nil=>obtain rfl:=r.isNil;exact .nil
 | cons y ys ih=>
  obtain⟨_,_,r1,r2,rfl⟩:=r.isCons
  obtain⟨_,rfl⟩:=r1.isStr;exact .cons y _ (ih r2)
theorem join_tup{x:Str}{ys:List Str}{Q:V->Loc->Mem->Prop}(hs:x.length≤16)(hw:(ys.map (·.length)).sum+ys.length≤1048576)(h:Q (.str (Txt.join x ys)) loc mem) :
  OpV W A env outer (fun vs=>call (.builtin "str.join") vs) [.str x,.tup (ys.map .str)] loc mem Q E:=op2 fun R F s v u S r1 r2=>by
 obtain⟨_,rfl⟩:=r1.isStr
 cases r2.view with
 | @tup a vs n fa q=>exact join_tupleW (items:=vs) ⟨_,S.frz _ _ fa,rfl,n,rfl⟩ q.strs hs hw fun t' k=>Post.mk (.str _ _) S.tick h
theorem VRs.bools{bs:List Bool}{vs:List Value}(r:VRs W F (bs.map .bool) vs):vs=bs.map .bool:=by
 induction bs generalizing vs with
 | nil=>obtain rfl:=r.isNil;rfl
 | cons b bs ih=>
  obtain⟨_,_,r1,r2,rfl⟩:=r.isCons
  obtain rfl:=r1.isBool;exact congrArg _ (ih r2)
theorem all_bools{v:V}{bs:List Bool}{Q:V->Loc->Mem->Prop}(hh:A.handled=none)(q:Sq mem v "list" (bs.map .bool))(h:Q (.bool (bs.all id)) loc mem) :
  OpV W A env outer (fun vs=>call (.builtin "all") vs) [v] loc mem Q E:=op1 fun R F s v' S r=>by
 obtain⟨a,vs,n,rfl,ho,rs⟩:=q.at S r
 have e:=rs.bools
 refine call_all_walk (wpAny_pyIter_list (items:=vs) ⟨_,ho,rfl,n,rfl⟩ ?_)
 have hne:a≠s.heap.objs.size:=fun q=>by have:=Heap.lt_size ho;rw[q]at this;exact Nat.lt_irrefl _ this
 have hv:∀ i,vs[i]? = (bs[i]?).map Value.bool:=fun i=>by rw[<-Array.getElem?_toList,e,List.getElem?_map]
 have hsz:vs.size=bs.length:=by rw[<-Array.length_toList,e,List.length_map]
 refine⟨_,_,_,_,_,_,fun i=>(bs[i]?).getD false,rfl,Walks.list (A:=A.in1) hh s.heap.objs.size a hne vs,⟨⟨_,Heap.get?_push_size _ rfl,rfl,rfl⟩,⟨_,Heap.get?_push_of_some _ ho,rfl,n,rfl⟩⟩,fun i v s Q E hP hQ=>?_,fun h' tk hk=>?_⟩
 ·have hP':vs[i]? = some v:=hP
  rw[hv i]at hP'
  cases hb:bs[i]? with
  | none=>rw[hb]at hP';cases hP'
  | some b=>
   rw[hb]at hP'
   cases hP'
   refine wpAny_truthy_bool ?_
   simp only [hb,Option.getD_some]at hQ
   exact hQ
 ·have S':=(S.grow (t:=s.toks) (d:=s.drawn) (h':=s.heap.push { cls:=.type "list_iterator",data:=.fields #[.ref a,.int 0 0] }) fun b o e=>Heap.get?_push_of_some _ e)
  have S2:=S.grow (t:=tk) (d:=s.drawn) (h':=h') fun b o e=>hk b o (by
   intro hb
   have:=Heap.lt_size e
   simp only [List.mem_cons,List.not_mem_nil,or_false]at hb
   rw[hb]at this
   exact Nat.lt_irrefl _ this) (Heap.get?_push_of_some _ e)
  refine Post.mk (.bool _) S2 ?_
  have:(List.range vs.size).all (fun i=>(bs[i]?).getD false)=bs.all id:=by
   rw[hsz]
   rw[Bool.eq_iff_iff,List.all_eq_true,List.all_eq_true]
   constructor
   ·intro hx x hx2
    obtain⟨i,hi,rfl⟩:=List.mem_iff_getElem.mp hx2
    have:=hx i (List.mem_range.mpr hi)
    simpa [List.getElem?_eq_getElem hi] using this
   ·intro hx i hi
    have hi:=List.mem_range.mp hi
    simpa [List.getElem?_eq_getElem hi] using hx _ (List.getElem_mem hi)
  show Q (.bool _) loc mem
  rw[this];exact h
theorem is_none{v:V}{Q:V->Loc->Mem->Prop}(hg:okV v=true)(hv:∀ u,v≠.glob u)(h:Q (.bool (match v with|.none=>true|_=>false)) loc mem):OpV W A env outer (fun|[x,y]=>compareOp .Is x y|_=>pure .none) [v,.none] loc mem Q E:=op2 fun R F s v' u S r1 r2=>by
 obtain rfl:=r2.isNone
 refine PyProof.Rows.is_none_gen ?_
 cases r1<;>first
  | exact Post.mk (.bool _) S h
  | exact absurd rfl (hv _)
end
section
variable {W:Wd}{A:Around}{env:Env}{outer:Outs}{loc:Loc}{mem R:Mem}{E:Ex W}{F:Frz}{s:Shared}
noncomputable def onlyL(k:Str->Option NameKind)(bs:List (Str×V)):Loc:=(bs.filter fun p=>k p.1=some .local).reverse
noncomputable def onlyC(k:Str->Option NameKind)(bs:List (Str×V)):Loc:=(bs.filter fun p=>¬ k p.1=some .local).reverse
theorem lookup_append'{β:Type}(y:Str):∀ (xs ys:List (Str×β)),(xs++ys).lookup y=(xs.lookup y).or (ys.lookup y)
 | [],ys=>by simp[List.lookup]
 | (a,b)::xs,ys=>by
  rw[List.cons_append,List.lookup_cons,List.lookup_cons]
  split
  ·rfl
  ·exact lookup_append' y xs ys
theorem bindL_eq(k:Str->Option NameKind):∀ (bv:List (Str×Value)) (m:Str->Option Value) (y:Str),bindL k bv m y=((bv.filter fun p=>k p.1=some .local).reverse.lookup y).or (m y)
 | [],m,y=>rfl
 | (n,v)::r,m,y=>by
  unfold bindL
  rw[bindL_eq k r]
  by_cases h:k n=some .local
  ·rw[if_pos h,List.filter_cons_of_pos (by simpa using h),List.reverse_cons,lookup_append',Option.or_assoc]
   congr 1
   by_cases e:y=n
   ·subst e;simp[List.lookup]
   ·have:(y==n)=false:=by simpa using e
    simp[List.lookup,this,e]
  ·rw[if_neg h,List.filter_cons_of_neg (by simpa using h)]
theorem bindC_eq(k:Str->Option NameKind):∀ (bv:List (Str×Value)) (m:Str->Option Value) (y:Str),bindC k bv m y=((bv.filter fun p=>¬ k p.1=some .local).reverse.lookup y).or (m y)
 | [],m,y=>rfl
 | (n,v)::r,m,y=>by
  unfold bindC
  rw[bindC_eq k r]
  by_cases h:k n=some .local
  ·rw[if_pos h,List.filter_cons_of_neg (by simpa using h)]
  ·rw[if_neg h,List.filter_cons_of_pos (by simpa using h),List.reverse_cons,lookup_append',Option.or_assoc]
   congr 1
   by_cases e:y=n
   ·subst e;simp[List.lookup]
   ·have:(y==n)=false:=by simpa using e
    simp[List.lookup,this,e]
theorem VRp.filter{es:List (Str×V)}{kvs:List (Str×Value)}(r:VRp W F es kvs)(p:Str->Bool):VRp W F (es.filter fun e=>p e.1) (kvs.filter fun e=>p e.1):=by
 induction es generalizing kvs with
 | nil=>cases r.view;exact .nil
 | cons e es ih=>
  cases r with
  | @cons k x v xs vs r1 r2=>
   cases h:p k with
   | true=>rw[List.filter_cons_of_pos (by simpa using h),List.filter_cons_of_pos (by simpa using h)];exact .cons r1 (ih r2)
   | false=>rw[List.filter_cons_of_neg (by simp[h]),List.filter_cons_of_neg (by simp[h])];exact ih r2
theorem VRp.lookup{es:List (Str×V)}{kvs:List (Str×Value)}(r:VRp W F es kvs)(x:Str):(∀ v,es.lookup x=some v->∃ v',kvs.lookup x=some v'/\VR W F v v')/\(es.lookup x=none->kvs.lookup x=none):=by
 induction es generalizing kvs with
 | nil=>cases r.view;exact⟨fun v h=>(nomatch h),fun _=>rfl⟩
 | cons e es ih=>
  cases r with
  | @cons k y v xs vs r1 r2=>
   rw[List.lookup_cons,List.lookup_cons]
   split
   ·exact⟨fun v h=>by cases h;exact⟨_,rfl,r1⟩,fun h=>(nomatch h)⟩
   ·exact ih r2
noncomputable def layC(f:Str->Option V):List (Str×Addr)->Mem->Mem
 | [],m=>m
 | (n,c)::r,m=>mset (layC f r m) c (.cell (f n))
theorem layC_off{f:Str->Option V}:∀ {cs:List (Str×Addr)} {m:Mem} {a:Addr},(∀ p∈cs,p.2≠a)->layC f cs m a=m a
 | [],_,_,_=>rfl
 | (n,c)::r,m,a,h=>by
  unfold layC
  rw[mset_ne (Ne.symm (h (n,c) (.head _))),layC_off fun p hp=>h p (.tail _ hp)]
theorem layC_at{f:Str->Option V}:∀ {cs:List (Str×Addr)} {m:Mem} {a:Addr} {x:AObj},layC f cs m a=some x->(∃ n,(n,a)∈cs/\x = .cell (f n))\/((∀ p∈cs,p.2≠a)/\m a=some x)
 | [],_,_,_,h=>.inr ⟨fun p hp=>(nomatch hp),h⟩
 | (n,c)::r,m,a,x,h=>by
  unfold layC at h
  by_cases e:a=c
  ·subst e;rw[mset_self]at h;cases h;exact .inl ⟨n,.head _,rfl⟩
  ·rw[mset_ne e]at h
   rcases layC_at h with⟨n',hm,hx⟩|⟨h1,h2⟩
   ·exact .inl ⟨n',.tail _ hm,hx⟩
   ·refine .inr ⟨fun p hp=>?_,h2⟩
    rcases List.mem_cons.mp hp with rfl|hp
    ·exact Ne.symm e
    ·exact h1 p hp
noncomputable def envC(qual:Str)(scope:Scope)(L f:Addr)(cdv:Value):Env:=newEnv scope L mainGlobals (cellsFrom (L+1) scope.names []) (qual++".<locals>.") (some f) cdv none builtinsNs
noncomputable def BodyC(W:Wd)(A:Around)(env:Env)(outer:Outs)(qual:Str)(scope:Scope)(body:List Stmt)(cdv:Value)(f:Addr)(bs:List (Str×V))(mem:Mem)(Q:V->Mem->Prop)(E:Ex W):Prop:=
 ∀ (L:Addr) (m0:Str->Option Value),(∀ p∈cellsFrom (L+1) scope.names [],mem p.2=none)->mem L=none->
  TrS W (A.deeper (envC qual scope L f cdv)) (envC qual scope L f cdv) ((env.locals,m0)::outer) (execs body (envC qual scope L f cdv)) (onlyL (fun n=>scope.names.lookup n) bs)
   (layC (fun n=>(onlyC (fun n=>scope.names.lookup n) bs).lookup n) (cellsFrom (L+1) scope.names []) mem) (fun fl _ m=>∃ m',(∀ a x,m' a=some x->m a=some x)/\Q (retOf fl) m') (LeaveE W A (envC qual scope L f cdv) E)
theorem code_fnC{name qual:Str}{params:Arguments}{body:List Stmt}{scope:Scope}{dV kV doc pm cdv ct:Value}{an:Option Addr}{fo:Obj}{f:Addr}{vals:List Value}{bs:List (Str×V)}{bv:List (Str×Value)}{Q:V->Mem->Prop}{Rz:Result->Shared->Prop}
  (S:Sim W env outer loc mem R F s) (ho:s.heap.get? f=some fo) (hd:fo.data = .func (fnX name qual params body scope [] dV kV doc pm an cdv ct)) (hcd:s.heap.CodeRec cdv qual) (hroom:A.depth<recursionLimit)
  (hbind:bindArgs (fnX name qual params body scope [] dV kV doc pm an cdv ct) ⟨vals,[]⟩=pure bv) (rb:VRp W F bs bv)
  (hk:scope.kind = .function) (hco:scope.isCoroutine=false) (hgen:scope.isGenerator=false)
  (hkind:∀ x∈bs,scope.names.lookup x.1=some .local\/(scope.names.lookup x.1=some .cell/\∀ n,((cellsFrom n scope.names []).lookup x.1).isSome=true))
  (hnd:∀ k,∀ p∈cellsFrom k scope.names [],(cellsFrom k scope.names []).lookup p.1=some p.2)
  (E':Ex W) (hE:∀ e s',E'.p R F e s'->Rz (.error e) s')
  (hR:∀ F' v v' m' s',Incl F F'->VR W F' v v'->Sim W env outer loc m' R F' s'->Q v m'->Rz (.ok (.ret v')) s')
  (h:BodyC W A env outer qual scope body cdv f bs mem Q E'):codeAny (model W.prog W.w) A (.call (.ref f) ⟨vals,[]⟩) Rz s:=by
 obtain⟨m,hn,l⟩:=S.ns
 have hkind':∀ x∈bv,scope.names.lookup x.1=some .local\/(scope.names.lookup x.1=some .cell/\((cellsFrom (s.heap.objs.size+1) scope.names []).lookup x.1).isSome=true):=fun y hy=>by
  have:y.1∈bs.map (·.1):=rb.keys▸List.mem_map_of_mem hy
  obtain⟨z,hz,e⟩:=inM this
  rw[<-e]
  rcases hkind z hz with h|⟨h1,h2⟩
  ·exact .inl h
  ·exact .inr ⟨h1,h2 _⟩
 refine codeAny_call_cells (fd:=fnX name qual params body scope [] dV kV doc pm an cdv ct) (body:=body) (binds:=bv) hroom ho hd (W.nolim.keeps S.hbase) hcd rfl hbind rfl hkind' (fun s₁ x=>?_) hco hgen hk
 have hfree:∀ p∈cellsFrom (s.heap.objs.size+1) scope.names [],s.heap.objs.size<p.2:=fun p hp=>x.above p.1 p.2 hp
 have gL:s.heap.get? s.heap.objs.size=none:=get?_size _
 have gC:∀ p∈cellsFrom (s.heap.objs.size+1) scope.names [],s.heap.get? p.2=none:=fun p hp=>get?_ge (Nat.le_of_lt (hfree p hp))
 obtain⟨h',tk,rfl,hk'⟩:=x.done
 have hns:=x.toInCall.ns
 have Z:=S.z
 have fL:=Z.free_of_none gL
 have nodup:∀ n c,(n,c)∈cellsFrom (s.heap.objs.size+1) scope.names []->Held W F h' c (.cell ((onlyC (fun n=>scope.names.lookup n) bs).lookup n)):=fun n c hm=>by
  obtain⟨o,ho,hd⟩:=x.cell n c (hnd _ (n,c) hm)
  have e:bindC (fun n=>scope.names.lookup n) bv (fun _=>none) n=(bv.filter fun p=>¬ scope.names.lookup p.1=some .local).reverse.lookup n:=by rw[bindC_eq,Option.or_none]
  have q:=((rb.filter (fun n=>decide (¬ scope.names.lookup n=some .local))).rev).lookup n
  refine⟨o,ho,.cell (u:=bindC (fun n=>scope.names.lookup n) bv (fun _=>none) n) hd (fun y hy=>?_) (fun hy=>?_)⟩
  ·rw[e];exact q.1 y hy
  ·rw[e];exact q.2 hy
 have lL:LocRel W F (onlyL (fun n=>scope.names.lookup n) bs) (bindL (fun n=>scope.names.lookup n) bv fun _=>none):=fun y v hy=>by
  rw[bindL_eq,Option.or_none]
  exact(((rb.filter (fun n=>decide (scope.names.lookup n=some .local))).rev).lookup y).1 v hy
 have S':Sim W (envC qual scope s.heap.objs.size f cdv) ((env.locals,m)::outer) (onlyL (fun n=>scope.names.lookup n) bs)
   (layC (fun n=>(onlyC (fun n=>scope.names.lookup n) bs).lookup n) (cellsFrom (s.heap.objs.size+1) scope.names []) mem) R F { s with heap:=h',toks:=tk }:=by
  have cfree:∀ n c,(n,c)∈cellsFrom (s.heap.objs.size+1) scope.names []->s.heap.get? c=none:=fun n c hm=>gC (n,c) hm
  have key:∀ {b},(∀ n,(n,b)∉cellsFrom (s.heap.objs.size+1) scope.names [])->mun (layC (fun n=>(onlyC (fun n=>scope.names.lookup n) bs).lookup n) (cellsFrom (s.heap.objs.size+1) scope.names []) mem) R b=mun mem R b:=fun {b} hb=>by
   unfold mun;rw[layC_off fun p hp e=>hb p.1 (by rw[<-e];exact hp)]
  have noC:∀ {b o},s.heap.get? b=some o->∀ n,(n,b)∉cellsFrom (s.heap.objs.size+1) scope.names []:=fun {b o} e n hm=>by rw[cfree n b hm]at e;cases e
  have lo:=S.size_le
  refine⟨fun b y e=>?_,?_⟩
  ·rcases layC_at e with⟨n,hm,rfl⟩|⟨_,h2⟩
   ·exact(S.free (cfree n b hm)).2
   ·exact S.dis b y h2
  ·exact {
    frz:=fun b o h=>hk' b o (Z.frz b o h)
    base:=Z.base
    memF:=fun b o h=>by rw[key (noC (Z.frz b o h))];exact Z.memF b o h
    memOk:=fun b y h=>by
     by_cases hb:∃ n,(n,b)∈cellsFrom (s.heap.objs.size+1) scope.names []
     ·obtain⟨n,hm⟩:=hb
      cases q:layC (fun n=>(onlyC (fun n=>scope.names.lookup n) bs).lookup n) (cellsFrom (s.heap.objs.size+1) scope.names []) mem b with
      | some z=>
       rw[mun_l q]at h;cases h
       rcases layC_at q with⟨n',hm',rfl⟩|⟨h1,_⟩
       ·exact nodup n' b hm'
       ·exact absurd rfl (h1 (n,b) hm)
      | none=>rw[mun_r q,(S.free (cfree n b hm)).2]at h;cases h
     ·rw[key fun n hm=>hb ⟨n,hm⟩]at h
      obtain⟨o,e,r⟩:=Z.memOk b y h;exact⟨o,hk' b o e,r⟩
    ns:=⟨_,hns,lL⟩
    nsF:=⟨fun o=>fL.2.1 o,by
     show mun _ _ s.heap.objs.size=none
     rw[key fun n hm=>Nat.lt_irrefl _ (hfree (n,s.heap.objs.size) hm)];exact fL.1⟩
    outs:=fun q hq=>by
     rcases List.mem_cons.mp hq with rfl|hq
     ·exact⟨hn.keeps hk',Z.nsF.1,by
       obtain⟨o,es,ep,e,_⟩:=hn
       rw[key (noC e)];exact Z.nsF.2,Ne.symm fL.2.2.1⟩
     ·obtain⟨z,b,c,e⟩:=Z.outs q hq
      obtain⟨o,es,ep,e',r'⟩:=z
      exact⟨⟨o,es,ep,hk' _ _ e',r'⟩,b,by rw[key (noC e')];exact c,fL.2.2.2 q hq⟩
    low:=lo
    memLow:=fun b y h=>by
     by_cases hb:∃ n,(n,b)∈cellsFrom (s.heap.objs.size+1) scope.names []
     ·obtain⟨n,hm⟩:=hb
      exact notMod (Nat.le_trans lo (Nat.le_of_lt (hfree (n,b) hm)))
     ·rw[key fun n hm=>hb ⟨n,hm⟩]at h;exact Z.memLow b y h
    gens:=Z.gens
    os:=Z.os }
 refine wpAny_mono (h s.heap.objs.size m (fun p hp=>(S.free (gC p hp)).1) (S.free gL).1 R F _ S') (fun fl s' hp=>?_) fun e s' he=>wpAny_mono he (fun _ _ q=>hE _ _ q) fun _ _ q=>hE _ _ q
 obtain⟨F',fl',l',m',i,r,S2,m2,hm2,q⟩:=hp
 have S2:=S2.drop hm2
 have S3:Sim W env outer loc m2 R F' s':=⟨S2.dis,S.z.leave l i S2.z⟩
 cases r with
 | next=>exact hR F' .none .none m2 s' i .none S3 q
 | brk=>exact hR F' .none .none m2 s' i .none S3 q
 | cont=>exact hR F' .none .none m2 s' i .none S3 q
 | ret r=>exact hR F' _ _ m2 s' i r S3 q
theorem call_fnC{name qual:Str}{params:Arguments}{body:List Stmt}{scope:Scope}{dV kV doc pm cdv ct oc:Value}{an od:Option Addr}{osl:Array (Option Value)}{f:Addr}{xs:List V}{bs:List (Str×V)}{Q:V->Loc->Mem->Prop}
  (ho:W.K.lookup f=some ⟨oc,od,.func (fnOf name qual params body scope dV kV doc pm an cdv ct),osl⟩) (hcd:codeIn W.K cdv qual=true) (hroom:A.depth<recursionLimit)
  (hbind:∀ (F:Frz) (vs:List Value),VRs W F xs vs->∃ bv,bindArgs (fnOf name qual params body scope dV kV doc pm an cdv ct) ⟨vs,[]⟩=pure bv/\VRp W F bs bv)
  (hk:scope.kind = .function) (hco:scope.isCoroutine=false) (hgen:scope.isGenerator=false)
  (hkind:∀ x∈bs,scope.names.lookup x.1=some .local\/(scope.names.lookup x.1=some .cell/\∀ n,((cellsFrom n scope.names []).lookup x.1).isSome=true))
  (hnd:∀ k,∀ p∈cellsFrom k scope.names [],(cellsFrom k scope.names []).lookup p.1=some p.2)
  (h:BodyC W A env outer qual scope body cdv f bs mem (fun v m=>Q v loc m) E):Op W A env outer (VR W) (fun vs=>call (.ref f) vs) xs loc mem Q E:=fun R F s vs S r=>by
 obtain⟨bv,hb,rb⟩:=hbind F vs r
 exact wpAny_call (code_fnC S (S.kin _ _ ho) rfl (codeRec_of S.kin hcd) hroom hb rb hk hco hgen hkind hnd E (fun _ _ e=>e) (fun F' v v' m' s' i r S' q=>⟨F',v,loc,m',i,r,S',q⟩) h)
theorem sub_refl(m:Mem):∀ a x,m a=some x->m a=some x:=fun _ _ h=>h
theorem sub_mset{m m':Mem}{b:Addr}{y:AObj}(h:m b=none)(k:∀ a x,m' a=some x->m a=some x):∀ a x,m' a=some x->mset m b y a=some x:=fun a x e=>by
 have:=k a x e
 rw[mset_ne (nex this h)];exact this
theorem Op.drop{α β:Type}{RV:Frz->β->α->Prop}{f:List Value->Sem α}{xs:List V}{Q:β->Loc->Mem->Prop}{mem':Mem}(h:Op W A env outer RV f xs loc mem' Q E)(hm:∀ a x,mem' a=some x->mem a=some x):Op W A env outer RV f xs loc mem Q E:=
 fun R F s vs S r=>h R F s vs (S.drop hm) r
noncomputable abbrev Sub(m m':Mem):Prop:=∀ a x,m a=some x->m' a=some x
noncomputable def LSub(a b:Loc):Prop:=a.map (fun q=>b.lookup q.1)=a.map fun q=>some q.2
theorem LSub.get{a b:Loc}(h:LSub a b)(x:Str)(v:V)(e:a.lookup x=some v):b.lookup x=some v:=by
 induction a with
 | nil=>cases e
 | cons q r ih=>
  have h1:=List.cons.inj h
  rw[List.lookup_cons]at e
  split at e
  ·rename_i z;rw[beq_iff_eq.mp z];cases e;exact h1.1
  ·exact ih h1.2 e
theorem Sim.locs{loc':Loc}(S:Sim W env outer loc mem R F s)(h:LSub loc' loc):Sim W env outer loc' mem R F s:=
 ⟨S.dis,{ S.z with ns:=let ⟨m,a,b⟩:=S.z.ns;⟨m,a,fun x v e=>b x v (h.get x v e)⟩ }⟩
theorem Tr.locs{α β:Type}{RV:Frz->β->α->Prop}{t:Sem α}{Q:β->Loc->Mem->Prop}{loc':Loc}(hl:LSub loc' loc)(h:Tr W A env outer RV t loc' mem Q E):Tr W A env outer RV t loc mem Q E:=fun R F s S=>h R F s (S.locs hl)
theorem Op.locs{α β:Type}{RV:Frz->β->α->Prop}{f:List Value->Sem α}{xs:List V}{Q:β->Loc->Mem->Prop}{loc':Loc}(hl:LSub loc' loc)(h:Op W A env outer RV f xs loc' mem Q E):Op W A env outer RV f xs loc mem Q E:=
 fun R F s vs S r=>h R F s vs (S.locs hl) r
theorem Tr.memS{α β:Type}{RV:Frz->β->α->Prop}{t:Sem α}{Q:β->Loc->Mem->Prop}{mem':Mem}(hm:Sub mem' mem)(h:Tr W A env outer RV t loc mem' Q E):Tr W A env outer RV t loc mem Q E:=h.drop hm
theorem Op.memS{α β:Type}{RV:Frz->β->α->Prop}{f:List Value->Sem α}{xs:List V}{Q:β->Loc->Mem->Prop}{mem':Mem}(hm:Sub mem' mem)(h:Op W A env outer RV f xs loc mem' Q E):Op W A env outer RV f xs loc mem Q E:=h.drop hm
theorem comp_map{elt target:PySem.Expr}{ifs:List PySem.Expr}{scope:Scope}{cl:List (Str×Addr)}{x:V}{Q:V->Loc->Mem->Prop}{mem₀:Mem}{item:Nat->Mem->Option (Option V)}
  (hi:Itr W A target x mem mem₀ item) (items:List V) (hit:∀ m i,Sub mem₀ m->i≤items.length->item i m=some items[i]?) (hz:items.length≤sizeLine) (g:V->Option V)
  (turn:∀ (C:Addr) (outer':Outs) (i:Nat) (v:V),items[i]? = some v->Asg W A (compEnvC scope cl C env) outer' target v [] mem₀ (fun l m=>CompTurn W A (compEnvC scope cl C env) outer' ifs elt l m (fun y m=>y=g v/\Sub mem₀ m)) Ex.no)
  (h:∀ D,mem₀ D=none->Q (.ref D) loc (mset mem₀ D (.list (items.filterMap g)))):CompOk W A env elt target ifs scope cl loc mem x Q:=.mk (item) (mem₀) (hi)
 (fun k i ys m=>k+i=items.length/\ys=(items.take i).filterMap g/\Sub mem₀ m)
 (fun k i ys m hI=>by
  obtain⟨h1,rfl,_⟩:=hI
  refine Nat.le_trans (List.length_filterMap_le _ _) (Nat.le_trans ?_ hz)
  rw[List.length_take];exact Nat.min_le_right _ _)
 (fun C outer' k i ys m l hI=>by
  obtain⟨h1,rfl,hs⟩:=hI
  have e:=hit m i hs (by lia)
  refine⟨by rw[e];exact fun q=>(nomatch q),fun q D hD=>?_,fun v q=>?_⟩
  ·rw[e]at q
   have hn:items[i]? = none:=Option.some.inj q
   rw[List.getElem?_eq_none_iff]at hn
   have hD0:mem₀ D=none:=by
    cases z:mem₀ D with
    | none=>rfl
    | some y=>rw[hs D y z]at hD;cases hD
   refine⟨_,fun a y hy=>?_,h D hD0⟩
   unfold mset at hy ⊢
   split at hy
   ·rename_i z;rw[if_pos z,List.take_of_length_le hn];exact hy
   ·rename_i z;rw[if_neg z];exact hs a y hy
  ·rw[e]at q
   have hv:items[i]? = some v:=Option.some.inj q
   have hlt:i<items.length:=by rw[List.getElem?_eq_some_iff]at hv;exact hv.1
   have tk:(items.take i).filterMap g++(g v).toList=(items.take (i+1)).filterMap g:=by
    have hget:items[i]=v:=by rw[List.getElem?_eq_getElem hlt]at hv;exact Option.some.inj hv
    rw[List.take_succ_eq_append_getElem hlt,List.filterMap_append,hget]
    cases hg:g v with
    | none=>simp[hg]
    | some y=>simp[hg]
   have t:=turn C outer' i v hv
   refine Op.memS hs (Op.locs (loc':=[]) rfl ?_)
   refine fun R F s vs S r=>wpAny_mono (t R F s vs S r) (fun _ s' ⟨F',x,l',m',a,b,c,d⟩=>⟨F',x,l',m',a,b,c,?_⟩) fun _ _ e=>e
   unfold CompTurn at d ⊢
   exact CompT2.mono d fun y l m'' q=>⟨k - 1,by lia,by lia,by rw[q.1];exact tk,q.2⟩)
 (items.length)
 (⟨rfl,by simp,fun _ _ h=>h⟩)
end
inductive NC where
 | inl (x:Str)|inr (v:V)
inductive CV:PySem.Const->NC->Prop
 | str {s:Str}:CV (.str s) (.inr (.str s))
 | int {i:Int}:CV (.int i) (.inr (.int i))
 | none:CV .none (.inr .none)
 | bool {b:Bool}:CV (.bool b) (.inr (.bool b))
inductive EV:PySem.Expr->NC->Prop
 | name {x:Str} {pos:Pos}:EV (.Name x pos) (.inl x)
 | const {c:PySem.Const} {k:Nat} {pos:Pos} {z:NC}:CV c z->EV (.Constant c k pos) z
noncomputable def cD(c:PySem.Const):Option {z:NC // CV c z}:=PySem.Const.casesOn (motive:=fun c=>Option {z:NC // CV c z}) c (some ⟨_,.none⟩) (fun _=>some ⟨_,.bool⟩) (fun _=>some ⟨_,.int⟩) (fun _=>none) (fun _ _=>none) (fun _=>some ⟨_,.str⟩) (fun _=>none) none
noncomputable def exD(e:PySem.Expr):Option {z:NC // EV e z}:=PySem.Expr.casesOn (motive_1:=fun e=>Option {z:NC // EV e z}) e (fun _ _ _=>none) (fun _ _ _=>none) (fun _ _ _ _=>none) (fun _ _ _=>none) (fun _ _ _ _=>none) (fun _ _ _ _=>none) (fun _ _ _=>none) (fun _ _ _=>none) (fun _ _ _ _=>none) (fun _ _ _ _=>none) (fun _ _ _ _ _=>none) (fun _ _ _ _=>none) (fun _ _=>none) (fun _ _=>none) (fun _ _=>none) (fun _ _ _ _=>none) (fun _ _ _ _=>none) (fun _ _ _ _=>none) (fun _ _=>none) (fun c _ _=>(cD c).map fun z=>⟨z.1,.const z.2⟩) (fun _ _ _=>none) (fun _ _ _=>none) (fun _ _=>none) (fun _ _=>some ⟨_,.name⟩) (fun _ _=>none) (fun _ _ _=>none) (fun _ _ _ _=>none)
noncomputable def puN(env:Env)(loc:Loc)(x:Str):Option V:=bif (decide (env.scope.kind = .function)&&decide (env.kindOf x=some .local)&&!(x==("__debug__" : Str))) then loc.lookup x else none
noncomputable def puV(env:Env)(loc:Loc)(e:PySem.Expr):Option V:=(exD e).bind fun z=>NC.rec (fun x=>puN env loc x) (fun v=>some v) z.1
noncomputable def puVs(env:Env)(loc:Loc)(es:List PySem.Expr):Option (List V):=List.rec (some []) (fun e _ ih=>(puV env loc e).bind fun v=>ih.bind fun vs=>some (v::vs)) es
theorem bind_some{α β:Type}{o:Option α}{f:α->Option β}{y:β}(h:o.bind f=some y):∃ x,o=some x/\f x=some y:=Option.bind_eq_some_iff.mp h
section
variable {W:Wd}{A:Around}{env:Env}{outer:Outs}{loc:Loc}{mem R:Mem}{E:Ex W}{F:Frz}{s:Shared}
inductive PuN(env:Env)(loc:Loc)(x:Str)(v:V):Prop
 | mk (h1_:env.scope.kind = .function) (h2_:env.kindOf x=some .local) (h3_:(x==("__debug__" : Str))=false) (h4_:loc.lookup x=some v)
theorem puN_of{x:Str}{v:V}(h:puN env loc x=some v):PuN env loc x v:=by
 unfold puN at h
 cases q:(decide (env.scope.kind = .function)&&decide (env.kindOf x=some .local)&&!(x==("__debug__" : Str))) with
 | false=>rw[q]at h;cases h
 | true=>
  rw[q]at h
  rw[Bool.and_eq_true,Bool.and_eq_true]at q
  exact⟨of_decide_eq_true q.1.1,of_decide_eq_true q.1.2,Bool.not_eq_true' _▸q.2,h⟩
inductive PuE(env:Env)(loc:Loc):PySem.Expr->V->Prop
 | name {x:Str} {pos:Pos} {v:V}:PuN env loc x v->PuE env loc (.Name x pos) v
 | const {c:PySem.Const} {k:Nat} {pos:Pos} {v:V}:CV c (.inr v)->PuE env loc (.Constant c k pos) v
theorem puE{e:PySem.Expr}{v:V}(hp:puV env loc e=some v):PuE env loc e v:=by
 obtain⟨⟨z,hz⟩,_,h⟩:=bind_some hp
 cases hz with
 | name=>exact .name (puN_of h)
 | const q=>
  cases z with
  | inl x=>cases q
  | inr u=>exact .const (Option.some.inj h▸q)
theorem pu_const{c:PySem.Const}{z:NC}{k:Nat}{pos:Pos}{Q:V->Loc->Mem->Prop}(q:CV c z):∀ v,z = .inr v->Q v loc mem->TrV W A env outer (eval (.Constant c k pos) env) loc mem Q E:=by
 cases q with
 | str=>intro v e h;cases e;exact e_str h
 | int=>intro v e h;cases e;exact e_int h
 | none=>intro v e h;cases e;exact e_none h
 | bool=>intro v e h;cases e;exact e_bool h
theorem pu{e:PySem.Expr}{v:V}{Q:V->Loc->Mem->Prop}(hp:puV env loc e=some v)(h:Q v loc mem):TrV W A env outer (eval e env) loc mem Q E:=by
 cases puE hp with
 | name q=>exact e_local q.1 q.2 q.3 q.4 h
 | const q=>exact pu_const q v rfl h
theorem pu_star{e:PySem.Expr}{v:V}{rest:List PySem.Expr}(hp:puV env loc e=some v):starEach (e::rest) env=(false,eval e env)::starEach rest env:=by
 cases puE hp with
 | name q=>rfl
 | const q=>rfl
theorem a_pu{pos:Pos}{e:PySem.Expr}{rest:List PySem.Expr}{v:V}{Q:List V->Loc->Mem->Prop}(hp:puV env loc e=some v)
  (h:TrL W A env outer (spliced (backTo pos (starEach rest env))) loc mem (fun xs l m=>Q (v::xs) l m) E):TrL W A env outer (spliced (backTo pos (starEach (e::rest) env))) loc mem Q E:=
 a_cons (pu_star hp) (pu hp h)
theorem a_pus{pos:Pos}{es:List PySem.Expr}{vs:List V}{Q:List V->Loc->Mem->Prop}(hp:puVs env loc es=some vs)(h:Q vs loc mem):TrL W A env outer (spliced (backTo pos (starEach es env))) loc mem Q E:=by
 induction es generalizing vs Q with
 | nil=>exact a_nil (Option.some.inj (show some []=some vs from hp)▸h)
 | cons e es ih=>
  obtain⟨v,a,hp⟩:=bind_some (show(puV env loc e).bind (fun v=>(puVs env loc es).bind fun vs=>some (v::vs))=some vs from hp)
  obtain⟨vs',b,hp⟩:=bind_some hp
  exact a_pu a (ih b (Option.some.inj hp▸h))
variable {l r o i value:PySem.Expr}{pos pos' apos:Pos}{x y v:V}
theorem b_cmp2{op:CmpOp}{whole:Sem Value}{Q:Bool->Loc->Mem->Prop}(hm:behindInMarks op r=false)(hl:puV env loc l=some x)(hr:puV env loc r=some y)
  (h:Op W A env outer (VR W) (fun|[x,y]=>compareOp op x y|_=>pure .none) [x,y] loc mem (fun c l3 m3=>Op W A env outer (fun _ (b c:Bool)=>c=b) (fun|[x]=>truthy x|_=>pure false) [c] l3 m3 Q E) E) :
  TrB W A env outer (isTrue (.Compare l [op] [r] pos) env whole) loc mem Q E:=b_cmp hm (pu hl (pu hr h))
theorem b_cmp1{op:CmpOp}{whole:Sem Value}{Q:Bool->Loc->Mem->Prop}(hm:behindInMarks op r=false)(hl:puV env loc l=some x)
  (h:TrV W A env outer (eval r env) loc mem (fun b l2 m2=>Op W A env outer (VR W) (fun|[x,y]=>compareOp op x y|_=>pure .none) [x,b] l2 m2 (fun c l3 m3=>Op W A env outer (fun _ (b c:Bool)=>c=b) (fun|[x]=>truthy x|_=>pure false) [c] l3 m3 Q E) E) E) :
  TrB W A env outer (isTrue (.Compare l [op] [r] pos) env whole) loc mem Q E:=b_cmp hm (pu hl h)
theorem e_cmp2{op:CmpOp}{Q:V->Loc->Mem->Prop}(hm:behindInMarks op r=false)(hl:puV env loc l=some x)(hr:puV env loc r=some y)
  (h:Op W A env outer (VR W) (fun|[x,y]=>compareOp op x y|_=>pure .none) [x,y] loc mem Q E):TrV W A env outer (eval (.Compare l [op] [r] pos) env) loc mem Q E:=e_cmp hm (pu hl (pu hr h))
theorem e_cmp1{op:CmpOp}{Q:V->Loc->Mem->Prop}(hm:behindInMarks op r=false)(hl:puV env loc l=some x)
  (h:TrV W A env outer (eval r env) loc mem (fun b l2 m2=>Op W A env outer (VR W) (fun|[x,y]=>compareOp op x y|_=>pure .none) [x,b] l2 m2 Q E) E):TrV W A env outer (eval (.Compare l [op] [r] pos) env) loc mem Q E:=e_cmp hm (pu hl h)
theorem e_binop2{op:Operator}{Q:V->Loc->Mem->Prop}(hl:puV env loc l=some x)(hr:puV env loc r=some y)
  (h:Op W A env outer (VR W) (fun|[x,y]=>binaryOp op x y|_=>pure .none) [x,y] loc mem Q E):TrV W A env outer (eval (.BinOp l op r pos) env) loc mem Q E:=e_binop (pu hl (pu hr h))
theorem e_binop1{op:Operator}{Q:V->Loc->Mem->Prop}(hl:puV env loc l=some x)
  (h:TrV W A env outer (eval r env) loc mem (fun b l2 m2=>Op W A env outer (VR W) (fun|[x,y]=>binaryOp op x y|_=>pure .none) [x,b] l2 m2 Q E) E):TrV W A env outer (eval (.BinOp l op r pos) env) loc mem Q E:=e_binop (pu hl h)
theorem e_attr1{attr:Str}{Q:V->Loc->Mem->Prop}
  (he:eval (.Attribute value attr pos) env=(do
   let o<-eval value env
   standAt pos.atName
   let r<-holding [o] (getAttr o attr true)
   letTemporaryGo value o r
   pure r)) (hp:puV env loc value=some v)
  (h:Op W A env outer (VR W) (fun|[y]=>getAttr y attr true|_=>pure .none) [v] loc mem Q E):TrV W A env outer (eval (.Attribute value attr pos) env) loc mem Q E:=e_attr he (pu hp h)
theorem e_sub2{Q:V->Loc->Mem->Prop}(hs:∀ a b,subscripted i false a b=operate [a,b] (getItem a b))(ho:puV env loc o=some x)(hi:puV env loc i=some y)
  (h:∃ T id,Ty mem x T/\typeLookup (.type T) "__getitem__" = pure (some (.builtin id))/\OpV W A env outer (fun|[x,y]=>getItem x y|_=>pure .none) [x,y] loc mem Q E) :
  TrV W A env outer (eval (.Subscript o i pos) env) loc mem Q E:=e_sub hs (pu ho (pu hi h))
theorem e_sub1{Q:V->Loc->Mem->Prop}(hs:∀ a b,subscripted i false a b=operate [a,b] (getItem a b))(ho:puV env loc o=some x)
  (h:TrV W A env outer (eval i env) loc mem (fun i l m=>∃ T id,Ty m x T/\typeLookup (.type T) "__getitem__" = pure (some (.builtin id))/\OpV W A env outer (fun|[x,y]=>getItem x y|_=>pure .none) [x,i] l m Q E) E) :
  TrV W A env outer (eval (.Subscript o i pos) env) loc mem Q E:=e_sub hs (pu ho h)
theorem b_value1{e:PySem.Expr}{Q:Bool->Loc->Mem->Prop}(he:isTrue e env (eval e env)=(do let v<-eval e env;standAt e.pos;holding [v] (truthy v)))(hp:puV env loc e=some v)
  (h:Op W A env outer (fun _ (b c:Bool)=>c=b) (fun|[x]=>truthy x|_=>pure false) [v] loc mem Q E):TrB W A env outer (isTrue e env (eval e env)) loc mem Q E:=b_value he (pu hp h)
theorem s_ret1{Q:Fl->Loc->Mem->Prop}(hp:puV env loc value=some v)(h:Q (.ret v) loc mem):TrS W A env outer (exec (.Return (some value) pos) env) loc mem Q E:=s_ret (pu hp h)
theorem s_assign1{n:Str}{Q:Fl->Loc->Mem->Prop}(hs:swapsWith value (some (.Name n pos')) pos.line env=pure false)(hl:env.kindOf n=some .local)(hk:(env.scope.kind == .class || (env.scope.kind == .module&&env.locals != env.globals))=false)
  (h:TrV W A env outer (eval value env) loc mem (fun v l m=>Q .next (setL n v l) m) E):TrS W A env outer (exec (.Assign [.Name n pos'] value pos) env) loc mem Q E:=
 s_assign hs (Tr.mono h fun v l m q=>st_local hl hk q)
theorem s_assign_attr2{attr:Str}{Q:Fl->Loc->Mem->Prop}(hs:swapsWith value (some (.Attribute o attr pos')) pos.line env=pure false)(hv:puV env loc value=some v)(ho:puV env loc o=some x)
  (h:Op W A env outer (fun _ (_ _:Unit)=>True) (fun|[x,y]=>setAttr x attr y|_=>pure ()) [x,v] loc mem (fun _=>Q .next) E):TrS W A env outer (exec (.Assign [.Attribute o attr pos'] value pos) env) loc mem Q E:=s_assign_attr hs (pu hv (pu ho h))
theorem s_assign_sub3{Q:Fl->Loc->Mem->Prop}(hs:swapsWith value (some (.Subscript o i pos')) pos.line env=pure false)(hv:puV env loc value=some v)(ho:puV env loc o=some x)(hi:puV env loc i=some y)
  (h:Op W A env outer (fun _ (_ _:Unit)=>True) (fun|[x,y,z]=>setItem x y z|_=>pure ()) [x,y,v] loc mem (fun _=>Q .next) E):TrS W A env outer (exec (.Assign [.Subscript o i pos'] value pos) env) loc mem Q E:=s_assign_sub hs (pu hv (pu ho (pu hi h)))
theorem asg_name1{n:Str}{Q:Loc->Mem->Prop}(hl:env.kindOf n=some .local)(hk:(env.scope.kind == .class || (env.scope.kind == .module&&env.locals != env.globals))=false)(h:Q (setL n v loc) mem) :
  Asg W A env outer (.Name n pos) v loc mem Q E:=asg_name (st_local hl hk h)
theorem c_meth1{name:Str}{args:List PySem.Expr}{pl:Sem Bool}{Q:V->Loc->Mem->Prop}
  (he:eval (.Call (.Attribute o name apos) args [] pos) env=(do
   let ov<-eval o env
   standAt apos.atName
   let (f,first)<-holding [ov] (getMethod ov name pl)
   callWith pos f first (backTo pos (starEach args env)) (backToKw pos (keywordEach [] env)))) (ho:puV env loc o=some v)
  (h:Meth W A env outer name pl pos args v loc mem Q E):TrV W A env outer (eval (.Call (.Attribute o name apos) args [] pos) env) loc mem Q E:=c_meth he (pu ho h)
noncomputable def topV(env:Env)(K:Frag)(x:Str):Option Value:=bif (decide (env.globals=mainGlobals)&&decide (env.scope.kind = .function)&&decide (env.kindOf x=some .globalImplicit)&&!(x==("__debug__" : Str))) then(nsIn K mainGlobals x).join else none
noncomputable def bootV(env:Env)(K:Frag)(x:Str):Option Value:=bif (decide (env.globals=mainGlobals)&&decide (env.scope.kind = .function)&&decide (env.kindOf x=some .globalImplicit)&&!(x==("__debug__" : Str))) then(bif (decide (env.builtins=builtinsNs)&&!(x==("__name__" : Str))&&(nsIn K mainGlobals x).any Option.isNone) then bootBuiltins x else none) else none
theorem bif_some{α:Type}{b:Bool}{o:Option α}{y:α}(h:(bif b then o else none)=some y):b=true/\o=some y:=by
 cases b with
 | true=>exact⟨rfl,h⟩
 | false=>cases h
inductive TopN(env:Env)(x:Str):Prop
 | mk (h1_:env.globals=mainGlobals) (h2_:env.scope.kind = .function) (h3_:env.kindOf x=some .globalImplicit) (h4_:(x==("__debug__" : Str))=false)
theorem topN{x:Str}{α:Type}{o:Option α}{y:α}(h:(bif (decide (env.globals=mainGlobals)&&decide (env.scope.kind = .function)&&decide (env.kindOf x=some .globalImplicit)&&!(x==("__debug__" : Str))) then o else none)=some y):TopN env x/\o=some y:=by
 obtain⟨q,h⟩:=bif_some h
 rw[Bool.and_eq_true,Bool.and_eq_true,Bool.and_eq_true]at q
 exact⟨⟨of_decide_eq_true q.1.1.1,of_decide_eq_true q.1.1.2,of_decide_eq_true q.1.2,Bool.not_eq_true' _▸q.2⟩,h⟩
theorem e_topV{n:Str}{u:Value}{K0:Params->Frag}{Q:V->Loc->Mem->Prop}(hK:W.K=K0 W.w.params)(f:∀ P,topV env (K0 P) n=some u)(h:Q (.glob u) loc mem):TrV W A env outer (eval (.Name n pos) env) loc mem Q E:=by
 obtain⟨⟨a,b,c,d⟩,f⟩:=topN (f W.w.params)
 rw[<-hK]at f
 exact e_topG a b c d (Option.join_eq_some_iff.mp f) h
theorem e_bootV{n:Str}{u:Value}{K0:Params->Frag}{Q:V->Loc->Mem->Prop}(hK:W.K=K0 W.w.params)(f:∀ P,bootV env (K0 P) n=some u)(h:Q (.glob u) loc mem):TrV W A env outer (eval (.Name n pos) env) loc mem Q E:=by
 obtain⟨⟨a,b,c,d⟩,f⟩:=topN (f W.w.params)
 obtain⟨q,f⟩:=bif_some f
 rw[Bool.and_eq_true,Bool.and_eq_true,<-hK]at q
 obtain⟨z,q1,q2⟩:=Option.any_eq_true _ _ |>.mp q.2
 exact e_boot a (of_decide_eq_true q.1.1) b c d (q1.trans (congrArg some (Option.isNone_iff_eq_none.mp q2))) f (fun z=>by have:=q.1.2;rw[z]at this;cases this) h
variable {n:Str}{e:PySem.Expr}{rest:List PySem.Expr}{K0:Params->Frag}
theorem c_topN{a:Addr}{Q:V->Loc->Mem->Prop}(hK:W.K=K0 W.w.params)(f:∀ P,topV env (K0 P) n=some (.ref a))(k:∀ P,keepIn (K0 P) (.ref a)=true)
  (he:starEach (e::rest) env=(false,eval e env)::starEach rest env) (hplain:(backTo pos (starEach rest env)).any (·.1)=false)
  (h:TrL W A env outer (spliced (backTo pos (starEach (e::rest) env))) loc mem (fun xs l m=>Op W A env outer (VR W) (fun vs=>call (.ref a) vs) xs l m Q E) E) :
  TrV W A env outer (eval (.Call (.Name n pos') (e::rest) [] pos) env) loc mem Q E:=
 c_name rfl (e_topV hK f (c_top (by rw[hK];exact k _) he hplain h))
theorem c_topN0{a:Addr}{Q:V->Loc->Mem->Prop}(hK:W.K=K0 W.w.params)(f:∀ P,topV env (K0 P) n=some (.ref a))(k:∀ P,keepIn (K0 P) (.ref a)=true)
  (h:Op W A env outer (VR W) (fun vs=>call (.ref a) vs) [] loc mem Q E) :
  TrV W A env outer (eval (.Call (.Name n pos') [] [] pos) env) loc mem Q E:=
 c_name rfl (e_topV hK f (c_top0 (by rw[hK];exact k _) h))
theorem c_bltN{id:String}{Q:V->Loc->Mem->Prop}(hK:W.K=K0 W.w.params)(f:∀ P,bootV env (K0 P) n=some (.builtin id))
  (he:starEach (e::rest) env=(false,eval e env)::starEach rest env) (hplain:(backTo pos (starEach rest env)).any (·.1)=false)
  (h:TrL W A env outer (spliced (backTo pos (starEach (e::rest) env))) loc mem (fun xs l m=>Op W A env outer (VR W) (fun vs=>call (.builtin id) vs) xs l m Q E) E) :
  TrV W A env outer (eval (.Call (.Name n pos') (e::rest) [] pos) env) loc mem Q E:=c_name rfl (e_bootV hK f (c_builtin he hplain h))
theorem c_typN{T:String}{Q:V->Loc->Mem->Prop}(hK:W.K=K0 W.w.params)(f:∀ P,bootV env (K0 P) n=some (.type T))
  (he:starEach (e::rest) env=(false,eval e env)::starEach rest env) (hplain:(backTo pos (starEach rest env)).any (·.1)=false)
  (h:TrL W A env outer (spliced (backTo pos (starEach (e::rest) env))) loc mem (fun xs l m=>Op W A env outer (VR W) (fun vs=>call (.type T) vs) xs l m Q E) E) :
  TrV W A env outer (eval (.Call (.Name n pos') (e::rest) [] pos) env) loc mem Q E:=c_name rfl (e_bootV hK f (c_type he hplain h))
end
section
variable {W:Wd}{A:Around}{env:Env}{outer:Outs}{loc:Loc}{mem R:Mem}{E:Ex W}{F:Frz}{s:Shared}
end
section
variable {W:Wd}{A:Around}{env:Env}{outer:Outs}{loc:Loc}{mem R:Mem}{E:Ex W}{F:Frz}{s:Shared}
end
section
variable {W:Wd}{A:Around}{env:Env}{outer:Outs}{loc:Loc}{mem R:Mem}{E:Ex W}{F:Frz}{s:Shared}
noncomputable def Shift(W:Wd)(v:V)(m:Mem)(v':V)(m':Mem):Prop:=∀ (env:Env) (outer:Outs) (loc:Loc) (R:Mem) (F:Frz) (s:Shared) (u:Value),Sim W env outer loc m R F s->VR W F v u->∃ F',Incl F F'/\Sim W env outer loc m' R F' s/\VR W F' v' u
theorem Op.shift{f:List Value->Sem Value}{xs:List V}{Q:V->Loc->Mem->Prop}(h:OpV W A env outer f xs loc mem (fun v l m=>∃ v' m',Shift W v m v' m'/\Q v' l m') E):OpV W A env outer f xs loc mem Q E:=fun R F s vs S r=>
 after (i:=.refl _) (RW:=VR W) (Q:=fun _ _ _=>True) (h R F s vs S r) fun u s1 F1 v l1 m1 i1 r1 S1 ⟨v',m',sh,q⟩=>by
  obtain⟨F',i2,S2,r2⟩:=sh _ _ _ _ _ _ _ S1 r1
  exact⟨F',v',l1,m',i1.trans i2,r2,S2,q⟩
theorem Sim.settleAll{m':Mem}{P:Addr->Prop}(S:Sim W env outer loc mem R F s)(hP:∀ a,P a->∃ x,mem a=some x)(hs:Sub m' mem)(hn:∀ a,P a->m' a=none) :
  Sim W env outer loc m' R (fun a o=>F a o\/(P a/\s.heap.get? a=some o)) s:=by
 have Z:=S.z
 have dn:∀ {a},mun mem R a=none->mun m' R a=none:=fun {a} e=>by
  obtain⟨h1,h2⟩:=mun_none e
  have:m' a=none:=by
   cases q:m' a with
   | none=>rfl
   | some y=>rw[hs a y q]at h1;cases h1
  rw[mun_r this];exact h2
 have no:∀ {a},mun mem R a=none->¬ P a:=fun {a} e p=>by
  obtain⟨x,hx⟩:=hP a p
  rw[mun_l hx]at e;cases e
 refine⟨fun a x e=>S.dis a x (hs a x e),?_⟩
 exact {
  frz:=fun a o h=>by rcases h with h|⟨_,h⟩;exact Z.frz a o h;exact h
  base:=fun a o h=>.inl (Z.base a o h)
  memF:=fun a o h=>by
   rcases h with h|⟨p,h⟩
   ·exact dn (Z.memF a o h)
   ·obtain⟨x,hx⟩:=hP a p
    rw[mun_r (hn a p)];exact S.dis a x hx
  memOk:=fun a y h=>by
   have:mun mem R a=some y:=by
    cases q:m' a with
    | some z=>rw[mun_l q]at h;rw[mun_l (hs a z q)];exact h
    | none=>
     rw[mun_r q]at h
     cases q':mem a with
     | none=>rw[mun_r q'];exact h
     | some z=>rw[S.dis a z q']at h;cases h
   obtain⟨o,e,r⟩:=Z.memOk a y this
   exact⟨o,e,r.mono fun _ _ h=>.inl h⟩
  ns:=let ⟨m,z,b⟩:=Z.ns;⟨m,z,LocRel.mono (fun _ _ h=>.inl h) b⟩
  nsF:=⟨fun o h=>by rcases h with h|⟨p,_⟩;exact Z.nsF.1 o h;exact no Z.nsF.2 p,dn Z.nsF.2⟩
  outs:=fun q hq=>by
   obtain⟨z,b,c,e⟩:=Z.outs q hq
   exact⟨z,fun o h=>by rcases h with h|⟨p,_⟩;exact b o h;exact no c p,dn c,e⟩
  low:=Z.low
  memLow:=fun a y h=>by
   cases q:m' a with
   | some z=>exact Z.memLow a z (mun_l (hs a z q))
   | none=>
    rw[mun_r q]at h
    cases q':mem a with
    | none=>exact Z.memLow a y (by rw[mun_r q'];exact h)
    | some z=>rw[S.dis a z q']at h;cases h
  gens:=Z.gens
  os:=Z.os }
theorem Shift.lst{a:Addr}{m m':Mem}{xs:List V}(h:m a=some (.list xs))(hs:Sub m' m)(hn:m' a=none):Shift W (.ref a) m (.lst xs) m':=fun env outer loc R F s u S r=>by
 obtain rfl:=r.isRef
 obtain⟨o,ho,q⟩:=S.memOk _ _ h
 cases q with
 | list q=>
  exact⟨_,fun _ _ h=>.inl h,S.settleAll (P:=fun b=>b=a) (fun b e=>⟨_,e▸h⟩) hs (fun b e=>e▸hn),.lst (.inr ⟨rfl,ho⟩) (q.mono fun _ _ h=>.inl h)⟩
theorem mem_of_lookup'{L:List (Addr×List V)}{a:Addr}{xs:List V}(h:L.lookup a=some xs):(a,xs)∈L:=by
 induction L with
 | nil=>cases h
 | cons p L ih=>
  obtain⟨b,ys⟩:=p
  rw[List.lookup_cons]at h
  split at h
  ·rename_i e;cases h;rw[beq_iff_eq.mp e];exact .head _
  ·exact .tail _ (ih h)
noncomputable def cvt(L:List (Addr×List V)):V->V
 | .ref a=>(match L.lookup a with|some xs=>.lst xs|none=>.ref a)
 | v=>v
theorem Shift.inst{x C d:Addr}{m m':Mem}{es:List (Str×V)}{ep:Nat}(L:List (Addr×List V))(hx:m x=some (.inst C d))(hd:m d=some (.dict es ep))(hL:∀ p∈L,m p.1=some (.list p.2))(hs:Sub m' m)
  (nx:m' x=none) (nd:m' d=none) (nL:∀ p∈L,m' p.1=none):Shift W (.ref x) m (.ins C (es.map fun p=>(p.1,cvt L p.2))) m':=fun env outer loc R F s u S r=>by
 obtain rfl:=r.isRef
 obtain⟨o1,h1,q1⟩:=S.memOk _ _ hx
 obtain⟨o2,h2,q2⟩:=S.memOk _ _ hd
 cases q1.view
 cases q2 with
 | @dict _ ds _ kvs k q=>
  have Lmem:∀ {a xs},L.lookup a=some xs->(a,xs)∈L:=fun e=>mem_of_lookup' e
  refine⟨_,fun _ _ h=>.inl h,S.settleAll (P:=fun b=>b=x\/b=d\/∃ p∈L,p.1=b) ?_ hs ?_,.ins (.inr ⟨.inl rfl,h1⟩) (.inr ⟨.inr (.inl rfl),h2⟩) k ?_⟩
  ·rintro b (rfl|rfl|⟨p,hp,rfl⟩)
   ·exact⟨_,hx⟩
   ·exact⟨_,hd⟩
   ·exact⟨_,hL p hp⟩
  ·rintro b (rfl|rfl|⟨p,hp,rfl⟩)
   ·exact nx
   ·exact nd
   ·exact nL p hp
  ·clear k h2 hd nd
   induction es generalizing kvs with
   | nil=>cases q.view;exact .nil
   | cons e es ih=>
    cases q with
    | @cons kk v val xs vs r1 r2=>
     refine .cons ?_ (ih r2)
     cases v with
     | ref a=>
      obtain rfl:=r1.isRef
      show VR W _ (match L.lookup a with|some xs=>.lst xs|none=>.ref a) _
      cases hl:L.lookup a with
      | none=>exact .ref a
      | some xs=>
       obtain⟨o,ho,q⟩:=S.memOk _ _ (hL _ (Lmem hl))
       cases q with
       | list q=>exact .lst (.inr ⟨.inr (.inr ⟨_,Lmem hl,rfl⟩),ho⟩) (q.mono fun _ _ h=>.inl h)
     | none=>exact r1.mono fun _ _ h=>.inl h
     | bool=>exact r1.mono fun _ _ h=>.inl h
     | int=>exact r1.mono fun _ _ h=>.inl h
     | str=>exact r1.mono fun _ _ h=>.inl h
     | tup=>exact r1.mono fun _ _ h=>.inl h
     | lst=>exact r1.mono fun _ _ h=>.inl h
     | ins=>exact r1.mono fun _ _ h=>.inl h
     | glob=>exact r1.mono fun _ _ h=>.inl h
end
noncomputable def IDENT:Str:="abcdefghijklmnopqrstuvwxyzABCDEFGHIJKLMNOPQRSTUVWXYZ0123456789_-"
noncomputable def chars(x:Str):List Str:=x.cps.toList.map fun c=>⟨#[c]⟩
noncomputable def isIdent(x:Str):Bool:=decide (0<x.cps.size)&&(chars x).all fun c=>strIn c IDENT
noncomputable def rmost(terms:List Str)(syms:List Str):Option Str:=syms.reverse.find? fun s=>terms.contains s
noncomputable def dedup(ys:List Str):List Str:=ys.foldl (fun acc y=>if y∈acc then acc else acc++[y]) []
noncomputable def ruleText(name:Str)(syms:List Str):Str:=if syms.isEmpty then name++(" -> <empty>" : Str) else name++(" -> " : Str)++Txt.join (" " : Str) syms
noncomputable def mapText(name:Str)(syms:List Str):Str:=name++(" -> " : Str)++(PyData.list (syms.map .str)).shown
noncomputable def vStrs(ys:List Str):List V:=ys.map .str
noncomputable def prodAttrs(num:V)(name:Str)(syms:List Str)(prec func file line:V):List (Str×V):=
 [("name",.str name),("prod",.tup (vStrs syms)),("number",num),("func",func),("callable",.none),("file",file),("line",line),("prec",prec),("len",.int syms.length),("usyms",.lst (vStrs (dedup syms))),("lr_items",.lst []),("lr_next",.none),("str",.str (ruleText name syms))]
section
variable {W:Wd}{A:Around}{env:Env}{outer:Outs}{loc:Loc}{mem R:Mem}{E:Ex W}{F:Frz}{s:Shared}
theorem set_field'{x C d:Addr}{es:List (Str×V)}{ep:Nat}{name:Str}{v:V}{Q:Loc->Mem->Prop}(h1:mem x=some (.inst C d))(h2:mem d=some (.dict es ep))
  (hs:findIn W.K (.ref C) "__setattr__" = some (some (.builtin "object.__setattr__"))) (hp:plainOver W.K C=true) (ht:takerIn W.K C name=some none) (hh:hasDictIn W.K C=true) (hz:es.length≤900)
  (h:∀ (m':Mem) (ep':Nat),m' x=some (.inst C d)->m' d=some (.dict (stA es name v) ep')->(∀ a,a≠d->m' a=mem a)->Q loc m') :
  Op W A env outer (fun _ (_ _:Unit)=>True) (fun|[y,z]=>setAttr y name z|_=>pure ()) [.ref x,v] loc mem (fun _=>Q) E:=
 set_field h1 h2 hs hp ht hh hz fun ep'=>h _ ep' (by
  have:x≠d:=fun e=>by rw[e,h2]at h1;cases h1
  rw[mset_ne this];exact h1) (mset_self _ _ _) fun a ha=>mset_ne ha
noncomputable def getOk(K:Frag)(C:Addr)(name:Str):Bool:=plainGet K C name&&hasDictIn K C&&(findIn K (.ref C) name).any (noGet K)
noncomputable def setOk(K:Frag)(C:Addr)(name:Str):Option (Option Value)×Bool×Option (Option Value)×Bool:=(findIn K (.ref C) "__setattr__",plainOver K C,takerIn K C name,hasDictIn K C)
theorem get_o{K0:Params->Frag}{v:V}{C:Addr}{es:List (Str×V)}{name:Str}{expr:Bool}{x:V}{Q:V->Loc->Mem->Prop}(hK:W.K=K0 W.w.params)(f:∀ P,getOk (K0 P) C name=true)(I:Inst W mem v C es)(hl:getA es name=some x)(hv:okV x=true)(h:Q x loc mem) :
  Op W A env outer (VR W) (fun|[y]=>getAttr y name expr|_=>pure .none) [v] loc mem Q E:=by
 have f:=f W.w.params
 rw[<-hK]at f
 unfold getOk at f
 rw[Bool.and_eq_true,Bool.and_eq_true]at f
 cases q:findIn W.K (.ref C) name with
 | none=>rw[q]at f;cases f.2
 | some attr=>rw[q]at f;exact get_field I f.1.1 f.1.2 q f.2 hl hv h
theorem set_o{K0:Params->Frag}{x C d:Addr}{es:List (Str×V)}{ep:Nat}{name:Str}{v:V}{Q:Loc->Mem->Prop}(hK:W.K=K0 W.w.params)(f:∀ P,setOk (K0 P) C name=(some (some (.builtin "object.__setattr__")),true,some none,true))(h1:mem x=some (.inst C d))(h2:mem d=some (.dict es ep))(hz:Nat.ble es.length 900=true)
  (h:∀ (m':Mem) (ep':Nat),m' x=some (.inst C d)->m' d=some (.dict (stA es name v) ep')->(∀ a,a≠d->m' a=mem a)->Q loc m') :
  Op W A env outer (fun _ (_ _:Unit)=>True) (fun|[y,z]=>setAttr y name z|_=>pure ()) [.ref x,v] loc mem (fun _=>Q) E:=by
 have f:=f W.w.params
 rw[<-hK]at f
 exact set_field' h1 h2 (congrArg (·.1) f) (congrArg (·.2.1) f) (congrArg (·.2.2.1) f) (congrArg (·.2.2.2) f) (Nat.le_of_ble_eq_true hz) h
theorem sub_sq{v x:V}{T:String}{xs:List V}{k:Int}{Q:V->Loc->Mem->Prop}(q:Sq mem v T xs)(h0:0≤k)(hk:k<2 ^ 63)(hx:xs[k.toNat]? = some x)(h:Q x loc mem) :
  ∃ T id,Ty mem v T/\typeLookup (.type T) "__getitem__" = pure (some (.builtin id))/\OpV W A env outer (fun|[x,y]=>getItem x y|_=>pure .none) [v,.int k] loc mem Q E:=by
 rcases q.kind with rfl|rfl
 ·exact⟨_,_,q.ty,PySem.F.slot_list_getitem.lookup,getItem_sq q h0 hk hx h⟩
 ·exact⟨_,_,q.ty,PySem.F.slot_tuple_getitem.lookup,getItem_sq q h0 hk hx h⟩
theorem sub_dict{a:Addr}{es:List (Str×V)}{ep:Nat}{k:Str}{x:V}{Q:V->Loc->Mem->Prop}(hm:mem a=some (.dict es ep))(hx:getA es k=some x)(h:Q x loc mem) :
  ∃ T id,Ty mem (.ref a) T/\typeLookup (.type T) "__getitem__" = pure (some (.builtin id))/\OpV W A env outer (fun|[x,y]=>getItem x y|_=>pure .none) [.ref a,.str k] loc mem Q E:=
 ⟨_,_,.dict hm,PySem.F.slot_dict_getitem.lookup,getItem_dict hm hx h⟩
theorem sub_str{x:Str}{i:Int}{c:Nat}{Q:V->Loc->Mem->Prop}(hr:(decide (i < -(2 ^ 63:Int)) || decide (i≥2 ^ 63))=false)(hc:(seqIndex? i x.length).bind (x.cps[·]?)=some c)(h:Q (.str ⟨#[c]⟩) loc mem) :
  ∃ T id,Ty mem (.str x) T/\typeLookup (.type T) "__getitem__" = pure (some (.builtin id))/\OpV W A env outer (fun|[x,y]=>getItem x y|_=>pure .none) [.str x,.int i] loc mem Q E:=
 ⟨_,_,.str x,PySem.F.slot_str_getitem.lookup,getItem_s hr hc h⟩
theorem ge_ii{a b:Int}{Q:V->Loc->Mem->Prop}(h:Q (.bool (decide (b≤a))) loc mem):OpV W A env outer (fun|[x,y]=>compareOp .GtE x y|_=>pure .none) [.int a,.int b] loc mem Q E:=op2 fun R F s v u S r1 r2=>by
 obtain⟨_,rfl⟩:=r1.isInt;obtain⟨_,rfl⟩:=r2.isInt;exact PyProof.Rows.ge_int (Post.mk (.bool _) S h)
theorem Sq.mono{m m':Mem}{v:V}{T:String}{xs:List V}(q:Sq m v T xs)(h:Sub m m'):Sq m' v T xs:=by
 cases q with
 | lst xs=>exact .lst xs
 | tup xs=>exact .tup xs
 | own e=>exact .own (h _ _ e)
noncomputable def TrJ(W:Wd)(A:Around)(env:Env)(outer:Outs):List PySem.Expr->Str->Loc->Mem->(V->Loc->Mem->Prop)->Ex W->Prop
 | [],acc,loc,mem,Q,_=>Q (.str acc) loc mem
 | e::es,acc,loc,mem,Q,E=>TrV W A env outer (eval e env) loc mem (fun v l m=>∃ y,v = .str y/\(acc++y).length≤sizeLine/\TrJ W A env outer es (acc++y) l m Q E) E
theorem TrJ.run:∀ {es:List PySem.Expr} {acc:Str} {loc:Loc} {mem:Mem} {Q:V->Loc->Mem->Prop} {F0 F:Frz} {s:Shared},TrJ W A env outer es acc loc mem Q E->acc.length≤sizeLine->Incl F0 F->Sim W env outer loc mem R F s->
  Joins (model W.prog W.w) A (E.p R F0) (evalEach es env) acc (fun out s₁=>out.length≤sizeLine/\Post W env outer (VR W) R F0 Q (.str out s₁.toks) { s₁ with toks:=s₁.toks+1 }) s
 | [],_,_,_,_,_,F,_,h,hz,i,S=>⟨hz,F,_,_,_,i,.str _ _,S.tick,h⟩
 | e::es,acc,_,_,_,_,F,_,h,hz,i,S=>by
  show wpAny _ _ _ _ _ _
  refine after (i:=‹_›) (RW:=VR W) (Q:=fun _ _ _=>True) (h R F _ S) fun u s1 F1 v l1 m1 i1 r1 S1 ⟨y,e1,z,h1⟩=>?_
  subst e1
  obtain⟨_,rfl⟩:=r1.isStr
  exact⟨y,_,rfl,z,TrJ.run h1 z (i.trans i1) S1⟩
theorem e_joined{v₁ v₂:PySem.Expr}{rest:List PySem.Expr}{pos:Pos}{Q:V->Loc->Mem->Prop}(h:TrJ W A env outer (v₁::v₂::rest) Str.empty loc mem Q E):TrV W A env outer (eval (.JoinedStr (v₁::v₂::rest) pos) env) loc mem Q E:=fun R F s S=>
 wpAny_JoinedStr (TrJ.run h (by decide) (Incl.refl F) S)
noncomputable def ShowK(W:Wd)(A:Around)(env:Env)(outer:Outs)(v:V)(loc:Loc)(mem:Mem)(Q:V->Loc->Mem->Prop)(E:Ex W):Prop:=
 ∀ R F s v',Sim W env outer loc mem R F s->VR W F v v'->wpAny (model W.prog W.w) A (convS v') (fun r s₂=>wpAny (model W.prog W.w) A (formatField r Str.empty) (Post W env outer (VR W) R F Q) (E.p R F) s₂) (E.p R F) s
theorem e_fv_s{value:PySem.Expr}{pos:Pos}{Q:V->Loc->Mem->Prop}(h:TrV W A env outer (eval value env) loc mem (fun v l m=>ShowK W A env outer v l m Q E) E) :
  TrV W A env outer (eval (.FormattedValue value 115 none pos) env) loc mem Q E:=fun R F s S=>
 wpAny_FormattedValue_s (after (i:=.refl _) (RW:=VR W) (Q:=fun _ _ _=>True) (h R F s S) fun u s1 F1 v l1 m1 i1 r1 S1 h1=>
  wpAny_mono (h1 R F1 s1 u S1 r1) (fun _ _ h=>wpAny_mono h (fun _ _ p=>p.weaken i1) fun _ _ e=>E.up i1 e) fun _ _ e=>E.up i1 e)
theorem show_str{x:Str}{Q:V->Loc->Mem->Prop}(hz:x.length≤sizeLine)(h:Q (.str x) loc mem):ShowK W A env outer (.str x) loc mem Q E:=fun R F s v S r=>by
 obtain⟨_,rfl⟩:=r.isStr
 exact SB.convS_str (fun t' k=>PyProof.Rows.formatField_str (fun t2 k2=>Post.mk (.str _ _) S.tick h) hz) hz
theorem show_list{v:V}{xs:List V}{n:Nat}{Q:V->Loc->Mem->Prop}(hg:A.guards=some [])(q:Sq mem v "list" xs)(hxs:xs.all (isD n)=true)(hu:A.units+(PyData.list (xs.map (toPy n))).depth+5<cLine)
  (hd:(PyData.list (xs.map (toPy n))).shown.length≤sizeLine) (hs:(PyData.list (xs.map (toPy n))).showable=true) (hnd:(PyData.list (xs.map (toPy n))).hasDict=false)
  (h:Q (.str (PyData.list (xs.map (toPy n))).shown) loc mem):ShowK W A env outer v loc mem Q E:=fun R F s v' S r=>by
 obtain⟨as,ra⟩:=q.reads hxs S r
 obtain⟨l,ls,ln,rfl,_,_⟩:=q.at S r
 refine convS_of_reads ra hs (fun e=>by rw[hnd]at e;cases e) hg (by lia) (fun _ _ e=>e) (fun h' u tk hk=>?_) hd
 exact PyProof.Rows.formatField_str (fun t2 k2=>Post.mk (.str _ _) (S.grow (t:=k2) (d:=s.drawn) hk) h) hd
theorem isD_strs{n:Nat}{ys:List Str}(h:ys.all PyData.strOk=true):(vStrs ys).all (isD n)=true:=by
 unfold vStrs
 rw[List.all_map,List.all_eq_true]
 intro y hy
 have:=List.all_eq_true.mp h y hy
 cases n<;>exact this
end
section
variable {W:Wd}{A:Around}{env:Env}{outer:Outs}{loc:Loc}{mem R:Mem}{E:Ex W}{F:Frz}{s:Shared}
theorem new_own'{xs:List V}{Q:V->Loc->Mem->Prop}(hz:xs.length≤sizeLine)(h:∀ a m',mem a=none->m' a=some (.list xs)->(∀ b,b≠a->m' b=mem b)->Q (.ref a) loc m'):OpV W A env outer newList xs loc mem Q E:=
 new_own hz fun a ha=>h a _ ha (mset_self _ _ _) fun b hb=>mset_ne hb
theorem append_own'{a:Addr}{xs:List V}{x:V}{Q:V->Loc->Mem->Prop}(h1:mem a=some (.list xs))(hz:xs.length≤sizeLine)(h:∀ m',m' a=some (.list (xs++[x]))->(∀ b,b≠a->m' b=mem b)->Q .none loc m') :
  OpV W A env outer (fun vs=>call (.builtin "list.append") vs) [.ref a,x] loc mem Q E:=append_own h1 hz (h _ (mset_self _ _ _) fun b hb=>mset_ne hb)
theorem e_dict0'{pos:Pos}{Q:V->Loc->Mem->Prop}(h:∀ a m',mem a=none->m' a=some (.dict [] 0)->(∀ b,b≠a->m' b=mem b)->Q (.ref a) loc m'):TrV W A env outer (eval (.Dict [] [] pos) env) loc mem Q E:=
 e_dict0 fun a ha=>h a _ ha (mset_self _ _ _) fun b hb=>mset_ne hb
theorem setItem_dict'{a:Addr}{es:List (Str×V)}{ep:Nat}{k:Str}{x:V}{Q:Loc->Mem->Prop}(hm:mem a=some (.dict es ep))(hz:es.length≤sizeLine)(h:∀ (m':Mem) (ep':Nat),m' a=some (.dict (stA es k x) ep')->(∀ b,b≠a->m' b=mem b)->Q loc m') :
  OpU W A env outer (fun|[x,y,z]=>setItem x y z|_=>pure ()) [.ref a,.str k,x] loc mem Q E:=setItem_dict hm hz fun ep'=>h _ ep' (mset_self _ _ _) fun b hb=>mset_ne hb
theorem Sub.new{m0 m m':Mem}{a:Addr}(h:Sub m0 m)(ha:m a=none)(hf:∀ b,b≠a->m' b=m b):Sub m0 m':=fun b y e=>by
 have:=h b y e
 rw[hf b (nex this ha)];exact this
theorem Sub.upd{m0 m m':Mem}{a:Addr}(h:Sub m0 m)(ha:m0 a=none)(hf:∀ b,b≠a->m' b=m b):Sub m0 m':=fun b y e=>by
 rw[hf b (nex e ha)];exact h b y e
theorem Sub.none{m0 m:Mem}{a:Addr}(h:Sub m0 m)(ha:m a=none):m0 a=none:=by
 cases q:m0 a with
 | none=>rfl
 | some y=>rw[h a y q]at ha;cases ha
end
theorem Calm.fit{A:Around}{d u:Nat}(c:Calm A d u)(h:u≤9800):A.units+65<cLine:=Nat.lt_of_le_of_lt (Nat.add_le_add_right (Nat.le_trans c.units h) 65) (by decide)
theorem Calm.room{A:Around}{d u:Nat}(c:Calm A d u)(h:d<1000):A.depth<recursionLimit:=Nat.lt_of_le_of_lt c.depth h
noncomputable def notRef:V->Bool
 | .ref _=>false
 | _=>true
theorem cvt_id(L:List (Addr×List V)){v:V}(h:notRef v=true):cvt L v=v:=by cases v<;>first|rfl|cases h
theorem sum_len{ys:List Str}{B:Nat}(h:∀ y∈ys,y.cps.size≤B):(ys.map (·.length)).sum≤ys.length*B:=by
 induction ys with
 | nil=>simp
 | cons y ys ih=>
  have h1:y.length≤B:=h y (.head _)
  have h2:=ih fun z hz=>h z (.tail _ hz)
  simp only [List.map_cons,List.sum_cons,List.length_cons,Nat.succ_mul]
  lia
theorem join_len{ys:List Str}{B:Nat}(h:∀ y∈ys,y.cps.size≤B):(Txt.join (" " : Str) ys).length≤ys.length*(B+1):=by
 show(PySem.Builtin.Str.glued (" " : Str) ys).length≤_
 rw[StrLaws.glued_eq_join]
 refine Nat.le_trans (StrLaws.join_length_le _ _) ?_
 have:=sum_len h
 have e:(Str.ofString " ").length=1:=by decide +kernel
 rw[e,Nat.mul_add]
 lia
theorem empty_app(x:Str):Str.empty++x=x:=KPc.empty_app x
theorem len_app(x y:Str):(x++y).length=x.length+y.length:=strLen_append x y
theorem dedup_snoc(ys:List Str)(y:Str):dedup (ys++[y])=if y∈dedup ys then dedup ys else dedup ys++[y]:=by unfold dedup;rw[List.foldl_append];rfl
theorem dedup_sub(ys:List Str):∀ y∈dedup ys,y∈ys:=by
 unfold dedup
 suffices h:∀ (ys acc:List Str) (S:List Str),(∀ y∈acc,y∈S)->(∀ y∈ys,y∈S)->∀ y∈ys.foldl (fun acc y=>if y∈acc then acc else acc++[y]) acc,y∈S from h ys [] ys (fun y h=>(nomatch h)) fun y h=>h
 intro ys
 induction ys with
 | nil=>intro acc S h1 h2 y hy;exact h1 y hy
 | cons z ys ih=>
  intro acc S h1 h2
  refine ih _ S ?_ fun y hy=>h2 y (.tail _ hy)
  intro y hy
  dsimp only at hy
  split at hy
  ·exact h1 y hy
  ·rcases List.mem_append.mp hy with h|h
   ·exact h1 y h
   ·rw[List.mem_singleton.mp h];exact h2 z (.head _)
theorem dedup_len(ys:List Str):(dedup ys).length≤ys.length:=by
 unfold dedup
 suffices h:∀ (ys acc:List Str),(ys.foldl (fun acc y=>if y∈acc then acc else acc++[y]) acc).length≤acc.length+ys.length by simpa using h ys []
 intro ys
 induction ys with
 | nil=>intro acc;exact Nat.le_refl _
 | cons z ys ih=>
  intro acc
  refine Nat.le_trans (ih _) ?_
  dsimp only
  split<;>simp<;>lia
theorem vStrs_mem{y:Str}{ys:List Str}:V.str y∈vStrs ys↔y∈ys:=by
 unfold vStrs
 rw[List.mem_map]
 exact⟨fun⟨z,hz,e⟩=>by cases e;exact hz,fun h=>⟨y,h,rfl⟩⟩
theorem vStrs_get{ys:List Str}{k:Nat}{y:Str}(e:ys[k]? = some y):(vStrs ys)[k]? = some (.str y):=by unfold vStrs;rw[List.getElem?_map,e];rfl
theorem vStrs_len(ys:List Str):(vStrs ys).length=ys.length:=by simp[vStrs]
theorem take_snoc{α:Type}{ys:List α}{k:Nat}{y:α}(e:ys[k]? = some y):ys.take (k+1)=ys.take k++[y]:=by
 have hlt:k<ys.length:=by rw[List.getElem?_eq_some_iff]at e;exact e.1
 have hget:ys[k]=y:=by rw[List.getElem?_eq_getElem hlt]at e;exact Option.some.inj e
 rw[List.take_succ_eq_append_getElem hlt,hget]
theorem kst{k i n:Nat}(h:k+i=n)(hi:i<n):k - 1<k/\k - 1+(i+1)=n:=by omega
noncomputable abbrev hdK:Params->Frag:=lawHeap
noncomputable abbrev aIsId:Addr:=39
noncomputable abbrev aRmost:Addr:=111
noncomputable abbrev aGrammar:Addr:=248
noncomputable abbrev aProd:Addr:=100
noncomputable abbrev aProdInit:Addr:=62
noncomputable abbrev aGInit:Addr:=137
noncomputable abbrev aAdd:Addr:=166
noncomputable abbrev aStart:Addr:=174
noncomputable def isId.body:List Stmt:=stBody (stAt pw.main.body 3)
noncomputable def isId.scope:Scope:=stScope (stAt pw.main.body 3)
noncomputable def isId.params:Arguments:=stArgs (stAt pw.main.body 3)
noncomputable def isId.code:Value:=(Value.ref 38)
theorem isId.at(P:Params):List.lookup 39 (lawHeap P)=some (Obj.mk (Value.type "function") none (Data.func (fnOf (Str.ofString "_is_identifier") (Str.ofString "_is_identifier") isId.params isId.body isId.scope (Value.none) (Value.none) (Value.none) (Value.str (Str.ofString "ply.yacc") 194) (none) isId.code (Value.none))) #[]):=by kernel_rfl
noncomputable def rmostF.body:List Stmt:=stBody (stAt pw.main.body 7)
noncomputable def rmostF.scope:Scope:=stScope (stAt pw.main.body 7)
noncomputable def rmostF.params:Arguments:=stArgs (stAt pw.main.body 7)
noncomputable def rmostF.code:Value:=(Value.ref 110)
theorem rmostF.at(P:Params):List.lookup 111 (lawHeap P)=some (Obj.mk (Value.type "function") none (Data.func (fnOf (Str.ofString "rightmost_terminal") (Str.ofString "rightmost_terminal") rmostF.params rmostF.body rmostF.scope (Value.none) (Value.none) (Value.none) (Value.str (Str.ofString "ply.yacc") 194) (none) rmostF.code (Value.none))) #[]):=by kernel_rfl
noncomputable def prodInit.body:List Stmt:=stBody (stAt (stBody (stAt pw.main.body 6)) 2)
noncomputable def prodInit.scope:Scope:=stScope (stAt (stBody (stAt pw.main.body 6)) 2)
noncomputable def prodInit.params:Arguments:=stArgs (stAt (stBody (stAt pw.main.body 6)) 2)
noncomputable def prodInit.code:Value:=(Value.ref 61)
theorem prodInit.at(P:Params):List.lookup 62 (lawHeap P)=some (Obj.mk (Value.type "function") none (Data.func (fnOf (Str.ofString "__init__") (Str.ofString "Production.__init__") prodInit.params prodInit.body prodInit.scope (Value.ref 55) (Value.none) (Value.none) (Value.str (Str.ofString "ply.yacc") 194) (none) prodInit.code (Value.none))) #[]):=by kernel_rfl
noncomputable def gInit.body:List Stmt:=stBody (stAt (stBody (stAt pw.main.body 9)) 0)
noncomputable def gInit.scope:Scope:=stScope (stAt (stBody (stAt pw.main.body 9)) 0)
noncomputable def gInit.params:Arguments:=stArgs (stAt (stBody (stAt pw.main.body 9)) 0)
noncomputable def gInit.code:Value:=(Value.ref 136)
theorem gInit.at(P:Params):List.lookup 137 (lawHeap P)=some (Obj.mk (Value.type "function") none (Data.func (fnOf (Str.ofString "__init__") (Str.ofString "Grammar.__init__") gInit.params gInit.body gInit.scope (Value.none) (Value.none) (Value.none) (Value.str (Str.ofString "ply.yacc") 194) (none) gInit.code (Value.none))) #[]):=by kernel_rfl
noncomputable def addP.body:List Stmt:=stBody (stAt (stBody (stAt pw.main.body 9)) 4)
noncomputable def addP.scope:Scope:=stScope (stAt (stBody (stAt pw.main.body 9)) 4)
noncomputable def addP.params:Arguments:=stArgs (stAt (stBody (stAt pw.main.body 9)) 4)
noncomputable def addP.code:Value:=(Value.ref 165)
theorem addP.at(P:Params):List.lookup 166 (lawHeap P)=some (Obj.mk (Value.type "function") none (Data.func (fnOf (Str.ofString "add_production") (Str.ofString "Grammar.add_production") addP.params addP.body addP.scope (Value.ref 159) (Value.none) (Value.none) (Value.str (Str.ofString "ply.yacc") 194) (none) addP.code (Value.none))) #[]):=by kernel_rfl
noncomputable def setStart.body:List Stmt:=stBody (stAt (stBody (stAt pw.main.body 9)) 5)
noncomputable def setStart.scope:Scope:=stScope (stAt (stBody (stAt pw.main.body 9)) 5)
noncomputable def setStart.params:Arguments:=stArgs (stAt (stBody (stAt pw.main.body 9)) 5)
noncomputable def setStart.code:Value:=(Value.ref 173)
theorem setStart.at(P:Params):List.lookup 174 (lawHeap P)=some (Obj.mk (Value.type "function") none (Data.func (fnOf (Str.ofString "set_start") (Str.ofString "Grammar.set_start") setStart.params setStart.body setStart.scope (Value.ref 167) (Value.none) (Value.none) (Value.str (Str.ofString "ply.yacc") 194) (none) setStart.code (Value.none))) #[]):=by kernel_rfl
section
variable {W:Wd}{A:Around}{env:Env}{outer:Outs}{loc:Loc}{mem:Mem}{E:Ex W}
theorem isId_spec{Q:V->Loc->Mem->Prop}(hK:W.K=hdK W.w.params)(c:Calm A 900 8000){x:Str}(hz:x.cps.size≤1000)
  (h:Q (.bool (isIdent x)) loc mem):OpV W A env outer (fun vs=>call (.ref aIsId) vs) [.str x] loc mem Q E:=by
 refine call_fn (bs:=[("s",.str x)]) (by rw[hK];exact isId.at _) (by rw[hK];rfl) (c.room (by decide)) ?_ (by intro y hy;simp at hy;subst hy;rfl) (by decide) rfl rfl rfl ?_
 ·intro F s vs hb hk r
  obtain⟨_,_,r1,r2,rfl⟩:=r.isCons
  obtain rfl:=r2.isNil
  exact⟨_,BindsTo.of_eq rfl,.cons r1 .nil⟩
 ·intro L outer
  have cd:=c.deeper (envX "_is_identifier" isId.scope L 39 isId.code [])
  (refine nameS ?_;intro aa vv oo qq ee;refine s_cons ?_);refine s_ret ?_;refine e_and2 ?_;refine e_cmp rfl ?_;refine c_bltN hK (fun _=>rfl) rfl rfl ?_;refine a_pus rfl ?_
  refine len_s (by show(x.cps.size:Int)<_;lia) ?_
  refine e_int ?_;refine gt_ii ?_;refine tr_bool ?_
  refine⟨fun hb=>?_,fun hb=>?_⟩
  ·have hb:0<x.cps.size:=by have:=of_decide_eq_true hb;show 0<x.cps.size;exact Int.ofNat_lt.mp this
   refine c_bltN hK (fun _=>rfl) rfl rfl ?_;refine a_cons rfl ?_;refine e_listcomp rfl (by decide) rfl (by decide) (fun _=>rfl) ?_;refine pu rfl ?_
   refine comp_map (itr_str cd.handled) ((chars x).map .str) (fun m i _ hi=>?_) (by simp[chars];have:(1000:Nat)≤sizeLine:=(by decide);lia) (fun v=>match v with|.str c=>some (.bool (strIn c IDENT))|_=>none) ?_ ?_
   ·simp[strItem,chars,Function.comp_def]
   ·intro C outer' i v hv
    obtain⟨ch,rfl⟩:∃ ch,v = .str ch:=by
     rw[List.getElem?_map]at hv
     cases q:(chars x)[i]? with
     | none=>rw[q]at hv;cases hv
     | some ch=>rw[q]at hv;exact⟨ch,(Option.some.inj hv).symm⟩
    refine asg_name1 rfl rfl ?_;refine e_cmp1 rfl rfl ?_;refine e_top (v:=.str _) rfl rfl rfl rfl (by rw[hK];rfl) (fun _ _=>.str _ _) ?_;refine in_ss ?_
    exact⟨rfl,sub_refl _⟩
   ·intro D hD
    refine a_nil ?_
    refine all_bools (bs:=(chars x).map fun c=>strIn c IDENT) cd.handled (.own (by rw[mset_self];congr 2;simp[List.filterMap_map,Function.comp_def])) ?_
    skip
    refine⟨mem,sub_mset hD (sub_refl _),?_⟩
    have e:isIdent x=(List.map (fun c=>strIn c IDENT) (chars x)).all id:=by
     unfold isIdent;rw[decide_eq_true hb,Bool.true_and,List.all_map];rfl
    rw[e]at h;exact h
  ·have hb:¬ 0<x.cps.size:=by have:=of_decide_eq_false hb;exact fun q=>this (Int.ofNat_lt.mpr q)
   skip
   refine⟨mem,sub_refl _,?_⟩
   have e:isIdent x=decide (0<(x.length:Int)):=by
    unfold isIdent;rw[decide_eq_false hb,Bool.false_and];exact(decide_eq_false (fun q=>hb (Int.ofNat_lt.mp q))).symm
   rw[e]at h;exact h
inductive P2A_J1(mem:Mem)(sy:Addr)(te:Addr)(syms:List Str)(es:List (Str×V))(k:Nat)(l:Loc)(m:Mem):Prop
 | mk (h1_:m=mem) (h2_:LSub [("terminals",.ref te),("symbols",.ref sy),("i",.int ((k:Int) - 1))] l) (h3_:k≤syms.length) (h4_:rmost (es.map (·.1)) syms=rmost (es.map (·.1)) (syms.take k))
theorem rmost_spec{Q:V->Loc->Mem->Prop}(hK:W.K=hdK W.w.params)(c:Calm A 900 8000){sy te:Addr}{syms:List Str}{es:List (Str×V)}{ep:Nat}(hs:mem sy=some (.list (vStrs syms)))(ht:mem te=some (.dict es ep))(hz:syms.length≤1000)
  (h:Q (match rmost (es.map (·.1)) syms with|some s=>.str s|none=>.none) loc mem):OpV W A env outer (fun vs=>call (.ref aRmost) vs) [.ref sy,.ref te] loc mem Q E:=by
 refine call_fn (bs:=[("symbols",.ref sy),("terminals",.ref te)]) (by rw[hK];exact rmostF.at _) (by rw[hK];rfl) (c.room (by decide)) ?_ (by intro y hy;simp at hy;rcases hy with rfl|rfl<;>rfl) (by decide) rfl rfl rfl ?_
 ·intro F s vs hb hk r
  obtain⟨_,_,r1,r2,rfl⟩:=r.isCons
  cases r2 with
  | cons r2 r3=>
   cases r3
   exact⟨_,BindsTo.of_eq rfl,.cons r1 (.cons r2 .nil)⟩
 ·intro L outer
  have cd:=c.deeper (envX "rightmost_terminal" rmostF.scope L 111 rmostF.code [])
  (refine nameS ?_;intro aa vv oo qq ee;refine s_cons ?_);refine s_assign1 rfl rfl rfl ?_;refine e_binop ?_;refine c_bltN hK (fun _=>rfl) rfl rfl ?_;refine a_pus rfl ?_
  refine len_sq (.own hs) (by simp[vStrs];lia) ?_
  refine e_int ?_;refine sub_ii ?_;refine s_cons ?_
  have lk:∀ (k:Nat) (y:Str),syms[k]? = some y->(vStrs syms)[k]? = some (.str y):=fun k y e=>by unfold vStrs;rw[List.getElem?_map,e];rfl
  have stp:∀ (k:Nat) (y:Str),syms[k]? = some y->rmost (es.map (·.1)) (syms.take (k+1))=if (es.map (·.1)).contains y then some y else rmost (es.map (·.1)) (syms.take k):=fun k y e=>by
   have hlt:k<syms.length:=by rw[List.getElem?_eq_some_iff]at e;exact e.1
   have hget:syms[k]=y:=by rw[List.getElem?_eq_getElem hlt]at e;exact Option.some.inj e
   unfold rmost
   rw[List.take_succ_eq_append_getElem hlt,hget,List.reverse_append,List.reverse_singleton,List.singleton_append,List.find?_cons]
   cases (es.map (·.1)).contains y<;>rfl
  have hin:∀ y,(getA es y).isSome=(es.map (·.1)).contains y:=fun y=>by
   unfold getA
   rw[Option.isSome_map,Bool.eq_iff_iff,List.find?_isSome,List.contains_iff_mem,List.mem_map]
   constructor
   ·rintro⟨p,hp,e⟩;exact⟨p,hp,of_decide_eq_true e⟩
   ·rintro⟨p,hp,e⟩;exact⟨p,hp,decide_eq_true e⟩
  let J1:Nat->Loc->Mem->Prop:=P2A_J1 mem sy te syms es
  refine s_while J1 ?_ syms.length ⟨rfl,by rw[show(vStrs syms).length=syms.length by simp[vStrs]];rfl,Nat.le_refl _,by rw[List.take_length]⟩
  rintro k l m ⟨rfl,hl,hk,hr⟩
  refine Tr.locs hl ?_
  refine b_cmp2 rfl rfl rfl ?_
  refine ge_ii ?_
  refine tr_bool ?_
  refine⟨fun hb=>?_,fun hb=>?_⟩
  ·have hb:=of_decide_eq_true hb
   obtain⟨k,rfl⟩:∃ j,k=j+1:=⟨k - 1,by lia⟩
   have hlt:k<syms.length:=by lia
   have hget:syms[k]? = some syms[k]:=List.getElem?_eq_getElem hlt
   have st:=stp k _ hget
   have e1:(((k+1:Nat):Int) - 1)=(k:Int):=by lia
   rw[e1]
   (refine nameQ ?_;intro qq ee;refine s_cons ?_);refine s_if ?_;refine b_cmp rfl ?_;refine e_sub2 (fun _ _=>rfl) rfl rfl ?_
   refine sub_sq (.own hs) (Int.natCast_nonneg _) (by lia) (by rw[Int.toNat_natCast];exact lk k _ hget) ?_
   refine pu rfl ?_
   refine in_dict ht ?_
   refine tr_bool ?_
   refine⟨fun hb2=>?_,fun hb2=>?_⟩
   ·(refine nameQ ?_;intro qq ee;refine s_cons ?_);refine s_ret ?_;refine e_sub2 (fun _ _=>rfl) rfl rfl ?_
    refine sub_sq (.own hs) (Int.natCast_nonneg _) (by lia) (by rw[Int.toNat_natCast];exact lk k _ hget) ?_
    skip
    refine⟨m,sub_refl _,?_⟩
    rw[hin]at hb2
    rw[hr,st,if_pos hb2]at h
    exact h
   ·refine s_nil ?_;refine s_cons ?_;refine s_aug rfl rfl rfl ?_;refine e_int ?_;refine isub_ii ?_;refine st_local rfl rfl ?_;refine s_nil ?_
    rw[hin]at hb2
    refine⟨k,by lia,rfl,rfl,by lia,?_⟩
    rw[hr,st,if_neg (by rw[hb2];exact Bool.false_ne_true)]
  ·have hb:=of_decide_eq_false hb
   obtain rfl:k=0:=by lia
   refine s_nil ?_;refine s_cons ?_;refine s_ret1 rfl ?_
   refine⟨m,sub_refl _,?_⟩
   rw[hr]at h
   exact h
end
noncomputable def fmC:List Nat->List Nat
 | []=>[]
 | [_]=>[]
 | a::c::r=>if a=37 then(if c=37 then fmC r else c::fmC r) else fmC (c::r)
noncomputable def fmOk:List Nat->Bool
 | []=>true
 | [a]=>a != 37
 | a::c::r=>if a=37 then(c==115 || c==114 || c==100 || c==37)&&fmOk r else fmOk (c::r)
theorem fm_skip{a:Nat}{r:List Nat}(h:a≠37):fmC (a::r)=fmC r/\fmOk (a::r)=fmOk r:=by
 cases r with
 | nil=>exact⟨rfl,by show(a != 37)=true;simpa using h⟩
 | cons c r=>exact⟨by rw[fmC,if_neg h],by rw[fmOk,if_neg h]⟩
theorem fm_drop(r:List Nat):fmC (r.dropWhile (· != 37))=fmC r/\fmOk (r.dropWhile (· != 37))=fmOk r:=by
 induction r with
 | nil=>exact⟨rfl,rfl⟩
 | cons a r ih=>
  rw[List.dropWhile_cons]
  by_cases h:a=37
  ·simp[h]
  ·have e:(a != 37)=true:=by simpa using h
   rw[if_pos e,(fm_skip h).1,(fm_skip h).2];exact ih
theorem span_loop(p:Nat->Bool):∀ l acc:List Nat,List.span.loop p l acc=(acc.reverse++l.takeWhile p,l.dropWhile p)
 | [],acc=>by simp[List.span.loop]
 | a::l,acc=>by
  rw[List.span.loop]
  cases h:p a with
  | true=>simp[span_loop p l,h]
  | false=>simp[h]
theorem span_eq(p:Nat->Bool)(l:List Nat):l.span p=(l.takeWhile p,l.dropWhile p):=span_loop p l []
section
variable {M:Model}{A:Around}{E:Value->Shared->Prop}
noncomputable def ConvOk(M:Model)(A:Around)(E:Value->Shared->Prop)(I:Shared->Prop)(c:Nat)(v:Value):Prop:=
 if c=100 then ∃ n t,v = .int n t/\0≤n/\n<10 ^ 10 else
  (∀ s (Q:Value->Shared->Prop),I s->(∀ x t s',x.length≤20000->I s'->Q (.str x t) s')->wpAny M A (Builtin.Str.strOf v) Q E s)/\
  (c=114->∃ x t,v = .str x t/\(reprText x).length≤20000)
inductive ConvAll(M:Model)(A:Around)(E:Value->Shared->Prop)(I:Shared->Prop):List Nat->List Value->Prop
 | nil:ConvAll M A E I [] []
 | cons {c:Nat} {v:Value} {cs:List Nat} {vs:List Value}:ConvOk M A E I c v->ConvAll M A E I cs vs->ConvAll M A E I (c::cs) (v::vs)
end
theorem repr_under_str{prog:Program}{w:World}{A:Around}{E:Value->Shared->Prop}{s:Shared}{n:Nat}{x:Str}{t:Tok}{Q:Value->Shared->Prop}(hz:(reprText x).length≤sizeLine)(h:Q (.str (reprText x) s.toks) { s with toks:=s.toks+1 }):wpAny (model prog w) A (pyReprObjUnder n (.str x t)) Q E s:=by
 unfold pyReprObjUnder pyReprObjBy
 refine wpAny_bind (wpAny_cRoomFor_byValue rfl ?_)
 refine wpAny_bind (wpAny_specialOf (name:=Str.ofString "__repr__") (typeIs_str s x t) PySem.F.slot_str_repr.lookup ?_)
 refine wpAny_bind (wpAny_callSpecialIfBoundBy?_slotG (name:=Str.ofString "__repr__") (typeIs_str s x t) PySem.F.slot_str_repr.toG ?_)
 show wpAny _ A (call (.builtin "str.__repr__") [.str x t]) _ _ _
 refine call_gives PySem.F.slot_str_repr (typeIs_str s x t) PySem.F.entry_str_repr (PySem.F.args_str_repr_1 _) (gives_str_repr x t) ⟨hz,?_⟩
 exact wpAny_bind (wpAny_isInstance (T:="str") (b:=true) rfl isSubtype_str_str (wpAny_pure h))
structure Wrt(w:Builtin.Str.Writer)(N:Nat):Prop where
 whole:∀ v,w.whole=some v->∃ x t,v = .str x t/\x.length≤N
 total:w.total≤N
 text:w.text.length≤N
theorem wrt_add{w:Builtin.Str.Writer}{x:Str}{N K:Nat}{o:Option Value}(g:Wrt w N)(hx:x.length≤K)(ho:∀ v,o=some v->∃ x t,v = .str x t/\x.length≤K):Wrt (w.add x o) (N+K):=by
 have hl:∀ v,w.whole=some v->∃ x t,v = .str x t/\x.length≤N+K:=fun v e=>let ⟨x,t,a,b⟩:=g.whole v e;⟨x,t,a,Nat.le_trans b (Nat.le_add_right _ _)⟩
 unfold Builtin.Str.Writer.add
 split
 ·exact⟨hl,Nat.le_trans g.total (Nat.le_add_right _ _),Nat.le_trans g.text (Nat.le_add_right _ _)⟩
 ·refine⟨fun v e=>?_,Nat.add_le_add g.total hx,?_⟩
  ·dsimp only at e
   split at e
   ·obtain⟨x,t,a,b⟩:=ho v e;exact⟨x,t,a,Nat.le_trans b (Nat.le_add_left _ _)⟩
   ·cases e
  ·have:=g.text
   unfold Builtin.Str.Writer.text at this ⊢
   simp only [List.reverse_cons,List.foldl_append,List.foldl_cons,List.foldl_nil]
   show Array.size _≤_
   rw[Array.size_append]
   exact Nat.add_le_add this hx
theorem wrt_fin{M:Model}{A:Around}{E:Value->Shared->Prop}{s:Shared}{w:Builtin.Str.Writer}{N:Nat}{id:String}{Q:Fin->Shared->Prop}(g:Wrt w N)(hN:N≤3000000)
  (h:∀ z t k,z.length≤3000000->Q (.done (.ret (.str z t))) { s with toks:=k }):wpAny M A (w.finish id) Q E s:=by
 unfold Builtin.Str.Writer.finish
 cases hw:w.whole with
 | none=>
  refine wpAny_ite (KPc.ite_no (KPc.short (Nat.le_trans g.total (by lia))) ?_)
  exact wpAny_bind (wpAny_mkStr (wpAny_pure (h _ _ _ (Nat.le_trans g.text hN))) (by rw[sizeLine_eq];exact Nat.le_trans g.text (by lia)))
 | some v=>
  obtain⟨x,t,rfl,hx⟩:=g.whole v hw
  refine wpAny_bind (wpAny_rule ?_)
  first
   | exact wpAny_pure (h x t s.toks (Nat.le_trans hx hN))
   | exact wpAny_bind (wpAny_pure (wpAny_pure (h x t s.toks (Nat.le_trans hx hN))))
theorem Wrt.mono{w:Builtin.Str.Writer}{N K:Nat}(g:Wrt w N)(h:N≤K):Wrt w K:=⟨fun v e=>let ⟨x,t,a,b⟩:=g.whole v e;⟨x,t,a,Nat.le_trans b h⟩,Nat.le_trans g.total h,Nat.le_trans g.text h⟩
noncomputable abbrev PSt:=List Value×Builtin.Str.Writer×List Nat
noncomputable def pctOut(w:Builtin.Str.Writer)(p:List Value)(rest:List Nat)(z:List Nat×Option Value×Bool):Sem (ForInStep PSt):=pure (ForInStep.yield (p,w.add ⟨z.1.toArray⟩ (if rest.isEmpty=true then z.2.1 else none),rest))
noncomputable def pctTxt(v:Value)(m:Sem Value):Sem (List Nat×Option Value×Bool):=holding [v] (m >>= fun o=>asStr? o >>= fun x=>match x with|some s=>pure (s.cps.toList,some o,false)|_=>unsupported "internal:str.__mod__")
noncomputable def pctInt(n:Int)(tn:Tok):Sem (List Nat×Option Value×Bool):=holding [.int n tn] (Builtin.Str.percentIntOf 100 (.int n tn) >>= fun i=>mkInt ↑i.natAbs >>= fun a=>call (.builtin "int.__repr__") [a] >>= fun x=>asStr? x >>= fun y=>match y with|some d=>(pure d.cps.toList >>= fun digits=>pure (Builtin.Str.percentInt { type:=100 } (decide (i<0)) digits,none,true))|_=>(unsupported "internal:str.__mod__" >>= fun digits=>pure (Builtin.Str.percentInt { type:=100 } (decide (i<0)) digits,none,true)))
structure PctF(M:Model)(A:Around)(E:Value->Shared->Prop)(fo:Value)(fz:Nat)(f:Nat->PSt->Sem (ForInStep PSt)):Prop where
 nil:∀ {x:Nat} {p:List Value} {w:Builtin.Str.Writer} {Q:ForInStep PSt->Shared->Prop} {s:Shared},¬ Builtin.Str.tooLong w.total=true->Q (.done (p,w,[])) s->wpAny M A (f x (p,w,[])) Q E s
 lit:∀ {x c:Nat} {r:List Nat} {p:List Value} {w:Builtin.Str.Writer} {Q:ForInStep PSt->Shared->Prop} {s:Shared},¬ Builtin.Str.tooLong w.total=true->(!(List.span (fun x=>x != 37) (c::r)).1.isEmpty)=true->Q (.yield (p,w.add ⟨(List.span (fun x=>x != 37) (c::r)).1.toArray⟩ (if ((List.span (fun x=>x != 37) (c::r)).1.length==fz)=true then some fo else none),(List.span (fun x=>x != 37) (c::r)).2)) s->wpAny M A (f x (p,w,c::r)) Q E s
 pct:∀ {x:Nat} {rest:List Nat} {p:List Value} {w:Builtin.Str.Writer} {Q:ForInStep PSt->Shared->Prop} {s:Shared},¬ Builtin.Str.tooLong w.total=true->Q (.yield (p,w.add "%",rest)) s->wpAny M A (f x (p,w,37::37::rest)) Q E s
 int:∀ {x:Nat} {rest:List Nat} {p:List Value} {w:Builtin.Str.Writer} {n:Int} {tn:Tok} {Q:ForInStep PSt->Shared->Prop} {s:Shared},¬ Builtin.Str.tooLong w.total=true->wpAny M A (pctInt n tn >>= pctOut w p rest) Q E s->wpAny M A (f x (.int n tn::p,w,37::100::rest)) Q E s
 str:∀ {x:Nat} {rest:List Nat} {p:List Value} {w:Builtin.Str.Writer} {v:Value} {Q:ForInStep PSt->Shared->Prop} {s:Shared},¬ Builtin.Str.tooLong w.total=true->wpAny M A (pctTxt v (Builtin.Str.strOf v) >>= pctOut w p rest) Q E s->wpAny M A (f x (v::p,w,37::115::rest)) Q E s
 rep:∀ {x:Nat} {rest:List Nat} {p:List Value} {w:Builtin.Str.Writer} {v:Value} {Q:ForInStep PSt->Shared->Prop} {s:Shared},¬ Builtin.Str.tooLong w.total=true->wpAny M A (pctTxt v (pyReprObjUnder w.total v) >>= pctOut w p rest) Q E s->wpAny M A (f x (v::p,w,37::114::rest)) Q E s
set_option maxHeartbeats 4000000 in
theorem pct_loop{prog:Program}{w:World}{A:Around}{E:Value->Shared->Prop}{I:Shared->Prop}{fo:Value}{fmt:Str}{tf:Tok}{f:Nat->PSt->Sem (ForInStep PSt)}{Q:PSt->Shared->Prop}(hfo:fo = .str fmt tf)
  (B:PctF (model prog w) A E fo fmt.length f) (hI:∀ s k,I s->I { s with toks:=k }) (h:∀ w s,Wrt w 3000000->I s->Q ([],w,[]) s) {l r:List Nat} {pend:List Value} {w0:Builtin.Str.Writer} {s:Shared} (N:Nat) (key:Wrt w0 (20000*N))
  (hl:r.length≤l.length) (hn:r.length+N≤100) (hf:fmOk r=true) (hz:fmt.length≤100) (hc:ConvAll (model prog w) A E I (fmC r) pend) (hs:I s):wpAny (model prog w) A (forIn l (pend,w0,r) f) Q E s:=by
 induction l generalizing pend w0 r s N with
 | nil=>
  have hr:r=[]:=List.length_eq_zero_iff.mp (Nat.le_zero.mp hl)
  subst hr
  cases hc
  exact wpAny_pure (h _ _ (key.mono (by lia)) hs)
 | cons x l ih=>
  refine KPc.turn ?_
  have ht:¬ Builtin.Str.tooLong w0.total=true:=KPc.short (Nat.le_trans key.total (by lia))
  cases r with
  | nil=>
   cases hc
   exact B.nil ht (h _ _ (key.mono (by lia)) hs)
  | cons c r=>
   by_cases hc37:c=37
   ·subst hc37
    obtain⟨c2,rest,rfl⟩:∃ c2 rest,r=c2::rest:=by
     cases r with
     | nil=>cases hf
     | cons c2 rest=>exact⟨c2,rest,rfl⟩
    rw[fmOk,if_pos rfl,Bool.and_eq_true]at hf
    rw[fmC,if_pos rfl]at hc
    have hl':rest.length≤l.length:=by rw[List.length_cons,List.length_cons,List.length_cons]at hl;lia
    rw[List.length_cons,List.length_cons]at hn
    obtain⟨hf1,hf⟩:=hf
    by_cases h37:c2=37
    ·subst h37
     rw[if_pos rfl]at hc
     exact B.pct ht (ih (N+1) (wrt_add (K:=20000) key (by decide +kernel) fun v e=>nomatch e) hl' (by lia) hf hc hs)
    rw[if_neg h37]at hc
    cases hc with
    | @cons _ v _ more hv hc=>
    unfold ConvOk at hv
    by_cases h100:c2=100
    ·subst h100
     obtain⟨n,tn,rfl,n0,n1⟩:=hv
     refine B.int ht ?_
     refine wpAny_bind (wpAny_holding ?_)
     refine wpAny_bind (wpAny_of_eq (a:=n) rfl ?_)
     have hlog:n.natAbs.log2<1920:=shown (N:=2 ^ 1920) (by lia) (by lia) (Int.le_refl _)
     refine wpAny_bind (wpAny_mkInt ?_)
     refine wpAny_bind (call_gives PySem.F.slot_int_repr (typeIs_int _ _ _) PySem.F.entry_int_repr (PySem.F.args_int_repr_1 _) (gives_int_repr _ _ (KPt.hd2 hlog)) ⟨int_text_fits (KPt.hd2 hlog),?_⟩)
     refine wpAny_bind (wpAny_of_eq (a:=some _) rfl ?_)
     refine wpAny_bind (wpAny_pure ?_)
     refine wpAny_pure ?_
     refine wpAny_pure ?_
     refine ih (N+1) (wrt_add (K:=20000) key ?_ fun v e=>?_) hl' (by lia) hf hc (hI s _ hs)
     ·rw[KPc.int_text _ rfl (Or.inl rfl) rfl n0]
      show(List.toArray _).size≤_
      have en:((n.natAbs:Nat):Int)=n:=Int.natAbs_of_nonneg n0
      rw[en,Array.toArray_toList]
      exact Nat.le_trans (toString_length_le (k:=10) n0 (by decide) n1) (by decide)
     ·rw[ite_self]at e;cases e
    ·rw[if_neg h100]at hv
     have fin:∀ (y:Str) (ty:Tok) (s':Shared),y.length≤20000->I s'->wpAny (model prog w) A (forIn l (more,w0.add ⟨y.cps.toList.toArray⟩ (if rest.isEmpty=true then some (Value.str y ty) else none),rest) f) Q E s':=fun y ty s' hy hs'=>ih (N+1) (wrt_add (K:=20000) key hy fun v e=>by
      split at e
      ·cases e;exact⟨_,_,rfl,hy⟩
      ·cases e) hl' (by lia) hf hc hs'
     by_cases h115:c2=115
     ·subst h115
      refine B.str ht ?_
      refine wpAny_bind (wpAny_holding ?_)
      refine wpAny_bind (hv.1 _ _ hs fun y ty s' hy hs'=>?_)
      refine wpAny_bind (wpAny_of_eq (a:=some _) rfl ?_)
      refine wpAny_pure ?_
      refine wpAny_pure ?_
      exact fin y ty s' hy hs'
     ·have h114:c2=114:=by simp[h100,h115,h37]at hf1;exact hf1
      subst h114
      obtain⟨y,ty,rfl,hy⟩:=hv.2 rfl
      refine B.rep ht ?_
      refine wpAny_bind (wpAny_holding ?_)
      refine wpAny_bind (repr_under_str (Nat.le_trans hy (by decide)) ?_)
      refine wpAny_bind (wpAny_of_eq (a:=some _) rfl ?_)
      refine wpAny_pure ?_
      refine wpAny_pure ?_
      exact fin _ _ _ hy (hI _ _ hs)
   ·have hne:(c != 37)=true:=by simpa using hc37
    have hz:List.span (fun x=>x != 37) (c::r)=(c::List.takeWhile (fun x=>x != 37) r,List.dropWhile (fun x=>x != 37) r):=by
     rw[span_eq,List.takeWhile_cons,List.dropWhile_cons,if_pos hne,if_pos hne]
    refine B.lit ht (by rw[hz];rfl) ?_
    rw[hz]
    refine(?_:wpAny (model prog w) A (forIn l (pend,w0.add ⟨(c::List.takeWhile (fun x=>x != 37) r).toArray⟩ _,List.dropWhile (fun x=>x != 37) r) f) Q E s)
    have hdl:(List.dropWhile (fun x=>x != 37) r).length≤r.length:=(List.dropWhile_sublist _).length_le
    have htl:(List.takeWhile (fun x=>x != 37) r).length≤r.length:=(List.takeWhile_sublist _).length_le
    have hd:=fm_drop r
    rw[<-(fm_skip (r:=r) hc37).1,<-(fm_skip (r:=r) hc37).2]at hd
    rw[<-hd.1]at hc
    rw[<-hd.2]at hf
    have hl':(List.dropWhile (fun x=>x != 37) r).length≤l.length:=Nat.le_trans hdl (Nat.le_of_succ_le_succ hl)
    rw[List.length_cons]at hn
    refine ih (N+1) (wrt_add (K:=20000) key ?_ fun v e=>?_) hl' (by lia) hf hc hs
    ·show(List.toArray _).size≤_
     rw[List.size_toArray,List.length_cons];lia
    ·split at e
     ·cases e;exact⟨fmt,tf,hfo,by lia⟩
     ·cases e
inductive PctP(M:Model)(A:Around)(E:Value->Shared->Prop)(s:Shared)(args:Value):Bool->List Value->Prop
 | tup (its:Array Value):(∀ {Q:Option (Array Value)->Shared->Prop},Q (some its) s->wpAny M A (seqItems? args) Q E s)->PctP M A E s args true its.toList
 | one:PctP M A E s args false [args]
theorem pct_jp{β:Type}{M:Model}{A:Around}{E:Value->Shared->Prop}{s:Shared}{Q:β->Shared->Prop}{args:Value}{b1:Bool}{pend:List Value}{jp:List Value->Sem β}(h4:PctP M A E s args b1 pend)(key:wpAny M A (jp pend) Q E s) :
  wpAny M A (if b1=true then(seqItems? args >>= fun x=>match x with|some xs=>(pure xs.toList >>= fun p=>jp p)|none=>(unsupported "internal:str.__mod__" >>= fun p=>jp p)) else(pure [args] >>= fun p=>jp p)) Q E s:=by
 cases h4 with
 | tup its h=>exact wpAny_ite (KPc.ite_yes rfl (wpAny_bind (h (wpAny_bind (wpAny_pure key)))))
 | one=>exact wpAny_ite (KPc.ite_no Bool.false_ne_true (wpAny_bind (wpAny_pure key)))
theorem pct_pre{prog:Program}{w:World}{A:Around}{E:Value->Shared->Prop}{t:Tok}{fmt:Str}{args:Value}{s:Shared}{Q:Fin->Shared->Prop}{b1:Bool}{o:Option Str}{pend:List Value}
  (h1:∀ {Q:Bool->Shared->Prop},Q b1 s->wpAny (model prog w) A (isInstance args (.type "tuple")) Q E s) (h2:∀ {Q:Option Str->Shared->Prop},Q o s->wpAny (model prog w) A (asStr? args) Q E s)
  (h3:∀ {Q:Bool->Shared->Prop},(∀ b,Q b s)->wpAny (model prog w) A (fillsMappingSlot args) Q E s)
  (h4:PctP (model prog w) A E s args b1 pend)
  (k:∀ (f:Nat->PSt->Sem (ForInStep PSt)) (Q':PSt->Shared->Prop),PctF (model prog w) A E (.str fmt t) fmt.length f->(∀ w1 s,wpAny (model prog w) A (w1.finish "str.__mod__") Q E s->Q' ([],w1,[]) s)->
   wpAny (model prog w) A (forIn (List.range' 0 fmt.length 1) (pend,{},fmt.cps.toList) f) Q' E s):wpAny (model prog w) A (Builtin.Str.percentFormat (.str fmt t) fmt args) Q E s:=by
 unfold Builtin.Str.percentFormat
 refine wpAny_bind (h1 ?_)
 refine wpAny_bind (h2 ?_)
 refine wpAny_bind (h3 fun b=>?_)
 refine pct_jp h4 ?_
 refine wpAny_bind ?_
 rw[KPc.range_list]
 refine k _ _ ⟨?_,?_,?_,?_,?_,?_⟩ (fun w1 s1 h=>?_)
 ·intro x p w1 Q s ht h
  exact wpAny_ite (KPc.ite_no ht (wpAny_pure h))
 ·intro x c r p w1 Q s ht hc h
  refine wpAny_ite (KPc.ite_no ht ?_)
  refine(?_:wpAny (model prog w) A (if (!(List.span (fun x=>x != 37) (c::r)).1.isEmpty)=true then pure (ForInStep.yield (p,w1.add ⟨(List.span (fun x=>x != 37) (c::r)).1.toArray⟩ (if ((List.span (fun x=>x != 37) (c::r)).1.length==fmt.length)=true then some (Value.str fmt t) else none),(List.span (fun x=>x != 37) (c::r)).2)) else _) _ E s)
  exact wpAny_ite (KPc.ite_yes hc (wpAny_pure h))
 ·intro x rest p w1 Q s ht h
  exact wpAny_ite (KPc.ite_no ht (wpAny_pure h))
 ·intro x rest p w1 n tn Q s ht h
  exact wpAny_ite (KPc.ite_no ht h)
 ·intro x rest p w1 v Q s ht h
  exact wpAny_ite (KPc.ite_no ht h)
 ·intro x rest p w1 v Q s ht h
  exact wpAny_ite (KPc.ite_no ht h)
 ·exact wpAny_ite (KPc.ite_no Bool.false_ne_true h)
theorem pct_any{prog:Program}{w:World}{A:Around}{E:Value->Shared->Prop}{I:Shared->Prop}(t:Tok)(fmt:Str)(b:Addr)(its:Array Value){s:Shared}{Q:Fin->Shared->Prop}
  (hI:∀ s k,I s->I { s with toks:=k }) (hf:fmOk fmt.cps.toList=true) (hz:fmt.length≤100) (hc:ConvAll (model prog w) A E I (fmC fmt.cps.toList) its.toList) (hb:IsTup s.heap b its) (hs:I s)
  (h:∀ z t s',z.length≤3000000->I s'->Q (.done (.ret (.str z t))) s'):wpAny (model prog w) A (Builtin.«str.__mod__» ⟨[.str fmt t,.ref b],[]⟩) Q E s:=by
 obtain⟨kptO,kptG,kptC,kptN,kptD⟩:=hb
 rw[KPt.entry_is_r]
 refine pct_pre (b1:=true) (wpAny_isInstance (T:="tuple") ⟨kptO,kptG,kptC⟩ KPt.sub_tt) (KPt.asStr_ref kptG kptD) (KPt.fills_ref ⟨kptO,kptG,kptC⟩) (.tup its (wpAny_seqItems kptG kptD)) (fun f Q' B fin=>?_)
 exact pct_loop (tf:=t) rfl B hI (fun w1 s1 W1 h1=>fin _ _ (wrt_fin W1 (Nat.le_refl _) fun z t k hz=>h _ _ _ hz (hI _ _ h1))) 0 ⟨(fun v e=>nomatch e),Nat.le_refl _,Nat.le_refl _⟩ (by rw[List.length_range'];exact Nat.le_of_eq rfl) hz hf hz hc hs
theorem pct_pre1{prog:Program}{w:World}{A:Around}{E:Value->Shared->Prop}{t u:Tok}{fmt x:Str}{s:Shared}{Q:Fin->Shared->Prop}
  (k:∀ (f:Nat->PSt->Sem (ForInStep PSt)) (Q':PSt->Shared->Prop),PctF (model prog w) A E (.str fmt t) fmt.length f->(∀ w1 s,wpAny (model prog w) A (w1.finish "str.__mod__") Q E s->Q' ([],w1,[]) s)->
   wpAny (model prog w) A (forIn (List.range' 0 fmt.length 1) ([.str x u],{},fmt.cps.toList) f) Q' E s):wpAny (model prog w) A (Builtin.«str.__mod__» ⟨[.str fmt t,.str x u],[]⟩) Q E s:=by
 rw[KPc.entry_is_s]
 exact pct_pre (b1:=false) (wpAny_isInstance (typeIs_str s _ _) F.sub_str_tuple) (fun q=>wpAny_of_eq (a:=some x) rfl q) KPc.wp_fills_str .one k
theorem pct_one{prog:Program}{w:World}(t u:Tok){fmt:Str}(hf:fmOk fmt.cps.toList=true)(hz:fmt.length≤100)(hc:fmC fmt.cps.toList=[115])(x:Str)(hx:x.length≤20000){A:Around}{E:Value->Shared->Prop}{s:Shared}{Q:Fin->Shared->Prop}
  (h:∀ z t k,Q (.done (.ret (.str z t))) { s with toks:=k }):wpAny (model prog w) A (Builtin.«str.__mod__» ⟨[.str fmt t,.str x u],[]⟩) Q E s:=by
 refine pct_pre1 fun f Q' B fin=>?_
 refine pct_loop (I:=fun s'=>∃ k,s'={ s with toks:=k }) (tf:=t) rfl B (fun s' k ⟨k',e⟩=>⟨k,by rw[e]⟩) (fun w1 s1 W1 h1=>fin _ _ (wrt_fin W1 (Nat.le_refl _) fun z t k hz=>?_)) 0 ⟨(fun v e=>nomatch e),Nat.le_refl _,Nat.le_refl _⟩ (by rw[List.length_range'];exact Nat.le_of_eq rfl) hz hf hz ?_ ⟨s.toks,rfl⟩
 ·obtain⟨k',rfl⟩:=h1;exact h z t k
 ·rw[hc]
  refine .cons ?_ .nil
  unfold ConvOk
  rw[if_neg (by decide)]
  exact⟨fun s Q hI h=>wpAny_of_eq (KPc.strOf_str _ _) (h _ _ _ hx hI),fun e=>absurd e (by decide)⟩
theorem pct_empM{prog:Program}{w:World}(t u:Tok)(z:Str)(hz:z.length≤1000000){A:Around}{E:Value->Shared->Prop}{s:Shared}{Q:Fin->Shared->Prop}
  (h:∀ t' k,Q (.done (.ret (.str (z++(" -> <empty>" : Str)) t'))) { s with toks:=k }):wpAny (model prog w) A (Builtin.«str.__mod__» ⟨[.str ⟨#[37,115,32,45,62,32,60,101,109,112,116,121,62]⟩ t,.str z u],[]⟩) Q E s:=by
 refine pct_pre1 fun f Q' B fin=>?_
 refine KPc.start ?_
 intro w0 g0
 refine KPc.turn (B.str (KPc.short_good g0 (by decide)) ?_)
 refine wpAny_bind (wpAny_holding ?_)
 refine wpAny_bind (wpAny_of_eq (KPc.strOf_str _ _) ?_)
 refine wpAny_bind (wpAny_of_eq (a:=some _) rfl ?_)
 refine wpAny_pure ?_
 refine wpAny_pure ?_
 refine KPc.after_str0 g0 hz (KPc.obj_none rfl) fun w1 g1=>?_
 refine KPc.turn (B.lit (KPc.short_good g1 (by lia)) rfl ?_)
 have e:(" -> <empty>" : Str)=⟨#[32,45,62,32,60,101,109,112,116,121,62]⟩:=by decide +kernel
 refine KPc.after_add (y:=(" -> <empty>" : Str)) g1 (by rw[e];rfl) (KPc.obj_none rfl) fun w2 g2=>?_
 refine KPc.turn (B.nil (KPc.short_good g2 (by rw[e];show _+11≤_;lia)) (fin _ _ ?_))
 exact KPc.finish_ok g2 (by rw[e];show _+11≤_;lia) rfl h
section
variable {W:Wd}{A:Around}{env:Env}{outer:Outs}{loc:Loc}{mem R:Mem}{E:Ex W}{F:Frz}{s:Shared}
theorem pct_empty2{x:Str}{Q:V->Loc->Mem->Prop}(hx:x.length≤1000000)(h:Q (.str (x++(" -> <empty>" : Str))) loc mem) :
  OpV W A env outer (fun|[x,y]=>binaryOp .Mod x y|_=>pure .none) [.str "%s -> <empty>",.str x] loc mem Q E:=op2 fun R F s v u S r1 r2=>by
 obtain⟨_,rfl⟩:=r1.isStr;obtain⟨_,rfl⟩:=r2.isStr
 have e:(Str.ofString "%s -> <empty>")=⟨#[37,115,32,45,62,32,60,101,109,112,116,121,62]⟩:=by decide +kernel
 exact KPc.mod_str (T:=fun n=>n++(" -> <empty>" : Str)) e hx (fun z hz=>KPc.meets_of fun prog w A s Q E h=>pct_empM _ _ z hz h) fun t' k=>Post.mk (.str _ _) S.tick h
theorem pct_text{fmt x:Str}{Q:V->Loc->Mem->Prop}(hf:fmOk fmt.cps.toList=true)(hz:fmt.length≤100)(hc:fmC fmt.cps.toList=[115])(hx:x.length≤20000)(h:∀ z,Q (.str z) loc mem) :
  OpV W A env outer (fun|[x,y]=>binaryOp .Mod x y|_=>pure .none) [.str fmt,.str x] loc mem Q E:=op2 fun R F s v u S r1 r2=>by
 obtain⟨_,rfl⟩:=r1.isStr;obtain⟨_,rfl⟩:=r2.isStr
 have m:∀ t u,Meets (Builtin.«str.__mod__» ⟨[.str fmt t,.str x u],[]⟩) (fun _ R s=>∀ z t' k,R (.ok (.ret (.str z t'))) { s with toks:=k }):=fun t u=>Meets.of_wp fun prog w A _ s hS=>pct_one _ _ hf hz hc x hx fun z t' k=>⟨_,rfl,hS z t' k⟩
 exact binaryOp_meets (T:="str") (op:=.Mod) (typeIs_str s _ _) (typeIs_str s _ _) PySem.F.fills_str_mod PySem.F.slot_str_mod PySem.F.entry_str_mod (PySem.F.args_str_mod_2 _ _) (m _ _) (fun z t' k=>⟨(fun e=>nomatch e),Post.mk (.str _ _) S.tick (h z)⟩)
end
section
variable {W:Wd}{A:Around}{env:Env}{outer:Outs}{loc:Loc}{mem:Mem}{E:Ex W}
theorem vrs4{F:Frz}{x0 x1 x2 x3:V}{vs:List Value}{P:List Value->Prop}(r:VRs W F [x0,x1,x2,x3] vs)(h:∀ v0 v1 v2 v3,VR W F x0 v0->VR W F x1 v1->VR W F x2 v2->VR W F x3 v3->P [v0,v1,v2,v3]):P vs:=by
 obtain⟨_,_,r0,q0,rfl⟩:=r.isCons
 obtain⟨_,_,r1,q1,rfl⟩:=q0.isCons
 obtain⟨_,_,r2,q2,rfl⟩:=q1.isCons
 obtain⟨_,_,r3,q3,rfl⟩:=q2.isCons
 obtain rfl:=q3.isNil;exact h _ _ _ _ r0 r1 r2 r3
theorem vrs8{F:Frz}{x0 x1 x2 x3 x4 x5 x6 x7:V}{vs:List Value}{P:List Value->Prop}(r:VRs W F [x0,x1,x2,x3,x4,x5,x6,x7] vs)(h:∀ v0 v1 v2 v3 v4 v5 v6 v7,VR W F x0 v0->VR W F x1 v1->VR W F x2 v2->VR W F x3 v3->VR W F x4 v4->VR W F x5 v5->VR W F x6 v6->VR W F x7 v7->P [v0,v1,v2,v3,v4,v5,v6,v7]):P vs:=by
 obtain⟨_,_,r0,q0,rfl⟩:=r.isCons
 obtain⟨_,_,r1,q1,rfl⟩:=q0.isCons
 obtain⟨_,_,r2,q2,rfl⟩:=q1.isCons
 obtain⟨_,_,r3,q3,rfl⟩:=q2.isCons
 exact vrs4 (P:=fun z=>P (_::_::_::_::z)) q3 fun _ _ _ _ r4 r5 r6 r7=>h _ _ _ _ _ _ _ _ r0 r1 r2 r3 r4 r5 r6 r7
inductive P2B_J1(syms:List Str)(x:Addr)(au:Addr)(m:Mem)(k:Nat)(i:Nat)(l:Loc)(m1:Mem):Prop
 | mk (h1_:k+i=syms.length) (h2_:LSub [("self",.ref x)] l) (h3_:m1 au=some (.list (vStrs (dedup (syms.take i))))) (h4_:∀ b,b≠au->m1 b=m b)
theorem prod_spec'{num prec func file line sv:V}{xs:List V}{name:Str}{syms:List Str}{Q:V->Loc->Mem->Prop}(hK:W.K=hdK W.w.params)(c:Calm A 800 7000)(q:Sq mem sv "list" (vStrs syms))(hz:syms.length≤100)(hy:∀ y∈syms,y.cps.size≤100/\PyData.strOk y=true)(hn:name.cps.size≤100)(hr:notRef num=true/\notRef prec=true/\notRef func=true/\notRef file=true/\notRef line=true)
  (hbind:∀ x:Addr,Binds W (fnOf "__init__" "Production.__init__" prodInit.params prodInit.body prodInit.scope (.ref 55) .none .none (.str "ply.yacc" 194) none prodInit.code .none) [] (.ref x::xs) [("self",.ref x),("number",num),("name",.str name),("prod",sv),("precedence",prec),("func",func),("file",file),("line",line)])
  (h:Q (.ins aProd (prodAttrs num name syms prec func file line)) loc mem):OpV W A env outer (fun vs=>call (.ref aProd) vs) xs loc mem Q E:=by
 refine Op.shift ?_
 refine call_cls (C:=aProd) (f:=aProdInit) (bs:=fun x=>[("self",.ref x),("number",num),("name",.str name),("prod",sv),("precedence",prec),("func",func),("file",file),("line",line)]) (by rw[hK];first|rfl|kernel_rfl|decide +kernel) (by rw[hK];first|rfl|kernel_rfl|decide +kernel) (by rw[hK];first|rfl|kernel_rfl|decide +kernel)
  (by rw[hK];exact prodInit.at _) (by rw[hK];first|rfl|kernel_rfl|decide +kernel) (Nat.lt_of_le_of_lt (Nat.succ_le_succ c.depth) (by decide)) ?_ (by intro x y hy;simp at hy;rcases hy with rfl|rfl|rfl|rfl|rfl|rfl|rfl|rfl<;>rfl) (by decide) rfl rfl rfl ?_
 ·exact hbind
 ·intro A' x d hA hh hg hfr hu mx md hxd L outer
  have c1:Calm A' 801 7008:=⟨hh.trans c.handled,hg.trans c.guards,by have:=c.depth;lia,by have:=c.units;lia⟩
  have cd:=c1.deeper (envX "Production.__init__" prodInit.scope L 62 prodInit.code [])
  obtain⟨m,hm⟩:∃ m,m=mset (mset mem d (.dict [] 0)) x (.inst aProd d):=⟨_,rfl⟩
  have hx:m x=some (.inst aProd d):=by rw[hm,mset_self]
  have hd:m d=some (.dict [] 0):=by rw[hm,mset_ne (Ne.symm hxd),mset_self]
  have hs:Sub mem m:=by rw[hm];exact sub_mset (by rw[mset_ne hxd];exact mx) (sub_mset md (sub_refl _))
  rw[<-hm]
  clear hm
  (refine nameS ?_;intro aa vv oo qq ee;refine s_cons ?_);refine s_assign_attr2 rfl rfl rfl ?_
  (refine set_o hK (fun _=>by kernel_rfl) hx hd rfl (fun m zep zhx zhd zhf=>?_);have hs:=Sub.upd hs md zhf;(have hx:=Eq.trans (zhf _ (by assumption)) hx);have hd:=zhd;clear zhd zhx;(have hd:_=some (AObj.dict [(Str.ofString "name",_)] _):=hd))
  refine s_cons ?_;refine s_assign_attr rfl ?_;refine c_typN hK (fun _=>rfl) rfl rfl ?_;refine a_pus rfl ?_
  refine tuple_list (Sq.mono ‹Sq mem sv "list" (vStrs syms)› hs) (by simp[vStrs];exact Nat.le_trans hz (by decide)) ?_
  refine pu rfl ?_
  (refine set_o hK (fun _=>by kernel_rfl) hx hd rfl (fun m zep zhx zhd zhf=>?_);have hs:=Sub.upd hs md zhf;(have hx:=Eq.trans (zhf _ (by assumption)) hx);have hd:=zhd;clear zhd zhx;(have hd:_=some (AObj.dict [(Str.ofString "name",_),(Str.ofString "prod",_)] _):=hd))
  refine s_cons ?_;refine s_assign_attr2 rfl rfl rfl ?_
  (refine set_o hK (fun _=>by kernel_rfl) hx hd rfl (fun m zep zhx zhd zhf=>?_);have hs:=Sub.upd hs md zhf;(have hx:=Eq.trans (zhf _ (by assumption)) hx);have hd:=zhd;clear zhd zhx;(have hd:_=some (AObj.dict [(Str.ofString "name",_),(Str.ofString "prod",_),(Str.ofString "number",_)] _):=hd))
  refine s_cons ?_;refine s_assign_attr2 rfl rfl rfl ?_
  (refine set_o hK (fun _=>by kernel_rfl) hx hd rfl (fun m zep zhx zhd zhf=>?_);have hs:=Sub.upd hs md zhf;(have hx:=Eq.trans (zhf _ (by assumption)) hx);have hd:=zhd;clear zhd zhx;(have hd:_=some (AObj.dict [(Str.ofString "name",_),(Str.ofString "prod",_),(Str.ofString "number",_),(Str.ofString "func",_)] _):=hd))
  refine s_cons ?_;refine s_assign_attr2 rfl rfl rfl ?_
  (refine set_o hK (fun _=>by kernel_rfl) hx hd rfl (fun m zep zhx zhd zhf=>?_);have hs:=Sub.upd hs md zhf;(have hx:=Eq.trans (zhf _ (by assumption)) hx);have hd:=zhd;clear zhd zhx;(have hd:_=some (AObj.dict [(Str.ofString "name",_),(Str.ofString "prod",_),(Str.ofString "number",_),(Str.ofString "func",_),(Str.ofString "callable",_)] _):=hd))
  refine s_cons ?_;refine s_assign_attr2 rfl rfl rfl ?_
  (refine set_o hK (fun _=>by kernel_rfl) hx hd rfl (fun m zep zhx zhd zhf=>?_);have hs:=Sub.upd hs md zhf;(have hx:=Eq.trans (zhf _ (by assumption)) hx);have hd:=zhd;clear zhd zhx;(have hd:_=some (AObj.dict [(Str.ofString "name",_),(Str.ofString "prod",_),(Str.ofString "number",_),(Str.ofString "func",_),(Str.ofString "callable",_),(Str.ofString "file",_)] _):=hd))
  refine s_cons ?_;refine s_assign_attr2 rfl rfl rfl ?_
  (refine set_o hK (fun _=>by kernel_rfl) hx hd rfl (fun m zep zhx zhd zhf=>?_);have hs:=Sub.upd hs md zhf;(have hx:=Eq.trans (zhf _ (by assumption)) hx);have hd:=zhd;clear zhd zhx;(have hd:_=some (AObj.dict [(Str.ofString "name",_),(Str.ofString "prod",_),(Str.ofString "number",_),(Str.ofString "func",_),(Str.ofString "callable",_),(Str.ofString "file",_),(Str.ofString "line",_)] _):=hd))
  refine s_cons ?_;refine s_assign_attr2 rfl rfl rfl ?_
  (refine set_o hK (fun _=>by kernel_rfl) hx hd rfl (fun m zep zhx zhd zhf=>?_);have hs:=Sub.upd hs md zhf;(have hx:=Eq.trans (zhf _ (by assumption)) hx);have hd:=zhd;clear zhd zhx;(have hd:_=some (AObj.dict [(Str.ofString "name",_),(Str.ofString "prod",_),(Str.ofString "number",_),(Str.ofString "func",_),(Str.ofString "callable",_),(Str.ofString "file",_),(Str.ofString "line",_),(Str.ofString "prec",_)] _):=hd))
  refine s_cons ?_;refine s_assign_attr rfl ?_;refine c_bltN hK (fun _=>rfl) rfl rfl ?_;refine a_cons rfl ?_;refine e_attr1 rfl rfl ?_
  refine get_o hK (fun _=>by kernel_rfl) (.own hx hd) rfl rfl ?_
  refine a_nil ?_
  refine len_sq (.tup _) (by simp[vStrs];lia) ?_
  refine pu rfl ?_
  (refine set_o hK (fun _=>by kernel_rfl) hx hd rfl (fun m zep zhx zhd zhf=>?_);have hs:=Sub.upd hs md zhf;(have hx:=Eq.trans (zhf _ (by assumption)) hx);have hd:=zhd;clear zhd zhx;(have hd:_=some (AObj.dict [(Str.ofString "name",_),(Str.ofString "prod",_),(Str.ofString "number",_),(Str.ofString "func",_),(Str.ofString "callable",_),(Str.ofString "file",_),(Str.ofString "line",_),(Str.ofString "prec",_),(Str.ofString "len",_)] _):=hd))
  refine s_cons ?_;refine s_assign_attr rfl ?_;refine e_list ?_;refine a_nil ?_
  refine new_own' (by decide) (fun au mu hau hlu hfu=>?_)
  have mau:=Sub.none hs hau
  have hs:=Sub.new hs hau hfu
  have hx:=Eq.trans (hfu _ (nex hx hau)) hx;have hd:=Eq.trans (hfu _ (nex hd hau)) hd
  refine pu rfl ?_
  (refine set_o hK (fun _=>by kernel_rfl) hx hd rfl (fun m zep zhx zhd zhf=>?_);have hs:=Sub.upd hs md zhf;(have hlu:=Eq.trans (zhf _ (nex hlu hd)) hlu;have hx:=Eq.trans (zhf _ (by assumption)) hx);have hd:=zhd;clear zhd zhx;(have hd:_=some (AObj.dict [(Str.ofString "name",_),(Str.ofString "prod",_),(Str.ofString "number",_),(Str.ofString "func",_),(Str.ofString "callable",_),(Str.ofString "file",_),(Str.ofString "line",_),(Str.ofString "prec",_),(Str.ofString "len",_),(Str.ofString "usyms",_)] _):=hd))
  refine s_cons ?_;refine s_for (fun _=>rfl) ?_;refine e_attr1 rfl rfl ?_
  refine get_o hK (fun _=>by kernel_rfl) (.own hx hd) rfl rfl ?_
  have hsz:∀ (k:Nat),(vStrs (dedup (syms.take k))).length≤100:=fun k=>by
   rw[vStrs_len];have:=dedup_len (syms.take k);rw[List.length_take]at this;lia
  have hok:∀ k,(vStrs (dedup (syms.take k))).all (isD 0)=true:=fun k=>isD_strs (List.all_eq_true.mpr fun y hy'=>(hy y (List.mem_of_mem_take (dedup_sub _ y hy'))).2)
  let J1:Nat->Nat->Loc->Mem->Prop:=P2B_J1 syms x au m
  refine for_k (itr_tup cd.handled) J1 ?_ syms.length ⟨rfl,rfl,hlu,fun b _=>rfl⟩
  ·rintro k i l m1 ⟨hk,hl,hu1,hf1⟩
   refine⟨by simp[setItem_],fun hn1=>?_,fun v hv=>?_⟩
   ·have hn1:(vStrs syms)[i]? = none:=Option.some.inj hn1
    rw[List.getElem?_eq_none_iff,vStrs_len]at hn1
    obtain rfl:i=syms.length:=by lia
    rw[List.take_length]at hu1
    have hs:=Sub.upd hs mau hf1
    have hx:=Eq.trans (hf1 _ (nex hx hlu)) hx;have hd:=Eq.trans (hf1 _ (nex hd hlu)) hd
    refine Tr.locs hl ?_
    refine s_nil ?_;refine s_cons ?_;refine s_assign_attr rfl ?_;refine e_list ?_;refine a_nil ?_
    refine new_own' (by decide) (fun al m2 hal hll hfl=>?_)
    have mal:=Sub.none hs hal
    have nul:au≠al:=fun e=>by rw[e,hal]at hu1;cases hu1
    have hs:=Sub.new hs hal hfl
    have hu1:=Eq.trans (hfl _ (by assumption)) hu1;have hx:=Eq.trans (hfl _ (nex hx hal)) hx;have hd:=Eq.trans (hfl _ (nex hd hal)) hd
    refine pu rfl ?_
    (refine set_o hK (fun _=>by kernel_rfl) hx hd rfl (fun m zep zhx zhd zhf=>?_);have hs:=Sub.upd hs md zhf;(have hll:=Eq.trans (zhf _ (nex hll hd)) hll;have hu1:=Eq.trans (zhf _ (nex hu1 hd)) hu1;have hx:=Eq.trans (zhf _ (by assumption)) hx);have hd:=zhd;clear zhd zhx;(have hd:_=some (AObj.dict [(Str.ofString "name",_),(Str.ofString "prod",_),(Str.ofString "number",_),(Str.ofString "func",_),(Str.ofString "callable",_),(Str.ofString "file",_),(Str.ofString "line",_),(Str.ofString "prec",_),(Str.ofString "len",_),(Str.ofString "usyms",_),(Str.ofString "lr_items",_)] _):=hd))
    refine s_cons ?_;refine s_assign_attr2 rfl rfl rfl ?_
    (refine set_o hK (fun _=>by kernel_rfl) hx hd rfl (fun m zep zhx zhd zhf=>?_);have hs:=Sub.upd hs md zhf;(have hll:=Eq.trans (zhf _ (nex hll hd)) hll;have hu1:=Eq.trans (zhf _ (nex hu1 hd)) hu1;have hx:=Eq.trans (zhf _ (by assumption)) hx);have hd:=zhd;clear zhd zhx;(have hd:_=some (AObj.dict [(Str.ofString "name",_),(Str.ofString "prod",_),(Str.ofString "number",_),(Str.ofString "func",_),(Str.ofString "callable",_),(Str.ofString "file",_),(Str.ofString "line",_),(Str.ofString "prec",_),(Str.ofString "len",_),(Str.ofString "usyms",_),(Str.ofString "lr_items",_),(Str.ofString "lr_next",_)] _):=hd))
    refine s_cons ?_;refine s_if ?_;refine b_value rfl ?_;refine e_attr1 rfl rfl ?_
    refine get_o hK (fun _=>by kernel_rfl) (.own hx hd) rfl rfl ?_
    skip
    refine tr_tup (by rw[vStrs_len];lia) ?_
    skip
    have fin:∀ (t:Str) (m:Mem) (ep:Nat),t=ruleText name syms->Sub mem m->m x=some (.inst aProd d)->m au=some (.list (vStrs (dedup syms)))->m al=some (.list [])->
      m d=some (.dict [("name",.str name),("prod",.tup (vStrs syms)),("number",num),("func",func),("callable",.none),("file",file),("line",line),("prec",prec),("len",.int (vStrs syms).length),("usyms",.ref au),("lr_items",.ref al),("lr_next",.none),("str",.str t)] ep)->
      ∃ m',Sub m' m/\V.none=V.none/\∃ v' m'',Shift W (.ref x) m' v' m''/\Q v' loc m'':=fun t m ep e hs hx hu hl hd=>by
     refine⟨m,sub_refl _,rfl,.ins aProd (prodAttrs num name syms prec func file line),mem,?_,h⟩
     have sh:=Shift.inst (W:=W) (m':=mem) [(au,vStrs (dedup syms)),(al,[])] hx hd (by
      intro p hp
      rcases List.mem_cons.mp hp with rfl|hp
      ·exact hu
      ·rcases List.mem_cons.mp hp with rfl|hp
       ·exact hl
       ·cases hp) hs mx md (by
      intro p hp
      rcases List.mem_cons.mp hp with rfl|hp
      ·exact mau
      ·rcases List.mem_cons.mp hp with rfl|hp
       ·exact mal
       ·cases hp)
     obtain⟨n1,n2,n3,n4,n5⟩:=hr
     simp only [List.map_cons,List.map_nil,cvt_id _ n1,cvt_id _ n2,cvt_id _ n3,cvt_id _ n4,cvt_id _ n5]at sh
     have e1:cvt [(au,vStrs (dedup syms)),(al,[])] (.ref au) = .lst (vStrs (dedup syms)):=by simp[cvt,List.lookup]
     have e2:cvt [(au,vStrs (dedup syms)),(al,[])] (.ref al) = .lst []:=by
      have:(al==au)=false:=by simpa using (Ne.symm nul)
      simp[cvt,List.lookup,this]
     rw[e1,e2,vStrs_len]at sh
     rw[e]at sh
     exact sh
    have jl:(Txt.join (" " : Str) syms).length≤20000:=Nat.le_trans (join_len fun y hy'=>(hy y hy').1) (by lia)
    have l4:(Str.ofString " -> ").length=4:=by decide +kernel
    have hn':name.length≤100:=hn
    have hsl:(100000:Nat)≤sizeLine:=by decide
    refine⟨fun hb=>?_,fun hb=>?_⟩
    ·(refine nameQ ?_;intro qq ee;refine s_cons ?_);refine s_assign_attr rfl ?_;refine e_joined ?_;refine e_fv_s ?_;refine e_attr1 rfl rfl ?_
     refine get_o hK (fun _=>by kernel_rfl) (.own hx hd) rfl rfl ?_
     skip
     refine show_str (Nat.le_trans hn (by decide)) ?_
     refine⟨_,rfl,by rw[empty_app];lia,?_⟩
     refine e_str ?_
     refine⟨_,rfl,by rw[empty_app,len_app,l4];lia,?_⟩
     refine e_fv_s ?_;refine c_meth1 rfl rfl ?_
     refine m_builtin (.str _) PySem.F.plainAttrs_str PySem.F.slot_str_join (by show builtinType _=_;rw[builtinType_eq_fast];kernel_rfl) rfl rfl ?_
     refine a_cons rfl ?_;refine e_attr1 rfl rfl ?_
     refine get_o hK (fun _=>by kernel_rfl) (.own hx hd) rfl rfl ?_
     refine a_nil ?_
     refine join_tup (ys:=syms) (by decide) (by have:=sum_len fun y hy'=>(hy y hy').1;lia) ?_
     skip
     refine show_str (Nat.le_trans jl (by decide)) ?_
     refine⟨_,rfl,by rw[empty_app,len_app,len_app,l4];lia,?_⟩
     refine pu rfl ?_
     (refine set_o hK (fun _=>by kernel_rfl) hx hd rfl (fun m zep zhx zhd zhf=>?_);have hs:=Sub.upd hs md zhf;(have hll:=Eq.trans (zhf _ (nex hll hd)) hll;have hu1:=Eq.trans (zhf _ (nex hu1 hd)) hu1;have hx:=Eq.trans (zhf _ (by assumption)) hx);have hd:=zhd;clear zhd zhx;(have hd:_=some (AObj.dict [(Str.ofString "name",_),(Str.ofString "prod",_),(Str.ofString "number",_),(Str.ofString "func",_),(Str.ofString "callable",_),(Str.ofString "file",_),(Str.ofString "line",_),(Str.ofString "prec",_),(Str.ofString "len",_),(Str.ofString "usyms",_),(Str.ofString "lr_items",_),(Str.ofString "lr_next",_),(Str.ofString "str",_)] _):=hd))
     refine s_nil ?_;refine s_nil ?_
     refine fin _ _ _ ?_ hs hx hu1 hll hd
     have:syms.isEmpty=false:=by cases syms<;>simp_all [vStrs]
     unfold ruleText
     rw[this,empty_app];rfl
    ·(refine nameQ ?_;intro qq ee;refine s_cons ?_);refine s_assign_attr rfl ?_;refine e_binop1 rfl ?_;refine e_attr1 rfl rfl ?_
     refine get_o hK (fun _=>by kernel_rfl) (.own hx hd) rfl rfl ?_
     skip
     refine pct_empty2 (Nat.le_trans hn (by decide)) ?_
     refine pu rfl ?_
     (refine set_o hK (fun _=>by kernel_rfl) hx hd rfl (fun m zep zhx zhd zhf=>?_);have hs:=Sub.upd hs md zhf;(have hll:=Eq.trans (zhf _ (nex hll hd)) hll;have hu1:=Eq.trans (zhf _ (nex hu1 hd)) hu1;have hx:=Eq.trans (zhf _ (by assumption)) hx);have hd:=zhd;clear zhd zhx;(have hd:_=some (AObj.dict [(Str.ofString "name",_),(Str.ofString "prod",_),(Str.ofString "number",_),(Str.ofString "func",_),(Str.ofString "callable",_),(Str.ofString "file",_),(Str.ofString "line",_),(Str.ofString "prec",_),(Str.ofString "len",_),(Str.ofString "usyms",_),(Str.ofString "lr_items",_),(Str.ofString "lr_next",_),(Str.ofString "str",_)] _):=hd))
     refine s_nil ?_;refine s_nil ?_
     refine fin _ _ _ ?_ hs hx hu1 hll hd
     have:syms.isEmpty=true:=by cases syms<;>simp_all [vStrs]
     unfold ruleText
     rw[this];rfl
   ·have hi:(vStrs syms)[i]? = some v:=Option.some.inj hv
    obtain⟨y,rfl,hy1⟩:∃ y,v = .str y/\syms[i]? = some y:=by
     unfold vStrs at hi
     rw[List.getElem?_map]at hi
     cases e:syms[i]? with
     | none=>rw[e]at hi;cases hi
     | some y=>rw[e]at hi;exact⟨y,(Option.some.inj hi).symm,rfl⟩
    have hlt:i<syms.length:=by rw[List.getElem?_eq_some_iff]at hy1;exact hy1.1
    have hym:y∈syms:=List.mem_of_getElem? hy1
    have hx:=Eq.trans (hf1 _ (nex hx hlu)) hx;have hd:=Eq.trans (hf1 _ (nex hd hlu)) hd
    refine Op.locs hl ?_
    refine asg_name1 rfl rfl ?_;(refine nameQ ?_;intro qq ee;refine s_cons ?_);refine s_if ?_;refine b_cmp1 rfl rfl ?_;refine e_attr1 rfl rfl ?_
    refine get_o hK (fun _=>by kernel_rfl) (.own hx hd) rfl rfl ?_
    skip
    refine notin_list (n:=0) (.own hu1) (hy y hym).2 (hok i) (by decide) (cd.fit (by decide)) (fun b hb=>?_)
    refine tr_bool ?_
    refine⟨fun hb2=>?_,fun hb2=>?_⟩
    ·(refine nameQ ?_;intro qq ee;refine s_cons ?_);refine s_expr rfl rfl ?_;refine c_meth rfl ?_;refine e_attr1 rfl rfl ?_
     refine get_o hK (fun _=>by kernel_rfl) (.own hx hd) rfl rfl ?_
     refine m_builtin (.list hu1) PySem.F.plainAttrs_list PySem.F.slot_list_append PySem.F.type_list_append rfl rfl ?_
     refine a_pus rfl ?_
     refine append_own' hu1 (Nat.le_trans (hsz i) (by decide)) (fun m2 hu2 hf2=>?_)
     refine s_nil ?_;refine s_nil ?_
     refine⟨k - 1,(kst hk hlt).1,(kst hk hlt).2,rfl,?_,fun b hb'=>(hf2 b hb').trans (hf1 b hb')⟩
     have:¬ y∈dedup (syms.take i):=fun q=>by
      have:=hb.mpr (vStrs_mem.mpr q);rw[this]at hb2;cases hb2
     rw[hu2,take_snoc hy1,dedup_snoc,if_neg this]
     simp[vStrs]
    ·refine s_nil ?_;refine s_nil ?_
     refine⟨k - 1,(kst hk hlt).1,(kst hk hlt).2,rfl,?_,fun b hb'=>hf1 b hb'⟩
     have:y∈dedup (syms.take i):=by
      refine vStrs_mem.mp (hb.mp ?_)
      cases b with
      | true=>rfl
      | false=>cases hb2
     rw[hu1,take_snoc hy1,dedup_snoc,if_pos this]
theorem prod_spec{num prec func file line sv:V}{name:Str}{syms:List Str}{Q:V->Loc->Mem->Prop}(hK:W.K=hdK W.w.params)(c:Calm A 800 7000)(q:Sq mem sv "list" (vStrs syms))(hz:syms.length≤100)(hy:∀ y∈syms,y.cps.size≤100/\PyData.strOk y=true)(hn:name.cps.size≤100)(hr:notRef num=true/\notRef prec=true/\notRef func=true/\notRef file=true/\notRef line=true)
  (h:Q (.ins aProd (prodAttrs num name syms prec func file line)) loc mem):OpV W A env outer (fun vs=>call (.ref aProd) vs) [num,.str name,sv,prec,func,file,line] loc mem Q E:=by
 refine prod_spec' hK c q hz hy hn hr ?_ h
 ·intro x F s vs hb hk r
  exact vrs8 (P:=fun vs=>∃ bv,BindsTo s _ ⟨vs,[]⟩ bv/\VRp W F _ bv) r fun v0 v1 v2 v3 v4 v5 v6 v7 r0 r1 r2 r3 r4 r5 r6 r7=>⟨_,binds_K (T:=55) hk rfl (by rw[hK];rfl) rfl rfl rfl,.cons r0 (.cons r1 (.cons r2 (.cons r3 (.cons r4 (.cons r5 (.cons r6 (.cons r7 .nil)))))))⟩
theorem prod_spec3{num sv:V}{name:Str}{syms:List Str}{Q:V->Loc->Mem->Prop}(hK:W.K=hdK W.w.params)(c:Calm A 800 7000)(q:Sq mem sv "list" (vStrs syms))(hz:syms.length≤100)(hy:∀ y∈syms,y.cps.size≤100/\PyData.strOk y=true)(hn:name.cps.size≤100)(hr:notRef num=true)
  (h:Q (.ins aProd (prodAttrs num name syms (.tup [.str "right",.int 0]) .none (.str "") (.int 0))) loc mem):OpV W A env outer (fun vs=>call (.ref aProd) vs) [num,.str name,sv] loc mem Q E:=by
 refine prod_spec' hK c q hz hy hn ⟨hr,rfl,rfl,rfl,rfl⟩ ?_ h
 intro x F s vs hb hk r
 refine vrs4 (P:=fun vs=>∃ bv,BindsTo s _ ⟨vs,[]⟩ bv/\VRp W F _ bv) r fun v0 v1 v2 v3 r0 r1 r2 r3=>⟨_,binds_K (T:=55) hk rfl (by rw[hK];rfl) rfl rfl rfl,.cons r0 (.cons r1 (.cons r2 (.cons r3 (.cons ?_ (.cons .none (.cons (.str _ _) (.cons (.int _ _) .nil)))))))⟩
 exact .tup (hb _ _ (W.KIn _ _ (by rw[hK];rfl))) (.cons (.str _ _) (.cons (.int _ _) .nil))
end
section
variable {W:Wd}{A:Around}{env:Env}{outer:Outs}{loc:Loc}{mem R:Mem}{E:Ex W}{F:Frz}{s:Shared}
theorem mun_assoc(m R0 R:Mem):mun m (mun R0 R)=mun (mun m R0) R:=by
 funext a;unfold mun
 cases m a<;>rfl
theorem Sim.split{m R0:Mem}(S:Sim W env outer loc (mun m R0) R F s)(hd:Dis m R0):Sim W env outer loc m (mun R0 R) F s/\Dis R0 R:=by
 have d0:Dis R0 R:=fun a x e=>by
  have hm:m a=none:=by
   cases q:m a with
   | none=>rfl
   | some y=>rw[hd a y q]at e;cases e
  exact S.dis a x (by rw[mun_r hm];exact e)
 refine⟨⟨fun a x e=>?_,by rw[mun_assoc];exact S.z⟩,d0⟩
 rw[mun_r (hd a x e)];exact S.dis a x (mun_l e)
theorem Sim.join{m R0:Mem}(S:Sim W env outer loc m (mun R0 R) F s)(d0:Dis R0 R):Sim W env outer loc (mun m R0) R F s/\Dis m R0:=by
 have hd:Dis m R0:=fun a x e=>(mun_none (S.dis a x e)).1
 refine⟨⟨fun a x e=>?_,by rw[<-mun_assoc];exact S.z⟩,hd⟩
 cases q:m a with
 | some y=>exact(mun_none (S.dis a y q)).2
 | none=>rw[mun_r q]at e;exact d0 a x e
theorem Less.mun{R0:Mem}(d0:Dis R0 R):Less W R (mun R0 R):=by
 refine⟨fun {env outer loc mem F s} S=>?_,fun a x e=>?_⟩
 rotate_left
 ·rw[mun_r]
  ·exact e
  ·cases z:R0 a with
   | none=>rfl
   | some y=>rw[d0 a y z]at e;cases e
 refine⟨fun a x e=>(mun_none (S.dis a x e)).2,S.z.drop fun a x e=>?_⟩
 cases q:mem a with
 | some y=>rw[mun_l q]at e ⊢;exact e
 | none=>
  rw[mun_r q]at e ⊢
  rw[mun_r]
  ·exact e
  ·cases z:R0 a with
   | none=>rfl
   | some y=>rw[d0 a y z]at e;cases e
theorem Op.frame{α β:Type}{RV:Frz->β->α->Prop}{f:List Value->Sem α}{xs:List V}{Q Q':β->Loc->Mem->Prop}{m R0:Mem}(hd:Dis m R0)(h:Op W A env outer RV f xs loc m Q E)
  (hQ:∀ v l m1,Dis m1 R0->Q v l m1->Q' v l (mun m1 R0)):Op W A env outer RV f xs loc (mun m R0) Q' E:=fun R F s vs S r=>by
 obtain⟨S1,d0⟩:=S.split hd
 refine wpAny_mono (h _ F s vs S1 r) (fun _ _ ⟨F',x,l,m1,a,b,S2,q⟩=>?_) fun _ _ e=>E.mono (Less.mun d0) (Incl.refl F) e
 obtain⟨S3,hd1⟩:=S2.join d0
 exact⟨F',x,l,mun m1 R0,a,b,S3,hQ x l m1 hd1 q⟩
theorem VRs.setN{xs:List V}{vs:List Value}(r:VRs W F xs vs){k:Nat}{x:V}{v:Value}(rx:VR W F x v):VRs W F (xs.set k x) (vs.set k v):=by
 induction k generalizing xs vs with
 | zero=>cases r with|nil=>exact .nil|cons _ r2=>exact .cons rx r2
 | succ k ih=>cases r with|nil=>exact .nil|cons r1 r2=>exact .cons r1 (ih r2)
theorem setItem_own{a:Addr}{xs:List V}{k:Nat}{x:V}{Q:Loc->Mem->Prop}(h1:mem a=some (.list xs))(hk:k<xs.length)(hk2:k<1000000)(h:∀ m':Mem,m' a=some (.list (xs.set k x))->(∀ b,b≠a->m' b=mem b)->Q loc m') :
  OpU W A env outer (fun|[x,y,z]=>setItem x y z|_=>pure ()) [.ref a,.int (k:Int),x] loc mem Q E:=op3 fun R F s v u t S r1 r2 r3=>by
 obtain rfl:=r1.isRef;obtain⟨_,rfl⟩:=r2.isInt
 obtain⟨o,ho,q⟩:=S.memOk _ _ h1
 cases q with
 | @list _ vs n q=>
  refine ki_setAt (items:=vs) (n:=n) ho (Int.natCast_nonneg _) (by lia) (by rw[q.size];exact_mod_cast hk) ?_
  refine Post.mk (x:=()) trivial (S.upd (t:=s.toks) (d:=s.drawn) (x':=.list (xs.set k x)) h1 (fun b ob hb e=>((Heap.SameBut.update ..).2 b hb).trans e) (IsL.update (show IsL s.heap a vs n from ho) _) (.list ?_)) (h _ (mset_self _ _ _) fun b hb=>mset_ne hb)
  rw[Int.toNat_natCast,Array.toList_setIfInBounds]
  exact q.setN r3
inductive Rl where
 | self|dict|pl|pn|pm|te|no|fi|fo|pr|up
 | teL (k:Str)|noL (k:Str)|pnL (k:Str)|fiL (k:Str)|foL (k:Str)
deriving DecidableEq
structure MemIs(adr:Rl->Addr)(c:Rl->Option AObj)(m:Mem):Prop where
 inj:∀ r r',c r≠none->c r'≠none->adr r=adr r'->r=r'
 is:∀ a x,m a=some x↔∃ r,adr r=a/\c r=some x
noncomputable def upd{β:Type}(f:Rl->β)(r:Rl)(y:β):Rl->β:=fun r'=>if r'=r then y else f r'
theorem upd_self{β:Type}(f:Rl->β)(r:Rl)(y:β):upd f r y r=y:=if_pos rfl
theorem upd_ne{β:Type}{f:Rl->β}{r r':Rl}{y:β}(h:r'≠r):upd f r y r'=f r':=if_neg h
variable {adr:Rl->Addr}{c:Rl->Option AObj}{m m':Mem}
theorem MemIs.get{r:Rl}{x:AObj}(M:MemIs adr c m)(h:c r=some x):m (adr r)=some x:=(M.is _ _).mpr ⟨r,rfl,h⟩
theorem MemIs.set{r:Rl}{x y:AObj}(M:MemIs adr c m)(h:c r=some x)(h1:m' (adr r)=some y)(hf:∀ b,b≠adr r->m' b=m b):MemIs adr (upd c r (some y)) m' where
 inj a b ha hb e:=by
  refine M.inj a b ?_ ?_ e
  ·intro q;by_cases z:a=r
   ·rw[z,h]at q;cases q
   ·rw[upd_ne z]at ha;exact ha q
  ·intro q;by_cases z:b=r
   ·rw[z,h]at q;cases q
   ·rw[upd_ne z]at hb;exact hb q
 is a z:=by
  by_cases e:a=adr r
  ·subst e
   rw[h1]
   constructor
   ·intro q;exact⟨r,rfl,by rw[upd_self];exact q⟩
   ·rintro⟨r',e,q⟩
    by_cases hr:r'=r
    ·rw[hr,upd_self]at q;exact q
    ·rw[upd_ne hr]at q
     exact absurd (M.inj r' r (by rw[q];exact fun e=>nomatch e) (by rw[h];exact fun e=>nomatch e) e) hr
  ·rw[hf a e,M.is]
   constructor
   ·rintro⟨r',rfl,q⟩
    have hr:r'≠r:=fun z=>e (by rw[z])
    exact⟨r',rfl,by rw[upd_ne hr];exact q⟩
   ·rintro⟨r',rfl,q⟩
    have hr:r'≠r:=fun z=>e (by rw[z])
    exact⟨r',rfl,by rw[upd_ne hr]at q;exact q⟩
theorem MemIs.new{r:Rl}{a:Addr}{y:AObj}(M:MemIs adr c m)(h:c r=none)(ha:m a=none)(h1:m' a=some y)(hf:∀ b,b≠a->m' b=m b):MemIs (upd adr r a) (upd c r (some y)) m':=by
 have off:∀ r' x,c r'=some x->adr r'≠a:=fun r' x q e=>by
  have:=M.get q;rw[e,ha]at this;cases this
 refine⟨fun p q hp hq e=>?_,fun b z=>?_⟩
 ·by_cases h1:p=r
  ·by_cases h2:q=r
   ·rw[h1,h2]
   ·rw[h1,upd_self,upd_ne h2]at e
    rw[upd_ne h2]at hq
    cases w:c q with
    | none=>exact absurd w hq
    | some x=>exact absurd e.symm (off q x w)
  ·by_cases h2:q=r
   ·rw[h2,upd_self,upd_ne h1]at e
    rw[upd_ne h1]at hp
    cases w:c p with
    | none=>exact absurd w hp
    | some x=>exact absurd e (off p x w)
   ·rw[upd_ne h1]at hp e
    rw[upd_ne h2]at hq e
    exact M.inj p q hp hq e
 ·by_cases e:b=a
  ·subst e
   rw[h1]
   constructor
   ·intro q;exact⟨r,by rw[upd_self],by rw[upd_self];exact q⟩
   ·rintro⟨r',e,q⟩
    by_cases hr:r'=r
    ·rw[hr,upd_self]at q;exact q
    ·rw[upd_ne hr]at q e
     exact absurd e (off r' _ q)
  ·rw[hf b e,M.is]
   constructor
   ·rintro⟨r',e',q⟩
    have hr:r'≠r:=fun z=>by rw[z,h]at q;cases q
    exact⟨r',by rw[upd_ne hr];exact e',by rw[upd_ne hr];exact q⟩
   ·rintro⟨r',e',q⟩
    have hr:r'≠r:=fun z=>by rw[z,upd_self]at e';exact e e'.symm
    exact⟨r',by rw[upd_ne hr]at e';exact e',by rw[upd_ne hr]at q;exact q⟩
set_option genInjectivity false in
set_option genSizeOf false in
structure Pr where
 name:Str
 body:List Str
 num:Int
 prec:V
 func:V
 file:V
 line:V
set_option genInjectivity false in
set_option genSizeOf false in
structure GR where
 p0:V
 prods:List Pr
 pn:List Str
 te:List (Str×List Int)
 no:List (Str×List Int)
 fi:List (Str×List Str)
 fo:List (Str×List Str)
 pr:List (Str×V)
 up:V
 start:V
 upo:Option AObj:=none
noncomputable def pV(C:Addr)(p:Pr):V:=.ins C (prodAttrs (.int p.num) p.name p.body p.prec p.func p.file p.line)
noncomputable def vInts(ns:List Int):List V:=ns.map .int
noncomputable def leaf:Rl->Bool
 | .teL _|.noL _|.pnL _|.fiL _|.foL _=>true
 | _=>false
theorem leaf_ne{r r':Rl}(h:leaf r=false)(h':leaf r'=true):r≠r':=fun e=>by rw[e,h']at h;cases h
noncomputable def gKeys:List (Str×Rl):=[("Productions",.pl),("Prodnames",.pn),("Prodmap",.pm),("Terminals",.te),("Nonterminals",.no),("First",.fi),("Follow",.fo),("Precedence",.pr)]
noncomputable def gAttrs(adr:Rl->Addr)(own:Bool)(up start:V):List (Str×V):=gKeys.map (fun q=>(q.1,V.ref (adr q.2)))++[((Str.ofString "UsedPrecedence"),bif own then .ref (adr .up) else up),((Str.ofString "Start"),start)]
theorem gKeys_leaf:gKeys.all (fun q=>leaf q.2==false)=true:=rfl
theorem gAttrs_eq{adr adr':Rl->Addr}{own:Bool}{up st:V}(h:∀ r,leaf r=false->adr r=adr' r):gAttrs adr own up st=gAttrs adr' own up st:=by
 have e:gKeys.map (fun q=>(q.1,V.ref (adr q.2)))=gKeys.map (fun q=>(q.1,V.ref (adr' q.2))):=List.map_congr_left fun(q:Str×Rl) hq=>congrArg (fun a=>(q.1,V.ref a)) (h q.2 (eq_of_beq (List.all_eq_true.mp gKeys_leaf q hq)))
 unfold gAttrs
 rw[e,h .up rfl]
structure GOk(C CP:Addr)(adr:Rl->Addr)(c:Rl->Option AObj)(g:GR):Prop where
 self:c .self=some (.inst C (adr .dict))
 dict:∃ ep,c .dict=some (.dict (gAttrs adr g.upo.isSome g.up g.start) ep)
 pl:c .pl=some (.list (g.p0::g.prods.map (pV CP)))
 pn:∃ ep,c .pn=some (.dict (g.pn.map fun k=>(k,.ref (adr (.pnL k)))) ep)
 pnL:∀ k,c (.pnL k)=if k∈g.pn then some (.list ((g.prods.filter fun p=>p.name=k).map (pV CP))) else none
 pm:∃ ep,c .pm=some (.dict (g.prods.map fun p=>(mapText p.name p.body,pV CP p)) ep)
 te:∃ ep,c .te=some (.dict (g.te.map fun q=>(q.1,.ref (adr (.teL q.1)))) ep)
 teL:∀ k,c (.teL k)=(g.te.lookup k).map fun ns=>.list (vInts ns)
 no:∃ ep,c .no=some (.dict (g.no.map fun q=>(q.1,.ref (adr (.noL q.1)))) ep)
 noL:∀ k,c (.noL k)=(g.no.lookup k).map fun ns=>.list (vInts ns)
 fi:∃ ep,c .fi=some (.dict (g.fi.map fun q=>(q.1,.ref (adr (.fiL q.1)))) ep)
 fiL:∀ k,c (.fiL k)=(g.fi.lookup k).map fun ns=>.list (vStrs ns)
 fo:∃ ep,c .fo=some (.dict (g.fo.map fun q=>(q.1,.ref (adr (.foL q.1)))) ep)
 foL:∀ k,c (.foL k)=(g.fo.lookup k).map fun ns=>.list (vStrs ns)
 pr:∃ ep,c .pr=some (.dict g.pr ep)
 up:c .up=g.upo
noncomputable def GMem(C CP:Addr)(g:GR)(a:Addr)(m:Mem):Prop:=∃ adr c,MemIs adr c m/\GOk C CP adr c g/\adr .self=a
theorem getA_map{β:Type}(l:List (Str×β))(f:Str->V)(k:Str):getA (l.map fun q=>(q.1,f q.1)) k=if (l.map (·.1)).contains k then some (f k) else none:=by
 induction l with
 | nil=>rfl
 | cons q l ih=>
  unfold getA at ih ⊢
  rw[List.map_cons,List.find?_cons,List.map_cons,List.contains_cons]
  by_cases h:q.1=k
  ·have e:(k==q.1)=true:=by simpa using h.symm
   simp[h]
  ·have e:(k==q.1)=false:=by simpa using (Ne.symm h)
   have e2:decide (q.1=k)=false:=decide_eq_false h
   simp only [e2,e,Bool.false_or]
   exact ih
theorem stA_new{es:List (Str×V)}{k:Str}{v:V}(h:getA es k=none):stA es k v=es++[(k,v)]:=by
 unfold stA
 rw[if_neg]
 intro q
 obtain⟨e,he,hk⟩:=List.any_eq_true.mp q
 unfold getA at h
 rw[Option.map_eq_none_iff,List.find?_eq_none]at h
 exact h e he hk
theorem lookup_contains{β:Type}(l:List (Str×β))(k:Str):(l.lookup k).isSome=(l.map (·.1)).contains k:=by
 induction l with
 | nil=>rfl
 | cons q l ih=>
  obtain⟨a,b⟩:=q
  rw[List.lookup_cons,List.map_cons,List.contains_cons]
  cases h:k==a with
  | true=>rfl
  | false=>simp only [Bool.false_or];exact ih
end
noncomputable def SetB(W:Wd)(o:Obj)(S:Str->Bool)(n:Nat):Prop:=∀ (h:Heap) (a:Addr),h.get? a=some o->h.SetOf (strKind W.prog W.w) a S n
section
variable {W:Wd}{A:Around}{env:Env}{outer:Outs}{loc:Loc}{mem R:Mem}{E:Ex W}{F:Frz}{s:Shared}{S:Str->Bool}{n:Nat}
theorem SetB.of{h:Heap}{a:Addr}(q:h.SetOf (strKind W.prog W.w) a S n):∃ o,h.get? a=some o/\SetB W o S n:=by
 obtain⟨o,es,ep,t,e,r⟩:=q
 exact⟨o,e,fun h' a' e'=>⟨o,es,ep,t,e',r⟩⟩
theorem set_new0{Q:V->Loc->Mem->Prop}(h:∀ a o m',mem a=none->SetB W o (fun _=>false) 0->m' a=some (.raw o)->(∀ b,b≠a->m' b=mem b)->Q (.ref a) loc m'):OpV W A env outer (fun vs=>call (.type "set") vs) [] loc mem Q E:=fun R F s vs S r=>by
 obtain rfl:=r.isNil
 refine call_set_0 fun led=>?_
 refine Post.mk (.ref _) (S.alloc (t:=s.toks) (d:=s.drawn) (x:=.raw _) (get?_size s.heap) S.size_le (fun b o e=>Heap.get?_push_of_some _ e) (Heap.get?_push_size _ rfl) .raw) (h _ _ _ (S.free (get?_size s.heap)).1 ?_ (mset_self _ _ _) fun b hb=>mset_ne hb)
 intro h a e
 exact⟨_,#[],0,_,e,⟨rfl,rfl,rfl⟩,rfl,fun e he=>by simp at he,fun k=>by simp,by decide,rfl,rfl⟩
theorem in_setB{a:Addr}{o:Obj}{x:Str}{Q:V->Loc->Mem->Prop}(h1:mem a=some (.raw o))(T:SetB W o S n)(h:Q (.bool (S x)) loc mem) :
  OpV W A env outer (fun|[x,y]=>compareOp .In x y|_=>pure .none) [.str x,.ref a] loc mem Q E:=op2 fun R F s v u S r1 r2=>by
 obtain⟨_,rfl⟩:=r1.isStr;obtain rfl:=r2.isRef
 obtain⟨o',ho,q⟩:=S.memOk _ _ h1
 cases q.view
 exact wpAny_inSet_of (strKind_is _ _ x _) rfl (T _ _ ho) (Post.mk (.bool _) S.tick h)
theorem add_setB{a:Addr}{o:Obj}{x:Str}{Q:V->Loc->Mem->Prop}(h1:mem a=some (.raw o))(T:SetB W o S n)(hz:n+1<scanBound)
  (h:∀ o' m',SetB W o' (fun k=>S k || decide (k=x)) (if S x then n else n+1)->m' a=some (.raw o')->(∀ b,b≠a->m' b=mem b)->Q .none loc m') :
  OpV W A env outer (fun vs=>call (.builtin "set.add") vs) [.ref a,.str x] loc mem Q E:=op2 fun R F s v u S r1 r2=>by
 obtain rfl:=r1.isRef;obtain⟨_,rfl⟩:=r2.isStr
 obtain⟨o',ho,q⟩:=S.memOk _ _ h1
 cases q.view
 refine call_set_add (strKind_is _ _ x _) rfl (T _ _ ho) hz fun h' hsb hS=>?_
 obtain⟨o',e,T'⟩:=SetB.of hS
 exact Post.mk .none (S.upd (t:=s.toks+1) (d:=s.drawn) (x':=.raw o') h1 (fun b ob hb e=>(hsb.2 b hb).trans e) e .raw) (h o' _ T' (mset_self _ _ _) fun b hb=>mset_ne hb)
theorem m_add_setB{a:Addr}{o:Obj}{pl:Sem Bool}{pos:Pos}{e:PySem.Expr}{rest:List PySem.Expr}{Q:V->Loc->Mem->Prop}(h1:mem a=some (.raw o))(T:SetB W o S n)
  (he:starEach (e::rest) env=(false,eval e env)::starEach rest env) (hplain:(backTo pos (starEach rest env)).any (·.1)=false)
  (h:TrL W A env outer (spliced (backTo pos (starEach (e::rest) env))) loc mem (fun xs l m=>Op W A env outer (VR W) (fun vs=>call (.builtin "set.add") vs) (.ref a::xs) l m Q E) E) :
  Meth W A env outer "add" pl pos (e::rest) (.ref a) loc mem Q E:=fun R F s v' S r=>by
 obtain rfl:=r.isRef
 obtain⟨o',ho,q⟩:=S.memOk _ _ h1
 cases q.view
 have hS:=T _ _ ho
 refine getMethod_builtin hS.typeIs PySem.F.plainAttrs_set PySem.F.slot_set_add PySem.F.type_set_add hS.noDict ?_
 rw[he]
 refine Calls.callWith_builtin (by show(false || (backTo pos (starEach rest env)).any (·.1))=false;rw[hplain];rfl) (Calls.evalArgs_plain ?_)
 have h':=h R F s S
 rw[he]at h'
 refine after (i:=.refl _) (RW:=VR W) (Q:=fun _ _ _=>True) h' fun vs s' F1 xs l1 m1 i1 r1 S1 h1=>?_
 exact wpAny_mono (h1 R F1 s' (.ref a::vs) S1 (.cons (.ref a) r1)) (fun _ _ p=>p.weaken i1) fun _ _ e=>E.up i1 e
end
section
variable {W:Wd}{A:Around}{env:Env}{outer:Outs}{loc:Loc}{mem:Mem}{E:Ex W}
noncomputable def g0(ts:List Str)(o:Obj):GR:={ p0:=.none,prods:=[],pn:=[],te:=ts.map (fun t=>(t,([]:List Int)))++[(("error" : Str),[])],no:=[],fi:=[],fo:=[],pr:=[],up:=.none,start:=.none,upo:=some (.raw o) }
inductive P2C_J1(ts:List Str)(adr1:Rl->Addr)(cc1:Rl->Option AObj)(k:Nat)(i:Nat)(l:Loc)(m:Mem):Prop
 | mk (h1_:k+i=ts.length) (h2_:LSub [("self",.ref (adr1 .self))] l) (adr:_) (cc:_) (h3_:MemIs adr cc m) (h4_:(∀ r,(∀ k,r≠.teL k)->adr r=adr1 r)) (h5_:(∀ r,(∀ k,r≠.teL k)->r≠.te->cc r=cc1 r)) (h6_:(∃ ep,cc .te=some (.dict ((ts.take i).map fun t=>(t,.ref (adr (.teL t)))) ep))) (h7_:∀ k,cc (.teL k)=if k∈ts.take i then some (.list []) else none)
theorem gInit_spec{ts:List Str}{Q:V->Loc->Mem->Prop}(hK:W.K=hdK W.w.params)(c:Calm A 700 6000)(hz:ts.length≤100)(hnd:ts.Nodup)(he:("error" : Str)∉ts)
  (h:∀ a m o,SetB W o (fun _=>false) 0->GMem aGrammar aProd (g0 ts o) a m->Q (.ref a) loc m):OpV W A env outer (fun vs=>call (.ref aGrammar) vs) [.lst (vStrs ts)] loc (fun _=>none) Q E:=by
 refine call_cls (C:=aGrammar) (f:=aGInit) (bs:=fun x=>[("self",.ref x),("terminals",.lst (vStrs ts))]) (by rw[hK];first|rfl|kernel_rfl|decide +kernel) (by rw[hK];first|rfl|kernel_rfl|decide +kernel) (by rw[hK];first|rfl|kernel_rfl|decide +kernel)
  (by rw[hK];exact gInit.at _) (by rw[hK];first|rfl|kernel_rfl|decide +kernel) (Nat.lt_of_le_of_lt (Nat.succ_le_succ c.depth) (by decide)) ?_ (by intro x y hy;simp at hy;rcases hy with rfl|rfl<;>rfl) (by decide) rfl rfl rfl ?_
 ·intro x F s vs hb hk r
  cases r with
  | cons r0 r=>cases r with
   | cons r1 r=>
    cases r
    exact⟨_,BindsTo.of_eq rfl,.cons r0 (.cons r1 .nil)⟩
 ·intro A' x d hA hh hg hfr hu mx md hxd L outer
  have c1:Calm A' 701 6008:=⟨hh.trans c.handled,hg.trans c.guards,by have:=c.depth;lia ,by have:=c.units;lia ⟩
  have cd:=c1.deeper (envX "Grammar.__init__" gInit.scope L 137 gInit.code [])
  obtain⟨m,hm⟩:∃ m,m=mset (mset (fun _=>none) d (.dict [] 0)) x (.inst aGrammar d):=⟨_,rfl⟩
  obtain⟨adr,cc,M,e1,e2,hadr,hcc⟩:∃ (adr:Rl->Addr) (cc:Rl->Option AObj),MemIs adr cc m/\cc .self=some (.inst aGrammar d)/\cc .dict=some (.dict [] 0)/\(adr .self=x/\adr .dict=d)/\∀ r,r≠.self->r≠.dict->cc r=none:=by
   have M0:MemIs (fun _=>x) (fun _=>none) (fun _=>none):=⟨fun r r' h=>absurd rfl h,fun a z=>⟨fun e=>(nomatch e),fun⟨_,_,e⟩=>(nomatch e)⟩⟩
   have M1:=M0.new (r:=.dict) (m':=mset (fun _=>none) d (.dict [] 0)) (a:=d) rfl rfl (mset_self _ _ _) fun b hb=>mset_ne hb
   have M2:=M1.new (r:=.self) (m':=m) (a:=x) rfl (mset_ne hxd) (by rw[hm,mset_self]) fun b hb=>by rw[hm,mset_ne hb]
   exact⟨_,_,M2,rfl,rfl,⟨rfl,rfl⟩,fun r h1 h2=>by rw[upd_ne h1,upd_ne h2]⟩
  rw[<-hm]
  clear hm
  obtain⟨rfl,rfl⟩:=hadr
  (refine nameS ?_;intro aa vv oo qq ee;refine s_cons ?_);refine s_assign_attr rfl ?_;refine e_list ?_;refine a_pus rfl ?_
  refine new_own' (by decide) (fun a1 m1 ha1 hl1 hf1=>?_)
  have M:=M.new (r:=.pl) (hcc _ (by decide) (by decide)) ha1 hl1 hf1
  refine pu rfl ?_
  refine set_o hK (fun _=>by kernel_rfl) (M.get (r:=.self) e1) (M.get (r:=.dict) e2) rfl (fun m ep hx hd hf=>?_)
  have hd:_=some (AObj.dict [(Str.ofString "Productions",_)] _):=hd
  have M:=M.set (r:=.dict) e2 hd hf
  clear hx hd hf
  refine s_cons ?_;refine s_assign_attr rfl ?_
  refine e_dict0' (fun a1 m1 ha1 hl1 hf1=>?_)
  have M:=M.new (r:=.pn) (hcc _ (by decide) (by decide)) ha1 hl1 hf1
  clear ha1 hl1 hf1
  refine pu rfl ?_
  refine set_o hK (fun _=>by kernel_rfl) (M.get (r:=.self) e1) (M.get (r:=.dict) rfl) rfl (fun m ep hx hd hf=>?_)
  have hd:_=some (AObj.dict [(Str.ofString "Productions",_),(Str.ofString "Prodnames",_)] _):=hd
  have M:=M.set (r:=.dict) rfl hd hf
  clear hx hd hf
  refine s_cons ?_;refine s_assign_attr rfl ?_
  refine e_dict0' (fun a1 m1 ha1 hl1 hf1=>?_)
  have M:=M.new (r:=.pm) (hcc _ (by decide) (by decide)) ha1 hl1 hf1
  clear ha1 hl1 hf1
  refine pu rfl ?_
  refine set_o hK (fun _=>by kernel_rfl) (M.get (r:=.self) e1) (M.get (r:=.dict) rfl) rfl (fun m ep hx hd hf=>?_)
  have hd:_=some (AObj.dict [(Str.ofString "Productions",_),(Str.ofString "Prodnames",_),(Str.ofString "Prodmap",_)] _):=hd
  have M:=M.set (r:=.dict) rfl hd hf
  clear hx hd hf
  refine s_cons ?_;refine s_assign_attr rfl ?_
  refine e_dict0' (fun a1 m1 ha1 hl1 hf1=>?_)
  have M:=M.new (r:=.te) (hcc _ (by decide) (by decide)) ha1 hl1 hf1
  clear ha1 hl1 hf1
  refine pu rfl ?_
  refine set_o hK (fun _=>by kernel_rfl) (M.get (r:=.self) e1) (M.get (r:=.dict) rfl) rfl (fun m ep hx hd hf=>?_)
  have hd:_=some (AObj.dict [(Str.ofString "Productions",_),(Str.ofString "Prodnames",_),(Str.ofString "Prodmap",_),(Str.ofString "Terminals",_)] _):=hd
  have M:=M.set (r:=.dict) rfl hd hf
  clear hx hd hf
  refine s_cons ?_;refine s_for (fun _=>rfl) ?_;refine pu rfl ?_
  obtain⟨adr1,cc1,M,fs,fd,fself,⟨epd,fdict⟩,fpl,fpn,fpm,fte,fno⟩:∃ (adr1:Rl->Addr) (cc1:Rl->Option AObj),MemIs adr1 cc1 m/\adr1 .self=adr .self/\adr1 .dict=adr .dict/\cc1 .self=some (.inst aGrammar (adr1 .dict))/\(∃ ep,cc1 .dict=some (.dict [("Productions",.ref (adr1 .pl)),("Prodnames",.ref (adr1 .pn)),("Prodmap",.ref (adr1 .pm)),("Terminals",.ref (adr1 .te))] ep))/\cc1 .pl=some (.list [.none])/\cc1 .pn=some (.dict [] 0)/\cc1 .pm=some (.dict [] 0)/\cc1 .te=some (.dict [] 0)/\(∀ r,r≠.self->r≠.dict->r≠.pl->r≠.pn->r≠.pm->r≠.te->cc1 r=none):=by
   refine⟨_,_,M,rfl,rfl,e1,⟨_,rfl⟩,rfl,rfl,rfl,rfl,fun r h1 h2 h3 h4 h5 h6=>?_⟩
   simp[upd,h1,h2,h3,h4,h5,h6,hcc]
  rw[<-fs]at hxd ⊢
  let J1:Nat->Nat->Loc->Mem->Prop:=P2C_J1 ts adr1 cc1
  refine for_k (itr_lst cd.handled) J1 ?_ ts.length ⟨rfl,rfl,adr1,cc1,M,fun _ _=>rfl,fun _ _ _=>rfl,⟨0,fte⟩,fun k=>by simp;exact fno _ (by simp) (by simp) (by simp) (by simp) (by simp) (by simp)⟩
  ·rintro k i l m2 ⟨hk,hl,adr2,cc2,M,hadr,hcc2,⟨ep2,hte⟩,htl⟩
   have s2:adr2 .self=adr1 .self:=hadr _ (by simp)
   have self2:cc2 .self=some (.inst aGrammar (adr2 .dict)):=by rw[hadr .dict (by simp),hcc2 _ (by simp) (by simp)];exact fself
   have dict2:cc2 .dict=some (.dict [("Productions",.ref (adr2 .pl)),("Prodnames",.ref (adr2 .pn)),("Prodmap",.ref (adr2 .pm)),("Terminals",.ref (adr2 .te))] epd):=by
    rw[hadr .pl (by simp),hadr .pn (by simp),hadr .pm (by simp),hadr .te (by simp),hcc2 _ (by simp) (by simp)];exact fdict
   have no2:∀ r,(∀ k,r≠.teL k)->r≠.self->r≠.dict->r≠.pl->r≠.pn->r≠.pm->r≠.te->cc2 r=none:=fun r h0 h1 h2 h3 h4 h5 h6=>by rw[hcc2 r h0 h6];exact fno r h1 h2 h3 h4 h5 h6
   have pl2:cc2 .pl=some (.list [.none]):=by rw[hcc2 _ (by simp) (by simp)];exact fpl
   have pn2:cc2 .pn=some (.dict [] 0):=by rw[hcc2 _ (by simp) (by simp)];exact fpn
   have pm2:cc2 .pm=some (.dict [] 0):=by rw[hcc2 _ (by simp) (by simp)];exact fpm
   clear hxd fself fdict fno
   refine⟨by simp[setItem_],fun hn1=>?_,fun v hv=>?_⟩
   ·have hn1:(vStrs ts)[i]? = none:=Option.some.inj hn1
    rw[List.getElem?_eq_none_iff,vStrs_len]at hn1
    obtain rfl:i=ts.length:=by lia
    rw[List.take_length]at hte htl
    refine Tr.locs hl ?_
    rw[<-s2]
    refine s_nil ?_;refine s_cons ?_;refine s_assign_sub rfl ?_;refine e_list ?_;refine a_nil ?_
    refine new_own' (by decide) (fun a1 m1 ha1 hl1 hf1=>?_)
    have hnew:cc2 (.teL "error")=none:=by rw[htl,if_neg he]
    have M1:=M.new (r:=.teL "error") hnew ha1 hl1 hf1
    clear ha1 hl1 hf1
    refine e_attr1 rfl rfl ?_
    refine get_o hK (fun _=>by kernel_rfl) (.own (M1.get (r:=.self) self2) (M1.get (r:=.dict) dict2)) rfl rfl ?_
    refine e_str ?_
    refine setItem_dict' (M1.get (r:=.te) hte) (by rw[List.length_map];(try rw[List.length_take]);exact Nat.le_trans (by lia ) (show 100≤sizeLine by decide)) (fun m3 ep3 hl3 hf3=>?_)
    have M2:=M1.set (r:=.te) hte hl3 hf3
    refine s_cons ?_;refine s_assign_attr rfl ?_
    have M:=M2
    clear M1 M2
    refine e_dict0' (fun a1 m1 ha1 hl1 hf1=>?_)
    have M:=M.new (r:=.no) (no2 _ (by simp) (by simp) (by simp) (by simp) (by simp) (by simp) (by simp)) ha1 hl1 hf1
    clear ha1 hl1 hf1
    refine pu rfl ?_
    refine set_o hK (fun _=>by kernel_rfl) (M.get (r:=.self) self2) (M.get (r:=.dict) dict2) rfl (fun m ep hx hd hf=>?_)
    have hd:_=some (AObj.dict [(Str.ofString "Productions",_),(Str.ofString "Prodnames",_),(Str.ofString "Prodmap",_),(Str.ofString "Terminals",_),(Str.ofString "Nonterminals",_)] _):=hd
    have M:=M.set (r:=.dict) dict2 hd hf
    clear hx hd hf
    refine s_cons ?_;refine s_assign_attr rfl ?_
    refine e_dict0' (fun a1 m1 ha1 hl1 hf1=>?_)
    have M:=M.new (r:=.fi) (no2 _ (by simp) (by simp) (by simp) (by simp) (by simp) (by simp) (by simp)) ha1 hl1 hf1
    clear ha1 hl1 hf1
    refine pu rfl ?_
    refine set_o hK (fun _=>by kernel_rfl) (M.get (r:=.self) self2) (M.get (r:=.dict) rfl) rfl (fun m ep hx hd hf=>?_)
    have hd:_=some (AObj.dict [(Str.ofString "Productions",_),(Str.ofString "Prodnames",_),(Str.ofString "Prodmap",_),(Str.ofString "Terminals",_),(Str.ofString "Nonterminals",_),(Str.ofString "First",_)] _):=hd
    have M:=M.set (r:=.dict) rfl hd hf
    clear hx hd hf
    refine s_cons ?_;refine s_assign_attr rfl ?_
    refine e_dict0' (fun a1 m1 ha1 hl1 hf1=>?_)
    have M:=M.new (r:=.fo) (no2 _ (by simp) (by simp) (by simp) (by simp) (by simp) (by simp) (by simp)) ha1 hl1 hf1
    clear ha1 hl1 hf1
    refine pu rfl ?_
    refine set_o hK (fun _=>by kernel_rfl) (M.get (r:=.self) self2) (M.get (r:=.dict) rfl) rfl (fun m ep hx hd hf=>?_)
    have hd:_=some (AObj.dict [(Str.ofString "Productions",_),(Str.ofString "Prodnames",_),(Str.ofString "Prodmap",_),(Str.ofString "Terminals",_),(Str.ofString "Nonterminals",_),(Str.ofString "First",_),(Str.ofString "Follow",_)] _):=hd
    have M:=M.set (r:=.dict) rfl hd hf
    clear hx hd hf
    refine s_cons ?_;refine s_assign_attr rfl ?_
    refine e_dict0' (fun a1 m1 ha1 hl1 hf1=>?_)
    have M:=M.new (r:=.pr) (no2 _ (by simp) (by simp) (by simp) (by simp) (by simp) (by simp) (by simp)) ha1 hl1 hf1
    clear ha1 hl1 hf1
    refine pu rfl ?_
    refine set_o hK (fun _=>by kernel_rfl) (M.get (r:=.self) self2) (M.get (r:=.dict) rfl) rfl (fun m ep hx hd hf=>?_)
    have hd:_=some (AObj.dict [(Str.ofString "Productions",_),(Str.ofString "Prodnames",_),(Str.ofString "Prodmap",_),(Str.ofString "Terminals",_),(Str.ofString "Nonterminals",_),(Str.ofString "First",_),(Str.ofString "Follow",_),(Str.ofString "Precedence",_)] _):=hd
    have M:=M.set (r:=.dict) rfl hd hf
    clear hx hd hf
    refine s_cons ?_;refine s_assign_attr rfl ?_;refine c_name rfl ?_;refine e_bootV hK (fun _=>rfl) ?_;refine c_type0 ?_
    refine set_new0 (fun a1 o1 m1 ha1 hT hl1 hf1=>?_)
    have M:=M.new (r:=.up) (no2 _ (by simp) (by simp) (by simp) (by simp) (by simp) (by simp) (by simp)) ha1 hl1 hf1
    clear ha1 hl1 hf1
    refine pu rfl ?_
    refine set_o hK (fun _=>by kernel_rfl) (M.get (r:=.self) self2) (M.get (r:=.dict) rfl) rfl (fun m ep hx hd hf=>?_)
    have hd:_=some (AObj.dict [(Str.ofString "Productions",_),(Str.ofString "Prodnames",_),(Str.ofString "Prodmap",_),(Str.ofString "Terminals",_),(Str.ofString "Nonterminals",_),(Str.ofString "First",_),(Str.ofString "Follow",_),(Str.ofString "Precedence",_),(Str.ofString "UsedPrecedence",_)] _):=hd
    have M:=M.set (r:=.dict) rfl hd hf
    clear hx hd hf
    refine s_cons ?_;refine s_assign_attr2 rfl rfl rfl ?_
    refine set_o hK (fun _=>by kernel_rfl) (M.get (r:=.self) self2) (M.get (r:=.dict) rfl) rfl (fun m ep hx hd hf=>?_)
    have hd:_=some (AObj.dict [(Str.ofString "Productions",_),(Str.ofString "Prodnames",_),(Str.ofString "Prodmap",_),(Str.ofString "Terminals",_),(Str.ofString "Nonterminals",_),(Str.ofString "First",_),(Str.ofString "Follow",_),(Str.ofString "Precedence",_),(Str.ofString "UsedPrecedence",_),(Str.ofString "Start",_)] _):=hd
    have M:=M.set (r:=.dict) rfl hd hf
    clear hx hd hf
    refine s_nil ?_
    have gets:∀ (b:Addr) (l:List Str),getA (l.map fun t=>(t,V.ref (adr2 (.teL t)))) "error" = if l.contains ("error" : Str) then some (.ref (adr2 (.teL "error"))) else none:=fun b l=>by
     have:=getA_map (l.map fun t=>(t,())) (fun t=>V.ref (adr2 (.teL t))) "error"
     rw[List.map_map,List.map_map]at this
     simpa [Function.comp_def] using this
    refine⟨m,sub_refl _,rfl,h _ _ o1 hT ⟨_,_,M,?_,s2.trans fs⟩⟩
    refine {
     self:=self2
     dict:=⟨_,rfl⟩
     pl:=pl2
     pn:=⟨_,pn2⟩
     pnL:=fun k=>(no2 (.pnL k) (by simp) (by simp) (by simp) (by simp) (by simp) (by simp) (by simp)).trans rfl
     pm:=⟨_,pm2⟩
     te:=⟨ep3,?_⟩
     teL:=fun k=>?_
     no:=⟨_,rfl⟩
     noL:=fun k=>no2 (.noL k) (by simp) (by simp) (by simp) (by simp) (by simp) (by simp) (by simp)
     fi:=⟨_,rfl⟩
     fiL:=fun k=>no2 (.fiL k) (by simp) (by simp) (by simp) (by simp) (by simp) (by simp) (by simp)
     fo:=⟨_,rfl⟩
     foL:=fun k=>no2 (.foL k) (by simp) (by simp) (by simp) (by simp) (by simp) (by simp) (by simp)
     pr:=⟨_,rfl⟩
     up:=rfl }
    ·show some (AObj.dict (stA _ _ _) _)=_
     rw[stA_new (by rw[gets 0];rw[if_neg (by rw[List.contains_iff_mem];exact he)])]
     simp only [g0,List.map_append,List.map_map,List.map_cons,List.map_nil,Function.comp_def]
     refine congrArg (fun z=>some (AObj.dict z ep3)) (congr (congrArg _ (List.map_congr_left fun t ht=>?_)) ?_)
     ·have:t≠"error":=fun e=>he (e▸ht)
      simp[upd,this]
     ·simp[upd]
    ·have hlk:((g0 ts o1).te.lookup k).map (fun ns=>AObj.list (vInts ns))=if k = "error" then some (.list []) else if k∈ts then some (.list []) else none:=by
      have hl:∀ (l:List Str),(l.map fun t=>(t,([]:List Int))).lookup k=if k∈l then some [] else none:=fun l=>by
       induction l with
       | nil=>rfl
       | cons z l ih=>
        rw[List.map_cons,List.lookup_cons,ih]
        by_cases e:k=z
        ·subst e;simp
        ·have:(k==z)=false:=by simpa using e
         simp[this,e]
      show((ts.map (fun t=>(t,([]:List Int)))++[(("error" : Str),[])]).lookup k).map _=_
      rw[lookup_append',hl]
      by_cases e:k = "error"
      ·subst e;rw[if_neg he,if_pos rfl];simp[List.lookup,vInts]
      ·have:(k==("error" : Str))=false:=by simpa using e
       by_cases e2:k∈ts
       ·rw[if_pos e2,if_neg e,if_pos e2];rfl
       ·rw[if_neg e2,if_neg e,if_neg e2];simp[List.lookup,this]
     rw[hlk]
     by_cases e:k = "error"
     ·subst e;simp[upd]
     ·rw[if_neg e,<-htl k]
      simp[upd,e]
   ·have hi:(vStrs ts)[i]? = some v:=Option.some.inj hv
    obtain⟨y,rfl,hy1⟩:∃ y,v = .str y/\ts[i]? = some y:=by
     unfold vStrs at hi
     rw[List.getElem?_map]at hi
     cases e:ts[i]? with
     | none=>rw[e]at hi;cases hi
     | some y=>rw[e]at hi;exact⟨y,(Option.some.inj hi).symm,rfl⟩
    refine Op.locs hl ?_
    rw[<-s2]
    refine asg_name1 rfl rfl ?_;(refine nameQ ?_;intro qq ee;refine s_cons ?_);refine s_assign_sub rfl ?_;refine e_list ?_;refine a_nil ?_
    refine new_own' (by decide) (fun a1 m1 ha1 hl1 hf1=>?_)
    have hny:y∉ts.take i:=fun q=>by
     have hlt:i<ts.length:=by rw[List.getElem?_eq_some_iff]at hy1;exact hy1.1
     have e:=take_snoc hy1
     have nd:(ts.take (i+1)).Nodup:=hnd.sublist (List.take_sublist _ _)
     rw[e,List.nodup_append]at nd
     exact nd.2.2 y q y (by simp) rfl
    have hnew:cc2 (.teL y)=none:=by rw[htl,if_neg hny]
    have M1:=M.new (r:=.teL y) hnew ha1 hl1 hf1
    refine e_attr1 rfl rfl ?_
    refine get_o hK (fun _=>by kernel_rfl) (.own (M1.get (r:=.self) self2) (M1.get (r:=.dict) dict2)) rfl rfl ?_
    refine pu rfl ?_
    refine setItem_dict' (M1.get (r:=.te) hte) (by rw[List.length_map];(try rw[List.length_take]);exact Nat.le_trans (by lia ) (show 100≤sizeLine by decide)) (fun m3 ep3 hl3 hf3=>?_)
    have M2:=M1.set (r:=.te) hte hl3 hf3
    refine s_nil ?_
    refine⟨k - 1,(by have hlt:i<ts.length:=(by rw[List.getElem?_eq_some_iff]at hy1;exact hy1.1);lia),(by have hlt:i<ts.length:=(by rw[List.getElem?_eq_some_iff]at hy1;exact hy1.1);lia),by rw[s2];rfl,_,_,M2,fun r hr=>?_,fun r hr h2=>?_,⟨ep3,?_⟩,fun k'=>?_⟩
    ·rw[upd_ne (hr y)];exact hadr r hr
    ·rw[upd_ne h2,upd_ne (hr y)];exact hcc2 r hr h2
    ·rw[upd_self,stA_new]
     ·rw[take_snoc hy1,List.map_append]
      refine congrArg (fun z=>some (AObj.dict z ep3)) (congr (congrArg _ (List.map_congr_left fun t ht=>?_)) ?_)
      ·have:t≠y:=fun e=>hny (e▸ht)
       simp[upd,this]
      ·simp[upd]
     ·have:=getA_map ((ts.take i).map fun t=>(t,())) (fun t=>V.ref (adr2 (.teL t))) y
      rw[List.map_map,List.map_map]at this
      rw[show((ts.take i).map fun t=>(t,V.ref (adr2 (.teL t))))=List.map ((fun q:Str×Unit=>(q.1,V.ref (adr2 (.teL q.1)))) ∘ fun t=>(t,())) (ts.take i) from rfl,this,if_neg]
      rw[List.contains_iff_mem]
      intro q;apply hny;simpa [Function.comp_def] using q
    ·rw[upd_ne (by simp)]
     by_cases e:k'=y
     ·subst e
      rw[upd_self,take_snoc hy1,if_pos (by simp)]
     ·rw[upd_ne (by simpa using e),htl,take_snoc hy1]
      simp[e]
end
noncomputable def isNone:Value->Bool
 | .none=>true
 | _=>false
theorem isNone_shape{v:Value}(h:isNone v=true):v = .none:=by cases v<;>first|rfl|cases h
noncomputable def noneKind(prog:Program)(w:World):KeyKind prog w Unit where
 is _ v:=isNone v
 hash _:=hashW w.params .none
 inj _ _ _ _ _:=rfl
 byValue _ v h:=by rw[isNone_shape h];rfl
 pyHash:=by
  intro A E s k v Q h q
  rw[isNone_shape h]
  exact pyHash_slot (T:="NoneType") rfl PySem.F.slot_NoneType_hash PySem.F.entry_NoneType_hash (PySem.F.args_NoneType_hash_1 _) (beq_builtin_none _) (.inl rfl) (wpAny_bind (wpAny_pure (wpAny_bind (wpAny_mkInt (wpAny_pure ⟨_,_,rfl,q⟩)))))
 eqBool:=by
  intro A E s a b u v Q h1 h2 q
  rw[isNone_shape h1,isNone_shape h2]
  unfold PySem.eqBool
  refine wpAny_holding ?_
  show wpAny _ _ (do rule "eq-bool.same-object";return true) _ _ _
  exact wpAny_bind (wpAny_rule (wpAny_pure q))
 «strs»:=fun k x t v h=>by cases h
section
variable {W:Wd}{A:Around}{env:Env}{outer:Outs}{loc:Loc}{mem R:Mem}{E:Ex W}{F:Frz}{s:Shared}
end
theorem toPy_strs(ys:List Str):(vStrs ys).map (toPy 0)=ys.map .str:=by unfold vStrs;rw[List.map_map];rfl
theorem strs_showable(ys:List Str):(PyData.list (ys.map .str)).showable=true:=by
 simp only [PyData.showable]
 induction ys with
 | nil=>rfl
 | cons y ys ih=>simp only [List.map_cons,PyData.showableAll,PyData.showable,Bool.true_and];exact ih
theorem strs_noDict(ys:List Str):(PyData.list (ys.map .str)).hasDict=false:=by
 simp only [PyData.hasDict]
 induction ys with
 | nil=>rfl
 | cons y ys ih=>simp only [List.map_cons,PyData.hasDictAll,PyData.hasDict,Bool.false_or];exact ih
theorem strs_depth(ys:List Str):(PyData.list (ys.map .str)).depth≤1:=by
 rw[PyData.depth]
 refine Nat.succ_le_succ ?_
 induction ys with
 | nil=>exact Nat.le_refl _
 | cons y ys ih=>rw[List.map_cons,PyData.depthAll];exact Nat.max_le.mpr ⟨by rw[PyData.depth];exact Nat.zero_le _,ih⟩
theorem strs_len{ys:List Str}(h:∀ y∈ys,y.cps.size≤100/\PyData.strOk y=true)(hz:ys.length≤100):(PyData.list (ys.map .str)).shown.length≤1000000:=by
 have hl:(PyData.list (ys.map .str)).leavesShort 8=true:=by
  refine PyData.leavesShort_of_canLay0 8 _ ?_ ?_
  ·rw[PyData.canLay0,canLayAll0_iff,List.all_map,List.all_eq_true]
   exact fun y hy=>by simpa [PyData.canLay0] using (h y hy).2
  ·simp only [PyData.intsShort]
   clear h hz
   induction ys with
   | nil=>rfl
   | cons y ys ih=>simp only [List.map_cons,PyData.intsShortAll,PyData.intsShort,Bool.true_and];exact ih
 have hw:(PyData.list (ys.map .str)).weight≤ys.length*101:=by
  simp only [PyData.weight]
  clear hl hz
  induction ys with
  | nil=>exact Nat.le_refl _
  | cons y ys ih=>
   have h1:=(h y (.head _)).1
   have h2:=ih fun z hz=>h z (.tail _ hz)
   simp only [List.map_cons,PyData.weightAll,PyData.weight,List.length_cons,Nat.succ_mul]
   lia
 have:=PyData.shown_le 8 (by decide) _ hl
 lia
noncomputable def GS(adr:Rl->Addr)(c:Rl->Option AObj)(sy:Addr)(X:AObj)(m:Mem):Prop:=∃ gm,m=mset gm sy X/\MemIs adr c gm/\gm sy=none
variable {adr:Rl->Addr}{c:Rl->Option AObj}{sy:Addr}{X:AObj}{m m':Mem}
theorem GS.get{r:Rl}{x:AObj}(G:GS adr c sy X m)(h:c r=some x):m (adr r)=some x:=by
 obtain⟨gm,rfl,M,hs⟩:=G
 have:=M.get h
 rw[mset_ne (nex this hs)];exact this
theorem GS.side(G:GS adr c sy X m):m sy=some X:=by obtain⟨gm,rfl,M,hs⟩:=G;exact mset_self _ _ _
theorem GS.split(G:GS adr c sy X m){a:Addr}(ha:a≠sy){y:AObj}(h1:m' a=some y)(hf:∀ b,b≠a->m' b=m b):∃ gm,m=mset gm sy X/\MemIs adr c gm/\gm sy=none/\m'=mset (mset gm a y) sy X:=by
 obtain⟨gm,rfl,M,hs⟩:=G
 refine⟨gm,rfl,M,hs,?_⟩
 funext b
 by_cases e:b=a
 ·rw[e,h1,mset_ne ha,mset_self]
 ·rw[hf b e]
  by_cases e2:b=sy
  ·rw[e2,mset_self,mset_self]
  ·rw[mset_ne e2,mset_ne e2,mset_ne e]
theorem GS.set{r:Rl}{x y:AObj}(G:GS adr c sy X m)(h:c r=some x)(h1:m' (adr r)=some y)(hf:∀ b,b≠adr r->m' b=m b):GS adr (upd c r (some y)) sy X m':=by
 have ha:adr r≠sy:=fun e=>by
  obtain⟨gm,rfl,M,hs⟩:=G
  have:=M.get h;rw[e,hs]at this;cases this
 obtain⟨gm,_,M,hs,e⟩:=G.split ha h1 hf
 exact⟨_,e,M.set h (mset_self _ _ _) fun b hb=>mset_ne hb,by rw[mset_ne (Ne.symm ha)];exact hs⟩
theorem GS.new{r:Rl}{a:Addr}{y:AObj}(G:GS adr c sy X m)(h:c r=none)(hn:m a=none)(h1:m' a=some y)(hf:∀ b,b≠a->m' b=m b):GS (upd adr r a) (upd c r (some y)) sy X m':=by
 have ha:a≠sy:=fun e=>by rw[e,G.side]at hn;cases hn
 obtain⟨gm,e0,M,hs,e⟩:=G.split ha h1 hf
 have hg:gm a=none:=by rw[e0,mset_ne ha]at hn;exact hn
 exact⟨_,e,M.new h hg (mset_self _ _ _) fun b hb=>mset_ne hb,by rw[mset_ne (Ne.symm ha)];exact hs⟩
theorem GS.done(G:GS adr c sy X m):∃ gm,MemIs adr c gm/\Sub gm m:=by
 obtain⟨gm,rfl,M,hs⟩:=G
 exact⟨gm,M,fun a x e=>by rw[mset_ne (nex e hs)];exact e⟩
end Mine
namespace Mine
noncomputable def pushL(l:List (Str×List Int))(k:Str)(n:Int):List (Str×List Int):=l.map fun q=>if q.1=k then(q.1,q.2++[n]) else q
theorem pushL_refs(l:List (Str×List Int))(k:Str)(n:Int)(f:Str->V):((pushL l k n).map fun q=>(q.1,f q.1))=l.map fun q=>(q.1,f q.1):=by
 unfold pushL;rw[List.map_map];refine List.map_congr_left fun q _=>?_
 simp only [Function.comp_apply];split<;>rfl
theorem pushL_lookup(l:List (Str×List Int))(k:Str)(n:Int)(k':Str):(pushL l k n).lookup k'=if k'=k then(l.lookup k').map (·++[n]) else l.lookup k':=by
 unfold pushL
 induction l with
 | nil=>simp
 | cons q l ih=>
  obtain⟨a,b⟩:=q
  rw[List.map_cons,List.lookup_cons]
  by_cases h:k'=a
  ·subst h
   by_cases h2:k'=k
   ·subst h2;simp[List.lookup]
   ·simp[List.lookup,h2]
  ·have e:(k'==a)=false:=by simpa using h
   have e2:(k'==(if a=k then(a,b++[n]) else(a,b)).1)=false:=by split<;>exact e
   rw[show(k'==(if (a,b).fst=k then((a,b).fst,(a,b).snd++[n]) else(a,b)).fst)=false from e2]
   rw[List.lookup_cons,e]
   exact ih
noncomputable def known(l:List (Str×List Int))(k:Str):List (Str×List Int):=if (l.lookup k).isSome then l else l++[(k,[])]
theorem known_lookup(l:List (Str×List Int))(k k':Str):(known l k).lookup k'=if k'=k then some ((l.lookup k).getD []) else l.lookup k':=by
 unfold known
 split
 ·rename_i h
  obtain⟨ns,e⟩:=Option.isSome_iff_exists.mp h
  by_cases q:k'=k
  ·subst q;rw[if_pos rfl,e];rfl
  ·rw[if_neg q]
 ·rename_i h
  rw[lookup_append']
  by_cases q:k'=k
  ·subst q
   have:l.lookup k'=none:=by cases z:l.lookup k' with|none=>rfl|some _=>rw[z]at h;exact absurd rfl h
   rw[if_pos rfl,this];simp[List.lookup]
  ·have e:(k'==k)=false:=by simpa using q
   rw[if_neg q];simp[List.lookup,e]
noncomputable def noteSym(num:Int)(tn:List (Str×List Int)×List (Str×List Int))(s:Str):List (Str×List Int)×List (Str×List Int):=
 if (tn.1.lookup s).isSome then(pushL tn.1 s num,tn.2) else(tn.1,pushL (known tn.2 s) s num)
noncomputable def addG(g:GR)(name:Str)(syms:List Str)(prec func file line:V):GR:=
 let num:Int:=g.prods.length+1
 let tn:=syms.foldl (noteSym num) (g.te,known g.no name)
 { g with prods:=g.prods++[{ name:=name,body:=syms,num:=num,prec:=prec,func:=func,file:=file,line:=line }],pn:=if name∈g.pn then g.pn else g.pn++[name],te:=tn.1,no:=tn.2 }
section
variable {W:Wd}{A:Around}{env:Env}{outer:Outs}{loc:Loc}{mem R:Mem}{E:Ex W}{F:Frz}{s:Shared}
theorem Calm.in1{d u:Nat}(c:Calm A d u):Calm A.in1 (d+1) (u+1):=by
 obtain⟨a,b,c,e⟩:=c
 constructor
 ·exact a
 ·exact b
 ·show A.in1.depth≤d+1
  simp[Around.in1];lia
 ·show A.in1.units≤u+1
  simp[Around.in1];lia
end
section
variable {W:Wd}{A:Around}{env:Env}{outer:Outs}{loc:Loc}{mem R:Mem}{E:Ex W}{F:Frz}{s:Shared}
inductive VConv(W:Wd)(A:Around)(env:Env)(outer:Outs)(loc:Loc)(mem:Mem)(E:Ex W):Nat->V->Prop
 | str {x:Str}:x.length≤20000->VConv W A env outer loc mem E 115 (.str x)
 | rep {x:Str}:x.length≤20000->(reprText x).length≤20000->VConv W A env outer loc mem E 114 (.str x)
 | int {n:Int}:0≤n->n<10 ^ 10->VConv W A env outer loc mem E 100 (.int n)
 | own {v:V} {C f:Addr} {es:List (Str×V)}:Inst W mem v C es->findIn W.K (.ref C) "__str__" = some (some (.ref f))->isFn W.K (.ref f)=true->A.units<cLine->
   (OpV W A env outer (fun vs=>call (.ref f) vs) [v] loc mem (fun r l m=>l=loc/\m=mem/\∃ x,r = .str x/\x.length≤20000) E)->VConv W A env outer loc mem E 115 v
inductive VConvs(W:Wd)(A:Around)(env:Env)(outer:Outs)(loc:Loc)(mem:Mem)(E:Ex W):List Nat->List V->Prop
 | nil:VConvs W A env outer loc mem E [] []
 | cons {c:Nat} {v:V} {cs:List Nat} {vs:List V}:VConv W A env outer loc mem E c v->VConvs W A env outer loc mem E cs vs->VConvs W A env outer loc mem E (c::cs) (v::vs)
inductive InSim(W:Wd)(env:Env)(outer:Outs)(loc:Loc)(mem R:Mem)(F:Frz)(s:Shared):Prop
 | mk (F':Frz) (i:Incl F F') (S:Sim W env outer loc mem R F' s)
theorem VConv.ok{c:Nat}{v:V}{v':Value}(h:VConv W A env outer loc mem E c v)(r:VR W F v v'):ConvOk (model W.prog W.w) A (E.p R F) (InSim W env outer loc mem R F) c v':=by
 unfold ConvOk
 cases h with
 | int h0 h1=>rw[if_pos rfl];obtain⟨_,rfl⟩:=r.isInt;exact⟨_,_,rfl,h0,h1⟩
 | str hz=>
  rw[if_neg (by decide)]
  obtain⟨_,rfl⟩:=r.isStr
  exact⟨fun s Q hI h=>wpAny_of_eq (KPc.strOf_str _ _) (h _ _ _ hz hI),fun e=>absurd e (by decide)⟩
 | rep hz hr=>
  rw[if_neg (by decide)]
  obtain⟨_,rfl⟩:=r.isStr
  exact⟨fun s Q hI h=>wpAny_of_eq (KPc.strOf_str _ _) (h _ _ _ hz hI),fun _=>⟨_,_,rfl,hr⟩⟩
 | own I hs hf hu ho=>
  rw[if_neg (by decide)]
  refine⟨fun s Q hI h=>?_,fun e=>absurd e (by decide)⟩
  obtain⟨F1,i,S⟩:=hI
  obtain⟨x,d,od,kvs,rfl,J,hd,rp⟩:=I.at S (r.mono i)
  have X:=S.kin
  unfold Builtin.Str.strOf
  refine wpAny_ite (KPc.ite_no Bool.false_ne_true ?_)
  refine wpAny_bind (wpAny_cRoomFor hu ?_)
  refine wpAny_bind (m:=callSpecial? (.ref x) (Str.ofString "__str__")) (special_fn X J hs (beq_iff_eq.mp hf) (wpAny_mono (ho R F1 s [_] S (.cons (r.mono i) .nil)) (fun r s' hr=>?_) fun _ _ e=>E.up i e))
  obtain⟨F2,y,l,m,i2,ry,S',rfl,rfl,z,rfl,hz⟩:=hr
  obtain⟨_,rfl⟩:=ry.isStr
  refine wpAny_bind (wpAny_of_eq (a:=some _) rfl ?_)
  exact wpAny_pure (h _ _ _ hz ⟨F2,i.trans i2,S'⟩)
theorem VConvs.ok{cs:List Nat}{xs:List V}{vs:List Value}(h:VConvs W A env outer loc mem E cs xs)(r:VRs W F xs vs):ConvAll (model W.prog W.w) A (E.p R F) (InSim W env outer loc mem R F) cs vs:=by
 induction h generalizing vs with
 | nil=>obtain rfl:=r.isNil;exact .nil
 | cons h _ ih=>
  obtain⟨_,_,r1,r2,rfl⟩:=r.isCons
  exact .cons (h.ok r1) (ih r2)
theorem pct_tup{fmt:Str}{xs:List V}{cs:List Nat}{Q:V->Loc->Mem->Prop}(hf:fmOk fmt.cps.toList=true)(hz:fmt.length≤100)(hc:fmC fmt.cps.toList=cs)(hx:VConvs W A.in1 env outer loc mem E cs xs)(h:∀ z,z.length≤3000000->Q (.str z) loc mem) :
  OpV W A env outer (fun|[x,y]=>binaryOp .Mod x y|_=>pure .none) [.str fmt,.tup xs] loc mem Q E:=op2 fun R F s v u S r1 r2=>by
 obtain⟨_,rfl⟩:=r1.isStr
 cases r2.view with
 | @tup a vs n fa q=>
  have ht:IsTup s.heap a vs:=⟨_,S.frz _ _ fa,rfl,n,rfl⟩
  have hT:s.TypeIs (.ref a) "tuple":=by
   obtain⟨o,ho,hc,_⟩:=ht
   exact⟨o,ho,hc⟩
  have hx:=hx.ok (R:=R) q
  rw[<-hc]at hx
  refine KPt.bin_left (T:="str") (U:="tuple") (op:=.Mod) (by decide) (typeIs_str s _ _) hT PySem.F.fills_str_mod KPt.fills_tuple PySem.F.slot_str_mod ?_
  refine wpAny_call (codeAny_call_builtin PySem.F.slot_str_mod.plain PySem.F.entry_str_mod (PySem.F.slot_str_mod.check _ _ _ _ _ _ _ _ (typeIs_str s _ _) (PySem.F.args_str_mod_2 _ _) ?_))
  exact pct_any _ fmt a vs (fun s k ⟨F',i,S⟩=>⟨F',i,S.tick⟩) hf hz hx ht ⟨F,Incl.refl F,S⟩ fun z t s' hz ⟨F',i,S'⟩=>⟨(fun e=>nomatch e),F',.str z,loc,mem,i,.str _ _,S',h z hz⟩
end
noncomputable def cutS(x:Str)(lo hi:Option Int):Str:=if (Builtin.Str.strSliceIndices lo hi 1 x.length).length==x.length then x else⟨((Builtin.Str.strSliceIndices lo hi 1 x.length).filterMap (x.cps[·]?)).toArray⟩
section
variable {W:Wd}{A:Around}{env:Env}{outer:Outs}{loc:Loc}{mem R:Mem}{E:Ex W}{F:Frz}{s:Shared}
theorem slice_str{x:Str}{lo hi:Option Int}{Q:V->Loc->Mem->Prop}(hz:(cutS x lo hi).length≤sizeLine)(h:Q (.str (cutS x lo hi)) loc mem) :
  SliceAt W A env outer (.str x) lo hi loc mem Q E:=fun R F s o' l' u' sl S r pl pu hs=>by
 cases r.view with
 | str t=>
  obtain⟨l,rfl,hl⟩:∃ l:Option (Int×Tok),l'=partValue l/\lo=l.map (·.1):=by
   cases pl with
   | none=>exact⟨none,rfl,rfl⟩
   | int i t=>exact⟨some (i,t),rfl,rfl⟩
  obtain⟨u,rfl,hu⟩:∃ l:Option (Int×Tok),u'=partValue l/\hi=l.map (·.1):=by
   cases pu with
   | none=>exact⟨none,rfl,rfl⟩
   | int i t=>exact⟨some (i,t),rfl,rfl⟩
  subst hl hu
  refine wpAny_getItem_str_slice (l:=l) (u:=u) (st:=none) hs rfl ?_
  unfold cutS at h hz
  unfold sliceMade slicePicked
  show Made.post (if ((1:Int)==1&&_)=true then _ else _) _ s
  rw[show((1:Int)==1)=true from rfl,Bool.true_and]
  show Made.post (if ((Builtin.Str.strSliceIndices (l.map (·.1)) (u.map (·.1)) 1 x.length).length==x.length)=true then _ else Made.str ⟨((Builtin.Str.strSliceIndices (l.map (·.1)) (u.map (·.1)) 1 x.length).filterMap (x.cps[·]?)).toArray⟩) _ s
  split
  ·rename_i e
   rw[if_pos e]at h
   exact Post.mk (.str _ _) S h
  ·rename_i e
   rw[if_neg e]at h hz
   exact⟨hz,Post.mk (.str _ _) S.tick h⟩
end
noncomputable def Fits(A:Around)(env:Env)(outer:Outs):Prop:=
 ∃ envs,A.frames=some (env::envs)/\env.frame=some env.locals/\env.scope.kind = .function/\∀ e∈envs,e.scope.kind≠.module/\∃ q∈outer,e.frame=some q.1
structure Under(env:Env)(outer:Outs)(mem R:Mem)(F:Frz)(B h:Heap):Prop where
 frz:∀ a o,F a o->B.get? a=some o
 own:∀ a x,mun mem R a=some x->∃ o,B.get? a=some o
 stays:B.StaysIn h
 here:B.get? env.locals=none
 outs:∀ q∈outer,B.get? q.1=none
noncomputable def Flight(env:Env)(B h:Heap)(e:Addr)(cls:Value):Prop:=
 (∃ oe vs a0,h.get? e=some oe/\oe.cls=cls/\oe.data = .fields vs/\vs[1]? = some .none/\vs[0]? = some a0)\/∃ a0 fl,h.TracedAtW B e cls a0 fl/\(fl = .none\/fl=rawInt env.locals)
structure Aloft(W:Wd)(env:Env)(outer:Outs)(loc:Loc)(mem R:Mem)(F:Frz)(s:Shared)(e:Addr)(cls:Value):Prop where
 sim:Sim W env outer loc mem R F s
 fly:∃ B,Under env outer mem R F B s.heap/\B.get? e=none/\Flight env B s.heap e cls
section
variable {W:Wd}{A:Around}{env:Env}{outer:Outs}{loc:Loc}{mem R:Mem}{E:Ex W}{F:Frz}{s:Shared}{B:Heap}
theorem Fits.deeper{env':Env}{m0:Str->Option Value}(f:Fits A env outer)(h1:env'.frame=some env'.locals)(h2:env'.scope.kind = .function):Fits (A.deeper env') env' ((env.locals,m0)::outer):=by
 obtain⟨envs,hf,hl,hk,ho⟩:=f
 refine⟨env::envs,Around.frames_deeper hf,h1,h2,fun e he=>?_⟩
 rcases List.mem_cons.mp he with rfl|he
 ·exact⟨by rw[hk];decide,_,.head _,hl⟩
 ·obtain⟨a,q,hq,b⟩:=ho e he
  exact⟨a,q,.tail _ hq,b⟩
theorem Fits.fun{outs:Outs}(f:Fits A env outer)(S:Sim W env outer loc mem R F s)(h1:B.get? env.locals=none)(h2:∀ q∈outer,B.get? q.1=none):∃ envs,A.frames=some (env::envs)/\env.frame=some env.locals/\s.heap.FunFrames B (env::envs):=by
 obtain⟨envs,hf,hl,hk,ho⟩:=f
 refine⟨envs,hf,hl,by rw[hk];decide,?_,?_⟩
 ·obtain⟨m,⟨o,es,ep,e,hd,_⟩,_⟩:=S.ns
  exact⟨_,o,hl,h1,e,fun vs q=>by rw[hd]at q;cases q⟩
 ·clear hf
  induction envs with
  | nil=>trivial
  | cons e l ih=>
   obtain⟨a,q,hq,b⟩:=ho e (.head _)
   obtain⟨o,es,ep,e1,hd,_⟩:=(S.z.outs q hq).1
   exact⟨a,⟨_,o,b,h2 q hq,e1,fun vs z=>by rw[hd]at z;cases z⟩,ih fun e he=>ho e (.tail _ he)⟩
theorem Sim.slots{h':Heap}{t:Nat}(S:Sim W env outer loc mem R F s)(U:Under env outer mem R F B s.heap)(hs:B.StaysIn h')(up:s.heap.UpToSlots h'):Sim W env outer loc mem R F { s with heap:=h',toks:=t }:=by
 have ns:∀ {a m},s.heap.Ns a m->h'.Ns a m:=fun {a m} ⟨o,es,ep,e,hd,r⟩=>by
  obtain⟨sl,e'⟩:=up a o e fun vs q=>by rw[hd]at q;cases q
  exact⟨_,es,ep,e',hd,r⟩
 refine⟨S.dis,{
  frz:=fun a o h=>hs _ _ (U.frz a o h)
  base:=S.z.base
  memF:=S.z.memF
  memOk:=fun a x h=>?_
  ns:=let ⟨m,n,l⟩:=S.z.ns;⟨m,ns n,l⟩
  nsF:=S.z.nsF
  outs:=fun q hq=>let ⟨n,r⟩:=S.z.outs q hq;⟨ns n,r⟩
  low:=S.z.low
  memLow:=S.z.memLow
  gens:=S.z.gens
  os:=S.z.os }⟩
 obtain⟨o,e,r⟩:=S.z.memOk a x h
 obtain⟨o',e'⟩:=U.own a x h
 have:=U.stays _ _ e'
 rw[e]at this;cases this
 exact⟨o,hs _ _ e',r⟩
theorem Under.stay{h h':Heap}(U:Under env outer mem R F B h)(hs:B.StaysIn h'):Under env outer mem R F B h':=⟨U.frz,U.own,hs,U.here,U.outs⟩
theorem Sim.raised{h':Heap}{e:Addr}{X:String}{t:Nat}(S:Sim W env outer loc mem R F s)(n:Heap.NewExc s.heap h' e X):Aloft W env outer loc mem R F { s with heap:=h',toks:=t } e (.type X):=by
 refine⟨S.grow n.keeps,PyProof.Rows.TI.gone s.heap (env.locals::outer.map (·.1)),⟨fun a o h=>?_,fun a x h=>?_,fun b o h=>n.keeps _ _ (PyProof.Rows.TI.gone_some h).2,PyProof.Rows.TI.gone_none (.head _),fun q hq=>PyProof.Rows.TI.gone_none (.tail _ (List.mem_map.mpr ⟨q,hq,rfl⟩))⟩,?_,?_⟩
 ·rw[PyProof.Rows.TI.gone_get]
  ·exact S.frz a o h
  ·intro hm
   rcases List.mem_cons.mp hm with rfl|hm
   ·exact S.z.nsF.1 o h
   ·obtain⟨q,hq,rfl⟩:=inM hm
    exact(S.z.outs q hq).2.1 o h
 ·obtain⟨o,ho,_⟩:=S.z.memOk a x h
  refine⟨o,?_⟩
  rw[PyProof.Rows.TI.gone_get]
  ·exact ho
  ·intro hm
   rcases List.mem_cons.mp hm with rfl|hm
   ·have:=S.z.nsF.2;rw[h]at this;cases this
   ·obtain⟨q,hq,rfl⟩:=inM hm
    have:=(S.z.outs q hq).2.2.1;rw[h]at this;cases this
 ·cases q:(PyProof.Rows.TI.gone s.heap (env.locals::outer.map (·.1))).get? e with
  | none=>rfl
  | some o=>have:=(PyProof.Rows.TI.gone_some q).2;rw[n.new]at this;cases this
 ·obtain⟨ob,tp,he,hc,hd⟩:=n.there
  exact .inl ⟨ob,_,tp,he,hc,hd,rfl,rfl⟩
theorem Aloft.note{e:Addr}{cls:Value}{Q:Unit->Shared->Prop}{Ev:Value->Shared->Prop}(f:Fits A env outer)(x:Aloft W env outer loc mem R F s e cls)
  (h:∀ h' B,Sim W env outer loc mem R F { s with heap:=h' }->Under env outer mem R F B h'->B.get? e=none->(∃ a0,h'.TracedAtW B e cls a0 (rawInt env.locals))->Q () { s with heap:=h' }):wpAny (model W.prog W.w) A (noteFrame (.ref e) env) Q Ev s:=by
 obtain⟨S,B,U,hB,fl⟩:=x
 obtain⟨envs,hf,hl,ff⟩:=f.fun (outs:=outer) S U.here U.outs
 rcases fl with⟨oe,vs,a0,he,hc,hd,h1,h0⟩|⟨a0,fl,ht,rfl|rfl⟩
 ·unfold noteFrame
  simp only [hl]
  refine wpAny_bind (wpAny_field he hd h1 ?_)
  rw[if_neg (by decide)]
  refine wpAny_entryW (a0:=a0) hf ff hl he U.stays hB hd (Array.getElem?_eq_some_iff.mp h1).1 h0 fun h' hN=>?_
  obtain⟨n1,n2,n3,n4⟩:=hN
  exact h h' B (S.slots (t:=s.toks) U n1 n4) (U.stay n1) hB ⟨a0,by rw[<-hc];exact n3⟩
 ·refine wpAny_noteFrame_onW hf ff hl ht U.stays hB fun h' hN=>?_
  obtain⟨n1,n2,n3,n4⟩:=hN
  exact h h' B (S.slots (t:=s.toks) U n1 n4) (U.stay n1) hB ⟨a0,n3⟩
 ·refine wpAny_noteFrame_againW hl ht ?_
  exact h s.heap B S U hB ⟨a0,ht⟩
theorem Aloft.land{e:Addr}{cls a0 fl:Value}{Q:Unit->Shared->Prop}{Ev:Value->Shared->Prop}(f:Fits A env outer)(S:Sim W env outer loc mem R F s)(U:Under env outer mem R F B s.heap)(hB:B.get? e=none)(ht:s.heap.TracedAtW B e cls a0 fl){A':Around}
  (h:∀ h',Sim W env outer loc mem R F { s with heap:=h' }->Under env outer mem R F B h'->h'.TracedAtW B e cls a0 .none->Q () { s with heap:=h' }):wpAny (model W.prog W.w) A' (setFlight (.ref e) none) Q Ev s:=by
 obtain⟨envs,hf,hl,ff⟩:=f.fun (outs:=outer) S U.here U.outs
 refine wpAny_setFlight_noneW U.stays ff ht fun h' k1 k2 k3 k4=>?_
 exact h h' (S.slots (t:=s.toks) U k1 fun b o hb hn=>⟨o.slots,k4 b o hb hn⟩) (U.stay k1) k3.at
noncomputable def exX(W:Wd)(env:Env)(outer:Outs)(X:Value->Loc->Mem->Prop):Ex W where
 p R F v s:=∃ F' l m e cls,v = .ref e/\Incl F F'/\Aloft W env outer l m R F' s e cls/\X cls l m
 mono:=fun l i h=>by
  refine bv fun C_ k_=>?_
  obtain⟨F',lo,m,e,cls,h1,h2,h3,h4⟩:=h
  obtain⟨B,U,r⟩:=h3.fly
  refine k_ ⟨F',lo,m,e,cls,h1,i.trans h2,⟨l.sim h3.sim,B,⟨U.frz,fun a x hx=>?_,U.stays,U.here,U.outs⟩,r⟩,h4⟩
  cases q:m a with
  | some y=>exact U.own a y (mun_l q)
  | none=>rw[mun_r q]at hx;exact U.own a x (by rw[mun_r q];exact l.sub a x hx)
noncomputable def markE(W:Wd)(A:Around)(hd:Option Value)(env:Env)(E:Ex W):Ex W where
 p R F:=notedBy (model W.prog W.w) (A.mark hd) env fun e s'=>cameBackBy (model W.prog W.w) A env (E.p R F) e s'
 mono l i h:=wpAny_mono h (fun _ _ q=>wpAny_mono q (fun _ _ z=>E.mono l i z) fun _ _ z=>E.mono l i z) fun _ _ z=>wpAny_mono z (fun _ _ z=>E.mono l i z) fun _ _ z=>E.mono l i z
theorem s_try1{T:String}{x:Str}{body suite:List Stmt}{b₀:Stmt}{np hp pos:Pos}{Q:Fl->Loc->Mem->Prop}(X:Loc->Mem->Prop)(f:Fits A env outer)
  (hexc:isSubtype (.type T) (.type "BaseException")=pure true) (hnt:isSubtype (.type ((Manifest.find? T).elim "type" fun x=>x.metatype)) (.type "tuple")=pure false) (hsub:isSubtype (.type T) (.type T)=pure true)
  (hg:env.globals=mainGlobals) (hb:env.builtins=builtinsNs) (hk:env.scope.kind = .function) (hl:env.kindOf x=some .globalImplicit) (hd:(x==("__debug__" : Str))=false)
  (he:nsIn W.K mainGlobals x=some none) (hv:bootBuiltins x=some (.type T)) (hn:x≠"__name__")
  (h:TrS W A env outer (execs body env) loc mem Q (exX W env outer fun c l m=>c = .type T/\X l m))
  (hh:∀ e l m,X l m->TrS W (A.mark (some (.ref e))) env outer (execs (b₀::suite) env) l m Q (markE W A (some (.ref e)) env E)) :
  TrS W A env outer (exec (.Try body [.ExceptHandler (some (.Name x np)) none (b₀::suite) hp] [] [] pos) env) loc mem Q E:=fun R F s S=>by
 refine wpAny_Try_except (after' (RW:=FR W) (Q:=fun _ _ _=>True) (h R F s S) (fun v s1 hx=>?_) fun f' s1 F1 fl l1 m1 i1 r1 S1 h1=>?_)
 ·obtain⟨F',l,m,e,cls,rfl,i,al,rfl,hX⟩:=hx
  refine al.note f fun h2 B S2 U2 hB ht2=>?_
  obtain⟨a0,ht2⟩:=ht2
  refine Aloft.land f S2 U2 hB ht2 fun h3 S3 U3 ht3=>?_
  obtain⟨m0,hns,l0⟩:=S3.ns
  have Fr':=S3.fr hns
  have hob:∃ o,h3.get? e=some o/\o.cls = .type T:=by obtain⟨oe,_,_,_,_,q1,⟨q2,_⟩,_⟩:=ht3;exact⟨oe,q1,q2⟩
  refine wpAny_handleBy_builtin (X:=T) (b:=true) hexc hnt hsub (Name_function_global hk hl (loadGlobal_builtin (env:=env) (by rw[hg];exact W.top.g.keeps Fr'.keep) (mg_none_of W.KIn W.top.g he) (by rw[hb];exact W.top.b.keeps Fr'.keep) ((W.top.builtins x hn).trans hv) ⟨rfl,hob,?_⟩) hd)
  rw[if_pos rfl]
  refine Aloft.land f S3 U3 hB ht3 fun h5 S5 U5 ht5=>?_
  exact after' (RW:=FR W) (Q:=fun _ _ _=>True) (hh e l m hX R F' _ S5) (fun _ _ z=>(markE W A (some (.ref e)) env E).mono (Less.refl R) i z) fun f6 s6 F6 fl6 l6 m6 i6 r6 S6 h6=>⟨F6,fl6,l6,m6,i.trans i6,r6,S6,h6⟩
 ·cases r1 with
  | next=>exact wpAny_execs_nil ⟨F1,.next,l1,m1,i1,.next,S1,h1⟩
  | brk=>exact⟨F1,.brk,l1,m1,i1,.brk,S1,h1⟩
  | cont=>exact⟨F1,.cont,l1,m1,i1,.cont,S1,h1⟩
  | ret r=>exact⟨F1,.ret _,l1,m1,i1,.ret r,S1,h1⟩
theorem getItem_none{a:Addr}{es:List (Str×V)}{ep:Nat}{k:Str}{X:Value->Loc->Mem->Prop}{Q:V->Loc->Mem->Prop}(hm:mem a=some (.dict es ep))(hx:getA es k=none)(hh:A.handled=none)(h:X (.type "KeyError") loc mem) :
  OpV W A env outer (fun|[x,y]=>getItem x y|_=>pure .none) [.ref a,.str k] loc mem Q (exX W env outer X):=op2 fun R F s v u S r1 r2=>
 getItem_missing S hm hx hh r1 r2 fun h' e t n=>⟨F,loc,mem,e,_,rfl,Incl.refl F,S.raised n,h⟩
theorem sub_none{a:Addr}{es:List (Str×V)}{ep:Nat}{k:Str}{X:Value->Loc->Mem->Prop}{Q:V->Loc->Mem->Prop}(hm:mem a=some (.dict es ep))(hx:getA es k=none)(hh:A.handled=none)(h:X (.type "KeyError") loc mem) :
  ∃ T id,Ty mem (.ref a) T/\typeLookup (.type T) "__getitem__" = pure (some (.builtin id))/\OpV W A env outer (fun|[x,y]=>getItem x y|_=>pure .none) [.ref a,.str k] loc mem Q (exX W env outer X):=
 ⟨_,_,.dict hm,PySem.F.slot_dict_getitem.lookup,getItem_none hm hx hh h⟩
end
noncomputable def Takes(W:Wd)(env:Env)(outer:Outs)(E:Ex W)(c:Value)(l:Loc)(m:Mem):Prop:=
 ∀ R F s e,Aloft W env outer l m R F s e c->E.p R F (.ref e) s
section
variable {W:Wd}{A:Around}{env:Env}{outer:Outs}{loc:Loc}{mem R:Mem}{E:Ex W}{F:Frz}{s:Shared}{c:Value}
theorem takesX{X:Value->Loc->Mem->Prop}(h:X c loc mem):Takes W env outer (exX W env outer X) c loc mem:=fun R F s e a=>⟨F,loc,mem,e,c,rfl,Incl.refl F,a,h⟩
theorem Aloft.of{B:Heap}{e:Addr}{a0:Value}(S:Sim W env outer loc mem R F s)(U:Under env outer mem R F B s.heap)(hB:B.get? e=none){fl:Value}(ht:s.heap.TracedAtW B e c a0 fl)(hf:fl = .none\/fl=rawInt env.locals):Aloft W env outer loc mem R F s e c:=
 ⟨S,B,U,hB,.inr ⟨a0,fl,ht,hf⟩⟩
theorem Aloft.on{M:Model}{B:Heap}{e:Addr}{a0 fl:Value}{Q:Unit->Shared->Prop}{Ev:Value->Shared->Prop}{A':Around}(S:Sim W env outer loc mem R F s)(U:Under env outer mem R F B s.heap)(hB:B.get? e=none)(ht:s.heap.TracedAtW B e c a0 fl)
  (hl:env.frame=some env.locals) (f:∃ envs,s.heap.FunFrames B envs) (h:∀ h',Aloft W env outer loc mem R F { s with heap:=h' } e c->Q () { s with heap:=h' }):wpAny M A' (setFlight (.ref e) env.frame) Q Ev s:=by
 obtain⟨envs,ff⟩:=f
 rw[hl]
 obtain⟨oe,vs,T,oT,ts,he,hcls,hd,h1,hnT,hTe,hT,hdT,h3⟩:=ht
 have hsz3:3<ts.size:=(Array.getElem?_eq_some_iff.mp h3).1
 unfold setFlight
 refine wpAny_bind (wpAny_field he hd h1 ?_)
 rw[if_pos (show(Value.ref T != Value.none)=true from by simp)]
 have ot:∀ b,b≠T->(s.heap.update T (Obj.mapFields (·.setIfInBounds 3 ((some env.locals).elim Value.none fun f=>rawInt f)))).get? b=s.heap.get? b:=
  fun b hb=>Heap.get?_update_other _ _ (Ne.symm hb)
 have nr:∀ b o,s.heap.get? b=some o->(∀ vs,o.data≠.fields vs)->b≠T:=fun b o hb hn q=>by
  rw[q,hT]at hb;cases hb;exact hn ts hdT
 have st:B.StaysIn (s.heap.update T (Obj.mapFields (·.setIfInBounds 3 ((some env.locals).elim Value.none fun f=>rawInt f)))):=
  fun b o hb=>(ot b fun q=>by rw[q,hnT]at hb;cases hb).trans (U.stays b o hb)
 refine wpAny_setField hT hdT hsz3 (h _ (.of (a0:=a0) (fl:=rawInt env.locals) (S.slots (t:=s.toks) U st fun b o hb hn=>⟨o.slots,(ot b (nr b o hb hn)).trans hb⟩) (U.stay st) hB ?_ (.inr rfl)))
 exact⟨oe,vs,T,_,_,(ot e (Ne.symm hTe)).trans he,hcls,hd,h1,hnT,hTe,Heap.get?_update_self _ hT (Obj.isFreed_of_fields (Obj.data_mapFields hdT _)),Obj.data_mapFields hdT _,by simp[hsz3]⟩
theorem Aloft.come{A':Around}{B:Heap}{e:Addr}{a0 fl:Value}{Ev:Value->Shared->Prop}(f:Fits A env outer)(S:Sim W env outer loc mem R F s)(U:Under env outer mem R F B s.heap)(hB:B.get? e=none)(ht:s.heap.TracedAtW B e c a0 fl)
  (h:∀ h',Aloft W env outer loc mem R F { s with heap:=h' } e c->Ev (.ref e) { s with heap:=h' }):cameBackBy (model W.prog W.w) A' env Ev (.ref e) s:=by
 obtain⟨envs,hf,hl,ff⟩:=f.fun (outs:=outer) S U.here U.outs
 obtain⟨oe,vs,T,oT,ts,he,hcls,hd,h1,r⟩:=id ht
 unfold cameBackBy
 refine wpAny_bind (wpAny_field he hd h1 ?_)
 rw[if_neg (show ¬ ((Value.ref T==Value.none)=true) from by simp)]
 first
  | exact wpAny_bind (wpAny_pure (Aloft.on S U hB ht hl ⟨_,ff⟩ h))
  | exact Aloft.on S U hB ht hl ⟨_,ff⟩ h
theorem takesL(f:Fits A env outer)(h:Takes W env outer E c loc mem):Takes W env outer (LoopE W A env E) c loc mem:=fun R F s e a=>by
 refine a.note f fun h2 B S2 U2 hB ht=>?_
 obtain⟨a0,ht⟩:=ht
 exact Aloft.come (s:={ s with heap:=h2 }) f S2 U2 hB ht fun h' a=>h R F _ e a
theorem Aloft.leave{env':Env}{m:Str->Option Value}{loc':Loc}{mem' R':Mem}{F':Frz}{s':Shared}{e:Addr}{Q:Unit->Shared->Prop}{Ev:Value->Shared->Prop}(S:Sim W env outer loc mem R F s)(l:LocRel W F loc m)(i:Incl F F')
  (f:Fits A env' ((env.locals,m)::outer)) (x:Aloft W env' ((env.locals,m)::outer) loc' mem' R' F' s' e c) (h:∀ h',Aloft W env outer loc mem' R' F' { s' with heap:=h' } e c->Q () { s' with heap:=h' }):wpAny (model W.prog W.w) A (leaving env' (.ref e)) Q Ev s':=by
 unfold leaving
 refine wpAny_bind (x.note f fun h2 B S2 U2 hB ht=>?_)
 obtain⟨a0,ht⟩:=ht
 refine Aloft.land (s:={ s' with heap:=h2 }) f S2 U2 hB ht fun h3 S3 U3 ht3=>h h3 (.of (a0:=a0) (fl:=.none) ⟨S3.dis,S.z.leave l i S3.z⟩ ⟨U3.frz,U3.own,U3.stays,U3.outs _ (.head _),fun q hq=>U3.outs _ (.tail _ hq)⟩ hB ht3 (.inl rfl))
noncomputable def BodyX(W:Wd)(A:Around)(env:Env)(outer:Outs)(qual:Str)(scope:Scope)(body:List Stmt)(cdv:Value)(f:Addr)(bs:Loc)(mem:Mem)(Q:V->Mem->Prop)(X:Value->Mem->Prop):Prop:=
 ∀ (L:Addr) (m0:Str->Option Value),Fits (A.deeper (envX qual scope L f cdv [])) (envX qual scope L f cdv []) ((env.locals,m0)::outer)->TrS W (A.deeper (envX qual scope L f cdv [])) (envX qual scope L f cdv []) ((env.locals,m0)::outer) (execs body (envX qual scope L f cdv [])) bs mem
  (fun fl _ m=>∃ m',(∀ a x,m' a=some x->m a=some x)/\Q (retOf fl) m') (exX W (envX qual scope L f cdv []) ((env.locals,m0)::outer) fun c _ m=>∃ m',(∀ a x,m' a=some x->m a=some x)/\X c m')
theorem Aloft.drop{mem':Mem}{e:Addr}(a:Aloft W env outer loc mem R F s e c)(h:∀ a x,mem' a=some x->mem a=some x):Aloft W env outer loc mem' R F s e c:=by
 obtain⟨S,B,U,r⟩:=a
 refine⟨S.drop h,B,⟨U.frz,fun b x e=>?_,U.stays,U.here,U.outs⟩,r⟩
 cases q:mem' b with
 | some y=>exact U.own b y (mun_l (h b y q))
 | none=>
  rw[mun_r q]at e
  cases q2:mem b with
  | some y=>exact U.own b y (mun_l q2)
  | none=>exact U.own b x (by rw[mun_r q2];exact e)
theorem call_fnX{name qual:Str}{params:Arguments}{body:List Stmt}{scope:Scope}{dV kV doc pm cdv ct oc:Value}{an od:Option Addr}{osl:Array (Option Value)}{f:Addr}{xs:List V}{bs:List (Str×V)}{Q:V->Loc->Mem->Prop}
  (ho:W.K.lookup f=some ⟨oc,od,.func (fnOf name qual params body scope dV kV doc pm an cdv ct),osl⟩) (hcd:codeIn W.K cdv qual=true) (hroom:A.depth<recursionLimit) (hf:Fits A env outer)
  (hbind:Binds W (fnOf name qual params body scope dV kV doc pm an cdv ct) [] xs bs) (hloc:∀ y∈bs,scope.names.lookup y.1=some .local)
  (hcell:∀ x∈scope.names,x.2≠.cell) (hco:scope.isCoroutine=false) (hgen:scope.isGenerator=false) (hk:scope.kind = .function)
  (h:BodyX W A env outer qual scope body cdv f bs.reverse mem (fun v m=>Q v loc m) (fun c m=>Takes W env outer E c loc m)):Op W A env outer (VR W) (fun vs=>call (.ref f) vs) xs loc mem Q E:=fun R F s vs S r=>by
 obtain⟨bv,hb,rb⟩:=hbind F s vs S.base S.kin r
 refine wpAny_call ?_
 obtain⟨m,hn,l⟩:=S.ns
 have hloc':∀ y∈bv,scope.names.lookup y.1=some .local:=fun y hy=>by
  have:y.1∈bs.map (·.1):=rb.keys▸List.mem_map_of_mem hy
  obtain⟨z,hz,e⟩:=inM this
  exact e▸hloc z hz
 refine codeAny_call_def (fd:=fnOf name qual params body scope dV kV doc pm an cdv ct) (body:=body) (binds:=bv) hroom (S.kin _ _ ho) rfl (W.nolim.keeps S.hbase) (codeRec_of S.kin hcd) rfl hb hcell hloc' (fun h₁ hns hk₁=>?_) hco hgen hk
 have S':Sim W (envX qual scope s.heap.objs.size f cdv []) ((env.locals,m)::outer) bs.reverse mem R F { s with heap:=h₁,toks:=s.toks+bv.length }:=
  ⟨S.dis,S.z.enter hn rfl rfl hns hk₁ rb.rev.loc⟩
 have hfd:Fits (A.deeper (envX qual scope s.heap.objs.size f cdv [])) (envX qual scope s.heap.objs.size f cdv []) ((env.locals,m)::outer):=hf.deeper rfl hk
 refine wpAny_mono (h s.heap.objs.size m hfd R F _ S') (fun fl s' hp=>?_) fun e s' he=>?_
 ·obtain⟨F',fl',l',m2,i,r,S2,m',hm',q⟩:=hp
  have S2:=S2.drop hm'
  have S3:Sim W env outer loc m' R F' s':=⟨S2.dis,S.z.leave l i S2.z⟩
  cases r with
  | next=>exact⟨F',.none,loc,m',i,.none,S3,q⟩
  | brk=>exact⟨F',.none,loc,m',i,.none,S3,q⟩
  | cont=>exact⟨F',.none,loc,m',i,.none,S3,q⟩
  | ret r=>exact⟨F',_,loc,m',i,r,S3,q⟩
 ·obtain⟨F',l',m2,e,c,rfl,i,al,m',hm',q⟩:=he
  exact Aloft.leave S l i hfd (al.drop hm') fun h' a=>E.up i (q R F' _ e a)
end
section
variable {W:Wd}{A:Around}{env:Env}{outer:Outs}{loc:Loc}{mem R:Mem}{E:Ex W}{F:Frz}{s:Shared}{x:Str}{C:Addr}{B newId initId:String}{bm:List Value}
theorem Sim.made{h':Heap}{e:Addr}{c:Value}{vs:List Value}(S:Sim W env outer loc mem R F s)(n:Heap.MadeExcOf s.heap h' e c vs):Aloft W env outer loc mem R F { s with heap:=h' } e c:=by
 refine⟨S.grow n.keeps,PyProof.Rows.TI.gone s.heap (env.locals::outer.map (·.1)),⟨fun a o h=>?_,fun a x h=>?_,fun b o h=>n.keeps _ _ (PyProof.Rows.TI.gone_some h).2,PyProof.Rows.TI.gone_none (.head _),fun q hq=>PyProof.Rows.TI.gone_none (.tail _ (List.mem_map.mpr ⟨q,hq,rfl⟩))⟩,?_,?_⟩
 ·rw[PyProof.Rows.TI.gone_get]
  ·exact S.frz a o h
  ·intro hm
   rcases List.mem_cons.mp hm with rfl|hm
   ·exact S.z.nsF.1 o h
   ·obtain⟨q,hq,rfl⟩:=inM hm
    exact(S.z.outs q hq).2.1 o h
 ·obtain⟨o,ho,_⟩:=S.z.memOk a x h
  refine⟨o,?_⟩
  rw[PyProof.Rows.TI.gone_get]
  ·exact ho
  ·intro hm
   rcases List.mem_cons.mp hm with rfl|hm
   ·have:=S.z.nsF.2;rw[h]at this;cases this
   ·obtain⟨q,hq,rfl⟩:=inM hm
    have:=(S.z.outs q hq).2.2.1;rw[h]at this;cases this
 ·cases q:(PyProof.Rows.TI.gone s.heap (env.locals::outer.map (·.1))).get? e with
  | none=>rfl
  | some o=>have:=(PyProof.Rows.TI.gone_some q).2;rw[n.new]at this;cases this
 ·obtain⟨tp,he,_,_⟩:=n.there
  exact .inl ⟨_,_,.ref tp,he,rfl,rfl,rfl,rfl⟩
theorem s_raise{np cpos pos:Pos}{e₀:PySem.Expr}{rest:List PySem.Expr}{Q:Fl->Loc->Mem->Prop}(FB:ExcBaseFacts B newId initId bm)(hh:A.handled=none)(hg:env.globals=mainGlobals)(hk:env.scope.kind = .function)(hl:env.kindOf x=some .globalImplicit)(hd:(x==("__debug__" : Str))=false)
  (en:nsIn W.K mainGlobals x=some (some (.ref C))) (q:excIn W.K C bm newId=true) (he:starEach (e₀::rest) env=(false,eval e₀ env)::starEach rest env) (hplain:(backTo cpos (starEach rest env)).any (·.1)=false)
  (h:TrL W A env outer (spliced (backTo cpos (starEach (e₀::rest) env))) loc mem (fun xs l m=>xs.length≤sizeLine/\Takes W env outer E (.ref C) l m) E) :
  TrS W A env outer (exec (.Raise (some (.Call (.Name x np) (e₀::rest) [] cpos)) none pos) env) loc mem Q E:=fun R F s S=>by
 have O:=own_of_in W.KIn W.top en q
 obtain⟨tl,N,nm,q,bs,hdct,sn,sub,ab,col,dd,k0,k1,k2,k3,k5,mN,hC,hN,hni,T⟩:=O.obj
 obtain⟨m,hn,l⟩:=S.ns
 refine wpAny_Raise_call_subT (C:=C) (nm:=nm) (q:=q) (N:=N) (bs:=bs) (bm:=tl) (hdct:=hdct) (sn:=sn) (sub:=sub) (ab:=ab) (col:=col) (dd:=dd) (k0:=k0) (k1:=k1) (k2:=k2) (k3:=k3) (k5:=k5)
  FB (mN:=mN) (T.hasType FB.hasBase) hh (by rw[he];show(false || (backTo cpos (starEach rest env)).any (·.1))=false;rw[hplain];rfl) hni (nameG_K (S.fr hn) W.KIn W.top en ⟨rfl,?_⟩ hg hk hl hd)
 have h':=h R F s S
 rw[he]at h' ⊢
 refine Calls.evalArgs_plain (after (i:=.refl _) (RW:=VR W) (Q:=fun _ _ _=>True) h' fun vs s1 F1 xs l1 m1 i1 r1 S1 h1=>?_)
 exact⟨rfl,by show vs.length≤_;rw[r1.length];exact h1.1,S1.hbase _ _ hC,hN.keeps S1.hbase,T.keeps S1.hbase,fun h' e n=>E.up i1 (h1.2 R F1 _ e (S1.made n))⟩
theorem s_tryO{body suite:List Stmt}{b₀:Stmt}{np hp pos:Pos}{Q:Fl->Loc->Mem->Prop}(X:Loc->Mem->Prop)(f:Fits A env outer)(FB:ExcBaseFacts B newId initId bm)(hg:env.globals=mainGlobals)(hk:env.scope.kind = .function)(hl:env.kindOf x=some .globalImplicit)(hd:(x==("__debug__" : Str))=false)
  (en:nsIn W.K mainGlobals x=some (some (.ref C))) (q:excIn W.K C bm newId=true)
  (h:TrS W A env outer (execs body env) loc mem Q (exX W env outer fun c l m=>c = .ref C/\X l m))
  (hh:∀ e l m,X l m->TrS W (A.mark (some (.ref e))) env outer (execs (b₀::suite) env) l m Q (markE W A (some (.ref e)) env E)) :
  TrS W A env outer (exec (.Try body [.ExceptHandler (some (.Name x np)) none (b₀::suite) hp] [] [] pos) env) loc mem Q E:=fun R F s S=>by
 refine wpAny_Try_except (after' (RW:=FR W) (Q:=fun _ _ _=>True) (h R F s S) (fun v s1 hx=>?_) fun f' s1 F1 fl l1 m1 i1 r1 S1 h1=>?_)
 ·obtain⟨F',l,m,e,cls,rfl,i,al,rfl,hX⟩:=hx
  refine al.note f fun h2 B S2 U2 hB ht2=>?_
  obtain⟨a0,ht2⟩:=ht2
  refine Aloft.land f S2 U2 hB ht2 fun h3 S3 U3 ht3=>?_
  obtain⟨m0,hns,l0⟩:=S3.ns
  have O:=own_of_in W.KIn W.top en q
  obtain⟨tl,N,nm,q,bs,hdct,sn,sub,ab,col,dd,k0,k1,k2,k3,k5,mN,hC,hN,hni,T⟩:=O.obj
  obtain⟨oe,_,_,_,_,q1,⟨q2,_⟩,_⟩:=id ht3
  refine wpAny_handleBy_cons (codeAny_handlers_test (nameG_K (S3.fr hns) W.KIn W.top en (wpAny_excMatches_sub_self (S3.hbase _ _ hC) q1 q2 (T.hasType FB.hasBase) (codeAny_handlers_suite ?_)) hg hk hl hd)) (by intro q;cases q)
  refine Aloft.land f S3 U3 hB ht3 fun h5 S5 U5 ht5=>?_
  exact after' (RW:=FR W) (Q:=fun _ _ _=>True) (hh e l m hX R F' _ S5) (fun _ _ z=>(markE W A (some (.ref e)) env E).mono (Less.refl R) i z) fun f6 s6 F6 fl6 l6 m6 i6 r6 S6 h6=>⟨F6,fl6,l6,m6,i.trans i6,r6,S6,h6⟩
 ·cases r1 with
  | next=>exact wpAny_execs_nil ⟨F1,.next,l1,m1,i1,.next,S1,h1⟩
  | brk=>exact⟨F1,.brk,l1,m1,i1,.brk,S1,h1⟩
  | cont=>exact⟨F1,.cont,l1,m1,i1,.cont,S1,h1⟩
  | ret r=>exact⟨F1,.ret _,l1,m1,i1,.ret r,S1,h1⟩
theorem s_tryN{T:String}{y:Str}{body suite:List Stmt}{b₀:Stmt}{np hp pos:Pos}{Q:Fl->Loc->Mem->Prop}(f:Fits A env outer)(FB:ExcBaseFacts B newId initId bm)(hT:bm.contains (.type T)=false)
  (hexc:isSubtype (.type T) (.type "BaseException")=pure true) (hnt:isSubtype (.type ((Manifest.find? T).elim "type" fun x=>x.metatype)) (.type "tuple")=pure false)
  (hg:env.globals=mainGlobals) (hb:env.builtins=builtinsNs) (hk:env.scope.kind = .function) (hl:env.kindOf y=some .globalImplicit) (hd:(y==("__debug__" : Str))=false)
  (he:nsIn W.K mainGlobals y=some none) (hv:bootBuiltins y=some (.type T)) (hn:y≠"__name__")
  (en:nsIn W.K mainGlobals x=some (some (.ref C))) (q:excIn W.K C bm newId=true)
  (h:TrS W A env outer (execs body env) loc mem Q (exX W env outer fun c l m=>c = .ref C/\Takes W env outer E c l m)) :
  TrS W A env outer (exec (.Try body [.ExceptHandler (some (.Name y np)) none (b₀::suite) hp] [] [] pos) env) loc mem Q E:=fun R F s S=>by
 refine wpAny_Try_except (after' (RW:=FR W) (Q:=fun _ _ _=>True) (h R F s S) (fun v s1 hx=>?_) fun f' s1 F1 fl l1 m1 i1 r1 S1 h1=>?_)
 ·obtain⟨F',l,m,e,cls,rfl,i,al,rfl,hX⟩:=hx
  refine al.note f fun h2 B S2 U2 hB ht2=>?_
  obtain⟨a0,ht2⟩:=ht2
  refine Aloft.land f S2 U2 hB ht2 fun h3 S3 U3 ht3=>?_
  obtain⟨m0,hns,l0⟩:=S3.ns
  have Fr':=S3.fr hns
  have O:=own_of_in W.KIn W.top en q
  obtain⟨tl,N,nm,q,bs,hdct,sn,sub,ab,col,dd,k0,k1,k2,k3,k5,mN,hC,hN,hni,T'⟩:=O.obj
  obtain⟨oe,vs,T0,oT,ts,q1,⟨q2,_⟩,q3,q4,_⟩:=id ht3
  refine wpAny_handleBy_cons (codeAny_handlers_test (Name_function_global hk hl (loadGlobal_builtin (env:=env) (by rw[hg];exact W.top.g.keeps Fr'.keep) (mg_none_of W.KIn W.top.g he) (by rw[hb];exact W.top.b.keeps Fr'.keep) ((W.top.builtins y hn).trans hv) (wpAny_excMatches_sub_type (S3.hbase _ _ hC) q1 q2 hexc hnt ?_)) hd)) (by intro q;cases q)
  rw[T'.hasType hT]
  refine wpAny_handleBy_nil ?_
  unfold PySem.passOn
  refine wpAny_bind (wpAny_field q1 q3 q4 ?_)
  rw[if_neg (show ¬ ((Value.ref T0==Value.none)=true) from by simp)]
  obtain⟨envs,hf,hl2,ff⟩:=f.fun (outs:=outer) S3 U3.here U3.outs
  have fin:wpAny (model W.prog W.w) A (do setFlight (.ref e) env.frame;throw (.ref e):Sem Flow) (fun v s=>Post W env outer (FR W) R F Q v s) (E.p R F) { s1 with heap:=h3 }:=
   wpAny_bind (Aloft.on (c:=.ref C) S3 U3 hB ht3 hl2 ⟨_,ff⟩ fun h' a=>wpAny_throw (E.up i (hX R F' _ e a)))
  first
   | exact wpAny_bind (wpAny_pure fin)
   | exact fin
 ·cases r1 with
  | next=>exact wpAny_execs_nil ⟨F1,.next,l1,m1,i1,.next,S1,h1⟩
  | brk=>exact⟨F1,.brk,l1,m1,i1,.brk,S1,h1⟩
  | cont=>exact⟨F1,.cont,l1,m1,i1,.cont,S1,h1⟩
  | ret r=>exact⟨F1,.ret _,l1,m1,i1,.ret r,S1,h1⟩
end
noncomputable abbrev aGErr:Addr:=121
noncomputable def startG(C:Addr)(g:GR)(st:Str):GR:={ g with p0:=.ins C (prodAttrs (.int 0) "S'" [st] (.tup [.str "right",.int 0]) .none (.str "") (.int 0)),no:=pushL g.no st 0,start:=.str st }
noncomputable abbrev stE(L:Addr):Env:=envX "Grammar.set_start" setStart.scope L 174 setStart.code []
section
variable {W:Wd}{A:Around}{env:Env}{outer:Outs}{loc:Loc}{mem R:Mem}{E:Ex W}{F:Frz}{s:Shared}
theorem s_gerr{np cpos pos:Pos}{e₀:PySem.Expr}{rest:List PySem.Expr}{Q:Fl->Loc->Mem->Prop}(hK:W.K=hdK W.w.params)(hh:A.handled=none)(hg:env.globals=mainGlobals)(hk:env.scope.kind = .function)(hl:env.kindOf ("GrammarError" : Str)=some .globalImplicit)
  (he:starEach (e₀::rest) env=(false,eval e₀ env)::starEach rest env) (hplain:(backTo cpos (starEach rest env)).any (·.1)=false)
  (h:TrL W A env outer (spliced (backTo cpos (starEach (e₀::rest) env))) loc mem (fun xs l m=>xs.length≤sizeLine/\Takes W env outer E (.ref aGErr) l m) E) :
  TrS W A env outer (exec (.Raise (some (.Call (.Name ("GrammarError" : Str) np) (e₀::rest) [] cpos)) none pos) env) loc mem Q E:=
 s_raise PySem.F.excBase_Exception hh hg hk hl (by decide +kernel) (by rw[hK];rfl) (by rw[hK];kernel_rfl) he hplain h
theorem start_rest{adr:Rl->Addr}{cc:Rl->Option AObj}{g:GR}{gm:Mem}{st:Str}{L:Addr}{Q:Fl->Loc->Mem->Prop}(hK:W.K=hdK W.w.params)(cd:Calm A 701 6003)(M:MemIs adr cc gm)(ok:GOk aGrammar aProd adr cc g)(hs1:st.cps.size≤100)(hso:PyData.strOk st=true)
  (hr:g.no.lookup st=none->∀ l,Takes W (stE L) outer E (.ref aGErr) l gm) (hnz:∀ ns,g.no.lookup st=some ns->ns.length≤100000) (h:(g.no.lookup st).isSome=true->∀ l m,GMem aGrammar aProd (startG aProd g st) (adr .self) m->Q .next l m) :
  TrS W A (stE L) outer (execs (setStart.body.drop 1) (stE L)) [("self",.ref (adr .self)),("start",.str st)] gm Q E:=by
 obtain⟨epd,hdict⟩:=ok.dict
 obtain⟨epn,hnod⟩:=ok.no
 have hx:=M.get ok.self
 have hd:=M.get hdict
 refine s_cons ?_;refine s_if ?_;refine b_cmp1 rfl rfl ?_;refine e_attr1 rfl rfl ?_
 refine get_o hK (fun _=>by kernel_rfl) (.own hx hd) rfl rfl ?_
 skip
 refine notin_dict (M.get hnod) ?_
 cases hns:g.no.lookup st with
 | none=>
  have hin:(getA (g.no.map fun q=>(q.1,V.ref (adr (.noL q.1)))) st).isSome=false:=by
   rw[getA_map g.no (fun k=>V.ref (adr (.noL k))) st,if_neg];rfl
   rw[<-lookup_contains,hns];simp
  rw[hin]
  refine tr_bool ?_
  refine only_t ?_
  (refine nameQ ?_;intro qq ee;refine s_cons ?_)
  refine s_gerr hK cd.handled rfl rfl rfl rfl rfl ?_
  refine a_cons rfl ?_;refine e_binop2 rfl rfl ?_
  refine pct_text (by decide +kernel) (by decide +kernel) (by decide +kernel) (Nat.le_trans hs1 (by decide)) fun z=>?_
  refine a_nil ?_
  exact⟨show 1≤sizeLine by decide,hr hns _⟩
 | some ns=>
  have hnl:cc (.noL st)=some (.list (vInts ns)):=by rw[ok.noL,hns];rfl
  have hin:(getA (g.no.map fun q=>(q.1,V.ref (adr (.noL q.1)))) st).isSome=true:=by
   rw[getA_map g.no (fun k=>V.ref (adr (.noL k))) st,if_pos (by rw[<-lookup_contains,hns];rfl)];rfl
  rw[hin]
  refine tr_bool ?_
  refine only_f ?_
  refine s_nil ?_;refine s_cons ?_;refine s_assign_sub rfl ?_;refine c_topN hK (fun _=>rfl) (fun _=>rfl) rfl rfl ?_;refine a_pu rfl ?_;refine a_pu rfl ?_;refine a_cons rfl ?_;refine e_list ?_;refine a_pus rfl ?_
  refine new_lst (show 1≤sizeLine by decide) ?_
  refine a_nil ?_
  refine prod_spec3 hK (cd.mono (by decide) (by decide)) (.lst _:Sq _ _ _ (vStrs [st])) (by simp) (by intro y hy;simp at hy;subst hy;exact⟨hs1,hso⟩) (by decide) rfl ?_
  refine e_attr1 rfl rfl ?_
  refine get_o hK (fun _=>by kernel_rfl) (.own hx hd) rfl rfl ?_
  refine e_int ?_
  refine setItem_own (k:=0) (M.get ok.pl) (by simp) (by lia) (fun m1 h1 f1=>?_)
  have M1:=M.set (r:=.pl) ok.pl h1 f1
  refine s_cons ?_;refine s_expr rfl rfl ?_;refine c_meth rfl ?_;refine e_sub (fun _ _=>rfl) ?_;refine e_attr1 rfl rfl ?_
  have hx:=M1.get (r:=.self) ok.self
  have hd:=M1.get (r:=.dict) hdict
  refine get_o hK (fun _=>by kernel_rfl) (.own hx hd) rfl rfl ?_
  refine pu rfl ?_
  refine sub_dict (x:=.ref (adr (.noL st))) (M1.get (r:=.no) hnod) (by rw[getA_map g.no (fun k=>V.ref (adr (.noL k))) st,if_pos (by rw[<-lookup_contains,hns];rfl)]) ?_
  have hl1:=M1.get (r:=.noL st) hnl
  refine m_builtin (.list hl1) PySem.F.plainAttrs_list PySem.F.slot_list_append PySem.F.type_list_append rfl rfl ?_
  refine a_pus rfl ?_
  refine append_own' hl1 (by simp[vInts];exact Nat.le_trans (hnz ns hns) (by decide)) (fun m2 h2 f2=>?_)
  have M2:=M1.set (r:=.noL st) hnl h2 f2
  refine s_cons ?_;refine s_assign_attr2 rfl rfl rfl ?_
  refine set_o hK (fun _=>by kernel_rfl) (M2.get (r:=.self) ok.self) (M2.get (r:=.dict) hdict) rfl (fun m3 ep3 hx3 hd3 f3=>?_)
  have hd3:_=some (AObj.dict [((Str.ofString "Productions",Rl.pl).fst,_),((Str.ofString "Prodnames",Rl.pn).fst,_),((Str.ofString "Prodmap",Rl.pm).fst,_),((Str.ofString "Terminals",Rl.te).fst,_),((Str.ofString "Nonterminals",Rl.no).fst,_),((Str.ofString "First",Rl.fi).fst,_),((Str.ofString "Follow",Rl.fo).fst,_),((Str.ofString "Precedence",Rl.pr).fst,_),(Str.ofString "UsedPrecedence",_),((Str.ofString "Start",g.start).fst,_)] _):=hd3
  have M3:=M2.set (r:=.dict) hdict hd3 f3
  refine s_nil ?_
  refine h (by rw[hns];rfl) _ m3 ⟨_,_,M3,?_,rfl⟩
  have off:∀ (y1 y2 y3:Option AObj) (r:Rl),r≠.pl->r≠.noL st->r≠.dict->upd (upd (upd cc .pl y1) (.noL st) y2) .dict y3 r=cc r:=fun y1 y2 y3 r a1 a2 a3=>by rw[upd_ne a3,upd_ne a2,upd_ne a1]
  refine {
   self:=(off _ _ _ _ (by simp) (by simp) (by simp)).trans ok.self
   dict:=⟨ep3,rfl⟩
   pl:=rfl
   pn:=ok.pn.imp fun ep e=>(off _ _ _ _ (by simp) (by simp) (by simp)).trans e
   pnL:=fun k=>(off _ _ _ _ (by simp) (by simp) (by simp)).trans (ok.pnL k)
   pm:=ok.pm.imp fun ep e=>(off _ _ _ _ (by simp) (by simp) (by simp)).trans e
   te:=ok.te.imp fun ep e=>(off _ _ _ _ (by simp) (by simp) (by simp)).trans e
   teL:=fun k=>(off _ _ _ _ (by simp) (by simp) (by simp)).trans (ok.teL k)
   no:=⟨epn,?_⟩
   noL:=fun k=>?_
   fi:=ok.fi.imp fun ep e=>(off _ _ _ _ (by simp) (by simp) (by simp)).trans e
   fiL:=fun k=>(off _ _ _ _ (by simp) (by simp) (by simp)).trans (ok.fiL k)
   fo:=ok.fo.imp fun ep e=>(off _ _ _ _ (by simp) (by simp) (by simp)).trans e
   foL:=fun k=>(off _ _ _ _ (by simp) (by simp) (by simp)).trans (ok.foL k)
   pr:=ok.pr.imp fun ep e=>(off _ _ _ _ (by simp) (by simp) (by simp)).trans e
   up:=(off _ _ _ _ (by simp) (by simp) (by simp)).trans ok.up }
  ·rw[off _ _ _ _ (by simp) (by simp) (by simp),hnod]
   exact congrArg (fun z=>some (AObj.dict z epn)) (pushL_refs g.no st 0 (fun k=>V.ref (adr (.noL k)))).symm
  ·show _=((pushL g.no st 0).lookup k).map _
   rw[pushL_lookup]
   by_cases e:k=st
   ·subst e
    rw[if_pos rfl,hns]
    simp[upd,vInts]
   ·rw[if_neg e,off _ _ _ _ (by simp) (by simpa using e) (by simp)]
    exact ok.noL k
inductive StArg(g:GR)(st:Str):List V->V->Prop
 | str:0<st.cps.size->StArg g st [.str st] (.str st)
 | none {p:Pr} {ps:List Pr}:g.prods=p::ps->p.name=st->StArg g st [] .none
 | emp {p:Pr} {ps:List Pr}:g.prods=p::ps->p.name=st->StArg g st [.str ""] (.str "")
theorem start_spec{g:GR}{a:Addr}{gm:Mem}{st:Str}{xs:List V}{sv:V}{Q:V->Loc->Mem->Prop}(hK:W.K=hdK W.w.params)(c:Calm A 700 6000)(hf:Fits A env outer)(G:GMem aGrammar aProd g a gm)(hsv:StArg g st xs sv)(hs1:st.cps.size≤100)(hso:PyData.strOk st=true)
  (hr:g.no.lookup st=none->Takes W env outer E (.ref aGErr) loc gm) (hnz:∀ ns,g.no.lookup st=some ns->ns.length≤100000) (h:(g.no.lookup st).isSome=true->∀ m,GMem aGrammar aProd (startG aProd g st) a m->Q .none loc m):OpV W A env outer (fun vs=>call (.ref aStart) vs) (.ref a::xs) loc gm Q E:=by
 obtain⟨adr,cc,M,ok,rfl⟩:=G
 refine call_fnX (bs:=[("self",.ref (adr .self)),("start",sv)]) (by rw[hK];exact setStart.at _) (by rw[hK];first|rfl|kernel_rfl|decide +kernel) (c.room (by decide)) hf ?_ (by intro y hy;simp at hy;rcases hy with rfl|rfl<;>rfl) (by decide) rfl rfl rfl ?_
 ·intro F s vs hb hk r
  cases hsv with
  | str=>
   cases r.view with
   | cons r1 r2=>
    cases r2 with
    | cons r2 r3=>
     cases r3
     exact⟨_,binds_K (T:=167) hk rfl (by rw[hK];rfl) rfl rfl rfl,.cons r1 (.cons r2 .nil)⟩
  | emp=>
   obtain⟨_,_,r1,r2,rfl⟩:=r.isCons
   obtain⟨_,_,r3,r4,rfl⟩:=r2.isCons
   obtain rfl:=r4.isNil
   exact⟨_,binds_K (T:=167) hk rfl (by rw[hK];rfl) rfl rfl rfl,.cons r1 (.cons r3 .nil)⟩
  | none=>
   obtain⟨_,_,r1,r2,rfl⟩:=r.isCons
   cases r2
   exact⟨_,binds_K (T:=167) hk rfl (by rw[hK];rfl) rfl rfl rfl,.cons r1 (.cons .none .nil)⟩
 ·intro L m0 fd
  have cd:=c.deeper (stE L)
  obtain⟨epd,hdict⟩:=ok.dict
  have hx:=M.get ok.self
  have hd:=M.get hdict
  have rest:∀ l,LSub [("self",.ref (adr .self)),("start",.str st)] l->TrS W (A.deeper (stE L)) (stE L) ((env.locals,m0)::outer) (execs (setStart.body.drop 1) (stE L)) l gm (fun fl _ m=>∃ m',(∀ a x,m' a=some x->m a=some x)/\Q (retOf fl) loc m') (exX W (stE L) ((env.locals,m0)::outer) fun c _ m=>∃ m',(∀ a x,m' a=some x->m a=some x)/\Takes W env outer E c loc m'):=fun l hl=>
   Tr.locs hl (start_rest hK cd M ok hs1 hso (fun e l=>takesX ⟨gm,sub_refl _,hr e⟩) hnz fun e l m G=>⟨m,sub_refl _,h e m G⟩)
  cases hsv with
  | str hs0=>
   (refine nameS ?_;intro aa vv oo qq ee;refine s_cons ?_);refine s_if ?_;refine b_not ?_;refine b_value1 rfl rfl ?_
   refine tr_str (by show(st.cps.size:Int)<_;lia) ?_
   have hne:((st.length:Int) != 0)=true:=by
    have:(st.length:Int)≠0:=by show(st.cps.size:Int)≠0;lia
    simpa using this
   rw[hne]
   skip
   refine only_f ?_
   refine s_nil ?_
   exact rest _ rfl
  | @none p ps hp hn=>
   have hpl:=M.get ok.pl
   rw[hp]at hpl
   (refine nameS ?_;intro aa vv oo qq ee;refine s_cons ?_);refine s_if ?_;refine b_not ?_;refine b_value1 rfl rfl ?_;refine tr_none ?_
   refine only_t ?_
   (refine nameQ ?_;intro qq ee;refine s_cons ?_);refine s_assign1 rfl rfl rfl ?_;refine e_attr rfl ?_;refine e_sub (fun _ _=>rfl) ?_;refine e_attr1 rfl rfl ?_
   refine get_o hK (fun _=>by kernel_rfl) (.own hx hd) rfl rfl ?_
   refine e_int ?_
   refine sub_sq (k:=1) (x:=pV aProd p) (.own hpl) (by decide) (by decide) rfl ?_
   skip
   refine get_o hK (fun _=>by kernel_rfl) .frz rfl rfl ?_
   rw[hn]
   refine s_nil ?_
   exact rest _ rfl
  | @emp p ps hp hn=>
   have hpl:=M.get ok.pl
   rw[hp]at hpl
   (refine nameS ?_;intro aa vv oo qq ee;refine s_cons ?_);refine s_if ?_;refine b_not ?_;refine b_value1 rfl rfl ?_
   refine tr_str (by decide +kernel) ?_
   rw[show(((Str.ofString "").length:Int) != 0)=false from by decide +kernel]
   skip
   refine only_t ?_
   (refine nameQ ?_;intro qq ee;refine s_cons ?_);refine s_assign1 rfl rfl rfl ?_;refine e_attr rfl ?_;refine e_sub (fun _ _=>rfl) ?_;refine e_attr1 rfl rfl ?_
   refine get_o hK (fun _=>by kernel_rfl) (.own hx hd) rfl rfl ?_
   refine e_int ?_
   refine sub_sq (k:=1) (x:=pV aProd p) (.own hpl) (by decide) (by decide) rfl ?_
   skip
   refine get_o hK (fun _=>by kernel_rfl) .frz rfl rfl ?_
   rw[hn]
   refine s_nil ?_
   exact rest _ rfl
end
structure TN(adr0:Rl->Addr)(c0:Rl->Option AObj)(adr:Rl->Addr)(c:Rl->Option AObj)(te no:List (Str×List Int)):Prop where
 adrE:∀ r,(∀ k,r≠.noL k)->adr r=adr0 r
 cE:∀ r,(∀ k,r≠.noL k)->(∀ k,r≠.teL k)->r≠.no->c r=c0 r
 hte:∃ ep,c .te=some (.dict (te.map fun q=>(q.1,.ref (adr (.teL q.1)))) ep)
 teL:∀ k,c (.teL k)=(te.lookup k).map fun ns=>.list (vInts ns)
 hno:∃ ep,c .no=some (.dict (no.map fun q=>(q.1,.ref (adr (.noL q.1)))) ep)
 noL:∀ k,c (.noL k)=(no.lookup k).map fun ns=>.list (vInts ns)
variable {adr0 adr:Rl->Addr}{c0 c:Rl->Option AObj}{te no:List (Str×List Int)}
theorem TN.pushT{s:Str}{n:Int}{ns:List Int}(T:TN adr0 c0 adr c te no)(h:te.lookup s=some ns):TN adr0 c0 adr (upd c (.teL s) (some (.list (vInts ns++[.int n])))) (pushL te s n) no where
 adrE:=T.adrE
 cE r a b d:=by rw[upd_ne (b s)];exact T.cE r a b d
 hte:=by
  obtain⟨ep,e⟩:=T.hte
  refine⟨ep,?_⟩
  rw[upd_ne (by simp),e]
  exact congrArg (fun z=>some (AObj.dict z ep)) (pushL_refs te s n (fun k=>V.ref (adr (.teL k)))).symm
 teL k:=by
  rw[pushL_lookup]
  by_cases e:k=s
  ·subst e;rw[upd_self,if_pos rfl,h];simp[vInts]
  ·rw[upd_ne (by simpa using e),if_neg e];exact T.teL k
 hno:=T.hno.imp fun ep e=>by rw[upd_ne (by simp)];exact e
 noL k:=by rw[upd_ne (by simp)];exact T.noL k
theorem TN.pushN{s:Str}{n:Int}{ns:List Int}(T:TN adr0 c0 adr c te no)(h:no.lookup s=some ns):TN adr0 c0 adr (upd c (.noL s) (some (.list (vInts ns++[.int n])))) te (pushL no s n) where
 adrE:=T.adrE
 cE r a b d:=by rw[upd_ne (a s)];exact T.cE r a b d
 hte:=T.hte.imp fun ep e=>by rw[upd_ne (by simp)];exact e
 teL k:=by rw[upd_ne (by simp)];exact T.teL k
 hno:=by
  obtain⟨ep,e⟩:=T.hno
  refine⟨ep,?_⟩
  rw[upd_ne (by simp),e]
  exact congrArg (fun z=>some (AObj.dict z ep)) (pushL_refs no s n (fun k=>V.ref (adr (.noL k)))).symm
 noL k:=by
  rw[pushL_lookup]
  by_cases e:k=s
  ·subst e;rw[upd_self,if_pos rfl,h];simp[vInts]
  ·rw[upd_ne (by simpa using e),if_neg e];exact T.noL k
theorem TN.newN{s:Str}{a:Addr}{ep':Nat}(T:TN adr0 c0 adr c te no)(h:no.lookup s=none) :
  TN adr0 c0 (upd adr (.noL s) a) (upd (upd c (.noL s) (some (.list []))) .no (some (.dict (stA (no.map fun q=>(q.1,.ref (adr (.noL q.1)))) s (.ref a)) ep'))) te (known no s) where
 adrE r hr:=by rw[upd_ne (hr s)];exact T.adrE r hr
 cE r a b d:=by rw[upd_ne d,upd_ne (a s)];exact T.cE r a b d
 hte:=T.hte.imp fun ep e=>by
  rw[upd_ne (by simp),upd_ne (by simp),e]
  refine congrArg (fun z=>some (AObj.dict z ep)) (List.map_congr_left fun q _=>?_)
  rw[upd_ne (by simp)]
 teL k:=by rw[upd_ne (by simp),upd_ne (by simp)];exact T.teL k
 hno:=by
  refine⟨ep',?_⟩
  have hg:getA (no.map fun q=>(q.1,V.ref (adr (.noL q.1)))) s=none:=by
   rw[getA_map no (fun k=>V.ref (adr (.noL k))) s,if_neg]
   rw[<-lookup_contains,h];simp
  rw[upd_self,stA_new hg]
  have hk:known no s=no++[(s,[])]:=by unfold known;rw[h];rfl
  rw[hk,List.map_append]
  refine congrArg (fun z=>some (AObj.dict z ep')) (congr (congrArg _ (List.map_congr_left fun q hq=>?_)) ?_)
  ·have:q.1≠s:=fun e=>by
    have:=lookup_contains no s
    rw[h]at this
    have hc:(no.map (·.1)).contains s=true:=by rw[List.contains_iff_mem];exact List.mem_map.mpr ⟨q,hq,e⟩
    rw[hc]at this;cases this
   rw[upd_ne (by simpa using this)]
  ·simp[upd]
 noL k:=by
  rw[known_lookup,upd_ne (by simp)]
  by_cases e:k=s
  ·subst e;rw[upd_self,if_pos rfl,h];simp[vInts]
  ·rw[upd_ne (by simpa using e),if_neg e];exact T.noL k
end Mine
namespace Mine
structure SymOk(s:Str):Prop where
 pos:0<s.cps.size
 size:s.cps.size≤100
 ok:PyData.strOk s=true
 ident:isIdent s=true
 noQuote:∀ c,s.cps[0]? = some c->strIn ⟨#[c]⟩ "'\"" = false
 noPrec:s≠"%prec"
noncomputable abbrev addE(L:Addr):Env:=envX "Grammar.add_production" addP.scope L aAdd addP.code []
noncomputable abbrev addL(a sy:Addr)(name map:Str)(prec func file line num:V):Loc:=[("self",.ref a),("prodname",.str name),("syms",.ref sy),("func",func),("file",file),("line",line),("prodprec",prec),("map",.str map),("pnumber",num)]
section
variable {W:Wd}{A:Around}{outer:Outs}{loc:Loc}{m:Mem}{E:Ex W}{L:Addr}{g:GR}{adr0 adr:Rl->Addr}{c0 cc:Rl->Option AObj}{te no:List (Str×List Int)}{sy:Addr}{X:AObj}{name map:Str}{prec func file line num:V}
theorem TN.at{r:Rl}{x:AObj}(T:TN adr0 c0 adr cc te no)(G:GS adr cc sy X m)(h1:∀ k,r≠.noL k)(h2:∀ k,r≠.teL k)(h3:r≠.no)(h:c0 r=some x):m (adr0 r)=some x:=by
 have:=G.get (r:=r) ((T.cE r h1 h2 h3).trans h)
 rwa [T.adrE r h1]at this
theorem lookA{β:Type}{l:List (Str×β)}{f:Str->V}{k:Str}{b:Bool}(h:(l.lookup k).isSome=b):(getA (l.map fun q=>(q.1,f q.1)) k).isSome=b:=by
 rw[getA_map l f k,<-h,lookup_contains];split<;>rename_i z<;>simp_all
theorem lookB{β:Type}{l:List (Str×β)}{f:Str->V}{k:Str}(h:(l.lookup k).isSome=true):getA (l.map fun q=>(q.1,f q.1)) k=some (f k):=by
 rw[getA_map l f k,if_pos (by rw[<-lookup_contains];exact h)]
theorem add_know{Q:Fl->Loc->Mem->Prop}(hK:W.K=hdK W.w.params)(ok:GOk aGrammar aProd adr0 c0 g)(G:GS adr cc sy X m)(T:TN adr0 c0 adr cc te no)(hl:LSub (addL (adr0 .self) sy name map prec func file line num) loc)(hz:no.length≤1000000)
  (h:∀ l m adr1 cc1,LSub (addL (adr0 .self) sy name map prec func file line num) l->GS adr1 cc1 sy X m->TN adr0 c0 adr1 cc1 te (known no name)->Q .next l m) :
  TrS W A (addE L) outer (exec (addP.body.getD 8 (.Pass ⟨0,0,0,0⟩)) (addE L)) loc m Q E:=by
 refine Tr.locs hl ?_
 obtain⟨epd,hdict⟩:=ok.dict
 have hx:=T.at G (by simp) (by simp) (by simp) ok.self
 have hd:=T.at G (by simp) (by simp) (by simp) hdict
 obtain⟨epn,hnod⟩:=T.hno
 have hno:=G.get hnod
 rw[T.adrE .no (by simp)]at hno
 refine s_if ?_;refine b_cmp1 rfl rfl ?_;refine e_attr1 rfl rfl ?_
 refine get_o hK (fun _=>by kernel_rfl) (.own hx hd) rfl rfl ?_
 skip
 refine notin_dict hno ?_
 cases q:(no.lookup name).isSome with
 | true=>
  rw[show(getA (no.map fun q=>(q.1,V.ref (adr (.noL q.1)))) name).isSome=true from lookA (f:=fun k=>V.ref (adr (.noL k))) q]
  refine tr_bool ?_
  refine only_f ?_
  refine s_nil ?_
  refine h _ _ adr cc (rfl) G ?_
  have:known no name=no:=by unfold known;rw[if_pos q]
  rw[this];exact T
 | false=>
  rw[show(getA (no.map fun q=>(q.1,V.ref (adr (.noL q.1)))) name).isSome=false from lookA (f:=fun k=>V.ref (adr (.noL k))) q]
  refine tr_bool ?_
  refine only_t ?_
  refine s_cons ?_;refine s_assign_sub rfl ?_;refine e_list ?_;refine a_nil ?_
  refine new_own' (by decide) (fun a m1 ha h1 f1=>?_)
  have q':no.lookup name=none:=by cases z:no.lookup name with|none=>rfl|some _=>rw[z]at q;cases q
  have hc:cc (.noL name)=none:=by rw[T.noL,q'];rfl
  have G1:=G.new hc ha h1 f1
  have hx:m1 (adr0 .self)=_:=(f1 _ (nex hx ha)).trans hx
  have hd:m1 (adr0 .dict)=_:=(f1 _ (nex hd ha)).trans hd
  have hno:m1 (adr0 .no)=_:=(f1 _ (nex hno ha)).trans hno
  refine e_attr1 rfl rfl ?_
  refine get_o hK (fun _=>by kernel_rfl) (.own hx hd) rfl rfl ?_
  refine pu rfl ?_
  refine setItem_dict' hno (by simp;exact Nat.le_trans hz (by decide)) (fun m2 ep2 h2 f2=>?_)
  refine s_nil ?_
  have hc2:upd cc (.noL name) (some (.list [])) .no=some (.dict (no.map fun q=>(q.1,.ref (adr (.noL q.1)))) epn):=by rw[upd_ne (by simp)];exact hnod
  have e2:upd adr (.noL name) a .no=adr0 .no:=by rw[upd_ne (by simp),T.adrE .no (by simp)]
  have G2:=G1.set (r:=.no) hc2 (by rw[e2];exact h2) (by rw[e2];exact f2)
  exact h _ _ _ _ (rfl) G2 (T.newN q')
noncomputable def LenOk(B:Nat)(tn:List (Str×List Int)×List (Str×List Int)):Prop:=tn.2.length≤B/\(∀ k ns,tn.1.lookup k=some ns->ns.length≤B)/\∀ k ns,tn.2.lookup k=some ns->ns.length≤B
theorem pushL_len{B:Nat}{l:List (Str×List Int)}{s:Str}{n:Int}(h:∀ k ns,l.lookup k=some ns->ns.length≤B):∀ k ns,(pushL l s n).lookup k=some ns->ns.length≤B+1:=by
 intro k ns e
 rw[pushL_lookup]at e
 split at e
 ·cases q:l.lookup k with
  | none=>rw[q]at e;cases e
  | some z=>rw[q]at e;cases e;have:=h k z q;simp;lia
 ·have:=h k ns e;lia
theorem known_len{B:Nat}{l:List (Str×List Int)}{s:Str}(h:∀ k ns,l.lookup k=some ns->ns.length≤B):∀ k ns,(known l s).lookup k=some ns->ns.length≤B:=by
 intro k ns e
 rw[known_lookup]at e
 split at e
 ·cases q:l.lookup s with
  | none=>rw[q]at e;cases e;simp
  | some z=>rw[q]at e;cases e;exact h s z q
 ·exact h k ns e
theorem known_size{l:List (Str×List Int)}{s:Str}:(known l s).length≤l.length+1:=by unfold known;split<;>simp
theorem LenOk.note{B:Nat}{tn:List (Str×List Int)×List (Str×List Int)}(h:LenOk B tn)(n:Int)(s:Str):LenOk (B+1) (noteSym n tn s):=by
 obtain⟨h1,h2,h3⟩:=h
 unfold noteSym
 split
 ·exact⟨Nat.le_succ_of_le h1,pushL_len h2,fun k ns e=>Nat.le_succ_of_le (h3 k ns e)⟩
 ·refine⟨?_,fun k ns e=>Nat.le_succ_of_le (h2 k ns e),pushL_len (known_len h3)⟩
  show(pushL _ _ _).length≤_
  unfold pushL;rw[List.length_map];have:=@known_size tn.2 s;lia
theorem notes_len{B:Nat}{tn:List (Str×List Int)×List (Str×List Int)}(h:LenOk B tn)(n:Int)(syms:List Str):LenOk (B+syms.length) (syms.foldl (noteSym n) tn):=by
 induction syms generalizing B tn with
 | nil=>exact h
 | cons s l ih=>have:=ih (h.note n s);rw[List.length_cons,Nat.add_comm l.length 1,<-Nat.add_assoc];exact this
inductive P2G_J1(adr0:Rl->Addr)(c0:Rl->Option AObj)(te:List (Str×List Int))(no:List (Str×List Int))(sy:Addr)(name:Str)(map:Str)(prec:V)(func:V)(file:V)(line:V)(n:Int)(syms:List Str)(k:Nat)(i:Nat)(l:Loc)(m:Mem):Prop
 | mk (h1_:k+i=syms.length) (h2_:LSub (addL (adr0 .self) sy name map prec func file line (.int n)) l) (adr1:_) (cc1:_) (h3_:GS adr1 cc1 sy (.list (vStrs syms)) m) (h4_:TN adr0 c0 adr1 cc1 ((syms.take i).foldl (noteSym n) (te,no)).1 ((syms.take i).foldl (noteSym n) (te,no)).2)
theorem add_loop{Q:Fl->Loc->Mem->Prop}{n:Int}{syms:List Str}(hK:W.K=hdK W.w.params)(hh:A.handled=none)(ok:GOk aGrammar aProd adr0 c0 g)(G:GS adr cc sy (.list (vStrs syms)) m)(T:TN adr0 c0 adr cc te no)(hl:LSub (addL (adr0 .self) sy name map prec func file line (.int n)) loc)(hz:LenOk 1000000 (te,no))(hs:syms.length≤1000)
  (h:∀ l m adr1 cc1,LSub (addL (adr0 .self) sy name map prec func file line (.int n)) l->GS adr1 cc1 sy (.list (vStrs syms)) m->TN adr0 c0 adr1 cc1 (syms.foldl (noteSym n) (te,no)).1 (syms.foldl (noteSym n) (te,no)).2->Q .next l m) :
  TrS W A (addE L) outer (exec (addP.body.getD 9 (.Pass ⟨0,0,0,0⟩)) (addE L)) loc m Q E:=by
 refine Tr.locs hl ?_
 refine s_for (fun _=>rfl) ?_;refine pu rfl ?_
 let J1:Nat->Nat->Loc->Mem->Prop:=P2G_J1 adr0 c0 te no sy name map prec func file line n syms
 refine for_k (itr_own hh G.side) J1 ?_ syms.length ⟨rfl,rfl,adr,cc,G,T⟩
 rintro k i l m ⟨hk,hl,adr1,cc1,G,T⟩
 have ei:ownItem sy i m=some (vStrs syms)[i]?:=ownItem_eq G.side
 refine⟨by rw[ei];simp,fun hn1=>?_,fun v hv=>?_⟩
 ·rw[ei]at hn1
  have hn1:(vStrs syms)[i]? = none:=Option.some.inj hn1
  rw[List.getElem?_eq_none_iff,vStrs_len]at hn1
  obtain rfl:i=syms.length:=by lia
  refine Tr.locs hl ?_
  refine s_nil ?_
  rw[List.take_length]at T
  exact h _ _ _ _ (rfl) G T
 ·rw[ei]at hv
  have hi:(vStrs syms)[i]? = some v:=Option.some.inj hv
  obtain⟨y,rfl,hy1⟩:∃ y,v = .str y/\syms[i]? = some y:=by
   unfold vStrs at hi
   rw[List.getElem?_map]at hi
   cases e:syms[i]? with
   | none=>rw[e]at hi;cases hi
   | some y=>rw[e]at hi;exact⟨y,(Option.some.inj hi).symm,rfl⟩
  have hlt:i<syms.length:=by rw[List.getElem?_eq_some_iff]at hy1;exact hy1.1
  have et:(syms.take (i+1)).foldl (noteSym n) (te,no)=noteSym n ((syms.take i).foldl (noteSym n) (te,no)) y:=by rw[take_snoc hy1,List.foldl_append];rfl
  have hlen:=notes_len hz n (syms.take i)
  generalize htn:(syms.take i).foldl (noteSym n) (te,no)=tn at *
  have hlen:LenOk 1001000 tn:=by
   have e:(syms.take i).length≤1000:=by rw[List.length_take];lia
   obtain⟨a,b,d⟩:=hlen
   exact⟨by lia,fun k ns z=>by have:=b k ns z;lia,fun k ns z=>by have:=d k ns z;lia⟩
  obtain⟨tt,nn⟩:=tn
  obtain⟨hz1,hz2,hz3⟩:=hlen
  dsimp only at hz1 hz2 hz3 T
  obtain⟨epd,hdict⟩:=ok.dict
  have hx:=T.at G (by simp) (by simp) (by simp) ok.self
  have hd:=T.at G (by simp) (by simp) (by simp) hdict
  obtain⟨epn,hnod⟩:=T.hno
  have hno:=G.get hnod
  rw[T.adrE .no (by simp)]at hno
  obtain⟨ept,hted⟩:=T.hte
  have hte:=G.get hted
  rw[T.adrE .te (by simp)]at hte
  refine Op.locs hl ?_
  refine asg_name1 rfl rfl ?_;(refine nameQ ?_;intro qq ee;refine s_cons ?_);refine s_if ?_;refine b_cmp1 rfl rfl ?_;refine e_attr1 rfl rfl ?_
  refine get_o hK (fun _=>by kernel_rfl) (.own hx hd) rfl rfl ?_
  skip
  refine in_dict hte ?_
  cases q:(tt.lookup y).isSome with
  | true=>
   rw[show(getA (tt.map fun q=>(q.1,V.ref (adr1 (.teL q.1)))) y).isSome=true from lookA (f:=fun k=>V.ref (adr1 (.teL k))) q]
   refine tr_bool ?_
   refine only_t ?_
   (refine nameQ ?_;intro qq ee;refine s_cons ?_);refine s_expr rfl rfl ?_;refine c_meth rfl ?_;refine e_sub (fun _ _=>rfl) ?_;refine e_attr1 rfl rfl ?_
   refine get_o hK (fun _=>by kernel_rfl) (.own hx hd) rfl rfl ?_
   refine pu rfl ?_
   refine sub_dict hte (lookB (f:=fun k=>V.ref (adr1 (.teL k))) q) ?_
   obtain⟨ns,hns⟩:=Option.isSome_iff_exists.mp q
   have hcl:cc1 (.teL y)=some (.list (vInts ns)):=by rw[T.teL,hns];rfl
   have hl1:=G.get hcl
   refine m_builtin (.list hl1) PySem.F.plainAttrs_list PySem.F.slot_list_append PySem.F.type_list_append rfl rfl ?_
   refine a_pus rfl ?_
   refine append_own' hl1 (by have:=hz2 y ns hns;simp[vInts];exact Nat.le_trans this (by decide)) (fun m2 h2 f2=>?_)
   refine s_nil ?_;refine s_nil ?_
   refine⟨k - 1,(kst hk hlt).1,(kst hk hlt).2,rfl,_,_,G.set hcl h2 f2,?_⟩
   have:noteSym n (tt,nn) y=(pushL tt y n,nn):=by unfold noteSym;rw[if_pos q]
   rw[et,this]
   exact T.pushT hns
  | false=>
   rw[show(getA (tt.map fun q=>(q.1,V.ref (adr1 (.teL q.1)))) y).isSome=false from lookA (f:=fun k=>V.ref (adr1 (.teL k))) q]
   refine tr_bool ?_
   refine only_f ?_
   have hnote:noteSym n (tt,nn) y=(tt,pushL (known nn y) y n):=by unfold noteSym;rw[if_neg (by rw[q];exact Bool.false_ne_true)]
   (refine nameQ ?_;intro qq ee;refine s_cons ?_)
   refine Tr.mono (Q:=fun f l m=>f = .next/\LSub (("t",.str y)::addL (adr0 .self) sy name map prec func file line (.int n)) l/\∃ adr2 cc2,GS adr2 cc2 sy (.list (vStrs syms)) m/\TN adr0 c0 adr2 cc2 tt (known nn y)) (nameQ ?_) ?_
   ·intro qq ee
    refine s_if ?_;refine b_cmp1 rfl rfl ?_;refine e_attr1 rfl rfl ?_
    refine get_o hK (fun _=>by kernel_rfl) (.own hx hd) rfl rfl ?_
    skip
    refine notin_dict hno ?_
    cases q2:(nn.lookup y).isSome with
    | true=>
     rw[show(getA (nn.map fun q=>(q.1,V.ref (adr1 (.noL q.1)))) y).isSome=true from lookA (f:=fun k=>V.ref (adr1 (.noL k))) q2]
     refine tr_bool ?_
     refine only_f ?_
     refine s_nil ?_
     have:known nn y=nn:=by unfold known;rw[if_pos q2]
     exact⟨rfl,rfl,_,_,G,by rw[this];exact T⟩
    | false=>
     rw[show(getA (nn.map fun q=>(q.1,V.ref (adr1 (.noL q.1)))) y).isSome=false from lookA (f:=fun k=>V.ref (adr1 (.noL k))) q2]
     refine tr_bool ?_
     refine only_t ?_
     refine s_cons ?_;refine s_assign_sub rfl ?_;refine e_list ?_;refine a_nil ?_
     refine new_own' (by decide) (fun a m1 ha h1 f1=>?_)
     have q':nn.lookup y=none:=by cases z:nn.lookup y with|none=>rfl|some _=>rw[z]at q2;cases q2
     have hc:cc1 (.noL y)=none:=by rw[T.noL,q'];rfl
     have G1:=G.new hc ha h1 f1
     have hx:m1 (adr0 .self)=_:=(f1 _ (nex hx ha)).trans hx
     have hd:m1 (adr0 .dict)=_:=(f1 _ (nex hd ha)).trans hd
     have hno:m1 (adr0 .no)=_:=(f1 _ (nex hno ha)).trans hno
     refine e_attr1 rfl rfl ?_
     refine get_o hK (fun _=>by kernel_rfl) (.own hx hd) rfl rfl ?_
     refine pu rfl ?_
     refine setItem_dict' hno (by simp;exact Nat.le_trans hz1 (by decide)) (fun m2 ep2 h2 f2=>?_)
     refine s_nil ?_
     have hc2:upd cc1 (.noL y) (some (.list [])) .no=some (.dict (nn.map fun q=>(q.1,.ref (adr1 (.noL q.1)))) epn):=by rw[upd_ne (by simp)];exact hnod
     have e2:upd adr1 (.noL y) a .no=adr0 .no:=by rw[upd_ne (by simp),T.adrE .no (by simp)]
     have G2:=G1.set (r:=.no) hc2 (by rw[e2];exact h2) (by rw[e2];exact f2)
     exact⟨rfl,rfl,_,_,G2,T.newN q'⟩
   ·rintro f l m ⟨rfl,hl,adr2,cc2,G,T⟩
    refine s_cons ?_
    refine Tr.locs hl ?_
    have hx:=T.at G (by simp) (by simp) (by simp) ok.self
    have hd:=T.at G (by simp) (by simp) (by simp) hdict
    obtain⟨epn,hnod⟩:=T.hno
    have hno:=G.get hnod
    rw[T.adrE .no (by simp)]at hno
    refine s_expr rfl rfl ?_;refine c_meth rfl ?_;refine e_sub (fun _ _=>rfl) ?_;refine e_attr1 rfl rfl ?_
    refine get_o hK (fun _=>by kernel_rfl) (.own hx hd) rfl rfl ?_
    refine pu rfl ?_
    have hk3:(known nn y).lookup y=some ((nn.lookup y).getD []):=by rw[known_lookup,if_pos rfl]
    refine sub_dict hno (lookB (f:=fun k=>V.ref (adr2 (.noL k))) (by rw[hk3];rfl)) ?_
    have hcl:cc2 (.noL y)=some (.list (vInts ((nn.lookup y).getD []))):=by rw[T.noL,hk3];rfl
    have hl1:=G.get hcl
    refine m_builtin (.list hl1) PySem.F.plainAttrs_list PySem.F.slot_list_append PySem.F.type_list_append rfl rfl ?_
    refine a_pus rfl ?_
    refine append_own' hl1 (by have:=known_len hz3 y _ hk3;simp[vInts];exact Nat.le_trans this (by decide)) (fun m2 h2 f2=>?_)
    refine s_nil ?_;refine s_nil ?_
    refine⟨k - 1,(kst hk hlt).1,(kst hk hlt).2,rfl,_,_,G.set hcl h2 f2,?_⟩
    rw[et,hnote]
    exact T.pushN hk3
end
theorem GOk.add{C CP:Addr}{g:GR}{adr0 adr adr':Rl->Addr}{c0 cc c':Rl->Option AObj}{te no:List (Str×List Int)}{p:Pr}{pn':List Str}(ok:GOk C CP adr0 c0 g)(T:TN adr0 c0 adr cc te no)
  (ha:∀ r,(∀ k,r≠.pnL k)->adr' r=adr r) (hc:∀ r,r≠.pl->r≠.pm->r≠.pn->(∀ k,r≠.pnL k)->c' r=cc r)
  (hpl:c' .pl=some (.list (g.p0::(g.prods++[p]).map (pV CP)))) (hpm:∃ ep,c' .pm=some (.dict ((g.prods++[p]).map fun p=>(mapText p.name p.body,pV CP p)) ep))
  (hpn:∃ ep,c' .pn=some (.dict (pn'.map fun k=>(k,.ref (adr' (.pnL k)))) ep)) (hpnL:∀ k,c' (.pnL k)=if k∈pn' then some (.list (((g.prods++[p]).filter fun p=>p.name=k).map (pV CP))) else none) :
  GOk C CP adr' c' { g with prods:=g.prods++[p],pn:=pn',te:=te,no:=no }:=by
 have hA:∀ r,(∀ k,r≠.pnL k)->(∀ k,r≠.noL k)->adr' r=adr0 r:=fun r h1 h2=>(ha r h1).trans (T.adrE r h2)
 have hC:∀ r,r≠.pl->r≠.pm->r≠.pn->(∀ k,r≠.pnL k)->(∀ k,r≠.noL k)->(∀ k,r≠.teL k)->r≠.no->c' r=c0 r:=fun r h1 h2 h3 h4 h5 h6 h7=>(hc r h1 h2 h3 h4).trans (T.cE r h5 h6 h7)
 exact {
  self:=by rw[hC _ (by simp) (by simp) (by simp) (by simp) (by simp) (by simp) (by simp),hA .dict (by simp) (by simp)];exact ok.self
  dict:=by
   obtain⟨ep,e⟩:=ok.dict
   refine⟨ep,?_⟩
   rw[hC _ (by simp) (by simp) (by simp) (by simp) (by simp) (by simp) (by simp),e]
   exact congrArg (fun z=>some (AObj.dict z ep)) (gAttrs_eq fun r hr=>hA r (fun _=>leaf_ne hr rfl) fun _=>leaf_ne hr rfl).symm
  pl:=hpl
  pn:=hpn
  pnL:=hpnL
  pm:=hpm
  te:=by
   obtain⟨ep,e⟩:=T.hte
   refine⟨ep,?_⟩
   rw[hc _ (by simp) (by simp) (by simp) (by simp),e]
   exact congrArg (fun z=>some (AObj.dict z ep)) (List.map_congr_left fun q _=>by rw[ha _ (by simp)])
  teL:=fun k=>by rw[hc _ (by simp) (by simp) (by simp) (by simp)];exact T.teL k
  no:=by
   obtain⟨ep,e⟩:=T.hno
   refine⟨ep,?_⟩
   rw[hc _ (by simp) (by simp) (by simp) (by simp),e]
   exact congrArg (fun z=>some (AObj.dict z ep)) (List.map_congr_left fun q _=>by rw[ha _ (by simp)])
  noL:=fun k=>by rw[hc _ (by simp) (by simp) (by simp) (by simp)];exact T.noL k
  fi:=by
   obtain⟨ep,e⟩:=ok.fi
   refine⟨ep,?_⟩
   rw[hC _ (by simp) (by simp) (by simp) (by simp) (by simp) (by simp) (by simp),e]
   exact congrArg (fun z=>some (AObj.dict z ep)) (List.map_congr_left fun q _=>by rw[hA _ (by simp) (by simp)])
  fiL:=fun k=>by rw[hC _ (by simp) (by simp) (by simp) (by simp) (by simp) (by simp) (by simp)];exact ok.fiL k
  fo:=by
   obtain⟨ep,e⟩:=ok.fo
   refine⟨ep,?_⟩
   rw[hC _ (by simp) (by simp) (by simp) (by simp) (by simp) (by simp) (by simp),e]
   exact congrArg (fun z=>some (AObj.dict z ep)) (List.map_congr_left fun q _=>by rw[hA _ (by simp) (by simp)])
  foL:=fun k=>by rw[hC _ (by simp) (by simp) (by simp) (by simp) (by simp) (by simp) (by simp)];exact ok.foL k
  pr:=by rw[hC _ (by simp) (by simp) (by simp) (by simp) (by simp) (by simp) (by simp)];exact ok.pr
  up:=by rw[hC _ (by simp) (by simp) (by simp) (by simp) (by simp) (by simp) (by simp)];exact ok.up }
section
variable {W:Wd}{A:Around}{outer:Outs}{loc:Loc}{m:Mem}{E:Ex W}{L:Addr}{g:GR}{adr0 adr:Rl->Addr}{c0 cc:Rl->Option AObj}{te no:List (Str×List Int)}{sy:Addr}{name map:Str}{prec func file line:V}{n:Int}{syms:List Str}
theorem keys_look(l:List Str)(f:Str->V)(k:Str):getA (l.map fun k=>(k,f k)) k=if k∈l then some (f k) else none:=by
 have:=getA_map (l.map fun k=>(k,())) f k
 rw[List.map_map,List.map_map]at this
 have e:((fun q:Str×Unit=>q.1) ∘ fun k=>(k,()))=id:=rfl
 rw[e,List.map_id]at this
 refine Eq.trans this ?_
 by_cases h:k∈l
 ·rw[if_pos h,if_pos (by rw[List.contains_iff_mem];exact h)]
 ·rw[if_neg h,if_neg (by rw[List.contains_iff_mem];exact h)]
theorem add_end{Q:Fl->Loc->Mem->Prop}(hK:W.K=hdK W.w.params)(cd:Calm A 700 6000)(f:Fits A (addE L) outer)(ok:GOk aGrammar aProd adr0 c0 g)(G:GS adr cc sy (.list (vStrs syms)) m)(T:TN adr0 c0 adr cc te no)(hl:LSub (addL (adr0 .self) sy name map prec func file line (.int n)) loc)
  (hn:name.cps.size≤100) (hs:syms.length≤100) (hy:∀ y∈syms,y.cps.size≤100/\PyData.strOk y=true) (hr:notRef prec=true/\notRef func=true/\notRef file=true/\notRef line=true)
  (hmap:map=mapText name syms) (hm:∀ p∈g.prods,mapText p.name p.body≠map) (hnum:g.prods.length≤1000) (hpn:∀ p∈g.prods,p.name∈g.pn) (hpz:g.pn.length≤1000)
  (h:∀ l m gm',GMem aGrammar aProd { g with prods:=g.prods++[{ name:=name,body:=syms,num:=n,prec:=prec,func:=func,file:=file,line:=line }],pn:=if name∈g.pn then g.pn else g.pn++[name],te:=te,no:=no } (adr0 .self) gm'->Sub gm' m->Q .next l m) :
  TrS W A (addE L) outer (execs (addP.body.drop 10) (addE L)) loc m Q E:=by
 refine Tr.locs hl ?_
 obtain⟨epd,hdict⟩:=ok.dict
 have hx:=T.at G (by simp) (by simp) (by simp) ok.self
 have hd:=T.at G (by simp) (by simp) (by simp) hdict
 refine s_cons ?_;refine s_assign1 rfl rfl rfl ?_;refine c_topN hK (fun _=>rfl) (fun _=>rfl) rfl rfl ?_;refine a_pus rfl ?_
 obtain⟨p,hp⟩:∃ p:Pr,p={ name:=name,body:=syms,num:=n,prec:=prec,func:=func,file:=file,line:=line }:=⟨_,rfl⟩
 have hP:V.ins aProd (prodAttrs (.int n) name syms prec func file line)=pV aProd p:=by rw[hp];rfl
 have hpn1:p.name=name:=by rw[hp]
 have hpm1:mapText p.name p.body=map:=by rw[hp,hmap]
 refine prod_spec hK (cd.mono (by decide) (by decide)) (.own G.side) hs hy hn ⟨rfl,hr⟩ ?_
 rw[hP]
 refine s_cons ?_;refine s_expr rfl rfl ?_;refine c_meth rfl ?_;refine e_attr1 rfl rfl ?_
 refine get_o hK (fun _=>by kernel_rfl) (.own hx hd) rfl rfl ?_
 have hpl:=G.get (r:=.pl) ((T.cE .pl (by simp) (by simp) (by simp)).trans ok.pl)
 rw[T.adrE .pl (by simp)]at hpl
 refine m_builtin (.list hpl) PySem.F.plainAttrs_list PySem.F.slot_list_append PySem.F.type_list_append rfl rfl ?_
 refine a_pus rfl ?_
 refine append_own' hpl (by simp;exact Nat.le_trans (Nat.succ_le_succ hnum) (by decide)) (fun m1 h1 f1=>?_)
 have G1:=G.set (r:=.pl) ((T.cE .pl (by simp) (by simp) (by simp)).trans ok.pl) (by rw[T.adrE .pl (by simp)];exact h1) (by rw[T.adrE .pl (by simp)];exact f1)
 have hx:m1 (adr0 .self)=_:=(f1 _ (nex hx hpl)).trans hx
 have hd:m1 (adr0 .dict)=_:=(f1 _ (nex hd hpl)).trans hd
 refine s_cons ?_;refine s_assign_sub rfl ?_;refine pu rfl ?_;refine e_attr1 rfl rfl ?_
 refine get_o hK (fun _=>by kernel_rfl) (.own hx hd) rfl rfl ?_
 refine pu rfl ?_
 obtain⟨epm,hpmd⟩:=ok.pm
 have hcm:upd cc .pl (some (.list ((g.p0::g.prods.map (pV aProd))++[pV aProd p]))) .pm=some (.dict (g.prods.map fun p=>(mapText p.name p.body,pV aProd p)) epm):=by rw[upd_ne (by simp)];exact(T.cE .pm (by simp) (by simp) (by simp)).trans hpmd
 have hpm:=G1.get hcm
 rw[T.adrE .pm (by simp)]at hpm
 refine setItem_dict' hpm (by simp;exact Nat.le_trans hnum (by decide)) (fun m2 ep2 h2 f2=>?_)
 have hno:getA (g.prods.map fun p=>(mapText p.name p.body,pV aProd p)) map=none:=by
  unfold getA
  rw[Option.map_eq_none_iff,List.find?_eq_none]
  intro z hz q
  obtain⟨p',hp',rfl⟩:=inM hz
  exact hm p' hp' (of_decide_eq_true q)
 rw[stA_new hno]at h2
 have G2:=G1.set (r:=.pm) hcm (by rw[T.adrE .pm (by simp)];exact h2) (by rw[T.adrE .pm (by simp)];exact f2)
 have look:∀ {r x},(∀ k,r≠.noL k)->(∀ k,r≠.teL k)->r≠.no->r≠.pl->r≠.pm->c0 r=some x->m2 (adr0 r)=some x:=fun {r x} a1 a2 a3 a4 a5 e=>by
  have:=G2.get (r:=r) (x:=x) (by rw[upd_ne a5,upd_ne a4];exact(T.cE r a1 a2 a3).trans e)
  rwa [T.adrE r a1]at this
 have hx:=look (by simp) (by simp) (by simp) (by simp) (by simp) ok.self
 have hd:=look (by simp) (by simp) (by simp) (by simp) (by simp) hdict
 refine s_cons ?_
 obtain⟨epp,hpnd⟩:=ok.pn
 have hcn:(upd (upd cc .pl (some (.list ((g.p0::g.prods.map (pV aProd))++[pV aProd p])))) .pm (some (.dict ((g.prods.map fun p=>(mapText p.name p.body,pV aProd p))++[(map,pV aProd p)]) ep2))) .pn=some (.dict (g.pn.map fun k=>(k,.ref (adr0 (.pnL k)))) epp):=by
  rw[upd_ne (by simp),upd_ne (by simp)];exact(T.cE .pn (by simp) (by simp) (by simp)).trans hpnd
 have hpnm:=G2.get hcn
 rw[T.adrE .pn (by simp)]at hpnm
 by_cases hin:name∈g.pn
 ·refine s_try1 (T:="KeyError") (fun _ _=>False) f kr_isExc_KeyError kr_notTuple_KeyError (by rw[isSubtype_type];kernel_rfl) rfl rfl rfl rfl (by decide) (by rw[hK];rfl) PyProof.Rows.Boot.«KeyError» (by decide) ?_ (fun _ _ _ z=>z.elim)
  (refine nameQ ?_;intro qq ee;refine s_cons ?_);refine s_expr rfl rfl ?_;refine c_meth rfl ?_;refine e_sub (fun _ _=>rfl) ?_;refine e_attr1 rfl rfl ?_
  refine get_o hK (fun _=>by kernel_rfl) (.own hx hd) rfl rfl ?_
  refine pu rfl ?_
  refine sub_dict hpnm (by rw[keys_look g.pn (fun k=>V.ref (adr0 (.pnL k))),if_pos hin]) ?_
  have hl1:=look (r:=.pnL name) (by simp) (by simp) (by simp) (by simp) (by simp) (by rw[ok.pnL,if_pos hin])
  refine m_builtin (.list hl1) PySem.F.plainAttrs_list PySem.F.slot_list_append PySem.F.type_list_append rfl rfl ?_
  refine a_pus rfl ?_
  refine append_own' hl1 (by simp;exact Nat.le_trans (List.length_filter_le _ _) (Nat.le_trans hnum (by decide))) (fun m3 h3 f3=>?_)
  refine s_nil ?_;refine s_nil ?_
  have hcl:upd (upd cc .pl (some (.list ((g.p0::g.prods.map (pV aProd))++[pV aProd p])))) .pm (some (.dict ((g.prods.map fun p=>(mapText p.name p.body,pV aProd p))++[(map,pV aProd p)]) ep2)) (.pnL name)=some (.list ((g.prods.filter fun p=>p.name=name).map (pV aProd))):=by
   rw[upd_ne (by simp),upd_ne (by simp)];refine(T.cE _ (by simp) (by simp) (by simp)).trans ?_;rw[ok.pnL,if_pos hin]
  have eA:adr (.pnL name)=adr0 (.pnL name):=T.adrE _ (by simp)
  have G3:=G2.set hcl (by rw[eA];exact h3) (by rw[eA];exact f3)
  obtain⟨gm',M',hsub⟩:=G3.done
  refine h _ _ gm' ?_ hsub
  rw[if_pos hin,<-hp]
  refine⟨_,_,M',GOk.add ok T (fun _ _=>rfl) (fun r a1 a2 a3 a4=>by rw[upd_ne (a4 name),upd_ne a2,upd_ne a1]) ?_ ⟨ep2,?_⟩ ⟨epp,?_⟩ (fun k=>?_),T.adrE _ (by simp)⟩
  ·rw[upd_ne (by simp),upd_ne (by simp),upd_self];simp
  ·rw[upd_ne (by simp),upd_self];simp[hpm1]
  ·rw[upd_ne (by simp),hcn]
   exact congrArg (fun z=>some (AObj.dict z epp)) (List.map_congr_left fun k _=>by rw[T.adrE _ (by simp)])
  ·by_cases e:k=name
   ·subst e
    rw[upd_self,if_pos hin,List.filter_append]
    simp[hpn1]
   ·rw[upd_ne (by simpa using e),upd_ne (by simp),upd_ne (by simp),T.cE _ (by simp) (by simp) (by simp),ok.pnL,List.filter_append]
    have:¬ p.name=k:=fun q=>e (by rw[<-q,hpn1])
    simp[this]
 ·refine s_try1 (T:="KeyError") (fun l m=>LSub (("p",pV aProd p)::addL (adr0 .self) sy name map prec func file line (.int n)) l/\m=m2) f kr_isExc_KeyError kr_notTuple_KeyError (by rw[isSubtype_type];kernel_rfl) rfl rfl rfl rfl (by decide) (by rw[hK];rfl) PyProof.Rows.Boot.«KeyError» (by decide) ?_ ?_
  ·(refine nameQ ?_;intro qq ee;refine s_cons ?_);refine s_expr rfl rfl ?_;refine c_meth rfl ?_;refine e_sub (fun _ _=>rfl) ?_;refine e_attr1 rfl rfl ?_
   refine get_o hK (fun _=>by kernel_rfl) (.own hx hd) rfl rfl ?_
   refine pu rfl ?_
   refine sub_none hpnm (by rw[keys_look g.pn (fun k=>V.ref (adr0 (.pnL k))),if_neg hin]) cd.handled ⟨rfl,rfl,rfl⟩
  ·rintro e l m ⟨hl,rfl⟩
   refine Tr.locs hl ?_
   (refine nameS ?_;intro aa vv oo qq ee;refine s_cons ?_);refine s_assign_sub rfl ?_;refine e_list ?_;refine a_pus rfl ?_
   refine new_own' (show 1≤sizeLine by decide) (fun a m3 ha h3 f3=>?_)
   have hx:m3 (adr0 .self)=_:=(f3 _ (nex hx ha)).trans hx
   have hd:m3 (adr0 .dict)=_:=(f3 _ (nex hd ha)).trans hd
   have hpnm:m3 (adr0 .pn)=_:=(f3 _ (nex hpnm ha)).trans hpnm
   refine e_attr1 rfl rfl ?_
   refine get_o hK (fun _=>by kernel_rfl) (.own hx hd) rfl rfl ?_
   refine pu rfl ?_
   refine setItem_dict' hpnm (by simp;exact Nat.le_trans hpz (by decide)) (fun m4 ep4 h4 f4=>?_)
   refine s_nil ?_;refine s_nil ?_
   have hcl:upd (upd cc .pl (some (.list ((g.p0::g.prods.map (pV aProd))++[pV aProd p])))) .pm (some (.dict ((g.prods.map fun p=>(mapText p.name p.body,pV aProd p))++[(map,pV aProd p)]) ep2)) (.pnL name)=none:=by
    rw[upd_ne (by simp),upd_ne (by simp)];refine(T.cE _ (by simp) (by simp) (by simp)).trans ?_;rw[ok.pnL,if_neg hin]
   have G3:=G2.new hcl ha h3 f3
   have eA:upd adr (.pnL name) a .pn=adr0 .pn:=by rw[upd_ne (by simp)];exact T.adrE _ (by simp)
   have hcn2:=(upd_ne (f:=upd (upd cc .pl (some (.list ((g.p0::g.prods.map (pV aProd))++[pV aProd p])))) .pm (some (.dict ((g.prods.map fun p=>(mapText p.name p.body,pV aProd p))++[(map,pV aProd p)]) ep2))) (r:=.pnL name) (r':=.pn) (y:=some (.list [pV aProd p])) (by simp)).trans hcn
   have G4:=G3.set hcn2 (by rw[eA];exact h4) (by rw[eA];exact f4)
   obtain⟨gm',M',hsub⟩:=G4.done
   refine h _ _ gm' ?_ hsub
   rw[if_neg hin,<-hp]
   refine⟨_,_,M',GOk.add ok T (fun r a1=>upd_ne (a1 name)) (fun r a1 a2 a3 a4=>by rw[upd_ne a3,upd_ne (a4 name),upd_ne a2,upd_ne a1]) ?_ ⟨ep2,?_⟩ ⟨ep4,?_⟩ (fun k=>?_),by rw[upd_ne (by simp)];exact T.adrE _ (by simp)⟩
   ·rw[upd_ne (by simp),upd_ne (by simp),upd_ne (by simp),upd_self];simp
   ·rw[upd_ne (by simp),upd_ne (by simp),upd_self];simp[hpm1]
   ·have hg:getA (g.pn.map fun k=>(k,V.ref (adr0 (.pnL k)))) name=none:=by rw[keys_look g.pn (fun k=>V.ref (adr0 (.pnL k))),if_neg hin]
    rw[upd_self,stA_new hg,List.map_append]
    refine congrArg (fun z=>some (AObj.dict z ep4)) (congr (congrArg _ (List.map_congr_left fun k hk=>?_)) ?_)
    ·rw[upd_ne (by intro q;cases q;exact hin hk),T.adrE _ (by simp)]
    ·simp[upd]
   ·by_cases e:k=name
    ·subst e
     rw[upd_ne (by simp),upd_self,if_pos (by simp),List.filter_append]
     have:g.prods.filter (fun p=>decide (p.name=k))=[]:=by
      rw[List.filter_eq_nil_iff];intro q hq z;exact hin (of_decide_eq_true z▸hpn q hq)
     rw[this]
     simp[hpn1]
    ·rw[upd_ne (by simp),upd_ne (by simpa using e),upd_ne (by simp),upd_ne (by simp),T.cE _ (by simp) (by simp) (by simp),ok.pnL,List.filter_append]
     have:¬ p.name=k:=fun q=>e (by rw[<-q,hpn1])
     simp[this,e]
end
section
variable {W:Wd}{A:Around}{env:Env}{outer:Outs}{loc:Loc}{mem:Mem}{E:Ex W}
theorem strs_memN{y:Str}{l:List Str}:V.str y∈vStrs l↔y∈l:=by
 unfold vStrs;rw[List.mem_map]
 exact⟨fun⟨a,ha,e⟩=>by cases e;exact ha,fun h=>⟨_,h,rfl⟩⟩
theorem dec_of{b:Bool}{p:Prop}[Decidable p](h:b=true↔p):b=decide p:=by
 rw[Bool.eq_iff_iff,h,decide_eq_true_iff]
theorem in_strs{v:V}{x:Str}{l:List Str}{Q:V->Loc->Mem->Prop}(q:Sq mem v "list" (vStrs l))(hx:PyData.strOk x=true)(hl:(vStrs l).all (isD 0)=true)(hu:A.units+65<cLine)(h:Q (.bool (decide (x∈l))) loc mem) :
  OpV W A env outer (fun|[x,y]=>compareOp .In x y|_=>pure .none) [.str x,v] loc mem Q E:=
 in_list (n:=0) q hx hl (by decide) hu fun b hb=>dec_of (hb.trans strs_memN)▸h
theorem notin_strs{v:V}{x:Str}{l:List Str}{Q:V->Loc->Mem->Prop}(q:Sq mem v "list" (vStrs l))(hx:PyData.strOk x=true)(hl:(vStrs l).all (isD 0)=true)(hu:A.units+65<cLine)(h:Q (.bool (!decide (x∈l))) loc mem) :
  OpV W A env outer (fun|[x,y]=>compareOp .NotIn x y|_=>pure .none) [.str x,v] loc mem Q E:=
 notin_list (n:=0) q hx hl (by decide) hu fun b hb=>by rw[dec_of (hb.trans strs_memN)];exact h
end
section
variable {W:Wd}{A:Around}{env:Env}{outer:Outs}{loc:Loc}{mem R:Mem}{E:Ex W}{F:Frz}{s:Shared}
theorem fdiv_ii{a b:Int}{Q:V->Loc->Mem->Prop}(hb:b≠0)(hp:∀ a,Builtin.divisionGoesByPylong a b=false)(h:Q (.int (a.fdiv b)) loc mem):OpV W A env outer (fun|[x,y]=>binaryOp .FloorDiv x y|_=>pure .none) [.int a,.int b] loc mem Q E:=op2 fun R F s v u S r1 r2=>by
 obtain⟨_,rfl⟩:=r1.isInt;obtain⟨_,rfl⟩:=r2.isInt;exact PyProof.Rows.floordiv_int hb (Post.mk (.int _ _) S.tick h) (.inl (hp a))
theorem sub_neg{v x:V}{xs:List V}{k:Int}{j:Nat}{Q:V->Loc->Mem->Prop}(q:Sq mem v "list" xs)(h0:k<0)(hk:-(2 ^ 63)≤k)(hj:(j:Int)=k+xs.length)(hx:xs[j]? = some x)(h:Q x loc mem) :
  ∃ T id,Ty mem v T/\typeLookup (.type T) "__getitem__" = pure (some (.builtin id))/\OpV W A env outer (fun|[x,y]=>getItem x y|_=>pure .none) [v,.int k] loc mem Q E:=
 ⟨_,_,q.ty,PySem.F.slot_list_getitem.lookup,op2 fun R F s v' i' S r ri=>by
  obtain⟨a,vs,n,rfl,ho,rs⟩:=q.at S r
  obtain⟨_,rfl⟩:=ri.isInt
  obtain⟨u,hu,ru⟩:=rs.getA hx
  have hs:=rs.size
  refine wpAny_getItem_list_neg (items:=vs) ⟨_,ho,rfl,n,rfl⟩ h0 (by lia) hk ?_ (Post.mk ru S h)
  rw[hs,<-hj];exact hu⟩
theorem s_del_slice{o:PySem.Expr}{lower upper:Option PySem.Expr}{p pos' pos:Pos}{Q:Fl->Loc->Mem->Prop}
  (h:TrV W A env outer (eval o env) loc mem (fun o l m=>TrP W A env outer lower l m (fun lo l m=>TrP W A env outer upper l m (fun hi l m=>
   ∀ R F s o' l' u' sl,Sim W env outer l m R F s->VR W F o o'->IsPart l' lo->IsPart u' hi->s.heap.IsSliceOf sl l' u' .none->wpAny (model W.prog W.w) A (delItem o' (.ref sl)) (fun _ s'=>Post W env outer (FR W) R F Q .next s') (E.p R F) s) E) E) E) :
  TrS W A env outer (exec (.Delete [.Subscript o (.Slice lower upper none p) pos'] pos) env) loc mem Q E:=fun R F s S=>by
 refine wpAny_Delete (wpAny_deleteEach_cons (wpAny_delete_Subscript (after (i:=.refl _) (RW:=VR W) (Q:=fun _ _ _=>True) (h R F s S) fun v' s' F1 f l1 m1 i1 r1 S1 h1=>wpAny_Slice ?_)))
 refine after (i:=‹_›) (RW:=VR W) (Q:=fun _ _ _=>True) (h1.run S1) fun l' s2 F2 lo l2 m2 i2 r2 S2 h2=>?_
 refine after (i:=.trans ‹_› ‹_›) (RW:=VR W) (Q:=fun _ _ _=>True) (TrP.run h2 S2) fun u' s3 F3 hi l3 m3 i3 r3 S3 h3=>?_
 refine wpAny_evalPart_none ?_
 have r1':=(r1.mono i2).mono i3
 have S4:=S3.grow (t:=s3.toks) (d:=s3.drawn) (h':=s3.heap.push { cls:=.type "slice",data:=.fields #[l',u',.none] }) fun b o e=>Heap.get?_push_of_some _ e
 exact wpAny_mono (h3 R F3 _ v' l' u' _ S4 r1' r2 r3 (Heap.IsSliceOf.new _ _ _ _)) (fun _ _ p=>wpAny_deleteEach_nil (p.weaken ((i1.trans i2).trans i3))) fun _ _ e=>E.up ((i1.trans i2).trans i3) e
end
theorem zip_keep{α:Type}{g:α×Nat->Option α}{a b:Nat}(h1:∀ x (k:Nat),a≤k->k<b->g (x,k)=none)(h2:∀ x (k:Nat),k<a->g (x,k)=some x):∀ (l:List α) (i:Nat),i+l.length≤b->(l.zipIdx i).filterMap g=l.take (a - i)
 | [],i,_=>by simp
 | x::l,i,hb=>by
  rw[List.zipIdx_cons,List.filterMap_cons]
  rw[List.length_cons]at hb
  have ih:=zip_keep h1 h2 l (i+1) (by omega)
  by_cases h:a≤i
  ·rw[h1 x i h (by omega),show a - i=0 from by omega,List.take_zero]
   dsimp only
   rw[ih,show a - (i+1)=0 from by omega,List.take_zero]
  ·rw[h2 x i (by omega)]
   dsimp only
   rw[ih,show a - i=(a - (i+1))+1 from by omega,List.take_succ_cons]
section
variable {prog:Program}{w:World}{A:Around}{E:Value->Shared->Prop}{s:Shared}
theorem delItem_cut{l sl:Addr}{items:Array Value}{n:Nat}{vl vu:Value}{k:Nat}{Q:Unit->Shared->Prop}(hl:IsL s.heap l items n)(hs:s.heap.IsSliceOf sl vl vu .none)(pl:IsPart vl (some (-(k:Int))))(pu:IsPart vu none)(hk0:0<k)(hk:k≤items.size)
  (hsz:items.size≤sizeLine) (hQ:∀ h' n',IsL h' l (items.toList.take (items.size - k)).toArray n'->Heap.SameBut l s.heap h'->Q () { s with heap:=h' }):wpAny (model prog w) A (delItem (.ref l) (.ref sl)) Q E s:=by
 obtain⟨os,hos,hcs,hds⟩:=id hs
 have hTs:s.TypeIs (.ref sl) "slice":=⟨os,hos,hcs⟩
 have hT:s.TypeIs (.ref l) "list":=⟨_,hl,rfl⟩
 refine wpAny_delItem_slot hT (by decide) PySem.F.slot_list_delitem (wpAny_call_entry PySem.F.slot_list_delitem hT PySem.F.entry_list_delitem ?_ (PySem.F.args_list_delitem_2 _ _))
 show wpAny _ _ (Builtin.List.listSubscript? (.ref sl) >>= _) _ _ s
 refine wpAny_bind ?_
 unfold Builtin.List.listSubscript?
 refine wpAny_bind (wpAny_specialOf hTs slice_no_index ?_)
 simp only [Option.isNone_none,if_true]
 refine wpAny_pure ?_
 show wpAny _ _ (typeOf (.ref sl) >>= _) _ _ s
 refine wpAny_bind (wpAny_typeOf hTs ?_)
 rw[if_neg (by decide)]
 rw[listSliceParts_eq]
 refine wpAny_bind (wpAny_bind (wpAny_field hos hds (x:=.none) rfl (wpAny_bind (wpAny_listPart .none ?_))))
 rw[if_neg (show ¬ ((rawPart none==rawInt 0)=true) from Bool.false_ne_true)]
 refine wpAny_bind (wpAny_field hos hds (x:=vl) rfl (wpAny_bind (wpAny_listPart pl ?_)))
 refine wpAny_bind (wpAny_field hos hds (x:=vu) rfl (wpAny_bind (wpAny_listPart pu (wpAny_pure ?_))))
 refine wpAny_bind (m:=Builtin.List.listItems (.ref l)) ?_
 unfold Builtin.List.listItems
 refine wpAny_bind (wpAny_seqItems hl rfl (wpAny_pure ?_))
 refine wpAny_bind (wpAny_of_eq (sliceIndices_raw (some (-(k:Int))) none none items.size (by simp)) ?_)
 refine wpAny_bind (wpAny_rule ?_)
 show wpAny _ _ (updateSeq l _ >>= _) _ _ _
 generalize hg:(fun xs:Array Value=>_)=g
 have e:g items=(items.toList.take (items.size - k)).toArray:=by
  rw[<-hg]
  refine congrArg List.toArray ?_
  have b1:(sliceBounds (some (-(k:Int))) none none items.size).1=((items.size - k:Nat):Int):=by
   simp only [sliceBounds,Option.getD_none]
   have:-(k:Int)<0:=by omega
   simp only [this,if_true]
   omega
  have b2:(sliceBounds (some (-(k:Int))) none none items.size).2.1=(items.size:Int):=rfl
  have b3:(sliceBounds (some (-(k:Int))) none none items.size).2.2=1:=rfl
  rw[b1,b2,b3]
  refine zip_keep (a:=items.size - k) (b:=items.size) (fun x j h1 h2=>?_) (fun x j h1=>?_) items.toList 0 (by simp)
  ·exact if_pos (Bool.and_eq_true_iff.mpr ⟨Bool.and_eq_true_iff.mpr ⟨decide_eq_true (by omega),decide_eq_true (by omega)⟩,by simp⟩)
  ·exact if_neg fun q=>absurd (of_decide_eq_true (Bool.and_eq_true_iff.mp (Bool.and_eq_true_iff.mp q).1).1) (by omega)
 refine wpAny_bind (wpAny_updateSeq hl rfl ?_ hsz (by rw[e];simp;omega))
 refine wpAny_bind (wpAny_letGo ?_)
 refine wpAny_pure ?_
 have hL:=IsL.update hl g
 rw[e]at hL
 exact⟨_,rfl,hQ _ _ hL (Heap.SameBut.update ..)⟩
end
section
variable {W:Wd}{A:Around}{env:Env}{outer:Outs}{loc:Loc}{mem R:Mem}{E:Ex W}{F:Frz}{s:Shared}
theorem del_own{a:Addr}{xs:List V}{k:Nat}{Q:Fl->Loc->Mem->Prop}(h1:mem a=some (.list xs))(hk0:0<k)(hk:k≤xs.length)(hz:xs.length≤sizeLine)(h:∀ m',m' a=some (.list (xs.take (xs.length - k)))->(∀ b,b≠a->m' b=mem b)->Q .next loc m') :
  ∀ R F s o' l' u' sl,Sim W env outer loc mem R F s->VR W F (.ref a) o'->IsPart l' (some (-(k:Int)))->IsPart u' none->s.heap.IsSliceOf sl l' u' .none->wpAny (model W.prog W.w) A (delItem o' (.ref sl)) (fun _ s'=>Post W env outer (FR W) R F Q .next s') (E.p R F) s:=fun R F s o' l' u' sl S r pl pu hs=>by
 obtain rfl:=r.isRef
 obtain⟨o,ho,q⟩:=S.memOk _ _ h1
 cases q.view with
 | @list vs n rs=>
  have hsz:=rs.size
  refine delItem_cut ho hs pl pu hk0 (by rw[hsz];exact hk) (by rw[hsz];exact hz) fun h' n' hL hb=>?_
  refine Post.mk .next (S.upd (t:=s.toks) (d:=s.drawn) (x':=.list (xs.take (xs.length - k))) h1 (fun b ob hb' e=>(hb.2 b hb').trans e) hL (.list ?_)) (h _ (mset_self _ _ _) fun b hb=>mset_ne hb)
  rw[hsz]
  exact rs.take _
end
section
variable {W:Wd}{A:Around}{env:Env}{outer:Outs}{loc:Loc}{mem R:Mem}{E:Ex W}{F:Frz}{s:Shared}
noncomputable abbrev LstQ(I:Nat->Loc->Mem->Prop)(i:Nat)(Q:Fl->Loc->Mem->Prop):Fl->Loc->Mem->Prop
 | .next,l,m=>I i l m
 | .cont,l,m=>I i l m
 | .brk,l,m=>Q .next l m
 | .ret v,l,m=>Q (.ret v) l m
theorem Op.mono{α β:Type}{RV:Frz->β->α->Prop}{f:List Value->Sem α}{xs:List V}{Q Q':β->Loc->Mem->Prop}(h:Op W A env outer RV f xs loc mem Q E)(hq:∀ x l m,Q x l m->Q' x l m):Op W A env outer RV f xs loc mem Q' E:=
 fun R F s vs S r=>wpAny_mono (h R F s vs S r) (fun _ _ ⟨F',x,l,m,a,b,c,d⟩=>⟨F',x,l,m,a,b,c,hq x l m d⟩) fun _ _ e=>e
theorem for_map{α:Type}{ys:List α}(f:Nat->α->V){mem₀:Mem}{target:PySem.Expr}{body orelse:List Stmt}{x:V}{Q:Fl->Loc->Mem->Prop}{item:Nat->Mem->Option (Option V)}(hx:Itr W A target x mem mem₀ item)(I:Nat->Loc->Mem->Prop)
  (hi:∀ i l m,i≤ys.length->I i l m->item i m=some (ys[i]?.map (f i)))
  (fin:∀ l m,I ys.length l m->TrS W A env outer (execs orelse env) l m Q (LoopE W A env E))
  (turn:∀ i y l m,ys[i]? = some y->I i l m->Op W A env outer (fun _ (_ _:Unit)=>True) (fun|[y]=>assign target env y|_=>pure ()) [f i y] l m (fun _ l m=>TrS W A env outer (execs body env) l m (LstQ I (i+1) Q) (LoopE W A env E)) (LoopE W A env E))
  (h:I 0 loc mem₀):ForK W A env outer target body orelse x loc mem Q E:=by
 refine for_k hx (fun k i l m=>k+i=ys.length/\I i l m) ?_ ys.length ⟨rfl,h⟩
 rintro k i l m ⟨hk,hI⟩
 have e:=hi i l m (by lia) hI
 cases q:ys[i]? with
 | none=>
  rw[q]at e
  refine⟨fun n=>(by rw[e]at n;cases n),fun _=>?_,fun v hv=>(by rw[e]at hv;cases hv)⟩
  rw[List.getElem?_eq_none_iff]at q
  obtain rfl:i=ys.length:=by lia
  exact fin l m hI
 | some y=>
  rw[q]at e
  refine⟨fun n=>(by rw[e]at n;cases n),fun n=>(by rw[e]at n;cases n),fun v hv=>?_⟩
  have hv:v=f i y:=by rw[e]at hv;cases hv;rfl
  subst hv
  have hlt:i<ys.length:=(List.getElem?_eq_some_iff.mp q).1
  refine(turn i y l m q hI).mono fun _ l m h=>h.mono fun fl l m z=>?_
  cases fl with
  | next=>exact⟨k - 1,by lia,by lia,z⟩
  | cont=>exact⟨k - 1,by lia,by lia,z⟩
  | brk=>exact z
  | ret=>exact z
end
noncomputable def litF.body:List Stmt:=stBody (stAt pw.main.body 5)
noncomputable def litF.scope:Scope:=stScope (stAt pw.main.body 5)
noncomputable def litF.params:Arguments:=stArgs (stAt pw.main.body 5)
noncomputable def litF.code:Value:=(Value.ref 45)
theorem litF.at(P:Params):List.lookup 46 (lawHeap P)=some (Obj.mk (Value.type "function") none (Data.func (fnOf (Str.ofString "_literal") (Str.ofString "_literal") litF.params litF.body litF.scope (Value.none) (Value.none) (Value.none) (Value.str (Str.ofString "ply.yacc") 194) (none) litF.code (Value.none))) #[]):=by kernel_rfl
structure LitS(s c:Str):Prop where
 size:3≤s.cps.size/\s.cps.size≤100
 ch:∃ ch,s.cps[0]? = some ch/\(seqIndex? (-1) s.length).bind (s.cps[·]?)=some ch/\strIn ⟨#[ch]⟩ "'\"" = true/\strIn ⟨#[ch]⟩ c=false
 mid:cutS s (some 1) (some (-1))=c
 bs:strIn "\\" s=false
 nl:strIn "\n" s=false
 mz:c.cps.size≤100
inductive SyK(s:Str):Option Str->Prop
 | ok:SymOk s->SyK s (some s)
 | lit {c:Str}:LitS s c->c.cps.size=1->PyData.strOk c=true->c≠s->c≠"%prec"->SyK s (some c)
 | bad:0<s.cps.size->s.cps.size≤100->(∀ c,s.cps[0]? = some c->strIn ⟨#[c]⟩ "'\"" = false)->isIdent s=false->s≠"%prec"->(reprText s).length≤20000->SyK s none
 | badLit {c:Str}:LitS s c->1<c.cps.size->SyK s none
 | prec:s = "%prec"->SyK s (some s)
noncomputable def litT(mt:Str->Option Str)(te:List (Str×List Int))(l:List Str):List (Str×List Int):=l.foldl (fun te s=>match mt s with|some c=>if c=s then te else known te c|none=>te) te
theorem litT_snoc(mt:Str->Option Str)(te:List (Str×List Int))(l:List Str)(s:Str):litT mt te (l++[s])=match mt s with|some c=>if c=s then litT mt te l else known (litT mt te l) c|none=>litT mt te l:=by
 unfold litT;rw[List.foldl_append];rfl
noncomputable def curS(mt:Str->Option Str)(syms:List Str)(i:Nat):List Str:=(syms.take i).map (fun s=>(mt s).getD s)++syms.drop i
theorem curS_len(mt:Str->Option Str)(syms:List Str)(i:Nat):(curS mt syms i).length=syms.length:=by
 unfold curS
 rw[List.length_append,List.length_map,List.length_take,List.length_drop];lia
theorem curS_at{mt:Str->Option Str}{syms:List Str}{i:Nat}(h:i≤syms.length):(curS mt syms i)[i]? = syms[i]?:=by
 unfold curS
 rw[List.getElem?_append_right (by rw[List.length_map,List.length_take];lia),List.length_map,List.length_take,List.getElem?_drop]
 congr 1;lia
theorem curS_set{mt:Str->Option Str}{syms:List Str}{i:Nat}{s c:Str}(h:syms[i]? = some s)(hc:mt s=some c):(curS mt syms i).set i c=curS mt syms (i+1):=by
 have hi:i<syms.length:=(List.getElem?_eq_some_iff.mp h).1
 have hd:syms.drop i=s::syms.drop (i+1):=by rw[List.drop_eq_getElem_cons hi,(List.getElem?_eq_some_iff.mp h).2]
 unfold curS
 rw[take_snoc h,List.map_append,hd,List.set_append]
 have hl:((syms.take i).map fun s=>(mt s).getD s).length=i:=by rw[List.length_map,List.length_take];lia
 rw[if_neg (by rw[hl];lia),hl,Nat.sub_self,List.set_cons_zero]
 show _++(c::_)=(_++[(mt s).getD s])++_
 rw[hc,List.append_assoc];rfl
theorem curS_same{mt:Str->Option Str}{syms:List Str}{i:Nat}{s:Str}(h:syms[i]? = some s)(hc:mt s=some s):curS mt syms (i+1)=curS mt syms i:=by
 rw[<-curS_set h hc]
 have e:=(curS_at (mt:=mt) (Nat.le_of_lt (List.getElem?_eq_some_iff.mp h).1)).trans h
 refine List.ext_getElem? fun j=>?_
 rw[List.getElem?_set]
 split
 ·rename_i q;subst q;rw[e,if_pos (List.getElem?_eq_some_iff.mp e).1]
 ·rfl
theorem only_o{p q:Prop}(h:p):(false=false->p)/\(false=true->q):=⟨fun _=>h,fun e=>(nomatch e)⟩
section
variable {W:Wd}{A:Around}{env:Env}{outer:Outs}{loc:Loc}{mem:Mem}{E:Ex W}
theorem litF_spec{s c:Str}{Q:V->Loc->Mem->Prop}(hK:W.K=hdK W.w.params)(cd:Calm A 900 8000)(hs:LitS s c)(h:Q (.str c) loc mem):OpV W A env outer (fun vs=>call (.ref 46) vs) [.str s] loc mem Q E:=by
 refine call_fn (bs:=[("s",.str s)]) (by rw[hK];exact litF.at _) (by rw[hK];first|rfl|kernel_rfl|decide +kernel) (cd.room (by decide)) ?_ (by intro y hy;simp at hy;subst hy;rfl) (by decide) rfl rfl rfl ?_
 ·intro F s vs hb hk r
  obtain⟨_,_,r1,r2,rfl⟩:=r.isCons
  obtain rfl:=r2.isNil
  exact⟨_,BindsTo.of_eq rfl,.cons r1 .nil⟩
 ·intro L outer
  obtain⟨hz1,hz2⟩:=hs.size
  obtain⟨ch,h0,h1,h2,h3⟩:=hs.ch
  have hzc:(cutS s (some 1) (some (-1))).length≤sizeLine:=by rw[hs.mid];exact Nat.le_trans hs.mz (by decide)
  (refine nameS ?_;intro aa vv oo qq ee;refine s_cons ?_);refine s_if ?_;refine b_bool ?_;refine b_or_cons ?_;refine b_cmp rfl ?_;refine c_bltN hK (fun _=>rfl) rfl rfl ?_;refine a_pus rfl ?_
  refine len_s (by show(s.cps.size:Int)<_;lia) ?_
  refine e_int ?_;refine lt_ii ?_;refine tr_bool ?_
  have hb:decide ((s.length:Int)<3)=false:=decide_eq_false (by show ¬ (s.cps.size:Int)<3;lia)
  rw[hb]
  refine only_o ?_
  refine b_or_cons ?_;refine b_cmp rfl ?_;refine e_sub2 (fun _ _=>rfl) rfl rfl ?_
  refine sub_str (i:=0) (by decide) (c:=ch) ?_ ?_
  ·have hl:(0:Nat)<s.length:=by show 0<s.cps.size;lia
   have:seqIndex? 0 s.length=some 0:=by unfold seqIndex?;simp[hl]
   rw[this];exact h0
  refine e_sub1 (fun _ _=>rfl) rfl ?_;refine e_unop ?_;refine e_int ?_
  refine neg_i ?_
  refine sub_str (i:=-1) (by decide) (c:=ch) h1 ?_
  refine ne_ss ?_;refine tr_bool ?_
  rw[show(!decide ((⟨#[ch]⟩:Str)=⟨#[ch]⟩))=false from by simp]
  refine only_o ?_
  refine b_or_cons ?_;refine b_cmp rfl ?_;refine e_sub2 (fun _ _=>rfl) rfl rfl ?_
  refine sub_str (i:=0) (by decide) (c:=ch) ?_ ?_
  ·have hl:(0:Nat)<s.length:=by show 0<s.cps.size;lia
   have:seqIndex? 0 s.length=some 0:=by unfold seqIndex?;simp[hl]
   rw[this];exact h0
  refine e_slice ?_;refine pu rfl ?_;refine e_int ?_
  refine⟨1,rfl,?_⟩
  refine e_unop ?_;refine e_int ?_
  refine neg_i ?_
  refine⟨-1,rfl,?_⟩
  refine⟨_,_,.str _,PySem.F.slot_str_getitem.lookup,slice_str hzc ?_⟩
  rw[hs.mid]
  refine in_ss ?_;refine tr_bool ?_
  rw[h3]
  refine only_o ?_
  refine b_or_cons ?_;refine b_cmp2 rfl rfl rfl ?_;refine in_ss ?_;refine tr_bool ?_
  rw[hs.bs]
  refine only_o ?_
  refine b_or_cons ?_;refine b_cmp2 rfl rfl rfl ?_;refine in_ss ?_;refine tr_bool ?_
  rw[hs.nl]
  refine only_o ?_
  refine b_or_nil ?_
  refine only_f ?_
  refine s_nil ?_;refine s_cons ?_;refine s_ret ?_;refine e_slice ?_;refine pu rfl ?_;refine e_int ?_
  refine⟨1,rfl,?_⟩
  refine e_unop ?_;refine e_int ?_
  refine neg_i ?_
  refine⟨-1,rfl,?_⟩
  refine⟨_,_,.str _,PySem.F.slot_str_getitem.lookup,slice_str hzc ?_⟩
  rw[hs.mid]
  exact⟨_,sub_refl _,h⟩
end
noncomputable def pStr.body:List Stmt:=stBody (stAt (stBody (stAt pw.main.body 6)) 3)
noncomputable def pStr.scope:Scope:=stScope (stAt (stBody (stAt pw.main.body 6)) 3)
noncomputable def pStr.params:Arguments:=stArgs (stAt (stBody (stAt pw.main.body 6)) 3)
noncomputable def pStr.code:Value:=(Value.ref 68)
theorem pStr.at(P:Params):List.lookup 69 (lawHeap P)=some (Obj.mk (Value.type "function") none (Data.func (fnOf (Str.ofString "__str__") (Str.ofString "Production.__str__") pStr.params pStr.body pStr.scope (Value.none) (Value.none) (Value.none) (Value.str (Str.ofString "ply.yacc") 194) (none) pStr.code (Value.none))) #[]):=by kernel_rfl
theorem ruleText_len{name:Str}{syms:List Str}(hn:name.cps.size≤100)(hs:syms.length≤100)(hy:∀ y∈syms,y.cps.size≤100):(ruleText name syms).length≤20000:=by
 have l1:(" -> " : Str).length=4:=by decide +kernel
 have l2:(" -> <empty>" : Str).length=11:=by decide +kernel
 have jl:=join_len hy
 unfold ruleText
 have hn':name.length≤100:=hn
 split
 ·rw[len_app,l2];lia
 ·rw[len_app,len_app,l1]
  have:syms.length*(100+1)≤100*101:=Nat.mul_le_mul_right _ hs
  lia
structure PrOk(p:Pr):Prop where
 text:(ruleText p.name p.body).length≤20000
 file:p.file = .str ""
 line:∃ n:Int,p.line = .int n/\0≤n/\n<10 ^ 10
section
variable {W:Wd}{A:Around}{env:Env}{outer:Outs}{loc:Loc}{mem:Mem}{E:Ex W}
theorem conv_pr{p:Pr}(hK:W.K=hdK W.w.params)(c:Calm A 900 8000)(hp:PrOk p):VConv W A env outer loc mem E 115 (pV aProd p):=by
 refine .own (C:=aProd) (f:=69) .frz (by rw[hK];first|rfl|kernel_rfl|decide +kernel) (by rw[hK];first|rfl|kernel_rfl|decide +kernel) (Nat.lt_of_le_of_lt c.units (by decide)) ?_
 refine call_fn (bs:=[("self",pV aProd p)]) (by rw[hK];exact pStr.at _) (by rw[hK];first|rfl|kernel_rfl|decide +kernel) (c.room (by decide)) ?_ (by intro y hy;simp at hy;rcases hy with rfl;rfl) (by decide) rfl rfl rfl ?_
 ·intro F s vs hb hk r
  obtain⟨_,_,r1,r2,rfl⟩:=r.isCons
  obtain rfl:=r2.isNil
  exact⟨_,BindsTo.of_eq rfl,.cons r1 .nil⟩
 ·intro L outer
  have cd:=c.deeper (envX "Production.__str__" pStr.scope L 69 pStr.code [])
  (refine nameS ?_;intro aa vv oo qq ee;refine s_cons ?_);refine s_ret ?_;refine e_attr1 rfl rfl ?_
  refine get_o hK (fun _=>by kernel_rfl) .frz rfl rfl ?_
  exact⟨_,sub_refl _,rfl,rfl,_,rfl,hp.text⟩
variable {L:Addr}{g:GR}{adr:Rl->Addr}{cc:Rl->Option AObj}{sy:Addr}{m:Mem}{name:Str}
noncomputable abbrev addL0(a sy:Addr)(name:Str)(line:V):Loc:=[("self",.ref a),("prodname",.str name),("syms",.ref sy),("func",.none),("file",.str ""),("line",line)]
theorem str0_len:(Str.ofString "").length≤20000/\(reprText (Str.ofString "")).length≤20000:=by decide +kernel
noncomputable abbrev r0V:V:=.tup [.str "right",.int 0]
noncomputable abbrev addL5(a sy:Addr)(name:Str)(prec line:V):Loc:=[("self",.ref a),("prodname",.str name),("syms",.ref sy),("func",.none),("file",.str ""),("line",line),("prodprec",prec)]
theorem add_map{syms:List Str}{prec:V}{n:Int}{Q:Fl->Loc->Mem->Prop}(hK:W.K=hdK W.w.params)(cd:Calm A 601 5003)(hf:Fits A (addE L) outer)(ok:GOk aGrammar aProd adr cc g)(G0:GS adr cc sy (.list (vStrs syms)) m)
  (hn:name.cps.size≤100) (hs:∀ y∈syms,y.cps.size≤100/\PyData.strOk y=true) (hz:syms.length≤100) (hpp:notRef prec=true) (hnum:g.prods.length≤1000) (hpn:∀ p∈g.prods,p.name∈g.pn) (hpz:g.pn.length≤1000) (hlen:LenOk 900000 (g.te,g.no)) (hpo:∀ p∈g.prods,PrOk p) (hl:0≤n/\n<10 ^ 10)
  (hr:(∃ p∈g.prods,mapText p.name p.body=mapText name syms)->∀ l,Takes W (addE L) outer E (.ref aGErr) l m)
  (h:(∀ p∈g.prods,mapText p.name p.body≠mapText name syms)->∀ l m gm',GMem aGrammar aProd (addG g name syms prec .none (.str "") (.int n)) (adr .self) gm'->Sub gm' m->Q .next l m) :
  TrS W A (addE L) outer (execs (addP.body.drop 5) (addE L)) (addL5 (adr .self) sy name prec (.int n)) m Q E:=by
 obtain⟨epd,hdict⟩:=ok.dict
 have hsy:=G0.side
 have hx:=G0.get ok.self
 have hd:=G0.get hdict
 have hn':name.length≤100:=hn
 refine s_cons ?_;refine s_assign1 rfl rfl rfl ?_;refine e_joined ?_;refine e_fv_s ?_;refine pu rfl ?_
 refine show_str (Nat.le_trans hn (by decide)) ?_
 have l4:(Str.ofString " -> ").length=4:=by decide +kernel
 have hsl:(2000000:Nat)≤sizeLine:=by decide
 have hsh:=strs_len (fun y hy=>⟨(hs y hy).1,(hs y hy).2⟩) hz
 refine⟨_,rfl,by rw[empty_app];lia,?_⟩
 refine e_str ?_
 refine⟨_,rfl,by rw[empty_app,len_app,l4];lia,?_⟩
 refine e_fv_s ?_;refine pu rfl ?_
 refine show_list (n:=0) cd.guards (.own hsy) (isD_strs (List.all_eq_true.mpr fun y hy=>(hs y hy).2)) (by rw[toPy_strs];exact Nat.lt_of_le_of_lt (Nat.le_trans (Nat.add_le_add_right (Nat.add_le_add_left (strs_depth syms) _) 5) (by lia)) (cd.fit (by decide))) (by rw[toPy_strs];lia) (by rw[toPy_strs];exact strs_showable _) (by rw[toPy_strs];exact strs_noDict _) ?_
 rw[toPy_strs]
 refine⟨_,rfl,by rw[empty_app,len_app,len_app,l4];lia,?_⟩
 refine s_cons ?_;refine s_if ?_;refine b_cmp1 rfl rfl ?_;refine e_attr1 rfl rfl ?_
 refine get_o hK (fun _=>by kernel_rfl) (.own hx hd) rfl rfl ?_
 skip
 obtain⟨epm,hpmd⟩:=ok.pm
 have hpm:=G0.get hpmd
 refine in_dict hpm ?_
 have emap:Str.empty++name++Str.ofString " -> "++(PyData.list (List.map PyData.str syms)).shown=mapText name syms:=by rw[empty_app];rfl
 rw[emap]
 by_cases hdup:∃ p∈g.prods,mapText p.name p.body=mapText name syms
 ·obtain⟨p,hp,hg⟩:∃ p∈g.prods,getA (g.prods.map fun p=>(mapText p.name p.body,pV aProd p)) (mapText name syms)=some (pV aProd p):=by
   unfold getA
   cases q:(g.prods.map fun p=>(mapText p.name p.body,pV aProd p)).find? fun e=>decide (e.1=mapText name syms) with
   | none=>
    obtain⟨p,hp,e⟩:=hdup
    rw[List.find?_eq_none]at q
    exact absurd (decide_eq_true e) (q _ (List.mem_map.mpr ⟨p,hp,rfl⟩))
   | some z=>
    obtain⟨p,hp,e⟩:=inM (List.mem_of_find?_eq_some q)
    exact⟨p,hp,by rw[<-e];rfl⟩
  have po:=hpo p hp
  obtain⟨pn,hpl,hl0,hl1⟩:=po.line
  rw[hg]
  refine tr_bool ?_
  refine only_t ?_
  (refine nameQ ?_;intro qq ee;refine s_cons ?_);refine s_assign1 rfl rfl rfl ?_;refine e_sub (fun _ _=>rfl) ?_;refine e_attr1 rfl rfl ?_
  refine get_o hK (fun _=>by kernel_rfl) (.own hx hd) rfl rfl ?_
  refine pu rfl ?_
  refine sub_dict hpm hg ?_
  refine s_cons ?_
  refine s_gerr hK cd.handled rfl rfl rfl rfl rfl ?_
  refine a_cons rfl ?_;refine e_binop ?_;refine e_binop1 rfl ?_;refine e_tuple ?_;refine a_pus rfl ?_
  refine new_tup (show 3≤sizeLine by decide) ?_
  skip
  have c1:Calm A.in1 900 8000:=(Calm.in1 cd).mono (by decide) (by decide)
  refine pct_tup (cs:=[115,100,115]) (by decide +kernel) (by decide +kernel) (by decide +kernel) (.cons (.str str0_len.1) (.cons (.int hl.1 hl.2) (.cons (conv_pr hK c1 po) .nil))) fun z1 hz1=>?_
  refine e_binop1 rfl ?_;refine e_tuple ?_;refine a_cons rfl ?_;refine e_attr1 rfl rfl ?_
  refine get_o hK (fun _=>by kernel_rfl) .frz rfl (by show okV p.file=true;rw[po.file];rfl) ?_
  refine a_cons rfl ?_;refine e_attr1 rfl rfl ?_
  refine get_o hK (fun _=>by kernel_rfl) .frz rfl (by show okV p.line=true;rw[hpl];rfl) ?_
  refine a_nil ?_
  refine new_tup (show 2≤sizeLine by decide) ?_
  skip
  rw[po.file,hpl]
  refine pct_tup (cs:=[115,100]) (by decide +kernel) (by decide +kernel) (by decide +kernel) (.cons (.str str0_len.1) (.cons (.int hl0 hl1) .nil)) fun z2 hz2=>?_
  refine add_ss (Nat.le_trans (Nat.add_le_add hz1 hz2) (by decide)) ?_
  refine a_nil ?_
  exact⟨show 1≤sizeLine by decide,hr hdup _⟩
 ·have hmap:∀ p∈g.prods,mapText p.name p.body≠mapText name syms:=fun p hp e=>hdup ⟨p,hp,e⟩
  have hmn:(getA (g.prods.map fun p=>(mapText p.name p.body,pV aProd p)) (mapText name syms)).isSome=false:=by
   unfold getA
   rw[Option.isSome_map]
   rw[Bool.eq_false_iff]
   intro q
   obtain⟨z,hz1,hz2⟩:=List.find?_isSome.mp q
   obtain⟨p,hp,rfl⟩:=inM hz1
   exact hmap p hp (of_decide_eq_true hz2)
  rw[hmn]
  refine tr_bool ?_
  refine only_f ?_
  refine s_nil ?_;refine s_cons ?_;refine s_assign1 rfl rfl rfl ?_;refine c_bltN hK (fun _=>rfl) rfl rfl ?_;refine a_cons rfl ?_;refine e_attr1 rfl rfl ?_
  refine get_o hK (fun _=>by kernel_rfl) (.own hx hd) rfl rfl ?_
  refine a_nil ?_
  have hpl:=G0.get ok.pl
  refine len_sq (.own hpl) (by simp;lia) ?_
  refine s_cons ?_
  have T0:TN adr cc adr cc g.te g.no:=⟨fun _ _=>rfl,fun _ _ _ _=>rfl,ok.te,ok.teL,ok.no,ok.noL⟩
  have hnum':((g.p0::g.prods.map (pV aProd)).length:Int)=(g.prods.length:Int)+1:=by simp
  rw[hnum']
  refine add_know (name:=name) (map:=mapText name syms) (prec:=prec) (func:=.none) (file:=.str "") (line:=.int n) (num:=.int ((g.prods.length:Int)+1)) hK ok G0 T0 (rfl) (by have:=hlen.1;dsimp only at this;lia) (fun l m adr1 cc1 hl G1 T1=>?_)
  refine s_cons ?_
  refine add_loop hK cd.handled ok G1 T1 hl ⟨?_,fun k ns e=>?_,fun k ns e=>?_⟩ (by lia) (fun l m adr2 cc2 hl G2 T2=>?_)
  ·have:=@known_size g.no name;have h1:=hlen.1;dsimp only at h1 ⊢;lia
  ·have:=hlen.2.1 k ns e;lia
  ·have:=known_len hlen.2.2 k ns e;lia
  exact add_end hK (cd.mono (by decide) (by decide)) hf ok G2 T2 hl hn (by lia) (fun y hy=>⟨(hs y hy).1,(hs y hy).2⟩) ⟨hpp,rfl,rfl,rfl⟩ rfl hmap hnum hpn hpz (fun l m gm' Gf hsub=>h hmap l m gm' Gf hsub)
end
noncomputable def optIs:Option Str->Value->Bool
 | none,v=>isNone v
 | some x,v=>v.isStrOf x
theorem optIs_str{x:Str}{v:Value}(h:v.isStrOf x=true):isNone v=false:=by
 obtain⟨t,rfl⟩:=Value.isStrOf_shape h;rfl
noncomputable def optKind(prog:Program)(w:World):KeyKind prog w (Option Str) where
 is:=optIs
 hash k:=match k with
  | none=>hashW w.params .none
  | some x=>(PySem.strKind prog w).hash x
 inj v a b h1 h2:=by
  cases a with
  | none=>cases b with
   | none=>rfl
   | some y=>exact nomatch (optIs_str h2).symm.trans h1
  | some x=>cases b with
   | none=>exact nomatch (optIs_str h1).symm.trans h2
   | some y=>exact congrArg some ((PySem.strKind prog w).inj v x y h1 h2)
 byValue k v h:=by
  cases k with
  | none=>exact(noneKind prog w).byValue () v h
  | some x=>exact(PySem.strKind prog w).byValue x v h
 pyHash:=by
  intro A E s k v Q h q
  cases k with
  | none=>exact(noneKind prog w).pyHash (k:=()) h q
  | some x=>exact(PySem.strKind prog w).pyHash (k:=x) h q
 eqBool:=by
  intro A E s a b u v Q h1 h2 q
  cases a with
  | none=>
   cases b with
   | none=>exact(noneKind prog w).eqBool (a:=()) (b:=()) h1 h2 q
   | some y=>
    obtain⟨t,rfl⟩:=Value.isStrOf_shape h2
    rw[isNone_shape h1]
    exact SeqAt.EqAt.none_str y t _ _ _ _ q
  | some x=>
   cases b with
   | none=>
    obtain⟨t,rfl⟩:=Value.isStrOf_shape h1
    rw[isNone_shape h2]
    exact SeqAt.EqAt.str_none x t _ _ _ _ q
   | some y=>
    refine(PySem.strKind prog w).eqBool (a:=x) (b:=y) h1 h2 ?_
    rw[show decide (x=y)=decide (some x=some y) from by simp];exact q
 «strs»:=fun k x t v h=>by
  cases k with
  | none=>cases h
  | some y=>exact(PySem.strKind prog w).strs y x t v h
section
variable {W:Wd}{A:Around}{env:Env}{outer:Outs}{loc:Loc}{mem R:Mem}{E:Ex W}{F:Frz}{s:Shared}
theorem dict_getN{a:Addr}{es:List (Str×V)}{ep:Nat}{d:V}{Q:V->Loc->Mem->Prop}(hm:mem a=some (.dict es ep))(h:Q d loc mem) :
  OpV W A env outer (fun vs=>call (.builtin "dict.get") vs) [.ref a,.none,d] loc mem Q E:=op3 fun R F s v u t S r1 r2 r3=>by
 obtain rfl:=r1.isRef;obtain rfl:=r2.isNone
 obtain⟨kvs,hd,q⟩:=S.dict hm
 obtain⟨o,es,ep',ho,hx,hdd,hk,hp,hn⟩:=hd
 have hnone:findBy (optKind W.prog W.w).is es none=none:=by
  cases z:findBy (optKind W.prog W.w).is es none with
  | none=>rfl
  | some v=>
   exfalso
   unfold findBy at z
   rw[Option.map_eq_some_iff]at z
   obtain⟨e,he,_⟩:=z
   have h1:=Array.find?_some he
   obtain⟨k,h2,_⟩:=hk e (by simpa using Array.mem_of_find?_eq_some he)
   exact nomatch (optIs_str h2).symm.trans h1
 have mo:s.heap.MapOf (optKind W.prog W.w) a (fun k=>findBy (optKind W.prog W.w).is es k):=⟨o,es,ep',ho,hx,hdd,fun e he=>let ⟨k,h1,h2⟩:=hk e he;⟨some k,h1,h2⟩,fun k=>rfl⟩
 refine call_meetsIn PySem.F.slot_dict_get mo.typeIs PySem.F.entry_dict_get (PySem.F.args_dict_get_3 _ _ _) (meets_dict_get_default (optKind W.prog W.w) a (k:=none) rfl (S.not_modules hm) t) ⟨_,mo,?_⟩
 rw[hnone]
 exact Post.mk r3 S.tick h
end
inductive PrecK(pr:List (Str×V))(te:List (Str×List Int))(syms:List Str):Option (List Str×V×Option Str)->Prop
 | plain:("%prec" : Str)∉syms->PrecK pr te syms (some (syms,((rmost (te.map (·.1)) syms).bind (getA pr)).getD r0V,none))
 | prec {b:List Str} {t:Str} {v:V}:syms=b++[("%prec" : Str),t]->t≠"%prec"->getA pr t=some v->PrecK pr te syms (some (b,v,some t))
 | last {b:List Str}:syms=b++[("%prec" : Str)]->PrecK pr te syms none
 | mid {b:List Str} {x t:Str}:("%prec" : Str)∈b->syms=b++[x,t]->t≠"%prec"->x≠"%prec"->PrecK pr te syms none
 | unknown {b:List Str} {t:Str}:syms=b++[("%prec" : Str),t]->t≠"%prec"->getA pr t=none->PrecK pr te syms none
noncomputable def LvlV(v:V):Prop:=∃ (w:Str) (l:Int),v = .tup [.str w,.int l]
theorem GOk.setUp{C CP:Addr}{adr:Rl->Addr}{cc:Rl->Option AObj}{g:GR}(ok:GOk C CP adr cc g)(hu:g.upo.isSome=true)(o:Obj):GOk C CP adr (upd cc .up (some (.raw o))) { g with upo:=some (.raw o) }:=by
 have off:∀ r:Rl,r≠.up->upd cc .up (some (.raw o)) r=cc r:=fun r h=>upd_ne h
 exact {
  self:=(off _ (by simp)).trans ok.self
  dict:=ok.dict.imp fun ep e=>by rw[off _ (by simp),e,hu];rfl
  pl:=(off _ (by simp)).trans ok.pl
  pn:=ok.pn.imp fun ep e=>(off _ (by simp)).trans e
  pnL:=fun k=>(off _ (by simp)).trans (ok.pnL k)
  pm:=ok.pm.imp fun ep e=>(off _ (by simp)).trans e
  te:=ok.te.imp fun ep e=>(off _ (by simp)).trans e
  teL:=fun k=>(off _ (by simp)).trans (ok.teL k)
  no:=ok.no.imp fun ep e=>(off _ (by simp)).trans e
  noL:=fun k=>(off _ (by simp)).trans (ok.noL k)
  fi:=ok.fi.imp fun ep e=>(off _ (by simp)).trans e
  fiL:=fun k=>(off _ (by simp)).trans (ok.fiL k)
  fo:=ok.fo.imp fun ep e=>(off _ (by simp)).trans e
  foL:=fun k=>(off _ (by simp)).trans (ok.foL k)
  pr:=ok.pr.imp fun ep e=>(off _ (by simp)).trans e
  up:=upd_self _ _ _ }
theorem GS.put{adr:Rl->Addr}{c:Rl->Option AObj}{sy:Addr}{X Y:AObj}{m m':Mem}(G:GS adr c sy X m)(h1:m' sy=some Y)(hf:∀ b,b≠sy->m' b=m b):GS adr c sy Y m':=by
 obtain⟨gm,rfl,M,hs⟩:=G
 refine⟨gm,funext fun b=>?_,M,hs⟩
 by_cases e:b=sy
 ·rw[e,h1,mset_self]
 ·rw[hf b e,mset_ne e,mset_ne e]
noncomputable def addT(S:Str->Bool)(t:Option Str):Str->Bool:=fun x=>S x || decide (t=some x)
theorem last_at{b:List Str}{t:Str}:(vStrs (b++[t]))[b.length]? = some (.str t):=by unfold vStrs;simp
theorem last2_at{b:List Str}{x t:Str}:(vStrs (b++[x,t]))[b.length]? = some (.str x)/\(vStrs (b++[x,t]))[b.length+1]? = some (.str t):=by unfold vStrs;simp
section
variable {W:Wd}{A:Around}{outer:Outs}{loc:Loc}{mem:Mem}{E:Ex W}
variable {L:Addr}{g:GR}{adr:Rl->Addr}{cc:Rl->Option AObj}{sy:Addr}{m:Mem}{name:Str}
theorem add_prec{syms:List Str}{n:Int}{o:Obj}{S:Str->Bool}{k:Nat}{r:Option (List Str×V×Option Str)}{Q:Fl->Loc->Mem->Prop}(hK:W.K=hdK W.w.params)(cd:Calm A 601 5003)(ok:GOk aGrammar aProd adr cc g)(G0:GS adr cc sy (.list (vStrs syms)) m)
  (hs:∀ y∈syms,y.cps.size≤100/\PyData.strOk y=true/\(reprText y).length≤20000) (hz:syms.length≤100) (hpk:PrecK g.pr g.te syms r) (hpv:∀ t v,getA g.pr t=some v->LvlV v) (htz:g.te.length≤100000) (hu:g.upo=some (.raw o)) (T:SetB W o S k) (hk:k≤1000) (hl:0≤n/\n<10 ^ 10)
  (hr:r=none->∀ l,Takes W (addE L) outer E (.ref aGErr) l m)
  (h:∀ body v t,r=some (body,v,t)->∀ l m' cc' o' k',LSub (addL5 (adr .self) sy name v (.int n)) l->GS adr cc' sy (.list (vStrs body)) m'->GOk aGrammar aProd adr cc' { g with upo:=some (.raw o') }->SetB W o' (addT S t) k'->k'≤k+1->Q .next l m') :
  TrS W A (addE L) outer (exec (addP.body.getD 4 (.Pass ⟨0,0,0,0⟩)) (addE L)) (addL0 (adr .self) sy name (.int n)) m Q E:=by
 obtain⟨epd,hdict⟩:=ok.dict
 obtain⟨ept,hted⟩:=ok.te
 obtain⟨epp,hprd⟩:=ok.pr
 have hsy:=G0.side
 have hx:=G0.get ok.self
 have hd:=G0.get hdict
 have ht:=G0.get hted
 have hp:=G0.get hprd
 have hlen:(vStrs syms).length=syms.length:=vStrs_len syms
 refine s_if ?_;refine b_cmp2 rfl rfl rfl ?_
 refine in_list (n:=0) (.own hsy) (by decide +kernel) (isD_strs (List.all_eq_true.mpr fun y hy=>(hs y hy).2.1)) (by decide) (cd.fit (by decide)) (fun b hb=>?_)
 have hb:b=decide (("%prec" : Str)∈syms):=by
  rw[Bool.eq_iff_iff,decide_eq_true_iff];exact hb.trans vStrs_mem
 rw[hb]
 clear hb
 have getP:∀ {o:Option Str} {d:V} {Q:V->Loc->Mem->Prop} {A:Around} {env:Env} {outer:Outs} {loc:Loc} {E:Ex W},Q ((o.bind (getA g.pr)).getD d) loc m->OpV W A env outer (fun vs=>call (.builtin "dict.get") vs) [.ref (adr .pr),(match o with|some s=>.str s|none=>.none),d] loc m Q E:=fun {o}=>by
  intro d Q A env outer loc E h
  cases o with
  | none=>exact dict_getN hp h
  | some s=>exact dict_get2 hp h
 cases hpk with
 | plain hno=>
  rw[decide_eq_false hno]
  refine tr_bool ?_
  refine only_f ?_
  refine s_cons ?_;refine s_assign1 rfl rfl rfl ?_;refine c_topN hK (fun _=>rfl) (fun _=>rfl) rfl rfl ?_;refine a_pu rfl ?_;refine a_cons rfl ?_;refine e_attr1 rfl rfl ?_
  refine get_o hK (fun _=>by kernel_rfl) (.own hx hd) rfl rfl ?_
  refine a_nil ?_
  refine rmost_spec hK (cd.mono (by decide) (by decide)) hsy ht (by lia) ?_
  rw[show(g.te.map fun q=>(q.1,V.ref (adr (.teL q.1)))).map (·.1)=g.te.map (·.1) from by rw[List.map_map];rfl]
  refine s_cons ?_;refine s_assign1 rfl rfl rfl ?_;refine c_meth rfl ?_;refine e_attr1 rfl rfl ?_
  refine get_o hK (fun _=>by kernel_rfl) (.own hx hd) rfl rfl ?_
  skip
  refine m_builtin (.dict hp) PySem.F.plainAttrs_dict PySem.F.slot_dict_get (by show builtinType _=_;rw[builtinType_eq_fast];kernel_rfl) rfl rfl ?_
  refine a_pu rfl ?_;refine a_cons rfl ?_;refine e_tuple ?_;refine a_pus rfl ?_
  refine new_tup (show 2≤sizeLine by decide) ?_
  refine a_nil ?_
  refine getP ?_
  refine s_nil ?_
  exact h _ _ none rfl _ m cc o k rfl G0 (by rw[<-hu];exact ok) (by rw[show addT S none=S from funext fun x=>by unfold addT;simp];exact T) (Nat.le_succ k)
 | @prec b t v e1 e2 e3=>
  have hmem:("%prec" : Str)∈syms:=by rw[e1];simp
  have hl2:syms.length=b.length+2:=by rw[e1];simp
  have h1:(vStrs syms)[b.length+1]? = some (.str t):=by rw[e1];exact last2_at.2
  have h2:(vStrs syms)[b.length]? = some (.str "%prec"):=by rw[e1];exact last2_at.1
  have j1:((b.length+1:Nat):Int) = -1+((vStrs syms).length:Int):=by rw[hlen,hl2];push_cast;lia
  have j2:((b.length:Nat):Int) = -2+((vStrs syms).length:Int):=by rw[hlen,hl2];push_cast;lia
  rw[decide_eq_true hmem]
  refine tr_bool ?_
  refine only_t ?_
  refine s_cons ?_;refine s_if ?_;refine b_cmp rfl ?_;refine e_sub1 (fun _ _=>rfl) rfl ?_;refine e_unop ?_;refine e_int ?_
  refine neg_i ?_
  refine sub_neg (.own hsy) (by decide) (by decide) j1 h1 ?_
  refine e_str ?_;refine eq_ss ?_;refine tr_bool ?_
  rw[decide_eq_false e2]
  refine only_f ?_
  refine s_nil ?_;refine s_cons ?_;refine s_if ?_;refine b_cmp rfl ?_;refine e_sub1 (fun _ _=>rfl) rfl ?_;refine e_unop ?_;refine e_int ?_
  refine neg_i ?_
  refine sub_neg (.own hsy) (by decide) (by decide) j2 h2 ?_
  refine e_str ?_;refine ne_ss ?_;refine tr_bool ?_
  refine only_f ?_
  refine s_nil ?_;refine s_cons ?_;refine s_assign1 rfl rfl rfl ?_;refine e_sub1 (fun _ _=>rfl) rfl ?_;refine e_unop ?_;refine e_int ?_
  refine neg_i ?_
  refine sub_neg (.own hsy) (by decide) (by decide) j1 h1 ?_
  refine s_cons ?_;refine s_assign1 rfl rfl rfl ?_;refine c_meth rfl ?_;refine e_attr1 rfl rfl ?_
  refine get_o hK (fun _=>by kernel_rfl) (.own hx hd) rfl rfl ?_
  skip
  refine m_builtin (.dict hp) PySem.F.plainAttrs_dict PySem.F.slot_dict_get (by show builtinType _=_;rw[builtinType_eq_fast];kernel_rfl) rfl rfl ?_
  refine a_pus rfl ?_
  refine dict_get1 hp ?_
  rw[e3]
  obtain⟨w,lv,rfl⟩:=hpv t v e3
  refine s_cons ?_;refine s_if ?_;refine b_not ?_;refine b_value1 rfl rfl ?_
  refine tr_tup (xs:=[.str w,.int lv]) (by show(2:Int)<2 ^ 63;decide) ?_
  skip
  refine only_f ?_
  have hdu:m (adr .dict)=some (.dict (gAttrs adr true g.up g.start) epd):=by rw[hu]at hd;exact hd
  have hup:=G0.get (r:=.up) (ok.up.trans hu)
  (refine nameQ ?_;intro qq ee;refine s_cons ?_);refine s_expr rfl rfl ?_;refine c_meth rfl ?_;refine e_attr1 rfl rfl ?_
  refine get_o hK (fun _=>by kernel_rfl) (.own hx hdu) rfl rfl ?_
  skip
  refine m_add_setB hup T rfl rfl ?_
  refine a_pus rfl ?_
  refine add_setB hup T (Nat.lt_of_le_of_lt (show k+1≤1001 by lia) (by decide)) (fun o1 m1 T1 h1' f1=>?_)
  refine s_nil ?_
  refine s_cons ?_
  refine s_del_slice ?_
  refine pu rfl ?_;refine e_unop ?_;refine e_int ?_
  refine neg_i ?_
  refine⟨-2,rfl,?_⟩
  skip
  have G1:=G0.set (r:=.up) (ok.up.trans hu) h1' f1
  refine del_own (k:=2) G1.side (by decide) (by rw[hlen,hl2];exact Nat.le_add_left _ _) (by rw[hlen];exact Nat.le_trans hz (by decide)) (fun m2 h2 f2=>?_)
  refine s_nil ?_
  have et:(vStrs syms).take ((vStrs syms).length - 2)=vStrs b:=by
   rw[hlen,hl2,e1];unfold vStrs;simp
  rw[et]at h2
  refine h b _ (some t) rfl _ m2 _ o1 _ rfl (G1.put h2 f2) (ok.setUp (by rw[hu];rfl) o1) ?_ (show(if S t=true then k else k+1)≤k+1 from ?_)
  ·rw[show addT S (some t)=fun x=>S x || decide (x=t) from funext fun x=>by unfold addT;simp[eq_comm]];exact T1
  ·split
   ·exact Nat.le_succ k
   ·exact Nat.le_refl _
 | @last b e1=>
  have hmem:("%prec" : Str)∈syms:=by rw[e1];simp
  have hl2:syms.length=b.length+1:=by rw[e1];simp
  have h1:(vStrs syms)[b.length]? = some (.str "%prec"):=by rw[e1];exact last_at
  have j1:((b.length:Nat):Int) = -1+((vStrs syms).length:Int):=by rw[hlen,hl2];push_cast;lia
  rw[decide_eq_true hmem]
  refine tr_bool ?_
  refine only_t ?_
  refine s_cons ?_;refine s_if ?_;refine b_cmp rfl ?_;refine e_sub1 (fun _ _=>rfl) rfl ?_;refine e_unop ?_;refine e_int ?_
  refine neg_i ?_
  refine sub_neg (.own hsy) (by decide) (by decide) j1 h1 ?_
  refine e_str ?_;refine eq_ss ?_;refine tr_bool ?_
  refine only_t ?_
  (refine nameQ ?_;intro qq ee;refine s_cons ?_)
  refine s_gerr hK cd.handled rfl rfl rfl rfl rfl ?_
  refine a_cons rfl ?_;refine e_binop1 rfl ?_;refine e_tuple ?_;refine a_pus rfl ?_
  refine new_tup (show 2≤sizeLine by decide) ?_
  skip
  refine pct_tup (cs:=[115,100]) (by decide +kernel) (by decide +kernel) (by decide +kernel) (.cons (.str str0_len.1) (.cons (.int hl.1 hl.2) .nil)) fun z1 hz1=>?_
  refine a_nil ?_
  exact⟨show 1≤sizeLine by decide,hr rfl _⟩
 | @mid b x t e1 e2 e3 e4=>
  have hmem:("%prec" : Str)∈syms:=by rw[e2];exact List.mem_append_left _ e1
  have hl2:syms.length=b.length+2:=by rw[e2];simp
  have h1:(vStrs syms)[b.length+1]? = some (.str t):=by rw[e2];exact last2_at.2
  have h2:(vStrs syms)[b.length]? = some (.str x):=by rw[e2];exact last2_at.1
  have j1:((b.length+1:Nat):Int) = -1+((vStrs syms).length:Int):=by rw[hlen,hl2];push_cast;lia
  have j2:((b.length:Nat):Int) = -2+((vStrs syms).length:Int):=by rw[hlen,hl2];push_cast;lia
  rw[decide_eq_true hmem]
  refine tr_bool ?_
  refine only_t ?_
  refine s_cons ?_;refine s_if ?_;refine b_cmp rfl ?_;refine e_sub1 (fun _ _=>rfl) rfl ?_;refine e_unop ?_;refine e_int ?_
  refine neg_i ?_
  refine sub_neg (.own hsy) (by decide) (by decide) j1 h1 ?_
  refine e_str ?_;refine eq_ss ?_;refine tr_bool ?_
  rw[decide_eq_false e3]
  refine only_f ?_
  refine s_nil ?_;refine s_cons ?_;refine s_if ?_;refine b_cmp rfl ?_;refine e_sub1 (fun _ _=>rfl) rfl ?_;refine e_unop ?_;refine e_int ?_
  refine neg_i ?_
  refine sub_neg (.own hsy) (by decide) (by decide) j2 h2 ?_
  refine e_str ?_;refine ne_ss ?_;refine tr_bool ?_
  rw[decide_eq_false e4]
  refine only_t ?_
  (refine nameQ ?_;intro qq ee;refine s_cons ?_)
  refine s_gerr hK cd.handled rfl rfl rfl rfl rfl ?_
  refine a_cons rfl ?_;refine e_binop1 rfl ?_;refine e_tuple ?_;refine a_pus rfl ?_
  refine new_tup (show 2≤sizeLine by decide) ?_
  skip
  refine pct_tup (cs:=[115,100]) (by decide +kernel) (by decide +kernel) (by decide +kernel) (.cons (.str str0_len.1) (.cons (.int hl.1 hl.2) .nil)) fun z1 hz1=>?_
  refine a_nil ?_
  exact⟨show 1≤sizeLine by decide,hr rfl _⟩
 | @unknown b t e1 e2 e3=>
  have hmem:("%prec" : Str)∈syms:=by rw[e1];simp
  have htm:t∈syms:=by rw[e1];simp
  have hl2:syms.length=b.length+2:=by rw[e1];simp
  have h1:(vStrs syms)[b.length+1]? = some (.str t):=by rw[e1];exact last2_at.2
  have h2:(vStrs syms)[b.length]? = some (.str "%prec"):=by rw[e1];exact last2_at.1
  have j1:((b.length+1:Nat):Int) = -1+((vStrs syms).length:Int):=by rw[hlen,hl2];push_cast;lia
  have j2:((b.length:Nat):Int) = -2+((vStrs syms).length:Int):=by rw[hlen,hl2];push_cast;lia
  rw[decide_eq_true hmem]
  refine tr_bool ?_
  refine only_t ?_
  refine s_cons ?_;refine s_if ?_;refine b_cmp rfl ?_;refine e_sub1 (fun _ _=>rfl) rfl ?_;refine e_unop ?_;refine e_int ?_
  refine neg_i ?_
  refine sub_neg (.own hsy) (by decide) (by decide) j1 h1 ?_
  refine e_str ?_;refine eq_ss ?_;refine tr_bool ?_
  rw[decide_eq_false e2]
  refine only_f ?_
  refine s_nil ?_;refine s_cons ?_;refine s_if ?_;refine b_cmp rfl ?_;refine e_sub1 (fun _ _=>rfl) rfl ?_;refine e_unop ?_;refine e_int ?_
  refine neg_i ?_
  refine sub_neg (.own hsy) (by decide) (by decide) j2 h2 ?_
  refine e_str ?_;refine ne_ss ?_;refine tr_bool ?_
  refine only_f ?_
  refine s_nil ?_;refine s_cons ?_;refine s_assign1 rfl rfl rfl ?_;refine e_sub1 (fun _ _=>rfl) rfl ?_;refine e_unop ?_;refine e_int ?_
  refine neg_i ?_
  refine sub_neg (.own hsy) (by decide) (by decide) j1 h1 ?_
  refine s_cons ?_;refine s_assign1 rfl rfl rfl ?_;refine c_meth rfl ?_;refine e_attr1 rfl rfl ?_
  refine get_o hK (fun _=>by kernel_rfl) (.own hx hd) rfl rfl ?_
  skip
  refine m_builtin (.dict hp) PySem.F.plainAttrs_dict PySem.F.slot_dict_get (by show builtinType _=_;rw[builtinType_eq_fast];kernel_rfl) rfl rfl ?_
  refine a_pus rfl ?_
  refine dict_get1 hp ?_
  rw[e3]
  refine s_cons ?_;refine s_if ?_;refine b_not ?_;refine b_value1 rfl rfl ?_;refine tr_none ?_
  refine only_t ?_
  (refine nameQ ?_;intro qq ee;refine s_cons ?_)
  refine s_gerr hK cd.handled rfl rfl rfl rfl rfl ?_
  refine a_cons rfl ?_;refine e_binop1 rfl ?_;refine e_tuple ?_;refine a_pus rfl ?_
  refine new_tup (show 3≤sizeLine by decide) ?_
  skip
  refine pct_tup (cs:=[115,100,114]) (by decide +kernel) (by decide +kernel) (by decide +kernel) (.cons (.str str0_len.1) (.cons (.int hl.1 hl.2) (.cons (.rep (Nat.le_trans (hs t htm).1 (by decide)) (hs t htm).2.2) .nil))) fun z1 hz1=>?_
  refine a_nil ?_
  exact⟨show 1≤sizeLine by decide,hr rfl _⟩
end
section
variable {W:Wd}{A:Around}{env:Env}{outer:Outs}{loc:Loc}{mem R:Mem}{E:Ex W}{F:Frz}{s:Shared}
noncomputable def enumO(a:Addr)(i:Nat)(m:Mem):Option (Option V):=(ownL m a).bind fun xs=>if i≤xs.length then some (xs[i]?.map fun y=>.tup [.int i,y]) else none
inductive EnI(a:Addr)(i:Nat)(m:Mem)(v:Option V):Prop
 | mk (xs:List V) (h1_:m a=some (.list xs)) (h3_:i≤xs.length) (h2_:v=xs[i]?.map fun y=>.tup [.int i,y])
theorem enumO_eq{a:Addr}{i:Nat}{m:Mem}{xs:List V}(h:m a=some (.list xs))(hi:i≤xs.length):enumO a i m=some (xs[i]?.map fun y=>.tup [.int i,y]):=by unfold enumO;rw[ownL_eq h];exact if_pos hi
theorem enumO_some{a:Addr}{i:Nat}{m:Mem}{v:Option V}(h:enumO a i m=some v):EnI a i m v:=by
 unfold enumO at h
 cases q:ownL m a with
 | none=>rw[q]at h;cases h
 | some xs=>
  rw[q]at h
  by_cases hi:i≤xs.length
  ·exact⟨xs,ownL_some q,hi,(Option.some.inj ((if_pos hi).symm.trans h)).symm⟩
  ·exact nomatch (if_neg hi).symm.trans h
theorem enum_ownO{a:Addr}{xs:List V}{Q:V->Loc->Mem->Prop}(hm:mem a=some (.list xs))
  (h:∀ e o,o.cls = .type "list_iterator"->o.data = .fields #[.ref a,.int 0 0]->mem e=none->mem (e+1)=none->Q (.ref (e+1)) loc (mset (mset mem e (.raw o)) (e+1) (.raw (enumObj e 0 .none)))) :
  OpV W A env outer (fun vs=>call (.type "enumerate") vs) [.ref a] loc mem Q E:=op1 fun R F s v S r=>by
 rw[r.isRef]
 obtain⟨o,ho,q⟩:=S.memOk _ _ hm
 cases q.view with
 | @list vs n q=>
  refine call_enumerate_1 (items:=vs) ho fun h' he hit hsz hk=>?_
  obtain⟨o',ho',hc,hd⟩:=hit
  obtain⟨a1,a2,S'⟩:=alloc2 (t:=s.toks) (d:=s.drawn) S rfl hk ho' he (x1:=.raw o') (x2:=.raw (enumObj s.heap.objs.size 0 .none)) .raw .raw
  exact Post.mk (.ref _) S' (h _ o' hc hd a1 a2)
inductive EnO(e a:Addr)(i:Nat)(R₀ R:Mem):Prop
 | mk (h1_:R₀ e=none) (h2_:R₀ (e+1)=none) (old:Value) (o:Obj) (h4_:o.cls = .type "list_iterator") (h5_:o.data = .fields #[.ref a,.int i 0]) (h3_:R=mset (mset R₀ e (.raw o)) (e+1) (.raw (enumObj e i old)))
inductive EnAtO(W:Wd)(F:Frz)(s:Shared)(e a:Addr)(i:Nat)(old:Value)(o:Obj)(xs:List V):Prop
 | mk (h1_:IsEnum s.heap (e+1) e i old) (vs:Array Value) (n:Nat) (h2_:s.heap.get? e=some o) (h3_:a≠e) (h5_:a≠e+1) (h4_:s.heap.get? a=some { cls:=.type "list",data:=.seq vs n }) (h6_:VRs W F xs vs.toList)
theorem enAccO{mem R₀:Mem}{F:Frz}{s:Shared}{e a:Addr}{i:Nat}{old:Value}{o:Obj}{xs:List V}(hc:o.cls = .type "list_iterator")(S:Sim W env outer loc mem (mset (mset R₀ e (.raw o)) (e+1) (.raw (enumObj e i old))) F s)(hx:mem a=some (.list xs)):EnAtO W F s e a i old o xs:=by
 have ne:e≠e+1:=(Nat.succ_ne_self e).symm
 obtain⟨o1,g1,r1⟩:=S.rawAt (a:=e+1) (mset_self _ _ _)
 cases r1.view
 obtain⟨o2,g2,r2⟩:=S.rawAt (a:=e) (by rw[mset_ne ne,mset_self])
 cases r2.view
 obtain⟨o3,g3,r3⟩:=S.memOk a _ hx
 cases r3.view with
 | @list vs n q=>
  exact⟨g1,vs,n,g2,fun q=>(by rw[q,g2]at g3;exact cls_no g3 (by rw[hc];rfl)),fun q=>(by rw[q,g1]at g3;exact cls_no g3 (by rfl)),g3,q⟩
theorem itr_enumO{elts:List PySem.Expr}{kk:Nat}{pos:Pos}{e a:Addr}{o:Obj}(hh:A.handled=none)(hc:o.cls = .type "list_iterator")(hd:o.data = .fields #[.ref a,.int 0 0])(h1:mem e=none)(h2:mem (e+1)=none) :
  Itr W A (.Tuple elts kk pos) (.ref (e+1)) (mset (mset mem e (.raw o)) (e+1) (.raw (enumObj e 0 .none))) mem (enumO a):=by
 have ne:e≠e+1:=(Nat.succ_ne_self e).symm
 intro env outer loc R F₀ s x' E S r
 rw[r.isRef]
 have n2:mset mem e (.raw o) (e+1)=none:=by rw[mset_ne (Ne.symm ne)];exact h2
 obtain⟨oe,hoe,re⟩:=S.memOk (e+1) _ (mset_self _ _ _)
 cases re.view
 have hR2:R (e+1)=none:=S.dis (e+1) _ (mset_self _ _ _)
 have hR1:R e=none:=S.dis e (.raw o) (by rw[mset_ne ne,mset_self])
 have S3:=(S.toR n2).toR h1
 rw[<-mset_comm ne]at S3
 refine wpAny_pyIter_enum (it:=e) (i:=0) (old:=.none) hoe ⟨EnO e a,_,?_,⟨hR1,hR2,.none,o,hc,hd,rfl⟩,S3⟩
 clear hR1 hR2 hoe S S3 n2 r hd hc
 refine {
  next:=?_
  done:=?_
  self:=?_
  frame:=?_
  same:=?_
  off:=?_ }
 ·rintro i env outer loc mem R₀ R F s v E ic ⟨n1,n2,old,o,hc,hd,rfl⟩ hi S
  obtain⟨ys,hx,hle,hi⟩:=enumO_some hi
  cases hy:ys[i]? with
  | none=>rw[hy]at hi;cases hi
  | some y=>
   rw[hy]at hi
   rw[Option.some.inj hi]
   obtain⟨he,vs,n,g2,hane,hane1,ho,rs⟩:=enAccO hc S hx
   obtain⟨u,hu,ru⟩:=rs.getA hy
   have hlt:i<vs.size:=(Array.getElem?_eq_some_iff.mp hu).1
   refine wpAny_pyNext_enum_itemD (Draws.list (A:=A.in1) hh e a hane vs) he ⟨⟨o,g2,hc,hd⟩,⟨_,ho,rfl,n,rfl⟩⟩ hlt (Ne.symm ne) (by simp only [List.mem_cons,List.not_mem_nil,or_false,not_or];exact⟨Ne.symm ne,Ne.symm hane1⟩) fun x2 h' tk hx2 hout hst htup hsz hk=>?_
   rw[hu]at hx2
   rw[<-Option.some.inj hx2]at hout htup
   refine⟨_,rfl,wpAny_letOwnedTupleGo_enum hout fun h2 hen hsb=>?_⟩
   obtain⟨o',ho',hc',hd'⟩:=hst.1
   have z:=S.z.free_of_none (get?_size s.heap)
   have sz1:s.heap.objs.size≠e+1:=fun q=>by have:=Heap.lt_size he;rw[<-q]at this;exact Nat.lt_irrefl _ this
   have sz2:s.heap.objs.size≠e:=fun q=>by have:=Heap.lt_size g2;rw[<-q]at this;exact Nat.lt_irrefl _ this
   have S':=S.reR (R':=mset (mset R₀ e (.raw o')) (e+1) (.raw (enumObj e (i+1:Nat) u))) (h':=h2) (t:=tk+1) (d:=s.drawn) (fun bb hbb=>by
     obtain⟨c1,c2⟩:=enKeep hbb
     rw[mset_ne c1,mset_ne c2]at hbb ⊢;exact hbb) (fun bb xx hbb=>by
     by_cases c1:bb=e+1
     ·rw[c1]at hbb ⊢;rw[mset_self]at hbb;cases hbb;exact⟨_,by exact_mod_cast hen,.raw⟩
     ·rw[mset_ne c1]at hbb
      by_cases c2:bb=e
      ·rw[c2]at c1 hbb ⊢;rw[mset_self]at hbb;cases hbb;exact⟨o',(hsb.2 _ c1).trans ho',.raw⟩
      ·rw[mset_ne c2]at hbb
       obtain⟨ob,hob,rb⟩:=S.rawAt (a:=bb) (x:=xx) (by rw[mset_ne c1,mset_ne c2];exact hbb)
       exact⟨ob,(hsb.2 _ c1).trans (hk _ _ c1 c2 hob),rb⟩) (fun bb ob hob hbb=>by
     obtain⟨c1,c2⟩:=enKeep hbb
     exact(hsb.2 _ c1).trans (hk _ _ c1 c2 hob))
   have S'':=S'.adopt (a:=s.heap.objs.size) (by
    obtain⟨c1,c2⟩:=mun_none z.1
    rw[mun_r c1]
    rw[mset_ne sz1,mset_ne sz2]at c2 ⊢
    exact c2) z.2.1 z.2.2.1 z.2.2.2 ((hsb.2 _ sz1).trans htup)
   exact⟨_,_,Incl.fadd _ _ _,.tup (.inr ⟨rfl,rfl⟩) (.cons (.int _ _) (.cons (ru.mono (Incl.fadd _ _ _)) .nil)),⟨n1,n2,u,o',hc',hd',rfl⟩,S''⟩
 ·rintro i env outer loc mem R₀ R F s E ic ⟨n1,n2,old,o,hc,hd,rfl⟩ hi S
  obtain⟨ys,hx,hle,hi⟩:=enumO_some hi
  have hy:ys[i]? = none:=by
   cases hy:ys[i]? with
   | none=>rfl
   | some y=>rw[hy]at hi;cases hi
  obtain⟨he,vs,n,g2,hane,hane1,ho,rs⟩:=enAccO hc S hx
  have hi2:i=vs.size:=by
   have hz:=rs.size
   rw[List.getElem?_eq_none_iff]at hy
   lia
  refine wpAny_pyNext_enum_endD (Draws.list (A:=A.in1) hh e a hane vs) he ⟨⟨o,g2,hc,by rw[<-hi2];exact hd⟩,⟨_,ho,rfl,n,rfl⟩⟩ fun h' eb=>⟨rfl,?_⟩
  refine S.reR (R':=R₀) (t:=s.toks) (d:=s.drawn) (fun bb hbb=>?_) (fun bb xx hbb=>?_) (fun bb ob hob hbb=>?_)
  ·obtain⟨c1,c2⟩:=enKeep hbb
   rw[mset_ne c1,mset_ne c2]at hbb;exact hbb
  ·have c1:bb≠e+1:=fun q=>by rw[q,n2]at hbb;cases hbb
   have c2:bb≠e:=fun q=>by rw[q,n1]at hbb;cases hbb
   obtain⟨ob,hob,rb⟩:=S.rawAt (a:=bb) (x:=xx) (by rw[mset_ne c1,mset_ne c2];exact hbb)
   exact⟨ob,eb _ _ c2 hob,rb⟩
  ·obtain⟨c1,c2⟩:=enKeep hbb
   exact eb _ _ c2 hob
 ·rintro i env outer loc mem R₀ R F s E Q ⟨n1,n2,old,o,hc,hd,rfl⟩ S h
  obtain⟨o1,g1,r1⟩:=S.rawAt (a:=e+1) (mset_self _ _ _)
  cases r1.view
  exact wpAny_pyIter_enum (it:=e) (i:=i) (old:=old) g1 h
 ·rintro i R₀ R D xx ⟨n1,n2,old,o,hc,hd,rfl⟩ hD
  have d1:D≠e+1:=fun q=>by rw[q,mset_self,n2]at hD;cases hD
  have d2:D≠e:=fun q=>by rw[q,mset_ne ne,mset_self,n1]at hD;cases hD
  refine⟨by rw[mset_ne (Ne.symm d2)];exact n1,by rw[mset_ne (Ne.symm d1)];exact n2,old,o,hc,hd,?_⟩
  rw[mset_comm (Ne.symm d1),mset_comm (Ne.symm d2)]
 ·rintro i R₀ R D ⟨n1,n2,old,o,hc,hd,rfl⟩ hD
  rw[mset_ne (fun q:D=e+1=>hD (by rw[q];exact n2)),mset_ne (fun q:D=e=>hD (by rw[q];exact n1))]
 ·rintro i env outer loc mem R₀ R F s ⟨n1,n2,old,o,hc,hd,rfl⟩ S
  exact(S.offR (by rw[mset_ne (Ne.symm ne)];exact n2)).offR n1
end
theorem litT_len(mt:Str->Option Str)(te:List (Str×List Int))(l:List Str):(litT mt te l).length≤te.length+l.length:=by
 induction l generalizing te with
 | nil=>exact Nat.le_refl _
 | cons s l ih=>
  have h1:∀ te':List (Str×List Int),te'.length≤te.length+1->(litT mt te' l).length≤te.length+(s::l).length:=fun te' h=>by
   have:=ih te';rw[List.length_cons];lia
  unfold litT at h1 ⊢
  rw[List.foldl_cons]
  refine h1 _ ?_
  split
  ·split
   ·lia
   ·exact known_size
  ·lia
theorem GOk.newT{C CP:Addr}{adr:Rl->Addr}{cc:Rl->Option AObj}{g:GR}{s:Str}{a:Addr}{ep':Nat}(ok:GOk C CP adr cc g)(h:g.te.lookup s=none) :
  GOk C CP (upd adr (.teL s) a) (upd (upd cc (.teL s) (some (.list []))) .te (some (.dict (stA (g.te.map fun q=>(q.1,.ref (adr (.teL q.1)))) s (.ref a)) ep'))) { g with te:=known g.te s }:=by
 have off:∀ (y1 y2:Option AObj) (r:Rl),r≠.te->r≠.teL s->upd (upd cc (.teL s) y1) .te y2 r=cc r:=fun y1 y2 r a1 a2=>by rw[upd_ne a1,upd_ne a2]
 have ad:∀ r,leaf r=false->upd adr (.teL s) a r=adr r:=fun r hr=>upd_ne (leaf_ne hr rfl)
 have ad2:∀ r,(∀ k,r≠.teL k)->upd adr (.teL s) a r=adr r:=fun r hr=>upd_ne (hr s)
 have hk:known g.te s=g.te++[(s,[])]:=by unfold known;rw[h];rfl
 refine {
  self:=by rw[off _ _ _ (by simp) (by simp),ad _ rfl];exact ok.self
  dict:=ok.dict.imp fun ep e=>by rw[off _ _ _ (by simp) (by simp),e,gAttrs_eq ad]
  pl:=(off _ _ _ (by simp) (by simp)).trans ok.pl
  pn:=ok.pn.imp fun ep e=>by
   rw[off _ _ _ (by simp) (by simp),e]
   exact congrArg (fun z=>some (AObj.dict z ep)) (List.map_congr_left fun k _=>by rw[ad2 _ (by simp)])
  pnL:=fun k=>(off _ _ _ (by simp) (by simp)).trans (ok.pnL k)
  pm:=ok.pm.imp fun ep e=>(off _ _ _ (by simp) (by simp)).trans e
  te:=⟨ep',?_⟩
  teL:=fun k=>?_
  no:=ok.no.imp fun ep e=>by
   rw[off _ _ _ (by simp) (by simp),e]
   exact congrArg (fun z=>some (AObj.dict z ep)) (List.map_congr_left fun k _=>by rw[ad2 _ (by simp)])
  noL:=fun k=>(off _ _ _ (by simp) (by simp)).trans (ok.noL k)
  fi:=ok.fi.imp fun ep e=>by
   rw[off _ _ _ (by simp) (by simp),e]
   exact congrArg (fun z=>some (AObj.dict z ep)) (List.map_congr_left fun k _=>by rw[ad2 _ (by simp)])
  fiL:=fun k=>(off _ _ _ (by simp) (by simp)).trans (ok.fiL k)
  fo:=ok.fo.imp fun ep e=>by
   rw[off _ _ _ (by simp) (by simp),e]
   exact congrArg (fun z=>some (AObj.dict z ep)) (List.map_congr_left fun k _=>by rw[ad2 _ (by simp)])
  foL:=fun k=>(off _ _ _ (by simp) (by simp)).trans (ok.foL k)
  pr:=ok.pr.imp fun ep e=>(off _ _ _ (by simp) (by simp)).trans e
  up:=(off _ _ _ (by simp) (by simp)).trans ok.up }
 ·have hg:getA (g.te.map fun q=>(q.1,V.ref (adr (.teL q.1)))) s=none:=by
   rw[getA_map g.te (fun k=>V.ref (adr (.teL k))) s,if_neg]
   rw[<-lookup_contains,h];simp
  rw[upd_self,stA_new hg]
  show _=some (AObj.dict ((known g.te s).map _) ep')
  rw[hk,List.map_append]
  refine congrArg (fun z=>some (AObj.dict z ep')) (congr (congrArg _ (List.map_congr_left fun q hq=>?_)) ?_)
  ·have:q.1≠s:=fun e=>by
    have:=lookup_contains g.te s
    rw[h]at this
    have hc:(g.te.map (·.1)).contains s=true:=by rw[List.contains_iff_mem];exact List.mem_map.mpr ⟨q,hq,e⟩
    rw[hc]at this;cases this
   rw[upd_ne (by simpa using this)]
  ·simp[upd]
 ·show _=((known g.te s).lookup k).map _
  rw[known_lookup,upd_ne (by simp)]
  by_cases e:k=s
  ·subst e;rw[upd_self,if_pos rfl,h];simp[vInts]
  ·rw[upd_ne (by simpa using e),if_neg e];exact ok.teL k
section
variable {W:Wd}{A:Around}{env:Env}{outer:Outs}{loc:Loc}{mem:Mem}{E:Ex W}{L:Addr}{g:GR}{sy:Addr}{m:Mem}{name:Str}
inductive JLit(sy:Addr)(a:Addr)(name:Str)(line:V)(g:GR)(mt:Str->Option Str)(syms:List Str)(i:Nat)(l:Loc)(m:Mem):Prop
 | mk (h1_:LSub (addL0 a sy name line) l) (adr:Rl->Addr) (cc:Rl->Option AObj) (h2_:GS adr cc sy (.list (vStrs (curS mt syms i))) m) (h3_:GOk aGrammar aProd adr cc { g with te:=litT mt g.te (syms.take i) }) (h4_:adr .self=a) (h5_:∀ s∈syms.take i,mt s≠none)
theorem add_lits{adr:Rl->Addr}{cc:Rl->Option AObj}{mt:Str->Option Str}{syms:List Str}{n:Int}{Q:Fl->Loc->Mem->Prop}(hK:W.K=hdK W.w.params)(cd:Calm A 601 5003)(hf:Fits A (addE L) outer)(ok:GOk aGrammar aProd adr cc g)(G0:GS adr cc sy (.list (vStrs syms)) m)
  (hn:name.length≤20000/\(reprText name).length≤20000) (hs:∀ s∈syms,SyK s (mt s)) (hz:syms.length≤100) (htz:g.te.length≤1000) (hl:0≤n/\n<10 ^ 10)
  (hr:∀ i s l m gm,syms[i]? = some s->mt s=none->(∀ s∈syms.take i,mt s≠none)->GMem aGrammar aProd { g with te:=litT mt g.te (syms.take i) } (adr .self) gm->Sub gm m->Takes W (addE L) outer E (.ref aGErr) l m)
  (h:∀ l m adr' cc',LSub (addL0 (adr .self) sy name (.int n)) l->(∀ s∈syms,mt s≠none)->GS adr' cc' sy (.list (vStrs (syms.map fun s=>(mt s).getD s))) m->GOk aGrammar aProd adr' cc' { g with te:=litT mt g.te syms }->adr' .self=adr .self->Q .next l m) :
  TrS W A (addE L) outer (exec (addP.body.getD 3 (.Pass ⟨0,0,0,0⟩)) (addE L)) (addL0 (adr .self) sy name (.int n)) m Q E:=by
 have hsy:=G0.side
 refine s_for (fun _=>rfl) ?_;refine c_typN hK (fun _=>rfl) rfl rfl ?_;refine a_pus rfl ?_
 refine enum_ownO hsy (fun e o hc hd he1 he2=>?_)
 skip
 refine for_map (ys:=syms) (fun i s=>.tup [.int i,.str s]) (itr_enumO cd.handled hc hd he1 he2) (JLit sy (adr .self) name (.int n) g mt syms) (fun i l m hi J=>?_) (fun l m J=>?_) (fun i s l m hy J=>?_) ⟨rfl,adr,cc,?_,?_,rfl,?_⟩
 ·obtain⟨_,ad,c1,G,_⟩:=J
  rw[enumO_eq G.side (by rw[vStrs_len,curS_len];exact hi)]
  unfold vStrs
  rw[List.getElem?_map,curS_at hi,Option.map_map];rfl
 ·obtain⟨hl,ad,c1,G,o,ea,hb⟩:=J
  unfold curS at G
  rw[List.take_length,List.drop_length,List.append_nil]at G
  rw[List.take_length]at o hb
  refine Tr.locs hl ?_
  refine s_nil ?_
  exact h _ _ ad c1 rfl hb G o ea
 ·obtain⟨hl0,ad,c1,G,o,ea,hb⟩:=J
  have hi:i<syms.length:=(List.getElem?_eq_some_iff.mp hy).1
  have hk:=hs s (List.mem_of_getElem? hy)
  have gd:∃ gm,GMem aGrammar aProd { g with te:=litT mt g.te (syms.take i) } (adr .self) gm/\Sub gm m:=by
   obtain⟨gm,M,sb⟩:=G.done
   exact⟨gm,⟨ad,c1,M,o,ea⟩,sb⟩
  obtain⟨epd,hdict⟩:=o.dict
  obtain⟨ept,hted⟩:=o.te
  have hx:=G.get o.self
  have hd:=G.get hdict
  have ht:=G.get hted
  have hside:=G.side
  rw[ea]at hx
  have hz1:∀ c:Str,0<c.cps.size->seqIndex? 0 c.length=some 0:=fun c hc=>by unfold seqIndex?;simp[show(0:Nat)<c.length from hc]
  have lp:=fun l c=>takesL (W:=W) (c:=c) (loc:=l) (mem:=m) (E:=E) hf
  have bad:mt s=none->∀ l,Takes W (addE L) outer (LoopE W A (addE L) E) (.ref aGErr) l m:=fun e l=>by
   obtain⟨gm,G,sb⟩:=gd
   exact takesL hf (hr i s l m gm hy e hb G sb)
  generalize hmt:mt s=o' at hk
  cases hk with
  | ok hok=>
   obtain⟨ch,hch⟩:∃ ch,s.cps[0]? = some ch:=⟨s.cps[0]'hok.pos,Array.getElem?_eq_getElem hok.pos⟩
   refine Op.locs hl0 ?_
   refine asg_tuple (by first|assumption|exact Calm.handled (by assumption)) rfl rfl ?_;refine asg_name1 rfl rfl ?_;refine asg_name1 rfl rfl ?_;(refine nameQ ?_;intro qq ee;refine s_cons ?_);refine s_if ?_;refine b_cmp rfl ?_;refine e_sub2 (fun _ _=>rfl) rfl rfl ?_
   refine sub_str (i:=0) (by decide) (c:=ch) (by rw[hz1 _ hok.pos];exact hch) ?_
   refine e_str ?_;refine in_ss ?_;refine tr_bool ?_
   rw[hok.noQuote ch hch]
   skip
   refine only_f ?_
   refine s_nil ?_;refine s_cons ?_;refine s_if ?_;refine b_bool ?_;refine b_and_cons ?_;refine b_not ?_;refine b_value rfl ?_;refine c_topN hK (fun _=>rfl) (fun _=>rfl) rfl rfl ?_;refine a_pus rfl ?_
   refine isId_spec hK (cd.mono (by decide) (by decide)) (Nat.le_trans hok.size (by lia)) ?_
   rw[hok.ident]
   refine tr_bool ?_
   refine only_f ?_
   refine only_f ?_
   refine s_nil ?_;refine s_nil ?_
   refine⟨rfl,ad,c1,by rw[curS_same hy hmt];exact G,?_,ea,?_⟩
   ·rw[take_snoc hy,litT_snoc,hmt]
    dsimp only
    rw[if_pos rfl];exact o
   ·intro x hx
    rw[take_snoc hy]at hx
    rcases List.mem_append.mp hx with hx|hx
    ·exact hb x hx
    ·rw[List.mem_singleton]at hx;rw[hx,hmt];exact fun e=>nomatch e
  | prec hpc=>
   rw[hpc]at hy hmt ⊢
   refine Op.locs hl0 ?_
   refine asg_tuple (by first|assumption|exact Calm.handled (by assumption)) rfl rfl ?_;refine asg_name1 rfl rfl ?_;refine asg_name1 rfl rfl ?_;(refine nameQ ?_;intro qq ee;refine s_cons ?_);refine s_if ?_;refine b_cmp rfl ?_;refine e_sub2 (fun _ _=>rfl) rfl rfl ?_
   refine sub_str (i:=0) (by decide) (c:=37) (by decide +kernel) ?_
   refine e_str ?_;refine in_ss ?_;refine tr_bool ?_
   rw[show strIn ⟨#[37]⟩ "'\"" = false from by decide +kernel]
   skip
   refine only_f ?_
   refine s_nil ?_;refine s_cons ?_;refine s_if ?_;refine b_bool ?_;refine b_and_cons ?_;refine b_not ?_;refine b_value rfl ?_;refine c_topN hK (fun _=>rfl) (fun _=>rfl) rfl rfl ?_;refine a_pus rfl ?_
   refine isId_spec hK (cd.mono (by decide) (by decide)) (by decide +kernel) ?_
   rw[show isIdent "%prec" = false from by decide +kernel]
   refine tr_bool ?_
   refine only_t ?_
   refine b_and_cons ?_;refine b_cmp2 rfl rfl rfl ?_;refine ne_ss ?_;refine tr_bool ?_
   refine only_f ?_
   refine only_f ?_
   refine s_nil ?_;refine s_nil ?_
   refine⟨rfl,ad,c1,by rw[curS_same hy hmt];exact G,?_,ea,?_⟩
   ·rw[take_snoc hy,litT_snoc,hmt]
    dsimp only
    rw[if_pos rfl];exact o
   ·intro x hx
    rw[take_snoc hy]at hx
    rcases List.mem_append.mp hx with hx|hx
    ·exact hb x hx
    ·rw[List.mem_singleton]at hx;rw[hx,hmt];exact fun e=>nomatch e
  | bad h0 h1 h2 h3 h4 h5=>
   obtain⟨ch,hch⟩:∃ ch,s.cps[0]? = some ch:=⟨s.cps[0]'h0,Array.getElem?_eq_getElem h0⟩
   refine Op.locs hl0 ?_
   refine asg_tuple (by first|assumption|exact Calm.handled (by assumption)) rfl rfl ?_;refine asg_name1 rfl rfl ?_;refine asg_name1 rfl rfl ?_;(refine nameQ ?_;intro qq ee;refine s_cons ?_);refine s_if ?_;refine b_cmp rfl ?_;refine e_sub2 (fun _ _=>rfl) rfl rfl ?_
   refine sub_str (i:=0) (by decide) (c:=ch) (by rw[hz1 _ h0];exact hch) ?_
   refine e_str ?_;refine in_ss ?_;refine tr_bool ?_
   rw[h2 ch hch]
   skip
   refine only_f ?_
   refine s_nil ?_;refine s_cons ?_;refine s_if ?_;refine b_bool ?_;refine b_and_cons ?_;refine b_not ?_;refine b_value rfl ?_;refine c_topN hK (fun _=>rfl) (fun _=>rfl) rfl rfl ?_;refine a_pus rfl ?_
   refine isId_spec hK (cd.mono (by decide) (by decide)) (Nat.le_trans h1 (by lia)) ?_
   rw[h3]
   refine tr_bool ?_
   refine only_t ?_
   refine b_and_cons ?_;refine b_cmp2 rfl rfl rfl ?_;refine ne_ss ?_;refine tr_bool ?_
   rw[show(!decide (s=("%prec" : Str)))=true from by simp[h4]]
   refine only_t ?_
   refine b_and_nil ?_
   refine only_t ?_
   (refine nameQ ?_;intro qq ee;refine s_cons ?_)
   refine s_gerr hK cd.handled rfl rfl rfl rfl rfl ?_
   refine a_cons rfl ?_;refine e_binop1 rfl ?_;refine e_tuple ?_;refine a_pus rfl ?_
   refine new_tup (show 4≤sizeLine by decide) ?_
   skip
   refine pct_tup (cs:=[115,100,114,114]) (by decide +kernel) (by decide +kernel) (by decide +kernel) (.cons (.str str0_len.1) (.cons (.int hl.1 hl.2) (.cons (.rep (Nat.le_trans h1 (by decide)) h5) (.cons (.rep hn.1 hn.2) .nil)))) fun z1 hz1=>?_
   refine a_nil ?_
   exact⟨show 1≤sizeLine by decide,bad hmt _⟩
  | @lit c hc h1 h2 h3 h4=>
   obtain⟨hz3,hz4⟩:=hc.size
   obtain⟨ch,hch,_,hq,_⟩:=hc.ch
   refine Op.locs hl0 ?_
   refine asg_tuple (by first|assumption|exact Calm.handled (by assumption)) rfl rfl ?_;refine asg_name1 rfl rfl ?_;refine asg_name1 rfl rfl ?_;(refine nameQ ?_;intro qq ee;refine s_cons ?_);refine s_if ?_;refine b_cmp rfl ?_;refine e_sub2 (fun _ _=>rfl) rfl rfl ?_
   refine sub_str (i:=0) (by decide) (c:=ch) (by rw[hz1 _ (by lia)];exact hch) ?_
   refine e_str ?_;refine in_ss ?_;refine tr_bool ?_
   rw[hq]
   skip
   refine only_t ?_
   (refine nameQ ?_;intro qq ee;refine s_cons ?_)
   refine s_tryN (C:=aGErr) (x:="GrammarError") (T:="SyntaxError") hf PySem.F.excBase_Exception (by decide) (by rw[isSubtype_type];kernel_rfl) (by kernel_rfl) rfl rfl rfl rfl (by decide) (by rw[hK];rfl) PyProof.Rows.Boot.«SyntaxError» (by decide) (by rw[hK];rfl) (by rw[hK];kernel_rfl) ?_
   (refine nameQ ?_;intro qq ee;refine s_cons ?_);refine s_assign1 rfl rfl rfl ?_;refine c_topN hK (fun _=>rfl) (fun _=>rfl) rfl rfl ?_;refine a_pus rfl ?_
   refine litF_spec hK (cd.mono (by decide) (by decide)) hc ?_
   refine s_cons ?_;refine s_if ?_;refine b_cmp rfl ?_;refine c_bltN hK (fun _=>rfl) rfl rfl ?_;refine a_pus rfl ?_
   refine len_s (by show(c.cps.size:Int)<_;lia) ?_
   refine e_int ?_;refine gt_ii ?_;refine tr_bool ?_
   rw[show decide ((1:Int)<(c.length:Int))=false from decide_eq_false (by show ¬ (1:Int)<(c.cps.size:Int);lia)]
   refine only_f ?_
   refine s_nil ?_;refine s_cons ?_;refine s_if ?_;refine b_cmp1 rfl rfl ?_;refine e_attr1 rfl rfl ?_
   refine get_o hK (fun _=>by kernel_rfl) (.own hx hd) rfl rfl ?_
   skip
   refine notin_dict ht ?_
   have sn:litT mt g.te (syms.take (i+1))=known (litT mt g.te (syms.take i)) c:=by
    rw[take_snoc hy,litT_snoc,hmt]
    dsimp only
    rw[if_neg h3]
   have hset:(vStrs (curS mt syms i)).set i (.str c)=vStrs (curS mt syms (i+1)):=by
    rw[<-curS_set hy hmt];unfold vStrs;rw[List.map_set]
   have hnb:∀ x∈syms.take (i+1),mt x≠none:=fun x hx=>by
    rw[take_snoc hy]at hx
    rcases List.mem_append.mp hx with hx|hx
    ·exact hb x hx
    ·rw[List.mem_singleton]at hx;rw[hx,hmt];exact fun e=>nomatch e
   have hlen:i<(vStrs (curS mt syms i)).length:=by rw[vStrs_len,curS_len];exact hi
   cases q:((litT mt g.te (syms.take i)).lookup c) with
   | some ns=>
    rw[show(getA ((litT mt g.te (syms.take i)).map fun q=>(q.1,V.ref (ad (.teL q.1)))) c).isSome=true from lookA (f:=fun k=>V.ref (ad (.teL k))) (by rw[q];rfl)]
    refine tr_bool ?_
    refine only_f ?_
    refine s_nil ?_;refine s_cons ?_;refine s_assign_sub3 rfl rfl rfl rfl ?_
    refine setItem_own (k:=i) hside hlen (by lia) (fun m1 h1 f1=>?_)
    refine s_cons ?_;refine s_continue ?_
    rw[hset]at h1
    refine⟨rfl,ad,c1,G.put h1 f1,?_,ea,hnb⟩
    rw[sn]
    unfold known
    rw[if_pos (by rw[q];rfl)];exact o
   | none=>
    rw[show(getA ((litT mt g.te (syms.take i)).map fun q=>(q.1,V.ref (ad (.teL q.1)))) c).isSome=false from lookA (f:=fun k=>V.ref (ad (.teL k))) (by rw[q];rfl)]
    refine tr_bool ?_
    refine only_t ?_
    (refine nameQ ?_;intro qq ee;refine s_cons ?_);refine s_assign_sub rfl ?_;refine e_list ?_;refine a_nil ?_
    refine new_own' (show 0≤sizeLine by decide) (fun a m1 ha h1 f1=>?_)
    have G1:=G.new (r:=.teL c) (by rw[o.teL];show((litT mt g.te (syms.take i)).lookup c).map _=none;rw[q];rfl) ha h1 f1
    have hx1:m1 (adr .self)=_:=(f1 _ (nex hx ha)).trans hx
    have hd1:m1 (ad .dict)=_:=(f1 _ (nex hd ha)).trans hd
    have ht1:m1 (ad .te)=_:=(f1 _ (nex ht ha)).trans ht
    refine e_attr1 rfl rfl ?_
    refine get_o hK (fun _=>by kernel_rfl) (.own hx1 hd1) rfl rfl ?_
    refine pu rfl ?_
    refine setItem_dict' ht1 (by have h1:=litT_len mt g.te (syms.take i);rw[List.length_take]at h1;rw[List.length_map];exact Nat.le_trans h1 (Nat.le_trans (by lia:_≤1200) (by decide))) (fun m2 ep2 h2 f2=>?_)
    refine s_nil ?_;refine s_cons ?_;refine s_assign_sub3 rfl rfl rfl rfl ?_
    have G2:=G1.set (r:=.te) ((upd_ne (by simp)).trans hted) (by rw[upd_ne (by simp)];exact h2) (by rw[upd_ne (by simp)];exact f2)
    have hs2:=G2.side
    refine setItem_own (k:=i) hs2 hlen (by lia) (fun m3 h3 f3=>?_)
    refine s_cons ?_;refine s_continue ?_
    rw[hset]at h3
    refine⟨rfl,_,_,G2.put h3 f3,?_,by rw[upd_ne (by simp)];exact ea,hnb⟩
    rw[sn]
    exact GOk.newT o q
  | @badLit c hc h1=>
   obtain⟨hz3,hz4⟩:=hc.size
   obtain⟨ch,hch,_,hq,_⟩:=hc.ch
   refine Op.locs hl0 ?_
   refine asg_tuple (by first|assumption|exact Calm.handled (by assumption)) rfl rfl ?_;refine asg_name1 rfl rfl ?_;refine asg_name1 rfl rfl ?_;(refine nameQ ?_;intro qq ee;refine s_cons ?_);refine s_if ?_;refine b_cmp rfl ?_;refine e_sub2 (fun _ _=>rfl) rfl rfl ?_
   refine sub_str (i:=0) (by decide) (c:=ch) (by rw[hz1 _ (by lia)];exact hch) ?_
   refine e_str ?_;refine in_ss ?_;refine tr_bool ?_
   rw[hq]
   skip
   refine only_t ?_
   (refine nameQ ?_;intro qq ee;refine s_cons ?_)
   refine s_tryN (C:=aGErr) (x:="GrammarError") (T:="SyntaxError") hf PySem.F.excBase_Exception (by decide) (by rw[isSubtype_type];kernel_rfl) (by kernel_rfl) rfl rfl rfl rfl (by decide) (by rw[hK];rfl) PyProof.Rows.Boot.«SyntaxError» (by decide) (by rw[hK];rfl) (by rw[hK];kernel_rfl) ?_
   (refine nameQ ?_;intro qq ee;refine s_cons ?_);refine s_assign1 rfl rfl rfl ?_;refine c_topN hK (fun _=>rfl) (fun _=>rfl) rfl rfl ?_;refine a_pus rfl ?_
   refine litF_spec hK (cd.mono (by decide) (by decide)) hc ?_
   refine s_cons ?_;refine s_if ?_;refine b_cmp rfl ?_;refine c_bltN hK (fun _=>rfl) rfl rfl ?_;refine a_pus rfl ?_
   have hcz:=hc.mz
   refine len_s (by show(c.cps.size:Int)<_;lia) ?_
   refine e_int ?_;refine gt_ii ?_;refine tr_bool ?_
   rw[show decide ((1:Int)<(c.length:Int))=true from decide_eq_true (by show(1:Int)<(c.cps.size:Int);lia)]
   refine only_t ?_
   (refine nameQ ?_;intro qq ee;refine s_cons ?_)
   refine s_gerr hK cd.handled rfl rfl rfl rfl rfl ?_
   refine a_cons rfl ?_;refine e_binop1 rfl ?_;refine e_tuple ?_;refine a_pus rfl ?_
   refine new_tup (show 4≤sizeLine by decide) ?_
   skip
   refine pct_tup (cs:=[115,100,115,114]) (by decide +kernel) (by decide +kernel) (by decide +kernel) (.cons (.str str0_len.1) (.cons (.int hl.1 hl.2) (.cons (.str (Nat.le_trans hz4 (by decide))) (.cons (.rep hn.1 hn.2) .nil)))) fun z1 hz1=>?_
   refine a_nil ?_
   exact⟨show 1≤sizeLine by decide,takesX ⟨rfl,bad hmt _⟩⟩
 ·show GS adr cc sy (.list (vStrs (List.map _ (syms.take 0)++syms.drop 0))) m
  rw[List.take_zero,List.drop_zero];exact G0
 ·rw[List.take_zero];exact ok
 ·intro s hs;rw[List.take_zero]at hs;cases hs
end
section
variable {W:Wd}{A:Around}{env:Env}{outer:Outs}{loc:Loc}{mem R:Mem}{E:Ex W}{F:Frz}{s:Shared}
noncomputable def callK(f:Value)(nm:Str)(vs:List Value):Sem Value:=call f vs.dropLast [(nm,vs.getLastD .none)]
noncomputable def BindsK(W:Wd)(fd:FuncData)(nm:Str)(xs:List V)(bs:List (Str×V)):Prop:=
 ∀ (F:Frz) (s:Shared) (vs:List Value),(∀ a o,W.hb.get? a=some o->F a o)->W.K.In s.heap->VRs W F xs vs->∃ bv,BindsTo s fd ⟨vs.dropLast,[(nm,vs.getLastD .none)]⟩ bv/\VRp W F bs bv
theorem call_fnXk{name qual nm:Str}{params:Arguments}{body:List Stmt}{scope:Scope}{dV kV doc pm cdv ct oc:Value}{an od:Option Addr}{osl:Array (Option Value)}{f:Addr}{xs:List V}{bs:List (Str×V)}{Q:V->Loc->Mem->Prop}
  (ho:W.K.lookup f=some ⟨oc,od,.func (fnOf name qual params body scope dV kV doc pm an cdv ct),osl⟩) (hcd:codeIn W.K cdv qual=true) (hroom:A.depth<recursionLimit) (hf:Fits A env outer)
  (hbind:BindsK W (fnOf name qual params body scope dV kV doc pm an cdv ct) nm xs bs) (hloc:∀ y∈bs,scope.names.lookup y.1=some .local)
  (hcell:∀ x∈scope.names,x.2≠.cell) (hco:scope.isCoroutine=false) (hgen:scope.isGenerator=false) (hk:scope.kind = .function)
  (h:BodyX W A env outer qual scope body cdv f bs.reverse mem (fun v m=>Q v loc m) (fun c m=>Takes W env outer E c loc m)):Op W A env outer (VR W) (callK (.ref f) nm) xs loc mem Q E:=fun R F s vs S r=>by
 obtain⟨bv,hb,rb⟩:=hbind F s vs S.base S.kin r
 refine wpAny_call ?_
 obtain⟨m,hn,l⟩:=S.ns
 have hloc':∀ y∈bv,scope.names.lookup y.1=some .local:=fun y hy=>by
  have:y.1∈bs.map (·.1):=rb.keys▸List.mem_map_of_mem hy
  obtain⟨z,hz,e⟩:=inM this
  exact e▸hloc z hz
 refine codeAny_call_def (fd:=fnOf name qual params body scope dV kV doc pm an cdv ct) (body:=body) (binds:=bv) hroom (S.kin _ _ ho) rfl (W.nolim.keeps S.hbase) (codeRec_of S.kin hcd) rfl hb hcell hloc' (fun h₁ hns hk₁=>?_) hco hgen hk
 have S':Sim W (envX qual scope s.heap.objs.size f cdv []) ((env.locals,m)::outer) bs.reverse mem R F { s with heap:=h₁,toks:=s.toks+bv.length }:=
  ⟨S.dis,S.z.enter hn rfl rfl hns hk₁ rb.rev.loc⟩
 have hfd:Fits (A.deeper (envX qual scope s.heap.objs.size f cdv [])) (envX qual scope s.heap.objs.size f cdv []) ((env.locals,m)::outer):=hf.deeper rfl hk
 refine wpAny_mono (h s.heap.objs.size m hfd R F _ S') (fun fl s' hp=>?_) fun e s' he=>?_
 ·obtain⟨F',fl',l',m2,i,r,S2,m',hm',q⟩:=hp
  have S2:=S2.drop hm'
  have S3:Sim W env outer loc m' R F' s':=⟨S2.dis,S.z.leave l i S2.z⟩
  cases r with
  | next=>exact⟨F',.none,loc,m',i,.none,S3,q⟩
  | brk=>exact⟨F',.none,loc,m',i,.none,S3,q⟩
  | cont=>exact⟨F',.none,loc,m',i,.none,S3,q⟩
  | ret r=>exact⟨F',_,loc,m',i,r,S3,q⟩
 ·obtain⟨F',l',m2,e,c,rfl,i,al,m',hm',q⟩:=he
  exact Aloft.leave S l i hfd (al.drop hm') fun h' a=>E.up i (q R F' _ e a)
noncomputable def MethK(W:Wd)(A:Around)(env:Env)(outer:Outs)(name:Str)(pl:Sem Bool)(pos:Pos)(args:List PySem.Expr)(kws:List Keyword)(v:V)(loc:Loc)(mem:Mem)(Q:V->Loc->Mem->Prop)(E:Ex W):Prop:=
 ∀ R F s v',Sim W env outer loc mem R F s->VR W F v v'->wpAny (model W.prog W.w) A (getMethod v' name pl) (fun fx s₂=>wpAny (model W.prog W.w) A (callWith pos fx.1 fx.2 (backTo pos (starEach args env)) (backToKw pos (keywordEach kws env))) (Post W env outer (VR W) R F Q) (E.p R F) s₂) (E.p R F) s
theorem c_methK{o:PySem.Expr}{name:Str}{apos pos:Pos}{args:List PySem.Expr}{kws:List Keyword}{pl:Sem Bool}{Q:V->Loc->Mem->Prop}
  (he:eval (.Call (.Attribute o name apos) args kws pos) env=(do
   let ov<-eval o env
   standAt apos.atName
   let (f,first)<-holding [ov] (getMethod ov name pl)
   callWith pos f first (backTo pos (starEach args env)) (backToKw pos (keywordEach kws env))))
  (h:TrV W A env outer (eval o env) loc mem (fun v l m=>MethK W A env outer name pl pos args kws v l m Q E) E) :
  TrV W A env outer (eval (.Call (.Attribute o name apos) args kws pos) env) loc mem Q E:=fun R F s S=>
 methodCall_KW (kws:=kws) (pl:=pl) (after (i:=.refl _) (RW:=VR W) (Q:=fun _ _ _=>True) (h R F s S) fun v' s' F1 v l1 m1 i1 r1 S1 h1=>
  wpAny_mono (h1 R F1 s' v' S1 r1) (fun fx s2 h2=>wpAny_mono h2 (fun _ _ p=>p.weaken i1) fun _ _ e=>E.up i1 e) fun _ _ e=>E.up i1 e) he
theorem m_ownK{v:V}{C f:Addr}{es:List (Str×V)}{name nm:Str}{pl:Sem Bool}{pos kp:Pos}{e value:PySem.Expr}{rest:List PySem.Expr}{Q:V->Loc->Mem->Prop}(I:Inst W mem v C es)(hg:plainGet W.K C name=true)
  (hf:findIn W.K (.ref C) name=some (some (.ref f))) (ht:isFn W.K (.ref f)=true) (hl:getA es name=none) (hk:keepIn W.K (.ref f)=true) (he:starEach (e::rest) env=(false,eval e env)::starEach rest env) (hplain:(backTo pos (starEach (e::rest) env)).any (·.1)=false)
  (h:TrL W A env outer (spliced (backTo pos (starEach (e::rest) env))) loc mem (fun xs l m=>TrV W A env outer (eval value env) l m (fun k l m=>Op W A env outer (VR W) (callK (.ref f) nm) (v::(xs++[k])) l m Q E) E) E) :
  MethK W A env outer name pl pos (e::rest) [⟨some nm,value,kp⟩] v loc mem Q E:=fun R F s v' S r=>by
 obtain⟨xa,d,od,kvs,rfl,J,hd,rp⟩:=I.at S r
 refine method_fn S.kin J (plainGet_of hg).1 (plainGet_of hg).2 hf (beq_iff_eq.mp ht) (by show(lookIn name od).map _=_;rw[lookIn_of hd,(rp.get name).2 hl];rfl) ?_
 refine callWith_KW (h₀:=s.heap) S.kin hk rfl (after (i:=.refl _) (RW:=VR W) (Q:=fun _ _ _=>True) (h R F s S) fun vs s' F1 xs l1 m1 i1 r1 S1 h1=>?_) (by rw[hplain];rfl) he
 refine kws_cons (after (i:=‹_›) (RW:=VR W) (Q:=fun _ _ _=>True) (h1 R F1 s' S1) fun kv s2 F2 k l2 m2 i2 r2 S2 h2=>kws_nil ⟨S2.kin,?_⟩)
 have h3:=h2 R F2 s2 ((.ref xa::vs)++[kv]) S2 (VRs.app (.cons (r.mono (i1.trans i2)) (r1.mono i2)) (.cons r2 .nil))
 unfold callK at h3
 rw[List.dropLast_concat,List.getLastD_concat]at h3
 exact wpAny_mono h3 (fun _ _ p=>p.weaken (i1.trans i2)) fun _ _ e=>E.up (i1.trans i2) e
end
inductive NmK(g:GR)(name:Str):Bool->Prop
 | ok:isIdent name=true->name≠"error"->g.te.lookup name=none->NmK g name true
 | tok:(g.te.lookup name).isSome=true->NmK g name false
 | bad:g.te.lookup name=none->name≠"error"->isIdent name=false->NmK g name false
theorem litT_look{mt:Str->Option Str}{B:Nat}{l:List Str}{te:List (Str×List Int)}(h:∀ k ns,te.lookup k=some ns->ns.length≤B):∀ k ns,(litT mt te l).lookup k=some ns->ns.length≤B:=by
 induction l generalizing te with
 | nil=>exact h
 | cons s l ih=>
  unfold litT at ih ⊢
  rw[List.foldl_cons]
  refine ih ?_
  split
  ·split
   ·exact h
   ·exact known_len h
  ·exact h
noncomputable abbrev mtL(mt:Str->Option Str)(syms:List Str):List Str:=syms.map fun s=>(mt s).getD s
inductive Touch(W:Wd)(g:GR)(S:Str->Bool)(mt:Str->Option Str)(syms:List Str)(k:Nat):GR->Prop
 | mk (i:Nat) (o:Obj) (t:Option Str) (k':Nat) (h1_:SetB W o (addT S t) k') (h2_:k'≤k+1) (h3_:∀ x,t=some x->∃ b,mtL mt syms=b++[("%prec" : Str),x]):Touch W g S mt syms k { g with te:=litT mt g.te (syms.take i),upo:=some (.raw o) }
theorem PrecK.tail{pr:List (Str×V)}{te:List (Str×List Int)}{syms body:List Str}{v:V}{t:Option Str}(h:PrecK pr te syms (some (body,v,t)))(hpv:∀ t v,getA pr t=some v->LvlV v) :
  (∀ x,t=some x->∃ b,syms=b++[("%prec" : Str),x])/\(∀ y∈body,y∈syms)/\body.length≤syms.length/\notRef v=true:=by
 have lv:∀ v,LvlV v->notRef v=true:=fun v ⟨w,l,e⟩=>by rw[e];rfl
 cases h with
 | plain hno=>
  refine⟨fun x e=>(nomatch e),fun y h=>h,Nat.le_refl _,?_⟩
  cases q:(rmost (te.map (·.1)) syms).bind (getA pr) with
  | none=>rfl
  | some v=>
   show notRef v=true
   obtain⟨s,_,e⟩:=Option.bind_eq_some_iff.mp q
   exact lv v (hpv s v e)
 | prec e1 e2 e3=>
  refine⟨fun x e=>?_,fun y h=>?_,?_,lv _ (hpv _ _ e3)⟩
  ·cases e;exact⟨_,e1⟩
  ·rw[e1];exact List.mem_append_left _ h
  ·rw[e1,List.length_append];exact Nat.le_add_right _ _
structure Goes(g:GR)(name:Str)(mt:Str->Option Str)(syms body:List Str)(b:Bool):Prop where
 nm:b=true
 sy:∀ s∈syms,mt s≠none
 new:∀ p∈g.prods,mapText p.name p.body≠mapText name body
section
variable {W:Wd}{A:Around}{env:Env}{outer:Outs}{loc:Loc}{mem:Mem}{E:Ex W}
theorem add_spec{g:GR}{a sy:Addr}{gm:Mem}{name:Str}{syms:List Str}{mt:Str->Option Str}{b:Bool}{n:Int}{o:Obj}{S:Str->Bool}{k:Nat}{r:Option (List Str×V×Option Str)}{Q:V->Loc->Mem->Prop}(hK:W.K=hdK W.w.params)(c:Calm A 600 5000)(hf:Fits A env outer)(G:GMem aGrammar aProd g a gm)(hsy:gm sy=none)
  (hnz:name.cps.size≤100) (hnr:(reprText name).length≤20000) (hb:NmK g name b) (hs:b=true->∀ s∈syms,SyK s (mt s)) (hz:syms.length≤100) (hpv:∀ t v,getA g.pr t=some v->LvlV v) (hnum:g.prods.length≤1000) (hpn:∀ p∈g.prods,p.name∈g.pn) (hpz:g.pn.length≤1000) (htz:g.te.length≤1000) (hlen:LenOk 1000 (g.te,g.no)) (hpo:∀ p∈g.prods,PrOk p)
  (hu:g.upo=some (.raw o)) (T:SetB W o S k) (hk:k≤1000) (hln:0≤n/\n<10 ^ 10) (hmr:b=true->∀ s∈syms,∀ y,mt s=some y->(reprText y).length≤20000) (hpk:b=true->(∀ s∈syms,mt s≠none)->PrecK g.pr (litT mt g.te syms) (mtL mt syms) r)
  (rE:(∀ body v t,r=some (body,v,t)->¬ Goes g name mt syms body b)->∀ g' gm',Touch W g S mt syms k g'->GMem aGrammar aProd g' a gm'->Takes W env outer E (.ref aGErr) loc gm')
  (h:∀ body v t,r=some (body,v,t)->Goes g name mt syms body b->∀ m o' k',SetB W o' (addT S t) k'->k'≤k+1->GMem aGrammar aProd (addG { g with te:=litT mt g.te syms,upo:=some (.raw o') } name body v .none (.str "") (.int n)) a m->Q .none loc m) :
  OpV W A env outer (callK (.ref aAdd) "line") [.ref a,.str name,.ref sy,.int n] loc (mset gm sy (.list (vStrs syms))) Q E:=by
 obtain⟨adr,cc,M,ok,rfl⟩:=G
 refine call_fnXk (bs:=[("self",.ref (adr .self)),("prodname",.str name),("syms",.ref sy),("func",.none),("file",.str ""),("line",.int n)]) (by rw[hK];exact addP.at _) (by rw[hK];first|rfl|kernel_rfl|decide +kernel) (c.room (by decide)) hf ?_ (by intro y hy;simp at hy;rcases hy with rfl|rfl|rfl|rfl|rfl|rfl<;>rfl) (by decide) rfl rfl rfl ?_
 ·intro F s vs hb hk r
  obtain⟨_,_,r1,r2,rfl⟩:=r.isCons
  obtain⟨_,_,r3,r4,rfl⟩:=r2.isCons
  obtain⟨_,_,r5,r6,rfl⟩:=r4.isCons
  obtain⟨_,_,r7,r8,rfl⟩:=r6.isCons
  obtain rfl:=r8.isNil
  exact⟨_,binds_K (T:=159) hk rfl (by rw[hK];rfl) rfl rfl rfl,.cons r1 (.cons r3 (.cons r5 (.cons .none (.cons (.str _ _) (.cons r7 .nil)))))⟩
 ·intro L m0 fd
  have cd:Calm (A.deeper (addE L)) 601 5003:=c.deeper (addE L)
  obtain⟨epd,hdict⟩:=ok.dict
  obtain⟨ept,hted⟩:=ok.te
  have G0:GS adr cc sy (.list (vStrs syms)) (mset gm sy (.list (vStrs syms))):=⟨gm,rfl,M,hsy⟩
  have hx:=G0.get ok.self
  have hd:=G0.get hdict
  have ht:=G0.get hted
  have sb:Sub gm (mset gm sy (.list (vStrs syms))):=fun b x e=>by rw[mset_ne (nex e hsy)];exact e
  have g00:Touch W g S mt syms k g:=by
   have:=Touch.mk (W:=W) (g:=g) (S:=S) (mt:=mt) (syms:=syms) (k:=k) 0 o none k (by rw[show addT S none=S from funext fun x=>by unfold addT;simp];exact T) (Nat.le_succ k) (fun x e=>nomatch e)
   rw[List.take_zero,<-hu]at this
   exact this
  have tk:∀ l,b=false->Takes W (addE L) ((env.locals,m0)::outer) (exX W (addE L) ((env.locals,m0)::outer) fun c _ m=>∃ m',(∀ a x,m' a=some x->m a=some x)/\Takes W env outer E c loc m') (.ref aGErr) l (mset gm sy (.list (vStrs syms))):=fun l e=>takesX ⟨gm,sb,rE (fun body v t _ q=>by rw[e]at q;exact nomatch q.nm) g gm g00 ⟨_,_,M,ok,rfl⟩⟩
  (refine nameS ?_;intro aa vv oo qq ee;refine s_cons ?_);refine s_if ?_;refine b_cmp1 rfl rfl ?_;refine e_attr1 rfl rfl ?_
  refine get_o hK (fun _=>by kernel_rfl) (.own hx hd) rfl rfl ?_
  skip
  refine in_dict ht ?_
  cases hb with
  | tok h1=>
   rw[show(getA (g.te.map fun q=>(q.1,V.ref (adr (.teL q.1)))) name).isSome=true from lookA (f:=fun k=>V.ref (adr (.teL k))) h1]
   refine tr_bool ?_
   refine only_t ?_
   (refine nameQ ?_;intro qq ee;refine s_cons ?_)
   refine s_gerr hK cd.handled rfl rfl rfl rfl rfl ?_
   refine a_cons rfl ?_;refine e_binop1 rfl ?_;refine e_tuple ?_;refine a_pus rfl ?_
   refine new_tup (show 3≤sizeLine by decide) ?_
   skip
   refine pct_tup (cs:=[115,100,114]) (by decide +kernel) (by decide +kernel) (by decide +kernel) (.cons (.str str0_len.1) (.cons (.int hln.1 hln.2) (.cons (.rep (Nat.le_trans hnz (by decide)) hnr) .nil))) fun z1 hz1=>?_
   refine a_nil ?_
   exact⟨show 1≤sizeLine by decide,tk _ rfl⟩
  | bad h1 h2 h3=>
   rw[show(getA (g.te.map fun q=>(q.1,V.ref (adr (.teL q.1)))) name).isSome=false from lookA (f:=fun k=>V.ref (adr (.teL k))) (by rw[h1];rfl)]
   refine tr_bool ?_
   refine only_f ?_
   refine s_nil ?_;refine s_cons ?_;refine s_if ?_;refine b_cmp2 rfl rfl rfl ?_;refine eq_ss ?_;refine tr_bool ?_
   refine⟨fun hb=>(absurd (of_decide_eq_true hb) h2),fun _=>?_⟩
   refine s_nil ?_;refine s_cons ?_;refine s_if ?_;refine b_not ?_;refine b_value rfl ?_;refine c_topN hK (fun _=>rfl) (fun _=>rfl) rfl rfl ?_;refine a_pus rfl ?_
   refine isId_spec hK (cd.mono (by decide) (by decide)) (Nat.le_trans hnz (by lia)) ?_
   rw[h3]
   refine tr_bool ?_
   refine only_t ?_
   (refine nameQ ?_;intro qq ee;refine s_cons ?_)
   refine s_gerr hK cd.handled rfl rfl rfl rfl rfl ?_
   refine a_cons rfl ?_;refine e_binop1 rfl ?_;refine e_tuple ?_;refine a_pus rfl ?_
   refine new_tup (show 3≤sizeLine by decide) ?_
   skip
   refine pct_tup (cs:=[115,100,114]) (by decide +kernel) (by decide +kernel) (by decide +kernel) (.cons (.str str0_len.1) (.cons (.int hln.1 hln.2) (.cons (.rep (Nat.le_trans hnz (by decide)) hnr) .nil))) fun z1 hz1=>?_
   refine a_nil ?_
   exact⟨show 1≤sizeLine by decide,tk _ rfl⟩
  | ok h1 h2 h3=>
   rw[show(getA (g.te.map fun q=>(q.1,V.ref (adr (.teL q.1)))) name).isSome=false from lookA (f:=fun k=>V.ref (adr (.teL k))) (by rw[h3];rfl)]
   refine tr_bool ?_
   refine only_f ?_
   refine s_nil ?_;refine s_cons ?_;refine s_if ?_;refine b_cmp2 rfl rfl rfl ?_;refine eq_ss ?_;refine tr_bool ?_
   refine⟨fun hb=>(absurd (of_decide_eq_true hb) h2),fun _=>?_⟩
   refine s_nil ?_;refine s_cons ?_;refine s_if ?_;refine b_not ?_;refine b_value rfl ?_;refine c_topN hK (fun _=>rfl) (fun _=>rfl) rfl rfl ?_;refine a_pus rfl ?_
   refine isId_spec hK (cd.mono (by decide) (by decide)) (Nat.le_trans hnz (by lia)) ?_
   rw[h1]
   refine tr_bool ?_
   refine only_f ?_
   refine s_nil ?_
   refine Tr.locs (loc':=addL0 (adr .self) sy name (.int n)) rfl ?_
   refine s_cons ?_
   refine add_lits (mt:=mt) (n:=n) hK cd fd ok G0 ⟨Nat.le_trans hnz (by decide),hnr⟩ (hs rfl) hz htz hln ?_ ?_
   ·intro i s l m gm' e1 e2 e3 G' sb'
    refine takesX ⟨gm',sb',rE (fun body v t _ q=>q.sy s (List.mem_of_getElem? e1) e2) _ gm' ?_ G'⟩
    have:=Touch.mk (W:=W) (g:=g) (S:=S) (mt:=mt) (syms:=syms) (k:=k) i o none k (by rw[show addT S none=S from funext fun x=>by unfold addT;simp];exact T) (Nat.le_succ k) (fun x e=>nomatch e)
    rw[<-hu]at this
    exact this
   intro l m adr1 cc1 hl1 hall G1 ok1 ea
   have hu1:({ g with te:=litT mt g.te syms }:GR).upo=some (.raw o):=hu
   have hsy2:∀ y∈mtL mt syms,y.cps.size≤100/\PyData.strOk y=true/\(reprText y).length≤20000:=fun y hy=>by
    obtain⟨s,hs1,rfl⟩:=inM hy
    have k:=hs rfl s hs1
    have hrr:=hmr rfl s hs1
    cases e:mt s with
    | none=>exact absurd e (hall s hs1)
    | some y=>
     rw[e]at k
     have hrr:=hrr y e
     cases k with
     | ok k=>exact⟨k.size,k.ok,hrr⟩
     | lit k1 k2 k3 k4 k5=>exact⟨by show y.cps.size≤100;lia,k3,hrr⟩
     | prec k=>exact⟨by show s.cps.size≤100;rw[k];decide +kernel,by show PyData.strOk s=true;rw[k];decide +kernel,hrr⟩
   have hzl:(mtL mt syms).length≤100:=by rw[List.length_map];exact hz
   refine Tr.locs hl1 ?_
   rw[<-ea]
   refine s_cons ?_
   have touch:∀ o' t k',SetB W o' (addT S t) k'->k'≤k+1->(∀ x,t=some x->∃ b,mtL mt syms=b++[("%prec" : Str),x])->Touch W g S mt syms k { g with te:=litT mt g.te syms,upo:=some (.raw o') }:=fun o' t k' a1 a2 a3=>by
    have:=Touch.mk (W:=W) (g:=g) (S:=S) (mt:=mt) (syms:=syms) (k:=k) syms.length o' t k' a1 a2 a3
    rw[List.take_length]at this
    exact this
   refine add_prec (g:={ g with te:=litT mt g.te syms }) hK cd ok1 G1 hsy2 hzl (hpk rfl hall) hpv (by have h2:=litT_len mt g.te syms;show(litT mt g.te syms).length≤100000;lia) hu1 T hk hln (fun e l=>?_) (fun body v t er l m2 cc2 o2 k2 hl2 G2 ok2 T2 hk2=>?_)
   ·obtain⟨gm',M',sb'⟩:=G1.done
    refine takesX ⟨gm',sb',rE (fun body v t e' q=>by rw[e]at e';cases e') _ gm' ?_ ⟨_,_,M',ok1,ea⟩⟩
    have:=touch o none k (by rw[show addT S none=S from funext fun x=>by unfold addT;simp];exact T) (Nat.le_succ k) (fun x e=>nomatch e)
    rw[<-hu]at this
    exact this
   ·obtain⟨q1,q2,q3,q4⟩:=(er▸hpk rfl hall:PrecK g.pr (litT mt g.te syms) (mtL mt syms) (some (body,v,t))).tail hpv
    refine Tr.locs hl2 ?_
    refine add_map (g:={ g with te:=litT mt g.te syms,upo:=some (.raw o2) }) (prec:=v) hK cd fd ok2 G2 hnz (fun y hy=>⟨(hsy2 y (q2 y hy)).1,(hsy2 y (q2 y hy)).2.1⟩) (Nat.le_trans q3 hzl) q4 hnum hpn hpz ⟨?_,fun k ns e=>?_,fun k ns e=>?_⟩ hpo hln ?_ ?_
    ·have h2:=hlen.1;dsimp only at h2 ⊢;lia
    ·have:=litT_look hlen.2.1 k ns e;lia
    ·have:=hlen.2.2 k ns e;lia
    ·intro e l
     obtain⟨gm',M',sb'⟩:=G2.done
     refine takesX ⟨gm',sb',rE (fun body' v' t' e' q=>?_) _ gm' (touch o2 t k2 T2 hk2 q1) ⟨_,_,M',ok2,ea⟩⟩
     rw[er]at e'
     cases e'
     obtain⟨p,hp,e⟩:=e
     exact q.new p hp e
    ·exact fun e l m gm' G' sb'=>⟨gm',sb',by rw[ea]at G';exact h body v t er ⟨rfl,hall,e⟩ gm' o2 k2 T2 hk2 G'⟩
end
section
variable {W:Wd}{A:Around}{env:Env}{outer:Outs}{loc:Loc}{mem R:Mem}{E:Ex W}{F:Frz}{s:Shared}
theorem add_ll{v u:V}{xs ys:List V}{Q:V->Loc->Mem->Prop}(q:Sq mem v "list" xs)(q':Sq mem u "list" ys)(hz:xs.length+ys.length≤sizeLine)(h:Q (.lst (xs++ys)) loc mem) :
  OpV W A env outer (fun|[x,y]=>binaryOp .Add x y|_=>pure .none) [v,u] loc mem Q E:=op2 fun R F s v' u' S r1 r2=>by
 obtain⟨a,vs,n,rfl,ho,rs⟩:=q.at S r1
 obtain⟨b,ws,n2,rfl,ho2,rs2⟩:=q'.at S r2
 refine PySem.P.add_list (items:=vs) (n:=n) (items2:=ws) (n2:=n2) ho ho2 ?_ (by rw[rs.size,rs2.size];exact hz)
 have S':=S.freeze (t:=s.toks) (d:=s.drawn) (o':={ cls:=.type "list",data:=.seq (vs++ws) }) (get?_size s.heap) (fun b o e=>Heap.get?_push_of_some _ e) (Heap.get?_push_size _ rfl)
 refine⟨_,.lst (xs++ys),loc,mem,Incl.fadd _ _ _,.lst (.inr ⟨rfl,rfl⟩) ?_,S',h⟩
 rw[Array.toList_append]
 exact(rs.mono (Incl.fadd _ _ _)).app (rs2.mono (Incl.fadd _ _ _))
end
section
variable {prog:Program}{w:World}{A:Around}{E:Value->Shared->Prop}{s:Shared}
end
section
variable {prog:Program}{w:World}{A:Around}{R:Result->Shared->Prop}{I:Addr}{fp wr:List Addr}{G:Array GenState->Array GenState->Prop}{n:Nat}{P:Nat->Value->Prop}{St:Nat->Shared->Prop}
end
section
variable {prog:Program}{w:World}{A:Around}{E:Value->Shared->Prop}{s:Shared}
end
section
variable {prog:Program}{w:World}{A:Around}{E:Value->Shared->Prop}{s:Shared}
end
section
variable {prog:Program}{w:World}{A:Around}{E:Value->Shared->Prop}{s:Shared}
end
section
variable {W:Wd}{A:Around}{env:Env}{outer:Outs}{loc:Loc}{mem R:Mem}{E:Ex W}{F:Frz}{s:Shared}
end
section
variable {prog:Program}{w:World}{A:Around}{E:Value->Shared->Prop}{s:Shared}{a:Addr}{es:Array (Int×Value)}{ep:Nat}{t:SetTable}
end
section
variable {prog:Program}{w:World}{A:Around}{E:Value->Shared->Prop}{s:Shared}{a it tp:Addr}{es:Array (Int×Value)}{ep i slot:Nat}{t:SetTable}
end
section
variable {prog:Program}{w:World}{A:Around}{E:Value->Shared->Prop}{s:Shared}{I:Addr}{fp:List Addr}{vs:List Value}{St:Nat->Heap->Prop}
end
section
variable {prog:Program}{w:World}{A:Around}{E:Value->Shared->Prop}{s:Shared}{I:Addr}
end
section
variable {prog:Program}{w:World}{A:Around}{E:Value->Shared->Prop}{s:Shared}
end
section
variable {prog:Program}{w:World}{A:Around}{E:Value->Shared->Prop}{s:Shared}
end
section
variable {W:Wd}{A:Around}{env:Env}{outer:Outs}{loc:Loc}{mem R:Mem}{E:Ex W}{F:Frz}{s:Shared}
end
section
variable {prog:Program}{w:World}{A:Around}{E:Value->Shared->Prop}{s:Shared}
end
section
variable {prog:Program}{w:World}{A:Around}{R:Result->Shared->Prop}{I:Addr}{fp wr:List Addr}{G:Array GenState->Array GenState->Prop}{n:Nat}{P:Nat->Value->Prop}{St:Nat->Shared->Prop}
end
section
variable {prog:Program}{w:World}{A:Around}{E:Value->Shared->Prop}{s:Shared}
end
section
variable {prog:Program}{w:World}{A:Around}{E:Value->Shared->Prop}{s:Shared}
end
section
variable {prog:Program}{w:World}{A:Around}{E:Value->Shared->Prop}{s:Shared}
end
section
variable {W:Wd}{A:Around}{env:Env}{outer:Outs}{loc:Loc}{mem R:Mem}{E:Ex W}{F:Frz}{s:Shared}
end
section
variable {prog:Program}{w:World}{A:Around}{E:Value->Shared->Prop}{s:Shared}{I:Addr}
end
section
variable {prog:Program}{w:World}{A:Around}{E:Value->Shared->Prop}{s:Shared}
end
section
variable {prog:Program}{w:World}{A:Around}{E:Value->Shared->Prop}{s:Shared}
end
section
variable {W:Wd}{A:Around}{env:Env}{outer:Outs}{loc:Loc}{mem R:Mem}{E:Ex W}{F:Frz}{s:Shared}
end
section
variable {W:Wd}{A:Around}{env:Env}{outer:Outs}{loc:Loc}{mem R:Mem}{E:Ex W}{F:Frz}{s:Shared}
end
section
variable {W:Wd}{A:Around}{env:Env}{outer:Outs}{loc:Loc}{mem:Mem}{E:Ex W}
theorem ne_lists{v u:V}{xs ys:List V}{n:Nat}{Q:V->Loc->Mem->Prop}(q:Sq mem v "list" xs)(q':Sq mem u "list" ys)(hx:xs.all (isD n)=true)(hy:ys.all (isD n)=true)(hn:n<64)(hu:A.units+65<cLine)(h:∀ b:Bool,(b=true↔xs=ys)->Q (.bool (!b)) loc mem) :
  OpV W A env outer (fun|[x,y]=>compareOp .NotEq x y|_=>pure .none) [v,u] loc mem Q E:=op2 fun R F s v' u' S r1 r2=>by
 obtain⟨as,ra⟩:=q.reads hx S r1
 obtain⟨bs,rb⟩:=q'.reads hy S r2
 have hx':isD (n+1) (.lst xs)=true:=hx
 have hy':isD (n+1) (.lst ys)=true:=hy
 have e:=same_iff hx' hy'
 rw[show(V.lst xs=V.lst ys)=(xs=ys) by simp]at e
 exact ne_dataH_same ra rb (isD_shaped hx' (by lia)) (isD_shaped hy' (by lia)) (by lia) (isD_noMix hx' hy') (Post.mk (.bool _) S (h _ e))
end
section
variable {W:Wd}{A:Around}{env:Env}{outer:Outs}{loc:Loc}{mem R:Mem}{E:Ex W}{F:Frz}{s:Shared}
theorem col_keep(l:Addr)(vs:List Value)(h:Heap)(b:Addr)(o:Obj)(e:h.get? b=some o):((h.push (seqObj "list" #[] 0)).update h.objs.size (Obj.mapSeq (·++vs.toArray))).get? b=some o:=by
 have hlt:=Heap.lt_size e
 rw[Heap.get?_update_ne _ _ _ _ (Nat.ne_of_lt hlt)]
 exact Heap.get?_push_of_some _ e
end
section
variable {W:Wd}{A:Around}{env:Env}{outer:Outs}{loc:Loc}{mem R:Mem}{E:Ex W}{F:Frz}{s:Shared}
end
theorem pct_oneR{prog:Program}{w:World}(t u:Tok){fmt:Str}(hf:fmOk fmt.cps.toList=true)(hz:fmt.length≤100)(hc:fmC fmt.cps.toList=[114])(x:Str)(hx:x.length≤20000)(hx2:(reprText x).length≤20000){A:Around}{E:Value->Shared->Prop}{s:Shared}{Q:Fin->Shared->Prop}
  (h:∀ z t k,Q (.done (.ret (.str z t))) { s with toks:=k }):wpAny (model prog w) A (Builtin.«str.__mod__» ⟨[.str fmt t,.str x u],[]⟩) Q E s:=by
 refine pct_pre1 fun f Q' B fin=>?_
 refine pct_loop (I:=fun s'=>∃ k,s'={ s with toks:=k }) (tf:=t) rfl B (fun s' k ⟨k',e⟩=>⟨k,by rw[e]⟩) (fun w1 s1 W1 h1=>fin _ _ (wrt_fin W1 (Nat.le_refl _) fun z t k hz=>?_)) 0 ⟨(fun v e=>nomatch e),Nat.le_refl _,Nat.le_refl _⟩ (by rw[List.length_range'];exact Nat.le_of_eq rfl) hz hf hz ?_ ⟨s.toks,rfl⟩
 ·obtain⟨k',rfl⟩:=h1;exact h z t k
 ·rw[hc]
  refine .cons ?_ .nil
  unfold ConvOk
  rw[if_neg (by decide)]
  exact⟨fun s Q hI h=>wpAny_of_eq (KPc.strOf_str _ _) (h _ _ _ hx hI),fun e=>⟨x,u,rfl,hx2⟩⟩
section
variable {W:Wd}{A:Around}{env:Env}{outer:Outs}{loc:Loc}{mem R:Mem}{E:Ex W}{F:Frz}{s:Shared}
theorem pct_textR{fmt x:Str}{Q:V->Loc->Mem->Prop}(hf:fmOk fmt.cps.toList=true)(hz:fmt.length≤100)(hc:fmC fmt.cps.toList=[114])(hx:x.length≤20000)(hx2:(reprText x).length≤20000)(h:∀ z,Q (.str z) loc mem) :
  OpV W A env outer (fun|[x,y]=>binaryOp .Mod x y|_=>pure .none) [.str fmt,.str x] loc mem Q E:=op2 fun R F s v u S r1 r2=>by
 obtain⟨_,rfl⟩:=r1.isStr;obtain⟨_,rfl⟩:=r2.isStr
 have m:∀ t u,Meets (Builtin.«str.__mod__» ⟨[.str fmt t,.str x u],[]⟩) (fun _ R s=>∀ z t' k,R (.ok (.ret (.str z t'))) { s with toks:=k }):=fun t u=>Meets.of_wp fun prog w A _ s hS=>pct_oneR _ _ hf hz hc x hx hx2 fun z t' k=>⟨_,rfl,hS z t' k⟩
 exact binaryOp_meets (T:="str") (op:=.Mod) (typeIs_str s _ _) (typeIs_str s _ _) PySem.F.fills_str_mod PySem.F.slot_str_mod PySem.F.entry_str_mod (PySem.F.args_str_mod_2 _ _) (m _ _) (fun z t' k=>⟨(fun e=>nomatch e),Post.mk (.str _ _) S.tick (h z)⟩)
end
noncomputable def lHeads.body:List Stmt:=stBody (stAt pw.main.body 13)
noncomputable def lHeads.scope:Scope:=stScope (stAt pw.main.body 13)
noncomputable def lHeads.params:Arguments:=stArgs (stAt pw.main.body 13)
noncomputable def lHeads.code:Value:=(Value.ref 260)
theorem lHeads.at(P:Params):List.lookup 261 (lawHeap P)=some (Obj.mk (Value.type "function") none (Data.func (fnOf (Str.ofString "_law_HEADS") (Str.ofString "_law_HEADS") lHeads.params lHeads.body lHeads.scope (Value.none) (Value.none) (Value.none) (Value.str (Str.ofString "law_te0001_01") 519) (none) lHeads.code (Value.none))) #[]):=by kernel_rfl
noncomputable def lNext.body:List Stmt:=stBody (stAt pw.main.body 14)
noncomputable def lNext.scope:Scope:=stScope (stAt pw.main.body 14)
noncomputable def lNext.params:Arguments:=stArgs (stAt pw.main.body 14)
noncomputable def lNext.code:Value:=(Value.ref 267)
theorem lNext.at(P:Params):List.lookup 268 (lawHeap P)=some (Obj.mk (Value.type "function") none (Data.func (fnOf (Str.ofString "_law_next") (Str.ofString "_law_next") lNext.params lNext.body lNext.scope (Value.none) (Value.none) (Value.none) (Value.str (Str.ofString "law_te0001_01") 519) (none) lNext.code (Value.none))) #[]):=by kernel_rfl
noncomputable def lSet.body:List Stmt:=stBody (stAt pw.main.body 15)
noncomputable def lSet.scope:Scope:=stScope (stAt pw.main.body 15)
noncomputable def lSet.params:Arguments:=stArgs (stAt pw.main.body 15)
noncomputable def lSet.code:Value:=(Value.ref 274)
theorem lSet.at(P:Params):List.lookup 275 (lawHeap P)=some (Obj.mk (Value.type "function") none (Data.func (fnOf (Str.ofString "_law_set") (Str.ofString "_law_set") lSet.params lSet.body lSet.scope (Value.none) (Value.none) (Value.none) (Value.str (Str.ofString "law_te0001_01") 519) (none) lSet.code (Value.none))) #[]):=by kernel_rfl
noncomputable def lAdd.body:List Stmt:=stBody (stAt pw.main.body 16)
noncomputable def lAdd.scope:Scope:=stScope (stAt pw.main.body 16)
noncomputable def lAdd.params:Arguments:=stArgs (stAt pw.main.body 16)
noncomputable def lAdd.code:Value:=(Value.ref 281)
theorem lAdd.at(P:Params):List.lookup 282 (lawHeap P)=some (Obj.mk (Value.type "function") none (Data.func (fnOf (Str.ofString "_law_add") (Str.ofString "_law_add") lAdd.params lAdd.body lAdd.scope (Value.none) (Value.none) (Value.none) (Value.str (Str.ofString "law_te0001_01") 519) (none) lAdd.code (Value.none))) #[]):=by kernel_rfl
noncomputable def lStart.body:List Stmt:=stBody (stAt pw.main.body 17)
noncomputable def lStart.scope:Scope:=stScope (stAt pw.main.body 17)
noncomputable def lStart.params:Arguments:=stArgs (stAt pw.main.body 17)
noncomputable def lStart.code:Value:=(Value.ref 288)
theorem lStart.at(P:Params):List.lookup 289 (lawHeap P)=some (Obj.mk (Value.type "function") none (Data.func (fnOf (Str.ofString "_law_start") (Str.ofString "_law_start") lStart.params lStart.body lStart.scope (Value.none) (Value.none) (Value.none) (Value.str (Str.ofString "law_te0001_01") 519) (none) lStart.code (Value.none))) #[]):=by kernel_rfl
noncomputable def lWords.body:List Stmt:=stBody (stAt pw.main.body 18)
noncomputable def lWords.scope:Scope:=stScope (stAt pw.main.body 18)
noncomputable def lWords.params:Arguments:=stArgs (stAt pw.main.body 18)
noncomputable def lWords.code:Value:=(Value.ref 293)
theorem lWords.at(P:Params):List.lookup 294 (lawHeap P)=some (Obj.mk (Value.type "function") none (Data.func (fnOf (Str.ofString "_law_words") (Str.ofString "_law_words") lWords.params lWords.body lWords.scope (Value.none) (Value.none) (Value.none) (Value.str (Str.ofString "law_te0001_01") 519) (none) lWords.code (Value.none))) #[]):=by kernel_rfl
noncomputable def lRead.body:List Stmt:=stBody (stAt pw.main.body 19)
noncomputable def lRead.scope:Scope:=stScope (stAt pw.main.body 19)
noncomputable def lRead.params:Arguments:=stArgs (stAt pw.main.body 19)
noncomputable def lRead.code:Value:=(Value.ref 298)
theorem lRead.at(P:Params):List.lookup 299 (lawHeap P)=some (Obj.mk (Value.type "function") none (Data.func (fnOf (Str.ofString "_law_reading") (Str.ofString "_law_reading") lRead.params lRead.body lRead.scope (Value.none) (Value.none) (Value.none) (Value.str (Str.ofString "law_te0001_01") 519) (none) lRead.code (Value.none))) #[]):=by kernel_rfl
noncomputable def lLaw.body:List Stmt:=stBody (stAt pw.main.body 20)
noncomputable def lLaw.scope:Scope:=stScope (stAt pw.main.body 20)
noncomputable def lLaw.params:Arguments:=stArgs (stAt pw.main.body 20)
noncomputable def lLaw.code:Value:=(Value.ref 303)
theorem lLaw.at(P:Params):List.lookup 304 (lawHeap P)=some (Obj.mk (Value.type "function") none (Data.func (fnOf (Str.ofString "law") (Str.ofString "law") lLaw.params lLaw.body lLaw.scope (Value.none) (Value.none) (Value.none) (Value.str (Str.ofString "law_te0001_01") 519) (none) lLaw.code (Value.none))) #[]):=by kernel_rfl
noncomputable def gSetP.body:List Stmt:=stBody (stAt (stBody (stAt pw.main.body 9)) 3)
noncomputable def gSetP.scope:Scope:=stScope (stAt (stBody (stAt pw.main.body 9)) 3)
noncomputable def gSetP.params:Arguments:=stArgs (stAt (stBody (stAt pw.main.body 9)) 3)
noncomputable def gSetP.code:Value:=(Value.ref 157)
theorem gSetP.at(P:Params):List.lookup 158 (lawHeap P)=some (Obj.mk (Value.type "function") none (Data.func (fnOf (Str.ofString "set_precedence") (Str.ofString "Grammar.set_precedence") gSetP.params gSetP.body gSetP.scope (Value.none) (Value.none) (Value.none) (Value.str (Str.ofString "ply.yacc") 194) (none) gSetP.code (Value.none))) #[]):=by kernel_rfl
noncomputable def gUnP.body:List Stmt:=stBody (stAt (stBody (stAt pw.main.body 9)) 11)
noncomputable def gUnP.scope:Scope:=stScope (stAt (stBody (stAt pw.main.body 9)) 11)
noncomputable def gUnP.params:Arguments:=stArgs (stAt (stBody (stAt pw.main.body 9)) 11)
noncomputable def gUnP.code:Value:=(Value.ref 215)
theorem gUnP.at(P:Params):List.lookup 216 (lawHeap P)=some (Obj.mk (Value.type "function") none (Data.func (fnOf (Str.ofString "unused_precedence") (Str.ofString "Grammar.unused_precedence") gUnP.params gUnP.body gUnP.scope (Value.none) (Value.none) (Value.none) (Value.str (Str.ofString "ply.yacc") 194) (none) gUnP.code (Value.none))) #[]):=by kernel_rfl
noncomputable def gLen.body:List Stmt:=stBody (stAt (stBody (stAt pw.main.body 9)) 1)
noncomputable def gLen.scope:Scope:=stScope (stAt (stBody (stAt pw.main.body 9)) 1)
noncomputable def gLen.params:Arguments:=stArgs (stAt (stBody (stAt pw.main.body 9)) 1)
noncomputable def gLen.code:Value:=(Value.ref 143)
theorem gLen.at(P:Params):List.lookup 144 (lawHeap P)=some (Obj.mk (Value.type "function") none (Data.func (fnOf (Str.ofString "__len__") (Str.ofString "Grammar.__len__") gLen.params gLen.body gLen.scope (Value.none) (Value.none) (Value.none) (Value.str (Str.ofString "ply.yacc") 194) (none) gLen.code (Value.none))) #[]):=by kernel_rfl
noncomputable def gItem.body:List Stmt:=stBody (stAt (stBody (stAt pw.main.body 9)) 2)
noncomputable def gItem.scope:Scope:=stScope (stAt (stBody (stAt pw.main.body 9)) 2)
noncomputable def gItem.params:Arguments:=stArgs (stAt (stBody (stAt pw.main.body 9)) 2)
noncomputable def gItem.code:Value:=(Value.ref 150)
theorem gItem.at(P:Params):List.lookup 151 (lawHeap P)=some (Obj.mk (Value.type "function") none (Data.func (fnOf (Str.ofString "__getitem__") (Str.ofString "Grammar.__getitem__") gItem.params gItem.body gItem.scope (Value.none) (Value.none) (Value.none) (Value.str (Str.ofString "ply.yacc") 194) (none) gItem.code (Value.none))) #[]):=by kernel_rfl
noncomputable def HEADS:List Str:=["S","A","x-1","S","A","a","error","S T"]
section
variable {W:Wd}{A:Around}{env:Env}{outer:Outs}{loc:Loc}{mem:Mem}{E:Ex W}
theorem eq_lists{v u:V}{xs ys:List V}{n:Nat}{Q:V->Loc->Mem->Prop}(q:Sq mem v "list" xs)(q':Sq mem u "list" ys)(hx:xs.all (isD n)=true)(hy:ys.all (isD n)=true)(hn:n<64)(hu:A.units+65<cLine)(h:∀ b:Bool,(b=true↔xs=ys)->Q (.bool b) loc mem) :
  OpV W A env outer (fun|[x,y]=>compareOp .Eq x y|_=>pure .none) [v,u] loc mem Q E:=op2 fun R F s v' u' S r1 r2=>by
 obtain⟨as,ra⟩:=q.reads hx S r1
 obtain⟨bs,rb⟩:=q'.reads hy S r2
 have hx':isD (n+1) (.lst xs)=true:=hx
 have hy':isD (n+1) (.lst ys)=true:=hy
 have e:=same_iff hx' hy'
 rw[show(V.lst xs=V.lst ys)=(xs=ys) by simp]at e
 exact eq_dataH_same ra rb (isD_shaped hx' (by lia)) (isD_shaped hy' (by lia)) (by lia) (isD_noMix hx' hy') (Post.mk (.bool _) S (h _ e))
theorem heads_spec{Q:V->Loc->Mem->Prop}(hK:W.K=hdK W.w.params)(c:Calm A 900 8000)(h:Q (.lst (vStrs HEADS)) loc mem):OpV W A env outer (fun vs=>call (.ref 261) vs) [] loc mem Q E:=by
 refine call_fn (bs:=[]) (by rw[hK];exact lHeads.at _) (by rw[hK];first|rfl|kernel_rfl|decide +kernel) (c.room (by decide)) ?_ (by intro y hy;cases hy) (by decide) rfl rfl rfl ?_
 ·intro F s vs hb hk r
  obtain rfl:=r.isNil
  exact⟨_,BindsTo.of_eq rfl,.nil⟩
 ·intro L outer
  have cd:=c.deeper (envX "_law_HEADS" lHeads.scope L 261 lHeads.code [])
  (refine nameS ?_;intro aa vv oo qq ee;refine s_cons ?_);refine s_ret ?_;refine e_list ?_;refine a_pus rfl ?_
  refine new_lst (show 8≤sizeLine by decide) ?_
  skip
  exact⟨_,sub_refl _,h⟩
noncomputable def tNext:List Int->Int×List Int
 | []=>(0,[])
 | t::ts=>(t,ts)
theorem next_spec{ta:Addr}{ts:List Int}{Q:V->Loc->Mem->Prop}(hK:W.K=hdK W.w.params)(c:Calm A 900 8000)(hta:mem ta=some (.list (ts.map .int)))(hz:ts.length≤1000)
  (h:Q (.int (tNext ts).1) loc (mset mem ta (.list ((tNext ts).2.map .int)))):OpV W A env outer (fun vs=>call (.ref 268) vs) [.ref ta] loc mem Q E:=by
 refine call_fn (bs:=[("tape",.ref ta)]) (by rw[hK];exact lNext.at _) (by rw[hK];first|rfl|kernel_rfl|decide +kernel) (c.room (by decide)) ?_ (by intro y hy;simp at hy;rcases hy with rfl|rfl<;>rfl) (by decide) rfl rfl rfl ?_
 ·intro F s vs hb hk r
  obtain⟨_,_,r1,r2,rfl⟩:=r.isCons
  obtain rfl:=r2.isNil
  exact⟨_,BindsTo.of_eq rfl,.cons r1 .nil⟩
 ·intro L outer
  have cd:=c.deeper (envX "_law_next" lNext.scope L 268 lNext.code [])
  (refine nameS ?_;intro aa vv oo qq ee;refine s_cons ?_);refine s_ret ?_;refine e_ifexp ?_;refine b_value1 rfl rfl ?_
  refine tr_list (.own hta) (by simp;lia) ?_
  cases ts with
  | nil=>
   skip
   refine only_f ?_
   refine e_int ?_
   exact⟨_,sub_refl _,by have:=h;rwa [show mset mem ta (.list ((tNext []).2.map .int))=mem from mset_eq hta]at this⟩
  | cons t ts=>
   skip
   refine only_t ?_
   refine c_meth1 rfl rfl ?_
   refine m_builtin (.list hta) PySem.F.plainAttrs_list PySem.F.slot_list_pop (by show builtinType _=_;rw[builtinType_eq_fast];kernel_rfl) rfl rfl ?_
   refine a_pus rfl ?_
   refine pop0_own (xs:=ts.map .int) hta (Nat.le_trans (show _≤1000 from(by simp at hz ⊢;lia)) (by decide)) ?_
   skip
   exact⟨_,sub_refl _,h⟩
theorem GOk.setPr{C CP:Addr}{adr:Rl->Addr}{cc:Rl->Option AObj}{g:GR}(ok:GOk C CP adr cc g)(es:List (Str×V))(ep:Nat):GOk C CP adr (upd cc .pr (some (.dict es ep))) { g with pr:=es }:=by
 have off:∀ r:Rl,r≠.pr->upd cc .pr (some (.dict es ep)) r=cc r:=fun r h=>upd_ne h
 exact {
  self:=(off _ (by simp)).trans ok.self
  dict:=ok.dict.imp fun ep e=>(off _ (by simp)).trans e
  pl:=(off _ (by simp)).trans ok.pl
  pn:=ok.pn.imp fun ep e=>(off _ (by simp)).trans e
  pnL:=fun k=>(off _ (by simp)).trans (ok.pnL k)
  pm:=ok.pm.imp fun ep e=>(off _ (by simp)).trans e
  te:=ok.te.imp fun ep e=>(off _ (by simp)).trans e
  teL:=fun k=>(off _ (by simp)).trans (ok.teL k)
  no:=ok.no.imp fun ep e=>(off _ (by simp)).trans e
  noL:=fun k=>(off _ (by simp)).trans (ok.noL k)
  fi:=ok.fi.imp fun ep e=>(off _ (by simp)).trans e
  fiL:=fun k=>(off _ (by simp)).trans (ok.fiL k)
  fo:=ok.fo.imp fun ep e=>(off _ (by simp)).trans e
  foL:=fun k=>(off _ (by simp)).trans (ok.foL k)
  pr:=⟨ep,upd_self _ _ _⟩
  up:=(off _ (by simp)).trans ok.up }
noncomputable abbrev spE(L:Addr):Env:=envX "Grammar.set_precedence" gSetP.scope L 158 gSetP.code []
noncomputable def SpOk(g:GR)(term way:Str):Prop:=getA g.pr term=none/\way∈([("left" : Str),"right","nonassoc"]:List Str)
theorem setp_spec{g:GR}{a:Addr}{gm:Mem}{term way:Str}{lvl:Int}{Q:V->Loc->Mem->Prop}(hK:W.K=hdK W.w.params)(c:Calm A 600 5000)(hf:Fits A env outer)(G:GMem aGrammar aProd g a gm)(hp0:g.p0 = .none)(hpr0:g.prods=[])
  (hpz:g.pr.length≤100) (ht1:term.cps.size≤100) (ht2:(reprText term).length≤20000) (hw:PyData.strOk way=true)
  (hr:¬ SpOk g term way->Takes W env outer E (.ref aGErr) loc gm)
  (h:SpOk g term way->∀ m,GMem aGrammar aProd { g with pr:=g.pr++[(term,.tup [.str way,.int lvl])] } a m->Q .none loc m) :
  OpV W A env outer (fun vs=>call (.ref 158) vs) [.ref a,.str term,.str way,.int lvl] loc gm Q E:=by
 obtain⟨adr,cc,M,ok,rfl⟩:=G
 refine call_fnX (bs:=[("self",.ref (adr .self)),("term",.str term),("assoc",.str way),("level",.int lvl)]) (by rw[hK];exact gSetP.at _) (by rw[hK];first|rfl|kernel_rfl|decide +kernel) (c.room (by decide)) hf ?_ (by intro y hy;simp at hy;rcases hy with rfl|rfl|rfl|rfl<;>rfl) (by decide) rfl rfl rfl ?_
 ·intro F s vs hb hk r
  obtain⟨_,_,r1,r2,rfl⟩:=r.isCons
  obtain⟨_,_,r3,r4,rfl⟩:=r2.isCons
  obtain⟨_,_,r5,r6,rfl⟩:=r4.isCons
  obtain⟨_,_,r7,r8,rfl⟩:=r6.isCons
  obtain rfl:=r8.isNil
  exact⟨_,BindsTo.of_eq rfl,.cons r1 (.cons r3 (.cons r5 (.cons r7 .nil)))⟩
 ·intro L m0 fd
  have cd:=c.deeper (spE L)
  have hu2:(A.deeper (spE L)).units+65<cLine:=Nat.lt_of_le_of_lt (Nat.add_le_add_right cd.units 65) (by decide)
  obtain⟨epd,hdict⟩:=ok.dict
  obtain⟨epp,hprd⟩:=ok.pr
  have hx:=M.get ok.self
  have hd:=M.get hdict
  have hpl:=M.get ok.pl
  have hp:=M.get hprd
  rw[hp0,hpr0]at hpl
  have tk:¬ SpOk g term way->∀ l,Takes W (spE L) ((env.locals,m0)::outer) (exX W (spE L) ((env.locals,m0)::outer) fun c _ m=>∃ m',(∀ a x,m' a=some x->m a=some x)/\Takes W env outer E c loc m') (.ref aGErr) l gm:=fun e l=>takesX ⟨gm,sub_refl _,hr e⟩
  (refine nameS ?_;intro aa vv oo qq ee;refine s_cons ?_);refine s_assert ?_;refine b_cmp rfl ?_;refine e_attr1 rfl rfl ?_
  refine get_o hK (fun _=>by kernel_rfl) (.own hx hd) rfl rfl ?_
  refine e_list ?_;refine a_pus rfl ?_
  refine new_lst (show 1≤sizeLine by decide) ?_
  refine eq_lists (n:=0) (.own hpl) (.lst [.none]) rfl rfl (by decide) hu2 (fun b hb=>?_)
  rw[hb.mpr rfl]
  refine tr_bool ?_
  refine⟨rfl,?_⟩
  refine s_cons ?_;refine s_if ?_;refine b_cmp1 rfl rfl ?_;refine e_attr1 rfl rfl ?_
  refine get_o hK (fun _=>by kernel_rfl) (.own hx hd) rfl rfl ?_
  skip
  refine in_dict hp ?_
  cases q:getA g.pr term with
  | some v=>
   refine tr_bool ?_
   refine only_t ?_
   (refine nameQ ?_;intro qq ee;refine s_cons ?_)
   refine s_gerr hK cd.handled rfl rfl rfl rfl rfl ?_
   refine a_cons rfl ?_;refine e_binop2 rfl rfl ?_
   refine pct_textR (by decide +kernel) (by decide +kernel) (by decide +kernel) (Nat.le_trans ht1 (by decide)) ht2 fun z=>?_
   refine a_nil ?_
   exact⟨show 1≤sizeLine by decide,tk (fun e=>nomatch q.symm.trans e.1) _⟩
  | none=>
   refine tr_bool ?_
   refine only_f ?_
   refine s_nil ?_;refine s_cons ?_;refine s_if ?_;refine b_cmp1 rfl rfl ?_;refine e_list ?_;refine a_pus rfl ?_
   refine new_lst (show 3≤sizeLine by decide) ?_
   refine notin_strs (l:=["left","right","nonassoc"]) (.lst _) hw (by decide +kernel) hu2 ?_
   by_cases hm:way∈([("left" : Str),"right","nonassoc"]:List Str)
   ·rw[decide_eq_true hm]
    refine tr_bool ?_
    refine only_f ?_
    refine s_nil ?_;refine s_cons ?_;refine s_assign_sub rfl ?_;refine e_tuple ?_;refine a_pus rfl ?_
    refine new_tup (show 2≤sizeLine by decide) ?_
    refine e_attr1 rfl rfl ?_
    refine get_o hK (fun _=>by kernel_rfl) (.own hx hd) rfl rfl ?_
    refine pu rfl ?_
    refine setItem_dict' hp (Nat.le_trans hpz (by decide)) (fun m2 ep2 h2 f2=>?_)
    rw[stA_new q]at h2
    refine s_nil ?_
    exact⟨m2,sub_refl _,h ⟨q,hm⟩ m2 ⟨_,_,M.set (r:=.pr) hprd h2 f2,ok.setPr _ _,rfl⟩⟩
   ·rw[decide_eq_false hm]
    refine tr_bool ?_
    refine only_t ?_
    (refine nameQ ?_;intro qq ee;refine s_cons ?_)
    refine s_gerr hK cd.handled rfl rfl rfl rfl rfl ?_
    refine a_pus rfl ?_
    exact⟨show 1≤sizeLine by decide,tk (fun e=>hm e.2) _⟩
end
section
variable {W:Wd}{A:Around}{env:Env}{outer:Outs}{loc:Loc}{mem:Mem}{E:Ex W}
theorem Tr.settleL{α β:Type}{RV:Frz->β->α->Prop}{t:Sem α}{Q:β->Loc->Mem->Prop}{x:Str}{v v':V}{m':Mem}(hx:loc.lookup x=some v)(sh:Shift W v mem v' m')(h:Tr W A env outer RV t (setL x v' loc) m' Q E):Tr W A env outer RV t loc mem Q E:=fun R F s S=>by
 obtain⟨n,hn,lr⟩:=S.z.ns
 obtain⟨u,hu,ru⟩:=lr x v hx
 obtain⟨F',i,S',r'⟩:=sh env outer loc R F s u S ru
 obtain⟨n',hn',lr'⟩:=S'.z.ns
 have nn:NsIs W F' s.heap env.locals (setL x v' loc):=by
  refine⟨n,hn,fun y w e=>?_⟩
  rw[lookup_setL]at e
  split at e
  ·rename_i q
   cases e
   rw[q]
   exact⟨u,hu,r'⟩
  ·obtain⟨w',e1,e2⟩:=lr y w e
   exact⟨w',e1,e2.mono i⟩
 have S2:Sim W env outer (setL x v' loc) m' R F' s:=⟨S'.dis,{ S'.z with ns:=nn }⟩
 exact wpAny_mono (h R F' s S2) (fun _ _ ⟨F2,z,l,m1,i2,r2,S3,q⟩=>⟨F2,z,l,m1,i.trans i2,r2,S3,q⟩) fun _ _ e=>E.up i e
theorem Aloft.join{m R0 R:Mem}{F:Frz}{s:Shared}{e:Addr}{c:Value}(a:Aloft W env outer loc m (mun R0 R) F s e c)(d0:Dis R0 R):Aloft W env outer loc (mun m R0) R F s e c/\Dis m R0:=by
 obtain⟨S,B,U,r⟩:=a
 obtain⟨S2,d⟩:=S.join d0
 exact⟨⟨S2,B,⟨U.frz,fun a x e=>U.own a x (by rw[mun_assoc];exact e),U.stays,U.here,U.outs⟩,r⟩,d⟩
theorem Op.frameX{α β:Type}{RV:Frz->β->α->Prop}{f:List Value->Sem α}{xs:List V}{Q Q':β->Loc->Mem->Prop}{X X':Value->Loc->Mem->Prop}{m R0:Mem}(hd:Dis m R0)(h:Op W A env outer RV f xs loc m Q (exX W env outer X))
  (hQ:∀ v l m1,Dis m1 R0->Q v l m1->Q' v l (mun m1 R0)) (hX:∀ c l m1,Dis m1 R0->X c l m1->X' c l (mun m1 R0)):Op W A env outer RV f xs loc (mun m R0) Q' (exX W env outer X'):=fun R F s vs S r=>by
 obtain⟨S1,d0⟩:=S.split hd
 refine wpAny_mono (h _ F s vs S1 r) (fun _ _ p=>?_) fun _ _ p=>?_
 ·refine bv fun C_ k_=>?_
  obtain⟨F',x,l,m1,a,b,S2,q⟩:=p
  obtain⟨S3,hd1⟩:=S2.join d0
  exact k_ ⟨F',x,l,mun m1 R0,a,b,S3,hQ x l m1 hd1 q⟩
 ·refine bv fun C_ k_=>?_
  obtain⟨F',l,m1,e,cls,e1,i,al,x⟩:=p
  obtain⟨al2,d⟩:=al.join d0
  exact k_ ⟨F',l,mun m1 R0,e,cls,e1,i,al2,hX cls l m1 d x⟩
end
section
variable {W:Wd}{A:Around}{env:Env}{outer:Outs}{loc:Loc}{mem:Mem}{E:Ex W}
theorem lset_spec{g:GR}{a:Addr}{gm M:Mem}{term way:Str}{lvl:Int}{Q:V->Loc->Mem->Prop}(hK:W.K=hdK W.w.params)(c:Calm A 400 4000)(hf:Fits A env outer)(G:GMem aGrammar aProd g a gm)(d:Dis gm M)(hp0:g.p0 = .none)(hpr0:g.prods=[])
  (hpz:g.pr.length≤100) (ht1:term.cps.size≤100) (ht2:(reprText term).length≤20000) (hw:PyData.strOk way=true)
  (hr:¬ SpOk g term way->Q (.bool false) loc (mun gm M))
  (h:SpOk g term way->∀ m,GMem aGrammar aProd { g with pr:=g.pr++[(term,.tup [.str way,.int lvl])] } a m->Dis m M->Q (.bool true) loc (mun m M)) :
  OpV W A env outer (fun vs=>call (.ref 275) vs) [.ref a,.str term,.str way,.int lvl] loc (mun gm M) Q E:=by
 refine call_fn (bs:=[("grammar",.ref a),("term",.str term),("way",.str way),("level",.int lvl)]) (by rw[hK];exact lSet.at _) (by rw[hK];first|rfl|kernel_rfl|decide +kernel) (c.room (by decide)) ?_ (by intro y hy;simp at hy;rcases hy with rfl|rfl|rfl|rfl<;>rfl) (by decide) rfl rfl rfl ?_
 ·intro F s vs hb hk r
  obtain⟨_,_,r1,r2,rfl⟩:=r.isCons
  obtain⟨_,_,r3,r4,rfl⟩:=r2.isCons
  obtain⟨_,_,r5,r6,rfl⟩:=r4.isCons
  obtain⟨_,_,r7,r8,rfl⟩:=r6.isCons
  obtain rfl:=r8.isNil
  exact⟨_,BindsTo.of_eq rfl,.cons r1 (.cons r3 (.cons r5 (.cons r7 .nil)))⟩
 ·intro L outer
  have cd:=(c.deeper (envX "_law_set" lSet.scope L 275 lSet.code [])).mono (d':=600) (u':=5000) (by decide) (by decide)
  have fd:=hf.deeper (env':=envX "_law_set" lSet.scope L 275 lSet.code []) (m0:=outer) rfl rfl
  (refine nameS ?_;intro aa vv oo qq ee;refine s_cons ?_)
  refine Tr.locs (loc':=[("grammar",.ref a),("term",.str term),("way",.str way),("level",.int lvl)]) rfl ?_
  refine s_tryO (C:=aGErr) (x:="GrammarError") (fun l m=>Q (.bool false) loc m) fd PySem.F.excBase_Exception rfl rfl rfl (by decide) (by rw[hK];rfl) (by rw[hK];kernel_rfl) ?_ (fun e l m hX=>?_)
  ·(refine nameQ ?_;intro qq ee;refine s_cons ?_);refine s_expr rfl rfl ?_;refine c_meth1 rfl rfl ?_
   obtain⟨adr,cc,MM,ok,ea⟩:=id G
   obtain⟨epd,hdict⟩:=ok.dict
   have hx:=mun_l (R:=M) (MM.get ok.self)
   have hd:=mun_l (R:=M) (MM.get hdict)
   rw[ea]at hx
   refine m_own (.own hx hd) (by rw[hK];first|rfl|kernel_rfl|decide +kernel) (by rw[hK];first|rfl|kernel_rfl|decide +kernel) (by rw[hK];first|rfl|kernel_rfl|decide +kernel) rfl (by rw[hK];first|rfl|kernel_rfl|decide +kernel) rfl rfl ?_
   refine a_pus rfl ?_
   refine Op.frameX (X:=fun c l m=>c = .ref aGErr/\(Dis m M->Q (.bool false) loc (mun m M))) (Q:=fun v l m=>l=_/\(Dis m M->Q (.bool true) loc (mun m M))) d (setp_spec hK cd fd G hp0 hpr0 hpz ht1 ht2 hw
    (fun e=>takesX ⟨rfl,fun _=>hr e⟩) (fun h1 m G2=>⟨rfl,fun d=>h h1 m G2 d⟩)) (fun v l m1 d1 q=>?_) (fun c l m1 d1 q=>⟨q.1,q.2 d1⟩)
   obtain⟨rfl,q⟩:=q
   refine s_nil ?_;refine s_cons ?_;refine s_ret1 rfl ?_
   exact⟨_,sub_refl _,q d1⟩
  ·(refine nameS ?_;intro aa vv oo qq ee;refine s_cons ?_);refine s_ret1 rfl ?_
   exact⟨m,sub_refl _,hX⟩
theorem lstart_spec{g:GR}{a:Addr}{gm M:Mem}{st sa:Str}{sv:V}{Q:V->Loc->Mem->Prop}(hK:W.K=hdK W.w.params)(c:Calm A 400 4000)(hf:Fits A env outer)(G:GMem aGrammar aProd g a gm)(d:Dis gm M)(hsa:StArg g st [.str sa] sv)(hs1:st.cps.size≤100)(hso:PyData.strOk st=true)
  (hnz:∀ ns,g.no.lookup st=some ns->ns.length≤100000) (hr:g.no.lookup st=none->Q (.bool false) loc (mun gm M)) (h:(g.no.lookup st).isSome=true->∀ m,GMem aGrammar aProd (startG aProd g st) a m->Dis m M->Q (.bool true) loc (mun m M)) :
  OpV W A env outer (fun vs=>call (.ref 289) vs) [.ref a,.str sa] loc (mun gm M) Q E:=by
 refine call_fn (bs:=[("grammar",.ref a),("name",.str sa)]) (by rw[hK];exact lStart.at _) (by rw[hK];first|rfl|kernel_rfl|decide +kernel) (c.room (by decide)) ?_ (by intro y hy;simp at hy;rcases hy with rfl|rfl<;>rfl) (by decide) rfl rfl rfl ?_
 ·intro F s vs hb hk r
  obtain⟨_,_,r1,r2,rfl⟩:=r.isCons
  obtain⟨_,_,r3,r4,rfl⟩:=r2.isCons
  obtain rfl:=r4.isNil
  exact⟨_,BindsTo.of_eq rfl,.cons r1 (.cons r3 .nil)⟩
 ·intro L outer
  have cd:=(c.deeper (envX "_law_start" lStart.scope L 289 lStart.code [])).mono (d':=700) (u':=6000) (by decide) (by decide)
  have fd:=hf.deeper (env':=envX "_law_start" lStart.scope L 289 lStart.code []) (m0:=outer) rfl rfl
  (refine nameS ?_;intro aa vv oo qq ee;refine s_cons ?_)
  refine Tr.locs (loc':=[("grammar",.ref a),("name",.str sa)]) rfl ?_
  refine s_tryO (C:=aGErr) (x:="GrammarError") (fun l m=>Q (.bool false) loc m) fd PySem.F.excBase_Exception rfl rfl rfl (by decide) (by rw[hK];rfl) (by rw[hK];kernel_rfl) ?_ (fun e l m hX=>?_)
  ·(refine nameQ ?_;intro qq ee;refine s_cons ?_);refine s_expr rfl rfl ?_;refine c_meth1 rfl rfl ?_
   obtain⟨adr,cc,MM,ok,ea⟩:=id G
   obtain⟨epd,hdict⟩:=ok.dict
   have hx:=mun_l (R:=M) (MM.get ok.self)
   have hd:=mun_l (R:=M) (MM.get hdict)
   rw[ea]at hx
   refine m_own (.own hx hd) (by rw[hK];first|rfl|kernel_rfl|decide +kernel) (by rw[hK];first|rfl|kernel_rfl|decide +kernel) (by rw[hK];first|rfl|kernel_rfl|decide +kernel) rfl (by rw[hK];first|rfl|kernel_rfl|decide +kernel) rfl rfl ?_
   refine a_pus rfl ?_
   refine Op.frameX (X:=fun c l m=>c = .ref aGErr/\(Dis m M->Q (.bool false) loc (mun m M))) (Q:=fun v l m=>l=_/\(Dis m M->Q (.bool true) loc (mun m M))) d (start_spec hK cd fd G hsa hs1 hso
    (fun e=>takesX ⟨rfl,fun _=>hr e⟩) hnz (fun h1 m G2=>⟨rfl,fun d=>h h1 m G2 d⟩)) (fun v l m1 d1 q=>?_) (fun c l m1 d1 q=>⟨q.1,q.2 d1⟩)
   obtain⟨rfl,q⟩:=q
   refine s_nil ?_;refine s_cons ?_;refine s_ret1 rfl ?_
   exact⟨_,sub_refl _,q d1⟩
  ·(refine nameS ?_;intro aa vv oo qq ee;refine s_cons ?_);refine s_ret1 rfl ?_
   exact⟨m,sub_refl _,hX⟩
end
section
variable {W:Wd}{A:Around}{env:Env}{outer:Outs}{loc:Loc}{mem:Mem}{E:Ex W}
theorem ladd_spec{g:GR}{a sy:Addr}{gm M:Mem}{name:Str}{syms:List Str}{mt:Str->Option Str}{b:Bool}{n:Int}{o:Obj}{S:Str->Bool}{k:Nat}{r:Option (List Str×V×Option Str)}{Q:V->Loc->Mem->Prop}(hK:W.K=hdK W.w.params)(c:Calm A 400 4000)(hf:Fits A env outer)(G:GMem aGrammar aProd g a gm)(d:Dis gm M)(hsy:gm sy=none)(hsM:M sy=none)
  (hnz:name.cps.size≤100) (hnr:(reprText name).length≤20000) (hb:NmK g name b) (hs:b=true->∀ s∈syms,SyK s (mt s)) (hz:syms.length≤100) (hpv:∀ t v,getA g.pr t=some v->LvlV v) (hnum:g.prods.length≤1000) (hpn:∀ p∈g.prods,p.name∈g.pn) (hpz:g.pn.length≤1000) (htz:g.te.length≤1000) (hlen:LenOk 1000 (g.te,g.no)) (hpo:∀ p∈g.prods,PrOk p)
  (hu:g.upo=some (.raw o)) (T:SetB W o S k) (hk:k≤1000) (hln:0≤n/\n<10 ^ 10) (hmr:b=true->∀ s∈syms,∀ y,mt s=some y->(reprText y).length≤20000) (hpk:b=true->(∀ s∈syms,mt s≠none)->PrecK g.pr (litT mt g.te syms) (mtL mt syms) r)
  (rE:(∀ body v t,r=some (body,v,t)->¬ Goes g name mt syms body b)->∀ g' gm',Touch W g S mt syms k g'->GMem aGrammar aProd g' a gm'->Dis gm' M->Q (.bool false) loc (mun gm' M))
  (h:∀ body v t,r=some (body,v,t)->Goes g name mt syms body b->∀ m o' k',SetB W o' (addT S t) k'->k'≤k+1->GMem aGrammar aProd (addG { g with te:=litT mt g.te syms,upo:=some (.raw o') } name body v .none (.str "") (.int n)) a m->Dis m M->Q (.bool true) loc (mun m M)) :
  OpV W A env outer (fun vs=>call (.ref 282) vs) [.ref a,.str name,.ref sy,.int n] loc (mset (mun gm M) sy (.list (vStrs syms))) Q E:=by
 refine call_fn (bs:=[("grammar",.ref a),("head",.str name),("words",.ref sy),("line",.int n)]) (by rw[hK];exact lAdd.at _) (by rw[hK];first|rfl|kernel_rfl|decide +kernel) (c.room (by decide)) ?_ (by intro y hy;simp at hy;rcases hy with rfl|rfl|rfl|rfl<;>rfl) (by decide) rfl rfl rfl ?_
 ·intro F s vs hb hk r
  obtain⟨_,_,r1,r2,rfl⟩:=r.isCons
  obtain⟨_,_,r3,r4,rfl⟩:=r2.isCons
  obtain⟨_,_,r5,r6,rfl⟩:=r4.isCons
  obtain⟨_,_,r7,r8,rfl⟩:=r6.isCons
  obtain rfl:=r8.isNil
  exact⟨_,BindsTo.of_eq rfl,.cons r1 (.cons r3 (.cons r5 (.cons r7 .nil)))⟩
 ·intro L outer
  have cd:=(c.deeper (envX "_law_add" lAdd.scope L 282 lAdd.code [])).mono (d':=600) (u':=5000) (by decide) (by decide)
  have fd:=hf.deeper (env':=envX "_law_add" lAdd.scope L 282 lAdd.code []) (m0:=outer) rfl rfl
  (refine nameS ?_;intro aa vv oo qq ee;refine s_cons ?_)
  refine Tr.locs (loc':=[("grammar",.ref a),("head",.str name),("words",.ref sy),("line",.int n)]) rfl ?_
  have em:mset (mun gm M) sy (.list (vStrs syms))=mun (mset gm sy (.list (vStrs syms))) M:=by
   funext q
   unfold mset mun
   by_cases e:q=sy
   ·simp[e]
   ·simp[e]
  rw[em]
  have d2:Dis (mset gm sy (.list (vStrs syms))) M:=fun q x e=>by
   by_cases z:q=sy
   ·rw[z];exact hsM
   ·rw[mset_ne z]at e;exact d q x e
  refine s_tryO (C:=aGErr) (x:="GrammarError") (fun l m=>Q (.bool false) loc m) fd PySem.F.excBase_Exception rfl rfl rfl (by decide) (by rw[hK];rfl) (by rw[hK];kernel_rfl) ?_ (fun e l m hX=>?_)
  ·(refine nameQ ?_;intro qq ee;refine s_cons ?_);refine s_expr rfl rfl ?_
   obtain⟨adr,cc,MM,ok,ea⟩:=id G
   obtain⟨epd,hdict⟩:=ok.dict
   have up:∀ {b x},gm b=some x->mun (mset gm sy (.list (vStrs syms))) M b=some x:=fun {b x} e=>mun_l (by rw[mset_ne (nex e hsy)];exact e)
   have hx:=up (MM.get ok.self)
   have hd:=up (MM.get hdict)
   rw[ea]at hx
   refine c_methK rfl ?_
   refine pu rfl ?_
   refine m_ownK (.own hx hd) (by rw[hK];first|rfl|kernel_rfl|decide +kernel) (by rw[hK];first|rfl|kernel_rfl|decide +kernel) (by rw[hK];first|rfl|kernel_rfl|decide +kernel) rfl (by rw[hK];first|rfl|kernel_rfl|decide +kernel) rfl rfl ?_
   refine a_pus rfl ?_;refine pu rfl ?_
   refine Op.frameX (X:=fun c l m=>c = .ref aGErr/\(Dis m M->Q (.bool false) loc (mun m M))) (Q:=fun v l m=>l=_/\(Dis m M->Q (.bool true) loc (mun m M))) d2 (add_spec hK cd fd G hsy hnz hnr hb hs hz hpv hnum hpn hpz htz hlen hpo hu T hk hln hmr hpk
    (fun e g' gm' t G'=>takesX ⟨rfl,fun d=>rE e g' gm' t G' d⟩) (fun body v t er go m o' k' T' hk' G2=>⟨rfl,fun d=>h body v t er go m o' k' T' hk' G2 d⟩)) (fun v l m1 d1 q=>?_) (fun c l m1 d1 q=>⟨q.1,q.2 d1⟩)
   obtain⟨rfl,q⟩:=q
   refine s_nil ?_;refine s_cons ?_;refine s_ret1 rfl ?_
   exact⟨_,sub_refl _,q d1⟩
  ·(refine nameS ?_;intro aa vv oo qq ee;refine s_cons ?_);refine s_ret1 rfl ?_
   exact⟨m,sub_refl _,hX⟩
end
noncomputable abbrev Lvl:=Str×(Str×Int)
noncomputable def lvV(q:Str×Int):V:=.tup [.str q.1,.int q.2]
noncomputable def lvA(ls:List Lvl):List (Str×V):=ls.map fun q=>(q.1,lvV q.2)
noncomputable def pairV(q:Lvl):V:=.tup [.str q.1,.str q.2.1]
structure LvOk(ls:List Lvl):Prop where
 nd:(ls.map (·.1)).Nodup
 hz:ls.length≤6
theorem lvA_get{ls:List Lvl}(h:(ls.map (·.1)).Nodup){q:Lvl}(hq:q∈ls):getA (lvA ls) q.1=some (lvV q.2):=by
 induction ls with
 | nil=>cases hq
 | cons p ls ih=>
  rw[List.map_cons,List.nodup_cons]at h
  unfold getA lvA at ih ⊢
  rw[List.map_cons,List.find?_cons]
  rcases List.mem_cons.mp hq with rfl|hq
  ·simp
  ·have:¬ p.1=q.1:=fun e=>h.1 (e▸List.mem_map_of_mem hq)
   simp only [this,decide_false]
   exact ih h.2 hq
inductive JUn(adr:Rl->Addr)(cc:Rl->Option AObj)(u a:Addr)(ls:List Lvl)(U:Str->Bool)(i:Nat)(l:Loc)(m:Mem):Prop
 | mk (h1_:LSub [("self",.ref a),("unused",.ref u)] l) (h2_:GS adr cc u (.list (((ls.take i).filter fun q=>!U q.1).map pairV)) m)
section
variable {W:Wd}{A:Around}{env:Env}{outer:Outs}{loc:Loc}{mem:Mem}{E:Ex W}
noncomputable abbrev unE(L:Addr):Env:=envX "Grammar.unused_precedence" gUnP.scope L 216 gUnP.code []
theorem unp_spec{g:GR}{a:Addr}{gm:Mem}{ls:List Lvl}{o:Obj}{S:Str->Bool}{k:Nat}{Q:V->Loc->Mem->Prop}(hK:W.K=hdK W.w.params)(c:Calm A 700 6000)(G:GMem aGrammar aProd g a gm)(hpr:g.pr=lvA ls)(I:LvOk ls)(hu:g.upo=some (.raw o))(T:SetB W o S k)
  (h:∀ u gm',GMem aGrammar aProd g a gm'->gm' u=none->Q (.ref u) loc (mset gm' u (.list ((ls.filter fun q=>!((g.te.lookup q.1).isSome || S q.1)).map pairV)))) :
  OpV W A env outer (fun vs=>call (.ref 216) vs) [.ref a] loc gm Q E:=by
 obtain⟨adr,cc,M,ok,rfl⟩:=G
 refine call_fn (bs:=[("self",.ref (adr .self))]) (by rw[hK];exact gUnP.at _) (by rw[hK];first|rfl|kernel_rfl|decide +kernel) (c.room (by decide)) ?_ (by intro y hy;simp at hy;rcases hy with rfl;rfl) (by decide) rfl rfl rfl ?_
 ·intro F s vs hb hk r
  obtain⟨_,_,r1,r2,rfl⟩:=r.isCons
  obtain rfl:=r2.isNil
  exact⟨_,BindsTo.of_eq rfl,.cons r1 .nil⟩
 ·intro L outer
  have cd:=c.deeper (unE L)
  obtain⟨epd,hdict⟩:=ok.dict
  rw[hu]at hdict
  obtain⟨ept,hted⟩:=ok.te
  obtain⟨epp,hprd⟩:=ok.pr
  rw[hpr]at hprd
  (refine nameS ?_;intro aa vv oo qq ee;refine s_cons ?_);refine s_assign1 rfl rfl rfl ?_;refine e_list ?_;refine a_nil ?_
  refine new_own' (show 0≤sizeLine by decide) (fun u m1 hua h1 f1=>?_)
  have G1:GS adr cc u (.list []) m1:=⟨gm,funext fun b=>by
   by_cases e:b=u
   ·rw[e,h1,mset_self]
   ·rw[f1 b e,mset_ne e],M,hua⟩
  have hx:=G1.get ok.self
  have hd:=G1.get hdict
  have hp:=G1.get hprd
  refine s_cons ?_;refine s_for (fun _=>rfl) ?_;refine e_attr1 rfl rfl ?_
  refine get_o hK (fun _=>by kernel_rfl) (.own hx hd) rfl rfl ?_
  refine for_map (ys:=ls) (fun _ q=>.str q.1) (itr_dict cd.handled hp) (JUn adr cc u (adr .self) ls (fun x=>(g.te.lookup x).isSome || S x)) (fun i l m hi J=>?_) (fun l m J=>?_) (fun i q l m hy J=>?_) ⟨rfl,G1⟩
  ·obtain⟨_,G⟩:=J
   rw[keyItem_eq (G.get hprd) rfl]
   unfold lvA
   rw[List.getElem?_map,Option.map_map];rfl
  ·obtain⟨hl,G⟩:=J
   rw[List.take_length]at G
   refine Tr.locs hl ?_
   refine s_nil ?_;refine s_cons ?_;refine s_ret1 rfl ?_
   obtain⟨gm',rfl,M',hn⟩:=G
   exact⟨_,sub_refl _,h u gm' ⟨adr,cc,M',ok,rfl⟩ hn⟩
  ·obtain⟨hl,G⟩:=J
   have hx:=G.get ok.self
   have hd:=G.get hdict
   have hp:=G.get hprd
   have ht:=G.get hted
   have hup:=G.get (ok.up.trans hu)
   have hside:=G.side
   have hi:i<ls.length:=(List.getElem?_eq_some_iff.mp hy).1
   have hqm:q∈ls:=List.mem_of_getElem? hy
   have hz6:=I.hz
   refine Op.locs hl ?_
   refine asg_name1 rfl rfl ?_;(refine nameQ ?_;intro qq ee;refine s_cons ?_);refine s_if ?_;refine b_not ?_;refine b_bool ?_;refine b_or_cons ?_;refine b_cmp1 rfl rfl ?_;refine e_attr1 rfl rfl ?_
   refine get_o hK (fun _=>by kernel_rfl) (.own hx hd) rfl rfl ?_
   skip
   refine in_dict ht ?_
   have step:∀ (b:Bool),((g.te.lookup q.1).isSome || S q.1)=b->((ls.take (i+1)).filter fun q=>!((g.te.lookup q.1).isSome || S q.1)).map pairV=((ls.take i).filter fun q=>!((g.te.lookup q.1).isSome || S q.1)).map pairV++(if b then [] else [pairV q]):=fun b hb=>by
    rw[take_snoc hy,List.filter_append,List.map_append]
    congr 1
    rw[List.filter_cons,List.filter_nil]
    simp only [hb]
    cases b<;>rfl
   cases qt:(g.te.lookup q.1).isSome with
   | true=>
    rw[show(getA (g.te.map fun q=>(q.1,V.ref (adr (.teL q.1)))) q.1).isSome=true from lookA (f:=fun k=>V.ref (adr (.teL k))) qt]
    refine tr_bool ?_
    refine⟨fun e=>(nomatch e),fun _=>?_⟩
    refine only_f ?_
    refine s_nil ?_;refine s_nil ?_
    refine⟨rfl,?_⟩
    rw[step true (by rw[qt];rfl),if_pos rfl,List.append_nil];exact G
   | false=>
    rw[show(getA (g.te.map fun q=>(q.1,V.ref (adr (.teL q.1)))) q.1).isSome=false from lookA (f:=fun k=>V.ref (adr (.teL k))) qt]
    refine tr_bool ?_
    refine only_o ?_
    refine b_or_cons ?_;refine b_cmp1 rfl rfl ?_;refine e_attr1 rfl rfl ?_
    refine get_o hK (fun _=>by kernel_rfl) (.own hx hd) rfl rfl ?_
    skip
    refine in_setB hup T ?_
    cases hS:S q.1 with
    | true=>
     refine tr_bool ?_
     refine⟨fun e=>(nomatch e),fun _=>?_⟩
     refine only_f ?_
     refine s_nil ?_;refine s_nil ?_
     refine⟨rfl,?_⟩
     rw[step true (by rw[qt,hS];rfl),if_pos rfl,List.append_nil];exact G
    | false=>
     refine tr_bool ?_
     refine only_o ?_
     refine b_or_nil ?_
     refine only_t ?_
     (refine nameQ ?_;intro qq ee;refine s_cons ?_);refine s_expr rfl rfl ?_;refine c_meth1 rfl rfl ?_
     refine m_builtin (.list hside) PySem.F.plainAttrs_list PySem.F.slot_list_append PySem.F.type_list_append rfl rfl ?_
     refine a_cons rfl ?_;refine e_tuple ?_;refine a_pu rfl ?_;refine a_cons rfl ?_;refine e_sub (fun _ _=>rfl) ?_;refine e_sub (fun _ _=>rfl) ?_;refine e_attr1 rfl rfl ?_
     refine get_o hK (fun _=>by kernel_rfl) (.own hx hd) rfl rfl ?_
     refine pu rfl ?_
     refine sub_dict hp (lvA_get I.nd hqm) ?_
     refine e_int ?_
     refine sub_sq (k:=0) (x:=.str q.2.1) (.tup _) (by decide) (by decide) rfl ?_
     refine a_nil ?_
     refine new_tup (show 2≤sizeLine by decide) ?_
     refine a_nil ?_
     refine append_own' hside (by rw[List.length_map];exact Nat.le_trans (List.length_filter_le _ _) (Nat.le_trans (by rw[List.length_take];lia:_≤6) (by decide))) (fun m2 h2 f2=>?_)
     refine s_nil ?_;refine s_nil ?_
     refine⟨rfl,?_⟩
     rw[step false (by rw[qt,hS];rfl)]
     exact G.put h2 f2
end
noncomputable def MEANT:List (Str×Str):=[("S","S"),("A","A"),("a","a"),("b","b"),("'+'","+"),("'a'","a"),("\"b\"","b"),("U","U"),("%prec","%prec")]
noncomputable def mtF(w:Str):Option Str:=MEANT.lookup w
noncomputable def tabD(D:List (Str×Str)):List (Str×KTD.Dat):=D.map fun p=>(p.1,.flat (.str p.2))
theorem tabD_at(D:List (Str×Str))(k:Str):KTD.datumAt k (tabD D)=(D.lookup k).map fun x=>KTD.Dat.flat (.str x):=by
 induction D with
 | nil=>rfl
 | cons p D ih=>
  obtain⟨x,y⟩:=p
  show(if decide (k=x)=true then some (KTD.Dat.flat (.str y)) else KTD.datumAt k (tabD D))=_
  rw[List.lookup_cons,ih]
  by_cases h:k=x
  ·subst h;simp
  ·have:(k==x)=false:=by simpa using h
   simp[h,this]
theorem tabD_in(D:List (Str×Str))(k:Str):KTD.inKeys k (tabD D)=(D.lookup k).isSome:=by
 rw[<-KTD.isSome_datumAt,tabD_at,Option.isSome_map]
theorem tabD_plain(D:List (Str×Str)):((tabD D).all fun p=>KTD.plain p.2)=true:=by
 unfold tabD
 rw[List.all_map,List.all_eq_true]
 intro p _;rfl
theorem eachL_of{h:Heap}{k:Str}{P:Value->Prop}{y:Str}:∀ {D:List (Str×Str)},D.lookup k=some y->(∀ t,P (.str y t))->KTD.EachL h k P (tabD D)
 | [],e,_=>nomatch e
 | (x,z)::D,e,q=>by
  rw[List.lookup_cons]at e
  by_cases hx:k=x
  ·have:(k==x)=true:=by simpa using hx
   rw[this]at e
   cases e
   exact KTD.eachL_hit hx (KTD.opened_str q)
  ·have:(k==x)=false:=by simpa using hx
   rw[this]at e
   exact KTD.eachL_miss hx (eachL_of e q)
section
variable {W:Wd}{A:Around}{env:Env}{outer:Outs}{loc:Loc}{mem:Mem}{E:Ex W}{F:Frz}{R:Mem}{s:Shared}
noncomputable def Tab(W:Wd)(a:Addr)(D:List (Str×Str)):Prop:=∀ h:Heap,W.K.In h->KTD.TextTab h a (tabD D)
theorem in_tab{a:Addr}{D:List (Str×Str)}{k:Str}{Q:V->Loc->Mem->Prop}(T:Tab W a D)(h:Q (.bool (D.lookup k).isSome) loc mem):OpV W A env outer (fun|[x,y]=>compareOp .In x y|_=>pure .none) [.str k,.glob (.ref a)] loc mem Q E:=op2 fun R F s v u S r1 r2=>by
 obtain⟨_,rfl⟩:=r1.isStr;obtain rfl:=r2.isGlob
 exact KTD.in_text ⟨T _ S.kin,fun _ _ e=>e⟩ (by rw[tabD_in];exact Post.mk (.bool _) S.tick h)
theorem e_subG{value slice:PySem.Expr}{pos:Pos}{a:Addr}{D:List (Str×Str)}{Q:V->Loc->Mem->Prop}(T:Tab W a D)(hs:∀ k t,subscripted slice false (.ref a) (.str k t)=operate [.ref a,.str k t] (getItem (.ref a) (.str k t)))
  (h:TrV W A env outer (eval value env) loc mem (fun o l m=>o = .glob (.ref a)/\TrV W A env outer (eval slice env) l m (fun i l m=>∃ k d,i = .str k/\D.lookup k=some d/\Q (.str d) l m) E) E) :
  TrV W A env outer (eval (.Subscript value slice pos) env) loc mem Q E:=fun R F s S=>
 Subscript_ (after (i:=.refl _) (RW:=VR W) (Q:=fun _ _ _=>True) (h R F s S) fun v' s' F1 f l1 m1 i1 r1 S1 h1=>by
  obtain⟨rfl,h1⟩:=h1
  obtain rfl:=r1.isGlob
  refine after (i:=‹_›) (RW:=VR W) (Q:=fun _ _ _=>True) (h1 R F1 s' S1) fun u' s2 F2 g l2 m2 i2 r2 S2 h2=>?_
  obtain⟨k,d,rfl,hd,q⟩:=h2
  obtain⟨_,rfl⟩:=r2.isStr
  exact KTD.item_textA (h₀:=s2.heap) ⟨T _ S2.kin,fun _ _ e=>e⟩ (tabD_plain D) (by rw[tabD_in,hd];rfl) (eachL_of hd fun t=>⟨F2,.str d,l2,m2,i1.trans i2,.str d t,S2.tick,q⟩) (hs _ _))
theorem meantT(hK:W.K=hdK W.w.params):Tab W 254 MEANT:=fun h hin=>by
 have ho:=hin 254 _ (by rw[hK];rfl)
 refine⟨rfl,_,_,_,ho,⟨rfl,rfl,rfl⟩,rfl,?_⟩
 exact .cons rfl (.str _ _) (.cons rfl (.str _ _) (.cons rfl (.str _ _) (.cons rfl (.str _ _) (.cons rfl (.str _ _) (.cons rfl (.str _ _) (.cons rfl (.str _ _) (.cons rfl (.str _ _) (.cons rfl (.str _ _) .nil))))))))
end
noncomputable def WORDS:List Str:=["S","A","a","b","'+'","'a'","U","\"b\"","S","a","b","'+'","A","b","'ab'","x y"]
noncomputable def TLS:List Str:=["a","b","'+'","U"]
noncomputable def WQ:List Str:="%prec"::WORDS
structure WsOk(ws:List Str):Prop where
 hz:ws.length≤5
 al:∀ w∈ws,w∈WQ
theorem tls_w:∀ w∈TLS,w∈WQ:=by decide +kernel
noncomputable def Off(ra:Addr)(m m':Mem):Prop:=∀ b x,b≠ra->m b=some x->m' b=some x
theorem Off.trans{ra:Addr}{m m' m'':Mem}(h:Off ra m m')(k:Off ra m' m''):Off ra m m'':=fun b x n e=>k b x n (h b x n e)
theorem off_set{ta:Addr}{x:AObj}(m:Mem):Off ta m (mset m ta x):=fun b y n e=>by rw[mset_ne n];exact e
theorem fmod_rng{a b:Int}(hb:0<b):0≤a.fmod b/\a.fmod b<b:=⟨Int.fmod_nonneg_of_pos a hb,Int.fmod_lt_of_pos a hb⟩
theorem at_mod(l:List Str)(hl:l.length≠0)(t:Int):∃ y∈l,(vStrs l)[(t.fmod (l.length:Int)).toNat]? = some (.str y):=by
 obtain⟨r1,r2⟩:=fmod_rng (a:=t) (b:=(l.length:Int)) (by lia)
 have hlt:(t.fmod (l.length:Int)).toNat<l.length:=by lia
 exact⟨l[(t.fmod (l.length:Int)).toNat],List.getElem_mem _,vStrs_get (List.getElem?_eq_getElem hlt)⟩
theorem tNext_len(ts:List Int):(tNext ts).2.length≤ts.length:=by
 cases ts with
 | nil=>exact Nat.le_refl _
 | cons t ts=>exact Nat.le_succ _
theorem small4{n:Nat}(h:n≤3):Builtin.Range.small 0 (0+(n:Int)) 1=true:=by
 have:n=0\/n=1\/n=2\/n=3:=by lia
 rcases this with rfl|rfl|rfl|rfl<;>decide +kernel
inductive J1w(m0:Mem)(ta:Addr)(n b:Nat)(k i:Nat)(ys:List V)(m:Mem):Prop
 | mk (bs:List Str) (ts:List Int) (h1_:k+i=n) (h2_:ys=vStrs bs) (h3_:bs.length=i) (h4_:∀ y∈bs,y∈WORDS) (h5_:m ta=some (.list (ts.map .int))) (h6_:ts.length≤b) (h7_:Off ta m0 m)
noncomputable abbrev woE(L:Addr):Env:=envC "_law_words" lWords.scope L 294 lWords.code
theorem nopy{b:Int}(h:b.natAbs<1073741824):∀ a,Builtin.divisionGoesByPylong a b=false:=fun a=>PyProof.noPylong_small h
section
variable {W:Wd}{A:Around}{env:Env}{outer:Outs}{loc:Loc}{mem:Mem}{E:Ex W}
theorem wordsV{F:Frz}(hK:W.K=hdK W.w.params)(h:∀ a o,W.hb.get? a=some o->F a o):VR W F (.lst (vStrs WORDS)) (.ref 253):=by
 refine .lst (h _ _ (W.KIn 253 _ (by rw[hK];rfl))) ?_
 exact .cons (.str _ _) (.cons (.str _ _) (.cons (.str _ _) (.cons (.str _ _) (.cons (.str _ _) (.cons (.str _ _) (.cons (.str _ _) (.cons (.str _ _) (.cons (.str _ _) (.cons (.str _ _) (.cons (.str _ _) (.cons (.str _ _) (.cons (.str _ _) (.cons (.str _ _) (.cons (.str _ _) (.cons (.str _ _) .nil)))))))))))))))
theorem words_spec{ta:Addr}{ts:List Int}{Q:V->Loc->Mem->Prop}(hK:W.K=hdK W.w.params)(c:Calm A 600 5000)(hta:mem ta=some (.list (ts.map .int)))(hz:ts.length≤40)
  (h:∀ (ws:List Str) (us:List Int) m',WsOk ws->m' ta=some (.list (us.map .int))->us.length≤ts.length->Off ta mem m'->Q (.lst (vStrs ws)) loc m'):OpV W A env outer (fun vs=>call (.ref 294) vs) [.ref ta] loc mem Q E:=by
 refine call_fnC (bs:=[("tape",.ref ta)]) (by rw[hK];exact lWords.at _) (by rw[hK];first|rfl|kernel_rfl|decide +kernel) (c.room (by decide)) ?_ rfl rfl rfl ?_ ?_ ?_
 ·intro F vs r
  obtain⟨_,_,r1,r2,rfl⟩:=r.isCons
  obtain rfl:=r2.isNil
  exact⟨_,rfl,.cons r1 .nil⟩
 ·intro x hx
  simp at hx
  subst hx
  exact .inr ⟨rfl,fun n=>rfl⟩
 ·intro k p hp
  have:cellsFrom k lWords.scope.names []=[(("tape" : Str),k)]:=rfl
  rw[this]at hp ⊢
  simp only [List.mem_cons,List.not_mem_nil,or_false]at hp
  rcases hp with rfl;rfl
 ·intro L m0 hc hL
  have cd:=c.deeper (woE L)
  have hc1:mem (L+1)=none:=hc ("tape",L+1) (.head _)
  have ecell:layC (fun n=>List.lookup n (onlyC (fun n=>List.lookup n lWords.scope.names) [("tape",V.ref ta)])) (cellsFrom (L+1) lWords.scope.names []) mem=mset mem (L+1) (.cell (some (.ref ta))):=by
   show layC _ [(("tape" : Str),L+1)] mem=_
   rfl
  rw[ecell]
  obtain⟨M0,hM0⟩:∃ M0,M0=mset mem (L+1) (.cell (some (.ref ta))):=⟨_,rfl⟩
  have hT0:M0 (L+1)=some (.cell (some (.ref ta))):=by rw[hM0,mset_self]
  have s0:Sub mem M0:=fun b x e=>by rw[hM0,mset_ne (nex e hc1)];exact e
  have nLt:L+1≠ta:=fun e=>by rw[e,hta]at hc1;cases hc1
  have hta0:=s0 _ _ hta
  rw[<-hM0]
  clear hM0 ecell
  (refine nameS ?_;intro aa vv oo qq ee;refine s_cons ?_);refine s_assign1 rfl rfl rfl ?_;refine c_topN hK (fun _=>rfl) (fun _=>rfl) rfl rfl ?_;refine a_cons rfl ?_;refine e_cell rfl rfl rfl rfl (by first|assumption|simp[mset_self]) ?_;refine a_nil ?_
  refine next_spec hK (cd.mono (by decide) (by decide)) hta0 (by lia) ?_
  obtain⟨m1,hm1⟩:∃ m1,m1=mset M0 ta (.list ((tNext ts).2.map .int)):=⟨_,rfl⟩
  have hta1:m1 ta=some (.list ((tNext ts).2.map .int)):=by rw[hm1,mset_self]
  have off1:Off ta mem m1:=fun b x n e=>by rw[hm1,mset_ne n];exact s0 b x e
  have hT1:m1 (L+1)=some (.cell (some (.ref ta))):=by rw[hm1,mset_ne nLt];exact hT0
  have hu1:=tNext_len ts
  rw[<-hm1]
  clear hm1 hT0 hta0
  generalize (tNext ts).2=us at *
  generalize (tNext ts).1=cell at *
  refine s_cons ?_
  refine Tr.locs (loc':=[("cell",.int cell)]) rfl ?_
  refine s_assign_listcomp (cl:=[("tape",L+1)]) rfl rfl (by decide) rfl (by decide) rfl rfl (fun _=>rfl) ?_
  refine c_typN hK (fun _=>rfl) rfl rfl ?_;refine a_cons rfl ?_;refine e_binop2 rfl rfl ?_
  refine mod_ii (by decide) ?_
  have r5:=fmod_rng (a:=cell) (b:=4) (by decide)
  obtain⟨n,hn⟩:∃ n:Nat,cell.fmod 4=(n:Int):=⟨(cell.fmod 4).toNat,(Int.toNat_of_nonneg r5.1).symm⟩
  have hn3:n≤3:=by lia
  rw[hn]
  refine a_nil ?_
  refine range1 (fun rg t1 t2 t3 hrg=>?_)
  have hrt:rg≠ta:=fun e=>by rw[e,hta1]at hrg;cases hrg
  rw[show(n:Int)=((0:Int)+(n:Nat)) from(Int.zero_add _).symm]
  refine .mk (rangeItem 0 n) _ (itr_range (n:=n) cd.handled (mset_self _ _ _) (small4 hn3)) (J1w m1 ta n us.length) (fun kc i ys m hI=>?_) (fun C outer' kc i ys mz l hI=>⟨by unfold rangeItem;simp,fun hdone D hD=>?_,fun v hv=>?_⟩) n
   ⟨[],us,by lia,rfl,rfl,(fun y hy=>nomatch hy),by rw[mset_ne (Ne.symm hrt)];exact hta1,Nat.le_refl _,fun b x _ e=>by rw[mset_ne (nex e hrg)];exact e⟩
  ·obtain⟨bs,ws,h1,rfl,h3,_⟩:=hI
   rw[vStrs_len];exact Nat.le_trans (show bs.length≤3 by lia) (by decide)
  ·obtain⟨bs,us2,h1,rfl,h3,h4,h5,h6,h7⟩:=hI
   have hj:¬ i<n:=fun q=>by unfold rangeItem at hdone;rw[if_pos q]at hdone;cases hdone
   refine⟨_,sub_refl _,?_⟩
   have off4:Off ta mem mz:=off1.trans h7
   have hl3:bs.length≤3:=by lia
   have hu4:=Nat.le_trans h6 hu1
   refine s_cons ?_
   refine Tr.locs (loc':=[("cell",.int cell),("words",.ref D)]) rfl ?_
   refine Tr.settleL (x:="words") rfl (Shift.lst (mset_self _ _ _) (sub_mset hD (sub_refl _)) hD) ?_
   refine Tr.locs (loc':=[("cell",.int cell),("words",.lst (vStrs bs))]) rfl ?_
   have wsb:WsOk bs:=⟨by lia,fun w hw=>List.mem_cons_of_mem _ (h4 w hw)⟩
   have hb5:∀ k:Nat,k≤5->k≤sizeLine:=fun k hk=>Nat.le_trans hk (by decide)
   have p4:=fmod_rng (a:=cell.fdiv 16) (b:=4) (by decide)
   refine s_if ?_;refine b_cmp rfl ?_;refine e_binop ?_;refine e_binop2 rfl rfl ?_
   refine fdiv_ii (by decide) (nopy (by decide)) ?_
   refine e_int ?_
   refine mod_ii (by decide) ?_
   refine e_int ?_;refine eq_ii ?_;refine tr_bool ?_
   refine⟨fun hb=>?_,fun hb=>?_⟩
   ·obtain⟨y,hy,he⟩:=at_mod TLS (by decide) (cell.fdiv 16)
    (refine nameQ ?_;intro qq ee;refine s_cons ?_);refine s_ret ?_;refine e_binop1 rfl ?_;refine e_list ?_;refine a_pu rfl ?_;refine a_cons rfl ?_;refine e_sub (fun _ _=>rfl) ?_;refine e_list ?_;refine a_pus rfl ?_
    refine new_lst (xs:=vStrs TLS) (show 4≤sizeLine by decide) ?_
    refine e_binop ?_;refine e_binop2 rfl rfl ?_
    refine fdiv_ii (by decide) (nopy (by decide)) ?_
    refine e_int ?_
    refine mod_ii (by decide) ?_
    refine sub_sq (x:=.str y) (.lst _) p4.1 (Int.lt_of_lt_of_le p4.2 (by decide)) he ?_
    refine a_nil ?_
    refine new_lst (xs:=vStrs [("%prec" : Str),y]) (show 2≤sizeLine by decide) ?_
    refine add_ll (.lst _) (.lst _) (hb5 _ (by rw[vStrs_len,vStrs_len];show bs.length+2≤5;lia)) ?_
    skip
    rw[show vStrs bs++vStrs [("%prec" : Str),y]=vStrs (bs++[("%prec" : Str),y]) from by unfold vStrs;rw[List.map_append]]
    refine⟨_,sub_refl _,h _ us2 _ ⟨by rw[List.length_append];show bs.length+2≤5;lia,fun w hw=>?_⟩ h5 hu4 off4⟩
    rcases List.mem_append.mp hw with hw|hw
    ·exact wsb.al w hw
    ·rcases List.mem_cons.mp hw with rfl|hw
     ·exact .head _
     ·rw[List.mem_singleton]at hw;rw[hw];exact tls_w y hy
   ·refine s_nil ?_;refine s_cons ?_;refine s_if ?_;refine b_cmp rfl ?_;refine e_binop ?_;refine e_binop2 rfl rfl ?_
    refine fdiv_ii (by decide) (nopy (by decide)) ?_
    refine e_int ?_
    refine mod_ii (by decide) ?_
    refine e_int ?_;refine eq_ii ?_;refine tr_bool ?_
    refine⟨fun hb2=>?_,fun hb2=>?_⟩
    ·have p5:=fmod_rng (a:=cell.fdiv 16) (b:=((vStrs bs).length:Int)+1) (by lia)
     obtain⟨k,hk⟩:∃ k:Nat,(cell.fdiv 16).fmod (((vStrs bs).length:Int)+1)=(k:Int):=⟨((cell.fdiv 16).fmod _).toNat,(Int.toNat_of_nonneg p5.1).symm⟩
     have hk3:k≤bs.length:=by rw[hk,vStrs_len]at p5;lia
     (refine nameQ ?_;intro qq ee;refine s_cons ?_);refine s_assign1 rfl rfl rfl ?_;refine e_binop ?_;refine e_binop2 rfl rfl ?_
     refine fdiv_ii (by decide) (nopy (by decide)) ?_
     refine e_binop ?_;refine c_bltN hK (fun _=>rfl) rfl rfl ?_;refine a_pus rfl ?_
     refine len_sq (.lst _) (by rw[vStrs_len];lia) ?_
     refine e_int ?_;refine add_ii ?_
     refine mod_ii (by rw[vStrs_len];lia) ?_
     rw[hk]
     refine s_cons ?_;refine s_ret ?_;refine e_binop ?_;refine e_binop ?_;refine e_slice ?_;refine pu rfl ?_;refine pu rfl ?_
     refine⟨k,rfl,?_⟩
     refine⟨_,_,.lst _,PySem.F.slot_list_getitem.lookup,?_⟩
     refine slice_upto (xs:=vStrs bs) (k:=k) (.lst _) (by rw[vStrs_len];exact hb5 _ (by lia)) ?_
     refine e_list ?_;refine a_pus rfl ?_
     refine new_lst (xs:=vStrs [("%prec" : Str)]) (show 1≤sizeLine by decide) ?_
     refine add_ll (.lst _) (.lst _) (hb5 _ (by rw[List.length_take,vStrs_len,vStrs_len];show min k bs.length+1≤5;lia)) ?_
     refine e_slice ?_;refine pu rfl ?_;refine pu rfl ?_
     refine⟨k,rfl,?_⟩
     skip
     refine⟨_,_,.lst _,PySem.F.slot_list_getitem.lookup,?_⟩
     refine slice_from (xs:=vStrs bs) (k:=k) (.lst _) (by rw[vStrs_len];exact hb5 _ (by lia)) (by rw[vStrs_len];exact hk3) ?_
     refine add_ll (.lst _) (.lst _) (hb5 _ (by rw[List.length_append,List.length_take,List.length_drop,vStrs_len,vStrs_len];show min k bs.length+1+(bs.length - k)≤5;lia)) ?_
     skip
     rw[show(vStrs bs).take k++vStrs [("%prec" : Str)]++(vStrs bs).drop k=vStrs (bs.take k++[("%prec" : Str)]++bs.drop k) from by unfold vStrs;rw[List.map_append,List.map_append,List.map_take,List.map_drop]]
     refine⟨_,sub_refl _,h _ us2 _ ⟨by rw[List.length_append,List.length_append,List.length_take,List.length_drop];show min k bs.length+1+(bs.length - k)≤5;lia,fun w hw=>?_⟩ h5 hu4 off4⟩
     rcases List.mem_append.mp hw with hw|hw
     ·rcases List.mem_append.mp hw with hw|hw
      ·exact wsb.al w (List.mem_of_mem_take hw)
      ·rw[List.mem_singleton]at hw;rw[hw];exact .head _
     ·exact wsb.al w (List.mem_of_mem_drop hw)
    ·refine s_nil ?_;refine s_cons ?_;refine s_ret1 rfl ?_
     refine⟨_,sub_refl _,h _ us2 _ wsb h5 hu4 off4⟩
  ·obtain⟨bs,ws,h1,rfl,h3,h4,h5,h6,h7⟩:=hI
   have hj:i<n:=by
    unfold rangeItem at hv;split at hv
    ·assumption
    ·cases hv
   obtain⟨y,hy,he⟩:=at_mod WORDS (by decide) (tNext ws).1
   have r7:=fmod_rng (a:=(tNext ws).1) (b:=16) (by decide)
   have hT3:=h7 _ _ nLt hT1
   refine asg_name1 rfl rfl ?_
   refine e_sub (fun _ _=>rfl) ?_
   refine e_top (v:=.lst (vStrs WORDS)) rfl rfl rfl rfl (by rw[hK];rfl) (fun F hF=>wordsV hK hF) ?_
   refine e_binop ?_;refine c_topN hK (fun _=>rfl) (fun _=>rfl) rfl rfl ?_;refine a_cons rfl ?_;refine e_cell rfl rfl rfl rfl (by first|assumption|simp[mset_self]) ?_;refine a_nil ?_
   refine next_spec hK (cd.mono (by decide) (by decide)) h5 (by lia) ?_
   refine e_int ?_
   refine mod_ii (by decide) ?_
   refine sub_sq (x:=.str y) (.lst _) r7.1 (Int.lt_of_lt_of_le r7.2 (by decide)) he ?_
   skip
   refine⟨kc - 1,by lia,bs++[y],(tNext ws).2,by lia,by unfold vStrs;rw[List.map_append];rfl,by rw[List.length_append,h3];rfl,fun z hz=>?_,mset_self _ _ _,Nat.le_trans (tNext_len ws) h6,h7.trans (off_set _)⟩
   rcases List.mem_append.mp hz with hz|hz
   ·exact h4 z hz
   ·rw[List.mem_singleton]at hz;rw[hz];exact hy
end
noncomputable def runT{α:Type}(lt:Nat->Nat->Bool):KasT α->α
 | .ret a=>a
 | .ask i j k=>runT lt (k (lt i j))
noncomputable def goodT{α:Type}(n:Nat):KasT α->Bool
 | .ret _=>true
 | .ask i j k=>decide (i<n)&&decide (j<n)&&decide (i≠j)&&goodT n (k true)&&goodT n (k false)
theorem runT_wp{α:Type}{n:Nat}{lt:Nat->Nat->Bool}{cmp:Nat->Nat->(Bool->Shared->Prop)->Shared->Prop}{s:Shared}{Q:α->Shared->Prop}(hc:∀ i j,i<n->j<n->i≠j->∀ C:Bool->Shared->Prop,C (lt i j) s->cmp i j C s) :
  ∀ (t:KasT α),goodT n t=true->Q (runT lt t) s->t.kasWp cmp Q s
 | .ret a,_,h=>h
 | .ask i j k,g,h=>by
  have g':(decide (i<n)&&decide (j<n)&&decide (i≠j)&&goodT n (k true)&&goodT n (k false))=true:=g
  rw[Bool.and_eq_true,Bool.and_eq_true,Bool.and_eq_true,Bool.and_eq_true]at g'
  obtain⟨⟨⟨⟨g1,g2⟩,g3⟩,g4⟩,g5⟩:=g'
  have h':Q (runT lt (k (lt i j))) s:=h
  refine hc i j (of_decide_eq_true g1) (of_decide_eq_true g2) (of_decide_eq_true g3) _ ?_
  cases hb:lt i j with
  | true=>rw[hb]at h';exact runT_wp hc (k true) g4 h'
  | false=>rw[hb]at h';exact runT_wp hc (k false) g5 h'
theorem good_sort:∀ n:Fin 7,2≤n.1->goodT n.1 (kas_sort n.1)=true:=by decide +kernel
noncomputable def ltP(ps:List (Str×Str))(i j:Nat):Bool:=decide ((ps.getD i ("","")).1.cps.toList<(ps.getD j ("","")).1.cps.toList)
noncomputable def permP(ps:List (Str×Str)):List Nat:=if 2≤ps.length then(runT (ltP ps) (kas_sort ps.length)).toList else List.range ps.length
noncomputable def sortP(ps:List (Str×Str)):List (Str×Str):=(permP ps).map fun i=>ps.getD i ("","")
noncomputable def allT{α:Type}(P:α->Bool):KasT α->Bool
 | .ret a=>P a
 | .ask i j k=>allT P (k true)&&allT P (k false)
theorem allT_run{α:Type}{P:α->Bool}{lt:Nat->Nat->Bool}:∀ (t:KasT α),allT P t=true->P (runT lt t)=true
 | .ret a,h=>h
 | .ask i j k,h=>by
  have h':(allT P (k true)&&allT P (k false))=true:=h
  rw[Bool.and_eq_true]at h'
  show P (runT lt (k (lt i j)))=true
  cases hb:lt i j with
  | true=>exact allT_run (k true) h'.1
  | false=>exact allT_run (k false) h'.2
theorem in_sort:∀ n:Fin 7,2≤n.1->allT (fun p=>p.toList.all fun i=>decide (i<n.1)) (kas_sort n.1)=true:=by decide +kernel
theorem permP_lt{ps:List (Str×Str)}(hz:ps.length≤6):∀ i∈permP ps,i<ps.length:=by
 intro i hi
 unfold permP at hi
 by_cases h2:2≤ps.length
 ·rw[if_pos h2]at hi
  have:=allT_run (lt:=ltP ps) _ (in_sort ⟨ps.length,by omega⟩ h2)
  rw[List.all_eq_true]at this
  exact of_decide_eq_true (this i hi)
 ·rw[if_neg h2]at hi
  exact List.mem_range.mp hi
noncomputable def pairS(p:Str×Str):V:=.tup [.str p.1,.str p.2]
inductive PTups(h:Heap)(a:Addr):List Value->List (Str×Str)->Prop
 | nil:PTups h a [] []
 | cons {b:Addr} {o:Obj} {n:Nat} {t u:Tok} {x y:Str} {vs:List Value} {ps:List (Str×Str)}:b≠a->h.get? b=some o->o.cls = .type "tuple"->o.data = .seq #[.str x t,.str y u] n->PTups h a vs ps->PTups h a (.ref b::vs) ((x,y)::ps)
theorem PTups.len{h:Heap}{a:Addr}{vs:List Value}{ps:List (Str×Str)}(T:PTups h a vs ps):vs.length=ps.length:=by
 induction T with
 | nil=>rfl
 | cons _ _ _ _ _ ih=>rw[List.length_cons,List.length_cons,ih]
theorem PTups.kat{h h':Heap}{a:Addr}{vs:List Value}{ps:List (Str×Str)}(T:PTups h a vs ps)(hk:∀ b o,b≠a->h.get? b=some o->h'.get? b=some o):∃ fs,KatTups h' vs fs/\fs.length=ps.length/\∀ v∈fs,∃ x t,v = .str x t:=by
 induction T with
 | nil=>exact⟨[],.nil,rfl,fun v hv=>nomatch hv⟩
 | cons hb ho hc hd _ ih=>
  obtain⟨fs,k,l,q⟩:=ih
  rename_i t u x y vs ps T
  refine⟨.str x t::fs,.cons (hk _ _ hb ho) hc hd rfl k,by rw[List.length_cons,List.length_cons,l],fun v hv=>?_⟩
  rcases List.mem_cons.mp hv with rfl|hv
  ·exact⟨_,_,rfl⟩
  ·exact q v hv
theorem PTups.at{h:Heap}{a:Addr}{vs:List Value}{ps:List (Str×Str)}(T:PTups h a vs ps):∀ {i:Nat},i<ps.length->∃ b o n t u,vs.getD i Value.none = .ref b/\b≠a/\h.get? b=some o/\o.data = .seq #[.str (ps.getD i ("","")).1 t,.str (ps.getD i ("","")).2 u] n:=by
 induction T with
 | nil=>intro i hi;exact absurd hi (Nat.not_lt_zero _)
 | cons hb ho hc hd _ ih=>
  intro i hi
  cases i with
  | zero=>exact⟨_,_,_,_,_,rfl,hb,ho,hd⟩
  | succ i=>exact ih (Nat.lt_of_succ_lt_succ hi)
theorem nodup_at{ps:List (Str×Str)}(nd:(ps.map (·.1)).Nodup){i j:Nat}(hi:i<ps.length)(hj:j<ps.length)(e:i≠j):(ps.getD i ("","")).1≠(ps.getD j ("","")).1:=by
 rw[List.getD_eq_getElem?_getD,List.getD_eq_getElem?_getD,List.getElem?_eq_getElem hi,List.getElem?_eq_getElem hj,Option.getD_some,Option.getD_some]
 have pw:=List.pairwise_iff_getElem.mp nd
 rcases Nat.lt_or_gt_of_ne e with l|l
 ·have:=pw i j (by rw[List.length_map];exact hi) (by rw[List.length_map];exact hj) l
  rw[List.getElem_map,List.getElem_map]at this;exact this
 ·have:=pw j i (by rw[List.length_map];exact hj) (by rw[List.length_map];exact hi) l
  rw[List.getElem_map,List.getElem_map]at this;exact Ne.symm this
section
variable {prog:Program}{w:World}{A:Around}{E:Value->Shared->Prop}{s:Shared}
theorem list_sort_pairs{a:Addr}{vs:List Value}{n:Nat}{ps:List (Str×Str)}{P:PySem.Fin->Shared->Prop}(ho:s.heap.get? a=some (seqObj "list" vs.toArray n))(T:PTups s.heap a vs ps)(nd:(ps.map (·.1)).Nodup)(hz:ps.length≤6)
  (h:P (.done (.ret .none)) { s with heap:=sortedHeap s.heap a vs (List.toArray ((permP ps).map fun i=>vs.getD i Value.none)) }) :
  wpAny (model prog w) A (Builtin.«list.sort» ⟨[.ref a],[]⟩) P E s:=by
 rw[list_sort_plain]
 have ha:a<s.heap.objs.size:=Heap.lt_size ho
 have hvl:=T.len
 refine wpAny_bind (listItems_at ho rfl ?_)
 refine wpAny_bind (listUpdate_at ho rfl ?_ (by rw[List.size_toArray,sizeLine_eq];omega) (Nat.zero_le _))
 obtain⟨e1,ho1⟩:∃ e1,(s.heap.update a (Obj.mapSeq fun _=>#[])).get? a=some (seqObj "list" #[] e1):=⟨_,get?_update_seq ho (fun _=>#[])⟩
 refine wpAny_bind (seqEpoch_at ho1 rfl ?_)
 refine wpAny_bind (wpAny_newTuple ?_ (by show vs.length≤_;rw[sizeLine_eq];omega))
 refine wpAny_bind (wpAny_newList ?_ (Nat.zero_le _))
 refine wpAny_holding ?_
 have ho6:(((s.heap.update a (Obj.mapSeq fun _=>#[])).push (seqObj "tuple" vs.toArray 0)).push (seqObj "list" #[] 0)).get? a=some (seqObj "list" #[] e1):=by
  rw[Heap.get?_push_ne _ _ _ (by rw[size_push',Heap.size_update];exact Nat.ne_of_lt (Nat.lt_succ_of_lt ha)),Heap.get?_push_ne _ _ _ (by rw[Heap.size_update];exact Nat.ne_of_lt ha)]
  exact ho1
 have hk:∀ b o,b≠a->s.heap.get? b=some o->(((s.heap.update a (Obj.mapSeq fun _=>#[])).push (seqObj "tuple" vs.toArray 0)).push (seqObj "list" #[] 0)).get? b=some o:=fun b o hb e=>Heap.get?_push_of_some _ (Heap.get?_push_of_some _ (by rw[Heap.get?_update_ne _ _ _ _ hb];exact e))
 show wpAny (model prog w) A _ P E { s with heap:=((s.heap.update a (Obj.mapSeq fun _=>#[])).push (seqObj "tuple" vs.toArray 0)).push (seqObj "list" #[] 0) }
 dsimp only
 have hsz:vs.toArray.size=vs.length:=by simp
 by_cases h2:vs.toArray.size<2
 ·rw[if_pos h2,if_pos h2]
  refine wpAny_bind (wpAny_pure ?_)
  rw[StateT.run_pure]
  refine wpAny_bind (wpAny_pure ?_)
  dsimp only
  have hout:(arrOf (SortSt.mk' general' (vs.toArray.zip vs.toArray) #[] 7 none)).map (·.2)=List.toArray ((permP ps).map fun i=>vs.getD i Value.none):=by
   have hp:permP ps=List.range vs.length:=by unfold permP;rw[if_neg (by omega),hvl]
   rw[hp]
   refine kat_snds (ks:=vs) (vs:=vs) rfl (p:=List.toArray (List.range vs.length)) ?_
   have e:=kas_range (vs.toArray.zip vs.toArray)
   rw[show(vs.toArray.zip vs.toArray).size=vs.length by simp]at e
   exact e.symm
  refine wpAny_bind (seqEpoch_at ho6 rfl ?_)
  refine wpAny_bind (listUpdate_at ho6 rfl ?_ (Nat.zero_le _) (by rw[Array.size_map];show(pairsOf vs).size≤_;rw[pairsOf_size,sizeLine_eq];omega))
  rw[hout]
  simp only [bne_self_eq_false,Bool.false_eq_true,if_false]
  exact wpAny_pure h
 ·rw[if_neg h2,if_neg h2]
  obtain⟨fs,K,kl,ks⟩:=T.kat hk
  refine wpAny_bind (kat_kind (T:=.type "str") K (by omega) (fun v hv=>?_) (by decide) ?_)
  ·obtain⟨x,t,rfl⟩:=ks v hv
   exact Looks.now
  have hp:permP ps=(runT (ltP ps) (kas_sort ps.length)).toList:=by unfold permP;rw[if_pos (by omega)]
  have run:=kat_run (prog:=prog) (w:=w) (A:=A) (E:=E) (κ:=tuples' ((Value.type "str") != Value.type "tuple")) (ks:=vs) (vs:=vs)
   (s:={ s with heap:=((s.heap.update a (Obj.mapSeq fun _=>#[])).push (seqObj "tuple" vs.toArray 0)).push (seqObj "list" #[] 0) })
   (Q:=fun st' s'=>s'={ s with heap:=((s.heap.update a (Obj.mapSeq fun _=>#[])).push (seqObj "tuple" vs.toArray 0)).push (seqObj "list" #[] 0) }/\failedOf st'=none/\(permP ps).length=vs.length/\(arrOf st').map (·.2)=List.toArray ((permP ps).map fun i=>vs.getD i Value.none))
   (G:=fun p s'=>s'={ s with heap:=((s.heap.update a (Obj.mapSeq fun _=>#[])).push (seqObj "tuple" vs.toArray 0)).push (seqObj "list" #[] 0) }/\p.toList=permP ps)
   rfl (by omega) (by omega) (fun p st' s' a1 a2 a3 a4=>⟨a4.1,a3,by rw[<-a4.2,Array.length_toList,a1],by rw[kat_snds rfl a2,a4.2]⟩) (by
    rw[hvl]
    refine runT_wp (n:=ps.length) (lt:=ltP ps) (fun i j hi hj hij C hC=>?_) _ (good_sort ⟨ps.length,by omega⟩ (show 2≤ps.length by omega)) ⟨rfl,hp.symm⟩
    obtain⟨b,o,n1,t,u,e1,hb,hob,hd⟩:=T.at hi
    obtain⟨b2,o2,n2,t2,u2,e2,hb2,hob2,hd2⟩:=T.at hj
    unfold kas_ask
    rw[e1,e2]
    refine kat_lt (hk _ _ hb hob) hd (hk _ _ hb2 hob2) hd2 ?_
    refine kat_cons (eqBool_str ?_)
    rw[show((ps.getD i ("","")).1==(ps.getD j ("","")).1)=false from beq_false_of_ne (nodup_at nd hi hj hij)]
    exact kat_no (oneLt_str hC))
  refine wpAny_bind (wpAny_mono run ?_ fun _ _ e=>e)
  rintro⟨⟨⟩,st'⟩ s' ⟨rfl,hf,hpl,hout⟩
  dsimp only
  refine wpAny_bind (seqEpoch_at ho6 rfl ?_)
  rw[hout]
  refine wpAny_bind (listUpdate_at ho6 rfl ?_ (Nat.zero_le _) (by rw[List.size_toArray,List.length_map,hpl,sizeLine_eq];omega))
  rw[hf]
  simp only [bne_self_eq_false,Bool.false_eq_true,if_false]
  exact wpAny_pure h
theorem ptups_of{W:Wd}{F:Frz}{h:Heap}{a:Addr}(hF:∀ b o,F b o->b≠a/\h.get? b=some o):∀ {ps:List (Str×Str)} {vs:List Value},VRs W F (ps.map pairS) vs->PTups h a vs ps
 | [],vs,r=>by obtain rfl:=r.isNil;exact .nil
 | p::ps,vs,r=>by
  obtain⟨v,us,r1,r2,rfl⟩:=r.isCons
  cases r1.view with
  | tup f q=>
   rename_i b xs n
   obtain⟨_,_,q1,q2,e⟩:=q.isCons
   obtain⟨_,_,q3,q4,rfl⟩:=q2.isCons
   obtain rfl:=q4.isNil
   obtain⟨t,rfl⟩:=q1.isStr
   obtain⟨u,rfl⟩:=q3.isStr
   obtain rfl:xs = #[.str p.1 t,.str p.2 u]:=by rw[<-Array.toArray_toList (xs:=xs),e]
   exact .cons (hF _ _ f).1 (hF _ _ f).2 rfl rfl (ptups_of hF r2)
theorem adjust_upto(k n:Nat)(hk:k≤n):Builtin.Slice.sliceAdjust none (some (k:Int)) 1 (n:Int)=(0,(k:Int)):=by
 unfold Builtin.Slice.sliceAdjust
 have h1:¬ ((1:Int)<0):=by omega
 have h2:¬ ((k:Int)<0):=by omega
 simp only [h1,h2,if_false]
 congr 1
 omega
theorem places_upto(k:Nat):Builtin.Slice.slicePlaces 0 (k:Int) 1=k:=by
 unfold Builtin.Slice.slicePlaces
 have h1:(1:Int) > 0:=by omega
 simp only [h1,if_true,Int.ediv_one]
 split<;>omega
theorem sliceApplied_upto{sl:Addr}{k n:Nat}{u:Tok}{Q:Int×Int×Nat->Shared->Prop}(hs:s.heap.IsSliceOf sl .none (.int k u) .none)(ha:k≤n)(h:Q (0,1,k) s) :
  wpAny (model prog w) A (Builtin.Slice.sliceApplied (.ref sl) (pure (n:Int))) Q E s:=by
 obtain⟨os,hos,hcs,hds⟩:=id hs
 unfold Builtin.Slice.sliceApplied Builtin.Slice.sliceFields
 refine wpAny_bind (wpAny_bind (wpAny_field hos hds (x:=.none) rfl (wpAny_bind (wpAny_field hos hds (x:=.int k u) rfl (wpAny_bind (wpAny_field hos hds (x:=.none) rfl (wpAny_pure ?_)))))))
 refine wpAny_bind (slicePart_none ?_)
 show wpAny _ _ (if ((1:Int)==0)=true then _ else _) _ _ s
 rw[if_neg (by decide)]
 refine wpAny_bind (slicePart_none (wpAny_bind (slicePart_int (wpAny_bind (wpAny_pure ?_)))))
 show wpAny _ _ (match Builtin.Slice.sliceAdjust none (some (k:Int)) 1 (n:Int) with|(lo,hi)=>pure (lo,(1:Int),Builtin.Slice.slicePlaces lo hi 1)) _ _ s
 rw[adjust_upto k n ha]
 show wpAny _ _ (pure ((0:Int),(1:Int),Builtin.Slice.slicePlaces 0 (k:Int) 1)) _ _ s
 rw[places_upto k]
 exact wpAny_pure h
theorem pick_upto'(xs:Array Value)(k:Nat)(hk:k≤xs.size):((List.range k).filterMap fun(j:Nat)=>xs[((0:Int)+(j:Int)*1).toNat]?).toArray=(xs.toList.take k).toArray:=by
 congr 1
 refine List.ext_getElem? fun i=>?_
 have e:(fun(j:Nat)=>xs[((0:Int)+(j:Int)*1).toNat]?)=fun j=>xs.toList[j]?:=by
  funext j
  have:((0:Int)+(j:Int)*1).toNat=j:=by omega
  rw[this,Array.getElem?_toList]
 rw[e]
 have hk':k≤xs.toList.length:=by rw[Array.length_toList];exact hk
 generalize xs.toList=l at hk'
 have:∀ (k:Nat),k≤l.length->(List.range k).filterMap (fun j=>l[j]?)=l.take k:=by
  intro k
  induction k with
  | zero=>intro _;rfl
  | succ k ih=>
   intro hk
   rw[List.range_succ,List.filterMap_append,ih (by omega),List.take_add_one,List.filterMap_cons,List.getElem?_eq_getElem (by omega)]
   rfl
 rw[this k hk']
theorem getItem_tuple_upto{t sl:Addr}{items:Array Value}{k:Nat}{u:Tok}{Q:Value->Shared->Prop}(ht:IsTup s.heap t items)(hs:s.heap.IsSliceOf sl .none (.int k u) .none)(hk:k<items.size)
  (h:Q (.ref s.heap.objs.size) { s with heap:=s.heap.push { cls:=.type "tuple",data:=.seq (items.toList.take k).toArray } })
  (hsz:items.size≤sizeLine):wpAny (model prog w) A (getItem (.ref t) (.ref sl)) Q E s:=by
 have hdrop:sizeOk (.seq (items.toList.take k).toArray):=by
  show(items.toList.take k).toArray.size≤sizeLine
  rw[List.size_toArray,List.length_take,Array.length_toList]
  omega
 obtain⟨os,hos,hcs,hds⟩:=id hs
 have hTs:s.TypeIs (.ref sl) "slice":=⟨os,hos,hcs⟩
 unfold getItem
 try with_reducible refine wpAny_holding ?_
 first|refine wpAny_bind (wpAny_pure ?_)|skip
 refine wpAny_bind (wpAny_sequenceKey ht.typeIs (by decide) ?_)
 refine wpAny_bind (wpAny_callSpecial?_slot (name:=Str.ofString "__getitem__") ht.typeIs slot_tuple_getitem
  (wpAny_call_entry slot_tuple_getitem ht.typeIs entry_tuple_getitem ?_ (args_tuple_getitem _ _)))
 show wpAny _ _ (Builtin.Tuple.tupleItemsOf (.ref t) >>= _) _ _ s
 refine wpAny_bind (tupleItemsOf_ ht ?_)
 refine wpAny_bind (wpAny_typeOf hTs ?_)
 rw[if_pos (by decide)]
 refine wpAny_bind (sliceApplied_upto hs (Nat.le_of_lt hk) ?_)
 have hno:¬ (((0:Int)==0&&(1:Int)==1&&k==items.size)=true):=by
  have:(k==items.size)=false:=by rw[beq_eq_false_iff_ne];omega
  rw[this];simp
 show wpAny _ _ (if ((0:Int)==0&&(1:Int)==1&&k==items.size)=true then _ else _) _ _ s
 rw[if_neg hno,pick_upto' items k (Nat.le_of_lt hk)]
 first
  | exact wpAny_bind (m:=Builtin.Tuple.tupleExact _) (wpAny_newObj_type (wpAny_pure ⟨_,rfl,wpAny_pure h⟩) hdrop)
  | exact wpAny_bind (m:=Builtin.Tuple.tupleExact _) (wpAny_newObj_type (wpAny_bind (wpAny_pure (wpAny_pure ⟨_,rfl,wpAny_pure h⟩))) hdrop)
  | exact wpAny_bind (wpAny_bind (m:=Builtin.Tuple.tupleExact _) (wpAny_newObj_type (wpAny_pure (wpAny_pure ⟨_,rfl,wpAny_pure h⟩)) hdrop))
  | exact wpAny_bind (wpAny_bind (m:=Builtin.Tuple.tupleExact _) (wpAny_newObj_type (wpAny_pure ⟨_,rfl,wpAny_pure h⟩) hdrop))
end
section
variable {W:Wd}{A:Around}{env:Env}{outer:Outs}{loc:Loc}{mem R:Mem}{E:Ex W}{F:Frz}{s:Shared}
theorem sorted_pairs{v:V}{ps:List (Str×Str)}{Q:V->Loc->Mem->Prop}(q:Sq mem v "list" (ps.map pairS))(nd:(ps.map (·.1)).Nodup)(hz:ps.length≤6)(h:∀ D,mem D=none->Q (.ref D) loc (mset mem D (.list ((sortP ps).map pairS)))) :
  OpV W A env outer (fun vs=>call (.builtin "sorted") vs) [v] loc mem Q E:=op1 fun R F s v' S r=>by
 obtain⟨a,vs,n,rfl,ho,rs⟩:=q.at S r
 have hlen:vs.toList.length=ps.length:=by rw[rs.length,List.length_map]
 refine Calls.call_function_entry kind_sorted plain_sorted entry_sorted (args_sorted1 _) ?_
 unfold Builtin.«sorted»
 refine wpAny_bind (m:=checkCount "sorted" 1 1 _) (wpAny_pure ?_)
 refine wpAny_bind (collect_list (vs:=vs.toList) ⟨_,ho,rfl,n,rfl⟩ ?_ (by rw[sizeLine_eq];omega))
 have hk1:=col_keep a vs.toList s.heap
 generalize ((s.heap.push (seqObj "list" #[] 0)).update s.heap.objs.size (Obj.mapSeq (·++vs.toList.toArray)))=h1 at hk1 ⊢
 refine wpAny_bind (wpAny_newList ?_ (by rw[sizeLine_eq];omega))
 have hoL:(h1.push (seqObj "list" vs.toList.toArray 0)).get? h1.objs.size=some (seqObj "list" vs.toList.toArray 0):=Heap.get?_push_size _ rfl
 have hnone:s.heap.get? h1.objs.size=none:=by
  cases q:s.heap.get? h1.objs.size with
  | none=>rfl
  | some o=>have:=hk1 _ _ q;rw[get?_size]at this;cases this
 have T:PTups (h1.push (seqObj "list" vs.toList.toArray 0)) h1.objs.size vs.toList ps:=ptups_of (W:=W) (F:=F) (fun b o f=>by
  have e:=S.frz _ _ f
  exact⟨fun q=>(by rw[q,hnone]at e;cases e),Heap.get?_push_of_some _ (hk1 _ _ e)⟩) rs
 show wpAny _ _ _ _ _ { s with heap:=h1.push (seqObj "list" vs.toList.toArray 0) }
 refine wpAny_bind (wpAny_holding (wpAny_call_entry slot_list_sort ⟨_,hoL,rfl⟩ entry_list_sort (list_sort_pairs hoL T nd hz ⟨_,rfl,?_⟩) (args_list_sort _)))
 obtain⟨e,he⟩:=sortedHeap_at (vs:=vs.toList) (out:=List.toArray ((permP ps).map fun i=>vs.toList.getD i Value.none)) hoL
 have hle:W.hb.objs.size≤h1.objs.size:=(S.grow (t:=s.toks) (d:=s.drawn) hk1).size_le
 have hold:∀ b o,s.heap.get? b=some o->(sortedHeap (h1.push (seqObj "list" vs.toList.toArray 0)) h1.objs.size vs.toList (List.toArray ((permP ps).map fun i=>vs.toList.getD i Value.none))).get? b=some o:=fun b o eb=>by
  have hb:=hk1 b o eb
  have hlt:=Heap.lt_size hb
  rw[sortedHeap_old (Nat.ne_of_lt hlt) (by rw[Heap.size_push];exact Nat.lt_succ_of_lt hlt)]
  exact Heap.get?_push_of_some _ hb
 refine wpAny_pure ⟨_,rfl,?_⟩
 refine Post.mk (.ref _) (S.alloc (t:=s.toks) (d:=s.drawn) (x:=.list ((sortP ps).map pairS)) hnone hle hold he (.list ?_)) (h _ (S.free hnone).1)
 show VRs W F ((sortP ps).map pairS) ((permP ps).map fun i=>vs.toList.getD i Value.none)
 have hin:∀ i∈permP ps,i<ps.length:=permP_lt hz
 unfold sortP
 generalize permP ps=l at hin ⊢
 induction l with
 | nil=>exact .nil
 | cons i l ih=>
  have hi:=hin i (.head _)
  refine .cons ?_ (ih fun j hj=>hin j (.tail _ hj))
  obtain⟨v,hv,r⟩:=rs.get (i:=i) (x:=pairS (ps.getD i ("",""))) (by rw[List.getElem?_map,List.getElem?_eq_getElem hi,List.getD_eq_getElem?_getD,List.getElem?_eq_getElem hi];rfl)
  show VR W F (pairS (ps.getD i ("",""))) (vs.toList.getD i Value.none)
  rw[List.getD_eq_getElem?_getD (l:=vs.toList),hv];exact r
theorem getA_mem{es:List (Str×V)}(h:(es.map (·.1)).Nodup){q:Str×V}(hq:q∈es):getA es q.1=some q.2:=by
 induction es with
 | nil=>cases hq
 | cons p es ih=>
  rw[List.map_cons,List.nodup_cons]at h
  unfold getA at ih ⊢
  rw[List.find?_cons]
  rcases List.mem_cons.mp hq with rfl|hq
  ·simp
  ·have:¬ p.1=q.1:=fun e=>h.1 (e▸List.mem_map_of_mem hq)
   simp only [this,decide_false]
   exact ih h.2 hq
theorem ne_dicts{a b:Addr}{es:List (Str×V)}{ea eb n:Nat}{Q:V->Loc->Mem->Prop}(h1:mem a=some (.dict es ea))(h2:mem b=some (.dict es eb))(nd:(es.map (·.1)).Nodup)(hd:∀ q∈es,isD n q.2=true)(hn:n≤64)(hu:A.units+70<cLine)(h:Q (.bool false) loc mem) :
  OpV W A env outer (fun|[x,y]=>compareOp .NotEq x y|_=>pure .none) [.ref a,.ref b] loc mem Q E:=op2 fun R F s v u S r1 r2=>by
 obtain rfl:=r1.isRef;obtain rfl:=r2.isRef
 obtain⟨ka,da,qa⟩:=S.dict h1
 obtain⟨kb,db,qb⟩:=S.dict h2
 have hl:ka.length=kb.length:=by rw[qa.length,qb.length]
 refine keq_ne (knd:=strKind W.prog W.w) (r:=true) (S.not_modules h1) (S.not_modules h2) da db (by lia) (fun _=>?_) (by rw[hl];simp only [BEq.rfl,Bool.and_self,Bool.not_true];exact Post.mk (.bool _) S h)
 have key:∀ (es':List (Str×V)) (ka':List (Str×Value)),(∀ q∈es',q∈es)->VRp W F es' ka'->KeqHits A.in1 s kb ka' true:=by
  intro es' ka' hs r
  induction es' generalizing ka' with
  | nil=>cases r.view;exact .nil
  | cons p es' ih=>
   cases r with
   | @cons k x v xs vs r1 r2=>
    obtain⟨y,hy,ry⟩:=(qb.get k).1 x (getA_mem nd (hs _ (.head _)))
    have hx:=hd _ (hs _ (.head _))
    obtain⟨as,ra⟩:=VR.reads S.frz hx r1
    obtain⟨bs,rb⟩:=VR.reads S.frz hx ry
    have e:=keq_at (A:=A) ra rb (isD_shaped hx hn) (isD_shaped hx hn) (by show A.units+1+64<cLine;lia)
    rw[<-SeqAt.same_eq_eqv _ _ (isD_noMix hx hx),(same_iff hx hx).mpr rfl]at e
    exact .hit hy e (ih vs (fun q hq=>hs q (.tail _ hq)) r2)
 exact key es ka (fun q hq=>hq) qa
theorem slice_butLast{v:V}{xs:List V}{k:Nat}{Q:V->Loc->Mem->Prop}(q:Sq mem v "list" xs)(hz:xs.length≤sizeLine)(hk:1≤k)(h:Q (.lst (xs.take (xs.length - k))) loc mem):SliceAt W A env outer v none (some (-(k:Int))) loc mem Q E:=
 slice_listL q hz (fun us hl F r=>by rw[slicePick_butLast _ _ hk];show VRs W F _ (us.take (us.length - k));rw[hl];exact r.take _) h
theorem slice_last{v:V}{xs:List V}{k:Nat}{Q:V->Loc->Mem->Prop}(q:Sq mem v "list" xs)(hz:xs.length≤sizeLine)(hk:1≤k)(h:Q (.lst (xs.drop (xs.length - k))) loc mem):SliceAt W A env outer v (some (-(k:Int))) none loc mem Q E:=
 slice_listL q hz (fun us hl F r=>by rw[slicePick_last _ _ hk];show VRs W F _ (us.drop (us.length - k));rw[hl];exact r.drop _) h
theorem slice_tupUpto{xs:List V}{k:Nat}{Q:V->Loc->Mem->Prop}(hz:xs.length≤sizeLine)(hk:k<xs.length)(h:Q (.tup (xs.take k)) loc mem):SliceAt W A env outer (.tup xs) none (some (k:Int)) loc mem Q E:=fun R F s o' l' u' sl S r pl pu hs=>by
 obtain⟨a,vs,n,rfl,ho,rs⟩:=(Sq.tup (mem:=mem) xs).at S r
 cases pl;cases pu
 refine getItem_tuple_upto (items:=vs) ⟨_,ho,rfl,n,rfl⟩ hs (by rw[rs.size];exact hk) ?_ (by rw[rs.size];exact hz)
 have S':=S.freeze (t:=s.toks) (d:=s.drawn) (o':={ cls:=.type "tuple",data:=.seq (vs.toList.take k).toArray }) (get?_size s.heap) (fun b o e=>Heap.get?_push_of_some _ e) (Heap.get?_push_size _ rfl)
 refine⟨_,.tup (xs.take k),loc,mem,Incl.fadd _ _ _,.tup (.inr ⟨rfl,rfl⟩) ?_,S',h⟩
 have:=(rs.mono (Incl.fadd F s.heap.objs.size { cls:=.type "tuple",data:=.seq (vs.toList.take k).toArray })).take k
 simpa using this
theorem len_own{v:V}{C f:Addr}{es:List (Str×V)}{Q:V->Loc->Mem->Prop}(I:Inst W mem v C es)(hs:findIn W.K (.ref C) "__len__" = some (some (.ref f)))(hf:isFn W.K (.ref f)=true)
  (h:OpV W A.in1 env outer (fun vs=>call (.ref f) vs) [v] loc mem (fun r l m=>∃ n:Int,r = .int n/\0≤n/\n<2 ^ 63/\Q (.int n) l m) E) :
  OpV W A env outer (fun vs=>call (.builtin "len") vs) [v] loc mem Q E:=op1 fun R F s v' S r=>by
 obtain⟨x,d,od,kvs,rfl,J,hd,rp⟩:=I.at S r
 have X:=S.kin
 refine Calls.call_function_entry kind_len plain_len entry_len (args_len1 _) ?_
 unfold Builtin.«len»
 refine wpAny_bind (m:=oneArg "len" _) (wpAny_pure ?_)
 refine wpAny_bind (m:=callSpecial? (.ref x) (Str.ofString "__len__")) (special_fn X J hs (beq_iff_eq.mp hf) (wpAny_mono (h R F s [_] S (.cons r .nil)) (fun r s' hr=>?_) fun _ _ y=>y))
 obtain⟨F',y,l,m,i,ry,S',n,rfl,h0,h1,q⟩:=hr
 obtain⟨_,rfl⟩:=ry.isInt
 refine wpAny_bind (wpAny_holding (wpAny_pure ?_))
 refine wpAny_bind (wpAny_letGo ?_)
 show wpAny _ _ (if n<0 then _ else _) _ _ _
 rw[if_neg (by lia)]
 show wpAny _ _ (if n≥2 ^ 63 then _ else _) _ _ _
 rw[if_neg (by lia)]
 refine wpAny_bind (wpAny_mkInt (wpAny_pure ?_))
 exact⟨_,rfl,F',_,l,m,i,.int _ _,S'.tick,q⟩
theorem e_subI{value slice:PySem.Expr}{pos:Pos}{C f:Addr}{es:List (Str×V)}{Q:V->Loc->Mem->Prop}(hs:findIn W.K (.ref C) "__getitem__" = some (some (.ref f)))(hf:fnIn W.K f=true)(hfn:isFn W.K (.ref f)=true)
  (hsl:∀ x i,subscripted slice true (.ref x) i=runValue (.builtin "lifetime.subscript" ⟨[.ref x,i],[]⟩))
  (h:TrV W A env outer (eval value env) loc mem (fun o l m=>TrV W A env outer (eval slice env) l m (fun i l m=>Inst W m o C es/\OpV W A.in1 env outer (fun vs=>call (.ref f) vs) [o,i] l m Q E) E) E) :
  TrV W A env outer (eval (.Subscript value slice pos) env) loc mem Q E:=fun R F s S=>
 Subscript_ (after (i:=.refl _) (RW:=VR W) (Q:=fun _ _ _=>True) (h R F s S) fun v' s' F1 f1 l1 m1 i1 r1 S1 h1=>by
  refine after (i:=‹_›) (RW:=VR W) (Q:=fun _ _ _=>True) (h1 R F1 s' S1) fun u' s2 F2 g l2 m2 i2 r2 S2 h2=>?_
  obtain⟨I,op⟩:=h2
  have r1':=r1.mono i2
  obtain⟨x,d,od,kvs,rfl,J,hd,rp⟩:=I.at S2 r1'
  obtain⟨m,hn,_⟩:=id S2.ns
  exact sub_K (S2.fr hn) W.KIn J hs hf hfn (wpAny_mono (op R F2 s2 [_,_] S2 (.cons r1' (.cons r2 .nil))) (fun _ _ p=>p.weaken (i1.trans i2)) fun _ _ e=>E.up (i1.trans i2) e) (hsl _ _))
end
noncomputable def HS:List Str:=["S","A","x-1"]
noncomputable def TM3:List Str:=["a","b","+"]
noncomputable def MT:List Str:=["S","A","a","b","+","U","%prec"]
noncomputable def htF(ls:List Lvl)(h:Str×Int)(s:Str):Str×Int:=if s∈TM3 then(ls.lookup s).getD ("right",0) else h
noncomputable def heightF(ls:List Lvl)(ms:List Str):Str×Int:=ms.foldl (htF ls) ("right",0)
inductive ReadK(ls:List Lvl)(head:Str)(ws:List Str):Option (List Str×(Str×Int))->Prop
 | head:head∉HS->ReadK ls head ws none
 | word {w:Str}:head∈HS->w∈ws->mtF w=none->ReadK ls head ws none
 | short {ms:List Str}:head∈HS->ws.map mtF=ms.map some->("%prec" : Str)∈ms->ms.length<2->ReadK ls head ws none
 | bad {b:List Str} {x t:Str}:head∈HS->ws.map mtF=(b++[x,t]).map some->("%prec" : Str)∈b++[x,t]->(x≠"%prec"\/ls.lookup t=none)->ReadK ls head ws none
 | prec {b:List Str} {t:Str} {q:Str×Int}:head∈HS->ws.map mtF=(b++[("%prec" : Str),t]).map some->ls.lookup t=some q->ReadK ls head ws (some (b,q))
 | plain {ms:List Str}:head∈HS->ws.map mtF=ms.map some->("%prec" : Str)∉ms->ReadK ls head ws (some (ms,heightF ls ms))
noncomputable def rdV(head:Str):Option (List Str×(Str×Int))->V
 | none=>.none
 | some r=>.tup [.str head,.tup (vStrs r.1),lvV r.2]
noncomputable def inG:V->Option V
 | .str w=>some (.bool (mtF w).isSome)
 | _=>none
noncomputable def meG:V->Option V
 | .str w=>some (.str ((mtF w).getD ""))
 | _=>none
theorem inG_map(l:List Str):(vStrs l).filterMap inG=(l.map fun w=>(mtF w).isSome).map V.bool:=by
 induction l with
 | nil=>rfl
 | cons x l ih=>exact congrArg _ ih
theorem meG_map(l:List Str):(vStrs l).filterMap meG=vStrs (l.map fun w=>(mtF w).getD ""):=by
 induction l with
 | nil=>rfl
 | cons x l ih=>exact congrArg _ ih
theorem lookup_memP{D:List (Str×Str)}{k y:Str}(h:D.lookup k=some y):(k,y)∈D:=by
 induction D with
 | nil=>cases h
 | cons p D ih=>
  obtain⟨a,b⟩:=p
  rw[List.lookup_cons]at h
  by_cases e:k=a
  ·subst e;rw[beq_self_eq_true]at h;cases h;exact .head _
  ·rw[beq_false_of_ne e]at h;exact .tail _ (ih h)
theorem mtF_mem{w y:Str}(h:mtF w=some y):y∈MT:=by
 have:=lookup_memP h
 have all:∀ p∈MEANT,p.2∈MT:=by decide +kernel
 exact all _ this
theorem mt_ok:∀ y∈MT,PyData.strOk y=true:=by decide +kernel
theorem lvA_look(ls:List Lvl)(k:Str):getA (lvA ls) k=(ls.lookup k).map lvV:=by
 induction ls with
 | nil=>rfl
 | cons p ls ih=>
  obtain⟨a,q⟩:=p
  unfold getA lvA at ih ⊢
  rw[List.map_cons,List.find?_cons,List.lookup_cons]
  by_cases e:k=a
  ·subst e;simp
  ·rw[beq_false_of_ne e]
   have:¬ a=k:=fun q=>e q.symm
   simp only [this,decide_false]
   exact ih
theorem two_last{l:List Str}(h:2≤l.length):∃ b x t,l=b++[x,t]:=by
 rcases List.eq_nil_or_concat l with rfl|⟨b,t,rfl⟩
 ·simp at h
 ·rcases List.eq_nil_or_concat b with rfl|⟨b,x,rfl⟩
  ·simp at h
  ·exact⟨b,x,t,by simp⟩
theorem heightF_snoc(ls:List Lvl)(ms:List Str)(y:Str):heightF ls (ms++[y])=htF ls (heightF ls ms) y:=by
 unfold heightF;rw[List.foldl_append];rfl
inductive JRd(head:Str)(ms:List Str)(la:Addr)(ls:List Lvl)(m0:Mem)(i:Nat)(l:Loc)(m:Mem):Prop
 | mk (h1_:LSub [("head",.str head),("levels",.ref la),("meant",.lst (vStrs ms)),("height",lvV (heightF ls (ms.take i)))] l) (h2_:m=m0)
section
variable {W:Wd}{A:Around}{env:Env}{outer:Outs}{loc:Loc}{mem:Mem}{E:Ex W}
noncomputable abbrev rdE(L:Addr):Env:=envX "_law_reading" lRead.scope L 299 lRead.code []
theorem reading_spec{la:Addr}{ls:List Lvl}{ep:Nat}{head:Str}{ws:List Str}{Q:V->Loc->Mem->Prop}(hK:W.K=hdK W.w.params)(c:Calm A 600 5000)(hla:mem la=some (.dict (lvA ls) ep))(hz:ws.length≤5)(hh:PyData.strOk head=true)
  (h:∀ r,ReadK ls head ws r->Q (rdV head r) loc mem):OpV W A env outer (fun vs=>call (.ref 299) vs) [.str head,.lst (vStrs ws),.ref la] loc mem Q E:=by
 refine call_fn (bs:=[("head",.str head),("words",.lst (vStrs ws)),("levels",.ref la)]) (by rw[hK];exact lRead.at _) (by rw[hK];first|rfl|kernel_rfl|decide +kernel) (c.room (by decide)) ?_ (by intro y hy;simp at hy;rcases hy with rfl|rfl|rfl<;>rfl) (by decide) rfl rfl rfl ?_
 ·intro F s vs hb hk r
  obtain⟨_,_,r1,r2,rfl⟩:=r.isCons
  obtain⟨_,_,r3,r4,rfl⟩:=r2.isCons
  obtain⟨_,_,r5,r6,rfl⟩:=r4.isCons
  obtain rfl:=r6.isNil
  exact⟨_,BindsTo.of_eq rfl,.cons r1 (.cons r3 (.cons r5 .nil))⟩
 ·intro L outer
  have cd:=c.deeper (rdE L)
  have hu2:(A.deeper (rdE L)).units+65<cLine:=Nat.lt_of_le_of_lt (Nat.add_le_add_right cd.units 65) (by decide)
  have hT:=meantT hK
  have hb5:∀ k:Nat,k≤5->k≤sizeLine:=fun k hk=>Nat.le_trans hk (by decide)
  have hzv:(vStrs ws).length≤sizeLine:=by rw[vStrs_len];exact hb5 _ hz
  (refine nameS ?_;intro aa vv oo qq ee;refine s_cons ?_)
  refine Tr.locs (loc':=[("head",.str head),("words",.lst (vStrs ws)),("levels",.ref la)]) rfl ?_
  refine s_if ?_;refine b_bool ?_;refine b_or_cons ?_;refine b_cmp1 rfl rfl ?_;refine e_list ?_;refine a_pus rfl ?_
  refine new_lst (show 3≤sizeLine by decide) ?_
  refine notin_strs (l:=HS) (.lst _) hh (by decide +kernel) hu2 ?_
  by_cases hH:head∈HS
  case neg=>
   rw[decide_eq_false hH]
   refine tr_bool ?_
   refine⟨fun e=>(nomatch e),fun _=>?_⟩
   refine only_t ?_
   (refine nameQ ?_;intro qq ee;refine s_cons ?_);refine s_ret1 rfl ?_
   exact⟨_,sub_refl _,h _ (.head hH)⟩
  rw[decide_eq_true hH]
  refine tr_bool ?_
  refine only_o ?_
  refine b_or_cons ?_;refine b_not ?_;refine b_value rfl ?_;refine c_bltN hK (fun _=>rfl) rfl rfl ?_;refine a_cons rfl ?_;refine e_listcomp rfl (by decide) rfl (by decide) (fun _=>rfl) ?_;refine pu rfl ?_
  refine comp_map (itr_lst cd.handled) (vStrs ws) (fun m i hs hi=>rfl) hzv inG ?_ ?_
  ·intro C outer' i v hv
   obtain⟨w,hw,rfl⟩:=inM (List.mem_of_getElem? hv)
   refine asg_name1 rfl rfl ?_;refine e_cmp1 rfl rfl ?_;refine e_topV hK (fun _=>rfl) ?_
   refine in_tab hT ?_
   skip
   exact⟨rfl,sub_refl _⟩
  intro D hD
  rw[inG_map]
  refine a_nil ?_
  refine all_bools (bs:=ws.map fun w=>(mtF w).isSome) cd.handled (.own (mset_self _ _ _)) ?_
  cases hall:(ws.map fun w=>(mtF w).isSome).all id with
  | false=>
   refine tr_bool ?_
   refine⟨fun e=>(nomatch e),fun _=>?_⟩
   refine only_t ?_
   (refine nameQ ?_;intro qq ee;refine s_cons ?_);refine s_ret1 rfl ?_
   have:∃ w∈ws,mtF w=none:=by
    rw[List.all_map,List.all_eq_false]at hall
    obtain⟨w,hw,e⟩:=hall
    exact⟨w,hw,by cases q:mtF w with
     | none=>rfl
     | some y=>rw[Function.comp_apply,q]at e;exact absurd rfl e⟩
   obtain⟨w,hw,e⟩:=this
   exact⟨_,sub_mset hD (sub_refl _),h _ (.word hH hw e)⟩
  | true=>
   refine tr_bool ?_
   refine⟨fun _=>?_,fun e=>(nomatch e)⟩
   refine b_or_nil ?_
   refine only_f ?_
   refine Tr.memS (sub_mset hD (sub_refl _)) ?_
   have hms:∃ ms:List Str,ws.map mtF=ms.map some/\(ws.map fun w=>(mtF w).getD "")=ms/\(∀ y∈ms,y∈MT)/\ms.length=ws.length:=by
    refine⟨ws.map fun w=>(mtF w).getD "",?_,rfl,fun y hy=>?_,List.length_map _⟩
    ·rw[List.map_map]
     refine List.map_congr_left fun w hw=>?_
     rw[List.all_map,List.all_eq_true]at hall
     have:=hall w hw
     cases q:mtF w with
     | none=>rw[Function.comp_apply,q]at this;cases this
     | some y=>show _=some ((mtF w).getD "");rw[q];rfl
    ·obtain⟨w,hw,rfl⟩:=List.mem_map.mp hy
     rw[List.all_map,List.all_eq_true]at hall
     have:=hall w hw
     cases q:mtF w with
     | none=>rw[Function.comp_apply,q]at this;cases this
     | some y=>exact mtF_mem q
   obtain⟨ms,hm1,hm2,hm3,hm4⟩:=hms
   have hms5:ms.length≤5:=hm4▸hz
   have hok:(vStrs ms).all (isD 0)=true:=by
    rw[List.all_eq_true];intro v hv
    obtain⟨y,hy,rfl⟩:=inM hv
    exact mt_ok y (hm3 y hy)
   refine s_nil ?_
   refine s_cons ?_
   refine s_assign_listcomp (cl:=[]) rfl rfl (by decide) rfl (by decide) rfl rfl (fun _=>rfl) ?_
   refine pu rfl ?_
   refine comp_map (itr_lst cd.handled) (vStrs ws) (fun m i hs hi=>rfl) hzv meG ?_ ?_
   ·intro C outer' i v hv
    obtain⟨w,hw,rfl⟩:=inM (List.mem_of_getElem? hv)
    have hsome:∃ y,mtF w=some y:=by
     have:mtF w∈ms.map some:=hm1▸List.mem_map_of_mem hw
     obtain⟨y,_,e⟩:=List.mem_map.mp this
     exact⟨y,e.symm⟩
    obtain⟨y,hy⟩:=hsome
    refine asg_name1 rfl rfl ?_
    refine e_subG hT (fun _ _=>by with_unfolding_all rfl) ?_
    refine e_topG rfl rfl rfl rfl (by rw[hK];rfl) ⟨rfl,?_⟩
    refine pu rfl ?_
    refine⟨w,y,rfl,hy,?_⟩
    exact⟨by show some _=some (V.str ((mtF w).getD ""));rw[hy];rfl,sub_refl _⟩
   intro D2 hD2
   rw[meG_map,hm2]
   refine Tr.locs (loc':=[("head",.str head),("words",.lst (vStrs ws)),("levels",.ref la),("meant",.ref D2)]) rfl ?_
   refine Tr.settleL (x:="meant") rfl (Shift.lst (mset_self _ _ _) (sub_mset hD2 (sub_refl _)) hD2) ?_
   refine Tr.locs (loc':=[("head",.str head),("words",.lst (vStrs ws)),("levels",.ref la),("meant",.lst (vStrs ms))]) rfl ?_
   have hmz:(vStrs ms).length≤sizeLine:=by rw[vStrs_len];exact hb5 _ hms5
   refine s_cons ?_;refine s_if ?_;refine b_cmp2 rfl rfl rfl ?_
   refine in_strs (.lst _) (by decide +kernel) hok hu2 ?_
   by_cases hp:("%prec" : Str)∈ms
   case neg=>
    rw[decide_eq_false hp]
    refine tr_bool ?_
    refine only_f ?_
    refine s_nil ?_;refine s_cons ?_;refine s_assign1 rfl rfl rfl ?_;refine e_tuple ?_;refine a_pus rfl ?_
    refine new_tup (show 2≤sizeLine by decide) ?_
    refine s_cons ?_;refine s_for (fun _=>rfl) ?_;refine pu rfl ?_
    refine for_map (ys:=ms) (fun _ y=>.str y) (itr_lst cd.handled) (JRd head ms la ls mem) (fun i l m hi J=>?_) (fun l m J=>?_) (fun i y l m hy J=>?_) ⟨rfl,rfl⟩
    ·unfold setItem_ vStrs;rw[List.getElem?_map]
    ·obtain⟨hl,rfl⟩:=J
     rw[List.take_length]at hl
     refine Tr.locs hl ?_
     refine s_nil ?_;refine s_cons ?_;refine s_ret ?_;refine e_tuple ?_;refine a_pu rfl ?_;refine a_cons rfl ?_;refine c_typN hK (fun _=>rfl) rfl rfl ?_;refine a_pus rfl ?_
     refine tuple_list (.lst _) hmz ?_
     refine a_pus rfl ?_
     refine new_tup (show 3≤sizeLine by decide) ?_
     skip
     exact⟨_,sub_refl _,h _ (.plain hH hm1 hp)⟩
    ·obtain⟨hl,rfl⟩:=J
     have hym:=List.mem_of_getElem? hy
     refine Op.locs hl ?_
     refine asg_name1 rfl rfl ?_;(refine nameQ ?_;intro qq ee;refine s_cons ?_);refine s_if ?_;refine b_cmp1 rfl rfl ?_;refine e_list ?_;refine a_pus rfl ?_
     refine new_lst (show 3≤sizeLine by decide) ?_
     refine in_strs (l:=TM3) (.lst _) (mt_ok y (hm3 y hym)) (by decide +kernel) hu2 ?_
     have e:=heightF_snoc ls (ms.take i) y
     rw[<-take_snoc hy]at e
     by_cases hy3:y∈TM3
     ·rw[decide_eq_true hy3]
      unfold htF at e
      rw[if_pos hy3]at e
      refine tr_bool ?_
      refine only_t ?_
      (refine nameQ ?_;intro qq ee;refine s_cons ?_);refine s_assign1 rfl rfl rfl ?_;refine e_ifexp ?_;refine b_cmp2 rfl rfl rfl ?_
      refine in_dict hla ?_
      rw[lvA_look]
      cases ql:ls.lookup y with
      | none=>
       rw[ql]at e
       refine tr_bool ?_
       refine only_f ?_
       refine e_tuple ?_;refine a_pus rfl ?_
       refine new_tup (show 2≤sizeLine by decide) ?_
       refine s_nil ?_;refine s_nil ?_
       refine⟨?_,rfl⟩
       rw[e]
       rfl
      | some q=>
       rw[ql]at e
       refine tr_bool ?_
       refine only_t ?_
       refine e_sub2 (fun _ _=>rfl) rfl rfl ?_
       refine sub_dict (x:=lvV q) hla (by rw[lvA_look,ql];rfl) ?_
       refine s_nil ?_;refine s_nil ?_
       refine⟨?_,rfl⟩
       rw[e]
       rfl
     ·rw[decide_eq_false hy3]
      unfold htF at e
      rw[if_neg hy3]at e
      refine tr_bool ?_
      refine only_f ?_
      refine s_nil ?_;refine s_nil ?_
      refine⟨?_,rfl⟩
      rw[e]
      rfl
   rw[decide_eq_true hp]
   refine tr_bool ?_
   refine only_t ?_
   (refine nameQ ?_;intro qq ee;refine s_cons ?_);refine s_if ?_;refine b_bool ?_;refine b_or_cons ?_;refine b_cmp rfl ?_;refine c_bltN hK (fun _=>rfl) rfl rfl ?_;refine a_pus rfl ?_
   refine len_sq (.lst _) (by rw[vStrs_len];lia) ?_
   rw[vStrs_len]
   refine e_int ?_;refine lt_ii ?_;refine tr_bool ?_
   by_cases h2:ms.length<2
   ·rw[decide_eq_true (show(ms.length:Int)<2 by lia)]
    refine⟨fun e=>(nomatch e),fun _=>?_⟩
    refine only_t ?_
    (refine nameQ ?_;intro qq ee;refine s_cons ?_);refine s_ret1 rfl ?_
    exact⟨_,sub_refl _,h _ (.short hH hm1 hp h2)⟩
   rw[decide_eq_false (show ¬ (ms.length:Int)<2 by lia)]
   refine only_o ?_
   obtain⟨b,x,t,rfl⟩:=two_last (l:=ms) (by lia)
   have a1:=(last2_at (b:=b) (x:=x) (t:=t)).1
   have a2:=(last2_at (b:=b) (x:=x) (t:=t)).2
   have hbl:(b++[x,t]).length=b.length+2:=by rw[List.length_append];rfl
   have hbb:b.length≤5:=by rw[hbl]at hms5;lia
   have hbv:(vStrs (b++[x,t])).length=b.length+2:=by rw[vStrs_len,hbl]
   refine b_or_cons ?_;refine b_cmp rfl ?_;refine e_sub1 (fun _ _=>rfl) rfl ?_;refine e_unop ?_;refine e_int ?_
   refine neg_i ?_
   skip
   refine sub_neg (j:=b.length) (.lst _) (by decide) (by decide) (by rw[hbv];lia) a1 ?_
   refine e_str ?_;refine ne_ss ?_;refine tr_bool ?_
   by_cases hx:x = "%prec"
   case neg=>
    rw[decide_eq_false hx]
    refine⟨fun e=>(nomatch e),fun _=>?_⟩
    refine only_t ?_
    (refine nameQ ?_;intro qq ee;refine s_cons ?_);refine s_ret1 rfl ?_
    exact⟨_,sub_refl _,h _ (.bad hH hm1 hp (.inl hx))⟩
   rw[decide_eq_true hx]
   subst hx
   refine⟨fun _=>?_,fun e=>(nomatch e)⟩
   refine b_or_cons ?_;refine b_cmp rfl ?_;refine e_sub1 (fun _ _=>rfl) rfl ?_;refine e_unop ?_;refine e_int ?_
   refine neg_i ?_
   skip
   refine sub_neg (j:=b.length+1) (.lst _) (by decide) (by decide) (by rw[hbv];lia) a2 ?_
   refine pu rfl ?_
   refine notin_dict hla ?_
   rw[lvA_look]
   cases ql:ls.lookup t with
   | none=>
    refine tr_bool ?_
    refine⟨fun e=>(nomatch e),fun _=>?_⟩
    refine only_t ?_
    (refine nameQ ?_;intro qq ee;refine s_cons ?_);refine s_ret1 rfl ?_
    exact⟨_,sub_refl _,h _ (.bad hH hm1 hp (.inr ql))⟩
   | some q=>
    refine tr_bool ?_
    refine⟨fun _=>?_,fun e=>(nomatch e)⟩
    refine b_or_nil ?_
    refine only_f ?_
    refine s_nil ?_;refine s_cons ?_;refine s_ret ?_;refine e_tuple ?_;refine a_pu rfl ?_;refine a_cons rfl ?_;refine c_typN hK (fun _=>rfl) rfl rfl ?_;refine a_cons rfl ?_;refine e_slice ?_;refine pu rfl ?_;refine e_unop ?_;refine e_int ?_
    refine neg_i ?_
    refine⟨-2,rfl,?_⟩
    refine⟨_,_,.lst _,PySem.F.slot_list_getitem.lookup,?_⟩
    refine slice_butLast (k:=2) (.lst _) hmz (by decide) ?_
    rw[hbv,Nat.add_sub_cancel,show(vStrs (b++[("%prec" : Str),t])).take b.length=vStrs b from by unfold vStrs;rw[List.map_append,List.take_append_of_le_length (by rw[List.length_map];exact Nat.le_refl _),List.take_of_length_le (by rw[List.length_map];exact Nat.le_refl _)]]
    refine a_nil ?_
    refine tuple_list (.lst _) (by rw[vStrs_len];exact hb5 _ hbb) ?_
    refine a_cons rfl ?_;refine e_sub1 (fun _ _=>rfl) rfl ?_;refine e_sub1 (fun _ _=>rfl) rfl ?_;refine e_unop ?_;refine e_int ?_
    refine neg_i ?_
    skip
    refine sub_neg (j:=b.length+1) (.lst _) (by decide) (by decide) (by rw[hbv];lia) a2 ?_
    refine sub_dict (x:=lvV q) hla (by rw[lvA_look,ql];rfl) ?_
    refine a_nil ?_
    refine new_tup (show 3≤sizeLine by decide) ?_
    skip
    exact⟨_,sub_refl _,h _ (.prec hH hm1 ql)⟩
end
noncomputable def SY8:List Str:=["S","A","a","b","+","U","%prec","x-1"]
theorem mt_sy:∀ s∈MT,s∈SY8:=by decide +kernel
theorem hs_sy:∀ s∈HS,s∈SY8:=by decide +kernel
structure RB(r:Str×List Str):Prop where
 left:r.1∈HS
 body:∀ y∈r.2,y∈MT
theorem cut_at{c:Nat}:∀ {a b x y:List Nat},c∉a->c∉b->a++c::x=b++c::y->a=b/\x=y
 | [],[],x,y,_,_,h=>by simp at h;exact⟨rfl,h⟩
 | [],d::b,x,y,_,hb,h=>by simp at h;exact absurd (.head _) (h.1▸hb)
 | d::a,[],x,y,ha,_,h=>by simp at h;exact absurd (.head _) (h.1▸ha)
 | d::a,e::b,x,y,ha,hb,h=>by
  simp only [List.cons_append,List.cons.injEq]at h
  obtain⟨rfl,h⟩:=h
  obtain⟨rfl,h2⟩:=cut_at (fun q=>ha (.tail _ q)) (fun q=>hb (.tail _ q)) h
  exact⟨rfl,h2⟩
noncomputable def joinL:List (List Nat)->List Nat
 | []=>[]
 | [x]=>x
 | x::y::r=>x++44::32::joinL (y::r)
noncomputable def quo(s:List Nat):List Nat:=39::s++[39]
theorem joinL_inj:∀ {a b:List (List Nat)},(∀ x∈a,39∉x)->(∀ x∈b,39∉x)->joinL (a.map quo)++[93]=joinL (b.map quo)++[93]->a=b
 | [],[],_,_,_=>rfl
 | [],[y],_,_,h=>by simp[joinL,quo]at h
 | [],y::z::b,_,_,h=>by simp[joinL,quo]at h
 | [x],[],_,_,h=>by simp[joinL,quo]at h
 | x::z::a,[],_,_,h=>by simp[joinL,quo]at h
 | [x],[y],ha,hb,h=>by
  simp only [List.map_cons,List.map_nil,joinL,quo,List.cons_append,List.cons.injEq,true_and,List.append_assoc,List.nil_append]at h
  obtain⟨rfl,_⟩:=cut_at (ha x (.head _)) (hb y (.head _)) h
  rfl
 | [x],y::z::b,ha,hb,h=>by
  simp only [List.map_cons,List.map_nil,joinL,quo,List.cons_append,List.cons.injEq,true_and,List.append_assoc,List.nil_append]at h
  obtain⟨_,h2⟩:=cut_at (ha x (.head _)) (hb y (.head _)) h
  simp at h2
 | x::z::a,[y],ha,hb,h=>by
  simp only [List.map_cons,List.map_nil,joinL,quo,List.cons_append,List.cons.injEq,true_and,List.append_assoc,List.nil_append]at h
  obtain⟨_,h2⟩:=cut_at (ha x (.head _)) (hb y (.head _)) h
  simp at h2
 | x::z::a,y::w::b,ha,hb,h=>by
  simp only [List.map_cons,joinL]at h
  unfold quo at h
  simp only [List.cons_append,List.cons.injEq,true_and,List.append_assoc,List.nil_append]at h
  obtain⟨rfl,h2⟩:=cut_at (ha x (.head _)) (hb y (.head _)) h
  simp only [List.cons.injEq,true_and]at h2
  have:=joinL_inj (a:=z::a) (b:=w::b) (fun x hx=>ha x (.tail _ hx)) (fun x hx=>hb x (.tail _ hx)) h2
  rw[this]
theorem cps_append(a b:Str):(a++b).cps.toList=a.cps.toList++b.cps.toList:=Array.toList_append
theorem syms_shown:∀ s∈SY8,(PyData.str s).shown.cps.toList=quo s.cps.toList/\39∉s.cps.toList/\32∉s.cps.toList:=by decide +kernel
theorem join_cps:∀ (ys:List Str),(∀ y∈ys,y∈SY8)->(Str.join ", " (PyData.shownAll (ys.map .str))).cps.toList=joinL ((ys.map fun s=>s.cps.toList).map quo)
 | [],_=>rfl
 | [y],h=>by
  show((PyData.str y).shown).cps.toList=quo y.cps.toList
  exact(syms_shown y (h y (.head _))).1
 | y::z::ys,h=>by
  have ih:=join_cps (z::ys) fun x hx=>h x (.tail _ hx)
  show((PyData.str y).shown++(", " : Str)++Str.join ", " (PyData.shownAll ((z::ys).map .str))).cps.toList=quo y.cps.toList++44::32::joinL (((z::ys).map fun s=>s.cps.toList).map quo)
  rw[cps_append,cps_append,(syms_shown y (h y (.head _))).1,ih,List.append_assoc]
  congr 1
theorem str_ext{a b:Str}(h:a.cps.toList=b.cps.toList):a=b:=by
 cases a;cases b
 exact congrArg Str.mk (Array.toList_inj.mp h)
theorem mapText_inj{r q:Str×List Str}(hr:RB r)(hq:RB q)(h:mapText r.1 r.2=mapText q.1 q.2):r=q:=by
 have e:∀ {r:Str×List Str},RB r->(mapText r.1 r.2).cps.toList=r.1.cps.toList++32::45::62::32::91::(joinL ((r.2.map fun s=>s.cps.toList).map quo)++[93]):=fun {r} hr=>by
  unfold mapText
  rw[PyData.shown_list,cps_append,cps_append,cps_append,cps_append,join_cps _ fun y hy=>mt_sy y (hr.body y hy)]
  have e1:(" -> " : Str).cps.toList=[32,45,62,32]:=by decide +kernel
  have e2:("[" : Str).cps.toList=[91]:=by decide +kernel
  have e3:("]" : Str).cps.toList=[93]:=by decide +kernel
  rw[e1,e2,e3]
  simp
 have h:=congrArg (fun s:Str=>s.cps.toList) h
 rw[e hr,e hq]at h
 obtain⟨h1,h2⟩:=cut_at (syms_shown _ (hs_sy _ hr.left)).2.2 (syms_shown _ (hs_sy _ hq.left)).2.2 h
 simp only [List.cons.injEq,true_and]at h2
 have h3:=joinL_inj (fun x hx=>by obtain⟨s,hs,rfl⟩:=inM hx;exact(syms_shown s (mt_sy s (hr.body s hs))).2.1) (fun x hx=>by obtain⟨s,hs,rfl⟩:=inM hx;exact(syms_shown s (mt_sy s (hq.body s hs))).2.1) h2
 obtain⟨l,b⟩:=r
 obtain⟨l2,b2⟩:=q
 have h4:b=b2:=(List.map_inj_right (fun x y e=>str_ext e)).mp h3
 rw[show l=l2 from str_ext h1,h4]
noncomputable def QW:List Str:=["'+'","'a'","\"b\"","'ab'","x y","%prec"]
theorem wq_plain:∀ s∈WQ,s∉QW->((0<s.cps.size/\s.cps.size≤100/\PyData.strOk s=true)/\isIdent s=true/\(∀ c∈s.cps[0]?,strIn ⟨#[c]⟩ "'\"" = false)/\s≠"%prec")/\mtF s=some s:=by decide +kernel
noncomputable def litB(s c:Str)(q:Nat):Bool:=decide ((3≤s.cps.size/\s.cps.size≤100)/\(s.cps[0]? = some q/\(seqIndex? (-1) s.length).bind (s.cps[·]?)=some q/\strIn ⟨#[q]⟩ "'\"" = true/\strIn ⟨#[q]⟩ c=false)/\cutS s (some 1) (some (-1))=c/\strIn "\\" s=false/\strIn "\n" s=false/\c.cps.size≤100)
theorem litB_ok{s c:Str}{q:Nat}(h:litB s c q=true):LitS s c:=by
 obtain⟨h1,⟨h2,h3,h4,h5⟩,h6,h7,h8,h9⟩:=of_decide_eq_true h
 exact⟨h1,⟨q,h2,h3,h4,h5⟩,h6,h7,h8,h9⟩
theorem lit3:(litB "'+'" "+" 39=true/\litB "'a'" "a" 39=true/\litB "\"b\"" "b" 34=true/\litB "'ab'" "ab" 39=true)/\(∀ c∈TM3,c.cps.size=1/\PyData.strOk c=true/\c≠"%prec")/\1<("ab" : Str).cps.size:=by decide +kernel
theorem mt6:mtF "'+'" = some "+"/\mtF "'a'" = some "a"/\mtF "\"b\"" = some "b"/\mtF "'ab'" = none/\mtF "x y" = none/\mtF "%prec" = some "%prec":=by decide +kernel
theorem xy_ok:0<("x y" : Str).cps.size/\("x y" : Str).cps.size≤100/\(∀ c∈("x y" : Str).cps[0]?,strIn ⟨#[c]⟩ "'\"" = false)/\isIdent "x y" = false/\("x y" : Str)≠"%prec"/\(reprText "x y").length≤20000:=by decide +kernel
theorem wq_ok{s:Str}(h:s∈WQ):SyK s (mtF s):=by
 by_cases q:s∈QW
 ·obtain⟨⟨l1,l2,l3,l4⟩,hc,hab⟩:=lit3
  obtain⟨m1,m2,m3,m4,m5,m6⟩:=mt6
  rcases List.mem_cons.mp q with rfl|q
  ·rw[m1]
   obtain⟨c1,c2,c3⟩:=hc "+" (by decide +kernel)
   exact .lit (litB_ok l1) c1 c2 (by decide +kernel) c3
  rcases List.mem_cons.mp q with rfl|q
  ·rw[m2]
   obtain⟨c1,c2,c3⟩:=hc "a" (by decide +kernel)
   exact .lit (litB_ok l2) c1 c2 (by decide +kernel) c3
  rcases List.mem_cons.mp q with rfl|q
  ·rw[m3]
   obtain⟨c1,c2,c3⟩:=hc "b" (by decide +kernel)
   exact .lit (litB_ok l3) c1 c2 (by decide +kernel) c3
  rcases List.mem_cons.mp q with rfl|q
  ·rw[m4];exact .badLit (litB_ok l4) hab
  rcases List.mem_cons.mp q with rfl|q
  ·rw[m5]
   obtain⟨a,b,c,d,e,f⟩:=xy_ok
   exact .bad a b (fun x hx=>c x hx) d e f
  ·rw[List.mem_singleton.mp q,m6];exact .prec rfl
 ·obtain⟨⟨⟨a,b,c⟩,d,e,f⟩,g⟩:=wq_plain s h q
  rw[g]
  exact .ok ⟨a,b,c,d,fun x hx=>e x hx,f⟩
theorem mt_repr:∀ y∈MT,(reprText y).length≤20000:=by decide +kernel
theorem wq_repr{s y:Str}(h:mtF s=some y):(reprText y).length≤20000:=mt_repr y (mtF_mem h)
theorem wq_prec:∀ s∈WQ,(mtF s).getD s = "%prec"->s = "%prec":=by decide +kernel
noncomputable def TERMS:List Str:=["a","b","+","U"]
theorem wq_none:∀ s∈WQ,mtF s=none->s∉TERMS:=by decide +kernel
theorem wq_plus:∀ s∈WQ,(mtF s=some "+"↔s = "'+'"):=by decide +kernel
theorem wq_lit:∀ s∈WQ,∀ x∈mtF s,x≠s->(x = "+"/\s = "'+'")\/x = "a"\/x = "b":=by decide +kernel
noncomputable def TE:List Str:=["a","b","error","+"]
theorem heads_ok:∀ x∈HEADS,(x.cps.size≤100/\(reprText x).length≤20000/\PyData.strOk x=true)/\(x∈HS\/(x∉HS/\(x = "a"\/x = "error"\/(isIdent x=false/\x≠"error"/\x∉TE)))):=by decide +kernel
theorem hs_ok:∀ x∈HS,(x.cps.size≤100/\PyData.strOk x=true/\0<x.cps.size)/\isIdent x=true/\x≠"error"/\x∉TE/\x≠"B":=by decide +kernel
theorem look_no{te:List (Str×List Int)}(h:∀ k,(te.lookup k).isSome=true->k∈TE){x:Str}(hx:x∉TE):te.lookup x=none:=by
 cases q:te.lookup x with
 | none=>rfl
 | some ns=>exact absurd (h x (by rw[q];rfl)) hx
theorem head_k{g:GR}(h:∀ k,(g.te.lookup k).isSome=true->k∈TE)(ha:(g.te.lookup ("a" : Str)).isSome=true)(he:(g.te.lookup ("error" : Str)).isSome=true){x:Str}(hx:x∈HEADS):NmK g x (decide (x∈HS)):=by
 rcases(heads_ok x hx).2 with q|⟨q,q2⟩
 ·rw[decide_eq_true q]
  obtain⟨_,a,b,c,_⟩:=hs_ok x q
  exact .ok a b (look_no h c)
 ·rw[decide_eq_false q]
  rcases q2 with rfl|rfl|⟨a,b,c⟩
  ·exact .tok ha
  ·exact .tok he
  ·exact .bad (look_no h c) b a
theorem known_some{te:List (Str×List Int)}{k x:Str}:((known te k).lookup x).isSome=true↔(te.lookup x).isSome=true\/x=k:=by
 rw[known_lookup]
 by_cases e:x=k
 ·rw[if_pos e];exact⟨fun _=>.inr e,fun _=>rfl⟩
 ·rw[if_neg e];exact⟨.inl,fun z=>z.resolve_right e⟩
theorem lit_some{mt:Str->Option Str}{x:Str}:∀ {l:List Str} {te:List (Str×List Int)},((litT mt te l).lookup x).isSome=true↔(te.lookup x).isSome=true\/∃ s∈l,mt s=some x/\x≠s
 | [],te=>⟨.inl,fun h=>h.elim id fun⟨s,hs,_⟩=>nomatch hs⟩
 | s::l,te=>by
  have e:litT mt te (s::l)=litT mt (match mt s with|some c=>if c=s then te else known te c|none=>te) l:=rfl
  rw[e,lit_some]
  constructor
  ·rintro(h|⟨s',hs',h⟩)
   ·cases q:mt s with
    | none=>rw[q]at h;exact .inl h
    | some c=>
     rw[q]at h
     by_cases z:c=s
     ·have h:(List.lookup x (if c=s then te else known te c)).isSome=true:=h
      rw[if_pos z]at h;exact .inl h
     ·have h:(List.lookup x (if c=s then te else known te c)).isSome=true:=h
      rw[if_neg z,known_some]at h
      rcases h with h|rfl
      ·exact .inl h
      ·exact .inr ⟨s,.head _,q,z⟩
   ·exact .inr ⟨s',.tail _ hs',h⟩
  ·have up:(te.lookup x).isSome=true->((match mt s with|some c=>if c=s then te else known te c|none=>te).lookup x).isSome=true:=fun h=>by
    cases q:mt s with
    | none=>exact h
    | some c=>
     show(List.lookup x (if c=s then te else known te c)).isSome=true
     by_cases z:c=s
     ·rw[if_pos z];exact h
     ·rw[if_neg z,known_some];exact .inl h
   rintro(h|⟨s',hs',h1,h2⟩)
   ·exact .inl (up h)
   ·rcases List.mem_cons.mp hs' with rfl|hs'
    ·refine .inl ?_
     rw[h1]
     show(List.lookup x (if x=s' then te else known te x)).isSome=true
     rw[if_neg h2,known_some];exact .inr rfl
    ·exact .inr ⟨s',hs',h1,h2⟩
noncomputable def tlast(ws:List Str):List Str:=(ws.drop (ws.length - 1)).filterMap fun w=>if ("%prec" : Str)∈ws then mtF w else none
noncomputable def tch(ws:List Str):List Str:=tlast ws++(if ("'+'" : Str)∈ws then [("+" : Str)] else [])
theorem rmost_snoc(ks ms:List Str)(y:Str):rmost ks (ms++[y])=if y∈ks then some y else rmost ks ms:=by
 unfold rmost
 rw[List.reverse_append,List.reverse_singleton,List.singleton_append,List.find?_cons]
 by_cases h:y∈ks
 ·have:ks.contains y=true:=List.contains_iff_mem.mpr h
  rw[if_pos h,this]
 ·have:ks.contains y=false:=by rw[Bool.eq_false_iff];exact fun z=>h (List.contains_iff_mem.mp z)
  rw[if_neg h,this]
theorem rmost_height{ls:List Lvl}{ks:List Str}(n:Nat):∀ (ms:List Str),ms.length=n->(∀ y∈ms,y∈ks↔y∈TM3)->((rmost ks ms).bind (getA (lvA ls))).getD r0V=lvV (heightF ls ms):=by
 induction n with
 | zero=>intro ms h _;rw[List.eq_nil_of_length_eq_zero h];rfl
 | succ n ih=>
  intro ms h hk
  rcases List.eq_nil_or_concat ms with rfl|⟨b,y,rfl⟩
  ·cases h
  ·rw[List.concat_eq_append]at h hk ⊢
   rw[rmost_snoc,heightF_snoc]
   have hy:=hk y (List.mem_append_right _ (.head _))
   unfold htF
   by_cases q:y∈TM3
   ·rw[if_pos q,if_pos (hy.mpr q)]
    show(getA (lvA ls) y).getD r0V=_
    rw[lvA_look]
    cases ls.lookup y with
    | none=>rfl
    | some v=>rfl
   ·rw[if_neg q,if_neg fun z=>q (hy.mp z)]
    exact ih b (by rw[List.length_append,List.length_singleton]at h;exact Nat.succ.inj h) fun z hz=>hk z (List.mem_append_left _ hz)
theorem map_mtL{ws ms:List Str}(h:ws.map mtF=ms.map some):mtL mtF ws=ms:=by
 have:∀ (ws ms:List Str),ws.map mtF=ms.map some->ws.map (fun s=>(mtF s).getD s)=ms:=by
  intro ws
  induction ws with
  | nil=>intro ms h;cases ms with
   | nil=>rfl
   | cons m ms=>cases h
  | cons w ws ih=>
   intro ms h
   cases ms with
   | nil=>cases h
   | cons m ms=>
    rw[List.map_cons,List.map_cons]at h
    obtain⟨h1,h2⟩:=List.cons.inj h
    rw[List.map_cons,ih ms h2,h1];rfl
 exact this ws ms h
theorem map_in{ws ms:List Str}(h:ws.map mtF=ms.map some)(hw:∀ w∈ws,w∈WQ):(∀ y∈ms,y∈MT)/\(("%prec" : Str)∈ms↔("%prec" : Str)∈ws)/\(("+" : Str)∈ms->("'+'" : Str)∈ws):=by
 refine⟨fun y hy=>?_,⟨fun z=>?_,fun z=>?_⟩,fun z=>?_⟩
 ·have:some y∈ws.map mtF:=h▸List.mem_map_of_mem hy
  obtain⟨w,_,e⟩:=List.mem_map.mp this
  exact mtF_mem e
 ·have:some ("%prec" : Str)∈ws.map mtF:=h▸List.mem_map_of_mem z
  obtain⟨w,hw',e⟩:=List.mem_map.mp this
  have:=wq_prec w (hw w hw') (by rw[e];rfl)
  exact this▸hw'
 ·have:mtF "%prec"∈ms.map some:=h▸List.mem_map_of_mem z
  rw[mt6.2.2.2.2.2]at this
  obtain⟨y,hy,e⟩:=List.mem_map.mp this
  cases e;exact hy
 ·have:some ("+" : Str)∈ws.map mtF:=h▸List.mem_map_of_mem z
  obtain⟨w,hw',e⟩:=List.mem_map.mp this
  exact(wq_plus w (hw w hw')).mp e▸hw'
theorem tlast_at{ws:List Str}{b:List Str}{w:Str}(e:ws=b++[w])(h:("%prec" : Str)∈ws):tlast ws=(mtF w).toList:=by
 unfold tlast
 subst e
 rw[List.length_append,List.length_singleton,Nat.add_sub_cancel,List.drop_left,List.filterMap_cons,List.filterMap_nil]
 simp only [if_pos h]
 cases mtF w with
 | none=>rfl
 | some y=>rfl
theorem tlast_no{ws:List Str}(h:("%prec" : Str)∉ws):tlast ws=[]:=by
 unfold tlast
 simp only [if_neg h]
 generalize ws.drop _=l
 induction l with
 | nil=>rfl
 | cons x l ih=>rw[List.filterMap_cons];exact ih
theorem te_tm:(∀ x∈TE,x∈MT->x∈TM3)/\("%prec" : Str)∉TERMS/\(∀ y∈TM3,y = "a"\/y = "b"\/y = "+")/\("+" : Str)≠"'+'"/\(∀ y∈TM3,y∈TE)/\("'+'" : Str)≠"%prec":=by decide +kernel
theorem lookup_memL{ls:List Lvl}{k:Str}{q:Str×Int}(h:ls.lookup k=some q):(k,q)∈ls:=by
 induction ls with
 | nil=>cases h
 | cons p ls ih=>
  obtain⟨a,b⟩:=p
  rw[List.lookup_cons]at h
  by_cases e:k=a
  ·subst e;rw[beq_self_eq_true]at h;cases h;exact .head _
  ·rw[beq_false_of_ne e]at h;exact .tail _ (ih h)
theorem append_two{α:Type}{b b':List α}{x t x' t':α}(h:b++[x,t]=b'++[x',t']):b=b'/\x=x'/\t=t':=by
 have h1:(b++[x])++[t]=(b'++[x'])++[t']:=by simpa using h
 obtain⟨h2,h3⟩:=List.append_inj' h1 rfl
 obtain⟨h4,h5⟩:=List.append_inj' h2 rfl
 exact⟨h4,(List.cons.inj h5).1,(List.cons.inj h3).1⟩
theorem lit_iff{te:List (Str×List Int)}{ws:List Str}(hw:∀ w∈ws,w∈WQ)(ha:(te.lookup ("a" : Str)).isSome=true)(hb:(te.lookup ("b" : Str)).isSome=true){x:Str} :
  ((litT mtF te ws).lookup x).isSome=true↔(te.lookup x).isSome=true\/(x = "+"/\("'+'" : Str)∈ws):=by
 rw[lit_some]
 constructor
 ·rintro(h|⟨s,hs,h1,h2⟩)
  ·exact .inl h
  ·rcases wq_lit s (hw s hs) x h1 h2 with⟨rfl,rfl⟩|rfl|rfl
   ·exact .inr ⟨rfl,hs⟩
   ·exact .inl ha
   ·exact .inl hb
 ·rintro(h|⟨rfl,h⟩)
  ·exact .inl h
  ·exact .inr ⟨_,h,mt6.1,te_tm.2.2.2.1⟩
theorem map_last{ws b:List Str}{t:Str}(h:ws.map mtF=(b++[t]).map some):∃ wb w,ws=wb++[w]/\mtF w=some t:=by
 rcases List.eq_nil_or_concat ws with rfl|⟨wb,w,rfl⟩
 ·rw[List.map_append]at h
  have:=congrArg List.length h
  simp at this
 ·rw[List.concat_eq_append]at h ⊢
  rw[List.map_append,List.map_append]at h
  obtain⟨_,h2⟩:=List.append_inj' h rfl
  exact⟨wb,w,rfl,(List.cons.inj h2).1⟩
theorem read_prec{ls:List Lvl}{head:Str}{ws:List Str}{rd:Option (List Str×(Str×Int))}{te:List (Str×List Int)}(R:ReadK ls head ws rd)(hH:head∈HS)(hw:∀ w∈ws,w∈WQ)(hall:∀ s∈ws,mtF s≠none)(hls:∀ q∈ls,q.1∈TERMS)
  (hk:∀ k,(te.lookup k).isSome=true->k∈TE) (ha:(te.lookup ("a" : Str)).isSome=true) (hb:(te.lookup ("b" : Str)).isSome=true) :
  ∃ r,PrecK (lvA ls) (litT mtF te ws) (mtL mtF ws) r/\(rd=none->r=none)/\∀ body q,rd=some (body,q)->∃ t,r=some (body,lvV q,t)/\∀ x,x∈tlast ws↔t=some x:=by
 cases R with
 | head h=>exact absurd hH h
 | word _ h e=>exact absurd e (hall _ h)
 | @short ms _ h hp hl=>
  rw[map_mtL h]
  have:ms=([]:List Str)++[("%prec" : Str)]:=by
   cases ms with
   | nil=>cases hp
   | cons m ms=>
    cases ms with
    | nil=>rw[List.mem_singleton]at hp;rw[<-hp];rfl
    | cons m2 ms=>rw[List.length_cons,List.length_cons]at hl;lia
  exact⟨none,.last this,fun _=>rfl,fun _ _ e=>nomatch e⟩
 | @bad b x t _ h hp hx=>
  rw[map_mtL h]
  refine⟨none,?_,fun _=>rfl,fun _ _ e=>nomatch e⟩
  by_cases e1:t = "%prec"
  ·subst e1;exact .last (b:=b++[x]) (by simp)
  ·by_cases e2:x = "%prec"
   ·subst e2
    rcases hx with hx|hx
    ·exact absurd rfl hx
    ·exact .unknown rfl e1 (by rw[lvA_look,hx];rfl)
   ·refine .mid ?_ rfl e1 e2
    rcases List.mem_append.mp hp with h|h
    ·exact h
    ·rcases List.mem_cons.mp h with h|h
     ·exact absurd h.symm e2
     ·exact absurd (List.mem_singleton.mp h).symm e1
 | @prec b t q _ h hl=>
  rw[map_mtL h]
  have e1:t≠"%prec":=fun e=>te_tm.2.1 (e▸hls _ (lookup_memL hl))
  refine⟨_,.prec rfl e1 (by rw[lvA_look,hl];rfl),fun e=>(nomatch e),fun body q' e=>?_⟩
  cases e
  refine⟨some t,rfl,fun x=>?_⟩
  obtain⟨wb,w,e2,e3⟩:=map_last (b:=b++[("%prec" : Str)]) (t:=t) (by rw[h];simp)
  have hp:=(map_in h hw).2.1.mp (List.mem_append_right _ (.head _))
  rw[tlast_at e2 hp,e3]
  show x∈[t]↔_
  rw[List.mem_singleton]
  exact⟨fun e=>congrArg some e.symm,fun e=>(Option.some.inj e).symm⟩
 | @plain ms _ h hp=>
  rw[map_mtL h]
  obtain⟨h1,h2,h3⟩:=map_in h hw
  refine⟨_,.plain hp,fun e=>(nomatch e),fun body q' e=>?_⟩
  cases e
  refine⟨none,?_,fun x=>?_⟩
  ·rw[rmost_height (ls:=ls) (ks:=(litT mtF te ws).map (·.1)) ms.length ms rfl fun y hy=>?_]
   rw[<-List.contains_iff_mem,<-lookup_contains,lit_iff hw ha hb]
   constructor
   ·rintro(z|⟨rfl,_⟩)
    ·exact te_tm.1 y (hk y z) (h1 y hy)
    ·decide +kernel
   ·intro z
    rcases te_tm.2.2.1 y z with rfl|rfl|rfl
    ·exact .inl ha
    ·exact .inl hb
    ·exact .inr ⟨rfl,h3 hy⟩
  ·rw[tlast_no fun z=>hp (h2.mpr z)]
   exact⟨fun z=>(nomatch z),fun z=>(nomatch z)⟩
noncomputable abbrev Rul:=Str×List Str×(Str×Int)×Int
noncomputable def rulV(r:Rul):V:=.tup [.str r.1,.tup (vStrs r.2.1),lvV r.2.2.1,.int r.2.2.2]
noncomputable def prOf(i:Nat)(r:Rul):Pr:={ name:=r.1,body:=r.2.1,num:=(i:Int)+1,prec:=lvV r.2.2.1,func:=.none,file:=.str "",line:=.int r.2.2.2 }
noncomputable def prodsOf(R:List Rul):List Pr:=R.zipIdx.map fun q=>prOf q.2 q.1
theorem prodsOf_snoc(R:List Rul)(r:Rul):prodsOf (R++[r])=prodsOf R++[prOf R.length r]:=by
 unfold prodsOf
 rw[List.zipIdx_append,List.map_append]
 simp
theorem prodsOf_len(R:List Rul):(prodsOf R).length=R.length:=by unfold prodsOf;rw[List.length_map,List.length_zipIdx]
theorem prodsOf_mem{R:List Rul}{p:Pr}(h:p∈prodsOf R):∃ i,∃ r∈R,p=prOf i r:=by
 obtain⟨q,hq,rfl⟩:=inM h
 exact⟨_,_,List.fst_mem_of_mem_zipIdx hq,rfl⟩
theorem prodsOf_has{R:List Rul}{r:Rul}(h:r∈R):∃ i,prOf i r∈prodsOf R:=by
 obtain⟨i,hi,e⟩:=List.getElem_of_mem h
 refine⟨i,List.mem_map.mpr ⟨(r,i),?_,rfl⟩⟩
 rw[List.mem_zipIdx_iff_getElem?]
 rw[List.getElem?_eq_getElem hi,e]
structure RulOk(r:Rul):Prop where
 rb:RB (r.1,r.2.1)
 bz:r.2.1.length≤5
 l0:0≤r.2.2.2
 l1:r.2.2.2<1000000
 wy:PyData.strOk r.2.2.1.1=true
theorem note_len(n:Int)(syms:List Str):∀ tn:List (Str×List Int)×List (Str×List Int),(syms.foldl (noteSym n) tn).1.length=tn.1.length:=by
 induction syms with
 | nil=>intro tn;rfl
 | cons s l ih=>
  intro tn
  rw[List.foldl_cons,ih]
  unfold noteSym
  split
  ·show(pushL _ _ _).length=_
   unfold pushL;rw[List.length_map]
  ·rfl
theorem push_some(l:List (Str×List Int))(k:Str)(n:Int)(x:Str):((pushL l k n).lookup x).isSome=(l.lookup x).isSome:=by
 rw[pushL_lookup];split
 ·rw[Option.isSome_map]
 ·rfl
theorem note_te(n:Int)(syms:List Str)(x:Str):∀ tn:List (Str×List Int)×List (Str×List Int),((syms.foldl (noteSym n) tn).1.lookup x).isSome=(tn.1.lookup x).isSome:=by
 induction syms with
 | nil=>intro tn;rfl
 | cons s l ih=>
  intro tn
  rw[List.foldl_cons,ih]
  unfold noteSym
  split
  ·exact push_some _ _ _ _
  ·rfl
theorem note_no(n:Int)(syms:List Str)(x:Str):∀ tn:List (Str×List Int)×List (Str×List Int),((tn.2.lookup x).isSome=true->((syms.foldl (noteSym n) tn).2.lookup x).isSome=true)/\(x∉syms->((syms.foldl (noteSym n) tn).2.lookup x).isSome=(tn.2.lookup x).isSome):=by
 induction syms with
 | nil=>intro tn;exact⟨id,fun _=>rfl⟩
 | cons s l ih=>
  intro tn
  rw[List.foldl_cons]
  obtain⟨i1,i2⟩:=ih (noteSym n tn s)
  have up:(tn.2.lookup x).isSome=true->((noteSym n tn s).2.lookup x).isSome=true:=fun h=>by
   unfold noteSym
   split
   ·exact h
   ·show((pushL (known tn.2 s) s n).lookup x).isSome=true
    rw[push_some,known_some];exact .inl h
  refine⟨fun h=>i1 (up h),fun h=>?_⟩
  rw[i2 fun z=>h (.tail _ z)]
  unfold noteSym
  split
  ·rfl
  ·show((pushL (known tn.2 s) s n).lookup x).isSome=_
   rw[push_some,known_lookup,if_neg fun e=>h (by rw[e];exact .head _)]
theorem LenOk.mono{B B':Nat}{tn:List (Str×List Int)×List (Str×List Int)}(h:LenOk B tn)(hB:B≤B'):LenOk B' tn:=
 ⟨Nat.le_trans h.1 hB,fun k ns e=>Nat.le_trans (h.2.1 k ns e) hB,fun k ns e=>Nat.le_trans (h.2.2 k ns e) hB⟩
structure GI(ls:List Lvl)(R:List Rul)(us un:List Str)(g:GR)(S:Str->Bool)(t:Nat):Prop where
 p0:g.p0 = .none
 st:g.start = .none
 prods:g.prods=prodsOf R
 rz:R.length≤t
 rok:∀ r∈R,RulOk r
 pr:g.pr=lvA ls
 teK:∀ k,(g.te.lookup k).isSome=true->k∈TE
 teA:(g.te.lookup ("a" : Str)).isSome=true
 teB:(g.te.lookup ("b" : Str)).isSome=true
 teE:(g.te.lookup ("error" : Str)).isSome=true
 tz:g.te.length≤10+10*t
 len:LenOk (10+10*t) (g.te,g.no)
 pn:∀ r∈R,r.1∈g.pn
 pz:g.pn.length≤t
 noB:(g.no.lookup ("B" : Str)).isSome=false
 noR:∀ r∈R,(g.no.lookup r.1).isSome=true
 u1:∀ x∈TERMS,((g.te.lookup x).isSome || S x)=true->x∈us\/x∈un
 u2:∀ x∈TERMS,x∈us->((g.te.lookup x).isSome || S x)=true
theorem addT_iff{S:Str->Bool}{t:Option Str}{x:Str}:addT S t x=true↔S x=true\/t=some x:=by
 unfold addT;rw[Bool.or_eq_true,decide_eq_true_iff]
theorem tch_iff{ws:List Str}{x:Str}:x∈tch ws↔x∈tlast ws\/(x = "+"/\("'+'" : Str)∈ws):=by
 unfold tch
 rw[List.mem_append]
 by_cases h:("'+'" : Str)∈ws
 ·rw[if_pos h,List.mem_singleton];exact or_congr_right ⟨fun e=>⟨e,h⟩,fun e=>e.1⟩
 ·rw[if_neg h];exact or_congr_right ⟨fun e=>(nomatch e),fun e=>absurd e.2 h⟩
theorem GI.touch{ls:List Lvl}{R:List Rul}{us un:List Str}{g:GR}{S:Str->Bool}{t:Nat}(v:GI ls R us un g S t){ws:List Str}(hw:∀ w∈ws,w∈WQ)(hz:ws.length≤5)(i:Nat)(o:Obj)(tt:Option Str)(h3:∀ x,tt=some x->∃ b,mtL mtF ws=b++[("%prec" : Str),x]) :
  GI ls R us (un++tch ws) { g with te:=litT mtF g.te (ws.take i),upo:=some (.raw o) } (addT S tt) (t+1):=by
 have hwi:∀ w∈ws.take i,w∈WQ:=fun w h=>hw w (List.mem_of_mem_take h)
 have li:∀ x,((litT mtF g.te (ws.take i)).lookup x).isSome=true↔(g.te.lookup x).isSome=true\/(x = "+"/\("'+'" : Str)∈ws.take i):=fun x=>lit_iff hwi v.teA v.teB
 have ll:=litT_len mtF g.te (ws.take i)
 have lz:(ws.take i).length≤5:=Nat.le_trans (by rw[List.length_take];exact Nat.min_le_right _ _) hz
 refine {
  p0:=v.p0,st:=v.st,prods:=v.prods,rz:=Nat.le_succ_of_le v.rz,rok:=v.rok,pr:=v.pr
  teK:=fun k h=>((li k).mp h).elim (v.teK k) fun e=>e.1▸te_tm.2.2.2.2.1 _ (by decide +kernel)
  teA:=(li _).mpr (.inl v.teA)
  teB:=(li _).mpr (.inl v.teB)
  teE:=(li _).mpr (.inl v.teE)
  tz:=by show(litT mtF g.te (ws.take i)).length≤_;have:=v.tz;lia
  len:=⟨Nat.le_trans v.len.1 (by lia),fun k ns e=>Nat.le_trans (litT_look v.len.2.1 k ns e) (by lia),fun k ns e=>Nat.le_trans (v.len.2.2 k ns e) (by lia)⟩
  pn:=v.pn,pz:=Nat.le_succ_of_le v.pz,noB:=v.noB,noR:=v.noR
  u1:=fun x hx h=>?_
  u2:=fun x hx h=>?_ }
 ·rw[Bool.or_eq_true,li,addT_iff]at h
  have old:(g.te.lookup x).isSome=true\/S x=true->x∈us\/x∈un++tch ws:=fun h=>(v.u1 x hx (Bool.or_eq_true_iff.mpr h)).imp id fun h=>List.mem_append_left _ h
  rcases h with(h|⟨rfl,h⟩)|(h|h)
  ·exact old (.inl h)
  ·exact .inr (List.mem_append_right _ (tch_iff.mpr (.inr ⟨rfl,List.mem_of_mem_take h⟩)))
  ·exact old (.inr h)
  ·refine .inr (List.mem_append_right _ (tch_iff.mpr (.inl ?_)))
   obtain⟨b,e⟩:=h3 x h
   have e:ws.map (fun s=>(mtF s).getD s)=b++[("%prec" : Str),x]:=e
   obtain⟨wb,p,w,rfl⟩:=two_last (l:=ws) (by rw[<-List.length_map (f:=fun s=>(mtF s).getD s),e,List.length_append];show 2≤b.length+2;lia)
   rw[List.map_append]at e
   obtain⟨_,e1,e2⟩:=append_two (b:=wb.map fun s=>(mtF s).getD s) (x:=(mtF p).getD p) (t:=(mtF w).getD w) e
   have hp:p = "%prec":=wq_prec p (hw p (List.mem_append_right _ (.head _))) e1
   have hpw:("%prec" : Str)∈wb++[p,w]:=hp▸List.mem_append_right _ (.head _)
   rw[tlast_at (b:=wb++[p]) (w:=w) (by simp) hpw]
   cases q:mtF w with
   | none=>exact absurd (by rw[q]at e2;rw[show w=x from e2];exact hx) (wq_none w (hw w (List.mem_append_right _ (.tail _ (.head _)))) q)
   | some y=>rw[q]at e2;rw[show y=x from e2];exact .head _
 ·rw[Bool.or_eq_true,li,addT_iff]
  rcases Bool.or_eq_true_iff.mp (v.u2 x hx h) with h|h
  ·exact .inl (.inl h)
  ·exact .inr (.inl h)
theorem GI.add{ls:List Lvl}{R:List Rul}{us un:List Str}{g:GR}{S:Str->Bool}{t:Nat}(v:GI ls R us un g S t){head:Str}{ws body:List Str}{q:Str×Int}{n:Int}(hw:∀ w∈ws,w∈WQ)(hz:ws.length≤5)(o:Obj)(tt:Option Str)(htt:∀ x,x∈tlast ws↔tt=some x)(hr:RulOk (head,body,q,n)) :
  GI ls (R++[(head,body,q,n)]) (us++tch ws) un (addG { g with te:=litT mtF g.te ws,upo:=some (.raw o) } head body (lvV q) .none (.str "") (.int n)) (addT S tt) (t+1):=by
 have li:∀ x,((litT mtF g.te ws).lookup x).isSome=true↔(g.te.lookup x).isSome=true\/(x = "+"/\("'+'" : Str)∈ws):=fun x=>lit_iff hw v.teA v.teB
 have ll:=litT_len mtF g.te ws
 have lt:∀ x,(((body.foldl (noteSym ((g.prods.length:Int)+1)) (litT mtF g.te ws,known g.no head)).1).lookup x).isSome=((litT mtF g.te ws).lookup x).isSome:=fun x=>note_te _ _ _ _
 have ln:=fun x=>note_no ((g.prods.length:Int)+1) body x (litT mtF g.te ws,known g.no head)
 have hlen2:LenOk (10+10*(t+1)) (body.foldl (noteSym ((g.prods.length:Int)+1)) (litT mtF g.te ws,known g.no head)):=by
  have h1:LenOk (10+10*t+1) (litT mtF g.te ws,known g.no head):=by
   obtain⟨b1,b2,b3⟩:=v.len
   refine⟨?_,fun k ns e=>Nat.le_succ_of_le (litT_look b2 k ns e),fun k ns e=>Nat.le_succ_of_le (known_len b3 k ns e)⟩
   have:=@known_size g.no head
   dsimp only at b1 ⊢;lia
  refine(notes_len h1 ((g.prods.length:Int)+1) body).mono ?_
  have:=hr.bz
  dsimp only at this;lia
 obtain⟨_,hId,hE,hTE,hB⟩:=hs_ok head hr.rb.left
 have te':∀ x,((addG { g with te:=litT mtF g.te ws,upo:=some (.raw o) } head body (lvV q) .none (.str "") (.int n)).te.lookup x).isSome=true↔(g.te.lookup x).isSome=true\/(x = "+"/\("'+'" : Str)∈ws):=fun x=>by
  rw[<-li x,<-lt x];exact Iff.rfl
 refine {
  p0:=v.p0,st:=v.st
  prods:=by show g.prods++_=_;rw[v.prods,prodsOf_snoc,prodsOf_len];rfl
  rz:=by rw[List.length_append,List.length_singleton];exact Nat.succ_le_succ v.rz
  rok:=fun r hr'=>(List.mem_append.mp hr').elim (v.rok r) fun e=>List.mem_singleton.mp e▸hr
  pr:=v.pr
  teK:=fun k h=>((te' k).mp h).elim (v.teK k) fun e=>e.1▸te_tm.2.2.2.2.1 _ (by decide +kernel)
  teA:=(te' _).mpr (.inl v.teA)
  teB:=(te' _).mpr (.inl v.teB)
  teE:=(te' _).mpr (.inl v.teE)
  tz:=by
   show(body.foldl (noteSym ((g.prods.length:Int)+1)) (litT mtF g.te ws,known g.no head)).1.length≤_
   rw[note_len];have:=v.tz;dsimp only;lia
  len:=hlen2
  pn:=fun r hr'=>?_
  pz:=by
   show List.length (if head∈g.pn then g.pn else g.pn++[head])≤_
   have:=v.pz
   split
   ·lia
   ·rw[List.length_append,List.length_singleton];lia
  noB:=?_
  noR:=fun r hr'=>?_
  u1:=fun x hx h=>?_
  u2:=fun x hx h=>?_ }
 ·show r.1∈(if head∈g.pn then g.pn else g.pn++[head])
  rcases List.mem_append.mp hr' with h|h
  ·have:=v.pn r h
   split
   ·exact this
   ·exact List.mem_append_left _ this
  ·rw[List.mem_singleton.mp h]
   split
   ·assumption
   ·exact List.mem_append_right _ (.head _)
 ·show((body.foldl (noteSym ((g.prods.length:Int)+1)) (litT mtF g.te ws,known g.no head)).2.lookup ("B" : Str)).isSome=false
  rw[(ln _).2 fun z=>(show("B" : Str)∉MT by decide +kernel) (hr.rb.body _ z)]
  show((known g.no head).lookup ("B" : Str)).isSome=false
  rw[known_lookup,if_neg fun e=>hB e.symm];exact v.noB
 ·show((body.foldl (noteSym ((g.prods.length:Int)+1)) (litT mtF g.te ws,known g.no head)).2.lookup r.1).isSome=true
  refine(ln _).1 ?_
  show((known g.no head).lookup r.1).isSome=true
  rw[known_some]
  rcases List.mem_append.mp hr' with h|h
  ·exact .inl (v.noR r h)
  ·rw[List.mem_singleton.mp h];exact .inr rfl
 ·rw[Bool.or_eq_true,te',addT_iff]at h
  have old:(g.te.lookup x).isSome=true\/S x=true->x∈us++tch ws\/x∈un:=fun h=>(v.u1 x hx (Bool.or_eq_true_iff.mpr h)).imp (fun h=>List.mem_append_left _ h) id
  rcases h with(h|h)|(h|h)
  ·exact old (.inl h)
  ·exact .inl (List.mem_append_right _ (tch_iff.mpr (.inr h)))
  ·exact old (.inr h)
  ·exact .inl (List.mem_append_right _ (tch_iff.mpr (.inl ((htt x).mpr h))))
 ·rw[Bool.or_eq_true,te',addT_iff]
  rcases List.mem_append.mp h with h|h
  ·rcases Bool.or_eq_true_iff.mp (v.u2 x hx h) with h|h
   ·exact .inl (.inl h)
   ·exact .inr (.inl h)
  ·rcases tch_iff.mp h with h|h
   ·exact .inr (.inr ((htt x).mp h))
   ·exact .inl (.inr h)
noncomputable abbrev lwE(L:Addr):Env:=envC "law" lLaw.scope L 304 lLaw.code
theorem dis_r{gm M:Mem}(d:Dis gm M){b:Addr}{x:AObj}(h:M b=some x):gm b=none:=by
 cases q:gm b with
 | none=>rfl
 | some y=>have:=d b y q;rw[h]at this;cases this
theorem mun_rd{gm M:Mem}(d:Dis gm M){b:Addr}{x:AObj}(h:M b=some x):mun gm M b=some x:=by rw[mun_r (dis_r d h)];exact h
theorem resplit{gm M m':Mem}{t:Addr}(d:Dis gm M)(h:Off t (mun gm M) m')(ht:gm t=none):∃ M',m'=mun gm M'/\Dis gm M'/\Off t M M':=by
 refine⟨fun b=>if gm b=none then m' b else none,?_,fun b x e=>if_neg (by rw[e];exact fun z=>nomatch z),fun b x n e=>?_⟩
 ·funext b
  cases q:gm b with
  | none=>rw[mun_r q,if_pos q]
  | some x=>rw[mun_l q];exact h b x (fun e=>by rw[e,ht]at q;cases q) (mun_l q)
 ·have hb:=dis_r d e
  exact(if_pos hb).trans (h b x n (mun_rd d e))
theorem mun_more{gm R0:Mem}{a:Addr}{y:AObj}(h:gm a=none):mset (mun gm R0) a y=mun gm (mset R0 a y):=by
 funext b
 by_cases e:b=a
 ·subst e;rw[mset_self,mun_r h,mset_self]
 ·rw[mset_ne e]
  cases q:gm b with
  | none=>rw[mun_r q,mun_r q,mset_ne e]
  | some y=>rw[mun_l q,mun_l q]
theorem mun_no(m:Mem):mun (fun _=>none) m=m:=rfl
theorem dis_set{gm M:Mem}{a:Addr}{y:AObj}(d:Dis gm M)(h:gm a=none):Dis gm (mset M a y):=fun b x e=>by
 rw[mset_ne (fun q=>by rw[q,h]at e;cases e)];exact d b x e
noncomputable def AB:List Str:=["a","b"]
noncomputable def WY:List Str:=["left","right","nonassoc","left","up"]
structure LsOk(ls:List Lvl):Prop where
 nd:(ls.map (·.1)).Nodup
 key:∀ q∈ls,q.1∈TERMS
 way:∀ q∈ls,PyData.strOk q.2.1=true
theorem terms_ok:∀ x∈TERMS,x.cps.size≤100/\(reprText x).length≤20000/\PyData.strOk x=true:=by decide +kernel
theorem ways_ok:∀ x∈WY,PyData.strOk x=true/\(x∈([("left" : Str),"right","nonassoc"]:List Str)↔x≠"up"):=by decide +kernel
theorem small6{n:Nat}(h:n≤6):Builtin.Range.small 0 (0+(n:Int)) 1=true:=by
 have:n=0\/n=1\/n=2\/n=3\/n=4\/n=5\/n=6:=by lia
 rcases this with rfl|rfl|rfl|rfl|rfl|rfl|rfl<;>decide +kernel
structure S1(L ta la:Addr)(ls:List Lvl)(ts:List Int)(M:Mem):Prop where
 c1:M (L+1)=some (.cell (some (.ref la)))
 c2:M (L+2)=some (.cell none)
 c3:M (L+3)=some (.cell none)
 c4:M (L+4)=some (.cell none)
 hta:M ta=some (.list (ts.map .int))
 hla:∃ ep,M la=some (.dict (lvA ls) ep)
theorem S1.off{L ta la b:Addr}{ls:List Lvl}{ts us:List Int}{M M':Mem}(S:S1 L ta la ls ts M)(h:Off ta M M')(h2:M' ta=some (.list (us.map .int))):S1 L ta la ls us M':=
 ⟨h _ _ (nex S.c1 S.hta) S.c1,h _ _ (nex S.c2 S.hta) S.c2,h _ _ (nex S.c3 S.hta) S.c3,h _ _ (nex S.c4 S.hta) S.c4,h2,S.hla.imp fun ep e=>h _ _ (nex e S.hta) e⟩
inductive J1a(L ta la a:Addr)(o:Obj)(w:Int)(i:Nat)(l:Loc)(m:Mem):Prop
 | mk (h1_:LSub [("tape",.ref ta),("grammar",.ref a),("wish",.int w)] l) (ls:List Lvl) (ts:List Int) (gm M:Mem) (h2_:m=mun gm M) (h3_:LsOk ls) (h4_:ls.length≤i) (h5_:GMem aGrammar aProd { g0 AB o with pr:=lvA ls } a gm) (h6_:Dis gm M) (h7_:S1 L ta la ls ts M) (h8_:ts.length≤40)
section
variable {W:Wd}{A:Around}{env:Env}{outer:Outs}{loc:Loc}{mem:Mem}{E:Ex W}
theorem ne_bb{a b:Bool}{Q:V->Loc->Mem->Prop}(h:Q (.bool (a != b)) loc mem):OpV W A env outer (fun|[x,y]=>compareOp .NotEq x y|_=>pure .none) [.bool a,.bool b] loc mem Q E:=op2 fun R F s v u S r1 r2=>by
 obtain rfl:=r1.isBool;obtain rfl:=r2.isBool;exact PyProof.Rows.ne_bool (Post.mk (.bool _) S h)
theorem law_a{L:Addr}{ns:List Int}{M0:Mem}{Q:Fl->Loc->Mem->Prop}(hK:W.K=hdK W.w.params)(cd:Calm A 310 2000)(hf:Fits A (lwE L) outer)(hns:ns.length≤63)
  (c1:M0 (L+1)=some (.cell none)) (c2:M0 (L+2)=some (.cell none)) (c3:M0 (L+3)=some (.cell none)) (c4:M0 (L+4)=some (.cell none))
  (h:∀ l M ta la a gm ls ts o w,LSub [("tape",.ref ta),("grammar",.ref a),("wish",.int w)] l->LsOk ls->ls.length≤6->SetB W o (fun _=>false) 0->ts.length≤40->S1 L ta la ls ts M->GMem aGrammar aProd { g0 AB o with pr:=lvA ls } a gm->Dis gm M->TrS W A (lwE L) outer (execs (lLaw.body.drop 5) (lwE L)) l (mun gm M) Q E) :
  TrS W A (lwE L) outer (execs lLaw.body (lwE L)) [("script",.lst (vInts ns))] M0 Q E:=by
 refine s_cons ?_
 refine s_assign1 rfl rfl rfl ?_;refine e_slice ?_;refine pu rfl ?_;refine e_int ?_
 refine⟨40,rfl,?_⟩
 skip
 refine⟨_,_,.lst _,PySem.F.slot_list_getitem.lookup,?_⟩
 refine slice_own (xs:=ns.map .int) (ys:=(ns.take 40).map .int) (.lst _) (by rw[List.length_map];exact Nat.le_trans hns (by decide)) (fun us hl F r=>?_) (fun ta hta=>?_)
 ·rw[show some (40:Int)=some ((40:Nat):Int) from rfl,pick_upto,List.map_take];exact r.take 40
 have hz0:(ns.take 40).length≤40:=by rw[List.length_take];exact Nat.min_le_left _ _
 generalize ns.take 40=t0 at hz0 ⊢
 obtain⟨M1,hM1⟩:∃ M1,M1=mset M0 ta (.list (t0.map V.int)):=⟨_,rfl⟩
 have hta1:M1 ta=some (.list (t0.map V.int)):=by rw[hM1,mset_self]
 have s1:Sub M0 M1:=by rw[hM1];exact sub_mset hta (sub_refl _)
 have d1:=s1 _ _ c1
 have d2:=s1 _ _ c2
 have d3:=s1 _ _ c3
 have d4:=s1 _ _ c4
 rw[<-hM1]
 clear hM1 s1 c1 c2 c3 c4 hta
 refine s_cons ?_;refine s_assign1 rfl rfl rfl ?_;refine c_topN hK (fun _=>rfl) (fun _=>rfl) rfl rfl ?_;refine a_cons rfl ?_;refine e_list ?_;refine a_pus rfl ?_
 refine new_lst (xs:=vStrs AB) (show 2≤sizeLine by decide) ?_
 refine a_nil ?_
 rw[<-mun_no M1]
 refine Op.frame (Q:=fun v l m=>l=[(("script" : Str),V.lst (vInts ns)),("tape",.ref ta)]/\∃ a o,v = .ref a/\SetB W o (fun _=>false) 0/\GMem aGrammar aProd (g0 AB o) a m) (fun _ _ e=>nomatch e) (gInit_spec hK (cd.mono (by decide) (by decide)) (show 2≤100 by decide) (by decide +kernel) (by decide +kernel) (fun a m o T G=>⟨rfl,a,o,rfl,T,G⟩)) ?_
 rintro v l gm dd ⟨rfl,a,o,rfl,T,G⟩
 refine s_cons ?_;refine s_assign rfl ?_
 refine e_dict0 (fun la hla=>?_)
 obtain⟨g1,g2⟩:=mun_none hla
 rw[mun_more g1]
 have z1:L+1≠la:=nex d1 g2
 have z2:L+2≠la:=nex d2 g2
 have z3:L+3≠la:=nex d3 g2
 have z4:L+4≠la:=nex d4 g2
 have zt:ta≠la:=nex hta1 g2
 have dd2:=dis_set (y:=.dict [] 0) dd g1
 refine st_cell rfl rfl rfl (mun_rd dd2 (by rw[mset_ne z1];exact d1)) ?_
 have gl:gm (L+1)=none:=dis_r dd d1
 rw[mun_more gl]
 have dd3:=dis_set (y:=.cell (some (.ref la))) dd2 gl
 have kp:∀ b x,b≠L+1->M1 b=some x->mset (mset M1 la (.dict [] 0)) (L+1) (.cell (some (.ref la))) b=some x:=fun b x n e=>by rw[mset_ne n,mset_ne (nex e g2)];exact e
 have nl:∀ k:Nat,L+(k+2)≠L+1:=fun k e=>by lia
 have S0:S1 L ta la [] t0 (mset (mset M1 la (.dict [] 0)) (L+1) (.cell (some (.ref la)))):=⟨mset_self _ _ _,kp _ _ (nl 0) d2,kp _ _ (nl 1) d3,kp _ _ (nl 2) d4,kp _ _ (Ne.symm (nex d1 hta1)) hta1,0,by rw[mset_ne (Ne.symm z1),mset_self];rfl⟩
 generalize mset (mset M1 la (.dict [] 0)) (L+1) (.cell (some (.ref la)))=M2 at dd3 S0
 clear kp dd2 zt z1 z2 z3 z4 g1 g2 hla d1 d2 d3 d4 hta1 dd gl
 refine s_cons ?_;refine s_assign1 rfl rfl rfl ?_;refine c_topN hK (fun _=>rfl) (fun _=>rfl) rfl rfl ?_;refine a_pus rfl ?_
 refine next_spec hK (cd.mono (by decide) (by decide)) (mun_rd dd3 S0.hta) (by lia) ?_
 rw[mun_more (dis_r dd3 S0.hta)]
 have S2:=S0.off (b:=L) (M':=mset M2 ta (.list ((tNext t0).2.map .int))) (off_set _) (mset_self _ _ _)
 have dd4:=dis_set (y:=.list ((tNext t0).2.map .int)) dd3 (dis_r dd3 S0.hta)
 have hz1:=Nat.le_trans (tNext_len t0) hz0
 generalize mset M2 ta (.list ((tNext t0).2.map .int))=M3 at S2 dd4
 generalize (tNext t0).2=ts at S2 hz1
 generalize (tNext t0).1=wish
 clear S0 dd3
 refine s_cons ?_;refine s_for (fun _=>rfl) ?_;refine c_typN hK (fun _=>rfl) rfl rfl ?_;refine a_cons rfl ?_;refine e_binop2 rfl rfl ?_
 refine mod_ii (by decide) ?_
 have r7:=fmod_rng (a:=wish) (b:=7) (by decide)
 obtain⟨n,hn⟩:∃ n:Nat,wish.fmod 7=(n:Int):=⟨(wish.fmod 7).toNat,(Int.toNat_of_nonneg r7.1).symm⟩
 have hn6:n≤6:=by lia
 rw[hn]
 refine a_nil ?_
 refine range1 (fun rg t1 t2 t3 hrg=>?_)
 obtain⟨g1,g2⟩:=mun_none hrg
 rw[mun_more g1]
 rw[show(n:Int)=((0:Int)+(n:Nat)) from(Int.zero_add _).symm]
 have dd5:=dis_set (y:=.raw (rangeObj 0 (0+(n:Int)) 1 t1 t2 t3)) dd4 g1
 have S3:S1 L ta la [] ts (mset M3 rg (.raw (rangeObj 0 (0+(n:Int)) 1 t1 t2 t3))):=⟨by rw[mset_ne (nex S2.c1 g2)];exact S2.c1,by rw[mset_ne (nex S2.c2 g2)];exact S2.c2,by rw[mset_ne (nex S2.c3 g2)];exact S2.c3,by rw[mset_ne (nex S2.c4 g2)];exact S2.c4,by rw[mset_ne (nex S2.hta g2)];exact S2.hta,S2.hla.imp fun ep e=>by rw[mset_ne (nex e g2)];exact e⟩
 have hrm:=mset_self M3 rg (.raw (rangeObj 0 (0+(n:Int)) 1 t1 t2 t3))
 generalize mset M3 rg (.raw (rangeObj 0 (0+(n:Int)) 1 t1 t2 t3))=M4 at dd5 S3 hrm
 clear S2 dd4 g1 g2 hrg
 refine for_map (ys:=List.range n) (fun i _=>.int ((0:Int)+i)) (itr_range (k:=0) (n:=n) cd.handled (mun_rd dd5 hrm) (small6 hn6)) (J1a L ta la a o wish) (fun i l m hi J=>?_) (fun l m J=>?_) (fun i y l m hy J=>?_) ⟨rfl,[],ts,gm,M4,rfl,⟨.nil,fun q hq=>(nomatch hq),fun q hq=>(nomatch hq)⟩,Nat.zero_le _,G,dd5,S3,hz1⟩
 ·unfold rangeItem
  rw[List.length_range]at hi
  by_cases q:i<n
  ·rw[if_pos q,List.getElem?_range q];rfl
  ·rw[if_neg q,List.getElem?_eq_none (by rw[List.length_range];lia)];rfl
 ·obtain⟨hl,ls,ts,gm,M,rfl,I,hz,G,d,S,ht⟩:=J
  rw[List.length_range]at hz
  refine s_nil ?_
  exact h l M ta la a gm ls ts o wish hl I (by lia) T ht S G d
 ·obtain⟨hl,ls,ts,gm,M,rfl,I,hz,G,d,S,ht⟩:=J
  have hin:i<n:=by have:=(List.getElem?_eq_some_iff.mp hy).1;rwa [List.length_range]at this
  refine Op.locs hl ?_
  clear hl hy
  have hta:=mun_rd d S.hta
  refine asg_name1 rfl rfl ?_;(refine nameQ ?_;intro qq ee;refine s_cons ?_);refine s_assign1 rfl rfl rfl ?_;refine c_topN hK (fun _=>rfl) (fun _=>rfl) rfl rfl ?_;refine a_pus rfl ?_
  refine next_spec hK (cd.mono (by decide) (by decide)) hta (by lia) ?_
  rw[mun_more (dis_r d S.hta)]
  have S':=S.off (b:=L) (M':=mset M ta (.list ((tNext ts).2.map .int))) (off_set _) (mset_self _ _ _)
  have d':=dis_set (y:=.list ((tNext ts).2.map .int)) d (dis_r d S.hta)
  have ht':=Nat.le_trans (tNext_len ts) ht
  generalize mset M ta (.list ((tNext ts).2.map .int))=M' at S' d'
  generalize (tNext ts).2=us at S' ht'
  generalize (tNext ts).1=cell
  clear S d hta ht ts M
  have c1:=mun_rd d' S'.c1
  obtain⟨ep,hla⟩:=S'.hla
  obtain⟨x,hx,hxe⟩:=at_mod TERMS (by decide) cell
  obtain⟨y,hy,hye⟩:=at_mod WY (by decide) (cell.fdiv 4)
  have p4:=fmod_rng (a:=cell) (b:=4) (by decide)
  have p5:=fmod_rng (a:=cell.fdiv 4) (b:=5) (by decide)
  obtain⟨x1,x2,x3⟩:=terms_ok x hx
  obtain⟨y1,y2⟩:=ways_ok y hy
  refine s_cons ?_
  refine s_assign1 rfl rfl rfl ?_;refine e_sub (fun _ _=>rfl) ?_;refine e_list ?_;refine a_pus rfl ?_
  refine new_lst (xs:=vStrs TERMS) (show 4≤sizeLine by decide) ?_
  refine e_binop2 rfl rfl ?_
  refine mod_ii (by decide) ?_
  refine sub_sq (x:=.str x) (.lst _) p4.1 (Int.lt_of_lt_of_le p4.2 (by decide)) hxe ?_
  refine s_cons ?_;refine s_assign1 rfl rfl rfl ?_;refine e_sub (fun _ _=>rfl) ?_;refine e_list ?_;refine a_pus rfl ?_
  refine new_lst (xs:=vStrs WY) (show 5≤sizeLine by decide) ?_
  refine e_binop ?_;refine e_binop2 rfl rfl ?_
  refine fdiv_ii (by decide) (nopy (by decide)) ?_
  refine e_int ?_
  refine mod_ii (by decide) ?_
  refine sub_sq (x:=.str y) (.lst _) p5.1 (Int.lt_of_lt_of_le p5.2 (by decide)) hye ?_
  refine s_cons ?_
  refine Tr.locs (loc':=[("tape",.ref ta),("grammar",.ref a),("wish",.int wish),("cell",.int cell),("term",.str x),("way",.str y)]) rfl ?_
  refine Tr.mono (Q:=fun f l m'=>f = .next/\m'=mun gm M'/\∃ b:Bool,LSub [("tape",.ref ta),("grammar",.ref a),("wish",.int wish),("cell",.int cell),("term",.str x),("way",.str y),("good",.bool b)] l/\(b=true↔SpOk { g0 AB o with pr:=lvA ls } x y)) (nameQ ?_) ?_
  ·intro qq ee
   refine s_assign1 rfl rfl rfl ?_;refine e_and2 ?_;refine e_cmp1 rfl rfl ?_;refine e_cell rfl rfl rfl rfl (by first|assumption|simp[mset_self]) ?_
   refine notin_dict (mun_rd d' hla) ?_
   cases q:getA (lvA ls) x with
   | some v=>
    refine tr_bool ?_
    refine only_f ?_
    skip
    exact⟨rfl,rfl,false,rfl,fun e=>(nomatch e),fun e=>nomatch (show getA (lvA ls) x=none from e.1).symm.trans q⟩
   | none=>
    refine tr_bool ?_
    refine only_t ?_
    refine e_cmp2 rfl rfl rfl ?_;refine ne_ss ?_
    exact⟨rfl,rfl,_,rfl,fun e=>⟨q,y2.mpr (by simpa using e)⟩,fun e=>by have:=y2.mp e.2;simpa using this⟩
  ·rintro f l m' ⟨rfl,rfl,b,hl,hb⟩
   refine s_cons ?_
   refine Tr.locs hl ?_
   clear hl
   have hlz:(lvA ls).length≤100:=by unfold lvA;rw[List.length_map];lia
   refine s_if ?_;refine b_cmp rfl ?_;refine c_topN hK (fun _=>rfl) (fun _=>rfl) rfl rfl ?_;refine a_pu rfl ?_;refine a_pu rfl ?_;refine a_pu rfl ?_;refine a_cons rfl ?_;refine e_binop2 rfl rfl ?_
   refine fdiv_ii (by decide) (nopy (by decide)) ?_
   refine a_nil ?_
   refine lset_spec hK (cd.mono (by decide) (by decide)) hf G d' rfl rfl hlz x1 x2 y1 (fun hn=>?_) (fun hs gm2 G2 d2=>?_)
   ·have hb:b=false:=by
     cases b with
     | false=>rfl
     | true=>exact absurd (hb.mp rfl) hn
    subst hb
    refine pu rfl ?_
    refine ne_bb ?_
    refine tr_bool ?_
    refine only_f ?_
    refine s_nil ?_;refine s_cons ?_;refine s_if ?_;refine b_value1 rfl rfl ?_;refine tr_bool ?_
    refine only_f ?_
    refine s_nil ?_;refine s_nil ?_
    exact⟨rfl,ls,us,gm,M',rfl,I,by lia,G,d',S',ht'⟩
   ·have hb:b=true:=hb.mpr hs
    subst hb
    refine pu rfl ?_
    refine ne_bb ?_
    refine tr_bool ?_
    refine only_f ?_
    refine s_nil ?_;refine s_cons ?_;refine s_if ?_;refine b_value1 rfl rfl ?_;refine tr_bool ?_
    refine only_t ?_
    have c2:=mun_rd d2 S'.c1
    (refine nameQ ?_;intro qq ee;refine s_cons ?_);refine s_assign_sub rfl ?_;refine e_tuple ?_;refine a_pu rfl ?_;refine a_cons rfl ?_;refine e_binop2 rfl rfl ?_
    refine fdiv_ii (by decide) (nopy (by decide)) ?_
    refine a_nil ?_
    refine new_tup (show 2≤sizeLine by decide) ?_
    refine e_cell rfl rfl rfl rfl (by first|assumption|simp[mset_self]) ?_;refine pu rfl ?_
    refine setItem_dict (mun_rd d2 hla) (Nat.le_trans hlz (by decide)) (fun ep2=>?_)
    have q:getA (lvA ls) x=none:=hs.1
    have e:stA (lvA ls) x (.tup [.str y,.int (cell.fdiv 20)])=lvA (ls++[(x,(y,cell.fdiv 20))]):=by
     rw[stA_new q];unfold lvA;rw[List.map_append];rfl
    rw[e,mun_more (dis_r d2 hla)]
    refine s_nil ?_;refine s_nil ?_
    have n0:ta≠la:=nex S'.hta hla
    refine⟨rfl,ls++[(x,(y,cell.fdiv 20))],us,gm2,_,rfl,⟨?_,fun z hz=>?_,fun z hz=>?_⟩,by rw[List.length_append,List.length_singleton];lia,?_,dis_set d2 (dis_r d2 hla),⟨by rw[mset_ne (nex S'.c1 hla)];exact S'.c1,by rw[mset_ne (nex S'.c2 hla)];exact S'.c2,by rw[mset_ne (nex S'.c3 hla)];exact S'.c3,by rw[mset_ne (nex S'.c4 hla)];exact S'.c4,by rw[mset_ne n0];exact S'.hta,ep2,mset_self _ _ _⟩,ht'⟩
    ·rw[List.map_append,List.nodup_append]
     refine⟨I.nd,by simp,fun a ha b hb e9=>?_⟩
     have hb:b=x:=List.mem_singleton.mp hb
     obtain⟨p,hp,rfl⟩:=List.mem_map.mp ha
     have:=lvA_get I.nd hp
     rw[e9,hb,q]at this;cases this
    ·rcases List.mem_append.mp hz with hz|hz
     ·exact I.key z hz
     ·rw[List.mem_singleton.mp hz];exact hx
    ·rcases List.mem_append.mp hz with hz|hz
     ·exact I.way z hz
     ·rw[List.mem_singleton.mp hz];exact y1
    ·have e2:lvA ls++[(x,V.tup [.str y,.int (cell.fdiv 20)])]=lvA (ls++[(x,(y,cell.fdiv 20))]):=by unfold lvA;rw[List.map_append];rfl
     have G2':GMem aGrammar aProd { g0 AB o with pr:=lvA ls++[(x,V.tup [.str y,.int (cell.fdiv 20)])] } a gm2:=G2
     rw[e2]at G2';exact G2'
end
noncomputable def lawB:List Stmt:=stBody (stAt lLaw.body 8)
structure S2(L ta ra la:Addr)(ls:List Lvl)(R:List Rul)(us un:List Str)(ts:List Int)(M:Mem):Prop where
 c1:M (L+1)=some (.cell (some (.ref la)))
 c2:M (L+2)=some (.cell (some (.lst (vStrs us))))
 c3:M (L+3)=some (.cell (some (.lst (vStrs un))))
 c4:∃ z,M (L+4)=some (.cell z)
 hta:M ta=some (.list (ts.map .int))
 hra:M ra=some (.list (R.map rulV))
 hla:∃ ep,M la=some (.dict (lvA ls) ep)
 n1:ta≠ra
theorem S2.off{L ta ra la:Addr}{ls:List Lvl}{R:List Rul}{us un:List Str}{ts vs:List Int}{M M':Mem}(S:S2 L ta ra la ls R us un ts M)(h:Off ta M M')(h2:M' ta=some (.list (vs.map .int))):S2 L ta ra la ls R us un vs M':=
 ⟨h _ _ (nex S.c1 S.hta) S.c1,h _ _ (nex S.c2 S.hta) S.c2,h _ _ (nex S.c3 S.hta) S.c3,S.c4.imp fun z e=>h _ _ (nex e S.hta) e,h2,h _ _ (Ne.symm S.n1) S.hra,S.hla.imp fun ep e=>h _ _ (nex e S.hta) e,S.n1⟩
theorem S2.words{L ta ra la:Addr}{ls:List Lvl}{R:List Rul}{us un:List Str}{ts:List Int}{M:Mem}{z:Option V}(S:S2 L ta ra la ls R us un ts M):S2 L ta ra la ls R us un ts (mset M (L+4) (.cell z)):=by
 obtain⟨z0,c4⟩:=S.c4
 have k:∀ {b x},M b=some x->b≠L+4->mset M (L+4) (.cell z) b=some x:=fun {b x} e n=>by rw[mset_ne n];exact e
 have nl:∀ j:Nat,j<4->L+j≠L+4:=fun j hj e=>by lia
 exact⟨k S.c1 (nl 1 (by decide)),k S.c2 (nl 2 (by decide)),k S.c3 (nl 3 (by decide)),⟨z,mset_self _ _ _⟩,k S.hta (Ne.symm (nex c4 S.hta)),k S.hra (Ne.symm (nex c4 S.hra)),S.hla.imp fun ep e=>k e (Ne.symm (nex c4 e)),S.n1⟩
section
variable {W:Wd}{A:Around}{env:Env}{outer:Outs}{loc:Loc}{mem:Mem}{E:Ex W}
theorem turn_a{L ta ra la a:Addr}{ls:List Lvl}{R:List Rul}{us un:List Str}{ts:List Int}{w:Int}{gm M:Mem}{i:Nat}{Q:Fl->Loc->Mem->Prop}(hK:W.K=hdK W.w.params)(cd:Calm A 310 2000)(d:Dis gm M)(S:S2 L ta ra la ls R us un ts M)(ht:ts.length≤40)
  (hbrk:Q .brk [("tape",.ref ta),("grammar",.ref a),("wish",.int w),("rules",.ref ra),("turn",.int (0+i))] (mun gm M))
  (h:∀ M' x n ws rd vs,x∈HEADS->0≤n/\n<1000000->WsOk ws->ReadK ls x ws rd->Dis gm M'->S2 L ta ra la ls R us un vs M'->M' (L+4)=some (.cell (some (.lst (vStrs ws))))->vs.length≤40->
   TrS W A (lwE L) outer (execs (lawB.drop 6) (lwE L)) ([("tape",.ref ta),("grammar",.ref a),("wish",.int w),("rules",.ref ra),("head",.str x),("line",.int n),("due",rdV x rd)]) (mun gm M') Q E) :
  TrS W A (lwE L) outer (execs lawB (lwE L)) [("tape",.ref ta),("grammar",.ref a),("wish",.int w),("rules",.ref ra),("turn",.int (0+i))] (mun gm M) Q E:=by
 have htz:((ts.map V.int).length:Int)<2 ^ 63:=by rw[List.length_map];lia
 have hta:=mun_rd d S.hta
 refine s_cons ?_
 refine Tr.mono (Q:=fun f l m'=>(f = .brk\/f = .next)/\l=[(("tape" : Str),V.ref ta),("grammar",.ref a),("wish",.int w),("rules",.ref ra),("turn",.int (0+i))]/\m'=mun gm M) (nameQ ?_) ?_
 ·intro qq ee
  refine s_if ?_;refine b_bool ?_;refine b_and_cons ?_;refine b_value1 rfl rfl ?_;refine tr_int ?_
  refine⟨fun hb=>?_,fun hb=>?_⟩
  ·refine b_and_cons ?_;refine b_not ?_;refine b_value1 rfl rfl ?_
   refine tr_list (.own hta) htz ?_
   skip
   refine⟨fun hb2=>?_,fun hb2=>?_⟩
   ·refine b_and_nil ?_
    refine only_t ?_
    refine s_cons ?_;refine s_break ?_
    exact⟨.inl rfl,rfl,rfl⟩
   ·skip
    refine only_f ?_
    refine s_nil ?_
    exact⟨.inr rfl,rfl,rfl⟩
  ·refine only_f ?_
   refine s_nil ?_
   exact⟨.inr rfl,rfl,rfl⟩
 rintro f l m' ⟨rfl|rfl,rfl,rfl⟩
 ·exact hbrk
 clear hbrk
 have r8:=fmod_rng (a:=(tNext ts).1) (b:=8) (by decide)
 obtain⟨x,hx,hxe⟩:=at_mod HEADS (by decide) (tNext ts).1
 refine s_cons ?_;refine s_assign1 rfl rfl rfl ?_;refine c_topN hK (fun _=>rfl) (fun _=>rfl) rfl rfl ?_;refine a_pus rfl ?_
 refine next_spec hK (cd.mono (by decide) (by decide)) hta (by lia) ?_
 rw[mun_more (dis_r d S.hta)]
 have S':=S.off (M':=mset M ta (.list ((tNext ts).2.map .int))) (off_set _) (mset_self _ _ _)
 have d':=dis_set (y:=.list ((tNext ts).2.map .int)) d (dis_r d S.hta)
 have ht':=Nat.le_trans (tNext_len ts) ht
 generalize mset M ta (.list ((tNext ts).2.map .int))=M' at S' d'
 generalize (tNext ts).2=vs at S' ht'
 generalize (tNext ts).1=cell at r8 hxe ⊢
 clear S d hta ht htz ts M
 refine s_cons ?_
 refine s_assign1 rfl rfl rfl ?_;refine e_sub (fun _ _=>rfl) ?_;refine c_topN0 hK (fun _=>rfl) (fun _=>rfl) ?_
 refine heads_spec hK (cd.mono (by decide) (by decide)) ?_
 refine e_binop2 rfl rfl ?_
 refine mod_ii (by decide) ?_
 refine sub_sq (x:=.str x) (.lst _) r8.1 (Int.lt_of_lt_of_le r8.2 (by decide)) hxe ?_
 refine s_cons ?_;refine s_assign1 rfl rfl rfl ?_;refine e_binop ?_;refine e_binop2 rfl rfl ?_
 refine fdiv_ii (by decide) (nopy (by decide)) ?_
 refine e_int ?_
 refine mod_ii (by decide) ?_
 have r6:=fmod_rng (a:=cell.fdiv 8) (b:=1000000) (by decide)
 generalize (cell.fdiv 8).fmod 1000000=n at r6
 refine s_cons ?_;refine s_assign rfl ?_;refine c_topN hK (fun _=>rfl) (fun _=>rfl) rfl rfl ?_;refine a_pus rfl ?_
 refine words_spec hK (cd.mono (by decide) (by decide)) (mun_rd d' S'.hta) ht' (fun ws us2 m2 hw h1 h2 off=>?_)
 obtain⟨M2,rfl,d2,off2⟩:=resplit d' off (dis_r d' S'.hta)
 have S2:=S'.off off2 (by rwa [mun_r (dis_r d' S'.hta)]at h1)
 have ht2:=Nat.le_trans h2 ht'
 clear off off2 h1 h2 S' d' ht' M'
 obtain⟨z,c4⟩:=S2.c4
 refine st_cell rfl rfl rfl (mun_rd d2 c4) ?_
 have g4:=dis_r d2 c4
 rw[mun_more g4]
 have S3:=S2.words (z:=some (.lst (vStrs ws)))
 have d3:=dis_set (y:=.cell (some (.lst (vStrs ws)))) d2 g4
 have c5:=mset_self M2 (L+4) (.cell (some (.lst (vStrs ws))))
 generalize mset M2 (L+4) (.cell (some (.lst (vStrs ws))))=M3 at S3 d3 c5
 clear S2 d2 g4 c4 M2
 have k1:=mun_rd d3 S3.c1
 have k4:=mun_rd d3 c5
 obtain⟨ep,hla⟩:=S3.hla
 refine s_cons ?_;refine s_assign1 rfl rfl rfl ?_;refine c_topN hK (fun _=>rfl) (fun _=>rfl) rfl rfl ?_;refine a_pu rfl ?_;refine a_cons rfl ?_;refine e_cell rfl rfl rfl rfl (by first|assumption|simp[mset_self]) ?_;refine a_cons rfl ?_;refine e_cell rfl rfl rfl rfl (by first|assumption|simp[mset_self]) ?_;refine a_nil ?_
 refine reading_spec hK (cd.mono (by decide) (by decide)) (mun_rd d3 hla) hw.hz (heads_ok x hx).1.2.2 (fun rd hr=>?_)
 exact Tr.locs (loc':=[("tape",.ref ta),("grammar",.ref a),("wish",.int w),("rules",.ref ra),("head",.str x),("line",.int n),("due",rdV x rd)]) rfl (h M3 x n ws rd us2 hx r6 hw hr d3 S3 c5 ht2)
end
noncomputable def pairR(r:Rul):V:=.tup [.str r.1,.tup (vStrs r.2.1)]
noncomputable def cutG:V->Option V
 | .tup l=>some (.tup (l.take 2))
 | _=>none
theorem cutG_map(R:List Rul):(R.map rulV).filterMap cutG=R.map pairR:=by
 induction R with
 | nil=>rfl
 | cons r R ih=>exact congrArg (_::·) ih
theorem own_hit{ra:Addr}{xs:List V}{mem m:Mem}(h:mem ra=some (.list xs))(s:Sub mem m)(i:Nat):ownItem ra i m=some xs[i]?:=ownItem_eq (s _ _ h)
theorem vStrs_inj{a b:List Str}(h:vStrs a=vStrs b):a=b:=by
 unfold vStrs at h
 exact(List.map_inj_right (fun x y e=>by cases e;rfl)).mp h
theorem pairR_in{R:List Rul}{x:Str}{body:List Str}:V.tup [.str x,.tup (vStrs body)]∈R.map pairR↔∃ r∈R,(r.1,r.2.1)=(x,body):=by
 rw[List.mem_map]
 constructor
 ·rintro⟨r,hr,e⟩
  refine⟨r,hr,?_⟩
  injection e with e
  injection e with e1 e2
  injection e1 with e1
  injection e2 with e2 e3
  injection e2 with e2
  rw[e1,vStrs_inj e2]
 ·rintro⟨r,hr,e⟩
  refine⟨r,hr,?_⟩
  unfold pairR
  rw[show r.1=x from congrArg (·.1) e,show r.2.1=body from congrArg (·.2) e]
theorem isD_mt{ys:List Str}(h:∀ y∈ys,y∈MT):(vStrs ys).all (isD 0)=true:=by
 rw[List.all_eq_true];intro v hv
 obtain⟨y,hy,rfl⟩:=inM hv
 exact mt_ok y (h y hy)
theorem isD_pair{x:Str}{body:List Str}(hx:x∈HS)(h:∀ y∈body,y∈MT):isD 2 (.tup [.str x,.tup (vStrs body)])=true:=by
 show(List.all [V.str x,V.tup (vStrs body)] (Mine.isD 1))=true
 simp only [List.all_cons,List.all_nil,Bool.and_true,Bool.and_eq_true]
 exact⟨(hs_ok x hx).1.2.1,isD_mt h⟩
theorem read_body{ls:List Lvl}{head:Str}{ws:List Str}{body:List Str}{q:Str×Int}(hw:∀ w∈ws,w∈WQ)(h:ReadK ls head ws (some (body,q))):head∈HS/\(∀ s∈ws,mtF s≠none)/\(∀ y∈body,y∈MT)/\body.length≤ws.length:=by
 have all:∀ ms:List Str,ws.map mtF=ms.map some->∀ s∈ws,mtF s≠none:=fun ms e s hs z=>by
  have:mtF s∈ms.map some:=e▸List.mem_map_of_mem hs
  obtain⟨y,_,e2⟩:=List.mem_map.mp this
  rw[z]at e2;cases e2
 have len:∀ ms:List Str,ws.map mtF=ms.map some->ms.length=ws.length:=fun ms e=>by
  have:=congrArg List.length e;rw[List.length_map,List.length_map]at this;exact this.symm
 cases h with
 | @prec b t q h1 h2 h3=>
  refine⟨h1,all _ h2,fun y hy=>(map_in h2 hw).1 y (List.mem_append_left _ hy),?_⟩
  have:=len _ h2
  rw[List.length_append]at this;lia
 | @plain ms h1 h2 h3=>exact⟨h1,all _ h2,(map_in h2 hw).1,Nat.le_of_eq (len _ h2)⟩
section
variable {W:Wd}{A:Around}{env:Env}{outer:Outs}{loc:Loc}{mem:Mem}{E:Ex W}
theorem glen_spec{g:GR}{a:Addr}{gm:Mem}{Q:V->Loc->Mem->Prop}(hK:W.K=hdK W.w.params)(c:Calm A 700 6000)(G:GMem aGrammar aProd g a gm)(hz:g.prods.length≤1000)(h:Q (.int ((g.prods.length:Int)+1)) loc gm) :
  OpV W A env outer (fun vs=>call (.ref 144) vs) [.ref a] loc gm Q E:=by
 obtain⟨adr,cc,M,ok,rfl⟩:=G
 refine call_fn (bs:=[("self",.ref (adr .self))]) (by rw[hK];exact gLen.at _) (by rw[hK];first|rfl|kernel_rfl|decide +kernel) (c.room (by decide)) ?_ (by intro y hy;simp at hy;rcases hy with rfl;rfl) (by decide) rfl rfl rfl ?_
 ·intro F s vs hb hk r
  obtain⟨_,_,r1,r2,rfl⟩:=r.isCons
  obtain rfl:=r2.isNil
  exact⟨_,BindsTo.of_eq rfl,.cons r1 .nil⟩
 ·intro L outer
  have cd:=c.deeper (envX "Grammar.__len__" gLen.scope L 144 gLen.code [])
  obtain⟨epd,hdict⟩:=ok.dict
  have hx:=M.get ok.self
  have hd:=M.get hdict
  have hp:=M.get ok.pl
  have e:(g.p0::g.prods.map (pV aProd)).length=g.prods.length+1:=by rw[List.length_cons,List.length_map]
  (refine nameS ?_;intro aa vv oo qq ee;refine s_cons ?_);refine s_ret ?_;refine c_bltN hK (fun _=>rfl) rfl rfl ?_;refine a_cons rfl ?_;refine e_attr1 rfl rfl ?_
  refine get_o hK (fun _=>by kernel_rfl) (.own hx hd) rfl rfl ?_
  refine a_nil ?_
  refine len_sq (.own hp) (by rw[e];lia) ?_
  rw[e]
  skip
  exact⟨_,sub_refl _,h⟩
theorem gitem_spec{g:GR}{a:Addr}{gm:Mem}{Q:V->Loc->Mem->Prop}(hK:W.K=hdK W.w.params)(c:Calm A 700 6000)(G:GMem aGrammar aProd g a gm)(h:Q g.p0 loc gm) :
  OpV W A env outer (fun vs=>call (.ref 151) vs) [.ref a,.int 0] loc gm Q E:=by
 obtain⟨adr,cc,M,ok,rfl⟩:=G
 refine call_fn (bs:=[("self",.ref (adr .self)),("index",.int 0)]) (by rw[hK];exact gItem.at _) (by rw[hK];first|rfl|kernel_rfl|decide +kernel) (c.room (by decide)) ?_ (by intro y hy;simp at hy;rcases hy with rfl|rfl<;>rfl) (by decide) rfl rfl rfl ?_
 ·intro F s vs hb hk r
  obtain⟨_,_,r1,r2,rfl⟩:=r.isCons
  obtain⟨_,_,r3,r4,rfl⟩:=r2.isCons
  obtain rfl:=r4.isNil
  exact⟨_,BindsTo.of_eq rfl,.cons r1 (.cons r3 .nil)⟩
 ·intro L outer
  have cd:=c.deeper (envX "Grammar.__getitem__" gItem.scope L 151 gItem.code [])
  obtain⟨epd,hdict⟩:=ok.dict
  have hx:=M.get ok.self
  have hd:=M.get hdict
  have hp:=M.get ok.pl
  (refine nameS ?_;intro aa vv oo qq ee;refine s_cons ?_);refine s_ret ?_;refine e_sub (fun _ _=>rfl) ?_;refine e_attr1 rfl rfl ?_
  refine get_o hK (fun _=>by kernel_rfl) (.own hx hd) rfl rfl ?_
  refine pu rfl ?_
  refine sub_sq (x:=g.p0) (.own hp) (by decide) (by decide) rfl ?_
  skip
  exact⟨_,sub_refl _,h⟩
end
inductive Step(R:List Rul)(us un:List Str)(x:Str)(n:Int)(ws:List Str)(rd:Option (List Str×(Str×Int))):Bool->List Rul->List Str->List Str->Prop
 | no:Step R us un x n ws rd false R us (un++tch ws)
 | yes {body:List Str} {q:Str×Int}:rd=some (body,q)->Step R us un x n ws rd true (R++[(x,body,q,n)]) (us++tch ws) un
theorem only_n{p q P:Prop}[Decidable P](hP:P)(h:p):((!decide P)=false->p)/\((!decide P)=true->q):=⟨fun _=>h,fun e=>by rw[decide_eq_true hP]at e;cases e⟩
theorem ruleT_ok:∀ x∈HS,x.cps.size≤5:=by decide +kernel
theorem mt_size:∀ y∈MT,y.cps.size≤5:=by decide +kernel
theorem prOf_ok{i:Nat}{r:Rul}(h:RulOk r):PrOk (prOf i r):=by
 refine⟨ruleText_len (Nat.le_trans (ruleT_ok _ h.rb.left) (by decide)) (Nat.le_trans h.bz (by decide)) (fun y hy=>Nat.le_trans (mt_size y (h.rb.body y hy)) (by decide)),rfl,r.2.2.2,rfl,h.l0,by have:=h.l1;lia⟩
theorem height_way{ls:List Lvl}(I:LsOk ls)(n:Nat):∀ ms:List Str,ms.length=n->PyData.strOk (heightF ls ms).1=true:=by
 have r0:PyData.strOk ("right" : Str)=true:=by decide +kernel
 induction n with
 | zero=>intro ms h;rw[List.eq_nil_of_length_eq_zero h];exact r0
 | succ n ih=>
  intro ms h
  rcases List.eq_nil_or_concat ms with rfl|⟨b,y,rfl⟩
  ·cases h
  ·rw[List.concat_eq_append]at h ⊢
   rw[heightF_snoc]
   unfold htF
   split
   ·cases q:ls.lookup y with
    | none=>exact r0
    | some z=>exact I.way _ (lookup_memL q)
   ·exact ih b (by rw[List.length_append,List.length_singleton]at h;exact Nat.succ.inj h)
theorem read_way{ls:List Lvl}(I:LsOk ls){head:Str}{ws body:List Str}{q:Str×Int}(h:ReadK ls head ws (some (body,q))):PyData.strOk q.1=true:=by
 cases h with
 | prec _ _ h=>exact I.way _ (lookup_memL h)
 | plain=>exact height_way I _ _ rfl
section
variable {W:Wd}{A:Around}{env:Env}{outer:Outs}{loc:Loc}{mem:Mem}{E:Ex W}
theorem isn_none{Q:V->Loc->Mem->Prop}(h:Q (.bool false) loc mem):OpV W A env outer (fun|[x,y]=>compareOp .IsNot x y|_=>pure .none) [.none,.none] loc mem Q E:=op2 fun R F s v' u S r1 r2=>by
 obtain rfl:=r1.isNone;obtain rfl:=r2.isNone
 exact PyProof.Rows.isnot_none_none (Post.mk (.bool _) S h)
theorem isn_tup{xs:List V}{Q:V->Loc->Mem->Prop}(h:Q (.bool true) loc mem):OpV W A env outer (fun|[x,y]=>compareOp .IsNot x y|_=>pure .none) [.tup xs,.none] loc mem Q E:=op2 fun R F s v' u S r1 r2=>by
 obtain rfl:=r2.isNone
 refine PyProof.Rows.isnot_none_gen ?_
 cases r1.view with
 | tup f q=>exact Post.mk (.bool _) S h
theorem glen_law{L a:Addr}{g:GR}{gm M:Mem}{Q:V->Loc->Mem->Prop}(hK:W.K=hdK W.w.params)(cd:Calm A 310 2000)(G:GMem aGrammar aProd g a gm)(d:Dis gm M)(hz:g.prods.length≤1000)(h:Q (.int ((g.prods.length:Int)+1)) loc (mun gm M)) :
  OpV W A (lwE L) outer (fun vs=>call (.builtin "len") vs) [.ref a] loc (mun gm M) Q E:=by
 obtain⟨adr,cc,MM,ok,ea⟩:=id G
 obtain⟨epd,hdict⟩:=ok.dict
 have hx:=mun_l (R:=M) (MM.get ok.self)
 have hd:=mun_l (R:=M) (MM.get hdict)
 rw[ea]at hx
 refine len_own (f:=144) (.own hx hd) (by rw[hK];first|rfl|kernel_rfl|decide +kernel) (by rw[hK];first|rfl|kernel_rfl|decide +kernel) ?_
 refine Op.frame (Q:=fun v l m=>v = .int ((g.prods.length:Int)+1)/\l=loc/\m=gm) d (glen_spec hK (cd.in1.mono (by decide) (by decide)) G hz ⟨rfl,rfl,rfl⟩) ?_
 rintro v l m1 d1 ⟨rfl,rfl,rfl⟩
 exact⟨_,rfl,by lia,by lia,h⟩
theorem turn_b{L ta ra la a:Addr}{ls:List Lvl}{R:List Rul}{us un ws:List Str}{ts:List Int}{w n:Int}{x:Str}{rd:Option (List Str×(Str×Int))}{g:GR}{gm M:Mem}{S:Str->Bool}{o:Obj}{t k:Nat}{Q:Fl->Loc->Mem->Prop}(hK:W.K=hdK W.w.params)(cd:Calm A 310 2000)(hf:Fits A (lwE L) outer)
  (hx:x∈HEADS) (hn:0≤n/\n<1000000) (hw:WsOk ws) (rk:ReadK ls x ws rd) (I:LsOk ls) (v:GI ls R us un g S t) (hu:g.upo=some (.raw o)) (T:SetB W o S k) (hk:k≤t) (ht:t≤7) (G:GMem aGrammar aProd g a gm) (d:Dis gm M) (S2':S2 L ta ra la ls R us un ts M) (c5:M (L+4)=some (.cell (some (.lst (vStrs ws)))))
  (h:∀ b R' us' un' g' gm' S' o' k',Step R us un x n ws rd b R' us' un'->GI ls R' us' un' g' S' (t+1)->g'.upo=some (.raw o')->SetB W o' S' k'->k'≤t+1->GMem aGrammar aProd g' a gm'->Dis gm' M->TrS W A (lwE L) outer (execs (lawB.drop 8) (lwE L)) [("tape",.ref ta),("grammar",.ref a),("wish",.int w),("rules",.ref ra),("head",.str x),("line",.int n),("due",rdV x rd),("good",.bool b)] (mun gm' M) Q E) :
  TrS W A (lwE L) outer (execs (lawB.drop 6) (lwE L)) [("tape",.ref ta),("grammar",.ref a),("wish",.int w),("rules",.ref ra),("head",.str x),("line",.int n),("due",rdV x rd)] (mun gm M) Q E:=by
 have hu2:A.units+65<cLine:=Nat.lt_of_le_of_lt (Nat.add_le_add_right cd.units 65) (by decide)
 have hra:=mun_rd d S2'.hra
 have hRz:R.length≤7:=Nat.le_trans v.rz ht
 obtain⟨⟨hx1,hx2,hx3⟩,hx4⟩:=heads_ok x hx
 refine s_cons ?_
 refine Tr.mono (Q:=fun f l m'=>f = .next/\Sub (mun gm M) m'/\∃ b:Bool,LSub [("tape",.ref ta),("grammar",.ref a),("wish",.int w),("rules",.ref ra),("head",.str x),("line",.int n),("due",rdV x rd),("good",.bool b)] l/\(b=true↔∃ body q,rd=some (body,q)/\∀ r∈R,(r.1,r.2.1)≠(x,body))) (nameQ ?_) ?_
 ·intro qq ee
  cases rd with
  | none=>
   refine s_assign1 rfl rfl rfl ?_;refine e_and2 ?_;refine e_cmp2 rfl rfl rfl ?_
   refine isn_none ?_
   refine tr_bool ?_
   refine only_f ?_
   exact⟨rfl,sub_refl _,false,rfl,fun e=>(nomatch e),fun⟨_,_,e,_⟩=>(nomatch e)⟩
  | some r=>
   obtain⟨body,q⟩:=r
   obtain⟨b1,b2,b3,b4⟩:=read_body hw.al rk
   have hbody:=isD_pair b1 b3
   have hpz:(R.map rulV).length≤sizeLine:=by rw[List.length_map];exact Nat.le_trans hRz (by decide)
   refine s_assign1 rfl rfl rfl ?_;refine e_and2 ?_;refine e_cmp2 rfl rfl rfl ?_
   refine isn_tup ?_
   refine tr_bool ?_
   refine only_t ?_
   refine e_cmp rfl ?_;refine e_slice ?_;refine pu rfl ?_;refine e_int ?_
   refine⟨2,rfl,?_⟩
   refine⟨_,_,.tup _,PySem.F.slot_tuple_getitem.lookup,?_⟩
   refine slice_tupUpto (k:=2) (show 3≤sizeLine by decide) (show 2<3 by decide) ?_
   refine e_listcomp rfl (by decide) rfl (by decide) (fun _=>rfl) ?_;refine pu rfl ?_
   refine comp_map (itr_own cd.handled hra) (R.map rulV) (fun m i s _=>own_hit hra s i) hpz cutG ?_ ?_
   ·intro C outer' i v hv
    obtain⟨r,hr,rfl⟩:=inM (List.mem_of_getElem? hv)
    refine asg_name1 rfl rfl ?_;refine e_slice ?_;refine pu rfl ?_;refine e_int ?_
    refine⟨2,rfl,?_⟩
    refine⟨_,_,.tup _,PySem.F.slot_tuple_getitem.lookup,?_⟩
    refine slice_tupUpto (k:=2) (show 4≤sizeLine by decide) (show 2<4 by decide) ?_
    exact⟨rfl,sub_refl _⟩
   ·intro D hD
    rw[cutG_map]
    skip
    refine notin_list (n:=2) (.own (mset_self _ _ _)) hbody (List.all_eq_true.mpr fun v' hv=>?_) (by decide) hu2 (fun b hb=>?_)
    ·obtain⟨r,hr,rfl⟩:=inM hv
     exact isD_pair (v.rok r hr).rb.left (v.rok r hr).rb.body
    ·have hb:=hb.trans pairR_in
     skip
     refine⟨rfl,sub_mset hD (sub_refl _),!b,rfl,fun e=>⟨body,q,rfl,fun r hr e2=>?_⟩,fun⟨body',q',e,hall⟩=>?_⟩
     ·rw[hb.mpr ⟨r,hr,e2⟩]at e;cases e
     ·cases e
      cases b with
      | false=>rfl
      | true=>
       obtain⟨r,hr,e2⟩:=hb.mp rfl
       exact absurd e2 (hall r hr)
 ·rintro f l m' ⟨rfl,hsub,b,hl,hb⟩
  refine s_cons ?_
  refine Tr.locs hl ?_
  refine Tr.memS hsub ?_
  clear hl hsub
  have hc5:=mun_rd d c5
  obtain⟨r,hpk,hnone,hsome⟩:∃ r,(decide (x∈HS)=true->(∀ s∈ws,mtF s≠none)->PrecK g.pr (litT mtF g.te ws) (mtL mtF ws) r)/\(rd=none->r=none)/\∀ body q,rd=some (body,q)->∃ tt,r=some (body,lvV q,tt)/\∀ y,y∈tlast ws↔tt=some y:=by
   by_cases hc:x∈HS/\∀ s∈ws,mtF s≠none
   ·obtain⟨r,h1,h2,h3⟩:=read_prec rk hc.1 hw.al hc.2 I.key v.teK v.teA v.teB
    exact⟨r,fun _ _=>by rw[v.pr];exact h1,h2,h3⟩
   ·refine⟨none,fun a b=>absurd ⟨of_decide_eq_true a,b⟩ hc,fun _=>rfl,fun body q e=>?_⟩
    rw[e]at rk
    obtain⟨b1,b2,_⟩:=read_body hw.al rk
    exact absurd ⟨b1,b2⟩ hc
  have goes:∀ body,RB (x,body)->(Goes g x mtF ws body (decide (x∈HS))->∀ r∈R,(r.1,r.2.1)≠(x,body)):=fun body hb go r hr e=>by
   obtain⟨i,hi⟩:=prodsOf_has hr
   have:=go.new _ (v.prods▸hi)
   exact this (by show mapText r.1 r.2.1=_;rw[show r.1=x from congrArg (·.1) e,show r.2.1=body from congrArg (·.2) e])
  have back:∀ body,RB (x,body)->x∈HS->(∀ s∈ws,mtF s≠none)->(∀ r∈R,(r.1,r.2.1)≠(x,body))->Goes g x mtF ws body (decide (x∈HS)):=fun body hb h1 h2 h3=>by
   refine⟨decide_eq_true h1,h2,fun p hp e=>?_⟩
   rw[v.prods]at hp
   obtain⟨i,r,hr,rfl⟩:=prodsOf_mem hp
   exact h3 r hr (mapText_inj (v.rok r hr).rb hb e)
  have hpo:∀ p∈g.prods,PrOk p:=fun p hp=>by
   rw[v.prods]at hp
   obtain⟨i,r,hr,rfl⟩:=prodsOf_mem hp
   exact prOf_ok (v.rok r hr)
  have hpn:∀ p∈g.prods,p.name∈g.pn:=fun p hp=>by
   rw[v.prods]at hp
   obtain⟨i,r,hr,rfl⟩:=prodsOf_mem hp
   exact v.pn r hr
  have hpl:g.prods.length≤7:=by rw[v.prods,prodsOf_len];exact hRz
  have hpv:∀ t v',getA g.pr t=some v'->LvlV v':=fun t v' e=>by
   rw[v.pr,lvA_look]at e
   obtain⟨q,_,rfl⟩:=Option.map_eq_some_iff.mp e
   exact⟨q.1,q.2,rfl⟩
  have hwz:(vStrs ws).length≤sizeLine:=by rw[vStrs_len];exact Nat.le_trans hw.hz (by decide)
  refine s_if ?_;refine b_bool ?_;refine b_or_cons ?_;refine b_cmp rfl ?_;refine c_topN hK (fun _=>rfl) (fun _=>rfl) rfl rfl ?_;refine a_pu rfl ?_;refine a_pu rfl ?_;refine a_cons rfl ?_;refine c_typN hK (fun _=>rfl) rfl rfl ?_;refine a_cons rfl ?_;refine e_cell rfl rfl rfl rfl (by first|assumption|simp[mset_self]) ?_;refine a_nil ?_
  refine list_sq (.lst _) hwz (fun sy hsy=>?_)
  obtain⟨s1,s2⟩:=mun_none hsy
  refine a_pus rfl ?_
  refine ladd_spec (r:=r) (mt:=mtF) (b:=decide (x∈HS)) hK (cd.mono (by decide) (by decide)) hf G d s1 s2 hx1 hx2 (head_k v.teK v.teA v.teE hx) (fun _ s hs=>wq_ok (hw.al s hs)) (Nat.le_trans hw.hz (by decide)) hpv (by lia) hpn (Nat.le_trans v.pz (by lia)) (Nat.le_trans v.tz (by lia)) (v.len.mono (by lia)) hpo hu T (by lia) ⟨hn.1,by lia⟩ (fun _ s hs y hy=>wq_repr hy) hpk (fun hno g' gm' tc G' d'=>?_) (fun body v' tt er go gm' o' k' T' hk' G' d'=>?_)
  ·have hbf:b=false:=by
    cases b with
    | false=>rfl
    | true=>
     exfalso
     obtain⟨body,q,e,hall⟩:=hb.mp rfl
     obtain⟨tt,e2,_⟩:=hsome _ _ e
     rw[e]at rk
     obtain⟨b1,b2,b3,_⟩:=read_body hw.al rk
     exact hno _ _ _ e2 (back body ⟨b1,b3⟩ b1 b2 hall)
   subst hbf
   obtain⟨i,o',tt,k',T',hk',h3⟩:=tc
   have hra':=mun_rd d' S2'.hra
   refine pu rfl ?_
   refine ne_bb ?_
   refine tr_bool ?_
   refine only_o ?_
   refine b_or_cons ?_;refine b_cmp rfl ?_;refine c_bltN hK (fun _=>rfl) rfl rfl ?_;refine a_pus rfl ?_
   refine glen_law hK cd G' d' (by show g.prods.length≤1000;lia) ?_
   refine e_binop ?_;refine e_binop ?_;refine c_bltN hK (fun _=>rfl) rfl rfl ?_;refine a_pus rfl ?_
   refine len_sq (.own hra') (by rw[List.length_map];lia) ?_
   refine e_int ?_;refine add_ii ?_;refine e_ifexp ?_;refine b_value1 rfl rfl ?_;refine tr_bool ?_
   refine only_f ?_
   refine e_int ?_;refine add_ii ?_;refine ne_ii ?_;refine tr_bool ?_
   refine only_n (by show((g.prods.length:Nat):Int)+1=_;rw[v.prods,prodsOf_len,List.length_map];rfl) ?_
   refine b_or_nil ?_
   refine only_f ?_
   refine s_nil ?_
   exact h false R us (un++tch ws) _ gm' _ o' k' .no (v.touch hw.al hw.hz i o' tt h3) rfl T' (by lia) G' d'
  ·have hbt:b=true:=by
    refine hb.mpr ?_
    cases hrd:rd with
    | none=>rw[hnone hrd]at er;cases er
    | some z=>
     obtain⟨body2,q⟩:=z
     obtain⟨tt2,e2,_⟩:=hsome _ _ hrd
     rw[er]at e2
     cases e2
     rw[hrd]at rk
     obtain⟨b1,b2,b3,_⟩:=read_body hw.al rk
     exact⟨body,q,rfl,goes body ⟨b1,b3⟩ go⟩
   subst hbt
   obtain⟨body2,q,hrd,hall⟩:=hb.mp rfl
   obtain⟨tt2,e2,htt⟩:=hsome _ _ hrd
   rw[er]at e2
   cases e2
   have rk':=rk
   rw[hrd]at rk'
   obtain⟨b1,b2,b3,b4⟩:=read_body hw.al rk'
   have hra':=mun_rd d' S2'.hra
   have hpl2:(addG { g with te:=litT mtF g.te ws,upo:=some (.raw o') } x body (lvV q) .none (.str "") (.int n)).prods.length=g.prods.length+1:=by
    show(g.prods++[_]).length=_
    rw[List.length_append];rfl
   refine pu rfl ?_
   refine ne_bb ?_
   refine tr_bool ?_
   refine only_o ?_
   refine b_or_cons ?_;refine b_cmp rfl ?_;refine c_bltN hK (fun _=>rfl) rfl rfl ?_;refine a_pus rfl ?_
   refine glen_law hK cd G' d' (by rw[hpl2];lia) ?_
   refine e_binop ?_;refine e_binop ?_;refine c_bltN hK (fun _=>rfl) rfl rfl ?_;refine a_pus rfl ?_
   refine len_sq (.own hra') (by rw[List.length_map];lia) ?_
   refine e_int ?_;refine add_ii ?_;refine e_ifexp ?_;refine b_value1 rfl rfl ?_;refine tr_bool ?_
   refine only_t ?_
   refine e_int ?_;refine add_ii ?_;refine ne_ii ?_;refine tr_bool ?_
   refine only_n (by rw[hpl2,v.prods,prodsOf_len,List.length_map];rfl) ?_
   refine b_or_nil ?_
   refine only_f ?_
   refine s_nil ?_
   exact h true _ _ un _ gm' _ o' k' (.yes hrd) (v.add hw.al hw.hz o' tt htt ⟨⟨b1,b3⟩,Nat.le_trans b4 hw.hz,hn.1,hn.2,read_way I rk'⟩) rfl T' (by lia) G' d'
end
noncomputable def tcG(ws:List Str):V->Option V
 | .str w=>if ("%prec" : Str)∈ws then(mtF w).map V.str else none
 | _=>none
theorem tcG_map(ws l:List Str):(vStrs l).filterMap (tcG ws)=vStrs (l.filterMap fun w=>if ("%prec" : Str)∈ws then mtF w else none):=by
 induction l with
 | nil=>rfl
 | cons x l ih=>
  show List.filterMap (tcG ws) (V.str x::vStrs l)=_
  rw[List.filterMap_cons,List.filterMap_cons]
  unfold tcG at ih ⊢
  by_cases h:("%prec" : Str)∈ws
  ·simp only [if_pos h]at ih ⊢
   cases mtF x with
   | none=>exact ih
   | some y=>exact congrArg (V.str y::·) ih
  ·simp only [if_neg h]at ih ⊢
   exact ih
theorem tlast_len(ws:List Str):(tlast ws).length≤1:=by
 refine Nat.le_trans (List.length_filterMap_le _ _) ?_
 rw[List.length_drop];lia
theorem tch_len(ws:List Str):(tch ws).length≤2:=by
 unfold tch
 have:=tlast_len ws
 rw[List.length_append]
 split
 ·rw[List.length_singleton];lia
 ·rw[List.length_nil];lia
theorem wq_str:(∀ w∈WQ,PyData.strOk w=true)/\PyData.strOk ("%prec" : Str)=true/\PyData.strOk ("'+'" : Str)=true:=by decide +kernel
theorem S2.unsure{L ta ra la:Addr}{ls:List Lvl}{R:List Rul}{us un vs:List Str}{ts:List Int}{M:Mem}(S:S2 L ta ra la ls R us un ts M):S2 L ta ra la ls R us vs ts (mset M (L+3) (.cell (some (.lst (vStrs vs))))):=by
 have k:∀ {b x},M b=some x->b≠L+3->mset M (L+3) (.cell (some (.lst (vStrs vs)))) b=some x:=fun {b x} e n=>by rw[mset_ne n];exact e
 have nl:∀ j:Nat,j≠3->L+j≠L+3:=fun j hj e=>by lia
 exact⟨k S.c1 (nl 1 (by decide)),k S.c2 (nl 2 (by decide)),mset_self _ _ _,S.c4.imp fun z e=>k e (nl 4 (by decide)),k S.hta (Ne.symm (nex S.c3 S.hta)),k S.hra (Ne.symm (nex S.c3 S.hra)),S.hla.imp fun ep e=>k e (Ne.symm (nex S.c3 e)),S.n1⟩
theorem S2.used{L ta ra la:Addr}{ls:List Lvl}{R:List Rul}{us un vs:List Str}{ts:List Int}{M:Mem}(S:S2 L ta ra la ls R us un ts M):S2 L ta ra la ls R vs un ts (mset M (L+2) (.cell (some (.lst (vStrs vs))))):=by
 have k:∀ {b x},M b=some x->b≠L+2->mset M (L+2) (.cell (some (.lst (vStrs vs)))) b=some x:=fun {b x} e n=>by rw[mset_ne n];exact e
 have nl:∀ j:Nat,j≠2->L+j≠L+2:=fun j hj e=>by lia
 exact⟨k S.c1 (nl 1 (by decide)),mset_self _ _ _,k S.c3 (nl 3 (by decide)),S.c4.imp fun z e=>k e (nl 4 (by decide)),k S.hta (Ne.symm (nex S.c2 S.hta)),k S.hra (Ne.symm (nex S.c2 S.hra)),S.hla.imp fun ep e=>k e (Ne.symm (nex S.c2 e)),S.n1⟩
theorem S2.rule{L ta ra la:Addr}{ls:List Lvl}{R R':List Rul}{us un:List Str}{ts:List Int}{M:Mem}(S:S2 L ta ra la ls R us un ts M):S2 L ta ra la ls R' us un ts (mset M ra (.list (R'.map rulV))):=by
 have k:∀ {b x},M b=some x->b≠ra->mset M ra (.list (R'.map rulV)) b=some x:=fun {b x} e n=>by rw[mset_ne n];exact e
 exact⟨k S.c1 (nex S.c1 S.hra),k S.c2 (nex S.c2 S.hra),k S.c3 (nex S.c3 S.hra),S.c4.imp fun z e=>k e (nex e S.hra),k S.hta S.n1,mset_self _ _ _,S.hla.imp fun ep e=>k e (nex e S.hra),S.n1⟩
theorem vStrs_app(a b:List Str):vStrs a++vStrs b=vStrs (a++b):=by unfold vStrs;rw[List.map_append]
section
variable {W:Wd}{A:Around}{env:Env}{outer:Outs}{loc:Loc}{mem:Mem}{E:Ex W}
theorem turn_c{L ta ra la a:Addr}{ls:List Lvl}{R R':List Rul}{us un us' un' ws:List Str}{ts:List Int}{w n:Int}{x:Str}{rd:Option (List Str×(Str×Int))}{gm M:Mem}{b:Bool}{Q:Fl->Loc->Mem->Prop}(hK:W.K=hdK W.w.params)(cd:Calm A 310 2000)
  (hw:WsOk ws) (st:Step R us un x n ws rd b R' us' un') (d:Dis gm M) (S:S2 L ta ra la ls R us un ts M) (c5:M (L+4)=some (.cell (some (.lst (vStrs ws))))) (hRz:R.length≤8) (huz:us.length≤100) (hnz:un.length≤100)
  (h:∀ l M',LSub [("tape",.ref ta),("grammar",.ref a),("wish",.int w),("rules",.ref ra)] l->Dis gm M'->S2 L ta ra la ls R' us' un' ts M'->Q .next l (mun gm M')) :
  TrS W A (lwE L) outer (execs (lawB.drop 8) (lwE L)) [("tape",.ref ta),("grammar",.ref a),("wish",.int w),("rules",.ref ra),("head",.str x),("line",.int n),("due",rdV x rd),("good",.bool b)] (mun gm M) Q E:=by
 have hu2:A.units+65<cLine:=Nat.lt_of_le_of_lt (Nat.add_le_add_right cd.units 65) (by decide)
 have hc5:=mun_rd d c5
 have hT:=meantT hK
 have hwz:(vStrs ws).length≤sizeLine:=by rw[vStrs_len];exact Nat.le_trans hw.hz (by decide)
 have hok:(vStrs ws).all (isD 0)=true:=by
  rw[List.all_eq_true];intro v hv
  obtain⟨y,hy,rfl⟩:=inM hv
  exact wq_str.1 y (hw.al y hy)
 have hdz:((vStrs ws).drop ((vStrs ws).length - 1)).length≤sizeLine:=Nat.le_trans (by rw[List.length_drop];lia) hwz
 refine s_cons ?_
 refine s_assign_listcomp (cl:=[("words",L+4)]) rfl rfl (by decide) rfl (by decide) rfl rfl (fun _=>rfl) ?_
 refine e_slice ?_;refine e_cell rfl rfl rfl rfl (by first|assumption|simp[mset_self]) ?_;refine e_unop ?_;refine e_int ?_
 refine neg_i ?_
 refine⟨-1,rfl,?_⟩
 skip
 refine⟨_,_,.lst _,PySem.F.slot_list_getitem.lookup,?_⟩
 refine slice_last (k:=1) (.lst _) hwz (by decide) ?_
 have ed:(vStrs ws).drop ((vStrs ws).length - 1)=vStrs (ws.drop (ws.length - 1)):=by rw[vStrs_len];unfold vStrs;rw[List.map_drop]
 refine comp_map (itr_lst cd.handled) ((vStrs ws).drop ((vStrs ws).length - 1)) (fun m i hs hi=>rfl) hdz (tcG ws) ?_ ?_
 ·intro C outer' i v hv
  rw[ed]at hv
  obtain⟨y,hy,rfl⟩:=inM (List.mem_of_getElem? hv)
  refine asg_name1 rfl rfl ?_;refine b_bool ?_;refine b_and_cons ?_;refine b_cmp1 rfl rfl ?_;refine e_topV hK (fun _=>rfl) ?_
  refine in_tab hT ?_
  have em:List.lookup y MEANT=mtF y:=rfl
  rw[em]
  cases q:mtF y with
  | none=>
   refine tr_bool ?_
   refine only_f ?_
   skip
   refine only_f ?_
   exact⟨by show none=if ("%prec" : Str)∈ws then(mtF y).map V.str else none;rw[q,Option.map_none,ite_self],sub_refl _⟩
  | some z=>
   refine tr_bool ?_
   refine only_t ?_
   refine b_and_cons ?_;refine b_cmp1 rfl rfl ?_;refine e_cell rfl rfl rfl rfl (by first|assumption|simp[mset_self]) ?_
   refine in_strs (.lst _) wq_str.2.1 hok hu2 ?_
   by_cases hp:("%prec" : Str)∈ws
   ·rw[decide_eq_true hp]
    refine tr_bool ?_
    refine only_t ?_
    refine b_and_nil ?_
    refine only_t ?_
    refine e_subG hT (fun _ _=>by with_unfolding_all rfl) ?_
    refine e_topG rfl rfl rfl rfl (by rw[hK];rfl) ⟨rfl,?_⟩
    refine pu rfl ?_
    refine⟨y,z,rfl,q,?_⟩
    exact⟨by show some (V.str z)=if ("%prec" : Str)∈ws then(mtF y).map V.str else none;rw[if_pos hp,q];rfl,sub_refl _⟩
   ·rw[decide_eq_false hp]
    refine tr_bool ?_
    refine only_f ?_
    skip
    refine only_f ?_
    exact⟨by show none=if ("%prec" : Str)∈ws then(mtF y).map V.str else none;rw[if_neg hp],sub_refl _⟩
 ·intro D hD
  rw[ed,tcG_map]
  have et:(ws.drop (ws.length - 1)).filterMap (fun w=>if ("%prec" : Str)∈ws then mtF w else none)=tlast ws:=rfl
  rw[et]
  obtain⟨g1,g2⟩:=mun_none hD
  rw[mun_more g1]
  have dD:=dis_set (y:=.list (vStrs (tlast ws))) d g1
  have hD1:=mset_self M D (.list (vStrs (tlast ws)))
  have SD:S2 L ta ra la ls R us un ts (mset M D (.list (vStrs (tlast ws)))):=⟨by rw[mset_ne (nex S.c1 g2)];exact S.c1,by rw[mset_ne (nex S.c2 g2)];exact S.c2,by rw[mset_ne (nex S.c3 g2)];exact S.c3,S.c4.imp fun z e=>by rw[mset_ne (nex e g2)];exact e,by rw[mset_ne (nex S.hta g2)];exact S.hta,by rw[mset_ne (nex S.hra g2)];exact S.hra,S.hla.imp fun ep e=>by rw[mset_ne (nex e g2)];exact e,S.n1⟩
  have cD:mset M D (.list (vStrs (tlast ws))) (L+4)=some (.cell (some (.lst (vStrs ws)))):=by rw[mset_ne (nex c5 g2)];exact c5
  have nDr:D≠ra:=fun e=>by rw[e,S.hra]at g2;cases g2
  have nDt:D≠ta:=fun e=>by rw[e,S.hta]at g2;cases g2
  generalize mset M D (.list (vStrs (tlast ws)))=M1 at dD hD1 SD cD
  clear S d c5 hc5 hD g1 g2 ed et hdz M
  refine s_cons ?_
  refine Tr.mono (Q:=fun f l m'=>f = .next/\LSub [("tape",.ref ta),("grammar",.ref a),("wish",.int w),("rules",.ref ra),("line",.int n),("due",rdV x rd),("good",.bool b),("touched",.ref D)] l/\∃ M2,m'=mun gm M2/\Dis gm M2/\M2 D=some (.list (vStrs (tch ws)))/\S2 L ta ra la ls R us un ts M2) (nameQ ?_) ?_
  ·intro qq ee
   have hc5:=mun_rd dD cD
   have hDm:=mun_rd dD hD1
   refine s_if ?_;refine b_cmp1 rfl rfl ?_;refine e_cell rfl rfl rfl rfl (by first|assumption|simp[mset_self]) ?_
   refine in_strs (.lst _) wq_str.2.2 hok hu2 ?_
   by_cases hp:("'+'" : Str)∈ws
   ·rw[decide_eq_true hp]
    refine tr_bool ?_
    refine only_t ?_
    refine s_cons ?_;refine s_expr rfl rfl ?_;refine c_meth1 rfl rfl ?_
    refine m_builtin (.list hDm) PySem.F.plainAttrs_list PySem.F.slot_list_append PySem.F.type_list_append rfl rfl ?_
    refine a_pus rfl ?_
    refine append_own hDm (by rw[vStrs_len];exact Nat.le_trans (tlast_len ws) (by decide)) ?_
    have gD:=dis_r dD hD1
    rw[mun_more gD]
    refine s_nil ?_
    have e:vStrs (tlast ws)++[V.str "+"]=vStrs (tch ws):=by unfold tch;rw[if_pos hp];unfold vStrs;rw[List.map_append];rfl
    rw[e]
    exact⟨rfl,rfl,_,rfl,dis_set dD gD,mset_self _ _ _,⟨by rw[mset_ne (nex SD.c1 hD1)];exact SD.c1,by rw[mset_ne (nex SD.c2 hD1)];exact SD.c2,by rw[mset_ne (nex SD.c3 hD1)];exact SD.c3,SD.c4.imp fun z e=>by rw[mset_ne (nex e hD1)];exact e,by rw[mset_ne (Ne.symm nDt)];exact SD.hta,by rw[mset_ne (Ne.symm nDr)];exact SD.hra,SD.hla.imp fun ep e=>by rw[mset_ne (nex e hD1)];exact e,SD.n1⟩⟩
   ·rw[decide_eq_false hp]
    refine tr_bool ?_
    refine only_f ?_
    refine s_nil ?_
    have e:tlast ws=tch ws:=by unfold tch;rw[if_neg hp,List.append_nil]
    exact⟨rfl,rfl,M1,rfl,dD,e▸hD1,SD⟩
  ·rintro f l m' ⟨rfl,hl,M2,rfl,d2,hD2,S2'⟩
   refine s_cons ?_
   refine Tr.locs hl ?_
   clear hl dD hD1 SD cD M1
   have k2:=mun_rd d2 S2'.c2
   have k3:=mun_rd d2 S2'.c3
   have hDm:=mun_rd d2 hD2
   have htz:=tch_len ws
   cases st with
   | no=>
    refine s_if ?_;refine b_value1 rfl rfl ?_;refine tr_bool ?_
    refine only_f ?_
    (refine nameQ ?_;intro qq ee;refine s_cons ?_);refine s_assign rfl ?_;refine e_binop ?_;refine e_cell rfl rfl rfl rfl (by first|assumption|simp[mset_self]) ?_;refine pu rfl ?_
    refine add_ll (.lst _) (.own hDm) (by rw[vStrs_len,vStrs_len];exact Nat.le_trans (show _≤102 by lia) (by decide)) ?_
    rw[vStrs_app]
    refine st_cell rfl rfl rfl k3 ?_
    rw[mun_more (dis_r d2 S2'.c3)]
    refine s_nil ?_;refine s_nil ?_
    exact h _ _ rfl (dis_set d2 (dis_r d2 S2'.c3)) S2'.unsure
   | @yes body q hrd=>
    refine s_if ?_;refine b_value1 rfl rfl ?_;refine tr_bool ?_
    refine only_t ?_
    subst hrd
    have hra:=mun_rd d2 S2'.hra
    (refine nameQ ?_;intro qq ee;refine s_cons ?_);refine s_expr rfl rfl ?_;refine c_meth1 rfl rfl ?_
    refine m_builtin (.list hra) PySem.F.plainAttrs_list PySem.F.slot_list_append PySem.F.type_list_append rfl rfl ?_
    refine a_cons rfl ?_;refine e_tuple ?_;refine a_cons rfl ?_;refine e_sub2 (fun _ _=>rfl) rfl rfl ?_
    refine sub_sq (x:=.str x) (.tup _) (by decide) (by decide) rfl ?_
    refine a_cons rfl ?_;refine e_sub2 (fun _ _=>rfl) rfl rfl ?_
    refine sub_sq (x:=.tup (vStrs body)) (.tup _) (by decide) (by decide) rfl ?_
    refine a_cons rfl ?_;refine e_sub2 (fun _ _=>rfl) rfl rfl ?_
    refine sub_sq (x:=lvV q) (.tup _) (by decide) (by decide) rfl ?_
    refine a_pus rfl ?_
    refine new_tup (show 4≤sizeLine by decide) ?_
    refine a_nil ?_
    refine append_own hra (by rw[List.length_map];exact Nat.le_trans hRz (by decide)) ?_
    rw[mun_more (dis_r d2 S2'.hra),show R.map rulV++[V.tup [.str x,.tup (vStrs body),lvV q,.int n]]=(R++[(x,body,q,n)]).map rulV from by rw[List.map_append];rfl]
    have S3:=S2'.rule (R':=R++[(x,body,q,n)])
    have d3:=dis_set (y:=.list ((R++[(x,body,q,n)]).map rulV)) d2 (dis_r d2 S2'.hra)
    have hD3:mset M2 ra (.list ((R++[(x,body,q,n)]).map rulV)) D=some (.list (vStrs (tch ws))):=by rw[mset_ne nDr];exact hD2
    generalize mset M2 ra (.list ((R++[(x,body,q,n)]).map rulV))=M3 at S3 d3 hD3
    clear hra S2' d2 hD2 hDm k2 k3 M2
    have k2:=mun_rd d3 S3.c2
    refine s_cons ?_;refine s_assign rfl ?_;refine e_binop ?_;refine e_cell rfl rfl rfl rfl (by first|assumption|simp[mset_self]) ?_;refine pu rfl ?_
    refine add_ll (.lst _) (.own (mun_rd d3 hD3)) (by rw[vStrs_len,vStrs_len];exact Nat.le_trans (show _≤102 by lia) (by decide)) ?_
    rw[vStrs_app]
    refine st_cell rfl rfl rfl k2 ?_
    rw[mun_more (dis_r d3 S3.c2)]
    refine s_nil ?_;refine s_nil ?_
    exact h _ _ rfl (dis_set d3 (dis_r d3 S3.c2)) S3.used
end
inductive J2(W:Wd)(L ta ra la a:Addr)(ls:List Lvl)(w:Int)(i:Nat)(l:Loc)(m:Mem):Prop
 | mk (h1_:LSub [("tape",.ref ta),("grammar",.ref a),("wish",.int w),("rules",.ref ra)] l) (R:List Rul) (us un:List Str) (g:GR) (S:Str->Bool) (o:Obj) (k:Nat) (ts:List Int) (gm M:Mem) (h2_:m=mun gm M) (h3_:GI ls R us un g S i) (h4_:g.upo=some (.raw o)) (h5_:SetB W o S k) (h6_:k≤i) (h7_:GMem aGrammar aProd g a gm) (h8_:Dis gm M) (h9_:S2 L ta ra la ls R us un ts M) (h10_:ts.length≤40) (h11_:us.length≤2+2*i) (h12_:un.length≤2*i) (h13_:∀ x∈us++un,x∈MT)
theorem g0_te(k:Str)(o:Obj):((g0 AB o).te.lookup k).isSome=decide (k∈([("a" : Str),"b","error"]:List Str)):=by
 rw[lookup_contains]
 show([("a" : Str),"b","error"]:List Str).contains k=_
 rw[Bool.eq_iff_iff,List.contains_iff_mem,decide_eq_true_iff]
theorem g0_len(o:Obj):LenOk 10 ((g0 AB o).te,(g0 AB o).no):=by
 refine⟨Nat.zero_le _,fun k ns e=>?_,fun k ns e=>nomatch e⟩
 have:∀ q∈(g0 AB o).te,q.2=[]:=fun q hq=>by
  rcases List.mem_append.mp hq with hq|hq
  ·obtain⟨t,_,rfl⟩:=inM hq;rfl
  ·rw[List.mem_singleton]at hq;rw[hq]
 have e2:∀ (l:List (Str×List Int)),l.lookup k=some ns->(k,ns)∈l:=fun l=>by
  induction l with
  | nil=>intro z;cases z
  | cons a l ih=>
   obtain⟨x,y⟩:=a
   intro z
   rw[List.lookup_cons]at z
   split at z
   ·rename_i w;cases z;rw[beq_iff_eq]at w;rw[w];exact .head _
   ·exact .tail _ (ih z)
 have:=this _ (e2 _ e)
 dsimp only at this;rw[this];exact Nat.zero_le _
theorem ab_t:(∀ k∈([("a" : Str),"b","error"]:List Str),k∈TE)/\(∀ x∈TERMS,x∈([("a" : Str),"b","error"]:List Str)->x∈AB)/\(∀ x∈AB,x∈([("a" : Str),"b","error"]:List Str)):=by decide +kernel
theorem GI.zero(ls:List Lvl)(o:Obj):GI ls [] AB [] { g0 AB o with pr:=lvA ls } (fun _=>false) 0 where
 p0:=rfl
 st:=rfl
 prods:=rfl
 rz:=Nat.le_refl _
 rok:=fun r hr=>nomatch hr
 pr:=rfl
 teK:=fun k h=>by
  have h:((g0 AB o).te.lookup k).isSome=true:=h
  rw[g0_te]at h;exact ab_t.1 k (of_decide_eq_true h)
 teA:=by show((g0 AB o).te.lookup ("a" : Str)).isSome=true;rw[g0_te];decide +kernel
 teB:=by show((g0 AB o).te.lookup ("b" : Str)).isSome=true;rw[g0_te];decide +kernel
 teE:=by show((g0 AB o).te.lookup ("error" : Str)).isSome=true;rw[g0_te];decide +kernel
 tz:=by show 3≤10;decide
 len:=g0_len o
 pn:=fun r hr=>nomatch hr
 pz:=Nat.le_refl _
 noB:=rfl
 noR:=fun r hr=>nomatch hr
 u1:=fun x hx h=>by
  have h:(((g0 AB o).te.lookup x).isSome || false)=true:=h
  rw[Bool.or_false,g0_te]at h;exact .inl (ab_t.2.1 x hx (of_decide_eq_true h))
 u2:=fun x hx h=>by
  show(((g0 AB o).te.lookup x).isSome || false)=true
  rw[Bool.or_false,g0_te];exact decide_eq_true (ab_t.2.2 x h)
theorem ab_mt:∀ x∈AB++[],x∈MT:=by decide +kernel
theorem tch_mt(ws:List Str):∀ x∈tch ws,x∈MT:=fun x hx=>by
 rcases tch_iff.mp hx with h|⟨rfl,_⟩
 ·obtain⟨w,_,e⟩:=List.mem_filterMap.mp h
  split at e
  ·exact mtF_mem e
  ·cases e
 ·decide +kernel
theorem small8:Builtin.Range.small 0 (0+((8:Nat):Int)) 1=true:=by decide +kernel
section
variable {W:Wd}{A:Around}{env:Env}{outer:Outs}{loc:Loc}{mem:Mem}{E:Ex W}
theorem law_b{L ta la a:Addr}{ls:List Lvl}{ts:List Int}{w:Int}{gm M:Mem}{o:Obj}{l:Loc}{Q:Fl->Loc->Mem->Prop}(hK:W.K=hdK W.w.params)(cd:Calm A 310 2000)(hf:Fits A (lwE L) outer)
  (hl:LSub [("tape",.ref ta),("grammar",.ref a),("wish",.int w)] l) (I:LsOk ls) (T:SetB W o (fun _=>false) 0) (ht:ts.length≤40) (S:S1 L ta la ls ts M) (G:GMem aGrammar aProd { g0 AB o with pr:=lvA ls } a gm) (d:Dis gm M)
  (h:∀ l ra R us un g S o k ts gm M t,t≤8->LSub [("tape",.ref ta),("grammar",.ref a),("wish",.int w),("rules",.ref ra)] l->GI ls R us un g S t->g.upo=some (.raw o)->SetB W o S k->GMem aGrammar aProd g a gm->Dis gm M->S2 L ta ra la ls R us un ts M->us.length≤100->un.length≤100->(∀ x∈us++un,x∈MT)->TrS W A (lwE L) outer (execs (lLaw.body.drop 9) (lwE L)) l (mun gm M) Q E) :
  TrS W A (lwE L) outer (execs (lLaw.body.drop 5) (lwE L)) l (mun gm M) Q E:=by
 refine Tr.locs hl ?_
 clear hl
 refine s_cons ?_;refine s_assign1 rfl rfl rfl ?_;refine e_list ?_;refine a_nil ?_
 refine new_own (show 0≤sizeLine by decide) (fun ra hra=>?_)
 obtain⟨g1,g2⟩:=mun_none hra
 rw[mun_more g1]
 have k:∀ b x,M b=some x->mset M ra (.list []) b=some x:=fun b x e=>by rw[mset_ne (nex e g2)];exact e
 have d2:=dis_set (y:=.list []) d g1
 have hta2:=k _ _ S.hta
 have hra2:=mset_self M ra (.list [])
 have n1:ta≠ra:=nex S.hta g2
 have c1:=k _ _ S.c1
 have c2:=k _ _ S.c2
 have c3:=k _ _ S.c3
 have c4:=k _ _ S.c4
 have hla2:=S.hla.imp fun ep e=>k _ _ e
 generalize mset M ra (.list [])=M1 at *
 clear k d S g1 g2 hra M
 refine s_cons ?_;refine s_assign rfl ?_;refine e_list ?_;refine a_pus rfl ?_
 refine new_lst (xs:=vStrs AB) (show 2≤sizeLine by decide) ?_
 refine st_cell rfl rfl rfl (mun_rd d2 c2) ?_
 rw[mun_more (dis_r d2 c2)]
 have d3:=dis_set (y:=.cell (some (.lst (vStrs AB)))) d2 (dis_r d2 c2)
 have nl:∀ j k:Nat,j≠k->L+j≠L+k:=fun j k hj e=>by lia
 have c3':mset M1 (L+2) (.cell (some (.lst (vStrs AB)))) (L+3)=some (.cell none):=by rw[mset_ne (nl 3 2 (by decide))];exact c3
 refine s_cons ?_;refine s_assign rfl ?_;refine e_list ?_;refine a_nil ?_
 refine new_lst (xs:=vStrs []) (show 0≤sizeLine by decide) ?_
 refine st_cell rfl rfl rfl (mun_rd d3 c3') ?_
 rw[mun_more (dis_r d3 c3')]
 have d4:=dis_set (y:=.cell (some (.lst (vStrs [])))) d3 (dis_r d3 c3')
 have k:∀ b x,M1 b=some x->b≠L+2->b≠L+3->mset (mset M1 (L+2) (.cell (some (.lst (vStrs AB))))) (L+3) (.cell (some (.lst (vStrs [])))) b=some x:=fun b x e n2 n3=>by rw[mset_ne n3,mset_ne n2];exact e
 have SS:S2 L ta ra la ls [] AB [] ts (mset (mset M1 (L+2) (.cell (some (.lst (vStrs AB))))) (L+3) (.cell (some (.lst (vStrs []))))):=⟨k _ _ c1 (nl 1 2 (by decide)) (nl 1 3 (by decide)),by rw[mset_ne (nl 2 3 (by decide)),mset_self],mset_self _ _ _,⟨none,k _ _ c4 (nl 4 2 (by decide)) (nl 4 3 (by decide))⟩,k _ _ hta2 (Ne.symm (nex c2 hta2)) (Ne.symm (nex c3 hta2)),k _ _ hra2 (Ne.symm (nex c2 hra2)) (Ne.symm (nex c3 hra2)),hla2.imp fun ep e=>k _ _ e (Ne.symm (nex c2 e)) (Ne.symm (nex c3 e)),n1⟩
 generalize mset (mset M1 (L+2) (.cell (some (.lst (vStrs AB))))) (L+3) (.cell (some (.lst (vStrs []))))=M2 at d4 SS
 clear k c1 c2 c3 c4 c3' d2 d3 hta2 hra2 hla2 n1 nl M1
 refine s_cons ?_;refine s_for (fun _=>rfl) ?_;refine c_typN hK (fun _=>rfl) rfl rfl ?_;refine a_pus rfl ?_
 refine range1 (fun rg t1 t2 t3 hrg=>?_)
 obtain⟨g1,g2⟩:=mun_none hrg
 rw[mun_more g1]
 rw[show(8:Int)=((0:Int)+((8:Nat):Int)) from rfl]
 have d5:=dis_set (y:=.raw (rangeObj 0 (0+((8:Nat):Int)) 1 t1 t2 t3)) d4 g1
 have S3:S2 L ta ra la ls [] AB [] ts (mset M2 rg (.raw (rangeObj 0 (0+((8:Nat):Int)) 1 t1 t2 t3))):=⟨by rw[mset_ne (nex SS.c1 g2)];exact SS.c1,by rw[mset_ne (nex SS.c2 g2)];exact SS.c2,by rw[mset_ne (nex SS.c3 g2)];exact SS.c3,SS.c4.imp fun z e=>by rw[mset_ne (nex e g2)];exact e,by rw[mset_ne (nex SS.hta g2)];exact SS.hta,by rw[mset_ne (nex SS.hra g2)];exact SS.hra,SS.hla.imp fun ep e=>by rw[mset_ne (nex e g2)];exact e,SS.n1⟩
 have hrm:=mset_self M2 rg (.raw (rangeObj 0 (0+((8:Nat):Int)) 1 t1 t2 t3))
 generalize mset M2 rg (.raw (rangeObj 0 (0+((8:Nat):Int)) 1 t1 t2 t3))=M3 at d5 S3 hrm
 clear SS d4 g1 g2 hrg M2
 refine for_map (ys:=List.range 8) (fun i _=>.int ((0:Int)+i)) (itr_range (k:=0) (n:=8) cd.handled (mun_rd d5 hrm) small8) (J2 W L ta ra la a ls w) (fun i l m hi J=>?_) (fun l m J=>?_) (fun i y l m hy J=>?_) ⟨rfl,[],AB,[],_,_,o,0,ts,gm,M3,rfl,GI.zero ls o,rfl,T,Nat.le_refl _,G,d5,S3,ht,Nat.le_refl _,Nat.le_refl _,ab_mt⟩
 ·unfold rangeItem
  rw[List.length_range]at hi
  by_cases q:i<8
  ·rw[if_pos q,List.getElem?_range q];rfl
  ·rw[if_neg q,List.getElem?_eq_none (by rw[List.length_range];lia)];rfl
 ·obtain⟨hl,R,us,un,g,S,o,k,ts,gm,M,rfl,v,hu,T,hk,G,d,S',ht,z1,z2,z3⟩:=J
  rw[List.length_range]at v z1 z2
  refine s_nil ?_
  exact h l ra R us un g S o k ts gm M 8 (Nat.le_refl _) hl v hu T G d S' (by lia) (by lia) z3
 ·obtain⟨hl,R,us,un,g,S,o,k,ts,gm,M,rfl,v,hu,T,hk,G,d,S',ht,z1,z2,z3⟩:=J
  have hi8:i<8:=by have:=(List.getElem?_eq_some_iff.mp hy).1;rwa [List.length_range]at this
  refine Op.locs hl ?_
  refine asg_name1 rfl rfl ?_
  refine turn_a hK cd d S' ht ?_ (fun M' x n ws rd vs hx hn hw rk d' S2' c5 hv=>?_)
  ·exact h _ ra R us un g S o k ts gm M i (by lia) rfl v hu T G d S' (by lia) (by lia) z3
  ·refine turn_b hK cd hf hx hn hw rk I v hu T hk (by lia) G d' S2' c5 (fun b R' us' un' g' gm' S'' o' k' st v' hu' T' hk' G' d''=>?_)
   refine turn_c hK cd hw st d'' S2' c5 (by have:=v.rz;lia) (by lia) (by lia) (fun l M'' hl d3 S3=>?_)
   have htz:=tch_len ws
   refine⟨hl,R',us',un',g',S'',o',k',vs,gm',M'',rfl,v',hu',T',hk',G',d3,S3,hv,?_,?_,?_⟩
   ·cases st with
    | no=>lia
    | yes e=>rw[List.length_append];lia
   ·cases st with
    | no=>rw[List.length_append];lia
    | yes e=>lia
   ·have tm:=tch_mt ws
    cases st with
    | no=>exact fun y hy=>(List.mem_append.mp hy).elim (fun h=>z3 y (List.mem_append_left _ h)) fun h=>(List.mem_append.mp h).elim (fun h=>z3 y (List.mem_append_right _ h)) (tm y)
    | yes e=>exact fun y hy=>(List.mem_append.mp hy).elim (fun h=>(List.mem_append.mp h).elim (fun h=>z3 y (List.mem_append_left _ h)) (tm y)) fun h=>z3 y (List.mem_append_right _ h)
end
section
variable {W:Wd}{A:Around}{env:Env}{outer:Outs}{loc:Loc}{mem R:Mem}{E:Ex W}{F:Frz}{s:Shared}
theorem VRs.of_get:∀ {xs:List V} {vs:List Value},vs.length=xs.length->(∀ (j:Nat) v,vs[j]? = some v->∃ x,xs[j]? = some x/\VR W F x v)->VRs W F xs vs
 | [],[],_,_=>.nil
 | [],_::_,h,_=>nomatch h
 | _::_,[],h,_=>nomatch h
 | x::xs,v::vs,h,k=>by
  obtain⟨y,e,r⟩:=k 0 v rfl
  cases e
  exact .cons r (VRs.of_get (Nat.succ.inj h) fun j v hv=>k (j+1) v hv)
theorem list_rng{a:Addr}{k:Int}{n:Nat}{t u v:Tok}{Q:V->Loc->Mem->Prop}(hh:A.handled=none)(hm:mem a=some (.raw (rangeObj k (k+n) 1 t u v)))(hsm:Builtin.Range.small k (k+n) 1=true)(hz:n≤2 ^ 24)(h:∀ D,mem D=none->Q (.ref D) loc (mset mem D (.list ((List.range n).map fun(i:Nat)=>V.int (k+i))))) :
  OpV W A env outer (fun vs=>call (.type "list") vs) [.ref a] loc mem Q E:=op1 fun R F s v' S r=>by
 obtain rfl:=r.isRef
 obtain⟨o,ho,q⟩:=S.memOk _ _ hm
 cases q.view
 have hsz:Builtin.Range.rangeSize k (k+n) 1=n:=by
  unfold Builtin.Range.rangeSize;simp;try lia
 refine call_list_range (n:=n) hh ho hsm hsz hz fun h' tk acc c hk hS hI=>?_
 have S':=S.alloc (t:=tk) (d:=s.drawn) (x:=.list ((List.range n).map fun(i:Nat)=>V.int (k+i))) (get?_size s.heap) S.size_le hk hS (.list (VRs.of_get (by rw[Array.length_toList,List.length_map,List.length_range];exact hI.1) fun j w hw=>?_))
 ·exact Post.mk (.ref _) S' (h _ (S.free (get?_size s.heap)).1)
 ·have hw':acc[j]? = some w:=by rw[Array.getElem?_toList]at hw;exact hw
  obtain⟨tk,rfl⟩:=hI.2 j w hw'
  have hj:j<n:=by
   have:=(Array.getElem?_eq_some_iff.mp hw').1
   rw[hI.1]at this;exact this
  refine⟨.int (k+j),by rw[List.getElem?_map,List.getElem?_range hj];rfl,?_⟩
  rw[Int.mul_one];exact .int _ _
theorem mun_shift{gm M:Mem}{u:Addr}{X:AObj}(h:gm u=none):mun (mset gm u X) M=mun gm (mset M u X):=by
 funext b
 by_cases e:b=u
 ·subst e;rw[mun_l (mset_self _ _ _),mun_r h,mset_self]
 ·cases q:gm b with
  | none=>rw[mun_r (by rw[mset_ne e];exact q),mun_r q,mset_ne e]
  | some y=>rw[mun_l (by rw[mset_ne e];exact q),mun_l q]
end
noncomputable def toldG:V->Option V
 | .ins _ [n,p,_,_,_,_,l,c,_,_,_,_,_]=>some (.tup [n.2,p.2,c.2,l.2])
 | _=>none
noncomputable def numG:V->Option V
 | .ins _ [_,_,n,_,_,_,_,_,_,_,_,_,_]=>some n.2
 | _=>none
theorem toldG_at(p:Pr):toldG (pV aProd p)=some (.tup [.str p.name,.tup (vStrs p.body),p.prec,p.line]):=rfl
theorem numG_at(p:Pr):numG (pV aProd p)=some (.int p.num):=rfl
theorem toldG_map(R:List Rul):((prodsOf R).map (pV aProd)).filterMap toldG=R.map rulV:=by
 unfold prodsOf
 rw[List.map_map]
 have:∀ (R:List Rul) (k:Nat),List.filterMap toldG ((R.zipIdx k).map (pV aProd ∘ fun q=>prOf q.2 q.1))=R.map rulV:=by
  intro R
  induction R with
  | nil=>intro k;rfl
  | cons r R ih=>
   intro k
   rw[List.zipIdx_cons,List.map_cons]
   exact(List.filterMap_cons_some (toldG_at (prOf k r))).trans (congrArg (rulV r::·) (ih (k+1)))
 exact this R 0
theorem numG_map(R:List Rul):((prodsOf R).map (pV aProd)).filterMap numG=(List.range R.length).map fun(i:Nat)=>V.int (1+i):=by
 unfold prodsOf
 rw[List.map_map]
 have:∀ (R:List Rul) (k:Nat),List.filterMap numG ((R.zipIdx k).map (pV aProd ∘ fun q=>prOf q.2 q.1))=(List.range' k R.length).map fun(i:Nat)=>V.int (1+i):=by
  intro R
  induction R with
  | nil=>intro k;rfl
  | cons r R ih=>
   intro k
   rw[List.zipIdx_cons,List.map_cons,List.length_cons,List.range'_succ]
   refine(List.filterMap_cons_some (numG_at (prOf k r))).trans ?_
   rw[ih (k+1),List.map_cons]
   show V.int ((k:Int)+1)::_=V.int (1+(k:Int))::_
   rw[Int.add_comm]
 rw[this R 0,List.range_eq_range']
theorem rulV_isD{r:Rul}(h:RulOk r):isD 2 (rulV r)=true:=by
 show(List.all [V.str r.1,V.tup (vStrs r.2.1),lvV r.2.2.1,V.int r.2.2.2] (Mine.isD 1))=true
 simp only [List.all_cons,List.all_nil,Bool.and_true,Bool.and_eq_true]
 refine⟨(hs_ok _ h.rb.left).1.2.1,isD_mt h.rb.body,?_,rfl⟩
 show(List.all [V.str r.2.2.1.1,V.int r.2.2.1.2] (Mine.isD 0))=true
 simp only [List.all_cons,List.all_nil,Bool.and_true,Bool.and_eq_true]
 exact⟨h.wy,rfl⟩
theorem small1{n:Nat}(h:n≤8):Builtin.Range.small 1 (1+(n:Int)) 1=true:=by
 have:n=0\/n=1\/n=2\/n=3\/n=4\/n=5\/n=6\/n=7\/n=8:=by lia
 rcases this with rfl|rfl|rfl|rfl|rfl|rfl|rfl|rfl|rfl<;>decide +kernel
section
variable {W:Wd}{A:Around}{env:Env}{outer:Outs}{loc:Loc}{mem:Mem}{E:Ex W}
theorem law_c{L ta ra la a:Addr}{ls:List Lvl}{R:List Rul}{us un:List Str}{ts:List Int}{w:Int}{g:GR}{S:Str->Bool}{gm M:Mem}{t:Nat}{l:Loc}{Q:Fl->Loc->Mem->Prop}(hK:W.K=hdK W.w.params)(cd:Calm A 310 2000)
  (hl:LSub [("tape",.ref ta),("grammar",.ref a),("wish",.int w),("rules",.ref ra)] l) (I:LsOk ls) (ht:t≤8) (v:GI ls R us un g S t) (G:GMem aGrammar aProd g a gm) (d:Dis gm M) (S':S2 L ta ra la ls R us un ts M)
  (h:TrS W A (lwE L) outer (execs (lLaw.body.drop 12) (lwE L)) [("tape",.ref ta),("grammar",.ref a),("wish",.int w),("rules",.ref ra)] (mun gm M) Q E) :
  TrS W A (lwE L) outer (execs (lLaw.body.drop 9) (lwE L)) l (mun gm M) Q E:=by
 have hu2:A.units+70<cLine:=Nat.lt_of_le_of_lt (Nat.add_le_add_right cd.units 70) (by decide)
 have hRz:R.length≤8:=Nat.le_trans v.rz ht
 refine Tr.locs hl ?_
 clear hl
 obtain⟨adr,cc,MM,ok,ea⟩:=id G
 obtain⟨epd,hdict⟩:=ok.dict
 obtain⟨epp,hprd⟩:=ok.pr
 have hx:=mun_l (R:=M) (MM.get ok.self)
 have hd:=mun_l (R:=M) (MM.get hdict)
 have hpl:=mun_l (R:=M) (MM.get ok.pl)
 have hpr:=mun_l (R:=M) (MM.get hprd)
 rw[ea]at hx
 rw[v.prods]at hpl
 rw[v.pr]at hpr
 have hra:=mun_rd d S'.hra
 have hc1:=mun_rd d S'.c1
 obtain⟨ep,hla0⟩:=S'.hla
 have hla:=mun_rd d hla0
 have epl:((prodsOf R).map (pV aProd)).length=R.length:=by rw[List.length_map,prodsOf_len]
 have hz9:∀ k:Nat,k≤9->k≤sizeLine:=fun k hk=>Nat.le_trans hk (by decide)
 have hpz:((prodsOf R).map (pV aProd)).length≤sizeLine:=by rw[epl];exact hz9 _ (by lia)
 have hpz1:(g.p0::(prodsOf R).map (pV aProd)).length≤sizeLine:=by rw[List.length_cons,epl];exact hz9 _ (by lia)
 refine s_cons ?_
 refine s_assign_listcomp (cl:=[]) rfl rfl (by decide) rfl (by decide) rfl rfl (fun _=>rfl) ?_
 refine e_slice ?_;refine e_attr1 rfl rfl ?_
 refine get_o hK (fun _=>by kernel_rfl) (.own hx hd) rfl rfl ?_
 refine e_int ?_
 refine⟨1,rfl,?_⟩
 refine⟨_,_,.list hpl,PySem.F.slot_list_getitem.lookup,?_⟩
 refine slice_from (k:=1) (.own hpl) hpz1 (by rw[List.length_cons];lia) ?_
 rw[show(g.p0::(prodsOf R).map (pV aProd)).drop 1=(prodsOf R).map (pV aProd) from rfl]
 refine comp_map (itr_lst cd.handled) ((prodsOf R).map (pV aProd)) (fun m i hs hi=>rfl) hpz toldG ?_ ?_
 ·intro C outer' i v' hv
  obtain⟨p,hp,rfl⟩:=inM (List.mem_of_getElem? hv)
  obtain⟨j,r,hr,rfl⟩:=prodsOf_mem hp
  refine asg_name1 rfl rfl ?_;refine e_tuple ?_;refine a_cons rfl ?_;refine e_attr1 rfl rfl ?_
  refine get_o hK (fun _=>by kernel_rfl) .frz rfl rfl ?_
  refine a_cons rfl ?_;refine e_attr1 rfl rfl ?_
  refine get_o hK (fun _=>by kernel_rfl) .frz rfl rfl ?_
  refine a_cons rfl ?_;refine e_attr1 rfl rfl ?_
  refine get_o hK (fun _=>by kernel_rfl) .frz rfl rfl ?_
  refine a_cons rfl ?_;refine e_attr1 rfl rfl ?_
  refine get_o hK (fun _=>by kernel_rfl) .frz rfl rfl ?_
  refine a_nil ?_
  refine new_tup (show 4≤sizeLine by decide) ?_
  skip
  exact⟨rfl,sub_refl _⟩
 intro D hD
 rw[toldG_map]
 have hDD:=mset_self (mun gm M) D (.list (R.map rulV))
 have sD:Sub (mun gm M) (mset (mun gm M) D (.list (R.map rulV))):=sub_mset hD (sub_refl _)
 generalize mset (mun gm M) D (.list (R.map rulV))=m1 at hDD sD
 have hx:=sD _ _ hx
 have hd:=sD _ _ hd
 have hpl:=sD _ _ hpl
 have hra:=sD _ _ hra
 have hdr:(R.map rulV).all (isD 2)=true:=List.all_eq_true.mpr fun v' hv=>by
  obtain⟨r,hr,rfl⟩:=inM hv
  exact rulV_isD (v.rok r hr)
 refine s_cons ?_
 refine Tr.mono (Q:=fun f l m=>f = .next/\Sub m1 m/\LSub [("tape",.ref ta),("grammar",.ref a),("wish",.int w),("rules",.ref ra)] l) (nameQ ?_) ?_
 ·intro qq ee
  refine s_if ?_;refine b_bool ?_;refine b_or_cons ?_;refine b_cmp2 rfl rfl rfl ?_
  refine ne_lists (n:=2) (.own hDD) (.own hra) hdr hdr (by decide) (by lia) (fun b hb=>?_)
  rw[hb.mpr rfl]
  refine tr_bool ?_
  refine only_o ?_
  refine b_or_cons ?_;refine b_cmp rfl ?_;refine e_listcomp rfl (by decide) rfl (by decide) (fun _=>rfl) ?_;refine e_slice ?_;refine e_attr1 rfl rfl ?_
  refine get_o hK (fun _=>by kernel_rfl) (.own hx hd) rfl rfl ?_
  refine e_int ?_
  refine⟨1,rfl,?_⟩
  refine⟨_,_,.list hpl,PySem.F.slot_list_getitem.lookup,?_⟩
  refine slice_from (k:=1) (.own hpl) hpz1 (by rw[List.length_cons];lia) ?_
  rw[show(g.p0::(prodsOf R).map (pV aProd)).drop 1=(prodsOf R).map (pV aProd) from rfl]
  refine comp_map (itr_lst cd.handled) ((prodsOf R).map (pV aProd)) (fun m i hs hi=>rfl) hpz numG ?_ ?_
  ·intro C outer' i v' hv
   obtain⟨p,hp,rfl⟩:=inM (List.mem_of_getElem? hv)
   obtain⟨j,r,hr,rfl⟩:=prodsOf_mem hp
   refine asg_name1 rfl rfl ?_;refine e_attr1 rfl rfl ?_
   refine get_o hK (fun _=>by kernel_rfl) .frz rfl rfl ?_
   exact⟨rfl,sub_refl _⟩
  intro D2 hD2
  rw[numG_map]
  have hDD2:=mset_self m1 D2 (.list ((List.range R.length).map fun(i:Nat)=>V.int (1+i)))
  have sD2:Sub m1 (mset m1 D2 (.list ((List.range R.length).map fun(i:Nat)=>V.int (1+i)))):=sub_mset hD2 (sub_refl _)
  generalize mset m1 D2 (.list ((List.range R.length).map fun(i:Nat)=>V.int (1+i)))=m2 at hDD2 sD2
  have hra2:=sD2 _ _ hra
  refine c_typN hK (fun _=>rfl) rfl rfl ?_;refine a_cons rfl ?_;refine c_typN hK (fun _=>rfl) rfl rfl ?_;refine a_pu rfl ?_;refine a_cons rfl ?_;refine e_binop ?_;refine c_bltN hK (fun _=>rfl) rfl rfl ?_;refine a_pus rfl ?_
  refine len_sq (.own hra2) (by rw[List.length_map];lia) ?_
  rw[List.length_map]
  refine e_int ?_;refine add_ii ?_;refine a_nil ?_
  refine range2 (fun rg t1 t2 t3 hrg=>?_)
  rw[show((R.length:Int)+1)=1+(R.length:Int) from Int.add_comm _ _]
  have hr3:=mset_self m2 rg (.raw (rangeObj 1 (1+(R.length:Int)) 1 t1 t2 t3))
  have s3:Sub m2 (mset m2 rg (.raw (rangeObj 1 (1+(R.length:Int)) 1 t1 t2 t3))):=sub_mset hrg (sub_refl _)
  generalize mset m2 rg (.raw (rangeObj 1 (1+(R.length:Int)) 1 t1 t2 t3))=m3 at hr3 s3
  have hD3:=s3 _ _ hDD2
  refine a_nil ?_
  refine list_rng cd.handled hr3 (small1 hRz) (Nat.le_trans hRz (by decide)) (fun D4 hD4=>?_)
  have s4:Sub m3 (mset m3 D4 (.list ((List.range R.length).map fun(i:Nat)=>V.int (1+i)))):=sub_mset hD4 (sub_refl _)
  have hdi:((List.range R.length).map fun(i:Nat)=>V.int (1+i)).all (isD 0)=true:=List.all_eq_true.mpr fun v' hv=>by
   obtain⟨i,_,rfl⟩:=List.mem_map.mp hv;rfl
  refine ne_lists (n:=0) (.own (s4 _ _ hD3)) (.own (mset_self _ _ _)) hdi hdi (by decide) (by lia) (fun b hb=>?_)
  rw[hb.mpr rfl]
  refine tr_bool ?_
  refine only_o ?_
  refine b_or_nil ?_
  refine only_f ?_
  refine s_nil ?_
  exact⟨rfl,fun b x e=>s4 _ _ (s3 _ _ (sD2 _ _ e)),rfl⟩
 ·rintro f l m ⟨rfl,hs,hl⟩
  refine s_cons ?_
  refine Tr.locs hl ?_
  refine Tr.memS hs ?_
  refine Tr.memS sD ?_
  clear hs hl hx hd hpl hra hDD sD m1
  refine s_if ?_;refine b_cmp rfl ?_;refine e_attr1 rfl rfl ?_
  refine get_o hK (fun _=>by kernel_rfl) (.own hx hd) rfl rfl ?_
  refine e_cell rfl rfl rfl rfl (by first|assumption|simp[mset_self]) ?_
  have ek:(lvA ls).map (·.1)=ls.map (·.1):=by unfold lvA;rw[List.map_map];rfl
  refine ne_dicts (a:=adr .pr) (n:=1) hpr hla (by rw[ek];exact I.nd) (fun q hq=>?_) (by decide) (by lia) ?_
  ·obtain⟨q',hq',rfl⟩:=List.mem_map.mp hq
   show(List.all [V.str q'.2.1,V.int q'.2.2] (Mine.isD 0))=true
   simp only [List.all_cons,List.all_nil,Bool.and_true,Bool.and_eq_true]
   exact⟨I.way q' hq',rfl⟩
  refine tr_bool ?_
  refine only_f ?_
  refine s_nil ?_
  exact h
end
noncomputable def wayOf(ls:List Lvl)(x:Str):Str:=((ls.lookup x).map (·.1)).getD ""
noncomputable def unG(ls:List Lvl)(X:List Str):V->Option V
 | .str x=>if x∈X then none else some (.tup [.str x,.str (wayOf ls x)])
 | _=>none
noncomputable def fgG(X:List Str):V->Option V
 | .tup (.str x::r)=>if x∈X then none else some (.tup (.str x::r))
 | _=>none
theorem look_nd{ls:List Lvl}(h:(ls.map (·.1)).Nodup){q:Lvl}(hq:q∈ls):ls.lookup q.1=some q.2:=by
 induction ls with
 | nil=>cases hq
 | cons p ls ih=>
  obtain⟨a,b⟩:=p
  rw[List.map_cons,List.nodup_cons]at h
  rw[List.lookup_cons]
  rcases List.mem_cons.mp hq with rfl|hq
  ·rw[beq_self_eq_true]
  ·rw[beq_false_of_ne (fun e:q.1=a=>h.1 (by have:=List.mem_map_of_mem (f:=fun q:Lvl=>q.1) hq;rw[e]at this;exact this))]
   exact ih h.2 hq
noncomputable def keepL(ls:List Lvl)(X:List Str):List Lvl:=ls.filter fun q=>!decide (q.1∈X)
theorem unG_map{ls:List Lvl}(h:(ls.map (·.1)).Nodup)(X:List Str):(vStrs (ls.map (·.1))).filterMap (unG ls X)=(keepL ls X).map pairV:=by
 have:∀ l:List Lvl,(∀ q∈l,q∈ls)->(vStrs (l.map (·.1))).filterMap (unG ls X)=(l.filter fun q=>!decide (q.1∈X)).map pairV:=by
  intro l
  induction l with
  | nil=>intro _;rfl
  | cons p l ih=>
   intro hl
   have ih:=ih fun q hq=>hl q (.tail _ hq)
   have e:=look_nd h (hl p (.head _))
   show List.filterMap (unG ls X) (V.str p.1::vStrs (l.map (·.1)))=_
   rw[List.filterMap_cons,List.filter_cons]
   by_cases hx:p.1∈X
   ·rw[show unG ls X (V.str p.1)=none from if_pos hx,decide_eq_true hx]
    exact ih
   ·rw[show unG ls X (V.str p.1)=some (pairV p) from(if_neg hx).trans (by unfold wayOf;rw[e];rfl),decide_eq_false hx]
    exact congrArg (pairV p::·) ih
 exact this ls fun q hq=>hq
theorem fgG_map(l:List Lvl)(X:List Str):(l.map pairV).filterMap (fgG X)=(keepL l X).map pairV:=by
 unfold keepL
 induction l with
 | nil=>rfl
 | cons p l ih=>
  rw[List.map_cons,List.filterMap_cons,List.filter_cons]
  by_cases hx:p.1∈X
  ·rw[show fgG X (pairV p)=none from if_pos hx,decide_eq_true hx]
   exact ih
  ·rw[show fgG X (pairV p)=some (pairV p) from if_neg hx,decide_eq_false hx]
   exact congrArg (pairV p::·) ih
noncomputable def toP(q:Lvl):Str×Str:=(q.1,q.2.1)
theorem pair_map(l:List Lvl):l.map pairV=(l.map toP).map pairS:=by rw[List.map_map];rfl
theorem sub_nd{ls:List Lvl}(h:(ls.map (·.1)).Nodup)(f:Lvl->Bool):(((ls.filter f).map toP).map (·.1)).Nodup:=by
 rw[List.map_map]
 exact List.Nodup.sublist (List.Sublist.map _ (List.filter_sublist (p:=f))) h
theorem pairS_isD{ps:List (Str×Str)}(h:∀ p∈ps,PyData.strOk p.1=true/\PyData.strOk p.2=true):(ps.map pairS).all (isD 1)=true:=List.all_eq_true.mpr fun v hv=>by
 obtain⟨p,hp,rfl⟩:=List.mem_map.mp hv
 show(List.all [V.str p.1,V.str p.2] (Mine.isD 0))=true
 simp only [List.all_cons,List.all_nil,Bool.and_true,Bool.and_eq_true]
 exact h p hp
theorem sortP_mem{ps:List (Str×Str)}(hz:ps.length≤6):∀ p∈sortP ps,p∈ps:=fun p hp=>by
 obtain⟨i,hi,rfl⟩:=List.mem_map.mp hp
 have:=permP_lt hz i hi
 rw[List.getD_eq_getElem?_getD,List.getElem?_eq_getElem this]
 exact List.getElem_mem _
section
variable {W:Wd}{A:Around}{env:Env}{outer:Outs}{loc:Loc}{mem:Mem}{E:Ex W}
theorem law_d{L ta ra la a:Addr}{ls:List Lvl}{R:List Rul}{us un:List Str}{ts:List Int}{w:Int}{g:GR}{S:Str->Bool}{o:Obj}{k:Nat}{gm M:Mem}{t:Nat}{Q:Fl->Loc->Mem->Prop}(hK:W.K=hdK W.w.params)(cd:Calm A 310 2000)
  (I:LsOk ls) (hlz:ls.length≤6) (v:GI ls R us un g S t) (hu:g.upo=some (.raw o)) (T:SetB W o S k) (G:GMem aGrammar aProd g a gm) (d:Dis gm M) (S':S2 L ta ra la ls R us un ts M) (z1:us.length≤100) (z2:un.length≤100) (z3:∀ x∈us++un,x∈MT)
  (h:∀ gm M,GMem aGrammar aProd g a gm->Dis gm M->S2 L ta ra la ls R us un ts M->TrS W A (lwE L) outer (execs (lLaw.body.drop 14) (lwE L)) [("tape",.ref ta),("grammar",.ref a),("wish",.int w),("rules",.ref ra)] (mun gm M) Q E) :
  TrS W A (lwE L) outer (execs (lLaw.body.drop 12) (lwE L)) [("tape",.ref ta),("grammar",.ref a),("wish",.int w),("rules",.ref ra)] (mun gm M) Q E:=by
 have hu2:A.units+65<cLine:=Nat.lt_of_le_of_lt (Nat.add_le_add_right cd.units 65) (by decide)
 have k1:=mun_rd d S'.c1
 have k2:=mun_rd d S'.c2
 have k3:=mun_rd d S'.c3
 obtain⟨ep,hla0⟩:=S'.hla
 have hla:=mun_rd d hla0
 have hkz:(vStrs (ls.map (·.1))).length≤sizeLine:=by rw[vStrs_len,List.length_map];exact Nat.le_trans hlz (by decide)
 have hok:∀ X:List Str,(∀ x∈X,x∈MT)->(vStrs X).all (isD 0)=true:=fun X hX=>isD_mt hX
 refine s_cons ?_
 refine s_assign_listcomp (cl:=[("used",L+2),("unsure",L+3),("levels",L+1)]) rfl rfl (by decide) rfl (by decide) rfl rfl (fun _=>rfl) ?_
 refine e_cell rfl rfl rfl rfl (by first|assumption|simp[mset_self]) ?_
 refine comp_map (itr_dict cd.handled hla) (vStrs (ls.map (·.1))) (fun m i hs hi=>?_) hkz (unG ls (us++un)) ?_ ?_
 ·rw[keyItem_eq (hs _ _ hla) rfl]
  unfold vStrs lvA
  rw[List.getElem?_map,List.getElem?_map,List.getElem?_map,Option.map_map,Option.map_map];rfl
 ·intro C outer' i v' hv
  obtain⟨x,hx,rfl⟩:=inM (List.mem_of_getElem? hv)
  obtain⟨q,hq,rfl⟩:=List.mem_map.mp hx
  refine asg_name1 rfl rfl ?_;refine b_cmp1 rfl rfl ?_;refine e_binop ?_;refine e_cell rfl rfl rfl rfl (by first|assumption|simp[mset_self]) ?_;refine e_cell rfl rfl rfl rfl (by first|assumption|simp[mset_self]) ?_
  refine add_ll (.lst _) (.lst _) (by rw[vStrs_len,vStrs_len];exact Nat.le_trans (show _≤200 by lia) (by decide)) ?_
  rw[vStrs_app]
  refine notin_strs (l:=us++un) (.lst _) (terms_ok _ (I.key q hq)).2.2 (hok _ z3) hu2 ?_
  by_cases hx2:q.1∈us++un
  ·rw[decide_eq_true hx2]
   refine tr_bool ?_
   refine only_f ?_
   exact⟨by show none=if q.1∈us++un then none else _;rw[if_pos hx2],sub_refl _⟩
  ·rw[decide_eq_false hx2]
   refine tr_bool ?_
   refine only_t ?_
   refine e_tuple ?_;refine a_pu rfl ?_;refine a_cons rfl ?_;refine e_sub (fun _ _=>rfl) ?_;refine e_sub (fun _ _=>rfl) ?_;refine e_cell rfl rfl rfl rfl (by first|assumption|simp[mset_self]) ?_;refine pu rfl ?_
   refine sub_dict (x:=lvV q.2) hla (lvA_get I.nd hq) ?_
   refine e_int ?_
   refine sub_sq (k:=0) (x:=.str q.2.1) (.tup _) (by decide) (by decide) rfl ?_
   refine a_nil ?_
   refine new_tup (show 2≤sizeLine by decide) ?_
   skip
   exact⟨by show some (V.tup [.str q.1,.str q.2.1])=if q.1∈us++un then none else some (.tup [.str q.1,.str (wayOf ls q.1)]);rw[if_neg hx2];unfold wayOf;rw[look_nd I.nd hq];rfl,sub_refl _⟩
 intro D hD
 rw[unG_map I.nd]
 have eqU:keepL (ls.filter fun q=>!((g.te.lookup q.1).isSome || S q.1)) un=keepL ls (us++un):=by
  unfold keepL
  rw[List.filter_filter]
  refine List.filter_congr fun q hq=>?_
  have hx:=I.key q hq
  have u1:=v.u1 q.1 hx
  have u2:=v.u2 q.1 hx
  by_cases h1:q.1∈un
  ·rw[decide_eq_true h1,decide_eq_true (List.mem_append_right us h1)];rfl
  ·by_cases h2:q.1∈us
   ·rw[u2 h2,decide_eq_true (List.mem_append_left un h2),decide_eq_false h1];rfl
   ·have:((g.te.lookup q.1).isSome || S q.1)=false:=by
     cases z:((g.te.lookup q.1).isSome || S q.1) with
     | false=>rfl
     | true=>exact absurd (u1 z) (by rintro(z|z);exact h2 z;exact h1 z)
    rw[this,decide_eq_false h1,decide_eq_false (fun z=>(List.mem_append.mp z).elim h2 h1)];rfl
 refine s_cons ?_
 refine Tr.locs (loc':=[("tape",.ref ta),("grammar",.ref a),("wish",.int w),("rules",.ref ra),("unused",.ref D)]) rfl ?_
 refine Tr.settleL (x:="unused") rfl (Shift.lst (mset_self _ _ _) (sub_mset hD (sub_refl _)) hD) ?_
 refine Tr.locs (loc':=[("tape",.ref ta),("grammar",.ref a),("wish",.int w),("rules",.ref ra),("unused",.lst ((keepL ls (us++un)).map pairV))]) rfl ?_
 refine Tr.mono (Q:=fun f l m=>f = .next/\LSub [("tape",.ref ta),("grammar",.ref a),("wish",.int w),("rules",.ref ra)] l/\∃ gm' M',GMem aGrammar aProd g a gm'/\Dis gm' M'/\S2 L ta ra la ls R us un ts M'/\Sub (mun gm' M') m) (nameQ ?_) ?_
 ·intro qq ee
  obtain⟨adr,cc,MM,ok,ea⟩:=id G
  obtain⟨epd,hdict⟩:=ok.dict
  have hx:=mun_l (R:=M) (MM.get ok.self)
  have hd:=mun_l (R:=M) (MM.get hdict)
  rw[ea]at hx
  refine s_if ?_;refine b_cmp rfl ?_;refine c_bltN hK (fun _=>rfl) rfl rfl ?_;refine a_cons rfl ?_;refine e_listcomp rfl (by decide) rfl (by decide) (fun _=>rfl) ?_;refine c_meth1 rfl rfl ?_
  refine m_own0 (.own hx hd) (by rw[hK];first|rfl|kernel_rfl|decide +kernel) (by rw[hK];first|rfl|kernel_rfl|decide +kernel) (by rw[hK];first|rfl|kernel_rfl|decide +kernel) rfl (by rw[hK];first|rfl|kernel_rfl|decide +kernel) ?_
  refine Op.frame (Q:=fun v l m=>l=[(("tape" : Str),V.ref ta),("grammar",.ref a),("wish",.int w),("rules",.ref ra),("unused",.lst ((keepL ls (us++un)).map pairV))]/\∃ u gm',v = .ref u/\GMem aGrammar aProd g a gm'/\gm' u=none/\m=mset gm' u (.list ((ls.filter fun q=>!((g.te.lookup q.1).isSome || S q.1)).map pairV))) d (unp_spec hK (cd.mono (by decide) (by decide)) G v.pr ⟨I.nd,hlz⟩ hu T (fun u gm' G' hu'=>⟨rfl,u,gm',rfl,G',hu',rfl⟩)) ?_
  rintro v' l m1 d1 ⟨rfl,u,gm',rfl,G',hu',rfl⟩
  rw[mun_shift hu']
  have hMu:M u=none:=d1 u _ (mset_self _ _ _)
  have d2:Dis gm' (mset M u (.list ((ls.filter fun q=>!((g.te.lookup q.1).isSome || S q.1)).map pairV))):=fun b x e=>by
   rw[mset_ne (fun q=>by rw[q,hu']at e;cases e)]
   exact d1 b x (by rw[mset_ne (fun q=>by rw[q,hu']at e;cases e)];exact e)
  have hU:=mset_self M u (.list ((ls.filter fun q=>!((g.te.lookup q.1).isSome || S q.1)).map pairV))
  have SS:S2 L ta ra la ls R us un ts (mset M u (.list ((ls.filter fun q=>!((g.te.lookup q.1).isSome || S q.1)).map pairV))):=⟨by rw[mset_ne (nex S'.c1 hMu)];exact S'.c1,by rw[mset_ne (nex S'.c2 hMu)];exact S'.c2,by rw[mset_ne (nex S'.c3 hMu)];exact S'.c3,S'.c4.imp fun z e=>by rw[mset_ne (nex e hMu)];exact e,by rw[mset_ne (nex S'.hta hMu)];exact S'.hta,by rw[mset_ne (nex S'.hra hMu)];exact S'.hra,S'.hla.imp fun ep e=>by rw[mset_ne (nex e hMu)];exact e,S'.n1⟩
  generalize mset M u (.list ((ls.filter fun q=>!((g.te.lookup q.1).isSome || S q.1)).map pairV))=M1 at d2 hU SS
  have hU1:=mun_rd d2 hU
  have k3':=mun_rd d2 SS.c3
  have hfz:∀ f:Lvl->Bool,((ls.filter f).map pairV).length≤6:=fun f=>by rw[List.length_map];exact Nat.le_trans (List.length_filter_le _ _) hlz
  skip
  refine comp_map (itr_own cd.handled hU1) ((ls.filter fun q=>!((g.te.lookup q.1).isSome || S q.1)).map pairV) (fun m i s _=>own_hit hU1 s i) (Nat.le_trans (hfz _) (by decide)) (fgG un) ?_ ?_
  ·intro C outer' i v' hv
   obtain⟨q,hq,rfl⟩:=inM (List.mem_of_getElem? hv)
   have hq:=(List.mem_filter.mp hq).1
   refine asg_name1 rfl rfl ?_;refine b_cmp rfl ?_;refine e_sub2 (fun _ _=>rfl) rfl rfl ?_
   refine sub_sq (k:=0) (x:=.str q.1) (.tup _) (by decide) (by decide) rfl ?_
   refine e_cell rfl rfl rfl rfl (by first|assumption|simp[mset_self]) ?_
   refine notin_strs (l:=un) (.lst _) (terms_ok _ (I.key q hq)).2.2 (hok _ fun x hx=>z3 x (List.mem_append_right _ hx)) hu2 ?_
   by_cases hx2:q.1∈un
   ·rw[decide_eq_true hx2]
    refine tr_bool ?_
    refine only_f ?_
    exact⟨by show none=if q.1∈un then none else _;rw[if_pos hx2],sub_refl _⟩
   ·rw[decide_eq_false hx2]
    refine tr_bool ?_
    refine only_t ?_
    refine pu rfl ?_
    exact⟨by show some (pairV q)=if q.1∈un then none else some (pairV q);rw[if_neg hx2],sub_refl _⟩
  intro D2 hD2
  rw[fgG_map,eqU]
  have hDD:=mset_self (mun gm' M1) D2 (.list ((keepL ls (us++un)).map pairV))
  have s2:Sub (mun gm' M1) (mset (mun gm' M1) D2 (.list ((keepL ls (us++un)).map pairV))):=sub_mset hD2 (sub_refl _)
  generalize mset (mun gm' M1) D2 (.list ((keepL ls (us++un)).map pairV))=m2 at hDD s2
  rw[pair_map]at hDD
  have nd:(((keepL ls (us++un)).map toP).map (·.1)).Nodup:=sub_nd I.nd fun q=>!decide (q.1∈us++un)
  have hz6:((keepL ls (us++un)).map toP).length≤6:=by rw[List.length_map];exact Nat.le_trans (List.length_filter_le _ _) hlz
  have hsd:((sortP ((keepL ls (us++un)).map toP)).map pairS).all (isD 1)=true:=pairS_isD fun p hp=>by
   obtain⟨q,hq,rfl⟩:=List.mem_map.mp (sortP_mem hz6 p hp)
   have hq:=(List.mem_filter.mp hq).1
   exact⟨(terms_ok _ (I.key q hq)).2.2,I.way q hq⟩
  refine a_nil ?_
  refine sorted_pairs (.own hDD) nd hz6 (fun D3 hD3=>?_)
  have hD3':=mset_self m2 D3 (.list ((sortP ((keepL ls (us++un)).map toP)).map pairS))
  have s3:Sub m2 (mset m2 D3 (.list ((sortP ((keepL ls (us++un)).map toP)).map pairS))):=sub_mset hD3 (sub_refl _)
  generalize mset m2 D3 (.list ((sortP ((keepL ls (us++un)).map toP)).map pairS))=m3 at hD3' s3
  refine c_bltN hK (fun _=>rfl) rfl rfl ?_;refine a_pus rfl ?_
  rw[pair_map]
  refine sorted_pairs (.lst _) nd hz6 (fun D4 hD4=>?_)
  have s4:Sub m3 (mset m3 D4 (.list ((sortP ((keepL ls (us++un)).map toP)).map pairS))):=sub_mset hD4 (sub_refl _)
  refine ne_lists (n:=1) (.own (s4 _ _ hD3')) (.own (mset_self _ _ _)) hsd hsd (by decide) hu2 (fun b hb=>?_)
  rw[hb.mpr rfl]
  refine tr_bool ?_
  refine only_f ?_
  refine s_nil ?_
  exact⟨rfl,rfl,gm',M1,G',d2,SS,fun b x e=>s4 _ _ (s3 _ _ (s2 _ _ e))⟩
 ·rintro f l m ⟨rfl,hl,gm',M',G',d',SS,hs⟩
  exact Tr.locs hl (Tr.memS hs (h gm' M' G' d' SS))
end
section
variable {W:Wd}{A:Around}{env:Env}{outer:Outs}{loc:Loc}{mem:Mem}{E:Ex W}
theorem sprime_ok:PyData.strOk ("S'" : Str)=true/\PyData.strOk ("right" : Str)=true/\("" : Str)≠"B"/\PyData.strOk ("B" : Str)=true/\("B" : Str).cps.size≤100/\0<("B" : Str).cps.size/\(("B" : Str).length:Int)<2 ^ 63:=by decide +kernel
theorem law_f{L ta ra la a:Addr}{ls:List Lvl}{R:List Rul}{r0:Rul}{us un:List Str}{ts:List Int}{w:Int}{g:GR}{gm M:Mem}{nm st:Str}{Q:Fl->Loc->Mem->Prop}(hK:W.K=hdK W.w.params)(cd:Calm A 310 2000)
  (hR:R[0]? = some r0) (hst:PyData.strOk st=true) (hnz:(nm.length:Int)<2 ^ 63) (h1:((nm.length:Int) != 0)=true->st=nm) (h2:((nm.length:Int) != 0)=false->st=r0.1) (G:GMem aGrammar aProd (startG aProd g st) a gm) (d:Dis gm M) (S':S2 L ta ra la ls R us un ts M)
  (h:∀ l m,Q (.ret (.bool true)) l m) :
  TrS W A (lwE L) outer (execs (lLaw.body.drop 18) (lwE L)) [("tape",.ref ta),("grammar",.ref a),("wish",.int w),("rules",.ref ra),("name",.str nm)] (mun gm M) Q E:=by
 have hu2:A.units+65<cLine:=Nat.lt_of_le_of_lt (Nat.add_le_add_right cd.units 65) (by decide)
 have hra:=mun_rd d S'.hra
 obtain⟨adr,cc,MM,ok,ea⟩:=id G
 obtain⟨epd,hdict⟩:=ok.dict
 have hx:=mun_l (R:=M) (MM.get ok.self)
 have hd:=mun_l (R:=M) (MM.get hdict)
 rw[ea]at hx
 refine s_cons ?_
 refine s_assign1 rfl rfl rfl ?_
 refine e_subI (C:=aGrammar) (f:=151) (es:=gAttrs adr (startG aProd g st).upo.isSome (startG aProd g st).up (startG aProd g st).start) (by rw[hK];first|rfl|kernel_rfl|decide +kernel) (by rw[hK];first|rfl|kernel_rfl|decide +kernel) (by rw[hK];first|rfl|kernel_rfl|decide +kernel) (fun _ _=>by with_unfolding_all rfl) ?_
 refine pu rfl ?_;refine e_int ?_
 refine⟨.own hx hd,?_⟩
 refine Op.frame (Q:=fun v l m=>v=(startG aProd g st).p0/\l=[(("tape" : Str),V.ref ta),("grammar",.ref a),("wish",.int w),("rules",.ref ra),("name",.str nm)]/\m=gm) d (gitem_spec hK (cd.in1.mono (by decide) (by decide)) G ⟨rfl,rfl,rfl⟩) ?_
 rintro v' l m1 d1 ⟨rfl,rfl,rfl⟩
 refine s_cons ?_
 refine Tr.locs (loc':=[("tape",.ref ta),("grammar",.ref a),("wish",.int w),("rules",.ref ra),("name",.str nm),("top",(startG aProd g st).p0)]) rfl ?_
 refine Tr.mono (Q:=fun f l m=>f = .next/\m=mun m1 M/\LSub [("grammar",.ref a),("top",(startG aProd g st).p0),("begin",.str st)] l) (nameQ ?_) ?_
 ·intro qq ee
  refine s_assign1 rfl rfl rfl ?_;refine e_ifexp ?_;refine b_value1 rfl rfl ?_
  refine tr_str hnz ?_
  refine⟨fun e=>?_,fun e=>?_⟩
  ·refine pu rfl ?_
   exact⟨rfl,rfl,by rw[h1 e];rfl⟩
  ·refine e_sub (fun _ _=>rfl) ?_;refine e_sub2 (fun _ _=>rfl) rfl rfl ?_
   refine sub_sq (x:=rulV r0) (.own hra) (by decide) (by decide) (by rw[List.getElem?_map];show Option.map rulV R[0]? = _;rw[hR];rfl) ?_
   refine e_int ?_
   refine sub_sq (x:=.str r0.1) (.tup _) (by decide) (by decide) rfl ?_
   skip
   exact⟨rfl,rfl,by rw[h2 e];rfl⟩
 ·rintro f l m ⟨rfl,rfl,hl⟩
  refine s_cons ?_
  refine Tr.locs hl ?_
  refine s_ret ?_;refine e_cmp rfl ?_;refine e_tuple ?_;refine a_cons rfl ?_;refine e_attr1 rfl rfl ?_
  refine get_o hK (fun _=>by kernel_rfl) .frz rfl rfl ?_
  refine a_cons rfl ?_;refine e_attr1 rfl rfl ?_
  refine get_o hK (fun _=>by kernel_rfl) .frz rfl rfl ?_
  refine a_cons rfl ?_;refine e_attr1 rfl rfl ?_
  refine get_o hK (fun _=>by kernel_rfl) .frz rfl rfl ?_
  refine a_cons rfl ?_;refine e_attr1 rfl rfl ?_
  refine get_o hK (fun _=>by kernel_rfl) .frz rfl rfl ?_
  refine a_cons rfl ?_;refine e_attr1 rfl rfl ?_
  refine get_o hK (fun _=>by kernel_rfl) (.own hx hd) rfl rfl ?_
  refine a_nil ?_
  refine new_tup (show 5≤sizeLine by decide) ?_
  refine e_tuple ?_;refine a_pu rfl ?_;refine a_cons rfl ?_;refine e_tuple ?_;refine a_pus rfl ?_
  refine new_tup (show 1≤sizeLine by decide) ?_
  refine a_cons rfl ?_;refine e_tuple ?_;refine a_pus rfl ?_
  refine new_tup (show 2≤sizeLine by decide) ?_
  refine a_pus rfl ?_
  refine new_tup (show 5≤sizeLine by decide) ?_
  have hT:isD 2 (.tup [.str "S'",.tup [.str st],.tup [.str "right",.int 0],.int 0,.str st])=true:=by
   show(List.all [V.str "S'",V.tup [.str st],V.tup [.str "right",.int 0],V.int 0,V.str st] (Mine.isD 1))=true
   simp only [List.all_cons,List.all_nil,Bool.and_true,Bool.and_eq_true]
   refine⟨sprime_ok.1,?_,?_,rfl,hst⟩
   ·show(List.all [V.str st] (Mine.isD 0))=true
    simp only [List.all_cons,List.all_nil,Bool.and_true]
    exact hst
   ·show(List.all [V.str "right",V.int 0] (Mine.isD 0))=true
    simp only [List.all_cons,List.all_nil,Bool.and_true,Bool.and_eq_true]
    exact⟨sprime_ok.2.1,rfl⟩
  refine eq_dd (n:=2) (m:=2) (x:=.tup [.str "S'",.tup [.str st],.tup [.str "right",.int 0],.int 0,.str st]) (y:=.tup [.str "S'",.tup [.str st],.tup [.str "right",.int 0],.int 0,.str st]) hT hT (by decide) (by decide) (by lia) (fun b hb=>?_)
  rw[hb.mpr rfl]
  skip
  exact h _ _
theorem law_e {L ta ra la a : Addr} {ls : List Lvl} {R : List Rul} {us un : List Str} {ts : List Int} {w : Int} {g : GR} {S : Str → Bool} {gm M : Mem} {t : Nat} {Q : Fl → Loc → Mem → Prop} (hK : W.K = hdK W.w.params) (cd : Calm A 310 2000) (hf : Fits A (lwE L) outer)
    (ht : t ≤ 8) (v : GI ls R us un g S t) (G : GMem aGrammar aProd g a gm) (d : Dis gm M) (S' : S2 L ta ra la ls R us un ts M)
    (h : ∀ l m, Q (.ret (.bool true)) l m) :
    TrS W A (lwE L) outer (execs (lLaw.body.drop 14) (lwE L)) [("tape", .ref ta), ("grammar", .ref a), ("wish", .int w), ("rules", .ref ra)] (mun gm M) Q E := by
  have hu2 : A.units + 65 < cLine := Nat.lt_of_le_of_lt (Nat.add_le_add_right cd.units 65) (by decide)
  have hRz : R.length ≤ 8 := Nat.le_trans v.rz ht
  have hra := mun_rd d S'.hra
  obtain ⟨adr, cc, MM, ok, ea⟩ := id G
  obtain ⟨epd, hdict⟩ := ok.dict
  have hx := mun_l (R := M) (MM.get ok.self)
  have hd := mun_l (R := M) (MM.get hdict)
  have hpl := mun_l (R := M) (MM.get ok.pl)
  rw [ea] at hx
  rw [v.prods, v.p0] at hpl
  rw [v.st] at hd
  refine s_cons ?_; refine s_if ?_; refine b_not ?_; refine b_value1 rfl rfl ?_
  refine tr_list (.own hra) (by rw [List.length_map]; lia) ?_
  rcases List.eq_nil_or_concat R with hR | ⟨R0, rl, hR⟩
  · subst hR
    skip
    refine ⟨fun _ => ?_, fun e => (nomatch e)⟩
    (refine nameQ ?_; intro qq ee; refine s_cons ?_); refine s_ret ?_; refine e_cmp rfl ?_; refine e_attr1 rfl rfl ?_
    refine get_o hK (fun _ => by kernel_rfl) (.own hx hd) rfl rfl ?_
    refine e_list ?_; refine a_pus rfl ?_
    refine new_lst (xs := [.none]) (show 1 ≤ sizeLine by decide) ?_
    refine eq_lists (n := 0) (.own hpl) (.lst [.none]) rfl rfl (by decide) hu2 (fun b hb => ?_)
    rw [hb.mpr rfl]
    skip
    exact h _ _
  · rw [List.concat_eq_append] at hR
    have hne : (!(R.map rulV).isEmpty) = true := by rw [hR, List.map_append]; cases R0 <;> rfl
    rw [hne]
    skip
    refine ⟨fun e => (nomatch e), fun _ => ?_⟩
    refine s_nil ?_; refine s_cons ?_; refine s_assign1 rfl rfl rfl ?_; refine e_sub (fun _ _ => rfl) ?_; refine e_list ?_; refine a_pu rfl ?_; refine a_cons rfl ?_; refine e_sub (fun _ _ => rfl) ?_; refine e_sub1 (fun _ _ => rfl) rfl ?_; refine e_unop ?_; refine e_int ?_
    refine neg_i ?_
    skip
    refine sub_neg (j := R0.length) (x := rulV rl) (.own hra) (by decide) (by decide) (by rw [List.length_map, hR, List.length_append, List.length_singleton]; lia) (by rw [hR, List.map_append, List.getElem?_append_right (by rw [List.length_map]; exact Nat.le_refl _), List.length_map, Nat.sub_self]; rfl) ?_
    refine e_int ?_
    refine sub_sq (x := .str rl.1) (.tup _) (by decide) (by decide) rfl ?_
    refine a_pus rfl ?_
    refine new_lst (xs := vStrs [("" : Str), rl.1, "B"]) (show 3 ≤ sizeLine by decide) ?_
    refine e_binop ?_; refine e_binop2 rfl rfl ?_
    refine fdiv_ii (by decide) (nopy (by decide)) ?_
    refine e_int ?_
    refine mod_ii (by decide) ?_
    have r3 := fmod_rng (a := w.fdiv 7) (b := 3) (by decide)
    obtain ⟨nm, hnm, hne⟩ := at_mod [("" : Str), rl.1, "B"] (show 3 ≠ 0 by decide) (w.fdiv 7)
    refine sub_sq (x := .str nm) (.lst _) r3.1 (Int.lt_of_lt_of_le r3.2 (by decide)) hne ?_
    have hrl : rl ∈ R := hR ▸ List.mem_append_right _ (.head _)
    obtain ⟨⟨b1, b2, b3⟩, b4, b5, b6, b7⟩ := hs_ok _ (v.rok rl hrl).rb.left
    obtain ⟨r0, Rt, hR2⟩ : ∃ r0 Rt, R = r0 :: Rt := by
      cases R with
      | nil => cases hrl
      | cons r0 Rt => exact ⟨r0, Rt, rfl⟩
    have hr0 : r0 ∈ R := hR2 ▸ .head _
    obtain ⟨⟨a1, a2, a3⟩, a4, a5, a6, a7⟩ := hs_ok _ (v.rok r0 hr0).rb.left
    have hnl : ∀ x ns, g.no.lookup x = some ns → ns.length ≤ 100000 := fun x ns e => Nat.le_trans (v.len.2.2 x ns e) (by lia)
    refine s_cons ?_
    refine Tr.locs (loc' := [("tape", .ref ta), ("grammar", .ref a), ("wish", .int w), ("rules", .ref ra), ("name", .str nm)]) rfl ?_
    rcases List.mem_cons.mp hnm with rfl | hnm
    · -- the empty name
      refine s_if ?_; refine b_cmp rfl ?_; refine c_topN hK (fun _ => rfl) (fun _ => rfl) rfl rfl ?_; refine a_pus rfl ?_
      refine lstart_spec (st := r0.1) hK (cd.mono (by decide) (by decide)) hf G d (.emp (p := prOf 0 r0) (ps := (prodsOf R).tail) (by rw [v.prods, hR2]; rfl) rfl) a1 a2 (hnl _) (fun e => ?_) (fun _ gm2 G2 d2 => ?_)
      · have := v.noR r0 hr0; rw [e] at this; cases this
      refine e_cmp2 rfl rfl rfl ?_; refine ne_ss ?_
      refine ne_bb ?_
      rw [decide_eq_false sprime_ok.2.2.1]
      refine tr_bool ?_
      refine only_f ?_
      refine s_nil ?_; refine s_cons ?_; refine s_if ?_; refine b_cmp2 rfl rfl rfl ?_; refine eq_ss ?_; refine tr_bool ?_
      rw [decide_eq_false sprime_ok.2.2.1]
      refine only_f ?_
      refine s_nil ?_
      exact law_f hK cd (r0 := r0) (by rw [hR2]; rfl) a2 (by decide) (fun e => nomatch e) (fun _ => rfl) G2 d2 S' h
    rcases List.mem_cons.mp hnm with rfl | hnm
    · have hnB : rl.1 ≠ "B" := b7
      refine s_if ?_; refine b_cmp rfl ?_; refine c_topN hK (fun _ => rfl) (fun _ => rfl) rfl rfl ?_; refine a_pus rfl ?_
      refine lstart_spec (st := rl.1) hK (cd.mono (by decide) (by decide)) hf G d (.str b3) b1 b2 (hnl _) (fun e => ?_) (fun _ gm2 G2 d2 => ?_)
      · have := v.noR rl hrl; rw [e] at this; cases this
      refine e_cmp2 rfl rfl rfl ?_; refine ne_ss ?_
      refine ne_bb ?_
      rw [decide_eq_false hnB]
      refine tr_bool ?_
      refine only_f ?_
      refine s_nil ?_; refine s_cons ?_; refine s_if ?_; refine b_cmp2 rfl rfl rfl ?_; refine eq_ss ?_; refine tr_bool ?_
      rw [decide_eq_false hnB]
      refine only_f ?_
      refine s_nil ?_
      exact law_f hK cd (r0 := r0) (by rw [hR2]; rfl) b2 (by show (rl.1.cps.size : Int) < _; lia) (fun _ => rfl) (fun e => by have e2 : (rl.1.length : Int) = 0 := (by simpa using e); have e3 : (rl.1.cps.size : Int) = 0 := e2; exact absurd e3 (by lia)) G2 d2 S' h
    · have hB := List.mem_singleton.mp hnm
      subst hB
      refine s_if ?_; refine b_cmp rfl ?_; refine c_topN hK (fun _ => rfl) (fun _ => rfl) rfl rfl ?_; refine a_pus rfl ?_
      refine lstart_spec (st := "B") hK (cd.mono (by decide) (by decide)) hf G d (.str sprime_ok.2.2.2.2.2.1) sprime_ok.2.2.2.2.1 sprime_ok.2.2.2.1 (hnl _) (fun _ => ?_) (fun e gm2 G2 d2 => ?_)
      rotate_left
      · have := v.noB; rw [e] at this; cases this
      refine e_cmp2 rfl rfl rfl ?_; refine ne_ss ?_
      refine ne_bb ?_
      refine tr_bool ?_
      refine only_f ?_
      refine s_nil ?_; refine s_cons ?_; refine s_if ?_; refine b_cmp2 rfl rfl rfl ?_; refine eq_ss ?_; refine tr_bool ?_
      refine only_t ?_
      (refine nameQ ?_; intro qq ee; refine s_cons ?_); refine s_ret ?_; refine e_and2 ?_; refine e_cmp rfl ?_; refine e_sub (fun _ _ => rfl) ?_; refine e_attr1 rfl rfl ?_
      refine get_o hK (fun _ => by kernel_rfl) (.own hx hd) rfl rfl ?_
      refine e_int ?_
      refine sub_sq (x := .none) (.own hpl) (by decide) (by decide) rfl ?_
      refine e_none ?_
      refine is_none (v := .none) rfl (fun u e => nomatch e) ?_
      refine tr_bool ?_
      refine only_t ?_
      refine e_cmp rfl ?_; refine e_attr1 rfl rfl ?_
      refine get_o hK (fun _ => by kernel_rfl) (.own hx hd) rfl rfl ?_
      refine e_none ?_
      refine is_none (v := .none) rfl (fun u e => nomatch e) ?_
      skip
      exact h _ _
end
section
variable {W:Wd}{A:Around}{env:Env}{outer:Outs}{loc:Loc}{mem:Mem}{E:Ex W}
theorem law_body{L:Addr}{ns:List Int}{M0:Mem}(hK:W.K=hdK W.w.params)(cd:Calm A 310 2000)(hf:Fits A (lwE L) outer)(hns:ns.length≤63)
  (c1:M0 (L+1)=some (.cell none)) (c2:M0 (L+2)=some (.cell none)) (c3:M0 (L+3)=some (.cell none)) (c4:M0 (L+4)=some (.cell none)) :
  TrS W A (lwE L) outer (execs lLaw.body (lwE L)) [("script",.lst (vInts ns))] M0 (fun f _ _=>f = .ret (.bool true)) E:=by
 refine law_a hK cd hf hns c1 c2 c3 c4 (fun l M ta la a gm ls ts o w hl I hz T ht S G d=>?_)
 refine law_b hK cd hf hl I T ht S G d (fun l ra R us un g S o k ts gm M t ht8 hl v hu T G d S' z1 z2 z3=>?_)
 refine law_c hK cd hl I ht8 v G d S' ?_
 exact law_d hK cd I hz v hu T G d S' z1 z2 z3 (fun gm M G d S'=>law_e hK cd hf ht8 v G d S' (fun l m=>rfl))
end
theorem vrs_ints{W:Wd}{F:Frz}{ns:List Int}{vs:List Value}(h:IntsAre vs ns):VRs W F (vInts ns) vs:=by
 induction h with
 | nil=>exact .nil
 | cons _ _ _ ih=>exact .cons (.int _ _) ih
theorem vr_laid{W:Wd}{F:Frz}{P:Params}{h:Heap}{a:Addr}{ns:List Int}{vs:List Value}(hF:∀ a o,h.get? a=some o->F a o)(hL:h.IsList a vs.toArray)(hI:IntsAre vs ns)(w:Well P h (.ref a) (ofPy (.list (ns.map .int)))):VR W F (.lst (vInts ns)) (.ref a):=by
 cases w with
 | list e r=>
  obtain⟨o,ho,hc,n,hd⟩:=hL
  rw[e]at ho
  obtain rfl:=Option.some.inj ho
  injection hd with hd _
  exact .lst (hF _ _ e) (by rw[hd];exact vrs_ints hI)
theorem enterD{prog:Program}{w:World}{K:Frag}{p:Program}{loose:List Str}{mean mean2:ExcName->Option Value}{mg mb:Str->Option Value}{s₁:Shared}{h₁:Heap}{t:Nat}{a L:Addr}{ns:List Int}{vs:List Value}{env:Env}{A:Around}{sts:List Stmt}{o1 o2 o3 o4:Obj}
  {m:Str->Option Value} {c:ClaimW} {cl:Str->Option Addr} {args:List WData} {E:Value->Shared->Prop}
  (KX:K.In s₁.heap) (T:Top p loose mean mg mb s₁.heap) (hg:s₁.gens = #[]) (hLs:s₁.heap.IsList a vs.toArray) (hI:IntsAre vs ns) (wl:Well w.params s₁.heap (.ref a) (ofPy (.list (ns.map .int)))) (FF:Fr s₁.heap L h₁ m) (hm:m "script" = some (.ref a)) (hL:L=s₁.heap.objs.size) (hL2:env.locals=L)
  (N:News s₁.heap L h₁ [(L+1+1+1+1,o4),(L+1+1+1,o3),(L+1+1,o2),(L+1,o1)]) (d1:o1.data = .cell none) (d2:o2.data = .cell none) (d3:o3.data = .cell none) (d4:o4.data = .cell none)
  (hr:∀ cls,c.raises args cls=false) (hp:c.post args (.bool true) args=true)
  (h:∀ W:Wd,W.prog=prog->W.w=w->W.K=K->∀ M0:Mem,M0 (L+1)=some (.cell none)->M0 (L+2)=some (.cell none)->M0 (L+3)=some (.cell none)->M0 (L+4)=some (.cell none)->
   TrS W A env [] (execs sts env) [("script",.lst (vInts ns))] M0 (fun f _ _=>f = .ret (.bool true)) Ex.no) :
  wpAny (model prog w) A (execs sts env) (fun f s'=>GoodW c cl mean2 args s₁ (.ok (.ret (match f with|.ret v=>v|_=>.none))) s') E { heap:=h₁,gens:=s₁.gens,drawn:=s₁.drawn,toks:=t,os:=s₁.os }:=by
 let W:Wd:={ prog:=prog,w:=w,K:=K,hb:=s₁.heap,mg:=mg,mb:=mb,os:=s₁.os,p:=p,loose:=loose,KIn:=KX,top:=topRead_of T,nolim:=T.nolimit }
 have n1:=N _ (.tail _ (.tail _ (.tail _ (.head _))))
 have n2:=N _ (.tail _ (.tail _ (.head _)))
 have n3:=N _ (.tail _ (.head _))
 have n4:=N _ (.head _)
 obtain⟨M0,hM0⟩:∃ M0:Mem,M0=mset (mset (mset (mset (fun _=>none) (L+1) (.cell none)) (L+2) (.cell none)) (L+3) (.cell none)) (L+4) (.cell none):=⟨_,rfl⟩
 have nl:∀ j k:Nat,j≠k->L+j≠L+k:=fun j k hj e=>hj (Nat.add_left_cancel e)
 have m1:M0 (L+1)=some (.cell none):=by rw[hM0,mset_ne (nl 1 4 (by decide)),mset_ne (nl 1 3 (by decide)),mset_ne (nl 1 2 (by decide)),mset_self]
 have m2:M0 (L+2)=some (.cell none):=by rw[hM0,mset_ne (nl 2 4 (by decide)),mset_ne (nl 2 3 (by decide)),mset_self]
 have m3:M0 (L+3)=some (.cell none):=by rw[hM0,mset_ne (nl 3 4 (by decide)),mset_self]
 have m4:M0 (L+4)=some (.cell none):=by rw[hM0,mset_self]
 have inv:∀ b x,M0 b=some x->(b=L+1/\x = .cell none)\/(b=L+2/\x = .cell none)\/(b=L+3/\x = .cell none)\/(b=L+4/\x = .cell none):=fun b x e=>by
  by_cases q4:b=L+4
  ·rw[q4,m4]at e;cases e;exact .inr (.inr (.inr ⟨q4,rfl⟩))
  ·by_cases q3:b=L+3
   ·rw[q3,m3]at e;cases e;exact .inr (.inr (.inl ⟨q3,rfl⟩))
   ·by_cases q2:b=L+2
    ·rw[q2,m2]at e;cases e;exact .inr (.inl ⟨q2,rfl⟩)
    ·by_cases q1:b=L+1
     ·rw[q1,m1]at e;cases e;exact .inl ⟨q1,rfl⟩
     ·rw[hM0,mset_ne q4,mset_ne q3,mset_ne q2,mset_ne q1]at e;cases e
 clear hM0
 have big:∀ b x,M0 b=some x->s₁.heap.objs.size<b:=fun b x e=>by
  rcases inv b x e with⟨rfl,_⟩|⟨rfl,_⟩|⟨rfl,_⟩|⟨rfl,_⟩<;>(rw[<-hL];exact Nat.lt_add_of_pos_right (by decide))
 have gnone:∀ b x,M0 b=some x->s₁.heap.get? b=none:=fun b x e=>by
  cases q:s₁.heap.get? b with
  | none=>rfl
  | some o=>exact absurd (Heap.lt_size q) (Nat.not_lt.mpr (Nat.le_of_lt (big b x e)))
 have ML:M0 L=none:=by
  cases q:M0 L with
  | none=>rfl
  | some x=>exact absurd (big L x q) (by rw[<-hL];exact Nat.lt_irrefl _)
 have cellO:∀ {F:Frz} {o:Obj},o.data = .cell none->OR W F (.cell none) o:=fun {F o} d=>.cell d (fun x e=>nomatch e) fun _=>rfl
 have S:Sim W env [] [("script",.lst (vInts ns))] M0 (fun _=>none) (fun b o=>s₁.heap.get? b=some o) { heap:=h₁,gens:=s₁.gens,drawn:=s₁.drawn,toks:=t,os:=s₁.os }:={
  dis:=fun a x e=>rfl
  z:={
   frz:=fun b o e=>FF.keep b o e
   base:=fun b o e=>e
   memF:=fun b o e=>by
    show mun M0 _ b=none
    unfold mun
    cases q:M0 b with
    | none=>rfl
    | some x=>rw[gnone b x q]at e;cases e
   memOk:=fun b x e=>by
    have e:M0 b=some x:=by unfold mun at e;cases q:M0 b with|none=>rw[q]at e;cases e|some y=>rw[q]at e;exact e
    rcases inv b x e with⟨rfl,rfl⟩|⟨rfl,rfl⟩|⟨rfl,rfl⟩|⟨rfl,rfl⟩
    ·exact⟨_,n1.1,cellO d1⟩
    ·exact⟨_,n2.1,cellO d2⟩
    ·exact⟨_,n3.1,cellO d3⟩
    ·exact⟨_,n4.1,cellO d4⟩
   ns:=⟨m,by rw[hL2];exact FF.ns,fun x v e=>by
    rw[List.lookup_cons]at e
    split at e
    ·rename_i q
     cases e
     rw[show x = "script" from by simpa using q]
     exact⟨_,hm,vr_laid (fun _ _ e=>e) hLs hI wl⟩
    ·cases e⟩
   nsF:=⟨fun o e=>(by rw[hL2,hL,get?_size]at e;cases e),by show mun M0 _ _=none;unfold mun;rw[hL2,ML]⟩
   outs:=fun q hq=>nomatch hq
   low:=by rw[hL2,hL];exact Nat.le_refl _
   memLow:=fun b x e=>by
    have e:M0 b=some x:=by unfold mun at e;cases q:M0 b with|none=>rw[q]at e;cases e|some y=>rw[q]at e;exact e
    exact notMod (W:=W) (Nat.le_of_lt (big b x e))
   gens:=hg
   os:=rfl } }
 refine wpAny_mono (h W rfl rfl rfl M0 m1 m2 m3 m4 (fun _=>none) _ _ S) (fun f s' q=>?_) fun _ _ e=>e.elim
 obtain⟨F',v,l',m',i,r,S',rfl⟩:=q
 cases r with
 | ret r=>
  obtain rfl:=r.isBool
  exact⟨.inl ⟨_,.bool true,[],rfl,hr,ReadsW.bool true,hp,fun _=>⟨List.nodup_nil,fun _ hm=>(nomatch hm)⟩⟩,fun b o e=>S'.frz b o (i b o e),S'.os,S'.gens⟩
noncomputable def codeOf:Data->Value
 | .func f=>f.code
 | _=>.none
theorem fin:PySem.Challenge.rw_te0001_01.Holds:=head (by
 k_fill
 intro w s₀ s₁ mg mb G Y fa o pm cd doc dV kV ho hd hcd hD hmg hg args vals as hpre hlay hrd hwl hlo
 have KX:(lawHeap w.params).In s₁.heap:=kIn_of Y
 have hmg2:=hmg
 have ho2:=ho
 have hd2:=congrArg codeOf hd
 refine Ground.open G ?_
 intro T B D TE TW
 obtain⟨_,_,M⟩:=bmod_of_top T
 have TA:=at_of_top T
 clear hmg
 wrow_args hpre hlay hrd hwl hlo
 all_goals (
  refine enter_call ?_
  w_top on
  refine codeAny_mono ?_ (fun _ _ g=>GoodW.toG g)
  have K0:=below_caller (Top.heap T)
  w_call any ho hd hcd hD T F
  clear hd TA
  k_drop)
 have T:Top view (looseW view ["Production","Grammar","_law_WORDS","_law_MEANT"]) (ExcName.means s₀.heap) mg mb s₁.heap:=by assumption
 have efa:fa=304:=by
  have e:=(mg_of (n:="law") KX T.g (by rfl)).symm.trans hmg2
  cases e;rfl
 subst efa
 have eo:=(KX _ _ (lLaw.at w.params)).symm.trans ho2
 obtain rfl:=Option.some.inj eo
 have ecd:lLaw.code=cd:=hd2
 rw[<-ecd]
 clear hd2 ho2 eo hmg2
 refine enterD (env:=lwE s₁.heap.objs.size) (L:=s₁.heap.objs.size) KX T hg (by assumption) (by assumption) (by assumption) (by assumption) rfl rfl rfl (by assumption) (by assumption) (by assumption) (by assumption) (by assumption) (fun _=>rfl) (by kernel_rfl) fun W e1 e2 e3 M0 c1 c2 c3 c4=>?_
 exact law_body (e3.trans (by rw[e2])) ⟨rfl,rfl,Nat.le_of_ble_eq_true rfl,Nat.le_of_ble_eq_true rfl⟩ ⟨[],rfl,rfl,rfl,fun e he=>nomatch he⟩ (by lia) c1 c2 c3 c4)
end Mine
theorem PySem.Challenge.cw_te0001_01_holds : PySem.Challenge.rw_te0001_01.Holds :=
  Mine.fin
