import PyProof.Rows.All
import Wide.All
import OpenK.AllK
import Wide.FinOn
import KE.FramesApart
import PyProof.ExcBaseAll.Exception
import KE.KDictSum
import KE.KDictList
import OpenK.TopRead
import Lean
import PySem.Challenge.RW_te0001_03
open PySem PySem.W PySem.Calls PyProof.Rows
set_option Elab.async false
set_option maxRecDepth 100000
set_option autoImplicit false
set_option compiler.extract_closed false
set_option maxHeartbeats 8000000
set_option linter.unusedVariables false
namespace Mine
noncomputable abbrev pw:Program:=PySem.Challenge.pw_te0001_03
noncomputable def ai(l:List Stmt)(i:Nat):Stmt:=l.getD i (.Pass ⟨0,0,0,0⟩)
noncomputable def noA:Arguments:=⟨[],[],none,[],[],none,[]⟩
noncomputable def noS:Scope:={ kind:=.function,names:=[],isGenerator:=false,isCoroutine:=false }
noncomputable def noP:Arguments×List Stmt×Scope:=(noA,[],noS)
noncomputable def stP(s:Stmt):Arguments×List Stmt×Scope:=Stmt.casesOn (motive_2:=fun _=>Arguments×List Stmt×Scope) s (fun _ a b _ _ _ s _ _ _=>(a,b,s)) (fun _ _ _ _ _ _ _ _ _ _=>noP) (fun _ _ _ b _ _ _ _ _ _ _=>(noA,b,noS)) (fun _ _=>noP) (fun _ _=>noP) (fun _ _ _=>noP) (fun _ _ _ _ _ _ _=>noP) (fun _ _ _ _=>noP) (fun _ _ _ _ _=>noP) (fun _ _ b _ _=>(noA,b,noS)) (fun _ _ _ _ _=>noP) (fun _ b _ _=>(noA,b,noS)) (fun _ b _ _=>(noA,b,noS)) (fun _ _ _=>noP) (fun _ _ _=>noP) (fun _ _ _=>noP) (fun _ _ _=>noP) (fun b _ _ _ _=>(noA,b,noS)) (fun _ _ _ _ _=>noP) (fun _ _ _=>noP) (fun _ _=>noP) (fun _ _ _ _=>noP) (fun _ _=>noP) (fun _ _=>noP) (fun _ _=>noP) (fun _=>noP) (fun _=>noP) (fun _=>noP)
noncomputable def ag(s:Stmt):List Stmt:=(stP s).2.1
noncomputable def aA(s:Stmt):Arguments:=(stP s).1
noncomputable def av(s:Stmt):Scope:=(stP s).2.2
noncomputable def kg:Program:={ pw with main:={ pw.main with body:=[0,2,3,4,5,6,7,8,9,11,12,13,14,15,16,17,18,19,20,21,22].map (ai pw.main.body) } }
noncomputable def aS(P:Params):Frag:=[
 (2,Obj.mk (Value.none) (none) (Data.dict #[{ hash:=PyData.keyHash P (Str.ofString "type.__subclasses__.Exception.0"),key:=Value.str (Str.ofString "type.__subclasses__.Exception.0") 212,val:=Value.int 31 0 },{ hash:=PyData.keyHash P (Str.ofString "type.__subclasses__.Exception.n"),key:=Value.str (Str.ofString "type.__subclasses__.Exception.n") 213,val:=Value.int 1 0 }] 2) (#[])),
 (3,Obj.mk (Value.type "dict") (none) (Data.dict #[{ hash:=PyData.keyHash P (Str.ofString "__name__"),key:=Value.str (Str.ofString "__name__") 165,val:=Value.str (Str.ofString "law_te0001_03") 536 },{ hash:=PyData.keyHash P (Str.ofString "__doc__"),key:=Value.str (Str.ofString "__doc__") 166,val:=Value.none },{ hash:=PyData.keyHash P (Str.ofString "__package__"),key:=Value.str (Str.ofString "__package__") 167,val:=Value.none },{ hash:=PyData.keyHash P (Str.ofString "__loader__"),key:=Value.str (Str.ofString "__loader__") 168,val:=Value.builtin "__main__.__loader__#opaque" },{ hash:=PyData.keyHash P (Str.ofString "__spec__"),key:=Value.str (Str.ofString "__spec__") 169,val:=Value.none },{ hash:=PyData.keyHash P (Str.ofString "__annotations__"),key:=Value.str (Str.ofString "__annotations__") 170,val:=Value.ref 6 },{ hash:=PyData.keyHash P (Str.ofString "__builtins__"),key:=Value.str (Str.ofString "__builtins__") 171,val:=Value.ref 4 },{ hash:=PyData.keyHash P (Str.ofString "__file__"),key:=Value.str (Str.ofString "__file__") 173,val:=Value.str (Str.ofString "/claim/cut.py") 172 },{ hash:=PyData.keyHash P (Str.ofString "__cached__"),key:=Value.str (Str.ofString "__cached__") 174,val:=Value.none },{ hash:=PyData.keyHash P (Str.ofString "_wall"),key:=Value.str (Str.ofString "_wall") 193,val:=Value.ref 21 },{ hash:=PyData.keyHash P (Str.ofString "YaccError"),key:=Value.str (Str.ofString "YaccError") 215,val:=Value.ref 31 },{ hash:=PyData.keyHash P (Str.ofString "_is_identifier"),key:=Value.str (Str.ofString "_is_identifier") 221,val:=Value.ref 39 },{ hash:=PyData.keyHash P (Str.ofString "_IDENTIFIER"),key:=Value.str (Str.ofString "_IDENTIFIER") 223,val:=Value.str (Str.ofString "abcdefghijklmnopqrstuvwxyzABCDEFGHIJKLMNOPQRSTUVWXYZ0123456789_-") 222 },{ hash:=PyData.keyHash P (Str.ofString "_literal"),key:=Value.str (Str.ofString "_literal") 230,val:=Value.ref 46 },{ hash:=PyData.keyHash P (Str.ofString "Production"),key:=Value.str (Str.ofString "Production") 323,val:=Value.ref 100 },{ hash:=PyData.keyHash P (Str.ofString "rightmost_terminal"),key:=Value.str (Str.ofString "rightmost_terminal") 332,val:=Value.ref 111 },{ hash:=PyData.keyHash P (Str.ofString "GrammarError"),key:=Value.str (Str.ofString "GrammarError") 348,val:=Value.ref 121 },{ hash:=PyData.keyHash P (Str.ofString "Grammar"),key:=Value.str (Str.ofString "Grammar") 535,val:=Value.ref 246 },{ hash:=PyData.keyHash P (Str.ofString "_law_NAMES"),key:=Value.str (Str.ofString "_law_NAMES") 543,val:=Value.ref 257 },{ hash:=PyData.keyHash P (Str.ofString "_law_SYMBOLS"),key:=Value.str (Str.ofString "_law_SYMBOLS") 553,val:=Value.ref 258 },{ hash:=PyData.keyHash P (Str.ofString "_law_BADNAMES"),key:=Value.str (Str.ofString "_law_BADNAMES") 559,val:=Value.ref 265 },{ hash:=PyData.keyHash P (Str.ofString "_law_BADSYMBOLS"),key:=Value.str (Str.ofString "_law_BADSYMBOLS") 565,val:=Value.ref 272 },{ hash:=PyData.keyHash P (Str.ofString "_law_STARTS"),key:=Value.str (Str.ofString "_law_STARTS") 571,val:=Value.ref 279 },{ hash:=PyData.keyHash P (Str.ofString "_law_next"),key:=Value.str (Str.ofString "_law_next") 578,val:=Value.ref 286 },{ hash:=PyData.keyHash P (Str.ofString "_law_groups"),key:=Value.str (Str.ofString "_law_groups") 584,val:=Value.ref 291 },{ hash:=PyData.keyHash P (Str.ofString "_law_due"),key:=Value.str (Str.ofString "_law_due") 590,val:=Value.ref 296 },{ hash:=PyData.keyHash P (Str.ofString "_law_told"),key:=Value.str (Str.ofString "_law_told") 596,val:=Value.ref 301 },{ hash:=PyData.keyHash P (Str.ofString "_law_refused"),key:=Value.str (Str.ofString "_law_refused") 605,val:=Value.ref 308 },{ hash:=PyData.keyHash P (Str.ofString "_law_unstarted"),key:=Value.str (Str.ofString "_law_unstarted") 613,val:=Value.ref 315 },{ hash:=PyData.keyHash P (Str.ofString "law"),key:=Value.str (Str.ofString "law") 619,val:=Value.ref 320 }] 30) (#[])),
 (20,Obj.mk (Value.type "code") (none) (Data.fields #[Value.str (Str.ofString "_wall") 187,Value.str (Str.ofString "_wall") 188,Value.str (Str.ofString "/claim/cut.py") 189,Value.int 1 0,Value.int 1 0,Value.int 0 0,Value.int 0 0,Value.int 3 0,Value.ref 15,Value.bool true,Value.int 181 0,Value.ref 16,Value.none,Value.ref 17,Value.ref 18,Value.ref 19,Value.int 191 0,Value.int 1 0,Value.str (Str.ofString "/claim/cut.py") 192]) (#[])),
 (21,Obj.mk (Value.type "function") (none) (Data.func (FuncData.mk (Str.ofString "_wall") (Str.ofString "_wall") (aA (ai pw.main.body 0)) (.stmts (ag (ai pw.main.body 0))) (av (ai pw.main.body 0)) 3 [] (Value.none) (Value.none) (Value.none) (Value.str (Str.ofString "__main__") 164) (none) (Value.ref 20) (Value.none) 0)) (#[])),
 (30,Obj.mk (Value.type "dict") (none) (Data.dict #[{ hash:=PyData.keyHash P (Str.ofString "__module__"),key:=Value.str (Str.ofString "__module__") 203,val:=Value.str (Str.ofString "ply.yacc") 194 },{ hash:=PyData.keyHash P (Str.ofString "__firstlineno__"),key:=Value.str (Str.ofString "__firstlineno__") 207,val:=Value.int 5 206 },{ hash:=PyData.keyHash P (Str.ofString "__static_attributes__"),key:=Value.str (Str.ofString "__static_attributes__") 208,val:=Value.ref 29 },{ hash:=PyData.keyHash P (Str.ofString "__weakref__"),key:=Value.str (Str.ofString "__weakref__") 210,val:=Value.ref 32 },{ hash:=PyData.keyHash P (Str.ofString "__doc__"),key:=Value.str (Str.ofString "__doc__") 211,val:=Value.none }] 3) (#[])),
 (31,Obj.mk (Value.type "type") (none) (Data.cls { name:=Str.ofString "YaccError",bases:=[Value.type "Exception"],mro:=[Value.ref 31,Value.type "Exception",Value.type "BaseException",Value.type "object"],ns:=30,qualname:=Str.ofString "YaccError",subclasses:=[Value.ref 121] }) (#[some (Value.ref 22),none,some (Value.str (Str.ofString "YaccError") 196),some (Value.str (Str.ofString "YaccError") 204),some (Value.builtin "Exception.__new__"),some (Value.bool true)])),
 (32,Obj.mk (Value.type "getset_descriptor") (none) (Data.fields #[Value.str (Str.ofString "__weakref__") 209,Value.ref 31,Value.builtin "ExceptionGroup.__weakref__",Value.none]) (#[])),
 (38,Obj.mk (Value.type "code") (none) (Data.fields #[Value.str (Str.ofString "_is_identifier") 216,Value.str (Str.ofString "_is_identifier") 217,Value.str (Str.ofString "/claim/cut.py") 218,Value.int 7 0,Value.int 1 0,Value.int 0 0,Value.int 0 0,Value.int 3 0,Value.ref 35,Value.bool true,Value.int 181 0,Value.ref 36,Value.none,Value.none,Value.none,Value.ref 37,Value.int 219 0,Value.int 7 0,Value.str (Str.ofString "/claim/cut.py") 220]) (#[])),
 (39,Obj.mk (Value.type "function") (none) (Data.func (FuncData.mk (Str.ofString "_is_identifier") (Str.ofString "_is_identifier") (aA (ai pw.main.body 3)) (.stmts (ag (ai pw.main.body 3))) (av (ai pw.main.body 3)) 3 [] (Value.none) (Value.none) (Value.none) (Value.str (Str.ofString "ply.yacc") 194) (none) (Value.ref 38) (Value.none) 0)) (#[])),
 (45,Obj.mk (Value.type "code") (none) (Data.fields #[Value.str (Str.ofString "_literal") 224,Value.str (Str.ofString "_literal") 225,Value.str (Str.ofString "/claim/cut.py") 226,Value.int 10 0,Value.int 1 0,Value.int 0 0,Value.int 0 0,Value.int 3 0,Value.ref 40,Value.bool true,Value.int 181 0,Value.ref 41,Value.none,Value.ref 42,Value.ref 43,Value.ref 44,Value.int 228 0,Value.int 10 0,Value.str (Str.ofString "/claim/cut.py") 229]) (#[])),
 (46,Obj.mk (Value.type "function") (none) (Data.func (FuncData.mk (Str.ofString "_literal") (Str.ofString "_literal") (aA (ai pw.main.body 5)) (.stmts (ag (ai pw.main.body 5))) (av (ai pw.main.body 5)) 3 [] (Value.none) (Value.none) (Value.none) (Value.str (Str.ofString "ply.yacc") 194) (none) (Value.ref 45) (Value.none) 0)) (#[])),
 (54,Obj.mk (Value.type "tuple") (none) (Data.seq #[Value.str (Str.ofString "right") 247,Value.int 0 248]) (#[])),
 (55,Obj.mk (Value.type "tuple") (none) (Data.seq #[Value.ref 54,Value.none,Value.str (Str.ofString "") 249,Value.int 0 250]) (#[])),
 (61,Obj.mk (Value.type "code") (none) (Data.fields #[Value.str (Str.ofString "__init__") 251,Value.str (Str.ofString "Production.__init__") 252,Value.str (Str.ofString "/claim/cut.py") 253,Value.int 18 0,Value.int 8 0,Value.int 0 0,Value.int 0 0,Value.int 3 0,Value.ref 56,Value.bool true,Value.int 181 0,Value.ref 57,Value.none,Value.ref 58,Value.ref 59,Value.ref 60,Value.int 263 0,Value.int 18 0,Value.str (Str.ofString "/claim/cut.py") 264]) (#[])),
 (62,Obj.mk (Value.type "function") (none) (Data.func (FuncData.mk (Str.ofString "__init__") (Str.ofString "Production.__init__") (aA (ai (ag (ai pw.main.body 6)) 2)) (.stmts (ag (ai (ag (ai pw.main.body 6)) 2))) (av (ai (ag (ai pw.main.body 6)) 2)) 3 [] (Value.ref 55) (Value.none) (Value.none) (Value.str (Str.ofString "ply.yacc") 194) (none) (Value.ref 61) (Value.none) 0)) (#[])),
 (68,Obj.mk (Value.type "code") (none) (Data.fields #[Value.str (Str.ofString "__str__") 266,Value.str (Str.ofString "Production.__str__") 267,Value.str (Str.ofString "/claim/cut.py") 268,Value.int 39 0,Value.int 1 0,Value.int 0 0,Value.int 0 0,Value.int 3 0,Value.ref 63,Value.bool true,Value.int 181 0,Value.ref 64,Value.none,Value.ref 65,Value.ref 66,Value.ref 67,Value.int 270 0,Value.int 39 0,Value.str (Str.ofString "/claim/cut.py") 271]) (#[])),
 (69,Obj.mk (Value.type "function") (none) (Data.func (FuncData.mk (Str.ofString "__str__") (Str.ofString "Production.__str__") (aA (ai (ag (ai pw.main.body 6)) 3)) (.stmts (ag (ai (ag (ai pw.main.body 6)) 3))) (av (ai (ag (ai pw.main.body 6)) 3)) 3 [] (Value.none) (Value.none) (Value.none) (Value.str (Str.ofString "ply.yacc") 194) (none) (Value.ref 68) (Value.none) 0)) (#[])),
 (75,Obj.mk (Value.type "code") (none) (Data.fields #[Value.str (Str.ofString "__repr__") 273,Value.str (Str.ofString "Production.__repr__") 274,Value.str (Str.ofString "/claim/cut.py") 275,Value.int 42 0,Value.int 1 0,Value.int 0 0,Value.int 0 0,Value.int 3 0,Value.ref 70,Value.bool true,Value.int 181 0,Value.ref 71,Value.none,Value.ref 72,Value.ref 73,Value.ref 74,Value.int 277 0,Value.int 42 0,Value.str (Str.ofString "/claim/cut.py") 278]) (#[])),
 (76,Obj.mk (Value.type "function") (none) (Data.func (FuncData.mk (Str.ofString "__repr__") (Str.ofString "Production.__repr__") (aA (ai (ag (ai pw.main.body 6)) 4)) (.stmts (ag (ai (ag (ai pw.main.body 6)) 4))) (av (ai (ag (ai pw.main.body 6)) 4)) 3 [] (Value.none) (Value.none) (Value.none) (Value.str (Str.ofString "ply.yacc") 194) (none) (Value.ref 75) (Value.none) 0)) (#[])),
 (82,Obj.mk (Value.type "code") (none) (Data.fields #[Value.str (Str.ofString "__len__") 280,Value.str (Str.ofString "Production.__len__") 281,Value.str (Str.ofString "/claim/cut.py") 282,Value.int 45 0,Value.int 1 0,Value.int 0 0,Value.int 0 0,Value.int 3 0,Value.ref 77,Value.bool true,Value.int 181 0,Value.ref 78,Value.none,Value.ref 79,Value.ref 80,Value.ref 81,Value.int 284 0,Value.int 45 0,Value.str (Str.ofString "/claim/cut.py") 285]) (#[])),
 (83,Obj.mk (Value.type "function") (none) (Data.func (FuncData.mk (Str.ofString "__len__") (Str.ofString "Production.__len__") (aA (ai (ag (ai pw.main.body 6)) 5)) (.stmts (ag (ai (ag (ai pw.main.body 6)) 5))) (av (ai (ag (ai pw.main.body 6)) 5)) 3 [] (Value.none) (Value.none) (Value.none) (Value.str (Str.ofString "ply.yacc") 194) (none) (Value.ref 82) (Value.none) 0)) (#[])),
 (89,Obj.mk (Value.type "code") (none) (Data.fields #[Value.str (Str.ofString "__getitem__") 287,Value.str (Str.ofString "Production.__getitem__") 288,Value.str (Str.ofString "/claim/cut.py") 289,Value.int 48 0,Value.int 2 0,Value.int 0 0,Value.int 0 0,Value.int 3 0,Value.ref 84,Value.bool true,Value.int 181 0,Value.ref 85,Value.none,Value.ref 86,Value.ref 87,Value.ref 88,Value.int 292 0,Value.int 48 0,Value.str (Str.ofString "/claim/cut.py") 293]) (#[])),
 (90,Obj.mk (Value.type "function") (none) (Data.func (FuncData.mk (Str.ofString "__getitem__") (Str.ofString "Production.__getitem__") (aA (ai (ag (ai pw.main.body 6)) 6)) (.stmts (ag (ai (ag (ai pw.main.body 6)) 6))) (av (ai (ag (ai pw.main.body 6)) 6)) 3 [] (Value.none) (Value.none) (Value.none) (Value.str (Str.ofString "ply.yacc") 194) (none) (Value.ref 89) (Value.none) 0)) (#[])),
 (96,Obj.mk (Value.type "code") (none) (Data.fields #[Value.str (Str.ofString "bind") 295,Value.str (Str.ofString "Production.bind") 296,Value.str (Str.ofString "/claim/cut.py") 297,Value.int 51 0,Value.int 2 0,Value.int 0 0,Value.int 0 0,Value.int 3 0,Value.ref 91,Value.bool true,Value.int 181 0,Value.ref 92,Value.none,Value.ref 93,Value.ref 94,Value.ref 95,Value.int 300 0,Value.int 51 0,Value.str (Str.ofString "/claim/cut.py") 301]) (#[])),
 (97,Obj.mk (Value.type "function") (none) (Data.func (FuncData.mk (Str.ofString "bind") (Str.ofString "Production.bind") (aA (ai (ag (ai pw.main.body 6)) 7)) (.stmts (ag (ai (ag (ai pw.main.body 6)) 7))) (av (ai (ag (ai pw.main.body 6)) 7)) 3 [] (Value.none) (Value.none) (Value.none) (Value.str (Str.ofString "ply.yacc") 194) (none) (Value.ref 96) (Value.none) 0)) (#[])),
 (99,Obj.mk (Value.type "dict") (none) (Data.dict #[{ hash:=PyData.keyHash P (Str.ofString "__module__"),key:=Value.str (Str.ofString "__module__") 238,val:=Value.str (Str.ofString "ply.yacc") 194 },{ hash:=PyData.keyHash P (Str.ofString "__firstlineno__"),key:=Value.str (Str.ofString "__firstlineno__") 242,val:=Value.int 14 241 },{ hash:=PyData.keyHash P (Str.ofString "reduced"),key:=Value.str (Str.ofString "reduced") 244,val:=Value.int 0 243 },{ hash:=PyData.keyHash P (Str.ofString "lr0_added"),key:=Value.str (Str.ofString "lr0_added") 246,val:=Value.int 0 245 },{ hash:=PyData.keyHash P (Str.ofString "__init__"),key:=Value.str (Str.ofString "__init__") 265,val:=Value.ref 62 },{ hash:=PyData.keyHash P (Str.ofString "__str__"),key:=Value.str (Str.ofString "__str__") 272,val:=Value.ref 69 },{ hash:=PyData.keyHash P (Str.ofString "__repr__"),key:=Value.str (Str.ofString "__repr__") 279,val:=Value.ref 76 },{ hash:=PyData.keyHash P (Str.ofString "__len__"),key:=Value.str (Str.ofString "__len__") 286,val:=Value.ref 83 },{ hash:=PyData.keyHash P (Str.ofString "__getitem__"),key:=Value.str (Str.ofString "__getitem__") 294,val:=Value.ref 90 },{ hash:=PyData.keyHash P (Str.ofString "bind"),key:=Value.str (Str.ofString "bind") 302,val:=Value.ref 97 },{ hash:=PyData.keyHash P (Str.ofString "__static_attributes__"),key:=Value.str (Str.ofString "__static_attributes__") 316,val:=Value.ref 98 },{ hash:=PyData.keyHash P (Str.ofString "__dict__"),key:=Value.str (Str.ofString "__dict__") 318,val:=Value.ref 101 },{ hash:=PyData.keyHash P (Str.ofString "__weakref__"),key:=Value.str (Str.ofString "__weakref__") 320,val:=Value.ref 102 },{ hash:=PyData.keyHash P (Str.ofString "__doc__"),key:=Value.str (Str.ofString "__doc__") 321,val:=Value.none }] 4) (#[])),
 (100,Obj.mk (Value.type "type") (none) (Data.cls { name:=Str.ofString "Production",bases:=[Value.type "object"],mro:=[Value.ref 100,Value.type "object"],ns:=99,qualname:=Str.ofString "Production" }) (#[some (Value.ref 47),none,some (Value.str (Str.ofString "Production") 231),some (Value.str (Str.ofString "Production") 239),some (Value.builtin "object.__new__"),some (Value.bool true)])),
 (101,Obj.mk (Value.type "getset_descriptor") (none) (Data.fields #[Value.str (Str.ofString "__dict__") 317,Value.ref 100,Value.builtin "function.__dict__",Value.builtin "function.__dict__#set"]) (#[])),
 (102,Obj.mk (Value.type "getset_descriptor") (none) (Data.fields #[Value.str (Str.ofString "__weakref__") 319,Value.ref 100,Value.builtin "ExceptionGroup.__weakref__",Value.none]) (#[])),
 (110,Obj.mk (Value.type "code") (none) (Data.fields #[Value.str (Str.ofString "rightmost_terminal") 324,Value.str (Str.ofString "rightmost_terminal") 325,Value.str (Str.ofString "/claim/cut.py") 326,Value.int 53 0,Value.int 2 0,Value.int 0 0,Value.int 0 0,Value.int 3 0,Value.ref 105,Value.bool true,Value.int 181 0,Value.ref 106,Value.none,Value.ref 107,Value.ref 108,Value.ref 109,Value.int 330 0,Value.int 53 0,Value.str (Str.ofString "/claim/cut.py") 331]) (#[])),
 (111,Obj.mk (Value.type "function") (none) (Data.func (FuncData.mk (Str.ofString "rightmost_terminal") (Str.ofString "rightmost_terminal") (aA (ai pw.main.body 7)) (.stmts (ag (ai pw.main.body 7))) (av (ai pw.main.body 7)) 3 [] (Value.none) (Value.none) (Value.none) (Value.str (Str.ofString "ply.yacc") 194) (none) (Value.ref 110) (Value.none) 0)) (#[])),
 (120,Obj.mk (Value.type "dict") (none) (Data.dict #[{ hash:=PyData.keyHash P (Str.ofString "__module__"),key:=Value.str (Str.ofString "__module__") 340,val:=Value.str (Str.ofString "ply.yacc") 194 },{ hash:=PyData.keyHash P (Str.ofString "__firstlineno__"),key:=Value.str (Str.ofString "__firstlineno__") 344,val:=Value.int 60 343 },{ hash:=PyData.keyHash P (Str.ofString "__static_attributes__"),key:=Value.str (Str.ofString "__static_attributes__") 345,val:=Value.ref 119 },{ hash:=PyData.keyHash P (Str.ofString "__doc__"),key:=Value.str (Str.ofString "__doc__") 346,val:=Value.none }] 2) (#[])),
 (121,Obj.mk (Value.type "type") (none) (Data.cls { name:=Str.ofString "GrammarError",bases:=[Value.ref 31],mro:=[Value.ref 121,Value.ref 31,Value.type "Exception",Value.type "BaseException",Value.type "object"],ns:=120,qualname:=Str.ofString "GrammarError" }) (#[some (Value.ref 112),none,some (Value.str (Str.ofString "GrammarError") 333),some (Value.str (Str.ofString "GrammarError") 341),some (Value.builtin "Exception.__new__"),some (Value.bool true)])),
 (136,Obj.mk (Value.type "code") (none) (Data.fields #[Value.str (Str.ofString "__init__") 361,Value.str (Str.ofString "Grammar.__init__") 362,Value.str (Str.ofString "/claim/cut.py") 363,Value.int 64 0,Value.int 2 0,Value.int 0 0,Value.int 0 0,Value.int 3 0,Value.ref 131,Value.bool true,Value.int 181 0,Value.ref 132,Value.none,Value.ref 133,Value.ref 134,Value.ref 135,Value.int 367 0,Value.int 64 0,Value.str (Str.ofString "/claim/cut.py") 368]) (#[])),
 (137,Obj.mk (Value.type "function") (none) (Data.func (FuncData.mk (Str.ofString "__init__") (Str.ofString "Grammar.__init__") (aA (ai (ag (ai pw.main.body 9)) 0)) (.stmts (ag (ai (ag (ai pw.main.body 9)) 0))) (av (ai (ag (ai pw.main.body 9)) 0)) 3 [] (Value.none) (Value.none) (Value.none) (Value.str (Str.ofString "ply.yacc") 194) (none) (Value.ref 136) (Value.none) 0)) (#[])),
 (143,Obj.mk (Value.type "code") (none) (Data.fields #[Value.str (Str.ofString "__len__") 370,Value.str (Str.ofString "Grammar.__len__") 371,Value.str (Str.ofString "/claim/cut.py") 372,Value.int 79 0,Value.int 1 0,Value.int 0 0,Value.int 0 0,Value.int 3 0,Value.ref 138,Value.bool true,Value.int 181 0,Value.ref 139,Value.none,Value.ref 140,Value.ref 141,Value.ref 142,Value.int 374 0,Value.int 79 0,Value.str (Str.ofString "/claim/cut.py") 375]) (#[])),
 (144,Obj.mk (Value.type "function") (none) (Data.func (FuncData.mk (Str.ofString "__len__") (Str.ofString "Grammar.__len__") (aA (ai (ag (ai pw.main.body 9)) 1)) (.stmts (ag (ai (ag (ai pw.main.body 9)) 1))) (av (ai (ag (ai pw.main.body 9)) 1)) 3 [] (Value.none) (Value.none) (Value.none) (Value.str (Str.ofString "ply.yacc") 194) (none) (Value.ref 143) (Value.none) 0)) (#[])),
 (150,Obj.mk (Value.type "code") (none) (Data.fields #[Value.str (Str.ofString "__getitem__") 377,Value.str (Str.ofString "Grammar.__getitem__") 378,Value.str (Str.ofString "/claim/cut.py") 379,Value.int 82 0,Value.int 2 0,Value.int 0 0,Value.int 0 0,Value.int 3 0,Value.ref 145,Value.bool true,Value.int 181 0,Value.ref 146,Value.none,Value.ref 147,Value.ref 148,Value.ref 149,Value.int 382 0,Value.int 82 0,Value.str (Str.ofString "/claim/cut.py") 383]) (#[])),
 (151,Obj.mk (Value.type "function") (none) (Data.func (FuncData.mk (Str.ofString "__getitem__") (Str.ofString "Grammar.__getitem__") (aA (ai (ag (ai pw.main.body 9)) 2)) (.stmts (ag (ai (ag (ai pw.main.body 9)) 2))) (av (ai (ag (ai pw.main.body 9)) 2)) 3 [] (Value.none) (Value.none) (Value.none) (Value.str (Str.ofString "ply.yacc") 194) (none) (Value.ref 150) (Value.none) 0)) (#[])),
 (157,Obj.mk (Value.type "code") (none) (Data.fields #[Value.str (Str.ofString "set_precedence") 385,Value.str (Str.ofString "Grammar.set_precedence") 386,Value.str (Str.ofString "/claim/cut.py") 387,Value.int 85 0,Value.int 4 0,Value.int 0 0,Value.int 0 0,Value.int 3 0,Value.ref 152,Value.bool true,Value.int 181 0,Value.ref 153,Value.none,Value.ref 154,Value.ref 155,Value.ref 156,Value.int 392 0,Value.int 85 0,Value.str (Str.ofString "/claim/cut.py") 393]) (#[])),
 (158,Obj.mk (Value.type "function") (none) (Data.func (FuncData.mk (Str.ofString "set_precedence") (Str.ofString "Grammar.set_precedence") (aA (ai (ag (ai pw.main.body 9)) 3)) (.stmts (ag (ai (ag (ai pw.main.body 9)) 3))) (av (ai (ag (ai pw.main.body 9)) 3)) 3 [] (Value.none) (Value.none) (Value.none) (Value.str (Str.ofString "ply.yacc") 194) (none) (Value.ref 157) (Value.none) 0)) (#[])),
 (159,Obj.mk (Value.type "tuple") (none) (Data.seq #[Value.none,Value.str (Str.ofString "") 395,Value.int 0 396]) (#[])),
 (165,Obj.mk (Value.type "code") (none) (Data.fields #[Value.str (Str.ofString "add_production") 397,Value.str (Str.ofString "Grammar.add_production") 398,Value.str (Str.ofString "/claim/cut.py") 399,Value.int 88 0,Value.int 6 0,Value.int 0 0,Value.int 0 0,Value.int 3 0,Value.ref 160,Value.bool true,Value.int 181 0,Value.ref 161,Value.none,Value.ref 162,Value.ref 163,Value.ref 164,Value.int 416 0,Value.int 88 0,Value.str (Str.ofString "/claim/cut.py") 417]) (#[])),
 (166,Obj.mk (Value.type "function") (none) (Data.func (FuncData.mk (Str.ofString "add_production") (Str.ofString "Grammar.add_production") (aA (ai (ag (ai pw.main.body 9)) 4)) (.stmts (ag (ai (ag (ai pw.main.body 9)) 4))) (av (ai (ag (ai pw.main.body 9)) 4)) 3 [] (Value.ref 159) (Value.none) (Value.none) (Value.str (Str.ofString "ply.yacc") 194) (none) (Value.ref 165) (Value.none) 0)) (#[])),
 (167,Obj.mk (Value.type "tuple") (none) (Data.seq #[Value.none]) (#[])),
 (173,Obj.mk (Value.type "code") (none) (Data.fields #[Value.str (Str.ofString "set_start") 419,Value.str (Str.ofString "Grammar.set_start") 420,Value.str (Str.ofString "/claim/cut.py") 421,Value.int 146 0,Value.int 2 0,Value.int 0 0,Value.int 0 0,Value.int 3 0,Value.ref 168,Value.bool true,Value.int 181 0,Value.ref 169,Value.none,Value.ref 170,Value.ref 171,Value.ref 172,Value.int 424 0,Value.int 146 0,Value.str (Str.ofString "/claim/cut.py") 425]) (#[])),
 (174,Obj.mk (Value.type "function") (none) (Data.func (FuncData.mk (Str.ofString "set_start") (Str.ofString "Grammar.set_start") (aA (ai (ag (ai pw.main.body 9)) 5)) (.stmts (ag (ai (ag (ai pw.main.body 9)) 5))) (av (ai (ag (ai pw.main.body 9)) 5)) 3 [] (Value.ref 167) (Value.none) (Value.none) (Value.str (Str.ofString "ply.yacc") 194) (none) (Value.ref 173) (Value.none) 0)) (#[])),
 (178,Obj.mk (Value.type "code") (none) (Data.fields #[Value.str (Str.ofString "find_unreachable") 427,Value.str (Str.ofString "Grammar.find_unreachable") 428,Value.str (Str.ofString "/claim/cut.py") 429,Value.int 155 0,Value.int 1 0,Value.int 0 0,Value.int 0 0,Value.int 3 0,Value.ref 175,Value.bool true,Value.int 181 0,Value.ref 176,Value.none,Value.none,Value.none,Value.ref 177,Value.int 430 0,Value.int 155 0,Value.str (Str.ofString "/claim/cut.py") 431]) (#[])),
 (179,Obj.mk (Value.type "function") (none) (Data.func (FuncData.mk (Str.ofString "find_unreachable") (Str.ofString "Grammar.find_unreachable") (aA (ai (ag (ai pw.main.body 9)) 6)) (.stmts (ag (ai (ag (ai pw.main.body 9)) 6))) (av (ai (ag (ai pw.main.body 9)) 6)) 3 [] (Value.none) (Value.none) (Value.none) (Value.str (Str.ofString "ply.yacc") 194) (none) (Value.ref 178) (Value.none) 0)) (#[])),
 (185,Obj.mk (Value.type "code") (none) (Data.fields #[Value.str (Str.ofString "infinite_cycles") 433,Value.str (Str.ofString "Grammar.infinite_cycles") 434,Value.str (Str.ofString "/claim/cut.py") 435,Value.int 168 0,Value.int 1 0,Value.int 0 0,Value.int 0 0,Value.int 3 0,Value.ref 180,Value.bool true,Value.int 181 0,Value.ref 181,Value.none,Value.ref 182,Value.ref 183,Value.ref 184,Value.int 447 0,Value.int 168 0,Value.str (Str.ofString "/claim/cut.py") 448]) (#[])),
 (186,Obj.mk (Value.type "function") (none) (Data.func (FuncData.mk (Str.ofString "infinite_cycles") (Str.ofString "Grammar.infinite_cycles") (aA (ai (ag (ai pw.main.body 9)) 7)) (.stmts (ag (ai (ag (ai pw.main.body 9)) 7))) (av (ai (ag (ai pw.main.body 9)) 7)) 3 [] (Value.none) (Value.none) (Value.none) (Value.str (Str.ofString "ply.yacc") 194) (none) (Value.ref 185) (Value.none) 0)) (#[])),
 (192,Obj.mk (Value.type "code") (none) (Data.fields #[Value.str (Str.ofString "undefined_symbols") 450,Value.str (Str.ofString "Grammar.undefined_symbols") 451,Value.str (Str.ofString "/claim/cut.py") 452,Value.int 201 0,Value.int 1 0,Value.int 0 0,Value.int 0 0,Value.int 3 0,Value.ref 187,Value.bool true,Value.int 181 0,Value.ref 188,Value.none,Value.ref 189,Value.ref 190,Value.ref 191,Value.int 457 0,Value.int 201 0,Value.str (Str.ofString "/claim/cut.py") 458]) (#[])),
 (193,Obj.mk (Value.type "function") (none) (Data.func (FuncData.mk (Str.ofString "undefined_symbols") (Str.ofString "Grammar.undefined_symbols") (aA (ai (ag (ai pw.main.body 9)) 8)) (.stmts (ag (ai (ag (ai pw.main.body 9)) 8))) (av (ai (ag (ai pw.main.body 9)) 8)) 3 [] (Value.none) (Value.none) (Value.none) (Value.str (Str.ofString "ply.yacc") 194) (none) (Value.ref 192) (Value.none) 0)) (#[])),
 (199,Obj.mk (Value.type "code") (none) (Data.fields #[Value.str (Str.ofString "unused_terminals") 460,Value.str (Str.ofString "Grammar.unused_terminals") 461,Value.str (Str.ofString "/claim/cut.py") 462,Value.int 211 0,Value.int 1 0,Value.int 0 0,Value.int 0 0,Value.int 3 0,Value.ref 194,Value.bool true,Value.int 181 0,Value.ref 195,Value.none,Value.ref 196,Value.ref 197,Value.ref 198,Value.int 467 0,Value.int 211 0,Value.str (Str.ofString "/claim/cut.py") 468]) (#[])),
 (200,Obj.mk (Value.type "function") (none) (Data.func (FuncData.mk (Str.ofString "unused_terminals") (Str.ofString "Grammar.unused_terminals") (aA (ai (ag (ai pw.main.body 9)) 9)) (.stmts (ag (ai (ag (ai pw.main.body 9)) 9))) (av (ai (ag (ai pw.main.body 9)) 9)) 3 [] (Value.none) (Value.none) (Value.none) (Value.str (Str.ofString "ply.yacc") 194) (none) (Value.ref 199) (Value.none) 0)) (#[])),
 (206,Obj.mk (Value.type "code") (none) (Data.fields #[Value.str (Str.ofString "unused_rules") 470,Value.str (Str.ofString "Grammar.unused_rules") 471,Value.str (Str.ofString "/claim/cut.py") 472,Value.int 218 0,Value.int 1 0,Value.int 0 0,Value.int 0 0,Value.int 3 0,Value.ref 201,Value.bool true,Value.int 181 0,Value.ref 202,Value.none,Value.ref 203,Value.ref 204,Value.ref 205,Value.int 478 0,Value.int 218 0,Value.str (Str.ofString "/claim/cut.py") 479]) (#[])),
 (207,Obj.mk (Value.type "function") (none) (Data.func (FuncData.mk (Str.ofString "unused_rules") (Str.ofString "Grammar.unused_rules") (aA (ai (ag (ai pw.main.body 9)) 10)) (.stmts (ag (ai (ag (ai pw.main.body 9)) 10))) (av (ai (ag (ai pw.main.body 9)) 10)) 3 [] (Value.none) (Value.none) (Value.none) (Value.str (Str.ofString "ply.yacc") 194) (none) (Value.ref 206) (Value.none) 0)) (#[])),
 (213,Obj.mk (Value.type "code") (none) (Data.fields #[Value.str (Str.ofString "unused_precedence") 481,Value.str (Str.ofString "Grammar.unused_precedence") 482,Value.str (Str.ofString "/claim/cut.py") 483,Value.int 226 0,Value.int 1 0,Value.int 0 0,Value.int 0 0,Value.int 3 0,Value.ref 208,Value.bool true,Value.int 181 0,Value.ref 209,Value.none,Value.ref 210,Value.ref 211,Value.ref 212,Value.int 485 0,Value.int 226 0,Value.str (Str.ofString "/claim/cut.py") 486]) (#[])),
 (214,Obj.mk (Value.type "function") (none) (Data.func (FuncData.mk (Str.ofString "unused_precedence") (Str.ofString "Grammar.unused_precedence") (aA (ai (ag (ai pw.main.body 9)) 11)) (.stmts (ag (ai (ag (ai pw.main.body 9)) 11))) (av (ai (ag (ai pw.main.body 9)) 11)) 3 [] (Value.none) (Value.none) (Value.none) (Value.str (Str.ofString "ply.yacc") 194) (none) (Value.ref 213) (Value.none) 0)) (#[])),
 (220,Obj.mk (Value.type "code") (none) (Data.fields #[Value.str (Str.ofString "_first") 488,Value.str (Str.ofString "Grammar._first") 489,Value.str (Str.ofString "/claim/cut.py") 490,Value.int 229 0,Value.int 2 0,Value.int 0 0,Value.int 0 0,Value.int 3 0,Value.ref 215,Value.bool true,Value.int 181 0,Value.ref 216,Value.none,Value.ref 217,Value.ref 218,Value.ref 219,Value.int 493 0,Value.int 229 0,Value.str (Str.ofString "/claim/cut.py") 494]) (#[])),
 (221,Obj.mk (Value.type "function") (none) (Data.func (FuncData.mk (Str.ofString "_first") (Str.ofString "Grammar._first") (aA (ai (ag (ai pw.main.body 9)) 12)) (.stmts (ag (ai (ag (ai pw.main.body 9)) 12))) (av (ai (ag (ai pw.main.body 9)) 12)) 3 [] (Value.none) (Value.none) (Value.none) (Value.str (Str.ofString "ply.yacc") 194) (none) (Value.ref 220) (Value.none) 0)) (#[])),
 (227,Obj.mk (Value.type "code") (none) (Data.fields #[Value.str (Str.ofString "compute_first") 496,Value.str (Str.ofString "Grammar.compute_first") 497,Value.str (Str.ofString "/claim/cut.py") 498,Value.int 232 0,Value.int 1 0,Value.int 0 0,Value.int 0 0,Value.int 3 0,Value.ref 222,Value.bool true,Value.int 181 0,Value.ref 223,Value.none,Value.ref 224,Value.ref 225,Value.ref 226,Value.int 500 0,Value.int 232 0,Value.str (Str.ofString "/claim/cut.py") 501]) (#[])),
 (228,Obj.mk (Value.type "function") (none) (Data.func (FuncData.mk (Str.ofString "compute_first") (Str.ofString "Grammar.compute_first") (aA (ai (ag (ai pw.main.body 9)) 13)) (.stmts (ag (ai (ag (ai pw.main.body 9)) 13))) (av (ai (ag (ai pw.main.body 9)) 13)) 3 [] (Value.none) (Value.none) (Value.none) (Value.str (Str.ofString "ply.yacc") 194) (none) (Value.ref 227) (Value.none) 0)) (#[])),
 (229,Obj.mk (Value.type "tuple") (none) (Data.seq #[Value.none]) (#[])),
 (235,Obj.mk (Value.type "code") (none) (Data.fields #[Value.str (Str.ofString "compute_follow") 503,Value.str (Str.ofString "Grammar.compute_follow") 504,Value.str (Str.ofString "/claim/cut.py") 505,Value.int 235 0,Value.int 2 0,Value.int 0 0,Value.int 0 0,Value.int 3 0,Value.ref 230,Value.bool true,Value.int 181 0,Value.ref 231,Value.none,Value.ref 232,Value.ref 233,Value.ref 234,Value.int 508 0,Value.int 235 0,Value.str (Str.ofString "/claim/cut.py") 509]) (#[])),
 (236,Obj.mk (Value.type "function") (none) (Data.func (FuncData.mk (Str.ofString "compute_follow") (Str.ofString "Grammar.compute_follow") (aA (ai (ag (ai pw.main.body 9)) 14)) (.stmts (ag (ai (ag (ai pw.main.body 9)) 14))) (av (ai (ag (ai pw.main.body 9)) 14)) 3 [] (Value.ref 229) (Value.none) (Value.none) (Value.str (Str.ofString "ply.yacc") 194) (none) (Value.ref 235) (Value.none) 0)) (#[])),
 (242,Obj.mk (Value.type "code") (none) (Data.fields #[Value.str (Str.ofString "build_lritems") 511,Value.str (Str.ofString "Grammar.build_lritems") 512,Value.str (Str.ofString "/claim/cut.py") 513,Value.int 238 0,Value.int 1 0,Value.int 0 0,Value.int 0 0,Value.int 3 0,Value.ref 237,Value.bool true,Value.int 181 0,Value.ref 238,Value.none,Value.ref 239,Value.ref 240,Value.ref 241,Value.int 515 0,Value.int 238 0,Value.str (Str.ofString "/claim/cut.py") 516]) (#[])),
 (243,Obj.mk (Value.type "function") (none) (Data.func (FuncData.mk (Str.ofString "build_lritems") (Str.ofString "Grammar.build_lritems") (aA (ai (ag (ai pw.main.body 9)) 15)) (.stmts (ag (ai (ag (ai pw.main.body 9)) 15))) (av (ai (ag (ai pw.main.body 9)) 15)) 3 [] (Value.none) (Value.none) (Value.none) (Value.str (Str.ofString "ply.yacc") 194) (none) (Value.ref 242) (Value.none) 0)) (#[])),
 (245,Obj.mk (Value.type "dict") (none) (Data.dict #[{ hash:=PyData.keyHash P (Str.ofString "__module__"),key:=Value.str (Str.ofString "__module__") 356,val:=Value.str (Str.ofString "ply.yacc") 194 },{ hash:=PyData.keyHash P (Str.ofString "__firstlineno__"),key:=Value.str (Str.ofString "__firstlineno__") 360,val:=Value.int 62 359 },{ hash:=PyData.keyHash P (Str.ofString "__init__"),key:=Value.str (Str.ofString "__init__") 369,val:=Value.ref 137 },{ hash:=PyData.keyHash P (Str.ofString "__len__"),key:=Value.str (Str.ofString "__len__") 376,val:=Value.ref 144 },{ hash:=PyData.keyHash P (Str.ofString "__getitem__"),key:=Value.str (Str.ofString "__getitem__") 384,val:=Value.ref 151 },{ hash:=PyData.keyHash P (Str.ofString "set_precedence"),key:=Value.str (Str.ofString "set_precedence") 394,val:=Value.ref 158 },{ hash:=PyData.keyHash P (Str.ofString "add_production"),key:=Value.str (Str.ofString "add_production") 418,val:=Value.ref 166 },{ hash:=PyData.keyHash P (Str.ofString "set_start"),key:=Value.str (Str.ofString "set_start") 426,val:=Value.ref 174 },{ hash:=PyData.keyHash P (Str.ofString "find_unreachable"),key:=Value.str (Str.ofString "find_unreachable") 432,val:=Value.ref 179 },{ hash:=PyData.keyHash P (Str.ofString "infinite_cycles"),key:=Value.str (Str.ofString "infinite_cycles") 449,val:=Value.ref 186 },{ hash:=PyData.keyHash P (Str.ofString "undefined_symbols"),key:=Value.str (Str.ofString "undefined_symbols") 459,val:=Value.ref 193 },{ hash:=PyData.keyHash P (Str.ofString "unused_terminals"),key:=Value.str (Str.ofString "unused_terminals") 469,val:=Value.ref 200 },{ hash:=PyData.keyHash P (Str.ofString "unused_rules"),key:=Value.str (Str.ofString "unused_rules") 480,val:=Value.ref 207 },{ hash:=PyData.keyHash P (Str.ofString "unused_precedence"),key:=Value.str (Str.ofString "unused_precedence") 487,val:=Value.ref 214 },{ hash:=PyData.keyHash P (Str.ofString "_first"),key:=Value.str (Str.ofString "_first") 495,val:=Value.ref 221 },{ hash:=PyData.keyHash P (Str.ofString "compute_first"),key:=Value.str (Str.ofString "compute_first") 502,val:=Value.ref 228 },{ hash:=PyData.keyHash P (Str.ofString "compute_follow"),key:=Value.str (Str.ofString "compute_follow") 510,val:=Value.ref 236 },{ hash:=PyData.keyHash P (Str.ofString "build_lritems"),key:=Value.str (Str.ofString "build_lritems") 517,val:=Value.ref 243 },{ hash:=PyData.keyHash P (Str.ofString "__static_attributes__"),key:=Value.str (Str.ofString "__static_attributes__") 528,val:=Value.ref 244 },{ hash:=PyData.keyHash P (Str.ofString "__dict__"),key:=Value.str (Str.ofString "__dict__") 530,val:=Value.ref 247 },{ hash:=PyData.keyHash P (Str.ofString "__weakref__"),key:=Value.str (Str.ofString "__weakref__") 532,val:=Value.ref 248 },{ hash:=PyData.keyHash P (Str.ofString "__doc__"),key:=Value.str (Str.ofString "__doc__") 533,val:=Value.none }] 4) (#[])),
 (246,Obj.mk (Value.type "type") (none) (Data.cls { name:=Str.ofString "Grammar",bases:=[Value.type "object"],mro:=[Value.ref 246,Value.type "object"],ns:=245,qualname:=Str.ofString "Grammar" }) (#[some (Value.ref 124),none,some (Value.str (Str.ofString "Grammar") 349),some (Value.str (Str.ofString "Grammar") 357),some (Value.builtin "object.__new__"),some (Value.bool true)])),
 (247,Obj.mk (Value.type "getset_descriptor") (none) (Data.fields #[Value.str (Str.ofString "__dict__") 529,Value.ref 246,Value.builtin "function.__dict__",Value.builtin "function.__dict__#set"]) (#[])),
 (248,Obj.mk (Value.type "getset_descriptor") (none) (Data.fields #[Value.str (Str.ofString "__weakref__") 531,Value.ref 246,Value.builtin "ExceptionGroup.__weakref__",Value.none]) (#[])),
 (256,Obj.mk (Value.type "code") (none) (Data.fields #[Value.str (Str.ofString "_law_NAMES") 538,Value.str (Str.ofString "_law_NAMES") 539,Value.str (Str.ofString "/claim/cut.py") 540,Value.int 241 0,Value.int 0 0,Value.int 0 0,Value.int 0 0,Value.int 3 0,Value.ref 251,Value.bool true,Value.int 181 0,Value.ref 252,Value.none,Value.ref 253,Value.ref 254,Value.ref 255,Value.int 541 0,Value.int 241 0,Value.str (Str.ofString "/claim/cut.py") 542]) (#[])),
 (257,Obj.mk (Value.type "function") (none) (Data.func (FuncData.mk (Str.ofString "_law_NAMES") (Str.ofString "_law_NAMES") (aA (ai pw.main.body 11)) (.stmts (ag (ai pw.main.body 11))) (av (ai pw.main.body 11)) 3 [] (Value.none) (Value.none) (Value.none) (Value.str (Str.ofString "law_te0001_03") 536) (none) (Value.ref 256) (Value.none) 0)) (#[])),
 (258,Obj.mk (Value.type "list") (none) (Data.seq #[Value.str (Str.ofString "S") 544,Value.str (Str.ofString "A") 545,Value.str (Str.ofString "B") 546,Value.str (Str.ofString "C") 547,Value.str (Str.ofString "a") 548,Value.str (Str.ofString "b") 549,Value.str (Str.ofString "c") 550,Value.str (Str.ofString "error") 551,Value.str (Str.ofString "'+'") 552]) (#[])),
 (264,Obj.mk (Value.type "code") (none) (Data.fields #[Value.str (Str.ofString "_law_BADNAMES") 554,Value.str (Str.ofString "_law_BADNAMES") 555,Value.str (Str.ofString "/claim/cut.py") 556,Value.int 244 0,Value.int 0 0,Value.int 0 0,Value.int 0 0,Value.int 3 0,Value.ref 259,Value.bool true,Value.int 181 0,Value.ref 260,Value.none,Value.ref 261,Value.ref 262,Value.ref 263,Value.int 557 0,Value.int 244 0,Value.str (Str.ofString "/claim/cut.py") 558]) (#[])),
 (265,Obj.mk (Value.type "function") (none) (Data.func (FuncData.mk (Str.ofString "_law_BADNAMES") (Str.ofString "_law_BADNAMES") (aA (ai pw.main.body 13)) (.stmts (ag (ai pw.main.body 13))) (av (ai pw.main.body 13)) 3 [] (Value.none) (Value.none) (Value.none) (Value.str (Str.ofString "law_te0001_03") 536) (none) (Value.ref 264) (Value.none) 0)) (#[])),
 (271,Obj.mk (Value.type "code") (none) (Data.fields #[Value.str (Str.ofString "_law_BADSYMBOLS") 560,Value.str (Str.ofString "_law_BADSYMBOLS") 561,Value.str (Str.ofString "/claim/cut.py") 562,Value.int 246 0,Value.int 0 0,Value.int 0 0,Value.int 0 0,Value.int 3 0,Value.ref 266,Value.bool true,Value.int 181 0,Value.ref 267,Value.none,Value.ref 268,Value.ref 269,Value.ref 270,Value.int 563 0,Value.int 246 0,Value.str (Str.ofString "/claim/cut.py") 564]) (#[])),
 (272,Obj.mk (Value.type "function") (none) (Data.func (FuncData.mk (Str.ofString "_law_BADSYMBOLS") (Str.ofString "_law_BADSYMBOLS") (aA (ai pw.main.body 14)) (.stmts (ag (ai pw.main.body 14))) (av (ai pw.main.body 14)) 3 [] (Value.none) (Value.none) (Value.none) (Value.str (Str.ofString "law_te0001_03") 536) (none) (Value.ref 271) (Value.none) 0)) (#[])),
 (278,Obj.mk (Value.type "code") (none) (Data.fields #[Value.str (Str.ofString "_law_STARTS") 566,Value.str (Str.ofString "_law_STARTS") 567,Value.str (Str.ofString "/claim/cut.py") 568,Value.int 248 0,Value.int 0 0,Value.int 0 0,Value.int 0 0,Value.int 3 0,Value.ref 273,Value.bool true,Value.int 181 0,Value.ref 274,Value.none,Value.ref 275,Value.ref 276,Value.ref 277,Value.int 569 0,Value.int 248 0,Value.str (Str.ofString "/claim/cut.py") 570]) (#[])),
 (279,Obj.mk (Value.type "function") (none) (Data.func (FuncData.mk (Str.ofString "_law_STARTS") (Str.ofString "_law_STARTS") (aA (ai pw.main.body 15)) (.stmts (ag (ai pw.main.body 15))) (av (ai pw.main.body 15)) 3 [] (Value.none) (Value.none) (Value.none) (Value.str (Str.ofString "law_te0001_03") 536) (none) (Value.ref 278) (Value.none) 0)) (#[])),
 (285,Obj.mk (Value.type "code") (none) (Data.fields #[Value.str (Str.ofString "_law_next") 572,Value.str (Str.ofString "_law_next") 573,Value.str (Str.ofString "/claim/cut.py") 574,Value.int 250 0,Value.int 1 0,Value.int 0 0,Value.int 0 0,Value.int 3 0,Value.ref 280,Value.bool true,Value.int 181 0,Value.ref 281,Value.none,Value.ref 282,Value.ref 283,Value.ref 284,Value.int 576 0,Value.int 250 0,Value.str (Str.ofString "/claim/cut.py") 577]) (#[])),
 (286,Obj.mk (Value.type "function") (none) (Data.func (FuncData.mk (Str.ofString "_law_next") (Str.ofString "_law_next") (aA (ai pw.main.body 16)) (.stmts (ag (ai pw.main.body 16))) (av (ai pw.main.body 16)) 3 [] (Value.none) (Value.none) (Value.none) (Value.str (Str.ofString "law_te0001_03") 536) (none) (Value.ref 285) (Value.none) 0)) (#[])),
 (290,Obj.mk (Value.type "code") (none) (Data.fields #[Value.str (Str.ofString "_law_groups") 579,Value.str (Str.ofString "_law_groups") 580,Value.str (Str.ofString "/claim/cut.py") 581,Value.int 252 0,Value.int 0 0,Value.int 0 0,Value.int 0 0,Value.int 3 0,Value.ref 287,Value.bool true,Value.int 181 0,Value.ref 288,Value.none,Value.none,Value.none,Value.ref 289,Value.int 582 0,Value.int 252 0,Value.str (Str.ofString "/claim/cut.py") 583]) (#[])),
 (291,Obj.mk (Value.type "function") (none) (Data.func (FuncData.mk (Str.ofString "_law_groups") (Str.ofString "_law_groups") (aA (ai pw.main.body 17)) (.stmts (ag (ai pw.main.body 17))) (av (ai pw.main.body 17)) 3 [] (Value.none) (Value.none) (Value.none) (Value.str (Str.ofString "law_te0001_03") 536) (none) (Value.ref 290) (Value.none) 0)) (#[])),
 (295,Obj.mk (Value.type "code") (none) (Data.fields #[Value.str (Str.ofString "_law_due") 585,Value.str (Str.ofString "_law_due") 586,Value.str (Str.ofString "/claim/cut.py") 587,Value.int 257 0,Value.int 2 0,Value.int 0 0,Value.int 0 0,Value.int 3 0,Value.ref 292,Value.bool true,Value.int 181 0,Value.ref 293,Value.none,Value.none,Value.none,Value.ref 294,Value.int 588 0,Value.int 257 0,Value.str (Str.ofString "/claim/cut.py") 589]) (#[])),
 (296,Obj.mk (Value.type "function") (none) (Data.func (FuncData.mk (Str.ofString "_law_due") (Str.ofString "_law_due") (aA (ai pw.main.body 18)) (.stmts (ag (ai pw.main.body 18))) (av (ai pw.main.body 18)) 3 [] (Value.none) (Value.none) (Value.none) (Value.str (Str.ofString "law_te0001_03") 536) (none) (Value.ref 295) (Value.none) 0)) (#[])),
 (300,Obj.mk (Value.type "code") (none) (Data.fields #[Value.str (Str.ofString "_law_told") 591,Value.str (Str.ofString "_law_told") 592,Value.str (Str.ofString "/claim/cut.py") 593,Value.int 276 0,Value.int 2 0,Value.int 0 0,Value.int 0 0,Value.int 3 0,Value.ref 297,Value.bool true,Value.int 181 0,Value.ref 298,Value.none,Value.none,Value.none,Value.ref 299,Value.int 594 0,Value.int 276 0,Value.str (Str.ofString "/claim/cut.py") 595]) (#[])),
 (301,Obj.mk (Value.type "function") (none) (Data.func (FuncData.mk (Str.ofString "_law_told") (Str.ofString "_law_told") (aA (ai pw.main.body 19)) (.stmts (ag (ai pw.main.body 19))) (av (ai pw.main.body 19)) 3 [] (Value.none) (Value.none) (Value.none) (Value.str (Str.ofString "law_te0001_03") 536) (none) (Value.ref 300) (Value.none) 0)) (#[])),
 (307,Obj.mk (Value.type "code") (none) (Data.fields #[Value.str (Str.ofString "_law_refused") 597,Value.str (Str.ofString "_law_refused") 598,Value.str (Str.ofString "/claim/cut.py") 599,Value.int 283 0,Value.int 3 0,Value.int 0 0,Value.int 0 0,Value.int 3 0,Value.ref 302,Value.bool true,Value.int 181 0,Value.ref 303,Value.none,Value.ref 304,Value.ref 305,Value.ref 306,Value.int 603 0,Value.int 283 0,Value.str (Str.ofString "/claim/cut.py") 604]) (#[])),
 (308,Obj.mk (Value.type "function") (none) (Data.func (FuncData.mk (Str.ofString "_law_refused") (Str.ofString "_law_refused") (aA (ai pw.main.body 20)) (.stmts (ag (ai pw.main.body 20))) (av (ai pw.main.body 20)) 3 [] (Value.none) (Value.none) (Value.none) (Value.str (Str.ofString "law_te0001_03") 536) (none) (Value.ref 307) (Value.none) 0)) (#[])),
 (314,Obj.mk (Value.type "code") (none) (Data.fields #[Value.str (Str.ofString "_law_unstarted") 606,Value.str (Str.ofString "_law_unstarted") 607,Value.str (Str.ofString "/claim/cut.py") 608,Value.int 289 0,Value.int 2 0,Value.int 0 0,Value.int 0 0,Value.int 3 0,Value.ref 309,Value.bool true,Value.int 181 0,Value.ref 310,Value.none,Value.ref 311,Value.ref 312,Value.ref 313,Value.int 611 0,Value.int 289 0,Value.str (Str.ofString "/claim/cut.py") 612]) (#[])),
 (315,Obj.mk (Value.type "function") (none) (Data.func (FuncData.mk (Str.ofString "_law_unstarted") (Str.ofString "_law_unstarted") (aA (ai pw.main.body 21)) (.stmts (ag (ai pw.main.body 21))) (av (ai pw.main.body 21)) 3 [] (Value.none) (Value.none) (Value.none) (Value.str (Str.ofString "law_te0001_03") 536) (none) (Value.ref 314) (Value.none) 0)) (#[])),
 (319,Obj.mk (Value.type "code") (none) (Data.fields #[Value.str (Str.ofString "law") 614,Value.str (Str.ofString "law") 615,Value.str (Str.ofString "/claim/cut.py") 616,Value.int 295 0,Value.int 1 0,Value.int 0 0,Value.int 0 0,Value.int 3 0,Value.ref 316,Value.bool true,Value.int 181 0,Value.ref 317,Value.none,Value.none,Value.none,Value.ref 318,Value.int 617 0,Value.int 295 0,Value.str (Str.ofString "/claim/cut.py") 618]) (#[])),
 (320,Obj.mk (Value.type "function") (none) (Data.func (FuncData.mk (Str.ofString "law") (Str.ofString "law") (aA (ai pw.main.body 22)) (.stmts (ag (ai pw.main.body 22))) (av (ai pw.main.body 22)) 3 [] (Value.none) (Value.none) (Value.none) (Value.str (Str.ofString "law_te0001_03") 536) (none) (Value.ref 319) (Value.none) 0)) (#[]))]
noncomputable def lI:List Nat:=[2,3,20,21,30,31,32,38,39,45,46,54,55,61,62,68,69,75,76,82,83,89,90,96,97,99,100,101,102,110,111,120,121,136,137,143,144,150,151,157,158,159,165,166,167,173,174,178,179,185,186,192,193,199,200,206,207,213,214,220,221,227,228,229,235,236,242,243,245,246,247,248,256,257,258,264,265,271,272,278,279,285,286,290,291,295,296,300,301,307,308,314,315,319,320]
noncomputable def gt(P:Params):Frag:=(176,{ cls:=.none,data:=.fields #[] })::aS P
theorem lawHas:∀ P,176::lI=(gt P).map (·.1):=fun _=>by kernel_rfl
noncomputable def dY:Hook:=kHook gt (176::lI) lawHas
theorem lawLeft:LeftO PySem.Challenge.pw_te0001_03 kg ["Production","Grammar","_law_SYMBOLS"] (fun s=>xlAt kg [] s&&recOk [] s) (Hook.obs dY) (Hook.val dY) 4226:=by
 intro w
 kernel_rfl
noncomputable def lawD:DefRec:=⟨"law",aA (ai pw.main.body 22),ag (ai pw.main.body 22),av (ai pw.main.body 22),(ai pw.main.body 22).pos⟩
theorem head(walk:WalkO kg ["Production","Grammar","_law_SYMBOLS"] (XL kg []) (Hook.says dY) PySem.Challenge.rw_te0001_03.row.toRowW lawD [] fun f vs=>PySem.call f vs):PySem.Challenge.rw_te0001_03.Holds:=by
 w_on
 refine holds_law (by decide +kernel) fun said=>?_
 refine holds_open (q:=kg) (loose:=["Production","Grammar","_law_SYMBOLS"]) (Xt:=fun s=>xlAt kg [] s&&recOk [] s) (XP:=XL kg []) (Yf:=Hook.obs dY) (Ya:=Hook.val dY) (YP:=Hook.says dY) (N:=4226) lawLeft (Hook.of dY) (Hook.keeps dY) (fun s e=>xl_of s (Bool.and_eq_true_iff.mp e).1) XL.keeps (by rfl) (by rfl) (by rfl) (fun s e=>recFacts_of (Bool.and_eq_true_iff.mp e).2) (by rfl) (by first|assumption|decide +kernel) (by decide +kernel) ⟨rfl,rfl,rfl,rfl,rfl,by decide +kernel⟩ ?hw walk
 w_witness2
theorem bv{G:Prop}(h:∀ C:Prop,(G->C)->C):G:=h G id
inductive InM{α β:Type}(f:α->β)(l:List α)(b:β):Prop
 | mk (a:α) (h:a∈l) (e:f a=b)
theorem inM{α β:Type}{f:α->β}{l:List α}{b:β}(h:b∈l.map f):InM f l b:=let ⟨a,x,e⟩:=List.mem_map.mp h;⟨a,x,e⟩
inductive V where
 | none|bool (b:Bool)|int (i:Int)|str (s:Str)
 | tup (xs:List V)|lst (xs:List V)
 | ins (C:Addr) (attrs:List (Str×V))
 | ref (a:Addr)|glob (v:Value)
deriving Inhabited
inductive ax where
 | list (xs:List V)|dict (es:List (Str×V)) (ep:Nat)|set (xs:List V)
 | inst (C d:Addr)|cell (v:Option V)|raw (o:Obj)|iter (lst:Bool) (i:Nat) (x:V)
noncomputable abbrev Frz:=Addr->Obj->Prop
set_option genInjectivity false in
set_option genSizeOf false in
structure Wd where
 prog:Program
 w:World
 K:Frag
 hb:Heap
 mg:Str->Option Value
 mb:Str->Option Value
 os:OsState
 p:Program
 loose:List Str
 KIn:K.In hb
 top:TopRead p loose mg mb hb
 nolim:hb.NoLimit
mutual
inductive VR(W:Wd)(F:Frz):V->Value->Prop
 | none:VR W F .none .none
 | bool (b:Bool):VR W F (.bool b) (.bool b)
 | int (i:Int) (t:Tok):VR W F (.int i) (.int i t)
 | str (s:Str) (t:Tok):VR W F (.str s) (.str s t)
 | ref (a:Addr):VR W F (.ref a) (.ref a)
 | glob (v:Value):VR W F (.glob v) v
 | tup {xs:List V} {a:Addr} {vs:Array Value} {n:Nat}:F a { cls:=.type "tuple",data:=.seq vs n }->VRs W F xs vs.toList->VR W F (.tup xs) (.ref a)
 | lst {xs:List V} {a:Addr} {vs:Array Value} {n:Nat}:F a { cls:=.type "list",data:=.seq vs n }->VRs W F xs vs.toList->VR W F (.lst xs) (.ref a)
 | ins {C:Addr} {attrs:List (Str×V)} {a d:Addr} {od:Obj} {kvs:List (Str×Value)}:F a (instObj C d)->F d od->od.IsDictOf (strKind W.prog W.w) kvs->VRp W F attrs kvs->VR W F (.ins C attrs) (.ref a)
inductive VRs(W:Wd)(F:Frz):List V->List Value->Prop
 | nil:VRs W F [] []
 | cons {x:V} {v:Value} {xs:List V} {vs:List Value}:VR W F x v->VRs W F xs vs->VRs W F (x::xs) (v::vs)
inductive VRp(W:Wd)(F:Frz):List (Str×V)->List (Str×Value)->Prop
 | nil:VRp W F [] []
 | cons {k:Str} {x:V} {v:Value} {xs:List (Str×V)} {vs:List (Str×Value)}:VR W F x v->VRp W F xs vs->VRp W F ((k,x)::xs) ((k,v)::vs)
end
inductive VNone:Value->Prop
 | none:VNone .none
inductive VBool(b:Bool):Value->Prop
 | bool:VBool b (.bool b)
inductive VInt(i:Int):Value->Prop
 | int (t:Tok):VInt i (.int i t)
inductive VStr(s:Str):Value->Prop
 | str (t:Tok):VStr s (.str s t)
inductive VRef(a:Addr):Value->Prop
 | ref:VRef a (.ref a)
inductive VGlob(v:Value):Value->Prop
 | glob:VGlob v v
inductive VTup(W:Wd)(F:Frz)(xs:List V):Value->Prop
 | tup {a:Addr} {vs:Array Value} {n:Nat}:F a { cls:=.type "tuple",data:=.seq vs n }->VRs W F xs vs.toList->VTup W F xs (.ref a)
inductive VLst(W:Wd)(F:Frz)(xs:List V):Value->Prop
 | lst {a:Addr} {vs:Array Value} {n:Nat}:F a { cls:=.type "list",data:=.seq vs n }->VRs W F xs vs.toList->VLst W F xs (.ref a)
inductive VIns(W:Wd)(F:Frz)(C:Addr)(attrs:List (Str×V)):Value->Prop
 | ins {a d:Addr} {od:Obj} {kvs:List (Str×Value)}:F a (instObj C d)->F d od->od.IsDictOf (strKind W.prog W.w) kvs->VRp W F attrs kvs->VIns W F C attrs (.ref a)
noncomputable def VView(W:Wd)(F:Frz):V->Value->Prop
 | .none=>VNone
 | .bool b=>VBool b
 | .int i=>VInt i
 | .str s=>VStr s
 | .tup xs=>VTup W F xs
 | .lst xs=>VLst W F xs
 | .ins C as=>VIns W F C as
 | .ref a=>VRef a
 | .glob v=>VGlob v
theorem VR.view{W:Wd}{F:Frz}{x:V}{v:Value}(r:VR W F x v):VView W F x v:=by
 cases r with
 | none=>exact .none
 | bool=>exact .bool
 | int=>exact .int _
 | str=>exact .str _
 | ref=>exact .ref
 | glob=>exact .glob
 | tup f q=>exact .tup f q
 | lst f q=>exact .lst f q
 | ins f g k q=>exact .ins f g k q
inductive VsNil:List Value->Prop
 | nil:VsNil []
inductive p6(W:Wd)(F:Frz)(x:V)(xs:List V):List Value->Prop
 | cons {v:Value} {vs:List Value}:VR W F x v->VRs W F xs vs->p6 W F x xs (v::vs)
noncomputable def VsView(W:Wd)(F:Frz):List V->List Value->Prop
 | []=>VsNil
 | x::xs=>p6 W F x xs
theorem VRs.view{W:Wd}{F:Frz}{xs:List V}{vs:List Value}(r:VRs W F xs vs):VsView W F xs vs:=by
 cases r with
 | nil=>exact .nil
 | cons a b=>exact .cons a b
inductive VpNil:List (Str×Value)->Prop
 | nil:VpNil []
inductive pX(W:Wd)(F:Frz)(k:Str)(x:V)(xs:List (Str×V)):List (Str×Value)->Prop
 | cons {v:Value} {vs:List (Str×Value)}:VR W F x v->VRp W F xs vs->pX W F k x xs ((k,v)::vs)
noncomputable def VpView(W:Wd)(F:Frz):List (Str×V)->List (Str×Value)->Prop
 | []=>VpNil
 | (k,x)::xs=>pX W F k x xs
theorem VRp.view{W:Wd}{F:Frz}{xs:List (Str×V)}{vs:List (Str×Value)}(r:VRp W F xs vs):VpView W F xs vs:=by
 cases r with
 | nil=>exact .nil
 | cons a b=>exact .cons a b
theorem VR.isNone{W:Wd}{F:Frz}{v:Value}(r:VR W F .none v):v = .none:=by cases r.view;rfl
theorem VR.isRef{W:Wd}{F:Frz}{a:Addr}{v:Value}(r:VR W F (.ref a) v):v = .ref a:=by cases r.view;rfl
theorem VR.isGlob{W:Wd}{F:Frz}{u v:Value}(r:VR W F (.glob u) v):v=u:=by cases r.view;rfl
theorem VR.isBool{W:Wd}{F:Frz}{b:Bool}{v:Value}(r:VR W F (.bool b) v):v = .bool b:=by cases r.view;rfl
theorem VR.isInt{W:Wd}{F:Frz}{i:Int}{v:Value}(r:VR W F (.int i) v):∃ t,v = .int i t:=by cases r.view;exact⟨_,rfl⟩
theorem VR.isStr{W:Wd}{F:Frz}{s:Str}{v:Value}(r:VR W F (.str s) v):∃ t,v = .str s t:=by cases r.view;exact⟨_,rfl⟩
theorem VRs.isNil{W:Wd}{F:Frz}{l:List Value}(r:VRs W F [] l):l=[]:=by cases r.view;rfl
inductive IsC(W:Wd)(F:Frz)(x:V)(xs:List V)(l:List Value):Prop
 | mk (v:Value) (vs:List Value) (r1:VR W F x v) (r2:VRs W F xs vs) (e:l=v::vs)
theorem VRs.isCons{W:Wd}{F:Frz}{x:V}{xs:List V}{l:List Value}(r:VRs W F (x::xs) l):IsC W F x xs l:=by
 cases r.view with
 | cons a b=>exact⟨_,_,a,b,rfl⟩
inductive IsCp(W:Wd)(F:Frz)(k:Str)(x:V)(xs:List (Str×V))(l:List (Str×Value)):Prop
 | mk (v:Value) (vs:List (Str×Value)) (r1:VR W F x v) (r2:VRp W F xs vs) (e:l=(k,v)::vs)
theorem VRp.isCons{W:Wd}{F:Frz}{e:Str×V}{xs:List (Str×V)}{l:List (Str×Value)}(r:VRp W F (e::xs) l):IsCp W F e.1 e.2 xs l:=by
 obtain⟨k,x⟩:=e
 cases r.view with
 | cons a b=>exact⟨_,_,a,b,rfl⟩
theorem VR.mono{W:Wd}{F F':Frz}(h:∀ a o,F a o->F' a o){x:V}{v:Value}(r:VR W F x v):VR W F' x v:=
 VR.rec (motive_1:=fun x v _=>VR W F' x v) (motive_2:=fun xs vs _=>VRs W F' xs vs) (motive_3:=fun xs vs _=>VRp W F' xs vs) .none .bool .int .str .ref .glob (fun f _ ih=>.tup (h _ _ f) ih) (fun f _ ih=>.lst (h _ _ f) ih) (fun f g k _ ih=>.ins (h _ _ f) (h _ _ g) k ih) .nil (fun _ _ a b=>.cons a b) .nil (fun _ _ a b=>.cons a b) r
theorem VRs.mono{W:Wd}{F F':Frz}(h:∀ a o,F a o->F' a o){x:List V}{v:List Value}(r:VRs W F x v):VRs W F' x v:=
 VRs.rec (motive_1:=fun x v _=>VR W F' x v) (motive_2:=fun xs vs _=>VRs W F' xs vs) (motive_3:=fun xs vs _=>VRp W F' xs vs) .none .bool .int .str .ref .glob (fun f _ ih=>.tup (h _ _ f) ih) (fun f _ ih=>.lst (h _ _ f) ih) (fun f g k _ ih=>.ins (h _ _ f) (h _ _ g) k ih) .nil (fun _ _ a b=>.cons a b) .nil (fun _ _ a b=>.cons a b) r
theorem VRp.mono{W:Wd}{F F':Frz}(h:∀ a o,F a o->F' a o){x:List (Str×V)}{v:List (Str×Value)}(r:VRp W F x v):VRp W F' x v:=
 VRp.rec (motive_1:=fun x v _=>VR W F' x v) (motive_2:=fun xs vs _=>VRs W F' xs vs) (motive_3:=fun xs vs _=>VRp W F' xs vs) .none .bool .int .str .ref .glob (fun f _ ih=>.tup (h _ _ f) ih) (fun f _ ih=>.lst (h _ _ f) ih) (fun f g k _ ih=>.ins (h _ _ f) (h _ _ g) k ih) .nil (fun _ _ a b=>.cons a b) .nil (fun _ _ a b=>.cons a b) r
inductive OR(W:Wd)(F:Frz):ax->Obj->Prop
 | list {xs:List V} {vs:Array Value} {n:Nat}:VRs W F xs vs.toList->OR W F (.list xs) { cls:=.type "list",data:=.seq vs n }
 | dict {es:List (Str×V)} {ds:List DictEntry} {ep:Nat} {kvs:List (Str×Value)}:(dictOf ds ep).IsDictOf (strKind W.prog W.w) kvs->VRp W F es kvs->OR W F (.dict es ep) (dictOf ds ep)
 | inst {C d:Addr}:OR W F (.inst C d) (instObj C d)
 | raw {o:Obj}:OR W F (.raw o) o
 | iter {lst:Bool} {i:Nat} {x:V} {a:Addr} {o:Obj}:VR W F x (.ref a)->o.cls = .type (if lst then "list_iterator" else "tuple_iterator")->o.data = .fields #[.ref a,.int i 0]->OR W F (.iter lst i x) o
 | cell {v:Option V} {o:Obj} {u:Option Value}:o.data = .cell u->(∀ x,v=some x->∃ y,u=some y/\VR W F x y)->(v=none->u=none)->OR W F (.cell v) o
inductive OList(W:Wd)(F:Frz)(xs:List V):Obj->Prop
 | list {vs:Array Value} {n:Nat}:VRs W F xs vs.toList->OList W F xs { cls:=.type "list",data:=.seq vs n }
inductive ODict(W:Wd)(F:Frz)(es:List (Str×V))(ep:Nat):Obj->Prop
 | dict {ds:List DictEntry} {kvs:List (Str×Value)}:(dictOf ds ep).IsDictOf (strKind W.prog W.w) kvs->VRp W F es kvs->ODict W F es ep (dictOf ds ep)
inductive OInst(C d:Addr):Obj->Prop
 | inst:OInst C d (instObj C d)
inductive ORaw(o:Obj):Obj->Prop
 | raw:ORaw o o
inductive OIter(W:Wd)(F:Frz)(lst:Bool)(i:Nat)(x:V):Obj->Prop
 | iter {a:Addr} {o:Obj}:VR W F x (.ref a)->o.cls = .type (if lst then "list_iterator" else "tuple_iterator")->o.data = .fields #[.ref a,.int i 0]->OIter W F lst i x o
inductive OCell(W:Wd)(F:Frz)(v:Option V):Obj->Prop
 | cell {o:Obj} {u:Option Value}:o.data = .cell u->(∀ x,v=some x->∃ y,u=some y/\VR W F x y)->(v=none->u=none)->OCell W F v o
noncomputable def OView(W:Wd)(F:Frz):ax->Obj->Prop
 | .list xs=>OList W F xs
 | .dict es ep=>ODict W F es ep
 | .set _=>fun _=>False
 | .inst C d=>OInst C d
 | .cell v=>OCell W F v
 | .raw o=>ORaw o
 | .iter l i x=>OIter W F l i x
theorem OR.view{W:Wd}{F:Frz}{x:ax}{o:Obj}(r:OR W F x o):OView W F x o:=by
 cases r with
 | list q=>exact .list q
 | dict k q=>exact .dict k q
 | inst=>exact .inst
 | raw=>exact .raw
 | iter q c d=>exact .iter q c d
 | cell k q z=>exact .cell k q z
theorem OR.mono{W:Wd}{F F':Frz}(h:∀ a o,F a o->F' a o){x:ax}{o:Obj}(r:OR W F x o):OR W F' x o:=by
 cases r with
 | list r=>exact .list (r.mono h)
 | dict k r=>exact .dict k (r.mono h)
 | inst=>exact .inst
 | raw=>exact .raw
 | iter r c d=>exact .iter (r.mono h) c d
 | cell k r z=>exact .cell k (fun x e=>let ⟨y,e',q⟩:=r x e;⟨y,e',q.mono h⟩) z
noncomputable abbrev Loc:=List (Str×V)
noncomputable abbrev Mem:=Addr->Option ax
noncomputable def tgo:ax->Nat
 | .list _=>0|.dict _ _=>1|.set _=>2|.inst _ _=>3|.cell _=>4|.raw _=>5|.iter _ _ _=>6
noncomputable def tg:Option ax->Nat
 | none=>0
 | some x=>tgo x+1
theorem nex{m:Mem}{a b:Addr}{x y:Option ax}(h1:m a=x)(h2:m b=y)(h:(tg x==tg y)=false:=by rfl):a≠b:=fun e=>by
 rw[e,h2]at h1
 rw[h1,beq_self_eq_true]at h
 cases h
noncomputable abbrev ay:=List (Addr×(Str->Option Value))
inductive oN(W:Wd)(F:Frz)(h:Heap)(a:Addr)(x:ax):Prop
 | intro (o:Obj) (h1_:h.get? a=some o) (h2_:OR W F x o)
inductive NsIs(W:Wd)(F:Frz)(h:Heap)(L:Addr)(loc:Loc):Prop
 | intro (m:Str->Option Value) (h1_:h.Ns L m) (h2_:∀ x v,loc.lookup x=some v->∃ v',m x=some v'/\VR W F v v')
structure bo(W:Wd)(env:Env)(outer:ay)(loc:Loc)(mem:Mem)(F:Frz)(s:Shared):Prop where
 frz:∀ a o,F a o->s.heap.get? a=some o
 base:∀ a o,W.hb.get? a=some o->F a o
 memF:∀ a o,F a o->mem a=none
 memOk:∀ a x,mem a=some x->oN W F s.heap a x
 ns:NsIs W F s.heap env.locals loc
 nsF:(∀ o,¬ F env.locals o)/\mem env.locals=none
 outs:∀ q∈outer,s.heap.Ns q.1 q.2/\(∀ o,¬ F q.1 o)/\mem q.1=none/\q.1≠env.locals
 low:W.hb.objs.size≤env.locals
 memLow:∀ a x,mem a=some x->a≠sysModules
 gens:s.gens = #[]
 os:s.os=W.os
theorem ey{W:Wd}{a:Addr}(h:W.hb.objs.size≤a):a≠sysModules:=Nat.ne_of_gt (Nat.lt_of_lt_of_le (modules_low W.nolim) h)
noncomputable def ap(mem:Mem)(a:Addr)(x:ax):Mem:=fun b=>if b=a then some x else mem b
@[simp] theorem mset_self (mem:Mem) (a:Addr) (x:ax):ap mem a x a=some x:=if_pos rfl
theorem af{mem:Mem}{a b:Addr}{x:ax}(h:b≠a):ap mem a x b=mem b:=if_neg h
noncomputable def eR(mem:Mem)(a:Addr):Mem:=fun b=>if b=a then none else mem b
noncomputable def aV(F F':Frz):Prop:=∀ a o,F a o->F' a o
theorem aV.refl(F:Frz):aV F F:=fun _ _ h=>h
theorem aV.trans{F G H:Frz}(x:aV F G)(y:aV G H):aV F H:=fun a o h=>y a o (x a o h)
noncomputable def fadd(F:Frz)(a:Addr)(o:Obj):Frz:=fun b p=>F b p\/(b=a/\p=o)
theorem aV.fadd(F:Frz)(a:Addr)(o:Obj):aV F (fadd F a o):=fun _ _ h=>.inl h
noncomputable def cz(W:Wd)(F:Frz)(loc:Loc)(m:Str->Option Value):Prop:=∀ x v,loc.lookup x=some v->∃ v',m x=some v'/\VR W F v v'
theorem cz.mono{W:Wd}{F F':Frz}{loc:Loc}{m:Str->Option Value}(h:aV F F')(r:cz W F loc m):cz W F' loc m:=
 fun x v e=>let ⟨v',e',q⟩:=r x v e;⟨v',e',q.mono h⟩
section
variable {W:Wd}{env:Env}{outer:ay}{loc:Loc}{mem:Mem}{F:Frz}{s:Shared}
theorem bo.kin(S:bo W env outer loc mem F s):W.K.In s.heap:=W.KIn.keeps fun b o e=>S.frz b o (S.base b o e)
theorem bo.hbase(S:bo W env outer loc mem F s):∀ b o,W.hb.get? b=some o->s.heap.get? b=some o:=fun b o e=>S.frz b o (S.base b o e)
theorem bo.fresh_base{a:Addr}{x:ax}(S:bo W env outer loc mem F s)(h:mem a=some x):W.hb.get? a=none:=by
 cases q:W.hb.get? a with
 | none=>rfl
 | some o=>have:=S.memF a o (S.base a o q);rw[h]at this;cases this
theorem bo.fr{m:Str->Option Value}(S:bo W env outer loc mem F s)(hn:s.heap.Ns env.locals m):Fr W.hb env.locals s.heap m:=⟨hn,S.hbase,S.low⟩
theorem bo.grow{h':Heap}{t:Nat}{d:Drawn}(S:bo W env outer loc mem F s)(hk:∀ b o,s.heap.get? b=some o->h'.get? b=some o) :
  bo W env outer loc mem F { s with heap:=h',toks:=t,drawn:=d } where
 frz a o h:=hk _ _ (S.frz a o h)
 base:=S.base
 memF:=S.memF
 memOk a x h:=let ⟨o,e,r⟩:=S.memOk a x h;⟨o,hk _ _ e,r⟩
 ns:=let ⟨m,a,b⟩:=S.ns;⟨m,a.keeps hk,b⟩
 nsF:=S.nsF
 outs q hq:=let ⟨a,b⟩:=S.outs q hq;⟨a.keeps hk,b⟩
 low:=S.low
 memLow:=S.memLow
 gens:=S.gens
 os:=S.os
theorem bo.tick{t:Nat}(S:bo W env outer loc mem F s):bo W env outer loc mem F { s with toks:=t }:=S.grow fun _ _ e=>e
theorem bo.ne_locals{a:Addr}{x:ax}(S:bo W env outer loc mem F s)(h:mem a=some x):a≠env.locals:=fun e=>by
 have:=S.nsF.2;rw[<-e,h]at this;cases this
theorem bo.upd{a:Addr}{x x':ax}{h':Heap}{t:Nat}{d:Drawn}{o':Obj}(S:bo W env outer loc mem F s)(hm:mem a=some x)
  (hs:∀ b o,b≠a->s.heap.get? b=some o->h'.get? b=some o) (ho:h'.get? a=some o') (r:OR W F x' o') :
  bo W env outer loc (ap mem a x') F { s with heap:=h',toks:=t,drawn:=d } where
 frz b o h:=hs b o (fun e=>by have:=S.memF b o h;rw[e,hm]at this;cases this) (S.frz b o h)
 base:=S.base
 memF b o h:=by
  have hb:b≠a:=fun e=>by have:=S.memF b o h;rw[e,hm]at this;cases this
  rw[af hb];exact S.memF b o h
 memOk b y h:=by
  by_cases e:b=a
  ·subst e;rw[mset_self]at h;cases h;exact⟨o',ho,r⟩
  ·rw[af e]at h;obtain⟨o,e',q⟩:=S.memOk b y h;exact⟨o,hs b o e e',q⟩
 ns:=let ⟨m,z,b⟩:=S.ns;⟨m,by
  obtain⟨o,es,ep,e,q⟩:=z
  exact⟨o,es,ep,hs _ _ (Ne.symm (S.ne_locals hm)) e,q⟩,b⟩
 nsF:=⟨S.nsF.1,by rw[af (Ne.symm (S.ne_locals hm))];exact S.nsF.2⟩
 outs q hq:=by
  obtain⟨z,b,c,e⟩:=S.outs q hq
  have hq':q.1≠a:=fun e=>by rw[e,hm]at c;cases c
  obtain⟨o,es,ep,e',r'⟩:=z
  exact⟨⟨o,es,ep,hs _ _ hq' e',r'⟩,b,by rw[af hq'];exact c,e⟩
 low:=S.low
 memLow b y h:=by
  unfold ap at h
  split at h
  ·rename_i q;rw[q];exact S.memLow a x hm
  ·exact S.memLow b y h
 gens:=S.gens
 os:=S.os
theorem bo.free_of_none{a:Addr}(S:bo W env outer loc mem F s)(ha:s.heap.get? a=none):mem a=none/\(∀ o,¬ F a o)/\a≠env.locals/\∀ q∈outer,q.1≠a:=by
 refine⟨?_,fun o h=>?_,fun e=>?_,fun q hq e=>?_⟩
 ·cases q:mem a with
  | none=>rfl
  | some x=>obtain⟨o,e,_⟩:=S.memOk a x q;rw[ha]at e;cases e
 ·have:=S.frz a o h;rw[ha]at this;cases this
 ·obtain⟨m,⟨o,es,ep,h,_⟩,_⟩:=S.ns;rw[<-e,ha]at h;cases h
 ·obtain⟨⟨o,es,ep,h,_⟩,_⟩:=S.outs q hq;rw[e,ha]at h;cases h
theorem bo.alloc{a:Addr}{x:ax}{h':Heap}{t:Nat}{d:Drawn}{o':Obj}(S:bo W env outer loc mem F s)(ha:s.heap.get? a=none)(hlo:W.hb.objs.size≤a)
  (hs:∀ b o,s.heap.get? b=some o->h'.get? b=some o) (ho:h'.get? a=some o') (r:OR W F x o') :
  bo W env outer loc (ap mem a x) F { s with heap:=h',toks:=t,drawn:=d }:=by
 obtain⟨f1,f2,f3,f4⟩:=S.free_of_none ha
 have ne:∀ {b o},F b o->b≠a:=fun h e=>f2 _ (e▸h)
 exact {
  frz:=fun b o h=>hs b o (S.frz b o h)
  base:=S.base
  memF:=fun b o h=>by rw[af (ne h)];exact S.memF b o h
  memOk:=fun b y h=>by
   by_cases e:b=a
   ·subst e;rw[mset_self]at h;cases h;exact⟨o',ho,r⟩
   ·rw[af e]at h;obtain⟨o,e',q⟩:=S.memOk b y h;exact⟨o,hs b o e',q⟩
  ns:=let ⟨m,z,b⟩:=S.ns;⟨m,z.keeps hs,b⟩
  nsF:=⟨S.nsF.1,by rw[af (Ne.symm f3)];exact S.nsF.2⟩
  outs:=fun q hq=>by
   obtain⟨z,b,c,e⟩:=S.outs q hq
   exact⟨z.keeps hs,b,by rw[af (f4 q hq)];exact c,e⟩
  low:=S.low
  memLow:=fun b y h=>by
   unfold ap at h
   split at h
   ·rename_i q;rw[q];exact ey hlo
   ·exact S.memLow b y h
  gens:=S.gens
  os:=S.os }
theorem bo.freeze{a:Addr}{h':Heap}{t:Nat}{d:Drawn}{o':Obj}(S:bo W env outer loc mem F s)(ha:s.heap.get? a=none)
  (hs:∀ b o,s.heap.get? b=some o->h'.get? b=some o) (ho:h'.get? a=some o') :
  bo W env outer loc mem (fadd F a o') { s with heap:=h',toks:=t,drawn:=d }:=by
 obtain⟨f1,f2,f3,f4⟩:=S.free_of_none ha
 exact {
  frz:=fun b o h=>by rcases h with h|⟨rfl,rfl⟩;exact hs b o (S.frz b o h);exact ho
  base:=fun b o h=>.inl (S.base b o h)
  memF:=fun b o h=>by rcases h with h|⟨rfl,rfl⟩;exact S.memF b o h;exact f1
  memOk:=fun b y h=>let ⟨o,e',q⟩:=S.memOk b y h;⟨o,hs b o e',q.mono (aV.fadd _ _ _)⟩
  ns:=let ⟨m,z,b⟩:=S.ns;⟨m,z.keeps hs,cz.mono (aV.fadd _ _ _) b⟩
  nsF:=⟨fun o h=>by rcases h with h|⟨e,rfl⟩;exact S.nsF.1 o h;exact f3 e.symm,S.nsF.2⟩
  outs:=fun q hq=>by
   obtain⟨z,b,c,e⟩:=S.outs q hq
   exact⟨z.keeps hs,fun o h=>by rcases h with h|⟨e,rfl⟩;exact b o h;exact f4 q hq e,c,e⟩
  low:=S.low
  memLow:=S.memLow
  gens:=S.gens
  os:=S.os }
theorem bo.drop{mem':Mem}(S:bo W env outer loc mem F s)(h:∀ a x,mem' a=some x->mem a=some x):bo W env outer loc mem' F s:=by
 have dn:∀ {b},mem b=none->mem' b=none:=fun {b} e=>by
  cases q:mem' b with
  | none=>rfl
  | some x=>rw[h b x q]at e;cases e
 exact { frz:=S.frz,base:=S.base,memF:=fun b o q=>dn (S.memF b o q),memOk:=fun b y q=>S.memOk b y (h b y q),ns:=S.ns,nsF:=⟨S.nsF.1,dn S.nsF.2⟩,outs:=fun q hq=>let ⟨z,b,c,e⟩:=S.outs q hq;⟨z,b,dn c,e⟩,low:=S.low,memLow:=fun b y q=>S.memLow b y (h b y q),gens:=S.gens,os:=S.os }
noncomputable def eY(x:Str)(v:V):Loc->Loc
 | []=>[(x,v)]
 | (y,u)::r=>if y=x then(x,v)::r else(y,u)::eY x v r
theorem fv(x y:Str)(v:V):∀ loc:Loc,(eY x v loc).lookup y=if y=x then some v else loc.lookup y
 | []=>by
  unfold eY
  by_cases h:y=x
  ·subst h;simp[List.lookup]
  ·have:(y==x)=false:=by simpa using h
   simp[List.lookup,this,h]
 | (z,u)::r=>by
  unfold eY
  by_cases hz:z=x
  ·subst hz
   rw[if_pos rfl]
   by_cases h:y=z
   ·subst h;simp[List.lookup]
   ·have:(y==z)=false:=by simpa using h
    simp[List.lookup,this,h]
  ·rw[if_neg hz,List.lookup_cons,List.lookup_cons,fv x y v r]
   by_cases h:y=x
   ·subst h
    have:(y==z)=false:=by simpa using (Ne.symm hz)
    simp[this]
   ·simp[h]
theorem bo.store{x:Str}{v:V}{v':Value}{h':Heap}{t:Nat}{m:Str->Option Value}(S:bo W env outer loc mem F s)(r:VR W F v v')(l:cz W F loc m)
  (hn:h'.Ns env.locals fun y=>if y=x then some v' else m y) (hs:Heap.SameBut env.locals s.heap h'):bo W env outer (eY x v loc) mem F { s with heap:=h',toks:=t } where
 frz a o h:=(hs.2 a fun e=>S.nsF.1 o (e▸h)).trans (S.frz a o h)
 base:=S.base
 memF:=S.memF
 memOk a y h:=let ⟨o,e,r⟩:=S.memOk a y h;⟨o,(hs.2 a (S.ne_locals h)).trans e,r⟩
 ns:=⟨_,hn,fun y u e=>by
  rw[fv]at e
  by_cases q:y=x
  ·rw[if_pos q]at e;cases e;exact⟨v',if_pos q,r⟩
  ·rw[if_neg q]at e;obtain⟨u',e',q'⟩:=l y u e;exact⟨u',(if_neg q).trans e',q'⟩⟩
 nsF:=S.nsF
 outs q hq:=let ⟨z,b,c,e⟩:=S.outs q hq;⟨z.sameBut hs e,b,c,e⟩
 low:=S.low
 memLow:=S.memLow
 gens:=S.gens
 os:=S.os
end
noncomputable def mun(m R:Mem):Mem:=fun a=>match m a with|some x=>some x|none=>R a
noncomputable def Dis(m R:Mem):Prop:=∀ a x,m a=some x->R a=none
theorem bu{m R:Mem}{a:Addr}{x:ax}(h:m a=some x):mun m R a=some x:=by unfold mun;rw[h]
theorem bw{m R:Mem}{a:Addr}(h:m a=none):mun m R a=R a:=by unfold mun;rw[h]
theorem br{m R:Mem}{a:Addr}(h:mun m R a=none):m a=none/\R a=none:=by
 unfold mun at h
 cases q:m a with
 | none=>rw[q]at h;exact⟨rfl,h⟩
 | some x=>rw[q]at h;cases h
theorem fk(m R:Mem)(a:Addr)(x:ax):ap (mun m R) a x=mun (ap m a x) R:=by
 funext b
 unfold ap mun
 by_cases h:b=a
 ·simp[h]
 ·simp[h]
theorem ej{m R:Mem}{a:Addr}(h:m a=none)(x:ax):ap (mun m R) a x=mun m (ap R a x):=by
 funext b
 unfold ap mun
 by_cases hb:b=a
 ·subst hb;simp[h]
 ·simp[hb]
structure Sim(W:Wd)(env:Env)(outer:ay)(loc:Loc)(mem R:Mem)(F:Frz)(s:Shared):Prop where
 dis:Dis mem R
 z:bo W env outer loc (mun mem R) F s
section
variable {W:Wd}{env:Env}{outer:ay}{loc:Loc}{mem R:Mem}{F:Frz}{s:Shared}
theorem Sim.kin(S:Sim W env outer loc mem R F s):W.K.In s.heap:=S.z.kin
theorem Sim.hbase(S:Sim W env outer loc mem R F s):∀ b o,W.hb.get? b=some o->s.heap.get? b=some o:=S.z.hbase
theorem Sim.frz(S:Sim W env outer loc mem R F s):∀ a o,F a o->s.heap.get? a=some o:=S.z.frz
theorem Sim.base(S:Sim W env outer loc mem R F s):∀ a o,W.hb.get? a=some o->F a o:=S.z.base
theorem Sim.memOk(S:Sim W env outer loc mem R F s)(a:Addr)(x:ax)(h:mem a=some x):oN W F s.heap a x:=S.z.memOk a x (bu h)
theorem Sim.ns(S:Sim W env outer loc mem R F s):NsIs W F s.heap env.locals loc:=S.z.ns
theorem Sim.fresh_base{a:Addr}{x:ax}(S:Sim W env outer loc mem R F s)(h:mem a=some x):W.hb.get? a=none:=S.z.fresh_base (bu h)
theorem Sim.fr{m:Str->Option Value}(S:Sim W env outer loc mem R F s)(hn:s.heap.Ns env.locals m):Fr W.hb env.locals s.heap m:=S.z.fr hn
theorem Sim.gens(S:Sim W env outer loc mem R F s):s.gens = #[]:=S.z.gens
theorem Sim.os(S:Sim W env outer loc mem R F s):s.os=W.os:=S.z.os
theorem Sim.ne_locals{a:Addr}{x:ax}(S:Sim W env outer loc mem R F s)(h:mem a=some x):a≠env.locals:=S.z.ne_locals (bu h)
theorem Sim.grow{h':Heap}{t:Nat}{d:Drawn}(S:Sim W env outer loc mem R F s)(hk:∀ b o,s.heap.get? b=some o->h'.get? b=some o) :
  Sim W env outer loc mem R F { s with heap:=h',toks:=t,drawn:=d }:=⟨S.dis,S.z.grow hk⟩
theorem Sim.tick{t:Nat}(S:Sim W env outer loc mem R F s):Sim W env outer loc mem R F { s with toks:=t }:=⟨S.dis,S.z.tick⟩
theorem Sim.size_le(S:Sim W env outer loc mem R F s):W.hb.objs.size≤s.heap.objs.size:=by
 obtain⟨m,hn,_⟩:=S.ns
 exact Nat.le_trans S.z.low (Nat.le_of_lt hn.lt)
theorem aH(h:Heap):h.get? h.objs.size=none:=by
 cases q:h.get? h.objs.size with
 | none=>rfl
 | some o=>exact absurd (Heap.lt_size q) (Nat.lt_irrefl _)
theorem dU{h:Heap}{a:Addr}(l:h.objs.size≤a):h.get? a=none:=by
 cases q:h.get? a with
 | none=>rfl
 | some o=>exact absurd (Heap.lt_size q) (Nat.not_lt.mpr l)
theorem Sim.not_modules{a:Addr}{x:ax}(S:Sim W env outer loc mem R F s)(h:mem a=some x):(a==sysModules)=false:=
 beq_eq_false_iff_ne.mpr (S.z.memLow a x (bu h))
theorem Dis.set{a:Addr}{x x':ax}(d:Dis mem R)(h:mem a=some x):Dis (ap mem a x') R:=fun b y e=>by
 unfold ap at e
 split at e
 ·rename_i q;rw[q];exact d a x h
 ·exact d b y e
theorem Sim.upd{a:Addr}{x x':ax}{h':Heap}{t:Nat}{d:Drawn}{o':Obj}(S:Sim W env outer loc mem R F s)(hm:mem a=some x)
  (hs:∀ b o,b≠a->s.heap.get? b=some o->h'.get? b=some o) (ho:h'.get? a=some o') (r:OR W F x' o') :
  Sim W env outer loc (ap mem a x') R F { s with heap:=h',toks:=t,drawn:=d }:=⟨S.dis.set hm,fk mem R a x'▸S.z.upd (bu hm) hs ho r⟩
theorem Sim.free{a:Addr}(S:Sim W env outer loc mem R F s)(ha:s.heap.get? a=none):mem a=none/\R a=none:=br (S.z.free_of_none ha).1
theorem Sim.alloc{a:Addr}{x:ax}{h':Heap}{t:Nat}{d:Drawn}{o':Obj}(S:Sim W env outer loc mem R F s)(ha:s.heap.get? a=none)(hlo:W.hb.objs.size≤a)
  (hs:∀ b o,s.heap.get? b=some o->h'.get? b=some o) (ho:h'.get? a=some o') (r:OR W F x o') :
  Sim W env outer loc (ap mem a x) R F { s with heap:=h',toks:=t,drawn:=d }:=
 ⟨fun b y e=>by
  unfold ap at e
  split at e
  ·rename_i q;rw[q];exact(S.free ha).2
  ·exact S.dis b y e,fk mem R a x▸S.z.alloc ha hlo hs ho r⟩
theorem Sim.allocR{a:Addr}{x:ax}{h':Heap}{t:Nat}{d:Drawn}{o':Obj}(S:Sim W env outer loc mem R F s)(ha:s.heap.get? a=none)(hlo:W.hb.objs.size≤a)
  (hs:∀ b o,s.heap.get? b=some o->h'.get? b=some o) (ho:h'.get? a=some o') (r:OR W F x o') :
  Sim W env outer loc mem (ap R a x) F { s with heap:=h',toks:=t,drawn:=d }:=
 ⟨fun b y e=>by
  unfold ap
  split
  ·rename_i q;rw[q,(S.free ha).1]at e;cases e
  ·exact S.dis b y e,ej (S.free ha).1 x▸S.z.alloc ha hlo hs ho r⟩
theorem Sim.updR{a:Addr}{x x':ax}{h':Heap}{t:Nat}{d:Drawn}{o':Obj}(S:Sim W env outer loc mem (ap R a x) F s)
  (hs:∀ b o,b≠a->s.heap.get? b=some o->h'.get? b=some o) (ho:h'.get? a=some o') (r:OR W F x' o') :
  Sim W env outer loc mem (ap R a x') F { s with heap:=h',toks:=t,drawn:=d }:=by
 have hm:mem a=none:=by
  cases q:mem a with
  | none=>rfl
  | some y=>have:=S.dis a y q;rw[mset_self]at this;cases this
 refine⟨fun b y e=>?_,?_⟩
 ·have:=S.dis b y e
  unfold ap at this ⊢
  split
  ·rename_i q;rw[if_pos q]at this;cases this
  ·rename_i q;rw[if_neg q]at this;exact this
 ·have:=S.z.upd (x:=x) (x':=x') (t:=t) (d:=d) (by rw[bw hm,mset_self]) hs ho r
  rw[ej hm]at this
  have e:ap (ap R a x) a x'=ap R a x':=by funext b;unfold ap;split<;>simp_all
  rwa [e]at this
theorem Sim.atR{a:Addr}{x:ax}(S:Sim W env outer loc mem (ap R a x) F s):oN W F s.heap a x:=by
 have hm:mem a=none:=by
  cases q:mem a with
  | none=>rfl
  | some y=>have:=S.dis a y q;rw[mset_self]at this;cases this
 exact S.z.memOk a x (by rw[bw hm,mset_self])
theorem Sim.offR{a:Addr}{x:ax}(S:Sim W env outer loc mem (ap R a x) F s)(hR:R a=none):Sim W env outer loc mem R F s:=by
 refine⟨fun b y e=>?_,S.z.drop fun b y e=>?_⟩
 ·have:=S.dis b y e
  unfold ap at this
  split at this
  ·cases this
  ·exact this
 ·cases q:mem b with
  | some z=>rw[bu q]at e ⊢;exact e
  | none=>
   rw[bw q]at e ⊢
   unfold ap
   split
   ·rename_i q';rw[q',hR]at e;cases e
   ·exact e
theorem Sim.freeze{a:Addr}{h':Heap}{t:Nat}{d:Drawn}{o':Obj}(S:Sim W env outer loc mem R F s)(ha:s.heap.get? a=none)
  (hs:∀ b o,s.heap.get? b=some o->h'.get? b=some o) (ho:h'.get? a=some o') :
  Sim W env outer loc mem R (fadd F a o') { s with heap:=h',toks:=t,drawn:=d }:=⟨S.dis,S.z.freeze ha hs ho⟩
theorem Sim.drop{mem':Mem}(S:Sim W env outer loc mem R F s)(h:∀ a x,mem' a=some x->mem a=some x):Sim W env outer loc mem' R F s:=by
 refine⟨fun a x e=>S.dis a x (h a x e),S.z.drop fun a x e=>?_⟩
 unfold mun at e
 cases q:mem' a with
 | some y=>rw[q]at e;rw[bu (h a y q)];exact e
 | none=>
  rw[q]at e
  dsimp only at e
  cases q':mem a with
  | none=>rw[bw q'];exact e
  | some y=>have:=S.dis a y q';rw[e]at this;cases this
theorem Sim.store{x:Str}{v:V}{v':Value}{h':Heap}{t:Nat}{m:Str->Option Value}(S:Sim W env outer loc mem R F s)(r:VR W F v v')(l:cz W F loc m)
  (hn:h'.Ns env.locals fun y=>if y=x then some v' else m y) (hs:Heap.SameBut env.locals s.heap h'):Sim W env outer (eY x v loc) mem R F { s with heap:=h',toks:=t }:=
 ⟨S.dis,S.z.store r l hn hs⟩
end
inductive aE(W:Wd)(env:Env)(outer:ay){α β:Type}(RV:Frz->β->α->Prop)(R:Mem)(F:Frz)(Q:β->Loc->Mem->Prop)(v':α)(s':Shared):Prop
 | intro (F':Frz) (v:β) (loc':Loc) (mem':Mem) (h1_:aV F F') (h2_:RV F' v v') (h3_:Sim W env outer loc' mem' R F' s') (h4_:Q v loc' mem')
structure gG(W:Wd)(R R':Mem):Prop where
 sim:∀ {env:Env} {outer:ay} {loc:Loc} {mem:Mem} {F:Frz} {s:Shared},Sim W env outer loc mem R' F s->Sim W env outer loc mem R F s
 sub:∀ a x,R a=some x->R' a=some x
theorem gG.refl{W:Wd}(R:Mem):gG W R R:=⟨fun S=>S,fun _ _ h=>h⟩
structure Ex(W:Wd) where
 p:Mem->Frz->Value->Shared->Prop
 mono:∀ {R R':Mem} {F F':Frz} {v:Value} {s:Shared},gG W R R'->aV F F'->p R' F' v s->p R F v s
theorem Ex.up{W:Wd}{E:Ex W}{R:Mem}{F F':Frz}{v:Value}{s:Shared}(i:aV F F')(h:E.p R F' v s):E.p R F v s:=E.mono (gG.refl R) i h
noncomputable def Ex.no{W:Wd}:Ex W:=⟨fun _ _ _ _=>False,fun _ _ h=>h⟩
noncomputable def Tr(W:Wd)(A:Around)(env:Env)(outer:ay){α β:Type}(RV:Frz->β->α->Prop)(t:Sem α)(loc:Loc)(mem:Mem)(Q:β->Loc->Mem->Prop)(E:Ex W):Prop:=
 ∀ R F s,Sim W env outer loc mem R F s->wpAny (model W.prog W.w) A t (aE W env outer RV R F Q) (E.p R F) s
noncomputable abbrev TrV(W:Wd)(A:Around)(env:Env)(outer:ay)(t:Sem Value)(loc:Loc)(mem:Mem)(Q:V->Loc->Mem->Prop)(E:Ex W):Prop:=
 Tr W A env outer (VR W) t loc mem Q E
noncomputable abbrev TrB(W:Wd)(A:Around)(env:Env)(outer:ay)(t:Sem Bool)(loc:Loc)(mem:Mem)(Q:Bool->Loc->Mem->Prop)(E:Ex W):Prop:=
 Tr W A env outer (fun _ (b c:Bool)=>c=b) t loc mem Q E
inductive Fl where
 | next|brk|cont|ret (v:V)
inductive FR(W:Wd)(F:Frz):Fl->Flow->Prop
 | next:FR W F .next .next
 | brk:FR W F .brk .brk
 | cont:FR W F .cont .cont
 | ret {v:V} {v':Value}:VR W F v v'->FR W F (.ret v) (.ret v')
noncomputable abbrev TrS(W:Wd)(A:Around)(env:Env)(outer:ay)(t:Sem Flow)(loc:Loc)(mem:Mem)(Q:Fl->Loc->Mem->Prop)(E:Ex W):Prop:=
 Tr W A env outer (FR W) t loc mem Q E
noncomputable abbrev TrL(W:Wd)(A:Around)(env:Env)(outer:ay)(t:Sem (List Value))(loc:Loc)(mem:Mem)(Q:List V->Loc->Mem->Prop)(E:Ex W):Prop:=
 Tr W A env outer (VRs W) t loc mem Q E
noncomputable def Op(W:Wd)(A:Around)(env:Env)(outer:ay){α β:Type}(RV:Frz->β->α->Prop)(f:List Value->Sem α)(xs:List V)(loc:Loc)(mem:Mem)(Q:β->Loc->Mem->Prop)(E:Ex W):Prop:=
 ∀ R F s vs,Sim W env outer loc mem R F s->VRs W F xs vs->wpAny (model W.prog W.w) A (f vs) (aE W env outer RV R F Q) (E.p R F) s
section
variable {W:Wd}{A:Around}{env:Env}{outer:ay}{α β:Type}{RV:Frz->β->α->Prop}{loc:Loc}{mem R:Mem}{E:Ex W}
theorem aE.weaken{F G:Frz}{Q:β->Loc->Mem->Prop}{v:α}{s:Shared}(h:aV F G)(p:aE W env outer RV R G Q v s):aE W env outer RV R F Q v s:=
 let ⟨F',x,l,m,a,b,c,d⟩:=p;⟨F',x,l,m,h.trans a,b,c,d⟩
theorem aE.mk{F:Frz}{Q:β->Loc->Mem->Prop}{v:α}{x:β}{s:Shared}(r:RV F x v)(S:Sim W env outer loc mem R F s)(q:Q x loc mem):aE W env outer RV R F Q v s:=
 ⟨F,x,loc,mem,aV.refl F,r,S,q⟩
theorem Tr.mono{t:Sem α}{Q Q':β->Loc->Mem->Prop}(h:Tr W A env outer RV t loc mem Q E)(hq:∀ x l m,Q x l m->Q' x l m):Tr W A env outer RV t loc mem Q' E:=
 fun R F s S=>wpAny_mono (h R F s S) (fun _ _ ⟨F',x,l,m,a,b,c,d⟩=>⟨F',x,l,m,a,b,c,hq x l m d⟩) fun _ _ e=>e
theorem Tr.drop{t:Sem α}{Q:β->Loc->Mem->Prop}{mem':Mem}(h:Tr W A env outer RV t loc mem' Q E)(hm:∀ a x,mem' a=some x->mem a=some x):Tr W A env outer RV t loc mem Q E:=
 fun R F s S=>h R F s (S.drop hm)
end
end Mine
namespace Mine
section
variable {W:Wd}{A:Around}{env:Env}{outer:ay}{loc:Loc}{mem R:Mem}{E:Ex W}{F:Frz}{s:Shared}
theorem aM{α β γ δ:Type}{RV:Frz->β->α->Prop}{RW:Frz->δ->γ->Prop}{t:Sem α}{P:β->Loc->Mem->Prop}{Q':α->Shared->Prop}{Q:δ->Loc->Mem->Prop}
  {F0:Frz} (h:wpAny (model W.prog W.w) A t (aE W env outer RV R F P) (E.p R F) s)
  (hk:∀ v' s' F1 x l1 m1,aV F F1->RV F1 x v'->Sim W env outer l1 m1 R F1 s'->P x l1 m1->Q' v' s')
  (i:aV F0 F):wpAny (model W.prog W.w) A t Q' (E.p R F0) s:=
 wpAny_mono h (fun v' s' ⟨F1,x,l1,m1,a,b,c,d⟩=>hk v' s' F1 x l1 m1 a b c d) fun _ _ e=>E.up i e
theorem cG{α β γ δ:Type}{RV:Frz->β->α->Prop}{RW:Frz->δ->γ->Prop}{t:Sem α}{P:β->Loc->Mem->Prop}{Q':α->Shared->Prop}{Q:δ->Loc->Mem->Prop}{E0 E':Value->Shared->Prop}
  (h:wpAny (model W.prog W.w) A t (aE W env outer RV R F P) E0 s)
  (he:∀ e s,E0 e s->E' e s)
  (hk:∀ v' s' F1 x l1 m1,aV F F1->RV F1 x v'->Sim W env outer l1 m1 R F1 s'->P x l1 m1->Q' v' s'):wpAny (model W.prog W.w) A t Q' E' s:=
 wpAny_mono h (fun v' s' ⟨F1,x,l1,m1,a,b,c,d⟩=>hk v' s' F1 x l1 m1 a b c d) fun e s h=>he e s h
theorem e_none{k:Nat}{pos:Pos}{Q:V->Loc->Mem->Prop}(h:Q .none loc mem):TrV W A env outer (eval (.Constant .none k pos) env) loc mem Q E:=
 fun R F s S=>wpAny_Constant_none (aE.mk .none S h)
theorem e_bool{b:Bool}{k:Nat}{pos:Pos}{Q:V->Loc->Mem->Prop}(h:Q (.bool b) loc mem):TrV W A env outer (eval (.Constant (.bool b) k pos) env) loc mem Q E:=
 fun R F s S=>wpAny_Constant_bool (aE.mk (.bool b) S h)
theorem bI{i:Int}{k:Nat}{pos:Pos}{Q:V->Loc->Mem->Prop}(h:Q (.int i) loc mem):TrV W A env outer (eval (.Constant (.int i) k pos) env) loc mem Q E:=
 fun R F s S=>wpAny_Constant_int (aE.mk (.int i _) S.tick h)
theorem gE{x:Str}{k:Nat}{pos:Pos}{Q:V->Loc->Mem->Prop}(h:Q (.str x) loc mem):TrV W A env outer (eval (.Constant (.str x) k pos) env) loc mem Q E:=
 fun R F s S=>wpAny_Constant_str (aE.mk (.str x _) S.tick h)
theorem e_local{x:Str}{pos:Pos}{v:V}{Q:V->Loc->Mem->Prop}(hk:env.scope.kind = .function)(hl:env.kindOf x=some .local)(hd:(x==("__debug__" : Str))=false)(hv:loc.lookup x=some v)(h:Q v loc mem) :
  TrV W A env outer (eval (.Name x pos) env) loc mem Q E:=fun R F s S=>by
 obtain⟨m,hn,l⟩:=S.ns
 obtain⟨v',e,r⟩:=l x v hv
 exact wpAny_Name (wpAny_loadName_local hk hl hn e (aE.mk r S h)) hd
theorem aX{x:Str}{pos:Pos}{c:Addr}{v:V}{Q:V->Loc->Mem->Prop}(hk:env.scope.kind = .function)(hl:env.kindOf x=some .cell)(hd:(x==("__debug__" : Str))=false)
  (hc:env.cells.lookup x=some c) (hv:mem c=some (.cell (some v))) (h:Q v loc mem):TrV W A env outer (eval (.Name x pos) env) loc mem Q E:=fun R F s S=>by
 obtain⟨o,ho,r⟩:=S.memOk c _ hv
 cases r.view with
 | cell k r z=>
  obtain⟨y,rfl,q⟩:=r _ rfl
  exact wpAny_Name (wpAny_loadName_cell hk hl hc ⟨o,ho,k⟩ (aE.mk q S h)) hd
theorem kj{x:Str}{pos:Pos}{c:Addr}{v:V}{Q:V->Loc->Mem->Prop}(hk:env.scope.kind = .function)(hl:env.kindOf x=some .free)(hd:(x==("__debug__" : Str))=false)(hn:(x==("__classdict__" : Str))=false)
  (hc:env.cells.lookup x=some c) (hv:mem c=some (.cell (some v))) (h:Q v loc mem):TrV W A env outer (eval (.Name x pos) env) loc mem Q E:=fun R F s S=>by
 obtain⟨o,ho,r⟩:=S.memOk c _ hv
 cases r.view with
 | cell k r z=>
  obtain⟨y,rfl,q⟩:=r _ rfl
  exact wpAny_Name (wpAny_loadName_free hk hl hc ⟨o,ho,k⟩ (aE.mk q S h) hn) hd
theorem qC{x:Str}{pos:Pos}{u:Value}{v:V}{Q:V->Loc->Mem->Prop}(hg:env.globals=mainGlobals)(hk:env.scope.kind = .function)(hl:env.kindOf x=some .globalImplicit)(hd:(x==("__debug__" : Str))=false)
  (e:nsIn W.K mainGlobals x=some (some u)) (r:∀ F,(∀ a o,W.hb.get? a=some o->F a o)->VR W F v u) (h:Q v loc mem):TrV W A env outer (eval (.Name x pos) env) loc mem Q E:=fun R F s S=>by
 obtain⟨m,hn,l⟩:=S.ns
 exact nameG_K (S.fr hn) W.KIn W.top e (aE.mk (r F S.base) S h) hg hk hl hd
theorem e_topG{x:Str}{pos:Pos}{u:Value}{Q:V->Loc->Mem->Prop}(hg:env.globals=mainGlobals)(hk:env.scope.kind = .function)(hl:env.kindOf x=some .globalImplicit)(hd:(x==("__debug__" : Str))=false)
  (e:nsIn W.K mainGlobals x=some (some u)) (h:Q (.glob u) loc mem):TrV W A env outer (eval (.Name x pos) env) loc mem Q E:=qC hg hk hl hd e (fun _ _=>.glob u) h
theorem e_boot{x:Str}{pos:Pos}{u:Value}{Q:V->Loc->Mem->Prop}(hg:env.globals=mainGlobals)(hb:env.builtins=builtinsNs)(hk:env.scope.kind = .function)(hl:env.kindOf x=some .globalImplicit)(hd:(x==("__debug__" : Str))=false)
  (e:nsIn W.K mainGlobals x=some none) (hv:bootBuiltins x=some u) (hn:x≠"__name__") (h:Q (.glob u) loc mem):TrV W A env outer (eval (.Name x pos) env) loc mem Q E:=fun R F s S=>by
 obtain⟨m,hns,l⟩:=S.ns
 have T:=W.top
 have Fr':=S.fr hns
 exact Name_function_global hk hl (loadGlobal_builtin (env:=env) (by rw[hg];exact T.g.keeps Fr'.keep) (mg_none_of W.KIn T.g e) (by rw[hb];exact T.b.keeps Fr'.keep) ((T.builtins x hn).trans hv) (aE.mk (.glob u) S h)) hd
theorem cQ{l r:PySem.Expr}{op:Operator}{pos:Pos}{Q:V->Loc->Mem->Prop}
  (h:TrV W A env outer (eval l env) loc mem (fun a l1 m1=>TrV W A env outer (eval r env) l1 m1 (fun b l2 m2=>Op W A env outer (VR W) (fun|[x,y]=>binaryOp op x y|_=>pure .none) [a,b] l2 m2 Q E) E) E) :
  TrV W A env outer (eval (.BinOp l op r pos) env) loc mem Q E:=fun R F s S=>
 wpAny_BinOp (aM (i:=.refl _) (RW:=VR W) (Q:=Q) (h R F s S) fun v' s' F1 x l1 m1 i1 r1 S1 h1=>aM (i:=‹_›) (RW:=VR W) (Q:=Q) (h1 R F1 s' S1) fun u' s2 F2 y l2 m2 i2 r2 S2 h2=>
  wpAny_mono (h2 R F2 s2 [v',u'] S2 (.cons (r1.mono i2) (.cons r2 .nil))) (fun _ _ p=>p.weaken (i1.trans i2)) fun _ _ e=>E.up (i1.trans i2) e)
theorem jd{l r:PySem.Expr}{op:CmpOp}{pos:Pos}{Q:V->Loc->Mem->Prop}(hm:behindInMarks op r=false)
  (h:TrV W A env outer (eval l env) loc mem (fun a l1 m1=>TrV W A env outer (eval r env) l1 m1 (fun b l2 m2=>Op W A env outer (VR W) (fun|[x,y]=>compareOp op x y|_=>pure .none) [a,b] l2 m2 Q E) E) E) :
  TrV W A env outer (eval (.Compare l [op] [r] pos) env) loc mem Q E:=fun R F s S=>
 wpAny_Compare1 (hm:=hm) (aM (i:=.refl _) (RW:=VR W) (Q:=Q) (h R F s S) fun v' s' F1 x l1 m1 i1 r1 S1 h1=>aM (i:=‹_›) (RW:=VR W) (Q:=Q) (h1 R F1 s' S1) fun u' s2 F2 y l2 m2 i2 r2 S2 h2=>
  wpAny_mono (h2 R F2 s2 [v',u'] S2 (.cons (r1.mono i2) (.cons r2 .nil))) (fun _ _ p=>p.weaken (i1.trans i2)) fun _ _ e=>E.up (i1.trans i2) e)
theorem df{l r:PySem.Expr}{op:CmpOp}{pos:Pos}{whole:Sem Value}{Q:Bool->Loc->Mem->Prop}(hm:behindInMarks op r=false)
  (h:TrV W A env outer (eval l env) loc mem (fun a l1 m1=>TrV W A env outer (eval r env) l1 m1 (fun b l2 m2=>Op W A env outer (VR W) (fun|[x,y]=>compareOp op x y|_=>pure .none) [a,b] l2 m2 (fun c l3 m3=>
   Op W A env outer (fun _ (b c:Bool)=>c=b) (fun|[x]=>truthy x|_=>pure false) [c] l3 m3 Q E) E) E) E) :
  TrB W A env outer (isTrue (.Compare l [op] [r] pos) env whole) loc mem Q E:=fun R F s S=>
 wpAny_isTrue_Compare1 (hm:=hm) (aM (i:=.refl _) (RW:=VR W) (Q:=fun _ _ _=>True) (h R F s S) fun v' s' F1 x l1 m1 i1 r1 S1 h1=>aM (i:=‹_›) (RW:=VR W) (Q:=fun _ _ _=>True) (h1 R F1 s' S1) fun u' s2 F2 y l2 m2 i2 r2 S2 h2=>
  aM (i:=.trans ‹_› ‹_›) (RW:=VR W) (Q:=fun _ _ _=>True) (h2 R F2 s2 [v',u'] S2 (.cons (r1.mono i2) (.cons r2 .nil))) fun c' s3 F3 c l3 m3 i3 r3 S3 h3=>
   wpAny_mono (h3 R F3 s3 [c'] S3 (.cons r3 .nil)) (fun _ _ p=>p.weaken ((i1.trans i2).trans i3)) fun _ _ e=>E.up ((i1.trans i2).trans i3) e)
theorem cO{x:PySem.Expr}{pos:Pos}{whole:Sem Value}{Q:Bool->Loc->Mem->Prop}(h:TrB W A env outer (isTrue x env (eval x env)) loc mem (fun b l m=>Q (!b) l m) E) :
  TrB W A env outer (isTrue (.UnaryOp .Not x pos) env whole) loc mem Q E:=fun R F s S=>
 wpAny_isTrue_Not (aM (i:=.refl _) (RW:=VR W) (Q:=fun _ _ _=>True) (h R F s S) fun v' s' F1 b l1 m1 i1 r1 S1 h1=>⟨F1,!b,l1,m1,i1,by rw[r1],S1,h1⟩)
theorem cI{e:PySem.Expr}{whole:Sem Value}{Q:Bool->Loc->Mem->Prop}(he:isTrue e env whole=(do let v<-whole;standAt e.pos;holding [v] (truthy v)))
  (h:TrV W A env outer whole loc mem (fun c l m=>Op W A env outer (fun _ (b c:Bool)=>c=b) (fun|[x]=>truthy x|_=>pure false) [c] l m Q E) E):TrB W A env outer (isTrue e env whole) loc mem Q E:=fun R F s S=>
 wpAny_isTrue_value (he:=he) (aM (i:=.refl _) (RW:=VR W) (Q:=fun _ _ _=>True) (h R F s S) fun v' s' F1 b l1 m1 i1 r1 S1 h1=>wpAny_mono (h1 R F1 s' [v'] S1 (.cons r1 .nil)) (fun _ _ p=>p.weaken i1) fun _ _ e=>E.up i1 e)
theorem c9{op:BoolOp}{values:List PySem.Expr}{pos:Pos}{whole:Sem Value}{Q:Bool->Loc->Mem->Prop}(h:TrB W A env outer (allTrue op values env) loc mem Q E) :
  TrB W A env outer (isTrue (.BoolOp op values pos) env whole) loc mem Q E:=fun R F s S=>wpAny_isTrue_BoolOp (h R F s S)
theorem cn{Q:Bool->Loc->Mem->Prop}(h:Q true loc mem):TrB W A env outer (allTrue .And [] env) loc mem Q E:=fun R F s S=>wpAny_allTrue_And_nil (aE.mk rfl S h)
theorem fn{Q:Bool->Loc->Mem->Prop}(h:Q false loc mem):TrB W A env outer (allTrue .Or [] env) loc mem Q E:=fun R F s S=>wpAny_allTrue_Or_nil (aE.mk rfl S h)
theorem aQ{x:PySem.Expr}{rest:List PySem.Expr}{Q:Bool->Loc->Mem->Prop}
  (h:TrB W A env outer (isTrue x env (eval x env)) loc mem (fun b l m=>(b=true->TrB W A env outer (allTrue .And rest env) l m Q E)/\(b=false->Q false l m)) E) :
  TrB W A env outer (allTrue .And (x::rest) env) loc mem Q E:=fun R F s S=>
 wpAny_allTrue_And_cons (aM (i:=.refl _) (RW:=VR W) (Q:=fun _ _ _=>True) (h R F s S) fun v' s' F1 b l1 m1 i1 r1 S1 h1=>by
  subst r1
  cases v' with
  | true=>exact wpAny_mono (h1.1 rfl R F1 s' S1) (fun _ _ p=>p.weaken i1) fun _ _ e=>E.up i1 e
  | false=>exact⟨F1,false,l1,m1,i1,rfl,S1,h1.2 rfl⟩)
theorem b0{x:PySem.Expr}{rest:List PySem.Expr}{Q:Bool->Loc->Mem->Prop}
  (h:TrB W A env outer (isTrue x env (eval x env)) loc mem (fun b l m=>(b=false->TrB W A env outer (allTrue .Or rest env) l m Q E)/\(b=true->Q true l m)) E) :
  TrB W A env outer (allTrue .Or (x::rest) env) loc mem Q E:=fun R F s S=>
 wpAny_allTrue_Or_cons (aM (i:=.refl _) (RW:=VR W) (Q:=fun _ _ _=>True) (h R F s S) fun v' s' F1 b l1 m1 i1 r1 S1 h1=>by
  subst r1
  cases v' with
  | false=>exact wpAny_mono (h1.1 rfl R F1 s' S1) (fun _ _ p=>p.weaken i1) fun _ _ e=>E.up i1 e
  | true=>exact⟨F1,true,l1,m1,i1,rfl,S1,h1.2 rfl⟩)
theorem fU{test body orelse:PySem.Expr}{pos:Pos}{Q:V->Loc->Mem->Prop}
  (h:TrB W A env outer (isTrue test env (eval test env)) loc mem (fun b l m=>(b=true->TrV W A env outer (eval body env) l m Q E)/\(b=false->TrV W A env outer (eval orelse env) l m Q E)) E) :
  TrV W A env outer (eval (.IfExp test body orelse pos) env) loc mem Q E:=fun R F s S=>
 wpAny_IfExp (aM (i:=.refl _) (RW:=VR W) (Q:=fun _ _ _=>True) (h R F s S) fun v' s' F1 b l1 m1 i1 r1 S1 h1=>by
  subst r1
  cases v' with
  | true=>rw[if_pos rfl];exact wpAny_mono (h1.1 rfl R F1 s' S1) (fun _ _ p=>p.weaken i1) fun _ _ e=>E.up i1 e
  | false=>rw[if_neg Bool.false_ne_true];exact wpAny_mono (h1.2 rfl R F1 s' S1) (fun _ _ p=>p.weaken i1) fun _ _ e=>E.up i1 e)
theorem pd{x y:PySem.Expr}{pos:Pos}{Q:V->Loc->Mem->Prop}
  (h:TrV W A env outer (eval x env) loc mem (fun v l m=>Op W A env outer (fun _ (b c:Bool)=>c=b) (fun|[x]=>truthy x|_=>pure false) [v] l m (fun b l m=>(b=true->TrV W A env outer (eval y env) l m Q E)/\(b=false->Q v l m)) E) E) :
  TrV W A env outer (eval (.BoolOp .And [x,y] pos) env) loc mem Q E:=fun R F s S=>
 wpAny_And2 (aM (i:=.refl _) (RW:=VR W) (Q:=fun _ _ _=>True) (h R F s S) fun v' s' F1 v l1 m1 i1 r1 S1 h1=>
  aM (i:=‹_›) (RW:=VR W) (Q:=fun _ _ _=>True) (h1 R F1 s' [v'] S1 (.cons r1 .nil)) fun b' s2 F2 b l2 m2 i2 r2 S2 h2=>by
   subst r2
   cases b' with
   | true=>rw[if_pos rfl];exact wpAny_mono (h2.1 rfl R F2 s2 S2) (fun _ _ p=>p.weaken (i1.trans i2)) fun _ _ e=>E.up (i1.trans i2) e
   | false=>rw[if_neg Bool.false_ne_true];exact⟨F2,v,l2,m2,i1.trans i2,r1.mono i2,S2,h2.2 rfl⟩)
theorem nM{x y:PySem.Expr}{pos:Pos}{Q:V->Loc->Mem->Prop}
  (h:TrV W A env outer (eval x env) loc mem (fun v l m=>Op W A env outer (fun _ (b c:Bool)=>c=b) (fun|[x]=>truthy x|_=>pure false) [v] l m (fun b l m=>(b=false->TrV W A env outer (eval y env) l m Q E)/\(b=true->Q v l m)) E) E) :
  TrV W A env outer (eval (.BoolOp .Or [x,y] pos) env) loc mem Q E:=fun R F s S=>
 wpAny_Or2 (aM (i:=.refl _) (RW:=VR W) (Q:=fun _ _ _=>True) (h R F s S) fun v' s' F1 v l1 m1 i1 r1 S1 h1=>
  aM (i:=‹_›) (RW:=VR W) (Q:=fun _ _ _=>True) (h1 R F1 s' [v'] S1 (.cons r1 .nil)) fun b' s2 F2 b l2 m2 i2 r2 S2 h2=>by
   subst r2
   cases b' with
   | false=>rw[if_neg Bool.false_ne_true];exact wpAny_mono (h2.1 rfl R F2 s2 S2) (fun _ _ p=>p.weaken (i1.trans i2)) fun _ _ e=>E.up (i1.trans i2) e
   | true=>rw[if_pos rfl];exact⟨F2,v,l2,m2,i1.trans i2,r1.mono i2,S2,h2.2 rfl⟩)
theorem mm{op:UnaryOp}{x:PySem.Expr}{pos:Pos}{Q:V->Loc->Mem->Prop}(h:TrV W A env outer (eval x env) loc mem (fun v l m=>Op W A env outer (VR W) (fun|[x]=>unaryOp op x|_=>pure .none) [v] l m Q E) E) :
  TrV W A env outer (eval (.UnaryOp op x pos) env) loc mem Q E:=fun R F s S=>
 wpAny_UnaryOp (aM (i:=.refl _) (RW:=VR W) (Q:=fun _ _ _=>True) (h R F s S) fun v' s' F1 v l1 m1 i1 r1 S1 h1=>wpAny_mono (h1 R F1 s' [v'] S1 (.cons r1 .nil)) (fun _ _ p=>p.weaken i1) fun _ _ e=>E.up i1 e)
theorem aj{b:Bool}{Q:Bool->Loc->Mem->Prop}(h:Q b loc mem):Op W A env outer (fun _ (b c:Bool)=>c=b) (fun|[x]=>truthy x|_=>pure false) [.bool b] loc mem Q E:=fun R F s vs S r=>by
 obtain⟨_,_,r1,r2,rfl⟩:=r.isCons
 obtain rfl:=r2.isNil;obtain rfl:=r1.isBool;refine wpAny_truthy_bool ?_;exact aE.mk rfl S h
theorem aI{pos:Pos}{Q:List V->Loc->Mem->Prop}(h:Q [] loc mem):TrL W A env outer (spliced (backTo pos (starEach [] env))) loc mem Q E:=fun R F s S=>wpAny_items_nil (aE.mk .nil S h)
theorem aB{pos:Pos}{e:PySem.Expr}{rest:List PySem.Expr}{Q:List V->Loc->Mem->Prop}(he:starEach (e::rest) env=(false,eval e env)::starEach rest env)
  (h:TrV W A env outer (eval e env) loc mem (fun x l m=>TrL W A env outer (spliced (backTo pos (starEach rest env))) l m (fun xs l m=>Q (x::xs) l m) E) E) :
  TrL W A env outer (spliced (backTo pos (starEach (e::rest) env))) loc mem Q E:=fun R F s S=>
 wpAny_items_cons (he:=he) (aM (i:=.refl _) (RW:=VR W) (Q:=fun _ _ _=>True) (h R F s S) fun v' s' F1 v l1 m1 i1 r1 S1 h1=>
  aM (i:=‹_›) (RW:=VR W) (Q:=fun _ _ _=>True) (h1 R F1 s' S1) fun vs s2 F2 xs l2 m2 i2 r2 S2 h2=>⟨F2,v::xs,l2,m2,i1.trans i2,.cons (r1.mono i2) r2,S2,h2⟩)
end
section
variable {W:Wd}{A:Around}{env:Env}{outer:ay}{loc:Loc}{mem R:Mem}{E:Ex W}{F:Frz}{s:Shared}
noncomputable def Cont(W:Wd)(A:Around)(env:Env)(outer:ay)(rest:List Stmt)(Q:Fl->Loc->Mem->Prop)(E:Ex W):Fl->Loc->Mem->Prop
 | .next,l,m=>TrS W A env outer (execs rest env) l m Q E
 | f,l,m=>Q f l m
theorem ak{Q:Fl->Loc->Mem->Prop}(h:Q .next loc mem):TrS W A env outer (execs [] env) loc mem Q E:=fun R F s S=>wpAny_execs_nil (aE.mk .next S h)
theorem ac{st:Stmt}{rest:List Stmt}{Q:Fl->Loc->Mem->Prop}(h:TrS W A env outer (exec st env) loc mem (Cont W A env outer rest Q E) E) :
  TrS W A env outer (execs (st::rest) env) loc mem Q E:=fun R F s S=>
 wpAny_execs_cons (aM (i:=.refl _) (RW:=VR W) (Q:=fun _ _ _=>True) (h R F s S) fun v' s' F1 f l1 m1 i1 r1 S1 h1=>by
  cases r1 with
  | next=>exact wpAny_mono (h1 R F1 s' S1) (fun _ _ p=>p.weaken i1) fun _ _ e=>E.up i1 e
  | brk=>exact⟨F1,.brk,l1,m1,i1,.brk,S1,h1⟩
  | cont=>exact⟨F1,.cont,l1,m1,i1,.cont,S1,h1⟩
  | ret r=>exact⟨F1,.ret _,l1,m1,i1,.ret r,S1,h1⟩)
theorem s_pass{pos:Pos}{Q:Fl->Loc->Mem->Prop}(h:Q .next loc mem):TrS W A env outer (exec (.Pass pos) env) loc mem Q E:=fun R F s S=>wpAny_Pass (aE.mk .next S h)
theorem iu{pos:Pos}{Q:Fl->Loc->Mem->Prop}(h:Q .brk loc mem):TrS W A env outer (exec (.Break pos) env) loc mem Q E:=fun R F s S=>wpAny_Break (aE.mk .brk S h)
theorem eJ{pos:Pos}{Q:Fl->Loc->Mem->Prop}(h:Q .cont loc mem):TrS W A env outer (exec (.Continue pos) env) loc mem Q E:=fun R F s S=>wpAny_Continue (aE.mk .cont S h)
theorem c6{e:PySem.Expr}{pos:Pos}{Q:Fl->Loc->Mem->Prop}(h:TrV W A env outer (eval e env) loc mem (fun v=>Q (.ret v)) E) :
  TrS W A env outer (exec (.Return (some e) pos) env) loc mem Q E:=fun R F s S=>
 wpAny_Return_some (aM (i:=.refl _) (RW:=VR W) (Q:=fun _ _ _=>True) (h R F s S) fun v' s' F1 f l1 m1 i1 r1 S1 h1=>⟨F1,.ret f,l1,m1,i1,.ret r1,S1,h1⟩)
theorem bP{e:PySem.Expr}{pos:Pos}{Q:Fl->Loc->Mem->Prop}(hi:interactive env=false)(hs:swapsWith e none pos.line env=pure false)
  (h:TrV W A env outer (eval e env) loc mem (fun _=>Q .next) E):TrS W A env outer (exec (.Expr e pos) env) loc mem Q E:=fun R F s S=>
 wpAny_Expr_any (hi:=hi) (hs:=hs) (aM (i:=.refl _) (RW:=VR W) (Q:=fun _ _ _=>True) (h R F s S) fun v' s' F1 f l1 m1 i1 r1 S1 h1=>⟨F1,.next,l1,m1,i1,.next,S1,h1⟩)
theorem bz{test:PySem.Expr}{body orelse:List Stmt}{pos:Pos}{Q:Fl->Loc->Mem->Prop}
  (h:TrB W A env outer (isTrue test env (eval test env)) loc mem (fun b l m=>(b=true->TrS W A env outer (execs body env) l m Q E)/\(b=false->TrS W A env outer (execs orelse env) l m Q E)) E) :
  TrS W A env outer (exec (.If test body orelse pos) env) loc mem Q E:=fun R F s S=>
 wpAny_If (aM (i:=.refl _) (RW:=VR W) (Q:=fun _ _ _=>True) (h R F s S) fun v' s' F1 b l1 m1 i1 r1 S1 h1=>by
  subst r1
  cases v' with
  | true=>rw[if_pos rfl];exact wpAny_mono (h1.1 rfl R F1 s' S1) (fun _ _ p=>p.weaken i1) fun _ _ e=>E.up i1 e
  | false=>rw[if_neg Bool.false_ne_true];exact wpAny_mono (h1.2 rfl R F1 s' S1) (fun _ _ p=>p.weaken i1) fun _ _ e=>E.up i1 e)
theorem dL{x:Str}{v:V}{Q:Loc->Mem->Prop}(hl:env.kindOf x=some .local)(hp:(env.scope.kind == .class || (env.scope.kind == .module&&env.locals != env.globals))=false)(h:Q (eY x v loc) mem) :
  Op W A env outer (fun _ (_ _:Unit)=>True) (fun|[y]=>storeName env x y|_=>pure ()) [v] loc mem (fun _=>Q) E:=fun R F s vs S r=>by
 obtain⟨_,_,r1,r2,rfl⟩:=r.isCons
 obtain rfl:=r2.isNil
 obtain⟨m,hn,l⟩:=S.ns
 exact wpAny_storeName_local hl hn (fun h' hn' hs=>aE.mk (x:=()) trivial (S.store r1 l hn' hs) h) hp
theorem oS{c:Addr}{u:Option V}{v:V}{o:Obj}{v':Value}(r:VR W F v v')(hd:o.data = .cell (some v')):OR W F (.cell (some v)) o:=
 .cell hd (fun x e=>by cases e;exact⟨v',rfl,r⟩) (fun e=>by cases e)
theorem iz{x:Str}{c:Addr}{u:Option V}{v:V}{Q:Loc->Mem->Prop}(hk:env.scope.kind = .function)(hl:env.kindOf x=some .cell)(hc:env.cells.lookup x=some c)(hm:mem c=some (.cell u))
  (h:Q loc (ap mem c (.cell (some v)))) :
  Op W A env outer (fun _ (_ _:Unit)=>True) (fun|[y]=>storeName env x y|_=>pure ()) [v] loc mem (fun _=>Q) E:=fun R F s vs S r=>by
 obtain⟨_,_,r1,r2,rfl⟩:=r.isCons
 obtain rfl:=r2.isNil
 obtain⟨o,ho,ro⟩:=S.memOk c _ hm
 cases ro.view with
 | cell k _ _=>
  refine wpAny_storeName_cell hk hl hc ⟨o,ho,k⟩ fun h' hv hs=>?_
  obtain⟨o',ho',hd'⟩:=hv
  exact aE.mk (x:=()) trivial (S.upd (t:=s.toks) (d:=s.drawn) hm (fun b ob hb e=>(hs.2 b hb).trans e) ho' (oS (c:=c) (u:=u) r1 hd')) h
theorem c7{x:Str}{pos' pos:Pos}{value:PySem.Expr}{Q:Fl->Loc->Mem->Prop}(hs:swapsWith value (some (.Name x pos')) pos.line env=pure false)
  (h:TrV W A env outer (eval value env) loc mem (fun v l m=>Op W A env outer (fun _ (_ _:Unit)=>True) (fun|[y]=>storeName env x y|_=>pure ()) [v] l m (fun _=>Q .next) E) E) :
  TrS W A env outer (exec (.Assign [.Name x pos'] value pos) env) loc mem Q E:=fun R F s S=>
 wpAny_Assign_Name (hs:=hs) (aM (i:=.refl _) (RW:=VR W) (Q:=fun _ _ _=>True) (h R F s S) fun v' s' F1 f l1 m1 i1 r1 S1 h1=>
  aM (i:=‹_›) (RW:=VR W) (Q:=fun _ _ _=>True) (h1 R F1 s' [v'] S1 (.cons r1 .nil)) fun _ s2 F2 _ l2 m2 i2 _ S2 h2=>⟨F2,.next,l2,m2,i1.trans i2,.next,S2,h2⟩)
theorem aO{o:PySem.Expr}{attr:Str}{pos' pos:Pos}{value:PySem.Expr}{Q:Fl->Loc->Mem->Prop}(hs:swapsWith value (some (.Attribute o attr pos')) pos.line env=pure false)
  (h:TrV W A env outer (eval value env) loc mem (fun v l m=>TrV W A env outer (eval o env) l m (fun ov l m=>Op W A env outer (fun _ (_ _:Unit)=>True) (fun|[x,y]=>setAttr x attr y|_=>pure ()) [ov,v] l m (fun _=>Q .next) E) E) E) :
  TrS W A env outer (exec (.Assign [.Attribute o attr pos'] value pos) env) loc mem Q E:=fun R F s S=>
 plainObj_wpAny_Assign_Attribute (hs:=hs) (aM (i:=.refl _) (RW:=VR W) (Q:=fun _ _ _=>True) (h R F s S) fun v' s' F1 f l1 m1 i1 r1 S1 h1=>
  aM (i:=‹_›) (RW:=VR W) (Q:=fun _ _ _=>True) (h1 R F1 s' S1) fun u' s2 F2 g l2 m2 i2 r2 S2 h2=>
   aM (i:=.trans ‹_› ‹_›) (RW:=VR W) (Q:=fun _ _ _=>True) (h2 R F2 s2 [u',v'] S2 (.cons r2 (.cons (r1.mono i2) .nil))) fun _ s3 F3 _ l3 m3 i3 _ S3 h3=>⟨F3,.next,l3,m3,(i1.trans i2).trans i3,.next,S3,h3⟩)
theorem bE{o i:PySem.Expr}{pos' pos:Pos}{value:PySem.Expr}{Q:Fl->Loc->Mem->Prop}(hs:swapsWith value (some (.Subscript o i pos')) pos.line env=pure false)
  (h:TrV W A env outer (eval value env) loc mem (fun v l m=>TrV W A env outer (eval o env) l m (fun ov l m=>TrV W A env outer (eval i env) l m (fun iv l m=>
   Op W A env outer (fun _ (_ _:Unit)=>True) (fun|[x,y,z]=>setItem x y z|_=>pure ()) [ov,iv,v] l m (fun _=>Q .next) E) E) E) E) :
  TrS W A env outer (exec (.Assign [.Subscript o i pos'] value pos) env) loc mem Q E:=fun R F s S=>
 wpAny_Assign_Subscript (hs:=hs) (aM (i:=.refl _) (RW:=VR W) (Q:=fun _ _ _=>True) (h R F s S) fun v' s' F1 f l1 m1 i1 r1 S1 h1=>
  aM (i:=‹_›) (RW:=VR W) (Q:=fun _ _ _=>True) (h1 R F1 s' S1) fun u' s2 F2 g l2 m2 i2 r2 S2 h2=>
   aM (i:=.trans ‹_› ‹_›) (RW:=VR W) (Q:=fun _ _ _=>True) (h2 R F2 s2 S2) fun w' s3 F3 k l3 m3 i3 r3 S3 h3=>
    aM (i:=.trans (.trans ‹_› ‹_›) ‹_›) (RW:=VR W) (Q:=fun _ _ _=>True) (h3 R F3 s3 [u',w',v'] S3 (.cons (r2.mono i3) (.cons r3 (.cons (r1.mono (i2.trans i3)) .nil)))) fun _ s4 F4 _ l4 m4 i4 _ S4 h4=>
     ⟨F4,.next,l4,m4,((i1.trans i2).trans i3).trans i4,.next,S4,h4⟩)
theorem s_aug{x:Str}{pos' pos:Pos}{op:Operator}{value:PySem.Expr}{v:V}{Q:Fl->Loc->Mem->Prop}(hk:env.scope.kind = .function)(hl:env.kindOf x=some .local)(hv:loc.lookup x=some v)
  (h:TrV W A env outer (eval value env) loc mem (fun u l m=>Op W A env outer (VR W) (fun|[a,b]=>inplaceOp op a b|_=>pure .none) [v,u] l m (fun r l m=>Op W A env outer (fun _ (_ _:Unit)=>True) (fun|[y]=>storeName env x y|_=>pure ()) [r] l m (fun _=>Q .next) E) E) E) :
  TrS W A env outer (exec (.AugAssign (.Name x pos') op value pos) env) loc mem Q E:=fun R F s S=>by
 obtain⟨m,hn,l⟩:=S.ns
 obtain⟨v',e,r⟩:=l x v hv
 refine wpAny_AugAssign_Name (wpAny_loadName_local hk hl hn e ?_)
 exact aM (i:=.refl _) (RW:=VR W) (Q:=fun _ _ _=>True) (h R F s S) fun u' s2 F2 g l2 m2 i2 r2 S2 h2=>
   aM (i:=‹_›) (RW:=VR W) (Q:=fun _ _ _=>True) (h2 R F2 s2 [v',u'] S2 (.cons (r.mono i2) (.cons r2 .nil))) fun w' s3 F3 k l3 m3 i3 r3 S3 h3=>
    aM (i:=.trans ‹_› ‹_›) (RW:=VR W) (Q:=fun _ _ _=>True) (h3 R F3 s3 [w'] S3 (.cons r3 .nil)) fun _ s4 F4 _ l4 m4 i4 _ S4 h4=>
     ⟨F4,.next,l4,m4,(i2.trans i3).trans i4,.next,S4,h4⟩
noncomputable def di(W:Wd)(A:Around)(env:Env)(E:Ex W):Ex W where
 p R F:=notedBy (model W.prog W.w) A env fun e s'=>cameBackBy (model W.prog W.w) A env (E.p R F) e s'
 mono l i h:=wpAny_mono h (fun _ _ q=>wpAny_mono q (fun _ _ z=>E.mono l i z) fun _ _ z=>E.mono l i z) fun _ _ z=>wpAny_mono z (fun _ _ z=>E.mono l i z) fun _ _ z=>E.mono l i z
noncomputable abbrev WhlQ(I:Nat->Loc->Mem->Prop)(k:Nat)(Q:Fl->Loc->Mem->Prop):Fl->Loc->Mem->Prop
 | .next,l,m=>∃ k',k'<k/\I k' l m
 | .cont,l,m=>∃ k',k'<k/\I k' l m
 | .brk,l,m=>Q .next l m
 | .ret v,l,m=>Q (.ret v) l m
noncomputable abbrev ForQ(I:Nat->Nat->Loc->Mem->Prop)(k i:Nat)(Q:Fl->Loc->Mem->Prop):Fl->Loc->Mem->Prop
 | .next,l,m=>∃ k',k'<k/\I k' i l m
 | .cont,l,m=>∃ k',k'<k/\I k' i l m
 | .brk,l,m=>Q .next l m
 | .ret v,l,m=>Q (.ret v) l m
theorem aC{α β:Type}{RV:Frz->β->α->Prop}{t:Sem α}{Q:β->Loc->Mem->Prop}(h:let q:=Q;let e:=E;Tr W A env outer RV t loc mem q e):Tr W A env outer RV t loc mem Q E:=h
inductive WhlI(W:Wd)(env:Env)(outer:ay)(F:Frz)(R:Mem)(I:Nat->Loc->Mem->Prop)(n:Nat)(s:Shared):Prop
 | intro (F':Frz) (l:Loc) (m:Mem) (h1_:aV F F') (h2_:Sim W env outer l m R F' s) (h3_:I n l m)
theorem bk{p q:Prop}(h:p):(true=true->p)/\(true=false->q):=⟨fun _=>h,fun e=>(nomatch e)⟩
theorem aT{p q:Prop}(h:q):(false=true->p)/\(false=false->q):=⟨fun e=>(nomatch e),fun _=>h⟩
theorem bU{sts:List Stmt}{Q:Fl->Loc->Mem->Prop}(h:let a:=A;let v:=env;let o:=outer;let q:=Q;let e:=E;TrS W a v o (execs sts v) loc mem q e):TrS W A env outer (execs sts env) loc mem Q E:=h
theorem ki{test:PySem.Expr}{body orelse:List Stmt}{pos:Pos}{Q:Fl->Loc->Mem->Prop}(I:Nat->Loc->Mem->Prop)
  (turn:∀ k l m,I k l m->TrB W A env outer (isTrue test env (eval test env)) l m (fun b l m=>
   (b=true->TrS W A env outer (execs body env) l m (WhlQ I k Q) (di W A env E))/\
   (b=false->TrS W A env outer (execs orelse env) l m Q (di W A env E))) (di W A env E))
  (k:Nat) (h:I k loc mem):TrS W A env outer (exec (.While test body orelse pos) env) loc mem Q E:=fun R F s S=>by
 refine wpAny_While (codeAny_whileLoop (WhlI W env outer F R I) (fun n s hI=>?_) k ⟨F,loc,mem,aV.refl F,S,h⟩)
 obtain⟨F',l,m,i,S',hI⟩:=hI
 refine cG (RW:=VR W) (Q:=fun _ _ _=>True) (turn n l m hI R F' s S') (fun _ _ z=>(di W A env E).mono (gG.refl R) i z) fun b' s1 F1 b l1 m1 i1 r1 S1 h1=>?_
 subst r1
 cases b' with
 | true=>
  rw[if_pos rfl]
  refine cG (RW:=VR W) (Q:=fun _ _ _=>True) (h1.1 rfl R F1 s1 S1) (fun _ _ z=>(di W A env E).mono (gG.refl R) (i.trans i1) z) fun f' s2 F2 f l2 m2 i2 r2 S2 h2=>?_
  cases r2 with
  | next=>obtain⟨k',hk,q⟩:=h2;exact⟨k',hk,F2,l2,m2,(i.trans i1).trans i2,S2,q⟩
  | cont=>obtain⟨k',hk,q⟩:=h2;exact⟨k',hk,F2,l2,m2,(i.trans i1).trans i2,S2,q⟩
  | brk=>exact⟨F2,.next,l2,m2,(i.trans i1).trans i2,.next,S2,h2⟩
  | ret r=>exact⟨F2,.ret _,l2,m2,(i.trans i1).trans i2,.ret r,S2,h2⟩
 | false=>
  rw[if_neg Bool.false_ne_true]
  exact cG (RW:=VR W) (Q:=fun _ _ _=>True) (h1.2 rfl R F1 s1 S1) (fun _ _ z=>(di W A env E).mono (gG.refl R) (i.trans i1) z) fun f' s2 F2 f l2 m2 i2 r2 S2 h2=>⟨F2,f,l2,m2,(i.trans i1).trans i2,r2,S2,h2⟩
inductive FedI(W:Wd)(env:Env)(outer:ay)(loc:Loc)(mem R₀:Mem)(F:Frz)(st:Nat->Mem->Mem->Prop)(i:Nat)(v:V)(v':Value)(s:Shared):Prop
 | intro (F':Frz) (R':Mem) (h1_:aV F F') (h2_:VR W F' v v') (h3_:st i R₀ R') (h4_:Sim W env outer loc mem R' F' s)
structure Feed(W:Wd)(A:Around)(F₀:Frz)(target:PySem.Expr)(it:Value)(item:Nat->Mem->Option (Option V))(st:Nat->Mem->Mem->Prop):Prop where
 next:∀ {i:Nat} {env:Env} {outer:ay} {loc:Loc} {mem R₀ R:Mem} {F:Frz} {s:Shared} {v:V} (E:Value->Shared->Prop),aV F₀ F->st i R₀ R->item i mem=some (some v)->Sim W env outer loc mem R F s->
  wpAny (model W.prog W.w) A (pyNext it) (fun r s1=>∃ v',r=some v'/\wpAny (model W.prog W.w) A (letOwnedTupleGo target it v') (fun _ s2=>FedI W env outer loc mem R₀ F st (i+1) v v' s2) E s1) E s
 done:∀ {i:Nat} {env:Env} {outer:ay} {loc:Loc} {mem R₀ R:Mem} {F:Frz} {s:Shared} (E:Value->Shared->Prop),aV F₀ F->st i R₀ R->item i mem=some none->Sim W env outer loc mem R F s->
  wpAny (model W.prog W.w) A (pyNext it) (fun r s1=>r=none/\Sim W env outer loc mem R₀ F s1) E s
 self:∀ {i:Nat} {env:Env} {outer:ay} {loc:Loc} {mem R₀ R:Mem} {F:Frz} {s:Shared} (E:Value->Shared->Prop) (Q:Value->Shared->Prop),st i R₀ R->Sim W env outer loc mem R F s->Q it s->wpAny (model W.prog W.w) A (pyIter it) Q E s
 frame:∀ {i:Nat} {R₀ R:Mem} {D:Addr} (x:ax),st i R₀ R->R D=R₀ D->st i (ap R₀ D x) (ap R D x)
 same:∀ {i:Nat} {R₀ R:Mem} {D:Addr},st i R₀ R->R₀ D≠none->R D=R₀ D
 off:∀ {i:Nat} {env:Env} {outer:ay} {loc:Loc} {mem R₀ R:Mem} {F:Frz} {s:Shared},st i R₀ R->Sim W env outer loc mem R F s->Sim W env outer loc mem R₀ F s
noncomputable def Itr(W:Wd)(A:Around)(target:PySem.Expr)(x:V)(mem mem₀:Mem)(item:Nat->Mem->Option (Option V)):Prop:=
 ∀ {env:Env} {outer:ay} {loc:Loc} {R:Mem} {F:Frz} {s:Shared} {x':Value} (E:Value->Shared->Prop),Sim W env outer loc mem R F s->VR W F x x'->
  wpAny (model W.prog W.w) A (pyIter x') (fun it s'=>∃ st R',Feed W A F target it item st/\st 0 R R'/\Sim W env outer loc mem₀ R' F s') E s
noncomputable def pA(W:Wd)(A:Around)(env:Env)(outer:ay)(target:PySem.Expr)(body orelse:List Stmt)(x:V)(loc:Loc)(mem:Mem)(Q:Fl->Loc->Mem->Prop)(E:Ex W):Prop:=
 ∀ R F s x',Sim W env outer loc mem R F s->VR W F x x'->wpAny (model W.prog W.w) A (pyIter x') (fun it s2=>codeAny (model W.prog W.w) A (.forLoop target it body orelse env) (fun r s'=>match r with
  | .ok f=>aE W env outer (FR W) R F Q f s'
  | .error e=>cameBackBy (model W.prog W.w) A env (E.p R F) e s') s2) (E.p R F) s
theorem dj{target iter:PySem.Expr}{body orelse:List Stmt}{pos:Pos}{Q:Fl->Loc->Mem->Prop}(hs:∀ x,foldedSetIterable iter env x=pure x)
  (h:TrV W A env outer (eval iter env) loc mem (fun x l m=>pA W A env outer target body orelse x l m Q E) E) :
  TrS W A env outer (exec (.For target iter body orelse pos) env) loc mem Q E:=fun R F s S=>
 wpAny_For (hs:=hs) (aM (i:=.refl _) (RW:=VR W) (Q:=fun _ _ _=>True) (h R F s S) fun x' s1 F1 x l1 m1 i1 r1 S1 h1=>
  wpAny_mono (h1 R F1 s1 x' S1 r1) (fun it s2 h2=>codeAny_mono h2 fun r s' h3=>by
   cases r with
   | ok f=>exact aE.weaken i1 h3
   | error e=>exact wpAny_mono h3 (fun _ _ z=>E.up i1 z) fun _ _ z=>E.up i1 z) fun _ _ e=>E.up i1 e)
inductive ForI(W:Wd)(env:Env)(outer:ay)(F:Frz)(R:Mem)(st:Nat->Mem->Mem->Prop)(I:Nat->Nat->Loc->Mem->Prop)(n:Nat)(s:Shared):Prop
 | intro (i:Nat) (F':Frz) (R':Mem) (l:Loc) (m:Mem) (h1_:aV F F') (h2_:st i R R') (h3_:Sim W env outer l m R' F' s) (h4_:I n i l m)
theorem nw{mem₀:Mem}{target:PySem.Expr}{body orelse:List Stmt}{x:V}{Q:Fl->Loc->Mem->Prop}{item:Nat->Mem->Option (Option V)}(hx:Itr W A target x mem mem₀ item)(I:Nat->Nat->Loc->Mem->Prop)
  (turn:∀ k i l m,I k i l m->item i m≠none/\(item i m=some none->TrS W A env outer (execs orelse env) l m Q (di W A env E))/\
   ∀ v,item i m=some (some v)->Op W A env outer (fun _ (_ _:Unit)=>True) (fun|[y]=>assign target env y|_=>pure ()) [v] l m (fun _ l m=>TrS W A env outer (execs body env) l m (ForQ I k (i+1) Q) (di W A env E)) (di W A env E))
  (k:Nat) (h:I k 0 loc mem₀):pA W A env outer target body orelse x loc mem Q E:=fun R F s x' S r=>by
 refine wpAny_mono (hx (E.p R F) S r) (fun it s2 h2=>?_) fun _ _ e=>e
 obtain⟨st,R',fd,h0,S2⟩:=h2
 refine codeAny_forLoop_any (ForI W env outer F R st I) (fun n s hI=>?_) k ⟨0,F,R',loc,mem₀,aV.refl F,h0,S2,h⟩
 obtain⟨i,F',R1,l,m,ic,hst,S',hI⟩:=hI
 obtain⟨t1,t2,t3⟩:=turn n i l m hI
 cases hit:item i m with
 | none=>exact absurd hit t1
 | some w=>
  cases w with
  | none=>
   refine wpAny_mono (fd.done _ ic hst hit S') (fun r s1 h1=>?_) fun _ _ e=>e
   obtain⟨rfl,S1⟩:=h1
   exact wpAny_mono (t2 hit R F' s1 S1) (fun f s3 h3=>aE.weaken ic h3) fun _ _ e=>(di W A env E).mono (gG.refl R) ic e
  | some v=>
   refine wpAny_mono (fd.next _ ic hst hit S') (fun r s1 h1=>?_) fun _ _ e=>e
   obtain⟨v',rfl,h1⟩:=h1
   refine wpAny_mono h1 (fun _ s2 h2=>?_) fun _ _ e=>e
   obtain⟨F2,R2,i2,r2,hst2,S2⟩:=h2
   have less:gG W R R2:=⟨fun S=>fd.off hst2 S,fun a x h=>by rw[fd.same hst2 (by rw[h];exact fun e=>nomatch e)];exact h⟩
   refine cG (RW:=VR W) (Q:=fun _ _ _=>True) (t3 v hit R2 F2 s2 [v'] S2 (.cons r2 .nil)) (fun _ _ z=>(di W A env E).mono less (ic.trans i2) z) fun _ s3 F3 _ l3 m3 i3 _ S3 h3=>?_
   refine cG (RW:=VR W) (Q:=fun _ _ _=>True) (h3 R2 F3 s3 S3) (fun _ _ z=>(di W A env E).mono less ((ic.trans i2).trans i3) z) fun f' s4 F4 f l4 m4 i4 r4 S4 h4=>?_
   have hi:=((ic.trans i2).trans i3).trans i4
   cases r4 with
   | next=>obtain⟨k',hk,q⟩:=h4;exact⟨k',hk,i+1,F4,R2,l4,m4,hi,hst2,S4,q⟩
   | cont=>obtain⟨k',hk,q⟩:=h4;exact⟨k',hk,i+1,F4,R2,l4,m4,hi,hst2,S4,q⟩
   | brk=>exact⟨F4,.next,l4,m4,hi,.next,fd.off hst2 S4,h4⟩
   | ret r=>exact⟨F4,.ret _,l4,m4,hi,.ret r,fd.off hst2 S4,h4⟩
end
noncomputable def g7(hb h:Heap)(L d:Addr):List (Addr×Obj):=(List.range h.objs.size).filterMap fun a=>if a=L\/a=d\/(hb.get? a).isSome=true then none else(h.get? a).map fun o=>(a,o)
theorem gi{hb h:Heap}{L d:Addr}{p:Addr×Obj}:p∈g7 hb h L d↔h.get? p.1=some p.2/\p.1≠L/\p.1≠d/\hb.get? p.1=none:=by
 unfold g7
 rw[List.mem_filterMap]
 constructor
 ·rintro⟨a,ha,e⟩
  split at e
  ·cases e
  ·rename_i hn
   cases q:h.get? a with
   | none=>rw[q]at e;cases e
   | some o=>
    rw[q]at e
    cases e
    refine⟨q,fun e=>hn (.inl e),fun e=>hn (.inr (.inl e)),?_⟩
    cases z:hb.get? a with
    | none=>rfl
    | some y=>exact absurd (.inr (.inr (by rw[z];rfl))) hn
 ·rintro⟨h1,h2,h3,h4⟩
  refine⟨p.1,List.mem_range.mpr (Heap.lt_size h1),?_⟩
  rw[if_neg,h1]
  ·rfl
  ·rintro(e|e|e)
   ·exact h2 e
   ·exact h3 e
   ·rw[h4]at e;cases e
theorem j2{hb h:Heap}{L d:Addr}{p:Addr×Obj}(hp:p∈g7 hb h L d):p.1≠d:=(gi.mp hp).2.2.1
section
variable {W:Wd}{env:Env}{outer:ay}{loc:Loc}{mem R:Mem}{F:Frz}{s:Shared}
theorem Sim.newsAll{a:Addr}{x:ax}{o:Obj}(S:Sim W env outer loc mem R F s)(h:mem a=some x)(ho:s.heap.get? a=some o):News W.hb env.locals s.heap ((a,o)::g7 W.hb s.heap env.locals a):=by
 intro p hp
 rcases List.mem_cons.mp hp with rfl|hp
 ·exact⟨ho,S.ne_locals h,S.fresh_base h⟩
 ·have:=gi.mp hp;exact⟨this.1,this.2.1,this.2.2.2⟩
theorem bo.updN{a:Addr}{x x':ax}{h':Heap}{t:Nat}{d:Drawn}{o':Obj}{m:Str->Option Value}(S:bo W env outer loc mem F s)(hm:mem a=some x)(l:cz W F loc m)
  (Fr':Fr W.hb env.locals h' m) (N':News W.hb env.locals h' ((a,o')::g7 W.hb s.heap env.locals a)) (r:OR W F x' o') :
  bo W env outer loc (ap mem a x') F { s with heap:=h',toks:=t,drawn:=d }:=by
 have hs:∀ b o,b≠a->b≠env.locals->s.heap.get? b=some o->h'.get? b=some o:=fun b o h1 h2 e=>by
  cases q:W.hb.get? b with
  | some o'=>
   have:=S.frz _ _ (S.base _ _ q)
   rw[e]at this;cases this
   exact Fr'.keep b o q
  | none=>exact(N' (b,o) (.tail _ (gi.mpr ⟨e,h2,h1,q⟩))).1
 have ho:=(N' (a,o') (.head _)).1
 exact {
  frz:=fun b o h=>hs b o (fun e=>by have:=S.memF b o h;rw[e,hm]at this;cases this) (fun e=>S.nsF.1 o (e▸h)) (S.frz b o h)
  base:=S.base
  memF:=fun b o h=>by
   have hb:b≠a:=fun e=>by have:=S.memF b o h;rw[e,hm]at this;cases this
   rw[af hb];exact S.memF b o h
  memOk:=fun b y h=>by
   by_cases e:b=a
   ·subst e;rw[mset_self]at h;cases h;exact⟨o',ho,r⟩
   ·rw[af e]at h;obtain⟨o,e',q⟩:=S.memOk b y h;exact⟨o,hs b o e (S.ne_locals h) e',q⟩
  ns:=⟨m,Fr'.ns,l⟩
  nsF:=⟨S.nsF.1,by rw[af (Ne.symm (S.ne_locals hm))];exact S.nsF.2⟩
  outs:=fun q hq=>by
   obtain⟨z,b,c,e⟩:=S.outs q hq
   have hq':q.1≠a:=fun e=>by rw[e,hm]at c;cases c
   obtain⟨o,es,ep,e',r'⟩:=z
   exact⟨⟨o,es,ep,hs _ _ hq' e e',r'⟩,b,by rw[af hq'];exact c,e⟩
  low:=S.low
  memLow:=fun b y h=>by
   unfold ap at h
   split at h
   ·rename_i q;rw[q];exact S.memLow a x hm
   ·exact S.memLow b y h
  gens:=S.gens
  os:=S.os }
theorem Sim.updN{a:Addr}{x x':ax}{h':Heap}{t:Nat}{d:Drawn}{o':Obj}{m:Str->Option Value}(S:Sim W env outer loc mem R F s)(hm:mem a=some x)(l:cz W F loc m)
  (Fr':Fr W.hb env.locals h' m) (N':News W.hb env.locals h' ((a,o')::g7 W.hb s.heap env.locals a)) (r:OR W F x' o') :
  Sim W env outer loc (ap mem a x') R F { s with heap:=h',toks:=t,drawn:=d }:=⟨S.dis.set hm,fk mem R a x'▸S.z.updN (bu hm) l Fr' N' r⟩
end
noncomputable def bi(es:List (Str×V))(k:Str):Option V:=(es.find? fun e=>e.1=k).map (·.2)
noncomputable def stA(es:List (Str×V))(k:Str)(v:V):List (Str×V):=
 if es.any (fun e=>e.1=k) then es.map (fun e=>if e.1=k then(e.1,v) else e) else es++[(k,v)]
section
variable {W:Wd}{F:Frz}
theorem VRp.get{es:List (Str×V)}{kvs:List (Str×Value)}(r:VRp W F es kvs)(k:Str) :
  (∀ x,bi es k=some x->∃ v,valueAt kvs k=some v/\VR W F x v)/\(bi es k=none->valueAt kvs k=none):=by
 induction es generalizing kvs with
 | nil=>cases r.view;exact⟨fun x h=>(nomatch h),fun _=>rfl⟩
 | cons e es ih=>
  cases r with
  | @cons k' x v xs vs r1 r2=>
   unfold bi valueAt
   rw[List.find?_cons,List.find?_cons]
   by_cases h:k'=k
   ·simp only [h,decide_true]
    exact⟨fun y e=>by cases e;exact⟨v,rfl,r1⟩,fun e=>(nomatch e)⟩
   ·simp only [h,decide_false]
    exact ih r2
theorem VRp.keys{es:List (Str×V)}{kvs:List (Str×Value)}(r:VRp W F es kvs):kvs.map (·.1)=es.map (·.1):=by
 induction es generalizing kvs with
 | nil=>cases r.view;rfl
 | cons e es ih=>cases r.view with|cons r1 r2=>simp[ih r2]
theorem VRp.length{es:List (Str×V)}{kvs:List (Str×Value)}(r:VRp W F es kvs):kvs.length=es.length:=by
 have:=congrArg List.length r.keys;simpa using this
theorem VRp.append{es es':List (Str×V)}{kvs kvs':List (Str×Value)}(r:VRp W F es kvs)(r':VRp W F es' kvs'):VRp W F (es++es') (kvs++kvs'):=by
 induction es generalizing kvs with
 | nil=>cases r.view;exact r'
 | cons e es ih=>cases r.view with|cons r1 r2=>exact .cons r1 (ih r2)
theorem VRp.any{es:List (Str×V)}{kvs:List (Str×Value)}(r:VRp W F es kvs)(k:Str):kvs.any (fun e=>decide (e.1=k))=es.any (fun e=>decide (e.1=k)):=by
 induction es generalizing kvs with
 | nil=>cases r.view;rfl
 | cons e es ih=>cases r.view with|cons r1 r2=>simp[ih r2]
theorem VRp.map{es:List (Str×V)}{kvs:List (Str×Value)}(r:VRp W F es kvs)(k:Str){x:V}{v:Value}(rx:VR W F x v) :
  VRp W F (es.map fun e=>if e.1=k then(e.1,x) else e) (kvs.map fun e=>if e.1=k then(e.1,v) else e):=by
 induction es generalizing kvs with
 | nil=>cases r.view;exact .nil
 | cons e es ih=>
  cases r with
  | @cons k' y u xs vs r1 r2=>
   rw[List.map_cons,List.map_cons]
   by_cases h:k'=k
   ·simp only [h,if_true];exact .cons rx (ih r2)
   ·simp only [h,if_false];exact .cons r1 (ih r2)
theorem VRp.store{es:List (Str×V)}{kvs:List (Str×Value)}(r:VRp W F es kvs)(k:Str){x:V}{v:Value}(rx:VR W F x v):VRp W F (stA es k x) (stored kvs k v):=by
 unfold stA stored
 rw[r.any k]
 split
 ·exact r.map k rx
 ·exact r.append (.cons rx .nil)
theorem VRp.rev{es:List (Str×V)}{kvs:List (Str×Value)}(r:VRp W F es kvs):VRp W F es.reverse kvs.reverse:=by
 induction es generalizing kvs with
 | nil=>cases r.view;exact .nil
 | cons e es ih=>cases r.view with|cons r1 r2=>rw[List.reverse_cons,List.reverse_cons];exact(ih r2).append (.cons r1 .nil)
theorem VRp.loc{es:List (Str×V)}{kvs:List (Str×Value)}(r:VRp W F es kvs):cz W F es (fun x=>kvs.lookup x):=by
 induction es generalizing kvs with
 | nil=>intro x v e;cases e
 | cons e es ih=>
  cases r with
  | @cons k y u xs vs r1 r2=>
   intro x v e
   rw[List.lookup_cons]at e
   show ∃ v',List.lookup x ((k,u)::vs)=some v'/\_
   rw[List.lookup_cons]
   split at e
   ·cases e;exact⟨u,rfl,r1⟩
   ·exact ih r2 x v e
theorem VRs.length{xs:List V}{vs:List Value}(r:VRs W F xs vs):vs.length=xs.length:=by
 induction xs generalizing vs with
 | nil=>obtain rfl:=r.isNil;rfl
 | cons x xs ih=>cases r.view with|cons r1 r2=>simp[ih r2]
end
section
variable {W:Wd}{A:Around}{env:Env}{outer:ay}{loc:Loc}{mem R:Mem}{E:Ex W}{F:Frz}{s:Shared}
theorem Pairs.refKey{es:List DictEntry}{kvs:List (Str×Value)}(h:Pairs (strKind W.prog W.w) es kvs):es.any (·.refKey)=false:=by
 induction h with
 | nil=>rfl
 | cons hk _ _ ih=>
  obtain⟨t,e⟩:=Value.isStrOf_shape hk
  rw[List.any_cons,ih,Bool.or_false]
  unfold DictEntry.refKey
  rw[e]
theorem fB{o:Obj}{kvs:List (Str×Value)}(h:o.IsDictOf (strKind W.prog W.w) kvs)(k:Str):lookIn k o=some (valueAt kvs k):=by
 obtain⟨es,ep,hx,hd,hk,hp,hn⟩:=h
 unfold lookIn
 rw[hd]
 dsimp only
 have e:=hp.find k
 have e2:(es.toList.find? fun e=>e.key.isStr k)=es.toList.find? fun e=>(strKind W.prog W.w).is k e.key:=by
  congr 1;funext e;exact isStr_of k e.key
 rw[e2]
 rw[<-e]
 cases q:es.toList.find? fun e=>(strKind W.prog W.w).is k e.key with
 | some e'=>rfl
 | none=>rw[Pairs.refKey hp];rfl
theorem eO{k:Str}{hsh:Int}{key v:Value}:∀ {es:List DictEntry} {i:Nat},es.findIdx? (fun x=>x.key.isStr k)=some i->putL k hsh key v es=es.modify i fun e=>{ e with val:=v }:=by
 intro es i h
 rw[<-putL_find k hsh key v es,h]
theorem eN{k:Str}{hsh:Int}{key v:Value}{es:List DictEntry}(h:es.findIdx? (fun x=>x.key.isStr k)=none):putL k hsh key v es=es++[⟨hsh,key,v⟩]:=by
 rw[<-putL_find k hsh key v es,h]
theorem iY{ds:List DictEntry}{n m:Nat}{kvs:List (Str×Value)}{k:Str}{t:Tok}{v:Value}(h:(dictOf ds n).IsDictOf (strKind W.prog W.w) kvs) :
  (dictOf (putL k (PyData.keyHash W.w.params k) (.str k t) v ds) m).IsDictOf (strKind W.prog W.w) (stored kvs k v):=by
 obtain⟨es,ep,hx,hd,hk,hp,hn⟩:=h
 have he:es=ds.toArray:=by cases hd;rfl
 subst he
 have e2:∀ (l:List DictEntry),(l.findIdx? fun e=>e.key.isStr k)=l.findIdx? fun e=>(strKind W.prog W.w).is k e.key:=fun l=>by
  congr 1;funext e;exact isStr_of k e.key
 refine⟨(putL k (PyData.keyHash W.w.params k) (.str k t) v ds).toArray,m,⟨rfl,rfl,rfl⟩,rfl,?_,?_,?_⟩
 ·intro e he
  have he':e∈putL k (PyData.keyHash W.w.params k) (.str k t) v ds:=by simpa using he
  cases q:ds.findIdx? (fun x=>x.key.isStr k) with
  | some i=>
   rw[eO q]at he'
   have:=hk.modify i v
   exact this e (by rw[List.modify_toArray];simpa using he')
  | none=>
   rw[eN q]at he'
   rcases List.mem_append.mp he' with h|h
   ·exact hk e (by simpa using h)
   ·rw[List.mem_singleton]at h;subst h;exact⟨k,strKind_is _ _ k t,rfl⟩
 ·show Pairs _ (putL k (PyData.keyHash W.w.params k) (.str k t) v ds) _
  have hp':Pairs (strKind W.prog W.w) ds kvs:=hp
  cases q:ds.findIdx? (fun x=>x.key.isStr k) with
  | some i=>
   rw[eO q]
   have q':=q
   rw[e2]at q
   have q2:=q
   rw[hp'.findIdx k]at q2
   unfold stored
   rw[if_pos (any_of_findIdx_some q2)]
   exact hp'.modify hn q v
  | none=>
   rw[eN q]
   rw[e2,hp'.findIdx k]at q
   unfold stored
   rw[if_neg]
   ·exact hp'.append (strKind_is _ _ k t) _ v
   ·intro hh
    have:=not_mem_of_findIdx_none q
    obtain⟨x,hx1,hx2⟩:=List.any_eq_true.mp hh
    exact this (List.mem_map.mpr ⟨x,hx1,of_decide_eq_true hx2⟩)
 ·unfold stored
  split
  ·rw[keys_map_store];exact hn
  ·rename_i hh
   rw[List.map_append,List.nodup_append]
   refine⟨hn,by simp,?_⟩
   intro a ha b hb e
   subst e
   simp only [List.map_cons,List.map_nil,List.mem_singleton]at hb
   subst hb
   obtain⟨x,hx1,hx2⟩:=inM ha
   exact hh (List.any_eq_true.mpr ⟨x,hx1,by simpa using hx2⟩)
inductive jE(W:Wd)(mem:Mem):V->Addr->List (Str×V)->Prop
 | own {x C d:Addr} {es:List (Str×V)} {ep:Nat}:mem x=some (.inst C d)->mem d=some (.dict es ep)->jE W mem (.ref x) C es
 | frz {C:Addr} {es:List (Str×V)}:jE W mem (.ins C es) C es
theorem jE.at{v:V}{C:Addr}{es:List (Str×V)}{v':Value}(I:jE W mem v C es)(S:Sim W env outer loc mem R F s)(r:VR W F v v') :
  ∃ x d od kvs,v' = .ref x/\InstAt s.heap x (instObj C d) C (some od)/\od.IsDictOf (strKind W.prog W.w) kvs/\VRp W F es kvs:=by
 cases I with
 | own h1 h2=>
  obtain rfl:=r.isRef
  obtain⟨o,ho,r1⟩:=S.memOk _ _ h1
  obtain⟨o2,ho2,r2⟩:=S.memOk _ _ h2
  cases r1.view
  cases r2.view with
  | dict k q=>exact⟨_,_,_,_,rfl,⟨ho,rfl,rfl,ho2⟩,k,q⟩
 | frz=>
  cases r.view with
  | ins f g k q=>exact⟨_,_,_,_,rfl,⟨S.frz _ _ f,rfl,rfl,S.frz _ _ g⟩,k,q⟩
noncomputable def okV:V->Bool
 | .glob u=>handedIn u
 | _=>true
theorem VR.handed{v:V}{v':Value}(r:VR W F v v')(h:okV v=true):handedIn v'=true:=by
 cases r<;>first|rfl|exact h
theorem oA{v:V}{C:Addr}{es:List (Str×V)}{name:Str}{expr:Bool}{x:V}{attr:Option Value}{Q:V->Loc->Mem->Prop}(I:jE W mem v C es)(hg:plainGet W.K C name=true)(hh:hasDictIn W.K C=true)
  (ha:findIn W.K (.ref C) name=some attr) (hn:noGet W.K attr=true) (hl:bi es name=some x) (hv:okV x=true) (h:Q x loc mem) :
  Op W A env outer (VR W) (fun|[y]=>getAttr y name expr|_=>pure .none) [v] loc mem Q E:=fun R F s vs S r=>by
 obtain⟨_,_,r1,r2,rfl⟩:=r.isCons
 obtain rfl:=r2.isNil
 obtain⟨xa,d,od,kvs,rfl,J,hd,rp⟩:=I.at S r1
 obtain⟨u,hu,ru⟩:=(rp.get name).1 x hl
 exact get_value S.kin J (plainGet_of hg).1 (findObj_own hh ha hn (by rw[fB hd,hu])) (ru.handed hv) (aE.mk ru S.tick h)
theorem gU{value:PySem.Expr}{attr:Str}{pos:Pos}{Q:V->Loc->Mem->Prop}
  (he:eval (.Attribute value attr pos) env=(do
   let o<-eval value env
   standAt pos.atName
   let r<-holding [o] (getAttr o attr true)
   letTemporaryGo value o r
   pure r))
  (h:TrV W A env outer (eval value env) loc mem (fun o l m=>Op W A env outer (VR W) (fun|[y]=>getAttr y attr true|_=>pure .none) [o] l m Q E) E) :
  TrV W A env outer (eval (.Attribute value attr pos) env) loc mem Q E:=fun R F s S=>
 Attribute_any_ (he:=he) (aM (i:=.refl _) (RW:=VR W) (Q:=fun _ _ _=>True) (h R F s S) fun v' s' F1 v l1 m1 i1 r1 S1 h1=>wpAny_mono (h1 R F1 s' [v'] S1 (.cons r1 .nil)) (fun _ _ p=>p.weaken i1) fun _ _ e=>E.up i1 e)
theorem oj{x C d:Addr}{es:List (Str×V)}{ep:Nat}{name:Str}{v:V}{Q:Loc->Mem->Prop}(h1:mem x=some (.inst C d))(h2:mem d=some (.dict es ep))
  (hs:findIn W.K (.ref C) "__setattr__" = some (some (.builtin "object.__setattr__"))) (hp:plainOver W.K C=true) (ht:takerIn W.K C name=some none) (hh:hasDictIn W.K C=true) (hz:es.length≤900)
  (h:∀ ep',Q loc (ap mem d (.dict (stA es name v) ep'))) :
  Op W A env outer (fun _ (_ _:Unit)=>True) (fun|[y,z]=>setAttr y name z|_=>pure ()) [.ref x,v] loc mem (fun _=>Q) E:=fun R F s vs S r=>by
 obtain⟨_,_,r1,r2,rfl⟩:=r.isCons
 obtain rfl:=r1.isRef
 cases r2.view with
 | @cons v' _ ru r3=>
  obtain rfl:=r3.isNil
  obtain⟨o,ho,q1⟩:=S.memOk _ _ h1
  obtain⟨o2,ho2,q2⟩:=S.memOk _ _ h2
  cases q1.view
  cases q2.view with
  | @dict ds kvs k q=>
   obtain⟨m,hn,l⟩:=S.ns
   have hl:(getL name ds).isSome=true:=by
    have:=fB k name
    rw[lookIn_dict]at this
    rw[this];rfl
   have hlen:(putL name (PyData.keyHash W.w.params name) (.str name (s.toks+1)) v' ds).length≤1000:=by
    have hp':Pairs (strKind W.prog W.w) (putL name (PyData.keyHash W.w.params name) (.str name (s.toks+1)) v' ds) (stored kvs name v'):=by
     obtain⟨es',ep',_,hd',_,hp',_⟩:=iY (m:=0) (t:=s.toks+1) (k:=name) (v:=v') k
     cases hd';exact hp'
    have z1:=hp'.length
    have z2:=stored_length_le kvs name v'
    have z3:=q.length
    lia
   refine set_dict (S.fr hn) W.KIn (S.newsAll h2 ho2) ⟨ho,rfl,rfl,ho2⟩ rfl hs hp ht hh hl rfl (.head (fun p hp=>j2 hp)) hlen fun h' F' N'=>?_
   exact aE.mk (x:=()) trivial (S.updN (t:=s.toks+2) (d:=s.drawn) h2 l F' N' (.dict (iY k) (q.store name ru))) (h _)
end
section
variable {W:Wd}{A:Around}{env:Env}{outer:ay}{loc:Loc}{mem R:Mem}{E:Ex W}{F:Frz}{s:Shared}
noncomputable def qJ(W:Wd)(A:Around)(env':Env)(E:Ex W):Ex W where
 p R F e s':=wpAny (model W.prog W.w) (A.deeper env') (leaving env' e) (fun _ s''=>E.p R F e s'') (fun e' s''=>E.p R F e' s'') s'
 mono l i h:=wpAny_mono h (fun _ _ z=>E.mono l i z) fun _ _ z=>E.mono l i z
noncomputable def nU:Fl->V
 | .ret v=>v
 | _=>.none
noncomputable def Body(W:Wd)(A:Around)(env:Env)(outer:ay)(qual:Str)(scope:Scope)(body:List Stmt)(cdv:Value)(cl:List (Str×Addr))(f:Addr)(bs:Loc)(mem:Mem)(Q:V->Mem->Prop)(E:Ex W):Prop:=
 ∀ (L:Addr) (m0:Str->Option Value),TrS W (A.deeper (envX qual scope L f cdv cl)) (envX qual scope L f cdv cl) ((env.locals,m0)::outer) (execs body (envX qual scope L f cdv cl)) bs mem (fun fl _ m=>∃ m',(∀ a x,m' a=some x->m a=some x)/\Q (nU fl) m') (qJ W A (envX qual scope L f cdv cl) E)
theorem bo.enter{L:Addr}{env':Env}{h₁:Heap}{t:Nat}{m m':Str->Option Value}{loc':Loc}(S:bo W env outer loc mem F s)(hn:s.heap.Ns env.locals m)(hL:L=s.heap.objs.size)(hl':env'.locals=L)
  (hn':h₁.Ns L m') (hk:∀ b o,s.heap.get? b=some o->h₁.get? b=some o) (l':cz W F loc' m'):bo W env' ((env.locals,m)::outer) loc' mem F { s with heap:=h₁,toks:=t }:=by
 have ge:s.heap.get? L=none:=by rw[hL];exact aH _
 obtain⟨f1,f2,f3,f4⟩:=S.free_of_none ge
 exact {
  frz:=fun a o h=>hk a o (S.frz a o h)
  base:=S.base
  memF:=S.memF
  memOk:=fun a x h=>let ⟨o,e,r⟩:=S.memOk a x h;⟨o,hk _ _ e,r⟩
  ns:=⟨m',by rw[hl'];exact hn',l'⟩
  nsF:=⟨fun o=>by rw[hl'];exact f2 o,by rw[hl'];exact f1⟩
  outs:=fun q hq=>by
   rw[hl']
   rcases List.mem_cons.mp hq with rfl|hq
   ·exact⟨hn.keeps hk,S.nsF.1,S.nsF.2,Ne.symm f3⟩
   ·obtain⟨z,b,c,e⟩:=S.outs q hq;exact⟨z.keeps hk,b,c,f4 q hq⟩
  low:=by rw[hl',hL];exact Nat.le_trans S.low (Nat.le_of_lt hn.lt)
  memLow:=S.memLow
  gens:=S.gens
  os:=S.os }
theorem bo.leave{env':Env}{m:Str->Option Value}{loc':Loc}{mem':Mem}{F':Frz}{s':Shared}(S:bo W env outer loc mem F s)(l:cz W F loc m)(i:aV F F')
  (S':bo W env' ((env.locals,m)::outer) loc' mem' F' s'):bo W env outer loc mem' F' s' where
 frz:=S'.frz
 base:=S'.base
 memF:=S'.memF
 memOk:=S'.memOk
 ns:=⟨m,(S'.outs _ (.head _)).1,l.mono i⟩
 nsF:=⟨(S'.outs _ (.head _)).2.1,(S'.outs _ (.head _)).2.2.1⟩
 outs q hq:=let ⟨z,b,c,_⟩:=S'.outs q (.tail _ hq);⟨z,b,c,(S.outs q hq).2.2.2⟩
 low:=S.low
 memLow:=S'.memLow
 gens:=S'.gens
 os:=S'.os
theorem kB{name qual:Str}{params:Arguments}{body:List Stmt}{scope:Scope}{cl:List (Str×Addr)}{dV kV doc pm cdv ct:Value}{an:Option Addr}{fo:Obj}{f:Addr}{args:Args}{bs:List (Str×V)}{bv:List (Str×Value)}{Q:V->Mem->Prop}{Rz:Result->Shared->Prop}
  (S:Sim W env outer loc mem R F s) (ho:s.heap.get? f=some fo) (hd:fo.data = .func (fnX name qual params body scope cl dV kV doc pm an cdv ct)) (hcd:s.heap.CodeRec cdv qual) (hroom:A.depth<recursionLimit)
  (hbind:BindsTo s (fnX name qual params body scope cl dV kV doc pm an cdv ct) args bv) (rb:VRp W F bs bv) (hloc:∀ y∈bs,scope.names.lookup y.1=some .local)
  (hcell:∀ x∈scope.names,x.2≠.cell) (hco:scope.isCoroutine=false) (hgen:scope.isGenerator=false) (hk:scope.kind = .function)
  (E':Ex W) (hE:∀ e s',E'.p R F e s'->Rz (.error e) s')
  (hR:∀ F' v v' m' s',aV F F'->VR W F' v v'->Sim W env outer loc m' R F' s'->Q v m'->Rz (.ok (.ret v')) s')
  (h:Body W A env outer qual scope body cdv cl f bs.reverse mem Q E'):codeAny (model W.prog W.w) A (.call (.ref f) args) Rz s:=by
 obtain⟨m,hn,l⟩:=S.ns
 have hloc':∀ y∈bv,scope.names.lookup y.1=some .local:=fun y hy=>by
  have:y.1∈bs.map (·.1):=rb.keys▸List.mem_map_of_mem hy
  obtain⟨z,hz,e⟩:=inM this
  exact e▸hloc z hz
 refine codeAny_call_def (fd:=fnX name qual params body scope cl dV kV doc pm an cdv ct) (body:=body) (binds:=bv) hroom ho hd (W.nolim.keeps S.hbase) hcd rfl hbind hcell hloc' (fun h₁ hns hk₁=>?_) hco hgen hk
 have S':Sim W (envX qual scope s.heap.objs.size f cdv cl) ((env.locals,m)::outer) bs.reverse mem R F { s with heap:=h₁,toks:=s.toks+bv.length }:=
  ⟨S.dis,S.z.enter hn rfl rfl hns hk₁ rb.rev.loc⟩
 refine wpAny_mono (h s.heap.objs.size m R F _ S') (fun fl s' hp=>?_) fun e s' he=>wpAny_mono he (fun _ _ q=>hE _ _ q) fun _ _ q=>hE _ _ q
 obtain⟨F',fl',l',m2,i,r,S2,m',hm',q⟩:=hp
 have S2:=S2.drop hm'
 have S3:Sim W env outer loc m' R F' s':=⟨S2.dis,S.z.leave l i S2.z⟩
 cases r with
 | next=>exact hR F' .none .none m' s' i .none S3 q
 | brk=>exact hR F' .none .none m' s' i .none S3 q
 | cont=>exact hR F' .none .none m' s' i .none S3 q
 | ret r=>exact hR F' _ _ m' s' i r S3 q
noncomputable def lW(W:Wd)(fd:FuncData)(kw:List (Str×Value))(xs:List V)(bs:List (Str×V)):Prop:=
 ∀ (F:Frz) (s:Shared) (vs:List Value),(∀ a o,W.hb.get? a=some o->F a o)->W.K.In s.heap->VRs W F xs vs->∃ bv,BindsTo s fd ⟨vs,kw⟩ bv/\VRp W F bs bv
theorem bO{name qual:Str}{params:Arguments}{body:List Stmt}{scope:Scope}{dV kV doc pm cdv ct oc:Value}{an od:Option Addr}{osl:Array (Option Value)}{f:Addr}{xs:List V}{bs:List (Str×V)}{Q:V->Loc->Mem->Prop}
  (ho:W.K.lookup f=some ⟨oc,od,.func (fnOf name qual params body scope dV kV doc pm an cdv ct),osl⟩) (hcd:codeIn W.K cdv qual=true) (hroom:A.depth<recursionLimit)
  (hbind:lW W (fnOf name qual params body scope dV kV doc pm an cdv ct) [] xs bs) (hloc:∀ y∈bs,scope.names.lookup y.1=some .local)
  (hcell:∀ x∈scope.names,x.2≠.cell) (hco:scope.isCoroutine=false) (hgen:scope.isGenerator=false) (hk:scope.kind = .function)
  (h:Body W A env outer qual scope body cdv [] f bs.reverse mem (fun v m=>Q v loc m) E):Op W A env outer (VR W) (fun vs=>call (.ref f) vs) xs loc mem Q E:=fun R F s vs S r=>by
 obtain⟨bv,hb,rb⟩:=hbind F s vs S.base S.kin r
 exact wpAny_call (kB S (S.kin _ _ ho) rfl (codeRec_of S.kin hcd) hroom hb rb hloc hcell hco hgen hk E (fun _ _ e=>e) (fun F' v v' m' s' i r S' q=>⟨F',v,loc,m',i,r,S',q⟩) h)
theorem eT{func:PySem.Expr}{args:List PySem.Expr}{pos:Pos}{Q:V->Loc->Mem->Prop}
  (he:eval (.Call func args [] pos) env=(do callWith pos (<-eval func env) [] (backTo pos (starEach args env)) (backToKw pos (keywordEach [] env))))
  (h:TrV W A env outer (eval func env) loc mem (fun g l m=>Op W A env outer (VR W) (fun|[f]=>callWith pos f [] (backTo pos (starEach args env)) []|_=>pure .none) [g] l m Q E) E) :
  TrV W A env outer (eval (.Call func args [] pos) env) loc mem Q E:=fun R F s S=>by
 rw[he]
 exact wpAny_bind (aM (i:=.refl _) (RW:=VR W) (Q:=fun _ _ _=>True) (h R F s S) fun v' s' F1 v l1 m1 i1 r1 S1 h1=>wpAny_mono (h1 R F1 s' [v'] S1 (.cons r1 .nil)) (fun _ _ p=>p.weaken i1) fun _ _ e=>E.up i1 e)
theorem c_top{a:Addr}{e:PySem.Expr}{rest:List PySem.Expr}{pos:Pos}{Q:V->Loc->Mem->Prop}(hk:keepIn W.K (.ref a)=true)(he:starEach (e::rest) env=(false,eval e env)::starEach rest env)(hplain:(backTo pos (starEach rest env)).any (·.1)=false)
  (h:TrL W A env outer (spliced (backTo pos (starEach (e::rest) env))) loc mem (fun xs l m=>Op W A env outer (VR W) (fun vs=>call (.ref a) vs) xs l m Q E) E) :
  Op W A env outer (VR W) (fun|[f]=>callWith pos f [] (backTo pos (starEach (e::rest) env)) []|_=>pure .none) [.glob (.ref a)] loc mem Q E:=fun R F s vs S r=>by
 obtain⟨_,_,r1,r2,rfl⟩:=r.isCons
 obtain rfl:=r2.isNil;obtain rfl:=r1.isGlob
 refine callWith_K (h₀:=s.heap) S.kin hk (aM (i:=.refl _) (RW:=VR W) (Q:=fun _ _ _=>True) (h R F s S) fun vs s' F1 xs l1 m1 i1 r1 S1 h1=>⟨S1.kin,?_⟩) he hplain
 exact wpAny_mono (h1 R F1 s' vs S1 r1) (fun _ _ p=>p.weaken i1) fun _ _ e=>E.up i1 e
theorem c_top0{a:Addr}{pos:Pos}{Q:V->Loc->Mem->Prop}(hk:keepIn W.K (.ref a)=true)
  (h:Op W A env outer (VR W) (fun vs=>call (.ref a) vs) [] loc mem Q E) :
  Op W A env outer (VR W) (fun|[f]=>callWith pos f [] (backTo pos (starEach [] env)) []|_=>pure .none) [.glob (.ref a)] loc mem Q E:=fun R F s vs S r=>by
 obtain⟨_,_,r1,r2,rfl⟩:=r.isCons
 obtain rfl:=r2.isNil;obtain rfl:=r1.isGlob
 exact callWith_K0 S.kin hk (h R F s [] S .nil)
theorem o7{id:String}{e:PySem.Expr}{rest:List PySem.Expr}{pos:Pos}{Q:V->Loc->Mem->Prop}(he:starEach (e::rest) env=(false,eval e env)::starEach rest env)(hplain:(backTo pos (starEach rest env)).any (·.1)=false)
  (h:TrL W A env outer (spliced (backTo pos (starEach (e::rest) env))) loc mem (fun xs l m=>Op W A env outer (VR W) (fun vs=>call (.builtin id) vs) xs l m Q E) E) :
  Op W A env outer (VR W) (fun|[f]=>callWith pos f [] (backTo pos (starEach (e::rest) env)) []|_=>pure .none) [.glob (.builtin id)] loc mem Q E:=fun R F s vs S r=>by
 obtain⟨_,_,r1,r2,rfl⟩:=r.isCons
 obtain rfl:=r2.isNil;obtain rfl:=r1.isGlob
 refine PyProof.Rows.callWith_builtin1 (aM (i:=.refl _) (RW:=VR W) (Q:=fun _ _ _=>True) (h R F s S) fun vs s' F1 xs l1 m1 i1 r1 S1 h1=>?_) he hplain
 exact wpAny_mono (h1 R F1 s' vs S1 r1) (fun _ _ p=>p.weaken i1) fun _ _ e=>E.up i1 e
theorem c_type{T:String}{e:PySem.Expr}{rest:List PySem.Expr}{pos:Pos}{Q:V->Loc->Mem->Prop}(he:starEach (e::rest) env=(false,eval e env)::starEach rest env)(hplain:(backTo pos (starEach rest env)).any (·.1)=false)
  (h:TrL W A env outer (spliced (backTo pos (starEach (e::rest) env))) loc mem (fun xs l m=>Op W A env outer (VR W) (fun vs=>call (.type T) vs) xs l m Q E) E) :
  Op W A env outer (VR W) (fun|[f]=>callWith pos f [] (backTo pos (starEach (e::rest) env)) []|_=>pure .none) [.glob (.type T)] loc mem Q E:=fun R F s vs S r=>by
 obtain⟨_,_,r1,r2,rfl⟩:=r.isCons
 obtain rfl:=r2.isNil;obtain rfl:=r1.isGlob
 refine PyProof.Rows.callWith_type1 (aM (i:=.refl _) (RW:=VR W) (Q:=fun _ _ _=>True) (h R F s S) fun vs s' F1 xs l1 m1 i1 r1 S1 h1=>?_) he hplain
 exact wpAny_mono (h1 R F1 s' vs S1 r1) (fun _ _ p=>p.weaken i1) fun _ _ e=>E.up i1 e
theorem nY{T:String}{pos:Pos}{Q:V->Loc->Mem->Prop}
  (h:Op W A env outer (VR W) (fun vs=>call (.type T) vs) [] loc mem Q E) :
  Op W A env outer (VR W) (fun|[f]=>callWith pos f [] (backTo pos (starEach [] env)) []|_=>pure .none) [.glob (.type T)] loc mem Q E:=fun R F s vs S r=>by
 obtain⟨_,_,r1,r2,rfl⟩:=r.isCons
 obtain rfl:=r2.isNil;obtain rfl:=r1.isGlob
 exact PyProof.Rows.callWith_type0 (h R F s [] S .nil)
noncomputable def mM(W:Wd)(A:Around)(env:Env)(outer:ay)(name:Str)(pl:Sem Bool)(pos:Pos)(args:List PySem.Expr)(v:V)(loc:Loc)(mem:Mem)(Q:V->Loc->Mem->Prop)(E:Ex W):Prop:=
 ∀ R F s v',Sim W env outer loc mem R F s->VR W F v v'->wpAny (model W.prog W.w) A (getMethod v' name pl) (fun fx s₂=>wpAny (model W.prog W.w) A (callWith pos fx.1 fx.2 (backTo pos (starEach args env)) []) (aE W env outer (VR W) R F Q) (E.p R F) s₂) (E.p R F) s
theorem cT{o:PySem.Expr}{name:Str}{apos pos:Pos}{args:List PySem.Expr}{pl:Sem Bool}{Q:V->Loc->Mem->Prop}
  (he:eval (.Call (.Attribute o name apos) args [] pos) env=(do
   let ov<-eval o env
   standAt apos.atName
   let (f,first)<-holding [ov] (getMethod ov name pl)
   callWith pos f first (backTo pos (starEach args env)) (backToKw pos (keywordEach [] env))))
  (h:TrV W A env outer (eval o env) loc mem (fun v l m=>mM W A env outer name pl pos args v l m Q E) E) :
  TrV W A env outer (eval (.Call (.Attribute o name apos) args [] pos) env) loc mem Q E:=fun R F s S=>
 methodCall_KW (kws:=[]) (pl:=pl) (aM (i:=.refl _) (RW:=VR W) (Q:=fun _ _ _=>True) (h R F s S) fun v' s' F1 v l1 m1 i1 r1 S1 h1=>
  wpAny_mono (h1 R F1 s' v' S1 r1) (fun fx s2 h2=>wpAny_mono h2 (fun _ _ p=>p.weaken i1) fun _ _ e=>E.up i1 e) fun _ _ e=>E.up i1 e) he
theorem m_own{v:V}{C f:Addr}{es:List (Str×V)}{name:Str}{pl:Sem Bool}{pos:Pos}{e:PySem.Expr}{rest:List PySem.Expr}{Q:V->Loc->Mem->Prop}(I:jE W mem v C es)(hg:plainGet W.K C name=true)
  (hf:findIn W.K (.ref C) name=some (some (.ref f))) (ht:isFn W.K (.ref f)=true) (hl:bi es name=none) (hk:keepIn W.K (.ref f)=true) (he:starEach (e::rest) env=(false,eval e env)::starEach rest env) (hplain:(backTo pos (starEach rest env)).any (·.1)=false)
  (h:TrL W A env outer (spliced (backTo pos (starEach (e::rest) env))) loc mem (fun xs l m=>Op W A env outer (VR W) (fun vs=>call (.ref f) vs) (v::xs) l m Q E) E) :
  mM W A env outer name pl pos (e::rest) v loc mem Q E:=fun R F s v' S r=>by
 obtain⟨xa,d,od,kvs,rfl,J,hd,rp⟩:=I.at S r
 refine method_fn S.kin J (plainGet_of hg).1 (plainGet_of hg).2 hf (beq_iff_eq.mp ht) (by show(lookIn name od).map _=_;rw[fB hd,(rp.get name).2 hl];rfl) ?_
 refine callWith_K (h₀:=s.heap) S.kin hk (aM (i:=.refl _) (RW:=VR W) (Q:=fun _ _ _=>True) (h R F s S) fun vs s' F1 xs l1 m1 i1 r1 S1 h1=>⟨S1.kin,?_⟩) he hplain
 exact wpAny_mono (h1 R F1 s' (.ref xa::vs) S1 (.cons (r.mono i1) r1)) (fun _ _ p=>p.weaken i1) fun _ _ e=>E.up i1 e
theorem gX{v:V}{C f:Addr}{es:List (Str×V)}{name:Str}{pl:Sem Bool}{pos:Pos}{Q:V->Loc->Mem->Prop}(I:jE W mem v C es)(hg:plainGet W.K C name=true)
  (hf:findIn W.K (.ref C) name=some (some (.ref f))) (ht:isFn W.K (.ref f)=true) (hl:bi es name=none) (hk:keepIn W.K (.ref f)=true)
  (h:Op W A env outer (VR W) (fun vs=>call (.ref f) vs) [v] loc mem Q E) :
  mM W A env outer name pl pos [] v loc mem Q E:=fun R F s v' S r=>by
 obtain⟨xa,d,od,kvs,rfl,J,hd,rp⟩:=I.at S r
 refine method_fn S.kin J (plainGet_of hg).1 (plainGet_of hg).2 hf (beq_iff_eq.mp ht) (by show(lookIn name od).map _=_;rw[fB hd,(rp.get name).2 hl];rfl) ?_
 exact callWith_K0 S.kin hk (h R F s [.ref xa] S (.cons r .nil))
inductive Ty(mem:Mem):V->String->Prop
 | str (x:Str):Ty mem (.str x) "str"
 | lst (xs:List V):Ty mem (.lst xs) "list"
 | tup (xs:List V):Ty mem (.tup xs) "tuple"
 | list {a:Addr} {xs:List V}:mem a=some (.list xs)->Ty mem (.ref a) "list"
 | dict {a:Addr} {es:List (Str×V)} {ep:Nat}:mem a=some (.dict es ep)->Ty mem (.ref a) "dict"
theorem Ty.at{v:V}{T:String}{v':Value}(t:Ty mem v T)(S:Sim W env outer loc mem R F s)(r:VR W F v v'):s.TypeIs v' T/\∀ a,v' = .ref a->∃ o,s.heap.get? a=some o/\o.dict=none:=by
 cases t with
 | str x=>obtain⟨_,rfl⟩:=r.isStr;exact⟨by exact typeIs_str s _ _,fun a e=>by cases e⟩
 | lst xs=>cases r.view with|lst f q=>exact⟨⟨_,S.frz _ _ f,rfl⟩,fun a e=>by cases e;exact⟨_,S.frz _ _ f,rfl⟩⟩
 | tup xs=>cases r.view with|tup f q=>exact⟨⟨_,S.frz _ _ f,rfl⟩,fun a e=>by cases e;exact⟨_,S.frz _ _ f,rfl⟩⟩
 | list h=>
  obtain rfl:=r.isRef
  obtain⟨o,ho,q⟩:=S.memOk _ _ h
  cases q.view
  exact⟨⟨_,ho,rfl⟩,fun a e=>by cases e;exact⟨_,ho,rfl⟩⟩
 | dict h=>
  obtain rfl:=r.isRef
  obtain⟨o,ho,q⟩:=S.memOk _ _ h
  cases q.view
  exact⟨⟨_,ho,rfl⟩,fun a e=>by cases e;exact⟨_,ho,rfl⟩⟩
theorem a6{v:V}{T:String}{name:Str}{id:String}{pl:Sem Bool}{pos:Pos}{e:PySem.Expr}{rest:List PySem.Expr}{Q:V->Loc->Mem->Prop}(t:Ty mem v T)(pa:PlainAttrs T)(slot:Slot T name id)(hty:typeOf (.builtin id)=pure (.type "method_descriptor"))
  (he:starEach (e::rest) env=(false,eval e env)::starEach rest env) (hplain:(backTo pos (starEach rest env)).any (·.1)=false)
  (h:TrL W A env outer (spliced (backTo pos (starEach (e::rest) env))) loc mem (fun xs l m=>Op W A env outer (VR W) (fun vs=>call (.builtin id) vs) (v::xs) l m Q E) E) :
  mM W A env outer name pl pos (e::rest) v loc mem Q E:=fun R F s v' S r=>by
 obtain⟨hT,hd⟩:=t.at S r
 refine getMethod_builtin hT pa slot hty hd ?_
 rw[he]
 refine Calls.callWith_builtin (by show(false || (backTo pos (starEach rest env)).any (·.1))=false;rw[hplain];rfl) (Calls.evalArgs_plain ?_)
 have h':=h R F s S
 rw[he]at h'
 refine aM (i:=.refl _) (RW:=VR W) (Q:=fun _ _ _=>True) h' fun vs s' F1 xs l1 m1 i1 r1 S1 h1=>?_
 exact wpAny_mono (h1 R F1 s' (v'::vs) S1 (.cons (r.mono i1) r1)) (fun _ _ p=>p.weaken i1) fun _ _ e=>E.up i1 e
theorem eE{v:V}{T:String}{name:Str}{id:String}{pl:Sem Bool}{pos:Pos}{Q:V->Loc->Mem->Prop}(t:Ty mem v T)(pa:PlainAttrs T)(slot:Slot T name id)(hty:typeOf (.builtin id)=pure (.type "method_descriptor"))
  (h:Op W A env outer (VR W) (fun vs=>call (.builtin id) vs) [v] loc mem Q E) :
  mM W A env outer name pl pos [] v loc mem Q E:=fun R F s v' S r=>by
 obtain⟨hT,hd⟩:=t.at S r
 refine getMethod_builtin hT pa slot hty hd ?_
 exact Calls.callWith_builtin rfl (PyProof.Rows.evalArgs_nil3 (h R F s [v'] S (.cons r .nil)))
theorem pf(args:Args):Code.cUnits (.builtin "type.__call__" args)≤8:=by
 show 1+3*(if (Code.builtin "type.__call__" args).isFrame=true then 1 else 0)≤8
 split<;>decide
theorem fW{m:Mem}{a b:Addr}(h:a≠b)(x y:ax):ap (ap m a x) b y=ap (ap m b y) a x:=by
 funext c
 unfold ap
 by_cases h1:c=b<;>by_cases h2:c=a<;>simp_all
theorem kR{name qual:Str}{params:Arguments}{body:List Stmt}{scope:Scope}{dV kV doc pm cdv ct oc:Value}{an od:Option Addr}{osl:Array (Option Value)}{C f:Addr}{xs:List V}{bs:Addr->List (Str×V)}{Q:V->Loc->Mem->Prop}
  (hm:makesIn W.K C=true) (hi:findIn W.K (.ref C) "__init__" = some (some (.ref f))) (hf:isFn W.K (.ref f)=true)
  (ho:W.K.lookup f=some ⟨oc,od,.func (fnOf name qual params body scope dV kV doc pm an cdv ct),osl⟩) (hcd:codeIn W.K cdv qual=true) (hroom:A.depth+1<recursionLimit)
  (hbind:∀ x:Addr,lW W (fnOf name qual params body scope dV kV doc pm an cdv ct) [] (.ref x::xs) (bs x)) (hloc:∀ x:Addr,∀ y∈bs x,scope.names.lookup y.1=some .local)
  (hcell:∀ x∈scope.names,x.2≠.cell) (hco:scope.isCoroutine=false) (hgen:scope.isGenerator=false) (hk:scope.kind = .function)
  (h:∀ (A':Around) (x d:Addr),A'.depth=A.depth+1->A'.handled=A.handled->A'.guards=A.guards->A'.frames=A.frames->A'.units≤A.units+8->mem x=none->mem d=none->x≠d->
   Body W A' env outer qual scope body cdv [] f (bs x).reverse (ap (ap mem d (.dict [] 0)) x (.inst C d)) (fun v m=>v = .none/\Q (.ref x) loc m) E) :
  Op W A env outer (VR W) (fun vs=>call (.ref C) vs) xs loc mem Q E:=fun R F s vs S r=>by
 have X:=S.kin
 obtain⟨hp,g,d,t,os⟩:=s
 refine wpAny_call (make_core (rest:=vs) (kw:=[]) (init:=.ref f) (makes_of X hm) (looks_findIn X hi) (fun self=>bind_fn X self (beq_iff_eq.mp hf)) (.inl (by simp)) ?_)
 have hd:hp.get? hp.objs.size=none:=aH hp
 have e1:(hp.push emptyDict).get? hp.objs.size=some emptyDict:=Heap.get?_push_size _ rfl
 have hsz:(hp.push emptyDict).objs.size=hp.objs.size+1:=Heap.size_push _ _
 have S1:=S.alloc (t:=t) (d:=d) (x:=.dict [] 0) (a:=hp.objs.size) (o':=emptyDict) hd S.size_le (fun b o e=>Heap.get?_push_of_some _ e) e1 (by
  have:emptyDict=dictOf [] 0:=rfl
  rw[this]
  exact .dict (kvs:=[]) ⟨#[],0,⟨rfl,rfl,rfl⟩,rfl,fun e he=>by simp at he,.nil,by simp⟩ .nil)
 have hx:(hp.push emptyDict).get? (hp.objs.size+1)=none:=dU (by rw[hsz];exact Nat.le_refl _)
 have S2:=S1.alloc (t:=t) (d:=d) (x:=.inst C hp.objs.size) (a:=hp.objs.size+1) (h':=(hp.push emptyDict).push (instObj C hp.objs.size)) (o':=instObj C hp.objs.size) hx (Nat.le_trans S.size_le (Nat.le_succ _)) (fun b o e=>Heap.get?_push_of_some _ e) (by rw[<-hsz];exact Heap.get?_push_size _ rfl) .inst
 obtain⟨bv,hb,rb⟩:=hbind (hp.objs.size+1) F _ (.ref (hp.objs.size+1)::vs) S.base S2.kin (.cons (.ref _) r)
 have hA:(A.under (.builtin "type.__call__" ⟨.ref C::vs,[]⟩)).depth=A.depth+1:=rfl
 refine kB S2 (S2.kin _ _ ho) rfl (codeRec_of S2.kin hcd) (by rw[hA];exact hroom) hb rb (hloc _) hcell hco hgen hk E (fun _ _ e=>e) (Q:=fun v m=>v = .none/\Q (.ref (hp.objs.size+1)) loc m) (fun F' v v' m' s' i rr S' q=>?_) ?_
 ·obtain⟨rfl,q⟩:=q
  obtain rfl:=rr.isNone
  exact⟨rfl,F',.ref (hp.objs.size+1),loc,m',i,.ref _,S',q⟩
 ·have m1:mem hp.objs.size=none:=(S.free hd).1
  have m2:mem (hp.objs.size+1)=none:=(S.free (dU (Nat.le_succ _))).1
  exact h _ (hp.objs.size+1) hp.objs.size hA rfl rfl (by show pushEnvs [] A.frames=A.frames;rfl) (by show A.units+Code.cUnits _≤_;exact Nat.add_le_add_left (pf _) _) m2 m1 (Nat.succ_ne_self _)
end
noncomputable def cr:Nat->V->PyData
 | _,.bool b=>.bool b
 | _,.int i=>.int i
 | _,.str s=>.str s
 | n+1,.tup xs=>.tuple (xs.map (cr n))
 | n+1,.lst xs=>.list (xs.map (cr n))
 | _,_=>.none
noncomputable def isD:Nat->V->Bool
 | _,.none=>true
 | _,.int _=>true
 | _,.str s=>PyData.strOk s
 | n+1,.tup xs=>xs.all (isD n)
 | n+1,.lst xs=>xs.all (isD n)
 | _,_=>false
section
variable {W:Wd}{F:Frz}
theorem hH{n:Nat}{h:Heap}(ih:∀ x v,isD n x=true->VR W F x v->∃ as,Reads h v (cr n x) as) :
  ∀ {xs:List V} {vs:List Value},xs.all (isD n)=true->VRs W F xs vs->∃ as,ReadsAll h vs (xs.map (cr n)) as:=by
 intro xs vs hd r
 induction xs generalizing vs with
 | nil=>obtain rfl:=r.isNil;exact⟨[],.nil⟩
 | cons x xs ih2=>
  obtain⟨_,_,r1,r2,rfl⟩:=r.isCons
  rw[List.all_cons,Bool.and_eq_true]at hd
  obtain⟨as,ra⟩:=ih x _ hd.1 r1
  obtain⟨bs,rb⟩:=ih2 hd.2 r2
  exact⟨as++bs,.cons ra rb⟩
theorem VR.reads{h:Heap}(hF:∀ a o,F a o->h.get? a=some o):∀ {n:Nat} {x:V} {v:Value},isD n x=true->VR W F x v->∃ as,Reads h v (cr n x) as:=by
 intro n
 induction n with
 | zero=>
  intro x v hd r
  cases r<;>first|exact⟨_,.none⟩|exact⟨_,.int _ _⟩|exact⟨_,.str _ _⟩|cases hd
 | succ n ih=>
  intro x v hd r
  cases r with
  | none=>exact⟨_,.none⟩
  | int=>exact⟨_,.int _ _⟩
  | str=>exact⟨_,.str _ _⟩
  | bool=>cases hd
  | ref=>cases hd
  | glob=>cases hd
  | ins=>cases hd
  | tup f q=>
   obtain⟨as,ra⟩:=hH (fun x v a b=>ih a b) hd q
   exact⟨_,.tuple (hF _ _ f) rfl rfl ra⟩
  | lst f q=>
   obtain⟨as,ra⟩:=hH (fun x v a b=>ih a b) hd q
   exact⟨_,.list (hF _ _ f) rfl rfl ra⟩
end
theorem dM(ds:List PyData):PyData.canLayAll0 ds=ds.all PyData.canLay0:=by
 induction ds with
 | nil=>rfl
 | cons d ds ih=>rw[PyData.canLayAll0,List.all_cons,ih]
theorem isD_can:∀ {n:Nat} {x:V},isD n x=true->(cr n x).canLay0=true/\(cr n x).depth≤n:=by
 intro n
 have da:∀ {m:Nat} {ds:List PyData},(∀ d∈ds,d.depth≤m)->PyData.depthAll ds≤m:=by
  intro m ds
  induction ds with
  | nil=>intro _;exact Nat.zero_le _
  | cons d ds ih=>intro h;rw[PyData.depthAll];exact Nat.max_le.mpr ⟨h d (.head _),ih fun e he=>h e (.tail _ he)⟩
 induction n with
 | zero=>
  intro x hd
  cases x with
  | none=>exact⟨rfl,Nat.le_refl _⟩
  | int=>exact⟨rfl,Nat.le_refl _⟩
  | str s=>exact⟨hd,Nat.le_refl _⟩
  | _=>cases hd
 | succ n ih=>
  intro x hd
  cases x with
  | none=>exact⟨rfl,Nat.zero_le _⟩
  | int=>exact⟨rfl,Nat.zero_le _⟩
  | str s=>exact⟨hd,Nat.zero_le _⟩
  | bool=>cases hd
  | ref=>cases hd
  | glob=>cases hd
  | ins=>cases hd
  | tup xs=>
   have hd':xs.all (isD n)=true:=hd
   show(PyData.tuple (xs.map (cr n))).canLay0=true/\(PyData.tuple (xs.map (cr n))).depth≤n+1
   rw[PyData.canLay0,PyData.depth,dM]
   refine⟨?_,Nat.succ_le_succ (da ?_)⟩
   ·rw[List.all_map,List.all_eq_true];exact fun x hx=>(ih (List.all_eq_true.mp hd' x hx)).1
   ·intro d hd;obtain⟨x,hx,rfl⟩:=inM hd;exact(ih (List.all_eq_true.mp hd' x hx)).2
  | lst xs=>
   have hd':xs.all (isD n)=true:=hd
   show(PyData.list (xs.map (cr n))).canLay0=true/\(PyData.list (xs.map (cr n))).depth≤n+1
   rw[PyData.canLay0,PyData.depth,dM]
   refine⟨?_,Nat.succ_le_succ (da ?_)⟩
   ·rw[List.all_map,List.all_eq_true];exact fun x hx=>(ih (List.all_eq_true.mp hd' x hx)).1
   ·intro d hd;obtain⟨x,hx,rfl⟩:=inM hd;exact(ih (List.all_eq_true.mp hd' x hx)).2
theorem cy{n:Nat}{x:V}(h:isD n x=true)(hn:n≤64):SeqAt.shaped (cr n x)=true:=by
 obtain⟨a,b⟩:=isD_can h
 unfold SeqAt.shaped
 rw[a,Bool.true_and]
 exact decide_eq_true (Nat.le_trans b hn)
theorem jh{n:Nat}{xs:List V}(h:xs.all (isD n)=true)(hn:n<64):SeqAt.shaped (.list (xs.map (cr n)))=true/\SeqAt.shaped (.tuple (xs.map (cr n)))=true:=
 ⟨cy (x:=.lst xs) (n:=n+1) h hn,cy (x:=.tup xs) (n:=n+1) h hn⟩
mutual
noncomputable def noB:PyData->Bool
 | .list xs=>jD xs
 | .tuple xs=>jD xs
 | .none|.int _|.str _=>true
 | _=>false
noncomputable def jD:List PyData->Bool
 | []=>true
 | x::xs=>noB x&&jD xs
end
mutual
theorem lU:∀ d e:PyData,noB d=true->noB e=true->SeqAt.noMix d e=true
 | .list xs,.list ys,h,g=>g5 xs ys h g
 | .tuple xs,.tuple ys,h,g=>g5 xs ys h g
 | .none,e,_,_=>by cases e<;>rfl
 | .str _,e,_,_=>by cases e<;>rfl
 | .int _,e,_,g=>by cases e<;>first|rfl|cases g
 | .list _,.none,_,_=>rfl
 | .list _,.int _,_,_=>rfl
 | .list _,.str _,_,_=>rfl
 | .list _,.tuple _,_,_=>rfl
 | .tuple _,.none,_,_=>rfl
 | .tuple _,.int _,_,_=>rfl
 | .tuple _,.str _,_,_=>rfl
 | .tuple _,.list _,_,_=>rfl
theorem g5:∀ xs ys:List PyData,jD xs=true->jD ys=true->SeqAt.noMixAll xs ys=true
 | [],[],_,_=>rfl
 | [],_::_,_,_=>rfl
 | _::_,[],_,_=>rfl
 | x::xs,y::ys,h,g=>by
  change (noB x&&jD xs)=true at h
  change (noB y&&jD ys)=true at g
  rw[Bool.and_eq_true]at h g
  rw[SeqAt.noMixAll,lU x y h.1 g.1,g5 xs ys h.2 g.2];rfl
end
theorem noBs_of{ds:List PyData}(h:∀ d∈ds,noB d=true):jD ds=true:=by
 induction ds with
 | nil=>rfl
 | cons d ds ih=>show(noB d&&jD ds)=true;rw[h d (.head _),ih fun e he=>h e (.tail _ he)];rfl
theorem nF:∀ {n:Nat} {x:V},isD n x=true->noB (cr n x)=true:=by
 intro n
 induction n with
 | zero=>intro x h;cases x<;>first|rfl|cases h
 | succ n ih=>
  intro x h
  have all:∀ {xs:List V},xs.all (isD n)=true->jD (xs.map (cr n))=true:=fun h=>noBs_of fun d hd=>by
   obtain⟨a,ha,rfl⟩:=inM hd
   exact ih (List.all_eq_true.mp h a ha)
  cases x with
  | tup xs=>exact all h
  | lst xs=>exact all h
  | none=>rfl
  | int=>rfl
  | str=>rfl
  | bool=>cases h
  | ins=>cases h
  | ref=>cases h
  | glob=>cases h
theorem fT{n m:Nat}{x y:V}(hx:isD n x=true)(hy:isD m y=true):SeqAt.noMix (cr n x) (cr m y)=true:=lU _ _ (nF hx) (nF hy)
noncomputable def ofD:Nat->PyData->V
 | _,.int i=>.int i
 | _,.str s=>.str s
 | n+1,.tuple xs=>.tup (xs.map (ofD n))
 | n+1,.list xs=>.lst (xs.map (ofD n))
 | _,_=>.none
theorem lB:∀ {n k:Nat} {x:V},isD n x=true->n≤k->ofD k (cr n x)=x:=by
 intro n
 induction n with
 | zero=>intro k x h _;cases x<;>first|(cases k<;>rfl)|cases h
 | succ n ih=>
  intro k x h hk
  cases k with
  | zero=>exact absurd hk (Nat.not_succ_le_zero _)
  | succ k=>
   have all:∀ {xs:List V},xs.all (isD n)=true->(xs.map (cr n)).map (ofD k)=xs:=fun {xs} h=>by
    rw[List.map_map]
    exact(List.map_congr_left fun a ha=>ih (List.all_eq_true.mp h a ha) (Nat.le_of_succ_le_succ hk)).trans (List.map_id xs)
   cases x with
   | tup xs=>exact congrArg V.tup (all h)
   | lst xs=>exact congrArg V.lst (all h)
   | none=>rfl
   | int=>rfl
   | str=>rfl
   | bool=>cases h
   | ins=>cases h
   | ref=>cases h
   | glob=>cases h
theorem iO{n m:Nat}{x y:V}(hx:isD n x=true)(hy:isD m y=true):Spec.same (cr n x) (cr m y)=true↔x=y:=by
 rw[PyProof.Rows.same_iff]
 refine⟨fun e=>?_,fun e=>?_⟩
 ·rw[<-lB hx (Nat.le_max_left n m),e,lB hy (Nat.le_max_right n m)]
 ·have:∀ {n m:Nat} {x:V},isD n x=true->isD m x=true->cr n x=cr m x:=by
   intro n
   induction n with
   | zero=>intro m x h g;cases x<;>first|(cases m<;>rfl)|cases h
   | succ n ih=>
    intro m x h g
    cases m with
    | zero=>cases x<;>first|rfl|cases g
    | succ m=>
     have all:∀ {xs:List V},xs.all (isD n)=true->xs.all (isD m)=true->xs.map (cr n)=xs.map (cr m):=fun {xs} h g=>List.map_congr_left fun a ha=>ih (List.all_eq_true.mp h a ha) (List.all_eq_true.mp g a ha)
     cases x with
     | tup xs=>exact congrArg PyData.tuple (all h g)
     | lst xs=>exact congrArg PyData.list (all h g)
     | none=>rfl
     | int=>rfl
     | str=>rfl
     | bool=>rfl
     | ins=>rfl
     | ref=>rfl
     | glob=>rfl
  subst e
  exact this hx hy
section
variable {W:Wd}{A:Around}{env:Env}{outer:ay}{loc:Loc}{mem R:Mem}{E:Ex W}{F:Frz}{s:Shared}
noncomputable abbrev OpV(W:Wd)(A:Around)(env:Env)(outer:ay)(f:List Value->Sem Value)(xs:List V)(loc:Loc)(mem:Mem)(Q:V->Loc->Mem->Prop)(E:Ex W):Prop:=Op W A env outer (VR W) f xs loc mem Q E
noncomputable abbrev OpB(W:Wd)(A:Around)(env:Env)(outer:ay)(f:List Value->Sem Bool)(xs:List V)(loc:Loc)(mem:Mem)(Q:Bool->Loc->Mem->Prop)(E:Ex W):Prop:=Op W A env outer (fun _ (b c:Bool)=>c=b) f xs loc mem Q E
noncomputable abbrev OpU(W:Wd)(A:Around)(env:Env)(outer:ay)(f:List Value->Sem Unit)(xs:List V)(loc:Loc)(mem:Mem)(Q:Loc->Mem->Prop)(E:Ex W):Prop:=Op W A env outer (fun _ (_ _:Unit)=>True) f xs loc mem (fun _=>Q) E
theorem op1{α β:Type}{RV:Frz->β->α->Prop}{f:List Value->Sem α}{x:V}{Q:β->Loc->Mem->Prop}
  (h:∀ R F s v,Sim W env outer loc mem R F s->VR W F x v->wpAny (model W.prog W.w) A (f [v]) (aE W env outer RV R F Q) (E.p R F) s):Op W A env outer RV f [x] loc mem Q E:=fun R F s vs S r=>by
 cases r.view with|cons r1 r2=>obtain rfl:=r2.isNil;exact h R F s _ S r1
theorem op2{α β:Type}{RV:Frz->β->α->Prop}{f:List Value->Sem α}{x y:V}{Q:β->Loc->Mem->Prop}
  (h:∀ R F s v u,Sim W env outer loc mem R F s->VR W F x v->VR W F y u->wpAny (model W.prog W.w) A (f [v,u]) (aE W env outer RV R F Q) (E.p R F) s):Op W A env outer RV f [x,y] loc mem Q E:=fun R F s vs S r=>by
 cases r with|cons r1 r2=>cases r2 with|cons r2 r3=>cases r3;exact h R F s _ _ S r1 r2
theorem op3{α β:Type}{RV:Frz->β->α->Prop}{f:List Value->Sem α}{x y z:V}{Q:β->Loc->Mem->Prop}
  (h:∀ R F s v u t,Sim W env outer loc mem R F s->VR W F x v->VR W F y u->VR W F z t->wpAny (model W.prog W.w) A (f [v,u,t]) (aE W env outer RV R F Q) (E.p R F) s):Op W A env outer RV f [x,y,z] loc mem Q E:=fun R F s vs S r=>by
 cases r with|cons r1 r2=>cases r2 with|cons r2 r3=>cases r3 with|cons r3 r4=>cases r4;exact h R F s _ _ _ S r1 r2 r3
theorem pH{a b:Int}{Q:V->Loc->Mem->Prop}(h:Q (.int (a+b)) loc mem):OpV W A env outer (fun|[x,y]=>binaryOp .Add x y|_=>pure .none) [.int a,.int b] loc mem Q E:=op2 fun R F s v u S r1 r2=>by
 obtain⟨_,rfl⟩:=r1.isInt;obtain⟨_,rfl⟩:=r2.isInt;exact PyProof.Rows.add_int (aE.mk (.int _ _) S.tick h)
theorem sub_ii{a b:Int}{Q:V->Loc->Mem->Prop}(h:Q (.int (a - b)) loc mem):OpV W A env outer (fun|[x,y]=>binaryOp .Sub x y|_=>pure .none) [.int a,.int b] loc mem Q E:=op2 fun R F s v u S r1 r2=>by
 obtain⟨_,rfl⟩:=r1.isInt;obtain⟨_,rfl⟩:=r2.isInt;exact PyProof.Rows.sub_int (aE.mk (.int _ _) S.tick h)
theorem isub_ii{a b:Int}{Q:V->Loc->Mem->Prop}(h:Q (.int (a - b)) loc mem):OpV W A env outer (fun|[x,y]=>inplaceOp .Sub x y|_=>pure .none) [.int a,.int b] loc mem Q E:=op2 fun R F s v u S r1 r2=>by
 obtain⟨_,rfl⟩:=r1.isInt;obtain⟨_,rfl⟩:=r2.isInt;exact PyProof.Rows.isub_int (aE.mk (.int _ _) S.tick h)
theorem gJ{a b:Int}{Q:V->Loc->Mem->Prop}(hb:b≠0)(h:Q (.int (a.fmod b)) loc mem):OpV W A env outer (fun|[x,y]=>binaryOp .Mod x y|_=>pure .none) [.int a,.int b] loc mem Q E:=op2 fun R F s v u S r1 r2=>by
 obtain⟨_,rfl⟩:=r1.isInt;obtain⟨_,rfl⟩:=r2.isInt;exact PyProof.Rows.mod_int hb (aE.mk (.int _ _) S.tick h)
theorem eq_ii{a b:Int}{Q:V->Loc->Mem->Prop}(h:Q (.bool (decide (a=b))) loc mem):OpV W A env outer (fun|[x,y]=>compareOp .Eq x y|_=>pure .none) [.int a,.int b] loc mem Q E:=op2 fun R F s v u S r1 r2=>by
 obtain⟨_,rfl⟩:=r1.isInt;obtain⟨_,rfl⟩:=r2.isInt;exact PyProof.Rows.eq_int (aE.mk (.bool _) S (show Q (.bool (decide (a=b))) loc mem from h))
theorem lt_ii{a b:Int}{Q:V->Loc->Mem->Prop}(h:Q (.bool (decide (a<b))) loc mem):OpV W A env outer (fun|[x,y]=>compareOp .Lt x y|_=>pure .none) [.int a,.int b] loc mem Q E:=op2 fun R F s v u S r1 r2=>by
 obtain⟨_,rfl⟩:=r1.isInt;obtain⟨_,rfl⟩:=r2.isInt;exact PyProof.Rows.lt_int (aE.mk (.bool _) S h)
theorem nV{a b:Int}{Q:V->Loc->Mem->Prop}(h:Q (.bool (decide (b<a))) loc mem):OpV W A env outer (fun|[x,y]=>compareOp .Gt x y|_=>pure .none) [.int a,.int b] loc mem Q E:=op2 fun R F s v u S r1 r2=>by
 obtain⟨_,rfl⟩:=r1.isInt;obtain⟨_,rfl⟩:=r2.isInt;exact PyProof.Rows.gt_int (aE.mk (.bool _) S h)
theorem qc{a:Int}{Q:V->Loc->Mem->Prop}(h:Q (.int (-a)) loc mem):OpV W A env outer (fun|[x]=>unaryOp .USub x|_=>pure .none) [.int a] loc mem Q E:=op1 fun R F s v S r1=>by
 obtain⟨_,rfl⟩:=r1.isInt;exact PyProof.Rows.neg_int (aE.mk (.int _ _) S.tick h)
theorem nR{a b:Str}{Q:V->Loc->Mem->Prop}(h:Q (.bool (decide (a=b))) loc mem):OpV W A env outer (fun|[x,y]=>compareOp .Eq x y|_=>pure .none) [.str a,.str b] loc mem Q E:=op2 fun R F s v u S r1 r2=>by
 obtain⟨_,rfl⟩:=r1.isStr;obtain⟨_,rfl⟩:=r2.isStr;exact PyProof.Rows.eq_str (aE.mk (.bool _) S (by have:(a==b)=decide (a=b):=rfl;rw[this];exact h))
theorem l8{a b:Str}{Q:V->Loc->Mem->Prop}(h:Q (.bool (!decide (a=b))) loc mem):OpV W A env outer (fun|[x,y]=>compareOp .NotEq x y|_=>pure .none) [.str a,.str b] loc mem Q E:=op2 fun R F s v u S r1 r2=>by
 obtain⟨_,rfl⟩:=r1.isStr;obtain⟨_,rfl⟩:=r2.isStr;exact PyProof.Rows.ne_str (aE.mk (.bool _) S (by have:(a != b) = !decide (a=b):=rfl;rw[this];exact h))
theorem add_ss{a b:Str}{Q:V->Loc->Mem->Prop}(hsz:a.length+b.length≤sizeLine)(h:Q (.str (a++b)) loc mem):OpV W A env outer (fun|[x,y]=>binaryOp .Add x y|_=>pure .none) [.str a,.str b] loc mem Q E:=op2 fun R F s v u S r1 r2=>by
 obtain⟨_,rfl⟩:=r1.isStr;obtain⟨_,rfl⟩:=r2.isStr;exact PyProof.Rows.add_str (fun t' k=>aE.mk (.str _ _) S.tick h) hsz
theorem eq_dd{n m:Nat}{x y:V}{Q:V->Loc->Mem->Prop}(hx:isD n x=true)(hy:isD m y=true)(hn:n≤64)(hm:m≤64)(hu:A.units+64<cLine)(h:∀ b:Bool,(b=true↔x=y)->Q (.bool b) loc mem) :
  OpV W A env outer (fun|[x,y]=>compareOp .Eq x y|_=>pure .none) [x,y] loc mem Q E:=op2 fun R F s v u S r1 r2=>by
 obtain⟨as,ra⟩:=r1.reads S.frz hx
 obtain⟨bs,rb⟩:=r2.reads S.frz hy
 exact eq_dataH_same ra rb (cy hx hn) (cy hy hm) hu (fT hx hy) (aE.mk (.bool _) S (h _ (iO hx hy)))
theorem p4{n m:Nat}{x y:V}{Q:V->Loc->Mem->Prop}(hx:isD n x=true)(hy:isD m y=true)(hn:n≤64)(hm:m≤64)(hu:A.units+64<cLine)(h:∀ b:Bool,(b=true↔x=y)->Q (.bool (!b)) loc mem) :
  OpV W A env outer (fun|[x,y]=>compareOp .NotEq x y|_=>pure .none) [x,y] loc mem Q E:=op2 fun R F s v u S r1 r2=>by
 obtain⟨as,ra⟩:=r1.reads S.frz hx
 obtain⟨bs,rb⟩:=r2.reads S.frz hy
 exact ne_dataH_same ra rb (cy hx hn) (cy hy hm) hu (fT hx hy) (aE.mk (.bool _) S (h _ (iO hx hy)))
end
section
variable {W:Wd}{A:Around}{env:Env}{outer:ay}{loc:Loc}{mem R:Mem}{E:Ex W}{F:Frz}{s:Shared}
inductive Sq(mem:Mem):V->String->List V->Prop
 | lst (xs:List V):Sq mem (.lst xs) "list" xs
 | tup (xs:List V):Sq mem (.tup xs) "tuple" xs
 | own {a:Addr} {xs:List V}:mem a=some (.list xs)->Sq mem (.ref a) "list" xs
theorem Sq.at{v:V}{T:String}{xs:List V}{v':Value}(q:Sq mem v T xs)(S:Sim W env outer loc mem R F s)(r:VR W F v v') :
  ∃ a vs n,v' = .ref a/\s.heap.get? a=some { cls:=.type T,data:=.seq vs n }/\VRs W F xs vs.toList:=by
 cases q with
 | lst xs=>cases r.view with|lst f q=>exact⟨_,_,_,rfl,S.frz _ _ f,q⟩
 | tup xs=>cases r.view with|tup f q=>exact⟨_,_,_,rfl,S.frz _ _ f,q⟩
 | own h=>
  obtain rfl:=r.isRef
  obtain⟨o,ho,q⟩:=S.memOk _ _ h
  cases q with
  | list q=>exact⟨_,_,_,rfl,ho,q⟩
theorem Sq.kind{v:V}{T:String}{xs:List V}(q:Sq mem v T xs):T = "list"\/T = "tuple":=by cases q<;>simp
theorem VRs.size{xs:List V}{vs:Array Value}(r:VRs W F xs vs.toList):vs.size=xs.length:=by rw[<-r.length,Array.length_toList]
theorem VRs.get{xs:List V}{vs:List Value}(r:VRs W F xs vs):∀ {i:Nat} {x:V},xs[i]? = some x->∃ v,vs[i]? = some v/\VR W F x v:=by
 induction xs generalizing vs with
 | nil=>intro i x h;cases h
 | cons y ys ih=>
  obtain⟨_,_,r1,r2,rfl⟩:=r.isCons
  intro i x h
  cases i with
  | zero=>cases h;exact⟨_,rfl,r1⟩
  | succ i=>exact ih r2 h
theorem VRs.getA{xs:List V}{vs:Array Value}(r:VRs W F xs vs.toList){i:Nat}{x:V}(h:xs[i]? = some x):∃ v,vs[i]? = some v/\VR W F x v:=by
 obtain⟨v,a,b⟩:=r.get h;exact⟨v,by rw[<-a,Array.getElem?_toList],b⟩
theorem VRs.app{xs ys:List V}{vs ws:List Value}(r:VRs W F xs vs)(q:VRs W F ys ws):VRs W F (xs++ys) (vs++ws):=by
 induction xs generalizing vs with
 | nil=>obtain rfl:=r.isNil;exact q
 | cons x xs ih=>cases r.view with|cons r1 r2=>exact .cons r1 (ih r2)
theorem VRs.take{xs:List V}{vs:List Value}(r:VRs W F xs vs)(k:Nat):VRs W F (xs.take k) (vs.take k):=by
 induction k generalizing xs vs with
 | zero=>exact .nil
 | succ k ih=>cases r with|nil=>exact .nil|cons r1 r2=>exact .cons r1 (ih r2)
theorem jw{v:V}{T:String}{xs:List V}{Q:V->Loc->Mem->Prop}(q:Sq mem v T xs)(hz:(xs.length:Int)<2 ^ 63)(h:Q (.int xs.length) loc mem):OpV W A env outer (fun vs=>call (.builtin "len") vs) [v] loc mem Q E:=op1 fun R F s v' S r=>by
 obtain⟨a,vs,n,rfl,ho,rs⟩:=q.at S r
 have hs:=rs.size
 rcases q.kind with rfl|rfl
 ·exact call_len_list (items:=vs) ⟨_,ho,rfl,n,rfl⟩ (by rw[hs];exact hz) (aE.mk (.int _ _) S.tick (by rw[hs];exact h))
 ·exact len_tuple (items:=vs) ⟨_,ho,rfl,n,rfl⟩ (by rw[hs];exact hz) (aE.mk (.int _ _) S.tick (by rw[hs];exact h))
theorem fS{v:V}{xs:List V}{Q:Bool->Loc->Mem->Prop}(q:Sq mem v "list" xs)(hz:(xs.length:Int)<2 ^ 63)(h:Q (!xs.isEmpty) loc mem):OpB W A env outer (fun|[x]=>truthy x|_=>pure false) [v] loc mem Q E:=op1 fun R F s v' S r=>by
 obtain⟨a,vs,n,rfl,ho,rs⟩:=q.at S r
 have hs:=rs.size
 have he:vs.isEmpty=xs.isEmpty:=by
  rw[Array.isEmpty,hs];cases xs<;>simp
 exact wpAny_truthy_list (items:=vs) ⟨_,ho,rfl,n,rfl⟩ (by rw[hs];exact hz) (aE.mk (by rw[he]) S.tick h)
theorem cN{value slice:PySem.Expr}{pos:Pos}{Q:V->Loc->Mem->Prop}(hs:∀ o i,subscripted slice false o i=operate [o,i] (getItem o i))
  (h:TrV W A env outer (eval value env) loc mem (fun o l m=>TrV W A env outer (eval slice env) l m (fun i l m=>∃ T id,Ty m o T/\typeLookup (.type T) "__getitem__" = pure (some (.builtin id))/\
   OpV W A env outer (fun|[x,y]=>getItem x y|_=>pure .none) [o,i] l m Q E) E) E):TrV W A env outer (eval (.Subscript value slice pos) env) loc mem Q E:=fun R F s S=>
 Subscript_ (aM (i:=.refl _) (RW:=VR W) (Q:=fun _ _ _=>True) (h R F s S) fun v' s' F1 f l1 m1 i1 r1 S1 h1=>
  aM (i:=‹_›) (RW:=VR W) (Q:=fun _ _ _=>True) (h1 R F1 s' S1) fun u' s2 F2 g l2 m2 i2 r2 S2 h2=>by
   obtain⟨T,id,ty,hl,op⟩:=h2
   have r1':=r1.mono i2
   exact PyProof.Rows.tail_any (ty.at S2 r1').1 hl (wpAny_mono (op R F2 s2 [v',u'] S2 (.cons r1' (.cons r2 .nil))) (fun _ _ p=>p.weaken (i1.trans i2)) fun _ _ e=>E.up (i1.trans i2) e) (hs _ _))
theorem Sq.ty{v:V}{T:String}{xs:List V}(q:Sq mem v T xs):Ty mem v T:=by
 cases q with
 | lst xs=>exact .lst xs
 | tup xs=>exact .tup xs
 | own h=>exact .list h
theorem ef{k:Int}{n:Nat}(h0:0≤k)(hn:k.toNat<n):seqIndex? k n=some k.toNat:=by
 unfold seqIndex?
 have h1:¬ k<0:=by lia
 simp only [h1,if_false]
 have h2:0≤k/\k<(n:Int):=⟨h0,by lia⟩
 simp[h2]
 try omega
theorem i9{v:V}{T:String}{xs:List V}{k:Int}{x:V}{Q:V->Loc->Mem->Prop}(q:Sq mem v T xs)(h0:0≤k)(hk:k<2 ^ 63)(hx:xs[k.toNat]? = some x)(h:Q x loc mem) :
  OpV W A env outer (fun|[x,y]=>getItem x y|_=>pure .none) [v,.int k] loc mem Q E:=op2 fun R F s v' i' S r ri=>by
 obtain⟨a,vs,n,rfl,ho,rs⟩:=q.at S r
 cases ri
 obtain⟨u,hu,ru⟩:=rs.getA hx
 rcases q.kind with rfl|rfl
 ·exact wpAny_getItem_list (items:=vs) ⟨_,ho,rfl,n,rfl⟩ h0 hk hu (aE.mk ru S h)
 ·have hlt:k.toNat<vs.size:=by
   rw[Array.getElem?_eq_some_iff]at hu
   exact hu.1
  exact getItem_tuple (items:=vs) ⟨_,ho,rfl,n,rfl⟩ (by lia) hk (ef h0 hlt) hu (aE.mk ru S h)
theorem cf{xs:List V}{Q:V->Loc->Mem->Prop}(hz:xs.length≤sizeLine)(h:Q (.tup xs) loc mem):OpV W A env outer newTuple xs loc mem Q E:=fun R F s vs S r=>by
 refine wpAny_newTuple ?_ (by rw[r.length];exact hz)
 have S':=S.freeze (t:=s.toks) (d:=s.drawn) (o':={ cls:=.type "tuple",data:=.seq vs.toArray }) (aH s.heap) (fun b o e=>Heap.get?_push_of_some _ e) (Heap.get?_push_size _ rfl)
 exact⟨_,.tup xs,loc,mem,aV.fadd _ _ _,.tup (.inr ⟨rfl,rfl⟩) (by simpa using r.mono (aV.fadd _ _ _)),S',h⟩
theorem bp{xs:List V}{Q:V->Loc->Mem->Prop}(hz:xs.length≤sizeLine)(h:Q (.lst xs) loc mem):OpV W A env outer newList xs loc mem Q E:=fun R F s vs S r=>by
 refine wpAny_newList ?_ (by rw[r.length];exact hz)
 have S':=S.freeze (t:=s.toks) (d:=s.drawn) (o':={ cls:=.type "list",data:=.seq vs.toArray }) (aH s.heap) (fun b o e=>Heap.get?_push_of_some _ e) (Heap.get?_push_size _ rfl)
 exact⟨_,.lst xs,loc,mem,aV.fadd _ _ _,.lst (.inr ⟨rfl,rfl⟩) (by simpa using r.mono (aV.fadd _ _ _)),S',h⟩
theorem kL{xs:List V}{Q:V->Loc->Mem->Prop}(hz:xs.length≤sizeLine)(h:∀ a,mem a=none->Q (.ref a) loc (ap mem a (.list xs))):OpV W A env outer newList xs loc mem Q E:=fun R F s vs S r=>by
 refine wpAny_newList ?_ (by rw[r.length];exact hz)
 have S':=S.alloc (t:=s.toks) (d:=s.drawn) (x:=.list xs) (o':={ cls:=.type "list",data:=.seq vs.toArray }) (aH s.heap) S.size_le (fun b o e=>Heap.get?_push_of_some _ e) (Heap.get?_push_size _ rfl) (.list (by simpa using r))
 exact aE.mk (.ref _) S' (h _ (S.free (aH s.heap)).1)
theorem ca{elts:List PySem.Expr}{k:Nat}{pos:Pos}{Q:V->Loc->Mem->Prop}(h:TrL W A env outer (spliced (backTo pos (starEach elts env))) loc mem (fun xs l m=>OpV W A env outer newTuple xs l m Q E) E) :
  TrV W A env outer (eval (.Tuple elts k pos) env) loc mem Q E:=fun R F s S=>
 PyProof.Rows.Tuple_ (aM (i:=.refl _) (RW:=VR W) (Q:=fun _ _ _=>True) (h R F s S) fun vs s' F1 xs l1 m1 i1 r1 S1 h1=>wpAny_mono (h1 R F1 s' vs S1 r1) (fun _ _ p=>p.weaken i1) fun _ _ e=>E.up i1 e)
theorem aW{elts:List PySem.Expr}{pos:Pos}{Q:V->Loc->Mem->Prop}(h:TrL W A env outer (spliced (backTo pos (starEach elts env))) loc mem (fun xs l m=>OpV W A env outer newList xs l m Q E) E) :
  TrV W A env outer (eval (.List elts pos) env) loc mem Q E:=fun R F s S=>
 PyProof.Rows.List_ (aM (i:=.refl _) (RW:=VR W) (Q:=fun _ _ _=>True) (h R F s S) fun vs s' F1 xs l1 m1 i1 r1 S1 h1=>wpAny_mono (h1 R F1 s' vs S1 r1) (fun _ _ p=>p.weaken i1) fun _ _ e=>E.up i1 e)
theorem gg{a:Addr}{xs:List V}{x:V}{Q:V->Loc->Mem->Prop}(h1:mem a=some (.list xs))(hz:xs.length≤sizeLine)(h:Q .none loc (ap mem a (.list (xs++[x])))) :
  OpV W A env outer (fun vs=>call (.builtin "list.append") vs) [.ref a,x] loc mem Q E:=op2 fun R F s v' i' S r ri=>by
 obtain rfl:=r.isRef
 obtain⟨o,ho,q⟩:=S.memOk _ _ h1
 cases q with
 | @list _ vs n q=>
  refine append_at ho (fun h' hs ho'=>?_) (by rw[q.size];exact hz)
  exact aE.mk .none (S.upd (t:=s.toks) (d:=s.drawn) h1 (fun b ob hb e=>(hs.2 b hb).trans e) ho' (.list (by simpa using q.app (.cons ri .nil)))) h
theorem ql{a:Addr}{xs:List V}{x:V}{Q:V->Loc->Mem->Prop}(h1:mem a=some (.list (x::xs)))(hz:xs.length+1≤sizeLine)(h:Q x loc (ap mem a (.list xs))) :
  OpV W A env outer (fun vs=>call (.builtin "list.pop") vs) [.ref a,.int 0] loc mem Q E:=op2 fun R F s v' i' S r ri=>by
 obtain rfl:=r.isRef
 cases ri
 obtain⟨o,ho,q⟩:=S.memOk _ _ h1
 cases q with
 | @list _ vs n q=>
  obtain⟨m,hn,l⟩:=S.ns
  obtain⟨us,hus⟩:∃ us,vs=List.toArray us:=⟨vs.toList,by simp⟩
  subst hus
  have q':VRs W F (x::xs) us:=by simpa using q
  cases q' with
  | @cons _ u _ us r1 r2=>
   refine kl_popAt (k:=0) (p:=[]) (y:=u) (q:=us) (S.fr hn) (S.newsAll h1 ho) (by decide) (by
    rw[ef (Int.le_refl 0) (by simp)];rfl) (by simp[kl_cut]) (.head fun p hp=>j2 hp) (by simp[r2.length];lia) fun h' F' N'=>?_
   exact aE.mk r1 (S.updN (t:=s.toks) (d:=s.drawn) h1 l F' N' (.list (by simpa using r2))) h
theorem list_sq{v:V}{T:String}{xs:List V}{Q:V->Loc->Mem->Prop}(q:Sq mem v T xs)(hz:xs.length≤sizeLine)(h:∀ a,mem a=none->Q (.ref a) loc (ap mem a (.list xs))) :
  OpV W A env outer (fun vs=>call (.type "list") vs) [v] loc mem Q E:=op1 fun R F s v' S r=>by
 obtain⟨a,vs,n,rfl,ho,rs⟩:=q.at S r
 refine call_list_seq (items:=vs) (hsz:=by rw[rs.size];exact hz) a q.kind ho rfl rfl fun h' c' hk hD=>?_
 have S':=S.alloc (t:=s.toks) (d:=s.drawn) (x:=.list xs) (aH s.heap) S.size_le hk hD (.list rs)
 exact aE.mk (.ref _) S' (h _ (S.free (aH s.heap)).1)
end
section
variable {W:Wd}{A:Around}{env:Env}{outer:ay}{loc:Loc}{mem R:Mem}{E:Ex W}{F:Frz}{s:Shared}
theorem bo.growBut{it:Addr}{x:ax}{h':Heap}{t:Nat}{d:Drawn}(S:bo W env outer loc (ap mem it x) F s)(hm:mem it=none)(hk:∀ b o,b≠it->s.heap.get? b=some o->h'.get? b=some o) :
  bo W env outer loc mem F { s with heap:=h',toks:=t,drawn:=d }:=by
 have up:∀ {a y},mem a=some y->a≠it/\ap mem it x a=some y:=fun {a y} e=>by
  have:a≠it:=fun q=>by rw[q,hm]at e;cases e
  exact⟨this,by rw[af this];exact e⟩
 have dn:∀ {a},ap mem it x a=none->a≠it/\mem a=none:=fun {a} e=>by
  have:a≠it:=fun q=>by rw[q,mset_self]at e;cases e
  exact⟨this,by rw[af this]at e;exact e⟩
 exact {
  frz:=fun a o h=>hk _ _ (dn (S.memF a o h)).1 (S.frz a o h)
  base:=S.base
  memF:=fun a o h=>(dn (S.memF a o h)).2
  memOk:=fun a y h=>let ⟨o,e,r⟩:=S.memOk a y (up h).2;⟨o,hk _ _ (up h).1 e,r⟩
  ns:=let ⟨m,⟨o,es,ep,e,q⟩,b⟩:=S.ns;⟨m,⟨o,es,ep,hk _ _ (dn S.nsF.2).1 e,q⟩,b⟩
  nsF:=⟨S.nsF.1,(dn S.nsF.2).2⟩
  outs:=fun q hq=>by
   obtain⟨⟨o,es,ep,e,r⟩,b,c,n⟩:=S.outs q hq
   exact⟨⟨o,es,ep,hk _ _ (dn c).1 e,r⟩,b,(dn c).2,n⟩
  low:=S.low
  memLow:=fun a y h=>S.memLow a y (up h).2
  gens:=S.gens
  os:=S.os }
theorem Sim.endR{it:Addr}{x:ax}{h':Heap}{t:Nat}{d:Drawn}(S:Sim W env outer loc mem (ap R it x) F s)(hR:R it=none)(hk:∀ b o,b≠it->s.heap.get? b=some o->h'.get? b=some o) :
  Sim W env outer loc mem R F { s with heap:=h',toks:=t,drawn:=d }:=by
 have hm:mem it=none:=by
  cases q:mem it with
  | none=>rfl
  | some y=>have:=S.dis it y q;rw[mset_self]at this;cases this
 refine⟨fun b y e=>?_,?_⟩
 ·have:=S.dis b y e
  unfold ap at this
  split at this
  ·cases this
  ·exact this
 ·have z:=S.z
  rw[<-ej hm]at z
  exact z.growBut (by rw[bw hm];exact hR) hk
theorem dP{F₀:Frz}{target:PySem.Expr}{it:Addr}{item:Nat->Mem->Option (Option V)}(P:Nat->Obj->Prop)
  (next:∀ {i:Nat} {env:Env} {outer:ay} {loc:Loc} {mem R:Mem} {F:Frz} {s:Shared} {v:V} {o:Obj} (E:Value->Shared->Prop) (Q:Option Value->Shared->Prop),aV F₀ F->P i o->item i mem=some (some v)->s.heap.get? it=some o->Sim W env outer loc mem R F s->
   (∀ v' h' t o',VR W F v v'->h'.get? it=some o'->P (i+1) o'->Heap.SameBut it s.heap h'->Q (some v') { s with heap:=h',toks:=t })->wpAny (model W.prog W.w) A (pyNext (.ref it)) Q E s)
  (go:∀ {i:Nat} {s:Shared} {v':Value} {o:Obj} (E:Value->Shared->Prop) (Q:Unit->Shared->Prop),P i o->s.heap.get? it=some o->Q () s->wpAny (model W.prog W.w) A (letOwnedTupleGo target (.ref it) v') Q E s)
  (done:∀ {i:Nat} {env:Env} {outer:ay} {loc:Loc} {mem R:Mem} {F:Frz} {s:Shared} {o:Obj} (E:Value->Shared->Prop) (Q:Option Value->Shared->Prop),aV F₀ F->P i o->item i mem=some none->s.heap.get? it=some o->Sim W env outer loc mem R F s->
   (∀ h',Heap.ExtBut it s.heap h'->Q none { s with heap:=h' })->wpAny (model W.prog W.w) A (pyNext (.ref it)) Q E s)
  (self:∀ {i:Nat} {s:Shared} {o:Obj} (E:Value->Shared->Prop) (Q:Value->Shared->Prop),P i o->s.heap.get? it=some o->Q (.ref it) s->wpAny (model W.prog W.w) A (pyIter (.ref it)) Q E s) :
  Feed W A F₀ target (.ref it) item (fun i R₀ R=>R₀ it=none/\∃ o,R=ap R₀ it (.raw o)/\P i o) where
 next:=by
  rintro i env outer loc mem R₀ R F s v E ic ⟨hn,o,rfl,hP⟩ hi S
  obtain⟨o₁,ho,r⟩:=S.atR
  cases r.view
  refine next E _ ic hP hi ho S fun v' h' t o' rv ho' hP' sb=>⟨v',rfl,?_⟩
  have S':=S.updR (t:=t) (d:=s.drawn) (x':=.raw o') (fun b ob hb e=>(sb.2 b hb).trans e) ho' .raw
  exact go E _ hP' ho' ⟨F,_,aV.refl F,rv,⟨hn,o',rfl,hP'⟩,S'⟩
 done:=by
  rintro i env outer loc mem R₀ R F s E ic ⟨hn,o,rfl,hP⟩ hi S
  obtain⟨o₁,ho,r⟩:=S.atR
  cases r.view
  exact done E _ ic hP hi ho S fun h' eb=>⟨rfl,S.endR (t:=s.toks) (d:=s.drawn) hn fun b ob hb e=>eb b ob hb e⟩
 off:=by
  rintro i env outer loc mem R₀ R F s ⟨hn,o,rfl,hP⟩ S
  exact S.offR hn
 self:=by
  rintro i env outer loc mem R₀ R F s E Q ⟨hn,o,rfl,hP⟩ S h
  obtain⟨o₁,ho,r⟩:=S.atR
  cases r.view
  exact self E Q hP ho h
 frame:=by
  rintro i R₀ R D x ⟨hn,o,rfl,hP⟩ e
  have hD:D≠it:=fun q=>by rw[q,mset_self,hn]at e;cases e
  refine⟨by rw[af (Ne.symm hD)];exact hn,o,?_,hP⟩
  funext b
  unfold ap
  by_cases h1:b=D<;>by_cases h2:b=it<;>simp_all
 same:=by
  rintro i R₀ R D ⟨hn,o,rfl,hP⟩ h
  exact af fun q=>h (q▸hn)
theorem Sim.iterNew{o:Obj}(S:Sim W env outer loc mem R F s)(hf:o.isFreed=false:=by rfl):R s.heap.objs.size=none/\Sim W env outer loc mem (ap R s.heap.objs.size (.raw o)) F { s with heap:=s.heap.push o }:=
 ⟨(S.free (aH s.heap)).2,S.allocR (t:=s.toks) (d:=s.drawn) (aH s.heap) S.size_le (fun b ob e=>Heap.get?_push_of_some _ e) (Heap.get?_push_size _ hf) .raw⟩
theorem cx {target:PySem.Expr} {it:Addr} {v:Value} {o:Obj} {n:String} {vs:Array Value} {s:Shared} {E:Value->Shared->Prop} {Q:Unit->Shared->Prop} (ho:s.heap.get? it=some o) (hc:o.cls = .type n) (hd:o.data = .fields vs)
    (hn:["enumerate","zip","dict_itemiterator","dict_reverseitemiterator","odict_iterator","itertools.zip_longest","itertools.pairwise"].contains n=false) (h:Q () s) :
    wpAny (model W.prog W.w) A (letOwnedTupleGo target (.ref it) v) Q E s:=by
  unfold letOwnedTupleGo
  cases target<;>first
    | exact wpAny_pure h
    | (cases v<;>first
        | exact wpAny_pure h
        | (refine wpAny_bind (wpAny_load ho ?_)
           rw[hc,hd]
           simp only [hn,Bool.false_and,Bool.false_eq_true,if_false]
           exact wpAny_pure h))
noncomputable def mB:Option ax->Option (List V):=fun o=>Option.rec none (fun x=>ax.casesOn x some (fun _ _=>none) (fun _=>none) (fun _ _=>none) (fun _=>none) (fun _=>none) (fun _ _ _=>none)) o
noncomputable def ou(m:Mem)(a:Addr):Option (List V):=mB (m a)
theorem nO{a:Addr}{m:Mem}{xs:List V}(h:m a=some (.list xs)):ou m a=some xs:=congrArg mB h
theorem lR{o:Option ax}{xs:List V}(h:mB o=some xs):o=some (.list xs):=by
 cases o with
 | none=>cases h
 | some x=>cases x with
  | list ys=>rw[Option.some.inj h]
  | _=>cases h
theorem j7{a:Addr}{m:Mem}{xs:List V}(h:ou m a=some xs):m a=some (.list xs):=lR h
noncomputable def dD(a:Addr)(i:Nat)(m:Mem):Option (Option V):=(ou m a).map (·[i]?)
theorem gc{a:Addr}{i:Nat}{m:Mem}{xs:List V}(h:m a=some (.list xs)):dD a i m=some xs[i]?:=congrArg (Option.map (·[i]?)) (nO h)
inductive OwnI(a:Addr)(i:Nat)(m:Mem)(v:Option V):Prop
 | mk (xs:List V) (h1_:m a=some (.list xs)) (h2_:xs[i]? = v)
theorem gx{a:Addr}{i:Nat}{m:Mem}{v:Option V}(h:dD a i m=some v):OwnI a i m v:=by
 unfold dD at h
 cases q:ou m a with
 | none=>rw[q]at h;cases h
 | some xs=>rw[q]at h;exact⟨xs,j7 q,Option.some.inj h⟩
theorem VRs.getN{xs:List V}{vs:Array Value}(r:VRs W F xs vs.toList){i:Nat}(h:xs[i]? = none):vs[i]? = none:=by
 rw[List.getElem?_eq_none_iff]at h
 rw[Array.getElem?_eq_none_iff,r.size];exact h
theorem dt{target:PySem.Expr}{a:Addr}{xs:List V}(hh:A.handled=none)(h:mem a=some (.list xs)):Itr W A target (.ref a) mem mem (dD a):=by
 intro env outer loc R F s x' E S r
 obtain rfl:=r.isRef
 obtain⟨o,ho,q⟩:=S.memOk _ _ h
 cases q with
 | @list _ vs n q=>
  obtain⟨hR,S'⟩:=S.iterNew (o:={ cls:=.type "list_iterator",data:=.fields #[.ref a,.int 0 0] })
  refine wpAny_pyIter_list (items:=vs) ⟨_,ho,rfl,n,rfl⟩ ⟨_,_,dP (fun i o=>o.cls = .type "list_iterator"/\o.data = .fields #[.ref a,.int i 0]) ?_ ?_ ?_ ?_,⟨hR,_,rfl,⟨rfl,rfl⟩⟩,S'⟩
  ·intro i env outer loc mem R F s v o E Q ic hP hi ho S k
   obtain⟨xs,hx,hi⟩:=gx hi
   obtain⟨o',ho',q⟩:=S.memOk _ _ hx
   cases q with
   | @list _ vs n q=>
    obtain⟨u,hu,ru⟩:=q.getA hi
    refine wpAny_pyNext_list_item (items:=vs) ⟨o,ho,hP⟩ ⟨_,ho',rfl,n,rfl⟩ hu fun h' hit sb=>?_
    obtain⟨o2,h2,hP2⟩:=hit
    exact k u h' s.toks o2 ru h2 hP2 sb
  ·intro i s v' o E Q hP ho q
   exact cx ho hP.1 hP.2 (by decide) q
  ·intro i env outer loc mem R F s o E Q ic hP hi ho S k
   obtain⟨xs,hx,hi⟩:=gx hi
   obtain⟨o',ho',q⟩:=S.memOk _ _ hx
   cases q with
   | @list _ vs n q=>exact wpAny_pyNext_list_end (items:=vs) hh ⟨o,ho,hP⟩ ⟨_,ho',rfl,n,rfl⟩ (q.getN hi) k
  ·intro i s o E Q hP ho q;exact wpAny_pyIter_listiter ⟨o,ho,hP⟩ q
noncomputable def bN(xs:List V)(i:Nat)(_:Mem):Option (Option V):=some xs[i]?
theorem cb{target:PySem.Expr}{xs:List V}(hh:A.handled=none):Itr W A target (.lst xs) mem mem (bN xs):=by
 intro env outer loc R F₀ s x' E S r
 cases r with
 | @lst _ a vs n fa q=>
  obtain⟨hR,S'⟩:=S.iterNew (o:={ cls:=.type "list_iterator",data:=.fields #[.ref a,.int 0 0] })
  refine wpAny_pyIter_list (items:=vs) ⟨_,S.frz _ _ fa,rfl,n,rfl⟩ ⟨_,_,dP (fun i o=>o.cls = .type "list_iterator"/\o.data = .fields #[.ref a,.int i 0]) ?_ ?_ ?_ ?_,⟨hR,_,rfl,⟨rfl,rfl⟩⟩,S'⟩
  ·intro i env outer loc mem R F s v o E Q ic hP hi ho S k
   cases hi':xs[i]? with
   | none=>unfold bN at hi;rw[hi']at hi;cases hi
   | some y=>
    have:y=v:=by unfold bN at hi;rw[hi']at hi;cases hi;rfl
    subst this
    obtain⟨u,hu,ru⟩:=(q.mono ic).getA hi'
    refine wpAny_pyNext_list_item (items:=vs) ⟨o,ho,hP⟩ ⟨_,S.frz _ _ (ic _ _ fa),rfl,n,rfl⟩ hu fun h' hit sb=>?_
    obtain⟨o2,h2,hP2⟩:=hit
    exact k u h' s.toks o2 ru h2 hP2 sb
  ·intro i s v' o E Q hP ho q
   exact cx ho hP.1 hP.2 (by decide) q
  ·intro i env outer loc mem R F s o E Q ic hP hi ho S k
   have hi':xs[i]? = none:=by unfold bN at hi;exact Option.some.inj hi
   exact wpAny_pyNext_list_end (items:=vs) hh ⟨o,ho,hP⟩ ⟨_,S.frz _ _ (ic _ _ fa),rfl,n,rfl⟩ (q.getN hi') k
  ·intro i s o E Q hP ho q;exact wpAny_pyIter_listiter ⟨o,ho,hP⟩ q
theorem fH{target:PySem.Expr}{xs:List V}(hh:A.handled=none):Itr W A target (.tup xs) mem mem (bN xs):=by
 intro env outer loc R F₀ s x' E S r
 cases r with
 | @tup _ a vs n fa q=>
  obtain⟨hR,S'⟩:=S.iterNew (o:={ cls:=.type "tuple_iterator",data:=.fields #[.ref a,.int 0 0] })
  refine iter_tuple (items:=vs) ⟨_,S.frz _ _ fa,rfl,n,rfl⟩ ⟨_,_,dP (fun i o=>o.cls = .type "tuple_iterator"/\o.data = .fields #[.ref a,.int i 0]) ?_ ?_ ?_ ?_,⟨hR,_,rfl,⟨rfl,rfl⟩⟩,S'⟩
  ·intro i env outer loc mem R F s v o E Q ic hP hi ho S k
   cases hi':xs[i]? with
   | none=>unfold bN at hi;rw[hi']at hi;cases hi
   | some y=>
    have:y=v:=by unfold bN at hi;rw[hi']at hi;cases hi;rfl
    subst this
    obtain⟨u,hu,ru⟩:=(q.mono ic).getA hi'
    refine next_tuple_item (items:=vs) ⟨o,ho,hP⟩ ⟨_,S.frz _ _ (ic _ _ fa),rfl,n,rfl⟩ hu fun h' hit sb=>?_
    obtain⟨o2,h2,hP2⟩:=hit
    exact k u h' s.toks o2 ru h2 hP2 sb
  ·intro i s v' o E Q hP ho q
   exact cx ho hP.1 hP.2 (by decide) q
  ·intro i env outer loc mem R F s o E Q ic hP hi ho S k
   have hi':xs[i]? = none:=by unfold bN at hi;exact Option.some.inj hi
   exact next_tuple_end (items:=vs) hh ⟨o,ho,hP⟩ ⟨_,S.frz _ _ (ic _ _ fa),rfl,n,rfl⟩ (q.getN hi') k
  ·intro i s o E Q hP ho q;exact wpAny_pyIter_tupleiter ⟨o,ho,hP⟩ q
noncomputable def pp:Option ax->Option (List (Str×V)×Nat):=fun o=>Option.rec none (fun x=>ax.casesOn x (fun _=>none) (fun es ep=>some (es,ep)) (fun _=>none) (fun _ _=>none) (fun _=>none) (fun _=>none) (fun _ _ _=>none)) o
theorem m7{o:Option ax}{es:List (Str×V)}{ep:Nat}(h:pp o=some (es,ep)):o=some (.dict es ep):=by
 cases o with
 | none=>cases h
 | some x=>cases x with
  | dict es' ep'=>cases Option.some.inj h;rfl
  | _=>cases h
noncomputable def oG(f:Str×V->V)(a:Addr)(n ep i:Nat)(m:Mem):Option (Option V):=(pp (m a)).bind fun q=>if q.1.length=n/\q.2=ep then some (q.1[i]?.map f) else none
theorem nA{f:Str×V->V}{a:Addr}{n ep i:Nat}{m:Mem}{es:List (Str×V)}(h:m a=some (.dict es ep))(hn:es.length=n):oG f a n ep i m=some (es[i]?.map f):=by unfold oG;rw[h];exact if_pos ⟨hn,rfl⟩
inductive EntI(f:Str×V->V)(a:Addr)(n ep i:Nat)(m:Mem)(v:Option V):Prop
 | mk (es:List (Str×V)) (h1_:m a=some (.dict es ep)) (h2_:es.length=n) (h3_:v=es[i]?.map f)
theorem fI{f:Str×V->V}{a:Addr}{n ep i:Nat}{m:Mem}{v:Option V}(h:oG f a n ep i m=some v):EntI f a n ep i m v:=by
 unfold oG at h
 cases q:pp (m a) with
 | none=>rw[q]at h;cases h
 | some z=>
  obtain⟨es,e⟩:=z
  rw[q]at h
  by_cases hz:es.length=n/\e=ep
  ·exact⟨es,hz.2▸m7 q,hz.1,(Option.some.inj ((if_pos hz).symm.trans h)).symm⟩
  ·exact nomatch (if_neg hz).symm.trans h
noncomputable abbrev nW:Addr->Nat->Nat->Nat->Mem->Option (Option V):=oG fun q=>.str q.1
theorem gb{a:Addr}{n ep i:Nat}{m:Mem}{es:List (Str×V)}(h:m a=some (.dict es ep))(hn:es.length=n):nW a n ep i m=some (es[i]?.map fun q=>.str q.1):=nA h hn
theorem dI{ds:List DictEntry}{n:Nat}{kvs:List (Str×Value)}(h:(dictOf ds n).IsDictOf (strKind W.prog W.w) kvs){hp:Heap}{a:Addr}(ha:hp.get? a=some (dictOf ds n)):hp.DictAt (strKind W.prog W.w) a kvs n:=by
 obtain⟨es,ep,hx,hd,hk,hpr,hn⟩:=h
 refine⟨_,es,ha,hx,?_,hk,hpr,hn⟩
 rw[hd];cases hd;rfl
theorem VRp.at{es:List (Str×V)}{kvs:List (Str×Value)}(r:VRp W F es kvs):∀ {i:Nat} {k:Str} {x:V},es[i]? = some (k,x)->∃ v,kvs[i]? = some (k,v)/\VR W F x v:=by
 induction es generalizing kvs with
 | nil=>intro i k x h;cases h
 | cons e es ih=>
  obtain⟨_,_,r1,r2,rfl⟩:=r.isCons
  intro i k x h
  cases i with
  | zero=>cases h;exact⟨_,rfl,r1⟩
  | succ i=>exact ih r2 h
theorem VRp.atN{es:List (Str×V)}{kvs:List (Str×Value)}(r:VRp W F es kvs){i:Nat}(h:es[i]? = none):kvs[i]? = none:=by
 rw[List.getElem?_eq_none_iff]at h ⊢
 rw[r.length];exact h
theorem iJ{target:PySem.Expr}{a:Addr}{es:List (Str×V)}{ep:Nat}(hh:A.handled=none)(h:mem a=some (.dict es ep)):Itr W A target (.ref a) mem mem (nW a es.length ep):=by
 intro env outer loc R F₀ s x' E S r
 obtain rfl:=r.isRef
 obtain⟨o,ho,q⟩:=S.memOk _ _ h
 cases q with
 | @dict _ ds _ kvs k q=>
  obtain⟨hR,S'⟩:=S.iterNew (o:={ cls:=.type "dict_keyiterator",data:=.fields #[.ref a,.int 0 0,.int kvs.length 0,.int ep 0] })
  refine wpAny_pyIter_dict (knd:=strKind W.prog W.w) (S.not_modules h) (dI k ho) ⟨_,_,dP (fun i o=>o.cls = .type "dict_keyiterator"/\o.data = .fields #[.ref a,.int i 0,.int kvs.length 0,.int ep 0]) ?_ ?_ ?_ ?_,⟨hR,_,rfl,⟨rfl,rfl⟩⟩,S'⟩
  ·intro i env outer loc mem R F s v o E Q ic hP hi ho S k
   obtain⟨es',hx,hl,hi⟩:=fI hi
   obtain⟨o',ho',q'⟩:=S.memOk _ _ hx
   cases q' with
   | @dict _ ds' _ kvs' k' q'=>
    have hlen:kvs.length=kvs'.length:=by rw[q.length,q'.length,hl]
    cases he:es'[i]? with
    | none=>rw[he]at hi;cases hi
    | some e=>
     obtain⟨ke,xe⟩:=e
     rw[he]at hi
     cases hi
     obtain⟨u,hu,ru⟩:=q'.at he
     refine wpAny_pyNext_dict_item (knd:=strKind W.prog W.w) (kvs:=kvs') (hlen▸⟨o,ho,hP⟩) (dI k' ho') hu fun key h' hkey hit sb=>?_
     obtain⟨o2,h2,hP2⟩:=hit
     obtain⟨t,rfl⟩:=Value.isStrOf_shape hkey
     exact k _ h' s.toks o2 (.str _ _) h2 (hlen▸hP2) sb
  ·intro i s v' o E Q hP ho q
   exact cx ho hP.1 hP.2 (by decide) q
  ·intro i env outer loc mem R F s o E Q ic hP hi ho S k
   obtain⟨es',hx,hl,hi⟩:=fI hi
   obtain⟨o',ho',q'⟩:=S.memOk _ _ hx
   cases q' with
   | @dict _ ds' _ kvs' k' q'=>
    have hlen:kvs.length=kvs'.length:=by rw[q.length,q'.length,hl]
    have he:es'[i]? = none:=by
     cases he:es'[i]? with
     | none=>rfl
     | some e=>rw[he]at hi;cases hi
    exact wpAny_pyNext_dict_end (knd:=strKind W.prog W.w) (kvs:=kvs') hh (hlen▸⟨o,ho,hP⟩) (dI k' ho') (q'.atN he) k
  ·intro i s o E Q hP ho q;exact wpAny_pyIter_keyiter ⟨o,ho,hP⟩ q
noncomputable def dX(x:Str)(i:Nat)(_:Mem):Option (Option V):=some (x.cps[i]?.map fun c=>.str ⟨#[c]⟩)
theorem itr_str{target:PySem.Expr}{x:Str}(hh:A.handled=none):Itr W A target (.str x) mem mem (dX x):=by
 intro env outer loc R F₀ s x' E S r
 cases r with
 | str _ t=>
  cases ha:x.cps.all (· < 128) with
  | true=>
   obtain⟨hR,S'⟩:=S.iterNew (o:={ cls:=.type "str_ascii_iterator",data:=.fields #[.str x t,.int 0 0] })
   refine wpAny_pyIter_ascii ha ⟨_,_,dP (fun i o=>o.cls = .type "str_ascii_iterator"/\o.data = .fields #[.str x t,.int i 0]) ?_ ?_ ?_ ?_,⟨hR,_,rfl,⟨rfl,rfl⟩⟩,S'⟩
   ·intro i env outer loc mem R F s v o E Q ic hP hi ho S k
    cases hi':x.cps[i]? with
    | none=>unfold dX at hi;rw[hi']at hi;cases hi
    | some y=>
     have:V.str ⟨#[y]⟩=v:=by unfold dX at hi;rw[hi']at hi;cases hi;rfl
     subst this
     refine wpAny_pyNext_ascii_item ⟨o,ho,hP⟩ hi' fun h' hit sb=>?_
     obtain⟨o2,h2,hP2⟩:=hit
     exact k _ h' _ o2 (.str _ _) h2 hP2 sb
   ·intro i s v' o E Q hP ho q
    exact cx ho hP.1 hP.2 (by decide) q
   ·intro i env outer loc mem R F s o E Q ic hP hi ho S k
    have hi':x.cps[i]? = none:=by
     cases hi':x.cps[i]? with
     | none=>rfl
     | some y=>unfold dX at hi;rw[hi']at hi;cases hi
    exact wpAny_pyNext_ascii_end hh ⟨o,ho,hP⟩ hi' k
   ·intro i s o E Q hP ho q;exact wpAny_pyIter_striter_ascii ⟨o,ho,hP⟩ q
  | false=>
   obtain⟨hR,S'⟩:=S.iterNew (o:={ cls:=.type "str_iterator",data:=.fields #[.str x t,.int 0 0] })
   refine wpAny_pyIter_wide ha ⟨_,_,dP (fun i o=>o.cls = .type "str_iterator"/\o.data = .fields #[.str x t,.int i 0]) ?_ ?_ ?_ ?_,⟨hR,_,rfl,⟨rfl,rfl⟩⟩,S'⟩
   ·intro i env outer loc mem R F s v o E Q ic hP hi ho S k
    cases hi':x.cps[i]? with
    | none=>unfold dX at hi;rw[hi']at hi;cases hi
    | some y=>
     have:V.str ⟨#[y]⟩=v:=by unfold dX at hi;rw[hi']at hi;cases hi;rfl
     subst this
     refine wpAny_pyNext_wide_item ⟨o,ho,hP⟩ hi' fun h' hit sb=>?_
     obtain⟨o2,h2,hP2⟩:=hit
     exact k _ h' _ o2 (.str _ _) h2 hP2 sb
   ·intro i s v' o E Q hP ho q
    exact cx ho hP.1 hP.2 (by decide) q
   ·intro i env outer loc mem R F s o E Q ic hP hi ho S k
    have hi':x.cps[i]? = none:=by
     cases hi':x.cps[i]? with
     | none=>rfl
     | some y=>unfold dX at hi;rw[hi']at hi;cases hi
    exact wpAny_pyNext_wide_end hh ⟨o,ho,hP⟩ hi' k
   ·intro i s o E Q hP ho q;exact wpAny_pyIter_striter_wide ⟨o,ho,hP⟩ q
end
section
variable {W:Wd}{A:Around}{env:Env}{outer:ay}{loc:Loc}{mem R:Mem}{E:Ex W}{F:Frz}{s:Shared}
theorem oK{ds:List DictEntry}{n:Nat}{kvs:List (Str×Value)}(h:(dictOf ds n).IsDictOf (strKind W.prog W.w) kvs){hp:Heap}{a:Addr}(ha:hp.get? a=some (dictOf ds n)):hp.DictOf (strKind W.prog W.w) a kvs:=by
 obtain⟨es,ep,hx,hd,hk,hpr,hn⟩:=h
 exact⟨_,es,ep,ha,hx,hd,hk,hpr,hn⟩
theorem lT{hp:Heap}{a:Addr}{kvs:List (Str×Value)}(h:hp.DictOf (strKind W.prog W.w) a kvs):∃ ds ep,hp.get? a=some (dictOf ds ep)/\(dictOf ds ep).IsDictOf (strKind W.prog W.w) kvs:=by
 obtain⟨o,es,ep,ha,hx,hd,hk,hpr,hn⟩:=h
 have e:o=dictOf es.toList ep:=by
  obtain⟨h1,h2,h3⟩:=hx
  cases o
  simp only at h1 h2 h3 hd
  subst h1;subst h2;subst h3;subst hd
  simp[dictOf]
 refine⟨es.toList,ep,e▸ha,es,ep,e▸hx,e▸hd,hk,hpr,hn⟩
theorem Sim.dict{a:Addr}{es:List (Str×V)}{ep:Nat}(S:Sim W env outer loc mem R F s)(h:mem a=some (.dict es ep)):∃ kvs,s.heap.DictOf (strKind W.prog W.w) a kvs/\VRp W F es kvs:=by
 obtain⟨o,ho,q⟩:=S.memOk _ _ h
 cases q with
 | dict k q=>exact⟨_,oK k ho,q⟩
theorem VRp.isSome{es:List (Str×V)}{kvs:List (Str×Value)}(r:VRp W F es kvs)(k:Str):(valueAt kvs k).isSome=(bi es k).isSome:=by
 cases q:bi es k with
 | none=>rw[(r.get k).2 q];rfl
 | some x=>obtain⟨v,e,_⟩:=(r.get k).1 x q;rw[e];rfl
theorem iB{a:Addr}{es:List (Str×V)}{ep:Nat}{k:Str}{Q:V->Loc->Mem->Prop}(hm:mem a=some (.dict es ep))(h:Q (.bool (bi es k).isSome) loc mem) :
  OpV W A env outer (fun|[x,y]=>compareOp .In x y|_=>pure .none) [.str k,.ref a] loc mem Q E:=op2 fun R F s v u S r1 r2=>by
 obtain⟨_,rfl⟩:=r1.isStr;obtain rfl:=r2.isRef
 obtain⟨kvs,hd,q⟩:=S.dict hm
 exact wpAny_in_of (knd:=strKind W.prog W.w) (k:=k) (strKind_is _ _ k _) (S.not_modules hm) hd.mapOf (aE.mk (.bool _) S.tick (by rw[q.isSome];exact h))
theorem cC{a:Addr}{es:List (Str×V)}{ep:Nat}{k:Str}{Q:V->Loc->Mem->Prop}(hm:mem a=some (.dict es ep))(h:Q (.bool (!(bi es k).isSome)) loc mem) :
  OpV W A env outer (fun|[x,y]=>compareOp .NotIn x y|_=>pure .none) [.str k,.ref a] loc mem Q E:=op2 fun R F s v u S r1 r2=>by
 obtain⟨_,rfl⟩:=r1.isStr;obtain rfl:=r2.isRef
 obtain⟨kvs,hd,q⟩:=S.dict hm
 exact wpAny_notIn_of (knd:=strKind W.prog W.w) (k:=k) (strKind_is _ _ k _) (S.not_modules hm) hd.mapOf (aE.mk (.bool _) S.tick (by rw[q.isSome];exact h))
theorem j8{a:Addr}{es:List (Str×V)}{ep:Nat}{k:Str}{x:V}{Q:V->Loc->Mem->Prop}(hm:mem a=some (.dict es ep))(hx:bi es k=some x)(h:Q x loc mem) :
  OpV W A env outer (fun|[x,y]=>getItem x y|_=>pure .none) [.ref a,.str k] loc mem Q E:=op2 fun R F s v u S r1 r2=>by
 obtain rfl:=r1.isRef;obtain⟨_,rfl⟩:=r2.isStr
 obtain⟨kvs,hd,q⟩:=S.dict hm
 obtain⟨u,hu,ru⟩:=(q.get k).1 x hx
 exact wpAny_getItem_of (knd:=strKind W.prog W.w) (k:=k) (strKind_is _ _ k _) hd.mapOf hu (aE.mk ru S.tick h)
theorem kq{a:Addr}{es:List (Str×V)}{ep:Nat}{k:Str}{x:V}{Q:Loc->Mem->Prop}(hm:mem a=some (.dict es ep))(hz:es.length≤sizeLine)(h:∀ ep',Q loc (ap mem a (.dict (stA es k x) ep'))) :
  OpU W A env outer (fun|[x,y,z]=>setItem x y z|_=>pure ()) [.ref a,.str k,x] loc mem Q E:=op3 fun R F s v u t S r1 r2 r3=>by
 obtain rfl:=r1.isRef;obtain⟨_,rfl⟩:=r2.isStr
 obtain⟨kvs,hd,q⟩:=S.dict hm
 refine wpAny_setItem_pairs (knd:=strKind W.prog W.w) (k:=k) (strKind_is _ _ k _) hd (fun h' hd' sb=>?_) (by rw[q.length];exact hz)
 obtain⟨ds,ep',ho,hd'⟩:=lT hd'
 exact aE.mk (x:=()) trivial (S.upd (t:=s.toks+1) (d:=s.drawn) hm (fun b ob hb e=>(sb.2 b hb).trans e) ho (.dict hd' (q.store k r3))) (h ep')
theorem jK{a:Addr}{es:List (Str×V)}{ep:Nat}{k:Str}{d:V}{Q:V->Loc->Mem->Prop}(hm:mem a=some (.dict es ep))(h:Q ((bi es k).getD d) loc mem) :
  OpV W A env outer (fun vs=>call (.builtin "dict.get") vs) [.ref a,.str k,d] loc mem Q E:=op3 fun R F s v u t S r1 r2 r3=>by
 obtain rfl:=r1.isRef;obtain⟨_,rfl⟩:=r2.isStr
 obtain⟨kvs,hd,q⟩:=S.dict hm
 refine call_meetsIn PySem.F.slot_dict_get hd.mapOf.typeIs PySem.F.entry_dict_get (PySem.F.args_dict_get_3 _ _ _) (meets_dict_get_default (strKind W.prog W.w) a (k:=k) (strKind_is _ _ k _) (S.not_modules hm) t) ⟨_,hd.mapOf,?_⟩
 cases e:bi es k with
 | none=>rw[(q.get k).2 e];rw[e]at h;exact aE.mk r3 S.tick h
 | some x=>obtain⟨u,hu,ru⟩:=(q.get k).1 x e;rw[hu];rw[e]at h;exact aE.mk ru S.tick h
theorem e_dict0{pos:Pos}{Q:V->Loc->Mem->Prop}(h:∀ a,mem a=none->Q (.ref a) loc (ap mem a (.dict [] 0))):TrV W A env outer (eval (.Dict [] [] pos) env) loc mem Q E:=fun R F s S=>by
 refine wpAny_Dict_empty ?_
 have S':=S.alloc (t:=s.toks) (d:=s.drawn) (x:=.dict [] 0) (o':={ cls:=.type "dict",data:=.dict #[] }) (aH s.heap) S.size_le (fun b o e=>Heap.get?_push_of_some _ e) (Heap.get?_push_size _ rfl) (by
  have:({ cls:=.type "dict",data:=.dict #[] }:Obj)=dictOf [] 0:=rfl
  rw[this]
  exact .dict (kvs:=[]) ⟨#[],0,⟨rfl,rfl,rfl⟩,rfl,fun e he=>by simp at he,.nil,by simp⟩ .nil)
 exact aE.mk (.ref _) S' (h _ (S.free (aH s.heap)).1)
theorem ik{Ev:Value->Shared->Prop}{a:Addr}{es:List (Str×V)}{ep:Nat}{k:Str}{v u:Value}{Q:Value->Shared->Prop}(S:Sim W env outer loc mem R F s)(hm:mem a=some (.dict es ep))(hx:bi es k=none)(hh:A.handled=none)(r1:VR W F (.ref a) v)(r2:VR W F (.str k) u)
  (h:∀ h' e t,Heap.NewExc s.heap h' e "KeyError"->Ev (.ref e) { s with heap:=h',toks:=t }):wpAny (model W.prog W.w) A (getItem v u) Q Ev s:=by
 obtain rfl:=r1.isRef;obtain⟨_,rfl⟩:=r2.isStr
 obtain⟨kvs,hd,q⟩:=S.dict hm
 exact wpAny_getItem_missing_of (knd:=strKind W.prog W.w) (k:=k) (strKind_is _ _ k _) (S.not_modules hm) hh hd.mapOf ((q.get k).2 hx) fun h' e n=>h h' e _ n
end
section
variable {W:Wd}{A:Around}{env:Env}{outer:ay}{loc:Loc}{mem R:Mem}{E:Ex W}{F:Frz}{s:Shared}
noncomputable def TrP(W:Wd)(A:Around)(env:Env)(outer:ay)(e:Option PySem.Expr)(loc:Loc)(mem:Mem)(Q:Option Int->Loc->Mem->Prop)(E:Ex W):Prop:=match e with
 | none=>Q none loc mem
 | some e=>TrV W A env outer (eval e env) loc mem (fun v l m=>∃ i,v = .int i/\Q (some i) l m) E
theorem TrP.run{e:Option PySem.Expr}{Q:Option Int->Loc->Mem->Prop}(h:TrP W A env outer e loc mem Q E)(S:Sim W env outer loc mem R F s) :
  wpAny (model W.prog W.w) A (evalPart e env) (aE W env outer (fun _ p v=>IsPart v p) R F Q) (E.p R F) s:=by
 cases e with
 | none=>exact wpAny_evalPart_none ⟨F,none,loc,mem,aV.refl F,.none,S,h⟩
 | some e=>
  refine wpAny_evalPart_some (aM (i:=.refl _) (RW:=VR W) (Q:=fun _ _ _=>True) (h R F s S) fun v' s' F1 v l1 m1 i1 r1 S1 h1=>?_)
  obtain⟨i,rfl,q⟩:=h1
  obtain⟨_,rfl⟩:=r1.isInt
  exact⟨F1,some i,l1,m1,i1,.int i _,S1,q⟩
noncomputable def ir(W:Wd)(A:Around)(env:Env)(outer:ay)(o:V)(lo hi:Option Int)(loc:Loc)(mem:Mem)(Q:V->Loc->Mem->Prop)(E:Ex W):Prop:=
 ∀ R F s o' l' u' sl,Sim W env outer loc mem R F s->VR W F o o'->IsPart l' lo->IsPart u' hi->s.heap.IsSliceOf sl l' u' .none->wpAny (model W.prog W.w) A (getItem o' (.ref sl)) (aE W env outer (VR W) R F Q) (E.p R F) s
theorem kC{value:PySem.Expr}{lower upper:Option PySem.Expr}{p pos:Pos}{Q:V->Loc->Mem->Prop}
  (h:TrV W A env outer (eval value env) loc mem (fun o l m=>TrP W A env outer lower l m (fun lo l m=>TrP W A env outer upper l m (fun hi l m=>∃ T id,Ty m o T/\typeLookup (.type T) "__getitem__" = pure (some (.builtin id))/\
   ir W A env outer o lo hi l m Q E) E) E) E):TrV W A env outer (eval (.Subscript value (.Slice lower upper none p) pos) env) loc mem Q E:=fun R F s S=>by
 refine Subscript_ (aM (i:=.refl _) (RW:=VR W) (Q:=fun _ _ _=>True) (h R F s S) fun v' s' F1 f l1 m1 i1 r1 S1 h1=>wpAny_Slice ?_)
 refine aM (i:=‹_›) (RW:=VR W) (Q:=fun _ _ _=>True) (h1.run S1) fun l' s2 F2 lo l2 m2 i2 r2 S2 h2=>?_
 refine aM (i:=.trans ‹_› ‹_›) (RW:=VR W) (Q:=fun _ _ _=>True) (TrP.run h2 S2) fun u' s3 F3 hi l3 m3 i3 r3 S3 h3=>?_
 refine wpAny_evalPart_none ?_
 obtain⟨T,id,ty,hl,op⟩:=h3
 have r1':=(r1.mono i2).mono i3
 have S4:=S3.grow (t:=s3.toks) (d:=s3.drawn) (h':=s3.heap.push { cls:=.type "slice",data:=.fields #[l',u',.none] }) fun b o e=>Heap.get?_push_of_some _ e
 exact PyProof.Rows.tail_any (ty.at S4 r1').1 hl (wpAny_mono (op R F3 _ v' l' u' _ S4 r1' r2 r3 (Heap.IsSliceOf.new _ _ _ _)) (fun _ _ p=>p.weaken ((i1.trans i2).trans i3)) fun _ _ e=>E.up ((i1.trans i2).trans i3) e) rfl
theorem lK{v:V}{xs:List V}{lo hi:Option Int}{ys:List V}{Q:V->Loc->Mem->Prop}(q:Sq mem v "list" xs)(hz:xs.length≤sizeLine)
  (hy:∀ us:List Value,us.length=xs.length->∀ F:Frz,VRs W F xs us->VRs W F ys (slicePick us.toArray lo hi none).toList) (h:Q (.lst ys) loc mem):ir W A env outer v lo hi loc mem Q E:=fun R F s o' l' u' sl S r pl pu hs=>by
 obtain⟨a,vs,n,rfl,ho,rs⟩:=q.at S r
 refine wpAny_getItem_list_slice (items:=vs) ⟨_,ho,rfl,n,rfl⟩ hs pl pu .none (by simp) ?_ (by rw[rs.size];exact hz)
 have S':=S.freeze (t:=s.toks) (d:=s.drawn) (o':={ cls:=.type "list",data:=.seq (slicePick vs lo hi none) }) (aH s.heap) (fun b o e=>Heap.get?_push_of_some _ e) (Heap.get?_push_size _ rfl)
 refine⟨_,.lst ys,loc,mem,aV.fadd _ _ _,.lst (.inr ⟨rfl,rfl⟩) ?_,S',h⟩
 have:=hy vs.toList rs.length _ (rs.mono (aV.fadd F s.heap.objs.size { cls:=.type "list",data:=.seq (slicePick vs lo hi none) }))
 simpa using this
theorem ox{us:List Value}{k:Nat}:(slicePick us.toArray none (some k) none).toList=us.take k:=by
 by_cases h:k≤us.length
 ·have:=slicePick_upto us.toArray k (by simpa using h);rw[this]
 ·have:=slicePick_plain us.toArray none (some (k:Int));rw[this]
  simp only [Option.elim,List.drop_zero,Nat.sub_zero]
  have:clipAt us.toArray.size (k:Int)=us.length:=by
   unfold clipAt;simp;lia
  rw[this];simp;rw[List.take_of_length_le (by lia)]
theorem mQ{v:V}{xs:List V}{k:Nat}{Q:V->Loc->Mem->Prop}(q:Sq mem v "list" xs)(hz:xs.length≤sizeLine)(h:Q (.lst (xs.take k)) loc mem):ir W A env outer v none (some (k:Int)) loc mem Q E:=
 lK q hz (fun us hl F r=>by rw[ox];exact r.take k) h
noncomputable def jk(a b c:Int)(t u v:Tok):Obj:={ cls:=.type "range",data:=.fields #[.int a t,.int b u,.int c v] }
theorem range1{n:Int}{Q:V->Loc->Mem->Prop}(h:∀ a t u v,mem a=none->Q (.ref a) loc (ap mem a (.raw (jk 0 n 1 t u v)))) :
  OpV W A env outer (fun vs=>call (.type "range") vs) [.int n] loc mem Q E:=op1 fun R F s v S r=>by
 cases r with
 | int _ t=>
 refine call_range_1 ?_
 have S':=S.alloc (t:=s.toks+1+1) (d:=s.drawn) (x:=.raw _) (o':=jk 0 n 1 s.toks t (s.toks+1)) (aH s.heap) S.size_le (fun b o e=>Heap.get?_push_of_some _ e) (Heap.get?_push_size _ rfl) .raw
 exact aE.mk (.ref _) S' (h _ _ _ _ (S.free (aH s.heap)).1)
noncomputable def dl(k:Int)(n:Nat)(i:Nat)(_:Mem):Option (Option V):=some (if i<n then some (.int (k+i)) else none)
theorem oJ{target:PySem.Expr}{a:Addr}{k:Int}{n:Nat}{t u v:Tok}(hh:A.handled=none)(hm:mem a=some (.raw (jk k (k+n) 1 t u v)))(hsm:Builtin.Range.small k (k+n) 1=true):Itr W A target (.ref a) mem mem (dl k n):=by
 intro env outer loc R F₀ s x' E S r
 obtain rfl:=r.isRef
 obtain⟨o,ho,q⟩:=S.memOk _ _ hm
 cases q.view
 have hsz:Builtin.Range.rangeSize k (k+n) 1=n:=by
  unfold Builtin.Range.rangeSize;simp;try lia
 obtain⟨hR,S'⟩:=S.iterNew (o:={ cls:=.type "range_iterator",data:=.fields #[rawInt k,rawInt (Builtin.Range.rangeSize k (k+n) 1),rawInt 1] })
 refine wpAny_pyIter_range (a:=k) (b:=k+n) (c:=1) (t:=t) (u:=u) (v:=v) ho hsm ⟨_,_,dP (fun i o=>o={ cls:=.type "range_iterator",dict:=none,data:=.fields #[rawInt (k+i),rawInt ((n:Int) - i),rawInt 1],slots:=#[] }) ?_ ?_ ?_ ?_,⟨hR,_,rfl,by rw[hsz];simp⟩,S'⟩
 ·intro i env outer loc mem R F s v o E Q ic hP hi ho S k'
  subst hP
  unfold dl at hi
  split at hi
  ·rename_i hlt
   cases hi
   refine wpAny_pyNext_range_item (x:=k+i) (left:=(n:Int) - i) (step:=1) ho (by lia) fun h' hit sb=>?_
   exact k' _ h' _ _ (.int _ _) hit (by simp[Int.add_assoc,Int.sub_sub]) sb
  ·cases hi
 ·intro i s v' o E Q hP ho q
  subst hP
  exact cx ho rfl rfl (by decide) q
 ·intro i env outer loc mem R F s o E Q ic hP hi ho S k'
  subst hP
  unfold dl at hi
  split at hi
  ·cases hi
  ·exact wpAny_pyNext_range_end (x:=k+i) (left:=(n:Int) - i) (step:=1) hh ho (by lia) k'
 ·intro i s o E Q hP ho q;subst hP;exact wpAny_pyIter_rangeiter ho q
theorem Sq.reads{v:V}{xs:List V}{n:Nat}{v':Value}(q:Sq mem v "list" xs)(hd:xs.all (isD n)=true)(S:Sim W env outer loc mem R F s)(r:VR W F v v'):∃ as,Reads s.heap v' (.list (xs.map (cr n))) as:=by
 obtain⟨a,vs,k,rfl,ho,rs⟩:=q.at S r
 obtain⟨as,ra⟩:=hH (fun x v a b=>VR.reads S.frz a b) hd rs
 exact⟨_,.list ho rfl rfl ra⟩
theorem iE(d:PyData)(ds:List PyData):0≤Spec.countIn d ds:=by
 induction ds with
 | nil=>exact Int.le_refl 0
 | cons e ds ih=>unfold Spec.countIn;split<;>lia
theorem ie{n:Nat}{x:V}{xs:List V}(hx:isD n x=true)(hxs:xs.all (isD n)=true):decide (Spec.countIn (cr n x) (xs.map (cr n))≠0)=true↔x∈xs:=by
 rw[decide_eq_true_iff]
 induction xs with
 | nil=>simp[Spec.countIn]
 | cons y ys ih=>
  rw[List.all_cons,Bool.and_eq_true]at hxs
  have e:=iO hxs.1 hx
  have nn:=iE (cr n x) (ys.map (cr n))
  have ih:=ih hxs.2
  rw[List.map_cons,Spec.countIn,List.mem_cons]
  by_cases q:y=x
  ·rw[if_pos (e.mpr q)]
   exact⟨fun _=>.inl q.symm,fun _=>by lia⟩
  ·rw[if_neg (fun z=>q (e.mp z)),Int.zero_add,ih]
   exact⟨.inr,fun z=>z.resolve_left fun z=>q z.symm⟩
theorem iA{v:V}{x:V}{xs:List V}{n:Nat}{Q:V->Loc->Mem->Prop}(q:Sq mem v "list" xs)(hx:isD n x=true)(hxs:xs.all (isD n)=true)(hn:n<64)(hu:A.units+65<cLine)
  (h:∀ b:Bool,(b=true↔x∈xs)->Q (.bool b) loc mem):OpV W A env outer (fun|[x,y]=>compareOp .In x y|_=>pure .none) [x,v] loc mem Q E:=op2 fun R F s x' v' S r1 r2=>by
 obtain⟨as,ra⟩:=r1.reads S.frz hx
 obtain⟨bs,rb⟩:=q.reads hxs S r2
 exact in_list_dataH rb ra (jh hxs hn).1 (cy hx (by lia)) hu (fun y hy=>by obtain⟨z,hz,rfl⟩:=inM hy;exact fT (List.all_eq_true.mp hxs z hz) hx) (aE.mk (.bool _) S (h _ (ie hx hxs)))
theorem iW{v:V}{x:V}{xs:List V}{n:Nat}{Q:V->Loc->Mem->Prop}(q:Sq mem v "list" xs)(hx:isD n x=true)(hxs:xs.all (isD n)=true)(hn:n<64)(hu:A.units+65<cLine)
  (h:∀ b:Bool,(b=true↔x∈xs)->Q (.bool (!b)) loc mem):OpV W A env outer (fun|[x,y]=>compareOp .NotIn x y|_=>pure .none) [x,v] loc mem Q E:=op2 fun R F s x' v' S r1 r2=>by
 obtain⟨as,ra⟩:=r1.reads S.frz hx
 obtain⟨bs,rb⟩:=q.reads hxs S r2
 exact notIn_list_dataH rb ra (jh hxs hn).1 (cy hx (by lia)) hu (fun y hy=>by obtain⟨z,hz,rfl⟩:=inM hy;exact fT (List.all_eq_true.mp hxs z hz) hx) (aE.mk (.bool _) S (h _ (ie hx hxs)))
theorem iF{v:V}{xs:List V}{Q:V->Loc->Mem->Prop}(q:Sq mem v "list" xs)(hz:xs.length≤sizeLine)(h:Q (.tup xs) loc mem):OpV W A env outer (fun vs=>call (.type "tuple") vs) [v] loc mem Q E:=op1 fun R F s v' S r=>by
 obtain⟨a,vs,n,rfl,ho,rs⟩:=q.at S r
 refine call_tuple_list (items:=vs) ⟨_,ho,rfl,n,rfl⟩ (fun h' hk=>?_) (by rw[rs.size];exact hz)
 have S1:=S.grow (t:=s.toks) (d:=s.drawn) hk
 have S':=S1.freeze (t:=s.toks) (d:=s.drawn) (o':={ cls:=.type "tuple",data:=.seq vs }) (aH h') (fun b o e=>Heap.get?_push_of_some _ e) (Heap.get?_push_size _ rfl)
 exact⟨_,.tup xs,loc,mem,aV.fadd _ _ _,.tup (.inr ⟨rfl,rfl⟩) (rs.mono (aV.fadd _ _ _)),S',h⟩
end
section
variable {W:Wd}{A:Around}{env:Env}{outer:ay}{loc:Loc}{mem R:Mem}{E:Ex W}{F:Frz}{s:Shared}
theorem gH(m:Mem)(a:Addr)(x y:ax):ap (ap m a x) a y=ap m a y:=by funext b;unfold ap;split<;>simp_all
theorem ip{m:Mem}{a:Addr}{x:ax}(h:m a=some x):ap m a x=m:=by
 funext b;unfold ap;split
 ·rename_i e;rw[e,h]
 ·rfl
theorem Sim.fromR{D:Addr}{x:ax}(S:Sim W env outer loc mem (ap R D x) F s)(hR:R D=none):Sim W env outer loc (ap mem D x) R F s:=by
 have hm:mem D=none:=by
  cases q:mem D with
  | none=>rfl
  | some y=>have:=S.dis D y q;rw[mset_self]at this;cases this
 refine⟨fun b y e=>?_,?_⟩
 ·unfold ap at e
  split at e
  ·rename_i q;rw[q];exact hR
  ·rename_i q
   have:=S.dis b y e
   rw[af q]at this;exact this
 ·have z:=S.z
  rw[<-ej hm,fk]at z
  exact z
theorem Sim.offM{D:Addr}{x:ax}(S:Sim W env outer loc mem (ap R D x) F s):mem D=none:=by
 cases q:mem D with
 | none=>rfl
 | some y=>have:=S.dis D y q;rw[mset_self]at this;cases this
theorem bo.swap{env':Env}{m m':Str->Option Value}{loc':Loc}{mem':Mem}{F':Frz}{s':Shared}(S:bo W env outer loc mem F s)(l:cz W F loc m)(i:aV F F')
  (S':bo W env' ((env.locals,m)::outer) loc' mem' F' s') (hn:s'.heap.Ns env'.locals m'):bo W env ((env'.locals,m')::outer) loc mem' F' s' where
 frz:=S'.frz
 base:=S'.base
 memF:=S'.memF
 memOk:=S'.memOk
 ns:=⟨m,(S'.outs _ (.head _)).1,l.mono i⟩
 nsF:=⟨(S'.outs _ (.head _)).2.1,(S'.outs _ (.head _)).2.2.1⟩
 outs q hq:=by
  rcases List.mem_cons.mp hq with rfl|hq
  ·exact⟨hn,S'.nsF.1,S'.nsF.2,Ne.symm (S'.outs _ (.head _)).2.2.2⟩
  ·obtain⟨z,b,c,_⟩:=S'.outs q (.tail _ hq);exact⟨z,b,c,(S.outs q hq).2.2.2⟩
 low:=S.low
 memLow:=S'.memLow
 gens:=S'.gens
 os:=S'.os
theorem bo.dropOut{q:Addr×(Str->Option Value)}{h':Heap}{t:Nat}(S:bo W env (q::outer) loc mem F s)(ho:∀ p∈outer,p.1≠q.1)(hs:Heap.SameBut q.1 s.heap h'):bo W env outer loc mem F { s with heap:=h',toks:=t }:=by
 obtain⟨z,b,c,n⟩:=S.outs q (.head _)
 have up:∀ {a o},F a o->a≠q.1:=fun h e=>b _ (e▸h)
 have um:∀ {a x},mem a=some x->a≠q.1:=fun h e=>by rw[e,c]at h;cases h
 exact {
  frz:=fun a o h=>(hs.2 a (up h)).trans (S.frz a o h)
  base:=S.base
  memF:=S.memF
  memOk:=fun a x h=>let ⟨o,e,r⟩:=S.memOk a x h;⟨o,(hs.2 a (um h)).trans e,r⟩
  ns:=let ⟨m,z',l⟩:=S.ns;⟨m,z'.sameBut hs (Ne.symm n),l⟩
  nsF:=S.nsF
  outs:=fun p hp=>let ⟨z',b',c',n'⟩:=S.outs p (.tail _ hp);⟨z'.sameBut hs (ho p hp),b',c',n'⟩
  low:=S.low
  memLow:=S.memLow
  gens:=S.gens
  os:=S.os }
inductive nT(W:Wd)(env:Env)(outer:ay)(loc:Loc)(R:Mem)(F:Frz)(Q:V->Loc->Mem->Prop)(acc:Value)(C:Addr)(s':Shared):Prop
 | intro (F':Frz) (mem':Mem) (D:Addr) (m':Str->Option Value) (h1_:acc = .ref D) (h2_:aV F F') (h3_:∀ p∈outer,p.1≠C) (h4_:Sim W env ((C,m')::outer) loc mem' R F' s') (h5_:Q (.ref D) loc mem')
noncomputable abbrev dN(W:Wd)(A:Around)(env:Env)(outer:ay)(ifs:List PySem.Expr)(elt:PySem.Expr)(loc:Loc)(mem:Mem)(Q:Option V->Loc->Mem->Prop):Prop:=match ifs with
 | []=>TrV W A env outer (eval elt env) loc mem (fun y l m=>Q (some y) l m) Ex.no
 | [c]=>TrB W A env outer (isTrue c env (eval c env)) loc mem (fun b l m=>(b=true->TrV W A env outer (eval elt env) l m (fun y l m=>Q (some y) l m) Ex.no)/\(b=false->Q none l m)) Ex.no
 | _=>False
noncomputable def e7(W:Wd)(A:Around)(env:Env)(outer:ay)(ifs:List PySem.Expr)(elt:PySem.Expr)(loc:Loc)(mem:Mem)(Q:Option V->Mem->Prop):Prop:=dN W A env outer ifs elt loc mem fun y _ m=>Q y m
theorem dN.mono{ifs:List PySem.Expr}{elt:PySem.Expr}{P Q:Option V->Loc->Mem->Prop}(h:dN W A env outer ifs elt loc mem P)(k:∀ y l m,P y l m->Q y l m):dN W A env outer ifs elt loc mem Q:=by
 cases ifs with
 | nil=>exact Tr.mono h fun y l m q=>k _ _ _ q
 | cons c r=>
  cases r with
  | nil=>exact Tr.mono h fun b l m q=>⟨fun hb=>Tr.mono (q.1 hb) fun y l m q=>k _ _ _ q,fun hb=>k _ _ _ (q.2 hb)⟩
  | cons=>exact h
theorem dN.run{ifs:List PySem.Expr}{elt:PySem.Expr}{P:Option V->Loc->Mem->Prop}{Q':Bool->Shared->Prop}{E':Value->Shared->Prop}(h:dN W A env outer ifs elt loc mem P)(S:Sim W env outer loc mem R F s)
  (k:∀ b s' F' l' m',aV F F'->Sim W env outer l' m' R F' s'->(b=true->TrV W A env outer (eval elt env) l' m' (fun y l m=>P (some y) l m) Ex.no)->(b=false->P none l' m')->Q' b s') :
  wpAny (model W.prog W.w) A (forIn ifs true fun c r=>if r=true then do let ok<-isTrue c env (eval c env);pure (ForInStep.yield ok) else pure (ForInStep.yield r)) Q' E' s:=by
 cases ifs with
 | nil=>exact wpAny_tests_nil (k true s F loc mem (aV.refl F) S (fun _=>h) fun e=>nomatch e)
 | cons c r=>
  cases r with
  | nil=>exact wpAny_tests_one (cG (RW:=VR W) (Q:=fun _ _ _=>True) (h R F s S) (fun _ _ z=>z.elim) fun b' s4 F4 b l4 m4 i4 r4 S4' h4=>k b' s4 F4 l4 m4 i4 S4' (fun e=>h4.1 (r4.symm.trans e)) fun e=>h4.2 (r4.symm.trans e))
  | cons=>exact h.elim
theorem og{elt target iter:PySem.Expr}{ifs:List PySem.Expr}{scope:Scope}{pos:Pos}{it acc:Value}{env:Env}{R:Result->Shared->Prop}(I:Nat->Shared->Prop)
  (turn:∀ n s,I n s->wpAny (model W.prog W.w) A (pyNext it) (fun r s₁=>match r with
   | none=>R (.ok .next) s₁
   | some v=>wpAny (model W.prog W.w) A (letOwnedTupleGo target it v) (fun _ s₀=>wpAny (model W.prog W.w) A (assign target env v) (fun _ s₂=>
     wpAny (model W.prog W.w) A (forIn ifs true fun c r=>if r=true then do let ok<-isTrue c env (eval c env);pure (ForInStep.yield ok) else pure (ForInStep.yield r)) (fun ok s₃=>if ok=true then wpAny (model W.prog W.w) A (eval elt env) (fun x s₄=>
      wpAny (model W.prog W.w) A (call (.builtin "list.append") [acc,x]) (fun _ s₅=>∃ m,m<n/\I m s₅) (fun _ _=>False) s₄) (fun _ _=>False) s₃
      else ∃ m,m<n/\I m s₃) (fun _ _=>False) s₂) (fun _ _=>False) s₀) (fun _ _=>False) s₁) (fun _ _=>False) s)
  (n:Nat) (h:I n s):codeAny (model W.prog W.w) A (.compLoop (.ListComp elt [⟨target,iter,ifs,0⟩] scope pos) 0 it acc env) R s:=by
 refine codeAny_loop rfl I (fun n s hI=>?_) n h
 show wpAny _ A ((compTurn (.ListComp elt [⟨target,iter,ifs,0⟩] scope pos) 0 it acc env).onRaise (fun x=>do noteFrame x env;theTreesLotGoes x)) _ _ s
 refine wpAny_noted ?_
 rw[compTurn_list]
 refine wpAny_bind (wpAny_standAt (wpAny_bind (wpAny_mono (turn n s hI) (fun r s₁ h₁=>?_) fun _ _ f=>f.elim)))
 cases r with
 | none=>exact wpAny_pure h₁
 | some v=>
  refine wpAny_bind (wpAny_mono h₁ (fun _ s₀ h₀'=>?_) fun _ _ f=>f.elim)
  refine wpAny_bind (wpAny_mono h₀' (fun _ s₂ h₂=>?_) fun _ _ f=>f.elim)
  refine wpAny_bind (wpAny_mono h₂ (fun okb s₃ h₃=>?_) fun _ _ f=>f.elim)
  cases okb with
  | false=>exact wpAny_pure ⟨rfl,h₃⟩
  | true=>exact wpAny_bind (wpAny_bind (wpAny_mono h₃ (fun x s₄ h₄=>wpAny_bind (wpAny_mono h₄ (fun _ s₅ h₅=>wpAny_pure (wpAny_pure ⟨rfl,h₅⟩)) fun _ _ f=>f.elim)) fun _ _ f=>f.elim))
inductive CoreI(W:Wd)(env:Env)(outer:ay)(F:Frz)(R:Mem)(D:Addr)(st:Nat->Mem->Mem->Prop)(I:Nat->Nat->List V->Mem->Prop)(n:Nat)(s:Shared):Prop
 | intro (i:Nat) (F':Frz) (ys:List V) (R1:Mem) (l:Loc) (m:Mem) (h1_:aV F F') (h2_:st i (ap R D (.list ys)) R1) (h3_:Sim W env outer l m R1 F' s) (h4_:I n i ys m)
theorem j1{E0:Value->Shared->Prop}{mem₀:Mem}{elt target:PySem.Expr}{iter:PySem.Expr}{ifs:List PySem.Expr}{rest:List Comprehension}{scope:Scope}{cl:List (Str×Addr)}{pos:Pos}{x:V}{item:Nat->Mem->Option (Option V)}{x':Value}{RR:Value->Addr->Result->Shared->Prop}
  (hcell:∀ y∈scope.names,y.2≠.cell) (hkind:scope.kind = .function) (hx:Itr W A target x mem mem₀ item) (S:Sim W env outer loc mem R F s) (r:VR W F x x')
  (loop:∀ (it:Value) (st:Nat->Mem->Mem->Prop) (R':Mem) (D C:Addr) (m:Str->Option Value) (s4:Shared),Feed W A F target it item st->R D=none->st 0 (ap R D (.list [])) R'->cz W F loc m->(∀ p∈outer,p.1≠C)->
   Sim W (compEnvC scope cl C env) ((env.locals,m)::outer) [] mem₀ R' F s4->codeAny (model W.prog W.w) A (.compLoop (.ListComp elt (⟨target,iter,ifs,0⟩::rest) scope pos) 0 it (.ref D) (compEnvC scope cl C env)) (RR (.ref D) C) s4) :
  wpAny (model W.prog W.w) A (pyIter x') (fun it s₂=>wpAny (model W.prog W.w) A (newList []) (fun acc s₃=>
   wpAny (model W.prog W.w) A (newFunctionEnv scope env.globals cl [] env.qual none .none (some env)) (fun cenv s₄=>
    codeAny (model W.prog W.w) A (.compStart (.ListComp elt (⟨target,iter,ifs,0⟩::rest) scope pos) 0 it acc { cenv with scope:=relabel scope env }) (RR acc cenv.locals) s₄) E0 s₃) E0 s₂) E0 s:=by
 refine wpAny_mono (hx E0 S r) (fun it s₂ h2=>?_) fun _ _ e=>e
 obtain⟨st,R',fd,h0,S2⟩:=h2
 refine wpAny_newObj_type (wpAny_newFunctionEnv hcell (by intro y hy;simp at hy) (fun h₁ hns₁ hsb₁=>?_) hkind)
 dsimp only at hns₁ hsb₁ ⊢
 generalize hD:s₂.heap.objs.size=D at *
 have fD:s₂.heap.get? D=none:=hD▸aH _
 obtain⟨fm,fR⟩:=S2.free fD
 have fR0:R D=none:=by
  cases q:R D with
  | none=>rfl
  | some y=>have:=fd.same (D:=D) h0 (by rw[q];exact fun e=>nomatch e);rw[fR,q]at this;cases this
 generalize hH2:s₂.heap.push { cls:=.type "list",dict:=none,data:=.seq ([]:List Value).toArray }=H2 at hns₁ hsb₁ ⊢
 have S3:=S2.allocR (t:=s₂.toks) (d:=s₂.drawn) (x:=.list []) (o':={ cls:=.type "list",dict:=none,data:=.seq ([]:List Value).toArray }) fD (hD▸S2.size_le)
  (h':=H2) (fun b o e=>hH2▸Heap.get?_push_of_some _ e) (by rw[<-hH2,<-hD];exact Heap.get?_push_size _ rfl) (.list .nil)
 have st3:st 0 (ap R D (.list [])) (ap R' D (.list [])):=fd.frame _ h0 (by rw[fR,fR0])
 generalize hC:H2.objs.size=C at *
 obtain⟨m,hnm,lm⟩:=S3.z.ns
 have S4:Sim W (compEnvC scope cl C env) ((env.locals,m)::outer) [] mem₀ (ap R' D (.list [])) F { s₂ with heap:=h₁,toks:=s₂.toks+([]:List (Str×Value)).length }:=
  ⟨S3.dis,S3.z.enter (s:={ s₂ with heap:=H2 }) (m':=fun x=>([]:List (Str×Value)).reverse.lookup x) hnm hC.symm rfl hns₁ (fun b o e=>hsb₁.extBut b o (fun q=>by
   have:=Heap.lt_size e;rw[q,<-hC]at this;exact Nat.lt_irrefl _ this) (Heap.get?_push_of_some _ e)) (fun x v e=>by cases e)⟩
 have oC:∀ p∈outer,p.1≠C:=fun p hp e=>by
  have:=(S4.z.outs p (.tail _ hp)).2.2.2;exact this e
 have l:=loop it st _ D C m _ fd fR0 st3 lm oC S4
 exact codeAny_compStart_list l (fd.self _ _ st3 S4 l)
theorem jO{E0:Value->Shared->Prop}{mem₀:Mem}{elt target iter:PySem.Expr}{ifs:List PySem.Expr}{scope:Scope}{cl:List (Str×Addr)}{pos:Pos}{x:V}{item:Nat->Mem->Option (Option V)}{Q:V->Loc->Mem->Prop}{x':Value}{RR:Value->Addr->Result->Shared->Prop}
  (hcell:∀ y∈scope.names,y.2≠.cell) (hkind:scope.kind = .function) (hx:Itr W A target x mem mem₀ item) (I:Nat->Nat->List V->Mem->Prop) (hz:∀ k i ys m,I k i ys m->ys.length≤sizeLine)
  (turn:∀ (C:Addr) (outer':ay) k i ys m l,I k i ys m->item i m≠none/\(item i m=some none->∀ D,m D=none->∃ m',(∀ a x,m' a=some x->ap m D (.list ys) a=some x)/\Q (.ref D) loc m')/\
   ∀ v,item i m=some (some v)->Op W A (compEnvC scope cl C env) outer' (fun _ (_ _:Unit)=>True) (fun|[y]=>assign target (compEnvC scope cl C env) y|_=>pure ()) [v] l m (fun _ l m=>
    e7 W A (compEnvC scope cl C env) outer' ifs elt l m (fun y m=>∃ k',k'<k/\I k' (i+1) (ys++y.toList) m)) Ex.no)
  (k:Nat) (h:I k 0 [] mem₀) (S:Sim W env outer loc mem R F s) (r:VR W F x x') (hRR:∀ acc C s',nT W env outer loc R F Q acc C s'->RR acc C (.ok .next) s') :
  wpAny (model W.prog W.w) A (pyIter x') (fun it s₂=>wpAny (model W.prog W.w) A (newList []) (fun acc s₃=>
   wpAny (model W.prog W.w) A (newFunctionEnv scope env.globals cl [] env.qual none .none (some env)) (fun cenv s₄=>
    codeAny (model W.prog W.w) A (.compStart (.ListComp elt [⟨target,iter,ifs,0⟩] scope pos) 0 it acc { cenv with scope:=relabel scope env }) (RR acc cenv.locals) s₄) E0 s₃) E0 s₂) E0 s:=by
 refine j1 hcell hkind hx S r fun it st R' D C m s4 fd fR0 st3 lm oC S4=>?_
 refine og (CoreI W (compEnvC scope cl C env) ((env.locals,m)::outer) F R D st I) (fun n s hI=>?_) k ⟨0,F,[],_,[],mem₀,aV.refl F,st3,S4,h⟩
 obtain⟨i,F',ys,R1,l,m',ic,hst,S',hI⟩:=hI
 obtain⟨t1,t2,t3⟩:=turn C ((env.locals,m)::outer) n i ys m' l hI
 cases hit:item i m' with
 | none=>exact absurd hit t1
 | some w=>
  cases w with
  | none=>
   refine wpAny_mono (fd.done _ ic hst hit S') (fun r s1 h1=>?_) fun _ _ e=>e
   obtain⟨rfl,S1⟩:=h1
   refine hRR _ _ _ ?_
   obtain⟨mc,hnc,_⟩:=S1.z.ns
   have z:=S.z.swap lm ic S1.z hnc
   have S5:Sim W env ((C,mc)::outer) loc m' (ap R D (.list ys)) F' s1:=⟨S1.dis,z⟩
   obtain⟨m2,hm2,q2⟩:=t2 hit D S5.offM
   exact⟨F',m2,D,mc,rfl,ic,oC,(S5.fromR fR0).drop hm2,q2⟩
  | some v=>
   refine wpAny_mono (fd.next _ ic hst hit S') (fun r s1 h1=>?_) fun _ _ e=>e
   obtain⟨v',rfl,h1⟩:=h1
   refine wpAny_mono h1 (fun _ s2 h2=>?_) fun _ _ e=>e
   obtain⟨F2,R2,i2,r2,hst2,S2'⟩:=h2
   refine cG (RW:=VR W) (Q:=fun _ _ _=>True) (t3 v hit R2 F2 s2 [v'] S2' (.cons r2 .nil)) (fun _ _ z=>z) fun _ s3 F3 _ l3 m3 i3 _ S3' h3=>?_
   have elts:∀ (F4:Frz) (l4:Loc) (m4:Mem) (s4:Shared),aV F' F4->Sim W (compEnvC scope cl C env) ((env.locals,m)::outer) l4 m4 R2 F4 s4->TrV W A (compEnvC scope cl C env) ((env.locals,m)::outer) (eval elt (compEnvC scope cl C env)) l4 m4 (fun y _ m=>∃ k',k'<n/\I k' (i+1) (ys++[y]) m) Ex.no->
     wpAny (model W.prog W.w) A (eval elt (compEnvC scope cl C env)) (fun x s₄=>wpAny (model W.prog W.w) A (call (.builtin "list.append") [.ref D,x]) (fun _ s₅=>∃ m',m'<n/\CoreI W (compEnvC scope cl C env) ((env.locals,m)::outer) F R D st I m' s₅) (fun _ _=>False) s₄) (fun _ _=>False) s4:=fun F4 l4 m4 s4 i4 S4 he=>by
    refine cG (RW:=VR W) (Q:=fun _ _ _=>True) (he R2 F4 s4 S4) (fun _ _ z=>z) fun y' s5 F5 y l5 m5 i5 r5 S5 h5=>?_
    obtain⟨k',hk',hI'⟩:=h5
    have e2:R2 D=some (.list ys):=by rw[fd.same hst2 (by rw[mset_self];exact fun e=>nomatch e),mset_self]
    have e3:=ip e2
    rw[<-e3]at S5
    obtain⟨o,ho,ro⟩:=S5.atR
    cases ro.view with
    | @list vs nn q=>
     refine append_at ho (fun h' hs ho'=>?_) (by rw[q.size];exact hz _ _ _ _ hI)
     have S6:=S5.updR (t:=s5.toks) (d:=s5.drawn) (x':=.list (ys++[y])) (fun b ob hb e=>(hs.2 b hb).trans e) ho' (.list (by simpa using q.app (.cons r5 .nil)))
     refine⟨k',hk',i+1,F5,ys++[y],_,l5,m5,(ic.trans i4).trans i5,?_,S6,hI'⟩
     have:=fd.frame (D:=D) (.list (ys++[y])) hst2 (by rw[e2,mset_self])
     rwa [gH]at this
   unfold e7 at h3
   refine dN.run h3 S3' fun b' s4 F4 l4 m4 i4 S4' ht hf=>?_
   cases b' with
   | true=>rw[if_pos rfl];exact elts F4 l4 m4 s4 ((i2.trans i3).trans i4) S4' (ht rfl)
   | false=>
    rw[if_neg Bool.false_ne_true]
    obtain⟨k',hk',hI'⟩:=hf rfl
    exact⟨k',hk',i+1,F4,_,R2,l4,m4,((ic.trans i2).trans i3).trans i4,(List.append_nil ys).symm▸hst2,S4',hI'⟩
inductive mZ(W:Wd)(A:Around)(env:Env)(elt target:PySem.Expr)(ifs:List PySem.Expr)(scope:Scope)(cl:List (Str×Addr))(loc:Loc)(mem:Mem)(x:V)(Q:V->Loc->Mem->Prop):Prop
 | mk (item:Nat->Mem->Option (Option V)) (mem₀:Mem) (itr:Itr W A target x mem mem₀ item) (I:Nat->Nat->List V->Mem->Prop) (size:∀ k i ys m,I k i ys m->ys.length≤sizeLine)
  (turn:∀ (C:Addr) (outer':ay) k i ys m l,I k i ys m->item i m≠none/\(item i m=some none->∀ D,m D=none->∃ m',(∀ a x,m' a=some x->ap m D (.list ys) a=some x)/\Q (.ref D) loc m')/\
   ∀ v,item i m=some (some v)->Op W A (compEnvC scope cl C env) outer' (fun _ (_ _:Unit)=>True) (fun|[y]=>assign target (compEnvC scope cl C env) y|_=>pure ()) [v] l m (fun _ l m=>
    e7 W A (compEnvC scope cl C env) outer' ifs elt l m (fun y m=>∃ k',k'<k/\I k' (i+1) (ys++y.toList) m)) Ex.no) (k:Nat) (init:I k 0 [] mem₀)
theorem bd{elt target iter:PySem.Expr}{ifs:List PySem.Expr}{scope:Scope}{cl:List (Str×Addr)}{pos:Pos}{Q:V->Loc->Mem->Prop}
  (hclos:closureFor scope env=pure cl) (hcell:∀ y∈scope.names,y.2≠.cell) (hkind:scope.kind = .function)
  (hnames:∀ y∈scope.names,y.2 = .local->scope.names.lookup y.1=some .local) (hs:∀ x,foldedSetIterable iter env x=pure x)
  (h:TrV W A env outer (eval iter env) loc mem (fun x l m=>mZ W A env elt target ifs scope cl l m x Q) E) :
  TrV W A env outer (eval (.ListComp elt [⟨target,iter,ifs,0⟩] scope pos) env) loc mem Q E:=fun R F s S=>by
 rw[eval_ListComp]
 refine wpAny_comprehension_free (use:=none) rfl hs hclos hkind hnames (aM (i:=.refl _) (RW:=VR W) (Q:=fun _ _ _=>True) (h R F s S) fun x' s1 F1 x l1 m1 i1 r1 S1 h1=>?_)
 obtain⟨item,mem₀,itr,I,size,turn,k,init⟩:=h1
 refine jO (RR:=fun acc C=>compPost (model W.prog W.w) A (E.p R F) none (aE W env outer (VR W) R F Q) acc C) hcell hkind itr I size turn k init S1 r1 fun acc C s' he=>?_
 obtain⟨F',mem',D,m',rfl,i',oC,S',q⟩:=he
 refine⟨m',(S'.z.outs _ (.head _)).1,fun h' hs'=>⟨F',.ref D,l1,mem',i1.trans i',.ref D,⟨S'.dis,S'.z.dropOut (t:=s'.toks) oC hs'⟩,q⟩⟩
theorem cw{elt target iter:PySem.Expr}{ifs:List PySem.Expr}{scope:Scope}{cl:List (Str×Addr)}{pos py spos:Pos}{y:Str}{Q:Fl->Loc->Mem->Prop}
  (hsw:swapsWith (.ListComp elt [⟨target,iter,ifs,0⟩] scope pos) (some (.Name y py)) spos.line env=pure true)
  (hclos:closureFor scope env=pure cl) (hcell:∀ y∈scope.names,y.2≠.cell) (hkind:scope.kind = .function)
  (hnames:∀ y∈scope.names,y.2 = .local->scope.names.lookup y.1=some .local) (hy:env.kindOf y=some .local) (hp:(env.scope.kind == .class || (env.scope.kind == .module&&env.locals != env.globals))=false)
  (hs:∀ x,foldedSetIterable iter env x=pure x)
  (h:TrV W A env outer (eval iter env) loc mem (fun x l m=>mZ W A env elt target ifs scope cl l m x (fun v l m=>Q .next (eY y v l) m)) E) :
  TrS W A env outer (exec (.Assign [.Name y py] (.ListComp elt [⟨target,iter,ifs,0⟩] scope pos) spos) env) loc mem Q E:=fun R F s S=>by
 rw[exec_Assign_Name_used _ _ _ _ hsw]
 refine wpAny_bind (wpAny_standAt (wpAny_bind ?_))
 show wpAny _ A (do let _<-comprehension (.ListComp elt [⟨target,iter,ifs,0⟩] scope pos) scope env _ (newList []) false (eval iter env) (some (assign (.Name y py) env))) _ _ s
 refine wpAny_bind (wpAny_mono (wpAny_comprehension_free (use:=some (assign (.Name y py) env)) (Q:=fun _ s'=>aE W env outer (FR W) R F Q .next s') rfl hs hclos hkind hnames
  (aM (i:=.refl _) (RW:=VR W) (Q:=fun _ _ _=>True) (h R F s S) fun x' s1 F1 x l1 m1 i1 r1 S1 h1=>?_)) (fun _ s' hq=>wpAny_pure (wpAny_pure hq)) fun _ _ e=>e)
 obtain⟨item,mem₀,itr,I,size,turn,k,init⟩:=h1
 refine jO (Q:=fun v l m=>Q .next (eY y v l) m) (RR:=fun acc C=>compPost (model W.prog W.w) A (E.p R F) (some (assign (.Name y py) env)) (fun _ s'=>aE W env outer (FR W) R F Q .next s') acc C) hcell hkind itr I size turn k init S1 r1 fun acc C s' he=>?_
 obtain⟨F',mem',D,m',rfl,i',oC,S',q⟩:=he
 refine wpAny_assign_Name (aM (i:=.trans ‹_› ‹_›) (RW:=fun _ (_ _:Unit)=>True) (Q:=fun _ _ _=>True) (dL (A:=A) (E:=E) (v:=.ref D) (Q:=fun l m=>Q .next l m) hy hp q R F' s' [.ref D] S' (.cons (.ref D) .nil)) fun _ s2 F2 _ l2 m2 i2 _ S2 q2=>?_)
 exact⟨m',(S2.z.outs _ (.head _)).1,fun h' hs'=>⟨F2,.next,l2,m2,(i1.trans i').trans i2,.next,⟨S2.dis,S2.z.dropOut (t:=s2.toks) oC hs'⟩,q2⟩⟩
end
section
variable {W:Wd}{A:Around}{env:Env}{outer:ay}{loc:Loc}{mem R:Mem}{E:Ex W}{F:Frz}{s:Shared}
theorem Sim.reR{R':Mem}{h':Heap}{t:Nat}{d:Drawn}(S:Sim W env outer loc mem R F s)(h1:∀ b,R b=none->R' b=none)(h2:∀ b x,R' b=some x->oN W F h' b x)
  (h3:∀ b o,s.heap.get? b=some o->R b=none->h'.get? b=some o):Sim W env outer loc mem R' F { s with heap:=h',toks:=t,drawn:=d }:=by
 have Z:=S.z
 have dn:∀ {b},mun mem R b=none->R b=none/\mun mem R' b=none:=fun {b} e=>by
  obtain⟨a,c⟩:=br e
  exact⟨c,by rw[bw a];exact h1 b c⟩
 refine⟨fun b y e=>h1 b (S.dis b y e),?_⟩
 exact {
  frz:=fun b o h=>h3 b o (Z.frz b o h) (dn (Z.memF b o h)).1
  base:=Z.base
  memF:=fun b o h=>(dn (Z.memF b o h)).2
  memOk:=fun b y h=>by
   cases q:mem b with
   | some z=>
    rw[bu q]at h;cases h
    obtain⟨o,ho,r⟩:=Z.memOk b _ (bu q)
    exact⟨o,h3 b o ho (S.dis b _ q),r⟩
   | none=>rw[bw q]at h;exact h2 b y h
  ns:=let ⟨m,⟨o,es,ep,e,q⟩,b⟩:=Z.ns;⟨m,⟨o,es,ep,h3 _ _ e (dn Z.nsF.2).1,q⟩,b⟩
  nsF:=⟨Z.nsF.1,(dn Z.nsF.2).2⟩
  outs:=fun q hq=>by
   obtain⟨⟨o,es,ep,e,r⟩,b,c,n⟩:=Z.outs q hq
   exact⟨⟨o,es,ep,h3 _ _ e (dn c).1,r⟩,b,(dn c).2,n⟩
  low:=Z.low
  memLow:=fun b y h=>by
   cases q:mem b with
   | some z=>exact Z.memLow b z (bu q)
   | none=>
    rw[bw q]at h
    cases q':R b with
    | none=>rw[h1 b q']at h;cases h
    | some z=>exact Z.memLow b z (by rw[bw q];exact q')
  gens:=Z.gens
  os:=Z.os }
theorem Sim.adopt{a:Addr}{o:Obj}(S:Sim W env outer loc mem R F s)(f1:mun mem R a=none)(f2:∀ o,¬ F a o)(f3:a≠env.locals)(f4:∀ q∈outer,q.1≠a)(ho:s.heap.get? a=some o):Sim W env outer loc mem R (fadd F a o) s:=by
 refine⟨S.dis,?_⟩
 have Z:=S.z
 exact {
  frz:=fun b o e=>by rcases e with e|⟨rfl,rfl⟩;exact Z.frz b o e;exact ho
  base:=fun b o e=>.inl (Z.base b o e)
  memF:=fun b o e=>by rcases e with e|⟨rfl,rfl⟩;exact Z.memF b o e;exact f1
  memOk:=fun b y e=>let ⟨o,e',q⟩:=Z.memOk b y e;⟨o,e',q.mono (aV.fadd _ _ _)⟩
  ns:=let ⟨m,z,b⟩:=Z.ns;⟨m,z,cz.mono (aV.fadd _ _ _) b⟩
  nsF:=⟨fun o e=>by rcases e with e|⟨e,rfl⟩;exact Z.nsF.1 o e;exact f3 e.symm,Z.nsF.2⟩
  outs:=fun q hq=>by
   obtain⟨z,b,c,e⟩:=Z.outs q hq
   exact⟨z,fun o e=>by rcases e with e|⟨e,rfl⟩;exact b o e;exact f4 q hq e,c,e⟩
  low:=Z.low
  memLow:=Z.memLow
  gens:=Z.gens
  os:=Z.os }
theorem Sim.toR{D:Addr}{x:ax}(S:Sim W env outer loc (ap mem D x) R F s)(hm:mem D=none):Sim W env outer loc mem (ap R D x) F s:=by
 have hR:R D=none:=S.dis D x (mset_self _ _ _)
 refine⟨fun b y e=>?_,?_⟩
 ·have hb:b≠D:=fun q=>by rw[q,hm]at e;cases e
  rw[af hb]
  exact S.dis b y (by rw[af hb];exact e)
 ·have z:=S.z
  rw[<-fk,ej hm]at z
  exact z
theorem Sim.rawAt{a:Addr}{x:ax}(S:Sim W env outer loc mem R F s)(h:R a=some x):oN W F s.heap a x:=by
 have hm:mem a=none:=by
  cases q:mem a with
  | none=>rfl
  | some y=>have:=S.dis a y q;rw[h]at this;cases this
 exact S.z.memOk a x (by rw[bw hm];exact h)
noncomputable def fM(it:Addr)(i:Int)(old:Value):Obj:={ cls:=.type "enumerate",dict:=none,data:=.fields #[.none,.bool false,.ref it,rawInt i,.none,old],slots:=#[] }
theorem alloc2{D:Addr}{x1 x2:ax}{h':Heap}{t:Nat}{d:Drawn}{o1 o2:Obj}(S:Sim W env outer loc mem R F s)(hD:D=s.heap.objs.size)(hk:∀ b o,s.heap.get? b=some o->h'.get? b=some o)
  (g1:h'.get? D=some o1) (g2:h'.get? (D+1)=some o2) (r1:OR W F x1 o1) (r2:OR W F x2 o2):mem D=none/\mem (D+1)=none/\Sim W env outer loc (ap (ap mem D x1) (D+1) x2) R F { s with heap:=h',toks:=t,drawn:=d }:=by
 subst hD
 have n1:s.heap.get? s.heap.objs.size=none:=aH _
 have n2:s.heap.get? (s.heap.objs.size+1)=none:=dU (Nat.le_succ _)
 obtain⟨a1,b1⟩:=S.free n1
 obtain⟨a2,b2⟩:=S.free n2
 obtain⟨-,p1,q1,u1⟩:=S.z.free_of_none n1
 obtain⟨-,p2,q2,u2⟩:=S.z.free_of_none n2
 have lo:=S.size_le
 refine⟨a1,a2,?_⟩
 have Z:=S.z
 have ne:s.heap.objs.size≠s.heap.objs.size+1:=(Nat.succ_ne_self _).symm
 have key:∀ {b},b≠s.heap.objs.size->b≠s.heap.objs.size+1->mun (ap (ap mem s.heap.objs.size x1) (s.heap.objs.size+1) x2) R b=mun mem R b:=fun {b} h1 h2=>by
  unfold mun;rw[af h2,af h1]
 refine⟨fun b y e=>?_,?_⟩
 ·by_cases h2:b=s.heap.objs.size+1
  ·rw[h2];exact b2
  ·rw[af h2]at e
   by_cases h1:b=s.heap.objs.size
   ·rw[h1];exact b1
   ·rw[af h1]at e;exact S.dis b y e
 ·exact {
   frz:=fun b o h=>hk b o (Z.frz b o h)
   base:=Z.base
   memF:=fun b o h=>by rw[key (fun e=>p1 o (e▸h)) (fun e=>p2 o (e▸h))];exact Z.memF b o h
   memOk:=fun b y h=>by
    by_cases h2:b=s.heap.objs.size+1
    ·subst h2;rw[bu (mset_self _ _ _)]at h;cases h;exact⟨o2,g2,r2⟩
    ·by_cases h1:b=s.heap.objs.size
     ·subst h1;rw[bu (x:=x1) (by rw[af ne,mset_self])]at h;cases h;exact⟨o1,g1,r1⟩
     ·rw[key h1 h2]at h;obtain⟨o,e,r⟩:=Z.memOk b y h;exact⟨o,hk b o e,r⟩
   ns:=let ⟨m,z,b⟩:=Z.ns;⟨m,z.keeps hk,b⟩
   nsF:=⟨Z.nsF.1,by rw[key (Ne.symm q1) (Ne.symm q2)];exact Z.nsF.2⟩
   outs:=fun q hq=>let ⟨z,b,c,e⟩:=Z.outs q hq;⟨z.keeps hk,b,by rw[key (u1 q hq) (u2 q hq)];exact c,e⟩
   low:=Z.low
   memLow:=fun b y h=>by
    by_cases h2:b=s.heap.objs.size+1
    ·rw[h2];exact ey (Nat.le_trans lo (Nat.le_succ _))
    ·by_cases h1:b=s.heap.objs.size
     ·rw[h1];exact ey lo
     ·rw[key h1 h2]at h;exact Z.memLow b y h
   gens:=Z.gens
   os:=Z.os }
theorem pF{o o':Obj}(h:some o=some o')(n:(o.cls==o'.cls)=false):False:=by cases h;rw[show(o.cls==o.cls)=true from beq_self_eq_true _]at n;cases n
theorem kt{R₀:Mem}{e:Addr}{x1 x2:ax}{bb:Addr}(h:ap (ap R₀ e x1) (e+1) x2 bb=none):bb≠e+1/\bb≠e:=by
 constructor
 ·intro q;rw[q,mset_self]at h;cases h
 ·intro q;rw[q,af (Nat.succ_ne_self e).symm,mset_self]at h;cases h
end
structure aU(A:Around)(d u:Nat):Prop where
 handled:A.handled=none
 guards:A.guards=some []
 depth:A.depth≤d
 units:A.units≤u
theorem aU.mono{A:Around}{d u d' u':Nat}(c:aU A d u)(h1:d≤d')(h2:u≤u'):aU A d' u':=⟨c.handled,c.guards,Nat.le_trans c.depth h1,Nat.le_trans c.units h2⟩
theorem aU.deeper{A:Around}{d u:Nat}(c:aU A d u)(env:Env):aU (A.deeper env) (d+1) (u+3):=⟨c.handled,c.guards,Nat.succ_le_succ c.depth,Nat.add_le_add_right c.units 3⟩
noncomputable def cM(sub x:Str):Bool:=!(Builtin.Str.occurrences x sub 0 x.length 1).isEmpty
section
variable {W:Wd}{A:Around}{env:Env}{outer:ay}{loc:Loc}{mem R:Mem}{E:Ex W}{F:Frz}{s:Shared}
noncomputable def Asg(W:Wd)(A:Around)(env:Env)(outer:ay)(t:PySem.Expr)(v:V)(loc:Loc)(mem:Mem)(Q:Loc->Mem->Prop)(E:Ex W):Prop:=
 Op W A env outer (fun _ (_ _:Unit)=>True) (fun|[y]=>assign t env y|_=>pure ()) [v] loc mem (fun _=>Q) E
noncomputable def iR(W:Wd)(A:Around)(env:Env)(outer:ay):List PySem.Expr->List V->Loc->Mem->(Loc->Mem->Prop)->Ex W->Prop
 | [],_,loc,mem,Q,_=>Q loc mem
 | _::_,[],loc,mem,Q,_=>Q loc mem
 | t::ts,x::xs,loc,mem,Q,E=>Asg W A env outer t x loc mem (fun l m=>iR W A env outer ts xs l m Q E) E
theorem iR.run{ts:List PySem.Expr}{xs:List V}{loc:Loc}{mem:Mem}{Q:Loc->Mem->Prop}{F:Frz}{s:Shared}{vs:List Value}(h:iR W A env outer ts xs loc mem Q E)(S:Sim W env outer loc mem R F s)(r:VRs W F xs vs) :
  wpAny (model W.prog W.w) A (assignInOrder (ts.map fun e=>assign e env) vs) (aE W env outer (fun _ (_ _:Unit)=>True) R F (fun _=>Q)) (E.p R F) s:=by
 induction ts generalizing xs loc mem F s vs with
 | nil=>exact wpAny_pure (aE.mk (x:=()) trivial S h)
 | cons t ts ih=>
  cases xs with
  | nil=>obtain rfl:=r.isNil;exact wpAny_pure (aE.mk (x:=()) trivial S h)
  | cons x xs=>
   cases r.view with
   | @cons _ vs r1 r2=>
    refine(?_:wpAny _ A (do holding vs (assign t env _);assignInOrder (ts.map fun e=>assign e env) vs) _ _ _)
    refine wpAny_bind (wpAny_holding (aM (i:=.refl _) (RW:=fun _ (_ _:Unit)=>True) (Q:=fun _ _ _=>True) (h R F _ [_] S (.cons r1 .nil)) fun _ s2 F2 _ l2 m2 i2 _ S2 h2=>?_))
    exact wpAny_mono (ih h2 S2 (r2.mono i2)) (fun _ _ p=>p.weaken i2) fun _ _ e=>E.up i2 e
theorem iG{x:Str}{pos:Pos}{v:V}{Q:Loc->Mem->Prop}(h:Op W A env outer (fun _ (_ _:Unit)=>True) (fun|[y]=>storeName env x y|_=>pure ()) [v] loc mem (fun _=>Q) E) :
  Asg W A env outer (.Name x pos) v loc mem Q E:=op1 fun R F s v' S r=>wpAny_assign_Name (h R F s [v'] S (.cons r .nil))
theorem bl{elts:List PySem.Expr}{k:Nat}{pos:Pos}{xs:List V}{Q:Loc->Mem->Prop}(hh:A.handled=none)(hE:assignEach elts env=elts.map fun e=>(false,assign e env))(hn:elts.length=xs.length)
  (h:iR W A env outer elts xs loc mem Q E):Asg W A env outer (.Tuple elts k pos) (.tup xs) loc mem Q E:=op1 fun R F s v' S r=>by
 cases r.view with
 | @tup a vs n fa q=>
  refine assign_Tuple_tuple (items:=vs) hh ⟨_,S.frz _ _ fa,rfl,n,rfl⟩ (by rw[hE,List.length_map,q.size,hn]) (by
   rw[hE]
   have:∀ l:List PySem.Expr,(l.map fun e=>(false,assign e env)).findIdx? (·.1)=none:=fun l=>by
    rw[List.findIdx?_eq_none_iff];intro x hx;obtain⟨e,_,rfl⟩:=inM hx;rfl
   exact this _) fun h' eb=>?_
  rw[hE,List.map_map]
  exact iR.run h (S.grow (t:=s.toks) (d:=s.drawn) fun b o e=>eb b o (fun q=>by have:=Heap.lt_size e;rw[q]at this;exact Nat.lt_irrefl _ this) e) q
theorem ig{a b:Str}{Q:V->Loc->Mem->Prop}(h:Q (.bool (cM a b)) loc mem):OpV W A env outer (fun|[x,y]=>compareOp .In x y|_=>pure .none) [.str a,.str b] loc mem Q E:=op2 fun R F s v u S r1 r2=>by
 obtain⟨_,rfl⟩:=r1.isStr;obtain⟨_,rfl⟩:=r2.isStr;exact PyProof.Rows.in_str (aE.mk (.bool _) S h)
theorem oZ{x:Str}{i:Int}{c:Nat}{Q:V->Loc->Mem->Prop}(hr:(decide (i < -(2 ^ 63:Int)) || decide (i≥2 ^ 63))=false)(hc:(seqIndex? i x.length).bind (x.cps[·]?)=some c)(h:Q (.str ⟨#[c]⟩) loc mem) :
  OpV W A env outer (fun|[x,y]=>getItem x y|_=>pure .none) [.str x,.int i] loc mem Q E:=op2 fun R F s v u S r1 r2=>by
 obtain⟨_,rfl⟩:=r1.isStr;obtain⟨_,rfl⟩:=r2.isInt;exact PyProof.Rows.getItem_str hr hc (aE.mk (.str _ _) S.tick h)
theorem nQ{x:Str}{Q:V->Loc->Mem->Prop}(hz:(x.length:Int)<2 ^ 63)(h:Q (.int x.length) loc mem):OpV W A env outer (fun vs=>call (.builtin "len") vs) [.str x] loc mem Q E:=op1 fun R F s v S r=>by
 obtain⟨_,rfl⟩:=r.isStr;exact P.len_str (by lia) (aE.mk (.int _ _) S.tick h)
theorem kJ{x:Str}{Q:Bool->Loc->Mem->Prop}(hz:(x.length:Int)<2 ^ 63)(h:Q ((x.length:Int) != 0) loc mem):OpB W A env outer (fun|[x]=>truthy x|_=>pure false) [.str x] loc mem Q E:=op1 fun R F s v S r=>by
 obtain⟨_,rfl⟩:=r.isStr;refine P.truthy_str (by lia) ?_;exact aE.mk rfl S.tick h
theorem gy{Q:Bool->Loc->Mem->Prop}(h:Q false loc mem):OpB W A env outer (fun|[x]=>truthy x|_=>pure false) [.none] loc mem Q E:=op1 fun R F s v S r=>by
 obtain rfl:=r.isNone;refine PyProof.Rows.truthy_none ?_;exact aE.mk rfl S h
theorem tr_tup{xs:List V}{Q:Bool->Loc->Mem->Prop}(hz:(xs.length:Int)<2 ^ 63)(h:Q (!xs.isEmpty) loc mem):OpB W A env outer (fun|[x]=>truthy x|_=>pure false) [.tup xs] loc mem Q E:=op1 fun R F s v S r=>by
 cases r.view with
 | @tup a vs n fa q=>
  have hs:=q.size
  exact PyProof.Rows.truthy_tuple (items:=vs) ⟨_,S.frz _ _ fa,rfl,n,rfl⟩ (by rw[hs];exact hz) (aE.mk (by rw[Array.isEmpty,hs];cases xs<;>simp) S.tick h)
theorem VRs.strs{ys:List Str}{vs:List Value}(r:VRs W F (ys.map .str) vs):StrsAre vs ys:=by
 induction ys generalizing vs with
 | nil=>obtain rfl:=r.isNil;exact .nil
 | cons y ys ih=>
  obtain⟨_,_,r1,r2,rfl⟩:=r.isCons
  obtain⟨_,rfl⟩:=r1.isStr;exact .cons y _ (ih r2)
theorem VRs.ofStrs{ys:List Str}{vs:List Value}(r:StrsAre vs ys):VRs W F (ys.map .str) vs:=by
 induction r with
 | nil=>exact .nil
 | cons y t _ ih=>exact .cons (.str y t) ih
theorem pW{x:Str}{ys:List Str}{Q:V->Loc->Mem->Prop}(hs:x.length≤16)(hw:(ys.map (·.length)).sum+ys.length≤1048576)(h:Q (.str (Txt.join x ys)) loc mem) :
  OpV W A env outer (fun vs=>call (.builtin "str.join") vs) [.str x,.tup (ys.map .str)] loc mem Q E:=op2 fun R F s v u S r1 r2=>by
 obtain⟨_,rfl⟩:=r1.isStr
 cases r2.view with
 | @tup a vs n fa q=>exact join_tupleW (items:=vs) ⟨_,S.frz _ _ fa,rfl,n,rfl⟩ q.strs hs hw fun t' k=>aE.mk (.str _ _) S.tick h
theorem VRs.bools{bs:List Bool}{vs:List Value}(r:VRs W F (bs.map .bool) vs):vs=bs.map .bool:=by
 induction bs generalizing vs with
 | nil=>obtain rfl:=r.isNil;rfl
 | cons b bs ih=>
  obtain⟨_,_,r1,r2,rfl⟩:=r.isCons
  obtain rfl:=r1.isBool;exact congrArg _ (ih r2)
theorem hJ{v:V}{bs:List Bool}{Q:V->Loc->Mem->Prop}(hh:A.handled=none)(q:Sq mem v "list" (bs.map .bool))(h:Q (.bool (bs.all id)) loc mem) :
  OpV W A env outer (fun vs=>call (.builtin "all") vs) [v] loc mem Q E:=op1 fun R F s v' S r=>by
 obtain⟨a,vs,n,rfl,ho,rs⟩:=q.at S r
 have e:=rs.bools
 refine call_all_walk (wpAny_pyIter_list (items:=vs) ⟨_,ho,rfl,n,rfl⟩ ?_)
 have hne:a≠s.heap.objs.size:=fun q=>by have:=Heap.lt_size ho;rw[q]at this;exact Nat.lt_irrefl _ this
 have hv:∀ i,vs[i]? = (bs[i]?).map Value.bool:=fun i=>by rw[<-Array.getElem?_toList,e,List.getElem?_map]
 have hsz:vs.size=bs.length:=by rw[<-Array.length_toList,e,List.length_map]
 refine⟨_,_,_,_,_,_,fun i=>(bs[i]?).getD false,rfl,Walks.list (A:=A.in1) hh s.heap.objs.size a hne vs,⟨⟨_,Heap.get?_push_size _ rfl,rfl,rfl⟩,⟨_,Heap.get?_push_of_some _ ho,rfl,n,rfl⟩⟩,fun i v s Q E hP hQ=>?_,fun h' tk hk=>?_⟩
 ·have hP':vs[i]? = some v:=hP
  rw[hv i]at hP'
  cases hb:bs[i]? with
  | none=>rw[hb]at hP';cases hP'
  | some b=>
   rw[hb]at hP'
   cases hP'
   refine wpAny_truthy_bool ?_
   simp only [hb,Option.getD_some]at hQ
   exact hQ
 ·have S':=(S.grow (t:=s.toks) (d:=s.drawn) (h':=s.heap.push { cls:=.type "list_iterator",data:=.fields #[.ref a,.int 0 0] }) fun b o e=>Heap.get?_push_of_some _ e)
  have S2:=S.grow (t:=tk) (d:=s.drawn) (h':=h') fun b o e=>hk b o (by
   intro hb
   have:=Heap.lt_size e
   simp only [List.mem_cons,List.not_mem_nil,or_false]at hb
   rw[hb]at this
   exact Nat.lt_irrefl _ this) (Heap.get?_push_of_some _ e)
  refine aE.mk (.bool _) S2 ?_
  have:(List.range vs.size).all (fun i=>(bs[i]?).getD false)=bs.all id:=by
   rw[hsz]
   rw[Bool.eq_iff_iff,List.all_eq_true,List.all_eq_true]
   constructor
   ·intro hx x hx2
    obtain⟨i,hi,rfl⟩:=List.mem_iff_getElem.mp hx2
    have:=hx i (List.mem_range.mpr hi)
    simpa [List.getElem?_eq_getElem hi] using this
   ·intro hx i hi
    have hi:=List.mem_range.mp hi
    simpa [List.getElem?_eq_getElem hi] using hx _ (List.getElem_mem hi)
  show Q (.bool _) loc mem
  rw[this];exact h
end
section
variable {W:Wd}{A:Around}{env:Env}{outer:ay}{loc:Loc}{mem R:Mem}{E:Ex W}{F:Frz}{s:Shared}
noncomputable def pB(k:Str->Option NameKind)(bs:List (Str×V)):Loc:=(bs.filter fun p=>k p.1=some .local).reverse
noncomputable def ia(k:Str->Option NameKind)(bs:List (Str×V)):Loc:=(bs.filter fun p=>¬ k p.1=some .local).reverse
theorem cB{β:Type}(y:Str):∀ (xs ys:List (Str×β)),(xs++ys).lookup y=(xs.lookup y).or (ys.lookup y)
 | [],ys=>by simp[List.lookup]
 | (a,b)::xs,ys=>by
  rw[List.cons_append,List.lookup_cons,List.lookup_cons]
  split
  ·rfl
  ·exact cB y xs ys
theorem ll(k:Str->Option NameKind):∀ (bv:List (Str×Value)) (m:Str->Option Value) (y:Str),bindL k bv m y=((bv.filter fun p=>k p.1=some .local).reverse.lookup y).or (m y)
 | [],m,y=>rfl
 | (n,v)::r,m,y=>by
  unfold bindL
  rw[ll k r]
  by_cases h:k n=some .local
  ·rw[if_pos h,List.filter_cons_of_pos (by simpa using h),List.reverse_cons,cB,Option.or_assoc]
   congr 1
   by_cases e:y=n
   ·subst e;simp[List.lookup]
   ·have:(y==n)=false:=by simpa using e
    simp[List.lookup,this,e]
  ·rw[if_neg h,List.filter_cons_of_neg (by simpa using h)]
theorem lJ(k:Str->Option NameKind):∀ (bv:List (Str×Value)) (m:Str->Option Value) (y:Str),bindC k bv m y=((bv.filter fun p=>¬ k p.1=some .local).reverse.lookup y).or (m y)
 | [],m,y=>rfl
 | (n,v)::r,m,y=>by
  unfold bindC
  rw[lJ k r]
  by_cases h:k n=some .local
  ·rw[if_pos h,List.filter_cons_of_neg (by simpa using h)]
  ·rw[if_neg h,List.filter_cons_of_pos (by simpa using h),List.reverse_cons,cB,Option.or_assoc]
   congr 1
   by_cases e:y=n
   ·subst e;simp[List.lookup]
   ·have:(y==n)=false:=by simpa using e
    simp[List.lookup,this,e]
theorem VRp.filter{es:List (Str×V)}{kvs:List (Str×Value)}(r:VRp W F es kvs)(p:Str->Bool):VRp W F (es.filter fun e=>p e.1) (kvs.filter fun e=>p e.1):=by
 induction es generalizing kvs with
 | nil=>cases r.view;exact .nil
 | cons e es ih=>
  cases r with
  | @cons k x v xs vs r1 r2=>
   cases h:p k with
   | true=>rw[List.filter_cons_of_pos (by simpa using h),List.filter_cons_of_pos (by simpa using h)];exact .cons r1 (ih r2)
   | false=>rw[List.filter_cons_of_neg (by simp[h]),List.filter_cons_of_neg (by simp[h])];exact ih r2
theorem VRp.lookup{es:List (Str×V)}{kvs:List (Str×Value)}(r:VRp W F es kvs)(x:Str):(∀ v,es.lookup x=some v->∃ v',kvs.lookup x=some v'/\VR W F v v')/\(es.lookup x=none->kvs.lookup x=none):=by
 induction es generalizing kvs with
 | nil=>cases r.view;exact⟨fun v h=>(nomatch h),fun _=>rfl⟩
 | cons e es ih=>
  cases r with
  | @cons k y v xs vs r1 r2=>
   rw[List.lookup_cons,List.lookup_cons]
   split
   ·exact⟨fun v h=>by cases h;exact⟨_,rfl,r1⟩,fun h=>(nomatch h)⟩
   ·exact ih r2
noncomputable def gk(f:Str->Option V):List (Str×Addr)->Mem->Mem
 | [],m=>m
 | (n,c)::r,m=>ap (gk f r m) c (.cell (f n))
theorem lz{f:Str->Option V}:∀ {cs:List (Str×Addr)} {m:Mem} {a:Addr},(∀ p∈cs,p.2≠a)->gk f cs m a=m a
 | [],_,_,_=>rfl
 | (n,c)::r,m,a,h=>by
  unfold gk
  rw[af (Ne.symm (h (n,c) (.head _))),lz fun p hp=>h p (.tail _ hp)]
theorem kA{f:Str->Option V}:∀ {cs:List (Str×Addr)} {m:Mem} {a:Addr} {x:ax},gk f cs m a=some x->(∃ n,(n,a)∈cs/\x = .cell (f n))\/((∀ p∈cs,p.2≠a)/\m a=some x)
 | [],_,_,_,h=>.inr ⟨fun p hp=>(nomatch hp),h⟩
 | (n,c)::r,m,a,x,h=>by
  unfold gk at h
  by_cases e:a=c
  ·subst e;rw[mset_self]at h;cases h;exact .inl ⟨n,.head _,rfl⟩
  ·rw[af e]at h
   rcases kA h with⟨n',hm,hx⟩|⟨h1,h2⟩
   ·exact .inl ⟨n',.tail _ hm,hx⟩
   ·refine .inr ⟨fun p hp=>?_,h2⟩
    rcases List.mem_cons.mp hp with rfl|hp
    ·exact Ne.symm e
    ·exact h1 p hp
noncomputable def ji(qual:Str)(scope:Scope)(L f:Addr)(cdv:Value):Env:=newEnv scope L mainGlobals (cellsFrom (L+1) scope.names []) (qual++".<locals>.") (some f) cdv none builtinsNs
noncomputable def BodyC(W:Wd)(A:Around)(env:Env)(outer:ay)(qual:Str)(scope:Scope)(body:List Stmt)(cdv:Value)(f:Addr)(bs:List (Str×V))(mem:Mem)(Q:V->Mem->Prop)(E:Ex W):Prop:=
 ∀ (L:Addr) (m0:Str->Option Value),(∀ p∈cellsFrom (L+1) scope.names [],mem p.2=none)->mem L=none->
  TrS W (A.deeper (ji qual scope L f cdv)) (ji qual scope L f cdv) ((env.locals,m0)::outer) (execs body (ji qual scope L f cdv)) (pB (fun n=>scope.names.lookup n) bs)
   (gk (fun n=>(ia (fun n=>scope.names.lookup n) bs).lookup n) (cellsFrom (L+1) scope.names []) mem) (fun fl _ m=>∃ m',(∀ a x,m' a=some x->m a=some x)/\Q (nU fl) m') (qJ W A (ji qual scope L f cdv) E)
theorem pZ{name qual:Str}{params:Arguments}{body:List Stmt}{scope:Scope}{dV kV doc pm cdv ct:Value}{an:Option Addr}{fo:Obj}{f:Addr}{vals:List Value}{bs:List (Str×V)}{bv:List (Str×Value)}{Q:V->Mem->Prop}{Rz:Result->Shared->Prop}
  (S:Sim W env outer loc mem R F s) (ho:s.heap.get? f=some fo) (hd:fo.data = .func (fnX name qual params body scope [] dV kV doc pm an cdv ct)) (hcd:s.heap.CodeRec cdv qual) (hroom:A.depth<recursionLimit)
  (hbind:bindArgs (fnX name qual params body scope [] dV kV doc pm an cdv ct) ⟨vals,[]⟩=pure bv) (rb:VRp W F bs bv)
  (hk:scope.kind = .function) (hco:scope.isCoroutine=false) (hgen:scope.isGenerator=false)
  (hkind:∀ x∈bs,scope.names.lookup x.1=some .local\/(scope.names.lookup x.1=some .cell/\∀ n,((cellsFrom n scope.names []).lookup x.1).isSome=true))
  (hnd:∀ k,∀ p∈cellsFrom k scope.names [],(cellsFrom k scope.names []).lookup p.1=some p.2)
  (E':Ex W) (hE:∀ e s',E'.p R F e s'->Rz (.error e) s')
  (hR:∀ F' v v' m' s',aV F F'->VR W F' v v'->Sim W env outer loc m' R F' s'->Q v m'->Rz (.ok (.ret v')) s')
  (h:BodyC W A env outer qual scope body cdv f bs mem Q E'):codeAny (model W.prog W.w) A (.call (.ref f) ⟨vals,[]⟩) Rz s:=by
 obtain⟨m,hn,l⟩:=S.ns
 have hkind':∀ x∈bv,scope.names.lookup x.1=some .local\/(scope.names.lookup x.1=some .cell/\((cellsFrom (s.heap.objs.size+1) scope.names []).lookup x.1).isSome=true):=fun y hy=>by
  have:y.1∈bs.map (·.1):=rb.keys▸List.mem_map_of_mem hy
  obtain⟨z,hz,e⟩:=inM this
  rw[<-e]
  rcases hkind z hz with h|⟨h1,h2⟩
  ·exact .inl h
  ·exact .inr ⟨h1,h2 _⟩
 refine codeAny_call_cells (fd:=fnX name qual params body scope [] dV kV doc pm an cdv ct) (body:=body) (binds:=bv) hroom ho hd (W.nolim.keeps S.hbase) hcd rfl hbind rfl hkind' (fun s₁ x=>?_) hco hgen hk
 have hfree:∀ p∈cellsFrom (s.heap.objs.size+1) scope.names [],s.heap.objs.size<p.2:=fun p hp=>x.above p.1 p.2 hp
 have gL:s.heap.get? s.heap.objs.size=none:=aH _
 have gC:∀ p∈cellsFrom (s.heap.objs.size+1) scope.names [],s.heap.get? p.2=none:=fun p hp=>dU (Nat.le_of_lt (hfree p hp))
 obtain⟨h',tk,rfl,hk'⟩:=x.done
 have hns:=x.toInCall.ns
 have Z:=S.z
 have fL:=Z.free_of_none gL
 have nodup:∀ n c,(n,c)∈cellsFrom (s.heap.objs.size+1) scope.names []->oN W F h' c (.cell ((ia (fun n=>scope.names.lookup n) bs).lookup n)):=fun n c hm=>by
  obtain⟨o,ho,hd⟩:=x.cell n c (hnd _ (n,c) hm)
  have e:bindC (fun n=>scope.names.lookup n) bv (fun _=>none) n=(bv.filter fun p=>¬ scope.names.lookup p.1=some .local).reverse.lookup n:=by rw[lJ,Option.or_none]
  have q:=((rb.filter (fun n=>decide (¬ scope.names.lookup n=some .local))).rev).lookup n
  refine⟨o,ho,.cell (u:=bindC (fun n=>scope.names.lookup n) bv (fun _=>none) n) hd (fun y hy=>?_) (fun hy=>?_)⟩
  ·rw[e];exact q.1 y hy
  ·rw[e];exact q.2 hy
 have lL:cz W F (pB (fun n=>scope.names.lookup n) bs) (bindL (fun n=>scope.names.lookup n) bv fun _=>none):=fun y v hy=>by
  rw[ll,Option.or_none]
  exact(((rb.filter (fun n=>decide (scope.names.lookup n=some .local))).rev).lookup y).1 v hy
 have S':Sim W (ji qual scope s.heap.objs.size f cdv) ((env.locals,m)::outer) (pB (fun n=>scope.names.lookup n) bs)
   (gk (fun n=>(ia (fun n=>scope.names.lookup n) bs).lookup n) (cellsFrom (s.heap.objs.size+1) scope.names []) mem) R F { s with heap:=h',toks:=tk }:=by
  have cfree:∀ n c,(n,c)∈cellsFrom (s.heap.objs.size+1) scope.names []->s.heap.get? c=none:=fun n c hm=>gC (n,c) hm
  have key:∀ {b},(∀ n,(n,b)∉cellsFrom (s.heap.objs.size+1) scope.names [])->mun (gk (fun n=>(ia (fun n=>scope.names.lookup n) bs).lookup n) (cellsFrom (s.heap.objs.size+1) scope.names []) mem) R b=mun mem R b:=fun {b} hb=>by
   unfold mun;rw[lz fun p hp e=>hb p.1 (by rw[<-e];exact hp)]
  have noC:∀ {b o},s.heap.get? b=some o->∀ n,(n,b)∉cellsFrom (s.heap.objs.size+1) scope.names []:=fun {b o} e n hm=>by rw[cfree n b hm]at e;cases e
  have lo:=S.size_le
  refine⟨fun b y e=>?_,?_⟩
  ·rcases kA e with⟨n,hm,rfl⟩|⟨_,h2⟩
   ·exact(S.free (cfree n b hm)).2
   ·exact S.dis b y h2
  ·exact {
    frz:=fun b o h=>hk' b o (Z.frz b o h)
    base:=Z.base
    memF:=fun b o h=>by rw[key (noC (Z.frz b o h))];exact Z.memF b o h
    memOk:=fun b y h=>by
     by_cases hb:∃ n,(n,b)∈cellsFrom (s.heap.objs.size+1) scope.names []
     ·obtain⟨n,hm⟩:=hb
      cases q:gk (fun n=>(ia (fun n=>scope.names.lookup n) bs).lookup n) (cellsFrom (s.heap.objs.size+1) scope.names []) mem b with
      | some z=>
       rw[bu q]at h;cases h
       rcases kA q with⟨n',hm',rfl⟩|⟨h1,_⟩
       ·exact nodup n' b hm'
       ·exact absurd rfl (h1 (n,b) hm)
      | none=>rw[bw q,(S.free (cfree n b hm)).2]at h;cases h
     ·rw[key fun n hm=>hb ⟨n,hm⟩]at h
      obtain⟨o,e,r⟩:=Z.memOk b y h;exact⟨o,hk' b o e,r⟩
    ns:=⟨_,hns,lL⟩
    nsF:=⟨fun o=>fL.2.1 o,by
     show mun _ _ s.heap.objs.size=none
     rw[key fun n hm=>Nat.lt_irrefl _ (hfree (n,s.heap.objs.size) hm)];exact fL.1⟩
    outs:=fun q hq=>by
     rcases List.mem_cons.mp hq with rfl|hq
     ·exact⟨hn.keeps hk',Z.nsF.1,by
       obtain⟨o,es,ep,e,_⟩:=hn
       rw[key (noC e)];exact Z.nsF.2,Ne.symm fL.2.2.1⟩
     ·obtain⟨z,b,c,e⟩:=Z.outs q hq
      obtain⟨o,es,ep,e',r'⟩:=z
      exact⟨⟨o,es,ep,hk' _ _ e',r'⟩,b,by rw[key (noC e')];exact c,fL.2.2.2 q hq⟩
    low:=lo
    memLow:=fun b y h=>by
     by_cases hb:∃ n,(n,b)∈cellsFrom (s.heap.objs.size+1) scope.names []
     ·obtain⟨n,hm⟩:=hb
      exact ey (Nat.le_trans lo (Nat.le_of_lt (hfree (n,b) hm)))
     ·rw[key fun n hm=>hb ⟨n,hm⟩]at h;exact Z.memLow b y h
    gens:=Z.gens
    os:=Z.os }
 refine wpAny_mono (h s.heap.objs.size m (fun p hp=>(S.free (gC p hp)).1) (S.free gL).1 R F _ S') (fun fl s' hp=>?_) fun e s' he=>wpAny_mono he (fun _ _ q=>hE _ _ q) fun _ _ q=>hE _ _ q
 obtain⟨F',fl',l',m',i,r,S2,m2,hm2,q⟩:=hp
 have S2:=S2.drop hm2
 have S3:Sim W env outer loc m2 R F' s':=⟨S2.dis,S.z.leave l i S2.z⟩
 cases r with
 | next=>exact hR F' .none .none m2 s' i .none S3 q
 | brk=>exact hR F' .none .none m2 s' i .none S3 q
 | cont=>exact hR F' .none .none m2 s' i .none S3 q
 | ret r=>exact hR F' _ _ m2 s' i r S3 q
theorem iV{name qual:Str}{params:Arguments}{body:List Stmt}{scope:Scope}{dV kV doc pm cdv ct oc:Value}{an od:Option Addr}{osl:Array (Option Value)}{f:Addr}{xs:List V}{bs:List (Str×V)}{Q:V->Loc->Mem->Prop}
  (ho:W.K.lookup f=some ⟨oc,od,.func (fnOf name qual params body scope dV kV doc pm an cdv ct),osl⟩) (hcd:codeIn W.K cdv qual=true) (hroom:A.depth<recursionLimit)
  (hbind:∀ (F:Frz) (vs:List Value),VRs W F xs vs->∃ bv,bindArgs (fnOf name qual params body scope dV kV doc pm an cdv ct) ⟨vs,[]⟩=pure bv/\VRp W F bs bv)
  (hk:scope.kind = .function) (hco:scope.isCoroutine=false) (hgen:scope.isGenerator=false)
  (hkind:∀ x∈bs,scope.names.lookup x.1=some .local\/(scope.names.lookup x.1=some .cell/\∀ n,((cellsFrom n scope.names []).lookup x.1).isSome=true))
  (hnd:∀ k,∀ p∈cellsFrom k scope.names [],(cellsFrom k scope.names []).lookup p.1=some p.2)
  (h:BodyC W A env outer qual scope body cdv f bs mem (fun v m=>Q v loc m) E):Op W A env outer (VR W) (fun vs=>call (.ref f) vs) xs loc mem Q E:=fun R F s vs S r=>by
 obtain⟨bv,hb,rb⟩:=hbind F vs r
 exact wpAny_call (pZ S (S.kin _ _ ho) rfl (codeRec_of S.kin hcd) hroom hb rb hk hco hgen hkind hnd E (fun _ _ e=>e) (fun F' v v' m' s' i r S' q=>⟨F',v,loc,m',i,r,S',q⟩) h)
theorem ah(m:Mem):∀ a x,m a=some x->m a=some x:=fun _ _ h=>h
theorem aL{m m':Mem}{b:Addr}{y:ax}(h:m b=none)(k:∀ a x,m' a=some x->m a=some x):∀ a x,m' a=some x->ap m b y a=some x:=fun a x e=>by
 have:=k a x e
 rw[af (nex this h)];exact this
theorem Op.drop{α β:Type}{RV:Frz->β->α->Prop}{f:List Value->Sem α}{xs:List V}{Q:β->Loc->Mem->Prop}{mem':Mem}(h:Op W A env outer RV f xs loc mem' Q E)(hm:∀ a x,mem' a=some x->mem a=some x):Op W A env outer RV f xs loc mem Q E:=
 fun R F s vs S r=>h R F s vs (S.drop hm) r
noncomputable abbrev Sub(m m':Mem):Prop:=∀ a x,m a=some x->m' a=some x
noncomputable def a7(a b:Loc):Prop:=a.map (fun q=>b.lookup q.1)=a.map fun q=>some q.2
theorem a7.get{a b:Loc}(h:a7 a b)(x:Str)(v:V)(e:a.lookup x=some v):b.lookup x=some v:=by
 induction a with
 | nil=>cases e
 | cons q r ih=>
  have h1:=List.cons.inj h
  rw[List.lookup_cons]at e
  split at e
  ·rename_i z;rw[beq_iff_eq.mp z];cases e;exact h1.1
  ·exact ih h1.2 e
theorem Sim.locs{loc':Loc}(S:Sim W env outer loc mem R F s)(h:a7 loc' loc):Sim W env outer loc' mem R F s:=
 ⟨S.dis,{ S.z with ns:=let ⟨m,a,b⟩:=S.z.ns;⟨m,a,fun x v e=>b x v (h.get x v e)⟩ }⟩
theorem Tr.locs{α β:Type}{RV:Frz->β->α->Prop}{t:Sem α}{Q:β->Loc->Mem->Prop}{loc':Loc}(hl:a7 loc' loc)(h:Tr W A env outer RV t loc' mem Q E):Tr W A env outer RV t loc mem Q E:=fun R F s S=>h R F s (S.locs hl)
theorem Op.locs{α β:Type}{RV:Frz->β->α->Prop}{f:List Value->Sem α}{xs:List V}{Q:β->Loc->Mem->Prop}{loc':Loc}(hl:a7 loc' loc)(h:Op W A env outer RV f xs loc' mem Q E):Op W A env outer RV f xs loc mem Q E:=
 fun R F s vs S r=>h R F s vs (S.locs hl) r
theorem Tr.memS{α β:Type}{RV:Frz->β->α->Prop}{t:Sem α}{Q:β->Loc->Mem->Prop}{mem':Mem}(hm:Sub mem' mem)(h:Tr W A env outer RV t loc mem' Q E):Tr W A env outer RV t loc mem Q E:=h.drop hm
theorem Op.memS{α β:Type}{RV:Frz->β->α->Prop}{f:List Value->Sem α}{xs:List V}{Q:β->Loc->Mem->Prop}{mem':Mem}(hm:Sub mem' mem)(h:Op W A env outer RV f xs loc mem' Q E):Op W A env outer RV f xs loc mem Q E:=h.drop hm
theorem bj{elt target:PySem.Expr}{ifs:List PySem.Expr}{scope:Scope}{cl:List (Str×Addr)}{x:V}{Q:V->Loc->Mem->Prop}{mem₀:Mem}{item:Nat->Mem->Option (Option V)}
  (hi:Itr W A target x mem mem₀ item) (items:List V) (hit:∀ m i,Sub mem₀ m->i≤items.length->item i m=some items[i]?) (hz:items.length≤sizeLine) (g:V->Option V)
  (turn:∀ (C:Addr) (outer':ay) (i:Nat) (v:V),items[i]? = some v->Asg W A (compEnvC scope cl C env) outer' target v [] mem₀ (fun l m=>e7 W A (compEnvC scope cl C env) outer' ifs elt l m (fun y m=>y=g v/\Sub mem₀ m)) Ex.no)
  (h:∀ D,mem₀ D=none->Q (.ref D) loc (ap mem₀ D (.list (items.filterMap g)))):mZ W A env elt target ifs scope cl loc mem x Q:=.mk (item) (mem₀) (hi)
 (fun k i ys m=>k+i=items.length/\ys=(items.take i).filterMap g/\Sub mem₀ m)
 (fun k i ys m hI=>by
  obtain⟨h1,rfl,_⟩:=hI
  refine Nat.le_trans (List.length_filterMap_le _ _) (Nat.le_trans ?_ hz)
  rw[List.length_take];exact Nat.min_le_right _ _)
 (fun C outer' k i ys m l hI=>by
  obtain⟨h1,rfl,hs⟩:=hI
  have e:=hit m i hs (by lia)
  refine⟨by rw[e];exact fun q=>(nomatch q),fun q D hD=>?_,fun v q=>?_⟩
  ·rw[e]at q
   have hn:items[i]? = none:=Option.some.inj q
   rw[List.getElem?_eq_none_iff]at hn
   have hD0:mem₀ D=none:=by
    cases z:mem₀ D with
    | none=>rfl
    | some y=>rw[hs D y z]at hD;cases hD
   refine⟨_,fun a y hy=>?_,h D hD0⟩
   unfold ap at hy ⊢
   split at hy
   ·rename_i z;rw[if_pos z,List.take_of_length_le hn];exact hy
   ·rename_i z;rw[if_neg z];exact hs a y hy
  ·rw[e]at q
   have hv:items[i]? = some v:=Option.some.inj q
   have hlt:i<items.length:=by rw[List.getElem?_eq_some_iff]at hv;exact hv.1
   have tk:(items.take i).filterMap g++(g v).toList=(items.take (i+1)).filterMap g:=by
    have hget:items[i]=v:=by rw[List.getElem?_eq_getElem hlt]at hv;exact Option.some.inj hv
    rw[List.take_succ_eq_append_getElem hlt,List.filterMap_append,hget]
    cases hg:g v with
    | none=>simp[hg]
    | some y=>simp[hg]
   have t:=turn C outer' i v hv
   refine Op.memS hs (Op.locs (loc':=[]) rfl ?_)
   refine fun R F s vs S r=>wpAny_mono (t R F s vs S r) (fun _ s' ⟨F',x,l',m',a,b,c,d⟩=>⟨F',x,l',m',a,b,c,?_⟩) fun _ _ e=>e
   unfold e7 at d ⊢
   exact dN.mono d fun y l m'' q=>⟨k - 1,by lia,by lia,by rw[q.1];exact tk,q.2⟩)
 (items.length)
 (⟨rfl,by simp,fun _ _ h=>h⟩)
end
inductive NC where
 | inl (x:Str)|inr (v:V)
inductive CV:PySem.Const->NC->Prop
 | str {s:Str}:CV (.str s) (.inr (.str s))
 | int {i:Int}:CV (.int i) (.inr (.int i))
 | none:CV .none (.inr .none)
 | bool {b:Bool}:CV (.bool b) (.inr (.bool b))
inductive EV:PySem.Expr->NC->Prop
 | name {x:Str} {pos:Pos}:EV (.Name x pos) (.inl x)
 | const {c:PySem.Const} {k:Nat} {pos:Pos} {z:NC}:CV c z->EV (.Constant c k pos) z
noncomputable def cD(c:PySem.Const):Option {z:NC // CV c z}:=PySem.Const.casesOn (motive:=fun c=>Option {z:NC // CV c z}) c (some ⟨_,.none⟩) (fun _=>some ⟨_,.bool⟩) (fun _=>some ⟨_,.int⟩) (fun _=>none) (fun _ _=>none) (fun _=>some ⟨_,.str⟩) (fun _=>none) none
noncomputable def exD(e:PySem.Expr):Option {z:NC // EV e z}:=PySem.Expr.casesOn (motive_1:=fun e=>Option {z:NC // EV e z}) e (fun _ _ _=>none) (fun _ _ _=>none) (fun _ _ _ _=>none) (fun _ _ _=>none) (fun _ _ _ _=>none) (fun _ _ _ _=>none) (fun _ _ _=>none) (fun _ _ _=>none) (fun _ _ _ _=>none) (fun _ _ _ _=>none) (fun _ _ _ _ _=>none) (fun _ _ _ _=>none) (fun _ _=>none) (fun _ _=>none) (fun _ _=>none) (fun _ _ _ _=>none) (fun _ _ _ _=>none) (fun _ _ _ _=>none) (fun _ _=>none) (fun c _ _=>(cD c).map fun z=>⟨z.1,.const z.2⟩) (fun _ _ _=>none) (fun _ _ _=>none) (fun _ _=>none) (fun _ _=>some ⟨_,.name⟩) (fun _ _=>none) (fun _ _ _=>none) (fun _ _ _ _=>none)
noncomputable def puN(env:Env)(loc:Loc)(x:Str):Option V:=bif (decide (env.scope.kind = .function)&&decide (env.kindOf x=some .local)&&!(x==("__debug__" : Str))) then loc.lookup x else none
noncomputable def puV(env:Env)(loc:Loc)(e:PySem.Expr):Option V:=(exD e).bind fun z=>NC.rec (fun x=>puN env loc x) (fun v=>some v) z.1
noncomputable def puVs(env:Env)(loc:Loc)(es:List PySem.Expr):Option (List V):=List.rec (some []) (fun e _ ih=>(puV env loc e).bind fun v=>ih.bind fun vs=>some (v::vs)) es
theorem gY{α β:Type}{o:Option α}{f:α->Option β}{y:β}(h:o.bind f=some y):∃ x,o=some x/\f x=some y:=Option.bind_eq_some_iff.mp h
section
variable {W:Wd}{A:Around}{env:Env}{outer:ay}{loc:Loc}{mem R:Mem}{E:Ex W}{F:Frz}{s:Shared}
inductive PuN(env:Env)(loc:Loc)(x:Str)(v:V):Prop
 | mk (h1_:env.scope.kind = .function) (h2_:env.kindOf x=some .local) (h3_:(x==("__debug__" : Str))=false) (h4_:loc.lookup x=some v)
theorem puN_of{x:Str}{v:V}(h:puN env loc x=some v):PuN env loc x v:=by
 unfold puN at h
 cases q:(decide (env.scope.kind = .function)&&decide (env.kindOf x=some .local)&&!(x==("__debug__" : Str))) with
 | false=>rw[q]at h;cases h
 | true=>
  rw[q]at h
  rw[Bool.and_eq_true,Bool.and_eq_true]at q
  exact⟨of_decide_eq_true q.1.1,of_decide_eq_true q.1.2,Bool.not_eq_true' _▸q.2,h⟩
inductive PuE(env:Env)(loc:Loc):PySem.Expr->V->Prop
 | name {x:Str} {pos:Pos} {v:V}:PuN env loc x v->PuE env loc (.Name x pos) v
 | const {c:PySem.Const} {k:Nat} {pos:Pos} {v:V}:CV c (.inr v)->PuE env loc (.Constant c k pos) v
theorem puE{e:PySem.Expr}{v:V}(hp:puV env loc e=some v):PuE env loc e v:=by
 obtain⟨⟨z,hz⟩,_,h⟩:=gY hp
 cases hz with
 | name=>exact .name (puN_of h)
 | const q=>
  cases z with
  | inl x=>cases q
  | inr u=>exact .const (Option.some.inj h▸q)
theorem pM{c:PySem.Const}{z:NC}{k:Nat}{pos:Pos}{Q:V->Loc->Mem->Prop}(q:CV c z):∀ v,z = .inr v->Q v loc mem->TrV W A env outer (eval (.Constant c k pos) env) loc mem Q E:=by
 cases q with
 | str=>intro v e h;cases e;exact gE h
 | int=>intro v e h;cases e;exact bI h
 | none=>intro v e h;cases e;exact e_none h
 | bool=>intro v e h;cases e;exact e_bool h
theorem pu{e:PySem.Expr}{v:V}{Q:V->Loc->Mem->Prop}(hp:puV env loc e=some v)(h:Q v loc mem):TrV W A env outer (eval e env) loc mem Q E:=by
 cases puE hp with
 | name q=>exact e_local q.1 q.2 q.3 q.4 h
 | const q=>exact pM q v rfl h
theorem pu_star{e:PySem.Expr}{v:V}{rest:List PySem.Expr}(hp:puV env loc e=some v):starEach (e::rest) env=(false,eval e env)::starEach rest env:=by
 cases puE hp with
 | name q=>rfl
 | const q=>rfl
theorem fe{pos:Pos}{e:PySem.Expr}{rest:List PySem.Expr}{v:V}{Q:List V->Loc->Mem->Prop}(hp:puV env loc e=some v)
  (h:TrL W A env outer (spliced (backTo pos (starEach rest env))) loc mem (fun xs l m=>Q (v::xs) l m) E):TrL W A env outer (spliced (backTo pos (starEach (e::rest) env))) loc mem Q E:=
 aB (pu_star hp) (pu hp h)
theorem aN{pos:Pos}{es:List PySem.Expr}{vs:List V}{Q:List V->Loc->Mem->Prop}(hp:puVs env loc es=some vs)(h:Q vs loc mem):TrL W A env outer (spliced (backTo pos (starEach es env))) loc mem Q E:=by
 induction es generalizing vs Q with
 | nil=>exact aI (Option.some.inj (show some []=some vs from hp)▸h)
 | cons e es ih=>
  obtain⟨v,a,hp⟩:=gY (show(puV env loc e).bind (fun v=>(puVs env loc es).bind fun vs=>some (v::vs))=some vs from hp)
  obtain⟨vs',b,hp⟩:=gY hp
  exact fe a (ih b (Option.some.inj hp▸h))
variable {l r o i value:PySem.Expr}{pos pos' apos:Pos}{x y v:V}
theorem dp{op:CmpOp}{whole:Sem Value}{Q:Bool->Loc->Mem->Prop}(hm:behindInMarks op r=false)(hl:puV env loc l=some x)(hr:puV env loc r=some y)
  (h:Op W A env outer (VR W) (fun|[x,y]=>compareOp op x y|_=>pure .none) [x,y] loc mem (fun c l3 m3=>Op W A env outer (fun _ (b c:Bool)=>c=b) (fun|[x]=>truthy x|_=>pure false) [c] l3 m3 Q E) E) :
  TrB W A env outer (isTrue (.Compare l [op] [r] pos) env whole) loc mem Q E:=df hm (pu hl (pu hr h))
theorem bD{op:CmpOp}{whole:Sem Value}{Q:Bool->Loc->Mem->Prop}(hm:behindInMarks op r=false)(hl:puV env loc l=some x)
  (h:TrV W A env outer (eval r env) loc mem (fun b l2 m2=>Op W A env outer (VR W) (fun|[x,y]=>compareOp op x y|_=>pure .none) [x,b] l2 m2 (fun c l3 m3=>Op W A env outer (fun _ (b c:Bool)=>c=b) (fun|[x]=>truthy x|_=>pure false) [c] l3 m3 Q E) E) E) :
  TrB W A env outer (isTrue (.Compare l [op] [r] pos) env whole) loc mem Q E:=df hm (pu hl h)
theorem qR{op:CmpOp}{Q:V->Loc->Mem->Prop}(hm:behindInMarks op r=false)(hl:puV env loc l=some x)(hr:puV env loc r=some y)
  (h:Op W A env outer (VR W) (fun|[x,y]=>compareOp op x y|_=>pure .none) [x,y] loc mem Q E):TrV W A env outer (eval (.Compare l [op] [r] pos) env) loc mem Q E:=jd hm (pu hl (pu hr h))
theorem hO{op:CmpOp}{Q:V->Loc->Mem->Prop}(hm:behindInMarks op r=false)(hl:puV env loc l=some x)
  (h:TrV W A env outer (eval r env) loc mem (fun b l2 m2=>Op W A env outer (VR W) (fun|[x,y]=>compareOp op x y|_=>pure .none) [x,b] l2 m2 Q E) E):TrV W A env outer (eval (.Compare l [op] [r] pos) env) loc mem Q E:=jd hm (pu hl h)
theorem iH{op:Operator}{Q:V->Loc->Mem->Prop}(hl:puV env loc l=some x)(hr:puV env loc r=some y)
  (h:Op W A env outer (VR W) (fun|[x,y]=>binaryOp op x y|_=>pure .none) [x,y] loc mem Q E):TrV W A env outer (eval (.BinOp l op r pos) env) loc mem Q E:=cQ (pu hl (pu hr h))
theorem cj{op:Operator}{Q:V->Loc->Mem->Prop}(hl:puV env loc l=some x)
  (h:TrV W A env outer (eval r env) loc mem (fun b l2 m2=>Op W A env outer (VR W) (fun|[x,y]=>binaryOp op x y|_=>pure .none) [x,b] l2 m2 Q E) E):TrV W A env outer (eval (.BinOp l op r pos) env) loc mem Q E:=cQ (pu hl h)
theorem az{attr:Str}{Q:V->Loc->Mem->Prop}
  (he:eval (.Attribute value attr pos) env=(do
   let o<-eval value env
   standAt pos.atName
   let r<-holding [o] (getAttr o attr true)
   letTemporaryGo value o r
   pure r)) (hp:puV env loc value=some v)
  (h:Op W A env outer (VR W) (fun|[y]=>getAttr y attr true|_=>pure .none) [v] loc mem Q E):TrV W A env outer (eval (.Attribute value attr pos) env) loc mem Q E:=gU he (pu hp h)
theorem cZ{Q:V->Loc->Mem->Prop}(hs:∀ a b,subscripted i false a b=operate [a,b] (getItem a b))(ho:puV env loc o=some x)(hi:puV env loc i=some y)
  (h:∃ T id,Ty mem x T/\typeLookup (.type T) "__getitem__" = pure (some (.builtin id))/\OpV W A env outer (fun|[x,y]=>getItem x y|_=>pure .none) [x,y] loc mem Q E) :
  TrV W A env outer (eval (.Subscript o i pos) env) loc mem Q E:=cN hs (pu ho (pu hi h))
theorem e_sub1{Q:V->Loc->Mem->Prop}(hs:∀ a b,subscripted i false a b=operate [a,b] (getItem a b))(ho:puV env loc o=some x)
  (h:TrV W A env outer (eval i env) loc mem (fun i l m=>∃ T id,Ty m x T/\typeLookup (.type T) "__getitem__" = pure (some (.builtin id))/\OpV W A env outer (fun|[x,y]=>getItem x y|_=>pure .none) [x,i] l m Q E) E) :
  TrV W A env outer (eval (.Subscript o i pos) env) loc mem Q E:=cN hs (pu ho h)
theorem be{e:PySem.Expr}{Q:Bool->Loc->Mem->Prop}(he:isTrue e env (eval e env)=(do let v<-eval e env;standAt e.pos;holding [v] (truthy v)))(hp:puV env loc e=some v)
  (h:Op W A env outer (fun _ (b c:Bool)=>c=b) (fun|[x]=>truthy x|_=>pure false) [v] loc mem Q E):TrB W A env outer (isTrue e env (eval e env)) loc mem Q E:=cI he (pu hp h)
theorem gP{Q:Fl->Loc->Mem->Prop}(hp:puV env loc value=some v)(h:Q (.ret v) loc mem):TrS W A env outer (exec (.Return (some value) pos) env) loc mem Q E:=c6 (pu hp h)
theorem aw{n:Str}{Q:Fl->Loc->Mem->Prop}(hs:swapsWith value (some (.Name n pos')) pos.line env=pure false)(hl:env.kindOf n=some .local)(hk:(env.scope.kind == .class || (env.scope.kind == .module&&env.locals != env.globals))=false)
  (h:TrV W A env outer (eval value env) loc mem (fun v l m=>Q .next (eY n v l) m) E):TrS W A env outer (exec (.Assign [.Name n pos'] value pos) env) loc mem Q E:=
 c7 hs (Tr.mono h fun v l m q=>dL hl hk q)
theorem fY{n:Str}{Q:Fl->Loc->Mem->Prop}(hs:swapsWith value (some (.Name n pos')) pos.line env=pure false)(hl:env.kindOf n=some .local)(hk:(env.scope.kind == .class || (env.scope.kind == .module&&env.locals != env.globals))=false)
  (hp:puV env loc value=some v) (h:Q .next (eY n v loc) mem):TrS W A env outer (exec (.Assign [.Name n pos'] value pos) env) loc mem Q E:=aw hs hl hk (pu hp h)
theorem a8{attr:Str}{Q:Fl->Loc->Mem->Prop}(hs:swapsWith value (some (.Attribute o attr pos')) pos.line env=pure false)(hv:puV env loc value=some v)(ho:puV env loc o=some x)
  (h:Op W A env outer (fun _ (_ _:Unit)=>True) (fun|[x,y]=>setAttr x attr y|_=>pure ()) [x,v] loc mem (fun _=>Q .next) E):TrS W A env outer (exec (.Assign [.Attribute o attr pos'] value pos) env) loc mem Q E:=aO hs (pu hv (pu ho h))
theorem co{Q:Fl->Loc->Mem->Prop}(hs:swapsWith value (some (.Subscript o i pos')) pos.line env=pure false)(hv:puV env loc value=some v)(ho:puV env loc o=some x)(hi:puV env loc i=some y)
  (h:Op W A env outer (fun _ (_ _:Unit)=>True) (fun|[x,y,z]=>setItem x y z|_=>pure ()) [x,y,v] loc mem (fun _=>Q .next) E):TrS W A env outer (exec (.Assign [.Subscript o i pos'] value pos) env) loc mem Q E:=bE hs (pu hv (pu ho (pu hi h)))
theorem am{n:Str}{Q:Loc->Mem->Prop}(hl:env.kindOf n=some .local)(hk:(env.scope.kind == .class || (env.scope.kind == .module&&env.locals != env.globals))=false)(h:Q (eY n v loc) mem) :
  Asg W A env outer (.Name n pos) v loc mem Q E:=iG (dL hl hk h)
theorem bC{name:Str}{args:List PySem.Expr}{pl:Sem Bool}{Q:V->Loc->Mem->Prop}
  (he:eval (.Call (.Attribute o name apos) args [] pos) env=(do
   let ov<-eval o env
   standAt apos.atName
   let (f,first)<-holding [ov] (getMethod ov name pl)
   callWith pos f first (backTo pos (starEach args env)) (backToKw pos (keywordEach [] env)))) (ho:puV env loc o=some v)
  (h:mM W A env outer name pl pos args v loc mem Q E):TrV W A env outer (eval (.Call (.Attribute o name apos) args [] pos) env) loc mem Q E:=cT he (pu ho h)
noncomputable def topV(env:Env)(K:Frag)(x:Str):Option Value:=bif (decide (env.globals=mainGlobals)&&decide (env.scope.kind = .function)&&decide (env.kindOf x=some .globalImplicit)&&!(x==("__debug__" : Str))) then(nsIn K mainGlobals x).join else none
noncomputable def p8(env:Env)(K:Frag)(x:Str):Option Value:=bif (decide (env.globals=mainGlobals)&&decide (env.scope.kind = .function)&&decide (env.kindOf x=some .globalImplicit)&&!(x==("__debug__" : Str))) then(bif (decide (env.builtins=builtinsNs)&&!(x==("__name__" : Str))&&(nsIn K mainGlobals x).any Option.isNone) then bootBuiltins x else none) else none
theorem kX{α:Type}{b:Bool}{o:Option α}{y:α}(h:(bif b then o else none)=some y):b=true/\o=some y:=by
 cases b with
 | true=>exact⟨rfl,h⟩
 | false=>cases h
inductive TopN(env:Env)(x:Str):Prop
 | mk (h1_:env.globals=mainGlobals) (h2_:env.scope.kind = .function) (h3_:env.kindOf x=some .globalImplicit) (h4_:(x==("__debug__" : Str))=false)
theorem topN{x:Str}{α:Type}{o:Option α}{y:α}(h:(bif (decide (env.globals=mainGlobals)&&decide (env.scope.kind = .function)&&decide (env.kindOf x=some .globalImplicit)&&!(x==("__debug__" : Str))) then o else none)=some y):TopN env x/\o=some y:=by
 obtain⟨q,h⟩:=kX h
 rw[Bool.and_eq_true,Bool.and_eq_true,Bool.and_eq_true]at q
 exact⟨⟨of_decide_eq_true q.1.1.1,of_decide_eq_true q.1.1.2,of_decide_eq_true q.1.2,Bool.not_eq_true' _▸q.2⟩,h⟩
theorem p9{n:Str}{u:Value}{K0:Params->Frag}{Q:V->Loc->Mem->Prop}(hK:W.K=K0 W.w.params)(f:∀ P,topV env (K0 P) n=some u)(h:Q (.glob u) loc mem):TrV W A env outer (eval (.Name n pos) env) loc mem Q E:=by
 obtain⟨⟨a,b,c,d⟩,f⟩:=topN (f W.w.params)
 rw[<-hK]at f
 exact e_topG a b c d (Option.join_eq_some_iff.mp f) h
theorem iq{n:Str}{u:Value}{K0:Params->Frag}{Q:V->Loc->Mem->Prop}(hK:W.K=K0 W.w.params)(f:∀ P,p8 env (K0 P) n=some u)(h:Q (.glob u) loc mem):TrV W A env outer (eval (.Name n pos) env) loc mem Q E:=by
 obtain⟨⟨a,b,c,d⟩,f⟩:=topN (f W.w.params)
 obtain⟨q,f⟩:=kX f
 rw[Bool.and_eq_true,Bool.and_eq_true,<-hK]at q
 obtain⟨z,q1,q2⟩:=Option.any_eq_true _ _ |>.mp q.2
 exact e_boot a (of_decide_eq_true q.1.1) b c d (q1.trans (congrArg some (Option.isNone_iff_eq_none.mp q2))) f (fun z=>by have:=q.1.2;rw[z]at this;cases this) h
variable {n:Str}{e:PySem.Expr}{rest:List PySem.Expr}{K0:Params->Frag}
theorem bq{a:Addr}{Q:V->Loc->Mem->Prop}(hK:W.K=K0 W.w.params)(f:∀ P,topV env (K0 P) n=some (.ref a))(k:∀ P,keepIn (K0 P) (.ref a)=true)
  (he:starEach (e::rest) env=(false,eval e env)::starEach rest env) (hplain:(backTo pos (starEach rest env)).any (·.1)=false)
  (h:TrL W A env outer (spliced (backTo pos (starEach (e::rest) env))) loc mem (fun xs l m=>Op W A env outer (VR W) (fun vs=>call (.ref a) vs) xs l m Q E) E) :
  TrV W A env outer (eval (.Call (.Name n pos') (e::rest) [] pos) env) loc mem Q E:=
 eT rfl (p9 hK f (c_top (by rw[hK];exact k _) he hplain h))
theorem c5{a:Addr}{Q:V->Loc->Mem->Prop}(hK:W.K=K0 W.w.params)(f:∀ P,topV env (K0 P) n=some (.ref a))(k:∀ P,keepIn (K0 P) (.ref a)=true)
  (h:Op W A env outer (VR W) (fun vs=>call (.ref a) vs) [] loc mem Q E) :
  TrV W A env outer (eval (.Call (.Name n pos') [] [] pos) env) loc mem Q E:=
 eT rfl (p9 hK f (c_top0 (by rw[hK];exact k _) h))
theorem bK{id:String}{Q:V->Loc->Mem->Prop}(hK:W.K=K0 W.w.params)(f:∀ P,p8 env (K0 P) n=some (.builtin id))
  (he:starEach (e::rest) env=(false,eval e env)::starEach rest env) (hplain:(backTo pos (starEach rest env)).any (·.1)=false)
  (h:TrL W A env outer (spliced (backTo pos (starEach (e::rest) env))) loc mem (fun xs l m=>Op W A env outer (VR W) (fun vs=>call (.builtin id) vs) xs l m Q E) E) :
  TrV W A env outer (eval (.Call (.Name n pos') (e::rest) [] pos) env) loc mem Q E:=eT rfl (iq hK f (o7 he hplain h))
theorem fw{T:String}{Q:V->Loc->Mem->Prop}(hK:W.K=K0 W.w.params)(f:∀ P,p8 env (K0 P) n=some (.type T))
  (he:starEach (e::rest) env=(false,eval e env)::starEach rest env) (hplain:(backTo pos (starEach rest env)).any (·.1)=false)
  (h:TrL W A env outer (spliced (backTo pos (starEach (e::rest) env))) loc mem (fun xs l m=>Op W A env outer (VR W) (fun vs=>call (.type T) vs) xs l m Q E) E) :
  TrV W A env outer (eval (.Call (.Name n pos') (e::rest) [] pos) env) loc mem Q E:=eT rfl (iq hK f (c_type he hplain h))
end
section
variable {W:Wd}{A:Around}{env:Env}{outer:ay}{loc:Loc}{mem R:Mem}{E:Ex W}{F:Frz}{s:Shared}
end
section
variable {W:Wd}{A:Around}{env:Env}{outer:ay}{loc:Loc}{mem R:Mem}{E:Ex W}{F:Frz}{s:Shared}
end
section
variable {W:Wd}{A:Around}{env:Env}{outer:ay}{loc:Loc}{mem R:Mem}{E:Ex W}{F:Frz}{s:Shared}
noncomputable def b8(W:Wd)(v:V)(m:Mem)(v':V)(m':Mem):Prop:=∀ (env:Env) (outer:ay) (loc:Loc) (R:Mem) (F:Frz) (s:Shared) (u:Value),Sim W env outer loc m R F s->VR W F v u->∃ F',aV F F'/\Sim W env outer loc m' R F' s/\VR W F' v' u
theorem Tr.shift{t:Sem Value}{Q:V->Loc->Mem->Prop}(h:TrV W A env outer t loc mem (fun v l m=>∃ v' m',b8 W v m v' m'/\Q v' l m') E):TrV W A env outer t loc mem Q E:=fun R F s S=>
 aM (i:=.refl _) (RW:=VR W) (Q:=fun _ _ _=>True) (h R F s S) fun u s1 F1 v l1 m1 i1 r1 S1 ⟨v',m',sh,q⟩=>by
  obtain⟨F',i2,S2,r2⟩:=sh _ _ _ _ _ _ _ S1 r1
  exact⟨F',v',l1,m',i1.trans i2,r2,S2,q⟩
theorem Op.shift{f:List Value->Sem Value}{xs:List V}{Q:V->Loc->Mem->Prop}(h:OpV W A env outer f xs loc mem (fun v l m=>∃ v' m',b8 W v m v' m'/\Q v' l m') E):OpV W A env outer f xs loc mem Q E:=fun R F s vs S r=>
 aM (i:=.refl _) (RW:=VR W) (Q:=fun _ _ _=>True) (h R F s vs S r) fun u s1 F1 v l1 m1 i1 r1 S1 ⟨v',m',sh,q⟩=>by
  obtain⟨F',i2,S2,r2⟩:=sh _ _ _ _ _ _ _ S1 r1
  exact⟨F',v',l1,m',i1.trans i2,r2,S2,q⟩
theorem Sim.settleAll{m':Mem}{P:Addr->Prop}(S:Sim W env outer loc mem R F s)(hP:∀ a,P a->∃ x,mem a=some x)(hs:Sub m' mem)(hn:∀ a,P a->m' a=none) :
  Sim W env outer loc m' R (fun a o=>F a o\/(P a/\s.heap.get? a=some o)) s:=by
 have Z:=S.z
 have dn:∀ {a},mun mem R a=none->mun m' R a=none:=fun {a} e=>by
  obtain⟨h1,h2⟩:=br e
  have:m' a=none:=by
   cases q:m' a with
   | none=>rfl
   | some y=>rw[hs a y q]at h1;cases h1
  rw[bw this];exact h2
 have no:∀ {a},mun mem R a=none->¬ P a:=fun {a} e p=>by
  obtain⟨x,hx⟩:=hP a p
  rw[bu hx]at e;cases e
 refine⟨fun a x e=>S.dis a x (hs a x e),?_⟩
 exact {
  frz:=fun a o h=>by rcases h with h|⟨_,h⟩;exact Z.frz a o h;exact h
  base:=fun a o h=>.inl (Z.base a o h)
  memF:=fun a o h=>by
   rcases h with h|⟨p,h⟩
   ·exact dn (Z.memF a o h)
   ·obtain⟨x,hx⟩:=hP a p
    rw[bw (hn a p)];exact S.dis a x hx
  memOk:=fun a y h=>by
   have:mun mem R a=some y:=by
    cases q:m' a with
    | some z=>rw[bu q]at h;rw[bu (hs a z q)];exact h
    | none=>
     rw[bw q]at h
     cases q':mem a with
     | none=>rw[bw q'];exact h
     | some z=>rw[S.dis a z q']at h;cases h
   obtain⟨o,e,r⟩:=Z.memOk a y this
   exact⟨o,e,r.mono fun _ _ h=>.inl h⟩
  ns:=let ⟨m,z,b⟩:=Z.ns;⟨m,z,cz.mono (fun _ _ h=>.inl h) b⟩
  nsF:=⟨fun o h=>by rcases h with h|⟨p,_⟩;exact Z.nsF.1 o h;exact no Z.nsF.2 p,dn Z.nsF.2⟩
  outs:=fun q hq=>by
   obtain⟨z,b,c,e⟩:=Z.outs q hq
   exact⟨z,fun o h=>by rcases h with h|⟨p,_⟩;exact b o h;exact no c p,dn c,e⟩
  low:=Z.low
  memLow:=fun a y h=>by
   cases q:m' a with
   | some z=>exact Z.memLow a z (bu (hs a z q))
   | none=>
    rw[bw q]at h
    cases q':mem a with
    | none=>exact Z.memLow a y (by rw[bw q'];exact h)
    | some z=>rw[S.dis a z q']at h;cases h
  gens:=Z.gens
  os:=Z.os }
theorem b8.lst{a:Addr}{m m':Mem}{xs:List V}(h:m a=some (.list xs))(hs:Sub m' m)(hn:m' a=none):b8 W (.ref a) m (.lst xs) m':=fun env outer loc R F s u S r=>by
 obtain rfl:=r.isRef
 obtain⟨o,ho,q⟩:=S.memOk _ _ h
 cases q with
 | list q=>
  exact⟨_,fun _ _ h=>.inl h,S.settleAll (P:=fun b=>b=a) (fun b e=>⟨_,e▸h⟩) hs (fun b e=>e▸hn),.lst (.inr ⟨rfl,ho⟩) (q.mono fun _ _ h=>.inl h)⟩
theorem jj{L:List (Addr×List V)}{a:Addr}{xs:List V}(h:L.lookup a=some xs):(a,xs)∈L:=by
 induction L with
 | nil=>cases h
 | cons p L ih=>
  obtain⟨b,ys⟩:=p
  rw[List.lookup_cons]at h
  split at h
  ·rename_i e;cases h;rw[beq_iff_eq.mp e];exact .head _
  ·exact .tail _ (ih h)
noncomputable def cvt(L:List (Addr×List V)):V->V
 | .ref a=>(match L.lookup a with|some xs=>.lst xs|none=>.ref a)
 | v=>v
theorem b8.inst{x C d:Addr}{m m':Mem}{es:List (Str×V)}{ep:Nat}(L:List (Addr×List V))(hx:m x=some (.inst C d))(hd:m d=some (.dict es ep))(hL:∀ p∈L,m p.1=some (.list p.2))(hs:Sub m' m)
  (nx:m' x=none) (nd:m' d=none) (nL:∀ p∈L,m' p.1=none):b8 W (.ref x) m (.ins C (es.map fun p=>(p.1,cvt L p.2))) m':=fun env outer loc R F s u S r=>by
 obtain rfl:=r.isRef
 obtain⟨o1,h1,q1⟩:=S.memOk _ _ hx
 obtain⟨o2,h2,q2⟩:=S.memOk _ _ hd
 cases q1.view
 cases q2 with
 | @dict _ ds _ kvs k q=>
  have Lmem:∀ {a xs},L.lookup a=some xs->(a,xs)∈L:=fun e=>jj e
  refine⟨_,fun _ _ h=>.inl h,S.settleAll (P:=fun b=>b=x\/b=d\/∃ p∈L,p.1=b) ?_ hs ?_,.ins (.inr ⟨.inl rfl,h1⟩) (.inr ⟨.inr (.inl rfl),h2⟩) k ?_⟩
  ·rintro b (rfl|rfl|⟨p,hp,rfl⟩)
   ·exact⟨_,hx⟩
   ·exact⟨_,hd⟩
   ·exact⟨_,hL p hp⟩
  ·rintro b (rfl|rfl|⟨p,hp,rfl⟩)
   ·exact nx
   ·exact nd
   ·exact nL p hp
  ·clear k h2 hd nd
   induction es generalizing kvs with
   | nil=>cases q.view;exact .nil
   | cons e es ih=>
    cases q with
    | @cons kk v val xs vs r1 r2=>
     refine .cons ?_ (ih r2)
     cases v with
     | ref a=>
      obtain rfl:=r1.isRef
      show VR W _ (match L.lookup a with|some xs=>.lst xs|none=>.ref a) _
      cases hl:L.lookup a with
      | none=>exact .ref a
      | some xs=>
       obtain⟨o,ho,q⟩:=S.memOk _ _ (hL _ (Lmem hl))
       cases q with
       | list q=>exact .lst (.inr ⟨.inr (.inr ⟨_,Lmem hl,rfl⟩),ho⟩) (q.mono fun _ _ h=>.inl h)
     | none=>exact r1.mono fun _ _ h=>.inl h
     | bool=>exact r1.mono fun _ _ h=>.inl h
     | int=>exact r1.mono fun _ _ h=>.inl h
     | str=>exact r1.mono fun _ _ h=>.inl h
     | tup=>exact r1.mono fun _ _ h=>.inl h
     | lst=>exact r1.mono fun _ _ h=>.inl h
     | ins=>exact r1.mono fun _ _ h=>.inl h
     | glob=>exact r1.mono fun _ _ h=>.inl h
end
noncomputable def nu:Str:="abcdefghijklmnopqrstuvwxyzABCDEFGHIJKLMNOPQRSTUVWXYZ0123456789_-"
noncomputable def iS(x:Str):List Str:=x.cps.toList.map fun c=>⟨#[c]⟩
noncomputable def cJ(x:Str):Bool:=decide (0<x.cps.size)&&(iS x).all fun c=>cM c nu
noncomputable def jQ(terms:List Str)(syms:List Str):Option Str:=syms.reverse.find? fun s=>terms.contains s
noncomputable def bf(ys:List Str):List Str:=ys.foldl (fun acc y=>if y∈acc then acc else acc++[y]) []
noncomputable def dO(name:Str)(syms:List Str):Str:=if syms.isEmpty then name++(" -> <empty>" : Str) else name++(" -> " : Str)++Txt.join (" " : Str) syms
noncomputable def aJ(name:Str)(syms:List Str):Str:=name++(" -> " : Str)++(PyData.list (syms.map .str)).shown
noncomputable def ae(ys:List Str):List V:=ys.map .str
noncomputable def dq(num:V)(name:Str)(syms:List Str)(prec func file line:V):List (Str×V):=
 [("name",.str name),("prod",.tup (ae syms)),("number",num),("func",func),("callable",.none),("file",file),("line",line),("prec",prec),("len",.int syms.length),("usyms",.lst (ae (bf syms))),("lr_items",.lst []),("lr_next",.none),("str",.str (dO name syms))]
section
variable {W:Wd}{A:Around}{env:Env}{outer:ay}{loc:Loc}{mem R:Mem}{E:Ex W}{F:Frz}{s:Shared}
theorem mv{x C d:Addr}{es:List (Str×V)}{ep:Nat}{name:Str}{v:V}{Q:Loc->Mem->Prop}(h1:mem x=some (.inst C d))(h2:mem d=some (.dict es ep))
  (hs:findIn W.K (.ref C) "__setattr__" = some (some (.builtin "object.__setattr__"))) (hp:plainOver W.K C=true) (ht:takerIn W.K C name=some none) (hh:hasDictIn W.K C=true) (hz:es.length≤900)
  (h:∀ (m':Mem) (ep':Nat),m' x=some (.inst C d)->m' d=some (.dict (stA es name v) ep')->(∀ a,a≠d->m' a=mem a)->Q loc m') :
  Op W A env outer (fun _ (_ _:Unit)=>True) (fun|[y,z]=>setAttr y name z|_=>pure ()) [.ref x,v] loc mem (fun _=>Q) E:=
 oj h1 h2 hs hp ht hh hz fun ep'=>h _ ep' (by
  have:x≠d:=fun e=>by rw[e,h2]at h1;cases h1
  rw[af this];exact h1) (mset_self _ _ _) fun a ha=>af ha
noncomputable def getOk(K:Frag)(C:Addr)(name:Str):Bool:=plainGet K C name&&hasDictIn K C&&(findIn K (.ref C) name).any (noGet K)
noncomputable def setOk(K:Frag)(C:Addr)(name:Str):Option (Option Value)×Bool×Option (Option Value)×Bool:=(findIn K (.ref C) "__setattr__",plainOver K C,takerIn K C name,hasDictIn K C)
theorem aP{K0:Params->Frag}{v:V}{C:Addr}{es:List (Str×V)}{name:Str}{expr:Bool}{x:V}{Q:V->Loc->Mem->Prop}(hK:W.K=K0 W.w.params)(f:∀ P,getOk (K0 P) C name=true)(I:jE W mem v C es)(hl:bi es name=some x)(hv:okV x=true)(h:Q x loc mem) :
  Op W A env outer (VR W) (fun|[y]=>getAttr y name expr|_=>pure .none) [v] loc mem Q E:=by
 have f:=f W.w.params
 rw[<-hK]at f
 unfold getOk at f
 rw[Bool.and_eq_true,Bool.and_eq_true]at f
 cases q:findIn W.K (.ref C) name with
 | none=>rw[q]at f;cases f.2
 | some attr=>rw[q]at f;exact oA I f.1.1 f.1.2 q f.2 hl hv h
theorem ck{K0:Params->Frag}{x C d:Addr}{es:List (Str×V)}{ep:Nat}{name:Str}{v:V}{Q:Loc->Mem->Prop}(hK:W.K=K0 W.w.params)(f:∀ P,setOk (K0 P) C name=(some (some (.builtin "object.__setattr__")),true,some none,true))(h1:mem x=some (.inst C d))(h2:mem d=some (.dict es ep))(hz:Nat.ble es.length 900=true)
  (h:∀ (m':Mem) (ep':Nat),m' x=some (.inst C d)->m' d=some (.dict (stA es name v) ep')->(∀ a,a≠d->m' a=mem a)->Q loc m') :
  Op W A env outer (fun _ (_ _:Unit)=>True) (fun|[y,z]=>setAttr y name z|_=>pure ()) [.ref x,v] loc mem (fun _=>Q) E:=by
 have f:=f W.w.params
 rw[<-hK]at f
 exact mv h1 h2 (congrArg (·.1) f) (congrArg (·.2.1) f) (congrArg (·.2.2.1) f) (congrArg (·.2.2.2) f) (Nat.le_of_ble_eq_true hz) h
theorem cu{v x:V}{T:String}{xs:List V}{k:Int}{Q:V->Loc->Mem->Prop}(q:Sq mem v T xs)(h0:0≤k)(hk:k<2 ^ 63)(hx:xs[k.toNat]? = some x)(h:Q x loc mem) :
  ∃ T id,Ty mem v T/\typeLookup (.type T) "__getitem__" = pure (some (.builtin id))/\OpV W A env outer (fun|[x,y]=>getItem x y|_=>pure .none) [v,.int k] loc mem Q E:=by
 rcases q.kind with rfl|rfl
 ·exact⟨_,_,q.ty,PySem.F.slot_list_getitem.lookup,i9 q h0 hk hx h⟩
 ·exact⟨_,_,q.ty,PySem.F.slot_tuple_getitem.lookup,i9 q h0 hk hx h⟩
theorem dw{a:Addr}{es:List (Str×V)}{ep:Nat}{k:Str}{x:V}{Q:V->Loc->Mem->Prop}(hm:mem a=some (.dict es ep))(hx:bi es k=some x)(h:Q x loc mem) :
  ∃ T id,Ty mem (.ref a) T/\typeLookup (.type T) "__getitem__" = pure (some (.builtin id))/\OpV W A env outer (fun|[x,y]=>getItem x y|_=>pure .none) [.ref a,.str k] loc mem Q E:=
 ⟨_,_,.dict hm,PySem.F.slot_dict_getitem.lookup,j8 hm hx h⟩
theorem eH{x:Str}{i:Int}{c:Nat}{Q:V->Loc->Mem->Prop}(hr:(decide (i < -(2 ^ 63:Int)) || decide (i≥2 ^ 63))=false)(hc:(seqIndex? i x.length).bind (x.cps[·]?)=some c)(h:Q (.str ⟨#[c]⟩) loc mem) :
  ∃ T id,Ty mem (.str x) T/\typeLookup (.type T) "__getitem__" = pure (some (.builtin id))/\OpV W A env outer (fun|[x,y]=>getItem x y|_=>pure .none) [.str x,.int i] loc mem Q E:=
 ⟨_,_,.str x,PySem.F.slot_str_getitem.lookup,oZ hr hc h⟩
theorem ge_ii{a b:Int}{Q:V->Loc->Mem->Prop}(h:Q (.bool (decide (b≤a))) loc mem):OpV W A env outer (fun|[x,y]=>compareOp .GtE x y|_=>pure .none) [.int a,.int b] loc mem Q E:=op2 fun R F s v u S r1 r2=>by
 obtain⟨_,rfl⟩:=r1.isInt;obtain⟨_,rfl⟩:=r2.isInt;exact PyProof.Rows.ge_int (aE.mk (.bool _) S h)
theorem Sq.mono{m m':Mem}{v:V}{T:String}{xs:List V}(q:Sq m v T xs)(h:Sub m m'):Sq m' v T xs:=by
 cases q with
 | lst xs=>exact .lst xs
 | tup xs=>exact .tup xs
 | own e=>exact .own (h _ _ e)
noncomputable def TrJ(W:Wd)(A:Around)(env:Env)(outer:ay):List PySem.Expr->Str->Loc->Mem->(V->Loc->Mem->Prop)->Ex W->Prop
 | [],acc,loc,mem,Q,_=>Q (.str acc) loc mem
 | e::es,acc,loc,mem,Q,E=>TrV W A env outer (eval e env) loc mem (fun v l m=>∃ y,v = .str y/\(acc++y).length≤sizeLine/\TrJ W A env outer es (acc++y) l m Q E) E
theorem TrJ.run:∀ {es:List PySem.Expr} {acc:Str} {loc:Loc} {mem:Mem} {Q:V->Loc->Mem->Prop} {F0 F:Frz} {s:Shared},TrJ W A env outer es acc loc mem Q E->acc.length≤sizeLine->aV F0 F->Sim W env outer loc mem R F s->
  Joins (model W.prog W.w) A (E.p R F0) (evalEach es env) acc (fun out s₁=>out.length≤sizeLine/\aE W env outer (VR W) R F0 Q (.str out s₁.toks) { s₁ with toks:=s₁.toks+1 }) s
 | [],_,_,_,_,_,F,_,h,hz,i,S=>⟨hz,F,_,_,_,i,.str _ _,S.tick,h⟩
 | e::es,acc,_,_,_,_,F,_,h,hz,i,S=>by
  show wpAny _ _ _ _ _ _
  refine aM (i:=‹_›) (RW:=VR W) (Q:=fun _ _ _=>True) (h R F _ S) fun u s1 F1 v l1 m1 i1 r1 S1 ⟨y,e1,z,h1⟩=>?_
  subst e1
  obtain⟨_,rfl⟩:=r1.isStr
  exact⟨y,_,rfl,z,TrJ.run h1 z (i.trans i1) S1⟩
theorem lD{v₁ v₂:PySem.Expr}{rest:List PySem.Expr}{pos:Pos}{Q:V->Loc->Mem->Prop}(h:TrJ W A env outer (v₁::v₂::rest) Str.empty loc mem Q E):TrV W A env outer (eval (.JoinedStr (v₁::v₂::rest) pos) env) loc mem Q E:=fun R F s S=>
 wpAny_JoinedStr (TrJ.run h (by decide) (aV.refl F) S)
noncomputable def qH(W:Wd)(A:Around)(env:Env)(outer:ay)(v:V)(loc:Loc)(mem:Mem)(Q:V->Loc->Mem->Prop)(E:Ex W):Prop:=
 ∀ R F s v',Sim W env outer loc mem R F s->VR W F v v'->wpAny (model W.prog W.w) A (convS v') (fun r s₂=>wpAny (model W.prog W.w) A (formatField r Str.empty) (aE W env outer (VR W) R F Q) (E.p R F) s₂) (E.p R F) s
theorem ks{value:PySem.Expr}{pos:Pos}{Q:V->Loc->Mem->Prop}(h:TrV W A env outer (eval value env) loc mem (fun v l m=>qH W A env outer v l m Q E) E) :
  TrV W A env outer (eval (.FormattedValue value 115 none pos) env) loc mem Q E:=fun R F s S=>
 wpAny_FormattedValue_s (aM (i:=.refl _) (RW:=VR W) (Q:=fun _ _ _=>True) (h R F s S) fun u s1 F1 v l1 m1 i1 r1 S1 h1=>
  wpAny_mono (h1 R F1 s1 u S1 r1) (fun _ _ h=>wpAny_mono h (fun _ _ p=>p.weaken i1) fun _ _ e=>E.up i1 e) fun _ _ e=>E.up i1 e)
theorem i0{x:Str}{Q:V->Loc->Mem->Prop}(hz:x.length≤sizeLine)(h:Q (.str x) loc mem):qH W A env outer (.str x) loc mem Q E:=fun R F s v S r=>by
 obtain⟨_,rfl⟩:=r.isStr
 exact SB.convS_str (fun t' k=>PyProof.Rows.formatField_str (fun t2 k2=>aE.mk (.str _ _) S.tick h) hz) hz
theorem oI{v:V}{xs:List V}{n:Nat}{Q:V->Loc->Mem->Prop}(hg:A.guards=some [])(q:Sq mem v "list" xs)(hxs:xs.all (isD n)=true)(hu:A.units+(PyData.list (xs.map (cr n))).depth+5<cLine)
  (hd:(PyData.list (xs.map (cr n))).shown.length≤sizeLine) (hs:(PyData.list (xs.map (cr n))).showable=true) (hnd:(PyData.list (xs.map (cr n))).hasDict=false)
  (h:Q (.str (PyData.list (xs.map (cr n))).shown) loc mem):qH W A env outer v loc mem Q E:=fun R F s v' S r=>by
 obtain⟨as,ra⟩:=q.reads hxs S r
 obtain⟨l,ls,ln,rfl,_,_⟩:=q.at S r
 refine convS_of_reads ra hs (fun e=>by rw[hnd]at e;cases e) hg (by lia) (fun _ _ e=>e) (fun h' u tk hk=>?_) hd
 exact PyProof.Rows.formatField_str (fun t2 k2=>aE.mk (.str _ _) (S.grow (t:=k2) (d:=s.drawn) hk) h) hd
theorem dv{n:Nat}{ys:List Str}(h:ys.all PyData.strOk=true):(ae ys).all (isD n)=true:=by
 unfold ae
 rw[List.all_map,List.all_eq_true]
 intro y hy
 have:=List.all_eq_true.mp h y hy
 cases n<;>exact this
end
section
variable {W:Wd}{A:Around}{env:Env}{outer:ay}{loc:Loc}{mem R:Mem}{E:Ex W}{F:Frz}{s:Shared}
theorem bX{xs:List V}{Q:V->Loc->Mem->Prop}(hz:xs.length≤sizeLine)(h:∀ a m',mem a=none->m' a=some (.list xs)->(∀ b,b≠a->m' b=mem b)->Q (.ref a) loc m'):OpV W A env outer newList xs loc mem Q E:=
 kL hz fun a ha=>h a _ ha (mset_self _ _ _) fun b hb=>af hb
theorem bh{a:Addr}{xs:List V}{x:V}{Q:V->Loc->Mem->Prop}(h1:mem a=some (.list xs))(hz:xs.length≤sizeLine)(h:∀ m',m' a=some (.list (xs++[x]))->(∀ b,b≠a->m' b=mem b)->Q .none loc m') :
  OpV W A env outer (fun vs=>call (.builtin "list.append") vs) [.ref a,x] loc mem Q E:=gg h1 hz (h _ (mset_self _ _ _) fun b hb=>af hb)
theorem dy{pos:Pos}{Q:V->Loc->Mem->Prop}(h:∀ a m',mem a=none->m' a=some (.dict [] 0)->(∀ b,b≠a->m' b=mem b)->Q (.ref a) loc m'):TrV W A env outer (eval (.Dict [] [] pos) env) loc mem Q E:=
 e_dict0 fun a ha=>h a _ ha (mset_self _ _ _) fun b hb=>af hb
theorem ba{a:Addr}{es:List (Str×V)}{ep:Nat}{k:Str}{x:V}{Q:Loc->Mem->Prop}(hm:mem a=some (.dict es ep))(hz:es.length≤sizeLine)(h:∀ (m':Mem) (ep':Nat),m' a=some (.dict (stA es k x) ep')->(∀ b,b≠a->m' b=mem b)->Q loc m') :
  OpU W A env outer (fun|[x,y,z]=>setItem x y z|_=>pure ()) [.ref a,.str k,x] loc mem Q E:=kq hm hz fun ep'=>h _ ep' (mset_self _ _ _) fun b hb=>af hb
theorem Sub.new{m0 m m':Mem}{a:Addr}(h:Sub m0 m)(ha:m a=none)(hf:∀ b,b≠a->m' b=m b):Sub m0 m':=fun b y e=>by
 have:=h b y e
 rw[hf b (nex this ha)];exact this
theorem Sub.upd{m0 m m':Mem}{a:Addr}(h:Sub m0 m)(ha:m0 a=none)(hf:∀ b,b≠a->m' b=m b):Sub m0 m':=fun b y e=>by
 rw[hf b (nex e ha)];exact h b y e
theorem Sub.none{m0 m:Mem}{a:Addr}(h:Sub m0 m)(ha:m a=none):m0 a=none:=by
 cases q:m0 a with
 | none=>rfl
 | some y=>rw[h a y q]at ha;cases ha
end
theorem aU.fit{A:Around}{d u:Nat}(c:aU A d u)(h:u≤9800):A.units+65<cLine:=Nat.lt_of_le_of_lt (Nat.add_le_add_right (Nat.le_trans c.units h) 65) (by decide)
theorem aU.room{A:Around}{d u:Nat}(c:aU A d u)(h:d<1000):A.depth<recursionLimit:=Nat.lt_of_le_of_lt c.depth h
noncomputable def cK:V->Bool
 | .ref _=>false
 | _=>true
theorem iQ(L:List (Addr×List V)){v:V}(h:cK v=true):cvt L v=v:=by cases v<;>first|rfl|cases h
theorem nN{ys:List Str}{B:Nat}(h:∀ y∈ys,y.cps.size≤B):(ys.map (·.length)).sum≤ys.length*B:=by
 induction ys with
 | nil=>simp
 | cons y ys ih=>
  have h1:y.length≤B:=h y (.head _)
  have h2:=ih fun z hz=>h z (.tail _ hz)
  simp only [List.map_cons,List.sum_cons,List.length_cons,Nat.succ_mul]
  lia
theorem lM{ys:List Str}{B:Nat}(h:∀ y∈ys,y.cps.size≤B):(Txt.join (" " : Str) ys).length≤ys.length*(B+1):=by
 show(PySem.Builtin.Str.glued (" " : Str) ys).length≤_
 rw[StrLaws.glued_eq_join]
 refine Nat.le_trans (StrLaws.join_length_le _ _) ?_
 have:=nN h
 have e:(Str.ofString " ").length=1:=by decide +kernel
 rw[e,Nat.mul_add]
 lia
theorem cY(x:Str):Str.empty++x=x:=KPc.empty_app x
theorem dG(x y:Str):(x++y).length=x.length+y.length:=strLen_append x y
theorem gj(ys:List Str)(y:Str):bf (ys++[y])=if y∈bf ys then bf ys else bf ys++[y]:=by unfold bf;rw[List.foldl_append];rfl
theorem fE(ys:List Str):∀ y∈bf ys,y∈ys:=by
 unfold bf
 suffices h:∀ (ys acc:List Str) (S:List Str),(∀ y∈acc,y∈S)->(∀ y∈ys,y∈S)->∀ y∈ys.foldl (fun acc y=>if y∈acc then acc else acc++[y]) acc,y∈S from h ys [] ys (fun y h=>(nomatch h)) fun y h=>h
 intro ys
 induction ys with
 | nil=>intro acc S h1 h2 y hy;exact h1 y hy
 | cons z ys ih=>
  intro acc S h1 h2
  refine ih _ S ?_ fun y hy=>h2 y (.tail _ hy)
  intro y hy
  dsimp only at hy
  split at hy
  ·exact h1 y hy
  ·rcases List.mem_append.mp hy with h|h
   ·exact h1 y h
   ·rw[List.mem_singleton.mp h];exact h2 z (.head _)
theorem fO(ys:List Str):(bf ys).length≤ys.length:=by
 unfold bf
 suffices h:∀ (ys acc:List Str),(ys.foldl (fun acc y=>if y∈acc then acc else acc++[y]) acc).length≤acc.length+ys.length by simpa using h ys []
 intro ys
 induction ys with
 | nil=>intro acc;exact Nat.le_refl _
 | cons z ys ih=>
  intro acc
  refine Nat.le_trans (ih _) ?_
  dsimp only
  split<;>simp<;>lia
theorem g8{y:Str}{ys:List Str}:V.str y∈ae ys↔y∈ys:=by
 unfold ae
 rw[List.mem_map]
 exact⟨fun⟨z,hz,e⟩=>by cases e;exact hz,fun h=>⟨y,h,rfl⟩⟩
theorem gT{ys:List Str}{k:Nat}{y:Str}(e:ys[k]? = some y):(ae ys)[k]? = some (.str y):=by unfold ae;rw[List.getElem?_map,e];rfl
theorem aG(ys:List Str):(ae ys).length=ys.length:=by simp[ae]
theorem aK{α:Type}{ys:List α}{k:Nat}{y:α}(e:ys[k]? = some y):ys.take (k+1)=ys.take k++[y]:=by
 have hlt:k<ys.length:=by rw[List.getElem?_eq_some_iff]at e;exact e.1
 have hget:ys[k]=y:=by rw[List.getElem?_eq_getElem hlt]at e;exact Option.some.inj e
 rw[List.take_succ_eq_append_getElem hlt,hget]
theorem kst{k i n:Nat}(h:k+i=n)(hi:i<n):k - 1<k/\k - 1+(i+1)=n:=by omega
noncomputable abbrev hdK:Params->Frag:=aS
noncomputable abbrev aIsId:Addr:=39
noncomputable abbrev aRmost:Addr:=111
noncomputable abbrev ar:Addr:=246
noncomputable abbrev aq:Addr:=100
noncomputable abbrev o8:Addr:=62
noncomputable abbrev aGInit:Addr:=137
noncomputable abbrev aAdd:Addr:=166
noncomputable abbrev aStart:Addr:=174
noncomputable def isId.body:List Stmt:=ag (ai pw.main.body 3)
noncomputable def isId.scope:Scope:=av (ai pw.main.body 3)
noncomputable def isId.params:Arguments:=aA (ai pw.main.body 3)
noncomputable def isId.code:Value:=(Value.ref 38)
theorem isId.at(P:Params):List.lookup 39 (aS P)=some (Obj.mk (Value.type "function") none (Data.func (fnOf (Str.ofString "_is_identifier") (Str.ofString "_is_identifier") isId.params isId.body isId.scope (Value.none) (Value.none) (Value.none) (Value.str (Str.ofString "ply.yacc") 194) (none) isId.code (Value.none))) #[]):=by kernel_rfl
noncomputable def rmostF.body:List Stmt:=ag (ai pw.main.body 7)
noncomputable def rmostF.scope:Scope:=av (ai pw.main.body 7)
noncomputable def rmostF.params:Arguments:=aA (ai pw.main.body 7)
noncomputable def rmostF.code:Value:=(Value.ref 110)
theorem rmostF.at(P:Params):List.lookup 111 (aS P)=some (Obj.mk (Value.type "function") none (Data.func (fnOf (Str.ofString "rightmost_terminal") (Str.ofString "rightmost_terminal") rmostF.params rmostF.body rmostF.scope (Value.none) (Value.none) (Value.none) (Value.str (Str.ofString "ply.yacc") 194) (none) rmostF.code (Value.none))) #[]):=by kernel_rfl
noncomputable def prodInit.body:List Stmt:=ag (ai (ag (ai pw.main.body 6)) 2)
noncomputable def prodInit.scope:Scope:=av (ai (ag (ai pw.main.body 6)) 2)
noncomputable def prodInit.params:Arguments:=aA (ai (ag (ai pw.main.body 6)) 2)
noncomputable def prodInit.code:Value:=(Value.ref 61)
theorem prodInit.at(P:Params):List.lookup 62 (aS P)=some (Obj.mk (Value.type "function") none (Data.func (fnOf (Str.ofString "__init__") (Str.ofString "Production.__init__") prodInit.params prodInit.body prodInit.scope (Value.ref 55) (Value.none) (Value.none) (Value.str (Str.ofString "ply.yacc") 194) (none) prodInit.code (Value.none))) #[]):=by kernel_rfl
noncomputable def gInit.body:List Stmt:=ag (ai (ag (ai pw.main.body 9)) 0)
noncomputable def gInit.scope:Scope:=av (ai (ag (ai pw.main.body 9)) 0)
noncomputable def gInit.params:Arguments:=aA (ai (ag (ai pw.main.body 9)) 0)
noncomputable def gInit.code:Value:=(Value.ref 136)
theorem gInit.at(P:Params):List.lookup 137 (aS P)=some (Obj.mk (Value.type "function") none (Data.func (fnOf (Str.ofString "__init__") (Str.ofString "Grammar.__init__") gInit.params gInit.body gInit.scope (Value.none) (Value.none) (Value.none) (Value.str (Str.ofString "ply.yacc") 194) (none) gInit.code (Value.none))) #[]):=by kernel_rfl
noncomputable def addP.body:List Stmt:=ag (ai (ag (ai pw.main.body 9)) 4)
noncomputable def addP.scope:Scope:=av (ai (ag (ai pw.main.body 9)) 4)
noncomputable def addP.params:Arguments:=aA (ai (ag (ai pw.main.body 9)) 4)
noncomputable def addP.code:Value:=(Value.ref 165)
theorem addP.at(P:Params):List.lookup 166 (aS P)=some (Obj.mk (Value.type "function") none (Data.func (fnOf (Str.ofString "add_production") (Str.ofString "Grammar.add_production") addP.params addP.body addP.scope (Value.ref 159) (Value.none) (Value.none) (Value.str (Str.ofString "ply.yacc") 194) (none) addP.code (Value.none))) #[]):=by kernel_rfl
noncomputable def setStart.body:List Stmt:=ag (ai (ag (ai pw.main.body 9)) 5)
noncomputable def setStart.scope:Scope:=av (ai (ag (ai pw.main.body 9)) 5)
noncomputable def setStart.params:Arguments:=aA (ai (ag (ai pw.main.body 9)) 5)
noncomputable def setStart.code:Value:=(Value.ref 173)
theorem setStart.at(P:Params):List.lookup 174 (aS P)=some (Obj.mk (Value.type "function") none (Data.func (fnOf (Str.ofString "set_start") (Str.ofString "Grammar.set_start") setStart.params setStart.body setStart.scope (Value.ref 167) (Value.none) (Value.none) (Value.str (Str.ofString "ply.yacc") 194) (none) setStart.code (Value.none))) #[]):=by kernel_rfl
section
variable {W:Wd}{A:Around}{env:Env}{outer:ay}{loc:Loc}{mem:Mem}{E:Ex W}
theorem fC{Q:V->Loc->Mem->Prop}(hK:W.K=hdK W.w.params)(c:aU A 900 8000){x:Str}(hz:x.cps.size≤1000)
  (h:Q (.bool (cJ x)) loc mem):OpV W A env outer (fun vs=>call (.ref aIsId) vs) [.str x] loc mem Q E:=by
 refine bO (bs:=[("s",.str x)]) (by rw[hK];exact isId.at _) (by rw[hK];rfl) (c.room (by decide)) ?_ (by intro y hy;simp at hy;subst hy;rfl) (by decide) rfl rfl rfl ?_
 ·intro F s vs hb hk r
  obtain⟨_,_,r1,r2,rfl⟩:=r.isCons
  obtain rfl:=r2.isNil
  exact⟨_,BindsTo.of_eq rfl,.cons r1 .nil⟩
 ·intro L outer
  have cd:=c.deeper (envX "_is_identifier" isId.scope L 39 isId.code [])
  (refine bU ?_;intro aa vv oo qq ee;refine ac ?_);refine c6 ?_;refine pd ?_;refine jd rfl ?_;refine bK hK (fun _=>rfl) rfl rfl ?_;refine aN rfl ?_
  refine nQ (by show(x.cps.size:Int)<_;lia) ?_
  refine bI ?_;refine nV ?_;refine aj ?_
  refine⟨fun hb=>?_,fun hb=>?_⟩
  ·have hb:0<x.cps.size:=by have:=of_decide_eq_true hb;show 0<x.cps.size;exact Int.ofNat_lt.mp this
   refine bK hK (fun _=>rfl) rfl rfl ?_;refine aB rfl ?_;refine bd rfl (by decide) rfl (by decide) (fun _=>rfl) ?_;refine pu rfl ?_
   refine bj (itr_str cd.handled) ((iS x).map .str) (fun m i _ hi=>?_) (by simp[iS];have:(1000:Nat)≤sizeLine:=(by decide);lia) (fun v=>match v with|.str c=>some (.bool (cM c nu))|_=>none) ?_ ?_
   ·simp[dX,iS,Function.comp_def]
   ·intro C outer' i v hv
    obtain⟨ch,rfl⟩:∃ ch,v = .str ch:=by
     rw[List.getElem?_map]at hv
     cases q:(iS x)[i]? with
     | none=>rw[q]at hv;cases hv
     | some ch=>rw[q]at hv;exact⟨ch,(Option.some.inj hv).symm⟩
    refine am rfl rfl ?_;refine hO rfl rfl ?_;refine qC (v:=.str _) rfl rfl rfl rfl (by rw[hK];rfl) (fun _ _=>.str _ _) ?_;refine ig ?_
    exact⟨rfl,ah _⟩
   ·intro D hD
    refine aI ?_
    refine hJ (bs:=(iS x).map fun c=>cM c nu) cd.handled (.own (by rw[mset_self];congr 2;simp[List.filterMap_map,Function.comp_def])) ?_
    skip
    refine⟨mem,aL hD (ah _),?_⟩
    have e:cJ x=(List.map (fun c=>cM c nu) (iS x)).all id:=by
     unfold cJ;rw[decide_eq_true hb,Bool.true_and,List.all_map];rfl
    rw[e]at h;exact h
  ·have hb:¬ 0<x.cps.size:=by have:=of_decide_eq_false hb;exact fun q=>this (Int.ofNat_lt.mpr q)
   skip
   refine⟨mem,ah _,?_⟩
   have e:cJ x=decide (0<(x.length:Int)):=by
    unfold cJ;rw[decide_eq_false hb,Bool.false_and];exact(decide_eq_false (fun q=>hb (Int.ofNat_lt.mp q))).symm
   rw[e]at h;exact h
inductive P2A_J1(mem:Mem)(sy:Addr)(te:Addr)(syms:List Str)(es:List (Str×V))(k:Nat)(l:Loc)(m:Mem):Prop
 | mk (h1_:m=mem) (h2_:a7 [("terminals",.ref te),("symbols",.ref sy),("i",.int ((k:Int) - 1))] l) (h3_:k≤syms.length) (h4_:jQ (es.map (·.1)) syms=jQ (es.map (·.1)) (syms.take k))
theorem mh{Q:V->Loc->Mem->Prop}(hK:W.K=hdK W.w.params)(c:aU A 900 8000){sy te:Addr}{syms:List Str}{es:List (Str×V)}{ep:Nat}(hs:mem sy=some (.list (ae syms)))(ht:mem te=some (.dict es ep))(hz:syms.length≤1000)
  (h:Q (match jQ (es.map (·.1)) syms with|some s=>.str s|none=>.none) loc mem):OpV W A env outer (fun vs=>call (.ref aRmost) vs) [.ref sy,.ref te] loc mem Q E:=by
 refine bO (bs:=[("symbols",.ref sy),("terminals",.ref te)]) (by rw[hK];exact rmostF.at _) (by rw[hK];rfl) (c.room (by decide)) ?_ (by intro y hy;simp at hy;rcases hy with rfl|rfl<;>rfl) (by decide) rfl rfl rfl ?_
 ·intro F s vs hb hk r
  obtain⟨_,_,r1,r2,rfl⟩:=r.isCons
  cases r2 with
  | cons r2 r3=>
   cases r3
   exact⟨_,BindsTo.of_eq rfl,.cons r1 (.cons r2 .nil)⟩
 ·intro L outer
  have cd:=c.deeper (envX "rightmost_terminal" rmostF.scope L 111 rmostF.code [])
  (refine bU ?_;intro aa vv oo qq ee;refine ac ?_);refine aw rfl rfl rfl ?_;refine cQ ?_;refine bK hK (fun _=>rfl) rfl rfl ?_;refine aN rfl ?_
  refine jw (.own hs) (by simp[ae];lia) ?_
  refine bI ?_;refine sub_ii ?_;refine ac ?_
  have lk:∀ (k:Nat) (y:Str),syms[k]? = some y->(ae syms)[k]? = some (.str y):=fun k y e=>by unfold ae;rw[List.getElem?_map,e];rfl
  have stp:∀ (k:Nat) (y:Str),syms[k]? = some y->jQ (es.map (·.1)) (syms.take (k+1))=if (es.map (·.1)).contains y then some y else jQ (es.map (·.1)) (syms.take k):=fun k y e=>by
   have hlt:k<syms.length:=by rw[List.getElem?_eq_some_iff]at e;exact e.1
   have hget:syms[k]=y:=by rw[List.getElem?_eq_getElem hlt]at e;exact Option.some.inj e
   unfold jQ
   rw[List.take_succ_eq_append_getElem hlt,hget,List.reverse_append,List.reverse_singleton,List.singleton_append,List.find?_cons]
   cases (es.map (·.1)).contains y<;>rfl
  have hin:∀ y,(bi es y).isSome=(es.map (·.1)).contains y:=fun y=>by
   unfold bi
   rw[Option.isSome_map,Bool.eq_iff_iff,List.find?_isSome,List.contains_iff_mem,List.mem_map]
   constructor
   ·rintro⟨p,hp,e⟩;exact⟨p,hp,of_decide_eq_true e⟩
   ·rintro⟨p,hp,e⟩;exact⟨p,hp,decide_eq_true e⟩
  let J1:Nat->Loc->Mem->Prop:=P2A_J1 mem sy te syms es
  refine ki J1 ?_ syms.length ⟨rfl,by rw[show(ae syms).length=syms.length by simp[ae]];rfl,Nat.le_refl _,by rw[List.take_length]⟩
  rintro k l m ⟨rfl,hl,hk,hr⟩
  refine Tr.locs hl ?_
  refine dp rfl rfl rfl ?_
  refine ge_ii ?_
  refine aj ?_
  refine⟨fun hb=>?_,fun hb=>?_⟩
  ·have hb:=of_decide_eq_true hb
   obtain⟨k,rfl⟩:∃ j,k=j+1:=⟨k - 1,by lia⟩
   have hlt:k<syms.length:=by lia
   have hget:syms[k]? = some syms[k]:=List.getElem?_eq_getElem hlt
   have st:=stp k _ hget
   have e1:(((k+1:Nat):Int) - 1)=(k:Int):=by lia
   rw[e1]
   (refine aC ?_;intro qq ee;refine ac ?_);refine bz ?_;refine df rfl ?_;refine cZ (fun _ _=>rfl) rfl rfl ?_
   refine cu (.own hs) (Int.natCast_nonneg _) (by lia) (by rw[Int.toNat_natCast];exact lk k _ hget) ?_
   refine pu rfl ?_
   refine iB ht ?_
   refine aj ?_
   refine⟨fun hb2=>?_,fun hb2=>?_⟩
   ·(refine aC ?_;intro qq ee;refine ac ?_);refine c6 ?_;refine cZ (fun _ _=>rfl) rfl rfl ?_
    refine cu (.own hs) (Int.natCast_nonneg _) (by lia) (by rw[Int.toNat_natCast];exact lk k _ hget) ?_
    skip
    refine⟨m,ah _,?_⟩
    rw[hin]at hb2
    rw[hr,st,if_pos hb2]at h
    exact h
   ·refine ak ?_;refine ac ?_;refine s_aug rfl rfl rfl ?_;refine bI ?_;refine isub_ii ?_;refine dL rfl rfl ?_;refine ak ?_
    rw[hin]at hb2
    refine⟨k,by lia,rfl,rfl,by lia,?_⟩
    rw[hr,st,if_neg (by rw[hb2];exact Bool.false_ne_true)]
  ·have hb:=of_decide_eq_false hb
   obtain rfl:k=0:=by lia
   refine ak ?_;refine ac ?_;refine gP rfl ?_
   refine⟨m,ah _,?_⟩
   rw[hr]at h
   exact h
end
noncomputable def fmC:List Nat->List Nat
 | []=>[]
 | [_]=>[]
 | a::c::r=>if a=37 then c::fmC r else fmC (c::r)
noncomputable def g6:List Nat->Bool
 | []=>true
 | [a]=>a != 37
 | a::c::r=>if a=37 then(c==115 || c==114 || c==100)&&g6 r else g6 (c::r)
theorem ix{a:Nat}{r:List Nat}(h:a≠37):fmC (a::r)=fmC r/\g6 (a::r)=g6 r:=by
 cases r with
 | nil=>exact⟨rfl,by show(a != 37)=true;simpa using h⟩
 | cons c r=>exact⟨by rw[fmC,if_neg h],by rw[g6,if_neg h]⟩
theorem fm_drop(r:List Nat):fmC (r.dropWhile (· != 37))=fmC r/\g6 (r.dropWhile (· != 37))=g6 r:=by
 induction r with
 | nil=>exact⟨rfl,rfl⟩
 | cons a r ih=>
  rw[List.dropWhile_cons]
  by_cases h:a=37
  ·simp[h]
  ·have e:(a != 37)=true:=by simpa using h
   rw[if_pos e,(ix h).1,(ix h).2];exact ih
theorem jX(p:Nat->Bool):∀ l acc:List Nat,List.span.loop p l acc=(acc.reverse++l.takeWhile p,l.dropWhile p)
 | [],acc=>by simp[List.span.loop]
 | a::l,acc=>by
  rw[List.span.loop]
  cases h:p a with
  | true=>simp[jX p l,h]
  | false=>simp[h]
theorem span_eq(p:Nat->Bool)(l:List Nat):l.span p=(l.takeWhile p,l.dropWhile p):=jX p l []
section
variable {M:Model}{A:Around}{E:Value->Shared->Prop}
noncomputable def ju(M:Model)(A:Around)(E:Value->Shared->Prop)(I:Shared->Prop)(c:Nat)(v:Value):Prop:=
 if c=100 then ∃ n t,v = .int n t/\0≤n/\n<10 ^ 10 else
  (∀ s (Q:Value->Shared->Prop),I s->(∀ x t s',x.length≤20000->I s'->Q (.str x t) s')->wpAny M A (Builtin.Str.strOf v) Q E s)/\
  (c=114->∃ x t,v = .str x t/\(reprText x).length≤20000)
inductive fN(M:Model)(A:Around)(E:Value->Shared->Prop)(I:Shared->Prop):List Nat->List Value->Prop
 | nil:fN M A E I [] []
 | cons {c:Nat} {v:Value} {cs:List Nat} {vs:List Value}:ju M A E I c v->fN M A E I cs vs->fN M A E I (c::cs) (v::vs)
end
theorem jc{prog:Program}{w:World}{A:Around}{E:Value->Shared->Prop}{s:Shared}{n:Nat}{x:Str}{t:Tok}{Q:Value->Shared->Prop}(hz:(reprText x).length≤sizeLine)(h:Q (.str (reprText x) s.toks) { s with toks:=s.toks+1 }):wpAny (model prog w) A (pyReprObjUnder n (.str x t)) Q E s:=by
 unfold pyReprObjUnder pyReprObjBy
 refine wpAny_bind (wpAny_cRoomFor_byValue rfl ?_)
 refine wpAny_bind (wpAny_specialOf (name:=Str.ofString "__repr__") (typeIs_str s x t) PySem.F.slot_str_repr.lookup ?_)
 refine wpAny_bind (wpAny_callSpecialIfBoundBy?_slotG (name:=Str.ofString "__repr__") (typeIs_str s x t) PySem.F.slot_str_repr.toG ?_)
 show wpAny _ A (call (.builtin "str.__repr__") [.str x t]) _ _ _
 refine call_gives PySem.F.slot_str_repr (typeIs_str s x t) PySem.F.entry_str_repr (PySem.F.args_str_repr_1 _) (gives_str_repr x t) ⟨hz,?_⟩
 exact wpAny_bind (wpAny_isInstance (T:="str") (b:=true) rfl isSubtype_str_str (wpAny_pure h))
structure Wrt(w:Builtin.Str.Writer)(N:Nat):Prop where
 whole:∀ v,w.whole=some v->∃ x t,v = .str x t/\x.length≤N
 total:w.total≤N
 text:w.text.length≤N
theorem ku{w:Builtin.Str.Writer}{x:Str}{N K:Nat}{o:Option Value}(g:Wrt w N)(hx:x.length≤K)(ho:∀ v,o=some v->∃ x t,v = .str x t/\x.length≤K):Wrt (w.add x o) (N+K):=by
 have hl:∀ v,w.whole=some v->∃ x t,v = .str x t/\x.length≤N+K:=fun v e=>let ⟨x,t,a,b⟩:=g.whole v e;⟨x,t,a,Nat.le_trans b (Nat.le_add_right _ _)⟩
 unfold Builtin.Str.Writer.add
 split
 ·exact⟨hl,Nat.le_trans g.total (Nat.le_add_right _ _),Nat.le_trans g.text (Nat.le_add_right _ _)⟩
 ·refine⟨fun v e=>?_,Nat.add_le_add g.total hx,?_⟩
  ·dsimp only at e
   split at e
   ·obtain⟨x,t,a,b⟩:=ho v e;exact⟨x,t,a,Nat.le_trans b (Nat.le_add_left _ _)⟩
   ·cases e
  ·have:=g.text
   unfold Builtin.Str.Writer.text at this ⊢
   simp only [List.reverse_cons,List.foldl_append,List.foldl_cons,List.foldl_nil]
   show Array.size _≤_
   rw[Array.size_append]
   exact Nat.add_le_add this hx
theorem nS{M:Model}{A:Around}{E:Value->Shared->Prop}{s:Shared}{w:Builtin.Str.Writer}{N:Nat}{id:String}{Q:Fin->Shared->Prop}(g:Wrt w N)(hN:N≤3000000)
  (h:∀ z t k,z.length≤3000000->Q (.done (.ret (.str z t))) { s with toks:=k }):wpAny M A (w.finish id) Q E s:=by
 unfold Builtin.Str.Writer.finish
 cases hw:w.whole with
 | none=>
  refine wpAny_ite (KPc.ite_no (KPc.short (Nat.le_trans g.total (by lia))) ?_)
  exact wpAny_bind (wpAny_mkStr (wpAny_pure (h _ _ _ (Nat.le_trans g.text hN))) (by rw[sizeLine_eq];exact Nat.le_trans g.text (by lia)))
 | some v=>
  obtain⟨x,t,rfl,hx⟩:=g.whole v hw
  refine wpAny_bind (wpAny_rule ?_)
  first
   | exact wpAny_pure (h x t s.toks (Nat.le_trans hx hN))
   | exact wpAny_bind (wpAny_pure (wpAny_pure (h x t s.toks (Nat.le_trans hx hN))))
theorem Wrt.mono{w:Builtin.Str.Writer}{N K:Nat}(g:Wrt w N)(h:N≤K):Wrt w K:=⟨fun v e=>let ⟨x,t,a,b⟩:=g.whole v e;⟨x,t,a,Nat.le_trans b h⟩,Nat.le_trans g.total h,Nat.le_trans g.text h⟩
noncomputable abbrev PSt:=List Value×Builtin.Str.Writer×List Nat
noncomputable def mJ(w:Builtin.Str.Writer)(p:List Value)(rest:List Nat)(z:List Nat×Option Value×Bool):Sem (ForInStep PSt):=pure (ForInStep.yield (p,w.add ⟨z.1.toArray⟩ (if rest.isEmpty=true then z.2.1 else none),rest))
noncomputable def qn(v:Value)(m:Sem Value):Sem (List Nat×Option Value×Bool):=holding [v] (m >>= fun o=>asStr? o >>= fun x=>match x with|some s=>pure (s.cps.toList,some o,false)|_=>unsupported "internal:str.__mod__")
noncomputable def pctInt(n:Int)(tn:Tok):Sem (List Nat×Option Value×Bool):=holding [.int n tn] (Builtin.Str.percentIntOf 100 (.int n tn) >>= fun i=>mkInt ↑i.natAbs >>= fun a=>call (.builtin "int.__repr__") [a] >>= fun x=>asStr? x >>= fun y=>match y with|some d=>(pure d.cps.toList >>= fun digits=>pure (Builtin.Str.percentInt { type:=100 } (decide (i<0)) digits,none,true))|_=>(unsupported "internal:str.__mod__" >>= fun digits=>pure (Builtin.Str.percentInt { type:=100 } (decide (i<0)) digits,none,true)))
structure PctF(M:Model)(A:Around)(E:Value->Shared->Prop)(fo:Value)(fz:Nat)(f:Nat->PSt->Sem (ForInStep PSt)):Prop where
 nil:∀ {x:Nat} {p:List Value} {w:Builtin.Str.Writer} {Q:ForInStep PSt->Shared->Prop} {s:Shared},¬ Builtin.Str.tooLong w.total=true->Q (.done (p,w,[])) s->wpAny M A (f x (p,w,[])) Q E s
 lit:∀ {x c:Nat} {r:List Nat} {p:List Value} {w:Builtin.Str.Writer} {Q:ForInStep PSt->Shared->Prop} {s:Shared},¬ Builtin.Str.tooLong w.total=true->(!(List.span (fun x=>x != 37) (c::r)).1.isEmpty)=true->Q (.yield (p,w.add ⟨(List.span (fun x=>x != 37) (c::r)).1.toArray⟩ (if ((List.span (fun x=>x != 37) (c::r)).1.length==fz)=true then some fo else none),(List.span (fun x=>x != 37) (c::r)).2)) s->wpAny M A (f x (p,w,c::r)) Q E s
 int:∀ {x:Nat} {rest:List Nat} {p:List Value} {w:Builtin.Str.Writer} {n:Int} {tn:Tok} {Q:ForInStep PSt->Shared->Prop} {s:Shared},¬ Builtin.Str.tooLong w.total=true->wpAny M A (pctInt n tn >>= mJ w p rest) Q E s->wpAny M A (f x (.int n tn::p,w,37::100::rest)) Q E s
 str:∀ {x:Nat} {rest:List Nat} {p:List Value} {w:Builtin.Str.Writer} {v:Value} {Q:ForInStep PSt->Shared->Prop} {s:Shared},¬ Builtin.Str.tooLong w.total=true->wpAny M A (qn v (Builtin.Str.strOf v) >>= mJ w p rest) Q E s->wpAny M A (f x (v::p,w,37::115::rest)) Q E s
 rep:∀ {x:Nat} {rest:List Nat} {p:List Value} {w:Builtin.Str.Writer} {v:Value} {Q:ForInStep PSt->Shared->Prop} {s:Shared},¬ Builtin.Str.tooLong w.total=true->wpAny M A (qn v (pyReprObjUnder w.total v) >>= mJ w p rest) Q E s->wpAny M A (f x (v::p,w,37::114::rest)) Q E s
set_option maxHeartbeats 4000000 in
theorem k9{prog:Program}{w:World}{A:Around}{E:Value->Shared->Prop}{I:Shared->Prop}{fo:Value}{fmt:Str}{tf:Tok}{f:Nat->PSt->Sem (ForInStep PSt)}{Q:PSt->Shared->Prop}(hfo:fo = .str fmt tf)
  (B:PctF (model prog w) A E fo fmt.length f) (hI:∀ s k,I s->I { s with toks:=k }) (h:∀ w s,Wrt w 3000000->I s->Q ([],w,[]) s) {l r:List Nat} {pend:List Value} {w0:Builtin.Str.Writer} {s:Shared} (N:Nat) (key:Wrt w0 (20000*N))
  (hl:r.length≤l.length) (hn:r.length+N≤100) (hf:g6 r=true) (hz:fmt.length≤100) (hc:fN (model prog w) A E I (fmC r) pend) (hs:I s):wpAny (model prog w) A (forIn l (pend,w0,r) f) Q E s:=by
 induction l generalizing pend w0 r s N with
 | nil=>
  have hr:r=[]:=List.length_eq_zero_iff.mp (Nat.le_zero.mp hl)
  subst hr
  cases hc
  exact wpAny_pure (h _ _ (key.mono (by lia)) hs)
 | cons x l ih=>
  refine KPc.turn ?_
  have ht:¬ Builtin.Str.tooLong w0.total=true:=KPc.short (Nat.le_trans key.total (by lia))
  cases r with
  | nil=>
   cases hc
   exact B.nil ht (h _ _ (key.mono (by lia)) hs)
  | cons c r=>
   by_cases hc37:c=37
   ·subst hc37
    obtain⟨c2,rest,rfl⟩:∃ c2 rest,r=c2::rest:=by
     cases r with
     | nil=>cases hf
     | cons c2 rest=>exact⟨c2,rest,rfl⟩
    rw[g6,if_pos rfl,Bool.and_eq_true]at hf
    rw[fmC,if_pos rfl]at hc
    cases hc with
    | @cons _ v _ more hv hc=>
    have hl':rest.length≤l.length:=by rw[List.length_cons,List.length_cons,List.length_cons]at hl;lia
    rw[List.length_cons,List.length_cons]at hn
    obtain⟨hf1,hf⟩:=hf
    unfold ju at hv
    by_cases h100:c2=100
    ·subst h100
     obtain⟨n,tn,rfl,n0,n1⟩:=hv
     refine B.int ht ?_
     refine wpAny_bind (wpAny_holding ?_)
     refine wpAny_bind (wpAny_of_eq (a:=n) rfl ?_)
     have hlog:n.natAbs.log2<1920:=shown (N:=2 ^ 1920) (by lia) (by lia) (Int.le_refl _)
     refine wpAny_bind (wpAny_mkInt ?_)
     refine wpAny_bind (call_gives PySem.F.slot_int_repr (typeIs_int _ _ _) PySem.F.entry_int_repr (PySem.F.args_int_repr_1 _) (gives_int_repr _ _ (KPt.hd2 hlog)) ⟨int_text_fits (KPt.hd2 hlog),?_⟩)
     refine wpAny_bind (wpAny_of_eq (a:=some _) rfl ?_)
     refine wpAny_bind (wpAny_pure ?_)
     refine wpAny_pure ?_
     refine wpAny_pure ?_
     refine ih (N+1) (ku (K:=20000) key ?_ fun v e=>?_) hl' (by lia) hf hc (hI s _ hs)
     ·rw[KPc.int_text _ rfl (Or.inl rfl) rfl n0]
      show(List.toArray _).size≤_
      have en:((n.natAbs:Nat):Int)=n:=Int.natAbs_of_nonneg n0
      rw[en,Array.toArray_toList]
      exact Nat.le_trans (toString_length_le (k:=10) n0 (by decide) n1) (by decide)
     ·rw[ite_self]at e;cases e
    ·rw[if_neg h100]at hv
     have fin:∀ (y:Str) (ty:Tok) (s':Shared),y.length≤20000->I s'->wpAny (model prog w) A (forIn l (more,w0.add ⟨y.cps.toList.toArray⟩ (if rest.isEmpty=true then some (Value.str y ty) else none),rest) f) Q E s':=fun y ty s' hy hs'=>ih (N+1) (ku (K:=20000) key hy fun v e=>by
      split at e
      ·cases e;exact⟨_,_,rfl,hy⟩
      ·cases e) hl' (by lia) hf hc hs'
     by_cases h115:c2=115
     ·subst h115
      refine B.str ht ?_
      refine wpAny_bind (wpAny_holding ?_)
      refine wpAny_bind (hv.1 _ _ hs fun y ty s' hy hs'=>?_)
      refine wpAny_bind (wpAny_of_eq (a:=some _) rfl ?_)
      refine wpAny_pure ?_
      refine wpAny_pure ?_
      exact fin y ty s' hy hs'
     ·have h114:c2=114:=by simp[h100,h115]at hf1;exact hf1
      subst h114
      obtain⟨y,ty,rfl,hy⟩:=hv.2 rfl
      refine B.rep ht ?_
      refine wpAny_bind (wpAny_holding ?_)
      refine wpAny_bind (jc (Nat.le_trans hy (by decide)) ?_)
      refine wpAny_bind (wpAny_of_eq (a:=some _) rfl ?_)
      refine wpAny_pure ?_
      refine wpAny_pure ?_
      exact fin _ _ _ hy (hI _ _ hs)
   ·have hne:(c != 37)=true:=by simpa using hc37
    have hz:List.span (fun x=>x != 37) (c::r)=(c::List.takeWhile (fun x=>x != 37) r,List.dropWhile (fun x=>x != 37) r):=by
     rw[span_eq,List.takeWhile_cons,List.dropWhile_cons,if_pos hne,if_pos hne]
    refine B.lit ht (by rw[hz];rfl) ?_
    rw[hz]
    refine(?_:wpAny (model prog w) A (forIn l (pend,w0.add ⟨(c::List.takeWhile (fun x=>x != 37) r).toArray⟩ _,List.dropWhile (fun x=>x != 37) r) f) Q E s)
    have hdl:(List.dropWhile (fun x=>x != 37) r).length≤r.length:=(List.dropWhile_sublist _).length_le
    have htl:(List.takeWhile (fun x=>x != 37) r).length≤r.length:=(List.takeWhile_sublist _).length_le
    have hd:=fm_drop r
    rw[<-(ix (r:=r) hc37).1,<-(ix (r:=r) hc37).2]at hd
    rw[<-hd.1]at hc
    rw[<-hd.2]at hf
    have hl':(List.dropWhile (fun x=>x != 37) r).length≤l.length:=Nat.le_trans hdl (Nat.le_of_succ_le_succ hl)
    rw[List.length_cons]at hn
    refine ih (N+1) (ku (K:=20000) key ?_ fun v e=>?_) hl' (by lia) hf hc hs
    ·show(List.toArray _).size≤_
     rw[List.size_toArray,List.length_cons];lia
    ·split at e
     ·cases e;exact⟨fmt,tf,hfo,by lia⟩
     ·cases e
inductive PctP(M:Model)(A:Around)(E:Value->Shared->Prop)(s:Shared)(args:Value):Bool->List Value->Prop
 | tup (its:Array Value):(∀ {Q:Option (Array Value)->Shared->Prop},Q (some its) s->wpAny M A (seqItems? args) Q E s)->PctP M A E s args true its.toList
 | one:PctP M A E s args false [args]
theorem pct_jp{β:Type}{M:Model}{A:Around}{E:Value->Shared->Prop}{s:Shared}{Q:β->Shared->Prop}{args:Value}{b1:Bool}{pend:List Value}{jp:List Value->Sem β}(h4:PctP M A E s args b1 pend)(key:wpAny M A (jp pend) Q E s) :
  wpAny M A (if b1=true then(seqItems? args >>= fun x=>match x with|some xs=>(pure xs.toList >>= fun p=>jp p)|none=>(unsupported "internal:str.__mod__" >>= fun p=>jp p)) else(pure [args] >>= fun p=>jp p)) Q E s:=by
 cases h4 with
 | tup its h=>exact wpAny_ite (KPc.ite_yes rfl (wpAny_bind (h (wpAny_bind (wpAny_pure key)))))
 | one=>exact wpAny_ite (KPc.ite_no Bool.false_ne_true (wpAny_bind (wpAny_pure key)))
theorem nv{prog:Program}{w:World}{A:Around}{E:Value->Shared->Prop}{t:Tok}{fmt:Str}{args:Value}{s:Shared}{Q:Fin->Shared->Prop}{b1:Bool}{o:Option Str}{pend:List Value}
  (h1:∀ {Q:Bool->Shared->Prop},Q b1 s->wpAny (model prog w) A (isInstance args (.type "tuple")) Q E s) (h2:∀ {Q:Option Str->Shared->Prop},Q o s->wpAny (model prog w) A (asStr? args) Q E s)
  (h3:∀ {Q:Bool->Shared->Prop},(∀ b,Q b s)->wpAny (model prog w) A (fillsMappingSlot args) Q E s)
  (h4:PctP (model prog w) A E s args b1 pend)
  (k:∀ (f:Nat->PSt->Sem (ForInStep PSt)) (Q':PSt->Shared->Prop),PctF (model prog w) A E (.str fmt t) fmt.length f->(∀ w1 s,wpAny (model prog w) A (w1.finish "str.__mod__") Q E s->Q' ([],w1,[]) s)->
   wpAny (model prog w) A (forIn (List.range' 0 fmt.length 1) (pend,{},fmt.cps.toList) f) Q' E s):wpAny (model prog w) A (Builtin.Str.percentFormat (.str fmt t) fmt args) Q E s:=by
 unfold Builtin.Str.percentFormat
 refine wpAny_bind (h1 ?_)
 refine wpAny_bind (h2 ?_)
 refine wpAny_bind (h3 fun b=>?_)
 refine pct_jp h4 ?_
 refine wpAny_bind ?_
 rw[KPc.range_list]
 refine k _ _ ⟨?_,?_,?_,?_,?_⟩ (fun w1 s1 h=>?_)
 ·intro x p w1 Q s ht h
  exact wpAny_ite (KPc.ite_no ht (wpAny_pure h))
 ·intro x c r p w1 Q s ht hc h
  refine wpAny_ite (KPc.ite_no ht ?_)
  refine(?_:wpAny (model prog w) A (if (!(List.span (fun x=>x != 37) (c::r)).1.isEmpty)=true then pure (ForInStep.yield (p,w1.add ⟨(List.span (fun x=>x != 37) (c::r)).1.toArray⟩ (if ((List.span (fun x=>x != 37) (c::r)).1.length==fmt.length)=true then some (Value.str fmt t) else none),(List.span (fun x=>x != 37) (c::r)).2)) else _) _ E s)
  exact wpAny_ite (KPc.ite_yes hc (wpAny_pure h))
 ·intro x rest p w1 n tn Q s ht h
  exact wpAny_ite (KPc.ite_no ht h)
 ·intro x rest p w1 v Q s ht h
  exact wpAny_ite (KPc.ite_no ht h)
 ·intro x rest p w1 v Q s ht h
  exact wpAny_ite (KPc.ite_no ht h)
 ·exact wpAny_ite (KPc.ite_no Bool.false_ne_true h)
theorem pct_any{prog:Program}{w:World}{A:Around}{E:Value->Shared->Prop}{I:Shared->Prop}(t:Tok)(fmt:Str)(b:Addr)(its:Array Value){s:Shared}{Q:Fin->Shared->Prop}
  (hI:∀ s k,I s->I { s with toks:=k }) (hf:g6 fmt.cps.toList=true) (hz:fmt.length≤100) (hc:fN (model prog w) A E I (fmC fmt.cps.toList) its.toList) (hb:IsTup s.heap b its) (hs:I s)
  (h:∀ z t s',z.length≤3000000->I s'->Q (.done (.ret (.str z t))) s'):wpAny (model prog w) A (Builtin.«str.__mod__» ⟨[.str fmt t,.ref b],[]⟩) Q E s:=by
 obtain⟨kptO,kptG,kptC,kptN,kptD⟩:=hb
 rw[KPt.entry_is_r]
 refine nv (b1:=true) (wpAny_isInstance (T:="tuple") ⟨kptO,kptG,kptC⟩ KPt.sub_tt) (KPt.asStr_ref kptG kptD) (KPt.fills_ref ⟨kptO,kptG,kptC⟩) (.tup its (wpAny_seqItems kptG kptD)) (fun f Q' B fin=>?_)
 exact k9 (tf:=t) rfl B hI (fun w1 s1 W1 h1=>fin _ _ (nS W1 (Nat.le_refl _) fun z t k hz=>h _ _ _ hz (hI _ _ h1))) 0 ⟨(fun v e=>nomatch e),Nat.le_refl _,Nat.le_refl _⟩ (by rw[List.length_range'];exact Nat.le_of_eq rfl) hz hf hz hc hs
theorem lS{prog:Program}{w:World}{A:Around}{E:Value->Shared->Prop}{t u:Tok}{fmt x:Str}{s:Shared}{Q:Fin->Shared->Prop}
  (k:∀ (f:Nat->PSt->Sem (ForInStep PSt)) (Q':PSt->Shared->Prop),PctF (model prog w) A E (.str fmt t) fmt.length f->(∀ w1 s,wpAny (model prog w) A (w1.finish "str.__mod__") Q E s->Q' ([],w1,[]) s)->
   wpAny (model prog w) A (forIn (List.range' 0 fmt.length 1) ([.str x u],{},fmt.cps.toList) f) Q' E s):wpAny (model prog w) A (Builtin.«str.__mod__» ⟨[.str fmt t,.str x u],[]⟩) Q E s:=by
 rw[KPc.entry_is_s]
 exact nv (b1:=false) (wpAny_isInstance (typeIs_str s _ _) F.sub_str_tuple) (fun q=>wpAny_of_eq (a:=some x) rfl q) KPc.wp_fills_str .one k
theorem pct_one{prog:Program}{w:World}(t u:Tok){fmt:Str}(hf:g6 fmt.cps.toList=true)(hz:fmt.length≤100)(hc:fmC fmt.cps.toList=[115])(x:Str)(hx:x.length≤20000){A:Around}{E:Value->Shared->Prop}{s:Shared}{Q:Fin->Shared->Prop}
  (h:∀ z t k,Q (.done (.ret (.str z t))) { s with toks:=k }):wpAny (model prog w) A (Builtin.«str.__mod__» ⟨[.str fmt t,.str x u],[]⟩) Q E s:=by
 refine lS fun f Q' B fin=>?_
 refine k9 (I:=fun s'=>∃ k,s'={ s with toks:=k }) (tf:=t) rfl B (fun s' k ⟨k',e⟩=>⟨k,by rw[e]⟩) (fun w1 s1 W1 h1=>fin _ _ (nS W1 (Nat.le_refl _) fun z t k hz=>?_)) 0 ⟨(fun v e=>nomatch e),Nat.le_refl _,Nat.le_refl _⟩ (by rw[List.length_range'];exact Nat.le_of_eq rfl) hz hf hz ?_ ⟨s.toks,rfl⟩
 ·obtain⟨k',rfl⟩:=h1;exact h z t k
 ·rw[hc]
  refine .cons ?_ .nil
  unfold ju
  rw[if_neg (by decide)]
  exact⟨fun s Q hI h=>wpAny_of_eq (KPc.strOf_str _ _) (h _ _ _ hx hI),fun e=>absurd e (by decide)⟩
theorem pG{prog:Program}{w:World}(t u:Tok)(z:Str)(hz:z.length≤1000000){A:Around}{E:Value->Shared->Prop}{s:Shared}{Q:Fin->Shared->Prop}
  (h:∀ t' k,Q (.done (.ret (.str (z++(" -> <empty>" : Str)) t'))) { s with toks:=k }):wpAny (model prog w) A (Builtin.«str.__mod__» ⟨[.str ⟨#[37,115,32,45,62,32,60,101,109,112,116,121,62]⟩ t,.str z u],[]⟩) Q E s:=by
 refine lS fun f Q' B fin=>?_
 refine KPc.start ?_
 intro w0 g0
 refine KPc.turn (B.str (KPc.short_good g0 (by decide)) ?_)
 refine wpAny_bind (wpAny_holding ?_)
 refine wpAny_bind (wpAny_of_eq (KPc.strOf_str _ _) ?_)
 refine wpAny_bind (wpAny_of_eq (a:=some _) rfl ?_)
 refine wpAny_pure ?_
 refine wpAny_pure ?_
 refine KPc.after_str0 g0 hz (KPc.obj_none rfl) fun w1 g1=>?_
 refine KPc.turn (B.lit (KPc.short_good g1 (by lia)) rfl ?_)
 have e:(" -> <empty>" : Str)=⟨#[32,45,62,32,60,101,109,112,116,121,62]⟩:=by decide +kernel
 refine KPc.after_add (y:=(" -> <empty>" : Str)) g1 (by rw[e];rfl) (KPc.obj_none rfl) fun w2 g2=>?_
 refine KPc.turn (B.nil (KPc.short_good g2 (by rw[e];show _+11≤_;lia)) (fin _ _ ?_))
 exact KPc.finish_ok g2 (by rw[e];show _+11≤_;lia) rfl h
section
variable {W:Wd}{A:Around}{env:Env}{outer:ay}{loc:Loc}{mem R:Mem}{E:Ex W}{F:Frz}{s:Shared}
theorem ng{x:Str}{Q:V->Loc->Mem->Prop}(hx:x.length≤1000000)(h:Q (.str (x++(" -> <empty>" : Str))) loc mem) :
  OpV W A env outer (fun|[x,y]=>binaryOp .Mod x y|_=>pure .none) [.str "%s -> <empty>",.str x] loc mem Q E:=op2 fun R F s v u S r1 r2=>by
 obtain⟨_,rfl⟩:=r1.isStr;obtain⟨_,rfl⟩:=r2.isStr
 have e:(Str.ofString "%s -> <empty>")=⟨#[37,115,32,45,62,32,60,101,109,112,116,121,62]⟩:=by decide +kernel
 exact KPc.mod_str (T:=fun n=>n++(" -> <empty>" : Str)) e hx (fun z hz=>KPc.meets_of fun prog w A s Q E h=>pG _ _ z hz h) fun t' k=>aE.mk (.str _ _) S.tick h
theorem qG{fmt x:Str}{Q:V->Loc->Mem->Prop}(hf:g6 fmt.cps.toList=true)(hz:fmt.length≤100)(hc:fmC fmt.cps.toList=[115])(hx:x.length≤20000)(h:∀ z,Q (.str z) loc mem) :
  OpV W A env outer (fun|[x,y]=>binaryOp .Mod x y|_=>pure .none) [.str fmt,.str x] loc mem Q E:=op2 fun R F s v u S r1 r2=>by
 obtain⟨_,rfl⟩:=r1.isStr;obtain⟨_,rfl⟩:=r2.isStr
 have m:∀ t u,Meets (Builtin.«str.__mod__» ⟨[.str fmt t,.str x u],[]⟩) (fun _ R s=>∀ z t' k,R (.ok (.ret (.str z t'))) { s with toks:=k }):=fun t u=>Meets.of_wp fun prog w A _ s hS=>pct_one _ _ hf hz hc x hx fun z t' k=>⟨_,rfl,hS z t' k⟩
 exact binaryOp_meets (T:="str") (op:=.Mod) (typeIs_str s _ _) (typeIs_str s _ _) PySem.F.fills_str_mod PySem.F.slot_str_mod PySem.F.entry_str_mod (PySem.F.args_str_mod_2 _ _) (m _ _) (fun z t' k=>⟨(fun e=>nomatch e),aE.mk (.str _ _) S.tick (h z)⟩)
end
section
variable {W:Wd}{A:Around}{env:Env}{outer:ay}{loc:Loc}{mem:Mem}{E:Ex W}
theorem vrs4{F:Frz}{x0 x1 x2 x3:V}{vs:List Value}{P:List Value->Prop}(r:VRs W F [x0,x1,x2,x3] vs)(h:∀ v0 v1 v2 v3,VR W F x0 v0->VR W F x1 v1->VR W F x2 v2->VR W F x3 v3->P [v0,v1,v2,v3]):P vs:=by
 obtain⟨_,_,r0,q0,rfl⟩:=r.isCons
 obtain⟨_,_,r1,q1,rfl⟩:=q0.isCons
 obtain⟨_,_,r2,q2,rfl⟩:=q1.isCons
 obtain⟨_,_,r3,q3,rfl⟩:=q2.isCons
 obtain rfl:=q3.isNil;exact h _ _ _ _ r0 r1 r2 r3
theorem vrs8{F:Frz}{x0 x1 x2 x3 x4 x5 x6 x7:V}{vs:List Value}{P:List Value->Prop}(r:VRs W F [x0,x1,x2,x3,x4,x5,x6,x7] vs)(h:∀ v0 v1 v2 v3 v4 v5 v6 v7,VR W F x0 v0->VR W F x1 v1->VR W F x2 v2->VR W F x3 v3->VR W F x4 v4->VR W F x5 v5->VR W F x6 v6->VR W F x7 v7->P [v0,v1,v2,v3,v4,v5,v6,v7]):P vs:=by
 obtain⟨_,_,r0,q0,rfl⟩:=r.isCons
 obtain⟨_,_,r1,q1,rfl⟩:=q0.isCons
 obtain⟨_,_,r2,q2,rfl⟩:=q1.isCons
 obtain⟨_,_,r3,q3,rfl⟩:=q2.isCons
 exact vrs4 (P:=fun z=>P (_::_::_::_::z)) q3 fun _ _ _ _ r4 r5 r6 r7=>h _ _ _ _ _ _ _ _ r0 r1 r2 r3 r4 r5 r6 r7
inductive P2B_J1(syms:List Str)(x:Addr)(au:Addr)(m:Mem)(k:Nat)(i:Nat)(l:Loc)(m1:Mem):Prop
 | mk (h1_:k+i=syms.length) (h2_:a7 [("self",.ref x)] l) (h3_:m1 au=some (.list (ae (bf (syms.take i))))) (h4_:∀ b,b≠au->m1 b=m b)
theorem jq{num prec func file line sv:V}{xs:List V}{name:Str}{syms:List Str}{Q:V->Loc->Mem->Prop}(hK:W.K=hdK W.w.params)(c:aU A 800 7000)(q:Sq mem sv "list" (ae syms))(hz:syms.length≤100)(hy:∀ y∈syms,y.cps.size≤100/\PyData.strOk y=true)(hn:name.cps.size≤100)(hr:cK num=true/\cK prec=true/\cK func=true/\cK file=true/\cK line=true)
  (hbind:∀ x:Addr,lW W (fnOf "__init__" "Production.__init__" prodInit.params prodInit.body prodInit.scope (.ref 55) .none .none (.str "ply.yacc" 194) none prodInit.code .none) [] (.ref x::xs) [("self",.ref x),("number",num),("name",.str name),("prod",sv),("precedence",prec),("func",func),("file",file),("line",line)])
  (h:Q (.ins aq (dq num name syms prec func file line)) loc mem):OpV W A env outer (fun vs=>call (.ref aq) vs) xs loc mem Q E:=by
 refine Op.shift ?_
 refine kR (C:=aq) (f:=o8) (bs:=fun x=>[("self",.ref x),("number",num),("name",.str name),("prod",sv),("precedence",prec),("func",func),("file",file),("line",line)]) (by rw[hK];first|rfl|kernel_rfl|decide +kernel) (by rw[hK];first|rfl|kernel_rfl|decide +kernel) (by rw[hK];first|rfl|kernel_rfl|decide +kernel)
  (by rw[hK];exact prodInit.at _) (by rw[hK];first|rfl|kernel_rfl|decide +kernel) (Nat.lt_of_le_of_lt (Nat.succ_le_succ c.depth) (by decide)) ?_ (by intro x y hy;simp at hy;rcases hy with rfl|rfl|rfl|rfl|rfl|rfl|rfl|rfl<;>rfl) (by decide) rfl rfl rfl ?_
 ·exact hbind
 ·intro A' x d hA hh hg hfr hu mx md hxd L outer
  have c1:aU A' 801 7008:=⟨hh.trans c.handled,hg.trans c.guards,by have:=c.depth;lia,by have:=c.units;lia⟩
  have cd:=c1.deeper (envX "Production.__init__" prodInit.scope L 62 prodInit.code [])
  obtain⟨m,hm⟩:∃ m,m=ap (ap mem d (.dict [] 0)) x (.inst aq d):=⟨_,rfl⟩
  have hx:m x=some (.inst aq d):=by rw[hm,mset_self]
  have hd:m d=some (.dict [] 0):=by rw[hm,af (Ne.symm hxd),mset_self]
  have hs:Sub mem m:=by rw[hm];exact aL (by rw[af hxd];exact mx) (aL md (ah _))
  rw[<-hm]
  clear hm
  (refine bU ?_;intro aa vv oo qq ee;refine ac ?_);refine a8 rfl rfl rfl ?_
  (refine ck hK (fun _=>by kernel_rfl) hx hd rfl (fun m zep zhx zhd zhf=>?_);have hs:=Sub.upd hs md zhf;(have hx:=Eq.trans (zhf _ (by assumption)) hx);have hd:=zhd;clear zhd zhx;(have hd:_=some (ax.dict [(Str.ofString "name",_)] _):=hd))
  refine ac ?_;refine aO rfl ?_;refine fw hK (fun _=>rfl) rfl rfl ?_;refine aN rfl ?_
  refine iF (Sq.mono ‹Sq mem sv "list" (ae syms)› hs) (by simp[ae];exact Nat.le_trans hz (by decide)) ?_
  refine pu rfl ?_
  (refine ck hK (fun _=>by kernel_rfl) hx hd rfl (fun m zep zhx zhd zhf=>?_);have hs:=Sub.upd hs md zhf;(have hx:=Eq.trans (zhf _ (by assumption)) hx);have hd:=zhd;clear zhd zhx;(have hd:_=some (ax.dict [(Str.ofString "name",_),(Str.ofString "prod",_)] _):=hd))
  refine ac ?_;refine a8 rfl rfl rfl ?_
  (refine ck hK (fun _=>by kernel_rfl) hx hd rfl (fun m zep zhx zhd zhf=>?_);have hs:=Sub.upd hs md zhf;(have hx:=Eq.trans (zhf _ (by assumption)) hx);have hd:=zhd;clear zhd zhx;(have hd:_=some (ax.dict [(Str.ofString "name",_),(Str.ofString "prod",_),(Str.ofString "number",_)] _):=hd))
  refine ac ?_;refine a8 rfl rfl rfl ?_
  (refine ck hK (fun _=>by kernel_rfl) hx hd rfl (fun m zep zhx zhd zhf=>?_);have hs:=Sub.upd hs md zhf;(have hx:=Eq.trans (zhf _ (by assumption)) hx);have hd:=zhd;clear zhd zhx;(have hd:_=some (ax.dict [(Str.ofString "name",_),(Str.ofString "prod",_),(Str.ofString "number",_),(Str.ofString "func",_)] _):=hd))
  refine ac ?_;refine a8 rfl rfl rfl ?_
  (refine ck hK (fun _=>by kernel_rfl) hx hd rfl (fun m zep zhx zhd zhf=>?_);have hs:=Sub.upd hs md zhf;(have hx:=Eq.trans (zhf _ (by assumption)) hx);have hd:=zhd;clear zhd zhx;(have hd:_=some (ax.dict [(Str.ofString "name",_),(Str.ofString "prod",_),(Str.ofString "number",_),(Str.ofString "func",_),(Str.ofString "callable",_)] _):=hd))
  refine ac ?_;refine a8 rfl rfl rfl ?_
  (refine ck hK (fun _=>by kernel_rfl) hx hd rfl (fun m zep zhx zhd zhf=>?_);have hs:=Sub.upd hs md zhf;(have hx:=Eq.trans (zhf _ (by assumption)) hx);have hd:=zhd;clear zhd zhx;(have hd:_=some (ax.dict [(Str.ofString "name",_),(Str.ofString "prod",_),(Str.ofString "number",_),(Str.ofString "func",_),(Str.ofString "callable",_),(Str.ofString "file",_)] _):=hd))
  refine ac ?_;refine a8 rfl rfl rfl ?_
  (refine ck hK (fun _=>by kernel_rfl) hx hd rfl (fun m zep zhx zhd zhf=>?_);have hs:=Sub.upd hs md zhf;(have hx:=Eq.trans (zhf _ (by assumption)) hx);have hd:=zhd;clear zhd zhx;(have hd:_=some (ax.dict [(Str.ofString "name",_),(Str.ofString "prod",_),(Str.ofString "number",_),(Str.ofString "func",_),(Str.ofString "callable",_),(Str.ofString "file",_),(Str.ofString "line",_)] _):=hd))
  refine ac ?_;refine a8 rfl rfl rfl ?_
  (refine ck hK (fun _=>by kernel_rfl) hx hd rfl (fun m zep zhx zhd zhf=>?_);have hs:=Sub.upd hs md zhf;(have hx:=Eq.trans (zhf _ (by assumption)) hx);have hd:=zhd;clear zhd zhx;(have hd:_=some (ax.dict [(Str.ofString "name",_),(Str.ofString "prod",_),(Str.ofString "number",_),(Str.ofString "func",_),(Str.ofString "callable",_),(Str.ofString "file",_),(Str.ofString "line",_),(Str.ofString "prec",_)] _):=hd))
  refine ac ?_;refine aO rfl ?_;refine bK hK (fun _=>rfl) rfl rfl ?_;refine aB rfl ?_;refine az rfl rfl ?_
  refine aP hK (fun _=>by kernel_rfl) (.own hx hd) rfl rfl ?_
  refine aI ?_
  refine jw (.tup _) (by simp[ae];lia) ?_
  refine pu rfl ?_
  (refine ck hK (fun _=>by kernel_rfl) hx hd rfl (fun m zep zhx zhd zhf=>?_);have hs:=Sub.upd hs md zhf;(have hx:=Eq.trans (zhf _ (by assumption)) hx);have hd:=zhd;clear zhd zhx;(have hd:_=some (ax.dict [(Str.ofString "name",_),(Str.ofString "prod",_),(Str.ofString "number",_),(Str.ofString "func",_),(Str.ofString "callable",_),(Str.ofString "file",_),(Str.ofString "line",_),(Str.ofString "prec",_),(Str.ofString "len",_)] _):=hd))
  refine ac ?_;refine aO rfl ?_;refine aW ?_;refine aI ?_
  refine bX (by decide) (fun au mu hau hlu hfu=>?_)
  have mau:=Sub.none hs hau
  have hs:=Sub.new hs hau hfu
  have hx:=Eq.trans (hfu _ (nex hx hau)) hx;have hd:=Eq.trans (hfu _ (nex hd hau)) hd
  refine pu rfl ?_
  (refine ck hK (fun _=>by kernel_rfl) hx hd rfl (fun m zep zhx zhd zhf=>?_);have hs:=Sub.upd hs md zhf;(have hlu:=Eq.trans (zhf _ (nex hlu hd)) hlu;have hx:=Eq.trans (zhf _ (by assumption)) hx);have hd:=zhd;clear zhd zhx;(have hd:_=some (ax.dict [(Str.ofString "name",_),(Str.ofString "prod",_),(Str.ofString "number",_),(Str.ofString "func",_),(Str.ofString "callable",_),(Str.ofString "file",_),(Str.ofString "line",_),(Str.ofString "prec",_),(Str.ofString "len",_),(Str.ofString "usyms",_)] _):=hd))
  refine ac ?_;refine dj (fun _=>rfl) ?_;refine az rfl rfl ?_
  refine aP hK (fun _=>by kernel_rfl) (.own hx hd) rfl rfl ?_
  have hsz:∀ (k:Nat),(ae (bf (syms.take k))).length≤100:=fun k=>by
   rw[aG];have:=fO (syms.take k);rw[List.length_take]at this;lia
  have hok:∀ k,(ae (bf (syms.take k))).all (isD 0)=true:=fun k=>dv (List.all_eq_true.mpr fun y hy'=>(hy y (List.mem_of_mem_take (fE _ y hy'))).2)
  let J1:Nat->Nat->Loc->Mem->Prop:=P2B_J1 syms x au m
  refine nw (fH cd.handled) J1 ?_ syms.length ⟨rfl,rfl,hlu,fun b _=>rfl⟩
  ·rintro k i l m1 ⟨hk,hl,hu1,hf1⟩
   refine⟨by simp[bN],fun hn1=>?_,fun v hv=>?_⟩
   ·have hn1:(ae syms)[i]? = none:=Option.some.inj hn1
    rw[List.getElem?_eq_none_iff,aG]at hn1
    obtain rfl:i=syms.length:=by lia
    rw[List.take_length]at hu1
    have hs:=Sub.upd hs mau hf1
    have hx:=Eq.trans (hf1 _ (nex hx hlu)) hx;have hd:=Eq.trans (hf1 _ (nex hd hlu)) hd
    refine Tr.locs hl ?_
    refine ak ?_;refine ac ?_;refine aO rfl ?_;refine aW ?_;refine aI ?_
    refine bX (by decide) (fun al m2 hal hll hfl=>?_)
    have mal:=Sub.none hs hal
    have nul:au≠al:=fun e=>by rw[e,hal]at hu1;cases hu1
    have hs:=Sub.new hs hal hfl
    have hu1:=Eq.trans (hfl _ (by assumption)) hu1;have hx:=Eq.trans (hfl _ (nex hx hal)) hx;have hd:=Eq.trans (hfl _ (nex hd hal)) hd
    refine pu rfl ?_
    (refine ck hK (fun _=>by kernel_rfl) hx hd rfl (fun m zep zhx zhd zhf=>?_);have hs:=Sub.upd hs md zhf;(have hll:=Eq.trans (zhf _ (nex hll hd)) hll;have hu1:=Eq.trans (zhf _ (nex hu1 hd)) hu1;have hx:=Eq.trans (zhf _ (by assumption)) hx);have hd:=zhd;clear zhd zhx;(have hd:_=some (ax.dict [(Str.ofString "name",_),(Str.ofString "prod",_),(Str.ofString "number",_),(Str.ofString "func",_),(Str.ofString "callable",_),(Str.ofString "file",_),(Str.ofString "line",_),(Str.ofString "prec",_),(Str.ofString "len",_),(Str.ofString "usyms",_),(Str.ofString "lr_items",_)] _):=hd))
    refine ac ?_;refine a8 rfl rfl rfl ?_
    (refine ck hK (fun _=>by kernel_rfl) hx hd rfl (fun m zep zhx zhd zhf=>?_);have hs:=Sub.upd hs md zhf;(have hll:=Eq.trans (zhf _ (nex hll hd)) hll;have hu1:=Eq.trans (zhf _ (nex hu1 hd)) hu1;have hx:=Eq.trans (zhf _ (by assumption)) hx);have hd:=zhd;clear zhd zhx;(have hd:_=some (ax.dict [(Str.ofString "name",_),(Str.ofString "prod",_),(Str.ofString "number",_),(Str.ofString "func",_),(Str.ofString "callable",_),(Str.ofString "file",_),(Str.ofString "line",_),(Str.ofString "prec",_),(Str.ofString "len",_),(Str.ofString "usyms",_),(Str.ofString "lr_items",_),(Str.ofString "lr_next",_)] _):=hd))
    refine ac ?_;refine bz ?_;refine cI rfl ?_;refine az rfl rfl ?_
    refine aP hK (fun _=>by kernel_rfl) (.own hx hd) rfl rfl ?_
    skip
    refine tr_tup (by rw[aG];lia) ?_
    skip
    have fin:∀ (t:Str) (m:Mem) (ep:Nat),t=dO name syms->Sub mem m->m x=some (.inst aq d)->m au=some (.list (ae (bf syms)))->m al=some (.list [])->
      m d=some (.dict [("name",.str name),("prod",.tup (ae syms)),("number",num),("func",func),("callable",.none),("file",file),("line",line),("prec",prec),("len",.int (ae syms).length),("usyms",.ref au),("lr_items",.ref al),("lr_next",.none),("str",.str t)] ep)->
      ∃ m',Sub m' m/\V.none=V.none/\∃ v' m'',b8 W (.ref x) m' v' m''/\Q v' loc m'':=fun t m ep e hs hx hu hl hd=>by
     refine⟨m,ah _,rfl,.ins aq (dq num name syms prec func file line),mem,?_,h⟩
     have sh:=b8.inst (W:=W) (m':=mem) [(au,ae (bf syms)),(al,[])] hx hd (by
      intro p hp
      rcases List.mem_cons.mp hp with rfl|hp
      ·exact hu
      ·rcases List.mem_cons.mp hp with rfl|hp
       ·exact hl
       ·cases hp) hs mx md (by
      intro p hp
      rcases List.mem_cons.mp hp with rfl|hp
      ·exact mau
      ·rcases List.mem_cons.mp hp with rfl|hp
       ·exact mal
       ·cases hp)
     obtain⟨n1,n2,n3,n4,n5⟩:=hr
     simp only [List.map_cons,List.map_nil,iQ _ n1,iQ _ n2,iQ _ n3,iQ _ n4,iQ _ n5]at sh
     have e1:cvt [(au,ae (bf syms)),(al,[])] (.ref au) = .lst (ae (bf syms)):=by simp[cvt,List.lookup]
     have e2:cvt [(au,ae (bf syms)),(al,[])] (.ref al) = .lst []:=by
      have:(al==au)=false:=by simpa using (Ne.symm nul)
      simp[cvt,List.lookup,this]
     rw[e1,e2,aG]at sh
     rw[e]at sh
     exact sh
    have jl:(Txt.join (" " : Str) syms).length≤20000:=Nat.le_trans (lM fun y hy'=>(hy y hy').1) (by lia)
    have l4:(Str.ofString " -> ").length=4:=by decide +kernel
    have hn':name.length≤100:=hn
    have hsl:(100000:Nat)≤sizeLine:=by decide
    refine⟨fun hb=>?_,fun hb=>?_⟩
    ·(refine aC ?_;intro qq ee;refine ac ?_);refine aO rfl ?_;refine lD ?_;refine ks ?_;refine az rfl rfl ?_
     refine aP hK (fun _=>by kernel_rfl) (.own hx hd) rfl rfl ?_
     skip
     refine i0 (Nat.le_trans hn (by decide)) ?_
     refine⟨_,rfl,by rw[cY];lia,?_⟩
     refine gE ?_
     refine⟨_,rfl,by rw[cY,dG,l4];lia,?_⟩
     refine ks ?_;refine bC rfl rfl ?_
     refine a6 (.str _) PySem.F.plainAttrs_str PySem.F.slot_str_join (by show builtinType _=_;rw[builtinType_eq_fast];kernel_rfl) rfl rfl ?_
     refine aB rfl ?_;refine az rfl rfl ?_
     refine aP hK (fun _=>by kernel_rfl) (.own hx hd) rfl rfl ?_
     refine aI ?_
     refine pW (ys:=syms) (by decide) (by have:=nN fun y hy'=>(hy y hy').1;lia) ?_
     skip
     refine i0 (Nat.le_trans jl (by decide)) ?_
     refine⟨_,rfl,by rw[cY,dG,dG,l4];lia,?_⟩
     refine pu rfl ?_
     (refine ck hK (fun _=>by kernel_rfl) hx hd rfl (fun m zep zhx zhd zhf=>?_);have hs:=Sub.upd hs md zhf;(have hll:=Eq.trans (zhf _ (nex hll hd)) hll;have hu1:=Eq.trans (zhf _ (nex hu1 hd)) hu1;have hx:=Eq.trans (zhf _ (by assumption)) hx);have hd:=zhd;clear zhd zhx;(have hd:_=some (ax.dict [(Str.ofString "name",_),(Str.ofString "prod",_),(Str.ofString "number",_),(Str.ofString "func",_),(Str.ofString "callable",_),(Str.ofString "file",_),(Str.ofString "line",_),(Str.ofString "prec",_),(Str.ofString "len",_),(Str.ofString "usyms",_),(Str.ofString "lr_items",_),(Str.ofString "lr_next",_),(Str.ofString "str",_)] _):=hd))
     refine ak ?_;refine ak ?_
     refine fin _ _ _ ?_ hs hx hu1 hll hd
     have:syms.isEmpty=false:=by cases syms<;>simp_all [ae]
     unfold dO
     rw[this,cY];rfl
    ·(refine aC ?_;intro qq ee;refine ac ?_);refine aO rfl ?_;refine cj rfl ?_;refine az rfl rfl ?_
     refine aP hK (fun _=>by kernel_rfl) (.own hx hd) rfl rfl ?_
     skip
     refine ng (Nat.le_trans hn (by decide)) ?_
     refine pu rfl ?_
     (refine ck hK (fun _=>by kernel_rfl) hx hd rfl (fun m zep zhx zhd zhf=>?_);have hs:=Sub.upd hs md zhf;(have hll:=Eq.trans (zhf _ (nex hll hd)) hll;have hu1:=Eq.trans (zhf _ (nex hu1 hd)) hu1;have hx:=Eq.trans (zhf _ (by assumption)) hx);have hd:=zhd;clear zhd zhx;(have hd:_=some (ax.dict [(Str.ofString "name",_),(Str.ofString "prod",_),(Str.ofString "number",_),(Str.ofString "func",_),(Str.ofString "callable",_),(Str.ofString "file",_),(Str.ofString "line",_),(Str.ofString "prec",_),(Str.ofString "len",_),(Str.ofString "usyms",_),(Str.ofString "lr_items",_),(Str.ofString "lr_next",_),(Str.ofString "str",_)] _):=hd))
     refine ak ?_;refine ak ?_
     refine fin _ _ _ ?_ hs hx hu1 hll hd
     have:syms.isEmpty=true:=by cases syms<;>simp_all [ae]
     unfold dO
     rw[this];rfl
   ·have hi:(ae syms)[i]? = some v:=Option.some.inj hv
    obtain⟨y,rfl,hy1⟩:∃ y,v = .str y/\syms[i]? = some y:=by
     unfold ae at hi
     rw[List.getElem?_map]at hi
     cases e:syms[i]? with
     | none=>rw[e]at hi;cases hi
     | some y=>rw[e]at hi;exact⟨y,(Option.some.inj hi).symm,rfl⟩
    have hlt:i<syms.length:=by rw[List.getElem?_eq_some_iff]at hy1;exact hy1.1
    have hym:y∈syms:=List.mem_of_getElem? hy1
    have hx:=Eq.trans (hf1 _ (nex hx hlu)) hx;have hd:=Eq.trans (hf1 _ (nex hd hlu)) hd
    refine Op.locs hl ?_
    refine am rfl rfl ?_;(refine aC ?_;intro qq ee;refine ac ?_);refine bz ?_;refine bD rfl rfl ?_;refine az rfl rfl ?_
    refine aP hK (fun _=>by kernel_rfl) (.own hx hd) rfl rfl ?_
    skip
    refine iW (n:=0) (.own hu1) (hy y hym).2 (hok i) (by decide) (cd.fit (by decide)) (fun b hb=>?_)
    refine aj ?_
    refine⟨fun hb2=>?_,fun hb2=>?_⟩
    ·(refine aC ?_;intro qq ee;refine ac ?_);refine bP rfl rfl ?_;refine cT rfl ?_;refine az rfl rfl ?_
     refine aP hK (fun _=>by kernel_rfl) (.own hx hd) rfl rfl ?_
     refine a6 (.list hu1) PySem.F.plainAttrs_list PySem.F.slot_list_append PySem.F.type_list_append rfl rfl ?_
     refine aN rfl ?_
     refine bh hu1 (Nat.le_trans (hsz i) (by decide)) (fun m2 hu2 hf2=>?_)
     refine ak ?_;refine ak ?_
     refine⟨k - 1,(kst hk hlt).1,(kst hk hlt).2,rfl,?_,fun b hb'=>(hf2 b hb').trans (hf1 b hb')⟩
     have:¬ y∈bf (syms.take i):=fun q=>by
      have:=hb.mpr (g8.mpr q);rw[this]at hb2;cases hb2
     rw[hu2,aK hy1,gj,if_neg this]
     simp[ae]
    ·refine ak ?_;refine ak ?_
     refine⟨k - 1,(kst hk hlt).1,(kst hk hlt).2,rfl,?_,fun b hb'=>hf1 b hb'⟩
     have:y∈bf (syms.take i):=by
      refine g8.mp (hb.mp ?_)
      cases b with
      | true=>rfl
      | false=>cases hb2
     rw[hu1,aK hy1,gj,if_pos this]
theorem oq{num prec func file line sv:V}{name:Str}{syms:List Str}{Q:V->Loc->Mem->Prop}(hK:W.K=hdK W.w.params)(c:aU A 800 7000)(q:Sq mem sv "list" (ae syms))(hz:syms.length≤100)(hy:∀ y∈syms,y.cps.size≤100/\PyData.strOk y=true)(hn:name.cps.size≤100)(hr:cK num=true/\cK prec=true/\cK func=true/\cK file=true/\cK line=true)
  (h:Q (.ins aq (dq num name syms prec func file line)) loc mem):OpV W A env outer (fun vs=>call (.ref aq) vs) [num,.str name,sv,prec,func,file,line] loc mem Q E:=by
 refine jq hK c q hz hy hn hr ?_ h
 ·intro x F s vs hb hk r
  exact vrs8 (P:=fun vs=>∃ bv,BindsTo s _ ⟨vs,[]⟩ bv/\VRp W F _ bv) r fun v0 v1 v2 v3 v4 v5 v6 v7 r0 r1 r2 r3 r4 r5 r6 r7=>⟨_,binds_K (T:=55) hk rfl (by rw[hK];rfl) rfl rfl rfl,.cons r0 (.cons r1 (.cons r2 (.cons r3 (.cons r4 (.cons r5 (.cons r6 (.cons r7 .nil)))))))⟩
theorem na{num sv:V}{name:Str}{syms:List Str}{Q:V->Loc->Mem->Prop}(hK:W.K=hdK W.w.params)(c:aU A 800 7000)(q:Sq mem sv "list" (ae syms))(hz:syms.length≤100)(hy:∀ y∈syms,y.cps.size≤100/\PyData.strOk y=true)(hn:name.cps.size≤100)(hr:cK num=true)
  (h:Q (.ins aq (dq num name syms (.tup [.str "right",.int 0]) .none (.str "") (.int 0))) loc mem):OpV W A env outer (fun vs=>call (.ref aq) vs) [num,.str name,sv] loc mem Q E:=by
 refine jq hK c q hz hy hn ⟨hr,rfl,rfl,rfl,rfl⟩ ?_ h
 intro x F s vs hb hk r
 refine vrs4 (P:=fun vs=>∃ bv,BindsTo s _ ⟨vs,[]⟩ bv/\VRp W F _ bv) r fun v0 v1 v2 v3 r0 r1 r2 r3=>⟨_,binds_K (T:=55) hk rfl (by rw[hK];rfl) rfl rfl rfl,.cons r0 (.cons r1 (.cons r2 (.cons r3 (.cons ?_ (.cons .none (.cons (.str _ _) (.cons (.int _ _) .nil)))))))⟩
 exact .tup (hb _ _ (W.KIn _ _ (by rw[hK];rfl))) (.cons (.str _ _) (.cons (.int _ _) .nil))
end
section
variable {W:Wd}{A:Around}{env:Env}{outer:ay}{loc:Loc}{mem R:Mem}{E:Ex W}{F:Frz}{s:Shared}
theorem gR(m R0 R:Mem):mun m (mun R0 R)=mun (mun m R0) R:=by
 funext a;unfold mun
 cases m a<;>rfl
theorem Sim.split{m R0:Mem}(S:Sim W env outer loc (mun m R0) R F s)(hd:Dis m R0):Sim W env outer loc m (mun R0 R) F s/\Dis R0 R:=by
 have d0:Dis R0 R:=fun a x e=>by
  have hm:m a=none:=by
   cases q:m a with
   | none=>rfl
   | some y=>rw[hd a y q]at e;cases e
  exact S.dis a x (by rw[bw hm];exact e)
 refine⟨⟨fun a x e=>?_,by rw[gR];exact S.z⟩,d0⟩
 rw[bw (hd a x e)];exact S.dis a x (bu e)
theorem Sim.join{m R0:Mem}(S:Sim W env outer loc m (mun R0 R) F s)(d0:Dis R0 R):Sim W env outer loc (mun m R0) R F s/\Dis m R0:=by
 have hd:Dis m R0:=fun a x e=>(br (S.dis a x e)).1
 refine⟨⟨fun a x e=>?_,by rw[<-gR];exact S.z⟩,hd⟩
 cases q:m a with
 | some y=>exact(br (S.dis a y q)).2
 | none=>rw[bw q]at e;exact d0 a x e
theorem gG.mun{R0:Mem}(d0:Dis R0 R):gG W R (mun R0 R):=by
 refine⟨fun {env outer loc mem F s} S=>?_,fun a x e=>?_⟩
 rotate_left
 ·rw[bw]
  ·exact e
  ·cases z:R0 a with
   | none=>rfl
   | some y=>rw[d0 a y z]at e;cases e
 refine⟨fun a x e=>(br (S.dis a x e)).2,S.z.drop fun a x e=>?_⟩
 cases q:mem a with
 | some y=>rw[bu q]at e ⊢;exact e
 | none=>
  rw[bw q]at e ⊢
  rw[bw]
  ·exact e
  ·cases z:R0 a with
   | none=>rfl
   | some y=>rw[d0 a y z]at e;cases e
theorem Op.frame{α β:Type}{RV:Frz->β->α->Prop}{f:List Value->Sem α}{xs:List V}{Q Q':β->Loc->Mem->Prop}{m R0:Mem}(hd:Dis m R0)(h:Op W A env outer RV f xs loc m Q E)
  (hQ:∀ v l m1,Dis m1 R0->Q v l m1->Q' v l (mun m1 R0)):Op W A env outer RV f xs loc (mun m R0) Q' E:=fun R F s vs S r=>by
 obtain⟨S1,d0⟩:=S.split hd
 refine wpAny_mono (h _ F s vs S1 r) (fun _ _ ⟨F',x,l,m1,a,b,S2,q⟩=>?_) fun _ _ e=>E.mono (gG.mun d0) (aV.refl F) e
 obtain⟨S3,hd1⟩:=S2.join d0
 exact⟨F',x,l,mun m1 R0,a,b,S3,hQ x l m1 hd1 q⟩
theorem VRs.setN{xs:List V}{vs:List Value}(r:VRs W F xs vs){k:Nat}{x:V}{v:Value}(rx:VR W F x v):VRs W F (xs.set k x) (vs.set k v):=by
 induction k generalizing xs vs with
 | zero=>cases r with|nil=>exact .nil|cons _ r2=>exact .cons rx r2
 | succ k ih=>cases r with|nil=>exact .nil|cons r1 r2=>exact .cons r1 (ih r2)
theorem fg{a:Addr}{xs:List V}{k:Nat}{x:V}{Q:Loc->Mem->Prop}(h1:mem a=some (.list xs))(hk:k<xs.length)(hk2:k<1000000)(h:∀ m':Mem,m' a=some (.list (xs.set k x))->(∀ b,b≠a->m' b=mem b)->Q loc m') :
  OpU W A env outer (fun|[x,y,z]=>setItem x y z|_=>pure ()) [.ref a,.int (k:Int),x] loc mem Q E:=op3 fun R F s v u t S r1 r2 r3=>by
 obtain rfl:=r1.isRef;obtain⟨_,rfl⟩:=r2.isInt
 obtain⟨o,ho,q⟩:=S.memOk _ _ h1
 cases q with
 | @list _ vs n q=>
  refine ki_setAt (items:=vs) (n:=n) ho (Int.natCast_nonneg _) (by lia) (by rw[q.size];exact_mod_cast hk) ?_
  refine aE.mk (x:=()) trivial (S.upd (t:=s.toks) (d:=s.drawn) (x':=.list (xs.set k x)) h1 (fun b ob hb e=>((Heap.SameBut.update ..).2 b hb).trans e) (IsL.update (show IsL s.heap a vs n from ho) _) (.list ?_)) (h _ (mset_self _ _ _) fun b hb=>af hb)
  rw[Int.toNat_natCast,Array.toList_setIfInBounds]
  exact q.setN r3
inductive Rl where
 | self|dict|pl|pn|pm|te|no|fi|fo|pr|up
 | teL (k:Str)|noL (k:Str)|pnL (k:Str)|fiL (k:Str)|foL (k:Str)
deriving DecidableEq
structure dh(adr:Rl->Addr)(c:Rl->Option ax)(m:Mem):Prop where
 inj:∀ r r',c r≠none->c r'≠none->adr r=adr r'->r=r'
 is:∀ a x,m a=some x↔∃ r,adr r=a/\c r=some x
noncomputable def upd{β:Type}(f:Rl->β)(r:Rl)(y:β):Rl->β:=fun r'=>if r'=r then y else f r'
theorem aY{β:Type}(f:Rl->β)(r:Rl)(y:β):upd f r y r=y:=if_pos rfl
theorem ao{β:Type}{f:Rl->β}{r r':Rl}{y:β}(h:r'≠r):upd f r y r'=f r':=if_neg h
variable {adr:Rl->Addr}{c:Rl->Option ax}{m m':Mem}
theorem dh.get{r:Rl}{x:ax}(M:dh adr c m)(h:c r=some x):m (adr r)=some x:=(M.is _ _).mpr ⟨r,rfl,h⟩
theorem dh.set{r:Rl}{x y:ax}(M:dh adr c m)(h:c r=some x)(h1:m' (adr r)=some y)(hf:∀ b,b≠adr r->m' b=m b):dh adr (upd c r (some y)) m' where
 inj a b ha hb e:=by
  refine M.inj a b ?_ ?_ e
  ·intro q;by_cases z:a=r
   ·rw[z,h]at q;cases q
   ·rw[ao z]at ha;exact ha q
  ·intro q;by_cases z:b=r
   ·rw[z,h]at q;cases q
   ·rw[ao z]at hb;exact hb q
 is a z:=by
  by_cases e:a=adr r
  ·subst e
   rw[h1]
   constructor
   ·intro q;exact⟨r,rfl,by rw[aY];exact q⟩
   ·rintro⟨r',e,q⟩
    by_cases hr:r'=r
    ·rw[hr,aY]at q;exact q
    ·rw[ao hr]at q
     exact absurd (M.inj r' r (by rw[q];exact fun e=>nomatch e) (by rw[h];exact fun e=>nomatch e) e) hr
  ·rw[hf a e,M.is]
   constructor
   ·rintro⟨r',rfl,q⟩
    have hr:r'≠r:=fun z=>e (by rw[z])
    exact⟨r',rfl,by rw[ao hr];exact q⟩
   ·rintro⟨r',rfl,q⟩
    have hr:r'≠r:=fun z=>e (by rw[z])
    exact⟨r',rfl,by rw[ao hr]at q;exact q⟩
theorem dh.new{r:Rl}{a:Addr}{y:ax}(M:dh adr c m)(h:c r=none)(ha:m a=none)(h1:m' a=some y)(hf:∀ b,b≠a->m' b=m b):dh (upd adr r a) (upd c r (some y)) m':=by
 have off:∀ r' x,c r'=some x->adr r'≠a:=fun r' x q e=>by
  have:=M.get q;rw[e,ha]at this;cases this
 refine⟨fun p q hp hq e=>?_,fun b z=>?_⟩
 ·by_cases h1:p=r
  ·by_cases h2:q=r
   ·rw[h1,h2]
   ·rw[h1,aY,ao h2]at e
    rw[ao h2]at hq
    cases w:c q with
    | none=>exact absurd w hq
    | some x=>exact absurd e.symm (off q x w)
  ·by_cases h2:q=r
   ·rw[h2,aY,ao h1]at e
    rw[ao h1]at hp
    cases w:c p with
    | none=>exact absurd w hp
    | some x=>exact absurd e (off p x w)
   ·rw[ao h1]at hp e
    rw[ao h2]at hq e
    exact M.inj p q hp hq e
 ·by_cases e:b=a
  ·subst e
   rw[h1]
   constructor
   ·intro q;exact⟨r,by rw[aY],by rw[aY];exact q⟩
   ·rintro⟨r',e,q⟩
    by_cases hr:r'=r
    ·rw[hr,aY]at q;exact q
    ·rw[ao hr]at q e
     exact absurd e (off r' _ q)
  ·rw[hf b e,M.is]
   constructor
   ·rintro⟨r',e',q⟩
    have hr:r'≠r:=fun z=>by rw[z,h]at q;cases q
    exact⟨r',by rw[ao hr];exact e',by rw[ao hr];exact q⟩
   ·rintro⟨r',e',q⟩
    have hr:r'≠r:=fun z=>by rw[z,aY]at e';exact e e'.symm
    exact⟨r',by rw[ao hr]at e';exact e',by rw[ao hr]at q;exact q⟩
set_option genInjectivity false in
set_option genSizeOf false in
structure Pr where
 name:Str
 body:List Str
 num:Int
 prec:V
 func:V
 file:V
 line:V
set_option genInjectivity false in
set_option genSizeOf false in
structure GR where
 p0:V
 prods:List Pr
 pn:List Str
 te:List (Str×List Int)
 no:List (Str×List Int)
 fi:List (Str×List Str)
 fo:List (Str×List Str)
 pr:List (Str×V)
 up:V
 start:V
noncomputable def pV(C:Addr)(p:Pr):V:=.ins C (dq (.int p.num) p.name p.body p.prec p.func p.file p.line)
noncomputable def a9(ns:List Int):List V:=ns.map .int
noncomputable def pT:Rl->Bool
 | .teL _|.noL _|.pnL _|.fiL _|.foL _=>true
 | _=>false
theorem kO{r r':Rl}(h:pT r=false)(h':pT r'=true):r≠r':=fun e=>by rw[e,h']at h;cases h
noncomputable def gKeys:List (Str×Rl):=[("Productions",.pl),("Prodnames",.pn),("Prodmap",.pm),("Terminals",.te),("Nonterminals",.no),("First",.fi),("Follow",.fo),("Precedence",.pr)]
noncomputable def km(adr:Rl->Addr)(up start:V):List (Str×V):=gKeys.map (fun q=>(q.1,V.ref (adr q.2)))++[((Str.ofString "UsedPrecedence"),up),((Str.ofString "Start"),start)]
theorem mO:gKeys.all (fun q=>pT q.2==false)=true:=rfl
theorem jH{adr adr':Rl->Addr}{up st:V}(h:∀ r,pT r=false->adr r=adr' r):km adr up st=km adr' up st:=
 congrArg (fun l=>l++[((Str.ofString "UsedPrecedence"),up),((Str.ofString "Start"),st)]) (List.map_congr_left fun(q:Str×Rl) hq=>congrArg (fun a=>(q.1,V.ref a)) (h q.2 (eq_of_beq (List.all_eq_true.mp mO q hq))))
structure GOk(C CP:Addr)(adr:Rl->Addr)(c:Rl->Option ax)(g:GR):Prop where
 self:c .self=some (.inst C (adr .dict))
 dict:∃ ep,c .dict=some (.dict (km adr g.up g.start) ep)
 pl:c .pl=some (.list (g.p0::g.prods.map (pV CP)))
 pn:∃ ep,c .pn=some (.dict (g.pn.map fun k=>(k,.ref (adr (.pnL k)))) ep)
 pnL:∀ k,c (.pnL k)=if k∈g.pn then some (.list ((g.prods.filter fun p=>p.name=k).map (pV CP))) else none
 pm:∃ ep,c .pm=some (.dict (g.prods.map fun p=>(aJ p.name p.body,pV CP p)) ep)
 te:∃ ep,c .te=some (.dict (g.te.map fun q=>(q.1,.ref (adr (.teL q.1)))) ep)
 teL:∀ k,c (.teL k)=(g.te.lookup k).map fun ns=>.list (a9 ns)
 no:∃ ep,c .no=some (.dict (g.no.map fun q=>(q.1,.ref (adr (.noL q.1)))) ep)
 noL:∀ k,c (.noL k)=(g.no.lookup k).map fun ns=>.list (a9 ns)
 fi:∃ ep,c .fi=some (.dict (g.fi.map fun q=>(q.1,.ref (adr (.fiL q.1)))) ep)
 fiL:∀ k,c (.fiL k)=(g.fi.lookup k).map fun ns=>.list (ae ns)
 fo:∃ ep,c .fo=some (.dict (g.fo.map fun q=>(q.1,.ref (adr (.foL q.1)))) ep)
 foL:∀ k,c (.foL k)=(g.fo.lookup k).map fun ns=>.list (ae ns)
 pr:∃ ep,c .pr=some (.dict g.pr ep)
 up:c .up=none
noncomputable def bL(C CP:Addr)(g:GR)(a:Addr)(m:Mem):Prop:=∃ adr c,dh adr c m/\GOk C CP adr c g/\adr .self=a
theorem ci{β:Type}(l:List (Str×β))(f:Str->V)(k:Str):bi (l.map fun q=>(q.1,f q.1)) k=if (l.map (·.1)).contains k then some (f k) else none:=by
 induction l with
 | nil=>rfl
 | cons q l ih=>
  unfold bi at ih ⊢
  rw[List.map_cons,List.find?_cons,List.map_cons,List.contains_cons]
  by_cases h:q.1=k
  ·have e:(k==q.1)=true:=by simpa using h.symm
   simp[h]
  ·have e:(k==q.1)=false:=by simpa using (Ne.symm h)
   have e2:decide (q.1=k)=false:=decide_eq_false h
   simp only [e2,e,Bool.false_or]
   exact ih
theorem fQ{es:List (Str×V)}{k:Str}{v:V}(h:bi es k=none):stA es k v=es++[(k,v)]:=by
 unfold stA
 rw[if_neg]
 intro q
 obtain⟨e,he,hk⟩:=List.any_eq_true.mp q
 unfold bi at h
 rw[Option.map_eq_none_iff,List.find?_eq_none]at h
 exact h e he hk
theorem aF{β:Type}(l:List (Str×β))(k:Str):(l.lookup k).isSome=(l.map (·.1)).contains k:=by
 induction l with
 | nil=>rfl
 | cons q l ih=>
  obtain⟨a,b⟩:=q
  rw[List.lookup_cons,List.map_cons,List.contains_cons]
  cases h:k==a with
  | true=>rfl
  | false=>simp only [Bool.false_or];exact ih
end
section
variable {W:Wd}{A:Around}{env:Env}{outer:ay}{loc:Loc}{mem:Mem}{E:Ex W}
theorem new_set{Q:V->Loc->Mem->Prop}(h:∀ a,Q (.ref a) loc mem):OpV W A env outer (fun vs=>call (.type "set") vs) [] loc mem Q E:=fun R F s vs S r=>by
 obtain rfl:=r.isNil
 exact call_set_0 fun led=>aE.mk (.ref _) (S.grow (t:=s.toks) (d:=s.drawn) fun b o e=>Heap.get?_push_of_some _ e) (h _)
noncomputable def g0(ts:List Str)(up:V):GR:={ p0:=.none,prods:=[],pn:=[],te:=ts.map (fun t=>(t,([]:List Int)))++[(("error" : Str),[])],no:=[],fi:=[],fo:=[],pr:=[],up:=up,start:=.none }
inductive P2C_J1(ts:List Str)(adr1:Rl->Addr)(cc1:Rl->Option ax)(k:Nat)(i:Nat)(l:Loc)(m:Mem):Prop
 | mk (h1_:k+i=ts.length) (h2_:a7 [("self",.ref (adr1 .self))] l) (adr:_) (cc:_) (h3_:dh adr cc m) (h4_:(∀ r,(∀ k,r≠.teL k)->adr r=adr1 r)) (h5_:(∀ r,(∀ k,r≠.teL k)->r≠.te->cc r=cc1 r)) (h6_:(∃ ep,cc .te=some (.dict ((ts.take i).map fun t=>(t,.ref (adr (.teL t)))) ep))) (h7_:∀ k,cc (.teL k)=if k∈ts.take i then some (.list []) else none)
theorem nj{ts:List Str}{Q:V->Loc->Mem->Prop}(hK:W.K=hdK W.w.params)(c:aU A 700 6000)(hz:ts.length≤100)(hnd:ts.Nodup)(he:("error" : Str)∉ts)
  (h:∀ a m up,bL ar aq (g0 ts up) a m->Q (.ref a) loc m):OpV W A env outer (fun vs=>call (.ref ar) vs) [.lst (ae ts)] loc (fun _=>none) Q E:=by
 refine kR (C:=ar) (f:=aGInit) (bs:=fun x=>[("self",.ref x),("terminals",.lst (ae ts))]) (by rw[hK];first|rfl|kernel_rfl|decide +kernel) (by rw[hK];first|rfl|kernel_rfl|decide +kernel) (by rw[hK];first|rfl|kernel_rfl|decide +kernel)
  (by rw[hK];exact gInit.at _) (by rw[hK];first|rfl|kernel_rfl|decide +kernel) (Nat.lt_of_le_of_lt (Nat.succ_le_succ c.depth) (by decide)) ?_ (by intro x y hy;simp at hy;rcases hy with rfl|rfl<;>rfl) (by decide) rfl rfl rfl ?_
 ·intro x F s vs hb hk r
  cases r with
  | cons r0 r=>cases r with
   | cons r1 r=>
    cases r
    exact⟨_,BindsTo.of_eq rfl,.cons r0 (.cons r1 .nil)⟩
 ·intro A' x d hA hh hg hfr hu mx md hxd L outer
  have c1:aU A' 701 6008:=⟨hh.trans c.handled,hg.trans c.guards,by have:=c.depth;lia ,by have:=c.units;lia ⟩
  have cd:=c1.deeper (envX "Grammar.__init__" gInit.scope L 137 gInit.code [])
  obtain⟨m,hm⟩:∃ m,m=ap (ap (fun _=>none) d (.dict [] 0)) x (.inst ar d):=⟨_,rfl⟩
  obtain⟨adr,cc,M,e1,e2,hadr,hcc⟩:∃ (adr:Rl->Addr) (cc:Rl->Option ax),dh adr cc m/\cc .self=some (.inst ar d)/\cc .dict=some (.dict [] 0)/\(adr .self=x/\adr .dict=d)/\∀ r,r≠.self->r≠.dict->cc r=none:=by
   have M0:dh (fun _=>x) (fun _=>none) (fun _=>none):=⟨fun r r' h=>absurd rfl h,fun a z=>⟨fun e=>(nomatch e),fun⟨_,_,e⟩=>(nomatch e)⟩⟩
   have M1:=M0.new (r:=.dict) (m':=ap (fun _=>none) d (.dict [] 0)) (a:=d) rfl rfl (mset_self _ _ _) fun b hb=>af hb
   have M2:=M1.new (r:=.self) (m':=m) (a:=x) rfl (af hxd) (by rw[hm,mset_self]) fun b hb=>by rw[hm,af hb]
   exact⟨_,_,M2,rfl,rfl,⟨rfl,rfl⟩,fun r h1 h2=>by rw[ao h1,ao h2]⟩
  rw[<-hm]
  clear hm
  obtain⟨rfl,rfl⟩:=hadr
  (refine bU ?_;intro aa vv oo qq ee;refine ac ?_);refine aO rfl ?_;refine aW ?_;refine aN rfl ?_
  refine bX (by decide) (fun a1 m1 ha1 hl1 hf1=>?_)
  have M:=M.new (r:=.pl) (hcc _ (by decide) (by decide)) ha1 hl1 hf1
  refine pu rfl ?_
  refine ck hK (fun _=>by kernel_rfl) (M.get (r:=.self) e1) (M.get (r:=.dict) e2) rfl (fun m ep hx hd hf=>?_)
  have hd:_=some (ax.dict [(Str.ofString "Productions",_)] _):=hd
  have M:=M.set (r:=.dict) e2 hd hf
  clear hx hd hf
  refine ac ?_;refine aO rfl ?_
  refine dy (fun a1 m1 ha1 hl1 hf1=>?_)
  have M:=M.new (r:=.pn) (hcc _ (by decide) (by decide)) ha1 hl1 hf1
  clear ha1 hl1 hf1
  refine pu rfl ?_
  refine ck hK (fun _=>by kernel_rfl) (M.get (r:=.self) e1) (M.get (r:=.dict) rfl) rfl (fun m ep hx hd hf=>?_)
  have hd:_=some (ax.dict [(Str.ofString "Productions",_),(Str.ofString "Prodnames",_)] _):=hd
  have M:=M.set (r:=.dict) rfl hd hf
  clear hx hd hf
  refine ac ?_;refine aO rfl ?_
  refine dy (fun a1 m1 ha1 hl1 hf1=>?_)
  have M:=M.new (r:=.pm) (hcc _ (by decide) (by decide)) ha1 hl1 hf1
  clear ha1 hl1 hf1
  refine pu rfl ?_
  refine ck hK (fun _=>by kernel_rfl) (M.get (r:=.self) e1) (M.get (r:=.dict) rfl) rfl (fun m ep hx hd hf=>?_)
  have hd:_=some (ax.dict [(Str.ofString "Productions",_),(Str.ofString "Prodnames",_),(Str.ofString "Prodmap",_)] _):=hd
  have M:=M.set (r:=.dict) rfl hd hf
  clear hx hd hf
  refine ac ?_;refine aO rfl ?_
  refine dy (fun a1 m1 ha1 hl1 hf1=>?_)
  have M:=M.new (r:=.te) (hcc _ (by decide) (by decide)) ha1 hl1 hf1
  clear ha1 hl1 hf1
  refine pu rfl ?_
  refine ck hK (fun _=>by kernel_rfl) (M.get (r:=.self) e1) (M.get (r:=.dict) rfl) rfl (fun m ep hx hd hf=>?_)
  have hd:_=some (ax.dict [(Str.ofString "Productions",_),(Str.ofString "Prodnames",_),(Str.ofString "Prodmap",_),(Str.ofString "Terminals",_)] _):=hd
  have M:=M.set (r:=.dict) rfl hd hf
  clear hx hd hf
  refine ac ?_;refine dj (fun _=>rfl) ?_;refine pu rfl ?_
  obtain⟨adr1,cc1,M,fs,fd,fself,⟨epd,fdict⟩,fpl,fpn,fpm,fte,fno⟩:∃ (adr1:Rl->Addr) (cc1:Rl->Option ax),dh adr1 cc1 m/\adr1 .self=adr .self/\adr1 .dict=adr .dict/\cc1 .self=some (.inst ar (adr1 .dict))/\(∃ ep,cc1 .dict=some (.dict [("Productions",.ref (adr1 .pl)),("Prodnames",.ref (adr1 .pn)),("Prodmap",.ref (adr1 .pm)),("Terminals",.ref (adr1 .te))] ep))/\cc1 .pl=some (.list [.none])/\cc1 .pn=some (.dict [] 0)/\cc1 .pm=some (.dict [] 0)/\cc1 .te=some (.dict [] 0)/\(∀ r,r≠.self->r≠.dict->r≠.pl->r≠.pn->r≠.pm->r≠.te->cc1 r=none):=by
   refine⟨_,_,M,rfl,rfl,e1,⟨_,rfl⟩,rfl,rfl,rfl,rfl,fun r h1 h2 h3 h4 h5 h6=>?_⟩
   simp[upd,h1,h2,h3,h4,h5,h6,hcc]
  rw[<-fs]at hxd ⊢
  let J1:Nat->Nat->Loc->Mem->Prop:=P2C_J1 ts adr1 cc1
  refine nw (cb cd.handled) J1 ?_ ts.length ⟨rfl,rfl,adr1,cc1,M,fun _ _=>rfl,fun _ _ _=>rfl,⟨0,fte⟩,fun k=>by simp;exact fno _ (by simp) (by simp) (by simp) (by simp) (by simp) (by simp)⟩
  ·rintro k i l m2 ⟨hk,hl,adr2,cc2,M,hadr,hcc2,⟨ep2,hte⟩,htl⟩
   have s2:adr2 .self=adr1 .self:=hadr _ (by simp)
   have self2:cc2 .self=some (.inst ar (adr2 .dict)):=by rw[hadr .dict (by simp),hcc2 _ (by simp) (by simp)];exact fself
   have dict2:cc2 .dict=some (.dict [("Productions",.ref (adr2 .pl)),("Prodnames",.ref (adr2 .pn)),("Prodmap",.ref (adr2 .pm)),("Terminals",.ref (adr2 .te))] epd):=by
    rw[hadr .pl (by simp),hadr .pn (by simp),hadr .pm (by simp),hadr .te (by simp),hcc2 _ (by simp) (by simp)];exact fdict
   have no2:∀ r,(∀ k,r≠.teL k)->r≠.self->r≠.dict->r≠.pl->r≠.pn->r≠.pm->r≠.te->cc2 r=none:=fun r h0 h1 h2 h3 h4 h5 h6=>by rw[hcc2 r h0 h6];exact fno r h1 h2 h3 h4 h5 h6
   have pl2:cc2 .pl=some (.list [.none]):=by rw[hcc2 _ (by simp) (by simp)];exact fpl
   have pn2:cc2 .pn=some (.dict [] 0):=by rw[hcc2 _ (by simp) (by simp)];exact fpn
   have pm2:cc2 .pm=some (.dict [] 0):=by rw[hcc2 _ (by simp) (by simp)];exact fpm
   clear hxd fself fdict fno
   refine⟨by simp[bN],fun hn1=>?_,fun v hv=>?_⟩
   ·have hn1:(ae ts)[i]? = none:=Option.some.inj hn1
    rw[List.getElem?_eq_none_iff,aG]at hn1
    obtain rfl:i=ts.length:=by lia
    rw[List.take_length]at hte htl
    refine Tr.locs hl ?_
    rw[<-s2]
    refine ak ?_;refine ac ?_;refine bE rfl ?_;refine aW ?_;refine aI ?_
    refine bX (by decide) (fun a1 m1 ha1 hl1 hf1=>?_)
    have hnew:cc2 (.teL "error")=none:=by rw[htl,if_neg he]
    have M1:=M.new (r:=.teL "error") hnew ha1 hl1 hf1
    clear ha1 hl1 hf1
    refine az rfl rfl ?_
    refine aP hK (fun _=>by kernel_rfl) (.own (M1.get (r:=.self) self2) (M1.get (r:=.dict) dict2)) rfl rfl ?_
    refine gE ?_
    refine ba (M1.get (r:=.te) hte) (by rw[List.length_map];(try rw[List.length_take]);exact Nat.le_trans (by lia ) (show 100≤sizeLine by decide)) (fun m3 ep3 hl3 hf3=>?_)
    have M2:=M1.set (r:=.te) hte hl3 hf3
    refine ac ?_;refine aO rfl ?_
    have M:=M2
    clear M1 M2
    refine dy (fun a1 m1 ha1 hl1 hf1=>?_)
    have M:=M.new (r:=.no) (no2 _ (by simp) (by simp) (by simp) (by simp) (by simp) (by simp) (by simp)) ha1 hl1 hf1
    clear ha1 hl1 hf1
    refine pu rfl ?_
    refine ck hK (fun _=>by kernel_rfl) (M.get (r:=.self) self2) (M.get (r:=.dict) dict2) rfl (fun m ep hx hd hf=>?_)
    have hd:_=some (ax.dict [(Str.ofString "Productions",_),(Str.ofString "Prodnames",_),(Str.ofString "Prodmap",_),(Str.ofString "Terminals",_),(Str.ofString "Nonterminals",_)] _):=hd
    have M:=M.set (r:=.dict) dict2 hd hf
    clear hx hd hf
    refine ac ?_;refine aO rfl ?_
    refine dy (fun a1 m1 ha1 hl1 hf1=>?_)
    have M:=M.new (r:=.fi) (no2 _ (by simp) (by simp) (by simp) (by simp) (by simp) (by simp) (by simp)) ha1 hl1 hf1
    clear ha1 hl1 hf1
    refine pu rfl ?_
    refine ck hK (fun _=>by kernel_rfl) (M.get (r:=.self) self2) (M.get (r:=.dict) rfl) rfl (fun m ep hx hd hf=>?_)
    have hd:_=some (ax.dict [(Str.ofString "Productions",_),(Str.ofString "Prodnames",_),(Str.ofString "Prodmap",_),(Str.ofString "Terminals",_),(Str.ofString "Nonterminals",_),(Str.ofString "First",_)] _):=hd
    have M:=M.set (r:=.dict) rfl hd hf
    clear hx hd hf
    refine ac ?_;refine aO rfl ?_
    refine dy (fun a1 m1 ha1 hl1 hf1=>?_)
    have M:=M.new (r:=.fo) (no2 _ (by simp) (by simp) (by simp) (by simp) (by simp) (by simp) (by simp)) ha1 hl1 hf1
    clear ha1 hl1 hf1
    refine pu rfl ?_
    refine ck hK (fun _=>by kernel_rfl) (M.get (r:=.self) self2) (M.get (r:=.dict) rfl) rfl (fun m ep hx hd hf=>?_)
    have hd:_=some (ax.dict [(Str.ofString "Productions",_),(Str.ofString "Prodnames",_),(Str.ofString "Prodmap",_),(Str.ofString "Terminals",_),(Str.ofString "Nonterminals",_),(Str.ofString "First",_),(Str.ofString "Follow",_)] _):=hd
    have M:=M.set (r:=.dict) rfl hd hf
    clear hx hd hf
    refine ac ?_;refine aO rfl ?_
    refine dy (fun a1 m1 ha1 hl1 hf1=>?_)
    have M:=M.new (r:=.pr) (no2 _ (by simp) (by simp) (by simp) (by simp) (by simp) (by simp) (by simp)) ha1 hl1 hf1
    clear ha1 hl1 hf1
    refine pu rfl ?_
    refine ck hK (fun _=>by kernel_rfl) (M.get (r:=.self) self2) (M.get (r:=.dict) rfl) rfl (fun m ep hx hd hf=>?_)
    have hd:_=some (ax.dict [(Str.ofString "Productions",_),(Str.ofString "Prodnames",_),(Str.ofString "Prodmap",_),(Str.ofString "Terminals",_),(Str.ofString "Nonterminals",_),(Str.ofString "First",_),(Str.ofString "Follow",_),(Str.ofString "Precedence",_)] _):=hd
    have M:=M.set (r:=.dict) rfl hd hf
    clear hx hd hf
    refine ac ?_;refine aO rfl ?_;refine eT rfl ?_;refine iq hK (fun _=>rfl) ?_;refine nY ?_
    refine new_set (fun up=>?_)
    refine pu rfl ?_
    refine ck hK (fun _=>by kernel_rfl) (M.get (r:=.self) self2) (M.get (r:=.dict) rfl) rfl (fun m ep hx hd hf=>?_)
    have hd:_=some (ax.dict [(Str.ofString "Productions",_),(Str.ofString "Prodnames",_),(Str.ofString "Prodmap",_),(Str.ofString "Terminals",_),(Str.ofString "Nonterminals",_),(Str.ofString "First",_),(Str.ofString "Follow",_),(Str.ofString "Precedence",_),(Str.ofString "UsedPrecedence",_)] _):=hd
    have M:=M.set (r:=.dict) rfl hd hf
    clear hx hd hf
    refine ac ?_;refine a8 rfl rfl rfl ?_
    refine ck hK (fun _=>by kernel_rfl) (M.get (r:=.self) self2) (M.get (r:=.dict) rfl) rfl (fun m ep hx hd hf=>?_)
    have hd:_=some (ax.dict [(Str.ofString "Productions",_),(Str.ofString "Prodnames",_),(Str.ofString "Prodmap",_),(Str.ofString "Terminals",_),(Str.ofString "Nonterminals",_),(Str.ofString "First",_),(Str.ofString "Follow",_),(Str.ofString "Precedence",_),(Str.ofString "UsedPrecedence",_),(Str.ofString "Start",_)] _):=hd
    have M:=M.set (r:=.dict) rfl hd hf
    clear hx hd hf
    refine ak ?_
    have gets:∀ (b:Addr) (l:List Str),bi (l.map fun t=>(t,V.ref (adr2 (.teL t)))) "error" = if l.contains ("error" : Str) then some (.ref (adr2 (.teL "error"))) else none:=fun b l=>by
     have:=ci (l.map fun t=>(t,())) (fun t=>V.ref (adr2 (.teL t))) "error"
     rw[List.map_map,List.map_map]at this
     simpa [Function.comp_def] using this
    refine⟨m,ah _,rfl,h _ _ (.ref up) ⟨_,_,M,?_,s2.trans fs⟩⟩
    refine {
     self:=self2
     dict:=⟨_,rfl⟩
     pl:=pl2
     pn:=⟨_,pn2⟩
     pnL:=fun k=>(no2 (.pnL k) (by simp) (by simp) (by simp) (by simp) (by simp) (by simp) (by simp)).trans rfl
     pm:=⟨_,pm2⟩
     te:=⟨ep3,?_⟩
     teL:=fun k=>?_
     no:=⟨_,rfl⟩
     noL:=fun k=>no2 (.noL k) (by simp) (by simp) (by simp) (by simp) (by simp) (by simp) (by simp)
     fi:=⟨_,rfl⟩
     fiL:=fun k=>no2 (.fiL k) (by simp) (by simp) (by simp) (by simp) (by simp) (by simp) (by simp)
     fo:=⟨_,rfl⟩
     foL:=fun k=>no2 (.foL k) (by simp) (by simp) (by simp) (by simp) (by simp) (by simp) (by simp)
     pr:=⟨_,rfl⟩
     up:=no2 .up (by simp) (by simp) (by simp) (by simp) (by simp) (by simp) (by simp) }
    ·show some (ax.dict (stA _ _ _) _)=_
     rw[fQ (by rw[gets 0];rw[if_neg (by rw[List.contains_iff_mem];exact he)])]
     simp only [g0,List.map_append,List.map_map,List.map_cons,List.map_nil,Function.comp_def]
     refine congrArg (fun z=>some (ax.dict z ep3)) (congr (congrArg _ (List.map_congr_left fun t ht=>?_)) ?_)
     ·have:t≠"error":=fun e=>he (e▸ht)
      simp[upd,this]
     ·simp[upd]
    ·have hlk:((g0 ts (.ref up)).te.lookup k).map (fun ns=>ax.list (a9 ns))=if k = "error" then some (.list []) else if k∈ts then some (.list []) else none:=by
      have hl:∀ (l:List Str),(l.map fun t=>(t,([]:List Int))).lookup k=if k∈l then some [] else none:=fun l=>by
       induction l with
       | nil=>rfl
       | cons z l ih=>
        rw[List.map_cons,List.lookup_cons,ih]
        by_cases e:k=z
        ·subst e;simp
        ·have:(k==z)=false:=by simpa using e
         simp[this,e]
      show((ts.map (fun t=>(t,([]:List Int)))++[(("error" : Str),[])]).lookup k).map _=_
      rw[cB,hl]
      by_cases e:k = "error"
      ·subst e;rw[if_neg he,if_pos rfl];simp[List.lookup,a9]
      ·have:(k==("error" : Str))=false:=by simpa using e
       by_cases e2:k∈ts
       ·rw[if_pos e2,if_neg e,if_pos e2];rfl
       ·rw[if_neg e2,if_neg e,if_neg e2];simp[List.lookup,this]
     rw[hlk]
     by_cases e:k = "error"
     ·subst e;simp[upd]
     ·rw[if_neg e,<-htl k]
      simp[upd,e]
   ·have hi:(ae ts)[i]? = some v:=Option.some.inj hv
    obtain⟨y,rfl,hy1⟩:∃ y,v = .str y/\ts[i]? = some y:=by
     unfold ae at hi
     rw[List.getElem?_map]at hi
     cases e:ts[i]? with
     | none=>rw[e]at hi;cases hi
     | some y=>rw[e]at hi;exact⟨y,(Option.some.inj hi).symm,rfl⟩
    refine Op.locs hl ?_
    rw[<-s2]
    refine am rfl rfl ?_;(refine aC ?_;intro qq ee;refine ac ?_);refine bE rfl ?_;refine aW ?_;refine aI ?_
    refine bX (by decide) (fun a1 m1 ha1 hl1 hf1=>?_)
    have hny:y∉ts.take i:=fun q=>by
     have hlt:i<ts.length:=by rw[List.getElem?_eq_some_iff]at hy1;exact hy1.1
     have e:=aK hy1
     have nd:(ts.take (i+1)).Nodup:=hnd.sublist (List.take_sublist _ _)
     rw[e,List.nodup_append]at nd
     exact nd.2.2 y q y (by simp) rfl
    have hnew:cc2 (.teL y)=none:=by rw[htl,if_neg hny]
    have M1:=M.new (r:=.teL y) hnew ha1 hl1 hf1
    refine az rfl rfl ?_
    refine aP hK (fun _=>by kernel_rfl) (.own (M1.get (r:=.self) self2) (M1.get (r:=.dict) dict2)) rfl rfl ?_
    refine pu rfl ?_
    refine ba (M1.get (r:=.te) hte) (by rw[List.length_map];(try rw[List.length_take]);exact Nat.le_trans (by lia ) (show 100≤sizeLine by decide)) (fun m3 ep3 hl3 hf3=>?_)
    have M2:=M1.set (r:=.te) hte hl3 hf3
    refine ak ?_
    refine⟨k - 1,(by have hlt:i<ts.length:=(by rw[List.getElem?_eq_some_iff]at hy1;exact hy1.1);lia),(by have hlt:i<ts.length:=(by rw[List.getElem?_eq_some_iff]at hy1;exact hy1.1);lia),by rw[s2];rfl,_,_,M2,fun r hr=>?_,fun r hr h2=>?_,⟨ep3,?_⟩,fun k'=>?_⟩
    ·rw[ao (hr y)];exact hadr r hr
    ·rw[ao h2,ao (hr y)];exact hcc2 r hr h2
    ·rw[aY,fQ]
     ·rw[aK hy1,List.map_append]
      refine congrArg (fun z=>some (ax.dict z ep3)) (congr (congrArg _ (List.map_congr_left fun t ht=>?_)) ?_)
      ·have:t≠y:=fun e=>hny (e▸ht)
       simp[upd,this]
      ·simp[upd]
     ·have:=ci ((ts.take i).map fun t=>(t,())) (fun t=>V.ref (adr2 (.teL t))) y
      rw[List.map_map,List.map_map]at this
      rw[show((ts.take i).map fun t=>(t,V.ref (adr2 (.teL t))))=List.map ((fun q:Str×Unit=>(q.1,V.ref (adr2 (.teL q.1)))) ∘ fun t=>(t,())) (ts.take i) from rfl,this,if_neg]
      rw[List.contains_iff_mem]
      intro q;apply hny;simpa [Function.comp_def] using q
    ·rw[ao (by simp)]
     by_cases e:k'=y
     ·subst e
      rw[aY,aK hy1,if_pos (by simp)]
     ·rw[ao (by simpa using e),htl,aK hy1]
      simp[e]
end
noncomputable def qk:Value->Bool
 | .none=>true
 | _=>false
theorem dH{v:Value}(h:qk v=true):v = .none:=by cases v<;>first|rfl|cases h
noncomputable def kY(prog:Program)(w:World):KeyKind prog w Unit where
 is _ v:=qk v
 hash _:=hashW w.params .none
 inj _ _ _ _ _:=rfl
 byValue _ v h:=by rw[dH h];rfl
 pyHash:=by
  intro A E s k v Q h q
  rw[dH h]
  exact pyHash_slot (T:="NoneType") rfl PySem.F.slot_NoneType_hash PySem.F.entry_NoneType_hash (PySem.F.args_NoneType_hash_1 _) (beq_builtin_none _) (.inl rfl) (wpAny_bind (wpAny_pure (wpAny_bind (wpAny_mkInt (wpAny_pure ⟨_,_,rfl,q⟩)))))
 eqBool:=by
  intro A E s a b u v Q h1 h2 q
  rw[dH h1,dH h2]
  unfold PySem.eqBool
  refine wpAny_holding ?_
  show wpAny _ _ (do rule "eq-bool.same-object";return true) _ _ _
  exact wpAny_bind (wpAny_rule (wpAny_pure q))
 «strs»:=fun k x t v h=>by cases h
section
variable {W:Wd}{A:Around}{env:Env}{outer:ay}{loc:Loc}{mem R:Mem}{E:Ex W}{F:Frz}{s:Shared}
theorem jv{a:Addr}{ep:Nat}{d:V}{Q:V->Loc->Mem->Prop}(hm:mem a=some (.dict [] ep))(h:Q d loc mem) :
  OpV W A env outer (fun vs=>call (.builtin "dict.get") vs) [.ref a,.none,d] loc mem Q E:=op3 fun R F s v u t S r1 r2 r3=>by
 obtain rfl:=r1.isRef;obtain rfl:=r2.isNone
 obtain⟨kvs,hd,q⟩:=S.dict hm
 cases q.view
 obtain⟨o,es,ep',ho,hx,hdd,hk,hp,hn⟩:=hd
 have he:es = #[]:=by
  have:es.toList=[]:=by have:=hp.length;exact List.eq_nil_of_length_eq_zero (by simpa using this)
  simpa using this
 subst he
 have mo:s.heap.MapOf (kY W.prog W.w) a (fun _=>none):=⟨o,#[],ep',ho,hx,hdd,fun e he=>by simp at he,fun k=>rfl⟩
 exact call_meetsIn PySem.F.slot_dict_get mo.typeIs PySem.F.entry_dict_get (PySem.F.args_dict_get_3 _ _ _) (meets_dict_get_default (kY W.prog W.w) a (k:=()) rfl (S.not_modules hm) t) ⟨_,mo,aE.mk r3 S.tick h⟩
end
theorem d8(ys:List Str):(ae ys).map (cr 0)=ys.map .str:=by unfold ae;rw[List.map_map];rfl
theorem jA(ys:List Str):(PyData.list (ys.map .str)).showable=true:=by
 simp only [PyData.showable]
 induction ys with
 | nil=>rfl
 | cons y ys ih=>simp only [List.map_cons,PyData.showableAll,PyData.showable,Bool.true_and];exact ih
theorem lq(ys:List Str):(PyData.list (ys.map .str)).hasDict=false:=by
 simp only [PyData.hasDict]
 induction ys with
 | nil=>rfl
 | cons y ys ih=>simp only [List.map_cons,PyData.hasDictAll,PyData.hasDict,Bool.false_or];exact ih
theorem ml(ys:List Str):(PyData.list (ys.map .str)).depth≤1:=by
 rw[PyData.depth]
 refine Nat.succ_le_succ ?_
 induction ys with
 | nil=>exact Nat.le_refl _
 | cons y ys ih=>rw[List.map_cons,PyData.depthAll];exact Nat.max_le.mpr ⟨by rw[PyData.depth];exact Nat.zero_le _,ih⟩
theorem pe{ys:List Str}(h:∀ y∈ys,y.cps.size≤100/\PyData.strOk y=true)(hz:ys.length≤100):(PyData.list (ys.map .str)).shown.length≤1000000:=by
 have hl:(PyData.list (ys.map .str)).leavesShort 8=true:=by
  refine PyData.leavesShort_of_canLay0 8 _ ?_ ?_
  ·rw[PyData.canLay0,dM,List.all_map,List.all_eq_true]
   exact fun y hy=>by simpa [PyData.canLay0] using (h y hy).2
  ·simp only [PyData.intsShort]
   clear h hz
   induction ys with
   | nil=>rfl
   | cons y ys ih=>simp only [List.map_cons,PyData.intsShortAll,PyData.intsShort,Bool.true_and];exact ih
 have hw:(PyData.list (ys.map .str)).weight≤ys.length*101:=by
  simp only [PyData.weight]
  clear hl hz
  induction ys with
  | nil=>exact Nat.le_refl _
  | cons y ys ih=>
   have h1:=(h y (.head _)).1
   have h2:=ih fun z hz=>h z (.tail _ hz)
   simp only [List.map_cons,PyData.weightAll,PyData.weight,List.length_cons,Nat.succ_mul]
   lia
 have:=PyData.shown_le 8 (by decide) _ hl
 lia
noncomputable def GS(adr:Rl->Addr)(c:Rl->Option ax)(sy:Addr)(X:ax)(m:Mem):Prop:=∃ gm,m=ap gm sy X/\dh adr c gm/\gm sy=none
variable {adr:Rl->Addr}{c:Rl->Option ax}{sy:Addr}{X:ax}{m m':Mem}
theorem GS.get{r:Rl}{x:ax}(G:GS adr c sy X m)(h:c r=some x):m (adr r)=some x:=by
 obtain⟨gm,rfl,M,hs⟩:=G
 have:=M.get h
 rw[af (nex this hs)];exact this
theorem GS.side(G:GS adr c sy X m):m sy=some X:=by obtain⟨gm,rfl,M,hs⟩:=G;exact mset_self _ _ _
theorem GS.split(G:GS adr c sy X m){a:Addr}(ha:a≠sy){y:ax}(h1:m' a=some y)(hf:∀ b,b≠a->m' b=m b):∃ gm,m=ap gm sy X/\dh adr c gm/\gm sy=none/\m'=ap (ap gm a y) sy X:=by
 obtain⟨gm,rfl,M,hs⟩:=G
 refine⟨gm,rfl,M,hs,?_⟩
 funext b
 by_cases e:b=a
 ·rw[e,h1,af ha,mset_self]
 ·rw[hf b e]
  by_cases e2:b=sy
  ·rw[e2,mset_self,mset_self]
  ·rw[af e2,af e2,af e]
theorem GS.set{r:Rl}{x y:ax}(G:GS adr c sy X m)(h:c r=some x)(h1:m' (adr r)=some y)(hf:∀ b,b≠adr r->m' b=m b):GS adr (upd c r (some y)) sy X m':=by
 have ha:adr r≠sy:=fun e=>by
  obtain⟨gm,rfl,M,hs⟩:=G
  have:=M.get h;rw[e,hs]at this;cases this
 obtain⟨gm,_,M,hs,e⟩:=G.split ha h1 hf
 exact⟨_,e,M.set h (mset_self _ _ _) fun b hb=>af hb,by rw[af (Ne.symm ha)];exact hs⟩
theorem GS.new{r:Rl}{a:Addr}{y:ax}(G:GS adr c sy X m)(h:c r=none)(hn:m a=none)(h1:m' a=some y)(hf:∀ b,b≠a->m' b=m b):GS (upd adr r a) (upd c r (some y)) sy X m':=by
 have ha:a≠sy:=fun e=>by rw[e,G.side]at hn;cases hn
 obtain⟨gm,e0,M,hs,e⟩:=G.split ha h1 hf
 have hg:gm a=none:=by rw[e0,af ha]at hn;exact hn
 exact⟨_,e,M.new h hg (mset_self _ _ _) fun b hb=>af hb,by rw[af (Ne.symm ha)];exact hs⟩
theorem GS.done(G:GS adr c sy X m):∃ gm,dh adr c gm/\Sub gm m:=by
 obtain⟨gm,rfl,M,hs⟩:=G
 exact⟨gm,M,fun a x e=>by rw[af (nex e hs)];exact e⟩
end Mine
namespace Mine
noncomputable def b9(l:List (Str×List Int))(k:Str)(n:Int):List (Str×List Int):=l.map fun q=>if q.1=k then(q.1,q.2++[n]) else q
theorem bQ(l:List (Str×List Int))(k:Str)(n:Int):(b9 l k n).map (·.1)=l.map (·.1):=by
 unfold b9;rw[List.map_map];refine List.map_congr_left fun q _=>?_
 simp only [Function.comp_apply];split<;>rfl
theorem gp(l:List (Str×List Int))(k:Str)(n:Int)(f:Str->V):((b9 l k n).map fun q=>(q.1,f q.1))=l.map fun q=>(q.1,f q.1):=by
 unfold b9;rw[List.map_map];refine List.map_congr_left fun q _=>?_
 simp only [Function.comp_apply];split<;>rfl
theorem dF(l:List (Str×List Int))(k:Str)(n:Int)(k':Str):(b9 l k n).lookup k'=if k'=k then(l.lookup k').map (·++[n]) else l.lookup k':=by
 unfold b9
 induction l with
 | nil=>simp
 | cons q l ih=>
  obtain⟨a,b⟩:=q
  rw[List.map_cons,List.lookup_cons]
  by_cases h:k'=a
  ·subst h
   by_cases h2:k'=k
   ·subst h2;simp[List.lookup]
   ·simp[List.lookup,h2]
  ·have e:(k'==a)=false:=by simpa using h
   have e2:(k'==(if a=k then(a,b++[n]) else(a,b)).1)=false:=by split<;>exact e
   rw[show(k'==(if (a,b).fst=k then((a,b).fst,(a,b).snd++[n]) else(a,b)).fst)=false from e2]
   rw[List.lookup_cons,e]
   exact ih
noncomputable def known(l:List (Str×List Int))(k:Str):List (Str×List Int):=if (l.lookup k).isSome then l else l++[(k,[])]
theorem db(l:List (Str×List Int))(k k':Str):(known l k).lookup k'=if k'=k then some ((l.lookup k).getD []) else l.lookup k':=by
 unfold known
 split
 ·rename_i h
  obtain⟨ns,e⟩:=Option.isSome_iff_exists.mp h
  by_cases q:k'=k
  ·subst q;rw[if_pos rfl,e];rfl
  ·rw[if_neg q]
 ·rename_i h
  rw[cB]
  by_cases q:k'=k
  ·subst q
   have:l.lookup k'=none:=by cases z:l.lookup k' with|none=>rfl|some _=>rw[z]at h;exact absurd rfl h
   rw[if_pos rfl,this];simp[List.lookup]
  ·have e:(k'==k)=false:=by simpa using q
   rw[if_neg q];simp[List.lookup,e]
noncomputable def aR(num:Int)(tn:List (Str×List Int)×List (Str×List Int))(s:Str):List (Str×List Int)×List (Str×List Int):=
 if (tn.1.lookup s).isSome then(b9 tn.1 s num,tn.2) else(tn.1,b9 (known tn.2 s) s num)
noncomputable def addG(g:GR)(name:Str)(syms:List Str)(prec func file line:V):GR:=
 let num:Int:=g.prods.length+1
 let tn:=syms.foldl (aR num) (g.te,known g.no name)
 { g with prods:=g.prods++[{ name:=name,body:=syms,num:=num,prec:=prec,func:=func,file:=file,line:=line }],pn:=if name∈g.pn then g.pn else g.pn++[name],te:=tn.1,no:=tn.2 }
section
variable {W:Wd}{A:Around}{env:Env}{outer:ay}{loc:Loc}{mem R:Mem}{E:Ex W}{F:Frz}{s:Shared}
theorem tr_len{v:V}{C f:Addr}{es:List (Str×V)}{Q:Bool->Loc->Mem->Prop}(I:jE W mem v C es)(hb:findIn W.K (.ref C) "__bool__" = some none)(hs:findIn W.K (.ref C) "__len__" = some (some (.ref f)))(hf:isFn W.K (.ref f)=true)
  (h:OpV W A.in1 env outer (fun vs=>call (.ref f) vs) [v] loc mem (fun r l m=>∃ n:Int,r = .int n/\0≤n/\n<2 ^ 63/\Q (n != 0) l m) E) :
  OpB W A env outer (fun|[x]=>truthy x|_=>pure false) [v] loc mem Q E:=op1 fun R F s v' S r=>by
 obtain⟨x,d,od,kvs,rfl,J,hd,rp⟩:=I.at S r
 have X:=S.kin
 show wpAny _ A (truthy (.ref x)) _ _ _
 unfold truthy
 refine wpAny_bind (m:=callSpecial? (.ref x) (Str.ofString "__bool__")) (wpAny_bind (wpAny_bind (J.type.here ((looks_findIn X hb).here (wpAny_pure ?_)))))
 refine wpAny_bind (wpAny_bind (J.type.here ((looks_findIn X hs).here ?_)))
 refine wpAny_bind (wpAny_mono (wpAny_runValue (Q:=fun r s'=>∃ n t,r = .int n t/\aE W env outer (fun _ (b c:Bool)=>c=b) R F Q (n != 0) s') (codeAny_builtin entry_len ?_)) (fun r s' hr=>?_) fun _ _ e=>e)
 ·rw[Around.under_plainId plain_len _]
  unfold Builtin.«len»
  refine wpAny_bind (m:=oneArg "len" _) (wpAny_pure ?_)
  refine wpAny_bind (m:=callSpecial? (.ref x) (Str.ofString "__len__")) (special_fn X J hs (beq_iff_eq.mp hf) (wpAny_mono (h R F s [_] S (.cons r .nil)) (fun r s' hr=>?_) fun _ _ y=>y))
  obtain⟨F',y,l,m,i,ry,S',n,rfl,h0,h1,q⟩:=hr
  obtain⟨_,rfl⟩:=ry.isInt
  refine wpAny_bind (wpAny_holding (wpAny_pure ?_))
  refine wpAny_bind (wpAny_letGo ?_)
  show wpAny _ _ (if n<0 then _ else _) _ _ _
  rw[if_neg (by lia)]
  show wpAny _ _ (if n≥2 ^ 63 then _ else _) _ _ _
  rw[if_neg (by lia)]
  refine wpAny_bind (wpAny_mkInt (wpAny_pure ?_))
  exact⟨n,_,rfl,F',_,l,m,i,rfl,S'.tick,q⟩
 ·obtain⟨n,t,rfl,p⟩:=hr
  exact wpAny_pure p
theorem aU.in1{d u:Nat}(c:aU A d u):aU A.in1 (d+1) (u+1):=by
 obtain⟨a,b,c,e⟩:=c
 constructor
 ·exact a
 ·exact b
 ·show A.in1.depth≤d+1
  simp[Around.in1];lia
 ·show A.in1.units≤u+1
  simp[Around.in1];lia
end
section
variable {W:Wd}{A:Around}{env:Env}{outer:ay}{loc:Loc}{mem R:Mem}{E:Ex W}{F:Frz}{s:Shared}
inductive ib(W:Wd)(A:Around)(env:Env)(outer:ay)(loc:Loc)(mem:Mem)(E:Ex W):Nat->V->Prop
 | str {x:Str}:x.length≤20000->ib W A env outer loc mem E 115 (.str x)
 | rep {x:Str}:x.length≤20000->(reprText x).length≤20000->ib W A env outer loc mem E 114 (.str x)
 | int {n:Int}:0≤n->n<10 ^ 10->ib W A env outer loc mem E 100 (.int n)
 | own {v:V} {C f:Addr} {es:List (Str×V)}:jE W mem v C es->findIn W.K (.ref C) "__str__" = some (some (.ref f))->isFn W.K (.ref f)=true->A.units<cLine->
   (OpV W A env outer (fun vs=>call (.ref f) vs) [v] loc mem (fun r l m=>l=loc/\m=mem/\∃ x,r = .str x/\x.length≤20000) E)->ib W A env outer loc mem E 115 v
inductive gI(W:Wd)(A:Around)(env:Env)(outer:ay)(loc:Loc)(mem:Mem)(E:Ex W):List Nat->List V->Prop
 | nil:gI W A env outer loc mem E [] []
 | cons {c:Nat} {v:V} {cs:List Nat} {vs:List V}:ib W A env outer loc mem E c v->gI W A env outer loc mem E cs vs->gI W A env outer loc mem E (c::cs) (v::vs)
inductive InSim(W:Wd)(env:Env)(outer:ay)(loc:Loc)(mem R:Mem)(F:Frz)(s:Shared):Prop
 | mk (F':Frz) (i:aV F F') (S:Sim W env outer loc mem R F' s)
theorem ib.ok{c:Nat}{v:V}{v':Value}(h:ib W A env outer loc mem E c v)(r:VR W F v v'):ju (model W.prog W.w) A (E.p R F) (InSim W env outer loc mem R F) c v':=by
 unfold ju
 cases h with
 | int h0 h1=>rw[if_pos rfl];obtain⟨_,rfl⟩:=r.isInt;exact⟨_,_,rfl,h0,h1⟩
 | str hz=>
  rw[if_neg (by decide)]
  obtain⟨_,rfl⟩:=r.isStr
  exact⟨fun s Q hI h=>wpAny_of_eq (KPc.strOf_str _ _) (h _ _ _ hz hI),fun e=>absurd e (by decide)⟩
 | rep hz hr=>
  rw[if_neg (by decide)]
  obtain⟨_,rfl⟩:=r.isStr
  exact⟨fun s Q hI h=>wpAny_of_eq (KPc.strOf_str _ _) (h _ _ _ hz hI),fun _=>⟨_,_,rfl,hr⟩⟩
 | own I hs hf hu ho=>
  rw[if_neg (by decide)]
  refine⟨fun s Q hI h=>?_,fun e=>absurd e (by decide)⟩
  obtain⟨F1,i,S⟩:=hI
  obtain⟨x,d,od,kvs,rfl,J,hd,rp⟩:=I.at S (r.mono i)
  have X:=S.kin
  unfold Builtin.Str.strOf
  refine wpAny_ite (KPc.ite_no Bool.false_ne_true ?_)
  refine wpAny_bind (wpAny_cRoomFor hu ?_)
  refine wpAny_bind (m:=callSpecial? (.ref x) (Str.ofString "__str__")) (special_fn X J hs (beq_iff_eq.mp hf) (wpAny_mono (ho R F1 s [_] S (.cons (r.mono i) .nil)) (fun r s' hr=>?_) fun _ _ e=>E.up i e))
  obtain⟨F2,y,l,m,i2,ry,S',rfl,rfl,z,rfl,hz⟩:=hr
  obtain⟨_,rfl⟩:=ry.isStr
  refine wpAny_bind (wpAny_of_eq (a:=some _) rfl ?_)
  exact wpAny_pure (h _ _ _ hz ⟨F2,i.trans i2,S'⟩)
theorem gI.ok{cs:List Nat}{xs:List V}{vs:List Value}(h:gI W A env outer loc mem E cs xs)(r:VRs W F xs vs):fN (model W.prog W.w) A (E.p R F) (InSim W env outer loc mem R F) cs vs:=by
 induction h generalizing vs with
 | nil=>obtain rfl:=r.isNil;exact .nil
 | cons h _ ih=>
  obtain⟨_,_,r1,r2,rfl⟩:=r.isCons
  exact .cons (h.ok r1) (ih r2)
theorem fX{fmt:Str}{xs:List V}{cs:List Nat}{Q:V->Loc->Mem->Prop}(hf:g6 fmt.cps.toList=true)(hz:fmt.length≤100)(hc:fmC fmt.cps.toList=cs)(hx:gI W A.in1 env outer loc mem E cs xs)(h:∀ z,z.length≤3000000->Q (.str z) loc mem) :
  OpV W A env outer (fun|[x,y]=>binaryOp .Mod x y|_=>pure .none) [.str fmt,.tup xs] loc mem Q E:=op2 fun R F s v u S r1 r2=>by
 obtain⟨_,rfl⟩:=r1.isStr
 cases r2.view with
 | @tup a vs n fa q=>
  have ht:IsTup s.heap a vs:=⟨_,S.frz _ _ fa,rfl,n,rfl⟩
  have hT:s.TypeIs (.ref a) "tuple":=by
   obtain⟨o,ho,hc,_⟩:=ht
   exact⟨o,ho,hc⟩
  have hx:=hx.ok (R:=R) q
  rw[<-hc]at hx
  refine KPt.bin_left (T:="str") (U:="tuple") (op:=.Mod) (by decide) (typeIs_str s _ _) hT PySem.F.fills_str_mod KPt.fills_tuple PySem.F.slot_str_mod ?_
  refine wpAny_call (codeAny_call_builtin PySem.F.slot_str_mod.plain PySem.F.entry_str_mod (PySem.F.slot_str_mod.check _ _ _ _ _ _ _ _ (typeIs_str s _ _) (PySem.F.args_str_mod_2 _ _) ?_))
  exact pct_any _ fmt a vs (fun s k ⟨F',i,S⟩=>⟨F',i,S.tick⟩) hf hz hx ht ⟨F,aV.refl F,S⟩ fun z t s' hz ⟨F',i,S'⟩=>⟨(fun e=>nomatch e),F',.str z,loc,mem,i,.str _ _,S',h z hz⟩
end
noncomputable def mf(x:Str)(lo hi:Option Int):Str:=if (Builtin.Str.strSliceIndices lo hi 1 x.length).length==x.length then x else⟨((Builtin.Str.strSliceIndices lo hi 1 x.length).filterMap (x.cps[·]?)).toArray⟩
section
variable {W:Wd}{A:Around}{env:Env}{outer:ay}{loc:Loc}{mem R:Mem}{E:Ex W}{F:Frz}{s:Shared}
theorem j4{x:Str}{lo hi:Option Int}{Q:V->Loc->Mem->Prop}(hz:(mf x lo hi).length≤sizeLine)(h:Q (.str (mf x lo hi)) loc mem) :
  ir W A env outer (.str x) lo hi loc mem Q E:=fun R F s o' l' u' sl S r pl pu hs=>by
 cases r.view with
 | str t=>
  obtain⟨l,rfl,hl⟩:∃ l:Option (Int×Tok),l'=partValue l/\lo=l.map (·.1):=by
   cases pl with
   | none=>exact⟨none,rfl,rfl⟩
   | int i t=>exact⟨some (i,t),rfl,rfl⟩
  obtain⟨u,rfl,hu⟩:∃ l:Option (Int×Tok),u'=partValue l/\hi=l.map (·.1):=by
   cases pu with
   | none=>exact⟨none,rfl,rfl⟩
   | int i t=>exact⟨some (i,t),rfl,rfl⟩
  subst hl hu
  refine wpAny_getItem_str_slice (l:=l) (u:=u) (st:=none) hs rfl ?_
  unfold mf at h hz
  unfold sliceMade slicePicked
  show Made.post (if ((1:Int)==1&&_)=true then _ else _) _ s
  rw[show((1:Int)==1)=true from rfl,Bool.true_and]
  show Made.post (if ((Builtin.Str.strSliceIndices (l.map (·.1)) (u.map (·.1)) 1 x.length).length==x.length)=true then _ else Made.str ⟨((Builtin.Str.strSliceIndices (l.map (·.1)) (u.map (·.1)) 1 x.length).filterMap (x.cps[·]?)).toArray⟩) _ s
  split
  ·rename_i e
   rw[if_pos e]at h
   exact aE.mk (.str _ _) S h
  ·rename_i e
   rw[if_neg e]at h hz
   exact⟨hz,aE.mk (.str _ _) S.tick h⟩
end
noncomputable def c8(A:Around)(env:Env)(outer:ay):Prop:=
 ∃ envs,A.frames=some (env::envs)/\env.frame=some env.locals/\env.scope.kind = .function/\∀ e∈envs,e.scope.kind≠.module/\∃ q∈outer,e.frame=some q.1
structure fA(env:Env)(outer:ay)(mem R:Mem)(F:Frz)(B h:Heap):Prop where
 frz:∀ a o,F a o->B.get? a=some o
 own:∀ a x,mun mem R a=some x->∃ o,B.get? a=some o
 stays:B.StaysIn h
 here:B.get? env.locals=none
 outs:∀ q∈outer,B.get? q.1=none
noncomputable def Flight(env:Env)(B h:Heap)(e:Addr)(cls:Value):Prop:=
 (∃ oe vs a0,h.get? e=some oe/\oe.cls=cls/\oe.data = .fields vs/\vs[1]? = some .none/\vs[0]? = some a0)\/∃ a0 fl,h.TracedAtW B e cls a0 fl/\(fl = .none\/fl=rawInt env.locals)
structure bA(W:Wd)(env:Env)(outer:ay)(loc:Loc)(mem R:Mem)(F:Frz)(s:Shared)(e:Addr)(cls:Value):Prop where
 sim:Sim W env outer loc mem R F s
 fly:∃ B,fA env outer mem R F B s.heap/\B.get? e=none/\Flight env B s.heap e cls
section
variable {W:Wd}{A:Around}{env:Env}{outer:ay}{loc:Loc}{mem R:Mem}{E:Ex W}{F:Frz}{s:Shared}{B:Heap}
theorem c8.deeper{env':Env}{m0:Str->Option Value}(f:c8 A env outer)(h1:env'.frame=some env'.locals)(h2:env'.scope.kind = .function):c8 (A.deeper env') env' ((env.locals,m0)::outer):=by
 obtain⟨envs,hf,hl,hk,ho⟩:=f
 refine⟨env::envs,Around.frames_deeper hf,h1,h2,fun e he=>?_⟩
 rcases List.mem_cons.mp he with rfl|he
 ·exact⟨by rw[hk];decide,_,.head _,hl⟩
 ·obtain⟨a,q,hq,b⟩:=ho e he
  exact⟨a,q,.tail _ hq,b⟩
theorem c8.fun{outs:ay}(f:c8 A env outer)(S:Sim W env outer loc mem R F s)(h1:B.get? env.locals=none)(h2:∀ q∈outer,B.get? q.1=none):∃ envs,A.frames=some (env::envs)/\env.frame=some env.locals/\s.heap.FunFrames B (env::envs):=by
 obtain⟨envs,hf,hl,hk,ho⟩:=f
 refine⟨envs,hf,hl,by rw[hk];decide,?_,?_⟩
 ·obtain⟨m,⟨o,es,ep,e,hd,_⟩,_⟩:=S.ns
  exact⟨_,o,hl,h1,e,fun vs q=>by rw[hd]at q;cases q⟩
 ·clear hf
  induction envs with
  | nil=>trivial
  | cons e l ih=>
   obtain⟨a,q,hq,b⟩:=ho e (.head _)
   obtain⟨o,es,ep,e1,hd,_⟩:=(S.z.outs q hq).1
   exact⟨a,⟨_,o,b,h2 q hq,e1,fun vs z=>by rw[hd]at z;cases z⟩,ih fun e he=>ho e (.tail _ he)⟩
theorem Sim.slots{h':Heap}{t:Nat}(S:Sim W env outer loc mem R F s)(U:fA env outer mem R F B s.heap)(hs:B.StaysIn h')(up:s.heap.UpToSlots h'):Sim W env outer loc mem R F { s with heap:=h',toks:=t }:=by
 have ns:∀ {a m},s.heap.Ns a m->h'.Ns a m:=fun {a m} ⟨o,es,ep,e,hd,r⟩=>by
  obtain⟨sl,e'⟩:=up a o e fun vs q=>by rw[hd]at q;cases q
  exact⟨_,es,ep,e',hd,r⟩
 refine⟨S.dis,{
  frz:=fun a o h=>hs _ _ (U.frz a o h)
  base:=S.z.base
  memF:=S.z.memF
  memOk:=fun a x h=>?_
  ns:=let ⟨m,n,l⟩:=S.z.ns;⟨m,ns n,l⟩
  nsF:=S.z.nsF
  outs:=fun q hq=>let ⟨n,r⟩:=S.z.outs q hq;⟨ns n,r⟩
  low:=S.z.low
  memLow:=S.z.memLow
  gens:=S.z.gens
  os:=S.z.os }⟩
 obtain⟨o,e,r⟩:=S.z.memOk a x h
 obtain⟨o',e'⟩:=U.own a x h
 have:=U.stays _ _ e'
 rw[e]at this;cases this
 exact⟨o,hs _ _ e',r⟩
theorem fA.stay{h h':Heap}(U:fA env outer mem R F B h)(hs:B.StaysIn h'):fA env outer mem R F B h':=⟨U.frz,U.own,hs,U.here,U.outs⟩
theorem Sim.raised{h':Heap}{e:Addr}{X:String}{t:Nat}(S:Sim W env outer loc mem R F s)(n:Heap.NewExc s.heap h' e X):bA W env outer loc mem R F { s with heap:=h',toks:=t } e (.type X):=by
 refine⟨S.grow n.keeps,PyProof.Rows.TI.gone s.heap (env.locals::outer.map (·.1)),⟨fun a o h=>?_,fun a x h=>?_,fun b o h=>n.keeps _ _ (PyProof.Rows.TI.gone_some h).2,PyProof.Rows.TI.gone_none (.head _),fun q hq=>PyProof.Rows.TI.gone_none (.tail _ (List.mem_map.mpr ⟨q,hq,rfl⟩))⟩,?_,?_⟩
 ·rw[PyProof.Rows.TI.gone_get]
  ·exact S.frz a o h
  ·intro hm
   rcases List.mem_cons.mp hm with rfl|hm
   ·exact S.z.nsF.1 o h
   ·obtain⟨q,hq,rfl⟩:=inM hm
    exact(S.z.outs q hq).2.1 o h
 ·obtain⟨o,ho,_⟩:=S.z.memOk a x h
  refine⟨o,?_⟩
  rw[PyProof.Rows.TI.gone_get]
  ·exact ho
  ·intro hm
   rcases List.mem_cons.mp hm with rfl|hm
   ·have:=S.z.nsF.2;rw[h]at this;cases this
   ·obtain⟨q,hq,rfl⟩:=inM hm
    have:=(S.z.outs q hq).2.2.1;rw[h]at this;cases this
 ·cases q:(PyProof.Rows.TI.gone s.heap (env.locals::outer.map (·.1))).get? e with
  | none=>rfl
  | some o=>have:=(PyProof.Rows.TI.gone_some q).2;rw[n.new]at this;cases this
 ·obtain⟨ob,tp,he,hc,hd⟩:=n.there
  exact .inl ⟨ob,_,tp,he,hc,hd,rfl,rfl⟩
theorem bA.note{e:Addr}{cls:Value}{Q:Unit->Shared->Prop}{Ev:Value->Shared->Prop}(f:c8 A env outer)(x:bA W env outer loc mem R F s e cls)
  (h:∀ h' B,Sim W env outer loc mem R F { s with heap:=h' }->fA env outer mem R F B h'->B.get? e=none->(∃ a0,h'.TracedAtW B e cls a0 (rawInt env.locals))->Q () { s with heap:=h' }):wpAny (model W.prog W.w) A (noteFrame (.ref e) env) Q Ev s:=by
 obtain⟨S,B,U,hB,fl⟩:=x
 obtain⟨envs,hf,hl,ff⟩:=f.fun (outs:=outer) S U.here U.outs
 rcases fl with⟨oe,vs,a0,he,hc,hd,h1,h0⟩|⟨a0,fl,ht,rfl|rfl⟩
 ·unfold noteFrame
  simp only [hl]
  refine wpAny_bind (wpAny_field he hd h1 ?_)
  rw[if_neg (by decide)]
  refine wpAny_entryW (a0:=a0) hf ff hl he U.stays hB hd (Array.getElem?_eq_some_iff.mp h1).1 h0 fun h' hN=>?_
  obtain⟨n1,n2,n3,n4⟩:=hN
  exact h h' B (S.slots (t:=s.toks) U n1 n4) (U.stay n1) hB ⟨a0,by rw[<-hc];exact n3⟩
 ·refine wpAny_noteFrame_onW hf ff hl ht U.stays hB fun h' hN=>?_
  obtain⟨n1,n2,n3,n4⟩:=hN
  exact h h' B (S.slots (t:=s.toks) U n1 n4) (U.stay n1) hB ⟨a0,n3⟩
 ·refine wpAny_noteFrame_againW hl ht ?_
  exact h s.heap B S U hB ⟨a0,ht⟩
theorem bA.land{e:Addr}{cls a0 fl:Value}{Q:Unit->Shared->Prop}{Ev:Value->Shared->Prop}(f:c8 A env outer)(S:Sim W env outer loc mem R F s)(U:fA env outer mem R F B s.heap)(hB:B.get? e=none)(ht:s.heap.TracedAtW B e cls a0 fl){A':Around}
  (h:∀ h',Sim W env outer loc mem R F { s with heap:=h' }->fA env outer mem R F B h'->h'.TracedAtW B e cls a0 .none->Q () { s with heap:=h' }):wpAny (model W.prog W.w) A' (setFlight (.ref e) none) Q Ev s:=by
 obtain⟨envs,hf,hl,ff⟩:=f.fun (outs:=outer) S U.here U.outs
 refine wpAny_setFlight_noneW U.stays ff ht fun h' k1 k2 k3 k4=>?_
 exact h h' (S.slots (t:=s.toks) U k1 fun b o hb hn=>⟨o.slots,k4 b o hb hn⟩) (U.stay k1) k3.at
noncomputable def exX(W:Wd)(env:Env)(outer:ay)(X:Value->Loc->Mem->Prop):Ex W where
 p R F v s:=∃ F' l m e cls,v = .ref e/\aV F F'/\bA W env outer l m R F' s e cls/\X cls l m
 mono:=fun l i h=>by
  refine bv fun C_ k_=>?_
  obtain⟨F',lo,m,e,cls,h1,h2,h3,h4⟩:=h
  obtain⟨B,U,r⟩:=h3.fly
  refine k_ ⟨F',lo,m,e,cls,h1,i.trans h2,⟨l.sim h3.sim,B,⟨U.frz,fun a x hx=>?_,U.stays,U.here,U.outs⟩,r⟩,h4⟩
  cases q:m a with
  | some y=>exact U.own a y (bu q)
  | none=>rw[bw q]at hx;exact U.own a x (by rw[bw q];exact l.sub a x hx)
noncomputable def nG(W:Wd)(A:Around)(hd:Option Value)(env:Env)(E:Ex W):Ex W where
 p R F:=notedBy (model W.prog W.w) (A.mark hd) env fun e s'=>cameBackBy (model W.prog W.w) A env (E.p R F) e s'
 mono l i h:=wpAny_mono h (fun _ _ q=>wpAny_mono q (fun _ _ z=>E.mono l i z) fun _ _ z=>E.mono l i z) fun _ _ z=>wpAny_mono z (fun _ _ z=>E.mono l i z) fun _ _ z=>E.mono l i z
theorem pJ{T:String}{x:Str}{body suite:List Stmt}{b₀:Stmt}{np hp pos:Pos}{Q:Fl->Loc->Mem->Prop}(X:Loc->Mem->Prop)(f:c8 A env outer)
  (hexc:isSubtype (.type T) (.type "BaseException")=pure true) (hnt:isSubtype (.type ((Manifest.find? T).elim "type" fun x=>x.metatype)) (.type "tuple")=pure false) (hsub:isSubtype (.type T) (.type T)=pure true)
  (hg:env.globals=mainGlobals) (hb:env.builtins=builtinsNs) (hk:env.scope.kind = .function) (hl:env.kindOf x=some .globalImplicit) (hd:(x==("__debug__" : Str))=false)
  (he:nsIn W.K mainGlobals x=some none) (hv:bootBuiltins x=some (.type T)) (hn:x≠"__name__")
  (h:TrS W A env outer (execs body env) loc mem Q (exX W env outer fun c l m=>c = .type T/\X l m))
  (hh:∀ e l m,X l m->TrS W (A.mark (some (.ref e))) env outer (execs (b₀::suite) env) l m Q (nG W A (some (.ref e)) env E)) :
  TrS W A env outer (exec (.Try body [.ExceptHandler (some (.Name x np)) none (b₀::suite) hp] [] [] pos) env) loc mem Q E:=fun R F s S=>by
 refine wpAny_Try_except (cG (RW:=FR W) (Q:=fun _ _ _=>True) (h R F s S) (fun v s1 hx=>?_) fun f' s1 F1 fl l1 m1 i1 r1 S1 h1=>?_)
 ·obtain⟨F',l,m,e,cls,rfl,i,al,rfl,hX⟩:=hx
  refine al.note f fun h2 B S2 U2 hB ht2=>?_
  obtain⟨a0,ht2⟩:=ht2
  refine bA.land f S2 U2 hB ht2 fun h3 S3 U3 ht3=>?_
  obtain⟨m0,hns,l0⟩:=S3.ns
  have Fr':=S3.fr hns
  have hob:∃ o,h3.get? e=some o/\o.cls = .type T:=by obtain⟨oe,_,_,_,_,q1,⟨q2,_⟩,_⟩:=ht3;exact⟨oe,q1,q2⟩
  refine wpAny_handleBy_builtin (X:=T) (b:=true) hexc hnt hsub (Name_function_global hk hl (loadGlobal_builtin (env:=env) (by rw[hg];exact W.top.g.keeps Fr'.keep) (mg_none_of W.KIn W.top.g he) (by rw[hb];exact W.top.b.keeps Fr'.keep) ((W.top.builtins x hn).trans hv) ⟨rfl,hob,?_⟩) hd)
  rw[if_pos rfl]
  refine bA.land f S3 U3 hB ht3 fun h5 S5 U5 ht5=>?_
  exact cG (RW:=FR W) (Q:=fun _ _ _=>True) (hh e l m hX R F' _ S5) (fun _ _ z=>(nG W A (some (.ref e)) env E).mono (gG.refl R) i z) fun f6 s6 F6 fl6 l6 m6 i6 r6 S6 h6=>⟨F6,fl6,l6,m6,i.trans i6,r6,S6,h6⟩
 ·cases r1 with
  | next=>exact wpAny_execs_nil ⟨F1,.next,l1,m1,i1,.next,S1,h1⟩
  | brk=>exact⟨F1,.brk,l1,m1,i1,.brk,S1,h1⟩
  | cont=>exact⟨F1,.cont,l1,m1,i1,.cont,S1,h1⟩
  | ret r=>exact⟨F1,.ret _,l1,m1,i1,.ret r,S1,h1⟩
theorem kN{a:Addr}{es:List (Str×V)}{ep:Nat}{k:Str}{X:Value->Loc->Mem->Prop}{Q:V->Loc->Mem->Prop}(hm:mem a=some (.dict es ep))(hx:bi es k=none)(hh:A.handled=none)(h:X (.type "KeyError") loc mem) :
  OpV W A env outer (fun|[x,y]=>getItem x y|_=>pure .none) [.ref a,.str k] loc mem Q (exX W env outer X):=op2 fun R F s v u S r1 r2=>
 ik S hm hx hh r1 r2 fun h' e t n=>⟨F,loc,mem,e,_,rfl,aV.refl F,S.raised n,h⟩
theorem qb{a:Addr}{es:List (Str×V)}{ep:Nat}{k:Str}{X:Value->Loc->Mem->Prop}{Q:V->Loc->Mem->Prop}(hm:mem a=some (.dict es ep))(hx:bi es k=none)(hh:A.handled=none)(h:X (.type "KeyError") loc mem) :
  ∃ T id,Ty mem (.ref a) T/\typeLookup (.type T) "__getitem__" = pure (some (.builtin id))/\OpV W A env outer (fun|[x,y]=>getItem x y|_=>pure .none) [.ref a,.str k] loc mem Q (exX W env outer X):=
 ⟨_,_,.dict hm,PySem.F.slot_dict_getitem.lookup,kN hm hx hh h⟩
end
noncomputable def dg(W:Wd)(env:Env)(outer:ay)(E:Ex W)(c:Value)(l:Loc)(m:Mem):Prop:=
 ∀ R F s e,bA W env outer l m R F s e c->E.p R F (.ref e) s
section
variable {W:Wd}{A:Around}{env:Env}{outer:ay}{loc:Loc}{mem R:Mem}{E:Ex W}{F:Frz}{s:Shared}{c:Value}
theorem eG{X:Value->Loc->Mem->Prop}(h:X c loc mem):dg W env outer (exX W env outer X) c loc mem:=fun R F s e a=>⟨F,loc,mem,e,c,rfl,aV.refl F,a,h⟩
theorem bA.of{B:Heap}{e:Addr}{a0:Value}(S:Sim W env outer loc mem R F s)(U:fA env outer mem R F B s.heap)(hB:B.get? e=none){fl:Value}(ht:s.heap.TracedAtW B e c a0 fl)(hf:fl = .none\/fl=rawInt env.locals):bA W env outer loc mem R F s e c:=
 ⟨S,B,U,hB,.inr ⟨a0,fl,ht,hf⟩⟩
theorem bA.on{M:Model}{B:Heap}{e:Addr}{a0 fl:Value}{Q:Unit->Shared->Prop}{Ev:Value->Shared->Prop}{A':Around}(S:Sim W env outer loc mem R F s)(U:fA env outer mem R F B s.heap)(hB:B.get? e=none)(ht:s.heap.TracedAtW B e c a0 fl)
  (hl:env.frame=some env.locals) (f:∃ envs,s.heap.FunFrames B envs) (h:∀ h',bA W env outer loc mem R F { s with heap:=h' } e c->Q () { s with heap:=h' }):wpAny M A' (setFlight (.ref e) env.frame) Q Ev s:=by
 obtain⟨envs,ff⟩:=f
 rw[hl]
 obtain⟨oe,vs,T,oT,ts,he,hcls,hd,h1,hnT,hTe,hT,hdT,h3⟩:=ht
 have hsz3:3<ts.size:=(Array.getElem?_eq_some_iff.mp h3).1
 unfold setFlight
 refine wpAny_bind (wpAny_field he hd h1 ?_)
 rw[if_pos (show(Value.ref T != Value.none)=true from by simp)]
 have ot:∀ b,b≠T->(s.heap.update T (Obj.mapFields (·.setIfInBounds 3 ((some env.locals).elim Value.none fun f=>rawInt f)))).get? b=s.heap.get? b:=
  fun b hb=>Heap.get?_update_other _ _ (Ne.symm hb)
 have nr:∀ b o,s.heap.get? b=some o->(∀ vs,o.data≠.fields vs)->b≠T:=fun b o hb hn q=>by
  rw[q,hT]at hb;cases hb;exact hn ts hdT
 have st:B.StaysIn (s.heap.update T (Obj.mapFields (·.setIfInBounds 3 ((some env.locals).elim Value.none fun f=>rawInt f)))):=
  fun b o hb=>(ot b fun q=>by rw[q,hnT]at hb;cases hb).trans (U.stays b o hb)
 refine wpAny_setField hT hdT hsz3 (h _ (.of (a0:=a0) (fl:=rawInt env.locals) (S.slots (t:=s.toks) U st fun b o hb hn=>⟨o.slots,(ot b (nr b o hb hn)).trans hb⟩) (U.stay st) hB ?_ (.inr rfl)))
 exact⟨oe,vs,T,_,_,(ot e (Ne.symm hTe)).trans he,hcls,hd,h1,hnT,hTe,Heap.get?_update_self _ hT (Obj.isFreed_of_fields (Obj.data_mapFields hdT _)),Obj.data_mapFields hdT _,by simp[hsz3]⟩
theorem bA.come{A':Around}{B:Heap}{e:Addr}{a0 fl:Value}{Ev:Value->Shared->Prop}(f:c8 A env outer)(S:Sim W env outer loc mem R F s)(U:fA env outer mem R F B s.heap)(hB:B.get? e=none)(ht:s.heap.TracedAtW B e c a0 fl)
  (h:∀ h',bA W env outer loc mem R F { s with heap:=h' } e c->Ev (.ref e) { s with heap:=h' }):cameBackBy (model W.prog W.w) A' env Ev (.ref e) s:=by
 obtain⟨envs,hf,hl,ff⟩:=f.fun (outs:=outer) S U.here U.outs
 obtain⟨oe,vs,T,oT,ts,he,hcls,hd,h1,r⟩:=id ht
 unfold cameBackBy
 refine wpAny_bind (wpAny_field he hd h1 ?_)
 rw[if_neg (show ¬ ((Value.ref T==Value.none)=true) from by simp)]
 first
  | exact wpAny_bind (wpAny_pure (bA.on S U hB ht hl ⟨_,ff⟩ h))
  | exact bA.on S U hB ht hl ⟨_,ff⟩ h
theorem qM(f:c8 A env outer)(h:dg W env outer E c loc mem):dg W env outer (di W A env E) c loc mem:=fun R F s e a=>by
 refine a.note f fun h2 B S2 U2 hB ht=>?_
 obtain⟨a0,ht⟩:=ht
 exact bA.come (s:={ s with heap:=h2 }) f S2 U2 hB ht fun h' a=>h R F _ e a
theorem bA.leave{env':Env}{m:Str->Option Value}{loc':Loc}{mem' R':Mem}{F':Frz}{s':Shared}{e:Addr}{Q:Unit->Shared->Prop}{Ev:Value->Shared->Prop}(S:Sim W env outer loc mem R F s)(l:cz W F loc m)(i:aV F F')
  (f:c8 A env' ((env.locals,m)::outer)) (x:bA W env' ((env.locals,m)::outer) loc' mem' R' F' s' e c) (h:∀ h',bA W env outer loc mem' R' F' { s' with heap:=h' } e c->Q () { s' with heap:=h' }):wpAny (model W.prog W.w) A (leaving env' (.ref e)) Q Ev s':=by
 unfold leaving
 refine wpAny_bind (x.note f fun h2 B S2 U2 hB ht=>?_)
 obtain⟨a0,ht⟩:=ht
 refine bA.land (s:={ s' with heap:=h2 }) f S2 U2 hB ht fun h3 S3 U3 ht3=>h h3 (.of (a0:=a0) (fl:=.none) ⟨S3.dis,S.z.leave l i S3.z⟩ ⟨U3.frz,U3.own,U3.stays,U3.outs _ (.head _),fun q hq=>U3.outs _ (.tail _ hq)⟩ hB ht3 (.inl rfl))
noncomputable def BodyX(W:Wd)(A:Around)(env:Env)(outer:ay)(qual:Str)(scope:Scope)(body:List Stmt)(cdv:Value)(f:Addr)(bs:Loc)(mem:Mem)(Q:V->Mem->Prop)(X:Value->Mem->Prop):Prop:=
 ∀ (L:Addr) (m0:Str->Option Value),c8 (A.deeper (envX qual scope L f cdv [])) (envX qual scope L f cdv []) ((env.locals,m0)::outer)->TrS W (A.deeper (envX qual scope L f cdv [])) (envX qual scope L f cdv []) ((env.locals,m0)::outer) (execs body (envX qual scope L f cdv [])) bs mem
  (fun fl _ m=>∃ m',(∀ a x,m' a=some x->m a=some x)/\Q (nU fl) m') (exX W (envX qual scope L f cdv []) ((env.locals,m0)::outer) fun c _ m=>∃ m',(∀ a x,m' a=some x->m a=some x)/\X c m')
theorem bA.drop{mem':Mem}{e:Addr}(a:bA W env outer loc mem R F s e c)(h:∀ a x,mem' a=some x->mem a=some x):bA W env outer loc mem' R F s e c:=by
 obtain⟨S,B,U,r⟩:=a
 refine⟨S.drop h,B,⟨U.frz,fun b x e=>?_,U.stays,U.here,U.outs⟩,r⟩
 cases q:mem' b with
 | some y=>exact U.own b y (bu (h b y q))
 | none=>
  rw[bw q]at e
  cases q2:mem b with
  | some y=>exact U.own b y (bu q2)
  | none=>exact U.own b x (by rw[bw q2];exact e)
theorem ld{name qual:Str}{params:Arguments}{body:List Stmt}{scope:Scope}{dV kV doc pm cdv ct oc:Value}{an od:Option Addr}{osl:Array (Option Value)}{f:Addr}{xs:List V}{bs:List (Str×V)}{Q:V->Loc->Mem->Prop}
  (ho:W.K.lookup f=some ⟨oc,od,.func (fnOf name qual params body scope dV kV doc pm an cdv ct),osl⟩) (hcd:codeIn W.K cdv qual=true) (hroom:A.depth<recursionLimit) (hf:c8 A env outer)
  (hbind:lW W (fnOf name qual params body scope dV kV doc pm an cdv ct) [] xs bs) (hloc:∀ y∈bs,scope.names.lookup y.1=some .local)
  (hcell:∀ x∈scope.names,x.2≠.cell) (hco:scope.isCoroutine=false) (hgen:scope.isGenerator=false) (hk:scope.kind = .function)
  (h:BodyX W A env outer qual scope body cdv f bs.reverse mem (fun v m=>Q v loc m) (fun c m=>dg W env outer E c loc m)):Op W A env outer (VR W) (fun vs=>call (.ref f) vs) xs loc mem Q E:=fun R F s vs S r=>by
 obtain⟨bv,hb,rb⟩:=hbind F s vs S.base S.kin r
 refine wpAny_call ?_
 obtain⟨m,hn,l⟩:=S.ns
 have hloc':∀ y∈bv,scope.names.lookup y.1=some .local:=fun y hy=>by
  have:y.1∈bs.map (·.1):=rb.keys▸List.mem_map_of_mem hy
  obtain⟨z,hz,e⟩:=inM this
  exact e▸hloc z hz
 refine codeAny_call_def (fd:=fnOf name qual params body scope dV kV doc pm an cdv ct) (body:=body) (binds:=bv) hroom (S.kin _ _ ho) rfl (W.nolim.keeps S.hbase) (codeRec_of S.kin hcd) rfl hb hcell hloc' (fun h₁ hns hk₁=>?_) hco hgen hk
 have S':Sim W (envX qual scope s.heap.objs.size f cdv []) ((env.locals,m)::outer) bs.reverse mem R F { s with heap:=h₁,toks:=s.toks+bv.length }:=
  ⟨S.dis,S.z.enter hn rfl rfl hns hk₁ rb.rev.loc⟩
 have hfd:c8 (A.deeper (envX qual scope s.heap.objs.size f cdv [])) (envX qual scope s.heap.objs.size f cdv []) ((env.locals,m)::outer):=hf.deeper rfl hk
 refine wpAny_mono (h s.heap.objs.size m hfd R F _ S') (fun fl s' hp=>?_) fun e s' he=>?_
 ·obtain⟨F',fl',l',m2,i,r,S2,m',hm',q⟩:=hp
  have S2:=S2.drop hm'
  have S3:Sim W env outer loc m' R F' s':=⟨S2.dis,S.z.leave l i S2.z⟩
  cases r with
  | next=>exact⟨F',.none,loc,m',i,.none,S3,q⟩
  | brk=>exact⟨F',.none,loc,m',i,.none,S3,q⟩
  | cont=>exact⟨F',.none,loc,m',i,.none,S3,q⟩
  | ret r=>exact⟨F',_,loc,m',i,r,S3,q⟩
 ·obtain⟨F',l',m2,e,c,rfl,i,al,m',hm',q⟩:=he
  exact bA.leave S l i hfd (al.drop hm') fun h' a=>E.up i (q R F' _ e a)
end
section
variable {W:Wd}{A:Around}{env:Env}{outer:ay}{loc:Loc}{mem R:Mem}{E:Ex W}{F:Frz}{s:Shared}{x:Str}{C:Addr}{B newId initId:String}{bm:List Value}
theorem Sim.made{h':Heap}{e:Addr}{c:Value}{vs:List Value}(S:Sim W env outer loc mem R F s)(n:Heap.MadeExcOf s.heap h' e c vs):bA W env outer loc mem R F { s with heap:=h' } e c:=by
 refine⟨S.grow n.keeps,PyProof.Rows.TI.gone s.heap (env.locals::outer.map (·.1)),⟨fun a o h=>?_,fun a x h=>?_,fun b o h=>n.keeps _ _ (PyProof.Rows.TI.gone_some h).2,PyProof.Rows.TI.gone_none (.head _),fun q hq=>PyProof.Rows.TI.gone_none (.tail _ (List.mem_map.mpr ⟨q,hq,rfl⟩))⟩,?_,?_⟩
 ·rw[PyProof.Rows.TI.gone_get]
  ·exact S.frz a o h
  ·intro hm
   rcases List.mem_cons.mp hm with rfl|hm
   ·exact S.z.nsF.1 o h
   ·obtain⟨q,hq,rfl⟩:=inM hm
    exact(S.z.outs q hq).2.1 o h
 ·obtain⟨o,ho,_⟩:=S.z.memOk a x h
  refine⟨o,?_⟩
  rw[PyProof.Rows.TI.gone_get]
  ·exact ho
  ·intro hm
   rcases List.mem_cons.mp hm with rfl|hm
   ·have:=S.z.nsF.2;rw[h]at this;cases this
   ·obtain⟨q,hq,rfl⟩:=inM hm
    have:=(S.z.outs q hq).2.2.1;rw[h]at this;cases this
 ·cases q:(PyProof.Rows.TI.gone s.heap (env.locals::outer.map (·.1))).get? e with
  | none=>rfl
  | some o=>have:=(PyProof.Rows.TI.gone_some q).2;rw[n.new]at this;cases this
 ·obtain⟨tp,he,_,_⟩:=n.there
  exact .inl ⟨_,_,.ref tp,he,rfl,rfl,rfl,rfl⟩
theorem s_raise{np cpos pos:Pos}{e₀:PySem.Expr}{rest:List PySem.Expr}{Q:Fl->Loc->Mem->Prop}(FB:ExcBaseFacts B newId initId bm)(hh:A.handled=none)(hg:env.globals=mainGlobals)(hk:env.scope.kind = .function)(hl:env.kindOf x=some .globalImplicit)(hd:(x==("__debug__" : Str))=false)
  (en:nsIn W.K mainGlobals x=some (some (.ref C))) (q:excIn W.K C bm newId=true) (he:starEach (e₀::rest) env=(false,eval e₀ env)::starEach rest env) (hplain:(backTo cpos (starEach rest env)).any (·.1)=false)
  (h:TrL W A env outer (spliced (backTo cpos (starEach (e₀::rest) env))) loc mem (fun xs l m=>xs.length≤sizeLine/\dg W env outer E (.ref C) l m) E) :
  TrS W A env outer (exec (.Raise (some (.Call (.Name x np) (e₀::rest) [] cpos)) none pos) env) loc mem Q E:=fun R F s S=>by
 have O:=own_of_in W.KIn W.top en q
 obtain⟨tl,N,nm,q,bs,hdct,sn,sub,ab,col,dd,k0,k1,k2,k3,k5,mN,hC,hN,hni,T⟩:=O.obj
 obtain⟨m,hn,l⟩:=S.ns
 refine wpAny_Raise_call_subT (C:=C) (nm:=nm) (q:=q) (N:=N) (bs:=bs) (bm:=tl) (hdct:=hdct) (sn:=sn) (sub:=sub) (ab:=ab) (col:=col) (dd:=dd) (k0:=k0) (k1:=k1) (k2:=k2) (k3:=k3) (k5:=k5)
  FB (mN:=mN) (T.hasType FB.hasBase) hh (by rw[he];show(false || (backTo cpos (starEach rest env)).any (·.1))=false;rw[hplain];rfl) hni (nameG_K (S.fr hn) W.KIn W.top en ⟨rfl,?_⟩ hg hk hl hd)
 have h':=h R F s S
 rw[he]at h' ⊢
 refine Calls.evalArgs_plain (aM (i:=.refl _) (RW:=VR W) (Q:=fun _ _ _=>True) h' fun vs s1 F1 xs l1 m1 i1 r1 S1 h1=>?_)
 exact⟨rfl,by show vs.length≤_;rw[r1.length];exact h1.1,S1.hbase _ _ hC,hN.keeps S1.hbase,T.keeps S1.hbase,fun h' e n=>E.up i1 (h1.2 R F1 _ e (S1.made n))⟩
theorem pC{body suite:List Stmt}{b₀:Stmt}{np hp pos:Pos}{Q:Fl->Loc->Mem->Prop}(X:Loc->Mem->Prop)(f:c8 A env outer)(FB:ExcBaseFacts B newId initId bm)(hg:env.globals=mainGlobals)(hk:env.scope.kind = .function)(hl:env.kindOf x=some .globalImplicit)(hd:(x==("__debug__" : Str))=false)
  (en:nsIn W.K mainGlobals x=some (some (.ref C))) (q:excIn W.K C bm newId=true)
  (h:TrS W A env outer (execs body env) loc mem Q (exX W env outer fun c l m=>c = .ref C/\X l m))
  (hh:∀ e l m,X l m->TrS W (A.mark (some (.ref e))) env outer (execs (b₀::suite) env) l m Q (nG W A (some (.ref e)) env E)) :
  TrS W A env outer (exec (.Try body [.ExceptHandler (some (.Name x np)) none (b₀::suite) hp] [] [] pos) env) loc mem Q E:=fun R F s S=>by
 refine wpAny_Try_except (cG (RW:=FR W) (Q:=fun _ _ _=>True) (h R F s S) (fun v s1 hx=>?_) fun f' s1 F1 fl l1 m1 i1 r1 S1 h1=>?_)
 ·obtain⟨F',l,m,e,cls,rfl,i,al,rfl,hX⟩:=hx
  refine al.note f fun h2 B S2 U2 hB ht2=>?_
  obtain⟨a0,ht2⟩:=ht2
  refine bA.land f S2 U2 hB ht2 fun h3 S3 U3 ht3=>?_
  obtain⟨m0,hns,l0⟩:=S3.ns
  have O:=own_of_in W.KIn W.top en q
  obtain⟨tl,N,nm,q,bs,hdct,sn,sub,ab,col,dd,k0,k1,k2,k3,k5,mN,hC,hN,hni,T⟩:=O.obj
  obtain⟨oe,_,_,_,_,q1,⟨q2,_⟩,_⟩:=id ht3
  refine wpAny_handleBy_cons (codeAny_handlers_test (nameG_K (S3.fr hns) W.KIn W.top en (wpAny_excMatches_sub_self (S3.hbase _ _ hC) q1 q2 (T.hasType FB.hasBase) (codeAny_handlers_suite ?_)) hg hk hl hd)) (by intro q;cases q)
  refine bA.land f S3 U3 hB ht3 fun h5 S5 U5 ht5=>?_
  exact cG (RW:=FR W) (Q:=fun _ _ _=>True) (hh e l m hX R F' _ S5) (fun _ _ z=>(nG W A (some (.ref e)) env E).mono (gG.refl R) i z) fun f6 s6 F6 fl6 l6 m6 i6 r6 S6 h6=>⟨F6,fl6,l6,m6,i.trans i6,r6,S6,h6⟩
 ·cases r1 with
  | next=>exact wpAny_execs_nil ⟨F1,.next,l1,m1,i1,.next,S1,h1⟩
  | brk=>exact⟨F1,.brk,l1,m1,i1,.brk,S1,h1⟩
  | cont=>exact⟨F1,.cont,l1,m1,i1,.cont,S1,h1⟩
  | ret r=>exact⟨F1,.ret _,l1,m1,i1,.ret r,S1,h1⟩
theorem qu{T:String}{y:Str}{body suite:List Stmt}{b₀:Stmt}{np hp pos:Pos}{Q:Fl->Loc->Mem->Prop}(f:c8 A env outer)(FB:ExcBaseFacts B newId initId bm)(hT:bm.contains (.type T)=false)
  (hexc:isSubtype (.type T) (.type "BaseException")=pure true) (hnt:isSubtype (.type ((Manifest.find? T).elim "type" fun x=>x.metatype)) (.type "tuple")=pure false)
  (hg:env.globals=mainGlobals) (hb:env.builtins=builtinsNs) (hk:env.scope.kind = .function) (hl:env.kindOf y=some .globalImplicit) (hd:(y==("__debug__" : Str))=false)
  (he:nsIn W.K mainGlobals y=some none) (hv:bootBuiltins y=some (.type T)) (hn:y≠"__name__")
  (en:nsIn W.K mainGlobals x=some (some (.ref C))) (q:excIn W.K C bm newId=true)
  (h:TrS W A env outer (execs body env) loc mem Q (exX W env outer fun c l m=>c = .ref C/\dg W env outer E c l m)) :
  TrS W A env outer (exec (.Try body [.ExceptHandler (some (.Name y np)) none (b₀::suite) hp] [] [] pos) env) loc mem Q E:=fun R F s S=>by
 refine wpAny_Try_except (cG (RW:=FR W) (Q:=fun _ _ _=>True) (h R F s S) (fun v s1 hx=>?_) fun f' s1 F1 fl l1 m1 i1 r1 S1 h1=>?_)
 ·obtain⟨F',l,m,e,cls,rfl,i,al,rfl,hX⟩:=hx
  refine al.note f fun h2 B S2 U2 hB ht2=>?_
  obtain⟨a0,ht2⟩:=ht2
  refine bA.land f S2 U2 hB ht2 fun h3 S3 U3 ht3=>?_
  obtain⟨m0,hns,l0⟩:=S3.ns
  have Fr':=S3.fr hns
  have O:=own_of_in W.KIn W.top en q
  obtain⟨tl,N,nm,q,bs,hdct,sn,sub,ab,col,dd,k0,k1,k2,k3,k5,mN,hC,hN,hni,T'⟩:=O.obj
  obtain⟨oe,vs,T0,oT,ts,q1,⟨q2,_⟩,q3,q4,_⟩:=id ht3
  refine wpAny_handleBy_cons (codeAny_handlers_test (Name_function_global hk hl (loadGlobal_builtin (env:=env) (by rw[hg];exact W.top.g.keeps Fr'.keep) (mg_none_of W.KIn W.top.g he) (by rw[hb];exact W.top.b.keeps Fr'.keep) ((W.top.builtins y hn).trans hv) (wpAny_excMatches_sub_type (S3.hbase _ _ hC) q1 q2 hexc hnt ?_)) hd)) (by intro q;cases q)
  rw[T'.hasType hT]
  refine wpAny_handleBy_nil ?_
  unfold PySem.passOn
  refine wpAny_bind (wpAny_field q1 q3 q4 ?_)
  rw[if_neg (show ¬ ((Value.ref T0==Value.none)=true) from by simp)]
  obtain⟨envs,hf,hl2,ff⟩:=f.fun (outs:=outer) S3 U3.here U3.outs
  have fin:wpAny (model W.prog W.w) A (do setFlight (.ref e) env.frame;throw (.ref e):Sem Flow) (fun v s=>aE W env outer (FR W) R F Q v s) (E.p R F) { s1 with heap:=h3 }:=
   wpAny_bind (bA.on (c:=.ref C) S3 U3 hB ht3 hl2 ⟨_,ff⟩ fun h' a=>wpAny_throw (E.up i (hX R F' _ e a)))
  first
   | exact wpAny_bind (wpAny_pure fin)
   | exact fin
 ·cases r1 with
  | next=>exact wpAny_execs_nil ⟨F1,.next,l1,m1,i1,.next,S1,h1⟩
  | brk=>exact⟨F1,.brk,l1,m1,i1,.brk,S1,h1⟩
  | cont=>exact⟨F1,.cont,l1,m1,i1,.cont,S1,h1⟩
  | ret r=>exact⟨F1,.ret _,l1,m1,i1,.ret r,S1,h1⟩
end
noncomputable abbrev dA:Addr:=121
noncomputable def dK(C:Addr)(g:GR)(st:Str):GR:={ g with p0:=.ins C (dq (.int 0) "S'" [st] (.tup [.str "right",.int 0]) .none (.str "") (.int 0)),no:=b9 g.no st 0,start:=.str st }
noncomputable abbrev stE(L:Addr):Env:=envX "Grammar.set_start" setStart.scope L 174 setStart.code []
section
variable {W:Wd}{A:Around}{env:Env}{outer:ay}{loc:Loc}{mem R:Mem}{E:Ex W}{F:Frz}{s:Shared}
theorem gO{np cpos pos:Pos}{e₀:PySem.Expr}{rest:List PySem.Expr}{Q:Fl->Loc->Mem->Prop}(hK:W.K=hdK W.w.params)(hh:A.handled=none)(hg:env.globals=mainGlobals)(hk:env.scope.kind = .function)(hl:env.kindOf ("GrammarError" : Str)=some .globalImplicit)
  (he:starEach (e₀::rest) env=(false,eval e₀ env)::starEach rest env) (hplain:(backTo cpos (starEach rest env)).any (·.1)=false)
  (h:TrL W A env outer (spliced (backTo cpos (starEach (e₀::rest) env))) loc mem (fun xs l m=>xs.length≤sizeLine/\dg W env outer E (.ref dA) l m) E) :
  TrS W A env outer (exec (.Raise (some (.Call (.Name ("GrammarError" : Str) np) (e₀::rest) [] cpos)) none pos) env) loc mem Q E:=
 s_raise PySem.F.excBase_Exception hh hg hk hl (by decide +kernel) (by rw[hK];rfl) (by rw[hK];kernel_rfl) he hplain h
theorem nb{adr:Rl->Addr}{cc:Rl->Option ax}{g:GR}{gm:Mem}{st:Str}{L:Addr}{Q:Fl->Loc->Mem->Prop}(hK:W.K=hdK W.w.params)(cd:aU A 701 6003)(M:dh adr cc gm)(ok:GOk ar aq adr cc g)(hs1:st.cps.size≤100)(hso:PyData.strOk st=true)
  (hr:g.no.lookup st=none->∀ l,dg W (stE L) outer E (.ref dA) l gm) (hnz:∀ ns,g.no.lookup st=some ns->ns.length≤100000) (h:(g.no.lookup st).isSome=true->∀ l m,bL ar aq (dK aq g st) (adr .self) m->Q .next l m) :
  TrS W A (stE L) outer (execs (setStart.body.drop 1) (stE L)) [("self",.ref (adr .self)),("start",.str st)] gm Q E:=by
 obtain⟨epd,hdict⟩:=ok.dict
 obtain⟨epn,hnod⟩:=ok.no
 have hx:=M.get ok.self
 have hd:=M.get hdict
 refine ac ?_;refine bz ?_;refine bD rfl rfl ?_;refine az rfl rfl ?_
 refine aP hK (fun _=>by kernel_rfl) (.own hx hd) rfl rfl ?_
 skip
 refine cC (M.get hnod) ?_
 cases hns:g.no.lookup st with
 | none=>
  have hin:(bi (g.no.map fun q=>(q.1,V.ref (adr (.noL q.1)))) st).isSome=false:=by
   rw[ci g.no (fun k=>V.ref (adr (.noL k))) st,if_neg];rfl
   rw[<-aF,hns];simp
  rw[hin]
  refine aj ?_
  refine bk ?_
  (refine aC ?_;intro qq ee;refine ac ?_)
  refine gO hK cd.handled rfl rfl rfl rfl rfl ?_
  refine aB rfl ?_;refine iH rfl rfl ?_
  refine qG (by decide +kernel) (by decide +kernel) (by decide +kernel) (Nat.le_trans hs1 (by decide)) fun z=>?_
  refine aI ?_
  exact⟨show 1≤sizeLine by decide,hr hns _⟩
 | some ns=>
  have hnl:cc (.noL st)=some (.list (a9 ns)):=by rw[ok.noL,hns];rfl
  have hin:(bi (g.no.map fun q=>(q.1,V.ref (adr (.noL q.1)))) st).isSome=true:=by
   rw[ci g.no (fun k=>V.ref (adr (.noL k))) st,if_pos (by rw[<-aF,hns];rfl)];rfl
  rw[hin]
  refine aj ?_
  refine aT ?_
  refine ak ?_;refine ac ?_;refine bE rfl ?_;refine bq hK (fun _=>rfl) (fun _=>rfl) rfl rfl ?_;refine fe rfl ?_;refine fe rfl ?_;refine aB rfl ?_;refine aW ?_;refine aN rfl ?_
  refine bp (show 1≤sizeLine by decide) ?_
  refine aI ?_
  refine na hK (cd.mono (by decide) (by decide)) (.lst _:Sq _ _ _ (ae [st])) (by simp) (by intro y hy;simp at hy;subst hy;exact⟨hs1,hso⟩) (by decide) rfl ?_
  refine az rfl rfl ?_
  refine aP hK (fun _=>by kernel_rfl) (.own hx hd) rfl rfl ?_
  refine bI ?_
  refine fg (k:=0) (M.get ok.pl) (by simp) (by lia) (fun m1 h1 f1=>?_)
  have M1:=M.set (r:=.pl) ok.pl h1 f1
  refine ac ?_;refine bP rfl rfl ?_;refine cT rfl ?_;refine cN (fun _ _=>rfl) ?_;refine az rfl rfl ?_
  have hx:=M1.get (r:=.self) ok.self
  have hd:=M1.get (r:=.dict) hdict
  refine aP hK (fun _=>by kernel_rfl) (.own hx hd) rfl rfl ?_
  refine pu rfl ?_
  refine dw (x:=.ref (adr (.noL st))) (M1.get (r:=.no) hnod) (by rw[ci g.no (fun k=>V.ref (adr (.noL k))) st,if_pos (by rw[<-aF,hns];rfl)]) ?_
  have hl1:=M1.get (r:=.noL st) hnl
  refine a6 (.list hl1) PySem.F.plainAttrs_list PySem.F.slot_list_append PySem.F.type_list_append rfl rfl ?_
  refine aN rfl ?_
  refine bh hl1 (by simp[a9];exact Nat.le_trans (hnz ns hns) (by decide)) (fun m2 h2 f2=>?_)
  have M2:=M1.set (r:=.noL st) hnl h2 f2
  refine ac ?_;refine a8 rfl rfl rfl ?_
  refine ck hK (fun _=>by kernel_rfl) (M2.get (r:=.self) ok.self) (M2.get (r:=.dict) hdict) rfl (fun m3 ep3 hx3 hd3 f3=>?_)
  have hd3:_=some (ax.dict [((Str.ofString "Productions",Rl.pl).fst,_),((Str.ofString "Prodnames",Rl.pn).fst,_),((Str.ofString "Prodmap",Rl.pm).fst,_),((Str.ofString "Terminals",Rl.te).fst,_),((Str.ofString "Nonterminals",Rl.no).fst,_),((Str.ofString "First",Rl.fi).fst,_),((Str.ofString "Follow",Rl.fo).fst,_),((Str.ofString "Precedence",Rl.pr).fst,_),(Str.ofString "UsedPrecedence",_),((Str.ofString "Start",g.start).fst,_)] _):=hd3
  have M3:=M2.set (r:=.dict) hdict hd3 f3
  refine ak ?_
  refine h (by rw[hns];rfl) _ m3 ⟨_,_,M3,?_,rfl⟩
  have off:∀ (y1 y2 y3:Option ax) (r:Rl),r≠.pl->r≠.noL st->r≠.dict->upd (upd (upd cc .pl y1) (.noL st) y2) .dict y3 r=cc r:=fun y1 y2 y3 r a1 a2 a3=>by rw[ao a3,ao a2,ao a1]
  refine {
   self:=(off _ _ _ _ (by simp) (by simp) (by simp)).trans ok.self
   dict:=⟨ep3,rfl⟩
   pl:=rfl
   pn:=ok.pn.imp fun ep e=>(off _ _ _ _ (by simp) (by simp) (by simp)).trans e
   pnL:=fun k=>(off _ _ _ _ (by simp) (by simp) (by simp)).trans (ok.pnL k)
   pm:=ok.pm.imp fun ep e=>(off _ _ _ _ (by simp) (by simp) (by simp)).trans e
   te:=ok.te.imp fun ep e=>(off _ _ _ _ (by simp) (by simp) (by simp)).trans e
   teL:=fun k=>(off _ _ _ _ (by simp) (by simp) (by simp)).trans (ok.teL k)
   no:=⟨epn,?_⟩
   noL:=fun k=>?_
   fi:=ok.fi.imp fun ep e=>(off _ _ _ _ (by simp) (by simp) (by simp)).trans e
   fiL:=fun k=>(off _ _ _ _ (by simp) (by simp) (by simp)).trans (ok.fiL k)
   fo:=ok.fo.imp fun ep e=>(off _ _ _ _ (by simp) (by simp) (by simp)).trans e
   foL:=fun k=>(off _ _ _ _ (by simp) (by simp) (by simp)).trans (ok.foL k)
   pr:=ok.pr.imp fun ep e=>(off _ _ _ _ (by simp) (by simp) (by simp)).trans e
   up:=(off _ _ _ _ (by simp) (by simp) (by simp)).trans ok.up }
  ·rw[off _ _ _ _ (by simp) (by simp) (by simp),hnod]
   exact congrArg (fun z=>some (ax.dict z epn)) (gp g.no st 0 (fun k=>V.ref (adr (.noL k)))).symm
  ·show _=((b9 g.no st 0).lookup k).map _
   rw[dF]
   by_cases e:k=st
   ·subst e
    rw[if_pos rfl,hns]
    simp[upd,a9]
   ·rw[if_neg e,off _ _ _ _ (by simp) (by simpa using e) (by simp)]
    exact ok.noL k
inductive px(g:GR)(st:Str):List V->V->Prop
 | str:0<st.cps.size->px g st [.str st] (.str st)
 | none {p:Pr} {ps:List Pr}:g.prods=p::ps->p.name=st->px g st [] .none
theorem jr{g:GR}{a:Addr}{gm:Mem}{st:Str}{xs:List V}{sv:V}{Q:V->Loc->Mem->Prop}(hK:W.K=hdK W.w.params)(c:aU A 700 6000)(hf:c8 A env outer)(G:bL ar aq g a gm)(hsv:px g st xs sv)(hs1:st.cps.size≤100)(hso:PyData.strOk st=true)
  (hr:g.no.lookup st=none->dg W env outer E (.ref dA) loc gm) (hnz:∀ ns,g.no.lookup st=some ns->ns.length≤100000) (h:(g.no.lookup st).isSome=true->∀ m,bL ar aq (dK aq g st) a m->Q .none loc m):OpV W A env outer (fun vs=>call (.ref aStart) vs) (.ref a::xs) loc gm Q E:=by
 obtain⟨adr,cc,M,ok,rfl⟩:=G
 refine ld (bs:=[("self",.ref (adr .self)),("start",sv)]) (by rw[hK];exact setStart.at _) (by rw[hK];first|rfl|kernel_rfl|decide +kernel) (c.room (by decide)) hf ?_ (by intro y hy;simp at hy;rcases hy with rfl|rfl<;>rfl) (by decide) rfl rfl rfl ?_
 ·intro F s vs hb hk r
  cases hsv with
  | str=>
   cases r.view with
   | cons r1 r2=>
    cases r2 with
    | cons r2 r3=>
     cases r3
     exact⟨_,binds_K (T:=167) hk rfl (by rw[hK];rfl) rfl rfl rfl,.cons r1 (.cons r2 .nil)⟩
  | none=>
   obtain⟨_,_,r1,r2,rfl⟩:=r.isCons
   cases r2
   exact⟨_,binds_K (T:=167) hk rfl (by rw[hK];rfl) rfl rfl rfl,.cons r1 (.cons .none .nil)⟩
 ·intro L m0 fd
  have cd:=c.deeper (stE L)
  obtain⟨epd,hdict⟩:=ok.dict
  have hx:=M.get ok.self
  have hd:=M.get hdict
  have rest:∀ l,a7 [("self",.ref (adr .self)),("start",.str st)] l->TrS W (A.deeper (stE L)) (stE L) ((env.locals,m0)::outer) (execs (setStart.body.drop 1) (stE L)) l gm (fun fl _ m=>∃ m',(∀ a x,m' a=some x->m a=some x)/\Q (nU fl) loc m') (exX W (stE L) ((env.locals,m0)::outer) fun c _ m=>∃ m',(∀ a x,m' a=some x->m a=some x)/\dg W env outer E c loc m'):=fun l hl=>
   Tr.locs hl (nb hK cd M ok hs1 hso (fun e l=>eG ⟨gm,ah _,hr e⟩) hnz fun e l m G=>⟨m,ah _,h e m G⟩)
  cases hsv with
  | str hs0=>
   (refine bU ?_;intro aa vv oo qq ee;refine ac ?_);refine bz ?_;refine cO ?_;refine be rfl rfl ?_
   refine kJ (by show(st.cps.size:Int)<_;lia) ?_
   have hne:((st.length:Int) != 0)=true:=by
    have:(st.length:Int)≠0:=by show(st.cps.size:Int)≠0;lia
    simpa using this
   rw[hne]
   skip
   refine aT ?_
   refine ak ?_
   exact rest _ rfl
  | @none p ps hp hn=>
   have hpl:=M.get ok.pl
   rw[hp]at hpl
   (refine bU ?_;intro aa vv oo qq ee;refine ac ?_);refine bz ?_;refine cO ?_;refine be rfl rfl ?_;refine gy ?_
   refine bk ?_
   (refine aC ?_;intro qq ee;refine ac ?_);refine aw rfl rfl rfl ?_;refine gU rfl ?_;refine cN (fun _ _=>rfl) ?_;refine az rfl rfl ?_
   refine aP hK (fun _=>by kernel_rfl) (.own hx hd) rfl rfl ?_
   refine bI ?_
   refine cu (k:=1) (x:=pV aq p) (.own hpl) (by decide) (by decide) rfl ?_
   skip
   refine aP hK (fun _=>by kernel_rfl) .frz rfl rfl ?_
   rw[hn]
   refine ak ?_
   exact rest _ rfl
end
structure TN(adr0:Rl->Addr)(c0:Rl->Option ax)(adr:Rl->Addr)(c:Rl->Option ax)(te no:List (Str×List Int)):Prop where
 adrE:∀ r,(∀ k,r≠.noL k)->adr r=adr0 r
 cE:∀ r,(∀ k,r≠.noL k)->(∀ k,r≠.teL k)->r≠.no->c r=c0 r
 hte:∃ ep,c .te=some (.dict (te.map fun q=>(q.1,.ref (adr (.teL q.1)))) ep)
 teL:∀ k,c (.teL k)=(te.lookup k).map fun ns=>.list (a9 ns)
 hno:∃ ep,c .no=some (.dict (no.map fun q=>(q.1,.ref (adr (.noL q.1)))) ep)
 noL:∀ k,c (.noL k)=(no.lookup k).map fun ns=>.list (a9 ns)
variable {adr0 adr:Rl->Addr}{c0 c:Rl->Option ax}{te no:List (Str×List Int)}
theorem TN.pushT{s:Str}{n:Int}{ns:List Int}(T:TN adr0 c0 adr c te no)(h:te.lookup s=some ns):TN adr0 c0 adr (upd c (.teL s) (some (.list (a9 ns++[.int n])))) (b9 te s n) no where
 adrE:=T.adrE
 cE r a b d:=by rw[ao (b s)];exact T.cE r a b d
 hte:=by
  obtain⟨ep,e⟩:=T.hte
  refine⟨ep,?_⟩
  rw[ao (by simp),e]
  exact congrArg (fun z=>some (ax.dict z ep)) (gp te s n (fun k=>V.ref (adr (.teL k)))).symm
 teL k:=by
  rw[dF]
  by_cases e:k=s
  ·subst e;rw[aY,if_pos rfl,h];simp[a9]
  ·rw[ao (by simpa using e),if_neg e];exact T.teL k
 hno:=T.hno.imp fun ep e=>by rw[ao (by simp)];exact e
 noL k:=by rw[ao (by simp)];exact T.noL k
theorem TN.pushN{s:Str}{n:Int}{ns:List Int}(T:TN adr0 c0 adr c te no)(h:no.lookup s=some ns):TN adr0 c0 adr (upd c (.noL s) (some (.list (a9 ns++[.int n])))) te (b9 no s n) where
 adrE:=T.adrE
 cE r a b d:=by rw[ao (a s)];exact T.cE r a b d
 hte:=T.hte.imp fun ep e=>by rw[ao (by simp)];exact e
 teL k:=by rw[ao (by simp)];exact T.teL k
 hno:=by
  obtain⟨ep,e⟩:=T.hno
  refine⟨ep,?_⟩
  rw[ao (by simp),e]
  exact congrArg (fun z=>some (ax.dict z ep)) (gp no s n (fun k=>V.ref (adr (.noL k)))).symm
 noL k:=by
  rw[dF]
  by_cases e:k=s
  ·subst e;rw[aY,if_pos rfl,h];simp[a9]
  ·rw[ao (by simpa using e),if_neg e];exact T.noL k
theorem TN.newN{s:Str}{a:Addr}{ep':Nat}(T:TN adr0 c0 adr c te no)(h:no.lookup s=none) :
  TN adr0 c0 (upd adr (.noL s) a) (upd (upd c (.noL s) (some (.list []))) .no (some (.dict (stA (no.map fun q=>(q.1,.ref (adr (.noL q.1)))) s (.ref a)) ep'))) te (known no s) where
 adrE r hr:=by rw[ao (hr s)];exact T.adrE r hr
 cE r a b d:=by rw[ao d,ao (a s)];exact T.cE r a b d
 hte:=T.hte.imp fun ep e=>by
  rw[ao (by simp),ao (by simp),e]
  refine congrArg (fun z=>some (ax.dict z ep)) (List.map_congr_left fun q _=>?_)
  rw[ao (by simp)]
 teL k:=by rw[ao (by simp),ao (by simp)];exact T.teL k
 hno:=by
  refine⟨ep',?_⟩
  have hg:bi (no.map fun q=>(q.1,V.ref (adr (.noL q.1)))) s=none:=by
   rw[ci no (fun k=>V.ref (adr (.noL k))) s,if_neg]
   rw[<-aF,h];simp
  rw[aY,fQ hg]
  have hk:known no s=no++[(s,[])]:=by unfold known;rw[h];rfl
  rw[hk,List.map_append]
  refine congrArg (fun z=>some (ax.dict z ep')) (congr (congrArg _ (List.map_congr_left fun q hq=>?_)) ?_)
  ·have:q.1≠s:=fun e=>by
    have:=aF no s
    rw[h]at this
    have hc:(no.map (·.1)).contains s=true:=by rw[List.contains_iff_mem];exact List.mem_map.mpr ⟨q,hq,e⟩
    rw[hc]at this;cases this
   rw[ao (by simpa using this)]
  ·simp[upd]
 noL k:=by
  rw[db,ao (by simp)]
  by_cases e:k=s
  ·subst e;rw[aY,if_pos rfl,h];simp[a9]
  ·rw[ao (by simpa using e),if_neg e];exact T.noL k
end Mine
namespace Mine
structure SymOk(s:Str):Prop where
 pos:0<s.cps.size
 size:s.cps.size≤100
 ok:PyData.strOk s=true
 ident:cJ s=true
 noQuote:∀ c,s.cps[0]? = some c->cM ⟨#[c]⟩ "'\"" = false
 noPrec:s≠"%prec"
noncomputable abbrev d7(L:Addr):Env:=envX "Grammar.add_production" addP.scope L aAdd addP.code []
noncomputable abbrev kW(a sy:Addr)(name map:Str)(prec func file line num:V):Loc:=[("self",.ref a),("prodname",.str name),("syms",.ref sy),("func",func),("file",file),("line",line),("prodprec",prec),("map",.str map),("pnumber",num)]
section
variable {W:Wd}{A:Around}{outer:ay}{loc:Loc}{m:Mem}{E:Ex W}{L:Addr}{g:GR}{adr0 adr:Rl->Addr}{c0 cc:Rl->Option ax}{te no:List (Str×List Int)}{sy:Addr}{X:ax}{name map:Str}{prec func file line num:V}
theorem TN.at{r:Rl}{x:ax}(T:TN adr0 c0 adr cc te no)(G:GS adr cc sy X m)(h1:∀ k,r≠.noL k)(h2:∀ k,r≠.teL k)(h3:r≠.no)(h:c0 r=some x):m (adr0 r)=some x:=by
 have:=G.get (r:=r) ((T.cE r h1 h2 h3).trans h)
 rwa [T.adrE r h1]at this
theorem eS{β:Type}{l:List (Str×β)}{f:Str->V}{k:Str}{b:Bool}(h:(l.lookup k).isSome=b):(bi (l.map fun q=>(q.1,f q.1)) k).isSome=b:=by
 rw[ci l f k,<-h,aF];split<;>rename_i z<;>simp_all
theorem lookB{β:Type}{l:List (Str×β)}{f:Str->V}{k:Str}(h:(l.lookup k).isSome=true):bi (l.map fun q=>(q.1,f q.1)) k=some (f k):=by
 rw[ci l f k,if_pos (by rw[<-aF];exact h)]
theorem pk{Q:Fl->Loc->Mem->Prop}(hK:W.K=hdK W.w.params)(ok:GOk ar aq adr0 c0 g)(G:GS adr cc sy X m)(T:TN adr0 c0 adr cc te no)(hl:a7 (kW (adr0 .self) sy name map prec func file line num) loc)(hz:no.length≤1000000)
  (h:∀ l m adr1 cc1,a7 (kW (adr0 .self) sy name map prec func file line num) l->GS adr1 cc1 sy X m->TN adr0 c0 adr1 cc1 te (known no name)->Q .next l m) :
  TrS W A (d7 L) outer (exec (addP.body.getD 8 (.Pass ⟨0,0,0,0⟩)) (d7 L)) loc m Q E:=by
 refine Tr.locs hl ?_
 obtain⟨epd,hdict⟩:=ok.dict
 have hx:=T.at G (by simp) (by simp) (by simp) ok.self
 have hd:=T.at G (by simp) (by simp) (by simp) hdict
 obtain⟨epn,hnod⟩:=T.hno
 have hno:=G.get hnod
 rw[T.adrE .no (by simp)]at hno
 refine bz ?_;refine bD rfl rfl ?_;refine az rfl rfl ?_
 refine aP hK (fun _=>by kernel_rfl) (.own hx hd) rfl rfl ?_
 skip
 refine cC hno ?_
 cases q:(no.lookup name).isSome with
 | true=>
  rw[show(bi (no.map fun q=>(q.1,V.ref (adr (.noL q.1)))) name).isSome=true from eS (f:=fun k=>V.ref (adr (.noL k))) q]
  refine aj ?_
  refine aT ?_
  refine ak ?_
  refine h _ _ adr cc (rfl) G ?_
  have:known no name=no:=by unfold known;rw[if_pos q]
  rw[this];exact T
 | false=>
  rw[show(bi (no.map fun q=>(q.1,V.ref (adr (.noL q.1)))) name).isSome=false from eS (f:=fun k=>V.ref (adr (.noL k))) q]
  refine aj ?_
  refine bk ?_
  refine ac ?_;refine bE rfl ?_;refine aW ?_;refine aI ?_
  refine bX (by decide) (fun a m1 ha h1 f1=>?_)
  have q':no.lookup name=none:=by cases z:no.lookup name with|none=>rfl|some _=>rw[z]at q;cases q
  have hc:cc (.noL name)=none:=by rw[T.noL,q'];rfl
  have G1:=G.new hc ha h1 f1
  have hx:m1 (adr0 .self)=_:=(f1 _ (nex hx ha)).trans hx
  have hd:m1 (adr0 .dict)=_:=(f1 _ (nex hd ha)).trans hd
  have hno:m1 (adr0 .no)=_:=(f1 _ (nex hno ha)).trans hno
  refine az rfl rfl ?_
  refine aP hK (fun _=>by kernel_rfl) (.own hx hd) rfl rfl ?_
  refine pu rfl ?_
  refine ba hno (by simp;exact Nat.le_trans hz (by decide)) (fun m2 ep2 h2 f2=>?_)
  refine ak ?_
  have hc2:upd cc (.noL name) (some (.list [])) .no=some (.dict (no.map fun q=>(q.1,.ref (adr (.noL q.1)))) epn):=by rw[ao (by simp)];exact hnod
  have e2:upd adr (.noL name) a .no=adr0 .no:=by rw[ao (by simp),T.adrE .no (by simp)]
  have G2:=G1.set (r:=.no) hc2 (by rw[e2];exact h2) (by rw[e2];exact f2)
  exact h _ _ _ _ (rfl) G2 (T.newN q')
noncomputable def cW(B:Nat)(tn:List (Str×List Int)×List (Str×List Int)):Prop:=tn.2.length≤B/\(∀ k ns,tn.1.lookup k=some ns->ns.length≤B)/\∀ k ns,tn.2.lookup k=some ns->ns.length≤B
theorem fJ{B:Nat}{l:List (Str×List Int)}{s:Str}{n:Int}(h:∀ k ns,l.lookup k=some ns->ns.length≤B):∀ k ns,(b9 l s n).lookup k=some ns->ns.length≤B+1:=by
 intro k ns e
 rw[dF]at e
 split at e
 ·cases q:l.lookup k with
  | none=>rw[q]at e;cases e
  | some z=>rw[q]at e;cases e;have:=h k z q;simp;lia
 ·have:=h k ns e;lia
theorem dJ{B:Nat}{l:List (Str×List Int)}{s:Str}(h:∀ k ns,l.lookup k=some ns->ns.length≤B):∀ k ns,(known l s).lookup k=some ns->ns.length≤B:=by
 intro k ns e
 rw[db]at e
 split at e
 ·cases q:l.lookup s with
  | none=>rw[q]at e;cases e;simp
  | some z=>rw[q]at e;cases e;exact h s z q
 ·exact h k ns e
theorem eF{l:List (Str×List Int)}{s:Str}:(known l s).length≤l.length+1:=by unfold known;split<;>simp
theorem cW.note{B:Nat}{tn:List (Str×List Int)×List (Str×List Int)}(h:cW B tn)(n:Int)(s:Str):cW (B+1) (aR n tn s):=by
 obtain⟨h1,h2,h3⟩:=h
 unfold aR
 split
 ·exact⟨Nat.le_succ_of_le h1,fJ h2,fun k ns e=>Nat.le_succ_of_le (h3 k ns e)⟩
 ·refine⟨?_,fun k ns e=>Nat.le_succ_of_le (h2 k ns e),fJ (dJ h3)⟩
  show(b9 _ _ _).length≤_
  unfold b9;rw[List.length_map];have:=@eF tn.2 s;lia
theorem jR{B:Nat}{tn:List (Str×List Int)×List (Str×List Int)}(h:cW B tn)(n:Int)(syms:List Str):cW (B+syms.length) (syms.foldl (aR n) tn):=by
 induction syms generalizing B tn with
 | nil=>exact h
 | cons s l ih=>have:=ih (h.note n s);rw[List.length_cons,Nat.add_comm l.length 1,<-Nat.add_assoc];exact this
inductive P2G_J1(adr0:Rl->Addr)(c0:Rl->Option ax)(te:List (Str×List Int))(no:List (Str×List Int))(sy:Addr)(name:Str)(map:Str)(prec:V)(func:V)(file:V)(line:V)(n:Int)(syms:List Str)(k:Nat)(i:Nat)(l:Loc)(m:Mem):Prop
 | mk (h1_:k+i=syms.length) (h2_:a7 (kW (adr0 .self) sy name map prec func file line (.int n)) l) (adr1:_) (cc1:_) (h3_:GS adr1 cc1 sy (.list (ae syms)) m) (h4_:TN adr0 c0 adr1 cc1 ((syms.take i).foldl (aR n) (te,no)).1 ((syms.take i).foldl (aR n) (te,no)).2)
theorem ph{Q:Fl->Loc->Mem->Prop}{n:Int}{syms:List Str}(hK:W.K=hdK W.w.params)(hh:A.handled=none)(ok:GOk ar aq adr0 c0 g)(G:GS adr cc sy (.list (ae syms)) m)(T:TN adr0 c0 adr cc te no)(hl:a7 (kW (adr0 .self) sy name map prec func file line (.int n)) loc)(hz:cW 1000000 (te,no))(hs:syms.length≤1000)
  (h:∀ l m adr1 cc1,a7 (kW (adr0 .self) sy name map prec func file line (.int n)) l->GS adr1 cc1 sy (.list (ae syms)) m->TN adr0 c0 adr1 cc1 (syms.foldl (aR n) (te,no)).1 (syms.foldl (aR n) (te,no)).2->Q .next l m) :
  TrS W A (d7 L) outer (exec (addP.body.getD 9 (.Pass ⟨0,0,0,0⟩)) (d7 L)) loc m Q E:=by
 refine Tr.locs hl ?_
 refine dj (fun _=>rfl) ?_;refine pu rfl ?_
 let J1:Nat->Nat->Loc->Mem->Prop:=P2G_J1 adr0 c0 te no sy name map prec func file line n syms
 refine nw (dt hh G.side) J1 ?_ syms.length ⟨rfl,rfl,adr,cc,G,T⟩
 rintro k i l m ⟨hk,hl,adr1,cc1,G,T⟩
 have ei:dD sy i m=some (ae syms)[i]?:=gc G.side
 refine⟨by rw[ei];simp,fun hn1=>?_,fun v hv=>?_⟩
 ·rw[ei]at hn1
  have hn1:(ae syms)[i]? = none:=Option.some.inj hn1
  rw[List.getElem?_eq_none_iff,aG]at hn1
  obtain rfl:i=syms.length:=by lia
  refine Tr.locs hl ?_
  refine ak ?_
  rw[List.take_length]at T
  exact h _ _ _ _ (rfl) G T
 ·rw[ei]at hv
  have hi:(ae syms)[i]? = some v:=Option.some.inj hv
  obtain⟨y,rfl,hy1⟩:∃ y,v = .str y/\syms[i]? = some y:=by
   unfold ae at hi
   rw[List.getElem?_map]at hi
   cases e:syms[i]? with
   | none=>rw[e]at hi;cases hi
   | some y=>rw[e]at hi;exact⟨y,(Option.some.inj hi).symm,rfl⟩
  have hlt:i<syms.length:=by rw[List.getElem?_eq_some_iff]at hy1;exact hy1.1
  have et:(syms.take (i+1)).foldl (aR n) (te,no)=aR n ((syms.take i).foldl (aR n) (te,no)) y:=by rw[aK hy1,List.foldl_append];rfl
  have hlen:=jR hz n (syms.take i)
  generalize htn:(syms.take i).foldl (aR n) (te,no)=tn at *
  have hlen:cW 1001000 tn:=by
   have e:(syms.take i).length≤1000:=by rw[List.length_take];lia
   obtain⟨a,b,d⟩:=hlen
   exact⟨by lia,fun k ns z=>by have:=b k ns z;lia,fun k ns z=>by have:=d k ns z;lia⟩
  obtain⟨tt,nn⟩:=tn
  obtain⟨hz1,hz2,hz3⟩:=hlen
  dsimp only at hz1 hz2 hz3 T
  obtain⟨epd,hdict⟩:=ok.dict
  have hx:=T.at G (by simp) (by simp) (by simp) ok.self
  have hd:=T.at G (by simp) (by simp) (by simp) hdict
  obtain⟨epn,hnod⟩:=T.hno
  have hno:=G.get hnod
  rw[T.adrE .no (by simp)]at hno
  obtain⟨ept,hted⟩:=T.hte
  have hte:=G.get hted
  rw[T.adrE .te (by simp)]at hte
  refine Op.locs hl ?_
  refine am rfl rfl ?_;(refine aC ?_;intro qq ee;refine ac ?_);refine bz ?_;refine bD rfl rfl ?_;refine az rfl rfl ?_
  refine aP hK (fun _=>by kernel_rfl) (.own hx hd) rfl rfl ?_
  skip
  refine iB hte ?_
  cases q:(tt.lookup y).isSome with
  | true=>
   rw[show(bi (tt.map fun q=>(q.1,V.ref (adr1 (.teL q.1)))) y).isSome=true from eS (f:=fun k=>V.ref (adr1 (.teL k))) q]
   refine aj ?_
   refine bk ?_
   (refine aC ?_;intro qq ee;refine ac ?_);refine bP rfl rfl ?_;refine cT rfl ?_;refine cN (fun _ _=>rfl) ?_;refine az rfl rfl ?_
   refine aP hK (fun _=>by kernel_rfl) (.own hx hd) rfl rfl ?_
   refine pu rfl ?_
   refine dw hte (lookB (f:=fun k=>V.ref (adr1 (.teL k))) q) ?_
   obtain⟨ns,hns⟩:=Option.isSome_iff_exists.mp q
   have hcl:cc1 (.teL y)=some (.list (a9 ns)):=by rw[T.teL,hns];rfl
   have hl1:=G.get hcl
   refine a6 (.list hl1) PySem.F.plainAttrs_list PySem.F.slot_list_append PySem.F.type_list_append rfl rfl ?_
   refine aN rfl ?_
   refine bh hl1 (by have:=hz2 y ns hns;simp[a9];exact Nat.le_trans this (by decide)) (fun m2 h2 f2=>?_)
   refine ak ?_;refine ak ?_
   refine⟨k - 1,(kst hk hlt).1,(kst hk hlt).2,rfl,_,_,G.set hcl h2 f2,?_⟩
   have:aR n (tt,nn) y=(b9 tt y n,nn):=by unfold aR;rw[if_pos q]
   rw[et,this]
   exact T.pushT hns
  | false=>
   rw[show(bi (tt.map fun q=>(q.1,V.ref (adr1 (.teL q.1)))) y).isSome=false from eS (f:=fun k=>V.ref (adr1 (.teL k))) q]
   refine aj ?_
   refine aT ?_
   have hnote:aR n (tt,nn) y=(tt,b9 (known nn y) y n):=by unfold aR;rw[if_neg (by rw[q];exact Bool.false_ne_true)]
   (refine aC ?_;intro qq ee;refine ac ?_)
   refine Tr.mono (Q:=fun f l m=>f = .next/\a7 (("t",.str y)::kW (adr0 .self) sy name map prec func file line (.int n)) l/\∃ adr2 cc2,GS adr2 cc2 sy (.list (ae syms)) m/\TN adr0 c0 adr2 cc2 tt (known nn y)) (aC ?_) ?_
   ·intro qq ee
    refine bz ?_;refine bD rfl rfl ?_;refine az rfl rfl ?_
    refine aP hK (fun _=>by kernel_rfl) (.own hx hd) rfl rfl ?_
    skip
    refine cC hno ?_
    cases q2:(nn.lookup y).isSome with
    | true=>
     rw[show(bi (nn.map fun q=>(q.1,V.ref (adr1 (.noL q.1)))) y).isSome=true from eS (f:=fun k=>V.ref (adr1 (.noL k))) q2]
     refine aj ?_
     refine aT ?_
     refine ak ?_
     have:known nn y=nn:=by unfold known;rw[if_pos q2]
     exact⟨rfl,rfl,_,_,G,by rw[this];exact T⟩
    | false=>
     rw[show(bi (nn.map fun q=>(q.1,V.ref (adr1 (.noL q.1)))) y).isSome=false from eS (f:=fun k=>V.ref (adr1 (.noL k))) q2]
     refine aj ?_
     refine bk ?_
     refine ac ?_;refine bE rfl ?_;refine aW ?_;refine aI ?_
     refine bX (by decide) (fun a m1 ha h1 f1=>?_)
     have q':nn.lookup y=none:=by cases z:nn.lookup y with|none=>rfl|some _=>rw[z]at q2;cases q2
     have hc:cc1 (.noL y)=none:=by rw[T.noL,q'];rfl
     have G1:=G.new hc ha h1 f1
     have hx:m1 (adr0 .self)=_:=(f1 _ (nex hx ha)).trans hx
     have hd:m1 (adr0 .dict)=_:=(f1 _ (nex hd ha)).trans hd
     have hno:m1 (adr0 .no)=_:=(f1 _ (nex hno ha)).trans hno
     refine az rfl rfl ?_
     refine aP hK (fun _=>by kernel_rfl) (.own hx hd) rfl rfl ?_
     refine pu rfl ?_
     refine ba hno (by simp;exact Nat.le_trans hz1 (by decide)) (fun m2 ep2 h2 f2=>?_)
     refine ak ?_
     have hc2:upd cc1 (.noL y) (some (.list [])) .no=some (.dict (nn.map fun q=>(q.1,.ref (adr1 (.noL q.1)))) epn):=by rw[ao (by simp)];exact hnod
     have e2:upd adr1 (.noL y) a .no=adr0 .no:=by rw[ao (by simp),T.adrE .no (by simp)]
     have G2:=G1.set (r:=.no) hc2 (by rw[e2];exact h2) (by rw[e2];exact f2)
     exact⟨rfl,rfl,_,_,G2,T.newN q'⟩
   ·rintro f l m ⟨rfl,hl,adr2,cc2,G,T⟩
    refine ac ?_
    refine Tr.locs hl ?_
    have hx:=T.at G (by simp) (by simp) (by simp) ok.self
    have hd:=T.at G (by simp) (by simp) (by simp) hdict
    obtain⟨epn,hnod⟩:=T.hno
    have hno:=G.get hnod
    rw[T.adrE .no (by simp)]at hno
    refine bP rfl rfl ?_;refine cT rfl ?_;refine cN (fun _ _=>rfl) ?_;refine az rfl rfl ?_
    refine aP hK (fun _=>by kernel_rfl) (.own hx hd) rfl rfl ?_
    refine pu rfl ?_
    have hk3:(known nn y).lookup y=some ((nn.lookup y).getD []):=by rw[db,if_pos rfl]
    refine dw hno (lookB (f:=fun k=>V.ref (adr2 (.noL k))) (by rw[hk3];rfl)) ?_
    have hcl:cc2 (.noL y)=some (.list (a9 ((nn.lookup y).getD []))):=by rw[T.noL,hk3];rfl
    have hl1:=G.get hcl
    refine a6 (.list hl1) PySem.F.plainAttrs_list PySem.F.slot_list_append PySem.F.type_list_append rfl rfl ?_
    refine aN rfl ?_
    refine bh hl1 (by have:=dJ hz3 y _ hk3;simp[a9];exact Nat.le_trans this (by decide)) (fun m2 h2 f2=>?_)
    refine ak ?_;refine ak ?_
    refine⟨k - 1,(kst hk hlt).1,(kst hk hlt).2,rfl,_,_,G.set hcl h2 f2,?_⟩
    rw[et,hnote]
    exact T.pushN hk3
end
theorem GOk.add{C CP:Addr}{g:GR}{adr0 adr adr':Rl->Addr}{c0 cc c':Rl->Option ax}{te no:List (Str×List Int)}{p:Pr}{pn':List Str}(ok:GOk C CP adr0 c0 g)(T:TN adr0 c0 adr cc te no)
  (ha:∀ r,(∀ k,r≠.pnL k)->adr' r=adr r) (hc:∀ r,r≠.pl->r≠.pm->r≠.pn->(∀ k,r≠.pnL k)->c' r=cc r)
  (hpl:c' .pl=some (.list (g.p0::(g.prods++[p]).map (pV CP)))) (hpm:∃ ep,c' .pm=some (.dict ((g.prods++[p]).map fun p=>(aJ p.name p.body,pV CP p)) ep))
  (hpn:∃ ep,c' .pn=some (.dict (pn'.map fun k=>(k,.ref (adr' (.pnL k)))) ep)) (hpnL:∀ k,c' (.pnL k)=if k∈pn' then some (.list (((g.prods++[p]).filter fun p=>p.name=k).map (pV CP))) else none) :
  GOk C CP adr' c' { g with prods:=g.prods++[p],pn:=pn',te:=te,no:=no }:=by
 have hA:∀ r,(∀ k,r≠.pnL k)->(∀ k,r≠.noL k)->adr' r=adr0 r:=fun r h1 h2=>(ha r h1).trans (T.adrE r h2)
 have hC:∀ r,r≠.pl->r≠.pm->r≠.pn->(∀ k,r≠.pnL k)->(∀ k,r≠.noL k)->(∀ k,r≠.teL k)->r≠.no->c' r=c0 r:=fun r h1 h2 h3 h4 h5 h6 h7=>(hc r h1 h2 h3 h4).trans (T.cE r h5 h6 h7)
 exact {
  self:=by rw[hC _ (by simp) (by simp) (by simp) (by simp) (by simp) (by simp) (by simp),hA .dict (by simp) (by simp)];exact ok.self
  dict:=by
   obtain⟨ep,e⟩:=ok.dict
   refine⟨ep,?_⟩
   rw[hC _ (by simp) (by simp) (by simp) (by simp) (by simp) (by simp) (by simp),e]
   exact congrArg (fun z=>some (ax.dict z ep)) (jH fun r hr=>hA r (fun _=>kO hr rfl) fun _=>kO hr rfl).symm
  pl:=hpl
  pn:=hpn
  pnL:=hpnL
  pm:=hpm
  te:=by
   obtain⟨ep,e⟩:=T.hte
   refine⟨ep,?_⟩
   rw[hc _ (by simp) (by simp) (by simp) (by simp),e]
   exact congrArg (fun z=>some (ax.dict z ep)) (List.map_congr_left fun q _=>by rw[ha _ (by simp)])
  teL:=fun k=>by rw[hc _ (by simp) (by simp) (by simp) (by simp)];exact T.teL k
  no:=by
   obtain⟨ep,e⟩:=T.hno
   refine⟨ep,?_⟩
   rw[hc _ (by simp) (by simp) (by simp) (by simp),e]
   exact congrArg (fun z=>some (ax.dict z ep)) (List.map_congr_left fun q _=>by rw[ha _ (by simp)])
  noL:=fun k=>by rw[hc _ (by simp) (by simp) (by simp) (by simp)];exact T.noL k
  fi:=by
   obtain⟨ep,e⟩:=ok.fi
   refine⟨ep,?_⟩
   rw[hC _ (by simp) (by simp) (by simp) (by simp) (by simp) (by simp) (by simp),e]
   exact congrArg (fun z=>some (ax.dict z ep)) (List.map_congr_left fun q _=>by rw[hA _ (by simp) (by simp)])
  fiL:=fun k=>by rw[hC _ (by simp) (by simp) (by simp) (by simp) (by simp) (by simp) (by simp)];exact ok.fiL k
  fo:=by
   obtain⟨ep,e⟩:=ok.fo
   refine⟨ep,?_⟩
   rw[hC _ (by simp) (by simp) (by simp) (by simp) (by simp) (by simp) (by simp),e]
   exact congrArg (fun z=>some (ax.dict z ep)) (List.map_congr_left fun q _=>by rw[hA _ (by simp) (by simp)])
  foL:=fun k=>by rw[hC _ (by simp) (by simp) (by simp) (by simp) (by simp) (by simp) (by simp)];exact ok.foL k
  pr:=by rw[hC _ (by simp) (by simp) (by simp) (by simp) (by simp) (by simp) (by simp)];exact ok.pr
  up:=by rw[hC _ (by simp) (by simp) (by simp) (by simp) (by simp) (by simp) (by simp)];exact ok.up }
section
variable {W:Wd}{A:Around}{outer:ay}{loc:Loc}{m:Mem}{E:Ex W}{L:Addr}{g:GR}{adr0 adr:Rl->Addr}{c0 cc:Rl->Option ax}{te no:List (Str×List Int)}{sy:Addr}{name map:Str}{prec func file line:V}{n:Int}{syms:List Str}
theorem gZ(l:List Str)(f:Str->V)(k:Str):bi (l.map fun k=>(k,f k)) k=if k∈l then some (f k) else none:=by
 have:=ci (l.map fun k=>(k,())) f k
 rw[List.map_map,List.map_map]at this
 have e:((fun q:Str×Unit=>q.1) ∘ fun k=>(k,()))=id:=rfl
 rw[e,List.map_id]at this
 refine Eq.trans this ?_
 by_cases h:k∈l
 ·rw[if_pos h,if_pos (by rw[List.contains_iff_mem];exact h)]
 ·rw[if_neg h,if_neg (by rw[List.contains_iff_mem];exact h)]
theorem add_end{Q:Fl->Loc->Mem->Prop}(hK:W.K=hdK W.w.params)(cd:aU A 700 6000)(f:c8 A (d7 L) outer)(ok:GOk ar aq adr0 c0 g)(G:GS adr cc sy (.list (ae syms)) m)(T:TN adr0 c0 adr cc te no)(hl:a7 (kW (adr0 .self) sy name map prec func file line (.int n)) loc)
  (hn:name.cps.size≤100) (hs:syms.length≤100) (hy:∀ y∈syms,y.cps.size≤100/\PyData.strOk y=true) (hr:cK prec=true/\cK func=true/\cK file=true/\cK line=true)
  (hmap:map=aJ name syms) (hm:∀ p∈g.prods,aJ p.name p.body≠map) (hnum:g.prods.length≤1000) (hpn:∀ p∈g.prods,p.name∈g.pn) (hpz:g.pn.length≤1000)
  (h:∀ l m gm',bL ar aq { g with prods:=g.prods++[{ name:=name,body:=syms,num:=n,prec:=prec,func:=func,file:=file,line:=line }],pn:=if name∈g.pn then g.pn else g.pn++[name],te:=te,no:=no } (adr0 .self) gm'->Sub gm' m->Q .next l m) :
  TrS W A (d7 L) outer (execs (addP.body.drop 10) (d7 L)) loc m Q E:=by
 refine Tr.locs hl ?_
 obtain⟨epd,hdict⟩:=ok.dict
 have hx:=T.at G (by simp) (by simp) (by simp) ok.self
 have hd:=T.at G (by simp) (by simp) (by simp) hdict
 refine ac ?_;refine aw rfl rfl rfl ?_;refine bq hK (fun _=>rfl) (fun _=>rfl) rfl rfl ?_;refine aN rfl ?_
 obtain⟨p,hp⟩:∃ p:Pr,p={ name:=name,body:=syms,num:=n,prec:=prec,func:=func,file:=file,line:=line }:=⟨_,rfl⟩
 have hP:V.ins aq (dq (.int n) name syms prec func file line)=pV aq p:=by rw[hp];rfl
 have hpn1:p.name=name:=by rw[hp]
 have hpm1:aJ p.name p.body=map:=by rw[hp,hmap]
 refine oq hK (cd.mono (by decide) (by decide)) (.own G.side) hs hy hn ⟨rfl,hr⟩ ?_
 rw[hP]
 refine ac ?_;refine bP rfl rfl ?_;refine cT rfl ?_;refine az rfl rfl ?_
 refine aP hK (fun _=>by kernel_rfl) (.own hx hd) rfl rfl ?_
 have hpl:=G.get (r:=.pl) ((T.cE .pl (by simp) (by simp) (by simp)).trans ok.pl)
 rw[T.adrE .pl (by simp)]at hpl
 refine a6 (.list hpl) PySem.F.plainAttrs_list PySem.F.slot_list_append PySem.F.type_list_append rfl rfl ?_
 refine aN rfl ?_
 refine bh hpl (by simp;exact Nat.le_trans (Nat.succ_le_succ hnum) (by decide)) (fun m1 h1 f1=>?_)
 have G1:=G.set (r:=.pl) ((T.cE .pl (by simp) (by simp) (by simp)).trans ok.pl) (by rw[T.adrE .pl (by simp)];exact h1) (by rw[T.adrE .pl (by simp)];exact f1)
 have hx:m1 (adr0 .self)=_:=(f1 _ (nex hx hpl)).trans hx
 have hd:m1 (adr0 .dict)=_:=(f1 _ (nex hd hpl)).trans hd
 refine ac ?_;refine bE rfl ?_;refine pu rfl ?_;refine az rfl rfl ?_
 refine aP hK (fun _=>by kernel_rfl) (.own hx hd) rfl rfl ?_
 refine pu rfl ?_
 obtain⟨epm,hpmd⟩:=ok.pm
 have hcm:upd cc .pl (some (.list ((g.p0::g.prods.map (pV aq))++[pV aq p]))) .pm=some (.dict (g.prods.map fun p=>(aJ p.name p.body,pV aq p)) epm):=by rw[ao (by simp)];exact(T.cE .pm (by simp) (by simp) (by simp)).trans hpmd
 have hpm:=G1.get hcm
 rw[T.adrE .pm (by simp)]at hpm
 refine ba hpm (by simp;exact Nat.le_trans hnum (by decide)) (fun m2 ep2 h2 f2=>?_)
 have hno:bi (g.prods.map fun p=>(aJ p.name p.body,pV aq p)) map=none:=by
  unfold bi
  rw[Option.map_eq_none_iff,List.find?_eq_none]
  intro z hz q
  obtain⟨p',hp',rfl⟩:=inM hz
  exact hm p' hp' (of_decide_eq_true q)
 rw[fQ hno]at h2
 have G2:=G1.set (r:=.pm) hcm (by rw[T.adrE .pm (by simp)];exact h2) (by rw[T.adrE .pm (by simp)];exact f2)
 have look:∀ {r x},(∀ k,r≠.noL k)->(∀ k,r≠.teL k)->r≠.no->r≠.pl->r≠.pm->c0 r=some x->m2 (adr0 r)=some x:=fun {r x} a1 a2 a3 a4 a5 e=>by
  have:=G2.get (r:=r) (x:=x) (by rw[ao a5,ao a4];exact(T.cE r a1 a2 a3).trans e)
  rwa [T.adrE r a1]at this
 have hx:=look (by simp) (by simp) (by simp) (by simp) (by simp) ok.self
 have hd:=look (by simp) (by simp) (by simp) (by simp) (by simp) hdict
 refine ac ?_
 obtain⟨epp,hpnd⟩:=ok.pn
 have hcn:(upd (upd cc .pl (some (.list ((g.p0::g.prods.map (pV aq))++[pV aq p])))) .pm (some (.dict ((g.prods.map fun p=>(aJ p.name p.body,pV aq p))++[(map,pV aq p)]) ep2))) .pn=some (.dict (g.pn.map fun k=>(k,.ref (adr0 (.pnL k)))) epp):=by
  rw[ao (by simp),ao (by simp)];exact(T.cE .pn (by simp) (by simp) (by simp)).trans hpnd
 have hpnm:=G2.get hcn
 rw[T.adrE .pn (by simp)]at hpnm
 by_cases hin:name∈g.pn
 ·refine pJ (T:="KeyError") (fun _ _=>False) f kr_isExc_KeyError kr_notTuple_KeyError (by rw[isSubtype_type];kernel_rfl) rfl rfl rfl rfl (by decide) (by rw[hK];rfl) PyProof.Rows.Boot.«KeyError» (by decide) ?_ (fun _ _ _ z=>z.elim)
  (refine aC ?_;intro qq ee;refine ac ?_);refine bP rfl rfl ?_;refine cT rfl ?_;refine cN (fun _ _=>rfl) ?_;refine az rfl rfl ?_
  refine aP hK (fun _=>by kernel_rfl) (.own hx hd) rfl rfl ?_
  refine pu rfl ?_
  refine dw hpnm (by rw[gZ g.pn (fun k=>V.ref (adr0 (.pnL k))),if_pos hin]) ?_
  have hl1:=look (r:=.pnL name) (by simp) (by simp) (by simp) (by simp) (by simp) (by rw[ok.pnL,if_pos hin])
  refine a6 (.list hl1) PySem.F.plainAttrs_list PySem.F.slot_list_append PySem.F.type_list_append rfl rfl ?_
  refine aN rfl ?_
  refine bh hl1 (by simp;exact Nat.le_trans (List.length_filter_le _ _) (Nat.le_trans hnum (by decide))) (fun m3 h3 f3=>?_)
  refine ak ?_;refine ak ?_
  have hcl:upd (upd cc .pl (some (.list ((g.p0::g.prods.map (pV aq))++[pV aq p])))) .pm (some (.dict ((g.prods.map fun p=>(aJ p.name p.body,pV aq p))++[(map,pV aq p)]) ep2)) (.pnL name)=some (.list ((g.prods.filter fun p=>p.name=name).map (pV aq))):=by
   rw[ao (by simp),ao (by simp)];refine(T.cE _ (by simp) (by simp) (by simp)).trans ?_;rw[ok.pnL,if_pos hin]
  have eA:adr (.pnL name)=adr0 (.pnL name):=T.adrE _ (by simp)
  have G3:=G2.set hcl (by rw[eA];exact h3) (by rw[eA];exact f3)
  obtain⟨gm',M',hsub⟩:=G3.done
  refine h _ _ gm' ?_ hsub
  rw[if_pos hin,<-hp]
  refine⟨_,_,M',GOk.add ok T (fun _ _=>rfl) (fun r a1 a2 a3 a4=>by rw[ao (a4 name),ao a2,ao a1]) ?_ ⟨ep2,?_⟩ ⟨epp,?_⟩ (fun k=>?_),T.adrE _ (by simp)⟩
  ·rw[ao (by simp),ao (by simp),aY];simp
  ·rw[ao (by simp),aY];simp[hpm1]
  ·rw[ao (by simp),hcn]
   exact congrArg (fun z=>some (ax.dict z epp)) (List.map_congr_left fun k _=>by rw[T.adrE _ (by simp)])
  ·by_cases e:k=name
   ·subst e
    rw[aY,if_pos hin,List.filter_append]
    simp[hpn1]
   ·rw[ao (by simpa using e),ao (by simp),ao (by simp),T.cE _ (by simp) (by simp) (by simp),ok.pnL,List.filter_append]
    have:¬ p.name=k:=fun q=>e (by rw[<-q,hpn1])
    simp[this]
 ·refine pJ (T:="KeyError") (fun l m=>a7 (("p",pV aq p)::kW (adr0 .self) sy name map prec func file line (.int n)) l/\m=m2) f kr_isExc_KeyError kr_notTuple_KeyError (by rw[isSubtype_type];kernel_rfl) rfl rfl rfl rfl (by decide) (by rw[hK];rfl) PyProof.Rows.Boot.«KeyError» (by decide) ?_ ?_
  ·(refine aC ?_;intro qq ee;refine ac ?_);refine bP rfl rfl ?_;refine cT rfl ?_;refine cN (fun _ _=>rfl) ?_;refine az rfl rfl ?_
   refine aP hK (fun _=>by kernel_rfl) (.own hx hd) rfl rfl ?_
   refine pu rfl ?_
   refine qb hpnm (by rw[gZ g.pn (fun k=>V.ref (adr0 (.pnL k))),if_neg hin]) cd.handled ⟨rfl,rfl,rfl⟩
  ·rintro e l m ⟨hl,rfl⟩
   refine Tr.locs hl ?_
   (refine bU ?_;intro aa vv oo qq ee;refine ac ?_);refine bE rfl ?_;refine aW ?_;refine aN rfl ?_
   refine bX (show 1≤sizeLine by decide) (fun a m3 ha h3 f3=>?_)
   have hx:m3 (adr0 .self)=_:=(f3 _ (nex hx ha)).trans hx
   have hd:m3 (adr0 .dict)=_:=(f3 _ (nex hd ha)).trans hd
   have hpnm:m3 (adr0 .pn)=_:=(f3 _ (nex hpnm ha)).trans hpnm
   refine az rfl rfl ?_
   refine aP hK (fun _=>by kernel_rfl) (.own hx hd) rfl rfl ?_
   refine pu rfl ?_
   refine ba hpnm (by simp;exact Nat.le_trans hpz (by decide)) (fun m4 ep4 h4 f4=>?_)
   refine ak ?_;refine ak ?_
   have hcl:upd (upd cc .pl (some (.list ((g.p0::g.prods.map (pV aq))++[pV aq p])))) .pm (some (.dict ((g.prods.map fun p=>(aJ p.name p.body,pV aq p))++[(map,pV aq p)]) ep2)) (.pnL name)=none:=by
    rw[ao (by simp),ao (by simp)];refine(T.cE _ (by simp) (by simp) (by simp)).trans ?_;rw[ok.pnL,if_neg hin]
   have G3:=G2.new hcl ha h3 f3
   have eA:upd adr (.pnL name) a .pn=adr0 .pn:=by rw[ao (by simp)];exact T.adrE _ (by simp)
   have hcn2:=(ao (f:=upd (upd cc .pl (some (.list ((g.p0::g.prods.map (pV aq))++[pV aq p])))) .pm (some (.dict ((g.prods.map fun p=>(aJ p.name p.body,pV aq p))++[(map,pV aq p)]) ep2))) (r:=.pnL name) (r':=.pn) (y:=some (.list [pV aq p])) (by simp)).trans hcn
   have G4:=G3.set hcn2 (by rw[eA];exact h4) (by rw[eA];exact f4)
   obtain⟨gm',M',hsub⟩:=G4.done
   refine h _ _ gm' ?_ hsub
   rw[if_neg hin,<-hp]
   refine⟨_,_,M',GOk.add ok T (fun r a1=>ao (a1 name)) (fun r a1 a2 a3 a4=>by rw[ao a3,ao (a4 name),ao a2,ao a1]) ?_ ⟨ep2,?_⟩ ⟨ep4,?_⟩ (fun k=>?_),by rw[ao (by simp)];exact T.adrE _ (by simp)⟩
   ·rw[ao (by simp),ao (by simp),ao (by simp),aY];simp
   ·rw[ao (by simp),ao (by simp),aY];simp[hpm1]
   ·have hg:bi (g.pn.map fun k=>(k,V.ref (adr0 (.pnL k)))) name=none:=by rw[gZ g.pn (fun k=>V.ref (adr0 (.pnL k))),if_neg hin]
    rw[aY,fQ hg,List.map_append]
    refine congrArg (fun z=>some (ax.dict z ep4)) (congr (congrArg _ (List.map_congr_left fun k hk=>?_)) ?_)
    ·rw[ao (by intro q;cases q;exact hin hk),T.adrE _ (by simp)]
    ·simp[upd]
   ·by_cases e:k=name
    ·subst e
     rw[ao (by simp),aY,if_pos (by simp),List.filter_append]
     have:g.prods.filter (fun p=>decide (p.name=k))=[]:=by
      rw[List.filter_eq_nil_iff];intro q hq z;exact hin (of_decide_eq_true z▸hpn q hq)
     rw[this]
     simp[hpn1]
    ·rw[ao (by simp),ao (by simpa using e),ao (by simp),ao (by simp),T.cE _ (by simp) (by simp) (by simp),ok.pnL,List.filter_append]
     have:¬ p.name=k:=fun q=>e (by rw[<-q,hpn1])
     simp[this,e]
end
noncomputable def pStr.body:List Stmt:=ag (ai (ag (ai pw.main.body 6)) 3)
noncomputable def pStr.scope:Scope:=av (ai (ag (ai pw.main.body 6)) 3)
noncomputable def pStr.params:Arguments:=aA (ai (ag (ai pw.main.body 6)) 3)
noncomputable def pStr.code:Value:=(Value.ref 68)
theorem pStr.at(P:Params):List.lookup 69 (aS P)=some (Obj.mk (Value.type "function") none (Data.func (fnOf (Str.ofString "__str__") (Str.ofString "Production.__str__") pStr.params pStr.body pStr.scope (Value.none) (Value.none) (Value.none) (Value.str (Str.ofString "ply.yacc") 194) (none) pStr.code (Value.none))) #[]):=by kernel_rfl
theorem kI{name:Str}{syms:List Str}(hn:name.cps.size≤100)(hs:syms.length≤100)(hy:∀ y∈syms,y.cps.size≤100):(dO name syms).length≤20000:=by
 have l1:(" -> " : Str).length=4:=by decide +kernel
 have l2:(" -> <empty>" : Str).length=11:=by decide +kernel
 have jl:=lM hy
 unfold dO
 have hn':name.length≤100:=hn
 split
 ·rw[dG,l2];lia
 ·rw[dG,dG,l1]
  have:syms.length*(100+1)≤100*101:=Nat.mul_le_mul_right _ hs
  lia
structure qF(p:Pr):Prop where
 text:(dO p.name p.body).length≤20000
 file:p.file = .str ""
 line:∃ n:Int,p.line = .int n/\0≤n/\n<10 ^ 10
section
variable {W:Wd}{A:Around}{env:Env}{outer:ay}{loc:Loc}{mem:Mem}{E:Ex W}
theorem conv_pr{p:Pr}(hK:W.K=hdK W.w.params)(c:aU A 900 8000)(hp:qF p):ib W A env outer loc mem E 115 (pV aq p):=by
 refine .own (C:=aq) (f:=69) .frz (by rw[hK];first|rfl|kernel_rfl|decide +kernel) (by rw[hK];first|rfl|kernel_rfl|decide +kernel) (Nat.lt_of_le_of_lt c.units (by decide)) ?_
 refine bO (bs:=[("self",pV aq p)]) (by rw[hK];exact pStr.at _) (by rw[hK];first|rfl|kernel_rfl|decide +kernel) (c.room (by decide)) ?_ (by intro y hy;simp at hy;rcases hy with rfl;rfl) (by decide) rfl rfl rfl ?_
 ·intro F s vs hb hk r
  obtain⟨_,_,r1,r2,rfl⟩:=r.isCons
  obtain rfl:=r2.isNil
  exact⟨_,BindsTo.of_eq rfl,.cons r1 .nil⟩
 ·intro L outer
  have cd:=c.deeper (envX "Production.__str__" pStr.scope L 69 pStr.code [])
  (refine bU ?_;intro aa vv oo qq ee;refine ac ?_);refine c6 ?_;refine az rfl rfl ?_
  refine aP hK (fun _=>by kernel_rfl) .frz rfl rfl ?_
  exact⟨_,ah _,rfl,rfl,_,rfl,hp.text⟩
variable {L:Addr}{g:GR}{adr:Rl->Addr}{cc:Rl->Option ax}{sy:Addr}{m:Mem}{name:Str}
noncomputable abbrev lA(a sy:Addr)(name:Str)(line:V):Loc:=[("self",.ref a),("prodname",.str name),("syms",.ref sy),("func",.none),("file",.str ""),("line",line)]
theorem ew:(Str.ofString "").length≤20000/\(reprText (Str.ofString "")).length≤20000:=by decide +kernel
theorem qO{syms:List Str}{n:Int}{Q:Fl->Loc->Mem->Prop}(hK:W.K=hdK W.w.params)(cd:aU A 601 5003)(hf:c8 A (d7 L) outer)(ok:GOk ar aq adr cc g)(G0:GS adr cc sy (.list (ae syms)) m)
  (hn:name.cps.size≤100) (hs:∀ y∈syms,y.cps.size≤100/\PyData.strOk y=true/\y≠"%prec") (hz:syms.length≤100) (hpr:g.pr=[]) (hnum:g.prods.length≤1000) (hpn:∀ p∈g.prods,p.name∈g.pn) (hpz:g.pn.length≤1000) (hlen:cW 900000 (g.te,g.no)) (hpo:∀ p∈g.prods,qF p) (hl:0≤n/\n<10 ^ 10)
  (hr:(∃ p∈g.prods,aJ p.name p.body=aJ name syms)->∀ l,dg W (d7 L) outer E (.ref dA) l m)
  (h:(∀ p∈g.prods,aJ p.name p.body≠aJ name syms)->∀ l m gm',bL ar aq (addG g name syms (.tup [.str "right",.int 0]) .none (.str "") (.int n)) (adr .self) gm'->Sub gm' m->Q .next l m) :
  TrS W A (d7 L) outer (execs (addP.body.drop 4) (d7 L)) (lA (adr .self) sy name (.int n)) m Q E:=by
 obtain⟨epd,hdict⟩:=ok.dict
 obtain⟨ept,hted⟩:=ok.te
 have hsy:=G0.side
 have hx:=G0.get ok.self
 have hd:=G0.get hdict
 have ht:=G0.get hted
 have hn':name.length≤100:=hn
 refine ac ?_;refine bz ?_;refine dp rfl rfl rfl ?_
 refine iA (n:=0) (.own hsy) (by decide +kernel) (dv (List.all_eq_true.mpr fun y hy=>(hs y hy).2.1)) (by decide) (cd.fit (by decide)) (fun b hb=>?_)
 have hbf:b=false:=by
  cases b with
  | false=>rfl
  | true=>exact absurd rfl ((hs _ (g8.mp (hb.mp rfl))).2.2)
 subst hbf
 refine aj ?_
 refine aT ?_
 (refine aC ?_;intro qq ee;refine ac ?_);refine aw rfl rfl rfl ?_;refine bq hK (fun _=>rfl) (fun _=>rfl) rfl rfl ?_;refine fe rfl ?_;refine aB rfl ?_;refine az rfl rfl ?_
 refine aP hK (fun _=>by kernel_rfl) (.own hx hd) rfl rfl ?_
 refine aI ?_
 refine mh hK (cd.mono (by decide) (by decide)) hsy ht (by lia) ?_
 refine ac ?_;refine aw rfl rfl rfl ?_;refine cT rfl ?_;refine az rfl rfl ?_
 refine aP hK (fun _=>by kernel_rfl) (.own hx hd) rfl rfl ?_
 skip
 obtain⟨epp,hprd⟩:=ok.pr
 rw[hpr]at hprd
 have hp:=G0.get hprd
 refine a6 (.dict hp) PySem.F.plainAttrs_dict PySem.F.slot_dict_get (by show builtinType _=_;rw[builtinType_eq_fast];kernel_rfl) rfl rfl ?_
 refine fe rfl ?_;refine aB rfl ?_;refine ca ?_;refine aN rfl ?_
 refine cf (show 2≤sizeLine by decide) ?_
 refine aI ?_
 have getP:∀ {o:Option Str} {d:V} {Q:V->Loc->Mem->Prop} {A:Around} {env:Env} {outer:ay} {loc:Loc} {E:Ex W},Q d loc m->OpV W A env outer (fun vs=>call (.builtin "dict.get") vs) [.ref (adr .pr),(match o with|some s=>.str s|none=>.none),d] loc m Q E:=fun {o}=>by
  intro d Q A env outer loc E h
  cases o with
  | none=>exact jv hp h
  | some s=>exact jK hp h
 refine getP ?_
 refine ak ?_;refine ac ?_;refine aw rfl rfl rfl ?_;refine lD ?_;refine ks ?_;refine pu rfl ?_
 refine i0 (Nat.le_trans hn (by decide)) ?_
 have l4:(Str.ofString " -> ").length=4:=by decide +kernel
 have hsl:(2000000:Nat)≤sizeLine:=by decide
 have hsh:=pe (fun y hy=>⟨(hs y hy).1,(hs y hy).2.1⟩) hz
 refine⟨_,rfl,by rw[cY];lia,?_⟩
 refine gE ?_
 refine⟨_,rfl,by rw[cY,dG,l4];lia,?_⟩
 refine ks ?_;refine pu rfl ?_
 refine oI (n:=0) cd.guards (.own hsy) (dv (List.all_eq_true.mpr fun y hy=>(hs y hy).2.1)) (by rw[d8];exact Nat.lt_of_le_of_lt (Nat.le_trans (Nat.add_le_add_right (Nat.add_le_add_left (ml syms) _) 5) (by lia)) (cd.fit (by decide))) (by rw[d8];lia) (by rw[d8];exact jA _) (by rw[d8];exact lq _) ?_
 rw[d8]
 refine⟨_,rfl,by rw[cY,dG,dG,l4];lia,?_⟩
 refine ac ?_;refine bz ?_;refine bD rfl rfl ?_;refine az rfl rfl ?_
 refine aP hK (fun _=>by kernel_rfl) (.own hx hd) rfl rfl ?_
 skip
 obtain⟨epm,hpmd⟩:=ok.pm
 have hpm:=G0.get hpmd
 refine iB hpm ?_
 have emap:Str.empty++name++Str.ofString " -> "++(PyData.list (List.map PyData.str syms)).shown=aJ name syms:=by rw[cY];rfl
 rw[emap]
 by_cases hdup:∃ p∈g.prods,aJ p.name p.body=aJ name syms
 ·obtain⟨p,hp,hg⟩:∃ p∈g.prods,bi (g.prods.map fun p=>(aJ p.name p.body,pV aq p)) (aJ name syms)=some (pV aq p):=by
   unfold bi
   cases q:(g.prods.map fun p=>(aJ p.name p.body,pV aq p)).find? fun e=>decide (e.1=aJ name syms) with
   | none=>
    obtain⟨p,hp,e⟩:=hdup
    rw[List.find?_eq_none]at q
    exact absurd (decide_eq_true e) (q _ (List.mem_map.mpr ⟨p,hp,rfl⟩))
   | some z=>
    obtain⟨p,hp,e⟩:=inM (List.mem_of_find?_eq_some q)
    exact⟨p,hp,by rw[<-e];rfl⟩
  have po:=hpo p hp
  obtain⟨pn,hpl,hl0,hl1⟩:=po.line
  rw[hg]
  refine aj ?_
  refine bk ?_
  (refine aC ?_;intro qq ee;refine ac ?_);refine aw rfl rfl rfl ?_;refine cN (fun _ _=>rfl) ?_;refine az rfl rfl ?_
  refine aP hK (fun _=>by kernel_rfl) (.own hx hd) rfl rfl ?_
  refine pu rfl ?_
  refine dw hpm hg ?_
  refine ac ?_
  refine gO hK cd.handled rfl rfl rfl rfl rfl ?_
  refine aB rfl ?_;refine cQ ?_;refine cj rfl ?_;refine ca ?_;refine aN rfl ?_
  refine cf (show 3≤sizeLine by decide) ?_
  skip
  have c1:aU A.in1 900 8000:=(aU.in1 cd).mono (by decide) (by decide)
  refine fX (cs:=[115,100,115]) (by decide +kernel) (by decide +kernel) (by decide +kernel) (.cons (.str ew.1) (.cons (.int hl.1 hl.2) (.cons (conv_pr hK c1 po) .nil))) fun z1 hz1=>?_
  refine cj rfl ?_;refine ca ?_;refine aB rfl ?_;refine az rfl rfl ?_
  refine aP hK (fun _=>by kernel_rfl) .frz rfl (by show okV p.file=true;rw[po.file];rfl) ?_
  refine aB rfl ?_;refine az rfl rfl ?_
  refine aP hK (fun _=>by kernel_rfl) .frz rfl (by show okV p.line=true;rw[hpl];rfl) ?_
  refine aI ?_
  refine cf (show 2≤sizeLine by decide) ?_
  skip
  rw[po.file,hpl]
  refine fX (cs:=[115,100]) (by decide +kernel) (by decide +kernel) (by decide +kernel) (.cons (.str ew.1) (.cons (.int hl0 hl1) .nil)) fun z2 hz2=>?_
  refine add_ss (Nat.le_trans (Nat.add_le_add hz1 hz2) (by decide)) ?_
  refine aI ?_
  exact⟨show 1≤sizeLine by decide,hr hdup _⟩
 ·have hmap:∀ p∈g.prods,aJ p.name p.body≠aJ name syms:=fun p hp e=>hdup ⟨p,hp,e⟩
  have hmn:(bi (g.prods.map fun p=>(aJ p.name p.body,pV aq p)) (aJ name syms)).isSome=false:=by
   unfold bi
   rw[Option.isSome_map]
   rw[Bool.eq_false_iff]
   intro q
   obtain⟨z,hz1,hz2⟩:=List.find?_isSome.mp q
   obtain⟨p,hp,rfl⟩:=inM hz1
   exact hmap p hp (of_decide_eq_true hz2)
  rw[hmn]
  refine aj ?_
  refine aT ?_
  refine ak ?_;refine ac ?_;refine aw rfl rfl rfl ?_;refine bK hK (fun _=>rfl) rfl rfl ?_;refine aB rfl ?_;refine az rfl rfl ?_
  refine aP hK (fun _=>by kernel_rfl) (.own hx hd) rfl rfl ?_
  refine aI ?_
  have hpl:=G0.get ok.pl
  refine jw (.own hpl) (by simp;lia) ?_
  refine ac ?_
  have T0:TN adr cc adr cc g.te g.no:=⟨fun _ _=>rfl,fun _ _ _ _=>rfl,ok.te,ok.teL,ok.no,ok.noL⟩
  have hnum':((g.p0::g.prods.map (pV aq)).length:Int)=(g.prods.length:Int)+1:=by simp
  rw[hnum']
  refine pk (name:=name) (map:=aJ name syms) (prec:=.tup [.str "right",.int 0]) (func:=.none) (file:=.str "") (line:=.int n) (num:=.int ((g.prods.length:Int)+1)) hK ok G0 T0 (rfl) (by have:=hlen.1;dsimp only at this;lia) (fun l m adr1 cc1 hl G1 T1=>?_)
  refine ac ?_
  refine ph hK cd.handled ok G1 T1 hl ⟨?_,fun k ns e=>?_,fun k ns e=>?_⟩ (by lia) (fun l m adr2 cc2 hl G2 T2=>?_)
  ·have:=@eF g.no name;have h1:=hlen.1;dsimp only at h1 ⊢;lia
  ·have:=hlen.2.1 k ns e;lia
  ·have:=dJ hlen.2.2 k ns e;lia
  exact add_end hK (cd.mono (by decide) (by decide)) hf ok G2 T2 hl hn (by lia) (fun y hy=>⟨(hs y hy).1,(hs y hy).2.1⟩) ⟨rfl,rfl,rfl,rfl⟩ rfl hmap hnum hpn hpz (fun l m gm' Gf hsub=>h hmap l m gm' Gf hsub)
end
section
variable {W:Wd}{A:Around}{env:Env}{outer:ay}{loc:Loc}{mem R:Mem}{E:Ex W}{F:Frz}{s:Shared}
noncomputable abbrev LstQ(I:Nat->Loc->Mem->Prop)(i:Nat)(Q:Fl->Loc->Mem->Prop):Fl->Loc->Mem->Prop
 | .next,l,m=>I i l m
 | .cont,l,m=>I i l m
 | .brk,l,m=>Q .next l m
 | .ret v,l,m=>Q (.ret v) l m
theorem Op.mono{α β:Type}{RV:Frz->β->α->Prop}{f:List Value->Sem α}{xs:List V}{Q Q':β->Loc->Mem->Prop}(h:Op W A env outer RV f xs loc mem Q E)(hq:∀ x l m,Q x l m->Q' x l m):Op W A env outer RV f xs loc mem Q' E:=
 fun R F s vs S r=>wpAny_mono (h R F s vs S r) (fun _ _ ⟨F',x,l,m,a,b,c,d⟩=>⟨F',x,l,m,a,b,c,hq x l m d⟩) fun _ _ e=>e
theorem bV{α:Type}{ys:List α}(f:Nat->α->V){mem₀:Mem}{target:PySem.Expr}{body orelse:List Stmt}{x:V}{Q:Fl->Loc->Mem->Prop}{item:Nat->Mem->Option (Option V)}(hx:Itr W A target x mem mem₀ item)(I:Nat->Loc->Mem->Prop)
  (hi:∀ i l m,i≤ys.length->I i l m->item i m=some (ys[i]?.map (f i)))
  (fin:∀ l m,I ys.length l m->TrS W A env outer (execs orelse env) l m Q (di W A env E))
  (turn:∀ i y l m,ys[i]? = some y->I i l m->Op W A env outer (fun _ (_ _:Unit)=>True) (fun|[y]=>assign target env y|_=>pure ()) [f i y] l m (fun _ l m=>TrS W A env outer (execs body env) l m (LstQ I (i+1) Q) (di W A env E)) (di W A env E))
  (h:I 0 loc mem₀):pA W A env outer target body orelse x loc mem Q E:=by
 refine nw hx (fun k i l m=>k+i=ys.length/\I i l m) ?_ ys.length ⟨rfl,h⟩
 rintro k i l m ⟨hk,hI⟩
 have e:=hi i l m (by lia) hI
 cases q:ys[i]? with
 | none=>
  rw[q]at e
  refine⟨fun n=>(by rw[e]at n;cases n),fun _=>?_,fun v hv=>(by rw[e]at hv;cases hv)⟩
  rw[List.getElem?_eq_none_iff]at q
  obtain rfl:i=ys.length:=by lia
  exact fin l m hI
 | some y=>
  rw[q]at e
  refine⟨fun n=>(by rw[e]at n;cases n),fun n=>(by rw[e]at n;cases n),fun v hv=>?_⟩
  have hv:v=f i y:=by rw[e]at hv;cases hv;rfl
  subst hv
  have hlt:i<ys.length:=(List.getElem?_eq_some_iff.mp q).1
  refine(turn i y l m q hI).mono fun _ l m h=>h.mono fun fl l m z=>?_
  cases fl with
  | next=>exact⟨k - 1,by lia,by lia,z⟩
  | cont=>exact⟨k - 1,by lia,by lia,z⟩
  | brk=>exact z
  | ret=>exact z
theorem eZ{α:Type}{f:α->V}{ys:List α}{a:Addr}{i:Nat}{m:Mem}(h:m a=some (.list (ys.map f))):dD a i m=some (ys[i]?.map f):=(gc h).trans (by rw[List.getElem?_map])
end
noncomputable def litF.body:List Stmt:=ag (ai pw.main.body 5)
noncomputable def litF.scope:Scope:=av (ai pw.main.body 5)
noncomputable def litF.params:Arguments:=aA (ai pw.main.body 5)
noncomputable def litF.code:Value:=(Value.ref 45)
theorem litF.at(P:Params):List.lookup 46 (aS P)=some (Obj.mk (Value.type "function") none (Data.func (fnOf (Str.ofString "_literal") (Str.ofString "_literal") litF.params litF.body litF.scope (Value.none) (Value.none) (Value.none) (Value.str (Str.ofString "ply.yacc") 194) (none) litF.code (Value.none))) #[]):=by kernel_rfl
structure LitS(s c:Str):Prop where
 size:3≤s.cps.size/\s.cps.size≤100
 ch:∃ ch,s.cps[0]? = some ch/\(seqIndex? (-1) s.length).bind (s.cps[·]?)=some ch/\cM ⟨#[ch]⟩ "'\"" = true/\cM ⟨#[ch]⟩ c=false
 mid:mf s (some 1) (some (-1))=c
 bs:cM "\\" s=false
 nl:cM "\n" s=false
 mz:c.cps.size≤100
inductive SyK(s:Str):Option Str->Prop
 | ok:SymOk s->SyK s (some s)
 | lit {c:Str}:LitS s c->c.cps.size=1->PyData.strOk c=true->c≠s->c≠"%prec"->SyK s (some c)
 | bad:0<s.cps.size->s.cps.size≤100->(∀ c,s.cps[0]? = some c->cM ⟨#[c]⟩ "'\"" = false)->cJ s=false->s≠"%prec"->(reprText s).length≤20000->SyK s none
 | badLit {c:Str}:LitS s c->1<c.cps.size->SyK s none
noncomputable def bJ(mt:Str->Option Str)(te:List (Str×List Int))(l:List Str):List (Str×List Int):=l.foldl (fun te s=>match mt s with|some c=>if c=s then te else known te c|none=>te) te
theorem jY(mt:Str->Option Str)(te:List (Str×List Int))(l:List Str)(s:Str):bJ mt te (l++[s])=match mt s with|some c=>if c=s then bJ mt te l else known (bJ mt te l) c|none=>bJ mt te l:=by
 unfold bJ;rw[List.foldl_append];rfl
noncomputable def gw(mt:Str->Option Str)(syms:List Str)(i:Nat):List Str:=(syms.take i).map (fun s=>(mt s).getD s)++syms.drop i
theorem lx(mt:Str->Option Str)(syms:List Str)(i:Nat):(gw mt syms i).length=syms.length:=by
 unfold gw
 rw[List.length_append,List.length_map,List.length_take,List.length_drop];lia
theorem nH{mt:Str->Option Str}{syms:List Str}{i:Nat}(h:i≤syms.length):(gw mt syms i)[i]? = syms[i]?:=by
 unfold gw
 rw[List.getElem?_append_right (by rw[List.length_map,List.length_take];lia),List.length_map,List.length_take,List.getElem?_drop]
 congr 1;lia
theorem lv{mt:Str->Option Str}{syms:List Str}{i:Nat}{s c:Str}(h:syms[i]? = some s)(hc:mt s=some c):(gw mt syms i).set i c=gw mt syms (i+1):=by
 have hi:i<syms.length:=(List.getElem?_eq_some_iff.mp h).1
 have hd:syms.drop i=s::syms.drop (i+1):=by rw[List.drop_eq_getElem_cons hi,(List.getElem?_eq_some_iff.mp h).2]
 unfold gw
 rw[aK h,List.map_append,hd,List.set_append]
 have hl:((syms.take i).map fun s=>(mt s).getD s).length=i:=by rw[List.length_map,List.length_take];lia
 rw[if_neg (by rw[hl];lia),hl,Nat.sub_self,List.set_cons_zero]
 show _++(c::_)=(_++[(mt s).getD s])++_
 rw[hc,List.append_assoc];rfl
theorem om{mt:Str->Option Str}{syms:List Str}{i:Nat}{s:Str}(h:syms[i]? = some s)(hc:mt s=some s):gw mt syms (i+1)=gw mt syms i:=by
 rw[<-lv h hc]
 have e:=(nH (mt:=mt) (Nat.le_of_lt (List.getElem?_eq_some_iff.mp h).1)).trans h
 refine List.ext_getElem? fun j=>?_
 rw[List.getElem?_set]
 split
 ·rename_i q;subst q;rw[e,if_pos (List.getElem?_eq_some_iff.mp e).1]
 ·rfl
theorem gh{p q:Prop}(h:p):(false=false->p)/\(false=true->q):=⟨fun _=>h,fun e=>(nomatch e)⟩
section
variable {W:Wd}{A:Around}{env:Env}{outer:ay}{loc:Loc}{mem:Mem}{E:Ex W}
theorem jU{s c:Str}{Q:V->Loc->Mem->Prop}(hK:W.K=hdK W.w.params)(cd:aU A 900 8000)(hs:LitS s c)(h:Q (.str c) loc mem):OpV W A env outer (fun vs=>call (.ref 46) vs) [.str s] loc mem Q E:=by
 refine bO (bs:=[("s",.str s)]) (by rw[hK];exact litF.at _) (by rw[hK];first|rfl|kernel_rfl|decide +kernel) (cd.room (by decide)) ?_ (by intro y hy;simp at hy;subst hy;rfl) (by decide) rfl rfl rfl ?_
 ·intro F s vs hb hk r
  obtain⟨_,_,r1,r2,rfl⟩:=r.isCons
  obtain rfl:=r2.isNil
  exact⟨_,BindsTo.of_eq rfl,.cons r1 .nil⟩
 ·intro L outer
  obtain⟨hz1,hz2⟩:=hs.size
  obtain⟨ch,h0,h1,h2,h3⟩:=hs.ch
  have hzc:(mf s (some 1) (some (-1))).length≤sizeLine:=by rw[hs.mid];exact Nat.le_trans hs.mz (by decide)
  (refine bU ?_;intro aa vv oo qq ee;refine ac ?_);refine bz ?_;refine c9 ?_;refine b0 ?_;refine df rfl ?_;refine bK hK (fun _=>rfl) rfl rfl ?_;refine aN rfl ?_
  refine nQ (by show(s.cps.size:Int)<_;lia) ?_
  refine bI ?_;refine lt_ii ?_;refine aj ?_
  have hb:decide ((s.length:Int)<3)=false:=decide_eq_false (by show ¬ (s.cps.size:Int)<3;lia)
  rw[hb]
  refine gh ?_
  refine b0 ?_;refine df rfl ?_;refine cZ (fun _ _=>rfl) rfl rfl ?_
  refine eH (i:=0) (by decide) (c:=ch) ?_ ?_
  ·have hl:(0:Nat)<s.length:=by show 0<s.cps.size;lia
   have:seqIndex? 0 s.length=some 0:=by unfold seqIndex?;simp[hl]
   rw[this];exact h0
  refine e_sub1 (fun _ _=>rfl) rfl ?_;refine mm ?_;refine bI ?_
  refine qc ?_
  refine eH (i:=-1) (by decide) (c:=ch) h1 ?_
  refine l8 ?_;refine aj ?_
  rw[show(!decide ((⟨#[ch]⟩:Str)=⟨#[ch]⟩))=false from by simp]
  refine gh ?_
  refine b0 ?_;refine df rfl ?_;refine cZ (fun _ _=>rfl) rfl rfl ?_
  refine eH (i:=0) (by decide) (c:=ch) ?_ ?_
  ·have hl:(0:Nat)<s.length:=by show 0<s.cps.size;lia
   have:seqIndex? 0 s.length=some 0:=by unfold seqIndex?;simp[hl]
   rw[this];exact h0
  refine kC ?_;refine pu rfl ?_;refine bI ?_
  refine⟨1,rfl,?_⟩
  refine mm ?_;refine bI ?_
  refine qc ?_
  refine⟨-1,rfl,?_⟩
  refine⟨_,_,.str _,PySem.F.slot_str_getitem.lookup,j4 hzc ?_⟩
  rw[hs.mid]
  refine ig ?_;refine aj ?_
  rw[h3]
  refine gh ?_
  refine b0 ?_;refine dp rfl rfl rfl ?_;refine ig ?_;refine aj ?_
  rw[hs.bs]
  refine gh ?_
  refine b0 ?_;refine dp rfl rfl rfl ?_;refine ig ?_;refine aj ?_
  rw[hs.nl]
  refine gh ?_
  refine fn ?_
  refine aT ?_
  refine ak ?_;refine ac ?_;refine c6 ?_;refine kC ?_;refine pu rfl ?_;refine bI ?_
  refine⟨1,rfl,?_⟩
  refine mm ?_;refine bI ?_
  refine qc ?_
  refine⟨-1,rfl,?_⟩
  refine⟨_,_,.str _,PySem.F.slot_str_getitem.lookup,j4 hzc ?_⟩
  rw[hs.mid]
  exact⟨_,ah _,h⟩
end
section
variable {W:Wd}{A:Around}{env:Env}{outer:ay}{loc:Loc}{mem R:Mem}{E:Ex W}{F:Frz}{s:Shared}
noncomputable def lY(a:Addr)(i:Nat)(m:Mem):Option (Option V):=(ou m a).bind fun xs=>if i≤xs.length then some (xs[i]?.map fun y=>.tup [.int i,y]) else none
inductive EnI(a:Addr)(i:Nat)(m:Mem)(v:Option V):Prop
 | mk (xs:List V) (h1_:m a=some (.list xs)) (h3_:i≤xs.length) (h2_:v=xs[i]?.map fun y=>.tup [.int i,y])
theorem lN{a:Addr}{i:Nat}{m:Mem}{xs:List V}(h:m a=some (.list xs))(hi:i≤xs.length):lY a i m=some (xs[i]?.map fun y=>.tup [.int i,y]):=by unfold lY;rw[nO h];exact if_pos hi
theorem js{a:Addr}{i:Nat}{m:Mem}{v:Option V}(h:lY a i m=some v):EnI a i m v:=by
 unfold lY at h
 cases q:ou m a with
 | none=>rw[q]at h;cases h
 | some xs=>
  rw[q]at h
  by_cases hi:i≤xs.length
  ·exact⟨xs,j7 q,hi,(Option.some.inj ((if_pos hi).symm.trans h)).symm⟩
  ·exact nomatch (if_neg hi).symm.trans h
theorem j5{a:Addr}{xs:List V}{Q:V->Loc->Mem->Prop}(hm:mem a=some (.list xs))
  (h:∀ e o,o.cls = .type "list_iterator"->o.data = .fields #[.ref a,.int 0 0]->mem e=none->mem (e+1)=none->Q (.ref (e+1)) loc (ap (ap mem e (.raw o)) (e+1) (.raw (fM e 0 .none)))) :
  OpV W A env outer (fun vs=>call (.type "enumerate") vs) [.ref a] loc mem Q E:=op1 fun R F s v S r=>by
 rw[r.isRef]
 obtain⟨o,ho,q⟩:=S.memOk _ _ hm
 cases q.view with
 | @list vs n q=>
  refine call_enumerate_1 (items:=vs) ho fun h' he hit hsz hk=>?_
  obtain⟨o',ho',hc,hd⟩:=hit
  obtain⟨a1,a2,S'⟩:=alloc2 (t:=s.toks) (d:=s.drawn) S rfl hk ho' he (x1:=.raw o') (x2:=.raw (fM s.heap.objs.size 0 .none)) .raw .raw
  exact aE.mk (.ref _) S' (h _ o' hc hd a1 a2)
inductive EnO(e a:Addr)(i:Nat)(R₀ R:Mem):Prop
 | mk (h1_:R₀ e=none) (h2_:R₀ (e+1)=none) (old:Value) (o:Obj) (h4_:o.cls = .type "list_iterator") (h5_:o.data = .fields #[.ref a,.int i 0]) (h3_:R=ap (ap R₀ e (.raw o)) (e+1) (.raw (fM e i old)))
inductive EnAtO(W:Wd)(F:Frz)(s:Shared)(e a:Addr)(i:Nat)(old:Value)(o:Obj)(xs:List V):Prop
 | mk (h1_:IsEnum s.heap (e+1) e i old) (vs:Array Value) (n:Nat) (h2_:s.heap.get? e=some o) (h3_:a≠e) (h5_:a≠e+1) (h4_:s.heap.get? a=some { cls:=.type "list",data:=.seq vs n }) (h6_:VRs W F xs vs.toList)
theorem qL{mem R₀:Mem}{F:Frz}{s:Shared}{e a:Addr}{i:Nat}{old:Value}{o:Obj}{xs:List V}(hc:o.cls = .type "list_iterator")(S:Sim W env outer loc mem (ap (ap R₀ e (.raw o)) (e+1) (.raw (fM e i old))) F s)(hx:mem a=some (.list xs)):EnAtO W F s e a i old o xs:=by
 have ne:e≠e+1:=(Nat.succ_ne_self e).symm
 obtain⟨o1,g1,r1⟩:=S.rawAt (a:=e+1) (mset_self _ _ _)
 cases r1.view
 obtain⟨o2,g2,r2⟩:=S.rawAt (a:=e) (by rw[af ne,mset_self])
 cases r2.view
 obtain⟨o3,g3,r3⟩:=S.memOk a _ hx
 cases r3.view with
 | @list vs n q=>
  exact⟨g1,vs,n,g2,fun q=>(by rw[q,g2]at g3;exact pF g3 (by rw[hc];rfl)),fun q=>(by rw[q,g1]at g3;exact pF g3 (by rfl)),g3,q⟩
theorem jJ{elts:List PySem.Expr}{kk:Nat}{pos:Pos}{e a:Addr}{o:Obj}(hh:A.handled=none)(hc:o.cls = .type "list_iterator")(hd:o.data = .fields #[.ref a,.int 0 0])(h1:mem e=none)(h2:mem (e+1)=none) :
  Itr W A (.Tuple elts kk pos) (.ref (e+1)) (ap (ap mem e (.raw o)) (e+1) (.raw (fM e 0 .none))) mem (lY a):=by
 have ne:e≠e+1:=(Nat.succ_ne_self e).symm
 intro env outer loc R F₀ s x' E S r
 rw[r.isRef]
 have n2:ap mem e (.raw o) (e+1)=none:=by rw[af (Ne.symm ne)];exact h2
 obtain⟨oe,hoe,re⟩:=S.memOk (e+1) _ (mset_self _ _ _)
 cases re.view
 have hR2:R (e+1)=none:=S.dis (e+1) _ (mset_self _ _ _)
 have hR1:R e=none:=S.dis e (.raw o) (by rw[af ne,mset_self])
 have S3:=(S.toR n2).toR h1
 rw[<-fW ne]at S3
 refine wpAny_pyIter_enum (it:=e) (i:=0) (old:=.none) hoe ⟨EnO e a,_,?_,⟨hR1,hR2,.none,o,hc,hd,rfl⟩,S3⟩
 clear hR1 hR2 hoe S S3 n2 r hd hc
 refine {
  next:=?_
  done:=?_
  self:=?_
  frame:=?_
  same:=?_
  off:=?_ }
 ·rintro i env outer loc mem R₀ R F s v E ic ⟨n1,n2,old,o,hc,hd,rfl⟩ hi S
  obtain⟨ys,hx,hle,hi⟩:=js hi
  cases hy:ys[i]? with
  | none=>rw[hy]at hi;cases hi
  | some y=>
   rw[hy]at hi
   rw[Option.some.inj hi]
   obtain⟨he,vs,n,g2,hane,hane1,ho,rs⟩:=qL hc S hx
   obtain⟨u,hu,ru⟩:=rs.getA hy
   have hlt:i<vs.size:=(Array.getElem?_eq_some_iff.mp hu).1
   refine wpAny_pyNext_enum_itemD (Draws.list (A:=A.in1) hh e a hane vs) he ⟨⟨o,g2,hc,hd⟩,⟨_,ho,rfl,n,rfl⟩⟩ hlt (Ne.symm ne) (by simp only [List.mem_cons,List.not_mem_nil,or_false,not_or];exact⟨Ne.symm ne,Ne.symm hane1⟩) fun x2 h' tk hx2 hout hst htup hsz hk=>?_
   rw[hu]at hx2
   rw[<-Option.some.inj hx2]at hout htup
   refine⟨_,rfl,wpAny_letOwnedTupleGo_enum hout fun h2 hen hsb=>?_⟩
   obtain⟨o',ho',hc',hd'⟩:=hst.1
   have z:=S.z.free_of_none (aH s.heap)
   have sz1:s.heap.objs.size≠e+1:=fun q=>by have:=Heap.lt_size he;rw[<-q]at this;exact Nat.lt_irrefl _ this
   have sz2:s.heap.objs.size≠e:=fun q=>by have:=Heap.lt_size g2;rw[<-q]at this;exact Nat.lt_irrefl _ this
   have S':=S.reR (R':=ap (ap R₀ e (.raw o')) (e+1) (.raw (fM e (i+1:Nat) u))) (h':=h2) (t:=tk+1) (d:=s.drawn) (fun bb hbb=>by
     obtain⟨c1,c2⟩:=kt hbb
     rw[af c1,af c2]at hbb ⊢;exact hbb) (fun bb xx hbb=>by
     by_cases c1:bb=e+1
     ·rw[c1]at hbb ⊢;rw[mset_self]at hbb;cases hbb;exact⟨_,by exact_mod_cast hen,.raw⟩
     ·rw[af c1]at hbb
      by_cases c2:bb=e
      ·rw[c2]at c1 hbb ⊢;rw[mset_self]at hbb;cases hbb;exact⟨o',(hsb.2 _ c1).trans ho',.raw⟩
      ·rw[af c2]at hbb
       obtain⟨ob,hob,rb⟩:=S.rawAt (a:=bb) (x:=xx) (by rw[af c1,af c2];exact hbb)
       exact⟨ob,(hsb.2 _ c1).trans (hk _ _ c1 c2 hob),rb⟩) (fun bb ob hob hbb=>by
     obtain⟨c1,c2⟩:=kt hbb
     exact(hsb.2 _ c1).trans (hk _ _ c1 c2 hob))
   have S'':=S'.adopt (a:=s.heap.objs.size) (by
    obtain⟨c1,c2⟩:=br z.1
    rw[bw c1]
    rw[af sz1,af sz2]at c2 ⊢
    exact c2) z.2.1 z.2.2.1 z.2.2.2 ((hsb.2 _ sz1).trans htup)
   exact⟨_,_,aV.fadd _ _ _,.tup (.inr ⟨rfl,rfl⟩) (.cons (.int _ _) (.cons (ru.mono (aV.fadd _ _ _)) .nil)),⟨n1,n2,u,o',hc',hd',rfl⟩,S''⟩
 ·rintro i env outer loc mem R₀ R F s E ic ⟨n1,n2,old,o,hc,hd,rfl⟩ hi S
  obtain⟨ys,hx,hle,hi⟩:=js hi
  have hy:ys[i]? = none:=by
   cases hy:ys[i]? with
   | none=>rfl
   | some y=>rw[hy]at hi;cases hi
  obtain⟨he,vs,n,g2,hane,hane1,ho,rs⟩:=qL hc S hx
  have hi2:i=vs.size:=by
   have hz:=rs.size
   rw[List.getElem?_eq_none_iff]at hy
   lia
  refine wpAny_pyNext_enum_endD (Draws.list (A:=A.in1) hh e a hane vs) he ⟨⟨o,g2,hc,by rw[<-hi2];exact hd⟩,⟨_,ho,rfl,n,rfl⟩⟩ fun h' eb=>⟨rfl,?_⟩
  refine S.reR (R':=R₀) (t:=s.toks) (d:=s.drawn) (fun bb hbb=>?_) (fun bb xx hbb=>?_) (fun bb ob hob hbb=>?_)
  ·obtain⟨c1,c2⟩:=kt hbb
   rw[af c1,af c2]at hbb;exact hbb
  ·have c1:bb≠e+1:=fun q=>by rw[q,n2]at hbb;cases hbb
   have c2:bb≠e:=fun q=>by rw[q,n1]at hbb;cases hbb
   obtain⟨ob,hob,rb⟩:=S.rawAt (a:=bb) (x:=xx) (by rw[af c1,af c2];exact hbb)
   exact⟨ob,eb _ _ c2 hob,rb⟩
  ·obtain⟨c1,c2⟩:=kt hbb
   exact eb _ _ c2 hob
 ·rintro i env outer loc mem R₀ R F s E Q ⟨n1,n2,old,o,hc,hd,rfl⟩ S h
  obtain⟨o1,g1,r1⟩:=S.rawAt (a:=e+1) (mset_self _ _ _)
  cases r1.view
  exact wpAny_pyIter_enum (it:=e) (i:=i) (old:=old) g1 h
 ·rintro i R₀ R D xx ⟨n1,n2,old,o,hc,hd,rfl⟩ hD
  have d1:D≠e+1:=fun q=>by rw[q,mset_self,n2]at hD;cases hD
  have d2:D≠e:=fun q=>by rw[q,af ne,mset_self,n1]at hD;cases hD
  refine⟨by rw[af (Ne.symm d2)];exact n1,by rw[af (Ne.symm d1)];exact n2,old,o,hc,hd,?_⟩
  rw[fW (Ne.symm d1),fW (Ne.symm d2)]
 ·rintro i R₀ R D ⟨n1,n2,old,o,hc,hd,rfl⟩ hD
  rw[af (fun q:D=e+1=>hD (by rw[q];exact n2)),af (fun q:D=e=>hD (by rw[q];exact n1))]
 ·rintro i env outer loc mem R₀ R F s ⟨n1,n2,old,o,hc,hd,rfl⟩ S
  exact(S.offR (by rw[af (Ne.symm ne)];exact n2)).offR n1
end
theorem pt(mt:Str->Option Str)(te:List (Str×List Int))(l:List Str):(bJ mt te l).length≤te.length+l.length:=by
 induction l generalizing te with
 | nil=>exact Nat.le_refl _
 | cons s l ih=>
  have h1:∀ te':List (Str×List Int),te'.length≤te.length+1->(bJ mt te' l).length≤te.length+(s::l).length:=fun te' h=>by
   have:=ih te';rw[List.length_cons];lia
  unfold bJ at h1 ⊢
  rw[List.foldl_cons]
  refine h1 _ ?_
  split
  ·split
   ·lia
   ·exact eF
  ·lia
theorem GOk.newT{C CP:Addr}{adr:Rl->Addr}{cc:Rl->Option ax}{g:GR}{s:Str}{a:Addr}{ep':Nat}(ok:GOk C CP adr cc g)(h:g.te.lookup s=none) :
  GOk C CP (upd adr (.teL s) a) (upd (upd cc (.teL s) (some (.list []))) .te (some (.dict (stA (g.te.map fun q=>(q.1,.ref (adr (.teL q.1)))) s (.ref a)) ep'))) { g with te:=known g.te s }:=by
 have off:∀ (y1 y2:Option ax) (r:Rl),r≠.te->r≠.teL s->upd (upd cc (.teL s) y1) .te y2 r=cc r:=fun y1 y2 r a1 a2=>by rw[ao a1,ao a2]
 have ad:∀ r,pT r=false->upd adr (.teL s) a r=adr r:=fun r hr=>ao (kO hr rfl)
 have ad2:∀ r,(∀ k,r≠.teL k)->upd adr (.teL s) a r=adr r:=fun r hr=>ao (hr s)
 have hk:known g.te s=g.te++[(s,[])]:=by unfold known;rw[h];rfl
 refine {
  self:=by rw[off _ _ _ (by simp) (by simp),ad _ rfl];exact ok.self
  dict:=ok.dict.imp fun ep e=>by rw[off _ _ _ (by simp) (by simp),e,jH ad]
  pl:=(off _ _ _ (by simp) (by simp)).trans ok.pl
  pn:=ok.pn.imp fun ep e=>by
   rw[off _ _ _ (by simp) (by simp),e]
   exact congrArg (fun z=>some (ax.dict z ep)) (List.map_congr_left fun k _=>by rw[ad2 _ (by simp)])
  pnL:=fun k=>(off _ _ _ (by simp) (by simp)).trans (ok.pnL k)
  pm:=ok.pm.imp fun ep e=>(off _ _ _ (by simp) (by simp)).trans e
  te:=⟨ep',?_⟩
  teL:=fun k=>?_
  no:=ok.no.imp fun ep e=>by
   rw[off _ _ _ (by simp) (by simp),e]
   exact congrArg (fun z=>some (ax.dict z ep)) (List.map_congr_left fun k _=>by rw[ad2 _ (by simp)])
  noL:=fun k=>(off _ _ _ (by simp) (by simp)).trans (ok.noL k)
  fi:=ok.fi.imp fun ep e=>by
   rw[off _ _ _ (by simp) (by simp),e]
   exact congrArg (fun z=>some (ax.dict z ep)) (List.map_congr_left fun k _=>by rw[ad2 _ (by simp)])
  fiL:=fun k=>(off _ _ _ (by simp) (by simp)).trans (ok.fiL k)
  fo:=ok.fo.imp fun ep e=>by
   rw[off _ _ _ (by simp) (by simp),e]
   exact congrArg (fun z=>some (ax.dict z ep)) (List.map_congr_left fun k _=>by rw[ad2 _ (by simp)])
  foL:=fun k=>(off _ _ _ (by simp) (by simp)).trans (ok.foL k)
  pr:=ok.pr.imp fun ep e=>(off _ _ _ (by simp) (by simp)).trans e
  up:=(off _ _ _ (by simp) (by simp)).trans ok.up }
 ·have hg:bi (g.te.map fun q=>(q.1,V.ref (adr (.teL q.1)))) s=none:=by
   rw[ci g.te (fun k=>V.ref (adr (.teL k))) s,if_neg]
   rw[<-aF,h];simp
  rw[aY,fQ hg]
  show _=some (ax.dict ((known g.te s).map _) ep')
  rw[hk,List.map_append]
  refine congrArg (fun z=>some (ax.dict z ep')) (congr (congrArg _ (List.map_congr_left fun q hq=>?_)) ?_)
  ·have:q.1≠s:=fun e=>by
    have:=aF g.te s
    rw[h]at this
    have hc:(g.te.map (·.1)).contains s=true:=by rw[List.contains_iff_mem];exact List.mem_map.mpr ⟨q,hq,e⟩
    rw[hc]at this;cases this
   rw[ao (by simpa using this)]
  ·simp[upd]
 ·show _=((known g.te s).lookup k).map _
  rw[db,ao (by simp)]
  by_cases e:k=s
  ·subst e;rw[aY,if_pos rfl,h];simp[a9]
  ·rw[ao (by simpa using e),if_neg e];exact ok.teL k
section
variable {W:Wd}{A:Around}{env:Env}{outer:ay}{loc:Loc}{mem:Mem}{E:Ex W}{L:Addr}{g:GR}{sy:Addr}{m:Mem}{name:Str}
theorem GS.put{adr:Rl->Addr}{c:Rl->Option ax}{X Y:ax}{m':Mem}(G:GS adr c sy X m)(h1:m' sy=some Y)(hf:∀ b,b≠sy->m' b=m b):GS adr c sy Y m':=by
 obtain⟨gm,rfl,M,hs⟩:=G
 refine⟨gm,funext fun b=>?_,M,hs⟩
 by_cases e:b=sy
 ·rw[e,h1,mset_self]
 ·rw[hf b e,af e,af e]
inductive JLit(sy:Addr)(a:Addr)(name:Str)(line:V)(g:GR)(mt:Str->Option Str)(syms:List Str)(i:Nat)(l:Loc)(m:Mem):Prop
 | mk (h1_:a7 (lA a sy name line) l) (adr:Rl->Addr) (cc:Rl->Option ax) (h2_:GS adr cc sy (.list (ae (gw mt syms i))) m) (h3_:GOk ar aq adr cc { g with te:=bJ mt g.te (syms.take i) }) (h4_:adr .self=a) (h5_:∀ s∈syms.take i,mt s≠none)
theorem pD{adr:Rl->Addr}{cc:Rl->Option ax}{mt:Str->Option Str}{syms:List Str}{n:Int}{Q:Fl->Loc->Mem->Prop}(hK:W.K=hdK W.w.params)(cd:aU A 601 5003)(hf:c8 A (d7 L) outer)(ok:GOk ar aq adr cc g)(G0:GS adr cc sy (.list (ae syms)) m)
  (hn:name.length≤20000/\(reprText name).length≤20000) (hs:∀ s∈syms,SyK s (mt s)) (hz:syms.length≤100) (htz:g.te.length≤1000) (hl:0≤n/\n<10 ^ 10)
  (hr:∀ i s l m gm,syms[i]? = some s->mt s=none->(∀ s∈syms.take i,mt s≠none)->bL ar aq { g with te:=bJ mt g.te (syms.take i) } (adr .self) gm->Sub gm m->dg W (d7 L) outer E (.ref dA) l m)
  (h:∀ l m adr' cc',a7 (lA (adr .self) sy name (.int n)) l->(∀ s∈syms,mt s≠none)->GS adr' cc' sy (.list (ae (syms.map fun s=>(mt s).getD s))) m->GOk ar aq adr' cc' { g with te:=bJ mt g.te syms }->adr' .self=adr .self->Q .next l m) :
  TrS W A (d7 L) outer (exec (addP.body.getD 3 (.Pass ⟨0,0,0,0⟩)) (d7 L)) (lA (adr .self) sy name (.int n)) m Q E:=by
 have hsy:=G0.side
 refine dj (fun _=>rfl) ?_;refine fw hK (fun _=>rfl) rfl rfl ?_;refine aN rfl ?_
 refine j5 hsy (fun e o hc hd he1 he2=>?_)
 skip
 refine bV (ys:=syms) (fun i s=>.tup [.int i,.str s]) (jJ cd.handled hc hd he1 he2) (JLit sy (adr .self) name (.int n) g mt syms) (fun i l m hi J=>?_) (fun l m J=>?_) (fun i s l m hy J=>?_) ⟨rfl,adr,cc,?_,?_,rfl,?_⟩
 ·obtain⟨_,ad,c1,G,_⟩:=J
  rw[lN G.side (by rw[aG,lx];exact hi)]
  unfold ae
  rw[List.getElem?_map,nH hi,Option.map_map];rfl
 ·obtain⟨hl,ad,c1,G,o,ea,hb⟩:=J
  unfold gw at G
  rw[List.take_length,List.drop_length,List.append_nil]at G
  rw[List.take_length]at o hb
  refine Tr.locs hl ?_
  refine ak ?_
  exact h _ _ ad c1 rfl hb G o ea
 ·obtain⟨hl0,ad,c1,G,o,ea,hb⟩:=J
  have hi:i<syms.length:=(List.getElem?_eq_some_iff.mp hy).1
  have hk:=hs s (List.mem_of_getElem? hy)
  have gd:∃ gm,bL ar aq { g with te:=bJ mt g.te (syms.take i) } (adr .self) gm/\Sub gm m:=by
   obtain⟨gm,M,sb⟩:=G.done
   exact⟨gm,⟨ad,c1,M,o,ea⟩,sb⟩
  obtain⟨epd,hdict⟩:=o.dict
  obtain⟨ept,hted⟩:=o.te
  have hx:=G.get o.self
  have hd:=G.get hdict
  have ht:=G.get hted
  have hside:=G.side
  rw[ea]at hx
  have hz1:∀ c:Str,0<c.cps.size->seqIndex? 0 c.length=some 0:=fun c hc=>by unfold seqIndex?;simp[show(0:Nat)<c.length from hc]
  have lp:=fun l c=>qM (W:=W) (c:=c) (loc:=l) (mem:=m) (E:=E) hf
  have bad:mt s=none->∀ l,dg W (d7 L) outer (di W A (d7 L) E) (.ref dA) l m:=fun e l=>by
   obtain⟨gm,G,sb⟩:=gd
   exact qM hf (hr i s l m gm hy e hb G sb)
  generalize hmt:mt s=o' at hk
  cases hk with
  | ok hok=>
   obtain⟨ch,hch⟩:∃ ch,s.cps[0]? = some ch:=⟨s.cps[0]'hok.pos,Array.getElem?_eq_getElem hok.pos⟩
   refine Op.locs hl0 ?_
   refine bl (by first|assumption|exact aU.handled (by assumption)) rfl rfl ?_;refine am rfl rfl ?_;refine am rfl rfl ?_;(refine aC ?_;intro qq ee;refine ac ?_);refine bz ?_;refine df rfl ?_;refine cZ (fun _ _=>rfl) rfl rfl ?_
   refine eH (i:=0) (by decide) (c:=ch) (by rw[hz1 _ hok.pos];exact hch) ?_
   refine gE ?_;refine ig ?_;refine aj ?_
   rw[hok.noQuote ch hch]
   skip
   refine aT ?_
   refine ak ?_;refine ac ?_;refine bz ?_;refine c9 ?_;refine aQ ?_;refine cO ?_;refine cI rfl ?_;refine bq hK (fun _=>rfl) (fun _=>rfl) rfl rfl ?_;refine aN rfl ?_
   refine fC hK (cd.mono (by decide) (by decide)) (Nat.le_trans hok.size (by lia)) ?_
   rw[hok.ident]
   refine aj ?_
   refine aT ?_
   refine aT ?_
   refine ak ?_;refine ak ?_
   refine⟨rfl,ad,c1,by rw[om hy hmt];exact G,?_,ea,?_⟩
   ·rw[aK hy,jY,hmt]
    dsimp only
    rw[if_pos rfl];exact o
   ·intro x hx
    rw[aK hy]at hx
    rcases List.mem_append.mp hx with hx|hx
    ·exact hb x hx
    ·rw[List.mem_singleton]at hx;rw[hx,hmt];exact fun e=>nomatch e
  | bad h0 h1 h2 h3 h4 h5=>
   obtain⟨ch,hch⟩:∃ ch,s.cps[0]? = some ch:=⟨s.cps[0]'h0,Array.getElem?_eq_getElem h0⟩
   refine Op.locs hl0 ?_
   refine bl (by first|assumption|exact aU.handled (by assumption)) rfl rfl ?_;refine am rfl rfl ?_;refine am rfl rfl ?_;(refine aC ?_;intro qq ee;refine ac ?_);refine bz ?_;refine df rfl ?_;refine cZ (fun _ _=>rfl) rfl rfl ?_
   refine eH (i:=0) (by decide) (c:=ch) (by rw[hz1 _ h0];exact hch) ?_
   refine gE ?_;refine ig ?_;refine aj ?_
   rw[h2 ch hch]
   skip
   refine aT ?_
   refine ak ?_;refine ac ?_;refine bz ?_;refine c9 ?_;refine aQ ?_;refine cO ?_;refine cI rfl ?_;refine bq hK (fun _=>rfl) (fun _=>rfl) rfl rfl ?_;refine aN rfl ?_
   refine fC hK (cd.mono (by decide) (by decide)) (Nat.le_trans h1 (by lia)) ?_
   rw[h3]
   refine aj ?_
   refine bk ?_
   refine aQ ?_;refine dp rfl rfl rfl ?_;refine l8 ?_;refine aj ?_
   rw[show(!decide (s=("%prec" : Str)))=true from by simp[h4]]
   refine bk ?_
   refine cn ?_
   refine bk ?_
   (refine aC ?_;intro qq ee;refine ac ?_)
   refine gO hK cd.handled rfl rfl rfl rfl rfl ?_
   refine aB rfl ?_;refine cj rfl ?_;refine ca ?_;refine aN rfl ?_
   refine cf (show 4≤sizeLine by decide) ?_
   skip
   refine fX (cs:=[115,100,114,114]) (by decide +kernel) (by decide +kernel) (by decide +kernel) (.cons (.str ew.1) (.cons (.int hl.1 hl.2) (.cons (.rep (Nat.le_trans h1 (by decide)) h5) (.cons (.rep hn.1 hn.2) .nil)))) fun z1 hz1=>?_
   refine aI ?_
   exact⟨show 1≤sizeLine by decide,bad hmt _⟩
  | @lit c hc h1 h2 h3 h4=>
   obtain⟨hz3,hz4⟩:=hc.size
   obtain⟨ch,hch,_,hq,_⟩:=hc.ch
   refine Op.locs hl0 ?_
   refine bl (by first|assumption|exact aU.handled (by assumption)) rfl rfl ?_;refine am rfl rfl ?_;refine am rfl rfl ?_;(refine aC ?_;intro qq ee;refine ac ?_);refine bz ?_;refine df rfl ?_;refine cZ (fun _ _=>rfl) rfl rfl ?_
   refine eH (i:=0) (by decide) (c:=ch) (by rw[hz1 _ (by lia)];exact hch) ?_
   refine gE ?_;refine ig ?_;refine aj ?_
   rw[hq]
   skip
   refine bk ?_
   (refine aC ?_;intro qq ee;refine ac ?_)
   refine qu (C:=dA) (x:="GrammarError") (T:="SyntaxError") hf PySem.F.excBase_Exception (by decide) (by rw[isSubtype_type];kernel_rfl) (by kernel_rfl) rfl rfl rfl rfl (by decide) (by rw[hK];rfl) PyProof.Rows.Boot.«SyntaxError» (by decide) (by rw[hK];rfl) (by rw[hK];kernel_rfl) ?_
   (refine aC ?_;intro qq ee;refine ac ?_);refine aw rfl rfl rfl ?_;refine bq hK (fun _=>rfl) (fun _=>rfl) rfl rfl ?_;refine aN rfl ?_
   refine jU hK (cd.mono (by decide) (by decide)) hc ?_
   refine ac ?_;refine bz ?_;refine df rfl ?_;refine bK hK (fun _=>rfl) rfl rfl ?_;refine aN rfl ?_
   refine nQ (by show(c.cps.size:Int)<_;lia) ?_
   refine bI ?_;refine nV ?_;refine aj ?_
   rw[show decide ((1:Int)<(c.length:Int))=false from decide_eq_false (by show ¬ (1:Int)<(c.cps.size:Int);lia)]
   refine aT ?_
   refine ak ?_;refine ac ?_;refine bz ?_;refine bD rfl rfl ?_;refine az rfl rfl ?_
   refine aP hK (fun _=>by kernel_rfl) (.own hx hd) rfl rfl ?_
   skip
   refine cC ht ?_
   have sn:bJ mt g.te (syms.take (i+1))=known (bJ mt g.te (syms.take i)) c:=by
    rw[aK hy,jY,hmt]
    dsimp only
    rw[if_neg h3]
   have hset:(ae (gw mt syms i)).set i (.str c)=ae (gw mt syms (i+1)):=by
    rw[<-lv hy hmt];unfold ae;rw[List.map_set]
   have hnb:∀ x∈syms.take (i+1),mt x≠none:=fun x hx=>by
    rw[aK hy]at hx
    rcases List.mem_append.mp hx with hx|hx
    ·exact hb x hx
    ·rw[List.mem_singleton]at hx;rw[hx,hmt];exact fun e=>nomatch e
   have hlen:i<(ae (gw mt syms i)).length:=by rw[aG,lx];exact hi
   cases q:((bJ mt g.te (syms.take i)).lookup c) with
   | some ns=>
    rw[show(bi ((bJ mt g.te (syms.take i)).map fun q=>(q.1,V.ref (ad (.teL q.1)))) c).isSome=true from eS (f:=fun k=>V.ref (ad (.teL k))) (by rw[q];rfl)]
    refine aj ?_
    refine aT ?_
    refine ak ?_;refine ac ?_;refine co rfl rfl rfl rfl ?_
    refine fg (k:=i) hside hlen (by lia) (fun m1 h1 f1=>?_)
    refine ac ?_;refine eJ ?_
    rw[hset]at h1
    refine⟨rfl,ad,c1,G.put h1 f1,?_,ea,hnb⟩
    rw[sn]
    unfold known
    rw[if_pos (by rw[q];rfl)];exact o
   | none=>
    rw[show(bi ((bJ mt g.te (syms.take i)).map fun q=>(q.1,V.ref (ad (.teL q.1)))) c).isSome=false from eS (f:=fun k=>V.ref (ad (.teL k))) (by rw[q];rfl)]
    refine aj ?_
    refine bk ?_
    (refine aC ?_;intro qq ee;refine ac ?_);refine bE rfl ?_;refine aW ?_;refine aI ?_
    refine bX (show 0≤sizeLine by decide) (fun a m1 ha h1 f1=>?_)
    have G1:=G.new (r:=.teL c) (by rw[o.teL];show((bJ mt g.te (syms.take i)).lookup c).map _=none;rw[q];rfl) ha h1 f1
    have hx1:m1 (adr .self)=_:=(f1 _ (nex hx ha)).trans hx
    have hd1:m1 (ad .dict)=_:=(f1 _ (nex hd ha)).trans hd
    have ht1:m1 (ad .te)=_:=(f1 _ (nex ht ha)).trans ht
    refine az rfl rfl ?_
    refine aP hK (fun _=>by kernel_rfl) (.own hx1 hd1) rfl rfl ?_
    refine pu rfl ?_
    refine ba ht1 (by have h1:=pt mt g.te (syms.take i);rw[List.length_take]at h1;rw[List.length_map];exact Nat.le_trans h1 (Nat.le_trans (by lia:_≤1200) (by decide))) (fun m2 ep2 h2 f2=>?_)
    refine ak ?_;refine ac ?_;refine co rfl rfl rfl rfl ?_
    have G2:=G1.set (r:=.te) ((ao (by simp)).trans hted) (by rw[ao (by simp)];exact h2) (by rw[ao (by simp)];exact f2)
    have hs2:=G2.side
    refine fg (k:=i) hs2 hlen (by lia) (fun m3 h3 f3=>?_)
    refine ac ?_;refine eJ ?_
    rw[hset]at h3
    refine⟨rfl,_,_,G2.put h3 f3,?_,by rw[ao (by simp)];exact ea,hnb⟩
    rw[sn]
    exact GOk.newT o q
  | @badLit c hc h1=>
   obtain⟨hz3,hz4⟩:=hc.size
   obtain⟨ch,hch,_,hq,_⟩:=hc.ch
   refine Op.locs hl0 ?_
   refine bl (by first|assumption|exact aU.handled (by assumption)) rfl rfl ?_;refine am rfl rfl ?_;refine am rfl rfl ?_;(refine aC ?_;intro qq ee;refine ac ?_);refine bz ?_;refine df rfl ?_;refine cZ (fun _ _=>rfl) rfl rfl ?_
   refine eH (i:=0) (by decide) (c:=ch) (by rw[hz1 _ (by lia)];exact hch) ?_
   refine gE ?_;refine ig ?_;refine aj ?_
   rw[hq]
   skip
   refine bk ?_
   (refine aC ?_;intro qq ee;refine ac ?_)
   refine qu (C:=dA) (x:="GrammarError") (T:="SyntaxError") hf PySem.F.excBase_Exception (by decide) (by rw[isSubtype_type];kernel_rfl) (by kernel_rfl) rfl rfl rfl rfl (by decide) (by rw[hK];rfl) PyProof.Rows.Boot.«SyntaxError» (by decide) (by rw[hK];rfl) (by rw[hK];kernel_rfl) ?_
   (refine aC ?_;intro qq ee;refine ac ?_);refine aw rfl rfl rfl ?_;refine bq hK (fun _=>rfl) (fun _=>rfl) rfl rfl ?_;refine aN rfl ?_
   refine jU hK (cd.mono (by decide) (by decide)) hc ?_
   refine ac ?_;refine bz ?_;refine df rfl ?_;refine bK hK (fun _=>rfl) rfl rfl ?_;refine aN rfl ?_
   have hcz:=hc.mz
   refine nQ (by show(c.cps.size:Int)<_;lia) ?_
   refine bI ?_;refine nV ?_;refine aj ?_
   rw[show decide ((1:Int)<(c.length:Int))=true from decide_eq_true (by show(1:Int)<(c.cps.size:Int);lia)]
   refine bk ?_
   (refine aC ?_;intro qq ee;refine ac ?_)
   refine gO hK cd.handled rfl rfl rfl rfl rfl ?_
   refine aB rfl ?_;refine cj rfl ?_;refine ca ?_;refine aN rfl ?_
   refine cf (show 4≤sizeLine by decide) ?_
   skip
   refine fX (cs:=[115,100,115,114]) (by decide +kernel) (by decide +kernel) (by decide +kernel) (.cons (.str ew.1) (.cons (.int hl.1 hl.2) (.cons (.str (Nat.le_trans hz4 (by decide))) (.cons (.rep hn.1 hn.2) .nil)))) fun z1 hz1=>?_
   refine aI ?_
   exact⟨show 1≤sizeLine by decide,eG ⟨rfl,bad hmt _⟩⟩
 ·show GS adr cc sy (.list (ae (List.map _ (syms.take 0)++syms.drop 0))) m
  rw[List.take_zero,List.drop_zero];exact G0
 ·rw[List.take_zero];exact ok
 ·intro s hs;rw[List.take_zero]at hs;cases hs
end
inductive NmK(g:GR)(name:Str):Bool->Prop
 | ok:cJ name=true->name≠"error"->g.te.lookup name=none->NmK g name true
 | tok:(g.te.lookup name).isSome=true->NmK g name false
 | bad:g.te.lookup name=none->name≠"error"->cJ name=false->NmK g name false
theorem oY{mt:Str->Option Str}{B:Nat}{l:List Str}{te:List (Str×List Int)}(h:∀ k ns,te.lookup k=some ns->ns.length≤B):∀ k ns,(bJ mt te l).lookup k=some ns->ns.length≤B:=by
 induction l generalizing te with
 | nil=>exact h
 | cons s l ih=>
  unfold bJ at ih ⊢
  rw[List.foldl_cons]
  refine ih ?_
  split
  ·split
   ·exact h
   ·exact dJ h
  ·exact h
section
variable {W:Wd}{A:Around}{env:Env}{outer:ay}{loc:Loc}{mem:Mem}{E:Ex W}
theorem pv{g:GR}{a sy:Addr}{gm:Mem}{name:Str}{syms:List Str}{mt:Str->Option Str}{b:Bool}{Q:V->Loc->Mem->Prop}(hK:W.K=hdK W.w.params)(c:aU A 600 5000)(hf:c8 A env outer)(G:bL ar aq g a gm)(hsy:gm sy=none)
  (hnz:name.cps.size≤100) (hnr:(reprText name).length≤20000) (hb:NmK g name b) (hs:b=true->∀ s∈syms,SyK s (mt s)) (hz:syms.length≤100) (hpr:g.pr=[]) (hnum:g.prods.length≤1000) (hpn:∀ p∈g.prods,p.name∈g.pn) (hpz:g.pn.length≤1000) (htz:g.te.length≤1000) (hlen:cW 1000 (g.te,g.no)) (hpo:∀ p∈g.prods,qF p)
  (r0:b=false->dg W env outer E (.ref dA) loc gm)
  (r1:b=true->∀ i s gm',syms[i]? = some s->mt s=none->(∀ s∈syms.take i,mt s≠none)->bL ar aq { g with te:=bJ mt g.te (syms.take i) } a gm'->dg W env outer E (.ref dA) loc gm')
  (r2:b=true->(∀ s∈syms,mt s≠none)->∀ gm',(∃ p∈g.prods,aJ p.name p.body=aJ name (syms.map fun s=>(mt s).getD s))->bL ar aq { g with te:=bJ mt g.te syms } a gm'->dg W env outer E (.ref dA) loc gm')
  (h:b=true->(∀ s∈syms,mt s≠none)->(∀ p∈g.prods,aJ p.name p.body≠aJ name (syms.map fun s=>(mt s).getD s))->∀ m,bL ar aq (addG { g with te:=bJ mt g.te syms } name (syms.map fun s=>(mt s).getD s) (.tup [.str "right",.int 0]) .none (.str "") (.int 0)) a m->Q .none loc m) :
  OpV W A env outer (fun vs=>call (.ref aAdd) vs) [.ref a,.str name,.ref sy] loc (ap gm sy (.list (ae syms))) Q E:=by
 obtain⟨adr,cc,M,ok,rfl⟩:=G
 refine ld (bs:=[("self",.ref (adr .self)),("prodname",.str name),("syms",.ref sy),("func",.none),("file",.str ""),("line",.int 0)]) (by rw[hK];exact addP.at _) (by rw[hK];first|rfl|kernel_rfl|decide +kernel) (c.room (by decide)) hf ?_ (by intro y hy;simp at hy;rcases hy with rfl|rfl|rfl|rfl|rfl|rfl<;>rfl) (by decide) rfl rfl rfl ?_
 ·intro F s vs hb hk r
  obtain⟨_,_,r1,r2,rfl⟩:=r.isCons
  cases r2 with
  | cons r2 r3=>
   cases r3 with
   | cons r3 r4=>
    cases r4
    exact⟨_,binds_K (T:=159) hk rfl (by rw[hK];rfl) rfl rfl rfl,.cons r1 (.cons r2 (.cons r3 (.cons .none (.cons (.str _ _) (.cons (.int _ _) .nil)))))⟩
 ·intro L m0 fd
  have cd:aU (A.deeper (d7 L)) 601 5003:=c.deeper (d7 L)
  obtain⟨epd,hdict⟩:=ok.dict
  obtain⟨ept,hted⟩:=ok.te
  have G0:GS adr cc sy (.list (ae syms)) (ap gm sy (.list (ae syms))):=⟨gm,rfl,M,hsy⟩
  have hx:=G0.get ok.self
  have hd:=G0.get hdict
  have ht:=G0.get hted
  have sb:Sub gm (ap gm sy (.list (ae syms))):=fun b x e=>by rw[af (nex e hsy)];exact e
  have tk:∀ l,b=false->dg W (d7 L) ((env.locals,m0)::outer) (exX W (d7 L) ((env.locals,m0)::outer) fun c _ m=>∃ m',(∀ a x,m' a=some x->m a=some x)/\dg W env outer E c loc m') (.ref dA) l (ap gm sy (.list (ae syms))):=fun l e=>eG ⟨gm,sb,r0 e⟩
  (refine bU ?_;intro aa vv oo qq ee;refine ac ?_);refine bz ?_;refine bD rfl rfl ?_;refine az rfl rfl ?_
  refine aP hK (fun _=>by kernel_rfl) (.own hx hd) rfl rfl ?_
  skip
  refine iB ht ?_
  cases hb with
  | tok h1=>
   rw[show(bi (g.te.map fun q=>(q.1,V.ref (adr (.teL q.1)))) name).isSome=true from eS (f:=fun k=>V.ref (adr (.teL k))) h1]
   refine aj ?_
   refine bk ?_
   (refine aC ?_;intro qq ee;refine ac ?_)
   refine gO hK cd.handled rfl rfl rfl rfl rfl ?_
   refine aB rfl ?_;refine cj rfl ?_;refine ca ?_;refine aN rfl ?_
   refine cf (show 3≤sizeLine by decide) ?_
   skip
   refine fX (cs:=[115,100,114]) (by decide +kernel) (by decide +kernel) (by decide +kernel) (.cons (.str ew.1) (.cons (.int (by decide) (by decide)) (.cons (.rep (Nat.le_trans hnz (by decide)) hnr) .nil))) fun z1 hz1=>?_
   refine aI ?_
   exact⟨show 1≤sizeLine by decide,tk _ rfl⟩
  | bad h1 h2 h3=>
   rw[show(bi (g.te.map fun q=>(q.1,V.ref (adr (.teL q.1)))) name).isSome=false from eS (f:=fun k=>V.ref (adr (.teL k))) (by rw[h1];rfl)]
   refine aj ?_
   refine aT ?_
   refine ak ?_;refine ac ?_;refine bz ?_;refine dp rfl rfl rfl ?_;refine nR ?_;refine aj ?_
   refine⟨fun hb=>(absurd (of_decide_eq_true hb) h2),fun _=>?_⟩
   refine ak ?_;refine ac ?_;refine bz ?_;refine cO ?_;refine cI rfl ?_;refine bq hK (fun _=>rfl) (fun _=>rfl) rfl rfl ?_;refine aN rfl ?_
   refine fC hK (cd.mono (by decide) (by decide)) (Nat.le_trans hnz (by lia)) ?_
   rw[h3]
   refine aj ?_
   refine bk ?_
   (refine aC ?_;intro qq ee;refine ac ?_)
   refine gO hK cd.handled rfl rfl rfl rfl rfl ?_
   refine aB rfl ?_;refine cj rfl ?_;refine ca ?_;refine aN rfl ?_
   refine cf (show 3≤sizeLine by decide) ?_
   skip
   refine fX (cs:=[115,100,114]) (by decide +kernel) (by decide +kernel) (by decide +kernel) (.cons (.str ew.1) (.cons (.int (by decide) (by decide)) (.cons (.rep (Nat.le_trans hnz (by decide)) hnr) .nil))) fun z1 hz1=>?_
   refine aI ?_
   exact⟨show 1≤sizeLine by decide,tk _ rfl⟩
  | ok h1 h2 h3=>
   rw[show(bi (g.te.map fun q=>(q.1,V.ref (adr (.teL q.1)))) name).isSome=false from eS (f:=fun k=>V.ref (adr (.teL k))) (by rw[h3];rfl)]
   refine aj ?_
   refine aT ?_
   refine ak ?_;refine ac ?_;refine bz ?_;refine dp rfl rfl rfl ?_;refine nR ?_;refine aj ?_
   refine⟨fun hb=>(absurd (of_decide_eq_true hb) h2),fun _=>?_⟩
   refine ak ?_;refine ac ?_;refine bz ?_;refine cO ?_;refine cI rfl ?_;refine bq hK (fun _=>rfl) (fun _=>rfl) rfl rfl ?_;refine aN rfl ?_
   refine fC hK (cd.mono (by decide) (by decide)) (Nat.le_trans hnz (by lia)) ?_
   rw[h1]
   refine aj ?_
   refine aT ?_
   refine ak ?_
   refine Tr.locs (loc':=lA (adr .self) sy name (.int 0)) rfl ?_
   refine ac ?_
   refine pD (mt:=mt) (n:=0) hK cd fd ok G0 ⟨Nat.le_trans hnz (by decide),hnr⟩ (hs rfl) hz htz (by decide) ?_ ?_
   ·exact fun i s l m gm' e1 e2 e3 G' sb'=>eG ⟨gm',sb',r1 rfl i s gm' e1 e2 e3 G'⟩
   intro l m adr1 cc1 hl1 hall G1 ok1 ea
   refine Tr.locs hl1 ?_
   rw[<-ea]
   have hsy2:∀ y∈syms.map fun s=>(mt s).getD s,y.cps.size≤100/\PyData.strOk y=true/\y≠"%prec":=fun y hy=>by
    obtain⟨s,hs1,rfl⟩:=inM hy
    have k:=hs rfl s hs1
    cases e:mt s with
    | none=>exact absurd e (hall s hs1)
    | some y=>
     rw[e]at k
     cases k with
     | ok k=>exact⟨k.size,k.ok,k.noPrec⟩
     | lit k1 k2 k3 k4 k5=>exact⟨by show y.cps.size≤100;lia,k3,k5⟩
   refine qO (g:={ g with te:=bJ mt g.te syms }) hK cd fd ok1 G1 hnz hsy2 (by rw[List.length_map];exact hz) hpr hnum hpn hpz ⟨?_,fun k ns e=>?_,fun k ns e=>?_⟩ hpo (by decide) ?_ ?_
   ·have h2:=hlen.1;dsimp only at h2 ⊢;lia
   ·have:=oY hlen.2.1 k ns e;lia
   ·have:=hlen.2.2 k ns e;lia
   ·intro e l
    obtain⟨gm',M',sb'⟩:=G1.done
    exact eG ⟨gm',sb',r2 rfl hall gm' e ⟨_,_,M',ok1,ea⟩⟩
   ·exact fun e l m gm' G' sb'=>⟨gm',sb',by rw[ea]at G';exact h rfl hall e gm' G'⟩
end
section
variable {W:Wd}{A:Around}{env:Env}{outer:ay}{loc:Loc}{mem R:Mem}{E:Ex W}{F:Frz}{s:Shared}
theorem gr{v u:V}{xs ys:List V}{Q:V->Loc->Mem->Prop}(q:Sq mem v "list" xs)(q':Sq mem u "list" ys)(hz:xs.length+ys.length≤sizeLine)(h:Q (.lst (xs++ys)) loc mem) :
  OpV W A env outer (fun|[x,y]=>binaryOp .Add x y|_=>pure .none) [v,u] loc mem Q E:=op2 fun R F s v' u' S r1 r2=>by
 obtain⟨a,vs,n,rfl,ho,rs⟩:=q.at S r1
 obtain⟨b,ws,n2,rfl,ho2,rs2⟩:=q'.at S r2
 refine PySem.P.add_list (items:=vs) (n:=n) (items2:=ws) (n2:=n2) ho ho2 ?_ (by rw[rs.size,rs2.size];exact hz)
 have S':=S.freeze (t:=s.toks) (d:=s.drawn) (o':={ cls:=.type "list",data:=.seq (vs++ws) }) (aH s.heap) (fun b o e=>Heap.get?_push_of_some _ e) (Heap.get?_push_size _ rfl)
 refine⟨_,.lst (xs++ys),loc,mem,aV.fadd _ _ _,.lst (.inr ⟨rfl,rfl⟩) ?_,S',h⟩
 rw[Array.toList_append]
 exact(rs.mono (aV.fadd _ _ _)).app (rs2.mono (aV.fadd _ _ _))
end
noncomputable def lNames.body:List Stmt:=ag (ai pw.main.body 11)
noncomputable def lNames.scope:Scope:=av (ai pw.main.body 11)
noncomputable def lNames.params:Arguments:=aA (ai pw.main.body 11)
noncomputable def lNames.code:Value:=(Value.ref 256)
theorem lNames.at(P:Params):List.lookup 257 (aS P)=some (Obj.mk (Value.type "function") none (Data.func (fnOf (Str.ofString "_law_NAMES") (Str.ofString "_law_NAMES") lNames.params lNames.body lNames.scope (Value.none) (Value.none) (Value.none) (Value.str (Str.ofString "law_te0001_03") 536) (none) lNames.code (Value.none))) #[]):=by kernel_rfl
noncomputable def lBadN.body:List Stmt:=ag (ai pw.main.body 13)
noncomputable def lBadN.scope:Scope:=av (ai pw.main.body 13)
noncomputable def lBadN.params:Arguments:=aA (ai pw.main.body 13)
noncomputable def lBadN.code:Value:=(Value.ref 264)
theorem lBadN.at(P:Params):List.lookup 265 (aS P)=some (Obj.mk (Value.type "function") none (Data.func (fnOf (Str.ofString "_law_BADNAMES") (Str.ofString "_law_BADNAMES") lBadN.params lBadN.body lBadN.scope (Value.none) (Value.none) (Value.none) (Value.str (Str.ofString "law_te0001_03") 536) (none) lBadN.code (Value.none))) #[]):=by kernel_rfl
noncomputable def lBadS.body:List Stmt:=ag (ai pw.main.body 14)
noncomputable def lBadS.scope:Scope:=av (ai pw.main.body 14)
noncomputable def lBadS.params:Arguments:=aA (ai pw.main.body 14)
noncomputable def lBadS.code:Value:=(Value.ref 271)
theorem lBadS.at(P:Params):List.lookup 272 (aS P)=some (Obj.mk (Value.type "function") none (Data.func (fnOf (Str.ofString "_law_BADSYMBOLS") (Str.ofString "_law_BADSYMBOLS") lBadS.params lBadS.body lBadS.scope (Value.none) (Value.none) (Value.none) (Value.str (Str.ofString "law_te0001_03") 536) (none) lBadS.code (Value.none))) #[]):=by kernel_rfl
noncomputable def lStarts.body:List Stmt:=ag (ai pw.main.body 15)
noncomputable def lStarts.scope:Scope:=av (ai pw.main.body 15)
noncomputable def lStarts.params:Arguments:=aA (ai pw.main.body 15)
noncomputable def lStarts.code:Value:=(Value.ref 278)
theorem lStarts.at(P:Params):List.lookup 279 (aS P)=some (Obj.mk (Value.type "function") none (Data.func (fnOf (Str.ofString "_law_STARTS") (Str.ofString "_law_STARTS") lStarts.params lStarts.body lStarts.scope (Value.none) (Value.none) (Value.none) (Value.str (Str.ofString "law_te0001_03") 536) (none) lStarts.code (Value.none))) #[]):=by kernel_rfl
noncomputable def lNext.body:List Stmt:=ag (ai pw.main.body 16)
noncomputable def lNext.scope:Scope:=av (ai pw.main.body 16)
noncomputable def lNext.params:Arguments:=aA (ai pw.main.body 16)
noncomputable def lNext.code:Value:=(Value.ref 285)
theorem lNext.at(P:Params):List.lookup 286 (aS P)=some (Obj.mk (Value.type "function") none (Data.func (fnOf (Str.ofString "_law_next") (Str.ofString "_law_next") lNext.params lNext.body lNext.scope (Value.none) (Value.none) (Value.none) (Value.str (Str.ofString "law_te0001_03") 536) (none) lNext.code (Value.none))) #[]):=by kernel_rfl
noncomputable def lGroups.body:List Stmt:=ag (ai pw.main.body 17)
noncomputable def lGroups.scope:Scope:=av (ai pw.main.body 17)
noncomputable def lGroups.params:Arguments:=aA (ai pw.main.body 17)
noncomputable def lGroups.code:Value:=(Value.ref 290)
theorem lGroups.at(P:Params):List.lookup 291 (aS P)=some (Obj.mk (Value.type "function") none (Data.func (fnOf (Str.ofString "_law_groups") (Str.ofString "_law_groups") lGroups.params lGroups.body lGroups.scope (Value.none) (Value.none) (Value.none) (Value.str (Str.ofString "law_te0001_03") 536) (none) lGroups.code (Value.none))) #[]):=by kernel_rfl
noncomputable def lDue.body:List Stmt:=ag (ai pw.main.body 18)
noncomputable def lDue.scope:Scope:=av (ai pw.main.body 18)
noncomputable def lDue.params:Arguments:=aA (ai pw.main.body 18)
noncomputable def lDue.code:Value:=(Value.ref 295)
theorem lDue.at(P:Params):List.lookup 296 (aS P)=some (Obj.mk (Value.type "function") none (Data.func (fnOf (Str.ofString "_law_due") (Str.ofString "_law_due") lDue.params lDue.body lDue.scope (Value.none) (Value.none) (Value.none) (Value.str (Str.ofString "law_te0001_03") 536) (none) lDue.code (Value.none))) #[]):=by kernel_rfl
noncomputable def lTold.body:List Stmt:=ag (ai pw.main.body 19)
noncomputable def lTold.scope:Scope:=av (ai pw.main.body 19)
noncomputable def lTold.params:Arguments:=aA (ai pw.main.body 19)
noncomputable def lTold.code:Value:=(Value.ref 300)
theorem lTold.at(P:Params):List.lookup 301 (aS P)=some (Obj.mk (Value.type "function") none (Data.func (fnOf (Str.ofString "_law_told") (Str.ofString "_law_told") lTold.params lTold.body lTold.scope (Value.none) (Value.none) (Value.none) (Value.str (Str.ofString "law_te0001_03") 536) (none) lTold.code (Value.none))) #[]):=by kernel_rfl
noncomputable def lRefused.body:List Stmt:=ag (ai pw.main.body 20)
noncomputable def lRefused.scope:Scope:=av (ai pw.main.body 20)
noncomputable def lRefused.params:Arguments:=aA (ai pw.main.body 20)
noncomputable def lRefused.code:Value:=(Value.ref 307)
theorem lRefused.at(P:Params):List.lookup 308 (aS P)=some (Obj.mk (Value.type "function") none (Data.func (fnOf (Str.ofString "_law_refused") (Str.ofString "_law_refused") lRefused.params lRefused.body lRefused.scope (Value.none) (Value.none) (Value.none) (Value.str (Str.ofString "law_te0001_03") 536) (none) lRefused.code (Value.none))) #[]):=by kernel_rfl
noncomputable def lUnst.body:List Stmt:=ag (ai pw.main.body 21)
noncomputable def lUnst.scope:Scope:=av (ai pw.main.body 21)
noncomputable def lUnst.params:Arguments:=aA (ai pw.main.body 21)
noncomputable def lUnst.code:Value:=(Value.ref 314)
theorem lUnst.at(P:Params):List.lookup 315 (aS P)=some (Obj.mk (Value.type "function") none (Data.func (fnOf (Str.ofString "_law_unstarted") (Str.ofString "_law_unstarted") lUnst.params lUnst.body lUnst.scope (Value.none) (Value.none) (Value.none) (Value.str (Str.ofString "law_te0001_03") 536) (none) lUnst.code (Value.none))) #[]):=by kernel_rfl
noncomputable def lLaw.body:List Stmt:=ag (ai pw.main.body 22)
noncomputable def lLaw.scope:Scope:=av (ai pw.main.body 22)
noncomputable def lLaw.params:Arguments:=aA (ai pw.main.body 22)
noncomputable def lLaw.code:Value:=(Value.ref 319)
theorem lLaw.at(P:Params):List.lookup 320 (aS P)=some (Obj.mk (Value.type "function") none (Data.func (fnOf (Str.ofString "law") (Str.ofString "law") lLaw.params lLaw.body lLaw.scope (Value.none) (Value.none) (Value.none) (Value.str (Str.ofString "law_te0001_03") 536) (none) lLaw.code (Value.none))) #[]):=by kernel_rfl
noncomputable def gUnreach.body:List Stmt:=ag (ai (ag (ai pw.main.body 9)) 6)
noncomputable def gUnreach.scope:Scope:=av (ai (ag (ai pw.main.body 9)) 6)
noncomputable def gUnreach.params:Arguments:=aA (ai (ag (ai pw.main.body 9)) 6)
noncomputable def gUnreach.code:Value:=(Value.ref 178)
theorem gUnreach.at(P:Params):List.lookup 179 (aS P)=some (Obj.mk (Value.type "function") none (Data.func (fnOf (Str.ofString "find_unreachable") (Str.ofString "Grammar.find_unreachable") gUnreach.params gUnreach.body gUnreach.scope (Value.none) (Value.none) (Value.none) (Value.str (Str.ofString "ply.yacc") 194) (none) gUnreach.code (Value.none))) #[]):=by kernel_rfl
noncomputable def gInf.body:List Stmt:=ag (ai (ag (ai pw.main.body 9)) 7)
noncomputable def gInf.scope:Scope:=av (ai (ag (ai pw.main.body 9)) 7)
noncomputable def gInf.params:Arguments:=aA (ai (ag (ai pw.main.body 9)) 7)
noncomputable def gInf.code:Value:=(Value.ref 185)
theorem gInf.at(P:Params):List.lookup 186 (aS P)=some (Obj.mk (Value.type "function") none (Data.func (fnOf (Str.ofString "infinite_cycles") (Str.ofString "Grammar.infinite_cycles") gInf.params gInf.body gInf.scope (Value.none) (Value.none) (Value.none) (Value.str (Str.ofString "ply.yacc") 194) (none) gInf.code (Value.none))) #[]):=by kernel_rfl
noncomputable def gUndef.body:List Stmt:=ag (ai (ag (ai pw.main.body 9)) 8)
noncomputable def gUndef.scope:Scope:=av (ai (ag (ai pw.main.body 9)) 8)
noncomputable def gUndef.params:Arguments:=aA (ai (ag (ai pw.main.body 9)) 8)
noncomputable def gUndef.code:Value:=(Value.ref 192)
theorem gUndef.at(P:Params):List.lookup 193 (aS P)=some (Obj.mk (Value.type "function") none (Data.func (fnOf (Str.ofString "undefined_symbols") (Str.ofString "Grammar.undefined_symbols") gUndef.params gUndef.body gUndef.scope (Value.none) (Value.none) (Value.none) (Value.str (Str.ofString "ply.yacc") 194) (none) gUndef.code (Value.none))) #[]):=by kernel_rfl
noncomputable def gIdle.body:List Stmt:=ag (ai (ag (ai pw.main.body 9)) 9)
noncomputable def gIdle.scope:Scope:=av (ai (ag (ai pw.main.body 9)) 9)
noncomputable def gIdle.params:Arguments:=aA (ai (ag (ai pw.main.body 9)) 9)
noncomputable def gIdle.code:Value:=(Value.ref 199)
theorem gIdle.at(P:Params):List.lookup 200 (aS P)=some (Obj.mk (Value.type "function") none (Data.func (fnOf (Str.ofString "unused_terminals") (Str.ofString "Grammar.unused_terminals") gIdle.params gIdle.body gIdle.scope (Value.none) (Value.none) (Value.none) (Value.str (Str.ofString "ply.yacc") 194) (none) gIdle.code (Value.none))) #[]):=by kernel_rfl
noncomputable def gAlone.body:List Stmt:=ag (ai (ag (ai pw.main.body 9)) 10)
noncomputable def gAlone.scope:Scope:=av (ai (ag (ai pw.main.body 9)) 10)
noncomputable def gAlone.params:Arguments:=aA (ai (ag (ai pw.main.body 9)) 10)
noncomputable def gAlone.code:Value:=(Value.ref 206)
theorem gAlone.at(P:Params):List.lookup 207 (aS P)=some (Obj.mk (Value.type "function") none (Data.func (fnOf (Str.ofString "unused_rules") (Str.ofString "Grammar.unused_rules") gAlone.params gAlone.body gAlone.scope (Value.none) (Value.none) (Value.none) (Value.str (Str.ofString "ply.yacc") 194) (none) gAlone.code (Value.none))) #[]):=by kernel_rfl
noncomputable def NM:List Str:=["S","A","B","C"]
noncomputable def jx:List Str:=["a","error","S'",""]
noncomputable def io:List Str:=["<empty>","$end","S'","'ab'"]
noncomputable def gN:List Str:=["S","A","B","C","a","error","Z"]
section
variable {W:Wd}{A:Around}{env:Env}{outer:ay}{loc:Loc}{mem:Mem}{E:Ex W}
theorem cV{Q:V->Loc->Mem->Prop}(hK:W.K=hdK W.w.params)(c:aU A 900 8000)(h:Q (.lst (ae NM)) loc mem):OpV W A env outer (fun vs=>call (.ref 257) vs) [] loc mem Q E:=by
 refine bO (bs:=[]) (by rw[hK];exact lNames.at _) (by rw[hK];first|rfl|kernel_rfl|decide +kernel) (c.room (by decide)) ?_ (by intro y hy;cases hy) (by decide) rfl rfl rfl ?_
 ·intro F s vs hb hk r
  obtain rfl:=r.isNil
  exact⟨_,BindsTo.of_eq rfl,.nil⟩
 ·intro L outer
  have cd:=c.deeper (envX "_law_NAMES" lNames.scope L 257 lNames.code [])
  (refine bU ?_;intro aa vv oo qq ee;refine ac ?_);refine c6 ?_;refine aW ?_;refine aN rfl ?_
  refine bp (show 4≤sizeLine by decide) ?_
  skip
  exact⟨_,ah _,h⟩
theorem oF{Q:V->Loc->Mem->Prop}(hK:W.K=hdK W.w.params)(c:aU A 900 8000)(h:Q (.lst (ae jx)) loc mem):OpV W A env outer (fun vs=>call (.ref 265) vs) [] loc mem Q E:=by
 refine bO (bs:=[]) (by rw[hK];exact lBadN.at _) (by rw[hK];first|rfl|kernel_rfl|decide +kernel) (c.room (by decide)) ?_ (by intro y hy;cases hy) (by decide) rfl rfl rfl ?_
 ·intro F s vs hb hk r
  obtain rfl:=r.isNil
  exact⟨_,BindsTo.of_eq rfl,.nil⟩
 ·intro L outer
  have cd:=c.deeper (envX "_law_BADNAMES" lBadN.scope L 265 lBadN.code [])
  (refine bU ?_;intro aa vv oo qq ee;refine ac ?_);refine c6 ?_;refine aW ?_;refine aN rfl ?_
  refine bp (show 4≤sizeLine by decide) ?_
  skip
  exact⟨_,ah _,h⟩
theorem o9{Q:V->Loc->Mem->Prop}(hK:W.K=hdK W.w.params)(c:aU A 900 8000)(h:Q (.lst (ae io)) loc mem):OpV W A env outer (fun vs=>call (.ref 272) vs) [] loc mem Q E:=by
 refine bO (bs:=[]) (by rw[hK];exact lBadS.at _) (by rw[hK];first|rfl|kernel_rfl|decide +kernel) (c.room (by decide)) ?_ (by intro y hy;cases hy) (by decide) rfl rfl rfl ?_
 ·intro F s vs hb hk r
  obtain rfl:=r.isNil
  exact⟨_,BindsTo.of_eq rfl,.nil⟩
 ·intro L outer
  have cd:=c.deeper (envX "_law_BADSYMBOLS" lBadS.scope L 272 lBadS.code [])
  (refine bU ?_;intro aa vv oo qq ee;refine ac ?_);refine c6 ?_;refine aW ?_;refine aN rfl ?_
  refine bp (show 4≤sizeLine by decide) ?_
  skip
  exact⟨_,ah _,h⟩
theorem lH{Q:V->Loc->Mem->Prop}(hK:W.K=hdK W.w.params)(c:aU A 900 8000)(h:Q (.lst (ae gN)) loc mem):OpV W A env outer (fun vs=>call (.ref 279) vs) [] loc mem Q E:=by
 refine bO (bs:=[]) (by rw[hK];exact lStarts.at _) (by rw[hK];first|rfl|kernel_rfl|decide +kernel) (c.room (by decide)) ?_ (by intro y hy;cases hy) (by decide) rfl rfl rfl ?_
 ·intro F s vs hb hk r
  obtain rfl:=r.isNil
  exact⟨_,BindsTo.of_eq rfl,.nil⟩
 ·intro L outer
  have cd:=c.deeper (envX "_law_STARTS" lStarts.scope L 279 lStarts.code [])
  (refine bU ?_;intro aa vv oo qq ee;refine ac ?_);refine c6 ?_;refine aW ?_;refine aN rfl ?_
  refine bp (show 7≤sizeLine by decide) ?_
  skip
  exact⟨_,ah _,h⟩
noncomputable def b7:List Int->Int×List Int
 | []=>(0,[])
 | t::ts=>(t,ts)
theorem ev{ta:Addr}{ts:List Int}{Q:V->Loc->Mem->Prop}(hK:W.K=hdK W.w.params)(c:aU A 900 8000)(hta:mem ta=some (.list (ts.map .int)))(hz:ts.length≤1000)
  (h:Q (.int (b7 ts).1) loc (ap mem ta (.list ((b7 ts).2.map .int)))):OpV W A env outer (fun vs=>call (.ref 286) vs) [.ref ta] loc mem Q E:=by
 refine bO (bs:=[("tape",.ref ta)]) (by rw[hK];exact lNext.at _) (by rw[hK];first|rfl|kernel_rfl|decide +kernel) (c.room (by decide)) ?_ (by intro y hy;simp at hy;rcases hy with rfl|rfl<;>rfl) (by decide) rfl rfl rfl ?_
 ·intro F s vs hb hk r
  obtain⟨_,_,r1,r2,rfl⟩:=r.isCons
  obtain rfl:=r2.isNil
  exact⟨_,BindsTo.of_eq rfl,.cons r1 .nil⟩
 ·intro L outer
  have cd:=c.deeper (envX "_law_next" lNext.scope L 286 lNext.code [])
  (refine bU ?_;intro aa vv oo qq ee;refine ac ?_);refine c6 ?_;refine fU ?_;refine be rfl rfl ?_
  refine fS (.own hta) (by simp;lia) ?_
  cases ts with
  | nil=>
   skip
   refine aT ?_
   refine bI ?_
   exact⟨_,ah _,by have:=h;rwa [show ap mem ta (.list ((b7 []).2.map .int))=mem from ip hta]at this⟩
  | cons t ts=>
   skip
   refine bk ?_
   refine bC rfl rfl ?_
   refine a6 (.list hta) PySem.F.plainAttrs_list PySem.F.slot_list_pop (by show builtinType _=_;rw[builtinType_eq_fast];kernel_rfl) rfl rfl ?_
   refine aN rfl ?_
   refine ql (xs:=ts.map .int) hta (Nat.le_trans (show _≤1000 from(by simp at hz ⊢;lia)) (by decide)) ?_
   skip
   exact⟨_,ah _,h⟩
noncomputable def cS:List Str->List (List Str)
 | l=>l.foldl (fun gs n=>gs++gs.map fun g=>g++[n]) [[]]
noncomputable def grpV(gs:List (List Str)):V:=.lst (gs.map fun g=>.lst (ae g))
noncomputable def grpG(n:Str):V->Option V
 | .lst xs=>some (.lst (xs++[.str n]))
 | _=>none
theorem qj(n:Str)(gs:List (List Str)):(gs.map fun g=>V.lst (ae g)).filterMap (grpG n)=(gs.map fun g=>g++[n]).map fun g=>V.lst (ae g):=by
 induction gs with
 | nil=>rfl
 | cons g gs ih=>
  rw[List.map_cons,List.filterMap_cons,List.map_cons,List.map_cons,<-ih]
  show V.lst (ae g++[.str n])::_=_
  rw[show ae g++[V.str n]=ae (g++[n]) from by unfold ae;rw[List.map_append];rfl]
theorem oQ:∀ i<5,(cS (NM.take i)).length≤16/\∀ g∈cS (NM.take i),g.length≤4:=by decide +kernel
noncomputable abbrev grE(L:Addr):Env:=ji "_law_groups" lGroups.scope L 291 lGroups.code
inductive J3g(mem:Mem)(L:Addr)(i:Nat)(l:Loc)(m:Mem):Prop
 | mk (h1_:a7 [("groups",grpV (cS (NM.take i)))] l) (u:Option V) (h2_:m (L+1)=some (.cell u)) (h3_:Sub mem m)
theorem lf{Q:V->Loc->Mem->Prop}(hK:W.K=hdK W.w.params)(c:aU A 800 7000)(h:Q (grpV (cS NM)) loc mem):OpV W A env outer (fun vs=>call (.ref 291) vs) [] loc mem Q E:=by
 refine iV (bs:=[]) (by rw[hK];exact lGroups.at _) (by rw[hK];first|rfl|kernel_rfl|decide +kernel) (c.room (by decide)) ?_ rfl rfl rfl ?_ ?_ ?_
 ·intro F vs r
  obtain rfl:=r.isNil
  exact⟨_,rfl,.nil⟩
 ·intro x hx;cases hx
 ·intro k p hp
  have:cellsFrom k lGroups.scope.names []=[(("name" : Str),k)]:=rfl
  rw[this]at hp ⊢
  simp only [List.mem_cons,List.not_mem_nil,or_false]at hp
  rcases hp with rfl;rfl
 ·intro L m0 hc hL
  have cd:=c.deeper (grE L)
  have hc1:mem (L+1)=none:=hc ("name",L+1) (.head _)
  have ecell:gk (fun n=>List.lookup n (ia (fun n=>List.lookup n lGroups.scope.names) [])) (cellsFrom (L+1) lGroups.scope.names []) mem=ap mem (L+1) (.cell none):=by
   show gk _ [(("name" : Str),L+1)] mem=_
   rfl
  rw[ecell]
  (refine bU ?_;intro aa vv oo qq ee;refine ac ?_);refine aw rfl rfl rfl ?_;refine aW ?_;refine aB rfl ?_;refine aW ?_;refine aI ?_
  refine bp (show 0≤sizeLine by decide) ?_
  refine aI ?_
  refine bp (show 1≤sizeLine by decide) ?_
  refine ac ?_;refine dj (fun _=>rfl) ?_;refine c5 hK (fun _=>rfl) (fun _=>rfl) ?_
  refine cV hK (cd.mono (by decide) (by decide)) ?_
  refine bV (ys:=NM) (fun _=>V.str) (cb cd.handled) (J3g mem L) (fun i l m hi J=>?_) (fun l m J=>?_) (fun i y l m hy J=>?_) ⟨rfl,none,mset_self _ _ _,aL hc1 (ah _)⟩
  ·show some ((ae NM)[i]?)=_
   unfold ae;rw[List.getElem?_map]
  ·obtain⟨hl,u,hT,s⟩:=J
   rw[show cS (NM.take NM.length)=cS NM from rfl]at hl
   refine Tr.locs hl ?_
   refine ak ?_;refine ac ?_;refine gP rfl ?_
   exact⟨mem,s,h⟩
  ·obtain⟨hl,u,hT,s⟩:=J
   have hi:i<4:=(List.getElem?_eq_some_iff.mp hy).1
   obtain⟨z1,z2⟩:=oQ i (by lia)
   refine Op.locs hl ?_
   refine iG ?_;refine iz rfl rfl rfl (by first|assumption|simp[mset_self]) ?_;(refine aC ?_;intro qq ee;refine ac ?_);refine aw rfl rfl rfl ?_;refine cj rfl ?_;refine bd rfl (by decide) rfl (by decide) (fun _=>rfl) ?_;refine pu rfl ?_
   have sm:Sub mem (ap m (L+1) (.cell (some (.str y)))):=fun b x e=>by rw[af (nex e hc1)];exact s b x e
   have hT1:ap m (L+1) (.cell (some (.str y))) (L+1)=some (.cell (some (.str y))):=mset_self _ _ _
   generalize ap m (L+1) (.cell (some (.str y)))=m1 at *
   refine bj (cb cd.handled) ((cS (NM.take i)).map fun g=>V.lst (ae g)) (fun m i hs hi=>rfl) (by rw[List.length_map];exact Nat.le_trans z1 (by decide)) (grpG y) ?_ ?_
   ·intro C outer' j v hv
    obtain⟨g,hg,rfl⟩:=inM (List.mem_of_getElem? hv)
    refine am rfl rfl ?_;refine cj rfl ?_;refine aW ?_;refine aB rfl ?_;refine aX rfl rfl rfl rfl (by first|assumption|simp[mset_self]) ?_;refine aI ?_
    refine bp (show 1≤sizeLine by decide) ?_
    refine gr (.lst _) (.lst _) (by rw[aG];exact Nat.le_trans (Nat.add_le_add_right (z2 g hg) 1) (by decide)) ?_
    exact⟨rfl,ah _⟩
   ·intro D hD
    rw[qj]
    refine gr (.lst _) (.own (mset_self _ _ _)) (by rw[List.length_map,List.length_map,List.length_map];exact Nat.le_trans (Nat.add_le_add z1 z1) (by decide)) ?_
    refine ak ?_
    refine⟨?_,_,by rw[af (nex hT1 hD)];exact hT1,aL hD sm⟩
    have eg:cS (NM.take (i+1))=cS (NM.take i)++(cS (NM.take i)).map fun g=>g++[y]:=by
     rw[aK hy];unfold cS;rw[List.foldl_append];rfl
    rw[eg,<-List.map_append];rfl
end
theorem kD{M:Model}{A:Around}{src:Source}{n:Nat}{Q:Nat->Shared->Prop}{E:Value->Shared->Prop}{s:Shared}(hn:n≠0)(h:∀ k d,k<n->Q k { s with drawn:=d }):wpAny M A (choose src n) Q E s:=fun Γ p hΓ=>by
 unfold choose
 rw[Sem.wp_choose]
 refine⟨hn,?_⟩
 rw[Sem.wp]
 exact h _ _ (Nat.mod_lt _ (Nat.pos_of_ne_zero hn))
theorem gq{α:Type}:∀ (l:List α) (k:Nat) (hk:k<l.length),(l[k]::l.eraseIdx k).Perm l
 | a::l,0,_=>.refl _
 | a::l,k+1,hk=>by
  have ih:=gq l k (Nat.lt_of_succ_lt_succ hk)
  exact(List.Perm.swap a _ _).trans (ih.cons a)
theorem eQ{M:Model}{A:Around}{α:Type}{E:Value->Shared->Prop}:∀ (n:Nat) (xs:List α) {s:Shared} {Q:List α->Shared->Prop},xs.length=n->(∀ ys d,ys.Perm xs->Q ys { s with drawn:=d })->wpAny M A (drawOrder n xs) Q E s
 | 0,xs,s,Q,hn,h=>by
  obtain rfl:xs=[]:=List.eq_nil_of_length_eq_zero hn
  exact wpAny_pure (h [] s.drawn .nil)
 | n+1,xs,s,Q,hn,h=>by
  cases xs with
  | nil=>cases hn
  | cons x l=>
   show wpAny M A (_ >>= _) Q E s
   refine wpAny_bind (kD (by simp) fun k d hk=>?_)
   rw[List.getElem?_eq_getElem hk]
   dsimp only
   refine wpAny_bind (eQ n ((x::l).eraseIdx k) (by rw[List.length_eraseIdx_of_lt hk,hn];rfl) fun ys d' hp=>?_)
   refine wpAny_pure (h _ d' ?_)
   refine List.Perm.trans (List.Perm.cons _ hp) ?_
   exact gq _ _ hk
noncomputable def kU:Value->Str
 | .str x _=>x
 | _=>""
noncomputable def cp(es:Array (Int×Value))(ep:Nat)(t:SetTable):Obj:={ cls:=.type "set",dict:=none,data:=.set es ep t,slots:=#[] }
noncomputable def ij(prog:Program)(w:World)(es:List (Int×Value)):Prop:=∀ e∈es,∃ x t,e=((PySem.strKind prog w).hash x,.str x t)
structure gB(prog:Program)(w:World)(o:Obj)(xs:List Str):Prop where
 ex:∃ es ep t,o=cp es ep t/\ij prog w es.toList/\(es.toList.map fun e=>kU e.2).Perm xs/\es.size<64/\t.fits es.size=true/\(es.size≠0->t.plain=false)/\(t.led=true\/w.params.followText "set-order" = true)
 nodup:xs.Nodup
theorem kG(t:SetTable)(es:Array (Int×Value))(h:Int)(x:Value):(layNew t es h x).2.1.led=t.led/\((layNew t es h x).2.1.plain=true->t.plain=true):=by
 have so:∀ (t:SetTable) (n:Nat),(t.orStandIn n).led=t.led/\((t.orStandIn n).plain=true->t.plain=true):=fun t n=>by
  unfold SetTable.orStandIn
  split
  ·exact⟨rfl,id⟩
  ·exact⟨rfl,fun h=>by cases h⟩
 unfold layNew
 split
 ·rename_i slot wasDummy _
  exact so (t.put slot).1 _
 ·exact⟨rfl,fun h=>by cases h⟩
theorem iI(t:SetTable)(es:Array (Int×Value))(n:Nat):(relayAll t es n).2.1.led=t.led/\((relayAll t es n).2.1.plain=true->t.plain=true):=by
 unfold relayAll
 split
 ·rename_i t' order e
  have key:t'.led=t.led/\t'.plain=t.plain:=by
   unfold SetTable.relaid SetTable.laid at e
   cases q:SetTable.layClean (SetTable.sizeAbove n - 1) (es.map (·.1)) with
   | none=>rw[q]at e;cases e
   | some z=>rw[q]at e;cases e;exact⟨rfl,rfl⟩
  dsimp only
  split
  ·exact⟨key.1,fun h=>by rw[<-key.2];exact h⟩
  ·exact⟨rfl,fun h=>by cases h⟩
 ·exact⟨rfl,fun h=>by cases h⟩
section
variable {prog:Program}{w:World}{A:Around}{E:Value->Shared->Prop}{s:Shared}
theorem ij.elems{es:List (Int×Value)}(h:ij prog w es):ElemsOf (PySem.strKind prog w) es:=fun e he=>by
 obtain⟨x,t,rfl⟩:=h e he
 exact⟨⟨x,strKind_is _ _ x t,rfl⟩,rfl⟩
theorem ij.perm{es es':List (Int×Value)}(h:ij prog w es)(p:es'.Perm es):ij prog w es':=fun e he=>h e (p.mem_iff.mp he)
theorem pP{k x:Str}{t:Tok}:(PySem.strKind prog w).is k (.str x t)=true↔x=k:=by
 constructor
 ·intro h
  exact(PySem.strKind prog w).inj _ _ _ (strKind_is _ _ x t) h
 ·intro h;subst h;exact strKind_is _ _ x t
theorem qf {a : Addr} {o : Obj} {xs : List Str} {x : Str} {tk : Tok} {Q : Bool → Shared → Prop} (ho : s.heap.get? a = some o) (T : gB prog w o xs) (hz : xs.length < 60)
    (h : ∀ b h' o', Heap.SameBut a s.heap h' → h'.get? a = some o' → gB prog w o' (if x ∈ xs then xs else xs ++ [x]) → Q b { s with heap := h' }) :
    wpAny (model prog w) A (setAddHashed a (.str x tk) ((PySem.strKind prog w).hash x)) Q E s := by
  obtain ⟨es, ep, t, rfl, htx, hp, hb, hf, hpl, hled⟩ := T.ex
  have hd : (cp es ep t).data = .set es ep t := rfl
  have hlen : es.size = xs.length := by rw [← hp.length_eq, List.length_map, Array.length_toList]
  have hel := htx.elems
  unfold setAddHashed setAddHashedIn
  refine wpAny_holding (wpAny_bind (wpAny_setState_of ho hd hf ?_))
  dsimp only
  rw [byScan_of (x := .str x tk) rfl (Nat.lt_trans hb (by decide)) hel]
  simp only [↓reduceIte]
  unfold setAddByScan
  refine wpAny_bind (wpAny_bind (wpAny_rule (wpAny_bind (wpAny_setScan_of (strKind_is _ _ x tk) ho hd hf hel ?_))))
  have hfind : ∀ (es : List (Int × Value)), ij prog w es → ((es.findIdx? fun e => (PySem.strKind prog w).is x e.2).isSome = true ↔ x ∈ es.map fun e => kU e.2) := fun es htx => by
    rw [List.findIdx?_isSome, List.any_eq_true, List.mem_map]
    constructor
    · rintro ⟨e, he, q⟩
      obtain ⟨y, u, rfl⟩ := htx e he
      exact ⟨_, he, pP.mp q⟩
    · rintro ⟨e, he, q⟩
      obtain ⟨y, u, rfl⟩ := htx e he
      exact ⟨_, he, pP.mpr q⟩
  have hmem : ((es.toList.findIdx? fun e => (PySem.strKind prog w).is x e.2).isSome = true ↔ x ∈ xs) := (hfind _ htx).trans hp.mem_iff
  cases hr : List.findIdx? (fun e => (PySem.strKind prog w).is x e.2) es.toList with
  | some j =>
    rw [hr] at hmem
    have hx := hmem.mp rfl
    dsimp only
    refine wpAny_pure (wpAny_pure ?_)
    have e : s = { s with heap := s.heap } := by cases s; rfl
    rw [e]
    refine h false s.heap _ (Heap.SameBut.refl a s.heap) ho ?_
    rw [if_pos hx]; exact T
  | none =>
    rw [hr] at hmem
    have hx : x ∉ xs := fun q => by have := hmem.mpr q; cases this
    dsimp only
    have hgw : ∀ (b : Bool) {s₁ : Shared} {Q' : Unit → Shared → Prop}, Q' () s₁ → wpAny (model prog w) A (match b with | true => rule "set.scan.the-table-gave-way" | false => pure ()) Q' E s₁ :=
      fun b s₁ Q' hq => by cases b <;> first | exact wpAny_pure hq | exact wpAny_rule hq
    have hperm := layNew_perm t es ((PySem.strKind prog w).hash x) (.str x tk)
    have hfits := layNew_fits t es ((PySem.strKind prog w).hash x) (.str x tk)
    have hkeep := kG t es ((PySem.strKind prog w).hash x) (.str x tk)
    generalize layNew t es ((PySem.strKind prog w).hash x) (.str x tk) = L at hperm hfits hkeep ⊢
    obtain ⟨es1, t1, wasDummy, gave⟩ := L
    dsimp only at hperm hfits hkeep ⊢
    rw [Array.toList_push] at hperm
    have htx1 : ij prog w es1.toList := fun e he => by
      rcases List.mem_append.mp (hperm.mem_iff.mp he) with q | q
      · exact htx e q
      · rw [List.mem_singleton] at q; exact ⟨x, tk, q⟩
    have hp1 : (es1.toList.map fun e => kU e.2).Perm (xs ++ [x]) := by
      refine (hperm.map _).trans ?_
      rw [List.map_append]
      exact hp.append_right _
    have hsz1 : es1.size = es.size + 1 := by rw [← Array.length_toList, hperm.length_eq, List.length_append, Array.length_toList]; rfl
    have hb1 : es1.size < 64 := by lia
    have fin : ∀ (es2 : Array (Int × Value)) (ep2 : Nat) (t2 : SetTable), es2.toList.Perm es1.toList → t2.fits es2.size = true → t2.plain = false → t2.led = t.led → gB prog w (cp es2 ep2 t2) (if x ∈ xs then xs else xs ++ [x]) := fun es2 ep2 t2 p2 f2 pl2 l2 => by
      rw [if_neg hx]
      refine ⟨⟨es2, ep2, t2, rfl, htx1.perm p2, (p2.map _).trans hp1, ?_, f2, fun _ => pl2, by rw [l2]; exact hled⟩, ?_⟩
      · rw [← Array.length_toList, p2.length_eq, Array.length_toList]; exact hb1
      · rw [List.nodup_append]
        exact ⟨T.nodup, by simp, fun a ha b hb e => by rw [List.mem_singleton] at hb; subst hb; exact hx (e ▸ ha)⟩
    refine wpAny_bind (hgw _ ?_)
    -- by value?
    have tail : ∀ (t2 : SetTable), t2.fits es1.size = true → t2.plain = false → t2.led = t.led → wpAny (model prog w) A (do
        storeSet a es1 t2
        if (!wasDummy && t2.tooFull) = true then do
            (match (relayAll t2 es1 (SetTable.grown es1.size)).2.2 with | true => rule "set.scan.the-table-gave-way" | false => pure ())
            storeSet a (relayAll t2 es1 (SetTable.grown es1.size)).1 (relayAll t2 es1 (SetTable.grown es1.size)).2.1
            pure (some true)
          else pure (some true)) (fun r s₁ => ∃ b, r = some b ∧ Q b s₁) E s := fun t2 f2 pl2 l2 => by
      refine wpAny_bind (wpAny_storeSet_of ho hd ?_ (Nat.le_trans (Nat.le_of_lt hb1) (by decide)))
      have hg1 := Heap.get?_update_self (Obj.putSet es1 t2) ho (by rw [putSet_of es1 t2 hd]; rfl)
      rw [putSet_of es1 t2 hd] at hg1
      have hsb1 := Heap.SameBut.update s.heap a (Obj.putSet es1 t2)
      split
      · have q1 := relayAll_perm t2 es1 (SetTable.grown es1.size)
        have q2 := relayAll_fits t2 es1 (SetTable.grown es1.size)
        have q3 := iI t2 es1 (SetTable.grown es1.size)
        generalize relayAll t2 es1 (SetTable.grown es1.size) = R at q1 q2 q3 ⊢
        obtain ⟨es2, t3, gave2⟩ := R
        dsimp only at q1 q2 q3 ⊢
        refine wpAny_bind (hgw _ ?_)
        have hsz2 : es2.size = es1.size := by rw [← Array.length_toList, q1.length_eq, Array.length_toList]
        refine wpAny_bind (wpAny_storeSet_of hg1 rfl ?_ (by rw [hsz2]; exact Nat.le_trans (Nat.le_of_lt hb1) (by decide)))
        have hg2 := Heap.get?_update_self (Obj.putSet es2 t3) hg1 (by rw [putSet_of es2 t3 rfl]; rfl)
        rw [putSet_of es2 t3 rfl] at hg2
        refine wpAny_pure ⟨true, rfl, h true _ _ (hsb1.trans (Heap.SameBut.update _ a _)) hg2 (fin es2 _ t3 q1 q2 ?_ (q3.1.trans l2))⟩
        cases z : t3.plain with
        | false => rfl
        | true => have := q3.2 z; rw [pl2] at this; cases this
      · exact wpAny_pure ⟨true, rfl, h true _ _ hsb1 hg1 (fin es1 _ t2 (.refl _) f2 pl2 l2)⟩
    cases hpl1 : t1.plain with
    | true =>
      rw [if_pos rfl, hashByValue_scannable 8 (x := .str x tk) rfl]
      refine wpAny_bind (wpAny_pure ?_)
      exact wpAny_mono (tail { t1 with plain := false } (SetTable.fits_plain_off hfits) rfl hkeep.1) (fun r s1 ⟨b, e, q⟩ => by subst e; exact wpAny_pure q) fun _ _ e => e
    | false =>
      rw [if_neg Bool.false_ne_true]
      refine wpAny_bind (wpAny_pure ?_)
      exact wpAny_mono (tail t1 hfits hpl1 hkeep.1) (fun r s1 ⟨b, e, q⟩ => by subst e; exact wpAny_pure q) fun _ _ e => e
end
section
variable {prog:Program}{w:World}{A:Around}{R:Result->Shared->Prop}{I:Addr}{fp wr:List Addr}{G:Array GenState->Array GenState->Prop}{n:Nat}{P:Nat->Value->Prop}{St:Nat->Shared->Prop}
theorem qz{ss:List Str}(Wk:WalksS prog w A.in1 I fp wr G ss.length P St)(S:Addr)(hSf:S∉fp)(hval:∀ i v,P i v->∃ t,v = .str (ss.getD i "") t)(hb:ss.length<60) :
  ∀ (k i:Nat) (s:Shared) (o:Obj),ss.length - i=k->i≤ss.length->St i s->s.heap.get? S=some o->gB prog w o (bf (ss.take i))->
   (∀ s' o',Moved (S::wr) G s s'->s'.heap.get? S=some o'->gB prog w o' (bf ss)->R (.ok (.ret .none)) s')->
   codeAny (model prog w) A (.builtin "set.update.loop" ⟨[.ref S,.ref I],[]⟩) R s:=by
 have hSw:S∉wr:=fun h=>hSf (Wk.sub _ h)
 have hsub:∀ b∈wr,b∈S::wr:=fun b hb=>List.mem_cons_of_mem _ hb
 intro k
 induction k with
 | zero=>
  intro i s o hk hi hst ho T hR
  obtain rfl:i=ss.length:=by lia
  rw[List.take_length]at T
  refine codeAny_builtin PyProof.Rows.F.entry_set_update_loop ?_
  rw[Around.under_plainId PyProof.Rows.F.plain_set_update_loop _]
  show wpAny _ A.in1 (pyNext (.ref I) >>= _) _ _ s
  refine wpAny_bind (Wk.done s _ _ hst fun s' hm=>?_)
  show wpAny _ A.in1 (ret Value.none) _ _ s'
  exact wpAny_pure (hR s' o (hm.mono hsub) (hm.heap S _ hSw ho) T)
 | succ k ih=>
  intro i s o hk hi hst ho T hR
  have hlt:i<ss.length:=by lia
  refine codeAny_builtin PyProof.Rows.F.entry_set_update_loop ?_
  rw[Around.under_plainId PyProof.Rows.F.plain_set_update_loop _]
  show wpAny _ A.in1 (pyNext (.ref I) >>= _) _ _ s
  refine wpAny_bind (Wk.item i s _ _ hlt hst fun v s' hP hst' hm=>?_)
  obtain⟨t,rfl⟩:=hval i v hP
  have ho':=hm.heap S _ hSw ho
  show wpAny _ A.in1 (holding [Value.str (ss.getD i "") t] (setAdd S (.str (ss.getD i "") t)) >>= _) _ _ s'
  refine wpAny_bind (wpAny_holding ?_)
  unfold setAdd
  refine wpAny_holding ?_
  refine wpAny_bind ((PySem.strKind prog w).pyHash (k:=ss.getD i "") (strKind_is _ _ _ _) ?_)
  have hdl:(bf (ss.take i)).length<60:=by have:=fO (ss.take i);rw[List.length_take]at this;lia
  refine qf (s:={ s' with toks:=s'.toks+1 }) ho' T hdl fun b h' o' hsb hg T'=>?_
  have hx:ss[i]? = some (ss.getD i ""):=by rw[List.getD_eq_getElem?_getD,List.getElem?_eq_getElem hlt];rfl
  have hstep:(if ss.getD i ""∈bf (ss.take i) then bf (ss.take i) else bf (ss.take i)++[ss.getD i ""])=bf (ss.take (i+1)):=by rw[aK hx,gj]
  rw[hstep]at T'
  refine wpAny_pure ⟨plainId_quiet PyProof.Rows.F.plain_set_update_loop _,ih (i+1) _ o' (by lia) hlt (Wk.frame _ s' _ _ hst' (Nat.le_succ _) fun b hb o e=>?_) hg T' fun s'' o'' hm'' hg'' T''=>?_⟩
  ·rw[hsb.2 b (fun h:b=S=>hSf (by rw[<-h];exact hb))];exact e
  ·refine hR s'' o'' (Moved.trans Wk.gtrans ((hm.mono hsub).then_heap (Nat.le_succ _) fun b o hb e=>?_) hm'') hg'' T''
   rw[hsb.2 b (fun h:b=S=>hb (by rw[h];exact List.mem_cons_self))];exact e
end
section
variable {prog:Program}{w:World}{A:Around}{E:Value->Shared->Prop}{s:Shared}
theorem mj:gB prog w (cp #[] 0 (.fresh 0 0 (!w.params.followText "set-order"))) []:=
 ⟨⟨#[],0,_,rfl,fun e he=>by simp at he,by simp,by decide,by rfl,fun h=>absurd rfl h,by cases w.params.followText "set-order"<;>simp[SetTable.fresh]⟩,List.nodup_nil⟩
theorem mr(a:Value){Q₁:Value->Shared->Prop}(h:Q₁ (.ref s.heap.objs.size) { s with heap:=s.heap.push (cp #[] 0 (.fresh 0 0 (!w.params.followText "set-order"))) }) :
  codeAny (model prog w) A (.call (.builtin "set.__new__") ⟨[.type "set",a],[]⟩) (wants Q₁ E) s:=by
 refine codeAny_of_tree ?_
 show wpAny _ A.in1 (do checkBuiltinCall "set.__new__" ⟨[.type "set",a],[]⟩;again (.builtin "set.__new__" ⟨[.type "set",a],[]⟩)) _ _ s
 refine wpAny_bind (wpAny_of_eq (PySem.F.newCall_set_1 a) (wpAny_pure ⟨plainId_quiet PySem.F.plain_set_new _,codeAny_builtin PySem.F.entry_set_new ?_⟩))
 rw[Around.under_plainId PySem.F.plain_set_new _]
 unfold Builtin.«set.__new__» Builtin.Frozenset.newClass
 have hsub:=PySem.sub_set_self
 obtain⟨hp,g,d,tk,os⟩:=s
 dsimp only
 wp_walk
 refine wpAny_askSetting (wpAny_pure ?_)
 dsimp only
 simp only [newObj]
 refine wpAny_bind (wpAny_alloc (wpAny_pure ?_))
 exact wpAny_pure h
theorem iZ:∀ {vs:List Value} {ss:List Str} {i:Nat} {v:Value},StrsAre vs ss->vs[i]? = some v->∃ t,v = .str (ss.getD i "") t
 | _,_,i,v,.nil,h=>by simp at h
 | _,_,0,v,.cons n t hr,h=>by simp at h;exact⟨t,by rw[<-h];rfl⟩
 | _,_,i+1,v,.cons n t hr,h=>by
  simp only [List.getElem?_cons_succ]at h
  obtain⟨t',e⟩:=iZ hr h
  exact⟨t',by rw[e];rfl⟩
set_option maxHeartbeats 4000000 in
theorem j9{T newId initId:String}{args:List Value}{Q Q₁:Value->Shared->Prop}(ft:TypeCalled T newId initId)
  (hct:checkTypeCall T ⟨args,[]⟩=pure ()) (hnew:codeAny (model prog w) A.in1 (.call (.builtin newId) ⟨.type T::args,[]⟩) (wants Q₁ E) s)
  (hnext:∀ obj s₁,Q₁ obj s₁->s₁.TypeIs obj T/\codeAny (model prog w) A.in1 (.call (.builtin initId) ⟨obj::args,[]⟩) (wants (fun r s₂=>r = .none/\Q obj s₂) E) s₁) :
  wpAny (model prog w) A (call (.type T) args) Q E s:=by
 obtain⟨c,tl,hmro⟩:=ft.mro
 have hmade:=ft.made
 have hsub:=ft.sub
 refine wpAny_call (codeAny_of_tree ?_)
 show wpAny _ _ (callAny (.type T) _) _ _ _
 refine wpAny_pure ⟨Code.quiet_builtin _ (by decide +kernel),codeAny_builtin PySem.F.entry_type_call ?_⟩
 rw[Around.under_plain (weight_type_call_type T args []) rfl]
 have h1:=ft.notType
 have h2:=ft.canCreate
 repeat (any_goals (first|assumption|wp_step))
 refine codeAny_mono hnew fun r s₁ hr=>?_
 cases r with
 | error e=>exact hr
 | ok fl=>
  cases fl with
  | ret obj=>
   obtain⟨hT,hcode⟩:=hnext obj s₁ hr
   have hli:=ft.init.lookup
   have hbi:=ft.init.bind obj
   repeat (any_goals (first|assumption|wp_step))
   refine codeAny_mono hcode fun r₂ s₂ hr₂=>?_
   cases r₂ with
   | error e=>exact hr₂
   | ok fl₂=>
    cases fl₂ with
    | ret r=>
     obtain⟨rfl,hq⟩:=hr₂
     repeat (any_goals (first|assumption|wp_step))
    | _=>exact hr₂.elim
  | _=>exact hr.elim
end
section
variable {prog:Program}{w:World}{A:Around}{E:Value->Shared->Prop}{s:Shared}
set_option maxHeartbeats 4000000 in
theorem init_T{l S:Addr}{items:Array Value}{ss:List Str}{so:Obj}{nl:Nat}{Q:Value->Shared->Prop}(hh:A.handled=none)(hS:s.heap.get? S=some so)(Tso:gB prog w so [])(hso:so=cp #[] 0 (.fresh 0 0 (!w.params.followText "set-order")))
  (hl1:s.heap.IsList l items) (hlS:l≠S) (hi:StrsAre items.toList ss) (hb:ss.length<60)
  (h:∀ (h':Heap) (tk:Nat) o,h'.get? S=some o->gB prog w o (bf ss)->(∀ b o,b≠S->s.heap.get? b=some o->h'.get? b=some o)->Q .none { s with heap:=h',toks:=tk }) :
  codeAny (model prog w) A (.call (.builtin "set.__init__") ⟨[.ref S,.ref l],[]⟩) (wants Q E) s:=by
 have hsc:so.cls = .type "set":=by rw[hso];rfl
 have hT:Shared.TypeIs s (.ref S) "set":=⟨_,hS,hsc⟩
 have hlen:items.size=ss.length:=by rw[<-Array.length_toList];exact hi.length
 have hlS2:l<s.heap.objs.size:=by obtain⟨o,ho,_⟩:=hl1;exact Heap.lt_size ho
 have hSS:S<s.heap.objs.size:=Heap.lt_size hS
 refine codeAny_call_builtin PySem.F.called_set.init.plain PySem.F.entry_set_init (check_set_init_1 hT ?_)
 have hused:∀ {E':Value->Shared->Prop} {A':Around} {Q':Bool->Shared->Prop},Q' false s->wpAny (model prog w) A' (setUsed S) Q' E' s:=fun {E' A' Q'} q=>by
  unfold setUsed
  refine wpAny_bind (wpAny_setState_of (es:=#[]) (ep:=0) (t:=.fresh 0 0 (!w.params.followText "set-order")) hS (by rw[hso];rfl) rfl ?_)
  exact wpAny_pure q
 have hl0:=hl1
 obtain⟨ol,hol,hcl,nl,hdl⟩:=hl1
 obtain⟨ocls,odict,odata,oslots⟩:=ol
 simp only at hcl hdl
 subst hcl;subst hdl
 have hsls:=PySem.F.sub_list_set
 have hslf:=PySem.F.sub_list_frozenset
 have hne:(Value.type "list" == Value.type "dict")=false:=by decide
 unfold Builtin.«set.__init__» noKeywords Builtin.Frozenset.updateFrom
 generalize hPI:pyIter=PI at *
 generalize hSU:setUsed=SU at *
 wp_walk
 refine hused ?_
 wp_walk
 subst hPI
 refine wpAny_pyIter_list hl0 ?_
 refine wpAny_bind (wpAny_runValue ?_)
 have hh3:A.in1.in1.handled=none:=by simp[hh]
 have hneI:l≠s.heap.objs.size:=Nat.ne_of_lt hlS2
 have hSf:S∉[s.heap.objs.size,l]:=by
  simp only [List.mem_cons,List.not_mem_nil,or_false,not_or]
  exact⟨Nat.ne_of_lt hSS,Ne.symm hlS⟩
 have hval:∀ (i:Nat) (v:Value),items[i]? = some v->∃ t,v = .str (ss.getD i "") t:=fun i v hv=>iZ hi (by rw[Array.getElem?_toList];exact hv)
 have W0:=(Walks.list (prog:=prog) (w:=w) hh3 _ l hneI items).toS
 rw[hlen]at W0
 refine qz W0 S hSf hval hb (ss.length - 0) 0 _ so (by lia) (Nat.zero_le _) ⟨⟨_,Heap.get?_push_size _ rfl,rfl,rfl⟩,(hl0.push _)⟩ (Heap.get?_push_of_some _ hS) Tso ?_
 intro s' o' hm hg T'
 obtain⟨h',g',d',tk',os'⟩:=s'
 have eg:g'=s.gens:=hm.gens
 have ed:d'=s.drawn:=hm.drawn
 have eo:os'=s.os:=hm.os
 subst eg;subst ed;subst eo
 show wpAny _ _ _ _ _ _
 refine wpAny_pure ?_
 show wpAny _ _ (ret Value.none) _ _ _
 refine wpAny_pure (h h' tk' o' hg T' fun b o hb e=>?_)
 have hb2:b≠s.heap.objs.size:=Nat.ne_of_lt (Heap.lt_size e)
 exact hm.heap b o (by simp only [List.mem_cons,List.not_mem_nil,or_false,not_or];exact⟨hb,hb2⟩) (Heap.get?_push_of_some _ e)
end
section
variable {prog:Program}{w:World}{A:Around}{E:Value->Shared->Prop}{s:Shared}
theorem mR{l:Addr}{items:Array Value}{ss:List Str}{Q:Value->Shared->Prop}(hh:A.handled=none)(hl:s.heap.IsList l items)(hi:StrsAre items.toList ss)(hb:ss.length<60)
  (h:∀ (h':Heap) (tk:Nat) o,h'.get? s.heap.objs.size=some o->gB prog w o (bf ss)->(∀ b o,s.heap.get? b=some o->h'.get? b=some o)->Q (.ref s.heap.objs.size) { s with heap:=h',toks:=tk }) :
  wpAny (model prog w) A (call (.type "set") [.ref l]) Q E s:=by
 obtain⟨so,hso⟩:∃ so,so=cp #[] 0 (.fresh 0 0 (!w.params.followText "set-order")):=⟨_,rfl⟩
 refine j9 PySem.F.called_set (PySem.F.typeCall_set_1 (.ref l)) (mr (.ref l) (E:=E) (Q₁:=fun obj s₁=>obj = .ref s.heap.objs.size/\s₁={ s with heap:=s.heap.push so }) ⟨rfl,by rw[hso]⟩) ?_
 rintro obj s₁ ⟨rfl,rfl⟩
 have hS:(s.heap.push so).get? s.heap.objs.size=some so:=Heap.get?_push_size _ (by rw[hso];rfl)
 have hlS:l≠s.heap.objs.size:=by obtain⟨o,ho,_⟩:=hl;exact Nat.ne_of_lt (Heap.lt_size ho)
 refine⟨⟨so,hS,by rw[hso];rfl⟩,?_⟩
 refine init_T (s:={ s with heap:=s.heap.push so }) (nl:=0) hh hS (hso▸mj) hso (hl.push _) hlS hi hb fun h' tk o hg T' hk=>⟨rfl,?_⟩
 exact h h' tk o hg T' fun b o e=>hk b o (Nat.ne_of_lt (Heap.lt_size e)) (Heap.get?_push_of_some _ e)
end
section
variable {W:Wd}{A:Around}{env:Env}{outer:ay}{loc:Loc}{mem R:Mem}{E:Ex W}{F:Frz}{s:Shared}
theorem l7{v:V}{ss:List Str}{Q:V->Loc->Mem->Prop}(hh:A.handled=none)(q:Sq mem v "list" (ae ss))(hz:ss.length<60)(h:∀ a o,mem a=none->gB W.prog W.w o (bf ss)->Q (.ref a) loc (ap mem a (.raw o))) :
  OpV W A env outer (fun vs=>call (.type "set") vs) [v] loc mem Q E:=op1 fun R F s v' S r=>by
 obtain⟨a,vs,n,rfl,ho,rs⟩:=q.at S r
 refine mR hh ⟨_,ho,rfl,n,rfl⟩ rs.strs hz fun h' tk o hg T hk=>?_
 exact aE.mk (.ref _) (S.alloc (t:=tk) (d:=s.drawn) (x:=.raw o) (aH s.heap) S.size_le hk hg .raw) (h _ o (S.free (aH s.heap)).1 T)
end
theorem aZ:Slot "set_iterator" "__next__" "set_iterator.__next__":=.of (owner:="set_iterator") (n:="__next__") (by rw[typeLookup_type,builtinLookup_eq_fast];kernel_rfl) (by decide +kernel) (by decide +kernel) (by decide +kernel) (by first|exact .inl (by decide +kernel)|exact .inr (by decide +kernel)) (by rw[isSubtype_type];kernel_rfl)
theorem cH:entryFor table "set_iterator.__next__" = some Builtin.«set_iterator.__next__»:=entryFor_of_tree (by kernel_rfl)
theorem lO:Manifest.owners.lookup (String.ofList ['r','o','t','a','r','e','t','i','_','t','e','s'].reverse)=some Manifest.sig_set_iterator:=by kernel_rfl
theorem iC:entryFor table "set.__iter__" = some Builtin.«frozenset.__iter__»:=entryFor_alias (id':="frozenset.__iter__") (by kernel_rfl) rfl (by decide +kernel) (by kernel_rfl)
theorem cR(a:Value):argsOk "set_iterator.__next__" ⟨[a],[]⟩:=by
 unfold argsOk;rw[signature?_of (id:="set_iterator.__next__") (n:=['_','_','t','x','e','n','_','_']) (o:=['r','o','t','a','r','e','t','i','_','t','e','s']) (by kernel_rfl) lO];kernel_rfl
noncomputable def cm(first:Value)(i:Nat)(a:Addr)(n ep:Nat):Obj:={ cls:=.type "set_iterator",dict:=none,data:=.fields #[first,.int i 0,.ref a,.int n 0,.int ep 0],slots:=#[] }
section
variable {prog:Program}{w:World}{A:Around}{E:Value->Shared->Prop}{s:Shared}{a:Addr}{es:Array (Int×Value)}{ep:Nat}{t:SetTable}
theorem kQ{Q:Bool->Shared->Prop}(ho:s.heap.get? a=some (cp es ep t))(hf:t.fits es.size=true)(h:Q (!w.params.followText "set-order"&&(!t.plain&&decide (es.size > 1))) s):wpAny (model prog w) A (setDrawn a) Q E s:=by
 unfold setDrawn
 refine wpAny_bind (wpAny_setState_of ho rfl hf ?_)
 dsimp only
 unfold setsByText
 refine wpAny_bind (wpAny_bind (wpAny_askSetting (wpAny_pure ?_)))
 exact wpAny_pure h
theorem mw{Q:Value->Shared->Prop}(ho:s.heap.get? a=some (cp es ep t))(hf:t.fits es.size=true)(hz:es.size<64)
  (h1:(!w.params.followText "set-order"&&(!t.plain&&decide (es.size > 1)))=false->Q (.ref s.heap.objs.size) { s with heap:=s.heap.push (cm (.int 0 0) 0 a es.size ep) })
  (h2:(!w.params.followText "set-order"&&(!t.plain&&decide (es.size > 1)))=true->∀ (ps:List Nat) (d:Drawn),ps.Perm (List.range es.size)->
   Q (.ref (s.heap.objs.size+1)) { s with heap:=(s.heap.push { cls:=.type "tuple",data:=.seq (ps.map fun i=>rawInt (i:Nat)).toArray }).push (cm (.ref s.heap.objs.size) 0 a es.size ep),drawn:=d }) :
  wpAny (model prog w) A (pyIter (.ref a)) Q E s:=by
 have hT:s.TypeIs (.ref a) "set":=⟨_,ho,rfl⟩
 refine wpAny_pyIter_slot hT PySem.F.slot_set_iter (wpAny_call_entry PySem.F.slot_set_iter hT iC ?_ (PySem.F.args_set_iter_1 _))
 unfold Builtin.«frozenset.__iter__» Builtin.Frozenset.slot0 slotArgs
 simp only [List.isEmpty_nil,Bool.not_true,Bool.false_eq_true,↓reduceIte,bind_assoc,List.length_nil,bne_self_eq_false]
 unfold Builtin.Frozenset.addrOf Builtin.Frozenset.sizeOf
 refine wpAny_bind (wpAny_pure ?_)
 try dsimp only
 refine wpAny_bind (wpAny_pure ?_)
 refine wpAny_bind (wpAny_bind (wpAny_setEntries_of ho rfl hf (wpAny_pure ?_)))
 refine wpAny_bind (kQ ho hf ?_)
 cases hdr:(!w.params.followText "set-order"&&(!t.plain&&decide (es.size > 1))) with
 | false=>
  rw[if_neg Bool.false_ne_true]
  refine wpAny_bind (wpAny_pure ?_)
  refine wpAny_bind (wpAny_setEpoch_of ho rfl hf ?_)
  refine wpAny_bind ?_
  simp only [newFields]
  refine wpAny_newObj_type ?_ (by size_fits)
  exact wpAny_pure ⟨_,rfl,"set_iterator",_,⟨_,Heap.get?_push_size _ rfl,rfl⟩,aZ.lookup,h1 hdr⟩
 | true=>
  rw[if_pos rfl]
  refine wpAny_bind (eQ es.size (List.range es.size) (List.length_range) fun ps d hp=>?_)
  have hpl:ps.length=es.size:=by rw[hp.length_eq,List.length_range]
  refine wpAny_bind ?_
  simp only [newTuple]
  refine wpAny_newObj_type ?_ (by show List.length _≤_;rw[List.length_map,hpl];exact Nat.le_trans (Nat.le_of_lt hz) (by decide))
  refine wpAny_bind (wpAny_setEpoch_of (Heap.get?_push_of_some _ ho) rfl hf ?_)
  refine wpAny_bind ?_
  simp only [newFields]
  refine wpAny_newObj_type ?_ (by size_fits)
  have:=h2 hdr ps d hp
  refine wpAny_pure ⟨_,rfl,"set_iterator",_,⟨_,Heap.get?_push_size _ rfl,rfl⟩,aZ.lookup,?_⟩
  rw[Heap.size_push]
  exact this
end
section
variable {prog:Program}{w:World}{A:Around}{E:Value->Shared->Prop}{s:Shared}{a it tp:Addr}{es:Array (Int×Value)}{ep i slot:Nat}{t:SetTable}
theorem ec{h:Heap}{k:Nat}{x first:Value}{i':Int}(ho:h.get? it=some { cls:=.type "set_iterator",dict:=none,data:=.fields #[first,.int i' 0,.ref a,.int es.size 0,.int ep 0],slots:=#[] }) :
  (h.update it (Obj.mapFields (·.setIfInBounds k x))).get? it=some { cls:=.type "set_iterator",dict:=none,data:=.fields (#[first,.int i' 0,.ref a,.int es.size 0,.int ep 0].setIfInBounds k x),slots:=#[] }:=by
 have:=Heap.get?_update_self (Obj.mapFields (·.setIfInBounds k x)) ho (Obj.isFreed_of_fields (Obj.data_mapFields (vs:=#[first,.int i' 0,.ref a,.int es.size 0,.int ep 0]) rfl _))
 rw[this];rfl
theorem jZ{Q:Option Value->Shared->Prop}{P:Fin->Shared->Prop}{s0:Heap}(hh:A.handled=none)(hb:Heap.ExtBut it s0 s.heap)(hQ:∀ h',Heap.ExtBut it s0 h'->Q none { s with heap:=h' }) :
  wpAny (model prog w) A.in1 (do raiseNew (<-newExc (.type "StopIteration") []):Sem Fin) P (fun e s'=>wpAny (model prog w) A (match (Except.error e:Except Value (Option Value)) with
   | .ok (some v)=>pure (some v)
   | .ok none=>unsupported "iter:the-iterator's-class-has-lost-its-__next__-amid-the-walk"
   | .error e=>do if<-isInstance e (.type "StopIteration") then pure none else throw e) Q E s') s:=by
 refine wpAny_bind ?_
 simp only [newExc,newTuple]
 refine wpAny_bind (wpAny_newObj_type ?_ (by size_fits))
 refine wpAny_bind (m:=firstArgMember _ _) (wpAny_of_eq (a:=Value.none) (by first|rfl|(simp only [firstArgMember];rfl)) ?_)
 refine wpAny_newObj_type ?_ (by size_fits)
 delta raiseNew
 dsimp only
 refine wpAny_bind (wpAny_handled ?_)
 rw[show A.in1.handled=none from hh]
 refine wpAny_bind (wpAny_pure (wpAny_throw ?_))
 refine wpAny_bind (wpAny_isInstance (T:="StopIteration") (b:=true) ⟨_,Heap.get?_push_size _ rfl,rfl⟩ isSubtype_stop ?_)
 exact wpAny_pure (hQ _ ((hb.push _).push _))
theorem mq{Q:Option Value->Shared->Prop}{ps:List Nat}{p:Nat}{e:Int×Value}(hit:s.heap.get? it=some (cm (.ref tp) i a es.size ep))(ho:s.heap.get? a=some (cp es ep t))(hf:t.fits es.size=true)
  (htp:s.heap.get? tp=some { cls:=.type "tuple",data:=.seq (ps.map fun i=>rawInt (i:Nat)).toArray }) (hi:ps[i]? = some p) (hp:es[p]? = some e)
  (hQ:∀ h',h'.get? it=some (cm (.ref tp) (i+1) a es.size ep)->Heap.SameBut it s.heap h'->Q (some e.2) { s with heap:=h' }):wpAny (model prog w) A (pyNext (.ref it)) Q E s:=by
 have hT:s.TypeIs (.ref it) "set_iterator":=⟨_,hit,rfl⟩
 unfold pyNext
 refine wpAny_bind (wpAny_attempt (wpAny_callSpecial?_slot (name:=Str.ofString "__next__") hT aZ
  (wpAny_call_entry aZ hT cH ?_ (cR _))))
 unfold Builtin.«set_iterator.__next__»
 refine wpAny_bind (wpAny_of_eq (a:=(Value.ref it,[])) rfl ?_)
 refine wpAny_bind (wpAny_fieldsOf hit rfl ?_)
 refine wpAny_bind (wpAny_setEntries_of ho rfl hf ?_)
 rw[if_neg (by simp)]
 have hseq:wpAny (model prog w) A.in1 (seqItems? (.ref tp)) (fun r s'=>r=some (ps.map fun i=>rawInt (i:Nat)).toArray/\s'=s) (fun _ _=>False) s:=by
  unfold seqItems?
  exact wpAny_bind (wpAny_load htp (wpAny_pure ⟨rfl,rfl⟩))
 refine wpAny_bind (wpAny_mono hseq (fun r s' ⟨e1,e2⟩=>?_) fun _ _ f=>f.elim)
 subst e1;subst e2
 dsimp only
 rw[show(ps.map fun i=>rawInt (i:Nat)).toArray[(i:Int).toNat]? = some (rawInt (p:Nat)) from by rw[Int.toNat_natCast,List.getElem?_toArray,List.getElem?_map,hi];rfl]
 unfold setNextDrawn
 refine wpAny_bind (wpAny_bind (wpAny_setState_of ho rfl hf ?_))
 dsimp only
 rw[if_neg (by simp),Int.toNat_natCast,hp]
 refine wpAny_pure ?_
 refine wpAny_bind (wpAny_setField hit rfl (by show 1<5;decide) ?_)
 exact wpAny_pure ⟨_,rfl,wpAny_pure (hQ _ (ec hit) (Heap.SameBut.update ..))⟩
theorem iM{Q:Option Value->Shared->Prop}{ps:List Nat}(hit:s.heap.get? it=some (cm (.ref tp) i a es.size ep))(ho:s.heap.get? a=some (cp es ep t))(hf:t.fits es.size=true)
  (hh:A.handled=none) (htp:s.heap.get? tp=some { cls:=.type "tuple",data:=.seq (ps.map fun i=>rawInt (i:Nat)).toArray }) (hi:ps[i]? = none)
  (hQ:∀ h',Heap.ExtBut it s.heap h'->Q none { s with heap:=h' }):wpAny (model prog w) A (pyNext (.ref it)) Q E s:=by
 have hT:s.TypeIs (.ref it) "set_iterator":=⟨_,hit,rfl⟩
 unfold pyNext
 refine wpAny_bind (wpAny_attempt (wpAny_callSpecial?_slot (name:=Str.ofString "__next__") hT aZ
  (wpAny_call_entry aZ hT cH ?_ (cR _))))
 unfold Builtin.«set_iterator.__next__»
 refine wpAny_bind (wpAny_of_eq (a:=(Value.ref it,[])) rfl ?_)
 refine wpAny_bind (wpAny_fieldsOf hit rfl ?_)
 refine wpAny_bind (wpAny_setEntries_of ho rfl hf ?_)
 rw[if_neg (by simp)]
 have hseq:wpAny (model prog w) A.in1 (seqItems? (.ref tp)) (fun r s'=>r=some (ps.map fun i=>rawInt (i:Nat)).toArray/\s'=s) (fun _ _=>False) s:=by
  unfold seqItems?
  exact wpAny_bind (wpAny_load htp (wpAny_pure ⟨rfl,rfl⟩))
 refine wpAny_bind (wpAny_mono hseq (fun r s' ⟨e1,e2⟩=>?_) fun _ _ f=>f.elim)
 subst e1;subst e2
 dsimp only
 rw[show(ps.map fun i=>rawInt (i:Nat)).toArray[(i:Int).toNat]? = none from by rw[Int.toNat_natCast,List.getElem?_toArray,List.getElem?_map,hi];rfl]
 refine wpAny_bind (wpAny_setField hit rfl (by show 0<5;decide) ?_)
 refine wpAny_bind (wpAny_setField (ec hit) rfl (by show 2<5;decide) ?_)
 exact jZ hh ((Heap.SameBut.update ..).trans (Heap.SameBut.update ..)).extBut hQ
theorem iD{Q:Option Value->Shared->Prop}{x:Value}{nx:Nat}(hit:s.heap.get? it=some (cm (.int slot 0) i a es.size ep))(ho:s.heap.get? a=some (cp es ep t))(hf:t.fits es.size=true)
  (hn:∀ {A':Around} {E':Value->Shared->Prop} {Q':Option (Value×Nat)->Shared->Prop},Q' (some (x,nx)) s->wpAny (model prog w) A' (setNext a slot i ep) Q' E' s)
  (hQ:∀ h',h'.get? it=some (cm (.int nx 0) (i+1) a es.size ep)->Heap.SameBut it s.heap h'->Q (some x) { s with heap:=h' }):wpAny (model prog w) A (pyNext (.ref it)) Q E s:=by
 have hT:s.TypeIs (.ref it) "set_iterator":=⟨_,hit,rfl⟩
 unfold pyNext
 refine wpAny_bind (wpAny_attempt (wpAny_callSpecial?_slot (name:=Str.ofString "__next__") hT aZ
  (wpAny_call_entry aZ hT cH ?_ (cR _))))
 unfold Builtin.«set_iterator.__next__»
 refine wpAny_bind (wpAny_of_eq (a:=(Value.ref it,[])) rfl ?_)
 refine wpAny_bind (wpAny_fieldsOf hit rfl ?_)
 refine wpAny_bind (wpAny_setEntries_of ho rfl hf ?_)
 rw[if_neg (by simp)]
 refine wpAny_bind (hn ?_)
 dsimp only
 refine wpAny_bind (wpAny_setField hit rfl (by show 0<5;decide) ?_)
 refine wpAny_bind (wpAny_setField (ec hit) rfl (by show 1<5;decide) ?_)
 refine wpAny_pure ⟨_,rfl,wpAny_pure (hQ _ ?_ ((Heap.SameBut.update ..).trans (Heap.SameBut.update ..)))⟩
 have h1:=ec (k:=0) (x:=rawInt (nx:Nat)) hit
 exact ec (k:=1) (x:=rawInt ((i:Int)+1)) h1
theorem fy{Q:Option Value->Shared->Prop}(hit:s.heap.get? it=some (cm (.int slot 0) i a es.size ep))(ho:s.heap.get? a=some (cp es ep t))(hf:t.fits es.size=true)
  (hh:A.handled=none) (hn:∀ {A':Around} {E':Value->Shared->Prop} {Q':Option (Value×Nat)->Shared->Prop},Q' none s->wpAny (model prog w) A' (setNext a slot i ep) Q' E' s)
  (hQ:∀ h',Heap.ExtBut it s.heap h'->Q none { s with heap:=h' }):wpAny (model prog w) A (pyNext (.ref it)) Q E s:=by
 have hT:s.TypeIs (.ref it) "set_iterator":=⟨_,hit,rfl⟩
 unfold pyNext
 refine wpAny_bind (wpAny_attempt (wpAny_callSpecial?_slot (name:=Str.ofString "__next__") hT aZ
  (wpAny_call_entry aZ hT cH ?_ (cR _))))
 unfold Builtin.«set_iterator.__next__»
 refine wpAny_bind (wpAny_of_eq (a:=(Value.ref it,[])) rfl ?_)
 refine wpAny_bind (wpAny_fieldsOf hit rfl ?_)
 refine wpAny_bind (wpAny_setEntries_of ho rfl hf ?_)
 rw[if_neg (by simp)]
 refine wpAny_bind (hn ?_)
 dsimp only
 refine wpAny_bind (wpAny_setField hit rfl (by show 2<5;decide) ?_)
 exact jZ hh (Heap.SameBut.update ..).extBut hQ
end
structure jI(prog:Program)(w:World)(A:Around)(I:Addr)(fp:List Addr)(vs:List Value)(St:Nat->Heap->Prop):Prop where
 frame:∀ {i:Nat} {h h':Heap},St i h->(∀ b∈fp,∀ o,h.get? b=some o->h'.get? b=some o)->St i h'
 item:∀ {i:Nat} {v:Value} {s:Shared} {Q:Option Value->Shared->Prop} {E:Value->Shared->Prop},vs[i]? = some v->St i s.heap->
  (∀ h',St (i+1) h'->(∀ b o,b≠I->s.heap.get? b=some o->h'.get? b=some o)->Q (some v) { s with heap:=h' })->wpAny (model prog w) A (pyNext (.ref I)) Q E s
 done:∀ {i:Nat} {s:Shared} {Q:Option Value->Shared->Prop} {E:Value->Shared->Prop},vs[i]? = none->St i s.heap->
  (∀ h',(∀ b o,b≠I->s.heap.get? b=some o->h'.get? b=some o)->Q none { s with heap:=h' })->wpAny (model prog w) A (pyNext (.ref I)) Q E s
section
variable {prog:Program}{w:World}{A:Around}{E:Value->Shared->Prop}{s:Shared}{I:Addr}{fp:List Addr}{vs:List Value}{St:Nat->Heap->Prop}
theorem jI.loop{R:Result->Shared->Prop}(Wk:jI prog w A.in1 I fp vs St)(hz:vs.length<64)(S:Addr)(hSf:S∉fp)(hSI:S≠I)(res:Value) :
  ∀ (k i:Nat) (s:Shared) (acc:Array Value) (c:Nat),vs.length - i=k->i≤vs.length->St i s.heap->s.heap.get? S=some (seqObj "list" acc c)->acc.toList=vs.take i->
   (∀ h' c',(∀ b o,b≠S->b≠I->s.heap.get? b=some o->h'.get? b=some o)->h'.get? S=some (seqObj "list" vs.toArray c')->R (.ok (.ret res)) { s with heap:=h' })->
   codeAny (model prog w) A (.builtin "list.extend.loop" ⟨[.ref S,.ref I,res],[]⟩) R s:=by
 intro k
 induction k with
 | zero=>
  intro i s acc c hk hi hst hS hacc hR
  obtain rfl:i=vs.length:=by lia
  rw[List.take_length]at hacc
  obtain rfl:acc=vs.toArray:=by rw[<-hacc]
  refine codeAny_builtin PySem.F.entry_extend_loop ?_
  rw[Around.under_plainId PySem.F.plain_extend_loop _]
  show wpAny _ A.in1 (pyNext (.ref I) >>= _) _ _ s
  refine wpAny_bind (Wk.done (List.getElem?_eq_none (Nat.le_refl _)) hst fun h' hk'=>?_)
  exact wpAny_pure (hR h' c (fun b o _ hb e=>hk' b o hb e) (hk' S _ hSI hS))
 | succ k ih=>
  intro i s acc c hk hi hst hS hacc hR
  have hlt:i<vs.length:=by lia
  refine codeAny_builtin PySem.F.entry_extend_loop ?_
  rw[Around.under_plainId PySem.F.plain_extend_loop _]
  show wpAny _ A.in1 (pyNext (.ref I) >>= _) _ _ s
  refine wpAny_bind (Wk.item (List.getElem?_eq_getElem hlt) hst fun h' hst' hk'=>?_)
  have hS':=hk' S _ hSI hS
  have hsz:acc.size=i:=by rw[<-Array.length_toList,hacc,List.length_take];lia
  show wpAny _ A.in1 (updateSeq S (·.push vs[i]) >>= _) _ _ _
  refine wpAny_bind ?_
  refine wpAny_updateSeq hS' rfl (wpAny_pure ⟨plainId_quiet PySem.F.plain_extend_loop _,ih (i+1) _ (acc.push vs[i]) _ (by lia) hlt (Wk.frame hst' fun b hb o e=>?_) (get?_update_seq hS' (·.push vs[i])) (by rw[Array.toList_push,hacc,List.take_succ_eq_append_getElem hlt]) fun h'' c' hk'' hS''=>?_⟩)
   (by rw[hsz];exact Nat.le_trans (Nat.le_of_lt (Nat.lt_trans hlt hz)) (by decide)) (by show(acc.push vs[i]).size≤sizeLine+1;rw[Array.size_push,hsz];exact Nat.le_trans (Nat.succ_le_succ (Nat.le_of_lt (Nat.lt_trans hlt hz))) (by decide))
  ·exact(Heap.get?_update_other _ _ (fun h:S=b=>hSf (by rw[h];exact hb))).trans e
  ·refine hR h'' c' (fun b o hb1 hb2 e=>hk'' b o hb1 hb2 ?_) hS''
   exact(Heap.get?_update_other _ _ (Ne.symm hb1)).trans (hk' b o hb2 e)
theorem pc{r:Addr}{Q:Bool->Shared->Prop}(hT:s.TypeIs (.ref r) "set")(h:Q false s):wpAny (model prog w) A (Builtin.List.listLengthHint (.ref r)) Q E s:=by
 unfold Builtin.List.listLengthHint
 refine wpAny_bind (wpAny_specialOf hT PySem.F.slot_set_len.lookup ?_)
 generalize hid:("set.__len__" : String)=id0
 wp_delta
 rw[show splitId id0=some ("set","__len__") from by subst hid;decide +kernel]
 subst hid
 refine wpAny_bind (wpAny_isInstance (T:="set") (b:=true) hT (by rw[isSubtype_type];kernel_rfl) ?_)
 refine wpAny_ite_split (fun hab=>absurd hab (by decide)) (fun _=>?_)
 refine wpAny_ite_split (fun _=>?_) (fun hab=>absurd (by decide +kernel) hab)
 refine wpAny_bind (wpAny_typeOf hT ?_)
 exact wpAny_pure h
noncomputable def gz(es:Array (Int×Value))(ps:List Nat):List Value:=ps.map fun p=>((es[p]?).map (·.2)).getD .none
theorem ky{es:Array (Int×Value)}{ps:List Nat}(h:ps.Perm (List.range es.size)):(gz es ps).Perm (es.toList.map (·.2)):=by
 have h1:=h.map (fun p=>((es[p]?).map (·.2)).getD Value.none)
 refine h1.trans (List.Perm.of_eq ?_)
 apply List.ext_getElem
 ·simp
 ·intro i h1 h2
  simp only [List.length_map,List.length_range]at h1
  simp[h1]
theorem lj{a tp:Addr}{es:Array (Int×Value)}{ep:Nat}{t:SetTable}{ps:List Nat}(hh:A.handled=none)(hf:t.fits es.size=true)(hp:ps.Perm (List.range es.size))(h1:I≠a)(h2:I≠tp) :
  jI prog w A I [I,a,tp] (gz es ps) (fun i h=>h.get? I=some (cm (.ref tp) i a es.size ep)/\h.get? a=some (cp es ep t)/\h.get? tp=some { cls:=.type "tuple",data:=.seq (ps.map fun i=>rawInt (i:Nat)).toArray }) where
 frame:=fun st hk=>⟨hk I (by simp) _ st.1,hk a (by simp) _ st.2.1,hk tp (by simp) _ st.2.2⟩
 item:=fun {i v s Q E} hv st hQ=>by
  unfold gz at hv
  rw[List.getElem?_map]at hv
  cases hpi:ps[i]? with
  | none=>rw[hpi]at hv;cases hv
  | some p=>
   rw[hpi]at hv
   have hlt:p<es.size:=List.mem_range.mp (hp.mem_iff.mp (List.mem_of_getElem? hpi))
   have hep:es[p]? = some es[p]:=Array.getElem?_eq_getElem hlt
   have hv:((es[p]?).map (·.2)).getD Value.none=v:=Option.some.inj hv
   rw[hep]at hv
   subst hv
   exact mq st.1 st.2.1 hf st.2.2 hpi hep fun h' hg hs=>hQ h' ⟨hg,(hs.2 a (Ne.symm h1)).trans st.2.1,(hs.2 tp (Ne.symm h2)).trans st.2.2⟩ fun b o hb e=>(hs.2 b hb).trans e
 done:=fun {i s Q E} hv st hQ=>by
  unfold gz at hv
  rw[List.getElem?_map,Option.map_eq_none_iff]at hv
  exact iM st.1 st.2.1 hf hh st.2.2 hv fun h' hs=>hQ h' fun b o hb e=>hs b o hb e
theorem j0{α:Type}(next:Nat->Nat):∀ (n k:Nat) (l:List α) (out:Array α),l.length=n->(pickOrder.go next n k l out).toList.Perm (out.toList++l)
 | 0,k,l,out,hl=>by
  obtain rfl:l=[]:=List.eq_nil_of_length_eq_zero hl
  unfold pickOrder.go
  rw[List.append_nil]
 | n+1,k,l,out,hl=>by
  have hlt:next k % l.length<l.length:=Nat.mod_lt _ (by lia)
  unfold pickOrder.go
  rw[List.getElem?_eq_getElem hlt]
  dsimp only
  refine(j0 next n (k+1) _ _ (by rw[List.length_eraseIdx_of_lt hlt,hl];rfl)).trans ?_
  rw[Array.toList_push,List.append_assoc]
  exact(gq l _ hlt).append_left _
theorem gu{a:Addr}{es:Array (Int×Value)}{ep slot i:Nat}{t:SetTable}{Q:Option (Value×Nat)->Shared->Prop}(hb:w.params.followText "set-order" = true)(ho:s.heap.get? a=some (cp es ep t))(hf:t.fits es.size=true)
  (h:Q ((((pickOrder (w.params.setOrder a ep) es).toList.map (·.2))[i]?).map fun x=>(x,slot)) s):wpAny (model prog w) A (setNext a slot i ep) Q E s:=by
 delta setNext
 refine wpAny_bind (wpAny_setState_of ho rfl hf ?_)
 refine wpAny_bind (wpAny_bind (wpAny_askSetting (wpAny_pure ?_)))
 refine wpAny_ite_split (fun _=>?_) (fun q=>absurd hb q)
 rw[if_neg (by simp)]
 unfold setWalk setsByText
 refine wpAny_bind (wpAny_bind (wpAny_setState_of ho rfl hf ?_))
 dsimp only
 refine wpAny_bind (wpAny_bind (wpAny_askSetting (wpAny_pure ?_)))
 refine wpAny_ite_split (fun _=>?_) (fun q=>absurd hb q)
 refine wpAny_bind (wpAny_askSetting (wpAny_pure ?_))
 refine wpAny_pure ?_
 have:(((pickOrder (w.params.setOrder a ep) es).toList.map (·.2))[i]?).map (fun x=>(x,slot))=(((pickOrder (w.params.setOrder a ep) es))[i]?).map fun e=>(e.2,slot):=by
  rw[List.getElem?_map,Option.map_map,Array.getElem?_toList];rfl
 rw[this]at h
 exact h
theorem m8{a:Addr}{es:Array (Int×Value)}{ep:Nat}{t:SetTable}(hh:A.handled=none)(hb:w.params.followText "set-order" = true)(hf:t.fits es.size=true)(h1:I≠a) :
  jI prog w A I [I,a] ((pickOrder (w.params.setOrder a ep) es).toList.map (·.2)) (fun i h=>h.get? I=some (cm (.int (0:Nat) 0) i a es.size ep)/\h.get? a=some (cp es ep t)) where
 frame:=fun st hk=>⟨hk I (by simp) _ st.1,hk a (by simp) _ st.2⟩
 item:=fun {i v s Q E} hv st hQ=>by
  refine iD (slot:=0) (nx:=0) (x:=v) st.1 st.2 hf (fun {A' E' Q'} q=>gu hb st.2 hf (by rw[hv];exact q)) fun h' hg hs=>hQ h' ⟨hg,(hs.2 a (Ne.symm h1)).trans st.2⟩ fun b o hb e=>(hs.2 b hb).trans e
 done:=fun {i s Q E} hv st hQ=>by
  exact fy (slot:=0) st.1 st.2 hf hh (fun {A' E' Q'} q=>gu hb st.2 hf (by rw[hv];exact q)) fun h' hs=>hQ h' fun b o hb e=>hs b o hb e
end
section
variable {prog:Program}{w:World}{A:Around}{E:Value->Shared->Prop}{s:Shared}{I:Addr}
theorem below10(p:Nat):SetTable.below #[p] 0=0:=by
 show(if p<0 then 1 else 0)=0
 exact if_neg (Nat.not_lt_zero p)
theorem below11(p:Nat):SetTable.below #[p] (p+1)=1:=by simp[SetTable.below,SetTable.below.go]
theorem f8{a:Addr}{es:Array (Int×Value)}{ep slot i:Nat}{t:SetTable}{Q:Option (Value×Nat)->Shared->Prop}(hb:¬ w.params.followText "set-order" = true)(hled:t.led=true)(hz:es.size≤1)(ho:s.heap.get? a=some (cp es ep t))(hf:t.fits es.size=true)
  (h:Q (match es[SetTable.below t.place slot]?,t.place[SetTable.below t.place slot]? with
  | some (_,x),some j=>some (x,j+1)
  | _,_=>none) s):wpAny (model prog w) A (setNext a slot i ep) Q E s:=by
 delta setNext
 refine wpAny_bind (wpAny_setState_of ho rfl hf ?_)
 refine wpAny_bind (wpAny_bind (wpAny_askSetting (wpAny_pure ?_)))
 refine wpAny_ite_split (fun q=>absurd q hb) (fun _=>?_)
 refine wpAny_ite_split (fun q=>?_) (fun _=>?_)
 ·have q:(!t.plain&&decide (es.size > 1))=true:=q
  rw[Bool.and_eq_true,decide_eq_true_eq]at q
  exact absurd q.2 (Nat.not_lt.mpr hz)
 ·refine wpAny_bind ?_
  show wpAny _ _ (if (!t.led&&!es.isEmpty)=true then unsupported "set:maker-not-led" else pure ()) _ _ _
  rw[hled]
  exact wpAny_pure (wpAny_pure h)
theorem lG{a:Addr}{es:Array (Int×Value)}{ep:Nat}{t:SetTable}(hh:A.handled=none)(hb:¬ w.params.followText "set-order" = true)(hled:t.led=true)(hz:es.size≤1)(hf:t.fits es.size=true)(h1:I≠a) :
  jI prog w A I [I,a] (es.toList.map (·.2)) (fun i h=>(∃ slot:Nat,h.get? I=some (cm (.int slot 0) i a es.size ep)/\(i=0->slot=0)/\(0<i->∃ p,t.place = #[p]/\slot=p+1))/\h.get? a=some (cp es ep t)) where
 frame:=fun st hk=>⟨let ⟨slot,e,r⟩:=st.1;⟨slot,hk I (by simp) _ e,r⟩,hk a (by simp) _ st.2⟩
 item:=fun {i v s Q E} hv st hQ=>by
  obtain⟨⟨slot,hit,c1,c2⟩,ho⟩:=st
  have hlt:i<es.size:=by
   rw[List.getElem?_map,Option.map_eq_some_iff]at hv
   obtain⟨e,he,_⟩:=hv
   rw[List.getElem?_eq_some_iff]at he
   simpa using he.1
  obtain rfl:i=0:=by lia
  obtain rfl:=c1 rfl
  have hps:t.place.size=1:=by
   simp only [SetTable.fits,Bool.and_eq_true,beq_iff_eq]at hf
   lia
  obtain⟨p,hp⟩:∃ p,t.place = #[p]:=⟨t.place[0],by
   apply Array.ext
   ·simp[hps]
   ·intro j h1 h2;simp at h2;subst h2;rfl⟩
  obtain⟨e,he⟩:∃ e,es[0]? = some e:=⟨es[0],Array.getElem?_eq_getElem hlt⟩
  have hve:e.2=v:=by
   rw[List.getElem?_map,Array.getElem?_toList,he]at hv
   exact Option.some.inj hv
  refine iD (slot:=0) (nx:=p+1) (x:=v) hit ho hf (fun {A' E' Q'} q=>f8 hb hled hz ho hf (by rw[hp,below10,he];rw[<-hve]at q;exact q)) fun h' hg hs=>hQ h' ⟨⟨p+1,hg,fun z=>(nomatch z),fun _=>⟨p,hp,rfl⟩⟩,(hs.2 a (Ne.symm h1)).trans ho⟩ fun b o hb e=>(hs.2 b hb).trans e
 done:=fun {i s Q E} hv st hQ=>by
  obtain⟨⟨slot,hit,c1,c2⟩,ho⟩:=st
  rw[List.getElem?_eq_none_iff,List.length_map,Array.length_toList]at hv
  have hps:t.place.size=es.size:=by
   simp only [SetTable.fits,Bool.and_eq_true,beq_iff_eq]at hf
   exact hf.1
  refine fy (slot:=slot) hit ho hf hh (fun {A' E' Q'} q=>f8 hb hled hz ho hf ?_) fun h' hs=>hQ h' fun b o hb e=>hs b o hb e
  by_cases hi:0<i
  ·obtain⟨p,hp,hs⟩:=c2 hi
   rw[hp,hs,below11,Array.getElem?_eq_none hz]
   exact q
  ·have hes:es.size=0:=Nat.le_zero.mp (Nat.le_trans hv (Nat.not_lt.mp hi))
   rw[Array.getElem?_eq_none (xs:=es) (hes▸Nat.zero_le _)]
   exact q
end
section
variable {prog:Program}{w:World}{A:Around}{E:Value->Shared->Prop}{s:Shared}
theorem lC{A':Around}{a:Addr}{o:Obj}{xs:List Str}{Q:Value->Shared->Prop}(hh:A'.handled=none)(ho:s.heap.get? a=some o)(T:gB prog w o xs)
  (h:∀ (I:Addr) (fp:List Addr) (St:Nat->Heap->Prop) (h1:Heap) (d:Drawn) (vs:List Value) (ss:List Str),jI prog w A' I fp vs St->St 0 h1->(∀ b o,s.heap.get? b=some o->h1.get? b=some o)->s.heap.get? I=none->(∀ b∈fp,b=a\/s.heap.get? b=none)->
   StrsAre vs ss->ss.Perm xs->Q (.ref I) { s with heap:=h1,drawn:=d }):wpAny (model prog w) A (pyIter (.ref a)) Q E s:=by
 obtain⟨es,ep,t,rfl,htx,hp,hz,hf,hpl,hled⟩:=T.ex
 have haL:a<s.heap.objs.size:=Heap.lt_size ho
 have strsV:∀ vs:List Value,vs.Perm (es.toList.map (·.2))->∃ ss,StrsAre vs ss/\ss.Perm xs:=fun vs hv=>by
  refine⟨vs.map kU,?_,?_⟩
  ·have:∀ v∈vs,∃ x t,v = .str x t:=fun v hm=>by
    obtain⟨e,he,rfl⟩:=inM (hv.mem_iff.mp hm)
    obtain⟨x,u,rfl⟩:=htx e he
    exact⟨x,u,rfl⟩
   clear hv
   induction vs with
   | nil=>exact .nil
   | cons v vs ih=>
    obtain⟨x,u,rfl⟩:=this v (.head _)
    exact .cons x u (ih fun v hv=>this v (.tail _ hv))
  ·have:=hv.map kU
   rw[List.map_map]at this
   exact this.trans hp
 have hsz:s.heap.get? s.heap.objs.size=none:=aH _
 refine mw ho hf hz (fun hd=>?_) (fun hd ps d hps=>?_)
 ·have hne:s.heap.objs.size≠a:=Nat.ne_of_gt haL
  have e1:s={ s with drawn:=s.drawn }:=by cases s;rfl
  by_cases hb:w.params.followText "set-order" = true
  ·obtain⟨ss,h1,h2⟩:=strsV ((pickOrder (w.params.setOrder a ep) es).toList.map (·.2)) ((by
    have:=j0 (w.params.setOrder a ep) es.size 0 es.toList #[] (by simp)
    simpa [pickOrder] using this:(pickOrder (w.params.setOrder a ep) es).toList.Perm es.toList).map _)
   exact h _ [s.heap.objs.size,a] _ _ s.drawn _ ss (m8 hh hb hf hne) ⟨Heap.get?_push_size _ rfl,Heap.get?_push_of_some _ ho⟩ (fun b o e=>Heap.get?_push_of_some _ e) hsz (fun b hb=>by
    simp only [List.mem_cons,List.not_mem_nil,or_false]at hb
    rcases hb with rfl|rfl
    ·exact .inr hsz
    ·exact .inl rfl) h1 h2
  ·have hl:t.led=true:=hled.resolve_right hb
   have hz1:es.size≤1:=by
    by_cases h0:es.size≤1
    ·exact h0
    ·have hp0:=hpl (by lia)
     rw[hp0]at hd
     have hb':w.params.followText "set-order" = false:=by cases q:w.params.followText "set-order" with|true=>exact absurd q hb|false=>rfl
     rw[hb',show decide (es.size > 1)=true from decide_eq_true (by lia)]at hd
     cases hd
   obtain⟨ss,h1,h2⟩:=strsV (es.toList.map (·.2)) (.refl _)
   exact h _ [s.heap.objs.size,a] _ _ s.drawn _ ss (lG hh hb hl hz1 hf hne) ⟨⟨0,Heap.get?_push_size _ rfl,fun _=>rfl,fun z=>absurd z (Nat.lt_irrefl _)⟩,Heap.get?_push_of_some _ ho⟩ (fun b o e=>Heap.get?_push_of_some _ e) hsz (fun b hb=>by
    simp only [List.mem_cons,List.not_mem_nil,or_false]at hb
    rcases hb with rfl|rfl
    ·exact .inr hsz
    ·exact .inl rfl) h1 h2
 ·obtain⟨ss,h1,h2⟩:=strsV (gz es ps) (ky hps)
  have hI:s.heap.get? (s.heap.objs.size+1)=none:=dU (Nat.le_succ _)
  have hne:s.heap.objs.size+1≠a:=Nat.ne_of_gt (Nat.lt_succ_of_lt haL)
  refine h _ [s.heap.objs.size+1,a,s.heap.objs.size] _ _ d _ ss (lj (tp:=s.heap.objs.size) hh hf hps hne (Nat.succ_ne_self _)) ⟨?_,Heap.get?_push_of_some _ (Heap.get?_push_of_some _ ho),Heap.get?_push_of_some _ (Heap.get?_push_size _ rfl)⟩ (fun b o e=>Heap.get?_push_of_some _ (Heap.get?_push_of_some _ e)) hI (fun b hb=>by
    simp only [List.mem_cons,List.not_mem_nil,or_false]at hb
    rcases hb with rfl|rfl|rfl
    ·exact .inr hI
    ·exact .inl rfl
    ·exact .inr hsz) h1 h2
  have:=Heap.get?_push_size (s.heap.push { cls:=.type "tuple",data:=.seq (ps.map fun i=>rawInt (i:Nat)).toArray }) (o:=cm (.ref s.heap.objs.size) 0 a es.size ep) rfl
  rw[Heap.size_push]at this
  exact this
theorem nh{R:Result->Shared->Prop}{a S:Addr}{o:Obj}{xs:List Str}{c₀:Nat}{res:Value}(hh:A.handled=none)(ho:s.heap.get? a=some o)(T:gB prog w o xs)(hz:xs.length<64)(hSa:S≠a)(hS:s.heap.get? S=some (seqObj "list" #[] c₀))
  (hR:∀ h' d vs ss c',(∀ b o,b≠S->s.heap.get? b=some o->h'.get? b=some o)->h'.get? S=some (seqObj "list" (List.toArray vs) c')->StrsAre vs ss->ss.Perm xs->R (.ok (.ret res)) { s with heap:=h',drawn:=d }) :
  wpAny (model prog w) A.in1 (Builtin.List.listExtendWith (.ref S) (.ref a) res)
   (fun fin s'=>match fin with|.done f=>R (.ok f) s'|.again c'=>c'.quiet=true/\codeAny (model prog w) A c' R s') (fun e s'=>R (.error e) s') s:=by
 have hT:s.TypeIs (.ref a) "set":=⟨o,ho,by obtain⟨es,ep,t,rfl,_⟩:=T.ex;rfl⟩
 unfold Builtin.List.listExtendWith
 refine wpAny_bind (wpAny_typeOf (T:="set") hT ?_)
 have h1:Builtin.List.listSameRef (.ref S) (.ref a)=false:=by simp[Builtin.List.listSameRef,hSa]
 have h2:(Value.type "set" == Value.type "list")=false:=by decide
 have h3:(Value.type "set" == Value.type "tuple")=false:=by decide
 simp only [h1,h2,h3,Bool.or_false,Bool.false_eq_true,if_false]
 refine wpAny_bind (lC (A':=A.in1) (by simp[hh]) ho T fun I fp St hp1 d vs ss Wk st keep hI hfp hs hperm=>?_)
 have hlen:vs.length<64:=by
  have e1:vs.length=ss.length:=hs.length
  have:=hperm.length_eq;lia
 have hSI:S≠I:=fun e=>by rw[e,hI]at hS;cases hS
 have hSf:S∉fp:=fun hm=>by
  rcases hfp S hm with e|e
  ·exact hSa e
  ·rw[hS]at e;cases e
 have key:∀ (h:Heap) (c₁:Nat),St 0 h->(∀ b o,b≠S->s.heap.get? b=some o->h.get? b=some o)->h.get? S=some (seqObj "list" #[] c₁)->
   codeAny (model prog w) A (.builtin "list.extend.loop" ⟨[.ref S,.ref I,res],[]⟩) R { s with heap:=h,drawn:=d }:=fun h c₁ hst hk hS₁=>
  Wk.loop hlen S hSf hSI res (vs.length - 0) 0 { s with heap:=h,drawn:=d } #[] c₁ rfl (Nat.zero_le _) hst hS₁ rfl fun h' c' hk' hS'=>
   hR h' d vs ss c' (fun b o hb e=>hk' b o hb (fun z=>by rw[z,hI]at e;cases e) (hk b o hb e)) hS' hs hperm
 have hS₁:=keep _ _ hS
 have hT1:Shared.TypeIs { s with heap:=hp1,drawn:=d } (.ref a) "set":=let ⟨o,ho,hc⟩:=hT;⟨o,keep _ _ ho,hc⟩
 refine wpAny_bind (wpAny_holding (pc hT1 ?_))
 refine wpAny_ite_split (fun _=>?_) (fun _=>wpAny_pure ⟨plainId_quiet PySem.F.plain_extend_loop _,key hp1 c₀ st (fun b o _ e=>keep b o e) hS₁⟩)
 refine wpAny_bind (wpAny_rule ?_)
 refine wpAny_bind ?_
 show wpAny _ _ (updateSeq S (·.push .none) >>= fun _=>updateSeq S (·.pop)) _ _ _
 refine wpAny_bind (wpAny_updateSeq hS₁ rfl ?_ (by seq_fits) (by seq_fits))
 have hS₂:=get?_update_seq hS₁ (·.push Value.none)
 refine wpAny_updateSeq (hz:=by seq_fits) hS₂ rfl ?_ (by seq_fits)
 have hS₃:=get?_update_seq hS₂ (·.pop)
 refine wpAny_pure ⟨plainId_quiet PySem.F.plain_extend_loop _,key _ _ ?_ (fun b o hb e=>?_) hS₃⟩
 ·refine Wk.frame st fun b hb o e=>?_
  have hbS:b≠S:=fun h=>hSf (h▸hb)
  exact(Heap.get?_update_other _ _ (Ne.symm hbS)).trans ((Heap.get?_update_other _ _ (Ne.symm hbS)).trans e)
 ·exact(Heap.get?_update_other _ _ (Ne.symm hb)).trans ((Heap.get?_update_other _ _ (Ne.symm hb)).trans (keep _ _ e))
end
section
variable {prog:Program}{w:World}{A:Around}{E:Value->Shared->Prop}{s:Shared}
theorem lg{a:Addr}{o:Obj}{xs:List Str}{R:List Value->Shared->Prop}(hh:A.handled=none)(ho:s.heap.get? a=some o)(T:gB prog w o xs)(hz:xs.length<64)
  (h:∀ h' d vs ss,(∀ b o,s.heap.get? b=some o->h'.get? b=some o)->StrsAre vs ss->ss.Perm xs->R vs { s with heap:=h',drawn:=d }):wpAny (model prog w) A (collect (.ref a)) R E s:=by
 unfold collect
 refine wpAny_bind (wpAny_runValue (codeAny_builtin PySem.F.entry_proto_collect ?_))
 rw[Around.under_plainId PySem.F.plain_proto_collect _]
 show wpAny _ A.in1 (newList [] >>= fun l=>again (.builtin "list.__iadd__" ⟨[l,.ref a],[]⟩)) _ _ s
 refine wpAny_bind (wpAny_newObj_type ?_)
 refine wpAny_pure ⟨plainId_quiet PySem.F.plain_list_iadd _,codeAny_builtin entry_list_iadd' ?_⟩
 rw[Around.under_plainId PySem.F.plain_list_iadd _]
 have hS₁:(s.heap.push { cls:=.type "list",data:=.seq ([]:List Value).toArray }).get? s.heap.objs.size=some (seqObj "list" #[] 0):=Heap.get?_push_size _ rfl
 show wpAny _ A.in1 (Builtin.List.listExtendWith (.ref s.heap.objs.size) (.ref a) (.ref s.heap.objs.size)) _ _ _
 have key:=nh (A:=A) (s:={ s with heap:=s.heap.push { cls:=.type "list",data:=.seq ([]:List Value).toArray } })
  (R:=fun(q:Result) (s':Shared)=>∃ h' d vs ss c',q = .ok (.ret (.ref s.heap.objs.size))/\s'={ s with heap:=h',drawn:=d }/\(∀ b o,s.heap.get? b=some o->h'.get? b=some o)/\h'.get? s.heap.objs.size=some (seqObj "list" (List.toArray vs) c')/\StrsAre vs ss/\ss.Perm xs)
  (res:=.ref s.heap.objs.size) hh (Heap.get?_push_of_some _ ho) T hz (Nat.ne_of_gt (Heap.lt_size ho)) hS₁
  (fun h' d vs ss c' hk hS' hs hp=>⟨h',d,vs,ss,c',rfl,rfl,fun b o e=>hk b o (Nat.ne_of_lt (Heap.lt_size e)) (Heap.get?_push_of_some _ e),hS',hs,hp⟩)
 refine wpAny_mono key (fun fin s' x=>?_) fun e s' x=>?_
 ·cases fin with
  | done f=>
   obtain⟨h',d,vs,ss,c',e,rfl,hk,hS',hs,hp⟩:=x
   cases e
   show wpAny _ A (load s.heap.objs.size >>= _) _ _ _
   refine wpAny_bind (wpAny_load hS' ?_)
   exact wpAny_pure (h h' d vs ss hk hs hp)
  | again c₁=>
   refine⟨x.1,codeAny_mono x.2 fun q s₂ y=>?_⟩
   obtain⟨h',d,vs,ss,c',rfl,rfl,hk,hS',hs,hp⟩:=y
   show wpAny _ A (load s.heap.objs.size >>= _) _ _ _
   refine wpAny_bind (wpAny_load hS' ?_)
   exact wpAny_pure (h h' d vs ss hk hs hp)
 ·obtain⟨_,_,_,_,_,e',_⟩:=x
  cases e'
theorem jG{x:Value}{xs:List Str}{Q:Value->Shared->Prop}(h64:xs.length<64)
  (hc:∀ {R:List Value->Shared->Prop},(∀ h' d tk vs ss,(∀ b o,s.heap.get? b=some o->h'.get? b=some o)->StrsAre vs ss->ss.Perm xs->R vs { s with heap:=h',toks:=tk,drawn:=d })->wpAny (model prog w) A.in1 (collect x) R E s)
  (h:∀ h' d tk (D:Addr) vs ss e,(∀ b o,s.heap.get? b=some o->h'.get? b=some o)->s.heap.get? D=none->(∃ h1:Heap,(∀ b o,s.heap.get? b=some o->h1.get? b=some o)/\D=h1.objs.size)->h'.get? D=some (seqObj "list" (List.toArray vs) e)->StrsAre vs ss->ss.Perm xs->sortedS ss=true->Q (.ref D) { s with heap:=h',toks:=tk,drawn:=d }) :
  wpAny (model prog w) A (call (.builtin "sorted") [x]) Q E s:=by
 refine Calls.call_function_entry kind_sorted plain_sorted entry_sorted (args_sorted1 _) ?_
 unfold Builtin.«sorted»
 refine wpAny_bind (m:=checkCount "sorted" 1 1 _) (wpAny_pure ?_)
 refine wpAny_bind (hc fun h1 d tk vs ss hk hs hp=>?_)
 have hlen:vs.length<64:=by have e1:vs.length=ss.length:=hs.length;have:=hp.length_eq;lia
 refine wpAny_bind (wpAny_newList ?_ (Nat.le_trans (Nat.le_of_lt hlen) (by decide)))
 have hoL:(h1.push (seqObj "list" vs.toArray 0)).get? h1.objs.size=some (seqObj "list" vs.toArray 0):=Heap.get?_push_size _ rfl
 have hnone:s.heap.get? h1.objs.size=none:=by
  cases q:s.heap.get? h1.objs.size with
  | none=>rfl
  | some o=>have:=hk _ _ q;rw[aH]at this;cases this
 show wpAny _ _ _ _ _ { s with heap:=h1.push (seqObj "list" vs.toArray 0),toks:=tk,drawn:=d }
 refine wpAny_bind (wpAny_holding (wpAny_call_entry slot_list_sort ⟨_,hoL,rfl⟩ entry_list_sort (list_sort_treeK strKind_oneLt hoL hs.keysOf (fun v₁ v₂ rest e=>keyKind_strs (by rw[<-e];exact hs)) hlen fun st' a1 a2=>⟨_,rfl,?_⟩) (args_list_sort _)))
 obtain⟨ss',b1,b2,b3⟩:=sorted_out_str hs a1 a2
 obtain⟨e,he⟩:=sortedHeap_at (vs:=vs) (out:=(arrOf st').map (·.2)) hoL
 refine wpAny_pure ⟨_,rfl,h _ d tk h1.objs.size ((arrOf st').map (·.2)).toList ss' e (fun b o eb=>?_) hnone ⟨h1,hk,rfl⟩ (by rw[he]) b1 (b2.trans hp) b3⟩
 have hb:=hk b o eb
 have hlt:=Heap.lt_size hb
 rw[sortedHeap_old (Nat.ne_of_lt hlt) (by rw[Heap.size_push];exact Nat.lt_succ_of_lt hlt)]
 exact Heap.get?_push_of_some _ hb
end
section
variable {W:Wd}{A:Around}{env:Env}{outer:ay}{loc:Loc}{mem R:Mem}{E:Ex W}{F:Frz}{s:Shared}
theorem ja{a:Addr}{o:Obj}{xs:List Str}{Q:V->Loc->Mem->Prop}(hh:A.handled=none)(h1:mem a=some (.raw o))(T:gB W.prog W.w o xs)(hz:xs.length<64)(h:∀ D ss,mem D=none->ss.Perm xs->sortedS ss=true->Q (.ref D) loc (ap mem D (.list (ae ss)))) :
  OpV W A env outer (fun vs=>call (.builtin "sorted") vs) [.ref a] loc mem Q E:=op1 fun R F s v S r=>by
 obtain rfl:=r.isRef
 obtain⟨o',ho,q⟩:=S.memOk _ _ h1
 cases q.view
 refine jG (xs:=xs) hz (fun {R} hR=>lg (A:=A.in1) (by simp[hh]) ho T hz fun h' d vs ss hk hs hp=>hR h' d s.toks vs ss hk hs hp) fun h' d tk D vs ss e hk hD hDle hg hs hp ho=>?_
 obtain⟨hp1,hk1,rfl⟩:=hDle
 have hle:W.hb.objs.size≤hp1.objs.size:=(S.grow (t:=s.toks) (d:=s.drawn) hk1).size_le
 exact aE.mk (.ref _) (S.alloc (t:=tk) (d:=d) (x:=.list (ae ss)) hD hle hk hg (.list (by show VRs W F (ae ss) _;exact VRs.ofStrs hs))) (h _ ss (S.free hD).1 hp ho)
end
section
variable {prog:Program}{w:World}{A:Around}{E:Value->Shared->Prop}{s:Shared}
end
section
variable {prog:Program}{w:World}{A:Around}{R:Result->Shared->Prop}{I:Addr}{fp wr:List Addr}{G:Array GenState->Array GenState->Prop}{n:Nat}{P:Nat->Value->Prop}{St:Nat->Shared->Prop}
end
section
variable {prog:Program}{w:World}{A:Around}{E:Value->Shared->Prop}{s:Shared}
end
section
variable {prog:Program}{w:World}{A:Around}{E:Value->Shared->Prop}{s:Shared}
end
section
variable {prog:Program}{w:World}{A:Around}{E:Value->Shared->Prop}{s:Shared}
end
section
variable {W:Wd}{A:Around}{env:Env}{outer:ay}{loc:Loc}{mem R:Mem}{E:Ex W}{F:Frz}{s:Shared}
theorem VRs.ints{ns:List Int}{vs:List Value}(r:VRs W F (ns.map .int) vs):IntsAre vs ns:=by
 induction ns generalizing vs with
 | nil=>obtain rfl:=r.isNil;exact .nil
 | cons n ns ih=>
  obtain⟨_,_,r1,r2,rfl⟩:=r.isCons
  obtain⟨_,rfl⟩:=r1.isInt;exact .cons _ _ (ih r2)
theorem VRs.ofInts{ns:List Int}{vs:List Value}(r:IntsAre vs ns):VRs W F (ns.map .int) vs:=by
 induction r with
 | nil=>exact .nil
 | cons i t _ ih=>exact .cons (.int i t) ih
end
section
variable {prog:Program}{w:World}{A:Around}{E:Value->Shared->Prop}{s:Shared}{I:Addr}
end
section
variable {prog:Program}{w:World}{A:Around}{E:Value->Shared->Prop}{s:Shared}
end
section
variable {prog:Program}{w:World}{A:Around}{E:Value->Shared->Prop}{s:Shared}
theorem mW{x:Value}{xs:List Int}{Q:Value->Shared->Prop}(h64:xs.length<64)
  (hc:∀ {R:List Value->Shared->Prop},(∀ h' d tk vs ss,(∀ b o,s.heap.get? b=some o->h'.get? b=some o)->IntsAre vs ss->ss.Perm xs->R vs { s with heap:=h',toks:=tk,drawn:=d })->wpAny (model prog w) A.in1 (collect x) R E s)
  (h:∀ h' d tk (D:Addr) vs ss e,(∀ b o,s.heap.get? b=some o->h'.get? b=some o)->s.heap.get? D=none->(∃ h1:Heap,(∀ b o,s.heap.get? b=some o->h1.get? b=some o)/\D=h1.objs.size)->h'.get? D=some (seqObj "list" (List.toArray vs) e)->IntsAre vs ss->ss.Perm xs->ss.Pairwise (·≤·)->Q (.ref D) { s with heap:=h',toks:=tk,drawn:=d }) :
  wpAny (model prog w) A (call (.builtin "sorted") [x]) Q E s:=by
 refine Calls.call_function_entry kind_sorted plain_sorted entry_sorted (args_sorted1 _) ?_
 unfold Builtin.«sorted»
 refine wpAny_bind (m:=checkCount "sorted" 1 1 _) (wpAny_pure ?_)
 refine wpAny_bind (hc fun h1 d tk vs ss hk hs hp=>?_)
 have hlen:vs.length<64:=by have e1:vs.length=ss.length:=hs.length;have:=hp.length_eq;lia
 refine wpAny_bind (wpAny_newList ?_ (Nat.le_trans (Nat.le_of_lt hlen) (by decide)))
 have hoL:(h1.push (seqObj "list" vs.toArray 0)).get? h1.objs.size=some (seqObj "list" vs.toArray 0):=Heap.get?_push_size _ rfl
 have hnone:s.heap.get? h1.objs.size=none:=by
  cases q:s.heap.get? h1.objs.size with
  | none=>rfl
  | some o=>have:=hk _ _ q;rw[aH]at this;cases this
 show wpAny _ _ _ _ _ { s with heap:=h1.push (seqObj "list" vs.toArray 0),toks:=tk,drawn:=d }
 refine wpAny_bind (wpAny_holding (wpAny_call_entry slot_list_sort ⟨_,hoL,rfl⟩ entry_list_sort (list_sort_tree hoL hs hlen fun out ss' a1 a2 a3=>⟨_,rfl,?_⟩) (args_list_sort _)))
 obtain⟨e,he⟩:=sortedHeap_at (vs:=vs) (out:=out) hoL
 refine wpAny_pure ⟨_,rfl,h _ d tk h1.objs.size out.toList ss' e (fun b o eb=>?_) hnone ⟨h1,hk,rfl⟩ (by rw[he]) a1 (a2.trans hp) a3⟩
 have hb:=hk b o eb
 have hlt:=Heap.lt_size hb
 rw[sortedHeap_old (Nat.ne_of_lt hlt) (by rw[Heap.size_push];exact Nat.lt_succ_of_lt hlt)]
 exact Heap.get?_push_of_some _ hb
end
section
variable {W:Wd}{A:Around}{env:Env}{outer:ay}{loc:Loc}{mem R:Mem}{E:Ex W}{F:Frz}{s:Shared}
end
section
variable {W:Wd}{A:Around}{env:Env}{outer:ay}{loc:Loc}{mem R:Mem}{E:Ex W}{F:Frz}{s:Shared}
end
theorem jf:∀ (l:List Str) (p:Str),risingS p l=true->(p::l).Pairwise fun a b=>a.cps.toList≤b.cps.toList
 | [],p,_=>by simp
 | x::r,p,h=>by
  have h:(!Spec.ltCps x.cps.toList p.cps.toList&&risingS x r)=true:=h
  rw[Bool.and_eq_true]at h
  have h1:¬ x.cps.toList<p.cps.toList:=by
   have:=h.1
   rw[ltCps_eq]at this
   simpa using this
  have ih:=jf r x h.2
  refine List.pairwise_cons.mpr ⟨fun y hy=>?_,ih⟩
  rcases List.mem_cons.mp hy with rfl|hm
  ·exact h1
  ·exact List.le_trans h1 ((List.pairwise_cons.mp ih).1 y hm)
theorem jn{l:List Str}(h:sortedS l=true):l.Pairwise fun a b=>a.cps.toList≤b.cps.toList:=by
 cases l with
 | nil=>exact .nil
 | cons x r=>exact jf r x h
theorem f0{a b:List Str}(ha:sortedS a=true)(hb:sortedS b=true)(hp:a.Perm b):a=b:=by
 refine List.Perm.eq_of_pairwise (le:=fun a b:Str=>a.cps.toList≤b.cps.toList) (fun x y _ _ h1 h2=>?_) (jn ha) (jn hb) hp
 have:=List.le_antisymm h1 h2
 cases x;cases y
 exact congrArg Str.mk (Array.toList_inj.mp this)
section
variable {W:Wd}{A:Around}{env:Env}{outer:ay}{loc:Loc}{mem:Mem}{E:Ex W}
end
section
variable {W:Wd}{A:Around}{env:Env}{outer:ay}{loc:Loc}{mem R:Mem}{E:Ex W}{F:Frz}{s:Shared}
theorem oU{x:Str}{xs:List Str}{j:Nat}(h:j<xs.idxOf x)(hj:j<xs.length):(xs[j]==x)=false:=by
 have:=List.not_of_lt_findIdx (p:=(· == x)) (xs:=xs) h
 simpa using this
theorem k7(l:Addr)(vs:List Value)(h:Heap)(b:Addr)(o:Obj)(e:h.get? b=some o):((h.push (seqObj "list" #[] 0)).update h.objs.size (Obj.mapSeq (·++vs.toArray))).get? b=some o:=by
 have hlt:=Heap.lt_size e
 rw[Heap.get?_update_ne _ _ _ _ (Nat.ne_of_lt hlt)]
 exact Heap.get?_push_of_some _ e
theorem g9{v:V}{xs:List Str}{Q:V->Loc->Mem->Prop}(q:Sq mem v "list" (ae xs))(hz:xs.length<64)(h:∀ D ss,mem D=none->ss.Perm xs->sortedS ss=true->Q (.ref D) loc (ap mem D (.list (ae ss)))) :
  OpV W A env outer (fun vs=>call (.builtin "sorted") vs) [v] loc mem Q E:=op1 fun R F s v' S r=>by
 obtain⟨a,vs,n,rfl,ho,rs⟩:=q.at S r
 have hlen:vs.toList.length=xs.length:=by have:=(VRs.strs rs).length;exact this
 refine jG (xs:=xs) hz (fun {R} hR=>collect_list (vs:=vs.toList) ⟨_,ho,rfl,n,rfl⟩ (hR _ s.drawn s.toks vs.toList xs (k7 a vs.toList s.heap) (VRs.strs rs) (.refl _)) (Nat.le_trans (Nat.le_of_lt (hlen▸hz)) (by decide))) fun h' d tk D vs' ss e hk hD hDle hg hs hp ho=>?_
 obtain⟨hp1,hk1,rfl⟩:=hDle
 have hle:W.hb.objs.size≤hp1.objs.size:=(S.grow (t:=s.toks) (d:=s.drawn) hk1).size_le
 exact aE.mk (.ref _) (S.alloc (t:=tk) (d:=d) (x:=.list (ae ss)) hD hle hk hg (.list (by show VRs W F (ae ss) _;exact VRs.ofStrs hs))) (h _ ss (S.free hD).1 hp ho)
theorem jS{v:V}{xs:List Int}{Q:V->Loc->Mem->Prop}(q:Sq mem v "list" (xs.map V.int))(hz:xs.length<64)(h:∀ D (ss:List Int),mem D=none->ss.Perm xs->ss.Pairwise (·≤·)->Q (.ref D) loc (ap mem D (.list (ss.map V.int)))) :
  OpV W A env outer (fun vs=>call (.builtin "sorted") vs) [v] loc mem Q E:=op1 fun R F s v' S r=>by
 obtain⟨a,vs,n,rfl,ho,rs⟩:=q.at S r
 have hlen:vs.toList.length=xs.length:=by have:=(VRs.ints rs).length;exact this
 refine mW (xs:=xs) hz (fun {R} hR=>collect_list (vs:=vs.toList) ⟨_,ho,rfl,n,rfl⟩ (hR _ s.drawn s.toks vs.toList xs (k7 a vs.toList s.heap) (VRs.ints rs) (.refl _)) (Nat.le_trans (Nat.le_of_lt (hlen▸hz)) (by decide))) fun h' d tk D vs' ss e hk hD hDle hg hs hp ho=>?_
 obtain⟨hp1,hk1,rfl⟩:=hDle
 have hle:W.hb.objs.size≤hp1.objs.size:=(S.grow (t:=s.toks) (d:=s.drawn) hk1).size_le
 exact aE.mk (.ref _) (S.alloc (t:=tk) (d:=d) (x:=.list (ss.map V.int)) hD hle hk hg (.list (by show VRs W F (ss.map V.int) _;exact VRs.ofInts hs))) (h _ ss (S.free hD).1 hp ho)
theorem mL{v:V}{x:Str}{xs:List Str}{Q:V->Loc->Mem->Prop}(q:Sq mem v "list" (ae xs))(hx:x∈xs)(hz:xs.length≤1000)(h:Q (.int (xs.idxOf x:Nat)) loc mem) :
  OpV W A env outer (fun vs=>call (.builtin "list.index") vs) [v,.str x] loc mem Q E:=op2 fun R F s v' u' S r r2=>by
 obtain⟨a,vs,n,rfl,ho,rs⟩:=q.at S r
 obtain⟨_,rfl⟩:=r2.isStr
 rename_i t
 have hi:=VRs.strs rs
 have hlen:vs.toList.length=xs.length:=hi.length
 rw[Array.length_toList]at hlen
 have hj:xs.idxOf x<xs.length:=List.idxOf_lt_length_iff.mpr hx
 have at_:∀ j (hj:j<vs.size) (hj2:j<xs.length),isStrOf x vs[j]=(xs[j]==x):=fun j h1 h2=>by
  obtain⟨t,e⟩:=iZ hi (i:=j) (v:=vs[j]) (by rw[Array.getElem?_toList,Array.getElem?_eq_getElem h1])
  rw[e,List.getD_eq_getElem?_getD,List.getElem?_eq_getElem h2]
  rfl
 refine call_meets PySem.F.slot_list_index ⟨_,ho,rfl⟩ PySem.F.entry_list_index (PySem.F.args_list_index_2 _ _)
  (MeetsSeq.list_index a vs n (.str x t) (isStrOf x) (fun y hy=>eq_isStrOf x t hi y (by simpa using hy)) (xs.idxOf x) (by lia) (by lia) ?_ ?_) ⟨ho,?_⟩
 ·rw[at_ _ (by lia) hj]
  simp[List.getElem_idxOf hj]
 ·intro j hjs hlt
  rw[at_ _ hjs (by lia)]
  exact oU hlt _
 ·exact aE.mk (.int _ _) S.tick h
end
section
variable {W:Wd}{A:Around}{env:Env}{outer:ay}{loc:Loc}{mem:Mem}{E:Ex W}
theorem jL{y:Str}{l:List Str}:V.str y∈ae l↔y∈l:=by
 unfold ae;rw[List.mem_map]
 exact⟨fun⟨a,ha,e⟩=>by cases e;exact ha,fun h=>⟨_,h,rfl⟩⟩
theorem qw{b:Bool}{p:Prop}[Decidable p](h:b=true↔p):b=decide p:=by
 rw[Bool.eq_iff_iff,h,decide_eq_true_iff]
theorem dr{l:List Str}(hl:∀ y∈l,PyData.strOk y=true):(ae l).all (isD 0)=true:=dv (List.all_eq_true.mpr hl)
theorem dc{v:V}{x:Str}{l:List Str}{Q:V->Loc->Mem->Prop}(q:Sq mem v "list" (ae l))(hx:PyData.strOk x=true)(hl:(ae l).all (isD 0)=true)(hu:A.units+65<cLine)(h:Q (.bool (decide (x∈l))) loc mem) :
  OpV W A env outer (fun|[x,y]=>compareOp .In x y|_=>pure .none) [.str x,v] loc mem Q E:=
 iA (n:=0) q hx hl (by decide) hu fun b hb=>qw (hb.trans jL)▸h
theorem dQ{v:V}{x:Str}{l:List Str}{Q:V->Loc->Mem->Prop}(q:Sq mem v "list" (ae l))(hx:PyData.strOk x=true)(hl:(ae l).all (isD 0)=true)(hu:A.units+65<cLine)(h:Q (.bool (!decide (x∈l))) loc mem) :
  OpV W A env outer (fun|[x,y]=>compareOp .NotIn x y|_=>pure .none) [.str x,v] loc mem Q E:=
 iW (n:=0) q hx hl (by decide) hu fun b hb=>by rw[qw (hb.trans jL)];exact h
theorem in_none{v:V}{l:List Str}{Q:V->Loc->Mem->Prop}(q:Sq mem v "list" (ae l))(hl:(ae l).all (isD 0)=true)(hu:A.units+65<cLine)(h:Q (.bool false) loc mem) :
  OpV W A env outer (fun|[x,y]=>compareOp .In x y|_=>pure .none) [.none,v] loc mem Q E:=
 iA (n:=0) q rfl hl (by decide) hu fun b hb=>by
  cases b with
  | false=>exact h
  | true=>exact(by have:=hb.mp rfl;unfold ae at this;obtain⟨_,_,e⟩:=inM this;cases e)
theorem eL{x:Str}{c:Addr}{u:Option V}{v:V}{Q:Loc->Mem->Prop}{hk:env.scope.kind = .function}{hl:env.kindOf x=some .cell}{hc:env.cells.lookup x=some c}(hm:mem c=some (.cell u))
  (h:∀ m',m' c=some (.cell (some v))->(∀ b,b≠c->m' b=mem b)->Q loc m') :
  Op W A env outer (fun _ (_ _:Unit)=>True) (fun|[y]=>storeName env x y|_=>pure ()) [v] loc mem (fun _=>Q) E:=iz hk hl hc hm (h _ (mset_self _ _ _) fun b hb=>af hb)
end
section
variable {W:Wd}{A:Around}{env:Env}{outer:ay}{loc:Loc}{mem R:Mem}{E:Ex W}{F:Frz}{s:Shared}
variable {elt t1 i1 t2 i2:PySem.Expr}{ifs:List PySem.Expr}{scope:Scope}{pos:Pos}{it acc:Value}
noncomputable abbrev lc2(elt t1 i1 t2 i2:PySem.Expr)(ifs:List PySem.Expr)(scope:Scope)(pos:Pos):PySem.Expr:=.ListComp elt [⟨t1,i1,[],0⟩,⟨t2,i2,ifs,0⟩] scope pos
theorem turn_0:compTurn (lc2 elt t1 i1 t2 i2 ifs scope pos) 0 it acc env=(do
  standAt i1.pos
  match<-pyNext it with
  | none=>pure (.done .next)
  | some v=>
   letOwnedTupleGo t1 it v
   assign t1 env v
   let x<-eval i2 env
   standAt i2.pos
   let x<-foldedSetIterable i2 env x
   let it2<-holding [x] (pyIter x)
   let _<-runOwn (.compStart (lc2 elt t1 i1 t2 i2 ifs scope pos) 1 it2 acc env) env
   again (.compLoop (lc2 elt t1 i1 t2 i2 ifs scope pos) 0 it acc env)):=by rfl
theorem turn_1:compTurn (lc2 elt t1 i1 t2 i2 ifs scope pos) 1 it acc env=(do
  standAt i2.pos
  match<-pyNext it with
  | none=>pure (.done .next)
  | some v=>
   letOwnedTupleGo t2 it v
   assign t2 env v
   let mut ok:=true
   for c in ifs do
    if ok then ok<-isTrue c env (eval c env)
   if ok then
    (do let _<-call (.builtin "list.append") [acc,<-eval elt env])
   again (.compLoop (lc2 elt t1 i1 t2 i2 ifs scope pos) 1 it acc env)):=by rfl
theorem start_1{Rz:Result->Shared->Prop}(h0:codeAny (model W.prog W.w) A (.compLoop (lc2 elt t1 i1 t2 i2 ifs scope pos) 1 it acc env) Rz s)
  (h:wpAny (model W.prog W.w) A (pyIter it) (fun it' s'=>codeAny (model W.prog W.w) A (.compLoop (lc2 elt t1 i1 t2 i2 ifs scope pos) 1 it' acc env) Rz s') (notedBy (model W.prog W.w) A env fun x s'=>Rz (.error x) s') s) :
  codeAny (model W.prog W.w) A (.compStart (lc2 elt t1 i1 t2 i2 ifs scope pos) 1 it acc env) Rz s:=by
 refine codeAny_of_tree ?_
 show wpAny _ _ ((compStart (lc2 elt t1 i1 t2 i2 ifs scope pos) 1 it acc env).onRaise (fun x=>do noteFrame x env;standAt theWindowsPlace)) _ _ s
 refine wpAny_notedAt ?_
 unfold compStart
 show wpAny _ _ (ask >>= _) _ _ s
 refine wpAny_bind (wpAny_askSetting (wpAny_ite ?_))
 split
 ·first
   | exact wpAny_bind (wpAny_pure (wpAny_pure (And.intro rfl h0)))
   | exact wpAny_pure (And.intro rfl h0)
 ·refine wpAny_bind (wpAny_rule ?_)
  show wpAny _ _ (standAt i2.pos >>= _) _ _ s
  exact wpAny_bind (wpAny_standAt (wpAny_bind (wpAny_mono h (fun it' s' h'=>wpAny_pure (And.intro rfl h')) fun _ _ x=>x)))
inductive InnI(W:Wd)(env:Env)(outer:ay)(F:Frz)(R:Mem)(D:Addr)(st:Nat->Mem->Mem->Prop)(mem₀:Mem)(l2:Loc)(ys0 us:List V)(g:V->Option V)(n:Nat)(s:Shared):Prop
 | intro (i:Nat) (F':Frz) (R1:Mem) (l:Loc) (m:Mem) (h0_:n+i=us.length) (h1_:aV F F') (h2_:st i (ap R D (.list (ys0++(us.take i).filterMap g))) R1) (h3_:Sim W env outer l m R1 F' s) (h4_:a7 l2 l) (h5_:Sub mem₀ m)
theorem take_fm{us:List V}{i:Nat}{u:V}(g:V->Option V)(h:us[i]? = some u):(us.take (i+1)).filterMap g=(us.take i).filterMap g++(g u).toList:=by
 have hlt:i<us.length:=(List.getElem?_eq_some_iff.mp h).1
 have hget:us[i]=u:=(List.getElem?_eq_some_iff.mp h).2
 rw[List.take_succ_eq_append_getElem hlt,List.filterMap_append,hget]
 cases hg:g u with
 | none=>simp[hg]
 | some y=>simp[hg]
theorem ni{mem₀:Mem}{l2:Loc}{D:Addr}{ys0 us:List V}{g:V->Option V}{R1:Mem}{st:Nat->Mem->Mem->Prop}{Rz:Result->Shared->Prop}(fd:Feed W A F t2 it (bN us) st)(S:Sim W env outer loc mem R1 F s)(hst:st 0 (ap R D (.list ys0)) R1)(hl:a7 l2 loc)(hm:Sub mem₀ mem)(hz:ys0.length+us.length≤sizeLine)
  (turn:∀ u∈us,Asg W A env outer t2 u l2 mem₀ (fun l m=>dN W A env outer ifs elt l m (fun y l m=>y=g u/\a7 l2 l/\Sub mem₀ m)) Ex.no)
  (hR:∀ l' m' F' s',aV F F'->Sim W env outer l' m' (ap R D (.list (ys0++us.filterMap g))) F' s'->Sub mem₀ m'->Rz (.ok .next) s'):codeAny (model W.prog W.w) A (.compLoop (lc2 elt t1 i1 t2 i2 ifs scope pos) 1 it (.ref D) env) Rz s:=by
 refine codeAny_loop rfl (InnI W env outer F R D st mem₀ l2 ys0 us g) (fun n s hI=>?_) us.length ⟨0,F,R1,loc,mem,by lia,aV.refl F,by rw[List.take_zero,List.filterMap_nil,List.append_nil];exact hst,S,hl,hm⟩
 obtain⟨i,F',R2,l,m,h0,ic,hst,S',hl,hm⟩:=hI
 show wpAny _ A ((compTurn (lc2 elt t1 i1 t2 i2 ifs scope pos) 1 it (.ref D) env).onRaise (fun x=>do noteFrame x env;theTreesLotGoes x)) _ _ s
 refine wpAny_noted ?_
 rw[turn_1]
 have e:bN us i m=some us[i]?:=by unfold bN;first|rfl|rw[if_pos (by lia)]
 cases hi:us[i]? with
 | none=>
  rw[hi]at e
  rw[List.getElem?_eq_none_iff]at hi
  refine wpAny_bind (wpAny_standAt (wpAny_bind (wpAny_mono (fd.done _ ic hst e S') (fun r s1 h1=>?_) fun _ _ f=>f)))
  obtain⟨rfl,S1⟩:=h1
  refine wpAny_pure (hR l m F' s1 ic ?_ hm)
  rw[List.take_of_length_le hi]at S1;exact S1
 | some u=>
  rw[hi]at e
  have hlt:i<us.length:=(List.getElem?_eq_some_iff.mp hi).1
  refine wpAny_bind (wpAny_standAt (wpAny_bind (wpAny_mono (fd.next _ ic hst e S') (fun r s1 h1=>?_) fun _ _ f=>f)))
  obtain⟨v',rfl,h1⟩:=h1
  refine wpAny_bind (wpAny_mono h1 (fun _ s2 h2=>?_) fun _ _ f=>f)
  obtain⟨F2,R3,i2,r2,hst2,S2⟩:=h2
  have t:=Op.memS hm (Op.locs hl (turn u (List.mem_of_getElem? hi)))
  have tk:=take_fm g hi
  have hlen:(ys0++(us.take i).filterMap g).length≤sizeLine:=by
   have:=List.length_filterMap_le g (us.take i)
   rw[List.length_take]at this
   rw[List.length_append];lia
  refine wpAny_bind (cG (RW:=VR W) (Q:=fun _ _ _=>True) (t R3 F2 s2 [v'] S2 (.cons r2 .nil)) (fun _ _ z=>z.elim) fun _ s3 F3 _ l3 m3 i3 _ S3 h3=>?_)
  have elts:∀ (F4:Frz) (l4:Loc) (m4:Mem) (s4:Shared),aV F' F4->Sim W env outer l4 m4 R3 F4 s4->TrV W A env outer (eval elt env) l4 m4 (fun y l m=>some y=g u/\a7 l2 l/\Sub mem₀ m) Ex.no->
    wpAny (model W.prog W.w) A (eval elt env) (fun x s₄=>wpAny (model W.prog W.w) A (call (.builtin "list.append") [.ref D,x]) (fun _ s₅=>∃ m',m'<n/\InnI W env outer F R D st mem₀ l2 ys0 us g m' s₅) (fun _ _=>False) s₄) (fun _ _=>False) s4:=fun F4 l4 m4 s4 i4 S4 he=>by
   refine cG (RW:=VR W) (Q:=fun _ _ _=>True) (he R3 F4 s4 S4) (fun _ _ z=>z) fun y' s5 F5 y l5 m5 i5 r5 S5 h5=>?_
   obtain⟨hy,hl5,hm5⟩:=h5
   have e2:R3 D=some (.list (ys0++(us.take i).filterMap g)):=by rw[fd.same hst2 (by rw[mset_self];exact fun e=>nomatch e),mset_self]
   have e3:=ip e2
   rw[<-e3]at S5
   obtain⟨o,ho,ro⟩:=S5.atR
   cases ro.view with
   | @list vs nn q=>
    refine append_at ho (fun h' hs ho'=>?_) (by rw[q.size];exact hlen)
    have S6:=S5.updR (t:=s5.toks) (d:=s5.drawn) (x':=.list (ys0++(us.take (i+1)).filterMap g)) (fun b ob hb e=>(hs.2 b hb).trans e) ho' (.list (by rw[tk,<-hy,Option.toList_some];simpa using q.app (.cons r5 .nil)))
    refine⟨n - 1,by lia,i+1,F5,_,l5,m5,by lia,(ic.trans i4).trans i5,?_,S6,hl5,hm5⟩
    have:=fd.frame (D:=D) (.list (ys0++(us.take (i+1)).filterMap g)) hst2 (by rw[e2,mset_self])
    rwa [gH]at this
  have skip:∀ (F4:Frz) (l4:Loc) (m4:Mem) (s4:Shared),aV F' F4->Sim W env outer l4 m4 R3 F4 s4->none=g u->a7 l2 l4->Sub mem₀ m4->∃ m',m'<n/\InnI W env outer F R D st mem₀ l2 ys0 us g m' s4:=fun F4 l4 m4 s4 i4 S4 hg hl4 hm4=>by
   refine⟨n - 1,by lia,i+1,F4,R3,l4,m4,by lia,ic.trans i4,?_,S4,hl4,hm4⟩
   rw[tk,<-hg,Option.toList_none,List.append_nil];exact hst2
  refine wpAny_bind (dN.run h3 S3 fun b' s4 F4 l4 m4 i4 S4' ht hf=>?_)
  cases b' with
  | true=>exact wpAny_bind (wpAny_bind (wpAny_mono (elts F4 l4 m4 s4 ((i2.trans i3).trans i4) S4' (ht rfl)) (fun x s₄ h₄=>wpAny_bind (wpAny_mono h₄ (fun _ s₅ h₅=>wpAny_pure (wpAny_pure ⟨rfl,h₅⟩)) fun _ _ f=>f.elim)) fun _ _ f=>f.elim))
  | false=>
   obtain⟨hg,hl4,hm4⟩:=hf rfl
   exact wpAny_pure ⟨rfl,skip F4 l4 m4 s4 ((i2.trans i3).trans i4) S4' hg hl4 hm4⟩
end
section
variable {W:Wd}{A:Around}{env:Env}{outer:ay}{loc:Loc}{mem R:Mem}{E:Ex W}{F:Frz}{s:Shared}
variable {elt t1 i1 t2 i2:PySem.Expr}{ifs:List PySem.Expr}{scope:Scope}{pos:Pos}{cl:List (Str×Addr)}
inductive OutI(W:Wd)(env:Env)(outer:ay)(F:Frz)(R:Mem)(D:Addr)(st:Nat->Mem->Mem->Prop)(mem₀:Mem)(items:List V)(f:V->List V)(n:Nat)(s:Shared):Prop
 | intro (i:Nat) (F':Frz) (R1:Mem) (l:Loc) (m:Mem) (h0_:n+i=items.length) (h1_:aV F F') (h2_:st i (ap R D (.list ((items.take i).flatMap f))) R1) (h3_:Sim W env outer l m R1 F' s) (h5_:Sub mem₀ m)
noncomputable def i7(sub:V->List V)(g:V->V->Option V)(v:V):List V:=(sub v).filterMap (g v)
inductive kF(W:Wd)(A:Around)(env:Env)(elt t1 t2 i2:PySem.Expr)(ifs:List PySem.Expr)(scope:Scope)(cl:List (Str×Addr))(loc:Loc)(mem:Mem)(x:V)(Q:V->Loc->Mem->Prop):Prop
 | mk (item:Nat->Mem->Option (Option V)) (mem₀:Mem) (itr:Itr W A t1 x mem mem₀ item) (items:List V) (hit:∀ m i,Sub mem₀ m->i≤items.length->item i m=some items[i]?) (sub:V->List V) (g:V->V->Option V) (hh:A.handled=none)
  (size:∀ i≤items.length,∀ v,items[i]? = some v->((items.take i).flatMap (i7 sub g)).length+(sub v).length≤sizeLine)
  (turn:∀ (C:Addr) (outer':ay) (i:Nat) (v:V),items[i]? = some v->Asg W A (compEnvC scope cl C env) outer' t1 v [] mem₀ (fun l m=>TrV W A (compEnvC scope cl C env) outer' (eval i2 (compEnvC scope cl C env)) l m (fun x2 l2 m2=>x2 = .tup (sub v)/\Sub mem₀ m2/\
   ∃ lk,a7 lk l2/\∀ u∈sub v,Asg W A (compEnvC scope cl C env) outer' t2 u lk mem₀ (fun l m=>dN W A (compEnvC scope cl C env) outer' ifs elt l m (fun y l m=>y=g v u/\a7 lk l/\Sub mem₀ m)) Ex.no) Ex.no) Ex.no)
  (fin:∀ D,mem₀ D=none->Q (.ref D) loc (ap mem₀ D (.list (items.flatMap (i7 sub g)))))
theorem je{E0:Value->Shared->Prop}{x:V}{Q:V->Loc->Mem->Prop}{x':Value}{RR:Value->Addr->Result->Shared->Prop}
  (hcell:∀ y∈scope.names,y.2≠.cell) (hkind:scope.kind = .function) (hf2:∀ C x,foldedSetIterable i2 (compEnvC scope cl C env) x=pure x) (H:kF W A env elt t1 t2 i2 ifs scope cl loc mem x Q)
  (S:Sim W env outer loc mem R F s) (r:VR W F x x') (hRR:∀ acc C s',nT W env outer loc R F Q acc C s'->RR acc C (.ok .next) s') :
  wpAny (model W.prog W.w) A (pyIter x') (fun it s₂=>wpAny (model W.prog W.w) A (newList []) (fun acc s₃=>
   wpAny (model W.prog W.w) A (newFunctionEnv scope env.globals cl [] env.qual none .none (some env)) (fun cenv s₄=>
    codeAny (model W.prog W.w) A (.compStart (lc2 elt t1 i1 t2 i2 ifs scope pos) 0 it acc { cenv with scope:=relabel scope env }) (RR acc cenv.locals) s₄) E0 s₃) E0 s₂) E0 s:=by
 obtain⟨item,mem₀,hx,items,hit,sub,g,hh,size,turn,fin⟩:=H
 refine j1 hcell hkind hx S r fun it st R' D C m s4 fd fR0 st3 lm oC S4=>?_
 refine codeAny_loop rfl (OutI W (compEnvC scope cl C env) ((env.locals,m)::outer) F R D st mem₀ items (i7 sub g)) (fun n s hI=>?_) items.length ⟨0,F,_,[],mem₀,by lia,aV.refl F,by rw[List.take_zero,List.flatMap_nil];exact st3,S4,fun _ _ h=>h⟩
 obtain⟨i,F',R1,l,m',h0,ic,hst,S',hm⟩:=hI
 show wpAny _ A ((compTurn (lc2 elt t1 i1 t2 i2 ifs scope pos) 0 it (.ref D) (compEnvC scope cl C env)).onRaise (fun x=>do noteFrame x _;theTreesLotGoes x)) _ _ s
 refine wpAny_noted ?_
 rw[turn_0]
 have e:=hit m' i hm (by lia)
 cases hi:items[i]? with
 | none=>
  rw[hi]at e
  rw[List.getElem?_eq_none_iff]at hi
  refine wpAny_bind (wpAny_standAt (wpAny_bind (wpAny_mono (fd.done _ ic hst e S') (fun r s1 h1=>?_) fun _ _ f=>f)))
  obtain⟨rfl,S1⟩:=h1
  rw[List.take_of_length_le hi]at S1
  refine wpAny_pure (hRR _ _ _ ?_)
  obtain⟨mc,hnc,_⟩:=S1.z.ns
  have z:=S.z.swap lm ic S1.z hnc
  have S5:Sim W env ((C,mc)::outer) loc m' (ap R D (.list (items.flatMap (i7 sub g)))) F' s1:=⟨S1.dis,z⟩
  have hD0:mem₀ D=none:=by
   cases z:mem₀ D with
   | none=>rfl
   | some y=>have:=S5.offM;rw[hm D y z]at this;cases this
  refine⟨F',ap mem₀ D (.list (items.flatMap (i7 sub g))),D,mc,rfl,ic,oC,(S5.fromR fR0).drop fun a y hy=>?_,fin D hD0⟩
  unfold ap at hy ⊢
  split at hy
  ·rename_i z;rw[if_pos z];exact hy
  ·rename_i z;rw[if_neg z];exact hm a y hy
 | some v=>
  rw[hi]at e
  refine wpAny_bind (wpAny_standAt (wpAny_bind (wpAny_mono (fd.next _ ic hst e S') (fun r s1 h1=>?_) fun _ _ f=>f)))
  obtain⟨v',rfl,h1⟩:=h1
  refine wpAny_bind (wpAny_mono h1 (fun _ s2 h2=>?_) fun _ _ f=>f)
  obtain⟨F2,R2,i2',r2,hst2,S2'⟩:=h2
  have t:=Op.locs (loc:=l) (loc':=[]) rfl (turn C ((env.locals,m)::outer) i v hi)
  refine wpAny_bind (cG (RW:=VR W) (Q:=fun _ _ _=>True) (Op.memS hm t R2 F2 s2 [v'] S2' (.cons r2 .nil)) (fun _ _ z=>z.elim) fun _ s3 F3 _ l3 m3 i3 _ S3' h3=>?_)
  refine wpAny_bind (cG (RW:=VR W) (Q:=fun _ _ _=>True) (h3 R2 F3 s3 S3') (fun _ _ z=>z.elim) fun x2' s4 F4 x2 l4 m4 i4 r4 S4' h4=>?_)
  obtain⟨rfl,hm4,lk,hlk,tu⟩:=h4
  refine wpAny_bind (wpAny_standAt (wpAny_bind (wpAny_of_eq (hf2 C x2') (wpAny_bind (wpAny_holding ?_)))))
  refine wpAny_mono (fH (target:=t2) hh (fun _ _=>False) S4' r4) (fun it2 s5 h5=>?_) fun _ _ f=>f.elim
  obtain⟨st2,R3,fd2,h02,S5⟩:=h5
  have e2:R2 D=some (.list ((items.take i).flatMap (i7 sub g))):=by rw[fd.same hst2 (by rw[mset_self];exact fun e=>nomatch e),mset_self]
  have e3:=ip e2
  have hnext:items.take (i+1)=items.take i++[v]:=by
   have hlt:i<items.length:=(List.getElem?_eq_some_iff.mp hi).1
   rw[List.take_succ_eq_append_getElem hlt,(List.getElem?_eq_some_iff.mp hi).2]
  refine wpAny_bind (wpAny_runOwn (h:=none) ?_)
  rw[Around.mark_none]
  refine(fun h0=>start_1 h0 (fd2.self _ _ h02 S5 h0)) ?_
  refine ni (R:=R2) (l2:=lk) fd2 S5 (by rw[e3];exact h02) hlk hm4 (size i (by lia) v hi) tu fun l' m6 F6 s6 i6 S6 hm6=>?_
  refine wpAny_pure (And.intro rfl ⟨n - 1,?_,i+1,F6,_,l',m6,?_,((((ic.trans i2').trans i3).trans i4).trans i6),?_,S6,hm6⟩)
  ·have hlt:i<items.length:=(List.getElem?_eq_some_iff.mp hi).1
   lia
  ·have hlt:i<items.length:=(List.getElem?_eq_some_iff.mp hi).1
   lia
  ·have:=fd.frame (D:=D) (.list ((items.take i).flatMap (i7 sub g)++(sub v).filterMap (g v))) hst2 (by rw[e2,mset_self])
   rw[gH]at this
   rw[hnext,List.flatMap_append,List.flatMap_singleton];exact this
theorem hW{Q:V->Loc->Mem->Prop}(hclos:closureFor scope env=pure cl)(hcell:∀ y∈scope.names,y.2≠.cell)(hkind:scope.kind = .function)
  (hnames:∀ y∈scope.names,y.2 = .local->scope.names.lookup y.1=some .local) (hs:∀ x,foldedSetIterable i1 env x=pure x) (hf2:∀ C x,foldedSetIterable i2 (compEnvC scope cl C env) x=pure x)
  (h:TrV W A env outer (eval i1 env) loc mem (fun x l m=>kF W A env elt t1 t2 i2 ifs scope cl l m x Q) E) :
  TrV W A env outer (eval (lc2 elt t1 i1 t2 i2 ifs scope pos) env) loc mem Q E:=fun R F s S=>by
 rw[eval_ListComp]
 refine wpAny_comprehension_free (use:=none) rfl hs hclos hkind hnames (aM (i:=.refl _) (RW:=VR W) (Q:=fun _ _ _=>True) (h R F s S) fun x' s1 F1 x l1 m1 i1 r1 S1 h1=>?_)
 refine je (RR:=fun acc C=>compPost (model W.prog W.w) A (E.p R F) none (aE W env outer (VR W) R F Q) acc C) hcell hkind hf2 h1 S1 r1 fun acc C s' he=>?_
 obtain⟨F',mem',D,m',rfl,i',oC,S',q⟩:=he
 refine⟨m',(S'.z.outs _ (.head _)).1,fun h' hs'=>⟨F',.ref D,l1,mem',i1.trans i',.ref D,⟨S'.dis,S'.z.dropOut (t:=s'.toks) oC hs'⟩,q⟩⟩
theorem ga{py spos:Pos}{y:Str}{Q:Fl->Loc->Mem->Prop}
  (hsw:swapsWith (lc2 elt t1 i1 t2 i2 ifs scope pos) (some (.Name y py)) spos.line env=pure true)
  (hclos:closureFor scope env=pure cl) (hcell:∀ y∈scope.names,y.2≠.cell) (hkind:scope.kind = .function)
  (hnames:∀ y∈scope.names,y.2 = .local->scope.names.lookup y.1=some .local) (hy:env.kindOf y=some .local) (hp:(env.scope.kind == .class || (env.scope.kind == .module&&env.locals != env.globals))=false)
  (hs:∀ x,foldedSetIterable i1 env x=pure x) (hf2:∀ C x,foldedSetIterable i2 (compEnvC scope cl C env) x=pure x)
  (h:TrV W A env outer (eval i1 env) loc mem (fun x l m=>kF W A env elt t1 t2 i2 ifs scope cl l m x (fun v l m=>Q .next (eY y v l) m)) E) :
  TrS W A env outer (exec (.Assign [.Name y py] (lc2 elt t1 i1 t2 i2 ifs scope pos) spos) env) loc mem Q E:=fun R F s S=>by
 rw[exec_Assign_Name_used _ _ _ _ hsw]
 refine wpAny_bind (wpAny_standAt (wpAny_bind ?_))
 show wpAny _ A (do let _<-comprehension (lc2 elt t1 i1 t2 i2 ifs scope pos) scope env _ (newList []) false (eval i1 env) (some (assign (.Name y py) env))) _ _ s
 refine wpAny_bind (wpAny_mono (wpAny_comprehension_free (use:=some (assign (.Name y py) env)) (Q:=fun _ s'=>aE W env outer (FR W) R F Q .next s') rfl hs hclos hkind hnames
  (aM (i:=.refl _) (RW:=VR W) (Q:=fun _ _ _=>True) (h R F s S) fun x' s1 F1 x l1 m1 i1 r1 S1 h1=>?_)) (fun _ s' hq=>wpAny_pure (wpAny_pure hq)) fun _ _ e=>e)
 refine je (Q:=fun v l m=>Q .next (eY y v l) m) (RR:=fun acc C=>compPost (model W.prog W.w) A (E.p R F) (some (assign (.Name y py) env)) (fun _ s'=>aE W env outer (FR W) R F Q .next s') acc C) hcell hkind hf2 h1 S1 r1 fun acc C s' he=>?_
 obtain⟨F',mem',D,m',rfl,i',oC,S',q⟩:=he
 refine wpAny_assign_Name (aM (i:=.trans ‹_› ‹_›) (RW:=fun _ (_ _:Unit)=>True) (Q:=fun _ _ _=>True) (dL (A:=A) (E:=E) (v:=.ref D) (Q:=fun l m=>Q .next l m) hy hp q R F' s' [.ref D] S' (.cons (.ref D) .nil)) fun _ s2 F2 _ l2 m2 i2 _ S2 q2=>?_)
 exact⟨m',(S2.z.outs _ (.head _)).1,fun h' hs'=>⟨F2,.next,l2,m2,(i1.trans i').trans i2,.next,⟨S2.dis,S2.z.dropOut (t:=s2.toks) oC hs'⟩,q2⟩⟩
end
section
variable {W:Wd}{A:Around}{env:Env}{outer:ay}{loc:Loc}{mem R:Mem}{E:Ex W}{F:Frz}{s:Shared}
theorem gM{v:V}{bs:List Bool}{Q:V->Loc->Mem->Prop}(hh:A.handled=none)(q:Sq mem v "list" (bs.map .bool))(h:Q (.bool (bs.any id)) loc mem) :
  OpV W A env outer (fun vs=>call (.builtin "any") vs) [v] loc mem Q E:=op1 fun R F s v' S r=>by
 obtain⟨a,vs,n,rfl,ho,rs⟩:=q.at S r
 have e:=rs.bools
 refine call_any_walk (wpAny_pyIter_list (items:=vs) ⟨_,ho,rfl,n,rfl⟩ ?_)
 have hne:a≠s.heap.objs.size:=fun q=>by have:=Heap.lt_size ho;rw[q]at this;exact Nat.lt_irrefl _ this
 have hv:∀ i,vs[i]? = (bs[i]?).map Value.bool:=fun i=>by rw[<-Array.getElem?_toList,e,List.getElem?_map]
 have hsz:vs.size=bs.length:=by rw[<-Array.length_toList,e,List.length_map]
 refine⟨_,_,_,_,_,_,fun i=>(bs[i]?).getD false,rfl,Walks.list (A:=A.in1) hh s.heap.objs.size a hne vs,⟨⟨_,Heap.get?_push_size _ rfl,rfl,rfl⟩,⟨_,Heap.get?_push_of_some _ ho,rfl,n,rfl⟩⟩,fun i v s Q E hP hQ=>?_,fun h' tk hk=>?_⟩
 ·have hP':vs[i]? = some v:=hP
  rw[hv i]at hP'
  cases hb:bs[i]? with
  | none=>rw[hb]at hP';cases hP'
  | some b=>
   rw[hb]at hP'
   cases hP'
   refine wpAny_truthy_bool ?_
   simp only [hb,Option.getD_some]at hQ
   exact hQ
 ·have S':=(S.grow (t:=s.toks) (d:=s.drawn) (h':=s.heap.push { cls:=.type "list_iterator",data:=.fields #[.ref a,.int 0 0] }) fun b o e=>Heap.get?_push_of_some _ e)
  have S2:=S.grow (t:=tk) (d:=s.drawn) (h':=h') fun b o e=>hk b o (by
   intro hb
   have:=Heap.lt_size e
   simp only [List.mem_cons,List.not_mem_nil,or_false]at hb
   rw[hb]at this
   exact Nat.lt_irrefl _ this) (Heap.get?_push_of_some _ e)
  refine aE.mk (.bool _) S2 ?_
  have:(List.range vs.size).any (fun i=>(bs[i]?).getD false)=bs.any id:=by
   rw[hsz]
   rw[Bool.eq_iff_iff,List.any_eq_true,List.any_eq_true]
   constructor
   ·rintro⟨i,hi,hx⟩
    have hi:=List.mem_range.mp hi
    exact⟨bs[i],List.getElem_mem hi,by simpa [List.getElem?_eq_getElem hi] using hx⟩
   ·rintro⟨x,hx,hx2⟩
    obtain⟨i,hi,rfl⟩:=List.mem_iff_getElem.mp hx
    exact⟨i,List.mem_range.mpr hi,by simpa [List.getElem?_eq_getElem hi] using hx2⟩
  show Q (.bool _) loc mem
  rw[this];exact h
end
noncomputable abbrev aD:=Str×List Str
noncomputable def bB(r:aD):V:=.tup [.str r.1,.tup (ae r.2)]
noncomputable def ABC:List Str:=["a","b","c"]
noncomputable def SY3:List Str:=["S","A","B","C","a","b","c","error","+"]
theorem bn:∀ s∈SY3,PyData.strOk s=true:=by decide +kernel
theorem cq:∀ s∈NM,s∈SY3:=by decide +kernel
theorem qh:(ae NM).all (isD 0)=true:=dv (by decide +kernel)
structure RL3(r:aD):Prop where
 left:r.1∈NM
 len:r.2.length≤3
 body:∀ y∈r.2,y∈SY3
structure LR3(R:List aD):Prop where
 ok:∀ r∈R,RL3 r
 hz:R.length≤6
noncomputable def osV:Option Str->V
 | none=>.none
 | some s=>.str s
noncomputable def osL:Option Str->List Str
 | none=>[]
 | some s=>[s]
noncomputable def bF(R:List aD)(os:Option Str):List Str:=R.flatMap (·.2)++osL os
noncomputable def bx(R:List aD):List Str:=R.map (·.1)
noncomputable def bg(R:List aD):List Str:=NM.filter fun n=>!decide (n∈bx R)
noncomputable def dz(R:List aD)(g:List Str):List (List Str):=R.filterMap fun r=>if decide (r.1∈g) then some r.2 else none
noncomputable def pY:V->List V
 | .tup [_,.tup ys]=>ys
 | _=>[]
theorem subs2(R:List aD):(R.map bB).flatMap (i7 pY fun _ u=>some u)=ae (R.flatMap (·.2)):=by
 induction R with
 | nil=>rfl
 | cons r R ih=>
  rw[List.map_cons,List.flatMap_cons,List.flatMap_cons,ih]
  show List.filterMap some (ae r.2)++_=_
  rw[List.filterMap_some];unfold ae;rw[List.map_append]
noncomputable def fstG:V->Option V
 | .tup (x::_)=>some x
 | _=>none
theorem pN(R:List aD):(R.map bB).filterMap fstG=ae (bx R):=by
 unfold bx ae
 induction R with
 | nil=>rfl
 | cons r R ih=>rw[List.map_cons,List.filterMap_cons,List.map_cons,List.map_cons,<-ih];rfl
noncomputable def lc(p:Str->Bool):V->Option V
 | .str t=>if p t then some (.str t) else none
 | _=>none
theorem jm(p:Str->Bool)(l:List Str):(ae l).filterMap (lc p)=ae (l.filter p):=by
 unfold ae
 induction l with
 | nil=>rfl
 | cons t l ih=>
  rw[List.map_cons,List.filterMap_cons,List.filter_cons]
  rw[show lc p (.str t)=if p t then some (V.str t) else none from rfl]
  cases p t with
  | true=>exact congrArg (V.str t::·) ih
  | false=>exact ih
theorem LR3.flat{R:List aD}(I:LR3 R):∀ k≤R.length,((R.take k).flatMap (·.2)).length≤3*k:=by
 intro k
 induction k with
 | zero=>intro _;exact Nat.le_refl _
 | succ k ih=>
  intro hk
  have hlt:k<R.length:=hk
  rw[aK (List.getElem?_eq_getElem hlt),List.flatMap_append,List.length_append,List.flatMap_singleton]
  have:=ih (Nat.le_of_lt hlt)
  have:=(I.ok _ (List.getElem_mem hlt)).len
  lia
theorem LR3.used_len{R:List aD}(I:LR3 R)(os:Option Str):(bF R os).length≤19:=by
 unfold bF
 have:=I.flat R.length (Nat.le_refl _)
 rw[List.take_length]at this
 have h6:=I.hz
 have:(osL os).length≤1:=by cases os with|none=>exact Nat.zero_le _|some s=>exact Nat.le_refl _
 rw[List.length_append];lia
theorem iw:∀ s∈SY3,0<s.length/\s.length≤5:=by decide +kernel
theorem LR3.used_ok{R:List aD}(I:LR3 R){os:Option Str}(ho:∀ s∈osL os,s∈SY3):∀ s∈bF R os,s∈SY3:=fun s hs=>by
 unfold bF at hs
 rcases List.mem_append.mp hs with hs|hs
 ·obtain⟨r,hr,hs⟩:=List.mem_flatMap.mp hs
  exact(I.ok r hr).body s hs
 ·exact ho s hs
theorem LR3.def_ok{R:List aD}(I:LR3 R):∀ s∈bx R,s∈SY3:=fun s hs=>by
 obtain⟨r,hr,rfl⟩:=inM hs
 exact cq _ (I.ok r hr).left
theorem fG{ra:Addr}{xs:List V}{mem m:Mem}(h:mem ra=some (.list xs))(s:Sub mem m)(i:Nat):dD ra i m=some xs[i]?:=by
 exact gc (s _ _ h)
noncomputable abbrev duE(L:Addr):Env:=ji "_law_due" lDue.scope L 296 lDue.code
section
variable {W:Wd}{A:Around}{env:Env}{outer:ay}{loc:Loc}{mem:Mem}{E:Ex W}
theorem due_a{L ra:Addr}{R:List aD}{os:Option Str}{u1 u2 u3 u4:Option V}{Q:Fl->Loc->Mem->Prop}(hK:W.K=hdK W.w.params)(cd:aU A 700 6000)(I:LR3 R)(ho:∀ s∈osL os,s∈SY3)
  (c1:mem (L+1)=some (.cell u1)) (c2:mem (L+2)=some (.cell u2)) (c3:mem (L+3)=some (.cell u3)) (c4:mem (L+4)=some (.cell u4)) (hr:mem ra=some (.list (R.map bB)))
  (h:∀ m,m (L+1)=some (.cell (some (.lst (ae (bF R os)))))->m (L+2)=some (.cell (some (.lst (ae (bx R)))))->m (L+3)=some (.cell (some (.lst (ae (bg R)))))->
   (∀ b,b≠L+1->b≠L+2->b≠L+3->m b=mem b)->TrS W A (duE L) outer (execs (lDue.body.drop 3) (duE L)) [("rules",.ref ra),("start",osV os)] m Q E) :
  TrS W A (duE L) outer (execs lDue.body (duE L)) [("rules",.ref ra),("start",osV os)] mem Q E:=by
 refine ac ?_
 refine c7 rfl ?_
 refine cQ ?_
 refine hW (cl:=[]) rfl (by decide) rfl (by decide) (fun _=>rfl) (fun _ _=>rfl) ?_
 refine pu rfl ?_
 refine .mk (dD ra) mem (dt cd.handled hr) (R.map bB) (fun m i s _=>fG hr s i) pY (fun _ u=>some u) cd.handled ?_ ?_ ?_
 ·intro i hi v hv
  rw[List.length_map]at hi
  rw[List.getElem?_map]at hv
  obtain⟨r,hr2,rfl⟩:=Option.map_eq_some_iff.mp hv
  have h1:=I.flat i hi
  have h2:=(I.ok r (List.mem_of_getElem? hr2)).len
  have h6:=I.hz
  rw[<-List.map_take,subs2,aG]
  show _+(ae r.2).length≤_
  rw[aG]
  exact Nat.le_trans (show _≤21 by lia) (by decide)
 ·intro C outer' i v hv
  obtain⟨r,hr2,rfl⟩:=inM (List.mem_of_getElem? hv)
  refine bl (by first|assumption|exact aU.handled (by assumption)) rfl rfl ?_;refine am rfl rfl ?_;refine am rfl rfl ?_;refine pu rfl ?_
  refine⟨rfl,ah _,[("name",.str r.1),("symbols",.tup (ae r.2))],rfl,fun u hu=>?_⟩
  refine am rfl rfl ?_;refine pu rfl ?_
  exact⟨rfl,rfl,ah _⟩
 ·intro D hD
  rw[subs2]
  have hz:=I.used_len os
  refine Tr.mono (Q:=fun v l m=>v = .lst (ae (osL os))/\l=[(("rules" : Str),V.ref ra),("start",osV os)]/\m=ap mem D (.list (ae (R.flatMap (·.2))))) (aC ?_) ?_
  ·intro qq ee
   refine fU ?_;refine be rfl rfl ?_
   cases os with
   | none=>
    refine gy ?_
    refine aT ?_
    refine aW ?_;refine aI ?_
    refine bp (show 0≤sizeLine by decide) ?_
    exact⟨rfl,rfl,rfl⟩
   | some s=>
    obtain⟨z1,z2⟩:=iw s (ho s (.head _))
    refine kJ (by lia) ?_
    rw[show((s.length:Int) != 0)=true from bne_iff_ne.mpr (by lia)]
    refine bk ?_
    refine aW ?_;refine aN rfl ?_
    refine bp (show 1≤sizeLine by decide) ?_
    exact⟨rfl,rfl,rfl⟩
  ·rintro b l m ⟨rfl,rfl,rfl⟩
   refine gr (.own (mset_self _ _ _)) (.lst _) (by rw[aG,aG];unfold bF at hz;rw[List.length_append]at hz;exact Nat.le_trans hz (by decide)) ?_
   rw[show ae (R.flatMap (·.2))++ae (osL os)=ae (bF R os) from by unfold bF ae;rw[List.map_append]]
   refine Op.memS (aL hD (ah _)) ?_
   refine eL (hk:=rfl) (hl:=rfl) (hc:=rfl) c1 (fun m1 a1 f1=>?_)
   have n21:L+2≠L+1:=by intro e;exact absurd e (Nat.ne_of_gt (by lia))
   have n31:L+3≠L+1:=by intro e;exact absurd e (Nat.ne_of_gt (by lia))
   have n32:L+3≠L+2:=by intro e;exact absurd e (Nat.ne_of_gt (by lia))
   have c2:=(f1 _ n21).trans c2
   have c3:=(f1 _ n31).trans c3
   have hr1:=(f1 _ (nex hr c1)).trans hr
   refine ac ?_
   refine c7 rfl ?_
   refine Tr.shift ?_
   refine bd rfl (by decide) rfl (by decide) (fun _=>rfl) ?_;refine pu rfl ?_
   refine bj (dt cd.handled hr1) (R.map bB) (fun m i s _=>fG hr1 s i) (by rw[List.length_map];exact Nat.le_trans I.hz (by decide)) fstG ?_ ?_
   ·intro C outer' i v hv
    obtain⟨r,hr2,rfl⟩:=inM (List.mem_of_getElem? hv)
    refine bl (by first|assumption|exact aU.handled (by assumption)) rfl rfl ?_;refine am rfl rfl ?_;refine am rfl rfl ?_;refine pu rfl ?_
    exact⟨rfl,ah _⟩
   ·intro D hD
    rw[pN]
    refine⟨_,m1,b8.lst (mset_self _ _ _) (aL hD (ah _)) hD,?_⟩
    refine eL (hk:=rfl) (hl:=rfl) (hc:=rfl) c2 (fun m2 a2 f2=>?_)
    have c3:=(f2 _ n32).trans c3
    refine ac ?_
    refine c7 rfl ?_
    refine Tr.shift ?_
    refine bd rfl (by decide) rfl (by decide) (fun _=>rfl) ?_;refine c5 hK (fun _=>rfl) (fun _=>rfl) ?_
    refine cV hK (cd.mono (by decide) (by decide)) ?_
    have hu2:A.units+65<cLine:=Nat.lt_of_le_of_lt (Nat.add_le_add_right cd.units 65) (by decide)
    refine bj (cb cd.handled) (ae NM) (fun m i hs hi=>rfl) (show 4≤sizeLine by decide) (lc fun n=>!decide (n∈bx R)) ?_ ?_
    ·intro C outer' i v hv
     obtain⟨t,ht,rfl⟩:=inM (List.mem_of_getElem? hv)
     refine am rfl rfl ?_;refine bD rfl rfl ?_;refine aX rfl rfl rfl rfl (by first|assumption|simp[mset_self]) ?_
     refine dQ (.lst _) (bn _ (cq _ ht)) (dr fun y hy=>bn _ (I.def_ok y hy)) hu2 ?_
     rw[show lc (fun n=>!decide (n∈bx R)) (.str t)=if !decide (t∈bx R) then some (V.str t) else none from rfl]
     refine aj ?_
     refine⟨fun hb=>?_,fun hb=>?_⟩
     ·refine pu rfl ?_
      exact⟨by rw[if_pos hb],ah _⟩
     ·exact⟨by rw[if_neg (by rw[hb];exact Bool.false_ne_true)],ah _⟩
    ·intro D hD
     rw[jm]
     refine⟨_,m2,b8.lst (mset_self _ _ _) (aL hD (ah _)) hD,?_⟩
     refine eL (hk:=rfl) (hl:=rfl) (hc:=rfl) c3 (fun m3 a3 f3=>?_)
     refine h m3 ?_ ?_ a3 fun b h1 h2 h3=>((f3 b h3).trans (f2 b h2)).trans (f1 b h1)
     ·rw[f3 _ (Ne.symm n31),f2 _ (Ne.symm n21)];exact a1
     ·rw[f3 _ (Ne.symm n32)];exact a2
end
noncomputable def inB(g ms:List Str)(s:Str):Bool:=decide (s∈g) || decide (s∈ms)
noncomputable def lw(R:List aD)(g:List Str):Bool:=((dz R g).map fun ss=>(ss.map (inB g (bg R))).any id).all id
noncomputable def qd(R:List aD)(g:List Str):Bool:=(g.map fun n=>decide (n∈bg R)).any id
noncomputable def osIn(os:Option Str)(g:List Str):Bool:=match os with
 | none=>false
 | some s=>decide (s∈g)
noncomputable def stB(g:List Str)(s:Str):Bool:=decide (s∈g) || !decide (s∈NM)
noncomputable def kP(R:List aD)(g:List Str):Bool:=((dz R g).flatMap fun ss=>ss.map (stB g)).all id
noncomputable def gf(R:List aD)(os:Option Str)(g:List Str)(n:Str):Bool:=!decide (n∈g)&&(decide (n∈bF R os) || decide (n∈bx R))
noncomputable def mE(R:List aD)(os:Option Str)(g:List Str):List Str:=NM.filter (gf R os g)
noncomputable def dZ(R:List aD)(g:List Str):List Str:=if lw R g&&!qd R g then g else []
noncomputable def er(R:List aD)(os:Option Str)(g:List Str):List Str:=if osIn os g&&kP R g then mE R os g else []
noncomputable def innG(g:List Str):V->Option V
 | .tup [.str n,y]=>if decide (n∈g) then some y else none
 | _=>none
noncomputable abbrev gA(xs:List (List Str)):List V:=xs.map fun ss=>.tup (ae ss)
theorem pg(g:List Str)(R:List aD):(R.map bB).filterMap (innG g)=gA (dz R g):=by
 unfold dz
 induction R with
 | nil=>rfl
 | cons r R ih=>
  rw[List.map_cons,List.filterMap_cons,List.filterMap_cons]
  rw[show innG g (bB r)=if decide (r.1∈g) then some (V.tup (ae r.2)) else none from rfl]
  cases decide (r.1∈g) with
  | true=>exact congrArg (V.tup (ae r.2)::·) ih
  | false=>exact ih
theorem d9{R:List aD}{g:List Str}{ss:List Str}:ss∈dz R g↔∃ r∈R,r.1∈g/\r.2=ss:=by
 unfold dz
 rw[List.mem_filterMap]
 refine exists_congr fun r=>and_congr_right fun _=>?_
 by_cases q:r.1∈g
 ·rw[if_pos (decide_eq_true q)];simp[q]
 ·rw[if_neg (by simp[q])];simp[q]
theorem pS(R:List aD)(g:List Str):(dz R g).length≤R.length:=List.length_filterMap_le _ _
noncomputable def bG(p:Str->Bool):V->Option V
 | .str s=>some (.bool (p s))
 | _=>none
theorem me(p:Str->Bool)(b:List Str):(ae b).filterMap (bG p)=(b.map p).map V.bool:=by
 unfold ae
 induction b with
 | nil=>rfl
 | cons s b ih=>rw[List.map_cons,List.filterMap_cons];exact congrArg (V.bool _::·) ih
noncomputable def bT(p:List Str->Bool):V->Option V
 | .tup ys=>some (.bool (p (ys.map fun v=>match v with|.str s=>s|_=>"")))
 | _=>none
theorem qe(p:List Str->Bool)(ss:List Str):bT p (.tup (ae ss))=some (.bool (p ss)):=by
 have:(ae ss).map (fun v=>match v with|.str s=>s|_=>("" : Str))=ss:=by
  unfold ae;rw[List.map_map];exact List.map_id _
 show some (V.bool (p ((ae ss).map _)))=_
 rw[this]
theorem bT_map(p:List Str->Bool)(xs:List (List Str)):(gA xs).filterMap (bT p)=(xs.map p).map V.bool:=by
 induction xs with
 | nil=>rfl
 | cons s xs ih=>
  unfold gA at ih ⊢
  rw[List.map_cons,List.filterMap_cons,qe];exact congrArg (V.bool _::·) ih
noncomputable def tupOf:V->List V
 | .tup ys=>ys
 | _=>[]
theorem lh(p:Str->Bool)(xs:List (List Str)):(gA xs).flatMap (i7 tupOf fun _=>bG p)=(xs.flatMap fun ss=>ss.map p).map V.bool:=by
 induction xs with
 | nil=>rfl
 | cons s xs ih=>
  unfold gA at ih ⊢
  rw[List.map_cons,List.flatMap_cons,List.flatMap_cons,List.map_append,ih]
  exact congrArg (·++_) (me p s)
theorem LR3.inn_len{R:List aD}(I:LR3 R)(g:List Str):∀ k≤(dz R g).length,(((dz R g).take k).flatMap fun ss=>ss).length≤3*k:=by
 have hl:∀ ss∈dz R g,ss.length≤3:=fun ss h=>by
  obtain⟨r,hr,_,rfl⟩:=d9.mp h
  exact(I.ok r hr).len
 generalize dz R g=xs at *
 intro k
 induction k with
 | zero=>intro _;exact Nat.le_refl _
 | succ k ih=>
  intro hk
  have hlt:k<xs.length:=hk
  rw[aK (List.getElem?_eq_getElem hlt),List.flatMap_append,List.length_append,List.flatMap_singleton]
  have:=ih (Nat.le_of_lt hlt)
  have:=hl _ (List.getElem_mem hlt)
  lia
theorem fV:∀ g∈cS NM,g.length≤4/\∀ n∈g,n∈NM:=by decide +kernel
theorem nP:(cS NM).length=16:=by decide +kernel
theorem n6{α:Type}(f:α->List Str)(b:Nat):∀ l:List α,(∀ a∈l,(f a).length≤b)->(l.flatMap f).length≤b*l.length:=fun l h=>by
 induction l with
 | nil=>exact Nat.zero_le _
 | cons a l ih=>
  rw[List.flatMap_cons,List.length_append,List.length_cons,Nat.mul_succ]
  have:=h a (.head _)
  have:=ih fun b hb=>h b (.tail _ hb)
  lia
theorem p3(R:List aD){g:List Str}(h:g.length≤4):(dZ R g).length≤4:=by
 unfold dZ;split
 ·exact h
 ·exact Nat.zero_le _
theorem qv(R:List aD)(os:Option Str)(g:List Str):(er R os g).length≤4:=by
 unfold er;split
 ·exact List.length_filter_le _ _
 ·exact Nat.zero_le _
noncomputable def OffL(ta:Addr)(m m':Mem):Prop:=∀ b x,b≠ta->m b=some x->m' b=some x
noncomputable def cF(ra:Addr)(os:Option Str)(e h:List Str):Loc:=[("rules",.ref ra),("start",osV os),("endless",.lst (ae e)),("hidden",.lst (ae h))]
inductive J3d(mem:Mem)(L ra:Addr)(R:List aD)(os:Option Str)(i:Nat)(l:Loc)(m:Mem):Prop
 | mk (h1_:a7 (cF ra os (((cS NM).take i).flatMap (dZ R)) (((cS NM).take i).flatMap (er R os))) l) (u:Option V) (h2_:m (L+4)=some (.cell u)) (h3_:OffL (L+4) mem m)
noncomputable def duB:List Stmt:=ag (ai lDue.body 5)
section
variable {W:Wd}{A:Around}{env:Env}{outer:ay}{loc:Loc}{mem:Mem}{E:Ex W}
theorem a7.tail{q:Str×V}{a b:Loc}(h:a7 (q::a) b):a7 a b:=(List.cons.inj h).2
theorem qx{v:V}{os:Option Str}{g:List Str}{Q:V->Loc->Mem->Prop}(q:Sq mem v "list" (ae g))(ho:∀ s∈osL os,s∈SY3)(hg:(ae g).all (isD 0)=true)(hu:A.units+65<cLine)(h:Q (.bool (osIn os g)) loc mem) :
  OpV W A env outer (fun|[x,y]=>compareOp .In x y|_=>pure .none) [osV os,v] loc mem Q E:=by
 cases os with
 | none=>exact in_none q hg hu h
 | some s=>exact dc q (bn _ (ho s (.head _))) hg hu h
theorem qD{L ra:Addr}{R:List aD}{os:Option Str}{g es hd:List Str}{Q:Fl->Loc->Mem->Prop}(hK:W.K=hdK W.w.params)(cd:aU A 700 6000)(I:LR3 R)(ho:∀ s∈osL os,s∈SY3)
  (g4:g.length≤4) (gn:∀ n∈g,n∈NM) (hz1:es.length≤64) (hz2:hd.length≤64)
  (c1:mem (L+1)=some (.cell (some (.lst (ae (bF R os)))))) (c2:mem (L+2)=some (.cell (some (.lst (ae (bx R)))))) (c3:mem (L+3)=some (.cell (some (.lst (ae (bg R)))))) (c4:mem (L+4)=some (.cell (some (.lst (ae g))))) (hr:mem ra=some (.list (R.map bB)))
  (h:∀ l m,a7 (cF ra os (es++dZ R g) (hd++er R os g)) l->Sub mem m->Q .next l m) :
  TrS W A (duE L) outer (execs duB (duE L)) (cF ra os es hd) mem Q E:=by
 have hu2:A.units+65<cLine:=Nat.lt_of_le_of_lt (Nat.add_le_add_right cd.units 65) (by decide)
 have okm:(ae (bg R)).all (isD 0)=true:=dr fun y hy=>bn _ (cq _ (List.mem_filter.mp hy).1)
 have okg:(ae g).all (isD 0)=true:=dr fun y hy=>bn _ (cq _ (gn y hy))
 have okU:(ae (bF R os)).all (isD 0)=true:=dr fun y hy=>bn _ (I.used_ok ho y hy)
 have okD:(ae (bx R)).all (isD 0)=true:=dr fun y hy=>bn _ (I.def_ok y hy)
 have okb:∀ ss∈dz R g,ss.length≤3/\∀ y∈ss,y∈SY3:=fun ss hs=>by
  obtain⟨r,hr,_,rfl⟩:=d9.mp hs
  exact⟨(I.ok r hr).len,(I.ok r hr).body⟩
 have zin:(dz R g).length≤6:=Nat.le_trans (pS R g) I.hz
 unfold cF
 refine ac ?_
 refine cw (cl:=[("group",L+4)]) rfl rfl (by decide) rfl (by decide) rfl rfl (fun _=>rfl) ?_
 refine pu rfl ?_
 refine bj (dt cd.handled hr) (R.map bB) (fun m i s _=>fG hr s i) (by rw[List.length_map];exact Nat.le_trans I.hz (by decide)) (innG g) ?_ ?_
 ·intro C outer' i v hv
  obtain⟨r,hr2,rfl⟩:=inM (List.mem_of_getElem? hv)
  refine bl (by first|assumption|exact aU.handled (by assumption)) rfl rfl ?_;refine am rfl rfl ?_;refine am rfl rfl ?_;refine bD rfl rfl ?_;refine aX rfl rfl rfl rfl (by first|assumption|simp[mset_self]) ?_
  refine dc (.lst _) (bn _ (cq _ (I.ok r hr2).left)) okg hu2 ?_
  rw[show innG g (bB r)=if decide (r.1∈g) then some (V.tup (ae r.2)) else none from rfl]
  refine aj ?_
  refine⟨fun hb=>?_,fun hb=>?_⟩
  ·refine pu rfl ?_
   exact⟨by rw[if_pos hb],ah _⟩
  ·exact⟨by rw[if_neg (by rw[hb];exact Bool.false_ne_true)],ah _⟩
 ·intro D hD
  rw[pg]
  obtain⟨m1,hm1⟩:∃ m1,m1=ap mem D (.list (gA (dz R g))):=⟨_,rfl⟩
  have hD1:m1 D=some (.list (gA (dz R g))):=by rw[hm1,mset_self]
  have s1:Sub mem m1:=by rw[hm1];exact aL hD (ah _)
  rw[<-hm1]
  clear hm1
  have c1:=s1 _ _ c1
  have c2:=s1 _ _ c2
  have c3:=s1 _ _ c3
  have c4:=s1 _ _ c4
  refine ac ?_
  refine Tr.locs (loc':=("inner",.ref D)::cF ra os es hd) rfl ?_
  unfold cF
  refine aw rfl rfl rfl ?_;refine bK hK (fun _=>rfl) rfl rfl ?_;refine aB rfl ?_;refine bd rfl (by decide) rfl (by decide) (fun _=>rfl) ?_;refine pu rfl ?_
  refine bj (dt cd.handled hD1) (gA (dz R g)) (fun m i s _=>fG hD1 s i) (by unfold gA;rw[List.length_map];exact Nat.le_trans zin (by decide)) (bT fun ss=>(ss.map (inB g (bg R))).any id) ?_ ?_
  ·intro C outer' i v hv
   obtain⟨ss,hss,rfl⟩:=inM (List.mem_of_getElem? hv)
   obtain⟨b3,bS⟩:=okb ss hss
   refine am rfl rfl ?_;refine bK hK (fun _=>rfl) rfl rfl ?_;refine aB rfl ?_;refine bd rfl (by decide) rfl (by decide) (fun _=>rfl) ?_;refine pu rfl ?_
   refine bj (fH cd.handled) (ae ss) (fun m i hs hi=>rfl) (by rw[aG];exact Nat.le_trans b3 (by decide)) (bG (inB g (bg R))) ?_ ?_
   ·intro C outer' i v hv
    obtain⟨t,ht,rfl⟩:=inM (List.mem_of_getElem? hv)
    refine am rfl rfl ?_;refine nM ?_;refine hO rfl rfl ?_;refine aX rfl rfl rfl rfl (by first|assumption|simp[mset_self]) ?_
    refine dc (.lst _) (bn _ (bS _ ht)) okg hu2 ?_
    refine aj ?_
    refine⟨fun hb=>?_,fun hb=>?_⟩
    ·refine hO rfl rfl ?_;refine aX rfl rfl rfl rfl (by first|assumption|simp[mset_self]) ?_
     refine dc (.lst _) (bn _ (bS _ ht)) okm hu2 ?_
     exact⟨by show _=some (V.bool (inB _ _ _));unfold inB;rw[hb];rfl,ah _⟩
    ·exact⟨by show _=some (V.bool (inB _ _ _));unfold inB;rw[hb];rfl,ah _⟩
   ·intro D hD
    rw[me]
    have sD:=aL (y:=.list ((ss.map (inB g (bg R))).map V.bool)) hD (ah _)
    refine aI ?_
    refine gM cd.handled (.own (mset_self _ _ _)) ?_
    exact⟨(qe (fun ss=>(ss.map (inB g (bg R))).any id) ss).symm,sD⟩
  ·intro D2 hD2
   rw[bT_map]
   have sD:=aL (y:=.list (((dz R g).map fun ss=>(ss.map (inB g (bg R))).any id).map V.bool)) hD2 (ah _)
   refine aI ?_
   refine hJ cd.handled (.own (mset_self _ _ _)) ?_
   refine Tr.memS sD ?_
   rw[show((dz R g).map fun ss=>(ss.map (inB g (bg R))).any id).all id=lw R g from rfl]
   refine ac ?_
   refine Tr.mono (Q:=fun f l m=>f = .next/\a7 (("inner",V.ref D)::cF ra os (es++dZ R g) hd) l/\Sub m1 m) (aC ?_) ?_
   ·intro qq ee
    refine bz ?_;refine c9 ?_;refine aQ ?_;refine be rfl rfl ?_;refine aj ?_
    refine⟨fun hb=>?_,fun hb=>?_⟩
    ·refine aQ ?_;refine cO ?_;refine cI rfl ?_;refine bK hK (fun _=>rfl) rfl rfl ?_;refine aB rfl ?_;refine bd rfl (by decide) rfl (by decide) (fun _=>rfl) ?_;refine aX rfl rfl rfl rfl (by first|assumption|simp[mset_self]) ?_
     refine bj (cb cd.handled) (ae g) (fun m i hs hi=>rfl) (by rw[aG];exact Nat.le_trans g4 (by decide)) (bG fun n=>decide (n∈bg R)) ?_ ?_
     ·intro C outer' i v hv
      obtain⟨t,ht,rfl⟩:=inM (List.mem_of_getElem? hv)
      refine am rfl rfl ?_;refine hO rfl rfl ?_;refine aX rfl rfl rfl rfl (by first|assumption|simp[mset_self]) ?_
      refine dc (.lst _) (bn _ (cq _ (gn _ ht))) okm hu2 ?_
      exact⟨rfl,ah _⟩
     ·intro D3 hD3
      rw[me]
      have sD:=aL (y:=.list ((g.map fun n=>decide (n∈bg R)).map V.bool)) hD3 (ah _)
      refine aI ?_
      refine gM cd.handled (.own (mset_self _ _ _)) ?_
      refine Op.memS sD ?_
      rw[show(g.map fun n=>decide (n∈bg R)).any id=qd R g from rfl]
      refine aj ?_
      refine⟨fun hb2=>?_,fun hb2=>?_⟩
      ·have e:dZ R g=g:=by unfold dZ;rw[hb,hb2];rfl
       refine cn ?_
       refine⟨fun _=>?_,fun e=>(nomatch e)⟩
       refine ac ?_;refine aw rfl rfl rfl ?_;refine cj rfl ?_;refine aX rfl rfl rfl rfl (by first|assumption|simp[mset_self]) ?_
       refine gr (.lst _) (.lst _) (by rw[aG,aG];exact Nat.le_trans (Nat.add_le_add hz1 g4) (by decide)) ?_
       refine ak ?_
       refine⟨rfl,?_,ah _⟩
       rw[e]
       show a7 (("inner",V.ref D)::cF ra os (es++g) hd) _
       rw[show ae es++ae g=ae (es++g) from by unfold ae;rw[List.map_append]]
       rfl
      ·have e:dZ R g=[]:=by unfold dZ;rw[hb,hb2];rfl
       skip
       refine⟨fun e=>(nomatch e),fun _=>?_⟩
       refine ak ?_
       exact⟨rfl,by rw[e,List.append_nil];rfl,ah _⟩
    ·have e:dZ R g=[]:=by unfold dZ;rw[hb];rfl
     skip
     refine⟨fun e=>(nomatch e),fun _=>?_⟩
     refine ak ?_
     exact⟨rfl,by rw[e,List.append_nil];rfl,ah _⟩
   ·rintro f l m2 ⟨rfl,hl,s2⟩
    refine ac ?_
    refine Tr.locs hl ?_
    refine Tr.memS s2 ?_
    clear hl s2 m2
    generalize es++dZ R g=e2 at *
    unfold cF
    refine Tr.mono (Q:=fun f l m=>f = .next/\a7 (("inner",V.ref D)::cF ra os e2 (hd++er R os g)) l/\Sub m1 m) (aC ?_) ?_
    ·intro qq ee
     refine bz ?_;refine c9 ?_;refine aQ ?_;refine bD rfl rfl ?_;refine aX rfl rfl rfl rfl (by first|assumption|simp[mset_self]) ?_
     refine qx (.lst _) ho okg hu2 ?_
     refine aj ?_
     refine⟨fun hb=>?_,fun hb=>?_⟩
     ·refine aQ ?_
      refine cI rfl ?_
      refine bK hK (fun _=>rfl) rfl rfl ?_
      refine aB rfl ?_
      refine hW (cl:=[("group",L+4)]) rfl (by decide) rfl (by decide) (fun _=>rfl) (fun _ _=>rfl) ?_
      refine pu rfl ?_
      refine .mk (dD D) m1 (dt cd.handled hD1) (gA (dz R g)) (fun m i s _=>fG hD1 s i) tupOf (fun _=>bG (stB g)) cd.handled ?_ ?_ ?_
      ·intro i hi v hv
       have hi:i≤(dz R g).length:=by unfold gA at hi;rwa [List.length_map]at hi
       unfold gA at hv
       rw[List.getElem?_map]at hv
       obtain⟨ss,hs2,rfl⟩:=Option.map_eq_some_iff.mp hv
       have h1:=I.inn_len g i hi
       have h2:=(okb ss (List.mem_of_getElem? hs2)).1
       unfold gA
       rw[<-List.map_take,lh,List.length_map]
       show _+(ae ss).length≤_
       rw[aG]
       have h3:(((dz R g).take i).flatMap fun ss=>ss.map (stB g)).length=(((dz R g).take i).flatMap fun ss=>ss).length:=by
        generalize (dz R g).take i=xs
        induction xs with
        | nil=>rfl
        | cons x xs ih=>rw[List.flatMap_cons,List.flatMap_cons,List.length_append,List.length_append,ih,List.length_map]
       rw[h3]
       exact Nat.le_trans (show _≤21 by lia) (by decide)
      ·intro C outer' i v hv
       obtain⟨ss,hss,rfl⟩:=inM (List.mem_of_getElem? hv)
       obtain⟨b3,bS⟩:=okb ss hss
       refine am rfl rfl ?_;refine pu rfl ?_
       refine⟨rfl,ah _,[("symbols",.tup (ae ss))],rfl,fun u hu=>?_⟩
       obtain⟨t,ht,rfl⟩:=inM hu
       refine am rfl rfl ?_;refine nM ?_;refine hO rfl rfl ?_;refine aX rfl rfl rfl rfl (by first|assumption|simp[mset_self]) ?_
       refine dc (.lst _) (bn _ (bS _ ht)) okg hu2 ?_
       refine aj ?_
       refine⟨fun hb=>?_,fun hb=>?_⟩
       ·refine hO rfl rfl ?_;refine c5 hK (fun _=>rfl) (fun _=>rfl) ?_
        refine cV hK (cd.mono (by decide) (by decide)) ?_
        refine dQ (.lst _) (bn _ (bS _ ht)) qh hu2 ?_
        exact⟨by show some (V.bool _)=some (V.bool (stB _ _));unfold stB;rw[hb];rfl,rfl,ah _⟩
       ·exact⟨by show some (V.bool _)=some (V.bool (stB _ _));unfold stB;rw[hb];rfl,rfl,ah _⟩
      ·intro D2 hD2
       unfold gA
       rw[lh]
       have sD:=aL (y:=.list (((dz R g).flatMap fun ss=>ss.map (stB g)).map V.bool)) hD2 (ah _)
       refine aI ?_
       refine hJ cd.handled (.own (mset_self _ _ _)) ?_
       refine Op.memS sD ?_
       rw[show((dz R g).flatMap fun ss=>ss.map (stB g)).all id=kP R g from rfl]
       refine aj ?_
       refine⟨fun hb2=>?_,fun hb2=>?_⟩
       ·have e:er R os g=mE R os g:=by unfold er;rw[hb,hb2];rfl
        refine cn ?_
        refine⟨fun _=>?_,fun e=>(nomatch e)⟩
        refine ac ?_;refine aw rfl rfl rfl ?_;refine cj rfl ?_;refine bd rfl (by decide) rfl (by decide) (fun _=>rfl) ?_;refine c5 hK (fun _=>rfl) (fun _=>rfl) ?_
        refine cV hK (cd.mono (by decide) (by decide)) ?_
        refine bj (cb cd.handled) (ae NM) (fun m i hs hi=>rfl) (show 4≤sizeLine by decide) (lc (gf R os g)) ?_ ?_
        ·intro C outer' i v hv
         obtain⟨t,ht,rfl⟩:=inM (List.mem_of_getElem? hv)
         have okt:=bn _ (cq _ ht)
         rw[show lc (gf R os g) (.str t)=if gf R os g t then some (V.str t) else none from rfl]
         refine am rfl rfl ?_;refine c9 ?_;refine aQ ?_;refine bD rfl rfl ?_;refine aX rfl rfl rfl rfl (by first|assumption|simp[mset_self]) ?_
         refine dQ (.lst _) okt okg hu2 ?_
         refine aj ?_
         refine⟨fun hb3=>?_,fun hb3=>?_⟩
         ·refine aQ ?_;refine c9 ?_;refine b0 ?_;refine bD rfl rfl ?_;refine aX rfl rfl rfl rfl (by first|assumption|simp[mset_self]) ?_
          refine dc (.lst _) okt okU hu2 ?_
          refine aj ?_
          refine⟨fun hb4=>?_,fun hb4=>?_⟩
          ·refine b0 ?_;refine bD rfl rfl ?_;refine aX rfl rfl rfl rfl (by first|assumption|simp[mset_self]) ?_
           refine dc (.lst _) okt okD hu2 ?_
           refine aj ?_
           refine⟨fun hb5=>?_,fun hb5=>?_⟩
           ·have e:gf R os g t=false:=by unfold gf;rw[hb4,hb5,Bool.or_false,Bool.and_false]
            refine fn ?_
            refine⟨fun e=>(nomatch e),fun _=>?_⟩
            skip
            exact⟨fun e=>(nomatch e),fun _=>⟨by rw[e];rfl,ah _⟩⟩
           ·have e:gf R os g t=true:=by unfold gf;rw[hb3,hb5,Bool.or_true];rfl
            skip
            refine⟨fun _=>?_,fun e=>(nomatch e)⟩
            refine cn ?_
            refine⟨fun _=>?_,fun e=>(nomatch e)⟩
            refine pu rfl ?_
            exact⟨by rw[e];rfl,ah _⟩
          ·have e:gf R os g t=true:=by unfold gf;rw[hb3,hb4];rfl
           skip
           refine⟨fun _=>?_,fun e=>(nomatch e)⟩
           refine cn ?_
           refine⟨fun _=>?_,fun e=>(nomatch e)⟩
           refine pu rfl ?_
           exact⟨by rw[e];rfl,ah _⟩
         ·skip
          have e:gf R os g t=false:=by unfold gf;rw[hb3];rfl
          exact⟨fun e=>(nomatch e),fun _=>⟨by rw[e];rfl,ah _⟩⟩
        ·intro D2 hD2
         rw[jm]
         refine gr (.lst _) (.own (mset_self _ _ _)) (by rw[aG,aG];exact Nat.le_trans (Nat.add_le_add hz2 (List.length_filter_le _ _)) (by decide)) ?_
         refine Tr.memS (aL hD2 (ah _)) ?_
         refine ak ?_
         refine⟨rfl,?_,ah _⟩
         rw[e]
         rw[show ae hd++ae (NM.filter (gf R os g))=ae (hd++mE R os g) from by unfold mE ae;rw[List.map_append]]
         rfl
       ·have e:er R os g=[]:=by unfold er;rw[hb,hb2];rfl
        skip
        refine⟨fun e=>(nomatch e),fun _=>?_⟩
        refine ak ?_
        exact⟨rfl,by rw[e,List.append_nil];rfl,ah _⟩
     ·have e:er R os g=[]:=by unfold er;rw[hb];rfl
      skip
      refine⟨fun e=>(nomatch e),fun _=>?_⟩
      refine ak ?_
      exact⟨rfl,by rw[e,List.append_nil];rfl,ah _⟩
    ·rintro f l m2 ⟨rfl,hl,s2⟩
     refine ak ?_
     exact h _ _ (a7.tail hl) fun b x e=>s2 _ _ (s1 _ _ e)
theorem due_b{L ra:Addr}{R:List aD}{os:Option Str}{u4:Option V}{Q:Fl->Loc->Mem->Prop}(hK:W.K=hdK W.w.params)(cd:aU A 700 6000)(I:LR3 R)(ho:∀ s∈osL os,s∈SY3)
  (c1:mem (L+1)=some (.cell (some (.lst (ae (bF R os)))))) (c2:mem (L+2)=some (.cell (some (.lst (ae (bx R)))))) (c3:mem (L+3)=some (.cell (some (.lst (ae (bg R)))))) (c4:mem (L+4)=some (.cell u4)) (hr:mem ra=some (.list (R.map bB)))
  (h:∀ l m,a7 (cF ra os ((cS NM).flatMap (dZ R)) ((cS NM).flatMap (er R os))) l->OffL (L+4) mem m->TrS W A (duE L) outer (execs (lDue.body.drop 6) (duE L)) l m Q E) :
  TrS W A (duE L) outer (execs (lDue.body.drop 3) (duE L)) [("rules",.ref ra),("start",osV os)] mem Q E:=by
 have hu2:A.units+65<cLine:=Nat.lt_of_le_of_lt (Nat.add_le_add_right cd.units 65) (by decide)
 have okm:(ae (bg R)).all (isD 0)=true:=dr fun y hy=>bn _ (cq _ (List.mem_filter.mp hy).1)
 refine ac ?_
 refine aw rfl rfl rfl ?_;refine aW ?_;refine aI ?_
 refine bp (show 0≤sizeLine by decide) ?_
 refine ac ?_;refine aw rfl rfl rfl ?_;refine aW ?_;refine aI ?_
 refine bp (show 0≤sizeLine by decide) ?_
 refine ac ?_;refine dj (fun _=>rfl) ?_;refine c5 hK (fun _=>rfl) (fun _=>rfl) ?_
 refine lf hK (cd.mono (by decide) (by decide)) ?_
 refine bV (ys:=cS NM) (fun _ g=>.lst (ae g)) (cb cd.handled) (J3d mem L ra R os) (fun i l m hi J=>?_) (fun l m J=>?_) (fun i g l m hy J=>?_) ⟨rfl,_,c4,fun b x _ e=>e⟩
 ·show some (((cS NM).map fun g=>V.lst (ae g))[i]?)=_
  rw[List.getElem?_map]
 ·obtain⟨hl,u,hT,s⟩:=J
  rw[List.take_length]at hl
  refine ak ?_
  exact h l m hl s
 ·obtain⟨hl,u,hT,s⟩:=J
  obtain⟨g4,gn⟩:=fV g (List.mem_of_getElem? hy)
  have okg:(ae g).all (isD 0)=true:=dr fun y hy=>bn _ (cq _ (gn y hy))
  have n1:L+1≠L+4:=by intro e;exact absurd e (Nat.ne_of_lt (by lia))
  have n2:L+2≠L+4:=by intro e;exact absurd e (Nat.ne_of_lt (by lia))
  have n3:L+3≠L+4:=by intro e;exact absurd e (Nat.ne_of_lt (by lia))
  have nr:ra≠L+4:=nex hr c4
  refine Op.locs hl ?_
  have hz1:(((cS NM).take i).flatMap (dZ R)).length≤64:=by
   have:=n6 (dZ R) 4 ((cS NM).take i) fun g hg=>p3 R (fV g (List.mem_of_mem_take hg)).1
   have h2:=nP
   rw[List.length_take]at this;lia
  have hz2:(((cS NM).take i).flatMap (er R os)).length≤64:=by
   have:=n6 (er R os) 4 ((cS NM).take i) fun g hg=>qv R os g
   have h2:=nP
   rw[List.length_take]at this;lia
  refine iG (eL (hk:=rfl) (hl:=rfl) (hc:=rfl) hT (fun m1 a1 f1=>?_))
  have k1:=(f1 _ n1).trans (s _ _ n1 c1)
  have k2:=(f1 _ n2).trans (s _ _ n2 c2)
  have k3:=(f1 _ n3).trans (s _ _ n3 c3)
  have kr:=(f1 _ nr).trans (s _ _ nr hr)
  refine qD (g:=g) hK cd I ho g4 gn hz1 hz2 k1 k2 k3 a1 kr (fun l m hl s2=>?_)
  refine⟨?_,_,s2 _ _ a1,fun b x n e=>s2 _ _ ((f1 _ n).trans (s _ _ n e))⟩
  rw[aK hy,List.flatMap_append,List.flatMap_append,List.flatMap_singleton,List.flatMap_singleton]
  exact hl
end
noncomputable abbrev Row:=Int×List Str
noncomputable def ly(q:Row):V:=.tup [.int q.1,.tup (ae q.2)]
noncomputable def i8(R:List aD):List Row:=R.zipIdx.map fun q=>((q.2:Int)+1,q.1.2)
noncomputable def nK(os:Option Str):List Row:=(osL os).map fun s=>(0,[s])
noncomputable def eW(R:List aD)(os:Option Str):List Row:=nK os++i8 R
noncomputable def jz(ms:List Str)(q:Row):List V:=(q.2.filter fun s=>decide (s∈ms)).map fun s=>.tup [.str s,.int q.1,.tup (ae q.2)]
noncomputable def lX(R:List aD)(os:Option Str):List V:=(eW R os).flatMap (jz (bg R))
noncomputable def eV(R:List aD)(os:Option Str):List Str:=ABC.filter fun t=>!decide (t∈bF R os)
noncomputable def alB(R:List aD)(os:Option Str)(n:Str):Bool:=decide (n∈bx R)&&!decide (n∈bF R os)
noncomputable def ez(R:List aD)(os:Option Str):List Int:=(NM.filter (alB R os)).map fun n=>((bx R).idxOf n:Int)+1
noncomputable def gl(R:List aD):List Str:=(cS NM).flatMap (dZ R)
noncomputable def eD(R:List aD)(os:Option Str):List Str:=(cS NM).flatMap (er R os)
noncomputable def nC(e:List Str)(u:List V)(i:List Str)(a:List Int)(h:List Str):V:=.lst [.lst (ae e),.lst u,.lst (ae i),.lst (a9 a),.lst (ae h)]
inductive jV(R:List aD)(os:Option Str):V->Prop
 | mk (e:List Str) (a:List Int) (h:List Str) (h1_:sortedS e=true) (h2_:e.Perm (bf (gl R))) (h3_:a.Pairwise (·≤·)) (h4_:a.Perm (ez R os)) (h5_:sortedS h=true) (h6_:h.Perm (bf (eD R os))) :
   jV R os (nC e (lX R os) (eV R os) a h)
noncomputable def enG:V->Option V
 | .tup [.int k,.tup [_,y]]=>some (.tup [.int (k+1),y])
 | _=>none
theorem enG_map(R:List aD):(R.zipIdx.map fun q=>V.tup [.int (q.2:Int),bB q.1]).filterMap enG=(i8 R).map ly:=by
 unfold i8
 generalize R.zipIdx=l
 induction l with
 | nil=>rfl
 | cons q l ih=>rw[List.map_cons,List.filterMap_cons,List.map_cons,List.map_cons,<-ih];rfl
noncomputable def qa:V->List V
 | .tup [_,.tup ys]=>ys
 | _=>[]
noncomputable def oB(ms:List Str):V->V->Option V
 | .tup [k,y],.str s=>if decide (s∈ms) then some (.tup [.str s,k,y]) else none
 | _,_=>none
theorem qI(ms:List Str)(q:Row):i7 qa (oB ms) (ly q)=jz ms q:=by
 obtain⟨k,ss⟩:=q
 suffices H:∀ y:List V,(ss.map V.str).filterMap (oB ms (.tup [.int k,.tup y]))=(ss.filter fun s=>decide (s∈ms)).map fun s=>V.tup [.str s,.int k,.tup y] from H (ae ss)
 intro y
 induction ss with
 | nil=>rfl
 | cons s ss ih=>
  rw[List.map_cons,List.filterMap_cons,List.filter_cons]
  rw[show oB ms (.tup [.int k,.tup y]) (.str s)=if decide (s∈ms) then some (.tup [.str s,.int k,.tup y]) else none from rfl]
  cases decide (s∈ms) with
  | true=>exact congrArg (V.tup [.str s,.int k,.tup y]::·) ih
  | false=>exact ih
theorem lE(ms:List Str)(rows:List Row):(rows.map ly).flatMap (i7 qa (oB ms))=rows.flatMap (jz ms):=by
 induction rows with
 | nil=>rfl
 | cons q l ih=>rw[List.map_cons,List.flatMap_cons,List.flatMap_cons,ih,qI]
noncomputable def alG(R:List aD)(os:Option Str):V->Option V
 | .str n=>if alB R os n then some (.int (((bx R).idxOf n:Int)+1)) else none
 | _=>none
theorem alG_map(R:List aD)(os:Option Str):(ae NM).filterMap (alG R os)=(ez R os).map V.int:=by
 unfold ez ae
 generalize NM=l
 induction l with
 | nil=>rfl
 | cons n l ih=>
  rw[List.map_cons,List.filterMap_cons,List.filter_cons]
  rw[show alG R os (.str n)=if alB R os n then some (V.int (((bx R).idxOf n:Int)+1)) else none from rfl]
  cases alB R os n with
  | true=>exact congrArg (V.int _::·) ih
  | false=>exact ih
theorem oV(R:List aD):(i8 R).length=R.length:=by unfold i8;rw[List.length_map,List.length_zipIdx]
theorem oW(R:List aD)(os:Option Str):(eW R os).length≤R.length+1:=by
 unfold eW
 rw[List.length_append,oV]
 have:(nK os).length≤1:=by cases os with|none=>exact Nat.zero_le _|some s=>exact Nat.le_refl _
 lia
theorem LR3.rows{R:List aD}(I:LR3 R){os:Option Str}(ho:∀ s∈osL os,s∈SY3):∀ q∈eW R os,q.2.length≤3/\∀ y∈q.2,y∈SY3:=fun q hq=>by
 rcases List.mem_append.mp hq with hq|hq
 ·obtain⟨s,hs,rfl⟩:=inM hq
  refine⟨show 1≤3 by decide,fun y hy=>?_⟩
  rcases List.mem_singleton.mp hy with rfl
  exact ho _ hs
 ·obtain⟨r,hr,rfl⟩:=inM hq
  have:=I.ok _ (List.fst_mem_of_mem_zipIdx hr)
  exact⟨this.len,this.body⟩
theorem pQ(ms:List Str){q:Row}(h:q.2.length≤3):(jz ms q).length≤3:=by
 unfold jz;rw[List.length_map];exact Nat.le_trans (List.length_filter_le _ _) h
theorem lb(ms:List Str):∀ rows:List Row,(∀ q∈rows,q.2.length≤3)->(rows.flatMap (jz ms)).length≤3*rows.length:=fun rows h=>by
 induction rows with
 | nil=>exact Nat.zero_le _
 | cons a l ih=>
  rw[List.flatMap_cons,List.length_append,List.length_cons,Nat.mul_succ]
  have:=pQ ms (h a (.head _))
  have:=ih fun b hb=>h b (.tail _ hb)
  lia
theorem nJ:∀ s∈ABC,s∈SY3:=by decide +kernel
theorem fm_le{α:Type}(f g:α->List Str):∀ l:List α,(∀ a∈l,(f a).length≤(g a).length)->(l.flatMap f).length≤(l.flatMap g).length:=fun l h=>by
 induction l with
 | nil=>exact Nat.le_refl _
 | cons a l ih=>
  rw[List.flatMap_cons,List.flatMap_cons,List.length_append,List.length_append]
  exact Nat.add_le_add (h a (.head _)) (ih fun b hb=>h b (.tail _ hb))
theorem mV(R:List aD):(gl R).length<60:=by
 refine Nat.lt_of_le_of_lt (fm_le (dZ R) id (cS NM) fun g _=>?_) (show((cS NM).flatMap id).length<60 by decide +kernel)
 unfold dZ;split
 ·exact Nat.le_refl _
 ·exact Nat.zero_le _
theorem mG(R:List aD)(os:Option Str):(eD R os).length<60:=by
 refine Nat.lt_of_le_of_lt (fm_le (er R os) (fun g=>NM.filter fun n=>!decide (n∈g)) (cS NM) fun g _=>?_) (show((cS NM).flatMap fun g=>NM.filter fun n=>!decide (n∈g)).length<60 by decide +kernel)
 unfold er;split
 ·unfold mE
  generalize NM=l
  induction l with
  | nil=>exact Nat.le_refl _
  | cons n l ih=>
   rw[List.filter_cons,List.filter_cons]
   unfold gf
   cases decide (n∈g) with
   | true=>exact ih
   | false=>
    cases (decide (n∈bF R os) || decide (n∈bx R)) with
    | true=>exact Nat.succ_le_succ ih
    | false=>exact Nat.le_succ_of_le ih
 ·exact Nat.zero_le _
section
variable {W:Wd}{A:Around}{env:Env}{outer:ay}{loc:Loc}{mem:Mem}{E:Ex W}
theorem due_c{L ra:Addr}{R:List aD}{os:Option Str}{Q:Fl->Loc->Mem->Prop}(hK:W.K=hdK W.w.params)(cd:aU A 700 6000)(I:LR3 R)(ho:∀ s∈osL os,s∈SY3)
  (c1:mem (L+1)=some (.cell (some (.lst (ae (bF R os)))))) (c2:mem (L+2)=some (.cell (some (.lst (ae (bx R)))))) (c3:mem (L+3)=some (.cell (some (.lst (ae (bg R)))))) (hr:mem ra=some (.list (R.map bB)))
  (h:∀ l m v,jV R os v->Sub mem m->Q (.ret v) l m) :
  TrS W A (duE L) outer (execs (lDue.body.drop 6) (duE L)) (cF ra os (gl R) (eD R os)) mem Q E:=by
 have hu2:A.units+65<cLine:=Nat.lt_of_le_of_lt (Nat.add_le_add_right cd.units 65) (by decide)
 have okm:(ae (bg R)).all (isD 0)=true:=dr fun y hy=>bn _ (cq _ (List.mem_filter.mp hy).1)
 have okU:(ae (bF R os)).all (isD 0)=true:=dr fun y hy=>bn _ (I.used_ok ho y hy)
 have okD:(ae (bx R)).all (isD 0)=true:=dr fun y hy=>bn _ (I.def_ok y hy)
 have hR:=I.rows ho
 have zR:=I.hz
 have zr:=oW R os
 have ze:=mV R
 have zh:=mG R os
 have zd:(bx R).length≤1000:=by unfold bx;rw[List.length_map];lia
 have hI:=h
 have zU:=lb (bg R) (eW R os) fun q hq=>(hR q hq).1
 have hDue:∀ l m (e h':List Str) (a:List Int),sortedS e=true->e.Perm (bf (gl R))->a.Pairwise (·≤·)->a.Perm (ez R os)->sortedS h'=true->h'.Perm (bf (eD R os))->Sub mem m->Q (.ret (nC e (lX R os) (eV R os) a h')) l m:=fun l m e h' a k1 k2 k3 k4 k5 k6 s=>h l m _ (.mk e a h' k1 k2 k3 k4 k5 k6) s
 clear hI h
 generalize gl R=ea at *
 generalize eD R os=ha at *
 unfold cF
 refine ac ?_
 refine Tr.mono (Q:=fun f l m=>f = .next/\a7 (("rows",.lst ((nK os).map ly))::cF ra os ea ha) l/\m=mem) (aC ?_) ?_
 ·intro qq ee
  refine aw rfl rfl rfl ?_;refine fU ?_;refine be rfl rfl ?_
  cases os with
  | none=>
   refine gy ?_
   refine aT ?_
   refine aW ?_;refine aI ?_
   refine bp (show 0≤sizeLine by decide) ?_
   skip
   exact⟨rfl,rfl,rfl⟩
  | some s=>
   obtain⟨z1,z2⟩:=iw s (ho s (.head _))
   refine kJ (by lia) ?_
   rw[show((s.length:Int) != 0)=true from bne_iff_ne.mpr (by lia)]
   refine bk ?_
   refine aW ?_;refine aB rfl ?_;refine ca ?_;refine fe rfl ?_;refine aB rfl ?_;refine ca ?_;refine aN rfl ?_
   refine cf (show 1≤sizeLine by decide) ?_
   refine aI ?_
   refine cf (show 2≤sizeLine by decide) ?_
   refine aI ?_
   refine bp (show 1≤sizeLine by decide) ?_
   skip
   exact⟨rfl,rfl,rfl⟩
 ·rintro f l m' ⟨rfl,hl,em⟩
  refine ac ?_
  rw[em]
  clear em m'
  refine Tr.locs hl ?_
  clear hl
  unfold cF
  refine aw rfl rfl rfl ?_;refine cj rfl ?_;refine bd rfl (by decide) rfl (by decide) (fun _=>rfl) ?_;refine fw hK (fun _=>rfl) rfl rfl ?_;refine aN rfl ?_
  refine j5 hr (fun e o hc hd he1 he2=>?_)
  refine bj (jJ cd.handled hc hd he1 he2) (R.zipIdx.map fun q=>V.tup [.int (q.2:Int),bB q.1]) (fun m1 i s hi=>?_) (by rw[List.length_map,List.length_zipIdx];exact Nat.le_trans zR (by decide)) enG ?_ ?_
  ·rw[List.length_map,List.length_zipIdx]at hi
   rw[lN (s _ _ hr) (by rw[List.length_map];exact hi),List.getElem?_map,List.getElem?_map,List.getElem?_zipIdx,Option.map_map,Option.map_map]
   congr 1
   cases R[i]? with
   | none=>rfl
   | some r=>show some (V.tup [.int i,bB r])=some (V.tup [.int ((0+i:Nat):Int),bB r]);rw[Nat.zero_add]
  ·intro C outer' i v hv
   obtain⟨q,hq,rfl⟩:=inM (List.mem_of_getElem? hv)
   obtain⟨⟨n,ss⟩,k⟩:=q
   refine bl (by first|assumption|exact aU.handled (by assumption)) rfl rfl ?_;refine am rfl rfl ?_;refine am rfl rfl ?_;refine ca ?_;refine aB rfl ?_;refine iH rfl rfl ?_;refine pH ?_;refine aB rfl ?_;refine cZ (fun _ _=>rfl) rfl rfl ?_
   refine cu (.tup _) (by decide) (by decide) rfl ?_
   refine aI ?_
   refine cf (show 2≤sizeLine by decide) ?_
   exact⟨rfl,ah _⟩
  ·intro D hD
   rw[enG_map]
   refine gr (.lst _) (.own (mset_self _ _ _)) (by rw[List.length_map,List.length_map,<-List.length_append];exact Nat.le_trans (show(eW R os).length≤7 by lia) (by decide)) ?_
   rw[<-List.map_append]
   refine Tr.memS (aL hD (ah _)) ?_
   refine ac ?_
   refine Tr.locs (loc':=("rows",.lst ((nK os++i8 R).map ly))::cF ra os ea ha) rfl ?_
   unfold cF
   refine ga (cl:=[("missing",L+3)]) rfl rfl (by decide) rfl (by decide) rfl rfl (fun _=>rfl) (fun _ _=>rfl) ?_
   refine pu rfl ?_
   refine .mk (bN ((eW R os).map ly)) mem (cb cd.handled) ((eW R os).map ly) (fun m i s hi=>rfl) qa (oB (bg R)) cd.handled ?_ ?_ ?_
   ·intro i hi v hv
    rw[List.length_map]at hi
    rw[List.getElem?_map]at hv
    obtain⟨q,hq,rfl⟩:=Option.map_eq_some_iff.mp hv
    have h1:=lb (bg R) ((eW R os).take i) fun q hq=>(hR q (List.mem_of_mem_take hq)).1
    have h2:=(hR q (List.mem_of_getElem? hq)).1
    rw[<-List.map_take,lE]
    rw[List.length_take]at h1
    show _+(ae q.2).length≤_
    rw[aG]
    exact Nat.le_trans (show _≤30 by lia) (by decide)
   ·intro C outer' i v hv
    obtain⟨q,hq,rfl⟩:=inM (List.mem_of_getElem? hv)
    obtain⟨b3,bS⟩:=hR q hq
    obtain⟨k,ss⟩:=q
    refine bl (by first|assumption|exact aU.handled (by assumption)) rfl rfl ?_;refine am rfl rfl ?_;refine am rfl rfl ?_;refine pu rfl ?_
    refine⟨rfl,ah _,[("k",.int k),("symbols",.tup (ae ss))],rfl,fun u hu=>?_⟩
    obtain⟨s,hs,rfl⟩:=inM hu
    rw[show oB (bg R) (ly (k,ss)) (.str s)=if decide (s∈bg R) then some (.tup [.str s,.int k,.tup (ae ss)]) else none from rfl]
    refine am rfl rfl ?_;refine bD rfl rfl ?_;refine aX rfl rfl rfl rfl (by first|assumption|simp[mset_self]) ?_
    refine dc (.lst _) (bn _ (bS s hs)) okm hu2 ?_
    refine aj ?_
    refine⟨fun hb=>?_,fun hb=>?_⟩
    ·refine ca ?_;refine aN rfl ?_
     refine cf (show 3≤sizeLine by decide) ?_
     exact⟨by rw[if_pos hb],rfl,ah _⟩
    ·exact⟨by rw[if_neg (by rw[hb];exact Bool.false_ne_true)],rfl,ah _⟩
   ·intro D hD
    rw[lE]
    obtain⟨m1,hm1⟩:∃ m1,m1=ap mem D (.list ((eW R os).flatMap (jz (bg R)))):=⟨_,rfl⟩
    have hD1:m1 D=some (.list (lX R os)):=by rw[hm1,mset_self];rfl
    have s1:Sub mem m1:=by rw[hm1];exact aL hD (ah _)
    have u1:∀ b x,m1 b=some x->b≠D->mem b=some x:=fun b x e n=>by rw[hm1,af n]at e;exact e
    rw[<-hm1]
    clear hm1
    have c1':=s1 _ _ c1
    have c2':=s1 _ _ c2
    refine ac ?_
    refine Tr.locs (loc':=[("undefined",.ref D),("endless",.lst (ae ea)),("hidden",.lst (ae ha))]) rfl ?_
    refine cw (cl:=[("used",L+1)]) rfl rfl (by decide) rfl (by decide) rfl rfl (fun _=>rfl) ?_
    refine aW ?_;refine aN rfl ?_
    refine bp (show 3≤sizeLine by decide) ?_
    refine bj (cb cd.handled) (ae ABC) (fun m i hs hi=>rfl) (show 3≤sizeLine by decide) (lc fun t=>!decide (t∈bF R os)) ?_ ?_
    ·intro C outer' i v hv
     obtain⟨t,ht,rfl⟩:=inM (List.mem_of_getElem? hv)
     rw[show lc (fun t=>!decide (t∈bF R os)) (.str t)=if !decide (t∈bF R os) then some (V.str t) else none from rfl]
     refine am rfl rfl ?_;refine bD rfl rfl ?_;refine aX rfl rfl rfl rfl (by first|assumption|simp[mset_self]) ?_
     refine dQ (.lst _) (bn _ (nJ _ ht)) okU hu2 ?_
     refine aj ?_
     refine⟨fun hb=>?_,fun hb=>?_⟩
     ·refine pu rfl ?_
      exact⟨by rw[if_pos hb],ah _⟩
     ·exact⟨by rw[if_neg (by rw[hb];exact Bool.false_ne_true)],ah _⟩
    ·intro D2 hD2
     rw[jm]
     rw[show(ABC.filter fun t=>!decide (t∈bF R os))=eV R os from rfl]
     obtain⟨m2,hm2⟩:∃ m2,m2=ap m1 D2 (.list (ae (eV R os))):=⟨_,rfl⟩
     have hD2':m2 D2=some (.list (ae (eV R os))):=by rw[hm2,mset_self]
     have s2:Sub m1 m2:=by rw[hm2];exact aL hD2 (ah _)
     rw[<-hm2]
     clear hm2
     have c1':=s2 _ _ c1'
     have c2':=s2 _ _ c2'
     refine ac ?_
     refine aw rfl rfl rfl ?_
     refine Tr.locs (loc':=[("idle",.ref D2),("undefined",.ref D),("endless",.lst (ae ea)),("hidden",.lst (ae ha))]) rfl ?_
     refine Tr.shift ?_
     refine bK hK (fun _=>rfl) rfl rfl ?_;refine aB rfl ?_;refine bd rfl (by decide) rfl (by decide) (fun _=>rfl) ?_;refine c5 hK (fun _=>rfl) (fun _=>rfl) ?_
     refine cV hK (cd.mono (by decide) (by decide)) ?_
     refine bj (cb cd.handled) (ae NM) (fun m i hs hi=>rfl) (show 4≤sizeLine by decide) (alG R os) ?_ ?_
     ·intro C outer' i v hv
      obtain⟨t,ht,rfl⟩:=inM (List.mem_of_getElem? hv)
      have okt:=bn _ (cq _ ht)
      rw[show alG R os (.str t)=if alB R os t then some (V.int (((bx R).idxOf t:Int)+1)) else none from rfl]
      refine am rfl rfl ?_;refine c9 ?_;refine aQ ?_;refine bD rfl rfl ?_;refine aX rfl rfl rfl rfl (by first|assumption|simp[mset_self]) ?_
      refine dc (.lst _) okt okD hu2 ?_
      refine aj ?_
      refine⟨fun hb=>?_,fun hb=>?_⟩
      ·refine aQ ?_;refine bD rfl rfl ?_;refine aX rfl rfl rfl rfl (by first|assumption|simp[mset_self]) ?_
       refine dQ (.lst _) okt okU hu2 ?_
       refine aj ?_
       refine⟨fun hb2=>?_,fun hb2=>?_⟩
       ·have e:alB R os t=true:=by unfold alB;rw[hb,hb2];rfl
        refine cn ?_
        refine⟨fun _=>?_,fun e=>(nomatch e)⟩
        refine cQ ?_;refine cT rfl ?_;refine aX rfl rfl rfl rfl (by first|assumption|simp[mset_self]) ?_
        refine a6 (.lst _) PySem.F.plainAttrs_list PySem.F.slot_list_index PySem.F.type_list_index rfl rfl ?_
        refine aN rfl ?_
        refine mL (.lst _) (of_decide_eq_true hb) zd ?_
        refine bI ?_;refine pH ?_
        exact⟨by rw[e];rfl,ah _⟩
       ·have e:alB R os t=false:=by unfold alB;rw[hb,hb2];rfl
        skip
        exact⟨fun e=>(nomatch e),fun _=>⟨by rw[e];rfl,ah _⟩⟩
      ·have e:alB R os t=false:=by unfold alB;rw[hb];rfl
       skip
       exact⟨fun e=>(nomatch e),fun _=>⟨by rw[e];rfl,ah _⟩⟩
     ·intro D3 hD3
      rw[alG_map]
      have s3:=aL (y:=.list ((ez R os).map V.int)) hD3 (ah _)
      have za:(ez R os).length≤4:=by unfold ez;rw[List.length_map];exact List.length_filter_le _ _
      refine aI ?_
      refine jS (.own (mset_self _ _ _)) (by lia) (fun D4 ss hD4 hp hs=>?_)
      refine⟨_,m2,b8.lst (mset_self _ _ _) (aL hD4 s3) (Sub.none s3 hD4),?_⟩
      refine ac ?_;refine c6 ?_;refine aW ?_;refine aB rfl ?_;refine bK hK (fun _=>rfl) rfl rfl ?_;refine aB rfl ?_;refine fw hK (fun _=>rfl) rfl rfl ?_;refine aN rfl ?_
      refine l7 cd.handled (.lst _) ze (fun a1 o1 ha1 T1=>?_)
      refine aI ?_
      refine Op.shift ?_
      refine ja cd.handled (mset_self _ _ _) T1 (Nat.lt_of_le_of_lt (fO _) (by lia)) (fun D5 e5 hD5 hp5 hs5=>?_)
      have s4:=aL (y:=.raw o1) ha1 (ah _)
      refine⟨_,m2,b8.lst (mset_self _ _ _) (aL hD5 s4) (Sub.none s4 hD5),?_⟩
      refine aB rfl ?_
      refine Tr.shift ?_
      refine pu rfl ?_
      have nDD:D2≠D:=Ne.symm (nex hD1 hD2)
      have mD:mem D=none:=hD
      have mD2:mem D2=none:=Sub.none s1 hD2
      have sd:∀ (m:Mem) (a:Addr) b x,eR m a b=some x->m b=some x:=fun m a b x e=>by
       unfold eR at e;split at e
       ·cases e
       ·exact e
      refine⟨_,eR m2 D,b8.lst (s2 _ _ hD1) (fun b x e=>sd _ _ b x e) (by unfold eR;rw[if_pos rfl]),?_⟩
      have hD2:eR m2 D D2=some (.list (ae (eV R os))):=by unfold eR;rw[if_neg nDD];exact hD2'
      refine aB rfl ?_
      refine Tr.shift ?_
      refine pu rfl ?_
      refine⟨_,eR (eR m2 D) D2,b8.lst hD2 (fun b x e=>sd _ _ b x e) (by unfold eR;rw[if_pos rfl]),?_⟩
      refine fe rfl ?_;refine aB rfl ?_;refine bK hK (fun _=>rfl) rfl rfl ?_;refine aB rfl ?_;refine fw hK (fun _=>rfl) rfl rfl ?_;refine aN rfl ?_
      refine l7 cd.handled (.lst _) zh (fun a2 o2 ha2 T2=>?_)
      refine aI ?_
      refine Op.shift ?_
      refine ja cd.handled (mset_self _ _ _) T2 (Nat.lt_of_le_of_lt (fO _) (by lia)) (fun D6 e6 hD6 hp6 hs6=>?_)
      have s4:=aL (y:=.raw o2) ha2 (ah _)
      refine⟨_,mem,b8.lst (mset_self _ _ _) (fun b x e=>?_) ?_,?_⟩
      ·refine aL hD6 s4 _ _ ?_
       unfold eR
       rw[if_neg (nex e mD2),if_neg (nex e mD)]
       exact s2 _ _ (s1 _ _ e)
      ·cases q:mem D6 with
       | none=>rfl
       | some y=>
        have:=s4 D6 y (by unfold eR;rw[if_neg (nex q mD2),if_neg (nex q mD)];exact s2 _ _ (s1 _ _ q))
        rw[this]at hD6;cases hD6
      ·refine aI ?_
       refine bp (show 5≤sizeLine by decide) ?_
       skip
       exact hDue _ _ e5 e6 ss hs5 hp5 hs hp hs6 hp6 (ah _)
end
section
variable {W:Wd}{A:Around}{env:Env}{outer:ay}{loc:Loc}{mem:Mem}{E:Ex W}
theorem iX{ra:Addr}{R:List aD}{os:Option Str}{Q:V->Loc->Mem->Prop}(hK:W.K=hdK W.w.params)(c:aU A 600 5000)(I:LR3 R)(ho:∀ s∈osL os,s∈SY3)(hr:mem ra=some (.list (R.map bB)))
  (h:∀ v,jV R os v->Q v loc mem):OpV W A env outer (fun vs=>call (.ref 296) vs) [.ref ra,osV os] loc mem Q E:=by
 refine iV (bs:=[("rules",.ref ra),("start",osV os)]) (by rw[hK];exact lDue.at _) (by rw[hK];first|rfl|kernel_rfl|decide +kernel) (c.room (by decide)) ?_ rfl rfl rfl ?_ ?_ ?_
 ·intro F vs r
  obtain⟨_,_,r1,r2,rfl⟩:=r.isCons
  cases r2 with
  | cons r2 r3=>
   cases r3
   exact⟨_,rfl,.cons r1 (.cons r2 .nil)⟩
 ·intro x hx
  simp at hx
  rcases hx with rfl|rfl
  ·exact .inl rfl
  ·exact .inl rfl
 ·intro k p hp
  have:cellsFrom k lDue.scope.names []=[(("group" : Str),k+3),("missing",k+2),("defined",k+1),("used",k)]:=rfl
  rw[this]at hp ⊢
  simp only [List.mem_cons,List.not_mem_nil,or_false]at hp
  rcases hp with rfl|rfl|rfl|rfl<;>rfl
 ·intro L m0 hc hL
  have cd:=(c.deeper (duE L)).mono (d':=700) (u':=6000) (by decide) (by decide)
  have hc1:mem (L+1)=none:=hc ("used",L+1) (.tail _ (.tail _ (.tail _ (.head _))))
  have hc2:mem (L+2)=none:=hc ("defined",L+2) (.tail _ (.tail _ (.head _)))
  have hc3:mem (L+3)=none:=hc ("missing",L+3) (.tail _ (.head _))
  have hc4:mem (L+4)=none:=hc ("group",L+4) (.head _)
  have ecell:gk (fun n=>List.lookup n (ia (fun n=>List.lookup n lDue.scope.names) [("rules",V.ref ra),("start",osV os)])) (cellsFrom (L+1) lDue.scope.names []) mem=ap (ap (ap (ap mem (L+1) (.cell none)) (L+2) (.cell none)) (L+3) (.cell none)) (L+4) (.cell none):=by
   show gk _ [(("group" : Str),L+1+3),("missing",L+1+2),("defined",L+1+1),("used",L+1)] mem=_
   rfl
  rw[ecell]
  clear ecell
  refine Tr.locs (loc':=[(("rules" : Str),V.ref ra),("start",osV os)]) rfl ?_
  have n12:L+1≠L+2:=Nat.ne_of_lt (by lia)
  have n13:L+1≠L+3:=Nat.ne_of_lt (by lia)
  have n14:L+1≠L+4:=Nat.ne_of_lt (by lia)
  have n23:L+2≠L+3:=Nat.ne_of_lt (by lia)
  have n24:L+2≠L+4:=Nat.ne_of_lt (by lia)
  have n34:L+3≠L+4:=Nat.ne_of_lt (by lia)
  have k0:∀ b,b≠L+1->b≠L+2->b≠L+3->b≠L+4->ap (ap (ap (ap mem (L+1) (.cell none)) (L+2) (.cell none)) (L+3) (.cell none)) (L+4) (.cell none) b=mem b:=fun b h1 h2 h3 h4=>by rw[af h4,af h3,af h2,af h1]
  have k1:ap (ap (ap (ap mem (L+1) (.cell none)) (L+2) (.cell none)) (L+3) (.cell none)) (L+4) (.cell none) (L+1)=some (.cell none):=by rw[af n14,af n13,af n12,mset_self]
  have k2:ap (ap (ap (ap mem (L+1) (.cell none)) (L+2) (.cell none)) (L+3) (.cell none)) (L+4) (.cell none) (L+2)=some (.cell none):=by rw[af n24,af n23,mset_self]
  have k3:ap (ap (ap (ap mem (L+1) (.cell none)) (L+2) (.cell none)) (L+3) (.cell none)) (L+4) (.cell none) (L+3)=some (.cell none):=by rw[af n34,mset_self]
  have k4:ap (ap (ap (ap mem (L+1) (.cell none)) (L+2) (.cell none)) (L+3) (.cell none)) (L+4) (.cell none) (L+4)=some (.cell none):=by rw[mset_self]
  generalize ap (ap (ap (ap mem (L+1) (.cell none)) (L+2) (.cell none)) (L+3) (.cell none)) (L+4) (.cell none)=M0 at *
  have kk:∀ b x,mem b=some x->b≠L+1/\b≠L+2/\b≠L+3/\b≠L+4:=fun b x e=>⟨nex e hc1,nex e hc2,nex e hc3,nex e hc4⟩
  have s0:Sub mem M0:=fun b x e=>by obtain⟨e1,e2,e3,e4⟩:=kk b x e;rw[k0 b e1 e2 e3 e4];exact e
  refine due_a hK cd I ho k1 k2 k3 k4 (s0 _ _ hr) (fun m1 a1 a2 a3 f1=>?_)
  have s1:Sub mem m1:=fun b x e=>by obtain⟨e1,e2,e3,_⟩:=kk b x e;rw[f1 b e1 e2 e3];exact s0 _ _ e
  refine due_b hK cd I ho a1 a2 a3 ((f1 _ (Ne.symm n14) (Ne.symm n24) (Ne.symm n34)).trans k4) (s1 _ _ hr) (fun l m2 hl s2=>?_)
  refine Tr.locs hl ?_
  refine due_c hK cd I ho (s2 _ _ n14 a1) (s2 _ _ n24 a2) (s2 _ _ n34 a3) (s2 _ _ (kk _ _ hr).2.2.2 (s1 _ _ hr)) (fun l m v hv s3=>?_)
  exact⟨mem,fun b x e=>s3 _ _ (s2 _ _ (kk _ _ e).2.2.2 (s1 _ _ e)),h v hv⟩
end
section
variable {W:Wd}{A:Around}{env:Env}{outer:ay}{loc:Loc}{mem R:Mem}{E:Ex W}{F:Frz}{s:Shared}
noncomputable def ka(d:Addr):Obj:={ cls:=.type "dict_items",data:=.fields #[.ref d] }
noncomputable abbrev j3:Addr->Nat->Nat->Nat->Mem->Option (Option V):=oG fun q=>.tup [.str q.1,q.2]
theorem dE{a:Addr}{n ep i:Nat}{m:Mem}{es:List (Str×V)}(h:m a=some (.dict es ep))(hn:es.length=n):j3 a n ep i m=some (es[i]?.map fun q=>.tup [.str q.1,q.2]):=nA h hn
noncomputable def jo(d:Addr)(i n ep:Nat)(ok ov:Value):Obj:={ cls:=.type "dict_itemiterator",dict:=none,data:=.fields #[.none,.bool false,.ref d,.int i 0,.int n 0,.int ep 0,ok,ov],slots:=#[] }
inductive ItSt(it d:Addr)(n ep:Nat)(i:Nat)(R₀ R:Mem):Prop
 | mk (h1_:R₀ it=none) (ok ov:Value) (h2_:R=ap R₀ it (.raw (jo d i n ep ok ov)))
theorem eC{d:Addr}{es:List (Str×V)}{ep:Nat}{Q:V->Loc->Mem->Prop}(hm:mem d=some (.dict es ep))(h:∀ v m',mem v=none->m' v=some (.raw (ka d))->(∀ b,b≠v->m' b=mem b)->Q (.ref v) loc m') :
  OpV W A env outer (fun vs=>call (.builtin "dict.items") vs) [.ref d] loc mem Q E:=op1 fun R F s v S r=>by
 obtain rfl:=r.isRef
 obtain⟨kvs,hd,q⟩:=S.dict hm
 refine call_meetsIn PySem.F.slot_dict_items hd.mapOf.typeIs PySem.F.entry_dict_items (PySem.F.args_dict_items_1 _) (meets_dict_items (strKind W.prog W.w) d (S.not_modules hm)) ⟨⟨kvs,hd⟩,?_⟩
 have S':=S.alloc (t:=s.toks) (d:=s.drawn) (x:=.raw (ka d)) (aH s.heap) S.size_le (fun b o e=>Heap.get?_push_of_some _ e) (Heap.get?_push_size _ rfl) .raw
 exact aE.mk (.ref _) S' (h _ _ (S.free (aH _)).1 (mset_self _ _ _) fun b hb=>af hb)
theorem jt:entryFor table "dict_itemiterator.__iter__" = some Builtin.«dict_keyiterator.__iter__»:=entryFor_alias (id':="dict_keyiterator.__iter__") (by kernel_rfl) rfl (by decide +kernel) (by kernel_rfl)
theorem fK{elts:List PySem.Expr}{kk:Nat}{pos:Pos}{v d:Addr}{es:List (Str×V)}{ep:Nat}(hh:A.handled=none)(hv:mem v=some (.raw (ka d)))(hm:mem d=some (.dict es ep)) :
  Itr W A (.Tuple elts kk pos) (.ref v) mem mem (j3 d es.length ep):=by
 intro env outer loc R F₀ s x' E S r
 obtain rfl:=r.isRef
 obtain⟨ov,hov,rv⟩:=S.memOk _ _ hv
 cases rv.view
 obtain⟨o,ho,q⟩:=S.memOk _ _ hm
 cases q.view with
 | @dict ds kvs k qq=>
  obtain⟨hR,S'⟩:=S.iterNew (o:=jo d 0 kvs.length ep .none .none)
  refine wpAny_pyIter_items (knd:=strKind W.prog W.w) (kvs:=kvs) (ep:=ep) ⟨_,hov,rfl,rfl⟩ (dI k ho) ⟨ItSt s.heap.objs.size d kvs.length ep,_,?_,⟨hR,_,_,rfl⟩,S'⟩
  generalize s.heap.objs.size=it
  clear S' hR
  refine {
   next:=?_
   done:=?_
   self:=?_
   frame:=?_
   same:=?_
   off:=?_ }
  ·rintro i env outer loc mem R₀ R F s v E ic ⟨hn,ok,ovv,rfl⟩ hi S
   obtain⟨es',hx,hl,hi⟩:=fI hi
   obtain⟨o',ho',q'⟩:=S.memOk _ _ hx
   obtain⟨oi,hoi,ri⟩:=S.rawAt (a:=it) (mset_self _ _ _)
   cases ri.view
   cases q'.view with
   | @dict ds' kvs' k' qr=>
    have hlen:kvs.length=kvs'.length:=by rw[qq.length,qr.length,hl]
    cases he:es'[i]? with
    | none=>rw[he]at hi;cases hi
    | some e=>
     obtain⟨ke,xe⟩:=e
     rw[he]at hi
     obtain rfl:V.tup [.str ke,xe]=v:=by cases hi;rfl
     obtain⟨u,hu,ru⟩:=qr.at he
     have dne:d≠it:=fun z=>by rw[z]at hx;have:=S.dis _ _ hx;rw[mset_self]at this;cases this
     refine wpAny_pyNext_items_item (knd:=strKind W.prog W.w) (kvs:=kvs') (ok:=ok) (ov:=ovv) (by rw[<-hlen];exact hoi) (dI k' ho') hu fun key h' hkey hit htup hsz hk=>?_
     obtain⟨t,rfl⟩:=Value.isStrOf_shape hkey
     refine⟨_,rfl,?_⟩
     refine wpAny_letOwnedTupleGo_items hit fun h2 hen hsb=>?_
     have z:=S.z.free_of_none (aH s.heap)
     have sz1:s.heap.objs.size≠it:=fun z=>by have:=Heap.lt_size hoi;rw[<-z]at this;exact Nat.lt_irrefl _ this
     have S1:=S.updR (t:=s.toks) (d:=s.drawn) (h':=h2) (x':=.raw (jo d (i+1) kvs.length ep (.str ke t) u)) (fun b ob hb e=>(hsb.2 b hb).trans (hk b ob hb e)) (by rw[hlen];exact hen) .raw
     have hTup:h2.get? s.heap.objs.size=some { cls:=.type "tuple",data:=.seq #[.str ke t,u] }:=(hsb.2 _ sz1).trans htup
     have S2:=S1.adopt (a:=s.heap.objs.size) (by
      obtain⟨c1,c2⟩:=br z.1
      rw[bw c1]
      rw[af sz1]at c2 ⊢
      exact c2) z.2.1 z.2.2.1 z.2.2.2 hTup
     exact⟨_,_,aV.fadd _ _ _,.tup (.inr ⟨rfl,rfl⟩) (.cons (.str _ _) (.cons (ru.mono (aV.fadd _ _ _)) .nil)),⟨hn,_,_,rfl⟩,S2⟩
  ·rintro i env outer loc mem R₀ R F s E ic ⟨hn,ok,ovv,rfl⟩ hi S
   obtain⟨es',hx,hl,hi⟩:=fI hi
   obtain⟨o',ho',q'⟩:=S.memOk _ _ hx
   obtain⟨oi,hoi,ri⟩:=S.rawAt (a:=it) (mset_self _ _ _)
   cases ri.view
   cases q'.view with
   | @dict ds' kvs' k' qr=>
    have hlen:kvs.length=kvs'.length:=by rw[qq.length,qr.length,hl]
    have he:es'[i]? = none:=by
     cases he:es'[i]? with
     | none=>rfl
     | some e=>rw[he]at hi;cases hi
    refine wpAny_pyNext_items_end (knd:=strKind W.prog W.w) (kvs:=kvs') hh (by rw[<-hlen];exact hoi) (dI k' ho') (qr.atN he) fun h' eb=>⟨rfl,S.endR (t:=s.toks) (d:=s.drawn) hn fun b ob hb e=>eb b ob hb e⟩
  ·rintro i env outer loc mem R₀ R F s E Q ⟨hn,ok,ovv,rfl⟩ S h
   obtain⟨oi,hoi,ri⟩:=S.rawAt (a:=it) (mset_self _ _ _)
   cases ri.view
   have hT:s.TypeIs (.ref it) "dict_itemiterator":=⟨_,hoi,rfl⟩
   refine wpAny_pyIter_slot hT PySem.F.slot_dict_itemiterator_iter (wpAny_call_entry PySem.F.slot_dict_itemiterator_iter hT jt ?_ (PySem.F.args_dict_itemiterator_iter_1 _))
   show wpAny _ _ (ret (.ref it)) _ _ s
   exact wpAny_pure ⟨_,rfl,"dict_itemiterator",_,hT,PySem.F.slot_dict_itemiterator_next.lookup,h⟩
  ·rintro i R₀ R D x ⟨hn,ok,ovv,rfl⟩ e
   have hD:D≠it:=fun q=>by rw[q,mset_self,hn]at e;cases e
   exact⟨by rw[af (Ne.symm hD)];exact hn,ok,ovv,fW (Ne.symm hD) _ _⟩
  ·rintro i R₀ R D ⟨hn,ok,ovv,rfl⟩ h
   exact af fun q=>h (q▸hn)
  ·rintro i env outer loc mem R₀ R F s ⟨hn,ok,ovv,rfl⟩ S
   exact S.offR hn
end
structure Rd(adr:Rl->Addr)(g:GR)(m:Mem):Prop where
 self:m (adr .self)=some (.inst ar (adr .dict))
 dict:∃ ep,m (adr .dict)=some (.dict (km adr g.up g.start) ep)
 pl:m (adr .pl)=some (.list (g.p0::g.prods.map (pV aq)))
 pn:∃ ep,m (adr .pn)=some (.dict (g.pn.map fun k=>(k,.ref (adr (.pnL k)))) ep)
 pnL:∀ k∈g.pn,m (adr (.pnL k))=some (.list ((g.prods.filter fun p=>p.name=k).map (pV aq)))
 te:∃ ep,m (adr .te)=some (.dict (g.te.map fun q=>(q.1,.ref (adr (.teL q.1)))) ep)
 teL:∀ k ns,g.te.lookup k=some ns->m (adr (.teL k))=some (.list (a9 ns))
 no:∃ ep,m (adr .no)=some (.dict (g.no.map fun q=>(q.1,.ref (adr (.noL q.1)))) ep)
 noL:∀ k ns,g.no.lookup k=some ns->m (adr (.noL k))=some (.list (a9 ns))
theorem Rd.mono{adr:Rl->Addr}{g:GR}{m m':Mem}(r:Rd adr g m)(s:Sub m m'):Rd adr g m' where
 self:=s _ _ r.self
 dict:=let ⟨ep,h⟩:=r.dict;⟨ep,s _ _ h⟩
 pl:=s _ _ r.pl
 pn:=let ⟨ep,h⟩:=r.pn;⟨ep,s _ _ h⟩
 pnL k hk:=s _ _ (r.pnL k hk)
 te:=let ⟨ep,h⟩:=r.te;⟨ep,s _ _ h⟩
 teL k ns e:=s _ _ (r.teL k ns e)
 no:=let ⟨ep,h⟩:=r.no;⟨ep,s _ _ h⟩
 noL k ns e:=s _ _ (r.noL k ns e)
theorem GOk.rd{adr:Rl->Addr}{cc:Rl->Option ax}{g:GR}{m:Mem}(M:dh adr cc m)(ok:GOk ar aq adr cc g):Rd adr g m where
 self:=M.get ok.self
 dict:=let ⟨ep,h⟩:=ok.dict;⟨ep,M.get h⟩
 pl:=M.get ok.pl
 pn:=let ⟨ep,h⟩:=ok.pn;⟨ep,M.get h⟩
 pnL k hk:=M.get (by rw[ok.pnL,if_pos hk])
 te:=let ⟨ep,h⟩:=ok.te;⟨ep,M.get h⟩
 teL k ns e:=M.get (by rw[ok.teL,e];rfl)
 no:=let ⟨ep,h⟩:=ok.no;⟨ep,M.get h⟩
 noL k ns e:=M.get (by rw[ok.noL,e];rfl)
section
variable {W:Wd}{A:Around}{env:Env}{outer:ay}{loc:Loc}{mem:Mem}{E:Ex W}{adr:Rl->Addr}{g:GR}
theorem gV{β:Type}{l:List (Str×β)}(hn:(l.map (·.1)).Nodup){q:Str×β}(h:q∈l):l.lookup q.1=some q.2:=by
 induction l with
 | nil=>cases h
 | cons a l ih=>
  obtain⟨k,x⟩:=a
  rw[List.map_cons,List.nodup_cons]at hn
  rw[List.lookup_cons]
  rcases List.mem_cons.mp h with rfl|h
  ·simp
  ·have:q.1≠k:=fun e=>hn.1 (e▸List.mem_map.mpr ⟨q,h,rfl⟩)
   have e:(q.1==k)=false:=by simpa using this
   rw[e];exact ih hn.2 h
noncomputable def eP(l:List (Str×List Int)):List Str:=(l.filter fun q=>decide (q.1≠("error" : Str))&&q.2.isEmpty).map (·.1)
noncomputable abbrev kh(g:GR):List Str:=eP g.te
theorem mY(l:List (Str×List Int))(y:Str×List Int):eP (l++[y])=eP l++(if decide (y.1≠("error" : Str))&&y.2.isEmpty then [y.1] else []):=by
 unfold eP
 rw[List.filter_append,List.map_append,List.filter_cons]
 split<;>rfl
theorem jM(l:List (Str×List Int)):(eP l).length≤l.length:=by unfold eP;rw[List.length_map];exact List.length_filter_le _ _
inductive J4a(mem:Mem)(adr:Rl->Addr)(ul:Addr)(te:List (Str×List Int))(i:Nat)(l:Loc)(m:Mem):Prop
 | mk (h1_:a7 [("self",.ref (adr .self)),("unused_tok",.ref ul)] l) (h2_:Sub mem m) (h3_:m ul=some (.list (ae (eP (te.take i)))))
theorem oL{Q:V->Loc->Mem->Prop}(hK:W.K=hdK W.w.params)(c:aU A 600 5000)(r:Rd adr g mem)(hn:(g.te.map (·.1)).Nodup)(hz:g.te.length≤100)(hz2:∀ q∈g.te,q.2.length≤1000)
  (h:Q (.lst (ae (kh g))) loc mem):OpV W A env outer (fun vs=>call (.ref 200) vs) [.ref (adr .self)] loc mem Q E:=by
 refine bO (bs:=[("self",.ref (adr .self))]) (by rw[hK];exact gIdle.at _) (by rw[hK];first|rfl|kernel_rfl|decide +kernel) (c.room (by decide)) ?_ (by intro y hy;simp at hy;rcases hy with rfl;rfl) (by decide) rfl rfl rfl ?_
 ·intro F s vs hb hk r
  obtain⟨_,_,r1,r2,rfl⟩:=r.isCons
  obtain rfl:=r2.isNil
  exact⟨_,BindsTo.of_eq rfl,.cons r1 .nil⟩
 ·intro L outer
  have cd:=c.deeper (envX "Grammar.unused_terminals" gIdle.scope L 200 gIdle.code [])
  obtain⟨epd,hd⟩:=r.dict
  obtain⟨ept,ht⟩:=r.te
  have hx:=r.self
  (refine bU ?_;intro aa vv oo qq ee;refine ac ?_);refine aw rfl rfl rfl ?_;refine aW ?_;refine aI ?_
  refine bX (show 0≤sizeLine by decide) (fun ul m1 hul h1 f1=>?_)
  have s1:Sub mem m1:=Sub.new (ah _) hul f1
  refine ac ?_;refine dj (fun _=>rfl) ?_;refine cT rfl ?_;refine az rfl rfl ?_
  have hx1:=s1 _ _ hx
  have hd1:=s1 _ _ hd
  have ht1:=s1 _ _ ht
  refine aP hK (fun _=>by kernel_rfl) (.own hx1 hd1) rfl rfl ?_
  skip
  refine eE (.dict ht1) PySem.F.plainAttrs_dict PySem.F.slot_dict_items (by show builtinType _=_;rw[builtinType_eq_fast];kernel_rfl) ?_
  refine eC ht1 (fun v m2 hv h2 f2=>?_)
  have s2:Sub mem m2:=Sub.new s1 hv f2
  have h1:m2 ul=_:=(f2 _ (nex h1 hv)).trans h1
  refine bV (ys:=g.te) (fun _ q=>.tup [.str q.1,.ref (adr (.teL q.1))]) (fK cd.handled h2 (s2 _ _ ht)) (J4a mem adr ul g.te) (fun i l m hi J=>?_) (fun l m J=>?_) (fun i y l m hy J=>?_) ⟨rfl,s2,h1⟩
  ·obtain⟨_,s,_⟩:=J
   rw[dE (s _ _ ht) rfl,List.getElem?_map,Option.map_map];rfl
  ·obtain⟨hl,s,hu⟩:=J
   rw[List.take_length]at hu
   refine Tr.locs hl ?_
   refine ak ?_
   refine ac ?_
   refine c6 (Tr.shift ?_)
   refine pu rfl ?_
   exact⟨_,mem,b8.lst hu s hul,mem,ah _,h⟩
  ·obtain⟨hl,s,hu⟩:=J
   have hm:y∈g.te:=List.mem_of_getElem? hy
   refine Op.locs hl ?_
   have hlist:=s _ _ (r.teL _ _ (gV hn hm))
   have hlen:(ae (eP (g.te.take i))).length≤100:=by
    rw[aG];have:=jM (g.te.take i);rw[List.length_take]at this;lia
   have hst:eP (g.te.take (i+1))=_:=(congrArg eP (aK hy)).trans (mY _ _)
   refine bl (by first|assumption|exact aU.handled (by assumption)) rfl rfl ?_;refine am rfl rfl ?_;refine am rfl rfl ?_;(refine aC ?_;intro qq ee;refine ac ?_);refine bz ?_;refine c9 ?_;refine aQ ?_;refine dp rfl rfl rfl ?_;refine l8 ?_;refine aj ?_
   refine⟨fun hb=>?_,fun hb=>aT ?_⟩
   ·have hne:y.1≠("error" : Str):=fun e=>by rw[e]at hb;simp at hb
    refine aQ ?_;refine cO ?_;refine be rfl rfl ?_
    refine fS (.own hlist) (by unfold a9;rw[List.length_map];have:=hz2 _ hm;lia) ?_
    skip
    refine⟨fun hb2=>?_,fun hb2=>?_⟩
    ·refine cn ?_
     refine bk ?_
     (refine aC ?_;intro qq ee;refine ac ?_);refine bP rfl rfl ?_;refine bC rfl rfl ?_
     refine a6 (.list hu) PySem.F.plainAttrs_list PySem.F.slot_list_append PySem.F.type_list_append rfl rfl ?_
     refine aN rfl ?_
     refine bh hu (Nat.le_trans hlen (by decide)) (fun m3 h3 f3=>?_)
     refine ak ?_;refine ak ?_
     refine⟨rfl,Sub.upd s hul f3,?_⟩
     have e2:y.2.isEmpty=true:=by unfold a9 at hb2;simpa using hb2
     rw[hst,if_pos (by rw[e2,decide_eq_true hne];rfl),ae,List.map_append];exact h3
    ·refine aT ?_
     refine ak ?_;refine ak ?_
     refine⟨rfl,s,?_⟩
     have e2:y.2.isEmpty=false:=by unfold a9 at hb2;simpa using hb2
     rw[hst,if_neg (by rw[e2,Bool.and_false];exact Bool.false_ne_true),List.append_nil];exact hu
   ·have hne:y.1=("error" : Str):=by simpa using hb
    refine ak ?_;refine ak ?_
    refine⟨rfl,s,?_⟩
    rw[hst,if_neg (by rw[decide_eq_false (fun z=>z hne)];intro q;cases q),List.append_nil];exact hu
end
theorem el{l:List Str}(f:Str->V)(k:Str):bi (l.map fun k=>(k,f k)) k=if k∈l then some (f k) else none:=by
 induction l with
 | nil=>rfl
 | cons a l ih=>
  unfold bi at ih ⊢
  rw[List.map_cons,List.find?_cons]
  by_cases h:a=k
  ·subst h;simp
  ·have e2:decide (a=k)=false:=decide_eq_false h
   simp only [e2]
   rw[ih]
   simp[Ne.symm h]
section
variable {W:Wd}{A:Around}{env:Env}{outer:ay}{loc:Loc}{mem:Mem}{E:Ex W}{adr:Rl->Addr}{g:GR}
noncomputable def bY(g:GR)(l:List (Str×List Int)):List Pr:=l.filterMap fun q=>if q.2.isEmpty then g.prods.find? (fun p=>p.name=q.1) else none
inductive J4b(mem:Mem)(adr:Rl->Addr)(ul:Addr)(g:GR)(i:Nat)(l:Loc)(m:Mem):Prop
 | mk (h1_:a7 [("self",.ref (adr .self)),("unused_prod",.ref ul)] l) (h2_:Sub mem m) (h3_:m ul=some (.list ((bY g (g.no.take i)).map (pV aq))))
theorem mU{Q:V->Loc->Mem->Prop}(hK:W.K=hdK W.w.params)(c:aU A 600 5000)(r:Rd adr g mem)(hn:(g.no.map (·.1)).Nodup)(hz:g.no.length≤100)(hz2:∀ q∈g.no,q.2.length≤100000)
  (hp:∀ q∈g.no,q.2=[]->q.1∈g.pn/\∃ p∈g.prods,p.name=q.1)
  (h:Q (.lst ((bY g g.no).map (pV aq))) loc mem):OpV W A env outer (fun vs=>call (.ref 207) vs) [.ref (adr .self)] loc mem Q E:=by
 refine bO (bs:=[("self",.ref (adr .self))]) (by rw[hK];exact gAlone.at _) (by rw[hK];first|rfl|kernel_rfl|decide +kernel) (c.room (by decide)) ?_ (by intro y hy;simp at hy;rcases hy with rfl;rfl) (by decide) rfl rfl rfl ?_
 ·intro F s vs hb hk r
  obtain⟨_,_,r1,r2,rfl⟩:=r.isCons
  obtain rfl:=r2.isNil
  exact⟨_,BindsTo.of_eq rfl,.cons r1 .nil⟩
 ·intro L outer
  have cd:=c.deeper (envX "Grammar.unused_rules" gAlone.scope L 207 gAlone.code [])
  obtain⟨epd,hd⟩:=r.dict
  obtain⟨ept,ht⟩:=r.no
  obtain⟨epn,hpn⟩:=r.pn
  have hx:=r.self
  (refine bU ?_;intro aa vv oo qq ee;refine ac ?_);refine aw rfl rfl rfl ?_;refine aW ?_;refine aI ?_
  refine bX (show 0≤sizeLine by decide) (fun ul m1 hul h1 f1=>?_)
  have s1:Sub mem m1:=Sub.new (ah _) hul f1
  refine ac ?_;refine dj (fun _=>rfl) ?_;refine cT rfl ?_;refine az rfl rfl ?_
  have hx1:=s1 _ _ hx
  have hd1:=s1 _ _ hd
  have ht1:=s1 _ _ ht
  refine aP hK (fun _=>by kernel_rfl) (.own hx1 hd1) rfl rfl ?_
  skip
  refine eE (.dict ht1) PySem.F.plainAttrs_dict PySem.F.slot_dict_items (by show builtinType _=_;rw[builtinType_eq_fast];kernel_rfl) ?_
  refine eC ht1 (fun v m2 hv h2 f2=>?_)
  have s2:Sub mem m2:=Sub.new s1 hv f2
  have h1:m2 ul=_:=(f2 _ (nex h1 hv)).trans h1
  refine bV (ys:=g.no) (fun _ q=>.tup [.str q.1,.ref (adr (.noL q.1))]) (fK cd.handled h2 (s2 _ _ ht)) (J4b mem adr ul g) (fun i l m hi J=>?_) (fun l m J=>?_) (fun i y l m hy J=>?_) ⟨rfl,s2,h1⟩
  ·obtain⟨_,s,_⟩:=J
   rw[dE (s _ _ ht) rfl,List.getElem?_map,Option.map_map];rfl
  ·obtain⟨hl,s,hu⟩:=J
   rw[List.take_length]at hu
   refine Tr.locs hl ?_
   refine ak ?_
   refine ac ?_
   refine c6 (Tr.shift ?_)
   refine pu rfl ?_
   exact⟨_,mem,b8.lst hu s hul,mem,ah _,h⟩
  ·obtain⟨hl,s,hu⟩:=J
   have hm:y∈g.no:=List.mem_of_getElem? hy
   refine Op.locs hl ?_
   have hlist:=s _ _ (r.noL _ _ (gV hn hm))
   have hlen:((bY g (g.no.take i)).map (pV aq)).length≤100:=by
    rw[List.length_map]
    have:=List.length_filterMap_le (fun q:Str×List Int=>if q.2.isEmpty then g.prods.find? (fun p=>p.name=q.1) else none) (g.no.take i)
    rw[List.length_take]at this;unfold bY;omega
   have hst:bY g (g.no.take (i+1))=bY g (g.no.take i)++bY g [y]:=by rw[aK hy];exact List.filterMap_append
   refine bl (by first|assumption|exact aU.handled (by assumption)) rfl rfl ?_;refine am rfl rfl ?_;refine am rfl rfl ?_;(refine aC ?_;intro qq ee;refine ac ?_);refine bz ?_;refine cO ?_;refine be rfl rfl ?_
   refine fS (.own hlist) (by unfold a9;rw[List.length_map];have:=hz2 _ hm;lia) ?_
   skip
   refine⟨fun hb2=>?_,fun hb2=>?_⟩
   ·have e2:y.2=[]:=by unfold a9 at hb2;simpa using hb2
    obtain⟨hp1,p1,hp2,hp3⟩:=hp _ hm e2
    obtain⟨p,hf⟩:∃ p,g.prods.find? (fun p=>p.name=y.1)=some p:=by
     cases q:g.prods.find? (fun p=>decide (p.name=y.1)) with
     | some p=>exact⟨p,rfl⟩
     | none=>rw[List.find?_eq_none]at q;exact absurd (decide_eq_true hp3) (q _ hp2)
    have hx3:=s _ _ hx
    have hd3:=s _ _ hd
    have hq3:=s _ _ hpn
    (refine aC ?_;intro qq ee;refine ac ?_);refine aw rfl rfl rfl ?_;refine cN (fun _ _=>rfl) ?_;refine cN (fun _ _=>rfl) ?_;refine az rfl rfl ?_
    refine aP hK (fun _=>by kernel_rfl) (.own hx3 hd3) rfl rfl ?_
    refine pu rfl ?_
    refine dw (x:=.ref (adr (.pnL y.1))) hq3 (by rw[el (fun k=>V.ref (adr (.pnL k))),if_pos hp1]) ?_
    refine bI ?_
    refine cu (k:=0) (x:=pV aq p) (.own (s _ _ (r.pnL _ hp1))) (by decide) (by decide) (by
     show(List.map _ _)[0]? = _
     rw[List.getElem?_map,<-List.head?_eq_getElem?,List.head?_filter,hf];rfl) ?_
    refine ac ?_;refine bP rfl rfl ?_;refine bC rfl rfl ?_
    refine a6 (.list hu) PySem.F.plainAttrs_list PySem.F.slot_list_append PySem.F.type_list_append rfl rfl ?_
    refine aN rfl ?_
    refine bh hu (Nat.le_trans hlen (by decide)) (fun m3 h3 f3=>?_)
    refine ak ?_;refine ak ?_
    refine⟨rfl,Sub.upd s hul f3,?_⟩
    rw[hst,h3,List.map_append]
    unfold bY
    rw[List.filterMap_cons,if_pos (by rw[e2];rfl),hf];rfl
   ·refine ak ?_;refine ak ?_
    refine⟨rfl,s,?_⟩
    have e2:y.2.isEmpty=false:=by unfold a9 at hb2;simpa using hb2
    rw[hst,hu]
    have:bY g [y]=[]:=by unfold bY;rw[List.filterMap_cons,if_neg (by rw[e2];exact Bool.false_ne_true)];rfl
    rw[this,List.append_nil]
end
noncomputable def jC(W:Wd):Prop:=∃ bm ob,W.mg "__builtins__" = some (.ref bm)/\bm≠builtinsNs/\W.hb.get? bm=some ob/\ob.cls = .type "module"/\ob.dict=some builtinsNs/\ob.data = .plain
inductive iN(qual:Str):Obj->Prop
 | mk {o:Obj} (vs:Array Value) (t:Tok) (h1_:o.data = .fields vs) (h2_:vs[1]? = some (.str qual t)):iN qual o
inductive bR(P:Addr)(pos:Pos)(qual:Str)(m:Mem):Prop
 | fresh (h1_:m P=some (.raw (tabObj #[])))
 | made (c':Addr) (oc:Obj) (h1_:m P=some (.raw (tabObj #[rawInt pos.line,rawInt pos.col,.ref c']))) (h2_:m c'=some (.raw oc)) (h3_:iN qual oc)
section
variable {W:Wd}{A:Around}{env:Env}{outer:ay}{loc:Loc}{mem R:Mem}{E:Ex W}{F:Frz}{s:Shared}
theorem Sim.take{a:Addr}{o:Obj}(S:Sim W env outer loc mem R F s)(f1:mun mem R a=none)(f2:∀ o,¬ F a o)(f3:a≠env.locals)(f4:∀ q∈outer,q.1≠a)(f5:a≠sysModules)(ho:s.heap.get? a=some o):Sim W env outer loc (ap mem a (.raw o)) R F s:=by
 obtain⟨g1,g2⟩:=br f1
 have key:∀ {b},b≠a->mun (ap mem a (.raw o)) R b=mun mem R b:=fun {b} hb=>by unfold mun;rw[af hb]
 have Z:=S.z
 refine⟨fun b y e=>?_,?_⟩
 ·by_cases q:b=a
  ·rw[q];exact g2
  ·rw[af q]at e;exact S.dis b y e
 ·exact {
   frz:=Z.frz
   base:=Z.base
   memF:=fun b p e=>by
    have hb:b≠a:=fun q=>f2 p (q▸e)
    rw[key hb];exact Z.memF b p e
   memOk:=fun b y h=>by
    by_cases q:b=a
    ·subst q;rw[bu (mset_self _ _ _)]at h;cases h;exact⟨o,ho,.raw⟩
    ·rw[key q]at h;exact Z.memOk b y h
   ns:=Z.ns
   nsF:=⟨Z.nsF.1,by rw[key (Ne.symm f3)];exact Z.nsF.2⟩
   outs:=fun q hq=>let ⟨z,b,c,e⟩:=Z.outs q hq;⟨z,b,by rw[key (f4 q hq)];exact c,e⟩
   low:=Z.low
   memLow:=fun b y h=>by
    by_cases q:b=a
    ·rw[q];exact f5
    ·rw[key q]at h;exact Z.memLow b y h
   gens:=Z.gens
   os:=Z.os }
theorem s_def{name qual:Str}{params:Arguments}{body:List Stmt}{scope:Scope}{pos:Pos}{c P:Addr}{clos:List (Str×Addr)}{Q:Fl->Loc->Mem->Prop}(hd0:params.defaults=[])(hk0:params.kw_defaults=[])(ha:annTrees params none env=[])
  (hq:qualnameIn env name name=qual) (hcl:closureFor scope env=pure clos) (hg:env.globals=mainGlobals) (hcode:env.code = .ref c) (C:∀ h,W.K.In h->CodeHd h c P) (B:jC W) (T:bR P pos qual mem)
  (h:∀ (f c':Addr) (oc:Obj) (doc pm ctv:Value) (m':Mem),mem f=none->m' f=some (.raw (fnMade name qual params body scope clos doc pm c' ctv))->m' c'=some (.raw oc)->iN qual oc->bR P pos qual m'->(∀ b x,b≠P->mem b=some x->m' b=some x)->
   Op W A env outer (fun _ (_ _:Unit)=>True) (fun|[y]=>storeName env name y|_=>pure ()) [.ref f] loc m' (fun _=>Q .next) E) :
  TrS W A env outer (exec (.FunctionDef name params body [] none [] scope none name pos) env) loc mem Q E:=fun R F s S=>by
 refine nestDef_K hd0 hk0 ha ?_
 rw[hq]
 have hgs:s.heap.Ns mainGlobals W.mg:=W.top.g.keeps S.hbase
 obtain⟨bm,ob,b1,b2,b3,b4,b5,b6⟩:=B
 have b3':=S.hbase _ _ b3
 have hbG:bm≠mainGlobals:=fun q=>by
  obtain⟨o,es,ep,e,hd,_⟩:=hgs
  rw[q,e]at b3';cases b3';rw[hd]at b6;cases b6
 have C':=C _ S.kin
 have tabs:∀ ps,mem P=some (.raw (tabObj ps))->s.heap.get? P=some (tabObj ps)/\mainGlobals≠P/\s.heap.BuiltinsAt W.mg P:=fun ps hm=>by
  obtain⟨o,ho,q⟩:=S.memOk _ _ hm
  cases q.view
  refine⟨ho,fun q=>?_,bm,ob,b1,b2,hbG,fun q=>?_,b3',b4,b5,b6⟩
  ·obtain⟨o,es,ep,e,hd,_⟩:=hgs
   rw[q,ho]at e;cases e;cases hd
  ·rw[q,ho]at b3';cases b3';cases b4
 cases T with
 | fresh hm=>
  obtain⟨hP,hGP,hB⟩:=tabs _ hm
  refine makeFunction_K (mg:=W.mg) (ps:=#[]) hcl hg hgs hcode C' hP True.intro rfl hGP hB fun c' ctv doc h' tk hx hge hlt hrec htb=>?_
  obtain⟨c₂,oc,vs,t,e2,hoc,hd,hv⟩:=hrec
  cases e2
  have fc:=S.z.free_of_none (dU hge)
  have hsz:=S.size_le
  have hhs:s.heap.objs.size≤h'.objs.size:=Nat.le_trans hge (Nat.le_of_lt hlt)
  have ff:=S.z.free_of_none (dU hhs)
  obtain⟨fo,hfo⟩:∃ fo,fo=fnMade name qual params body scope clos doc ((W.mg "__name__").getD .none) c' ctv:=⟨_,rfl⟩
  have cP:c'≠P:=fun q=>by have:=Heap.lt_size hP;rw[<-q]at this;exact absurd this (Nat.not_lt.mpr hge)
  have fP:h'.objs.size≠P:=fun q=>by have:=Heap.lt_size hP;rw[<-q]at this;exact absurd this (Nat.not_lt.mpr hhs)
  have fcne:h'.objs.size≠c':=Nat.ne_of_gt hlt
  have S1:=S.upd (t:=tk) (d:=s.drawn) (h':=h'.push fo) (x':=.raw _) hm (fun b o hb e=>Heap.get?_push_of_some _ (hx b o hb e)) (Heap.get?_push_of_some _ htb) .raw
  have kk:∀ {b:Addr} {m:Mem} {x:ax} {a:Addr},b≠a->mun m R b=none->mun (ap m a x) R b=none:=fun {b m x a} hb e=>by unfold mun at e ⊢;rw[af hb];exact e
  have S2:=S1.take (a:=c') (kk cP fc.1) fc.2.1 fc.2.2.1 fc.2.2.2 (ey (Nat.le_trans hsz hge)) (Heap.get?_push_of_some _ hoc)
  have S3:=S2.take (a:=h'.objs.size) (kk fcne (kk fP ff.1)) ff.2.1 ff.2.2.1 ff.2.2.2 (ey (Nat.le_trans hsz hhs)) (Heap.get?_push_size _ (by rw[hfo];rfl))
  rw[<-hfo]
  obtain⟨M,hM⟩:∃ M,M=ap (ap (ap mem P (.raw (tabObj (#[]++#[rawInt pos.line,rawInt pos.col,Value.ref c'])))) c' (.raw oc)) h'.objs.size (.raw fo):=⟨_,rfl⟩
  rw[<-hM]at S3
  have h2:=h h'.objs.size c' oc doc ((W.mg "__name__").getD .none) ctv M (br ff.1).1 (by rw[hM,mset_self,hfo]) (by rw[hM,af (Ne.symm fcne),mset_self]) ⟨vs,t,hd,hv⟩
   (.made c' oc (by rw[hM,af (Ne.symm fP),af (Ne.symm cP),mset_self];rfl) (by rw[hM,af (Ne.symm fcne),mset_self]) ⟨vs,t,hd,hv⟩)
   (fun b x hb e=>by
    have n1:b≠c':=fun q=>by rw[q,(br fc.1).1]at e;cases e
    have n2:b≠h'.objs.size:=fun q=>by rw[q,(br ff.1).1]at e;cases e
    rw[hM,af n2,af n1,af hb];exact e)
  exact wpAny_mono (h2 R F _ [_] S3 (.cons (.ref _) .nil)) (fun _ _ ⟨F',_,l,m,i,_,S',q⟩=>⟨F',.next,l,m,i,.next,S',q⟩) fun _ _ e=>e
 | made c' oc hm hc ok=>
  obtain⟨hP,hGP,hB⟩:=tabs _ hm
  refine makeFunction_hit (mg:=W.mg) hcl hg hgs hcode C' hP True.intro (cv:=.ref c') (by simp[codeAmong,rawInt]) hB fun ctv doc h' tk hk hhs=>?_
  have hsz:=S.size_le
  have ff:=S.z.free_of_none (dU hhs)
  obtain⟨fo,hfo⟩:∃ fo,fo=fnMade name qual params body scope clos doc ((W.mg "__name__").getD .none) c' ctv:=⟨_,rfl⟩
  have S1:=S.grow (t:=tk) (d:=s.drawn) (h':=h'.push fo) fun b o e=>Heap.get?_push_of_some _ (hk b o e)
  have S3:=S1.take (a:=h'.objs.size) ff.1 ff.2.1 ff.2.2.1 ff.2.2.2 (ey (Nat.le_trans hsz hhs)) (Heap.get?_push_size _ (by rw[hfo];rfl))
  have off:∀ b x,mem b=some x->b≠h'.objs.size:=fun b x e q=>by rw[q,(br ff.1).1]at e;cases e
  obtain⟨M,hM⟩:∃ M,M=ap mem h'.objs.size (.raw fo):=⟨_,rfl⟩
  rw[<-hM]at S3
  have h2:=h h'.objs.size c' oc doc ((W.mg "__name__").getD .none) ctv M (br ff.1).1 (by rw[hM,mset_self,hfo]) (by rw[hM,af (off _ _ hc)];exact hc) ok
   (.made c' oc (by rw[hM,af (off _ _ hm)];exact hm) (by rw[hM,af (off _ _ hc)];exact hc) ok)
   (fun b x hb e=>by rw[hM,af (off _ _ e)];exact e)
  rw[hfo]at S3
  exact wpAny_mono (h2 R F _ [_] S3 (.cons (.ref _) .nil)) (fun _ _ ⟨F',_,l,m,i,_,S',q⟩=>⟨F',.next,l,m,i,.next,S',q⟩) fun _ _ e=>e
theorem nX{f:Addr}{fo:Obj}{fd:FuncData}(S:Sim W env outer loc mem R F s)(h:mem f=some (.raw fo))(hd:fo.data = .func fd):FnAt f s.heap:=by
 obtain⟨o,ho,q⟩:=S.memOk _ _ h
 cases q.view
 obtain⟨a,b,c,d⟩:=fo
 cases hd
 exact⟨_,_,_,_,ho⟩
theorem c_mem{f:Addr}{fo:Obj}{fd:FuncData}{e:PySem.Expr}{rest:List PySem.Expr}{pos:Pos}{Q:V->Loc->Mem->Prop}(hm:mem f=some (.raw fo))(hd:fo.data = .func fd)(he:starEach (e::rest) env=(false,eval e env)::starEach rest env)(hplain:(backTo pos (starEach rest env)).any (·.1)=false)
  (h:TrL W A env outer (spliced (backTo pos (starEach (e::rest) env))) loc mem (fun xs l m=>m f=some (.raw fo)/\Op W A env outer (VR W) (fun vs=>call (.ref f) vs) xs l m Q E) E) :
  Op W A env outer (VR W) (fun|[f]=>callWith pos f [] (backTo pos (starEach (e::rest) env)) []|_=>pure .none) [.ref f] loc mem Q E:=fun R F s vs S r=>by
 obtain⟨_,_,r1,r2,rfl⟩:=r.isCons
 obtain rfl:=r2.isNil;obtain rfl:=r1.isRef
 refine callWith_F (nX S hm hd) (aM (i:=.refl _) (RW:=VR W) (Q:=fun _ _ _=>True) (h R F s S) fun vs s' F1 xs l1 m1 i1 r1 S1 h1=>⟨nX S1 h1.1 hd,?_⟩) he hplain
 exact wpAny_mono (h1.2 R F1 s' vs S1 r1) (fun _ _ p=>p.weaken i1) fun _ _ e=>E.up i1 e
theorem p7{name qual:Str}{params:Arguments}{body:List Stmt}{scope:Scope}{cl:List (Str×Addr)}{doc pm ctv:Value}{c':Addr}{oc:Obj}{f:Addr}{xs:List V}{bs:List (Str×V)}{Q:V->Loc->Mem->Prop}
  (hm:mem f=some (.raw (fnMade name qual params body scope cl doc pm c' ctv))) (hc:mem c'=some (.raw oc)) (ok:iN qual oc) (hroom:A.depth<recursionLimit)
  (hbind:lW W (fnX name qual params body scope cl .none .none doc pm none (.ref c') ctv) [] xs bs) (hloc:∀ y∈bs,scope.names.lookup y.1=some .local)
  (hcell:∀ x∈scope.names,x.2≠.cell) (hco:scope.isCoroutine=false) (hgen:scope.isGenerator=false) (hk:scope.kind = .function)
  (h:Body W A env outer qual scope body (.ref c') cl f bs.reverse mem (fun v m=>Q v loc m) E):Op W A env outer (VR W) (fun vs=>call (.ref f) vs) xs loc mem Q E:=fun R F s vs S r=>by
 obtain⟨bv,hb,rb⟩:=hbind F s vs S.base S.kin r
 obtain⟨o,ho,q⟩:=S.memOk _ _ hm
 cases q.view
 obtain⟨o2,ho2,q2⟩:=S.memOk _ _ hc
 cases q2.view
 obtain⟨us,t,d1,d2⟩:=ok
 exact wpAny_call (kB S ho rfl ⟨c',oc,us,t,rfl,ho2,d1,d2⟩ hroom hb rb hloc hcell hco hgen hk E (fun _ _ e=>e) (fun F' v v' m' s' i r S' q=>⟨F',v,loc,m',i,r,S',q⟩) h)
end
noncomputable def jF(W:Wd)(o:Obj)(S:Str->Bool)(n:Nat):Prop:=∀ (h:Heap) (a:Addr),h.get? a=some o->h.SetOf (strKind W.prog W.w) a S n
section
variable {W:Wd}{A:Around}{env:Env}{outer:ay}{loc:Loc}{mem R:Mem}{E:Ex W}{F:Frz}{s:Shared}{S:Str->Bool}{n:Nat}
theorem jF.of{h:Heap}{a:Addr}(q:h.SetOf (strKind W.prog W.w) a S n):∃ o,h.get? a=some o/\jF W o S n:=by
 obtain⟨o,es,ep,t,e,r⟩:=q
 exact⟨o,e,fun h' a' e'=>⟨o,es,ep,t,e',r⟩⟩
theorem qg{Q:V->Loc->Mem->Prop}(h:∀ a o m',mem a=none->jF W o (fun _=>false) 0->m' a=some (.raw o)->(∀ b,b≠a->m' b=mem b)->Q (.ref a) loc m'):OpV W A env outer (fun vs=>call (.type "set") vs) [] loc mem Q E:=fun R F s vs S r=>by
 obtain rfl:=r.isNil
 refine call_set_0 fun led=>?_
 refine aE.mk (.ref _) (S.alloc (t:=s.toks) (d:=s.drawn) (x:=.raw _) (aH s.heap) S.size_le (fun b o e=>Heap.get?_push_of_some _ e) (Heap.get?_push_size _ rfl) .raw) (h _ _ _ (S.free (aH s.heap)).1 ?_ (mset_self _ _ _) fun b hb=>af hb)
 intro h a e
 exact⟨_,#[],0,_,e,⟨rfl,rfl,rfl⟩,rfl,fun e he=>by simp at he,fun k=>by simp,by decide,rfl,rfl⟩
theorem in_setB{a:Addr}{o:Obj}{x:Str}{Q:V->Loc->Mem->Prop}(h1:mem a=some (.raw o))(T:jF W o S n)(h:Q (.bool (S x)) loc mem) :
  OpV W A env outer (fun|[x,y]=>compareOp .In x y|_=>pure .none) [.str x,.ref a] loc mem Q E:=op2 fun R F s v u S r1 r2=>by
 obtain⟨_,rfl⟩:=r1.isStr;obtain rfl:=r2.isRef
 obtain⟨o',ho,q⟩:=S.memOk _ _ h1
 cases q.view
 exact wpAny_inSet_of (strKind_is _ _ x _) rfl (T _ _ ho) (aE.mk (.bool _) S.tick h)
theorem nt{a:Addr}{o:Obj}{x:Str}{Q:V->Loc->Mem->Prop}(h1:mem a=some (.raw o))(T:jF W o S n)(h:Q (.bool (!S x)) loc mem) :
  OpV W A env outer (fun|[x,y]=>compareOp .NotIn x y|_=>pure .none) [.str x,.ref a] loc mem Q E:=op2 fun R F s v u S r1 r2=>by
 obtain⟨_,rfl⟩:=r1.isStr;obtain rfl:=r2.isRef
 obtain⟨o',ho,q⟩:=S.memOk _ _ h1
 cases q.view
 exact wpAny_notInSet_of (strKind_is _ _ x _) rfl (T _ _ ho) (aE.mk (.bool _) S.tick h)
theorem pR{a:Addr}{o:Obj}{x:Str}{Q:V->Loc->Mem->Prop}(h1:mem a=some (.raw o))(T:jF W o S n)(hz:n+1<scanBound)
  (h:∀ o' m',jF W o' (fun k=>S k || decide (k=x)) (if S x then n else n+1)->m' a=some (.raw o')->(∀ b,b≠a->m' b=mem b)->Q .none loc m') :
  OpV W A env outer (fun vs=>call (.builtin "set.add") vs) [.ref a,.str x] loc mem Q E:=op2 fun R F s v u S r1 r2=>by
 obtain rfl:=r1.isRef;obtain⟨_,rfl⟩:=r2.isStr
 obtain⟨o',ho,q⟩:=S.memOk _ _ h1
 cases q.view
 refine call_set_add (strKind_is _ _ x _) rfl (T _ _ ho) hz fun h' hsb hS=>?_
 obtain⟨o',e,T'⟩:=jF.of hS
 exact aE.mk .none (S.upd (t:=s.toks+1) (d:=s.drawn) (x':=.raw o') h1 (fun b ob hb e=>(hsb.2 b hb).trans e) e .raw) (h o' _ T' (mset_self _ _ _) fun b hb=>af hb)
theorem nk{a:Addr}{o:Obj}{pl:Sem Bool}{pos:Pos}{e:PySem.Expr}{rest:List PySem.Expr}{Q:V->Loc->Mem->Prop}(h1:mem a=some (.raw o))(T:jF W o S n)
  (he:starEach (e::rest) env=(false,eval e env)::starEach rest env) (hplain:(backTo pos (starEach rest env)).any (·.1)=false)
  (h:TrL W A env outer (spliced (backTo pos (starEach (e::rest) env))) loc mem (fun xs l m=>Op W A env outer (VR W) (fun vs=>call (.builtin "set.add") vs) (.ref a::xs) l m Q E) E) :
  mM W A env outer "add" pl pos (e::rest) (.ref a) loc mem Q E:=fun R F s v' S r=>by
 obtain rfl:=r.isRef
 obtain⟨o',ho,q⟩:=S.memOk _ _ h1
 cases q.view
 have hS:=T _ _ ho
 refine getMethod_builtin hS.typeIs PySem.F.plainAttrs_set PySem.F.slot_set_add PySem.F.type_set_add hS.noDict ?_
 rw[he]
 refine Calls.callWith_builtin (by show(false || (backTo pos (starEach rest env)).any (·.1))=false;rw[hplain];rfl) (Calls.evalArgs_plain ?_)
 have h':=h R F s S
 rw[he]at h'
 refine aM (i:=.refl _) (RW:=VR W) (Q:=fun _ _ _=>True) h' fun vs s' F1 xs l1 m1 i1 r1 S1 h1=>?_
 exact wpAny_mono (h1 R F1 s' (.ref a::vs) S1 (.cons (.ref a) r1)) (fun _ _ p=>p.weaken i1) fun _ _ e=>E.up i1 e
end
inductive Rch(P:List Pr):Str->Str->Prop
 | refl (s:Str):Rch P s s
 | step {s y z:Str} {p:Pr}:p∈P->p.name=s->y∈p.body->Rch P y z->Rch P s z
structure gK(P:List Pr)(s:Str)(S S':Str->Bool):Prop where
 sub:∀ x,S x=true->S' x=true
 has:S' s=true
 snd:∀ x,S' x=true->S x=true\/Rch P s x
 cl:∀ x,S' x=true->S x=true\/∀ p∈P,p.name=x->∀ y∈p.body,S' y=true
structure MI(P:List Pr)(s:Str)(S T:Str->Bool):Prop where
 sub:∀ x,S x=true->T x=true
 snd:∀ x,T x=true->S x=true\/Rch P s x
 cl:∀ x,T x=true->S x=true\/∀ p∈P,p.name=x->∀ y∈p.body,T y=true
theorem MI.step{P:List Pr}{s y:Str}{S T T':Str->Bool}{p:Pr}(h:MI P s S T)(hp:p∈P)(hn:p.name=s)(hy:y∈p.body)(k:gK P y T T'):MI P s S T' where
 sub x e:=k.sub x (h.sub x e)
 snd x e:=(k.snd x e).elim (fun e=>h.snd x e) fun r=>.inr (.step hp hn hy r)
 cl x e:=(k.cl x e).elim (fun e=>(h.cl x e).imp id fun r p hp hn y hy=>k.sub y (r p hp hn y hy)) .inr
noncomputable def eI(S:Str->Bool)(x:Str):Str->Bool:=fun k=>S k || decide (k=x)
theorem MI.fin{P:List Pr}{s:Str}{S T:Str->Bool}(h:MI P s (eI S s) T)(hd:∀ p∈P,p.name=s->∀ y∈p.body,T y=true):gK P s S T:=by
 have hs:∀ x,eI S s x=true->S x=true\/x=s:=fun x e=>by unfold eI at e;simpa using e
 refine⟨fun x e=>h.sub x (by unfold eI;rw[e];rfl),h.sub s (by unfold eI;simp),fun x e=>?_,fun x e=>?_⟩
 ·rcases h.snd x e with q|q
  ·rcases hs x q with q|rfl
   ·exact .inl q
   ·exact .inr (.refl _)
  ·exact .inr q
 ·rcases h.cl x e with q|q
  ·rcases hs x q with q|rfl
   ·exact .inl q
   ·exact .inr hd
  ·exact .inr q
theorem pq{P:List Pr}{s:Str}{T:Str->Bool}(k:gK P s (fun _=>false) T)(x:Str):T x=true↔Rch P s x:=by
 refine⟨fun e=>(k.snd x e).elim (fun e=>nomatch e) id,fun r=>?_⟩
 have:∀ a b,Rch P a b->T a=true->T b=true:=fun a b r=>by
  induction r with
  | refl=>exact id
  | step hp hn hy _ ih=>exact fun e=>ih ((k.cl _ e).elim (fun e=>nomatch e) fun q=>q _ hp hn _ hy)
 exact this s x r k.has
noncomputable def fh(U:List Str)(S:Str->Bool):Nat:=(U.filter fun x=>!S x).length
theorem k8{U:List Str}{S T:Str->Bool}(h:∀ x,S x=true->T x=true):fh U T≤fh U S:=by
 unfold fh
 induction U with
 | nil=>exact Nat.le_refl _
 | cons a U ih=>
  rw[List.filter_cons,List.filter_cons]
  cases e1:S a with
  | true=>rw[h a e1];exact ih
  | false=>
   cases T a with
   | true=>simp only [Bool.not_true,Bool.not_false,if_true,List.length_cons];exact Nat.le_succ_of_le ih
   | false=>simp only [Bool.not_false,if_true,List.length_cons];exact Nat.succ_le_succ ih
theorem jP{U:List Str}{S:Str->Bool}{x:Str}(hx:x∈U)(hn:S x=false):fh U (eI S x)<fh U S:=by
 have le:=fun U:List Str=>k8 (U:=U) (S:=S) (T:=eI S x) fun y e=>by unfold eI;rw[e];rfl
 unfold fh at le ⊢
 induction U with
 | nil=>cases hx
 | cons a U ih=>
  rw[List.filter_cons,List.filter_cons]
  by_cases e:a=x
  ·subst e
   have e1:eI S a a=true:=by unfold eI;simp
   rw[e1,hn]
   simp only [Bool.not_true,Bool.not_false,if_true,List.length_cons]
   exact Nat.lt_succ_of_le (le U)
  ·have:=ih ((List.mem_cons.mp hx).resolve_left (Ne.symm e))
   have e1:eI S x a=S a:=by unfold eI;rw[decide_eq_false e,Bool.or_false]
   rw[e1]
   cases S a with
   | true=>exact this
   | false=>simp only [Bool.not_false,if_true,List.length_cons];exact Nat.succ_lt_succ this
noncomputable def d6:Str:="mark_reachable_from"
noncomputable def bZ:Str:="Grammar.find_unreachable.<locals>.mark_reachable_from"
noncomputable def fb:Stmt:=ai gUnreach.body 0
noncomputable abbrev cL:Addr:=176
section
variable {W:Wd}{A:Around}{env:Env}{outer:ay}{loc:Loc}{mem:Mem}{E:Ex W}{adr:Rl->Addr}{g:GR}
theorem s_ret0{pos:Pos}{Q:Fl->Loc->Mem->Prop}(h:Q (.ret .none) loc mem):TrS W A env outer (exec (.Return none pos) env) loc mem Q E:=fun R F s S=>wpAny_Return_none (aE.mk (.ret .none) S h)
structure Mk(adr:Rl->Addr)(g:GR)(L f c' ra:Addr)(doc pm ctv:Value)(oc:Obj)(m:Mem):Prop where
 rd:Rd adr g m
 hS:m (L+1)=some (.cell (some (.ref (adr .self))))
 hM:m (L+2)=some (.cell (some (.ref f)))
 hR:m (L+3)=some (.cell (some (.ref ra)))
 hf:m f=some (.raw (fnMade d6 bZ (aA fb) (ag fb) (av fb) [("self",L+1),("reachable",L+3),(d6,L+2)] doc pm c' ctv))
 hc:m c'=some (.raw oc)
 ok:iN bZ oc
 ne1:f≠ra
 ne2:c'≠ra
noncomputable def Off(ra:Addr)(m m':Mem):Prop:=∀ b x,b≠ra->m b=some x->m' b=some x
theorem Off.trans{ra:Addr}{m m' m'':Mem}(h:Off ra m m')(k:Off ra m' m''):Off ra m m'':=fun b x n e=>k b x n (h b x n e)
theorem Off.sub{ra:Addr}{m m':Mem}(h:Sub m m'):Off ra m m':=fun b x _ e=>h b x e
theorem Off.one{ra:Addr}{m m':Mem}(h:∀ b,b≠ra->m' b=m b):Off ra m m':=fun b x n e=>(h b n).trans e
theorem Rd.off{ra:Addr}{o:Obj}{m m':Mem}(r:Rd adr g m)(hr:m ra=some (.raw o))(s:Off ra m m'):Rd adr g m' where
 self:=s _ _ (nex r.self hr) r.self
 dict:=let ⟨ep,h⟩:=r.dict;⟨ep,s _ _ (nex h hr) h⟩
 pl:=s _ _ (nex r.pl hr) r.pl
 pn:=let ⟨ep,h⟩:=r.pn;⟨ep,s _ _ (nex h hr) h⟩
 pnL k hk:=s _ _ (nex (r.pnL k hk) hr) (r.pnL k hk)
 te:=let ⟨ep,h⟩:=r.te;⟨ep,s _ _ (nex h hr) h⟩
 teL k ns e:=s _ _ (nex (r.teL k ns e) hr) (r.teL k ns e)
 no:=let ⟨ep,h⟩:=r.no;⟨ep,s _ _ (nex h hr) h⟩
 noL k ns e:=s _ _ (nex (r.noL k ns e) hr) (r.noL k ns e)
theorem Mk.off{L f c' ra:Addr}{doc pm ctv:Value}{oc:Obj}{m m':Mem}{o:Obj}(h:Mk adr g L f c' ra doc pm ctv oc m)(hr:m ra=some (.raw o))(s:Off ra m m'):Mk adr g L f c' ra doc pm ctv oc m' where
 rd:=h.rd.off hr s
 hS:=s _ _ (nex h.hS hr) h.hS
 hM:=s _ _ (nex h.hM hr) h.hM
 hR:=s _ _ (nex h.hR hr) h.hR
 hf:=s _ _ h.ne1 h.hf
 hc:=s _ _ h.ne2 h.hc
 ok:=h.ok
 ne1:=h.ne1
 ne2:=h.ne2
structure UWf(g:GR)(U:List Str):Prop where
 syms:∀ p∈g.prods,∀ y∈p.body,y∈U
 pn:∀ p∈g.prods,p.name∈g.pn
 blen:∀ p∈g.prods,p.body.length≤100
inductive RS(W:Wd)(U:List Str)(ra:Addr)(T:Str->Bool)(m:Mem):Prop
 | mk (o:Obj) (k:Nat) (h1_:m ra=some (.raw o)) (h2_:jF W o T k) (h3_:k+fh U T≤1000)
inductive MJ(W:Wd)(adr:Rl->Addr)(g:GR)(U:List Str)(L f c' ra:Addr)(doc pm ctv:Value)(oc:Obj)(s:Str)(S1:Str->Bool)(m0:Mem)(done:List Pr)(l:Loc)(m:Mem):Prop
 | mk (h1_:a7 [("s",.str s)] l) (T:Str->Bool) (h2_:Mk adr g L f c' ra doc pm ctv oc m) (h3_:RS W U ra T m) (h4_:MI g.prods s S1 T) (h5_:∀ p∈done,∀ y∈p.body,T y=true) (h6_:Off ra m0 m)
inductive MJ2(W:Wd)(adr:Rl->Addr)(g:GR)(U:List Str)(L f c' ra:Addr)(doc pm ctv:Value)(oc:Obj)(s:Str)(S1:Str->Bool)(m0:Mem)(done:List Pr)(dn:List Str)(l:Loc)(m:Mem):Prop
 | mk (h1_:a7 [("s",.str s)] l) (T:Str->Bool) (h2_:Mk adr g L f c' ra doc pm ctv oc m) (h3_:RS W U ra T m) (h4_:MI g.prods s S1 T) (h5_:∀ p∈done,∀ y∈p.body,T y=true) (h6_:Off ra m0 m) (h7_:∀ y∈dn,T y=true)
theorem jT{U:List Str}{D u:Nat}{S:Str->Bool}{s:Str}{m0:Mem}{Q:V->Loc->Mem->Prop}(hK:W.K=hdK W.w.params)(w:UWf g U){L f c' ra:Addr}{doc pm ctv:Value}{oc:Obj}
  (c:aU A D u) (hD:D≤900) (hu:u≤8000) (k:Mk adr g L f c' ra doc pm ctv oc m0) (rs:RS W U ra S m0) (hs:s∈U)
  (rec:S s=false->∀ {A:Around} {env:Env} {outer:ay} {loc:Loc} {m:Mem} {E:Ex W} {T:Str->Bool} {y:Str} {Q:V->Loc->Mem->Prop},aU A (D+1) (u+3)->Mk adr g L f c' ra doc pm ctv oc m->RS W U ra T m->y∈U->fh U T<fh U S->
   (∀ m' T',Off ra m m'->Mk adr g L f c' ra doc pm ctv oc m'->RS W U ra T' m'->gK g.prods y T T'->Q .none loc m')->OpV W A env outer (fun vs=>call (.ref f) vs) [.str y] loc m Q E)
  (h:∀ m' T,Off ra m0 m'->Mk adr g L f c' ra doc pm ctv oc m'->RS W U ra T m'->gK g.prods s S T->Q .none loc m'):OpV W A env outer (fun vs=>call (.ref f) vs) [.str s] loc m0 Q E:=by
 refine p7 (bs:=[("s",.str s)]) k.hf k.hc k.ok (Nat.lt_of_le_of_lt c.depth (Nat.lt_of_le_of_lt hD (by decide))) ?_ (by intro y hy;simp at hy;rcases hy with rfl;rfl) (by decide) rfl rfl rfl ?_
 ·intro F s vs hb hk r
  obtain⟨_,_,r1,r2,rfl⟩:=r.isCons
  obtain rfl:=r2.isNil
  exact⟨_,BindsTo.of_eq rfl,.cons r1 .nil⟩
 ·intro L' outer
  have cd:=c.deeper (envX bZ (av fb) L' f (.ref c') [("self",L+1),("reachable",L+3),(d6,L+2)])
  obtain⟨o,kk,ho,T0,hkz⟩:=rs
  have hR:=k.hR
  have hS:=k.hS
  have hM:=k.hM
  (refine bU ?_;intro aa vv oo qq ee;refine ac ?_);refine bz ?_;refine bD rfl rfl ?_;refine kj rfl rfl rfl rfl rfl (by first|assumption|simp[mset_self]) ?_
  refine in_setB ho T0 ?_
  refine aj ?_
  refine⟨fun hb=>?_,fun hb=>?_⟩
  ·(refine aC ?_;intro qq ee;refine ac ?_)
   refine s_ret0 ?_
   refine⟨m0,ah _,h m0 S (Off.sub (ah _)) k ⟨o,kk,ho,T0,hkz⟩ ⟨fun _ e=>e,hb,fun _ e=>.inl e,fun _ e=>.inl e⟩⟩
  ·refine ak ?_;refine ac ?_;refine bP rfl rfl ?_;refine cT rfl ?_;refine kj rfl rfl rfl rfl rfl (by first|assumption|simp[mset_self]) ?_
   refine nk ho T0 rfl rfl ?_
   refine aN rfl ?_
   refine pR ho T0 (Nat.lt_of_le_of_lt (show kk+1≤1001 by lia) (by decide)) (fun o1 m1 T1 h1 f1=>?_)
   rw[hb,if_neg Bool.false_ne_true]at T1
   have o1m:Off ra m0 m1:=Off.one f1
   have k1:=k.off ho o1m
   have hlt:=jP hs hb
   have rs1:RS W U ra (eI S s) m1:=⟨o1,kk+1,h1,T1,by lia⟩
   have hS1:=k1.hS
   have hx:=k1.rd.self
   obtain⟨epd,hd⟩:=k1.rd.dict
   obtain⟨epn,hpn⟩:=k1.rd.pn
   refine ac ?_;refine dj (fun _=>rfl) ?_;refine cT rfl ?_;refine gU rfl ?_;refine kj rfl rfl rfl rfl rfl (by first|assumption|simp[mset_self]) ?_
   refine aP hK (fun _=>by kernel_rfl) (.own hx hd) rfl rfl ?_
   skip
   refine a6 (.dict hpn) PySem.F.plainAttrs_dict PySem.F.slot_dict_get (by show builtinType _=_;rw[builtinType_eq_fast];kernel_rfl) rfl rfl ?_
   refine fe rfl ?_;refine aB rfl ?_;refine aW ?_;refine aI ?_
   refine bp (show 0≤sizeLine by decide) ?_
   refine aI ?_
   refine jK hpn ?_
   rw[el (fun k=>V.ref (adr (.pnL k)))]
   have J0:MJ W adr g U L f c' ra doc pm ctv oc s (eI S s) m0 [] [("s",.str s)] m1:=⟨rfl,eI S s,k1,rs1,⟨fun _ e=>e,fun _ e=>.inl e,fun _ e=>.inl e⟩,(fun p hp=>nomatch hp),o1m⟩
   have fin:∀ (l:Loc) (m':Mem),MJ W adr g U L f c' ra doc pm ctv oc s (eI S s) m0 (g.prods.filter fun p=>p.name=s) l m'->TrS W aa vv oo (execs [] vv) l m' (Cont W aa vv oo [] qq ee) (di W aa vv ee):=fun l m' J=>by
    obtain⟨hl,T,k2,rs2,mi,hd,hoff⟩:=J
    refine ak ?_;refine ak ?_
    exact⟨m',ah _,h m' T hoff k2 rs2 (mi.fin fun p hp hn y hy=>hd p (List.mem_filter.mpr ⟨hp,decide_eq_true hn⟩) y hy)⟩
   by_cases hin:s∈g.pn
   ·rw[if_pos hin]
    show pA W aa vv oo _ _ _ (.ref (adr (.pnL s))) _ _ _ _
    have hpl:=k1.rd.pnL s hin
    refine bV (ys:=g.prods.filter fun p=>p.name=s) (fun _=>pV aq) (dt cd.handled hpl) (fun i=>MJ W adr g U L f c' ra doc pm ctv oc s (eI S s) m0 ((g.prods.filter fun p=>p.name=s).take i)) (fun i l m hi J=>?_) (fun l m J=>?_) (fun i p l m hy J=>?_) (by rw[List.take_zero];exact J0)
    ·obtain⟨_,_,k2,_⟩:=J
     exact eZ (k2.rd.pnL s hin)
    ·rw[List.take_length]at J
     exact fin l m J
    ·obtain⟨hl,T,k2,rs2,mi,hd,hoff⟩:=J
     obtain⟨hpP,hpn'⟩:=List.mem_filter.mp (List.mem_of_getElem? hy)
     have hpn':=of_decide_eq_true hpn'
     have hst:=aK hy
     refine Op.locs hl ?_
     refine am rfl rfl ?_;(refine aC ?_;intro qq ee;refine ac ?_);refine dj (fun _=>rfl) ?_;refine az rfl rfl ?_
     refine aP hK (fun _=>by kernel_rfl) .frz rfl rfl ?_
     skip
     refine bV (ys:=p.body) (fun _=>V.str) (fH cd.handled) (fun j=>MJ2 W adr g U L f c' ra doc pm ctv oc s (eI S s) m0 ((g.prods.filter fun p=>p.name=s).take i) (p.body.take j)) (fun j l m hj J=>?_) (fun l m J=>?_) (fun j y l m hy J=>?_) ⟨rfl,T,k2,rs2,mi,hd,hoff,fun y hy=>nomatch hy⟩
     ·show some ((ae p.body)[j]?)=_
      unfold ae;rw[List.getElem?_map]
     ·obtain⟨hl,T,k2,rs2,mi,hd,hoff,hy⟩:=J
      rw[List.take_length]at hy
      refine ak ?_;refine ak ?_
      refine⟨hl,T,k2,rs2,mi,fun q hq=>?_,hoff⟩
      rw[hst]at hq
      rcases List.mem_append.mp hq with hq|hq
      ·exact hd q hq
      ·rw[List.mem_singleton]at hq;rw[hq];exact hy
     ·obtain⟨hl,T,k2,rs2,mi,hd,hoff,hdn⟩:=J
      have hyb:y∈p.body:=List.mem_of_getElem? hy
      refine Op.locs hl ?_
      have hM2:=k2.hM
      refine am rfl rfl ?_;(refine aC ?_;intro qq ee;refine ac ?_);refine bP rfl rfl ?_;refine eT rfl ?_;refine kj rfl rfl rfl rfl rfl (by first|assumption|simp[mset_self]) ?_
      refine c_mem k2.hf rfl rfl rfl ?_
      refine aN rfl ?_
      refine⟨k2.hf,?_⟩
      obtain⟨o2,kk2,ho2,T2,hkz2⟩:=id rs2
      refine rec hb (cd.mono (Nat.le_refl _) (Nat.le_refl _)) k2 rs2 (w.syms p hpP y hyb) (Nat.lt_of_le_of_lt (k8 mi.sub) hlt) (fun m' T' off k' rs' mk=>?_)
      refine ak ?_
      refine⟨rfl,T',k',rs',mi.step hpP hpn' hyb mk,(fun q hq z hz=>mk.sub z (hd q hq z hz)),hoff.trans off,fun z hz=>?_⟩
      rw[aK hy]at hz
      rcases List.mem_append.mp hz with hz|hz
      ·exact mk.sub z (hdn z hz)
      ·rw[List.mem_singleton]at hz;rw[hz];exact mk.has
   ·rw[if_neg hin]
    show pA W aa vv oo _ _ _ (.lst []) _ _ _ _
    have hno:(g.prods.filter fun p=>p.name=s)=[]:=by
     rw[List.filter_eq_nil_iff]
     intro p hp q
     exact hin (of_decide_eq_true q▸w.pn p hp)
    rw[hno]at fin
    refine bV (ys:=([]:List Pr)) (fun _=>pV aq) (cb cd.handled) (fun i=>MJ W adr g U L f c' ra doc pm ctv oc s (eI S s) m0 []) (fun i l m hi J=>?_) (fun l m J=>fin l m J) (fun i p l m hy J=>(by simp at hy)) J0
    show some (([]:List V)[i]?)=_
    simp
theorem oX{U:List Str}(hK:W.K=hdK W.w.params)(w:UWf g U){L f c' ra:Addr}{doc pm ctv:Value}{oc:Obj}:∀ (n:Nat) {A:Around} {env:Env} {outer:ay} {loc:Loc} {m:Mem} {E:Ex W} {S:Str->Bool} {s:Str} {Q:V->Loc->Mem->Prop},
  n≤200->aU A (900 - n) (8000 - 10*n)->Mk adr g L f c' ra doc pm ctv oc m->RS W U ra S m->s∈U->fh U S≤n->
  (∀ m' T,Off ra m m'->Mk adr g L f c' ra doc pm ctv oc m'->RS W U ra T m'->gK g.prods s S T->Q .none loc m')->OpV W A env outer (fun vs=>call (.ref f) vs) [.str s] loc m Q E:=by
 intro n
 induction n with
 | zero=>
  intro A env outer loc m E S s Q hn c k rs hs hl h
  exact jT hK w c (by decide) (by decide) k rs hs (fun hb=>absurd (jP hs hb) (by lia)) h
 | succ n ih=>
  intro A env outer loc m E S s Q hn c k rs hs hl h
  refine jT hK w c (by lia) (by lia) k rs hs (fun hb=>?_) h
  intro A env outer loc m E T y Q c k rs hy hlt h
  exact ih (by lia) (c.mono (by lia) (by lia)) k rs hy (by lia) h
end
theorem p5(K:Frag)(P:Params)(e:K=aS P):∀ h:Heap,K.In h->CodeHd h 178 cL:=fun h X=>by
 subst e
 exact⟨_,_,_,_,_,_,_,_,_,X 178 _ (by rfl),rfl,rfl,rfl,rfl,rfl,rfl,rfl,rfl,by decide⟩
noncomputable def dB:Pos:=⟨157,8,163,42⟩
theorem unClos(L:Addr):closureFor (av fb) (ji "Grammar.find_unreachable" gUnreach.scope L 179 gUnreach.code)=pure [(("self" : Str),L+1),("reachable",L+3),(d6,L+2)]:=by
 kernel_rfl
theorem unQual(L:Addr):qualnameIn (ji "Grammar.find_unreachable" gUnreach.scope L 179 gUnreach.code) d6 d6=bZ:=by kernel_rfl
section
variable {W:Wd}{A:Around}{env:Env}{outer:ay}{loc:Loc}{mem:Mem}{E:Ex W}{adr:Rl->Addr}{g:GR}
theorem bR.mono{P:Addr}{pos:Pos}{qual:Str}{m m':Mem}(T:bR P pos qual m)(h:∀ b o,m b=some (.raw o)->m' b=some (.raw o)):bR P pos qual m':=by
 cases T with
 | fresh a=>exact .fresh (h _ _ a)
 | made c' oc a b d=>exact .made c' oc (h _ _ a) (h _ _ b) d
theorem s_cell4{x:Str}{c:Addr}{u:Option V}{v:V}{Q:Loc->Mem->Prop}{hk:env.scope.kind = .function}{hl:env.kindOf x=some .cell}{hc:env.cells.lookup x=some c}(hm:mem c=some (.cell u))
  (h:∀ m',m' c=some (.cell (some v))->(∀ b,b≠c->m' b=mem b)->Q loc m') :
  Op W A env outer (fun _ (_ _:Unit)=>True) (fun|[y]=>storeName env x y|_=>pure ()) [v] loc mem (fun _=>Q) E:=iz hk hl hc hm (h _ (mset_self _ _ _) fun b hb=>af hb)
theorem kM{U:List Str}{q0:Pr}{st:Str}{Q:V->Loc->Mem->Prop}(hK:W.K=hdK W.w.params)(B:jC W)(c:aU A 600 5000)(r:Rd adr g mem)(w:UWf g U)(h0:g.p0=pV aq q0)(hb0:q0.body=[st])(hst:st∈U)(hU:U.length≤150)(hnz:g.no.length≤100)
  (T0:bR cL dB bZ mem)
  (h:∀ (T:Str->Bool) m',(∀ x,T x=true↔Rch g.prods st x)->Off cL mem m'->bR cL dB bZ m'->Q (.lst (ae ((g.no.map (·.1)).filter fun x=>!T x))) loc m'):OpV W A env outer (fun vs=>call (.ref 179) vs) [.ref (adr .self)] loc mem Q E:=by
 refine iV (bs:=[("self",.ref (adr .self))]) (by rw[hK];exact gUnreach.at _) (by rw[hK];first|rfl|kernel_rfl|decide +kernel) (c.room (by decide)) ?_ rfl rfl rfl ?_ ?_ ?_
 ·intro F vs r
  obtain⟨_,_,r1,r2,rfl⟩:=r.isCons
  obtain rfl:=r2.isNil
  exact⟨_,rfl,.cons r1 .nil⟩
 ·intro x hx
  simp at hx
  subst hx
  exact .inr ⟨rfl,fun n=>rfl⟩
 ·intro k p hp
  have:cellsFrom k gUnreach.scope.names []=[(("reachable" : Str),k+2),(d6,k+1),(("self" : Str),k)]:=rfl
  rw[this]at hp ⊢
  simp only [List.mem_cons,List.not_mem_nil,or_false]at hp
  rcases hp with rfl|rfl|rfl<;>rfl
 ·intro L m0 hc hL
  have cd:=c.deeper (ji "Grammar.find_unreachable" gUnreach.scope L 179 gUnreach.code)
  have hc1:mem (L+1)=none:=hc ("self",L+1) (.tail _ (.tail _ (.head _)))
  have hc2:mem (L+2)=none:=hc (d6,L+2) (.tail _ (.head _))
  have hc3:mem (L+3)=none:=hc ("reachable",L+3) (.head _)
  have ecell:gk (fun n=>List.lookup n (ia (fun n=>List.lookup n gUnreach.scope.names) [("self",V.ref (adr .self))])) (cellsFrom (L+1) gUnreach.scope.names []) mem=ap (ap (ap mem (L+1) (.cell (some (.ref (adr .self))))) (L+2) (.cell none)) (L+3) (.cell none):=by
   show gk _ [(("reachable" : Str),L+1+2),(d6,L+1+1),(("self" : Str),L+1)] mem=_
   rfl
  rw[ecell]
  obtain⟨M0,hM0⟩:∃ M0,M0=ap (ap (ap mem (L+1) (.cell (some (.ref (adr .self))))) (L+2) (.cell none)) (L+3) (.cell none):=⟨_,rfl⟩
  have n12:L+1≠L+2:=Nat.ne_of_lt (by lia)
  have n13:L+1≠L+3:=Nat.ne_of_lt (by lia)
  have n23:L+2≠L+3:=Nat.ne_of_lt (by lia)
  have hS0:M0 (L+1)=some (.cell (some (.ref (adr .self)))):=by rw[hM0,af n13,af n12,mset_self]
  have hM0':M0 (L+2)=some (.cell none):=by rw[hM0,af n23,mset_self]
  have hR0:M0 (L+3)=some (.cell none):=by rw[hM0,mset_self]
  have s0:Sub mem M0:=fun b x e=>by rw[hM0,af (nex e hc3),af (nex e hc2),af (nex e hc1)];exact e
  have T1:=T0.mono (m':=M0) fun b o e=>s0 _ _ e
  rw[<-hM0]
  clear hM0 ecell
  refine ac ?_
  refine s_def (name:=d6) (params:=aA fb) (body:=ag fb) (scope:=av fb) (pos:=dB) (c:=178) (P:=cL) (qual:=bZ) rfl rfl rfl (unQual L) (unClos L) rfl rfl (p5 _ _ hK) B T1 (fun f c' oc doc pm ctv m1 hf0 hf hc' ok T2 off1=>?_)
  have hTm:∃ ps,mem cL=some (.raw (tabObj ps)):=by
   cases T0 with
   | fresh a=>exact⟨_,a⟩
   | made c' oc a b d=>exact⟨_,a⟩
  obtain⟨ps,hTm⟩:=hTm
  have hTm0:=s0 _ _ hTm
  have hS1:=off1 _ _ (nex hS0 hTm0) hS0
  have hM1:=off1 _ _ (nex hM0' hTm0) hM0'
  have hR1:=off1 _ _ (nex hR0 hTm0) hR0
  have off01:Off cL mem m1:=(Off.sub s0).trans off1
  refine iz rfl rfl rfl hM1 ?_
  obtain⟨M2,hM2⟩:∃ M2,M2=ap m1 (L+2) (.cell (some (.ref f))):=⟨_,rfl⟩
  rw[<-hM2]
  have f2:∀ b,b≠L+2->M2 b=m1 b:=fun b hb=>by rw[hM2,af hb]
  have hM2':M2 (L+2)=some (.cell (some (.ref f))):=by rw[hM2,mset_self]
  clear hM2
  have hS2:M2 (L+1)=_:=(f2 _ n12).trans hS1
  have hR2:M2 (L+3)=_:=(f2 _ (Ne.symm n23)).trans hR1
  have hf2:M2 f=_:=(f2 _ (nex hf hM1)).trans hf
  have hc2':M2 c'=_:=(f2 _ (nex hc' hM1)).trans hc'
  have T2':=T2.mono (m':=M2) fun b o e=>(f2 _ (nex e hM1)).trans e
  have off02:Off cL mem M2:=fun b x hb e=>(f2 _ (nex e hc2)).trans (off01 b x hb e)
  (refine bU ?_;intro aa vv oo qq ee;refine ac ?_);refine c7 rfl ?_;refine eT rfl ?_;refine iq hK (fun _=>rfl) ?_;refine nY ?_
  refine qg (fun ra o m3 hra T3 h3 f3=>?_)
  have s3:Sub M2 m3:=Sub.new (ah _) hra f3
  have hR3:=s3 _ _ hR2
  refine s_cell4 (hk:=rfl) (hl:=rfl) (hc:=rfl) hR3 (fun M4 hR4 f4=>?_)
  have hS4:M4 (L+1)=_:=(f4 _ n13).trans (s3 _ _ hS2)
  have hM4:M4 (L+2)=_:=(f4 _ n23).trans (s3 _ _ hM2')
  have hf4:M4 f=_:=(f4 _ (nex hf2 hR2)).trans (s3 _ _ hf2)
  have hc4:M4 c'=_:=(f4 _ (nex hc2' hR2)).trans (s3 _ _ hc2')
  have h4:M4 ra=_:=(f4 _ (nex h3 hR3)).trans h3
  have off04:Off cL mem M4:=fun b x hb e=>(f4 _ (nex e hc3)).trans (s3 _ _ (off02 b x hb e))
  have r4:=r.off hTm off04
  have nf:f≠ra:=fun e=>by rw[e,hra]at hf2;cases hf2
  have nc:c'≠ra:=fun e=>by rw[e,hra]at hc2';cases hc2'
  have k4:Mk adr g L f c' ra doc pm ctv oc M4:=⟨r4,hS4,hM4,hR4,hf4,hc4,ok,nf,nc⟩
  have hx:=r4.self
  obtain⟨epd,hd⟩:=r4.dict
  have hp:=r4.pl
  refine ac ?_;refine bP rfl rfl ?_;refine eT rfl ?_;refine aX rfl rfl rfl rfl (by first|assumption|simp[mset_self]) ?_
  refine c_mem hf4 rfl rfl rfl ?_
  refine aB rfl ?_;refine cN (fun _ _=>rfl) ?_;refine gU rfl ?_;refine cN (fun _ _=>rfl) ?_;refine gU rfl ?_;refine aX rfl rfl rfl rfl (by first|assumption|simp[mset_self]) ?_
  refine aP hK (fun _=>by kernel_rfl) (.own hx hd) rfl rfl ?_
  refine bI ?_
  refine cu (k:=0) (x:=pV aq q0) (.own hp) (by decide) (by decide) (by rw[h0];rfl) ?_
  skip
  refine aP hK (fun _=>by kernel_rfl) .frz rfl rfl ?_
  refine bI ?_
  refine cu (k:=0) (x:=.str st) (.tup _) (by decide) (by decide) (by rw[hb0];rfl) ?_
  refine aI ?_
  refine⟨hf4,?_⟩
  refine oX hK w 150 (by decide) (cd.mono (by decide) (by decide)) k4 ⟨o,0,h4,T3,?_⟩ hst ?_ (fun m5 T off5 k5 rs5 mk=>?_)
  ·have:fh U (fun _=>false)≤U.length:=List.length_filter_le _ _
   lia
  ·exact Nat.le_trans (List.length_filter_le _ _) hU
  obtain⟨o5,kk5,h5,T5,_⟩:=rs5
  have off05:∀ b x,b≠cL->mem b=some x->m5 b=some x:=fun b x hb e=>by
   have hbr:b≠ra:=fun q=>by have:=off02 b x hb e;rw[q,hra]at this;cases this
   exact off5 b x hbr (off04 b x hb e)
  have raw5:∀ b o,M2 b=some (.raw o)->m5 b=some (.raw o):=fun b o e=>by
   have hbr:b≠ra:=fun q=>by rw[q,hra]at e;cases e
   exact off5 b _ hbr ((f4 _ (nex e hR2)).trans (s3 _ _ e))
  have T5':=T2'.mono raw5
  have hS5:=k5.hS
  have hR5:=k5.hR
  have hx5:=k5.rd.self
  obtain⟨epd5,hd5⟩:=k5.rd.dict
  obtain⟨epn5,hn5⟩:=k5.rd.no
  refine ac ?_
  refine c6 (Tr.shift ?_)
  refine bd rfl (by decide) rfl (by decide) (fun _=>rfl) ?_;refine gU rfl ?_;refine aX rfl rfl rfl rfl (by first|assumption|simp[mset_self]) ?_
  refine aP hK (fun _=>by kernel_rfl) (.own hx5 hd5) rfl rfl ?_
  skip
  refine bj (iJ cd.handled hn5) (ae (g.no.map (·.1))) (fun m i hs hi=>?_) (by rw[aG,List.length_map];exact Nat.le_trans hnz (by decide)) (fun v=>match v with|.str x=>if !T x then some (.str x) else none|_=>none) ?_ ?_
  ·rw[gb (hs _ _ hn5) rfl,List.getElem?_map];unfold ae;rw[List.getElem?_map,List.getElem?_map,Option.map_map,Option.map_map];rfl
  ·intro C outer' i v hv
   obtain⟨x,hx',rfl⟩:=inM (List.mem_of_getElem? hv)
   refine am rfl rfl ?_;refine bD rfl rfl ?_;refine aX rfl rfl rfl rfl (by first|assumption|simp[mset_self]) ?_
   refine nt h5 T5 ?_
   refine aj ?_
   refine⟨fun hb=>?_,fun hb=>?_⟩
   ·refine pu rfl ?_
    exact⟨by show _=if (!T x)=true then _ else _;rw[if_pos hb],ah _⟩
   ·exact⟨by show _=if (!T x)=true then _ else _;rw[if_neg (by rw[hb];exact Bool.false_ne_true)],ah _⟩
  ·intro ul hul
   have e1:(ae (g.no.map (·.1))).filterMap (fun v=>match v with|.str x=>if !T x then some (V.str x) else none|_=>none)=ae ((g.no.map (·.1)).filter fun x=>!T x):=by
    generalize g.no.map (·.1)=l
    induction l with
    | nil=>rfl
    | cons x l ih=>
     show List.filterMap _ (V.str x::ae l)=_
     rw[List.filterMap_cons,List.filter_cons]
     cases q:T x with
     | true=>simpa [q] using ih
     | false=>simp only [q,Bool.not_false,if_true];exact congrArg (V.str x::·) ih
   rw[e1]
   refine⟨_,m5,b8.lst (mset_self _ _ _) (aL hul (ah _)) hul,?_⟩
   exact⟨m5,ah _,h T m5 (pq mk) off05 T5'⟩
end
noncomputable def pLen.body:List Stmt:=ag (ai (ag (ai pw.main.body 6)) 5)
noncomputable def pLen.scope:Scope:=av (ai (ag (ai pw.main.body 6)) 5)
noncomputable def pLen.params:Arguments:=aA (ai (ag (ai pw.main.body 6)) 5)
noncomputable def pLen.code:Value:=(Value.ref 82)
theorem pLen.at(P:Params):List.lookup 83 (aS P)=some (Obj.mk (Value.type "function") none (Data.func (fnOf (Str.ofString "__len__") (Str.ofString "Production.__len__") pLen.params pLen.body pLen.scope (Value.none) (Value.none) (Value.none) (Value.str (Str.ofString "ply.yacc") 194) (none) pLen.code (Value.none))) #[]):=by kernel_rfl
section
variable {W:Wd}{A:Around}{env:Env}{outer:ay}{loc:Loc}{mem:Mem}{E:Ex W}{adr:Rl->Addr}{g:GR}
noncomputable def oPr:Option Pr->V
 | none=>.none
 | some p=>pV aq p
theorem tr_pr{p:Pr}{Q:Bool->Loc->Mem->Prop}(hK:W.K=hdK W.w.params)(c:aU A 700 6000)(hz:p.body.length≤1000)(h:Q (!p.body.isEmpty) loc mem) :
  OpB W A env outer (fun|[x]=>truthy x|_=>pure false) [pV aq p] loc mem Q E:=by
 refine tr_len (C:=aq) (f:=83) .frz (by rw[hK];first|rfl|kernel_rfl|decide +kernel) (by rw[hK];first|rfl|kernel_rfl|decide +kernel) (by rw[hK];first|rfl|kernel_rfl|decide +kernel) ?_
 refine bO (bs:=[("self",pV aq p)]) (by rw[hK];exact pLen.at _) (by rw[hK];first|rfl|kernel_rfl|decide +kernel) (c.in1.room (by decide)) ?_ (by intro y hy;simp at hy;rcases hy with rfl;rfl) (by decide) rfl rfl rfl ?_
 ·intro F s vs hb hk r
  obtain⟨_,_,r1,r2,rfl⟩:=r.isCons
  obtain rfl:=r2.isNil
  exact⟨_,BindsTo.of_eq rfl,.cons r1 .nil⟩
 ·intro L outer
  have cd:=c.in1.deeper (envX "Production.__len__" pLen.scope L 83 pLen.code [])
  (refine bU ?_;intro aa vv oo qq ee;refine ac ?_);refine c6 ?_;refine bK hK (fun _=>rfl) rfl rfl ?_;refine aB rfl ?_;refine az rfl rfl ?_
  refine aP hK (fun _=>by kernel_rfl) .frz rfl rfl ?_
  refine aI ?_
  refine jw (.tup _) (by rw[aG];lia) ?_
  skip
  refine⟨_,ah _,_,rfl,Int.natCast_nonneg _,by rw[aG];lia,?_⟩
  rw[aG]
  have:(((p.body.length:Nat):Int) != 0) = !p.body.isEmpty:=by cases p.body<;>simp;lia
  rw[this];exact h
noncomputable def dS(g:GR)(s:Str):Bool:=!decide (s∈g.pn)&&(!decide (s∈g.te.map (·.1))&&!decide (s=("error" : Str)))
noncomputable def gW(g:GR)(p:Pr)(b:List Str):List V:=(b.filter (dS g)).map fun s=>.tup [.str s,pV aq p]
noncomputable def pU(g:GR):Option Pr->List V
 | none=>[]
 | some p=>gW g p p.body
noncomputable def fZ(g:GR)(l:List (Option Pr)):List V:=l.flatMap (pU g)
theorem ow(p:Pr)(b:List Str)(s:Str):gW g p (b++[s])=gW g p b++(if dS g s then [.tup [.str s,pV aq p]] else []):=by
 unfold gW
 rw[List.filter_append,List.map_append,List.filter_cons]
 split<;>rfl
theorem li(p:Pr)(b:List Str):(gW g p b).length≤b.length:=by unfold gW;rw[List.length_map];exact List.length_filter_le _ _
theorem ma(l:List (Option Pr))(h:∀ p,some p∈l->p.body.length≤20):(fZ g l).length≤20*l.length:=by
 induction l with
 | nil=>exact Nat.le_refl _
 | cons o l ih=>
  have:=ih fun p hp=>h p (.tail _ hp)
  unfold fZ at this ⊢
  rw[List.flatMap_cons,List.length_append,List.length_cons]
  have h1:(pU g o).length≤20:=by
   cases o with
   | none=>exact Nat.zero_le _
   | some p=>exact Nat.le_trans (li p p.body) (h p (.head _))
  lia
inductive J4c(mem:Mem)(adr:Rl->Addr)(ul:Addr)(g:GR)(os:List (Option Pr))(i:Nat)(l:Loc)(m:Mem):Prop
 | mk (h1_:a7 [("self",.ref (adr .self)),("result",.ref ul)] l) (h2_:Sub mem m) (h3_:m ul=some (.list (fZ g (os.take i))))
inductive J4d(mem:Mem)(adr:Rl->Addr)(ul:Addr)(g:GR)(acc:List V)(p:Pr)(i:Nat)(l:Loc)(m:Mem):Prop
 | mk (h1_:a7 [("self",.ref (adr .self)),("result",.ref ul),("p",pV aq p)] l) (h2_:Sub mem m) (h3_:m ul=some (.list (acc++gW g p (p.body.take i))))
theorem mI{os:List (Option Pr)}{Q:V->Loc->Mem->Prop}(hK:W.K=hdK W.w.params)(c:aU A 600 5000)(r:Rd adr g mem)(ho:g.p0::g.prods.map (pV aq)=os.map oPr)(hz:os.length≤100)(hz2:∀ p,some p∈os->p.body.length≤20)
  (h:Q (.lst (fZ g os)) loc mem):OpV W A env outer (fun vs=>call (.ref 193) vs) [.ref (adr .self)] loc mem Q E:=by
 refine bO (bs:=[("self",.ref (adr .self))]) (by rw[hK];exact gUndef.at _) (by rw[hK];first|rfl|kernel_rfl|decide +kernel) (c.room (by decide)) ?_ (by intro y hy;simp at hy;rcases hy with rfl;rfl) (by decide) rfl rfl rfl ?_
 ·intro F s vs hb hk r
  obtain⟨_,_,r1,r2,rfl⟩:=r.isCons
  obtain rfl:=r2.isNil
  exact⟨_,BindsTo.of_eq rfl,.cons r1 .nil⟩
 ·intro L outer
  have cd:=c.deeper (envX "Grammar.undefined_symbols" gUndef.scope L 193 gUndef.code [])
  obtain⟨epd,hd⟩:=r.dict
  have ht:=r.pl
  rw[ho]at ht
  obtain⟨epn,hpn⟩:=r.pn
  obtain⟨ept,hte⟩:=r.te
  have hx:=r.self
  (refine bU ?_;intro aa vv oo qq ee;refine ac ?_);refine aw rfl rfl rfl ?_;refine aW ?_;refine aI ?_
  refine bX (show 0≤sizeLine by decide) (fun ul m1 hul h1 f1=>?_)
  have s1:Sub mem m1:=Sub.new (ah _) hul f1
  refine ac ?_;refine dj (fun _=>rfl) ?_;refine az rfl rfl ?_
  have hx1:=s1 _ _ hx
  have hd1:=s1 _ _ hd
  have ht1:=s1 _ _ ht
  refine aP hK (fun _=>by kernel_rfl) (.own hx1 hd1) rfl rfl ?_
  skip
  refine bV (ys:=os) (fun _=>oPr) (dt cd.handled ht1) (J4c mem adr ul g os) (fun i l m hi J=>?_) (fun l m J=>?_) (fun i y l m hy J=>?_) ⟨rfl,s1,h1⟩
  ·obtain⟨_,s,_⟩:=J
   exact eZ (s _ _ ht)
  ·obtain⟨hl,s,hu⟩:=J
   rw[List.take_length]at hu
   refine Tr.locs hl ?_
   refine ak ?_
   refine ac ?_
   refine c6 (Tr.shift ?_)
   refine pu rfl ?_
   exact⟨_,mem,b8.lst hu s hul,mem,ah _,h⟩
  ·obtain⟨hl,s,hu⟩:=J
   have hm:y∈os:=List.mem_of_getElem? hy
   have hilt:i<os.length:=(List.getElem?_eq_some_iff.mp hy).1
   have hlen:(fZ g (os.take i)).length≤2000:=by
    have:=ma (g:=g) (os.take i) fun p hp=>hz2 p (List.mem_of_mem_take hp)
    rw[List.length_take]at this;lia
   have hst:fZ g (os.take (i+1))=fZ g (os.take i)++pU g y:=by rw[aK hy];unfold fZ;rw[List.flatMap_append,List.flatMap_singleton]
   refine Op.locs hl ?_
   refine am rfl rfl ?_;(refine aC ?_;intro qq ee;refine ac ?_);refine bz ?_;refine cO ?_;refine be rfl rfl ?_
   cases y with
   | none=>
    refine gy ?_
    refine bk ?_
    (refine aC ?_;intro qq ee;refine ac ?_);refine eJ ?_
    refine⟨rfl,s,?_⟩
    rw[hst,hu];exact congrArg (fun x=>some (ax.list x)) (List.append_nil _).symm
   | some p=>
    have hpz:=hz2 p hm
    refine tr_pr hK (cd.mono (by decide) (by decide)) (by lia) ?_
    skip
    refine⟨fun hb=>?_,fun hb=>?_⟩
    ·have hb:p.body=[]:=by cases e:p.body with|nil=>rfl|cons _ _=>rw[e]at hb;cases hb
     (refine aC ?_;intro qq ee;refine ac ?_);refine eJ ?_
     refine⟨rfl,s,?_⟩
     rw[hst,hu]
     have:pU g (some p)=[]:=by show gW g p p.body=[];rw[hb];rfl
     rw[this,List.append_nil]
    ·refine ak ?_;refine ac ?_;refine dj (fun _=>rfl) ?_;refine az rfl rfl ?_
     refine aP hK (fun _=>by kernel_rfl) .frz rfl rfl ?_
     skip
     refine bV (ys:=p.body) (fun _=>V.str) (fH cd.handled) (J4d mem adr ul g (fZ g (os.take i)) p) (fun j l m hj J=>?_) (fun l m J=>?_) (fun j y l m hy J=>?_) ⟨rfl,s,by rw[hu];exact congrArg (fun x=>some (ax.list x)) (List.append_nil _).symm⟩
     ·show some ((ae p.body)[j]?)=_
      unfold ae;rw[List.getElem?_map]
     ·obtain⟨hl,s,hu⟩:=J
      rw[List.take_length]at hu
      refine Tr.locs hl ?_
      refine ak ?_;refine ak ?_
      exact⟨rfl,s,by rw[hst];exact hu⟩
     ·obtain⟨hl,s,hu⟩:=J
      refine Op.locs hl ?_
      have hjlt:j<p.body.length:=(List.getElem?_eq_some_iff.mp hy).1
      have hlen2:(fZ g (os.take i)++gW g p (p.body.take j)).length≤2100:=by
       rw[List.length_append]
       have:=li (g:=g) p (p.body.take j)
       rw[List.length_take]at this;lia
      have hst2:gW g p (p.body.take (j+1))=_:=(congrArg (gW g p) (aK hy)).trans (ow p _ y)
      have hx3:=s _ _ hx
      have hd3:=s _ _ hd
      have hq3:=s _ _ hpn
      have hq4:=s _ _ hte
      have g1:(bi (g.pn.map fun k=>(k,V.ref (adr (.pnL k)))) y).isSome=decide (y∈g.pn):=by rw[el (fun k=>V.ref (adr (.pnL k)))];split<;>simp[*]
      have g2:(bi (g.te.map fun q=>(q.1,V.ref (adr (.teL q.1)))) y).isSome=decide (y∈g.te.map (·.1)):=by
       rw[ci g.te (fun k=>V.ref (adr (.teL k)))]
       by_cases z:y∈g.te.map (·.1)
       ·rw[if_pos (List.contains_iff_mem.mpr z),decide_eq_true z];rfl
       ·rw[if_neg (fun w=>z (List.contains_iff_mem.mp w)),decide_eq_false z];rfl
      have no:dS g y=false->J4d mem adr ul g (fZ g (os.take i)) p (j+1) [("self",.ref (adr .self)),("result",.ref ul),("p",pV aq p),("s",.str y)] m:=fun e=>⟨rfl,s,by rw[hst2,e,if_neg Bool.false_ne_true,List.append_nil];exact hu⟩
      refine am rfl rfl ?_;(refine aC ?_;intro qq ee;refine ac ?_);refine bz ?_;refine c9 ?_;refine aQ ?_;refine bD rfl rfl ?_;refine az rfl rfl ?_
      refine aP hK (fun _=>by kernel_rfl) (.own hx3 hd3) rfl rfl ?_
      skip
      refine cC hq3 ?_
      rw[g1]
      refine aj ?_
      refine⟨fun hb1=>?_,fun hb1=>aT ?_⟩
      ·refine aQ ?_;refine bD rfl rfl ?_;refine az rfl rfl ?_
       refine aP hK (fun _=>by kernel_rfl) (.own hx3 hd3) rfl rfl ?_
       skip
       refine cC hq4 ?_
       rw[g2]
       refine aj ?_
       refine⟨fun hb2=>?_,fun hb2=>aT ?_⟩
       ·refine aQ ?_;refine dp rfl rfl rfl ?_;refine l8 ?_;refine aj ?_
        refine⟨fun hb3=>?_,fun hb3=>aT ?_⟩
        ·refine cn ?_
         refine bk ?_
         (refine aC ?_;intro qq ee;refine ac ?_);refine bP rfl rfl ?_;refine bC rfl rfl ?_
         refine a6 (.list hu) PySem.F.plainAttrs_list PySem.F.slot_list_append PySem.F.type_list_append rfl rfl ?_
         refine aB rfl ?_;refine ca ?_;refine aN rfl ?_
         refine cf (show 2≤sizeLine by decide) ?_
         refine aI ?_
         refine bh hu (Nat.le_trans hlen2 (by decide)) (fun m3 h3 f3=>?_)
         refine ak ?_;refine ak ?_
         refine⟨rfl,Sub.upd s hul f3,?_⟩
         rw[hst2,if_pos (by unfold dS;rw[hb1,hb2,hb3];rfl),h3,List.append_assoc]
        ·refine ak ?_;refine ak ?_
         exact no (by unfold dS;rw[hb3,Bool.and_false,Bool.and_false])
       ·refine ak ?_;refine ak ?_
        exact no (by unfold dS;rw[hb2,Bool.false_and,Bool.and_false])
      ·refine ak ?_;refine ak ?_
       exact no (by unfold dS;rw[hb1,Bool.false_and])
end
noncomputable def il:Str:="$end"
noncomputable def tK(g:GR):List Str:=g.te.map (·.1)++[il]
noncomputable def kK(g:GR):List Str:=tK g++g.no.map (·.1)
noncomputable def tb(K T:List Str):List (Str×V):=K.map fun k=>(k,.bool (decide (k∈T)))
theorem pI{K T:List Str}{s:Str}(h:s∈K):bi (tb K T) s=some (.bool (decide (s∈T))):=by
 unfold tb;rw[el (fun k=>V.bool (decide (k∈T))),if_pos h]
theorem tb_set{K T:List Str}{n:Str}(h:n∈K):stA (tb K T) n (.bool true)=tb K (T++[n]):=by
 unfold stA tb
 rw[if_pos (List.any_eq_true.mpr ⟨_,List.mem_map.mpr ⟨n,h,rfl⟩,by simp⟩),List.map_map]
 refine List.map_congr_left fun k _=>?_
 by_cases e:k=n
 ·subst e;simp
 ·simp[e]
noncomputable def n7(P:List Pr)(T:List Str)(n:Str):Bool:=(P.filter fun p=>p.name=n).any fun p=>p.body.all fun s=>decide (s∈T)
noncomputable def hZ(K T:List Str):Nat:=(K.filter fun s=>!decide (s∈T)).length
theorem lack_lt{K T:List Str}{n:Str}(h:n∈K)(hn:n∉T):hZ K (T++[n])<hZ K T:=by
 unfold hZ
 induction K with
 | nil=>cases h
 | cons a K ih=>
  have le:∀ K:List Str,(K.filter fun s=>!decide (s∈T++[n])).length≤(K.filter fun s=>!decide (s∈T)).length:=fun K=>by
   induction K with
   | nil=>exact Nat.le_refl _
   | cons b K ih=>
    rw[List.filter_cons,List.filter_cons]
    by_cases e1:b∈T
    ·simp[e1]at ih ⊢;exact ih
    ·by_cases e2:b=n
     ·simp[e1,e2,hn]at ih ⊢;lia
     ·simp[e1,e2]at ih ⊢;exact ih
  rw[List.filter_cons,List.filter_cons]
  by_cases e2:a=n
  ·have:=le K
   simp[e2,hn]at this ⊢;lia
  ·have h:=(List.mem_cons.mp h).resolve_left (Ne.symm e2)
   have:=ih h
   by_cases e1:a∈T
   ·simp[e1]at this ⊢;exact this
   ·simp[e1,e2]at this ⊢;exact this
inductive dx(P:List Pr)(T0:List Str):Str->Prop
 | base {s:Str}:s∈T0->dx P T0 s
 | rule {p:Pr}:p∈P->(∀ s∈p.body,dx P T0 s)->dx P T0 p.name
structure TI(g:GR)(T:List Str):Prop where
 sub0:∀ s∈tK g,s∈T
 snd:∀ s∈T,dx g.prods (tK g) s
theorem TI.add{g:GR}{T:List Str}{n:Str}(h:TI g T)(e:n7 g.prods T n=true):TI g (T++[n]) where
 sub0 s hs:=List.mem_append_left _ (h.sub0 s hs)
 snd s hs:=by
  rcases List.mem_append.mp hs with hs|hs
  ·exact h.snd s hs
  ·rw[List.mem_singleton]at hs;subst hs
   obtain⟨p,hp,ha⟩:=List.any_eq_true.mp e
   obtain⟨hp,hn⟩:=List.mem_filter.mp hp
   have hn:=of_decide_eq_true hn
   rw[<-hn]
   exact .rule hp fun s hs=>h.snd s (of_decide_eq_true (List.all_eq_true.mp ha s hs))
structure IWf(g:GR):Prop where
 nd:(kK g).Nodup
 tz:g.te.length≤100
 nz:g.no.length≤100
 pz:g.pn.length≤100
 syms:∀ p∈g.prods,∀ s∈p.body,s∈kK g
 blen:∀ p∈g.prods,p.body.length≤100
 names:∀ p∈g.prods,p.name∈g.pn
 pnk:∀ n∈g.pn,n∈kK g
 prz:g.prods.length≤1000
theorem qA{g:GR}{T:List Str}(w:IWf g)(h:TI g T)(hc:∀ n∈g.pn,n7 g.prods T n=true->n∈T)(s:Str):s∈T↔dx g.prods (tK g) s:=by
 refine⟨h.snd s,fun e=>?_⟩
 induction e with
 | base hs=>exact h.sub0 _ hs
 | @rule p hp _ ih=>exact hc _ (w.names p hp) (List.any_eq_true.mpr ⟨p,List.mem_filter.mpr ⟨hp,decide_eq_true rfl⟩,List.all_eq_true.mpr fun s hs=>decide_eq_true (ih s hs)⟩)
theorem iP{α:Type}{l:List α}(h:l.Nodup){i:Nat}{x:α}(e:l[i]? = some x):x∉l.take i:=by
 induction l generalizing i with
 | nil=>simp at e
 | cons a l ih=>
  cases i with
  | zero=>simp
  | succ i=>
   rw[List.take_succ_cons]
   intro hm
   rcases List.mem_cons.mp hm with rfl|hm
   ·exact(List.nodup_cons.mp h).1 (List.mem_of_getElem? e)
   ·exact ih (List.nodup_cons.mp h).2 e hm
noncomputable def gD(g:GR)(T K:List Str):List Str:=K.filter fun s=>!decide (s∈T)&&!dS g s
theorem oy{g:GR}{T K:List Str}(s:Str):gD g T (K++[s])=gD g T K++(if !decide (s∈T)&&!dS g s then [s] else []):=by
 unfold gD;rw[List.filter_append,List.filter_cons];split<;>rfl
theorem kl{es:List (Str×V)}{k:Str}{v:V}(h:k∉es.map (·.1)):stA es k v=es++[(k,v)]:=by
 unfold stA
 rw[if_neg]
 intro q
 obtain⟨e,he,hk⟩:=List.any_eq_true.mp q
 exact h (List.mem_map.mpr ⟨e,he,of_decide_eq_true hk⟩)
theorem pE{g:GR}(w:IWf g):(tK g).map (fun k=>(k,V.bool true))++(g.no.map (·.1)).map (fun k=>(k,V.bool false))=tb (kK g) (tK g):=by
 have nd:=w.nd
 unfold kK at nd
 unfold tb kK
 rw[List.map_append]
 refine congr (congrArg _ (List.map_congr_left fun k hk=>by rw[decide_eq_true hk])) (List.map_congr_left fun k hk=>?_)
 rw[decide_eq_false fun h=>(List.nodup_append.mp nd).2.2 k h k hk rfl]
noncomputable abbrev ifE(L:Addr):Env:=envX "Grammar.infinite_cycles" gInf.scope L 186 gInf.code []
section
variable {W:Wd}{A:Around}{env:Env}{outer:ay}{loc:Loc}{mem m:Mem}{E:Ex W}{adr:Rl->Addr}{g:GR}{d L:Addr}{T:List Str}{b:Bool}{n:Str}
inductive K1(mem:Mem)(adr:Rl->Addr)(d:Addr)(es:List (Str×V))(l:Loc)(m:Mem):Prop
 | mk (h1_:a7 [("self",.ref (adr .self)),("terminates",.ref d)] l) (h2_:Sub mem m) (ep:Nat) (h3_:m d=some (.dict es ep))
inductive KW(mem:Mem)(adr:Rl->Addr)(d:Addr)(g:GR)(k:Nat)(l:Loc)(m:Mem):Prop
 | mk (h1_:a7 [("self",.ref (adr .self)),("terminates",.ref d)] l) (h2_:Sub mem m) (ep:Nat) (T:List Str) (h3_:m d=some (.dict (tb (kK g) T) ep)) (h4_:TI g T) (h5_:hZ (kK g) T=k)
inductive KF(mem:Mem)(adr:Rl->Addr)(d:Addr)(g:GR)(T0:List Str)(i:Nat)(l:Loc)(m:Mem):Prop
 | mk (b:Bool) (h1_:a7 [("self",.ref (adr .self)),("terminates",.ref d),("some_change",.bool b)] l) (h2_:Sub mem m) (ep:Nat) (T:List Str) (h3_:m d=some (.dict (tb (kK g) T) ep)) (h4_:TI g T)
  (h5_:hZ (kK g) T≤hZ (kK g) T0) (h6_:b=true->hZ (kK g) T<hZ (kK g) T0) (h7_:b=false->T=T0/\∀ n∈g.pn.take i,n7 g.prods T0 n=true->n∈T0)
inductive KP(mem:Mem)(adr:Rl->Addr)(d:Addr)(g:GR)(T:List Str)(b:Bool)(n:Str)(ep:Nat)(i:Nat)(l:Loc)(m:Mem):Prop
 | mk (h1_:a7 [("self",.ref (adr .self)),("terminates",.ref d),("some_change",.bool b),("n",.str n)] l) (h2_:Sub mem m) (h3_:m d=some (.dict (tb (kK g) T) ep))
  (h4_:∀ p∈(g.prods.filter fun p=>p.name=n).take i,(p.body.all fun s=>decide (s∈T))=false)
inductive KS(mem:Mem)(adr:Rl->Addr)(d:Addr)(g:GR)(T:List Str)(b:Bool)(n:Str)(ep:Nat)(p:Pr)(i:Nat)(l:Loc)(m:Mem):Prop
 | mk (h1_:a7 [("self",.ref (adr .self)),("terminates",.ref d),("some_change",.bool b),("n",.str n),("p",pV aq p)] l) (h2_:Sub mem m) (h3_:m d=some (.dict (tb (kK g) T) ep)) (h4_:∀ s∈p.body.take i,s∈T)
inductive KE(mem:Mem)(adr:Rl->Addr)(d:Addr)(g:GR)(T:List Str)(b:Bool)(n:Str)(ep:Nat)(p:Pr)(l:Loc)(m:Mem):Prop
 | mk (h1_:a7 [("self",.ref (adr .self)),("terminates",.ref d),("some_change",.bool b),("n",.str n),("p_terminates",.bool (p.body.all fun s=>decide (s∈T)))] l) (h2_:Sub mem m) (h3_:m d=some (.dict (tb (kK g) T) ep))
inductive KR(mem:Mem)(adr:Rl->Addr)(d ul:Addr)(g:GR)(T:List Str)(ep:Nat)(i:Nat)(l:Loc)(m:Mem):Prop
 | mk (h1_:a7 [("self",.ref (adr .self)),("infinite",.ref ul)] l) (h2_:Sub mem m) (h3_:m d=some (.dict (tb (kK g) T) ep)) (h4_:m ul=some (.list (ae (gD g T ((kK g).take i)))))
theorem len_tb(K T:List Str):(tb K T).length=K.length:=by unfold tb;rw[List.length_map]
theorem qi(w:IWf g):(kK g).length≤300:=by
 have:=w.tz;have:=w.nz
 unfold kK tK;rw[List.length_append,List.length_append,List.length_map,List.length_map,List.length_singleton];lia
theorem oO{Q:Fl->Loc->Mem->Prop}(hK:W.K=hdK W.w.params)(hh:A.handled=none)(r:Rd adr g mem)(w:IWf g)(hd0:mem d=none)(k1:K1 mem adr d [] loc m)
  (h:∀ l m,K1 mem adr d ((g.te.map (·.1)).map fun k=>(k,V.bool true)) l m->Q .next l m):TrS W A (ifE L) outer (exec (gInf.body.getD 1 (.Pass ⟨0,0,0,0⟩)) (ifE L)) loc m Q E:=by
 obtain⟨hl,s,ep,hm⟩:=k1
 refine Tr.locs hl ?_
 obtain⟨epd,hd⟩:=r.dict
 obtain⟨ept,ht⟩:=r.te
 have hx1:=s _ _ r.self
 have hd1:=s _ _ hd
 have ht1:=s _ _ ht
 have nd:=w.nd
 refine dj (fun _=>rfl) ?_;refine az rfl rfl ?_
 refine aP hK (fun _=>by kernel_rfl) (.own hx1 hd1) rfl rfl ?_
 skip
 refine bV (ys:=g.te) (fun _ q=>.str q.1) (iJ hh ht1) (fun i=>K1 mem adr d (((g.te.take i).map (·.1)).map fun k=>(k,V.bool true))) (fun i l m hi J=>?_) (fun l m J=>?_) (fun i y l m hy J=>?_) ⟨rfl,s,ep,hm⟩
 ·obtain⟨_,s,_⟩:=J
  rw[gb (s _ _ ht) rfl,List.getElem?_map,Option.map_map];rfl
 ·refine ak ?_
  rw[List.take_length]at J
  exact h _ _ J
 ·obtain⟨hl,s,ep,hm⟩:=J
  refine Op.locs hl ?_
  have hilt:i<g.te.length:=(List.getElem?_eq_some_iff.mp hy).1
  have hz:=w.tz
  have hnew:y.1∉(g.te.take i).map (·.1):=by
   rw[List.map_take]
   have n1:(g.te.map (·.1)).Nodup:=(List.nodup_append.mp (List.nodup_append.mp nd).1).1
   exact iP n1 (by rw[List.getElem?_map,hy];rfl)
  refine am rfl rfl ?_;(refine aC ?_;intro qq ee;refine ac ?_);refine co rfl rfl rfl rfl ?_
  refine ba hm (by rw[List.length_map,List.length_map,List.length_take];exact Nat.le_trans (show min i g.te.length≤100 by lia) (by decide)) (fun m2 ep2 h2 f2=>?_)
  refine ak ?_
  refine⟨rfl,Sub.upd s hd0 f2,ep2,?_⟩
  rw[h2,kl (by rw[List.map_map];simpa [Function.comp_def] using hnew),aK hy,List.map_append,List.map_append];rfl
theorem oR{Q:Fl->Loc->Mem->Prop}(hK:W.K=hdK W.w.params)(hh:A.handled=none)(r:Rd adr g mem)(w:IWf g)(hd0:mem d=none)(k1:K1 mem adr d ((tK g).map fun k=>(k,V.bool true)) loc m)
  (h:∀ l m,K1 mem adr d (tb (kK g) (tK g)) l m->Q .next l m):TrS W A (ifE L) outer (exec (gInf.body.getD 3 (.Pass ⟨0,0,0,0⟩)) (ifE L)) loc m Q E:=by
 obtain⟨hl,s,ep,hm⟩:=k1
 refine Tr.locs hl ?_
 obtain⟨epd,hd⟩:=r.dict
 obtain⟨ept,ht⟩:=r.no
 have hx1:=s _ _ r.self
 have hd1:=s _ _ hd
 have ht1:=s _ _ ht
 have nd:=w.nd
 refine dj (fun _=>rfl) ?_;refine az rfl rfl ?_
 refine aP hK (fun _=>by kernel_rfl) (.own hx1 hd1) rfl rfl ?_
 skip
 refine bV (ys:=g.no) (fun _ q=>.str q.1) (iJ hh ht1) (fun i=>K1 mem adr d ((tK g).map (fun k=>(k,V.bool true))++((g.no.take i).map (·.1)).map fun k=>(k,V.bool false))) (fun i l m hi J=>?_) (fun l m J=>?_) (fun i y l m hy J=>?_) ⟨rfl,s,ep,by rw[hm,List.take_zero,List.map_nil,List.map_nil,List.append_nil]⟩
 ·obtain⟨_,s,_⟩:=J
  rw[gb (s _ _ ht) rfl,List.getElem?_map,Option.map_map];rfl
 ·refine ak ?_
  rw[List.take_length,pE w]at J
  exact h _ _ J
 ·obtain⟨hl,s,ep,hm⟩:=J
  refine Op.locs hl ?_
  have hilt:i<g.no.length:=(List.getElem?_eq_some_iff.mp hy).1
  have hz:=w.tz
  have hz2:=w.nz
  have hnew:y.1∉tK g++(g.no.take i).map (·.1):=by
   have n1:=List.nodup_append.mp nd
   rw[List.mem_append,List.map_take]
   rintro(z|z)
   ·exact n1.2.2 _ z _ (List.mem_map.mpr ⟨y,List.mem_of_getElem? hy,rfl⟩) rfl
   ·exact iP n1.2.1 (by rw[List.getElem?_map,hy];rfl) z
  refine am rfl rfl ?_;(refine aC ?_;intro qq ee;refine ac ?_);refine co rfl rfl rfl rfl ?_
  refine ba hm (by
   rw[List.length_append,List.length_map,List.length_map,List.length_map,List.length_take]
   have:(tK g).length=g.te.length+1:=by unfold tK;rw[List.length_append,List.length_map];rfl
   exact Nat.le_trans (show(tK g).length+min i g.no.length≤300 by lia) (by decide)) (fun m2 ep2 h2 f2=>?_)
  refine ak ?_
  refine⟨rfl,Sub.upd s hd0 f2,ep2,?_⟩
  rw[h2,kl (by rw[List.map_append,List.map_map,List.map_map];simpa [Function.comp_def] using hnew),aK hy,List.map_append,List.map_append,List.append_assoc];rfl
theorem o4{Q:Fl->Loc->Mem->Prop}(hK:W.K=hdK W.w.params)(hh:A.handled=none)(r:Rd adr g mem)(w:IWf g)(hd0:mem d=none)(k1:K1 mem adr d (tb (kK g) (tK g)) loc m)
  (h:∀ l m T ep,a7 [("self",.ref (adr .self)),("terminates",.ref d)] l->Sub mem m->m d=some (.dict (tb (kK g) T) ep)->(∀ s,s∈T↔dx g.prods (tK g) s)->Q .next l m) :
  TrS W A (ifE L) outer (exec (gInf.body.getD 4 (.Pass ⟨0,0,0,0⟩)) (ifE L)) loc m Q E:=by
 obtain⟨hl,s,ep,hm⟩:=k1
 refine Tr.locs hl ?_
 obtain⟨epd,hd⟩:=r.dict
 obtain⟨epn,hpn⟩:=r.pn
 have hx:=r.self
 refine ki (KW mem adr d g) (fun k l m J=>?_) _ ⟨rfl,s,ep,_,hm,⟨fun s hs=>hs,fun s hs=>.base hs⟩,rfl⟩
 clear hm s ep
 obtain⟨hl,s,ep,T,hm,ti,hk⟩:=J
 refine Tr.locs hl ?_
 refine be rfl rfl ?_;refine aj ?_
 refine bk ?_
 (refine aC ?_;intro qq ee;refine ac ?_);refine fY rfl rfl rfl rfl ?_;refine ac ?_;refine dj (fun _=>rfl) ?_;refine cT rfl ?_;refine az rfl rfl ?_
 have hx1:=s _ _ hx
 have hd1:=s _ _ hd
 have hp1:=s _ _ hpn
 refine aP hK (fun _=>by kernel_rfl) (.own hx1 hd1) rfl rfl ?_
 skip
 refine eE (.dict hp1) PySem.F.plainAttrs_dict PySem.F.slot_dict_items (by show builtinType _=_;rw[builtinType_eq_fast];kernel_rfl) ?_
 refine eC hp1 (fun v m2 hv h2 f2=>?_)
 have s2:Sub mem m2:=Sub.new s hv f2
 have hm2:m2 d=_:=(f2 _ (nex hm hv)).trans hm
 refine bV (ys:=g.pn) (fun _ n=>.tup [.str n,.ref (adr (.pnL n))]) (fK hh h2 (s2 _ _ hpn)) (KF mem adr d g T) (fun i l m hi J=>?_) (fun l m J=>?_) (fun i n l m hy J=>?_) ⟨false,rfl,s2,ep,T,hm2,ti,Nat.le_refl _,(fun e=>nomatch e),fun _=>⟨rfl,fun n hn=>nomatch hn⟩⟩
 ·obtain⟨_,_,s⟩:=J
  rw[dE (s _ _ hpn) rfl,List.getElem?_map,Option.map_map];rfl
 ·obtain⟨b,hl,s,ep,T',hm,ti',c1,c2,c3⟩:=J
  refine Tr.locs hl ?_
  refine ak ?_;refine ac ?_;refine bz ?_;refine cO ?_;refine be rfl rfl ?_;refine aj ?_
  cases b with
  | false=>
   refine bk ?_
   (refine aC ?_;intro qq ee;refine ac ?_);refine iu ?_
   obtain⟨e,c4⟩:=c3 rfl
   rw[List.take_length]at c4
   rw[e]at hm ti'
   exact h _ _ _ _ rfl s hm (qA w ti' c4)
  | true=>
   refine aT ?_
   refine ak ?_;refine ak ?_
   exact⟨_,by have:=c2 rfl;lia,rfl,s,ep,T',hm,ti',rfl⟩
 ·obtain⟨b,hl,s,ep,T',hm,ti',c1,c2,c3⟩:=J
  have hn:n∈g.pn:=List.mem_of_getElem? hy
  have hp:=s _ _ (r.pnL n hn)
  have hst:=aK hy
  refine Op.locs hl ?_
  refine bl (by first|assumption|exact aU.handled (by assumption)) rfl rfl ?_;refine am rfl rfl ?_;refine am rfl rfl ?_;(refine aC ?_;intro qq ee;refine ac ?_);refine dj (fun _=>rfl) ?_;refine pu rfl ?_
  refine bV (ys:=g.prods.filter fun p=>p.name=n) (fun _=>pV aq) (dt hh hp) (KP mem adr d g T' b n ep) (fun j l m hj J=>?_) (fun l m J=>?_) (fun j p l m hy J=>?_) ⟨rfl,s,hm,fun p hp=>nomatch hp⟩
  ·obtain⟨_,s,_⟩:=J
   exact eZ (s _ _ (r.pnL n hn))
  ·obtain⟨hl,s,hm,hno⟩:=J
   rw[List.take_length]at hno
   refine Tr.locs hl ?_
   refine ak ?_;refine ak ?_
   refine⟨b,rfl,s,ep,T',hm,ti',c1,c2,fun hb=>⟨(c3 hb).1,fun q hq hq2=>?_⟩⟩
   rw[hst]at hq
   rcases List.mem_append.mp hq with hq|hq
   ·exact(c3 hb).2 q hq hq2
   ·rw[List.mem_singleton]at hq;subst hq
    obtain⟨p,hp,ha⟩:=List.any_eq_true.mp hq2
    rw[<-(c3 hb).1,hno p hp]at ha;cases ha
  ·obtain⟨hl,s,hm,hno⟩:=J
   have hpm:p∈g.prods.filter fun p=>p.name=n:=List.mem_of_getElem? hy
   obtain⟨hpP,hpn'⟩:=List.mem_filter.mp hpm
   have hstp:=aK hy
   refine Op.locs hl ?_
   refine am rfl rfl ?_
   (refine aC ?_;intro qq ee;refine ac ?_)
   refine Tr.mono (Q:=fun f l m=>f = .next/\KE mem adr d g T' b n ep p l m) (aC ?_) ?_
   ·intro qq ee
    refine dj (fun _=>rfl) ?_;refine az rfl rfl ?_
    refine aP hK (fun _=>by kernel_rfl) .frz rfl rfl ?_
    skip
    refine bV (ys:=p.body) (fun _=>V.str) (fH hh) (KS mem adr d g T' b n ep p) (fun j l m hj J=>?_) (fun l m J=>?_) (fun j y l m hy J=>?_) ⟨rfl,s,hm,fun s hs=>nomatch hs⟩
    ·show some ((ae p.body)[j]?)=_
     unfold ae;rw[List.getElem?_map]
    ·obtain⟨hl,s,hm,ha⟩:=J
     rw[List.take_length]at ha
     refine Tr.locs hl ?_
     (refine aC ?_;intro qq ee;refine ac ?_);refine fY rfl rfl rfl rfl ?_;refine ak ?_
     refine⟨rfl,?_,s,hm⟩
     rw[List.all_eq_true.mpr fun s hs=>decide_eq_true (ha s hs)];rfl
    ·obtain⟨hl,s,hm,ha⟩:=J
     refine Op.locs hl ?_
     have hyb:y∈p.body:=List.mem_of_getElem? hy
     refine am rfl rfl ?_;(refine aC ?_;intro qq ee;refine ac ?_);refine bz ?_;refine cO ?_;refine cI rfl ?_;refine cZ (fun _ _=>rfl) rfl rfl ?_
     refine dw (x:=.bool (decide (y∈T'))) hm (pI (w.syms p hpP y hyb)) ?_
     refine aj ?_
     refine⟨fun hb=>?_,fun hb=>?_⟩
     ·have hb:y∉T':=by simpa using hb
      (refine aC ?_;intro qq ee;refine ac ?_);refine fY rfl rfl rfl rfl ?_;refine ac ?_;refine iu ?_
      refine⟨rfl,?_,s,hm⟩
      have:(p.body.all fun s=>decide (s∈T'))=false:=by
       cases q:p.body.all fun s=>decide (s∈T') with
       | false=>rfl
       | true=>exact absurd (of_decide_eq_true (List.all_eq_true.mp q y hyb)) hb
      rw[this];rfl
     ·have hb:y∈T':=by simpa using hb
      refine ak ?_;refine ak ?_
      refine⟨rfl,s,hm,fun z hz=>?_⟩
      rw[aK hy]at hz
      rcases List.mem_append.mp hz with hz|hz
      ·exact ha z hz
      ·rw[List.mem_singleton]at hz;rw[hz];exact hb
   ·rintro f l m ⟨rfl,hl,s,hm⟩
    refine Tr.locs hl ?_
    refine ac ?_;refine bz ?_;refine be rfl rfl ?_;refine aj ?_
    refine⟨fun hb=>?_,fun hb=>?_⟩
    ·have he:n7 g.prods T' n=true:=List.any_eq_true.mpr ⟨p,hpm,hb⟩
     rw[hb]
     (refine aC ?_;intro qq ee;refine ac ?_);refine bz ?_;refine cO ?_;refine cI rfl ?_;refine cZ (fun _ _=>rfl) rfl rfl ?_
     refine dw (x:=.bool (decide (n∈T'))) hm (pI (w.pnk n hn)) ?_
     refine aj ?_
     refine⟨fun hb2=>?_,fun hb2=>?_⟩
     ·have hb2:n∉T':=by simpa using hb2
      (refine aC ?_;intro qq ee;refine ac ?_);refine co rfl rfl rfl rfl ?_
      refine ba hm (by rw[len_tb];exact Nat.le_trans (qi w) (by decide)) (fun m3 ep3 h3 f3=>?_)
      rw[tb_set (w.pnk n hn)]at h3
      have hlt:=lack_lt (w.pnk n hn) hb2
      refine ac ?_;refine fY rfl rfl rfl rfl ?_;refine ak ?_;refine ac ?_;refine iu ?_;refine ak ?_
      exact⟨true,rfl,Sub.upd s hd0 f3,ep3,_,h3,ti'.add he,by lia,fun _=>by lia,fun e=>nomatch e⟩
     ·have hb2:n∈T':=by simpa using hb2
      refine ak ?_;refine ac ?_;refine iu ?_;refine ak ?_
      refine⟨b,rfl,s,ep,T',hm,ti',c1,c2,fun hb=>⟨(c3 hb).1,fun q hq hq2=>?_⟩⟩
      rw[hst]at hq
      rcases List.mem_append.mp hq with hq|hq
      ·exact(c3 hb).2 q hq hq2
      ·rw[List.mem_singleton]at hq;rw[hq,<-(c3 hb).1];exact hb2
    ·rw[hb]
     refine ak ?_;refine ak ?_
     refine⟨rfl,s,hm,fun q hq=>?_⟩
     rw[hstp]at hq
     rcases List.mem_append.mp hq with hq|hq
     ·exact hno q hq
     ·rw[List.mem_singleton]at hq;rw[hq];exact hb
end
section
variable {W:Wd}{A:Around}{env:Env}{outer:ay}{loc:Loc}{mem:Mem}{E:Ex W}{adr:Rl->Addr}{g:GR}
theorem pK{Q:V->Loc->Mem->Prop}(hK:W.K=hdK W.w.params)(c:aU A 600 5000)(r:Rd adr g mem)(w:IWf g)
  (h:∀ T,(∀ s,s∈T↔dx g.prods (tK g) s)->Q (.lst (ae (gD g T (kK g)))) loc mem):OpV W A env outer (fun vs=>call (.ref 186) vs) [.ref (adr .self)] loc mem Q E:=by
 refine bO (bs:=[("self",.ref (adr .self))]) (by rw[hK];exact gInf.at _) (by rw[hK];first|rfl|kernel_rfl|decide +kernel) (c.room (by decide)) ?_ (by intro y hy;simp at hy;rcases hy with rfl;rfl) (by decide) rfl rfl rfl ?_
 ·intro F s vs hb hk r
  obtain⟨_,_,r1,r2,rfl⟩:=r.isCons
  obtain rfl:=r2.isNil
  exact⟨_,BindsTo.of_eq rfl,.cons r1 .nil⟩
 ·intro L outer
  have cd:=c.deeper (ifE L)
  obtain⟨epd,hd⟩:=r.dict
  obtain⟨epn,hpn⟩:=r.pn
  obtain⟨ept,hte⟩:=r.te
  have hx:=r.self
  have nd:=w.nd
  (refine bU ?_;intro aa vv oo qq ee;refine ac ?_)
  refine aw rfl rfl rfl ?_
  refine dy (fun d m1 hd0 h1 f1=>?_)
  have s1:Sub mem m1:=Sub.new (ah _) hd0 f1
  refine ac ?_
  refine oO hK cd.handled r w hd0 ⟨rfl,s1,0,h1⟩ (fun l m J=>?_)
  obtain⟨hl,s,ep,hm⟩:=J
  refine ac ?_
  refine Tr.locs hl ?_
  refine co rfl rfl rfl rfl ?_
  have hdl:(g.te.map (·.1)).length≤1000:=by rw[List.length_map];have:=w.tz;lia
  refine ba hm (by rw[List.length_map];exact Nat.le_trans hdl (by decide)) (fun m2 ep2 h2 f2=>?_)
  have n0:il∉g.te.map (·.1):=fun q=>(List.nodup_append.mp (List.nodup_append.mp nd).1).2.2 _ q _ (.head _) rfl
  rw[kl (by rw[List.map_map];simpa [Function.comp_def,il] using n0)]at h2
  refine ac ?_
  refine oR hK cd.handled r w hd0 ⟨rfl,Sub.upd s hd0 f2,ep2,by rw[h2];unfold tK;rw[List.map_append];rfl⟩ (fun l m J=>?_)
  refine ac ?_
  refine o4 hK cd.handled r w hd0 J (fun l m T ep hl s hm hT=>?_)
  refine ac ?_
  refine Tr.locs hl ?_
  refine aw rfl rfl rfl ?_;refine aW ?_;refine aI ?_
  refine bX (show 0≤sizeLine by decide) (fun ul m3 hul h3 f3=>?_)
  have s3:Sub mem m3:=Sub.new s hul f3
  have hul0:mem ul=none:=Sub.none s hul
  have hm3:m3 d=_:=(f3 _ (nex hm hul)).trans hm
  refine ac ?_;refine dj (fun _=>rfl) ?_;refine bC rfl rfl ?_
  refine eE (.dict hm3) PySem.F.plainAttrs_dict PySem.F.slot_dict_items (by show builtinType _=_;rw[builtinType_eq_fast];kernel_rfl) ?_
  refine eC hm3 (fun v m4 hv h4 f4=>?_)
  have s4:Sub mem m4:=Sub.new s3 hv f4
  have hm4:m4 d=_:=(f4 _ (nex hm3 hv)).trans hm3
  have hu4:m4 ul=_:=(f4 _ (nex h3 hv)).trans h3
  refine bV (ys:=kK g) (fun _ k=>.tup [.str k,.bool (decide (k∈T))]) (fK cd.handled h4 hm4) (KR mem adr d ul g T ep) (fun i l m hi J=>?_) (fun l m J=>?_) (fun i y l m hy J=>?_) ⟨rfl,s4,hm4,hu4⟩
  ·obtain⟨_,_,hm,_⟩:=J
   rw[dE hm rfl];unfold tb;rw[List.getElem?_map,Option.map_map];rfl
  ·obtain⟨hl,s,hm,hu⟩:=J
   rw[List.take_length]at hu
   refine Tr.locs hl ?_
   refine ak ?_
   refine ac ?_
   refine c6 (Tr.shift ?_)
   refine pu rfl ?_
   exact⟨_,mem,b8.lst hu s hul0,mem,ah _,h T hT⟩
  ·obtain⟨hl,s,hm,hu⟩:=J
   refine Op.locs hl ?_
   have hilt:i<(kK g).length:=(List.getElem?_eq_some_iff.mp hy).1
   have hkz:=qi w
   have hlen:(ae (gD g T ((kK g).take i))).length≤300:=by
    rw[aG]
    have:=List.length_filter_le (fun s=>!decide (s∈T)&&!dS g s) ((kK g).take i)
    rw[List.length_take]at this;unfold gD;lia
   have hst:gD g T ((kK g).take (i+1))=_:=(congrArg (gD g T) (aK hy)).trans (oy y)
   have hx3:=s _ _ hx
   have hd3:=s _ _ hd
   have hq3:=s _ _ hpn
   have hq4:=s _ _ hte
   have g1:(bi (g.pn.map fun k=>(k,V.ref (adr (.pnL k)))) y).isSome=decide (y∈g.pn):=by rw[el (fun k=>V.ref (adr (.pnL k)))];split<;>simp[*]
   have g2:(bi (g.te.map fun q=>(q.1,V.ref (adr (.teL q.1)))) y).isSome=decide (y∈g.te.map (·.1)):=by
    rw[ci g.te (fun k=>V.ref (adr (.teL k)))]
    by_cases z:y∈g.te.map (·.1)
    ·rw[if_pos (List.contains_iff_mem.mpr z),decide_eq_true z];rfl
    ·rw[if_neg (fun w=>z (List.contains_iff_mem.mp w)),decide_eq_false z];rfl
   have no:(!decide (y∈T)&&!dS g y)=false->∀ l,a7 [("self",.ref (adr .self)),("infinite",.ref ul)] l->KR mem adr d ul g T ep (i+1) l m:=fun e l hl=>⟨hl,s,hm,by rw[hst,e,if_neg Bool.false_ne_true,List.append_nil];exact hu⟩
   have yes:(!decide (y∈T)&&!dS g y)=true->∀ l m',a7 [("self",.ref (adr .self)),("infinite",.ref ul)] l->m' ul=some (.list (ae (gD g T ((kK g).take i))++[.str y]))->(∀ b,b≠ul->m' b=m b)->KR mem adr d ul g T ep (i+1) l m':=fun e l m' hl h3 f3=>
    ⟨hl,Sub.upd s hul0 f3,(f3 _ (fun q=>by rw[q,hu]at hm;cases hm)).trans hm,by rw[hst,if_pos e,ae,List.map_append];exact h3⟩
   refine bl (by first|assumption|exact aU.handled (by assumption)) rfl rfl ?_;refine am rfl rfl ?_;refine am rfl rfl ?_;(refine aC ?_;intro qq ee;refine ac ?_);refine bz ?_;refine cO ?_;refine be rfl rfl ?_;refine aj ?_
   refine⟨fun hb0=>?_,fun hb0=>?_⟩
   ·have hb0:decide (y∈T)=false:=by simpa using hb0
    rw[hb0,Bool.not_false,Bool.true_and]at no yes
    (refine aC ?_;intro qq ee;refine ac ?_);refine bz ?_;refine c9 ?_;refine aQ ?_;refine bD rfl rfl ?_;refine az rfl rfl ?_
    refine aP hK (fun _=>by kernel_rfl) (.own hx3 hd3) rfl rfl ?_
    skip
    refine cC hq3 ?_
    rw[g1]
    refine aj ?_
    refine⟨fun hb1=>?_,fun hb1=>aT ?_⟩
    ·refine aQ ?_;refine bD rfl rfl ?_;refine az rfl rfl ?_
     refine aP hK (fun _=>by kernel_rfl) (.own hx3 hd3) rfl rfl ?_
     skip
     refine cC hq4 ?_
     rw[g2]
     refine aj ?_
     refine⟨fun hb2=>?_,fun hb2=>aT ?_⟩
     ·refine aQ ?_;refine dp rfl rfl rfl ?_;refine l8 ?_;refine aj ?_
      refine⟨fun hb3=>?_,fun hb3=>aT ?_⟩
      ·refine cn ?_
       refine bk ?_
       (refine aC ?_;intro qq ee;refine ac ?_);refine s_pass ?_;refine ak ?_;refine ak ?_;refine ak ?_
       exact no (by unfold dS;rw[hb1,hb2,hb3];rfl) _ rfl
      ·(refine aC ?_;intro qq ee;refine ac ?_);refine bP rfl rfl ?_;refine bC rfl rfl ?_
       refine a6 (.list hu) PySem.F.plainAttrs_list PySem.F.slot_list_append PySem.F.type_list_append rfl rfl ?_
       refine aN rfl ?_
       refine bh hu (Nat.le_trans hlen (by decide)) (fun m5 h5 f5=>?_)
       refine ak ?_;refine ak ?_;refine ak ?_
       exact yes (by unfold dS;rw[hb3,Bool.and_false,Bool.and_false];rfl) _ _ rfl h5 f5
     ·(refine aC ?_;intro qq ee;refine ac ?_);refine bP rfl rfl ?_;refine bC rfl rfl ?_
      refine a6 (.list hu) PySem.F.plainAttrs_list PySem.F.slot_list_append PySem.F.type_list_append rfl rfl ?_
      refine aN rfl ?_
      refine bh hu (Nat.le_trans hlen (by decide)) (fun m5 h5 f5=>?_)
      refine ak ?_;refine ak ?_;refine ak ?_
      exact yes (by unfold dS;rw[hb2,Bool.false_and,Bool.and_false];rfl) _ _ rfl h5 f5
    ·(refine aC ?_;intro qq ee;refine ac ?_);refine bP rfl rfl ?_;refine bC rfl rfl ?_
     refine a6 (.list hu) PySem.F.plainAttrs_list PySem.F.slot_list_append PySem.F.type_list_append rfl rfl ?_
     refine aN rfl ?_
     refine bh hu (Nat.le_trans hlen (by decide)) (fun m5 h5 f5=>?_)
     refine ak ?_;refine ak ?_;refine ak ?_
     exact yes (by unfold dS;rw[hb1,Bool.false_and];rfl) _ _ rfl h5 f5
   ·refine ak ?_;refine ak ?_
    exact no (by rw[show decide (y∈T)=true from by simpa using hb0];rfl) _ rfl
end
structure TOk(g:GR)(ol:Option Pr)(os:Option Str):Prop where
 iwf:IWf g
 uwf:UWf g SY3
 tn:(g.te.map (·.1)).Nodup
 nn:(g.no.map (·.1)).Nodup
 tz:g.te.length≤10
 nz:g.no.length≤10
 tz2:∀ q∈g.te,q.2.length≤1000
 nz2:∀ q∈g.no,q.2.length≤1000
 al:∀ q∈g.no,q.2=[]->q.1∈g.pn/\∃ p∈g.prods,p.name=q.1
 p0:g.p0=oPr ol
 pz:g.prods.length≤20
 blen:∀ p,some p∈ol::g.prods.map some->p.body.length≤20
 st:∀ s,os=some s->s∈SY3/\∃ q0,ol=some q0/\q0.body=[s]
noncomputable def pL:V->Option V
 | .tup [s,.ins _ ps]=>match ps.lookup ("number" : Str),ps.lookup ("prod" : Str) with
  | some n,some b=>some (.tup [s,n,b])
  | _,_=>none
 | _=>none
noncomputable def numOf:V->Option V
 | .ins _ ps=>ps.lookup ("number" : Str)
 | _=>none
noncomputable def oH(g:GR)(ol:Option Pr):List V:=(fZ g (ol::g.prods.map some)).filterMap pL
inductive nZ(g:GR):Option Str->List Str->Prop
 | none:nZ g none []
 | some (st:Str) (T:Str->Bool) (hT:∀ x,T x=true↔Rch g.prods st x):nZ g (some st) ((g.no.map (·.1)).filter fun x=>!T x)
inductive mn (g:GR) (ol:Option Pr) (os:Option Str):V->Prop
  | mk (T e i:List Str) (a:List Int) (h h':List Str) (h0_:∀ s,s∈T↔dx g.prods (tK g) s) (h1_:sortedS e=true) (h2_:e.Perm (gD g T (kK g))) (h3_:sortedS i=true) (h4_:i.Perm (kh g)) (h5_:a.Pairwise (·≤·)) (h6_:a.Perm ((bY g g.no).map Pr.num))
     (h7_:sortedS h=true) (h8_:h.Perm h') (h9_:nZ g os h'):mn g ol os (nC e (oH g ol) i a h)
theorem mX(g:GR)(l:List (Str×List Int)):(bY g l).length≤l.length:=by unfold bY;exact List.length_filterMap_le _ _
section
variable {W:Wd}{A:Around}{env:Env}{outer:ay}{loc:Loc}{mem:Mem}{E:Ex W}{adr:Rl->Addr}{g:GR}
theorem oM{ol:Option Pr}{os:Option Str}{Q:V->Loc->Mem->Prop}(hK:W.K=hdK W.w.params)(B:jC W)(c:aU A 500 4500)(r:Rd adr g mem)(I:TOk g ol os)(T0:bR cL dB bZ mem)
  (h:∀ v m',mn g ol os v->Off cL mem m'->bR cL dB bZ m'->Q v loc m'):OpV W A env outer (fun vs=>call (.ref 301) vs) [.ref (adr .self),osV os] loc mem Q E:=by
 refine bO (bs:=[("grammar",.ref (adr .self)),("start",osV os)]) (by rw[hK];exact lTold.at _) (by rw[hK];first|rfl|kernel_rfl|decide +kernel) (c.room (by decide)) ?_ (by intro y hy;simp at hy;rcases hy with rfl|rfl<;>rfl) (by decide) rfl rfl rfl ?_
 ·intro F s vs hb hk r
  obtain⟨_,_,r1,r2,rfl⟩:=r.isCons
  cases r2 with
  | cons r2 r3=>
   cases r3
   exact⟨_,BindsTo.of_eq rfl,.cons r1 (.cons r2 .nil)⟩
 ·intro L outer
  have cd:=(c.deeper (envX "_law_told" lTold.scope L 301 lTold.code [])).mono (d':=600) (u':=5000) (by decide) (by decide)
  have kz:(kK g).length≤21:=by
   have:=I.tz
   have:=I.nz
   unfold kK tK
   simp only [List.length_append,List.length_map,List.length_singleton]
   lia
  obtain⟨epd,hd⟩:=r.dict
  have hx:=r.self
  (refine bU ?_;intro aa vv oo qq ee;refine ac ?_)
  refine Tr.locs (loc':=[("grammar",.ref (adr .self)),("start",osV os)]) rfl ?_
  refine aw rfl rfl rfl ?_
  refine Tr.shift ?_
  refine bK hK (fun _=>rfl) rfl rfl ?_;refine aB rfl ?_;refine bC rfl rfl ?_
  refine gX (.own hx hd) (by rw[hK];first|rfl|kernel_rfl|decide +kernel) (by rw[hK];first|rfl|kernel_rfl|decide +kernel) (by rw[hK];first|rfl|kernel_rfl|decide +kernel) rfl (by rw[hK];first|rfl|kernel_rfl|decide +kernel) ?_
  refine pK hK cd r I.iwf (fun T hT_=>?_)
  refine aI ?_
  refine g9 (.lst _) (Nat.lt_of_le_of_lt (List.length_filter_le _ _) (by lia)) (fun D e hD hp1 hs1=>?_)
  refine⟨_,mem,b8.lst (mset_self _ _ _) (aL hD (ah _)) hD,?_⟩
  clear hD D
  refine ac ?_
  refine cw (cl:=[]) rfl rfl (by decide) rfl (by decide) rfl rfl (fun _=>rfl) ?_
  refine bC rfl rfl ?_
  refine gX (.own hx hd) (by rw[hK];first|rfl|kernel_rfl|decide +kernel) (by rw[hK];first|rfl|kernel_rfl|decide +kernel) (by rw[hK];first|rfl|kernel_rfl|decide +kernel) rfl (by rw[hK];first|rfl|kernel_rfl|decide +kernel) ?_
  have hzo:(ol::g.prods.map some).length≤21:=by rw[List.length_cons,List.length_map];have:=I.pz;lia
  have zu:=ma (g:=g) (ol::g.prods.map some) I.blen
  refine mI hK cd r (os:=ol::g.prods.map some) (by rw[I.p0,List.map_cons,List.map_map];rfl) (Nat.le_trans hzo (by decide)) I.blen ?_
  refine bj (cb cd.handled) (fZ g (ol::g.prods.map some)) (fun m i hs hi=>rfl) (Nat.le_trans (show _≤500 by lia) (by decide)) pL ?_ ?_
  ·intro C outer' i v hv
   have hv:=List.mem_of_getElem? hv
   have hs:∃ s p,v = .tup [.str s,pV aq p]:=by
    unfold fZ at hv
    obtain⟨o,ho,h⟩:=List.mem_flatMap.mp hv
    cases o with
    | none=>cases h
    | some p=>
     obtain⟨s,_,rfl⟩:=inM h
     exact⟨s,p,rfl⟩
   obtain⟨s,p,rfl⟩:=hs
   refine bl (by first|assumption|exact aU.handled (by assumption)) rfl rfl ?_;refine am rfl rfl ?_;refine am rfl rfl ?_;refine ca ?_;refine fe rfl ?_;refine aB rfl ?_;refine az rfl rfl ?_
   refine aP hK (fun _=>by kernel_rfl) .frz rfl rfl ?_
   refine aB rfl ?_;refine az rfl rfl ?_
   refine aP hK (fun _=>by kernel_rfl) .frz rfl rfl ?_
   refine aI ?_
   refine cf (show 3≤sizeLine by decide) ?_
   exact⟨rfl,ah _⟩
  ·intro D hD
   rw[show(fZ g (ol::g.prods.map some)).filterMap pL=oH g ol from rfl]
   obtain⟨m1,hm1⟩:∃ m1,m1=ap mem D (.list (oH g ol)):=⟨_,rfl⟩
   have hD1:m1 D=some (.list (oH g ol)):=by rw[hm1,mset_self]
   have s1:Sub mem m1:=by rw[hm1];exact aL hD (ah _)
   rw[<-hm1]
   clear hm1
   have r1:=r.mono s1
   have hx1:=s1 _ _ hx
   have hd1:=s1 _ _ hd
   refine ac ?_
   refine aw rfl rfl rfl ?_
   refine Tr.shift ?_
   refine bK hK (fun _=>rfl) rfl rfl ?_;refine aB rfl ?_;refine bC rfl rfl ?_
   refine gX (.own hx1 hd1) (by rw[hK];first|rfl|kernel_rfl|decide +kernel) (by rw[hK];first|rfl|kernel_rfl|decide +kernel) (by rw[hK];first|rfl|kernel_rfl|decide +kernel) rfl (by rw[hK];first|rfl|kernel_rfl|decide +kernel) ?_
   refine oL hK cd r1 I.tn (Nat.le_trans I.tz (by decide)) I.tz2 ?_
   refine aI ?_
   have zi:=jM g.te
   refine g9 (.lst _) (Nat.lt_of_le_of_lt zi (Nat.lt_of_le_of_lt I.tz (by decide))) (fun D2 i hD2 hp2 hs2=>?_)
   refine⟨_,m1,b8.lst (mset_self _ _ _) (aL hD2 (ah _)) hD2,?_⟩
   clear hD2 D2
   refine ac ?_
   refine aw rfl rfl rfl ?_
   refine Tr.shift ?_
   refine bK hK (fun _=>rfl) rfl rfl ?_;refine aB rfl ?_;refine bd rfl (by decide) rfl (by decide) (fun _=>rfl) ?_;refine bC rfl rfl ?_
   refine gX (.own hx1 hd1) (by rw[hK];first|rfl|kernel_rfl|decide +kernel) (by rw[hK];first|rfl|kernel_rfl|decide +kernel) (by rw[hK];first|rfl|kernel_rfl|decide +kernel) rfl (by rw[hK];first|rfl|kernel_rfl|decide +kernel) ?_
   refine mU hK cd r1 I.nn (Nat.le_trans I.nz (by decide)) (fun q hq=>Nat.le_trans (I.nz2 q hq) (by decide)) I.al ?_
   have zal:=Nat.le_trans (mX g g.no) I.nz
   refine bj (cb cd.handled) ((bY g g.no).map (pV aq)) (fun m i hs hi=>rfl) (by rw[List.length_map];exact Nat.le_trans zal (by decide)) numOf ?_ ?_
   ·intro C outer' i v hv
    obtain⟨p,hp,rfl⟩:=inM (List.mem_of_getElem? hv)
    refine am rfl rfl ?_;refine az rfl rfl ?_
    refine aP hK (fun _=>by kernel_rfl) .frz rfl rfl ?_
    exact⟨rfl,ah _⟩
   ·intro D2 hD2
    rw[show((bY g g.no).map (pV aq)).filterMap numOf=((bY g g.no).map Pr.num).map V.int from by
     rw[List.filterMap_map,List.map_map,<-List.filterMap_eq_map];rfl]
    have s2:=aL (y:=.list (((bY g g.no).map Pr.num).map V.int)) hD2 (ah _)
    refine aI ?_
    refine jS (.own (mset_self _ _ _)) (by rw[List.length_map];lia) (fun D3 a hD3 hp3 hs3=>?_)
    refine⟨_,m1,b8.lst (mset_self _ _ _) (aL hD3 s2) (Sub.none s2 hD3),?_⟩
    clear hD3 s2 hD2 D3 D2
    refine ac ?_
    refine Tr.locs (loc':=[("grammar",.ref (adr .self)),("start",osV os),("endless",.lst (ae e)),("undefined",.ref D),("idle",.lst (ae i)),("alone",.lst (a9 a))]) rfl ?_
    refine Tr.mono (Q:=fun f l m=>f = .next/\∃ hh h',a7 [("endless",V.lst (ae e)),("undefined",.ref D),("idle",.lst (ae i)),("alone",.lst (a9 a)),("hidden",.lst (ae hh))] l/\sortedS hh=true/\hh.Perm h'/\nZ g os h'/\Off cL m1 m/\bR cL dB bZ m) (aC ?_) ?_
    ·intro qq ee
     refine aw rfl rfl rfl ?_;refine fU ?_;refine be rfl rfl ?_
     cases os with
     | none=>
      refine gy ?_
      refine aT ?_
      refine aW ?_;refine aI ?_
      refine bp (show 0≤sizeLine by decide) ?_
      skip
      exact⟨rfl,[],[],rfl,rfl,.refl _,.none,Off.sub (ah _),T0.mono fun b o e=>s1 _ _ e⟩
     | some s=>
      obtain⟨hs,q0,rfl,hq0⟩:=I.st s rfl
      obtain⟨z1,z2⟩:=iw s hs
      refine kJ (by lia) ?_
      rw[show((s.length:Int) != 0)=true from bne_iff_ne.mpr (by lia)]
      refine bk ?_
      refine Tr.shift ?_
      refine bK hK (fun _=>rfl) rfl rfl ?_;refine aB rfl ?_;refine bC rfl rfl ?_
      refine gX (.own hx1 hd1) (by rw[hK];first|rfl|kernel_rfl|decide +kernel) (by rw[hK];first|rfl|kernel_rfl|decide +kernel) (by rw[hK];first|rfl|kernel_rfl|decide +kernel) rfl (by rw[hK];first|rfl|kernel_rfl|decide +kernel) ?_
      refine kM hK B cd r1 I.uwf I.p0 hq0 hs (by decide) (Nat.le_trans I.nz (by decide)) (T0.mono fun b o e=>s1 _ _ e) (fun T m2 hT off2 T2=>?_)
      refine aI ?_
      refine g9 (.lst _) (Nat.lt_of_le_of_lt (List.length_filter_le _ _) (by rw[List.length_map];exact Nat.lt_of_le_of_lt I.nz (by decide))) (fun D2 hh hD2 hp2 hs2=>?_)
      refine⟨_,m2,b8.lst (mset_self _ _ _) (aL hD2 (ah _)) hD2,?_⟩
      skip
      exact⟨rfl,hh,_,rfl,hs2,hp2,.some s T hT,off2,T2⟩
    ·rintro f l m2 ⟨rfl,hh,h',hl,hs4,hp4,hi4,off2,T2⟩
     refine ac ?_
     refine Tr.locs hl ?_
     have hT:∃ o,mem cL=some (.raw o):=by
      cases T0 with
      | fresh a=>exact⟨_,a⟩
      | made c' oc a b d=>exact⟨_,a⟩
     obtain⟨o,hT⟩:=hT
     have nD:D≠cL:=nex hD1 (s1 _ _ hT)
     have hD2:=off2 _ _ nD hD1
     refine c6 ?_
     refine aW ?_
     refine fe rfl ?_
     refine aB rfl ?_
     refine Tr.shift ?_
     refine pu rfl ?_
     have sd:∀ b x,eR m2 D b=some x->m2 b=some x:=fun b x e=>by
      unfold eR at e;split at e
      ·cases e
      ·exact e
     refine⟨_,eR m2 D,b8.lst hD2 sd (by unfold eR;rw[if_pos rfl]),?_⟩
     refine aN rfl ?_
     refine bp (show 5≤sizeLine by decide) ?_
     skip
     refine⟨eR m2 D,ah _,h _ _ (.mk T e i a hh h' hT_ hs1 hp1 hs2 hp2 hs3 hp3 hs4 hp4 hi4) (fun b x n e=>?_) (T2.mono fun b o e=>?_)⟩
     ·have:=off2 b x n (s1 _ _ e)
      unfold eR;rw[if_neg (nex e hD)];exact this
     ·unfold eR;rw[if_neg (nex e hD2)];exact e
end
section
variable {W:Wd}{A:Around}{env:Env}{outer:ay}{loc:Loc}{mem:Mem}{E:Ex W}
theorem Tr.settleL{α β:Type}{RV:Frz->β->α->Prop}{t:Sem α}{Q:β->Loc->Mem->Prop}{x:Str}{v v':V}{m':Mem}(hx:loc.lookup x=some v)(sh:b8 W v mem v' m')(h:Tr W A env outer RV t (eY x v' loc) m' Q E):Tr W A env outer RV t loc mem Q E:=fun R F s S=>by
 obtain⟨n,hn,lr⟩:=S.z.ns
 obtain⟨u,hu,ru⟩:=lr x v hx
 obtain⟨F',i,S',r'⟩:=sh env outer loc R F s u S ru
 obtain⟨n',hn',lr'⟩:=S'.z.ns
 have nn:NsIs W F' s.heap env.locals (eY x v' loc):=by
  refine⟨n,hn,fun y w e=>?_⟩
  rw[fv]at e
  split at e
  ·rename_i q
   cases e
   rw[q]
   exact⟨u,hu,r'⟩
  ·obtain⟨w',e1,e2⟩:=lr y w e
   exact⟨w',e1,e2.mono i⟩
 have S2:Sim W env outer (eY x v' loc) m' R F' s:=⟨S'.dis,{ S'.z with ns:=nn }⟩
 exact wpAny_mono (h R F' s S2) (fun _ _ ⟨F2,z,l,m1,i2,r2,S3,q⟩=>⟨F2,z,l,m1,i.trans i2,r2,S3,q⟩) fun _ _ e=>E.up i e
theorem bA.join{m R0 R:Mem}{F:Frz}{s:Shared}{e:Addr}{c:Value}(a:bA W env outer loc m (mun R0 R) F s e c)(d0:Dis R0 R):bA W env outer loc (mun m R0) R F s e c/\Dis m R0:=by
 obtain⟨S,B,U,r⟩:=a
 obtain⟨S2,d⟩:=S.join d0
 exact⟨⟨S2,B,⟨U.frz,fun a x e=>U.own a x (by rw[gR];exact e),U.stays,U.here,U.outs⟩,r⟩,d⟩
theorem Op.frameX{α β:Type}{RV:Frz->β->α->Prop}{f:List Value->Sem α}{xs:List V}{Q Q':β->Loc->Mem->Prop}{X X':Value->Loc->Mem->Prop}{m R0:Mem}(hd:Dis m R0)(h:Op W A env outer RV f xs loc m Q (exX W env outer X))
  (hQ:∀ v l m1,Dis m1 R0->Q v l m1->Q' v l (mun m1 R0)) (hX:∀ c l m1,Dis m1 R0->X c l m1->X' c l (mun m1 R0)):Op W A env outer RV f xs loc (mun m R0) Q' (exX W env outer X'):=fun R F s vs S r=>by
 obtain⟨S1,d0⟩:=S.split hd
 refine wpAny_mono (h _ F s vs S1 r) (fun _ _ p=>?_) fun _ _ p=>?_
 ·refine bv fun C_ k_=>?_
  obtain⟨F',x,l,m1,a,b,S2,q⟩:=p
  obtain⟨S3,hd1⟩:=S2.join d0
  exact k_ ⟨F',x,l,mun m1 R0,a,b,S3,hQ x l m1 hd1 q⟩
 ·refine bv fun C_ k_=>?_
  obtain⟨F',l,m1,e,cls,e1,i,al,x⟩:=p
  obtain⟨al2,d⟩:=al.join d0
  exact k_ ⟨F',l,mun m1 R0,e,cls,e1,i,al2,hX cls l m1 d x⟩
end
section
variable {W:Wd}{A:Around}{env:Env}{outer:ay}{loc:Loc}{mem:Mem}{E:Ex W}
theorem eK{g:GR}{a:Addr}{gm M:Mem}{name:Str}{syms:List Str}{mt:Str->Option Str}{b:Bool}{Q:V->Loc->Mem->Prop}(hK:W.K=hdK W.w.params)(c:aU A 400 4000)(hf:c8 A env outer)(G:bL ar aq g a gm)(d:Dis gm M)
  (hnz:name.cps.size≤100) (hnr:(reprText name).length≤20000) (hb:NmK g name b) (hs:b=true->∀ s∈syms,SyK s (mt s)) (hz:syms.length≤100) (hpr:g.pr=[]) (hnum:g.prods.length≤1000) (hpn:∀ p∈g.prods,p.name∈g.pn) (hpz:g.pn.length≤1000) (htz:g.te.length≤1000) (hlen:cW 1000 (g.te,g.no)) (hpo:∀ p∈g.prods,qF p)
  (r0:b=false->Q (.bool true) loc (mun gm M))
  (r1:b=true->∀ i s gm',syms[i]? = some s->mt s=none->(∀ s∈syms.take i,mt s≠none)->bL ar aq { g with te:=bJ mt g.te (syms.take i) } a gm'->Dis gm' M->Q (.bool true) loc (mun gm' M))
  (r2:b=true->(∀ s∈syms,mt s≠none)->∀ gm',(∃ p∈g.prods,aJ p.name p.body=aJ name (syms.map fun s=>(mt s).getD s))->bL ar aq { g with te:=bJ mt g.te syms } a gm'->Dis gm' M->Q (.bool true) loc (mun gm' M))
  (h:b=true->(∀ s∈syms,mt s≠none)->(∀ p∈g.prods,aJ p.name p.body≠aJ name (syms.map fun s=>(mt s).getD s))->∀ gm',bL ar aq (addG { g with te:=bJ mt g.te syms } name (syms.map fun s=>(mt s).getD s) (.tup [.str "right",.int 0]) .none (.str "") (.int 0)) a gm'->Dis gm' M->Q (.bool false) loc (mun gm' M)) :
  OpV W A env outer (fun vs=>call (.ref 308) vs) [.ref a,.str name,.lst (ae syms)] loc (mun gm M) Q E:=by
 refine bO (bs:=[("grammar",.ref a),("name",.str name),("symbols",.lst (ae syms))]) (by rw[hK];exact lRefused.at _) (by rw[hK];first|rfl|kernel_rfl|decide +kernel) (c.room (by decide)) ?_ (by intro y hy;simp at hy;rcases hy with rfl|rfl|rfl<;>rfl) (by decide) rfl rfl rfl ?_
 ·intro F s vs hb hk r
  obtain⟨_,_,r1,r2,rfl⟩:=r.isCons
  cases r2 with
  | cons r2 r3=>
   cases r3 with
   | cons r3 r4=>
    cases r4
    exact⟨_,BindsTo.of_eq rfl,.cons r1 (.cons r2 (.cons r3 .nil))⟩
 ·intro L outer
  have cd:=(c.deeper (envX "_law_refused" lRefused.scope L 308 lRefused.code [])).mono (d':=600) (u':=5000) (by decide) (by decide)
  have fd:=hf.deeper (env':=envX "_law_refused" lRefused.scope L 308 lRefused.code []) (m0:=outer) rfl rfl
  (refine bU ?_;intro aa vv oo qq ee;refine ac ?_)
  refine Tr.locs (loc':=[("grammar",.ref a),("name",.str name),("symbols",.lst (ae syms))]) rfl ?_
  refine pC (C:=dA) (x:="GrammarError") (fun l m=>Q (.bool true) loc m) fd PySem.F.excBase_Exception rfl rfl rfl (by decide) (by rw[hK];rfl) (by rw[hK];kernel_rfl) ?_ (fun e l m hX=>?_)
  ·(refine aC ?_;intro qq ee;refine ac ?_);refine bP rfl rfl ?_;refine bC rfl rfl ?_
   obtain⟨adr,cc,MM,ok,ea⟩:=id G
   obtain⟨epd,hdict⟩:=ok.dict
   have hx:=bu (R:=M) (MM.get ok.self)
   have hd:=bu (R:=M) (MM.get hdict)
   rw[ea]at hx
   refine m_own (.own hx hd) (by rw[hK];first|rfl|kernel_rfl|decide +kernel) (by rw[hK];first|rfl|kernel_rfl|decide +kernel) (by rw[hK];first|rfl|kernel_rfl|decide +kernel) rfl (by rw[hK];first|rfl|kernel_rfl|decide +kernel) rfl rfl ?_
   refine fe rfl ?_;refine aB rfl ?_;refine fw hK (fun _=>rfl) rfl rfl ?_;refine aN rfl ?_
   refine list_sq (.lst _) (by rw[aG];exact Nat.le_trans hz (by decide)) (fun sy hsy=>?_)
   refine aI ?_
   obtain⟨s1,s2⟩:=br hsy
   have em:ap (mun gm M) sy (.list (ae syms))=mun (ap gm sy (.list (ae syms))) M:=by
    funext q
    unfold ap mun
    by_cases e:q=sy
    ·simp[e]
    ·simp[e]
   rw[em]
   have d2:Dis (ap gm sy (.list (ae syms))) M:=fun q x e=>by
    by_cases z:q=sy
    ·rw[z];exact s2
    ·rw[af z]at e;exact d q x e
   refine Op.frameX (X:=fun c l m=>c = .ref dA/\(Dis m M->Q (.bool true) loc (mun m M))) (Q:=fun v l m=>l=_/\(Dis m M->Q (.bool false) loc (mun m M))) d2 (pv hK cd fd G s1 hnz hnr hb hs hz hpr hnum hpn hpz htz hlen hpo
    (fun e=>eG ⟨rfl,fun _=>r0 e⟩) (fun e i s gm' h1 h2 h3 h4=>eG ⟨rfl,fun d=>r1 e i s gm' h1 h2 h3 h4 d⟩) (fun e h1 gm' h2 h3=>eG ⟨rfl,fun d=>r2 e h1 gm' h2 h3 d⟩) (fun e h1 h2 m G2=>⟨rfl,fun d=>h e h1 h2 m G2 d⟩)) (fun v l m1 d1 q=>?_) (fun c l m1 d1 q=>⟨q.1,q.2 d1⟩)
   obtain⟨rfl,q⟩:=q
   refine ak ?_;refine ac ?_;refine gP rfl ?_
   exact⟨_,ah _,q d1⟩
  ·(refine bU ?_;intro aa vv oo qq ee;refine ac ?_);refine gP rfl ?_
   exact⟨m,ah _,hX⟩
theorem fq{g:GR}{a:Addr}{gm M:Mem}{st:Str}{Q:V->Loc->Mem->Prop}(hK:W.K=hdK W.w.params)(c:aU A 400 4000)(hf:c8 A env outer)(G:bL ar aq g a gm)(d:Dis gm M)(h0:0<st.cps.size)(hs1:st.cps.size≤100)(hso:PyData.strOk st=true)
  (hnz:∀ ns,g.no.lookup st=some ns->ns.length≤100000) (hr:g.no.lookup st=none->Q (.bool true) loc (mun gm M)) (h:(g.no.lookup st).isSome=true->∀ m,bL ar aq (dK aq g st) a m->Dis m M->Q (.bool false) loc (mun m M)) :
  OpV W A env outer (fun vs=>call (.ref 315) vs) [.ref a,.str st] loc (mun gm M) Q E:=by
 refine bO (bs:=[("grammar",.ref a),("start",.str st)]) (by rw[hK];exact lUnst.at _) (by rw[hK];first|rfl|kernel_rfl|decide +kernel) (c.room (by decide)) ?_ (by intro y hy;simp at hy;rcases hy with rfl|rfl<;>rfl) (by decide) rfl rfl rfl ?_
 ·intro F s vs hb hk r
  obtain⟨_,_,r1,r2,rfl⟩:=r.isCons
  cases r2 with
  | cons r2 r3=>
   cases r3
   exact⟨_,BindsTo.of_eq rfl,.cons r1 (.cons r2 .nil)⟩
 ·intro L outer
  have cd:=(c.deeper (envX "_law_unstarted" lUnst.scope L 315 lUnst.code [])).mono (d':=700) (u':=6000) (by decide) (by decide)
  have fd:=hf.deeper (env':=envX "_law_unstarted" lUnst.scope L 315 lUnst.code []) (m0:=outer) rfl rfl
  (refine bU ?_;intro aa vv oo qq ee;refine ac ?_)
  refine Tr.locs (loc':=[("grammar",.ref a),("start",.str st)]) rfl ?_
  refine pC (C:=dA) (x:="GrammarError") (fun l m=>Q (.bool true) loc m) fd PySem.F.excBase_Exception rfl rfl rfl (by decide) (by rw[hK];rfl) (by rw[hK];kernel_rfl) ?_ (fun e l m hX=>?_)
  ·(refine aC ?_;intro qq ee;refine ac ?_);refine bP rfl rfl ?_;refine bC rfl rfl ?_
   obtain⟨adr,cc,MM,ok,ea⟩:=id G
   obtain⟨epd,hdict⟩:=ok.dict
   have hx:=bu (R:=M) (MM.get ok.self)
   have hd:=bu (R:=M) (MM.get hdict)
   rw[ea]at hx
   refine m_own (.own hx hd) (by rw[hK];first|rfl|kernel_rfl|decide +kernel) (by rw[hK];first|rfl|kernel_rfl|decide +kernel) (by rw[hK];first|rfl|kernel_rfl|decide +kernel) rfl (by rw[hK];first|rfl|kernel_rfl|decide +kernel) rfl rfl ?_
   refine aN rfl ?_
   refine Op.frameX (X:=fun c l m=>c = .ref dA/\(Dis m M->Q (.bool true) loc (mun m M))) (Q:=fun v l m=>l=_/\(Dis m M->Q (.bool false) loc (mun m M))) d (jr hK cd fd G (.str h0) hs1 hso
    (fun e=>eG ⟨rfl,fun _=>hr e⟩) hnz (fun h1 m G2=>⟨rfl,fun d=>h h1 m G2 d⟩)) (fun v l m1 d1 q=>?_) (fun c l m1 d1 q=>⟨q.1,q.2 d1⟩)
   obtain⟨rfl,q⟩:=q
   refine ak ?_;refine ac ?_;refine gP rfl ?_
   exact⟨_,ah _,q d1⟩
  ·(refine bU ?_;intro aa vv oo qq ee;refine ac ?_);refine gP rfl ?_
   exact⟨m,ah _,hX⟩
end
theorem oE{a b:List Str}(h:ae a=ae b):a=b:=by
 unfold ae at h
 exact(List.map_inj_right (fun x y e=>by cases e;rfl)).mp h
theorem oP{a b:aD}(h:bB a=bB b):a=b:=by
 obtain⟨a1,a2⟩:=a
 obtain⟨b1,b2⟩:=b
 unfold bB at h
 injection h with h
 injection h with h1 h2
 injection h1 with h1
 injection h2 with h2
 injection h2 with h2
 have h2:=oE h2
 dsimp only at h1 h2
 rw[h1,h2]
theorem pb{a:aD}{T:List aD}:bB a∈T.map bB↔a∈T:=by
 rw[List.mem_map]
 exact⟨fun⟨b,hb,e⟩=>oP e▸hb,fun h=>⟨a,h,rfl⟩⟩
noncomputable def kv(g:GR)(r:aD):GR:=addG g r.1 r.2 (.tup [.str "right",.int 0]) .none (.str "") (.int 0)
theorem ce(l:List (Str×List Int))(k:Str):(known l k).map (·.1)=if k∈l.map (·.1) then l.map (·.1) else l.map (·.1)++[k]:=by
 unfold known
 rw[aF]
 by_cases h:k∈l.map (·.1)
 ·rw[if_pos (by rw[List.contains_iff_mem];exact h),if_pos h]
 ·rw[if_neg (by rw[List.contains_iff_mem];exact h),if_neg h,List.map_append];rfl
theorem o0(num:Int)(tn:List (Str×List Int)×List (Str×List Int))(s:Str):(aR num tn s).1.map (·.1)=tn.1.map (·.1)/\
  ((tn.2.map (·.1)).Nodup->((aR num tn s).2.map (·.1)).Nodup)/\∀ n,n∈(aR num tn s).2.map (·.1)↔n∈tn.2.map (·.1)\/(n=s/\n∉tn.1.map (·.1)):=by
 unfold aR
 rw[aF]
 by_cases h:s∈tn.1.map (·.1)
 ·rw[if_pos (by rw[List.contains_iff_mem];exact h)]
  refine⟨bQ _ _ _,id,fun n=>⟨.inl,fun q=>q.elim id fun⟨e,z⟩=>absurd (e▸h) z⟩⟩
 ·rw[if_neg (by rw[List.contains_iff_mem];exact h)]
  refine⟨rfl,fun hn=>?_,fun n=>?_⟩
  ·rw[bQ,ce]
   split
   ·exact hn
   ·rename_i q
    rw[List.nodup_append]
    exact⟨hn,by simp,fun a ha b hb e=>by rw[List.mem_singleton]at hb;subst hb;exact q (e▸ha)⟩
  ·rw[bQ,ce]
   split
   ·rename_i q
    exact⟨.inl,fun z=>z.elim id fun⟨e,_⟩=>e▸q⟩
   ·rw[List.mem_append,List.mem_singleton]
    exact⟨fun z=>z.elim .inl fun e=>.inr ⟨e,e▸h⟩,fun z=>z.elim .inl fun⟨e,_⟩=>.inr e⟩
theorem mA(num:Int)(syms:List Str)(tn:List (Str×List Int)×List (Str×List Int)):(syms.foldl (aR num) tn).1.map (·.1)=tn.1.map (·.1)/\
  ((tn.2.map (·.1)).Nodup->((syms.foldl (aR num) tn).2.map (·.1)).Nodup)/\∀ n,n∈(syms.foldl (aR num) tn).2.map (·.1)↔n∈tn.2.map (·.1)\/(n∈syms/\n∉tn.1.map (·.1)):=by
 induction syms generalizing tn with
 | nil=>exact⟨rfl,id,fun n=>⟨.inl,fun q=>q.elim id fun⟨e,_⟩=>nomatch e⟩⟩
 | cons s syms ih=>
  obtain⟨a1,a2,a3⟩:=o0 num tn s
  obtain⟨b1,b2,b3⟩:=ih (aR num tn s)
  refine⟨b1.trans a1,fun h=>b2 (a2 h),fun n=>?_⟩
  rw[List.foldl_cons,b3,a3,a1,List.mem_cons]
  constructor
  ·rintro((h|⟨h,z⟩)|⟨h,z⟩)
   ·exact .inl h
   ·exact .inr ⟨.inl h,z⟩
   ·exact .inr ⟨.inr h,z⟩
  ·rintro(h|⟨h|h,z⟩)
   ·exact .inl (.inl h)
   ·exact .inl (.inr ⟨h,z⟩)
   ·exact .inr ⟨h,z⟩
theorem cW.mono{B B':Nat}{tn:List (Str×List Int)×List (Str×List Int)}(h:cW B tn)(hB:B≤B'):cW B' tn:=
 ⟨Nat.le_trans h.1 hB,fun k ns e=>Nat.le_trans (h.2.1 k ns e) hB,fun k ns e=>Nat.le_trans (h.2.2 k ns e) hB⟩
noncomputable def Emp(l:List (Str×List Int))(P:Str->Prop):Prop:=∀ q∈l,(q.2=[]↔P q.1)
theorem Emp.push{l:List (Str×List Int)}{P:Str->Prop}(h:Emp l P)(s:Str)(n:Int):Emp (b9 l s n) (fun k=>P k/\k≠s):=by
 intro q hq
 obtain⟨q',hq',rfl⟩:=inM hq
 by_cases e:q'.1=s
 ·simp[e]
 ·simp only [if_neg e]
  exact⟨fun z=>⟨(h _ hq').mp z,e⟩,fun z=>(h _ hq').mpr z.1⟩
theorem Emp.known{l:List (Str×List Int)}{P:Str->Prop}(h:Emp l P)(s:Str)(hs:s∉l.map (·.1)->P s):Emp (known l s) P:=by
 unfold Mine.known
 split
 ·exact h
 ·rename_i q
  intro z hz
  rcases List.mem_append.mp hz with hz|hz
  ·exact h z hz
  ·rw[List.mem_singleton]at hz;subst hz
   refine⟨fun _=>hs fun w=>q ?_,fun _=>rfl⟩
   rw[aF,List.contains_iff_mem];exact w
theorem Emp.iff{l:List (Str×List Int)}{P P':Str->Prop}(h:Emp l P)(hp:∀ q∈l,(P q.1↔P' q.1)):Emp l P':=fun q hq=>(h q hq).trans (hp q hq)
structure UI(tn:List (Str×List Int)×List (Str×List Int))(P:Str->Prop):Prop where
 te:Emp tn.1 P
 no:Emp tn.2 P
 dis:∀ k,k∈tn.2.map (·.1)->k∉tn.1.map (·.1)
 new:∀ k,k∉tn.1.map (·.1)->k∉tn.2.map (·.1)->P k
theorem UI.iff{tn:List (Str×List Int)×List (Str×List Int)}{P P':Str->Prop}(h:UI tn P)(hp:∀ k,P k↔P' k):UI tn P':=
 ⟨h.te.iff fun q _=>hp q.1,h.no.iff fun q _=>hp q.1,h.dis,fun k a b=>(hp k).mp (h.new k a b)⟩
theorem UI.known{te no:List (Str×List Int)}{P:Str->Prop}(h:UI (te,no) P)(r:Str)(hr:r∉te.map (·.1)):UI (te,known no r) P where
 te:=h.te
 no:=h.no.known r fun z=>h.new r hr z
 dis k hk:=by
  show k∉te.map (·.1)
  have hk:k∈(Mine.known no r).map (·.1):=hk
  rw[ce]at hk
  split at hk
  ·exact h.dis k hk
  ·rcases List.mem_append.mp hk with hk|hk
   ·exact h.dis k hk
   ·rw[List.mem_singleton]at hk;rw[hk];exact hr
 new k h1 h2:=by
  refine h.new k h1 fun z=>h2 ?_
  show k∈(Mine.known no r).map (·.1)
  rw[ce]
  split
  ·exact z
  ·exact List.mem_append_left _ z
theorem UI.note{tn:List (Str×List Int)×List (Str×List Int)}{P:Str->Prop}(h:UI tn P)(num:Int)(s:Str):UI (aR num tn s) (fun k=>P k/\k≠s):=by
 obtain⟨te,no⟩:=tn
 unfold aR
 rw[aF]
 by_cases q:s∈te.map (·.1)
 ·rw[if_pos (by rw[List.contains_iff_mem];exact q)]
  refine⟨h.te.push s num,h.no.iff fun z hz=>⟨fun w=>⟨w,fun e=>h.dis z.1 (List.mem_map.mpr ⟨z,hz,rfl⟩) (e▸q)⟩,fun w=>w.1⟩,fun k hk=>?_,fun k h1 h2=>?_⟩
  ·show k∉(b9 te s num).map (·.1)
   rw[bQ];exact h.dis k hk
  ·have h1:k∉(b9 te s num).map (·.1):=h1
   rw[bQ]at h1
   exact⟨h.new k h1 h2,fun e=>h1 (e▸q)⟩
 ·rw[if_neg (by rw[List.contains_iff_mem];exact q)]
  have hk:=h.known s q
  refine⟨h.te.iff fun z hz=>⟨fun w=>⟨w,fun e=>q (e▸List.mem_map.mpr ⟨z,hz,rfl⟩)⟩,fun w=>w.1⟩,hk.no.push s num,fun k hk'=>?_,fun k h1 h2=>?_⟩
  ·have hk':k∈(b9 (Mine.known no s) s num).map (·.1):=hk'
   rw[bQ]at hk';exact hk.dis k hk'
  ·have h2:k∉(b9 (Mine.known no s) s num).map (·.1):=h2
   rw[bQ]at h2
   refine⟨hk.new k h1 h2,fun e=>h2 ?_⟩
   rw[e,ce]
   split
   ·assumption
   ·exact List.mem_append_right _ (.head _)
theorem UI.notes{tn:List (Str×List Int)×List (Str×List Int)}{P:Str->Prop}(h:UI tn P)(num:Int)(syms:List Str):UI (syms.foldl (aR num) tn) (fun k=>P k/\k∉syms):=by
 induction syms generalizing tn P with
 | nil=>exact h.iff fun k=>⟨fun z=>⟨z,fun w=>nomatch w⟩,fun z=>z.1⟩
 | cons s syms ih=>
  refine(ih (h.note num s)).iff fun k=>?_
  rw[List.mem_cons,not_or]
  exact⟨fun z=>⟨z.1.1,z.1.2,z.2⟩,fun z=>⟨⟨z.1,z.2.1⟩,z.2.2⟩⟩
theorem UI.add{R:List aD}{g:GR}(h:UI (g.te,g.no) fun k=>∀ r∈R,k∉r.2){r:aD}(hr:r.1∉g.te.map (·.1)):UI ((kv g r).te,(kv g r).no) fun k=>∀ q∈R++[r],k∉q.2:=by
 have e:((kv g r).te,(kv g r).no)=r.2.foldl (aR ((g.prods.length:Int)+1)) (g.te,Mine.known g.no r.1):=rfl
 rw[e]
 refine((h.known r.1 hr).notes _ r.2).iff fun k=>⟨fun z q hq=>?_,fun z=>⟨fun q hq=>z q (List.mem_append_left _ hq),z r (List.mem_append_right _ (.head _))⟩⟩
 rcases List.mem_append.mp hq with hq|hq
 ·exact z.1 q hq
 ·rw[List.mem_singleton]at hq;rw[hq];exact z.2
theorem qN{β:Type}{l:List (Str×β)}{x:Str}(h:x∉l.map (·.1)):l.lookup x=none:=by
 have:=aF l x
 cases q:l.lookup x with
 | none=>rfl
 | some z=>
  rw[q]at this
  have hc:(l.map (·.1)).contains x=true:=this.symm
  rw[List.contains_iff_mem]at hc;exact absurd hc h
theorem gQ{c:Nat}:∀ {a b x y:List Nat},c∉a->c∉b->a++c::x=b++c::y->a=b/\x=y
 | [],[],x,y,_,_,h=>by simp at h;exact⟨rfl,h⟩
 | [],d::b,x,y,_,hb,h=>by simp at h;exact absurd (.head _) (h.1▸hb)
 | d::a,[],x,y,ha,_,h=>by simp at h;exact absurd (.head _) (h.1▸ha)
 | d::a,e::b,x,y,ha,hb,h=>by
  simp only [List.cons_append,List.cons.injEq]at h
  obtain⟨rfl,h⟩:=h
  obtain⟨rfl,h2⟩:=gQ (fun q=>ha (.tail _ q)) (fun q=>hb (.tail _ q)) h
  exact⟨rfl,h2⟩
noncomputable def dT:List (List Nat)->List Nat
 | []=>[]
 | [x]=>x
 | x::y::r=>x++44::32::dT (y::r)
noncomputable def quo(s:List Nat):List Nat:=39::s++[39]
theorem jW:∀ {a b:List (List Nat)},(∀ x∈a,39∉x)->(∀ x∈b,39∉x)->dT (a.map quo)++[93]=dT (b.map quo)++[93]->a=b
 | [],[],_,_,_=>rfl
 | [],[y],_,_,h=>by simp[dT,quo]at h
 | [],y::z::b,_,_,h=>by simp[dT,quo]at h
 | [x],[],_,_,h=>by simp[dT,quo]at h
 | x::z::a,[],_,_,h=>by simp[dT,quo]at h
 | [x],[y],ha,hb,h=>by
  simp only [List.map_cons,List.map_nil,dT,quo,List.cons_append,List.cons.injEq,true_and,List.append_assoc,List.nil_append]at h
  obtain⟨rfl,_⟩:=gQ (ha x (.head _)) (hb y (.head _)) h
  rfl
 | [x],y::z::b,ha,hb,h=>by
  simp only [List.map_cons,List.map_nil,dT,quo,List.cons_append,List.cons.injEq,true_and,List.append_assoc,List.nil_append]at h
  obtain⟨_,h2⟩:=gQ (ha x (.head _)) (hb y (.head _)) h
  simp at h2
 | x::z::a,[y],ha,hb,h=>by
  simp only [List.map_cons,List.map_nil,dT,quo,List.cons_append,List.cons.injEq,true_and,List.append_assoc,List.nil_append]at h
  obtain⟨_,h2⟩:=gQ (ha x (.head _)) (hb y (.head _)) h
  simp at h2
 | x::z::a,y::w::b,ha,hb,h=>by
  simp only [List.map_cons,dT]at h
  unfold quo at h
  simp only [List.cons_append,List.cons.injEq,true_and,List.append_assoc,List.nil_append]at h
  obtain⟨rfl,h2⟩:=gQ (ha x (.head _)) (hb y (.head _)) h
  simp only [List.cons.injEq,true_and]at h2
  have:=jW (a:=z::a) (b:=w::b) (fun x hx=>ha x (.tail _ hx)) (fun x hx=>hb x (.tail _ hx)) h2
  rw[this]
theorem dm(a b:Str):(a++b).cps.toList=a.cps.toList++b.cps.toList:=Array.toList_append
theorem dk:∀ s∈SY3,(PyData.str s).shown.cps.toList=quo s.cps.toList/\39∉s.cps.toList/\32∉s.cps.toList:=by decide +kernel
theorem kS:∀ (ys:List Str),(∀ y∈ys,y∈SY3)->(Str.join ", " (PyData.shownAll (ys.map .str))).cps.toList=dT ((ys.map fun s=>s.cps.toList).map quo)
 | [],_=>rfl
 | [y],h=>by
  show((PyData.str y).shown).cps.toList=quo y.cps.toList
  exact(dk y (h y (.head _))).1
 | y::z::ys,h=>by
  have ih:=kS (z::ys) fun x hx=>h x (.tail _ hx)
  show((PyData.str y).shown++(", " : Str)++Str.join ", " (PyData.shownAll ((z::ys).map .str))).cps.toList=quo y.cps.toList++44::32::dT (((z::ys).map fun s=>s.cps.toList).map quo)
  rw[dm,dm,(dk y (h y (.head _))).1,ih,List.append_assoc]
  congr 1
theorem n8{a b:Str}(h:a.cps.toList=b.cps.toList):a=b:=by
 cases a;cases b
 exact congrArg Str.mk (Array.toList_inj.mp h)
theorem lV{r q:aD}(hr:RL3 r)(hq:RL3 q)(h:aJ r.1 r.2=aJ q.1 q.2):r=q:=by
 have e:∀ {r:aD},RL3 r->(aJ r.1 r.2).cps.toList=r.1.cps.toList++32::45::62::32::91::(dT ((r.2.map fun s=>s.cps.toList).map quo)++[93]):=fun {r} hr=>by
  unfold aJ
  rw[PyData.shown_list,dm,dm,dm,dm,kS _ hr.body]
  have e1:(" -> " : Str).cps.toList=[32,45,62,32]:=by decide +kernel
  have e2:("[" : Str).cps.toList=[91]:=by decide +kernel
  have e3:("]" : Str).cps.toList=[93]:=by decide +kernel
  rw[e1,e2,e3]
  simp
 have h:=congrArg (fun s:Str=>s.cps.toList) h
 rw[e hr,e hq]at h
 obtain⟨h1,h2⟩:=gQ (dk _ (cq _ hr.left)).2.2 (dk _ (cq _ hq.left)).2.2 h
 simp only [List.cons.injEq,true_and]at h2
 have h3:=jW (fun x hx=>by obtain⟨s,hs,rfl⟩:=inM hx;exact(dk s (hr.body s hs)).2.1) (fun x hx=>by obtain⟨s,hs,rfl⟩:=inM hx;exact(dk s (hq.body s hs)).2.1) h2
 obtain⟨l,b⟩:=r
 obtain⟨l2,b2⟩:=q
 have h4:b=b2:=(List.map_inj_right (fun x y e=>n8 e)).mp h3
 rw[show l=l2 from n8 h1,h4]
noncomputable def jB(i:Nat)(r:aD):Pr:={ name:=r.1,body:=r.2,num:=(i:Int)+1,prec:=.tup [.str "right",.int 0],func:=.none,file:=.str "",line:=.int 0 }
noncomputable def bW(R:List aD):List Pr:=R.zipIdx.map fun q=>jB q.2 q.1
theorem kf(R:List aD)(r:aD):bW (R++[r])=bW R++[jB R.length r]:=by
 unfold bW
 rw[List.zipIdx_append,List.map_append]
 simp
theorem eU(R:List aD):(bW R).length=R.length:=by unfold bW;rw[List.length_map,List.length_zipIdx]
theorem cX{R:List aD}{p:Pr}(h:p∈bW R):∃ i,∃ r∈R,p=jB i r:=by
 obtain⟨q,hq,rfl⟩:=inM h
 exact⟨_,_,List.fst_mem_of_mem_zipIdx hq,rfl⟩
theorem dW{R:List aD}{r:aD}(h:r∈R):∃ i,jB i r∈bW R:=by
 obtain⟨i,hi,e⟩:=List.getElem_of_mem h
 refine⟨i,List.mem_map.mpr ⟨(r,i),?_,rfl⟩⟩
 rw[List.mem_zipIdx_iff_getElem?]
 rw[List.getElem?_eq_getElem hi,e]
noncomputable def bt:Str:="+"
noncomputable def bH:Str:="'+'"
noncomputable def bc(R:List aD):List Str:=R.flatMap (·.2)
noncomputable def eM(ys:List Str):List Str:=if decide (bt∈ys) then [bt] else []
theorem mT{ys:List Str}(h:bt∈ys):eM ys=[bt]:=if_pos (decide_eq_true h)
theorem pi{ys:List Str}(h:bt∉ys):eM ys=[]:=if_neg fun e=>h (of_decide_eq_true e)
noncomputable def teK(R:List aD):List Str:=ABC++[("error" : Str)]++eM (bc R)
noncomputable def SYQ:List Str:=["S","A","B","C","a","b","c","error","'+'"]
noncomputable def unq(s:Str):Str:=if s=bH then bt else s
noncomputable def mtF(s:Str):Option Str:=if s=bH then some bt else if s∈io then none else some s
theorem fj(R:List aD)(r:aD):bc (R++[r])=bc R++r.2:=by unfold bc;rw[List.flatMap_append,List.flatMap_singleton]
theorem hV:∀ R:List aD,∀ n∈NM,n∉teK R:=fun R n hn h=>by
 have:=(show ∀ n∈NM,n∉ABC++[("error" : Str)]++[bt] by decide +kernel) n hn
 refine this ?_
 unfold teK eM at h
 split at h
 ·exact h
 ·rw[List.append_nil]at h;exact List.mem_append_left _ h
theorem te_all:∀ s∈SY3,s∉NM->s∈ABC++[("error" : Str)]++[bt]:=by decide +kernel
theorem nB{R:List aD}{s:Str}(hs:s∈SY3)(hn:s∉NM)(hp:s=bt->s∈bc R):s∈teK R:=by
 have h:=te_all s hs hn
 unfold teK eM
 rcases List.mem_append.mp h with h|h
 ·exact List.mem_append_left _ h
 ·rw[List.mem_singleton]at h
  rw[if_pos (decide_eq_true (h▸hp h)),h]
  exact List.mem_append_right _ (.head _)
structure Wf3(R:List aD)(g:GR):Prop where
 prods:g.prods=bW R
 te:g.te.map (·.1)=teK R
 pn:∀ n,n∈g.pn↔n∈bx R
 nod:(g.no.map (·.1)).Nodup
 no:∀ n,n∈g.no.map (·.1)↔n∈NM/\(n∈bx R\/n∈bc R)
 pr:g.pr=[]
 len:cW (30*R.length+40) (g.te,g.no)
 pz:g.pn.length≤R.length
structure de(R:List aD)(g:GR):Prop where
 wf:Wf3 R g
 ui:UI (g.te,g.no) fun k=>∀ r∈R,k∉r.2
 p0:g.p0 = .none
 len:cW (30*R.length+30) (g.te,g.no)
theorem l9(l:List (Str×List Int))(k:Str):known (known l k) k=known l k:=by
 have:((known l k).lookup k).isSome=true:=by rw[db,if_pos rfl];rfl
 exact(show known (known l k) k=if ((known l k).lookup k).isSome then known l k else _ from rfl).trans (if_pos this)
theorem gv(l:List Str):∀ te:List (Str×List Int),bJ mtF te l=if decide (bH∈l) then known te bt else te:=by
 induction l with
 | nil=>intro te;rfl
 | cons s l ih=>
  intro te
  have e:bJ mtF te (s::l)=bJ mtF (match mtF s with|some c=>if c=s then te else known te c|none=>te) l:=rfl
  rw[e,ih]
  unfold mtF
  by_cases q:s=bH
  ·rw[if_pos q]
   subst q
   have:bt≠bH:=by decide +kernel
   simp only [if_neg this,List.mem_cons,true_or,decide_true,if_true]
   split
   ·exact l9 _ _
   ·rfl
  ·rw[if_neg q]
   have q2:¬ bH=s:=fun e=>q e.symm
   have hm:(bH∈s::l)↔bH∈l:=by rw[List.mem_cons];exact⟨fun h=>h.resolve_left q2,.inr⟩
   have hd:decide (bH∈s::l)=decide (bH∈l):=decide_eq_decide.mpr hm
   rw[hd]
   have e2:(match (if s∈io then none else some s) with|some c=>if c=s then te else known te c|none=>te)=te:=by
    by_cases z:s∈io
    ·rw[if_pos z]
    ·rw[if_neg z]
     exact if_pos rfl
   rw[e2]
theorem lQ:∀ s∈SYQ,(unq s=bt↔s=bH):=by decide +kernel
theorem kd:∀ s∈SYQ,unq s∈SY3:=by decide +kernel
theorem iT{ss:List Str}(h:∀ s∈ss,s∈SYQ):bt∈ss.map unq↔bH∈ss:=by
 rw[List.mem_map]
 constructor
 ·rintro⟨s,hs,e⟩
  rw[(lQ s (h s hs)).mp e]at hs;exact hs
 ·intro hs
  exact⟨_,hs,(lQ _ (h _ hs)).mpr rfl⟩
theorem pO{R:List aD}{g:GR}(W:Wf3 R g)(h:bt∈bc R):known g.te bt=g.te:=by
 unfold known
 rw[aF,W.te]
 refine if_pos (List.contains_iff_mem.mpr ?_)
 unfold teK eM
 rw[if_pos (decide_eq_true h)]
 exact List.mem_append_right _ (.head _)
theorem o6{R:List aD}{g:GR}(W:Wf3 R g){ss:List Str}(h:∀ s∈ss,s∈SYQ):(bJ mtF g.te ss).map (·.1)=ABC++[("error" : Str)]++eM (bc R++ss.map unq):=by
 rw[gv]
 by_cases q:bH∈ss
 ·rw[if_pos (decide_eq_true q),ce,W.te]
  have hp:bt∈bc R++ss.map unq:=List.mem_append_right _ ((iT h).mpr q)
  rw[mT hp]
  have nq:bt∉ABC++[("error" : Str)]:=by decide +kernel
  unfold teK
  by_cases z:bt∈bc R
  ·rw[mT z]
   exact if_pos (List.mem_append_right _ (.head _))
  ·rw[pi z,List.append_nil]
   exact if_neg nq
 ·rw[if_neg (by rw[decide_eq_true_iff];exact q),W.te]
  unfold teK eM
  have:bt∈bc R++ss.map unq↔bt∈bc R:=by
   rw[List.mem_append,iT h];exact⟨fun z=>z.resolve_right q,.inl⟩
  rw[decide_eq_decide.mpr this]
theorem lF(R:List aD)(r:aD):bx (R++[r])=bx R++[r.1]:=by unfold bx;rw[List.map_append];rfl
theorem cU{R:List aD}{s:Str}:s∈bc R↔∃ r∈R,s∈r.2:=List.mem_flatMap
theorem e8{R:List aD}{s:Str}:(∀ r∈R,s∉r.2)↔s∉bc R:=by
 rw[cU]
 exact⟨fun h ⟨r,hr,hs⟩=>h r hr hs,fun h r hr hs=>h ⟨r,hr,hs⟩⟩
noncomputable def mC(g:GR)(ss:List Str):GR:={ g with te:=bJ mtF g.te ss }
theorem de.add{R:List aD}{g:GR}(V:de R g){x:Str}{ss:List Str}(hx:x∈NM)(h:∀ s∈ss,s∈SYQ)(hl:ss.length≤3):de (R++[(x,ss.map unq)]) (kv (mC g ss) (x,ss.map unq)):=by
 obtain⟨I,ui,hp0,hlen⟩:=V
 have hk:=o6 I h
 have ek:ABC++[("error" : Str)]++eM (bc R++ss.map unq)=teK (R++[(x,ss.map unq)]):=by unfold teK;rw[fj]
 rw[ek]at hk
 have hsy:∀ y∈ss.map unq,y∈SY3:=fun y hy=>by
  obtain⟨s,hs,rfl⟩:=inM hy
  exact kd s (h s hs)
 have hno1:∀ n∈g.no.map (·.1),n∉teK (R++[(x,ss.map unq)]):=fun n hn=>hV _ n ((I.no n).mp hn).1
 have hxt:x∉(bJ mtF g.te ss).map (·.1):=by rw[hk];exact hV _ x hx
 have ui1:UI ((mC g ss).te,(mC g ss).no) fun k=>∀ r∈R,k∉r.2:=by
  refine⟨?_,ui.no,fun k hk1=>?_,fun k h1 h2=>?_⟩
  ·show Emp (bJ mtF g.te ss) _
   rw[gv]
   split
   ·exact Emp.known ui.te bt fun z=>ui.new _ z fun w=>(show bt∉NM by decide +kernel) ((I.no _).mp w).1
   ·exact ui.te
  ·show k∉(bJ mtF g.te ss).map (·.1)
   rw[hk];exact hno1 k hk1
  ·have h1:k∉(bJ mtF g.te ss).map (·.1):=h1
   refine ui.new k (fun z=>h1 ?_) h2
   rw[gv]
   split
   ·rw[ce];split
    ·exact z
    ·exact List.mem_append_left _ z
   ·exact z
 obtain⟨a1,a2,a3⟩:=mA ((g.prods.length:Int)+1) (ss.map unq) (bJ mtF g.te ss,known g.no x)
 have e:kv (mC g ss) (x,ss.map unq)={ g with prods:=g.prods++[{ name:=x,body:=ss.map unq,num:=(g.prods.length:Int)+1,prec:=.tup [.str "right",.int 0],func:=.none,file:=.str "",line:=.int 0 }],pn:=if x∈g.pn then g.pn else g.pn++[x],te:=((ss.map unq).foldl (aR ((g.prods.length:Int)+1)) (bJ mtF g.te ss,known g.no x)).1,no:=((ss.map unq).foldl (aR ((g.prods.length:Int)+1)) (bJ mtF g.te ss,known g.no x)).2 }:=rfl
 have hlen2:cW (30*(R++[(x,ss.map unq)]).length+30) (((ss.map unq).foldl (aR ((g.prods.length:Int)+1)) (bJ mtF g.te ss,known g.no x)).1,((ss.map unq).foldl (aR ((g.prods.length:Int)+1)) (bJ mtF g.te ss,known g.no x)).2):=by
  have h0:cW (30*R.length+30) (bJ mtF g.te ss,g.no):=⟨hlen.1,by
   rw[gv]
   split
   ·exact dJ hlen.2.1
   ·exact hlen.2.1,hlen.2.2⟩
  have h1:cW (30*R.length+31) (bJ mtF g.te ss,known g.no x):=by
   obtain⟨b1,b2,b3⟩:=h0
   refine⟨?_,fun k ns e=>by have:=b2 k ns e;lia,fun k ns e=>by have:=dJ b3 k ns e;lia⟩
   have:=@eF g.no x
   dsimp only at b1 ⊢;lia
  have:=jR h1 ((g.prods.length:Int)+1) (ss.map unq)
  refine this.mono ?_
  rw[List.length_append,List.length_singleton,List.length_map];lia
 refine⟨?_,UI.add ui1 hxt,by rw[e];exact hp0,hlen2⟩
 rw[e]
 constructor
 ·show g.prods++_=_
  rw[I.prods,kf,eU];rfl
 ·exact a1.trans hk
 ·intro n
  show n∈(if x∈g.pn then g.pn else g.pn++[x])↔_
  rw[lF,List.mem_append,List.mem_singleton,<-I.pn]
  split
  ·rename_i q;exact⟨.inl,fun z=>z.elim id fun e=>e▸q⟩
  ·rw[List.mem_append,List.mem_singleton]
 ·refine a2 ?_
  show((known g.no x).map (·.1)).Nodup
  rw[ce]
  split
  ·exact I.nod
  ·rename_i q
   rw[List.nodup_append]
   exact⟨I.nod,by simp,fun a ha b hb e9=>by rw[List.mem_singleton]at hb;exact q (hb▸e9▸ha)⟩
 ·intro n
  refine(a3 n).trans ?_
  show n∈(known g.no x).map (·.1)\/(n∈ss.map unq/\n∉(bJ mtF g.te ss).map (·.1))↔_
  rw[ce,hk]
  have hk2:n∈(if x∈g.no.map (·.1) then g.no.map (·.1) else g.no.map (·.1)++[x])↔n∈g.no.map (·.1)\/n=x:=by
   split
   ·rename_i q;exact⟨.inl,fun z=>z.elim id fun e=>e▸q⟩
   ·rw[List.mem_append,List.mem_singleton]
  rw[hk2,I.no,lF,fj,List.mem_append,List.mem_append,List.mem_singleton]
  constructor
  ·rintro((⟨h1,h2⟩|h1)|⟨h1,h2⟩)
   ·exact⟨h1,h2.elim (fun z=>.inl (.inl z)) fun z=>.inr (.inl z)⟩
   ·exact⟨h1▸hx,.inl (.inr h1)⟩
   ·have hn:n∈NM:=by
     by_cases q:n∈NM
     ·exact q
     ·exact absurd (nB (hsy n h1) q fun e=>by rw[fj];exact List.mem_append_right _ h1) h2
    exact⟨hn,.inr (.inr h1)⟩
  ·rintro⟨h1,(h2|h2)|(h2|h2)⟩
   ·exact .inl (.inl ⟨h1,.inl h2⟩)
   ·exact .inl (.inr h2)
   ·exact .inl (.inl ⟨h1,.inr h2⟩)
   ·exact .inr ⟨h2,hV _ n h1⟩
 ·exact I.pr
 ·exact hlen2.mono (by lia)
 ·show List.length (if x∈g.pn then g.pn else g.pn++[x])≤_
  rw[List.length_append,List.length_singleton]
  have:=I.pz
  split
  ·lia
  ·rw[List.length_append,List.length_singleton];lia
theorem lu(up:V):cW 30 ((g0 ABC up).te,(g0 ABC up).no):=by
 refine⟨Nat.zero_le _,fun k ns e=>?_,fun k ns e=>nomatch e⟩
 have:∀ q∈(g0 ABC up).te,q.2=[]:=fun q hq=>by
  rcases List.mem_append.mp hq with hq|hq
  ·obtain⟨t,_,rfl⟩:=inM hq;rfl
  ·rw[List.mem_singleton]at hq;rw[hq]
 have e2:∀ (l:List (Str×List Int)),l.lookup k=some ns->(k,ns)∈l:=fun l=>by
  induction l with
  | nil=>intro z;cases z
  | cons a l ih=>
   obtain⟨x,y⟩:=a
   intro z
   rw[List.lookup_cons]at z
   split at z
   ·rename_i w;cases z;rw[beq_iff_eq]at w;rw[w];exact .head _
   ·exact .tail _ (ih z)
 have:=this _ (e2 _ e)
 dsimp only at this;rw[this];exact Nat.zero_le _
theorem de.zero(up:V):de [] (g0 ABC up) where
 len:=lu up
 p0:=rfl
 ui:=⟨fun q hq=>⟨fun _ r hr=>(nomatch hr),fun _=>by
   rcases List.mem_append.mp hq with hq|hq
   ·obtain⟨t,_,rfl⟩:=inM hq;rfl
   ·rw[List.mem_singleton]at hq;rw[hq]⟩,fun q hq=>(nomatch hq),fun k hk=>(nomatch hk),fun k _ _ r hr=>(nomatch hr)⟩
 wf:={
  prods:=rfl
  te:=rfl
  pn:=fun n=>⟨fun h=>(nomatch h),fun h=>(nomatch h)⟩
  nod:=List.nodup_nil
  no:=fun n=>⟨fun h=>(nomatch h),fun⟨_,h⟩=>h.elim (fun z=>nomatch z) fun z=>nomatch z⟩
  pr:=rfl
  len:=(lu up).mono (by decide)
  pz:=Nat.le_refl _ }
noncomputable def gS(g:GR):Option Str->GR
 | none=>g
 | some st=>dK aq g st
noncomputable def olOf:Option Str->Option Pr
 | none=>none
 | some st=>some ⟨"S'",[st],0,.tup [.str "right",.int 0],.none,.str "",.int 0⟩
noncomputable def im(R:List aD)(os:Option Str):Prop:=∀ s∈osL os,s∈NM/\(s∈bx R\/s∈bc R)
theorem iU{l:List (Str×List Int)}{B:Nat}(hn:(l.map (·.1)).Nodup)(h:∀ k ns,l.lookup k=some ns->ns.length≤B):∀ q∈l,q.2.length≤B:=fun q hq=>h q.1 q.2 (gV hn hq)
theorem f7(g:GR)(os:Option Str):(gS g os).no.map (·.1)=g.no.map (·.1):=by
 cases os with
 | none=>rfl
 | some s=>exact bQ _ _ _
theorem fu(g:GR)(os:Option Str):(gS g os).te=g.te:=by cases os<;>rfl
theorem bM(g:GR)(os:Option Str):(gS g os).prods=g.prods:=by cases os<;>rfl
theorem jg(g:GR)(os:Option Str):(gS g os).pn=g.pn:=by cases os<;>rfl
theorem im.sy{R:List aD}{os:Option Str}(h:im R os):∀ s∈osL os,s∈SY3:=fun s hs=>cq _ (h s hs).1
theorem mP(R:List aD):(teK R).Nodup/\(teK R).length≤5/\il∉teK R/\il∉NM:=by
 unfold teK eM
 split<;>decide +kernel
section
variable {R:List aD}{g:GR}{os:Option Str}
theorem sub_len{l u:List Str}(hn:l.Nodup)(h:∀ x∈l,x∈u):l.length≤u.length:=by
 induction l generalizing u with
 | nil=>exact Nat.zero_le _
 | cons a l ih=>
  rw[List.nodup_cons]at hn
  have ha:=h a (.head _)
  have:=ih (u:=u.erase a) hn.2 fun x hx=>by
   have hne:x≠a:=fun e=>hn.1 (e▸hx)
   exact(List.mem_erase_of_ne hne).mpr (h x (.tail _ hx))
  rw[List.length_erase_of_mem ha]at this
  have:=List.length_pos_of_mem ha
  rw[List.length_cons];lia
theorem Wf3.no_len (W:Wf3 R g):(g.no.map (·.1)).length≤4:=
   sub_len (u:=NM) W.nod fun n hn=>((W.no n).mp hn).1
theorem de.emp(V:de R g)(hs:im R os):Emp (gS g os).no fun k=>k∉bF R os:=by
 cases os with
 | none=>
  refine V.ui.no.iff fun q _=>?_
  rw[e8]
  unfold bF osL
  rw[List.append_nil];rfl
 | some st=>
  refine(V.ui.no.push st 0).iff fun q _=>?_
  rw[e8]
  unfold bF osL
  rw[List.mem_append,not_or,List.mem_singleton];rfl
theorem de.wfS(V:de R g)(os:Option Str):Wf3 R (gS g os):=by
 cases os with
 | none=>exact V.wf
 | some st=>
  have W:=V.wf
  refine⟨W.prods,W.te,W.pn,?_,fun n=>?_,W.pr,⟨?_,fun k ns e=>Nat.le_trans (V.len.2.1 k ns e) (by lia),fun k ns e=>Nat.le_trans (fJ V.len.2.2 k ns e) (by lia)⟩,W.pz⟩
  ·show((b9 g.no st 0).map (·.1)).Nodup
   rw[bQ];exact W.nod
  ·show n∈(b9 g.no st 0).map (·.1)↔_
   rw[bQ];exact W.no n
  ·show(b9 g.no st 0).length≤_
   have:=V.len.1
   unfold b9;rw[List.length_map];dsimp only at this;lia
theorem de.tok(V:de R g)(I:LR3 R)(hs:im R os):TOk (gS g os) (olOf os) os:=by
 have W:=V.wf
 have hz:=I.hz
 obtain⟨t1,t2,t3,t4⟩:=mP R
 have tl:g.te.length≤5:=by have:=congrArg List.length W.te;rw[List.length_map]at this;lia
 have nl:(gS g os).no.length≤4:=by have:=W.no_len;rw[<-f7 g os,List.length_map]at this;exact this
 have tn:(g.te.map (·.1)).Nodup:=by rw[W.te];exact t1
 have nn:((gS g os).no.map (·.1)).Nodup:=by rw[f7];exact W.nod
 have hb:∀ p∈g.prods,p.body.length≤3/\(∀ y∈p.body,y∈SY3/\y∈bc R)/\p.name∈bx R:=fun p hp=>by
  rw[W.prods]at hp
  obtain⟨i,r,hr,rfl⟩:=cX hp
  exact⟨(I.ok r hr).len,fun y hy=>⟨(I.ok r hr).body y hy,cU.mpr ⟨r,hr,hy⟩⟩,List.mem_map.mpr ⟨r,hr,rfl⟩⟩
 have pl:g.prods.length≤6:=by rw[W.prods,eU];exact hz
 have kn:∀ n∈NM,(n∈bx R\/n∈bc R)->n∈kK (gS g os):=fun n h1 h2=>List.mem_append_right _ (by rw[f7];exact(W.no n).mpr ⟨h1,h2⟩)
 have nmdef:∀ n∈bx R,n∈NM:=fun n hn=>by
  obtain⟨r,hr,rfl⟩:=inM hn
  exact(I.ok r hr).left
 constructor
 ·constructor
  ·unfold kK tK
   rw[fu,f7,W.te,List.nodup_append,List.nodup_append]
   refine⟨⟨t1,by simp,fun a ha b hb e=>?_⟩,W.nod,fun a ha b hb e=>?_⟩
   ·rw[List.mem_singleton]at hb;exact t3 (hb▸e▸ha)
   ·have hb:=((W.no b).mp hb).1
    rcases List.mem_append.mp ha with ha|ha
    ·exact hV R b hb (e▸ha)
    ·rw[List.mem_singleton]at ha;exact t4 (ha▸e▸hb)
  ·rw[fu];lia
  ·lia
  ·rw[jg];have:=W.pz;lia
  ·rw[bM]
   intro p hp s hs2
   obtain⟨y1,y2⟩:=(hb p hp).2.1 s hs2
   by_cases q:s∈NM
   ·exact kn s q (.inr y2)
   ·unfold kK tK
    rw[fu,W.te]
    exact List.mem_append_left _ (List.mem_append_left _ (nB y1 q fun _=>y2))
  ·rw[bM];exact fun p hp=>Nat.le_trans (hb p hp).1 (by decide)
  ·rw[bM,jg];exact fun p hp=>(W.pn _).mpr (hb p hp).2.2
  ·rw[jg]
   intro n hn
   have hn:=(W.pn n).mp hn
   exact kn n (nmdef n hn) (.inl hn)
  ·rw[bM];lia
 ·constructor
  ·rw[bM];exact fun p hp y hy=>((hb p hp).2.1 y hy).1
  ·rw[bM,jg];exact fun p hp=>(W.pn _).mpr (hb p hp).2.2
  ·rw[bM];exact fun p hp=>Nat.le_trans (hb p hp).1 (by decide)
 ·rw[fu];exact tn
 ·exact nn
 ·rw[fu];lia
 ·lia
 ·rw[fu];exact fun q hq=>Nat.le_trans (iU tn W.len.2.1 q hq) (by lia)
 ·refine fun q hq=>?_
  have:q.2.length≤30*R.length+41:=by
   refine iU nn ?_ q hq
   cases os with
   | none=>exact fun k ns e=>Nat.le_succ_of_le (W.len.2.2 k ns e)
   | some st=>exact fJ W.len.2.2
  lia
 ·intro q hq e
  have h1:=(V.emp hs q hq).mp e
  have h2:q.1∈(gS g os).no.map (·.1):=List.mem_map.mpr ⟨q,hq,rfl⟩
  rw[f7]at h2
  have h3:q.1∈bx R:=((W.no q.1).mp h2).2.resolve_right fun z=>h1 (List.mem_append_left _ z)
  rw[jg,bM,W.prods]
  refine⟨(W.pn _).mpr h3,?_⟩
  obtain⟨r,hr,e2⟩:=inM h3
  obtain⟨i,hi⟩:=dW hr
  exact⟨_,hi,e2⟩
 ·cases os with
  | none=>exact V.p0
  | some st=>rfl
 ·rw[bM];lia
 ·intro p hp
  rcases List.mem_cons.mp hp with e|hp
  ·cases os with
   | none=>cases e
   | some st=>cases e;exact(by decide:1≤20)
  ·obtain⟨q,hq,e⟩:=inM hp
   cases e
   rw[bM]at hq
   exact Nat.le_trans (hb _ hq).1 (by decide)
 ·intro s e
  subst e
  exact⟨hs.sy s (.head _),_,rfl,rfl⟩
end
theorem ny(p:Str->Bool):NM.filter p∈cS NM:=by
 show(["S","A","B","C"]:List Str).filter p∈_
 rw[List.filter_cons,List.filter_cons,List.filter_cons,List.filter_cons,List.filter_nil]
 cases p "S"<;>cases p "A"<;>cases p "B"<;>cases p "C"<;>decide +kernel
theorem m9(p:Str->Bool):sortedS (ABC.filter p)=true:=by
 show sortedS ((["a","b","c"]:List Str).filter p)=true
 rw[List.filter_cons,List.filter_cons,List.filter_cons,List.filter_nil]
 cases p "a"<;>cases p "b"<;>cases p "c"<;>decide +kernel
theorem hY{a b l l':List Str}(ha:sortedS a=true)(hb:sortedS b=true)(h1:a.Perm l)(h2:b.Perm l')(n1:l.Nodup)(n2:l'.Nodup)(h:∀ x,x∈l↔x∈l'):a=b:=
 f0 ha hb (h1.trans (((List.perm_ext_iff_of_nodup n1 n2).mpr h).trans h2.symm))
theorem kb{a b:List Int}(ha:a.Pairwise (·≤·))(hb:b.Pairwise (·≤·))(h:a.Perm b):a=b:=
 List.Perm.eq_of_pairwise (fun x y _ _ h1 h2=>Int.le_antisymm h1 h2) ha hb h
theorem ii(ys:List Str):(bf ys).Nodup:=by
 unfold bf
 suffices h:∀ (ys acc:List Str),acc.Nodup->(ys.foldl (fun acc y=>if y∈acc then acc else acc++[y]) acc).Nodup from h ys [] List.nodup_nil
 intro ys
 induction ys with
 | nil=>exact fun acc h=>h
 | cons y ys ih=>
  intro acc h
  refine ih _ ?_
  show(if y∈acc then acc else acc++[y]).Nodup
  split
  ·exact h
  ·rename_i hy
   rw[List.nodup_append]
   exact⟨h,by simp,fun a ha b hb e=>by rw[List.mem_singleton]at hb;subst hb;exact hy (e▸ha)⟩
theorem oh(ys:List Str):∀ y∈ys,y∈bf ys:=by
 unfold bf
 suffices h:∀ (ys acc:List Str),∀ y,y∈acc\/y∈ys->y∈ys.foldl (fun acc y=>if y∈acc then acc else acc++[y]) acc from fun y hy=>h ys [] y (.inr hy)
 intro ys
 induction ys with
 | nil=>intro acc y h;exact h.elim id fun h=>(nomatch h)
 | cons x ys ih=>
  intro acc y h
  refine ih _ y ?_
  rcases h with h|h
  ·left;show y∈if x∈acc then acc else acc++[x]
   split
   ·exact h
   ·exact List.mem_append_left _ h
  ·cases h with
   | head=>
    left
    show x∈if x∈acc then acc else acc++[x]
    split
    ·assumption
    ·exact List.mem_append_right _ (.head _)
   | tail _ h=>exact .inr h
theorem jb(ys:List Str)(y:Str):y∈bf ys↔y∈ys:=⟨fE ys y,oh ys y⟩
section
variable {R:List aD}{g:GR}{os:Option Str}
theorem eh{n:Str}:n∈bg R↔n∈NM/\n∉bx R:=by
 unfold bg
 rw[List.mem_filter];simp
theorem lP(V:de R g)(I:LR3 R)(hs:im R os){T:List Str}(hT:∀ s,s∈T↔dx (gS g os).prods (tK (gS g os)) s)(x:Str):x∈gD (gS g os) T (kK (gS g os))↔x∈gl R:=by
 have W:=V.wf
 rw[bM,show tK (gS g os)=teK R++[il] from by unfold tK;rw[fu,W.te]]at hT
 rw[W.prods]at hT
 obtain⟨t1,t2,t3,t4⟩:=mP R
 have hund:∀ n∈NM,(dS (gS g os) n=false↔n∈bx R):=fun n hn=>by
  unfold dS
  rw[jg,fu,W.te]
  have h1:=hV R n hn
  have h2:n≠("error" : Str):=fun e=>(show("error" : Str)∉NM by decide +kernel) (e▸hn)
  rw[decide_eq_false h1,decide_eq_false h2,<-W.pn]
  simp
 have hbase:∀ n∈NM,n∉teK R++[il]:=fun n hn h=>by
  rcases List.mem_append.mp h with h|h
  ·exact hV R n hn h
  ·rw[List.mem_singleton]at h;exact t4 (h▸hn)
 have hin:x∈gD (gS g os) T (kK (gS g os))↔x∈NM/\x∈bx R/\¬ dx (bW R) (teK R++[il]) x:=by
  unfold gD
  rw[List.mem_filter,Bool.and_eq_true,Bool.not_eq_true',Bool.not_eq_true',decide_eq_false_iff_not,hT]
  constructor
  ·rintro⟨h1,h2,h3⟩
   have hx:x∈(gS g os).no.map (·.1):=by
    rcases List.mem_append.mp h1 with h1|h1
    ·unfold tK at h1;rw[fu,W.te]at h1;exact absurd (dx.base h1) h2
    ·exact h1
   rw[f7]at hx
   have hx:=((W.no x).mp hx).1
   exact⟨hx,(hund x hx).mp h3,h2⟩
  ·rintro⟨h1,h2,h3⟩
   exact⟨List.mem_append_right _ (by rw[f7];exact(W.no x).mpr ⟨h1,.inl h2⟩),h3,(hund x h1).mpr h2⟩
 rw[hin]
 unfold gl
 rw[List.mem_flatMap]
 constructor
 ·rintro⟨h1,h2,h3⟩
  classical
  obtain⟨G,hG⟩:∃ G,G=NM.filter fun n=>decide (n∈bx R)&&decide (¬ dx (bW R) (teK R++[il]) n):=⟨_,rfl⟩
  have hGm:∀ n,n∈G↔n∈NM/\n∈bx R/\¬ dx (bW R) (teK R++[il]) n:=fun n=>by
   rw[hG,List.mem_filter,Bool.and_eq_true,decide_eq_true_eq,decide_eq_true_eq]
  refine⟨G,hG▸ny _,?_⟩
  have e:(lw R G&&!qd R G)=true:=by
   rw[Bool.and_eq_true,Bool.not_eq_true']
   constructor
   ·unfold lw
    rw[List.all_eq_true]
    intro b hb
    obtain⟨ss,hss,rfl⟩:=inM hb
    obtain⟨r,hr,hrG,rfl⟩:=d9.mp hss
    obtain⟨_,_,hne⟩:=(hGm _).mp hrG
    obtain⟨i,hi⟩:=dW hr
    have:∃ y∈r.2,¬ dx (bW R) (teK R++[il]) y:=by
     refine Classical.byContradiction fun q=>hne ?_
     refine dx.rule hi fun y hy=>Classical.byContradiction fun z=>q ⟨y,hy,z⟩
    obtain⟨y,hy,hny⟩:=this
    have hyn:y∈NM:=by
     by_cases q:y∈NM
     ·exact q
     ·exact absurd (dx.base (List.mem_append_left _ (nB ((I.ok r hr).body y hy) q fun _=>cU.mpr ⟨r,hr,hy⟩))) hny
    rw[List.any_map]
    show r.2.any _=true
    rw[List.any_eq_true]
    refine⟨y,hy,?_⟩
    show inB G (bg R) y=true
    unfold inB
    rw[Bool.or_eq_true,decide_eq_true_eq,decide_eq_true_eq]
    by_cases q:y∈bx R
    ·exact .inl ((hGm y).mpr ⟨hyn,q,hny⟩)
    ·exact .inr (eh.mpr ⟨hyn,q⟩)
   ·unfold qd
    rw[List.any_map,List.any_eq_false]
    intro n hn
    show ¬ decide (n∈bg R)=true
    rw[decide_eq_true_eq]
    exact fun z=>(eh.mp z).2 ((hGm n).mp hn).2.1
  unfold dZ
  rw[if_pos e]
  exact(hGm x).mpr ⟨h1,h2,h3⟩
 ·rintro⟨G,hG,hx⟩
  obtain⟨_,gn⟩:=fV G hG
  unfold dZ at hx
  split at hx
  rotate_left
  ·cases hx
  ·rename_i e
   rw[Bool.and_eq_true,Bool.not_eq_true']at e
   obtain⟨e1,e2⟩:=e
   unfold lw at e1
   rw[List.all_eq_true]at e1
   unfold qd at e2
   rw[List.any_map,List.any_eq_false]at e2
   have hdef:∀ n∈G,n∈bx R:=fun n hn=>by
    have:=e2 n hn
    refine Classical.byContradiction fun q=>this ?_
    exact decide_eq_true (eh.mpr ⟨gn n hn,q⟩)
   refine⟨gn x hx,hdef x hx,fun hE=>?_⟩
   suffices H:∀ s,dx (bW R) (teK R++[il]) s->s∉G/\s∉bg R from(H x hE).1 hx
   intro s hs
   induction hs with
   | @base s h=>exact⟨fun z=>hbase s (gn s z) h,fun z=>hbase s (eh.mp z).1 h⟩
   | @rule p hp _ ih=>
    obtain⟨i,r,hr,rfl⟩:=cX hp
    refine⟨fun z=>?_,fun z=>(eh.mp z).2 (List.mem_map.mpr ⟨r,hr,rfl⟩)⟩
    have:=e1 _ (List.mem_map.mpr ⟨r.2,d9.mpr ⟨r,hr,z,rfl⟩,rfl⟩)
    rw[List.any_map]at this
    have this:r.2.any _=true:=this
    rw[List.any_eq_true]at this
    obtain⟨y,hy,hyb⟩:=this
    have hyb:inB G (bg R) y=true:=hyb
    unfold inB at hyb
    rw[Bool.or_eq_true,decide_eq_true_eq,decide_eq_true_eq]at hyb
    exact hyb.elim (ih y hy).1 (ih y hy).2
end
section
variable {R:List aD}{g:GR}{os:Option Str}
theorem und_is(V:de R g){s:Str}(hs:s∈SY3)(hb:s∈bc R\/s∈NM):dS (gS g os) s=decide (s∈bg R):=by
 have W:=V.wf
 have h:dS (gS g os) s=true↔s∈bg R:=by
  unfold dS
  rw[jg,fu,W.te,eh]
  simp only [Bool.and_eq_true,Bool.not_eq_true',decide_eq_false_iff_not]
  rw[W.pn]
  constructor
  ·rintro⟨h1,h2,h3⟩
   refine⟨?_,h1⟩
   by_cases q:s∈NM
   ·exact q
   ·exact absurd (nB hs q fun _=>hb.resolve_right q) h2
  ·rintro⟨h1,h2⟩
   exact⟨h2,hV R s h1,fun e=>(show("error" : Str)∉NM by decide +kernel) (e▸h1)⟩
 cases q:dS (gS g os) s with
 | true=>exact(decide_eq_true (h.mp q)).symm
 | false=>exact(decide_eq_false fun z=>by rw[h.mpr z]at q;cases q).symm
noncomputable def rowOf(p:Pr):Row:=(p.num,p.body)
theorem n9(V0:de R g)(p:Pr)(h:∀ s∈p.body,s∈SY3/\(s∈bc R\/s∈NM)):(gW (gS g os) p p.body).filterMap pL=jz (bg R) (rowOf p):=by
 unfold gW jz
 rw[List.filterMap_map]
 have e1:p.body.filter (dS (gS g os))=p.body.filter fun s=>decide (s∈bg R):=List.filter_congr fun s hs=>und_is V0 (h s hs).1 (h s hs).2
 rw[e1]
 show _=((p.body.filter fun s=>decide (s∈bg R)).map fun s=>Mine.V.tup [.str s,.int p.num,.tup (ae p.body)])
 generalize p.body.filter (fun s=>decide (s∈bg R))=l
 rw[<-List.filterMap_eq_map]
 rfl
theorem und_all(V:de R g)(I:LR3 R)(hs:im R os):oH (gS g os) (olOf os)=lX R os:=by
 unfold oH lX fZ eW
 rw[List.filterMap_flatMap,bM,V.wf.prods,List.flatMap_cons,List.flatMap_append]
 congr 1
 ·cases os with
  | none=>rfl
  | some st=>
   have hst:=hs st (.head _)
   refine(n9 V _ fun s h=>?_).trans (List.append_nil _).symm
   rcases List.mem_singleton.mp h with rfl
   exact⟨cq _ hst.1,.inr hst.1⟩
 ·unfold bW i8
  rw[List.map_map,List.flatMap_map,List.flatMap_map]
  have:∀ l:List (aD×Nat),(∀ q∈l,q.1∈R)->(l.flatMap fun a=>((pU (gS g os) ((some ∘ fun q=>jB q.2 q.1) a)).filterMap pL))=l.flatMap fun a=>jz (bg R) ((a.2:Int)+1,a.1.2):=fun l=>by
   induction l with
   | nil=>intro _;rfl
   | cons a l ih=>
    intro hl
    rw[List.flatMap_cons,List.flatMap_cons,ih fun q hq=>hl q (.tail _ hq)]
    congr 1
    have ha:=hl a (.head _)
    exact n9 V (jB a.2 a.1) fun s h=>⟨(I.ok _ ha).body s h,.inl (cU.mpr ⟨_,ha,h⟩)⟩
  exact this _ fun q hq=>List.fst_mem_of_mem_zipIdx hq
theorem idle_is(V:de R g)(hs:im R os):kh (gS g os)=eV R os:=by
 have W:=V.wf
 unfold kh
 rw[fu]
 have h:∀ l:List (Str×List Int),(∀ q∈l,(q.2=[]↔q.1∉bc R))->eP l=(l.map (·.1)).filter fun k=>decide (k≠("error" : Str))&&!decide (k∈bc R):=fun l hl=>by
  induction l with
  | nil=>rfl
  | cons q l ih=>
   have ih:=ih fun z hz=>hl z (.tail _ hz)
   have e:q.2.isEmpty = !decide (q.1∈bc R):=by
    have:=hl q (.head _)
    cases z:q.2 with
    | nil=>rw[decide_eq_false (this.mp z)];rfl
    | cons a b=>
     have:q.1∈bc R:=Classical.byContradiction fun w=>by rw[this.mpr w]at z;cases z
     rw[decide_eq_true this];rfl
   unfold eP at ih ⊢
   rw[List.map_cons,List.filter_cons,List.filter_cons,e]
   split
   ·rw[List.map_cons,ih]
   ·exact ih
 rw[h g.te fun q hq=>(V.ui.te q hq).trans e8,W.te]
 unfold teK eV
 rw[List.filter_append,List.filter_append]
 have e2:([("error" : Str)].filter fun k=>decide (k≠("error" : Str))&&!decide (k∈bc R))=[]:=rfl
 have e3:((eM (bc R)).filter fun k=>decide (k≠("error" : Str))&&!decide (k∈bc R))=[]:=by
  by_cases q:bt∈bc R
  ·rw[mT q]
   rw[List.filter_cons,decide_eq_true q,Bool.not_true,Bool.and_false];rfl
  ·rw[pi q];rfl
 rw[e2,e3,List.append_nil,List.append_nil]
 refine List.filter_congr fun t ht=>?_
 have h1:t≠("error" : Str):=fun e=>(show("error" : Str)∉ABC by decide +kernel) (e▸ht)
 have h2:t∈bF R os↔t∈bc R:=by
  unfold bF
  rw[List.mem_append]
  refine⟨fun z=>z.resolve_right fun w=>?_,.inl⟩
  exact(show ∀ t∈ABC,t∉NM by decide +kernel) t ht (hs t w).1
 rw[decide_eq_true h1,decide_eq_decide.mpr h2];rfl
theorem qs{n:Str}{R:List aD}(h:n∈bx R):∃ p,(bW R).find? (fun p=>p.name=n)=some p/\p.num=((bx R).idxOf n:Int)+1:=by
 have:∀ (R:List aD) (k:Nat),n∈bx R->∃ p,((R.zipIdx k).map fun q=>jB q.2 q.1).find? (fun p=>p.name=n)=some p/\p.num=(((bx R).idxOf n+k:Nat):Int)+1:=fun R=>by
  induction R with
  | nil=>intro k h;cases h
  | cons r R ih=>
   intro k h
   rw[List.zipIdx_cons,List.map_cons,List.find?_cons]
   show ∃ p,(match decide (r.1=n) with|true=>some (jB k r)|false=>_)=some p/\_
   have ed:(bx (r::R)).idxOf n=if r.1==n then 0 else(bx R).idxOf n+1:=by
    show((r.1::bx R).idxOf n)=_
    rw[List.idxOf_cons]
    cases r.1==n<;>rfl
   by_cases q:r.1=n
   ·rw[decide_eq_true q,ed,if_pos (beq_iff_eq.mpr q)]
    exact⟨_,rfl,by show(k:Int)+1=_;rw[Nat.zero_add]⟩
   ·rw[decide_eq_false q,ed,if_neg (by rw[beq_iff_eq];exact q)]
    have h2:n∈bx R:=(List.mem_cons.mp h).resolve_left fun e=>q e.symm
    obtain⟨p,e1,e2⟩:=ih (k+1) h2
    refine⟨p,e1,?_⟩
    rw[e2]
    congr 2
    lia
 obtain⟨p,h1,h2⟩:=this R 0 h
 exact⟨p,h1,h2⟩
theorem qP(V:de R g)(hs:im R os):((bY (gS g os) (gS g os).no).map Pr.num).Perm (ez R os):=by
 have W:=V.wf
 have h:∀ l:List (Str×List Int),(∀ q∈l,(q.2=[]↔q.1∉bF R os)/\(q.1∉bF R os->q.1∈bx R))->(bY (gS g os) l).map Pr.num=((l.map (·.1)).filter fun k=>!decide (k∈bF R os)).map fun n=>((bx R).idxOf n:Int)+1:=fun l hl=>by
  induction l with
  | nil=>rfl
  | cons q l ih=>
   have ih:=ih fun z hz=>hl z (.tail _ hz)
   obtain⟨h1,h2⟩:=hl q (.head _)
   unfold bY at ih ⊢
   rw[List.filterMap_cons,List.map_cons,List.filter_cons]
   by_cases z:q.1∈bF R os
   ·have:q.2.isEmpty=false:=by
     cases w:q.2 with
     | nil=>exact absurd z (h1.mp w)
     | cons _ _=>rfl
    rw[this,decide_eq_true z]
    exact ih
   ·rw[h1.mpr z,decide_eq_false z]
    obtain⟨p,e1,e2⟩:=qs (h2 z)
    have e3:(gS g os).prods.find? (fun p=>p.name=q.1)=some p:=by rw[bM,W.prods];exact e1
    rw[e3]
    show p.num::_=_::_
    rw[e2]
    exact congrArg _ ih
 rw[h _ fun q hq=>⟨V.emp hs q hq,fun z=>?_⟩]
 ·unfold ez
  refine List.Perm.map _ ?_
  rw[f7]
  refine(List.perm_ext_iff_of_nodup (W.nod.filter _) ((show NM.Nodup by decide +kernel).filter _)).mpr fun n=>?_
  rw[List.mem_filter,List.mem_filter,W.no]
  unfold alB
  rw[Bool.and_eq_true,Bool.not_eq_true',decide_eq_false_iff_not,decide_eq_true_eq]
  refine⟨fun⟨⟨a,b⟩,c⟩=>⟨a,b.resolve_right fun z=>c (List.mem_append_left _ z),c⟩,fun⟨a,b,c⟩=>⟨⟨a,.inl b⟩,c⟩⟩
 ·have h2:q.1∈(gS g os).no.map (·.1):=List.mem_map.mpr ⟨q,hq,rfl⟩
  rw[f7]at h2
  exact((W.no q.1).mp h2).2.resolve_right fun w=>z (List.mem_append_left _ w)
theorem qQ{P:List Pr}{a y:Str}{p:Pr}(h:Rch P a p.name)(hp:p∈P)(hy:y∈p.body):Rch P a y:=by
 generalize e:p.name=x at h
 induction h with
 | refl s=>exact .step hp e hy (.refl _)
 | step h1 h2 h3 _ ih=>exact .step h1 h2 h3 (ih e)
theorem mF(V:de R g)(I:LR3 R){st:Str}(hs:im R (some st)){T:Str->Bool}(hT:∀ x,T x=true↔Rch (gS g (some st)).prods st x)(x:Str):x∈((gS g (some st)).no.map (·.1)).filter (fun x=>!T x)↔x∈eD R (some st):=by
 have W:=V.wf
 obtain⟨hst,hst2⟩:=hs st (.head _)
 rw[bM,W.prods]at hT
 rw[List.mem_filter,f7,W.no,Bool.not_eq_true']
 unfold eD
 rw[List.mem_flatMap]
 have hhid:∀ G:List Str,st∈G->(x∈mE R (some st) G↔x∈NM/\x∉G/\(x∈bx R\/x∈bc R)):=fun G hG=>by
  unfold mE gf bF
  rw[List.mem_filter,Bool.and_eq_true,Bool.or_eq_true,Bool.not_eq_true',decide_eq_false_iff_not,decide_eq_true_eq,decide_eq_true_eq,List.mem_append]
  refine and_congr_right fun hx=>and_congr_right fun hg=>?_
  constructor
  ·rintro((a|a)|a)
   ·exact .inr a
   ·rcases List.mem_singleton.mp a with rfl;exact absurd hG hg
   ·exact .inl a
  ·rintro(a|a)
   ·exact .inr a
   ·exact .inl (.inl a)
 constructor
 ·rintro⟨⟨h1,h2⟩,h3⟩
  have h3:¬ T x=true:=by rw[h3];exact Bool.false_ne_true
  refine⟨NM.filter T,ny T,?_⟩
  have hG:st∈NM.filter T:=List.mem_filter.mpr ⟨hst,(hT st).mpr (.refl _)⟩
  have e:(osIn (some st) (NM.filter T)&&kP R (NM.filter T))=true:=by
   rw[Bool.and_eq_true]
   refine⟨decide_eq_true hG,?_⟩
   unfold kP
   rw[List.all_eq_true]
   intro b hb
   obtain⟨ss,hss,hb⟩:=List.mem_flatMap.mp hb
   obtain⟨r,hr,hrG,rfl⟩:=d9.mp hss
   obtain⟨y,hy,rfl⟩:=inM hb
   show stB _ y=true
   unfold stB
   rw[Bool.or_eq_true,Bool.not_eq_true',decide_eq_true_eq,decide_eq_false_iff_not]
   by_cases q:y∈NM
   ·left
    obtain⟨i,hi⟩:=dW hr
    exact List.mem_filter.mpr ⟨q,(hT y).mpr (qQ (p:=jB i r) ((hT _).mp (List.mem_filter.mp hrG).2) hi hy)⟩
   ·exact .inr q
  unfold er
  rw[if_pos e]
  exact(hhid _ hG).mpr ⟨h1,fun z=>h3 (List.mem_filter.mp z).2,h2⟩
 ·rintro⟨G,hG,hx⟩
  unfold er at hx
  split at hx
  rotate_left
  ·cases hx
  ·rename_i e
   rw[Bool.and_eq_true]at e
   obtain⟨e1,e2⟩:=e
   have hstG:st∈G:=of_decide_eq_true e1
   obtain⟨h1,h2,h3⟩:=(hhid G hstG).mp hx
   refine⟨⟨h1,h3⟩,?_⟩
   cases q:T x with
   | false=>rfl
   | true=>
    exfalso
    have hr:=(hT x).mp q
    unfold kP at e2
    rw[List.all_eq_true]at e2
    suffices H:∀ a z,Rch (bW R) a z->(a∈G\/a∉NM)->(z∈G\/z∉NM) from(H st x hr (.inl hstG)).elim h2 fun w=>w h1
    intro a z h
    induction h with
    | refl s=>exact id
    | @step s y z p hp hn hy _ ih=>
     intro ha
     obtain⟨i,r,hr,rfl⟩:=cX hp
     have hl:=(I.ok r hr).left
     have hn:r.1=s:=hn
     have haG:s∈G:=ha.resolve_right fun w=>w (hn▸hl)
     refine ih ?_
     have:=e2 (stB G y) (List.mem_flatMap.mpr ⟨r.2,d9.mpr ⟨r,hr,hn▸haG,rfl⟩,List.mem_map.mpr ⟨y,hy,rfl⟩⟩)
     have this:stB G y=true:=this
     unfold stB at this
     rw[Bool.or_eq_true,Bool.not_eq_true',decide_eq_true_eq,decide_eq_false_iff_not]at this
     exact this
end
section
variable {R:List aD}{g:GR}{os:Option Str}
theorem qK(V:de R g)(I:LR3 R)(hs:im R os){v v':Mine.V}(h:mn (gS g os) (olOf os) os v)(h':jV R os v'):v=v':=by
 obtain⟨T,e,i,a,hd,hd',h0,h1,h2,h3,h4,h5,h6,h7,h8,h9⟩:=h
 obtain⟨e',a',hd2,k1,k2,k3,k4,k5,k6⟩:=h'
 have tok:=V.tok I hs
 have E1:e=e':=hY h1 k1 h2 k2 (tok.iwf.nd.filter _) (ii _) fun x=>(lP V I hs h0 x).trans (jb _ x).symm
 have E3:i=eV R os:=by
  rw[idle_is V hs]at h4
  exact f0 h3 (m9 _) h4
 have E4:a=a':=kb h5 k3 (h6.trans ((qP V hs).trans k4.symm))
 have E5:hd=hd2:=by
  cases h9 with
  | none=>
   have e1:eD R none=[]:=by
    unfold eD
    generalize cS NM=l
    induction l with
    | nil=>rfl
    | cons g l ih=>rw[List.flatMap_cons,ih];rfl
   rw[e1]at k6
   rw[h8.eq_nil,(show hd2.Perm [] from k6).eq_nil]
  | some st T hT=>
   refine hY h7 k5 h8 k6 (tok.nn.filter _) (ii _) fun x=>?_
   exact(mF V I hs hT x).trans (jb _ x).symm
 rw[E1,und_all V I hs,E3,E4,E5]
theorem iL{l:List Str}(h:∀ y∈l,y∈SY3)(n:Nat):isD (n+1) (.lst (ae l))=true:=
 dv (List.all_eq_true.mpr fun y hy=>bn _ (h y hy))
theorem kH(I:LR3 R)(ho:∀ s∈osL os,s∈SY3){v:Mine.V}(h:jV R os v):isD 4 v=true:=by
 obtain⟨e,a,hd,k1,k2,k3,k4,k5,k6⟩:=h
 unfold nC
 have d1:isD 3 (.lst (ae e))=true:=iL (fun y hy=>by
  have:=fE _ _ (k2.mem_iff.mp hy)
  obtain⟨g,hg,hy⟩:=List.mem_flatMap.mp this
  unfold dZ at hy
  split at hy
  ·exact cq _ ((fV g hg).2 y hy)
  ·cases hy) 2
 have d2:isD 3 (.lst (lX R os))=true:=by
  show(lX R os).all (isD 2)=true
  rw[List.all_eq_true]
  intro v hv
  obtain⟨q,hq,hv⟩:=List.mem_flatMap.mp hv
  obtain⟨s,hs,rfl⟩:=inM hv
  have hR:=(I.rows ho q hq).2
  show(([.str s,.int q.1,.tup (ae q.2)]:List Mine.V).all (isD 1))=true
  rw[List.all_cons,List.all_cons,List.all_cons,List.all_nil,Bool.and_true,Bool.and_eq_true,Bool.and_eq_true]
  exact⟨bn _ (hR s (List.mem_filter.mp hs).1),rfl,dv (List.all_eq_true.mpr fun y hy=>bn _ (hR y hy))⟩
 have d3:isD 3 (.lst (ae (eV R os)))=true:=iL (fun y hy=>nJ _ (List.mem_filter.mp hy).1) 2
 have d4:isD 3 (.lst (a9 a))=true:=by
  show(a9 a).all (isD 2)=true
  rw[List.all_eq_true]
  intro v hv
  obtain⟨n,_,rfl⟩:=inM hv
  rfl
 have d5:isD 3 (.lst (ae hd))=true:=iL (fun y hy=>by
  have:=fE _ _ (k6.mem_iff.mp hy)
  obtain⟨g,hg,hy⟩:=List.mem_flatMap.mp this
  unfold er at hy
  split at hy
  ·exact cq _ (List.mem_filter.mp hy).1
  ·cases hy) 2
 show(([.lst (ae e),.lst (lX R os),.lst (ae (eV R os)),.lst (a9 a),.lst (ae hd)]:List Mine.V).all (isD 3))=true
 rw[List.all_cons,List.all_cons,List.all_cons,List.all_cons,List.all_cons,List.all_nil,d1,d2,d3,d4,d5];rfl
end
theorem oz:∀ s∈SYQ,s=bH\/((0<s.cps.size/\s.cps.size≤100/\PyData.strOk s=true)/\cJ s=true/\(∀ c∈s.cps[0]?,cM ⟨#[c]⟩ "'\"" = false)/\s≠"%prec"/\s≠bH/\s∉io):=by decide +kernel
theorem quot_ok:(3≤bH.cps.size/\bH.cps.size≤100)/\(bH.cps[0]? = some 39/\(seqIndex? (-1) bH.length).bind (bH.cps[·]?)=some 39/\cM ⟨#[39]⟩ "'\"" = true/\cM ⟨#[39]⟩ bt=false)/\mf bH (some 1) (some (-1))=bt/\cM "\\" bH=false/\cM "\n" bH=false/\bt.cps.size=1/\PyData.strOk bt=true/\bt≠bH/\bt≠"%prec":=by decide +kernel
theorem kx{s:Str}(h:s∈SYQ):SyK s (mtF s)/\mtF s=some (unq s):=by
 rcases oz s h with rfl|⟨⟨a,b,c⟩,d,e,f,q,z⟩
 ·obtain⟨h1,⟨h2,h3,h4,h5⟩,h6,h7,h8,h9,h10,h11,h12⟩:=quot_ok
  have e1:mtF bH=some bt:=if_pos rfl
  have e2:unq bH=bt:=if_pos rfl
  rw[e1,e2]
  exact⟨.lit ⟨h1,⟨39,h2,h3,h4,h5⟩,h6,h7,h8,Nat.le_trans (Nat.le_of_eq h9) (by decide)⟩ h9 h10 h11 h12,rfl⟩
 ·have e1:mtF s=some s:=by unfold mtF;rw[if_neg q,if_neg z]
  have e2:unq s=s:=if_neg q
  rw[e1,e2]
  exact⟨.ok ⟨a,b,c,d,fun x hx=>e x hx,f⟩,rfl⟩
theorem mK:∀ s∈(["<empty>","$end","S'"]:List Str),0<s.cps.size/\s.cps.size≤100/\(∀ c∈s.cps[0]?,cM ⟨#[c]⟩ "'\"" = false)/\cJ s=false/\s≠"%prec"/\(reprText s).length≤20000:=by decide +kernel
theorem oD:(3≤("'ab'" : Str).cps.size/\("'ab'" : Str).cps.size≤100)/\(("'ab'" : Str).cps[0]? = some 39/\(seqIndex? (-1) ("'ab'" : Str).length).bind (("'ab'" : Str).cps[·]?)=some 39/\cM ⟨#[39]⟩ "'\"" = true/\cM ⟨#[39]⟩ "ab" = false)/\mf "'ab'" (some 1) (some (-1)) = "ab"/\cM "\\" "'ab'" = false/\cM "\n" "'ab'" = false/\("ab" : Str).cps.size≤100/\1<("ab" : Str).cps.size:=by decide +kernel
theorem nI{s:Str}(h:s∈io):SyK s (mtF s)/\mtF s=none:=by
 have e1:mtF s=none:=by
  unfold mtF
  rw[if_neg (fun e:s=bH=>(show bH∉io by decide +kernel) (e▸h)),if_pos h]
 rw[e1]
 refine⟨?_,rfl⟩
 by_cases q:s∈(["<empty>","$end","S'"]:List Str)
 ·obtain⟨a,b,c,d,e,f⟩:=mK s q
  exact .bad a b (fun x hx=>c x hx) d e f
 ·have:s = "'ab'":=by
   have h:s∈(["<empty>","$end","S'"]:List Str)++[("'ab'" : Str)]:=h
   rcases List.mem_append.mp h with h|h
   ·exact absurd h q
   ·exact List.mem_singleton.mp h
  subst this
  obtain⟨h1,⟨h2,h3,h4,h5⟩,h6,h7,h8,h9,h10⟩:=oD
  exact .badLit ⟨h1,⟨39,h2,h3,h4,h5⟩,h6,h7,h8,h9⟩ h10
theorem eX:∀ s∈NM,(s.cps.size≤100/\(reprText s).length≤20000)/\cJ s=true/\s≠"error":=by decide +kernel
theorem iK:(∀ s∈jx,s.cps.size≤100/\(reprText s).length≤20000)/\(∀ s∈jx,s∈(["a","error"]:List Str)\/(cJ s=false/\s≠"error"/\s∉ABC++[("error" : Str)]++[bt])):=by decide +kernel
theorem te_sub{R:List aD}{s:Str}(h:s∈teK R):s∈ABC++[("error" : Str)]++[bt]:=by
 unfold teK eM at h
 split at h
 ·exact h
 ·rw[List.append_nil]at h;exact List.mem_append_left _ h
theorem j6{g:GR}{R:List aD}(W:Wf3 R g){s:Str}(h:s∉teK R):g.te.lookup s=none:=qN (by rw[W.te];exact h)
theorem badn_k{g:GR}{R:List aD}(W:Wf3 R g){s:Str}(h:s∈jx):NmK g s false:=by
 rcases iK.2 s h with q|⟨a,b,c⟩
 ·refine .tok ?_
  rw[aF,List.contains_iff_mem,W.te]
  exact List.mem_append_left _ ((show ∀ s∈(["a","error"]:List Str),s∈ABC++[("error" : Str)] by decide +kernel) s q)
 ·exact .bad (j6 W fun z=>c (te_sub z)) b a
theorem nm_k{g:GR}{R:List aD}(W:Wf3 R g){s:Str}(h:s∈NM):NmK g s true:=
 .ok (eX s h).2.1 (eX s h).2.2 (j6 W (hV R s h))
inductive pj:Str->List Str->Option aD->Prop
 | name {x:Str} {ss:List Str}:x∈jx->ss.length≤4->pj x ss none
 | sym {x b:Str} {ss:List Str}:x∈NM->b∈io->(∀ s∈ss,s∈SYQ)->ss.length≤3->pj x (b::ss) none
 | good {x:Str} {ss:List Str}:x∈NM->(∀ s∈ss,s∈SYQ)->ss.length≤3->pj x ss (some (x,ss.map unq))
theorem Wf3.prok{R:List aD}{g:GR}(W:Wf3 R g)(I:LR3 R):∀ p∈g.prods,qF p:=fun p hp=>by
 rw[W.prods]at hp
 obtain⟨i,r,hr,rfl⟩:=cX hp
 have hk:=I.ok r hr
 refine⟨kI (eX _ hk.left).1.1 (Nat.le_trans hk.len (by decide)) (fun y hy=>?_),rfl,0,rfl,by decide,by decide⟩
 exact Nat.le_trans (iw y (hk.body y hy)).2 (by decide)
section
variable {W:Wd}{A:Around}{env:Env}{outer:ay}{loc:Loc}{mem:Mem}{E:Ex W}
theorem kZ{ss:List Str}(h:∀ s∈ss,s∈SYQ):ss.map (fun s=>(mtF s).getD s)=ss.map unq:=List.map_congr_left fun s hs=>by rw[(kx (h s hs)).2];rfl
theorem kT{R:List aD}{g:GR}{a:Addr}{gm M:Mem}{x:Str}{ss:List Str}{orl:Option aD}{Q:V->Loc->Mem->Prop}(hK:W.K=hdK W.w.params)(c:aU A 400 4000)(hf:c8 A env outer)(G:bL ar aq g a gm)(d:Dis gm M)
  (w:Wf3 R g) (I:LR3 R) (O:pj x ss orl)
  (h0:(∀ r,orl=some r->r∈R)->∀ gm',bL ar aq g a gm'->Dis gm' M->Q (.bool true) loc (mun gm' M))
  (h1:∀ r,orl=some r->r∉R->∀ gm',x∈NM->(∀ s∈ss,s∈SYQ)->ss.length≤3->r=(x,ss.map unq)->bL ar aq (kv (mC g ss) (x,ss.map unq)) a gm'->Dis gm' M->Q (.bool false) loc (mun gm' M)) :
  OpV W A env outer (fun vs=>call (.ref 308) vs) [.ref a,.str x,.lst (ae ss)] loc (mun gm M) Q E:=by
 have hz:=I.hz
 have hnum:g.prods.length≤1000:=by rw[w.prods,eU];lia
 have hpn:∀ p∈g.prods,p.name∈g.pn:=fun p hp=>by
  rw[w.prods]at hp
  obtain⟨i,r,hr,rfl⟩:=cX hp
  exact(w.pn _).mpr (List.mem_map.mpr ⟨r,hr,rfl⟩)
 have hpz:g.pn.length≤1000:=by have:=w.pz;lia
 have htz:g.te.length≤1000:=by
  have:=congrArg List.length w.te
  have:=(mP R).2.1
  rw[List.length_map]at *;lia
 have hlen:cW 1000 (g.te,g.no):=w.len.mono (by lia)
 have hpo:=w.prok I
 cases O with
 | name hx hl=>
  obtain⟨n1,n2⟩:=iK.1 _ hx
  exact eK (mt:=mtF) hK c hf G d n1 n2 (badn_k w hx) (fun e=>nomatch e) (by lia) w.pr hnum hpn hpz htz hlen hpo (fun _=>h0 (fun r e=>nomatch e) gm G d) (fun e=>nomatch e) (fun e=>nomatch e) (fun e=>nomatch e)
 | @sym b _ hx hb hs hl=>
  obtain⟨n1,n2⟩:=(eX _ hx).1
  have hbn:=(nI hb).2
  refine eK (mt:=mtF) hK c hf G d n1 n2 (nm_k w hx) (fun _ s hs2=>?_) (by rw[List.length_cons];lia) w.pr hnum hpn hpz htz hlen hpo (fun e=>nomatch e) (fun _ i s gm' h1 h2 h3 h4 h5=>?_) (fun _ z=>absurd hbn (z b (.head _))) (fun _ z=>absurd hbn (z b (.head _)))
  ·rcases List.mem_cons.mp hs2 with rfl|hs2
   ·exact(nI hb).1
   ·exact(kx (hs s hs2)).1
  ·cases i with
   | zero=>exact h0 (fun r e=>nomatch e) gm' h4 h5
   | succ i=>exact absurd hbn (h3 b (by rw[List.take_succ_cons];exact .head _))
 | good hx hs hl=>
  obtain⟨n1,n2⟩:=(eX _ hx).1
  have hsm:∀ s∈ss,mtF s≠none:=fun s h=>by rw[(kx (hs s h)).2];exact fun e=>nomatch e
  have hrl:RL3 (x,ss.map unq):=⟨hx,by show(ss.map unq).length≤3;rw[List.length_map];exact hl,fun y hy=>by
   obtain⟨s,h,rfl⟩:=inM hy
   exact kd s (hs s h)⟩
  have hin:(∃ p∈g.prods,aJ p.name p.body=aJ x (ss.map fun s=>(mtF s).getD s))↔(x,ss.map unq)∈R:=by
   rw[kZ hs,w.prods]
   constructor
   ·rintro⟨p,hp,e⟩
    obtain⟨i,r,hr,rfl⟩:=cX hp
    have:=lV (I.ok r hr) hrl e
    exact this▸hr
   ·intro h
    obtain⟨i,hi⟩:=dW h
    exact⟨_,hi,rfl⟩
  refine eK (mt:=mtF) hK c hf G d n1 n2 (nm_k w hx) (fun _ s h=>(kx (hs s h)).1) (by lia) w.pr hnum hpn hpz htz hlen hpo (fun e=>nomatch e) (fun _ i s gm' e1 e2=>absurd e2 (hsm s (List.mem_of_getElem? e1))) (fun _ _ gm' e1 e2 e3=>?_) (fun _ _ e1 gm' e2 e3=>?_)
  ·have hR:=hin.mp e1
   have et:bJ mtF g.te ss=g.te:=by
    rw[gv]
    split
    ·rename_i q
     exact pO w (cU.mpr ⟨_,hR,(iT hs).mpr (of_decide_eq_true q)⟩)
    ·rfl
   rw[et]at e2
   exact h0 (fun r e=>by cases e;exact hR) gm' e2 e3
  ·have hR:(x,ss.map unq)∉R:=fun z=>by
    obtain⟨p,hp,e⟩:=hin.mpr z
    exact e1 p hp e
   rw[kZ hs]at e2
   exact h1 _ rfl hR gm' hx hs hl rfl e2 e3
end
theorem noR{c:Option ax}{x:ax}{o:Obj}(h:c=some (.raw o))(e:c=some x)(n:(tgo x==5)=false):False:=by
 have q:=Option.some.inj (h.symm.trans e)
 rw[<-q]at n
 exact nomatch n
theorem noRm{β:Type}{c:Option ax}{l:Option β}{f:β->List V}{o:Obj}(h:c=some (.raw o))(e:c=l.map fun b=>.list (f b)):False:=by
 cases l with
 | none=>exact nomatch h.symm.trans e
 | some b=>exact noR h e rfl
theorem bL.noRaw{C CP:Addr}{g:GR}{a:Addr}{m:Mem}(G:bL C CP g a m){b:Addr}{o:Obj}(h:m b=some (.raw o)):False:=by
 obtain⟨adr,c,M,ok,_⟩:=G
 obtain⟨r,_,hr⟩:=(M.is b _).mp h
 clear h
 cases r with
 | self=>exact noR hr ok.self rfl
 | dict=>exact ok.dict.elim fun _ e=>noR hr e rfl
 | pl=>exact noR hr ok.pl rfl
 | pn=>exact ok.pn.elim fun _ e=>noR hr e rfl
 | pm=>exact ok.pm.elim fun _ e=>noR hr e rfl
 | te=>exact ok.te.elim fun _ e=>noR hr e rfl
 | no=>exact ok.no.elim fun _ e=>noR hr e rfl
 | fi=>exact ok.fi.elim fun _ e=>noR hr e rfl
 | fo=>exact ok.fo.elim fun _ e=>noR hr e rfl
 | pr=>exact ok.pr.elim fun _ e=>noR hr e rfl
 | up=>exact nomatch hr.symm.trans ok.up
 | pnL k=>
  have e:=ok.pnL k
  by_cases hk:k∈g.pn
  ·exact noR hr (e.trans (if_pos hk)) rfl
  ·exact nomatch hr.symm.trans (e.trans (if_neg hk))
 | teL k=>exact noRm hr (ok.teL k)
 | noL k=>exact noRm hr (ok.noL k)
 | fiL k=>exact noRm hr (ok.fiL k)
 | foL k=>exact noRm hr (ok.foL k)
theorem mun_raw{C CP:Addr}{g:GR}{a:Addr}{gm M:Mem}(G:bL C CP g a gm){b:Addr}{o:Obj}(h:mun gm M b=some (.raw o)):M b=some (.raw o):=by
 cases q:gm b with
 | none=>rwa [bw q]at h
 | some y=>rw[bu q]at h;cases h;exact(G.noRaw q).elim
theorem bR.out{C CP:Addr}{P:Addr}{pos:Pos}{qual:Str}{g:GR}{a:Addr}{gm M:Mem}(G:bL C CP g a gm)(T:bR P pos qual (mun gm M)):bR P pos qual M:=T.mono fun _ _ e=>mun_raw G e
theorem f9{gm M:Mem}(d:Dis gm M){b:Addr}{x:ax}(h:M b=some x):gm b=none:=by
 cases q:gm b with
 | none=>rfl
 | some y=>have:=d b y q;rw[h]at this;cases this
theorem cg{gm M:Mem}(d:Dis gm M){b:Addr}{x:ax}(h:M b=some x):mun gm M b=some x:=by rw[bw (f9 d h)];exact h
theorem bR.inn{P:Addr}{pos:Pos}{qual:Str}{gm M:Mem}(d:Dis gm M)(T:bR P pos qual M):bR P pos qual (mun gm M):=T.mono fun _ _ e=>cg d e
theorem bR.at_{P:Addr}{pos:Pos}{qual:Str}{m:Mem}(T:bR P pos qual m):∃ o,m P=some (.raw o):=by
 cases T with
 | fresh a=>exact⟨_,a⟩
 | made c' oc a b d=>exact⟨_,a⟩
theorem kE{gm M m':Mem}{t:Addr}(d:Dis gm M)(h:Off t (mun gm M) m')(ht:gm t=none):∃ M',m'=mun gm M'/\Dis gm M'/\Off t M M':=by
 refine⟨fun b=>if gm b=none then m' b else none,?_,fun b x e=>if_neg (by rw[e];exact fun z=>nomatch z),fun b x n e=>?_⟩
 ·funext b
  cases q:gm b with
  | none=>rw[bw q];exact(if_pos q).symm
  | some y=>
   rw[bu q]
   exact h b y (fun e=>by rw[e,ht]at q;cases q) (bu q)
 ·exact(if_pos (f9 d e)).trans (h b x n (cg d e))
section
variable {W:Wd}{A:Around}{env:Env}{outer:ay}{loc:Loc}{mem:Mem}{E:Ex W}
theorem nE{R:List aD}{g:GR}{os:Option Str}{a:Addr}{gm M:Mem}{Q:V->Loc->Mem->Prop}(hK:W.K=hdK W.w.params)(B:jC W)(c:aU A 500 4500)(G:bL ar aq (gS g os) a gm)(d:Dis gm M)(T:bR cL dB bZ M)
  (v:de R g) (I:LR3 R) (hs:im R os) (h:∀ u M',(∀ u',jV R os u'->u=u')->Dis gm M'->Off cL M M'->bR cL dB bZ M'->Q u loc (mun gm M')) :
  OpV W A env outer (fun vs=>call (.ref 301) vs) [.ref a,osV os] loc (mun gm M) Q E:=by
 obtain⟨adr,cc,MM,ok,rfl⟩:=id G
 have r:Rd adr (gS g os) (mun gm M):=(GOk.rd MM ok).mono fun b x e=>bu e
 obtain⟨o,ht⟩:=T.at_
 refine oM hK B c r (v.tok I hs) (T.inn d) fun u m' hu off T'=>?_
 obtain⟨M',rfl,d',off'⟩:=kE d off (f9 d ht)
 exact h u M' (fun u' hu'=>qK v I hs hu hu') d' off' (T'.out G)
end
noncomputable abbrev lwE(L:Addr):Env:=ji "law" lLaw.scope L 320 lLaw.code
noncomputable abbrev dC:=Str×List Str
noncomputable def jy(q:dC):V:=.tup [.str q.1,.lst (ae q.2)]
structure St3(L ta ra oa:Addr)(st:Str)(R:List aD)(ts:List Int)(off:List dC)(M:Mem):Prop where
 c1:M (L+1)=some (.cell (some (.ref ta)))
 c2:M (L+2)=some (.cell (some (.str st)))
 hta:M ta=some (.list (ts.map .int))
 hra:M ra=some (.list (R.map bB))
 hoa:M oa=some (.list (off.map jy))
 T:bR cL dB bZ M
 n1:ra≠oa
 n2:ta≠ra
 n3:ta≠oa
theorem eq{a b:Int}(hb:0<b):0≤a.fmod b/\a.fmod b<b:=⟨Int.fmod_nonneg_of_pos a hb,Int.fmod_lt_of_pos a hb⟩
theorem my(l:List Str)(hl:l.length≠0)(t:Int):∃ y∈l,(ae l)[(t.fmod (l.length:Int)).toNat]? = some (.str y):=by
 obtain⟨r1,r2⟩:=eq (a:=t) (b:=(l.length:Int)) (by lia)
 have hlt:(t.fmod (l.length:Int)).toNat<l.length:=by lia
 exact⟨l[(t.fmod (l.length:Int)).toNat],List.getElem_mem _,gT (List.getElem?_eq_getElem hlt)⟩
theorem eu(ts:List Int):(b7 ts).2.length≤ts.length:=by
 cases ts with
 | nil=>exact Nat.le_refl _
 | cons t ts=>exact Nat.le_succ _
theorem mun_no(m:Mem):mun (fun _=>none) m=m:=rfl
theorem gF{gm R0:Mem}{a:Addr}{y:ax}(h:gm a=none):ap (mun gm R0) a y=mun gm (ap R0 a y):=by
 funext b
 unfold ap mun
 by_cases e:b=a
 ·subst e;simp[h]
 ·simp[e]
noncomputable def modG:V->Option V
 | .int n=>some (.int (n.fmod 720720))
 | _=>none
theorem qo(ns:List Int):(a9 ns).filterMap modG=(ns.map fun n=>n.fmod 720720).map V.int:=by
 unfold a9
 induction ns with
 | nil=>rfl
 | cons n ns ih=>rw[List.map_cons,List.filterMap_cons];exact congrArg (V.int _::·) ih
section
variable {W:Wd}{A:Around}{env:Env}{outer:ay}{loc:Loc}{mem:Mem}{E:Ex W}
theorem law_a{L:Addr}{ns:List Int}{M0:Mem}{Q:Fl->Loc->Mem->Prop}(hK:W.K=hdK W.w.params)(cd:aU A 310 2000)(hns:ns.length≤63)
  (c1:M0 (L+1)=some (.cell none)) (c2:M0 (L+2)=some (.cell none)) (T0:bR cL dB bZ M0)
  (h:∀ M ta ra oa a gm st ts up,st∈gN->ts.length≤36->St3 L ta ra oa st [] ts [] M->bL ar aq (g0 ABC up) a gm->Dis gm M->TrS W A (lwE L) outer (execs (lLaw.body.drop 5) (lwE L)) [("grammar",.ref a),("rules",.ref ra),("offers",.ref oa)] (mun gm M) Q E) :
  TrS W A (lwE L) outer (execs lLaw.body (lwE L)) [("script",.lst (a9 ns))] M0 Q E:=by
 refine ac ?_
 refine c7 rfl ?_;refine bd rfl (by decide) rfl (by decide) (fun _=>rfl) ?_;refine kC ?_;refine pu rfl ?_;refine bI ?_
 refine⟨36,rfl,?_⟩
 skip
 refine⟨_,_,.lst _,PySem.F.slot_list_getitem.lookup,?_⟩
 refine mQ (xs:=ns.map .int) (k:=36) (.lst _) (by rw[List.length_map];exact Nat.le_trans hns (by decide)) ?_
 rw[<-List.map_take]
 have hz0:(ns.take 36).length≤36:=by rw[List.length_take];exact Nat.min_le_left _ _
 generalize ns.take 36=t0 at hz0
 refine bj (cb cd.handled) (a9 t0) (fun m i hs hi=>rfl) (by unfold a9;rw[List.length_map];exact Nat.le_trans hz0 (by decide)) modG ?_ ?_
 ·intro C outer' i v hv
  obtain⟨n,hn,rfl⟩:=inM (List.mem_of_getElem? hv)
  refine am rfl rfl ?_;refine iH rfl rfl ?_
  refine gJ (by decide) ?_
  exact⟨rfl,ah _⟩
 ·intro ta hta
  rw[qo]
  have hz1:(t0.map fun n=>n.fmod 720720).length≤36:=by rw[List.length_map];exact hz0
  generalize (t0.map fun n=>n.fmod 720720)=ts at hz1
  obtain⟨M1,hM1⟩:∃ M1,M1=ap M0 ta (.list (ts.map V.int)):=⟨_,rfl⟩
  have hta1:M1 ta=some (.list (ts.map V.int)):=by rw[hM1,mset_self]
  have s1:Sub M0 M1:=by rw[hM1];exact aL hta (ah _)
  rw[<-hM1]
  clear hM1
  have n21:L+2≠L+1:=by intro e;exact absurd e (Nat.ne_of_gt (by lia))
  refine eL (hk:=rfl) (hl:=rfl) (hc:=rfl) (s1 _ _ c1) (fun M2 a2 f2=>?_)
  have hT:∃ o,M0 cL=some (.raw o):=T0.at_
  obtain⟨o,hT⟩:=hT
  have k2:=(f2 _ n21).trans (s1 _ _ c2)
  have hta2:=(f2 _ (nex hta1 (s1 _ _ c1))).trans hta1
  have T2:bR cL dB bZ M2:=T0.mono fun b o e=>(f2 _ (nex e c1)).trans (s1 _ _ e)
  clear f2 T0
  refine ac ?_
  refine Tr.locs (loc':=[]) rfl ?_
  refine c7 rfl ?_;refine cN (fun _ _=>rfl) ?_;refine c5 hK (fun _=>rfl) (fun _=>rfl) ?_
  refine lH hK (cd.mono (by decide) (by decide)) ?_
  obtain⟨st,hst,he⟩:=my gN (by decide) (b7 ts).1
  have r7:=eq (a:=(b7 ts).1) (b:=7) (by decide)
  refine cQ ?_;refine bq hK (fun _=>rfl) (fun _=>rfl) rfl rfl ?_;refine aB rfl ?_;refine aX rfl rfl rfl rfl (by first|assumption|simp[mset_self]) ?_;refine aI ?_
  refine ev hK (cd.mono (by decide) (by decide)) hta2 (by lia) ?_
  refine bI ?_
  refine gJ (by decide) ?_
  refine cu (x:=.str st) (.lst _) r7.1 (Int.lt_of_lt_of_le r7.2 (by decide)) he ?_
  obtain⟨M3,hM3⟩:∃ M3,M3=ap M2 ta (.list ((b7 ts).2.map V.int)):=⟨_,rfl⟩
  have n1:L+1≠ta:=nex a2 hta2
  have n2:L+2≠ta:=nex k2 hta2
  have a3:M3 (L+1)=some (.cell (some (.ref ta))):=by rw[hM3,af n1];exact a2
  have k3:M3 (L+2)=some (.cell none):=by rw[hM3,af n2];exact k2
  have hta3:M3 ta=some (.list ((b7 ts).2.map V.int)):=by rw[hM3,mset_self]
  have T3:bR cL dB bZ M3:=T2.mono fun b o e=>by rw[hM3,af (nex e hta2)];exact e
  rw[<-hM3]
  clear hM3 T2 hta2 a2 k2
  refine eL (hk:=rfl) (hl:=rfl) (hc:=rfl) k3 (fun M4 a4 f4=>?_)
  have k4:=(f4 _ (Ne.symm n21)).trans a3
  have hta4:=(f4 _ (Ne.symm n2)).trans hta3
  have T4:bR cL dB bZ M4:=T3.mono fun b o e=>(f4 _ (nex e k3)).trans e
  clear f4 T3 a3 k3 hta3
  have hz2:(b7 ts).2.length≤36:=Nat.le_trans (eu ts) hz1
  generalize (b7 ts).2=us at *
  refine ac ?_;refine aw rfl rfl rfl ?_;refine bq hK (fun _=>rfl) (fun _=>rfl) rfl rfl ?_;refine aB rfl ?_;refine aW ?_;refine aN rfl ?_
  refine bp (xs:=ae ABC) (show 3≤sizeLine by decide) ?_
  refine aI ?_
  rw[<-mun_no M4]
  refine Op.frame (Q:=fun v l m=>l=[]/\∃ a up,v = .ref a/\bL ar aq (g0 ABC up) a m) (fun _ _ e=>nomatch e) (nj hK (cd.mono (by decide) (by decide)) (show 3≤100 by decide) (by decide +kernel) (by decide +kernel) (fun a m up G=>⟨rfl,a,up,rfl,G⟩)) ?_
  rintro v l gm d1 ⟨rfl,a,up,rfl,G⟩
  refine ac ?_;refine aw rfl rfl rfl ?_;refine aW ?_;refine aI ?_
  refine kL (show 0≤sizeLine by decide) (fun ra hra=>?_)
  obtain⟨hra1,hra2⟩:=br hra
  rw[gF hra1]
  refine ac ?_;refine aw rfl rfl rfl ?_;refine aW ?_;refine aI ?_
  refine kL (show 0≤sizeLine by decide) (fun oa hoa=>?_)
  obtain⟨hoa1,hoa2⟩:=br hoa
  rw[gF hoa1]
  have nro:ra≠oa:=fun e=>by rw[e,mset_self]at hoa2;cases hoa2
  have hoa3:M4 oa=none:=by rwa [af (Ne.symm nro)]at hoa2
  have kp:∀ b x,M4 b=some x->ap (ap M4 ra (.list [])) oa (.list []) b=some x:=fun b x e=>by rw[af (nex e hoa3),af (nex e hra2)];exact e
  refine Tr.locs (loc':=[("grammar",.ref a),("rules",.ref ra),("offers",.ref oa)]) rfl ?_
  refine h _ ta ra oa a gm st us up hst hz2 ⟨kp _ _ k4,kp _ _ a4,kp _ _ hta4,by rw[af nro,mset_self];rfl,mset_self _ _ _,T4.mono fun b o e=>kp _ _ e,nro,nex hta4 hra2,nex hta4 hoa3⟩ G fun b x e=>?_
  have h1:=d1 b x e
  have z1:b≠ra:=fun q=>by rw[q,hra1]at e;cases e
  have z2:b≠oa:=fun q=>by rw[q,hoa1]at e;cases e
  rw[af z2,af z1];exact h1
end
noncomputable def lawB:List Stmt:=ag (ai lLaw.body 5)
inductive dR(off:List dC):Int->Str->List Str->Prop
 | good {k:Int} {x:Str} {ss:List Str}:0≤k->k≤5->x∈NM->(∀ s∈ss,s∈SYQ)->ss.length≤3->dR off k x ss
 | name {x:Str} {ss:List Str}:off≠[]->x∈jx->(∀ s∈ss,s∈SYQ)->ss.length≤3->dR off 6 x ss
 | sym {x b:Str} {ss:List Str}:off≠[]->x∈NM->b∈io->(∀ s∈ss,s∈SYQ)->ss.length≤3->dR off 7 x (b::ss)
inductive J3s(m0:Mem)(ta:Addr)(n b:Nat)(k i:Nat)(ys:List V)(m:Mem):Prop
 | mk (bs:List Str) (ts:List Int) (h1_:k+i=n) (h2_:ys=ae bs) (h3_:bs.length=i) (h4_:∀ y∈bs,y∈SYQ) (h5_:m ta=some (.list (ts.map .int))) (h6_:ts.length≤b) (h7_:Off ta m0 m)
theorem iy{ta:Addr}{x:ax}(m:Mem):Off ta m (ap m ta x):=fun b y n e=>by rw[af n];exact e
theorem small4{n:Nat}(h:n≤3):Builtin.Range.small 0 (0+(n:Int)) 1=true:=by
 have:n=0\/n=1\/n=2\/n=3:=by lia
 rcases this with rfl|rfl|rfl|rfl<;>decide +kernel
section
variable {W:Wd}{A:Around}{env:Env}{outer:ay}{loc:Loc}{mem:Mem}{E:Ex W}
theorem symV{F:Frz}(hK:W.K=hdK W.w.params)(h:∀ a o,W.hb.get? a=some o->F a o):VR W F (.lst (ae SYQ)) (.ref 258):=by
 refine .lst (h _ _ (W.KIn 258 _ (by rw[hK];rfl))) ?_
 exact .cons (.str _ _) (.cons (.str _ _) (.cons (.str _ _) (.cons (.str _ _) (.cons (.str _ _) (.cons (.str _ _) (.cons (.str _ _) (.cons (.str _ _) (.cons (.str _ _) .nil))))))))
theorem turn_a{L ta ra oa a:Addr}{ts:List Int}{off:List dC}{m:Mem}{Q:Fl->Loc->Mem->Prop}(hK:W.K=hdK W.w.params)(cd:aU A 310 2000)
  (c1:m (L+1)=some (.cell (some (.ref ta)))) (hta:m ta=some (.list (ts.map .int))) (hoa:m oa=some (.list (off.map jy))) (ht:ts.length≤36) (hz:off.length≤6)
  (h:∀ (l:Loc) (m':Mem) (k:Int) (x:Str) (ss:List Str) (us:List Int),a7 [("grammar",.ref a),("rules",.ref ra),("offers",.ref oa),("kind",.int k),("name",.str x),("symbols",.lst (ae ss))] l->dR off k x ss->Off ta m m'->m' ta=some (.list (us.map .int))->us.length≤36->TrS W A (lwE L) outer (execs (lawB.drop 6) (lwE L)) l m' Q E) :
  TrS W A (lwE L) outer (execs lawB (lwE L)) [("grammar",.ref a),("rules",.ref ra),("offers",.ref oa)] m Q E:=by
 have nLt:L+1≠ta:=nex c1 hta
 have hoz:((off.map jy).length:Int)<2 ^ 63:=by rw[List.length_map];lia
 refine ac ?_
 refine Tr.mono (Q:=fun f l m'=>f = .next/\∃ (k:Int) (us:List Int),a7 [("grammar",.ref a),("rules",.ref ra),("offers",.ref oa),("kind",.int k)] l/\0≤k/\k≤7/\(off=[]->k=0)/\Off ta m m'/\m' ta=some (.list (us.map .int))/\us.length≤36) (aC ?_) ?_
 ·intro qq ee
  refine aw rfl rfl rfl ?_;refine fU ?_;refine be rfl rfl ?_
  refine fS (.own hoa) hoz ?_
  skip
  refine⟨fun hb=>?_,fun hb=>?_⟩
  ·have hne:off≠[]:=fun e=>by rw[e]at hb;cases hb
   have r8:=eq (a:=(b7 ts).1) (b:=8) (by decide)
   refine cQ ?_;refine bq hK (fun _=>rfl) (fun _=>rfl) rfl rfl ?_;refine aB rfl ?_;refine aX rfl rfl rfl rfl (by first|assumption|simp[mset_self]) ?_;refine aI ?_
   refine ev hK (cd.mono (by decide) (by decide)) hta (by lia) ?_
   refine bI ?_
   refine gJ (by decide) ?_
   skip
   exact⟨rfl,(b7 ts).1.fmod 8,(b7 ts).2,rfl,r8.1,by lia,fun e=>absurd e hne,iy _,mset_self _ _ _,Nat.le_trans (eu ts) ht⟩
  ·have he:off=[]:=by cases off with|nil=>rfl|cons _ _=>cases hb
   refine bI ?_
   exact⟨rfl,0,ts,rfl,by decide,by decide,fun _=>rfl,fun b x _ e=>e,hta,ht⟩
 ·rintro f l m1 ⟨rfl,k,us,hl,hk1,hk2,hk0,off1,hta1,hu1⟩
  refine ac ?_
  refine Tr.locs hl ?_
  clear hl
  have c2:=off1 _ _ nLt c1
  obtain⟨x0,hx0,he0⟩:=my NM (by decide) (b7 us).1
  have r4:=eq (a:=(b7 us).1) (b:=4) (by decide)
  refine aw rfl rfl rfl ?_;refine cN (fun _ _=>rfl) ?_;refine c5 hK (fun _=>rfl) (fun _=>rfl) ?_
  refine cV hK (cd.mono (by decide) (by decide)) ?_
  refine cQ ?_;refine bq hK (fun _=>rfl) (fun _=>rfl) rfl rfl ?_;refine aB rfl ?_;refine aX rfl rfl rfl rfl (by first|assumption|simp[mset_self]) ?_;refine aI ?_
  refine ev hK (cd.mono (by decide) (by decide)) hta1 (by lia) ?_
  refine bI ?_
  refine gJ (by decide) ?_
  refine cu (x:=.str x0) (.lst _) r4.1 (Int.lt_of_lt_of_le r4.2 (by decide)) he0 ?_
  obtain⟨m2,hm2⟩:∃ m2,m2=ap m1 ta (.list ((b7 us).2.map .int)):=⟨_,rfl⟩
  have hta2:m2 ta=some (.list ((b7 us).2.map .int)):=by rw[hm2,mset_self]
  have off2:Off ta m m2:=off1.trans (by rw[hm2];exact iy _)
  have hu2:=Nat.le_trans (eu us) hu1
  rw[<-hm2]
  clear hm2 off1 hta1 c2
  generalize (b7 us).2=ws at *
  have c2:=off2 _ _ nLt c1
  refine ac ?_
  refine Tr.locs (loc':=[("grammar",.ref a),("rules",.ref ra),("offers",.ref oa),("kind",.int k),("name",.str x0)]) rfl ?_
  refine aw rfl rfl rfl ?_;refine cQ ?_;refine bq hK (fun _=>rfl) (fun _=>rfl) rfl rfl ?_;refine aB rfl ?_;refine aX rfl rfl rfl rfl (by first|assumption|simp[mset_self]) ?_;refine aI ?_
  refine ev hK (cd.mono (by decide) (by decide)) hta2 (by lia) ?_
  refine bI ?_
  refine gJ (by decide) ?_
  have r5:=eq (a:=(b7 ws).1) (b:=4) (by decide)
  obtain⟨n,hn⟩:∃ n:Nat,(b7 ws).1.fmod 4=(n:Int):=⟨((b7 ws).1.fmod 4).toNat,(Int.toNat_of_nonneg r5.1).symm⟩
  have hn3:n≤3:=by lia
  rw[hn]
  obtain⟨m3,hm3⟩:∃ m3,m3=ap m2 ta (.list ((b7 ws).2.map .int)):=⟨_,rfl⟩
  have hta3:m3 ta=some (.list ((b7 ws).2.map .int)):=by rw[hm3,mset_self]
  have off3:Off ta m m3:=off2.trans (by rw[hm3];exact iy _)
  have hu3:=Nat.le_trans (eu ws) hu2
  rw[<-hm3]
  clear hm3 off2 hta2 c2 hu2 hu1 r5 hn
  generalize (b7 ws).2=ys at *
  have c3:=off3 _ _ nLt c1
  refine ac ?_
  refine Tr.locs (loc':=[("grammar",.ref a),("rules",.ref ra),("offers",.ref oa),("kind",.int k),("name",.str x0),("count",.int n)]) rfl ?_
  refine cw (cl:=[("tape",L+1)]) rfl rfl (by decide) rfl (by decide) rfl rfl (fun _=>rfl) ?_
  refine fw hK (fun _=>rfl) rfl rfl ?_;refine aN rfl ?_
  refine range1 (fun rg t1 t2 t3 hrg=>?_)
  have hrt:rg≠ta:=fun e=>by rw[e,hta3]at hrg;cases hrg
  rw[show(n:Int)=((0:Int)+(n:Nat)) from(Int.zero_add _).symm]
  refine .mk (dl 0 n) _ (oJ (n:=n) cd.handled (mset_self _ _ _) (small4 hn3)) (J3s m3 ta n ys.length) (fun kc i ys m hI=>?_) (fun C outer' kc i ys mz l hI=>⟨by unfold dl;simp,fun hdone D hD=>?_,fun v hv=>?_⟩) n
   ⟨[],ys,by lia,rfl,rfl,(fun y hy=>nomatch hy),by rw[af (Ne.symm hrt)];exact hta3,Nat.le_refl _,fun b x _ e=>by rw[af (nex e hrg)];exact e⟩
  ·obtain⟨bs,ws,h1,rfl,h3,_⟩:=hI
   rw[aG];exact Nat.le_trans (show bs.length≤3 by lia) (by decide)
  ·obtain⟨bs,us,h1,rfl,h3,h4,h5,h6,h7⟩:=hI
   have hj:¬ i<n:=fun q=>by unfold dl at hdone;rw[if_pos q]at hdone;cases hdone
   refine⟨_,ah _,?_⟩
   have off4:Off ta m mz:=off3.trans h7
   have hl3:bs.length≤3:=by lia
   have hu4:=Nat.le_trans h6 hu3
   refine ac ?_
   rw[Int.zero_add]
   refine Tr.locs (loc':=[("grammar",.ref a),("rules",.ref ra),("offers",.ref oa),("kind",.int k),("name",.str x0),("count",.int n),("symbols",.ref D)]) rfl ?_
   refine Tr.settleL (x:="symbols") rfl (b8.lst (mset_self _ _ _) (aL hD (ah _)) hD) ?_
   refine Tr.locs (loc':=[("grammar",.ref a),("rules",.ref ra),("offers",.ref oa),("kind",.int k),("name",.str x0),("count",.int n),("symbols",.lst (ae bs))]) rfl ?_
   clear hD D h7 hrt hrg t1 t2 t3 hdone c3 hta3 off3
   obtain⟨xb,hxb,hxe⟩:∃ y∈jx,(ae jx)[n]? = some (.str y):=⟨jx[n]'(show n<4 by lia),List.getElem_mem _,gT (List.getElem?_eq_getElem _)⟩
   obtain⟨sb,hsb,hse⟩:∃ y∈io,(ae io)[n]? = some (.str y):=⟨io[n]'(show n<4 by lia),List.getElem_mem _,gT (List.getElem?_eq_getElem _)⟩
   refine Tr.mono (Q:=fun f l m'=>f = .next/\m'=mz/\∃ x,a7 [("grammar",.ref a),("rules",.ref ra),("offers",.ref oa),("kind",.int k),("name",.str x),("count",.int n),("symbols",.lst (ae bs))] l/\(k=6->x∈jx)/\(k≠6->x∈NM)) (aC ?_) ?_
   ·intro qq ee
    refine bz ?_;refine dp rfl rfl rfl ?_;refine eq_ii ?_;refine aj ?_
    refine⟨fun hb=>?_,fun hb=>?_⟩
    ·refine ac ?_;refine aw rfl rfl rfl ?_;refine cN (fun _ _=>rfl) ?_;refine c5 hK (fun _=>rfl) (fun _=>rfl) ?_
     refine oF hK (cd.mono (by decide) (by decide)) ?_
     refine pu rfl ?_
     refine cu (x:=.str xb) (.lst _) (Int.natCast_nonneg _) (by lia) (by rw[Int.toNat_natCast];exact hxe) ?_
     refine ak ?_
     exact⟨rfl,rfl,xb,rfl,fun _=>hxb,fun e=>absurd (of_decide_eq_true hb) e⟩
    ·refine ak ?_
     exact⟨rfl,rfl,x0,rfl,fun e=>absurd e (of_decide_eq_false hb),fun _=>hx0⟩
   ·rintro f l m' ⟨rfl,rfl,x,hl,hx6,hx1⟩
    refine ac ?_
    refine Tr.locs hl ?_
    clear hl
    refine Tr.mono (Q:=fun f l m''=>f = .next/\m''=m'/\∃ ss,a7 [("grammar",.ref a),("rules",.ref ra),("offers",.ref oa),("kind",.int k),("name",.str x),("symbols",.lst (ae ss))] l/\(k=7->ss=sb::bs)/\(k≠7->ss=bs)) (aC ?_) ?_
    ·intro qq ee
     refine bz ?_;refine dp rfl rfl rfl ?_;refine eq_ii ?_;refine aj ?_
     refine⟨fun hb=>?_,fun hb=>?_⟩
     ·refine ac ?_;refine aw rfl rfl rfl ?_;refine cQ ?_;refine aW ?_;refine aB rfl ?_;refine cN (fun _ _=>rfl) ?_;refine c5 hK (fun _=>rfl) (fun _=>rfl) ?_
      refine o9 hK (cd.mono (by decide) (by decide)) ?_
      refine pu rfl ?_
      refine cu (x:=.str sb) (.lst _) (Int.natCast_nonneg _) (by lia) (by rw[Int.toNat_natCast];exact hse) ?_
      refine aI ?_
      refine bp (show 1≤sizeLine by decide) ?_
      refine pu rfl ?_
      refine gr (.lst _) (.lst _) (by rw[aG];exact Nat.le_trans (show 1+bs.length≤4 by lia) (by decide)) ?_
      refine ak ?_
      exact⟨rfl,rfl,sb::bs,rfl,fun _=>rfl,fun e=>absurd (of_decide_eq_true hb) e⟩
     ·refine ak ?_
      exact⟨rfl,rfl,bs,rfl,fun e=>absurd e (of_decide_eq_false hb),fun _=>rfl⟩
    ·rintro f l m'' ⟨rfl,rfl,ss,hl,hs7,hs1⟩
     refine h l m'' k x ss us hl ?_ off4 h5 hu4
     have ne:k≠0->off≠[]:=fun e z=>e (hk0 z)
     by_cases q6:k=6
     ·subst q6
      rw[hs1 (by decide)]
      exact .name (ne (by decide)) (hx6 rfl) h4 hl3
     ·by_cases q7:k=7
      ·subst q7
       rw[hs7 rfl]
       exact .sym (ne (by decide)) (hx1 (by decide)) hsb h4 hl3
      ·rw[hs1 q7]
       exact .good hk1 (by lia) (hx1 q6) h4 hl3
  ·obtain⟨bs,ws,h1,rfl,h3,h4,h5,h6,h7⟩:=hI
   have hj:i<n:=by
    unfold dl at hv;split at hv
    ·assumption
    ·cases hv
   obtain⟨y,hy,he⟩:=my SYQ (by decide) (b7 ws).1
   have r7:=eq (a:=(b7 ws).1) (b:=9) (by decide)
   have hT3:=h7 _ _ nLt c3
   refine am rfl rfl ?_
   refine cN (fun _ _=>rfl) ?_
   refine qC (v:=.lst (ae SYQ)) rfl rfl rfl rfl (by rw[hK];rfl) (fun F hF=>symV hK hF) ?_
   refine cQ ?_;refine bq hK (fun _=>rfl) (fun _=>rfl) rfl rfl ?_;refine aB rfl ?_;refine aX rfl rfl rfl rfl (by first|assumption|simp[mset_self]) ?_;refine aI ?_
   refine ev hK (cd.mono (by decide) (by decide)) h5 (by lia) ?_
   refine bI ?_
   refine gJ (by decide) ?_
   refine cu (x:=.str y) (.lst _) r7.1 (Int.lt_of_lt_of_le r7.2 (by decide)) he ?_
   skip
   refine⟨kc - 1,by lia,bs++[y],(b7 ws).2,by lia,by unfold ae;rw[List.map_append];rfl,by rw[List.length_append,h3];rfl,fun z hz=>?_,mset_self _ _ _,Nat.le_trans (eu ws) h6,h7.trans (iy _)⟩
   rcases List.mem_append.mp hz with hz|hz
   ·exact h4 z hz
   ·rw[List.mem_singleton]at hz;rw[hz];exact hy
end
inductive du:List dC->List aD->Prop
 | nil:du [] []
 | cons {x:Str} {ss:List Str} {rest:List dC} {R:List aD}:x∈NM->(∀ s∈ss,s∈SYQ)->ss.length≤3->(x,ss.map unq)∈R->du ((x,ss)::rest) R
noncomputable def unqG:V->Option V
 | .str s=>some (.str (unq s))
 | _=>none
theorem qy(l:List Str):(ae l).filterMap unqG=ae (l.map unq):=by
 unfold ae
 induction l with
 | nil=>rfl
 | cons s l ih=>rw[List.map_cons,List.filterMap_cons];exact congrArg (V.str (unq s)::·) ih
theorem RL3.isD{r:aD}(h:RL3 r):isD 2 (bB r)=true:=by
 unfold bB
 show(List.all [V.str r.1,V.tup (ae r.2)] (Mine.isD 1))=true
 simp only [List.all_cons,List.all_nil,Bool.and_true,Bool.and_eq_true]
 refine⟨bn _ (cq _ h.left),?_⟩
 show(ae r.2).all (Mine.isD 0)=true
 exact dv (List.all_eq_true.mpr fun y hy=>bn y (h.body y hy))
noncomputable def la(k:Int)(x:Str)(ss:List Str):Option aD:=if k≤5 then some (x,ss.map unq) else none
theorem dR.off3{off:List dC}{k:Int}{x:Str}{ss:List Str}(h:dR off k x ss):pj x ss (la k x ss):=by
 unfold la
 cases h with
 | good h1 h2 h3 h4 h5=>rw[if_pos h2];exact .good h3 h4 h5
 | name h1 h2 h3 h4=>rw[if_neg (by decide)];exact .name h2 (by lia)
 | sym h1 h2 h3 h4 h5=>rw[if_neg (by decide)];exact .sym h2 h3 h4 h5
theorem dR.rl{off:List dC}{k:Int}{x:Str}{ss:List Str}(h:dR off k x ss)(hk:k≤5):RL3 (x,ss.map unq):=by
 cases h with
 | good h1 h2 h3 h4 h5=>
  refine⟨h3,by show(ss.map unq).length≤3;rw[List.length_map];exact h5,fun y hy=>?_⟩
  obtain⟨s,hs,rfl⟩:=inM hy
  exact kd s (h4 s hs)
 | name=>exact absurd hk (by decide)
 | sym=>exact absurd hk (by decide)
theorem dR.len{off:List dC}{k:Int}{x:Str}{ss:List Str}(h:dR off k x ss):ss.length≤4:=by
 cases h with
 | good h1 h2 h3 h4 h5=>lia
 | name h1 h2 h3 h4=>lia
 | @sym _ b ss h1 h2 h3 h4 h5=>rw[List.length_cons];lia
section
variable {W:Wd}{A:Around}{env:Env}{outer:ay}{loc:Loc}{mem:Mem}{E:Ex W}
theorem eq_bb{a b:Bool}{Q:V->Loc->Mem->Prop}(h:Q (.bool (a==b)) loc mem):OpV W A env outer (fun|[x,y]=>compareOp .Eq x y|_=>pure .none) [.bool a,.bool b] loc mem Q E:=op2 fun R F s v u S r1 r2=>by
 obtain rfl:=r1.isBool;obtain rfl:=r2.isBool;exact PyProof.Rows.eq_bool (aE.mk (.bool _) S h)
theorem ne_bb{a b:Bool}{Q:V->Loc->Mem->Prop}(h:Q (.bool (a != b)) loc mem):OpV W A env outer (fun|[x,y]=>compareOp .NotEq x y|_=>pure .none) [.bool a,.bool b] loc mem Q E:=op2 fun R F s v u S r1 r2=>by
 obtain rfl:=r1.isBool;obtain rfl:=r2.isBool;exact PyProof.Rows.ne_bool (aE.mk (.bool _) S h)
theorem turn_b{L ta ra oa a:Addr}{st x:Str}{ts:List Int}{off:List dC}{R:List aD}{k:Int}{ss:List Str}{g:GR}{gm M:Mem}{Q:Fl->Loc->Mem->Prop}(hK:W.K=hdK W.w.params)(B:jC W)(cd:aU A 310 2000)(hf:c8 A (lwE L) outer)
  (ko:dR off k x ss) (I:LR3 R) (v:de R g) (G:bL ar aq g a gm) (d:Dis gm M) (S:St3 L ta ra oa st R ts off M) (hz:off.length≤5) (hR:R.length≤off.length) (F0:du off R)
  (h:∀ (l:Loc) (R':List aD) (g':GR) (gm' M':Mem),a7 [("grammar",.ref a),("rules",.ref ra),("offers",.ref oa)] l->LR3 R'->R'.length≤off.length+1->de R' g'->bL ar aq g' a gm'->Dis gm' M'->St3 L ta ra oa st R' ts (off++[(x,ss)]) M'->du (off++[(x,ss)]) R'->Q .next l (mun gm' M')) :
  TrS W A (lwE L) outer (execs (lawB.drop 6) (lwE L)) [("grammar",.ref a),("rules",.ref ra),("offers",.ref oa),("kind",.int k),("name",.str x),("symbols",.lst (ae ss))] (mun gm M) Q E:=by
 have hu2:A.units+65<cLine:=Nat.lt_of_le_of_lt (Nat.add_le_add_right cd.units 65) (by decide)
 have hoa:=cg d S.hoa
 have hl4:=ko.len
 refine ac ?_;refine bP rfl rfl ?_;refine bC rfl rfl ?_
 refine a6 (.list hoa) PySem.F.plainAttrs_list PySem.F.slot_list_append PySem.F.type_list_append rfl rfl ?_
 refine aB rfl ?_;refine ca ?_;refine aN rfl ?_
 refine cf (show 2≤sizeLine by decide) ?_
 refine aI ?_
 refine gg hoa (by rw[List.length_map];exact Nat.le_trans (show _≤6 by lia) (by decide)) ?_
 rw[gF (f9 d S.hoa)]
 have S1:St3 L ta ra oa st R ts (off++[(x,ss)]) (ap M oa (.list (off.map jy++[.tup [.str x,.lst (ae ss)]]))):=by
  refine⟨?_,?_,?_,?_,?_,S.T.mono fun b o e=>?_,S.n1,S.n2,S.n3⟩
  ·rw[af (nex S.c1 S.hoa)];exact S.c1
  ·rw[af (nex S.c2 S.hoa)];exact S.c2
  ·rw[af S.n3];exact S.hta
  ·rw[af S.n1];exact S.hra
  ·rw[mset_self,List.map_append];rfl
  ·rw[af (nex e S.hoa)];exact e
 have d1:Dis gm (ap M oa (.list (off.map jy++[.tup [.str x,.lst (ae ss)]]))):=fun b y e=>by
  rw[af (fun q=>by have:=f9 d S.hoa;rw[<-q,e]at this;cases this)];exact d b y e
 generalize ap M oa (.list (off.map jy++[.tup [.str x,.lst (ae ss)]]))=M1 at *
 clear hoa d S
 have hra:=cg d1 S1.hra
 have hra':(R.map bB).all (isD 2)=true:=by
  rw[List.all_eq_true];intro v hv
  obtain⟨q,hq,rfl⟩:=inM hv
  exact(I.ok q hq).isD
 refine ac ?_;refine aw rfl rfl rfl ?_;refine ca ?_;refine fe rfl ?_;refine aB rfl ?_;refine fw hK (fun _=>rfl) rfl rfl ?_;refine aB rfl ?_;refine bd rfl (by decide) rfl (by decide) (fun _=>rfl) ?_;refine pu rfl ?_
 refine bj (cb cd.handled) (ae ss) (fun m i hs hi=>rfl) (by rw[aG];exact Nat.le_trans hl4 (by decide)) unqG ?_ ?_
 ·intro C outer' i v hv
  obtain⟨s,hs,rfl⟩:=inM (List.mem_of_getElem? hv)
  refine am rfl rfl ?_;refine fU ?_;refine dp rfl rfl rfl ?_;refine nR ?_;refine aj ?_
  refine⟨fun hb=>?_,fun hb=>?_⟩
  ·refine gE ?_
   have e:s=bH:=of_decide_eq_true hb
   exact⟨by show some _=some (V.str (unq s));unfold unq;rw[if_pos e];rfl,ah _⟩
  ·refine pu rfl ?_
   have e:¬ s=bH:=of_decide_eq_false hb
   exact⟨by show some _=some (V.str (unq s));unfold unq;rw[if_neg e],ah _⟩
 ·intro D hD
  rw[qy]
  refine aI ?_
  refine iF (.own (mset_self _ _ _)) (by rw[aG,List.length_map];exact Nat.le_trans hl4 (by decide)) ?_
  refine Tr.memS (aL hD (ah _)) ?_
  refine aI ?_
  refine cf (show 2≤sizeLine by decide) ?_
  refine ac ?_
  refine Tr.locs (loc':=[("grammar",.ref a),("rules",.ref ra),("offers",.ref oa),("kind",.int k),("name",.str x),("symbols",.lst (ae ss)),("rule",bB (x,ss.map unq))]) rfl ?_
  refine Tr.mono (Q:=fun f l m'=>f = .next/\m'=mun gm M1/\∃ b:Bool,a7 [("grammar",.ref a),("rules",.ref ra),("offers",.ref oa),("name",.str x),("symbols",.lst (ae ss)),("rule",bB (x,ss.map unq)),("refused",.bool b)] l/\(b=true↔∀ r,la k x ss=some r->r∈R)) (aC ?_) ?_
  ·intro qq ee
   refine aw rfl rfl rfl ?_;refine nM ?_;refine qR rfl rfl rfl ?_;refine nV ?_;refine aj ?_
   refine⟨fun hb=>?_,fun hb=>?_⟩
   ·have hk:k≤5:=by have:=of_decide_eq_false hb;lia
    have e:la k x ss=some (x,ss.map unq):=if_pos hk
    refine qR rfl rfl rfl ?_
    refine iA (n:=2) (.own hra) (ko.rl hk).isD hra' (by decide) hu2 (fun b hb=>?_)
    have hb:=hb.trans (pb (a:=(x,ss.map unq)))
    skip
    exact⟨rfl,rfl,b,rfl,hb.trans ⟨fun h r e2=>by rw[e]at e2;cases e2;exact h,fun h=>h _ e⟩⟩
   ·have hk:¬ k≤5:=by have:=of_decide_eq_true hb;lia
    have e:la k x ss=none:=if_neg hk
    skip
    exact⟨rfl,rfl,true,by rw[hb];rfl,⟨fun _ r e2=>(by rw[e]at e2;cases e2),fun _=>rfl⟩⟩
  ·rintro f l m' ⟨rfl,rfl,b,hl,hb⟩
   refine ac ?_
   refine Tr.locs hl ?_
   clear hl
   refine Tr.mono (Q:=fun f l m'=>f = .next/\a7 [("grammar",.ref a),("rules",.ref ra),("offers",.ref oa),("rule",bB (x,ss.map unq)),("refused",.bool b)] l/\∃ gm',Dis gm' M1/\m'=mun gm' M1/\((b=true/\bL ar aq g a gm')\/(b=false/\x∈NM/\(∀ s∈ss,s∈SYQ)/\ss.length≤3/\bL ar aq (kv (mC g ss) (x,ss.map unq)) a gm'))) (aC ?_) ?_
   ·intro qq ee
    refine bz ?_;refine df rfl ?_;refine bq hK (fun _=>rfl) (fun _=>rfl) rfl rfl ?_;refine aN rfl ?_
    refine kT hK (cd.mono (by decide) (by decide)) hf G d1 v.wf I ko.off3 (fun h1 gm' G' d'=>?_) (fun r e hr gm' h1 h2 h3 e2 G' d'=>?_)
    ·have hb:=hb.mpr h1
     refine pu rfl ?_
     refine ne_bb ?_
     rw[hb]
     refine aj ?_
     refine aT ?_
     refine ak ?_
     exact⟨rfl,by rw[hb];rfl,gm',d',rfl,.inl ⟨hb,G'⟩⟩
    ·have hb:b=false:=by
      cases b with
      | false=>rfl
      | true=>exact absurd (hb.mp rfl r e) hr
     refine pu rfl ?_
     refine ne_bb ?_
     rw[hb]
     refine aj ?_
     refine aT ?_
     refine ak ?_
     exact⟨rfl,by rw[hb];rfl,gm',d',rfl,.inr ⟨hb,h1,h2,h3,G'⟩⟩
   ·rintro f l m' ⟨rfl,hl,gm',d',rfl,hcase⟩
    refine ac ?_
    refine Tr.locs hl ?_
    clear hl d1 G hra hD D hra'
    refine Tr.mono (Q:=fun f l m'=>f = .next/\a7 [("grammar",.ref a),("rules",.ref ra),("offers",.ref oa)] l/\∃ R' g' M2,m'=mun gm' M2/\LR3 R'/\R'.length≤off.length+1/\de R' g'/\bL ar aq g' a gm'/\Dis gm' M2/\St3 L ta ra oa st R' ts (off++[(x,ss)]) M2/\du (off++[(x,ss)]) R') ?_ ?_
    ·rcases hcase with⟨rfl,G'⟩|⟨rfl,h1,h2,h3,G'⟩
     ·refine aC ?_
      intro qq ee
      refine bz ?_;refine cO ?_;refine be rfl rfl ?_;refine aj ?_
      refine aT ?_
      refine ak ?_
      have F1:du (off++[(x,ss)]) R:=by
       cases F0 with
       | nil=>
        cases ko with
        | good k1 k2 k3 k4 k5=>exact nomatch hb.mp rfl (x,ss.map unq) (if_pos k2)
        | name e=>exact absurd rfl e
        | sym e=>exact absurd rfl e
       | cons q1 q2 q3 q4=>exact .cons q1 q2 q3 q4
      exact⟨rfl,rfl,R,g,M1,rfl,I,by lia,v,G',d',S1,F1⟩
     ·refine aC ?_
      intro qq ee
      have hr:=cg d' S1.hra
      refine bz ?_;refine cO ?_;refine be rfl rfl ?_;refine aj ?_
      refine bk ?_
      refine ac ?_;refine bP rfl rfl ?_;refine bC rfl rfl ?_
      refine a6 (.list hr) PySem.F.plainAttrs_list PySem.F.slot_list_append PySem.F.type_list_append rfl rfl ?_
      refine aN rfl ?_
      refine gg hr (by rw[List.length_map];exact Nat.le_trans (show _≤6 by lia) (by decide)) ?_
      rw[gF (f9 d' S1.hra)]
      refine ak ?_
      refine⟨rfl,rfl,R++[(x,ss.map unq)],kv (mC g ss) (x,ss.map unq),_,rfl,⟨fun r hr=>?_,?_⟩,?_,v.add h1 h2 h3,G',fun b y e=>?_,⟨?_,?_,?_,?_,?_,S1.T.mono fun b o e=>?_,S1.n1,S1.n2,S1.n3⟩,?_⟩
      ·rcases List.mem_append.mp hr with hr|hr
       ·exact I.ok r hr
       ·rw[List.mem_singleton]at hr
        rw[hr]
        refine⟨h1,by show(ss.map unq).length≤3;rw[List.length_map];exact h3,fun y hy=>?_⟩
        obtain⟨s,hs,rfl⟩:=inM hy
        exact kd s (h2 s hs)
      ·rw[List.length_append,List.length_singleton];lia
      ·rw[List.length_append,List.length_singleton];lia
      ·rw[af (fun q=>by have:=f9 d' S1.hra;rw[<-q,e]at this;cases this)];exact d' b y e
      ·rw[af (nex S1.c1 S1.hra)];exact S1.c1
      ·rw[af (nex S1.c2 S1.hra)];exact S1.c2
      ·rw[af S1.n2];exact S1.hta
      ·rw[mset_self,List.map_append];rfl
      ·rw[af (Ne.symm S1.n1)];exact S1.hoa
      ·rw[af (nex e S1.hra)];exact e
      ·cases F0 with
       | nil=>exact .cons h1 h2 h3 (.head _)
       | cons q1 q2 q3 q4=>exact .cons q1 q2 q3 (List.mem_append_left _ q4)
    ·rintro f l m' ⟨rfl,hl,R',g',M2,rfl,I',hR',v',G',d2,S2,F2⟩
     refine ac ?_
     refine Tr.locs hl ?_
     refine bz ?_;refine df rfl ?_;refine bq hK (fun _=>rfl) (fun _=>rfl) rfl rfl ?_;refine aN rfl ?_
     refine nE (os:=none) hK B (cd.mono (by decide) (by decide)) G' d2 S2.T v' I' (fun s hs=>nomatch hs) (fun u M3 hu d3 off3 T3=>?_)
     obtain⟨o,hT⟩:=S2.T.at_
     have S3:St3 L ta ra oa st R' ts (off++[(x,ss)]) M3:=⟨off3 _ _ (nex S2.c1 hT) S2.c1,off3 _ _ (nex S2.c2 hT) S2.c2,off3 _ _ (nex S2.hta hT) S2.hta,off3 _ _ (nex S2.hra hT) S2.hra,off3 _ _ (nex S2.hoa hT) S2.hoa,T3,S2.n1,S2.n2,S2.n3⟩
     refine bq hK (fun _=>rfl) (fun _=>rfl) rfl rfl ?_;refine aN rfl ?_
     refine iX (os:=none) hK (cd.mono (by decide) (by decide)) I' (fun s hs=>nomatch hs) (cg d3 S3.hra) (fun u' hu'=>?_)
     have e:=hu u' hu'
     have dd:=kH (os:=none) I' (fun s hs=>nomatch hs) hu'
     rw[e]
     refine p4 dd dd (by decide) (by decide) (Nat.lt_of_le_of_lt (Nat.add_le_add_right cd.units 64) (by decide)) (fun b hb=>?_)
     rw[hb.mpr rfl]
     refine aj ?_
     refine aT ?_
     refine ak ?_;refine ak ?_
     exact h _ R' g' gm' M3 rfl I' hR' v' G' d3 S3 F2
end
inductive J3w(L ta ra oa a:Addr)(st:Str)(k:Nat)(l:Loc)(m:Mem):Prop
 | mk (h1_:a7 [("grammar",.ref a),("rules",.ref ra),("offers",.ref oa)] l) (R:List aD) (g:GR) (gm M:Mem) (ts:List Int) (off:List dC) (h2_:m=mun gm M) (h3_:LR3 R) (h4_:R.length≤off.length) (h5_:de R g) (h6_:bL ar aq g a gm) (h7_:Dis gm M) (h8_:St3 L ta ra oa st R ts off M) (h9_:du off R) (h10_:off.length+k=6) (h11_:ts.length≤36)
section
variable {W:Wd}{A:Around}{env:Env}{outer:ay}{loc:Loc}{mem:Mem}{E:Ex W}
theorem St3.off{L ta ra oa:Addr}{st:Str}{R:List aD}{ts us:List Int}{off:List dC}{M M':Mem}(S:St3 L ta ra oa st R ts off M)(h:Off ta M M')(h2:M' ta=some (.list (us.map .int))):St3 L ta ra oa st R us off M':=
 ⟨h _ _ (nex S.c1 S.hta) S.c1,h _ _ (nex S.c2 S.hta) S.c2,h2,h _ _ (Ne.symm S.n2) S.hra,h _ _ (Ne.symm S.n3) S.hoa,S.T.mono fun b o e=>h _ _ (nex e S.hta) e,S.n1,S.n2,S.n3⟩
theorem law_b{L ta ra oa a:Addr}{st:Str}{ts:List Int}{up:V}{gm M:Mem}{Q:Fl->Loc->Mem->Prop}(hK:W.K=hdK W.w.params)(B:jC W)(cd:aU A 310 2000)(hf:c8 A (lwE L) outer)
  (G:bL ar aq (g0 ABC up) a gm) (d:Dis gm M) (S:St3 L ta ra oa st [] ts [] M) (ht:ts.length≤36)
  (h:∀ (R:List aD) (g:GR) (gm M:Mem) (ts:List Int) (off:List dC),off≠[]->off.length≤6->LR3 R->de R g->bL ar aq g a gm->Dis gm M->St3 L ta ra oa st R ts off M->du off R->TrS W A (lwE L) outer (execs (lLaw.body.drop 6) (lwE L)) [("grammar",.ref a),("rules",.ref ra),("offers",.ref oa)] (mun gm M) Q E) :
  TrS W A (lwE L) outer (execs (lLaw.body.drop 5) (lwE L)) [("grammar",.ref a),("rules",.ref ra),("offers",.ref oa)] (mun gm M) Q E:=by
 refine ac ?_
 refine ki (J3w L ta ra oa a st) (fun k l m J=>?_) 6 (.mk rfl [] _ gm M ts [] rfl ⟨fun r hr=>(nomatch hr),Nat.zero_le _⟩ (Nat.zero_le _) (de.zero up) G d S .nil rfl ht)
 obtain⟨hl,R,g,gm,M,ts,off,rfl,I,hR,v,G,d,S,F,hk,ht⟩:=J
 refine Tr.locs hl ?_
 have hoa:=cg d S.hoa
 have hta:=cg d S.hta
 have hT:=cg d S.c1
 have hoz:((off.map jy).length:Int)<2 ^ 63:=by rw[List.length_map];lia
 have htz:((ts.map V.int).length:Int)<2 ^ 63:=by rw[List.length_map];lia
 refine Tr.mono (Q:=fun b l m=>l=[(("grammar" : Str),V.ref a),("rules",.ref ra),("offers",.ref oa)]/\m=mun gm M/\(b=true->off.length<6)/\(b=false->off≠[])) (aC ?_) ?_
 ·intro qq ee
  refine c9 ?_;refine b0 ?_;refine cO ?_;refine be rfl rfl ?_
  refine fS (.own hoa) hoz ?_
  have eo:(!(List.map jy off).isEmpty) = !off.isEmpty:=by cases off<;>rfl
  rw[eo]
  skip
  refine⟨fun hb=>?_,fun hb=>?_⟩
  ·have hne:off≠[]:=fun e=>by rw[e]at hb;cases hb
   refine b0 ?_;refine c9 ?_;refine aQ ?_;refine cI rfl ?_;refine aX rfl rfl rfl rfl (by first|assumption|simp[mset_self]) ?_
   refine fS (.own hta) htz ?_
   skip
   refine⟨fun hb2=>?_,fun hb2=>?_⟩
   ·refine aQ ?_;refine df rfl ?_;refine bK hK (fun _=>rfl) rfl rfl ?_;refine aN rfl ?_
    refine jw (.own hoa) hoz ?_
    refine bI ?_;refine lt_ii ?_;refine aj ?_
    refine⟨fun hb3=>?_,fun hb3=>?_⟩
    ·refine cn ?_
     exact⟨(fun e=>nomatch e),fun _=>⟨rfl,rfl,fun _=>by have:=of_decide_eq_true hb3;rw[List.length_map]at this;lia,fun e=>nomatch e⟩⟩
    ·skip
     refine⟨fun _=>?_,fun e=>nomatch e⟩
     refine fn ?_
     exact⟨rfl,rfl,(fun e=>nomatch e),fun _=>hne⟩
   ·skip
    refine⟨fun _=>?_,fun e=>nomatch e⟩
    refine fn ?_
    exact⟨rfl,rfl,(fun e=>nomatch e),fun _=>hne⟩
  ·have he:off=[]:=by cases off with|nil=>rfl|cons _ _=>cases hb
   exact⟨rfl,rfl,fun _=>by rw[he];decide,fun e=>nomatch e⟩
 ·rintro b l m ⟨rfl,rfl,b1,b2⟩
  refine⟨fun hb=>?_,fun hb=>?_⟩
  ·have hz:=b1 hb
   refine turn_a (ts:=ts) hK cd hT hta hoa ht (by lia) (fun l m' k' x ss us hl ko off' h2 hu=>?_)
   refine Tr.locs hl ?_
   obtain⟨M',rfl,d',off''⟩:=kE d off' (f9 d S.hta)
   have hta':M' ta=some (.list (us.map .int)):=by rwa [bw (f9 d S.hta)]at h2
   refine turn_b hK B cd hf ko I v G d' (S.off off'' hta') (by lia) hR F (fun l R' g' gm' M2 hl I' hR' v' G' d2 S2 F2=>?_)
   refine⟨k - 1,by lia,hl,R',g',gm',M2,us,off++[(x,ss)],rfl,I',by rw[List.length_append,List.length_singleton];exact hR',v',G',d2,S2,F2,by rw[List.length_append,List.length_singleton];lia,hu⟩
  ·refine ak ?_
   exact h R g gm M ts off (b2 hb) (by lia) I v G d S F
end
noncomputable def knB(st:Str)(r:aD):Bool:=decide (st=r.1) || decide (st∈r.2)
noncomputable def knG(st:Str):V->Option V
 | .tup [.str n,.tup ys]=>some (.bool (knB st (n,ys.map fun v=>match v with|.str s=>s|_=>"")))
 | _=>none
theorem lZ(st:Str)(r:aD):knG st (bB r)=some (.bool (knB st r)):=by
 have:(ae r.2).map (fun v=>match v with|.str s=>s|_=>("" : Str))=r.2:=by
  unfold ae;rw[List.map_map];exact List.map_id _
 show some (V.bool (knB st (r.1,(ae r.2).map _)))=_
 rw[this]
theorem knG_map(st:Str)(R:List aD):(R.map bB).filterMap (knG st)=(R.map (knB st)).map V.bool:=by
 induction R with
 | nil=>rfl
 | cons r R ih=>rw[List.map_cons,List.filterMap_cons,lZ];exact congrArg (V.bool _::·) ih
noncomputable def cA(R:List aD)(st:Str):Bool:=decide (st∈NM)&&(R.map (knB st)).any id
theorem fF{R:List aD}{st:Str}:cA R st=true↔st∈NM/\(st∈bx R\/st∈bc R):=by
 unfold cA
 rw[Bool.and_eq_true,decide_eq_true_eq,List.any_map,List.any_eq_true]
 refine and_congr_right fun _=>?_
 constructor
 ·rintro⟨r,hr,h⟩
  have h:knB st r=true:=h
  unfold knB at h
  rw[Bool.or_eq_true,decide_eq_true_eq,decide_eq_true_eq]at h
  rcases h with rfl|h
  ·exact .inl (List.mem_map.mpr ⟨r,hr,rfl⟩)
  ·exact .inr (cU.mpr ⟨r,hr,h⟩)
 ·rintro(h|h)
  ·obtain⟨r,hr,e⟩:=inM h
   exact⟨r,hr,by show knB st r=true;unfold knB;rw[decide_eq_true e.symm];rfl⟩
  ·obtain⟨r,hr,e⟩:=cU.mp h
   exact⟨r,hr,by show knB st r=true;unfold knB;rw[decide_eq_true e,Bool.or_true]⟩
theorem jN:∀ s∈gN,PyData.strOk s=true/\0<s.cps.size/\s.cps.size≤100:=by decide +kernel
theorem qt:∀ s∈NM,s∈gN:=by decide +kernel
theorem Wf3.look{R:List aD}{g:GR}(W:Wf3 R g)(st:Str):(g.no.lookup st).isSome=cA R st:=by
 rw[Bool.eq_iff_iff,aF,List.contains_iff_mem,W.no,fF]
section
variable {W:Wd}{A:Around}{env:Env}{outer:ay}{loc:Loc}{mem:Mem}{E:Ex W}
theorem in_tupS{x:Str}{ys:List Str}{Q:V->Loc->Mem->Prop}(h:Q (.bool (decide (x∈ys))) loc mem):OpV W A env outer (fun|[x,y]=>compareOp .In x y|_=>pure .none) [.str x,.tup (ae ys)] loc mem Q E:=op2 fun R F s x' v' S r1 r2=>by
 obtain⟨_,rfl⟩:=r1.isStr
 cases r2.view with
 | @tup a vs n fa q=>
  refine in_tuple_strs (items:=vs) (t:=a) ⟨_,S.frz _ _ fa,rfl,n,rfl⟩ (VRs.strs (ys:=ys) q) ?_
  have:(ys.any fun z=>z==x)=decide (x∈ys):=by
   rw[Bool.eq_iff_iff,List.any_eq_true,decide_eq_true_iff]
   exact⟨fun⟨z,hz,e⟩=>(beq_iff_eq.mp e)▸hz,fun h=>⟨x,h,beq_self_eq_true x⟩⟩
  rw[this]
  exact aE.mk (.bool _) S h
theorem law_c{L ta ra oa a:Addr}{st:Str}{ts:List Int}{off:List dC}{R:List aD}{g:GR}{gm M:Mem}{Q:Fl->Loc->Mem->Prop}(hK:W.K=hdK W.w.params)(B:jC W)(cd:aU A 310 2000)(hf:c8 A (lwE L) outer)
  (hst:st∈gN) (hne:off≠[]) (I:LR3 R) (v:de R g) (G:bL ar aq g a gm) (d:Dis gm M) (S:St3 L ta ra oa st R ts off M) (F:du off R)
  (h:∀ (st':Str) (gm' M':Mem),st'∈NM->cA R st'=true->bL ar aq (dK aq g st') a gm'->Dis gm' M'->St3 L ta ra oa st' R ts off M'->TrS W A (lwE L) outer (execs (lLaw.body.drop 9) (lwE L)) [("grammar",.ref a),("rules",.ref ra),("offers",.ref oa)] (mun gm' M') Q E) :
  TrS W A (lwE L) outer (execs (lLaw.body.drop 6) (lwE L)) [("grammar",.ref a),("rules",.ref ra),("offers",.ref oa)] (mun gm M) Q E:=by
 have hu2:A.units+65<cLine:=Nat.lt_of_le_of_lt (Nat.add_le_add_right cd.units 65) (by decide)
 obtain⟨ok1,ok2,ok3⟩:=jN st hst
 have hT:=cg d S.c2
 have hra:=cg d S.hra
 refine ac ?_
 refine Tr.mono (Q:=fun f l m'=>f = .next/\m'=mun gm M/\a7 [("grammar",.ref a),("rules",.ref ra),("offers",.ref oa),("known",.bool (cA R st))] l) (aC ?_) ?_
 ·intro qq ee
  refine c7 rfl ?_
  refine pd ?_;refine jd rfl ?_;refine aX rfl rfl rfl rfl (by first|assumption|simp[mset_self]) ?_;refine c5 hK (fun _=>rfl) (fun _=>rfl) ?_
  refine cV hK (cd.mono (by decide) (by decide)) ?_
  skip
  refine dc (.lst _) ok1 qh hu2 ?_
  refine aj ?_
  refine⟨fun hb=>?_,fun hb=>?_⟩
  ·refine bK hK (fun _=>rfl) rfl rfl ?_;refine aB rfl ?_;refine bd rfl (by decide) rfl (by decide) (fun _=>rfl) ?_;refine pu rfl ?_
   refine bj (dt cd.handled hra) (R.map bB) (fun m i s _=>fG hra s i) (by rw[List.length_map];exact Nat.le_trans I.hz (by decide)) (knG st) ?_ ?_
   ·intro C outer' i u hv
    obtain⟨r,hr,rfl⟩:=inM (List.mem_of_getElem? hv)
    rw[lZ]
    refine bl (by first|assumption|exact aU.handled (by assumption)) rfl rfl ?_;refine am rfl rfl ?_;refine am rfl rfl ?_;refine nM ?_;refine jd rfl ?_;refine aX rfl rfl rfl rfl (by first|assumption|simp[mset_self]) ?_;refine pu rfl ?_;refine nR ?_;refine aj ?_
    refine⟨fun hb2=>?_,fun hb2=>?_⟩
    ·refine jd rfl ?_;refine aX rfl rfl rfl rfl (by first|assumption|simp[mset_self]) ?_;refine pu rfl ?_
     refine in_tupS ?_
     exact⟨by show some (V.bool _)=some (V.bool (knB st r));unfold knB;rw[hb2];rfl,ah _⟩
    ·exact⟨by show some (V.bool _)=some (V.bool (knB st r));unfold knB;rw[hb2];rfl,ah _⟩
   ·intro D hD
    rw[knG_map]
    refine aI ?_
    refine gM cd.handled (.own (mset_self _ _ _)) ?_
    refine Op.memS (aL hD (ah _)) ?_
    refine dL rfl rfl ?_
    exact⟨rfl,rfl,by unfold cA;rw[hb];rfl⟩
  ·refine dL rfl rfl ?_
   exact⟨rfl,rfl,by unfold cA;rw[hb];rfl⟩
 ·rintro f l m' ⟨rfl,rfl,hl⟩
  refine ac ?_
  refine Tr.locs hl ?_
  clear hl
  refine Tr.mono (Q:=fun f l m'=>f = .next/\l=[(("grammar" : Str),V.ref a),("rules",.ref ra),("offers",.ref oa),("known",.bool (cA R st))]/\∃ gm',Dis gm' M/\m'=mun gm' M/\((cA R st=false/\bL ar aq g a gm')\/(cA R st=true/\bL ar aq (dK aq g st) a gm'))) (aC ?_) ?_
  ·intro qq ee
   refine bz ?_;refine df rfl ?_;refine bq hK (fun _=>rfl) (fun _=>rfl) rfl rfl ?_;refine fe rfl ?_;refine aB rfl ?_;refine aX rfl rfl rfl rfl (by first|assumption|simp[mset_self]) ?_;refine aI ?_
   refine fq hK (cd.mono (by decide) (by decide)) hf G d ok2 ok3 ok1 (fun ns e=>Nat.le_trans (v.len.2.2 st ns e) (by have:=I.hz;lia)) (fun e=>?_) (fun e gm' G' d'=>?_)
   ·have hk:cA R st=false:=by rw[<-v.wf.look,e];rfl
    rw[hk]
    refine pu rfl ?_
    refine eq_bb ?_
    refine aj ?_
    refine aT ?_
    refine ak ?_
    exact⟨rfl,by rw[hk],gm,d,rfl,.inl ⟨hk,G⟩⟩
   ·have hk:cA R st=true:=by rw[<-v.wf.look,e]
    rw[hk]
    refine pu rfl ?_
    refine eq_bb ?_
    refine aj ?_
    refine aT ?_
    refine ak ?_
    exact⟨rfl,by rw[hk],gm',d',rfl,.inr ⟨hk,G'⟩⟩
  ·rintro f l m' ⟨rfl,rfl,gm',d',rfl,hcase⟩
   refine ac ?_
   refine Tr.mono (Q:=fun f l m'=>f = .next/\a7 [("grammar",.ref a),("rules",.ref ra),("offers",.ref oa)] l/\∃ st' gm' M',m'=mun gm' M'/\st'∈NM/\cA R st'=true/\bL ar aq (dK aq g st') a gm'/\Dis gm' M'/\St3 L ta ra oa st' R ts off M') ?_ ?_
   ·rcases hcase with⟨hk,G'⟩|⟨hk,G'⟩
    ·refine aC ?_
     intro qq ee
     rw[hk]
     refine bz ?_;refine cO ?_;refine be rfl rfl ?_;refine aj ?_
     refine bk ?_
     refine ac ?_;refine bz ?_;refine df rfl ?_;refine bq hK (fun _=>rfl) (fun _=>rfl) rfl rfl ?_;refine aN rfl ?_
     refine nE (os:=none) hK B (cd.mono (by decide) (by decide)) G' d' S.T v I (fun s hs=>nomatch hs) (fun u M3 hu d3 off3 T3=>?_)
     obtain⟨o,hTb⟩:=S.T.at_
     have S3:St3 L ta ra oa st R ts off M3:=⟨off3 _ _ (nex S.c1 hTb) S.c1,off3 _ _ (nex S.c2 hTb) S.c2,off3 _ _ (nex S.hta hTb) S.hta,off3 _ _ (nex S.hra hTb) S.hra,off3 _ _ (nex S.hoa hTb) S.hoa,T3,S.n1,S.n2,S.n3⟩
     clear off3 T3 hTb
     refine bq hK (fun _=>rfl) (fun _=>rfl) rfl rfl ?_;refine aN rfl ?_
     refine iX (os:=none) hK (cd.mono (by decide) (by decide)) I (fun s hs=>nomatch hs) (cg d3 S3.hra) (fun u' hu'=>?_)
     have e:=hu u' hu'
     have dd:=kH (os:=none) I (fun s hs=>nomatch hs) hu'
     rw[e]
     refine p4 dd dd (by decide) (by decide) (Nat.lt_of_le_of_lt (Nat.add_le_add_right cd.units 64) (by decide)) (fun b hb=>?_)
     rw[hb.mpr rfl]
     clear hb dd e hu hu'
     refine aj ?_
     refine aT ?_
     have hR:R≠[]:=by
      cases F with
      | nil=>exact absurd rfl hne
      | cons _ _ _ q=>exact fun e=>by rw[e]at q;cases q
     obtain⟨r0,R1,rfl⟩:∃ r0 R1,R=r0::R1:=by
      cases R with
      | nil=>exact absurd rfl hR
      | cons r0 R1=>exact⟨r0,R1,rfl⟩
     have hl0:=(I.ok r0 (.head _)).left
     refine ak ?_;refine ac ?_;refine c7 rfl ?_;refine cN (fun _ _=>rfl) ?_;refine cZ (fun _ _=>rfl) rfl rfl ?_
     refine cu (x:=bB r0) (.own (cg d3 S3.hra)) (by decide) (by decide) rfl ?_
     refine bI ?_
     refine cu (x:=.str r0.1) (.tup _) (by decide) (by decide) rfl ?_
     refine eL (hk:=rfl) (hl:=rfl) (hc:=rfl) (cg d3 S3.c2) (fun m4 a4 f4=>?_)
     have gc2:=f9 d3 S3.c2
     obtain⟨M4,rfl,d4,off4⟩:=kE (t:=L+2) d3 (fun b x n e=>(f4 b n).trans e) gc2
     have n12:L+1≠L+2:=Nat.ne_of_lt (by lia)
     have S4:St3 L ta ra oa r0.1 (r0::R1) ts off M4:=⟨off4 _ _ n12 S3.c1,by rwa [bw gc2]at a4,off4 _ _ (nex S3.hta S3.c2) S3.hta,off4 _ _ (nex S3.hra S3.c2) S3.hra,off4 _ _ (nex S3.hoa S3.c2) S3.hoa,S3.T.mono fun b o e=>off4 _ _ (nex e S3.c2) e,S3.n1,S3.n2,S3.n3⟩
     have hk4:cA (r0::R1) r0.1=true:=fF.mpr ⟨hl0,.inl (.head _)⟩
     obtain⟨k1,k2,k3⟩:=jN r0.1 (qt _ hl0)
     clear a4 f4 off4 S3 d3 gc2
     refine ac ?_;refine bP rfl rfl ?_;refine bC rfl rfl ?_
     obtain⟨adr,cc,MM,ok,ea⟩:=id G'
     obtain⟨epd,hdict⟩:=ok.dict
     have hx:=bu (R:=M4) (MM.get ok.self)
     have hd:=bu (R:=M4) (MM.get hdict)
     rw[ea]at hx
     refine gX (.own hx hd) (by rw[hK];first|rfl|kernel_rfl|decide +kernel) (by rw[hK];first|rfl|kernel_rfl|decide +kernel) (by rw[hK];first|rfl|kernel_rfl|decide +kernel) rfl (by rw[hK];first|rfl|kernel_rfl|decide +kernel) ?_
     refine Op.frame (Q:=fun v l m=>l=_/\v = .none/\bL ar aq (dK aq g r0.1) a m) d4 (jr hK (cd.mono (by decide) (by decide)) hf G' (.none (p:=jB 0 r0) (by rw[v.wf.prods];rfl) rfl) k3 k1 (fun e=>?_) (fun ns e=>Nat.le_trans (v.len.2.2 _ ns e) (by have:=I.hz;lia)) (fun _ m G=>⟨rfl,rfl,G⟩)) ?_
     ·have e:g.no.lookup r0.1=none:=e
      have:=v.wf.look r0.1
      rw[e,hk4]at this;cases this
     ·rintro u l m2 d2 ⟨rfl,rfl,G2⟩
      refine ak ?_
      exact⟨rfl,rfl,r0.1,m2,M4,rfl,hl0,hk4,G2,d2,S4⟩
    ·refine aC ?_
     intro qq ee
     rw[hk]
     refine bz ?_;refine cO ?_;refine be rfl rfl ?_;refine aj ?_
     refine aT ?_
     refine ak ?_
     exact⟨rfl,rfl,st,gm',M,rfl,(fF.mp hk).1,hk,G',d',S⟩
   ·rintro f l m' ⟨rfl,hl,st',gm2,M2,rfl,h1,h2,G2,d2,S2⟩
    show TrS W A (lwE L) outer (execs (lLaw.body.drop 9) (lwE L)) l (mun gm2 M2) Q E
    exact Tr.locs hl (h st' gm2 M2 h1 h2 G2 d2 S2)
end
theorem z_ok:0<("Z" : Str).cps.size/\("Z" : Str).cps.size≤100/\PyData.strOk "Z" = true/\("Z" : Str)∉NM:=by decide +kernel
theorem St3.tab{L ta ra oa:Addr}{st:Str}{R:List aD}{ts:List Int}{off:List dC}{M M':Mem}(S:St3 L ta ra oa st R ts off M)(h:Off cL M M')(T:bR cL dB bZ M'):St3 L ta ra oa st R ts off M':=by
 obtain⟨o,ht⟩:=S.T.at_
 exact⟨h _ _ (nex S.c1 ht) S.c1,h _ _ (nex S.c2 ht) S.c2,h _ _ (nex S.hta ht) S.hta,h _ _ (nex S.hra ht) S.hra,h _ _ (nex S.hoa ht) S.hoa,T,S.n1,S.n2,S.n3⟩
section
variable {W:Wd}{A:Around}{env:Env}{outer:ay}{loc:Loc}{mem:Mem}{E:Ex W}
theorem law_d{L ta ra oa a:Addr}{st:Str}{ts:List Int}{off:List dC}{R:List aD}{g:GR}{gm M:Mem}{Q:Fl->Loc->Mem->Prop}(hK:W.K=hdK W.w.params)(B:jC W)(cd:aU A 310 2000)(hf:c8 A (lwE L) outer)
  (hst:st∈NM) (hk:cA R st=true) (hne:off≠[]) (I:LR3 R) (v:de R g) (G:bL ar aq (dK aq g st) a gm) (d:Dis gm M) (S:St3 L ta ra oa st R ts off M) (F:du off R)
  (h:∀ l gm' M',bL ar aq (dK aq g st) a gm'->bR cL dB bZ M'->Dis gm' M'->Q (.ret (.bool true)) l (mun gm' M')) :
  TrS W A (lwE L) outer (execs (lLaw.body.drop 9) (lwE L)) [("grammar",.ref a),("rules",.ref ra),("offers",.ref oa)] (mun gm M) Q E:=by
 have hu2:A.units+64<cLine:=Nat.lt_of_le_of_lt (Nat.add_le_add_right cd.units 64) (by decide)
 have so:im R (some st):=fun s hs=>by
  rcases List.mem_singleton.mp hs with rfl
  exact fF.mp hk
 have ho:∀ s∈osL (some st),s∈SY3:=so.sy
 have hT:=cg d S.c2
 refine ac ?_;refine aw rfl rfl rfl ?_;refine bq hK (fun _=>rfl) (fun _=>rfl) rfl rfl ?_;refine fe rfl ?_;refine aB rfl ?_;refine aX rfl rfl rfl rfl (by first|assumption|simp[mset_self]) ?_;refine aI ?_
 refine iX (os:=some st) hK (cd.mono (by decide) (by decide)) I ho (cg d S.hra) (fun u hu=>?_)
 have dd:=kH I ho hu
 refine ac ?_
 refine Tr.locs (loc':=[("grammar",.ref a),("rules",.ref ra),("offers",.ref oa),("due",u)]) rfl ?_
 refine bz ?_;refine df rfl ?_;refine bq hK (fun _=>rfl) (fun _=>rfl) rfl rfl ?_;refine fe rfl ?_;refine aB rfl ?_;refine aX rfl rfl rfl rfl (by first|assumption|simp[mset_self]) ?_;refine aI ?_
 refine nE (os:=some st) hK B (cd.mono (by decide) (by decide)) G d S.T v I so (fun u1 M1 hu1 d1 off1 T1=>?_)
 have S1:=S.tab off1 T1
 rw[hu1 u hu]
 clear hT hu1 off1 S
 have hT:=cg d1 S1.c2
 refine pu rfl ?_
 refine p4 dd dd (by decide) (by decide) hu2 (fun b hb=>?_)
 rw[hb.mpr rfl]
 clear hb
 refine aj ?_
 refine aT ?_
 refine ak ?_;refine ac ?_;refine bz ?_;refine c9 ?_;refine b0 ?_;refine cO ?_;refine cI rfl ?_;refine bq hK (fun _=>rfl) (fun _=>rfl) rfl rfl ?_;refine aN rfl ?_
 obtain⟨z1,z2,z3,z4⟩:=z_ok
 have wS:=v.wfS (some st)
 have hkz:cA R "Z" = false:=by
  unfold cA
  rw[decide_eq_false z4];rfl
 refine fq hK (cd.mono (by decide) (by decide)) hf G d1 z1 z2 z3 (fun ns e=>Nat.le_trans (wS.len.2.2 _ ns e) (by have:=I.hz;lia)) (fun _=>?_) (fun e=>?_)
 rotate_left
 ·have e:((gS g (some st)).no.lookup ("Z" : Str)).isSome=true:=e
  rw[wS.look,hkz]at e;cases e
 refine aj ?_
 refine gh ?_
 refine b0 ?_;refine cO ?_;refine cI rfl ?_;refine bq hK (fun _=>rfl) (fun _=>rfl) rfl rfl ?_;refine fe rfl ?_;refine aB rfl ?_;refine cN (fun _ _=>rfl) ?_;refine cZ (fun _ _=>rfl) rfl rfl ?_
 cases F with
 | nil=>exact absurd rfl hne
 | @cons x ss rest _ q1 q2 q3 q4=>
  have hoa:=cg d1 S1.hoa
  refine cu (x:=jy (x,ss)) (.own hoa) (by decide) (by decide) rfl ?_
  refine bI ?_
  refine cu (x:=.str x) (.tup _) (by decide) (by decide) rfl ?_
  refine aB rfl ?_;refine cN (fun _ _=>rfl) ?_;refine cZ (fun _ _=>rfl) rfl rfl ?_
  refine cu (x:=jy (x,ss)) (.own hoa) (by decide) (by decide) rfl ?_
  refine bI ?_
  refine cu (x:=.lst (ae ss)) (.tup _) (by decide) (by decide) rfl ?_
  refine aI ?_
  refine kT (g:=dK aq g st) hK (cd.mono (by decide) (by decide)) hf G d1 wS I (.good q1 q2 q3) (fun _ gm2 G2 d2=>?_) (fun r e hr=>by cases e;exact absurd q4 hr)
  have hT2:=cg d2 S1.c2
  refine aj ?_
  refine gh ?_
  refine fn ?_
  refine aT ?_
  refine ak ?_;refine ac ?_;refine c6 ?_;refine jd rfl ?_;refine bq hK (fun _=>rfl) (fun _=>rfl) rfl rfl ?_;refine fe rfl ?_;refine aB rfl ?_;refine aX rfl rfl rfl rfl (by first|assumption|simp[mset_self]) ?_;refine aI ?_
  refine nE (os:=some st) hK B (cd.mono (by decide) (by decide)) G2 d2 S1.T v I so (fun u3 M3 hu3 d3 off3 T3=>?_)
  rw[hu3 u hu]
  refine pu rfl ?_
  refine eq_dd dd dd (by decide) (by decide) hu2 (fun b hb=>?_)
  rw[hb.mpr rfl]
  skip
  exact h _ gm2 M3 G2 T3 d3
theorem qm{L:Addr}{ns:List Int}{M0:Mem}(hK:W.K=hdK W.w.params)(B:jC W)(cd:aU A 310 2000)(hf:c8 A (lwE L) outer)(hns:ns.length≤63)
  (c1:M0 (L+1)=some (.cell none)) (c2:M0 (L+2)=some (.cell none)) (c4:M0 cL=some (.raw (tabObj #[]))) :
  TrS W A (lwE L) outer (execs lLaw.body (lwE L)) [("script",.lst (a9 ns))] M0 (fun f _ m=>f = .ret (.bool true)/\∃ ps,m cL=some (.raw (tabObj ps))) E:=by
 have tab:∀ {m:Mem},bR cL dB bZ m->∃ ps,m cL=some (.raw (tabObj ps)):=fun T=>by
  cases T with
  | fresh a=>exact⟨_,a⟩
  | made c' oc a b d=>exact⟨_,a⟩
 refine law_a hK cd hns c1 c2 (.fresh c4) (fun M ta ra oa a gm st ts up hst ht S G d=>?_)
 refine law_b hK B cd hf G d S ht (fun R g gm M ts off hne hz I v G d S F=>?_)
 refine law_c hK B cd hf hst hne I v G d S F (fun st' gm' M' h1 h2 G' d' S'=>?_)
 exact law_d hK B cd hf h1 h2 hne I v G' d' S' F (fun l gm2 M2 G2 T2 d2=>⟨rfl,tab (T2.inn d2)⟩)
end
theorem qB{W:Wd}{F:Frz}{ns:List Int}{vs:List Value}(h:IntsAre vs ns):VRs W F (a9 ns) vs:=by
 induction h with
 | nil=>exact .nil
 | cons _ _ _ ih=>exact .cons (.int _ _) ih
theorem enterB{prog:Program}{w:World}{K:Frag}{p:Program}{loose:List Str}{mean mean2:ExcName->Option Value}{mg mb:Str->Option Value}{s₁:Shared}{h₁:Heap}{t:Nat}{a cc P L:Addr}{ns:List Int}{vs:List Value}{env:Env}{A:Around}{sts:List Stmt}{o1 o2:Obj}
  {m:Str->Option Value} {c:ClaimW} {cl:Str->Option Addr} {args:List WData} {E:Value->Shared->Prop}
  (hT:TabsAt [(cc,P)] s₁.heap) (hPm:P≠sysModules) (KX:K.In s₁.heap) (hK:noTabs K=true) (T:Top p loose mean mg mb s₁.heap) (hg:s₁.gens = #[]) (hLs:s₁.heap.IsList a vs.toArray) (hI:IntsAre vs ns) (wl:Well w.params s₁.heap (.ref a) (ofPy (.list (ns.map .int)))) (FF:Fr s₁.heap L h₁ m) (hm:m "script" = some (.ref a)) (hL:L=s₁.heap.objs.size) (hL2:env.locals=L)
  (N:News s₁.heap L h₁ [(L+1+1,o2),(L+1,o1)]) (d1:o1.data = .cell none) (d2:o2.data = .cell none)
  (hr:∀ cls,c.raises args cls=false) (hp:c.post args (.bool true) args=true)
  (h:∀ W:Wd,W.prog=prog->W.w=w->W.K=K->jC W->∀ M0:Mem,M0 (L+1)=some (.cell none)->M0 (L+2)=some (.cell none)->M0 P=some (.raw (tabObj #[]))->
   TrS W A env [] (execs sts env) [("script",.lst (a9 ns))] M0 (fun f _ m=>f = .ret (.bool true)/\∃ ps,m P=some (.raw (tabObj ps))) Ex.no) :
  wpAny (model prog w) A (execs sts env) (fun f s'=>GoodW c cl mean2 args { s₁ with heap:=ghostOf s₁.heap [(cc,P)] } (.ok (.ret (match f with|.ret v=>v|_=>.none))) s'/\GrownAll [(cc,P)] s'.heap) E { heap:=h₁,gens:=s₁.gens,drawn:=s₁.drawn,toks:=t,os:=s₁.os }:=by
 have TG:=ghost_top hT T
 let W:Wd:={ prog:=prog,w:=w,K:=K,hb:=ghostOf s₁.heap [(cc,P)],mg:=mg,mb:=mb,os:=s₁.os,p:=topProg,loose:=_,KIn:=ghost_K hT KX hK,top:=topRead_of TG,nolim:=TG.nolimit }
 have hP:=(hT _ (.head _)).2
 have hPL:P<L:=by rw[hL];exact Heap.lt_size hP
 have gsz:(ghostOf s₁.heap [(cc,P)]).objs.size=L:=(hideAll_size _ _).trans hL.symm
 have hPg:(ghostOf s₁.heap [(cc,P)]).get? P=none:=hideAll_none _ (.head _)
 have n1:=N _ (.tail _ (.head _))
 have n2:=N _ (.head _)
 obtain⟨M0,hM0⟩:∃ M0:Mem,M0=ap (ap (ap (fun _=>none) (L+1) (.cell none)) (L+2) (.cell none)) P (.raw (tabObj #[])):=⟨_,rfl⟩
 have a12:L+1≠L+2:=by intro e;exact absurd e (Nat.ne_of_lt (by lia))
 have p1:L+1≠P:=Nat.ne_of_gt (Nat.lt_of_lt_of_le hPL (Nat.le_add_right _ _))
 have p2:L+2≠P:=Nat.ne_of_gt (Nat.lt_of_lt_of_le hPL (Nat.le_add_right _ _))
 have m1:M0 (L+1)=some (.cell none):=by rw[hM0,af p1,af a12,mset_self]
 have m2:M0 (L+2)=some (.cell none):=by rw[hM0,af p2,mset_self]
 have m4:M0 P=some (.raw (tabObj #[])):=by rw[hM0,mset_self]
 have inv:∀ b x,M0 b=some x->(b=P/\x = .raw (tabObj #[]))\/(b=L+1/\x = .cell none)\/(b=L+2/\x = .cell none):=fun b x e=>by
  by_cases q:b=P
  ·rw[q,m4]at e;cases e;exact .inl ⟨q,rfl⟩
  ·by_cases q2:b=L+2
   ·rw[q2,m2]at e;cases e;exact .inr (.inr ⟨q2,rfl⟩)
   ·by_cases q1:b=L+1
    ·rw[q1,m1]at e;cases e;exact .inr (.inl ⟨q1,rfl⟩)
    ·rw[hM0,af q,af q2,af q1]at e;cases e
 clear hM0
 have gnone:∀ b x,M0 b=some x->(ghostOf s₁.heap [(cc,P)]).get? b=none:=fun b x e=>by
  rcases inv b x e with⟨rfl,_⟩|⟨rfl,_⟩|⟨rfl,_⟩
  ·exact hPg
  ·exact ghost_fresh n1.2.2
  ·exact ghost_fresh n2.2.2
 have Lnone:(ghostOf s₁.heap [(cc,P)]).get? L=none:=by rw[<-gsz];exact aH _
 have ML:M0 L=none:=by
  cases q:M0 L with
  | none=>rfl
  | some x=>
   rcases inv L x q with⟨e,_⟩|⟨e,_⟩|⟨e,_⟩
   ·exact absurd e (Nat.ne_of_gt hPL)
   ·exact absurd e (Nat.ne_of_lt (by lia))
   ·exact absurd e (Nat.ne_of_lt (by lia))
 have cellO:∀ {F:Frz} {o:Obj},o.data = .cell none->OR W F (.cell none) o:=fun {F o} d=>.cell d (fun x e=>nomatch e) fun _=>rfl
 have lsV:VR W (fun b o=>(ghostOf s₁.heap [(cc,P)]).get? b=some o) (.lst (a9 ns)) (.ref a):=by
  cases wl with
  | list e r=>
   obtain⟨o,ho,hc,n,hd⟩:=hLs
   rw[e]at ho
   obtain rfl:=Option.some.inj ho
   injection hd with hd _
   exact .lst (ghost_get hT e (fun q=>by cases q)) (by rw[hd];exact qB hI)
 have S:Sim W env [] [("script",.lst (a9 ns))] M0 (fun _=>none) (fun b o=>(ghostOf s₁.heap [(cc,P)]).get? b=some o) { heap:=h₁,gens:=s₁.gens,drawn:=s₁.drawn,toks:=t,os:=s₁.os }:={
  dis:=fun a x e=>rfl
  z:={
   frz:=fun b o e=>FF.keep b o (of_hideAll _ e)
   base:=fun b o e=>e
   memF:=fun b o e=>by
    show mun M0 _ b=none
    unfold mun
    cases q:M0 b with
    | none=>rfl
    | some x=>rw[gnone b x q]at e;cases e
   memOk:=fun b x e=>by
    have e:M0 b=some x:=by unfold mun at e;cases q:M0 b with|none=>rw[q]at e;cases e|some y=>rw[q]at e;exact e
    rcases inv b x e with⟨rfl,rfl⟩|⟨rfl,rfl⟩|⟨rfl,rfl⟩
    ·exact⟨_,FF.keep _ _ hP,.raw⟩
    ·exact⟨_,n1.1,cellO d1⟩
    ·exact⟨_,n2.1,cellO d2⟩
   ns:=⟨m,by rw[hL2];exact FF.ns,fun x v e=>by
    rw[List.lookup_cons]at e
    split at e
    ·rename_i q
     cases e
     rw[show x = "script" from by simpa using q]
     exact⟨_,hm,lsV⟩
    ·cases e⟩
   nsF:=⟨fun o e=>(by rw[hL2,Lnone]at e;cases e),by show mun M0 _ _=none;unfold mun;rw[hL2,ML]⟩
   outs:=fun q hq=>nomatch hq
   low:=by rw[hL2];exact Nat.le_of_eq gsz
   memLow:=fun b x e=>by
    have e:M0 b=some x:=by unfold mun at e;cases q:M0 b with|none=>rw[q]at e;cases e|some y=>rw[q]at e;exact e
    rcases inv b x e with⟨rfl,_⟩|⟨rfl,_⟩|⟨rfl,_⟩
    ·exact hPm
    ·exact ey (W:=W) (Nat.le_trans (Nat.le_of_eq gsz) (Nat.le_add_right _ _))
    ·exact ey (W:=W) (Nat.le_trans (Nat.le_of_eq gsz) (Nat.le_add_right _ _))
   gens:=hg
   os:=rfl } }
 refine wpAny_mono (h W rfl rfl rfl TG.bmain M0 m1 m2 m4 (fun _=>none) _ _ S) (fun f s' q=>?_) fun _ _ e=>e.elim
 obtain⟨F',v,l',m',i,r,S',rfl,ps,hps⟩:=q
 obtain⟨op,hop,qp⟩:=S'.memOk _ _ hps
 cases qp.view
 cases r with
 | ret r=>
  obtain rfl:=r.isBool
  exact⟨⟨.inl ⟨_,.bool true,[],rfl,hr,ReadsW.bool true,hp,fun _=>⟨List.nodup_nil,fun _ hm=>(nomatch hm)⟩⟩,fun b o e=>S'.frz b o (i b o e),S'.os,S'.gens⟩,⟨ps,hop⟩,trivial⟩
noncomputable def codeOf:Data->Value
 | .func f=>f.code
 | _=>.none
theorem qE:∀ P:Params,(aS P).lookup 176=none:=fun _=>by kernel_rfl
theorem mH{P:Params}{h:Heap}(X:(gt P).In h):(aS P).In h/\h.get? 176=some { cls:=.none,data:=.fields #[] }:=by
 refine⟨fun a o e=>?_,X _ _ (by rfl)⟩
 refine X a o ?_
 show List.lookup a ((176,_)::aS P)=_
 rw[List.lookup_cons]
 by_cases q:a=176
 ·rw[q,qE]at e;cases e
 ·have:(a==176)=false:=by simpa using q
  rw[this];exact e
theorem mS:∀ P:Params,noTabs (aS P)=true:=fun _=>by kernel_rfl
theorem fin:PySem.Challenge.rw_te0001_03.Holds:=head (by
 k_fill
 intro w s₀ s₁ mg mb G Y fa o pm cd doc dV kV ho hd hcd hD hmg hg args vals as hpre hlay hrd hwl hlo
 have KT:(gt w.params).In s₁.heap:=kIn_of Y
 obtain⟨KX,hTab⟩:=mH KT
 have hmg2:=hmg
 have ho2:=ho
 have hd2:=congrArg codeOf hd
 refine Ground.open G ?_
 intro T B D TE TW
 obtain⟨_,_,M⟩:=bmod_of_top T
 have TA:=at_of_top T
 clear hmg
 wrow_args hpre hlay hrd hwl hlo
 all_goals (
  refine enter_call ?_
  w_top on
  have hT9:TabsAt ([(178,176)]:List (Addr×Addr)) s₁.heap:=List.forall_mem_cons.mpr ⟨⟨p5 _ _ rfl _ KX,hTab⟩,fun _ h=>nomatch h⟩
  refine kn_post hT9 (fun _ _=>rfl) ?_
  have K0:=below_caller (Top.heap T)
  w_call any ho hd hcd hD T F
  clear hd TA
  k_drop)
 have T:Top kg (looseW kg ["Production","Grammar","_law_SYMBOLS"]) (ExcName.means s₀.heap) mg mb s₁.heap:=by assumption
 have efa:fa=320:=by
  have e:=(mg_of (n:="law") KX T.g (by rfl)).symm.trans hmg2
  cases e;rfl
 subst efa
 have eo:=(KX _ _ (lLaw.at w.params)).symm.trans ho2
 obtain rfl:=Option.some.inj eo
 have ecd:lLaw.code=cd:=hd2
 rw[<-ecd]
 clear hd2 ho2 eo hmg2
 refine enterB (env:=lwE s₁.heap.objs.size) (L:=s₁.heap.objs.size) hT9 (by decide) KX (mS _) T hg (by assumption) (by assumption) (by assumption) (by assumption) rfl rfl rfl (by assumption) (by assumption) (by assumption) (fun _=>rfl) (by kernel_rfl) fun W e1 e2 e3 eB M0 c1 c2 c4=>?_
 exact qm (e3.trans (by rw[e2])) eB ⟨rfl,rfl,Nat.le_of_ble_eq_true rfl,Nat.le_of_ble_eq_true rfl⟩ ⟨[],rfl,rfl,rfl,fun e he=>nomatch he⟩ (by lia) c1 c2 c4)
end Mine
theorem PySem.Challenge.cw_te0001_03_holds : PySem.Challenge.rw_te0001_03.Holds :=
  Mine.fin
