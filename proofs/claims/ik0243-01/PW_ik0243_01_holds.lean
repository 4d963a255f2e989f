import PyProof.Rows.All
import Wide.All
import OpenK.AllK
import Wide.FinOn
import PySem.Challenge.RW_ik0243_01
open PySem PySem.W PyProof.Rows
open PySem.Challenge renaming pw_ik0243_01 → pW, rw_ik0243_01 → rW
set_option Elab.async false
set_option maxRecDepth 100000
set_option maxHeartbeats 0
set_option linter.all false
set_option genInjectivity false
set_option genSizeOf false
set_option compiler.extract_closed false
set_option genCtorIdx false
namespace Mine
noncomputable section
set_option backward.match.sparseCases false
noncomputable def FH (l:List Stmt) (i:Nat):Stmt:=(l.drop i).headD (.Pass ⟨0,0,0,0⟩)
noncomputable def eQ:Stmt → List Stmt
 | .ClassDef _ _ _ b _ _ _ _ _ _ _=>b
 | _=>[]
noncomputable def bE (q:Program) (i:Nat):Stmt:=FH q.main.body i
noncomputable def iq (q:Program) (i j:Nat):Stmt:=FH (eQ (bE q i)) j
noncomputable def qD:Stmt → Arguments
 | .FunctionDef _ a _ _ _ _ _ _ _ _=>a
 | _=>{ posonlyargs:=[],args:=[],vararg:=none,kwonlyargs:=[],kw_defaults:=[],kwarg:=none,defaults:=[] }
noncomputable def bF:Stmt → List Stmt
 | .FunctionDef _ _ b _ _ _ _ _ _ _=>b
 | _=>[]
noncomputable def aY:Stmt → Scope
 | .FunctionDef _ _ _ _ _ _ sc _ _ _=>sc
 | _=>{ kind:=.module,names:=[],isGenerator:=false,isCoroutine:=false,more:=[] }
noncomputable def gx:List Stmt → PySem.Str
 | .Expr (.Constant (.str s) _ _) _ :: _=>s
 | _=>⟨Array.mk []⟩
noncomputable abbrev ak:=Program → Params → Obj
noncomputable def cW (i:Nat) (q:Program):Stmt:=bE q i
noncomputable def bR (i j:Nat) (q:Program):Stmt:=iq q i j
noncomputable def gS (l:List Value):ak:=fun _ _=>⟨.type "tuple",none,.seq (Array.mk l) 0,Array.mk []⟩
noncomputable def AE:List String → Nat → List Value
 | [],_=>[]
 | x :: l,n=>.str (Str.ofString x) n :: AE l (n + 1)
noncomputable def ce (l:List String) (n:Nat):ak:=gS (AE l n)
noncomputable def gU (i t:Nat) (s:String) (u:Nat):ak:=gS [.int i t,.str (Str.ofString s) u]
noncomputable def Ad (l:List Value):ak:=fun _ _=>⟨.none,none,.fields (Array.mk l),Array.mk []⟩
noncomputable def CJ (s:String) (v:Value):ak:=fun _ _=>⟨.type "builtin_function_or_method",none,.fields (Array.mk [.builtin s,v]),Array.mk []⟩
noncomputable def C9 (v:Value):ak:=fun _ _=>⟨.type "super",none,.fields (Array.mk [v,v,v]),Array.mk []⟩
noncomputable def uH (n m:String) (t l i1 i2 i3 i4 r:Nat) (b:Bool) (v1 v2 v3:Value) (u:Nat):ak:=fun _ _=>⟨.type "code",none,.fields (Array.mk [.str (Str.ofString n) t,.str (Str.ofString m) (t + 1),.str "/claim/cut.py" (t + 2),.int l 0,.int i1 0,.int i2 0,.int i3 0,.int i4 0,.ref r,.bool b,.int 181 0,.ref (r + 1),.none,v1,v2,v3,.int u 0,.int l 0,.str "/claim/cut.py" (u + 1)]),Array.mk []⟩
noncomputable def fO (n m:String) (t l i r:Nat) (v1 v2 v3:Value) (u:Nat):ak:=uH n m t l i 0 0 3 r true v1 v2 v3 u
noncomputable def lz (n:String) (t l i r:Nat) (v1 v2 v3:Value) (u:Nat):ak:=uH n n t l i 0 0 3 r true v1 v2 v3 u
noncomputable def cq (n m:String) (p:Program → Stmt):ak:=fun q _=>⟨.none,none,.func { name:=Str.ofString n,qualname:=Str.ofString m,params:=qD (p q),body:=.stmts (bF (p q)),scope:=aY (p q),globals:=0,closure:=[],defaults:=.none,kwdefaults:=.none,doc:=.none,pyModule:=.none,annotations:=none,code:=.none,closureTuple:=.none,builtins:=0 },Array.mk []⟩
noncomputable def ER (n m:String) (p:Program → Stmt) (clo:List (PySem.Str × Nat)) (de:Value) (doc:Program → Value) (mo:String) (mt:Nat) (an:Option Nat) (co:Nat) (ct:Value):ak:=fun q _=>⟨.type "function",none,.func { name:=Str.ofString n,qualname:=Str.ofString m,params:=qD (p q),body:=.stmts (bF (p q)),scope:=aY (p q),globals:=3,closure:=clo,defaults:=de,kwdefaults:=.none,doc:=doc q,pyModule:=.str (Str.ofString mo) mt,annotations:=an,code:=.ref co,closureTuple:=ct,builtins:=0 },Array.mk []⟩
noncomputable def Gs (n m:String) (p:Program → Stmt) (clo:List (PySem.Str × Nat)) (de doc:Value) (mo:String) (mt:Nat) (an:Option Nat) (co:Nat) (ct:Value):ak:=ER n m p clo de (fun _=>doc) mo mt an co ct
noncomputable def ku (n m:String) (p:Program → Stmt) (clo:List (PySem.Str × Nat)) (de:Value) (dt:Nat) (mo:String) (mt co:Nat) (ct:Value):ak:=ER n m p clo de (fun q=>.str (gx (bF (p q))) dt) mo mt none co ct
noncomputable def e5 (n m:String) (p:Program → Stmt) (de:Value) (mo:String) (mt co:Nat):ak:=ER n m p [] de (fun _=>.none) mo mt none co .none
noncomputable def sR (l:List (String × Nat × Value)) (n:Nat):ak:=fun _ P=>⟨.type "dict",none,.dict (Array.mk (l.map fun x=>⟨PyData.keyHash P (Str.ofString x.1),.str (Str.ofString x.1) x.2.1,x.2.2⟩)) n,Array.mk []⟩
noncomputable def b0:ak:=fun _=>boot_o_0
noncomputable def b1:ak:=fun _=>boot_o_1
noncomputable def b2:ak:=fun _=>boot_o_2
noncomputable def b3:ak:=fun _=>boot_o_3
noncomputable def b4:ak:=fun _=>boot_o_4
noncomputable def b5:ak:=fun _=>boot_o_5
noncomputable def b6:ak:=fun _=>boot_o_6
noncomputable def b7:ak:=fun _=>boot_o_7
noncomputable def b8:ak:=fun _=>boot_o_8
noncomputable def b9:ak:=fun _=>boot_o_9
noncomputable def C8:ak:=fun _=>boot_o_10
noncomputable def FB (l:List ak) (q:Program) (P:Params):Heap:=⟨Array.mk (l.map fun o=>o q P),{}⟩
noncomputable def ad (o:ak) (l r:Program → Params → BT) (q:Program) (P:Params):BT:=.node (o q P) (l q P) (r q P)
noncomputable def bx (_:Program) (_:Params):BT:=.nil
noncomputable def ah (o:ak):Program → Params → BT:=ad o bx bx
set_option linter.unusedVariables false
noncomputable def aa:ak:=gS []
noncomputable def ab:ak:=Ad []
noncomputable def iE:ak:=uH "<module>" "<module>" 182 1 0 0 0 0 11 false .none .none .none 185
noncomputable def iL (q:Program) (P:Params):Obj:=⟨(.type "frame"),none,.plain,Array.mk [(some (.ref 13)),(some (.ref 3)),(some (.ref 3)),none,(some (.str "__main__" 164)),none,(some (.ref 0))]⟩
noncomputable def Fb:ak:=sR [("__name__",165,(.str "cpy313.difflib" 194)),("__doc__",166,.none),("__package__",167,.none),("__loader__",168,(.builtin "__main__.__loader__#opaque")),("__spec__",169,.none),("__annotations__",170,(.ref 6)),("__builtins__",171,(.ref 4)),("__file__",173,(.str "/claim/cut.py" 172)),("__cached__",174,.none),("_wall",193,(.ref 21)),("_tuplegetter",252,(.ref 60)),("Match",380,(.ref 135)),("_calculate_ratio",388,(.ref 145)),("SequenceMatcher",582,(.ref 242))] 14
noncomputable def Dp:ak:=Ad [(.int 1 0),(.int 0 0),(.ref 20),(.int 5 0),(.int 0 0),(.ref 27),(.int 23 0),(.int 0 0),(.ref 71),(.int 66 0),(.int 0 0),(.ref 144),(.int 70 0),(.int 0 0),(.ref 151)]
noncomputable def tr:ak:=ce ["k"] 190
noncomputable def sp:ak:=cq "_wall" "_wall" (cW 0)
noncomputable def sw:ak:=lz "_wall" 187 1 1 15 (.ref 17) (.ref 18) (.ref 19) 191
noncomputable def sz:ak:=e5 "_wall" "_wall" (cW 0) .none "__main__" 164 20
noncomputable def c0:ak:=CJ "type.__prepare__" (.type "type")
noncomputable def vt:ak:=sR [("__module__",203,(.str "cpy313.difflib" 194)),("__qualname__",205,(.str "_tuplegetter" 204)),("__firstlineno__",207,(.int 5 206)),("__init__",216,(.ref 35)),("__get__",225,(.ref 43)),("__set__",234,(.ref 50)),("__delete__",242,(.ref 57)),("__static_attributes__",245,(.ref 58))] 8
noncomputable def u5:ak:=Ad [(.int 7 0),(.int 4 0),(.ref 34),(.int 11 0),(.int 4 0),(.ref 42),(.int 18 0),(.int 4 0),(.ref 49),(.int 21 0),(.int 4 0),(.ref 56)]
noncomputable def vf:ak:=uH "_tuplegetter" "_tuplegetter" 198 5 0 0 0 0 25 false .none .none .none 201
noncomputable def uV (q:Program) (P:Params):Obj:=⟨(.type "frame"),none,.plain,Array.mk [(some (.ref 27)),(some (.ref 3)),(some (.ref 24)),none,(some (.str "cpy313.difflib" 194)),none,(some (.ref 0))]⟩
noncomputable def tn:ak:=ce ["self", "index", "doc"] 211
noncomputable def tt:ak:=cq "__init__" "_tuplegetter.__init__" (bR 2 0)
noncomputable def sn:ak:=fO "__init__" "_tuplegetter.__init__" 208 7 3 29 (.ref 31) (.ref 32) (.ref 33) 214
noncomputable def sd:ak:=e5 "__init__" "_tuplegetter.__init__" (bR 2 0) .none "cpy313.difflib" 194 34
noncomputable def sU:ak:=gS [.none]
noncomputable def sq:ak:=ce ["self", "obj", "objtype"] 220
noncomputable def rU:ak:=cq "__get__" "_tuplegetter.__get__" (bR 2 1)
noncomputable def rD:ak:=fO "__get__" "_tuplegetter.__get__" 217 11 3 37 (.ref 39) (.ref 40) (.ref 41) 223
noncomputable def rG:ak:=e5 "__get__" "_tuplegetter.__get__" (bR 2 1) (.ref 36) "cpy313.difflib" 194 42
noncomputable def tw:ak:=ce ["self", "obj", "value"] 229
noncomputable def si:ak:=cq "__set__" "_tuplegetter.__set__" (bR 2 2)
noncomputable def s7:ak:=fO "__set__" "_tuplegetter.__set__" 226 18 3 44 (.ref 46) (.ref 47) (.ref 48) 232
noncomputable def rz:ak:=e5 "__set__" "_tuplegetter.__set__" (bR 2 2) .none "cpy313.difflib" 194 49
noncomputable def sT:ak:=ce ["self", "obj"] 238
noncomputable def rV:ak:=cq "__delete__" "_tuplegetter.__delete__" (bR 2 3)
noncomputable def td:ak:=fO "__delete__" "_tuplegetter.__delete__" 235 21 2 51 (.ref 53) (.ref 54) (.ref 55) 240
noncomputable def sN:ak:=e5 "__delete__" "_tuplegetter.__delete__" (bR 2 3) .none "cpy313.difflib" 194 56
noncomputable def rR:ak:=ce ["__doc__", "index"] 243
noncomputable def sB:ak:=sR [("__module__",203,(.str "cpy313.difflib" 194)),("__firstlineno__",207,(.int 5 206)),("__init__",216,(.ref 35)),("__get__",225,(.ref 43)),("__set__",234,(.ref 50)),("__delete__",242,(.ref 57)),("__static_attributes__",245,(.ref 58)),("__dict__",247,(.ref 61)),("__weakref__",249,(.ref 62)),("__doc__",250,.none)] 4
noncomputable def sI (q:Program) (P:Params):Obj:=⟨(.type "type"),none,(.cls { name := "_tuplegetter",bases:=[(.type "object")],mro:=[(.ref 60),(.type "object")],ns:=59,qualname := "_tuplegetter",hasDict:=true,slotNames:=[],subclasses:=[],abstract:=false,collection:=none,hasDel:=false }),Array.mk [none,none,(some (.str "_tuplegetter" 196)),(some (.str "_tuplegetter" 204)),(some (.builtin "object.__new__")),(some (.bool true))]⟩
noncomputable def rE (q:Program) (P:Params):Obj:=⟨(.type "getset_descriptor"),none,(.fields (Array.mk [(.str "__dict__" 246),(.ref 60),(.builtin "function.__dict__"),(.builtin "function.__dict__#set")])),Array.mk []⟩
noncomputable def rK (q:Program) (P:Params):Obj:=⟨(.type "getset_descriptor"),none,(.fields (Array.mk [(.str "__weakref__" 248),(.ref 60),(.builtin "ExceptionGroup.__weakref__"),.none])),Array.mk []⟩
noncomputable def wA:ak:=C9 (.ref 60)
noncomputable def wQ:ak:=CJ "object.__init_subclass__" (.ref 60)
noncomputable def rP:ak:=gS [(.type "tuple")]
noncomputable def w3:ak:=sR [("__module__",260,(.str "cpy313.difflib" 194)),("__qualname__",262,(.str "Match" 261)),("__firstlineno__",264,(.int 23 263)),("__doc__",266,(.str "Match(a, b, size)" 265)),("__slots__",268,(.ref 73)),("_fields",272,(.ref 74)),("_field_defaults",273,(.ref 75)),("__new__",284,(.ref 82)),("_make",306,(.ref 91)),("_replace",317,(.ref 100)),("__replace__",318,(.ref 100)),("__repr__",326,(.ref 107)),("_asdict",333,(.ref 114)),("__getnewargs__",341,(.ref 121)),("__match_args__",345,(.ref 122)),("a",355,(.ref 124)),("b",365,(.ref 127)),("size",375,(.ref 130)),("__static_attributes__",376,(.ref 132)),("__classcell__",377,(.ref 68))] 20
noncomputable def r9 (q:Program) (P:Params):Obj:=⟨(.type "cell"),none,(.cell (some (.ref 135))),Array.mk []⟩
noncomputable def we:ak:=Ad [(.int 29 0),(.int 4 0),(.ref 81),(.int 34 0),(.int 4 0),(.ref 88),(.int 41 0),(.int 4 0),(.ref 99),(.int 52 0),(.int 4 0),(.ref 106),(.int 56 0),(.int 4 0),(.ref 113),(.int 59 0),(.int 4 0),(.ref 120)]
noncomputable def wg:ak:=uH "Match" "Match" 255 23 0 0 0 0 69 false .none .none .none 258
noncomputable def vz (q:Program) (P:Params):Obj:=⟨(.type "frame"),none,.plain,Array.mk [(some (.ref 71)),(some (.ref 3)),(some (.ref 67)),none,(some (.str "cpy313.difflib" 194)),none,(some (.ref 0))]⟩
noncomputable def sX:ak:=ce ["a", "b", "size"] 269
noncomputable def fH:ak:=sR [] 0
noncomputable def s5:ak:=ce ["_cls", "a", "b", "size"] 277
noncomputable def sY:ak:=cq "__new__" "Match.__new__" (bR 3 4)
noncomputable def sQ:ak:=fO "__new__" "Match.__new__" 274 29 4 76 (.ref 78) (.ref 79) (.ref 80) 281
noncomputable def sH:ak:=ku "__new__" "Match.__new__" (bR 3 4) [] .none 283 "cpy313.difflib" 194 81 .none
noncomputable def sv:ak:=ce ["cls", "iterable", "result"] 288
noncomputable def rA:ak:=cq "_make" "Match._make" (bR 3 5)
noncomputable def s6:ak:=fO "_make" "Match._make" 285 33 2 83 (.ref 85) (.ref 86) (.ref 87) 291
noncomputable def rC (q:Program) (P:Params):Obj:=⟨(.type "function"),none,(.func { name := "_make",qualname := "Match._make",params:=qD (iq q 3 5),body:=.stmts (bF (iq q 3 5)),scope:=aY (iq q 3 5),globals:=3,closure:=[],defaults:=.none,kwdefaults:=.none,doc:=(.str (gx (bF (iq q 3 5))) 293),pyModule:=(.str "cpy313.difflib" 194),annotations:=(some 92),code:=(.ref 88),closureTuple:=.none,builtins:=0 }),Array.mk []⟩
noncomputable def sD (q:Program) (P:Params):Obj:=⟨(.type "dict"),none,(.dict (Array.mk [⟨(PyData.keyHash P "__module__"),(.str "__module__" 295),(.str "cpy313.difflib" 194)⟩,⟨(PyData.keyHash P "__name__"),(.str "__name__" 298),(.str "_make" 297)⟩,⟨(PyData.keyHash P "__qualname__"),(.str "__qualname__" 301),(.str "Match._make" 300)⟩,⟨(PyData.keyHash P "__doc__"),(.str "__doc__" 303),(.str (gx (bF (iq q 3 5))) 293)⟩,⟨(PyData.keyHash P "__annotations__"),(.str "__annotations__" 305),(.ref 92)⟩]) 5),Array.mk []⟩
noncomputable def rX (q:Program) (P:Params):Obj:=⟨(.type "classmethod"),(some 90),(.fields (Array.mk [(.ref 89),(.bool false)])),Array.mk []⟩
noncomputable def se:ak:=gS [(.ref 68)]
noncomputable def rS:ak:=ce ["__class__"] 310
noncomputable def rM:ak:=ce ["self", "kwds", "result"] 311
noncomputable def rL:ak:=cq "_replace" "Match._replace" (bR 3 6)
noncomputable def su:ak:=uH "_replace" "Match._replace" 307 41 1 1 0 11 94 true (.ref 96) (.ref 97) (.ref 98) 314
noncomputable def jE:ak:=ku "_replace" "Match._replace" (bR 3 6) [("__class__",68)] .none 316 "cpy313.difflib" 194 99 (.ref 93)
noncomputable def iU:ak:=ce ["self"] 322
noncomputable def jL:ak:=cq "__repr__" "Match.__repr__" (bR 3 8)
noncomputable def jO:ak:=fO "__repr__" "Match.__repr__" 319 52 1 101 (.ref 103) (.ref 104) (.ref 105) 323
noncomputable def lh:ak:=ku "__repr__" "Match.__repr__" (bR 3 8) [] .none 325 "cpy313.difflib" 194 106 .none
noncomputable def iW:ak:=ce ["self"] 330
noncomputable def jw:ak:=cq "_asdict" "Match._asdict" (bR 3 9)
noncomputable def kj:ak:=fO "_asdict" "Match._asdict" 327 56 1 108 (.ref 110) (.ref 111) (.ref 112) 331
noncomputable def li:ak:=e5 "_asdict" "Match._asdict" (bR 3 9) .none "cpy313.difflib" 194 113
noncomputable def kX:ak:=ce ["self"] 337
noncomputable def jW:ak:=cq "__getnewargs__" "Match.__getnewargs__" (bR 3 10)
noncomputable def jS:ak:=fO "__getnewargs__" "Match.__getnewargs__" 334 59 1 115 (.ref 117) (.ref 118) (.ref 119) 338
noncomputable def j5:ak:=ku "__getnewargs__" "Match.__getnewargs__" (bR 3 10) [] .none 340 "cpy313.difflib" 194 120 .none
noncomputable def lj:ak:=ce ["a", "b", "size"] 342
noncomputable def jF:ak:=sR [("index",352,(.int 0 346)),("__doc__",354,(.str "Alias for field number 0" 347))] 2
noncomputable def kP (q:Program) (P:Params):Obj:=⟨(.ref 60),(some 123),.plain,Array.mk []⟩
noncomputable def qz (q:Program) (P:Params):Obj:=⟨(.type "frame"),none,(.dict (Array.mk [⟨(PyData.keyHash P "self"),(.str "self" 348),(.ref 124)⟩,⟨(PyData.keyHash P "index"),(.str "index" 349),(.int 0 346)⟩,⟨(PyData.keyHash P "doc"),(.str "doc" 350),(.str "Alias for field number 0" 347)⟩]) 3),Array.mk []⟩
noncomputable def kT:ak:=sR [("index",362,(.int 1 356)),("__doc__",364,(.str "Alias for field number 1" 357))] 2
noncomputable def lu (q:Program) (P:Params):Obj:=⟨(.ref 60),(some 126),.plain,Array.mk []⟩
noncomputable def qC (q:Program) (P:Params):Obj:=⟨(.type "frame"),none,(.dict (Array.mk [⟨(PyData.keyHash P "self"),(.str "self" 358),(.ref 127)⟩,⟨(PyData.keyHash P "index"),(.str "index" 359),(.int 1 356)⟩,⟨(PyData.keyHash P "doc"),(.str "doc" 360),(.str "Alias for field number 1" 357)⟩]) 3),Array.mk []⟩
noncomputable def ja:ak:=sR [("index",372,(.int 2 366)),("__doc__",374,(.str "Alias for field number 2" 367))] 2
noncomputable def ju (q:Program) (P:Params):Obj:=⟨(.ref 60),(some 129),.plain,Array.mk []⟩
noncomputable def qS (q:Program) (P:Params):Obj:=⟨(.type "frame"),none,(.dict (Array.mk [⟨(PyData.keyHash P "self"),(.str "self" 368),(.ref 130)⟩,⟨(PyData.keyHash P "index"),(.str "index" 369),(.int 2 366)⟩,⟨(PyData.keyHash P "doc"),(.str "doc" 370),(.str "Alias for field number 2" 367)⟩]) 3),Array.mk []⟩
noncomputable def nh (q:Program) (P:Params):Obj:=⟨(.type "list"),none,(.seq (Array.mk []) 0),Array.mk []⟩
noncomputable def jJ:ak:=sR [("__module__",260,(.str "cpy313.difflib" 194)),("__firstlineno__",264,(.int 23 263)),("__doc__",266,(.str "Match(a, b, size)" 265)),("__slots__",268,(.ref 73)),("_fields",272,(.ref 74)),("_field_defaults",273,(.ref 75)),("__new__",284,(.ref 136)),("_make",306,(.ref 91)),("_replace",317,(.ref 100)),("__replace__",318,(.ref 100)),("__repr__",326,(.ref 107)),("_asdict",333,(.ref 114)),("__getnewargs__",341,(.ref 121)),("__match_args__",345,(.ref 122)),("a",355,(.ref 124)),("b",365,(.ref 127)),("size",375,(.ref 130)),("__static_attributes__",376,(.ref 132))] 2
noncomputable def kU (q:Program) (P:Params):Obj:=⟨(.type "type"),none,(.cls { name := "Match",bases:=[(.type "tuple")],mro:=[(.ref 135),(.type "tuple"),(.type "object")],ns:=134,qualname := "Match",hasDict:=false,slotNames:=[],subclasses:=[],abstract:=false,collection:=none,hasDel:=false }),Array.mk [(some (.ref 65)),none,(some (.str "Match" 253)),(some (.str "Match" 261)),(some .none),(some (.bool false))]⟩
noncomputable def kI (q:Program) (P:Params):Obj:=⟨(.type "staticmethod"),none,(.fields (Array.mk [(.ref 82)])),Array.mk []⟩
noncomputable def pF:ak:=C9 (.ref 135)
noncomputable def mQ:ak:=CJ "object.__init_subclass__" (.ref 135)
noncomputable def jn:ak:=ce ["matches", "length"] 384
noncomputable def lf:ak:=cq "_calculate_ratio" "_calculate_ratio" (cW 4)
noncomputable def i5:ak:=lz "_calculate_ratio" 381 66 2 139 (.ref 141) (.ref 142) (.ref 143) 386
noncomputable def kR:ak:=e5 "_calculate_ratio" "_calculate_ratio" (cW 4) .none "cpy313.difflib" 194 144
noncomputable def ow (q:Program) (P:Params):Obj:=⟨(.type "dict"),none,(.dict (Array.mk [⟨(PyData.keyHash P "__module__"),(.str "__module__" 396),(.str "cpy313.difflib" 194)⟩,⟨(PyData.keyHash P "__qualname__"),(.str "__qualname__" 398),(.str "SequenceMatcher" 397)⟩,⟨(PyData.keyHash P "__firstlineno__"),(.str "__firstlineno__" 400),(.int 70 399)⟩,⟨(PyData.keyHash P "__doc__"),(.str "__doc__" 402),(.str (gx (eQ (bE q 5))) 401)⟩,⟨(PyData.keyHash P "__init__"),(.str "__init__" 417),(.ref 160)⟩,⟨(PyData.keyHash P "set_seqs"),(.str "set_seqs" 427),(.ref 167)⟩,⟨(PyData.keyHash P "set_seq1"),(.str "set_seq1" 436),(.ref 174)⟩,⟨(PyData.keyHash P "set_seq2"),(.str "set_seq2" 445),(.ref 181)⟩,⟨(PyData.keyHash P "_SequenceMatcher__chain_b"),(.str "_SequenceMatcher__chain_b" 463),(.ref 188)⟩,⟨(PyData.keyHash P "find_longest_match"),(.str "find_longest_match" 491),(.ref 196)⟩,⟨(PyData.keyHash P "get_matching_blocks"),(.str "get_matching_blocks" 518),(.ref 203)⟩,⟨(PyData.keyHash P "get_opcodes"),(.str "get_opcodes" 533),(.ref 210)⟩,⟨(PyData.keyHash P "get_grouped_opcodes"),(.str "get_grouped_opcodes" 542),(.ref 218)⟩,⟨(PyData.keyHash P "ratio"),(.str "ratio" 551),(.ref 225)⟩,⟨(PyData.keyHash P "quick_ratio"),(.str "quick_ratio" 558),(.ref 232)⟩,⟨(PyData.keyHash P "real_quick_ratio"),(.str "real_quick_ratio" 565),(.ref 239)⟩,⟨(PyData.keyHash P "__static_attributes__"),(.str "__static_attributes__" 576),(.ref 240)⟩]) 17),Array.mk []⟩
noncomputable def ou:ak:=Ad [(.int 145 0),(.int 4 0),(.ref 159),(.int 173 0),(.int 4 0),(.ref 166),(.int 184 0),(.int 4 0),(.ref 173),(.int 209 0),(.int 4 0),(.ref 180),(.int 236 0),(.int 4 0),(.ref 187),(.int 260 0),(.int 4 0),(.ref 195),(.int 335 0),(.int 4 0),(.ref 202),(.int 383 0),(.int 4 0),(.ref 209),(.int 430 0),(.int 4 0),(.ref 217),(.int 433 0),(.int 4 0),(.ref 224),(.int 457 0),(.int 4 0),(.ref 231),(.int 460 0),(.int 4 0),(.ref 238)]
noncomputable def rg:ak:=uH "SequenceMatcher" "SequenceMatcher" 391 70 0 0 0 0 149 false .none .none .none 394
noncomputable def ng (q:Program) (P:Params):Obj:=⟨(.type "frame"),none,.plain,Array.mk [(some (.ref 151)),(some (.ref 3)),(some (.ref 148)),none,(some (.str "cpy313.difflib" 194)),none,(some (.ref 0))]⟩
noncomputable def ln:ak:=gS [.none,(.str "" 404),(.str "" 405),(.bool true)]
noncomputable def iN:ak:=ce ["self", "isjunk", "a", "b", "autojunk"] 409
noncomputable def jh:ak:=cq "__init__" "SequenceMatcher.__init__" (bR 5 1)
noncomputable def jl:ak:=fO "__init__" "SequenceMatcher.__init__" 406 145 5 154 (.ref 156) (.ref 157) (.ref 158) 414
noncomputable def ji:ak:=ku "__init__" "SequenceMatcher.__init__" (bR 5 1) [] (.ref 153) 416 "cpy313.difflib" 194 159 .none
noncomputable def jD:ak:=ce ["self", "a", "b"] 421
noncomputable def iX:ak:=cq "set_seqs" "SequenceMatcher.set_seqs" (bR 5 2)
noncomputable def jM:ak:=fO "set_seqs" "SequenceMatcher.set_seqs" 418 173 3 161 (.ref 163) (.ref 164) (.ref 165) 424
noncomputable def jZ:ak:=ku "set_seqs" "SequenceMatcher.set_seqs" (bR 5 2) [] .none 426 "cpy313.difflib" 194 166 .none
noncomputable def kZ:ak:=ce ["self", "a"] 431
noncomputable def i8:ak:=cq "set_seq1" "SequenceMatcher.set_seq1" (bR 5 3)
noncomputable def kD:ak:=fO "set_seq1" "SequenceMatcher.set_seq1" 428 184 2 168 (.ref 170) (.ref 171) (.ref 172) 433
noncomputable def jT:ak:=ku "set_seq1" "SequenceMatcher.set_seq1" (bR 5 3) [] .none 435 "cpy313.difflib" 194 173 .none
noncomputable def jA:ak:=ce ["self", "b"] 440
noncomputable def jf:ak:=cq "set_seq2" "SequenceMatcher.set_seq2" (bR 5 4)
noncomputable def jR:ak:=fO "set_seq2" "SequenceMatcher.set_seq2" 437 209 2 175 (.ref 177) (.ref 178) (.ref 179) 442
noncomputable def j8:ak:=ku "set_seq2" "SequenceMatcher.set_seq2" (bR 5 4) [] .none 444 "cpy313.difflib" 194 180 .none
noncomputable def lk:ak:=ce ["self", "b", "b2j", "i", "elt", "indices", "junk", "isjunk", "popular", "n", "ntest", "idxs"] 449
noncomputable def jX:ak:=cq "__chain_b" "SequenceMatcher.__chain_b" (bR 5 5)
noncomputable def jp:ak:=fO "__chain_b" "SequenceMatcher.__chain_b" 446 236 1 182 (.ref 184) (.ref 185) (.ref 186) 461
noncomputable def lg:ak:=e5 "__chain_b" "SequenceMatcher.__chain_b" (bR 5 5) .none "cpy313.difflib" 194 187
noncomputable def kS:ak:=gS [(.int 0 464),.none,(.int 0 465),.none]
noncomputable def kh:ak:=ce ["self", "alo", "ahi", "blo", "bhi", "a", "b", "b2j", "isbjunk", "besti", "bestj", "bestsize", "j2len", "nothing", "i", "j2lenget", "newj2len", "j", "k"] 469
noncomputable def jy:ak:=cq "find_longest_match" "SequenceMatcher.find_longest_match" (bR 5 6)
noncomputable def jG:ak:=fO "find_longest_match" "SequenceMatcher.find_longest_match" 466 260 5 190 (.ref 192) (.ref 193) (.ref 194) 488
noncomputable def jm:ak:=ku "find_longest_match" "SequenceMatcher.find_longest_match" (bR 5 6) [] (.ref 189) 490 "cpy313.difflib" 194 195 .none
noncomputable def jt:ak:=ce ["self", "la", "lb", "queue", "matching_blocks", "alo", "ahi", "blo", "bhi", "i", "j", "k", "x", "i1", "j1", "k1", "non_adjacent", "i2", "j2", "k2"] 495
noncomputable def kW:ak:=cq "get_matching_blocks" "SequenceMatcher.get_matching_blocks" (bR 5 7)
noncomputable def jx:ak:=fO "get_matching_blocks" "SequenceMatcher.get_matching_blocks" 492 335 1 197 (.ref 199) (.ref 200) (.ref 201) 515
noncomputable def jK:ak:=ku "get_matching_blocks" "SequenceMatcher.get_matching_blocks" (bR 5 7) [] .none 517 "cpy313.difflib" 194 202 .none
noncomputable def kO:ak:=ce ["self", "i", "j", "answer", "ai", "bj", "size", "tag"] 522
noncomputable def kG:ak:=cq "get_opcodes" "SequenceMatcher.get_opcodes" (bR 5 8)
noncomputable def jj:ak:=fO "get_opcodes" "SequenceMatcher.get_opcodes" 519 383 1 204 (.ref 206) (.ref 207) (.ref 208) 530
noncomputable def j4:ak:=ku "get_opcodes" "SequenceMatcher.get_opcodes" (bR 5 8) [] .none 532 "cpy313.difflib" 194 209 .none
noncomputable def jB:ak:=gS [(.int 3 534)]
noncomputable def kY:ak:=ce ["self", "n"] 538
noncomputable def kC:ak:=cq "get_grouped_opcodes" "SequenceMatcher.get_grouped_opcodes" (bR 5 9)
noncomputable def jP:ak:=fO "get_grouped_opcodes" "SequenceMatcher.get_grouped_opcodes" 535 430 2 212 (.ref 214) (.ref 215) (.ref 216) 540
noncomputable def jd:ak:=e5 "get_grouped_opcodes" "SequenceMatcher.get_grouped_opcodes" (bR 5 9) (.ref 211) "cpy313.difflib" 194 217
noncomputable def ko:ak:=ce ["self", "matches"] 546
noncomputable def ke:ak:=cq "ratio" "SequenceMatcher.ratio" (bR 5 10)
noncomputable def jo:ak:=fO "ratio" "SequenceMatcher.ratio" 543 433 1 219 (.ref 221) (.ref 222) (.ref 223) 548
noncomputable def jI:ak:=ku "ratio" "SequenceMatcher.ratio" (bR 5 10) [] .none 550 "cpy313.difflib" 194 224 .none
noncomputable def kL:ak:=ce ["self"] 555
noncomputable def jC:ak:=cq "quick_ratio" "SequenceMatcher.quick_ratio" (bR 5 11)
noncomputable def j6:ak:=fO "quick_ratio" "SequenceMatcher.quick_ratio" 552 457 1 226 (.ref 228) (.ref 229) (.ref 230) 556
noncomputable def iO:ak:=e5 "quick_ratio" "SequenceMatcher.quick_ratio" (bR 5 11) .none "cpy313.difflib" 194 231
noncomputable def iT:ak:=ce ["self"] 562
noncomputable def iY:ak:=cq "real_quick_ratio" "SequenceMatcher.real_quick_ratio" (bR 5 12)
noncomputable def j3:ak:=fO "real_quick_ratio" "SequenceMatcher.real_quick_ratio" 559 460 1 233 (.ref 235) (.ref 236) (.ref 237) 563
noncomputable def lc:ak:=e5 "real_quick_ratio" "SequenceMatcher.real_quick_ratio" (bR 5 12) .none "cpy313.difflib" 194 238
noncomputable def ki:ak:=ce ["a", "autojunk", "b", "b2j", "bjunk", "bpopular", "fullbcount", "isjunk", "matching_blocks", "opcodes"] 566
noncomputable def jc (q:Program) (P:Params):Obj:=⟨(.type "dict"),none,(.dict (Array.mk [⟨(PyData.keyHash P "__module__"),(.str "__module__" 396),(.str "cpy313.difflib" 194)⟩,⟨(PyData.keyHash P "__firstlineno__"),(.str "__firstlineno__" 400),(.int 70 399)⟩,⟨(PyData.keyHash P "__doc__"),(.str "__doc__" 402),(.str (gx (eQ (bE q 5))) 401)⟩,⟨(PyData.keyHash P "__init__"),(.str "__init__" 417),(.ref 160)⟩,⟨(PyData.keyHash P "set_seqs"),(.str "set_seqs" 427),(.ref 167)⟩,⟨(PyData.keyHash P "set_seq1"),(.str "set_seq1" 436),(.ref 174)⟩,⟨(PyData.keyHash P "set_seq2"),(.str "set_seq2" 445),(.ref 181)⟩,⟨(PyData.keyHash P "_SequenceMatcher__chain_b"),(.str "_SequenceMatcher__chain_b" 463),(.ref 188)⟩,⟨(PyData.keyHash P "find_longest_match"),(.str "find_longest_match" 491),(.ref 196)⟩,⟨(PyData.keyHash P "get_matching_blocks"),(.str "get_matching_blocks" 518),(.ref 203)⟩,⟨(PyData.keyHash P "get_opcodes"),(.str "get_opcodes" 533),(.ref 210)⟩,⟨(PyData.keyHash P "get_grouped_opcodes"),(.str "get_grouped_opcodes" 542),(.ref 218)⟩,⟨(PyData.keyHash P "ratio"),(.str "ratio" 551),(.ref 225)⟩,⟨(PyData.keyHash P "quick_ratio"),(.str "quick_ratio" 558),(.ref 232)⟩,⟨(PyData.keyHash P "real_quick_ratio"),(.str "real_quick_ratio" 565),(.ref 239)⟩,⟨(PyData.keyHash P "__static_attributes__"),(.str "__static_attributes__" 576),(.ref 240)⟩,⟨(PyData.keyHash P "__dict__"),(.str "__dict__" 578),(.ref 243)⟩,⟨(PyData.keyHash P "__weakref__"),(.str "__weakref__" 580),(.ref 244)⟩]) 3),Array.mk []⟩
noncomputable def kM (q:Program) (P:Params):Obj:=⟨(.type "type"),none,(.cls { name := "SequenceMatcher",bases:=[(.type "object")],mro:=[(.ref 242),(.type "object")],ns:=241,qualname := "SequenceMatcher",hasDict:=true,slotNames:=[],subclasses:=[],abstract:=false,collection:=none,hasDel:=false }),Array.mk [none,none,(some (.str "SequenceMatcher" 389)),(some (.str "SequenceMatcher" 397)),(some (.builtin "object.__new__")),(some (.bool true))]⟩
noncomputable def km (q:Program) (P:Params):Obj:=⟨(.type "getset_descriptor"),none,(.fields (Array.mk [(.str "__dict__" 577),(.ref 242),(.builtin "function.__dict__"),(.builtin "function.__dict__#set")])),Array.mk []⟩
noncomputable def jQ (q:Program) (P:Params):Obj:=⟨(.type "getset_descriptor"),none,(.fields (Array.mk [(.str "__weakref__" 579),(.ref 242),(.builtin "ExceptionGroup.__weakref__"),.none])),Array.mk []⟩
noncomputable def nK:ak:=C9 (.ref 242)
noncomputable def qp:ak:=CJ "object.__init_subclass__" (.ref 242)
noncomputable def AX:ak:=sR [("__name__",165,(.str "law_ik0243_01" 852)),("__doc__",166,.none),("__package__",167,.none),("__loader__",168,(.builtin "__main__.__loader__#opaque")),("__spec__",169,.none),("__annotations__",170,(.ref 6)),("__builtins__",171,(.ref 4)),("__file__",173,(.str "/claim/cut.py" 172)),("__cached__",174,.none),("_wall",193,(.ref 21)),("_tuplegetter",252,(.ref 60)),("Match",380,(.ref 135)),("_calculate_ratio",388,(.ref 145)),("SequenceMatcher",582,(.ref 242)),("restore",594,(.ref 253)),("_plain_name",605,(.ref 260)),("ABCMeta",631,(.ref 277)),("_ABCLike",674,(.ref 310)),("_abc_plain_meta",681,(.ref 319)),("fspath",693,(.ref 326)),("_check_arg_types",706,(.ref 333)),("_get_sep",715,(.ref 340)),("join",727,(.ref 347)),("splitroot",737,(.ref 354)),("dirname",748,(.ref 361)),("normpath",764,(.ref 368)),("S_IFMT",774,(.ref 375)),("S_IFDIR",776,(.int 16384 775)),("S_IFCHR",778,(.int 8192 777)),("S_IFBLK",780,(.int 24576 779)),("S_IFREG",782,(.int 32768 781)),("S_IFIFO",784,(.int 4096 783)),("S_IFLNK",786,(.int 40960 785)),("S_IFSOCK",788,(.int 49152 787)),("S_ISUID",790,(.int 2048 789)),("S_ISGID",792,(.int 1024 791)),("S_ISVTX",794,(.int 512 793)),("S_IRUSR",796,(.int 256 795)),("S_IWUSR",798,(.int 128 797)),("S_IXUSR",800,(.int 64 799)),("S_IRGRP",802,(.int 32 801)),("S_IWGRP",804,(.int 16 803)),("S_IXGRP",806,(.int 8 805)),("S_IROTH",808,(.int 4 807)),("S_IWOTH",810,(.int 2 809)),("S_IXOTH",812,(.int 1 811)),("_filemode_table",838,(.ref 408)),("filemode",851,(.ref 415)),("_law_entries",859,(.ref 420)),("_law_row",869,(.ref 427)),("_law_delta",875,(.ref 432)),("_law_due",881,(.ref 437)),("_law_changes",894,(.ref 444)),("_law_refused",903,(.ref 451)),("law",909,(.ref 456))] 55
noncomputable def xq:ak:=Ad [(.int 1 0),(.int 0 0),(.ref 20),(.int 5 0),(.int 0 0),(.ref 27),(.int 23 0),(.int 0 0),(.ref 71),(.int 66 0),(.int 0 0),(.ref 144),(.int 70 0),(.int 0 0),(.ref 151),(.int 462 0),(.int 0 0),(.ref 252),(.int 493 0),(.int 0 0),(.ref 259),(.int 499 0),(.int 0 0),(.ref 266),(.int 504 0),(.int 0 0),(.ref 285),(.int 519 0),(.int 0 0),(.ref 318),(.int 523 0),(.int 0 0),(.ref 325),(.int 540 0),(.int 0 0),(.ref 332),(.int 552 0),(.int 0 0),(.ref 339),(.int 557 0),(.int 0 0),(.ref 346),(.int 578 0),(.int 0 0),(.ref 353),(.int 595 0),(.int 0 0),(.ref 360),(.int 604 0),(.int 0 0),(.ref 367),(.int 631 0),(.int 0 0),(.ref 374),(.int 656 0),(.int 0 0),(.ref 414),(.int 675 0),(.int 0 0),(.ref 419),(.int 684 0),(.int 0 0),(.ref 426),(.int 689 0),(.int 0 0),(.ref 431),(.int 699 0),(.int 0 0),(.ref 436),(.int 706 0),(.int 0 0),(.ref 443),(.int 722 0),(.int 0 0),(.ref 450),(.int 727 0),(.int 0 0),(.ref 455)]
noncomputable def mX:ak:=ce ["delta", "which", "tag", "prefixes", "line"] 586
noncomputable def pa:ak:=cq "restore" "restore" (cW 6)
noncomputable def oR:ak:=uH "restore" "restore" 583 462 2 0 0 35 247 true (.ref 249) (.ref 250) (.ref 251) 591
noncomputable def rj:ak:=ku "restore" "restore" (cW 6) [] .none 593 "cpy313.difflib" 194 252 .none
noncomputable def pe:ak:=ce ["x", "what", "kind"] 600
noncomputable def qH:ak:=cq "_plain_name" "_plain_name" (cW 8)
noncomputable def pV:ak:=lz "_plain_name" 597 493 2 254 (.ref 256) (.ref 257) (.ref 258) 603
noncomputable def pq:ak:=e5 "_plain_name" "_plain_name" (cW 8) .none "os" 595 259
noncomputable def mS:ak:=gS [(.type "type")]
noncomputable def wj:ak:=sR [("__module__",615,(.str "abc" 606)),("__qualname__",617,(.str "ABCMeta" 616)),("__firstlineno__",619,(.int 499 618)),("register",627,(.ref 274)),("__static_attributes__",628,(.ref 275))] 5
noncomputable def wD:ak:=Ad [(.int 501 0),(.int 4 0),(.ref 273)]
noncomputable def vM:ak:=uH "ABCMeta" "ABCMeta" 610 499 0 0 0 0 264 false .none .none .none 613
noncomputable def xo (q:Program) (P:Params):Obj:=⟨(.type "frame"),none,.plain,Array.mk [(some (.ref 266)),(some (.ref 3)),(some (.ref 263)),none,(some (.str "abc" 606)),none,(some (.ref 0))]⟩
noncomputable def mP:ak:=ce ["cls", "subclass"] 623
noncomputable def oP:ak:=cq "register" "ABCMeta.register" (bR 10 0)
noncomputable def rr:ak:=fO "register" "ABCMeta.register" 620 501 2 268 (.ref 270) (.ref 271) (.ref 272) 625
noncomputable def pO:ak:=e5 "register" "ABCMeta.register" (bR 10 0) .none "abc" 606 273
noncomputable def ox:ak:=sR [("__module__",615,(.str "abc" 606)),("__firstlineno__",619,(.int 499 618)),("register",627,(.ref 274)),("__static_attributes__",628,(.ref 275)),("__doc__",629,.none)] 2
noncomputable def nS (q:Program) (P:Params):Obj:=⟨(.type "type"),none,(.cls { name := "ABCMeta",bases:=[(.type "type")],mro:=[(.ref 277),(.type "type"),(.type "object")],ns:=276,qualname := "ABCMeta",hasDict:=true,slotNames:=[],subclasses:=[(.ref 310)],abstract:=false,collection:=none,hasDel:=false }),Array.mk [(some (.ref 261)),none,(some (.str "ABCMeta" 608)),(some (.str "ABCMeta" 616)),(some (.builtin "type.__new__")),(some (.bool true))]⟩
noncomputable def wV:ak:=C9 (.ref 277)
noncomputable def v8:ak:=CJ "object.__init_subclass__" (.ref 277)
noncomputable def rv:ak:=gS [(.ref 277)]
noncomputable def vl:ak:=sR [("__module__",641,(.str "collections.abc" 632)),("__qualname__",643,(.str "_ABCLike" 642)),("__firstlineno__",645,(.int 504 644)),("__instancecheck__",654,(.ref 293)),("__subclasscheck__",662,(.ref 300)),("register",670,(.ref 307)),("__static_attributes__",671,(.ref 308))] 7
noncomputable def wt:ak:=Ad [(.int 506 0),(.int 4 0),(.ref 292),(.int 512 0),(.int 4 0),(.ref 299),(.int 517 0),(.int 4 0),(.ref 306)]
noncomputable def vr:ak:=uH "_ABCLike" "_ABCLike" 636 504 0 0 0 0 283 false .none .none .none 639
noncomputable def wG (q:Program) (P:Params):Obj:=⟨(.type "frame"),none,.plain,Array.mk [(some (.ref 285)),(some (.ref 3)),(some (.ref 282)),none,(some (.str "collections.abc" 632)),none,(some (.ref 0))]⟩
noncomputable def qd:ak:=ce ["cls", "instance", "C"] 649
noncomputable def nA:ak:=cq "__instancecheck__" "_ABCLike.__instancecheck__" (bR 12 0)
noncomputable def nc:ak:=fO "__instancecheck__" "_ABCLike.__instancecheck__" 646 506 2 287 (.ref 289) (.ref 290) (.ref 291) 652
noncomputable def oX:ak:=e5 "__instancecheck__" "_ABCLike.__instancecheck__" (bR 12 0) .none "collections.abc" 632 292
noncomputable def nC:ak:=ce ["cls", "C"] 658
noncomputable def o9:ak:=cq "__subclasscheck__" "_ABCLike.__subclasscheck__" (bR 12 1)
noncomputable def p9:ak:=fO "__subclasscheck__" "_ABCLike.__subclasscheck__" 655 512 2 294 (.ref 296) (.ref 297) (.ref 298) 660
noncomputable def nZ:ak:=e5 "__subclasscheck__" "_ABCLike.__subclasscheck__" (bR 12 1) .none "collections.abc" 632 299
noncomputable def pY:ak:=ce ["cls", "subclass"] 666
noncomputable def rp:ak:=cq "register" "_ABCLike.register" (bR 12 2)
noncomputable def qm:ak:=fO "register" "_ABCLike.register" 663 517 2 301 (.ref 303) (.ref 304) (.ref 305) 668
noncomputable def qQ:ak:=e5 "register" "_ABCLike.register" (bR 12 2) .none "collections.abc" 632 306
noncomputable def qA:ak:=sR [("__module__",641,(.str "collections.abc" 632)),("__firstlineno__",645,(.int 504 644)),("__instancecheck__",654,(.ref 293)),("__subclasscheck__",662,(.ref 300)),("register",670,(.ref 307)),("__static_attributes__",671,(.ref 308)),("__doc__",672,.none)] 2
noncomputable def ni (q:Program) (P:Params):Obj:=⟨(.type "type"),none,(.cls { name := "_ABCLike",bases:=[(.ref 277)],mro:=[(.ref 310),(.ref 277),(.type "type"),(.type "object")],ns:=309,qualname := "_ABCLike",hasDict:=true,slotNames:=[],subclasses:=[],abstract:=false,collection:=none,hasDel:=false }),Array.mk [(some (.ref 280)),none,(some (.str "_ABCLike" 634)),(some (.str "_ABCLike" 642)),(some (.builtin "type.__new__")),(some (.bool true))]⟩
noncomputable def vR:ak:=C9 (.ref 310)
noncomputable def w8:ak:=CJ "object.__init_subclass__" (.ref 310)
noncomputable def oQ:ak:=ce ["C"] 678
noncomputable def n0:ak:=cq "_abc_plain_meta" "_abc_plain_meta" (cW 13)
noncomputable def oH:ak:=lz "_abc_plain_meta" 675 519 1 313 (.ref 315) (.ref 316) (.ref 317) 679
noncomputable def n9:ak:=e5 "_abc_plain_meta" "_abc_plain_meta" (cW 13) .none "collections.abc" 632 318
noncomputable def nU:ak:=ce ["path", "kind", "hook", "given"] 687
noncomputable def oK:ak:=cq "fspath" "fspath" (cW 15)
noncomputable def nM:ak:=lz "fspath" 684 523 1 320 (.ref 322) (.ref 323) (.ref 324) 691
noncomputable def oV:ak:=e5 "fspath" "fspath" (cW 15) .none "os" 682 325
noncomputable def ny:ak:=ce ["funcname", "args", "hasstr", "hasbytes", "s"] 699
noncomputable def pG:ak:=cq "_check_arg_types" "_check_arg_types" (cW 17)
noncomputable def qi:ak:=uH "_check_arg_types" "_check_arg_types" 696 540 1 0 0 7 327 true (.ref 329) (.ref 330) (.ref 331) 704
noncomputable def q0:ak:=e5 "_check_arg_types" "_check_arg_types" (cW 17) .none "cpy313.genericpath" 694 332
noncomputable def nJ:ak:=ce ["path"] 712
noncomputable def nE:ak:=cq "_get_sep" "_get_sep" (cW 19)
noncomputable def qh:ak:=lz "_get_sep" 709 552 1 334 (.ref 336) (.ref 337) (.ref 338) 713
noncomputable def oj:ak:=e5 "_get_sep" "_get_sep" (cW 19) .none "cpy313.posixpath" 707 339
noncomputable def mZ:ak:=ce ["a", "p", "sep", "path", "b"] 719
noncomputable def pz:ak:=cq "join" "join" (cW 20)
noncomputable def mN:ak:=uH "join" "join" 716 557 1 0 0 7 341 true (.ref 343) (.ref 344) (.ref 345) 724
noncomputable def nX:ak:=ku "join" "join" (cW 20) [] .none 726 "cpy313.posixpath" 707 346 .none
noncomputable def rt:ak:=ce ["p", "sep", "empty"] 731
noncomputable def mW:ak:=cq "splitroot" "splitroot" (cW 21)
noncomputable def p7:ak:=lz "splitroot" 728 578 1 348 (.ref 350) (.ref 351) (.ref 352) 734
noncomputable def mU:ak:=ku "splitroot" "splitroot" (cW 21) [] .none 736 "cpy313.posixpath" 707 353 .none
noncomputable def pS:ak:=ce ["p", "sep", "i", "head"] 741
noncomputable def qG:ak:=cq "dirname" "dirname" (cW 22)
noncomputable def qr:ak:=lz "dirname" 738 595 1 355 (.ref 357) (.ref 358) (.ref 359) 745
noncomputable def qc:ak:=ku "dirname" "dirname" (cW 22) [] .none 747 "cpy313.posixpath" 707 360 .none
noncomputable def qw:ak:=ce ["path", "sep", "dot", "dotdot", "_", "initial_slashes", "comps", "new_comps", "comp"] 752
noncomputable def pJ:ak:=cq "normpath" "normpath" (cW 23)
noncomputable def qN:ak:=lz "normpath" 749 604 1 362 (.ref 364) (.ref 365) (.ref 366) 761
noncomputable def qV:ak:=ku "normpath" "normpath" (cW 23) [] .none 763 "cpy313.posixpath" 707 367 .none
noncomputable def qU:ak:=ce ["mode"] 770
noncomputable def qZ:ak:=cq "S_IFMT" "S_IFMT" (cW 25)
noncomputable def ql:ak:=lz "S_IFMT" 767 631 1 369 (.ref 371) (.ref 372) (.ref 373) 771
noncomputable def rd:ak:=ku "S_IFMT" "S_IFMT" (cW 25) [] .none 773 "cpy313.stat" 765 374 .none
noncomputable def rn:ak:=gU 40960 785 "l" 813
noncomputable def qJ:ak:=gU 49152 787 "s" 814
noncomputable def qf:ak:=gU 32768 781 "-" 815
noncomputable def qe:ak:=gU 24576 779 "b" 816
noncomputable def oh:ak:=gU 16384 775 "d" 817
noncomputable def qt:ak:=gU 8192 777 "c" 818
noncomputable def ro:ak:=gU 4096 783 "p" 819
noncomputable def pR:ak:=gS [(.ref 376),(.ref 377),(.ref 378),(.ref 379),(.ref 380),(.ref 381),(.ref 382)]
noncomputable def o6:ak:=gU 256 795 "r" 820
noncomputable def n5:ak:=gS [(.ref 384)]
noncomputable def nY:ak:=gU 128 797 "w" 821
noncomputable def qa:ak:=gS [(.ref 386)]
noncomputable def oz:ak:=gU 2112 822 "s" 823
noncomputable def oq:ak:=gU 2048 789 "S" 824
noncomputable def pr:ak:=gU 64 799 "x" 825
noncomputable def oa:ak:=gS [(.ref 388),(.ref 389),(.ref 390)]
noncomputable def pB:ak:=gU 32 801 "r" 826
noncomputable def pH:ak:=gS [(.ref 392)]
noncomputable def nW:ak:=gU 16 803 "w" 827
noncomputable def o7:ak:=gS [(.ref 394)]
noncomputable def rf:ak:=gU 1032 828 "s" 829
noncomputable def m7:ak:=gU 1024 791 "S" 830
noncomputable def qY:ak:=gU 8 805 "x" 831
noncomputable def qb:ak:=gS [(.ref 396),(.ref 397),(.ref 398)]
noncomputable def qP:ak:=gU 4 807 "r" 832
noncomputable def pb:ak:=gS [(.ref 400)]
noncomputable def mV:ak:=gU 2 809 "w" 833
noncomputable def qj:ak:=gS [(.ref 402)]
noncomputable def qo:ak:=gU 513 834 "t" 835
noncomputable def pt:ak:=gU 512 793 "T" 836
noncomputable def qT:ak:=gU 1 811 "x" 837
noncomputable def qX:ak:=gS [(.ref 404),(.ref 405),(.ref 406)]
noncomputable def pN:ak:=gS [(.ref 383),(.ref 385),(.ref 387),(.ref 391),(.ref 393),(.ref 395),(.ref 399),(.ref 401),(.ref 403),(.ref 407)]
noncomputable def pw:ak:=ce ["mode", "perm", "index", "table", "bit", "char"] 842
noncomputable def nv:ak:=cq "filemode" "filemode" (cW 46)
noncomputable def pj:ak:=lz "filemode" 839 656 1 409 (.ref 411) (.ref 412) (.ref 413) 848
noncomputable def nQ:ak:=ku "filemode" "filemode" (cW 46) [] .none 850 "cpy313.stat" 765 414 .none
noncomputable def qM:ak:=cq "_law_entries" "_law_entries" (cW 48)
noncomputable def oU:ak:=lz "_law_entries" 854 675 1 416 .none .none (.ref 418) 857
noncomputable def nV:ak:=e5 "_law_entries" "_law_entries" (cW 48) .none "law_ik0243_01" 852 419
noncomputable def oO:ak:=ce ["entry", "side", "path", "name"] 863
noncomputable def pA:ak:=cq "_law_row" "_law_row" (cW 49)
noncomputable def n8:ak:=lz "_law_row" 860 684 2 421 (.ref 423) (.ref 424) (.ref 425) 867
noncomputable def ph:ak:=e5 "_law_row" "_law_row" (cW 49) .none "law_ik0243_01" 852 426
noncomputable def qs:ak:=cq "_law_delta" "_law_delta" (cW 50)
noncomputable def oy:ak:=lz "_law_delta" 870 689 1 428 .none .none (.ref 430) 873
noncomputable def nk:ak:=e5 "_law_delta" "_law_delta" (cW 50) .none "law_ik0243_01" 852 431
noncomputable def pQ:ak:=cq "_law_due" "_law_due" (cW 51)
noncomputable def qI:ak:=lz "_law_due" 876 699 2 433 .none .none (.ref 435) 879
noncomputable def qu:ak:=e5 "_law_due" "_law_due" (cW 51) .none "law_ik0243_01" 852 436
noncomputable def qL:ak:=ce ["one", "two", "told", "i", "j", "a", "b"] 885
noncomputable def pc:ak:=cq "_law_changes" "_law_changes" (cW 52)
noncomputable def p8:ak:=lz "_law_changes" 882 706 2 438 (.ref 440) (.ref 441) (.ref 442) 892
noncomputable def pg:ak:=e5 "_law_changes" "_law_changes" (cW 52) .none "law_ik0243_01" 852 443
noncomputable def oA:ak:=ce ["delta", "which", "error"] 898
noncomputable def qF:ak:=cq "_law_refused" "_law_refused" (cW 53)
noncomputable def mO:ak:=lz "_law_refused" 895 722 2 445 (.ref 447) (.ref 448) (.ref 449) 901
noncomputable def pn:ak:=e5 "_law_refused" "_law_refused" (cW 53) .none "law_ik0243_01" 852 450
noncomputable def nR:ak:=cq "law" "law" (cW 54)
noncomputable def n6:ak:=lz "law" 904 727 1 452 .none .none (.ref 454) 907
noncomputable def pI:ak:=e5 "law" "law" (cW 54) .none "law_ik0243_01" 852 455
noncomputable def Ta:Program → Params → BT:=ad b0 (ad b1 (ad b3 (ah b7) (ah aa)) (ad b5 (ah b9) (ah iE))) (ad b2 (ad b4 (ah b8) (ah ab)) (ad b6 (ah C8) (ah iL)))
noncomputable def Ha:Program → Params → Heap:=FB [b0,b1,b2,b3,b4,b5,b6,b7,b8,b9,C8,aa,ab,iE,iL]
noncomputable def Tm:Program → Params → BT:=ad b0 (ad b1 (ad Fb (ad b7 (ad aa (ad tn (ad wA (ah lu) (ah ab)) (ad ab (ah jl) (ah ke))) (ad aa (ad aa (ah lf) (ah aa)) (ad aa (ah aa) (ah lc)))) (ad c0 (ad sq (ad wg (ah kU) (ah jt)) (ad iU (ah jZ) (ah j6))) (ad rV (ad rA (ah rg) (ah aa)) (ad jW (ah ab) bx)))) (ad aa (ad sp (ad sd (ad w3 (ah qS) (ah jG)) (ad su (ah jD) (ah ab))) (ad aa (ad aa (ah c0) (ah jB)) (ad aa (ah jf) (ah km)))) (ad vf (ad rG (ad fH (ah aa) (ah jK)) (ad lh (ah aa) (ah iT))) (ad sB (ad rX (ah ab) (ah aa)) (ad jF (ah jp) bx))))) (ad b5 (ad b9 (ad tr (ad tt (ad rP (ah ja) (ah aa)) (ad aa (ah aa) (ah jI))) (ad s7 (ad sQ (ah kR) (ah jj)) (ad kj (ah jA) (ah jc)))) (ad aa (ad rU (ad aa (ah pF) (ah kW)) (ad jL (ah ab) (ah aa))) (ad sN (ad rC (ah ln) (ah jP)) (ad j5 (ah aa) bx)))) (ad iE (ad sz (ad aa (ad aa (ah nh) (ah aa)) (ad aa (ah iX) (ah aa))) (ad sT (ad sv (ah aa) (ah ab)) (ad kX (ah j8) (ah nK)))) (ad aa (ad ab (ad ab (ah jn) (ah ab)) (ad ab (ah kD) (ah iY))) (ad rE (ad se (ah aa) (ah ko)) (ad qz (ah kS) bx)))))) (ad b2 (ad b4 (ad b8 (ad ab (ad aa (ad wQ (ah qC) (ah kh)) (ad rM (ah ji) (ah jo))) (ad si (ad sY (ah i5) (ah kG)) (ad jw (ah ab) (ah ki)))) (ad vt (ad aa (ad vz (ah kI) (ah aa)) (ad aa (ah aa) (ah iO))) (ad td (ad s6 (ah ng) (ah kC)) (ad jS (ah lk) bx)))) (ad Dp (ad sw (ad sU (ad r9 (ah aa) (ah jm)) (ad jE (ah aa) (ah kL))) (ad ab (ad ab (ah ow) (ah aa)) (ad ab (ah jR) (ah jQ)))) (ad uV (ad aa (ad aa (ah ab) (ah aa)) (ad aa (ah i8) (ah aa))) (ad sI (ad fH (ah iN) (ah ab)) (ad kP (ah lg) bx))))) (ad b6 (ad C8 (ad aa (ad sn (ad c0 (ah ju) (ah jy)) (ad rL (ah ab) (ah aa))) (ad rz (ad sH (ah aa) (ah j4)) (ad li (ah aa) (ah kM)))) (ad u5 (ad rD (ad sX (ah mQ) (ah jx)) (ad jO (ah kZ) (ah ab))) (ad rR (ad sD (ah aa) (ah jd)) (ad lj (ah jX) bx)))) (ad iL (ad aa (ad ab (ad we (ah jJ) (ah ab)) (ad ab (ah jM) (ah jC))) (ad aa (ad aa (ah ou) (ah kY)) (ad aa (ah aa) (ah qp)))) (ad ab (ad tw (ad s5 (ah aa) (ah kO)) (ad iW (ah jT) (ah j3))) (ad rK (ad rS (ah jh) (ah aa)) (ad kT (ah aa) bx))))))
noncomputable def Tf:Program → Params → BT:=ad b0 (ad b1 (ad AX (ad b7 (ad aa (ad tn (ad wA (ad lu (ah ab) (ah pR)) (ad ab (ah n9) (ah oA))) (ad ab (ad jl (ah aa) (ah nQ)) (ad ke (ah aa) bx))) (ad aa (ad aa (ad lf (ah aa) (ah qb)) (ad aa (ah ab) bx)) (ad aa (ad aa (ah pY) (ah oy)) (ad lc (ah qN) bx)))) (ad c0 (ad sq (ad wg (ad kU (ah wj) (ah oa)) (ad jt (ah aa) (ah n6))) (ad iU (ad jZ (ah ab) (ah oO)) (ad j6 (ah qG) bx))) (ad rV (ad rA (ad rg (ah v8) (ah qX)) (ad aa (ah mZ) bx)) (ad jW (ad ab (ah vR) (ah ab)) (ad aa (ah rd) bx))))) (ad aa (ad sp (ad sd (ad w3 (ad qS (ah pV) (ah qa)) (ad jG (ah aa) (ah pn))) (ad su (ad jD (ah nA) (ah oU)) (ad ab (ah aa) bx))) (ad aa (ad aa (ad c0 (ah aa) (ah qj)) (ad jB (ah qh) bx)) (ad aa (ad jf (ah qQ) (ah pQ)) (ad km (ah qU) bx)))) (ad vf (ad rG (ad fH (ad aa (ah xo) (ah o7)) (ad jK (ah pG) bx)) (ad lh (ad aa (ah p9) (ah ph)) (ad iT (ah ab) bx))) (ad sB (ad rX (ad ab (ah aa) (ah pw)) (ad aa (ah nX) bx)) (ad jF (ad jp (ah oQ) (ah p8)) (ad pa (ah qe) bx)))))) (ad b5 (ad b9 (ad tr (ad tt (ad rP (ad ja (ah aa) (ah n5)) (ad aa (ah ab) (ah qF))) (ad aa (ad aa (ah qd) (ah ab)) (ad jI (ah p7) bx))) (ad s7 (ad sQ (ad kR (ah rr) (ah pb)) (ad jj (ah aa) bx)) (ad kj (ad jA (ah rp) (ah aa)) (ad jc (ah aa) bx)))) (ad aa (ad rU (ad aa (ad pF (ah wD) (ah pH)) (ad kW (ah ny) bx)) (ad jL (ad ab (ah aa) (ah pA)) (ad aa (ah qc) bx))) (ad sN (ad rC (ad ln (ah c0) (ah aa)) (ad jP (ah pz) bx)) (ad j5 (ad aa (ah aa) (ah aa)) (ad mX (ah qJ) bx))))) (ad iE (ad sz (ad aa (ad aa (ad nh (ah mS) (ah oq)) (ad aa (ah nM) (ah ab))) (ad aa (ad iX (ah oX) (ah aa)) (ad aa (ah pS) bx))) (ad sT (ad sv (ad aa (ah nS) (ah pt)) (ad ab (ah aa) bx)) (ad kX (ad j8 (ah qA) (ah qu)) (ad nK (ah qZ) bx)))) (ad aa (ad ab (ad ab (ad jn (ah ab) (ah m7)) (ad ab (ah q0) bx)) (ad ab (ad kD (ah aa) (ah ab)) (ad iY (ah aa) bx))) (ad rE (ad se (ad aa (ah vr) (ah nv)) (ad ko (ah ab) bx)) (ad qz (ad kS (ah n0) (ah aa)) (ad rj (ah qt) bx))))))) (ad b2 (ad b4 (ad b8 (ad ab (ad aa (ad wQ (ad qC (ah pe) (ah o6)) (ad kh (ah aa) (ah aa))) (ad rM (ad ji (ah ab) (ah aa)) (ad jo (ah mW) bx))) (ad si (ad sY (ad i5 (ah oP) (ah qP)) (ad kG (ah nJ) bx)) (ad jw (ad ab (ah aa) (ah nk)) (ad ki (ah qV) bx)))) (ad vt (ad aa (ad vz (ad kI (ah aa) (ah pB)) (ad aa (ah ab) (ah pI))) (ad aa (ad aa (ah nC) (ah aa)) (ad iO (ah qr) bx))) (ad td (ad s6 (ad ng (ah rv) (ah pN)) (ad kC (ah aa) bx)) (ad jS (ad lk (ah w8) (ah qL)) (ad ab (ah rn) bx))))) (ad xq (ad sw (ad sU (ad r9 (ad aa (ah pq) (ah oz)) (ad jm (ah oK) (ah aa))) (ad jE (ad aa (ah nc) (ah nV)) (ad kL (ah ab) bx))) (ad ab (ad ab (ad ow (ah ox) (ah qo)) (ad aa (ah oj) bx)) (ad ab (ad jR (ah aa) (ah qI)) (ad jQ (ah aa) bx)))) (ad uV (ad aa (ad aa (ad ab (ah aa) (ah rf)) (ad aa (ah qi) bx)) (ad aa (ad i8 (ah nZ) (ah aa)) (ad aa (ah qw) bx))) (ad sI (ad fH (ad iN (ah wt) (ah aa)) (ad ab (ah aa) bx)) (ad kP (ad lg (ah aa) (ah pg)) (ad oR (ah oh) bx)))))) (ad b6 (ad C8 (ad aa (ad sn (ad c0 (ad ju (ah qH) (ah nY)) (ad jy (ah nU) (ah mO))) (ad rL (ad ab (ah aa) (ah qM)) (ad aa (ah mU) bx))) (ad rz (ad sH (ad aa (ah pO) (ah mV)) (ad j4 (ah nE) bx)) (ad li (ad aa (ah qm) (ah ab)) (ad kM (ah ab) bx)))) (ad u5 (ad rD (ad sX (ad mQ (ah vM) (ah nW)) (ad jx (ah aa) bx)) (ad jO (ad kZ (ah o9) (ah n8)) (ad ab (ah aa) bx))) (ad rR (ad sD (ad aa (ah vl) (ah ab)) (ad jd (ah mN) bx)) (ad lj (ad jX (ah ab) (ah pc)) (ad aa (ah qf) bx))))) (ad iL (ad aa (ad ab (ad we (ad jJ (ah c0) (ah pr)) (ad ab (ah oV) (ah nR))) (ad ab (ad jM (ah aa) (ah ab)) (ad jC (ah aa) bx))) (ad aa (ad aa (ad ou (ah wV) (ah qT)) (ad kY (ah ab) bx)) (ad aa (ad aa (ah ni) (ah aa)) (ad qp (ah ql) bx)))) (ad ab (ad tw (ad s5 (ad aa (ah mP) (ah qY)) (ad kO (ah aa) bx)) (ad iW (ad jT (ah ab) (ah qs)) (ad j3 (ah pJ) bx))) (ad rK (ad rS (ad jh (ah wG) (ah pj)) (ad aa (ah rt) bx)) (ad kT (ad aa (ah oH) (ah ab)) (ad aa (ah ro) bx)))))))
noncomputable def Hz:Program → Params → Heap:=FB [b0,b1,b2,AX,b4,b5,b6,b7,b8,b9,C8,aa,xq,iE,iL,aa,ab,tr,aa,sp,sw,sz,aa,c0,vt,aa,u5,vf,uV,aa,ab,tn,aa,tt,sn,sd,sU,aa,ab,sq,aa,rU,rD,rG,aa,ab,tw,aa,si,s7,rz,aa,ab,sT,aa,rV,td,sN,rR,sB,sI,rE,rK,wA,wQ,rP,c0,w3,r9,aa,we,wg,vz,aa,sX,fH,aa,ab,s5,aa,sY,sQ,sH,aa,ab,sv,aa,rA,s6,rC,sD,rX,fH,se,rS,ab,rM,aa,rL,su,jE,aa,ab,iU,aa,jL,jO,lh,aa,ab,iW,aa,jw,kj,li,aa,ab,kX,aa,jW,jS,j5,lj,jF,kP,qz,kT,lu,qC,ja,ju,qS,aa,nh,jJ,kU,kI,pF,mQ,aa,ab,jn,aa,lf,i5,kR,aa,c0,ow,aa,ou,rg,ng,ln,aa,ab,iN,aa,jh,jl,ji,aa,ab,jD,aa,iX,jM,jZ,aa,ab,kZ,aa,i8,kD,jT,aa,ab,jA,aa,jf,jR,j8,aa,ab,lk,aa,jX,jp,lg,kS,aa,ab,kh,aa,jy,jG,jm,aa,ab,jt,aa,kW,jx,jK,aa,ab,kO,aa,kG,jj,j4,jB,aa,ab,kY,aa,kC,jP,jd,aa,ab,ko,aa,ke,jo,jI,aa,ab,kL,aa,jC,j6,iO,aa,ab,iT,aa,iY,j3,lc,ki,jc,kM,km,jQ,nK,qp,aa,ab,mX,aa,pa,oR,rj,aa,ab,pe,aa,qH,pV,pq,mS,c0,wj,aa,wD,vM,xo,aa,ab,mP,aa,oP,rr,pO,aa,ox,nS,wV,v8,rv,c0,vl,aa,wt,vr,wG,aa,ab,qd,aa,nA,nc,oX,aa,ab,nC,aa,o9,p9,nZ,aa,ab,pY,aa,rp,qm,qQ,aa,qA,ni,vR,w8,aa,ab,oQ,aa,n0,oH,n9,aa,ab,nU,aa,oK,nM,oV,aa,ab,ny,aa,pG,qi,q0,aa,ab,nJ,aa,nE,qh,oj,aa,ab,mZ,aa,pz,mN,nX,aa,ab,rt,aa,mW,p7,mU,aa,ab,pS,aa,qG,qr,qc,aa,ab,qw,aa,pJ,qN,qV,aa,ab,qU,aa,qZ,ql,rd,rn,qJ,qf,qe,oh,qt,ro,pR,o6,n5,nY,qa,oz,oq,pr,oa,pB,pH,nW,o7,rf,m7,qY,qb,qP,pb,mV,qj,qo,pt,qT,qX,pN,aa,ab,pw,aa,nv,pj,nQ,aa,ab,qM,oU,nV,aa,ab,oO,aa,pA,n8,ph,aa,ab,qs,oy,nk,aa,ab,pQ,qI,qu,aa,ab,qL,aa,pc,p8,pg,aa,ab,oA,aa,qF,mO,pn,aa,ab,nR,n6,pI]
noncomputable def K:Params → Frag:=fun P=>(nat_lit 0,boot_o_0 P) :: (nat_lit 1,boot_o_1 P) :: (nat_lit 2,boot_o_2 P) :: (nat_lit 3,AX pW P) :: (nat_lit 4,boot_o_4 P) :: (nat_lit 5,boot_o_5 P) :: (nat_lit 6,boot_o_6 P) :: (nat_lit 7,boot_o_7 P) :: (nat_lit 8,boot_o_8 P) :: (nat_lit 9,boot_o_9 P) :: (nat_lit 10,boot_o_10 P) :: (nat_lit 11,aa pW P) :: (nat_lit 12,xq pW P) :: (nat_lit 13,iE pW P) :: (nat_lit 14,iL pW P) :: (nat_lit 15,aa pW P) :: (nat_lit 16,ab pW P) :: (nat_lit 17,tr pW P) :: (nat_lit 18,aa pW P) :: (nat_lit 19,sp pW P) :: (nat_lit 20,sw pW P) :: (nat_lit 21,sz pW P) :: (nat_lit 29,aa pW P) :: (nat_lit 30,ab pW P) :: (nat_lit 31,tn pW P) :: (nat_lit 32,aa pW P) :: (nat_lit 33,tt pW P) :: (nat_lit 34,sn pW P) :: (nat_lit 35,sd pW P) :: (nat_lit 36,sU pW P) :: (nat_lit 37,aa pW P) :: (nat_lit 38,ab pW P) :: (nat_lit 39,sq pW P) :: (nat_lit 40,aa pW P) :: (nat_lit 41,rU pW P) :: (nat_lit 42,rD pW P) :: (nat_lit 43,rG pW P) :: (nat_lit 44,aa pW P) :: (nat_lit 45,ab pW P) :: (nat_lit 46,tw pW P) :: (nat_lit 47,aa pW P) :: (nat_lit 48,si pW P) :: (nat_lit 49,s7 pW P) :: (nat_lit 50,rz pW P) :: (nat_lit 51,aa pW P) :: (nat_lit 52,ab pW P) :: (nat_lit 53,sT pW P) :: (nat_lit 54,aa pW P) :: (nat_lit 55,rV pW P) :: (nat_lit 56,td pW P) :: (nat_lit 57,sN pW P) :: (nat_lit 58,rR pW P) :: (nat_lit 59,sB pW P) :: (nat_lit 60,sI pW P) :: (nat_lit 61,rE pW P) :: (nat_lit 62,rK pW P) :: (nat_lit 65,rP pW P) :: (nat_lit 68,r9 pW P) :: (nat_lit 73,aa pW P) :: (nat_lit 74,sX pW P) :: (nat_lit 75,fH pW P) :: (nat_lit 76,aa pW P) :: (nat_lit 77,ab pW P) :: (nat_lit 78,s5 pW P) :: (nat_lit 79,aa pW P) :: (nat_lit 80,sY pW P) :: (nat_lit 81,sQ pW P) :: (nat_lit 82,sH pW P) :: (nat_lit 83,aa pW P) :: (nat_lit 84,ab pW P) :: (nat_lit 85,sv pW P) :: (nat_lit 86,aa pW P) :: (nat_lit 87,rA pW P) :: (nat_lit 88,s6 pW P) :: (nat_lit 89,rC pW P) :: (nat_lit 90,sD pW P) :: (nat_lit 91,rX pW P) :: (nat_lit 92,fH pW P) :: (nat_lit 93,se pW P) :: (nat_lit 94,rS pW P) :: (nat_lit 95,ab pW P) :: (nat_lit 96,rM pW P) :: (nat_lit 97,aa pW P) :: (nat_lit 98,rL pW P) :: (nat_lit 99,su pW P) :: (nat_lit 100,jE pW P) :: (nat_lit 101,aa pW P) :: (nat_lit 102,ab pW P) :: (nat_lit 103,iU pW P) :: (nat_lit 104,aa pW P) :: (nat_lit 105,jL pW P) :: (nat_lit 106,jO pW P) :: (nat_lit 107,lh pW P) :: (nat_lit 108,aa pW P) :: (nat_lit 109,ab pW P) :: (nat_lit 110,iW pW P) :: (nat_lit 111,aa pW P) :: (nat_lit 112,jw pW P) :: (nat_lit 113,kj pW P) :: (nat_lit 114,li pW P) :: (nat_lit 115,aa pW P) :: (nat_lit 116,ab pW P) :: (nat_lit 117,kX pW P) :: (nat_lit 118,aa pW P) :: (nat_lit 119,jW pW P) :: (nat_lit 120,jS pW P) :: (nat_lit 121,j5 pW P) :: (nat_lit 122,lj pW P) :: (nat_lit 123,jF pW P) :: (nat_lit 124,kP pW P) :: (nat_lit 126,kT pW P) :: (nat_lit 127,lu pW P) :: (nat_lit 129,ja pW P) :: (nat_lit 130,ju pW P) :: (nat_lit 132,aa pW P) :: (nat_lit 134,jJ pW P) :: (nat_lit 135,kU pW P) :: (nat_lit 136,kI pW P) :: (nat_lit 139,aa pW P) :: (nat_lit 140,ab pW P) :: (nat_lit 141,jn pW P) :: (nat_lit 142,aa pW P) :: (nat_lit 143,lf pW P) :: (nat_lit 144,i5 pW P) :: (nat_lit 145,kR pW P) :: (nat_lit 153,ln pW P) :: (nat_lit 154,aa pW P) :: (nat_lit 155,ab pW P) :: (nat_lit 156,iN pW P) :: (nat_lit 157,aa pW P) :: (nat_lit 158,jh pW P) :: (nat_lit 159,jl pW P) :: (nat_lit 160,ji pW P) :: (nat_lit 161,aa pW P) :: (nat_lit 162,ab pW P) :: (nat_lit 163,jD pW P) :: (nat_lit 164,aa pW P) :: (nat_lit 165,iX pW P) :: (nat_lit 166,jM pW P) :: (nat_lit 167,jZ pW P) :: (nat_lit 168,aa pW P) :: (nat_lit 169,ab pW P) :: (nat_lit 170,kZ pW P) :: (nat_lit 171,aa pW P) :: (nat_lit 172,i8 pW P) :: (nat_lit 173,kD pW P) :: (nat_lit 174,jT pW P) :: (nat_lit 175,aa pW P) :: (nat_lit 176,ab pW P) :: (nat_lit 177,jA pW P) :: (nat_lit 178,aa pW P) :: (nat_lit 179,jf pW P) :: (nat_lit 180,jR pW P) :: (nat_lit 181,j8 pW P) :: (nat_lit 182,aa pW P) :: (nat_lit 183,ab pW P) :: (nat_lit 184,lk pW P) :: (nat_lit 185,aa pW P) :: (nat_lit 186,jX pW P) :: (nat_lit 187,jp pW P) :: (nat_lit 188,lg pW P) :: (nat_lit 189,kS pW P) :: (nat_lit 190,aa pW P) :: (nat_lit 191,ab pW P) :: (nat_lit 192,kh pW P) :: (nat_lit 193,aa pW P) :: (nat_lit 194,jy pW P) :: (nat_lit 195,jG pW P) :: (nat_lit 196,jm pW P) :: (nat_lit 197,aa pW P) :: (nat_lit 198,ab pW P) :: (nat_lit 199,jt pW P) :: (nat_lit 200,aa pW P) :: (nat_lit 201,kW pW P) :: (nat_lit 202,jx pW P) :: (nat_lit 203,jK pW P) :: (nat_lit 204,aa pW P) :: (nat_lit 205,ab pW P) :: (nat_lit 206,kO pW P) :: (nat_lit 207,aa pW P) :: (nat_lit 208,kG pW P) :: (nat_lit 209,jj pW P) :: (nat_lit 210,j4 pW P) :: (nat_lit 211,jB pW P) :: (nat_lit 212,aa pW P) :: (nat_lit 213,ab pW P) :: (nat_lit 214,kY pW P) :: (nat_lit 215,aa pW P) :: (nat_lit 216,kC pW P) :: (nat_lit 217,jP pW P) :: (nat_lit 218,jd pW P) :: (nat_lit 219,aa pW P) :: (nat_lit 220,ab pW P) :: (nat_lit 221,ko pW P) :: (nat_lit 222,aa pW P) :: (nat_lit 223,ke pW P) :: (nat_lit 224,jo pW P) :: (nat_lit 225,jI pW P) :: (nat_lit 226,aa pW P) :: (nat_lit 227,ab pW P) :: (nat_lit 228,kL pW P) :: (nat_lit 229,aa pW P) :: (nat_lit 230,jC pW P) :: (nat_lit 231,j6 pW P) :: (nat_lit 232,iO pW P) :: (nat_lit 233,aa pW P) :: (nat_lit 234,ab pW P) :: (nat_lit 235,iT pW P) :: (nat_lit 236,aa pW P) :: (nat_lit 237,iY pW P) :: (nat_lit 238,j3 pW P) :: (nat_lit 239,lc pW P) :: (nat_lit 240,ki pW P) :: (nat_lit 241,jc pW P) :: (nat_lit 242,kM pW P) :: (nat_lit 243,km pW P) :: (nat_lit 244,jQ pW P) :: (nat_lit 247,aa pW P) :: (nat_lit 248,ab pW P) :: (nat_lit 249,mX pW P) :: (nat_lit 250,aa pW P) :: (nat_lit 251,pa pW P) :: (nat_lit 252,oR pW P) :: (nat_lit 253,rj pW P) :: (nat_lit 254,aa pW P) :: (nat_lit 255,ab pW P) :: (nat_lit 256,pe pW P) :: (nat_lit 257,aa pW P) :: (nat_lit 258,qH pW P) :: (nat_lit 259,pV pW P) :: (nat_lit 260,pq pW P) :: (nat_lit 261,mS pW P) :: (nat_lit 268,aa pW P) :: (nat_lit 269,ab pW P) :: (nat_lit 270,mP pW P) :: (nat_lit 271,aa pW P) :: (nat_lit 272,oP pW P) :: (nat_lit 273,rr pW P) :: (nat_lit 274,pO pW P) :: (nat_lit 275,aa pW P) :: (nat_lit 276,ox pW P) :: (nat_lit 277,nS pW P) :: (nat_lit 280,rv pW P) :: (nat_lit 287,aa pW P) :: (nat_lit 288,ab pW P) :: (nat_lit 289,qd pW P) :: (nat_lit 290,aa pW P) :: (nat_lit 291,nA pW P) :: (nat_lit 292,nc pW P) :: (nat_lit 293,oX pW P) :: (nat_lit 294,aa pW P) :: (nat_lit 295,ab pW P) :: (nat_lit 296,nC pW P) :: (nat_lit 297,aa pW P) :: (nat_lit 298,o9 pW P) :: (nat_lit 299,p9 pW P) :: (nat_lit 300,nZ pW P) :: (nat_lit 301,aa pW P) :: (nat_lit 302,ab pW P) :: (nat_lit 303,pY pW P) :: (nat_lit 304,aa pW P) :: (nat_lit 305,rp pW P) :: (nat_lit 306,qm pW P) :: (nat_lit 307,qQ pW P) :: (nat_lit 308,aa pW P) :: (nat_lit 309,qA pW P) :: (nat_lit 310,ni pW P) :: (nat_lit 313,aa pW P) :: (nat_lit 314,ab pW P) :: (nat_lit 315,oQ pW P) :: (nat_lit 316,aa pW P) :: (nat_lit 317,n0 pW P) :: (nat_lit 318,oH pW P) :: (nat_lit 319,n9 pW P) :: (nat_lit 320,aa pW P) :: (nat_lit 321,ab pW P) :: (nat_lit 322,nU pW P) :: (nat_lit 323,aa pW P) :: (nat_lit 324,oK pW P) :: (nat_lit 325,nM pW P) :: (nat_lit 326,oV pW P) :: (nat_lit 327,aa pW P) :: (nat_lit 328,ab pW P) :: (nat_lit 329,ny pW P) :: (nat_lit 330,aa pW P) :: (nat_lit 331,pG pW P) :: (nat_lit 332,qi pW P) :: (nat_lit 333,q0 pW P) :: (nat_lit 334,aa pW P) :: (nat_lit 335,ab pW P) :: (nat_lit 336,nJ pW P) :: (nat_lit 337,aa pW P) :: (nat_lit 338,nE pW P) :: (nat_lit 339,qh pW P) :: (nat_lit 340,oj pW P) :: (nat_lit 341,aa pW P) :: (nat_lit 342,ab pW P) :: (nat_lit 343,mZ pW P) :: (nat_lit 344,aa pW P) :: (nat_lit 345,pz pW P) :: (nat_lit 346,mN pW P) :: (nat_lit 347,nX pW P) :: (nat_lit 348,aa pW P) :: (nat_lit 349,ab pW P) :: (nat_lit 350,rt pW P) :: (nat_lit 351,aa pW P) :: (nat_lit 352,mW pW P) :: (nat_lit 353,p7 pW P) :: (nat_lit 354,mU pW P) :: (nat_lit 355,aa pW P) :: (nat_lit 356,ab pW P) :: (nat_lit 357,pS pW P) :: (nat_lit 358,aa pW P) :: (nat_lit 359,qG pW P) :: (nat_lit 360,qr pW P) :: (nat_lit 361,qc pW P) :: (nat_lit 362,aa pW P) :: (nat_lit 363,ab pW P) :: (nat_lit 364,qw pW P) :: (nat_lit 365,aa pW P) :: (nat_lit 366,pJ pW P) :: (nat_lit 367,qN pW P) :: (nat_lit 368,qV pW P) :: (nat_lit 369,aa pW P) :: (nat_lit 370,ab pW P) :: (nat_lit 371,qU pW P) :: (nat_lit 372,aa pW P) :: (nat_lit 373,qZ pW P) :: (nat_lit 374,ql pW P) :: (nat_lit 375,rd pW P) :: (nat_lit 376,rn pW P) :: (nat_lit 377,qJ pW P) :: (nat_lit 378,qf pW P) :: (nat_lit 379,qe pW P) :: (nat_lit 380,oh pW P) :: (nat_lit 381,qt pW P) :: (nat_lit 382,ro pW P) :: (nat_lit 383,pR pW P) :: (nat_lit 384,o6 pW P) :: (nat_lit 385,n5 pW P) :: (nat_lit 386,nY pW P) :: (nat_lit 387,qa pW P) :: (nat_lit 388,oz pW P) :: (nat_lit 389,oq pW P) :: (nat_lit 390,pr pW P) :: (nat_lit 391,oa pW P) :: (nat_lit 392,pB pW P) :: (nat_lit 393,pH pW P) :: (nat_lit 394,nW pW P) :: (nat_lit 395,o7 pW P) :: (nat_lit 396,rf pW P) :: (nat_lit 397,m7 pW P) :: (nat_lit 398,qY pW P) :: (nat_lit 399,qb pW P) :: (nat_lit 400,qP pW P) :: (nat_lit 401,pb pW P) :: (nat_lit 402,mV pW P) :: (nat_lit 403,qj pW P) :: (nat_lit 404,qo pW P) :: (nat_lit 405,pt pW P) :: (nat_lit 406,qT pW P) :: (nat_lit 407,qX pW P) :: (nat_lit 408,pN pW P) :: (nat_lit 409,aa pW P) :: (nat_lit 410,ab pW P) :: (nat_lit 411,pw pW P) :: (nat_lit 412,aa pW P) :: (nat_lit 413,nv pW P) :: (nat_lit 414,pj pW P) :: (nat_lit 415,nQ pW P) :: (nat_lit 416,aa pW P) :: (nat_lit 417,ab pW P) :: (nat_lit 418,qM pW P) :: (nat_lit 419,oU pW P) :: (nat_lit 420,nV pW P) :: (nat_lit 421,aa pW P) :: (nat_lit 422,ab pW P) :: (nat_lit 423,oO pW P) :: (nat_lit 424,aa pW P) :: (nat_lit 425,pA pW P) :: (nat_lit 426,n8 pW P) :: (nat_lit 427,ph pW P) :: (nat_lit 428,aa pW P) :: (nat_lit 429,ab pW P) :: (nat_lit 430,qs pW P) :: (nat_lit 431,oy pW P) :: (nat_lit 432,nk pW P) :: (nat_lit 433,aa pW P) :: (nat_lit 434,ab pW P) :: (nat_lit 435,pQ pW P) :: (nat_lit 436,qI pW P) :: (nat_lit 437,qu pW P) :: (nat_lit 438,aa pW P) :: (nat_lit 439,ab pW P) :: (nat_lit 440,qL pW P) :: (nat_lit 441,aa pW P) :: (nat_lit 442,pc pW P) :: (nat_lit 443,p8 pW P) :: (nat_lit 444,pg pW P) :: (nat_lit 445,aa pW P) :: (nat_lit 446,ab pW P) :: (nat_lit 447,oA pW P) :: (nat_lit 448,aa pW P) :: (nat_lit 449,qF pW P) :: (nat_lit 450,mO pW P) :: (nat_lit 451,pn pW P) :: (nat_lit 452,aa pW P) :: (nat_lit 453,ab pW P) :: (nat_lit 454,nR pW P) :: (nat_lit 455,n6 pW P) :: (nat_lit 456,pI pW P) :: []
noncomputable def yy (p:Nat → Bool) (l:List Nat):Bool:=@List.rec Nat (fun _=>Bool) false (fun a _ ih=>@Bool.rec (fun _=>Bool) ih true (p a)) l
theorem zU (p:Nat → Bool) (l:List Nat):yy p l = l.any p:=by
 induction l with
 | nil=>rfl
 | cons a l ih =>
  show @Bool.rec (fun _=>Bool) (yy p l) true (p a) = _
  rw [List.any_cons,ih]
  cases p a <;> rfl
noncomputable def zA (as:Array Nat) (p:Nat → Bool) (start stop:Nat):Bool :=
 @Bool.rec (fun _=>Bool) (as.any p start stop) (@Bool.rec (fun _=>Bool) (as.any p start stop) (yy p as.toList) (Nat.beq stop as.size)) (Nat.beq start 0)
theorem zE:zA = @Array.any Nat:=by
 funext as p start stop
 unfold zA
 cases h:Nat.beq start 0 with
 | false=>rfl
 | true =>
  cases h':Nat.beq stop as.size with
  | false=>rfl
  | true =>
   have e1:=Nat.eq_of_beq_eq_true h
   have e2:=Nat.eq_of_beq_eq_true h'
   subst e1 e2
   show yy p as.toList = _
   rw [zU,Array.any_toList]
noncomputable def Er (F:(Array Nat → (Nat → Bool) → Nat → Nat → Bool) → Builtin) (x:Array Nat → (Nat → Bool) → Nat → Nat → Bool):Builtin:=F x
inductive TEq (a:Builtin):Builtin → Type where
 | mk:TEq a a
theorem TEq.eq {a b:Builtin}:TEq a b → a = b
 | .mk=>rfl
noncomputable def eD:(F:(Array Nat → (Nat → Bool) → Nat → Nat → Bool) → Builtin) × TEq (Er F (@Array.any Nat)) PySem.W.Fast.tw4202317264376624991:=by
 refine' ⟨_,?h⟩
 case h =>
  delta PySem.W.Fast.tw4202317264376624991
  generalize @Array.any Nat = A
  exact TEq.mk
theorem om:eD.1 (@Array.any Nat) = PySem.W.Fast.tw4202317264376624991:=TEq.eq eD.2
noncomputable def Al (id:String):Option Builtin :=
 @Bool.rec (fun _=>Option Builtin) (PySem.W.Fast.tw14364793385576792824 id) (some (eD.1 zA)) (Nat.beq (PySem.W.Fast.tw13482112738370960269 id) (PySem.code "type.__new__"))
theorem wB:treeTable = Al:=by
 funext id
 unfold Al
 rw [← PySem.W.Fast.te13482112738370960269,← PySem.W.Fast.te14364793385576792824]
 cases h:Nat.beq (PySem.code id) (PySem.code "type.__new__") with
 | false=>rfl
 | true =>
  have e:=PySem.code_inj _ _ (Nat.eq_of_beq_eq_true h)
  subst e
  show treeTable "type.__new__" = some (eD.1 zA)
  rw [zE,om,← PySem.W.Fast.te4202317264376624991]
  kernel_rfl!
noncomputable def D2:(l:List Char) ×' (gx (eQ (bE pW 5)) = ⟨(l.map Char.toNat).toArray⟩):=⟨_,PySem.W.Fast.ofString_ofList _⟩
noncomputable def A7 (d:PySem.Str):Stmt → Stmt
 | .ClassDef n b k (.Expr (.Constant (.str _) kk p') p :: rest) dl tp sc ts bi sa pos=>.ClassDef n b k (.Expr (.Constant (.str d) kk p') p :: rest) dl tp sc ts bi sa pos
 | s=>s
noncomputable def Fq (q:Program) (d:PySem.Str):Program:={ q with main:={ q.main with body:=q.main.body.take 5++A7 d (bE q 5) :: q.main.body.drop 6 } }
theorem uT:Fq pW (gx (eQ (bE pW 5))) = pW:=by kernel_rfl!
theorem AQ:Fq pW ⟨(D2.1.map Char.toNat).toArray⟩ = pW:=(congrArg _ D2.2.symm).trans uT
noncomputable def zf (q:Program):Env:={ scope:=q.main.scope,locals:=mainNs,globals:=mainNs,cells:=[],code:=.ref 13,frame:=some 14 }
noncomputable def gH (q:Program):List Stmt:=q.main.body
noncomputable def jq:Pos:=⟨0,0,0,0⟩
noncomputable def DW:Pos:=⟨70,0,461,16⟩
noncomputable def DN:Pos:=⟨727,0,737,94⟩
noncomputable def xP (q:Program):Code:=.body (gH q) (zf q)
noncomputable def ST (T:Program → Params → BT) (n toks:Nat) (q:Program) (w:World) (os:OsState):SharedT:=SharedT.mk (T q w.params) n {} (Array.mk []) {} toks os
theorem CM (w:World) (os:OsState):topGo treeTable pW w 11 (some (.ref 6)) 12 ⟨boot_heap w.params,Array.mk [],boot_drawn,boot_toks,os⟩ (topStub pW) =
  some (⟨Ha pW w.params,Array.mk [],{},187,os⟩,⟨denote treeTable (xP pW),xP pW,jq,[topFrame jq]⟩):=by
 rw [PySem.W.Fast.te15667345088766844465,PySem.W.Fast.te14364793385576792824,PySem.W.Fast.te11892475500146522536]
 kernel_rfl!
theorem zV (w:World) (os:OsState):segRun treeTable pW w 11 (some (.ref 6)) 1 1 ⟨Ha pW w.params,Array.mk [],{},187,os⟩ (blockOf (gH pW) (zf pW) (xP pW) jq [topFrame jq]) =
  some (.next,(ST Ta 15 187 pW w os).abs,xP pW,jq):=by
 rw [PySem.W.Fast.te14374325043358763698,PySem.W.Fast.te14364793385576792824]
 kernel_rfl!
theorem DS (w:World) (os:OsState):segRunT treeTable pW w 11 (some (.ref 6)) 1 2094 (ST Ta 15 187 pW w os) (piecesOf ((gH pW).take 6) (zf pW) (xP pW) jq [topFrame jq]) =
  some (.next,ST Tm 247 583 pW w os,xP pW,DW):=by
 rw [← AQ,PySem.W.Fast.te10110043849684766642,wB]
 kernel_rfl!
theorem DJ (w:World) (os:OsState):segRunT treeTable pW w 11 (some (.ref 6)) 1 1515 (ST Tm 247 583 pW w os) (piecesOf ((gH pW).drop 6) (zf pW) (xP pW) DW [topFrame jq]) =
  some (.next,ST Tf 457 910 pW w os,xP pW,DN):=by
 rw [PySem.W.Fast.te10110043849684766642,PySem.W.Fast.te14364793385576792824]
 kernel_rfl!
theorem Do (w:World) (os:OsState):topRun treeTable pW w 11 (some (.ref 6)) 2 (ST Tf 457 910 pW w os).abs ⟨doneF .next,xP pW,DN,[topFrame jq]⟩ =
  some ⟨Hz pW w.params,Array.mk [],{},910,os⟩:=by
 rw [PySem.W.Fast.te14082659384304107361,PySem.W.Fast.te14364793385576792824]
 kernel_rfl!
theorem BF (q:Program):(gH q).take 6++((gH q).drop 6++[]) = gH q:=by rw [List.append_nil,List.take_append_drop]
theorem C2 (w:World) (os:OsState):topRun treeTable pW w 11 (some (.ref 6)) (12 + (1 + (2094 + (1515 + 2)))) ⟨boot_heap w.params,Array.mk [],boot_drawn,boot_toks,os⟩ (topStub pW) =
  some ⟨Hz pW w.params,Array.mk [],{},910,os⟩:=by
 refine go_top (CM w os) (piece_block (zV w os) ?_)
 have h:=piece_app (segRun_of (DS w os)) (piece_app (rest:=[]) (segRun_of (DJ w os)) (piece_nil (Do w os)))
 rw [BF] at h
 exact h
noncomputable def CP:List Nat:=[0,2,3,4,5,6,8,10,12,13,15,17,19,20,21,22,23,25,26,27,28,29,30,31,32,33,34,35,36,37,38,39,40,41,42,43,44,45,46,48,49,50,51,52,53,54]
noncomputable def am (q:Program):Program:={ q with main:={ q.main with body:=CP.map (bE q) } }
noncomputable def aE:List PySem.Str:=[Str.ofString "_tuplegetter",Str.ofString "Match",Str.ofString "SequenceMatcher",Str.ofString "_filemode_table"]
noncomputable def hF (l:List (Int × Nat)):WData:=.tuple (l.map fun x=>.tuple [.int x.1,.str ⟨Array.mk [x.2]⟩])
noncomputable def Fg:List (PySem.Str × WData):=[(Str.ofString "_filemode_table",.tuple [
 hF [(40960,108),(49152,115),(32768,45),(24576,98),(16384,100),(8192,99),(4096,112)],
 hF [(256,114)],hF [(128,119)],hF [(2112,115),(2048,83),(64,120)],
 hF [(32,114)],hF [(16,119)],hF [(1032,115),(1024,83),(8,120)],
 hF [(4,114)],hF [(2,119)],hF [(513,116),(512,84),(1,120)]])]
noncomputable def xJ:List Addr:=[0,1,2,3,4,5,6,7,8,9,10,11,12,13,14,15,16,17,18,19,20,21,29,30,31,32,33,34,35,36,37,38,39,40,41,42,43,44,45,46,47,48,49,50,51,52,53,54,55,56,57,58,59,60,61,62,65,68,73,74,75,76,77,78,79,80,81,82,83,84,85,86,87,88,89,90,91,92,93,94,95,96,97,98,99,100,101,102,103,104,105,106,107,108,109,110,111,112,113,114,115,116,117,118,119,120,121,122,123,124,126,127,129,130,132,134,135,136,139,140,141,142,143,144,145,153,154,155,156,157,158,159,160,161,162,163,164,165,166,167,168,169,170,171,172,173,174,175,176,177,178,179,180,181,182,183,184,185,186,187,188,189,190,191,192,193,194,195,196,197,198,199,200,201,202,203,204,205,206,207,208,209,210,211,212,213,214,215,216,217,218,219,220,221,222,223,224,225,226,227,228,229,230,231,232,233,234,235,236,237,238,239,240,241,242,243,244,247,248,249,250,251,252,253,254,255,256,257,258,259,260,261,268,269,270,271,272,273,274,275,276,277,280,287,288,289,290,291,292,293,294,295,296,297,298,299,300,301,302,303,304,305,306,307,308,309,310,313,314,315,316,317,318,319,320,321,322,323,324,325,326,327,328,329,330,331,332,333,334,335,336,337,338,339,340,341,342,343,344,345,346,347,348,349,350,351,352,353,354,355,356,357,358,359,360,361,362,363,364,365,366,367,368,369,370,371,372,373,374,375,376,377,378,379,380,381,382,383,384,385,386,387,388,389,390,391,392,393,394,395,396,397,398,399,400,401,402,403,404,405,406,407,408,409,410,411,412,413,414,415,416,417,418,419,420,421,422,423,424,425,426,427,428,429,430,431,432,433,434,435,436,437,438,439,440,441,442,443,444,445,446,447,448,449,450,451,452,453,454,455,456]
theorem dd (P:Params):xJ = (K P).map (·.1):=by kernel_rfl!
noncomputable def EV (q:Program) (s:Shared):Bool:=xlAt (am q) Fg s && recOk (RowW.records rW.row.toRowW) s
theorem Cu (w:World):(fencedOpening treeTable pW w 7340).map (fun s=>(s.heap,s.gens,s.drawn,s.toks)) = some (boot_heap w.params,Array.mk [],boot_drawn,boot_toks) :=
 boot_open (by kernel_rfl!) (by decide) (fun s=>by kernel_rfl!) w
theorem Cr (w:World):((boot_heap w.params).isNs mainGlobals && (Array.mk []:Array GenState).size == 0,(boot_heap w.params).objs.size,(boot_heap w.params).nsMap mainGlobals "__annotations__") = (true,11,some (.ref 6)):=by
 rw [PySem.W.Fast.te8920871248978507458]
 kernel_rfl!
noncomputable def sZ (q:Program) (w:World) (os:OsState):Shared:=⟨Hz q w.params,Array.mk [],{},910,os⟩
theorem BQ (w:World) (os:OsState):(staticsOk (importedModules pW.main.body) (boot_heap w.params) (Hz pW w.params) && namesBound pW (Hz pW w.params) &&
  gensDone (sZ pW w os) && laidKept (boot_heap w.params) (Hz pW w.params)) = true:=by
 rw [PySem.W.Fast.te5923862056798008813]
 kernel_rfl!
theorem A4 (w:World) (os:OsState):openSeen (am pW) aE (importedModules pW.main.body) (EV pW) true (sZ pW w os) = openGood (am pW) aE:=by
 rw [PySem.W.Fast.te4187177175401517315,PySem.W.Fast.te5923862056798008813]
 kernel_rfl!
theorem Bw (w:World) (os:OsState):(kHook K xJ dd).obs (sZ pW w os) = (kHook K xJ dd).val w:=by
 kernel_rfl!
theorem BO:LeftO pW (am pW) aE (EV pW) (kHook K xJ dd).obs (kHook K xJ dd).val 7340:=by
 refine LeftO.of_pieces Cu Cr C2 (by decide) (fun w=>funext fun os=>?_)
 have h1:=BQ w os
 have h2:=A4 w os
 have h3:=Bw w os
 unfold sZ at h1 h2 h3
 exact Prod.ext h1 (Prod.ext h2 h3)
end

set_option maxHeartbeats 8000000
section
theorem gF {k:Look}:∀ (n:Nat) {l:List Stmt},noRoadLSs k (l.take n) = true → noRoadLSs k (l.drop n) = true → noRoadLSs k l = true
 | 0,_,_,h=>h
 | _ + 1,[],h,_=>h
 | n + 1,s :: r,h1,h2=>by
  have h1:(noRoadLS k s && noRoadLSs k (r.take n)) = true:=h1
  have h3:=Bool.and_eq_true_iff.mp h1
  show (noRoadLS k s && noRoadLSs k r) = true
  exact Bool.and_eq_true_iff.mpr ⟨h3.1,gF n h3.2 h2⟩
theorem ws:rW.wellSaid = true:=by
 delta OpenLaw.wellSaid
 repeat' (first | with_reducible refine look_both ?_ ?_ | delta OpenRow.wellSaid | delta OpenRow.partSaid | delta looksOpen)
 all_goals (try (with_reducible refine gF 6 ?_ ?_))
 all_goals (try (with_reducible refine gF 30 ?_ ?_))
 all_goals with_reducible decide +kernel
end
section
inductive Le where
 | v (n:Nat)
 | k (c:Nat)
 | a (x y:Le)
 | m (c:Nat) (x:Le)
 | s (x y:Le)
noncomputable abbrev V0:Le:=.v 0
noncomputable abbrev V1:Le:=.v 1
noncomputable abbrev V2:Le:=.v 2
noncomputable abbrev V3:Le:=.v 3
noncomputable abbrev V4:Le:=.v 4
noncomputable abbrev V5:Le:=.v 5
noncomputable abbrev V6:Le:=.v 6
noncomputable abbrev V7:Le:=.v 7
noncomputable abbrev V8:Le:=.v 8
noncomputable abbrev V9:Le:=.v 9
noncomputable abbrev K0:Le:=.k 0
noncomputable abbrev K1:Le:=.k 1
noncomputable abbrev K2:Le:=.k 2
inductive Lf where
 | l (x y:Le)
 | t (x y:Le)
 | e (x y:Le)
 | nl (x y:Le)
 | nt (x y:Le)
noncomputable def Le.N (r:List Nat):Le → Nat
 | .v n=>r.getD n 0
 | .k c=>c
 | .a x y=>x.N r + y.N r
 | .m c x=>c * x.N r
 | .s x _=>x.N r
noncomputable def Le.I (r:List Int):Le → Int
 | .v n=>r.getD n 0
 | .k c=>(c:Int)
 | .a x y=>x.I r + y.I r
 | .m c x=>(c:Int) * x.I r
 | .s x y=>x.I r - y.I r
noncomputable def Lf.N (r:List Nat):Lf → Prop
 | .l x y=>x.N r ≤ y.N r
 | .t x y=>x.N r < y.N r
 | .e x y=>x.N r = y.N r
 | .nl x y=>¬ x.N r ≤ y.N r
 | .nt x y=>¬ x.N r < y.N r
noncomputable def Lf.I (r:List Int):Lf → Prop
 | .l x y=>x.I r ≤ y.I r
 | .t x y=>x.I r < y.I r
 | .e x y=>x.I r = y.I r
 | .nl x y=>¬ x.I r ≤ y.I r
 | .nt x y=>¬ x.I r < y.I r
noncomputable def fi:List Int → List Int → List Int
 | [],q=>q
 | p,[]=>p
 | x :: p,y :: q=>(x + y) :: fi p q
noncomputable def wE (c:Int):List Int → List Int
 | []=>[]
 | x :: p=>(c * x) :: wE c p
noncomputable def ev:List Int → List Int → Int
 | x :: p,r :: rs=>x * r + ev p rs
 | _,_=>0
noncomputable def zz:Nat → List Int
 | 0=>[1]
 | n + 1=>0 :: zz n
theorem ds (r:List Int):ev [] r = 0:=by cases r <;> rfl
theorem eA (p:List Int):ev p [] = 0:=by cases p <;> rfl
theorem aZ:∀ (p q r:List Int),ev (fi p q) r = ev p r + ev q r
 | [],q,r=>by rw [ds,Int.zero_add];rfl
 | x :: p,[],r=>by rw [ds,Int.add_zero];rfl
 | x :: p,y :: q,[]=>by rw [eA,eA,eA];rfl
 | x :: p,y :: q,z :: r=>by
  show (x + y) * z + ev (fi p q) r = (x * z + ev p r) + (y * z + ev q r)
  rw [aZ p q r,Int.add_mul];omega
theorem bZ (c:Int):∀ (p r:List Int),ev (wE c p) r = c * ev p r
 | [],r=>by rw [ds,Int.mul_zero];exact ds r
 | x :: p,[]=>by rw [eA,eA,Int.mul_zero]
 | x :: p,z :: r=>by
  show (c * x) * z + ev (wE c p) r = c * (x * z + ev p r)
  rw [bZ c p r,Int.mul_add,Int.mul_assoc]
theorem qB:∀ (n:Nat) (r:List Int),ev (zz n) r = r.getD n 0
 | 0,[]=>rfl
 | 0,z :: r=>by show 1 * z + ev [] r = z;rw [ds];omega
 | n + 1,[]=>rfl
 | n + 1,z :: r=>by show 0 * z + ev (zz n) r = r.getD n 0;rw [qB n r];omega
noncomputable def Le.p (int:Bool):Le → List Int
 | .v n=>zz (n + 1)
 | .k c=>[(c:Int)]
 | .a x y=>fi (x.p int) (y.p int)
 | .m c x=>wE (c:Int) (x.p int)
 | .s x y=>match int with
  | true=>fi (x.p int) (wE (-1) (y.p int))
  | false=>x.p int
theorem fb (c:Int) (r:List Int):ev [c] (1 :: r) = c:=by show c * 1 + ev [] r = c;rw [ds];omega
theorem Le.p_I (r:List Int):∀ e:Le,ev (e.p true) (1 :: r) = e.I r
 | .v n=>qB (n + 1) (1 :: r)
 | .k c=>fb _ _
 | .a x y=>by unfold Le.p Le.I;rw [aZ,p_I r x,p_I r y]
 | .m c x=>by unfold Le.p Le.I;rw [bZ,p_I r x]
 | .s x y=>by unfold Le.p Le.I;rw [aZ,bZ,p_I r x,p_I r y];omega
theorem vL (r:List Nat) (n:Nat):(r.map Int.ofNat).getD n 0 = ((r.getD n 0:Nat):Int):=by
 rw [List.getD_eq_getElem?_getD,List.getD_eq_getElem?_getD,List.getElem?_map]
 cases r[n]? <;> rfl
theorem Le.p_N (r:List Nat):∀ e:Le,ev (e.p false) (1 :: r.map Int.ofNat) = (e.N r:Int)
 | .v n=>(qB (n + 1) _).trans (vL r n)
 | .k c=>fb _ _
 | .a x y=>by unfold Le.p Le.N;rw [aZ,p_N r x,p_N r y];rfl
 | .m c x=>by unfold Le.p Le.N;rw [bZ,p_N r x];rfl
 | .s x y=>by unfold Le.p Le.N;exact p_N r x
noncomputable def Lf.p (int:Bool):Lf → List Int
 | .l x y=>fi (y.p int) (wE (-1) (x.p int))
 | .t x y=>fi (fi (y.p int) (wE (-1) (x.p int))) [-1]
 | .e x y=>fi (y.p int) (wE (-1) (x.p int))
 | .nl x y=>fi (fi (x.p int) (wE (-1) (y.p int))) [-1]
 | .nt x y=>fi (x.p int) (wE (-1) (y.p int))
noncomputable def Lf.isE:Lf → Bool
 | .e _ _=>true
 | _=>false
theorem Lf.p_I (r:List Int):∀ f:Lf,f.I r → 0 ≤ ev (f.p true) (1 :: r) ∧ (f.isE = true → ev (f.p true) (1 :: r) = 0)
 | .l x y,h=>by unfold Lf.p;rw [aZ,bZ,Le.p_I,Le.p_I];exact ⟨by have:x.I r ≤ y.I r:=h;omega,fun e=>nomatch e⟩
 | .t x y,h=>by unfold Lf.p;rw [aZ,aZ,bZ,Le.p_I,Le.p_I,fb];exact ⟨by have:x.I r < y.I r:=h;omega,fun e=>nomatch e⟩
 | .e x y,h=>by unfold Lf.p;rw [aZ,bZ,Le.p_I,Le.p_I];have:x.I r = y.I r:=h;exact ⟨by omega,fun _=>by omega⟩
 | .nl x y,h=>by unfold Lf.p;rw [aZ,aZ,bZ,Le.p_I,Le.p_I,fb];exact ⟨by have:¬ x.I r ≤ y.I r:=h;omega,fun e=>nomatch e⟩
 | .nt x y,h=>by unfold Lf.p;rw [aZ,bZ,Le.p_I,Le.p_I];exact ⟨by have:¬ x.I r < y.I r:=h;omega,fun e=>nomatch e⟩
theorem Lf.p_N (r:List Nat):∀ f:Lf,f.N r → 0 ≤ ev (f.p false) (1 :: r.map Int.ofNat) ∧ (f.isE = true → ev (f.p false) (1 :: r.map Int.ofNat) = 0)
 | .l x y,h=>by unfold Lf.p;rw [aZ,bZ,Le.p_N,Le.p_N];exact ⟨by have:x.N r ≤ y.N r:=h;omega,fun e=>nomatch e⟩
 | .t x y,h=>by unfold Lf.p;rw [aZ,aZ,bZ,Le.p_N,Le.p_N,fb];exact ⟨by have:x.N r < y.N r:=h;omega,fun e=>nomatch e⟩
 | .e x y,h=>by unfold Lf.p;rw [aZ,bZ,Le.p_N,Le.p_N];have:x.N r = y.N r:=h;exact ⟨by omega,fun _=>by omega⟩
 | .nl x y,h=>by unfold Lf.p;rw [aZ,aZ,bZ,Le.p_N,Le.p_N,fb];exact ⟨by have:¬ x.N r ≤ y.N r:=h;omega,fun e=>nomatch e⟩
 | .nt x y,h=>by unfold Lf.p;rw [aZ,bZ,Le.p_N,Le.p_N];exact ⟨by have:¬ x.N r < y.N r:=h;omega,fun e=>nomatch e⟩
noncomputable abbrev Lc:=List (Int × Lf)
inductive LN (r:List Nat):Lc → Prop
 | n:LN r []
 | c {c:Int} {f:Lf} {q:Lc}:f.N r → LN r q → LN r ((c,f) :: q)
inductive LI (r:List Int):Lc → Prop
 | n:LI r []
 | c {c:Int} {f:Lf} {q:Lc}:f.I r → LI r q → LI r ((c,f) :: q)
noncomputable def lJ (int:Bool):Lc → List Int
 | []=>[]
 | (c,f) :: q=>fi (wE c (f.p int)) (lJ int q)
noncomputable def Eg:Lc → Bool
 | []=>true
 | (c,f) :: q=>(f.isE || decide (0 ≤ c)) && Eg q
noncomputable def DX (int:Bool) (q:Lc):Bool:=Eg q && match lJ int q with
 | []=>false
 | c :: p=>decide (c < 0) && p.all fun x=>if int then decide (x = 0) else decide (x ≤ 0)
theorem vh {c z:Int} {b:Bool} (h:(b || decide (0 ≤ c)) = true) (h1:0 ≤ z) (h2:b = true → z = 0):0 ≤ c * z:=by
 cases b with
 | true=>rw [h2 rfl,Int.mul_zero];exact Int.le_refl _
 | false=>exact Int.mul_nonneg (by simpa using h) h1
theorem Ar (r:List Nat):∀ {q:Lc},LN r q → Eg q = true → 0 ≤ ev (lJ false q) (1 :: r.map Int.ofNat)
 | _,.n,_=>Int.le_refl _
 | _,.c h hq,ok=>by
  obtain ⟨o1,o2⟩:=Bool.and_eq_true_iff.mp ok
  unfold lJ
  rw [aZ,bZ]
  exact Int.add_nonneg (vh o1 (Lf.p_N r _ h).1 (Lf.p_N r _ h).2) (Ar r hq o2)
theorem AF (r:List Int):∀ {q:Lc},LI r q → Eg q = true → 0 ≤ ev (lJ true q) (1 :: r)
 | _,.n,_=>Int.le_refl _
 | _,.c h hq,ok=>by
  obtain ⟨o1,o2⟩:=Bool.and_eq_true_iff.mp ok
  unfold lJ
  rw [aZ,bZ]
  exact Int.add_nonneg (vh o1 (Lf.p_I r _ h).1 (Lf.p_I r _ h).2) (AF r hq o2)
theorem vn:∀ (p:List Int) (r:List Nat),(∀ x ∈ p,x ≤ 0) → ev p (r.map Int.ofNat) ≤ 0
 | [],r,_=>by rw [ds];exact Int.le_refl _
 | x :: p,[],_=>Int.le_refl _
 | x :: p,z :: r,h=>by
  have h1:=vn p r fun y hy=>h y (.tail _ hy)
  have h2:x * (z:Int) ≤ 0:=Int.mul_nonpos_of_nonpos_of_nonneg (h x (.head _)) (Int.natCast_nonneg z)
  show x * (z:Int) + ev p (r.map Int.ofNat) ≤ 0
  omega
theorem vq:∀ (p r:List Int),(∀ x ∈ p,x = 0) → ev p r = 0
 | [],r,_=>ds r
 | x :: p,[],_=>rfl
 | x :: p,z :: r,h=>by
  show x * z + ev p r = 0
  rw [vq p r fun y hy=>h y (.tail _ hy),h x (.head _),Int.zero_mul];rfl
theorem lN (r:List Nat) (q:Lc) (h:LN r q) (k:DX false q = true:=by exact rfl):False:=by
 obtain ⟨k1,k2⟩:=Bool.and_eq_true_iff.mp k
 have h1:=Ar r h k1
 revert k2 h1
 cases lJ false q with
 | nil=>intro k2;cases k2
 | cons c p =>
  intro k2 h1
  obtain ⟨k3,k4⟩:=Bool.and_eq_true_iff.mp k2
  have h2:=vn p r fun x hx=>of_decide_eq_true (List.all_eq_true.mp k4 x hx)
  have h3:c * 1 + ev p (r.map Int.ofNat) < 0:=by have:=of_decide_eq_true k3;omega
  exact absurd h1 (Int.not_le.mpr h3)
theorem lI (r:List Int) (q:Lc) (h:LI r q) (k:DX true q = true:=by exact rfl):False:=by
 obtain ⟨k1,k2⟩:=Bool.and_eq_true_iff.mp k
 have h1:=AF r h k1
 revert k2 h1
 cases lJ true q with
 | nil=>intro k2;cases k2
 | cons c p =>
  intro k2 h1
  obtain ⟨k3,k4⟩:=Bool.and_eq_true_iff.mp k2
  have h2:=vq p r fun x hx=>of_decide_eq_true (List.all_eq_true.mp k4 x hx)
  have h3:c * 1 + ev p r < 0:=by have:=of_decide_eq_true k3;omega
  exact absurd h1 (Int.not_le.mpr h3)
theorem ae {a b:Nat} (h:b < a → False):a ≤ b:=Nat.not_lt.mp h
theorem aA {a b:Nat} (h:b ≤ a → False):a < b:=Nat.not_le.mp h
theorem aN {a b:Nat} (h:b < a → False) (h':a < b → False):a = b:=Nat.le_antisymm (ae h) (ae h')
theorem ch {a b:Int} (h:b < a → False):a ≤ b:=Int.not_lt.mp h
theorem pu {a b:Int} (h:b ≤ a → False):a < b:=Int.not_le.mp h
theorem CH {a b:Int} (h:b < a → False) (h':a < b → False):a = b:=Int.le_antisymm (ch h) (ch h')
theorem zl {a b:Nat} (h:a ≤ b):(a:Int) ≤ b:=Int.ofNat_le.mpr h
theorem zt {a b:Nat} (h:a < b):(a:Int) < b:=Int.ofNat_lt.mpr h
theorem ze {a b:Nat} (h:a = b):(a:Int) = b:=congrArg Int.ofNat h
theorem zn (a:Nat):(0:Int) ≤ a:=Int.natCast_nonneg a
theorem Gu {A B G:Prop} (h:¬(A ∧ B)) (a:A) (k:¬B → G):G:=k fun b=>h ⟨a,b⟩
theorem Gv {A B G:Prop} (h:¬(A ∧ B)) (b:B) (k:¬A → G):G:=k fun a=>h ⟨a,b⟩
theorem eC {n i:Nat} (h:i < n):n + 1 - (i + 1) < n + 1 - i:=Nat.sub_lt_sub_left (Nat.lt_succ_of_lt h) (Nat.lt_succ_self i)
section
variable {α:Type} {a b:α} {l r:List α}
theorem al (h:a ∈ l):a ∈ b :: l:=List.mem_cons_of_mem _ h
theorem aj (h:a ∈ l):a ∈ l++r:=List.mem_append_left _ h
theorem ac (h:a ∈ r):a ∈ l++r:=List.mem_append_right _ h
theorem ag (h:a ∈ b :: l):a = b ∨ a ∈ l:=List.mem_cons.mp h
theorem aH (h:a ∈ l++r):a ∈ l ∨ a ∈ r:=List.mem_append.mp h
end
end
section
noncomputable def Sp (w:World) (f:Addr) (lv:Nat) (vs:List Value) (led:List (Addr × Obj)) (R:Value → List (Addr × Obj) → Prop):Prop :=
 ∀ (mean:ExcName → Option Value) (mg mb:PySem.Str → Option Value) (dp un:Nat) (gd:Option (List Code)) (cn:PySem.Str) (cs:Scope) (a:Addr) (ccd:Value) (cl:List (PySem.Str × Addr)) (outer:List Env) (A₀:Around) (base h₀:Heap) (L:Addr) (m:PySem.Str → Option Value) (s:Shared) (Q E:Value → Shared → Prop),
  Below A₀ base outer h₀ → Fr h₀ L s.heap m → (K w.params).In h₀ → News h₀ L s.heap led → Top (am pW) (looseW (am pW) aE) mean mg mb h₀ → cs.kind = .function →
  dp + lv < recursionLimit → un + 40 * lv < cLine →
  (∀ v new h' tk',Fr h₀ L h' m → News h₀ L h' (new++led) → R v new → Q v { s with heap:=h',toks:=tk' }) →
  wpAny (model rW.row.prog w) (ktrTop dp un gd cn cs L a ccd cl outer) (call (.ref f) vs) Q E s
theorem Sp.use {w:World} {f:Addr} {lv:Nat} {vs:List Value} {led:List (Addr × Obj)} {R:Value → List (Addr × Obj) → Prop} (C:Sp w f lv vs led R)
  {mean:ExcName → Option Value} {mg mb:PySem.Str → Option Value} {dp un:Nat} {gd:Option (List Code)} {cn:PySem.Str} {cs:Scope} {a:Addr} {ccd:Value} {cl:List (PySem.Str × Addr)} {outer:List Env} {A₀:Around} {base h₀:Heap} {L:Addr} {m:PySem.Str → Option Value} {s:Shared} {Q E:Value → Shared → Prop}
  (B:Below A₀ base outer h₀) (F:Fr h₀ L s.heap m) (X:(K w.params).In h₀) (N:News h₀ L s.heap led) (T:Top (am pW) (looseW (am pW) aE) mean mg mb h₀) (hk:cs.kind = .function)
  (hd:dp + lv < recursionLimit) (hu:un + 40 * lv < cLine)
  (h:∀ v new h' tk',Fr h₀ L h' m → News h₀ L h' (new++led) → R v new → Q v { s with heap:=h',toks:=tk' }) :
  wpAny (model rW.row.prog w) (ktrTop dp un gd cn cs L a ccd cl outer) (call (.ref f) vs) Q E s:=C _ _ _ _ _ _ _ _ _ _ _ _ _ _ _ _ _ _ _ _ B F X N T hk hd hu h
noncomputable def gl (y:PySem.Str) (v:Value) (new:List (Addr × Obj)):Prop:=new = [] ∧ ∃ t,v = .str y t
noncomputable def DE (y:Int) (v:Value) (new:List (Addr × Obj)):Prop:=new = [] ∧ ∃ t,v = .int y t
theorem Sp.useS {w:World} {f:Addr} {lv:Nat} {vs:List Value} {led:List (Addr × Obj)} {y:PySem.Str} (C:Sp w f lv vs led (gl y))
  {mean:ExcName → Option Value} {mg mb:PySem.Str → Option Value} {dp un:Nat} {gd:Option (List Code)} {cn:PySem.Str} {cs:Scope} {a:Addr} {ccd:Value} {cl:List (PySem.Str × Addr)} {outer:List Env} {A₀:Around} {base h₀:Heap} {L:Addr} {m:PySem.Str → Option Value} {s:Shared} {Q E:Value → Shared → Prop}
  (B:Below A₀ base outer h₀) (F:Fr h₀ L s.heap m) (X:(K w.params).In h₀) (N:News h₀ L s.heap led) (T:Top (am pW) (looseW (am pW) aE) mean mg mb h₀) (hk:cs.kind = .function)
  (hd:dp + lv < recursionLimit) (hu:un + 40 * lv < cLine)
  (h:∀ t h' tk',Fr h₀ L h' m → News h₀ L h' led → Q (.str y t) { s with heap:=h',toks:=tk' }) :
  wpAny (model rW.row.prog w) (ktrTop dp un gd cn cs L a ccd cl outer) (call (.ref f) vs) Q E s:=C.use B F X N T hk hd hu (by rintro _ _ h' tk' F' N' ⟨rfl,t,rfl⟩;exact h t h' tk' F' N')
noncomputable def kH {α:Type} (V:α → Value) (W:α → List (Addr × Obj)) (P:α → Prop) (v:Value) (new:List (Addr × Obj)):Prop:=∃ x,v = V x ∧ new = W x ∧ P x
theorem Sp.useE {α:Type} {V:α → Value} {W:α → List (Addr × Obj)} {P:α → Prop} {w:World} {f:Addr} {lv:Nat} {vs:List Value} {led:List (Addr × Obj)} (C:Sp w f lv vs led (kH V W P))
  {mean:ExcName → Option Value} {mg mb:PySem.Str → Option Value} {dp un:Nat} {gd:Option (List Code)} {cn:PySem.Str} {cs:Scope} {a:Addr} {ccd:Value} {cl:List (PySem.Str × Addr)} {outer:List Env} {A₀:Around} {base h₀:Heap} {L:Addr} {m:PySem.Str → Option Value} {s:Shared} {Q E:Value → Shared → Prop}
  (B:Below A₀ base outer h₀) (F:Fr h₀ L s.heap m) (X:(K w.params).In h₀) (N:News h₀ L s.heap led) (T:Top (am pW) (looseW (am pW) aE) mean mg mb h₀) (hk:cs.kind = .function)
  (hd:dp + lv < recursionLimit) (hu:un + 40 * lv < cLine)
  (h:∀ x h' tk',Fr h₀ L h' m → News h₀ L h' (W x++led) → P x → Q (V x) { s with heap:=h',toks:=tk' }) :
  wpAny (model rW.row.prog w) (ktrTop dp un gd cn cs L a ccd cl outer) (call (.ref f) vs) Q E s:=C.use B F X N T hk hd hu (by rintro _ _ h' tk' F' N' ⟨x,rfl,rfl,hP⟩;exact h x h' tk' F' N' hP)
noncomputable abbrev bo (vs:List Value):Obj:={ cls:=.type "tuple",data:=.seq vs.toArray }
theorem BI {prog:Program} {w:World} {A:Around} {E:Value → Shared → Prop} {s:Shared} {x:PySem.Str} {t:Tok} {Q:Bool → Shared → Prop} (hl:x.length ≤ 16777216)
  (h1:x.length ≠ 0 → ∀ k,Q true { s with toks:=k }) (h2:x.length = 0 → ∀ k,Q false { s with toks:=k }):wpAny (model prog w) A (PySem.truthy (.str x t)) Q E s:=by
 by_cases h:x.length = 0
 ·exact KXt.truthy (b:=false) (by simp [h]) hl (h2 h)
 ·exact KXt.truthy (b:=true) (by simp [h]) hl (h1 h)
theorem B5 {M:Model} {A:Around} {env:Env} {body:List Stmt} {Q:Flow → Shared → Prop} {E:Value → Shared → Prop} {s:Shared}
  (h:let v:=env;let B:=A.deeper v;wpAny M B (execs body v) Q E s):wpAny M (A.deeper env) (execs body env) Q E s:=h
section
variable {prog:Program} {w:World} {A A₀:Around} {E:Value → Shared → Prop} {s:Shared} {K:Frag} {C L:Addr} {h₀ base:Heap} {m mg mb:PySem.Str → Option Value} {news:List (Addr × Obj)} {p:Program} {loose:List PySem.Str} {mean:ExcName → Option Value} {Q:Value → Shared → Prop}
theorem dQ {env:Env} {outer:List Env} {R:Result → Shared → Prop} {name qual:PySem.Str} {params:Arguments} {body:List Stmt} {scope:Scope} {dV kV doc pm cdv ct oc:Value} {an od:Option Addr} {osl:Array (Option Value)} {f:Addr} {args:Args} (binds:List (PySem.Str × Value))
  (B:Below A₀ base outer h₀) (F:Fr h₀ L s.heap m) (X₀:K.In h₀) (N:News h₀ L s.heap news) (T:Top p loose mean mg mb h₀) (hA:A.frames = some (env :: outer)) (hf:env.frame = some L) (hke:env.scope.kind = .function)
  (ho:K.lookup f = some ⟨oc,od,.func (fnOf name qual params body scope dV kV doc pm an cdv ct),osl⟩) (hcd:codeIn K cdv qual = true) (hroom:A.depth < recursionLimit)
  (hbind:BindsTo s (fnOf name qual params body scope dV kV doc pm an cdv ct) args binds) (hloc:∀ y ∈ binds,scope.names.lookup y.1 = some .local)
  (h:∀ g L' h₁ tk,Fr h₀ L g m → Fr g L' h₁ (fun y=>binds.reverse.lookup y) → News g L' h₁ news → Below A base (env :: outer) g → K.In g → Top p loose mean mg mb g →
   wpAny (model prog w) (A.deeper (envOf qual scope L' f cdv)) (execs body (envOf qual scope L' f cdv))
    (fun fl s'=>LeaveK h₀ L m g R (match fl with | .ret v=>v | _=>.none) s')
    (fun e s'=>wpAny (model prog w) (A.deeper (envOf qual scope L' f cdv)) (leaving (envOf qual scope L' f cdv) e) (fun _ s''=>R (.error e) s'') (fun e' s''=>R (.error e') s'') s')
    { s with heap:=h₁,toks:=tk })
  (hco:scope.isCoroutine = false) (hgen:scope.isGenerator = false) (hk:scope.kind = .function)
  (hcell:∀ x ∈ scope.names,x.2 ≠ .cell):codeAny (model prog w) A (.call (.ref f) args) R s :=
 code_def B F X₀ N T hA hf hke ho hcd hroom hbind hloc (fun g L' h₁ a b c d e f=>h g L' h₁ _ a b c d e f) hco hgen hk hcell
end
end
section
structure FI (p:Prop):Prop where
 go ::
 out:p
section
variable {prog:Program} {w:World} {A:Around} {E:Value → Shared → Prop} {s:Shared} {env:Env} {h₀:Heap} {x:PySem.Str} {body:List Stmt} {Q:Flow → Shared → Prop}
end
theorem Ek {l:List (PySem.Str × Nat)} {y:PySem.Str} {t:Nat}:(strValues l).toArray.push (.str y t) = (strValues (l++[(y,t)])).toArray:=by
 simp [strValues]
theorem bM {lv:List (PySem.Str × Nat)} {i:Nat} {v:Value} (h:(strValues lv)[i]? = some v):∃ y t,v = .str y t ∧ (lv.map (·.1))[i]? = some y ∧ y ∈ lv.map (·.1):=by
 unfold strValues at h
 rw [List.getElem?_map] at h
 cases e:lv[i]? with
 | none=>rw [e] at h;cases h
 | some p =>
  rw [e] at h
  refine ⟨p.1,p.2,(Option.some.inj h).symm,?_,List.mem_map.mpr ⟨p,List.mem_of_getElem? e,rfl⟩⟩
  rw [List.getElem?_map,e];rfl
theorem wZ {d:Addr}:∀ {l:List (Addr × Obj)},AllLt d l → ∀ p ∈ l,p.1 ≠ d
 | [],_,_,hp=>nomatch hp
 | q :: r,h,p,hp=>by
  rcases ag hp with rfl | hp
  ·exact Nat.ne_of_lt h.1
  ·exact wZ h.2 p hp
theorem jr {lv:List (PySem.Str × Nat)} {y:PySem.Str} {t:Nat} (e:lv.getLast? = some (y,t)):strValues lv = strValues lv.dropLast++[.str y t]:=by
 have h:lv = lv.dropLast++[(y,t)]:=by
  cases lv with
  | nil=>cases e
  | cons a r =>
   have:=List.dropLast_concat_getLast (l:=a :: r) (by simp)
   rw [List.getLast?_eq_some_getLast (by simp)] at e
   rw [Option.some.inj e] at this
   exact this.symm
 have h2:=congrArg strValues h
 rw [h2];unfold strValues;rw [List.map_append];rfl
theorem gu:∀ (p:List Value) (y:Value),kl_last (p++[y]) = some (p,y)
 | [],y=>rfl
 | x :: r,y=>by
  show (match kl_last (r++[y]) with | some (p,y)=>some (x :: p,y) | none=>some ([],x)) = _
  rw [gu r y]
theorem An {sep:PySem.Str} {B:Nat}:∀ {l:List PySem.Str},(∀ y ∈ l,y.length ≤ B) → (PySem.Str.join sep l).length ≤ l.length * (B + sep.length)
 | [],_=>Nat.zero_le _
 | [x],h=>by
  show x.length ≤ _
  have:=h x (List.mem_cons_self)
  simp only [List.length_cons,List.length_nil];omega
 | x :: y :: r,h=>by
  have h1:=h x (List.mem_cons_self)
  have h2:=An (sep:=sep) (l:=y :: r) fun z hz=>h z (al hz)
  show (x++sep++PySem.Str.join sep (y :: r)).length ≤ _
  rw [PySem.Str.length_append,PySem.Str.length_append,List.length_cons,Nat.succ_mul]
  exact ae fun h9=>lN [_,_,_,_,_] [(1,.t (.a V0 (.a V1 V2)) (.a (.a V3 V2) V4)),(1,.l V3 V1),(1,.l V4 V0)] (.c h9 (.c h1 (.c h2 .n)))
theorem gw (sep:PySem.Str) (l:List PySem.Str):Txt.join sep l = PySem.Str.join sep l:=StrLaws.glued_eq_join sep l
theorem Ax {sep:PySem.Str} {B:Nat} {l:List PySem.Str} (h:∀ y ∈ l,y.length ≤ B):(Txt.join sep l).length ≤ l.length * (B + sep.length):=by
 rw [gw];exact An h
section
variable {prog:Program} {w:World} {A:Around} {E:Value → Shared → Prop} {s:Shared} {h₀:Heap} {L D:Addr} {m:PySem.Str → Option Value} {news news':List (Addr × Obj)} {lv:List (PySem.Str × Nat)} {n:Nat}
theorem jg {lv:List (PySem.Str × Nat)} (hne:(strValues lv).isEmpty = false):∃ y t,lv.getLast? = some (y,t):=by
 cases lv with
 | nil=>cases hne
 | cons a r=>exact ⟨_,_,List.getLast?_eq_some_getLast (by simp)⟩
theorem zT {vs:List Value} {Q:Bool → Shared → Prop} (N:News h₀ L s.heap news) (hd:(D,listOf vs.toArray n) ∈ news) (hz:vs.length ≤ 100000)
  (h1:vs.isEmpty = false → ∀ k,Q true { s with toks:=k }) (h2:vs.isEmpty = true → ∀ k,Q false { s with toks:=k }):wpAny (model prog w) A (truthy (.ref D)) Q E s:=by
 refine wpAny_truthy_list (items:=vs.toArray) (News.isList N hd) (by rw [List.size_toArray];exact pu fun h9=>lI [_] [(1,.l (.k 9223372036854775808) V0),(1,.l V0 (.k 100000))] (.c h9 (.c (zl hz) .n))) ?_
 rw [List.isEmpty_toArray]
 cases e:vs.isEmpty with
 | false=>exact h1 e _
 | true=>exact h2 e _
theorem sA {sep:PySem.Str} {t:Nat} {Q:Value → Shared → Prop} (N:News h₀ L s.heap news) (hd:(D,listOf (strValues lv).toArray n) ∈ news) (hs:sep.length ≤ 16) (hB:∀ y ∈ lv.map (·.1),y.length ≤ 1000) (hL:lv.length ≤ 1000)
  (h:∀ t' k,(Txt.join sep (lv.map (·.1))).length ≤ 2000000 → Q (.str (Txt.join sep (lv.map (·.1))) t') { s with toks:=k }):wpAny (model prog w) A (call (.builtin "str.join") [.str sep t,.ref D]) Q E s:=by
 refine SC.join (News.isList N hd) rfl ?_ fun t' k=>h t' k (Nat.le_trans (Ax hB) (Nat.le_trans (Nat.mul_le_mul (by rw [List.length_map];exact hL) (show 1000 + sep.length ≤ 1016 by omega)) (by decide)))
 unfold JoinOk
 rw [StrLaws.joinFits hB (by rw [List.length_map];have:=Nat.mul_le_mul hL (Nat.le_refl 1000);have:=Nat.mul_le_mul hL hs;omega)]
 rfl
theorem uM {value slice:PySem.Expr} {u:Nat} {Q:Value → Shared → Prop} (N:News h₀ L s.heap news) (hd:(D,listOf (strValues lv).toArray n) ∈ news) (hne:(strValues lv).isEmpty = false)
  (h:∀ y t,lv.getLast? = some (y,t) → Q (.str y t) s)
  (hs:subscripted slice false (.ref D) (.int (-1) u) = operate [.ref D,.int (-1) u] (getItem (.ref D) (.int (-1) u)):=by with_unfolding_all rfl) :
  wpAny (model prog w) A (subscriptTail value slice (.ref D) (.int (-1) u)) Q E s:=by
 obtain ⟨y,t,e⟩:=jg hne
 have e2:=jr e
 refine kde_neg (j:=(strValues lv.dropLast).length) (v:=.str y t) (News.isList N hd) (by decide) (by decide) ?_ ?_ (h y t e) hs
 ·rw [e2,List.length_append,List.length_cons,List.length_nil,PySem.seqIndex_neg (by decide) (by exact ch fun h9=>lI [_] [(1,.l K0 V0),(1,.t (.s K0 K1) (.s K0 (.a V0 K1)))] (.c (zn _) (.c h9 .n)))]
  congr 1;exact aN (fun h9=>lI [_,_] [(1,.e V1 (.a (.s K0 K1) (.a V0 K1))),(1,.t V0 V1)] (.c (Int.toNat_of_nonneg (ch fun h9=>lI [_] [(1,.l K0 V0),(1,.t (.a (.s K0 K1) (.a V0 K1)) K0)] (.c (zn _) (.c h9 .n)))) (.c (zt h9) .n))) (fun h9=>lI [_,_] [(-1,.e V0 (.a (.s K0 K1) (.a V1 K1))),(1,.t V0 V1)] (.c (Int.toNat_of_nonneg (ch fun h9=>lI [_] [(1,.l K0 V0),(1,.t (.a (.s K0 K1) (.a V0 K1)) K0)] (.c (zn _) (.c h9 .n)))) (.c (zt h9) .n)))
 ·rw [e2];simp
theorem gy {value slice:PySem.Expr} {u:Nat} {k:Int} {vs:List Value} {v:Value} {Q:Value → Shared → Prop} (N:News h₀ L s.heap news) (hd:(D,listOf vs.toArray n) ∈ news) (h0:0 ≤ k) (hhi:k < 2 ^ 63) (hx:vs[k.toNat]? = some v) (h:Q v s)
  (hs:subscripted slice false (.ref D) (.int k u) = operate [.ref D,.int k u] (getItem (.ref D) (.int k u)):=by with_unfolding_all rfl) :
  wpAny (model prog w) A (subscriptTail value slice (.ref D) (.int k u)) Q E s :=
 tail_any (News.isList N hd).typeIs slot_list_getitem.lookup (wpAny_getItem_list (News.isList N hd) h0 hhi (by simpa using hx) h) hs
theorem DP {Q:Value → Shared → Prop} (F:Fr h₀ L s.heap m) (N:News h₀ L s.heap news) (U:Upd D (listOf (strValues lv).toArray n) (listOf (strValues lv.dropLast).toArray (n + 1)) news news')
  (hz:(strValues lv).length ≤ sizeLine) (hne:(strValues lv).isEmpty = false) (h:∀ y t h',lv.getLast? = some (y,t) → Fr h₀ L h' m → News h₀ L h' news' → Q (.str y t) { s with heap:=h' }):wpAny (model prog w) A (call (.builtin "list.pop") [.ref D]) Q E s:=by
 obtain ⟨y,t,e⟩:=jg hne
 refine kl_pop (p:=strValues lv.dropLast) (y:=.str y t) F N ?_ U hz (fun h'=>h y t h' e)
 rw [List.toList_toArray,jr e,gu]
end
theorem yl {α:Type} {a:α} {l:List α} (h:a ∈ l):List.Mem a l:=h
end
section
noncomputable abbrev PR:Program:=rW.row.prog
noncomputable abbrev Led:=List (Addr × Obj)
noncomputable abbrev Map:=List (PySem.Str × Value)
noncomputable def CA:List Nat → List Nat → Bool
 | [],[]=>true
 | a :: x,b :: y=>if Nat.beq a b then CA x y else false
 | _,_=>false
theorem wb:∀ {x y:List Nat},CA x y = true → x = y
 | [],[],_=>rfl
 | a :: x,b :: y,h=>by
  unfold CA at h
  cases e:Nat.beq a b with
  | false=>rw [e] at h;cases h
  | true=>rw [e] at h;rw [Nat.eq_of_beq_eq_true e,wb h]
theorem gp:∀ {x:List Nat},CA x x = true
 | []=>rfl
 | a :: x=>by
  unfold CA
  rw [Nat.beq_refl];exact gp
noncomputable def gT (x y:PySem.Str):Bool:=CA x.cps.toList y.cps.toList
theorem cT {x y:PySem.Str} (h:gT x y = true):x = y:=by
 cases x;cases y
 exact congrArg PySem.Str.mk (Array.toList_inj.mp (wb h))
theorem po {x y:PySem.Str} (h:gT x y = false):x ≠ y:=by
 rintro rfl
 unfold gT at h
 rw [gp] at h;cases h
noncomputable def dD:Map → PySem.Str → Option Value
 | [],_=>none
 | (y,v) :: r,x=>if gT y x then some v else dD r x
theorem dS:∀ {m:Map} {x:PySem.Str} {v:Value},dD m x = some v → (x,v) ∈ m
 | [],_,_,h=>by cases h
 | p :: r,x,v,h=>by
  unfold dD at h
  cases e:gT p.1 x with
  | false=>rw [e] at h;exact .tail _ (dS h)
  | true =>
   rw [e] at h
   rw [← cT e,← Option.some.inj h]
   exact .head _
noncomputable def l7:Map → PySem.Str → Value → Map
 | [],x,v=>[(x,v)]
 | (y,u) :: r,x,v=>if gT y x then (x,v) :: r else (y,u) :: l7 r x v
theorem C6 {x:PySem.Str}:gT x x = true:=gp
theorem mJ {x y:PySem.Str} {v u:Value}:∀ {m:Map},dD (l7 m x v) y = some u → (y = x ∧ u = v) ∨ (y ≠ x ∧ dD m y = some u)
 | [],h=>by
  unfold l7 dD at h
  cases e:gT x y with
  | true=>rw [e] at h;exact .inl ⟨(cT e).symm,(Option.some.inj h).symm⟩
  | false=>rw [e] at h;cases h
 | p :: r,h=>by
  unfold l7 at h
  cases e:gT p.1 x with
  | true =>
   rw [e] at h
   replace h:dD ((x,v) :: r) y = some u:=h
   unfold dD at h
   cases e2:gT x y with
   | true=>rw [e2] at h;exact .inl ⟨(cT e2).symm,(Option.some.inj h).symm⟩
   | false =>
    rw [e2] at h
    refine .inr ⟨(po e2).symm,?_⟩
    unfold dD
    rw [cT e,e2];exact h
  | false =>
   rw [e] at h
   replace h:dD (p :: l7 r x v) y = some u:=h
   unfold dD at h
   cases e2:gT p.1 y with
   | true =>
    rw [e2] at h
    refine .inr ⟨?_,by unfold dD;rw [e2];exact h⟩
    rintro rfl
    rw [e] at e2;cases e2
   | false =>
    rw [e2] at h
    rcases mJ h with h | ⟨h1,h2⟩
    ·exact .inl h
    ·exact .inr ⟨h1,by unfold dD;rw [e2];exact h2⟩
structure Sc where
 s:Scope
 fz:Bool
noncomputable def wS (cs:Scope) (x:PySem.Str):Bool:=match cs.names.lookup x with
 | some .local=>!(x == Str.ofString "__debug__")
 | _=>false
noncomputable def gN (cs:Sc) (x:PySem.Str):Bool:=wS cs.s x
noncomputable def gZ (cs:Sc) (x:PySem.Str):Bool:=match cs.fz with
 | true=>false
 | false=>wS cs.s x
noncomputable def yQ (cs:Sc) (x:PySem.Str):Bool:=match cs.s.names.lookup x with
 | some .globalImplicit=>true
 | _=>false
theorem bw {cs:Sc} {x:PySem.Str} (h:gN cs x = true):cs.s.names.lookup x = some .local ∧ (x == Str.ofString "__debug__") = false:=by
 unfold gN wS at h
 split at h
 ·rename_i e;exact ⟨e,by simpa using h⟩
 ·cases h
theorem cD {cs:Sc} {x:PySem.Str} (h:gZ cs x = true):gN cs x = true ∧ cs.fz = false:=by
 obtain ⟨c,z⟩:=cs
 cases z with
 | true=>cases h
 | false=>exact ⟨h,rfl⟩
theorem yd {cs:Sc} {x:PySem.Str} (h:yQ cs x = true):cs.s.names.lookup x = some .globalImplicit:=by
 unfold yQ at h
 split at h
 ·assumption
 ·cases h
structure Cx (w:World) (cs:Sc) (lv:Nat) where
 dp:Nat
 un:Nat
 gd:Option (List Code)
 cn:PySem.Str
 a:Addr
 ccd:Value
 cl:List (PySem.Str × Addr)
 outer:List Env
 A₀:Around
 base:Heap
 h₀:Heap
 L:Addr
 mean:ExcName → Option Value
 mg:PySem.Str → Option Value
 mb:PySem.Str → Option Value
 s0:Shared
 B:Below A₀ base outer h₀
 X:(K w.params).In h₀
 T:Top (am pW) (looseW (am pW) aE) mean mg mb h₀
 hk:cs.s.kind = .function
 hd:dp + lv < recursionLimit
 hu:un + 40 * lv < cLine
 inv:(PySem.Str → Option Value) → Prop
 sto:cs.fz = false → ∀ M,inv M
noncomputable abbrev Cx.A {w:World} {cs:Sc} {lv:Nat} (C:Cx w cs lv):Around:=ktrTop C.dp C.un C.gd C.cn cs.s C.L C.a C.ccd C.cl C.outer
noncomputable abbrev Cx.env {w:World} {cs:Sc} {lv:Nat} (C:Cx w cs lv):Env:=envX C.cn cs.s C.L C.a C.ccd C.cl
structure aq (a b:Led):Prop where
 mem:∀ p ∈ a,p ∈ b
 nd:(b.map (·.1)).Nodup → (a.map (·.1)).Nodup
theorem aq.refl {a:Led}:aq a a:=⟨fun _ h=>h,fun h=>h⟩
theorem aq.cons {p:Addr × Obj} {a b:Led} (h:aq a b):aq (p :: a) (p :: b) :=
 ⟨fun q hq=>(ag hq).elim (fun e=>e ▸ .head _) fun hq=>.tail _ (h.mem q hq),
  fun n=>let ⟨n1,n2⟩:=List.nodup_cons.mp n;List.nodup_cons.mpr ⟨fun hm=>let ⟨q,hq,e⟩:=List.mem_map.mp hm;n1 (List.mem_map.mpr ⟨q,h.mem q hq,e⟩),h.nd n2⟩⟩
theorem aq.drop {p:Addr × Obj} {a b:Led} (h:aq a b):aq a (p :: b):=⟨fun q hq=>.tail _ (h.mem q hq),fun n=>h.nd (List.nodup_cons.mp n).2⟩
theorem aq.left {a b:Led}:aq a (a++b):=⟨fun _ h=>aj h,fun n=>by rw [List.map_append] at n;exact (List.nodup_append.mp n).1⟩
theorem aq.swap {p q:Addr × Obj} {a b:Led} (h:aq (q :: p :: a) b):aq (p :: q :: a) b :=
 ⟨fun r hr=>h.mem r (by simp only [List.mem_cons] at hr ⊢;rcases hr with h | h | h <;> simp only [h,true_or,or_true]),fun n=>(List.Perm.nodup_iff (List.Perm.swap _ _ _)).mp (h.nd n)⟩
theorem aq.appL {a b:Led}:∀ {c:Led},aq a b → aq (c++a) (c++b)
 | [],h=>h
 | _ :: _,h=>h.appL.cons
theorem aq.assoc {x y z b:Led} (h:aq (x++(y++z)) b):aq ((x++y)++z) b:=by rw [List.append_assoc];exact h
theorem aq.mid {p:Addr × Obj} {x y:Led}:aq (x++p :: y) (p :: (x++y)):=⟨fun q hq=>(List.perm_middle (a:=p) (l₁:=x) (l₂:=y)).mem_iff.mp hq,fun n=>((List.perm_middle (a:=p) (l₁:=x) (l₂:=y)).map _).nodup_iff.mpr n⟩
theorem aq.front {p:Addr × Obj} {x y:Led}:aq (p :: (x++y)) (x++p :: y):=⟨fun q hq=>(List.perm_middle (a:=p) (l₁:=x) (l₂:=y)).mem_iff.mpr hq,fun n=>((List.perm_middle (a:=p) (l₁:=x) (l₂:=y)).map _).nodup_iff.mp n⟩
theorem aq.trans {a b c:Led} (h:aq a b) (g:aq b c):aq a c:=⟨fun p hp=>g.mem p (h.mem p hp),fun n=>h.nd (g.nd n)⟩
theorem aq.dropA {a b:Led}:∀ {c:Led},aq a b → aq a (c++b)
 | [],h=>h
 | _ :: _,h=>h.dropA.drop
noncomputable def tL {w:World} {cs:Sc} {lv:Nat} (C:Cx w cs lv) (m:Map) (M:PySem.Str → Option Value):Prop:=C.inv M ∧ ∀ x v,dD m x = some v → M x = some v ∧ gN cs x = true
structure At {w:World} {cs:Sc} {lv:Nat} (C:Cx w cs lv) (s:Shared) (t:Nat) (m:Map) (l:Led):Prop where
 tk:s.toks = t
 gens:s.gens = C.s0.gens
 drawn:s.drawn = C.s0.drawn
 os:s.os = C.s0.os
 N:News C.h₀ C.L s.heap l
 nd:(l.map (·.1)).Nodup
 M:∃ M,Fr C.h₀ C.L s.heap M ∧ tL C m M
section
variable {w:World} {cs:Sc} {lv:Nat} {α:Type}
noncomputable def uG (C:Cx w cs lv) (k:α → Nat → Map → Led → Prop):α → Shared → Prop:=fun v s=>∃ t m l,At C s t m l ∧ k v t m l
noncomputable def af (C:Cx w cs lv) (tree:Sem α) (t:Nat) (m:Map) (l:Led) (k:α → Nat → Map → Led → Prop):Prop :=
 ∀ s,At C s t m l → wpAny (model PR w) C.A tree (uG C k) (fun _ _=>False) s
theorem af.run {C:Cx w cs lv} {tree:Sem α} {t:Nat} {m:Map} {l:Led} {k:α → Nat → Map → Led → Prop} {s:Shared} {Q:α → Shared → Prop} (h:af C tree t m l k) (H:At C s t m l) (hk:∀ v s' t' m' l',At C s' t' m' l' → k v t' m' l' → Q v s') :
  wpAny (model PR w) C.A tree Q (fun _ _=>False) s :=
 wpAny_mono (h s H) (fun v s' ⟨t',m',l',a,b⟩=>hk v s' t' m' l' a b) fun _ _ x=>x
theorem At.ret {C:Cx w cs lv} {s:Shared} {t:Nat} {m:Map} {l:Led} {k:α → Nat → Map → Led → Prop} {v:α} (H:At C s t m l) (h:k v t m l):uG C k v s:=⟨t,m,l,H,h⟩
theorem At.tok {C:Cx w cs lv} {s:Shared} {t:Nat} {m:Map} {l:Led} (H:At C s t m l):At C { s with toks:=s.toks + 1 } t.succ m l:=⟨congrArg Nat.succ H.tk,H.gens,H.drawn,H.os,H.N,H.nd,H.M⟩
theorem At.less {C:Cx w cs lv} {s:Shared} {t:Nat} {m m':Map} {l l':Led} (H:At C s t m l) (hm:∀ x v,dD m' x = some v → dD m x = some v) (hl:aq l' l):At C s t m' l' :=
 ⟨H.tk,H.gens,H.drawn,H.os,fun p hp=>H.N p (hl.mem p hp),hl.nd H.nd,let ⟨M,F,h⟩:=H.M;⟨M,F,h.1,fun x v e=>h.2 x v (hm x v e)⟩⟩
noncomputable def og:Map:=[(Str.ofString "len",.builtin "len"),(Str.ofString "range",.type "range"),(Str.ofString "list",.type "list"),(Str.ofString "map",.type "map"),(Str.ofString "set",.type "set"),(Str.ofString "enumerate",.type "enumerate"),(Str.ofString "sorted",.builtin "sorted"),(Str.ofString "Match",.ref 135),(Str.ofString "_law_row",.ref 427),(Str.ofString "type",.type "type"),(Str.ofString "issubclass",.builtin "issubclass"),(Str.ofString "isinstance",.builtin "isinstance"),(Str.ofString "str",.type "str"),(Str.ofString "bytes",.type "bytes"),(Str.ofString "fspath",.ref 326),(Str.ofString "_get_sep",.ref 340),(Str.ofString "join",.ref 347),(Str.ofString "splitroot",.ref 354),(Str.ofString "normpath",.ref 368),(Str.ofString "S_IFMT",.ref 375),(Str.ofString "filemode",.ref 415),(Str.ofString "_filemode_table",.ref 408)]
theorem sW {P:Params}:∀ p ∈ og,(nsIn (K P) mainGlobals p.1 = some none ∧ bootBuiltins p.1 = some p.2 ∧ p.1 ≠ Str.ofString "__name__") ∨ nsIn (K P) mainGlobals p.1 = some (some p.2):=by
 intro p hp
 simp only [og,List.mem_cons,List.not_mem_nil,or_false] at hp
 rcases hp with rfl | rfl | rfl | rfl | rfl | rfl | rfl | rfl | rfl | rfl | rfl | rfl | rfl | rfl | rfl | rfl | rfl | rfl | rfl | rfl | rfl | rfl
 all_goals dsimp only
 all_goals first
  | (refine .inr ?_;kernel_rfl!)
  | exact .inl ⟨by kernel_rfl!,by boot_by_name,by decide⟩
theorem ew:∀ p ∈ og,(p.1 == Str.ofString "__debug__") = false:=by
 intro p hp
 simp only [og,List.mem_cons,List.not_mem_nil,or_false] at hp
 rcases hp with rfl | rfl | rfl | rfl | rfl | rfl | rfl | rfl | rfl | rfl | rfl | rfl | rfl | rfl | rfl | rfl | rfl | rfl | rfl | rfl | rfl | rfl <;> decide
noncomputable def Dh (C:Cx w cs lv) (x:PySem.Str) (pos:Pos) (t:Nat) (m:Map) (l:Led) (k:Value → Nat → Map → Led → Prop):Prop :=
 match dD m x with
 | some v=>k v t m l
 | none=>match dD og x with
  | some v=>match yQ cs x with
   | true=>k v t m l
   | false=>af C (eval (.Name x pos) C.env) t m l k
  | none=>af C (eval (.Name x pos) C.env) t m l k
theorem Cq {C:Cx w cs lv} {x:PySem.Str} {pos:Pos} {t:Nat} {m:Map} {l:Led} {k:Value → Nat → Map → Led → Prop} (h:Dh C x pos t m l k):af C (eval (.Name x pos) C.env) t m l k:=by
 unfold Dh at h
 cases e:dD m x with
 | some v =>
  rw [e] at h
  intro s H
  obtain ⟨M,F,hM⟩:=H.M
  obtain ⟨h1,h2⟩:=hM.2 _ _ e
  exact nameX_L F h1 (H.ret h) C.hk (bw h2).1 (bw h2).2
 | none =>
  rw [e] at h
  cases e2:dD og x with
  | none=>rw [e2] at h;exact h
  | some v =>
   rw [e2] at h
   cases e3:yQ cs x with
   | false=>rw [e3] at h;exact h
   | true =>
    rw [e3] at h
    intro s H
    obtain ⟨M,F,hM⟩:=H.M
    have hg:=yd e3
    have hm:=dS e2
    rcases sW (P:=w.params) _ hm with ⟨a,b,c⟩ | a
    ·exact nameX_B F C.X (topRead_of C.T) a b c (H.ret h) C.hk hg (ew _ hm)
    ·exact nameX_K F C.X (topRead_of C.T) a (H.ret h) C.hk hg (ew _ hm)
end
end
section
set_option backward.match.sparseCases false
noncomputable def av:PySem.Expr → Bool
 | .Starred ..=>false
 | _=>true
theorem bN {e:PySem.Expr} {r:List PySem.Expr} {env:Env} (h:av e = true):starEach (e :: r) env = (false,eval e env) :: starEach r env:=by
 cases e <;> first | rfl | cases h
noncomputable def eu:PySem.Expr → Bool
 | .Call ..=>false
 | _=>true
theorem rJ {o:PySem.Expr} {a:PySem.Str} {env:Env} {t:Sem Value} (h:eu o = true):attributeBase o a env t = t:=by
 cases o <;> first | rfl | cases h
noncomputable def rT:PySem.Expr → Bool
 | .Attribute ..=>false
 | _=>true
noncomputable def EF (o:PySem.Expr) (apos pos:Pos) (args:List PySem.Expr):Bool:=eu o && (Nat.beq apos.endLine pos.line && (args.all av && Nat.ble args.length 29))
section
variable {w:World} {cs:Sc} {lv:Nat}
noncomputable abbrev KV:=Value → Nat → Map → Led → Prop
noncomputable abbrev KN:=Nat → Map → Led → Prop
noncomputable def rI (ev:PySem.Expr → Nat → Map → Led → KV → Prop):List PySem.Expr → Nat → Map → Led → (List Value → Nat → Map → Led → Prop) → Prop
 | [],t,m,l,k=>k [] t m l
 | e :: r,t,m,l,k=>ev e t m l fun v t m l=>rI ev r t m l fun vs t m l=>k (v :: vs) t m l
noncomputable def D8 (C:Cx w cs lv) (env:Env) (ev:PySem.Expr → Nat → Map → Led → KV → Prop) (pos:Pos) (f:Value) (first:List Value) (args:List PySem.Expr) (t:Nat) (m:Map) (l:Led) (k:KV):Prop :=
 match f with
 | .builtin id=>rI ev args t m l fun vs t m l=>af C (call (.builtin id) (first++vs)) t m l k
 | .type T=>rI ev args t m l fun vs t m l=>af C (call (.type T) (first++vs)) t m l k
 | f=>af C (callWith pos f first (backTo pos (starEach args env)) []) t m l k
noncomputable def jv (x y:Value) (f:Int → Int → Prop) (d:Prop):Prop:=match x with
 | .int a _=>match y with
  | .int b _=>f a b
  | _=>d
 | _=>d
noncomputable def B2 (x y:Value) (f:PySem.Str → PySem.Str → Prop) (d:Prop):Prop:=match x with
 | .str a _=>match y with
  | .str b _=>f a b
  | _=>d
 | _=>d
noncomputable def Fa (x y:Value) (n o d:Prop):Prop:=match y with
 | .none=>match x with
  | .none=>n
  | .int _ _=>o
  | .ref _=>o
  | _=>d
 | _=>d
noncomputable def Fk (C:Cx w cs lv) (op:Operator) (x y:Value) (t:Nat) (m:Map) (l:Led) (k:KV):Prop :=
 match op with
 | .Add=>jv x y (fun a b=>k (.int (a + b) t) t.succ m l) (af C (binaryOp .Add x y) t m l k)
 | .Sub=>jv x y (fun a b=>k (.int (a - b) t) t.succ m l) (af C (binaryOp .Sub x y) t m l k)
 | op=>af C (binaryOp op x y) t m l k
noncomputable def Fx (C:Cx w cs lv) (op:Operator) (x y:Value) (t:Nat) (m:Map) (l:Led) (k:KV):Prop :=
 match op with
 | .Add=>jv x y (fun a b=>k (.int (a + b) t) t.succ m l) (af C (inplaceOp .Add x y) t m l k)
 | op=>af C (inplaceOp op x y) t m l k
noncomputable def Bx (C:Cx w cs lv) (v:Value) (t:Nat) (m:Map) (l:Led) (kt kf:KN):Prop :=
 match v with
 | .bool b=>(b = true → kt t m l) ∧ (b = false → kf t m l)
 | .int a _=>(a ≠ 0 → kt t m l) ∧ (a = 0 → kf t m l)
 | .none=>kf t m l
 | v=>af C (truthy v) t m l fun b t m l=>(b = true → kt t m l) ∧ (b = false → kf t m l)
noncomputable def uF (C:Cx w cs lv) (op:CmpOp) (x y:Value) (t:Nat) (m:Map) (l:Led) (kt kf:KN):Prop:=af C (compareOp op x y) t m l fun v t m l=>Bx C v t m l kt kf
noncomputable def Ea (C:Cx w cs lv) (op:CmpOp) (x y:Value) (t:Nat) (m:Map) (l:Led) (kt kf:KN):Prop :=
 match op with
 | .Lt=>jv x y (fun a b=>(a < b → kt t m l) ∧ (¬ a < b → kf t m l)) (uF C .Lt x y t m l kt kf)
 | .Gt=>jv x y (fun a b=>(b < a → kt t m l) ∧ (¬ b < a → kf t m l)) (uF C .Gt x y t m l kt kf)
 | .LtE=>jv x y (fun a b=>(a ≤ b → kt t m l) ∧ (¬ a ≤ b → kf t m l)) (uF C .LtE x y t m l kt kf)
 | .GtE=>jv x y (fun a b=>(b ≤ a → kt t m l) ∧ (¬ b ≤ a → kf t m l)) (uF C .GtE x y t m l kt kf)
 | .Eq=>jv x y (fun a b=>(a = b → kt t m l) ∧ (a ≠ b → kf t m l)) (B2 x y (fun a b=>(a = b → kt t m l) ∧ (a ≠ b → kf t m l)) (uF C .Eq x y t m l kt kf))
 | .NotEq=>B2 x y (fun a b=>(a ≠ b → kt t m l) ∧ (a = b → kf t m l)) (uF C .NotEq x y t m l kt kf)
 | .Is=>Fa x y (kt t m l) (kf t m l) (uF C .Is x y t m l kt kf)
 | .IsNot=>Fa x y (kf t m l) (kt t m l) (uF C .IsNot x y t m l kt kf)
 | op=>uF C op x y t m l kt kf
noncomputable def xZ (C:Cx w cs lv) (env:Env) (e:PySem.Expr) (t:Nat) (m:Map) (l:Led) (kt kf:KN):Prop:=af C (isTrue e env (eval e env)) t m l fun b t m l=>(b = true → kt t m l) ∧ (b = false → kf t m l)
noncomputable def oW (C:Cx w cs lv) (env:Env) (ev:PySem.Expr → Nat → Map → Led → KV → Prop):Nat → PySem.Expr → Nat → Map → Led → KN → KN → Prop
 | 0,e,t,m,l,kt,kf=>xZ C env e t m l kt kf
 | n + 1,e,t,m,l,kt,kf=>match e with
  | .BoolOp op xs pos=>match xs with
   | []=>xZ C env (.BoolOp op [] pos) t m l kt kf
   | x :: r=>match op with
    | .And=>match r with
     | []=>oW C env ev n x t m l kt kf
     | y :: r=>oW C env ev n x t m l (fun t m l=>oW C env ev n (.BoolOp .And (y :: r) pos) t m l kt kf) kf
    | .Or=>match r with
     | []=>oW C env ev n x t m l kt kf
     | y :: r=>oW C env ev n x t m l kt (fun t m l=>oW C env ev n (.BoolOp .Or (y :: r) pos) t m l kt kf)
  | .UnaryOp op x pos=>match op with
   | .Not=>oW C env ev n x t m l kf kt
   | op=>xZ C env (.UnaryOp op x pos) t m l kt kf
  | .Compare a ops bs pos=>match ops with
   | []=>xZ C env (.Compare a [] bs pos) t m l kt kf
   | op :: r=>match r with
    | []=>match bs with
     | []=>xZ C env (.Compare a [op] [] pos) t m l kt kf
     | b :: r=>match r with
      | []=>match behindInMarks op b with
       | false=>ev a t m l fun x t m l=>ev b t m l fun y t m l=>Ea C op x y t m l kt kf
       | true=>xZ C env (.Compare a [op] [b] pos) t m l kt kf
      | b' :: r=>xZ C env (.Compare a [op] (b :: b' :: r) pos) t m l kt kf
    | op' :: r=>xZ C env (.Compare a (op :: op' :: r) bs pos) t m l kt kf
  | .Name x pos=>ev (.Name x pos) t m l fun v t m l=>Bx C v t m l kt kf
  | .Call f as ks pos=>ev (.Call f as ks pos) t m l fun v t m l=>Bx C v t m l kt kf
  | .Attribute f a pos=>ev (.Attribute f a pos) t m l fun v t m l=>Bx C v t m l kt kf
  | e=>xZ C env e t m l kt kf
noncomputable def xI (C:Cx w cs lv) (env:Env) (e:PySem.Expr) (t:Nat) (m:Map) (l:Led) (k:KV):Prop:=af C (eval e env) t m l k
noncomputable def cC (C:Cx w cs lv) (env:Env) (ev:PySem.Expr → Nat → Map → Led → KV → Prop) (f:PySem.Expr) (args:List PySem.Expr) (pos:Pos) (t:Nat) (m:Map) (l:Led) (k:KV):Prop :=
 match args.all av with
 | true=>ev f t m l fun fv t m l=>D8 C env ev pos fv [] args t m l k
 | false=>xI C env (.Call f args [] pos) t m l k
noncomputable def cM (C:Cx w cs lv) (env:Env) (ev:PySem.Expr → Nat → Map → Led → KV → Prop) (o:PySem.Expr) (name:PySem.Str) (apos:Pos) (args:List PySem.Expr) (pos:Pos) (t:Nat) (m:Map) (l:Led) (k:KV):Prop :=
 match EF o apos pos args with
 | true=>ev o t m l fun ov t m l=>af C (getMethod ov name (do return (← importBound o env).getD true)) t m l fun fx t m l=>D8 C env ev pos fx.1 fx.2 args t m l k
 | false=>xI C env (.Call (.Attribute o name apos) args [] pos) t m l k
noncomputable def te (C:Cx w cs lv) (env:Env) (nm:PySem.Str → Pos → Nat → Map → Led → KV → Prop):Nat → PySem.Expr → Nat → Map → Led → KV → Prop
 | 0,e,t,m,l,k=>xI C env e t m l k
 | n + 1,e,t,m,l,k=>match e with
  | .Name x pos=>nm x pos t m l k
  | .Constant c kk pos=>match c with
   | .int i=>k (.int i t) t.succ m l
   | .str s=>k (.str s t) t.succ m l
   | .none=>k .none t m l
   | .bool b=>k (.bool b) t m l
   | c=>xI C env (.Constant c kk pos) t m l k
  | .BinOp a op b _=>te C env nm n a t m l fun x t m l=>te C env nm n b t m l fun y t m l=>Fk C op x y t m l k
  | .Attribute o name pos=>match eu o with
   | true=>te C env nm n o t m l fun x t m l=>af C (getAttr x name true) t m l k
   | false=>xI C env (.Attribute o name pos) t m l k
  | .Subscript v s _=>te C env nm n v t m l fun x t m l=>te C env nm n s t m l fun y t m l=>af C (subscriptTail v s x y) t m l k
  | .Tuple es kk pos=>match es.all av with
   | true=>rI (te C env nm n) es t m l fun vs t m l=>af C (newTuple vs) t m l k
   | false=>xI C env (.Tuple es kk pos) t m l k
  | .List es pos=>match es.all av with
   | true=>rI (te C env nm n) es t m l fun vs t m l=>af C (newList vs) t m l k
   | false=>xI C env (.List es pos) t m l k
  | .Call f args ks pos=>match ks with
   | []=>match f with
    | .Attribute o name apos=>cM C env (te C env nm n) o name apos args pos t m l k
    | .Name x p=>cC C env (te C env nm n) (.Name x p) args pos t m l k
    | f=>xI C env (.Call f args [] pos) t m l k
   | kw :: r=>xI C env (.Call f args (kw :: r) pos) t m l k
  | e=>xI C env e t m l k
noncomputable abbrev cE (C:Cx w cs lv):Nat → PySem.Expr → Nat → Map → Led → KV → Prop:=te C C.env (Dh C)
noncomputable abbrev Br (C:Cx w cs lv) (ev:PySem.Expr → Nat → Map → Led → KV → Prop):Nat → PySem.Expr → Nat → Map → Led → KN → KN → Prop:=oW C C.env ev
end
end
section
section
variable {w:World} {cs:Sc} {lv:Nat} {C:Cx w cs lv} {t:Nat} {m:Map} {l:Led} {env:Env}
noncomputable def iV (C:Cx w cs lv) (env:Env) (ev:PySem.Expr → Nat → Map → Led → KV → Prop):Prop:=∀ {e t m l k},ev e t m l k → af C (eval e env) t m l k
theorem bC {es:List PySem.Expr} {e:PySem.Expr} (h:(e :: es).all av = true):av e = true ∧ es.all av = true:=by
 rw [List.all_cons] at h
 exact Bool.and_eq_true_iff.mp h
theorem dF {pos:Pos} {env:Env}:∀ {es:List PySem.Expr},es.all av = true → (backTo pos (starEach es env)).any (·.1) = false
 | [],_=>rfl
 | e :: r,h=>by
  rw [bN (bC h).1]
  show (false || (backTo pos (starEach r env)).any (·.1)) = false
  rw [dF (bC h).2];rfl
theorem iS {ev:PySem.Expr → Nat → Map → Led → KV → Prop} (hv:iV C env ev) {pos:Pos}:∀ {es:List PySem.Expr} {t:Nat} {m:Map} {l:Led} {k:List Value → Nat → Map → Led → Prop},es.all av = true → rI ev es t m l k → af C (spliced (backTo pos (starEach es env))) t m l k
 | [],_,_,_,_,_,h=>fun s H=>args_nil (H.ret h)
 | e :: r,_,_,_,_,ha,h=>fun s H =>
  args_cons ((hv h).run H fun v s' _ _ _ H' h'=>(iS hv (bC ha).2 h').run H' fun vs _ _ _ _ H'' h''=>H''.ret h'') (bN (bC ha).1)
theorem cB {ev:PySem.Expr → Nat → Map → Led → KV → Prop} (hv:iV C env ev) {f:Value} {pos:Pos} {es:List PySem.Expr} {k:List Value → Nat → Map → Led → Prop} {s:Shared} {Q:Args → Shared → Prop} (ha:es.all av = true) (h:rI ev es t m l k) (H:At C s t m l)
  (hQ:∀ vs s' t' m' l',At C s' t' m' l' → k vs t' m' l' → Q ⟨vs,[]⟩ s'):wpAny (model PR w) C.A (evalArgs f true (backTo pos (starEach es env)) []) Q (fun _ _=>False) s:=by
 cases es with
 | nil=>exact evalArgs_nil3 (hQ _ _ _ _ _ H h)
 | cons e r =>
  have h:=iS hv (pos:=pos) ha h
  rw [bN (bC ha).1] at h ⊢
  exact PySem.Calls.evalArgs_plain (h.run H hQ)
theorem wi {ev:PySem.Expr → Nat → Map → Led → KV → Prop} (hv:iV C env ev) {P:Heap → Prop} {f:Value} {first:List Value} {pos:Pos} {es:List PySem.Expr} {k:KV} (ha:es.all av = true)
  (hk:∀ h,P h → ∃ k,(k = Keeper.frame ∨ k = Keeper.machine ∨ k = Keeper.boundFrame) ∧ Looks (model PR w) h (keeperOf f) k) (hP:∀ {s t m l},At C s t m l → P s.heap)
  (h:rI ev es t m l fun vs t m l=>af C (call f (first++vs)) t m l k):af C (callWith pos f first (backTo pos (starEach es env)) []) t m l k:=fun s H=>by
 refine callWith_of (P:=P) (by rw [dF ha];rfl) hk (cB hv ha h H fun vs s' t' m' l' H' h'=>⟨hP H',h' s' H'⟩)
theorem xt {ev:PySem.Expr → Nat → Map → Led → KV → Prop} (hv:iV C env ev) {f:Value} {first:List Value} {pos:Pos} {es:List PySem.Expr} {k:KV} (ha:es.all av = true)
  (h:D8 C env ev pos f first es t m l k):af C (callWith pos f first (backTo pos (starEach es env)) []) t m l k:=by
 unfold D8 at h
 split at h
 ·exact wi hv (P:=fun _=>True) ha (fun _ _=>⟨_,.inr (.inl rfl),Looks.of_pure rfl⟩) (fun _=>trivial) h
 ·exact wi hv (P:=fun _=>True) ha (fun _ _=>⟨_,.inr (.inl rfl),Looks.of_pure rfl⟩) (fun _=>trivial) h
 ·exact h
theorem cR {ev:PySem.Expr → Nat → Map → Led → KV → Prop} (hv:iV C env ev) {f:Value} {first:List Value} {pos:Pos} {es:List PySem.Expr} {k:KV} (ha:es.all av = true) (hf:keepIn (K w.params) f = true)
  (h:rI ev es t m l fun vs t m l=>af C (call f (first++vs)) t m l k):af C (callWith pos f first (backTo pos (starEach es env)) []) t m l k :=
 wi hv (P:=(K w.params).In) ha (keeps_K hf) (fun H=>let ⟨_,F,_⟩:=H.M;C.X.keeps F.keep) h
theorem cI {x y:Value} {f:Int → Int → Prop} {d G:Prop} (h:jv x y f d) (h1:∀ a t b u,x = .int a t → y = .int b u → f a b → G) (h2:d → G):G:=by
 cases x with
 | int a t=>cases y with
  | int b u=>exact h1 a t b u rfl rfl h
  | _=>exact h2 h
 | _=>exact h2 h
theorem sM {x y:Value} {f:PySem.Str → PySem.Str → Prop} {d G:Prop} (h:B2 x y f d) (h1:∀ a t b u,x = .str a t → y = .str b u → f a b → G) (h2:d → G):G:=by
 cases x with
 | str a t=>cases y with
  | str b u=>exact h1 a t b u rfl rfl h
  | _=>exact h2 h
 | _=>exact h2 h
theorem vE {x y:Value} {n o d G:Prop} (h:Fa x y n o d) (h1:y = .none → (x == .none) = true → n → G) (h2:y = .none → (x == .none) = false → o → G) (h3:d → G):G:=by
 cases y with
 | none=>cases x with
  | none=>exact h1 rfl rfl h
  | int a t=>exact h2 rfl rfl h
  | ref a=>exact h2 rfl rfl h
  | _=>exact h3 h
 | _=>exact h3 h
theorem BG {op:Operator} {x y:Value} {k:KV} (h:Fk C op x y t m l k):af C (binaryOp op x y) t m l k:=by
 cases op with
 | Add=>exact cI h (fun a t b u e1 e2 h=>by subst e1 e2;exact fun s H=>PyProof.Rows.add_int (H.tk ▸ H.tok.ret h)) id
 | Sub=>exact cI h (fun a t b u e1 e2 h=>by subst e1 e2;exact fun s H=>PyProof.Rows.sub_int (H.tk ▸ H.tok.ret h)) id
 | _=>exact h
theorem Bl {op:Operator} {x y:Value} {k:KV} (h:Fx C op x y t m l k):af C (inplaceOp op x y) t m l k:=by
 cases op with
 | Add=>exact cI h (fun a t b u e1 e2 h=>by subst e1 e2;exact fun s H=>PyProof.Rows.iadd_int (H.tk ▸ H.tok.ret h)) id
 | _=>exact h
noncomputable def kb (kt kf:KN):Bool → Nat → Map → Led → Prop:=fun b t m l=>(b = true → kt t m l) ∧ (b = false → kf t m l)
theorem CF {kt kf:KN} (h:kt t m l):kb kt kf true t m l:=⟨fun _=>h,nofun⟩
theorem B8 {kt kf:KN} (h:kf t m l):kb kt kf false t m l:=⟨nofun,fun _=>h⟩
theorem D9 {kt kf:KN} {p:Prop} [Decidable p] (h:(p → kt t m l) ∧ (¬ p → kf t m l)):kb kt kf (decide p) t m l:=⟨fun e=>h.1 (of_decide_eq_true e),fun e=>h.2 (of_decide_eq_false e)⟩
theorem Fu {α:Type} [BEq α] [LawfulBEq α] {a b:α} {kt kf:KN} (h:(a = b → kt t m l) ∧ (a ≠ b → kf t m l)):kb kt kf (a == b) t m l:=⟨fun e=>h.1 (beq_iff_eq.mp e),fun e=>h.2 (beq_eq_false_iff_ne.mp e)⟩
theorem Gn {α:Type} [BEq α] [LawfulBEq α] {a b:α} {kt kf:KN} (h:(a ≠ b → kt t m l) ∧ (a = b → kf t m l)):kb kt kf (a != b) t m l:=⟨fun e=>h.1 (bne_iff_ne.mp e),fun e=>h.2 (by simpa using e)⟩
theorem pX {v:Value} {kt kf:KN} (h:Bx C v t m l kt kf):af C (truthy v) t m l (kb kt kf):=by
 cases v with
 | bool b=>exact fun s H=>wpAny_truthy_bool (H.ret h)
 | int a u=>exact fun s H=>truthy_int (H.ret ⟨fun e=>h.1 (bne_iff_ne.mp e),fun e=>h.2 (by simpa using e)⟩)
 | none=>exact fun s H=>truthy_none (H.ret (B8 h))
 | _=>exact h
noncomputable def Fn (C:Cx w cs lv) (op:CmpOp) (x y:Value) (s:Shared) (kt kf:KN):Prop:=wpAny (model PR w) C.A (compareOp op x y) (fun c s'=>wpAny (model PR w) C.A (truthy c) (uG C (kb kt kf)) (fun _ _=>False) s') (fun _ _=>False) s
theorem dh {op:CmpOp} {x y:Value} {kt kf:KN} {s:Shared} (H:At C s t m l) (h:uF C op x y t m l kt kf):Fn C op x y s kt kf :=
 af.run h H fun v s' _ _ _ H' h'=>(pX h').run H' fun b _ _ _ _ H'' h''=>H''.ret h''
theorem Cy {op:CmpOp} {x y:Value} {kt kf:KN} {s:Shared} (h:Ea C op x y t m l kt kf) (H:At C s t m l):Fn C op x y s kt kf:=by
 cases op with
 | Lt=>exact cI h (fun a t b u e1 e2 g=>by subst e1 e2;exact PyProof.Rows.lt_int (wpAny_truthy_bool (H.ret (D9 g)))) (dh H)
 | Gt=>exact cI h (fun a t b u e1 e2 g=>by subst e1 e2;exact PyProof.Rows.gt_int (wpAny_truthy_bool (H.ret (D9 g)))) (dh H)
 | LtE=>exact cI h (fun a t b u e1 e2 g=>by subst e1 e2;exact PyProof.Rows.le_int (wpAny_truthy_bool (H.ret (D9 g)))) (dh H)
 | GtE=>exact cI h (fun a t b u e1 e2 g=>by subst e1 e2;exact PyProof.Rows.ge_int (wpAny_truthy_bool (H.ret (D9 g)))) (dh H)
 | Eq=>exact cI h (fun a t b u e1 e2 g=>by subst e1 e2;exact PyProof.Rows.eq_int (wpAny_truthy_bool (H.ret (Fu g)))) (fun h=>sM h (fun a t b u e1 e2 g=>by subst e1 e2;exact PyProof.Rows.eq_str (wpAny_truthy_bool (H.ret (Fu g)))) (dh H))
 | NotEq=>exact sM h (fun a t b u e1 e2 g=>by subst e1 e2;exact PyProof.Rows.ne_str (wpAny_truthy_bool (H.ret (Gn g)))) (dh H)
 | Is=>exact vE h (fun e1 e2 g=>by subst e1;exact is_none (by rw [e2];exact wpAny_truthy_bool (H.ret (CF g)))) (fun e1 e2 g=>by subst e1;exact is_none (by rw [e2];exact wpAny_truthy_bool (H.ret (B8 g)))) (dh H)
 | IsNot=>exact vE h (fun e1 e2 g=>by subst e1;exact isNot_none (by rw [e2];exact wpAny_truthy_bool (H.ret (B8 g)))) (fun e1 e2 g=>by subst e1;exact isNot_none (by rw [e2];exact wpAny_truthy_bool (H.ret (CF g)))) (dh H)
 | _=>exact dh H h
theorem ek {e:PySem.Expr} {kt kf:KN} {s:Shared} (he:isTrue e env (eval e env) = (do let v ← eval e env;standAt e.pos;holding [v] (truthy v))) (h:af C (eval e env) t m l fun v t m l=>Bx C v t m l kt kf) (H:At C s t m l) :
  wpAny (model PR w) C.A (isTrue e env (eval e env)) (uG C (kb kt kf)) (fun _ _=>False) s :=
 isTrue_plain (h.run H fun v s' _ _ _ H' h'=>(pX h').run H' fun b _ _ _ _ H'' h''=>H''.ret h'') he
theorem dz {ev:PySem.Expr → Nat → Map → Led → KV → Prop} (hv:iV C env ev):∀ (n:Nat) {e:PySem.Expr} {t:Nat} {m:Map} {l:Led} {kt kf:KN},oW C env ev n e t m l kt kf → af C (isTrue e env (eval e env)) t m l (kb kt kf):=by
 intro n
 induction n with
 | zero=>exact fun h=>h
 | succ n ih =>
  intro e t m l kt kf h
  cases e with
  | BoolOp op xs pos=>cases xs with
   | nil=>exact h
   | cons x r=>cases op with
    | And=>cases r with
     | nil=>exact fun s H=>isTrue_and ((ih h).run H fun b s' _ _ _ H' h'=>by
       cases b with
       | true=>exact isTrue_and_nil (H'.ret (CF (h'.1 rfl)))
       | false=>exact H'.ret (B8 (h'.2 rfl)))
     | cons y r=>exact fun s H=>isTrue_and ((ih h).run H fun b s' _ _ _ H' h'=>by
       cases b with
       | true=>exact (ih (h'.1 rfl)).run H' fun b _ _ _ _ H'' h''=>H''.ret h''
       | false=>exact H'.ret (B8 (h'.2 rfl)))
    | Or=>cases r with
     | nil=>exact fun s H=>isTrue_or ((ih h).run H fun b s' _ _ _ H' h'=>by
       cases b with
       | true=>exact H'.ret (CF (h'.1 rfl))
       | false=>exact isTrue_or_nil (H'.ret (B8 (h'.2 rfl))))
     | cons y r=>exact fun s H=>isTrue_or ((ih h).run H fun b s' _ _ _ H' h'=>by
       cases b with
       | true=>exact H'.ret (CF (h'.1 rfl))
       | false=>exact (ih (h'.2 rfl)).run H' fun b _ _ _ _ H'' h''=>H''.ret h'')
  | UnaryOp op x pos=>cases op with
   | Not=>exact fun s H=>isTrue_not ((ih h).run H fun b s' _ _ _ H' h'=>by
      cases b with
      | true=>exact H'.ret (B8 (h'.1 rfl))
      | false=>exact H'.ret (CF (h'.2 rfl)))
   | _=>exact h
  | Compare a ops bs pos=>cases ops with
   | nil=>exact h
   | cons op r=>cases r with
    | cons _ _=>exact h
    | nil=>cases bs with
     | nil=>exact h
     | cons b r=>cases r with
      | cons _ _=>exact h
      | nil =>
       change (match behindInMarks op b with | false=>_ | true=>_) at h
       cases hb:behindInMarks op b with
       | true=>rw [hb] at h;exact h
       | false =>
        rw [hb] at h
        exact fun s H=>wpAny_isTrue_Compare1 ((hv h).run H fun x s₁ _ _ _ H₁ h₁=>(hv h₁).run H₁ fun y s₂ _ _ _ H₂ h₂=>Cy h₂ H₂) hb
  | Name x pos=>exact fun s H=>ek rfl (hv h) H
  | Call f as ks pos=>exact fun s H=>ek rfl (hv h) H
  | Attribute f a pos=>exact fun s H=>ek rfl (hv h) H
  | _=>exact h
end
end
section
set_option backward.match.sparseCases false
section
variable {w:World} {cs:Sc} {lv:Nat} {C:Cx w cs lv} {t:Nat} {m:Map} {l:Led} {env:Env} {nm:PySem.Str → Pos → Nat → Map → Led → KV → Prop}
theorem zg {o:PySem.Expr} {a:PySem.Str} {pos:Pos} {env:Env} (h:eu o = true):eval (.Attribute o a pos) env = (do
   let x ← eval o env
   standAt pos.atName
   let r ← holding [x] (getAttr x a true)
   letTemporaryGo o x r
   pure r):=by
 show (do
   let x ← attributeBase o a env (eval o env)
   standAt pos.atName
   let r ← holding [x] (getAttr x a true)
   letTemporaryGo o x r
   pure r) = _
 rw [rJ h]
theorem mr {pos:Pos} {env:Env}:∀ {es:List PySem.Expr},es.all av = true → (backTo pos (starEach es env)).all (!·.1) = true
 | [],_=>rfl
 | e :: r,h=>by
  rw [bN (bC h).1]
  show (true && (backTo pos (starEach r env)).all (!·.1)) = true
  rw [mr (bC h).2];rfl
theorem yi {o:PySem.Expr} {a:PySem.Str} {apos pos:Pos} {args:List PySem.Expr} {env:Env} (h:EF o apos pos args = true):eval (.Call (.Attribute o a apos) args [] pos) env = (do
   let ov ← eval o env
   standAt apos.atName
   let (f,first) ← holding [ov] (getMethod ov a (do return (← importBound o env).getD true))
   callWith pos f first (backTo pos (starEach args env)) []):=by
 obtain ⟨h1,h2⟩:=Bool.and_eq_true_iff.mp h
 obtain ⟨h3,h4⟩:=Bool.and_eq_true_iff.mp h2
 obtain ⟨h5,h6⟩:=Bool.and_eq_true_iff.mp h4
 have h3:=Nat.eq_of_beq_eq_true h3
 have h6:=Nat.le_of_ble_eq_true h6
 show (do
  let ov ← attributeBase o a env (eval o env)
  standAt apos.atName
  methodCall o a apos pos env ov (args.length + 0) (backTo pos (starEach args env)) []) = _
 rw [rJ h1]
 have hf:methodCallForm (args.length + 0) (backTo pos (starEach args env)) [] = true:=by
  unfold methodCallForm
  rw [mr h5]
  simp;exact aA fun h9=>lN [_] [(1,.l (.k 30) V0),(1,.l V0 (.k 29))] (.c h9 (.c h6 .n))
 unfold methodCall methodCallPos calleeOf
 rw [hf]
 simp only [h3,if_true,Bool.not_true,Bool.false_or,beq_self_eq_true]
 rfl
theorem i6 {f:PySem.Expr} {args:List PySem.Expr} {pos:Pos} {env:Env} (h:rT f = true):eval (.Call f args [] pos) env = (do callWith pos (← eval f env) [] (backTo pos (starEach args env)) (backToKw pos (keywordEach [] env))):=by
 cases f <;> first | rfl | cases h
theorem CL {ev:PySem.Expr → Nat → Map → Led → KV → Prop} (hv:iV C env ev) {f:PySem.Expr} {args:List PySem.Expr} {pos:Pos} {k:KV} (hf:rT f = true) (h:cC C env ev f args pos t m l k):af C (eval (.Call f args [] pos) env) t m l k:=by
 unfold cC at h
 cases hb:args.all av with
 | true=>rw [hb] at h;exact fun s H=>Call_ ((hv h).run H fun x s₁ _ _ _ H₁ h₁=>xt hv hb h₁ s₁ H₁) (i6 hf)
 | false=>rw [hb] at h;exact h
theorem Dy {ev:PySem.Expr → Nat → Map → Led → KV → Prop} (hv:iV C env ev) {o:PySem.Expr} {name:PySem.Str} {apos pos:Pos} {args:List PySem.Expr} {k:KV} (h:cM C env ev o name apos args pos t m l k):af C (eval (.Call (.Attribute o name apos) args [] pos) env) t m l k:=by
 unfold cM at h
 cases hb:EF o apos pos args with
 | true=>rw [hb] at h;exact fun s H=>MethodCall_ ((hv h).run H fun x s₁ _ _ _ H₁ h₁=>h₁.run H₁ fun fx s₂ _ _ _ H₂ h₂=>xt hv (Bool.and_eq_true_iff.mp (Bool.and_eq_true_iff.mp (Bool.and_eq_true_iff.mp hb).2).2).1 h₂ s₂ H₂) (yi hb)
 | false=>rw [hb] at h;exact h
theorem en {b:Bool} {p q G:Prop} (h:match b with | true=>p | false=>q) (h1:b = true → p → G) (h2:q → G):G:=by
 cases b with
 | true=>exact h1 rfl h
 | false=>exact h2 h
theorem uN (hn:∀ {x pos t m l k},nm x pos t m l k → af C (eval (.Name x pos) env) t m l k):∀ (n:Nat) {e:PySem.Expr} {t:Nat} {m:Map} {l:Led} {k:KV},te C env nm n e t m l k → af C (eval e env) t m l k:=by
 intro n
 induction n with
 | zero=>exact fun h=>h
 | succ n ih =>
  intro e t m l k h
  have hv:iV C env (te C env nm n):=ih
  cases e with
  | Name x pos=>exact hn h
  | Constant c kk pos=>cases c with
   | int i=>exact fun s H=>wpAny_Constant_int (H.tk ▸ H.tok.ret h)
   | str i=>exact fun s H=>PySem.Calls.Constant_str (H.tk ▸ H.tok.ret h)
   | none=>exact fun s H=>wpAny_Constant_none (H.ret h)
   | bool b=>exact fun s H=>wpAny_pure (H.ret h)
   | _=>exact h
  | BinOp a op b pos=>exact fun s H=>wpAny_BinOp ((hv h).run H fun x s₁ _ _ _ H₁ h₁=>(hv h₁).run H₁ fun y s₂ _ _ _ H₂ h₂=>BG h₂ s₂ H₂)
  | Attribute o name pos=>exact en (b:=eu o) h (fun hb h s H=>Attribute_any_ ((hv h).run H fun x s₁ _ _ _ H₁ h₁=>h₁ s₁ H₁) (zg hb)) id
  | Subscript v sl pos=>exact fun s H=>Subscript_ ((hv h).run H fun x s₁ _ _ _ H₁ h₁=>(hv h₁).run H₁ fun y s₂ _ _ _ H₂ h₂=>h₂ s₂ H₂)
  | Tuple es kk pos=>exact en (b:=es.all av) h (fun hb h s H=>Tuple_ ((iS hv hb h).run H fun x s₁ _ _ _ H₁ h₁=>h₁ s₁ H₁)) id
  | List es pos=>exact en (b:=es.all av) h (fun hb h s H=>List_ ((iS hv hb h).run H fun x s₁ _ _ _ H₁ h₁=>h₁ s₁ H₁)) id
  | Call f args ks pos=>cases ks with
   | cons _ _=>exact h
   | nil=>cases f with
    | Attribute o name apos=>exact Dy hv h
    | Name x p=>exact CL hv rfl h
    | _=>exact h
  | _=>exact h
theorem aw (n:Nat) {e:PySem.Expr} {t:Nat} {m:Map} {l:Led} {k:KV} (h:cE C n e t m l k):af C (eval e C.env) t m l k:=uN Cq n h
theorem pf {ev:PySem.Expr → Nat → Map → Led → KV → Prop} (hv:iV C env ev) {c a b:PySem.Expr} {pos:Pos} {k:KV} (h:oW C env ev 12 c t m l (fun t m l=>ev a t m l k) (fun t m l=>ev b t m l k)):af C (eval (.IfExp c a b pos) env) t m l k :=
 fun s H=>wpAny_IfExp ((dz hv 12 h).run H fun b s₁ _ _ _ H₁ h₁=>by
  cases b with
  | true=>exact hv (h₁.1 rfl) s₁ H₁
  | false=>exact hv (h₁.2 rfl) s₁ H₁)
theorem u7 {ev:PySem.Expr → Nat → Map → Led → KV → Prop} (hv:iV C env ev) {c a b:PySem.Expr} {pos:Pos} {k:KV} (V:Value → Prop) (h:oW C env ev 12 c t m l (fun t m' l'=>ev a t m' l' fun v _ m'' l''=>m'' = m ∧ l'' = l ∧ V v) (fun t m' l'=>ev b t m' l' fun v _ m'' l''=>m'' = m ∧ l'' = l ∧ V v)) (hk:∀ v t,V v → k v t m l):af C (eval (.IfExp c a b pos) env) t m l k :=
 fun s H=>(pf hv h).run H fun v s₁ t₁ m₁ l₁ H₁ h₁=>by
  obtain ⟨rfl,rfl,hV⟩:=h₁
  exact H₁.ret (hk v t₁ hV)
end
end
section
set_option backward.match.sparseCases false
noncomputable def gK:PySem.Expr → Bool
 | .ListComp ..=>false
 | .SetComp ..=>false
 | .DictComp ..=>false
 | _=>true
theorem mA {e:PySem.Expr} {tg:Option PySem.Expr} {n:Nat} {env:Env} (h:gK e = true):swapsWith e tg n env = pure false:=by
 cases e <;> first | rfl | cases h
noncomputable def pU (cs:Scope) (line:Nat):PySem.Expr → Option PySem.Str
 | .Name id pos=>if (cs.names.lookup id == some .local && pos.line == line) = true then some id else none
 | _=>none
noncomputable def Cz (cs:Scope) (ts vs:List PySem.Expr):Option (Option (List PySem.Str)) :=
 if (!(ts.length == 2 || ts.length == 3) || vs.length != ts.length) = true then some none
 else if vs.all av = true then
  (if ((ts.filterMap (pU cs ((ts.head?.map (·.pos.line)).getD 0))).length != ts.length || (ts.filterMap (pU cs ((ts.head?.map (·.pos.line)).getD 0))).eraseDups.length != (ts.filterMap (pU cs ((ts.head?.map (·.pos.line)).getD 0))).length) = true then some none
  else if vs.all (foldedForSure 8) = true then some none
  else if vs.all (constantsAlone 8) = true then none
  else some (some (ts.filterMap (pU cs ((ts.head?.map (·.pos.line)).getD 0)))))
 else some none
theorem vi {vs:List PySem.Expr} {f:PySem.Expr → Bool} (hf:∀ e,f e = !av e):vs.any f = !(vs.all av):=by
 induction vs with
 | nil=>rfl
 | cons e r ih=>rw [List.any_cons,List.all_cons,ih,hf];cases av e <;> simp
theorem CQ {cs:Scope} {line:Nat} {ts:List PySem.Expr} {f:PySem.Expr → Option PySem.Str} (hf:∀ e,f e = pU cs line e):ts.filterMap f = ts.filterMap (pU cs line):=by
 rw [show f = pU cs line from funext hf]
theorem w2 {cs:Scope} {ts vs:List PySem.Expr} {r:Option (List PySem.Str)} {env:Env} {k k':Nat} {p p':Pos} (h:Cz cs ts vs = some r) (he:env.scope = cs) (hk:cs.kind = .function):swappedStores [.Tuple ts k p] (.Tuple vs k' p') env = pure r:=by
 subst he
 have hb:env.blockKind = .function:=by
  unfold Env.blockKind
  rw [hk];rfl
 unfold swappedStores
 dsimp only
 rw [hb,vi (fun e=>by cases e <;> rfl),CQ (cs:=env.scope) (line:=(ts.head?.map (·.pos.line)).getD 0) (fun e=>by cases e <;> rfl)]
 unfold Cz at h
 split at h
 ·rename_i h1
  rw [← Option.some.inj h]
  simp only [bne_self_eq_false,Bool.or_false,h1,if_true]
 ·rename_i h1
  simp only [bne_self_eq_false,Bool.or_false,h1,Bool.false_eq_true,if_false]
  split at h
  ·rename_i h2
   simp only [h2,Bool.not_true,Bool.false_eq_true,if_false]
   split at h
   ·rename_i h3
    rw [← Option.some.inj h]
    simp only [h3,if_true]
   ·rename_i h3
    simp only [h3,if_false,Bool.false_eq_true]
    split at h
    ·rename_i h4
     rw [← Option.some.inj h]
     simp only [h4,if_true]
    ·rename_i h4
     simp only [h4,if_false,Bool.false_eq_true]
     split at h
     ·cases h
     ·rename_i h5
      rw [← Option.some.inj h]
      simp only [h5,if_false,Bool.false_eq_true]
  ·rename_i h2
   rw [← Option.some.inj h]
   have h2:vs.all av = false:=by simpa using h2
   simp only [h2,Bool.not_false,if_true]
noncomputable def ub:Map → PySem.Str → Value → (Map → Prop) → Prop
 | [],x,v,k=>k [(x,v)]
 | (y,u) :: r,x,v,k=>match gT y x with
  | true=>k ((x,v) :: r)
  | false=>ub r x v fun r'=>k ((y,u) :: r')
theorem fY {x:PySem.Str} {v:Value}:∀ {m:Map} {k:Map → Prop},ub m x v k → k (l7 m x v)
 | [],_,h=>h
 | p :: r,k,h=>by
  unfold ub at h
  unfold l7
  cases e:gT p.1 x with
  | true=>rw [e] at h;exact h
  | false=>rw [e] at h;exact fY (k:=fun r'=>k (p :: r')) h
section
variable {w:World} {cs:Sc} {lv:Nat}
noncomputable def Dm (C:Cx w cs lv) (x:PySem.Str) (v:Value) (t:Nat) (m:Map) (l:Led) (k:KN):Prop:=match gZ cs x with
 | true=>ub m x v fun m'=>k t.succ m' l
 | false=>af C (storeName C.env x v) t m l fun _ t m l=>k t m l
noncomputable def xK (C:Cx w cs lv):List PySem.Str → List Value → Nat → Map → Led → KN → Prop
 | x :: xs,v :: vs,t,m,l,k=>Dm C x v t m l fun t m l=>xK C xs vs t m l k
 | _,_,t,m,l,k=>k t m l
set_option backward.match.sparseCases true in
noncomputable def cA (C:Cx w cs lv) (ev:PySem.Expr → Nat → Map → Led → KV → Prop) (tg:PySem.Expr) (v:Value) (t:Nat) (m:Map) (l:Led) (k:KN):Prop:=match tg with
 | .Name x _=>Dm C x v t m l k
 | .Attribute o a _=>ev o t m l fun ov t m l=>af C (setAttr ov a v) t m l fun _ t m l=>k t m l
 | .Subscript o i _=>ev o t m l fun ov t m l=>ev i t m l fun iv t m l=>af C (setItem ov iv v) t m l fun _ t m l=>k t m l
 | tg=>af C (assign tg C.env v) t m l fun _ t m l=>k t m l
noncomputable def EK (C:Cx w cs lv) (ev:PySem.Expr → Nat → Map → Led → KV → Prop):List PySem.Expr → Value → Nat → Map → Led → KN → Prop
 | [],v,t,m,l,k=>k t m l
 | tg :: r,v,t,m,l,k=>cA C ev tg v t m l fun t m l=>EK C ev r v t m l k
noncomputable abbrev KF:=Flow → Nat → Map → Led → Prop
noncomputable def uJ (k:KN) (K:KF):KF:=fun fl t m l=>match fl with
 | .next=>k t m l
 | f=>K f t m l
noncomputable def En (C:Cx w cs lv) (ts:List PySem.Expr) (value:PySem.Expr) (pos:Pos) (t:Nat) (m:Map) (l:Led) (K:KF):Prop:=af C (exec (.Assign ts value pos) C.env) t m l K
noncomputable def Ej (C:Cx w cs lv) (ev:PySem.Expr → Nat → Map → Led → KV → Prop) (ts:List PySem.Expr) (value:PySem.Expr) (pos:Pos) (t:Nat) (m:Map) (l:Led) (k:KN) (K:KF):Prop :=
 match gK value && ts.all av with
 | true=>ev value t m l fun v t m l=>EK C ev ts v t m l k
 | false=>En C ts value pos t m l (uJ k K)
noncomputable def BN (C:Cx w cs lv) (ev:PySem.Expr → Nat → Map → Led → KV → Prop) (tg:List PySem.Expr) (kk:Nat) (p:Pos) (vs:List PySem.Expr) (vk:Nat) (vp pos:Pos) (t:Nat) (m:Map) (l:Led) (k:KN) (K:KF):Prop :=
 match Cz cs.s tg vs with
 | none=>En C [.Tuple tg kk p] (.Tuple vs vk vp) pos t m l (uJ k K)
 | some r=>match r with
  | some names=>rI ev vs t m l fun vs t m l=>xK C names.reverse vs.reverse t m l k
  | none=>ev (.Tuple vs vk vp) t m l fun v t m l=>cA C ev (.Tuple tg kk p) v t m l k
noncomputable def DM (C:Cx w cs lv) (ev:PySem.Expr → Nat → Map → Led → KV → Prop) (ts:List PySem.Expr) (value:PySem.Expr) (pos:Pos) (t:Nat) (m:Map) (l:Led) (k:KN) (K:KF):Prop :=
 match ts with
 | []=>En C [] value pos t m l (uJ k K)
 | a :: r=>match r with
  | b :: r=>Ej C ev (a :: b :: r) value pos t m l k K
  | []=>match a with
   | .Tuple tg kk p=>match value with
    | .Tuple vs vk vp=>BN C ev tg kk p vs vk vp pos t m l k K
    | value=>Ej C ev [.Tuple tg kk p] value pos t m l k K
   | .List es p=>En C [.List es p] value pos t m l (uJ k K)
   | a=>Ej C ev [a] value pos t m l k K
noncomputable def Ed (C:Cx w cs lv) (st:Stmt) (t:Nat) (m:Map) (l:Led) (K:KF):Prop:=af C (exec st C.env) t m l K
noncomputable def AR (C:Cx w cs lv) (x:PySem.Str) (xp:Pos) (op:Operator) (e:PySem.Expr) (pos:Pos) (t:Nat) (m:Map) (l:Led) (k:KN) (K:KF):Prop :=
 match dD m x with
 | some v0=>cE C 12 e t m l fun v t m l=>Fx C op v0 v t m l fun v t m l=>Dm C x v t m l k
 | none=>Ed C (.AugAssign (.Name x xp) op e pos) t m l (uJ k K)
noncomputable def cS (C:Cx w cs lv):Nat → List Stmt → KF → KN
 | 0,st,K,t,m,l=>af C (execs st C.env) t m l K
 | n + 1,st,K,t,m,l=>match st with
  | []=>K .next t m l
  | st :: r=>match st with
   | .Assign ts value pos=>DM C (cE C 12) ts value pos t m l (cS C n r K) K
   | .AugAssign tg op e pos=>match tg with
    | .Name x xp=>AR C x xp op e pos t m l (cS C n r K) K
    | tg=>Ed C (.AugAssign tg op e pos) t m l (uJ (cS C n r K) K)
   | .Return e pos=>match e with
    | some e=>cE C 12 e t m l fun v t m l=>K (.ret v) t m l
    | none=>K (.ret .none) t m l
   | .Expr e pos=>match gK e with
    | true=>cE C 12 e t m l fun _ t m l=>cS C n r K t m l
    | false=>Ed C (.Expr e pos) t m l (uJ (cS C n r K) K)
   | .Pass _=>cS C n r K t m l
   | .Break _=>K .brk t m l
   | .Continue _=>K .cont t m l
   | st=>Ed C st t m l (uJ (cS C n r K) K)
end
end
section
section
variable {w:World} {cs:Sc} {lv:Nat} {C:Cx w cs lv} {t:Nat} {m:Map} {l:Led}
theorem tL.set {x:PySem.Str} {v:Value} {M:PySem.Str → Option Value} (hM:tL C m M) (hx:gZ cs x = true):tL C (l7 m x v) (fun y=>if y = x then some v else M y) :=
 ⟨C.sto (cD hx).2 _,fun y u e=>(mJ e).elim (fun ⟨h1,h2⟩=>by rw [h1,h2];exact ⟨if_pos rfl,(cD hx).1⟩) fun ⟨h1,h2⟩=>⟨(if_neg h1).trans (hM.2 _ _ h2).1,(hM.2 _ _ h2).2⟩⟩
theorem oY {x:PySem.Str} {v:Value} {k:KN} (h:Dm C x v t m l k):af C (storeName C.env x v) t m l fun _ t m l=>k t m l:=by
 unfold Dm at h
 cases hx:gZ cs x with
 | true =>
  rw [hx] at h
  intro s H
  obtain ⟨M,F,hM⟩:=H.M
  exact storeX_L F H.N (fun h' F' N'=>At.ret ⟨congrArg Nat.succ H.tk,H.gens,H.drawn,H.os,N',H.nd,_,F',hM.set hx⟩ (fY h)) C.hk (bw (cD hx).1).1
 | false=>rw [hx] at h;exact h
noncomputable def z0 (C:Cx w cs lv):List (Value → Sem Unit) → List PySem.Str → Prop
 | [],[]=>True
 | f :: fs,x :: xs=>(∀ v s (Q:Unit → Shared → Prop),wpAny (model PR w) C.A (storeName C.env x v) Q (fun _ _=>False) s → wpAny (model PR w) C.A (f v) Q (fun _ _=>False) s) ∧ z0 C fs xs
 | _,_=>False
theorem fh {k:KN}:∀ {fs:List (Value → Sem Unit)} {xs:List PySem.Str} {vs:List Value} {t:Nat} {m:Map} {l:Led},z0 C fs xs → xs.length = vs.length → xK C xs vs t m l k → af C (assignInOrder fs vs) t m l fun _ t m l=>k t m l
 | [],[],[],_,_,_,_,_,h=>fun s H=>wpAny_pure (H.ret h)
 | f :: fs,x :: xs,v :: vs,_,_,_,hf,hl,h=>fun s H =>
  assignInOrder_cons (hf.1 v s _ ((oY h).run H fun _ s' _ _ _ H' h'=>fh hf.2 (Nat.succ.inj hl) h' s' H'))
 | [],_ :: _,_,_,_,_,hf,_,_=>hf.elim
 | _ :: _,[],_,_,_,_,hf,_,_=>hf.elim
 | _,x :: xs,[],_,_,_,_,hl,_=>nomatch hl
 | _,[],v :: vs,_,_,_,_,hl,_=>nomatch hl
theorem im:∀ {xs:List PySem.Str},z0 C (xs.map fun n=>bindName C.env n) xs
 | []=>trivial
 | x :: xs=>⟨fun v s Q h=>wpAny_bindName h,im⟩
theorem mK {ev:PySem.Expr → Nat → Map → Led → KV → Prop} (hv:iV C C.env ev) {tg:PySem.Expr} {v:Value} {k:KN} (h:cA C ev tg v t m l k):af C (assign tg C.env v) t m l fun _ t m l=>k t m l:=by
 cases tg with
 | Name _ _=>exact fun s H=>assign_Name (oY h s H)
 | Attribute _ _ _ =>
  refine fun s H=>?_
  show wpAny _ _ (do let ov ← holding [v] (eval _ C.env);standAt _;holding [v,ov] (setAttr ov _ v);release [v,ov] []) _ _ s
  exact wpAny_bind (wpAny_holding ((hv h).run H fun ov s₁ _ _ _ H₁ h₁=>wpAny_bind (wpAny_standAt (wpAny_bind (wpAny_holding (h₁.run H₁ fun _ s₂ _ _ _ H₂ h₂=>wpAny_release (H₂.ret h₂)))))))
 | Subscript _ _ _ =>
  refine fun s H=>?_
  rw [assign_Subscript]
  exact wpAny_bind (wpAny_holding ((hv h).run H fun ov s₁ _ _ _ H₁ h₁=>wpAny_bind (wpAny_holding ((hv h₁).run H₁ fun iv s₂ _ _ _ H₂ h₂=>wpAny_bind (wpAny_standAt (wpAny_bind (wpAny_holding (h₂.run H₂ fun _ s₃ _ _ _ H₃ h₃=>wpAny_release (H₃.ret h₃)))))))))
 | _=>exact h
theorem tf {e:PySem.Expr} {r:List PySem.Expr} {env:Env} (h:av e = true):assignEach (e :: r) env = (false,assign e env) :: assignEach r env:=by
 cases e <;> first | rfl | cases h
theorem wI {ev:PySem.Expr → Nat → Map → Led → KV → Prop} (hv:iV C C.env ev) {v:Value} {k:KN}:∀ {ts:List PySem.Expr} {t:Nat} {m:Map} {l:Led},ts.all av = true → EK C ev ts v t m l k → af C (assignAll v ((assignEach ts C.env).map (·.2))) t m l fun _ t m l=>k t m l
 | [],_,_,_,_,h=>fun s H=>wpAny_pure (H.ret h)
 | [e],_,_,_,ha,h=>fun s H=>by
  rw [tf (bC ha).1]
  exact mK hv h s H
 | e :: e' :: r,_,_,_,ha,h=>fun s H=>by
  have ha':=(bC ha).2
  rw [tf (bC ha).1,tf (bC ha').1]
  show wpAny _ _ (do holding [v] (assign e C.env v);assignAll v _) _ _ s
  refine wpAny_bind (wpAny_holding ((mK hv h).run H fun _ s₁ _ _ _ H₁ h₁=>?_))
  have:=wI hv ha' h₁ s₁ H₁
  rw [tf (bC ha').1] at this
  exact this
theorem rF {ev:PySem.Expr → Nat → Map → Led → KV → Prop} (hv:iV C C.env ev) {pos:Pos}:∀ {es:List PySem.Expr} {t:Nat} {m:Map} {l:Led} {k:List Value → Nat → Map → Led → Prop},es.all av = true → rI ev es t m l k → af C (spliced (backTo pos (starEach es C.env))) t m l fun vs t m l=>vs.length = es.length ∧ k vs t m l
 | [],_,_,_,_,_,h=>fun s H=>args_nil (H.ret ⟨rfl,h⟩)
 | e :: r,_,_,_,_,ha,h=>fun s H =>
  args_cons ((hv h).run H fun v s' _ _ _ H' h'=>(rF hv (bC ha).2 h').run H' fun vs _ _ _ _ H'' h''=>H''.ret ⟨congrArg Nat.succ h''.1,h''.2⟩) (bN (bC ha).1)
theorem FX {a b:PySem.Expr} {r:List PySem.Expr} {value:PySem.Expr} {env:Env}:swappedStores (a :: b :: r) value env = pure none:=by
 cases a <;> rfl
set_option backward.match.sparseCases false in
noncomputable def Et:PySem.Expr → Bool
 | .Tuple ..=>true
 | .List ..=>true
 | _=>false
theorem FY {a value:PySem.Expr} {env:Env} (h:Et a = false):swappedStores [a] value env = pure none:=by
 cases a <;> first | rfl | cases h
set_option backward.match.sparseCases false in
noncomputable def E5:PySem.Expr → Bool
 | .Tuple ..=>true
 | _=>false
theorem Gq {ts:List PySem.Expr} {k:Nat} {p:Pos} {value:PySem.Expr} {env:Env} (h:E5 value = false):swappedStores [.Tuple ts k p] value env = pure none:=by
 cases value <;> first | rfl | cases h
theorem z4 {n:Nat} (h:n ≤ 3):n ≤ sizeLine:=Nat.le_trans h (Nat.le_of_ble_eq_true rfl)
theorem yJ {ts vs:List PySem.Expr} {names:List PySem.Str} (h:Cz cs.s ts vs = some (some names)):vs.length ≤ 3 ∧ names.length = vs.length ∧ vs.all av = true:=by
 unfold Cz at h
 split at h
 ·cases h
 ·rename_i h1
  split at h
  ·rename_i h2
   split at h
   ·cases h
   ·rename_i h3
    split at h
    ·cases h
    ·split at h
     ·cases h
     ·have e:=Option.some.inj (Option.some.inj h)
      simp only [Bool.or_eq_true,bne_iff_ne,ne_eq,Bool.not_eq_true',Bool.or_eq_false_iff,beq_eq_false_iff_ne,not_or,Decidable.not_not,Bool.not_eq_false,Bool.or_eq_true,beq_iff_eq] at h1 h3
      rw [e] at h3
      exact ⟨by omega,by exact aN (fun h9=>lN [_,_,_,0] [(1,.t V0 V1),(-1,.e V0 V2),(1,.e V1 V2)] (.c h9 (.c h1.2 (.c h3.1 .n)))) (fun h9=>lN [_,_,_,0] [(1,.t V0 V1),(1,.e V1 V2),(-1,.e V0 V2)] (.c h9 (.c h1.2 (.c h3.1 .n)))),h2⟩
  ·cases h
theorem rl {ev:PySem.Expr → Nat → Map → Led → KV → Prop} (hv:iV C C.env ev) {ts:List PySem.Expr} {value:PySem.Expr} {pos:Pos} {k:KN} {K:KF} (hw:swappedStores ts value C.env = pure none) (h:Ej C ev ts value pos t m l k K):af C (exec (.Assign ts value pos) C.env) t m l (uJ k K):=by
 refine en (b:=gK value && ts.all av) h (fun hb h=>?_) id
 obtain ⟨hp,hs⟩:=Bool.and_eq_true_iff.mp hb
 have hsw:swapsWithSole ts value pos.line C.env = pure false:=by
  cases ts with
  | nil=>rfl
  | cons a r=>cases r with
   | nil=>exact mA hp
   | cons b r=>rfl
 exact fun s H=>wpAny_Assign_stores ((hv h).run H fun v s₁ _ _ _ H₁ h₁=>(wI hv hs h₁).run H₁ fun _ s₂ _ _ _ H₂ h₂=>H₂.ret h₂) hsw hw
theorem zw {ev:PySem.Expr → Nat → Map → Led → KV → Prop} (hv:iV C C.env ev) {tg:List PySem.Expr} {kk:Nat} {p:Pos} {vs:List PySem.Expr} {vk:Nat} {vp pos:Pos} {k:KN} {K:KF} (h:BN C ev tg kk p vs vk vp pos t m l k K):af C (exec (.Assign [.Tuple tg kk p] (.Tuple vs vk vp) pos) C.env) t m l (uJ k K):=by
 unfold BN at h
 cases e:Cz cs.s tg vs with
 | none=>rw [e] at h;exact h
 | some r =>
  rw [e] at h
  cases r with
  | none=>exact fun s H=>Assign_Tuple ((hv h).run H fun v s₁ _ _ _ H₁ h₁=>(mK hv h₁).run H₁ fun _ s₂ _ _ _ H₂ h₂=>H₂.ret h₂) rfl (w2 e rfl C.hk)
  | some names =>
   obtain ⟨l1,l2,l3⟩:=yJ e
   refine fun s H=>Assign_Tuple_swapped (Tuple_ ((rF hv l3 h).run H fun vs s₁ t₁ m₁ l₁ H₁ h₁=>?_)) rfl (w2 e rfl C.hk)
   obtain ⟨M,F,hM⟩:=H₁.M
   refine newTuple_N F H₁.N (fun h' F' N'=>?_) (by rw [h₁.1];exact z4 l1)
   have hn:vs.length = names.length:=h₁.1.trans l2.symm
   have ht:IsTup h' s₁.heap.objs.size vs.toArray:=⟨_,(N' _ (.head _)).1,rfl,_,rfl⟩
   refine unpackItemsN_ (s:={ s₁ with heap:=h' }) F' N' ht rfl (by rw [List.size_toArray,hn]) (fun h'' F'' N''=>?_)
   exact (fh (k:=k) im (by rw [List.length_reverse,List.length_reverse,hn]) h₁.2).run (s:={ s₁ with heap:=h'' }) ⟨H₁.tk,H₁.gens,H₁.drawn,H₁.os,fun p hp=>N'' p (.tail _ hp),H₁.nd,M,F'',hM⟩ fun _ s₂ _ _ _ H₂ h₂=>H₂.ret h₂
theorem yI {ev:PySem.Expr → Nat → Map → Led → KV → Prop} (hv:iV C C.env ev) {ts:List PySem.Expr} {value:PySem.Expr} {pos:Pos} {k:KN} {K:KF} (h:DM C ev ts value pos t m l k K):af C (exec (.Assign ts value pos) C.env) t m l (uJ k K):=by
 cases ts with
 | nil=>exact h
 | cons a r=>cases r with
  | cons b r=>exact rl hv FX h
  | nil=>cases a with
   | Tuple tg kk p=>cases value with
    | Tuple vs vk vp=>exact zw hv h
    | _=>exact rl hv (Gq rfl) h
   | List es p=>exact h
   | _=>exact rl hv (FY rfl) h
theorem BH {st:Stmt} {r:List Stmt} {k:KN} {K:KF} (hr:∀ {t m l},k t m l → af C (execs r C.env) t m l K) (h:af C (exec st C.env) t m l (uJ k K)):af C (execs (st :: r) C.env) t m l K:=fun s H =>
 wpAny_execs_cons (h.run H fun fl s' _ _ _ H' h'=>by
  cases fl with
  | next=>exact hr h' s' H'
  | ret v=>exact H'.ret h'
  | brk=>exact H'.ret h'
  | cont=>exact H'.ret h')
theorem bY:∀ (n:Nat) {st:List Stmt} {K:KF} {t:Nat} {m:Map} {l:Led},cS C n st K t m l → af C (execs st C.env) t m l K:=by
 intro n
 induction n with
 | zero=>exact fun h=>h
 | succ n ih =>
  intro st K t m l h
  have hv:iV C C.env (cE C 12):=aw 12
  cases st with
  | nil=>exact fun s H=>wpAny_execs_nil (H.ret h)
  | cons st r =>
   refine BH (k:=cS C n r K) ih ?_
   cases st with
   | Assign ts value pos=>exact yI hv h
   | AugAssign tg op e pos=>cases tg with
    | Name x xp =>
     replace h:AR C x xp op e pos t m l (cS C n r K) K:=h
     unfold AR at h
     cases e2:dD m x with
     | none=>rw [e2] at h;exact h
     | some v0 =>
      rw [e2] at h
      refine fun s H=>?_
      obtain ⟨M,F,hM⟩:=H.M
      obtain ⟨h1,h2⟩:=hM.2 _ _ e2
      refine wpAny_AugAssign_Name (wpAny_loadName_local C.hk (bw h2).1 F.ns h1 ?_)
      exact (hv h).run H fun v s₁ _ _ _ H₁ h₁=>(Bl h₁).run H₁ fun v s₂ _ _ _ H₂ h₂=>(oY h₂).run H₂ fun _ s₃ _ _ _ H₃ h₃=>H₃.ret h₃
    | _=>exact h
   | Return e pos=>cases e with
    | some e=>exact fun s H=>wpAny_Return_some ((hv h).run H fun v s₁ _ _ _ H₁ h₁=>H₁.ret h₁)
    | none=>exact fun s H=>wpAny_Return_none (H.ret h)
   | Expr e pos=>exact en (b:=gK e) h (fun hp h s H=>wpAny_Expr_any ((hv h).run H fun v s₁ _ _ _ H₁ h₁=>H₁.ret h₁) (by unfold interactive;rw [C.hk];rfl) (mA hp)) id
   | Pass pos=>exact fun s H=>wpAny_Pass (H.ret h)
   | Break pos=>exact fun s H=>wpAny_Break (H.ret h)
   | Continue pos=>exact fun s H=>wpAny_Continue (H.ret h)
   | _=>exact h
theorem bb {n:Nat} {test:PySem.Expr} {b o:List Stmt} {pos:Pos} {K:KF} (h:Br C (cE C 12) 12 test t m l (cS C n b K) (cS C n o K)):af C (exec (.If test b o pos) C.env) t m l K:=fun s H =>
 wpAny_If ((dz (aw 12) 12 h).run H fun c s₁ _ _ _ H₁ h₁=>by
  cases c with
  | true=>exact bY n (h₁.1 rfl) s₁ H₁
  | false=>exact bY n (h₁.2 rfl) s₁ H₁)
end
end
section
noncomputable def Sq (w:World) (f:Addr) (lv':Nat) (vs:List Value) (l l':Led) (R:Value → Led → Prop):Prop :=
 ∀ {cs:Sc} {lv:Nat} (C:Cx w cs lv) (t:Nat) (m:Map) (k:KV),lv' ≤ lv → (∀ v new t',R v new → k v t' m (new++l')) → af C (call (.ref f) vs) t m l k
noncomputable def tD:Map → Bool
 | []=>true
 | p :: r=>match r.all fun q=>!(gT q.1 p.1) with
  | true=>tD r
  | false=>false
theorem gi {x:PySem.Str}:∀ {a b:Map},(∀ p ∈ a,p.1 ≠ x) → (a++b).lookup x = b.lookup x
 | [],_,_=>rfl
 | p :: r,b,h=>by
  show (match x == p.1 with | true=>some p.2 | false=>(r++b).lookup x) = _
  rw [beq_eq_false_iff_ne.mpr (h p (.head _)).symm]
  exact gi fun q hq=>h q (.tail _ hq)
theorem fK {x:PySem.Str} {v:Value}:∀ {a b:Map},a.lookup x = some v → (a++b).lookup x = some v
 | [],_,h=>by cases h
 | p :: r,b,h=>by
  show (match x == p.1 with | true=>some p.2 | false=>(r++b).lookup x) = _
  replace h:(match x == p.1 with | true=>some p.2 | false=>r.lookup x) = some v:=h
  cases e:x == p.1 with
  | true=>rw [e] at h;exact h
  | false=>rw [e] at h;exact fK h
theorem fT:∀ {b:Map} {x:PySem.Str} {v:Value},tD b = true → dD b x = some v → b.reverse.lookup x = some v
 | [],_,_,_,h=>by cases h
 | p :: r,x,v,hd,h=>by
  unfold tD at hd
  split at hd
  ·rename_i ha
   rw [List.reverse_cons]
   unfold dD at h
   cases e:gT p.1 x with
   | true =>
    rw [e] at h
    rw [gi (fun q hq=>?_)]
    ·show (match x == p.1 with | true=>some p.2 | false=>none) = _
     rw [cT e,beq_self_eq_true];exact h
    ·have:=List.all_eq_true.mp ha q (List.mem_reverse.mp hq)
     rw [← cT e]
     exact po (by simpa using this)
   | false =>
    rw [e] at h
    exact fK (fT hd h)
  ·cases hd
noncomputable def xm:Flow → Value
 | .ret v=>v
 | _=>.none
noncomputable def EO (l':Led) (R:Value → Led → Prop):KF:=fun fl _ _ l2=>∃ new,aq (new++l') l2 ∧ R (xm fl) new
theorem br {w:World} {f:Addr} {lv:Nat} {vs:List Value} {l l':Led} {R:Value → Led → Prop} {name qual:PySem.Str} {params:Arguments} {body:List Stmt} {scope:Scope} {dV kV doc pm cdv ct oc:Value} {an od:Option Addr} {osl:Array (Option Value)} (binds:Map) (n:Nat)
  (ho:(K w.params).lookup f = some ⟨oc,od,.func (fnOf name qual params body scope dV kV doc pm an cdv ct),osl⟩) (hcd:codeIn (K w.params) cdv qual = true)
  (hbind:∀ s,(K w.params).In s.heap → BindsTo s (fnOf name qual params body scope dV kV doc pm an cdv ct) ⟨vs,[]⟩ binds)
  (hsc:(!scope.isCoroutine && (!scope.isGenerator && (scope.names.all fun x=>x.2 != .cell))) = true) (hk:scope.kind = .function) (hb:(tD binds && binds.all fun p=>gN ⟨scope,false⟩ p.1) = true)
  (h:∀ (C:Cx w ⟨scope,false⟩ lv) (t:Nat),cS C n body (EO l' R) t binds l):Sq w f lv.succ vs l l' R:=by
 intro cs lv2 C t m k hlv hk' s H
 obtain ⟨h1,h2⟩:=Bool.and_eq_true_iff.mp hsc
 obtain ⟨h3,h4⟩:=Bool.and_eq_true_iff.mp h2
 obtain ⟨h5,h6⟩:=Bool.and_eq_true_iff.mp hb
 obtain ⟨M,F,hM⟩:=H.M
 have hd:=C.hd
 have hu:=C.hu
 refine wpAny_call (dQ binds C.B F C.X H.N C.T rfl rfl C.hk ho hcd (show C.dp < recursionLimit by exact aA fun h9=>lN [_,_,0,_] [(1,.l V0 V1),(1,.t (.a V1 V3) V0)] (.c h9 (.c hd .n))) (hbind _ (C.X.keeps F.keep)) (fun y hy=>(bw (List.all_eq_true.mp h6 y hy)).1) (fun g L' h₁ tk FG F' N' B' X' T'=>?_) (by simpa using h1) (by simpa using h3) hk (fun x hx=>by simpa using List.all_eq_true.mp h4 x hx))
 have HA:At (cs:=⟨scope,false⟩) (lv:=lv) ⟨C.dp + 1,C.un + 3,C.gd,qual,f,cdv,[],C.env :: C.outer,C.A,C.base,g,L',C.mean,C.mg,C.mb,s,B',X',T',hk,by exact aA fun h9=>lN [_,_,_,_] [(1,.l V0 (.a (.a V1 K1) V2)),(1,.l (.a V2 K1) V3),(1,.t (.a V1 V3) V0)] (.c h9 (.c hlv (.c hd .n))),by exact aA fun h9=>lN [_,_,_,_] [(1,.l V0 (.a (.a V1 (.k 3)) (.m 40 V2))),(40,.l (.a V2 K1) V3),(1,.t (.a V1 (.m 40 V3)) V0)] (.c h9 (.c hlv (.c hu .n))),fun _=>True,fun _ _=>trivial⟩ { s with heap:=h₁,toks:=tk } tk binds l :=
  ⟨rfl,rfl,rfl,rfl,N',H.nd,_,F',trivial,fun x v e=>⟨fT h5 e,List.all_eq_true.mp h6 _ (dS e)⟩⟩
 refine wpAny_mono (bY n (h _ tk) _ HA) (fun fl s' q=>?_) (fun _ _ x=>x.elim)
 obtain ⟨t',m',l2,H',new,hs,hR⟩:=q
 obtain ⟨M',F',_⟩:=H'.M
 refine leaveK_ F' (fun p hp=>H'.N p (hs.mem p hp)) fun F2 N2=>?_
 have:=hk' (xm fl) new s'.toks hR
 refine ⟨s'.toks,m,new++l',⟨rfl,H'.gens.trans H.gens,H'.drawn.trans H.drawn,H'.os.trans H.os,N2,(hs.nd H'.nd),M,F2,hM⟩,?_⟩
 cases fl <;> exact this
end
section
theorem aS {lb:List (PySem.Str × Nat)} {y:PySem.Str} {t:Nat}:strValues (lb++[(y,t)]) = strValues lb++[.str y t]:=by simp [strValues]
theorem D5 {a b:PySem.Str} (e:a ≠ b) (h:(a != b) = false):False:=e (by simpa using h)
theorem cr {y z:PySem.Str} {t:Nat} (e:z = y):gl y (.str z t) []:=⟨rfl,t,by rw [e]⟩
noncomputable abbrev cU (x:PySem.Str):PySem.Str:=Txt.slice x none (some (Txt.rfind x (Str.ofString "/") + 1))
noncomputable def eK (x:PySem.Str):PySem.Str:=if (cU x).length ≠ 0 then (if (cU x != Txt.mul (Str.ofString "/") (cU x).length) = true then Txt.rstripChars (cU x) (Str.ofString "/") else cU x) else cU x
theorem BA {x:PySem.Str} (a:(cU x).length ≠ 0) (b:(cU x != Txt.mul (Str.ofString "/") (cU x).length) = true):Txt.rstripChars (cU x) (Str.ofString "/") = eK x:=by
 unfold eK;rw [if_pos a,if_pos b]
theorem Ct {x:PySem.Str} (a:(cU x).length ≠ 0) (b:(cU x != Txt.mul (Str.ofString "/") (cU x).length) = false):cU x = eK x:=by
 unfold eK;rw [if_pos a,if_neg (by rw [b];exact Bool.false_ne_true)]
theorem AV {x:PySem.Str} (a:(cU x).length = 0):cU x = eK x:=by
 unfold eK;rw [if_neg (fun h=>h a)]
noncomputable def bt (acc:List PySem.Str) (c:PySem.Str):List PySem.Str :=
 if c.length = 0 ∨ c = Str.ofString "." then acc
 else if c ≠ Str.ofString ".." ∨ (acc ≠ [] ∧ acc.getLast? = some (Str.ofString "..")) then acc++[c]
 else acc.dropLast
noncomputable def yL (l:List PySem.Str):List PySem.Str:=l.foldl bt []
noncomputable def l5 (x:PySem.Str):PySem.Str:=Str.ofString "/" ++ Txt.join (Str.ofString "/") (yL (Txt.split (Txt.slice x (some 1) none) (Str.ofString "/")))
theorem uY {l:List PySem.Str} {i:Nat} {y:PySem.Str} (h:l[i]? = some y):yL (l.take (i + 1)) = bt (yL (l.take i)) y:=by
 unfold yL
 rw [List.take_add_one,h,List.foldl_append]
 rfl
theorem qq {acc:List PySem.Str} {c y:PySem.Str} (h:y ∈ bt acc c):y ∈ acc ∨ y = c:=by
 unfold bt at h
 split at h
 ·exact .inl h
 ·split at h
  ·rcases aH h with h | h
   ·exact .inl h
   ·exact .inr (List.mem_singleton.mp h)
  ·exact .inl (List.dropLast_subset _ h)
theorem mq {y:PySem.Str}:∀ {l acc:List PySem.Str},y ∈ l.foldl bt acc → y ∈ acc ∨ y ∈ l
 | [],_,h=>.inl h
 | c :: r,acc,h=>by
  rcases mq (l:=r) h with h | h
  ·rcases qq h with h | h
   ·exact .inl h
   ·exact .inr (h ▸ List.mem_cons_self)
  ·exact .inr (al h)
theorem yN {y:PySem.Str} {l:List PySem.Str} (h:y ∈ yL l):y ∈ l:=by
 rcases mq h with h | h
 ·cases h
 ·exact h
theorem FR {acc:List PySem.Str} {y:PySem.Str} (h:y.length = 0):bt acc y = acc:=by unfold bt;rw [if_pos (.inl h)]
theorem FN {acc:List PySem.Str} {y:PySem.Str} (h:(y == Str.ofString ".") = true):bt acc y = acc:=by unfold bt;rw [if_pos (.inr (by simpa using h))]
theorem Eb {acc:List PySem.Str} {y:PySem.Str} (h1:y.length ≠ 0) (h2:(y == Str.ofString ".") = false):bt acc y = if y ≠ Str.ofString ".." ∨ (acc ≠ [] ∧ acc.getLast? = some (Str.ofString "..")) then acc++[y] else acc.dropLast:=by
 unfold bt;rw [if_neg (by rintro (h | h);exact h1 h;rw [h] at h2;simp at h2)]
theorem FP {acc:List PySem.Str} {y:PySem.Str} (h1:y.length ≠ 0) (h2:(y == Str.ofString ".") = false) (h3:(y != Str.ofString "..") = true):bt acc y = acc++[y]:=by
 rw [Eb h1 h2,if_pos (.inl (by simpa using h3))]
theorem FO {lv:List (PySem.Str × Nat)} {y z:PySem.Str} {t:Nat} (h1:y.length ≠ 0) (h2:(y == Str.ofString ".") = false) (e:lv.getLast? = some (z,t)) (h4:(z == Str.ofString "..") = true):bt (lv.map (·.1)) y = lv.map (·.1)++[y]:=by
 have h5:z = Str.ofString ".." := by simpa using h4
 have h6:lv.map (·.1) ≠ []:=by intro h;simp at h;rw [h] at e;cases e
 have h7:(lv.map (·.1)).getLast? = some (Str.ofString ".."):=by rw [List.getLast?_map,e,h5];rfl
 rw [Eb h1 h2,if_pos (.inr ⟨h6,h7⟩)]
theorem FU {lv:List (PySem.Str × Nat)} {y z:PySem.Str} {t:Nat} (h1:y.length ≠ 0) (h2:(y == Str.ofString ".") = false) (h3:(y != Str.ofString "..") = false) (e:lv.getLast? = some (z,t)) (h4:(z == Str.ofString "..") = false):bt (lv.map (·.1)) y = (lv.map (·.1)).dropLast:=by
 rw [Eb h1 h2,if_neg]
 rintro (h | h)
 ·exact D5 h h3
 ·rw [List.getLast?_map,e] at h
  have:=Option.some.inj h.2
  rw [show z = Str.ofString ".." from this] at h4;simp at h4
theorem FS {lv:List (PySem.Str × Nat)} {y:PySem.Str} (h1:y.length ≠ 0) (h2:(y == Str.ofString ".") = false) (h3:(y != Str.ofString "..") = false) (e:(strValues lv).isEmpty = true):bt (lv.map (·.1)) y = lv.map (·.1):=by
 cases lv with
 | cons a r=>cases e
 | nil =>
  rw [Eb h1 h2,if_neg]
  ·rfl
  ·rintro (h | h)
   ·exact D5 h h3
   ·exact h.1 rfl
noncomputable def aF (a b:PySem.Str):PySem.Str:=if Txt.endswith a (Str.ofString "/") = true then a++b else a++(Str.ofString "/" ++ b)
theorem iB {α β:Type} {f:α → β → α} {a:α} {l:List β} {i:Nat} {y:β} (h:l[i]? = some y):(l.take (i + 1)).foldl f a = f ((l.take i).foldl f a) y:=by
 rw [List.take_add_one,h,List.foldl_append];rfl
noncomputable def bI:Nat → List (Int × PySem.Str)
 | 0=>[(40960,Str.ofString "l"),(49152,Str.ofString "s"),(32768,Str.ofString "-"),(24576,Str.ofString "b"),(16384,Str.ofString "d"),(8192,Str.ofString "c"),(4096,Str.ofString "p")]
 | 1=>[(256,Str.ofString "r")]
 | 2=>[(128,Str.ofString "w")]
 | 3=>[(2112,Str.ofString "s"),(2048,Str.ofString "S"),(64,Str.ofString "x")]
 | 4=>[(32,Str.ofString "r")]
 | 5=>[(16,Str.ofString "w")]
 | 6=>[(1032,Str.ofString "s"),(1024,Str.ofString "S"),(8,Str.ofString "x")]
 | 7=>[(4,Str.ofString "r")]
 | 8=>[(2,Str.ofString "w")]
 | 9=>[(513,Str.ofString "t"),(512,Str.ofString "T"),(1,Str.ofString "x")]
 | _=>[]
noncomputable def pT:List Addr:=[383,385,387,391,393,395,399,401,403,407]
noncomputable def pK (P:Params) (ra:Addr) (p:Int × PySem.Str):Prop:=∃ lo tb tc,(K P).lookup ra = some lo ∧ lo.cls = .type "tuple" ∧ lo.data = .seq #[.int p.1 tb,.str p.2 tc] 0
noncomputable def cy (P:Params):List Addr → List (Int × PySem.Str) → Prop
 | [],[]=>True
 | a :: r,p :: q=>pK P a p ∧ cy P r q
 | _,_=>False
theorem cy.at {P:Params}:∀ {l:List Addr} {r:List (Int × PySem.Str)} {j:Nat} {a:Addr},cy P l r → l[j]? = some a → ∃ p,r[j]? = some p ∧ pK P a p
 | [],_,_,_,_,h=>by simp at h
 | _ :: _,[],_,_,h,_=>h.elim
 | x :: l,p :: r,0,a,h,e=>⟨p,rfl,by simp at e;exact e ▸ h.1⟩
 | x :: l,p :: r,j + 1,a,h,e=>cy.at (l:=l) (r:=r) (j:=j) h.2 (by simpa using e)
theorem cy.len {P:Params}:∀ {l:List Addr} {r:List (Int × PySem.Str)},cy P l r → l.length = r.length
 | [],[],_=>rfl
 | [],_ :: _,h=>h.elim
 | _ :: _,[],h=>h.elim
 | _ :: l,_ :: r,h=>congrArg (· + 1) (cy.len (l:=l) (r:=r) h.2)
noncomputable def Az (P:Params) (ta:Addr) (row:List (Int × PySem.Str)):Prop:=∃ lo ras,(K P).lookup ta = some lo ∧ lo.cls = .type "tuple" ∧ lo.data = .seq (ras.map Value.ref).toArray 0 ∧ cy P ras row
theorem Bc (P:Params):∀ i ta,pT[i]? = some ta → Az P ta (bI i):=by
 refine (fun h:(rW = rW ∧ K = K) → (∀ i ta,pT[i]? = some ta → Az P ta (bI i))=>h ⟨rfl,rfl⟩) ?_
 k_fill
 intro _
 have pk:∀ ra lo tb tc (p:Int × PySem.Str),(K P).lookup ra = some lo → lo.cls = .type "tuple" → lo.data = .seq #[.int p.1 tb,.str p.2 tc] 0 → pK P ra p:=fun ra lo tb tc p a b c=>⟨lo,tb,tc,a,b,c⟩
 intro i ta h
 rcases i with _ | _ | _ | _ | _ | _ | _ | _ | _ | _ | i
 all_goals (try cases h)
 ·exact ⟨_,[376,377,378,379,380,381,382],by k_is,rfl,rfl,pk 376 _ _ _ _ (by k_is) rfl rfl,pk 377 _ _ _ _ (by k_is) rfl rfl,pk 378 _ _ _ _ (by k_is) rfl rfl,pk 379 _ _ _ _ (by k_is) rfl rfl,pk 380 _ _ _ _ (by k_is) rfl rfl,pk 381 _ _ _ _ (by k_is) rfl rfl,pk 382 _ _ _ _ (by k_is) rfl rfl,trivial⟩
 ·exact ⟨_,[384],by k_is,rfl,rfl,pk 384 _ _ _ _ (by k_is) rfl rfl,trivial⟩
 ·exact ⟨_,[386],by k_is,rfl,rfl,pk 386 _ _ _ _ (by k_is) rfl rfl,trivial⟩
 ·exact ⟨_,[388,389,390],by k_is,rfl,rfl,pk 388 _ _ _ _ (by k_is) rfl rfl,pk 389 _ _ _ _ (by k_is) rfl rfl,pk 390 _ _ _ _ (by k_is) rfl rfl,trivial⟩
 ·exact ⟨_,[392],by k_is,rfl,rfl,pk 392 _ _ _ _ (by k_is) rfl rfl,trivial⟩
 ·exact ⟨_,[394],by k_is,rfl,rfl,pk 394 _ _ _ _ (by k_is) rfl rfl,trivial⟩
 ·exact ⟨_,[396,397,398],by k_is,rfl,rfl,pk 396 _ _ _ _ (by k_is) rfl rfl,pk 397 _ _ _ _ (by k_is) rfl rfl,pk 398 _ _ _ _ (by k_is) rfl rfl,trivial⟩
 ·exact ⟨_,[400],by k_is,rfl,rfl,pk 400 _ _ _ _ (by k_is) rfl rfl,trivial⟩
 ·exact ⟨_,[402],by k_is,rfl,rfl,pk 402 _ _ _ _ (by k_is) rfl rfl,trivial⟩
 ·exact ⟨_,[404,405,406],by k_is,rfl,rfl,pk 404 _ _ _ _ (by k_is) rfl rfl,pk 405 _ _ _ _ (by k_is) rfl rfl,pk 406 _ _ _ _ (by k_is) rfl rfl,trivial⟩
noncomputable def bh (x:Int) (i:Nat) (b:Int):Bool:=if i = 0 then Builtin.bitAnd x 61440 == b else Builtin.bitAnd x b == b
noncomputable def dg (x:Int) (i:Nat):PySem.Str:=match (bI i).find? (fun p=>bh x i p.1) with | some p=>p.2 | none=>if i = 0 then Str.ofString "?" else Str.ofString "-"
theorem vW {x:Int} {i j:Nat} {p:Int × PySem.Str} (h:(bI i)[j]? = some p) (h0:∀ q ∈ (bI i).take j,bh x i q.1 = false) (h1:bh x i p.1 = true):dg x i = p.2:=by
 unfold dg
 have e:(bI i).find? (fun p=>bh x i p.1) = some p:=by
  have hs:bI i = (bI i).take j++p :: (bI i).drop (j + 1):=by
   have hj:=(List.getElem?_eq_some_iff.mp h)
   rw [← hj.2,← List.drop_eq_getElem_cons hj.1,List.take_append_drop]
  rw [hs,List.find?_append,List.find?_eq_none.mpr (fun q hq=>by rw [h0 q hq];exact Bool.false_ne_true)]
  simp [h1]
 rw [e]
theorem sS {x:Int} {i:Nat} (h0:∀ q ∈ bI i,bh x i q.1 = false):dg x i = if i = 0 then Str.ofString "?" else Str.ofString "-" := by
 unfold dg
 rw [List.find?_eq_none.mpr (fun q hq=>by rw [h0 q hq];exact Bool.false_ne_true)]
noncomputable def mL (x:Int):List PySem.Str:=(List.range 10).map (dg x)
theorem Eo {x b:Int} {i:Nat}:bh x i b = true ↔ ((i = 0 ∧ Builtin.bitAnd x 61440 = b) ∨ (i ≠ 0 ∧ Builtin.bitAnd x b = b)):=by
 unfold bh;split
 ·rename_i h;simp [h]
 ·rename_i h;simp [h]
theorem AO {i:Nat} (h:(i:Int) ≠ 0):¬ i = 0:=by omega
theorem CX {x b:Int} {i:Nat} (h:(i:Int) = 0) (e:Builtin.bitAnd x 61440 = b):bh x i b = true:=Eo.mpr (.inl ⟨by exact aN (fun h9=>lI [_] [(1,.t K0 V0),(1,.e V0 K0)] (.c (zt h9) (.c h .n))) (fun h9=>lI [_] [(1,.t V0 K0),(1,.l K0 V0)] (.c (zt h9) (.c (zn _) .n))),e⟩)
theorem D6 {x b:Int} {i:Nat} (h:(i:Int) ≠ 0) (e:Builtin.bitAnd x b = b):bh x i b = true:=Eo.mpr (.inr ⟨by omega,e⟩)
theorem DV {x b:Int} {i:Nat} (h:(i:Int) = 0) (e:Builtin.bitAnd x 61440 ≠ b):bh x i b = false:=by
 rw [← Bool.not_eq_true,Eo];rintro (⟨_,h2⟩ | ⟨h1,_⟩)
 ·exact e h2
 ·exact lI [_] [(1,.e V0 K0),(1,.t V0 K0),(2,.l K0 V0)] (.c h (.c (zt (Nat.lt_of_le_of_ne (ae fun h9=>lI [_] [(1,.t K0 V0),(1,.e V0 K0)] (.c (zt h9) (.c h .n))) h1)) (.c (zn _) .n)))
theorem Dx {x b:Int} {i:Nat} (h:(i:Int) ≠ 0) (e:Builtin.bitAnd x b ≠ b):bh x i b = false:=by
 rw [← Bool.not_eq_true,Eo];rintro (⟨h1,_⟩ | ⟨_,h2⟩)
 ·omega
 ·exact e h2
theorem ma {α:Type} {p:α → Prop} {l:List α} {j:Nat} {a:α} (h:l[j]? = some a) (h0:∀ q ∈ l.take j,p q) (h1:p a):∀ q ∈ l.take (j + 1),p q:=by
 rw [List.take_add_one,h]
 intro q hq
 rcases aH hq with hq | hq
 ·exact h0 q hq
 ·rw [Option.toList_some,List.mem_singleton] at hq;exact hq ▸ h1
theorem sP (x:Int):(mL x).length = 10:=by unfold mL;rw [List.length_map,List.length_range]
theorem u9 {x:Int} {i:Nat} (h:i < 10):(mL x).take (i + 1) = (mL x).take i++[dg x i]:=by
 have h1:(mL x)[i]? = some (dg x i):=by unfold mL;rw [List.getElem?_map,List.getElem?_range h];rfl
 rw [List.take_add_one,h1];rfl
theorem zb (x:Int) (i:Nat):(dg x i).length ≤ 1000:=by
 have hr:∀ i,∀ q ∈ bI i,q.2.length ≤ 1000:=by
  intro i
  rcases i with _ | _ | _ | _ | _ | _ | _ | _ | _ | _ | i
  all_goals first | (simp only [bI,List.mem_cons,List.not_mem_nil,or_false];intro q hq;rcases hq with rfl | rfl | rfl | rfl | rfl | rfl | rfl <;> decide) | (simp only [bI,List.mem_cons,List.not_mem_nil,or_false];intro q hq;rcases hq with rfl | rfl | rfl <;> decide) | (simp only [bI,List.mem_cons,List.not_mem_nil,or_false];intro q hq;rcases hq with rfl;decide) | (intro q hq;cases hq)
 unfold dg
 split
 ·rename_i p e;exact hr i p (List.mem_of_find?_eq_some e)
 ·split <;> decide
theorem rQ {x:Int} {y:PySem.Str} (h:y ∈ mL x):y.length ≤ 1000:=by
 unfold mL at h
 obtain ⟨i,_,rfl⟩:=List.mem_map.mp h
 exact zb x i
theorem kJ {x:Int} {i:Nat} {l:List (PySem.Str × Nat)} {y:PySem.Str} {t:Nat} (h:i < 10) (hP:l.map (·.1) = (mL x).take i) (hl:l.length = i) (e:dg x i = y) :
  (l++[(y,t)]).map (·.1) = (mL x).take (i + 1) ∧ (l++[(y,t)]).length = i + 1:=by
 rw [u9 h,List.map_append,hP,e,List.length_append,hl];exact ⟨rfl,rfl⟩
noncomputable def cw (l:List PySem.Str):PySem.Str:=l.foldl (fun a n=>aF (aF (aF a (Str.ofString "x")) (Str.ofString "..")) n) (Str.ofString "/")
noncomputable def f0:List (List PySem.Str):=[[],[Str.ofString "p"],[Str.ofString "p",Str.ofString "q"],[Str.ofString "r"]]
noncomputable def names:List PySem.Str:=[Str.ofString "a",Str.ofString "b",Str.ofString "c",Str.ofString "d",Str.ofString "e",Str.ofString "f",Str.ofString "g",Str.ofString "h",Str.ofString "i"]
noncomputable def aL:List (List PySem.Str):=[[Str.ofString "p"],[Str.ofString "p",Str.ofString "q"],[Str.ofString "r"]]++f0.flatMap fun f=>names.map fun n=>f++[n]
noncomputable def bJ (l:List PySem.Str):PySem.Str:=Str.ofString "/" ++ Txt.join (Str.ofString "/") l
noncomputable def w9 (l:List PySem.Str):Bool:=((List.range (l.length + 1)).all fun i=>decide ((cw (l.take i)).length ≠ 0) && decide ((cw (l.take i)).length ≤ 900)) && (l.all fun y=>decide (y.length ≤ 100) && !Txt.startswith y (Str.ofString "/"))
 && decide (Txt.slice (cw l) none (some 1) = Str.ofString "/") && decide (Txt.slice (cw l) (some 1) (some 2) ≠ Str.ofString "/") && decide ((Txt.split (Txt.slice (cw l) (some 1) none) (Str.ofString "/")).length ≤ 1000)
 && decide (l5 (cw l) = bJ l) && decide ((bJ l).length ≤ 100) && decide (l.length ≤ 3)
theorem By:aL.all w9 = true:=by decide +kernel
theorem cf {l:List PySem.Str} (h:l ∈ aL):(∀ i ≤ l.length,(cw (l.take i)).length ≠ 0 ∧ (cw (l.take i)).length ≤ 900) ∧ (∀ y ∈ l,y.length ≤ 100 ∧ Txt.startswith y (Str.ofString "/") = false) ∧ Txt.slice (cw l) none (some 1) = Str.ofString "/" ∧
  Txt.slice (cw l) (some 1) (some 2) ≠ Str.ofString "/" ∧ (Txt.split (Txt.slice (cw l) (some 1) none) (Str.ofString "/")).length ≤ 1000 ∧ l5 (cw l) = bJ l ∧ (bJ l).length ≤ 100 ∧ l.length ≤ 3:=by
 have h1:=List.all_eq_true.mp By l h
 unfold w9 at h1
 simp only [Bool.and_eq_true,List.all_eq_true,decide_eq_true_eq,List.mem_range,Bool.not_eq_true'] at h1
 obtain ⟨⟨⟨⟨⟨⟨⟨a,b⟩,c⟩,d⟩,e⟩,f⟩,g⟩,k⟩:=h1
 exact ⟨fun i hi=>a i (Nat.lt_succ_of_le hi),b,c,d,e,f,g,k⟩
noncomputable def eg (letter:PySem.Str):Int:=if letter = Str.ofString "d" then 16384 else 32768
noncomputable def CU (x:Int):PySem.Str:=Txt.join (Str.ofString "") (mL x)
noncomputable def uk (parts:List PySem.Str) (letter:PySem.Str) (x:Int):PySem.Str:=(CU (eg letter + x)++Str.ofString " ")++bJ parts
theorem o8 {l:List PySem.Str} {i:Nat} {y:PySem.Str} (h:l[i]? = some y):cw (l.take (i + 1)) = aF (aF (aF (cw (l.take i)) (Str.ofString "x")) (Str.ofString "..")) y:=iB h
theorem w7 {x:Int}:(Txt.join (Str.ofString "") (mL x)).length ≤ 10000:=by
 have h:=Ax (sep:=Str.ofString "") (B:=1000) (l:=mL x) fun y hy=>rQ hy
 rw [sP,show (Str.ofString "").length = 0 by decide] at h
 exact ae fun h9=>lN [_] [(1,.t (.k 10000) V0),(1,.l V0 (.m 10 (.k 1000)))] (.c h9 (.c h .n))
end
section
section
variable {prog:Program} {w:World} {A:Around} {E:Value → Shared → Prop} {s:Shared}
theorem eM {it l:Addr} {i:Nat} {items:Array Value} {x:Value} {Q:Value → Shared → Prop} (hit:s.heap.IsTupleIter it l i)
  (hl:s.heap.IsTuple l items) (hx:items[i]? = some x)
  (hQ:∀ h',h'.IsTupleIter it l (i + 1) → Heap.SameBut it s.heap h' → Q x { s with heap:=h' }) :
  wpAny (model prog w) A (Builtin.SmallTypes.nextOf (.ref it)) Q E s:=by
 obtain ⟨o,ho,hc,hd⟩:=id hit
 obtain ⟨ol,hol,_,nl,hdl⟩:=hl
 unfold Builtin.SmallTypes.nextOf
 refine wpAny_bind (wpAny_callSpecial?_slot (name:=Str.ofString "__next__") hit.typeIs F.slot_tuple_iterator_next
  (wpAny_call_entry F.slot_tuple_iterator_next hit.typeIs F.entry_tuple_iterator_next ?_ (F.args_tuple_iterator_next_1 _)))
 show wpAny _ _ (field (.ref it) 0 >>= _) _ _ s
 refine wpAny_bind (wpAny_field ho hd (x:=.ref l) rfl ?_)
 show wpAny _ _ (if (Value.ref l == Value.none) = true then _ else _) _ _ s
 rw [if_neg (show ¬ ((Value.ref l == Value.none) = true) from Bool.false_ne_true)]
 show wpAny _ _ (field (.ref it) 1 >>= _) _ _ s
 refine wpAny_bind (wpAny_field ho hd (x:=.int i 0) rfl ?_)
 show wpAny _ _ (seqItems? (.ref l) >>= _) _ _ s
 refine wpAny_bind (wpAny_seqItems hol hdl ?_)
 simp only [Int.toNat_natCast,hx]
 refine wpAny_bind (wpAny_setField ho hd (by simp) (wpAny_pure ⟨x,rfl,wpAny_pure (hQ _ ?_ (Heap.SameBut.update ..))⟩))
 exact ⟨_,Heap.get?_update_self _ ho (Obj.isFreed_of_fields (Obj.data_mapFields hd _)),(Obj.cls_mapFields ..).trans hc,by
  rw [Obj.data_mapFields hd];simp [rawInt]⟩
theorem fy {it l:Addr} {i:Nat} {items:Array Value} {Q:Value → Shared → Prop} (hh:A.handled = none)
  (hit:s.heap.IsTupleIter it l i) (hl:s.heap.IsTuple l items) (hx:items[i]? = none)
  (hE:∀ h' e,Heap.ExtBut it s.heap h' → (∃ o,h'.get? e = some o ∧ o.cls = .type "StopIteration") → E (.ref e) { s with heap:=h' }) :
  wpAny (model prog w) A (Builtin.SmallTypes.nextOf (.ref it)) Q E s:=by
 obtain ⟨o,ho,hc,hd⟩:=id hit
 obtain ⟨ol,hol,_,nl,hdl⟩:=hl
 unfold Builtin.SmallTypes.nextOf
 refine wpAny_bind (wpAny_callSpecial?_slot (name:=Str.ofString "__next__") hit.typeIs F.slot_tuple_iterator_next
  (wpAny_call_entry F.slot_tuple_iterator_next hit.typeIs F.entry_tuple_iterator_next ?_ (F.args_tuple_iterator_next_1 _)))
 show wpAny _ _ (field (.ref it) 0 >>= _) _ _ s
 refine wpAny_bind (wpAny_field ho hd (x:=.ref l) rfl ?_)
 show wpAny _ _ (if (Value.ref l == Value.none) = true then _ else _) _ _ s
 rw [if_neg (show ¬ ((Value.ref l == Value.none) = true) from Bool.false_ne_true)]
 show wpAny _ _ (field (.ref it) 1 >>= _) _ _ s
 refine wpAny_bind (wpAny_field ho hd (x:=.int i 0) rfl ?_)
 show wpAny _ _ (seqItems? (.ref l) >>= _) _ _ s
 refine wpAny_bind (wpAny_seqItems hol hdl ?_)
 simp only [Int.toNat_natCast,hx]
 refine wpAny_bind (wpAny_rule (wpAny_bind (wpAny_setField ho hd (by simp) ?_)))
 show wpAny _ _ (newExc (.type "StopIteration") [] >>= _) _ _ _
 refine wpAny_bind ?_
 simp only [newExc,newTuple]
 refine wpAny_bind (wpAny_newObj_type ?_ (by size_fits))
 refine wpAny_bind (m:=firstArgMember _ _) (wpAny_of_eq (a:=Value.none) (by first | rfl | (simp only [firstArgMember];rfl)) ?_)
 refine wpAny_newObj_type ?_ (by size_fits)
 simp only [raiseNew]
 refine wpAny_bind (wpAny_handled ?_)
 first | rw [show A.in1.handled = none from hh] | rw [hh]
 refine wpAny_bind (wpAny_pure (wpAny_throw ?_))
 exact hE _ _ (((Heap.SameBut.update ..).extBut.push _).push _) ⟨_,Heap.get?_push_size _ rfl,rfl⟩
end
theorem mB {prog:Program} {w:World} {A:Around} (hh:A.handled = none) (it l:Addr) (hne:l ≠ it) (items:Array Value) :
  Draws prog w A it [it,l] items.size (fun i v=>items[i]? = some v) (fun i h=>h.IsTupleIter it l i ∧ h.IsTuple l items) where
 live:=fun _ _ st=>let ⟨o,ho,_⟩:=st.1;⟨o,ho⟩
 frame:=fun _ _ _ st hk=>⟨st.1.at fun o e=>hk it (by simp) o e,st.2.at fun o e=>hk l (by simp) o e⟩
 item:=fun i s Q E hi st hQ=>by
  refine eM st.1 st.2 (x:=items[i]) (by simp [hi]) fun h' hit' hs'=>?_
  exact hQ _ h' s.toks (by simp [hi]) ⟨hit',st.2.extBut hs'.extBut hne⟩ hs'
 done:=fun s Q E st hE=>fy hh st.1 st.2 (by simp) hE
theorem gG (l:Addr) (items:Array Value) (n:Nat) (dct:Option Addr) (sl:Array (Option Value)) :
  Meets (Builtin.«enumerate.__new__» ⟨[.type "enumerate",.ref l],[]⟩) (fun _ R s=>s.heap.get? l = some { cls:=.type "tuple",dict:=dct,data:=.seq items n,slots:=sl } ∧
   R (.ok (.ret (.ref (s.heap.push { cls:=.type "tuple_iterator",data:=.fields #[.ref l,.int 0 0] }).objs.size)))
    { s with heap:=(s.heap.push { cls:=.type "tuple_iterator",data:=.fields #[.ref l,.int 0 0] }).push { cls:=.type "enumerate",data:=.fields #[.none,.bool false,.ref s.heap.objs.size,rawInt 0,.none,.none] } }) :=
 .of_wp fun prog w A R s h=>by
  obtain ⟨hp,g,d,tk,os⟩:=s;obtain ⟨hl,h⟩:=h
  have hsub:=sub_enumerate
  have hL:Heap.IsTuple (Shared.heap ⟨hp,g,d,tk,os⟩) l items:=⟨_,hl,rfl,n,rfl⟩
  wp_walk using AutoSeq1.wpAny_loadPart' hl
  refine wpAny_stack_any fun st=>wpAny_pure ?_
  split
  ·rename_i c _ _ _ _ _
   cases (c == Value.type "enumerate")
   ·wp_walk using AutoSeq1.wpAny_loadPart' hl,wpAny_pyIter_tuple hL
    exact ⟨_,rfl,h⟩
   ·wp_walk using AutoSeq1.wpAny_loadPart' hl,wpAny_pyIter_tuple hL
    exact ⟨_,rfl,h⟩
  ·wp_walk using AutoSeq1.wpAny_loadPart' hl,wpAny_pyIter_tuple hL
   exact ⟨_,rfl,h⟩
section
variable {prog:Program} {w:World} {A:Around} {E:Value → Shared → Prop} {s:Shared}
theorem gV {l:Addr} {items:Array Value} {Q:Value → Shared → Prop} (hL:s.heap.IsTuple l items)
  (h:∀ h',IsEnum h' (s.heap.objs.size + 1) s.heap.objs.size 0 .none → h'.IsTupleIter s.heap.objs.size l 0 → h'.objs.size = s.heap.objs.size + 2 →
   (∀ b o,s.heap.get? b = some o → h'.get? b = some o) → Q (.ref (s.heap.objs.size + 1)) { s with heap:=h' }) :
  wpAny (model prog w) A (call (.type "enumerate") [.ref l]) Q E s:=by
 obtain ⟨⟨c,dct,dt,sl⟩,hl,hc,n,hd⟩:=hL
 replace hc:c = .type "tuple" := hc
 replace hd:dt = .seq items n:=hd
 subst hc hd
 refine callType_new F.called_enumerate (by decide) (F.typeCall_enumerate_1 _) (F.newCall_enumerate_1 _) (fun obj=>F.args_object_init_2 obj _) F.entry_enumerate_new
  (gG l items n dct sl) ⟨hl,?_⟩
 have hz:(s.heap.push { cls:=.type "tuple_iterator",data:=.fields #[.ref l,.int 0 0] }).objs.size = s.heap.objs.size + 1:=Heap.size_push ..
 show _ ∧ _
 rw [hz]
 have he:IsEnum ((s.heap.push { cls:=.type "tuple_iterator",data:=.fields #[.ref l,.int 0 0] }).push
   { cls:=.type "enumerate",data:=.fields #[.none,.bool false,.ref s.heap.objs.size,rawInt 0,.none,.none] }) (s.heap.objs.size + 1) s.heap.objs.size 0 .none:=by
  have:=Heap.get?_push_size (s.heap.push { cls:=.type "tuple_iterator",data:=.fields #[.ref l,.int 0 0] })
   (o:={ cls:=.type "enumerate",data:=.fields #[.none,.bool false,.ref s.heap.objs.size,rawInt 0,.none,.none] }) rfl
  rw [hz] at this;exact this
 refine ⟨⟨_,he,rfl⟩,h _ he ⟨_,Heap.get?_push_of_some _ (Heap.get?_push_size _ rfl),rfl,rfl⟩ (by rw [Heap.size_push,hz]) fun b o x=>Heap.get?_push_of_some _ (Heap.get?_push_of_some _ x)⟩
end
section
variable {prog:Program} {w:World} {A:Around} {E:Value → Shared → Prop} {s:Shared} {env:Env} {h₀:Heap} {target:PySem.Expr} {body:List Stmt} {Q:Flow → Shared → Prop} {K:Frag}
theorem uz {elts:List PySem.Expr} {k:Nat} {pos:Pos} {l:Addr} {lo:Obj} {vs:List Value} {n:Nat} {m₀:PySem.Str → Option Value} {news:List (Addr × Obj)}
  (hh:A.handled = none) (F:Fr h₀ env.locals s.heap m₀) (N:News h₀ env.locals s.heap news) (X₀:K.In h₀) (hkl:K.lookup l = some lo) (hc:lo.cls = .type "tuple") (hd:lo.data = .seq vs.toArray n)
  (rest₀:∀ I:Addr,(∀ p ∈ news,p.1 < I) → ItemsRest prog w A E h₀ env (.Tuple elts k pos) body Q s [(I + 1, "enumerate"),(I, "tuple_iterator")] [] (enumItems 0 vs) m₀ news) :
  wpAny (model prog w) A (call (.type "enumerate") [.ref l]) (fun xv s₁=>wpAny (model prog w) A (pyIter xv) (fun it s₂=>TurnsAt prog w A h₀ env (.Tuple elts k pos) body Q E it s₂) E s₁) E s:=by
 have hg:h₀.get? l = some lo:=X₀ _ _ hkl
 have hax:s.heap.get? l = some lo:=F.keep _ _ hg
 have hl:s.heap.IsTuple l vs.toArray:=⟨lo,hax,hc,n,hd⟩
 have hlt:l < s.heap.objs.size:=Heap.lt_size hax
 have hLs:env.locals < s.heap.objs.size:=F.ns.lt
 refine gV hl fun h' hE hI hsz hk=>?_
 refine wpAny_pyIter_enum hE ?_
 refine ktg_core (tk0:=s.toks) (keep:=[]) (KTurns.ofWalksU (WalksT.enumerateD (mB (A:=A.in1) hh s.heap.objs.size l (Nat.ne_of_lt hlt) vs.toArray) (s.heap.objs.size + 1) (Nat.succ_ne_self _) (by
   intro h
   rcases ag h with e | h
   ·exact Nat.succ_ne_self _ e
   ·exact ktu_ne 1 hlt (List.mem_singleton.mp h).symm) List.mem_cons_self).toU) (by simp [enumItems_length]) ?_ ?_ ?_ ?_ ?_ ?_ ?_ ?_ (F.keeps hk) (N.grown hk) trivial (rest₀ _ fun p hp=>Heap.lt_size (N p hp).1)
 ·rintro i v h ⟨T,vals,rfl,⟨t,x,hx,rfl⟩,hT⟩
  refine ⟨_,enumItems_get vs 0 i (v:=x) (by simpa using hx),T,t,rfl,?_⟩
  show IsTup h T #[.int ((0 + i:Nat):Int) t,x]
  rw [Nat.zero_add]
  exact hT
 ·rintro i h ⟨⟨old,he⟩,⟨oi,hoi,hic,_⟩,_⟩
  have he':∃ oe:Obj,h.get? (s.heap.objs.size + 1) = some oe ∧ oe.cls = .type "enumerate" := ⟨_,he,rfl⟩
  obtain ⟨oe,h1,h2⟩:=he'
  refine ⟨[(s.heap.objs.size + 1,oe),(s.heap.objs.size,oi)],⟨⟨rfl,h2⟩,⟨rfl,hic⟩,trivial⟩,fun p hp=>?_⟩
  rcases ag hp with rfl | hp
  ·exact h1
  ·rw [List.mem_singleton.mp hp];exact hoi
 ·intro b hb
  have hb':b = s.heap.objs.size + 1 ∨ b = s.heap.objs.size:=by simpa using hb
  rcases hb' with rfl | rfl
  ·exact ⟨by simp,ktu_new F (Nat.le_add_right _ _)⟩
  ·exact ⟨by simp,ktu_new F (Nat.le_refl _)⟩
 ·intro b hb
  simpa using hb
 ·intro b hb
  have hb':b = s.heap.objs.size + 1 ∨ b = s.heap.objs.size ∨ b = l:=by simpa using hb
  rcases hb' with rfl | rfl | rfl
  ·exact .inl (by simp)
  ·exact .inl (by simp)
  ·exact .inr (.inr ⟨lo,hg⟩)
 ·intro hI'
  have hb':env.locals = s.heap.objs.size + 1 ∨ env.locals = s.heap.objs.size ∨ env.locals = l:=by simpa using hI'
  rcases hb' with e | e | e
  ·exact ktu_ne 1 hLs e
  ·exact Nat.ne_of_lt hLs e
  ·exact absurd (Heap.lt_size hg) (Nat.not_lt.mpr (e ▸ F.above))
 ·intro p hp hI'
  have hb':p.1 = s.heap.objs.size + 1 ∨ p.1 = s.heap.objs.size:=by simpa using hI'
  have hlp:=Heap.lt_size (N p hp).1
  rcases hb' with e | e
  ·exact ktu_ne 1 hlp e
  ·exact Nat.ne_of_lt hlp e
 ·exact ⟨⟨.none,hE⟩,hI,hl.at fun o e=>hk l o e⟩
theorem pC {ws:List (Addr × String)} {keep:List (Addr × Obj)} {xs:List Itm} {m₀:PySem.Str → Option Value} {news:List (Addr × Obj)} (J:Nat → (PySem.Str → Option Value) → List (Addr × Obj) → Prop)
  (hkeep:∀ i m nx,J i m nx → SubL keep nx) (h0:J 0 m₀ news) (hoff:∀ p ∈ news,∀ b ∈ ws.map (·.1),p.1 ≠ b)
  (turn:∀ i a v m₁ nx h tk own,xs[i]? = some a → a.Is v h → OwnOff own (nx.map (·.1)) → J i m₁ nx → Fr h₀ env.locals h m₁ → News h₀ env.locals h (nx++own) →
   wpAny (model prog w) A (assign target env v) (fun _ s₃=>wpAny (model prog w) A (execs body env) (InvPostG h₀ env.locals (J (i + 1)) own { s with heap:=h,toks:=tk } Q) E s₃) E { s with heap:=h,toks:=tk })
  (done:∀ m₁ nx h tk,J xs.length m₁ nx → Fr h₀ env.locals h m₁ → News h₀ env.locals h nx → Q .next { s with heap:=h,toks:=tk }) :
  ItemsRest prog w A E h₀ env target body Q s ws keep xs m₀ news:=by
 have key:∀ (r:Nat) (i:Nat) m nx,i + r = xs.length → J i m nx → (∀ p ∈ nx,∀ b ∈ ws.map (·.1),p.1 ≠ b) → ItemsRest prog w A E h₀ env target body Q s ws keep (xs.drop i) m nx:=by
  intro r
  induction r with
  | zero =>
   intro i m nx hi hJ _
   rw [List.drop_eq_nil_of_le (by exact ae fun h9=>lN [_,_] [(1,.t V0 V1),(-1,.e (.a V0 K0) V1)] (.c h9 (.c hi .n)))]
   intro h tk F N
   have e:i = xs.length:=by exact aN (fun h9=>lN [_,_] [(1,.t V0 V1),(1,.e (.a V1 K0) V0)] (.c h9 (.c hi .n))) (fun h9=>lN [_,_] [(1,.t V0 V1),(-1,.e (.a V0 K0) V1)] (.c h9 (.c hi .n)))
   exact done m nx h tk (e ▸ hJ) F N
  | succ r ih =>
   intro i m nx hi hJ ho
   have hlt:i < xs.length:=by exact aA fun h9=>lN [_,_,_] [(1,.l V0 V1),(1,.e (.a V1 (.a V2 K1)) V0)] (.c h9 (.c hi .n))
   rw [List.drop_eq_getElem_cons hlt]
   intro v h tk ha F
   have allObj:∀ (ws':List (Addr × String)) (k:List (Addr × Obj) → Prop),(∀ its,Objs ws' its → k its) → AllObj ws' k:=by
    intro ws'
    induction ws' with
    | nil=>intro k hk;exact hk [] trivial
    | cons p r ih=>intro k hk o ho;exact ih _ fun its hi=>hk _ ⟨⟨rfl,ho⟩,hi⟩
   refine allObj _ _ fun its hits N=>?_
   have hoff':OwnOff its (nx.map (·.1)):=by
    intro p hp b hb e
    obtain ⟨q,hq,rfl⟩:=List.mem_map.mp hb
    exact ho q hq p.1 (by rw [← hits.map];exact List.mem_map.mpr ⟨p,hp,rfl⟩) e.symm
   have N':News h₀ env.locals h (nx++its):=fun p hp=>N p ((aH hp).elim (List.mem_append_right _) (List.mem_append_left _))
   refine wpAny_mono (turn i _ v m nx h tk its (List.getElem?_eq_getElem hlt) ha hoff' hJ F N') (fun _ s₃ p=>wpAny_mono p (fun f s₄ q=>?_) fun _ _ e=>e) fun _ _ e=>e
   have fin:InvEndG h₀ env.locals (J (i + 1)) its { s with heap:=h,toks:=tk } s₄ → UnrEndW h₀ env.locals { s with heap:=h,toks:=tk } its (fun m' n'=>SubL keep n' ∧ ItemsRest prog w A E h₀ env target body Q s ws keep (xs.drop (i + 1)) m' n') s₄:=by
    rintro ⟨h',tk',m',news',nx',e,F',N'',hn,hown,hof,hj⟩
    have ho':∀ p ∈ nx',∀ q ∈ its,p.1 ≠ q.1:=fun p hp q hq e=>hof q hq p.1 (List.mem_map.mpr ⟨p,hp,rfl⟩) e.symm
    refine ⟨h',tk',m',nx',e,F',fun p hp=>N'' p ((aH hp).elim (hown p) (hn p)),ho',hkeep _ _ _ hj,ih (i + 1) m' nx' (by exact aN (fun h9=>lN [_,_,_] [(1,.t V0 (.a (.a V1 K1) V2)),(1,.e (.a V1 (.a V2 K1)) V0)] (.c h9 (.c hi .n))) (fun h9=>lN [_,_,_] [(1,.t (.a (.a V0 K1) V1) V2),(-1,.e (.a V0 (.a V1 K1)) V2)] (.c h9 (.c hi .n)))) hj fun p hp b hb=>?_⟩
    rw [← hits.map] at hb
    obtain ⟨q,hq,rfl⟩:=List.mem_map.mp hb
    exact ho' p hp q hq
   cases f with
   | ret v=>exact q
   | brk=>exact q
   | next=>exact fin q
   | cont=>exact fin q
 have:=key xs.length 0 m₀ news (by exact aN (fun h9=>lN [_] [(1,.t V0 (.a K0 V0))] (.c h9 .n)) (fun h9=>lN [_] [(1,.t (.a K0 V0) V0)] (.c h9 .n))) h0 hoff
 rwa [List.drop_zero] at this
end
section
variable {prog:Program} {w:World} {A:Around} {E:Value → Shared → Prop} {s:Shared} {env:Env} {h₀:Heap} {target:PySem.Expr} {body orelse:List Stmt} {Q:Flow → Shared → Prop} {K:Frag}
inductive Ez (h₀:Heap) (L ax:Addr) (n:Nat) (s:Shared) (J:Nat → (PySem.Str → Option Value) → List (Addr × Obj) → Prop) (k:Nat) (s':Shared):Prop
 | mk (h':Heap) (tk:Nat) (m:PySem.Str → Option Value) (nx:List (Addr × Obj)) (i:Nat):s' = { s with heap:=h',toks:=tk } → h'.IsTupleIter s.heap.objs.size ax i → Fr h₀ L h' m → News h₀ L h' nx → (∀ p ∈ nx,p.1 ≠ s.heap.objs.size) → J i m nx → i ≤ n → k = n + 1 - i → Ez h₀ L ax n s J k s'
theorem xf {ax:Addr} {vs:List Value} {m₀:PySem.Str → Option Value} {news:List (Addr × Obj)} (J:Nat → (PySem.Str → Option Value) → List (Addr × Obj) → Prop)
  (hh:A.handled = none) (F:Fr h₀ env.locals s.heap m₀) (N:News h₀ env.locals s.heap news) (htup:∀ i m nx h,J i m nx → Fr h₀ env.locals h m → News h₀ env.locals h nx → h.IsTuple ax vs.toArray) (h0:J 0 m₀ news)
  (hE:PassesOwn (model prog w) A env E)
  (turn:∀ i v m₁ nx h tk own,vs[i]? = some v → OwnOff own (nx.map (·.1)) → J i m₁ nx → Fr h₀ env.locals h m₁ → News h₀ env.locals h (nx++own) →
   wpAny (model prog w) A (assign target env v) (fun _ s₃=>wpAny (model prog w) A (execs body env) (InvPostG h₀ env.locals (J (i + 1)) own { s with heap:=h,toks:=tk } Q) E s₃) E { s with heap:=h,toks:=tk })
  (done:∀ m₁ nx h tk,J vs.length m₁ nx → Fr h₀ env.locals h m₁ → News h₀ env.locals h nx → wpAny (model prog w) A (execs orelse env) Q E { s with heap:=h,toks:=tk }) :
  wpAny (model prog w) A (pyIter (.ref ax)) (fun it s₂=>codeAny (model prog w) A (.forLoop target it body orelse env) (fun r s'=>match r with | .ok f=>Q f s' | .error e=>cameBackBy (model prog w) A env E e s') s₂) E s:=by
 have hI0:h₀.get? s.heap.objs.size = none:=next_is_new F
 have hLI:env.locals ≠ s.heap.objs.size:=Nat.ne_of_lt F.ns.lt
 refine wpAny_pyIter_tuple (htup _ _ _ _ h0 F N) ?_
 refine codeAny_forLoop_any (Ez h₀ env.locals ax vs.length s J) ?_ (vs.length + 1)
  ⟨_,s.toks,m₀,news,0,rfl,⟨_,Heap.get?_push_size _ rfl,rfl,rfl⟩,F.push _,(fun p hp=>⟨Heap.get?_push_of_some _ (N p hp).1,(N p hp).2⟩),(fun p hp=>Nat.ne_of_lt (Heap.lt_size (N p hp).1)),h0,Nat.zero_le _,rfl⟩
 rintro k s' ⟨h',tk,m,nx,i,rfl,hit,F',N',hnx,hJ,hi,rfl⟩
 have next:∀ h₁:Heap,Heap.ExtBut s.heap.objs.size h' h₁ → Fr h₀ env.locals h₁ m ∧ News h₀ env.locals h₁ nx:=fun h₁ hk =>
  ⟨⟨F'.ns.at' fun o e=>hk _ o hLI e,fun b o e=>hk b o (fun eb=>by rw [eb,hI0] at e;cases e) (F'.keep b o e),F'.above⟩,fun p hp=>⟨hk _ _ (hnx p hp) (N' p hp).1,(N' p hp).2⟩⟩
 by_cases hlt':i < vs.length
 ·refine wpAny_pyNext_tuple_item hit (htup _ _ _ _ hJ F' N') (x:=vs[i]) (by simp [hlt']) fun h₁ hit₁ hs₁=>?_
  refine letGo_tupleiter (s':={ s with heap:=h₁,toks:=tk }) hit₁ ?_
  refine (let G0:Prop:=_;(?_:G0))
  obtain ⟨F₁,N₁⟩:=next h₁ hs₁.extBut
  obtain ⟨oI,hoI,hcI,hdI⟩:=id hit₁
  have hoff:OwnOff [(s.heap.objs.size,oI)] (nx.map (·.1)):=by
   intro p hp b hb e
   obtain ⟨q,hq,rfl⟩:=List.mem_map.mp hb
   rw [List.mem_singleton.mp hp] at e
   exact hnx q hq e.symm
  have N₂:News h₀ env.locals h₁ (nx++[(s.heap.objs.size,oI)]):=fun p hp=>by
   rcases aH hp with hp | hp
   ·exact N₁ p hp
   ·rw [List.mem_singleton.mp hp];exact ⟨hoI,fun e=>hLI e.symm,hI0⟩
  refine wpAny_passesOwn hE (wpAny_mono (turn i _ m nx h₁ tk _ (List.getElem?_eq_getElem hlt') hoff hJ F₁ N₂) (fun _ s₂ p=>wpAny_passesOwn hE (wpAny_mono p (fun f s₃ q=>?_) fun _ _ e=>e)) fun _ _ e=>e)
  have fin:InvEndG h₀ env.locals (J (i + 1)) [(s.heap.objs.size,oI)] { s with heap:=h₁,toks:=tk } s₃ → ∃ m,m < vs.length + 1 - i ∧ Ez h₀ env.locals ax vs.length s J m s₃:=by
   rintro ⟨h'',tk',m',news',nx',e,F'',N'',hn,ho,ha,hj⟩
   refine ⟨vs.length + 1 - (i + 1),eC hlt',h'',tk',m',nx',i + 1,e,⟨oI,(N'' _ (ho _ (List.mem_singleton.mpr rfl))).1,hcI,hdI⟩,F'',fun p hp=>N'' p (hn p hp),fun p hp e=>?_,hj,hlt',rfl⟩
   exact ha _ (List.mem_singleton.mpr rfl) p.1 (List.mem_map.mpr ⟨p,hp,rfl⟩) e.symm
  cases f with
  | ret v=>exact q
  | brk=>exact q
  | next=>exact fin q
  | cont=>exact fin q
 ·have e:i = vs.length:=by exact aN (fun h9=>lN [_,_] [(1,.t V0 V1),(1,.l V1 V0)] (.c h9 (.c hi .n))) (fun h9=>lN [_,_] [(1,.t V0 V1),(1,.nt V0 V1)] (.c h9 (.c hlt' .n)))
  subst e
  refine wpAny_pyNext_tuple_end hh hit (htup _ _ _ _ hJ F' N') (by simp) fun h₁ he=>?_
  obtain ⟨F₁,N₁⟩:=next h₁ he
  exact wpAny_passesOwn hE (wpAny_mono (done m nx h₁ tk hJ F₁ N₁) (fun _ _ x=>x) fun _ _ x=>x)
end
end
section
open PyProof.Rows.LCg PyProof.Rows.LCt
section
variable {h₀ h:Heap} {L x1 x2 x3 x4 x5:Addr} {o1 o2 o3 o4 o5:Obj} {r:List (Addr × Obj)}
theorem Gp (_:News h₀ L h ((x1,o1) :: (x2,o2) :: r)):∃ d:Addr,d = x2:=⟨_,rfl⟩
end
structure aK where
 parts:List PySem.Str
 letter:PySem.Str
 m0:Option Int
 m1:Option Int
noncomputable def et:Option Int → Nat → Value
 | some x,t=>.int x t
 | none,_=>.none
inductive ie (led:List (Addr × Obj)) (v:Value) (e:aK):Prop
 | mk (a p m:Addr) (n1 n2 n3 tl t0 t1:Nat) (lv:List (PySem.Str × Nat)):v = .ref a → (a,listOf #[.ref p,.str e.letter tl,.ref m] n1) ∈ led → (p,listOf (strValues lv).toArray n2) ∈ led → lv.map (·.1) = e.parts → (m,listOf #[et e.m0 t0,et e.m1 t1] n3) ∈ led → ie led v e
noncomputable def ba (led:List (Addr × Obj)) (vs:List Value) (es:List aK):Prop:=vs.length = es.length ∧ ∀ (i:Nat) (v:Value),vs[i]? = some v → ∃ e,es[i]? = some e ∧ ie led v e
theorem ie.mono {led led':List (Addr × Obj)} {v:Value} {e:aK} (h:ie led v e) (k:∀ p ∈ led,p ∈ led'):ie led' v e:=by
 obtain ⟨a,p,m,n1,n2,n3,tl,t0,t1,lv,h0,h1,h2,h3,h4⟩:=h
 exact ⟨a,p,m,n1,n2,n3,tl,t0,t1,lv,h0,k _ h1,k _ h2,h3,k _ h4⟩
theorem ba.mono {led led':List (Addr × Obj)} {vs:List Value} {es:List aK} (h:ba led vs es) (k:∀ p ∈ led,p ∈ led'):ba led' vs es :=
 ⟨h.1,fun i v hv=>let ⟨e,a,b⟩:=h.2 i v hv;⟨e,a,b.mono k⟩⟩
structure bc (e:aK):Prop where
 parts:e.parts ∈ aL
 letter:e.letter = Str.ofString "d" ∨ e.letter = Str.ofString "-"
 m0:∀ x,e.m0 = some x → 0 ≤ x ∧ x < 512
 m1:∀ x,e.m1 = some x → 0 ≤ x ∧ x < 512
 one:e.m0.isSome = true ∨ e.m1.isSome = true
section
variable {prog:Program} {w:World} {A:Around} {E:Value → Shared → Prop} {s:Shared} {h₀:Heap} {L:Addr} {m:PySem.Str → Option Value} {env:Env}
theorem CompEnd.mono {I C D:Addr} {s₁ s₂:Shared} {oI oC oD:Obj} {S:List (Addr × Obj) → Prop} {rest rest':Value → List (Addr × Obj) → Prop} {y:Value} (h:CompEnd h₀ L m s₁ I oI C oC D oD S rest y s₂) (k:∀ y n,rest y n → rest' y n) :
  CompEnd h₀ L m s₁ I oI C oC D oD S rest' y s₂:=by
 obtain ⟨h',tk,n,e,F,N,o,hS,r⟩:=h
 exact ⟨h',tk,n,e,F,N,o,hS,k _ _ r⟩
theorem mH {elt:PySem.Expr} {x:PySem.Str} {scope:Scope} {cl:List (PySem.Str × Addr)} {S:List (Addr × Obj) → Prop} {P:Nat → Value → Prop} {Fin:List Value → List (Addr × Obj) → Prop} {n:Nat} (J:Nat → List Value → List (Addr × Obj) → Prop)
  (step:∀ i ys news v I oI C oC D m₂ h tk (E':Value → Shared → Prop),i < n → J i ys news → P i v → NsObj oC m₂ → m₂ x = some v → Fr h₀ L h m → News h₀ L h ((I,oI) :: (C,oC) :: (D,lst ys) :: news) → Off3 I C D news → ((@Ne Nat I C) ∧ (@Ne Nat I D) ∧ (@Ne Nat C D)) →
   wpAny (model prog w) A (eval elt (compEnvC scope cl C env)) (CompEnd h₀ L m { s with heap:=h,toks:=tk } I oI C oC D (lst ys) S (fun y news'=>J (i + 1) (ys++[y]) news')) E' { s with heap:=h,toks:=tk })
  (fin:∀ ys news,J n ys news → Fin ys news):∀ k i ys news,i + k = n → J i ys news → CompRest prog w A h₀ L m env elt x scope cl s S P Fin k i ys news
 | 0,i,ys,news,e,hJ=>fin ys news (by rw [← e];exact hJ)
 | k + 1,i,ys,news,e,hJ=>fun v I oI C oC D m₂ h tk E' hP h1 h2 F N o ne =>
   wpAny_mono (step i ys news v I oI C oC D m₂ h tk E' (by exact aA fun h9=>lN [_,_,_] [(1,.l V0 V1),(1,.e (.a V1 (.a V2 K1)) V0)] (.c h9 (.c e .n))) hJ hP h1 h2 F N o ne) (fun y s' h'=>CompEnd.mono h' fun y n hn=>mH J step fin k (i + 1) _ _ (by exact aN (fun h9=>lN [_,_,_] [(1,.t V0 (.a (.a V1 K1) V2)),(1,.e (.a V1 (.a V2 K1)) V0)] (.c h9 (.c e .n))) (fun h9=>lN [_,_,_] [(1,.t (.a (.a V0 K1) V1) V2),(-1,.e (.a V0 (.a V1 K1)) V2)] (.c h9 (.c e .n)))) hn) fun _ _ x=>x
theorem dR {ct elt:PySem.Expr} {x:PySem.Str} {scope:Scope} {cl:List (PySem.Str × Addr)} {S:List (Addr × Obj) → Prop} {P:Nat → Value → Prop} {Fin:List Value → List (Addr × Obj) → Prop} {n:Nat} (J:Nat → List Value → List (Addr × Obj) → Prop)
  (step:∀ i ys news v I oI C oC D m₂ h tk (E':Value → Shared → Prop),i < n → J i ys news → P i v → NsObj oC m₂ → m₂ x = some v → Fr h₀ L h m → News h₀ L h ((I,oI) :: (C,oC) :: (D,lst ys) :: news) → Off3 I C D news → ((@Ne Nat I C) ∧ (@Ne Nat I D) ∧ (@Ne Nat C D)) →
   wpAny (model prog w) A (isTrue ct (compEnvC scope cl C env) (eval ct (compEnvC scope cl C env))) (fun ok s'=>if ok = true then
    wpAny (model prog w) A (eval elt (compEnvC scope cl C env)) (CompEnd h₀ L m { s with heap:=h,toks:=tk } I oI C oC D (lst ys) S (fun y news'=>J (i + 1) (ys++[y]) news')) E' s'
    else CompEnd h₀ L m { s with heap:=h,toks:=tk } I oI C oC D (lst ys) S (fun _ news'=>J (i + 1) ys news') Value.none s') E' { s with heap:=h,toks:=tk })
  (fin:∀ ys news,J n ys news → Fin ys news):∀ k i ys news,i + k = n → J i ys news → CompRestT prog w A h₀ L m env ct elt x scope cl s S P Fin k i ys news
 | 0,i,ys,news,e,hJ=>fin ys news (by rw [← e];exact hJ)
 | k + 1,i,ys,news,e,hJ=>fun v I oI C oC D m₂ h tk E' hP h1 h2 F N o ne=>by
   refine wpAny_mono (step i ys news v I oI C oC D m₂ h tk E' (by exact aA fun h9=>lN [_,_,_] [(1,.l V0 V1),(1,.e (.a V1 (.a V2 K1)) V0)] (.c h9 (.c e .n))) hJ hP h1 h2 F N o ne) (fun ok s' h'=>?_) fun _ _ x=>x
   cases ok with
   | true =>
    simp only [if_true] at h' ⊢
    exact wpAny_mono h' (fun y s'' h''=>CompEnd.mono h'' fun y n hn=>dR J step fin k (i + 1) _ _ (by exact aN (fun h9=>lN [_,_,_] [(1,.t V0 (.a (.a V1 K1) V2)),(1,.e (.a V1 (.a V2 K1)) V0)] (.c h9 (.c e .n))) (fun h9=>lN [_,_,_] [(1,.t (.a (.a V0 K1) V1) V2),(-1,.e (.a V0 (.a V1 K1)) V2)] (.c h9 (.c e .n)))) hn) fun _ _ x=>x
   | false =>
    simp only [Bool.false_eq_true,if_false] at h' ⊢
    exact CompEnd.mono h' fun y n hn=>dR J step fin k (i + 1) _ _ (by exact aN (fun h9=>lN [_,_,_] [(1,.t V0 (.a (.a V1 K1) V2)),(1,.e (.a V1 (.a V2 K1)) V0)] (.c h9 (.c e .n))) (fun h9=>lN [_,_,_] [(1,.t (.a (.a V0 K1) V1) V2),(-1,.e (.a V0 (.a V1 K1)) V2)] (.c h9 (.c e .n)))) hn
end
theorem aV {l:List (PySem.Str × Nat)}:(strValues l).length = l.length:=by unfold strValues;rw [List.length_map]
theorem gk (l:List (PySem.Str × Nat)):StrsAre (strValues l) (l.map (·.1)):=strsAre_of_values l
section
variable {prog:Program} {w:World} {A:Around} {E:Value → Shared → Prop} {s:Shared} {h₀:Heap} {L D:Addr} {m:PySem.Str → Option Value} {news news':List (Addr × Obj)} {lv:List (PySem.Str × Nat)} {n:Nat}
theorem wL {Q:Value → Shared → Prop} (N:News h₀ L s.heap news) (hd:(D,listOf (strValues lv).toArray n) ∈ news) (hz:lv.length ≤ 100000)
  (h:Q (.int (lv.length:Nat) (s.toks + 1)) { s with toks:=s.toks + 1 + 1 }):wpAny (model prog w) A (call (.builtin "len") [.ref D]) Q E s:=by
 have e:(strValues lv).toArray.size = lv.length:=by rw [List.size_toArray,aV]
 refine Calls.call_len_list (News.isList N hd) (by exact pu fun h9=>lI [_,_] [(1,.l (.k 9223372036854775808) V0),(1,.l V1 (.k 100000)),(1,.e V0 V1)] (.c h9 (.c (zl hz) (.c (ze e) .n)))) ?_
 rw [e];exact h
theorem uc {value slice:PySem.Expr} {u:Nat} {k:Int} {Q:Value → Shared → Prop} (N:News h₀ L s.heap news) (hd:(D,listOf (strValues lv).toArray n) ∈ news) (h0:0 ≤ k) (hi:k.toNat < lv.length) (hz:lv.length ≤ 100000) (h:∀ y t,lv[k.toNat]? = some (y,t) → Q (.str y t) s)
  (hs:subscripted slice false (.ref D) (.int k u) = operate [.ref D,.int k u] (getItem (.ref D) (.int k u)):=by with_unfolding_all rfl) :
  wpAny (model prog w) A (subscriptTail value slice (.ref D) (.int k u)) Q E s:=by
 have e:lv[k.toNat]? = some (lv[k.toNat].1,lv[k.toNat].2):=List.getElem?_eq_getElem hi
 refine gy (v:=.str lv[k.toNat].1 lv[k.toNat].2) N hd h0 (by omega) ?_ (h _ _ e) hs
 unfold strValues;rw [List.getElem?_map,e];rfl
end
section
variable {prog:Program} {w:World} {A:Around} {E:Value → Shared → Prop} {Q:Flow → Shared → Prop} {s:Shared} {env:Env} {h₀:Heap} {L:Addr}
end
theorem df {h₀ h:Heap} {L:Addr} {a:Addr × Obj} {r:List (Addr × Obj)} (N:News h₀ L h (a :: r)):News h₀ L h r:=fun p hp=>N p (al hp)
end
section
noncomputable def cL:List Prop → Prop:=List.foldr And True
noncomputable abbrev ia:={α:Type} → Sem α → List (Option Obj) → List Builtin → Shared → (α → List (Option Obj) → List Builtin → Shared → List Prop) → List Prop
noncomputable def Gm {α β:Type} (x:List α) (f:α → List α → List β) (g:List β):List β:=x.rec g fun a r _=>f a r
set_option backward.match.sparseCases false in
noncomputable def zc (rec:ia) (c:Code) (os:List (Option Obj)) (bs:List Builtin) (s:Shared) (k:Fin → List (Option Obj) → List Builtin → Shared → List Prop):List Prop:=match c with
 | .builtin id args=>match bs with
  | b :: bs=>(entryFor table id = some b) :: rec (b args) os bs s k
  | []=>[id = id ∧ False]
 | c=>rec (denote table c) os bs s k
noncomputable abbrev EJ:=Fin → List (Option Obj) → List Builtin → Shared → List Prop
noncomputable def De (rec:ia) (k:Flow → List (Option Obj) → List Builtin → Shared → List Prop) (n:Nat):EJ:=n.rec (fun _ _ _ _=>[False]) fun _ r fin os bs s=>fin.rec (fun f=>k f os bs s) fun c=>c.quiet.rec [False] (zc rec c os bs s r)
set_option backward.match.sparseCases false in
noncomputable def kc (F:Frag) (h:Heap) (S:Setting) (rec:ia):ia:=fun t os bs s K=>match t with
  | .pure a=>K a os bs s
  | .rule _ k=>rec (k ()) os bs s K
  | .at _ k=>rec (k ()) os bs s K
  | .point _ k=>rec (k ()) os bs s K
  | .ask k=>rec (k S) os bs s K
  | .fresh k=>rec (k s.toks) os bs { s with toks:=s.toks + 1 } K
  | .load a _ k=>match os with
   | some o :: os=>(s.heap.get? a = some o) :: rec (k o) os bs s K
   | none :: os=>(F.lookup a).rec [a = a ∧ False] fun o=>rec (k o) os bs s K
   | []=>[a = a ∧ False]
  | .update a _ f k=>match os with
   | some o :: os=>(s.heap.get? a = some o) :: (h.get? a = none) :: rec (k ()) os bs { s with heap:=s.heap.update a f } K
   | _=>[a = a ∧ False]
  | .alloc o k=>rec (k s.heap.objs.size) os bs { s with heap:=s.heap.push o } K
  | .call c hd _ _ k=>hd.rec (zc rec c os bs s (De rec (fun f os bs s=>rec (k (.ok f)) os bs s K) 4)) fun _=>[False]
  | _=>[False]
noncomputable def col (F:Frag) (h:Heap) (S:Setting) (n:Nat):ia:=Nat.rec (motive:=fun _=>ia) (fun _ _ _ _ _=>[False]) (fun _ r=>kc F h S r) n
noncomputable def CB (h h':Heap):Prop:=∀ b o,h.get? b = some o → h'.get? b = some o
theorem vY {P R:Prop} (h:cL [R ∧ False]):P:=h.1.2.elim
theorem wv {P:Prop} (h:cL [False]):P:=h.1.elim
section
variable {prog:Program} {w:World} {F:Frag} {h:Heap} (XF:F.In h)
noncomputable def lO (prog:Program) (w:World) (h:Heap) (rec:ia):Prop:=∀ {α:Type} (t:Sem α) (os:List (Option Obj)) (bs:List Builtin) (s:Shared) (K:α → List (Option Obj) → List Builtin → Shared → List Prop) (A:Around) (Q:α → Shared → Prop) (E:Value → Shared → Prop),
  CB h s.heap → cL (rec t os bs s K) → (∀ a os bs s,CB h s.heap → cL (K a os bs s) → Q a s) → wpAny (model prog w) A t Q E s
theorem r8 {rec:ia} (ih:lO prog w h rec) {c:Code} {os bs s k} {A:Around} {R:Result → Shared → Prop} (kp:CB h s.heap) (H:cL (zc rec c os bs s k))
  (hk:∀ fin os bs s,CB h s.heap → cL (k fin os bs s) → match fin with | .done f=>R (.ok f) s | .again c'=>c'.quiet = true ∧ codeAny (model prog w) A c' R s):codeAny (model prog w) A c R s:=by
 revert H
 apply Code.casesOn (motive:=fun c=>cL (zc rec c os bs s k) → codeAny (model prog w) A c R s) c
 case builtin =>
  intro id args H
  cases bs with
  | nil=>exact vY H
  | cons b bs=>exact codeAny_builtin H.1 (ih _ _ _ _ _ _ _ _ kp H.2 hk)
 all_goals (intros;exact codeAny_of_tree (ih _ _ _ _ _ _ _ _ kp (by assumption) hk))
theorem zH {rec:ia} (ih:lO prog w h rec) {k} {A:Around} {R:Result → Shared → Prop} (hk:∀ f os bs s,CB h s.heap → cL (k f os bs s) → R (.ok f) s):∀ n fin os bs s,CB h s.heap → cL (De rec k n fin os bs s) → match fin with | .done f=>R (.ok f) s | .again c'=>c'.quiet = true ∧ codeAny (model prog w) A c' R s:=by
 intro n
 induction n with
 | zero=>exact fun _ _ _ _ _ H=>wv H
 | succ n i2 =>
  intro fin os bs s kp H
  cases fin with
  | done f=>exact hk _ _ _ _ kp H
  | again c' =>
   change cL (c'.quiet.rec _ _) at H
   dsimp only
   cases e:c'.quiet with
   | false=>rw [e] at H;exact wv H
   | true=>rw [e] at H;exact ⟨rfl,r8 ih kp H i2⟩
include XF in
theorem zN {rec:ia} (i9:lO prog w h rec):lO prog w h (kc F h ⟨prog,w.params⟩ rec):=by
  intro α t os bs s K A Q E kp H hK
  have ih:=fun (t:Sem _) os bs s kp' H=>i9 t os bs s K A Q E kp' H hK
  revert H
  apply Sem.casesOn (motive:=fun t=>cL (kc F h ⟨prog,w.params⟩ rec t os bs s K) → wpAny (model prog w) A t Q E s) t
  case pure=>exact fun a H=>wpAny_pure (hK _ _ _ _ kp H)
  case rule=>exact fun _ k H=>X.x_rule (ih _ _ _ _ kp H)
  case «at»=>exact fun _ k H=>X.x_at (ih _ _ _ _ kp H)
  case point=>exact fun _ k H=>X.x_point (ih _ _ _ _ kp H)
  case ask=>exact fun k H=>X.x_ask (ih _ _ _ _ kp H)
  case fresh=>exact fun k H=>X.x_fresh (ih _ _ _ { s with toks:=s.toks + 1 } kp H)
  case load =>
   intro a q k H
   rcases os with _ | ⟨_ | o,os⟩
   ·exact vY H
   ·change cL ((F.lookup a).rec _ _) at H
    revert H
    generalize e:F.lookup a = x
    cases x with
    | none=>exact vY
    | some o=>exact fun H=>X.x_load (kp _ _ (XF _ _ e)) (ih _ _ _ _ kp H)
   ·exact X.x_load H.1 (ih _ _ _ _ kp H.2)
  case update =>
   intro a q f k H
   rcases os with _ | ⟨_ | o,os⟩
   ·exact vY H
   ·exact vY H
   ·exact wpAny_bind (m:=updatePart a q f) (f:=k) (wpAny_updatePart H.1 (ih _ _ _ { s with heap:=s.heap.update a f } (fun b o e=>(Heap.get?_update_other _ _ (fun e'=>by subst e';rw [H.2.1] at e;cases e)).trans (kp b o e)) H.2.2))
  case alloc=>exact fun o k H=>wpAny_bind (m:=alloc o) (f:=k) (wpAny_alloc (ih _ _ _ { s with heap:=s.heap.push o } (fun b o e=>Heap.get?_push_of_some _ (kp b o e)) H))
  case call =>
   intro c hd g l k H
   rcases hd with _ | _
   ·exact X.x_call (r8 i9 kp H (zH i9 (k:=fun f os bs s=>rec (k (.ok f)) os bs s K) (R:=fun r s=>wpAny (model prog w) A (k r) Q E s) (fun f os bs s kp H=>ih _ _ _ _ kp H) 4)) (fun h=>nomatch h)
   ·exact wv H
  all_goals (intros;exact wv (by assumption))
include XF in
theorem AT (n:Nat):lO prog w h (col F h ⟨prog,w.params⟩ n):=by
 induction n with
 | zero=>exact fun _ _ _ _ _ _ _ _ _ H _=>wv H
 | succ n i=>exact zN XF i
theorem az {p:Prop} {l:List Prop} (h:p) (H:cL l):cL (p :: l):=⟨h,H⟩
theorem dX:cL []:=trivial
theorem wr {α:Type} {A:Around} {Q:α → Shared → Prop} {E:Value → Shared → Prop} {s:Shared} {t:Sem α} (n:Nat) (os:List (Option Obj)) (bs:List Builtin) {l:List Prop} (e:@col F s.heap ⟨prog,w.params⟩ n α t os bs s (fun v _ _ s=>[Q v s]) = l) (H:cL l) (XF:F.In s.heap) :
  wpAny (model prog w) A t Q E s:=AT XF n t os bs s (fun v _ _ s=>[Q v s]) A Q E (fun _ _ e=>e) (e.symm ▸ H:cL (@col F s.heap ⟨prog,w.params⟩ n α t os bs s (fun v _ _ s=>[Q v s]))) fun _ _ _ _ _ H=>H.1
theorem Ew {l:List Prop} (h:cL l) {p:Prop} (q:p):cL (l++[p]):=by
 induction l with
 | nil=>exact ⟨q,h⟩
 | cons a l ih=>exact ⟨h.1,ih h.2⟩
theorem oZ {α:Type} {A:Around} {Q:α → Shared → Prop} {E:Value → Shared → Prop} {s:Shared} {t:Sem α} (v:α) (s':Shared) (os:List (Option Obj)) (bs:List Builtin) {l:List Prop} (H:cL l) (e:∀ Q:α → Shared → Prop,@col F s.heap ⟨prog,w.params⟩ 300 α t os bs s (fun v _ _ s=>[Q v s]) = l++[Q v s']) (XF:F.In s.heap) (h:Q v s'):wpAny (model prog w) A t Q E s :=
 wr 300 _ _ (e _) (Ew H h) XF
theorem xw {A:Around} {R:Result → Shared → Prop} {s:Shared} {c c':Code} (os:List (Option Obj)) (hq:c'.quiet = true) (e:∀ Q:Fin → Shared → Prop,@col F s.heap ⟨prog,w.params⟩ 300 Fin (denote table c) os [] s (fun v _ _ s=>[Q v s]) = [Q (.again c') s]) (XF:F.In s.heap) (h:codeAny (model prog w) A c' R s):codeAny (model prog w) A c R s :=
 codeAny_of_tree (oZ (.again c') s os [] dX e XF ⟨hq,h⟩)
noncomputable def vv (p:Params) (row:String) (b:Bool):Params:={ p with followText:=fun r=>(decide (r = row)).rec (p.followText r) b }
theorem u8 (p:Params) (row:String):vv p row (p.followText row) = p:=by
 have e:(fun r=>(decide (r = row)).rec (p.followText r) (p.followText row)) = p.followText:=funext fun r=>by
  cases h:decide (r = row) with
  | false=>rfl
  | true=>rw [of_decide_eq_true h]
 unfold vv
 rw [e]
theorem uj {α:Type} {A:Around} {Q:α → Shared → Prop} {E:Value → Shared → Prop} {s:Shared} {t:Sem α} (v:α) (s':Shared) (row:String) (os:List (Option Obj)) (bs:List Builtin) {l:List Prop} (H:cL l)
  (e:∀ b,∀ Q:α → Shared → Prop,@col F s.heap ⟨prog,vv w.params row b⟩ 300 α t os bs s (fun v _ _ s=>[Q v s]) = l++[Q v s']) (XF:F.In s.heap) (h:Q v s'):wpAny (model prog w) A t Q E s:=by
 have e:=e (w.params.followText row)
 rw [u8] at e
 exact oZ v s' os bs H e XF h
end
theorem tO {prog:Program} {w:World} {A:Around} {E:Value → Shared → Prop} {s:Shared} {Q:Value → Shared → Prop} {a:Addr} {n:Nat}
 (h1:s.heap.get? a = some { cls:=.type "tuple",data:=.seq #[.type "str",.type "bytes"] n }) (hQ:Q (.bool true) s):wpAny (model prog w) A (call (.builtin "issubclass") [.type "str",.ref a]) Q E s:=by
 refine wr (F:=[]) 300 (List.replicate 4 (some { cls:=.type "tuple",data:=.seq #[.type "str",.type "bytes"] n })) [Builtin.issubclass,Builtin.«issubclass.nested»,Builtin.«issubclass.nested»] ?_ (az PySem.F.entry_issubclass (az PySem.F.entry_issubclass_nested (az h1 (az h1 (az h1 (az h1 (az PySem.F.entry_issubclass_nested (az hQ dX)))))))) (fun _ _ e=>nomatch e)
 kernel_rfl
set_option backward.match.sparseCases false in
noncomputable def Bn (K:Frag) (S:Setting) {α:Type}:Sem α → Sem α
 | .rule _ k=>Bn K S (k ())
 | .point _ k=>Bn K S (k ())
 | .ask k=>Bn K S (k S)
 | .load a p k=>(K.lookup a).elim (.load a p k) fun o=>Bn K S (k o)
 | t=>t
theorem qx {K:Frag} {prog:Program} {w:World} {A:Around} {α:Type} {Q:α → Shared → Prop} {E:Value → Shared → Prop} {s:Shared} (H:K.In s.heap) {r:Sem α}:∀ t:Sem α,Bn K ⟨prog,w.params⟩ t = r →
  wpAny (model prog w) A r Q E s → wpAny (model prog w) A t Q E s:=by
 intro t e;subst e
 induction t with
 | rule _ k ih=>exact fun h=>X.x_rule (ih () h)
 | point _ k ih=>exact fun h=>X.x_point (ih () h)
 | ask k ih=>exact fun h=>X.x_ask (ih _ h)
 | load a p k ih =>
  change wpAny _ _ ((K.lookup a).elim (.load a p k) fun o=>Bn K _ (k o)) _ _ _ → _
  cases e:K.lookup a with
  | none=>exact id
  | some o=>exact fun h=>X.x_load (H _ _ e) (ih o h)
 | _=>exact id
end
section
noncomputable abbrev aP (id:String) (self:Value):Obj:={ cls:=.type "builtin_function_or_method",data:=.fields #[.builtin id,self] }
noncomputable abbrev bn (e:Bool):Obj:={ cls:=.type "set",data:=.set #[] 0 (SetTable.fresh 0 0 e) }
theorem fE:entryFor table "method_descriptor.__get__" = some Builtin.«method_descriptor.__get__»:=entryFor_of_tree (by kernel_rfl)
section
variable {prog:Program} {w:World} {A:Around} {E:Value → Shared → Prop} {s:Shared} {Q:Value → Shared → Prop} {a:Addr} {tk:Nat}
theorem lP {es:Array DictEntry} {n:Nat} (h1:s.heap.get? a = some { cls:=.type "dict",data:=.dict es n })
 (hQ:Q (.ref s.heap.objs.size) { s with heap:=s.heap.push (aP "dict.get" (.ref a)) }) :
 wpAny (model prog w) A (call (.builtin "dict.__getattribute__") [.ref a,.str (Str.ofString "get") tk]) Q E s:=by
 refine wr (F:=[]) 300 (List.replicate 5 (some { cls:=.type "dict",data:=.dict es n })) [Builtin.«object.__getattribute__»,Builtin.«method_descriptor.__get__»] ?_ (az h1 (az PySem.F.entry_dict_ga (az h1 (az h1 (az h1 (az fE (az h1 (az hQ dX)))))))) (fun _ _ e=>nomatch e)
 kernel_rfl
theorem tH {sx:SetTable} (h1:s.heap.get? a = some { cls:=.type "set",data:=.set #[] 0 sx })
 (hQ:Q (.ref s.heap.objs.size) { s with heap:=s.heap.push (aP "set.__contains__" (.ref a)) }) :
 wpAny (model prog w) A (call (.builtin "set.__getattribute__") [.ref a,.str (Str.ofString "__contains__") tk]) Q E s:=by
 refine wr (F:=[]) 300 (List.replicate 5 (some { cls:=.type "set",data:=.set #[] 0 sx })) [Builtin.«object.__getattribute__»,Builtin.«method_descriptor.__get__»] ?_ (az h1 (az PySem.F.entry_set_ga (az h1 (az h1 (az h1 (az fE (az h1 (az hQ dX)))))))) (fun _ _ e=>nomatch e)
 kernel_rfl
end
theorem AI {prog:Program} {w:World} {A:Around} {E:Value → Shared → Prop} {s:Shared} {Q:Value → Shared → Prop} {a:Addr} {b:Bool} {T ga:String} {name:PySem.Str} (hT:s.TypeIs (.ref a) T)
  (f2:typeLookup (.type T) (Str.ofString "__getattribute__") = pure (some (.builtin ga))) (f3:bindSpecial (.builtin ga) (.ref a) = pure (.builtin ga,[.ref a]))
  (h:wpAny (model prog w) A (call (.builtin ga) [.ref a,.str name s.toks]) (fun v s'=>∃ q,v = .ref q ∧ Q v s') (fun _ _=>False) { s with toks:=s.toks + 1 }) :
  wpAny (model prog w) A (getAttr (.ref a) name b) Q E s:=by
 unfold getAttr
 refine wpAny_bind (wpAny_mkText ?_)
 unfold getAttrBy
 refine wpAny_holding (wpAny_bind (wpAny_typeOf hT (wpAny_bind (wpAny_of_eq f2 ?_))))
 show wpAny _ _ (if (onTheHeap (Value.type T) && Value.builtin ga == Value.builtin "object.__getattribute__") = true then _ else getAttrByItsOwn (Value.ref a) (Value.str name s.toks) (Value.type T) (Value.builtin ga) true b) _ _ _
 rw [if_neg (show ¬ ((onTheHeap (Value.type T) && Value.builtin ga == Value.builtin "object.__getattribute__") = true) by unfold onTheHeap;simp)]
 unfold getAttrByItsOwn hookBefore
 rw [if_neg (show ¬ (onTheHeap (Value.type T) = true) by unfold onTheHeap;simp)]
 refine wpAny_bind (wpAny_pure ?_)
 refine wpAny_bind (wpAny_attempt (wpAny_holding ?_))
 unfold callGetattribute boundAndCalled
 rw [if_neg (show ¬ ((b && onTheHeap (Value.builtin ga)) = true) by unfold onTheHeap;simp)]
 refine wpAny_bind (wpAny_of_eq f3 ?_)
 refine wpAny_mono h (fun v s' hq=>?_) fun _ _ x=>x.elim
 obtain ⟨q,rfl,hq⟩:=hq
 exact wpAny_pure hq
theorem ry {prog:Program} {w:World} {A:Around} {E:Value → Shared → Prop} {s:Shared} {Q:Value → Shared → Prop} {q a:Addr} {id:String} {vs:List Value} {o:Obj} (hq:id.startsWith "lifetime." = false)
  (h0:s.heap.get? q = some (aP id (.ref a))) (h1:s.heap.get? a = some o)
  (e:∀ Q:Fin → Shared → Prop,@col [] s.heap ⟨prog,w.params⟩ 300 Fin (denote table (.call (.ref q) ⟨vs,[]⟩)) [some (aP id (.ref a)),some o,some o,some o] [] s (fun v _ _ s=>[Q v s]) = [s.heap.get? q = some (aP id (.ref a)),s.heap.get? a = some o,s.heap.get? a = some o,s.heap.get? a = some o,Q (.again (.builtin id ⟨.ref a :: vs,[]⟩)) s])
  (h:∀ A,codeAny (model prog w) A (.builtin id ⟨.ref a :: vs,[]⟩) (wants Q E) s):wpAny (model prog w) A (call (.ref q) vs) Q E s :=
 wpAny_call (codeAny_of_tree (wr (F:=[]) 300 _ _ (e _) (az h0 (az h1 (az h1 (az h1 (az (p:=_ ∧ _) ⟨Code.quiet_builtin _ hq,h _⟩ dX))))) (fun _ _ e=>nomatch e)))
theorem Bj {prog:Program} {w:World} {A:Around} {E:Value → Shared → Prop} {s:Shared} {Q:Value → Shared → Prop} {q a:Addr} {K:Type} [DecidableEq K] {knd:KeyKind prog w K} {kvs:List (K × Value)} {k:K} {key dflt:Value} {o:Obj}
  (h0:s.heap.get? q = some (aP "dict.get" (.ref a))) (h1:s.heap.get? a = some o) (hd:o.IsDictOf knd kvs) (lo:(a == sysModules) = false) (hkey:knd.is k key = true) (x:Option Value) (hl:valueAt kvs k = x) (h:Q (x.getD dflt) { s with toks:=s.toks + 1 }) :
  wpAny (model prog w) A (call (.ref q) [key,dflt]) Q E s:=by
 have hD:s.heap.DictOf knd a kvs:=Heap.dictOf_iff.mpr ⟨o,h1,hd⟩
 obtain ⟨oc,od,odt,osl⟩:=o
 obtain ⟨es,n,⟨hc,_⟩,hdt,_⟩:=hd
 dsimp only at hc hdt
 subst hc hdt
 exact ry (by decide +kernel) h0 h1 (fun _=>by kernel_rfl) fun A=>codeAny_builtin PySem.F.entry_dict_get ((meets_dict_get_default knd a hkey lo dflt) A (wants Q E) _ ⟨_,hD.mapOf,by rw [hl];exact h⟩)
theorem Dd {prog:Program} {w:World} {A:Around} {E:Value → Shared → Prop} {s:Shared} {Q:Value → Shared → Prop} {q a:Addr} {y:PySem.Str} {t:Nat} {e:Bool}
 (h0:s.heap.get? q = some (aP "set.__contains__" (.ref a))) (h1:s.heap.get? a = some (bn e)) (hQ:Q (.bool false) { s with toks:=s.toks + 1 }) :
 wpAny (model prog w) A (call (.ref q) [.str y t]) Q E s:=by
 have hS:s.heap.SetOf (strKind prog w) a (fun _=>false) 0:=(setObjOf_fresh e).setOf h1 (by decide)
 have hy:(PySem.strKind prog w).is y (.str y t) = true:=by simp [PySem.strKind,Value.isStrOf]
 refine ry (by decide +kernel) h0 h1 (fun _=>by kernel_rfl) fun A=>codeAny_builtin entry_set_contains ?_
 unfold Builtin.«frozenset.__contains__» Builtin.Frozenset.oneOther
 simp only [List.isEmpty_nil,bind_assoc]
 unfold Builtin.Frozenset.addrOf Builtin.Frozenset.withSetAsKey setContains
 refine wpAny_bind (wpAny_pure (wpAny_bind (wpAny_pure (wpAny_bind (wpAny_tryCatch (wpAny_holding (wpAny_bind ((strKind prog w).pyHash (k:=y) hy (wpAny_bind (wpAny_setFind_of (s:={ s with toks:=s.toks + 1 }) (k:=y) hy (by rfl) hS fun r hr=>?_))))))))))
 refine wpAny_pure ?_
 show wpAny _ _ (ret (Value.bool r.isSome)) _ _ _
 rw [hr]
 exact wpAny_pure hQ
section
variable {prog:Program} {w:World} {A:Around} {E:Value → Shared → Prop} {s:Shared} {h₀:Heap} {L:Addr} {m:PySem.Str → Option Value} {news:List (Addr × Obj)}
theorem mY {Q:Value → Shared → Prop} {d:Addr} {o:Obj} {K:Type} [DecidableEq K] {knd:KeyKind prog w K} {kvs:List (K × Value)} {b:Bool} (F:Fr h₀ L s.heap m) (N:News h₀ L s.heap news) (hd:(d,o) ∈ news) (ho:o.IsDictOf knd kvs)
  (h:∀ q h' tk,Fr h₀ L h' m → News h₀ L h' ((q,aP "dict.get" (.ref d)) :: news) → (∀ p ∈ news,p.1 ≠ q) → Q (.ref q) { s with heap:=h',toks:=tk }) :
  wpAny (model prog w) A (getAttr (.ref d) (Str.ofString "get") b) Q E s:=by
 obtain ⟨es,ep,⟨hc,hn,hs⟩,hdt,_⟩:=ho
 have h1:=(N _ hd).1
 have e:o = { cls:=.type "dict",data:=.dict es ep }:=by
  obtain ⟨oc,od,odt,osl⟩:=o
  dsimp only at hc hn hs hdt
  subst hc;subst hn;subst hs;subst hdt;rfl
 rw [e] at h1
 refine AI ⟨_,h1,rfl⟩ PySem.F.slot_dict_getattribute.lookup (PySem.F.slot_dict_getattribute.bind _) (lP h1 ⟨_,rfl,h _ _ _ (F.push _) (N.push F _) N.apart⟩)
theorem tU {Q:Value → Shared → Prop} {d:Addr} {b e:Bool} (F:Fr h₀ L s.heap m) (N:News h₀ L s.heap news) (hd:(d,bn e) ∈ news)
  (h:∀ q h' tk,Fr h₀ L h' m → News h₀ L h' ((q,aP "set.__contains__" (.ref d)) :: news) → (∀ p ∈ news,p.1 ≠ q) → Q (.ref q) { s with heap:=h',toks:=tk }) :
  wpAny (model prog w) A (getAttr (.ref d) (Str.ofString "__contains__") b) Q E s:=by
 have h1:=(N _ hd).1
 refine AI ⟨_,h1,rfl⟩ PySem.F.slot_set_getattribute.lookup (PySem.F.slot_set_getattribute.bind _) (tH h1 ⟨_,rfl,h _ _ _ (F.push _) (N.push F _) N.apart⟩)
theorem wY {Q:Value → Shared → Prop} {q d:Addr} {o:Obj} {K:Type} [DecidableEq K] {knd:KeyKind prog w K} {kvs:List (K × Value)} {k:K} {key dflt:Value} (N:News h₀ L s.heap news) (hq:(q,aP "dict.get" (.ref d)) ∈ news) (hd:(d,o) ∈ news) (ho:o.IsDictOf knd kvs) (lo:(d == sysModules) = false)
  (hkey:knd.is k key = true) (x:Option Value) (hl:valueAt kvs k = x) (h:Q (x.getD dflt) { s with toks:=s.toks + 1 }):wpAny (model prog w) A (call (.ref q) [key,dflt]) Q E s :=
 Bj (N _ hq).1 (N _ hd).1 ho lo hkey x hl h
theorem yc {Q:Value → Shared → Prop} {q d:Addr} {y:PySem.Str} {t:Nat} {e:Bool} (N:News h₀ L s.heap news) (hq:(q,aP "set.__contains__" (.ref d)) ∈ news) (hd:(d,bn e) ∈ news) (h:Q (.bool false) { s with toks:=s.toks + 1 }) :
  wpAny (model prog w) A (call (.ref q) [.str y t]) Q E s:=Dd (N _ hq).1 (N _ hd).1 h
end
end
section
open PyProof.Rows.LCg PyProof.Rows.LCt
section
variable {prog:Program} {w:World} {A:Around} {E:Value → Shared → Prop} {s:Shared} {env:Env} {h₀:Heap} {x:PySem.Str} {body:List Stmt} {Q:Flow → Shared → Prop}
end
theorem uA (a b:Nat) (h1:a ≤ 1000) (h2:b ≤ 1000):Builtin.Range.small (a:Int) (b:Int) 1 = true:=by
 unfold Builtin.Range.small Builtin.Range.rangeFitsLong
 rw [rangeSize_nat]
 simp
 exact ⟨⟨⟨pu fun h9=>lI [_,0,0] [(1,.l (.k 9223372036854775808) V0),(1,.l V0 (.k 1000))] (.c h9 (.c (zl h1) .n)),pu fun h9=>lI [_,0,0] [(1,.l (.k 9223372036854775808) V0),(1,.l V0 (.k 1000))] (.c h9 (.c (zl h2) .n))⟩,pu fun h9=>lI [_,0,_] [(1,.l (.k 9223372036854775808) V0),(1,.l V2 (.k 1000)),(1,.l V0 V2)] (.c h9 (.c (zl h2) (.c (zl (Nat.sub_le _ _)) .n)))⟩,(.inr (pu fun h9=>lI [_,0,0] [(1,.l (.k 9223372036854775808) V0),(1,.l V0 (.k 1000))] (.c h9 (.c (zl h2) .n))))⟩
theorem ul (a b:Nat):Builtin.Range.rangeSize (a:Int) (b:Int) 1 = ((b - a:Nat):Int):=by rw [rangeSize_nat];omega
noncomputable def Fh (q:Addr) (id:String) (self:Value) (h:Heap):Prop:=h.get? q = some (aP id self)
theorem wa {M:Model} {q:Addr} {id:String} {self:Value} (h:Heap) (X:Fh q id self h):∃ k,(k = Keeper.frame ∨ k = Keeper.machine ∨ k = Keeper.boundFrame) ∧ Looks M h (keeperOf (.ref q)) k :=
 ⟨.machine,.inr (.inl rfl),(Looks.ld (part:=none) X).andThen .now⟩
end
section
open PyProof.Rows.LCg PyProof.Rows.LCt
theorem vu:∀ {own:Led},(∀ p ∈ own,∀ q ∈ own,p.1 = q.1 → p = q) → ∃ own':Led,(own'.map (·.1)).Nodup ∧ (∀ p ∈ own,p ∈ own') ∧ ∀ p ∈ own',p ∈ own:=by
 intro own
 induction own with
 | nil=>exact fun _=>⟨[],.nil,fun _ h=>h,fun _ h=>h⟩
 | cons p r ih =>
  intro h
  obtain ⟨o,h1,h2,h3⟩:=ih fun a ha b hb=>h a (.tail _ ha) b (.tail _ hb)
  by_cases e:p ∈ r
  ·refine ⟨o,h1,fun q hq=>?_,fun q hq=>.tail _ (h3 q hq)⟩
   rcases ag hq with rfl | hq
   ·exact h2 _ e
   ·exact h2 q hq
  ·refine ⟨p :: o,List.nodup_cons.mpr ⟨fun hm=>?_,h1⟩,fun q hq=>?_,fun q hq=>?_⟩
   ·obtain ⟨q,hq,e'⟩:=List.mem_map.mp hm
    have e2:=h p (.head _) q (.tail _ (h3 q hq)) e'.symm
    subst e2
    exact e (h3 _ hq)
   ·rcases ag hq with rfl | hq
    ·exact .head _
    ·exact .tail _ (h2 q hq)
   ·rcases ag hq with rfl | hq
    ·exact .head _
    ·exact .tail _ (h3 q hq)
inductive ar (m:Map):Map → Prop
 | nil:ar m []
 | cons {x:PySem.Str} {v:Value} {r:Map}:dD m x = some v → ar m r → ar m ((x,v) :: r)
theorem bH {m:Map} {r:Map} {x:PySem.Str} {v:Value} (h:ar m r):dD r x = some v → dD m x = some v:=by
 induction h with
 | nil=>exact fun h=>nomatch h
 | @cons y u r h1 _ ih =>
  intro e
  unfold dD at e
  cases e2:gT (y,u).1 x with
  | true =>
   rw [e2] at e
   rw [← cT e2,← Option.some.inj e];exact h1
  | false=>rw [e2] at e;exact ih e
inductive AG {σ:Type} (Mp:σ → Map) (Ld:σ → Led) (P:σ → Prop) (m:Map) (l:Led):Prop
 | mk (c:σ):ar m (Mp c) → aq (Ld c) l → P c → AG Mp Ld P m l
noncomputable def fG {σ:Type} (Ld:σ → Led) (Mp:σ → Map) (P:σ → Prop) (own:Led) (K:KF):KF:=fun fl t m l=>match fl with
 | .next=>AG Mp (fun c=>Ld c++own) P m l
 | .cont=>AG Mp (fun c=>Ld c++own) P m l
 | .brk=>K .next t m l
 | .ret v=>K (.ret v) t m l
section
variable {w:World} {cs:Sc} {lv:Nat} {C:Cx w cs lv} {t:Nat} {m:Map} {l:Led} {s:Shared} {σ:Type}
theorem At.same {s₂:Shared} {t':Nat} {m':Map} {l':Led} (H:At C s t m l) (H₂:At C s₂ t' m' l'):s₂ = { s with heap:=s₂.heap,toks:=s₂.toks }:=by
 obtain ⟨h,g,d,tk,o⟩:=s
 obtain ⟨h',g',d',tk',o'⟩:=s₂
 have h1:=H.gens.trans H₂.gens.symm
 have h2:=H.drawn.trans H₂.drawn.symm
 have h3:=H.os.trans H₂.os.symm
 dsimp only at h1 h2 h3
 rw [h1,h2,h3]
inductive uK (C:Cx w cs lv) (Ld:σ → Led) (Mp:σ → Map) (P:σ → Prop) (M:PySem.Str → Option Value) (nx:Led):Prop
 | mk (c:σ):nx = Ld c → ((Ld c).map (·.1)).Nodup → P c → tL C (Mp c) M → uK C Ld Mp P M nx
theorem eN {Ld:Led} {own:Led} {m':Map} {h:Heap} {tk:Nat} {M:PySem.Str → Option Value} (H:At C s t m l) (hnd:(Ld.map (·.1)).Nodup) (hoff:OwnOff own (Ld.map (·.1))) (F:Fr C.h₀ C.L h M) (N:News C.h₀ C.L h (Ld++own))
  (hM:tL C m' M):∃ own',(∀ p ∈ own,p ∈ own') ∧ At C { s with heap:=h,toks:=tk } tk m' (Ld++own'):=by
 obtain ⟨own',o1,o2,o3⟩:=vu (own:=own) fun p hp q hq e=>by
  have a:=(N p (ac hp)).1
  have b:=(N q (ac hq)).1
  rw [e] at a
  exact Prod.ext e (Option.some.inj (a.symm.trans b))
 refine ⟨own',o2,rfl,H.gens,H.drawn,H.os,fun p hp=>?_,?_,M,F,hM⟩
 ·exact N p ((aH hp).elim (List.mem_append_left _) fun hp=>ac (o3 p hp))
 ·rw [List.map_append]
  refine List.nodup_append.mpr ⟨hnd,o1,fun a ha b hb e=>?_⟩
  obtain ⟨q,hq,rfl⟩:=List.mem_map.mp hb
  exact hoff q (o3 q hq) a ha e.symm
theorem dA {Ld:σ → Led} {Mp:σ → Map} {P:σ → Prop} {own own':Led} {K:KF} {h:Heap} {tk t':Nat} {m':Map} {l':Led} {s₂:Shared} {fl:Flow} (H:At C s t m l) (ho:∀ p ∈ own,p ∈ own') (H':At C s₂ t' m' l') (hk:fG Ld Mp P own' K fl t' m' l') :
  InvPostG C.h₀ C.L (uK C Ld Mp P) own { s with heap:=h,toks:=tk } (uG C K) fl s₂:=by
 have fin:AG Mp (fun c=>Ld c++own') P m' l' → InvEndG C.h₀ C.L (uK C Ld Mp P) own { s with heap:=h,toks:=tk } s₂:=by
  rintro ⟨c',hh,hs,hP⟩
  obtain ⟨M',F',hM'⟩:=H'.M
  have nd:=hs.nd H'.nd
  rw [List.map_append] at nd
  obtain ⟨n1,n2,n3⟩:=List.nodup_append.mp nd
  exact ⟨s₂.heap,s₂.toks,M',l',Ld c',H.same H',F',H'.N,fun p hp=>hs.mem _ (aj hp),fun p hp=>hs.mem _ (ac (ho p hp)),
   fun p hp b hb e=>n3 b hb p.1 (List.mem_map.mpr ⟨p,ho p hp,rfl⟩) e.symm,c',rfl,n1,hP,hM'.1,fun y u e=>hM'.2 y u (bH hh e)⟩
 cases fl with
 | next=>exact fin hk
 | cont=>exact fin hk
 | brk=>exact H'.ret hk
 | ret v=>exact H'.ret hk
theorem iD {Ld:σ → Led} {Mp:σ → Map} {P:σ → Prop} {own:Led} {K:KF} {x:PySem.Str} {v:Value} {n:Nat} {body:List Stmt} {c:σ} {h:Heap} {tk:Nat} {M:PySem.Str → Option Value} (H:At C s t m l) (hx:gZ cs x = true)
  (hnd:((Ld c).map (·.1)).Nodup) (hM:tL C (Mp c) M) (hoff:OwnOff own ((Ld c).map (·.1))) (F:Fr C.h₀ C.L h (fun y=>if y = x then some v else M y)) (N:News C.h₀ C.L h (Ld c++own))
  (turn:∀ own',cS C n body (fG Ld Mp P own' K) tk ((x,v) :: Mp c) (Ld c++own')) :
  wpAny (model PR w) C.A (execs body C.env) (InvPostG C.h₀ C.L (uK C Ld Mp P) own { s with heap:=h,toks:=tk } (uG C K)) (fun _ _=>False) { s with heap:=h,toks:=tk }:=by
 obtain ⟨own',ho,HA⟩:=eN (tk:=tk) (m':=(x,v) :: Mp c) H hnd hoff F N ⟨C.sto (cD hx).2 _,fun y u e=>by
  unfold dD at e
  cases e2:gT x y with
  | true =>
   rw [e2] at e
   rw [← cT e2]
   exact ⟨(if_pos rfl).trans e,(cD hx).1⟩
  | false =>
   rw [e2] at e
   exact ⟨(if_neg (po e2).symm).trans (hM.2 y u e).1,(hM.2 y u e).2⟩⟩
 exact (bY n (turn own')).run HA fun fl s₂ t' m' l' H' hk=>dA H ho H' hk
theorem eG {n:Nat} {st:List Stmt} {K:KF} (h:∀ K',(∀ fl t m l,K fl t m l → K' fl t m l) → cS C n st K' t m l):cS C n st K t m l:=h K fun _ _ _ _ h=>h
noncomputable def AW (C:Cx w cs lv) (x:PySem.Str) (body:List Stmt) (v:Value) (t:Nat) (m:Map) (l:Led) (K:KF):Prop :=
 ∀ s,At C s t m l → wpAny (model PR w) C.A (pyIter v) (fun it s₂=>LoopAtV PR w C.A C.h₀ C.env x body (uG C K) (fun _ _=>False) it s₂) (fun _ _=>False) s
theorem lE {x:PySem.Str} {px pos:Pos} {iter:PySem.Expr} {body:List Stmt} {K:KF} (hx:gZ cs x = true) (hs:∀ v,foldedSetIterable iter C.env v = pure v) (h:cE C 12 iter t m l fun v t m l=>AW C x body v t m l K) :
  af C (exec (.For (.Name x px) iter body [] pos) C.env) t m l K:=fun s H =>
 let ⟨_,F,_⟩:=H.M
 For_invVF F (bw (cD hx).1).1 (by show (cs.s.kind == .class || (cs.s.kind == .module && _)) = false;rw [C.hk];rfl) ((af.run (aw 12 h) H) fun v s' _ _ _ H' h'=>h' s' H') hs .never
theorem di {D:Addr} {vs:List Value} {nn:Nat} {x:PySem.Str} {body:List Stmt} {K:KF} (Ld:σ → Led) (Mp:σ → Map) (P:Nat → σ → Prop) (c₀:σ) (n:Nat) (hx:gZ cs x = true)
  (hm:ar m (Mp c₀)) (hl:aq (Ld c₀) l) (hD:∀ c,(D,listOf vs.toArray nn) ∈ Ld c) (hp:P 0 c₀)
  (turn:∀ i c v t own,vs[i]? = some v → P i c → cS C n body (fG Ld Mp (P (i + 1)) own K) t ((x,v) :: Mp c) (Ld c++own))
  (done:∀ c t,P vs.length c → K .next t (Mp c) (Ld c)):AW C x body (.ref D) t m l K:=fun s H=>by
 obtain ⟨M,F,hM⟩:=H.M
 refine kdl_iter (news:=Ld c₀) (fun i=>uK C Ld Mp (P i)) rfl (hD c₀) F (fun p hp=>H.N p (hl.mem p hp)) ⟨c₀,rfl,(hl.nd H.nd),hp,hM.1,fun y u e=>hM.2 y u (bH hm e)⟩ ?_ ?_
 ·rintro i v M₁ _ h tk own hv hoff _ ⟨c,rfl,hnd,hP,hM₁⟩ F₁ N₁
  refine wpAny_mono (iD (P:=P (i + 1)) (K:=K) (n:=n) H hx hnd hM₁ hoff F₁ N₁ fun own'=>turn i c v tk own' hv hP) (fun f s₂ p=>?_) fun _ _ x=>x
  have up:InvEndG C.h₀ C.L (uK C Ld Mp (P (i + 1))) own { s with heap:=h,toks:=tk } s₂ → InvEndG C.h₀ C.L (fun m' nx=>(D,listOf vs.toArray nn) ∈ nx ∧ uK C Ld Mp (P (i + 1)) m' nx) own { s with heap:=h,toks:=tk } s₂:=by
   rintro ⟨h',tk',m',news',nx',e',F',N',hn',ho',ha,hS⟩
   refine ⟨h',tk',m',news',nx',e',F',N',hn',ho',ha,?_,hS⟩
   obtain ⟨c',rfl,_⟩:=hS
   exact hD c'
  cases f with
  | ret v=>exact p
  | brk=>exact p
  | next=>exact up p
  | cont=>exact up p
 ·rintro M₁ _ h tk ⟨c,rfl,hnd,hP,hM₁⟩ F₁ N₁
  exact At.ret ⟨rfl,H.gens,H.drawn,H.os,N₁,hnd,M₁,F₁,hM₁⟩ (done c tk hP)
theorem rm {env:Env} {A:Around} {E:Value → Shared → Prop} {Q:Flow → Shared → Prop} {h₀:Heap} {x:PySem.Str} {body:List Stmt} {r:Addr} {a b:Int} {t u v:Tok} {n:Nat} {m₀:PySem.Str → Option Value} {news:List (Addr × Obj)} (J:Nat → (PySem.Str → Option Value) → List (Addr × Obj) → Prop)
  (hh:A.handled = none) (F:Fr h₀ env.locals s.heap m₀) (N:News h₀ env.locals s.heap news) (hr:IsRange s.heap r a b 1 t u v) (hsm:Builtin.Range.small a b 1 = true) (hsz:Builtin.Range.rangeSize a b 1 = ((n:Nat):Int))
  (hJ:J 0 m₀ news)
  (turn:∀ i m₁ nx t h tk own,i < n → OwnOff own (nx.map (·.1)) → J i m₁ nx →
   Fr h₀ env.locals h (fun y=>if y = x then some (.int (a + (i:Int)) t) else m₁ y) → News h₀ env.locals h (nx++own) →
   wpAny (model PR w) A (execs body env) (InvPostG h₀ env.locals (J (i + 1)) own { s with heap:=h,toks:=tk } Q) E { s with heap:=h,toks:=tk })
  (done:∀ m₁ nx h tk,J n m₁ nx → Fr h₀ env.locals h m₁ → News h₀ env.locals h nx → Q .next { s with heap:=h,toks:=tk }) :
  wpAny (model PR w) A (pyIter (.ref r)) (fun it s₂=>LoopAtV PR w A h₀ env x body Q E it s₂) E s:=by
 refine wpAny_pyIter_range hr hsm ?_
 have W:=range_walks (prog:=PR) (w:=w) (I:=s.heap.objs.size) hh a n
 refine ⟨s.heap.objs.size,_,_,n,_,_,m₀,news,J,rfl,W,?_,?_,?_,?_,F.keeps fun _ _ e=>Heap.get?_push_of_some _ e,N.grown fun _ _ e=>Heap.get?_push_of_some _ e,hJ,?_,?_⟩
 ·intro h
  exact Nat.ne_of_lt F.ns.lt (List.mem_singleton.mp h)
 ·intro b hb;rw [List.mem_singleton.mp hb];exact next_is_new F
 ·intro p hp h
  exact Nat.ne_of_lt (Heap.lt_size (N p hp).1) (List.mem_singleton.mp h)
 ·show IsRangeIter _ _ _ _ _;rw [hsz];simpa using Heap.get?_push_size _ rfl
 ·rintro i v m₁ news₁ s₁ own ⟨hh',tk',rfl⟩ hin ⟨t,rfl⟩ hJ₁ hoff hown hget hfp hst' F₁ N₁
  have hst2:hh'.get? s.heap.objs.size = some _:=hst'
  have hIown:=hfp s.heap.objs.size (List.mem_singleton.mpr rfl) (next_is_new F) _ hst2
  have hsep:OwnOff own (news₁.map (·.1)):=by
   intro p hp b hb e
   obtain ⟨q,hq,rfl⟩:=List.mem_map.mp hb
   exact hoff q hq (by rw [← e];exact hown p hp)
  have N₂:News h₀ env.locals hh' (news₁++own):=fun p hp=>N₁ p ((aH hp).elim (fun h=>List.mem_append.mpr (.inr h)) fun h=>List.mem_append.mpr (.inl h))
  refine wpAny_mono (turn i m₁ news₁ t hh' tk' own hin hsep hJ₁ F₁ N₂) (fun f s₂ p=>?_) fun _ _ e=>e
  have fin:InvEndG h₀ env.locals (J (i + 1)) own { s with heap:=hh',toks:=tk' } s₂ →
    LoopStepU h₀ env.locals [s.heap.objs.size] own (J (i + 1)) { s with heap:=hh',toks:=tk' } .next s₂:=by
   rintro ⟨h',tk,m',news',nx,e,F',N',hn,ho,ha,hm⟩
   refine ⟨rfl,h',tk,m',nx,e,F',fun p hp=>N' p ((aH hp).elim (ho p) (hn p)),fun p hp hq=>?_,hm⟩
   exact ha _ hIown p.1 (List.mem_map.mpr ⟨p,hp,rfl⟩) (List.mem_singleton.mp hq).symm
  cases f with
  | ret v=>exact .ret p
  | brk=>exact .brk p
  | next=>exact .next (fin p)
  | cont=>exact .cont (fin p)
 ·rintro h' tk m' news' F' N' _ hJ₁
  exact done m' news' h' tk hJ₁ F' N'
noncomputable abbrev yP (a b:Int) (t u v:Nat):Obj:={ cls:=.type "range",dict:=none,data:=.fields #[.int a t,.int b u,.int 1 v],slots:=#[] }
theorem fC {a b t1 t2 t3:Nat} {r:Addr} {x:PySem.Str} {body:List Stmt} {K:KF} (Ld:σ → Led) (Mp:σ → Map) (P:Nat → σ → Prop) (c₀:σ) (n:Nat) (hx:gZ cs x = true)
  (hsm:a ≤ 1000) (hsm2:b ≤ 1000) (hr:(r,yP (a:Int) (b:Int) t1 t2 t3) ∈ l) (hm:ar m (Mp c₀)) (hl:aq (Ld c₀) l) (hp:P 0 c₀)
  (turn:∀ i c tk t own,i < b - a → P i c → cS C n body (fG Ld Mp (P (i + 1)) own K) t ((x,.int ((a:Int) + (i:Int)) tk) :: Mp c) (Ld c++own))
  (done:∀ c t,P (b - a) c → K .next t (Mp c) (Ld c)):AW C x body (.ref r) t m l K:=fun s H=>by
 obtain ⟨M,F,hM⟩:=H.M
 refine rm (news:=Ld c₀) (fun i=>uK C Ld Mp (P i)) rfl F (fun p hp=>H.N p (hl.mem p hp)) (H.N _ hr).1 (uA a b hsm hsm2) (ul a b) ⟨c₀,rfl,(hl.nd H.nd),hp,hM.1,fun y u e=>hM.2 y u (bH hm e)⟩ ?_ ?_
 ·rintro i M₁ _ tv h tk own hi hoff ⟨c,rfl,hnd,hP,hM₁⟩ F₁ N₁
  exact iD (P:=P (i + 1)) (K:=K) (n:=n) H hx hnd hM₁ hoff F₁ N₁ fun own'=>turn i c tv tk own' hi hP
 ·rintro M₁ _ h tk ⟨c,rfl,hnd,hP,hM₁⟩ F₁ N₁
  exact At.ret ⟨rfl,H.gens,H.drawn,H.os,N₁,hnd,M₁,F₁,hM₁⟩ (done c tk hP)
noncomputable def Ee (Ld:σ → Led) (Mp:σ → Map) (P:σ → Prop) (μ:σ → Nat) (c:σ) (K:KF):KF:=fun fl t m l=>match fl with
 | .next=>AG Mp Ld (fun c'=>P c' ∧ μ c' < μ c) m l
 | .cont=>AG Mp Ld (fun c'=>P c' ∧ μ c' < μ c) m l
 | .brk=>K .next t m l
 | .ret v=>K (.ret v) t m l
theorem f6 {test:PySem.Expr} {body:List Stmt} {pos:Pos} {K:KF} (Ld:σ → Led) (Mp:σ → Map) (P D:σ → Prop) (μ:σ → Nat) (c₀:σ) (n:Nat) (hm:∀ x v,dD (Mp c₀) x = some v → dD m x = some v) (hl:aq (Ld c₀) l) (hp:P c₀)
  (turn:∀ c t,P c → af C (isTrue test C.env (eval test C.env)) t (Mp c) (Ld c) fun b t m l=>(b = true → cS C n body (Ee Ld Mp P μ c K) t m l) ∧ (b = false → m = Mp c ∧ l = Ld c ∧ D c)) (done:∀ c t,D c → K .next t (Mp c) (Ld c)):af C (exec (.While test body [] pos) C.env) t m l K:=fun s H=>by
 obtain ⟨M,F,hM⟩:=H.M
 refine While_inv2 (L:=C.L) (h₀:=C.h₀) (news:=Ld c₀) (n₀:=μ c₀) (fun n M nx=>∃ c,nx = Ld c ∧ μ c = n ∧ ((Ld c).map (·.1)).Nodup ∧ P c ∧ tL C (Mp c) M) F (fun p hp=>H.N p (hl.mem p hp)) ⟨c₀,rfl,rfl,(hl.nd H.nd),hp,hM.1,fun y u e=>hM.2 y u (hm y u e)⟩ ?_ .never
 rintro n1 M₁ _ h tk F₁ N₁ ⟨c,rfl,rfl,hnd,hP,hM₁⟩
 have HA:At C { s with heap:=h,toks:=tk } tk (Mp c) (Ld c):=⟨rfl,H.gens,H.drawn,H.os,N₁,hnd,M₁,F₁,hM₁⟩
 refine (turn c tk hP).run HA fun b s₂ t₂ m₂ l₂ H₂ h₂=>?_
 cases b with
 | false =>
  rw [if_neg Bool.false_ne_true]
  obtain ⟨rfl,rfl,hD⟩:=h₂.2 rfl
  exact H₂.ret (done c t₂ hD)
 | true =>
  rw [if_pos rfl]
  refine (bY n (h₂.1 rfl)).run H₂ fun fl s₃ t₃ m₃ l₃ H₃ h₃=>?_
  have fin:AG Mp Ld (fun c'=>P c' ∧ μ c' < μ c) m₃ l₃ → ∃ h₂ tk₂ m₂ nx n',s₃ = { s with heap:=h₂,toks:=tk₂ } ∧ Fr C.h₀ C.L h₂ m₂ ∧ News C.h₀ C.L h₂ nx ∧ n' < μ c ∧ (∃ c,nx = Ld c ∧ μ c = n' ∧ ((Ld c).map (·.1)).Nodup ∧ P c ∧ tL C (Mp c) m₂):=by
   rintro ⟨c',hh,hs,hP',hμ⟩
   obtain ⟨M',F',hM'⟩:=H₃.M
   exact ⟨s₃.heap,s₃.toks,M',Ld c',μ c',H.same H₃,F',fun p hp=>H₃.N p (hs.mem p hp),hμ,c',rfl,rfl,(hs.nd H₃.nd),hP',hM'.1,fun y u e=>hM'.2 y u (bH hh e)⟩
  cases fl with
  | next=>exact fin h₃
  | cont=>exact fin h₃
  | brk=>exact H₃.ret h₃
  | ret v=>exact H₃.ret h₃
theorem zp {test:PySem.Expr} {body:List Stmt} {pos:Pos} {K:KF} (Ld:σ → Led) (Mp:σ → Map) (P D:σ → Prop) (μ:σ → Nat) (c₀:σ) (n:Nat) (hm:ar m (Mp c₀)) (hl:aq (Ld c₀) l) (hp:P c₀)
  (turn:∀ c t,P c → Br C (cE C 12) 12 test t (Mp c) (Ld c) (cS C n body (Ee Ld Mp P μ c K)) (fun _ m l=>m = Mp c ∧ l = Ld c ∧ D c)) (done:∀ c t,D c → K .next t (Mp c) (Ld c)):af C (exec (.While test body [] pos) C.env) t m l K :=
 f6 Ld Mp P D μ c₀ n (fun _ _ e=>bH hm e) hl hp (fun c t h=>dz (aw 12) 12 (turn c t h)) done
theorem eW {test:PySem.Expr} {body:List Stmt} {pos:Pos} {K:KF}
  (h:∀ t,Br C (cE C 12) 12 test t m l (cS C 1 body (Ee (fun _=>l) (fun _=>m) (fun _=>True) (fun _=>0) () K)) (fun _ m' l'=>m' = m ∧ l' = l ∧ True)) (hk:∀ t,K .next t m l):af C (exec (.While test body [] pos) C.env) t m l K :=
 f6 (σ:=Unit) (fun _=>l) (fun _=>m) (fun _=>True) (fun _=>True) (fun _=>0) () 1 (fun _ _ e=>e) .refl trivial (fun _ t _=>dz (aw 12) 12 (h t)) fun _ t _=>hk t
theorem Co {e:PySem.Expr} {kt kf:KN} (T D:Prop) (h:Br C (cE C 12) 12 e t m l (fun _ m' l'=>m' = m ∧ l' = l ∧ T) (fun _ m' l'=>m' = m ∧ l' = l ∧ D)) (ht:∀ t,T → kt t m l) (hf:∀ t,D → kf t m l) :
  af C (isTrue e C.env (eval e C.env)) t m l fun b t m l=>(b = true → kt t m l) ∧ (b = false → kf t m l):=fun s H =>
 (dz (aw 12) 12 h).run H fun b s₁ t₁ m₁ l₁ H₁ h₁=>H₁.ret ⟨fun e=>let ⟨a,b,x⟩:=h₁.1 e;a ▸ b ▸ ht t₁ x,fun e=>let ⟨a,b,x⟩:=h₁.2 e;a ▸ b ▸ hf t₁ x⟩
theorem eo {test:PySem.Expr} {body:List Stmt} {pos:Pos} {K:KF} (Ld:σ → Led) (Mp:σ → Map) (P T D:σ → Prop) (μ:σ → Nat) (c₀:σ) (n:Nat) (hm:ar m (Mp c₀)) (hl:aq (Ld c₀) l) (hp:P c₀)
  (ts:∀ c t,P c → Br C (cE C 12) 12 test t (Mp c) (Ld c) (fun _ m l=>m = Mp c ∧ l = Ld c ∧ T c) (fun _ m l=>m = Mp c ∧ l = Ld c ∧ D c)) (turn:∀ c t,P c → T c → cS C n body (Ee Ld Mp P μ c K) t (Mp c) (Ld c)) (done:∀ c t,D c → K .next t (Mp c) (Ld c)):af C (exec (.While test body [] pos) C.env) t m l K :=
 f6 Ld Mp P D μ c₀ n (fun _ _ e=>bH hm e) hl hp (fun c t h=>Co _ _ (ts c t h) (fun t hT=>turn c t h hT) fun t hD=>⟨rfl,rfl,hD⟩) done
noncomputable def AA (Ld:σ → Led) (Mp:σ → Map) (P:σ → Prop) (K:KF):KF:=fun fl t m l=>match fl with
 | .next=>AG Mp Ld P m l
 | .cont=>K .cont t m l
 | .brk=>K .brk t m l
 | .ret v=>K (.ret v) t m l
theorem CW {n:Nat} {test:PySem.Expr} {b o:List Stmt} {pos:Pos} {K:KF} (D:Prop) (h:Br C (cE C 12) 12 test t m l (cS C n b K) (fun _ m' l'=>m' = m ∧ l' = l ∧ D)) (ho:∀ t,D → cS C n o K t m l):af C (exec (.If test b o pos) C.env) t m l K:=fun s H =>
 wpAny_If ((dz (aw 12) 12 h).run H fun c s₁ t₁ _ _ H₁ h₁=>by
  cases c with
  | true=>exact bY n (h₁.1 rfl) s₁ H₁
  | false =>
   obtain ⟨rfl,rfl,hD⟩:=h₁.2 rfl
   exact bY n (ho t₁ hD) s₁ H₁)
theorem mG {test:PySem.Expr} {b o:List Stmt} {pos:Pos} {K:KF} (Ld:σ → Led) (Mp:σ → Map) (P:σ → Prop) (n:Nat) (h:Br C (cE C 12) 12 test t m l (cS C n b (AA Ld Mp P K)) (cS C n o (AA Ld Mp P K)))
  (done:∀ c t,P c → K .next t (Mp c) (Ld c)):af C (exec (.If test b o pos) C.env) t m l K:=fun s H =>
 (bb h).run H fun fl s₁ t₁ m₁ l₁ H₁ h₁=>by
  cases fl with
  | next =>
   obtain ⟨c,hh,hs,hP⟩:=h₁
   exact (H₁.less (fun _ _ e=>bH hh e) hs).ret (done c t₁ hP)
  | cont=>exact H₁.ret h₁
  | brk=>exact H₁.ret h₁
  | ret v=>exact H₁.ret h₁
end
end
section
section
variable {w:World} {cs:Sc} {lv:Nat} {C:Cx w cs lv} {t:Nat} {m:Map} {l l':Led} {α:Type}
theorem cg {tree:Sem α} {k:α → Nat → Map → Led → Prop} (h:∀ (s:Shared) (M:PySem.Str → Option Value) (Q:α → Shared → Prop),s.toks = t → Fr C.h₀ C.L s.heap M → News C.h₀ C.L s.heap l → (l.map (·.1)).Nodup →
   (∀ v h' tk l',Fr C.h₀ C.L h' M → News C.h₀ C.L h' l' → (l'.map (·.1)).Nodup → k v tk m l' → Q v { s with heap:=h',toks:=tk }) → wpAny (model PR w) C.A tree Q (fun _ _=>False) s):af C tree t m l k:=fun s H=>by
 obtain ⟨M,F,hM⟩:=H.M
 exact h s M _ H.tk F H.N H.nd fun v h' tk l' F' N' nd' hk=>At.ret ⟨rfl,H.gens,H.drawn,H.os,N',nd',M,F',hM⟩ hk
theorem ay {p:Addr × Obj} (h:∀ q ∈ l,q.1 ≠ p.1) (nd:(l.map (·.1)).Nodup):((p :: l).map (·.1)).Nodup :=
 List.nodup_cons.mpr ⟨fun hm=>let ⟨q,hq,e⟩:=List.mem_map.mp hm;h q hq e,nd⟩
theorem ir {d:Addr} (h:∀ p ∈ l,p.1 < d):∀ q ∈ l,q.1 ≠ d:=fun q hq=>Nat.ne_of_lt (h q hq)
inductive cJ (d:Addr) (o o':Obj):Led → Led → Prop
 | head {r}:cJ d o o' ((d,o) :: r) ((d,o') :: r)
 | tail {p r r'}:cJ d o o' r r' → cJ d o o' (p :: r) (p :: r')
theorem cJ.mem {d:Addr} {o o':Obj}:∀ {l l':Led},cJ d o o' l l' → (d,o) ∈ l
 | _,_,.head=>.head _
 | _,_,.tail h=>.tail _ h.mem
theorem cJ.adr {d:Addr} {o o':Obj}:∀ {l l':Led},cJ d o o' l l' → l'.map (·.1) = l.map (·.1)
 | _,_,.head=>rfl
 | _,_,.tail h=>congrArg (_ :: ·) h.adr
theorem cJ.upd {d:Addr} {o o':Obj}:∀ {l l':Led},cJ d o o' l l' → (l.map (·.1)).Nodup → Upd d o o' l l'
 | _,_,.head,h=>.head fun p hp e=>(List.nodup_cons.mp h).1 (List.mem_map.mpr ⟨p,hp,e⟩)
 | _,_,.tail (p:=p) q,h=>.tail (fun e=>(List.nodup_cons.mp h).1 (List.mem_map.mpr ⟨_,q.mem,e.symm⟩)) (q.upd (List.nodup_cons.mp h).2)
theorem aC {vs:List Value} {k:KV} (h:∀ D,k (.ref D) t m ((D,listOf vs.toArray 0) :: l)) (hz:vs.length ≤ 100:=by exact Nat.le_of_ble_eq_true rfl):af C (newList vs) t m l k :=
 cg fun s M Q ht F N nd back=>by
  subst ht
  exact newList_K F N (fun D h' F' N' hlt=>back _ _ _ _ F' N' (ay (ir hlt) nd) (h D)) (Nat.le_trans hz (Nat.le_of_ble_eq_true rfl))
theorem bg {vs:List Value} {k:KV} (h:∀ D,k (.ref D) t m ((D,bo vs) :: l)) (hz:vs.length ≤ 100:=by exact Nat.le_of_ble_eq_true rfl):af C (newTuple vs) t m l k :=
 cg fun s M Q ht F N nd back=>by
  subst ht
  exact kup_newTuple F N (fun D h' F' N' hlt=>back _ _ _ _ F' N' (ay (ir hlt) nd) (h D)) (Nat.le_trans hz (Nat.le_of_ble_eq_true rfl))
theorem xa {a b:Int} {t1 t2:Nat} {k:KV} (h:∀ D,k (.ref D) t.succ m ((D,yP a b t1 t2 t) :: l)):af C (call (.type "range") [.int a t1,.int b t2]) t m l k :=
 cg fun s M Q ht F N nd back=>by
  subst ht
  exact call_range_2 (back _ _ _ _ (F.push _) (N.push F _) (ay (fun q hq=>Nat.ne_of_lt (Heap.lt_size (N q hq).1)) nd) (h _))
theorem lL {b:Int} {t2:Nat} {k:KV} (h:∀ D,k (.ref D) t.succ.succ m ((D,yP 0 b t t2 t.succ) :: l)):af C (call (.type "range") [.int b t2]) t m l k :=
 cg fun s M Q ht F N nd back=>by
  subst ht
  exact call_range_1 (back _ _ _ _ (F.push _) (N.push F _) (ay (fun q hq=>Nat.ne_of_lt (Heap.lt_size (N q hq).1)) nd) (h _))
theorem qR {pos:Pos} {k:KV} (h:∀ D o,(D == sysModules) = false → o.IsDictOf (strKind PR w) [] → o.IsDictOf (intKind PR w) [] → k (.ref D) t m ((D,o) :: l)):af C (eval (.Dict [] [] pos) C.env) t m l k :=
 cg fun s M Q ht F N nd back=>by
  subst ht
  exact newDict_K F N C.T.nolimit fun D h' o F' N' hlt lo a _ b _=>back _ _ _ _ F' N' (ay (ir hlt) nd) (h D o lo a b)
theorem yT {d:Addr} {e:Bool} {k:KV} (hd:(d,bn e) ∈ l) (h:∀ q t,k (.ref q) t m ((q,aP "set.__contains__" (.ref d)) :: l)):af C (getAttr (.ref d) (Str.ofString "__contains__") true) t m l k :=
 cg fun s M Q ht F N nd back=>tU F N hd fun q h' tk F' N' hne=>back _ _ _ _ F' N' (ay hne nd) (h q tk)
theorem Bi {d:Addr} {o:Obj} {T:Type} [DecidableEq T] (knd:KeyKind PR w T) {kvs:List (T × Value)} {k:KV} (hd:(d,o) ∈ l) (ho:o.IsDictOf knd kvs) (h:∀ q t,k (.ref q) t m ((q,aP "dict.get" (.ref d)) :: l)):af C (getAttr (.ref d) (Str.ofString "get") true) t m l k :=
 cg fun s M Q ht F N nd back=>mY (knd:=knd) F N hd ho fun q h' tk F' N' hne=>back _ _ _ _ F' N' (ay hne nd) (h q tk)
theorem BY {d:Addr} {o:Obj} {T:Type} [DecidableEq T] (knd:KeyKind PR w T) {kvs:List (T × Value)} {pl:Sem Bool} {k:Value × List Value → Nat → Map → Led → Prop} (hd:(d,o) ∈ l) (ho:o.IsDictOf knd kvs) (h:k (.builtin "dict.get",[.ref d]) t m l):af C (getMethod (.ref d) (Str.ofString "get") pl) t m l k :=
 cg fun s M Q ht F N nd back=>by
  subst ht
  exact kdg_method (knd:=knd) N hd ho (back _ _ _ _ F N nd h)
theorem be {D:Addr} {lv:List (PySem.Str × Nat)} {n u:Nat} {i:Int} {value slice:PySem.Expr} {k:KV} (hd:(D,listOf (strValues lv).toArray n) ∈ l) (h0:0 ≤ i) (hi:i.toNat < lv.length) (hz:lv.length ≤ 100000) (hs:subscripted slice false (.ref D) (.int i u) = operate [.ref D,.int i u] (getItem (.ref D) (.int i u)))
  (h:∀ y tk,lv[i.toNat]? = some (y,tk) → k (.str y tk) t m l):af C (subscriptTail value slice (.ref D) (.int i u)) t m l k :=
 cg fun s M Q ht F N nd back=>by
  subst ht
  exact uc N hd h0 hi hz (fun y tk e=>back _ _ _ _ F N nd (h y tk e)) hs
theorem cV {D:Addr} {lv:List (PySem.Str × Nat)} {n:Nat} {k:KV} (hd:(D,listOf (strValues lv).toArray n) ∈ l) (hz:lv.length ≤ 100000) (h:k (.int (lv.length:Nat) t.succ) t.succ.succ m l):af C (call (.builtin "len") [.ref D]) t m l k :=
 cg fun s M Q ht F N nd back=>by
  subst ht
  exact wL N hd hz (back _ _ _ _ F N nd h)
theorem iZ {q d:Addr} {e:Bool} {y:PySem.Str} {tk:Nat} {k:KV} (hq:(q,aP "set.__contains__" (.ref d)) ∈ l) (hd:(d,bn e) ∈ l) (h:k (.bool false) t.succ m l):af C (call (.ref q) [.str y tk]) t m l k :=
 cg fun s M Q ht F N nd back=>by
  subst ht
  exact yc N hq hd (back _ _ _ _ F N nd h)
theorem mx {n:Nat} {q:Addr} {id:String} {self:Value} {first:List Value} {pos:Pos} {es:List PySem.Expr} {k:KV} (hq:(q,aP id self) ∈ l) (ha:es.all av = true)
  (h:rI (cE C n) es t m l fun vs t m l=>(q,aP id self) ∈ l ∧ af C (call (.ref q) (first++vs)) t m l k):af C (callWith pos (.ref q) first (backTo pos (starEach es C.env)) []) t m l k:=fun s H =>
 callWith_of (P:=Fh q id self) (by rw [dF ha];rfl) wa (cB (aw n) ha h H fun vs s' t' m' l' H' h'=>⟨(H'.N _ h'.1).1,h'.2 s' H'⟩)
theorem uQ {D:Addr} {its:Array Value} {n:Nat} {v:Value} {k:KV} (U:cJ D (listOf its n) (listOf (its.push v) (n + 1)) l l') (hz:its.size ≤ 100000) (h:k .none t m l'):af C (call (.builtin "list.append") [.ref D,v]) t m l k :=
 cg fun s M Q ht F N nd back=>by
  subst ht
  exact append_K F N (U.upd nd) (fun h' F' N'=>back _ _ _ _ F' N' (U.adr ▸ nd) h) (Nat.le_trans hz (Nat.le_of_ble_eq_true rfl))
theorem au {D:Addr} {vs:List Value} {n:Nat} {v:Value} {k:KV} (U:cJ D (listOf vs.toArray n) (listOf (vs++[v]).toArray (n + 1)) l l') (hz:vs.length ≤ 100000) (h:k .none t m l'):af C (call (.builtin "list.append") [.ref D,v]) t m l k:=by
 rw [← List.push_toArray] at U
 exact uQ U (by rw [List.size_toArray];exact hz) h
noncomputable def hU:List PySem.Expr → Option (List PySem.Str)
 | []=>some []
 | .Name x _ :: r=>match hU r with
  | some xs=>some (x :: xs)
  | none=>none
 | _ :: _=>none
theorem er:∀ {es:List PySem.Expr} {xs:List PySem.Str},hU es = some xs → es.all av = true ∧ xs.length = es.length ∧ z0 C ((assignEach es C.env).map (·.2)) xs ∧ (assignEach es C.env).length = es.length ∧ (assignEach es C.env).findIdx? (·.1) = none
 | [],_,h=>by cases h;exact ⟨rfl,rfl,trivial,rfl,rfl⟩
 | e :: r,xs,h=>by
  unfold hU at h
  split at h
  ·cases ‹_ :: _ = []›
  ·rename_i x p r' e'
   split at h
   ·rename_i xs' e2
    cases e'
    cases h
    obtain ⟨h1,h2,h3,h4,h5⟩:=er e2
    refine ⟨by rw [List.all_cons,h1];rfl,congrArg Nat.succ h2,⟨fun v s Q hq=>assign_Name hq,h3⟩,congrArg Nat.succ h4,?_⟩
    show ((false,assign (.Name x p) C.env) :: assignEach r C.env).findIdx? (·.1) = none
    rw [List.findIdx?_cons,h5];rfl
   ·cases h
  ·cases h
theorem fe {T:Addr} {vs:List Value} {elts:List PySem.Expr} {kx:Nat} {pos:Pos} {xs:List PySem.Str} {k:KN} (hT:(T,bo vs) ∈ l) (hn:hU elts = some xs) (hl:xs.length = vs.length) (h:xK C xs vs t m l k):af C (assign (.Tuple elts kx pos) C.env (.ref T)) t m l fun _ t m l=>k t m l:=fun s H=>by
 obtain ⟨M,F,hM⟩:=H.M
 obtain ⟨h1,h2,h3,h4,h5⟩:=er (C:=C) hn
 rw [assign_Tuple]
 refine wpAny_bind (wpAny_standAt ?_)
 unfold unpack
 rw [h4,h5]
 have ht:IsTup s.heap T vs.toArray:=⟨_,(H.N _ hT).1,rfl,_,rfl⟩
 refine wpAny_bind (wpAny_holding (unpackItemsN_ F H.N ht rfl (by rw [List.size_toArray,← hl,h2]) (fun h' F' N'=>?_)))
 exact fh (k:=k) h3 hl h { s with heap:=h' } ⟨H.tk,H.gens,H.drawn,H.os,N',H.nd,M,F',hM⟩
end
end
section
noncomputable abbrev ca (i j k:Int) (t u v:Nat) (d:Addr):Obj:={ cls:=.ref 135,dict:=some d,data:=.seq #[.int i t,.int j u,.int k v] 0 }
noncomputable def C0 (w:World) (i j k:Int) (t u v:Nat) (Q E:Value → Shared → Prop) (r:Result) (s:Shared):Prop:=match r with
 | .ok (.ret x)=>∃ a d,x = .ref a ∧ s.heap.get? a = some (ca i j k t u v d) ∧ (K w.params).In s.heap ∧ Q (.ref a) s
 | .ok _=>False
 | .error e=>E e s
theorem oE {w:World} {A:Around} {E:Value → Shared → Prop} {s:Shared} {Q:Value → Shared → Prop} {i j k:Int} {t u v:Nat} (X:(K w.params).In s.heap)
 (h:codeAny (model rW.row.prog w) (A.under (.builtin "type.__call__" ⟨[.ref 135,.int i t,.int j u,.int k v],[]⟩)) (.call (.ref 82) ⟨[.ref 135,.int i t,.int j u,.int k v],[]⟩) (C0 w i j k t u v Q E) { s with toks:=s.toks + 1 }) :
 wpAny (model rW.row.prog w) A (call (.ref 135) [.int i t,.int j u,.int k v]) Q E s:=by
 refine wpAny_call (xw (c':=.call (.builtin "type.__call__") ⟨[.ref 135,.int i t,.int j u,.int k v],[]⟩) (F:=K w.params) (List.replicate 2 none) rfl (fun _=>by kernel_rfl) X ?_)
 refine xw (c':=.builtin "type.__call__" ⟨[.ref 135,.int i t,.int j u,.int k v],[]⟩) (F:=K w.params) (List.replicate 1 none) (Code.quiet_builtin _ (by decide +kernel)) (fun _=>by kernel_rfl) X ?_
 refine codeAny_builtin PySem.F.entry_type_call ?_
 unfold Builtin.«type.__call__»
 refine wpAny_bind (oZ [.ref 135,.type "tuple",.type "object"] s [none] [] dX (fun _=>by kernel_rfl) X (wpAny_bind (oZ none s (List.replicate 2 none) [] dX (fun _=>by kernel_rfl) X (wpAny_bind (oZ (.ref 82) { s with toks:=s.toks + 1 } (List.replicate 11 none) [Builtin.«type.__getattribute__»,Builtin.«staticmethod.__get__»] (az KF.entry_tga (az KF.entry_sm dX)) (fun _=>by kernel_rfl) X (wpAny_bind (wpAny_holding (wpAny_call (codeAny_mono h fun r s' z=>?_)))))))))
 rcases r with e | (x | _ | _ | _) <;> first | exact z | exact z.elim | skip
 obtain ⟨a,d,rfl,ha,X1,z⟩:=z
 let o:=some (ca i j k t u v d)
 exact oZ (.done (.ret (.ref a))) s' [o,none,o,none,none,none,o,none,o,none,none,none,none,none] [Builtin.«object.__init__»] (az ha (az ha (az ha (az PySem.F.entry_object_init (az ha dX))))) (fun _=>by kernel_rfl) X1 z
end
section
noncomputable abbrev EI (P:Params) {α:Type} (t:Sem α):Sem α:=Bn (K P) ⟨rW.row.prog,P⟩ t
structure Ff (P:Params):Prop where
 chk:∀ T:Addr,EI P (checkBuiltinCall "tuple.__new__" ⟨[.ref 135,.ref T],[]⟩) = pure ()
 bod:∀ T:Addr,EI P (Builtin.«tuple.__new__» ⟨[.ref 135,.ref T],[]⟩) = collect (.ref T) >>= fun l=>alloc { cls:=.type "dict",data:=.dict #[] } >>= fun d=>newObj (.ref 135) (.seq l.toArray) (some d) >>= ret
 del:EI P (classHasDel 135) = pure false
section
theorem Es (P:Params):Ff P:=by
 refine (fun h:(rW = rW ∧ K = K) → Ff P=>h ⟨rfl,rfl⟩) ?_
 k_fill
 intro _
 exact ⟨fun T=>by kernel_rfl!,fun T=>by kernel_rfl!,by kernel_rfl!⟩
variable {w:World} {A:Around} {E:Value → Shared → Prop} {s:Shared} {h₀:Heap} {L:Addr} {m:PySem.Str → Option Value} {news:List (Addr × Obj)}
noncomputable def vO (p:Addr × Addr) (led:List (Addr × Obj)):Prop:=(∀ x ∈ led,x.1 ≠ p.1 ∧ x.1 ≠ p.2) ∧ p.1 ≠ p.2
theorem Ak {a b c:Value}:(#[a,b,c]:Array Value).size ≤ sizeLine:=by rw [sizeLine_eq];exact of_decide_eq_true rfl
theorem zk {Q:Value → Shared → Prop} {a b c:Value} {d:Addr} (X:(K w.params).In s.heap) (h:Q (.ref s.heap.objs.size) { s with heap:=s.heap.push { cls:=.ref 135,dict:=some d,data:=.seq #[a,b,c] 0 } }) :
  wpAny (model rW.row.prog w) A (newObj (.ref 135) (.seq [a,b,c].toArray) (some d)) Q E s:=by
 unfold newObj
 dsimp only
 rw [if_neg (Nat.not_lt.mpr Ak)]
 exact wpAny_bind (wpAny_alloc (wpAny_bind (qx (X.keeps (fun b o e=>Heap.get?_push_of_some _ e)) _ (Es w.params).del (wpAny_pure (wpAny_pure h)))))
theorem DU {Q:Value → Shared → Prop} {i j k:Int} {t u v:Nat} {T:Addr} (F:Fr h₀ L s.heap m) (N:News h₀ L s.heap news) (X:(K w.params).In s.heap) (hT:(T,bo [.int i t,.int j u,.int k v]) ∈ news)
 (hQ:∀ q d h',Fr h₀ L h' m → News h₀ L h' ((q,ca i j k t u v d) :: (d,{ cls:=.type "dict",data:=.dict #[] }) :: news) → vO (q,d) news → Q (.ref q) { s with heap:=h' }) :
 wpAny (model rW.row.prog w) A (call (.builtin "tuple.__new__") [.ref 135,.ref T]) Q E s:=by
 refine wpAny_call (codeAny_of_tree ?_)
 generalize hR:(fun r s'=>_:Result → Shared → Prop) = R
 refine (wpAny_bind (m:=checkBuiltinCall "tuple.__new__" ⟨[.ref 135,.ref T],[]⟩) (qx X _ ((Es w.params).chk T) (wpAny_pure (wpAny_pure ⟨plainId_quiet PySem.F.plain_tuple_new _,codeAny_builtin PySem.F.entry_tuple_new ?_⟩))))
 refine qx X _ ((Es w.params).bod T) ?_
 refine wpAny_bind (wpAny_collect_seq T (.inr rfl) (N _ hT).1 rfl rfl (fun h' hk=>?_) Ak)
 have F0:=F.keeps hk
 have N0:=N.keepsAll hk
 have N':=N0.push F0 { cls:=.type "dict",data:=.dict #[] }
 refine wpAny_bind (wpAny_alloc (wpAny_bind (zk ((X.keeps hk).keeps (fun b o e=>Heap.get?_push_of_some _ e)) ?_)))
 refine wpAny_pure ?_
 subst hR
 exact hQ _ _ _ ((F0.push _).push _) (N'.push (F0.push _) (ca i j k t u v h'.objs.size)) ⟨fun x hx=>⟨N'.apart x (.tail _ hx),N0.apart x hx⟩,Ne.symm (N'.apart _ (.head _))⟩
end
end
section
noncomputable abbrev gY (p:Addr × Addr) (i j k:Int) (t u v:Nat):List (Addr × Obj):=[(p.1,ca i j k t u v p.2),(p.2,{ cls:=.type "dict",data:=.dict #[] })]
theorem xD (w:World) (led:List (Addr × Obj)) (i j k:Int) (t u v:Nat) :
  Sp w 135 3 [.int i t,.int j u,.int k v] led (kH (fun p=>.ref p.1) (fun p=>gY p i j k t u v) (fun p=>vO p led)):=by
 delta Sp;k_fill;intros;rename_i hret
 rename Frag.In _ _=>XK
 refine oE (by first | assumption | exact Frag.In.keeps XK (Fr.keep (by assumption))) ?_
 k_dflt (refine' dQ [(Str.ofString "_cls",Value.ref 135),(Str.ofString "a",Value.int i t),(Str.ofString "b",Value.int j u),(Str.ofString "size",Value.int k v)] ?k1 ?k2 ?k3 ?k4 ?k5 ?kA ?kF ?kK ?k6 ?k7 ?k8 ?k9 ?kB ?_ ?c2 ?c3 ?c4 ?c5;(case kA=>exact rfl);(case kF=>exact rfl);(case kK=>assumption);(case k1=>k_asm);(case k2=>k_asm);(case k3=>k_asm);(case k4=>k_asm);(case k5=>k_asm);(case k6=>k_is);(case k7=>k_is);(case k8=>((try simp (config:={zetaDelta:=true}) only [depth_under_make,depth_under_kw,depth_in1,depth_deeper,depth_caller,units_in1,units_deeper,Around.mark_units,units_caller,Around.in1_depth,Around.in1_units,Around.deeper_units] at *);(try dsimp only [ktrTop] at *);have hcL9:=cLine_is;(simp only [recursionLimit] at *);omega));(case k9=>exact BindsTo.of_eq rfl);(case c5=>decide);(case kB=>exact locs rfl);(case c2=>exact rfl);(case c3=>exact rfl);(case c4=>exact rfl);k_whole;intro g' L' h' tk' FG' F' N' B' X' T';(try dsimp only);(try k_lift B');(try k_fold))
 k_steps
 refine' method_type ?F ?X ?k1 ?k2 ?k3 ?k4 ?_
 case F=>k_asm
 case X=>k_asm
 case k1=>exact (by first | rfl | kernel_rfl)
 case k2=>decide +kernel
 case k3=>first | k_is | rfl
 case k4=>first | rfl | decide +kernel
 k_steps
 refine' DU ?F ?N ?X ?T ?_
 case F=>k_asm
 case N=>k_asm
 case X=>k_in
 case T=>exact List.mem_cons_self
 intro q d hm FM NM ME
 (try k_fold)
 k_steps
 rename Fr _ _ _ _=>kF
 rename News _ _ _ _=>kN
 refine ⟨q,d,rfl,(NM _ List.mem_cons_self).1,Frag.In.keeps XK (Fr.keep kF),hret _ (gY (q,d) i j k t u v) _ _ kF (fun p hp=>kN p ?_) ⟨(q,d),rfl,rfl,fun x hx=>ME.1 x (.tail _ hx),ME.2⟩⟩
 simp only [gY,List.cons_append,List.nil_append,List.mem_cons] at hp ⊢
 rcases hp with h | h | h
 ·exact .inl h
 ·exact .inr (.inl h)
 ·exact .inr (.inr (.inr h))
end
section
open PyProof.Rows.LCg PyProof.Rows.LCt
structure SM (w:World) (led:List (Addr × Obj)) (x:Addr) where
 d:Addr
 es:List DictEntry
 n:Nat
 sl:Array (Option Value)
 a:Addr
 b:Addr
 na:Nat
 nb:Nat
 la:List (PySem.Str × Nat)
 lb:List (PySem.Str × Nat)
 bd:Addr
 ob:Obj
 kvs:List (PySem.Str × Value)
 jk:Addr
 jb:Bool
 hx:(x,(⟨.ref 242,some d,.plain,sl⟩:Obj)) ∈ led
 hd:(d,dictOf es n) ∈ led
 ha:getL (Str.ofString "a") es = some (some (.ref a))
 hb:getL (Str.ofString "b") es = some (some (.ref b))
 hj:getL (Str.ofString "b2j") es = some (some (.ref bd))
 hk:getL (Str.ofString "bjunk") es = some (some (.ref jk))
 la':(a,listOf (strValues la).toArray na) ∈ led
 lb':(b,listOf (strValues lb).toArray nb) ∈ led
 bd':(bd,ob) ∈ led
 ob':ob.IsDictOf (PySem.strKind rW.row.prog w) kvs
 jk':(jk,bn jb) ∈ led
noncomputable def cx (lb:List (PySem.Str × Nat)) (y:PySem.Str):Option Nat:=lb.findIdx? (fun z=>z.1 == y)
noncomputable def xc (lb:List (PySem.Str × Nat)) (kvs:List (PySem.Str × Value)) (led:List (Addr × Obj)):Prop :=
 ∀ y,(∃ (j L t n:Nat),cx lb y = some j ∧ valueAt kvs y = some (.ref L) ∧ (L,listOf #[.int (j:Int) t] n) ∈ led) ∨ (cx lb y = none ∧ valueAt kvs y = none)
section
variable {prog:Program} {w:World} {A:Around} {E:Value → Shared → Prop} {s:Shared} {h₀:Heap} {L:Addr} {m:PySem.Str → Option Value} {news led:List (Addr × Obj)}
theorem yo {Q:Value → Shared → Prop} {bd:Addr} {ob:Obj} {lb:List (PySem.Str × Nat)} {kvs:List (PySem.Str × Value)} {y:PySem.Str} {t:Nat} {dflt:Value} (N:News h₀ L s.heap news) (hp:(bd,ob) ∈ news) (hd:ob.IsDictOf (PySem.strKind prog w) kvs) (lo:(bd == sysModules) = false) (H:xc lb kvs led)
  (h1:∀ j L t n:Nat,cx lb y = some j → (L,listOf #[.int (j:Int) t] n) ∈ led → Q (.ref L) { s with toks:=s.toks + 1 }) (h2:cx lb y = none → Q dflt { s with toks:=s.toks + 1 }) :
  wpAny (model prog w) A (call (.builtin "dict.get") [.ref bd,.str y t,dflt]) Q E s:=by
 rcases H y with ⟨j,L,t',n,e,hv,hm⟩ | ⟨e,hv⟩
 ·exact kdg_get2 (knd:=PySem.strKind prog w) (k:=y) N hp hd lo (by simp [PySem.strKind,Value.isStrOf]) _ hv (h1 j L t' n e hm)
 ·exact kdg_get2 (knd:=PySem.strKind prog w) (k:=y) N hp hd lo (by simp [PySem.strKind,Value.isStrOf]) _ hv (h2 e)
end
structure eF where
 prev:Option (Nat × Nat)
 bi:Nat
 bj:Nat
 bs:Nat
noncomputable def dU (p:Option (Nat × Nat)) (j:Nat):Nat:=match p with
 | some (j',k')=>if j = j' + 1 then k' + 1 else 1
 | none=>1
noncomputable def bU (blo bhi i:Nat) (o:Option Nat) (st:eF):eF:=match o with
 | none=>⟨none,st.bi,st.bj,st.bs⟩
 | some j=>if j < blo ∨ bhi ≤ j then ⟨none,st.bi,st.bj,st.bs⟩ else if st.bs < dU st.prev j then ⟨some (j,dU st.prev j),i + 1 - dU st.prev j,j + 1 - dU st.prev j,dU st.prev j⟩ else ⟨some (j,dU st.prev j),st.bi,st.bj,st.bs⟩
noncomputable def sV (la lb:List (PySem.Str × Nat)) (alo blo bhi:Nat):Nat → eF
 | 0=>⟨none,alo,blo,0⟩
 | n + 1=>bU blo bhi (alo + n) ((la[alo + n]?).bind fun y=>cx lb y.1) (sV la lb alo blo bhi n)
theorem Ce (la lb:List (PySem.Str × Nat)) (alo blo bhi:Nat):∀ n j k,(sV la lb alo blo bhi n).prev = some (j,k) → 1 ≤ k ∧ k ≤ n ∧ blo + k ≤ j + 1 ∧ j < bhi:=by
 intro n
 induction n with
 | zero=>intro j k h;cases h
 | succ n ih =>
  intro j k h
  unfold sV bU at h
  split at h
  ·cases h
  ·rename_i j0 _
   split at h
   ·cases h
   ·have hk:(some (j0,dU (sV la lb alo blo bhi n).prev j0)) = some (j,k):=by
     split at h <;> exact h
    obtain ⟨rfl,rfl⟩:=Prod.mk.inj (Option.some.inj hk)
    unfold dU
    split
    ·rename_i j' k' e
     have:=ih j' k' e
     split <;> omega
    ·omega
noncomputable def Aw (p:Option (Nat × Nat)) (tk:Nat):List (Int × Value):=match p with
 | none=>[]
 | some (j,k)=>[((j:Int),.int (k:Int) tk)]
theorem uD {w:World} {A:Around} {E:Value → Shared → Prop} {s:Shared} {h₀:Heap} {L:Addr} {news:List (Addr × Obj)} {Q:Value → Shared → Prop} {q J:Addr} {oJ:Obj} {p:Option (Nat × Nat)} {tk j t t0:Nat}
  (N:News h₀ L s.heap news) (hq:(q,aP "dict.get" (.ref J)) ∈ news) (hd:(J,oJ) ∈ news) (ho:oJ.IsDictOf (PySem.intKind rW.row.prog w) (Aw p tk)) (lo:(J == sysModules) = false)
  (h:∀ t',Q (.int ((dU p j:Nat) - 1:Int) t') { s with toks:=s.toks + 1 }):wpAny (model rW.row.prog w) A (call (.ref q) [.int ((j:Int) - 1) t,.int 0 t0]) Q E s:=by
 refine wY (knd:=PySem.intKind _ _) (k:=((j:Int) - 1)) N hq hd ho lo (by simp [PySem.intKind,Value.isInt]) _ rfl ?_
 cases p with
 | none=>exact h _
 | some y =>
  obtain ⟨j',k'⟩:=y
  by_cases e:j = j' + 1
  ·have h1:valueAt (Aw (some (j',k')) tk) ((j:Int) - 1) = some (.int (k':Int) tk):=by
    unfold valueAt Aw
    rw [List.find?_cons_of_pos (by simp;exact CH (fun h9=>lI [_,_] [(1,.t (.s V0 K1) V1),(-1,.e V0 (.a V1 K1))] (.c h9 (.c (ze e) .n))) (fun h9=>lI [_,_] [(1,.t V0 (.s V1 K1)),(1,.e V1 (.a V0 K1))] (.c h9 (.c (ze e) .n))))];rfl
   have h2:((dU (some (j',k')) j:Nat) - 1:Int) = (k':Int):=by
    show (((if j = j' + 1 then k' + 1 else 1:Nat):Nat):Int) - 1 = _
    rw [if_pos e];exact CH (fun h9=>lI [_] [(1,.t V0 (.s (.a V0 K1) K1))] (.c h9 .n)) (fun h9=>lI [_] [(1,.t (.s (.a V0 K1) K1) V0)] (.c h9 .n))
   rw [h1]
   rw [h2] at h
   exact h tk
  ·have h1:valueAt (Aw (some (j',k')) tk) ((j:Int) - 1) = none:=by
    unfold valueAt Aw
    rw [List.find?_cons_of_neg (by simp;exact (Nat.lt_or_gt_of_ne e).elim (fun h2=>fun h9=>lI [_,_] [(1,.e V0 (.s V1 K1)),(1,.t V1 (.a V0 K1))] (.c h9 (.c (zt h2) .n))) (fun h2=>fun h9=>lI [_,_] [(-1,.e V0 (.s V1 K1)),(1,.t (.a V0 K1) V1)] (.c h9 (.c (zt h2) .n))))];rfl
   have h2:((dU (some (j',k')) j:Nat) - 1:Int) = 0:=by
    show (((if j = j' + 1 then k' + 1 else 1:Nat):Nat):Int) - 1 = _
    rw [if_neg e];rfl
   rw [h1]
   rw [h2] at h
   exact h t0
theorem d8 {blo bhi i j:Nat} {st:eF} (h:j < blo ∨ bhi ≤ j):bU blo bhi i (some j) st = ⟨none,st.bi,st.bj,st.bs⟩:=if_pos h
theorem fu {blo bhi i j:Nat} {st:eF} (h:¬ (j < blo ∨ bhi ≤ j)) (h2:st.bs < dU st.prev j):bU blo bhi i (some j) st = ⟨some (j,dU st.prev j),i + 1 - dU st.prev j,j + 1 - dU st.prev j,dU st.prev j⟩:=by
 show (if _ then _ else _) = _
 rw [if_neg h,if_pos h2]
theorem iJ {blo bhi i j:Nat} {st:eF} (h:¬ (j < blo ∨ bhi ≤ j)) (h2:¬ st.bs < dU st.prev j):bU blo bhi i (some j) st = ⟨some (j,dU st.prev j),st.bi,st.bj,st.bs⟩:=by
 show (if _ then _ else _) = _
 rw [if_neg h,if_neg h2]
theorem iz {a b:Int} {t:Nat} (h:a = b):Value.int a t = Value.int b t:=by rw [h]
structure gE (la lb:List (PySem.Str × Nat)) (alo ahi blo bhi:Nat) (R:eF):Prop where
 hi:R.bi ≤ la.length
 hj:R.bj ≤ lb.length
 left:∀ y z t u,alo < R.bi → blo < R.bj → la[R.bi - 1]? = some (y,t) → lb[R.bj - 1]? = some (z,u) → y ≠ z
 right:∀ y z t u,R.bi + R.bs < ahi → R.bj + R.bs < bhi → la[R.bi + R.bs]? = some (y,t) → lb[R.bj + R.bs]? = some (z,u) → y ≠ z
theorem vc {la lb:List (PySem.Str × Nat)} {alo ahi blo bhi:Nat} {R:eF} (H:gE la lb alo ahi blo bhi R) {y z:PySem.Str} {t u:Nat} (h1:(alo:Int) < R.bi) (h2:(blo:Int) < R.bj) (e1:la[((R.bi:Int) - 1).toNat]? = some (y,t)) (e2:lb[((R.bj:Int) - 1).toNat]? = some (z,u)) (h:(y == z) = true):False:=by
 have a1:((R.bi:Int) - 1).toNat = R.bi - 1:=by exact aN (fun h9=>lI [_,_,0,_] [(1,.t V0 V1),(1,.e V1 (.s V3 K1)),(-1,.e (.a V0 K1) V3)] (.c (zt h9) (.c (Int.toNat_of_nonneg (ch fun h9=>lI [_,_] [(1,.t (.s V0 K1) K0),(1,.t V1 V0),(1,.l K0 V1)] (.c h9 (.c h1 (.c (zn _) .n))))) (.c (ze (Nat.sub_add_cancel (ae fun h9=>lI [_,_,0] [(1,.t V0 K1),(1,.t V1 V0),(1,.l K0 V1)] (.c (zt h9) (.c h1 (.c (zn _) .n)))))) .n)))) (fun h9=>lI [_,_,0,_] [(1,.t V0 V1),(-1,.e V0 (.s V3 K1)),(1,.e (.a V1 K1) V3)] (.c (zt h9) (.c (Int.toNat_of_nonneg (ch fun h9=>lI [_,_] [(1,.t (.s V0 K1) K0),(1,.t V1 V0),(1,.l K0 V1)] (.c h9 (.c h1 (.c (zn _) .n))))) (.c (ze (Nat.sub_add_cancel (ae fun h9=>lI [_,_,0] [(1,.t V0 K1),(1,.t V1 V0),(1,.l K0 V1)] (.c (zt h9) (.c h1 (.c (zn _) .n)))))) .n))))
 have a2:((R.bj:Int) - 1).toNat = R.bj - 1:=by exact aN (fun h9=>lI [_,_,0,_] [(1,.t V0 V1),(1,.e V1 (.s V3 K1)),(-1,.e (.a V0 K1) V3)] (.c (zt h9) (.c (Int.toNat_of_nonneg (ch fun h9=>lI [_,_] [(1,.t (.s V0 K1) K0),(1,.t V1 V0),(1,.l K0 V1)] (.c h9 (.c h2 (.c (zn _) .n))))) (.c (ze (Nat.sub_add_cancel (ae fun h9=>lI [_,_,0] [(1,.t V0 K1),(1,.t V1 V0),(1,.l K0 V1)] (.c (zt h9) (.c h2 (.c (zn _) .n)))))) .n)))) (fun h9=>lI [_,_,0,_] [(1,.t V0 V1),(-1,.e V0 (.s V3 K1)),(1,.e (.a V1 K1) V3)] (.c (zt h9) (.c (Int.toNat_of_nonneg (ch fun h9=>lI [_,_] [(1,.t (.s V0 K1) K0),(1,.t V1 V0),(1,.l K0 V1)] (.c h9 (.c h2 (.c (zn _) .n))))) (.c (ze (Nat.sub_add_cancel (ae fun h9=>lI [_,_,0] [(1,.t V0 K1),(1,.t V1 V0),(1,.l K0 V1)] (.c (zt h9) (.c h2 (.c (zn _) .n)))))) .n))))
 rw [a1] at e1;rw [a2] at e2
 exact H.left y z t u (by exact aA fun h9=>lI [_,_] [(1,.l V0 V1),(1,.t V1 V0)] (.c (zl h9) (.c h1 .n))) (by exact aA fun h9=>lI [_,_] [(1,.l V0 V1),(1,.t V1 V0)] (.c (zl h9) (.c h2 .n))) e1 e2 (by simpa using h)
theorem tN {la lb:List (PySem.Str × Nat)} {alo ahi blo bhi:Nat} {R:eF} (H:gE la lb alo ahi blo bhi R) {y z:PySem.Str} {t u:Nat} (h1:(R.bi:Int) + R.bs < ahi) (h2:(R.bj:Int) + R.bs < bhi) (e1:la[((R.bi:Int) + R.bs).toNat]? = some (y,t)) (e2:lb[((R.bj:Int) + R.bs).toNat]? = some (z,u)) (h:(y == z) = true):False:=by
 have a1:((R.bi:Int) + R.bs).toNat = R.bi + R.bs:=by exact aN (fun h9=>lI [_,_,_] [(1,.e V2 (.a V0 V1)),(1,.t (.a V0 V1) V2)] (.c (Int.toNat_of_nonneg (ch fun h9=>lI [_,_] [(1,.l K0 V1),(1,.l K0 V0),(1,.t (.a V0 V1) K0)] (.c (zn _) (.c (zn _) (.c h9 .n))))) (.c (zt h9) .n))) (fun h9=>lI [_,_,_] [(-1,.e V0 (.a V1 V2)),(1,.t V0 (.a V1 V2))] (.c (Int.toNat_of_nonneg (ch fun h9=>lI [_,_] [(1,.l K0 V1),(1,.l K0 V0),(1,.t (.a V0 V1) K0)] (.c (zn _) (.c (zn _) (.c h9 .n))))) (.c (zt h9) .n)))
 have a2:((R.bj:Int) + R.bs).toNat = R.bj + R.bs:=by exact aN (fun h9=>lI [_,_,_] [(1,.e V2 (.a V0 V1)),(1,.t (.a V0 V1) V2)] (.c (Int.toNat_of_nonneg (ch fun h9=>lI [_,_] [(1,.l K0 V1),(1,.l K0 V0),(1,.t (.a V0 V1) K0)] (.c (zn _) (.c (zn _) (.c h9 .n))))) (.c (zt h9) .n))) (fun h9=>lI [_,_,_] [(-1,.e V0 (.a V1 V2)),(1,.t V0 (.a V1 V2))] (.c (Int.toNat_of_nonneg (ch fun h9=>lI [_,_] [(1,.l K0 V1),(1,.l K0 V0),(1,.t (.a V0 V1) K0)] (.c (zn _) (.c (zn _) (.c h9 .n))))) (.c (zt h9) .n)))
 rw [a1] at e1;rw [a2] at e2
 exact H.right y z t u (by exact aA fun h9=>lI [_,_,_,0] [(1,.t (.a V1 V2) V0),(1,.l V0 (.a V1 V2))] (.c h1 (.c (zl h9) .n))) (by exact aA fun h9=>lI [_,_,_,0] [(1,.t (.a V1 V2) V0),(1,.l V0 (.a V1 V2))] (.c h2 (.c (zl h9) .n))) e1 e2 (by simpa using h)
end
section
noncomputable def Dt (P:Params) (x:PySem.Str):Prop:=plainGet (K P) 242 x = true ∧ hasDictIn (K P) 242 = true ∧ ∃ attr,findIn (K P) (.ref 242) x = some attr ∧ noGet (K P) attr = true
noncomputable def lX:List PySem.Str:=[Str.ofString "a",Str.ofString "b",Str.ofString "b2j",Str.ofString "bjunk",Str.ofString "matching_blocks",Str.ofString "opcodes",Str.ofString "isjunk",Str.ofString "autojunk",Str.ofString "fullbcount",Str.ofString "bpopular"]
theorem zZ (P:Params):∀ x ∈ lX,Dt P x:=by
 refine (fun h:(rW = rW ∧ K = K) → ∀ x ∈ lX,Dt P x=>h ⟨rfl,rfl⟩) ?_
 k_fill
 intro _ x hx
 simp only [lX,List.mem_cons,List.not_mem_nil,or_false] at hx
 rcases hx with rfl | rfl | rfl | rfl | rfl | rfl | rfl | rfl | rfl | rfl
 all_goals exact ⟨by k_is,by k_is,_,by k_is,by k_is⟩
theorem jH {x:PySem.Str}:∀ {xs:List PySem.Str},(xs.any fun y=>gT y x) = true → x ∈ xs
 | [],h=>by cases h
 | y :: r,h=>by
  rw [List.any_cons] at h
  cases e:gT y x with
  | true=>rw [cT e];exact .head _
  | false=>rw [e] at h;exact .tail _ (jH h)
section
variable {w:World} {cs:Sc} {lv:Nat} {C:Cx w cs lv} {t:Nat} {m:Map} {l l':Led}
theorem cG {x d:Addr} {sl:Array (Option Value)} {es:List DictEntry} {n:Nat} {name:PySem.Str} {v:Value} {k:KV} (hx:(x,(⟨.ref 242,some d,.plain,sl⟩:Obj)) ∈ l) (hd:(d,dictOf es n) ∈ l) (hn:(lX.any fun y=>gT y name) = true)
  (hl:getL name es = some (some v)) (hv:handedIn v = true) (h:k v t.succ m l):af C (getAttr (.ref x) name true) t m l k :=
 cg fun s M Q ht F N nd back=>by
  subst ht
  obtain ⟨a,b,c,d,e⟩:=zZ w.params _ (jH hn)
  exact get_own F C.X (InstAt.of_news N hx hd) a b d e hl hv (back _ _ _ _ F N nd h)
theorem wp {led:Led} {bd:Addr} {ob:Obj} {lb:List (PySem.Str × Nat)} {kvs:List (PySem.Str × Value)} {y:PySem.Str} {tk:Nat} {dflt:Value} {k:KV} (hp:(bd,ob) ∈ l) (hd:ob.IsDictOf (PySem.strKind PR w) kvs) (lo:(bd == sysModules) = false) (H:xc lb kvs led)
  (h1:∀ j L t' n:Nat,cx lb y = some j → (L,listOf #[.int (j:Int) t'] n) ∈ led → k (.ref L) t.succ m l) (h2:cx lb y = none → k dflt t.succ m l):af C (call (.builtin "dict.get") [.ref bd,.str y tk,dflt]) t m l k :=
 cg fun s M Q ht F N nd back=>by
  subst ht
  exact yo N hp hd lo H (fun j L t' n e hm=>back _ _ _ _ F N nd (h1 j L t' n e hm)) fun e=>back _ _ _ _ F N nd (h2 e)
theorem zS {q J:Addr} {oJ:Obj} {p:Option (Nat × Nat)} {tk j u t0:Nat} {k:KV} (hq:(q,aP "dict.get" (.ref J)) ∈ l) (hd:(J,oJ) ∈ l) (ho:oJ.IsDictOf (PySem.intKind PR w) (Aw p tk)) (lo:(J == sysModules) = false)
  (h:∀ t',k (.int ((dU p j:Nat) - 1:Int) t') t.succ m l):af C (call (.ref q) [.int ((j:Int) - 1) u,.int 0 t0]) t m l k :=
 cg fun s M Q ht F N nd back=>by
  subst ht
  exact uD N hq hd ho lo fun t'=>back _ _ _ _ F N nd (h t')
end
end
section
theorem Sq.ofSp {w:World} {f:Addr} {lv:Nat} {vs:List Value} {l:Led} {R:Value → Led → Prop} (S:Sp w f lv vs l R) (hn:∀ v new,R v new → (l.map (·.1)).Nodup → ((new++l).map (·.1)).Nodup):Sq w f lv vs l l R:=by
 intro cs lv2 C t m k hlv hk
 have hd:=C.hd
 have hu:=C.hu
 exact cg fun s M Q ht F N nd back=>S.use C.B F C.X N C.T C.hk (by exact aA fun h9=>lN [_,_,_,_] [(1,.l V0 (.a V1 V2)),(1,.l V2 V3),(1,.t (.a V1 V3) V0)] (.c h9 (.c hlv (.c hd .n)))) (by exact aA fun h9=>lN [_,_,_,_] [(1,.l V0 (.a V1 (.m 40 V2))),(40,.l V2 V3),(1,.t (.a V1 (.m 40 V3)) V0)] (.c h9 (.c hlv (.c hu .n)))) fun v new h' tk' F' N' hR=>back _ _ _ _ F' N' (hn v new hR nd) (hk v new tk' hR)
theorem Bm {l:Led} {p:Addr × Addr} {i j k:Int} {t u v:Nat} (h:vO p l) (nd:(l.map (·.1)).Nodup):((gY p i j k t u v++l).map (·.1)).Nodup :=
 ay (fun q hq=>(ag hq).elim (fun e=>by rw [e];exact h.2.symm) fun hq=>(h.1 q hq).1) (ay (fun q hq=>(h.1 q hq).2) nd)
theorem uR (w:World) (led:Led) (i j k:Int) (t u v:Nat):Sq w 135 3 [.int i t,.int j u,.int k v] led led (kH (fun p=>.ref p.1) (fun p=>gY p i j k t u v) (fun p=>vO p led)) :=
 Sq.ofSp (xD w led i j k t u v) fun _ _ ⟨_,_,e,hP⟩ nd=>by rw [e];exact Bm hP nd
section
variable {w:World} {cs:Sc} {lv:Nat} {C:Cx w cs lv} {t:Nat} {m:Map} {l l':Led}
theorem Sq.useE {α:Type} {V:α → Value} {W:α → Led} {P:α → Prop} {f:Addr} {lv':Nat} {vs:List Value} {k:KV} (S:Sq w f lv' vs l l' (kH V W P)) (hl:lv' ≤ lv) (h:∀ x t,P x → k (V x) t m (W x++l')):af C (call (.ref f) vs) t m l k :=
 S C t m k hl fun _ _ t' ⟨x,e1,e2,hP⟩=>by rw [e1,e2];exact h x t' hP
theorem Bu {J:Addr} {o:Obj} {j n:Int} {u tk:Nat} {k:Unit → Nat → Map → Led → Prop} (ho:o.IsDictOf (PySem.intKind PR w) []) (h:∀ o',o'.IsDictOf (PySem.intKind PR w) [(j,.int n tk)] → k () t.succ m ((J,o') :: l)):af C (setItem (.ref J) (.int j u) (.int n tk)) t m ((J,o) :: l) k :=
 cg fun s M Q ht F N nd back=>by
  subst ht
  exact setItem_K PyProof.V.same_int (by simp [PySem.intKind,Value.isInt]) (.int _ _) F N (.head fun p hp e=>(List.nodup_cons.mp nd).1 (List.mem_map.mpr ⟨p,hp,e⟩)) ho (by exact .nil) (fun h' o' F' N' hd _=>back _ _ _ _ F' N' nd (h o' hd)) (Nat.zero_le _)
end
end
section
structure EX where
 st:eF
 o:Obj
 tk:Nat
 v1:Nat
 v2:Nat
 v3:Nat
structure D7 where
 st:eF
 J:Addr
 oJ:Obj
 tk:Nat
 t1:Nat
 t2:Nat
 t3:Nat
theorem Be (w:World) (led:List (Addr × Obj)) (x:Addr) (M:SM w led x) (hbj:xc M.lb M.kvs led) (lo:(M.bd == sysModules) = false) (alo ahi blo bhi t1 t2 t3 t4:Nat) (hl1:M.la.length ≤ 100) (hl2:M.lb.length ≤ 100) (ha1:alo ≤ ahi) (ha2:ahi ≤ M.la.length) (hb2:bhi ≤ M.lb.length) (HF:gE M.la M.lb alo ahi blo bhi (sV M.la M.lb alo blo bhi (ahi - alo))) :
  Sq w 196 10 [.ref x,.int (alo:Int) t1,.int (ahi:Int) t2,.int (blo:Int) t3,.int (bhi:Int) t4] led led (kH (fun p:(Addr × Addr) × (Nat × Nat × Nat)=>.ref p.1.1) (fun p=>gY p.1 ((sV M.la M.lb alo blo bhi (ahi - alo)).bi:Int) ((sV M.la M.lb alo blo bhi (ahi - alo)).bj:Int) ((sV M.la M.lb alo blo bhi (ahi - alo)).bs:Int) p.2.1 p.2.2.1 p.2.2.2) (fun _=>True)):=by
 refine (let G0:Prop:=_;(?_:G0))
 obtain ⟨d,es,n,sl,a,b,na,nb,la,lb,bd,ob,kvs,jk,jb,hx,hd,ha,hb,hj,hk,la',lb',bd',ob',jk'⟩:=M
 dsimp only at hbj lo hl1 hl2 ha2 hb2 HF
 refine (fun h:(rW = rW ∧ K = K) → _=>h ⟨rfl,rfl⟩) ?_
 k_fill
 intro _
 refine br [(Str.ofString "self",Value.ref x),(Str.ofString "alo",.int (alo:Int) t1),(Str.ofString "ahi",.int (ahi:Int) t2),(Str.ofString "blo",.int (blo:Int) t3),(Str.ofString "bhi",.int (bhi:Int) t4)] 30 (by k_is) (by k_is) ?hb (by rfl) (by rfl) (by kernel_rfl!) ?_
 case hb=>exact fun s X=>binds_K X rfl (by k_is) rfl rfl rfl
 intro C t
 refine cG hx hd (by rfl) ha (by rfl) ?_
 refine cG hx hd (by rfl) hb (by rfl) ?_
 refine cG hx hd (by rfl) hj (by rfl) ?_
 refine cG hx hd (by rfl) hk (by rfl) ?_
 refine yT jk' fun q9 tq=>?_
 refine bg fun T1=>?_
 refine fe (.head _) rfl rfl ?_
 refine bb (n:=3) ?_
 refine bb (n:=3) ?_
 refine qR fun J0 o0 lo0 _ hJ0=>?_
 refine aC fun NL=>?_
 refine lE (by rfl) (fun _=>rfl) ?_
 refine xa fun RG=>?_
 refine' fC (σ:=D7) (fun c=>(c.J,c.oJ) :: (NL,listOf #[] 0) :: (q9,aP "set.__contains__" (.ref jk)) :: led)
  (fun c=>[(Str.ofString "self",.ref x),(Str.ofString "alo",.int (alo:Int) t1),(Str.ofString "ahi",.int (ahi:Int) t2),(Str.ofString "blo",.int (blo:Int) t3),(Str.ofString "bhi",.int (bhi:Int) t4),(Str.ofString "a",.ref a),(Str.ofString "b",.ref b),(Str.ofString "b2j",.ref bd),(Str.ofString "isbjunk",.ref q9),(Str.ofString "nothing",.ref NL),
   (Str.ofString "besti",.int (c.st.bi:Int) c.t1),(Str.ofString "bestj",.int (c.st.bj:Int) c.t2),(Str.ofString "bestsize",.int (c.st.bs:Int) c.t3),(Str.ofString "j2len",.ref c.J)])
  (fun i c=>c.st = sV la lb alo blo bhi i ∧ c.oJ.IsDictOf (PySem.intKind PR w) (Aw c.st.prev c.tk) ∧ (c.J == sysModules) = false) ⟨sV la lb alo blo bhi 0,J0,o0,0,t1,t3,tq.succ.succ.succ.succ⟩ 30 (by rfl) (by exact ae fun h9=>lN [_,_,_] [(1,.t (.k 1000) V0),(1,.l V0 V1),(1,.l V2 (.k 100)),(1,.l V1 V2)] (.c h9 (.c ha1 (.c hl1 (.c ha2 .n))))) (by exact ae fun h9=>lN [_,_] [(1,.t (.k 1000) V0),(1,.l V1 (.k 100)),(1,.l V0 V1)] (.c h9 (.c hl1 (.c ha2 .n)))) (.head _) ?hm ?hl ⟨rfl,hJ0,lo0⟩ ?turn ?done
 case hm=>exact (by repeat (first | exact ar.nil | refine ar.cons rfl ?_))
 case hl=>exact .swap (.drop (.cons (.cons (.drop (.cons .refl)))))
 case turn =>
  intro i c tki t own hi ⟨hP,hP2,hP3⟩
  refine eG fun K1 hK1=>?_
  have hla':(a,listOf (strValues la).toArray na) ∈ led++own:=aj la'
  have hbd':(bd,ob) ∈ led++own:=aj bd'
  refine Bi (PySem.intKind _ _) (.head _) hP2 fun qg tg=>?_
  refine qR fun NJ oN loN _ hN=>?_
  refine lE (by rfl) (fun _=>rfl) ?_
  refine BY (PySem.strKind PR w) (.tail _ (.tail _ (.tail _ (.tail _ (.tail _ hbd'))))) ob' ?_
  refine be (.tail _ (.tail _ (.tail _ (.tail _ (.tail _ hla'))))) (by exact ch fun h9=>lI [_,_] [(1,.t (.a V0 V1) K0),(1,.l K0 V0),(1,.l K0 V1)] (.c h9 (.c (zn _) (.c (zn _) .n)))) (by exact aA fun h9=>lI [_,_,_,_,_,_] [(1,.l V0 V1),(1,.l V3 V0),(1,.t V4 V5),(1,.e V1 (.a V2 V4)),(1,.e (.a V5 V2) V3)] (.c (zl h9) (.c (zl ha2) (.c (zt hi) (.c (Int.toNat_of_nonneg (ch fun h9=>lI [_,_,0,0,0] [(1,.t (.a V0 V1) K0),(1,.l K0 V0),(1,.l K0 V1)] (.c h9 (.c (zn _) (.c (zn _) .n))))) (.c (ze (Nat.sub_add_cancel (ae fun h9=>lI [_,_,0,0,0,0] [(1,.t V0 V1),(1,.l V1 V0)] (.c (zt h9) (.c (zl ha1) .n))))) .n)))))) (by exact ae fun h9=>lN [_] [(1,.t (.k 100000) V0),(1,.l V0 (.k 100))] (.c h9 (.c hl1 .n))) (by with_unfolding_all rfl) fun y ty hy=>?_
  have e0:((alo:Int) + (i:Int)).toNat = alo + i:=by exact aN (fun h9=>lI [_,_,_] [(1,.e V2 (.a V0 V1)),(1,.t (.a V0 V1) V2)] (.c (Int.toNat_of_nonneg (ch fun h9=>lI [_,_] [(1,.l K0 V1),(1,.l K0 V0),(1,.t (.a V0 V1) K0)] (.c (zn _) (.c (zn _) (.c h9 .n))))) (.c (zt h9) .n))) (fun h9=>lI [_,_,_] [(-1,.e V0 (.a V1 V2)),(1,.t V0 (.a V1 V2))] (.c (Int.toNat_of_nonneg (ch fun h9=>lI [_,_] [(1,.l K0 V1),(1,.l K0 V0),(1,.t (.a V0 V1) K0)] (.c (zn _) (.c (zn _) (.c h9 .n))))) (.c (zt h9) .n)))
  rw [e0] at hy
  refine wp (.tail _ (.tail _ (.tail _ (.tail _ (.tail _ hbd'))))) ob' lo hbj (fun j Lj tj nj hI hLm=>?_) fun hI=>?_
  ·have hstep:sV la lb alo blo bhi (i + 1) = bU blo bhi (alo + i) (some j) c.st:=by
    show bU blo bhi (alo + i) _ _ = _
    rw [hy,← hP]
    show bU blo bhi (alo + i) (cx lb _) _ = _
    rw [hI]
   have hLm':(Lj,listOf #[.int (j:Int) tj] nj) ∈ led++own:=aj hLm
   refine' di (vs:=[.int (j:Int) tj]) (nn:=nj) (σ:=EX) (fun c2=>(NJ,c2.o) :: (qg,aP "dict.get" (.ref c.J)) :: (c.J,c.oJ) :: (NL,listOf #[] 0) :: (q9,aP "set.__contains__" (.ref jk)) :: (led++own))
    (fun c2=>[(Str.ofString "blo",.int (blo:Int) t3),(Str.ofString "bhi",.int (bhi:Int) t4),(Str.ofString "self",.ref x),(Str.ofString "alo",.int (alo:Int) t1),(Str.ofString "ahi",.int (ahi:Int) t2),(Str.ofString "a",.ref a),(Str.ofString "b",.ref b),(Str.ofString "b2j",.ref bd),(Str.ofString "isbjunk",.ref q9),(Str.ofString "nothing",.ref NL),
     (Str.ofString "besti",.int (c2.st.bi:Int) c2.v1),(Str.ofString "bestj",.int (c2.st.bj:Int) c2.v2),(Str.ofString "bestsize",.int (c2.st.bs:Int) c2.v3),(Str.ofString "j2len",.ref c.J),(Str.ofString "j2lenget",.ref qg),(Str.ofString "newj2len",.ref NJ),(Str.ofString "i",.int ((alo:Int) + (i:Int)) tki)])
    (fun i' c2=>c2.st = (if i' = 0 then ⟨none,c.st.bi,c.st.bj,c.st.bs⟩ else bU blo bhi (alo + i) (some j) c.st) ∧ c2.o.IsDictOf (PySem.intKind PR w) (Aw c2.st.prev c2.tk)) ⟨⟨none,c.st.bi,c.st.bj,c.st.bs⟩,_,0,c.t1,c.t2,c.t3⟩ 20 (by rfl) ?hm ?hl (fun c=>.tail _ (.tail _ (.tail _ (.tail _ (.tail _ hLm'))))) ⟨rfl,hN⟩ ?turn2 ?done2
   case hm=>exact (by repeat (first | exact ar.nil | refine ar.cons rfl ?_))
   case hl=>exact .refl
   case turn2 =>
    intro i2 c2 v2 t2 own2 hv2 ⟨hA,hB⟩
    refine eG fun K2 hK2=>?_
    have hi2:i2 = 0:=by
     rcases Nat.eq_zero_or_pos i2 with e | e
     ·exact e
     ·rw [List.getElem?_eq_none (by simp only [List.length_cons,List.length_nil];omega)] at hv2;cases hv2
    subst hi2
    cases hv2
    rw [if_pos rfl] at hA
    refine bb (n:=3) ⟨fun hjb=>?_,fun hj1=>bb (n:=3) ⟨fun hjb=>?_,fun hj2=>?_⟩⟩
    ·exact hK2 .cont _ _ _ ⟨c2,(by repeat (first | exact ar.nil | refine ar.cons rfl ?_)),.refl,hA.trans (d8 (.inl (by exact aA fun h9=>lI [_,_] [(1,.l V0 V1),(1,.t V1 V0)] (.c (zl h9) (.c hjb .n))))).symm,hB⟩
    ·refine hK2 .brk _ _ _ ?_
     exact hK1 .next _ _ _ ⟨D7.mk c2.st NJ c2.o c2.tk c2.v1 c2.v2 c2.v3,(by repeat (first | exact ar.nil | refine ar.cons rfl ?_)),(by repeat (first | with_reducible exact aq.refl | refine aq.cons ?_ | refine aq.drop ?_ | exact aq.refl | exact aq.left)),hA.trans ((d8 (.inr (by exact ae fun h9=>lI [_,_] [(1,.t V0 V1),(1,.l V1 V0)] (.c (zt h9) (.c hjb .n))))).symm.trans hstep.symm),hB,loN⟩
    ·have hB2:c2.o.IsDictOf (PySem.intKind PR w) []:=by
      rw [hA] at hB;exact hB
     refine mx (n:=12) (.tail _ (.head _)) rfl ?_
     refine ⟨.tail _ (.head _),zS (.tail _ (.head _)) (.tail _ (.tail _ (.head _))) hP2 hP3 fun tg2=>?_⟩
     refine Bu hB2 fun o2 ho2=>?_
     have hnot:¬ (j < blo ∨ bhi ≤ j):=by exact (not_or.mpr ⟨fun h9=>lI [_,_,0] [(1,.t V0 V1),(1,.nt V0 V1)] (.c (zt h9) (.c hj1 .n)),fun h9=>lI [_,_,0] [(1,.l V0 V1),(1,.nl V0 V1)] (.c (zl h9) (.c hj2 .n))⟩)
     have e9:((dU c.st.prev j:Nat) - 1 + 1:Int) = (dU c.st.prev j:Nat):=by omega
     rw [e9] at ho2 ⊢
     refine bb (n:=3) ⟨fun hc=>?_,fun hc=>?_⟩
     ·have hlt:c.st.bs < dU c.st.prev j:=by have:=congrArg eF.bs hA;dsimp only at this;exact aA fun h9=>lI [_,_,_] [(1,.l V0 V1),(1,.t V2 V0),(-1,.e V2 V1)] (.c (zl h9) (.c hc (.c (ze this) .n)))
      have hok:=Ce la lb alo blo bhi (i + 1) j (dU c.st.prev j) (by rw [hstep,fu hnot hlt])
      exact hK2 .next _ _ _ ⟨EX.mk ⟨some (j,dU c.st.prev j),alo + i + 1 - dU c.st.prev j,j + 1 - dU c.st.prev j,dU c.st.prev j⟩ o2 _ _ _ _,(.cons rfl (.cons rfl (.cons rfl (.cons rfl (.cons rfl (.cons rfl (.cons rfl (.cons rfl (.cons rfl (.cons rfl (.cons (congrArg some (iz (by dsimp only;omega))) (.cons (congrArg some (iz (by dsimp only;omega))) (.cons rfl (.cons rfl (.cons rfl (.cons rfl (.cons rfl .nil))))))))))))))))),.refl,(fu hnot hlt).symm,ho2⟩
     ·have hlt:¬ c.st.bs < dU c.st.prev j:=by have:=congrArg eF.bs hA;dsimp only at this;exact fun h9=>lI [_,_,_] [(1,.t V0 V1),(1,.nt V2 V1),(1,.e V2 V0)] (.c (zt h9) (.c hc (.c (ze this) .n)))
      exact hK2 .next _ _ _ ⟨EX.mk ⟨some (j,dU c.st.prev j),c2.st.bi,c2.st.bj,c2.st.bs⟩ o2 _ c2.v1 c2.v2 c2.v3,(by repeat (first | exact ar.nil | refine ar.cons rfl ?_)),.refl,by rw [hA];exact (iJ hnot hlt).symm,ho2⟩
   case done2 =>
    intro c2 t2 ⟨hA,hB⟩
    rw [if_neg (show ¬ ([Value.int (j:Int) tj].length = 0) from Nat.succ_ne_zero _)] at hA
    exact hK1 .next _ _ _ ⟨D7.mk c2.st NJ c2.o c2.tk c2.v1 c2.v2 c2.v3,(by repeat (first | exact ar.nil | refine ar.cons rfl ?_)),(by repeat (first | with_reducible exact aq.refl | refine aq.cons ?_ | refine aq.drop ?_ | exact aq.refl | exact aq.left)),hA.trans hstep.symm,hB,loN⟩
  ·have hstep:sV la lb alo blo bhi (i + 1) = ⟨none,c.st.bi,c.st.bj,c.st.bs⟩:=by
    show bU blo bhi (alo + i) _ _ = _
    rw [hy,← hP]
    show bU blo bhi (alo + i) (cx lb _) _ = _
    rw [hI];rfl
   refine' di (D:=NL) (vs:=[]) (nn:=0) (σ:=Unit) (fun _=>(NJ,oN) :: (qg,aP "dict.get" (.ref c.J)) :: (c.J,c.oJ) :: (NL,listOf #[] 0) :: (q9,aP "set.__contains__" (.ref jk)) :: (led++own))
    (fun _=>[(Str.ofString "self",.ref x),(Str.ofString "alo",.int (alo:Int) t1),(Str.ofString "ahi",.int (ahi:Int) t2),(Str.ofString "blo",.int (blo:Int) t3),(Str.ofString "bhi",.int (bhi:Int) t4),(Str.ofString "a",.ref a),(Str.ofString "b",.ref b),(Str.ofString "b2j",.ref bd),(Str.ofString "isbjunk",.ref q9),(Str.ofString "nothing",.ref NL),
     (Str.ofString "besti",.int (c.st.bi:Int) c.t1),(Str.ofString "bestj",.int (c.st.bj:Int) c.t2),(Str.ofString "bestsize",.int (c.st.bs:Int) c.t3),(Str.ofString "newj2len",.ref NJ)])
    (fun _ _=>True) () 1 (by rfl) (by repeat (first | exact ar.nil | refine ar.cons rfl ?_)) .refl (fun _=>.tail _ (.tail _ (.tail _ (.head _)))) trivial (fun i c v t own h=>nomatch h) ?done3
   case done3 =>
    intro _ t2 _
    exact hK1 .next _ _ _ ⟨D7.mk ⟨none,c.st.bi,c.st.bj,c.st.bs⟩ NJ oN 0 c.t1 c.t2 c.t3,(by repeat (first | exact ar.nil | refine ar.cons rfl ?_)),(by repeat (first | with_reducible exact aq.refl | refine aq.cons ?_ | refine aq.drop ?_ | exact aq.refl | exact aq.left)),hstep.symm,hN,loN⟩
 case done =>
  intro c t ⟨hP,hP2,hP3⟩
  rw [← hP] at HF ⊢
  obtain ⟨hbi,hbj2⟩:c.st.bi ≤ la.length ∧ c.st.bj ≤ lb.length:=⟨HF.hi,HF.hj⟩
  have hlb:(b,listOf (strValues lb).toArray nb) ∈ (c.J,c.oJ) :: (NL,listOf #[] 0) :: (q9,aP "set.__contains__" (.ref jk)) :: led:=.tail _ (.tail _ (.tail _ lb'))
  have hla:(a,listOf (strValues la).toArray na) ∈ (c.J,c.oJ) :: (NL,listOf #[] 0) :: (q9,aP "set.__contains__" (.ref jk)) :: led:=.tail _ (.tail _ (.tail _ la'))
  have hq:(q9,aP "set.__contains__" (.ref jk)) ∈ (c.J,c.oJ) :: (NL,listOf #[] 0) :: (q9,aP "set.__contains__" (.ref jk)) :: led:=.tail _ (.tail _ (.head _))
  have hjk:(jk,bn jb) ∈ (c.J,c.oJ) :: (NL,listOf #[] 0) :: (q9,aP "set.__contains__" (.ref jk)) :: led:=.tail _ (.tail _ (.tail _ jk'))
  have hsub:aq led ((c.J,c.oJ) :: (NL,listOf #[] 0) :: (q9,aP "set.__contains__" (.ref jk)) :: led):=.drop (.drop (.drop .refl))
  generalize (c.J,c.oJ) :: (NL,listOf #[] 0) :: (q9,aP "set.__contains__" (.ref jk)) :: led = l9 at hlb hla hq hjk hsub
  refine eW (fun t=>⟨fun h1=>⟨fun h2=>?_,fun _=>⟨rfl,rfl,trivial⟩⟩,fun _=>⟨rfl,rfl,trivial⟩⟩) fun t=>?_
  ·refine mx (n:=12) hq rfl ?_
   refine be hlb (by exact ch fun h9=>lI [_,_] [(1,.t (.s V0 K1) K0),(1,.t V1 V0),(1,.l K0 V1)] (.c h9 (.c h2 (.c (zn _) .n)))) (by exact aA fun h9=>lI [_,_,_,0] [(1,.l V0 V1),(1,.l V2 V0),(1,.e V1 (.s V2 K1))] (.c (zl h9) (.c (zl hbj2) (.c (Int.toNat_of_nonneg (ch fun h9=>lI [_,0,_] [(1,.t (.s V0 K1) K0),(1,.t V2 V0),(1,.l K0 V2)] (.c h9 (.c h2 (.c (zn _) .n))))) .n)))) (by exact ae fun h9=>lN [_] [(1,.t (.k 100000) V0),(1,.l V0 (.k 100))] (.c h9 (.c hl2 .n))) (by with_unfolding_all rfl) fun _ _ _=>⟨hq,iZ hq hjk ⟨(fun h=>nomatch h),fun _=>?_⟩⟩
   refine be hla (by exact ch fun h9=>lI [_,_] [(1,.t (.s V0 K1) K0),(1,.t V1 V0),(1,.l K0 V1)] (.c h9 (.c h1 (.c (zn _) .n)))) (by exact aA fun h9=>lI [_,_,_,0] [(1,.l V0 V1),(1,.l V2 V0),(1,.e V1 (.s V2 K1))] (.c (zl h9) (.c (zl hbi) (.c (Int.toNat_of_nonneg (ch fun h9=>lI [_,0,_] [(1,.t (.s V0 K1) K0),(1,.t V2 V0),(1,.l K0 V2)] (.c h9 (.c h1 (.c (zn _) .n))))) .n)))) (by exact ae fun h9=>lN [_] [(1,.t (.k 100000) V0),(1,.l V0 (.k 100))] (.c h9 (.c hl1 .n))) (by with_unfolding_all rfl) fun y ty ey=>?_
   refine be hlb (by exact ch fun h9=>lI [_,_] [(1,.t (.s V0 K1) K0),(1,.t V1 V0),(1,.l K0 V1)] (.c h9 (.c h2 (.c (zn _) .n)))) (by exact aA fun h9=>lI [_,_,_,0] [(1,.l V0 V1),(1,.l V2 V0),(1,.e V1 (.s V2 K1))] (.c (zl h9) (.c (zl hbj2) (.c (Int.toNat_of_nonneg (ch fun h9=>lI [_,0,_] [(1,.t (.s V0 K1) K0),(1,.t V2 V0),(1,.l K0 V2)] (.c h9 (.c h2 (.c (zn _) .n))))) .n)))) (by exact ae fun h9=>lN [_] [(1,.t (.k 100000) V0),(1,.l V0 (.k 100))] (.c h9 (.c hl2 .n))) (by with_unfolding_all rfl) fun z tz ez=>?_
   exact ⟨fun e=>(vc HF h1 h2 ey ez (beq_iff_eq.mpr e)).elim,fun _=>⟨rfl,rfl,trivial⟩⟩
  refine eW (fun t=>⟨fun h1=>⟨fun h2=>?_,fun _=>⟨rfl,rfl,trivial⟩⟩,fun _=>⟨rfl,rfl,trivial⟩⟩) fun t=>?_
  ·refine mx (n:=12) hq rfl ?_
   refine be hlb (by exact ch fun h9=>lI [_,_,0,0,0] [(1,.t (.a V0 V1) K0),(1,.l K0 V0),(1,.l K0 V1)] (.c h9 (.c (zn _) (.c (zn _) .n)))) (by exact aA fun h9=>lI [_,_,0,0,_,0,_,_] [(1,.l V0 V1),(1,.l V4 V0),(1,.t (.a V7 V6) V4),(1,.e V1 (.a V7 V6))] (.c (zl h9) (.c (zl hb2) (.c h2 (.c (Int.toNat_of_nonneg (ch fun h9=>lI [_,_,0,0,0,0,0] [(1,.t (.a V0 V1) K0),(1,.l K0 V0),(1,.l K0 V1)] (.c h9 (.c (zn _) (.c (zn _) .n))))) .n))))) (by exact ae fun h9=>lN [_] [(1,.t (.k 100000) V0),(1,.l V0 (.k 100))] (.c h9 (.c hl2 .n))) (by with_unfolding_all rfl) fun _ _ _=>⟨hq,iZ hq hjk ⟨(fun h=>nomatch h),fun _=>?_⟩⟩
   refine be hla (by exact ch fun h9=>lI [_,_,0] [(1,.t (.a V0 V1) K0),(1,.l K0 V0),(1,.l K0 V1)] (.c h9 (.c (zn _) (.c (zn _) .n)))) (by exact aA fun h9=>lI [_,_,_,_,_] [(1,.l V0 V1),(1,.l V2 V0),(1,.t (.a V3 V4) V2),(1,.e V1 (.a V3 V4))] (.c (zl h9) (.c (zl ha2) (.c h1 (.c (Int.toNat_of_nonneg (ch fun h9=>lI [_,_,0,0] [(1,.t (.a V0 V1) K0),(1,.l K0 V0),(1,.l K0 V1)] (.c h9 (.c (zn _) (.c (zn _) .n))))) .n))))) (by exact ae fun h9=>lN [_] [(1,.t (.k 100000) V0),(1,.l V0 (.k 100))] (.c h9 (.c hl1 .n))) (by with_unfolding_all rfl) fun y ty ey=>?_
   refine be hlb (by exact ch fun h9=>lI [_,_,0,0,0] [(1,.t (.a V0 V1) K0),(1,.l K0 V0),(1,.l K0 V1)] (.c h9 (.c (zn _) (.c (zn _) .n)))) (by exact aA fun h9=>lI [_,_,0,0,_,0,_,_] [(1,.l V0 V1),(1,.l V4 V0),(1,.t (.a V7 V6) V4),(1,.e V1 (.a V7 V6))] (.c (zl h9) (.c (zl hb2) (.c h2 (.c (Int.toNat_of_nonneg (ch fun h9=>lI [_,_,0,0,0,0,0] [(1,.t (.a V0 V1) K0),(1,.l K0 V0),(1,.l K0 V1)] (.c h9 (.c (zn _) (.c (zn _) .n))))) .n))))) (by exact ae fun h9=>lN [_] [(1,.t (.k 100000) V0),(1,.l V0 (.k 100))] (.c h9 (.c hl2 .n))) (by with_unfolding_all rfl) fun z tz ez=>?_
   exact ⟨fun e=>(tN HF h1 h2 ey ez (beq_iff_eq.mpr e)).elim,fun _=>⟨rfl,rfl,trivial⟩⟩
  refine eW (fun t=>⟨fun h1=>⟨fun h2=>?_,fun _=>⟨rfl,rfl,trivial⟩⟩,fun _=>⟨rfl,rfl,trivial⟩⟩) fun t=>?_
  ·refine mx (n:=12) hq rfl ?_
   exact be hlb (by exact ch fun h9=>lI [_,_] [(1,.t (.s V0 K1) K0),(1,.t V1 V0),(1,.l K0 V1)] (.c h9 (.c h2 (.c (zn _) .n)))) (by exact aA fun h9=>lI [_,_,_,0] [(1,.l V0 V1),(1,.l V2 V0),(1,.e V1 (.s V2 K1))] (.c (zl h9) (.c (zl hbj2) (.c (Int.toNat_of_nonneg (ch fun h9=>lI [_,0,_] [(1,.t (.s V0 K1) K0),(1,.t V2 V0),(1,.l K0 V2)] (.c h9 (.c h2 (.c (zn _) .n))))) .n)))) (by exact ae fun h9=>lN [_] [(1,.t (.k 100000) V0),(1,.l V0 (.k 100))] (.c h9 (.c hl2 .n))) (by with_unfolding_all rfl) fun _ _ _=>⟨hq,iZ hq hjk ⟨(fun h=>nomatch h),fun _=>⟨rfl,rfl,trivial⟩⟩⟩
  refine eW (fun t=>⟨fun h1=>⟨fun h2=>?_,fun _=>⟨rfl,rfl,trivial⟩⟩,fun _=>⟨rfl,rfl,trivial⟩⟩) fun t=>?_
  ·refine mx (n:=12) hq rfl ?_
   exact be hlb (by exact ch fun h9=>lI [_,_,0,0,0] [(1,.t (.a V0 V1) K0),(1,.l K0 V0),(1,.l K0 V1)] (.c h9 (.c (zn _) (.c (zn _) .n)))) (by exact aA fun h9=>lI [_,_,0,0,_,0,_,_] [(1,.l V0 V1),(1,.l V4 V0),(1,.t (.a V7 V6) V4),(1,.e V1 (.a V7 V6))] (.c (zl h9) (.c (zl hb2) (.c h2 (.c (Int.toNat_of_nonneg (ch fun h9=>lI [_,_,0,0,0,0,0] [(1,.t (.a V0 V1) K0),(1,.l K0 V0),(1,.l K0 V1)] (.c h9 (.c (zn _) (.c (zn _) .n))))) .n))))) (by exact ae fun h9=>lN [_] [(1,.t (.k 100000) V0),(1,.l V0 (.k 100))] (.c h9 (.c hl2 .n))) (by with_unfolding_all rfl) fun _ _ _=>⟨hq,iZ hq hjk ⟨(fun h=>nomatch h),fun _=>⟨rfl,rfl,trivial⟩⟩⟩
  refine cR (aw 12) rfl (by k_is) ?_
  refine Sq.useE (uR w l9 _ _ _ _ _ _) (by decide) fun p t _=>?_
  exact ⟨_,.cons (.cons hsub),⟨(p,(_,_,_)),rfl,rfl,trivial⟩⟩
end
section
noncomputable def nu (h:Heap) (t:Addr) (vs:Array Value):Prop:=∃ o n,h.get? t = some o ∧ o.data = .seq vs n
section
variable {prog:Program} {w:World} {A:Around} {E:Value → Shared → Prop} {s:Shared}
theorem nu.ext {h h':Heap} {t it:Addr} {vs:Array Value} (M:nu h t vs) (X:Heap.ExtBut it h h') (hne:t ≠ it):nu h' t vs:=by
 obtain ⟨o,n,a,b⟩:=M
 exact ⟨o,n,X _ _ hne a,b⟩
theorem qW {it t:Addr} {i:Nat} {items:Array Value} {x:Value} {Q:Option Value → Shared → Prop} (hit:IsTupIter s.heap it t i) (ht:nu s.heap t items) (hx:items[i]? = some x)
  (hQ:∀ h',IsTupIter h' it t (i + 1) → Heap.SameBut it s.heap h' → Q (some x) { s with heap:=h' }):wpAny (model prog w) A (pyNext (.ref it)) Q E s:=by
 obtain ⟨o,ho,hc,hd⟩:=id hit
 obtain ⟨ol,nl,hol,hdl⟩:=ht
 unfold pyNext
 refine wpAny_bind (wpAny_attempt (wpAny_callSpecial?_slot (name:=Str.ofString "__next__") hit.typeIs slot_tupleiter_next
  (wpAny_call_entry slot_tupleiter_next hit.typeIs entry_tupleiter_next ?_ (args_tupleiter_next _))))
 show wpAny _ _ (field (.ref it) 0 >>= _) _ _ s
 refine wpAny_bind (wpAny_field ho hd (x:=.ref t) rfl ?_)
 show wpAny _ _ (if (Value.ref t == Value.none) = true then _ else _) _ _ s
 rw [if_neg (show ¬ ((Value.ref t == Value.none) = true) from Bool.false_ne_true)]
 show wpAny _ _ (field (.ref it) 1 >>= _) _ _ s
 refine wpAny_bind (wpAny_field ho hd (x:=.int i 0) rfl ?_)
 show wpAny _ _ (seqItems? (.ref t) >>= _) _ _ s
 refine wpAny_bind (wpAny_seqItems hol hdl ?_)
 simp only [Int.toNat_natCast,hx]
 refine wpAny_bind (wpAny_setField ho hd (by simp) (wpAny_pure ⟨x,rfl,wpAny_pure (hQ _ ?_ (Heap.SameBut.update ..))⟩))
 exact ⟨_,Heap.get?_update_self _ ho (Obj.isFreed_of_fields (Obj.data_mapFields hd _)),(Obj.cls_mapFields ..).trans hc,by
  rw [Obj.data_mapFields hd];simp [rawInt]⟩
theorem tZ {it t:Addr} {i:Nat} {items:Array Value} {Q:Option Value → Shared → Prop} (hh:A.handled = none) (hit:IsTupIter s.heap it t i) (ht:nu s.heap t items) (hx:items[i]? = none)
  (hQ:∀ h',Heap.ExtBut it s.heap h' → Q none { s with heap:=h' }):wpAny (model prog w) A (pyNext (.ref it)) Q E s:=by
 obtain ⟨o,ho,hc,hd⟩:=id hit
 obtain ⟨ol,nl,hol,hdl⟩:=ht
 unfold pyNext
 refine wpAny_bind (wpAny_attempt (wpAny_callSpecial?_slot (name:=Str.ofString "__next__") hit.typeIs slot_tupleiter_next
  (wpAny_call_entry slot_tupleiter_next hit.typeIs entry_tupleiter_next ?_ (args_tupleiter_next _))))
 show wpAny _ _ (field (.ref it) 0 >>= _) _ _ s
 refine wpAny_bind (wpAny_field ho hd (x:=.ref t) rfl ?_)
 show wpAny _ _ (if (Value.ref t == Value.none) = true then _ else _) _ _ s
 rw [if_neg (show ¬ ((Value.ref t == Value.none) = true) from Bool.false_ne_true)]
 show wpAny _ _ (field (.ref it) 1 >>= _) _ _ s
 refine wpAny_bind (wpAny_field ho hd (x:=.int i 0) rfl ?_)
 show wpAny _ _ (seqItems? (.ref t) >>= _) _ _ s
 refine wpAny_bind (wpAny_seqItems hol hdl ?_)
 simp only [Int.toNat_natCast,hx]
 refine wpAny_bind (wpAny_rule (wpAny_bind (wpAny_setField ho hd (by simp) ?_)))
 show wpAny _ _ (newExc (.type "StopIteration") [] >>= _) _ _ _
 refine wpAny_bind ?_
 simp only [newExc,newTuple]
 refine wpAny_bind (wpAny_newObj_type ?_ (by size_fits))
 refine wpAny_bind (m:=firstArgMember _ _) (wpAny_of_eq (a:=Value.none) (by first | rfl | (simp only [firstArgMember];rfl)) ?_)
 refine wpAny_newObj_type ?_ (by size_fits)
 simp only [raiseNew]
 refine wpAny_bind (wpAny_handled ?_)
 first | rw [show A.in1.handled = none from hh] | rw [hh]
 refine wpAny_bind (wpAny_pure (wpAny_throw ?_))
 refine wpAny_bind (wpAny_isInstance (T := "StopIteration") (b:=true) ⟨_,Heap.get?_push_size _ rfl,rfl⟩ isSubtype_stop ?_)
 exact wpAny_pure (hQ _ (((Heap.SameBut.update ..).extBut.push _).push _))
end
end
section
theorem ug (P:Params):findIn (K P) (.ref 135) "__iter__" = some (some (.builtin "tuple.__iter__")):=by
 refine (fun h:(rW = rW ∧ K = K) → findIn (K P) (.ref 135) "__iter__" = some (some (.builtin "tuple.__iter__"))=>h ⟨rfl,rfl⟩) ?_
 k_fill
 intro _
 k_is
theorem ri {w:World} {A:Around} {E:Value → Shared → Prop} {s:Shared} {Q:Value → Shared → Prop} {i j k:Int} {t u v:Nat} {T d:Addr} (X9:(K w.params).In s.heap) (h1:s.heap.get? T = some (ca i j k t u v d))
 (hQ:Q (.ref s.heap.objs.size) { s with heap:=s.heap.push { cls:=.type "tuple_iterator",data:=.fields #[.ref T,.int 0 0] } }):wpAny (model rW.row.prog w) A (pyIter (.ref T)) Q E s:=by
 let x:Obj:={ cls:=.type "tuple_iterator",data:=.fields #[.ref T,.int 0 0] }
 have n1:(s.heap.push x).get? s.heap.objs.size = some x:=Heap.get?_push_size _ rfl
 let o:=some (ca i j k t u v d)
 exact uj _ _ "special-get-raises" [o,none,none,none,o,none,none,none,o,none,some x] [Builtin.«tuple.__iter__»] (az h1 (az h1 (az h1 (az PySem.F.entry_tuple_iter (az n1 dX))))) (fun b _=>by cases b <;> kernel_rfl) X9 hQ
end
section
section
variable {prog:Program} {w:World} {A:Around} {E:Value → Shared → Prop}
theorem Au {it t:Addr} {items:Array Value} (hne:t ≠ it):∀ (n i:Nat) (s:Shared) (Q:List Value → Shared → Prop),IsTupIter s.heap it t i → nu s.heap t items → i + n ≤ items.size →
  (∀ h',IsTupIter h' it t (i + n) → Heap.SameBut it s.heap h' → Q ((items.toList.drop i).take n) { s with heap:=h' }) → wpAny (model prog w) A (draw (.ref it) n) Q E s
 | 0,i,s,Q,hit,_,_,hQ=>by
  show wpAny _ _ (pure []) Q E s
  exact wpAny_pure (by simpa using hQ s.heap hit (Heap.SameBut.refl ..))
 | n + 1,i,s,Q,hit,ht,hle,hQ=>by
  have hlt:i < items.size:=by exact aA fun h9=>lN [_,_,_] [(1,.l V0 V1),(1,.l (.a V1 (.a V2 K1)) V0)] (.c h9 (.c hle .n))
  show wpAny _ _ (pyNext (.ref it) >>= _) Q E s
  refine wpAny_bind (qW hit ht (x:=items[i]) (by simp [hlt]) fun h₁ hit₁ hs₁=>?_)
  refine wpAny_bind (wpAny_holding (Au hne n (i + 1) _ _ hit₁ (ht.ext hs₁.extBut hne) (by exact ae fun h9=>lN [_,_,_] [(1,.t V0 (.a (.a V1 K1) V2)),(1,.l (.a V1 (.a V2 K1)) V0)] (.c h9 (.c hle .n))) fun h₂ hit₂ hs₂=>wpAny_pure ?_))
  have hd:items.toList.drop i = items[i] :: items.toList.drop (i + 1):=by simp [List.drop_eq_getElem_cons,hlt]
  have:=hQ h₂ (by rw [show i + (n + 1) = i + 1 + n by exact aN (fun h9=>lN [_,_] [(1,.t (.a (.a V0 K1) V1) (.a V0 (.a V1 K1)))] (.c h9 .n)) (fun h9=>lN [_,_] [(1,.t (.a V0 (.a V1 K1)) (.a (.a V0 K1) V1))] (.c h9 .n))];exact hit₂) (hs₁.trans hs₂)
  rw [hd,List.take_succ_cons] at this
  exact this
end
section
variable {w:World} {A:Around} {E:Value → Shared → Prop} {s:Shared} {h₀:Heap} {L:Addr} {m:PySem.Str → Option Value} {news:List (Addr × Obj)}
theorem zi {i j k:Int} {t u v:Nat} {T d:Addr} {Q:List Value → Shared → Prop} (hh:A.handled = none) (X9:(K w.params).In s.heap) (F:Fr h₀ L s.heap m) (N:News h₀ L s.heap news) (hT:(T,ca i j k t u v d) ∈ news)
  (h:∀ h',Fr h₀ L h' m → News h₀ L h' news → Q [.int i t,.int j u,.int k v] { s with heap:=h' }):wpAny (model rW.row.prog w) A (unpackItems (.ref T) 3 none) Q E s:=by
 have h1:=(N _ hT).1
 obtain ⟨sh,g,dr,tk,os⟩:=s
 dsimp only at h1
 have t1:Looks (model rW.row.prog w) sh (typeOf (.ref T)) (.ref 135):=(Looks.ld h1).andThen .now
 have i1:=looks_findIn (M:=model rW.row.prog w) X9 (ug w.params)
 dsimp only at i1
 unfold unpackItems notIterableAtAll specialOf
 refine wpAny_bind (wpAny_bind (wpAny_bind (t1.at (i1.at ?_))))
 refine wpAny_pure ?_
 simp only [Bool.false_eq_true,if_false]
 refine wpAny_bind (wpAny_holding (ri X9 h1 ?_))
 have N1:=N.push F { cls:=.type "tuple_iterator",data:=.fields #[.ref T,.int 0 0] }
 have hq:T ≠ sh.objs.size:=N.apart _ hT
 have hM:nu _ T #[.int i t,.int j u,.int k v]:=⟨_,_,(N1 _ (.tail _ hT)).1,rfl⟩
 have hI:IsTupIter _ sh.objs.size T 0:=⟨_,(N1 _ (.head _)).1,rfl,rfl⟩
 refine wpAny_bind (wpAny_holding (Au hq 3 0 _ _ hI hM (by simp) fun h₁ hit₁ hs₁=>?_))
 rw [if_neg (by simp)]
 refine wpAny_bind (wpAny_holding (tZ hh hit₁ (hM.ext hs₁.extBut hq) (by simp) fun h₃ he₃=>?_))
 simp only [Option.isSome_none,Bool.false_eq_true,if_false]
 have keep:∀ b o,sh.get? b = some o → h₃.get? b = some o:=by
  intro b o e
  have hb:b ≠ sh.objs.size:=Nat.ne_of_lt (Heap.lt_size e)
  exact he₃ b o hb (hs₁.extBut b o hb (Heap.get?_push_of_some _ e))
 exact wpAny_pure (h h₃ (F.keeps keep) (N.grown keep))
theorem ye {env:Env} {elts:List PySem.Expr} {kx} {pos:Pos} {i j k:Int} {t u v:Nat} {T d:Addr} {Q:Unit → Shared → Prop} (hh:A.handled = none) (X9:(K w.params).In s.heap) (F:Fr h₀ L s.heap m) (N:News h₀ L s.heap news) (hT:(T,ca i j k t u v d) ∈ news)
  (hn:(assignEach elts env).length = 3) (hstar:(assignEach elts env).findIdx? (·.1) = none)
  (h:∀ h',Fr h₀ L h' m → News h₀ L h' news → wpAny (model rW.row.prog w) A (assignInOrder ((assignEach elts env).map (·.2)) [.int i t,.int j u,.int k v]) Q E { s with heap:=h' }) :
  wpAny (model rW.row.prog w) A (assign (.Tuple elts kx pos) env (.ref T)) Q E s:=by
 rw [assign_Tuple]
 refine wpAny_bind (wpAny_standAt ?_)
 unfold unpack
 rw [hn,hstar]
 exact wpAny_bind (wpAny_holding (zi hh X9 F N hT h))
end
end
section
open PyProof.Rows.LCg PyProof.Rows.LCt
theorem uu (l:List (PySem.Str × Nat)) (z:PySem.Str × Nat) (y:PySem.Str):cx (l++[z]) y = (cx l y).or (if z.1 = y then some l.length else none):=by
 unfold cx
 rw [List.findIdx?_append]
 congr 1
 by_cases h:z.1 = y
 ·simp [h,List.findIdx?_cons]
 ·simp [h,List.findIdx?_cons]
theorem kq (kvs:List (PySem.Str × Value)) (k y:PySem.Str) (v:Value):valueAt (kvs++[(k,v)]) y = (valueAt kvs y).or (if k = y then some v else none):=by
 unfold valueAt
 rw [List.find?_append]
 cases kvs.find? (fun kv=>kv.1 = y) with
 | some a=>rfl
 | none =>
  by_cases h:k = y
  ·simp [h]
  ·simp [h]
theorem fI {kvs:List (PySem.Str × Value)} {k:PySem.Str} {v:Value} (h:valueAt kvs k = none):stored kvs k v = kvs++[(k,v)]:=by
 unfold stored
 rw [← valueAt_isSome_eq_any,h];rfl
theorem oo {kvs:List (PySem.Str × Value)} {k:PySem.Str} {v:Value} {i:Nat} (h:valueAt kvs k = none) (hl:kvs.length ≤ i):(stored kvs k v).length ≤ i + 1:=by
 rw [fI h,List.length_append];exact Nat.succ_le_succ hl
theorem wK {l:List (PySem.Str × Nat)} {kvs:List (PySem.Str × Value)} {ix:List (Addr × Obj)} {z:PySem.Str} {u:Nat} {L t n:Nat} (H:xc l kvs ix) (h:cx l z = none) :
  xc (l++[(z,u)]) (stored kvs z (.ref L)) ((L,listOf #[.int (l.length:Int) t] n) :: ix):=by
 have hv:valueAt kvs z = none:=by
  rcases H z with ⟨j,_,_,_,e,_⟩ | ⟨_,e⟩
  ·rw [h] at e;cases e
  ·exact e
 rw [fI hv]
 intro y
 rw [uu,kq]
 rcases H y with ⟨j,L',t',n',e1,e2,e3⟩ | ⟨e1,e2⟩
 ·exact .inl ⟨j,L',t',n',by rw [e1];rfl,by rw [e2];rfl,al e3⟩
 ·by_cases hy:z = y
  ·exact .inl ⟨l.length,L,t,n,by rw [e1,if_pos hy];rfl,by rw [e2,if_pos hy];rfl,List.mem_cons_self⟩
  ·exact .inr ⟨by rw [e1,if_neg hy];rfl,by rw [e2,if_neg hy];rfl⟩
theorem vU {l:List (PySem.Str × Nat)} {kvs:List (PySem.Str × Value)} {ix:List (Addr × Obj)} {z:PySem.Str} (H:xc l kvs ix) (h:cx l z = none):valueAt kvs z = none:=by
 rcases H z with ⟨j,_,_,_,e,_⟩ | ⟨_,e⟩
 ·rw [h] at e;cases e
 ·exact e
theorem um {l:List (PySem.Str × Nat)} {i:Nat} {y:PySem.Str} {t:Nat} (hnd:(l.map (·.1)).Nodup) (h:l[i]? = some (y,t)):cx (l.take i) y = none:=by
 unfold cx
 rw [List.findIdx?_eq_none_iff]
 intro z hz
 have hm:y ∉ (l.take i).map (·.1):=by
  intro hm
  obtain ⟨p,hp,hpy⟩:=List.mem_map.mp hm
  obtain ⟨j,hj,hjp⟩:=List.getElem_of_mem hp
  have hji:j < i:=by rw [List.length_take] at hj;omega
  rw [List.getElem_take] at hjp
  have hi:=(List.getElem?_eq_some_iff.mp h)
  obtain ⟨hi1,hi2⟩:=hi
  have e:(l.map (·.1))[j]'(by rw [List.length_map];exact aA fun h9=>lN [_,_,_] [(1,.l V0 V1),(1,.t V1 V2),(1,.t V2 V0)] (.c h9 (.c hji (.c hi1 .n)))) = (l.map (·.1))[i]'(by rw [List.length_map];exact aA fun h9=>lN [_,_] [(1,.l V0 V1),(1,.t V1 V0)] (.c h9 (.c hi1 .n))):=by
   rw [List.getElem_map,List.getElem_map,hjp,hi2];exact hpy
  have:=(List.getElem_inj hnd).mp e
  exact lN [_,_] [(1,.t V0 V1),(-1,.e V0 V1)] (.c hji (.c this .n))
 simp only [beq_eq_false_iff_ne,ne_eq]
 rintro rfl
 exact hm (List.mem_map.mpr ⟨z,hz,rfl⟩)
theorem yb {lb:List (PySem.Str × Nat)} {i:Nat} {a:Itm} (h:(enumItems 0 (strValues lb))[i]? = some a):∃ y t,lb[i]? = some (y,t) ∧ a = Itm.pair (fun k=>.int ((0 + i:Nat):Int) k) (.str y t):=by
 have hl:=(List.getElem?_eq_some_iff.mp h).1
 rw [enumItems_length,aV] at hl
 have e:lb[i]? = some (lb[i].1,lb[i].2):=List.getElem?_eq_getElem hl
 have h2:=enumItems_get (strValues lb) 0 i (v:=.str lb[i].1 lb[i].2) (by unfold strValues;rw [List.getElem?_map,e];rfl)
 rw [h] at h2
 exact ⟨_,_,e,Option.some.inj h2⟩
theorem mC {d:Addr}:∀ {l:List (Addr × Obj)},AllLt d l → ∀ p ∈ l,p.1 < d
 | [],_,_,hp=>nomatch hp
 | q :: r,h,p,hp=>by
  rcases ag hp with rfl | hp
  ·exact h.1
  ·exact mC h.2 p hp
section
variable {prog:Program} {w:World} {A:Around} {E:Value → Shared → Prop} {s:Shared} {h₀:Heap} {L:Addr} {m:PySem.Str → Option Value} {news:List (Addr × Obj)}
theorem CO {Q:Value → Shared → Prop} (F:Fr h₀ L s.heap m) (N:News h₀ L s.heap news)
  (h:∀ q h' e,Fr h₀ L h' m → News h₀ L h' ((q,bn e) :: news) → (∀ p ∈ news,p.1 ≠ q) → Q (.ref q) { s with heap:=h' }):wpAny (model prog w) A (call (.type "set") []) Q E s:=by
 exact call_set_0 fun e=>h _ _ e (F.push _) (N.push F _ rfl) fun p hp=>Nat.ne_of_lt (Heap.lt_size (N p hp).1)
end
structure E6 where
 t0:Nat
 t1:Nat
 t2:Nat
 t3:Nat
 t4:Nat
 t5:Nat
 t6:Nat
 t7:Nat
 t8:Nat
 t9:Nat
noncomputable abbrev aG (w:World) (name:PySem.Str) (t:Nat) (v:Value):DictEntry:={ hash:=PyData.keyHash w.params name,key:=.str name t,val:=v }
noncomputable abbrev ml (w:World) (a b bd jk pp:Addr) (vm vo:Value) (T:E6):List DictEntry :=
  [aG w (Str.ofString "isjunk") T.t0 .none,aG w (Str.ofString "a") T.t1 (.ref a),aG w (Str.ofString "b") T.t2 (.ref b),aG w (Str.ofString "autojunk") T.t3 (.bool true),aG w (Str.ofString "matching_blocks") T.t4 vm,aG w (Str.ofString "opcodes") T.t5 vo,
   aG w (Str.ofString "fullbcount") T.t6 .none,aG w (Str.ofString "b2j") T.t7 (.ref bd),aG w (Str.ofString "bjunk") T.t8 (.ref jk),aG w (Str.ofString "bpopular") T.t9 (.ref pp)]
structure so where
 x:Addr
 d:Addr
 bd:Addr
 jk:Addr
 pp:Addr
 T:E6
 n:Nat
 ob:Obj
 kvs:List (PySem.Str × Value)
 ix:List (Addr × Obj)
 l1:Bool
 l2:Bool
noncomputable abbrev d0 (w:World) (a b:Addr) (vm vo:Value) (y:so):List (Addr × Obj) :=
 (y.pp,bn y.l2) :: (y.jk,bn y.l1) :: (y.bd,y.ob) :: (y.x,instObj 242 y.d) :: (y.d,dictOf (ml w a b y.bd y.jk y.pp vm vo y.T) y.n) :: y.ix
structure w4 (w:World) (lb:List (PySem.Str × Nat)) (led:List (Addr × Obj)) (y:so):Prop where
 od:y.ob.IsDictOf (PySem.strKind rW.row.prog w) y.kvs
 bj:xc lb y.kvs y.ix
 lo:(y.bd == sysModules) = false
structure FV where
 o:Obj
 kvs:List (PySem.Str × Value)
 ix:List (Addr × Obj)
end
section
open PyProof.Rows.LCg PyProof.Rows.LCt
noncomputable def CK (w:World) (f:Addr) (lv:Nat) (vs:List Value) (led rest:List (Addr × Obj)) (R:Value → List (Addr × Obj) → Prop):Prop :=
 ∀ (mean:ExcName → Option Value) (mg mb:PySem.Str → Option Value) (dp un:Nat) (gd:Option (List Code)) (cn:PySem.Str) (cs:Scope) (a:Addr) (ccd:Value) (cl:List (PySem.Str × Addr)) (outer:List Env) (A₀:Around) (base h₀:Heap) (L:Addr) (m:PySem.Str → Option Value) (s:Shared) (Q E:Value → Shared → Prop),
  Below A₀ base outer h₀ → Fr h₀ L s.heap m → (K w.params).In h₀ → News h₀ L s.heap led → Top (am pW) (looseW (am pW) aE) mean mg mb h₀ → cs.kind = .function →
  dp + lv < recursionLimit → un + 40 * lv < cLine →
  (∀ v new h' tk',Fr h₀ L h' m → News h₀ L h' (new++rest) → R v new → Q v { s with heap:=h',toks:=tk' }) →
  wpAny (model rW.row.prog w) (ktrTop dp un gd cn cs L a ccd cl outer) (call (.ref f) vs) Q E s
theorem CK.useE {α:Type} {V:α → Value} {W:α → List (Addr × Obj)} {P:α → Prop} {w:World} {f:Addr} {lv:Nat} {vs:List Value} {led rest:List (Addr × Obj)} (C:CK w f lv vs led rest (kH V W P))
  {mean:ExcName → Option Value} {mg mb:PySem.Str → Option Value} {dp un:Nat} {gd:Option (List Code)} {cn:PySem.Str} {cs:Scope} {a:Addr} {ccd:Value} {cl:List (PySem.Str × Addr)} {outer:List Env} {A₀:Around} {base h₀:Heap} {L:Addr} {m:PySem.Str → Option Value} {s:Shared} {Q E:Value → Shared → Prop}
  (B:Below A₀ base outer h₀) (F:Fr h₀ L s.heap m) (X:(K w.params).In h₀) (N:News h₀ L s.heap led) (T:Top (am pW) (looseW (am pW) aE) mean mg mb h₀) (hk:cs.kind = .function)
  (hd:dp + lv < recursionLimit) (hu:un + 40 * lv < cLine)
  (h:∀ x h' tk',Fr h₀ L h' m → News h₀ L h' (W x++rest) → P x → Q (V x) { s with heap:=h',toks:=tk' }) :
  wpAny (model rW.row.prog w) (ktrTop dp un gd cn cs L a ccd cl outer) (call (.ref f) vs) Q E s :=
 C _ _ _ _ _ _ _ _ _ _ _ _ _ _ _ _ _ _ _ _ B F X N T hk hd hu (by rintro _ _ h' tk' F' N' ⟨x,rfl,rfl,hP⟩;exact h x h' tk' F' N' hP)
noncomputable def bL {α:Type} (At:List (Addr × Obj) → Value → α → Prop) (led:List (Addr × Obj)) (vs:List Value) (xs:List α):Prop:=vs.length = xs.length ∧ ∀ (i:Nat) (v:Value),vs[i]? = some v → ∃ x,xs[i]? = some x ∧ At led v x
structure gM {α:Type} (At:List (Addr × Obj) → Value → α → Prop):Prop where
 m:∀ {led led' v x},At led v x → (∀ p ∈ led,p ∈ led') → At led' v x
theorem bL.nil {α:Type} {At:List (Addr × Obj) → Value → α → Prop} {led:List (Addr × Obj)}:bL At led [] []:=⟨rfl,fun i v h=>by simp at h⟩
theorem bL.mono {α:Type} {At:List (Addr × Obj) → Value → α → Prop} (M:gM At) {led led':List (Addr × Obj)} {vs:List Value} {xs:List α} (h:bL At led vs xs) (k:∀ p ∈ led,p ∈ led'):bL At led' vs xs:=⟨h.1,fun i u hu=>let ⟨o,a,b⟩:=h.2 i u hu;⟨o,a,M.m b k⟩⟩
theorem bL.snoc {α:Type} {At:List (Addr × Obj) → Value → α → Prop} (M:gM At) {led led':List (Addr × Obj)} {vs:List Value} {xs:List α} {v:Value} {x:α} (h:bL At led vs xs) (k:∀ p ∈ led,p ∈ led') (h1:At led' v x):bL At led' (vs++[v]) (xs++[x]):=by
 refine ⟨by simp [h.1],fun i u hu=>?_⟩
 by_cases hi:i < vs.length
 ·rw [List.getElem?_append_left hi] at hu
  obtain ⟨o',a,b⟩:=h.2 i u hu
  exact ⟨o',by rw [List.getElem?_append_left (by rw [← h.1];exact hi)];exact a,M.m b k⟩
 ·rw [List.getElem?_append_right (by exact ae fun h9=>lN [_,_] [(1,.t V0 V1),(1,.nt V0 V1)] (.c h9 (.c hi .n)))] at hu
  have e:i - vs.length = 0:=by
   rcases Nat.eq_zero_or_pos (i - vs.length) with e | e
   ·exact e
   ·rw [List.getElem?_eq_none (by simp;exact ae fun h9=>lN [_,0] [(1,.t V0 K1),(1,.t K0 V0)] (.c h9 (.c e .n)))] at hu;cases hu
  rw [e] at hu
  cases hu
  exact ⟨x,by rw [List.getElem?_append_right (by rw [← h.1];exact ae fun h9=>lN [_,_] [(1,.t V0 V1),(1,.nt V0 V1)] (.c h9 (.c hi .n))),← h.1,e];rfl,h1⟩
theorem bL.last {α:Type} {At:List (Addr × Obj) → Value → α → Prop} {led:List (Addr × Obj)} {vs:List Value} {xs:List α} (h:bL At led vs xs) (hne:vs.isEmpty = false) :
  ∃ vs' v xs' x,vs = vs'++[v] ∧ xs = xs'++[x] ∧ bL At led vs' xs' ∧ At led v x:=by
 obtain ⟨vs',v,rfl⟩:∃ vs' v,vs = vs'++[v]:=⟨_,_,(List.dropLast_concat_getLast (l:=vs) (by intro e;rw [e] at hne;cases hne)).symm⟩
 obtain ⟨xs',x,rfl⟩:∃ xs' x,xs = xs'++[x]:=⟨_,_,(List.dropLast_concat_getLast (l:=xs) (by intro e;have:=h.1;rw [e] at this;simp at this)).symm⟩
 have hl:vs'.length = xs'.length:=by have:=h.1;simp at this;exact this
 refine ⟨_,_,_,_,rfl,rfl,⟨hl,fun i u hi=>?_⟩,?_⟩
 ·have hlt:=(List.getElem?_eq_some_iff.mp hi).1
  obtain ⟨z,a,b⟩:=h.2 i u (by rw [List.getElem?_append_left hlt];exact hi)
  rw [List.getElem?_append_left (by rw [← hl];exact hlt)] at a
  exact ⟨z,a,b⟩
 ·obtain ⟨z,a,b⟩:=h.2 vs'.length v (by rw [List.getElem?_append_right (Nat.le_refl _),Nat.sub_self];rfl)
  rw [List.getElem?_append_right (by rw [hl];exact Nat.le_refl _),hl,Nat.sub_self] at a
  cases a
  exact b
structure Rg where
 alo:Nat
 ahi:Nat
 blo:Nat
 bhi:Nat
structure Bk where
 i:Nat
 j:Nat
 k:Nat
inductive yn (led:List (Addr × Obj)) (v:Value) (r:Rg):Prop
 | mk (T t1 t2 t3 t4:Nat):v = .ref T → (T,bo [.int (r.alo:Int) t1,.int (r.ahi:Int) t2,.int (r.blo:Int) t3,.int (r.bhi:Int) t4]) ∈ led → yn led v r
inductive ef (led:List (Addr × Obj)) (v:Value) (b:Bk):Prop
 | mk (T d t1 t2 t3:Nat):v = .ref T → (T,ca (b.i:Int) (b.j:Int) (b.k:Int) t1 t2 t3 d) ∈ led → ef led v b
theorem C4:gM yn:=⟨fun ⟨T,t1,t2,t3,t4,h0,h1⟩ k=>⟨T,t1,t2,t3,t4,h0,k _ h1⟩⟩
theorem BZ:gM ef:=⟨fun ⟨T,d,t1,t2,t3,h0,h1⟩ k=>⟨T,d,t1,t2,t3,h0,k _ h1⟩⟩
noncomputable def bp (la lb:List (PySem.Str × Nat)) (r:Rg):eF:=sV la lb r.alo r.blo r.bhi (r.ahi - r.alo)
noncomputable def cj (r:Rg) (R:eF):List Rg:=if r.alo < R.bi ∧ r.blo < R.bj then [⟨r.alo,R.bi,r.blo,R.bj⟩] else []
noncomputable def dE (r:Rg) (R:eF):List Rg:=if R.bi + R.bs < r.ahi ∧ R.bj + R.bs < r.bhi then [⟨R.bi + R.bs,r.ahi,R.bj + R.bs,r.bhi⟩] else []
structure gR (la lb:List (PySem.Str × Nat)) (Inv:List Rg → List Bk → Prop) (mu:List Rg → Nat) (srt:List Bk):Prop where
 init:Inv [⟨0,la.length,0,lb.length⟩] []
 ok:∀ {q r bl},Inv (q++[r]) bl → r.alo ≤ r.ahi ∧ r.ahi ≤ la.length ∧ r.bhi ≤ lb.length ∧ gE la lb r.alo r.ahi r.blo r.bhi (bp la lb r)
 non:∀ {q r bl},Inv (q++[r]) bl → (bp la lb r).bs = 0 → Inv q bl ∧ mu q < mu (q++[r])
 som:∀ {q r bl},Inv (q++[r]) bl → (bp la lb r).bs ≠ 0 → Inv (q++cj r (bp la lb r)++dE r (bp la lb r)) (bl++[⟨(bp la lb r).bi,(bp la lb r).bj,(bp la lb r).bs⟩]) ∧ mu (q++cj r (bp la lb r)++dE r (bp la lb r)) < mu (q++[r])
 len:∀ {q bl},Inv q bl → q.length ≤ 50 ∧ bl.length ≤ 50
 fin:∀ {bl},Inv [] bl → srt.Perm bl
 inc:srt.Pairwise (fun a b=>a.i < b.i)
 six:srt.length ≤ 6
section
variable {prog:Program} {w:World} {A:Around} {E:Value → Shared → Prop} {s:Shared} {h₀:Heap} {L D:Addr} {m:PySem.Str → Option Value} {news news':List (Addr × Obj)} {n:Nat}
theorem wf {p:List Value} {y:Value} {Q:Value → Shared → Prop} (F:Fr h₀ L s.heap m) (N:News h₀ L s.heap news) (U:Upd D (listOf (p++[y]).toArray n) (listOf p.toArray (n + 1)) news news')
  (hz:p.length + 1 ≤ sizeLine) (h:∀ h',Fr h₀ L h' m → News h₀ L h' news' → Q y { s with heap:=h' }):wpAny (model prog w) A (call (.builtin "list.pop") [.ref D]) Q E s:=by
 refine kl_pop (p:=p) (y:=y) F N ?_ U (by simpa using hz) h
 rw [List.toList_toArray,gu]
end
theorem EY (w:World) (led:List (Addr × Obj)) (a b na nb:Addr) (la lb:List (PySem.Str × Nat)) (vm vo:Value) (y:so) (ha:(a,listOf (strValues la).toArray na) ∈ led) (hb:(b,listOf (strValues lb).toArray nb) ∈ led)
    (hsub:∀ p ∈ d0 w a b vm vo y,p ∈ led) (od:y.ob.IsDictOf (PySem.strKind rW.row.prog w) y.kvs):∃ M:SM w led y.x,M.la = la ∧ M.lb = lb ∧ M.kvs = y.kvs ∧ M.bd = y.bd :=
  ⟨{ d:=y.d,es:=ml w a b y.bd y.jk y.pp vm vo y.T,n:=y.n,sl:=_,a:=a,b:=b,na:=na,nb:=nb,la:=la,lb:=lb,bd:=y.bd,ob:=y.ob,kvs:=y.kvs,jk:=y.jk,jb:=y.l1,
     hx:=hsub _ (al (al (al List.mem_cons_self))),hd:=hsub _ (al (al (al (al List.mem_cons_self)))),ha:=by rfl,hb:=by rfl,hj:=by rfl,hk:=by rfl,la':=ha,lb':=hb,
     bd':=hsub _ (al (al List.mem_cons_self)),ob':=od,jk':=hsub _ (al List.mem_cons_self) },rfl,rfl,rfl,rfl⟩
theorem xc.mono {lb:List (PySem.Str × Nat)} {kvs:List (PySem.Str × Value)} {led led':List (Addr × Obj)} (H:xc lb kvs led) (k:∀ p ∈ led,p ∈ led'):xc lb kvs led':=fun y=>by
 rcases H y with ⟨j,L,t,n,a,b,c⟩ | h
 ·exact .inl ⟨j,L,t,n,a,b,k _ c⟩
 ·exact .inr h
theorem fR {h₀ h:Heap} {L a b:Addr} {o1 o2:Obj} {led:List (Addr × Obj)} (N:News h₀ L h led) (h1:(a,o1) ∈ led) (h2:(b,o2) ∈ led) (hne:o1.cls ≠ o2.cls):a ≠ b:=by
 rintro rfl
 have e1:=(N _ h1).1
 have e2:=(N _ h2).1
 rw [e1] at e2
 exact hne (congrArg Obj.cls (Option.some.inj e2))
theorem AJ {r:Rg} {R:eF} (h1:(r.alo:Int) < R.bi) (h2:(r.blo:Int) < R.bj):cj r R = [⟨r.alo,R.bi,r.blo,R.bj⟩]:=if_pos ⟨by exact aA fun h9=>lI [_,_] [(1,.l V0 V1),(1,.t V1 V0)] (.c (zl h9) (.c h1 .n)),by exact aA fun h9=>lI [_,_] [(1,.l V0 V1),(1,.t V1 V0)] (.c (zl h9) (.c h2 .n))⟩
theorem v5 {r:Rg} {R:eF} (h:¬ ((r.alo:Int) < R.bi ∧ (r.blo:Int) < R.bj)):cj r R = []:=if_neg fun x=>h ⟨by exact pu fun h9=>lI [_,_,0,0] [(1,.l V0 V1),(1,.t V1 V0)] (.c h9 (.c (zt x.1) .n)),by exact pu fun h9=>lI [_,_,0,0] [(1,.l V0 V1),(1,.t V1 V0)] (.c h9 (.c (zt x.2) .n))⟩
theorem B4 {r:Rg} {R:eF} (h1:(R.bi:Int) + R.bs < r.ahi) (h2:(R.bj:Int) + R.bs < r.bhi):dE r R = [⟨R.bi + R.bs,r.ahi,R.bj + R.bs,r.bhi⟩]:=if_pos ⟨by exact aA fun h9=>lI [_,_,_] [(1,.t (.a V1 V2) V0),(1,.l V0 (.a V1 V2))] (.c h1 (.c (zl h9) .n)),by exact aA fun h9=>lI [_,_,_] [(1,.t (.a V1 V2) V0),(1,.l V0 (.a V1 V2))] (.c h2 (.c (zl h9) .n))⟩
theorem zv {r:Rg} {R:eF} (h:¬ (r.alo:Int) < R.bi):cj r R = []:=v5 fun x=>h x.1
theorem yU {r:Rg} {R:eF} (h:¬ (r.blo:Int) < R.bj):cj r R = []:=v5 fun x=>h x.2
theorem C5 {R:eF} (h:(R.bs:Int) ≠ 0):R.bs ≠ 0:=by omega
theorem Dn {R:eF} (h:(R.bs:Int) = 0):R.bs = 0:=by exact aN (fun h9=>lI [_] [(1,.t K0 V0),(1,.e V0 K0)] (.c (zt h9) (.c h .n))) (fun h9=>lI [_] [(1,.t V0 K0),(1,.l K0 V0)] (.c (zt h9) (.c (zn _) .n)))
theorem wl {r:Rg} {R:eF} (h:¬ ((R.bi:Int) + R.bs < r.ahi ∧ (R.bj:Int) + R.bs < r.bhi)):dE r R = []:=if_neg fun x=>h ⟨by exact pu fun h9=>lI [_,_,_,0,0] [(1,.l V0 (.a V1 V2)),(1,.t (.a V1 V2) V0)] (.c h9 (.c (zt x.1) .n)),by exact pu fun h9=>lI [_,_,_,0,0] [(1,.l V0 (.a V1 V2)),(1,.t (.a V1 V2) V0)] (.c h9 (.c (zt x.2) .n))⟩
theorem yO {r:Rg} {R:eF} (h:¬ (R.bi:Int) + R.bs < r.ahi):dE r R = []:=wl fun x=>h x.1
theorem xR {r:Rg} {R:eF} (h:¬ (R.bj:Int) + R.bs < r.bhi):dE r R = []:=wl fun x=>h x.2
end
section
structure DD (P:Params):Prop where
 tup:subIn (K P) (.ref 135) (.type "tuple") = some true
 lt:findIn (K P) (.ref 135) "__lt__" = some (some (.builtin "tuple.__lt__"))
theorem DG (P:Params):DD P:=by
 refine (fun h:(rW = rW ∧ K = K) → DD P=>h ⟨rfl,rfl⟩) ?_
 k_fill
 intro _
 exact ⟨by k_is,by k_is⟩
theorem yV:builtinKind "tuple.__lt__" = some .slot:=by decide +kernel
theorem vx:splitId "tuple.__lt__" = some ("tuple", "__lt__"):=by decide +kernel
section
variable {w:World} {A:Around} {E:Value → Shared → Prop} {s:Shared}
theorem sO {h:Heap} {T d:Addr} {i j k:Int} {t u v:Nat} (X:(K w.params).In h) (h1:h.get? T = some (ca i j k t u v d)):Looks (model rW.row.prog w) h (isInstance (.ref T) (.type "tuple")) true :=
 ((Looks.ld h1).andThen .now:Looks _ h (typeOf (.ref T)) (.ref 135)).andThen (looks_subIn X (DG w.params).tup)
theorem BV {Q:Value → Shared → Prop} {i j k i' j' k':Int} {t u v t' u' v':Nat} {T d T' d':Addr}
 (X:(K w.params).In s.heap) (h1:s.heap.get? T = some (ca i j k t u v d)) (h2:s.heap.get? T' = some (ca i' j' k' t' u' v' d'))
 (hne:i ≠ i') (hQ:Q (.bool (decide (i < i'))) s) :
 wpAny (model rW.row.prog w) A (call (.builtin "tuple.__lt__") [.ref T,.ref T']) Q E s:=by
 refine wpAny_call ?_
 refine codeAny_call_builtin_at (Code.quiet_builtin _ (by decide +kernel)) PySem.F.entry_tuple_lt (check_slot yV vx (sO X h1) (PySem.F.args_tuple_lt_2 _ _) ?_)
 have hb:(i == i') = false:=by simpa using hne
 show wpAny _ _ (isInstance (.ref T') (.type "tuple") >>= _) _ _ s
 refine wpAny_bind ((sO X h2).here ?_)
 show wpAny _ _ (Builtin.Tuple.tupleItemsOf (.ref T) >>= _) _ _ s
 refine wpAny_bind (wpAny_bind (wpAny_seqItems h1 rfl (wpAny_pure ?_)))
 show wpAny _ _ (Builtin.Tuple.tupleItemsOf (.ref T') >>= _) _ _ s
 refine wpAny_bind (wpAny_bind (wpAny_seqItems h2 rfl (wpAny_pure ?_)))
 show wpAny _ _ (forIn ((Value.int i t,Value.int i' t') :: _) _ _ >>= _) _ _ s
 rw [List.forIn_cons]
 refine wpAny_bind (wpAny_bind (wpAny_bind (wpAny_eqBool_int ?_)))
 rw [hb]
 simp only [Bool.not_false,if_true]
 refine wpAny_bind (wpAny_rule (wpAny_bind ?_))
 show wpAny _ _ (compareOp .Lt (.int i t) (.int i' t')) _ _ s
 refine lt_int ?_
 refine wpAny_bind (wpAny_pure (wpAny_pure (wpAny_pure ?_)))
 exact wpAny_pure hQ
end
end
section
noncomputable def gC {α:Type} (lt:Nat → Nat → Bool):KasT α → α
 | .ret a=>a
 | .ask i j k=>gC lt (k (lt i j))
noncomputable def f7 {α:Type} (n:Nat) (lt:Nat → Nat → Bool):KasT α → Bool
 | .ret _=>true
 | .ask i j k=>Nat.blt i n && Nat.blt j n && !(Nat.beq i j) && f7 n lt (k (lt i j))
theorem Am {α:Type} {n:Nat} {cmp:Nat → Nat → (Bool → Shared → Prop) → Shared → Prop} {lt:Nat → Nat → Bool} {s:Shared} (hc:∀ i j C,i < n → j < n → i ≠ j → C (lt i j) s → cmp i j C s) :
  ∀ (t:KasT α) {Q:α → Shared → Prop},f7 n lt t = true → Q (gC lt t) s → t.kasWp cmp Q s
 | .ret a,Q,_,h=>h
 | .ask i j k,Q,hg,h=>by
  simp only [f7,Bool.and_eq_true,Bool.not_eq_true',Nat.blt_eq] at hg
  obtain ⟨⟨⟨h1,h2⟩,h3⟩,h4⟩:=hg
  refine hc i j _ h1 h2 (fun e=>?_) (Am hc (k (lt i j)) h4 h)
  rw [e] at h3
  simp at h3
noncomputable def sE (x:Nat):List Nat → List (List Nat)
 | []=>[[x]]
 | y :: l=>(x :: y :: l) :: (sE x l).map (y :: ·)
noncomputable def ka:List Nat → List (List Nat)
 | []=>[[]]
 | x :: l=>(ka l).flatMap (sE x)
theorem ik (x:Nat):∀ (l1 l2:List Nat),(l1++x :: l2) ∈ sE x (l1++l2)
 | [],[]=>List.mem_singleton.mpr rfl
 | [],y :: l2=>List.mem_cons_self
 | y :: l1,l2=>by
  show y :: (l1++x :: l2) ∈ (x :: y :: (l1++l2)) :: (sE x (l1++l2)).map (y :: ·)
  exact al (List.mem_map.mpr ⟨_,ik x l1 l2,rfl⟩)
theorem fD:∀ (m l:List Nat),l.Perm m → l ∈ ka m
 | [],l,h=>by rw [List.perm_nil.mp h];exact List.mem_singleton.mpr rfl
 | x :: m,l,h=>by
  obtain ⟨l1,l2,rfl⟩:=List.append_of_mem (h.mem_iff.mpr List.mem_cons_self)
  have h2:(l1++l2).Perm m:=(List.perm_middle.symm.trans h).cons_inv
  exact List.mem_flatMap.mpr ⟨_,fD m _ h2,ik x l1 l2⟩
noncomputable def lR (l:List Nat) (i j:Nat):Bool:=Nat.blt (l.getD i 0) (l.getD j 0)
noncomputable def Cv (n:Nat) (l:List Nat):Bool:=f7 n (lR l) (kas_sort n) && ((gC (lR l) (kas_sort n)).toList.map fun i=>(Nat.blt i n,l.getD i 0)) == (List.range n).map fun k=>(true,k)
theorem Ch:((List.range 7).all fun n=>Nat.blt n 2 || (ka (List.range n)).all (Cv n)) = true:=by decide +kernel
theorem Di {n:Nat} {l:List Nat} (h2:2 ≤ n) (h6:n ≤ 6) (hp:l.Perm (List.range n)):Cv n l = true:=by
 have h:=List.all_eq_true.mp Ch n (List.mem_range.mpr (by exact aA fun h9=>lN [_] [(1,.l (.k 7) V0),(1,.l V0 (.k 6))] (.c h9 (.c h6 .n))))
 have hb:Nat.blt n 2 = false:=by
  cases e:Nat.blt n 2 with
  | false=>rfl
  | true=>have:=Nat.blt_eq.mp e;exact (lN [_] [(1,.l K2 V0),(1,.t V0 K2)] (.c h2 (.c this .n))).elim
 rw [hb,Bool.false_or] at h
 exact List.all_eq_true.mp h l (fD _ _ hp)
noncomputable def bz (srt:List Bk) (b:Bk):Nat:=srt.findIdx fun c=>c.i == b.i
theorem dc {srt:List Bk} (hs:srt.Pairwise (fun a b=>a.i < b.i)) {k:Nat} {b:Bk} (h:srt[k]? = some b):bz srt b = k:=by
 unfold bz
 obtain ⟨hk,e⟩:=List.getElem?_eq_some_iff.mp h
 rw [List.findIdx_eq hk]
 refine ⟨by rw [e];simp,fun j hj=>?_⟩
 have:=(List.pairwise_iff_getElem.mp hs) j k (by exact aA fun h9=>lN [_,_,_] [(1,.l V0 V1),(1,.t V2 V0),(1,.t V1 V2)] (.c h9 (.c hk (.c hj .n)))) hk hj
 rw [e] at this
 simp only [beq_eq_false_iff_ne,ne_eq]
 exact fun h9=>lN [_,_,0,0,0] [(-1,.e V0 V1),(1,.t V0 V1)] (.c h9 (.c this .n))
theorem fA {srt bl:List Bk} (hp:srt.Perm bl) (hs:srt.Pairwise (fun a b=>a.i < b.i)):(bl.map (bz srt)).Perm (List.range bl.length):=by
 have e:srt.map (bz srt) = List.range bl.length:=by
  apply List.ext_getElem
  ·rw [List.length_map,List.length_range,hp.length_eq]
  ·intro k h1 h2
   rw [List.getElem_map,List.getElem_range]
   exact dc hs (List.getElem?_eq_getElem (by rw [List.length_map] at h1;exact h1))
 rw [← e]
 exact (hp.map _).symm
theorem ud {srt bl:List Bk} (hp:srt.Perm bl) (hs:srt.Pairwise (fun a b=>a.i < b.i)) {i j:Nat} {a b:Bk} (ha:bl[i]? = some a) (hb:bl[j]? = some b) :
  lR (bl.map (bz srt)) i j = decide (a.i < b.i) ∧ (i ≠ j → a.i ≠ b.i):=by
 obtain ⟨x,hx⟩:=List.getElem?_of_mem (hp.mem_iff.mpr (List.mem_of_getElem? ha))
 obtain ⟨y,hy⟩:=List.getElem?_of_mem (hp.mem_iff.mpr (List.mem_of_getElem? hb))
 have e1:=dc hs hx
 have e2:=dc hs hy
 have g1:(bl.map (bz srt)).getD i 0 = x:=by rw [List.getD_eq_getElem?_getD,List.getElem?_map,ha];exact e1
 have g2:(bl.map (bz srt)).getD j 0 = y:=by rw [List.getD_eq_getElem?_getD,List.getElem?_map,hb];exact e2
 obtain ⟨hxl,ex⟩:=List.getElem?_eq_some_iff.mp hx
 obtain ⟨hyl,ey⟩:=List.getElem?_eq_some_iff.mp hy
 have hpw:=List.pairwise_iff_getElem.mp hs
 refine ⟨?_,?_⟩
 ·unfold lR
  rw [g1,g2]
  rcases Nat.lt_trichotomy x y with h | h | h
  ·have:=hpw x y hxl hyl h
   rw [ex,ey] at this
   rw [decide_eq_true this]
   exact Nat.blt_eq.mpr h
  ·subst h
   rw [hx] at hy
   cases hy
   rw [decide_eq_false (by exact fun h9=>lN [_] [(1,.t V0 V0)] (.c h9 .n))]
   cases e:Nat.blt x x with
   | false=>rfl
   | true=>have:=Nat.blt_eq.mp e;exact (lN [_] [(1,.t V0 V0)] (.c this .n)).elim
  ·have:=hpw y x hyl hxl h
   rw [ex,ey] at this
   rw [decide_eq_false (by exact fun h9=>lN [_,_] [(1,.t V0 V1),(1,.t V1 V0)] (.c h9 (.c this .n)))]
   cases e:Nat.blt x y with
   | false=>rfl
   | true=>have:=Nat.blt_eq.mp e;exact (lN [0,_,0,_] [(1,.t V3 V1),(1,.t V1 V3)] (.c h (.c this .n))).elim
 ·intro hij hab
  have hxy:x = y:=by
   rw [← e1,← e2]
   unfold bz
   rw [hab]
  have hnd:(bl.map (bz srt)).Nodup:=(fA hp hs).nodup_iff.mpr List.nodup_range
  have hi:=(List.getElem?_eq_some_iff.mp ha).1
  have hj:=(List.getElem?_eq_some_iff.mp hb).1
  have:(bl.map (bz srt))[i]'(by rw [List.length_map];exact hi) = (bl.map (bz srt))[j]'(by rw [List.length_map];exact hj):=by
   rw [List.getElem_map,List.getElem_map,(List.getElem?_eq_some_iff.mp ha).2,(List.getElem?_eq_some_iff.mp hb).2,e1,e2,hxy]
  exact hij ((List.getElem_inj hnd).mp this)
theorem Bd {srt bl:List Bk} (hp:srt.Perm bl) (hs:srt.Pairwise (fun a b=>a.i < b.i)) (h2:2 ≤ bl.length) (h6:bl.length ≤ 6) {At:List (Addr × Obj) → Value → Bk → Prop} {led:List (Addr × Obj)} {vs:List Value} (hv:bL At led vs bl) :
  f7 bl.length (lR (bl.map (bz srt))) (kas_sort bl.length) = true ∧ bL At led ((gC (lR (bl.map (bz srt))) (kas_sort bl.length)).toList.map fun i=>vs.getD i Value.none) srt:=by
 have h:=Di h2 h6 (fA hp hs)
 unfold Cv at h
 rw [Bool.and_eq_true,beq_iff_eq] at h
 obtain ⟨hg,he⟩:=h
 refine ⟨hg,?_⟩
 generalize (gC (lR (bl.map (bz srt))) (kas_sort bl.length)).toList = p at he
 have hl:p.length = bl.length:=by have:=congrArg List.length he;rwa [List.length_map,List.length_map,List.length_range] at this
 refine ⟨by rw [List.length_map,hl,hp.length_eq],fun k v hk=>?_⟩
 rw [List.getElem?_map] at hk
 obtain ⟨i,hi,rfl⟩:=Option.map_eq_some_iff.mp hk
 have hkl:=(List.getElem?_eq_some_iff.mp hi).1
 have e:=congrArg (fun l=>l[k]?) he
 simp only [List.getElem?_map,hi,Option.map_some,List.getElem?_range (show k < bl.length by exact aA fun h9=>lN [_,_,_] [(1,.l V0 V1),(1,.e V2 V0),(1,.t V1 V2)] (.c h9 (.c hl (.c hkl .n))))] at e
 have e1:=congrArg Prod.fst (Option.some.inj e)
 have e2:=congrArg Prod.snd (Option.some.inj e)
 dsimp only at e1 e2
 have hin:=Nat.blt_eq.mp e1
 have hb:bl[i]? = some bl[i]:=List.getElem?_eq_getElem hin
 have hvi:vs[i]? = some (vs[i]'(by rw [hv.1];exact hin)):=List.getElem?_eq_getElem _
 obtain ⟨b',hb',hat⟩:=hv.2 i _ hvi
 rw [hb] at hb'
 cases hb'
 obtain ⟨x,hx⟩:=List.getElem?_of_mem (hp.mem_iff.mpr (List.mem_of_getElem? hb))
 have ex:=dc hs hx
 have exk:x = k:=by
  rw [List.getD_eq_getElem?_getD,List.getElem?_map,hb] at e2
  rw [← ex];exact e2
 refine ⟨bl[i],exk ▸ hx,?_⟩
 rw [List.getD_eq_getElem?_getD,hvi]
 exact hat
end
section
theorem ii {d:Addr} {o o':Obj}:∀ {l:List (Addr × Obj)} {g:Obj → List (Addr × Obj)},UpdF d o l g → UpdF d o' (g o') g
 | _,_,.head h=>.head h
 | _,_,.tail h r=>.tail h (ii r)
section
variable {w:World} {A:Around} {E:Value → Shared → Prop} {s:Shared} {h₀:Heap} {L D:Addr} {m:PySem.Str → Option Value} {news objs:List (Addr × Obj)} {mv:List Value} {n:Nat} {g:Obj → List (Addr × Obj)} {bl srt:List Bk}
theorem DA {prog:Program} {vs:List Value} {Q:Value → Shared → Prop} (F:Fr h₀ L s.heap m) (N:News h₀ L s.heap news) (U:UpdF D (listOf vs.toArray n) news g) (h2:vs.length < 2)
  (h:∀ h' c,Fr h₀ L h' m → News h₀ L h' (g (listOf vs.toArray c)) → Q .none { s with heap:=h' }):wpAny (model prog w) A (call (.builtin "list.sort") [.ref D]) Q E s:=by
 obtain ⟨pre,post,e0,hg,x1,x2⟩:=U.split
 rw [e0] at N
 have nz:=N (D,listOf vs.toArray n) (ac (.head _))
 have ho:s.heap.get? D = some (seqObj "list" vs.toArray n):=nz.1
 have ha:D < s.heap.objs.size:=Heap.lt_size ho
 refine wpAny_call_entry slot_list_sort ⟨_,nz.1,rfl⟩ entry_list_sort ?_ (args_list_sort _)
 rw [list_sort_plain]
 refine wpAny_bind (listItems_at ho rfl ?_)
 refine wpAny_bind (listUpdate_at ho rfl ?_ (by rw [List.size_toArray,sizeLine_eq];exact ae fun h9=>lN [_] [(1,.t (.k 16777216) V0),(1,.t V0 K2)] (.c h9 (.c h2 .n))))
 obtain ⟨e1,ho1⟩:∃ e1,(s.heap.update D (Obj.mapSeq fun _=>#[])).get? D = some (seqObj "list" #[] e1):=⟨_,get?_update_seq ho (fun _=>#[])⟩
 refine wpAny_bind (seqEpoch_at ho1 rfl ?_)
 refine wpAny_bind (wpAny_newTuple ?_ (Nat.le_trans (show _ ≤ 2 by (try rw [List.size_toArray]);(try rw [List.toList_toArray]);exact ae fun h9=>lN [_] [(1,.t K2 V0),(1,.t V0 K2)] (.c h9 (.c h2 .n))) (by rw [sizeLine_eq];decide)))
 refine wpAny_bind (wpAny_newList ?_)
 refine wpAny_holding ?_
 have hlt2:D < ((s.heap.update D (Obj.mapSeq fun _=>#[])).push (seqObj "tuple" vs.toArray 0)).objs.size:=by rw [size_push',Heap.size_update];exact Nat.lt_succ_of_lt ha
 have hlt1:D < (s.heap.update D (Obj.mapSeq fun _=>#[])).objs.size:=by rw [Heap.size_update];exact ha
 have ho6:(((s.heap.update D (Obj.mapSeq fun _=>#[])).push (seqObj "tuple" vs.toArray 0)).push (seqObj "list" #[] 0)).get? D = some (seqObj "list" #[] e1):=by
  rw [Heap.get?_push_ne _ _ _ (Nat.ne_of_lt hlt2),Heap.get?_push_ne _ _ _ (Nat.ne_of_lt hlt1)]
  exact ho1
 rw [if_pos (show vs.toArray.size < 2 by rw [List.size_toArray];exact h2),if_pos (show vs.toArray.size < 2 by rw [List.size_toArray];exact h2)]
 refine wpAny_bind (wpAny_pure ?_)
 dsimp only
 rw [StateT.run_pure]
 refine wpAny_bind (wpAny_pure ?_)
 dsimp only
 refine wpAny_bind (seqEpoch_at ho6 rfl ?_)
 have hsz:((vs.toArray.zip vs.toArray).map (·.2)).size ≤ sizeLine:=by rw [sizeLine_eq];simp;exact ae fun h9=>lN [_] [(1,.t (.k 16777216) V0),(1,.t V0 K2)] (.c h9 (.c h2 .n))
 refine wpAny_bind (listUpdate_at ho6 rfl ?_ (Nat.zero_le _) (Nat.le_trans hsz (Nat.le_succ _)))
 simp only [bne_self_eq_false,Bool.false_eq_true,if_false]
 refine wpAny_pure ⟨.none,rfl,?_⟩
 have hz:(vs.toArray.zip vs.toArray).map (·.2) = vs.toArray:=by
  apply Array.toList_inj.mp
  rw [Array.toList_map,Array.toList_zip]
  exact List.map_snd_zip (Nat.le_refl _)
 have s2:=Heap.SameBut.update s.heap D (Obj.mapSeq fun _=>(#[]:Array Value))
 have F2:=((kas_fr F s2 nz.2.1 nz.2.2).push (seqObj "tuple" vs.toArray 0)).push (seqObj "list" #[] 0)
 have hpp:∀ p ∈ pre++post,p.1 ≠ D:=fun p hp=>(aH hp).elim (x1 p) (x2 p)
 have N2:News h₀ L (((s.heap.update D (Obj.mapSeq fun _=>(#[]:Array Value))).push (seqObj "tuple" vs.toArray 0)).push (seqObj "list" #[] 0)) (pre++post):=by
  refine (kas_news (fun p hp=>N p ?_) s2 hpp).grown fun b x e=>Heap.get?_push_of_some _ (Heap.get?_push_of_some _ e)
  rcases aH hp with hp | hp
  ·exact aj hp
  ·exact ac (.tail _ hp)
 have s3:=Heap.SameBut.update (((s.heap.update D (Obj.mapSeq fun _=>(#[]:Array Value))).push (seqObj "tuple" vs.toArray 0)).push (seqObj "list" #[] 0)) D (Obj.mapSeq fun _=>(vs.toArray.zip vs.toArray).map (·.2))
 obtain ⟨c,hc⟩:∃ c,((((s.heap.update D (Obj.mapSeq fun _=>(#[]:Array Value))).push (seqObj "tuple" vs.toArray 0)).push (seqObj "list" #[] 0)).update D (Obj.mapSeq fun _=>(vs.toArray.zip vs.toArray).map (·.2))).get? D = some (seqObj "list" vs.toArray c):=by
  have hq:=get?_update_seq ho6 (fun _=>(vs.toArray.zip vs.toArray).map (·.2))
  exact ⟨_,hq.trans (congrArg (fun z=>some (seqObj "list" z _)) hz)⟩
 refine h _ c (kas_fr F2 s3 nz.2.1 nz.2.2) ?_
 rw [hg]
 intro p hp
 rcases aH hp with hp | hp
 ·exact kas_news N2 s3 hpp p (aj hp)
 ·rcases ag hp with rfl | hp
  ·exact ⟨hc,nz.2.1,nz.2.2⟩
  ·exact kas_news N2 s3 hpp p (ac hp)
theorem tQ {Q:Bool → Shared → Prop} {i j k i' j' k':Int} {t u v t' u' v':Nat} {T d T' d':Addr} (hu:A.units < cLine)
 (X:(K w.params).In s.heap) (h1:s.heap.get? T = some (ca i j k t u v d)) (h2:s.heap.get? T' = some (ca i' j' k' t' u' v' d'))
 (hne:i ≠ i') (hQ:Q (decide (i < i')) s) :
 wpAny (model rW.row.prog w) A (keyLt' oneType' (.ref T) (.ref T')) Q E s:=by
 rw [keyLt'_oneType,oneLt'_eq]
 simp only [if_true]
 refine wpAny_bind (wpAny_cRoomFor hu ?_)
 have t1:Looks (model rW.row.prog w) s.heap (typeOf (.ref T)) (.ref 135):=(Looks.ld h1).andThen .now
 have f1:=looks_findIn (M:=model rW.row.prog w) X (DG w.params).lt
 have b1:Looks (model rW.row.prog w) s.heap (bindSpecial (.builtin "tuple.__lt__") (.ref T)) (.builtin "tuple.__lt__",[.ref T]):=Looks.of_pure (PySem.F.slot_tuple_lt.bind _)
 have fin:wpAny (model rW.row.prog w) A (callSpecialIfBound? (.ref T) "__lt__" [.ref T']) (fun r s'=>r = some (.bool (decide (i < i'))) ∧ s' = s) E s:=by
  simp only [callSpecialIfBound?,bindSpecialIfBound?]
  refine wpAny_holding (wpAny_bind (wpAny_bind (wpAny_bind (t1.here (f1.here ?_)))))
  refine wpAny_bind (wpAny_askSetting (wpAny_ite ?_))
  have c1:wpAny (model rW.row.prog w) A (call (.builtin "tuple.__lt__") ([.ref T]++[.ref T']) >>= fun v=>pure (some v)) (fun r s'=>r = some (.bool (decide (i < i'))) ∧ s' = s) E s :=
   wpAny_bind (BV X h1 h2 hne (wpAny_pure ⟨rfl,rfl⟩))
  split
  ·exact wpAny_bind (b1.here (wpAny_pure (by exact c1)))
  ·exact wpAny_tryCatch (wpAny_bind (b1.here (wpAny_pure (by exact c1))))
 refine wpAny_bind (wpAny_mono fin (fun r s' hr=>?_) fun _ _ x=>x)
 obtain ⟨rfl,rfl⟩:=hr
 exact wpAny_truthy_bool hQ
theorem wX {Q:Value → Shared → Prop} (F:Fr h₀ L s.heap m) (N:News h₀ L s.heap news) (X:(K w.params).In h₀) (U:UpdF D (listOf mv.toArray n) news g) (hv:bL ef objs mv bl) (hsub:∀ o,∀ p ∈ objs,p ∈ g o)
  (hp:srt.Perm bl) (hs:srt.Pairwise (fun a b=>a.i < b.i)) (h6:bl.length ≤ 6) (hu:A.units + 8 < cLine)
  (h:∀ h' c mv',Fr h₀ L h' m → News h₀ L h' (g (listOf mv'.toArray c)) → bL ef objs mv' srt → Q .none { s with heap:=h' }) :
  wpAny (model rW.row.prog w) A (call (.builtin "list.sort") [.ref D]) Q E s:=by
 have hl:=hv.1
 by_cases h2:mv.length < 2
 ·refine DA F N U h2 fun h' c F' N'=>h h' c mv F' N' ?_
  have e:srt = bl:=by
   match srt,bl,hp,hl with
   | [],bl,hp,_=>exact (List.nil_perm.mp hp).symm
   | [a],bl,hp,_=>exact (List.singleton_perm.mp hp)
   | a :: b :: r,bl,hp,hl=>have:=hp.length_eq;simp at this;exact (lN [_,_,_,0,0] [(1,.t V0 K2),(-1,.e V0 V1),(1,.e (.a (.a V2 K1) K1) V1)] (.c h2 (.c hl (.c this .n)))).elim
  rw [e];exact hv
 ·obtain ⟨hg,ho⟩:=Bd hp hs (by exact ae fun h9=>lN [_,_] [(1,.t V0 K2),(1,.e V1 V0),(1,.nt V1 K2)] (.c h9 (.c hl (.c h2 .n)))) h6 hv
  have hin:∀ {h:Heap} {e1:Nat},News h₀ L h (g (seqObj "list" #[] e1)) → ∀ i,i < bl.length → ∃ b T d t1 t2 t3,bl[i]? = some b ∧ mv.getD i Value.none = .ref T ∧ h.get? T = some (ca (b.i:Int) (b.j:Int) (b.k:Int) t1 t2 t3 d):=by
   intro h e1 N' i hi
   have hvi:mv[i]? = some (mv[i]'(by rw [hl];exact hi)):=List.getElem?_eq_getElem _
   obtain ⟨b,hb,T,d,t1,t2,t3,e,hm⟩:=hv.2 i _ hvi
   refine ⟨b,T,d,t1,t2,t3,hb,?_,(N' _ (hsub _ _ hm)).1⟩
   rw [List.getD_eq_getElem?_getD,hvi];exact e
  refine kas_lsort (T:=.ref 135) F N U (by rw [List.toList_toArray]) (by exact ae fun h9=>lN [_,0] [(1,.t V0 K2),(1,.nt V0 K2)] (.c h9 (.c h2 .n))) (by exact aA fun h9=>lN [_,_] [(1,.l (.k 64) V0),(1,.l V1 (.k 6)),(1,.e V0 V1)] (.c h9 (.c h6 (.c hl .n)))) ?hT rfl ?hh
  case hT =>
   intro e1 h' F' N' v hvm
   obtain ⟨i,hi⟩:=List.getElem?_of_mem hvm
   have hil:=(List.getElem?_eq_some_iff.mp hi).1
   obtain ⟨b,T,d,t1,t2,t3,_,e,hm⟩:=hin N' i (by exact aA fun h9=>lN [_,_,_] [(1,.l V0 V1),(1,.e V2 V0),(1,.t V1 V2)] (.c h9 (.c hl (.c hil .n))))
   rw [List.getD_eq_getElem?_getD,hi] at e
   have e':v = .ref T:=e
   rw [e']
   exact (Looks.ld hm).andThen .now
  case hh =>
   intro e1 h' F' N'
   rw [hl]
   refine Am (n:=bl.length) (lt:=lR (bl.map (bz srt))) ?_ _ hg ?_
   ·intro i j C hi hj hij hC
    obtain ⟨b1,T1,d1,p1,p2,p3,hb1,e1',hm1⟩:=hin N' i hi
    obtain ⟨b2,T2,d2,q1,q2,q3,hb2,e2',hm2⟩:=hin N' j hj
    obtain ⟨hlt,hne⟩:=ud hp hs hb1 hb2
    unfold kas_ask
    rw [e1',e2']
    refine tQ (by (try simp only [units_in1,Around.in1_units]);exact aA fun h9=>lN [_,_] [(1,.l V0 (.a V1 K1)),(1,.t (.a V1 (.k 8)) V0)] (.c h9 (.c hu .n))) (X.keeps F'.keep) hm1 hm2 (by have:=hne hij;omega) ?_
    rw [hlt] at hC
    rw [show decide ((b1.i:Int) < (b2.i:Int)) = decide (b1.i < b2.i) by simp]
    exact hC
   ·exact KasFin.intro F' N' (ii U) fun h'' c F'' N''=>h h'' c _ F'' N'' ho
end
end
section
theorem vj {w:World} {A:Around} {E:Value → Shared → Prop} {s:Shared} {Q:Value → Shared → Prop} {i j k:Int} {t u v:Nat} {T d:Addr} (X9:(K w.params).In s.heap) (h1:s.heap.get? T = some (ca i j k t u v d))
 (hQ:∀ t9 tk9,Q (.int 3 t9) { s with toks:=tk9 }):wpAny (model rW.row.prog w) A (call (.builtin "len") [.ref T]) Q E s:=by
 let o:=some (ca i j k t u v d)
 exact oZ (.int 3 (s.toks + 1)) { s with toks:=s.toks + 2 } [o,none,none,none,o,none,o] [Builtin.len,Builtin.«tuple.__len__»] (az entry_len (az h1 (az h1 (az entry_tuple_len (az h1 dX))))) (fun _=>by kernel_rfl) X9 (hQ _ _)
theorem zW (w:World) (led:List (Addr × Obj)) (q T:Addr) (i j k:Int) (t u v:Nat) (hq:(q,methodObj (.ref 89) (.ref 135)) ∈ led) (hT:(T,bo [.int i t,.int j u,.int k v]) ∈ led) :
  Sp w q 4 [.ref T] led (kH (fun p:Addr × Addr=>.ref p.1) (fun p=>gY p i j k t u v) (fun p=>vO p led)):=by
 delta Sp;k_fill;intros;rename_i hret
 refine' call_meth ?k1 ?k2 ?_;(case k1=>k_asm);(case k2=>assumption)
 (k_dflt (refine' dQ [(Str.ofString "cls",Value.ref 135),(Str.ofString "iterable",Value.ref T)] ?k1 ?k2 ?k3 ?k4 ?k5 ?kA ?kF ?kK ?k6 ?k7 ?k8 ?k9 ?kB ?_ ?c2 ?c3 ?c4 ?c5;(case kA=>exact rfl);(case kF=>exact rfl);(case kK=>first | exact rfl | assumption);(case k1=>k_asm);(case k2=>k_asm);(case k3=>k_asm);(case k4=>k_asm);(case k5=>k_asm);(case k6=>k_is);(case k7=>k_is);(case k8=>((try simp (config:={zetaDelta:=true}) only [depth_under_make,depth_under_kw,depth_in1,depth_deeper,depth_caller,units_in1,units_deeper,Around.mark_units,units_caller,Around.in1_depth,Around.in1_units,Around.deeper_units] at *);(try dsimp only [ktrTop] at *);have hcL9:=cLine_is;(simp only [recursionLimit] at *);omega));(case k9=>first | exact BindsTo.of_eq rfl | exact binds_K (by k_in) rfl (by k_is) rfl rfl rfl);(case c5=>decide);(case kB=>exact locs rfl);(case c2=>exact rfl);(case c3=>exact rfl);(case c4=>exact rfl);k_whole;intro g' L' h' tk' FG' F' N' B' X' T';(try dsimp only);(try k_lift B');(refine B5 ?_;intro v9 A9);(try k_fold)))
 k_steps
 refine' method_type ?F ?X ?k1 ?k2 ?k3 ?k4 ?_
 case F=>k_asm
 case X=>k_asm
 case k1=>exact (by first | rfl | kernel_rfl)
 case k2=>decide +kernel
 case k3=>first | k_is | rfl
 case k4=>first | rfl | decide +kernel
 k_steps
 refine' DU ?F ?N ?X ?T ?_
 case F=>k_asm
 case N=>k_asm
 case X=>k_in
 case T=>((repeat (first | with_reducible exact List.mem_cons_self | refine al ?_));(try first | with_reducible assumption | (refine aj ?_;with_reducible assumption) | (refine ac ?_;with_reducible assumption)))
 intro q2 d hm FM NM ME
 (try k_fold)
 k_steps
 refine' vj ?X ?N ?_
 case X=>k_in
 case N=>exact News.get (by k_asm) (by ((repeat (first | with_reducible exact List.mem_cons_self | refine al ?_));(try first | with_reducible assumption | (refine aj ?_;with_reducible assumption) | (refine ac ?_;with_reducible assumption))))
 intro _ _
 k_steps
 rename Fr _ _ _ _=>kF
 rename News _ _ _ _=>kN
 exact hret _ (gY (q2,d) i j k t u v) _ _ kF kN ⟨(q2,d),rfl,rfl,ME⟩
end
section
structure Ef (T:String):Prop where
 noLen:typeLookup (.type T) "__len__" = pure none
 noHint:typeLookup (.type T) "__length_hint__" = pure none
 nl:(Value.type T == Value.type "list") = false
 nt:(Value.type T == Value.type "tuple") = false
structure Ev (prog:Program) (w:World) (A:Around) (h₀:Heap) (L:Addr) (m:PySem.Str → Option Value) (s:Shared) (I S:Addr) (T:String) (n:Nat) (J:Nat → List Value → Array GenState → List (Addr × Obj) → Prop) (Q E:Value → Shared → Prop):Prop where
 it:∀ i acc g nx,J i acc g nx → ∃ oI,(I,oI) ∈ nx ∧ oI.cls = .type T
 self:∀ (s':Shared) (Q':Value → Shared → Prop),s'.TypeIs (.ref I) T → Q' (.ref I) s' → wpAny (model prog w) A (pyIter (.ref I)) Q' E s'
 step:∀ i acc g nx h tk c (Q':Option Value → Shared → Prop),i < n → J i acc g nx → Fr h₀ L h m → News h₀ L h ((S,listOf acc.toArray c) :: nx) → (∀ p ∈ nx,p.1 ≠ S) →
  (∀ v h' g' tk' nx',Fr h₀ L h' m → News h₀ L h' ((S,listOf acc.toArray c) :: nx') → (∀ p ∈ nx',p.1 ≠ S) → J (i + 1) (acc++[v]) g' nx' → Q' (some v) { s with heap:=h',gens:=g',toks:=tk' }) → wpAny (model prog w) A (pyNext (.ref I)) Q' E { s with heap:=h,gens:=g,toks:=tk }
 done:∀ acc g nx h tk c (Q':Option Value → Shared → Prop),J n acc g nx → Fr h₀ L h m → News h₀ L h ((S,listOf acc.toArray c) :: nx) → (∀ p ∈ nx,p.1 ≠ S) → (∀ s'',Q (.ref S) s'' → Q' none s'') →
  wpAny (model prog w) A (pyNext (.ref I)) Q' E { s with heap:=h,gens:=g,toks:=tk }
section
variable {prog:Program} {w:World} {A:Around} {E:Value → Shared → Prop} {s:Shared} {h₀:Heap} {L I:Addr} {m:PySem.Str → Option Value} {news:List (Addr × Obj)}
theorem yC {n:Nat} {S:Addr} {J:Nat → List Value → Array GenState → List (Addr × Obj) → Prop} {Q:Value → Shared → Prop} {T:String} (W:Ev prog w A.in1 h₀ L m s I S T n J Q E) (hn:n ≤ sizeLine) :
  ∀ (k i:Nat) (acc:List Value) (g:Array GenState) (nx:List (Addr × Obj)) (h:Heap) (tk c:Nat),n - i = k → i ≤ n → acc.length = i → J i acc g nx → Fr h₀ L h m → News h₀ L h ((S,listOf acc.toArray c) :: nx) → (∀ p ∈ nx,p.1 ≠ S) →
  codeAny (model prog w) A (.builtin "list.extend.loop" ⟨[.ref S,.ref I,.none],[]⟩) (fun r s'=>match r with | .ok (.ret v)=>v = .none ∧ Q (.ref S) s' | .ok _=>False | .error e=>E e s') { s with heap:=h,gens:=g,toks:=tk }:=by
 intro k
 induction k with
 | zero =>
  intro i acc g nx h tk c hk hi hl hJ F N off
  have hin:i = n:=by omega
  subst hin
  refine codeAny_builtin PySem.F.entry_extend_loop ?_
  rw [Around.under_plainId PySem.F.plain_extend_loop _]
  show wpAny _ A.in1 (pyNext (.ref I) >>= _) _ _ _
  exact wpAny_bind (W.done acc g nx h tk c _ hJ F N off fun s' hq=>wpAny_pure ⟨rfl,hq⟩)
 | succ k ih =>
  intro i acc g nx h tk c hk hi hl hJ F N off
  have hlt:i < n:=by omega
  refine codeAny_builtin PySem.F.entry_extend_loop ?_
  rw [Around.under_plainId PySem.F.plain_extend_loop _]
  show wpAny _ A.in1 (pyNext (.ref I) >>= _) _ _ _
  refine wpAny_bind (W.step i acc g nx h tk c _ hlt hJ F N off fun v h' g' tk' nx' F' N' off' hJ'=>?_)
  have nz:=N' _ List.mem_cons_self
  dsimp only at nz
  show wpAny _ A.in1 (updateSeq S (·.push v) >>= _) _ _ _
  refine wpAny_bind (wpAny_updateSeq nz.1 rfl (wpAny_pure ⟨plainId_quiet PySem.F.plain_extend_loop _,?_⟩) (by rw [List.size_toArray];omega) (by show (acc.toArray.push v).size ≤ sizeLine + 1;rw [Array.size_push,List.size_toArray];omega))
  have hS:=Heap.SameBut.update h' S (Obj.mapSeq (·.push v))
  obtain ⟨c',hc'⟩:∃ c',(h'.update S (Obj.mapSeq (·.push v))).get? S = some (listOf (acc++[v]).toArray c'):=by
   have hq:=get?_update_seq nz.1 (·.push v)
   rw [List.push_toArray] at hq
   exact ⟨_,hq⟩
  refine ih (i + 1) (acc++[v]) g' nx' _ tk' c' (by omega) hlt (by rw [List.length_append,hl];rfl) hJ' (kas_fr F' hS nz.2.1 nz.2.2) ?_ off'
  intro p hp
  rcases ag hp with rfl | hp
  ·exact ⟨hc',nz.2⟩
  ·exact kas_news (df N') hS off' p hp
theorem eh {T:String} {n:Nat} {oI:Obj} {Q:Value → Shared → Prop} (hIT:Ef T) (F:Fr h₀ L s.heap m) (N:News h₀ L s.heap news) (hI:(I,oI) ∈ news) (hc:oI.cls = .type T) (hn:n ≤ sizeLine) (W:∀ S,(∀ p ∈ news,p.1 ≠ S) → S ≠ L → h₀.get? S = none → ∃ J,J 0 [] s.gens news ∧ Ev prog w A.in1.in1 h₀ L m s I S T n J Q E):wpAny (model prog w) A (call (.type "list") [.ref I]) Q E s:=by
 have nI:=N _ hI
 refine callType_codes (Q₁:=fun obj s₁=>obj = .ref s.heap.objs.size ∧ s₁ = { s with heap:=s.heap.push { cls:=.type "list",data:=.seq #[] } }) PySem.F.called_list (PySem.F.typeCall_list_1 _) PySem.F.entry_list_init
  (code_list_new _ ⟨rfl,rfl⟩) fun obj s₁ h₁=>?_
 obtain ⟨rfl,rfl⟩:=h₁
 have hS1:(s.heap.push { cls:=.type "list",data:=.seq #[] }).get? s.heap.objs.size = some (listOf [].toArray 0):=Heap.get?_push_size _ rfl
 have F1:=F.push { cls:=.type "list",data:=.seq #[] }
 have hSL:s.heap.objs.size ≠ L:=Nat.ne_of_gt F.ns.lt
 have hS0:h₀.get? s.heap.objs.size = none:=next_is_new F
 have off:∀ p ∈ news,p.1 ≠ s.heap.objs.size:=fun p hp=>Nat.ne_of_lt (Heap.lt_size (N p hp).1)
 have N1:News h₀ L (s.heap.push { cls:=.type "list",data:=.seq #[] }) news:=N.grown fun b o e=>Heap.get?_push_of_some _ e
 refine ⟨⟨_,hS1,rfl⟩,PySem.F.args_list_init_2 _ _,?_⟩
 obtain ⟨J,h0,W⟩:=W s.heap.objs.size off hSL hS0
 generalize s.heap.push { cls:=.type "list",data:=.seq #[] } = h1 at *
 generalize s.heap.objs.size = S at *
 show wpAny _ A.in1.in1 (do let old ← Builtin.List.listItems (.ref S);Builtin.List.listUpdate (.ref S) (fun _=>#[]);letGo old.toList.reverse;Builtin.List.listExtendWith (.ref S) (.ref I) .none) _ _ _
 refine wpAny_bind ?_
 unfold Builtin.List.listItems
 refine wpAny_bind (wpAny_seqItems hS1 rfl (wpAny_pure ?_))
 show wpAny _ A.in1.in1 (updateSeq S (fun _=>#[]) >>= fun _=>letGo (#[]:Array Value).toList.reverse >>= fun _=>Builtin.List.listExtendWith (.ref S) (.ref I) .none) _ _ _
 refine wpAny_bind (wpAny_updateSeq hS1 rfl ?_)
 obtain ⟨c2,hS2⟩:∃ c,(h1.update S (Obj.mapSeq (fun _=>(#[]:Array Value)))).get? S = some (listOf [].toArray c):=⟨_,get?_update_seq hS1 (fun _=>#[])⟩
 have k2:=Heap.SameBut.update h1 S (Obj.mapSeq (fun _=>(#[]:Array Value)))
 have F2:=kas_fr F1 k2 hSL hS0
 have N2:=kas_news N1 k2 off
 generalize h1.update S (Obj.mapSeq (fun _=>(#[]:Array Value))) = h2 at *
 refine wpAny_bind (wpAny_letGo ?_)
 have hT2:({ s with heap:=h2 }:Shared).TypeIs (.ref I) T:=⟨oI,(N2 _ hI).1,hc⟩
 unfold Builtin.List.listExtendWith
 refine wpAny_bind (wpAny_typeOf hT2 ?_)
 have h1':Builtin.List.listSameRef (.ref S) (.ref I) = false:=by simp [Builtin.List.listSameRef,(off _ hI).symm]
 simp only [h1',hIT.nl,hIT.nt,Bool.or_false,Bool.false_eq_true,if_false]
 refine wpAny_bind (W.self _ _ hT2 ?_)
 refine wpAny_bind (wpAny_holding ?_)
 unfold Builtin.List.listLengthHint
 refine wpAny_bind (wpAny_specialOf hT2 hIT.noLen ?_)
 show wpAny _ _ (specialOf (Value.ref I) (Str.ofString "__length_hint__") >>= _) _ _ _
 refine wpAny_bind (wpAny_specialOf hT2 hIT.noHint ?_)
 refine wpAny_pure ?_
 show wpAny _ _ (rule "list.extend.makes-room" >>= fun _=>Builtin.List.listTouch (.ref S) >>= fun _ =>
  again (.builtin "list.extend.loop" ⟨[.ref S,.ref I,.none],[]⟩)) _ _ _
 refine wpAny_bind (wpAny_rule ?_)
 refine wpAny_bind ?_
 show wpAny _ _ (updateSeq S (·.push .none) >>= fun _=>updateSeq S (·.pop)) _ _ _
 refine wpAny_bind (wpAny_updateSeq hS2 rfl ?_)
 obtain ⟨c3,hS3⟩:∃ c,(h2.update S (Obj.mapSeq (·.push Value.none))).get? S = some (listOf [Value.none].toArray c):=⟨_,get?_update_seq hS2 (·.push Value.none)⟩
 have k3:=Heap.SameBut.update h2 S (Obj.mapSeq (·.push Value.none))
 have F3:=kas_fr F2 k3 hSL hS0
 have N3:=kas_news N2 k3 off
 generalize h2.update S (Obj.mapSeq (·.push Value.none)) = h3 at *
 refine wpAny_updateSeq (hz:=by seq_fits) hS3 rfl ?_
 obtain ⟨c4,hS4⟩:∃ c,(h3.update S (Obj.mapSeq (·.pop))).get? S = some (listOf [].toArray c):=⟨_,get?_update_seq hS3 (·.pop)⟩
 have k4:=Heap.SameBut.update h3 S (Obj.mapSeq (·.pop))
 have F4:=kas_fr F3 k4 hSL hS0
 have N4:=kas_news N3 k4 off
 generalize h3.update S (Obj.mapSeq (·.pop)) = h4 at *
 refine wpAny_pure ⟨plainId_quiet PySem.F.plain_extend_loop _,?_⟩
 refine codeAny_mono (yC W hn n 0 [] s.gens news h4 s.toks c4 rfl (Nat.zero_le _) rfl h0 F4 ?_ off) fun r s' hr=>?_
 ·intro p hp
  rcases ag hp with rfl | hp
  ·exact ⟨hS4,hSL,hS0⟩
  ·exact N4 p hp
 ·cases r with
  | error e=>exact hr
  | ok f =>
   cases f with
   | ret v=>exact ⟨hr.1,hr.2⟩
   | _=>exact hr.elim
theorem uf {T:String} {n:Nat} {oI:Obj} {Q:Value → Shared → Prop} (hIT:Ef T) (F:Fr h₀ L s.heap m) (N:News h₀ L s.heap news) (hI:(I,oI) ∈ news) (hc:oI.cls = .type T) (hn:n ≤ sizeLine) (J:Nat → List Value → Array GenState → List (Addr × Obj) → Prop)
  (h0:J 0 [] s.gens news) (W:∀ S,(∀ p ∈ news,p.1 ≠ S) → Ev prog w A.in1.in1 h₀ L m s I S T n J Q E):wpAny (model prog w) A (call (.type "list") [.ref I]) Q E s :=
 eh hIT F N hI hc hn fun S off _ _=>⟨J,h0,W S off⟩
end
end
section
theorem hZ:entryFor table "map.__new__" = some Builtin.«map.__new__»:=entryFor_of_tree (by kernel_rfl)
noncomputable abbrev mM (D i:Nat):Obj:={ cls:=.type "list_iterator",data:=.fields #[.ref D,.int (i:Int) 0] }
noncomputable abbrev eT (T q:Addr):Obj:={ cls:=.type "map",data:=.fields #[.ref T,.ref q] }
theorem Cc {prog:Program} {w:World} {A:Around} {E:Value → Shared → Prop} {s:Shared} {Q:Value → Shared → Prop} {q D:Addr} {its:Array Value} {n:Nat} (h2:s.heap.get? D = some { cls:=.type "list",data:=.seq its n })
 (hQ:let h1:=s.heap.push (mM D 0);let h2:=h1.push (bo [.ref s.heap.objs.size]);Q (.ref h2.objs.size) { s with heap:=h2.push (eT h1.objs.size q) }) :
 wpAny (model prog w) A (call (.type "map") [.ref q,.ref D]) Q E s:=by
 have n1:(s.heap.push (mM D 0)).get? s.heap.objs.size = some (mM D 0):=Heap.get?_push_size _ rfl
 let h2':=(s.heap.push (mM D 0)).push (bo [.ref s.heap.objs.size])
 have n3:(h2'.push (eT (s.heap.push (mM D 0)).objs.size q)).get? h2'.objs.size = some (eT (s.heap.push (mM D 0)).objs.size q):=Heap.get?_push_size _ rfl
 let o:=some (Obj.mk (.type "list") none (.seq its n) #[])
 let o':=some (eT (s.heap.push (mM D 0)).objs.size q)
 exact uj _ _ "special-get-raises" [o,o,o,some (mM D 0),o',o',o',o'] [Builtin.«type.__call__»,Builtin.«map.__new__»,Builtin.«list.__iter__»,Builtin.«object.__init__»]
  (az PySem.F.entry_type_call (az hZ (az h2 (az h2 (az h2 (az entry_list_iter (az n1 (az n3 (az n3 (az n3 (az PySem.F.entry_object_init (az n3 dX)))))))))))) (fun b _=>by cases b <;> kernel_rfl) (F:=[]) (fun _ _ e=>nomatch e) hQ
theorem iG:Manifest.owners.lookup (String.ofList ['p','a','m'].reverse) = some Manifest.sig_map:=by kernel_rfl
theorem bu:Slot "map" "__next__" "map.__next__" :=
 .of (owner := "map") (n := "__next__") (by rw [typeLookup_type,builtinLookup_eq_fast];kernel_rfl) (by decide +kernel) (by decide +kernel) (by decide +kernel)
  (by first | exact .inl (by decide +kernel) | exact .inr (by decide +kernel)) (by rw [isSubtype_type];kernel_rfl)
theorem dZ:Slot "map" "__iter__" "map.__iter__" :=
 .of (owner := "map") (n := "__iter__") (by rw [typeLookup_type,builtinLookup_eq_fast];kernel_rfl) (by decide +kernel) (by decide +kernel) (by decide +kernel)
  (by first | exact .inl (by decide +kernel) | exact .inr (by decide +kernel)) (by rw [isSubtype_type];kernel_rfl)
theorem dy:entryFor table "map.__next__" = some Builtin.«map.__next__»:=entryFor_of_tree (by kernel_rfl)
theorem gg:entryFor table "map.__iter__" = some Builtin.«dict_keyiterator.__iter__»:=entryFor_alias (id' := "dict_keyiterator.__iter__") (by kernel_rfl) rfl (by decide +kernel) (by kernel_rfl)
theorem d5 (a:Value):argsOk "map.__next__" ⟨[a],[]⟩:=by
 unfold argsOk;rw [signature?_of (id := "map.__next__") (n:=['_','_','t','x','e','n','_','_']) (o:=['p','a','m']) (by kernel_rfl) iG];kernel_rfl
theorem gX (a:Value):argsOk "map.__iter__" ⟨[a],[]⟩:=by
 unfold argsOk;rw [signature?_of (id := "map.__iter__") (n:=['_','_','r','e','t','i','_','_']) (o:=['p','a','m']) (by kernel_rfl) iG];kernel_rfl
theorem yF:Ef "map" := ⟨by rw [typeLookup_type,builtinLookup_eq_fast];kernel_rfl,by rw [typeLookup_type,builtinLookup_eq_fast];kernel_rfl,by decide,by decide⟩
section
variable {prog:Program} {w:World} {A:Around} {E:Value → Shared → Prop} {s:Shared}
theorem xi {M:Addr} {Q:Value → Shared → Prop} (hT:s.TypeIs (.ref M) "map") (h:Q (.ref M) s):wpAny (model prog w) A (pyIter (.ref M)) Q E s:=by
 refine wpAny_pyIter_slot hT dZ (wpAny_call_entry dZ hT gg ?_ (gX _))
 show wpAny _ _ (ret (.ref M)) _ _ s
 exact wpAny_pure ⟨_,rfl, "map",_,hT,bu.lookup,h⟩
theorem wU {M T I q D:Addr} {its:Array Value} {n i:Nat} {v:Value} {Q:Option Value → Shared → Prop} {oT:Obj} {nT:Nat}
  (hM:s.heap.get? M = some { cls:=.type "map",data:=.fields #[.ref T,.ref q] }) (hT:s.heap.get? T = some (bo [.ref I])) (hI:s.heap.IsListIter I D i) (hD:s.heap.IsList D its) (hv:its[i]? = some v)
  (hne1:M ≠ I) (h:∀ h' E',h'.IsListIter I D (i + 1) → Heap.SameBut I s.heap h' → wpAny (model prog w) A.in1 (call (.ref q) [v]) (fun r s'=>Q (some r) s') E' { s with heap:=h' }) :
  wpAny (model prog w) A (pyNext (.ref M)) Q E s:=by
 have hMT:s.TypeIs (.ref M) "map" := ⟨_,hM,rfl⟩
 unfold pyNext
 refine wpAny_bind (wpAny_attempt (wpAny_callSpecial?_slot (name:=Str.ofString "__next__") hMT bu (wpAny_call_entry bu hMT dy ?_ (d5 _))))
 show wpAny _ _ (field (.ref M) 0 >>= _) _ _ s
 refine wpAny_bind (wpAny_field hM rfl (x:=.ref T) rfl ?_)
 show wpAny _ _ (seqItems? (.ref T) >>= _) _ _ s
 refine wpAny_bind (wpAny_seqItems hT rfl ?_)
 show wpAny _ _ (forIn #[Value.ref I] (#[]:Array Value) _ >>= _) _ _ s
 rw [← Array.forIn_toList]
 show wpAny _ _ (forIn [Value.ref I] (#[]:Array Value) _ >>= _) _ _ s
 rw [List.forIn_cons]
 refine wpAny_bind (wpAny_bind (wpAny_bind (wpAny_holding (wpAny_nextOf_list_item hI hD hv fun h' hI' hs=>?_))))
 refine wpAny_pure ?_
 dsimp only
 rw [List.forIn_nil]
 refine wpAny_pure ?_
 have hM':h'.get? M = some { cls:=.type "map",data:=.fields #[.ref T,.ref q] }:=hs.extBut _ _ hne1 hM
 refine wpAny_bind (wpAny_field hM' rfl (x:=.ref q) rfl ?_)
 refine wpAny_bind (wpAny_holding (wpAny_mono (h h' _ hI' hs) (fun r s' hr=>?_) fun _ _ e=>e))
 refine wpAny_bind (wpAny_letGo ?_)
 exact wpAny_pure ⟨r,rfl,wpAny_pure hr⟩
theorem za {M T I q D:Addr} {its:Array Value} {n i:Nat} {Q:Option Value → Shared → Prop} (hh:A.handled = none)
  (hM:s.heap.get? M = some { cls:=.type "map",data:=.fields #[.ref T,.ref q] }) (hT:s.heap.get? T = some (bo [.ref I])) (hI:s.heap.IsListIter I D i) (hD:s.heap.IsList D its) (hv:its[i]? = none)
  (h:∀ h',Heap.ExtBut I s.heap h' → Q none { s with heap:=h' }) :
  wpAny (model prog w) A (pyNext (.ref M)) Q E s:=by
 have hMT:s.TypeIs (.ref M) "map" := ⟨_,hM,rfl⟩
 unfold pyNext
 refine wpAny_bind (wpAny_attempt (wpAny_callSpecial?_slot (name:=Str.ofString "__next__") hMT bu (wpAny_call_entry bu hMT dy ?_ (d5 _))))
 show wpAny _ _ (field (.ref M) 0 >>= _) _ _ s
 refine wpAny_bind (wpAny_field hM rfl (x:=.ref T) rfl ?_)
 show wpAny _ _ (seqItems? (.ref T) >>= _) _ _ s
 refine wpAny_bind (wpAny_seqItems hT rfl ?_)
 show wpAny _ _ (forIn #[Value.ref I] (#[]:Array Value) _ >>= _) _ _ s
 rw [← Array.forIn_toList]
 show wpAny _ _ (forIn [Value.ref I] (#[]:Array Value) _ >>= _) _ _ s
 rw [List.forIn_cons]
 refine wpAny_bind (wpAny_bind (wpAny_bind (wpAny_holding (wpAny_nextOf_list_end (A:=A.in1) hh hI hD hv fun h' e he ho=>?_))))
 obtain ⟨o,ho,hc⟩:=ho
 refine wpAny_bind (wpAny_isInstance (T := "StopIteration") (b:=true) ⟨_,ho,hc⟩ isSubtype_stop ?_)
 exact wpAny_pure (h h' he)
end
end
section
open PyProof.Rows.LCg
inductive tF (led:List (Addr × Obj)) (v:Value) (b:Bk):Prop
 | mk (T t1 t2 t3:Nat):v = .ref T → (T,bo [.int (b.i:Int) t1,.int (b.j:Int) t2,.int (b.k:Int) t3]) ∈ led → tF led v b
theorem ET:gM tF:=⟨fun ⟨T,t1,t2,t3,h0,h1⟩ k=>⟨T,t1,t2,t3,h0,k _ h1⟩⟩
structure CV (M T I:Addr) (led:List (Addr × Obj)):Prop where
 o:∀ p ∈ led,p.1 ≠ M ∧ p.1 ≠ T ∧ p.1 ≠ I
section
variable {w:World} {A:Around} {E:Value → Shared → Prop} {s:Shared} {h₀:Heap} {L:Addr} {m:PySem.Str → Option Value} {news:List (Addr × Obj)}
theorem Dj {Q:Value → Shared → Prop} {q D:Addr} {its:Array Value} {n:Nat} (F:Fr h₀ L s.heap m) (N:News h₀ L s.heap news) (X:(K w.params).In h₀) (hq:(q,methodObj (.ref 89) (.ref 135)) ∈ news) (hD:(D,listOf its n) ∈ news)
  (h:∀ M T I h',Fr h₀ L h' m → News h₀ L h' ((M,eT T q) :: (T,bo [.ref I]) :: (I,mM D 0) :: news) → CV M T I news → Q (.ref M) { s with heap:=h' }) :
  wpAny (model rW.row.prog w) A (call (.type "map") [.ref q,.ref D]) Q E s:=by
 have N1:=N.push F (mM D 0)
 have N2:=N1.push (F.push _) (bo [.ref s.heap.objs.size])
 have F2:=(F.push (mM D 0)).push (bo [.ref s.heap.objs.size])
 exact Cc (N _ hD).1 (h _ _ _ _ (F2.push _) (N2.push F2 (eT _ q)) ⟨fun p hp=>⟨N2.apart _ (.tail _ (.tail _ hp)),N1.apart _ (.tail _ hp),N.apart _ hp⟩⟩)
inductive Fo (M T q I D:Addr) (rest:List (Addr × Obj)) (out:List Bk) (g0:Array GenState) (i:Nat) (acc:List Value) (g:Array GenState) (nx:List (Addr × Obj)):Prop
 | mk (oI:Obj) (mats:List (Addr × Obj)):g = g0 → nx = (M,eT T q) :: (T,bo [.ref I]) :: (I,oI) :: (mats++rest) → oI.cls = .type "list_iterator" → oI.data = .fields #[.ref D,.int (i:Int) 0] → bL ef mats acc (out.take i) → (∀ p ∈ mats,p.1 ≠ I) → ((mats++rest).map (·.1)).Nodup → Fo M T q I D rest out g0 i acc g nx
theorem vC {mean:ExcName → Option Value} {mg mb:PySem.Str → Option Value} {dp un:Nat} {gd:Option (List Code)} {cn:PySem.Str} {cs:Scope} {a:Addr} {ccd:Value} {cl:List (PySem.Str × Addr)} {outer:List Env} {A₀:Around} {base:Heap} {Q:Value → Shared → Prop}
  {M T I q D:Addr} {vs:List Value} {n:Nat} {rest objs:List (Addr × Obj)} {out:List Bk}
  (B:Below A₀ base outer h₀) (F:Fr h₀ L s.heap m) (X:(K w.params).In h₀) (N:News h₀ L s.heap ((M,eT T q) :: (T,bo [.ref I]) :: (I,mM D 0) :: rest)) (Tp:Top (am pW) (looseW (am pW) aE) mean mg mb h₀) (hk:cs.kind = .function)
  (hd:dp + 20 < recursionLimit) (hu:un + 800 < cLine) (hq:(q,methodObj (.ref 89) (.ref 135)) ∈ rest) (hD:(D,listOf vs.toArray n) ∈ rest) (hv:bL tF objs vs out) (hsub:∀ p ∈ objs,p ∈ rest) (hlen:vs.length ≤ 100)
  (hne:∀ p ∈ rest,p.1 ≠ M ∧ p.1 ≠ T ∧ p.1 ≠ I) (hnd:(rest.map (·.1)).Nodup)
  (h:∀ S c acc mats h' tk,Fr h₀ L h' m → News h₀ L h' ((S,listOf acc.toArray c) :: (mats++rest)) → bL ef mats acc out → (((S,listOf acc.toArray c) :: (mats++rest)).map (·.1)).Nodup → Q (.ref S) { s with heap:=h',toks:=tk }) :
  wpAny (model rW.row.prog w) (ktrTop dp un gd cn cs L a ccd cl outer) (call (.type "list") [.ref M]) Q E s:=by
 refine uf (T := "map") (n:=vs.length) yF F N (List.Mem.head _) rfl (by rw [sizeLine_eq];exact ae fun h9=>lN [_] [(1,.t (.k 16777216) V0),(1,.l V0 (.k 100))] (.c h9 (.c hlen .n))) (Fo M T q I D rest out s.gens) ⟨_,[],rfl,rfl,rfl,rfl,?_,by simp,hnd⟩ fun S hS=>?_
 ·rw [List.take_zero];exact bL.nil
 ·have nMI:M ≠ I:=fR N (List.Mem.head _) (List.Mem.tail _ (List.Mem.tail _ (List.Mem.head _))) (by intro h;injection h with h;exact absurd h (by decide))
  have nTI:T ≠ I:=fR N (List.Mem.tail _ (List.Mem.head _)) (List.Mem.tail _ (List.Mem.tail _ (List.Mem.head _))) (by intro h;injection h with h;exact absurd h (by decide))
  constructor
  ·rintro i acc g nx ⟨oI,mats,rfl,rfl,hc1,hc2,hL,hI,hM9⟩
   exact ⟨_,(List.Mem.head _),rfl⟩
  ·intro s' Q' hT hq
   exact xi hT hq
  ·rintro i acc g nx h' tk c Q' hi ⟨oI,mats,rfl,rfl,hc1,hc2,hL,hI,hM9⟩ F1 N1 hoff hK
   have hvi:vs[i]? = some vs[i]:=List.getElem?_eq_getElem hi
   refine (let G0:Prop:=_;(?_:G0))
   obtain ⟨b,hb,Tb,t1,t2,t3,e,hTb⟩:=hv.2 i _ hvi
   refine wU (M:=M) (T:=T) (I:=I) (q:=q) (D:=D) (its:=vs.toArray) (n:=n) (i:=i) (v:=.ref Tb) (oT:=bo []) (nT:=0) (N1 _ (List.Mem.tail _ (List.Mem.head _))).1 (N1 _ (List.Mem.tail _ (List.Mem.tail _ (List.Mem.head _)))).1 ⟨oI,(N1 _ (List.Mem.tail _ (List.Mem.tail _ (List.Mem.tail _ (List.Mem.head _))))).1,hc1,hc2⟩ ⟨_,(N1 _ (al (al (al (al (ac hD)))))).1,rfl,n,rfl⟩ (by rw [List.getElem?_toArray,hvi,e]) nMI ?_
   intro h2 E' hI2 hs2
   refine (let G0:Prop:=_;(?_:G0))
   obtain ⟨oI',hoI',hc1',hc2'⟩:=hI2
   have nI:=N1 _ (List.Mem.tail _ (List.Mem.tail _ (List.Mem.tail _ (List.Mem.head _))))
   dsimp only at nI hoI' hs2
   have F2:=kas_fr F1 hs2 nI.2.1 nI.2.2
   have nSI:S ≠ I:=fun e=>(hoff _ (List.Mem.tail _ (List.Mem.tail _ (List.Mem.head _)))) e.symm
   have N2:News h₀ L h2 ((S,listOf acc.toArray c) :: (M,eT T q) :: (T,bo [.ref I]) :: (I,oI') :: (mats++rest)):=by
    intro p hp
    simp only [List.mem_cons] at hp
    rcases hp with rfl | rfl | rfl | rfl | hp
    ·exact ⟨hs2.extBut _ _ nSI (N1 _ (List.Mem.head _)).1,(N1 _ (List.Mem.head _)).2⟩
    ·exact ⟨hs2.extBut _ _ nMI (N1 _ (List.Mem.tail _ (List.Mem.head _))).1,(N1 _ (List.Mem.tail _ (List.Mem.head _))).2⟩
    ·exact ⟨hs2.extBut _ _ nTI (N1 _ (List.Mem.tail _ (List.Mem.tail _ (List.Mem.head _)))).1,(N1 _ (List.Mem.tail _ (List.Mem.tail _ (List.Mem.head _)))).2⟩
    ·exact ⟨hoI',nI.2⟩
    ·have hm:p ∈ (S,listOf acc.toArray c) :: (M,eT T q) :: (T,bo [.ref I]) :: (I,oI) :: (mats++rest):=al (al (al (al hp)))
     refine ⟨hs2.extBut _ _ ?_ (N1 p hm).1,(N1 p hm).2⟩
     rcases aH hp with hp | hp
     ·exact hI p hp
     ·exact (hne p hp).2.2
   refine' (zW w _ q Tb (b.i:Int) (b.j:Int) (b.k:Int) t1 t2 t3 ?hq9 ?hT9).useE B F2 X N2 Tp hk (by first | omega | (simp only [Around.in1_depth];exact aA fun h9=>lN [_,_] [(1,.l V0 (.a V1 (.k 4))),(1,.t (.a V1 (.k 20)) V0)] (.c h9 (.c hd .n)))) (by first | omega | (simp only [Around.in1_units];omega)) ?_
   case hq9=>simp only [List.mem_cons,List.mem_append,hq,or_true]
   case hT9=>simp only [List.mem_cons,List.mem_append,hsub _ hTb,or_true]
   rintro ⟨aM,dM⟩ h3 tk3 F3 N3 ME
   simp only [gY,List.cons_append,List.nil_append] at N3
   have nM1:aM ≠ S:=fR N3 (List.Mem.head _) (List.Mem.tail _ (List.Mem.tail _ (List.Mem.head _))) (by intro h;cases h)
   have nM2:aM ≠ I:=fR N3 (List.Mem.head _) (List.Mem.tail _ (List.Mem.tail _ (List.Mem.tail _ (List.Mem.tail _ (List.Mem.tail _ (List.Mem.head _)))))) (by rw [hc1'];intro h;cases h)
   refine hK (.ref aM) h3 s.gens tk3 ((M,eT T q) :: (T,bo [.ref I]) :: (I,oI') :: ((aM,ca (b.i:Int) (b.j:Int) (b.k:Int) t1 t2 t3 dM) :: mats++rest)) F3 ?_ ?_ ⟨oI',(aM,ca (b.i:Int) (b.j:Int) (b.k:Int) t1 t2 t3 dM) :: mats,rfl,rfl,hc1',by rw [hc2'],?_,?_,?_⟩
   ·intro p hp
    refine N3 p ?_
    simp only [List.cons_append,List.mem_cons,List.mem_append] at hp ⊢
    rcases hp with h | h | h | h | h | h | h <;> simp only [h,true_or,or_true]
   ·intro p hp
    simp only [List.cons_append,List.mem_cons,List.mem_append] at hp
    rcases hp with h | h | h | h | h | h
    ·rw [h];exact hoff _ (List.Mem.head _)
    ·rw [h];exact hoff _ (List.Mem.tail _ (List.Mem.head _))
    ·rw [h];exact hoff (I,oI) (List.Mem.tail _ (List.Mem.tail _ (List.Mem.head _)))
    ·rw [h];exact nM1
    ·exact hoff p (by simp only [List.mem_cons,List.mem_append,h,true_or,or_true])
    ·exact hoff p (by simp only [List.mem_cons,List.mem_append,h,true_or,or_true])
   ·rw [List.take_add_one,hb]
    exact hL.snoc BZ (fun p hp=>al hp) ⟨aM,dM,t1,t2,t3,rfl,List.mem_cons_self⟩
   ·intro p hp
    rcases ag hp with rfl | hp
    ·exact nM2
    ·exact hI p hp
   ·refine List.nodup_cons.mpr ⟨fun hm=>?_,hM9⟩
    obtain ⟨p,hp,e9⟩:=List.mem_map.mp hm
    exact (ME.1 p (al (al (al (al hp))))).1 e9
  ·rintro acc g nx h' tk c Q' ⟨oI,mats,rfl,rfl,hc1,hc2,hL,hI,hM9⟩ F1 N1 hoff hK
   refine za (M:=M) (T:=T) (I:=I) (q:=q) (D:=D) (its:=vs.toArray) (n:=n) (i:=vs.length) rfl (N1 _ (List.Mem.tail _ (List.Mem.head _))).1 (N1 _ (List.Mem.tail _ (List.Mem.tail _ (List.Mem.head _)))).1 ⟨oI,(N1 _ (List.Mem.tail _ (List.Mem.tail _ (List.Mem.tail _ (List.Mem.head _))))).1,hc1,hc2⟩ ⟨_,(N1 _ (al (al (al (al (ac hD)))))).1,rfl,n,rfl⟩ (by simp) ?_
   intro h2 he2
   have nI:=N1 _ (List.Mem.tail _ (List.Mem.tail _ (List.Mem.tail _ (List.Mem.head _))))
   dsimp only at nI he2
   have nSI:S ≠ I:=fun e=>(hoff _ (List.Mem.tail _ (List.Mem.tail _ (List.Mem.head _)))) e.symm
   refine hK _ (h S c acc mats h2 tk (fr_but F1 (fun b o hb e=>he2 b o (by simpa using hb) e) nI.2.1.symm nI.2.2) ?_ ?_ (List.nodup_cons.mpr ⟨fun hm=>(List.mem_map.mp hm).elim fun p hp=>hoff p (al (al (al hp.1))) hp.2,hM9⟩))
   ·intro p hp
    rcases ag hp with rfl | hp
    ·exact ⟨he2 _ _ nSI (N1 _ (List.Mem.head _)).1,(N1 _ (List.Mem.head _)).2⟩
    ·have hm:p ∈ (S,listOf acc.toArray c) :: (M,eT T q) :: (T,bo [.ref I]) :: (I,oI) :: (mats++rest):=al (al (al (al hp)))
     refine ⟨he2 _ _ ?_ (N1 p hm).1,(N1 p hm).2⟩
     rcases aH hp with hp | hp
     ·exact hI p hp
     ·exact (hne p hp).2.2
   ·rw [hv.1,List.take_length] at hL
    exact hL
end
end
section
section
variable {w:World} {cs:Sc} {lv:Nat} {C:Cx w cs lv} {t:Nat} {m:Map} {l l':Led}
theorem cJ.app {d:Addr} {o o':Obj}:∀ {a l l':Led},cJ d o o' l l' → cJ d o o' (a++l) (a++l')
 | [],_,_,h=>h
 | _ :: _,_,_,h=>.tail h.app
theorem cJ.apr {d:Addr} {o o':Obj} {b:Led}:∀ {l l':Led},cJ d o o' l l' → cJ d o o' (l++b) (l'++b)
 | _,_,.head=>.head
 | _,_,.tail h=>.tail h.apr
theorem Ae {D n:Nat} {vs:List Value} {kt kf:KN} (hd:(D,listOf vs.toArray n) ∈ l) (hz:vs.length ≤ 100000) (h1:vs.isEmpty = false → ∀ t,kt t m l) (h2:vs.isEmpty = true → ∀ t,kf t m l) :
  af C (truthy (.ref D)) t m l fun b t m l=>(b = true → kt t m l) ∧ (b = false → kf t m l) :=
 cg fun s M Q ht F N nd back=>zT N hd hz (fun e k=>back _ _ _ _ F N nd ⟨fun _=>h1 e k,nofun⟩) fun e k=>back _ _ _ _ F N nd ⟨nofun,fun _=>h2 e k⟩
theorem gc {x:PySem.Str} {u:Nat} {kt kf:KN} (hl:x.length ≤ 16777216) (h1:x.length ≠ 0 → ∀ t,kt t m l) (h2:x.length = 0 → ∀ t,kf t m l):af C (truthy (.str x u)) t m l fun b t m l=>(b = true → kt t m l) ∧ (b = false → kf t m l) :=
 cg fun s M Q ht F N nd back=>BI hl (fun e k=>back _ _ _ _ F N nd ⟨fun _=>h1 e k,nofun⟩) fun e k=>back _ _ _ _ F N nd ⟨nofun,fun _=>h2 e k⟩
theorem aB {D n:Nat} {its:Array Value} {name:PySem.Str} {id:String} {pl:Sem Bool} {k:Value × List Value → Nat → Map → Led → Prop} (slot:Slot "list" name id) (hty:typeOf (.builtin id) = pure (.type "method_descriptor")) (hd:(D,listOf its n) ∈ l) (h:k (.builtin id,[.ref D]) t m l):af C (getMethod (.ref D) name pl) t m l k :=
 cg fun s M Q ht F N nd back=>by
  subst ht
  exact listMethod_K N hd slot hty (back _ _ _ _ F N nd h)
theorem z8 {D n:Nat} {vs p:List Value} {y:Value} {k:KV} (e:vs = p++[y]) (U:cJ D (listOf vs.toArray n) (listOf p.toArray (n + 1)) l l') (hz:p.length ≤ 100000) (h:k y t m l'):af C (call (.builtin "list.pop") [.ref D]) t m l k :=
 cg fun s M Q ht F N nd back=>by
  subst ht e
  exact wf F N (U.upd nd) (by rw [sizeLine_eq];exact ae fun h9=>lN [_] [(1,.t (.k 16777216) (.a V0 K1)),(1,.l V0 (.k 100000))] (.c h9 (.c hz .n))) fun h' F' N'=>back _ _ _ _ F' N' (U.adr ▸ nd) h
theorem fq {T d:Addr} {i j n:Int} {u v z:Nat} {elts:List PySem.Expr} {kx:Nat} {pos:Pos} {xs:List PySem.Str} {k:KN} (hT:(T,ca i j n u v z d) ∈ l) (hn:hU elts = some xs) (hl:xs.length = 3) (h:xK C xs [.int i u,.int j v,.int n z] t m l k):af C (assign (.Tuple elts kx pos) C.env (.ref T)) t m l fun _ t m l=>k t m l:=fun s H=>by
 obtain ⟨M,F,hM⟩:=H.M
 obtain ⟨h1,h2,h3,h4,h5⟩:=er (C:=C) hn
 exact ye rfl (C.X.keeps F.keep) F H.N hT (by rw [h4,← h2,hl]) h5 fun h' F' N'=>fh (k:=k) (vs:=[.int i u,.int j v,.int n z]) h3 hl h { s with heap:=h' } ⟨H.tk,H.gens,H.drawn,H.os,N',H.nd,M,F',hM⟩
noncomputable def kz (P:Params) (x:PySem.Str) (f:Addr):Prop:=plainGet (K P) 242 x = true ∧ findIn (K P) (.ref 242) x = some (some (.ref f)) ∧ isFn (K P) (.ref f) = true
theorem yf (P:Params):kz P (Str.ofString "find_longest_match") 196:=by
 refine (fun h:(rW = rW ∧ K = K) → kz P _ 196=>h ⟨rfl,rfl⟩) ?_
 k_fill
 intro _
 exact ⟨by k_is,by k_is,by k_is⟩
theorem zo (P:Params):kz P (Str.ofString "get_matching_blocks") 203:=by
 refine (fun h:(rW = rW ∧ K = K) → kz P _ 203=>h ⟨rfl,rfl⟩) ?_
 k_fill
 intro _
 exact ⟨by k_is,by k_is,by k_is⟩
theorem fo {x d f:Addr} {sl:Array (Option Value)} {es:List DictEntry} {n:Nat} {name:PySem.Str} {pl:Sem Bool} {k:Value × List Value → Nat → Map → Led → Prop} (hf:kz w.params name f) (hx:(x,(⟨.ref 242,some d,.plain,sl⟩:Obj)) ∈ l) (hd:(d,dictOf es n) ∈ l) (hl:getL name es = some none)
  (h:k (.ref f,[.ref x]) t m l):af C (getMethod (.ref x) name pl) t m l k :=
 cg fun s M Q ht F N nd back=>by
  subst ht
  exact method_inst F C.X (InstAt.of_news N hx hd) hf.1 hf.2.1 hf.2.2 hl (back _ _ _ _ F N nd h)
structure Du (P:Params) (x:PySem.Str):Prop where
 s:findIn (K P) (.ref 242) "__setattr__" = some (some (.builtin "object.__setattr__"))
 p:plainOver (K P) 242 = true
 t:takerIn (K P) 242 x = some none
 h:hasDictIn (K P) 242 = true
theorem xL (P:Params):∀ x ∈ lX,Du P x:=by
 refine (fun h:(rW = rW ∧ K = K) → ∀ x ∈ lX,Du P x=>h ⟨rfl,rfl⟩) ?_
 k_fill
 intro _ x hx
 simp only [lX,List.mem_cons,List.not_mem_nil,or_false] at hx
 rcases hx with rfl | rfl | rfl | rfl | rfl | rfl | rfl | rfl | rfl | rfl
 all_goals exact ⟨by k_is,by k_is,by k_is,by k_is⟩
theorem bq {x d:Addr} {sl:Array (Option Value)} {es es':List DictEntry} {n n':Nat} {name:PySem.Str} {v:Value} {k:Unit → Nat → Map → Led → Prop} (hx:(x,(⟨.ref 242,some d,.plain,sl⟩:Obj)) ∈ l) (hn:(lX.any fun y=>gT y name) = true) (hl:(getL name es).isSome = true)
  (e:(putL name (PyData.keyHash w.params name) (.str name t.succ) v es,putN name es n) = (es',n')) (U:cJ d (dictOf es n) (dictOf es' n') l l') (hz:es'.length ≤ 1000) (h:k () t.succ.succ m l'):af C (setAttr (.ref x) name v) t m l k :=
 cg fun s M Q ht F N nd back=>by
  subst ht
  obtain ⟨a,b,c,d⟩:=xL w.params _ (jH hn)
  exact set_dict F C.X N (InstAt.of_news N hx U.mem) rfl a b c d hl e (U.upd nd) hz fun h' F' N'=>back _ _ _ _ F' N' (U.adr ▸ nd) h
end
end
section
structure Fy (P:Params):Prop where
 o:∃ mc p rest,typeIn (K P) (.ref 135) = some mc ∧ readsIn (K P) 135 mc = true ∧ findCls (K P) (.ref 135) mc (Str.ofString "_make") = some (.get (.builtin "classmethod.__get__") (.ref p) .none (.ref 135)) ∧ recIn (K P) p "classmethod" = some (.ref 89 :: rest)
theorem AK (P:Params):Fy P:=by
 refine (fun h:(rW = rW ∧ K = K) → Fy P=>h ⟨rfl,rfl⟩) ?_
 k_fill
 intro _
 exact ⟨_,_,_,by k_is,by k_is,by k_is,by k_is⟩
section
variable {w:World} {cs:Sc} {lv:Nat} {C:Cx w cs lv} {t:Nat} {m:Map} {l l':Led}
theorem af.less {α:Type} {tree:Sem α} {k:α → Nat → Map → Led → Prop} (h:af C tree t m l' k) (hl:aq l' l):af C tree t m l k:=fun s H=>h s (H.less (fun _ _ e=>e) hl)
theorem fW {d:Addr} {o:Obj} {post:Led}:∀ {pre:Led},((pre++(d,o) :: post).map (·.1)).Nodup → UpdF d o (pre++(d,o) :: post) (fun o'=>pre++(d,o') :: post)
 | [],h=>.head fun p hp e=>(List.nodup_cons.mp h).1 (List.mem_map.mpr ⟨p,hp,e⟩)
 | p :: r,h=>.tail (fun e=>(List.nodup_cons.mp h).1 (List.mem_map.mpr ⟨(d,o),ac (.head _),e.symm⟩)) (fW (pre:=r) (List.nodup_cons.mp h).2)
theorem iP {d:Addr} {o o':Obj} {pre post:Led}:(pre++(d,o') :: post).map (·.1) = (pre++(d,o) :: post).map (·.1):=by
 rw [List.map_append,List.map_append];rfl
theorem AM {D n:Nat} {mv:List Value} {pre post:Led} {bl srt:List Bk} {k:KV} (hv:bL ef pre mv bl) (hp:srt.Perm bl) (hs:srt.Pairwise (fun a b=>a.i < b.i)) (h6:bl.length ≤ 6) (hlv:1 ≤ lv)
  (h:∀ c mv',bL ef pre mv' srt → k .none t m (pre++(D,listOf mv'.toArray c) :: post)):af C (call (.builtin "list.sort") [.ref D]) t m (pre++(D,listOf mv.toArray n) :: post) k :=
 cg fun s M Q ht F N nd back=>by
  subst ht
  have hu:=C.hu
  exact wX F N C.X (fW nd) hv (fun o p hp=>aj hp) hp hs h6 (show C.un + 8 < cLine by omega) fun h' c mv' F' N' hv'=>back _ _ _ _ F' N' (iP ▸ nd) (h c mv' hv')
theorem Cs {k:KV} (h:∀ q,k (.ref q) t.succ m ((q,methodObj (.ref 89) (.ref 135)) :: l)):af C (getAttr (.ref 135) (Str.ofString "_make") true) t m l k :=
 cg fun s M Q ht F N nd back=>by
  subst ht
  obtain ⟨mc,p,rest,h1,h2,h3,h4⟩:=(AK w.params).o
  exact cls_cm F C.X N h1 h2 h3 h4 fun q h' F' N' hlt=>back _ _ _ _ F' N' (ay (ir hlt) nd) (h q)
theorem DO {q D n:Nat} {its:Array Value} {k:KV} (hq:(q,methodObj (.ref 89) (.ref 135)) ∈ l) (hD:(D,listOf its n) ∈ l) (h:∀ M T I,k (.ref M) t m ((M,eT T q) :: (T,bo [.ref I]) :: (I,mM D 0) :: l)):af C (call (.type "map") [.ref q,.ref D]) t m l k :=
 cg fun s M Q ht F N nd back=>by
  subst ht
  refine Dj F N C.X hq hD fun M T I h' F' N' hne=>back _ _ _ _ F' N' ?_ (h M T I)
  have hd:∀ {a b:Nat} {o1 o2:Obj},h'.get? a = some o1 → h'.get? b = some o2 → o1.cls ≠ o2.cls → b ≠ a:=fun e1 e2 hc e=>by
   rw [e,e1] at e2
   exact hc (congrArg Obj.cls (Option.some.inj e2))
  have e1:=(N' _ (.head _)).1
  have e2:=(N' _ (.tail _ (.head _))).1
  have e3:=(N' _ (.tail _ (.tail _ (.head _)))).1
  refine ay (fun p hp=>?_) (ay (fun p hp=>?_) (ay (fun p hp=>(hne.o p hp).2.2) nd))
  ·rcases ag hp with rfl | hp
   ·exact hd e1 e2 (by intro h;injection h with h;exact absurd h (by decide))
   ·rcases ag hp with rfl | hp
    ·exact hd e1 e3 (by intro h;injection h with h;exact absurd h (by decide))
    ·exact (hne.o p hp).1
  ·rcases ag hp with rfl | hp
   ·exact hd e2 e3 (by intro h;injection h with h;exact absurd h (by decide))
   ·exact (hne.o p hp).2.1
theorem Bb {M T I q D n:Nat} {vs:List Value} {objs:Led} {out:List Bk} {k:KV} (hq:(q,methodObj (.ref 89) (.ref 135)) ∈ l) (hD:(D,listOf vs.toArray n) ∈ l) (hv:bL tF objs vs out) (hsub:∀ p ∈ objs,p ∈ l) (hlen:vs.length ≤ 100) (hlv:20 ≤ lv)
  (h:∀ S c acc mats t',bL ef mats acc out → k (.ref S) t' m ((S,listOf acc.toArray c) :: (mats++l))):af C (call (.type "list") [.ref M]) t m ((M,eT T q) :: (T,bo [.ref I]) :: (I,mM D 0) :: l) k :=
 cg fun s Mf Q ht F N nd back=>by
  obtain ⟨n1,nd1⟩:=List.nodup_cons.mp nd
  obtain ⟨n2,nd2⟩:=List.nodup_cons.mp nd1
  obtain ⟨n3,EE⟩:=List.nodup_cons.mp nd2
  have hd:=C.hd
  have hu:=C.hu
  exact vC C.B F C.X N C.T C.hk (by exact aA fun h9=>lN [_,_,_] [(1,.l V0 (.a V1 (.k 20))),(1,.l (.k 20) V2),(1,.t (.a V1 V2) V0)] (.c h9 (.c hlv (.c hd .n)))) (by omega) hq hD hv hsub hlen (fun p hp=>⟨fun e=>n1 (List.mem_map.mpr ⟨p,.tail _ (.tail _ hp),e⟩),fun e=>n2 (List.mem_map.mpr ⟨p,.tail _ hp,e⟩),fun e=>n3 (List.mem_map.mpr ⟨p,hp,e⟩)⟩) EE
   fun S c acc mats h' tk F' N' hv' nd'=>back _ _ _ _ F' N' nd' (h S c acc mats tk hv')
end
end
section
section
variable {w:World} {cs:Sc} {lv:Nat} {C:Cx w cs lv} {t:Nat} {m:Map} {l l':Led} {σ:Type}
noncomputable def CS (C:Cx w cs lv) (tg:PySem.Expr) (body:List Stmt) (v:Value) (t:Nat) (m:Map) (l:Led) (K:KF):Prop :=
 ∀ s,At C s t m l → wpAny (model PR w) C.A (pyIter v) (fun it s₂=>TurnsAt PR w C.A C.h₀ C.env tg body (uG C K) (fun _ _=>False) it s₂) (fun _ _=>False) s
theorem jz {tg iter:PySem.Expr} {pos:Pos} {body:List Stmt} {K:KF} (hs:∀ v,foldedSetIterable iter C.env v = pure v) (h:cE C 12 iter t m l fun v t m l=>CS C tg body v t m l K):af C (exec (.For tg iter body [] pos) C.env) t m l K:=fun s H =>
 let ⟨_,F,_⟩:=H.M
 For_turns F ((af.run (aw 12 h) H) fun v s' _ _ _ H' h'=>h' s' H') hs .never
theorem f4 {D:Addr} {vs:List Value} {nn:Nat} {tg:PySem.Expr} {body:List Stmt} {K:KF} (Ld:σ → Led) (Mp:σ → Map) (P:Nat → σ → Prop) (c₀:σ) (n:Nat)
  (hm:ar m (Mp c₀)) (hl:aq (Ld c₀) l) (hD:∀ c,(D,listOf vs.toArray nn) ∈ Ld c) (hp:P 0 c₀)
  (turn:∀ i c v t own,vs[i]? = some v → P i c → cA C (cE C 12) tg v t (Mp c) (Ld c++own) (cS C n body (fG Ld Mp (P (i + 1)) own K)))
  (done:∀ c t,P vs.length c → K .next t (Mp c) (Ld c)):CS C tg body (.ref D) t m l K:=fun s H=>by
 obtain ⟨M,F,hM⟩:=H.M
 refine iter_listTurns (news:=Ld c₀) (lo:=listOf vs.toArray nn) rfl F (fun p hp=>H.N p (hl.mem p hp)) (hD c₀) rfl rfl fun I hI=>?_
 refine pC (fun i=>uK C Ld Mp (P i)) ?_ ⟨c₀,rfl,hl.nd H.nd,hp,hM.1,fun y u e=>hM.2 y u (bH hm e)⟩ (fun p hp b hb=>?_) ?_ ?_
 ·rintro i M₁ _ ⟨c,rfl,_⟩
  exact ⟨hD c,trivial⟩
 ·rw [List.mem_singleton.mp hb];exact Nat.ne_of_lt (hI p hp)
 ·rintro i a v M₁ _ h tk own ha hv hoff ⟨c,rfl,hnd,hP,hM₁⟩ F₁ N₁
  rw [List.getElem?_map] at ha
  obtain ⟨v',hv',rfl⟩:=Option.map_eq_some_iff.mp ha
  have hv:v = v':=hv
  subst hv
  obtain ⟨own',ho,HA⟩:=eN (tk:=tk) H hnd hoff F₁ N₁ hM₁
  exact (mK (aw 12) (turn i c v tk own' hv' hP)).run HA fun _ s₁ _ _ _ H₁ h₁=>(bY n h₁).run H₁ fun fl s₂ t' m' l' H' hk=>dA H ho H' hk
 ·rintro M₁ _ h tk ⟨c,rfl,hnd,hP,hM₁⟩ F₁ N₁
  rw [List.length_map] at hP
  exact At.ret ⟨rfl,H.gens,H.drawn,H.os,N₁,hnd,M₁,F₁,hM₁⟩ (done c tk hP)
end
end
section
open PyProof.Rows.LCg PyProof.Rows.LCt
section
variable {w:World} {cs:Sc} {lv:Nat} {C:Cx w cs lv} {t:Nat} {m:Map} {l l':Led} {s:Shared} {M:PySem.Str → Option Value}
noncomputable def Cx.frz (C:Cx w cs lv) (M:PySem.Str → Option Value):Cx w ⟨cs.s,true⟩ lv:=⟨C.dp,C.un,C.gd,C.cn,C.a,C.ccd,C.cl,C.outer,C.A₀,C.base,C.h₀,C.L,C.mean,C.mg,C.mb,C.s0,C.B,C.X,C.T,C.hk,C.hd,C.hu,fun N=>N = M,fun h=>nomatch h⟩
theorem At.frz (H:At C s t m l) (F:Fr C.h₀ C.L s.heap M) (hM:tL C m M):At (C.frz M) s t m l:=⟨H.tk,H.gens,H.drawn,H.os,H.N,H.nd,M,F,rfl,hM.2⟩
theorem At.frzF {m':Map} (H:At (C.frz M) s t m' l):Fr C.h₀ C.L s.heap M:=let ⟨_,F,h,_⟩:=H.M;h ▸ F
theorem Sq.spL {f:Addr} {lv':Nat} {vs:List Value} {R:Value → Led → Prop} (S:Sq w f lv' vs l l' R) (nd:(l.map (·.1)).Nodup):CK w f lv' vs l l' (fun v new=>R v new ∧ ((new++l').map (·.1)).Nodup):=by
 intro mean mg mb dp un gd cn cs a ccd cl outer A₀ base h₀ L m s Q E B F X N T hk hd hu h
 refine wpAny_mono (af.run (S (⟨dp,un,gd,cn,a,ccd,cl,outer,A₀,base,h₀,L,mean,mg,mb,s,B,X,T,hk,hd,hu,fun N=>N = m,fun h=>nomatch h⟩:Cx w ⟨cs,true⟩ lv') s.toks [] (fun v t _ l2=>∃ new,l2 = new++l' ∧ R v new) (Nat.le_refl _) fun v new _ hR=>⟨new,rfl,hR⟩)
  (⟨rfl,rfl,rfl,rfl,N,nd,m,F,rfl,fun _ _ h=>nomatch h⟩) (Q:=Q) fun v s' t' m' l2 H' hk'=>?_) (fun _ _ q=>q) fun _ _ x=>x.elim
 obtain ⟨new,rfl,hR⟩:=hk'
 obtain ⟨M',F',hM',_⟩:=H'.M
 have hM':M' = m:=hM'
 subst hM'
 obtain ⟨h2,g2,d2,k2,o2⟩:=s'
 obtain ⟨h1,g1,d1,k1,o1⟩:=s
 have a1:g2 = g1:=H'.gens
 have a2:d2 = d1:=H'.drawn
 have a3:o2 = o1:=H'.os
 subst a1 a2 a3
 exact h v new h2 k2 F' H'.N ⟨hR,H'.nd⟩
structure pi (a b:Led):Prop where
 to:∀ p ∈ a,p ∈ b
 of:∀ p ∈ b,p ∈ a
theorem zD {h₀ h:Heap} {L:Addr} {led:Led} (N:News h₀ L h led):∃ led',(led'.map (·.1)).Nodup ∧ pi led led' :=
 let ⟨o,h1,h2,h3⟩:=vu (own:=led) fun p hp q hq e=>Prod.ext e (Option.some.inj (((N _ hp).1.symm.trans (by rw [e];exact (N _ hq).1))))
 ⟨o,h1,h2,h3⟩
theorem gD {h₀ h:Heap} {L:Addr} {a b x:Led} (N:News h₀ L h (x++a)) (hs:∀ p ∈ b,p ∈ a):News h₀ L h (x++b):=fun p hp=>N p ((aH hp).elim (List.mem_append_left _) fun h=>ac (hs p h))
theorem Sp.ofSqN {f:Addr} {lv':Nat} {vs:List Value} {R:Value → Led → Prop} (S:∀ l',pi l l' → Sq w f lv' vs l' l' R):Sp w f lv' vs l (fun v new=>R v new ∧ ∃ l',pi l l' ∧ ((new++l').map (·.1)).Nodup):=by
 intro mean mg mb dp un gd cn cs a ccd cl outer A₀ base h₀ L m s Q E B F X N T hk hd hu h
 obtain ⟨l',nd,hs⟩:=zD N
 exact Sq.spL (S l' hs) nd _ _ _ _ _ _ _ _ _ _ _ _ _ _ _ _ _ _ _ _ B F X (fun p hp=>N p (hs.of p hp)) T hk hd hu fun v new h' tk' F' N' hR=>h v new h' tk' F' (gD N' hs.to) ⟨hR.1,l',hs,hR.2⟩
theorem Sp.ofSq {f:Addr} {lv':Nat} {vs:List Value} {R:Value → Led → Prop} (S:∀ l',pi l l' → Sq w f lv' vs l' l' R):Sp w f lv' vs l R :=
 fun _ _ _ _ _ _ _ _ _ _ _ _ _ _ _ _ _ _ _ _ B F X N T hk hd hu h=>Sp.ofSqN S _ _ _ _ _ _ _ _ _ _ _ _ _ _ _ _ _ _ _ _ B F X N T hk hd hu fun v new h' tk' F' N' hR=>h v new h' tk' F' N' hR.1
theorem CK.ofSq {f:Addr} {lv':Nat} {vs:List Value} {R:Value → Led → Prop} {x rest l':Led} (hs:pi rest l') (nd:((x++l').map (·.1)).Nodup) (S:Sq w f lv' vs (x++l') l' R):CK w f lv' vs (x++rest) rest R :=
 fun _ _ _ _ _ _ _ _ _ _ _ _ _ _ _ _ _ _ _ _ B F X N T hk hd hu h=>Sq.spL S nd _ _ _ _ _ _ _ _ _ _ _ _ _ _ _ _ _ _ _ _ B F X (gD N hs.of) T hk hd hu fun v new h' tk' F' N' hR=>h v new h' tk' F' (gD N' hs.to) hR.1
end
end
section
open PyProof.Rows.LCg PyProof.Rows.LCt
section
variable {w:World} {cs:Sc} {lv:Nat} {C:Cx w cs lv} {t:Nat} {m:Map} {l l':Led} {s:Shared} {M:PySem.Str → Option Value} {σ:Type}
structure Ec (C:Cx w cs lv) (s:Shared):Prop where
 gens:s.gens = C.s0.gens
 drawn:s.drawn = C.s0.drawn
 os:s.os = C.s0.os
noncomputable def FJ (C:Cx w cs lv) (env:Env) (x:PySem.Str) (pos:Pos) (t:Nat) (m:Map) (l:Led) (k:KV):Prop:=af C (eval (.Name x pos) env) t m l k
noncomputable abbrev uq (C:Cx w cs lv) (env:Env):Nat → PySem.Expr → Nat → Map → Led → KV → Prop:=te C env (FJ C env)
theorem dH {env:Env} (n:Nat):iV C env (uq C env n):=uN (fun h=>h) n
noncomputable def zM (Ld:σ → Led) (n:Nat) (Pv:Nat → Value → Prop) (v:Value) (l:Led):Prop :=
 (∃ (ax:Addr) (its:List Value) (k:Nat),v = .ref ax ∧ its.length = n ∧ (∀ i v,its[i]? = some v → Pv i v) ∧ ∀ c,(ax,listOf its.toArray k) ∈ Ld c) ∨
 ∃ (r:Addr) (a b:Int) (t1 t2 t3:Nat),v = .ref r ∧ (r,yP a b t1 t2 t3) ∈ l ∧ Builtin.Range.small a b 1 = true ∧ Builtin.Range.rangeSize a b 1 = ((n:Nat):Int) ∧ ∀ (i:Nat) t,Pv i (.int (a + (i:Int)) t)
theorem EE {I C D:Addr} {oI oC oD:Obj} {a:Led} (nd:(a.map (·.1)).Nodup) (o:Off3 I C D a) (h1:I ≠ C) (h2:I ≠ D) (h3:C ≠ D):(((C,oC) :: (a++[(I,oI),(D,oD)])).map (·.1)).Nodup:=by
 have o:=o.mem
 refine ay (fun q hq=>?_) ?_
 ·rcases aH hq with hq | hq
  ·exact (o q hq).2.1
  ·rcases ag hq with rfl | hq
   ·exact h1
   ·rw [List.mem_singleton.mp hq];exact h3.symm
 ·rw [List.map_append]
  refine List.nodup_append.mpr ⟨nd,ay (l:=[(D,oD)]) (fun q hq=>by rw [List.mem_singleton.mp hq];exact h2.symm) (ay (fun q hq=>nomatch hq) .nil),fun x hx y hy=>?_⟩
  obtain ⟨p,hp,rfl⟩:=List.mem_map.mp hx
  rcases ag hy with rfl | hy
  ·exact (o p hp).1
  ·rw [List.mem_singleton.mp hy];exact (o p hp).2.2
theorem yK {I C D:Addr} {oI oC oD:Obj} {a:Led} (nd:(((C,oC) :: (a++[(I,oI),(D,oD)])).map (·.1)).Nodup):(a.map (·.1)).Nodup ∧ Off3 I C D a:=by
 obtain ⟨n1,n2⟩:=List.nodup_cons.mp nd
 rw [List.map_append] at n2
 obtain ⟨n3,_,n4⟩:=List.nodup_append.mp n2
 exact ⟨n3,Off3.of fun p hp=>⟨n4 _ (List.mem_map.mpr ⟨p,hp,rfl⟩) _ (.head _),fun e=>n1 (List.mem_map.mpr ⟨p,aj hp,e⟩),n4 _ (List.mem_map.mpr ⟨p,hp,rfl⟩) _ (.tail _ (.head _))⟩⟩
noncomputable def dY (ys:σ → List Value) (Ld:σ → Led) (P:σ → Prop) (C₁:Addr) (oC:Obj) (own:Led) (zs:List Value) (l':Led):Prop:=∃ c',ys c' = zs ∧ aq ((C₁,oC) :: (Ld c'++own)) l' ∧ P c'
section
variable {elt ct iter:PySem.Expr} {x y:PySem.Str} {px py pos spos:Pos} {scope:Scope} {cl:List (PySem.Str × Addr)} {k:KV} {K:KF} (ys:σ → List Value) (Ld:σ → Led) (P:Nat → σ → Prop) (Pv:Nat → Value → Prop) (c₀:σ) (n:Nat)
theorem sC {I C₁ D:Addr} {oI oC:Obj} {h:Heap} {tk:Nat} {c:σ} (H:Ec C s) (F:Fr C.h₀ C.L h M) (N:News C.h₀ C.L h ((I,oI) :: (C₁,oC) :: (D,lst (ys c)) :: Ld c)) (nd:((Ld c).map (·.1)).Nodup) (o:Off3 I C₁ D (Ld c)) (ne:((@Ne Nat I C₁) ∧ (@Ne Nat I D) ∧ (@Ne Nat C₁ D))) :
  At (C.frz M) { s with heap:=h,toks:=tk } tk [] ((C₁,oC) :: (Ld c++[(I,oI),(D,lst (ys c))])):=by
 refine ⟨rfl,H.gens,H.drawn,H.os,fun p hp=>N p ?_,EE nd o ne.1 ne.2.1 ne.2.2,M,F,rfl,fun _ _ h=>nomatch h⟩
 rcases ag hp with rfl | hp
 ·exact .tail _ (.head _)
 ·rcases aH hp with hp | hp
  ·exact .tail _ (.tail _ (.tail _ hp))
  ·rcases ag hp with rfl | hp
   ·exact .head _
   ·rw [List.mem_singleton.mp hp];exact .tail _ (.tail _ (.head _))
theorem gj {S:Led → Prop} (hS:∀ c,S (Ld c)) {rest:Value → Led → Prop} {I C₁ D:Addr} {oI oC oD:Obj} {h:Heap} {tk t':Nat} {m':Map} {l':Led} {i:Nat} {zs:List Value} {v:Value} {s':Shared} (H:Ec C s) (H':At (C.frz M) s' t' m' l') (e:dY ys Ld (P i) C₁ oC [(I,oI),(D,oD)] zs l')
  (hr:∀ c',ys c' = zs → ((Ld c').map (·.1)).Nodup → P i c' → rest v (Ld c')):CompEnd C.h₀ C.L M { s with heap:=h,toks:=tk } I oI C₁ oC D oD S rest v s':=by
 obtain ⟨c',e1,hs,hP⟩:=e
 obtain ⟨n1,n2⟩:=yK (hs.nd H'.nd)
 obtain ⟨h2,g2,d2,k2,o2⟩:=s'
 obtain ⟨h1,g1,d1,k1,o1⟩:=s
 have a1:g2 = g1:=H'.gens.trans H.gens.symm
 have a2:d2 = d1:=H'.drawn.trans H.drawn.symm
 have a3:o2 = o1:=H'.os.trans H.os.symm
 subst a1 a2 a3
 refine ⟨h2,k2,Ld c',rfl,H'.frzF,fun p hp=>H'.N p (hs.mem p ?_),n2,hS c',hr c' e1 n1 hP⟩
 rcases ag hp with rfl | hp
 ·exact .tail _ (ac (.head _))
 ·rcases ag hp with rfl | hp
  ·exact .head _
  ·rcases ag hp with rfl | hp
   ·exact .tail _ (ac (.tail _ (.head _)))
   ·exact .tail _ (aj hp)
theorem ip {S:Led → Prop} {Pc:Nat → Value → Prop} {Fin:List Value → Led → Prop} (hS:∀ c,S (Ld c)) (cv:∀ i v,Pc i v → Pv i v) (H:Ec C s) (h0:ys c₀ = []) (hp:P 0 c₀) (nd:((Ld c₀).map (·.1)).Nodup)
  (turn:∀ i c v t C₁ oC m₂ own,i < n → Pv i v → P i c → NsObj oC m₂ → m₂ x = some v → uq (C.frz M) (compEnvC scope cl C₁ C.env) 12 elt t [] ((C₁,oC) :: (Ld c++own)) fun z _ _ l'=>dY ys Ld (P (i + 1)) C₁ oC own (ys c++[z]) l')
  (fin:∀ c,P n c → ((Ld c).map (·.1)).Nodup → Fin (ys c) (Ld c)):CompRest PR w C.A C.h₀ C.L M C.env elt x scope cl s S Pc Fin n 0 [] (Ld c₀):=by
 refine mH (fun i zs news=>∃ c,news = Ld c ∧ ((Ld c).map (·.1)).Nodup ∧ ys c = zs ∧ P i c) ?_ ?_ n 0 [] _ (Nat.zero_add _) ⟨c₀,rfl,nd,h0,hp⟩
 ·rintro i _ _ v I oI C₁ oC D m₂ h tk E' hi ⟨c,rfl,nd,rfl,hP⟩ hv hC hx F N o ne
  exact wpAny_mono ((dH 12 (turn i c v tk C₁ oC m₂ _ hi (cv i v hv) hP hC hx)).run (sC (tk:=tk) ys Ld H F N nd o ne) fun z s' _ _ _ H' hz=>gj ys Ld P hS (rest:=fun y news'=>∃ c',news' = Ld c' ∧ ((Ld c').map (·.1)).Nodup ∧ ys c' = ys c++[y] ∧ P (i + 1) c') H H' hz fun c' e n h=>⟨c',rfl,n,e,h⟩) (fun _ _ q=>q) fun _ _ x=>x.elim
 ·rintro _ _ ⟨c,rfl,nd,rfl,hP⟩
  exact fin c hP nd
theorem gP {S:Led → Prop} {Pc:Nat → Value → Prop} {Fin:List Value → Led → Prop} (hS:∀ c,S (Ld c)) (cv:∀ i v,Pc i v → Pv i v) (H:Ec C s) (h0:ys c₀ = []) (hp:P 0 c₀) (nd:((Ld c₀).map (·.1)).Nodup)
  (turn:∀ i c v t C₁ oC m₂ own,i < n → Pv i v → P i c → NsObj oC m₂ → m₂ x = some v → oW (C.frz M) (compEnvC scope cl C₁ C.env) (uq (C.frz M) (compEnvC scope cl C₁ C.env) 12) 12 ct t [] ((C₁,oC) :: (Ld c++own))
   (fun t m l=>uq (C.frz M) (compEnvC scope cl C₁ C.env) 12 elt t m l fun z _ _ l'=>dY ys Ld (P (i + 1)) C₁ oC own (ys c++[z]) l') fun _ _ l'=>dY ys Ld (P (i + 1)) C₁ oC own (ys c) l')
  (fin:∀ c,P n c → ((Ld c).map (·.1)).Nodup → Fin (ys c) (Ld c)):CompRestT PR w C.A C.h₀ C.L M C.env ct elt x scope cl s S Pc Fin n 0 [] (Ld c₀):=by
 refine dR (fun i zs news=>∃ c,news = Ld c ∧ ((Ld c).map (·.1)).Nodup ∧ ys c = zs ∧ P i c) ?_ ?_ n 0 [] _ (Nat.zero_add _) ⟨c₀,rfl,nd,h0,hp⟩
 ·rintro i _ _ v I oI C₁ oC D m₂ h tk E' hi ⟨c,rfl,nd,rfl,hP⟩ hv hC hx F N o ne
  refine wpAny_mono ((dz (dH 12) 12 (turn i c v tk C₁ oC m₂ _ hi (cv i v hv) hP hC hx)).run (sC (tk:=tk) ys Ld H F N nd o ne) (Q:=fun ok s'=>if ok = true then
    wpAny (model PR w) C.A (eval elt (compEnvC scope cl C₁ C.env)) (CompEnd C.h₀ C.L M { s with heap:=h,toks:=tk } I oI C₁ oC D (lst (ys c)) S (fun y news'=>∃ c',news' = Ld c' ∧ ((Ld c').map (·.1)).Nodup ∧ ys c' = ys c++[y] ∧ P (i + 1) c')) E' s'
    else CompEnd C.h₀ C.L M { s with heap:=h,toks:=tk } I oI C₁ oC D (lst (ys c)) S (fun _ news'=>∃ c',news' = Ld c' ∧ ((Ld c').map (·.1)).Nodup ∧ ys c' = ys c ∧ P (i + 1) c') Value.none s') fun b s' _ _ _ H' hz=>?_) (fun _ _ q=>q) fun _ _ x=>x.elim
  cases b with
  | true =>
   rw [if_pos rfl]
   exact wpAny_mono ((dH 12 (hz.1 rfl)).run H' fun z s' _ _ _ H' hz=>gj ys Ld P hS H H' hz fun c' e n h=>⟨c',rfl,n,e,h⟩) (fun _ _ q=>q) fun _ _ x=>x.elim
  | false =>
   rw [if_neg Bool.false_ne_true]
   exact gj ys Ld P hS H H' (hz.2 rfl) fun c' e n h=>⟨c',rfl,n,e,h⟩
 ·rintro _ _ ⟨c,rfl,nd,rfl,hP⟩
  exact fin c hP nd
theorem wm {its:List Value} {i:Nat} {v:Value} (h:its.toArray[i]? = some v):its[i]? = some v:=by rw [← h];simp
theorem fQ {s₁:Shared} {t':Nat} {m':Map} {l':Led} {g:Heap} (H:At C s t m l) (H₁:At (C.frz M) s₁ t' m' l'):∃ tk,({ s₁ with heap:=g }:Shared) = { s with heap:=g,toks:=tk }:=by
 obtain ⟨h2,g2,d2,k2,o2⟩:=s₁
 obtain ⟨h1,g1,d1,k1,o1⟩:=s
 have a1:g2 = g1:=H₁.gens.trans H.gens.symm
 have a2:d2 = d1:=H₁.drawn.trans H.drawn.symm
 have a3:o2 = o1:=H₁.os.trans H.os.symm
 subst a1 a2 a3
 exact ⟨k2,rfl⟩
inductive DQ (C:Cx w cs lv) (M:PySem.Str → Option Value) (elt:PySem.Expr) (x:PySem.Str) (scope:Scope) (cl:List (PySem.Str × Addr)) (fin:List Value → Led → Prop) (v:Value) (l₁:Led):Prop
 | mk (σ:Type) (ys:σ → List Value) (Ld:σ → Led) (P:Nat → σ → Prop) (Pv:Nat → Value → Prop) (c₀:σ) (n:Nat):n ≤ 1000 → ys c₀ = [] → P 0 c₀ → aq (Ld c₀) l₁ → zM Ld n Pv v l₁ → (∀ i c v t C₁ oC m₂ own,i < n → Pv i v → P i c → NsObj oC m₂ → m₂ x = some v → uq (C.frz M) (compEnvC scope cl C₁ C.env) 12 elt t [] ((C₁,oC) :: (Ld c++own)) fun z _ _ l'=>dY ys Ld (P (i + 1)) C₁ oC own (ys c++[z]) l') → (∀ c,P n c → fin (ys c) (Ld c)) → DQ C M elt x scope cl fin v l₁
inductive Ei (C:Cx w cs lv) (M:PySem.Str → Option Value) (ct elt:PySem.Expr) (x:PySem.Str) (scope:Scope) (cl:List (PySem.Str × Addr)) (fin:List Value → Led → Prop) (v:Value) (l₁:Led):Prop
 | mk (σ:Type) (ys:σ → List Value) (Ld:σ → Led) (P:Nat → σ → Prop) (Pv:Nat → Value → Prop) (c₀:σ) (n:Nat):n ≤ 1000 → ys c₀ = [] → P 0 c₀ → aq (Ld c₀) l₁ → zM Ld n Pv v l₁ → (∀ i c v t C₁ oC m₂ own,i < n → Pv i v → P i c → NsObj oC m₂ → m₂ x = some v → oW (C.frz M) (compEnvC scope cl C₁ C.env) (uq (C.frz M) (compEnvC scope cl C₁ C.env) 12) 12 ct t [] ((C₁,oC) :: (Ld c++own))
   (fun t m l=>uq (C.frz M) (compEnvC scope cl C₁ C.env) 12 elt t m l fun z _ _ l'=>dY ys Ld (P (i + 1)) C₁ oC own (ys c++[z]) l') fun _ _ l'=>dY ys Ld (P (i + 1)) C₁ oC own (ys c) l') → (∀ c,P n c → fin (ys c) (Ld c)) → Ei C M ct elt x scope cl fin v l₁
theorem EB {fin:List Value → Led → Prop} {v:Value} {l₁:Led} (hn:n ≤ 1000) (h0:ys c₀ = []) (hp:P 0 c₀) (hs:aq (Ld c₀) l₁) (hS:zM Ld n Pv v l₁)
  (turn:∀ i c v t C₁ oC m₂ own,i < n → Pv i v → P i c → NsObj oC m₂ → m₂ x = some v → uq (C.frz M) (compEnvC scope cl C₁ C.env) 12 elt t [] ((C₁,oC) :: (Ld c++own)) fun z _ _ l'=>dY ys Ld (P (i + 1)) C₁ oC own (ys c++[z]) l') (done:∀ c,P n c → fin (ys c) (Ld c)):DQ C M elt x scope cl fin v l₁ :=
 ⟨σ,ys,Ld,P,Pv,c₀,n,hn,h0,hp,hs,hS,turn,done⟩
theorem FQ {fin:List Value → Led → Prop} {v:Value} {l₁:Led} (hn:n ≤ 1000) (h0:ys c₀ = []) (hp:P 0 c₀) (hs:aq (Ld c₀) l₁) (hS:zM Ld n Pv v l₁)
  (turn:∀ i c v t C₁ oC m₂ own,i < n → Pv i v → P i c → NsObj oC m₂ → m₂ x = some v → oW (C.frz M) (compEnvC scope cl C₁ C.env) (uq (C.frz M) (compEnvC scope cl C₁ C.env) 12) 12 ct t [] ((C₁,oC) :: (Ld c++own))
   (fun t m l=>uq (C.frz M) (compEnvC scope cl C₁ C.env) 12 elt t m l fun z _ _ l'=>dY ys Ld (P (i + 1)) C₁ oC own (ys c++[z]) l') fun _ _ l'=>dY ys Ld (P (i + 1)) C₁ oC own (ys c) l') (done:∀ c,P n c → fin (ys c) (Ld c)):Ei C M ct elt x scope cl fin v l₁ :=
 ⟨σ,ys,Ld,P,Pv,c₀,n,hn,h0,hp,hs,hS,turn,done⟩
theorem lG {Fin:Shared → List Value → Led → Prop} {fin:List Value → Led → Prop} (H:At C s t m l) (F:Fr C.h₀ C.L s.heap M) (hM:tL C m M)
  (hi:∀ M,cE (C.frz M) 12 iter t m l fun v t₁ m₁ l₁=>DQ C M elt x scope cl fin v l₁)
  (hf:∀ zs L h tk,fin zs L → (L.map (·.1)).Nodup → Fin { s with heap:=h,toks:=tk } zs L):wpAny (model PR w) C.A (eval iter C.env) (CompSrc PR w C.A C.h₀ C.L M C.env elt x scope cl Fin) (fun _ _=>False) s :=
 (aw 12 (hi M)).run (H.frz F hM) fun v s₁ t₁ m₁ l₁ H₁ h₁=>by
  refine (let G0:Prop:=_;(?_:G0))
  obtain ⟨σ,ys,Ld,P,Pv,c₀,n,hn,h0,hp,hs,hS,turn,done⟩:=h₁
  have N₁:News C.h₀ C.L s₁.heap (Ld c₀):=fun p hp=>H₁.N p (hs.mem p hp)
  rcases hS with ⟨ax,its,k,rfl,rfl,hv,hD⟩ | ⟨r,a,b,t1,t2,t3,rfl,hr,hsm,hsz,hv⟩
  ·refine CompSrc.ledger rfl H₁.frzF N₁ (hD c₀) (by rw [List.size_toArray];exact Nat.le_trans hn (Nat.le_of_ble_eq_true rfl)) fun g=>?_
   obtain ⟨tk,e⟩:=fQ (g:=g) H H₁
   rw [e,List.size_toArray]
   exact ip ys Ld P Pv c₀ _ (S:=SrcAt C.h₀ ax its.toArray) (fun c=>.inr ⟨_,hD c,rfl,_,rfl⟩) (fun i v h=>hv i v (wm h)) ⟨H.gens,H.drawn,H.os⟩ h0 hp (hs.nd H₁.nd) turn fun c hc nd=>hf _ _ _ _ (done c hc) nd
  ·refine CompSrc.range (n:=n) rfl H₁.frzF N₁ (H₁.N _ hr).1 hsm hsz (Nat.le_trans hn (Nat.le_of_ble_eq_true rfl)) fun g=>?_
   obtain ⟨tk,e⟩:=fQ (g:=g) H H₁
   rw [e]
   exact ip ys Ld P Pv c₀ _ (S:=fun _=>True) (fun c=>trivial) (fun i v ⟨t,h⟩=>h ▸ hv i t) ⟨H.gens,H.drawn,H.os⟩ h0 hp (hs.nd H₁.nd) turn fun c hc nd=>hf _ _ _ _ (done c hc) nd
theorem tX {Fin:Shared → List Value → Led → Prop} {fin:List Value → Led → Prop} (H:At C s t m l) (F:Fr C.h₀ C.L s.heap M) (hM:tL C m M)
  (hi:∀ M,cE (C.frz M) 12 iter t m l fun v t₁ m₁ l₁=>Ei C M ct elt x scope cl fin v l₁)
  (hf:∀ zs L h tk,fin zs L → (L.map (·.1)).Nodup → Fin { s with heap:=h,toks:=tk } zs L):wpAny (model PR w) C.A (eval iter C.env) (CompSrcT PR w C.A C.h₀ C.L M C.env ct elt x scope cl Fin) (fun _ _=>False) s :=
 (aw 12 (hi M)).run (H.frz F hM) fun v s₁ t₁ m₁ l₁ H₁ h₁=>by
  refine (let G0:Prop:=_;(?_:G0))
  obtain ⟨σ,ys,Ld,P,Pv,c₀,n,hn,h0,hp,hs,hS,turn,done⟩:=h₁
  have N₁:News C.h₀ C.L s₁.heap (Ld c₀):=fun p hp=>H₁.N p (hs.mem p hp)
  rcases hS with ⟨ax,its,k,rfl,rfl,hv,hD⟩ | ⟨r,a,b,t1,t2,t3,rfl,hr,hsm,hsz,hv⟩
  ·refine CompSrcT.ledger rfl H₁.frzF N₁ (hD c₀) (by rw [List.size_toArray];exact Nat.le_trans hn (Nat.le_of_ble_eq_true rfl)) fun g=>?_
   obtain ⟨tk,e⟩:=fQ (g:=g) H H₁
   rw [e,List.size_toArray]
   exact gP ys Ld P Pv c₀ _ (S:=SrcAt C.h₀ ax its.toArray) (fun c=>.inr ⟨_,hD c,rfl,_,rfl⟩) (fun i v h=>hv i v (wm h)) ⟨H.gens,H.drawn,H.os⟩ h0 hp (hs.nd H₁.nd) turn fun c hc nd=>hf _ _ _ _ (done c hc) nd
  ·refine CompSrcT.range (n:=n) rfl H₁.frzF N₁ (H₁.N _ hr).1 hsm hsz (Nat.le_trans hn (Nat.le_of_ble_eq_true rfl)) fun g=>?_
   obtain ⟨tk,e⟩:=fQ (g:=g) H H₁
   rw [e]
   exact gP ys Ld P Pv c₀ _ (S:=fun _=>True) (fun c=>trivial) (fun i v ⟨t,h⟩=>h ▸ hv i t) ⟨H.gens,H.drawn,H.os⟩ h0 hp (hs.nd H₁.nd) turn fun c hc nd=>hf _ _ _ _ (done c hc) nd
theorem eO {D:Addr}:∀ {l:Led},Off1 D l → ∀ p ∈ l,p.1 ≠ D
 | [],_,_,h=>nomatch h
 | q :: r,o,p,h=>(ag h).elim (fun e=>e ▸ o.1) fun h=>eO o.2 p h
theorem zy (hclos:closureFor scope C.env = pure cl) (hi:∀ M,cE (C.frz M) 12 iter t m l fun v t₁ m₁ l₁=>DQ C M elt x scope cl (fun zs L=>∀ t D,k (.ref D) t m ((D,listOf zs.toArray zs.length) :: L)) v l₁)
  (hcell:∀ y ∈ scope.names,y.2 ≠ .cell:=by decide) (hkind:scope.kind = .function:=by rfl) (hnames:∀ y ∈ scope.names,y.2 = .local → scope.names.lookup y.1 = some .local:=by decide) (hx:scope.names.lookup x = some .local:=by rfl)
  (hs:∀ x,foldedSetIterable iter C.env x = pure x:=by intro _;rfl):af C (eval (.ListComp elt [⟨.Name x px,iter,[],0⟩] scope pos) C.env) t m l k:=fun s H=>by
 obtain ⟨M,F,hM⟩:=H.M
 exact ListComp_U F hclos hcell hkind hnames hx (lG H F hM hi fun zs L h tk hc nd D h' tk' F' N' o=>At.ret ⟨rfl,H.gens,H.drawn,H.os,N',ay (fun q hq=>eO o q hq) nd,M,F',hM⟩ (hc tk' D)) hs
theorem sL (hclos:closureFor scope C.env = pure cl) (hi:∀ M,cE (C.frz M) 12 iter t m l fun v t₁ m₁ l₁=>DQ C M elt x scope cl (fun zs L=>∀ t D,ub m y (.ref D) fun m=>K .next t m ((D,listOf zs.toArray zs.length) :: L)) v l₁)
  (hy:gZ cs y = true:=by rfl) (hsw:swapsWith (.ListComp elt [⟨.Name x px,iter,[],0⟩] scope pos) (some (.Name y py)) spos.line C.env = pure true:=by with_unfolding_all rfl)
  (hcell:∀ y ∈ scope.names,y.2 ≠ .cell:=by decide) (hkind:scope.kind = .function:=by rfl) (hnames:∀ y ∈ scope.names,y.2 = .local → scope.names.lookup y.1 = some .local:=by decide) (hx:scope.names.lookup x = some .local:=by rfl)
  (hs:∀ x,foldedSetIterable iter C.env x = pure x:=by intro _;rfl):af C (exec (.Assign [.Name y py] (.ListComp elt [⟨.Name x px,iter,[],0⟩] scope pos) spos) C.env) t m l K:=fun s H=>by
 obtain ⟨M,F,hM⟩:=H.M
 exact Assign_ListComp_U F rfl hsw hclos hcell hkind hnames hx (bw (cD hy).1).1 (by show (cs.s.kind == .class || (cs.s.kind == .module && _)) = false;rw [C.hk];rfl) (lG H F hM hi fun zs L h tk hc nd D h' tk' F' N' o=>At.ret ⟨rfl,H.gens,H.drawn,H.os,N',ay (fun q hq=>eO o q hq) nd,_,F',hM.set hy⟩ (fY (hc tk' D))) hs
theorem wP (hclos:closureFor scope C.env = pure cl) (hi:∀ M,cE (C.frz M) 12 iter t m l fun v t₁ m₁ l₁=>Ei C M ct elt x scope cl (fun zs L=>∀ t D,ub m y (.ref D) fun m=>K .next t m ((D,listOf zs.toArray zs.length) :: L)) v l₁)
  (hy:gZ cs y = true:=by rfl) (hsw:swapsWith (.ListComp elt [⟨.Name x px,iter,[ct],0⟩] scope pos) (some (.Name y py)) spos.line C.env = pure true:=by with_unfolding_all rfl)
  (hcell:∀ y ∈ scope.names,y.2 ≠ .cell:=by decide) (hkind:scope.kind = .function:=by rfl) (hnames:∀ y ∈ scope.names,y.2 = .local → scope.names.lookup y.1 = some .local:=by decide) (hx:scope.names.lookup x = some .local:=by rfl)
  (hs:∀ x,foldedSetIterable iter C.env x = pure x:=by intro _;rfl):af C (exec (.Assign [.Name y py] (.ListComp elt [⟨.Name x px,iter,[ct],0⟩] scope pos) spos) C.env) t m l K:=fun s H=>by
 obtain ⟨M,F,hM⟩:=H.M
 exact Assign_ListComp_T F rfl hsw hclos hcell hkind hnames hx (bw (cD hy).1).1 (by show (cs.s.kind == .class || (cs.s.kind == .module && _)) = false;rw [C.hk];rfl) (tX H F hM hi fun zs L h tk hc nd D h' tk' F' N' o=>At.ret ⟨rfl,H.gens,H.drawn,H.os,N',ay (fun q hq=>eO o q hq) nd,_,F',hM.set hy⟩ (fY (hc tk' D))) hs
end
end
end
section
open PyProof.Rows.LCg PyProof.Rows.LCt
theorem vK:∀ (names:List (PySem.Str × NameKind)) (lo n:Nat) (acc:List (PySem.Str × Addr)),lo ≤ n → (acc.map (·.2)).Nodup → (∀ p ∈ acc,lo ≤ p.2 ∧ p.2 < n) → ((cellsFrom n names acc).map (·.2)).Nodup ∧ ∀ p ∈ cellsFrom n names acc,lo ≤ p.2
 | [],lo,n,acc,_,h1,h2=>⟨h1,fun p hp=>(h2 p hp).1⟩
 | (x,k) :: r,lo,n,acc,h,h1,h2=>by
  show ((if k == .cell then _ else _:List (PySem.Str × Addr)).map (·.2)).Nodup ∧ ∀ p ∈ (if k == .cell then _ else _),_
  split
  ·refine vK r lo (n + 1) _ (Nat.le_succ_of_le h) (List.nodup_cons.mpr ⟨fun hm=>?_,h1⟩) fun p hp=>?_
   ·obtain ⟨q,hq,e⟩:=List.mem_map.mp hm
    have:=(h2 q hq).2
    rw [e] at this;exact Nat.lt_irrefl _ this
   ·rcases ag hp with rfl | hp
    ·exact ⟨h,Nat.lt_succ_self _⟩
    ·exact ⟨(h2 p hp).1,Nat.lt_succ_of_lt (h2 p hp).2⟩
  ·exact vK r lo n acc h h1 h2
theorem xE {cm:PySem.Str → Option Value}:∀ {cs:List (PySem.Str × Addr)} {cells:Led},CellsAre cm cs cells → cells.map (·.1) = cs.map (·.2)
 | _,_,.nil=>rfl
 | _,_,.cons _ h=>congrArg (_ :: ·) (xE h)
theorem vG {cm:PySem.Str → Option Value} {names:List (PySem.Str × NameKind)} {L:Nat} {cells l:Led} (h:CellsAre cm (cellsFrom (L + 1) names []) cells) (hl:∀ p ∈ l,p.1 < L) (nd:(l.map (·.1)).Nodup):((cells++l).map (·.1)).Nodup:=by
 obtain ⟨n1,n2⟩:=vK names (L + 1) (L + 1) [] (Nat.le_refl _) .nil fun p hp=>nomatch hp
 rw [List.map_append,xE h]
 refine List.nodup_append.mpr ⟨n1,nd,fun a ha b hb e=>?_⟩
 obtain ⟨p,hp,rfl⟩:=List.mem_map.mp ha
 obtain ⟨q,hq,rfl⟩:=List.mem_map.mp hb
 have:=n2 p hp
 have:=hl q hq
 rw [← e] at this
 exact absurd (Nat.lt_trans this (Nat.lt_succ_self _)) (Nat.not_lt.mpr (n2 p hp))
noncomputable def EG (scope:Scope) (p:PySem.Str × Value):Bool:=scope.names.lookup p.1 == some .local || scope.names.lookup p.1 == some .cell
noncomputable def BR (M:PySem.Str → Option Value) (scope:Scope):Map → Prop
 | []=>True
 | p :: r=>(M p.1 = some p.2 ∧ wS scope p.1 = true) ∧ BR M scope r
theorem sr {M:PySem.Str → Option Value} {scope:Scope}:∀ {b:Map},BR M scope b → ∀ x v,dD b x = some v → M x = some v ∧ wS scope x = true
 | [],_,_,_,e=>nomatch e
 | p :: r,h,x,v,e=>by
  unfold dD at e
  cases e2:gT p.1 x with
  | true=>rw [e2] at e;rw [← cT e2,← Option.some.inj e];exact h.1
  | false=>rw [e2] at e;exact sr h.2 x v e
theorem j7 {w:World} {f:Addr} {lv:Nat} {vs:List Value} {l l':Led} {R:Value → Led → Prop} {name qual:PySem.Str} {params:Arguments} {body:List Stmt} {scope:Scope} {dV kV doc pm cdv ct oc:Value} {an od:Option Addr} {osl:Array (Option Value)} (binds bl:Map) (n:Nat)
  (ho:(K w.params).lookup f = some ⟨oc,od,.func (fnOf name qual params body scope dV kV doc pm an cdv ct),osl⟩) (hcd:codeIn (K w.params) cdv qual = true)
  (hbind:∀ s,(K w.params).In s.heap → BindsTo s (fnOf name qual params body scope dV kV doc pm an cdv ct) ⟨vs,[]⟩ binds)
  (hco:scope.isCoroutine = false) (hgen:scope.isGenerator = false) (hk:scope.kind = .function) (hb:binds.all (EG scope) = true) (hnd:((cellsFrom 0 scope.names []).map (·.1)).Nodup)
  (hbl:BR (bindL (fun x=>scope.names.lookup x) binds fun _=>none) scope bl)
  (h:∀ (C:Cx w ⟨scope,false⟩ lv) (t:Nat) (L1:Addr) (cells:Led),C.cl = cellsFrom L1 scope.names [] → CellsAre (bindC (fun x=>scope.names.lookup x) binds fun _=>none) (cellsFrom L1 scope.names []) cells → cS C n body (EO l' R) t bl (cells++l)):Sq w f lv.succ vs l l' R:=by
 intro cs lv2 C t m k hlv hk' s H
 obtain ⟨M,F,hM⟩:=H.M
 have hd:=C.hd
 have hu:=C.hu
 refine wpAny_call (code_defC (binds:=binds) C.B F C.X H.N C.T rfl rfl C.hk ho hcd (show C.dp < recursionLimit by exact aA fun h9=>lN [_,_,0,_] [(1,.l V0 V1),(1,.t (.a V1 V3) V0)] (.c h9 (.c hd .n))) (hbind _ (C.X.keeps F.keep)) hb hnd (fun g L' h₁ tk cells FG F' N' Y B' X' T' l1=>?_) hco hgen hk)
 have HA:At (cs:=⟨scope,false⟩) (lv:=lv) ⟨C.dp + 1,C.un + 3,C.gd,qual,f,cdv,cellsFrom (L' + 1) scope.names [],C.env :: C.outer,C.A,C.base,g,L',C.mean,C.mg,C.mb,s,B',X',T',hk,by exact aA fun h9=>lN [_,_,_,_] [(1,.l V0 (.a (.a V1 K1) V2)),(1,.l (.a V2 K1) V3),(1,.t (.a V1 V3) V0)] (.c h9 (.c hlv (.c hd .n))),by exact aA fun h9=>lN [_,_,_,_] [(1,.l V0 (.a (.a V1 (.k 3)) (.m 40 V2))),(40,.l (.a V2 K1) V3),(1,.t (.a V1 (.m 40 V3)) V0)] (.c h9 (.c hlv (.c hu .n))),fun _=>True,fun _ _=>trivial⟩ { s with heap:=h₁,toks:=tk } tk bl (cells++l) :=
  ⟨rfl,rfl,rfl,rfl,N',vG Y l1 H.nd,_,F',trivial,sr hbl⟩
 refine wpAny_mono (bY n (h _ tk (L' + 1) cells rfl Y) _ HA) (fun fl s' q=>?_) (fun _ _ x=>x.elim)
 obtain ⟨t',m',l2,H',new,hs,hR⟩:=q
 obtain ⟨M',F',_⟩:=H'.M
 refine leaveK_ F' (fun p hp=>H'.N p (hs.mem p hp)) fun F2 N2=>?_
 have:=hk' (xm fl) new s'.toks hR
 refine ⟨s'.toks,m,new++l',⟨rfl,H'.gens.trans H.gens,H'.drawn.trans H.drawn,H'.os.trans H.os,N2,(hs.nd H'.nd),M,F2,hM⟩,?_⟩
 cases fl <;> exact this
section
variable {w:World} {cs:Sc} {lv:Nat} {C:Cx w cs lv} {t:Nat} {m:Map} {l l':Led} {x:PySem.Str} {v:Value} {pos:Pos} {k:KV} {c:Addr} {o:Obj}
theorem ec (hc:C.cl.lookup x = some c) (hm:(c,o) ∈ l) (hd:o.data = .cell (some v)) (h:k v t m l) (hx:cs.s.names.lookup x = some .cell:=by rfl) (hb:(x == Str.ofString "__debug__") = false:=by decide):af C (eval (.Name x pos) C.env) t m l k :=
 fun s H=>nameX_C H.N hc hm hd (H.ret h) C.hk hx hb
theorem rh {kn:KN} {pre post:Led} {v₀:Option Value} (hc:C.cl.lookup x = some c) (e:l = pre++(c,o) :: post) (hd:o.data = .cell v₀) (h:∀ o',o'.data = .cell (some v) → kn t m (pre++(c,o') :: post)) (hx:cs.s.names.lookup x = some .cell:=by rfl):af C (storeName C.env x v) t m l fun _ t m l=>kn t m l :=
 cg fun s M Q ht F N nd back=>by
  subst ht e
  exact storeX_C F N hc (fW nd) hd (fun h' o' F' N' hd'=>back () _ _ _ F' N' (iP ▸ nd) (h o' hd')) C.hk hx
variable {scope:Scope} {cl:List (PySem.Str × Addr)} {C₁:Addr} {oC:Obj} {m₂:PySem.Str → Option Value} {env:Env}
theorem cK (hm:(C₁,oC) ∈ l) (hC:NsObj oC m₂) (hx:m₂ x = some v) (h:k v t m l) (hk:(compEnvC scope cl C₁ env).scope.kind = .function:=by rfl) (hl:(compEnvC scope cl C₁ env).kindOf x = some .local:=by rfl) (hd:(x == Str.ofString "__debug__") = false:=by decide):af C (eval (.Name x pos) (compEnvC scope cl C₁ env)) t m l k :=
 fun s H=>LCgL.ld_own H.N hm hC hx (H.ret h) hk hl hd
theorem eU (hc:cl.lookup x = some c) (hm:(c,o) ∈ l) (hd:o.data = .cell (some v)) (h:k v t m l) (hk:(compEnvC scope cl C₁ env).scope.kind = .function:=by rfl) (hl:(compEnvC scope cl C₁ env).kindOf x = some .cell:=by rfl) (hb:(x == Str.ofString "__debug__") = false:=by decide):af C (eval (.Name x pos) (compEnvC scope cl C₁ env)) t m l k :=
 fun s H=>lcf_cell H.N hc hm hd (H.ret h) hk hl hb
theorem x8 (e:dD og x = some v) (h:k v t m l) (hg:env.globals = mainGlobals:=by rfl) (hbn:env.builtins = builtinsNs:=by rfl) (hk:(compEnvC scope cl C₁ env).scope.kind = .function:=by rfl) (hl:(compEnvC scope cl C₁ env).kindOf x = some .globalImplicit:=by rfl):af C (eval (.Name x pos) (compEnvC scope cl C₁ env)) t m l k:=fun s H=>by
 obtain ⟨M,F,hM⟩:=H.M
 have hm:=dS e
 rcases sW (P:=w.params) _ hm with ⟨a,b,c⟩ | a
 ·exact LCgL.ld_built F C.X C.T a b c (H.ret h) hg hbn hk hl (ew _ hm)
 ·exact LCgL.ld_global F C.X C.T a (H.ret h) hg hk hl (ew _ hm)
end
end
section
section
variable {w:World} {cs:Sc} {lv:Nat} {C:Cx w cs lv} {t:Nat} {m:Map} {l l':Led}
theorem tI {T:Addr} {its:Array Value} {vs:List Value} {n:Nat} {elts:List PySem.Expr} {kx:Nat} {pos:Pos} {xs:List PySem.Str} {k:KN} (hT:(T,listOf its n) ∈ l) (e:its = vs.toArray) (hn:hU elts = some xs) (hl:xs.length = vs.length) (h:xK C xs vs t m l k):af C (assign (.Tuple elts kx pos) C.env (.ref T)) t m l fun _ t m l=>k t m l:=fun s H=>by
 subst e
 obtain ⟨M,F,hM⟩:=H.M
 obtain ⟨h1,h2,h3,h4,h5⟩:=er (C:=C) hn
 rw [assign_Tuple]
 refine wpAny_bind (wpAny_standAt ?_)
 unfold unpack
 rw [h4,h5]
 refine wpAny_bind (wpAny_holding (kun_items F H.N (H.N.isList hT) rfl (by rw [List.size_toArray,← hl,h2]) (fun h' F' N'=>?_)))
 exact fh (k:=k) h3 hl h { s with heap:=h' } ⟨H.tk,H.gens,H.drawn,H.os,N',H.nd,M,F',hM⟩
theorem bf {D:Addr} {its:Array Value} {n u:Nat} {i:Int} {v:Value} {value slice:PySem.Expr} {k:KV} (hd:(D,listOf its n) ∈ l) (h0:0 ≤ i) (hi:i < 2 ^ 63) (e:its[i.toNat]? = some v) (h:k v t m l) (hs:subscripted slice false (.ref D) (.int i u) = operate [.ref D,.int i u] (getItem (.ref D) (.int i u)):=by with_unfolding_all rfl):af C (subscriptTail value slice (.ref D) (.int i u)) t m l k :=
 fun s H=>gy (vs:=its.toList) H.N (by rw [Array.toArray_toList];exact hd) h0 hi (by rw [Array.getElem?_toList];exact e) (H.ret h) hs
theorem wO {x:PySem.Str} {n tk u:Nat} {i:Int} {value slice:PySem.Expr} {k:KV} (hk:x.length = n) (h0:0 ≤ i) (hi:i < (n:Int)) (hn:n ≤ 16777216) (h:k (.str (Txt.item x i) t) t.succ m l)
  (hs:subscripted slice false (.str x tk) (.int i u) = operate [.str x tk,.int i u] (getItem (.str x tk) (.int i u)):=by with_unfolding_all rfl) (ht:∀ r,letTemporaryGo value (.str x tk) r = pure ():=by intro _;with_unfolding_all rfl):af C (subscriptTail value slice (.str x tk) (.int i u)) t m l k :=
 fun s H=>PySem.W.KXi.item hk (by omega) hi hn (fun _=>H.tk ▸ H.tok.ret h) hs ht
theorem bT {x y:PySem.Str} {t1 t2:Nat} {k:KV} (hx:x.length ≤ 8000000) (hy:y.length ≤ 8000000) (h:∀ t' t2,k (.str (x++y) t') t2 m l):af C (binaryOp .Add (.str x t1) (.str y t2)) t m l k :=
 cg fun s M Q ht F N nd back=>KXadd.add hx hy (by decide) fun t' k' _=>back _ _ _ _ F N nd (h t' k')
theorem dT {x:PySem.Str} {tk:Nat} {name:PySem.Str} {id:String} {pl:Sem Bool} {k:Value × List Value → Nat → Map → Led → Prop} (slot:Slot "str" name id) (hty:typeOf (.builtin id) = pure (.type "method_descriptor")) (h:k (.builtin id,[.str x tk]) t m l):af C (getMethod (.str x tk) name pl) t m l k :=
 fun s H=>GM.of (.str x tk) (typeIs_str _ _ _) slot hty GM.noRef (H.ret h)
theorem iy {x:PySem.Str} {tk:Nat} {pl:Sem Bool} {k:Value × List Value → Nat → Map → Led → Prop} (h:k (.builtin "str.join",[.str x tk]) t m l):af C (getMethod (.str x tk) (Str.ofString "join") pl) t m l k:=@dT _ _ _ _ _ _ _ _ _ _ _ _ _ PySem.F.slot_str_join PySem.F.type_str_join h
theorem fw {sep:PySem.Str} {D:Addr} {lx:List (PySem.Str × Nat)} {n tk:Nat} {k:KV} (hd:(D,listOf (strValues lx).toArray n) ∈ l) (hs:sep.length ≤ 16) (hB:∀ y ∈ lx.map (·.1),y.length ≤ 1000) (hL:lx.length ≤ 1000) (h:∀ t' t2,(Txt.join sep (lx.map (·.1))).length ≤ 2000000 → k (.str (Txt.join sep (lx.map (·.1))) t') t2 m l):af C (call (.builtin "str.join") [.str sep tk,.ref D]) t m l k :=
 cg fun s M Q ht F N nd back=>sA N hd hs hB hL fun t' k' e=>back _ _ _ _ F N nd (h t' k' e)
theorem Dk {a n:Int} {t1 t2:Nat} {k:KV} (hn:0 ≤ n) (hn2:n ≤ 1000000) (ha:a.natAbs < 2 ^ 64) (h:k (.int (a ^ n.toNat) t) t.succ m l):af C (binaryOp .Pow (.int a t1) (.int n t2)) t m l k :=
 fun s H=>pow_int_small hn hn2 ha (H.tk ▸ H.tok.ret h)
theorem f5 {a b:Int} {t1 t2:Nat} {k:KV} (hb:b ≠ 0) (hp:b.natAbs.log2 < 9000) (h:k (.int (a.fdiv b) t) t.succ m l):af C (binaryOp .FloorDiv (.int a t1) (.int b t2)) t m l k :=
 fun s H=>floordiv_int hb (H.tk ▸ H.tok.ret h) (.inl (PyProof.noPylong_of_log2 hp))
theorem dx {a b:Int} {t1 t2:Nat} {k:KV} (hb:b ≠ 0) (h:k (.int (a.fmod b) t) t.succ m l):af C (binaryOp .Mod (.int a t1) (.int b t2)) t m l k :=
 fun s H=>mod_int' hb (H.tk ▸ H.tok.ret h)
end
end
section
open PyProof.Rows.LCg PyProof.Rows.LCt
noncomputable def eH (x:Int) (k:Nat):PySem.Str:=if (x.fdiv (2 ^ (8 - (0 + (k:Int))).toNat)).fmod 2 = 1 then Txt.item (Str.ofString "rwxrwxrwx") (0 + (k:Int)) else Str.ofString "-"
noncomputable def cF (x:Int):PySem.Str:=Txt.join (Str.ofString "") ((List.range 9).map (eH x))
noncomputable def aT (e:aK) (x:Int):PySem.Str:=((e.letter++cF x)++Str.ofString " /")++Txt.join (Str.ofString "/") e.parts
noncomputable def aD (e:aK) (side:Int):Option Int:=if side = 0 then e.m0 else e.m1
noncomputable def bv (es:List aK) (side:Int):List PySem.Str:=es.flatMap fun e=>match aD e side with | some x=>[aT e x] | none=>[]
theorem wT (x:Int) (k:Nat):(eH x k).length ≤ 1000:=by
 unfold eH;split
 ·exact Nat.le_trans (Nat.le_of_eq rfl) (show 1 ≤ 1000 by decide)
 ·decide
theorem tK {es:List aK} {i:Nat} {e:aK} {side:Int} (h:es[i]? = some e) (hm:aD e side = none):bv (es.take (i + 1)) side = bv (es.take i) side:=by
 rw [List.take_add_one,h];unfold bv;rw [List.flatMap_append];simp [hm]
theorem tP {es:List aK} {i:Nat} {e:aK} {side x:Int} (h:es[i]? = some e) (hm:aD e side = some x):bv (es.take (i + 1)) side = bv (es.take i) side++[aT e x]:=by
 rw [List.take_add_one,h];unfold bv;rw [List.flatMap_append];simp [hm]
theorem yg {n:Nat}:(2:Int) ^ n ≠ 0:=Int.pow_ne_zero (by decide)
theorem uP {x:Int} {i:Nat} {lb:List (PySem.Str × Nat)} {y:PySem.Str} {t:Nat} (h:lb.map (·.1) = (List.range i).map (eH x)) (e:eH x i = y):(lb++[(y,t)]).map (·.1) = (List.range (i + 1)).map (eH x):=by
 rw [List.range_succ,List.map_append,List.map_append,h,← e];rfl
theorem z5 {x:Int} {lb:List (PySem.Str × Nat)} (h:lb.map (·.1) = (List.range 9).map (eH x)):(∀ y ∈ lb.map (·.1),y.length ≤ 1000) ∧ lb.length = 9:=by
 refine ⟨fun y hy=>?_,by rw [← List.length_map (f:=(·.1)),h,List.length_map,List.length_range]⟩
 rw [h] at hy
 obtain ⟨k,_,rfl⟩:=List.mem_map.mp hy
 exact wT x k
theorem gJ {lp:List (PySem.Str × Nat)} {e:aK} (h:bc e) (q:lp.map (·.1) = e.parts):(∀ y ∈ lp.map (·.1),y.length ≤ 1000) ∧ lp.length ≤ 1000 ∧ e.letter.length ≤ 10:=by
 refine ⟨fun y hy=>?_,?_,?_⟩
 ·rw [q] at hy;exact Nat.le_trans ((cf h.parts).2.1 y hy).1 (by decide)
 ·rw [← List.length_map (f:=(·.1)),q];exact Nat.le_trans (cf h.parts).2.2.2.2.2.2.2 (by decide)
 ·rcases h.letter with h | h <;> rw [h] <;> decide
structure E7 where
 lv:List (PySem.Str × Nat)
 k:Nat
 oM:Obj
theorem rO {e:aK} {side:Int} {t0 t1:Nat} (hs:side = 0 ∨ side = 1):∃ ts,(#[et e.m0 t0,et e.m1 t1]:Array Value)[side.toNat]? = some (et (aD e side) ts):=by
 rcases hs with rfl | rfl
 ·exact ⟨t0,rfl⟩
 ·exact ⟨t1,rfl⟩
theorem xQ {side:Int} (hs:side = 0 ∨ side = 1):0 ≤ side ∧ side < 2 ^ 63:=by
 rcases hs with rfl | rfl <;> decide
theorem BE (w:World) (led:List (Addr × Obj)) (a n ts:Nat) (vs:List Value) (es:List aK) (side:Int)
  (ha:(a,listOf vs.toArray n) ∈ led) (hes:ba led vs es) (hok:∀ e ∈ es,bc e) (hlen:es.length ≤ 100) (hs:side = 0 ∨ side = 1) :
  Sq w 437 10 [.ref a,.int side ts] led led (kH (fun y:Addr × List (PySem.Str × Nat) × Nat=>.ref y.1) (fun y=>[(y.1,listOf (strValues y.2.1).toArray y.2.2)]) fun y=>y.2.1.map (·.1) = bv es side):=by
 refine (fun h:(rW = rW ∧ K = K) → _=>h ⟨rfl,rfl⟩) ?_
 k_fill
 intro _
 obtain ⟨hs0,hs1⟩:=xQ hs
 refine j7 [(Str.ofString "entries",Value.ref a),(Str.ofString "side",Value.int side ts)] [(Str.ofString "entries",Value.ref a)] 30 (by k_is) (by k_is) (fun _ _=>BindsTo.of_eq rfl) (by rfl) (by rfl) (by rfl) (by kernel_rfl!) (by decide +kernel) ⟨⟨rfl,rfl⟩,trivial⟩ ?_
 intro C t0 L1 cells hcl Y
 obtain ⟨o1,o2,rfl,d1,d2⟩:=CellsAre.two Y
 clear Y
 have hcl:C.cl = [(Str.ofString "modes",L1 + 1),(Str.ofString "side",L1)]:=hcl
 have d1:o1.data = .cell none:=d1
 have d2:o2.data = .cell (some (.int side ts)):=d2
 have c1:C.cl.lookup (Str.ofString "modes") = some (L1 + 1):=by rw [hcl];rfl
 have c2:C.cl.lookup (Str.ofString "side") = some L1:=by rw [hcl];rfl
 refine aC fun D=>?_
 refine jz (fun _=>rfl) ?_
 refine f4 (σ:=E7) (fun c=>(L1 + 1,c.oM) :: (L1,o2) :: (D,listOf (strValues c.lv).toArray c.k) :: led) (fun _=>[(Str.ofString "rows",.ref D)])
  (fun i c=>c.lv.map (·.1) = bv (es.take i) side ∧ c.lv.length ≤ i ∧ ∃ u,c.oM.data = .cell u) ⟨[],0,o1⟩ 30 (by repeat (first | exact ar.nil | refine ar.cons rfl ?_)) (.mid (x:=[(L1 + 1,o1),(L1,o2)])) (fun c=>.tail _ (.tail _ (.tail _ ha))) ⟨rfl,Nat.le_refl _,_,d1⟩ (fun i c v t own hv ⟨hPp,hPl,mu,hPc⟩=>?_) fun c t ⟨hP,_,_⟩=>?_
 ·refine (let G0:Prop:=_;(?_:G0))
  obtain ⟨e,he,ea,ep,em,m1,m2,m3,tl,u0,u1,lp,rfl,q1,q2,q3,q4⟩:=hes.2 i _ hv
  have hok':=hok e (List.mem_of_getElem? he)
  have hi:=(List.getElem?_eq_some_iff.mp he).1
  obtain ⟨tm,hq⟩:=rO (e:=e) (t0:=u0) (t1:=u1) hs
  refine tI (vs:=[.ref ep,.str e.letter tl,.ref em]) (aj (.tail _ (.tail _ (.tail _ q1)))) rfl rfl rfl ?_
  refine rh (pre:=[]) c1 rfl hPc fun oM dM=>?_
  refine eG fun K1 hK1=>?_
  refine bb (n:=9) ?_
  refine ec c1 (.head _) dM ?_
  refine ec c2 (.tail _ (.head _)) d2 ?_
  refine bf (.tail _ (.tail _ (.tail _ (aj q4)))) hs0 hs1 hq ?_
  cases hm:aD e side with
  | none=>exact hK1 .next _ _ _ ⟨⟨c.lv,c.k,oM⟩,(by repeat (first | exact ar.nil | refine ar.cons rfl ?_)),.refl,by rw [tK he hm];exact hPp,Nat.le_succ_of_le hPl,_,dM⟩
  | some x =>
   obtain ⟨b1,b2,b3⟩:=gJ hok' q3
   refine sL (cl:=[(Str.ofString "side",L1),(Str.ofString "modes",L1 + 1)]) (by show closureFor _ (envX C.cn _ C.L C.a C.ccd C.cl) = _;rw [hcl];with_unfolding_all rfl)
    fun M=>lL fun r=>EB (fun lb:List (PySem.Str × Nat)=>strValues lb) (fun _=>(L1 + 1,oM) :: (L1,o2) :: (D,listOf (strValues c.lv).toArray c.k) :: (led++own)) (fun i lb=>lb.map (·.1) = (List.range i).map (eH x)) (fun i v=>∃ t,v = .int (0 + (i:Int)) t) [] 9 (by decide) rfl rfl
    (.drop .refl) (.inr ⟨r,0,9,_,_,_,rfl,.head _,by decide,by rfl,fun i t=>⟨t,rfl⟩⟩) (fun i lb v t C₁ oC m₂ own2 hi9 hv hP hC hx=>?_) fun lb hP t DB=>?_
   ·obtain ⟨tk,rfl⟩:=hv
    refine pf (dH 12) ?_
    refine eU (c:=L1 + 1) rfl (.tail _ (.head _)) dM ?_
    refine eU (c:=L1) rfl (.tail _ (.tail _ (.head _))) d2 ?_
    refine bf (List.Mem.tail _ (aj (.tail _ (.tail _ (.tail _ (aj q4)))))) hs0 hs1 hq ?_
    rw [hm]
    refine cK (.head _) hC hx ?_
    refine Dk (by exact ch fun h9=>lI [_] [(1,.t (.s (.k 8) (.a K0 V0)) K0),(1,.t V0 (.k 9))] (.c h9 (.c (zt hi9) .n))) (by exact ch fun h9=>lI [_] [(1,.t (.k 1000000) (.s (.k 8) (.a K0 V0))),(1,.l K0 V0)] (.c h9 (.c (zn _) .n))) (by decide) ?_
    refine f5 yg (kbt_py (by exact pu fun h9=>lI [_] [(1,.l (.k 9000) (.s (.k 8) (.a K0 V0))),(1,.l K0 V0)] (.c h9 (.c (zn _) .n)))) ?_
    refine dx (by decide) ⟨fun h=>?_,fun h=>?_⟩
    ·refine cK (.head _) hC hx ?_
     refine wO (n:=9) (by decide +kernel) (by exact ch fun h9=>lI [_] [(1,.t (.a K0 V0) K0),(1,.l K0 V0)] (.c h9 (.c (zn _) .n))) (by exact pu fun h9=>lI [_] [(1,.l (.k 9) (.a K0 V0)),(1,.t V0 (.k 9))] (.c h9 (.c (zt hi9) .n))) (by decide) ?_ rfl (fun _=>rfl)
     exact ⟨lb++[(_,_)],aS,.refl,uP hP (if_pos h)⟩
    ·exact ⟨lb++[(_,_)],aS,.refl,uP hP (if_neg h)⟩
   obtain ⟨a1,a2⟩:=z5 hP
   refine aB PySem.F.slot_list_append PySem.F.type_list_append (.tail _ (.tail _ (.tail _ (.head _)))) ?_
   refine @iy _ _ _ _ _ _ _ _ _ _ _ ?_
   refine fw (.head _) (by decide) a1 (by exact ae fun h9=>lN [_] [(1,.t (.k 1000) V0),(1,.e V0 (.k 9))] (.c h9 (.c a2 .n))) fun t1 t2 z1=>?_
   refine bT (by exact ae fun h9=>lN [_] [(1,.t (.k 8000000) V0),(1,.l V0 (.k 10))] (.c h9 (.c b3 .n))) (by exact ae fun h9=>lN [_] [(1,.t (.k 8000000) V0),(1,.l V0 (.k 2000000))] (.c h9 (.c z1 .n))) fun t1 t2=>?_
   refine bT (by rw [PySem.Str.length_append];exact ae fun h9=>lN [_,_] [(1,.t (.k 8000000) (.a V0 V1)),(1,.l V0 (.k 10)),(1,.l V1 (.k 2000000))] (.c h9 (.c b3 (.c z1 .n)))) (by decide) fun t1 t2=>?_
   refine @iy _ _ _ _ _ _ _ _ _ _ _ ?_
   refine fw (.tail _ (.tail _ (.tail _ (.tail _ (aj q2))))) (by decide) b1 b2 fun t1 t2 z2=>?_
   refine bT (by rw [PySem.Str.length_append,PySem.Str.length_append,show (Str.ofString " /").length = 2 by decide];exact ae fun h9=>lN [_,_] [(1,.t (.k 8000000) (.a (.a V0 V1) K2)),(1,.l V0 (.k 10)),(1,.l V1 (.k 2000000))] (.c h9 (.c b3 (.c z1 .n)))) (by exact ae fun h9=>lN [_] [(1,.t (.k 8000000) V0),(1,.l V0 (.k 2000000))] (.c h9 (.c z2 .n))) fun t1 t2=>?_
   refine au (.tail (.tail (.tail .head))) (by rw [aV];exact ae fun h9=>lN [_,_,_,0,0,0,0,0] [(1,.t (.k 100000) V0),(1,.l V1 (.k 100)),(1,.t V2 V1),(1,.l V0 V2)] (.c h9 (.c hlen (.c hi (.c hPl .n))))) ?_
   rw [← aS]
   exact hK1 .next _ _ _ ⟨⟨c.lv++[(_,_)],c.k + 1,oM⟩,(by repeat (first | exact ar.nil | refine ar.cons rfl ?_)),.drop .refl,by rw [tP he hm,List.map_append,hPp,hP,q3];rfl,by rw [List.length_append];exact Nat.succ_le_succ hPl,_,dM⟩
 ·exact ⟨_,.drop (.drop .refl),⟨(D,c.lv,c.k),rfl,rfl,by rw [hes.1,List.take_length] at hP;exact hP⟩⟩
end
section
open PyProof.Rows.LCg PyProof.Rows.LCt
theorem Bt {w:World} {X f:Addr} {lv:Nat} {vs:List Value} {l l':Led} {R:Value → Led → Prop} {name qual:PySem.Str} {params:Arguments} {body:List Stmt} {scope:Scope} {dV kV doc pm cdv ct oc:Value} {an od:Option Addr} {osl:Array (Option Value)} (binds:Addr → Map) (n:Nat)
  (hm:makesIn (K w.params) X = true) (hi:findIn (K w.params) (.ref X) "__init__" = some (some (.ref f))) (hf:isFn (K w.params) (.ref f) = true)
  (ho:(K w.params).lookup f = some ⟨oc,od,.func (fnOf name qual params body scope dV kV doc pm an cdv ct),osl⟩) (hcd:codeIn (K w.params) cdv qual = true)
  (hbind:∀ x s,(K w.params).In s.heap → BindsTo s (fnOf name qual params body scope dV kV doc pm an cdv ct) ⟨.ref x :: vs,[]⟩ (binds x))
  (hsc:(!scope.isCoroutine && (!scope.isGenerator && (scope.names.all fun x=>x.2 != .cell))) = true) (hk:scope.kind = .function) (hb:∀ x,(tD (binds x) && (binds x).all fun p=>gN ⟨scope,false⟩ p.1) = true)
  (h:∀ x d (C:Cx w ⟨scope,false⟩ lv) (t:Nat),cS C n body (fun fl _ _ l2=>xm fl = .none ∧ ∃ new,aq (new++l') l2 ∧ R (.ref x) new) t (binds x) ((x,instObj X d) :: (d,dictOf [] 0) :: l)):Sq w X lv.succ.succ vs l l' R:=by
 intro cs lv2 C t m k hlv hk' s H
 obtain ⟨h1,h2⟩:=Bool.and_eq_true_iff.mp hsc
 obtain ⟨h3,h4⟩:=Bool.and_eq_true_iff.mp h2
 obtain ⟨M,F,hM⟩:=H.M
 have hd:=C.hd
 have hu:=C.hu
 refine call_cls F C.X H.N hm hi hf fun x d h' F1 N1 l1 l2=>?_
 obtain ⟨h5,h6⟩:=Bool.and_eq_true_iff.mp (hb x)
 refine dQ (s:={ s with heap:=h' }) (binds x) C.B F1 C.X N1 C.T rfl rfl C.hk ho hcd (show C.dp + 1 < recursionLimit by exact aA fun h9=>lN [_,_,_,_] [(1,.l V0 (.a V1 K1)),(1,.l (.a (.a V2 K1) K1) V3),(1,.t (.a V1 V3) V0)] (.c h9 (.c hlv (.c hd .n)))) (hbind x _ (C.X.keeps F1.keep)) (fun y hy=>(bw (List.all_eq_true.mp h6 y hy)).1) (fun g L' h₁ tk FG F' N' B' X' T'=>?_) (by simpa using h1) (by simpa using h3) hk (fun x hx=>by simpa using List.all_eq_true.mp h4 x hx)
 have nd:((((x,instObj X d) :: (d,dictOf [] 0) :: l):Led).map (·.1)).Nodup:=ay (fun q hq=>(ag hq).elim (fun e=>e ▸ Nat.ne_of_lt l2) fun hq=>Nat.ne_of_lt (Nat.lt_trans (l1 q hq) l2)) (ay (ir l1) H.nd)
 have HA:At (cs:=⟨scope,false⟩) (lv:=lv) ⟨C.dp + 2,C.un + 4,(C.A.under (.builtin "type.__call__" ⟨.ref X :: vs,[]⟩)).guards,qual,f,cdv,[],C.env :: C.outer,C.A.under (.builtin "type.__call__" ⟨.ref X :: vs,[]⟩),C.base,g,L',C.mean,C.mg,C.mb,s,B',X',T',hk,by exact aA fun h9=>lN [_,_,_,_] [(1,.l V0 (.a (.a V1 K2) V2)),(1,.l (.a (.a V2 K1) K1) V3),(1,.t (.a V1 V3) V0)] (.c h9 (.c hlv (.c hd .n))),by exact aA fun h9=>lN [_,_,_,_] [(1,.l V0 (.a (.a V1 (.k 4)) (.m 40 V2))),(40,.l (.a (.a V2 K1) K1) V3),(1,.t (.a V1 (.m 40 V3)) V0)] (.c h9 (.c hlv (.c hu .n))),fun _=>True,fun _ _=>trivial⟩ { s with heap:=h₁,toks:=tk } tk (binds x) ((x,instObj X d) :: (d,dictOf [] 0) :: l) :=
  ⟨rfl,rfl,rfl,rfl,N',nd,_,F',trivial,fun x v e=>⟨fT h5 e,List.all_eq_true.mp h6 _ (dS e)⟩⟩
 refine wpAny_mono (bY n (h x d _ tk) _ HA) (fun fl s' q=>?_) (fun _ _ x=>x.elim)
 obtain ⟨t',m',l2,H',hv,new,hs,hR⟩:=q
 obtain ⟨M',F',_⟩:=H'.M
 refine leaveK_ F' (fun p hp=>H'.N p (hs.mem p hp)) fun F2 N2=>?_
 have:=hk' (.ref x) new s'.toks hR
 have q:uG C k (.ref x) _:=⟨s'.toks,m,new++l',⟨rfl,H'.gens.trans H.gens,H'.drawn.trans H.drawn,H'.os.trans H.os,N2,(hs.nd H'.nd),M,F2,hM⟩,this⟩
 cases fl <;> exact ⟨hv,q⟩
end
section
open PyProof.Rows.LCg PyProof.Rows.LCt
section
variable {w:World} {cs:Sc} {lv:Nat} {C:Cx w cs lv} {t:Nat} {m:Map} {l l':Led} {σ:Type}
theorem z7 {k:KV} (h:∀ q e,k (.ref q) t m ((q,bn e) :: l)):af C (call (.type "set") []) t m l k :=
 cg fun s M Q ht F N nd back=>by
  subst ht
  exact CO F N fun q h' e F' N' hne=>back _ _ _ _ F' N' (ay hne nd) (h q e)
theorem zY {d:Addr} {o:Obj} {kvs:List (PySem.Str × Value)} {name:PySem.Str} {id:String} {pl:Sem Bool} {k:Value × List Value → Nat → Map → Led → Prop} (slot:Slot "dict" name id) (hty:typeOf (.builtin id) = pure (.type "method_descriptor")) (hp:(d,o) ∈ l) (hd:o.IsDictOf (PySem.strKind PR w) kvs) (h:k (.builtin id,[.ref d]) t m l):af C (getMethod (.ref d) name pl) t m l k :=
 cg fun s M Q ht F N nd back=>by
  subst ht
  exact kob_method (knd:=PySem.strKind _ _) slot hty N hp hd (back _ _ _ _ F N nd h)
theorem uZ {d:Addr} {o:Obj} {kvs:List (PySem.Str × Value)} {pre post:Led} {y:PySem.Str} {tk:Nat} {v:Value} {k:KV} (hd:o.IsDictOf (PySem.strKind PR w) kvs) (lo:(d == sysModules) = false) (hl:valueAt kvs y = none) (hz:kvs.length ≤ 1000)
  (h:∀ o',o'.IsDictOf (PySem.strKind PR w) (stored kvs y v) → k v t.succ m (pre++(d,o') :: post)):af C (call (.builtin "dict.setdefault") [.ref d,.str y tk,v]) t m (pre++(d,o) :: post) k :=
 cg fun s M Q ht F N nd back=>by
  subst ht
  exact kob_setdef_new (knd:=PySem.strKind _ _) F N (fW nd) hd lo (strKind_is _ _ _ _) (PySem.F.args_dict_setdefault_3 _ _ _) hl (Nat.le_trans hz (Nat.le_of_ble_eq_true rfl)) fun h' o' F' N' hd'=>back _ _ _ _ F' N' (iP ▸ nd) (h o' hd')
theorem fj {s:Shared} {T:Addr} {vs:List Value} {elts:List PySem.Expr} {kx:Nat} {pos:Pos} {xs:List PySem.Str} {k:KN} (H:At C s t m l) (ht:IsTup s.heap T vs.toArray) (hn:hU elts = some xs) (hl:xs.length = vs.length) (h:xK C xs vs t m l k):wpAny (model PR w) C.A (assign (.Tuple elts kx pos) C.env (.ref T)) (uG C fun _ t m l=>k t m l) (fun _ _=>False) s:=by
 obtain ⟨M,F,hM⟩:=H.M
 obtain ⟨h1,h2,h3,h4,h5⟩:=er (C:=C) hn
 rw [assign_Tuple]
 refine wpAny_bind (wpAny_standAt ?_)
 unfold unpack
 rw [h4,h5]
 refine wpAny_bind (wpAny_holding (unpackItemsN_ F H.N ht rfl (by rw [List.size_toArray,← hl,h2]) (fun h' F' N'=>?_)))
 exact fh (k:=k) h3 hl h { s with heap:=h' } ⟨H.tk,H.gens,H.drawn,H.os,N',H.nd,M,F',hM⟩
theorem tY {D:Addr} {lb:List (PySem.Str × Nat)} {nn:Nat} {elts:List PySem.Expr} {kx:Nat} {px p1 p2 p3 pos:Pos} {fn x:PySem.Str} {xs:List PySem.Str} {body:List Stmt} {K:KF} (Ld:σ → Led) (Mp:σ → Map) (P:Nat → σ → Prop) (c₀:σ) (n:Nat)
  (h:cE C 12 (.Name fn p1) t m l fun v t' m' l'=>v = .type "enumerate" ∧ rI (cE C 12) [.Name x p2] t' m' l' fun vs _ m₂ l₂=>vs = [.ref D] ∧ ar m₂ (Mp c₀) ∧ aq (Ld c₀) l₂) (hD:∀ c,(D,listOf (strValues lb).toArray nn) ∈ Ld c) (hp:P 0 c₀)
  (hn:hU elts = some xs) (hxl:xs.length = 2) (turn:∀ i c y ty tT t own,lb[i]? = some (y,ty) → P i c → xK C xs [.int (i:Int) tT,.str y ty] t (Mp c) (Ld c++own) (cS C n body (fG Ld Mp (P (i + 1)) own K)))
  (done:∀ c t,P lb.length c → K .next t (Mp c) (Ld c)) (hs:∀ v,foldedSetIterable (.Call (.Name fn p1) [.Name x p2] [] p3) C.env v = pure v:=by intro _;rfl):af C (exec (.For (.Tuple elts kx px) (.Call (.Name fn p1) [.Name x p2] [] p3) body [] pos) C.env) t m l K:=fun s H=>by
 obtain ⟨_,F₀,_⟩:=H.M
 refine For_turns F₀ (Call_ ((aw 12 h).run H fun fv s₁ t₁ m₁ l₁ H₁ h₁=>?_) (i6 rfl)) hs .never
 obtain ⟨rfl,h₁⟩:=h₁
 refine callWith_of (P:=fun _=>True) (by rw [dF (es:=[.Name x p2]) rfl];rfl) (fun _ _=>⟨_,.inr (.inl rfl),Looks.of_pure rfl⟩) (cB (aw 12) rfl h₁ H₁ fun vs s₂ t₂ m₂ l₂ H₂ h₂=>⟨trivial,?_⟩)
 obtain ⟨rfl,hm,hl⟩:=h₂
 obtain ⟨M,F,hM⟩:=H₂.M
 show wpAny _ _ (call (.type "enumerate") [.ref D]) _ _ _
 refine ktu_enum (vs:=strValues lb) (n:=nn) (news:=Ld c₀) rfl F (fun p hp=>H₂.N p (hl.mem p hp)) (hD c₀) rfl rfl rfl fun I hI=>?_
 refine pC (fun i=>uK C Ld Mp (P i)) ?_ ⟨c₀,rfl,hl.nd H₂.nd,hp,hM.1,fun y u e=>hM.2 y u (bH hm e)⟩ (fun p hp b hb=>?_) ?_ ?_
 ·rintro i M₁ _ ⟨c,rfl,_⟩
  exact ⟨hD c,trivial⟩
 ·simp only [List.map_cons,List.map_nil,List.mem_cons,List.not_mem_nil,or_false] at hb
  rcases hb with rfl | rfl
  ·exact Nat.ne_of_lt (Nat.lt_succ_of_lt (hI p hp))
  ·exact Nat.ne_of_lt (hI p hp)
 ·rintro i a v M₁ _ h tk own ha hv hoff ⟨c,rfl,hnd,hP,hM₁⟩ F₁ N₁
  obtain ⟨y,ty,hy,rfl⟩:=yb ha
  obtain ⟨T,tT,rfl,hT⟩:=hv
  obtain ⟨own',ho,HA⟩:=eN (tk:=tk) H₂ hnd hoff F₁ N₁ hM₁
  have hT:IsTup h T ([.int (i:Int) tT,.str y ty]:List Value).toArray:=by rw [Nat.zero_add] at hT;exact hT
  exact wpAny_mono (fj HA hT hn hxl (turn i c y ty tT tk own' hy hP)) (fun _ s₁ ⟨_,_,_,H₁,h₁⟩=>(bY n h₁).run H₁ fun fl s₂ t' m' l' H' hk=>dA H₂ ho H' hk) fun _ _ x=>x
 ·rintro M₁ _ h tk ⟨c,rfl,hnd,hP,hM₁⟩ F₁ N₁
  rw [enumItems_length,aV] at hP
  exact At.ret ⟨rfl,H₂.gens,H₂.drawn,H₂.os,N₁,hnd,M₁,F₁,hM₁⟩ (done c tk hP)
end
theorem aq.midA {p:Addr × Obj} {x y z:Led}:aq ((x++p :: y)++z) (p :: (x++(y++z))):=by rw [List.append_assoc];exact .mid
theorem aq.three {p q r:Addr × Obj} {a b:Led}:aq (p :: q :: r :: (a++b)) (a++p :: q :: r :: b):=.trans (.cons (.trans (.cons .front) .front)) .front
theorem xe (w:World) (led:Led) (a b nb x d n:Nat) (lb:List (PySem.Str × Nat)) (T:E6) (hb:(b,listOf (strValues lb).toArray nb) ∈ led) (hlen:lb.length ≤ 100) (hnd:(lb.map (·.1)).Nodup) :
  Sq w 188 8 [.ref x] ((x,instObj 242 d) :: (d,dictOf [aG w (Str.ofString "isjunk") T.t0 .none,aG w (Str.ofString "a") T.t1 (.ref a),aG w (Str.ofString "b") T.t2 (.ref b),aG w (Str.ofString "autojunk") T.t3 (.bool true),aG w (Str.ofString "matching_blocks") T.t4 .none,aG w (Str.ofString "opcodes") T.t5 .none,aG w (Str.ofString "fullbcount") T.t6 .none] n) :: led) led
   (fun v new=>v = .none ∧ ∃ y:so,y.x = x ∧ new = d0 w a b .none .none y ∧ ∀ l,w4 w lb l y):=by
 refine (fun h:(rW = rW ∧ K = K) → _=>h ⟨rfl,rfl⟩) ?_
 k_fill
 intro _
 refine br [(Str.ofString "self",Value.ref x)] 30 (by k_is) (by k_is) (fun _ _=>BindsTo.of_eq rfl) (by rfl) (by rfl) (by kernel_rfl!) ?_
 intro C t0
 refine cG (List.Mem.head _) (List.Mem.tail _ (List.Mem.head _)) (by rfl) (v:=.ref b) (by rfl) (by rfl) ?_
 refine qR fun bd o lo hd _=>?_
 refine bq (es':=[aG w (Str.ofString "isjunk") T.t0 .none,aG w (Str.ofString "a") T.t1 (.ref a),aG w (Str.ofString "b") T.t2 (.ref b),aG w (Str.ofString "autojunk") T.t3 (.bool true),aG w (Str.ofString "matching_blocks") T.t4 .none,aG w (Str.ofString "opcodes") T.t5 .none,aG w (Str.ofString "fullbcount") T.t6 .none,aG w (Str.ofString "b2j") _ (.ref bd)]) (n':=_) (l':=(bd,o) :: (x,instObj 242 d) :: (d,dictOf [aG w (Str.ofString "isjunk") T.t0 .none,aG w (Str.ofString "a") T.t1 (.ref a),aG w (Str.ofString "b") T.t2 (.ref b),aG w (Str.ofString "autojunk") T.t3 (.bool true),aG w (Str.ofString "matching_blocks") T.t4 .none,aG w (Str.ofString "opcodes") T.t5 .none,aG w (Str.ofString "fullbcount") T.t6 .none,aG w (Str.ofString "b2j") _ (.ref bd)] _) :: led) (List.Mem.tail _ (List.Mem.head _)) (by rfl) (by rfl) (by rfl) (.tail (.tail .head)) (Nat.le_of_ble_eq_true rfl) ?_
 refine tY (lb:=lb) (nn:=nb) (σ:=FV) (fun c=>c.ix++((bd,c.o) :: (x,instObj 242 d) :: (d,dictOf _ _) :: led)) (fun _=>[(Str.ofString "self",.ref x),(Str.ofString "b",.ref b),(Str.ofString "b2j",.ref bd)])
  (fun i c=>c.o.IsDictOf (PySem.strKind rW.row.prog w) c.kvs ∧ c.kvs.length ≤ i ∧ xc (lb.take i) c.kvs c.ix) ⟨o,[],[]⟩ 30 ⟨rfl,rfl,(by repeat (first | exact ar.nil | refine ar.cons rfl ?_)),.refl⟩ (fun c=>ac (.tail _ (.tail _ (.tail _ hb)))) ⟨hd,Nat.le_refl _,fun y=>.inr ⟨rfl,rfl⟩⟩ rfl rfl (fun i c y ty tT t own hy ⟨hP,hPl,hB⟩=>?_) fun c t ⟨hP,hPl,hB⟩=>?_
 ·have hi:=(List.getElem?_eq_some_iff.mp hy).1
  have hidx:=um hnd hy
  have hval:=vU hB hidx
  have htk:(lb.take i).length = i:=by rw [List.length_take];omega
  refine eG fun K1 hK1=>?_
  refine zY PySem.F.slot_dict_setdefault PySem.F.type_dict_setdefault (aj (ac (.head _))) hP ?_
  refine aC fun Ln=>?_
  refine af.less (l':=[(Ln,listOf ([]:List Value).toArray 0)]++(bd,c.o) :: (c.ix++(((x,instObj 242 d) :: (d,dictOf _ _) :: led)++own))) ?_ (.cons (by rw [List.append_assoc];exact .front))
  refine uZ hP lo hval (Nat.le_trans hPl (by exact ae fun h9=>lN [_,_,0] [(1,.t (.k 1000) V0),(1,.l V1 (.k 100)),(1,.t V0 V1)] (.c h9 (.c hlen (.c hi .n))))) fun o' hd'=>?_
  refine aB PySem.F.slot_list_append PySem.F.type_list_append (.head _) ?_
  refine au .head (Nat.zero_le _) ?_
  have hB2:=wK (u:=ty) (L:=Ln) (t:=tT) (n:=0 + 1) hB hidx
  rw [show lb.take i++[(y,ty)] = lb.take (i + 1) by rw [List.take_add_one,hy];rfl,htk] at hB2
  exact hK1 .next _ _ _ ⟨⟨o',_,(Ln,listOf #[.int (i:Int) tT] (0 + 1)) :: c.ix⟩,(by repeat (first | exact ar.nil | refine ar.cons rfl ?_)),.cons (aq.midA (x:=c.ix)),hd',oo hval hPl,hB2⟩
 ·rw [List.take_length] at hB
  refine z7 fun jk e1=>?_
  obtain ⟨T7,hT7⟩:∃ z,z = t0.succ.succ.succ:=⟨_,rfl⟩
  rw [← hT7]
  refine bq (es':=[aG w (Str.ofString "isjunk") T.t0 .none,aG w (Str.ofString "a") T.t1 (.ref a),aG w (Str.ofString "b") T.t2 (.ref b),aG w (Str.ofString "autojunk") T.t3 (.bool true),aG w (Str.ofString "matching_blocks") T.t4 .none,aG w (Str.ofString "opcodes") T.t5 .none,aG w (Str.ofString "fullbcount") T.t6 .none,aG w (Str.ofString "b2j") T7 (.ref bd),aG w (Str.ofString "bjunk") _ (.ref jk)]) (n':=_) (.tail _ (ac (.tail _ (.head _)))) (by rfl) (by rfl) (by rfl) (.tail (.app (.tail (.tail .head)))) (Nat.le_of_ble_eq_true rfl) ?_
  refine cG (.tail _ (ac (.tail _ (.head _)))) (.tail _ (ac (.tail _ (.tail _ (.head _))))) (by rfl) (v:=.none) (by rfl) (by rfl) ?_
  refine bb (n:=9) ?_
  refine z7 fun pp e2=>?_
  refine bq (es':=[aG w (Str.ofString "isjunk") T.t0 .none,aG w (Str.ofString "a") T.t1 (.ref a),aG w (Str.ofString "b") T.t2 (.ref b),aG w (Str.ofString "autojunk") T.t3 (.bool true),aG w (Str.ofString "matching_blocks") T.t4 .none,aG w (Str.ofString "opcodes") T.t5 .none,aG w (Str.ofString "fullbcount") T.t6 .none,aG w (Str.ofString "b2j") T7 (.ref bd),aG w (Str.ofString "bjunk") _ (.ref jk),aG w (Str.ofString "bpopular") _ (.ref pp)]) (n':=_) (.tail _ (.tail _ (ac (.tail _ (.head _))))) (by rfl) (by rfl) (by rfl) (.tail (.tail (.app (.tail (.tail .head))))) (Nat.le_of_ble_eq_true rfl) ?_
  refine cV (.tail _ (.tail _ (ac (.tail _ (.tail _ (.tail _ hb)))))) (Nat.le_trans hlen (by decide)) ?_
  refine bb (n:=9) ?_
  refine cG (.tail _ (.tail _ (ac (.tail _ (.head _))))) (.tail _ (.tail _ (ac (.tail _ (.tail _ (.head _)))))) (by rfl) (v:=.bool true) (by rfl) (by rfl) ?_
  refine ⟨fun _=>⟨fun h=>absurd h (by exact fun h9=>lI [_] [(1,.l (.k 200) V0),(1,.l V0 (.k 100))] (.c h9 (.c (zl hlen) .n))),fun _=>?_⟩,fun h=>nomatch h⟩
  exact ⟨((pp,_) :: (jk,_) :: (bd,_) :: (x,_) :: (d,_) :: c.ix:Led),.cons (.cons (.three (a:=c.ix) (b:=led))),rfl,⟨x,d,bd,jk,pp,⟨T.t0,T.t1,T.t2,T.t3,T.t4,T.t5,T.t6,T7,_,_⟩,_,c.o,c.kvs,c.ix,e1,e2⟩,rfl,rfl,fun l=>⟨hP,hB,lo⟩⟩
theorem ya (w:World) (led:Led) (a x d n t0 t1 t2 t3:Nat) :
  Sq w 174 1 [.ref x,.ref a] ((x,instObj 242 d) :: (d,dictOf [aG w (Str.ofString "isjunk") t0 .none,aG w (Str.ofString "a") t1 .none,aG w (Str.ofString "b") t2 .none,aG w (Str.ofString "autojunk") t3 (.bool true)] n) :: led) led
   (kH (fun _:Nat × Nat × Nat=>.none) (fun z=>[(x,instObj 242 d),(d,dictOf [aG w (Str.ofString "isjunk") t0 .none,aG w (Str.ofString "a") t1 (.ref a),aG w (Str.ofString "b") t2 .none,aG w (Str.ofString "autojunk") t3 (.bool true),aG w (Str.ofString "matching_blocks") z.1 .none,aG w (Str.ofString "opcodes") z.2.1 .none] z.2.2)]) fun _=>True):=by
 refine (fun h:(rW = rW ∧ K = K) → _=>h ⟨rfl,rfl⟩) ?_
 k_fill
 intro _
 refine br [(Str.ofString "self",Value.ref x),(Str.ofString "a",Value.ref a)] 30 (by k_is) (by k_is) (fun _ _=>BindsTo.of_eq rfl) (by rfl) (by rfl) (by kernel_rfl!) ?_
 intro C u
 refine bb (n:=9) ?_
 refine cG (List.Mem.head _) (List.Mem.tail _ (List.Mem.head _)) (by rfl) (v:=.none) (by rfl) (by rfl) ?_
 refine bq (es':=[aG w (Str.ofString "isjunk") t0 .none,aG w (Str.ofString "a") t1 (.ref a),aG w (Str.ofString "b") t2 .none,aG w (Str.ofString "autojunk") t3 (.bool true)]) (n':=_) (List.Mem.head _) (by rfl) (by rfl) (by rfl) (.tail .head) (Nat.le_of_ble_eq_true rfl) ?_
 refine bq (es':=[aG w (Str.ofString "isjunk") t0 .none,aG w (Str.ofString "a") t1 (.ref a),aG w (Str.ofString "b") t2 .none,aG w (Str.ofString "autojunk") t3 (.bool true),aG w (Str.ofString "matching_blocks") _ .none]) (n':=_) (List.Mem.head _) (by rfl) (by rfl) (by rfl) (.tail .head) (Nat.le_of_ble_eq_true rfl) ?_
 refine bq (es':=[aG w (Str.ofString "isjunk") t0 .none,aG w (Str.ofString "a") t1 (.ref a),aG w (Str.ofString "b") t2 .none,aG w (Str.ofString "autojunk") t3 (.bool true),aG w (Str.ofString "matching_blocks") _ .none,aG w (Str.ofString "opcodes") _ .none]) (n':=_) (List.Mem.head _) (by rfl) (by rfl) (by rfl) (.tail .head) (Nat.le_of_ble_eq_true rfl) ?_
 exact ⟨_,.refl,(_,_,_),rfl,rfl,trivial⟩
theorem ll (P:Params):kz P (Str.ofString "_SequenceMatcher__chain_b") 188 ∧ kz P (Str.ofString "set_seq1") 174 ∧ kz P (Str.ofString "set_seq2") 181 ∧ kz P (Str.ofString "set_seqs") 167:=by
 refine (fun h:(rW = rW ∧ K = K) → _=>h ⟨rfl,rfl⟩) ?_
 k_fill
 intro _
 exact ⟨⟨by k_is,by k_is,by k_is⟩,⟨by k_is,by k_is,by k_is⟩,⟨by k_is,by k_is,by k_is⟩,⟨by k_is,by k_is,by k_is⟩⟩
theorem yH (w:World) (led:Led) (a b nb x d n t0 t1 t2 t3 t4 t5:Nat) (lb:List (PySem.Str × Nat)) (hb:(b,listOf (strValues lb).toArray nb) ∈ led) (hlen:lb.length ≤ 100) (hnd:(lb.map (·.1)).Nodup) :
  Sq w 181 10 [.ref x,.ref b] ((x,instObj 242 d) :: (d,dictOf [aG w (Str.ofString "isjunk") t0 .none,aG w (Str.ofString "a") t1 (.ref a),aG w (Str.ofString "b") t2 .none,aG w (Str.ofString "autojunk") t3 (.bool true),aG w (Str.ofString "matching_blocks") t4 .none,aG w (Str.ofString "opcodes") t5 .none] n) :: led) led
   (fun v new=>v = .none ∧ ∃ y:so,y.x = x ∧ new = d0 w a b .none .none y ∧ ∀ l,w4 w lb l y):=by
 refine (fun h:(rW = rW ∧ K = K) → _=>h ⟨rfl,rfl⟩) ?_
 k_fill
 intro _
 refine br [(Str.ofString "self",Value.ref x),(Str.ofString "b",Value.ref b)] 30 (by k_is) (by k_is) (fun _ _=>BindsTo.of_eq rfl) (by rfl) (by rfl) (by kernel_rfl!) ?_
 intro C u
 refine bb (n:=9) ?_
 refine cG (List.Mem.head _) (List.Mem.tail _ (List.Mem.head _)) (by rfl) (v:=.none) (by rfl) (by rfl) ?_
 refine bq (es':=[aG w (Str.ofString "isjunk") t0 .none,aG w (Str.ofString "a") t1 (.ref a),aG w (Str.ofString "b") t2 (.ref b),aG w (Str.ofString "autojunk") t3 (.bool true),aG w (Str.ofString "matching_blocks") t4 .none,aG w (Str.ofString "opcodes") t5 .none]) (n':=_) (List.Mem.head _) (by rfl) (by rfl) (by rfl) (.tail .head) (Nat.le_of_ble_eq_true rfl) ?_
 refine bq (es':=[aG w (Str.ofString "isjunk") t0 .none,aG w (Str.ofString "a") t1 (.ref a),aG w (Str.ofString "b") t2 (.ref b),aG w (Str.ofString "autojunk") t3 (.bool true),aG w (Str.ofString "matching_blocks") t4 .none,aG w (Str.ofString "opcodes") t5 .none]) (n':=_) (List.Mem.head _) (by rfl) (by rfl) (by rfl) (.tail .head) (Nat.le_of_ble_eq_true rfl) ?_
 refine bq (es':=[aG w (Str.ofString "isjunk") t0 .none,aG w (Str.ofString "a") t1 (.ref a),aG w (Str.ofString "b") t2 (.ref b),aG w (Str.ofString "autojunk") t3 (.bool true),aG w (Str.ofString "matching_blocks") t4 .none,aG w (Str.ofString "opcodes") t5 .none]) (n':=_) (List.Mem.head _) (by rfl) (by rfl) (by rfl) (.tail .head) (Nat.le_of_ble_eq_true rfl) ?_
 refine bq (es':=[aG w (Str.ofString "isjunk") t0 .none,aG w (Str.ofString "a") t1 (.ref a),aG w (Str.ofString "b") t2 (.ref b),aG w (Str.ofString "autojunk") t3 (.bool true),aG w (Str.ofString "matching_blocks") t4 .none,aG w (Str.ofString "opcodes") t5 .none,aG w (Str.ofString "fullbcount") _ .none]) (n':=_) (List.Mem.head _) (by rfl) (by rfl) (by rfl) (.tail .head) (Nat.le_of_ble_eq_true rfl) ?_
 refine fo (ll _).1 (List.Mem.head _) (List.Mem.tail _ (List.Mem.head _)) (by rfl) ?_
 refine cR (aw 12) rfl (by k_is) ?_
 refine xe w led a b nb x d _ lb ⟨t0,t1,t2,t3,t4,t5,_,0,0,0⟩ hb hlen hnd C _ _ _ (by decide) fun v new t' ⟨_,hy⟩=>?_
 exact ⟨new,.refl,rfl,hy⟩
theorem xW (w:World) (led:Led) (a b nb x d n t0 t1 t2 t3:Nat) (lb:List (PySem.Str × Nat)) (hb:(b,listOf (strValues lb).toArray nb) ∈ led) (hlen:lb.length ≤ 100) (hnd:(lb.map (·.1)).Nodup) :
  Sq w 167 12 [.ref x,.ref a,.ref b] ((x,instObj 242 d) :: (d,dictOf [aG w (Str.ofString "isjunk") t0 .none,aG w (Str.ofString "a") t1 .none,aG w (Str.ofString "b") t2 .none,aG w (Str.ofString "autojunk") t3 (.bool true)] n) :: led) led
   (fun v new=>v = .none ∧ ∃ y:so,y.x = x ∧ new = d0 w a b .none .none y ∧ ∀ l,w4 w lb l y):=by
 refine (fun h:(rW = rW ∧ K = K) → _=>h ⟨rfl,rfl⟩) ?_
 k_fill
 intro _
 refine br [(Str.ofString "self",Value.ref x),(Str.ofString "a",Value.ref a),(Str.ofString "b",Value.ref b)] 30 (by k_is) (by k_is) (fun _ _=>BindsTo.of_eq rfl) (by rfl) (by rfl) (by kernel_rfl!) ?_
 intro C u
 refine fo (ll _).2.1 (List.Mem.head _) (List.Mem.tail _ (List.Mem.head _)) (by rfl) ?_
 refine cR (aw 12) rfl (by k_is) ?_
 refine Sq.useE (ya w led a x d n t0 t1 t2 t3) (by decide) fun z t _=>?_
 refine fo (ll _).2.2.1 (List.Mem.head _) (List.Mem.tail _ (List.Mem.head _)) (by rfl) ?_
 refine cR (aw 12) rfl (by k_is) ?_
 exact yH w led a b nb x d _ t0 t1 t2 t3 _ _ lb hb hlen hnd C _ _ _ (by decide) fun v new t' ⟨_,hy⟩=>⟨new,.refl,rfl,hy⟩
theorem CY (w:World) (led:Led) (a b nb:Nat) (lb:List (PySem.Str × Nat)) (hb:(b,listOf (strValues lb).toArray nb) ∈ led) (hlen:lb.length ≤ 100) (hnd:(lb.map (·.1)).Nodup) :
  Sq w 242 20 [.none,.ref a,.ref b] led led (kH (fun y:so=>.ref y.x) (d0 w a b .none .none) fun y=>∀ l,w4 w lb l y):=by
 refine (fun h:(rW = rW ∧ K = K) → _=>h ⟨rfl,rfl⟩) ?_
 k_fill
 intro _
 refine Bt (f:=160) (fun x=>[(Str.ofString "self",Value.ref x),(Str.ofString "isjunk",Value.none),(Str.ofString "a",Value.ref a),(Str.ofString "b",Value.ref b),(Str.ofString "autojunk",Value.bool true)]) 30 (by k_is) (by k_is) (by k_is) (by k_is) (by k_is) (fun x s X=>binds_K X rfl (by k_is) rfl rfl rfl) (by rfl) (by rfl) (fun x=>by kernel_rfl!) ?_
 intro x d C u
 refine bq (es':=[aG w (Str.ofString "isjunk") _ .none]) (n':=_) (List.Mem.head _) (by rfl) (by rfl) (by rfl) (.tail .head) (Nat.le_of_ble_eq_true rfl) ?_
 refine bq (es':=[aG w (Str.ofString "isjunk") _ .none,aG w (Str.ofString "a") _ .none]) (n':=_) (List.Mem.head _) (by rfl) (by rfl) (by rfl) (.tail .head) (Nat.le_of_ble_eq_true rfl) ?_
 refine bq (es':=[aG w (Str.ofString "isjunk") _ .none,aG w (Str.ofString "a") _ .none,aG w (Str.ofString "b") _ .none]) (n':=_) (List.Mem.head _) (by rfl) (by rfl) (by rfl) (.tail .head) (Nat.le_of_ble_eq_true rfl) ?_
 refine bq (es':=[aG w (Str.ofString "isjunk") _ .none,aG w (Str.ofString "a") _ .none,aG w (Str.ofString "b") _ .none,aG w (Str.ofString "autojunk") _ (.bool true)]) (n':=_) (List.Mem.head _) (by rfl) (by rfl) (by rfl) (.tail .head) (Nat.le_of_ble_eq_true rfl) ?_
 refine fo (ll _).2.2.2 (List.Mem.head _) (List.Mem.tail _ (List.Mem.head _)) (by rfl) ?_
 refine cR (aw 12) rfl (by k_is) ?_
 exact xW w led a b nb x d _ _ _ _ _ lb hb hlen hnd C _ _ _ (by decide) fun v new t' ⟨_,y,e1,e2,e3⟩=>⟨rfl,new,.refl,y,congrArg Value.ref e1.symm,e2,e3⟩
end
section
open PyProof.Rows.LCg PyProof.Rows.LCt
section
variable {w:World} {cs:Sc} {lv:Nat} {C:Cx w cs lv} {t:Nat} {m:Map} {l l':Led} {σ:Type}
noncomputable def cP (C:Cx w cs lv) (n:Nat) (o:Option PySem.Expr) (t:Nat) (m:Map) (l:Led) (k:KV):Prop:=match o with
 | none=>k .none t m l
 | some e=>cE C n e t m l k
theorem AC {n:Nat} {o:Option PySem.Expr} {k:KV} (h:cP C n o t m l k):af C (evalPart o C.env) t m l k:=by
 cases o with
 | none=>exact fun s H=>evalPart_none_step (H.ret h)
 | some e=>exact fun s H=>evalPart_some_step (aw n h s H)
noncomputable abbrev Ey (a b:Value):Obj:={ cls:=.type "slice",data:=.fields #[a,b,.none] }
theorem fX {n:Nat} {lo hi:Option PySem.Expr} {p:Pos} {k:KV} (h:cP C n lo t m l fun a t m l=>cP C n hi t m l fun b t m l=>∀ S,k (.ref S) t m ((S,Ey a b) :: l)):af C (eval (.Slice lo hi none p) C.env) t m l k:=fun s H =>
 wpAny_Slice ((AC h).run H fun a s₁ t₁ m₁ l₁ H₁ h₁=>(AC h₁).run H₁ fun b s₂ t₂ m₂ l₂ H₂ h₂=>evalPart_none_step (let ⟨M,F,hM⟩:=H₂.M
  At.ret (s:={ s₂ with heap:=s₂.heap.push (Ey a b) }) ⟨H₂.tk,H₂.gens,H₂.drawn,H₂.os,H₂.N.push F _,ay (fun q hq=>Nat.ne_of_lt (Heap.lt_size (H₂.N q hq).1)) H₂.nd,M,F.push _,hM⟩ (h₂ _)))
theorem fS {S:Addr} {x:PySem.Str} {tk:Nat} {a b:Value} {u v:Option (Int × Tok)} {value slice:PySem.Expr} {k:KV} (hS:(S,Ey a b) ∈ l) (ea:a = partValue u) (eb:b = partValue v) (hz:x.length ≤ 100000) (h:∀ t t',k (.str (Txt.slice x (u.map (·.1)) (v.map (·.1))) t) t' m l)
  (hs:subscripted slice false (.str x tk) (.ref S) = operate [.ref S,.str x tk] (getItem (.str x tk) (.ref S)):=by with_unfolding_all rfl) (ht:∀ r,letTemporaryGo value (.str x tk) r = pure ():=by intro _;with_unfolding_all rfl):af C (subscriptTail value slice (.str x tk) (.ref S)) t m l k :=
 cg fun s M Q _ F N nd back=>by
  subst ea eb
  exact tail_of_ItemOn ⟨"str",_,PySem.F.slot_str_getitem.lookup,typeIs_str _ _ _,wpAny_getItem_str_slice (l:=u) (u:=v) (st:=none) ⟨_,(N _ hS).1,rfl,rfl⟩ rfl (post_val_or_str ⟨Nat.le_trans (Txt.slice_le x _ _) (Nat.le_trans hz (Nat.le_of_ble_eq_true rfl)),fun t' k'=>back _ _ _ _ F N nd (h t' k')⟩)⟩ hs ht
theorem DH {n:Nat} {e:PySem.Expr} {p:Pos} {k:KV} (h:cE C n e t m l fun v t m l=>∃ i u,v = .int i u ∧ k (.int (-i) t) t.succ m l):af C (eval (.UnaryOp .USub e p) C.env) t m l k:=fun s H =>
 UnaryOp_ ((aw n h).run H fun v s₁ t₁ m₁ l₁ H₁ ⟨i,u,e,h₁⟩=>by subst e;exact PySem.P.neg_int (H₁.tk ▸ H₁.tok.ret h₁))
theorem EW {n:Nat} {a b:PySem.Expr} {pos:Pos} {k:KV} (h:cE C n a t m l fun v t m l=>Bx C v t m l (fun t m l=>k v t m l) fun t m l=>cE C n b t m l k):af C (eval (.BoolOp .Or [a,b] pos) C.env) t m l k:=fun s H =>
 BoolOp_or ((aw n h).run H fun v s₁ _ _ _ H₁ h₁=>(pX h₁).run H₁ fun c s₂ _ _ _ H₂ h₂=>by
  cases c with
  | true=>exact H₂.ret (h₂.1 rfl)
  | false=>exact BoolOp_one (aw n (h₂.2 rfl) s₂ H₂))
theorem Da {body:List Stmt} {h₀:ExceptHandler} {hs:List ExceptHandler} {pos:Pos} {K:KF} (n:Nat) (h:cS C n body K t m l):af C (exec (.Try body (h₀ :: hs) [] [] pos) C.env) t m l K:=fun s H =>
 wpAny_Try_except (wpAny_mono (bY n h s H) (fun f s₁ q=>by
  cases f with
  | next=>exact wpAny_execs_nil q
  | _=>exact q) fun _ _ x=>x.elim)
noncomputable def yE (P:Params) (ax:Addr) (vs:List Value) (l:Led):Prop:=(ax,bo vs) ∈ l ∨ ∃ lo n,(K P).lookup ax = some lo ∧ lo.cls = .type "tuple" ∧ lo.data = .seq vs.toArray n
theorem yE.is {ax L:Addr} {vs:List Value} {l:Led} {h₀ h:Heap} {M:PySem.Str → Option Value} {P:Params} (T:yE P ax vs l) (X:(K P).In h₀) (F:Fr h₀ L h M) (N:News h₀ L h l):h.IsTuple ax vs.toArray:=by
 rcases T with T | ⟨lo,n,h1,h2,h3⟩
 ·exact ⟨_,(N _ T).1,rfl,_,rfl⟩
 ·exact ⟨lo,F.keep _ _ (X _ _ h1),h2,n,h3⟩
theorem vP {ax:Addr} {vs:List Value} {tg iter:PySem.Expr} {body orelse:List Stmt} {pos:Pos} {K:KF} (Ld:σ → Led) (Mp:σ → Map) (P:Nat → σ → Prop) (c₀:σ) (n:Nat) (h:cE C 12 iter t m l fun v _ m' l'=>v = .ref ax ∧ ar m' (Mp c₀) ∧ aq (Ld c₀) l') (hT:∀ c,yE w.params ax vs (Ld c)) (hp:P 0 c₀)
  (turn:∀ i c v t own,vs[i]? = some v → P i c → cA C (cE C 12) tg v t (Mp c) (Ld c++own) (cS C n body (fG Ld Mp (P (i + 1)) own K)))
  (done:∀ c t,P vs.length c → cS C n orelse K t (Mp c) (Ld c)) (hs:∀ v,foldedSetIterable iter C.env v = pure v:=by intro _;rfl):af C (exec (.For tg iter body orelse pos) C.env) t m l K:=fun s H =>
 wpAny_For ((aw 12 h).run H fun v s₁ t₁ m₁ l₁ H₁ ⟨e,hm,hl⟩=>by
  subst e
  obtain ⟨M,F,hM⟩:=H₁.M
  refine xf (vs:=vs) (news:=Ld c₀) (fun i=>uK C Ld Mp (P i)) rfl F (fun p hp=>H₁.N p (hl.mem p hp)) ?_ ⟨c₀,rfl,hl.nd H₁.nd,hp,hM.1,fun y u e=>hM.2 y u (bH hm e)⟩ .never ?_ ?_
  ·rintro i M₁ _ h ⟨c,rfl,_⟩ F₁ N₁
   exact (hT c).is C.X F₁ N₁
  ·rintro i v M₁ _ h tk own hv hoff ⟨c,rfl,hnd,hP,hM₁⟩ F₁ N₁
   obtain ⟨own',ho,HA⟩:=eN (tk:=tk) H₁ hnd hoff F₁ N₁ hM₁
   exact (mK (aw 12) (turn i c v tk own' hv hP)).run HA fun _ s₂ _ _ _ H₂ h₂=>(bY n h₂).run H₂ fun fl s₃ t' m' l' H' hk=>dA H₁ ho H' hk
  ·rintro M₁ _ h tk ⟨c,rfl,hnd,hP,hM₁⟩ F₁ N₁
   exact bY n (done c tk hP) { s₁ with heap:=h,toks:=tk } ⟨rfl,H₁.gens,H₁.drawn,H₁.os,N₁,hnd,M₁,F₁,hM₁⟩) hs
theorem uv {ax:Addr} {vs:List Value} {elts:List PySem.Expr} {kx:Nat} {pos:Pos} {xs:List PySem.Str} {k:KN} (hT:yE w.params ax vs l) (hn:hU elts = some xs) (hl:xs.length = vs.length) (h:xK C xs vs t m l k):af C (assign (.Tuple elts kx pos) C.env (.ref ax)) t m l fun _ t m l=>k t m l :=
 fun s H=>let ⟨_,F,_⟩:=H.M;let ⟨lo,h1,h2,n,h3⟩:=hT.is C.X F H.N;fj H ⟨lo,h1,h2,n,h3⟩ hn hl h
theorem rq {ax:Addr} {lo:Obj} {vs:List Value} {nn:Nat} {elts:List PySem.Expr} {kx:Nat} {px p1 p2 p3 pos:Pos} {fn x:PySem.Str} {xs:List PySem.Str} {body:List Stmt} {K':KF} (Ld:σ → Led) (Mp:σ → Map) (P:Nat → σ → Prop) (c₀:σ) (n:Nat) (hk:(K w.params).lookup ax = some lo) (hc:lo.cls = .type "tuple") (hd:lo.data = .seq vs.toArray nn)
  (h:cE C 12 (.Name fn p1) t m l fun v t' m' l'=>v = .type "enumerate" ∧ rI (cE C 12) [.Name x p2] t' m' l' fun vs _ m₂ l₂=>vs = [.ref ax] ∧ ar m₂ (Mp c₀) ∧ aq (Ld c₀) l₂) (hp:P 0 c₀)
  (hn:hU elts = some xs) (hxl:xs.length = 2) (turn:∀ i c v tT t own,vs[i]? = some v → P i c → xK C xs [.int (i:Int) tT,v] t (Mp c) (Ld c++own) (cS C n body (fG Ld Mp (P (i + 1)) own K')))
  (done:∀ c t,P vs.length c → K' .next t (Mp c) (Ld c)) (hs:∀ v,foldedSetIterable (.Call (.Name fn p1) [.Name x p2] [] p3) C.env v = pure v:=by intro _;rfl):af C (exec (.For (.Tuple elts kx px) (.Call (.Name fn p1) [.Name x p2] [] p3) body [] pos) C.env) t m l K':=fun s H=>by
 obtain ⟨_,F₀,_⟩:=H.M
 refine For_turns F₀ (Call_ ((aw 12 h).run H fun fv s₁ t₁ m₁ l₁ H₁ h₁=>?_) (i6 rfl)) hs .never
 obtain ⟨rfl,h₁⟩:=h₁
 refine callWith_of (P:=fun _=>True) (by rw [dF (es:=[.Name x p2]) rfl];rfl) (fun _ _=>⟨_,.inr (.inl rfl),Looks.of_pure rfl⟩) (cB (aw 12) rfl h₁ H₁ fun vs s₂ t₂ m₂ l₂ H₂ h₂=>⟨trivial,?_⟩)
 obtain ⟨rfl,hm,hl⟩:=h₂
 obtain ⟨M,F,hM⟩:=H₂.M
 show wpAny _ _ (call (.type "enumerate") [.ref ax]) _ _ _
 refine uz (news:=Ld c₀) rfl F (fun p hp=>H₂.N p (hl.mem p hp)) C.X hk hc hd fun I hI=>?_
 refine pC (fun i=>uK C Ld Mp (P i)) (fun _ _ _ _=>trivial) ⟨c₀,rfl,hl.nd H₂.nd,hp,hM.1,fun y u e=>hM.2 y u (bH hm e)⟩ (fun p hp b hb=>?_) ?_ ?_
 ·simp only [List.map_cons,List.map_nil,List.mem_cons,List.not_mem_nil,or_false] at hb
  rcases hb with rfl | rfl
  ·exact Nat.ne_of_lt (Nat.lt_succ_of_lt (hI p hp))
  ·exact Nat.ne_of_lt (hI p hp)
 ·rintro i a v M₁ _ h tk own ha hv hoff ⟨c,rfl,hnd,hP,hM₁⟩ F₁ N₁
  have hil:i < vs.length:=by have h9:=(List.getElem?_eq_some_iff.mp ha).1;rwa [enumItems_length] at h9
  have hvi:=List.getElem?_eq_getElem hil
  rw [enumItems_get vs 0 i hvi] at ha
  cases Option.some.inj ha
  obtain ⟨T,tT,rfl,hT⟩:=hv
  obtain ⟨own',ho,HA⟩:=eN (tk:=tk) H₂ hnd hoff F₁ N₁ hM₁
  have hT:IsTup h T ([.int (i:Int) tT,vs[i]]:List Value).toArray:=by rw [Nat.zero_add] at hT;exact hT
  exact wpAny_mono (fj HA hT hn hxl (turn i c _ tT tk own' hvi hP)) (fun _ s₁ ⟨_,_,_,H₁,h₁⟩=>(bY n h₁).run H₁ fun fl s₂ t' m' l' H' hk=>dA H₂ ho H' hk) fun _ _ x=>x
 ·rintro M₁ _ h tk ⟨c,rfl,hnd,hP,hM₁⟩ F₁ N₁
  rw [enumItems_length] at hP
  exact At.ret ⟨rfl,H₂.gens,H₂.drawn,H₂.os,N₁,hnd,M₁,F₁,hM₁⟩ (done c tk hP)
theorem yR {a b:PySem.Str} {i j:Int} {n1 n2 n3 n4:Nat} {p1 p2 p3 p4 pos:Pos} {k:KV} (hab:[a,b].Nodup) (h:∀ D o u v t',(D == sysModules) = false → o.IsDictOf (PySem.strKind PR w) [(a,.int i u),(b,.int j v)] → k (.ref D) t' m ((D,o) :: l)) :
  af C (eval (.Dict [some (.Constant (.str a) n1 p1),some (.Constant (.str b) n2 p2)] [.Constant (.int i) n3 p3,.Constant (.int j) n4 p4] pos) C.env) t m l k :=
 cg fun s M Q _ F N nd back=>Dict_made_str rfl F rfl rfl (fun e=>nomatch e) (Nat.le_of_ble_eq_true rfl) fun F₁ =>
  pairTrees_cons_walk (PySem.Calls.Constant_str (wpAny_Constant_int (pairTrees_cons_walk (PySem.Calls.Constant_str (wpAny_Constant_int (pairTrees_nil_walk
   (kdp_made_str F N C.T.nolimit rfl hab rfl fun h' o F' N' _ lo hd _ ne=>back _ _ _ _ F' N' (ay ne nd) (h _ o _ _ _ lo hd))))))))
theorem yw {D:Addr} {o:Obj} {kvs:List (PySem.Str × Value)} {x:PySem.Str} {tk:Nat} {v:Value} {value slice:PySem.Expr} {k:KV} (hd:(D,o) ∈ l) (lo:(D == sysModules) = false) (ho:o.IsDictOf (PySem.strKind PR w) kvs) (e:valueAt kvs x = some v) (h:k v t.succ m l)
  (hs:subscripted slice false (.ref D) (.str x tk) = operate [.ref D,.str x tk] (getItem (.ref D) (.str x tk)):=by with_unfolding_all rfl):af C (subscriptTail value slice (.ref D) (.str x tk)) t m l k :=
 cg fun s M Q ht F N nd back=>by
  subst ht
  have hD:s.heap.DictOf (PySem.strKind PR w) D kvs:=let ⟨es,ep,q⟩:=ho;⟨o,es,ep,(N _ hd).1,q⟩
  exact tail_any hD.typeIs slot_dict_getitem.lookup (wpAny_getItem_of (strKind_is _ _ _ _) hD.mapOf e (back _ _ _ _ F N nd h)) hs
theorem Ab {a b:Int} {t1 t2:Nat} {k:KV} (h:k (.int (Builtin.bitAnd a b) t) t.succ m l):af C (binaryOp .BitAnd (.int a t1) (.int b t2)) t m l k:=fun s H=>and_int (H.tk ▸ H.tok.ret h)
theorem B9 {x:PySem.Str} {i:Int} {t1 t2:Nat} {k:KV} (hx:x.length ≤ 16) (h0:0 ≤ i) (hi:i ≤ 1048576) (h:∀ t t',k (.str (Txt.mul x i) t) t' m l):af C (binaryOp .Mult (.str x t1) (.int i t2)) t m l k :=
 cg fun s M Q _ F N nd back=>PySem.W.KXi.mul rfl hx (Int.le_trans (by decide) h0) hi fun t' k' _ _=>back _ _ _ _ F N nd (h t' k')
theorem xU {x y:PySem.Str} {t1 t2:Nat} {k:KV} (h:k (.int (Txt.rfind x y) t) t.succ m l):af C (call (.builtin "str.rfind") [.str x t1,.str y t2]) t m l k:=fun s H=>SC.rfind (H.tk ▸ H.tok.ret h)
theorem vI {x y:PySem.Str} {t1 t2:Nat} {k:KV} (hx:x.length ≤ 100000) (h:∀ t t',k (.str (Txt.rstripChars x y) t) t' m l):af C (call (.builtin "str.rstrip") [.str x t1,.str y t2]) t m l k :=
 cg fun s M Q _ F N nd back=>SC.rstripChars (fun t' k'=>back _ _ _ _ F N nd (h t' k')) (Nat.le_trans hx (Nat.le_of_ble_eq_true rfl))
theorem vg {x y:PySem.Str} {t1 t2:Nat} {k:KV} (h:k (.bool (Txt.startswith x y)) t m l):af C (call (.builtin "str.startswith") [.str x t1,.str y t2]) t m l k:=fun s H=>SC.startswith (H.ret h)
theorem A6 {x y:PySem.Str} {t1 t2:Nat} {k:KV} (h:k (.bool (Txt.endswith x y)) t m l):af C (call (.builtin "str.endswith") [.str x t1,.str y t2]) t m l k:=fun s H=>SC.endswith (H.ret h)
theorem zQ {x y:PySem.Str} {t1 t2:Nat} {k:KV} (hy:(y.length == 0) = false) (hx:x.length ≤ 100000) (h:∀ D t' lx,lx.map (·.1) = Txt.split x y → (∀ a ∈ lx.map (·.1),a.length ≤ x.length) → k (.ref D) t' m ((D,listOf (strValues lx).toArray 0) :: l)):af C (call (.builtin "str.split") [.str x t1,.str y t2]) t m l k :=
 cg fun s M Q _ F N nd back=>splitN1A F N hy (fun lx h' k' e _ hB _ F' N'=>back _ _ _ _ F' N' (ay (fun q hq=>Nat.ne_of_lt (Heap.lt_size (N q hq).1)) nd) (h _ k' lx e hB)) (Nat.le_trans (Nat.add_le_add_right hx 2) (Nat.le_of_ble_eq_true rfl))
theorem xl {x y:PySem.Str} {t1 t2:Nat} {k:KV} (hx:x.length ≤ 100000) (hy:y.length ≤ 100000) (h:∀ t t',k (.str (x++y) t) t' m l):af C (inplaceOp .Add (.str x t1) (.str y t2)) t m l k :=
 cg fun s M Q _ F N nd back=>SB.iadd (fun t' k'=>back _ _ _ _ F N nd (h t' k')) (Nat.le_trans (Nat.add_le_add hx hy) (Nat.le_of_ble_eq_true rfl))
theorem Cl {x:PySem.Str} {t1:Nat} {k:KV} (hx:x.length ≤ 100000) (h:∀ t',k (.int (x.length:Nat) t') t'.succ m l):af C (call (.builtin "len") [.str x t1]) t m l k :=
 cg fun s M Q _ F N nd back=>PyProof.Rows.len_str (by exact fun h9=>lI [_] [(1,.l (.k 9223372036854775808) V0),(1,.l V0 (.k 100000))] (.c h9 (.c (zl hx) .n))) (back _ _ _ _ F N nd (h _))
end
theorem yz {w:World} {f:Addr} {lv:Nat} {vs us:List Value} {l l':Led} {R:Value → Led → Prop} {name qual:PySem.Str} {params:Arguments} {body:List Stmt} {scope:Scope} {dV kV doc pm cdv ct oc:Value} {an od:Option Addr} {osl:Array (Option Value)} {g₁:Addr → Option Map} (binds:Addr → Map) (n:Nat)
  (ho:(K w.params).lookup f = some ⟨oc,od,.func (fnOf name qual params body scope dV kV doc pm an cdv ct),osl⟩) (hcd:codeIn (K w.params) cdv qual = true) (hv:vs.drop (params.posonlyargs.length + params.args.length) = us)
  (hp:peek1 (K w.params) ⟨PR,w.params⟩ (bindArgs (fnOf name qual params body scope dV kV doc pm an cdv ct) ⟨vs,[]⟩) = some (bo us,g₁)) (hg:∀ D,g₁ D = some (binds D))
  (hsc:(!scope.isCoroutine && (!scope.isGenerator && (scope.names.all fun x=>x.2 != .cell))) = true) (hk:scope.kind = .function) (hb:∀ D,(tD (binds D) && (binds D).all fun p=>gN ⟨scope,false⟩ p.1) = true)
  (h:∀ (C:Cx w ⟨scope,false⟩ lv) (t:Nat) (D:Addr),cS C n body (EO l' R) t (binds D) ((D,bo us) :: l)):Sq w f lv.succ vs l l' R:=by
 intro cs lv2 C t m k hlv hk' s H
 obtain ⟨h1,h2⟩:=Bool.and_eq_true_iff.mp hsc
 obtain ⟨h3,h4⟩:=Bool.and_eq_true_iff.mp h2
 obtain ⟨M,F,hM⟩:=H.M
 have hd:=C.hd
 have hu:=C.hu
 have hl:∀ D,∀ y ∈ binds D,scope.names.lookup y.1 = some .local:=fun D y hy=>(bw (List.all_eq_true.mp (Bool.and_eq_true_iff.mp (hb D)).2 y hy)).1
 refine wpAny_call (kp_rest (binds:=binds) C.B F C.X H.N C.T rfl rfl C.hk ho hcd (show C.dp < recursionLimit by exact aA fun h9=>lN [_,_,0,_] [(1,.l V0 V1),(1,.t (.a V1 V3) V0)] (.c h9 (.c hd .n))) hv hp hg hl (fun D g L' h₁ hlt FG F' N' B' X' T'=>?_) (by simpa using h1) (by simpa using h3) hk (fun x hx=>by simpa using List.all_eq_true.mp h4 x hx))
 obtain ⟨h5,h6⟩:=Bool.and_eq_true_iff.mp (hb D)
 have HA:At (cs:=⟨scope,false⟩) (lv:=lv) ⟨C.dp + 1,C.un + 3,C.gd,qual,f,cdv,[],C.env :: C.outer,C.A,C.base,g,L',C.mean,C.mg,C.mb,s,B',X',T',hk,by exact aA fun h9=>lN [_,_,_,_] [(1,.l V0 (.a (.a V1 K1) V2)),(1,.l (.a V2 K1) V3),(1,.t (.a V1 V3) V0)] (.c h9 (.c hlv (.c hd .n))),by exact aA fun h9=>lN [_,_,_,_] [(1,.l V0 (.a (.a V1 (.k 3)) (.m 40 V2))),(40,.l (.a V2 K1) V3),(1,.t (.a V1 (.m 40 V3)) V0)] (.c h9 (.c hlv (.c hu .n))),fun _=>True,fun _ _=>trivial⟩ { s with heap:=h₁,toks:=s.toks + (binds D).length } (s.toks + (binds D).length) (binds D) ((D,bo us) :: l) :=
  ⟨rfl,rfl,rfl,rfl,N',ay (ir hlt) H.nd,_,F',trivial,fun x v e=>⟨fT h5 e,List.all_eq_true.mp h6 _ (dS e)⟩⟩
 refine wpAny_mono (bY n (h _ _ D) _ HA) (fun fl s' q=>?_) (fun _ _ x=>x.elim)
 obtain ⟨t',m',l2,H',new,hs,hR⟩:=q
 obtain ⟨M',F',_⟩:=H'.M
 refine leaveK_ F' (fun p hp=>H'.N p (hs.mem p hp)) fun F2 N2=>?_
 have:=hk' (xm fl) new s'.toks hR
 refine ⟨s'.toks,m,new++l',⟨rfl,H'.gens.trans H.gens,H'.drawn.trans H.drawn,H'.os.trans H.os,N2,(hs.nd H'.nd),M,F2,hM⟩,?_⟩
 cases fl <;> exact this
end
section
theorem Ds (P:Params):kitOne (K P) (.type "str") (.type "bytes") = some false:=by
 refine (fun h:(rW = rW ∧ K = K) → kitOne (K P) (.type "str") (.type "bytes") = some false=>h ⟨rfl,rfl⟩) ?_
 k_fill
 intro _
 first | k_is | kernel_rfl!
section
variable {w:World} {cs:Sc} {lv:Nat} {C:Cx w cs lv} {t:Nat} {m:Map} {l:Led}
theorem yM {x:PySem.Str} {tk:Nat} {k:KV} (h:k (.type "str") t m l):af C (call (.type "type") [.str x tk]) t m l k :=
 fun s H=>call_type_of (Tx := "str") rfl (by decide +kernel) (H.ret h)
theorem uS {x:PySem.Str} {tk:Nat} {k:KV} (h:∀ t',k (.bool false) t' m l):af C (call (.builtin "isinstance") [.str x tk,.type "bytes"]) t m l k :=
 cg fun s M Q ht F N nd back=>by
  have X0:=C.X.keeps F.keep
  exact kia_one kitx_str X0 trivial (Ds _) (by kit_nb) fun t'=>back _ _ _ _ F N nd (h t')
theorem zJ {T:Addr} {k:KV} (hT:(T,bo [.type "str",.type "bytes"]) ∈ l) (h:k (.bool true) t m l):af C (call (.builtin "issubclass") [.type "str",.ref T]) t m l k :=
 fun s H=>tO (n:=0) (H.N _ hT).1 (H.ret h)
end
theorem cX (w:World) (led:Led) (x:PySem.Str) (t0:Nat):Sq w 326 2 [.str x t0] led led (gl x):=by
 refine (fun h:(rW = rW ∧ K = K) → _=>h ⟨rfl,rfl⟩) ?_
 k_fill
 intro _
 refine br [(Str.ofString "path",Value.str x t0)] 30 (by k_is) (by k_is) (fun _ _=>BindsTo.of_eq rfl) (by rfl) (by rfl) (by kernel_rfl!) ?_
 intro C u
 refine yM ?_
 refine bb (n:=9) ?_
 refine bg fun T=>?_
 refine zJ (.head _) ⟨fun _=>?_,fun h=>nomatch h⟩
 exact ⟨[],.drop .refl,rfl,_,rfl⟩
theorem uO (w:World) (led:Led) (x:PySem.Str) (t0:Nat):Sq w 340 2 [.str x t0] led led (gl (Str.ofString "/")):=by
 refine (fun h:(rW = rW ∧ K = K) → _=>h ⟨rfl,rfl⟩) ?_
 k_fill
 intro _
 refine br [(Str.ofString "path",Value.str x t0)] 30 (by k_is) (by k_is) (fun _ _=>BindsTo.of_eq rfl) (by rfl) (by rfl) (by kernel_rfl!) ?_
 intro C u
 refine bb (n:=9) ?_
 refine uS fun t1=>⟨(fun h=>nomatch h),fun _=>?_⟩
 exact ⟨[],.refl,rfl,_,rfl⟩
theorem Sq.useS {w:World} {cs:Sc} {lv:Nat} {C:Cx w cs lv} {t:Nat} {m:Map} {l:Led} {y:PySem.Str} {f:Addr} {lv':Nat} {vs:List Value} {k:KV} (S:Sq w f lv' vs l l (gl y)) (hl:lv' ≤ lv) (h:∀ t t',k (.str y t) t' m l):af C (call (.ref f) vs) t m l k :=
 S C t m k hl fun _ _ t' ⟨e,t1,e1⟩=>by subst e e1;exact h t1 t'
theorem yZ (w:World) (led:Led) (x:Int) (t0:Nat):Sq w 375 2 [.int x t0] led led (DE (Builtin.bitAnd x 61440)):=by
 refine (fun h:(rW = rW ∧ K = K) → _=>h ⟨rfl,rfl⟩) ?_
 k_fill
 intro _
 refine br [(Str.ofString "mode",Value.int x t0)] 30 (by k_is) (by k_is) (fun _ _=>BindsTo.of_eq rfl) (by rfl) (by rfl) (by kernel_rfl!) ?_
 intro C u
 exact Ab ⟨[],.refl,rfl,_,rfl⟩
theorem np (w:World) (led:Led) (x:PySem.Str) (t0:Nat) (hx:x.length ≤ 1000):Sq w 361 4 [.str x t0] led led (gl (eK x)):=by
 refine (fun h:(rW = rW ∧ K = K) → _=>h ⟨rfl,rfl⟩) ?_
 k_fill
 intro _
 refine br [(Str.ofString "p",Value.str x t0)] 30 (by k_is) (by k_is) (fun _ _=>BindsTo.of_eq rfl) (by rfl) (by rfl) (by kernel_rfl!) ?_
 intro C u
 have hz:(cU x).length ≤ x.length:=Txt.slice_le x _ _
 refine @cR _ _ _ _ _ _ _ _ _ (aw 12) _ _ _ _ _ rfl (by k_is) ?_
 refine Sq.useS (cX w _ x _) (by decide) fun t1 t2=>?_
 refine @cR _ _ _ _ _ _ _ _ _ (aw 12) _ _ _ _ _ rfl (by k_is) ?_
 refine Sq.useS (uO w _ x _) (by decide) fun t3 t4=>?_
 refine @dT _ _ _ _ _ _ _ _ _ _ _ _ _ PySem.F.slot_str_rfind PySem.F.type_str_rfind ?_
 refine xU ?_
 refine fX (n:=9) ?_
 intro S
 refine fS (u:=none) (v:=some (_,_)) (.head _) rfl rfl (by exact ae fun h9=>lN [_] [(1,.t (.k 100000) V0),(1,.l V0 (.k 1000))] (.c h9 (.c hx .n))) fun t5 t6=>?_
 refine bb (n:=9) ?_
 refine gc (by show (cU x).length ≤ _;exact ae fun h9=>lN [_,_] [(1,.t (.k 16777216) V0),(1,.l V1 (.k 1000)),(1,.l V0 V1)] (.c h9 (.c hx (.c hz .n)))) (fun h1 t7=>?_) fun h1 t7=>?_
 ·refine Cl (by show (cU x).length ≤ _;exact ae fun h9=>lN [_,_] [(1,.t (.k 100000) V0),(1,.l V1 (.k 1000)),(1,.l V0 V1)] (.c h9 (.c hx (.c hz .n)))) fun t8=>?_
  refine B9 (by decide) (by exact ch fun h9=>lI [_] [(1,.t V0 K0),(1,.l K0 V0)] (.c h9 (.c (zn _) .n))) (by show ((cU x).length:Int) ≤ _;exact ch fun h9=>lI [_,_] [(1,.t (.k 1048576) V0),(1,.l V1 (.k 1000)),(1,.l V0 V1)] (.c h9 (.c (zl hx) (.c (zl hz) .n)))) fun t9 t10=>⟨fun h2=>?_,fun h2=>?_⟩
  ·refine @dT _ _ _ _ _ _ _ _ _ _ _ _ _ PySem.F.slot_str_rstrip PySem.F.type_str_rstrip ?_
   refine vI (by show (cU x).length ≤ _;exact ae fun h9=>lN [_,_] [(1,.t (.k 100000) V0),(1,.l V1 (.k 1000)),(1,.l V0 V1)] (.c h9 (.c hx (.c hz .n)))) fun t11 t12=>?_
   exact ⟨[],.drop .refl,cr (BA h1 (bne_iff_ne.mpr h2))⟩
  ·exact ⟨[],.drop .refl,cr (Ct h1 (bne_eq_false_iff_eq.mpr h2))⟩
 ·exact ⟨[],.drop .refl,cr (AV h1)⟩
theorem jV (w:World) (led:Led) (x:PySem.Str) (t0:Nat) (hx:x.length ≤ 1000) (h1:Txt.slice x none (some 1) = Str.ofString "/") (h2:Txt.slice x (some 1) (some 2) ≠ Str.ofString "/") :
  Sq w 354 4 [.str x t0] led led (kH (fun y:Addr × Nat × Nat × Nat=>.ref y.1) (fun y=>[(y.1,bo [.str (Str.ofString "") y.2.1,.str (Str.ofString "/") y.2.2.1,.str (Txt.slice x (some 1) none) y.2.2.2])]) fun _=>True):=by
 refine (fun h:(rW = rW ∧ K = K) → _=>h ⟨rfl,rfl⟩) ?_
 k_fill
 intro _
 refine br [(Str.ofString "p",Value.str x t0)] 30 (by k_is) (by k_is) (fun _ _=>BindsTo.of_eq rfl) (by rfl) (by rfl) (by kernel_rfl!) ?_
 intro C u
 refine @cR _ _ _ _ _ _ _ _ _ (aw 12) _ _ _ _ _ rfl (by k_is) ?_
 refine Sq.useS (cX w _ x _) (by decide) fun t1 t2=>?_
 refine bb (n:=9) ?_
 refine uS fun t1=>⟨(fun h=>nomatch h),fun _=>?_⟩
 refine bb (n:=9) ?_
 refine fX (n:=9) ?_
 intro S
 refine fS (u:=none) (v:=some (_,_)) (.head _) rfl rfl (by exact ae fun h9=>lN [_] [(1,.t (.k 100000) V0),(1,.l V0 (.k 1000))] (.c h9 (.c hx .n))) fun t5 t6=>⟨(fun h=>(h h1).elim),fun _=>?_⟩
 refine bb (n:=9) ?_
 refine fX (n:=9) ?_
 intro S
 refine fS (u:=some (_,_)) (v:=some (_,_)) (.head _) rfl rfl (by exact ae fun h9=>lN [_] [(1,.t (.k 100000) V0),(1,.l V0 (.k 1000))] (.c h9 (.c hx .n))) fun t5 t6=>⟨fun _=>?_,fun h=>(h2 h).elim⟩
 refine fX (n:=9) ?_
 intro S
 refine fS (u:=some (_,_)) (v:=none) (.head _) rfl rfl (by exact ae fun h9=>lN [_] [(1,.t (.k 100000) V0),(1,.l V0 (.k 1000))] (.c h9 (.c hx .n))) fun t5 t6=>?_
 refine bg fun T=>?_
 exact ⟨[_],.cons (.drop (.drop (.drop .refl))),(_,_,_,_),rfl,rfl,trivial⟩
end
section
theorem io {l:List PySem.Str} {i:Nat} {y:PySem.Str} {lv:List (PySem.Str × Nat)} (hy:l[i]? = some y) (hP:lv.map (·.1) = yL (l.take i)) {z:List PySem.Str} (e:bt (lv.map (·.1)) y = z):z = yL (l.take (i + 1)):=by
 rw [uY hy,← hP,e]
section
variable {w:World} {cs:Sc} {lv:Nat} {C:Cx w cs lv} {t:Nat} {m:Map} {l l':Led}
theorem zF {D n u:Nat} {lx:List (PySem.Str × Nat)} {value slice:PySem.Expr} {k:KV} (hd:(D,listOf (strValues lx).toArray n) ∈ l) (hne:(strValues lx).isEmpty = false) (h:∀ y tk,lx.getLast? = some (y,tk) → k (.str y tk) t m l)
  (hs:subscripted slice false (.ref D) (.int (-1) u) = operate [.ref D,.int (-1) u] (getItem (.ref D) (.int (-1) u)):=by with_unfolding_all rfl):af C (subscriptTail value slice (.ref D) (.int (-1) u)) t m l k :=
 cg fun s M Q ht F N nd back=>by
  subst ht
  exact uM N hd hne (fun y tk e=>back _ _ _ _ F N nd (h y tk e)) hs
theorem AP {D n:Nat} {lx:List (PySem.Str × Nat)} {k:KV} (U:cJ D (listOf (strValues lx).toArray n) (listOf (strValues lx.dropLast).toArray (n + 1)) l l') (hne:(strValues lx).isEmpty = false) (hz:lx.length ≤ 100000) (h:∀ y tk,k (.str y tk) t m l'):af C (call (.builtin "list.pop") [.ref D]) t m l k:=by
 obtain ⟨y,tk,e⟩:=jg hne
 refine z8 (p:=strValues lx.dropLast) (y:=.str y tk) (jr e) U ?_ (h y tk)
 rw [aV,List.length_dropLast];exact Nat.le_trans (Nat.sub_le _ _) hz
theorem nH {D n:Nat} {lx:List (PySem.Str × Nat)} {kt kf:KN} (hd:(D,listOf (strValues lx).toArray n) ∈ l) (hz:lx.length ≤ 100000) (h1:(strValues lx).isEmpty = false → ∀ t,kt t m l) (h2:(strValues lx).isEmpty = true → ∀ t,kf t m l) :
  af C (truthy (.ref D)) t m l fun b t m l=>(b = true → kt t m l) ∧ (b = false → kf t m l):=Ae hd (by rw [aV];exact hz) h1 h2
end
theorem Cj {x:PySem.Str} {lv:List (PySem.Str × Nat)} (hP:lv.map (·.1) = yL (Txt.split (Txt.slice x (some 1) none) (Str.ofString "/"))):Str.ofString "/" ++ Txt.join (Str.ofString "/") (lv.map (·.1)) = l5 x:=by unfold l5;rw [hP]
theorem lW (w:World) (led:Led) (x:PySem.Str) (t0:Nat) (hx:x.length ≤ 1000) (hp:x.length ≠ 0) (h1:Txt.slice x none (some 1) = Str.ofString "/") (h2:Txt.slice x (some 1) (some 2) ≠ Str.ofString "/") (hsp:(Txt.split (Txt.slice x (some 1) none) (Str.ofString "/")).length ≤ 1000) :
  Sq w 368 8 [.str x t0] led led (gl (l5 x)):=by
 refine (fun h:(rW = rW ∧ K = K) → _=>h ⟨rfl,rfl⟩) ?_
 k_fill
 intro _
 refine br [(Str.ofString "path",Value.str x t0)] 30 (by k_is) (by k_is) (fun _ _=>BindsTo.of_eq rfl) (by rfl) (by rfl) (by kernel_rfl!) ?_
 intro C u
 refine @cR _ _ _ _ _ _ _ _ _ (aw 12) _ _ _ _ _ rfl (by k_is) ?_
 refine Sq.useS (cX w _ x _) (by decide) fun t1 t2=>?_
 refine bb (n:=9) ?_
 refine uS fun t1=>⟨(fun h=>nomatch h),fun _=>?_⟩
 refine bb (n:=9) ?_
 refine gc (by exact ae fun h9=>lN [_] [(1,.t (.k 16777216) V0),(1,.l V0 (.k 1000))] (.c h9 (.c hx .n))) (fun _ t1=>?_) fun h t1=>(hp h).elim
 refine @cR _ _ _ _ _ _ _ _ _ (aw 12) _ _ _ _ _ rfl (by k_is) ?_
 refine Sq.useE (jV w _ x _ hx h1 h2) (by decide) fun ⟨T,a1,a2,a3⟩ t2 _=>?_
 refine fe (.head _) rfl rfl ?_
 have hy:(Txt.slice x (some 1) none).length ≤ 1000:=Nat.le_trans (Txt.slice_le x _ _) hx
 refine @dT _ _ _ _ _ _ _ _ _ _ _ _ _ PySem.F.slot_str_split PySem.F.type_str_split ?_
 refine zQ (by decide) (by exact ae fun h9=>lN [_] [(1,.t (.k 100000) V0),(1,.l V0 (.k 1000))] (.c h9 (.c hy .n))) fun D t3 lx hlx hB=>?_
 refine aC fun N=>?_
 have hln:lx.length ≤ 1000:=by rw [← hlx,List.length_map] at hsp;exact hsp
 refine lE (by rfl) (fun _=>rfl) ?_
 refine di (vs:=strValues lx) (σ:=List (PySem.Str × Nat) × Nat) (fun c=>(N,listOf (strValues c.1).toArray c.2) :: (D,listOf (strValues lx).toArray 0) :: led) (fun _=>[(Str.ofString "sep",.str (Str.ofString "/") _),(Str.ofString "dot",.str (Str.ofString ".") _),(Str.ofString "dotdot",.str (Str.ofString "..") _),(Str.ofString "initial_slashes",.str (Str.ofString "/") _),(Str.ofString "new_comps",.ref N)])
  (fun i c=>c.1.map (·.1) = yL ((lx.map (·.1)).take i) ∧ c.1.length ≤ i) ([],0) 30 (by rfl) (by repeat (first | exact ar.nil | refine ar.cons rfl ?_)) (.cons (.cons (.drop .refl))) (fun _=>.tail _ (.head _)) ⟨rfl,Nat.le_refl _⟩ (fun i c v t own hv ⟨hP,hPl⟩=>?_) fun c t ⟨hP,hPl⟩=>?_
 ·obtain ⟨z,tz,rfl,hz,hm⟩:=bM hv
  have hzl:z.length ≤ 1000:=Nat.le_trans (hB z hm) hy
  have hi:i < 1000:=by have:=(List.getElem?_eq_some_iff.mp hz).1;rw [List.length_map] at this;exact aA fun h9=>lN [_,_] [(1,.l (.k 1000) V0),(1,.l V1 (.k 1000)),(1,.t V0 V1)] (.c h9 (.c hln (.c this .n)))
  have hcl:c.1.length ≤ 100000:=by exact ae fun h9=>lN [_,_,0,0,0,0,0] [(1,.t (.k 100000) V0),(1,.t V1 (.k 1000)),(1,.l V0 V1)] (.c h9 (.c hi (.c hPl .n)))
  have hcl2:(strValues c.1).length ≤ 100000:=by rw [aV];exact hcl
  refine eG fun K1 hK1=>?_
  refine bb (n:=9) ?_
  refine gc (by exact ae fun h9=>lN [_] [(1,.t (.k 16777216) V0),(1,.l V0 (.k 1000))] (.c h9 (.c hzl .n))) (fun h3 t4=>⟨fun h4=>?_,fun h4=>?_⟩) fun h3 t4=>?_
  ·exact hK1 .cont _ _ _ ⟨c,(by repeat (first | exact ar.nil | refine ar.cons rfl ?_)),.refl,io hz hP (FN (by rw [h4];exact beq_self_eq_true _)),Nat.le_succ_of_le hPl⟩
  ·have h4:=beq_eq_false_iff_ne.mpr h4
   refine bb (n:=9) ⟨fun h5=>?_,fun h5=>?_⟩
   ·exact aB PySem.F.slot_list_append PySem.F.type_list_append (.head _) (au .head hcl2 (by rw [← aS];exact hK1 .next _ _ _ ⟨(c.1++[(z,tz)],c.2 + 1),(by repeat (first | exact ar.nil | refine ar.cons rfl ?_)),.refl,by rw [List.map_append];exact io hz hP (FP h3 h4 (bne_iff_ne.mpr h5)),by rw [List.length_append];exact Nat.succ_le_succ hPl⟩))
   ·have h5:=bne_eq_false_iff_eq.mpr h5
    refine gc (by decide) (fun _ t5=>?_) fun h=>(nomatch h)
    refine nH (.head _) hcl (fun h6 t6=>?_) fun h6 t6=>?_
    ·refine DH (n:=9) ⟨_,_,rfl,?_⟩
     refine zF (.head _) h6 (fun q tq hq=>⟨fun h7=>?_,fun h7=>?_⟩) (by with_unfolding_all rfl)
     ·exact aB PySem.F.slot_list_append PySem.F.type_list_append (.head _) (au .head hcl2 (by rw [← aS];exact hK1 .next _ _ _ ⟨(c.1++[(z,tz)],c.2 + 1),(by repeat (first | exact ar.nil | refine ar.cons rfl ?_)),.refl,by rw [List.map_append];exact io hz hP (FO h3 h4 hq (by rw [h7];exact beq_self_eq_true _)),by rw [List.length_append];exact Nat.succ_le_succ hPl⟩))
     ·refine bb (n:=9) ?_
      refine nH (.head _) hcl (fun _ t7=>?_) fun h t7=>(by rw [h6] at h;cases h)
      refine aB PySem.F.slot_list_pop PySem.F.type_list_pop (.head _) ?_
      refine AP .head h6 hcl fun _ _=>?_
      exact hK1 .next _ _ _ ⟨(c.1.dropLast,c.2 + 1),(by repeat (first | exact ar.nil | refine ar.cons rfl ?_)),.refl,by rw [List.map_dropLast];exact io hz hP (FU h3 h4 h5 hq (beq_eq_false_iff_ne.mpr h7)),by rw [List.length_dropLast];omega⟩
    ·refine bb (n:=9) ?_
     refine nH (.head _) hcl (fun h t7=>(by rw [h6] at h;cases h)) fun _ t7=>?_
     exact hK1 .next _ _ _ ⟨c,(by repeat (first | exact ar.nil | refine ar.cons rfl ?_)),.refl,io hz hP (FS h3 h4 h5 h6),Nat.le_succ_of_le hPl⟩
  ·exact hK1 .cont _ _ _ ⟨c,(by repeat (first | exact ar.nil | refine ar.cons rfl ?_)),.refl,io hz hP (FR h3),Nat.le_succ_of_le hPl⟩
 ·rw [aV,← List.length_map (f:=(·.1)),List.take_length,hlx] at hP
  rw [aV] at hPl
  have hB2:∀ y ∈ c.1.map (·.1),y.length ≤ 1000:=fun y hy2=>by
   rw [hP] at hy2
   exact Nat.le_trans (hB y (hlx ▸ yN hy2)) hy
  refine @iy _ _ _ _ _ _ _ _ _ _ _ ?_
  refine fw (.head _) (by decide) hB2 (by exact ae fun h9=>lN [_,_] [(1,.t (.k 1000) V0),(1,.l V1 (.k 1000)),(1,.l V0 V1)] (.c h9 (.c hln (.c hPl .n)))) fun t4 t5 hz=>?_
  refine bT (by decide) (by exact ae fun h9=>lN [_] [(1,.t (.k 8000000) V0),(1,.l V0 (.k 2000000))] (.c h9 (.c hz .n))) fun t6 t7=>?_
  refine EW (n:=9) ?_
  refine gc (by rw [PySem.Str.length_append,show (Str.ofString "/").length = 1 by decide];exact ae fun h9=>lN [_] [(1,.t (.k 16777216) (.a K1 V0)),(1,.l V0 (.k 2000000))] (.c h9 (.c hz .n))) (fun _ t8=>?_) fun h=>?_
  ·exact ⟨[],.drop (.drop .refl),cr (Cj hP)⟩
  ·rw [PySem.Str.length_append,show (Str.ofString "/").length = 1 by decide] at h
   exact absurd h (by exact fun h9=>lN [_] [(1,.e (.a K1 V0) K0)] (.c h .n))
end
section
theorem Sq.useI {w:World} {cs:Sc} {lv:Nat} {C:Cx w cs lv} {t:Nat} {m:Map} {l:Led} {y:Int} {f:Addr} {lv':Nat} {vs:List Value} {k:KV} (S:Sq w f lv' vs l l (DE y)) (hl:lv' ≤ lv) (h:∀ t t',k (.int y t) t' m l):af C (call (.ref f) vs) t m l k :=
 S C t m k hl fun _ _ t' ⟨e,t1,e1⟩=>by subst e e1;exact h t1 t'
theorem Ba {l:List PySem.Str} {x a y:PySem.Str} {i:Nat} (hy:l[i]? = some y) (hP:a = (l.take i).foldl aF x) (hl:a.length ≠ 0) (ha:a.length ≤ 1000 + i * 101) (hyl:y.length ≤ 100) :
  aF a y = (l.take (i + 1)).foldl aF x ∧ (aF a y).length ≠ 0 ∧ (aF a y).length ≤ 1000 + (i + 1) * 101:=by
 have e:(aF a y).length ≠ 0 ∧ (aF a y).length ≤ a.length + 101:=by
  unfold aF
  split
  ·rw [PySem.Str.length_append];omega
  ·rw [PySem.Str.length_append,PySem.Str.length_append,show (Str.ofString "/").length = 1 by decide];omega
 exact ⟨by rw [iB hy,← hP],e.1,by omega⟩
theorem Fc {a y:PySem.Str} (h:Txt.endswith a (Str.ofString "/") = true):aF a y = a++y:=if_pos h
theorem E4 {a y:PySem.Str} (h:Txt.endswith a (Str.ofString "/") = false):aF a y = a++(Str.ofString "/" ++ y):=if_neg (by rw [h];exact Bool.false_ne_true)
theorem xM (w:World) (led:Led) (x b1 b2 b3:PySem.Str) (t0 t1 t2 t3:Nat) (hx:x.length ≤ 1000) (hp:x.length ≠ 0) (hb:∀ b ∈ [b1,b2,b3],b.length ≤ 100 ∧ Txt.startswith b (Str.ofString "/") = false) :
  Sq w 347 4 [.str x t0,.str b1 t1,.str b2 t2,.str b3 t3] led led (gl (aF (aF (aF x b1) b2) b3)):=by
 refine (fun h:(rW = rW ∧ K = K) → _=>h ⟨rfl,rfl⟩) ?_
 k_fill
 intro _
 refine yz (us:=strValues [(b1,t1),(b2,t2),(b3,t3)]) (fun D=>[(Str.ofString "a",.str x t0),(Str.ofString "p",.ref D)]) 30 (by k_is) (by k_is) (by rfl) (by rfl) (fun _=>rfl) (by rfl) (by rfl) (fun _=>by kernel_rfl!) ?_
 intro C u D
 refine @cR _ _ _ _ _ _ _ _ _ (aw 12) _ _ _ _ _ rfl (by k_is) ?_
 refine Sq.useS (cX w _ x _) (by decide) fun t4 t5=>?_
 refine @cR _ _ _ _ _ _ _ _ _ (aw 12) _ _ _ _ _ rfl (by k_is) ?_
 refine Sq.useS (uO w _ x _) (by decide) fun t6 t7=>?_
 refine Da 9 ?_
 refine vP (vs:=strValues [(b1,t1),(b2,t2),(b3,t3)]) (σ:=PySem.Str × Nat) (fun _=>(D,bo (strValues [(b1,t1),(b2,t2),(b3,t3)])) :: led) (fun c=>[(Str.ofString "sep",.str (Str.ofString "/") _),(Str.ofString "path",.str c.1 c.2)]) (fun i c=>c.1 = ([b1,b2,b3].take i).foldl aF x ∧ c.1.length ≠ 0 ∧ c.1.length ≤ 1000 + i * 101) (x,_) 9 ⟨rfl,(by repeat (first | exact ar.nil | refine ar.cons rfl ?_)),.refl⟩ (fun _=>.inl (.head _)) ⟨rfl,hp,by omega⟩ (fun i c v t own hv ⟨hP,h1,h2⟩=>?_) fun c t ⟨hP,h1,h2⟩=>?_
 ·obtain ⟨y,ty,rfl,hy,hm⟩:=bM hv
  have hy:[b1,b2,b3][i]? = some y:=hy
  have hi:i < 3:=(List.getElem?_eq_some_iff.mp hv).1
  obtain ⟨hyl,hys⟩:=hb y hm
  have hn:=Ba hy hP h1 h2 hyl
  refine eG fun K1 hK1=>?_
  refine @cR _ _ _ _ _ _ _ _ _ (aw 12) _ _ _ _ _ rfl (by k_is) ?_
  refine Sq.useS (cX w _ y _) (by decide) fun t8 t9=>?_
  refine bb (n:=9) ?_
  refine @dT _ _ _ _ _ _ _ _ _ _ _ _ _ PySem.F.slot_str_startswith PySem.F.type_str_startswith ?_
  refine vg ⟨fun h=>?_,fun _=>?_⟩
  ·rw [hys] at h;cases h
  refine gc (by omega) (fun _ t10=>?_) fun h=>(h1 h).elim
  refine bb (n:=9) ?_
  refine @dT _ _ _ _ _ _ _ _ _ _ _ _ _ PySem.F.slot_str_endswith PySem.F.type_str_endswith ?_
  refine A6 ⟨fun h=>?_,fun h=>?_⟩
  ·refine xl (by omega) (by exact ae fun h9=>lN [_] [(1,.t (.k 100000) V0),(1,.l V0 (.k 100))] (.c h9 (.c hyl .n))) fun t11 t12=>?_
   rw [Fc h] at hn
   exact hK1 .next _ _ _ ⟨(_,t11),(by repeat (first | exact ar.nil | refine ar.cons rfl ?_)),.refl,hn⟩
  ·refine bT (by decide) (by exact ae fun h9=>lN [_] [(1,.t (.k 8000000) V0),(1,.l V0 (.k 100))] (.c h9 (.c hyl .n))) fun t11 t12=>?_
   refine xl (by omega) (by rw [PySem.Str.length_append,show (Str.ofString "/").length = 1 by decide];omega) fun t13 t14=>?_
   rw [E4 h] at hn
   exact hK1 .next _ _ _ ⟨(_,t13),(by repeat (first | exact ar.nil | refine ar.cons rfl ?_)),.refl,hn⟩
 ·exact ⟨[],.drop .refl,cr hP⟩
end
section
structure Gg where
 lv:List (PySem.Str × Nat)
 n:Nat
theorem lB (w:World) (led:Led) (x:Int) (t0:Nat):Sq w 415 4 [.int x t0] led led (gl (Txt.join (Str.ofString "") (mL x))):=by
 refine (fun h:(rW = rW ∧ K = K) → _=>h ⟨rfl,rfl⟩) ?_
 k_fill
 intro _
 refine br [(Str.ofString "mode",Value.int x t0)] 30 (by k_is) (by k_is) (fun _ _=>BindsTo.of_eq rfl) (by rfl) (by rfl) (by kernel_rfl!) ?_
 intro C u
 refine aC fun P=>?_
 refine rq (ax:=408) (vs:=pT.map Value.ref) (σ:=Gg) (fun c=>(P,listOf (strValues c.lv).toArray c.n) :: led) (fun _=>[(Str.ofString "mode",.int x t0),(Str.ofString "perm",.ref P)]) (fun i c=>c.lv.map (·.1) = (mL x).take i ∧ c.lv.length = i) ⟨[],0⟩ 30 (by k_is) rfl (by rfl) ⟨rfl,rfl,(by repeat (first | exact ar.nil | refine ar.cons rfl ?_)),.refl⟩ ⟨rfl,rfl⟩ rfl rfl (fun i c v tT t own hv ⟨hP,hPl⟩=>?_) fun c t ⟨hP,hPl⟩=>?_
 ·rw [List.getElem?_map] at hv
  obtain ⟨ta,hta,rfl⟩:=Option.map_eq_some_iff.mp hv
  have hi:i < 10:=(List.getElem?_eq_some_iff.mp hta).1
  refine (let G0:Prop:=_;(?_:G0))
  obtain ⟨lo,ras,hlk,hlc,hld,hpairs⟩:=Bc w.params i _ hta
  have hz:(strValues c.lv).length ≤ 100000:=by rw [aV];exact ae fun h9=>lN [_,_] [(1,.t (.k 100000) V0),(1,.t V1 (.k 10)),(1,.e V0 V1)] (.c h9 (.c hi (.c hPl .n)))
  refine eG fun K1 hK1=>?_
  refine vP (ax:=ta) (vs:=ras.map Value.ref) (σ:=Unit) (fun _=>(P,listOf (strValues c.lv).toArray c.n) :: (led++own)) (fun _=>[(Str.ofString "mode",.int x t0),(Str.ofString "perm",.ref P),(Str.ofString "index",.int (i:Int) tT)]) (fun j _=>∀ q ∈ (bI i).take j,bh x i q.1 = false) () 9 ⟨rfl,(by repeat (first | exact ar.nil | refine ar.cons rfl ?_)),.refl⟩ (fun _=>.inr ⟨lo,0,hlk,hlc,hld⟩) (fun q hq=>by cases hq) (fun j c' v2 t2 own2 hv2 hP2=>?_) fun c' t2 hP2=>?_
  ·rw [List.getElem?_map] at hv2
   obtain ⟨ra,hra,rfl⟩:=Option.map_eq_some_iff.mp hv2
   refine (let G0:Prop:=_;(?_:G0))
   obtain ⟨p,hpj,lo2,tb,tc,hlk2,hlc2,hld2⟩:=hpairs.at hra
   refine uv (vs:=[.int p.1 tb,.str p.2 tc]) (.inr ⟨lo2,0,hlk2,hlc2,hld2⟩) rfl rfl ?_
   refine eG fun K2 hK2=>?_
   refine bb (n:=9) ⟨fun h=>?_,fun h=>?_⟩
   ·refine bb (n:=9) ?_
    refine @cR _ _ _ _ _ _ _ _ _ (aw 12) _ _ _ _ _ rfl (by k_is) ?_
    refine Sq.useI (yZ w _ x _) (by decide) fun t3 t4=>⟨fun e=>?_,fun e=>?_⟩
    ·refine aB PySem.F.slot_list_append PySem.F.type_list_append (.head _) ?_
     refine au .head hz ?_
     rw [← aS]
     exact hK2 .brk _ _ _ (hK1 .next _ _ _ ⟨⟨c.lv++[(p.2,tc)],c.n + 1⟩,(by repeat (first | exact ar.nil | refine ar.cons rfl ?_)),.left,kJ hi hP hPl (vW hpj hP2 (CX h e))⟩)
    ·exact hK2 .next _ _ _ ⟨(),(by repeat (first | exact ar.nil | refine ar.cons rfl ?_)),.refl,ma hpj hP2 (DV h e)⟩
   ·refine bb (n:=9) ?_
    refine Ab ⟨fun e=>?_,fun e=>?_⟩
    ·refine aB PySem.F.slot_list_append PySem.F.type_list_append (.head _) ?_
     refine au .head hz ?_
     rw [← aS]
     exact hK2 .brk _ _ _ (hK1 .next _ _ _ ⟨⟨c.lv++[(p.2,tc)],c.n + 1⟩,(by repeat (first | exact ar.nil | refine ar.cons rfl ?_)),.left,kJ hi hP hPl (vW hpj hP2 (D6 h e))⟩)
    ·exact hK2 .next _ _ _ ⟨(),(by repeat (first | exact ar.nil | refine ar.cons rfl ?_)),.refl,ma hpj hP2 (Dx h e)⟩
  ·have hall:∀ q ∈ bI i,bh x i q.1 = false:=fun q hq=>hP2 q (by rw [List.length_map,hpairs.len,List.take_length];exact hq)
   refine bb (n:=9) ⟨fun h=>?_,fun h=>?_⟩
   ·refine aB PySem.F.slot_list_append PySem.F.type_list_append (.head _) ?_
    refine au .head hz ?_
    rw [← aS]
    exact hK1 .next _ _ _ ⟨⟨c.lv++[(_,_)],c.n + 1⟩,(by repeat (first | exact ar.nil | refine ar.cons rfl ?_)),.refl,kJ hi hP hPl ((sS hall).trans (if_pos (Int.ofNat_eq_zero.mp h)))⟩
   ·refine aB PySem.F.slot_list_append PySem.F.type_list_append (.head _) ?_
    refine au .head hz ?_
    rw [← aS]
    exact hK1 .next _ _ _ ⟨⟨c.lv++[(_,_)],c.n + 1⟩,(by repeat (first | exact ar.nil | refine ar.cons rfl ?_)),.refl,kJ hi hP hPl ((sS hall).trans (if_neg (AO h)))⟩
 ·have hP':c.lv.map (·.1) = mL x:=hP.trans (List.take_of_length_le (Nat.le_of_eq (sP x)))
  have hB:∀ y ∈ c.lv.map (·.1),y.length ≤ 1000:=fun y hy=>rQ (hP' ▸ hy)
  refine @iy _ _ _ _ _ _ _ _ _ _ _ ?_
  refine fw (.head _) (by decide) hB (by rw [hPl];decide) fun t4 t5 hz=>?_
  exact ⟨[],.drop .refl,cr (congrArg _ hP')⟩
end
section
theorem Bp (w:World) (led:Led) (a p m:Addr) (n1 n2 n3 tl ts tx:Nat) (lx:List (PySem.Str × Nat)) (letter:PySem.Str) (o0 o1:Value) (side x:Int)
  (h1:(a,listOf #[.ref p,.str letter tl,.ref m] n1) ∈ led) (h2:(p,listOf (strValues lx).toArray n2) ∈ led) (h3:(m,listOf #[o0,o1] n3) ∈ led)
  (hs:(side = 0 ∧ o0 = .int x tx) ∨ (side = 1 ∧ o1 = .int x tx)) (hl:letter = Str.ofString "d" ∨ letter = Str.ofString "-") (hp:lx.map (·.1) ∈ aL) :
  Sq w 427 10 [.ref a,.int side ts] led led (gl (uk (lx.map (·.1)) letter x)):=by
 obtain ⟨q1,q2,q3,q4,q5,q6,q7,q8⟩:=cf hp
 refine (fun h:(rW = rW ∧ K = K) → _=>h ⟨rfl,rfl⟩) ?_
 k_fill
 intro _
 refine br [(Str.ofString "entry",Value.ref a),(Str.ofString "side",Value.int side ts)] 30 (by k_is) (by k_is) (fun _ _=>BindsTo.of_eq rfl) (by rfl) (by rfl) (by kernel_rfl!) ?_
 intro C u
 refine lE (by rfl) (fun _=>rfl) ?_
 refine bf h1 (by decide) (by decide) rfl ?_
 refine di (vs:=strValues lx) (σ:=PySem.Str × Nat) (fun _=>led) (fun c=>[(Str.ofString "entry",.ref a),(Str.ofString "side",.int side ts),(Str.ofString "path",.str c.1 c.2)]) (fun i c=>c.1 = cw ((lx.map (·.1)).take i)) (_,_) 30 (by rfl) (by repeat (first | exact ar.nil | refine ar.cons rfl ?_)) .refl (fun _=>h2) rfl (fun i c v t own hv hP=>?_) fun c t hP=>?_
 ·refine (let G0:Prop:=_;(?_:G0))
  obtain ⟨y,ty,rfl,hy,hm⟩:=bM hv
  obtain ⟨ha1,ha2⟩:=q1 i (Nat.le_of_lt (List.getElem?_eq_some_iff.mp hy).1)
  rw [← hP] at ha1 ha2
  have hb:∀ b ∈ [Str.ofString "x",Str.ofString "..",y],b.length ≤ 100 ∧ Txt.startswith b (Str.ofString "/") = false:=by
   intro b hb
   rcases ag hb with rfl | hb
   ·decide +kernel
   ·rcases ag hb with rfl | hb
    ·decide +kernel
    ·rw [List.mem_singleton.mp hb];exact q2 y hm
  refine eG fun K1 hK1=>?_
  refine @cR _ _ _ _ _ _ _ _ _ (aw 12) _ _ _ _ _ rfl (by k_is) ?_
  refine Sq.useS (xM w _ _ _ _ _ _ _ _ _ (Nat.le_trans ha2 (by decide)) ha1 hb) (by decide) fun t1 t2=>?_
  exact hK1 .next _ _ _ ⟨(_,t1),(by repeat (first | exact ar.nil | refine ar.cons rfl ?_)),.refl,by rw [o8 hy,← hP];rfl⟩
 ·rw [aV,← List.length_map (f:=(·.1)),List.take_length] at hP
  obtain ⟨r1,r2⟩:=q1 _ (Nat.le_refl _)
  rw [List.take_length] at r1 r2
  have hside:0 ≤ side ∧ side < 2 ^ 63 ∧ (#[o0,o1]:Array Value)[side.toNat]? = some (.int x tx):=by
   rcases hs with ⟨rfl,rfl⟩ | ⟨rfl,rfl⟩
   ·exact ⟨by decide,by decide,rfl⟩
   ·exact ⟨by decide,by decide,rfl⟩
  have hr:=@w7 (eg letter + x)
  refine @cR _ _ _ _ _ _ _ _ _ (aw 12) _ _ _ _ _ rfl (by k_is) ?_
  refine @yR _ _ _ _ _ _ _ _ _ _ _ _ _ _ _ _ _ _ _ _ _ (by decide) fun D o u v t2 lo ho=>?_
  refine bf (.tail _ h1) (by decide) (by decide) rfl ?_
  obtain ⟨tk,hv⟩:∃ tk,valueAt [(Str.ofString "d",Value.int 16384 u),(Str.ofString "-",Value.int 32768 v)] letter = some (.int (eg letter) tk):=by
   rcases hl with rfl | rfl
   ·exact ⟨u,by kernel_rfl!⟩
   ·exact ⟨v,by kernel_rfl!⟩
  refine yw (.head _) lo ho hv ?_
  refine bf (.tail _ h1) (by decide) (by decide) rfl ?_
  refine bf (.tail _ h3) hside.1 hside.2.1 hside.2.2 ?_
  refine Sq.useS (lB w _ _ _) (by decide) fun t3 t4=>?_
  refine bT (by exact ae fun h9=>lN [_] [(1,.t (.k 8000000) V0),(1,.l V0 (.k 10000))] (.c h9 (.c hr .n))) (by decide) fun t5 t6=>?_
  refine @cR _ _ _ _ _ _ _ _ _ (aw 12) _ _ _ _ _ rfl (by k_is) ?_
  rw [hP]
  refine Sq.useS (lW w _ _ _ (Nat.le_trans r2 (by decide)) r1 q3 q4 q5) (by decide) fun t7 t8=>?_
  refine bT (by rw [PySem.Str.length_append,show (Str.ofString " ").length = 1 by decide];exact ae fun h9=>lN [_] [(1,.t (.k 8000000) (.a V0 K1)),(1,.l V0 (.k 10000))] (.c h9 (.c hr .n))) (by rw [q6];exact ae fun h9=>lN [_] [(1,.t (.k 8000000) V0),(1,.l V0 (.k 100))] (.c h9 (.c q7 .n))) fun t9 t10=>?_
  exact ⟨[],.drop .refl,cr (by rw [q6];rfl)⟩
end
section
open PyProof.Rows.LCg PyProof.Rows.LCt
noncomputable def dW (e:aK) (x:Int):PySem.Str:=uk e.parts e.letter x
noncomputable def aR (e:aK):List PySem.Str:=match e.m0,e.m1 with
 | some x,some y=>if x = y then [Str.ofString "  " ++ dW e x] else [Str.ofString "- " ++ dW e x,Str.ofString "? ^^^",Str.ofString "+ " ++ dW e y,Str.ofString "?  ^"]
 | some x,none=>[Str.ofString "- " ++ dW e x]
 | none,some y=>[Str.ofString "+ " ++ dW e y]
 | none,none=>[]
noncomputable def bQ (es:List aK):List PySem.Str:=es.flatMap aR
theorem dw {es:List aK} {i:Nat} {e:aK} (h:es[i]? = some e):bQ (es.take (i + 1)) = bQ (es.take i)++aR e:=by
 rw [List.take_add_one,h];unfold bQ;rw [List.flatMap_append];simp
theorem sy {parts:List PySem.Str} {letter:PySem.Str} {x:Int} (h:parts ∈ aL):(uk parts letter x).length ≤ 20000:=by
 have h1:=(cf h).2.2.2.2.2.2.1
 have h2:=@w7 (eg letter + x)
 unfold uk CU
 rw [PySem.Str.length_append,PySem.Str.length_append,show (Str.ofString " ").length = 1 by decide]
 omega
theorem Fl:Txt.item (Str.ofString "-+") 0++Str.ofString " " = Str.ofString "- " := by decide +kernel
theorem FC:Txt.item (Str.ofString "-+") 1++Str.ofString " " = Str.ofString "+ " := by decide +kernel
theorem Bf {e:aK} {y:Int} (h0:e.m0 = none) (h1:e.m1 = some y):aR e = [Txt.item (Str.ofString "-+") 1++Str.ofString " " ++ dW e y]:=by unfold aR;rw [h0,h1,FC]
theorem BU {e:aK} {x:Int} (h0:e.m0 = some x) (h1:e.m1 = none):aR e = [Txt.item (Str.ofString "-+") 0++Str.ofString " " ++ dW e x]:=by unfold aR;rw [h0,h1,Fl]
theorem Cn {e:aK} {x y:Int} (h0:e.m0 = some x) (h1:e.m1 = some y) (h:x = y):aR e = [Str.ofString "  " ++ dW e x]:=by unfold aR;rw [h0,h1];exact if_pos h
theorem Cw {e:aK} {x y:Int} (h0:e.m0 = some x) (h1:e.m1 = some y) (h:x ≠ y):aR e = [Str.ofString "- " ++ dW e x,Str.ofString "? ^^^",Str.ofString "+ " ++ dW e y,Str.ofString "?  ^"]:=by
 unfold aR;rw [h0,h1];exact if_neg h
section
variable {prog:Program} {w:World} {A:Around} {E:Value → Shared → Prop} {s:Shared} {h₀:Heap} {L D b:Addr} {m:PySem.Str → Option Value} {news news':List (Addr × Obj)} {vs vs2:List Value} {n n2:Nat}
theorem C3 {Q:Value → Shared → Prop} (F:Fr h₀ L s.heap m) (N:News h₀ L s.heap news) (hb:(b,listOf vs2.toArray n2) ∈ news) (U:Upd D (listOf vs.toArray n) (listOf (vs++vs2).toArray (n + 1)) news news') (hne:vs2.length ≠ 0) (hz:vs.length + vs2.length ≤ 100000)
  (h:∀ h',Fr h₀ L h' m → News h₀ L h' news' → Q .none { s with heap:=h' }):wpAny (model prog w) A (call (.builtin "list.extend") [.ref D,.ref b]) Q E s:=by
 have hs:vs.toArray.size + vs2.toArray.size ≤ sizeLine:=by rw [sizeLine_eq,List.size_toArray,List.size_toArray];omega
 exact kl_extend F N hb (by simp) (by simpa using hne) U (extend_door hs) (by rw [sizeLine_eq];simp;omega) (by omega) h
end
noncomputable def aJ (e:aK) (n:Nat):List Int:=((List.range n).filter fun j:Nat=>(aD e (j:Int)).isSome).map fun j:Nat=>(j:Int)
theorem cH {e:aK} {i:Nat}:aJ e (i + 1) = aJ e i++if (aD e (i:Int)).isSome = true then [(i:Int)] else []:=by
 unfold aJ
 rw [List.range_succ,List.filter_append,List.map_append]
 congr 1
 rw [List.filter_cons]
 split <;> rfl
noncomputable def cz (e:aK) (s:Int):PySem.Str:=match aD e s with
 | some x=>Txt.item (Str.ofString "-+") s++Str.ofString " " ++ dW e x
 | none=>Str.ofString ""
theorem AS {e:aK} (h:bc e) (h2:e.m0 = e.m1):∃ x,e.m0 = some x ∧ aR e = [Str.ofString "  " ++ dW e x]:=by
 have h1:=h.one
 cases h0:e.m0 with
 | none=>rw [← h2,h0] at h1;exact absurd h1 (by decide)
 | some x=>exact ⟨x,rfl,Cn h0 (h2 ▸ h0) rfl⟩
theorem xC {e:aK}:aJ e 2 = (if e.m0.isSome = true then [(0:Int)] else [])++if e.m1.isSome = true then [(1:Int)] else []:=by
 rw [cH,cH];rfl
theorem B7 {e:aK} (h:bc e) (h2:e.m0 ≠ e.m1):((aJ e 2).length = 1 → aR e = (aJ e 2).map (cz e)) ∧ ((aJ e 2).length ≠ 1 → ∃ r0 r1,(aJ e 2).map (cz e) = [r0,r1] ∧ aR e = [r0,Str.ofString "? ^^^",r1,Str.ofString "?  ^"]):=by
 have h1:=h.one
 rw [xC]
 cases h0:e.m0 with
 | none=>cases h3:e.m1 with
  | none=>rw [h0,h3] at h1;exact absurd h1 (by decide)
  | some y =>
   refine ⟨fun _=>?_,fun h=>absurd rfl h⟩
   rw [Bf h0 h3]
   show _ = [cz e 1]
   unfold cz
   rw [show aD e 1 = some y from h3]
 | some x=>cases h3:e.m1 with
  | none =>
   refine ⟨fun _=>?_,fun h=>absurd rfl h⟩
   rw [BU h0 h3]
   show _ = [cz e 0]
   unfold cz
   rw [show aD e 0 = some x from h0]
  | some y =>
   refine ⟨fun h=>absurd (show (2:Nat) = 1 from h) (by decide),fun _=>⟨cz e 0,cz e 1,rfl,?_⟩⟩
   rw [Cw h0 h3 (fun e'=>h2 (by rw [h0,h3,e']))]
   unfold cz
   rw [show aD e 0 = some x from h0,show aD e 1 = some y from h3]
   dsimp only
   rw [Fl,FC]
theorem zd {e:aK} {i tk:Nat} {lb:List (Int × Nat)} (h:lb.map (·.1) = aJ e i) (hs:(aD e (i:Int)).isSome = true):(lb++[((i:Int),tk)]).map (·.1) = aJ e (i + 1):=by
 rw [cH,if_pos hs,List.map_append,h];rfl
theorem zB {e:aK} {i:Nat} {lb:List (Int × Nat)} (h:lb.map (·.1) = aJ e i) (hs:(aD e (i:Int)).isSome = false):lb.map (·.1) = aJ e (i + 1):=by
 rw [cH,if_neg (by rw [hs];decide),List.append_nil];exact h
theorem iC {e:aK}:(aJ e 2).length ≤ 2:=by
 unfold aJ
 rw [List.length_map];exact List.length_filter_le _ _
theorem wJ {e:aK} {lb:List (Int × Nat)} (h:lb.map (·.1) = aJ e 2) (i:Nat) (v:Value) (hv:(lb.map fun p=>Value.int p.1 p.2)[i]? = some v):∃ s tk,v = .int s tk ∧ (aJ e 2)[i]? = some s:=by
 rw [List.getElem?_map] at hv
 obtain ⟨p,hp,rfl⟩:=Option.map_eq_some_iff.mp hv
 exact ⟨p.1,p.2,rfl,by rw [← h,List.getElem?_map,hp];rfl⟩
theorem uC {e:aK} {s:Int} {i tk:Nat} {lr:List (PySem.Str × Nat)} {y:PySem.Str} (h:lr.map (·.1) = ((aJ e 2).take i).map (cz e)) (hs:(aJ e 2)[i]? = some s) (hy:cz e s = y):(lr++[(y,tk)]).map (·.1) = ((aJ e 2).take (i + 1)).map (cz e):=by
 rw [List.take_add_one,hs,List.map_append,List.map_append,h,← hy];rfl
theorem v6 {e:aK} {s x:Int} {u0 u1:Nat} (hs:s = 0 ∨ s = 1) (hm:aD e s = some x):∃ tx,(s = 0 ∧ et e.m0 u0 = .int x tx) ∨ (s = 1 ∧ et e.m1 u1 = .int x tx):=by
 rcases hs with rfl | rfl
 ·exact ⟨u0,.inl ⟨rfl,by rw [show e.m0 = some x from hm];rfl⟩⟩
 ·exact ⟨u1,.inr ⟨rfl,by rw [show e.m1 = some x from hm];rfl⟩⟩
theorem z6 {e:aK} {s x:Int} (h:bc e) (hs:s = 0 ∨ s = 1) (hm:aD e s = some x):0 ≤ x ∧ x < 512:=by
 rcases hs with rfl | rfl
 ·exact h.m0 x hm
 ·exact h.m1 x hm
theorem A8 {s:Int} (hs:s = 0 ∨ s = 1):(Txt.item (Str.ofString "-+") s).length ≤ 1 ∧ 0 ≤ s ∧ s < ((2:Nat):Int):=by
 rcases hs with rfl | rfl <;> exact ⟨by decide +kernel,by decide,by decide⟩
theorem B3 {a b:List (PySem.Str × Nat)}:strValues a++strValues b = strValues (a++b):=by simp [strValues]
theorem yA {lv:List (PySem.Str × Nat)} {a b c d:PySem.Str} {t u v w:Nat}:strValues lv++[.str a t,.str b u,.str c v,.str d w] = strValues (lv++[(a,t),(b,u),(c,v),(d,w)]):=by simp [strValues]
theorem Bz {lr:List (PySem.Str × Nat)} {r0 r1 y0 y1:PySem.Str} {k0 k1:Nat} (h:lr.map (·.1) = [r0,r1]) (h0:lr[0]? = some (y0,k0)) (h1:lr[1]? = some (y1,k1)):y0 = r0 ∧ y1 = r1:=by
 have a:(lr.map (·.1))[0]? = some y0:=by rw [List.getElem?_map,h0];rfl
 have b:(lr.map (·.1))[1]? = some y1:=by rw [List.getElem?_map,h1];rfl
 rw [h] at a b
 exact ⟨(Option.some.inj a).symm,(Option.some.inj b).symm⟩
theorem vN {a b:Nat}:∀ (i:Nat) (v:Value),([.int 0 a,.int 1 b]:List Value)[i]? = some v → ∃ t,v = .int (i:Int) t
 | 0,_,h=>⟨a,(Option.some.inj h).symm⟩
 | 1,_,h=>⟨b,(Option.some.inj h).symm⟩
 | i + 2,_,h=>by simp at h
theorem sj {i:Nat} (h:i < 2):(i:Int) = 0 ∨ (i:Int) = 1:=by omega
theorem zr {e:aK} {s:Int} (h:s ∈ aJ e 2):(s = 0 ∨ s = 1) ∧ ∃ x,aD e s = some x:=by
 unfold aJ at h
 obtain ⟨j,hj,rfl⟩:=List.mem_map.mp h
 obtain ⟨h1,h2⟩:=List.mem_filter.mp hj
 exact ⟨sj (List.mem_range.mp h1),Option.isSome_iff_exists.mp h2⟩
section
variable {w:World} {cs:Sc} {lv:Nat} {C:Cx w cs lv} {t:Nat} {m:Map} {l l':Led}
theorem ym {env:Env} {nm:PySem.Str → Pos → Nat → Map → Led → KV → Prop} {n kk:Nat} {pos:Pos} {k:KV} (h:k .none t m l):te C env nm (n + 1) (.Constant .none kk pos) t m l k:=h
theorem Db {x:PySem.Str} {v:Value} {n:Nat} {pos:Pos} {k:KV} (e:dD m x = some v) (h:k v t m l):cE C (n + 1) (.Name x pos) t m l k:=by
 show Dh C x pos t m l k
 unfold Dh
 rw [e];exact h
theorem u6 {a:Option Int} {u:Nat} {kt kf:KN} (h1:a.isSome = true → kt t m l) (h2:a.isSome = false → kf t m l):Ea C .IsNot (et a u) .none t m l kt kf:=by
 cases a with
 | none=>exact h2 rfl
 | some x=>exact h1 rfl
theorem DF {a b:Option Int} {u v:Nat} {kt kf:KN} (hn:a.isSome = true ∨ b.isSome = true) (h1:a = b → kt t m l) (h2:a ≠ b → kf t m l):Ea C .Eq (et a u) (et b v) t m l kt kf:=by
 cases a with
 | none=>cases b with
  | none=>exact hn.elim (fun h=>nomatch h) fun h=>nomatch h
  | some y=>exact fun s H=>EqNone.eq_none_int (H.ret (show _ ∧ _ from ⟨(fun h=>nomatch h),fun _=>h2 (fun h=>nomatch h)⟩))
 | some x=>cases b with
  | none=>exact fun s H=>EqNone.eq_int_none (H.ret (show _ ∧ _ from ⟨(fun h=>nomatch h),fun _=>h2 (fun h=>nomatch h)⟩))
  | some y=>exact ⟨fun e=>h1 (congrArg some e),fun e=>h2 fun h=>e (Option.some.inj h)⟩
theorem lK {D b n n2:Nat} {vs vs2:List Value} {k:KV} (hb:(b,listOf vs2.toArray n2) ∈ l) (U:cJ D (listOf vs.toArray n) (listOf (vs++vs2).toArray (n + 1)) l l') (hne:vs2.length ≠ 0) (hz:vs.length + vs2.length ≤ 100000) (h:k .none t m l'):af C (call (.builtin "list.extend") [.ref D,.ref b]) t m l k :=
 cg fun s M Q ht F N nd back=>by
  subst ht
  exact C3 F N hb (U.upd nd) hne hz fun h' F' N'=>back _ _ _ _ F' N' (U.adr ▸ nd) h
theorem Ah {a p mm:Addr} {n1 n2 n3 tl ts tx:Nat} {lx:List (PySem.Str × Nat)} {letter:PySem.Str} {o0 o1:Value} {side x:Int} {k:KV} (h1:(a,listOf #[.ref p,.str letter tl,.ref mm] n1) ∈ l) (h2:(p,listOf (strValues lx).toArray n2) ∈ l) (h3:(mm,listOf #[o0,o1] n3) ∈ l)
  (hs:(side = 0 ∧ o0 = .int x tx) ∨ (side = 1 ∧ o1 = .int x tx)) (hx:0 ≤ x ∧ x < 512) (hl:letter = Str.ofString "d" ∨ letter = Str.ofString "-") (hp:lx.map (·.1) ∈ aL) (hlv:10 ≤ lv) (h:∀ t' t2,k (.str (uk (lx.map (·.1)) letter x) t') t2 m l):af C (call (.ref 427) [.ref a,.int side ts]) t m l k :=
 Sq.useS (Bp w l a p mm n1 n2 n3 tl ts tx lx letter o0 o1 side x h1 h2 h3 hs hl hp) hlv h
end
structure EM where
 lv:List (PySem.Str × Nat)
 k:Nat
 oM:Obj
theorem vJ (w:World) (led:List (Addr × Obj)) (a n:Nat) (vs:List Value) (es:List aK)
  (ha:(a,listOf vs.toArray n) ∈ led) (hes:ba led vs es) (hok:∀ e ∈ es,bc e) (hlen:es.length ≤ 100) :
  Sq w 432 20 [.ref a] led led (kH (fun y:Addr × List (PySem.Str × Nat) × Nat=>.ref y.1) (fun y=>[(y.1,listOf (strValues y.2.1).toArray y.2.2)]) fun y=>y.2.1.map (·.1) = bQ es):=by
 refine (fun h:(rW = rW ∧ K = K) → _=>h ⟨rfl,rfl⟩) ?_
 k_fill
 intro _
 refine j7 [(Str.ofString "entries",Value.ref a)] [(Str.ofString "entries",Value.ref a)] 30 (by k_is) (by k_is) (fun _ _=>BindsTo.of_eq rfl) (by rfl) (by rfl) (by rfl) (by kernel_rfl!) (by decide +kernel) ⟨⟨rfl,rfl⟩,trivial⟩ ?_
 intro C t0 L1 cells hcl Y
 obtain ⟨o1,rfl,d1⟩:=CellsAre.one Y
 clear Y
 have hcl:C.cl = [(Str.ofString "entry",L1)]:=hcl
 have d1:o1.data = .cell none:=d1
 have c1:C.cl.lookup (Str.ofString "entry") = some L1:=by rw [hcl];rfl
 refine aC fun D=>?_
 refine jz (fun _=>rfl) ?_
 refine f4 (σ:=EM) (fun c=>(L1,c.oM) :: (D,listOf (strValues c.lv).toArray c.k) :: led) (fun _=>[(Str.ofString "delta",.ref D)])
  (fun i c=>c.lv.map (·.1) = bQ (es.take i) ∧ c.lv.length ≤ 4 * i ∧ ∃ u,c.oM.data = .cell u) ⟨[],0,o1⟩ 30 (by repeat (first | exact ar.nil | refine ar.cons rfl ?_)) (.swap .refl) (fun c=>.tail _ (.tail _ ha)) ⟨rfl,Nat.le_refl _,_,d1⟩ (fun i c v t own hv ⟨hPp,hPl,mu,hPc⟩=>?_) fun c t ⟨hP,_,_⟩=>?_
 ·refine (let G0:Prop:=_;(?_:G0))
  obtain ⟨e,he,ea,ep,em,m1,m2,m3,tl,u0,u1,lp,rfl,q1,q2,q3,q4⟩:=hes.2 i _ hv
  have hok':=hok e (List.mem_of_getElem? he)
  have hi:=(List.getElem?_eq_some_iff.mp he).1
  refine rh (pre:=[]) c1 rfl hPc fun oM dM=>?_
  refine eG fun K1 hK1=>?_
  refine wP (cl:=[(Str.ofString "entry",L1)]) (by show closureFor _ (envX C.cn _ C.L C.a C.ccd C.cl) = _;rw [hcl];with_unfolding_all rfl)
   fun M=>aC fun D0=>FQ (fun c:List (Int × Nat)=>c.map fun p=>.int p.1 p.2) (fun _=>(D0,listOf [.int 0 _,.int 1 _].toArray 0) :: (L1,oM) :: (D,listOf (strValues c.lv).toArray c.k) :: (led++own)) (fun i c=>c.map (·.1) = aJ e i) (fun i v=>∃ t,v = .int (i:Int) t) [] 2 (by decide) rfl rfl .refl (.inl ⟨D0,_,0,rfl,rfl,vN,fun _=>.head _⟩) (fun i lb v t C₁ oC m₂ own2 hi2 hv hP hC hx=>?_) fun lb hP t DT=>?_
  ·obtain ⟨tk,rfl⟩:=hv
   obtain ⟨tm,hq⟩:=rO (e:=e) (t0:=u0) (t1:=u1) (sj hi2)
   refine eU (c:=L1) rfl (.tail _ (.tail _ (.head _))) dM ?_
   refine bf (List.Mem.tail _ (aj (.tail _ (.tail _ (.tail _ (aj q1)))))) (by decide) (by decide) rfl ?_
   refine cK (.head _) hC hx ?_
   refine bf (List.Mem.tail _ (aj (.tail _ (.tail _ (.tail _ (aj q4)))))) (Int.natCast_nonneg _) (by omega) hq ?_
   refine ym (u6 (fun h=>?_) fun h=>?_)
   ·refine cK (.head _) hC hx ?_
    exact ⟨lb++[(_,_)],List.map_append,.refl,zd hP h⟩
   ·exact ⟨lb,rfl,.refl,zB hP h⟩
  obtain ⟨e1,e2⟩:=hok'.m0 |> fun h=>(⟨h,hok'.m1⟩:_ ∧ _)
  have hparts:lp.map (·.1) ∈ aL:=by rw [q3];exact hok'.parts
  refine bb (n:=9) ?_
  refine ec c1 (.tail _ (.tail _ (.head _))) dM ?_
  refine bf (.tail _ (.tail _ (.tail _ (.tail _ (aj q1))))) (by decide) (by decide) rfl ?_
  refine bf (.tail _ (.tail _ (.tail _ (.tail _ (aj q4))))) (by decide) (by decide) rfl ?_
  refine ec c1 (.tail _ (.tail _ (.head _))) dM ?_
  refine bf (.tail _ (.tail _ (.tail _ (.tail _ (aj q1))))) (by decide) (by decide) rfl ?_
  refine bf (.tail _ (.tail _ (.tail _ (.tail _ (aj q4))))) (by decide) (by decide) rfl ?_
  refine DF hok'.one (fun h=>?_) fun h=>?_
  ·refine (let G0:Prop:=_;(?_:G0))
   obtain ⟨x,hx,hd⟩:=AS hok' h
   refine aB PySem.F.slot_list_append PySem.F.type_list_append (.tail _ (.tail _ (.tail _ (.head _)))) ?_
   refine cR (aw 12) rfl (by k_is) ?_
   refine ec c1 (.tail _ (.tail _ (.head _))) dM ?_
   refine Ah (tx:=u0) (x:=x) (.tail _ (.tail _ (.tail _ (.tail _ (aj q1))))) (.tail _ (.tail _ (.tail _ (.tail _ (aj q2))))) (.tail _ (.tail _ (.tail _ (.tail _ (aj q4))))) (.inl ⟨rfl,by rw [hx];rfl⟩) (e1 x hx) hok'.letter hparts (by decide) fun t1 t2=>?_
   refine bT (by decide) (Nat.le_trans (sy hparts) (by decide)) fun t1 t2=>?_
   refine au (.tail (.tail (.tail .head))) (by rw [aV];omega) ?_
   rw [← aS]
   exact hK1 .next _ _ _ ⟨⟨c.lv++[(_,_)],c.k + 1,oM⟩,(by repeat (first | exact ar.nil | refine ar.cons rfl ?_)),.drop (.drop .refl),by rw [dw he,hd,List.map_append,hPp,q3];rfl,by rw [List.length_append,List.length_singleton];omega,_,dM⟩
  ·refine (let G0:Prop:=_;(?_:G0))
   obtain ⟨g1,g2⟩:=B7 hok' h
   have hlb:(lb.map fun p=>Value.int p.1 p.2).length ≤ 2:=by rw [List.length_map,← List.length_map (f:=(·.1)),hP];exact iC
   have hlb2:(lb.map fun p=>Value.int p.1 p.2).length = (aJ e 2).length:=by rw [List.length_map,← List.length_map (f:=(·.1)),hP]
   refine sL (cl:=[(Str.ofString "entry",L1)]) (by show closureFor _ (envX C.cn _ C.L C.a C.ccd C.cl) = _;rw [hcl];with_unfolding_all rfl)
    fun M=>Db rfl (EB (fun lr:List (PySem.Str × Nat)=>strValues lr) (fun _=>(DT,listOf (lb.map fun p=>Value.int p.1 p.2).toArray (lb.map fun p=>Value.int p.1 p.2).length) :: (L1,oM) :: (D,listOf (strValues c.lv).toArray c.k) :: (led++own)) (fun i lr=>lr.map (·.1) = ((aJ e 2).take i).map (cz e)) (fun i v=>∃ s tk,v = .int s tk ∧ (aJ e 2)[i]? = some s) [] (lb.map fun p=>Value.int p.1 p.2).length (Nat.le_trans hlb (by decide)) rfl rfl (.cons (.drop .refl)) (.inl ⟨DT,_,_,rfl,rfl,wJ hP,fun _=>.head _⟩) (fun i lr v t C₁ oC m₂ own2 hi2 hv hR hC hx=>?_) fun lr hR t DR=>?_)
   ·refine (let G0:Prop:=_;(?_:G0))
    obtain ⟨s,tk,rfl,hs⟩:=hv
    obtain ⟨hs1,x,hm⟩:=zr (List.mem_of_getElem? hs)
    obtain ⟨tx,hrow⟩:=v6 (u0:=u0) (u1:=u1) hs1 hm
    obtain ⟨i1,i2,i3⟩:=A8 hs1
    refine cK (.head _) hC hx ?_
    refine wO (n:=2) (by decide +kernel) i2 i3 (by decide) ?_ rfl (fun _=>rfl)
    refine bT (Nat.le_trans i1 (by decide)) (by decide) fun t1 t2=>?_
    refine x8 (by rfl) ?_
    refine cR (dH 12) rfl (by k_is) ?_
    refine eU (c:=L1) rfl (.tail _ (.tail _ (.head _))) dM ?_
    refine cK (.head _) hC hx ?_
    refine Ah (x:=x) (List.Mem.tail _ (aj (.tail _ (.tail _ (.tail _ (aj q1)))))) (List.Mem.tail _ (aj (.tail _ (.tail _ (.tail _ (aj q2)))))) (List.Mem.tail _ (aj (.tail _ (.tail _ (.tail _ (aj q4)))))) hrow (z6 hok' hs1 hm) hok'.letter hparts (by decide) fun t3 t4=>?_
    refine bT (by rw [PySem.Str.length_append,show (Str.ofString " ").length = 1 by decide];omega) (Nat.le_trans (sy hparts) (by decide)) fun t5 t6=>?_
    exact ⟨lr++[(_,_)],aS,.refl,uC hR hs (by unfold cz dW;rw [hm,q3])⟩
   rw [hlb2,List.take_length] at hR
   have hlr:lr.length = (aJ e 2).length:=by rw [← List.length_map (f:=(·.1)),hR,List.length_map]
   have hlr2:lr.length ≤ 2:=hlr ▸ iC
   refine aB PySem.F.slot_list_extend PySem.F.type_list_extend (.tail _ (.tail _ (.tail _ (.head _)))) ?_
   refine pf (aw 12) ?_
   refine cV (.head _) (Nat.le_trans hlr2 (by decide)) ⟨fun h1=>?_,fun h1=>?_⟩
   ·refine lK (.head _) (.tail (.tail (.tail .head))) (by rw [aV];omega) (by rw [aV,aV];omega) ?_
    rw [B3]
    exact hK1 .next _ _ _ ⟨⟨c.lv++lr,c.k + 1,oM⟩,(by repeat (first | exact ar.nil | refine ar.cons rfl ?_)),.drop (.drop .refl),by rw [dw he,g1 (by omega),List.map_append,hPp,hR],by rw [List.length_append];omega,_,dM⟩
   ·refine (let G0:Prop:=_;(?_:G0))
    obtain ⟨r0,r1,f1,f2⟩:=g2 (by omega)
    have hl2:lr.length = 2:=by rw [← List.length_map (f:=(·.1)),hR,f1];rfl
    refine be (.head _) (by decide) (by rw [hl2];decide) (Nat.le_trans hlr2 (by decide)) (by with_unfolding_all rfl) fun y0 k0 h0=>?_
    refine be (.head _) (by decide) (by rw [hl2];decide) (Nat.le_trans hlr2 (by decide)) (by with_unfolding_all rfl) fun y1 k1 h1=>?_
    obtain ⟨rfl,rfl⟩:=Bz (hR.trans f1) h0 h1
    refine aC fun DL=>?_
    refine lK (.head _) (.tail (.tail (.tail (.tail .head)))) (Nat.succ_ne_zero _) (by rw [aV];simp only [List.length_cons,List.length_nil];omega) ?_
    rw [yA]
    exact hK1 .next _ _ _ ⟨⟨c.lv++[(y0,_),(_,_),(y1,_),(_,_)],c.k + 1,oM⟩,(by repeat (first | exact ar.nil | refine ar.cons rfl ?_)),.drop (.drop (.drop .refl)),by rw [dw he,f2,List.map_append,hPp];rfl,by rw [List.length_append];simp only [List.length_cons,List.length_nil];omega,_,dM⟩
 ·exact ⟨_,.drop .refl,⟨(D,c.lv,c.k),rfl,rfl,by rw [hes.1,List.take_length] at hP;exact hP⟩⟩
end
section
open PyProof.Rows.LCg
noncomputable abbrev mf (elt t1 i1 t2 i2 c:PySem.Expr) (scope:Scope) (pos:Pos):PySem.Expr:=.ListComp elt [⟨t1,i1,[],0⟩,⟨t2,i2,[c],0⟩] scope pos
theorem ib (elt t1 i1 t2 i2 c:PySem.Expr) (scope:Scope) (pos:Pos) (it acc:Value) (env:Env) :
  compTurn (mf elt t1 i1 t2 i2 c scope pos) 0 it acc env = (do
   standAt i1.pos
   match ← pyNext it with
   | none=>pure (.done .next)
   | some v =>
    letOwnedTupleGo t1 it v
    assign t1 env v
    let mut ok:=true
    for c in ([]:List PySem.Expr) do
     if ok then ok ← isTrue c env (eval c env)
    if ok then
     let x ← eval i2 env
     standAt i2.pos
     let x ← foldedSetIterable i2 env x
     let _ ← runOwn (.compStart (mf elt t1 i1 t2 i2 c scope pos) 1 (← holding [x] (pyIter x)) acc env) env
    again (.compLoop (mf elt t1 i1 t2 i2 c scope pos) 0 it acc env)):=by rfl
theorem gW (elt t1 i1 t2 i2 c:PySem.Expr) (scope:Scope) (pos:Pos) (it acc:Value) (env:Env) :
  compTurn (mf elt t1 i1 t2 i2 c scope pos) 1 it acc env = (do
   standAt i2.pos
   match ← pyNext it with
   | none=>pure (.done .next)
   | some v =>
    letOwnedTupleGo t2 it v
    assign t2 env v
    let mut ok:=true
    for c in [c] do
     if ok then ok ← isTrue c env (eval c env)
    if ok then
     (do let _ ← call (.builtin "list.append") [acc,← eval elt env])
    again (.compLoop (mf elt t1 i1 t2 i2 c scope pos) 1 it acc env)):=by rfl
section
variable {prog:Program} {w:World} {A:Around} {R:Result → Shared → Prop} {s:Shared} {env:Env} {elt t1 i1 t2 i2 c:PySem.Expr} {scope:Scope} {pos:Pos} {it acc:Value}
theorem tS (I:Nat → Shared → Prop)
  (turn:∀ n s,I n s → wpAny (model prog w) A (pyNext it) (fun r s₁=>match r with
   | none=>R (.ok .next) s₁
   | some v=>wpAny (model prog w) A (assign t2 env v) (fun _ s₂=>wpAny (model prog w) A (isTrue c env (eval c env)) (fun ok s₃ =>
     if ok = true then wpAny (model prog w) A (eval elt env) (fun x s₄ =>
      wpAny (model prog w) A (call (.builtin "list.append") [acc,x]) (fun _ s₅=>∃ m,m < n ∧ I m s₅) (notedBy (model prog w) A env fun e s'=>R (.error e) s') s₄) (notedBy (model prog w) A env fun e s'=>R (.error e) s') s₃
     else ∃ m,m < n ∧ I m s₃) (notedBy (model prog w) A env fun e s'=>R (.error e) s') s₂) (notedBy (model prog w) A env fun e s'=>R (.error e) s') s₁) (notedBy (model prog w) A env fun e s'=>R (.error e) s') s)
  (n:Nat) (h:I n s) (ht:∀ v,letOwnedTupleGo t2 it v = pure ():=by intro _;rfl) :
  codeAny (model prog w) A (.compLoop (mf elt t1 i1 t2 i2 c scope pos) 1 it acc env) R s:=by
 refine codeAny_loop rfl I (fun n s hI=>?_) n h
 show wpAny _ A ((compTurn (mf elt t1 i1 t2 i2 c scope pos) 1 it acc env).onRaise (fun x=>do noteFrame x env;theTreesLotGoes x)) _ _ s
 refine wpAny_noted ?_
 rw [gW]
 refine wpAny_bind (wpAny_standAt (wpAny_bind (wpAny_mono (turn n s hI) (fun r s₁ h₁=>?_) fun _ _ h'=>h')))
 cases r with
 | none=>exact wpAny_pure h₁
 | some v =>
  refine wpAny_bind (wpAny_of_eq (ht v) ?_)
  refine wpAny_bind (wpAny_mono h₁ (fun _ s₂ h₂=>wpAny_bind (wpAny_mono (wpAny_tests_one h₂) (fun ok s₃ h₃=>?_) fun _ _ h'=>h')) fun _ _ h'=>h')
  cases ok with
  | false=>exact wpAny_pure ⟨rfl,h₃⟩
  | true =>
   exact wpAny_bind (wpAny_bind (wpAny_mono h₃ (fun x s₄ h₄=>wpAny_bind (wpAny_mono h₄ (fun _ s₅ h₅=>wpAny_pure (wpAny_pure ⟨rfl,h₅⟩)) fun _ _ h'=>h')) fun _ _ h'=>h'))
theorem tM (I:Nat → Shared → Prop)
  (turn:∀ n s,I n s → wpAny (model prog w) A (pyNext it) (fun r s₁=>match r with
   | none=>R (.ok .next) s₁
   | some v=>wpAny (model prog w) A (assign t1 env v) (fun _ s₂=>wpAny (model prog w) A (eval i2 env) (fun x s₃=>wpAny (model prog w) A (pyIter x) (fun it2 s₄ =>
     codeAny (model prog w) (A.mark none) (.compStart (mf elt t1 i1 t2 i2 c scope pos) 1 it2 acc env) (fun r s'=>match r with | .ok _=>∃ m,m < n ∧ I m s' | .error e=>cameBackBy (model prog w) A env (notedBy (model prog w) A env fun e s'=>R (.error e) s') e s') s₄)
     (notedBy (model prog w) A env fun e s'=>R (.error e) s') s₃) (notedBy (model prog w) A env fun e s'=>R (.error e) s') s₂) (notedBy (model prog w) A env fun e s'=>R (.error e) s') s₁) (notedBy (model prog w) A env fun e s'=>R (.error e) s') s)
  (n:Nat) (h:I n s) (ht:∀ v,letOwnedTupleGo t1 it v = pure ():=by intro _;rfl) (hs:∀ x,foldedSetIterable i2 env x = pure x:=by intro _;rfl) :
  codeAny (model prog w) A (.compLoop (mf elt t1 i1 t2 i2 c scope pos) 0 it acc env) R s:=by
 refine codeAny_loop rfl I (fun n s hI=>?_) n h
 show wpAny _ A ((compTurn (mf elt t1 i1 t2 i2 c scope pos) 0 it acc env).onRaise (fun x=>do noteFrame x env;theTreesLotGoes x)) _ _ s
 refine wpAny_noted ?_
 rw [ib]
 refine wpAny_bind (wpAny_standAt (wpAny_bind (wpAny_mono (turn n s hI) (fun r s₁ h₁=>?_) fun _ _ h'=>h')))
 cases r with
 | none=>exact wpAny_pure h₁
 | some v =>
  refine wpAny_bind (wpAny_of_eq (ht v) ?_)
  refine wpAny_bind (wpAny_mono h₁ (fun _ s₂ h₂=>wpAny_bind (wpAny_tests_nil ?_)) fun _ _ h'=>h')
  simp only [if_true]
  refine wpAny_bind (wpAny_mono h₂ (fun x s₃ h₃=>wpAny_bind (wpAny_standAt (wpAny_bind (wpAny_of_eq (hs x) (wpAny_bind (wpAny_holding (wpAny_mono h₃ (fun it2 s₄ h₄=>?_) fun _ _ h'=>h'))))))) fun _ _ h'=>h')
  exact wpAny_bind (wpAny_mono (wpAny_runOwn h₄) (fun f s' hf=>wpAny_pure ⟨rfl,hf⟩) fun _ _ h'=>h')
theorem pP
  (h0:codeAny (model prog w) A (.compLoop (mf elt t1 i1 t2 i2 c scope pos) 1 it acc env) R s)
  (h:wpAny (model prog w) A (pyIter it) (fun it' s'=>codeAny (model prog w) A (.compLoop (mf elt t1 i1 t2 i2 c scope pos) 1 it' acc env) R s')
   (notedBy (model prog w) A env fun x s'=>R (.error x) s') s) :
  codeAny (model prog w) A (.compStart (mf elt t1 i1 t2 i2 c scope pos) 1 it acc env) R s:=by
 refine codeAny_of_tree ?_
 show wpAny _ _ ((compStart (mf elt t1 i1 t2 i2 c scope pos) 1 it acc env).onRaise (fun x=>do noteFrame x env;standAt theWindowsPlace)) _ _ s
 refine wpAny_notedAt ?_
 unfold compStart
 show wpAny _ _ (ask >>= _) _ _ s
 refine wpAny_bind (wpAny_askSetting (wpAny_ite ?_))
 split
 ·first
   | exact wpAny_bind (wpAny_pure (wpAny_pure (And.intro rfl h0)))
   | exact wpAny_pure (And.intro rfl h0)
 ·first
   | exact wpAny_bind (wpAny_rule (wpAny_bind (wpAny_standAt (wpAny_bind (wpAny_mono h (fun it' s' h'=>wpAny_pure (And.intro rfl h')) fun _ _ x=>x)))))
   | (refine wpAny_bind (wpAny_rule ?_);show wpAny _ _ (standAt i2.pos >>= _) _ _ s;exact wpAny_bind (wpAny_standAt (wpAny_bind (wpAny_mono h (fun it' s' h'=>wpAny_pure (And.intro rfl h')) fun _ _ x=>x))))
end
end
section
open PyProof.Rows.LCg PyProof.Rows.LCt
theorem aq.perm {a b:Led} (h:a.Perm b):aq a b:=⟨fun _ hp=>h.mem_iff.mp hp,fun n=>(h.map _).nodup_iff.mpr n⟩
noncomputable def CC (o:Obj) (l:Addr) (i:Nat):Prop:=o.cls = .type "list_iterator" ∧ o.data = .fields #[.ref l,.int i 0]
section
variable {w:World} {cs:Sc} {lv:Nat} {C:Cx w cs lv} {t:Nat} {m:Map} {l l':Led} {s:Shared} {M:PySem.Str → Option Value}
theorem At.set {d:Addr} {o o':Obj} {pre post:Led} {h':Heap} {tk:Nat} (H:At C s t m (pre++(d,o) :: post)) (hs:Heap.ExtBut d s.heap h') (ho:h'.get? d = some o'):At C { s with heap:=h',toks:=tk } tk m (pre++(d,o') :: post):=by
 obtain ⟨M,F,hM⟩:=H.M
 have hd:=H.N (d,o) (ac (.head _))
 have nd:=H.nd
 rw [List.map_append] at nd
 obtain ⟨n1,n2,n3⟩:=List.nodup_append.mp nd
 refine ⟨rfl,H.gens,H.drawn,H.os,fun p hp=>?_,iP ▸ H.nd,M,⟨F.ns.extBut hs hd.2.1.symm,fun c x e=>hs c x (by rintro rfl;rw [hd.2.2] at e;cases e) (F.keep c x e),F.above⟩,hM⟩
 rcases aH hp with hp | hp
 ·have z:=H.N p (aj hp)
  exact ⟨hs _ _ (n3 _ (List.mem_map.mpr ⟨p,hp,rfl⟩) _ (.head _)) z.1,z.2⟩
 ·rcases ag hp with rfl | hp
  ·exact ⟨ho,hd.2⟩
  ·have z:=H.N p (ac (.tail _ hp))
   exact ⟨hs _ _ (fun e=>(List.nodup_cons.mp n2).1 (List.mem_map.mpr ⟨p,hp,e⟩)) z.1,z.2⟩
theorem At.push {o:Obj} {tk:Nat} (H:At C s t m l) (hf:o.isFreed = false:=by rfl):At C { s with heap:=s.heap.push o,toks:=tk } tk m ((s.heap.objs.size,o) :: l) :=
 let ⟨M,F,hM⟩:=H.M
 ⟨rfl,H.gens,H.drawn,H.os,H.N.push F o hf,ay (fun q hq=>Nat.ne_of_lt (Heap.lt_size (H.N q hq).1)) H.nd,M,F.push o,hM⟩
theorem At.it {I P:Addr} {oI:Obj} {i:Nat} (H:At C s t m l) (hm:(I,oI) ∈ l) (ho:CC oI P i):s.heap.IsListIter I P i:=⟨oI,(H.N _ hm).1,ho.1,ho.2⟩
theorem At.lose {d:Addr} {o:Obj} {pre post:Led} {h':Heap} {tk:Nat} (H:At C s t m (pre++(d,o) :: post)) (hs:Heap.ExtBut d s.heap h'):At C { s with heap:=h',toks:=tk } tk m (pre++post):=by
 obtain ⟨M,F,hM⟩:=H.M
 have hd:=H.N (d,o) (ac (.head _))
 obtain ⟨n1,n2⟩:=List.nodup_cons.mp (aq.front.nd H.nd)
 refine ⟨rfl,H.gens,H.drawn,H.os,fun p hp=>?_,n2,M,⟨F.ns.extBut hs hd.2.1.symm,fun c x e=>hs c x (by rintro rfl;rw [hd.2.2] at e;cases e) (F.keep c x e),F.above⟩,hM⟩
 have z:=H.N p (aq.front.mem p (.tail _ hp))
 exact ⟨hs _ _ (fun e=>n1 (List.mem_map.mpr ⟨p,hp,e⟩)) z.1,z.2⟩
theorem At.thaw {m':Map} (H:At (C.frz M) s t m' l) (hM:tL C m M):At C s t m l:=⟨H.tk,H.gens,H.drawn,H.os,H.N,H.nd,M,H.frzF,hM⟩
theorem At.nomap {m':Map} (H:At (C.frz M) s t m' l') (h:aq l l'):At (C.frz M) s t [] l:=H.less (fun _ _ h=>nomatch h) h
theorem v4 {a b c d:Addr × Obj} {r:Led}:(c :: (r++[a,b,d])).Perm (a :: c :: b :: d :: r) :=
 ((List.perm_append_comm (l₁:=r) (l₂:=[a,b,d])).cons c).trans (List.Perm.swap a c _)
theorem Av {b c d:Addr × Obj} {r:Led}:(c :: (r++[b,d])).Perm (c :: b :: d :: r):=(List.perm_append_comm (l₁:=r) (l₂:=[b,d])).cons c
structure Ga (C:Cx w cs lv) (M:PySem.Str → Option Value) (elt i2 test:PySem.Expr) (x1 x2:PySem.Str) (scope:Scope) (cl:List (PySem.Str × Addr)) (EL:Addr) (vs1 vs2:List Value) (L0:Led) (S:Nat → Nat → List Value → Prop) (k:KV) (m:Map):Prop where
 src:∀ C₁ oC t own,uq (C.frz M) (compEnvC scope cl C₁ C.env) 12 i2 t [] ((C₁,oC) :: (L0++own)) fun v _ _ l'=>v = .ref EL ∧ l' = (C₁,oC) :: (L0++own)
 test:∀ i j C₁ zs v1 v2 oC m₂ t own,vs1[i]? = some v1 → vs2[j]? = some v2 → S i j zs → NsObj oC m₂ → m₂ x1 = some v1 → m₂ x2 = some v2 → oW (C.frz M) (compEnvC scope cl C₁ C.env) (uq (C.frz M) (compEnvC scope cl C₁ C.env) 12) 12 test t [] ((C₁,oC) :: (L0++own))
  (fun t m l=>uq (C.frz M) (compEnvC scope cl C₁ C.env) 12 elt t m l fun z _ _ l'=>aq ((C₁,oC) :: (L0++own)) l' ∧ S i (j + 1) (zs++[z])) fun _ _ l'=>aq ((C₁,oC) :: (L0++own)) l' ∧ S i (j + 1) zs
 link:∀ i zs,S i vs2.length zs → S (i + 1) 0 zs
 fin:∀ D zs t,S vs1.length 0 zs → k (.ref D) t m ((D,lst zs) :: L0)
section
variable {elt i2 test:PySem.Expr} {x1 x2:PySem.Str} {px1 px2 pos:Pos} {scope:Scope} {cl:List (PySem.Str × Addr)} {EL:Addr} {vs1 vs2:List Value} {L0:Led} {S:Nat → Nat → List Value → Prop} {k:KV}
theorem At.own {C₁:Addr} {oC:Obj} {m₂:PySem.Str → Option Value} {x:PySem.Str} {px:Pos} {v:Value} {pre post:Led} {Q:Unit → Shared → Prop} {E:Value → Shared → Prop} (H:At (C.frz M) s t [] (pre++(C₁,oC) :: post)) (hC:NsObj oC m₂) (hkind:scope.kind = .function) (hx:scope.names.lookup x = some .local)
  (h:∀ h' oC' tk,NsObj oC' (fun y=>if y = x then some v else m₂ y) → At (C.frz M) { s with heap:=h',toks:=tk } tk [] (pre++(C₁,oC') :: post) → Q () { s with heap:=h',toks:=tk }):wpAny (model PR w) C.A (assign (.Name x px) (compEnvC scope cl C₁ C.env) v) Q E s:=by
 refine wpAny_assign_Name (wpAny_storeName_local (lookup_relabel_local hx) (hC.ns (H.N _ (ac (.head _))).1) (fun h3 hn3 hs3=>?_) (by simp [compEnvC,relabel,hkind]))
 obtain ⟨oC3,heC3,hoC3⟩:=ns_obj hn3
 exact h h3 oC3 _ hoC3 (H.set hs3.extBut heC3)
inductive Ou (C:Cx w cs lv) (M:PySem.Str → Option Value) (vs1:List Value) (z2:Nat) (S:Nat → Nat → List Value → Prop) (P C₁ D I:Addr) (l:Led) (n:Nat) (s:Shared):Prop
 | mk (i:Nat) (zs:List Value) (t:Nat) (oC:Obj) (m₂:PySem.Str → Option Value) (oI:Obj):i ≤ vs1.length → n = vs1.length + 1 - i → zs.length ≤ i * z2 → NsObj oC m₂ → CC oI P i → S i 0 zs → At (C.frz M) s t [] ((C₁,oC) :: (D,lst zs) :: (I,oI) :: l) → Ou C M vs1 z2 S P C₁ D I l n s
inductive Fm (C:Cx w cs lv) (M:PySem.Str → Option Value) (vs2:List Value) (i:Nat) (x1:PySem.Str) (v:Value) (S:Nat → Nat → List Value → Prop) (EL C₁ D J:Addr) (l:Led) (n:Nat) (s:Shared):Prop
 | mk (j:Nat) (zs:List Value) (t:Nat) (oC:Obj) (m₂:PySem.Str → Option Value) (oJ:Obj):j ≤ vs2.length → n = vs2.length + 1 - j → zs.length ≤ i * vs2.length + j → NsObj oC m₂ → m₂ x1 = some v → CC oJ EL j → S i j zs → At (C.frz M) s t [] ((J,oJ) :: (C₁,oC) :: (D,lst zs) :: l) → Fm C M vs2 i x1 v S EL C₁ D J l n s
theorem Dw {i1:PySem.Expr} {P:Addr} {k1 k2:Nat} (hclos:closureFor scope C.env = pure cl) (h1:∀ M,cE (C.frz M) 12 i1 t m l fun v _ _ l₁=>v = .ref P ∧ l₁ = L0 ∧ (P,listOf vs1.toArray k1) ∈ L0 ∧ (EL,listOf vs2.toArray k2) ∈ L0 ∧ vs1.length ≤ 100 ∧ vs2.length ≤ 100 ∧ S 0 0 [] ∧ Ga C M elt i2 test x1 x2 scope cl EL vs1 vs2 L0 S k m)
  (hcell:∀ y ∈ scope.names,y.2 ≠ .cell:=by decide) (hkind:scope.kind = .function:=by rfl) (hnames:∀ y ∈ scope.names,y.2 = .local → scope.names.lookup y.1 = some .local:=by decide) (hx1:scope.names.lookup x1 = some .local:=by rfl) (hx2:scope.names.lookup x2 = some .local:=by rfl) (hx12:x1 ≠ x2:=by decide)
  (hs1:∀ x,foldedSetIterable i1 C.env x = pure x:=by intro _;rfl) (hs2:∀ C₁ x,foldedSetIterable i2 (compEnvC scope cl C₁ C.env) x = pure x:=by intro _ _;rfl) :
  af C (eval (mf elt (.Name x1 px1) i1 (.Name x2 px2) i2 test scope pos) C.env) t m l k:=fun s H=>by
 obtain ⟨M,F,hM⟩:=H.M
 rw [eval_ListComp]
 refine wpAny_comprehension_free (use:=none) rfl hs1 hclos hkind hnames ((aw 12 (h1 M)).run (H.frz F hM) fun xv s₁ t₁ m₁ l₁ H₁ h₁=>?_)
 obtain ⟨rfl,rfl,hP,hEL,hz1,hz2,hS,W⟩:=h₁
 have isL:∀ {s':Shared} {t':Nat} {l':Led},At (C.frz M) s' t' [] l' → aq l₁ l' → s'.heap.IsList P vs1.toArray ∧ s'.heap.IsList EL vs2.toArray:=fun H' hs=>⟨H'.N.isList (hs.mem _ hP),H'.N.isList (hs.mem _ hEL)⟩
 refine wpAny_pyIter_list (H₁.N.isList hP) ?_
 refine wpAny_newObj_type (wpAny_newFunctionEnv hcell (by intro y hy;simp at hy) (fun h₁ hns₁ hsb₁=>?_) hkind)
 dsimp only at hns₁ hsb₁ ⊢
 obtain ⟨oC,heC,hoC⟩:=ns_obj hns₁
 have H3:=At.set (pre:=[]) (tk:=s₁.toks + ([]:List (PySem.Str × Value)).length) (At.push (o:=_) (tk:=s₁.toks) (At.push (o:={ cls:=.type "list",dict:=none,data:=.seq ([]:List Value).toArray }) (tk:=s₁.toks) (At.push (o:={ cls:=.type "list_iterator",data:=.fields #[.ref P,.int 0 0] }) (tk:=s₁.toks) (H₁.nomap .refl)))) hsb₁.extBut heC
 clear heC hsb₁
 generalize ((s₁.heap.push _).push _).objs.size = C₁ at H3 hns₁ ⊢
 clear hns₁
 generalize (s₁.heap.push _).objs.size = D at H3 ⊢
 generalize s₁.heap.objs.size = I at H3 ⊢
 have loop:∀ s₃,At (C.frz M) s₃ s₃.toks [] ((C₁,oC) :: (D,lst []) :: (I,mM P 0) :: l₁) → codeAny (model PR w) C.A (.compLoop (mf elt (.Name x1 px1) i1 (.Name x2 px2) i2 test scope pos) 0 (.ref I) (.ref D) (compEnvC scope cl C₁ C.env)) (compPost (model PR w) C.A (fun _ _=>False) none (uG C k) (.ref D) C₁) s₃:=by
  intro s₃ H₃
  refine tM (hs:=hs2 C₁) (Ou C M vs1 vs2.length S P C₁ D I l₁) ?_ (vs1.length + 1) ⟨0,[],_,oC,_,_,Nat.zero_le _,rfl,Nat.zero_le _,hoC,⟨rfl,rfl⟩,hS,H₃⟩
  rintro n s' ⟨i,zs,t,oC,m₂,oI,hi,rfl,hz,hC,hI,hS',H'⟩
  by_cases hlt:i < vs1.length
  ·have hv:vs1[i]? = some vs1[i]:=List.getElem?_eq_getElem hlt
   generalize vs1[i] = v at hv
   refine wpAny_pyNext_list_item (H'.it (.tail _ (.tail _ (.head _))) hI) (isL H' (.drop (.drop (.drop .refl)))).1 (by simpa using hv) (fun h2 hit2 hs2'=>?_)
   refine (let G0:Prop:=_;(?_:G0))
   obtain ⟨oI2,heI2,hI2⟩:=hit2
   refine At.own (pre:=[]) (H'.set (pre:=[_,_]) (tk:=s'.toks) hs2'.extBut heI2) hC hkind hx1 fun h3 oC3 tk3 hC3 H3=>?_
   refine wpAny_mono ((dH 12 (W.src C₁ oC3 tk3 [(D,lst zs),(I,oI2)])).run (H3.nomap (.perm Av)) fun xv s4 t4 m4 l4 H4 h4=>?_) (fun _ _ q=>q) fun _ _ x=>x.elim
   obtain ⟨rfl,rfl⟩:=h4
   have H4:=H4.nomap (.perm Av.symm)
   refine wpAny_pyIter_list (isL H4 (.drop (.drop (.drop .refl)))).2 ?_
   have H5:=H4.push (o:={ cls:=.type "list_iterator",data:=.fields #[.ref EL,.int 0 0] }) (tk:=s4.toks)
   generalize s4.heap.objs.size = J at H5 ⊢
   have inner:∀ s₅,At (C.frz M) s₅ s₅.toks [] ((J,mM EL 0) :: (C₁,oC3) :: (D,lst zs) :: (I,oI2) :: l₁) → codeAny (model PR w) (C.A.mark none) (.compLoop (mf elt (.Name x1 px1) i1 (.Name x2 px2) i2 test scope pos) 1 (.ref J) (.ref D) (compEnvC scope cl C₁ C.env))
     (fun r s'=>match r with | .ok _=>∃ n,n < vs1.length + 1 - i ∧ Ou C M vs1 vs2.length S P C₁ D I l₁ n s' | .error e=>cameBackBy (model PR w) C.A (compEnvC scope cl C₁ C.env) (notedBy (model PR w) C.A (compEnvC scope cl C₁ C.env) fun e s'=>compPost (model PR w) C.A (fun _ _=>False) none (uG C k) (.ref D) C₁ (.error e) s') e s') s₅:=by
    intro s₅ H₅
    refine tS (Fm C M vs2 i x1 v S EL C₁ D J ((I,oI2) :: l₁)) ?_ (vs2.length + 1) ⟨0,zs,_,oC3,_,_,Nat.zero_le _,rfl,hz,hC3,if_pos rfl,⟨rfl,rfl⟩,hS',H₅⟩
    rintro n s' ⟨j,zs,t,oC,m₂,oJ,hj,rfl,hz,hC,hm1,hJ,hS',H'⟩
    by_cases hlt2:j < vs2.length
    ·have hv2:vs2[j]? = some vs2[j]:=List.getElem?_eq_getElem hlt2
     generalize vs2[j] = v2 at hv2
     refine wpAny_pyNext_list_item (H'.it (.head _) hJ) (isL H' (.drop (.drop (.drop (.drop .refl))))).2 (by simpa using hv2) (fun h6 hit6 hs6=>?_)
     refine (let G0:Prop:=_;(?_:G0))
     obtain ⟨oJ6,heJ6,hJ6⟩:=hit6
     refine At.own (pre:=[_]) (H'.set (pre:=[]) (tk:=s'.toks) hs6.extBut heJ6) hC hkind hx2 fun h7 oC7 tk7 hC7 H7=>?_
     have hm7:(fun y=>if y = x2 then some v2 else m₂ y) x1 = some v:=(if_neg hx12).trans hm1
     refine wpAny_mono ((dz (dH 12) 12 (W.test i j C₁ zs v v2 oC7 _ tk7 [(J,oJ6),(D,lst zs),(I,oI2)] hv hv2 hS' hC7 hm7 (if_pos rfl))).run (H7.nomap (.perm v4)) fun ok s8 t8 m8 l8 H8 h8=>?_) (fun _ _ q=>q) fun _ _ x=>x.elim
     cases ok with
     | false =>
      obtain ⟨h8,hS8⟩:=h8.2 rfl
      rw [if_neg Bool.false_ne_true]
      exact ⟨vs2.length + 1 - (j + 1),eC hlt2,j + 1,zs,_,oC7,_,oJ6,hlt2,rfl,by exact ae fun h9=>lN [_,_,_] [(1,.t (.a V0 (.a V1 K1)) V2),(1,.l V2 (.a V0 V1))] (.c h9 (.c hz .n)),hC7,hm7,hJ6,hS8,H8.nomap (.trans (.perm v4.symm) h8)⟩
     | true =>
      rw [if_pos rfl]
      refine wpAny_mono ((dH 12 (h8.1 rfl)).run H8 fun z s9 t9 m9 l9 H9 h9=>?_) (fun _ _ q=>q) fun _ _ x=>x.elim
      obtain ⟨h9,hS9⟩:=h9
      have H9:=H9.nomap (.trans (.perm v4.symm) h9)
      have hsz:zs.toArray.size ≤ sizeLine:=by
       rw [List.size_toArray]
       have q1:i * vs2.length ≤ 100 * 100:=Nat.mul_le_mul (by exact ae fun h9=>lN [_,_] [(1,.t (.k 100) V0),(1,.l V1 (.k 100)),(1,.t V0 V1)] (.c h9 (.c hz1 (.c hlt .n)))) hz2
       rw [sizeLine_eq];exact ae fun h9=>lN [_,_,_,_] [(1,.t (.k 16777216) V0),(1,.l V1 (.k 100)),(1,.l V0 (.a V2 V3)),(1,.t V3 V1),(1,.l V2 (.m 100 (.k 100)))] (.c h9 (.c hz2 (.c hz (.c hlt2 (.c q1 .n)))))
      refine append_at (hsz:=hsz) (H9.N _ (.tail _ (.tail _ (.head _)))).1 fun h10 hs10 hD10=>?_
      exact ⟨vs2.length + 1 - (j + 1),eC hlt2,j + 1,zs++[z],_,oC7,_,oJ6,hlt2,rfl,by rw [List.length_append,List.length_singleton];exact ae fun h9=>lN [_,_,_] [(1,.t (.a V0 (.a V1 K1)) (.a V2 K1)),(1,.l V2 (.a V0 V1))] (.c h9 (.c hz .n)),hC7,hm7,hJ6,hS9,H9.set (pre:=[_,_]) (tk:=s9.toks) hs10.extBut (hD10.trans (congrArg some (lst_snoc zs z)))⟩
    ·obtain rfl:j = vs2.length:=Nat.le_antisymm hj (Nat.not_lt.mp hlt2)
     refine wpAny_pyNext_list_end rfl (H'.it (.head _) hJ) (isL H' (.drop (.drop (.drop (.drop .refl))))).2 (by simp) (fun h6 hs6=>?_)
     exact ⟨vs1.length + 1 - (i + 1),eC hlt,i + 1,zs,_,oC,m₂,oI2,hlt,rfl,by rw [Nat.succ_mul];exact hz,hC,hI2,W.link i zs hS',H'.lose (pre:=[]) (tk:=s'.toks) hs6⟩
   exact pP (inner _ H5) (wpAny_pyIter_listiter (i:=0) ⟨_,(H5.N _ (.head _)).1,rfl,rfl⟩ (inner _ H5))
  ·obtain rfl:i = vs1.length:=Nat.le_antisymm hi (Nat.not_lt.mp hlt)
   refine wpAny_pyNext_list_end rfl (H'.it (.tail _ (.tail _ (.head _))) hI) (isL H' (.drop (.drop (.drop .refl)))).1 (by simp) (fun h6 hs6=>?_)
   have H6:=H'.lose (pre:=[_,_]) (tk:=s'.toks) hs6
   refine ⟨m₂,hC.ns (H6.N _ (.head _)).1,fun h'' hs''=>?_⟩
   have H7:=(H6.lose (pre:=[]) (tk:=s'.toks) hs''.extBut).thaw hM
   exact H7.ret (W.fin D zs _ hS')
 exact codeAny_compStart_list (loop _ H3) (wpAny_pyIter_listiter (i:=0) ⟨_,(H3.N _ (.tail _ (.tail _ (.head _)))).1,rfl,rfl⟩ (loop _ H3))
end
end
end
section
open PyProof.Rows.LCg PyProof.Rows.LCt
noncomputable abbrev bm (nums:List (Int × Nat)):List Value:=nums.map fun p=>Value.int p.1 p.2
noncomputable def dm (k:Nat) (x:Int):aK :=
 let a:=(x.fdiv 3).fmod 512
 let b:=if x.fmod 3 = 0 then (x.fdiv 6144).fmod 512 else (x.fdiv 3).fmod 512
 ⟨(f0[((x.fdiv 1536).fmod 4).toNat]?).getD []++[Txt.item (Str.ofString "abcdefghi") (0 + (k:Int))],Str.ofString "-",if x.fmod 3 < 2 then some a else none,if x.fmod 3 ≠ 1 then some b else none⟩
noncomputable def vA:List aK:=[⟨[Str.ofString "p"],Str.ofString "d",some 493,some 493⟩,⟨[Str.ofString "p",Str.ofString "q"],Str.ofString "d",some 457,some 457⟩,⟨[Str.ofString "r"],Str.ofString "d",some 448,some 448⟩]
noncomputable def cb (xs:List Int):List aK:=vA++(List.range xs.length).map fun k=>dm k (xs[k]?.getD 0)
theorem Fw (y:Int):y.fmod 4 = 0 ∨ y.fmod 4 = 1 ∨ y.fmod 4 = 2 ∨ y.fmod 4 = 3:=by
 rw [Int.fmod_eq_emod_of_nonneg _ (by decide)]
 obtain ⟨k,hk⟩:=Int.eq_ofNat_of_zero_le (Int.emod_nonneg y (by decide:(4:Int) ≠ 0))
 have h2:k < 4:=Int.ofNat_lt.mp (hk ▸ Int.emod_lt_of_pos y (by decide:(0:Int) < 4))
 rw [hk]
 match k,h2 with
 | 0,_=>exact .inl rfl
 | 1,_=>exact .inr (.inl rfl)
 | 2,_=>exact .inr (.inr (.inl rfl))
 | 3,_=>exact .inr (.inr (.inr rfl))
theorem il {new new':List (Addr × Obj)} {vs:List Value} {es:List aK} {v:Value} {e:aK} (h:ba new vs es) (k:∀ p ∈ new,p ∈ new') (h1:ie new' v e):ba new' (vs++[v]) (es++[e]):=by
 refine ⟨by simp [h.1],fun i u hu=>?_⟩
 by_cases hi:i < vs.length
 ·rw [List.getElem?_append_left hi] at hu
  obtain ⟨o',a,b⟩:=h.2 i u hu
  exact ⟨o',by rw [List.getElem?_append_left (by rw [← h.1];exact hi)];exact a,b.mono k⟩
 ·rw [List.getElem?_append_right (by exact ae fun h9=>lN [_,_] [(1,.t V0 V1),(1,.nt V0 V1)] (.c h9 (.c hi .n)))] at hu
  have e0:i - vs.length = 0:=by
   rcases Nat.eq_zero_or_pos (i - vs.length) with e | e
   ·exact e
   ·rw [List.getElem?_eq_none (by simp;exact ae fun h9=>lN [_,0] [(1,.t V0 K1),(1,.t K0 V0)] (.c h9 (.c e .n)))] at hu;cases hu
  rw [e0] at hu
  cases hu
  exact ⟨e,by rw [List.getElem?_append_right (by rw [← h.1];exact ae fun h9=>lN [_,_] [(1,.t V0 V1),(1,.nt V0 V1)] (.c h9 (.c hi .n))),← h.1,e0];rfl,h1⟩
theorem nP {α:Type} {f:Nat → Int → α} {xs:List Int} {i:Nat} {x:Int} (h:xs[i]? = some x) :
  (List.range (xs.take (i + 1)).length).map (fun k=>f k ((xs.take (i + 1))[k]?.getD 0)) = (List.range (xs.take i).length).map (fun k=>f k ((xs.take i)[k]?.getD 0))++[f i x]:=by
 have hi:i < xs.length:=(List.getElem?_eq_some_iff.mp h).1
 rw [List.length_take,List.length_take,Nat.min_eq_left (by exact ae fun h9=>lN [_,_] [(1,.t V0 (.a V1 K1)),(1,.t V1 V0)] (.c h9 (.c hi .n))),Nat.min_eq_left (by exact ae fun h9=>lN [_,_] [(1,.t V0 V1),(1,.t V1 V0)] (.c h9 (.c hi .n))),List.range_succ,List.map_append]
 congr 1
 ·refine List.map_congr_left fun k hk=>?_
  have hk':=List.mem_range.mp hk
  rw [List.getElem?_take,List.getElem?_take,if_pos (by exact aA fun h9=>lN [_,_] [(1,.l (.a V0 K1) V1),(1,.t V1 V0)] (.c h9 (.c hk' .n))),if_pos hk']
 ·simp only [List.map_cons,List.map_nil]
  rw [List.getElem?_take,if_pos (by exact aA fun h9=>lN [_] [(1,.l (.a V0 K1) V0)] (.c h9 .n)),h];rfl
theorem uh {xs:List Int} {i:Nat} {x:Int} (h:xs[i]? = some x):cb (xs.take (i + 1)) = cb (xs.take i)++[dm i x]:=by
 unfold cb
 rw [nP h,List.append_assoc]
theorem f8 (xs:List Int):(cb xs).length = 3 + xs.length:=by
 unfold cb vA
 simp;exact aN (fun h9=>lN [_] [(1,.t (.a (.k 3) V0) (.a (.a (.a V0 K1) K1) K1))] (.c h9 .n)) (fun h9=>lN [_] [(1,.t (.a (.a (.a V0 K1) K1) K1) (.a (.k 3) V0))] (.c h9 .n))
theorem iM:∀ {vs:List Value} {ss:List PySem.Str},StrsAre vs ss → ∃ l:List (PySem.Str × Nat),vs = strValues l ∧ l.map (·.1) = ss
 | _,_,.nil=>⟨[],rfl,rfl⟩
 | _,_,.cons y t h=>let ⟨l,a,b⟩:=iM h;⟨(y,t) :: l,by rw [a];rfl,by rw [← b];rfl⟩
theorem pE:((List.range 4).all fun q=>(List.range 9).all fun k=>aL.contains ((f0[q]?).getD []++[Txt.item (Str.ofString "abcdefghi") (0 + ((k:Nat):Int))])) = true:=by decide +kernel
theorem r6 (y:Int):0 ≤ y.fmod 512 ∧ y.fmod 512 < 512:=by rw [Int.fmod_eq_emod_of_nonneg _ (by decide)];omega
theorem uX {k:Nat} {x:Int} (hk:k < 9):bc (dm k x) where
 parts:=by
  have hq:=Fw (x.fdiv 1536)
  have h1:=List.all_eq_true.mp pE ((x.fdiv 1536).fmod 4).toNat (List.mem_range.mpr (by omega))
  have h2:=List.all_eq_true.mp h1 k (List.mem_range.mpr hk)
  have h3:=List.contains_iff_mem.mp h2
  exact h3
 letter:=.inr rfl
 m0:=by
  intro y h
  unfold dm at h
  dsimp only at h
  split at h
  ·cases h;exact r6 _
  ·cases h
 m1:=by
  intro y h
  unfold dm at h
  dsimp only at h
  split at h
  ·split at h <;> (cases h;exact r6 _)
  ·cases h
 one:=by
  unfold dm
  dsimp only
  by_cases h:x.fmod 3 < 2
  ·left;rw [if_pos h];rfl
  ·right;rw [if_pos (by exact fun h9=>lI [_] [(1,.e V0 K1),(1,.nt V0 K2)] (.c h9 (.c h .n)))];rfl
theorem fZ {xs:List Int} (h:xs.length ≤ 9):∀ e ∈ cb xs,bc e:=by
 intro e he
 unfold cb at he
 rcases aH he with he | he
 ·simp only [vA,List.mem_cons,List.not_mem_nil,or_false] at he
  rcases he with rfl | rfl | rfl
  ·exact ⟨by simp [aL],.inl rfl,by intro x h;cases h;decide,by intro x h;cases h;decide,.inl rfl⟩
  ·exact ⟨by simp [aL],.inl rfl,by intro x h;cases h;decide,by intro x h;cases h;decide,.inl rfl⟩
  ·exact ⟨by simp [aL],.inl rfl,by intro x h;cases h;decide,by intro x h;cases h;decide,.inl rfl⟩
 ·obtain ⟨k,hk,rfl⟩:=List.mem_map.mp he
  exact uX (Nat.lt_of_lt_of_le (List.mem_range.mp hk) h)
noncomputable def aO (e:aK):PySem.Str:=bJ e.parts
noncomputable def fN (es:List aK) (ps:List PySem.Str):List aK:=ps.flatMap fun p=>es.filter fun e=>aO e == p
noncomputable def fM (es:List aK) (ps:List PySem.Str) (i k:Nat):List aK:=fN es (ps.take i)++(es.take k).filter fun e=>(some (aO e)) == ps[i]?
theorem uo {es:List aK} {ps:List PySem.Str} {i:Nat}:fM es ps i es.length = fM es ps (i + 1) 0:=by
 unfold fM fN
 rw [List.take_length,List.take_zero,List.filter_nil,List.append_nil,List.take_add_one,List.flatMap_append]
 cases ps[i]? <;> simp
theorem xg {es:List aK} {ps:List PySem.Str}:fM es ps ps.length 0 = fN es ps:=by unfold fM;simp
theorem vZ {es:List aK} {ps:List PySem.Str} {i k:Nat} {e:aK} {p:PySem.Str} (he:es[k]? = some e) (hp:ps[i]? = some p) (h:aO e = p):fM es ps i (k + 1) = fM es ps i k++[e]:=by
 unfold fM
 rw [List.take_add_one,he,List.filter_append,List.append_assoc,hp]
 simp [h]
theorem zC {es:List aK} {ps:List PySem.Str} {i k:Nat} {e:aK} {p:PySem.Str} (he:es[k]? = some e) (hp:ps[i]? = some p) (h:aO e ≠ p):fM es ps i (k + 1) = fM es ps i k:=by
 unfold fM
 rw [List.take_add_one,he,List.filter_append,hp]
 simp [h]
end
section
open PyProof.Rows.LCg PyProof.Rows.LCt
section
variable {w:World} {cs:Sc} {lv:Nat} {C:Cx w cs lv} {t:Nat} {m:Map} {l l':Led}
theorem BD {D:Addr} {nums:List (Int × Nat)} {n:Nat} {k:KV} (hd:(D,listOf (bm nums).toArray n) ∈ l) (hz:nums.length ≤ 100000) (h:k (.int (nums.length:Nat) t.succ) t.succ.succ m l):af C (call (.builtin "len") [.ref D]) t m l k :=
 cg fun s M Q ht F N nd back=>by
  subst ht
  have e:(bm nums).toArray.size = nums.length:=by simp
  refine Calls.call_len_list (N.isList hd) (by exact pu fun h9=>lI [_,_] [(1,.l (.k 9223372036854775808) V0),(1,.l V1 (.k 100000)),(1,.e V0 V1)] (.c h9 (.c (zl hz) (.c (ze e) .n)))) ?_
  rw [e];exact back _ _ _ _ F N nd h
theorem B1 {value slice:PySem.Expr} {D:Addr} {n u:Nat} {q:Int} {a0 a1 a2 a3:Addr} {u1 u2 u3 u4:Nat} {k:KV} (hd:(D,listOf #[.ref a0,.ref a1,.ref a2,.ref a3] n) ∈ l)
  (h0:(a0,listOf #[] 0) ∈ l) (h1:(a1,listOf #[.str (Str.ofString "p") u1] 0) ∈ l) (h2:(a2,listOf #[.str (Str.ofString "p") u2,.str (Str.ofString "q") u3] 0) ∈ l) (h3:(a3,listOf #[.str (Str.ofString "r") u4] 0) ∈ l)
  (hq:q = 0 ∨ q = 1 ∨ q = 2 ∨ q = 3) (h:∀ a lx,(a,listOf (strValues lx).toArray 0) ∈ l → lx.map (·.1) = (f0[q.toNat]?).getD [] → lx.length ≤ 2 → k (.ref a) t m l)
  (hs:subscripted slice false (.ref D) (.int q u) = operate [.ref D,.int q u] (getItem (.ref D) (.int q u)):=by with_unfolding_all rfl):af C (subscriptTail value slice (.ref D) (.int q u)) t m l k:=by
 rcases hq with rfl | rfl | rfl | rfl
 ·exact bf hd (by decide) (by decide) rfl (h a0 [] h0 rfl (by decide)) hs
 ·exact bf hd (by decide) (by decide) rfl (h a1 [(Str.ofString "p",u1)] h1 rfl (by simp)) hs
 ·exact bf hd (by decide) (by decide) rfl (h a2 [(Str.ofString "p",u2),(Str.ofString "q",u3)] h2 rfl (by simp)) hs
 ·exact bf hd (by decide) (by decide) rfl (h a3 [(Str.ofString "r",u4)] h3 rfl (by simp)) hs
theorem Cp {a b:Addr} {vs ws:List Value} {n1 n2:Nat} {k:KV} (ha:(a,listOf vs.toArray n1) ∈ l) (hb:(b,listOf ws.toArray n2) ∈ l) (hz:(vs++ws).length ≤ 100000) (h:∀ D,k (.ref D) t m ((D,listOf (vs++ws).toArray 0) :: l)):af C (binaryOp .Add (.ref a) (.ref b)) t m l k :=
 cg fun s M Q ht F N nd back=>by
  subst ht
  exact add_lists F N (N.isList ha) (N.isList hb) (fun h' F' N'=>back _ _ _ _ F' N' (ay (fun q hq=>Nat.ne_of_lt (Heap.lt_size (N q hq).1)) nd) (h _)) (by refine Nat.le_trans ?_ (Nat.le_trans hz (Nat.le_of_ble_eq_true rfl));rw [List.length_append];exact Nat.le_refl _)
end
theorem Dv {w:World} {cs:Sc} {lv:Nat} {C:Cx w cs lv} {t:Nat} {m:Map} {l:Led} {a b:Int} {u v:Nat} {kt kf:KN} (h1:a ≠ b → kt t m l) (h2:a = b → kf t m l):uF C .NotEq (.int a u) (.int b v) t m l kt kf :=
 fun s H=>PyProof.Rows.ne_int (H.ret (show _ ∧ _ from ⟨fun h=>h1 (bne_iff_ne.mp h),fun h=>h2 (by simpa using h)⟩))
theorem wc {w:World} {cs:Sc} {lv:Nat} {C:Cx w cs lv} {t:Nat} {m:Map} {l:Led} {D n:Nat} {lx:List (PySem.Str × Nat)} {k:KV} (hd:(D,listOf (strValues lx).toArray n) ∈ l) (h64:lx.length < 64) (h:∀ B ly e,(ly.map (·.1)).Perm (lx.map (·.1)) → k (.ref B) t m ((B,listOf (strValues ly).toArray e) :: l)):af C (call (.builtin "sorted") [.ref D]) t m l k :=
 cg fun s M Q ht F N nd back=>by
  subst ht
  refine sorted_N_str F N (N.isList hd) (gk lx) (by rw [aV];exact h64) fun h' vs' ss' e F' N' hS hp _=>?_
  obtain ⟨ly,rfl,rfl⟩:=iM hS
  exact back _ _ _ _ F' N' (ay (fun q hq=>Nat.ne_of_lt (Nat.lt_succ_of_lt (Heap.lt_size (N q hq).1))) nd) (h _ ly e hp)
theorem nF {es:List aK} {i tk:Nat} {e:aK} {lb lp:List (PySem.Str × Nat)} (h:lb.map (·.1) = (es.take i).map aO) (he:es[i]? = some e) (q:lp.map (·.1) = e.parts):(lb++[(Str.ofString "/" ++ Txt.join (Str.ofString "/") (lp.map (·.1)),tk)]).map (·.1) = (es.take (i + 1)).map aO:=by
 rw [List.map_append,h,List.take_add_one,he,List.map_append]
 show _++[_] = _++[aO e]
 unfold aO bJ
 rw [q]
structure EU where
 vs:List Value
 n:Nat
 new:Led
theorem m6 (w:World) (led:Led) (D n:Nat) (nums:List (Int × Nat)) (hD:(D,listOf (bm nums).toArray n) ∈ led) (hlen:nums.length ≤ 9) :
  Sq w 420 10 [.ref D] led led (fun v new=>∃ (B n':Nat) (ys:List Value) (nw:Led) (ps:List PySem.Str),v = .ref B ∧ new = (B,listOf ys.toArray n') :: nw ∧ ps.Perm ((cb (nums.map Prod.fst)).map aO) ∧ ba nw ys (fN (cb (nums.map Prod.fst)) ps)):=by
 refine (fun h:(rW = rW ∧ K = K) → _=>h ⟨rfl,rfl⟩) ?_
 k_fill
 intro _
 refine j7 [(Str.ofString "numbers",Value.ref D)] [(Str.ofString "numbers",Value.ref D)] 30 (by k_is) (by k_is) (fun _ _=>BindsTo.of_eq rfl) (by rfl) (by rfl) (by rfl) (by kernel_rfl!) (by decide +kernel) ⟨⟨rfl,rfl⟩,trivial⟩ ?_
 intro C t0 L1 cells hcl Y
 obtain ⟨o1,rfl,d1⟩:=CellsAre.one Y
 clear Y
 have hcl:C.cl = [(Str.ofString "entries",L1)]:=hcl
 have d1:o1.data = .cell none:=d1
 have c1:C.cl.lookup (Str.ofString "entries") = some L1:=by rw [hcl];rfl
 refine aC fun P1=>aC fun M1=>aC fun E1=>aC fun P2=>aC fun M2=>aC fun E2=>aC fun P3=>aC fun M3=>aC fun E3=>aC fun EL=>?_
 refine rh (pre:=[_,_,_,_,_,_,_,_,_,_]) c1 rfl d1 fun oC dC=>?_
 refine lE (by rfl) (fun _=>rfl) ?_
 refine BD (List.Mem.tail _ (.tail _ (.tail _ (.tail _ (.tail _ (.tail _ (.tail _ (.tail _ (.tail _ (.tail _ (.tail _ hD))))))))))) (by exact ae fun h9=>lN [_] [(1,.t (.k 100000) V0),(1,.l V0 (.k 9))] (.c h9 (.c hlen .n))) ?_
 refine lL fun r=>?_
 refine fC (a:=0) (b:=nums.length) (σ:=EU) (fun c=>(EL,listOf c.vs.toArray c.n) :: (c.new++((L1,oC) :: led))) (fun _=>[(Str.ofString "numbers",.ref D)]) (fun i c=>ba c.new c.vs (cb ((nums.map Prod.fst).take i)))
  ⟨[.ref E1,.ref E2,.ref E3],0,[(E3,_),(M3,_),(P3,_),(E2,_),(M2,_),(P2,_),(E1,_),(M1,_),(P1,_)]⟩ 30 (by rfl) (by exact ae fun h9=>lN [] [(1,.t (.k 1000) K0)] (.c h9 .n)) (by exact ae fun h9=>lN [_] [(1,.t (.k 1000) V0),(1,.l V0 (.k 9))] (.c h9 (.c hlen .n))) (.head _) (by repeat (first | exact ar.nil | refine ar.cons rfl ?_)) (.drop .refl) ?p0 (fun i c tk t own hi hP=>?_) fun c t hP=>?_
 case p0 =>
  refine ⟨rfl,fun i v hv=>?_⟩
  match i with
  | 0=>cases hv;exact ⟨_,rfl,_,_,_,0,0,0,_,_,_,[(Str.ofString "p",_)],rfl,(List.Mem.tail _ (List.Mem.tail _ (List.Mem.tail _ (List.Mem.tail _ (List.Mem.tail _ (List.Mem.tail _ (List.Mem.head _))))))),(List.Mem.tail _ (List.Mem.tail _ (List.Mem.tail _ (List.Mem.tail _ (List.Mem.tail _ (List.Mem.tail _ (List.Mem.tail _ (List.Mem.tail _ (List.Mem.head _))))))))),rfl,(List.Mem.tail _ (List.Mem.tail _ (List.Mem.tail _ (List.Mem.tail _ (List.Mem.tail _ (List.Mem.tail _ (List.Mem.tail _ (List.Mem.head _))))))))⟩
  | 1=>cases hv;exact ⟨_,rfl,_,_,_,0,0,0,_,_,_,[(Str.ofString "p",_),(Str.ofString "q",_)],rfl,(List.Mem.tail _ (List.Mem.tail _ (List.Mem.tail _ (List.Mem.head _)))),(List.Mem.tail _ (List.Mem.tail _ (List.Mem.tail _ (List.Mem.tail _ (List.Mem.tail _ (List.Mem.head _)))))),rfl,(List.Mem.tail _ (List.Mem.tail _ (List.Mem.tail _ (List.Mem.tail _ (List.Mem.head _)))))⟩
  | 2=>cases hv;exact ⟨_,rfl,_,_,_,0,0,0,_,_,_,[(Str.ofString "r",_)],rfl,(List.Mem.head _),(List.Mem.tail _ (List.Mem.tail _ (List.Mem.head _))),rfl,(List.Mem.tail _ (List.Mem.head _))⟩
  | i + 3=>simp at hv
 ·obtain ⟨⟨x,tx⟩,hx⟩:∃ p,nums[i]? = some p:=⟨_,List.getElem?_eq_getElem (show i < nums.length by exact aA fun h9=>lN [_,_,_] [(1,.l V0 V1),(1,.t V1 V2),(1,.e (.a V2 K0) V0)] (.c h9 (.c hi (.c (Nat.sub_add_cancel (ae fun h9=>lN [_,0,0] [(1,.t V0 K0)] (.c h9 .n))) .n))))⟩
  have hx9:(nums.map Prod.fst)[i]? = some x:=by rw [List.getElem?_map,hx];rfl
  have hvl:c.vs.length ≤ 100000:=by
   have h1:=hP.1
   rw [f8,List.length_take] at h1
   omega
  refine eG fun K1 hK1=>?_
  refine bf (v:=.int x tx) (List.Mem.tail _ (aj (ac (.tail _ hD)))) (by exact ch fun h9=>lI [_] [(1,.t (.a K0 V0) K0),(1,.l K0 V0)] (.c h9 (.c (zn _) .n))) (by exact pu fun h9=>lI [_,_,_] [(1,.l (.k 9223372036854775808) (.a K0 V0)),(1,.l V1 (.k 9)),(1,.t V0 V2),(1,.e (.a V2 K0) V1)] (.c h9 (.c (zl hlen) (.c (zt hi) (.c (ze (Nat.sub_add_cancel (ae fun h9=>lI [_,0,0] [(1,.t V0 K0),(1,.l K0 V0)] (.c (zt h9) (.c (zn _) .n))))) .n))))) (by rw [show (((0:Nat):Int) + (i:Int)).toNat = i by exact aN (fun h9=>lI [_,_] [(1,.t V0 V1),(1,.e V1 (.a K0 V0))] (.c (zt h9) (.c (Int.toNat_of_nonneg (ch fun h9=>lI [_] [(1,.t (.a K0 V0) K0),(1,.l K0 V0)] (.c h9 (.c (zn _) .n)))) .n))) (fun h9=>lI [_,_] [(1,.t V0 V1),(-1,.e V0 (.a K0 V1))] (.c (zt h9) (.c (Int.toNat_of_nonneg (ch fun h9=>lI [_] [(1,.t (.a K0 V0) K0),(1,.l K0 V0)] (.c h9 (.c (zn _) .n)))) .n)))];simp [hx]) ?_
  refine f5 (by decide) (by decide) ?_
  refine dx (by decide) ?_
  refine u7 (aw 12) (fun v=>∃ t,v = .int (if x.fmod 3 = 0 then (x.fdiv 6144).fmod 512 else (x.fdiv 3).fmod 512) t) (dx (by decide) ⟨fun h=>?_,fun h=>?_⟩) fun v t1 hv=>?_
  ·exact f5 (by decide) (by decide) (dx (by decide) ⟨rfl,rfl,_,by rw [if_pos h]⟩)
  ·exact f5 (by decide) (by decide) (dx (by decide) ⟨rfl,rfl,_,by rw [if_neg h]⟩)
  obtain ⟨tb,rfl⟩:=hv
  refine u7 (aw 12) (fun v=>∃ t,v = et (dm i x).m0 t) (dx (by decide) ⟨fun h=>?_,fun h=>?_⟩) fun v t1 hv=>?_
  ·exact ⟨rfl,rfl,_,by unfold dm;dsimp only;rw [if_pos h];rfl⟩
  ·exact ⟨rfl,rfl,0,by unfold dm;dsimp only;rw [if_neg h];rfl⟩
  obtain ⟨u0,rfl⟩:=hv
  refine u7 (aw 12) (fun v=>∃ t,v = et (dm i x).m1 t) (dx (by decide) (Dv (fun h=>?_) fun h=>?_)) fun v t1 hv=>?_
  ·exact ⟨rfl,rfl,_,by unfold dm;dsimp only;rw [if_pos h];rfl⟩
  ·exact ⟨rfl,rfl,0,by unfold dm;dsimp only;rw [if_neg (fun e=>e h)];rfl⟩
  obtain ⟨u1,rfl⟩:=hv
  refine aC fun ML=>?_
  refine ec c1 (List.Mem.tail _ (.tail _ (aj (ac (.head _))))) dC ?_
  refine aB PySem.F.slot_list_append PySem.F.type_list_append (.tail _ (.head _)) ?_
  refine aC fun A0=>aC fun A1=>aC fun A2=>aC fun A3=>aC fun AL=>?_
  refine f5 (by decide) (by decide) ?_
  refine dx (by decide) ?_
  refine B1 (.head _) (List.Mem.tail _ (List.Mem.tail _ (List.Mem.tail _ (List.Mem.tail _ (List.Mem.head _))))) (List.Mem.tail _ (List.Mem.tail _ (List.Mem.tail _ (List.Mem.head _)))) (List.Mem.tail _ (List.Mem.tail _ (List.Mem.head _))) (List.Mem.tail _ (List.Mem.head _)) (Fw _) (fun fa lx hfa hlx hl2=>?_) (by with_unfolding_all rfl)
  refine wO (n:=9) (by decide +kernel) (by exact ch fun h9=>lI [_] [(1,.t (.a K0 V0) K0),(1,.l K0 V0)] (.c h9 (.c (zn _) .n))) (by exact pu fun h9=>lI [_,_,_] [(1,.l (.k 9) (.a K0 V0)),(1,.l V1 (.k 9)),(1,.t V0 V2),(1,.e (.a V2 K0) V1)] (.c h9 (.c (zl hlen) (.c (zt hi) (.c (ze (Nat.sub_add_cancel (ae fun h9=>lI [_,0,0] [(1,.t V0 K0),(1,.l K0 V0)] (.c (zt h9) (.c (zn _) .n))))) .n))))) (by decide) ?_ rfl (fun _=>rfl)
  refine aC fun S1=>?_
  refine Cp (.tail _ hfa) (.head _) (by rw [List.length_append,aV];simp only [List.length_cons,List.length_nil];omega) fun PL=>?_
  refine aC fun E=>?_
  refine au (.tail (.tail (.tail (.tail (.tail (.tail (.tail (.tail (.tail .head))))))))) hvl ?_
  rw [← aS]
  exact hK1 .next _ _ _ ⟨⟨_,_,(E,_) :: (PL,_) :: (ML,_) :: c.new⟩,(by repeat (first | exact ar.nil | refine ar.cons rfl ?_)),.trans (.front (x:=[_,_,_])) (.cons (.cons (.drop (.drop (.drop (.drop (.drop (.drop (.cons .refl))))))))),by
   rw [uh hx9]
   exact il hP (fun p hp=>.tail _ (.tail _ (.tail _ hp))) ⟨E,PL,ML,0,0,0,_,u0,u1,lx++[(_,_)],rfl,.head _,.tail _ (.head _),by rw [List.map_append,hlx];rfl,.tail _ (.tail _ (.head _))⟩⟩
 ·rw [Nat.sub_zero,List.take_of_length_le (by rw [List.length_map];exact Nat.le_refl _)] at hP
  have hok:∀ e ∈ cb (nums.map Prod.fst),bc e:=fZ (by rw [List.length_map];exact hlen)
  have hel:(cb (nums.map Prod.fst)).length ≤ 12:=by rw [f8,List.length_map];exact ae fun h9=>lN [_] [(1,.t (.k 12) (.a (.k 3) V0)),(1,.l V0 (.k 9))] (.c h9 (.c hlen .n))
  generalize cb (nums.map Prod.fst) = es at hP hok hel ⊢
  have hvl:c.vs.length ≤ 12:=by rw [hP.1];exact hel
  refine zy (cl:=[]) (by with_unfolding_all rfl)
   fun M=>ec c1 (List.Mem.tail _ (ac (.head _))) dC (EB (fun lb:List (PySem.Str × Nat)=>strValues lb) (fun _=>(EL,listOf c.vs.toArray c.n) :: (c.new++((L1,oC) :: led))) (fun i lb=>lb.map (·.1) = (es.take i).map aO) (fun i v=>c.vs[i]? = some v) [] c.vs.length (Nat.le_trans hvl (by decide)) rfl rfl .refl (.inl ⟨EL,c.vs,c.n,rfl,rfl,fun _ _ h=>h,fun _=>.head _⟩) (fun i lb v t C₁ oC₁ m₂ own hi hv hB hC hx=>?_) fun lb hB t DB=>?_)
  ·refine (let G0:Prop:=_;(?_:G0))
   obtain ⟨e,he,ea,ep,em,n1,n2,n3,tl,t0,t1,lp,rfl,q1,q2,q3,q4⟩:=hP.2 i v hv
   obtain ⟨b1,b2,b3⟩:=gJ (hok e (List.mem_of_getElem? he)) q3
   refine @iy _ _ _ _ _ _ _ _ _ _ _ ?_
   refine cK (.head _) hC hx ?_
   refine bf (List.Mem.tail _ (aj (.tail _ (aj q1)))) (by decide) (by decide) rfl ?_
   refine fw (List.Mem.tail _ (aj (.tail _ (aj q2)))) (by decide) b1 b2 fun t1 t2 z=>?_
   refine bT (by decide) (by exact ae fun h9=>lN [_] [(1,.t (.k 8000000) V0),(1,.l V0 (.k 2000000))] (.c h9 (.c z .n))) fun t3 t4=>?_
   exact ⟨lb++[(_,_)],aS,.refl,nF hB he q3⟩
  rw [hP.1,List.take_length] at hB
  have hlb:lb.length ≤ 12:=by rw [← List.length_map (f:=(·.1)),hB,List.length_map];exact hel
  refine wc (.head _) (Nat.lt_of_le_of_lt hlb (by decide)) fun B ly ne hp=>?_
  rw [hB] at hp
  have hlyl:ly.length = lb.length:=by rw [← List.length_map (f:=(·.1)),hp.length_eq,← hB,List.length_map]
  refine Dw (P:=B) (EL:=EL) (k1:=ne) (k2:=c.n) (vs1:=strValues ly) (vs2:=c.vs) (cl:=[(Str.ofString "entries",L1)]) (S:=fun i k ys=>ba c.new ys (fM es (ly.map (·.1)) i k)) (L0:=(B,listOf (strValues ly).toArray ne) :: (DB,listOf (strValues lb).toArray (strValues lb).length) :: (EL,listOf c.vs.toArray c.n) :: (c.new++((L1,oC) :: led)))
   (by show closureFor _ (envX C.cn _ C.L C.a C.ccd C.cl) = _;rw [hcl];with_unfolding_all rfl) fun M=>Db rfl ⟨rfl,rfl,.head _,.tail _ (.tail _ (.head _)),by rw [aV];exact ae fun h9=>lN [_,_] [(1,.t (.k 100) V0),(1,.l V1 (.k 12)),(1,.e V0 V1)] (.c h9 (.c hlb (.c hlyl .n))),by exact ae fun h9=>lN [_] [(1,.t (.k 100) V0),(1,.l V0 (.k 12))] (.c h9 (.c hvl .n)),⟨rfl,fun i v hv=>by simp at hv⟩,?_⟩
  refine ⟨fun C₁ oC₁ t own=>?_,fun i j C₁ zs v1 v2 oC₁ m₂ t own hv1 hv2 hS hC hx1 hx2=>?_,fun i zs hS=>?_,fun D₁ zs t hS=>?_⟩
  ·exact eU (c:=L1) rfl (List.Mem.tail _ (.tail _ (.tail _ (.tail _ (aj (ac (.head _))))))) dC ⟨rfl,rfl⟩
  ·refine (let G0:Prop:=_;(?_:G0))
   obtain ⟨p,tp,rfl,hp1,hp2⟩:=bM hv1
   refine (let G0:Prop:=_;(?_:G0))
   obtain ⟨e,he,ea,ep,em,n1,n2,n3,tl,w0,w1,lp,rfl,q1,q2,q3,q4⟩:=hP.2 j v2 hv2
   obtain ⟨b1,b2,b3⟩:=gJ (hok e (List.mem_of_getElem? he)) q3
   refine @iy _ _ _ _ _ _ _ _ _ _ _ ?_
   refine cK (.head _) hC hx2 ?_
   refine bf (List.Mem.tail _ (.tail _ (.tail _ (.tail _ (aj (aj q1)))))) (by decide) (by decide) rfl ?_
   refine fw (List.Mem.tail _ (.tail _ (.tail _ (.tail _ (aj (aj q2)))))) (by decide) b1 b2 fun t1 t2 z=>?_
   refine bT (by decide) (by exact ae fun h9=>lN [_] [(1,.t (.k 8000000) V0),(1,.l V0 (.k 2000000))] (.c h9 (.c z .n))) fun t3 t4=>?_
   refine cK (.head _) hC hx1 ⟨fun h=>?_,fun h=>?_⟩
   ·refine cK (.head _) hC hx2 ⟨.refl,?_⟩
    rw [vZ he hp1 (by unfold aO bJ;rw [← q3];exact h)]
    exact il hS (fun _ h=>h) ⟨ea,ep,em,n1,n2,n3,tl,w0,w1,lp,rfl,q1,q2,q3,q4⟩
   ·exact ⟨.refl,by rw [zC he hp1 (by unfold aO bJ;rw [← q3];exact h)];exact hS⟩
  ·rw [hP.1] at hS
   exact uo ▸ hS
  ·rw [aV,← List.length_map (f:=(·.1)),xg] at hS
   exact ⟨(D₁,lst zs) :: c.new,.cons (.drop (.drop (.drop (.appL (.drop .refl))))),D₁,zs.length,zs,c.new,_,rfl,rfl,hp,hS⟩
end
section
structure SQ where
 qv:List Value
 nq:Nat
 q:List Rg
 mv:List Value
 nm:Nat
 bl:List Bk
 objs:List (Addr × Obj)
structure xH where
 i:Nat
 j:Nat
 k:Nat
 out:List Bk
noncomputable def bK (st:xH) (b:Bk):xH:=if st.i + st.k = b.i ∧ st.j + st.k = b.j then ⟨st.i,st.j,st.k + b.k,st.out⟩ else ⟨b.i,b.j,b.k,if st.k ≠ 0 then st.out++[⟨st.i,st.j,st.k⟩] else st.out⟩
noncomputable def xx (srt:List Bk) (n:Nat):xH:=(srt.take n).foldl bK ⟨0,0,0,[]⟩
noncomputable def eE (st:xH):List Bk:=if st.k ≠ 0 then st.out++[⟨st.i,st.j,st.k⟩] else st.out
noncomputable def cN (la lb:List (PySem.Str × Nat)) (srt:List Bk):List Bk:=eE (xx srt srt.length)++[⟨la.length,lb.length,0⟩]
theorem eL {srt:List Bk} {n:Nat} {b:Bk} (h:srt[n]? = some b):xx srt (n + 1) = bK (xx srt n) b:=by
 unfold xx
 rw [List.take_add_one,h,List.foldl_append];rfl
theorem Gk {st:xH} {b:Bk} (h1:(st.i:Int) + st.k = b.i) (h2:(st.j:Int) + st.k = b.j):bK st b = ⟨st.i,st.j,st.k + b.k,st.out⟩:=if_pos ⟨by exact aN (fun h9=>lI [_,_,_] [(1,.e (.a V1 V2) V0),(1,.t V0 (.a V1 V2))] (.c h1 (.c (zt h9) .n))) (fun h9=>lI [_,_,_] [(-1,.e (.a V0 V1) V2),(1,.t (.a V0 V1) V2)] (.c h1 (.c (zt h9) .n))),by exact aN (fun h9=>lI [_,_,_] [(1,.e (.a V1 V2) V0),(1,.t V0 (.a V1 V2))] (.c h2 (.c (zt h9) .n))) (fun h9=>lI [_,_,_] [(-1,.e (.a V0 V1) V2),(1,.t (.a V0 V1) V2)] (.c h2 (.c (zt h9) .n)))⟩
theorem Gi {st:xH} {b:Bk} (h:¬ ((st.i:Int) + st.k = b.i ∧ (st.j:Int) + st.k = b.j)) (hk:(st.k:Int) ≠ 0):bK st b = ⟨b.i,b.j,b.k,st.out++[⟨st.i,st.j,st.k⟩]⟩:=by
 unfold bK
 rw [if_neg fun x=>h ⟨by exact CH (fun h9=>lI [_,_,_,0,0] [(1,.t V0 (.a V1 V2)),(1,.e (.a V1 V2) V0)] (.c h9 (.c (ze x.1) .n))) (fun h9=>lI [_,_,_,0,0] [(1,.t (.a V0 V1) V2),(-1,.e (.a V0 V1) V2)] (.c h9 (.c (ze x.1) .n))),by exact CH (fun h9=>lI [_,_,_,0,0] [(1,.t V0 (.a V1 V2)),(1,.e (.a V1 V2) V0)] (.c h9 (.c (ze x.2) .n))) (fun h9=>lI [_,_,_,0,0] [(1,.t (.a V0 V1) V2),(-1,.e (.a V0 V1) V2)] (.c h9 (.c (ze x.2) .n)))⟩,if_pos (show st.k ≠ 0 by omega)]
theorem Gb {st:xH} {b:Bk} (h:¬ ((st.i:Int) + st.k = b.i ∧ (st.j:Int) + st.k = b.j)) (hk:(st.k:Int) = 0):bK st b = ⟨b.i,b.j,b.k,st.out⟩:=by
 unfold bK
 rw [if_neg fun x=>h ⟨by exact CH (fun h9=>lI [_,_,_,0,0] [(1,.t V0 (.a V1 V2)),(1,.e (.a V1 V2) V0)] (.c h9 (.c (ze x.1) .n))) (fun h9=>lI [_,_,_,0,0] [(1,.t (.a V0 V1) V2),(-1,.e (.a V0 V1) V2)] (.c h9 (.c (ze x.1) .n))),by exact CH (fun h9=>lI [_,_,_,0,0] [(1,.t V0 (.a V1 V2)),(1,.e (.a V1 V2) V0)] (.c h9 (.c (ze x.2) .n))) (fun h9=>lI [_,_,_,0,0] [(1,.t (.a V0 V1) V2),(-1,.e (.a V0 V1) V2)] (.c h9 (.c (ze x.2) .n)))⟩,if_neg (show ¬ st.k ≠ 0 by exact (fun h=>h (aN (fun h9=>lI [_] [(1,.t K0 V0),(1,.e V0 K0)] (.c (zt h9) (.c hk .n))) (fun h9=>lI [_] [(1,.t V0 K0),(1,.l K0 V0)] (.c (zt h9) (.c (zn _) .n))))))]
theorem wn {vs:List Value} {v:Value} {i:Nat} (h:vs.length ≤ i):(vs++[v]).length ≤ i + 1:=by rw [List.length_append];exact Nat.succ_le_succ h
structure Ck where
 st:xH
 vs:List Value
 k:Nat
 tups:List (Addr × Obj)
 t1:Nat
 t2:Nat
 t3:Nat
structure Fp where
 S:Addr
 c:Nat
 acc:List Value
 mats:List (Addr × Obj)
theorem zP (w:World) {led:Led} (a b na nb:Addr) (la lb:List (PySem.Str × Nat)) (vm vo:Value) (y:so) (ha:(a,listOf (strValues la).toArray na) ∈ led) (hb:(b,listOf (strValues lb).toArray nb) ∈ led)
  (hsub:∀ p ∈ d0 w a b vm vo y,p ∈ led) (hy:w4 w lb led y) (r:Rg) (t1 t2 t3 t4:Nat)
  (hl1:la.length ≤ 100) (hl2:lb.length ≤ 100) (hr:r.alo ≤ r.ahi ∧ r.ahi ≤ la.length ∧ r.bhi ≤ lb.length ∧ gE la lb r.alo r.ahi r.blo r.bhi (bp la lb r)) :
  Sq w 196 10 [.ref y.x,.int (r.alo:Int) t1,.int (r.ahi:Int) t2,.int (r.blo:Int) t3,.int (r.bhi:Int) t4] led led (kH (fun p:(Addr × Addr) × (Nat × Nat × Nat)=>.ref p.1.1) (fun p=>gY p.1 ((bp la lb r).bi:Int) ((bp la lb r).bj:Int) ((bp la lb r).bs:Int) p.2.1 p.2.2.1 p.2.2.2) (fun _=>True)):=by
 obtain ⟨M,rfl,rfl,h3,h4⟩:=EY w led a b na nb la lb vm vo y ha hb hsub hy.od
 refine Be w led y.x M ?_ ?_ r.alo r.ahi r.blo r.bhi t1 t2 t3 t4 hl1 hl2 hr.1 hr.2.1 hr.2.2.1 hr.2.2.2
 ·rw [h3]
  exact hy.bj.mono fun p hp=>hsub p (al (al (al (al (al hp)))))
 ·rw [h4];exact hy.lo
theorem zI {st:xH} (hk:(st.k:Int) ≠ 0):eE st = st.out++[⟨st.i,st.j,st.k⟩]:=if_pos (show st.k ≠ 0 by omega)
theorem zq {st:xH} (hk:(st.k:Int) = 0):eE st = st.out:=if_neg (show ¬ st.k ≠ 0 by exact (fun h=>h (aN (fun h9=>lI [_] [(1,.t K0 V0),(1,.e V0 K0)] (.c (zt h9) (.c hk .n))) (fun h9=>lI [_] [(1,.t V0 K0),(1,.l K0 V0)] (.c (zt h9) (.c (zn _) .n))))))
theorem xh {r:Rg} {R:eF}:(cj r R).length ≤ 1:=by
 unfold cj
 split
 ·exact Nat.le_refl _
 ·exact Nat.zero_le _
noncomputable abbrev Cb:Obj:={ cls:=.type "dict",data:=.dict #[] }
theorem CR {w:World} {cs:Sc} {lv:Nat} {C:Cx w cs lv} {t:Nat} {m:Map} {led:Led} {k:KV} (a b na nb:Addr) (la lb:List (PySem.Str × Nat)) (vm vo:Value) (y:so) (ha:(a,listOf (strValues la).toArray na) ∈ led) (hb:(b,listOf (strValues lb).toArray nb) ∈ led)
  (hsub:∀ p ∈ d0 w a b vm vo y,p ∈ led) (hy:w4 w lb led y) (r:Rg) {t1 t2 t3 t4:Nat}
  (hl1:la.length ≤ 100) (hl2:lb.length ≤ 100) (hr:r.alo ≤ r.ahi ∧ r.ahi ≤ la.length ∧ r.bhi ≤ lb.length ∧ gE la lb r.alo r.ahi r.blo r.bhi (bp la lb r)) (hlv:10 ≤ lv)
  (h:∀ M d z1 z2 z3 t,k (.ref M) t m ((M,ca ((bp la lb r).bi:Int) ((bp la lb r).bj:Int) ((bp la lb r).bs:Int) z1 z2 z3 d) :: (d,Cb) :: led)) :
  af C (call (.ref 196) [.ref y.x,.int (r.alo:Int) t1,.int (r.ahi:Int) t2,.int (r.blo:Int) t3,.int (r.bhi:Int) t4]) t m led k :=
 Sq.useE (zP w a b na nb la lb vm vo y ha hb hsub hy r t1 t2 t3 t4 hl1 hl2 hr) hlv fun ⟨⟨M,d⟩,z1,z2,z3⟩ t _=>h M d z1 z2 z3 t
theorem uw (w:World) (rest:Led) (a b na nb:Addr) (la lb:List (PySem.Str × Nat)) (vo:Value) (y:so) (ha:(a,listOf (strValues la).toArray na) ∈ rest) (hb:(b,listOf (strValues lb).toArray nb) ∈ rest)
  (hy:∀ l,w4 w lb l y) (hl1:la.length ≤ 100) (hl2:lb.length ≤ 100) (Inv:List Rg → List Bk → Prop) (mu:List Rg → Nat) (srt:List Bk) (HI:gR la lb Inv mu srt) :
  Sq w 203 30 [.ref y.x] (d0 w a b .none vo y++rest) rest (kH (fun z:Fp=>.ref z.S) (fun z=>(z.S,listOf z.acc.toArray z.c) :: (z.mats++d0 w a b (.ref z.S) vo y)) (fun z=>bL ef z.mats z.acc (cN la lb srt))):=by
 refine (fun h:(rW = rW ∧ K = K) → _=>h ⟨rfl,rfl⟩) ?_
 k_fill
 intro _
 refine br [(Str.ofString "self",Value.ref y.x)] 30 (by k_is) (by k_is) (fun _ _=>BindsTo.of_eq rfl) (by rfl) (by rfl) (by kernel_rfl!) ?_
 intro C t0
 have hxr:(y.x,instObj 242 y.d) ∈ d0 w a b .none vo y++rest:=(List.Mem.tail _ (List.Mem.tail _ (List.Mem.tail _ (List.Mem.head _))))
 have hdr:(y.d,dictOf (ml w a b y.bd y.jk y.pp .none vo y.T) y.n) ∈ d0 w a b .none vo y++rest:=(List.Mem.tail _ (List.Mem.tail _ (List.Mem.tail _ (List.Mem.tail _ (List.Mem.head _)))))
 have har:(a,listOf (strValues la).toArray na) ∈ d0 w a b .none vo y++rest:=ac ha
 have hbr:(b,listOf (strValues lb).toArray nb) ∈ d0 w a b .none vo y++rest:=ac hb
 have hsr:∀ p ∈ d0 w a b .none vo y,p ∈ d0 w a b .none vo y++rest:=fun p hp=>aj hp
 refine bb (n:=3) ?_
 refine cG hxr hdr (by rfl) (v:=.none) (by rfl) (by rfl) ?_
 refine cG hxr hdr (by rfl) (v:=.ref a) (by rfl) (by rfl) ?_
 refine cV har (by exact ae fun h9=>lN [_] [(1,.t (.k 100000) V0),(1,.l V0 (.k 100))] (.c h9 (.c hl1 .n))) ?_
 refine cG hxr hdr (by rfl) (v:=.ref b) (by rfl) (by rfl) ?_
 refine cV hbr (by exact ae fun h9=>lN [_] [(1,.t (.k 100000) V0),(1,.l V0 (.k 100))] (.c h9 (.c hl2 .n))) ?_
 refine bg fun T0=>?_
 refine aC fun QL=>?_
 refine aC fun MB=>?_
 refine' zp (σ:=SQ) (fun c=>c.objs++((MB,listOf c.mv.toArray c.nm) :: (QL,listOf c.qv.toArray c.nq) :: (d0 w a b .none vo y++rest)))
  (fun _=>[(Str.ofString "self",.ref y.x),(Str.ofString "la",.int (la.length:Nat) t0.succ.succ.succ.succ),(Str.ofString "lb",.int (lb.length:Nat) t0.succ.succ.succ.succ.succ.succ.succ),(Str.ofString "queue",.ref QL),(Str.ofString "matching_blocks",.ref MB)])
  (fun c=>bL yn c.objs c.qv c.q ∧ bL ef c.objs c.mv c.bl ∧ Inv c.q c.bl) (fun c=>bL ef c.objs c.mv c.bl ∧ Inv [] c.bl) (fun c=>mu c.q)
  ⟨[.ref T0],0,[⟨0,la.length,0,lb.length⟩],[],0,[],[(T0,_)]⟩ 30 ?hm (.swap (.cons (.swap .refl))) ⟨bL.snoc (vs:=[]) (xs:=[]) C4 bL.nil (fun p hp=>hp) ⟨T0,_,_,_,_,rfl,.head _⟩,bL.nil,HI.init⟩ ?turn ?done
 case hm=>exact (by repeat (first | exact ar.nil | refine ar.cons rfl ?_))
 case turn =>
  intro c t ⟨hP,hP2,hP3⟩
  have hln:=HI.len hP3
  have hl9:=hP.1
  have hl8:=hP2.1
  refine Ae (ac (List.Mem.tail _ (List.Mem.head _))) (by exact ae fun h9=>lN [_,_,0] [(1,.t (.k 100000) V0),(1,.l V1 (.k 50)),(1,.e V0 V1)] (.c h9 (.c hln.1 (.c hl9 .n)))) (fun he t=>?_) fun he t=>⟨rfl,rfl,hP2,?_⟩
  ·refine (let G0:Prop:=_;(?_:G0))
   obtain ⟨qv',v,q',r,e1,e2,hq',hrv⟩:=hP.last he
   obtain ⟨T,u1,u2,u3,u4,rfl,hT⟩:=hrv
   rw [e2] at hP3
   have hok:=HI.ok hP3
   refine aB PySem.F.slot_list_pop PySem.F.type_list_pop (ac (List.Mem.tail _ (List.Mem.head _))) ?_
   refine z8 e1 (.app (.tail .head)) (by rw [e1,List.length_append,List.length_singleton] at hl9;exact ae fun h9=>lN [_,_,0] [(1,.t (.k 100000) V0),(1,.l V1 (.k 50)),(1,.e (.a V0 K1) V1)] (.c h9 (.c hln.1 (.c hl9 .n)))) ?_
   refine fe (aj hT) rfl rfl ?_
   refine fo (yf _) (ac (.tail _ (.tail _ hxr))) (ac (.tail _ (.tail _ hdr))) (by rfl) ?_
   refine cR (aw 12) rfl (by k_is) ?_
   refine CR a b na nb la lb .none vo y (ac (.tail _ (.tail _ har))) (ac (.tail _ (.tail _ hbr))) (fun p hp=>ac (.tail _ (.tail _ (hsr p hp)))) (hy _) r hl1 hl2 hok (by decide) fun M d z1 z2 z3 t=>?_
   refine fq (.head _) rfl rfl ?_
   refine bb (n:=20) ⟨fun hk=>?_,fun hk=>?_⟩
   ·have hs:=HI.som hP3 (C5 hk)
    refine aB PySem.F.slot_list_append PySem.F.type_list_append (.tail _ (.tail _ (ac (.head _)))) ?_
    refine au (.tail (.tail (.app .head))) (by exact ae fun h9=>lN [_,0,_] [(1,.t (.k 100000) V0),(1,.l V2 (.k 50)),(1,.e V0 V2)] (.c h9 (.c hln.2 (.c hl8 .n)))) ?_
    have hb2:=hP2.snoc (v:=.ref M) (x:=⟨(bp la lb r).bi,(bp la lb r).bj,(bp la lb r).bs⟩) BZ (led':=(M,ca ((bp la lb r).bi:Int) ((bp la lb r).bj:Int) ((bp la lb r).bs:Int) z1 z2 z3 d) :: (d,Cb) :: c.objs) (fun p hp=>.tail _ (.tail _ hp)) ⟨M,d,z1,z2,z3,rfl,.head _⟩
    have hq2:=hq'.mono C4 (led':=(M,ca ((bp la lb r).bi:Int) ((bp la lb r).bj:Int) ((bp la lb r).bs:Int) z1 z2 z3 d) :: (d,Cb) :: c.objs) (fun p hp=>.tail _ (.tail _ hp))
    refine mG (σ:=SQ) (fun c2=>c2.objs++((MB,listOf (c.mv++[Value.ref M]).toArray (c.nm + 1)) :: (QL,listOf c2.qv.toArray c2.nq) :: (d0 w a b .none vo y++rest)))
     (fun _=>[(Str.ofString "self",.ref y.x),(Str.ofString "la",.int (la.length:Nat) t0.succ.succ.succ.succ),(Str.ofString "lb",.int (lb.length:Nat) t0.succ.succ.succ.succ.succ.succ.succ),(Str.ofString "queue",.ref QL),(Str.ofString "matching_blocks",.ref MB),(Str.ofString "ahi",.int (r.ahi:Int) u2),(Str.ofString "bhi",.int (r.bhi:Int) u4),(Str.ofString "i",.int ((bp la lb r).bi:Int) z1),(Str.ofString "j",.int ((bp la lb r).bj:Int) z2),(Str.ofString "k",.int ((bp la lb r).bs:Int) z3)])
     (fun c2=>bL yn c2.objs c2.qv (q'++cj r (bp la lb r)) ∧ bL ef c2.objs (c.mv++[Value.ref M]) (c.bl++[⟨(bp la lb r).bi,(bp la lb r).bj,(bp la lb r).bs⟩])) 20 ⟨fun h1=>⟨fun h2=>?_,fun h2=>⟨SQ.mk qv' _ [] [] 0 [] (_ :: _ :: c.objs),(by repeat (first | exact ar.nil | refine ar.cons rfl ?_)),.refl,?_,hb2⟩⟩,fun h1=>⟨SQ.mk qv' _ [] [] 0 [] (_ :: _ :: c.objs),(by repeat (first | exact ar.nil | refine ar.cons rfl ?_)),.refl,?_,hb2⟩⟩ ?_
    ·refine aB PySem.F.slot_list_append PySem.F.type_list_append (.tail _ (.tail _ (ac (List.Mem.tail _ (List.Mem.head _))))) ?_
     refine bg fun T1=>?_
     refine au (.tail (.tail (.tail (.app (.tail .head))))) (by rw [e1,List.length_append,List.length_singleton] at hl9;exact ae fun h9=>lN [_,_,0] [(1,.t (.k 100000) V0),(1,.l V1 (.k 50)),(1,.e (.a V0 K1) V1)] (.c h9 (.c hln.1 (.c hl9 .n)))) ?_
     exact ⟨SQ.mk (qv'++[Value.ref T1]) _ [] [] 0 [] ((T1,_) :: _ :: _ :: c.objs),(by repeat (first | exact ar.nil | refine ar.cons rfl ?_)),.refl,by rw [AJ h1 h2];exact hq2.snoc C4 (fun p hp=>.tail _ hp) ⟨T1,_,_,_,_,rfl,.head _⟩,hb2.mono BZ fun p hp=>.tail _ hp⟩
    ·rw [yU h2,List.append_nil];exact hq2
    ·rw [zv h1,List.append_nil];exact hq2
    ·intro c2 t ⟨hQ,hB⟩
     refine bb (n:=20) ⟨fun h1=>⟨fun h2=>?_,fun h2=>?_⟩,fun h1=>?_⟩
     ·refine aB PySem.F.slot_list_append PySem.F.type_list_append (ac (List.Mem.tail _ (List.Mem.head _))) ?_
      refine bg fun T2=>?_
      refine au (.tail (.app (.tail .head))) (by have:=hQ.1;have h3:(cj r (bp la lb r)).length ≤ 1:=xh;rw [List.length_append] at this;rw [e2,List.length_append] at hln;exact ae fun h9=>lN [_,_,_,0,_] [(1,.t (.k 100000) V0),(1,.l (.a V1 V2) (.k 50)),(1,.e V0 (.a V1 V4)),(1,.l V4 K1)] (.c h9 (.c hln.1 (.c this (.c h3 .n))))) ?_
      exact ⟨SQ.mk (c2.qv++[Value.ref T2]) _ (q'++cj r (bp la lb r)++dE r (bp la lb r)) (c.mv++[Value.ref M]) _ (c.bl++[_]) ((T2,_) :: c2.objs),(by repeat (first | exact ar.nil | refine ar.cons rfl ?_)),.refl,⟨by rw [B4 h1 h2];exact hQ.snoc C4 (fun p hp=>.tail _ hp) ⟨T2,_,_,_,_,rfl,.head _⟩,hB.mono BZ fun p hp=>.tail _ hp,hs.1⟩,Nat.lt_of_lt_of_eq hs.2 (congrArg mu e2.symm)⟩
     ·exact ⟨SQ.mk c2.qv _ (q'++cj r (bp la lb r)++dE r (bp la lb r)) (c.mv++[Value.ref M]) _ (c.bl++[_]) c2.objs,(by repeat (first | exact ar.nil | refine ar.cons rfl ?_)),.refl,⟨by rw [xR h2,List.append_nil];exact hQ,hB,hs.1⟩,Nat.lt_of_lt_of_eq hs.2 (congrArg mu e2.symm)⟩
     ·exact ⟨SQ.mk c2.qv _ (q'++cj r (bp la lb r)++dE r (bp la lb r)) (c.mv++[Value.ref M]) _ (c.bl++[_]) c2.objs,(by repeat (first | exact ar.nil | refine ar.cons rfl ?_)),.refl,⟨by rw [yO h1,List.append_nil];exact hQ,hB,hs.1⟩,Nat.lt_of_lt_of_eq hs.2 (congrArg mu e2.symm)⟩
   ·have hs:=HI.non hP3 (Dn hk)
    exact ⟨SQ.mk qv' _ q' c.mv _ c.bl ((M,_) :: (d,_) :: c.objs),(by repeat (first | exact ar.nil | refine ar.cons rfl ?_)),.refl,⟨hq'.mono C4 fun p hp=>.tail _ (.tail _ hp),hP2.mono BZ fun p hp=>.tail _ (.tail _ hp),hs.1⟩,Nat.lt_of_lt_of_eq hs.2 (congrArg mu e2.symm)⟩
  ·have e:c.q = []:=List.length_eq_zero_iff.mp (by rw [← hl9,List.isEmpty_iff.mp he];rfl)
   rw [← e];exact hP3
 case done =>
  intro c t ⟨hB,hI⟩
  have hfin:=HI.fin hI
  refine aB PySem.F.slot_list_sort PySem.F.type_list_sort (ac (List.Mem.head _)) ?_
  refine AM hB hfin HI.inc (by rw [← hfin.length_eq];exact HI.six) (by decide) fun nm mv hM=>?_
  have hsm:aq (d0 w a b .none vo y++rest) (c.objs++(MB,listOf mv.toArray nm) :: (QL,listOf c.qv.toArray c.nq) :: (d0 w a b .none vo y++rest)):=.dropA (.drop (.drop .refl))
  have hMB:(MB,listOf mv.toArray nm) ∈ c.objs++(MB,listOf mv.toArray nm) :: (QL,listOf c.qv.toArray c.nq) :: (d0 w a b .none vo y++rest):=ac (List.Mem.head _)
  have hM2:=hM.mono BZ (led':=c.objs++(MB,listOf mv.toArray nm) :: (QL,listOf c.qv.toArray c.nq) :: (d0 w a b .none vo y++rest)) fun p hp=>aj hp
  clear hM hB
  generalize c.objs++(MB,listOf mv.toArray nm) :: (QL,listOf c.qv.toArray c.nq) :: (d0 w a b .none vo y++rest) = l0 at hsm hMB hM2
  refine aC fun NA=>?_
  refine jz (fun _=>rfl) ?_
  refine f4 (σ:=Ck) (fun c=>c.tups++((NA,listOf c.vs.toArray c.k) :: l0))
   (fun c=>[(Str.ofString "self",.ref y.x),(Str.ofString "la",.int (la.length:Nat) t0.succ.succ.succ.succ),(Str.ofString "lb",.int (lb.length:Nat) t0.succ.succ.succ.succ.succ.succ.succ),(Str.ofString "non_adjacent",.ref NA),(Str.ofString "i1",.int (c.st.i:Int) c.t1),(Str.ofString "j1",.int (c.st.j:Int) c.t2),(Str.ofString "k1",.int (c.st.k:Int) c.t3)])
   (fun i c=>c.st = xx srt i ∧ bL tF c.tups c.vs c.st.out ∧ c.vs.length ≤ i) ⟨⟨0,0,0,[]⟩,[],0,[],t,t,t⟩ 20 (by repeat (first | exact ar.nil | refine ar.cons rfl ?_)) .refl (fun c=>ac (.tail _ hMB)) ⟨rfl,bL.nil,Nat.zero_le _⟩ (fun i c v t own hv ⟨hP,hP2,hP3⟩=>?_) fun c t ⟨hP,hP2,hP3⟩=>?_
  ·refine (let G0:Prop:=_;(?_:G0))
   obtain ⟨bk,hbk,T,d,u1,u2,u3,rfl,hT⟩:=hM2.2 i v hv
   refine fq (aj (ac (.tail _ hT))) rfl rfl ?_
   refine eG fun K1 hK1=>?_
   refine CW (n:=20) (¬ ((c.st.i:Int) + c.st.k = bk.i ∧ (c.st.j:Int) + c.st.k = bk.j)) ⟨fun h1=>⟨fun h2=>?_,fun h2=>⟨rfl,rfl,fun h=>h2 h.2⟩⟩,fun h1=>⟨rfl,rfl,fun h=>h1 h.1⟩⟩ fun t hD=>?_
   ·exact hK1 .next _ _ _ ⟨Ck.mk ⟨c.st.i,c.st.j,c.st.k + bk.k,c.st.out⟩ c.vs c.k c.tups c.t1 c.t2 _,(by repeat (first | exact ar.nil | refine ar.cons rfl ?_)),.refl,by rw [eL hbk,← hP,Gk h1 h2],hP2,Nat.le_succ_of_le hP3⟩
   ·have hmv:=(List.getElem?_eq_some_iff.mp hv).1
    have h6:=HI.six
    have hl7:=hM2.1
    refine bb (n:=20) ⟨fun hk=>?_,fun hk=>?_⟩
    ·refine aB PySem.F.slot_list_append PySem.F.type_list_append (aj (ac (.head _))) ?_
     refine bg fun T2=>?_
     refine au (.tail (.apr (.app .head))) (by exact ae fun h9=>lN [_,_,_,_,0,0] [(1,.t (.k 100000) V0),(1,.t V1 V2),(1,.l V3 (.k 6)),(1,.e V2 V3),(1,.l V0 V1)] (.c h9 (.c hmv (.c h6 (.c hl7 (.c hP3 .n)))))) ?_
     exact hK1 .next _ _ _ ⟨Ck.mk ⟨bk.i,bk.j,bk.k,c.st.out++[⟨c.st.i,c.st.j,c.st.k⟩]⟩ (c.vs++[Value.ref T2]) _ ((T2,_) :: c.tups) u1 u2 u3,(by repeat (first | exact ar.nil | refine ar.cons rfl ?_)),.refl,by rw [eL hbk,← hP,Gi hD hk],hP2.snoc ET (fun p hp=>.tail _ hp) ⟨T2,_,_,_,rfl,.head _⟩,wn hP3⟩
    ·exact hK1 .next _ _ _ ⟨Ck.mk ⟨bk.i,bk.j,bk.k,c.st.out⟩ c.vs c.k c.tups u1 u2 u3,(by repeat (first | exact ar.nil | refine ar.cons rfl ?_)),.refl,by rw [eL hbk,← hP,Gb hD hk],hP2,Nat.le_succ_of_le hP3⟩
  ·have h6:=HI.six
   have hl7:=hM2.1
   have hl5:=hP2.1
   refine mG (σ:=Ck) (fun c2=>c2.tups++((NA,listOf c2.vs.toArray c2.k) :: (d0 w a b .none vo y++rest)))
    (fun _=>[(Str.ofString "self",.ref y.x),(Str.ofString "la",.int (la.length:Nat) t0.succ.succ.succ.succ),(Str.ofString "lb",.int (lb.length:Nat) t0.succ.succ.succ.succ.succ.succ.succ),(Str.ofString "non_adjacent",.ref NA)])
    (fun c2=>bL tF c2.tups c2.vs (eE c.st) ∧ c2.vs.length ≤ 7) 20 ⟨fun hk=>?_,fun hk=>?_⟩ fun c2 t ⟨hA,hB⟩=>?_
   ·refine aB PySem.F.slot_list_append PySem.F.type_list_append (ac (.head _)) ?_
    refine bg fun T2=>?_
    refine au (.tail (.app .head)) (by exact ae fun h9=>lN [_,_,_,0,0,0] [(1,.t (.k 100000) V0),(1,.l V1 (.k 6)),(1,.e V2 V1),(1,.l V0 V2)] (.c h9 (.c h6 (.c hl7 (.c hP3 .n))))) ?_
    exact ⟨Ck.mk ⟨0,0,0,[]⟩ (c.vs++[Value.ref T2]) _ ((T2,_) :: c.tups) 0 0 0,(by repeat (first | exact ar.nil | refine ar.cons rfl ?_)),.appL (c:=(T2,_) :: c.tups) (.cons hsm),by rw [zI hk];exact hP2.snoc ET (fun p hp=>.tail _ hp) ⟨T2,_,_,_,rfl,.head _⟩,by rw [List.length_append,List.length_singleton];exact ae fun h9=>lN [_,_,_,0,0,0] [(1,.t (.k 7) (.a V0 K1)),(1,.l V1 (.k 6)),(1,.e V2 V1),(1,.l V0 V2)] (.c h9 (.c h6 (.c hl7 (.c hP3 .n))))⟩
   ·exact ⟨Ck.mk ⟨0,0,0,[]⟩ c.vs _ c.tups 0 0 0,(by repeat (first | exact ar.nil | refine ar.cons rfl ?_)),.appL (.cons hsm),by rw [zq hk];exact hP2,by show c.vs.length ≤ 7;exact ae fun h9=>lN [_,_,_,0,0,0] [(1,.t (.k 7) V0),(1,.l V1 (.k 6)),(1,.e V2 V1),(1,.l V0 V2)] (.c h9 (.c h6 (.c hl7 (.c hP3 .n))))⟩
   ·refine aB PySem.F.slot_list_append PySem.F.type_list_append (ac (.head _)) ?_
    refine bg fun T3=>?_
    refine au (.tail (.app .head)) (by exact ae fun h9=>lN [_,0,0,0,0,0,0] [(1,.t (.k 100000) V0),(1,.l V0 (.k 7))] (.c h9 (.c hB .n))) ?_
    refine Cs fun q=>?_
    refine DO (.head _) (.tail _ (.tail _ (ac (.head _)))) fun M T I=>?_
    have hP:=by rw [hP,hl7] at hA;exact hA
    refine Bb (out:=cN la lb srt) (.head _) (.tail _ (.tail _ (ac (.head _)))) (objs:=(T3,_) :: c2.tups) (hP.snoc (x:=⟨la.length,lb.length,0⟩) ET (fun p hp=>.tail _ hp) ⟨T3,_,_,_,rfl,.head _⟩) (fun p hp=>.tail _ ((ag hp).elim (fun e=>by rw [e];exact .head _) fun hp=>.tail _ (aj hp))) (by rw [List.length_append,List.length_singleton];exact ae fun h9=>lN [_,0,0,0,0,0,0] [(1,.t (.k 100) (.a V0 K1)),(1,.l V0 (.k 7))] (.c h9 (.c hB .n))) (by decide) fun S n acc mats t hS=>?_
    refine bq (es':=ml w a b y.bd y.jk y.pp (.ref S) vo y.T) (n':=y.n) (.tail _ (ac (.tail _ (.tail _ (ac (.tail _ hxr)))))) (by rfl) (by rfl) (by rfl) (.tail (.app (.tail (.tail (.app (.tail (.tail (.tail (.tail (.tail .head)))))))))) (Nat.le_of_ble_eq_true rfl) ?_
    refine cG (.tail _ (ac (.tail _ (.tail _ (ac (.tail _ (List.Mem.tail _ (List.Mem.tail _ (List.Mem.tail _ (List.Mem.head _)))))))))) (.tail _ (ac (.tail _ (.tail _ (ac (.tail _ (List.Mem.tail _ (List.Mem.tail _ (List.Mem.tail _ (List.Mem.tail _ (List.Mem.head _))))))))))) (by rfl) (v:=.ref S) (by rfl) (by rfl) ?_
    exact ⟨_,.cons (.assoc (.appL (.drop (.drop (.dropA (.drop .refl)))))),⟨Fp.mk S n acc mats,rfl,rfl,hS⟩⟩
end
section
open PyProof.Rows.LCg PyProof.Rows.LCt
structure Op where
 tag:PySem.Str
 i1:Nat
 i2:Nat
 j1:Nat
 j2:Nat
inductive fg (led:List (Addr × Obj)) (v:Value) (o:Op):Prop
 | mk (a t0 t1 t2 t3 t4:Nat):v = .ref a → (a,bo [.str o.tag t0,.int (o.i1:Int) t1,.int (o.i2:Int) t2,.int (o.j1:Int) t3,.int (o.j2:Int) t4]) ∈ led → fg led v o
noncomputable def fF (led:List (Addr × Obj)) (vs:List Value) (os:List Op):Prop:=vs.length = os.length ∧ ∀ (i:Nat) (v:Value),vs[i]? = some v → ∃ o,os[i]? = some o ∧ fg led v o
theorem fg.mono {led led':List (Addr × Obj)} {v:Value} {o:Op} (h:fg led v o) (k:∀ p ∈ led,p ∈ led'):fg led' v o:=by
 obtain ⟨a,t0,t1,t2,t3,t4,h0,h1⟩:=h
 exact ⟨a,t0,t1,t2,t3,t4,h0,k _ h1⟩
theorem fF.snoc {led led':List (Addr × Obj)} {vs:List Value} {os:List Op} {v:Value} {o:Op} (h:fF led vs os) (k:∀ p ∈ led,p ∈ led') (h1:fg led' v o):fF led' (vs++[v]) (os++[o]):=by
 refine ⟨by simp [h.1],fun i u hu=>?_⟩
 by_cases hi:i < vs.length
 ·rw [List.getElem?_append_left hi] at hu
  obtain ⟨o',a,b⟩:=h.2 i u hu
  exact ⟨o',by rw [List.getElem?_append_left (by rw [← h.1];exact hi)];exact a,b.mono k⟩
 ·rw [List.getElem?_append_right (by exact ae fun h9=>lN [_,_] [(1,.t V0 V1),(1,.nt V0 V1)] (.c h9 (.c hi .n)))] at hu
  have e:i - vs.length = 0:=by
   rcases Nat.eq_zero_or_pos (i - vs.length) with e | e
   ·exact e
   ·rw [List.getElem?_eq_none (by simp;exact ae fun h9=>lN [_,0] [(1,.t V0 K1),(1,.t K0 V0)] (.c h9 (.c e .n)))] at hu;cases hu
  rw [e] at hu
  cases hu
  exact ⟨o,by rw [List.getElem?_append_right (by rw [← h.1];exact ae fun h9=>lN [_,_] [(1,.t V0 V1),(1,.nt V0 V1)] (.c h9 (.c hi .n))),← h.1,e];rfl,h1⟩
noncomputable def dk:List PySem.Str → List PySem.Str → Nat
 | x :: a,y :: b=>if x = y then dk a b + 1 else 0
 | _,_=>0
noncomputable def dj (b:List PySem.Str):List PySem.Str → Nat
 | x :: a=>if b.any (· == x) = true then 0 else dj b a + 1
 | []=>0
theorem pv:∀ (a b:List PySem.Str),dk a b ≤ a.length ∧ dk a b ≤ b.length
 | [],b=>by unfold dk;exact ⟨Nat.zero_le _,Nat.zero_le _⟩
 | x :: a,[]=>by unfold dk;exact ⟨Nat.zero_le _,Nat.zero_le _⟩
 | x :: a,y :: b=>by
  have:=pv a b
  unfold dk
  split <;> simp only [List.length_cons] <;> omega
theorem nO:∀ {a b:List PySem.Str} {r:Nat} {x:PySem.Str},r ≤ dk a b → a[r]? = some x → b[r]? = some x → r < dk a b
 | [],_,r,x,_,h,_=>by simp at h
 | _ :: _,[],r,x,_,_,h=>by simp at h
 | x' :: a,y' :: b,0,x,_,h1,h2=>by
  simp at h1 h2
  unfold dk;rw [if_pos (h1.trans h2.symm)];exact aA fun h9=>lN [_] [(1,.l (.a V0 K1) K0)] (.c h9 .n)
 | x' :: a,y' :: b,r + 1,x,h,h1,h2=>by
  unfold dk at h ⊢
  split at h
  ·rename_i e
   rw [if_pos e]
   have:=nO (a:=a) (b:=b) (r:=r) (x:=x) (by exact ae fun h9=>lN [_,_] [(1,.t V0 V1),(1,.l (.a V1 K1) (.a V0 K1))] (.c h9 (.c h .n))) (by simpa using h1) (by simpa using h2)
   exact aA fun h9=>lN [_,_] [(1,.l (.a V0 K1) (.a V1 K1)),(1,.t V1 V0)] (.c h9 (.c this .n))
  ·exact aA fun h9=>lN [_,_] [(1,.l V0 (.a V1 K1)),(2,.l (.a V1 K1) K0)] (.c h9 (.c h .n))
theorem dK:∀ {a b:List PySem.Str} {r:Nat},r ≤ dk a b → (∀ x,a[r]? = some x → b[r]? = some x → False) → dk a b = r
 | [],b,r,h,_=>by unfold dk at h ⊢;exact aN (fun h9=>lN [_] [(1,.t V0 K0)] (.c h9 .n)) (fun h9=>lN [_] [(1,.t K0 V0),(1,.l V0 K0)] (.c h9 (.c h .n)))
 | _ :: _,[],r,h,_=>by unfold dk at h ⊢;exact aN (fun h9=>lN [_] [(1,.t V0 K0)] (.c h9 .n)) (fun h9=>lN [_] [(1,.t K0 V0),(1,.l V0 K0)] (.c h9 (.c h .n)))
 | x' :: a,y' :: b,0,h,k=>by
  unfold dk
  split
  ·rename_i e;exact (k x' (by simp) (by simp [e])).elim
  ·rfl
 | x' :: a,y' :: b,r + 1,h,k=>by
  unfold dk at h ⊢
  split at h
  ·rename_i e
   rw [if_pos e]
   have:=dK (a:=a) (b:=b) (r:=r) (by exact ae fun h9=>lN [_,_] [(1,.t V0 V1),(1,.l (.a V1 K1) (.a V0 K1))] (.c h9 (.c h .n))) (fun x h1 h2=>k x (by simpa using h1) (by simpa using h2))
   exact aN (fun h9=>lN [_,_] [(1,.t (.a V0 K1) (.a V1 K1)),(1,.e V1 V0)] (.c h9 (.c this .n))) (fun h9=>lN [_,_] [(1,.t (.a V0 K1) (.a V1 K1)),(-1,.e V0 V1)] (.c h9 (.c this .n)))
  ·exact (lN [_] [(1,.l (.a V0 K1) K0)] (.c h .n)).elim
theorem gB (b:List PySem.Str):∀ (a:List PySem.Str),dj b a ≤ a.length
 | []=>Nat.le_refl _
 | x :: a=>by have:=gB b a;unfold dj;split <;> simp only [List.length_cons] <;> omega
theorem rk {b:List PySem.Str}:∀ {a:List PySem.Str} {r:Nat} {x:PySem.Str},r ≤ dj b a → a[r]? = some x → b.any (· == x) = false → r < dj b a
 | [],r,x,_,h,_=>by simp at h
 | x' :: a,0,x,_,h1,h2=>by
  simp at h1
  subst h1
  unfold dj;rw [if_neg (by rw [h2];decide)];exact aA fun h9=>lN [_] [(1,.l (.a V0 K1) K0)] (.c h9 .n)
 | x' :: a,r + 1,x,h,h1,h2=>by
  unfold dj at h ⊢
  split at h
  ·exact aA fun h9=>lN [_,_] [(1,.l V0 (.a V1 K1)),(2,.l (.a V1 K1) K0)] (.c h9 (.c h .n))
  ·rename_i e
   rw [if_neg e]
   have:=rk (a:=a) (r:=r) (x:=x) (by exact ae fun h9=>lN [_,_] [(1,.t V0 V1),(1,.l (.a V1 K1) (.a V0 K1))] (.c h9 (.c h .n))) (by simpa using h1) h2
   exact aA fun h9=>lN [_,_] [(1,.l (.a V0 K1) (.a V1 K1)),(1,.t V1 V0)] (.c h9 (.c this .n))
theorem fU {b:List PySem.Str}:∀ {a:List PySem.Str} {r:Nat},r ≤ dj b a → (∀ x,a[r]? = some x → b.any (· == x) = true) → dj b a = r
 | [],r,h,_=>by unfold dj at h ⊢;exact aN (fun h9=>lN [_] [(1,.t V0 K0)] (.c h9 .n)) (fun h9=>lN [_] [(1,.t K0 V0),(1,.l V0 K0)] (.c h9 (.c h .n)))
 | x' :: a,0,h,k=>by
  unfold dj
  rw [if_pos (k x' (by simp))]
 | x' :: a,r + 1,h,k=>by
  unfold dj at h ⊢
  split at h
  ·exact (lN [_] [(1,.l (.a V0 K1) K0)] (.c h .n)).elim
  ·rename_i e
   rw [if_neg e]
   have:=fU (a:=a) (r:=r) (by exact ae fun h9=>lN [_,_] [(1,.t V0 V1),(1,.l (.a V1 K1) (.a V0 K1))] (.c h9 (.c h .n))) (fun x h1=>k x (by simpa using h1))
   exact aN (fun h9=>lN [_,_] [(1,.t (.a V0 K1) (.a V1 K1)),(1,.e V1 V0)] (.c h9 (.c this .n))) (fun h9=>lN [_,_] [(1,.t (.a V0 K1) (.a V1 K1)),(-1,.e V0 V1)] (.c h9 (.c this .n)))
structure Ao where
 ops:List Op
 i:Nat
 j:Nat
noncomputable def bV (a b:List PySem.Str) (c:Ao):Ao :=
 let r:=dk (a.drop c.i) (b.drop c.j)
 let i1:=c.i + r
 let j1:=c.j + r
 let ops1:=if c.i < i1 then c.ops++[⟨Str.ofString "equal",c.i,i1,c.j,j1⟩] else c.ops
 let i2:=i1 + dj b (a.drop i1)
 let j2:=j1 + dj a (b.drop j1)
 ⟨if i1 < i2 ∨ j1 < j2 then ops1++[⟨if i1 < i2 ∧ j1 < j2 then Str.ofString "replace" else if i1 < i2 then Str.ofString "delete" else Str.ofString "insert",i1,i2,j1,j2⟩] else ops1,i2,j2⟩
noncomputable def dn (a b:List PySem.Str):Nat → Ao
 | 0=>⟨[],0,0⟩
 | n + 1=>bV a b (dn a b n)
noncomputable def gm (a b:List PySem.Str):Prop:=∀ n,(dn a b n).i < a.length ∨ (dn a b n).j < b.length → (dn a b n).i + (dn a b n).j < (dn a b (n + 1)).i + (dn a b (n + 1)).j
structure EZ (a b:List PySem.Str) (v:Value) (new:List (Addr × Obj)):Prop where
 mk :: (ex:∃ (d n k:Nat) (vs:List Value) (tups:List (Addr × Obj)),v = .ref d ∧ new = (d,listOf vs.toArray k) :: tups ∧ fF tups vs (dn a b n).ops ∧ a.length ≤ (dn a b n).i ∧ b.length ≤ (dn a b n).j)
theorem FA {i l k n:Nat} (h:i ≤ n) (h1:l ≤ n - i) (h2:k ≤ n - (i + l)):i + l + k ≤ n:=Nat.add_le_of_le_sub' (Nat.add_comm l i ▸ Nat.add_le_of_le_sub h h1) h2
theorem xy (a b:List PySem.Str):∀ n,(dn a b n).i ≤ a.length ∧ (dn a b n).j ≤ b.length
 | 0=>⟨Nat.zero_le _,Nat.zero_le _⟩
 | n + 1=>by
  have h:=xy a b n
  have h1:=pv (a.drop (dn a b n).i) (b.drop (dn a b n).j)
  have h2:=gB b (a.drop ((dn a b n).i + dk (a.drop (dn a b n).i) (b.drop (dn a b n).j)))
  have h3:=gB a (b.drop ((dn a b n).j + dk (a.drop (dn a b n).i) (b.drop (dn a b n).j)))
  simp only [List.length_drop] at h1 h2 h3
  show (dn a b n).i + dk _ _ + dj _ _ ≤ _ ∧ (dn a b n).j + dk _ _ + dj _ _ ≤ _
  exact ⟨FA h.1 h1.1 h2,FA h.2 h1.2 h3⟩
theorem cY {l:List (PySem.Str × Nat)} {i r:Nat} {y:PySem.Str} {t:Nat} (h:l[(((i + r:Nat):Int)).toNat]? = some (y,t)):((l.map (·.1)).drop i)[r]? = some y:=by
 rw [Int.toNat_natCast] at h
 rw [List.getElem?_drop,List.getElem?_map,h];rfl
theorem i7 {l:List (PySem.Str × Nat)} {i r:Nat} {x:PySem.Str} (h:((l.map (·.1)).drop i)[r]? = some x):i + r < l.length:=by
 rw [List.getElem?_drop] at h
 have:=(List.getElem?_eq_some_iff.mp h).1
 rwa [List.length_map] at this
theorem CT {la lb:List (PySem.Str × Nat)} {i j r:Nat} (hr:r ≤ dk ((la.map (·.1)).drop i) ((lb.map (·.1)).drop j)) (h:¬ (i + r < la.length)):dk ((la.map (·.1)).drop i) ((lb.map (·.1)).drop j) = r:=dK hr fun x h1 _=>h (i7 h1)
theorem DZ {la lb:List (PySem.Str × Nat)} {i j r:Nat} (hr:r ≤ dk ((la.map (·.1)).drop i) ((lb.map (·.1)).drop j)) (h:¬ (j + r < lb.length)):dk ((la.map (·.1)).drop i) ((lb.map (·.1)).drop j) = r:=dK hr fun x _ h1=>h (i7 h1)
theorem D3 {la lb:List (PySem.Str × Nat)} {i j r:Nat} {y z:PySem.Str} {t u:Nat} (hr:r ≤ dk ((la.map (·.1)).drop i) ((lb.map (·.1)).drop j)) (h1:la[(((i + r:Nat):Int)).toNat]? = some (y,t)) (h2:lb[(((j + r:Nat):Int)).toNat]? = some (z,u)) (h:(y == z) = false):dk ((la.map (·.1)).drop i) ((lb.map (·.1)).drop j) = r :=
 dK hr fun x a b=>by
  rw [cY h1] at a;rw [cY h2] at b
  cases a;cases b;simp at h
theorem Dz {la lb:List (PySem.Str × Nat)} {i j r:Nat} {y z:PySem.Str} {t u:Nat} (hr:r ≤ dk ((la.map (·.1)).drop i) ((lb.map (·.1)).drop j)) (h1:la[(((i + r:Nat):Int)).toNat]? = some (y,t)) (h2:lb[(((j + r:Nat):Int)).toNat]? = some (z,u)) (h:(y == z) = true):r < dk ((la.map (·.1)).drop i) ((lb.map (·.1)).drop j):=by
 have e:y = z:=by simpa using h
 subst e
 exact nO hr (cY h1) (cY h2)
theorem Ap {la:List (PySem.Str × Nat)} {b:List PySem.Str} {i r:Nat} (hr:r ≤ dj b ((la.map (·.1)).drop i)) (h:¬ (i + r < la.length)):dj b ((la.map (·.1)).drop i) = r:=fU hr fun x h1=>(h (i7 h1)).elim
theorem AD {la:List (PySem.Str × Nat)} {b:List PySem.Str} {i r:Nat} {y:PySem.Str} {t:Nat} (hr:r ≤ dj b ((la.map (·.1)).drop i)) (h1:la[(((i + r:Nat):Int)).toNat]? = some (y,t)) (h:b.any (· == y) = true):dj b ((la.map (·.1)).drop i) = r :=
 fU hr fun x a=>by
  rw [cY h1] at a;cases a;exact h
theorem Af {la:List (PySem.Str × Nat)} {b:List PySem.Str} {i r:Nat} {y:PySem.Str} {t:Nat} (hr:r ≤ dj b ((la.map (·.1)).drop i)) (h1:la[(((i + r:Nat):Int)).toNat]? = some (y,t)) (h:b.any (· == y) = false):r < dj b ((la.map (·.1)).drop i) :=
 rk hr (cY h1) h
theorem iH {A B:List PySem.Str} {ops:List Op} {i0 j0 r r2 r3:Nat} (h1:dk (A.drop i0) (B.drop j0) = r) (h2:dj B (A.drop (i0 + r)) = r2) (h3:dj A (B.drop (j0 + r)) = r3) :
  bV A B ⟨ops,i0,j0⟩ = ⟨if i0 + r < i0 + r + r2 ∨ j0 + r < j0 + r + r3 then (if i0 < i0 + r then ops++[⟨Str.ofString "equal",i0,i0 + r,j0,j0 + r⟩] else ops) ++
   [⟨if i0 + r < i0 + r + r2 ∧ j0 + r < j0 + r + r3 then Str.ofString "replace" else if i0 + r < i0 + r + r2 then Str.ofString "delete" else Str.ofString "insert",i0 + r,i0 + r + r2,j0 + r,j0 + r + r3⟩]
   else (if i0 < i0 + r then ops++[⟨Str.ofString "equal",i0,i0 + r,j0,j0 + r⟩] else ops),i0 + r + r2,j0 + r + r3⟩:=by
 subst h1;subst h2;subst h3;rfl
theorem zj {a b i j x y:Nat} (h:i + j < x + y) (h1:x ≤ a) (h2:y ≤ b):a + b - (x + y) < a + b - (i + j):=by exact aA fun h9=>lN [_,_,_,_,_,_,_,_] [(1,.l V0 V1),(1,.t (.a V2 V3) (.a V4 V5)),(-1,.e (.a V0 (.a V2 V3)) (.a V6 V7)),(1,.e (.a V1 (.a V4 V5)) (.a V6 V7))] (.c h9 (.c h (.c (Nat.sub_add_cancel (ae fun h9=>lN [_,_,_,_,_,_] [(1,.t (.a V0 V1) (.a V2 V3)),(1,.t (.a V2 V3) (.a V4 V5)),(1,.l V4 V0),(1,.l V5 V1)] (.c h9 (.c h (.c h1 (.c h2 .n)))))) (.c (Nat.sub_add_cancel (ae fun h9=>lN [_,_,_,_,0,0,0] [(1,.t (.a V0 V1) (.a V2 V3)),(1,.l V2 V0),(1,.l V3 V1)] (.c h9 (.c h1 (.c h2 .n))))) .n))))
end
section
structure Eh where
 i:Nat
 j:Nat
 out:List Op
noncomputable def aI (i ai j bj:Nat):List Op:=if i < ai ∧ j < bj then [⟨Str.ofString "replace",i,ai,j,bj⟩] else if i < ai then [⟨Str.ofString "delete",i,ai,j,bj⟩] else if j < bj then [⟨Str.ofString "insert",i,ai,j,bj⟩] else []
noncomputable def bS (b:Bk):List Op:=if b.k ≠ 0 then [⟨Str.ofString "equal",b.i,b.i + b.k,b.j,b.j + b.k⟩] else []
noncomputable def iQ (st:Eh) (b:Bk):Eh:=⟨b.i + b.k,b.j + b.k,st.out++aI st.i b.i st.j b.j++bS b⟩
noncomputable def xz (bs:List Bk) (n:Nat):Eh:=(bs.take n).foldl iQ ⟨0,0,[]⟩
theorem mn {bs:List Bk} {n:Nat} {b:Bk} (h:bs[n]? = some b):xz bs (n + 1) = iQ (xz bs n) b:=by
 unfold xz
 rw [List.take_add_one,h,List.foldl_append];rfl
theorem FD:gM fg:=⟨fun h k=>h.mono k⟩
theorem Gr {i ai j bj:Nat} (h1:(i:Int) < ai) (h2:(j:Int) < bj):aI i ai j bj = [⟨Str.ofString "replace",i,ai,j,bj⟩]:=if_pos ⟨by exact aA fun h9=>lI [_,_] [(1,.l V0 V1),(1,.t V1 V0)] (.c (zl h9) (.c h1 .n)),by exact aA fun h9=>lI [_,_] [(1,.l V0 V1),(1,.t V1 V0)] (.c (zl h9) (.c h2 .n))⟩
theorem FL {i ai j bj:Nat} (h1:(i:Int) < ai) (h2:¬ (j:Int) < bj):aI i ai j bj = [⟨Str.ofString "delete",i,ai,j,bj⟩]:=by
 unfold aI;rw [if_neg (by exact (fun h=>(fun h9=>lI [_,_] [(1,.t V0 V1),(1,.nt V0 V1)] (.c (zt h9) (.c h2 .n))) h.2)),if_pos (by exact aA fun h9=>lI [_,_] [(1,.l V0 V1),(1,.t V1 V0)] (.c (zl h9) (.c h1 .n)))]
theorem FW {i ai j bj:Nat} (h1:¬ (i:Int) < ai) (h2:(j:Int) < bj):aI i ai j bj = [⟨Str.ofString "insert",i,ai,j,bj⟩]:=by
 unfold aI;rw [if_neg (by exact (fun h=>(fun h9=>lI [_,_] [(1,.t V0 V1),(1,.nt V0 V1)] (.c (zt h9) (.c h1 .n))) h.1)),if_neg (by exact fun h9=>lI [_,_] [(1,.t V0 V1),(1,.nt V0 V1)] (.c (zt h9) (.c h1 .n))),if_pos (by exact aA fun h9=>lI [_,_] [(1,.l V0 V1),(1,.t V1 V0)] (.c (zl h9) (.c h2 .n)))]
theorem Gj {i ai j bj:Nat} (h1:¬ (i:Int) < ai) (h2:¬ (j:Int) < bj):aI i ai j bj = []:=by
 unfold aI;rw [if_neg (by exact (fun h=>(fun h9=>lI [_,_] [(1,.t V0 V1),(1,.nt V0 V1)] (.c (zt h9) (.c h1 .n))) h.1)),if_neg (by exact fun h9=>lI [_,_] [(1,.t V0 V1),(1,.nt V0 V1)] (.c (zt h9) (.c h1 .n))),if_neg (by exact fun h9=>lI [_,_] [(1,.t V0 V1),(1,.nt V0 V1)] (.c (zt h9) (.c h2 .n)))]
theorem Ep {b:Bk} (h:(b.k:Int) ≠ 0):bS b = [⟨Str.ofString "equal",b.i,b.i + b.k,b.j,b.j + b.k⟩]:=if_pos (by omega)
theorem E0 {b:Bk} (h:(b.k:Int) = 0):bS b = []:=if_neg (by omega)
structure CD where
 st:Eh
 vs:List Value
 k:Nat
 tups:List (Addr × Obj)
 t1:Nat
 t2:Nat
structure Ex where
 D:Addr
 k:Nat
 vs:List Value
 tups:List (Addr × Obj)
theorem ve (la lb:List (PySem.Str × Nat)) (srt:List Bk):(cN la lb srt).length ≤ srt.length + 2:=by
 have h:∀ n,(xx srt n).out.length ≤ n:=by
  intro n
  induction n with
  | zero=>exact Nat.le_refl _
  | succ n ih =>
   cases e:srt[n]? with
   | none =>
    have:xx srt (n + 1) = xx srt n:=by unfold xx;rw [List.take_add_one,e];simp
    rw [this];exact ae fun h9=>lN [_,_] [(1,.t (.a V0 K1) V1),(1,.l V1 V0)] (.c h9 (.c ih .n))
   | some b =>
    rw [eL e]
    unfold bK
    split
    ·exact Nat.le_succ_of_le ih
    ·dsimp only
     split
     ·rw [List.length_append];exact Nat.succ_le_succ ih
     ·exact Nat.le_succ_of_le ih
 have h2:=h srt.length
 unfold cN eE
 rw [List.length_append]
 split
 ·rw [List.length_append];simp only [List.length_cons,List.length_nil];exact ae fun h9=>lN [_,_] [(1,.t (.a V0 K2) (.a (.a V1 (.a K0 K1)) (.a K0 K1))),(1,.l V1 V0)] (.c h9 (.c h2 .n))
 ·simp only [List.length_cons,List.length_nil];exact ae fun h9=>lN [_,_] [(1,.t (.a V0 K2) (.a V1 (.a K0 K1))),(1,.l V1 V0)] (.c h9 (.c h2 .n))
structure Gd where
 tag:PySem.Str
 u:Nat
noncomputable def CG (i ai j bj:Nat) (x:PySem.Str):Prop:=x.length ≤ 10 ∧ (x.length ≠ 0 → aI i ai j bj = [⟨x,i,ai,j,bj⟩]) ∧ (x.length = 0 → aI i ai j bj = [])
theorem wR {i ai j bj:Nat} {x:PySem.Str} (h:x.length ≤ 10) (h0:x.length ≠ 0) (e:aI i ai j bj = [⟨x,i,ai,j,bj⟩]):CG i ai j bj x:=⟨h,fun _=>e,fun h=>absurd h h0⟩
theorem EH {i ai j bj:Nat} (h1:(i:Int) < ai) (h2:(j:Int) < bj):CG i ai j bj (Str.ofString "replace"):=wR (by decide) (by decide) (Gr h1 h2)
theorem EC {i ai j bj:Nat} (h1:(i:Int) < ai) (h2:¬ (j:Int) < bj):CG i ai j bj (Str.ofString "delete"):=wR (by decide) (by decide) (FL h1 h2)
theorem ED {i ai j bj:Nat} (h1:¬ (i:Int) < ai) (h2:(j:Int) < bj):CG i ai j bj (Str.ofString "insert"):=wR (by decide) (by decide) (FW h1 h2)
theorem EN {i ai j bj:Nat} (h1:¬ (i:Int) < ai) (h2:¬ (j:Int) < bj):CG i ai j bj (Str.ofString ""):=⟨by decide,fun h=>absurd rfl h,fun _=>Gj h1 h2⟩
theorem xn {w:World} {cs:Sc} {lv:Nat} {C:Cx w cs lv} {t:Nat} {m:Map} {k:KV} (rest:Led) (a b na nb:Addr) (la lb:List (PySem.Str × Nat)) (vo:Value) (y:so) (ha:(a,listOf (strValues la).toArray na) ∈ rest) (hb:(b,listOf (strValues lb).toArray nb) ∈ rest)
  (hy:∀ l,w4 w lb l y) (hl1:la.length ≤ 100) (hl2:lb.length ≤ 100) (Inv:List Rg → List Bk → Prop) (mu:List Rg → Nat) (srt:List Bk) (HI:gR la lb Inv mu srt) (hlv:30 ≤ lv)
  (h:∀ S n acc mats t,bL ef mats acc (cN la lb srt) → k (.ref S) t m (((S,listOf acc.toArray n) :: (mats++d0 w a b (.ref S) vo y))++rest)):af C (call (.ref 203) [.ref y.x]) t m (d0 w a b .none vo y++rest) k :=
 Sq.useE (uw w rest a b na nb la lb vo y ha hb hy hl1 hl2 Inv mu srt HI) hlv fun z t hz=>h z.S z.c z.acc z.mats t hz
theorem pM (w:World) (rest:Led) (a b na nb:Addr) (la lb:List (PySem.Str × Nat)) (y:so) (ha:(a,listOf (strValues la).toArray na) ∈ rest) (hb:(b,listOf (strValues lb).toArray nb) ∈ rest)
  (hy:∀ l,w4 w lb l y) (hl1:la.length ≤ 100) (hl2:lb.length ≤ 100) (Inv:List Rg → List Bk → Prop) (mu:List Rg → Nat) (srt:List Bk) (HI:gR la lb Inv mu srt) :
  Sq w 210 40 [.ref y.x] (d0 w a b .none .none y++rest) rest (kH (fun z:Ex=>.ref z.D) (fun z=>(z.D,listOf z.vs.toArray z.k) :: z.tups) (fun z=>bL fg z.tups z.vs (xz (cN la lb srt) (cN la lb srt).length).out)):=by
 refine (fun h:(rW = rW ∧ K = K) → _=>h ⟨rfl,rfl⟩) ?_
 k_fill
 intro _
 refine br [(Str.ofString "self",Value.ref y.x)] 30 (by k_is) (by k_is) (fun _ _=>BindsTo.of_eq rfl) (by rfl) (by rfl) (by kernel_rfl!) ?_
 intro C t0
 refine bb (n:=3) ?_
 refine cG (x:=y.x) (d:=y.d) (n:=y.n) (es:=ml w a b y.bd y.jk y.pp .none .none y.T) (List.Mem.tail _ (List.Mem.tail _ (List.Mem.tail _ (List.Mem.head _)))) (List.Mem.tail _ (List.Mem.tail _ (List.Mem.tail _ (List.Mem.tail _ (List.Mem.head _))))) (by rfl) (v:=.none) (by rfl) (by rfl) ?_
 refine aC fun AN=>?_
 refine bq (d:=y.d) (n:=y.n) (es:=ml w a b y.bd y.jk y.pp .none .none y.T) (es':=ml w a b y.bd y.jk y.pp .none (.ref AN) y.T) (n':=y.n) (l':=(AN,listOf #[] 0) :: (d0 w a b .none (.ref AN) y++rest)) (List.Mem.tail _ (List.Mem.tail _ (List.Mem.tail _ (List.Mem.tail _ (List.Mem.head _))))) (by rfl) (by rfl) (by rfl) (.tail (.tail (.tail (.tail (.tail .head))))) (Nat.le_of_ble_eq_true rfl) ?_
 refine jz (fun _=>rfl) ?_
 refine fo (d:=y.d) (n:=y.n) (es:=ml w a b y.bd y.jk y.pp .none (.ref AN) y.T) (zo _) (List.Mem.tail _ (List.Mem.tail _ (List.Mem.tail _ (List.Mem.tail _ (List.Mem.head _))))) (List.Mem.tail _ (List.Mem.tail _ (List.Mem.tail _ (List.Mem.tail _ (List.Mem.tail _ (List.Mem.head _)))))) (by rfl) ?_
 refine cR (aw 12) rfl (by k_is) ?_
 refine af.less (l':=d0 w a b .none (.ref AN) y++((AN,listOf #[] 0) :: rest)) ?_ aq.mid
 refine xn _ a b na nb la lb (.ref AN) y (.tail _ ha) (.tail _ hb) hy hl1 hl2 Inv mu srt HI (by decide) fun S n acc mats t hS=>?_
 have hlen:(cN la lb srt).length ≤ 8:=Nat.le_trans (ve la lb srt) (Nat.add_le_add_right HI.six 2)
 obtain ⟨l1,hsub,hS1,hA,hr⟩:∃ l1,aq ((AN,listOf #[] 0) :: l1) (((S,listOf acc.toArray n) :: (mats++d0 w a b (.ref S) (.ref AN) y))++(AN,listOf #[] 0) :: rest) ∧ (S,listOf acc.toArray n) ∈ l1 ∧ bL ef l1 acc (cN la lb srt) ∧ aq rest l1 :=
  ⟨_,.front,.head _,hS.mono BZ fun p hp=>aj (.tail _ (aj hp)),.dropA .refl⟩
 clear hS
 generalize cN la lb srt = bl at hlen hA ⊢
 refine f4 (σ:=CD) (fun c=>c.tups++((AN,listOf c.vs.toArray c.k) :: l1))
  (fun c=>[(Str.ofString "answer",.ref AN),(Str.ofString "i",.int (c.st.i:Int) c.t1),(Str.ofString "j",.int (c.st.j:Int) c.t2)])
  (fun i c=>c.st = xz bl i ∧ bL fg c.tups c.vs c.st.out ∧ c.vs.length ≤ 2 * i) ⟨⟨0,0,[]⟩,[],0,[],_,_⟩ 30 (by repeat (first | exact ar.nil | refine ar.cons rfl ?_)) hsub (fun c=>ac (.tail _ hS1)) ⟨rfl,bL.nil,Nat.le_refl _⟩ (fun i c v t own hv ⟨hP,hP2,hP3⟩=>?_) fun c t ⟨hP,hP2,hP3⟩=>?_
 ·refine (let G0:Prop:=_;(?_:G0))
  obtain ⟨bk,hbk,T,d,u1,u2,u3,rfl,hT⟩:=hA.2 i v hv
  have hi:=(List.getElem?_eq_some_iff.mp hv).1
  have hl7:=hA.1
  refine fq (aj (ac (.tail _ hT))) rfl rfl ?_
  refine eG fun K1 hK1=>?_
  refine mG (σ:=Gd) (fun _=>(c.tups++((AN,listOf c.vs.toArray c.k) :: l1))++own)
   (fun z=>[(Str.ofString "answer",.ref AN),(Str.ofString "i",.int (c.st.i:Int) c.t1),(Str.ofString "j",.int (c.st.j:Int) c.t2),(Str.ofString "ai",.int (bk.i:Int) u1),(Str.ofString "bj",.int (bk.j:Int) u2),(Str.ofString "size",.int (bk.k:Int) u3),(Str.ofString "tag",.str z.tag z.u)])
   (fun z=>CG c.st.i bk.i c.st.j bk.j z.tag) 20 ⟨fun h1=>⟨fun h2=>?_,fun h2=>?_⟩,fun h1=>?_⟩ fun z t hz=>?_
  ·exact ⟨⟨Str.ofString "replace",_⟩,(by repeat (first | exact ar.nil | refine ar.cons rfl ?_)),.refl,EH h1 h2⟩
  ·exact bb (n:=9) ⟨fun h3=>⟨⟨Str.ofString "delete",_⟩,(by repeat (first | exact ar.nil | refine ar.cons rfl ?_)),.refl,EC h1 h2⟩,fun h3=>absurd h1 h3⟩
  ·exact bb (n:=9) ⟨fun h3=>absurd h3 h1,fun h3=>bb (n:=7) ⟨fun h4=>⟨⟨Str.ofString "insert",_⟩,(by repeat (first | exact ar.nil | refine ar.cons rfl ?_)),.refl,ED h1 h4⟩,fun h4=>⟨⟨Str.ofString "",_⟩,(by repeat (first | exact ar.nil | refine ar.cons rfl ?_)),.refl,EN h1 h4⟩⟩⟩
  refine mG (σ:=CD) (fun c2=>(c2.tups++((AN,listOf c2.vs.toArray c2.k) :: l1))++own)
   (fun _=>[(Str.ofString "answer",.ref AN),(Str.ofString "ai",.int (bk.i:Int) u1),(Str.ofString "bj",.int (bk.j:Int) u2),(Str.ofString "size",.int (bk.k:Int) u3)])
   (fun c2=>bL fg c2.tups c2.vs (c.st.out++aI c.st.i bk.i c.st.j bk.j) ∧ c2.vs.length ≤ 2 * i + 1) 20 (gc (Nat.le_trans hz.1 (by decide)) (fun h t=>?_) fun h t=>?_) fun c2 t ⟨hB,hB2⟩=>?_
  ·refine aB PySem.F.slot_list_append PySem.F.type_list_append (aj (ac (.head _))) ?_
   refine bg fun T2=>?_
   refine au (.tail (.apr (.app .head))) (by exact ae fun h9=>lN [_,_,_,_,0,0,0] [(1,.t (.k 100000) V0),(2,.l V1 (.k 8)),(2,.t V2 V3),(2,.e V3 V1),(1,.l V0 (.m 2 V2))] (.c h9 (.c hlen (.c hi (.c hl7 (.c hP3 .n)))))) ?_
   exact ⟨CD.mk ⟨0,0,[]⟩ (c.vs++[Value.ref T2]) _ ((T2,_) :: c.tups) 0 0,(by repeat (first | exact ar.nil | refine ar.cons rfl ?_)),.refl,by rw [hz.2.1 h];exact hP2.snoc FD (fun p hp=>.tail _ hp) ⟨T2,_,_,_,_,_,rfl,.head _⟩,by show (c.vs++[Value.ref T2]).length ≤ _;rw [List.length_append,List.length_singleton];omega⟩
  ·exact ⟨CD.mk ⟨0,0,[]⟩ c.vs _ c.tups 0 0,(by repeat (first | exact ar.nil | refine ar.cons rfl ?_)),.refl,by rw [hz.2.2 h,List.append_nil];exact hP2,Nat.le_succ_of_le hP3⟩
  refine bb (n:=20) ⟨fun hk=>?_,fun hk=>?_⟩
  ·refine aB PySem.F.slot_list_append PySem.F.type_list_append (aj (ac (.head _))) ?_
   refine bg fun T2=>?_
   refine au (.tail (.apr (.app .head))) (by omega) ?_
   exact hK1 .next _ _ _ ⟨CD.mk ⟨bk.i + bk.k,bk.j + bk.k,c.st.out++aI c.st.i bk.i c.st.j bk.j++bS bk⟩ (c2.vs++[Value.ref T2]) _ ((T2,_) :: c2.tups) _ _,(by repeat (first | exact ar.nil | refine ar.cons rfl ?_)),.refl,by rw [mn hbk,← hP];rfl,by rw [Ep hk];exact hB.snoc FD (fun p hp=>.tail _ hp) ⟨T2,_,_,_,_,_,rfl,.head _⟩,by show (c2.vs++[Value.ref T2]).length ≤ _;rw [List.length_append,List.length_singleton];omega⟩
  ·exact hK1 .next _ _ _ ⟨CD.mk ⟨bk.i + bk.k,bk.j + bk.k,c.st.out++aI c.st.i bk.i c.st.j bk.j++bS bk⟩ c2.vs _ c2.tups _ _,(by repeat (first | exact ar.nil | refine ar.cons rfl ?_)),.refl,by rw [mn hbk,← hP];rfl,by rw [E0 hk,List.append_nil];exact hB,by show c2.vs.length ≤ _;omega⟩
 ·rw [hA.1] at hP
  rw [← hP]
  exact ⟨_,.trans (.cons (.appL hr)) .front,⟨Ex.mk AN c.k c.vs c.tups,rfl,rfl,hP2⟩⟩
end
section
theorem tA {w:World} {cs:Sc} {lv:Nat} {C:Cx w cs lv} {t:Nat} {m:Map} {l:Led} {b n tk:Nat} {lx:List (PySem.Str × Nat)} {y:PySem.Str} {kt kf:KN} (hb:(b,listOf (strValues lx).toArray n) ∈ l) (h1:(lx.map (·.1)).any (· == y) = false → ∀ t,kt t m l) (h2:(lx.map (·.1)).any (· == y) = true → ∀ t,kf t m l) :
  uF C .NotIn (.str y tk) (.ref b) t m l kt kf :=
 cg fun s M Q ht F N nd back=>notin_list_strs (N.isList hb) (gk _) (back (.bool _) _ _ _ F N nd (show _ ∧ _ from ⟨fun h=>h1 (by simpa using h) _,fun h=>h2 (by simpa using h) _⟩))
noncomputable def wd (A B:List PySem.Str) (c:Ao) (r:Nat):List Op:=if c.i < c.i + r then c.ops++[⟨Str.ofString "equal",c.i,c.i + r,c.j,c.j + r⟩] else c.ops
noncomputable def d7 (o:List Op) (i1 i2 j1 j2:Nat):List Op:=if i1 < i2 ∨ j1 < j2 then o++[⟨if i1 < i2 ∧ j1 < j2 then Str.ofString "replace" else if i1 < i2 then Str.ofString "delete" else Str.ofString "insert",i1,i2,j1,j2⟩] else o
theorem FZ {o:List Op} {i1 i2 j1 j2:Nat} (h1:(i1:Int) < i2) (h2:(j1:Int) < j2):d7 o i1 i2 j1 j2 = o++[⟨Str.ofString "replace",i1,i2,j1,j2⟩]:=by
 unfold d7;rw [if_pos (.inl (Int.ofNat_lt.mp h1)),if_pos ⟨Int.ofNat_lt.mp h1,Int.ofNat_lt.mp h2⟩]
theorem Gc {o:List Op} {i1 i2 j1 j2:Nat} (h1:(i1:Int) < i2) (h2:¬ (j1:Int) < j2):d7 o i1 i2 j1 j2 = o++[⟨Str.ofString "delete",i1,i2,j1,j2⟩]:=by
 unfold d7;rw [if_pos (.inl (Int.ofNat_lt.mp h1)),if_neg (fun h=>h2 (Int.ofNat_lt.mpr h.2)),if_pos (Int.ofNat_lt.mp h1)]
theorem FT {o:List Op} {i1 i2 j1 j2:Nat} (h1:¬ (i1:Int) < i2) (h2:(j1:Int) < j2):d7 o i1 i2 j1 j2 = o++[⟨Str.ofString "insert",i1,i2,j1,j2⟩]:=by
 unfold d7;rw [if_pos (.inr (Int.ofNat_lt.mp h2)),if_neg (fun h=>h1 (Int.ofNat_lt.mpr h.1)),if_neg (fun h=>h1 (Int.ofNat_lt.mpr h))]
theorem Gl {o:List Op} {i1 i2 j1 j2:Nat} (h1:¬ (i1:Int) < i2) (h2:¬ (j1:Int) < j2):d7 o i1 i2 j1 j2 = o :=
 if_neg fun h=>h.elim (fun h=>h1 (Int.ofNat_lt.mpr h)) fun h=>h2 (Int.ofNat_lt.mpr h)
theorem xO {la lb:List (PySem.Str × Nat)} {n:Nat} {st:Ao} {r r2 r3:Nat} (hpr:gm (la.map (·.1)) (lb.map (·.1))) (hst:st = dn (la.map (·.1)) (lb.map (·.1)) n) (hT:st.i < la.length ∨ st.j < lb.length)
  (h1:dk ((la.map (·.1)).drop st.i) ((lb.map (·.1)).drop st.j) = r) (h2:dj (lb.map (·.1)) ((la.map (·.1)).drop (st.i + r)) = r2) (h3:dj (la.map (·.1)) ((lb.map (·.1)).drop (st.j + r)) = r3) :
  (⟨d7 (wd (la.map (·.1)) (lb.map (·.1)) st r) (st.i + r) (st.i + r + r2) (st.j + r) (st.j + r + r3),st.i + r + r2,st.j + r + r3⟩:Ao) = dn (la.map (·.1)) (lb.map (·.1)) (n + 1) ∧ st.i + st.j < (st.i + r + r2) + (st.j + r + r3) ∧ st.i + r + r2 ≤ la.length ∧ st.j + r + r3 ≤ lb.length:=by
 have e:dn (la.map (·.1)) (lb.map (·.1)) (n + 1) = (⟨d7 (wd (la.map (·.1)) (lb.map (·.1)) st r) (st.i + r) (st.i + r + r2) (st.j + r) (st.j + r + r3),st.i + r + r2,st.j + r + r3⟩:Ao):=by
  show bV _ _ (dn _ _ n) = _
  rw [← hst]
  obtain ⟨o,i,j⟩:=st
  exact iH h1 h2 h3
 have a:=hpr n (by rw [← hst,List.length_map,List.length_map];exact hT)
 have b:=xy (la.map (·.1)) (lb.map (·.1)) (n + 1)
 rw [← hst,e] at a
 rw [e,List.length_map,List.length_map] at b
 exact ⟨e.symm,a,b⟩
theorem BJ {n i j x:Nat} (h:n ≤ i + j) (h1:i + j < x):n + 1 ≤ x:=by exact ae fun h9=>lN [_,_,_,_] [(1,.t V0 (.a V1 K1)),(1,.l V1 (.a V2 V3)),(1,.t (.a V2 V3) V0)] (.c h9 (.c h (.c h1 .n)))
structure Gh where
 n:Nat
 st:Ao
 vs:List Value
 k:Nat
 tups:Led
 ti:Nat
 tj:Nat
structure Go where
 vs:List Value
 k:Nat
 tups:Led
theorem qk (w:World) (led:Led) (a b n1 n2:Nat) (la lb:List (PySem.Str × Nat))
  (ha:(a,listOf (strValues la).toArray n1) ∈ led) (hb:(b,listOf (strValues lb).toArray n2) ∈ led) (h1:la.length ≤ 100) (h2:lb.length ≤ 100) (hpr:gm (la.map (·.1)) (lb.map (·.1))) :
  Sq w 444 10 [.ref a,.ref b] led led (EZ (la.map (·.1)) (lb.map (·.1))):=by
 refine (fun h:(rW = rW ∧ K = K) → _=>h ⟨rfl,rfl⟩) ?_
 k_fill
 intro _
 have z1:la.length ≤ 100000:=Nat.le_trans h1 (Nat.le_of_ble_eq_true rfl)
 have z2:lb.length ≤ 100000:=Nat.le_trans h2 (Nat.le_of_ble_eq_true rfl)
 refine br [(Str.ofString "one",Value.ref a),(Str.ofString "two",Value.ref b)] 30 (by k_is) (by k_is) (fun _ _=>BindsTo.of_eq rfl) (by rfl) (by rfl) (by kernel_rfl!) ?_
 intro C t0
 refine aC fun D=>?_
 refine eo (σ:=Gh) (fun c=>c.tups++((D,listOf c.vs.toArray c.k) :: led)) (fun c=>[(Str.ofString "one",.ref a),(Str.ofString "two",.ref b),(Str.ofString "told",.ref D),(Str.ofString "i",.int (c.st.i:Int) c.ti),(Str.ofString "j",.int (c.st.j:Int) c.tj)])
  (fun c=>c.st = dn (la.map (·.1)) (lb.map (·.1)) c.n ∧ fF c.tups c.vs c.st.ops ∧ c.vs.length ≤ 2 * c.n ∧ c.n ≤ c.st.i + c.st.j ∧ c.st.i ≤ la.length ∧ c.st.j ≤ lb.length)
  (fun c=>c.st.i < la.length ∨ c.st.j < lb.length) (fun c=>c.st = dn (la.map (·.1)) (lb.map (·.1)) c.n ∧ fF c.tups c.vs c.st.ops ∧ la.length ≤ c.st.i ∧ lb.length ≤ c.st.j) (fun c=>la.length + lb.length - (c.st.i + c.st.j)) ⟨0,⟨[],0,0⟩,[],0,[],_,_⟩ 30 (by repeat (first | exact ar.nil | refine ar.cons rfl ?_)) .refl ⟨rfl,⟨rfl,fun i v h=>by simp at h⟩,Nat.le_refl _,Nat.le_refl _,Nat.zero_le _,Nat.zero_le _⟩
  (fun c t ⟨p1,p2,p3,p4,p5,p6⟩=>?_) (fun c t ⟨p1,p2,p3,p4,p5,p6⟩ hT=>eG fun K1 hK1=>?_) fun c t ⟨p1,p2,p3,p4⟩=>?_
 ·refine cV (ac (.tail _ ha)) z1 ⟨fun h1=>⟨rfl,rfl,.inl (Int.ofNat_lt.mp h1)⟩,fun h1=>?_⟩
  exact cV (ac (.tail _ hb)) z2 ⟨fun h2=>⟨rfl,rfl,.inr (Int.ofNat_lt.mp h2)⟩,fun h2=>⟨rfl,rfl,p1,p2,Nat.not_lt.mp fun h=>h1 (Int.ofNat_lt.mpr h),Nat.not_lt.mp fun h=>h2 (Int.ofNat_lt.mpr h)⟩⟩
 ·refine eo (σ:=Nat × Nat × Nat) (fun _=>c.tups++((D,listOf c.vs.toArray c.k) :: led)) (fun z=>[(Str.ofString "one",.ref a),(Str.ofString "two",.ref b),(Str.ofString "told",.ref D),(Str.ofString "i",.int ((c.st.i + z.1:Nat):Int) z.2.1),(Str.ofString "j",.int ((c.st.j + z.1:Nat):Int) z.2.2),(Str.ofString "a",.int (c.st.i:Int) c.ti),(Str.ofString "b",.int (c.st.j:Int) c.tj)])
   (fun z=>z.1 ≤ dk ((la.map (·.1)).drop c.st.i) ((lb.map (·.1)).drop c.st.j)) (fun z=>z.1 < dk ((la.map (·.1)).drop c.st.i) ((lb.map (·.1)).drop c.st.j)) (fun z=>dk ((la.map (·.1)).drop c.st.i) ((lb.map (·.1)).drop c.st.j) = z.1) (fun z=>la.length - z.1) (0,_,_) 9 (by repeat (first | exact ar.nil | refine ar.cons rfl ?_)) .refl (Nat.zero_le _)
   (fun z t hz=>?_) (fun z t hz hT2=>?_) fun z t hz=>?_
  ·refine cV (ac (.tail _ ha)) z1 ⟨fun h1=>?_,fun h1=>⟨rfl,rfl,CT hz fun h=>h1 (Int.ofNat_lt.mpr h)⟩⟩
   refine cV (ac (.tail _ hb)) z2 ⟨fun h2=>?_,fun h2=>⟨rfl,rfl,DZ hz fun h=>h2 (Int.ofNat_lt.mpr h)⟩⟩
   refine be (ac (.tail _ ha)) (Int.natCast_nonneg _) (Int.ofNat_lt.mp h1) z1 (by with_unfolding_all rfl) fun y ty ey=>?_
   refine be (ac (.tail _ hb)) (Int.natCast_nonneg _) (Int.ofNat_lt.mp h2) z2 (by with_unfolding_all rfl) fun x tx ex=>?_
   exact ⟨fun e=>⟨rfl,rfl,Dz hz ey ex (beq_iff_eq.mpr e)⟩,fun e=>⟨rfl,rfl,D3 hz ey ex (beq_eq_false_iff_ne.mpr e)⟩⟩
  ·exact ⟨(z.1 + 1,_,_),(by repeat (first | exact ar.nil | refine ar.cons rfl ?_)),.refl,hT2,Nat.sub_lt_sub_left (Nat.lt_of_lt_of_le hT2 (Nat.le_trans (pv _ _).1 (by rw [List.length_drop,List.length_map];exact Nat.sub_le _ _))) (Nat.lt_succ_self _)⟩
  obtain ⟨r,ti,tj⟩:=z
  dsimp only at hz ⊢
  rename _ = r=>hr
  have hz3:2 * c.n + 1 ≤ 100000:=by omega
  have hz2:=Nat.le_of_succ_le hz3
  refine mG (σ:=Go) (fun q=>q.tups++((D,listOf q.vs.toArray q.k) :: led)) (fun _=>[(Str.ofString "one",.ref a),(Str.ofString "two",.ref b),(Str.ofString "told",.ref D),(Str.ofString "i",.int ((c.st.i + r:Nat):Int) ti),(Str.ofString "j",.int ((c.st.j + r:Nat):Int) tj)])
   (fun q=>fF q.tups q.vs (wd (la.map (·.1)) (lb.map (·.1)) c.st r) ∧ q.vs.length ≤ 2 * c.n + 1) 9 ⟨fun h=>?_,fun h=>?_⟩ fun q t ⟨q1,q2⟩=>?_
  ·refine aB PySem.F.slot_list_append PySem.F.type_list_append (ac (.head _)) ?_
   refine bg fun T2=>?_
   refine au (.tail (.app .head)) (Nat.le_trans p3 hz2) ?_
   exact ⟨⟨_,_,(T2,_) :: c.tups⟩,(by repeat (first | exact ar.nil | refine ar.cons rfl ?_)),.refl,by unfold wd;rw [if_pos (Int.ofNat_lt.mp h)];exact p2.snoc (fun p hp=>.tail _ hp) ⟨T2,_,_,_,_,_,rfl,.head _⟩,by rw [List.length_append];exact Nat.succ_le_succ p3⟩
  ·exact ⟨⟨c.vs,_,c.tups⟩,(by repeat (first | exact ar.nil | refine ar.cons rfl ?_)),.refl,by unfold wd;rw [if_neg fun e=>h (Int.ofNat_lt.mpr e)];exact p2,Nat.le_succ_of_le p3⟩
  clear p2 p3
  refine eo (σ:=Nat × Nat) (fun _=>q.tups++((D,listOf q.vs.toArray q.k) :: led)) (fun z=>[(Str.ofString "one",.ref a),(Str.ofString "two",.ref b),(Str.ofString "told",.ref D),(Str.ofString "i",.int ((c.st.i + r + z.1:Nat):Int) z.2),(Str.ofString "j",.int ((c.st.j + r:Nat):Int) tj),(Str.ofString "a",.int ((c.st.i + r:Nat):Int) ti),(Str.ofString "b",.int ((c.st.j + r:Nat):Int) tj)])
   (fun z=>z.1 ≤ dj (lb.map (·.1)) ((la.map (·.1)).drop (c.st.i + r))) (fun z=>z.1 < dj (lb.map (·.1)) ((la.map (·.1)).drop (c.st.i + r))) (fun z=>dj (lb.map (·.1)) ((la.map (·.1)).drop (c.st.i + r)) = z.1) (fun z=>la.length - z.1) (0,_) 9 (by repeat (first | exact ar.nil | refine ar.cons rfl ?_)) .refl (Nat.zero_le _)
   (fun z t hz=>?_) (fun z t hz hT2=>?_) fun z t hz=>?_
  ·refine cV (ac (.tail _ ha)) z1 ⟨fun h1=>?_,fun h1=>⟨rfl,rfl,Ap hz fun h=>h1 (Int.ofNat_lt.mpr h)⟩⟩
   refine be (ac (.tail _ ha)) (Int.natCast_nonneg _) (Int.ofNat_lt.mp h1) z1 (by with_unfolding_all rfl) fun y ty ey=>?_
   exact tA (ac (.tail _ hb)) (fun e _=>⟨rfl,rfl,Af hz ey e⟩) fun e _=>⟨rfl,rfl,AD hz ey e⟩
  ·exact ⟨(z.1 + 1,_),(by repeat (first | exact ar.nil | refine ar.cons rfl ?_)),.refl,hT2,Nat.sub_lt_sub_left (Nat.lt_of_lt_of_le hT2 (Nat.le_trans (gB _ _) (by rw [List.length_drop,List.length_map];exact Nat.sub_le _ _))) (Nat.lt_succ_self _)⟩
  obtain ⟨r2,ti2⟩:=z
  dsimp only at hz ⊢
  rename _ = r2=>hs1
  refine eo (σ:=Nat × Nat) (fun _=>q.tups++((D,listOf q.vs.toArray q.k) :: led)) (fun z=>[(Str.ofString "one",.ref a),(Str.ofString "two",.ref b),(Str.ofString "told",.ref D),(Str.ofString "i",.int ((c.st.i + r + r2:Nat):Int) ti2),(Str.ofString "j",.int ((c.st.j + r + z.1:Nat):Int) z.2),(Str.ofString "a",.int ((c.st.i + r:Nat):Int) ti),(Str.ofString "b",.int ((c.st.j + r:Nat):Int) tj)])
   (fun z=>z.1 ≤ dj (la.map (·.1)) ((lb.map (·.1)).drop (c.st.j + r))) (fun z=>z.1 < dj (la.map (·.1)) ((lb.map (·.1)).drop (c.st.j + r))) (fun z=>dj (la.map (·.1)) ((lb.map (·.1)).drop (c.st.j + r)) = z.1) (fun z=>lb.length - z.1) (0,_) 9 (by repeat (first | exact ar.nil | refine ar.cons rfl ?_)) .refl (Nat.zero_le _)
   (fun z t hz=>?_) (fun z t hz hT2=>?_) fun z t hz=>?_
  ·refine cV (ac (.tail _ hb)) z2 ⟨fun h1=>?_,fun h1=>⟨rfl,rfl,Ap hz fun h=>h1 (Int.ofNat_lt.mpr h)⟩⟩
   refine be (ac (.tail _ hb)) (Int.natCast_nonneg _) (Int.ofNat_lt.mp h1) z2 (by with_unfolding_all rfl) fun y ty ey=>?_
   exact tA (ac (.tail _ ha)) (fun e _=>⟨rfl,rfl,Af hz ey e⟩) fun e _=>⟨rfl,rfl,AD hz ey e⟩
  ·exact ⟨(z.1 + 1,_),(by repeat (first | exact ar.nil | refine ar.cons rfl ?_)),.refl,hT2,Nat.sub_lt_sub_left (Nat.lt_of_lt_of_le hT2 (Nat.le_trans (gB _ _) (by rw [List.length_drop,List.length_map];exact Nat.sub_le _ _))) (Nat.lt_succ_self _)⟩
  obtain ⟨r3,tj3⟩:=z
  dsimp only at hz ⊢
  obtain ⟨n1,n2,n3,n4⟩:=xO hpr p1 hT hr hs1 hz
  have ms:=zj n2 n3 n4
  have le:=BJ p4 n2
  have z3:q.vs.length ≤ 100000:=Nat.le_trans q2 hz3
  refine bb (n:=9) ⟨fun h1=>?_,fun h1=>⟨fun h2=>?_,fun h2=>?_⟩⟩
  ·refine aB PySem.F.slot_list_append PySem.F.type_list_append (ac (.head _)) (pf (aw 12) ⟨fun _=>⟨fun h2=>?_,fun h2=>pf (aw 12) ⟨fun _=>?_,fun h=>absurd h1 h⟩⟩,fun h=>absurd h1 h⟩)
   ·exact bg fun T2=>au (.tail (.app .head)) z3 (hK1 .next _ _ _ ⟨⟨c.n + 1,_,_,_,(T2,_) :: q.tups,_,_⟩,(by repeat (first | exact ar.nil | refine ar.cons rfl ?_)),.refl,⟨n1,FZ h1 h2 ▸ q1.snoc (fun p hp=>.tail _ hp) ⟨T2,_,_,_,_,_,rfl,.head _⟩,by rw [List.length_append];exact Nat.succ_le_succ q2,le,n3,n4⟩,ms⟩)
   ·exact bg fun T2=>au (.tail (.app .head)) z3 (hK1 .next _ _ _ ⟨⟨c.n + 1,_,_,_,(T2,_) :: q.tups,_,_⟩,(by repeat (first | exact ar.nil | refine ar.cons rfl ?_)),.refl,⟨n1,Gc h1 h2 ▸ q1.snoc (fun p hp=>.tail _ hp) ⟨T2,_,_,_,_,_,rfl,.head _⟩,by rw [List.length_append];exact Nat.succ_le_succ q2,le,n3,n4⟩,ms⟩)
  ·refine aB PySem.F.slot_list_append PySem.F.type_list_append (ac (.head _)) (pf (aw 12) ⟨fun h=>absurd h h1,fun _=>pf (aw 12) ⟨fun h=>absurd h h1,fun _=>?_⟩⟩)
   exact bg fun T2=>au (.tail (.app .head)) z3 (hK1 .next _ _ _ ⟨⟨c.n + 1,_,_,_,(T2,_) :: q.tups,_,_⟩,(by repeat (first | exact ar.nil | refine ar.cons rfl ?_)),.refl,⟨n1,FT h1 h2 ▸ q1.snoc (fun p hp=>.tail _ hp) ⟨T2,_,_,_,_,_,rfl,.head _⟩,by rw [List.length_append];exact Nat.succ_le_succ q2,le,n3,n4⟩,ms⟩)
  ·exact hK1 .next _ _ _ ⟨⟨c.n + 1,_,q.vs,q.k,q.tups,_,_⟩,(by repeat (first | exact ar.nil | refine ar.cons rfl ?_)),.refl,⟨n1,(by show fF _ _ (d7 _ _ _ _ _);rw [Gl h1 h2];exact q1),Nat.le_succ_of_le q2,le,n3,n4⟩,ms⟩
 ·exact ⟨_,.front,EZ.mk ⟨D,c.n,c.k,c.vs,c.tups,rfl,rfl,p1 ▸ p2,by rw [List.length_map,← p1];exact p3,by rw [List.length_map,← p1];exact p4⟩⟩
end
section
theorem ru (w:World) (led:Led) (a b n1 n2:Nat) (la lb:List (PySem.Str × Nat)) (ha:(a,listOf (strValues la).toArray n1) ∈ led) (hb:(b,listOf (strValues lb).toArray n2) ∈ led) (h1:la.length ≤ 100) (h2:lb.length ≤ 100) (hpr:gm (la.map (·.1)) (lb.map (·.1))) :
  Sp w 444 10 [.ref a,.ref b] led (EZ (la.map (·.1)) (lb.map (·.1))):=.ofSq fun l' s=>qk w l' a b n1 n2 la lb (s.to _ ha) (s.to _ hb) h1 h2 hpr
theorem vb (w:World) (led:Led) (a n:Nat) (vs:List Value) (es:List aK) (ha:(a,listOf vs.toArray n) ∈ led) (hes:ba led vs es) (hok:∀ e ∈ es,bc e) (hlen:es.length ≤ 100) :
  Sp w 432 20 [.ref a] led (kH (fun y:Addr × List (PySem.Str × Nat) × Nat=>.ref y.1) (fun y=>[(y.1,listOf (strValues y.2.1).toArray y.2.2)]) fun y=>y.2.1.map (·.1) = bQ es):=.ofSq fun l' s=>vJ w l' a n vs es (s.to _ ha) (hes.mono s.to) hok hlen
theorem w5 (w:World) (led:Led) (a n ts:Nat) (vs:List Value) (es:List aK) (side:Int) (ha:(a,listOf vs.toArray n) ∈ led) (hes:ba led vs es) (hok:∀ e ∈ es,bc e) (hlen:es.length ≤ 100) (hs:side = 0 ∨ side = 1) :
  Sp w 437 10 [.ref a,.int side ts] led (kH (fun y:Addr × List (PySem.Str × Nat) × Nat=>.ref y.1) (fun y=>[(y.1,listOf (strValues y.2.1).toArray y.2.2)]) fun y=>y.2.1.map (·.1) = bv es side):=.ofSq fun l' s=>BE w l' a n ts vs es side (s.to _ ha) (hes.mono s.to) hok hlen hs
theorem m5 (w:World) (led:Led) (D n:Nat) (nums:List (Int × Nat)) (hD:(D,listOf (bm nums).toArray n) ∈ led) (hlen:nums.length ≤ 9) :
  Sp w 420 10 [.ref D] led (fun v new=>∃ (B n':Nat) (ys:List Value) (nw:Led) (ps:List PySem.Str),v = .ref B ∧ new = (B,listOf ys.toArray n') :: nw ∧ ps.Perm ((cb (nums.map Prod.fst)).map aO) ∧ ba nw ys (fN (cb (nums.map Prod.fst)) ps)):=.ofSq fun l' s=>m6 w l' D n nums (s.to _ hD) hlen
theorem DK (w:World) (led:Led) (a b nb:Nat) (lb:List (PySem.Str × Nat)) (hb:(b,listOf (strValues lb).toArray nb) ∈ led) (hlen:lb.length ≤ 100) (hnd:(lb.map (·.1)).Nodup) :
  Sp w 242 20 [.none,.ref a,.ref b] led (fun v new=>kH (fun y:so=>.ref y.x) (d0 w a b .none .none) (fun y=>∀ l,w4 w lb l y) v new ∧ ∃ l',pi led l' ∧ ((new++l').map (·.1)).Nodup):=.ofSqN fun l' s=>CY w l' a b nb lb (s.to _ hb) hlen hnd
theorem qE (w:World) (rest l':Led) (a b na nb:Addr) (la lb:List (PySem.Str × Nat)) (y:so) (hs:pi rest l') (nd:((d0 w a b .none .none y++l').map (·.1)).Nodup) (ha:(a,listOf (strValues la).toArray na) ∈ rest) (hb:(b,listOf (strValues lb).toArray nb) ∈ rest)
  (hy:∀ l,w4 w lb l y) (hl1:la.length ≤ 100) (hl2:lb.length ≤ 100) (Inv:List Rg → List Bk → Prop) (mu:List Rg → Nat) (srt:List Bk) (HI:gR la lb Inv mu srt) :
  CK w 210 40 [.ref y.x] (d0 w a b .none .none y++rest) rest (kH (fun z:Ex=>.ref z.D) (fun z=>(z.D,listOf z.vs.toArray z.k) :: z.tups) (fun z=>bL fg z.tups z.vs (xz (cN la lb srt) (cN la lb srt).length).out)) :=
 .ofSq hs nd (pM w l' a b na nb la lb y (hs.to _ ha) (hs.to _ hb) hy hl1 hl2 Inv mu srt HI)
theorem qy (w:World) (led:Led) (x:PySem.Str) (t0:Nat) (hx:x.length ≤ 1000):Sp w 361 4 [.str x t0] led (gl (eK x)):=.ofSq fun l' _=>np w l' x t0 hx
end
section
section
variable {M:Model} {A:Around} {R:GenEnd} {Y:Protocol} {n:Nat} {s₀:Shared} {c:Code} {fs:List Frame} {s:Shared} {env:Env}
 {K:Flow → Sem Fin} {H:Value → Sem Fin} {gd:Bool → Bool} {lv:List Value → List Value}
theorem dq {st:Stmt} {rest:List Stmt}
  (h:wpAny M (A.over c fs) (exec st env) (fun f s'=>Seg M A R Y n s₀ c (match f with | .next=>(execs rest env).wrap K H gd lv | f=>K f) fs s') (fun x s'=>Seg M A R Y n s₀ c (H x) fs s') s) :
  Seg M A R Y n s₀ c ((execs (st :: rest) env).wrap K H gd lv) fs s:=by
 refine seg_execs_cons (seg_wrap (wpAny_mono h (fun f s' h'=>?_) fun _ _ e=>e))
 cases f <;> exact h'
theorem yt {target iter:Expr} {body orelse:List Stmt} {pos:Pos}
  (h:wpAny M (A.over c fs) (eval iter env) (fun x s₁=>wpAny M (A.over c fs) (pyIter x) (fun it s₂=>∀ p,Seg M A R Y n s₀ (.forLoop target it body orelse env) (M.den (.forLoop target it body orelse env))
   (.ret (fun r=>((match r with | .ok f=>(.pure f:Sem Flow) | .error e=>.raise e).onRaise fun (x:Value)=>do
    if (← field x 1) == Value.none then unsupported "frame.own-activation:exception-without-traceback"
    setFlight x env.frame).wrap K H gd lv) none (gd false) (lv []) c p [] :: fs) s₂) (fun x s'=>Seg M A R Y n s₀ c (H x) fs s') s₁) (fun x s'=>Seg M A R Y n s₀ c (H x) fs s') s)
  (hs:∀ x,foldedSetIterable iter env x = pure x) :
  Seg M A R Y n s₀ c ((exec (.For target iter body orelse pos) env).wrap K H gd lv) fs s:=by
 rw [exec_For]
 refine seg_at ?_
 show Seg M A R Y n s₀ c ((eval iter env >>= fun x₀=>foldedSetIterable iter env x₀ >>= fun x=>standAt iter.pos >>= fun _=>(holding [x] (pyIter x)) >>= fun it=>runOwn (.forLoop target it body orelse env) env).wrap K H gd lv) fs s
 rw [Sem.bind_eq_wrap',Sem.wrap_wrap]
 refine seg_wrap (wpAny_mono h (fun x s₁ h₁=>?_) fun _ _ e=>e)
 rw [hs]
 refine seg_at ?_
 show Seg M A R Y n s₀ c ((holding [x] (pyIter x) >>= fun it=>runOwn (.forLoop target it body orelse env) env).wrap K H gd lv) fs s₁
 rw [Sem.bind_eq_wrap',Sem.wrap_wrap]
 refine seg_wrap (wpAny_holding (wpAny_mono h₁ (fun it s₂ h₂=>?_) fun _ _ e=>e))
 exact seg_call h₂
theorem Bh {test:Expr} {body orelse:List Stmt} {pos:Pos}
  (h:wpAny M (A.over c fs) (isTrue test env (eval test env)) (fun b s'=>Seg M A R Y n s₀ c (if b = true then (execs body env).wrap K H gd lv else (execs orelse env).wrap K H gd lv) fs s') (fun x s'=>Seg M A R Y n s₀ c (H x) fs s') s) :
  Seg M A R Y n s₀ c ((exec (.If test body orelse pos) env).wrap K H gd lv) fs s:=by
 rw [exec_If]
 refine seg_at ?_
 show Seg M A R Y n s₀ c ((isTrue test env (eval test env) >>= fun b=>if b = true then execs body env else execs orelse env).wrap K H gd lv) fs s
 rw [Sem.bind_eq_wrap',Sem.wrap_wrap]
 refine seg_wrap (wpAny_mono h (fun b s' hb=>?_) fun _ _ e=>e)
 cases b with
 | true=>simpa using hb
 | false=>simpa using hb
end
section
variable {prog:Program} {w:World} {A:Around} {R:GenEnd} {Y:Protocol} {n:Nat} {s₀:Shared} {fs:List Frame} {s:Shared} {env:Env}
theorem fJ {target:Expr} {it:Value} {body:List Stmt}
  (ht:∀ v,letOwnedTupleGo target it v = pure ())
  (h:wpAny (model prog w) (A.over (.forLoop target it body [] env) fs) (pyNext it) (fun r s₁=>match r with
   | none=>Seg (model prog w) A R Y n s₀ (.block [] env) (.pure (.done .next)) fs s₁
   | some v=>wpAny (model prog w) (A.over (.forLoop target it body [] env) fs) (assign target env v) (fun _ s₂ =>
     Seg (model prog w) A R Y n s₀ (.forLoop target it body [] env) ((execs body env).wrap (fun f=>match f with
      | .next | .cont=>.pure (.again (.forLoop target it body [] env))
      | .brk=>.pure (.done .next)
      | .ret v=>.pure (.done (.ret v))) (fun e=>(do noteFrame e env;theTreesLotGoes e:Sem Unit).wrap (fun _=>.raise e) .raise id id) id id) fs s₂) (fun _ _=>False) s₁) (fun _ _=>False) s) :
  Seg (model prog w) A R Y n s₀ (.forLoop target it body [] env) ((model prog w).den (.forLoop target it body [] env)) fs s:=by
 show Seg _ A R Y n s₀ _ ((forTurn target it body [] env).onRaise (fun x=>do noteFrame x env;theTreesLotGoes x)) fs s
 unfold forTurn
 rw [Sem.onRaise_eq_wrap]
 refine seg_at ?_
 show Seg _ A R Y n s₀ _ (((pyNext it).onRaise (fun _=>standAt { target.pos with line:=0 }) >>= _).wrap _ _ _ _) fs s
 rw [Sem.bind_eq_wrap',Sem.wrap_wrap]
 refine seg_wrap (wpAny_onRaise (wpAny_mono h (fun r s₁ h₁=>?_) fun _ _ e=>e.elim))
 cases r with
 | none =>
  refine seg_again rfl ?_
  exact h₁
 | some v =>
  show Seg _ A R Y n s₀ _ ((letOwnedTupleGo target it v >>= _).wrap _ _ _ _) fs s₁
  rw [ht]
  show Seg _ A R Y n s₀ _ ((assign target env v >>= _).wrap _ _ _ _) fs s₁
  rw [Sem.bind_eq_wrap',Sem.wrap_wrap]
  refine seg_wrap (wpAny_mono h₁ (fun _ s₂ h₂=>?_) fun _ _ e=>e.elim)
  show Seg _ A R Y n s₀ _ ((execs body env >>= _).wrap _ _ _ _) fs s₂
  rw [Sem.bind_eq_wrap',Sem.wrap_wrap]
  rw [Sem.wrap_congr (execs body env) _ _ (K':=fun f=>match f with
      | .next | .cont=>.pure (.again (.forLoop target it body [] env))
      | .brk=>.pure (.done .next)
      | .ret v=>.pure (.done (.ret v))) (H':=(fun e=>(do noteFrame e env;theTreesLotGoes e:Sem Unit).wrap (fun _=>.raise e) .raise id id))
    (fun f=>by cases f <;> rfl)
    (fun e=>by first | exact Sem.bind_eq_wrap _ _ | (show (do noteFrame e env;theTreesLotGoes e:Sem Unit).bind (fun _=>.raise e) = _;rw [Sem.bind_eq_wrap]))]
  exact h₂
theorem fm {a:Addr} {g n:Nat} {gs:GenState} {P:Nat → Shared → Value → Shared → Prop} {Y:Protocol} {Q:Option Value → Shared → Prop} {E:Value → Shared → Prop}
  (hl:s.heap.NoLimit) (hroom:A.depth < recursionLimit)
  (hg:s.heap.IsGen a g) (hgs:s.gens[g]? = some gs)
  (hgo:gs.Goes (model prog w) A.in1 (fun n s₀ r s₁=>∃ e,r = .error e ∧ P n s₀ e s₁) Y n (.send .none) (s.setGen g .running))
  (hY:∀ m s₀ v s₁ kk,¬ Y m s₀ v s₁ kk)
  (hne:∀ e s₁,P n (s.setGen g .running) e s₁ → ∃ T,s₁.TypeIs e T ∧ isSubtype (.type T) (.type "StopIteration") = pure false ∧ s₁.heap.IsGen a g ∧ E e (s₁.setGen g .finished)) :
  wpAny (model prog w) A (pyNext (.ref a)) Q E s:=by
 unfold pyNext
 refine wpAny_bind (wpAny_attempt (wpAny_callSpecial?_slot (name:=Str.ofString "__next__") hg.typeIs slot_gen_next
  (wpAny_call_entry slot_gen_next hg.typeIs entry_gen_next ?_ (args_gen_next _))))
 show wpAny _ _ (Builtin.Generator.genWake (.ref a) (.send .none)) _ _ s
 unfold Builtin.Generator.genWake
 refine wpAny_bind (wpAny_holding (wpAny_genNumber hg (wpAny_bind (wpAny_genState hgs ?_))))
 cases gs with
 | running=>exact hgo.elim
 | finished=>exact hgo.elim
 | _ =>
  refine wpAny_bind (wpAny_roomToWake hl hroom ?_)
  show wpAny _ _ (.resume g (.send .none) [] _) _ _ s
  refine wpAny_resume hgs hgo (fun x s₁ hx=>?_) (fun v s₁ gs' hv=>(hY _ _ _ _ _ hv).elim)
  obtain ⟨e,rfl,hp⟩:=hx
  obtain ⟨T,hT,hsub,hg',hE⟩:=hne e s₁ hp
  obtain ⟨o,nm,qn,ho,hc,hd,hsl⟩:=hg'
  show wpAny _ _ (Builtin.Generator.genLeft (.ref a) e) _ _ _
  unfold Builtin.Generator.genLeft
  refine wpAny_bind ?_
  unfold Builtin.Generator.madeByALambda
  refine wpAny_bind (wpAny_load (s:=s₁.setGen g .finished) ho ?_)
  rw [hc,hd]
  refine wpAny_pure ?_
  refine wpAny_bind (wpAny_isInstance (s:=s₁.setGen g .finished) hT hsub ?_)
  show wpAny _ _ (Builtin.Generator.genEscaped e) _ _ _
  unfold Builtin.Generator.genEscaped
  refine wpAny_bind (wpAny_isInstance (s:=s₁.setGen g .finished) hT hsub ?_)
  show wpAny _ _ (throw e >>= _) _ _ _
  refine wpAny_bind (wpAny_throw ?_)
  refine wpAny_bind (wpAny_isInstance (s:=s₁.setGen g .finished) hT hsub ?_)
  exact wpAny_throw hE
end
end
section
noncomputable abbrev bW (g:Nat) (nm qn:PySem.Str) (t1 t2:Tok):Obj:={ cls:=.type "generator",data:=.fields #[.int g 0,.str nm t1,.str qn t2] }
theorem fV {h:Heap} {G:Addr} {g nm qn t1 t2} (e:h.get? G = some (bW g nm qn t1 t2)):h.IsGen G g:=⟨_,_,_,e,rfl,rfl,rfl⟩
noncomputable def uI (o:Obj) (m:PySem.Str → Option Value):Prop:=∃ es ep,o.data = .dict es ep ∧ StrKeys es ∧ ∀ name,nsFind es name = m name
theorem uI.at {o:Obj} {m:PySem.Str → Option Value} {h:Heap} {L:Addr} (N:uI o m) (e:h.get? L = some o):h.Ns L m:=let ⟨es,ep,a,b,c⟩:=N;⟨o,es,ep,e,a,b,c⟩
section
variable {prog:Program} {w:World} {A A₀:Around} {E:Value → Shared → Prop} {s:Shared} {K:Frag} {C L:Addr} {h₀ base:Heap} {m mg mb:PySem.Str → Option Value} {news:List (Addr × Obj)} {p:Program} {loose:List PySem.Str} {mean:ExcName → Option Value} {Q:Value → Shared → Prop}
theorem vy {R:Result → Shared → Prop} {name qual:PySem.Str} {params:Arguments} {body:List Stmt} {scope:Scope} {dV kV doc pm cdv ct oc:Value} {an od:Option Addr} {osl:Array (Option Value)} {f:Addr} {args:Args} (binds:List (PySem.Str × Value))
  (F:Fr h₀ L s.heap m) (X₀:K.In h₀) (N:News h₀ L s.heap news) (T:Top p loose mean mg mb h₀)
  (ho:K.lookup f = some ⟨oc,od,.func (fnOf name qual params body scope dV kV doc pm an cdv ct),osl⟩) (hcd:codeIn K cdv qual = true) (hroom:A.depth < recursionLimit)
  (hbind:BindsTo s (fnOf name qual params body scope dV kV doc pm an cdv ct) args binds) (hloc:∀ y ∈ binds,scope.names.lookup y.1 = some .local)
  (hco:scope.isCoroutine = false) (hgen:scope.isGenerator = true) (hk:scope.kind = .function) (hcell:∀ x ∈ scope.names,x.2 ≠ .cell)
  (h:∀ Lg G h' oL tk t1 t2,Fr h₀ L h' m → News h₀ L h' ((G,bW s.gens.size name qual t1 t2) :: (Lg,oL) :: news) → (∀ p ∈ news,p.1 < Lg) → Lg < G → L < Lg → uI oL (fun y=>binds.reverse.lookup y) →
   R (.ok (.ret (.ref G))) { s with heap:=h',gens:=s.gens.push (.fresh (.func body (envOf qual scope Lg f cdv))),toks:=tk }):codeAny (model prog w) A (.call (.ref f) args) R s:=by
 have ho':=(X₀.keeps F.keep) _ _ ho
 refine codeAny_call_generator (fd:=fnOf name qual params body scope dV kV doc pm an cdv ct) (body:=body) hroom ho' rfl hco hgen rfl (codeRec_of (X₀.keeps F.keep) hcd) (hbind _ _ _ _ ?_)
 refine wpAny_newFunctionEnv hcell hloc (fun h₁ hns hsb=>⟨(T.nolimit.keeps F.keep).fresh _ hsb,?_⟩) hk
 have keep1:∀ b o,s.heap.get? b = some o → h₁.get? b = some o:=fun b o e=>hsb.extBut b o (Nat.ne_of_lt (Heap.lt_size e)) (Heap.get?_push_of_some _ e)
 obtain ⟨oL,es,ep,hL,hd,hk1,hk2⟩:=hns
 have hL2:L < s.heap.objs.size:=F.ns.lt
 have hsz:s.heap.objs.size < h₁.objs.size:=Heap.lt_size hL
 have F1:Fr h₀ L h₁ m:=F.keeps keep1
 refine h s.heap.objs.size h₁.objs.size _ oL _ (s.toks + binds.length) (s.toks + binds.length + 1) (F1.push _) ?_ (fun p hp=>Heap.lt_size (N p hp).1) hsz hL2 ⟨es,ep,hd,hk1,hk2⟩
 intro q hq
 rcases ag hq with rfl | hq
 ·exact ⟨Heap.get?_push_size _ rfl,Nat.ne_of_gt (Nat.lt_trans hL2 hsz),next_is_new F1⟩
 rcases ag hq with rfl | hq
 ·exact ⟨Heap.get?_push_of_some _ hL,Nat.ne_of_gt hL2,next_is_new F⟩
 ·exact ⟨Heap.get?_push_of_some _ (keep1 _ _ (N q hq).1),(N q hq).2⟩
end
open PySem.Challenge in
theorem ed {w:World} {mean:ExcName → Option Value} {mg mb:PySem.Str → Option Value} {A:Around} {h₀:Heap} {L:Addr} {m:PySem.Str → Option Value} {s:Shared} {Q E:Value → Shared → Prop} {news:List (Addr × Obj)} {vd vw:Value}
  (F:Fr h₀ L s.heap m) (X:(K w.params).In h₀) (N:News h₀ L s.heap news) (T:Top (am pW) (looseW (am pW) aE) mean mg mb h₀) (hd:A.depth + 2 < recursionLimit)
  (h:∀ Lg G h' oL tk t1 t2,Fr h₀ L h' m → News h₀ L h' ((G,bW s.gens.size (Str.ofString "restore") (Str.ofString "restore") t1 t2) :: (Lg,oL) :: news) → (∀ p ∈ news,p.1 < Lg) → Lg < G → L < Lg → uI oL (fun y=>[(Str.ofString "delta",vd),(Str.ofString "which",vw)].reverse.lookup y) →
   Q (.ref G) { s with heap:=h',gens:=s.gens.push (.fresh (.func (bF (bE pW 6)) (envOf (Str.ofString "restore") (aY (bE pW 6)) Lg 253 (.ref 252)))),toks:=tk }) :
  wpAny (model rW.row.prog w) A (call (.ref 253) [vd,vw]) Q E s:=by
 refine wpAny_call ?_
 revert X;k_fill;intro X
 refine vy (K:=K w.params) [(Str.ofString "delta",vd),(Str.ofString "which",vw)] F X N T (by k_is) (by k_is) ?_ (BindsTo.of_eq rfl) (locs rfl) rfl rfl rfl ?_ ?_
 ·show A.depth < recursionLimit
  exact aA fun h9=>lN [_,_] [(1,.l V0 V1),(1,.t (.a V1 K2) V0)] (.c h9 (.c hd .n))
 ·decide
 ·exact h
end
section
noncomputable abbrev bG (dp un:Nat) (gd:Option (List Code)) (outer:List Env):Around:={ handled:=none,depth:=dp,frames:=some outer,guards:=gd,units:=un }
noncomputable abbrev aW (Lg:Addr):Env:=envX (Str.ofString "restore") (aY (bE pW 6)) Lg 253 (.ref 252) []
theorem cc {dp un gd outer Lg}:(bG dp un gd outer).over (.func (bF (bE pW 6)) (aW Lg)) [] = ktrTop (dp + 1) (un + 3) gd (Str.ofString "restore") (aY (bE pW 6)) Lg 253 (.ref 252) [] outer:=by rfl
noncomputable def cZ (h₀ h:Heap) (l:List Addr):List (Addr × Obj):=(List.range h.objs.size).filterMap fun b=>if b ∈ l ∨ (h₀.get? b).isSome = true then none else (h.get? b).map fun o=>(b,o)
theorem bA {h₀ h:Heap} {l:List Addr} {b:Addr} {o:Obj} (e:h.get? b = some o) (hl:b ∉ l) (h0:h₀.get? b = none):(b,o) ∈ cZ h₀ h l:=by
 refine List.mem_filterMap.mpr ⟨b,List.mem_range.mpr (Heap.lt_size e),?_⟩
 rw [if_neg (by rw [h0];simp [hl]),e];rfl
theorem dv {h₀ h:Heap} {l:List Addr} {L:Addr} (hL:L ∈ l):News h₀ L h (cZ h₀ h l):=by
 intro p hp
 obtain ⟨b,_,hb⟩:=List.mem_filterMap.mp hp
 by_cases hc:b ∈ l ∨ (h₀.get? b).isSome = true
 ·rw [if_pos hc] at hb;cases hb
 ·rw [if_neg hc] at hb
  cases e:h.get? b with
  | none=>rw [e] at hb;cases hb
  | some o =>
   rw [e] at hb;cases hb
   refine ⟨e,fun q=>hc (.inl (by rw [show b = L from q];exact hL)),?_⟩
   cases q:h₀.get? b with
   | none=>rfl
   | some _=>exact absurd (.inr (by rw [q];rfl)) hc
theorem gr {h₀ h:Heap} {l:List Addr}:∀ p ∈ cZ h₀ h l,p.1 ∉ l:=by
 intro p hp
 obtain ⟨b,_,hb⟩:=List.mem_filterMap.mp hp
 by_cases hc:b ∈ l ∨ (h₀.get? b).isSome = true
 ·rw [if_pos hc] at hb;cases hb
 ·rw [if_neg hc] at hb
  cases e:h.get? b with
  | none=>rw [e] at hb;cases hb
  | some o=>rw [e] at hb;cases hb;exact fun q=>hc (.inl q)
set_option backward.match.sparseCases false in
noncomputable def EA:List Stmt → Expr
 | .For t _ _ _ _ :: _=>t
 | _=>.Constant .none 0 { line:=0,col:=0,endLine:=0,endCol:=0 }
set_option backward.match.sparseCases false in
noncomputable def Eu:List Stmt → List Stmt
 | .For _ _ b _ _ :: _=>b
 | _=>[]
noncomputable abbrev dG:List Stmt:=bF (bE pW 6)
noncomputable abbrev wx:List Stmt:=dG.drop 3
noncomputable abbrev Bv:Expr:=EA wx
noncomputable abbrev Ac:List Stmt:=Eu wx
noncomputable def c7 (vw:Value) (tag:PySem.Str):Prop:=∃ t,(vw = .int 1 t ∧ tag = Str.ofString "- ") ∨ (vw = .int 2 t ∧ tag = Str.ofString "+ ") ∨ (vw = .str (Str.ofString "1") t ∧ tag = Str.ofString "- ") ∨ (vw = .str (Str.ofString "2") t ∧ tag = Str.ofString "+ ")
theorem qK {h₀ h:Heap} {L:Addr} {a b:Addr × Obj} {l:List (Addr × Obj)} (N:News h₀ L h (a :: b :: l)):News h₀ L h (a :: l):=fun p hp=>N p (by
 rcases ag hp with rfl | hp
 ·exact .head _
 ·exact al (al hp))
theorem tG {w:World} {vw:Value} {tag:PySem.Str} (hw:c7 vw tag):∃ kk:Int,(kk = 1 ∧ tag = Str.ofString "- " ∨ kk = 2 ∧ tag = Str.ofString "+ ") ∧ ∀ {h₀:Heap} (_:(K w.params).In h₀) {A:Around} {Q E:Value → Shared → Prop} {s:Shared},(∀ tk tk',Q (.int kk tk) { s with toks:=tk' }) → wpAny (model rW.row.prog w) A (call (.type "int") [vw]) Q E s:=by
 obtain ⟨t,hw⟩:=hw
 rcases hw with ⟨rfl,rfl⟩ | ⟨rfl,rfl⟩ | ⟨rfl,rfl⟩ | ⟨rfl,rfl⟩
 ·refine ⟨1,.inl ⟨rfl,rfl⟩,?_⟩
  intro h₀ X A Q E s h
  exact call_int_int (h t s.toks)
 ·refine ⟨2,.inr ⟨rfl,rfl⟩,?_⟩
  intro h₀ X A Q E s h
  exact call_int_int (h t s.toks)
 ·refine ⟨1,.inl ⟨rfl,rfl⟩,?_⟩
  k_fill
  intro h₀ X A Q E s h
  walk1
  exact h _ _
 ·refine ⟨2,.inr ⟨rfl,rfl⟩,?_⟩
  k_fill
  intro h₀ X A Q E s h
  walk1
  exact h _ _
theorem yW {w:World} {dp un:Nat} {gd:Option (List Code)} {outer:List Env} {R:GenEnd} {Y:Protocol} {n:Nat} {s₀ s:Shared} {mean:ExcName → Option Value} {mg mb:PySem.Str → Option Value} {h₀:Heap} {Lg D:Addr} {ext:List (Addr × Obj)} {vw:Value} {tag:PySem.Str} (hw:c7 vw tag)
  (F:Fr h₀ Lg s.heap (fun y=>[(Str.ofString "delta",Value.ref D),(Str.ofString "which",vw)].reverse.lookup y)) (X:(K w.params).In h₀) (N:News h₀ Lg s.heap ext) (T:Top (am pW) (looseW (am pW) aE) mean mg mb h₀)
  (hd:dp + 10 < recursionLimit) (hu:un + 200 < cLine) (off:∀ p ∈ ext,p.1 ≠ Lg)
  (hk:∀ m' h' tk' Tp ta tb,Fr h₀ Lg h' m' → m' (Str.ofString "delta") = some (.ref D) → m' (Str.ofString "prefixes") = some (.ref Tp) → News h₀ Lg h' ((Tp,bo [.str (Str.ofString "  ") ta,.str tag tb]) :: ext) → (∀ p ∈ ext,p.1 < Tp) →
   Seg (model rW.row.prog w) (bG dp un gd outer) R Y n s₀ (.func dG (aW Lg)) ((execs wx (aW Lg)).wrap (fun f=>.pure (.done (.ret (match f with | .ret v=>v | _=>.none))))
   (fun e=>(leaving (aW Lg) e).wrap (fun _=>.raise e) .raise id id) id id) [] { s with heap:=h',toks:=tk' }) :
  Seg (model rW.row.prog w) (bG dp un gd outer) R Y n s₀ (.func dG (aW Lg)) ((model rW.row.prog w).den (.func dG (aW Lg))) [] s:=by
 obtain ⟨kk,hkk,key⟩:=tG (w:=w) hw
 revert X
 k_fill
 intro X
 refine seg_func ?_
 refine dq ?_
 rw [cc]
 k_fold
 k_steps
 refine dq ?_
 rw [cc]
 k_fold
 k_steps
 refine wpAny_Try_except ?_
 k_steps
 refine key X fun t9 tk9=>?_
 rcases hkk with ⟨rfl,rfl⟩ | ⟨rfl,rfl⟩
 all_goals
  k_steps
  (try refine dq ?_)
  (try rw [cc])
  (try k_fold)
  (try k_steps)
  rename Fr _ _ _ _=>F9
  rename News _ _ _ _=>N9
  rename (_ ∧ AllLt _ _)=>l9
  exact hk _ _ _ _ _ _ F9 rfl rfl (qK N9) (mC l9.2)
end
section
noncomputable def dJ (tag x:PySem.Str):Bool:=[Str.ofString "  ",tag].any (· == Txt.slice x none (some 2))
theorem xY {w:World} {dp un:Nat} {gd:Option (List Code)} {outer:List Env} {fs:List Frame} {It:Addr} {R:GenEnd} {Y:Protocol} {n:Nat} {s₀ s:Shared} {mean:ExcName → Option Value} {mg mb:PySem.Str → Option Value} {h₀:Heap} {Lg Tp:Addr} {ext:List (Addr × Obj)} {tag x:PySem.Str} {m':PySem.Str → Option Value} {tx ta tb:Tok} {KK:Flow → Sem Fin} {H:Value → Sem Fin}
  (hov:(bG dp un gd outer).over (.forLoop Bv (.ref It) Ac [] (aW Lg)) fs = ktrTop (dp + 1) (un + 3) gd (Str.ofString "restore") (aY (bE pW 6)) Lg 253 (.ref 252) [] outer)
  (hfs:splitAtGen fs = none) (hfg:fs.any Frame.guarded = false)
  (F:Fr h₀ Lg s.heap (fun y=>if y = Str.ofString "line" then some (Value.str x tx) else m' y)) (X:(K w.params).In h₀) (N:News h₀ Lg s.heap ext) (T:Top (am pW) (looseW (am pW) aE) mean mg mb h₀)
  (hd:dp + 10 < recursionLimit) (hu:un + 200 < cLine) (hx:x.length ≤ 1000)
  (hp:m' (Str.ofString "prefixes") = some (.ref Tp)) (hT:(Tp,bo [.str (Str.ofString "  ") ta,.str tag tb]) ∈ ext)
  (hno:dJ tag x = false → ∀ h tk,Fr h₀ Lg h (fun y=>if y = Str.ofString "line" then some (Value.str x tx) else m' y) → News h₀ Lg h ext → Seg (model rW.row.prog w) (bG dp un gd outer) R Y n s₀ (.forLoop Bv (.ref It) Ac [] (aW Lg)) (KK .next) fs { s with heap:=h,toks:=tk })
  (hyes:dJ tag x = true → ∃ k,n = k + 1 ∧ ∀ h tk t,Fr h₀ Lg h (fun y=>if y = Str.ofString "line" then some (Value.str x tx) else m' y) → News h₀ Lg h ext → ∀ kap:Resume → Shared → Prop,(∀ v s'',(match v with | .ref _=>False | _=>Seg (model rW.row.prog w) (bG dp un gd outer) R Y k s'' (.forLoop Bv (.ref It) Ac [] (aW Lg)) (KK .next) fs s'') → kap (.send v) s'') → Y k s₀ (.str (Txt.slice x (some 2) none) t) { s with heap:=h,toks:=tk } kap) :
  Seg (model rW.row.prog w) (bG dp un gd outer) R Y n s₀ (.forLoop Bv (.ref It) Ac [] (aW Lg)) ((execs Ac (aW Lg)).wrap KK H id id) fs s:=by
 revert X
 k_fill
 intro X
 refine seg_execs_cons (Bh ?_)
 rw [hov]
 k_fold
 k_steps
 rename Fr _ _ _ _=>F9
 refine nameX_L F9 (v:=.ref Tp) (by show (if Str.ofString "prefixes" = Str.ofString "line" then _ else m' _) = _;rw [if_neg (by decide)];exact hp) ?_
 refine in_tuple_strs (News.isTup (by k_asm) hT) (.cons _ _ (.cons _ _ .nil)) ?_
 cases hb:dJ tag x with
 | false =>
  rw [show ([Str.ofString "  ",tag].any (· == Txt.slice x none (some 2))) = false from hb]
  k_steps
  exact hno hb _ _ (by assumption) (by assumption)
 | true =>
  rw [show ([Str.ofString "  ",tag].any (· == Txt.slice x none (some 2))) = true from hb]
  obtain ⟨k,rfl,hY⟩:=hyes hb
  k_steps
  refine seg_execs_cons (seg_Expr_Yield hfs rfl hfg ?_)
  rw [hov]
  k_fold
  k_steps
  refine hY _ _ _ (by assumption) (by assumption) _ ?_
  assumption
noncomputable def AB (h₀:Heap) (Kp:Addr → Prop) (D:Addr) (lo:Obj) (due:List PySem.Str):Protocol:=fun k s₀ v s' kap =>
 ∃ (h':Heap) (tk':Nat) (led:List (Addr × Obj)) (t:Tok) (y:PySem.Str),s' = { s₀ with heap:=h',toks:=tk' } ∧ due[due.length - 1 - k]? = some y ∧ v = .str y t ∧ (∀ b o,h₀.get? b = some o → h'.get? b = some o) ∧ (∀ b o,Kp b → s₀.heap.get? b = some o → h'.get? b = some o) ∧
  (∀ p ∈ led,¬ Kp p.1 ∧ h₀.get? p.1 = none ∧ h'.get? p.1 = some p.2) ∧
  ∀ s'',(∀ p ∈ led,s''.heap.get? p.1 = some p.2) → (∀ b o,h₀.get? b = some o → s''.heap.get? b = some o) → s''.heap.get? D = some lo → kap (.send .none) s''
noncomputable def El (h₀:Heap) (Kp:Addr → Prop) (n:Nat) (s₀ s₁:Shared):Prop:=n = 0 ∧ ∃ h' tk',s₁ = { s₀ with heap:=h',toks:=tk' } ∧ (∀ b o,h₀.get? b = some o → h'.get? b = some o) ∧ (∀ b o,Kp b → s₀.heap.get? b = some o → h'.get? b = some o)
noncomputable def CI (h₀:Heap) (Kp:Addr → Prop):GenEnd:=fun n s₀ r s₁=>r = .ok (.ret .none) ∧ El h₀ Kp n s₀ s₁
noncomputable def ao (tag:PySem.Str) (ls:List PySem.Str):List PySem.Str:=(ls.filter (dJ tag)).map fun x=>Txt.slice x (some 2) none
theorem yB {w:World} {dp un:Nat} {gd:Option (List Code)} {outer:List Env} {fs:List Frame} {It:Addr} {mean:ExcName → Option Value} {mg mb:PySem.Str → Option Value} {h₀:Heap} {Lg Tp D:Addr} {tag:PySem.Str} {ta tb:Tok} {lv:List (PySem.Str × Tok)} {nn:Nat} {Kp:Addr → Prop}
  (hov:(bG dp un gd outer).over (.forLoop Bv (.ref It) Ac [] (aW Lg)) fs = ktrTop (dp + 1) (un + 3) gd (Str.ofString "restore") (aY (bE pW 6)) Lg 253 (.ref 252) [] outer)
  (hfs:splitAtGen fs = none) (hfg:fs.any Frame.guarded = false)
  (X:(K w.params).In h₀) (T:Top (am pW) (looseW (am pW) aE) mean mg mb h₀)
  (hd:dp + 10 < recursionLimit) (hu:un + 200 < cLine) (hx:∀ p ∈ lv,p.1.length ≤ 1000)
  (hKL:¬ Kp Lg) (hKI:¬ Kp It) (hKT:¬ Kp Tp) (hIT:It ≠ Tp) (hLT:Lg ≠ Tp) (hLI:Lg ≠ It) (hDI:D ≠ It) (hDL:D ≠ Lg) (hD0:h₀.get? D = none) (hI0:h₀.get? It = none) (hT0:h₀.get? Tp = none) (hL0:h₀.get? Lg = none)
  (hend:∀ s₀ s₁,El h₀ Kp 0 s₀ s₁ → Seg (model rW.row.prog w) (bG dp un gd outer) (CI h₀ Kp) (AB h₀ Kp D (listOf (strValues lv).toArray nn) (ao tag (lv.map Prod.fst))) 0 s₀ (.block [] (aW Lg)) (.pure (.done .next)) fs s₁) :
  ∀ (k i:Nat) (n:Nat) (s₀:Shared) (h:Heap) (tk:Nat) (m':PySem.Str → Option Value) (ext:List (Addr × Obj)) (pre:List PySem.Str),lv.length - i = k → i ≤ lv.length →
   Fr h₀ Lg h m' → m' (Str.ofString "prefixes") = some (.ref Tp) → News h₀ Lg h ext → h.IsListIter It D i → (∀ p ∈ ext,p.1 ≠ It) → (Tp,bo [.str (Str.ofString "  ") ta,.str tag tb]) ∈ ext → (D,listOf (strValues lv).toArray nn) ∈ ext →
   (∀ b o,Kp b → s₀.heap.get? b = some o → h₀.get? b = none → (b,o) ∈ ext) → (∀ b o,h₀.get? b = some o → s₀.heap.get? b = some o) → ao tag (lv.map Prod.fst) = pre++ao tag ((lv.drop i).map Prod.fst) → n = (ao tag ((lv.drop i).map Prod.fst)).length →
   Seg (model rW.row.prog w) (bG dp un gd outer) (CI h₀ Kp) (AB h₀ Kp D (listOf (strValues lv).toArray nn) (ao tag (lv.map Prod.fst))) n s₀ (.forLoop Bv (.ref It) Ac [] (aW Lg)) ((model rW.row.prog w).den (.forLoop Bv (.ref It) Ac [] (aW Lg))) fs { s₀ with heap:=h,toks:=tk }:=by
 have keepOf:∀ {ext:List (Addr × Obj)} {s₀:Shared} {h:Heap} {m'},Fr h₀ Lg h m' → News h₀ Lg h ext → (∀ b o,Kp b → s₀.heap.get? b = some o → h₀.get? b = none → (b,o) ∈ ext) → (∀ b o,h₀.get? b = some o → s₀.heap.get? b = some o) → ∀ b o,Kp b → s₀.heap.get? b = some o → h.get? b = some o:=by
  intro ext s₀ h m' F N hk h0s b o hb e
  cases e0:h₀.get? b with
  | some o'=>rw [h0s _ _ e0] at e;cases e;exact F.keep _ _ e0
  | none=>exact (N _ (hk _ _ hb e e0)).1
 intro k
 induction k with
 | zero =>
  intro i n s₀ h tk m' ext pre hk hi F hp N hI hoff hT hD hkp hs0 hdue hn
  have hil:i = lv.length:=by exact aN (fun h9=>lN [_,_,_] [(1,.t V0 V1),(1,.e (.a V2 V1) V0)] (.c h9 (.c (Nat.sub_add_cancel (ae fun h9=>lN [_,_,0] [(1,.t V0 V1),(1,.l V1 V0)] (.c h9 (.c hi .n)))) .n))) (fun h9=>lN [_,_,_] [(1,.t V0 V1),(1,.e V2 K0),(-1,.e (.a V2 V0) V1)] (.c h9 (.c hk (.c (Nat.sub_add_cancel (ae fun h9=>lN [_,_,0] [(1,.t V0 V1),(1,.l V1 V0)] (.c h9 (.c hi .n)))) .n))))
  have hn0:n = 0:=by rw [hn,hil,List.drop_length];rfl
  subst hn0
  refine fJ (fun v=>rfl) ?_
  rw [hov]
  refine wpAny_pyNext_list_end rfl hI (News.isList N hD) (by rw [hil];simp [strValues]) (fun h' he=>?_)
  refine hend s₀ _ ⟨rfl,h',tk,rfl,fun b o e=>he b o (fun q=>?_) (F.keep b o e),fun b o hb e=>he b o (fun q=>?_) (keepOf F N hkp hs0 b o hb e)⟩
  ·rw [q,hI0] at e;cases e
  ·exact hKI (q ▸ hb)
 | succ k ih =>
  intro i n s₀ h tk m' ext pre hk hi F hp N hI hoff hT hD hkp hs0 hdue hn
  have hlt:i < lv.length:=by exact aA fun h9=>lN [_,_,_,_] [(1,.l V0 V1),(-1,.e V2 (.a V3 K1)),(1,.e (.a V2 V1) V0)] (.c h9 (.c hk (.c (Nat.sub_add_cancel (ae fun h9=>lN [_,_,0,0] [(1,.t V0 V1),(1,.l V1 V0)] (.c h9 (.c hi .n)))) .n)))
  obtain ⟨x,tx,hxe⟩:∃ x tx,lv[i] = (x,tx):=⟨_,_,rfl⟩
  have hdrop:lv.drop i = (x,tx) :: lv.drop (i + 1):=by rw [← hxe];exact List.drop_eq_getElem_cons hlt
  have hxl:x.length ≤ 1000:=by have:=hx _ (List.getElem_mem hlt);rw [hxe] at this;exact this
  have hv:(strValues lv).toArray[i]? = some (.str x tx):=by
   rw [List.getElem?_toArray];unfold strValues;rw [List.getElem?_map,List.getElem?_eq_getElem hlt,hxe];rfl
  refine fJ (fun v=>rfl) ?_
  rw [hov]
  refine wpAny_pyNext_list_item hI (News.isList N hD) hv (fun h' hI' hs=>?_)
  have F':Fr h₀ Lg h' m':=kas_fr F hs hLI.symm hI0
  obtain ⟨oI,hoI,hIc,hId⟩:=hI'
  have N':News h₀ Lg h' ((It,oI) :: ext):=by
   intro p hp
   rcases ag hp with rfl | hp
   ·exact ⟨hoI,hLI.symm,hI0⟩
   ·exact kas_news N hs hoff p hp
  show wpAny _ _ (assign (Expr.Name (Str.ofString "line") _) _ _) _ _ _
  refine PyProof.Rows.assign_Name ?_
  refine storeX_L F' N' (fun h2 F2 N2=>?_)
  have hpm:(fun y=>if y = Str.ofString "line" then some (Value.str x tx) else m' y) (Str.ofString "prefixes") = some (.ref Tp):=by
   show (if Str.ofString "prefixes" = Str.ofString "line" then _ else m' _) = _
   rw [if_neg (by decide)];exact hp
  refine xY hov hfs hfg F2 X N2 T hd hu hxl hp (.tail _ hT) (fun hb h3 tk3 F3 N3=>?_) (fun hb=>?_)
  ·refine seg_again rfl ?_
   refine ih (i + 1) n s₀ h3 tk3 _ ext pre (by exact aN (fun h9=>lN [_,_,_,_,_] [(1,.t V0 V1),(1,.e V2 (.a V0 K1)),(-1,.e (.a V2 V3) V4),(1,.e (.a V1 (.a V3 K1)) V4)] (.c h9 (.c hk (.c (Nat.sub_add_cancel (ae fun h9=>lN [_,_,0,0] [(1,.t V0 V1),(1,.t V1 V0)] (.c h9 (.c hlt .n)))) (.c (Nat.sub_add_cancel (ae fun h9=>lN [_,_,0,0] [(1,.t V0 (.a V1 K1)),(1,.t V1 V0)] (.c h9 (.c hlt .n)))) .n))))) (fun h9=>lN [_,_,_,_,_] [(1,.t V0 V1),(-1,.e V2 (.a V1 K1)),(1,.e (.a V2 V3) V4),(-1,.e (.a V0 (.a V3 K1)) V4)] (.c h9 (.c hk (.c (Nat.sub_add_cancel (ae fun h9=>lN [_,_,0,0] [(1,.t V0 V1),(1,.t V1 V0)] (.c h9 (.c hlt .n)))) (.c (Nat.sub_add_cancel (ae fun h9=>lN [_,_,0,0] [(1,.t V0 (.a V1 K1)),(1,.t V1 V0)] (.c h9 (.c hlt .n)))) .n)))))) hlt F3 hpm (fun p hp=>N3 p (.tail _ hp)) ⟨oI,(N3 _ (.head _)).1,hIc,hId⟩ hoff hT hD hkp hs0 ?_ ?_
   ·rw [hdue,hdrop];simp [ao,hb]
   ·rw [hn,hdrop];simp [ao,hb]
  ·refine ⟨(ao tag ((lv.drop (i + 1)).map Prod.fst)).length,?_,fun h3 tk3 t3 F3 N3 kap hkap=>?_⟩
   ·rw [hn,hdrop];simp [ao,hb]
   ·obtain ⟨oL,es,ep,hL,hLd,hL1,hL2⟩:=id F3.ns
    have hdue':ao tag (lv.map Prod.fst) = (pre++[Txt.slice x (some 2) none])++ao tag ((lv.drop (i + 1)).map Prod.fst):=by
     rw [hdue,hdrop];simp [ao,hb]
    refine ⟨h3,tk3,[(Lg,oL),(It,oI),(Tp,bo [.str (Str.ofString "  ") ta,.str tag tb])],t3,Txt.slice x (some 2) none,rfl,?_,rfl,F3.keep,keepOf F3 N3 (fun b o hb e e0=>.tail _ (hkp b o hb e e0)) hs0,?_,fun s'' hl h0 hD''=>hkap .none s'' ?_⟩
    ·rw [hdue']
     simp only [List.length_append,List.length_cons,List.length_nil]
     rw [List.getElem?_append_left (by simp),List.getElem?_append_right (by exact ae fun h9=>lN [_,_,_,_] [(1,.t V0 V1),(-1,.e (.a V2 K1) (.a (.a V1 (.a K0 K1)) V3)),(-1,.e (.a V0 V3) V2)] (.c h9 (.c (Nat.sub_add_cancel (ae fun h9=>lN [_,_] [(1,.t (.a (.a V0 (.a K0 K1)) V1) K1)] (.c h9 .n))) (.c (Nat.sub_add_cancel (ae fun h9=>lN [_,_,_] [(1,.t V0 V1),(-1,.e (.a V0 K1) (.a (.a V2 (.a K0 K1)) V1))] (.c h9 (.c (Nat.sub_add_cancel (ae fun h9=>lN [_,_] [(1,.t (.a (.a V0 (.a K0 K1)) V1) K1)] (.c h9 .n))) .n)))) .n))))]
     rw [show pre.length + (0 + 1) + (ao tag ((lv.drop (i + 1)).map Prod.fst)).length - 1 - (ao tag ((lv.drop (i + 1)).map Prod.fst)).length - pre.length = 0 by exact aN (fun h9=>lN [_,_,_,_,_] [(1,.t K0 V0),(1,.e (.a V1 K1) (.a (.a V2 (.a K0 K1)) V3)),(1,.e (.a V4 V3) V1),(1,.e (.a V0 V2) V4)] (.c h9 (.c (Nat.sub_add_cancel (ae fun h9=>lN [_,_] [(1,.t (.a (.a V0 (.a K0 K1)) V1) K1)] (.c h9 .n))) (.c (Nat.sub_add_cancel (ae fun h9=>lN [_,_,_] [(1,.t V0 V1),(-1,.e (.a V0 K1) (.a (.a V2 (.a K0 K1)) V1))] (.c h9 (.c (Nat.sub_add_cancel (ae fun h9=>lN [_,_] [(1,.t (.a (.a V0 (.a K0 K1)) V1) K1)] (.c h9 .n))) .n)))) (.c (Nat.sub_add_cancel (ae fun h9=>lN [_,_,_,_] [(1,.t V0 V1),(-1,.e (.a V2 K1) (.a (.a V1 (.a K0 K1)) V3)),(-1,.e (.a V0 V3) V2)] (.c h9 (.c (Nat.sub_add_cancel (ae fun h9=>lN [_,_] [(1,.t (.a (.a V0 (.a K0 K1)) V1) K1)] (.c h9 .n))) (.c (Nat.sub_add_cancel (ae fun h9=>lN [_,_,_] [(1,.t V0 V1),(-1,.e (.a V0 K1) (.a (.a V2 (.a K0 K1)) V1))] (.c h9 (.c (Nat.sub_add_cancel (ae fun h9=>lN [_,_] [(1,.t (.a (.a V0 (.a K0 K1)) V1) K1)] (.c h9 .n))) .n)))) .n))))) .n))))) (fun h9=>lN [_,0,0,0,0] [(1,.t V0 K0)] (.c h9 .n))]
     rfl
    ·intro p hp
     rcases ag hp with rfl | hp
     ·exact ⟨hKL,hL0,hL⟩
     rcases ag hp with rfl | hp
     ·exact ⟨hKI,hI0,(N3 _ (.head _)).1⟩
     rcases ag hp with rfl | hp
     ·exact ⟨hKT,hT0,(N3 _ (.tail _ hT)).1⟩
     ·cases hp
    ·show Seg _ _ _ _ _ s'' _ _ fs s''
     refine seg_again rfl ?_
     have g1:=hl _ (.head _)
     have g2:=hl _ (.tail _ (.head _))
     have g3:=hl _ (.tail _ (.tail _ (.head _)))
     exact ih (i + 1) _ s'' s''.heap s''.toks _ (cZ h₀ s''.heap [Lg,It]) _ (by exact aN (fun h9=>lN [_,_,_,_,_] [(1,.t V0 V1),(1,.e V2 (.a V0 K1)),(-1,.e (.a V2 V3) V4),(1,.e (.a V1 (.a V3 K1)) V4)] (.c h9 (.c hk (.c (Nat.sub_add_cancel (ae fun h9=>lN [_,_,0,0] [(1,.t V0 V1),(1,.t V1 V0)] (.c h9 (.c hlt .n)))) (.c (Nat.sub_add_cancel (ae fun h9=>lN [_,_,0,0] [(1,.t V0 (.a V1 K1)),(1,.t V1 V0)] (.c h9 (.c hlt .n)))) .n))))) (fun h9=>lN [_,_,_,_,_] [(1,.t V0 V1),(-1,.e V2 (.a V1 K1)),(1,.e (.a V2 V3) V4),(-1,.e (.a V0 (.a V3 K1)) V4)] (.c h9 (.c hk (.c (Nat.sub_add_cancel (ae fun h9=>lN [_,_,0,0] [(1,.t V0 V1),(1,.t V1 V0)] (.c h9 (.c hlt .n)))) (.c (Nat.sub_add_cancel (ae fun h9=>lN [_,_,0,0] [(1,.t V0 (.a V1 K1)),(1,.t V1 V0)] (.c h9 (.c hlt .n)))) .n)))))) hlt ⟨⟨oL,es,ep,g1,hLd,hL1,hL2⟩,h0,F.above⟩ hpm (dv (by simp)) ⟨oI,g2,hIc,hId⟩
      (fun p hp q=>gr p hp (by rw [q];simp)) (bA g3 (by simp [hLT.symm,hIT.symm]) hT0) (bA hD'' (by simp [hDI,hDL]) hD0)
      (fun b o hb e e0=>bA e (by intro q;rcases ag q with q | q;exact hKL (q ▸ hb);rcases ag q with q | q;exact hKI (q ▸ hb);cases q) e0) h0 hdue' rfl
end
section
noncomputable abbrev e8 (Lg:Addr):Code:=.func dG (aW Lg)
theorem sm {w:World} {dp un:Nat} {gd:Option (List Code)} {outer:List Env} {mean:ExcName → Option Value} {mg mb:PySem.Str → Option Value} {h₀:Heap} {Lg D:Addr} {vw:Value} {tag:PySem.Str} {lv:List (PySem.Str × Tok)} {nn:Nat} {s:Shared} {oL:Obj}
  (hw:c7 vw tag) (X:(K w.params).In h₀) (T:Top (am pW) (looseW (am pW) aE) mean mg mb h₀)
  (hd:dp + 10 < recursionLimit) (hu:un + 200 < cLine) (hx:∀ p ∈ lv,p.1.length ≤ 1000) (hst:∀ b o,h₀.get? b = some o → s.heap.get? b = some o) (hL:s.heap.get? Lg = some oL) (hN:uI oL (fun y=>[(Str.ofString "delta",Value.ref D),(Str.ofString "which",vw)].reverse.lookup y))
  (hab:h₀.objs.size ≤ Lg) (hD:s.heap.get? D = some (listOf (strValues lv).toArray nn)) (hDL:D ≠ Lg) (hD0:h₀.get? D = none) :
  (GenState.fresh (e8 Lg)).Goes (model rW.row.prog w) (bG dp un gd outer) (CI h₀ fun b=>b ≠ Lg ∧ (s.heap.get? b).isSome = true) (AB h₀ (fun b=>b ≠ Lg ∧ (s.heap.get? b).isSome = true) D (listOf (strValues lv).toArray nn) (ao tag (lv.map Prod.fst))) (ao tag (lv.map Prod.fst)).length (.send .none) s:=by
 have hL0:h₀.get? Lg = none:=by
  cases e:h₀.get? Lg with
  | none=>rfl
  | some o=>exact absurd (Heap.lt_size e) (Nat.not_lt_of_le hab)
 refine ⟨rfl,?_⟩
 have F:Fr h₀ Lg s.heap (fun y=>[(Str.ofString "delta",Value.ref D),(Str.ofString "which",vw)].reverse.lookup y):=⟨hN.at hL,hst,hab⟩
 refine yW hw F X (dv (l:=[Lg]) (by simp)) T hd hu (fun p hp q=>gr p hp (by rw [q];simp)) (fun m' h' tk' Tp ta tb F' hdl hpr N' hlt=>?_)
 have hDm:(D,listOf (strValues lv).toArray nn) ∈ cZ h₀ s.heap [Lg]:=bA hD (by simpa using hDL) hD0
 have hold:∀ b o,s.heap.get? b = some o → b ≠ Lg → h'.get? b = some o:=by
  intro b o e hb
  cases e0:h₀.get? b with
  | some o'=>rw [hst _ _ e0] at e;cases e;exact F'.keep _ _ e0
  | none=>exact (N' _ (.tail _ (bA e (by simpa using hb) e0))).1
 have hTp:=N' _ (.head _)
 dsimp only at hTp
 have hTs:s.heap.get? Tp = none:=by
  cases e:s.heap.get? Tp with
  | none=>rfl
  | some o=>exact absurd (hlt _ (bA e (by simpa using hTp.2.1) hTp.2.2)) (Nat.lt_irrefl _)
 refine seg_execs_cons (yt ?_ (fun x=>rfl))
 rw [cc]
 refine nameX_L F' hdl ?_
 refine wpAny_pyIter_list (News.isList N' (.tail _ hDm)) ?_
 intro p
 have hIs:s.heap.get? h'.objs.size = none:=by
  cases e:s.heap.get? h'.objs.size with
  | none=>rfl
  | some o =>
   by_cases q:h'.objs.size = Lg
   ·exact absurd F'.ns.lt (by rw [q];exact Nat.lt_irrefl _)
   ·exact absurd (Heap.lt_size (hold _ _ e q)) (Nat.lt_irrefl _)
 have F2:=F'.push { cls:=.type "list_iterator",data:=.fields #[.ref D,.int 0 0] }
 have N2:News h₀ Lg (h'.push { cls:=.type "list_iterator",data:=.fields #[.ref D,.int 0 0] }) _:=N'.grown fun b o e=>Heap.get?_push_of_some _ e
 have hDlt:D < h'.objs.size:=Heap.lt_size (N' _ (.tail _ hDm)).1
 exact yB (Kp:=fun b=>b ≠ Lg ∧ (s.heap.get? b).isSome = true) (It:=h'.objs.size) (Tp:=Tp) (ta:=ta) (tb:=tb) rfl rfl rfl X T hd hu hx (fun q=>q.1 rfl) (fun q=>by rw [hIs] at q;exact Bool.noConfusion q.2) (fun q=>by rw [hTs] at q;exact Bool.noConfusion q.2)
  (Nat.ne_of_gt (Heap.lt_size hTp.1)) (Ne.symm hTp.2.1) (Nat.ne_of_lt F'.ns.lt) (Nat.ne_of_lt hDlt) hDL hD0 (next_is_new F') hTp.2.2 hL0
  (fun s₀ s₁ hP=>seg_leaf (.ok .next) (seg_end (.ok (.ret .none)) ⟨rfl,hP⟩))
  lv.length 0 _ s _ _ m' _ [] rfl (Nat.zero_le _) F2 hpr N2 ⟨_,Heap.get?_push_size _ rfl,rfl,rfl⟩
  (fun q hq=>Nat.ne_of_lt (Heap.lt_size (N' q hq).1)) (.head _) (.tail _ hDm) (fun b o hb e e0=>.tail _ (bA e (by simpa using hb.1) e0)) hst rfl rfl
end
section
theorem r7:Ef "generator" := ⟨PySem.F.gen_no_len,PySem.F.gen_no_hint,by decide,by decide⟩
theorem gq {gs:Array GenState} {x y:GenState}:(gs.push x).setIfInBounds gs.size y = gs.push y:=by
 apply Array.ext';simp
inductive CE (M:Model) (A:Around) (h₀:Heap) (L S G D:Addr) (lo:Obj) (due:List PySem.Str) (gens:Array GenState) (rest:List (Addr × Obj)) (j:Nat) (g:Array GenState) (nx:List (Addr × Obj)):Prop
 | mk (Kp:Addr → Prop) (led:List (Addr × Obj)) (gs:GenState):nx = led++rest → g = gens.push gs → Kp S → Kp L → (∀ p ∈ rest,Kp p.1) → (∀ p ∈ led,¬ Kp p.1 ∧ h₀.get? p.1 = none) →
  (∀ s'':Shared,(∀ p ∈ led,s''.heap.get? p.1 = some p.2) → (∀ b o,h₀.get? b = some o → s''.heap.get? b = some o) → s''.heap.get? D = some lo → gs.Goes M A (CI h₀ Kp) (AB h₀ Kp D lo due) (due.length - j) (.send .none) s'') → CE M A h₀ L S G D lo due gens rest j g nx
theorem lM {Kp:Addr → Prop} {led:List (Addr × Obj)} {gs:GenState} {w:World} {A:Around} {h₀:Heap} {L S G D:Addr} {lo:Obj} {due:List PySem.Str} {gens:Array GenState} {rest:List (Addr × Obj)} {j:Nat} {nx:List (Addr × Obj)} {m:PySem.Str → Option Value} {s:Shared} {E:Value → Shared → Prop} {n1 n2:PySem.Str} {t1 t2:Tok} {oS:Obj} {Q:Option Value → Shared → Prop}
  (hh:A.handled = none) (hroom:A.depth < recursionLimit) (hlim:h₀.NoLimit) (hj:j < due.length) (hG:(G,bW gens.size n1 n2 t1 t2) ∈ rest) (hD:(D,lo) ∈ rest)
  (hnx:nx = led++rest) (hg:s.gens = gens.push gs) (hS:Kp S) (hL:Kp L) (hr:∀ p ∈ rest,Kp p.1) (hgo:gs.Goes (model rW.row.prog w) A.in1 (CI h₀ Kp) (AB h₀ Kp D lo due) (due.length - j) (.send .none) (s.setGen gens.size .running)) (F:Fr h₀ L s.heap m) (N:News h₀ L s.heap ((S,oS) :: nx))
  (hQ:∀ y t h' g' tk' nx',due[j]? = some y → Fr h₀ L h' m → News h₀ L h' ((S,oS) :: nx') → (∀ p ∈ nx',p.1 ≠ S ∨ p ∈ rest) → CE (model rW.row.prog w) A.in1 h₀ L S G D lo due gens rest (j + 1) g' nx' → Q (some (.str y t)) { s with heap:=h',gens:=g',toks:=tk' }) :
  wpAny (model rW.row.prog w) A (pyNext (.ref G)) Q E s:=by
 subst hnx
 obtain ⟨k,hk⟩:∃ k,due.length - j = k + 1:=⟨due.length - j - 1,(Nat.sub_add_cancel (Nat.sub_pos_of_lt (by assumption))).symm⟩
 have NG:=N _ (.tail _ (ac hG))
 refine wpAny_pyNext_gen (n:=due.length - j) (P:=El h₀ Kp) (Y:=AB h₀ Kp D lo due) hh (hlim.keeps F.keep) hroom (fV NG.1) (by rw [hg];exact Array.getElem?_push_size ..) ?_ ?_ ?_
 ·exact hgo
 ·rintro v s₁ gs' ⟨h',tk',led',t,y,rfl,hy,rfl,hk1,hk2,hl',hgo'⟩
  rw [hk] at hy
  have hyj:due[j]? = some y:=by rw [show j = due.length - 1 - (k + 1 - 1) by exact aN (fun h9=>lN [_,_,_,_,_,_,_] [(1,.t V0 V1),(-1,.e V3 (.a V4 K1)),(1,.e (.a V3 V1) V2),(1,.e (.a V5 K1) (.a V4 K1)),(-1,.e (.a V6 K1) V2),(-1,.e (.a V0 V5) V6)] (.c h9 (.c hk (.c (Nat.sub_add_cancel (ae fun h9=>lN [_,_,0,0] [(1,.t V0 V1),(1,.t V1 V0)] (.c h9 (.c hj .n)))) (.c (Nat.sub_add_cancel (ae fun h9=>lN [_,0,0,0] [(1,.t (.a V0 K1) K1)] (.c h9 .n))) (.c (Nat.sub_add_cancel (ae fun h9=>lN [_,_,_,_,0] [(1,.t V0 K1),(-1,.e V2 (.a V3 K1)),(1,.e (.a V2 V1) V0)] (.c h9 (.c hk (.c (Nat.sub_add_cancel (ae fun h9=>lN [_,_,0,0] [(1,.t V0 V1),(1,.t V1 V0)] (.c h9 (.c hj .n)))) .n))))) (.c (Nat.sub_add_cancel (ae fun h9=>lN [_,_,_,_,_,_] [(1,.t V0 V1),(-1,.e V4 (.a V5 K1)),(1,.e (.a V4 V2) V3),(1,.e (.a V1 K1) (.a V5 K1)),(-1,.e (.a V0 K1) V3)] (.c h9 (.c hk (.c (Nat.sub_add_cancel (ae fun h9=>lN [_,_,0,0] [(1,.t V0 V1),(1,.t V1 V0)] (.c h9 (.c hj .n)))) (.c (Nat.sub_add_cancel (ae fun h9=>lN [_,0,0,0] [(1,.t (.a V0 K1) K1)] (.c h9 .n))) (.c (Nat.sub_add_cancel (ae fun h9=>lN [_,_,_,_,0] [(1,.t V0 K1),(-1,.e V2 (.a V3 K1)),(1,.e (.a V2 V1) V0)] (.c h9 (.c hk (.c (Nat.sub_add_cancel (ae fun h9=>lN [_,_,0,0] [(1,.t V0 V1),(1,.t V1 V0)] (.c h9 (.c hj .n)))) .n))))) .n))))))) .n))))))) (fun h9=>lN [_,_,_,_,_,_,_] [(1,.t V0 V1),(1,.e V3 (.a V4 K1)),(-1,.e (.a V3 V0) V2),(-1,.e (.a V5 K1) (.a V4 K1)),(1,.e (.a V6 K1) V2),(1,.e (.a V1 V5) V6)] (.c h9 (.c hk (.c (Nat.sub_add_cancel (ae fun h9=>lN [_,_,0,0] [(1,.t V0 V1),(1,.t V1 V0)] (.c h9 (.c hj .n)))) (.c (Nat.sub_add_cancel (ae fun h9=>lN [_,0,0,0] [(1,.t (.a V0 K1) K1)] (.c h9 .n))) (.c (Nat.sub_add_cancel (ae fun h9=>lN [_,_,_,_,0] [(1,.t V0 K1),(-1,.e V2 (.a V3 K1)),(1,.e (.a V2 V1) V0)] (.c h9 (.c hk (.c (Nat.sub_add_cancel (ae fun h9=>lN [_,_,0,0] [(1,.t V0 V1),(1,.t V1 V0)] (.c h9 (.c hj .n)))) .n))))) (.c (Nat.sub_add_cancel (ae fun h9=>lN [_,_,_,_,_,_] [(1,.t V0 V1),(-1,.e V4 (.a V5 K1)),(1,.e (.a V4 V2) V3),(1,.e (.a V1 K1) (.a V5 K1)),(-1,.e (.a V0 K1) V3)] (.c h9 (.c hk (.c (Nat.sub_add_cancel (ae fun h9=>lN [_,_,0,0] [(1,.t V0 V1),(1,.t V1 V0)] (.c h9 (.c hj .n)))) (.c (Nat.sub_add_cancel (ae fun h9=>lN [_,0,0,0] [(1,.t (.a V0 K1) K1)] (.c h9 .n))) (.c (Nat.sub_add_cancel (ae fun h9=>lN [_,_,_,_,0] [(1,.t V0 K1),(-1,.e V2 (.a V3 K1)),(1,.e (.a V2 V1) V0)] (.c h9 (.c hk (.c (Nat.sub_add_cancel (ae fun h9=>lN [_,_,0,0] [(1,.t V0 V1),(1,.t V1 V0)] (.c h9 (.c hj .n)))) .n))))) .n))))))) .n)))))))];exact hy
  have e:({ (s.setGen gens.size .running) with heap:=h',toks:=tk' }:Shared).setGen gens.size gs' = { s with heap:=h',gens:=gens.push gs',toks:=tk' }:=by
   simp only [Shared.setGen,hg,gq]
  rw [e]
  have F':Fr h₀ L h' m:=by
   obtain ⟨oL,es,ep,a1,a2,a3,a4⟩:=F.ns
   exact ⟨⟨oL,es,ep,hk2 L oL hL a1,a2,a3,a4⟩,hk1,F.above⟩
  refine hQ y t h' (gens.push gs') tk' (led'++rest) hyj F' ?_ ?_ ⟨Kp,led',gs',rfl,rfl,hS,hL,hr,fun p hp=>⟨(hl' p hp).1,(hl' p hp).2.1⟩,?_⟩
  ·intro p hp
   rcases ag hp with rfl | hp
   ·exact ⟨hk2 _ _ hS (N _ (.head _)).1,(N _ (.head _)).2⟩
   rcases aH hp with hp | hp
   ·exact ⟨(hl' p hp).2.2,fun q=>(hl' p hp).1 (q ▸ hL),(hl' p hp).2.1⟩
   ·exact ⟨hk2 _ _ (hr p hp) (N _ (.tail _ (ac hp))).1,(N _ (.tail _ (ac hp))).2⟩
  ·intro p hp
   rcases aH hp with hp | hp
   ·exact .inl fun q=>(hl' p hp).1 (q ▸ hS)
   ·exact .inr hp
  ·intro s'' a1 a2 a3
   have:=hgo' s'' a1 a2 a3
   rw [hk] at this
   rw [show due.length - (j + 1) = k by exact aN (fun h9=>lN [_,_,_,_,_] [(1,.t V0 V1),(1,.e V4 (.a V0 K1)),(-1,.e (.a V4 V2) V3),(1,.e (.a V1 (.a V2 K1)) V3)] (.c h9 (.c hk (.c (Nat.sub_add_cancel (ae fun h9=>lN [_,_,0,0] [(1,.t V0 V1),(1,.t V1 V0)] (.c h9 (.c hj .n)))) (.c (Nat.sub_add_cancel (ae fun h9=>lN [_,_,_,_] [(1,.t V0 (.a V1 K1)),(-1,.e V2 (.a V3 K1)),(1,.e (.a V2 V1) V0)] (.c h9 (.c hk (.c (Nat.sub_add_cancel (ae fun h9=>lN [_,_,0,0] [(1,.t V0 V1),(1,.t V1 V0)] (.c h9 (.c hj .n)))) .n))))) .n))))) (fun h9=>lN [_,_,_,_,_] [(1,.t V0 V1),(-1,.e V4 (.a V1 K1)),(1,.e (.a V4 V2) V3),(-1,.e (.a V0 (.a V2 K1)) V3)] (.c h9 (.c hk (.c (Nat.sub_add_cancel (ae fun h9=>lN [_,_,0,0] [(1,.t V0 V1),(1,.t V1 V0)] (.c h9 (.c hj .n)))) (.c (Nat.sub_add_cancel (ae fun h9=>lN [_,_,_,_] [(1,.t V0 (.a V1 K1)),(-1,.e V2 (.a V3 K1)),(1,.e (.a V2 V1) V0)] (.c h9 (.c hk (.c (Nat.sub_add_cancel (ae fun h9=>lN [_,_,0,0] [(1,.t V0 V1),(1,.t V1 V0)] (.c h9 (.c hj .n)))) .n))))) .n)))))]
   exact this
 ·rintro s₁ ⟨h0,_⟩
  exact (lN [_,_,0] [(-1,.e V0 (.a V1 K1)),(1,.e V0 K0)] (.c hk (.c h0 .n))).elim
theorem lS {Kp:Addr → Prop} {led:List (Addr × Obj)} {gs:GenState} {w:World} {A:Around} {h₀:Heap} {L S G D:Addr} {lo:Obj} {due:List PySem.Str} {gens:Array GenState} {rest:List (Addr × Obj)} {j:Nat} {nx:List (Addr × Obj)} {m:PySem.Str → Option Value} {s:Shared} {E:Value → Shared → Prop} {n1 n2:PySem.Str} {t1 t2:Tok} {oS:Obj} {Q:Option Value → Shared → Prop}
  (hh:A.handled = none) (hroom:A.depth < recursionLimit) (hlim:h₀.NoLimit) (hj:j = due.length) (hG:(G,bW gens.size n1 n2 t1 t2) ∈ rest) (hD:(D,lo) ∈ rest)
  (hnx:nx = led++rest) (hg:s.gens = gens.push gs) (hS:Kp S) (hL:Kp L) (hr:∀ p ∈ rest,Kp p.1) (hgo:gs.Goes (model rW.row.prog w) A.in1 (CI h₀ Kp) (AB h₀ Kp D lo due) (due.length - j) (.send .none) (s.setGen gens.size .running)) (F:Fr h₀ L s.heap m) (N:News h₀ L s.heap ((S,oS) :: nx))
  (hQ:∀ h' tk',Fr h₀ L h' m → News h₀ L h' ((S,oS) :: rest) → Q none { s with heap:=h',gens:=gens.push .finished,toks:=tk' }) :
  wpAny (model rW.row.prog w) A (pyNext (.ref G)) Q E s:=by
 subst hnx
 have hk:due.length - j = 0:=by exact aN (fun h9=>lN [_,_,_] [(1,.t K0 V0),(-1,.e V1 V2),(1,.e (.a V0 V1) V2)] (.c h9 (.c hj (.c (Nat.sub_add_cancel (ae fun h9=>lN [_,_] [(1,.t V0 V1),(1,.e V1 V0)] (.c h9 (.c hj .n)))) .n)))) (fun h9=>lN [_,0,0] [(1,.t V0 K0)] (.c h9 .n))
 have NG:=N _ (.tail _ (ac hG))
 refine wpAny_pyNext_gen (n:=due.length - j) (P:=El h₀ Kp) (Y:=AB h₀ Kp D lo due) hh (hlim.keeps F.keep) hroom (fV NG.1) (by rw [hg];exact Array.getElem?_push_size ..) ?_ ?_ ?_
 ·exact hgo
 ·rintro v s₁ gs' ⟨h',tk',led',t,y,rfl,hy,rfl,hk1,hk2,hl',hgo'⟩
  exact False.elim (by
   have:=hgo' { (s.setGen gens.size .running) with heap:=h',toks:=tk' } (fun p hp=>(hl' p hp).2.2) hk1 (hk2 _ _ (hr _ hD) (N _ (.tail _ (ac hD))).1)
   rw [hk] at this
   exact this)
 ·rintro s₁ ⟨_,h',tk',rfl,hk1,hk2⟩ h2 hk3
  have e:({ (({ (s.setGen gens.size .running) with heap:=h',toks:=tk' }:Shared).setGen gens.size .finished) with heap:=h2 }:Shared) = { s with heap:=h2,gens:=gens.push .finished,toks:=tk' }:=by
   simp only [Shared.setGen,hg,gq]
  rw [e]
  refine hQ h2 tk' ?_ ?_
  ·obtain ⟨oL,es,ep,a1,a2,a3,a4⟩:=F.ns
   exact ⟨⟨oL,es,ep,hk3 _ _ (hk2 L oL hL a1),a2,a3,a4⟩,fun b o e=>hk3 _ _ (hk1 b o e),F.above⟩
  ·intro p hp
   rcases ag hp with rfl | hp
   ·exact ⟨hk3 _ _ (hk2 _ _ hS (N _ (.head _)).1),(N _ (.head _)).2⟩
   ·exact ⟨hk3 _ _ (hk2 _ _ (hr p hp) (N _ (.tail _ (ac hp))).1),(N _ (.tail _ (ac hp))).2⟩
theorem yX {w:World} {A:Around} {h₀:Heap} {L S G D:Addr} {lo:Obj} {due:List PySem.Str} {gens:Array GenState} {rest:List (Addr × Obj)} {j:Nat} {nx:List (Addr × Obj)} {m:PySem.Str → Option Value} {s:Shared} {E:Value → Shared → Prop} {n1 n2:PySem.Str} {t1 t2:Tok} {oS:Obj} {Q:Option Value → Shared → Prop}
  (hh:A.handled = none) (hroom:A.depth < recursionLimit) (hlim:h₀.NoLimit) (hj:j < due.length) (hG:(G,bW gens.size n1 n2 t1 t2) ∈ rest) (hD:(D,lo) ∈ rest)
  (J:CE (model rW.row.prog w) A.in1 h₀ L S G D lo due gens rest j s.gens nx) (F:Fr h₀ L s.heap m) (N:News h₀ L s.heap ((S,oS) :: nx))
  (hQ:∀ y t h' g' tk' nx',due[j]? = some y → Fr h₀ L h' m → News h₀ L h' ((S,oS) :: nx') → (∀ p ∈ nx',p.1 ≠ S ∨ p ∈ rest) → CE (model rW.row.prog w) A.in1 h₀ L S G D lo due gens rest (j + 1) g' nx' → Q (some (.str y t)) { s with heap:=h',gens:=g',toks:=tk' }) :
  wpAny (model rW.row.prog w) A (pyNext (.ref G)) Q E s:=by
 obtain ⟨Kp,led,gs,e,hg,hS,hL,hr,hl,hgo⟩:=J
 refine lM hh hroom hlim hj hG hD e hg hS hL hr (hgo _ (fun p hp=>(N p (.tail _ (by rw [e];exact aj hp))).1) (fun b o e=>F.keep b o e) (N (D,lo) (.tail _ (by rw [e];exact ac hD))).1) F N hQ
theorem yS {w:World} {A:Around} {h₀:Heap} {L S G D:Addr} {lo:Obj} {due:List PySem.Str} {gens:Array GenState} {rest:List (Addr × Obj)} {j:Nat} {nx:List (Addr × Obj)} {m:PySem.Str → Option Value} {s:Shared} {E:Value → Shared → Prop} {n1 n2:PySem.Str} {t1 t2:Tok} {oS:Obj} {Q:Option Value → Shared → Prop}
  (hh:A.handled = none) (hroom:A.depth < recursionLimit) (hlim:h₀.NoLimit) (hj:j = due.length) (hG:(G,bW gens.size n1 n2 t1 t2) ∈ rest) (hD:(D,lo) ∈ rest)
  (J:CE (model rW.row.prog w) A.in1 h₀ L S G D lo due gens rest j s.gens nx) (F:Fr h₀ L s.heap m) (N:News h₀ L s.heap ((S,oS) :: nx))
  (hQ:∀ h' tk',Fr h₀ L h' m → News h₀ L h' ((S,oS) :: rest) → Q none { s with heap:=h',gens:=gens.push .finished,toks:=tk' }) :
  wpAny (model rW.row.prog w) A (pyNext (.ref G)) Q E s:=by
 obtain ⟨Kp,led,gs,e,hg,hS,hL,hr,hl,hgo⟩:=J
 refine lS hh hroom hlim hj hG hD e hg hS hL hr (hgo _ (fun p hp=>(N p (.tail _ (by rw [e];exact aj hp))).1) (fun b o e=>F.keep b o e) (N (D,lo) (.tail _ (by rw [e];exact ac hD))).1) F N hQ
structure Em (w:World) (dp un:Nat) (h₀:Heap) (L:Addr) (rest:List (Addr × Obj)) (G D:Addr) (lv:List (PySem.Str × Tok)) (nn:Nat) (gens:Array GenState) (n1 n2:PySem.Str) (t1 t2:Tok):Prop where
 dp:dp + 12 < recursionLimit
 un:un + 240 < cLine
 g:(G,bW gens.size n1 n2 t1 t2) ∈ rest
 d:(D,listOf (strValues lv).toArray nn) ∈ rest
 x:∀ p ∈ lv,p.1.length ≤ 1000
inductive Fi (h₀:Heap) (L S D:Addr) (tag:PySem.Str) (gens:Array GenState) (rest:List (Addr × Obj)) (g:Array GenState) (nx:List (Addr × Obj)):Prop
 | mk (Lg:Addr) (oL:Obj) (vw:Value):nx = (Lg,oL) :: rest → g = gens.push (.fresh (e8 Lg)) → c7 vw tag → uI oL (fun y=>[(Str.ofString "delta",Value.ref D),(Str.ofString "which",vw)].reverse.lookup y) → h₀.objs.size ≤ Lg → (∀ p ∈ rest,p.1 ≠ Lg) → S ≠ Lg → L ≠ Lg → Fi h₀ L S D tag gens rest g nx
noncomputable def Cm (w:World) (A:Around) (h₀:Heap) (L S G D:Addr) (lv:List (PySem.Str × Tok)) (nn:Nat) (tag:PySem.Str) (gens:Array GenState) (rest:List (Addr × Obj)):Nat → Array GenState → List (Addr × Obj) → Prop
 | 0,g,nx=>Fi h₀ L S D tag gens rest g nx
 | j + 1,g,nx=>CE (model rW.row.prog w) A h₀ L S G D (listOf (strValues lv).toArray nn) (ao tag (lv.map Prod.fst)) gens rest (j + 1) g nx
theorem th {w:World} {dp un:Nat} {gd:Option (List Code)} {outer:List Env} {mean:ExcName → Option Value} {mg mb:PySem.Str → Option Value} {h₀:Heap} {L S G D:Addr} {tag:PySem.Str} {lv:List (PySem.Str × Tok)} {nn:Nat} {gens:Array GenState} {rest:List (Addr × Obj)} {j:Nat} {nx:List (Addr × Obj)} {m:PySem.Str → Option Value} {s:Shared} {E:Value → Shared → Prop} {n1 n2:PySem.Str} {t1 t2:Tok} {oS:Obj} {Q:Option Value → Shared → Prop}
  (W:Em w dp un h₀ L rest G D lv nn gens n1 n2 t1 t2) (X:(K w.params).In h₀) (T:Top (am pW) (looseW (am pW) aE) mean mg mb h₀) (hj:j < (ao tag (lv.map Prod.fst)).length)
  (J:Cm w (bG dp un gd outer).in1 h₀ L S G D lv nn tag gens rest j s.gens nx) (F:Fr h₀ L s.heap m) (N:News h₀ L s.heap ((S,oS) :: nx))
  (hQ:∀ y t h' g' tk' nx',(ao tag (lv.map Prod.fst))[j]? = some y → Fr h₀ L h' m → News h₀ L h' ((S,oS) :: nx') → (∀ p ∈ nx',p.1 ≠ S ∨ p ∈ rest) → Cm w (bG dp un gd outer).in1 h₀ L S G D lv nn tag gens rest (j + 1) g' nx' → Q (some (.str y t)) { s with heap:=h',gens:=g',toks:=tk' }) :
  wpAny (model rW.row.prog w) (bG dp un gd outer) (pyNext (.ref G)) Q E s:=by
 have hr1:(bG dp un gd outer).depth < recursionLimit:=by have:=W.dp;show dp < _;exact aA fun h9=>lN [_,_] [(1,.l V0 V1),(1,.t (.a V1 (.k 12)) V0)] (.c h9 (.c this .n))
 cases j with
 | succ j=>exact yX rfl hr1 T.nolimit hj W.g W.d J F N hQ
 | zero =>
  obtain ⟨Lg,oL,vw,rfl,hg,hw,hN,hab,hr,hS,hL⟩:=J
  have nD:=N _ (.tail _ (.tail _ W.d))
  have nL:=N _ (.tail _ (.head _))
  refine lM (Kp:=fun b=>b ≠ Lg ∧ (s.heap.get? b).isSome = true) (led:=[(Lg,oL)]) rfl hr1 T.nolimit hj W.g W.d rfl hg ⟨hS,by rw [(N _ (.head _)).1];rfl⟩ ⟨hL,by obtain ⟨o,_,_,e,_⟩:=F.ns;rw [e];rfl⟩ (fun p hp=>⟨hr p hp,by rw [(N _ (.tail _ (.tail _ hp))).1];rfl⟩) ?_ F N hQ
  exact sm (dp:=dp) (un:=un + 1) (s:=s.setGen gens.size .running) hw X T (by have:=W.dp;exact aA fun h9=>lN [_,_] [(1,.l V0 (.a V1 (.k 10))),(1,.t (.a V1 (.k 12)) V0)] (.c h9 (.c this .n))) (by have:=W.un;omega) W.x F.keep nL.1 hN hab nD.1 (hr _ W.d) nD.2.2
theorem rZ {w:World} {dp un:Nat} {gd:Option (List Code)} {outer:List Env} {mean:ExcName → Option Value} {mg mb:PySem.Str → Option Value} {h₀:Heap} {L S G D:Addr} {tag:PySem.Str} {lv:List (PySem.Str × Tok)} {nn:Nat} {gens:Array GenState} {rest:List (Addr × Obj)} {j:Nat} {nx:List (Addr × Obj)} {m:PySem.Str → Option Value} {s:Shared} {E:Value → Shared → Prop} {n1 n2:PySem.Str} {t1 t2:Tok} {oS:Obj} {Q:Option Value → Shared → Prop}
  (W:Em w dp un h₀ L rest G D lv nn gens n1 n2 t1 t2) (X:(K w.params).In h₀) (T:Top (am pW) (looseW (am pW) aE) mean mg mb h₀) (hj:j = (ao tag (lv.map Prod.fst)).length)
  (J:Cm w (bG dp un gd outer).in1 h₀ L S G D lv nn tag gens rest j s.gens nx) (F:Fr h₀ L s.heap m) (N:News h₀ L s.heap ((S,oS) :: nx))
  (hQ:∀ h' tk',Fr h₀ L h' m → News h₀ L h' ((S,oS) :: rest) → Q none { s with heap:=h',gens:=gens.push .finished,toks:=tk' }) :
  wpAny (model rW.row.prog w) (bG dp un gd outer) (pyNext (.ref G)) Q E s:=by
 have hr1:(bG dp un gd outer).depth < recursionLimit:=by have:=W.dp;show dp < _;exact aA fun h9=>lN [_,_] [(1,.l V0 V1),(1,.t (.a V1 (.k 12)) V0)] (.c h9 (.c this .n))
 cases j with
 | succ j=>exact yS rfl hr1 T.nolimit hj W.g W.d J F N hQ
 | zero =>
  obtain ⟨Lg,oL,vw,rfl,hg,hw,hN,hab,hr,hS,hL⟩:=J
  have nD:=N _ (.tail _ (.tail _ W.d))
  have nL:=N _ (.tail _ (.head _))
  refine lS (Kp:=fun b=>b ≠ Lg ∧ (s.heap.get? b).isSome = true) (led:=[(Lg,oL)]) rfl hr1 T.nolimit hj W.g W.d rfl hg ⟨hS,by rw [(N _ (.head _)).1];rfl⟩ ⟨hL,by obtain ⟨o,_,_,e,_⟩:=F.ns;rw [e];rfl⟩ (fun p hp=>⟨hr p hp,by rw [(N _ (.tail _ (.tail _ hp))).1];rfl⟩) ?_ F N hQ
  exact sm (dp:=dp) (un:=un + 1) (s:=s.setGen gens.size .running) hw X T (by have:=W.dp;exact aA fun h9=>lN [_,_] [(1,.l V0 (.a V1 (.k 10))),(1,.t (.a V1 (.k 12)) V0)] (.c h9 (.c this .n))) (by have:=W.un;omega) W.x F.keep nL.1 hN hab nD.1 (hr _ W.d) nD.2.2
end
section
theorem eV {prog:Program} {w:World} {A:Around} {E:Value → Shared → Prop} {s:Shared} {a:Addr} {Q:Value → Shared → Prop} (hT:s.TypeIs (.ref a) "generator") (h:Q (.ref a) s) :
  wpAny (model prog w) A (pyIter (.ref a)) Q E s:=by
 refine wpAny_pyIter_slot hT slot_gen_iter (wpAny_call_entry slot_gen_iter hT entry_gen_iter ?_ (args_gen_iter _))
 show wpAny _ _ (ret (.ref a)) _ _ s
 exact wpAny_pure ⟨_,rfl, "generator",_,hT,slot_gen_next.lookup,h⟩
theorem md (l:List (PySem.Str × Tok)) (y:PySem.Str) (t:Tok):strValues l++[.str y t] = strValues (l++[(y,t)]):=by simp [strValues]
theorem js {w:World} {dp un:Nat} {gd:Option (List Code)} {outer:List Env} {mean:ExcName → Option Value} {mg mb:PySem.Str → Option Value} {h₀:Heap} {L Lg G D:Addr} {tag:PySem.Str} {vw:Value} {lv:List (PySem.Str × Tok)} {nn:Nat} {gens:Array GenState} {rest:List (Addr × Obj)} {m:PySem.Str → Option Value} {s:Shared} {E:Value → Shared → Prop} {n1 n2:PySem.Str} {t1 t2:Tok} {oL:Obj} {Q:Value → Shared → Prop}
  (F:Fr h₀ L s.heap m) (X:(K w.params).In h₀) (N:News h₀ L s.heap ((G,bW gens.size n1 n2 t1 t2) :: (Lg,oL) :: rest)) (T:Top (am pW) (looseW (am pW) aE) mean mg mb h₀)
  (hd:dp + 12 < recursionLimit) (hu:un + 300 < cLine) (hw:c7 vw tag) (hg:s.gens = gens.push (.fresh (e8 Lg))) (hN:uI oL (fun y=>[(Str.ofString "delta",Value.ref D),(Str.ofString "which",vw)].reverse.lookup y))
  (hD:(D,listOf (strValues lv).toArray nn) ∈ rest) (hx:∀ p ∈ lv,p.1.length ≤ 1000) (hz:lv.length ≤ 1000) (hlt:∀ p ∈ rest,p.1 < Lg) (hLG:Lg < G) (hLL:L < Lg)
  (h:∀ S c h' tk' tv,Fr h₀ L h' m → News h₀ L h' ((S,listOf (strValues tv).toArray c) :: (G,bW gens.size n1 n2 t1 t2) :: rest) → tv.map Prod.fst = ao tag (lv.map Prod.fst) → (∀ p ∈ rest,p.1 ≠ S) → Q (.ref S) { s with heap:=h',gens:=gens.push .finished,toks:=tk' }) :
  wpAny (model rW.row.prog w) (bG dp un gd outer) (call (.type "list") [.ref G]) Q E s:=by
 have N1:News h₀ L s.heap ((Lg,oL) :: (G,bW gens.size n1 n2 t1 t2) :: rest):=fun p hp=>N p (by
  rcases ag hp with rfl | hp
  ·exact .tail _ (.head _)
  rcases ag hp with rfl | hp
  ·exact .head _
  ·exact .tail _ (.tail _ hp))
 have hn:(ao tag (lv.map Prod.fst)).length ≤ 1000:=by
  refine Nat.le_trans ?_ hz
  unfold ao
  rw [List.length_map]
  refine Nat.le_trans (List.length_filter_le _ _) ?_
  simp
 have hW:Em w dp (un + 2) h₀ L ((G,bW gens.size n1 n2 t1 t2) :: rest) G D lv nn gens n1 n2 t1 t2:=⟨hd,by omega,.head _,.tail _ hD,hx⟩
 refine eh (T := "generator") (n:=(ao tag (lv.map Prod.fst)).length) r7 F N1 (.tail _ (.head _)) rfl (Nat.le_trans hn (by decide)) (fun S off hSL hS0=>?_)
 refine ⟨fun j acc g nx=>Cm w (bG dp (un + 2) gd outer).in1 h₀ L S G D lv nn tag gens ((G,bW gens.size n1 n2 t1 t2) :: rest) j g nx ∧ ∃ tv,acc = strValues tv ∧ tv.map Prod.fst = (ao tag (lv.map Prod.fst)).take j,?_,?_⟩
 ·refine ⟨⟨Lg,oL,vw,rfl,hg,hw,hN,Nat.le_of_lt (Nat.lt_of_le_of_lt F.above hLL),fun p hp=>?_,fun q=>off _ (.head _) q.symm,Nat.ne_of_lt hLL⟩,[],rfl,rfl⟩
  rcases ag hp with rfl | hp
  ·exact Nat.ne_of_gt hLG
  ·exact Nat.ne_of_lt (hlt p hp)
 ·constructor
  ·rintro i acc g nx ⟨hJ,_⟩
   refine ⟨bW gens.size n1 n2 t1 t2,?_,rfl⟩
   cases i with
   | zero=>obtain ⟨_,_,_,rfl,_⟩:=hJ;exact .tail _ (.head _)
   | succ i=>obtain ⟨_,_,_,rfl,_⟩:=hJ;exact ac (.head _)
  ·intro s' Q' hT hQ
   exact eV hT hQ
  ·rintro i acc g nx h1 tk c Q' hi ⟨hJ,tv,rfl,htv⟩ F1 N1 ho hK
   refine th (un:=un + 2) (dp:=dp) (s:={ s with heap:=h1,gens:=g,toks:=tk }) hW X T hi hJ F1 N1 (fun y t h' g' tk' nx' hy F2 N2 ho2 hJ2=>?_)
   refine hK _ h' g' tk' nx' F2 N2 (fun p hp=>(ho2 p hp).elim id fun hr=>off p (.tail _ hr)) ⟨hJ2,tv++[(y,t)],md _ _ _,?_⟩
   rw [List.map_append,htv,List.take_add_one,hy];rfl
  ·rintro acc g nx h1 tk c Q' ⟨hJ,tv,rfl,htv⟩ F1 N1 ho hK
   refine rZ (un:=un + 2) (dp:=dp) (s:={ s with heap:=h1,gens:=g,toks:=tk }) hW X T rfl hJ F1 N1 (fun h' tk' F2 N2=>?_)
   exact hK _ (h S c h' tk' tv F2 N2 (by rw [htv,List.take_length]) (fun p hp=>off p (.tail _ (.tail _ hp))))
end
section
inductive As (base h:Heap) (e:Addr) (cls a0 c d b fl:Value):Prop
 | mk (oe:Obj) (T:Addr) (oT:Obj) (ts:Array Value):h.get? e = some oe → oe.cls = cls → oe.data = .fields #[a0,.ref T,c,d,b,.none] → base.get? T = none → T ≠ e → h.get? T = some oT → oT.data = .fields ts → ts[3]? = some fl → As base h e cls a0 c d b fl
theorem As.traced {base h:Heap} {e:Addr} {cls a0 c d b fl:Value} (x:As base h e cls a0 c d b fl):h.TracedAtW base e cls a0 fl:=by
 obtain ⟨oe,T,oT,ts,h1,hc,hd,h2,h3,h4,h5,h6⟩:=x
 exact ⟨oe,_,T,oT,ts,h1,⟨hc,rfl⟩,hd,rfl,h2,h3,h4,h5,h6⟩
section
variable {M:Model} {A:Around} {E:Value → Shared → Prop} {s:Shared}
theorem Aj {oe:Obj} {base:Heap} {env:Env} {outer:List Env} {L e:Addr} {cls a0 c d b:Value} {Q:Unit → Shared → Prop}
  (hfr:A.frames = some (env :: outer)) (hl:s.heap.FunFrames base (env :: outer)) (hf:env.frame = some L)
  (he:s.heap.get? e = some oe) (hc:oe.cls = cls) (hd:oe.data = .fields #[a0,.none,c,d,b,.none]) (hkb:base.StaysIn s.heap) (hen:base.get? e = none)
  (h:∀ h',base.StaysIn h' → h'.FunFrames base (env :: outer) → As base h' e cls a0 c d b (rawInt L) → s.heap.UpToSlots h' → Q () { s with heap:=h' }) :
  wpAny M A (noteFrame (.ref e) env) Q E s:=by
 unfold noteFrame
 simp only [hf]
 refine wpAny_bind (wpAny_field he hd (x:=.none) rfl ?_)
 rw [if_neg (by decide)]
 show wpAny M A (do let a ← frameOf env;let pl ← entryPlaceOf L (Value.none != Value.none);let b ← EntryCells.newEntry .none a .none (rawInt L) .none pl;setField (.ref e) 1 b) Q E s
 have hene:e ∉ (env :: outer).filterMap (·.frame):=fun hm=>by
  obtain ⟨_,o,ho,hnf⟩:=hl.mem hm
  rw [he] at ho;injection ho with ho;subst ho;exact hnf _ hd
 refine wpAny_bind (wpAny_frameOf_fun hfr hl hf fun h₁ hs₁=>?_)
 refine wpAny_bind (wpAny_entryPlaceOf fun pl hpl=>?_)
 unfold EntryCells.newEntry newFields
 refine wpAny_bind (wpAny_newObj_type ?_ (hpl.sizeOk5 _ _ _ _ _))
 have he₁:h₁.get? e = some oe:=(hs₁.2.1 e hene).trans he
 have kb₁:base.StaysIn h₁:=fun b o hbo=>(hs₁.2.1 b fun hm=>by rw [(hl.mem hm).1] at hbo;cases hbo).trans (hkb b o hbo)
 have he₂:=Heap.get?_push_of_some (h:=h₁) { cls:=.type "traceback",dict:=none,data:=.fields ([Value.none,.ref L,.none,rawInt L,.none]++(if pl.isEmpty then List.replicate 6 Value.none else pl)).toArray } he₁
 refine wpAny_setField he₂ hd (by show 1 < 6;decide) (h _ ?_ ?_ ?_ ?_)
 all_goals
  have hTe:h₁.objs.size ≠ e:=Nat.ne_of_gt (Heap.lt_size he₁)
  have hd₃:=Obj.data_mapFields hd (·.setIfInBounds 1 (Value.ref h₁.objs.size))
  have he₃:=Heap.get?_update_self (Obj.mapFields (·.setIfInBounds 1 (Value.ref h₁.objs.size))) he₂ (Obj.isFreed_of_fields hd₃)
  have hT₃:=(Heap.get?_update_other (h₁.push { cls:=.type "traceback",dict:=none,data:=.fields ([Value.none,.ref L,.none,rawInt L,.none]++(if pl.isEmpty then List.replicate 6 Value.none else pl)).toArray })
   (Obj.mapFields (·.setIfInBounds 1 (Value.ref h₁.objs.size))) (Ne.symm hTe)).trans (Heap.get?_push_size h₁ rfl)
  have keep:∀ b o,b ≠ e → h₁.get? b = some o →
    ((h₁.push { cls:=.type "traceback",dict:=none,data:=.fields ([Value.none,.ref L,.none,rawInt L,.none]++(if pl.isEmpty then List.replicate 6 Value.none else pl)).toArray }).update e (Obj.mapFields (·.setIfInBounds 1 (Value.ref h₁.objs.size)))).get? b = some o :=
   fun b o hbe hb=>by
    rw [Heap.get?_update_other _ _ (Ne.symm hbe)]
    exact Heap.get?_push_of_some _ hb
  have noRecord:∀ b o,s.heap.get? b = some o → (∀ vs,o.data ≠ .fields vs) → b ≠ e:=fun b o hb hnf q=>by
   rw [q,he] at hb;injection hb with hb;subst hb;exact hnf _ hd
 ·exact fun b o hbo=>keep b o (fun q=>by rw [q,hen] at hbo;cases hbo) (kb₁ b o hbo)
 ·refine hl.of_keeps fun b o hb hnf=>?_
  obtain ⟨sl,hs⟩:=hs₁.2.2 b o hb
  exact ⟨_,keep b _ (noRecord b o hb hnf) hs,rfl⟩
 ·exact ⟨_,h₁.objs.size,_,_,he₃,(Obj.cls_mapFields _ _).trans hc,hd₃,kb₁.fresh,hTe,hT₃,rfl,by first | (simp;done) | (rcases hpl with rfl | ⟨_,_,_,_,_,_,_,rfl⟩ <;> simp)⟩
 ·intro b o hb hnf
  obtain ⟨sl,hs⟩:=hs₁.2.2 b o hb
  exact ⟨sl,keep b _ (noRecord b o hb hnf) hs⟩
theorem sg {base:Heap} {l:List Env} {e:Addr} {cls a0 c d b fl:Value} {f:Option Addr} {Q:Unit → Shared → Prop}
  (hkb:base.StaysIn s.heap) (hl:s.heap.FunFrames base l) (ht:As base s.heap e cls a0 c d b fl)
  (h:∀ h',base.StaysIn h' → h'.FunFrames base l → As base h' e cls a0 c d b (f.elim .none fun f=>rawInt f) → (∀ b o,s.heap.get? b = some o → (∀ vs,o.data ≠ .fields vs) → h'.get? b = some o) → Q () { s with heap:=h' }) :
  wpAny M A (setFlight (.ref e) f) Q E s:=by
 obtain ⟨oe,T,oT,ts,he,hc,hd,hnT,hTe,hT,hdT,h3⟩:=ht
 have hsz3:3 < ts.size:=(Array.getElem?_eq_some_iff.mp h3).1
 have other:∀ b,b ≠ T → (s.heap.update T (Obj.mapFields (·.setIfInBounds 3 (f.elim Value.none fun f=>rawInt f)))).get? b = s.heap.get? b :=
  fun b hb=>Heap.get?_update_other _ _ (Ne.symm hb)
 have noRecord:∀ b o,s.heap.get? b = some o → (∀ vs,o.data ≠ .fields vs) → b ≠ T:=fun b o hb hnf q=>by
  rw [q,hT] at hb;injection hb with hb;subst hb;exact hnf ts hdT
 unfold setFlight
 refine wpAny_bind (wpAny_field he hd (x:=.ref T) rfl ?_)
 rw [if_pos (show (Value.ref T != Value.none) = true from by simp)]
 refine wpAny_setField hT hdT hsz3 (h _ (fun b o hbo=>(other b fun q=>by rw [q,hnT] at hbo;cases hbo).trans (hkb b o hbo))
  (hl.of_keeps fun b o hb hnf=>⟨o,(other b (noRecord b o hb hnf)).trans hb,rfl⟩) ?_ fun b o hb hnf=>(other b (noRecord b o hb hnf)).trans hb)
 exact ⟨oe,T,_,_,(other e (Ne.symm hTe)).trans he,hc,hd,hnT,hTe,Heap.get?_update_self _ hT (Obj.isFreed_of_fields (Obj.data_mapFields hdT _)),Obj.data_mapFields hdT _,by simp [hsz3]⟩
end
end
section
theorem hH:entryFor table "proto.unchain" = some Builtin.«proto.unchain»:=entryFor_of_tree (by kernel_rfl)
section
variable {prog:Program} {w:World} {A:Around} {E:Value → Shared → Prop} {s:Shared} {env:Env}
theorem lA {e e1:Addr} {α:Type} {oe o1:Obj} {vs vs1:Array Value} {Q:α → Shared → Prop} (hh:A.handled = some (.ref e1)) (hne:e ≠ e1)
  (he:s.heap.get? e = some oe) (hd:oe.data = .fields vs) (hz:2 < vs.size) (h1:s.heap.get? e1 = some o1) (hd1:o1.data = .fields vs1) (h12:vs1[2]? = some .none)
  (h:∀ h',Heap.SameBut e s.heap h' → h'.get? e = some (oe.mapFields (·.setIfInBounds 2 (.ref e1))) → E (.ref e) { s with heap:=h' }) :
  wpAny (model prog w) A (raiseNew (.ref e):Sem α) Q E s:=by
 unfold raiseNew
 refine wpAny_bind (wpAny_handled ?_)
 rw [hh]
 dsimp only
 rw [if_pos (by simp;exact fun q=>hne q.symm)]
 refine wpAny_bind (wpAny_holding (wpAny_runValue (codeAny_builtin hH ?_)))
 show wpAny _ _ (field (.ref e1) 2 >>= _) _ _ _
 refine wpAny_bind (wpAny_field h1 hd1 h12 ?_)
 show wpAny _ _ (ret Value.none >>= _) _ _ _
 refine wpAny_pure ?_
 show wpAny _ _ (updateField e 2 (.ref e1) >>= fun _=>throw (.ref e)) _ _ _
 refine wpAny_bind ?_
 unfold updateField
 refine wpAny_bind (wpAny_load he ?_)
 rw [hd]
 dsimp only
 rw [if_pos hz]
 refine wpAny_update he ?_
 refine wpAny_throw (h _ (Heap.SameBut.update ..) (Heap.get?_update_self _ he (Obj.isFreed_of_fields (Obj.data_mapFields hd _))))
theorem re {x:Expr} {pos cp:Pos} {k:Nat} {Q:Flow → Shared → Prop} {e1:Addr} {cls:String} (F:ExcRaiseFacts cls) (hh:A.handled = some (.ref e1))
  (h:wpAny (model prog w) A (eval x env) (fun v s₁=>∃ e t o1 vs1,v = .ref e ∧ e ≠ e1 ∧ s₁.heap.get? e = some { cls:=.type cls,data:=.fields #[.ref t,.none,.none,.none,.bool false,.none] } ∧ s₁.heap.get? e1 = some o1 ∧ o1.data = .fields vs1 ∧ vs1[2]? = some .none ∧
   ∀ h',Heap.SameBut e s₁.heap h' → h'.get? e = some { cls:=.type cls,data:=.fields #[.ref t,.none,.ref e1,.none,.bool true,.none] } → E (.ref e) { s₁ with heap:=h' }) E s) :
  wpAny (model prog w) A (exec (.Raise (some x) (some (.Constant .none k cp)) pos) env) Q E s:=by
 rw [arm_exec_Raise]
 refine wpAny_bind (wpAny_standAt ?_)
 show wpAny _ _ (raiseStmt env (some (do let v ← eval x env;standAt pos;pure v)) (some (do let v ← eval (.Constant .none k cp) env;standAt pos;pure v))) _ _ _
 unfold raiseStmt
 refine wpAny_bind (wpAny_bind (wpAny_mono h (fun v s₁ h₁=>wpAny_bind (wpAny_standAt (wpAny_pure ?_))) fun _ _ x=>x))
 obtain ⟨e,t,o1,vs1,rfl,hne,he,ho1,hd1,hv1,hE⟩:=h₁
 obtain ⟨hp,g,d,tk,os⟩:=s₁
 have hsub:=F.isExc
 have hmeta:=F.plainMeta
 repeat (first | refine wpAny_loadPart he ?_ | wp_step)
 have s1:=Heap.SameBut.update hp e (Obj.mapFields fun x=>x.setIfInBounds 3 Value.none)
 have g1:=Heap.get?_update_self (h:=hp) (Obj.mapFields fun x=>x.setIfInBounds 3 Value.none) he rfl
 have s2:=Heap.SameBut.update (hp.update e (Obj.mapFields fun x=>x.setIfInBounds 3 Value.none)) e (Obj.mapFields fun x=>x.setIfInBounds 4 (Value.bool true))
 have g2:=Heap.get?_update_self (Obj.mapFields fun x=>x.setIfInBounds 4 (Value.bool true)) g1 rfl
 generalize hp.update e (Obj.mapFields fun x=>x.setIfInBounds 3 Value.none) = h3 at *
 generalize h3.update e (Obj.mapFields fun x=>x.setIfInBounds 4 (Value.bool true)) = h4 at *
 have sb:Heap.SameBut e hp h4:=s1.trans s2
 refine lA hh hne g2 rfl (by show 2 < 6;decide) ((sb.2 e1 hne.symm).trans ho1) hd1 hv1 (fun h' s3 g3=>hE h' (sb.trans s3) g3)
end
end
section
section
variable {prog:Program} {w:World} {A:Around} {E:Value → Shared → Prop} {s:Shared} {t u:Tok} {Q:Value → Shared → Prop}
noncomputable def aQ (k:Int):PySem.Str:=Str.ofString "unknown delta choice (must be 1 or 2): " ++ Str.ofString (toString k)
theorem yr {n:Int} (hn:n = 0 ∨ n = 3) (h:∀ t' k,Q (.str (aQ n) t') { s with toks:=k }):wpAny (model prog w) A (binaryOp .Mod (.str (Str.ofString "unknown delta choice (must be 1 or 2): %r") t) (.int n u)) Q E s:=by
 rcases hn with rfl | rfl
 ·exact uj (.str (aQ 0) (s.toks + 1)) { s with toks:=s.toks + 2 } "special-get-raises" [] [Builtin.«str.__mod__»,Builtin.«int.__repr__»] (az PySem.F.entry_str_mod (az PySem.F.entry_int_repr dX)) (fun b _=>by cases b <;> kernel_rfl) (F:=[]) (fun _ _ e=>nomatch e) (h _ _)
 ·exact uj (.str (aQ 3) (s.toks + 1)) { s with toks:=s.toks + 2 } "special-get-raises" [] [Builtin.«str.__mod__»,Builtin.«int.__repr__»] (az PySem.F.entry_str_mod (az PySem.F.entry_int_repr dX)) (fun b _=>by cases b <;> kernel_rfl) (F:=[]) (fun _ _ e=>nomatch e) (h _ _)
theorem lF {n:Int} (hn:n = 0 ∨ n = 3) (h:∀ t' k,Q (.str (aQ n) t') { s with toks:=k }):wpAny (model prog w) A (binaryOp .Mod (.str (Str.ofString "unknown delta choice (must be 1 or 2): %d") t) (.int n u)) Q E s:=by
 rcases hn with rfl | rfl
 ·exact uj (.str (aQ 0) (s.toks + 2)) { s with toks:=s.toks + 3 } "special-get-raises" [] [Builtin.«str.__mod__»,Builtin.«int.__repr__»] (az PySem.F.entry_str_mod (az PySem.F.entry_int_repr dX)) (fun b _=>by cases b <;> kernel_rfl) (F:=[]) (fun _ _ e=>nomatch e) (h _ _)
 ·exact uj (.str (aQ 3) (s.toks + 2)) { s with toks:=s.toks + 3 } "special-get-raises" [] [Builtin.«str.__mod__»,Builtin.«int.__repr__»] (az PySem.F.entry_str_mod (az PySem.F.entry_int_repr dX)) (fun b _=>by cases b <;> kernel_rfl) (F:=[]) (fun _ _ e=>nomatch e) (h _ _)
end
end
section
set_option backward.match.sparseCases false in
noncomputable def E9:List Stmt → List ExceptHandler
 | .Try _ h _ _ _ :: _=>h
 | _=>[]
noncomputable abbrev Ge:List ExceptHandler:=E9 (dG.drop 1)
structure yk (h₀:Heap) (outer:List Env) (frs:List (Addr × Obj)):Prop where
 ff:∀ h:Heap,(∀ p ∈ frs,h.get? p.1 = some p.2) → h.FunFrames h₀ outer
 ins:∀ env ∈ outer,∀ a,env.frame = some a → a ∈ frs.map Prod.fst
 nf:∀ p ∈ frs,∀ vs,p.2.data ≠ .fields vs
theorem wq {k:Int} (hk:k = 0 ∨ k = 3) {w:World} {dp un:Nat} {gd:Option (List Code)} {outer:List Env} {s:Shared} {mean:ExcName → Option Value} {mg mb:PySem.Str → Option Value} {h₀ h1:Heap} {Lg e1:Addr} {D:Addr} {ext frs:List (Addr × Obj)} {t:Tok} {Q:Flow → Shared → Prop} {E:Value → Shared → Prop}
  (x9:Heap.NewExc h1 s.heap e1 "KeyError") (F:Fr h₀ Lg h1 (fun y=>[(Str.ofString "delta",Value.ref D),(Str.ofString "which",Value.int k t)].reverse.lookup y)) (X:(K w.params).In h₀) (N:News h₀ Lg h1 (ext++frs)) (T:Top (am pW) (looseW (am pW) aE) mean mg mb h₀)
  (hd:dp + 10 < recursionLimit) (hu:un + 200 < cLine) (Fs:yk h₀ outer frs) (off:∀ p ∈ ext,p.1 ∉ frs.map Prod.fst)
  (hE:∀ h' tk' e2 t2 tm B,B.StaysIn h' → h'.FunFrames B (aW Lg :: outer) → As B h' e2 (.type "ValueError") (.ref t2) (.ref e1) .none (.bool true) (rawInt Lg) → B.get? e2 = none → B.get? t2 = none → h'.TupAt t2 [.str (aQ k) tm] → (∀ b o,h₀.get? b = some o → B.get? b = some o) → (∀ p ∈ ext,B.get? p.1 = some p.2) → h1.UpToSlots h' → E (.ref e2) { s with heap:=h',toks:=tk' }) :
  wpAny (model rW.row.prog w) (ktrTop dp un gd (Str.ofString "restore") (aY (bE pW 6)) Lg 253 (.ref 252) [] outer) (noteFrame (.ref e1) (aW Lg)) (fun _ s₂=>wpAny (model rW.row.prog w) (ktrTop dp un gd (Str.ofString "restore") (aY (bE pW 6)) Lg 253 (.ref 252) [] outer) (setFlight (.ref e1) none) (fun _ s₃=>wpAny (model rW.row.prog w) (ktrTop dp un gd (Str.ofString "restore") (aY (bE pW 6)) Lg 253 (.ref 252) [] outer) (handleBy (.ref e1) (aW Lg) Ge) Q E s₃) E s₂) E s:=by
 revert X
 k_fill
 intro X
 refine (let G0:Prop:=_;(?_:G0))
 obtain ⟨ob,a0,he,hc,hdat⟩:=x9.there
 have hLn:Lg ∉ frs.map Prod.fst:=fun q=>by
  obtain ⟨p,hp,e⟩:=List.mem_map.mp q
  exact (N p (ac hp)).2.1 e
 have hfr0:∀ b ∈ Lg :: frs.map Prod.fst,h₀.get? b = none:=fun b hb=>by
  rcases ag hb with rfl | hb
  ·cases e:h₀.get? b with
   | none=>rfl
   | some o=>exact absurd (Heap.lt_size e) (Nat.not_lt_of_le F.above)
  ·obtain ⟨p,hp,rfl⟩:=List.mem_map.mp hb
   exact (N p (ac hp)).2.2
 have ff1:h1.FunFrames h₀ (aW Lg :: outer):=by
  obtain ⟨oL,es,ep,hL,hLd,_⟩:=F.ns
  exact ⟨(by show (aY (bE pW 6)).kind ≠ _;intro q;cases q),⟨Lg,oL,rfl,hfr0 _ (.head _),hL,fun vs q=>by rw [hLd] at q;cases q⟩,Fs.ff _ fun p hp=>(N p (ac hp)).1⟩
 have hin:∀ env ∈ aW Lg :: outer,∀ a,env.frame = some a → a ∈ Lg :: frs.map Prod.fst:=fun env he a ha=>by
  rcases ag he with rfl | he
  ·cases ha;exact .head _
  ·exact .tail _ (Fs.ins env he a ha)
 have hB:(hideAll h1 (Lg :: frs.map Prod.fst)).StaysIn s.heap:=fun b o q=>x9.keeps _ _ (of_hideAll _ q)
 have ff2:s.heap.FunFrames (hideAll h1 (Lg :: frs.map Prod.fst)) (aW Lg :: outer):=(funFrames_hide ff1 hin).of_keeps fun b o q _=>⟨o,x9.keeps _ _ q,rfl⟩
 have hBe:(hideAll h1 (Lg :: frs.map Prod.fst)).get? e1 = none:=by
  cases q:(hideAll h1 (Lg :: frs.map Prod.fst)).get? e1 with
  | none=>rfl
  | some o=>have:=of_hideAll _ q;rw [x9.new] at this;cases this
 have hB0:∀ b o,h₀.get? b = some o → (hideAll h1 (Lg :: frs.map Prod.fst)).get? b = some o:=fun b o q=>hideAll_get _ (F.keep _ _ q) fun hm=>by rw [hfr0 b hm] at q;cases q
 have hBx:∀ p ∈ ext,(hideAll h1 (Lg :: frs.map Prod.fst)).get? p.1 = some p.2:=fun p hp=>hideAll_get _ (N p (aj hp)).1 fun hm=>by
  rcases ag hm with q | hm
  ·exact (N p (aj hp)).2.1 q
  ·exact off p hp hm
 generalize hideAll h1 (Lg :: frs.map Prod.fst) = B at *
 have ns1:=F.ns
 have up1:h1.UpToSlots s.heap:=Heap.UpToSlots.of_keeps x9.keeps
 refine Aj (base:=B) (outer:=outer) (L:=Lg) rfl ff2 rfl he hc hdat hB hBe (fun h3 k1 k2 k3 k4=>?_)
 refine sg k1 k2 k3 (fun h4 l1 l2 l3 l4=>?_)
 have up4:h1.UpToSlots h4:=up1.trans (k4.trans fun b o q qn=>⟨o.slots,l4 b o q qn⟩)
 have F4:Fr h₀ Lg h4 _:=⟨up4.ns ns1,fun b o q=>l1 _ _ (hB0 b o q),F.above⟩
 have N4:News h₀ Lg h4 ext:=fun p hp=>⟨l1 _ _ (hBx p hp),(N p (aj hp)).2⟩
 have l3':=l3
 refine (let G0:Prop:=_;(?_:G0))
 obtain ⟨oe,T1,oT,ts,g1,g2,g3,g4,g5,g6,g7,g8⟩:=l3'
 refine wpAny_handleBy_builtin (X := "KeyError") (T := "KeyError") (b:=true) PySem.W.kr_isExc_KeyError PySem.W.kr_notTuple_KeyError (by rw [isSubtype_type];kernel_rfl) ?_
 refine nameX_B (K:=K w.params) F4 X (by k_asm) (by k_is) PyProof.Rows.Boot.«KeyError» (by decide +kernel) ⟨rfl,⟨oe,g1,g2⟩,?_⟩
 rw [if_pos rfl]
 refine sg l1 l2 l3 (fun h5 r1 r2 r3 r4=>?_)
 have up5:h1.UpToSlots h5:=up4.trans fun b o q qn=>⟨o.slots,r4 b o q qn⟩
 have F5:Fr h₀ Lg h5 _:=⟨up5.ns ns1,fun b o q=>r1 _ _ (hB0 b o q),F.above⟩
 have N5:News h₀ Lg h5 (cZ h₀ h5 [Lg]):=dv (by simp)
 have he5:∃ o1 vs1,h5.get? e1 = some o1 ∧ o1.data = .fields vs1 ∧ vs1[2]? = some .none:=by
  obtain ⟨oe,_,_,_,q1,_,q3,_⟩:=r3
  exact ⟨oe,_,q1,q3,rfl⟩
 clear F N F4 N4 k1 k2 k3 l1 l2 l3 l4 g1 g2 g3 g4 g5 g6 g7 g8 r4 k4 hB ff2 he hc hdat up1 up4
 refine wpAny_execs_cons ?_
 refine re (e1:=e1) (cls := "ValueError") PySem.F.excRaise_ValueError rfl ?_
 refine wpAny_Call_ofName (nameX_B (K:=K w.params) F5 X (by k_asm) (by k_is) PyProof.Rows.Boot.«ValueError» (by decide +kernel) ?_)
 refine callWith_excType rfl ?_
 refine evalArgs_kw rfl (PySem.Calls.spliced_cons ?_)
 rw [if_neg Bool.false_ne_true]
 k_fold
 k_steps
 refine yr hk ?_
 intro _ _
 k_steps
 refine PySem.wpAny_evalAll_nil ?_
 refine wpAny_call_exc (cls := "ValueError") PySem.F.excCall_ValueError (fun h7 e2 hm=>?_)
 rename Fr _ _ _ _=>F6
 rename News _ _ _ _=>N6
 refine (let G0:Prop:=_;(?_:G0))
 obtain ⟨t2,hm1,hm2,hm3⟩:=hm.there
 obtain ⟨o1,vs1,q1,q2,q3⟩:=he5
 have hne:e2 ≠ e1:=fun q=>by have:=hm.new;rw [q,q1] at this;cases this
 have hB2:B.get? e2 = none:=fresh_of_stays r1 hm.new
 have hBt:B.get? t2 = none:=fresh_of_stays r1 hm2
 refine ⟨e2,t2,o1,vs1,rfl,hne,hm1,hm.keeps _ _ q1,q2,q3,fun h8 sb g8=>?_⟩
 have hte:t2 ≠ e2:=fun q=>by
  rw [q,hm1] at hm3
  exact absurd (congrArg Obj.data (Option.some.inj hm3)) (by intro z;cases z)
 have k8:∀ b o,h5.get? b = some o → h8.get? b = some o:=fun b o q=>(sb.2 b (fun z=>by have:=hm.new;rw [← z,q] at this;cases this)).trans (hm.keeps _ _ q)
 have hB8:B.StaysIn h8:=fun b o q=>k8 _ _ (r1 _ _ q)
 have ff8:h8.FunFrames B (aW Lg :: outer):=r2.of_keeps fun b o q _=>⟨o,k8 _ _ q,rfl⟩
 show wpAny _ _ (noteFrame (.ref e2) (aW Lg)) _ _ _
 refine Aj (base:=B) (outer:=outer) (L:=Lg) rfl ff8 rfl g8 rfl rfl hB8 hB2 (fun h9 n1 n2 n3 n4=>?_)
 have n3':=n3
 refine (let G0:Prop:=_;(?_:G0))
 obtain ⟨oe,T9,_,_,y1,y2,y3,_⟩:=n3'
 show wpAny _ _ (do
  if (← field (.ref e2) 1) == .none then unsupported "frame.own-activation:exception-without-traceback"
  setFlight (.ref e2) (aW Lg).frame) _ _ _
 refine wpAny_bind (wpAny_field y1 y3 (x:=.ref T9) rfl ?_)
 rw [if_neg (show ¬ ((Value.ref T9 == Value.none) = true) from Bool.false_ne_true)]
 refine sg n1 n2 n3 (fun h10 p1 p2 p3 p4=>?_)
 have up10:h8.UpToSlots h10:=Heap.UpToSlots.trans n4 fun b o q qn=>⟨o.slots,p4 b o q qn⟩
 have ht8:h8.TupAt t2 [.str (aQ k) _]:=⟨_,_,(sb.2 t2 hte).trans hm3,rfl,rfl⟩
 exact hE h10 _ e2 t2 _ B p1 p2 p3 hB2 hBt (ht8.of_slots up10) hB0 hBx (up5.trans ((Heap.UpToSlots.of_keeps k8).trans up10))
end
section
structure E8 (h₀:Heap) (outer:List Env) (frs ext:List (Addr × Obj)) (k:Int) (e:Addr) (h':Heap):Prop where
 ex:∃ B t2 e1 tm,B.StaysIn h' ∧ h'.FunFrames B outer ∧ As B h' e (.type "ValueError") (.ref t2) (.ref e1) .none (.bool true) .none ∧ B.get? e = none ∧ B.get? t2 = none ∧ h'.TupAt t2 [.str (aQ k) tm] ∧ (∀ b o,h₀.get? b = some o → B.get? b = some o) ∧ (∀ p ∈ ext,B.get? p.1 = some p.2)
 fr:∀ p ∈ frs,∃ sl,h'.get? p.1 = some { p.2 with slots:=sl }
theorem Cg {k:Int} (hk:k = 0 ∨ k = 3) {w:World} {dp un:Nat} {gd:Option (List Code)} {outer:List Env} {R:GenEnd} {Y:Protocol} {n:Nat} {s₀ s:Shared} {mean:ExcName → Option Value} {mg mb:PySem.Str → Option Value} {h₀:Heap} {Lg:Addr} {D:Addr} {ext frs:List (Addr × Obj)} {t:Tok}
  (F:Fr h₀ Lg s.heap (fun y=>[(Str.ofString "delta",Value.ref D),(Str.ofString "which",Value.int k t)].reverse.lookup y)) (X:(K w.params).In h₀) (N:News h₀ Lg s.heap (ext++frs)) (T:Top (am pW) (looseW (am pW) aE) mean mg mb h₀)
  (hd:dp + 12 < recursionLimit) (hu:un + 250 < cLine) (Fs:yk h₀ outer frs) (off:∀ p ∈ ext,p.1 ∉ frs.map Prod.fst)
  (hR:∀ h' tk' e,E8 h₀ outer frs ext k e h' → R n s₀ (.error (.ref e)) { s with heap:=h',toks:=tk' }) :
  Seg (model rW.row.prog w) (bG dp un gd outer) R Y n s₀ (.func dG (aW Lg)) ((model rW.row.prog w).den (.func dG (aW Lg))) [] s:=by
 have hk':=hk
 rcases hk with rfl | rfl
 all_goals
  revert X
  k_fill
  intro X
  refine seg_func ?_
  refine dq ?_
  rw [cc]
  k_fold
  k_steps
  refine dq ?_
  rw [cc]
  k_fold
  k_steps
  refine wpAny_Try_except ?_
  k_steps
  rename Fr _ _ _ _=>F9
  rename News _ _ _ _=>N9
  rename Heap.NewExc _ _ _ _=>x9
  refine wq hk' x9 F9 X (fun p hp=>N9 p (.tail _ hp)) T (by exact aA fun h9=>lN [_,_] [(1,.l V0 (.a (.a V1 K1) (.k 10))),(1,.t (.a V1 (.k 12)) V0)] (.c h9 (.c hd .n))) (by omega) Fs off (fun h' tk' e2 t2 tm B a1 a2 a3 a4 a5 a6 a7 a8 a9=>?_)
  show Seg _ _ _ _ _ _ _ ((leaving (aW Lg) (.ref e2)).wrap (fun _=>.raise (.ref e2)) .raise id id) [] _
  refine seg_wrap ?_
  unfold leaving
  refine wpAny_bind (wpAny_noteFrame_againW rfl a3.traced ?_)
  refine sg a1 a2 a3 (fun h'' b1 b2 b3 b4=>?_)
  refine seg_end (.error (.ref e2)) (hR h'' _ e2 ⟨⟨B,t2,_,tm,b1,?_,b3,a4,a5,?_,a7,a8⟩,fun p hp=>?_⟩)
  ·obtain ⟨_,_,z⟩:=b2;exact z
  ·exact a6.of_slots fun b o q qn=>⟨o.slots,b4 b o q qn⟩
  ·obtain ⟨sl,q⟩:=a9 _ _ (N9 p (.tail _ (ac hp))).1 (Fs.nf p hp)
   exact ⟨sl,b4 _ _ q (Fs.nf p hp)⟩
end
section
theorem mR:isSubtype (.type "ValueError") (.type "StopIteration") = pure false:=by rw [isSubtype_type];kernel_rfl
theorem wF {k:Int} (hk:k = 0 ∨ k = 3) {w:World} {dp un:Nat} {gd:Option (List Code)} {outer:List Env} {mean:ExcName → Option Value} {mg mb:PySem.Str → Option Value} {h₀:Heap} {L Lg G D:Addr} {gens:Array GenState} {rest frs:List (Addr × Obj)} {m:PySem.Str → Option Value} {s:Shared} {E Q:Value → Shared → Prop} {n1 n2:PySem.Str} {t t1 t2:Tok} {oL:Obj}
  (F:Fr h₀ L s.heap m) (X:(K w.params).In h₀) (N:News h₀ L s.heap ((G,bW gens.size n1 n2 t1 t2) :: (Lg,oL) :: rest++frs)) (T:Top (am pW) (looseW (am pW) aE) mean mg mb h₀)
  (hd:dp + 20 < recursionLimit) (hu:un + 300 < cLine) (hg:s.gens = gens.push (.fresh (e8 Lg))) (hN:uI oL (fun y=>[(Str.ofString "delta",Value.ref D),(Str.ofString "which",.int k t)].reverse.lookup y))
  (hL0:h₀.get? L = none) (Fs:∀ oF:Obj,(∀ vs,oF.data ≠ .fields vs) → yk h₀ outer ((L,oF) :: frs)) (hGL:G ≠ Lg) (hLr:∀ p ∈ rest,p.1 ≠ Lg) (hLf:∀ p ∈ frs,p.1 ≠ Lg) (off:∀ p ∈ (G,bW gens.size n1 n2 t1 t2) :: rest,p.1 ∉ frs.map Prod.fst) (hLL:L < Lg)
  (h:∀ h' tk' e oF,uI oF m → E8 h₀ outer ((L,oF) :: frs) ((G,bW gens.size n1 n2 t1 t2) :: rest) k e h' → E (.ref e) { s with heap:=h',gens:=gens.push .finished,toks:=tk' }) :
  wpAny (model rW.row.prog w) (bG dp un gd outer) (call (.type "list") [.ref G]) Q E s:=by
 refine eh (T := "generator") (n:=1) r7 F N (.head _) rfl (by decide) (fun S offS hSL hS0=>?_)
 refine ⟨fun i acc g nx=>i = 0 ∧ acc = [] ∧ g = s.gens ∧ nx = ((G,bW gens.size n1 n2 t1 t2) :: (Lg,oL) :: rest++frs),⟨rfl,rfl,rfl,rfl⟩,?_⟩
 constructor
 ·rintro i acc g nx ⟨_,_,_,rfl⟩
  exact ⟨_,.head _,rfl⟩
 ·intro s' Q' hT hQ
  exact eV hT hQ
 ·rintro i acc g nx h1 tk c Q' hi ⟨rfl,rfl,rfl,rfl⟩ F1 N1 ho hK
  refine (let G0:Prop:=_;(?_:G0))
  obtain ⟨oF,es,ep,hF1,hF2,hF3,hF4⟩:=F1.ns
  have hFn:∀ vs,oF.data ≠ .fields vs:=fun vs q=>by rw [hF2] at q;cases q
  have nG:=(N1 _ (.tail _ (.head _))).1
  have nL:=N1 _ (.tail _ (.tail _ (.head _)))
  refine fm (s:={ s with heap:=h1,gens:=s.gens,toks:=tk }) (g:=gens.size) (n:=0) (gs:=.fresh (e8 Lg)) (P:=fun _ s₀ e s₁=>∃ h' tk' e',e = .ref e' ∧ s₁ = { s₀ with heap:=h',toks:=tk' } ∧ E8 h₀ outer ((L,oF) :: frs) ((G,bW gens.size n1 n2 t1 t2) :: rest) k e' h') (Y:=fun _ _ _ _ _=>False)
   (T.nolimit.keeps F1.keep) (show dp < recursionLimit by exact aA fun h9=>lN [_,_] [(1,.l V0 V1),(1,.t (.a V1 (.k 20)) V0)] (.c h9 (.c hd .n))) (fV nG) (by show s.gens[gens.size]? = _;rw [hg];exact Array.getElem?_push_size ..) ⟨rfl,?_⟩ (fun _ _ _ _ _ q=>q) ?_
  ·refine Cg (dp:=dp) (un:=un + 3) (D:=D) (t:=t) (frs:=(L,oF) :: frs) (ext:=(G,bW gens.size n1 n2 t1 t2) :: rest) hk ⟨hN.at nL.1,F1.keep,Nat.le_of_lt (Nat.lt_of_le_of_lt F.above hLL)⟩ X ?_ T (by exact aA fun h9=>lN [_,_] [(1,.l V0 (.a V1 (.k 12))),(1,.t (.a V1 (.k 20)) V0)] (.c h9 (.c hd .n))) (by omega) (Fs oF hFn) ?_ (fun h' tk' e hE=>⟨_,rfl,h',tk',e,rfl,rfl,hE⟩)
   ·intro p hp
    rcases aH hp with hp | hp
    ·rcases ag hp with rfl | hp
     ·exact ⟨nG,hGL,(N1 _ (.tail _ (.head _))).2.2⟩
     ·have:=N1 p (.tail _ (.tail _ (.tail _ (aj hp))))
      exact ⟨this.1,hLr p hp,this.2.2⟩
    ·rcases ag hp with rfl | hp
     ·exact ⟨hF1,Nat.ne_of_lt hLL,hL0⟩
     ·have:=N1 p (.tail _ (.tail _ (.tail _ (ac hp))))
      exact ⟨this.1,hLf p hp,this.2.2⟩
   ·intro p hp q
    rcases ag q with q | q
    ·rcases ag hp with rfl | hp
     ·exact (N1 _ (.tail _ (.head _))).2.1 q
     ·exact (N1 p (.tail _ (.tail _ (.tail _ (aj hp))))).2.1 q
    ·exact off p hp q
  ·rintro e s₁ ⟨h',tk',e',rfl,rfl,hE⟩
   refine (let G0:Prop:=_;(?_:G0))
   obtain ⟨⟨B,t9,e9,tm,b1,b2,b3,b4,b5,b6,b7,b8⟩,_⟩:=id hE
   obtain ⟨oe,_,_,_,c1,c2,_⟩:=b3
   refine ⟨"ValueError",⟨oe,c1,c2⟩,mR,fV (b1 _ _ (b8 _ (.head _))),?_⟩
   have eS:({ ({ s with heap:=h1,gens:=s.gens,toks:=tk }:Shared).setGen gens.size .running with heap:=h',toks:=tk' }:Shared).setGen gens.size .finished = { s with heap:=h',gens:=gens.push .finished,toks:=tk' }:=by
    simp only [Shared.setGen,hg,gq]
   rw [eS]
   exact h h' tk' e' oF ⟨es,ep,hF2,hF3,hF4⟩ hE
 ·rintro acc g nx h1 tk c Q' ⟨h,_⟩
  cases h
end
section
section
variable {prog:Program} {w:World} {A A₀:Around} {E:Value → Shared → Prop} {s:Shared} {K:Frag} {C L:Addr} {h₀ base:Heap} {m mg mb:PySem.Str → Option Value} {news:List (Addr × Obj)} {p:Program} {loose:List PySem.Str} {mean:ExcName → Option Value} {Q:Value → Shared → Prop}
theorem ux {R:Result → Shared → Prop} {name qual:PySem.Str} {params:Arguments} {body:List Stmt} {scope:Scope} {dV kV doc pm cdv ct oc:Value} {an od:Option Addr} {osl:Array (Option Value)} {f:Addr} {args:Args} (binds:List (PySem.Str × Value))
  (F:Fr h₀ L s.heap m) (X₀:K.In h₀) (N:News h₀ L s.heap news) (T:Top p loose mean mg mb h₀) (hL0:h₀.get? L = none)
  (ho:K.lookup f = some ⟨oc,od,.func (fnOf name qual params body scope dV kV doc pm an cdv ct),osl⟩) (hcd:codeIn K cdv qual = true) (hroom:A.depth < recursionLimit)
  (hbind:BindsTo s (fnOf name qual params body scope dV kV doc pm an cdv ct) args binds) (hloc:∀ y ∈ binds,scope.names.lookup y.1 = some .local)
  (hco:scope.isCoroutine = false) (hgen:scope.isGenerator = false) (hk:scope.kind = .function) (hcell:∀ x ∈ scope.names,x.2 ≠ .cell)
  (h:∀ L2 h₁ oL,uI oL m → Fr h₀ L2 h₁ (fun y=>binds.reverse.lookup y) → News h₀ L2 h₁ ((L,oL) :: news) → L < L2 → (∀ p ∈ news,p.1 < L2) →
   wpAny (model prog w) (A.deeper (envOf qual scope L2 f cdv)) (execs body (envOf qual scope L2 f cdv))
    (fun fl s'=>R (.ok (.ret (match fl with | .ret v=>v | _=>.none))) s')
    (fun e s'=>wpAny (model prog w) (A.deeper (envOf qual scope L2 f cdv)) (leaving (envOf qual scope L2 f cdv) e) (fun _ s''=>R (.error e) s'') (fun e' s''=>R (.error e') s'') s')
    { s with heap:=h₁,toks:=s.toks + binds.length }):codeAny (model prog w) A (.call (.ref f) args) R s:=by
 refine codeAny_call_def (fd:=fnOf name qual params body scope dV kV doc pm an cdv ct) (body:=body) (binds:=binds) hroom ((X₀.keeps F.keep) _ _ ho) rfl (T.nolimit.keeps F.keep) (codeRec_of (X₀.keeps F.keep) hcd) rfl hbind hcell hloc (fun h₁ hns hk₁=>?_) hco hgen hk
 obtain ⟨oL,es,ep,hL,hd,h1,h2⟩:=F.ns
 refine h s.heap.objs.size h₁ oL ⟨es,ep,hd,h1,h2⟩ ⟨hns,fun b o e=>hk₁ b o (F.keep b o e),Nat.le_of_lt (Nat.lt_of_le_of_lt F.above (Heap.lt_size hL))⟩ (fun p hp=>?_) (Heap.lt_size hL) (fun p hp=>Heap.lt_size (N p hp).1)
 rcases ag hp with rfl | hp
 ·exact ⟨hk₁ _ _ hL,Nat.ne_of_lt (Heap.lt_size hL),hL0⟩
 ·exact ⟨hk₁ _ _ (N p hp).1,Nat.ne_of_lt (Heap.lt_size (N p hp).1),(N p hp).2.2⟩
end
theorem pZ {k:Int} (hk:k = 0 ∨ k = 3) {w:World} {dp un:Nat} {gd:Option (List Code)} {cn:PySem.Str} {cs:Scope} {a:Addr} {ccd:Value} {cl:List (PySem.Str × Addr)} {mean:ExcName → Option Value} {mg mb:PySem.Str → Option Value} {h₀:Heap} {L D:Addr} {news:List (Addr × Obj)} {m:PySem.Str → Option Value} {s:Shared} {E Q:Value → Shared → Prop} {t:Tok}
  (F:Fr h₀ L s.heap m) (X:(K w.params).In h₀) (N:News h₀ L s.heap news) (T:Top (am pW) (looseW (am pW) aE) mean mg mb h₀)
  (hks:cs.kind = .function) (hd:dp + 40 < recursionLimit) (hu:un + 600 < cLine) (hL0:h₀.get? L = none)
  (h:∀ t' h' tk',Fr h₀ L h' m → News h₀ L h' news → Q (.str (aQ k) t') { s with heap:=h',gens:=s.gens.push .finished,toks:=tk' }) :
  wpAny (model rW.row.prog w) (ktrTop dp un gd cn cs L a ccd cl []) (call (.ref 451) [.ref D,.int k t]) Q E s:=by
 revert X
 k_fill
 intro X
 refine wpAny_call ?_
 refine ux (K:=K w.params) [(Str.ofString "delta",.ref D),(Str.ofString "which",.int k t)] F X N T hL0 (by k_is) (by k_is) (by ((try simp (config:={zetaDelta:=true}) only [depth_under_make,depth_under_kw,depth_in1,depth_deeper,depth_caller,units_in1,units_deeper,Around.mark_units,units_caller,Around.in1_depth,Around.in1_units,Around.deeper_units] at *);(try dsimp only [ktrTop] at *);have hcL9:=cLine_is;(simp only [recursionLimit] at *);omega)) (BindsTo.of_eq rfl) (locs rfl) rfl rfl rfl ?_ ?_
 ·decide
 intro L2 h1 oL hoL F2 N2 hLL hlt
 refine wpAny_execs_cons ?_
 refine wpAny_Try_except ?_
 have hNL:∀ p ∈ news,p.1 ≠ L:=fun p hp=>(N p hp).2.1
 have hN0:∀ p ∈ news,h₀.get? p.1 = none:=fun p hp=>(N p hp).2.2
 have hab2:h₀.objs.size ≤ L2:=F2.above
 have hab:h₀.objs.size ≤ L:=F.above
 clear F N
 k_steps
 refine ed F2 X N2 T (by ((try simp (config:={zetaDelta:=true}) only [depth_under_make,depth_under_kw,depth_in1,depth_deeper,depth_caller,units_in1,units_deeper,Around.mark_units,units_caller,Around.in1_depth,Around.in1_units,Around.deeper_units] at *);(try dsimp only [ktrTop] at *);have hcL9:=cLine_is;(simp only [recursionLimit] at *);omega)) (fun Lg G h3 oG tk3 t1 t2 F3 N3 hlt3 hLG hLL3 hNs=>?_)
 clear F2 N2
 k_steps
 have hL20:h₀.get? L2 = none:=by
  cases e:h₀.get? L2 with
  | none=>rfl
  | some o=>exact absurd (Heap.lt_size e) (Nat.not_lt_of_le F3.above)
 have hfr:∀ oF:Obj,(∀ vs,oF.data ≠ .fields vs) → yk h₀ [envOf (Str.ofString "_law_refused") (aY (bE pW 53)) L2 451 (.ref 450),envX cn cs L a ccd cl] ((L2,oF) :: [(L,oL)]):=fun oF hoF=>by
  obtain ⟨es,ep,hd1,_,_⟩:=hoL
  refine ⟨fun h hp=>?_,?_,?_⟩
  ·exact ⟨(by show (aY (bE pW 53)).kind ≠ _;intro q;cases q),⟨L2,oF,rfl,hL20,hp _ (.head _),hoF⟩,⟨(by show cs.kind ≠ _;rw [hks];intro q;cases q),⟨L,oL,rfl,hL0,hp _ (.tail _ (.head _)),fun vs q=>by rw [hd1] at q;cases q⟩,trivial⟩⟩
  ·intro env he b hb
   rcases ag he with rfl | he
   ·cases hb;exact .head _
   rcases ag he with rfl | he
   ·cases hb;exact .tail _ (.head _)
   ·cases he
  ·intro p hp
   rcases ag hp with rfl | hp
   ·exact hoF
   rcases ag hp with rfl | hp
   ·intro vs q;rw [hd1] at q;cases q
   ·cases hp
 refine wF hk (n1:=Str.ofString "restore") (n2:=Str.ofString "restore") (t1:=t1) (t2:=t2) (oL:=oG) (rest:=news) (frs:=[(L,oL)]) (L:=L2) (gens:=s.gens) (D:=D) (t:=t) F3 X ?N T ?hd ?hu rfl hNs hL20 hfr (Nat.ne_of_gt hLG) (fun p hp=>Nat.ne_of_lt (hlt3 p (.tail _ hp))) (fun p hp=>?_) (fun p hp q=>?_) hLL3 (fun h4 tk4 e oF hoF hE=>?_)
 case hd=>((try simp (config:={zetaDelta:=true}) only [depth_under_make,depth_under_kw,depth_in1,depth_deeper,depth_caller,units_in1,units_deeper,Around.mark_units,units_caller,Around.in1_depth,Around.in1_units,Around.deeper_units] at *);(try dsimp only [ktrTop] at *);have hcL9:=cLine_is;(simp only [recursionLimit] at *);omega)
 case hu=>((try simp (config:={zetaDelta:=true}) only [depth_under_make,depth_under_kw,depth_in1,depth_deeper,depth_caller,units_in1,units_deeper,Around.mark_units,units_caller,Around.in1_depth,Around.in1_units,Around.deeper_units] at *);(try dsimp only [ktrTop] at *);have hcL9:=cLine_is;(simp only [recursionLimit] at *);omega)
 case N =>
  intro p hp
  refine N3 p ?_
  rcases ag hp with rfl | hp
  ·exact .head _
  rcases ag hp with rfl | hp
  ·exact .tail _ (.head _)
  rcases aH hp with hp | hp
  ·exact .tail _ (.tail _ (.tail _ hp))
  ·rcases ag hp with rfl | hp
   ·exact .tail _ (.tail _ (.head _))
   ·cases hp
 ·rcases ag hp with rfl | hp
  ·exact Nat.ne_of_lt (hlt3 _ (.head _))
  ·cases hp
 ·rcases ag q with q | q
  ·rcases ag hp with rfl | hp
   ·have:=hlt3 _ (.head _)
    exact absurd (Nat.lt_trans this hLG) (by rw [show G = L from q];exact Nat.lt_irrefl _)
   ·exact hNL p hp q
  ·cases q
 refine (let G0:Prop:=_;(?_:G0))
 obtain ⟨⟨B,t9,e9,tm,b1,b2,b3,b4,b5,b6,b7,b8⟩,hfr4⟩:=hE
 have hfl:Heap.FlyingW B (envOf (Str.ofString "_law_refused") (aY (bE pW 53)) L2 451 (.ref 450) :: [envX cn cs L a ccd cl]) e (.type "ValueError") (.ref t9) h4:=⟨b1,b4,b2,b3.traced⟩
 clear F3 N3 b2
 refine wpAny_looks_onW (outer:=[envX cn cs L a ccd cl]) (L:=L2) rfl rfl hfl fun h5 hheld5 hsm5=>?_
 refine wpAny_landsW hheld5 fun h6 hfl6 hsm6=>?_
 have nsAt:∀ {o:Obj} {mm:PySem.Str → Option Value} {h:Heap} {b:Addr} {sl:Array (Option Value)},uI o mm → h.get? b = some { o with slots:=sl } → h.Ns b mm:=fun n g=>let ⟨es,ep,x,y,z⟩:=n;⟨_,es,ep,g,x,y,z⟩
 refine (let G0:Prop:=_;(?_:G0))
 obtain ⟨sl2,hs2⟩:=hfr4 _ (.head _)
 obtain ⟨sl1,hs1⟩:=hfr4 _ (.tail _ (.head _))
 have ns4:=nsAt hoF hs2
 have hsm:=hsm5.trans hsm6
 have F6:Fr h₀ L2 h6 _:=⟨hsm.ns ns4,fun b o q=>hfl6.1 _ _ (b7 b o q),hab2⟩
 obtain ⟨ob,hob,hobc⟩:=hfl6.there
 refine wpAny_handleBy_builtin_as (X := "ValueError") (T := "ValueError") (b:=true) PySem.F.isExc_ValueError PySem.F.notTuple_ValueError (by rw [isSubtype_type];kernel_rfl) ?_
 refine nameX_B (K:=K w.params) F6 X (by k_asm) (by k_is) PyProof.Rows.Boot.«ValueError» (by decide +kernel) ⟨rfl,⟨ob,hob,hobc⟩,?_⟩
 rw [if_pos rfl]
 refine lands_againW hfl6 fun h7 hfl7 hsm7=>?_
 have hsm':=hsm.trans hsm7
 have F7:Fr h₀ L2 h7 _:=⟨hsm'.ns ns4,fun b o q=>hfl7.1 _ _ (b7 b o q),hab2⟩
 refine (let G0:Prop:=_;(?_:G0))
 obtain ⟨oe,ws,hoe,hoec,hoed,hoe0⟩:=hfl7.first
 obtain ⟨ot,nt,hot,hotc,hotd⟩:=b6.of_slots hsm'
 obtain ⟨sl7,hs7⟩:=hsm' L _ hs1 (fun vs q=>by obtain ⟨es,ep,x,_⟩:=hoL;rw [show ({ oL with slots:=sl1 }:Obj).data = oL.data from rfl,x] at q;cases q)
 have none0:∀ {b},B.get? b = none → h₀.get? b = none:=fun {b} q=>by
  cases e0:h₀.get? b with
  | none=>rfl
  | some o=>rw [b7 _ _ e0] at q;cases q
 have N7:News h₀ L2 h7 ((e,oe) :: (t9,ot) :: (L,{ oL with slots:=sl7 }) :: news):=by
  intro p hp
  rcases ag hp with rfl | hp
  ·refine ⟨hoe,fun q=>?_,none0 b4⟩
   obtain ⟨o,es,ep,x,y,_⟩:=F7.ns
   rw [← show e = L2 from q,hoe] at x;cases x;rw [hoed] at y;cases y
  rcases ag hp with rfl | hp
  ·refine ⟨hot,fun q=>?_,none0 b5⟩
   obtain ⟨o,es,ep,x,y,_⟩:=F7.ns
   rw [← show t9 = L2 from q,hot] at x;cases x;rw [hotd] at y;cases y
  rcases ag hp with rfl | hp
  ·exact ⟨hs7,Nat.ne_of_lt hLL,hL0⟩
  ·exact ⟨hfl7.1 _ _ (b8 p (.tail _ hp)),Nat.ne_of_lt (hlt p hp),hN0 p hp⟩
 have G7:Got ((e,oe) :: (t9,ot) :: (L,{ oL with slots:=sl7 }) :: news) e t9 (.type "ValueError") [.str (aQ k) tm]:=⟨oe,ot,ws,nt,.head _,.tail _ (.head _),hoec,hoed,hoe0,hotc,hotd⟩
 refine storeX_L F7 N7 (fun h8 F8 N8=>?_)
 clear F6 F7 N7
 k_steps
 rename Fr _ _ _ _=>F9
 rename News _ _ _ _=>N9
 have hLm:(L,({ oL with slots:=sl7 }:Obj)) ∈ (e,oe) :: (t9,ot) :: (L,{ oL with slots:=sl7 }) :: news:=.tail _ (.tail _ (.head _))
 refine h tm _ _ ⟨nsAt hoL (N9 _ hLm).1,F9.keep,hab⟩ (fun p hp=>?_)
 have:=N9 p (.tail _ (.tail _ (.tail _ hp)))
 exact ⟨this.1,hNL p hp,this.2.2⟩
end
section
theorem AH {h₀ h:Heap} {L I l:Addr} {oI:Obj} {i:Nat} {news:List (Addr × Obj)} (N:News h₀ L h news) (hm:(I,oI) ∈ news) (ho:CC oI l i):h.IsListIter I l i:=⟨oI,(N _ hm).1,ho.1,ho.2⟩
theorem jU {h₀ h h':Heap} {L b:Addr} {m:PySem.Str → Option Value} (F:Fr h₀ L h m) (hs:Heap.ExtBut b h h') (hL:b ≠ L) (h0:h₀.get? b = none):Fr h₀ L h' m :=
 ⟨F.ns.extBut hs hL.symm,fun c x e=>hs c x (by rintro rfl;rw [h0] at e;cases e) (F.keep c x e),F.above⟩
end
section
open PyProof.Rows.LCg
noncomputable def Cd (h₀:Heap) (L C D:Addr):Prop:=C ≠ L ∧ h₀.get? C = none ∧ D ≠ L ∧ h₀.get? D = none ∧ D ≠ C
structure eX (h₀:Heap) (L:Addr) (m:PySem.Str → Option Value) (C D:Addr) (oC:Obj) (ys:List Value) (nx:List (Addr × Obj)) (h:Heap):Prop where
 F:Fr h₀ L h m
 N:News h₀ L h ((C,oC) :: (D,lst ys) :: nx)
 off:∀ p ∈ nx,p.1 ≠ C ∧ p.1 ≠ D
section
variable {h₀ h h':Heap} {L C D:Addr} {m:PySem.Str → Option Value} {oC oC':Obj} {ys ys':List Value} {nx news:List (Addr × Obj)}
theorem eX.cell (H:eX h₀ L m C D oC ys nx h) (K:Cd h₀ L C D) (hs:Heap.ExtBut C h h') (e:h'.get? C = some oC'):eX h₀ L m C D oC' ys nx h':=by
 refine ⟨jU H.F hs K.1 K.2.1,fun p hp=>?_,H.off⟩
 rcases ag hp with rfl | hp
 ·exact ⟨e,K.1,K.2.1⟩
 ·have z:=H.N p (.tail _ hp)
  refine ⟨hs _ _ ?_ z.1,z.2⟩
  rcases ag hp with rfl | hp
  ·exact K.2.2.2.2
  ·exact (H.off p hp).1
theorem eX.app (H:eX h₀ L m C D oC ys nx h) (K:Cd h₀ L C D) (hs:Heap.ExtBut D h h') (e:h'.get? D = some (lst ys')):eX h₀ L m C D oC ys' nx h':=by
 refine ⟨jU H.F hs K.2.2.1 K.2.2.2.1,fun p hp=>?_,H.off⟩
 rcases ag hp with rfl | hp
 ·exact ⟨hs _ _ (Ne.symm K.2.2.2.2) (H.N _ (.head _)).1,(H.N _ (.head _)).2⟩
 rcases ag hp with rfl | hp
 ·exact ⟨e,K.2.2.1,K.2.2.2.1⟩
 ·have z:=H.N p (.tail _ (.tail _ hp))
  exact ⟨hs _ _ (H.off p hp).2 z.1,z.2⟩
theorem eX.lose (H:eX h₀ L m C D oC ys nx h) (K:Cd h₀ L C D) (hs:Heap.ExtBut C h h'):Fr h₀ L h' m ∧ News h₀ L h' ((D,lst ys) :: nx):=by
 refine ⟨jU H.F hs K.1 K.2.1,fun p hp=>?_⟩
 have z:=H.N p (.tail _ hp)
 refine ⟨hs _ _ ?_ z.1,z.2⟩
 rcases ag hp with rfl | hp
 ·exact K.2.2.2.2
 ·exact (H.off p hp).1
theorem uE {o:Obj} (F:Fr h₀ L h m) (N:News h₀ L h news) (hs:Heap.ExtBut (h.push (lst [])).objs.size ((h.push (lst [])).push o) h') (e:h'.get? (h.push (lst [])).objs.size = some oC) :
  Cd h₀ L (h.push (lst [])).objs.size h.objs.size ∧ eX h₀ L m (h.push (lst [])).objs.size h.objs.size oC [] news h' ∧ (∀ p ∈ news,p.1 < h.objs.size) ∧ L < h.objs.size ∧ h.objs.size < (h.push (lst [])).objs.size:=by
 have hC:(h.push (lst [])).objs.size = h.objs.size + 1:=Heap.size_push ..
 generalize (h.push (lst [])).objs.size = C at hs e hC ⊢
 have hCD:h.objs.size < C:=hC ▸ Nat.lt_succ_self _
 have none₀:∀ a,h.objs.size ≤ a → h₀.get? a = none:=fun a ha=>by
  cases e:h₀.get? a with
  | none=>rfl
  | some o'=>exact absurd (Heap.lt_size (F.keep a o' e)) (Nat.not_lt.mpr ha)
 have old:∀ b o,h.get? b = some o → h'.get? b = some o:=fun b o e=>hs b o (Nat.ne_of_lt (Nat.lt_trans (Heap.lt_size e) hCD)) (Heap.get?_push_of_some _ (Heap.get?_push_of_some _ e))
 have hL:L < h.objs.size:=F.ns.lt
 refine ⟨⟨Nat.ne_of_gt (Nat.lt_trans hL hCD),none₀ _ (Nat.le_of_lt hCD),Nat.ne_of_gt hL,none₀ _ (Nat.le_refl _),Nat.ne_of_lt hCD⟩,⟨F.keeps old,fun p hp=>?_,fun p hp=>?_⟩,fun p hp=>Heap.lt_size (N p hp).1,hL,hCD⟩
 ·rcases ag hp with rfl | hp
  ·exact ⟨e,Nat.ne_of_gt (Nat.lt_trans hL hCD),none₀ _ (Nat.le_of_lt hCD)⟩
  rcases ag hp with rfl | hp
  ·exact ⟨hs _ _ (Nat.ne_of_lt hCD) (Heap.get?_push_of_some _ (Heap.get?_push_size _ rfl)),Nat.ne_of_gt hL,none₀ _ (Nat.le_refl _)⟩
  ·exact ⟨old _ _ (N p hp).1,(N p hp).2⟩
 ·have z:=Heap.lt_size (N p hp).1
  exact ⟨Nat.ne_of_lt (Nat.lt_trans z hCD),Nat.ne_of_lt z⟩
end
structure fP (prog:Program) (w:World) (A:Around) (h₀:Heap) (L:Addr) (m:PySem.Str → Option Value) (env:Env) (elt:PySem.Expr) (x:PySem.Str) (scope:Scope) (cl:List (PySem.Str × Addr)) (s:Shared) (I D C:Addr) (n:Nat)
  (Inv:Nat → List Value → Array GenState → List (Addr × Obj) → Prop) (Mid:Nat → List Value → Value → Array GenState → List (Addr × Obj) → Prop) (Q:Value → Shared → Prop):Prop where
 self:∀ (s':Shared) (Q' E':Value → Shared → Prop) ys g nx,Inv 0 ys g nx → News h₀ L s'.heap nx → Q' (.ref I) s' → wpAny (model prog w) A (pyIter (.ref I)) Q' E' s'
 item:∀ i ys g nx oC h tk (Q':Option Value → Shared → Prop) (E:Value → Shared → Prop),i < n → Inv i ys g nx → eX h₀ L m C D oC ys nx h →
  (∀ v h' g' tk' nx',eX h₀ L m C D oC ys nx' h' → Mid i ys v g' nx' → Q' (some v) { s with heap:=h',gens:=g',toks:=tk' }) → wpAny (model prog w) A (pyNext (.ref I)) Q' E { s with heap:=h,gens:=g,toks:=tk }
 elt:∀ i ys v g nx oC m₂ h tk (Q':Value → Shared → Prop) (E:Value → Shared → Prop),i < n → Mid i ys v g nx → NsObj oC m₂ → m₂ x = some v → eX h₀ L m C D oC ys nx h →
  (∀ y h' g' tk' nx',eX h₀ L m C D oC ys nx' h' → Inv (i + 1) (ys++[y]) g' nx' → Q' y { s with heap:=h',gens:=g',toks:=tk' }) → wpAny (model prog w) A (eval elt (compEnvC scope cl C env)) Q' E { s with heap:=h,gens:=g,toks:=tk }
 done:∀ ys g nx oC h tk (Q':Option Value → Shared → Prop) (E:Value → Shared → Prop),Inv n ys g nx → eX h₀ L m C D oC ys nx h →
  (∀ h' g' tk' nx',eX h₀ L m C D oC ys nx' h' → (∀ h'',Fr h₀ L h'' m → News h₀ L h'' ((D,lst ys) :: nx') → Q (.ref D) { s with heap:=h'',gens:=g',toks:=tk' }) → Q' none { s with heap:=h',gens:=g',toks:=tk' }) → wpAny (model prog w) A (pyNext (.ref I)) Q' E { s with heap:=h,gens:=g,toks:=tk }
inductive EP (h₀:Heap) (L:Addr) (m:PySem.Str → Option Value) (C D:Addr) (s:Shared) (n:Nat) (Inv:Nat → List Value → Array GenState → List (Addr × Obj) → Prop) (k:Nat) (s':Shared):Prop
 | mk (h:Heap) (g:Array GenState) (tk i:Nat) (ys:List Value) (oC:Obj) (m':PySem.Str → Option Value) (nx:List (Addr × Obj)):s' = { s with heap:=h,gens:=g,toks:=tk } → i ≤ n → k = n + 1 - i → ys.length = i → NsObj oC m' → eX h₀ L m C D oC ys nx h → Inv i ys g nx → EP h₀ L m C D s n Inv k s'
section
variable {prog:Program} {w:World} {A:Around} {E:Value → Shared → Prop} {s:Shared} {h₀:Heap} {L:Addr} {m:PySem.Str → Option Value} {env:Env} {elt iter:PySem.Expr} {x:PySem.Str} {px:Pos} {scope:Scope} {cl:List (PySem.Str × Addr)} {pos:Pos} {Q:Value → Shared → Prop}
theorem vX {I D C:Addr} {n k:Nat} {Inv:Nat → List Value → Array GenState → List (Addr × Obj) → Prop} {Mid:Nat → List Value → Value → Array GenState → List (Addr × Obj) → Prop} {R:Result → Shared → Prop} {s':Shared}
  (Kd:Cd h₀ L C D) (W:fP prog w A h₀ L m env elt x scope cl s I D C n Inv Mid Q) (hsz:n ≤ sizeLine) (hkind:scope.kind = .function) (hx:scope.names.lookup x = some .local)
  (hR:∀ oC ys g nx h tk m',NsObj oC m' → eX h₀ L m C D oC ys nx h → (∀ h'',Fr h₀ L h'' m → News h₀ L h'' ((D,lst ys) :: nx) → Q (.ref D) { s with heap:=h'',gens:=g,toks:=tk }) → R (.ok .next) { s with heap:=h,gens:=g,toks:=tk })
  (hI:EP h₀ L m C D s n Inv k s'):codeAny (model prog w) A (.compLoop (.ListComp elt [⟨.Name x px,iter,[],0⟩] scope pos) 0 (.ref I) (.ref D) (compEnvC scope cl C env)) R s':=by
 refine codeAny_compLoop_tests (EP h₀ L m C D s n Inv) ?_ k hI
 rintro k s' ⟨h',g,tk,i,ys,oC,m',nx,rfl,hi,rfl,hyl,hoC,H,hI'⟩
 by_cases hlt:i < n
 ·refine W.item i ys g nx oC h' tk _ _ hlt hI' H fun v h₂ g₂ tk₂ nx₂ H₂ hM=>?_
  refine wpAny_assign_Name (wpAny_storeName_local (lookup_relabel_local hx) (hoC.ns (H₂.N _ (.head _)).1) (fun h₃ hn₃ hs₃=>?_) (by simp [compEnvC,relabel,hkind]))
  refine wpAny_tests_nil ?_
  refine (let G0:Prop:=_;(?_:G0))
  obtain ⟨oC₃,heC,hoC₃⟩:=ns_obj hn₃
  refine W.elt i ys v g₂ nx₂ oC₃ _ h₃ _ _ _ hlt hM hoC₃ (if_pos rfl) (H₂.cell Kd hs₃.extBut heC) fun y h₄ g₄ tk₄ nx₄ H₄ hI₄=>?_
  refine append_at (hsz:=by show ys.toArray.size ≤ sizeLine;rw [List.size_toArray,hyl];exact Nat.le_trans hi hsz) (H₄.N _ (.tail _ (.head _))).1 fun h₅ hs₅ hD₅=>?_
  exact ⟨n + 1 - (i + 1),eC hlt,h₅,g₄,tk₄,i + 1,ys++[y],oC₃,_,nx₄,rfl,hlt,rfl,by rw [List.length_append,List.length_singleton,hyl],hoC₃,H₄.app Kd hs₅.extBut (hD₅.trans (congrArg some (lst_snoc ys y))),hI₄⟩
 ·obtain rfl:i = n:=Nat.le_antisymm hi (Nat.not_lt.mp hlt)
  exact W.done ys g nx oC h' tk _ _ hI' H fun h₂ g₂ tk₂ nx₂ H₂ hq=>hR oC ys g₂ nx₂ h₂ tk₂ m' hoC H₂ hq
inductive Df (prog:Program) (w:World) (A:Around) (h₀:Heap) (L:Addr) (m:PySem.Str → Option Value) (env:Env) (elt:PySem.Expr) (x:PySem.Str) (scope:Scope) (cl:List (PySem.Str × Addr)) (Q:Value → Shared → Prop) (s:Shared):Value → Prop
 | mk (I:Addr) (news:List (Addr × Obj)) (n:Nat):n ≤ sizeLine → Fr h₀ L s.heap m → News h₀ L s.heap news →
  (∀ D C,(∀ p ∈ news,p.1 < D) → L < D → D < C → ∃ Inv Mid,Inv 0 [] s.gens news ∧ fP prog w A h₀ L m env elt x scope cl s I D C n Inv Mid Q) → Df prog w A h₀ L m env elt x scope cl Q s (.ref I)
theorem mE (hclos:closureFor scope env = pure cl) (hcell:∀ y ∈ scope.names,y.2 ≠ .cell) (hkind:scope.kind = .function)
  (hnames:∀ y ∈ scope.names,y.2 = .local → scope.names.lookup y.1 = some .local) (hx:scope.names.lookup x = some .local)
  (h:wpAny (model prog w) A (eval iter env) (fun xv s₁=>wpAny (model prog w) A (pyIter xv) (fun it s₂=>Df prog w A h₀ L m env elt x scope cl Q s₂ it) E s₁) E s)
  (hs:∀ x,foldedSetIterable iter env x = pure x:=by intro _;rfl) :
  wpAny (model prog w) A (eval (.ListComp elt [⟨.Name x px,iter,[],0⟩] scope pos) env) Q E s:=by
 rw [eval_ListComp]
 refine wpAny_comprehension_free (use:=none) rfl hs hclos hkind hnames (wpAny_mono h (fun xv s₁ h₁=>wpAny_mono h₁ (fun it s₂ h₂=>?_) fun _ _ e=>e) fun _ _ e=>e)
 obtain ⟨I,news,n,hsz,F,N,hW⟩:=h₂
 refine wpAny_newObj_type (wpAny_newFunctionEnv hcell (by intro y hy;simp at hy) (fun h₁ hns₁ hsb₁=>?_) hkind)
 refine (let G0:Prop:=_;(?_:G0))
 obtain ⟨oC,heC,hoC⟩:=ns_obj hns₁
 obtain ⟨Kd,H,a,b,c⟩:=uE F N hsb₁.extBut heC
 obtain ⟨Inv,Mid,hI0,W⟩:=hW _ _ a b c
 have loop:=vX (s':={ s₂ with heap:=h₁,toks:=s₂.toks + ([]:List (PySem.Str × Value)).length }) (px:=px) (iter:=iter) (pos:=pos) (R:=compPost (model prog w) A E none Q (.ref s₂.heap.objs.size) (s₂.heap.push (lst [])).objs.size) Kd W hsz hkind hx (fun oC ys g nx h tk m' ho H hq=>⟨m',ho.ns (H.N _ (.head _)).1,fun h'' hs''=>hq h'' (H.lose Kd hs''.extBut).1 (H.lose Kd hs''.extBut).2⟩) ⟨h₁,s₂.gens,_,0,[],oC,_,news,rfl,Nat.zero_le _,rfl,rfl,hoC,H,hI0⟩
 exact codeAny_compStart_list loop (W.self _ _ _ [] s₂.gens news hI0 (fun p hp=>H.N p (.tail _ (.tail _ hp))) loop)
end
end
section
open PyProof.Rows.LCg
noncomputable def ft (k:Nat):Array GenState:=Array.replicate k .finished
theorem iF (k:Nat):(ft k).push .finished = ft (k + 1):=by unfold ft;rw [Array.replicate_succ]
theorem bL.up {α:Type} {At:List (Addr × Obj) → Value → α → Prop} {led:List (Addr × Obj)} {ys:List Value} {xs:List α} {i:Nat} {y:Value} {x:α} (M:gM At) {led':List (Addr × Obj)} (h:bL At led ys (xs.take i)) (k:∀ p ∈ led,p ∈ led') (hx:xs[i]? = some x) (h1:At led' y x):bL At led' (ys++[y]) (xs.take (i + 1)):=by
 rw [List.take_add_one,hx]
 exact bL.snoc M h k h1
structure Ai {α:Type} (At:List (Addr × Obj) → Value → α → Prop) (prog:Program) (w:World) (A:Around) (h₀:Heap) (L:Addr) (m:PySem.Str → Option Value) (env:Env) (elt:PySem.Expr) (x:PySem.Str) (scope:Scope) (cl:List (PySem.Str × Addr)) (s:Shared) (vs:List Value) (xs:List α) (news:List (Addr × Obj)) (k0:Nat) (Q:Value → Shared → Prop):Prop where
 elt:∀ i v z C D ys oC m₂ h tk nx (Q':Value → Shared → Prop) (E:Value → Shared → Prop),vs[i]? = some v → xs[i]? = some z → NsObj oC m₂ → m₂ x = some v → Fr h₀ L h m → News h₀ L h ((C,oC) :: (D,lst ys) :: nx) → (∀ p ∈ news,p ∈ nx) →
  (∀ y h' tk' objs,Fr h₀ L h' m → News h₀ L h' (objs++((C,oC) :: (D,lst ys) :: nx)) → (∀ p ∈ objs,∀ q ∈ ((C,oC) :: (D,lst ys) :: nx:List (Addr × Obj)),q.1 ≠ p.1) → At objs y z → Q' y { s with heap:=h',gens:=(ft (k0 + i)).push .finished,toks:=tk' }) →
  wpAny (model prog w) A (eval elt (compEnvC scope cl C env)) Q' E { s with heap:=h,gens:=ft (k0 + i),toks:=tk }
 fin:∀ D ys objs h'' tk'',bL At objs ys xs → Fr h₀ L h'' m → News h₀ L h'' ((D,lst ys) :: (objs++news)) → (∀ p ∈ objs++news,p.1 ≠ D) → Q (.ref D) { s with heap:=h'',gens:=ft (k0 + vs.length),toks:=tk'' }
noncomputable def Ci (h₀:Heap) (L C D I:Addr) (nx:List (Addr × Obj)):Prop:=I ≠ L ∧ h₀.get? I = none ∧ C ≠ I ∧ D ≠ I ∧ ∀ p ∈ nx,p.1 ≠ I
theorem eX.unit {h₀ h h':Heap} {L C D I:Addr} {m:PySem.Str → Option Value} {oC oI:Obj} {ys:List Value} {nx:List (Addr × Obj)} (H:eX h₀ L m C D oC ys ((I,oI) :: nx) h) (K:Ci h₀ L C D I nx) (hs:Heap.ExtBut I h h'):eX h₀ L m C D oC ys nx h':=by
 refine ⟨jU H.F hs K.1 K.2.1,fun p hp=>?_,fun p hp=>H.off p (.tail _ hp)⟩
 have put:∀ p ∈ ((C,oC) :: (D,lst ys) :: (I,oI) :: nx:List (Addr × Obj)),p.1 ≠ I → h'.get? p.1 = some p.2 ∧ p.1 ≠ L ∧ h₀.get? p.1 = none:=fun p hp hne=>⟨hs _ _ hne (H.N p hp).1,(H.N p hp).2⟩
 rcases ag hp with rfl | hp
 ·exact put _ (.head _) K.2.2.1
 rcases ag hp with rfl | hp
 ·exact put _ (.tail _ (.head _)) K.2.2.2.1
 ·exact put p (.tail _ (.tail _ (.tail _ hp))) (K.2.2.2.2 p hp)
theorem eX.it {h₀ h h':Heap} {L C D I:Addr} {m:PySem.Str → Option Value} {oC oI oI2:Obj} {ys:List Value} {nx:List (Addr × Obj)} (H:eX h₀ L m C D oC ys ((I,oI) :: nx) h) (K:Ci h₀ L C D I nx) (hs:Heap.ExtBut I h h') (e:h'.get? I = some oI2):eX h₀ L m C D oC ys ((I,oI2) :: nx) h':=by
 have U:=H.unit K hs
 refine ⟨U.F,fun p hp=>?_,fun p hp=>?_⟩
 ·rcases ag hp with rfl | hp
  ·exact U.N _ (.head _)
  rcases ag hp with rfl | hp
  ·exact U.N _ (.tail _ (.head _))
  rcases ag hp with rfl | hp
  ·exact ⟨e,K.1,K.2.1⟩
  ·exact U.N p (.tail _ (.tail _ hp))
 ·rcases ag hp with rfl | hp
  ·exact ⟨K.2.2.1.symm,K.2.2.2.1.symm⟩
  ·exact U.off p hp
theorem eX.more {h₀ h h':Heap} {L C D I:Addr} {m:PySem.Str → Option Value} {oC oI:Obj} {ys:List Value} {objs ob2 news:List (Addr × Obj)} (H:eX h₀ L m C D oC ys ((I,oI) :: (objs++news)) h) (F:Fr h₀ L h' m) (N:News h₀ L h' (ob2++((C,oC) :: (D,lst ys) :: (I,oI) :: (objs++news)))) (off:∀ p ∈ ob2,∀ q ∈ ((C,oC) :: (D,lst ys) :: (I,oI) :: (objs++news):List (Addr × Obj)),q.1 ≠ p.1):eX h₀ L m C D oC ys ((I,oI) :: ((ob2++objs)++news)) h':=by
 refine ⟨F,fun p hp=>N p ?_,fun p hp=>?_⟩
 ·rw [List.append_assoc] at hp
  rcases ag hp with rfl | hp
  ·exact ac (.head _)
  rcases ag hp with rfl | hp
  ·exact ac (.tail _ (.head _))
  rcases ag hp with rfl | hp
  ·exact ac (.tail _ (.tail _ (.head _)))
  rcases aH hp with hp | hp
  ·exact aj hp
  ·exact ac (.tail _ (.tail _ (.tail _ hp)))
 ·rw [List.append_assoc] at hp
  rcases ag hp with rfl | hp
  ·exact H.off _ (.head _)
  rcases aH hp with hp | hp
  ·exact ⟨(off p hp (C,oC) (.head _)).symm,(off p hp (D,lst ys) (.tail _ (.head _))).symm⟩
  ·exact H.off p (.tail _ hp)
inductive EQ {α:Type} (At:List (Addr × Obj) → Value → α → Prop) (xs:List α) (news:List (Addr × Obj)) (k0 I V i j:Nat) (ys:List Value) (g:Array GenState) (nx:List (Addr × Obj)):Prop
 | mk (objs:List (Addr × Obj)) (oI:Obj):g = ft (k0 + i) → nx = (I,oI) :: (objs++news) → CC oI V j → bL At objs ys (xs.take i) → (∀ p ∈ objs,p.1 ≠ I) → EQ At xs news k0 I V i j ys g nx
section
variable {prog:Program} {w:World} {A:Around} {E:Value → Shared → Prop} {s:Shared} {h₀:Heap} {L:Addr} {m:PySem.Str → Option Value} {env:Env} {α:Type} {At:List (Addr × Obj) → Value → α → Prop} {elt iter:PySem.Expr} {x:PySem.Str} {px:Pos} {scope:Scope} {cl:List (PySem.Str × Addr)} {pos:Pos} {Q:Value → Shared → Prop} {xs:List α}
theorem wo (M:gM At) {V k k0 I D C:Nat} {news:List (Addr × Obj)} {vs:List Value} {hp:Heap} (hh:A.handled = none) (hV:(V,listOf vs.toArray k) ∈ news) (hl:vs.length = xs.length) (W:Ai At prog w A h₀ L m env elt x scope cl s vs xs news k0 Q) (K:Ci h₀ L C D I news) :
  fP prog w A h₀ L m env elt x scope cl { s with heap:=hp } I D C vs.length (fun i ys g nx=>EQ At xs news k0 I V i i ys g nx) (fun i ys v g nx=>vs[i]? = some v ∧ EQ At xs news k0 I V i (i + 1) ys g nx) Q:=by
 have Kc:∀ {objs:List (Addr × Obj)},(∀ p ∈ objs,p.1 ≠ I) → Ci h₀ L C D I (objs++news):=fun h=>⟨K.1,K.2.1,K.2.2.1,K.2.2.2.1,fun p hp=>(aH hp).elim (h p) (K.2.2.2.2 p)⟩
 have lV:∀ {h:Heap} {oC oI:Obj} {ys:List Value} {objs:List (Addr × Obj)},eX h₀ L m C D oC ys ((I,oI) :: (objs++news)) h → h.IsList V vs.toArray:=fun H=>News.isList H.N (.tail _ (.tail _ (.tail _ (ac hV))))
 have lI:∀ {h:Heap} {oC oI:Obj} {ys:List Value} {nx:List (Addr × Obj)} {j:Nat},eX h₀ L m C D oC ys ((I,oI) :: nx) h → CC oI V j → h.IsListIter I V j:=fun H ho=>AH H.N (.tail _ (.tail _ (.head _))) ho
 constructor
 ·rintro s' Q' E' ys g nx ⟨objs,oI,_,rfl,hoI,_,_⟩ N' hQ
  exact wpAny_pyIter_listiter (AH N' (.head _) hoI) hQ
 ·rintro i ys g nx oC h tk Q' E hi ⟨objs,oI,rfl,rfl,hoI,hL,hob⟩ H hk
  have hv:vs[i]? = some vs[i]:=List.getElem?_eq_getElem hi
  generalize vs[i] = v at hv
  refine wpAny_pyNext_list_item (lI H hoI) (lV H) (by simpa using hv) (fun h2 hit2 hs2=>?_)
  refine (let G0:Prop:=_;(?_:G0))
  obtain ⟨oI2,heI2,hcI2,hdI2⟩:=hit2
  exact hk v h2 _ tk _ (H.it (Kc hob) hs2.extBut heI2) ⟨hv,objs,oI2,rfl,rfl,⟨hcI2,hdI2⟩,hL,hob⟩
 ·rintro i ys v g nx oC m₂ h tk Q' E hi ⟨hv,objs,oI,rfl,rfl,hoI,hL,hob⟩ hoC hx2 H hk
  have hz2:xs[i]? = some xs[i]:=List.getElem?_eq_getElem (by rw [← hl];exact hi)
  generalize xs[i] = z at hz2
  refine W.elt i v z C D ys oC m₂ h tk ((I,oI) :: (objs++news)) Q' E hv hz2 hoC hx2 H.F H.N (fun p hp=>.tail _ (ac hp)) fun y h' tk' ob2 F2 N2 off2 hA=>?_
  refine hk y h' _ tk' _ (H.more F2 N2 off2) ⟨ob2++objs,oI,by rw [iF,Nat.add_assoc],rfl,hoI,bL.up M hL (fun p hp=>ac hp) hz2 (M.m hA fun p hp=>aj hp),fun p hp=>?_⟩
  rcases aH hp with hp | hp
  ·exact (off2 p hp (I,oI) (.tail _ (.tail _ (.head _)))).symm
  ·exact hob p hp
 ·rintro ys g nx oC h tk Q' E ⟨objs,oI,rfl,rfl,hoI,hL,hob⟩ H hk
  rw [hl,List.take_length] at hL
  refine wpAny_pyNext_list_end hh (lI H hoI) (lV H) (by simp) (fun h2 hs2=>?_)
  have U:=H.unit (Kc hob) hs2
  exact hk h2 _ tk _ U fun h'' F'' N''=>W.fin D ys objs h'' tk hL F'' N'' (fun p hp=>(U.off p hp).2)
inductive Fv {α:Type} (At:List (Addr × Obj) → Value → α → Prop) (prog:Program) (w:World) (A:Around) (h₀:Heap) (L:Addr) (m:PySem.Str → Option Value) (env:Env) (elt:PySem.Expr) (x:PySem.Str) (scope:Scope) (cl:List (PySem.Str × Addr)) (xs:List α) (Q:Value → Shared → Prop) (xv:Value) (s:Shared):Prop
 | mk (V k k0:Nat) (news:List (Addr × Obj)) (vs:List Value):xv = .ref V → s.gens = ft k0 → Fr h₀ L s.heap m → News h₀ L s.heap news → (V,listOf vs.toArray k) ∈ news → vs.length ≤ 100 → vs.length = xs.length → Ai At prog w A h₀ L m env elt x scope cl s vs xs news k0 Q → Fv At prog w A h₀ L m env elt x scope cl xs Q xv s
theorem iI (M:gM At) (xs:List α)
  (F₀:Fr h₀ L s.heap m) (hclos:closureFor scope env = pure cl) (hcell:∀ y ∈ scope.names,y.2 ≠ .cell) (hkind:scope.kind = .function)
  (hnames:∀ y ∈ scope.names,y.2 = .local → scope.names.lookup y.1 = some .local) (hx:scope.names.lookup x = some .local) (hh:A.handled = none)
  (h:wpAny (model prog w) A (eval iter env) (Fv At prog w A h₀ L m env elt x scope cl xs Q) E s)
  (hs:∀ x,foldedSetIterable iter env x = pure x:=by intro _;rfl) :
  wpAny (model prog w) A (eval (.ListComp elt [⟨.Name x px,iter,[],0⟩] scope pos) env) Q E s:=by
 refine mE (h₀:=h₀) (L:=L) (m:=m) hclos hcell hkind hnames hx (wpAny_mono h (fun xv s₁ h₁=>?_) fun _ _ e=>e) hs
 refine (let G0:Prop:=_;(?_:G0))
 obtain ⟨V,k,k0,news,vs,rfl,hg,F,N,hV,hz,hl,W⟩:=h₁
 refine wpAny_pyIter_list (News.isList N hV) ?_
 refine ⟨_,_,vs.length,by rw [sizeLine_eq];exact ae fun h9=>lN [_,0] [(1,.t (.k 16777216) V0),(1,.l V0 (.k 100))] (.c h9 (.c hz .n)),F.push _,N.push F { cls:=.type "list_iterator",data:=.fields #[.ref V,.int 0 0] },fun D C hD hLD hDC=>⟨_,_,⟨[],_,hg,rfl,⟨rfl,rfl⟩,?_,fun p hp=>nomatch hp⟩,wo M hh hV hl W ?_⟩⟩
 ·have hI:=hD _ (.head _)
  refine ⟨Nat.ne_of_gt F.ns.lt,?_,Nat.ne_of_gt (Nat.lt_trans hI hDC),Nat.ne_of_gt hI,fun p hp=>Nat.ne_of_lt (Heap.lt_size (N p hp).1)⟩
  cases e:h₀.get? s₁.heap.objs.size with
  | none=>rfl
  | some o'=>exact absurd (Heap.lt_size (F.keep _ o' e)) (Nat.lt_irrefl _)
 ·rw [List.take_zero];exact bL.nil
end
end
section
open PySem.SeqAt
noncomputable abbrev d4 (x:PySem.Str):Prop:=PySem.PyData.strOk x = true
noncomputable def hX (l:List PySem.Str):PyData:=.list (l.map PyData.str)
noncomputable def Ca (o:Op):PyData:=.tuple [.str o.tag,.int (o.i1:Int),.int (o.i2:Int),.int (o.j1:Int),.int (o.j2:Int)]
theorem my {α:Type} {At:List (Addr × Obj) → Value → α → Prop} {led:List (Addr × Obj)} {y:Value} {ys:List Value} {xs:List α} (h:bL At led (y :: ys) xs):∃ x xs',xs = x :: xs' ∧ At led y x ∧ bL At led ys xs':=by
 cases xs with
 | nil=>have:=h.1;simp at this
 | cons x xs' =>
  refine ⟨x,xs',rfl,?_,?_,fun i v hv=>?_⟩
  ·obtain ⟨z,a,b⟩:=h.2 0 y rfl
   cases a;exact b
  ·have:=h.1;simpa using this
  ·exact h.2 (i + 1) v hv
theorem dN {α:Type} {At:List (Addr × Obj) → Value → α → Prop} {led:List (Addr × Obj)} {h:Heap} {D:α → PyData} (H:∀ v x,At led v x → ∃ as,Reads h v (D x) as):∀ {ys:List Value} {xs:List α},bL At led ys xs → ∃ as,ReadsAll h ys (xs.map D) as
 | [],xs,hl=>by
  have:=hl.1
  cases xs with
  | nil=>exact ⟨_,.nil⟩
  | cons=>simp at this
 | y :: ys,xs,hl=>by
  obtain ⟨x,xs',rfl,a,b⟩:=my hl
  obtain ⟨as,ra⟩:=H y x a
  obtain ⟨bs,rb⟩:=dN H b
  exact ⟨_,.cons ra rb⟩
theorem gI (h:Heap):∀ (lv:List (PySem.Str × Nat)),∃ as,ReadsAll h (strValues lv) ((lv.map (·.1)).map PyData.str) as
 | []=>⟨_,.nil⟩
 | p :: r=>let ⟨_,q⟩:=gI h r;⟨_,.cons (.str p.1 p.2) q⟩
section
variable {h₀ h:Heap} {L:Addr} {led:List (Addr × Obj)}
theorem ci (N:News h₀ L h led) {S n:Nat} {lv:List (PySem.Str × Nat)} (hm:(S,listOf (strValues lv).toArray n) ∈ led):∃ as,Reads h (.ref S) (hX (lv.map (·.1))) as:=by
 obtain ⟨as,q⟩:=gI h lv
 exact ⟨_,reads_list_at (N.get hm) rfl rfl (by simpa using q)⟩
theorem vH (N:News h₀ L h led) {v:Value} {o:Op} (ho:fg led v o):∃ as,Reads h v (Ca o) as:=by
 obtain ⟨a,t0,t1,t2,t3,t4,rfl,hm⟩:=ho
 exact ⟨_,reads_tuple_at (N.get hm) rfl rfl (.cons (.str _ _) (.cons (.int _ _) (.cons (.int _ _) (.cons (.int _ _) (.cons (.int _ _) .nil)))))⟩
theorem cu (N:News h₀ L h led) {S n:Nat} {vs:List Value} {xs:List PyData} (hm:(S,listOf vs.toArray n) ∈ led) (hr:∃ as,ReadsAll h vs xs as):∃ as,Reads h (.ref S) (.list xs) as:=by
 obtain ⟨as,q⟩:=hr
 exact ⟨_,reads_list_at (N.get hm) rfl rfl (by simpa using q)⟩
end
theorem sG {α:Type} {D:α → PyData} {n:Nat}:∀ {xs:List α},(∀ x ∈ xs,(D x).canLay0 = true ∧ (D x).depth ≤ n) → PyData.canLayAll0 (xs.map D) = true ∧ PyData.depthAll (xs.map D) ≤ n
 | [],_=>by simp [PyData.canLayAll0,PyData.depthAll]
 | x :: xs,h=>by
  have h1:=h x (.head _)
  have h2:=sG fun y hy=>h y (.tail _ hy)
  simp only [List.map_cons,PyData.canLayAll0,PyData.depthAll,h1.1,h2.1,Bool.and_self,true_and]
  omega
theorem gA {α:Type} {D:α → PyData} {n:Nat} {xs:List α} (h:∀ x ∈ xs,(D x).canLay0 = true ∧ (D x).depth ≤ n):(PyData.list (xs.map D)).canLay0 = true ∧ (PyData.list (xs.map D)).depth ≤ n + 1:=by
 have:=sG h
 simp only [PyData.canLay0,PyData.depth]
 exact ⟨this.1,by exact ae fun h9=>lN [_,_] [(1,.t (.a V0 K1) (.a V1 K1)),(1,.l V1 V0)] (.c h9 (.c this.2 .n))⟩
theorem ky {l:List PySem.Str} (h:∀ x ∈ l,d4 x):(hX l).canLay0 = true ∧ (hX l).depth ≤ 1 :=
 gA (n:=0) fun x hx=>⟨by simp only [PyData.canLay0];exact h x hx,by simp [PyData.depth]⟩
theorem xG {l:List (List PySem.Str)} (h:∀ x ∈ l,∀ y ∈ x,d4 y):(PyData.list (l.map hX)).canLay0 = true ∧ (PyData.list (l.map hX)).depth ≤ 2:=gA (n:=1) fun x hx=>ky (h x hx)
theorem yu {l:List Op} (h:∀ x ∈ l,d4 x.tag):(PyData.list (l.map Ca)).canLay0 = true ∧ (PyData.list (l.map Ca)).depth ≤ 2 :=
 gA (n:=1) fun x hx=>⟨by simp [Ca,PyData.canLay0,PyData.canLayAll0,h x hx],by simp [Ca,PyData.depth,PyData.depthAll]⟩
theorem c8 {d:PyData} {n:Nat} (h:d.canLay0 = true ∧ d.depth ≤ n) (hn:n ≤ 64):shaped d = true:=by
 unfold shaped
 rw [h.1,Bool.true_and]
 exact decide_eq_true (Nat.le_trans h.2 hn)
section
variable {prog:Program} {w:World} {A:Around} {E:Value → Shared → Prop} {s:Shared} {a b:Value} {d:PyData} {n:Nat} {Q:Value → Shared → Prop}
theorem jN (ra:∃ as,Reads s.heap a d as) (rb:∃ as,Reads s.heap b d as) (h:d.canLay0 = true ∧ d.depth ≤ n) (hn:n ≤ 64) (hu:A.units + 64 < cLine) (hQ:Q (.bool false) s):wpAny (model prog w) A (compareOp .NotEq a b) Q E s:=by
 obtain ⟨as,ra⟩:=ra
 obtain ⟨bs,rb⟩:=rb
 refine ne_dataH ra rb (c8 h hn) (c8 h hn) hu ?_
 rw [eqv_refl d h.1];exact hQ
theorem yx (ra:∃ as,Reads s.heap a d as) (rb:∃ as,Reads s.heap b d as) (h:d.canLay0 = true ∧ d.depth ≤ n) (hn:n ≤ 64) (hu:A.units + 64 < cLine) (hQ:Q (.bool true) s):wpAny (model prog w) A (compareOp .Eq a b) Q E s:=by
 obtain ⟨as,ra⟩:=ra
 obtain ⟨bs,rb⟩:=rb
 refine eq_dataH ra rb (c8 h hn) (c8 h hn) hu ?_
 rw [eqv_refl d h.1];exact hQ
end
theorem ej {x y:PySem.Str} (hx:d4 x) (hy:d4 y):d4 (x++y):=by
 unfold d4 PySem.PyData.strOk at *
 show (x.cps++y.cps).all _ = true
 rw [Array.all_append,hx,hy];rfl
end
section
open PyProof.Rows.LCg
theorem vQ {w:World} {A:Around} {h₀:Heap} {L S G D:Addr} {lv:List (PySem.Str × Tok)} {nn:Nat} {tag:PySem.Str} {gens:Array GenState} {rest:List (Addr × Obj)} {j:Nat} {g:Array GenState} {nx:List (Addr × Obj)} (J:Cm w A h₀ L S G D lv nn tag gens rest j g nx) :
  ∃ led,nx = led++rest ∧ (∀ p ∈ led,p.1 ≠ S ∧ p.1 ≠ L ∧ ∀ q ∈ rest,p.1 ≠ q.1) ∧ ∀ rest',(∀ q ∈ rest',∃ p ∈ rest,p.1 = q.1) → Cm w A h₀ L S G D lv nn tag gens rest' j g (led++rest'):=by
 cases j with
 | zero =>
  obtain ⟨Lg,oL,vw,rfl,hg,hw,hN,hab,hr,hS,hL⟩:=J
  refine ⟨[(Lg,oL)],rfl,fun p hp=>?_,fun rest' hr'=>⟨Lg,oL,vw,rfl,hg,hw,hN,hab,fun q hq=>?_,hS,hL⟩⟩
  ·rw [List.mem_singleton.mp hp]
   exact ⟨hS.symm,hL.symm,fun q hq=>(hr q hq).symm⟩
  ·obtain ⟨p,hp,e⟩:=hr' q hq
   exact e ▸ hr p hp
 | succ j =>
  obtain ⟨Kp,led,gs,rfl,hg,hS,hL,hr,hl,hgo⟩:=J
  refine ⟨led,rfl,fun p hp=>⟨?_,?_,fun q hq=>?_⟩,fun rest' hr'=>⟨Kp,led,gs,rfl,hg,hS,hL,fun q hq=>?_,hl,hgo⟩⟩
  ·rintro e;exact (hl p hp).1 (e ▸ hS)
  ·rintro e;exact (hl p hp).1 (e ▸ hL)
  ·rintro e;exact (hl p hp).1 (e ▸ hr q hq)
  ·obtain ⟨p,hp,e⟩:=hr' q hq
   exact e ▸ hr p hp
structure Aa (prog:Program) (w:World) (A:Around) (h₀:Heap) (L:Addr) (m:PySem.Str → Option Value) (env:Env) (elt:PySem.Expr) (x:PySem.Str) (scope:Scope) (cl:List (PySem.Str × Addr)) (s:Shared) (due:List PySem.Str) (f:PySem.Str → PySem.Str) (base:List (Addr × Obj)) (gens:Array GenState) (Q:Value → Shared → Prop):Prop where
 elt:∀ (i:Nat) (y:PySem.Str) t C D ys oC m₂ h g tk nx (Q':Value → Shared → Prop) (E:Value → Shared → Prop),due[i]? = some y → NsObj oC m₂ → m₂ x = some (.str y t) → Fr h₀ L h m → News h₀ L h ((C,oC) :: (D,lst ys) :: nx) →
  (∀ t' h' tk',Fr h₀ L h' m → News h₀ L h' ((C,oC) :: (D,lst ys) :: nx) → Q' (.str (f y) t') { s with heap:=h',gens:=g,toks:=tk' }) →
  wpAny (model prog w) A (eval elt (compEnvC scope cl C env)) Q' E { s with heap:=h,gens:=g,toks:=tk }
 fin:∀ D lv' h'' tk'',lv'.map (·.1) = due.map f → Fr h₀ L h'' m → News h₀ L h'' ((D,lst (strValues lv')) :: base) → (∀ p ∈ base,p.1 ≠ D) → Q (.ref D) { s with heap:=h'',gens:=gens.push .finished,toks:=tk'' }
section
variable {h₀ h:Heap} {L:Addr} {nx led base:List (Addr × Obj)} {c d g:Addr × Obj}
theorem r5 (hnx:∀ p,p ∈ nx ↔ p ∈ led++g :: base) (N:News h₀ L h (c :: d :: nx)):News h₀ L h (d :: (led++(c :: g :: base))):=fun p hp=>N p (by
 rcases ag hp with rfl | hp
 ·exact .tail _ (.head _)
 rcases aH hp with hp | hp
 ·exact .tail _ (.tail _ ((hnx _).mpr (aj hp)))
 rcases ag hp with rfl | hp
 ·exact .head _
 ·exact .tail _ (.tail _ ((hnx _).mpr (ac hp))))
theorem yY (N:News h₀ L h (d :: (led++(c :: g :: base)))):News h₀ L h (c :: d :: (led++g :: base)):=fun p hp=>N p (by
 rcases ag hp with rfl | hp
 ·exact .tail _ (ac (.head _))
 rcases ag hp with rfl | hp
 ·exact .head _
 rcases aH hp with hp | hp
 ·exact .tail _ (aj hp)
 ·exact .tail _ (ac (.tail _ hp)))
end
inductive Fe (w:World) (A:Around) (h₀:Heap) (L G Dl:Addr) (gO:Obj) (lv:List (PySem.Str × Tok)) (nn:Nat) (tag:PySem.Str) (f:PySem.Str → PySem.Str) (gens:Array GenState) (base:List (Addr × Obj)) (C D:Addr) (i j:Nat) (ys:List Value) (g:Array GenState) (nx:List (Addr × Obj)):Prop
 | mk (led:List (Addr × Obj)) (tv:List (PySem.Str × Nat)):(∀ p,p ∈ nx ↔ p ∈ led++(G,gO) :: base) → (∀ oC,Cm w A h₀ L D G Dl lv nn tag gens ((C,oC) :: (G,gO) :: base) j g (led++((C,oC) :: (G,gO) :: base))) → ys = strValues tv → tv.map (·.1) = ((ao tag (lv.map Prod.fst)).take i).map f → Fe w A h₀ L G Dl gO lv nn tag f gens base C D i j ys g nx
section
variable {w:World} {dp un:Nat} {gd:Option (List Code)} {outer:List Env} {mean:ExcName → Option Value} {mg mb:PySem.Str → Option Value} {E:Value → Shared → Prop} {s:Shared} {h₀:Heap} {L:Addr} {m:PySem.Str → Option Value} {env:Env} {f:PySem.Str → PySem.Str} {elt iter:PySem.Expr} {x:PySem.Str} {px:Pos} {scope:Scope} {cl:List (PySem.Str × Addr)} {pos:Pos} {Q:Value → Shared → Prop}
theorem uU {G Dl nn C D:Nat} {lv:List (PySem.Str × Tok)} {tag:PySem.Str} {gens:Array GenState} {base:List (Addr × Obj)} {n1 n2:PySem.Str} {t1 t2:Tok} (X:(K w.params).In h₀) (T:Top (am pW) (looseW (am pW) aE) mean mg mb h₀)
  (hRW:∀ oC,Em w dp un h₀ L ((C,oC) :: (G,bW gens.size n1 n2 t1 t2) :: base) G Dl lv nn gens n1 n2 t1 t2) (hG:G < D) (hDC:D < C) (hb:∀ p ∈ base,p.1 < D) (W:Aa rW.row.prog w (bG dp un gd outer) h₀ L m env elt x scope cl s (ao tag (lv.map Prod.fst)) f base gens Q) :
  fP rW.row.prog w (bG dp un gd outer) h₀ L m env elt x scope cl s G D C (ao tag (lv.map Prod.fst)).length (fun i ys g nx=>Fe w (bG dp un gd outer).in1 h₀ L G Dl (bW gens.size n1 n2 t1 t2) lv nn tag f gens base C D i i ys g nx)
   (fun i ys v g nx=>(∃ y t,v = .str y t ∧ (ao tag (lv.map Prod.fst))[i]? = some y) ∧ Fe w (bG dp un gd outer).in1 h₀ L G Dl (bW gens.size n1 n2 t1 t2) lv nn tag f gens base C D i (i + 1) ys g nx) Q:=by
 have offb:∀ p ∈ base,p.1 ≠ C ∧ p.1 ≠ D:=fun p hp=>⟨Nat.ne_of_lt (Nat.lt_trans (hb p hp) hDC),Nat.ne_of_lt (hb p hp)⟩
 constructor
 ·rintro s' Q' E' ys g nx ⟨led,tv,hnx,_,_,_⟩ N' hQ
  exact eV ⟨_,(N' _ ((hnx _).mpr (ac (.head _)))).1,rfl⟩ hQ
 ·rintro i ys g nx oC h tk Q' E hi ⟨led,tv,hnx,hJ,rfl,htv⟩ H hk
  refine th (un:=un) (dp:=dp) (s:={ s with heap:=h,gens:=g,toks:=tk }) (hRW oC) X T hi (hJ oC) H.F (r5 hnx H.N) (fun y t h' g' tk' nx' hy F2 N3 ho2 hJ2=>?_)
  refine (let G0:Prop:=_;(?_:G0))
  obtain ⟨led',rfl,hl',hJ'⟩:=vQ hJ2
  refine hk (.str y t) h' g' tk' (led'++(G,bW gens.size n1 n2 t1 t2) :: base) ⟨F2,yY N3,fun p hp=>?_⟩ ⟨⟨y,t,rfl,hy⟩,led',tv,fun p=>Iff.rfl,fun oC2=>hJ' _ fun q hq=>?_,rfl,htv⟩
  ·rcases aH hp with hp | hp
   ·exact ⟨(hl' p hp).2.2 _ (.head _),(hl' p hp).1⟩
   rcases ag hp with rfl | hp
   ·exact ⟨Nat.ne_of_lt (Nat.lt_trans hG hDC),Nat.ne_of_lt hG⟩
   ·exact offb p hp
  ·rcases ag hq with rfl | hq
   ·exact ⟨_,.head _,rfl⟩
   ·exact ⟨q,.tail _ hq,rfl⟩
 ·rintro i ys v g nx oC m₂ h tk Q' E hi ⟨⟨y,t,rfl,hy⟩,led,tv,hnx,hJ,rfl,htv⟩ hoC hx2 H hk
  refine W.elt i y t C D (strValues tv) oC m₂ h g tk nx Q' E hy hoC hx2 H.F H.N fun t' h' tk' F2 N2=>?_
  refine hk _ h' g tk' nx ⟨F2,N2,H.off⟩ ⟨led,tv++[(f y,t')],hnx,hJ,md _ _ _,?_⟩
  rw [List.map_append,htv,List.take_add_one,hy,List.map_append];rfl
 ·rintro ys g nx oC h tk Q' E ⟨led,tv,hnx,hJ,rfl,htv⟩ H hk
  rw [List.take_length] at htv
  refine rZ (un:=un) (dp:=dp) (s:={ s with heap:=h,gens:=g,toks:=tk }) (hRW oC) X T rfl (hJ oC) H.F (r5 hnx H.N) (fun h' tk' F2 N3=>?_)
  exact hk h' _ tk' base ⟨F2,fun p hp=>N3 p (by
   rcases ag hp with rfl | hp
   ·exact .tail _ (.head _)
   rcases ag hp with rfl | hp
   ·exact .head _
   ·exact .tail _ (.tail _ (.tail _ hp))),offb⟩ fun h'' F'' N''=>W.fin D tv h'' tk' htv F'' N'' (fun p hp=>(offb p hp).2)
inductive Fj (w:World) (dp un:Nat) (gd:Option (List Code)) (outer:List Env) (h₀:Heap) (L:Addr) (m:PySem.Str → Option Value) (env:Env) (f:PySem.Str → PySem.Str) (elt:PySem.Expr) (x:PySem.Str) (scope:Scope) (cl:List (PySem.Str × Addr)) (Q:Value → Shared → Prop) (xv:Value) (s:Shared):Prop
 | mk (G Lg:Addr) (oL:Obj) (vw:Value) (gens:Array GenState) (base:List (Addr × Obj)) (n1 n2:PySem.Str) (t1 t2:Tok) (Dl nn:Nat) (lv:List (PySem.Str × Tok)) (tag:PySem.Str):xv = .ref G → s.gens = gens.push (.fresh (e8 Lg)) → Fr h₀ L s.heap m → News h₀ L s.heap ((G,bW gens.size n1 n2 t1 t2) :: (Lg,oL) :: base) →
   (∀ p ∈ base,p.1 < Lg) → Lg < G → L < Lg → c7 vw tag → uI oL (fun y=>[(Str.ofString "delta",Value.ref Dl),(Str.ofString "which",vw)].reverse.lookup y) → (Dl,listOf (strValues lv).toArray nn) ∈ base → (∀ p ∈ lv,p.1.length ≤ 1000) → lv.length ≤ 1000 →
   Aa rW.row.prog w (bG dp un gd outer) h₀ L m env elt x scope cl s (ao tag (lv.map Prod.fst)) f base gens Q → Fj w dp un gd outer h₀ L m env f elt x scope cl Q xv s
theorem qO (F₀:Fr h₀ L s.heap m) (X:(K w.params).In h₀) (T:Top (am pW) (looseW (am pW) aE) mean mg mb h₀) (hd:dp + 12 < recursionLimit) (hu:un + 240 < cLine)
  (hclos:closureFor scope env = pure cl) (hcell:∀ y ∈ scope.names,y.2 ≠ .cell) (hkind:scope.kind = .function)
  (hnames:∀ y ∈ scope.names,y.2 = .local → scope.names.lookup y.1 = some .local) (hx:scope.names.lookup x = some .local)
  (h:wpAny (model rW.row.prog w) (bG dp un gd outer) (eval iter env) (Fj w dp un gd outer h₀ L m env f elt x scope cl Q) E s)
  (hs:∀ x,foldedSetIterable iter env x = pure x:=by intro _;rfl) :
  wpAny (model rW.row.prog w) (bG dp un gd outer) (eval (.ListComp elt [⟨.Name x px,iter,[],0⟩] scope pos) env) Q E s:=by
 refine mE (h₀:=h₀) (L:=L) (m:=m) hclos hcell hkind hnames hx (wpAny_mono h (fun xv s₁ h₁=>?_) fun _ _ e=>e) hs
 refine (let G0:Prop:=_;(?_:G0))
 obtain ⟨G,Lg,oL,vw,gens,base,n1,n2,t1,t2,Dl,nn,lv,tag,rfl,hg,F,N,hlt,hLG,hLL,hw,hNs,hDl,hxl,hzl,W⟩:=h₁
 refine eV ⟨_,(N _ (.head _)).1,rfl⟩ ?_
 have hn:(ao tag (lv.map Prod.fst)).length ≤ 1000:=by
  refine Nat.le_trans ?_ hzl
  unfold ao
  rw [List.length_map]
  refine Nat.le_trans (List.length_filter_le _ _) ?_
  simp
 refine ⟨G,_,(ao tag (lv.map Prod.fst)).length,by rw [sizeLine_eq];exact ae fun h9=>lN [_] [(1,.t (.k 16777216) V0),(1,.l V0 (.k 1000))] (.c h9 (.c hn .n)),F,N,fun D C hD hLD hDC=>⟨_,_,?_,uU (n1:=n1) (n2:=n2) (t1:=t1) (t2:=t2) X T (fun oC=>⟨hd,hu,.tail _ (.head _),.tail _ (.tail _ hDl),hxl⟩) (hD _ (.head _)) hDC (fun p hp=>hD p (.tail _ (.tail _ hp))) W⟩⟩
 have hGD:G < D:=hD _ (.head _)
 have hLgD:Lg < D:=hD _ (.tail _ (.head _))
 refine ⟨[(Lg,oL)],[],fun p=>?_,fun oC=>⟨Lg,oL,vw,rfl,hg,hw,hNs,Nat.le_trans F.above (Nat.le_of_lt hLL),fun p hp=>?_,Nat.ne_of_gt hLgD,Nat.ne_of_lt hLL⟩,rfl,rfl⟩
 ·simp only [List.mem_cons,List.cons_append,List.nil_append]
  exact or_left_comm
 ·rcases ag hp with rfl | hp
  ·exact Nat.ne_of_gt (Nat.lt_trans hLgD hDC)
  rcases ag hp with rfl | hp
  ·exact Nat.ne_of_gt hLG
  ·exact Nat.ne_of_lt (hlt p hp)
end
end
section
noncomputable def cO (a b:Bk):Prop:=a.i + a.k ≤ b.i ∧ a.j + a.k ≤ b.j ∧ ¬ (a.i + a.k = b.i ∧ a.j + a.k = b.j)
noncomputable def tV (b:Bk) (i j:Nat):Prop:=∃ d,d < b.k ∧ i = b.i + d ∧ j = b.j + d
structure bB (A B:List PySem.Str) (r:Rg) (p:List Bk):Prop where
 le:r.alo ≤ r.ahi ∧ r.ahi ≤ A.length ∧ r.bhi ≤ B.length
 ins:∀ b ∈ p,0 < b.k ∧ r.alo ≤ b.i ∧ b.i + b.k ≤ r.ahi ∧ r.blo ≤ b.j ∧ b.j + b.k ≤ r.bhi
 ord:p.Pairwise cO
 mat:∀ i j x,r.alo ≤ i → i < r.ahi → r.blo ≤ j → j < r.bhi → A[i]? = some x → B[j]? = some x → ∃ b ∈ p,tV b i j
 con:∀ b ∈ p,∀ d,d < b.k → A[b.i + d]? = B[b.j + d]?
theorem kg {α:Type} {R:α → α → Prop}:∀ {p:List α},p.Pairwise R → ∀ {a b:α},a ∈ p → b ∈ p → a = b ∨ R a b ∨ R b a
 | [],_,_,_,h,_=>by cases h
 | x :: p,hp,a,b,ha,hb=>by
  rw [List.pairwise_cons] at hp
  rcases ag ha with rfl | ha
  ·rcases ag hb with rfl | hb
   ·exact .inl rfl
   ·exact .inr (.inl (hp.1 _ hb))
  ·rcases ag hb with e | hb
   ·exact .inr (.inr (e ▸ hp.1 _ ha))
   ·exact kg hp.2 ha hb
theorem dL {p:List Bk} (o:p.Pairwise cO) {b c:Bk} (hb:b ∈ p) (hc:c ∈ p) {i j j':Nat} (h1:tV b i j) (h2:tV c i j'):b = c:=by
 obtain ⟨d,a1,a2,a3⟩:=h1
 obtain ⟨e,c1,c2,c3⟩:=h2
 rcases kg o hb hc with h | h | h
 ·exact h
 ·have:=h.1;exact (lN [_,_,_,_,0,0,_,_,0,0] [(1,.t V0 V1),(1,.e V2 (.a V3 V0)),(-1,.e V2 (.a V6 V7)),(1,.l (.a V3 V1) V6)] (.c a1 (.c a2 (.c c2 (.c this .n))))).elim
 ·have:=h.1;exact (lN [_,_,_,0,0,_,_,_,0,0] [(-1,.e V0 (.a V1 V2)),(1,.t V5 V6),(1,.e V0 (.a V7 V5)),(1,.l (.a V7 V6) V1)] (.c a2 (.c c1 (.c c2 (.c this .n))))).elim
theorem kQ {p:List Bk} (o:p.Pairwise cO) {b c:Bk} (hb:b ∈ p) (hc:c ∈ p) (h1:b.i + b.k = c.i) (h2:b.j + b.k = c.j) (hk:0 < c.k) (hk':0 < b.k):False:=by
 rcases kg o hb hc with h | h | h
 ·subst h;exact lN [_,_] [(1,.t K0 V0),(1,.e (.a V1 V0) V1)] (.c hk' (.c h1 .n))
 ·exact h.2.2 ⟨h1,h2⟩
 ·have:=h.1;exact lN [_,_,_,0,0,_] [(1,.e (.a V0 V1) V2),(1,.t K0 V1),(1,.l (.a V2 V5) V0)] (.c h1 (.c hk' (.c this .n)))
theorem lH (lb:List (PySem.Str × Nat)) (x:PySem.Str):cx lb x = (lb.map (·.1)).findIdx? (fun z=>z == x):=by
 unfold cx
 rw [List.findIdx?_map];rfl
theorem iK {lb:List (PySem.Str × Nat)} {x:PySem.Str} {j:Nat} (h:cx lb x = some j):(lb.map (·.1))[j]? = some x:=by
 rw [lH,List.findIdx?_eq_some_iff_getElem] at h
 obtain ⟨h1,h2,_⟩:=h
 rw [List.getElem?_eq_getElem h1]
 simpa using h2
theorem zu {lb:List (PySem.Str × Nat)} (nd:(lb.map (·.1)).Nodup) {x:PySem.Str} {j:Nat} (h:(lb.map (·.1))[j]? = some x):cx lb x = some j:=by
 cases e:cx lb x with
 | none =>
  rw [lH,List.findIdx?_eq_none_iff] at e
  have:=e x (List.mem_of_getElem? h)
  simp at this
 | some j' =>
  have h':=iK e
  have l1:=(List.getElem?_eq_some_iff.mp h).1
  have l2:=(List.getElem?_eq_some_iff.mp h').1
  rw [(List.getElem?_inj l2 nd).mp (h'.trans h.symm)]
noncomputable def BK (la lb:List (PySem.Str × Nat)) (i:Nat):Option Nat:=(la[i]?).bind fun y=>cx lb y.1
theorem wN {la lb:List (PySem.Str × Nat)} {i j:Nat} (h:BK la lb i = some j):∃ x,(la.map (·.1))[i]? = some x ∧ (lb.map (·.1))[j]? = some x:=by
 unfold BK at h
 cases e:la[i]? with
 | none=>rw [e] at h;cases h
 | some y =>
  rw [e] at h
  exact ⟨y.1,by rw [List.getElem?_map,e];rfl,iK h⟩
theorem AU {la lb:List (PySem.Str × Nat)} (nd:(lb.map (·.1)).Nodup) {i j:Nat} {x:PySem.Str} (h1:(la.map (·.1))[i]? = some x) (h2:(lb.map (·.1))[j]? = some x):BK la lb i = some j:=by
 unfold BK
 rw [List.getElem?_map] at h1
 cases e:la[i]? with
 | none=>rw [e] at h1;cases h1
 | some y=>rw [e] at h1;cases h1;exact zu nd h2
structure DY (p:List Bk) (alo blo i:Nat) (st:eF):Prop where
 prev:∀ j k,st.prev = some (j,k) → ∃ b ∈ p,0 < k ∧ k ≤ b.k ∧ i = b.i + k ∧ j + 1 = b.j + k
 prev':∀ b ∈ p,∀ k,0 < k → k ≤ b.k → i = b.i + k → st.prev = some (b.j + k - 1,k)
 best:(st.bs = 0 ∧ st.bi = alo ∧ st.bj = blo) ∨ (∃ b ∈ p,st.bi = b.i ∧ st.bj = b.j ∧ 0 < st.bs ∧ st.bs ≤ b.k)
 max:∀ b ∈ p,∀ k,k ≤ b.k → b.i + k ≤ i → k ≤ st.bs
section
variable {la lb:List (PySem.Str × Nat)} {r:Rg} {p:List Bk}
theorem Ag (nd:(lb.map (·.1)).Nodup) (H:bB (la.map (·.1)) (lb.map (·.1)) r p) {b:Bk} (hb:b ∈ p) {d:Nat} (hd:d < b.k):BK la lb (b.i + d) = some (b.j + d):=by
 have h1:=H.con b hb d hd
 have h2:=H.ins b hb
 have h3:=H.le
 have hl:b.i + d < (la.map (·.1)).length:=by exact aA fun h9=>lN [_,_,_,_,0,_,0,0,0,0] [(1,.l V0 (.a V1 V2)),(1,.t V2 V3),(1,.l (.a V1 V3) V5),(1,.l V5 V0)] (.c h9 (.c hd (.c h2.2.2.1 (.c h3.2.1 .n))))
 rw [List.getElem?_eq_getElem hl] at h1
 exact AU nd (List.getElem?_eq_getElem hl) h1.symm
theorem x7 (nd:(lb.map (·.1)).Nodup) (H:bB (la.map (·.1)) (lb.map (·.1)) r p) {i:Nat} {st:eF} (hi:r.alo ≤ i) (hi2:i < r.ahi) (I:DY p r.alo r.blo i st) :
  DY p r.alo r.blo (i + 1) (bU r.blo r.bhi i (BK la lb i) st):=by
 have none:(∀ b ∈ p,∀ d,d < b.k → i = b.i + d → False) → DY p r.alo r.blo (i + 1) ⟨none,st.bi,st.bj,st.bs⟩:=by
  intro no
  refine ⟨(fun j k h=>nomatch h),(fun b hb k h1 h2 h3=>(no b hb (k - 1) (by exact aA fun h9=>lN [_,_,_] [(1,.l V0 V1),(1,.l V2 V0),(1,.e (.a V1 K1) V2)] (.c h9 (.c h2 (.c (Nat.sub_add_cancel (ae fun h9=>lN [_,0] [(1,.t V0 K1),(1,.t K0 V0)] (.c h9 (.c h1 .n)))) .n)))) (by exact aN (fun h9=>lN [_,_,_,_] [(1,.t (.a V0 V1) V2),(1,.e (.a V2 K1) (.a V0 V3)),(-1,.e (.a V1 K1) V3)] (.c h9 (.c h3 (.c (Nat.sub_add_cancel (ae fun h9=>lN [_,0,0] [(1,.t V0 K1),(1,.t K0 V0)] (.c h9 (.c h1 .n)))) .n)))) (fun h9=>lN [_,_,_,_] [(1,.t V0 (.a V1 V2)),(-1,.e (.a V0 K1) (.a V1 V3)),(1,.e (.a V2 K1) V3)] (.c h9 (.c h3 (.c (Nat.sub_add_cancel (ae fun h9=>lN [_,0,0] [(1,.t V0 K1),(1,.t K0 V0)] (.c h9 (.c h1 .n)))) .n)))))).elim),I.best,fun b hb k h1 h2=>?_⟩
  by_cases e:b.i + k = i + 1
  ·rcases Nat.eq_zero_or_pos k with rfl | hk
   ·exact Nat.zero_le _
   ·exact (no b hb (k - 1) (by exact aA fun h9=>lN [_,_,_] [(1,.l V0 V1),(1,.l V2 V0),(1,.e (.a V1 K1) V2)] (.c h9 (.c h1 (.c (Nat.sub_add_cancel (ae fun h9=>lN [_,0] [(1,.t V0 K1),(1,.t K0 V0)] (.c h9 (.c hk .n)))) .n)))) (by exact aN (fun h9=>lN [_,_,_,_] [(1,.t (.a V0 V1) V2),(-1,.e (.a V0 V3) (.a V2 K1)),(-1,.e (.a V1 K1) V3)] (.c h9 (.c e (.c (Nat.sub_add_cancel (ae fun h9=>lN [_,0,0] [(1,.t V0 K1),(1,.t K0 V0)] (.c h9 (.c hk .n)))) .n)))) (fun h9=>lN [_,_,_,_] [(1,.t V0 (.a V1 V2)),(1,.e (.a V1 V3) (.a V0 K1)),(1,.e (.a V2 K1) V3)] (.c h9 (.c e (.c (Nat.sub_add_cancel (ae fun h9=>lN [_,0,0] [(1,.t V0 K1),(1,.t K0 V0)] (.c h9 (.c hk .n)))) .n)))))).elim
  ·exact I.max b hb k h1 (by exact ae fun h9=>lN [_,_,_] [(1,.t V0 (.a V1 V2)),(1,.t (.a V1 V2) (.a V0 K1))] (.c h9 (.c (Nat.lt_of_le_of_ne (ae fun h9=>lN [_,_,_] [(1,.t (.a V0 K1) (.a V1 V2)),(1,.l (.a V1 V2) (.a V0 K1))] (.c h9 (.c h2 .n))) e) .n)))
 cases ho:BK la lb i with
 | none =>
  refine none fun b hb d hd e=>?_
  have:=Ag nd H hb hd
  rw [← e,ho] at this;cases this
 | some j =>
  by_cases hj:j < r.blo ∨ r.bhi ≤ j
  ·rw [d8 hj]
   refine none fun b hb d hd e=>?_
   have h1:=Ag nd H hb hd
   rw [← e,ho] at h1
   have h2:=H.ins b hb
   cases h1;omega
  ·obtain ⟨x,hx1,hx2⟩:=wN ho
   obtain ⟨b,hb,d,hd,e1,e2⟩:=H.mat i j x hi hi2 (by exact ae fun h9=>lN [_,_,0] [(1,.t V0 V1),(1,.nt V0 V1)] (.c h9 (.c (not_or.mp hj).1 .n))) (by exact aA fun h9=>lN [_,_,0] [(1,.l V0 V1),(1,.nl V0 V1)] (.c h9 (.c (not_or.mp hj).2 .n))) hx1 hx2
   have hbi:=H.ins b hb
   have hk:dU st.prev j = d + 1:=by
    rcases Nat.eq_zero_or_pos d with rfl | hd0
    ·cases hp:st.prev with
     | none=>rfl
     | some q =>
      obtain ⟨j',k'⟩:=q
      unfold dU
      show (if j = j' + 1 then k' + 1 else 1) = _
      rw [if_neg]
      intro hj'
      obtain ⟨c,hc,c1,c2,c3,c4⟩:=I.prev j' k' hp
      by_cases ck:k' = c.k
      ·exact kQ H.ord hc hb (by exact aN (fun h9=>lN [_,_,_,_,_] [(1,.t V0 (.a V1 V2)),(1,.e V3 (.a V0 K0)),(-1,.e V3 (.a V1 V4)),(-1,.e V4 V2)] (.c h9 (.c e1 (.c c3 (.c ck .n))))) (fun h9=>lN [_,_,_,_,_] [(1,.t (.a V0 V1) V2),(-1,.e V3 (.a V2 K0)),(1,.e V3 (.a V0 V4)),(1,.e V4 V1)] (.c h9 (.c e1 (.c c3 (.c ck .n)))))) (by exact aN (fun h9=>lN [_,_,_,_,_,_] [(1,.t V0 (.a V1 V2)),(1,.e V3 (.a V0 K0)),(-1,.e V3 (.a V4 K1)),(-1,.e (.a V4 K1) (.a V1 V5)),(-1,.e V5 V2)] (.c h9 (.c e2 (.c hj' (.c c4 (.c ck .n)))))) (fun h9=>lN [_,_,_,_,_,_] [(1,.t (.a V0 V1) V2),(-1,.e V3 (.a V2 K0)),(1,.e V3 (.a V4 K1)),(1,.e (.a V4 K1) (.a V0 V5)),(1,.e V5 V1)] (.c h9 (.c e2 (.c hj' (.c c4 (.c ck .n))))))) (by exact aA fun h9=>lN [_] [(1,.l V0 K0),(1,.t K0 V0)] (.c h9 (.c hd .n))) (by exact aA fun h9=>lN [_,_] [(1,.l V0 K0),(1,.t K0 V1),(1,.e V1 V0)] (.c h9 (.c c1 (.c ck .n))))
      ·have:=dL H.ord hb hc (i:=i) (j:=j) (j':=j) ⟨0,by exact aA fun h9=>lN [_] [(1,.l V0 K0),(1,.t K0 V0)] (.c h9 (.c hd .n)),by exact aN (fun h9=>lN [_,_] [(1,.t (.a V0 K0) V1),(1,.e V1 (.a V0 K0))] (.c h9 (.c e1 .n))) (fun h9=>lN [_,_] [(1,.t V0 (.a V1 K0)),(-1,.e V0 (.a V1 K0))] (.c h9 (.c e1 .n))),by exact aN (fun h9=>lN [_,_] [(1,.t (.a V0 K0) V1),(1,.e V1 (.a V0 K0))] (.c h9 (.c e2 .n))) (fun h9=>lN [_,_] [(1,.t V0 (.a V1 K0)),(-1,.e V0 (.a V1 K0))] (.c h9 (.c e2 .n)))⟩ ⟨k',by exact aA fun h9=>lN [_,_] [(1,.l V0 V1),(1,.t V1 V0)] (.c h9 (.c (Nat.lt_of_le_of_ne (ae fun h9=>lN [_,_] [(1,.t V0 V1),(1,.l V1 V0)] (.c h9 (.c c2 .n))) ck) .n)),by exact aN (fun h9=>lN [_,_,_] [(1,.t (.a V0 V1) V2),(1,.e V2 (.a V0 V1))] (.c h9 (.c c3 .n))) (fun h9=>lN [_,_,_] [(1,.t V0 (.a V1 V2)),(-1,.e V0 (.a V1 V2))] (.c h9 (.c c3 .n))),by exact aN (fun h9=>lN [_,_,_,0,_] [(1,.t (.a V0 V1) V2),(1,.e V2 (.a V4 K1)),(1,.e (.a V4 K1) (.a V0 V1))] (.c h9 (.c hj' (.c c4 .n)))) (fun h9=>lN [_,_,_,0,_] [(1,.t V0 (.a V1 V2)),(-1,.e V0 (.a V4 K1)),(-1,.e (.a V4 K1) (.a V1 V2))] (.c h9 (.c hj' (.c c4 .n))))⟩
       subst this;exact lN [_,_,_] [(1,.e V0 (.a V1 K0)),(1,.t K0 V2),(-1,.e V0 (.a V1 V2))] (.c e1 (.c c1 (.c c3 .n)))
    ·rw [I.prev' b hb d hd0 (by exact ae fun h9=>lN [_,_] [(1,.t V0 V1),(1,.t V1 V0)] (.c h9 (.c hd .n))) (by exact aN (fun h9=>lN [_,_,_] [(1,.t (.a V0 V1) V2),(1,.e V2 (.a V0 V1))] (.c h9 (.c e1 .n))) (fun h9=>lN [_,_,_] [(1,.t V0 (.a V1 V2)),(-1,.e V0 (.a V1 V2))] (.c h9 (.c e1 .n))))]
     unfold dU
     show (if j = b.j + d - 1 + 1 then d + 1 else 1) = _
     rw [if_pos (by exact aN (fun h9=>lN [_,_,_,_] [(1,.t (.a V0 K1) V1),(1,.e V1 (.a V2 V3)),(-1,.e (.a V0 K1) (.a V2 V3))] (.c h9 (.c e2 (.c (Nat.sub_add_cancel (ae fun h9=>lN [_,_,0] [(1,.t (.a V0 V1) K1),(1,.t K0 V1)] (.c h9 (.c hd0 .n)))) .n)))) (fun h9=>lN [_,_,_,_] [(1,.t V0 (.a V1 K1)),(-1,.e V0 (.a V2 V3)),(1,.e (.a V1 K1) (.a V2 V3))] (.c h9 (.c e2 (.c (Nat.sub_add_cancel (ae fun h9=>lN [_,_,0] [(1,.t (.a V0 V1) K1),(1,.t K0 V1)] (.c h9 (.c hd0 .n)))) .n)))))]
   have key:∀ (bi bj bs:Nat),st.bs ≤ bs → d + 1 ≤ bs → ((bs = 0 ∧ bi = r.alo ∧ bj = r.blo) ∨ (∃ b ∈ p,bi = b.i ∧ bj = b.j ∧ 0 < bs ∧ bs ≤ b.k)) → DY p r.alo r.blo (i + 1) ⟨some (j,d + 1),bi,bj,bs⟩:=by
    intro bi bj bs hbs hbd hbest
    refine ⟨fun j' k' h=>?_,fun c hc k h1 h2 h3=>?_,hbest,fun c hc k h1 h2=>?_⟩
    ·cases h
     exact ⟨b,hb,by exact aA fun h9=>lN [_,0] [(1,.l (.a V0 K1) K0)] (.c h9 .n),by exact ae fun h9=>lN [_,_,0] [(1,.t V0 (.a V1 K1)),(1,.t V1 V0)] (.c h9 (.c hd .n)),by exact aN (fun h9=>lN [_,_,_] [(1,.t (.a V0 (.a V1 K1)) (.a V2 K1)),(1,.e V2 (.a V0 V1))] (.c h9 (.c e1 .n))) (fun h9=>lN [_,_,_] [(1,.t (.a V0 K1) (.a V1 (.a V2 K1))),(-1,.e V0 (.a V1 V2))] (.c h9 (.c e1 .n))),by exact aN (fun h9=>lN [_,_,_] [(1,.t (.a V0 (.a V1 K1)) (.a V2 K1)),(1,.e V2 (.a V0 V1))] (.c h9 (.c e2 .n))) (fun h9=>lN [_,_,_] [(1,.t (.a V0 K1) (.a V1 (.a V2 K1))),(-1,.e V0 (.a V1 V2))] (.c h9 (.c e2 .n)))⟩
    ·have:=dL H.ord hb hc (i:=i) (j:=j) (j':=c.j + (k - 1)) ⟨d,hd,e1,e2⟩ ⟨k - 1,by exact aA fun h9=>lN [_,_,_] [(1,.l V0 V1),(1,.l V2 V0),(1,.e (.a V1 K1) V2)] (.c h9 (.c h2 (.c (Nat.sub_add_cancel (ae fun h9=>lN [_,0] [(1,.t V0 K1),(1,.t K0 V0)] (.c h9 (.c h1 .n)))) .n))),by exact aN (fun h9=>lN [_,_,_,0,0,0,_] [(1,.t (.a V0 V1) V2),(1,.e (.a V2 K1) (.a V0 V6)),(-1,.e (.a V1 K1) V6)] (.c h9 (.c h3 (.c (Nat.sub_add_cancel (ae fun h9=>lN [_,0,0,0,0,0] [(1,.t V0 K1),(1,.t K0 V0)] (.c h9 (.c h1 .n)))) .n)))) (fun h9=>lN [_,_,_,0,0,0,_] [(1,.t V0 (.a V1 V2)),(-1,.e (.a V0 K1) (.a V1 V6)),(1,.e (.a V2 K1) V6)] (.c h9 (.c h3 (.c (Nat.sub_add_cancel (ae fun h9=>lN [_,0,0,0,0,0] [(1,.t V0 K1),(1,.t K0 V0)] (.c h9 (.c h1 .n)))) .n)))),rfl⟩
     subst this
     have:k = d + 1:=by exact aN (fun h9=>lN [_,_,_,_,0] [(1,.t (.a V0 K1) V1),(1,.e V2 (.a V3 V0)),(-1,.e (.a V2 K1) (.a V3 V1))] (.c h9 (.c e1 (.c h3 .n)))) (fun h9=>lN [_,_,_,_,0] [(1,.t V0 (.a V1 K1)),(-1,.e V2 (.a V3 V1)),(1,.e (.a V2 K1) (.a V3 V0))] (.c h9 (.c e1 (.c h3 .n))))
     subst this
     show some (j,d + 1) = _
     rw [show b.j + (d + 1) - 1 = j by exact aN (fun h9=>lN [_,_,_,_,0] [(1,.t V0 V1),(-1,.e V0 (.a V2 V3)),(1,.e (.a V1 K1) (.a V2 (.a V3 K1)))] (.c h9 (.c e2 (.c (Nat.sub_add_cancel (ae fun h9=>lN [_,_,0,0] [(1,.t (.a V0 (.a V1 K1)) K1)] (.c h9 .n))) .n)))) (fun h9=>lN [_,_,_,_,0] [(1,.t V0 V1),(1,.e V1 (.a V2 V3)),(-1,.e (.a V0 K1) (.a V2 (.a V3 K1)))] (.c h9 (.c e2 (.c (Nat.sub_add_cancel (ae fun h9=>lN [_,_,0,0] [(1,.t (.a V0 (.a V1 K1)) K1)] (.c h9 .n))) .n))))]
    ·by_cases e:c.i + k = i + 1
     ·rcases Nat.eq_zero_or_pos k with rfl | hk0
      ·exact Nat.zero_le _
      ·have:=dL H.ord hb hc (i:=i) (j:=j) (j':=c.j + (k - 1)) ⟨d,hd,e1,e2⟩ ⟨k - 1,by exact aA fun h9=>lN [_,_,_] [(1,.l V0 V1),(1,.l V2 V0),(1,.e (.a V1 K1) V2)] (.c h9 (.c h1 (.c (Nat.sub_add_cancel (ae fun h9=>lN [_,0] [(1,.t V0 K1),(1,.t K0 V0)] (.c h9 (.c hk0 .n)))) .n))),by exact aN (fun h9=>lN [_,_,_,0,0,0,_] [(1,.t (.a V0 V1) V2),(-1,.e (.a V0 V6) (.a V2 K1)),(-1,.e (.a V1 K1) V6)] (.c h9 (.c e (.c (Nat.sub_add_cancel (ae fun h9=>lN [_,0,0,0,0,0] [(1,.t V0 K1),(1,.t K0 V0)] (.c h9 (.c hk0 .n)))) .n)))) (fun h9=>lN [_,_,_,0,0,0,_] [(1,.t V0 (.a V1 V2)),(1,.e (.a V1 V6) (.a V0 K1)),(1,.e (.a V2 K1) V6)] (.c h9 (.c e (.c (Nat.sub_add_cancel (ae fun h9=>lN [_,0,0,0,0,0] [(1,.t V0 K1),(1,.t K0 V0)] (.c h9 (.c hk0 .n)))) .n)))),rfl⟩
       subst this
       show k ≤ bs
       exact ae fun h9=>lN [_,_,_,_,_,0] [(1,.t V0 V1),(1,.e V2 (.a V3 V4)),(1,.l (.a V4 K1) V0),(1,.e (.a V3 V1) (.a V2 K1))] (.c h9 (.c e1 (.c hbd (.c e .n))))
     ·exact Nat.le_trans (I.max c hc k h1 (by exact ae fun h9=>lN [_,_,_,0,0,0] [(1,.t V0 (.a V1 V2)),(1,.t (.a V1 V2) (.a V0 K1))] (.c h9 (.c (Nat.lt_of_le_of_ne (ae fun h9=>lN [_,_,_,0,0,0] [(1,.t (.a V0 K1) (.a V1 V2)),(1,.l (.a V1 V2) (.a V0 K1))] (.c h9 (.c h2 .n))) e) .n)))) hbs
   by_cases hs:st.bs < dU st.prev j
   ·rw [fu hj hs,hk]
    rw [hk] at hs
    exact key _ _ _ (by exact ae fun h9=>lN [_,_,0] [(1,.t (.a V0 K1) V1),(1,.t V1 (.a V0 K1))] (.c h9 (.c hs .n))) (Nat.le_refl _) (.inr ⟨b,hb,by exact aN (fun h9=>lN [_,_,_,_] [(1,.t V0 V1),(1,.e V2 (.a V0 V3)),(1,.e (.a V1 (.a V3 K1)) (.a V2 K1))] (.c h9 (.c e1 (.c (Nat.sub_add_cancel (ae fun h9=>lN [_,_,_] [(1,.t (.a V0 K1) (.a V1 K1)),(-1,.e V0 (.a V2 V1))] (.c h9 (.c e1 .n)))) .n)))) (fun h9=>lN [_,_,_,_] [(1,.t V0 V1),(-1,.e V2 (.a V1 V3)),(-1,.e (.a V0 (.a V3 K1)) (.a V2 K1))] (.c h9 (.c e1 (.c (Nat.sub_add_cancel (ae fun h9=>lN [_,_,_] [(1,.t (.a V0 K1) (.a V1 K1)),(-1,.e V0 (.a V2 V1))] (.c h9 (.c e1 .n)))) .n)))),by exact aN (fun h9=>lN [_,_,_,_] [(1,.t V0 V1),(1,.e V2 (.a V0 V3)),(1,.e (.a V1 (.a V3 K1)) (.a V2 K1))] (.c h9 (.c e2 (.c (Nat.sub_add_cancel (ae fun h9=>lN [_,_,_] [(1,.t (.a V0 K1) (.a V1 K1)),(-1,.e V0 (.a V2 V1))] (.c h9 (.c e2 .n)))) .n)))) (fun h9=>lN [_,_,_,_] [(1,.t V0 V1),(-1,.e V2 (.a V1 V3)),(-1,.e (.a V0 (.a V3 K1)) (.a V2 K1))] (.c h9 (.c e2 (.c (Nat.sub_add_cancel (ae fun h9=>lN [_,_,_] [(1,.t (.a V0 K1) (.a V1 K1)),(-1,.e V0 (.a V2 V1))] (.c h9 (.c e2 .n)))) .n)))),by exact aA fun h9=>lN [_,0] [(1,.l (.a V0 K1) K0)] (.c h9 .n),by exact ae fun h9=>lN [_,_,0] [(1,.t V0 (.a V1 K1)),(1,.t V1 V0)] (.c h9 (.c hd .n))⟩)
   ·rw [iJ hj hs,hk]
    rw [hk] at hs
    exact key _ _ _ (Nat.le_refl _) (by exact ae fun h9=>lN [_,_,0] [(1,.t V0 (.a V1 K1)),(1,.nt V0 (.a V1 K1))] (.c h9 (.c hs .n))) I.best
theorem vF (nd:(lb.map (·.1)).Nodup) (H:bB (la.map (·.1)) (lb.map (·.1)) r p):∀ n,r.alo + n ≤ r.ahi → DY p r.alo r.blo (r.alo + n) (sV la lb r.alo r.blo r.bhi n)
 | 0,_=>by
  refine ⟨(fun j k h=>nomatch h),(fun b hb k h1 h2 h3=>?_),.inl ⟨rfl,rfl,rfl⟩,fun b hb k h1 h2=>?_⟩
  ·have:=H.ins b hb;exact (lN [_,_,_,0,0,0,0,0,0] [(1,.t K0 V0),(-1,.e (.a V1 K0) (.a V2 V0)),(1,.l V1 V2)] (.c h1 (.c h3 (.c this.2.1 .n)))).elim
  ·have:=H.ins b hb
   show k ≤ 0
   exact ae fun h9=>lN [_,_,_,0,0,0,0,0] [(1,.t K0 V0),(1,.l (.a V1 V0) (.a V2 K0)),(1,.l V2 V1)] (.c h9 (.c h2 (.c this.2.1 .n)))
 | n + 1,h=>x7 nd H (Nat.le_add_right r.alo n) (show r.alo + n < r.ahi by exact aA fun h9=>lN [_,_,_] [(1,.l V0 (.a V1 V2)),(1,.l (.a V1 (.a V2 K1)) V0)] (.c h9 (.c h .n))) (vF nd H n (by exact ae fun h9=>lN [_,_,_] [(1,.t V0 (.a V1 V2)),(1,.l (.a V1 (.a V2 K1)) V0)] (.c h9 (.c h .n))))
theorem rc (nd:(lb.map (·.1)).Nodup) (H:bB (la.map (·.1)) (lb.map (·.1)) r p) :
  (p = [] ∧ (bp la lb r).bs = 0 ∧ (bp la lb r).bi = r.alo ∧ (bp la lb r).bj = r.blo) ∨ ∃ p1 b p2,p = p1++b :: p2 ∧ (bp la lb r).bi = b.i ∧ (bp la lb r).bj = b.j ∧ (bp la lb r).bs = b.k:=by
 have hle:=H.le
 have I:=vF nd H (r.ahi - r.alo) (by exact ae fun h9=>lN [_,_,_,0,0,0] [(1,.t V0 (.a V1 V2)),(1,.e (.a V2 V1) V0)] (.c h9 (.c (Nat.sub_add_cancel (ae fun h9=>lN [_,_,0,0,0] [(1,.t V0 V1),(1,.l V1 V0)] (.c h9 (.c hle.1 .n)))) .n)))
 rw [show r.alo + (r.ahi - r.alo) = r.ahi by exact aN (fun h9=>lN [_,_,_,0,0,0] [(1,.t V0 (.a V1 V2)),(1,.e (.a V2 V1) V0)] (.c h9 (.c (Nat.sub_add_cancel (ae fun h9=>lN [_,_,0,0,0] [(1,.t V0 V1),(1,.l V1 V0)] (.c h9 (.c hle.1 .n)))) .n))) (fun h9=>lN [_,_,_,0,0,0] [(1,.t (.a V0 V1) V2),(-1,.e (.a V1 V0) V2)] (.c h9 (.c (Nat.sub_add_cancel (ae fun h9=>lN [_,_,0,0,0] [(1,.t V0 V1),(1,.l V1 V0)] (.c h9 (.c hle.1 .n)))) .n)))] at I
 rcases I.best with ⟨h1,h2,h3⟩ | ⟨b,hb,h1,h2,h3,h4⟩
 ·refine .inl ⟨?_,h1,h2,h3⟩
  cases p with
  | nil=>rfl
  | cons c q =>
   have hc:=H.ins c List.mem_cons_self
   have:=I.max c List.mem_cons_self c.k (Nat.le_refl _) hc.2.2.1
   exact (lN [_,_,0,0,0,0,0,0,0] [(1,.e V0 K0),(1,.t K0 V1),(1,.l V1 V0)] (.c h1 (.c hc.1 (.c this .n)))).elim
 ·have hb':=H.ins b hb
  have:=I.max b hb b.k (Nat.le_refl _) hb'.2.2.1
  obtain ⟨p1,p2,rfl⟩:=List.append_of_mem hb
  exact .inr ⟨p1,b,p2,rfl,h1,h2,Nat.le_antisymm h4 this⟩
theorem BX (nd:(lb.map (·.1)).Nodup) (H:bB (la.map (·.1)) (lb.map (·.1)) r p) (hb0:r.blo ≤ r.bhi):gE la lb r.alo r.ahi r.blo r.bhi (bp la lb r):=by
 have hle:=H.le
 simp only [List.length_map] at hle
 have get:∀ {l:List (PySem.Str × Nat)} {i:Nat} {y:PySem.Str} {t:Nat},l[i]? = some (y,t) → (l.map (·.1))[i]? = some y:=by
  intro l i y t h;rw [List.getElem?_map,h];rfl
 rcases rc nd H with ⟨rfl,h1,h2,h3⟩ | ⟨p1,b,p2,rfl,h1,h2,h3⟩
 ·refine ⟨by exact ae fun h9=>lN [_,_,_,_,0,0] [(1,.t V0 V1),(1,.l V2 V3),(1,.l V3 V0),(1,.e V1 V2)] (.c h9 (.c hle.1 (.c hle.2.1 (.c h2 .n)))),by exact ae fun h9=>lN [_,_,_,_,0,0,0] [(1,.t V0 V1),(1,.l V2 V3),(1,.l V3 V0),(1,.e V1 V2)] (.c h9 (.c hb0 (.c hle.2.2 (.c h3 .n)))),fun y z t u e=>by exact (lN [_,_] [(1,.e V0 V1),(1,.t V1 V0)] (.c h2 (.c e .n))).elim,fun y z t u e1 e2 e3 e4 e=>?_⟩
  subst e
  obtain ⟨b,hb,_⟩:=H.mat _ _ y (by exact ae fun h9=>lN [_,_,_] [(1,.t (.a V0 V1) V2),(-1,.e V0 V2)] (.c h9 (.c h2 .n))) (by exact aA fun h9=>lN [_,_,_] [(1,.l V0 (.a V1 V2)),(1,.t (.a V1 V2) V0)] (.c h9 (.c e1 .n))) (by exact ae fun h9=>lN [_,_,_] [(1,.t (.a V0 V1) V2),(-1,.e V0 V2)] (.c h9 (.c h3 .n))) (by exact aA fun h9=>lN [_,_,_] [(1,.l V0 (.a V1 V2)),(1,.t (.a V1 V2) V0)] (.c h9 (.c e2 .n))) (get e3) (get e4)
  cases hb
 ·have hb:b ∈ p1++b :: p2:=ac List.mem_cons_self
  have hb':=H.ins b hb
  refine ⟨by exact ae fun h9=>lN [_,_,0,_,0,0,_,_,0,0] [(1,.t V0 V1),(1,.l V3 V0),(1,.e V1 V6),(1,.l (.a V6 V7) V3)] (.c h9 (.c hle.2.1 (.c h1 (.c hb'.2.2.1 .n)))),by exact ae fun h9=>lN [_,_,0,0,0,_,_,_,0,0] [(1,.t V0 V1),(1,.l V5 V0),(1,.e V1 V6),(1,.l (.a V6 V7) V5)] (.c h9 (.c hle.2.2 (.c h2 (.c hb'.2.2.2.2 .n)))),fun y z t u e1 e2 e3 e4 e=>?_,fun y z t u e1 e2 e3 e4 e=>?_⟩
  ·subst e
   rw [h1] at e1 e3;rw [h2] at e2 e4
   obtain ⟨c,hc,d,c1,c2,c3⟩:=H.mat _ _ y (by exact ae fun h9=>lN [_,_,0,_] [(1,.t V0 V1),(1,.t V1 V3),(-1,.e (.a V0 K1) V3)] (.c h9 (.c e1 (.c (Nat.sub_add_cancel (ae fun h9=>lN [_,0,_] [(1,.t V0 K1),(1,.t V2 V0)] (.c h9 (.c e1 .n)))) .n)))) (by exact aA fun h9=>lN [_,_,0,_,_,0,0,0,0] [(1,.l V0 V1),(1,.l (.a V3 V4) V0),(1,.e (.a V1 K1) V3)] (.c h9 (.c hb'.2.2.1 (.c (Nat.sub_add_cancel (ae fun h9=>lN [_,0,0,_,0,0,0,0] [(1,.t V0 K1),(1,.t V3 V0)] (.c h9 (.c e1 .n)))) .n)))) (by exact ae fun h9=>lN [_,_,0,_] [(1,.t V0 V1),(1,.t V1 V3),(-1,.e (.a V0 K1) V3)] (.c h9 (.c e2 (.c (Nat.sub_add_cancel (ae fun h9=>lN [_,0,_] [(1,.t V0 K1),(1,.t V2 V0)] (.c h9 (.c e2 .n)))) .n)))) (by exact aA fun h9=>lN [_,_,0,_,_,0,0,0,0] [(1,.l V0 V1),(1,.l (.a V3 V4) V0),(1,.e (.a V1 K1) V3)] (.c h9 (.c hb'.2.2.2.2 (.c (Nat.sub_add_cancel (ae fun h9=>lN [_,0,0,0,0,0,_,0] [(1,.t V0 K1),(1,.t V6 V0)] (.c h9 (.c e2 .n)))) .n)))) (get e3) (get e4)
   by_cases e:d + 1 = c.k
   ·exact kQ H.ord hc hb (by exact aN (fun h9=>lN [_,_,_,0,0,0,0,0,_,_,0,0] [(1,.t V0 (.a V1 V2)),(-1,.e V8 (.a V1 V9)),(-1,.e (.a V9 K1) V2),(1,.e (.a V8 K1) V0)] (.c h9 (.c c2 (.c e (.c (Nat.sub_add_cancel (ae fun h9=>lN [_,0,0,0,_,0,0,0,0,0,0,0] [(1,.t V0 K1),(1,.t V4 V0)] (.c h9 (.c e1 .n)))) .n))))) (fun h9=>lN [_,_,_,0,0,0,0,0,_,_,0,0] [(1,.t (.a V0 V1) V2),(1,.e V8 (.a V0 V9)),(1,.e (.a V9 K1) V1),(-1,.e (.a V8 K1) V2)] (.c h9 (.c c2 (.c e (.c (Nat.sub_add_cancel (ae fun h9=>lN [_,0,0,0,_,0,0,0,0,0,0,0] [(1,.t V0 K1),(1,.t V4 V0)] (.c h9 (.c e1 .n)))) .n)))))) (by exact aN (fun h9=>lN [_,_,_,0,0,0,0,_,_,0] [(1,.t V0 (.a V1 V2)),(-1,.e V8 (.a V1 V7)),(-1,.e (.a V7 K1) V2),(1,.e (.a V8 K1) V0)] (.c h9 (.c c3 (.c e (.c (Nat.sub_add_cancel (ae fun h9=>lN [_,0,_,0,0,0,0,0,0] [(1,.t V0 K1),(1,.t V2 V0)] (.c h9 (.c e2 .n)))) .n))))) (fun h9=>lN [_,_,_,0,0,0,0,_,_,0] [(1,.t (.a V0 V1) V2),(1,.e V8 (.a V0 V7)),(1,.e (.a V7 K1) V1),(-1,.e (.a V8 K1) V2)] (.c h9 (.c c3 (.c e (.c (Nat.sub_add_cancel (ae fun h9=>lN [_,0,_,0,0,0,0,0,0] [(1,.t V0 K1),(1,.t V2 V0)] (.c h9 (.c e2 .n)))) .n)))))) (by exact aA fun h9=>lN [_,0,0,0,0,0,0] [(1,.l V0 K0),(1,.t K0 V0)] (.c h9 (.c hb'.1 .n))) (by exact aA fun h9=>lN [_,0,0,_,0,0,0,0] [(1,.l V0 K0),(1,.e (.a V3 K1) V0)] (.c h9 (.c e .n)))
   ·have:=dL H.ord hb hc (i:=b.i) (j:=b.j) (j':=b.j) ⟨0,by exact aA fun h9=>lN [_,0,0,0,0,0,0] [(1,.l V0 K0),(1,.t K0 V0)] (.c h9 (.c hb'.1 .n)),by exact aN (fun h9=>lN [_] [(1,.t (.a V0 K0) V0)] (.c h9 .n)) (fun h9=>lN [_] [(1,.t V0 (.a V0 K0))] (.c h9 .n)),by exact aN (fun h9=>lN [_] [(1,.t (.a V0 K0) V0)] (.c h9 .n)) (fun h9=>lN [_] [(1,.t V0 (.a V0 K0))] (.c h9 .n))⟩ ⟨d + 1,by exact aA fun h9=>lN [_,_,0,0,0,0,0,0] [(1,.l V0 (.a V1 K1)),(1,.t (.a V1 K1) V0)] (.c h9 (.c (Nat.lt_of_le_of_ne (ae fun h9=>lN [_,_,0,0,0,0,0,0] [(1,.t V0 (.a V1 K1)),(1,.t V1 V0)] (.c h9 (.c c1 .n))) e) .n)),by exact aN (fun h9=>lN [_,_,_,0,0,0,0,0,0,_,0,0] [(1,.t (.a V0 (.a V1 K1)) V2),(1,.e V9 (.a V0 V1)),(-1,.e (.a V9 K1) V2)] (.c h9 (.c c2 (.c (Nat.sub_add_cancel (ae fun h9=>lN [_,0,0,0,_,0,0,0,0,0,0,0] [(1,.t V0 K1),(1,.t V4 V0)] (.c h9 (.c e1 .n)))) .n)))) (fun h9=>lN [_,_,_,0,0,0,0,0,0,_,0,0] [(1,.t V0 (.a V1 (.a V2 K1))),(-1,.e V9 (.a V1 V2)),(1,.e (.a V9 K1) V0)] (.c h9 (.c c2 (.c (Nat.sub_add_cancel (ae fun h9=>lN [_,0,0,0,_,0,0,0,0,0,0,0] [(1,.t V0 K1),(1,.t V4 V0)] (.c h9 (.c e1 .n)))) .n)))),by exact aN (fun h9=>lN [_,_,_,0,0,0,0,0,_,0] [(1,.t (.a V0 (.a V1 K1)) V2),(1,.e V8 (.a V0 V1)),(-1,.e (.a V8 K1) V2)] (.c h9 (.c c3 (.c (Nat.sub_add_cancel (ae fun h9=>lN [_,0,_,0,0,0,0,0,0] [(1,.t V0 K1),(1,.t V2 V0)] (.c h9 (.c e2 .n)))) .n)))) (fun h9=>lN [_,_,_,0,0,0,0,0,_,0] [(1,.t V0 (.a V1 (.a V2 K1))),(-1,.e V8 (.a V1 V2)),(1,.e (.a V8 K1) V0)] (.c h9 (.c c3 (.c (Nat.sub_add_cancel (ae fun h9=>lN [_,0,_,0,0,0,0,0,0] [(1,.t V0 K1),(1,.t V2 V0)] (.c h9 (.c e2 .n)))) .n))))⟩
    subst this;exact lN [0,_,0,_,0,_] [(-1,.e V5 (.a V1 V3)),(1,.e (.a V5 K1) V1)] (.c c3 (.c (Nat.sub_add_cancel (ae fun h9=>lN [_,0,_,0,0,0] [(1,.t V0 K1),(1,.t V2 V0)] (.c h9 (.c e2 .n)))) .n))
  ·subst e
   rw [h1,h3] at e1 e3;rw [h2,h3] at e2 e4
   obtain ⟨c,hc,d,c1,c2,c3⟩:=H.mat _ _ y (by exact ae fun h9=>lN [_,_,_,0,0,0,0] [(1,.t (.a V0 V1) V2),(1,.l V2 V0)] (.c h9 (.c hb'.2.1 .n))) (by exact aA fun h9=>lN [_,_,_] [(1,.l V0 (.a V1 V2)),(1,.t (.a V1 V2) V0)] (.c h9 (.c e1 .n))) (by exact ae fun h9=>lN [_,_,_,0,0,0,0] [(1,.t (.a V0 V1) V2),(1,.l V2 V0)] (.c h9 (.c hb'.2.2.2.1 .n))) (by exact aA fun h9=>lN [_,_,_] [(1,.l V0 (.a V1 V2)),(1,.t (.a V1 V2) V0)] (.c h9 (.c e2 .n))) (get e3) (get e4)
   rcases Nat.eq_zero_or_pos d with rfl | hd
   ·exact kQ H.ord hb hc (by exact aN (fun h9=>lN [_,_,_] [(1,.t V0 (.a V1 V2)),(1,.e (.a V1 V2) (.a V0 K0))] (.c h9 (.c c2 .n))) (fun h9=>lN [_,_,_] [(1,.t (.a V0 V1) V2),(-1,.e (.a V0 V1) (.a V2 K0))] (.c h9 (.c c2 .n)))) (by exact aN (fun h9=>lN [_,_,_] [(1,.t V0 (.a V1 V2)),(1,.e (.a V1 V2) (.a V0 K0))] (.c h9 (.c c3 .n))) (fun h9=>lN [_,_,_] [(1,.t (.a V0 V1) V2),(-1,.e (.a V0 V1) (.a V2 K0))] (.c h9 (.c c3 .n)))) (by exact aA fun h9=>lN [_] [(1,.l V0 K0),(1,.t K0 V0)] (.c h9 (.c c1 .n))) (by exact aA fun h9=>lN [_,0,0,0,0,0,0] [(1,.l V0 K0),(1,.t K0 V0)] (.c h9 (.c hb'.1 .n)))
   ·have:=dL H.ord hb hc (i:=b.i + b.k - 1) (j:=b.j + b.k - 1) (j':=b.j + b.k - 1) ⟨b.k - 1,by exact aA fun h9=>lN [_,_,0,0,0,0,0,0] [(1,.l V0 V1),(1,.e (.a V1 K1) V0)] (.c h9 (.c (Nat.sub_add_cancel (ae fun h9=>lN [_,0,0,0,0,0,0] [(1,.t V0 K1),(1,.t K0 V0)] (.c h9 (.c hb'.1 .n)))) .n)),by exact aN (fun h9=>lN [_,_,_,0,_,0,0,0,0,0,0,0] [(1,.t (.a V0 V1) V2),(-1,.e (.a V1 K1) V4),(1,.e (.a V2 K1) (.a V0 V4))] (.c h9 (.c (Nat.sub_add_cancel (ae fun h9=>lN [_,0,0,0,0,0,0,0,0,0] [(1,.t V0 K1),(1,.t K0 V0)] (.c h9 (.c hb'.1 .n)))) (.c (Nat.sub_add_cancel (ae fun h9=>lN [_,_,0,0,0,0,0,0,0,0,_] [(1,.t (.a V0 V1) K1),(1,.e (.a (.v 10) K1) V1)] (.c h9 (.c (Nat.sub_add_cancel (ae fun h9=>lN [_,0,0,0,0,0,0,0,0,0] [(1,.t V0 K1),(1,.t K0 V0)] (.c h9 (.c hb'.1 .n)))) .n)))) .n)))) (fun h9=>lN [_,_,_,0,_,0,0,0,0,0,0,0] [(1,.t V0 (.a V1 V2)),(1,.e (.a V2 K1) V4),(-1,.e (.a V0 K1) (.a V1 V4))] (.c h9 (.c (Nat.sub_add_cancel (ae fun h9=>lN [_,0,0,0,0,0,0,0,0,0] [(1,.t V0 K1),(1,.t K0 V0)] (.c h9 (.c hb'.1 .n)))) (.c (Nat.sub_add_cancel (ae fun h9=>lN [_,_,0,0,0,0,0,0,0,0,_] [(1,.t (.a V0 V1) K1),(1,.e (.a (.v 10) K1) V1)] (.c h9 (.c (Nat.sub_add_cancel (ae fun h9=>lN [_,0,0,0,0,0,0,0,0,0] [(1,.t V0 K1),(1,.t K0 V0)] (.c h9 (.c hb'.1 .n)))) .n)))) .n)))),by exact aN (fun h9=>lN [_,_,_,0,_,0,0,0,0,0,0,0] [(1,.t (.a V0 V1) V2),(-1,.e (.a V1 K1) V4),(1,.e (.a V2 K1) (.a V0 V4))] (.c h9 (.c (Nat.sub_add_cancel (ae fun h9=>lN [_,0,0,0,0,0,0,0,0,0] [(1,.t V0 K1),(1,.t K0 V0)] (.c h9 (.c hb'.1 .n)))) (.c (Nat.sub_add_cancel (ae fun h9=>lN [_,_,0,0,0,0,0,0,0,0,_] [(1,.t (.a V0 V1) K1),(1,.e (.a (.v 10) K1) V1)] (.c h9 (.c (Nat.sub_add_cancel (ae fun h9=>lN [_,0,0,0,0,0,0,0,0,0] [(1,.t V0 K1),(1,.t K0 V0)] (.c h9 (.c hb'.1 .n)))) .n)))) .n)))) (fun h9=>lN [_,_,_,0,_,0,0,0,0,0,0,0] [(1,.t V0 (.a V1 V2)),(1,.e (.a V2 K1) V4),(-1,.e (.a V0 K1) (.a V1 V4))] (.c h9 (.c (Nat.sub_add_cancel (ae fun h9=>lN [_,0,0,0,0,0,0,0,0,0] [(1,.t V0 K1),(1,.t K0 V0)] (.c h9 (.c hb'.1 .n)))) (.c (Nat.sub_add_cancel (ae fun h9=>lN [_,_,0,0,0,0,0,0,0,0,_] [(1,.t (.a V0 V1) K1),(1,.e (.a (.v 10) K1) V1)] (.c h9 (.c (Nat.sub_add_cancel (ae fun h9=>lN [_,0,0,0,0,0,0,0,0,0] [(1,.t V0 K1),(1,.t K0 V0)] (.c h9 (.c hb'.1 .n)))) .n)))) .n))))⟩ ⟨d - 1,by exact aA fun h9=>lN [_,_,_] [(1,.l V0 V1),(1,.t V2 V0),(1,.e (.a V1 K1) V2)] (.c h9 (.c c1 (.c (Nat.sub_add_cancel (ae fun h9=>lN [_,0] [(1,.t V0 K1),(1,.t K0 V0)] (.c h9 (.c hd .n)))) .n))),by exact aN (fun h9=>lN [_,_,_,0,_,_,0,0,0,0,0,_] [(1,.t (.a V0 V1) V2),(1,.e (.a V4 V5) (.a V0 (.v 11))),(-1,.e (.a V1 K1) (.v 11)),(1,.e (.a V2 K1) (.a V4 V5))] (.c h9 (.c c2 (.c (Nat.sub_add_cancel (ae fun h9=>lN [_,0,0,0,0,0,0,0,0,0] [(1,.t V0 K1),(1,.t K0 V0)] (.c h9 (.c hd .n)))) (.c (Nat.sub_add_cancel (ae fun h9=>lN [_,_,0,0,0,0,0,0,_,_,_] [(1,.t (.a V0 V1) K1),(-1,.e (.a V0 V1) (.a V8 V9)),(1,.e (.a (.v 10) K1) V9)] (.c h9 (.c c2 (.c (Nat.sub_add_cancel (ae fun h9=>lN [_,0,0,0,0,0,0,0,0,0] [(1,.t V0 K1),(1,.t K0 V0)] (.c h9 (.c hd .n)))) .n))))) .n))))) (fun h9=>lN [_,_,_,0,_,_,0,0,0,0,0,_] [(1,.t V0 (.a V1 V2)),(-1,.e (.a V4 V5) (.a V1 (.v 11))),(1,.e (.a V2 K1) (.v 11)),(-1,.e (.a V0 K1) (.a V4 V5))] (.c h9 (.c c2 (.c (Nat.sub_add_cancel (ae fun h9=>lN [_,0,0,0,0,0,0,0,0,0] [(1,.t V0 K1),(1,.t K0 V0)] (.c h9 (.c hd .n)))) (.c (Nat.sub_add_cancel (ae fun h9=>lN [_,_,0,0,0,0,0,0,_,_,_] [(1,.t (.a V0 V1) K1),(-1,.e (.a V0 V1) (.a V8 V9)),(1,.e (.a (.v 10) K1) V9)] (.c h9 (.c c2 (.c (Nat.sub_add_cancel (ae fun h9=>lN [_,0,0,0,0,0,0,0,0,0] [(1,.t V0 K1),(1,.t K0 V0)] (.c h9 (.c hd .n)))) .n))))) .n))))),by exact aN (fun h9=>lN [_,_,_,0,_,_,0,0,0,0,0,_] [(1,.t (.a V0 V1) V2),(1,.e (.a V4 V5) (.a V0 (.v 11))),(-1,.e (.a V1 K1) (.v 11)),(1,.e (.a V2 K1) (.a V4 V5))] (.c h9 (.c c3 (.c (Nat.sub_add_cancel (ae fun h9=>lN [_,0,0,0,0,0,0,0,0,0] [(1,.t V0 K1),(1,.t K0 V0)] (.c h9 (.c hd .n)))) (.c (Nat.sub_add_cancel (ae fun h9=>lN [_,_,0,0,0,0,0,0,_,_,_] [(1,.t (.a V0 V1) K1),(-1,.e (.a V0 V1) (.a V8 V9)),(1,.e (.a (.v 10) K1) V9)] (.c h9 (.c c3 (.c (Nat.sub_add_cancel (ae fun h9=>lN [_,0,0,0,0,0,0,0,0,0] [(1,.t V0 K1),(1,.t K0 V0)] (.c h9 (.c hd .n)))) .n))))) .n))))) (fun h9=>lN [_,_,_,0,_,_,0,0,0,0,0,_] [(1,.t V0 (.a V1 V2)),(-1,.e (.a V4 V5) (.a V1 (.v 11))),(1,.e (.a V2 K1) (.v 11)),(-1,.e (.a V0 K1) (.a V4 V5))] (.c h9 (.c c3 (.c (Nat.sub_add_cancel (ae fun h9=>lN [_,0,0,0,0,0,0,0,0,0] [(1,.t V0 K1),(1,.t K0 V0)] (.c h9 (.c hd .n)))) (.c (Nat.sub_add_cancel (ae fun h9=>lN [_,_,0,0,0,0,0,0,_,_,_] [(1,.t (.a V0 V1) K1),(-1,.e (.a V0 V1) (.a V8 V9)),(1,.e (.a (.v 10) K1) V9)] (.c h9 (.c c3 (.c (Nat.sub_add_cancel (ae fun h9=>lN [_,0,0,0,0,0,0,0,0,0] [(1,.t V0 K1),(1,.t K0 V0)] (.c h9 (.c hd .n)))) .n))))) .n)))))⟩
    subst this;exact lN [_,_,_] [(1,.t V0 V1),(1,.e (.a V2 V1) (.a V2 V0))] (.c c1 (.c c2 .n))
theorem vD {p1 p2:List Bk} {b:Bk} (H:bB (la.map (·.1)) (lb.map (·.1)) r (p1++b :: p2)):bB (la.map (·.1)) (lb.map (·.1)) ⟨r.alo,b.i,r.blo,b.j⟩ p1:=by
 have hle:=H.le
 have hb:b ∈ p1++b :: p2:=ac List.mem_cons_self
 have hb':=H.ins b hb
 have ho:=List.pairwise_append.mp H.ord
 refine ⟨⟨hb'.2.1,by dsimp only;exact ae fun h9=>lN [_,_,0,_,0,0,_,0,0] [(1,.t V0 V1),(1,.l V3 V0),(1,.l (.a V1 V6) V3)] (.c h9 (.c hle.2.1 (.c hb'.2.2.1 .n))),by dsimp only;exact ae fun h9=>lN [_,_,0,0,0,_,_,0,0] [(1,.t V0 V1),(1,.l V5 V0),(1,.l (.a V1 V6) V5)] (.c h9 (.c hle.2.2 (.c hb'.2.2.2.2 .n)))⟩,fun c hc=>?_,ho.1,fun i j x i1 i2 j1 j2 e1 e2=>?_,fun c hc=>H.con c (aj hc)⟩
 ·have h1:=H.ins c (aj hc)
  have h2:=ho.2.2 c hc b List.mem_cons_self
  unfold cO at h2
  dsimp only
  exact ⟨aA fun h9=>lN [_,0,0,0,0,0,0,0,0] [(1,.l V0 K0),(1,.t K0 V0)] (.c h9 (.c h1.1 .n)),⟨ae fun h9=>lN [_,_,0,0,0,0,0,0,0] [(1,.t V0 V1),(1,.l V1 V0)] (.c h9 (.c h1.2.1 .n)),⟨ae fun h9=>lN [_,_,_,0,0,0,0,0,0] [(1,.t V0 (.a V1 V2)),(1,.l (.a V1 V2) V0)] (.c h9 (.c h2.1 .n)),⟨ae fun h9=>lN [_,_,0,0,0,0,0,0,0] [(1,.t V0 V1),(1,.l V1 V0)] (.c h9 (.c h1.2.2.2.1 .n)),ae fun h9=>lN [_,_,_,0,0,0,0,0,0] [(1,.t V0 (.a V1 V2)),(1,.l (.a V1 V2) V0)] (.c h9 (.c h2.2.1 .n))⟩⟩⟩⟩
 ·dsimp only at i1 i2 j1 j2
  obtain ⟨c,hc,d,c1,c2,c3⟩:=H.mat i j x i1 (by exact aA fun h9=>lN [_,_,_,0,_,0,0,0] [(1,.l V0 V1),(1,.l (.a V4 V2) V0),(1,.t V1 V4)] (.c h9 (.c hb'.2.2.1 (.c i2 .n)))) j1 (by exact aA fun h9=>lN [_,_,_,0,0,0,0,_] [(1,.l V0 V1),(1,.l (.a V7 V2) V0),(1,.t V1 V7)] (.c h9 (.c hb'.2.2.2.2 (.c j2 .n)))) e1 e2
  rcases aH hc with hc | hc
  ·exact ⟨c,hc,d,c1,c2,c3⟩
  ·exfalso
   rcases ag hc with rfl | hc
   ·exact lN [_,_,_] [(-1,.e V0 (.a V1 V2)),(1,.t V0 V1)] (.c c3 (.c j2 .n))
   ·have:=(List.pairwise_cons.mp ho.2.1).1 c hc
    unfold cO at this
    exact lN [_,0,0,0,0,_,0,_,_,_,0] [(1,.t K0 V0),(1,.t V7 V5),(-1,.e V7 (.a V8 V9)),(1,.l (.a V5 V0) V8)] (.c hb'.1 (.c j2 (.c c3 (.c this.2.1 .n))))
theorem ut {p1 p2:List Bk} {b:Bk} (H:bB (la.map (·.1)) (lb.map (·.1)) r (p1++b :: p2)):bB (la.map (·.1)) (lb.map (·.1)) ⟨b.i + b.k,r.ahi,b.j + b.k,r.bhi⟩ p2:=by
 have hle:=H.le
 have hb:b ∈ p1++b :: p2:=ac List.mem_cons_self
 have hb':=H.ins b hb
 have ho:=List.pairwise_append.mp H.ord
 have ho2:=List.pairwise_cons.mp ho.2.1
 refine ⟨⟨by dsimp only;exact ae fun h9=>lN [_,_,_,0,0,0,0] [(1,.t V0 (.a V1 V2)),(1,.l (.a V1 V2) V0)] (.c h9 (.c hb'.2.2.1 .n)),by dsimp only;exact ae fun h9=>lN [_,_,0,0,0] [(1,.t V0 V1),(1,.l V1 V0)] (.c h9 (.c hle.2.1 .n)),by dsimp only;exact ae fun h9=>lN [_,_,0,0,0] [(1,.t V0 V1),(1,.l V1 V0)] (.c h9 (.c hle.2.2 .n))⟩,fun c hc=>?_,ho2.2,fun i j x i1 i2 j1 j2 e1 e2=>?_,fun c hc=>H.con c (ac (al hc))⟩
 ·have h1:=H.ins c (ac (al hc))
  have h2:=ho2.1 c hc
  unfold cO at h2
  dsimp only
  exact ⟨aA fun h9=>lN [_,0,0,0,0,0,0,0,0,0] [(1,.l V0 K0),(1,.t K0 V0)] (.c h9 (.c h1.1 .n)),⟨ae fun h9=>lN [_,_,_,0,0,0,0,0,0,0] [(1,.t V0 (.a V1 V2)),(1,.l (.a V1 V2) V0)] (.c h9 (.c h2.1 .n)),⟨ae fun h9=>lN [_,_,_,0,0,0,0,0,0,0] [(1,.t V0 (.a V1 V2)),(1,.l (.a V1 V2) V0)] (.c h9 (.c h1.2.2.1 .n)),⟨ae fun h9=>lN [_,_,_,0,0,0,0,0,0,0] [(1,.t V0 (.a V1 V2)),(1,.l (.a V1 V2) V0)] (.c h9 (.c h2.2.1 .n)),ae fun h9=>lN [_,_,_,0,0,0,0,0,0,0] [(1,.t V0 (.a V1 V2)),(1,.l (.a V1 V2) V0)] (.c h9 (.c h1.2.2.2.2 .n))⟩⟩⟩⟩
 ·dsimp only at i1 i2 j1 j2
  obtain ⟨c,hc,d,c1,c2,c3⟩:=H.mat i j x (by exact ae fun h9=>lN [_,_,_,_,0,0,0,0] [(1,.t V0 V1),(1,.l V1 V3),(1,.l (.a V3 V2) V0)] (.c h9 (.c hb'.2.1 (.c i1 .n)))) i2 (by exact ae fun h9=>lN [_,_,_,0,0,0,_,0] [(1,.t V0 V1),(1,.l V1 V6),(1,.l (.a V6 V2) V0)] (.c h9 (.c hb'.2.2.2.1 (.c j1 .n)))) j2 e1 e2
  rcases aH hc with hc | hc
  ·exfalso
   have:=ho.2.2 c hc b List.mem_cons_self
   unfold cO at this
   exact lN [_,0,0,0,0,_,0,_,_,_,_,0] [(1,.t K0 V0),(1,.l (.a V5 V0) V7),(1,.t V8 V9),(1,.e V7 (.a (.v 10) V8)),(1,.l (.a (.v 10) V9) V5)] (.c hb'.1 (.c j1 (.c c1 (.c c3 (.c this.2.1 .n)))))
  ·rcases ag hc with rfl | hc
   ·exact (lN [_,_,_,_] [(1,.t V0 V1),(1,.e V2 (.a V3 V0)),(1,.l (.a V3 V1) V2)] (.c c1 (.c c2 (.c i1 .n)))).elim
   ·exact ⟨c,hc,d,c1,c2,c3⟩
end
structure Fz (la lb:List (PySem.Str × Nat)) (srt:List Bk):Prop where
 ndA:(la.map (·.1)).Nodup
 ndB:(lb.map (·.1)).Nodup
 reg:bB (la.map (·.1)) (lb.map (·.1)) ⟨0,la.length,0,lb.length⟩ srt
 six:srt.length ≤ 6
structure Dr (la lb:List (PySem.Str × Nat)) (srt:List Bk) (q:List Rg) (bl:List Bk):Prop where
 ex:∃ ps:List (List Bk),q.length = ps.length ∧ (∀ (n:Nat) (r:Rg) (p:List Bk),q[n]? = some r → ps[n]? = some p → bB (la.map (·.1)) (lb.map (·.1)) r p ∧ r.blo ≤ r.bhi) ∧ srt.Perm (bl++ps.flatten)
 len:q.length ≤ bl.length + 1
noncomputable def iR (r:Rg):Nat:=1 + 2 * (r.ahi - r.alo)
noncomputable def uL (q:List Rg):Nat:=(q.map iR).sum
theorem da (a b:List Rg):uL (a++b) = uL a + uL b:=by unfold uL;rw [List.map_append,List.sum_append]
theorem eY {la lb:List (PySem.Str × Nat)} {srt:List Bk} {q:List Rg} {r:Rg} {bl:List Bk} (I:Dr la lb srt (q++[r]) bl) :
  ∃ (ps:List (List Bk)) (p:List Bk),q.length = ps.length ∧ (∀ (n:Nat) (r:Rg) (p:List Bk),q[n]? = some r → ps[n]? = some p → bB (la.map (·.1)) (lb.map (·.1)) r p ∧ r.blo ≤ r.bhi) ∧ (bB (la.map (·.1)) (lb.map (·.1)) r p ∧ r.blo ≤ r.bhi) ∧ srt.Perm (bl++(ps.flatten++p)):=by
 obtain ⟨ps,h1,h2,h3⟩:=I.ex
 rcases List.eq_nil_or_concat ps with rfl | ⟨ps,p,rfl⟩
 ·simp at h1
 ·have hl:q.length = ps.length:=by simp at h1;exact h1
  refine ⟨ps,p,hl,fun n r' p' e1 e2=>h2 n r' p' ?_ ?_,h2 q.length r p ?_ ?_,?_⟩
  ·rw [List.getElem?_append_left (List.getElem?_eq_some_iff.mp e1).1];exact e1
  ·rw [List.concat_eq_append,List.getElem?_append_left (List.getElem?_eq_some_iff.mp e2).1];exact e2
  ·simp
  ·rw [hl];simp
  ·simpa using h3
theorem iw {la lb:List (PySem.Str × Nat)} {q:List Rg} {ps:List (List Bk)} (hl:q.length = ps.length) (h:∀ (n:Nat) (r:Rg) (p:List Bk),q[n]? = some r → ps[n]? = some p → bB (la.map (·.1)) (lb.map (·.1)) r p ∧ r.blo ≤ r.bhi) {r:Rg} {p:List Bk} (hr:bB (la.map (·.1)) (lb.map (·.1)) r p) (hb:r.blo ≤ r.bhi) :
  (q++[r]).length = (ps++[p]).length ∧ ∀ (n:Nat) (r':Rg) (p':List Bk),(q++[r])[n]? = some r' → (ps++[p])[n]? = some p' → bB (la.map (·.1)) (lb.map (·.1)) r' p' ∧ r'.blo ≤ r'.bhi:=by
 refine ⟨by simp [hl],fun n r' p' e1 e2=>?_⟩
 by_cases hn:n < q.length
 ·rw [List.getElem?_append_left hn] at e1
  rw [List.getElem?_append_left (by exact aA fun h9=>lN [_,_,_] [(1,.l V0 V1),(1,.e V2 V0),(1,.t V1 V2)] (.c h9 (.c hl (.c hn .n))))] at e2
  exact h n r' p' e1 e2
 ·rw [List.getElem?_append_right (by exact ae fun h9=>lN [_,_,0] [(1,.t V0 V1),(1,.nt V0 V1)] (.c h9 (.c hn .n)))] at e1
  rw [List.getElem?_append_right (by exact ae fun h9=>lN [_,_,_] [(1,.t V0 V1),(-1,.e V2 V1),(1,.nt V0 V2)] (.c h9 (.c hl (.c hn .n))))] at e2
  have hn0:n - q.length = 0:=by
   have:=(List.getElem?_eq_some_iff.mp e1).1
   simp at this;exact this
  rw [hn0] at e1;rw [← hl,hn0] at e2
  cases e1;cases e2
  exact ⟨hr,hb⟩
theorem yq {la lb:List (PySem.Str × Nat)} {srt:List Bk} (S:Fz la lb srt):gR la lb (Dr la lb srt) uL srt where
 init:=by
  refine ⟨⟨[srt],rfl,fun n r p e1 e2=>?_,by simp⟩,by simp⟩
  cases n with
  | zero=>cases e1;cases e2;exact ⟨S.reg,Nat.zero_le _⟩
  | succ n=>simp at e1
 ok:=by
  intro q r bl I
  obtain ⟨ps,p,hl,h,⟨hr,hb⟩,hp⟩:=eY I
  have hle:=hr.le
  simp only [List.length_map] at hle
  exact ⟨hle.1,hle.2.1,hle.2.2,BX S.ndB hr hb⟩
 non:=by
  intro q r bl I h0
  obtain ⟨ps,p,hl,h,⟨hr,hb⟩,hp⟩:=eY I
  have hlen:=I.len
  have hmu:uL q < uL (q++[r]):=by
   rw [da]
   show uL q < uL q + (iR r + 0)
   unfold iR;exact aA fun h9=>lN [_,_,0] [(1,.l (.a V0 (.a (.a K1 (.m 2 V1)) K0)) V0)] (.c h9 .n)
  rcases rc S.ndB hr with ⟨rfl,_⟩ | ⟨p1,b,p2,rfl,h1,h2,h3⟩
  ·refine ⟨⟨⟨ps,hl,h,by simpa using hp⟩,?_⟩,hmu⟩
   simp at hlen;exact ae fun h9=>lN [_,_,0] [(1,.t (.a V0 K1) V1),(1,.l V1 V0)] (.c h9 (.c hlen .n))
  ·have:=hr.ins b (ac List.mem_cons_self)
   exact (lN [_,_,0,0,0,0,0,0] [(1,.e V0 K0),(-1,.e V0 V1),(1,.t K0 V1)] (.c h0 (.c h3 (.c this.1 .n)))).elim
 som:=by
  intro q r bl I h0
  obtain ⟨ps,p,hl,h,⟨hr,hb⟩,hp⟩:=eY I
  have hlen:=I.len
  rcases rc S.ndB hr with ⟨rfl,e,_⟩ | ⟨p1,b,p2,rfl,h1,h2,h3⟩
  ·exact (h0 e).elim
  have hbi:=hr.ins b (ac List.mem_cons_self)
  have ho:=List.pairwise_append.mp hr.ord
  rw [h1,h2,h3]
  have L:∃ ps1:List (List Bk),(q++cj r (bp la lb r)).length = ps1.length ∧ (∀ (n:Nat) (r':Rg) (p':List Bk),(q++cj r (bp la lb r))[n]? = some r' → ps1[n]? = some p' → bB (la.map (·.1)) (lb.map (·.1)) r' p' ∧ r'.blo ≤ r'.bhi) ∧ ps1.flatten = ps.flatten++p1:=by
   by_cases hc:r.alo < (bp la lb r).bi ∧ r.blo < (bp la lb r).bj
   ·rw [show cj r (bp la lb r) = [⟨r.alo,b.i,r.blo,b.j⟩] by unfold cj;rw [if_pos hc,h1,h2]]
    have:=iw hl h (vD hr) (by dsimp only;exact ae fun h9=>lN [_,_,_,0,0] [(1,.t V0 V1),(1,.e V2 V0),(1,.t V1 V2)] (.c h9 (.c h2 (.c hc.2 .n))))
    exact ⟨ps++[p1],this.1,this.2,by simp⟩
   ·rw [show cj r (bp la lb r) = [] from if_neg hc,List.append_nil]
    refine ⟨ps,hl,h,?_⟩
    cases p1 with
    | nil=>simp
    | cons c p1 =>
     exfalso
     have k1:=hr.ins c (aj List.mem_cons_self)
     have k2:=ho.2.2 c List.mem_cons_self b List.mem_cons_self
     unfold cO at k2
     rw [h1,h2] at hc
     exact (absurd ⟨aA fun h9=>lN [_,_,0,0,0,0,0,_,_,0] [(2,.l V0 V1),(1,.l V1 V0),(1,.t K0 V7),(1,.l V1 V8),(1,.l (.a V8 V7) V0)] (.c h9 (.c hbi.2.1 (.c k1.1 (.c k1.2.1 (.c k2.1 .n))))),aA fun h9=>lN [_,_,0,0,0,0,0,_,0,_] [(2,.l V0 V1),(1,.l V1 V0),(1,.t K0 V7),(1,.l V1 V9),(1,.l (.a V9 V7) V0)] (.c h9 (.c hbi.2.2.2.1 (.c k1.1 (.c k1.2.2.2.1 (.c k2.2.1 .n)))))⟩ hc)
  obtain ⟨ps1,hl1,hh1,hf1⟩:=L
  have Rr:∃ ps2:List (List Bk),(q++cj r (bp la lb r)++dE r (bp la lb r)).length = ps2.length ∧ (∀ (n:Nat) (r':Rg) (p':List Bk),(q++cj r (bp la lb r)++dE r (bp la lb r))[n]? = some r' → ps2[n]? = some p' → bB (la.map (·.1)) (lb.map (·.1)) r' p' ∧ r'.blo ≤ r'.bhi) ∧ ps2.flatten = ps1.flatten++p2:=by
   by_cases hc:(bp la lb r).bi + (bp la lb r).bs < r.ahi ∧ (bp la lb r).bj + (bp la lb r).bs < r.bhi
   ·rw [show dE r (bp la lb r) = [⟨b.i + b.k,r.ahi,b.j + b.k,r.bhi⟩] by unfold dE;rw [if_pos hc,h1,h2,h3]]
    have:=iw hl1 hh1 (ut hr) (by dsimp only;exact ae fun h9=>lN [_,_,_,_,_,0,0] [(1,.t V0 (.a V1 V2)),(-1,.e V3 V1),(-1,.e V4 V2),(1,.t (.a V3 V4) V0)] (.c h9 (.c h2 (.c h3 (.c hc.2 .n)))))
    exact ⟨ps1++[p2],this.1,this.2,by simp⟩
   ·rw [show dE r (bp la lb r) = [] from if_neg hc,List.append_nil]
    refine ⟨ps1,hl1,hh1,?_⟩
    cases p2 with
    | nil=>simp
    | cons c p2 =>
     exfalso
     have k1:=hr.ins c (ac (al List.mem_cons_self))
     have k2:=(List.pairwise_cons.mp ho.2.1).1 c List.mem_cons_self
     unfold cO at k2
     rw [h1,h2,h3] at hc
     exact (absurd ⟨aA fun h9=>lN [_,_,_,0,0,0,0,_,_,0] [(2,.l V0 (.a V1 V2)),(1,.l (.a V1 V2) V0),(1,.t K0 V7),(1,.l (.a V8 V7) V0),(1,.l (.a V1 V2) V8)] (.c h9 (.c hbi.2.2.1 (.c k1.1 (.c k1.2.2.1 (.c k2.1 .n))))),aA fun h9=>lN [_,_,_,0,0,0,0,_,0,_] [(2,.l V0 (.a V1 V2)),(1,.l (.a V1 V2) V0),(1,.t K0 V7),(1,.l (.a V9 V7) V0),(1,.l (.a V1 V2) V9)] (.c h9 (.c hbi.2.2.2.2 (.c k1.1 (.c k1.2.2.2.2 (.c k2.2.1 .n)))))⟩ hc)
  obtain ⟨ps2,hl2,hh2,hf2⟩:=Rr
  have kl:(cj r (bp la lb r)).length ≤ 1 ∧ uL (cj r (bp la lb r)) ≤ 1 + 2 * (b.i - r.alo):=by
   unfold cj
   split
   ·refine ⟨Nat.le_refl _,?_⟩
    show iR _ + 0 ≤ _
    unfold iR;dsimp only;rw [h1];exact ae fun h9=>lN [_,0] [(1,.t (.a K1 (.m 2 V0)) (.a (.a K1 (.m 2 V0)) K0))] (.c h9 .n)
   ·exact ⟨Nat.zero_le _,Nat.zero_le _⟩
  have kr:(dE r (bp la lb r)).length ≤ 1 ∧ uL (dE r (bp la lb r)) ≤ 1 + 2 * (r.ahi - (b.i + b.k)):=by
   unfold dE
   split
   ·refine ⟨Nat.le_refl _,?_⟩
    show iR _ + 0 ≤ _
    unfold iR;dsimp only;rw [h1,h3];exact ae fun h9=>lN [_,0] [(1,.t (.a K1 (.m 2 V0)) (.a (.a K1 (.m 2 V0)) K0))] (.c h9 .n)
   ·exact ⟨Nat.zero_le _,Nat.zero_le _⟩
  refine ⟨⟨⟨ps2,hl2,hh2,?_⟩,?_⟩,?_⟩
  ·rw [hf2,hf1]
   refine hp.trans ?_
   rw [List.append_assoc,List.append_assoc]
   refine List.Perm.append_left _ ?_
   show (ps.flatten++(p1++b :: p2)).Perm (b :: (ps.flatten++(p1++p2)))
   rw [← List.append_assoc,← List.append_assoc]
   exact List.perm_middle
  ·simp only [List.length_append,List.length_cons,List.length_nil] at hlen ⊢
   exact ae fun h9=>lN [_,_,_,_,0,0,0,0,0] [(1,.t (.a (.a V0 (.a K0 K1)) K1) (.a (.a V1 V2) V3)),(1,.l V2 K1),(1,.l V3 K1),(1,.l (.a V1 (.a K0 K1)) (.a V0 K1))] (.c h9 (.c kl.1 (.c kr.1 (.c hlen .n))))
  ·rw [da,da,da]
   show _ < uL q + (iR r + 0)
   unfold iR
   omega
 len:=by
  intro q bl I
  obtain ⟨ps,h1,h2,h3⟩:=I.ex
  have:=h3.length_eq
  rw [List.length_append] at this
  have:=I.len
  have:=S.six
  omega
 fin:=by
  intro bl I
  obtain ⟨ps,h1,h2,h3⟩:=I.ex
  cases ps with
  | nil=>simpa using h3
  | cons=>simp at h1
 inc:=by
  refine (List.Pairwise.and_mem.mp S.reg.ord).imp fun {a b} h=>?_
  have h1:=S.reg.ins a h.1
  have h2:=h.2.2
  unfold cO at h2
  exact aA fun h9=>lN [_,_,_,0,0,0,0,0] [(1,.l V0 V1),(1,.t K0 V2),(1,.l (.a V1 V2) V0)] (.c h9 (.c h1.1 (.c h2.1 .n)))
 six:=S.six
end
section
theorem AZ (a b:Nat):Builtin.bitAnd (a:Int) (b:Int) = ((a &&& b:Nat):Int):=rfl
noncomputable def tB (m n b:Nat):Bool:=((m + n) &&& b == b) == (n / b % 2 == 1)
theorem lZ:((List.range 512).all fun n=>[16384,32768].all fun m=>((m + n) &&& 61440 == m) && tB m n 256 && tB m n 128 && tB m n 64 && tB m n 32 && tB m n 16 && tB m n 8 && tB m n 4 && tB m n 2 && tB m n 1
 && ((m + n) &&& 2112 != 2112) && ((m + n) &&& 2048 != 2048) && ((m + n) &&& 1032 != 1032) && ((m + n) &&& 1024 != 1024) && ((m + n) &&& 513 != 513) && ((m + n) &&& 512 != 512)) = true:=by decide +kernel
theorem lD (a b:Nat):(((a:Nat):Int) == ((b:Nat):Int)) = (a == b):=by
 rw [Bool.eq_iff_iff,beq_iff_eq,beq_iff_eq]
 omega
theorem fk {x:Nat} {i b:Nat} {c:PySem.Str} (hi:i ≠ 0) (hr:bI i = [((b:Int),c)]):dg (x:Int) i = if (x &&& b == b) = true then c else Str.ofString "-" := by
 unfold dg
 rw [hr]
 have e:bh (x:Int) i (b:Int) = (x &&& b == b):=by
  unfold bh
  rw [if_neg hi,AZ,lD]
 cases h:(x &&& b == b) with
 | true =>
  rw [h] at e
  rw [List.find?_cons_of_pos (by simpa using e)]
  rfl
 | false =>
  rw [h] at e
  rw [List.find?_cons_of_neg (by simpa using e)]
  show (if i = 0 then _ else _) = _
  rw [if_neg hi];rfl
theorem gz {x:Nat} {i b1 b2 b:Nat} {c1 c2 c:PySem.Str} (hi:i ≠ 0) (hr:bI i = [((b1:Int),c1),((b2:Int),c2),((b:Int),c)]) (h1:(x &&& b1 != b1) = true) (h2:(x &&& b2 != b2) = true):dg (x:Int) i = if (x &&& b == b) = true then c else Str.ofString "-" := by
 unfold dg
 rw [hr]
 have e:∀ d:Nat,bh (x:Int) i (d:Int) = (x &&& d == d):=fun d=>by
  unfold bh
  rw [if_neg hi,AZ,lD]
 have e1:(x &&& b1 == b1) = false:=by simpa [bne] using h1
 have e2:(x &&& b2 == b2) = false:=by simpa [bne] using h2
 rw [List.find?_cons_of_neg (by rw [e,e1];decide),List.find?_cons_of_neg (by rw [e,e2];decide)]
 cases h:(x &&& b == b) with
 | true =>
  rw [List.find?_cons_of_pos (by rw [e,h])]
  rfl
 | false =>
  rw [List.find?_cons_of_neg (by rw [e,h];decide)]
  show (if i = 0 then _ else _) = _
  rw [if_neg hi];rfl
theorem lT {n k b:Nat} (hb:((2:Int) ^ (8 - (0 + (k:Int))).toNat) = ((b:Nat):Int)):eH (n:Int) k = if (n / b % 2 == 1) = true then Txt.item (Str.ofString "rwxrwxrwx") (0 + (k:Int)) else Str.ofString "-" := by
 unfold eH
 rw [hb,Int.fdiv_eq_ediv_of_nonneg _ (by exact ch fun h9=>lI [_] [(1,.t V0 K0),(1,.l K0 V0)] (.c h9 (.c (zn _) .n))),Int.fmod_eq_emod_of_nonneg _ (by decide)]
 have:((n:Int) / (b:Int) % 2 = 1) ↔ (n / b % 2 = 1):=by
  rw [show (n:Int) / (b:Int) % 2 = ((n / b % 2:Nat):Int) by simp]
  omega
 simp only [this,beq_iff_eq]
theorem BP {m n:Nat} (hm:m = 16384 ∨ m = 32768) (hn:n < 512):∀ k,k < 9 → dg ((m + n:Nat):Int) (k + 1) = eH (n:Int) k:=by
 have h1:=List.all_eq_true.mp (List.all_eq_true.mp lZ n (List.mem_range.mpr hn)) m (by simp;exact hm)
 simp only [Bool.and_eq_true] at h1
 obtain ⟨⟨⟨⟨⟨⟨⟨⟨⟨⟨⟨⟨⟨⟨⟨a0,a1⟩,a2⟩,a3⟩,a4⟩,a5⟩,a6⟩,a7⟩,a8⟩,a9⟩,c1⟩,c2⟩,c3⟩,c4⟩,c5⟩,c6⟩:=h1
 have fin:∀ {k b:Nat} {c:PySem.Str},tB m n b = true → dg ((m + n:Nat):Int) (k + 1) = (if ((m + n) &&& b == b) = true then c else Str.ofString "-") → ((2:Int) ^ (8 - (0 + (k:Int))).toNat) = ((b:Nat):Int) → c = Txt.item (Str.ofString "rwxrwxrwx") (0 + (k:Int)) → dg ((m + n:Nat):Int) (k + 1) = eH (n:Int) k:=by
  intro k b c t e1 e2 e3
  rw [e1,lT e2,← e3]
  unfold tB at t
  rw [eq_of_beq t]
 intro k hk
 match k,hk with
 | 0,_=>exact fin a1 (fk (by decide) rfl) (by decide) (by decide +kernel)
 | 1,_=>exact fin a2 (fk (by decide) rfl) (by decide) (by decide +kernel)
 | 2,_=>exact fin a3 (gz (by decide) rfl c1 c2) (by decide) (by decide +kernel)
 | 3,_=>exact fin a4 (fk (by decide) rfl) (by decide) (by decide +kernel)
 | 4,_=>exact fin a5 (fk (by decide) rfl) (by decide) (by decide +kernel)
 | 5,_=>exact fin a6 (gz (by decide) rfl c3 c4) (by decide) (by decide +kernel)
 | 6,_=>exact fin a7 (fk (by decide) rfl) (by decide) (by decide +kernel)
 | 7,_=>exact fin a8 (fk (by decide) rfl) (by decide) (by decide +kernel)
 | 8,_=>exact fin a9 (gz (by decide) rfl c5 c6) (by decide) (by decide +kernel)
theorem wz {m n:Nat} (hm:m = 16384 ∨ m = 32768) (hn:n < 512):dg ((m + n:Nat):Int) 0 = if m = 16384 then Str.ofString "d" else Str.ofString "-" := by
 have h1:=List.all_eq_true.mp (List.all_eq_true.mp lZ n (List.mem_range.mpr hn)) m (by simp;exact hm)
 simp only [Bool.and_eq_true] at h1
 have h0:=h1.1.1.1.1.1.1.1.1.1.1.1.1.1.1.1
 have e:(fun p:Int × PySem.Str=>bh ((m + n:Nat):Int) 0 p.1) = fun p=>((m:Nat):Int) == p.1:=by
  funext p
  unfold bh
  rw [if_pos rfl,show (61440:Int) = ((61440:Nat):Int) from rfl,AZ,eq_of_beq h0]
 unfold dg
 rw [e]
 rcases hm with rfl | rfl
 ·rfl
 ·rfl
theorem rH:∀ (l:List PySem.Str),(Txt.join (Str.ofString "") l).cps.toList = l.flatMap fun x=>x.cps.toList
 | []=>by decide +kernel
 | [x]=>by
  rw [gw]
  show x.cps.toList = _
  simp
 | x :: y :: r=>by
  have ih:=rH (y :: r)
  rw [gw] at ih ⊢
  show ((x.cps++(Str.ofString "").cps)++(Str.join (Str.ofString "") (y :: r)).cps).toList = _
  rw [Array.toList_append,Array.toList_append,ih,show (Str.ofString "").cps.toList = [] by decide +kernel]
  simp
theorem dO {x y:PySem.Str} (h:x.cps.toList = y.cps.toList):x = y:=by
 cases x;cases y
 congr 1
 exact Array.toList_inj.mp h
theorem bD (x y:PySem.Str):(x++y).cps.toList = x.cps.toList++y.cps.toList:=Array.toList_append
theorem vT {m n:Nat} (hm:m = 16384 ∨ m = 32768) (hn:n < 512):CU ((m + n:Nat):Int) = (if m = 16384 then Str.ofString "d" else Str.ofString "-")++cF (n:Int):=by
 apply dO
 rw [bD]
 unfold CU cF mL
 rw [rH,rH,show List.range 10 = 0 :: (List.range 9).map (· + 1) from rfl,List.map_cons,List.flatMap_cons,wz hm hn,List.map_map]
 congr 2
 refine List.map_congr_left fun k hk=>?_
 exact BP hm hn k (List.mem_range.mp hk)
noncomputable def Ft (l:List PySem.Str):Bool:=PySem.PyData.strOk (Txt.join (Str.ofString "/") l) && decide ((Txt.join (Str.ofString "/") l).length ≤ 100) && decide (eK (bJ l) = Str.ofString "/" ++ Txt.join (Str.ofString "/") l.dropLast) && PySem.PyData.strOk (Str.ofString "/" ++ Txt.join (Str.ofString "/") l.dropLast)
theorem yp:aL.all Ft = true:=by decide +kernel
theorem n7 {l:List PySem.Str} (h:l ∈ aL):d4 (Txt.join (Str.ofString "/") l) ∧ (Txt.join (Str.ofString "/") l).length ≤ 100 ∧ eK (bJ l) = Str.ofString "/" ++ Txt.join (Str.ofString "/") l.dropLast ∧ d4 (Str.ofString "/" ++ Txt.join (Str.ofString "/") l.dropLast):=by
 have h1:=List.all_eq_true.mp yp l h
 unfold Ft at h1
 simp only [Bool.and_eq_true,decide_eq_true_eq] at h1
 exact ⟨h1.1.1.1,h1.1.1.2,h1.1.2,h1.2⟩
theorem wy:(aL.map bJ).Nodup:=by decide +kernel
theorem BW {α β:Type} {f:α → β} {l:List α} (h:(l.map f).Nodup) {a b:α} (ha:a ∈ l) (hb:b ∈ l) (e:f a = f b):a = b:=by
 have h':l.Pairwise fun x y=>f x ≠ f y:=List.pairwise_map.mp h
 rcases kg h' ha hb with h | h | h
 ·exact h
 ·exact (h e).elim
 ·exact (h e.symm).elim
theorem mz {p q:List PySem.Str} (hp:p ∈ aL) (hq:q ∈ aL) (h:bJ p = bJ q):p = q:=BW wy hp hq h
noncomputable def dI (n k:Nat):Nat:=if (n / 2 ^ (8 - k) % 2 == 1) = true then [114,119,120].getD (k % 3) 0 else 45
theorem v7 {n:Nat}:∀ k,k < 9 → (eH (n:Int) k).cps.toList = [dI n k]:=by
 have fin:∀ {k b:Nat} {c:Nat},((2:Int) ^ (8 - (0 + (k:Int))).toNat) = ((b:Nat):Int) → 2 ^ (8 - k) = b → (Txt.item (Str.ofString "rwxrwxrwx") (0 + (k:Int))).cps.toList = [[114,119,120].getD (k % 3) 0] → (eH (n:Int) k).cps.toList = [dI n k]:=by
  intro k b c e1 e2 e3
  rw [lT e1]
  unfold dI
  rw [e2]
  split
  ·exact e3
  ·decide +kernel
 intro k hk
 match k,hk with
 | 0,_=>exact fin (c:=0) (b:=256) (by decide) (by decide) (by decide +kernel)
 | 1,_=>exact fin (c:=0) (b:=128) (by decide) (by decide) (by decide +kernel)
 | 2,_=>exact fin (c:=0) (b:=64) (by decide) (by decide) (by decide +kernel)
 | 3,_=>exact fin (c:=0) (b:=32) (by decide) (by decide) (by decide +kernel)
 | 4,_=>exact fin (c:=0) (b:=16) (by decide) (by decide) (by decide +kernel)
 | 5,_=>exact fin (c:=0) (b:=8) (by decide) (by decide) (by decide +kernel)
 | 6,_=>exact fin (c:=0) (b:=4) (by decide) (by decide) (by decide +kernel)
 | 7,_=>exact fin (c:=0) (b:=2) (by decide) (by decide) (by decide +kernel)
 | 8,_=>exact fin (c:=0) (b:=1) (by decide) (by decide) (by decide +kernel)
theorem ij {α β:Type} {f:α → List β} {g:α → β}:∀ {l:List α},(∀ k ∈ l,f k = [g k]) → l.flatMap f = l.map g
 | [],_=>rfl
 | a :: l,h=>by
  rw [List.flatMap_cons,h a (.head _),ij fun k hk=>h k (.tail _ hk)];rfl
theorem dP (n:Nat):(cF (n:Int)).cps.toList = (List.range 9).map (dI n):=by
 unfold cF
 rw [rH,List.flatMap_map]
 exact ij fun k hk=>v7 k (List.mem_range.mp hk)
theorem eJ (n:Nat):(cF (n:Int)).cps.toList.length = 9:=by rw [dP,List.length_map,List.length_range]
theorem wW (n k:Nat):dI n k < 0x110000:=by
 unfold dI
 split
 ·have h3:k % 3 = 0 ∨ k % 3 = 1 ∨ k % 3 = 2:=by omega
  rcases h3 with h | h | h <;> rw [h] <;> decide
 ·decide
theorem ur {n n' k:Nat} (hk:k < 9) (h:dI n k = dI n' k):n / 2 ^ (8 - k) % 2 = n' / 2 ^ (8 - k) % 2:=by
 unfold dI at h
 have h3:k % 3 = 0 ∨ k % 3 = 1 ∨ k % 3 = 2:=by omega
 by_cases a:(n / 2 ^ (8 - k) % 2 == 1) = true <;> by_cases b:(n' / 2 ^ (8 - k) % 2 == 1) = true
 ·rw [eq_of_beq a,eq_of_beq b]
 ·rw [if_pos a,if_neg b] at h
  exfalso
  rcases h3 with h3 | h3 | h3 <;> rw [h3] at h <;> revert h <;> decide
 ·rw [if_neg a,if_pos b] at h
  exfalso
  rcases h3 with h3 | h3 | h3 <;> rw [h3] at h <;> revert h <;> decide
 ·simp only [beq_iff_eq] at a b
  omega
theorem wC {n n':Nat} (hn:n < 512) (hn':n' < 512) (h:(cF (n:Int)).cps.toList = (cF (n':Int)).cps.toList):n = n':=by
 rw [dP,dP] at h
 have hk:∀ k,k < 9 → dI n k = dI n' k:=fun k hk=>List.map_inj_left.mp h k (List.mem_range.mpr hk)
 have b:∀ k,k < 9 → n / 2 ^ (8 - k) % 2 = n' / 2 ^ (8 - k) % 2:=fun k hk'=>ur hk' (hk k hk')
 have z:∀ {m i:Nat},m < 512 → ¬ i < 9 → m / 2 ^ i = 0:=fun hm hi=>Nat.div_eq_of_lt (Nat.lt_of_lt_of_le hm (Nat.pow_le_pow_right (n:=2) (i:=9) (by decide) (Nat.le_of_not_lt hi)))
 refine Nat.eq_of_testBit_eq fun i=>?_
 rw [Nat.testBit_eq_decide_div_mod_eq,Nat.testBit_eq_decide_div_mod_eq]
 by_cases hi:i < 9
 ·have e:=b (8 - i) (Nat.lt_of_le_of_lt (Nat.sub_le _ _) (by decide))
  rw [Nat.sub_sub_self (Nat.le_of_lt_succ hi)] at e
  rw [e]
 ·rw [z hn hi,z hn' hi]
theorem BL:eg (Str.ofString "d") = 16384:=if_pos rfl
theorem B6:eg (Str.ofString "-") = 32768:=if_neg (by decide +kernel)
theorem db {e:aK} {x:Int} (hl:e.letter = Str.ofString "d" ∨ e.letter = Str.ofString "-") (h0:0 ≤ x) (h1:x < 512):dW e x = aT e x:=by
 obtain ⟨n,rfl⟩:=Int.eq_ofNat_of_zero_le h0
 have hn:n < 512:=by exact aA fun h9=>lI [_] [(1,.l (.k 512) V0),(1,.t V0 (.k 512))] (.c (zl h9) (.c h1 .n))
 have hf:CU (eg e.letter + (n:Int)) = e.letter++cF (n:Int):=by
  rcases hl with h | h
  ·rw [h,BL];exact vT (m:=16384) (.inl rfl) hn
  ·rw [h,B6];exact vT (m:=32768) (.inr rfl) hn
 unfold dW uk aT
 rw [hf]
 apply dO
 unfold bJ
 simp only [bD]
 rw [show (Str.ofString " /").cps.toList = (Str.ofString " ").cps.toList++(Str.ofString "/").cps.toList by decide +kernel]
 simp only [List.append_assoc]
theorem eR {e:aK} (hl:e.letter = Str.ofString "d" ∨ e.letter = Str.ofString "-"):e.letter.cps.toList.length = 1 ∧ d4 e.letter:=by
 rcases hl with h | h <;> rw [h] <;> exact ⟨by decide +kernel,by unfold d4;decide +kernel⟩
theorem l6 (e:aK) (n:Nat):(aT e (n:Int)).cps.toList = (e.letter.cps.toList++(cF (n:Int)).cps.toList++(Str.ofString " ").cps.toList)++(bJ e.parts).cps.toList:=by
 unfold aT bJ
 simp only [bD]
 rw [show (Str.ofString " /").cps.toList = (Str.ofString " ").cps.toList++(Str.ofString "/").cps.toList by decide +kernel]
 simp only [List.append_assoc]
theorem eP (x:PySem.Str):x.length = x.cps.toList.length:=by simp [Str.length]
theorem ua:(Str.ofString " ").cps.toList.length = 1:=by decide +kernel
theorem tu {e e':aK} {x x':Int} (h:bc e) (h':bc e') (x0:0 ≤ x) (x1:x < 512) (x0':0 ≤ x') (x1':x' < 512) (heq:aT e x = aT e' x'):e.parts = e'.parts ∧ x = x':=by
 obtain ⟨n,rfl⟩:=Int.eq_ofNat_of_zero_le x0
 obtain ⟨n',rfl⟩:=Int.eq_ofNat_of_zero_le x0'
 have h1:=congrArg (fun y:PySem.Str=>y.cps.toList) heq
 simp only [l6] at h1
 have l1:=(eR h.letter).1
 have l2:=(eR h'.letter).1
 have h2:=List.append_inj h1 (by simp only [List.length_append,l1,l2,eJ])
 have h3:=List.append_inj h2.1 (by simp only [List.length_append,l1,l2,eJ])
 have h4:=List.append_inj h3.1 (by rw [l1,l2])
 refine ⟨mz h.parts h'.parts (dO h2.2),?_⟩
 rw [wC (by exact aA fun h9=>lI [_] [(1,.l (.k 512) V0),(1,.t V0 (.k 512))] (.c (zl h9) (.c x1 .n))) (by exact aA fun h9=>lI [_] [(1,.l (.k 512) V0),(1,.t V0 (.k 512))] (.c (zl h9) (.c x1' .n))) h4.2]
theorem vB (n:Nat):d4 (cF (n:Int)):=by
 unfold d4 PySem.PyData.strOk
 rw [← Array.all_toList,List.all_eq_true,dP]
 intro c hc
 obtain ⟨k,_,rfl⟩:=List.mem_map.mp hc
 exact decide_eq_true (wW n k)
theorem f9 {e:aK} {x:Int} (h:bc e) (x0:0 ≤ x):d4 (aT e x) ∧ (aT e x).length ≤ 120:=by
 obtain ⟨n,rfl⟩:=Int.eq_ofNat_of_zero_le x0
 have hp:=n7 h.parts
 refine ⟨?_,?_⟩
 ·unfold aT
  exact ej (ej (ej (eR h.letter).2 (vB n)) (by unfold d4;decide +kernel)) hp.1
 ·unfold aT
  rw [PySem.Str.length_append,PySem.Str.length_append,PySem.Str.length_append,eP e.letter,eP (cF _),(eR h.letter).1,eJ]
  have:(Str.ofString " /").length = 2:=by decide
  have:=hp.2.1
  omega
theorem gv {x y:PySem.Str} {k:Nat} (hk:x.length = k):Txt.slice (x++y) (some (k:Int)) none = y ∧ Txt.slice (x++y) none (some (k:Int)) = x:=by
 have hk':x.cps.toList.length = k:=by rw [← eP];exact hk
 constructor
 ·show StrLaws.sliceText (x++y) (some (k:Int)) none = y
  rw [StrLaws.sliceText_from ⟨by exact ch fun h9=>lI [_,0,0] [(1,.t V0 K0),(1,.l K0 V0)] (.c h9 (.c (zn _) .n)),by rw [bD,List.length_append];exact ch fun h9=>lI [_,_,_] [(1,.l K0 V1),(-1,.e V0 V2),(1,.t (.a V0 V1) V2)] (.c (zn _) (.c (ze hk') (.c h9 .n)))⟩]
  apply dO
  show ((x++y).cps.toList.drop _).take _ = _
  rw [bD,Int.toNat_natCast,List.drop_left' hk',List.length_append,List.take_of_length_le (by exact ae fun h9=>lI [_,_,_,_] [(-1,.e V0 (.s (.a V2 V1) V3)),(-1,.e V2 V3),(1,.t V0 V1)] (.c (Int.toNat_of_nonneg (ch fun h9=>lI [_,_,_] [(1,.l K0 V1),(-1,.e V0 V2),(1,.t (.s (.a V0 V1) V2) K0)] (.c (zn _) (.c (ze hk') (.c h9 .n))))) (.c (ze hk') (.c (zt h9) .n))))]
 ·show StrLaws.sliceText (x++y) none (some (k:Int)) = x
  rw [StrLaws.sliceText_to ⟨by exact ch fun h9=>lI [_,0,0] [(1,.t V0 K0),(1,.l K0 V0)] (.c h9 (.c (zn _) .n)),by rw [bD,List.length_append];exact ch fun h9=>lI [_,_,_] [(1,.l K0 V1),(-1,.e V0 V2),(1,.t (.a V0 V1) V2)] (.c (zn _) (.c (ze hk') (.c h9 .n)))⟩]
  apply dO
  show ((x++y).cps.toList.drop 0).take _ = _
  rw [bD,List.drop_zero,Int.sub_zero,Int.toNat_natCast,List.take_left' hk']
theorem x6 {e:aK} {x:Int} (h:bc e) (x0:0 ≤ x):eK (Txt.slice (aT e x) (some 11) none) = Str.ofString "/" ++ Txt.join (Str.ofString "/") e.parts.dropLast:=by
 obtain ⟨n,rfl⟩:=Int.eq_ofNat_of_zero_le x0
 have e1:aT e (n:Int) = ((e.letter++cF (n:Int))++Str.ofString " ")++bJ e.parts:=by
  apply dO
  rw [l6]
  simp only [bD]
 have hl:((e.letter++cF (n:Int))++Str.ofString " ").length = 11:=by
  rw [eP]
  simp only [bD,List.length_append,(eR h.letter).1,eJ,ua]
 rw [e1,show (some (11:Int)) = some ((11:Nat):Int) from rfl,(gv hl).1]
 exact (n7 h.parts).2.2.1
end
section
structure ee (es:List aK):Prop where
 ok:∀ e ∈ es,bc e
 nd:(es.map (·.parts)).Nodup
 len:es.length ≤ 12
noncomputable def Dg (e:aK):PySem.Str:=Str.ofString "/" ++ Txt.join (Str.ofString "/") e.parts.dropLast
noncomputable def cQ (es:List aK):List PySem.Str:=es.flatMap fun e=>match e.m0 with | some _=>[Dg e] | none=>[]
theorem j9 (tag:PySem.Str) (a b:List PySem.Str):ao tag (a++b) = ao tag a++ao tag b:=by unfold ao;rw [List.filter_append,List.map_append]
theorem el {α:Type} (tag:PySem.Str) (f g:α → List PySem.Str):∀ {l:List α},(∀ x ∈ l,ao tag (f x) = g x) → ao tag (l.flatMap f) = l.flatMap g
 | [],_=>rfl
 | x :: l,h=>by
  rw [List.flatMap_cons,List.flatMap_cons,j9,h x (.head _),el tag f g fun y hy=>h y (.tail _ hy)]
theorem lC {tag p r:PySem.Str} (hp:p.length = 2):dJ tag (p++r) = ((Str.ofString "  " == p) || (tag == p)):=by
 unfold dJ
 rw [show (some (2:Int)) = some ((2:Nat):Int) from rfl,(gv hp).2]
 simp
theorem zX {p r:PySem.Str} (hp:p.length = 2):Txt.slice (p++r) (some 2) none = r:=by
 rw [show (some (2:Int)) = some ((2:Nat):Int) from rfl,(gv hp).1]
theorem e7 {tag p r:PySem.Str} {l:List PySem.Str} (hp:p.length = 2) (h:((Str.ofString "  " == p) || (tag == p)) = true):ao tag ((p++r) :: l) = r :: ao tag l:=by
 unfold ao
 rw [List.filter_cons_of_pos (by rw [lC hp];exact h),List.map_cons,zX hp]
theorem ig {tag p r:PySem.Str} {l:List PySem.Str} (hp:p.length = 2) (h:((Str.ofString "  " == p) || (tag == p)) = false):ao tag ((p++r) :: l) = ao tag l:=by
 unfold ao
 rw [List.filter_cons_of_neg (by rw [lC hp,h];decide)]
theorem Ay {tag:PySem.Str} {l:List PySem.Str} (h:(tag == Str.ofString "? ") = false):ao tag (Str.ofString "? ^^^" :: l) = ao tag l:=by
 rw [show Str.ofString "? ^^^" = Str.ofString "? " ++ Str.ofString "^^^" by decide +kernel]
 exact ig (by decide) (by rw [h];decide +kernel)
theorem Aq {tag:PySem.Str} {l:List PySem.Str} (h:(tag == Str.ofString "? ") = false):ao tag (Str.ofString "?  ^" :: l) = ao tag l:=by
 rw [show Str.ofString "?  ^" = Str.ofString "? " ++ Str.ofString " ^" by decide +kernel]
 exact ig (by decide) (by rw [h];decide +kernel)
theorem du (tag:PySem.Str):ao tag [] = []:=rfl
theorem Bs {e:aK} (h:bc e):ao (Str.ofString "- ") (aR e) = match aD e 0 with | some x=>[aT e x] | none=>[]:=by
 unfold aR aD
 rw [if_pos rfl]
 cases hm0:e.m0 with
 | none =>
  cases hm1:e.m1 with
  | none=>rfl
  | some y =>
   dsimp only
   rw [ig (by decide) (by decide +kernel),du]
 | some x =>
  have hx:=h.m0 x hm0
  cases hm1:e.m1 with
  | none =>
   dsimp only
   rw [e7 (by decide) (by decide +kernel),du,db h.letter hx.1 hx.2]
  | some y =>
   dsimp only
   split
   ·rw [e7 (by decide) (by decide +kernel),du,db h.letter hx.1 hx.2]
   ·rw [e7 (by decide) (by decide +kernel),Ay (by decide +kernel),ig (by decide) (by decide +kernel),Aq (by decide +kernel),du,db h.letter hx.1 hx.2]
theorem Bo {e:aK} (h:bc e):ao (Str.ofString "+ ") (aR e) = match aD e 1 with | some x=>[aT e x] | none=>[]:=by
 unfold aR aD
 rw [if_neg (by decide)]
 cases hm0:e.m0 with
 | none =>
  cases hm1:e.m1 with
  | none=>rfl
  | some y =>
   have hy:=h.m1 y hm1
   dsimp only
   rw [e7 (by decide) (by decide +kernel),du,db h.letter hy.1 hy.2]
 | some x =>
  cases hm1:e.m1 with
  | none =>
   dsimp only
   rw [ig (by decide) (by decide +kernel),du]
  | some y =>
   have hy:=h.m1 y hm1
   dsimp only
   split
   ·rename_i hxy
    subst hxy
    rw [e7 (by decide) (by decide +kernel),du,db h.letter hy.1 hy.2]
   ·rw [ig (by decide) (by decide +kernel),Ay (by decide +kernel),e7 (by decide) (by decide +kernel),Aq (by decide +kernel),du,db h.letter hy.1 hy.2]
theorem gn {es:List aK} (h:ee es):ao (Str.ofString "- ") (bQ es) = bv es 0:=el _ _ _ fun e he=>Bs (h.ok e he)
theorem lU {es:List aK} (h:ee es):ao (Str.ofString "+ ") (bQ es) = bv es 1:=el _ _ _ fun e he=>Bo (h.ok e he)
theorem sK {es:List aK} {side:Int} {y:PySem.Str} (hy:y ∈ bv es side):∃ e ∈ es,∃ x,aD e side = some x ∧ y = aT e x:=by
 obtain ⟨e,he,h⟩:=List.mem_flatMap.mp hy
 refine ⟨e,he,?_⟩
 cases hm:aD e side with
 | none=>rw [hm] at h;cases h
 | some x=>rw [hm] at h;exact ⟨x,rfl,List.mem_singleton.mp h⟩
theorem jY {e:aK} {side x:Int} (h:bc e) (hs:side = 0 ∨ side = 1) (hm:aD e side = some x):0 ≤ x ∧ x < 512:=by
 unfold aD at hm
 split at hm
 ·exact h.m0 x hm
 ·exact h.m1 x hm
theorem je {es:List aK} (h:ee es) {side:Int} (hs:side = 0 ∨ side = 1) {y:PySem.Str} (hy:y ∈ bv es side):d4 y ∧ y.length ≤ 120:=by
 obtain ⟨e,he,x,hm,rfl⟩:=sK hy
 exact f9 (h.ok e he) (jY (h.ok e he) hs hm).1
theorem zm {es:List aK} (h:ee es):(∀ y ∈ bv es 0,d4 y) ∧ (∀ y ∈ bv es 1,d4 y):=⟨fun y hy=>(je h (.inl rfl) hy).1,fun y hy=>(je h (.inr rfl) hy).1⟩
theorem zh {es:List aK} (h:ee es):(∀ y ∈ bv es 0,y.length ≤ 1000) ∧ (∀ y ∈ bv es 1,y.length ≤ 1000) :=
 ⟨fun y hy=>Nat.le_trans (je h (.inl rfl) hy).2 (by decide),fun y hy=>Nat.le_trans (je h (.inr rfl) hy).2 (by decide)⟩
theorem mI {α β:Type} {f:α → List β} {k:Nat}:∀ {l:List α},(∀ x ∈ l,(f x).length ≤ k) → (l.flatMap f).length ≤ k * l.length
 | [],_=>Nat.zero_le _
 | x :: l,h=>by
  rw [List.flatMap_cons,List.length_append,List.length_cons,Nat.mul_succ]
  have:=h x (.head _)
  have:=mI (l:=l) fun y hy=>h y (.tail _ hy)
  omega
theorem sf {e:aK} (h:bc e):(∀ y ∈ aR e,y.length ≤ 1000) ∧ (aR e).length ≤ 4:=by
 have row:∀ {p:PySem.Str} {x:Int},p.length = 2 → 0 ≤ x ∧ x < 512 → (p++dW e x).length ≤ 1000:=fun {p x} hp hx=>by
  rw [PySem.Str.length_append,db h.letter hx.1 hx.2,hp]
  have:=(f9 h hx.1).2
  exact ae fun h9=>lN [_] [(1,.t (.k 1000) (.a K2 V0)),(1,.l V0 (.k 120))] (.c h9 (.c this .n))
 unfold aR
 cases hm0:e.m0 with
 | none =>
  cases hm1:e.m1 with
  | none=>exact ⟨(fun y hy=>nomatch hy),Nat.zero_le _⟩
  | some y =>
   refine ⟨fun z hz=>?_,Nat.le_of_ble_eq_true rfl⟩
   rw [List.mem_singleton.mp hz]
   exact row (by decide) (h.m1 y hm1)
 | some x =>
  have hx:=h.m0 x hm0
  cases hm1:e.m1 with
  | none =>
   refine ⟨fun z hz=>?_,Nat.le_of_ble_eq_true rfl⟩
   rw [List.mem_singleton.mp hz]
   exact row (by decide) hx
  | some y =>
   have hy:=h.m1 y hm1
   dsimp only
   split
   ·refine ⟨fun z hz=>?_,Nat.le_of_ble_eq_true rfl⟩
    rw [List.mem_singleton.mp hz]
    exact row (by decide) hx
   ·refine ⟨fun z hz=>?_,Nat.le_of_ble_eq_true rfl⟩
    simp only [List.mem_cons,List.not_mem_nil,or_false] at hz
    rcases hz with rfl | rfl | rfl | rfl
    ·exact row (by decide) hx
    ·decide
    ·exact row (by decide) hy
    ·decide
theorem vS {es:List aK} (h:ee es):(∀ y ∈ bQ es,y.length ≤ 1000) ∧ (bQ es).length ≤ 1000:=by
 refine ⟨fun y hy=>?_,?_⟩
 ·obtain ⟨e,he,h1⟩:=List.mem_flatMap.mp hy
  exact (sf (h.ok e he)).1 y h1
 ·have:=mI (f:=aR) (k:=4) (l:=es) fun e he=>(sf (h.ok e he)).2
  have h2:=h.len
  show (es.flatMap aR).length ≤ 1000
  exact ae fun h9=>lN [_,_] [(1,.t (.k 1000) V0),(1,.l V0 (.m 4 V1)),(4,.l V1 (.k 12))] (.c h9 (.c this (.c h2 .n)))
theorem mw {α β γ:Type} {f:α → List β} {g:β → γ} {k:α → List γ}:∀ {l:List α},(∀ x ∈ l,(f x).map g = k x) → (l.flatMap f).map g = l.flatMap k
 | [],_=>rfl
 | x :: l,h=>by
  rw [List.flatMap_cons,List.flatMap_cons,List.map_append,h x (.head _),mw fun y hy=>h y (.tail _ hy)]
theorem tC {es:List aK} (h:ee es):(bv es 0).map (fun y=>eK (Txt.slice y (some 11) none)) = cQ es:=by
 refine mw fun e he=>?_
 have ho:=h.ok e he
 unfold aD
 rw [if_pos rfl]
 cases hm:e.m0 with
 | none=>rfl
 | some x =>
  show [eK _] = [Dg e]
  rw [x6 ho (ho.m0 x hm).1];rfl
theorem tR {es:List aK} (h:ee es):∀ x ∈ cQ es,d4 x:=by
 intro x hx
 obtain ⟨e,he,h1⟩:=List.mem_flatMap.mp hx
 cases hm:e.m0 with
 | none=>rw [hm] at h1;cases h1
 | some y =>
  rw [hm] at h1
  rw [List.mem_singleton.mp h1]
  exact (n7 (h.ok e he).parts).2.2.2
noncomputable def mD (n:Nat):List (Option PySem.Str):=[some (Str.ofString "p"),some (Str.ofString "q"),some (Str.ofString "r")]++(List.range n).map fun k=>some (Txt.item (Str.ofString "abcdefghi") (0 + ((k:Nat):Int)))
theorem Dq:(mD 9).Nodup:=by decide +kernel
theorem zL (xs:List Int):(cb xs).map (fun e=>e.parts.getLast?) = mD xs.length:=by
 unfold cb mD
 rw [List.map_append,List.map_map]
 congr 1
 refine List.map_congr_left fun k _=>?_
 show (List.getLast? (_++[_])) = _
 rw [List.getLast?_append];rfl
theorem xS {n:Nat} (h:n ≤ 9):(mD n).Nodup:=by
 refine List.Nodup.sublist ?_ Dq
 unfold mD
 refine List.Sublist.append_left ?_ _
 refine List.Sublist.map _ ?_
 exact List.range_sublist.mpr h
theorem zG {xs:List Int} (h:xs.length ≤ 9):((cb xs).map aO).Nodup:=by
 have h1:((cb xs).map fun e=>e.parts.getLast?).Nodup:=by rw [zL];exact xS h
 have h2:(cb xs).Pairwise fun a b=>a.parts.getLast? ≠ b.parts.getLast?:=List.pairwise_map.mp h1
 refine List.pairwise_map.mpr ((List.Pairwise.and_mem.mp h2).imp fun {a b} hab e=>?_)
 have:=mz (fZ h a hab.1).parts (fZ h b hab.2.1).parts e
 exact hab.2.2 (by rw [this])
theorem pd {es:List aK} (nd:(es.map aO).Nodup) {p:PySem.Str} (hp:p ∈ es.map aO):(es.filter fun e=>aO e == p).map aO = [p]:=by
 induction es with
 | nil=>cases hp
 | cons e es ih =>
  rw [List.map_cons,List.nodup_cons] at nd
  by_cases h:aO e = p
  ·rw [List.filter_cons_of_pos (by simpa using h)]
   have:(es.filter fun e=>aO e == p) = []:=by
    rw [List.filter_eq_nil_iff]
    intro a ha hc
    have hc':aO a = p:=by simpa using hc
    exact nd.1 (by rw [h,← hc'];exact List.mem_map_of_mem ha)
   rw [this,List.map_cons,List.map_nil,h]
  ·rw [List.filter_cons_of_neg (by simpa using h)]
   refine ih nd.2 ?_
   rcases ag hp with h' | h'
   ·exact (h h'.symm).elim
   ·exact h'
theorem ic {es:List aK} (nd:(es.map aO).Nodup):∀ {ps:List PySem.Str},(∀ p ∈ ps,p ∈ es.map aO) → (fN es ps).map aO = ps
 | [],_=>rfl
 | p :: ps,h=>by
  show ((es.filter fun e=>aO e == p)++fN es ps).map aO = _
  rw [List.map_append,pd nd (h p (.head _)),ic nd fun q hq=>h q (.tail _ hq)];rfl
theorem yv {es:List aK} {ps:List PySem.Str} {e:aK} (h:e ∈ fN es ps):e ∈ es:=by
 obtain ⟨p,_,h1⟩:=List.mem_flatMap.mp h
 exact (List.mem_filter.mp h1).1
theorem zR {xs:List Int} {ps:List PySem.Str} (h:xs.length ≤ 9) (hp:ps.Perm ((cb xs).map aO)):ee (fN (cb xs) ps):=by
 have nd:=zG h
 have hs:=ic nd (ps:=ps) fun p hq=>hp.mem_iff.mp hq
 refine ⟨fun e he=>fZ h e (yv he),?_,?_⟩
 ·have h1:((fN (cb xs) ps).map aO).Nodup:=by rw [hs];exact hp.nodup_iff.mpr nd
  have h2:(fN (cb xs) ps).Pairwise fun a b=>aO a ≠ aO b:=List.pairwise_map.mp h1
  refine List.pairwise_map.mpr (h2.imp fun {a b} hab e=>hab ?_)
  unfold aO
  rw [e]
 ·have:=congrArg List.length hs
  rw [List.length_map,hp.length_eq,List.length_map,f8] at this
  exact ae fun h9=>lN [_,_] [(1,.t (.k 12) V0),(1,.l V1 (.k 9)),(1,.e V0 (.a (.k 3) V1))] (.c h9 (.c h (.c this .n)))
end
section
theorem wu:∀ {r:Nat} {a b:List PySem.Str},(∀ d,d < r → ∃ x,a[d]? = some x ∧ b[d]? = some x) → r ≤ dk a b
 | 0,_,_,_=>Nat.zero_le _
 | r + 1,a,b,h=>by
  obtain ⟨x,h1,h2⟩:=h r (Nat.lt_succ_self r)
  exact nO (wu fun d hd=>h d (Nat.lt_succ_of_lt hd)) h1 h2
theorem xj:∀ {r:Nat} {a b:List PySem.Str},(∀ d,d < r → ∃ x,a[d]? = some x ∧ b.any (· == x) = false) → r ≤ dj b a
 | 0,_,_,_=>Nat.zero_le _
 | r + 1,a,b,h=>by
  obtain ⟨x,h1,h2⟩:=h r (Nat.lt_succ_self r)
  exact rk (xj fun d hd=>h d (Nat.lt_succ_of_lt hd)) h1 h2
theorem mF {b:List PySem.Str} {x:PySem.Str}:b.any (· == x) = true ↔ x ∈ b:=by
 rw [List.any_eq_true]
 constructor
 ·rintro ⟨y,hy,e⟩
  exact (by simpa using e:y = x) ▸ hy
 ·intro h;exact ⟨x,h,by simp⟩
theorem zx {b:List PySem.Str} {x:PySem.Str} (h:x ∉ b):b.any (· == x) = false:=by
 cases e:b.any (· == x) with
 | false=>rfl
 | true=>exact (h (mF.mp e)).elim
theorem sk {A B:List PySem.Str} {i1 i2:Nat} (h1:i1 ≤ i2) (h2:i2 ≤ A.length) (no:∀ p,i1 ≤ p → p < i2 → ∀ x,A[p]? = some x → x ∉ B) (yes:∀ x,A[i2]? = some x → x ∈ B):dj B (A.drop i1) = i2 - i1:=by
 refine fU (xj fun d hd=>?_) fun x hx=>?_
 ·have hl:i1 + d < A.length:=by omega
  refine ⟨A[i1 + d],?_,zx (no (i1 + d) (by exact ae fun h9=>lN [_,_] [(1,.t (.a V0 V1) V0)] (.c h9 .n)) (by exact aA fun h9=>lN [_,_,_,_] [(1,.l V0 (.a V1 V2)),(1,.t V2 V3),(1,.e (.a V3 V1) V0)] (.c h9 (.c hd (.c (Nat.sub_add_cancel (ae fun h9=>lN [_,_,0,0] [(1,.t V0 V1),(1,.l V1 V0)] (.c h9 (.c h1 .n)))) .n)))) _ (List.getElem?_eq_getElem hl))⟩
  rw [List.getElem?_drop];exact List.getElem?_eq_getElem hl
 ·rw [List.getElem?_drop,show i1 + (i2 - i1) = i2 by exact aN (fun h9=>lN [_,_,_] [(1,.t V0 (.a V1 V2)),(1,.e (.a V2 V1) V0)] (.c h9 (.c (Nat.sub_add_cancel (ae fun h9=>lN [_,_] [(1,.t V0 V1),(1,.l V1 V0)] (.c h9 (.c h1 .n)))) .n))) (fun h9=>lN [_,_,_] [(1,.t (.a V0 V1) V2),(-1,.e (.a V1 V0) V2)] (.c h9 (.c (Nat.sub_add_cancel (ae fun h9=>lN [_,_] [(1,.t V0 V1),(1,.l V1 V0)] (.c h9 (.c h1 .n)))) .n)))] at hx
  exact mF.mpr (yes x hx)
section
variable {A B:List PySem.Str} {srt:List Bk}
noncomputable def aU (A:List PySem.Str):List Bk → Nat
 | b :: _=>b.i
 | []=>A.length
noncomputable def aX (B:List PySem.Str):List Bk → Nat
 | b :: _=>b.j
 | []=>B.length
noncomputable abbrev bP (A B:List PySem.Str) (srt:List Bk):Prop:=bB A B ⟨0,A.length,0,B.length⟩ srt
theorem ES (H:bP A B srt) {p:Nat} {x:PySem.Str} (h:A[p]? = some x) (hx:x ∈ B):∃ c ∈ srt,c.i ≤ p ∧ p < c.i + c.k:=by
 obtain ⟨q,hq,e⟩:=List.mem_iff_getElem.mp hx
 have hp:=(List.getElem?_eq_some_iff.mp h).1
 obtain ⟨c,hc,d,d1,d2,d3⟩:=H.mat p q x (Nat.zero_le _) hp (Nat.zero_le _) hq h (by rw [List.getElem?_eq_getElem hq,e])
 exact ⟨c,hc,by exact ae fun h9=>lN [_,_,_] [(1,.t V0 V1),(-1,.e V0 (.a V1 V2))] (.c h9 (.c d2 .n)),by exact aA fun h9=>lN [_,_,_,_] [(1,.l (.a V0 V1) V2),(1,.t V3 V1),(1,.e V2 (.a V0 V3))] (.c h9 (.c d1 (.c d2 .n)))⟩
theorem Fd (H:bP A B srt) {q:Nat} {x:PySem.Str} (h:B[q]? = some x) (hx:x ∈ A):∃ c ∈ srt,c.j ≤ q ∧ q < c.j + c.k:=by
 obtain ⟨p,hp,e⟩:=List.mem_iff_getElem.mp hx
 have hq:=(List.getElem?_eq_some_iff.mp h).1
 obtain ⟨c,hc,d,d1,d2,d3⟩:=H.mat p q x (Nat.zero_le _) hp (Nat.zero_le _) hq (by rw [List.getElem?_eq_getElem hp,e]) h
 exact ⟨c,hc,by exact ae fun h9=>lN [_,_,_] [(1,.t V0 V1),(-1,.e V0 (.a V1 V2))] (.c h9 (.c d3 .n)),by exact aA fun h9=>lN [_,_,_,_] [(1,.l (.a V0 V1) V2),(1,.t V3 V1),(1,.e V2 (.a V0 V3))] (.c h9 (.c d1 (.c d3 .n)))⟩
theorem CZ (H:bP A B srt) {b:Bk} (hb:b ∈ srt) {x:PySem.Str} (h:A[b.i]? = some x):x ∈ B:=by
 have h1:=H.con b hb 0 (H.ins b hb).1
 rw [Nat.add_zero,Nat.add_zero,h] at h1
 exact List.mem_of_getElem? h1.symm
theorem DC (H:bP A B srt) {b:Bk} (hb:b ∈ srt) {x:PySem.Str} (h:B[b.j]? = some x):x ∈ A:=by
 have h1:=H.con b hb 0 (H.ins b hb).1
 rw [Nat.add_zero,Nat.add_zero,h] at h1
 exact List.mem_of_getElem? h1
theorem mi (H:bP A B srt) {pre r:List Bk} (e:srt = pre++r) {i1 j1:Nat} (hp:∀ c ∈ pre,c.i + c.k ≤ i1 ∧ c.j + c.k ≤ j1) (h1:i1 ≤ aU A r) (h2:j1 ≤ aX B r) :
  dj B (A.drop i1) = aU A r - i1 ∧ dj A (B.drop j1) = aX B r - j1:=by
 subst e
 have ho:=List.pairwise_append.mp H.ord
 have inr:∀ c ∈ r,aU A r ≤ c.i ∧ aX B r ≤ c.j:=fun c hc=>by
  cases r with
  | nil=>cases hc
  | cons b r =>
   rcases ag hc with rfl | hc
   ·exact ⟨Nat.le_refl _,Nat.le_refl _⟩
   ·have:=(List.pairwise_cons.mp ho.2.1).1 c hc
    unfold cO at this
    show b.i ≤ c.i ∧ b.j ≤ c.j
    exact ⟨ae fun h9=>lN [_,_,_,0,0] [(1,.t V0 V1),(1,.l (.a V1 V2) V0)] (.c h9 (.c this.1 .n)),ae fun h9=>lN [_,_,0,_,0] [(1,.t V0 V1),(1,.l (.a V1 V3) V0)] (.c h9 (.c this.2.1 .n))⟩
 have hl:aU A r ≤ A.length ∧ aX B r ≤ B.length:=by
  cases r with
  | nil=>exact ⟨Nat.le_refl _,Nat.le_refl _⟩
  | cons b r =>
   have:=H.ins b (ac (.head _))
   show b.i ≤ _ ∧ b.j ≤ _
   dsimp only at this
   exact ⟨ae fun h9=>lN [_,_,_,0,0] [(1,.t V0 V1),(1,.l (.a V1 V2) V0)] (.c h9 (.c this.2.2.1 .n)),ae fun h9=>lN [_,_,_,0,0] [(1,.t V0 V1),(1,.l (.a V1 V2) V0)] (.c h9 (.c this.2.2.2.2 .n))⟩
 constructor
 ·refine sk h1 hl.1 (fun p p1 p2 x hx hm=>?_) fun x hx=>?_
  ·obtain ⟨c,hc,c1,c2⟩:=ES H hx hm
   rcases aH hc with hc | hc
   ·have:=(hp c hc).1;exact lN [_,_,_,_] [(1,.l V0 V1),(1,.t V1 (.a V2 V3)),(1,.l (.a V2 V3) V0)] (.c p1 (.c c2 (.c this .n)))
   ·have:=(inr c hc).1;exact lN [_,_,_] [(1,.t V0 V1),(1,.l V2 V0),(1,.l V1 V2)] (.c p2 (.c c1 (.c this .n)))
  ·cases r with
   | nil =>
    exfalso
    have:=(List.getElem?_eq_some_iff.mp hx).1
    simp [aU] at this
   | cons b r=>exact CZ H (ac (.head _)) hx
 ·refine sk h2 hl.2 (fun p p1 p2 x hx hm=>?_) fun x hx=>?_
  ·obtain ⟨c,hc,c1,c2⟩:=Fd H hx hm
   rcases aH hc with hc | hc
   ·have:=(hp c hc).2;exact lN [_,_,_,_] [(1,.l V0 V1),(1,.t V1 (.a V2 V3)),(1,.l (.a V2 V3) V0)] (.c p1 (.c c2 (.c this .n)))
   ·have:=(inr c hc).2;exact lN [_,_,_] [(1,.t V0 V1),(1,.l V2 V0),(1,.l V1 V2)] (.c p2 (.c c1 (.c this .n)))
  ·cases r with
   | nil =>
    exfalso
    have:=(List.getElem?_eq_some_iff.mp hx).1
    simp [aX] at this
   | cons b r=>exact DC H (ac (.head _)) hx
theorem yD (H:bP A B srt) {b:Bk} (hb:b ∈ srt):dk (A.drop b.i) (B.drop b.j) = b.k:=by
 have hi:=H.ins b hb
 dsimp only at hi
 refine dK (wu fun d hd=>?_) fun x h1 h2=>?_
 ·have hl:b.i + d < A.length:=by exact aA fun h9=>lN [_,_,_,_,0,0] [(1,.l V0 (.a V1 V2)),(1,.l (.a V1 V3) V0),(1,.t V2 V3)] (.c h9 (.c hi.2.2.1 (.c hd .n)))
  refine ⟨A[b.i + d],?_,?_⟩
  ·rw [List.getElem?_drop];exact List.getElem?_eq_getElem hl
  ·rw [List.getElem?_drop,← H.con b hb d hd];exact List.getElem?_eq_getElem hl
 ·rw [List.getElem?_drop] at h1 h2
  have l1:=(List.getElem?_eq_some_iff.mp h1).1
  have l2:=(List.getElem?_eq_some_iff.mp h2).1
  obtain ⟨c,hc,d,c1,c2,c3⟩:=H.mat _ _ x (Nat.zero_le _) l1 (Nat.zero_le _) l2 h1 h2
  rcases Nat.eq_zero_or_pos d with rfl | hd
  ·exact kQ H.ord hb hc (by exact aN (fun h9=>lN [_,_,_] [(1,.t V0 (.a V1 V2)),(1,.e (.a V1 V2) (.a V0 K0))] (.c h9 (.c c2 .n))) (fun h9=>lN [_,_,_] [(1,.t (.a V0 V1) V2),(-1,.e (.a V0 V1) (.a V2 K0))] (.c h9 (.c c2 .n)))) (by exact aN (fun h9=>lN [_,_,_] [(1,.t V0 (.a V1 V2)),(1,.e (.a V1 V2) (.a V0 K0))] (.c h9 (.c c3 .n))) (fun h9=>lN [_,_,_] [(1,.t (.a V0 V1) V2),(-1,.e (.a V0 V1) (.a V2 K0))] (.c h9 (.c c3 .n)))) (by exact aA fun h9=>lN [_] [(1,.l V0 K0),(1,.t K0 V0)] (.c h9 (.c c1 .n))) (by exact aA fun h9=>lN [_,0,0,0,0,0,0] [(1,.l V0 K0),(1,.t K0 V0)] (.c h9 (.c hi.1 .n)))
  ·have:=dL H.ord hb hc (i:=b.i + b.k - 1) (j:=b.j + b.k - 1) (j':=b.j + b.k - 1) ⟨b.k - 1,by exact aA fun h9=>lN [_,_,0,0,0,0,0,0,0] [(1,.l V0 V1),(1,.e (.a V1 K1) V0)] (.c h9 (.c (Nat.sub_add_cancel (ae fun h9=>lN [_,0,0,0,0,0,0,0] [(1,.t V0 K1),(1,.t K0 V0)] (.c h9 (.c hi.1 .n)))) .n)),by exact aN (fun h9=>lN [_,_,_,_,0,0,0,0,0,0] [(1,.t (.a V0 V1) V2),(-1,.e (.a V1 K1) V3),(1,.e (.a V2 K1) (.a V0 V3))] (.c h9 (.c (Nat.sub_add_cancel (ae fun h9=>lN [_,0,0,0,0,0,0,0] [(1,.t V0 K1),(1,.t K0 V0)] (.c h9 (.c hi.1 .n)))) (.c (Nat.sub_add_cancel (ae fun h9=>lN [_,_,0,0,0,0,0,0,_] [(1,.t (.a V0 V1) K1),(1,.e (.a V8 K1) V1)] (.c h9 (.c (Nat.sub_add_cancel (ae fun h9=>lN [_,0,0,0,0,0,0,0] [(1,.t V0 K1),(1,.t K0 V0)] (.c h9 (.c hi.1 .n)))) .n)))) .n)))) (fun h9=>lN [_,_,_,_,0,0,0,0,0,0] [(1,.t V0 (.a V1 V2)),(1,.e (.a V2 K1) V3),(-1,.e (.a V0 K1) (.a V1 V3))] (.c h9 (.c (Nat.sub_add_cancel (ae fun h9=>lN [_,0,0,0,0,0,0,0] [(1,.t V0 K1),(1,.t K0 V0)] (.c h9 (.c hi.1 .n)))) (.c (Nat.sub_add_cancel (ae fun h9=>lN [_,_,0,0,0,0,0,0,_] [(1,.t (.a V0 V1) K1),(1,.e (.a V8 K1) V1)] (.c h9 (.c (Nat.sub_add_cancel (ae fun h9=>lN [_,0,0,0,0,0,0,0] [(1,.t V0 K1),(1,.t K0 V0)] (.c h9 (.c hi.1 .n)))) .n)))) .n)))),by exact aN (fun h9=>lN [_,_,_,_,0,0,0,0,0,0] [(1,.t (.a V0 V1) V2),(-1,.e (.a V1 K1) V3),(1,.e (.a V2 K1) (.a V0 V3))] (.c h9 (.c (Nat.sub_add_cancel (ae fun h9=>lN [_,0,0,0,0,0,0,0] [(1,.t V0 K1),(1,.t K0 V0)] (.c h9 (.c hi.1 .n)))) (.c (Nat.sub_add_cancel (ae fun h9=>lN [_,_,0,0,0,0,0,0,_] [(1,.t (.a V0 V1) K1),(1,.e (.a V8 K1) V1)] (.c h9 (.c (Nat.sub_add_cancel (ae fun h9=>lN [_,0,0,0,0,0,0,0] [(1,.t V0 K1),(1,.t K0 V0)] (.c h9 (.c hi.1 .n)))) .n)))) .n)))) (fun h9=>lN [_,_,_,_,0,0,0,0,0,0] [(1,.t V0 (.a V1 V2)),(1,.e (.a V2 K1) V3),(-1,.e (.a V0 K1) (.a V1 V3))] (.c h9 (.c (Nat.sub_add_cancel (ae fun h9=>lN [_,0,0,0,0,0,0,0] [(1,.t V0 K1),(1,.t K0 V0)] (.c h9 (.c hi.1 .n)))) (.c (Nat.sub_add_cancel (ae fun h9=>lN [_,_,0,0,0,0,0,0,_] [(1,.t (.a V0 V1) K1),(1,.e (.a V8 K1) V1)] (.c h9 (.c (Nat.sub_add_cancel (ae fun h9=>lN [_,0,0,0,0,0,0,0] [(1,.t V0 K1),(1,.t K0 V0)] (.c h9 (.c hi.1 .n)))) .n)))) .n))))⟩ ⟨d - 1,by exact aA fun h9=>lN [_,_,_] [(1,.l V0 V1),(1,.t V2 V0),(1,.e (.a V1 K1) V2)] (.c h9 (.c c1 (.c (Nat.sub_add_cancel (ae fun h9=>lN [_,0] [(1,.t V0 K1),(1,.t K0 V0)] (.c h9 (.c hd .n)))) .n))),by exact aN (fun h9=>lN [_,_,_,_,_,0,0,0,_,0] [(1,.t (.a V0 V1) V2),(1,.e (.a V4 V3) (.a V0 V8)),(-1,.e (.a V1 K1) V8),(1,.e (.a V2 K1) (.a V4 V3))] (.c h9 (.c c2 (.c (Nat.sub_add_cancel (ae fun h9=>lN [_,0,0,0,0,0,0,0] [(1,.t V0 K1),(1,.t K0 V0)] (.c h9 (.c hd .n)))) (.c (Nat.sub_add_cancel (ae fun h9=>lN [_,_,0,0,0,_,_,0,_] [(1,.t (.a V0 V1) K1),(-1,.e (.a V0 V1) (.a V5 V6)),(1,.e (.a V8 K1) V6)] (.c h9 (.c c2 (.c (Nat.sub_add_cancel (ae fun h9=>lN [_,0,0,0,0,0,0,0] [(1,.t V0 K1),(1,.t K0 V0)] (.c h9 (.c hd .n)))) .n))))) .n))))) (fun h9=>lN [_,_,_,_,_,0,0,0,_,0] [(1,.t V0 (.a V1 V2)),(-1,.e (.a V4 V3) (.a V1 V8)),(1,.e (.a V2 K1) V8),(-1,.e (.a V0 K1) (.a V4 V3))] (.c h9 (.c c2 (.c (Nat.sub_add_cancel (ae fun h9=>lN [_,0,0,0,0,0,0,0] [(1,.t V0 K1),(1,.t K0 V0)] (.c h9 (.c hd .n)))) (.c (Nat.sub_add_cancel (ae fun h9=>lN [_,_,0,0,0,_,_,0,_] [(1,.t (.a V0 V1) K1),(-1,.e (.a V0 V1) (.a V5 V6)),(1,.e (.a V8 K1) V6)] (.c h9 (.c c2 (.c (Nat.sub_add_cancel (ae fun h9=>lN [_,0,0,0,0,0,0,0] [(1,.t V0 K1),(1,.t K0 V0)] (.c h9 (.c hd .n)))) .n))))) .n))))),by exact aN (fun h9=>lN [_,_,_,_,0,0,_,0,0,_] [(1,.t (.a V0 V1) V2),(1,.e (.a V6 V3) (.a V0 V9)),(-1,.e (.a V1 K1) V9),(1,.e (.a V2 K1) (.a V6 V3))] (.c h9 (.c c3 (.c (Nat.sub_add_cancel (ae fun h9=>lN [_,0,0,0,0,0,0,0] [(1,.t V0 K1),(1,.t K0 V0)] (.c h9 (.c hd .n)))) (.c (Nat.sub_add_cancel (ae fun h9=>lN [_,_,0,0,0,0,_,_,_] [(1,.t (.a V0 V1) K1),(-1,.e (.a V0 V1) (.a V7 V6)),(1,.e (.a V8 K1) V6)] (.c h9 (.c c3 (.c (Nat.sub_add_cancel (ae fun h9=>lN [_,0,0,0,0,0,0,0] [(1,.t V0 K1),(1,.t K0 V0)] (.c h9 (.c hd .n)))) .n))))) .n))))) (fun h9=>lN [_,_,_,_,0,0,_,0,0,_] [(1,.t V0 (.a V1 V2)),(-1,.e (.a V6 V3) (.a V1 V9)),(1,.e (.a V2 K1) V9),(-1,.e (.a V0 K1) (.a V6 V3))] (.c h9 (.c c3 (.c (Nat.sub_add_cancel (ae fun h9=>lN [_,0,0,0,0,0,0,0] [(1,.t V0 K1),(1,.t K0 V0)] (.c h9 (.c hd .n)))) (.c (Nat.sub_add_cancel (ae fun h9=>lN [_,_,0,0,0,0,_,_,_] [(1,.t (.a V0 V1) K1),(-1,.e (.a V0 V1) (.a V7 V6)),(1,.e (.a V8 K1) V6)] (.c h9 (.c c3 (.c (Nat.sub_add_cancel (ae fun h9=>lN [_,0,0,0,0,0,0,0] [(1,.t V0 K1),(1,.t K0 V0)] (.c h9 (.c hd .n)))) .n))))) .n)))))⟩
   subst this;exact lN [_,_,_] [(1,.t V0 V1),(1,.e (.a V2 V1) (.a V2 V0))] (.c c1 (.c c2 .n))
theorem d9 {ops:List Op} {i0 j0 r r2 r3:Nat} (h1:dk (A.drop i0) (B.drop j0) = r) (h2:dj B (A.drop (i0 + r)) = r2) (h3:dj A (B.drop (j0 + r)) = r3) :
  bV A B ⟨ops,i0,j0⟩ = ⟨ops++bS ⟨i0,j0,r⟩++aI (i0 + r) (i0 + r + r2) (j0 + r) (j0 + r + r3),i0 + r + r2,j0 + r + r3⟩:=by
 rw [iH h1 h2 h3]
 have e1:(if i0 < i0 + r then ops++[(⟨Str.ofString "equal",i0,i0 + r,j0,j0 + r⟩:Op)] else ops) = ops++bS ⟨i0,j0,r⟩:=by
  unfold bS
  by_cases h:r = 0
  ·subst h;simp
  ·rw [if_pos (by exact aA fun h9=>lN [_,_,0] [(1,.l (.a V0 V1) V0),(1,.t K0 V1)] (.c h9 (.c (Nat.lt_of_le_of_ne (ae fun h9=>lN [_,0] [(1,.t V0 K0)] (.c h9 .n)) (Ne.symm h)) .n))),if_pos h]
 rw [e1]
 congr 1
 unfold aI
 by_cases a:i0 + r < i0 + r + r2 <;> by_cases b:j0 + r < j0 + r + r3
 ·rw [if_pos (.inl a),if_pos ⟨a,b⟩,if_pos ⟨a,b⟩]
 ·rw [if_pos (.inl a),if_neg (fun h=>b h.2),if_pos a,if_neg (fun h=>b h.2),if_pos a]
 ·rw [if_pos (.inr b),if_neg (fun h=>a h.1),if_neg a,if_neg (fun h=>a h.1),if_neg a,if_pos b]
 ·rw [if_neg (fun h=>h.elim a b),if_neg (fun h=>a h.1),if_neg a,if_neg b,List.append_nil]
theorem lQ (H:bP A B srt) {pre r:List Bk} {b:Bk} (e:srt = pre++b :: r) (ops:List Op) :
  bV A B ⟨ops,b.i,b.j⟩ = ⟨ops++bS b++aI (b.i + b.k) (aU A r) (b.j + b.k) (aX B r),aU A r,aX B r⟩ ∧ b.i + b.k ≤ aU A r ∧ b.j + b.k ≤ aX B r:=by
 have hb:b ∈ srt:=by rw [e];exact ac (.head _)
 have hi:=H.ins b hb
 dsimp only at hi
 have ho:=H.ord
 rw [e] at ho
 have ho:=List.pairwise_append.mp ho
 have hle:b.i + b.k ≤ aU A r ∧ b.j + b.k ≤ aX B r:=by
  cases r with
  | nil=>exact ⟨hi.2.2.1,hi.2.2.2.2⟩
  | cons c r =>
   have:=(List.pairwise_cons.mp ho.2.1).1 c (.head _)
   exact ⟨this.1,this.2.1⟩
 have g:=mi H (pre:=pre++[b]) (r:=r) (by rw [e];simp) (i1:=b.i + b.k) (j1:=b.j + b.k) (fun c hc=>by
  rcases aH hc with hc | hc
  ·have:=ho.2.2 c hc b (.head _)
   unfold cO at this
   exact ⟨ae fun h9=>lN [_,_,_,_,0,0,0,0] [(1,.t (.a V0 V1) (.a V2 V3)),(1,.l (.a V2 V3) V0)] (.c h9 (.c this.1 .n)),ae fun h9=>lN [_,_,_,_,0,0,0,0] [(1,.t (.a V0 V1) (.a V2 V3)),(1,.l (.a V2 V3) V0)] (.c h9 (.c this.2.1 .n))⟩
  ·rw [List.mem_singleton.mp hc];exact ⟨Nat.le_refl _,Nat.le_refl _⟩) hle.1 hle.2
 refine ⟨?_,hle⟩
 rw [d9 (yD H hb) g.1 g.2,show b.i + b.k + (aU A r - (b.i + b.k)) = aU A r by exact aN (fun h9=>lN [_,_,_,_,0,0] [(1,.t V0 (.a (.a V1 V2) V3)),(1,.e (.a V3 (.a V1 V2)) V0)] (.c h9 (.c (Nat.sub_add_cancel (ae fun h9=>lN [_,_,_,0,0] [(1,.t V0 (.a V1 V2)),(1,.l (.a V1 V2) V0)] (.c h9 (.c hle.1 .n)))) .n))) (fun h9=>lN [_,_,_,_,0,0] [(1,.t (.a (.a V0 V1) V2) V3),(-1,.e (.a V2 (.a V0 V1)) V3)] (.c h9 (.c (Nat.sub_add_cancel (ae fun h9=>lN [_,_,_,0,0] [(1,.t V0 (.a V1 V2)),(1,.l (.a V1 V2) V0)] (.c h9 (.c hle.1 .n)))) .n))),show b.j + b.k + (aX B r - (b.j + b.k)) = aX B r by exact aN (fun h9=>lN [_,_,_,_,0,0] [(1,.t V0 (.a (.a V1 V2) V3)),(1,.e (.a V3 (.a V1 V2)) V0)] (.c h9 (.c (Nat.sub_add_cancel (ae fun h9=>lN [_,_,_,0,0] [(1,.t V0 (.a V1 V2)),(1,.l (.a V1 V2) V0)] (.c h9 (.c hle.2 .n)))) .n))) (fun h9=>lN [_,_,_,_,0,0] [(1,.t (.a (.a V0 V1) V2) V3),(-1,.e (.a V2 (.a V0 V1)) V3)] (.c h9 (.c (Nat.sub_add_cancel (ae fun h9=>lN [_,_,_,0,0] [(1,.t V0 (.a V1 V2)),(1,.l (.a V1 V2) V0)] (.c h9 (.c hle.2 .n)))) .n)))]
theorem wM (ops:List Op):bV A B ⟨ops,A.length,B.length⟩ = ⟨ops,A.length,B.length⟩:=by
 rw [d9 (r:=0) (r2:=0) (r3:=0) (by rw [List.drop_length];rfl) (by rw [Nat.add_zero,List.drop_length];rfl) (by rw [Nat.add_zero,List.drop_length];rfl)]
 simp [bS,aI]
theorem nN (H:bP A B srt) (h:¬ (aU A srt = 0 ∧ aX B srt = 0)):bV A B ⟨[],0,0⟩ = ⟨aI 0 (aU A srt) 0 (aX B srt),aU A srt,aX B srt⟩:=by
 have g:=mi H (pre:=[]) (r:=srt) rfl (i1:=0) (j1:=0) (fun c hc=>nomatch hc) (Nat.zero_le _) (Nat.zero_le _)
 have hl:dk (A.drop 0) (B.drop 0) = 0:=by
  refine dK (Nat.zero_le _) fun x h1 h2=>?_
  rw [List.drop_zero] at h1 h2
  have l1:=(List.getElem?_eq_some_iff.mp h1).1
  have l2:=(List.getElem?_eq_some_iff.mp h2).1
  obtain ⟨c,hc,d,c1,c2,c3⟩:=H.mat 0 0 x (Nat.zero_le _) l1 (Nat.zero_le _) l2 h1 h2
  apply h
  cases srt with
  | nil=>cases hc
  | cons b r =>
   have hb:=(H.ins b (.head _)).1
   rcases ag hc with rfl | hc
   ·exact ⟨by show c.i = 0;exact aN (fun h9=>lN [_,_] [(1,.t K0 V0),(-1,.e K0 (.a V0 V1))] (.c h9 (.c c2 .n))) (fun h9=>lN [_,0] [(1,.t V0 K0)] (.c h9 .n)),by show c.j = 0;exact aN (fun h9=>lN [_,0,_] [(1,.t K0 V0),(-1,.e K0 (.a V0 V2))] (.c h9 (.c c3 .n))) (fun h9=>lN [_,0,0] [(1,.t V0 K0)] (.c h9 .n))⟩
   ·have:=(List.pairwise_cons.mp H.ord).1 c hc
    unfold cO at this
    exact (lN [_,_,_,_,0,0] [(-1,.e K0 (.a V0 V1)),(1,.t K0 V2),(1,.l (.a V3 V2) V0)] (.c c2 (.c hb (.c this.1 .n)))).elim
 rw [d9 hl g.1 g.2]
 simp [bS]
noncomputable def d6 (A B:List PySem.Str):List Bk → List Op
 | []=>[]
 | b :: r=>bS b++aI (b.i + b.k) (aU A r) (b.j + b.k) (aX B r)++d6 A B r
noncomputable def bX (A B:List PySem.Str):List Bk → Nat → List Op
 | [],_=>[]
 | _ :: _,0=>[]
 | b :: r,n + 1=>bS b++aI (b.i + b.k) (aU A r) (b.j + b.k) (aX B r)++bX A B r n
theorem e6:∀ {bs:List Bk} {n:Nat},bs.drop n = [] → bX A B bs n = d6 A B bs
 | [],n,_=>by cases n <;> rfl
 | b :: r,0,h=>by cases h
 | b :: r,n + 1,h=>by
  show _++bX A B r n = _++d6 A B r
  rw [e6 (by simpa using h)]
theorem ei (H:bP A B srt):∀ {bs pre:List Bk} {n:Nat},srt = pre++bs → ∀ ops,bV A B ⟨ops++bX A B bs n,aU A (bs.drop n),aX B (bs.drop n)⟩ = ⟨ops++bX A B bs (n + 1),aU A (bs.drop (n + 1)),aX B (bs.drop (n + 1))⟩
 | [],pre,n,e,ops=>by
  rw [List.drop_nil,List.drop_nil]
  have h1:bX A B [] n = []:=by cases n <;> rfl
  rw [h1]
  exact wM _
 | b :: r,pre,0,e,ops=>by
  have:=(lQ H e ops).1
  show bV A B ⟨ops++[],b.i,b.j⟩ = ⟨ops++(bS b++_++bX A B r 0),aU A (r.drop 0),aX B (r.drop 0)⟩
  rw [List.append_nil,this,List.drop_zero]
  have h1:bX A B r 0 = []:=by cases r <;> rfl
  rw [h1,List.append_nil,List.append_assoc]
 | b :: r,pre,n + 1,e,ops=>by
  have ih:=ei H (bs:=r) (pre:=pre++[b]) (n:=n) (by rw [e];simp) (ops++(bS b++aI (b.i + b.k) (aU A r) (b.j + b.k) (aX B r)))
  show bV A B ⟨ops++(bS b++_++bX A B r n),aU A (r.drop n),aX B (r.drop n)⟩ = ⟨ops++(bS b++_++bX A B r (n + 1)),aU A (r.drop (n + 1)),aX B (r.drop (n + 1))⟩
  have ap:∀ x:List Op,ops++(bS b++aI (b.i + b.k) (aU A r) (b.j + b.k) (aX B r)++x) = ops++(bS b++aI (b.i + b.k) (aU A r) (b.j + b.k) (aX B r))++x:=fun x=>by rw [List.append_assoc ops]
  rw [ap,ap]
  exact ih
theorem rB (H:bP A B srt) (h:aU A srt = 0 ∧ aX B srt = 0):∀ n,dn A B n = ⟨bX A B srt n,aU A (srt.drop n),aX B (srt.drop n)⟩
 | 0=>by
  have h1:bX A B srt 0 = []:=by cases srt <;> rfl
  rw [h1,List.drop_zero,h.1,h.2];rfl
 | n + 1=>by
  show bV A B (dn A B n) = _
  rw [rB H h n]
  have:=ei H (bs:=srt) (pre:=[]) (n:=n) rfl []
  simpa using this
theorem gL (H:bP A B srt) (h:¬ (aU A srt = 0 ∧ aX B srt = 0)):∀ n,dn A B (n + 1) = ⟨aI 0 (aU A srt) 0 (aX B srt)++bX A B srt n,aU A (srt.drop n),aX B (srt.drop n)⟩
 | 0=>by
  have h1:bX A B srt 0 = []:=by cases srt <;> rfl
  rw [h1,List.append_nil,List.drop_zero]
  exact nN H h
 | n + 1=>by
  show bV A B (dn A B (n + 1)) = _
  rw [gL H h n]
  exact ei H (bs:=srt) (pre:=[]) (n:=n) rfl _
theorem sF (H:bP A B srt) {bs pre:List Bk} (e:srt = pre++bs) (h:A.length ≤ aU A bs):bs = []:=by
 cases bs with
 | nil=>rfl
 | cons b r =>
  have:=H.ins b (by rw [e];exact ac (.head _))
  dsimp only at this
  have h':A.length ≤ b.i:=h
  exact (lN [_,_,_,0,0] [(1,.t K0 V0),(1,.l (.a V1 V0) V2),(1,.l V2 V1)] (.c this.1 (.c this.2.2.1 (.c h' .n)))).elim
theorem AY (H:bP A B srt) {n:Nat} (h1:A.length ≤ (dn A B n).i) (h2:B.length ≤ (dn A B n).j):(dn A B n).ops = aI 0 (aU A srt) 0 (aX B srt)++d6 A B srt:=by
 by_cases h:aU A srt = 0 ∧ aX B srt = 0
 ·rw [rB H h n] at h1 ⊢
  have:=sF H (bs:=srt.drop n) (pre:=srt.take n) (List.take_append_drop n srt).symm h1
  show bX A B srt n = _
  rw [e6 this,h.1,h.2]
  simp [aI]
 ·cases n with
  | zero =>
   exfalso
   apply h
   have a0:A.length ≤ 0:=h1
   have b0:B.length ≤ 0:=h2
   cases srt with
   | nil=>exact ⟨by show A.length = 0;exact aN (fun h9=>lN [_] [(1,.t K0 V0),(1,.l V0 K0)] (.c h9 (.c a0 .n))) (fun h9=>lN [_] [(1,.t V0 K0)] (.c h9 .n)),by show B.length = 0;exact aN (fun h9=>lN [_] [(1,.t K0 V0),(1,.l V0 K0)] (.c h9 (.c b0 .n))) (fun h9=>lN [_] [(1,.t V0 K0)] (.c h9 .n))⟩
   | cons b r =>
    have:=H.ins b (.head _)
    dsimp only at this
    exact (lN [_,_,0,0,_] [(1,.l V0 K0),(1,.t K0 V1),(1,.l (.a V4 V1) V0)] (.c b0 (.c this.1 (.c this.2.2.2.2 .n)))).elim
  | succ n =>
   rw [gL H h n] at h1 ⊢
   have:=sF H (bs:=srt.drop n) (pre:=srt.take n) (List.take_append_drop n srt).symm h1
   show _++bX A B srt n = _
   rw [e6 this]
theorem lY (H:bP A B srt) {bs pre:List Bk} (e:srt = pre++bs) (h:aU A bs < A.length ∨ aX B bs < B.length):aU A bs + aX B bs < aU A (bs.drop 1) + aX B (bs.drop 1):=by
 cases bs with
 | nil=>exact absurd h (by simp [aU,aX])
 | cons b r =>
  have h1:=(lQ H e []).2
  have h2:=(H.ins b (by rw [e];exact ac (.head _))).1
  show b.i + b.j < aU A r + aX B r
  exact aA fun h9=>lN [_,_,_,_,_] [(1,.l (.a V0 V1) (.a V2 V3)),(1,.l (.a V2 V4) V0),(1,.l (.a V3 V4) V1),(1,.t K0 V4)] (.c h9 (.c h1.1 (.c h1.2 (.c h2 .n))))
theorem yj (H:bP A B srt):gm A B:=by
 intro n hn
 by_cases h:aU A srt = 0 ∧ aX B srt = 0
 ·rw [rB H h n] at hn ⊢
  rw [rB H h (n + 1)]
  have:=lY H (bs:=srt.drop n) (pre:=srt.take n) (List.take_append_drop n srt).symm hn
  rwa [List.drop_drop] at this
 ·cases n with
  | zero =>
   rw [gL H h 0]
   show 0 + 0 < aU A (srt.drop 0) + aX B (srt.drop 0)
   rw [List.drop_zero]
   omega
  | succ n =>
   rw [gL H h n] at hn ⊢
   rw [gL H h (n + 1)]
   have:=lY H (bs:=srt.drop n) (pre:=srt.take n) (List.take_append_drop n srt).symm hn
   rwa [List.drop_drop] at this
end
theorem wH:∀ {r:List Bk} {b:Bk} {out:List Bk},(b :: r).Pairwise cO → (∀ c ∈ b :: r,0 < c.k) → eE (r.foldl bK ⟨b.i,b.j,b.k,out⟩) = out++b :: r
 | [],b,out,_,hk=>by
  have:=hk b (.head _)
  show eE ⟨b.i,b.j,b.k,out⟩ = _
  unfold eE
  rw [if_pos (by dsimp only;exact fun h9=>lN [_] [(1,.e V0 K0),(1,.t K0 V0)] (.c h9 (.c this .n)))]
 | c :: r,b,out,ho,hk=>by
  have hb:=hk b (.head _)
  have h1:=(List.pairwise_cons.mp ho).1 c (.head _)
  unfold cO at h1
  have e:bK ⟨b.i,b.j,b.k,out⟩ c = ⟨c.i,c.j,c.k,out++[b]⟩:=by
   unfold bK
   rw [if_neg h1.2.2,if_pos (by dsimp only;exact fun h9=>lN [_] [(1,.e V0 K0),(1,.t K0 V0)] (.c h9 (.c hb .n)))]
  rw [List.foldl_cons,e,wH (List.pairwise_cons.mp ho).2 fun d hd=>hk d (.tail _ hd)]
  simp
theorem BC {srt:List Bk} (ho:srt.Pairwise cO) (hk:∀ c ∈ srt,0 < c.k):eE (xx srt srt.length) = srt:=by
 unfold xx
 rw [List.take_length]
 cases srt with
 | nil=>rfl
 | cons b r =>
  have e:bK ⟨0,0,0,[]⟩ b = ⟨b.i,b.j,b.k,[]⟩:=by
   unfold bK
   by_cases h:0 + 0 = b.i ∧ 0 + 0 = b.j
   ·rw [if_pos h]
    have h1:b.i = 0:=by exact aN (fun h9=>lN [_,0] [(1,.t K0 V0),(-1,.e (.a K0 K0) V0)] (.c h9 (.c h.1 .n))) (fun h9=>lN [_,0] [(1,.t V0 K0)] (.c h9 .n))
    have h2:b.j = 0:=by exact aN (fun h9=>lN [_,0] [(1,.t K0 V0),(-1,.e (.a K0 K0) V0)] (.c h9 (.c h.2 .n))) (fun h9=>lN [_,0] [(1,.t V0 K0)] (.c h9 .n))
    rw [h1,h2,Nat.zero_add]
   ·rw [if_neg h,if_neg (by decide)]
  rw [List.foldl_cons,e,wH ho hk,List.nil_append]
theorem xb {A B:List PySem.Str}:∀ {bs:List Bk} {i j:Nat} {out:List Op},((bs++[(⟨A.length,B.length,0⟩:Bk)]).foldl iQ ⟨i,j,out⟩).out = out++(aI i (aU A bs) j (aX B bs)++d6 A B bs)
 | [],i,j,out=>by
  show out++aI i A.length j B.length++bS ⟨A.length,B.length,0⟩ = _
  simp [bS,d6,aU,aX]
 | b :: r,i,j,out=>by
  show ((r++[(⟨A.length,B.length,0⟩:Bk)]).foldl iQ ⟨b.i + b.k,b.j + b.k,out++aI i b.i j b.j++bS b⟩).out = _
  rw [xb (A:=A) (B:=B)]
  show _ = out++(aI i b.i j b.j++(bS b++aI (b.i + b.k) (aU A r) (b.j + b.k) (aX B r)++d6 A B r))
  simp only [List.append_assoc]
theorem va {la lb:List (PySem.Str × Nat)} {srt:List Bk} (ho:srt.Pairwise cO) (hk:∀ c ∈ srt,0 < c.k) :
  (xz (cN la lb srt) (cN la lb srt).length).out = aI 0 (aU (la.map (·.1)) srt) 0 (aX (lb.map (·.1)) srt)++d6 (la.map (·.1)) (lb.map (·.1)) srt:=by
 unfold xz
 rw [List.take_length]
 unfold cN
 rw [BC ho hk]
 have:=xb (A:=la.map (·.1)) (B:=lb.map (·.1)) (bs:=srt) (i:=0) (j:=0) (out:=[])
 rw [List.length_map,List.length_map,List.nil_append] at this
 exact this
end
section
noncomputable def fB (i j:Nat):List Bk → List Bk
 | []=>[⟨i,j,1⟩]
 | b :: t=>if b.i = i + 1 ∧ b.j = j + 1 then ⟨i,j,b.k + 1⟩ :: t else ⟨i,j,1⟩ :: b :: t
theorem fc {i j:Nat} {b:Bk} {t:List Bk} (h:b.i = i + 1 ∧ b.j = j + 1):fB i j (b :: t) = ⟨i,j,b.k + 1⟩ :: t:=if_pos h
theorem fp {i j:Nat} {b:Bk} {t:List Bk} (h:¬ (b.i = i + 1 ∧ b.j = j + 1)):fB i j (b :: t) = ⟨i,j,1⟩ :: b :: t:=if_neg h
noncomputable def fL:List aK → Nat → Nat → List Bk
 | [],_,_=>[]
 | e :: r,i,j=>match e.m0,e.m1 with
  | some x,some y=>if x = y then fB i j (fL r (i + 1) (j + 1)) else fL r (i + 1) (j + 1)
  | some _,none=>fL r (i + 1) j
  | none,some _=>fL r i (j + 1)
  | none,none=>fL r i j
structure kE (A B:List PySem.Str) (i j:Nat) (s:List Bk):Prop where
 ins:∀ b ∈ s,0 < b.k ∧ i ≤ b.i ∧ b.i + b.k ≤ i + A.length ∧ j ≤ b.j ∧ b.j + b.k ≤ j + B.length
 ord:s.Pairwise cO
 mat:∀ p q x,A[p]? = some x → B[q]? = some x → ∃ b ∈ s,tV b (i + p) (j + q)
 con:∀ b ∈ s,∀ d,d < b.k → ∀ p q,i + p = b.i + d → j + q = b.j + d → A[p]? = B[q]?
theorem gQ {A B:List PySem.Str} {i j:Nat} {s:List Bk} {x:PySem.Str} (R:kE A B (i + 1) j s) (hx:x ∉ B):kE (x :: A) B i j s where
 ins:=fun b hb=>by
  have:=R.ins b hb
  rw [List.length_cons];exact ⟨aA fun h9=>lN [_,0,0,0,0,0,0] [(1,.l V0 K0),(1,.t K0 V0)] (.c h9 (.c this.1 .n)),⟨ae fun h9=>lN [_,_,0,0,0,0,0] [(1,.t V0 V1),(1,.l (.a V1 K1) V0)] (.c h9 (.c this.2.1 .n)),⟨ae fun h9=>lN [_,_,_,_,0,0,0] [(1,.t (.a V0 (.a V1 K1)) (.a V2 V3)),(1,.l (.a V2 V3) (.a (.a V0 K1) V1))] (.c h9 (.c this.2.2.1 .n)),⟨ae fun h9=>lN [_,_,0,0,0,0,0] [(1,.t V0 V1),(1,.l V1 V0)] (.c h9 (.c this.2.2.2.1 .n)),ae fun h9=>lN [_,_,_,_,0,0,0] [(1,.t (.a V0 V1) (.a V2 V3)),(1,.l (.a V2 V3) (.a V0 V1))] (.c h9 (.c this.2.2.2.2 .n))⟩⟩⟩⟩
 ord:=R.ord
 mat:=fun p q z h1 h2=>by
  cases p with
  | zero =>
   exfalso
   have:z = x:=by simpa using h1.symm
   subst this
   exact hx (List.mem_of_getElem? h2)
  | succ p =>
   obtain ⟨b,hb,d,d1,d2,d3⟩:=R.mat p q z (by simpa using h1) h2
   exact ⟨b,hb,d,d1,by exact aN (fun h9=>lN [_,_,_,_] [(1,.t (.a V0 V1) (.a V2 (.a V3 K1))),(1,.e (.a (.a V2 K1) V3) (.a V0 V1))] (.c h9 (.c d2 .n))) (fun h9=>lN [_,_,_,_] [(1,.t (.a V0 (.a V1 K1)) (.a V2 V3)),(-1,.e (.a (.a V0 K1) V1) (.a V2 V3))] (.c h9 (.c d2 .n))),d3⟩
 con:=fun b hb d hd p q h1 h2=>by
  have:=R.ins b hb
  cases p with
  | zero=>exact (lN [0,0,0,_,0,_,_,0,0] [(1,.l (.a V5 K1) V6),(-1,.e (.a V5 K0) (.a V6 V3))] (.c this.2.1 (.c h1 .n))).elim
  | succ p =>
   rw [List.getElem?_cons_succ]
   exact R.con b hb d hd p q (by exact aN (fun h9=>lN [_,_,_,_,0,0,0] [(1,.t (.a V0 V1) (.a (.a V2 K1) V3)),(1,.e (.a V2 (.a V3 K1)) (.a V0 V1))] (.c h9 (.c h1 .n))) (fun h9=>lN [_,_,_,_,0,0,0] [(1,.t (.a (.a V0 K1) V1) (.a V2 V3)),(-1,.e (.a V0 (.a V1 K1)) (.a V2 V3))] (.c h9 (.c h1 .n)))) h2
theorem gb {A B:List PySem.Str} {i j:Nat} {s:List Bk} {x:PySem.Str} (R:kE A B i (j + 1) s) (hx:x ∉ A):kE A (x :: B) i j s where
 ins:=fun b hb=>by
  have:=R.ins b hb
  rw [List.length_cons];exact ⟨aA fun h9=>lN [_,0,0,0,0,0,0] [(1,.l V0 K0),(1,.t K0 V0)] (.c h9 (.c this.1 .n)),⟨ae fun h9=>lN [_,_,0,0,0,0,0] [(1,.t V0 V1),(1,.l V1 V0)] (.c h9 (.c this.2.1 .n)),⟨ae fun h9=>lN [_,_,_,_,0,0,0] [(1,.t (.a V0 V1) (.a V2 V3)),(1,.l (.a V2 V3) (.a V0 V1))] (.c h9 (.c this.2.2.1 .n)),⟨ae fun h9=>lN [_,_,0,0,0,0,0] [(1,.t V0 V1),(1,.l (.a V1 K1) V0)] (.c h9 (.c this.2.2.2.1 .n)),ae fun h9=>lN [_,_,_,_,0,0,0] [(1,.t (.a V0 (.a V1 K1)) (.a V2 V3)),(1,.l (.a V2 V3) (.a (.a V0 K1) V1))] (.c h9 (.c this.2.2.2.2 .n))⟩⟩⟩⟩
 ord:=R.ord
 mat:=fun p q z h1 h2=>by
  cases q with
  | zero =>
   exfalso
   have:z = x:=by simpa using h2.symm
   subst this
   exact hx (List.mem_of_getElem? h1)
  | succ q =>
   obtain ⟨b,hb,d,d1,d2,d3⟩:=R.mat p q z h1 (by simpa using h2)
   exact ⟨b,hb,d,d1,d2,by exact aN (fun h9=>lN [_,_,_,_,0,0,0] [(1,.t (.a V0 V1) (.a V2 (.a V3 K1))),(1,.e (.a (.a V2 K1) V3) (.a V0 V1))] (.c h9 (.c d3 .n))) (fun h9=>lN [_,_,_,_,0,0,0] [(1,.t (.a V0 (.a V1 K1)) (.a V2 V3)),(-1,.e (.a (.a V0 K1) V1) (.a V2 V3))] (.c h9 (.c d3 .n)))⟩
 con:=fun b hb d hd p q h1 h2=>by
  have:=R.ins b hb
  cases q with
  | zero=>exact (lN [0,0,0,_,0,0,_,_,0] [(1,.l (.a V6 K1) V7),(-1,.e (.a V6 K0) (.a V7 V3))] (.c this.2.2.2.1 (.c h2 .n))).elim
  | succ q =>
   rw [List.getElem?_cons_succ]
   exact R.con b hb d hd p q h1 (by exact aN (fun h9=>lN [_,_,_,_,0,0,0] [(1,.t (.a V0 V1) (.a (.a V2 K1) V3)),(1,.e (.a V2 (.a V3 K1)) (.a V0 V1))] (.c h9 (.c h2 .n))) (fun h9=>lN [_,_,_,_,0,0,0] [(1,.t (.a (.a V0 K1) V1) (.a V2 V3)),(-1,.e (.a V0 (.a V1 K1)) (.a V2 V3))] (.c h9 (.c h2 .n))))
theorem me {i j:Nat} {s:List Bk} {b:Bk} (h:b ∈ fB i j s):(b = ⟨i,j,1⟩) ∨ (∃ c ∈ s,c.i = i + 1 ∧ c.j = j + 1 ∧ b = ⟨i,j,c.k + 1⟩) ∨ b ∈ s:=by
 cases s with
 | nil=>exact .inl (List.mem_singleton.mp h)
 | cons c t =>
  by_cases hc:c.i = i + 1 ∧ c.j = j + 1
  ·rw [fc hc] at h
   rcases ag h with rfl | h
   ·exact .inr (.inl ⟨c,.head _,hc.1,hc.2,rfl⟩)
   ·exact .inr (.inr (.tail _ h))
  ·rw [fp hc] at h
   rcases ag h with rfl | h
   ·exact .inl rfl
   ·exact .inr (.inr h)
theorem nr {i j:Nat} {s:List Bk}:∃ k,(⟨i,j,k⟩:Bk) ∈ fB i j s ∧ 0 < k:=by
 cases s with
 | nil=>exact ⟨1,.head _,by decide⟩
 | cons c t =>
  by_cases hc:c.i = i + 1 ∧ c.j = j + 1
  ·rw [fc hc];exact ⟨_,.head _,Nat.succ_pos _⟩
  ·rw [fp hc];exact ⟨1,.head _,by decide⟩
theorem wk {i j:Nat} {s:List Bk} {c:Bk} (h:c ∈ s) (hj:∀ b ∈ s,i + 1 ≤ b.i ∧ j + 1 ≤ b.j) {p q:Nat} (hc:tV c p q):∃ b ∈ fB i j s,tV b p q:=by
 cases s with
 | nil=>cases h
 | cons a t =>
  by_cases ha:a.i = i + 1 ∧ a.j = j + 1
  ·rw [fc ha]
   rcases ag h with rfl | h
   ·obtain ⟨d,d1,d2,d3⟩:=hc
    exact ⟨_,.head _,d + 1,by show d + 1 < c.k + 1;exact aA fun h9=>lN [_,_] [(1,.l (.a V0 K1) (.a V1 K1)),(1,.t V1 V0)] (.c h9 (.c d1 .n)),by show p = i + (d + 1);exact aN (fun h9=>lN [_,_,_,_,0,0] [(1,.t (.a V0 (.a V1 K1)) V2),(1,.e V3 (.a V0 K1)),(1,.e V2 (.a V3 V1))] (.c h9 (.c ha.1 (.c d2 .n)))) (fun h9=>lN [_,_,_,_,0,0] [(1,.t V0 (.a V1 (.a V2 K1))),(-1,.e V3 (.a V1 K1)),(-1,.e V0 (.a V3 V2))] (.c h9 (.c ha.1 (.c d2 .n)))),by show q = j + (d + 1);exact aN (fun h9=>lN [_,_,_,0,0,_] [(1,.t (.a V0 (.a V1 K1)) V2),(1,.e V5 (.a V0 K1)),(1,.e V2 (.a V5 V1))] (.c h9 (.c ha.2 (.c d3 .n)))) (fun h9=>lN [_,_,_,0,0,_] [(1,.t V0 (.a V1 (.a V2 K1))),(-1,.e V5 (.a V1 K1)),(-1,.e V0 (.a V5 V2))] (.c h9 (.c ha.2 (.c d3 .n))))⟩
   ·exact ⟨c,.tail _ h,hc⟩
  ·rw [fp ha];exact ⟨c,.tail _ h,hc⟩
theorem ue {A B:List PySem.Str} {i j:Nat} {s:List Bk} {x:PySem.Str} (R:kE A B (i + 1) (j + 1) s) (hA:x ∉ A) (hB:x ∉ B):kE (x :: A) (x :: B) i j (fB i j s) where
 ins:=fun b hb=>by
  rw [List.length_cons,List.length_cons]
  rcases me hb with rfl | ⟨c,hc,c1,c2,rfl⟩ | hb
  ·dsimp only;exact ⟨aA fun h9=>lN [] [(1,.l K1 K0)] (.c h9 .n),⟨ae fun h9=>lN [_] [(1,.t V0 V0)] (.c h9 .n),⟨ae fun h9=>lN [_,_] [(1,.t (.a V0 (.a V1 K1)) (.a V0 K1))] (.c h9 .n),⟨ae fun h9=>lN [_] [(1,.t V0 V0)] (.c h9 .n),ae fun h9=>lN [_,_] [(1,.t (.a V0 (.a V1 K1)) (.a V0 K1))] (.c h9 .n)⟩⟩⟩⟩
  ·have:=R.ins c hc
   dsimp only;exact ⟨aA fun h9=>lN [_,0,0,0,0,0,0] [(1,.l (.a V0 K1) K0)] (.c h9 .n),⟨ae fun h9=>lN [_,0,0,0,0,0,0] [(1,.t V0 V0)] (.c h9 .n),⟨ae fun h9=>lN [_,_,_,_,0,0,0] [(1,.t (.a V0 (.a V1 K1)) (.a V0 (.a V2 K1))),(-1,.e V3 (.a V0 K1)),(1,.l (.a V3 V2) (.a (.a V0 K1) V1))] (.c h9 (.c c1 (.c this.2.2.1 .n))),⟨ae fun h9=>lN [_,0,0,0,0,0,0] [(1,.t V0 V0)] (.c h9 .n),ae fun h9=>lN [_,_,_,0,0,_,0] [(1,.t (.a V0 (.a V1 K1)) (.a V0 (.a V2 K1))),(-1,.e V5 (.a V0 K1)),(1,.l (.a V5 V2) (.a (.a V0 K1) V1))] (.c h9 (.c c2 (.c this.2.2.2.2 .n)))⟩⟩⟩⟩
  ·have:=R.ins b hb
   exact ⟨aA fun h9=>lN [_,0,0,0,0,0,0] [(1,.l V0 K0),(1,.t K0 V0)] (.c h9 (.c this.1 .n)),⟨ae fun h9=>lN [_,_,0,0,0,0,0] [(1,.t V0 V1),(1,.l (.a V1 K1) V0)] (.c h9 (.c this.2.1 .n)),⟨ae fun h9=>lN [_,_,_,_,0,0,0] [(1,.t (.a V0 (.a V1 K1)) (.a V2 V3)),(1,.l (.a V2 V3) (.a (.a V0 K1) V1))] (.c h9 (.c this.2.2.1 .n)),⟨ae fun h9=>lN [_,_,0,0,0,0,0] [(1,.t V0 V1),(1,.l (.a V1 K1) V0)] (.c h9 (.c this.2.2.2.1 .n)),ae fun h9=>lN [_,_,_,_,0,0,0] [(1,.t (.a V0 (.a V1 K1)) (.a V2 V3)),(1,.l (.a V2 V3) (.a (.a V0 K1) V1))] (.c h9 (.c this.2.2.2.2 .n))⟩⟩⟩⟩
 ord:=by
  cases s with
  | nil=>exact List.pairwise_singleton _ _
  | cons a t =>
   have ho:=List.pairwise_cons.mp R.ord
   have ha:=R.ins a (.head _)
   by_cases hc:a.i = i + 1 ∧ a.j = j + 1
   ·rw [fc hc]
    refine List.pairwise_cons.mpr ⟨fun c hc'=>?_,ho.2⟩
    have:=ho.1 c hc'
    unfold cO at this ⊢
    dsimp only
    exact ⟨ae fun h9=>lN [_,_,_,_,0,0,0] [(1,.t V0 (.a V1 (.a V2 K1))),(-1,.e V3 (.a V1 K1)),(1,.l (.a V3 V2) V0)] (.c h9 (.c hc.1 (.c this.1 .n))),⟨ae fun h9=>lN [_,_,_,0,0,_,0] [(1,.t V0 (.a V1 (.a V2 K1))),(-1,.e V5 (.a V1 K1)),(1,.l (.a V5 V2) V0)] (.c h9 (.c hc.2 (.c this.2.1 .n))),(fun h2=>(absurd ⟨aN (fun h9=>lN [_,_,_,_,0,0,0] [(1,.t V0 (.a V1 V2)),(1,.e (.a V3 (.a V2 K1)) V0),(1,.e V1 (.a V3 K1))] (.c h9 (.c h2.1 (.c hc.1 .n)))) (fun h9=>lN [_,_,_,_,0,0,0] [(1,.t (.a V0 V1) V2),(-1,.e (.a V3 (.a V1 K1)) V2),(-1,.e V0 (.a V3 K1))] (.c h9 (.c h2.1 (.c hc.1 .n)))),aN (fun h9=>lN [_,_,_,0,0,_,0] [(1,.t V0 (.a V1 V2)),(1,.e (.a V5 (.a V2 K1)) V0),(1,.e V1 (.a V5 K1))] (.c h9 (.c h2.2 (.c hc.2 .n)))) (fun h9=>lN [_,_,_,0,0,_,0] [(1,.t (.a V0 V1) V2),(-1,.e (.a V5 (.a V1 K1)) V2),(-1,.e V0 (.a V5 K1))] (.c h9 (.c h2.2 (.c hc.2 .n))))⟩ this.2.2))⟩⟩
   ·rw [fp hc]
    refine List.pairwise_cons.mpr ⟨fun c hc'=>?_,R.ord⟩
    have h1:a = c ∨ cO a c:=by
     rcases ag hc' with rfl | h
     ·exact .inl rfl
     ·exact .inr (ho.1 c h)
    unfold cO at h1 ⊢
    dsimp only
    rcases h1 with rfl | h1 <;> omega
 mat:=fun p q z h1 h2=>by
  cases p with
  | zero =>
   have hz:z = x:=by simpa using h1.symm
   subst hz
   cases q with
   | zero =>
    obtain ⟨k,hk,h0⟩:=nr (i:=i) (j:=j) (s:=s)
    exact ⟨_,hk,0,h0,rfl,rfl⟩
   | succ q=>exact (hB (List.mem_of_getElem? (by simpa using h2))).elim
  | succ p =>
   cases q with
   | zero =>
    have hz:z = x:=by simpa using h2.symm
    subst hz
    exact (hA (List.mem_of_getElem? (by simpa using h1))).elim
   | succ q =>
    obtain ⟨c,hc,hi⟩:=R.mat p q z (by simpa using h1) (by simpa using h2)
    have:=wk hc (fun b hb=>⟨(R.ins b hb).2.1,(R.ins b hb).2.2.2.1⟩) hi
    rw [show i + (p + 1) = i + 1 + p by exact aN (fun h9=>lN [_,_] [(1,.t (.a (.a V0 K1) V1) (.a V0 (.a V1 K1)))] (.c h9 .n)) (fun h9=>lN [_,_] [(1,.t (.a V0 (.a V1 K1)) (.a (.a V0 K1) V1))] (.c h9 .n)),show j + (q + 1) = j + 1 + q by exact aN (fun h9=>lN [_,_] [(1,.t (.a (.a V0 K1) V1) (.a V0 (.a V1 K1)))] (.c h9 .n)) (fun h9=>lN [_,_] [(1,.t (.a V0 (.a V1 K1)) (.a (.a V0 K1) V1))] (.c h9 .n))]
    exact this
 con:=fun b hb d hd p q h1 h2=>by
  have old:∀ c ∈ s,∀ d,d < c.k → ∀ p q,i + p = c.i + d → j + q = c.j + d → (x :: A)[p]? = (x :: B)[q]?:=fun c hc d hd p q h1 h2=>by
   have:=R.ins c hc
   cases p with
   | zero=>exact (lN [0,0,0,_,0,_,_,0,0] [(1,.l (.a V5 K1) V6),(-1,.e (.a V5 K0) (.a V6 V3))] (.c this.2.1 (.c h1 .n))).elim
   | succ p =>
    cases q with
    | zero=>exact (lN [0,0,0,0,_,_,0,_] [(1,.l (.a V4 K1) V5),(-1,.e (.a V4 K0) (.a V5 V7))] (.c this.2.2.2.1 (.c h2 .n))).elim
    | succ q =>
     rw [List.getElem?_cons_succ,List.getElem?_cons_succ]
     exact R.con c hc d hd p q (by exact aN (fun h9=>lN [_,_,_,_,0,0,0,0,0,0] [(1,.t (.a V0 V1) (.a (.a V2 K1) V3)),(1,.e (.a V2 (.a V3 K1)) (.a V0 V1))] (.c h9 (.c h1 .n))) (fun h9=>lN [_,_,_,_,0,0,0,0,0,0] [(1,.t (.a (.a V0 K1) V1) (.a V2 V3)),(-1,.e (.a V0 (.a V1 K1)) (.a V2 V3))] (.c h9 (.c h1 .n)))) (by exact aN (fun h9=>lN [_,_,_,_] [(1,.t (.a V0 V1) (.a (.a V2 K1) V3)),(1,.e (.a V2 (.a V3 K1)) (.a V0 V1))] (.c h9 (.c h2 .n))) (fun h9=>lN [_,_,_,_] [(1,.t (.a (.a V0 K1) V1) (.a V2 V3)),(-1,.e (.a V0 (.a V1 K1)) (.a V2 V3))] (.c h9 (.c h2 .n))))
  rcases me hb with rfl | ⟨c,hc,c1,c2,rfl⟩ | hb
  ·dsimp only at hd h1 h2
   have e1:p = 0:=by exact aN (fun h9=>lN [_,_,_] [(1,.t K0 V0),(1,.t V1 K1),(1,.e (.a V2 V0) (.a V2 V1))] (.c h9 (.c hd (.c h1 .n)))) (fun h9=>lN [_,0,0] [(1,.t V0 K0)] (.c h9 .n))
   have e2:q = 0:=by exact aN (fun h9=>lN [_,_,_] [(1,.t K0 V0),(1,.t V1 K1),(1,.e (.a V2 V0) (.a V2 V1))] (.c h9 (.c hd (.c h2 .n)))) (fun h9=>lN [_,0,0] [(1,.t V0 K0)] (.c h9 .n))
   subst e1;subst e2;rfl
  ·dsimp only at hd h1 h2
   cases d with
   | zero =>
    have e1:p = 0:=by exact aN (fun h9=>lN [_,_] [(1,.t K0 V0),(1,.e (.a V1 V0) (.a V1 K0))] (.c h9 (.c h1 .n))) (fun h9=>lN [_,0] [(1,.t V0 K0)] (.c h9 .n))
    have e2:q = 0:=by exact aN (fun h9=>lN [_,_] [(1,.t K0 V0),(1,.e (.a V1 V0) (.a V1 K0))] (.c h9 (.c h2 .n))) (fun h9=>lN [_,0] [(1,.t V0 K0)] (.c h9 .n))
    subst e1;subst e2;rfl
   | succ d=>exact old c hc d (by exact aA fun h9=>lN [_,_,0,0,0,0] [(1,.l V0 V1),(1,.t (.a V1 K1) (.a V0 K1))] (.c h9 (.c hd .n))) p q (by exact aN (fun h9=>lN [_,_,_,_] [(1,.t (.a V0 V1) (.a V2 V3)),(-1,.e V0 (.a V2 K1)),(1,.e (.a V2 V3) (.a V2 (.a V1 K1)))] (.c h9 (.c c1 (.c h1 .n)))) (fun h9=>lN [_,_,_,_] [(1,.t (.a V0 V1) (.a V2 V3)),(1,.e V2 (.a V0 K1)),(-1,.e (.a V0 V1) (.a V0 (.a V3 K1)))] (.c h9 (.c c1 (.c h1 .n))))) (by exact aN (fun h9=>lN [_,_,_,_,0,0] [(1,.t (.a V0 V1) (.a V2 V3)),(-1,.e V0 (.a V2 K1)),(1,.e (.a V2 V3) (.a V2 (.a V1 K1)))] (.c h9 (.c c2 (.c h2 .n)))) (fun h9=>lN [_,_,_,_,0,0] [(1,.t (.a V0 V1) (.a V2 V3)),(1,.e V2 (.a V0 K1)),(-1,.e (.a V0 V1) (.a V0 (.a V3 K1)))] (.c h9 (.c c2 (.c h2 .n)))))
  ·exact old b hb d hd p q h1 h2
noncomputable def eZ (i j:Nat):List Bk → Prop
 | b :: _=>b.i = i ∧ b.j = j
 | []=>False
structure DI (n i j:Nat) (s:List Bk):Prop where
 at_:eZ i j s → 2 * s.length ≤ n + 1
 off:¬ eZ i j s → 2 * s.length ≤ n
theorem gh {n i j i' j':Nat} {s:List Bk} (h:DI n i' j' s) (hne:¬ eZ i j s):DI (n + 1) i j s where
 at_:=fun h'=>(hne h').elim
 off:=fun _=>by
  by_cases a:eZ i' j' s
  ·have:=h.at_ a;exact ae fun h9=>lN [_,_] [(1,.t (.a V0 K1) (.m 2 V1)),(1,.l (.m 2 V1) (.a V0 K1))] (.c h9 (.c this .n))
  ·have:=h.off a;exact ae fun h9=>lN [_,_] [(1,.t (.a V0 K1) (.m 2 V1)),(1,.l (.m 2 V1) V0)] (.c h9 (.c this .n))
theorem wh {n i j:Nat} {s:List Bk} (h:DI n (i + 1) (j + 1) s):DI (n + 1) i j (fB i j s) where
 at_:=fun _=>by
  cases s with
  | nil=>show 2 * 1 ≤ _;exact ae fun h9=>lN [_] [(1,.t (.a (.a V0 K1) K1) (.m 2 K1))] (.c h9 .n)
  | cons b t =>
   by_cases hc:b.i = i + 1 ∧ b.j = j + 1
   ·rw [fc hc]
    have:=h.at_ hc
    simp only [List.length_cons] at this ⊢
    exact ae fun h9=>lN [_,_] [(1,.t (.a (.a V0 K1) K1) (.m 2 (.a V1 K1))),(1,.l (.m 2 (.a V1 K1)) (.a V0 K1))] (.c h9 (.c this .n))
   ·rw [fp hc]
    have:=h.off hc
    simp only [List.length_cons] at this ⊢
    exact ae fun h9=>lN [_,_] [(1,.t (.a (.a V0 K1) K1) (.m 2 (.a (.a V1 K1) K1))),(1,.l (.m 2 (.a V1 K1)) V0)] (.c h9 (.c this .n))
 off:=fun hn=>by
  exfalso
  apply hn
  cases s with
  | nil=>exact ⟨rfl,rfl⟩
  | cons b t =>
   by_cases hc:b.i = i + 1 ∧ b.j = j + 1
   ·rw [fc hc];exact ⟨rfl,rfl⟩
   ·rw [fp hc];exact ⟨rfl,rfl⟩
theorem gf {A B:List PySem.Str} {i j i' j':Nat} {s:List Bk} (R:kE A B i' j' s) (h:i < i' ∨ j < j'):¬ eZ i j s:=by
 cases s with
 | nil=>exact fun h=>h
 | cons b t =>
  intro hc
  have:=R.ins b (.head _)
  obtain ⟨c1,c2⟩:=hc
  exact (h).elim (fun h2=>lN [0,_,_,0,0,0,0,_,0] [(1,.l V1 V2),(1,.e V2 V7),(1,.t V7 V1)] (.c this.2.1 (.c c1 (.c h2 .n)))) (fun h2=>lN [0,0,0,0,_,_,0,0,_] [(1,.l V4 V5),(1,.e V5 V8),(1,.t V8 V4)] (.c this.2.2.2.1 (.c c2 (.c h2 .n))))
theorem rN {es:List aK} (hok:∀ e ∈ es,bc e) {e:aK} (he:bc e) (hp:e.parts ∉ es.map (·.parts)) {x side:Int} (hx:0 ≤ x ∧ x < 512) (hs:side = 0 ∨ side = 1):aT e x ∉ bv es side:=by
 intro hm
 obtain ⟨e',he',x',hm',heq⟩:=sK hm
 have ho:=hok e' he'
 have hx':=jY ho hs hm'
 have:=(tu he ho hx.1 hx.2 hx'.1 hx'.2 heq).1
 exact hp (by rw [this];exact List.mem_map_of_mem he')
theorem eI (e:aK) (r:List aK) (side:Int):bv (e :: r) side = (match aD e side with | some x=>[aT e x] | none=>[])++bv r side:=rfl
theorem eB:∀ {es:List aK} {i j:Nat},(∀ e ∈ es,bc e) → (es.map (·.parts)).Nodup → kE (bv es 0) (bv es 1) i j (fL es i j) ∧ DI es.length i j (fL es i j)
 | [],i,j,_,_=>⟨⟨(fun b h=>nomatch h),.nil,(fun p q x h=>by cases h),(fun b h=>nomatch h)⟩,⟨fun h=>h.elim,fun _=>Nat.le_refl _⟩⟩
 | e :: r,i,j,hok,hnd=>by
  have he:=hok e (.head _)
  have hr:∀ a ∈ r,bc a:=fun a ha=>hok a (.tail _ ha)
  rw [List.map_cons,List.nodup_cons] at hnd
  have hno:∀ {x side:Int},0 ≤ x ∧ x < 512 → (side = 0 ∨ side = 1) → aT e x ∉ bv r side:=fun hx hs=>rN hr he hnd.1 hx hs
  rw [eI,eI]
  unfold fL aD
  rw [if_pos rfl,if_neg (by decide)]
  cases hm0:e.m0 with
  | none =>
   cases hm1:e.m1 with
   | none=>exact absurd he.one (by rw [hm0,hm1];decide)
   | some y =>
    have hy:=he.m1 y hm1
    have ih:=eB (i:=i) (j:=j + 1) hr hnd.2
    exact ⟨gb ih.1 (hno hy (.inl rfl)),gh ih.2 (gf ih.1 (.inr (Nat.lt_succ_self j)))⟩
  | some x =>
   have hx:=he.m0 x hm0
   cases hm1:e.m1 with
   | none =>
    have ih:=eB (i:=i + 1) (j:=j) hr hnd.2
    exact ⟨gQ ih.1 (hno hx (.inr rfl)),gh ih.2 (gf ih.1 (.inl (Nat.lt_succ_self i)))⟩
   | some y =>
    have hy:=he.m1 y hm1
    have ih:=eB (i:=i + 1) (j:=j + 1) hr hnd.2
    dsimp only
    split
    ·rename_i hxy
     subst hxy
     exact ⟨ue ih.1 (hno hx (.inl rfl)) (hno hx (.inr rfl)),wh ih.2⟩
    ·rename_i hxy
     refine ⟨?_,gh ih.2 (gf ih.1 (.inl (Nat.lt_succ_self i)))⟩
     refine gQ (gb (i:=i + 1) ih.1 (hno hy (.inl rfl))) ?_
     intro hm
     rcases ag hm with h | h
     ·exact hxy (tu he he hx.1 hx.2 hy.1 hy.2 h).2
     ·exact hno hx (.inr rfl) h
theorem rx {side:Int} (hs:side = 0 ∨ side = 1):∀ {es:List aK},(∀ e ∈ es,bc e) → (es.map (·.parts)).Nodup → (bv es side).Nodup
 | [],_,_=>List.nodup_nil
 | e :: r,hok,hnd=>by
  have hr:∀ a ∈ r,bc a:=fun a ha=>hok a (.tail _ ha)
  rw [List.map_cons,List.nodup_cons] at hnd
  rw [eI]
  have ih:=rx hs hr hnd.2
  cases hm:aD e side with
  | none=>exact ih
  | some x =>
   exact List.nodup_cons.mpr ⟨rN hr (hok e (.head _)) hnd.1 (jY (hok e (.head _)) hs hm) hs,ih⟩
theorem pD {side:Int}:∀ (es:List aK),(bv es side).length ≤ es.length
 | []=>Nat.le_refl _
 | e :: r=>by
  rw [eI,List.length_append,List.length_cons]
  have:=pD (side:=side) r
  have h1:(match aD e side with | some x=>[aT e x] | none=>([]:List PySem.Str)).length ≤ 1:=by
   cases aD e side with
   | none=>exact Nat.zero_le _
   | some x=>exact Nat.le_refl _
  exact ae fun h9=>lN [_,_,_] [(1,.t (.a V0 K1) (.a V1 V2)),(1,.l V2 V0),(1,.l V1 K1)] (.c h9 (.c this (.c h1 .n)))
theorem vV {A B:List PySem.Str} {s:List Bk} (R:kE A B 0 0 s):bB A B ⟨0,A.length,0,B.length⟩ s where
 le:=⟨Nat.zero_le _,Nat.le_refl _,Nat.le_refl _⟩
 ins:=fun b hb=>by
  have:=R.ins b hb
  dsimp only
  exact ⟨aA fun h9=>lN [_,0,0,0,0] [(1,.l V0 K0),(1,.t K0 V0)] (.c h9 (.c this.1 .n)),⟨ae fun h9=>lN [_,0,0,0,0] [(1,.t V0 K0)] (.c h9 .n),⟨ae fun h9=>lN [_,_,_,0,0] [(1,.t V0 (.a V1 V2)),(1,.l (.a V1 V2) (.a K0 V0))] (.c h9 (.c this.2.2.1 .n)),⟨ae fun h9=>lN [_,0,0,0,0] [(1,.t V0 K0)] (.c h9 .n),ae fun h9=>lN [_,_,_,0,0] [(1,.t V0 (.a V1 V2)),(1,.l (.a V1 V2) (.a K0 V0))] (.c h9 (.c this.2.2.2.2 .n))⟩⟩⟩⟩
 ord:=R.ord
 mat:=fun i j x _ _ _ _ h1 h2=>by
  have:=R.mat i j x h1 h2
  rwa [Nat.zero_add,Nat.zero_add] at this
 con:=fun b hb d hd=>R.con b hb d hd _ _ (Nat.zero_add _) (Nat.zero_add _)
theorem D4:d4 (Str.ofString "replace"):=by unfold d4;decide +kernel
theorem CN:d4 (Str.ofString "delete"):=by unfold d4;decide +kernel
theorem C1:d4 (Str.ofString "insert"):=by unfold d4;decide +kernel
theorem C7:d4 (Str.ofString "equal"):=by unfold d4;decide +kernel
theorem rY {i a j b:Nat}:∀ o ∈ aI i a j b,d4 o.tag:=by
 intro o ho
 unfold aI at ho
 split at ho
 ·rw [List.mem_singleton.mp ho];exact D4
 ·split at ho
  ·rw [List.mem_singleton.mp ho];exact CN
  ·split at ho
   ·rw [List.mem_singleton.mp ho];exact C1
   ·cases ho
theorem A5 {b:Bk}:∀ o ∈ bS b,d4 o.tag:=by
 intro o ho
 unfold bS at ho
 split at ho
 ·rw [List.mem_singleton.mp ho];exact C7
 ·cases ho
theorem mh {A B:List PySem.Str}:∀ {bs:List Bk},∀ o ∈ d6 A B bs,d4 o.tag
 | [],o,ho=>nomatch ho
 | b :: r,o,ho=>by
  unfold d6 at ho
  rcases aH ho with ho | ho
  ·rcases aH ho with ho | ho
   ·exact A5 o ho
   ·exact rY o ho
  ·exact mh o ho
theorem y9 {es:List aK} (h:ee es) {la lb:List (PySem.Str × Nat)} (ha:la.map (·.1) = bv es 0) (hb:lb.map (·.1) = bv es 1):∃ srt,Fz la lb srt ∧ gm (la.map (·.1)) (lb.map (·.1)) ∧ la.length ≤ 100 ∧ lb.length ≤ 100 ∧
  (∀ n,(la.map (·.1)).length ≤ (dn (la.map (·.1)) (lb.map (·.1)) n).i → (lb.map (·.1)).length ≤ (dn (la.map (·.1)) (lb.map (·.1)) n).j → (dn (la.map (·.1)) (lb.map (·.1)) n).ops = (xz (cN la lb srt) (cN la lb srt).length).out) ∧
  (∀ o ∈ (xz (cN la lb srt) (cN la lb srt).length).out,d4 o.tag):=by
 have hR:=eB (i:=0) (j:=0) h.ok h.nd
 have hW:bP (la.map (·.1)) (lb.map (·.1)) (fL es 0 0):=by
  rw [ha,hb]
  exact vV hR.1
 have hk:∀ c ∈ fL es 0 0,0 < c.k:=fun c hc=>(hW.ins c hc).1
 have l1:la.length ≤ 12:=by
  have:=pD (side:=0) es
  rw [← ha,List.length_map] at this
  exact Nat.le_trans this h.len
 have l2:lb.length ≤ 12:=by
  have:=pD (side:=1) es
  rw [← hb,List.length_map] at this
  exact Nat.le_trans this h.len
 refine ⟨fL es 0 0,⟨by rw [ha];exact rx (.inl rfl) h.ok h.nd,by rw [hb];exact rx (.inr rfl) h.ok h.nd,?_,?_⟩,yj hW,by exact ae fun h9=>lN [_] [(1,.t (.k 100) V0),(1,.l V0 (.k 12))] (.c h9 (.c l1 .n)),by exact ae fun h9=>lN [_] [(1,.t (.k 100) V0),(1,.l V0 (.k 12))] (.c h9 (.c l2 .n)),fun n h1 h2=>?_,fun o ho=>?_⟩
 ·have:=hW
  unfold bP at this
  rwa [List.length_map,List.length_map] at this
 ·have:=h.len
  by_cases a:eZ 0 0 (fL es 0 0)
  ·exact ae fun h9=>lN [_,_] [(2,.t (.k 6) V0),(1,.l (.m 2 V0) (.a V1 K1)),(1,.l V1 (.k 12))] (.c h9 (.c (hR.2.at_ a) (.c this .n)))
  ·exact ae fun h9=>lN [_,_] [(2,.t (.k 6) V0),(1,.l (.m 2 V0) V1),(1,.l V1 (.k 12))] (.c h9 (.c (hR.2.off a) (.c this .n)))
 ·rw [AY hW h1 h2,va hW.ord hk]
 ·rw [va hW.ord hk] at ho
  rcases aH ho with ho | ho
  ·exact rY o ho
  ·exact mh o ho
end
open PyProof.Rows.LCg PyProof.Rows.LCt
noncomputable abbrev tW (L a:Addr) (ccd:Value):Env:=envOfC (Str.ofString "law") (aY (bE pW 54)) L a ccd
noncomputable abbrev w6 (L a:Addr) (ccd:Value):Around:=callerA.deeper (tW L a ccd)
theorem zO (l:List (PySem.Str × Nat)) (y:PySem.Str) (t:Nat):strValues l++[.str y t] = strValues (l++[(y,t)]):=aS.symm
theorem dB {h₀ h:Heap} {L a b:Addr} {o1 o2:Obj} {led:List (Addr × Obj)} (N:News h₀ L h led) (h1:(a,o1) ∈ led) (h2:(b,o2) ∈ led) (hne:o1.data ≠ o2.data):a ≠ b:=by
 rintro rfl
 have e1:=(N _ h1).1
 have e2:=(N _ h2).1
 rw [e1] at e2
 exact hne (congrArg Obj.data (Option.some.inj e2))
theorem bO {vs:Array Value} {n:Nat} {o:Obj} {u:Option Value} (h:o.data = .cell u):(listOf vs n).data ≠ o.data:=by
 rw [h];exact fun e=>nomatch e
noncomputable def BM (led:List (Addr × Obj)) (v:Value) (l:List PySem.Str):Prop:=∃ (S n:Nat) (lv:List (PySem.Str × Nat)),v = .ref S ∧ (S,listOf (strValues lv).toArray n) ∈ led ∧ lv.map (·.1) = l
theorem Gf:gM BM:=⟨fun ⟨S,n,lv,a,b,c⟩ k=>⟨S,n,lv,a,k _ b,c⟩⟩
noncomputable def Cf (led:List (Addr × Obj)) (v:Value) (x:PySem.Str):Prop:=∃ t,v = .str x t
theorem FK:gM Cf:=⟨fun h _=>h⟩
noncomputable def iA (dl:List PySem.Str):List (List PySem.Str):=[ao (Str.ofString "- ") dl,ao (Str.ofString "+ ") dl,ao (Str.ofString "- ") dl,ao (Str.ofString "+ ") dl]
theorem Bg {i:Nat} {v:Value} {z:List PySem.Str} {dl:List PySem.Str} {a b c d:Nat} (hv:([.int 1 a,.int 2 b,.str (Str.ofString "1") c,.str (Str.ofString "2") d]:List Value)[i]? = some v) (hz:(iA dl)[i]? = some z):∃ tag,c7 v tag ∧ z = ao tag dl:=by
 match i with
 | 0=>cases hv;cases hz;exact ⟨_,⟨_,.inl ⟨rfl,rfl⟩⟩,rfl⟩
 | 1=>cases hv;cases hz;exact ⟨_,⟨_,.inr (.inl ⟨rfl,rfl⟩)⟩,rfl⟩
 | 2=>cases hv;cases hz;exact ⟨_,⟨_,.inr (.inr (.inl ⟨rfl,rfl⟩))⟩,rfl⟩
 | 3=>cases hv;cases hz;exact ⟨_,⟨_,.inr (.inr (.inr ⟨rfl,rfl⟩))⟩,rfl⟩
 | i + 4=>simp at hv
theorem ww {h₀ h:Heap} {L:Addr} {led objs:List (Addr × Obj)} (N:News h₀ L h led) (sub:∀ p ∈ objs,p ∈ led):∀ v x,BM objs v x → ∃ as,Reads h v (hX x) as:=by
 rintro v x ⟨S,n,lv,rfl,hm,rfl⟩
 exact ci N (sub _ hm)
theorem mT {h₀ h:Heap} {L D0 D1 S n k0 k1:Addr} {lv0 lv1:List (PySem.Str × Nat)} {led:List (Addr × Obj)} (N:News h₀ L h led) (h0:(D0,listOf (strValues lv0).toArray k0) ∈ led) (h1:(D1,listOf (strValues lv1).toArray k1) ∈ led) (hS:(S,listOf ([Value.ref D0,Value.ref D1]++[Value.ref D0,Value.ref D1]).toArray n) ∈ led) :
  ∃ as,Reads h (.ref S) (.list ([lv0.map (·.1),lv1.map (·.1),lv0.map (·.1),lv1.map (·.1)].map hX)) as:=by
 obtain ⟨a,ra⟩:=ci N h0
 obtain ⟨b,rb⟩:=ci N h1
 exact cu N hS ⟨_,.cons ra (.cons rb (.cons ra (.cons rb .nil)))⟩
theorem BS {i:Nat} {v:Value} {z:PySem.Str} {a b:Nat} (hv:([.int 0 a,.int 3 b]:List Value)[i]? = some v) (hz:([aQ 0,aQ 3]:List PySem.Str)[i]? = some z):∃ k t,(k = 0 ∨ k = 3) ∧ v = .int k t ∧ z = aQ k:=by
 match i with
 | 0=>cases hv;cases hz;exact ⟨_,_,.inl rfl,rfl,rfl⟩
 | 1=>cases hv;cases hz;exact ⟨_,_,.inr rfl,rfl,rfl⟩
 | i + 2=>simp at hv
theorem sJ {objs:List (Addr × Obj)}:∀ {ys:List Value} {xs:List PySem.Str},bL Cf objs ys xs → ∃ lv:List (PySem.Str × Nat),ys = strValues lv ∧ lv.map (·.1) = xs
 | [],xs,h=>by
  have:=h.1
  cases xs with
  | nil=>exact ⟨[],rfl,rfl⟩
  | cons=>simp at this
 | y :: ys,xs,h=>by
  obtain ⟨x,xs',rfl,⟨t,rfl⟩,b⟩:=my h
  obtain ⟨lv,rfl,rfl⟩:=sJ b
  exact ⟨(x,t) :: lv,rfl,rfl⟩
theorem zK:∀ x ∈ [aQ 0,aQ 3],d4 x:=by
 intro x hx
 simp only [List.mem_cons,List.not_mem_nil,or_false] at hx
 rcases hx with rfl | rfl
 ·show PySem.PyData.strOk (aQ 0) = true
  decide +kernel
 ·show PySem.PyData.strOk (aQ 3) = true
  decide +kernel
local macro_rules | `(tactic| k_mem)=>`(tactic| (refine yl ?_;first | ktr_member | exact aj (by ktr_member) | exact ac (by ktr_member)))
local macro_rules | `(tactic| k_all)=>`(tactic| with_reducible assumption)
local macro_rules | `(tactic| k_ne)=>`(tactic| (refine neN ?_;(try dsimp only);first | with_reducible assumption | (with_reducible rename (_ ≠ _ ∧ _)=>c9;first | exact c9.1 | exact c9.1.symm | (replace c9:=c9.2;k_ne) | (clear c9;k_ne)) | omega))
local macro_rules | `(tactic| walk_at "subscriptTail")=>`(tactic| (k_here;(with_reducible show wpAny _ _ (subscriptTail _ _ (.ref _) (.int _ _)) _ _ _);k_dflt (refine gy (by k_asm) (by k_mem) (by decide) (by decide) (by exact rfl) ?_ (by with_unfolding_all rfl);k_whole)))
section
open PyProof.Rows.LCg PyProof.Rows.LCt
theorem oB (n:Nat):max 0 (min (-1 + ((n + 1:Nat):Int)) ((n + 1:Nat):Int)) = (n:Int):=by
 rw [show (-1:Int) + ((n + 1:Nat):Int) = n from (congrArg (fun z=>(-1:Int) + z) (Int.add_comm (n:Int) 1)).trans (Int.neg_add_cancel_left 1 n),Int.min_eq_left (Int.ofNat_le.mpr (Nat.le_succ n)),Int.max_eq_right (Int.natCast_nonneg n)]
theorem pL:∀ n:Nat,sliceBounds none (some (-1)) none n = (((0:Nat):Int),(((n - (-(-1:Int)).toNat:Nat):Nat):Int),1)
 | 0=>rfl
 | n + 1=>by
  show (((0:Nat):Int),max 0 (min (-1 + ((n + 1:Nat):Int)) ((n + 1:Nat):Int)),(1:Int)) = _
  rw [oB];rfl
theorem uB {lq:List (PySem.Str × Nat)}:slicePick (strValues lq).toArray none (some (-1)) none = (strValues lq.dropLast).toArray:=by
 rw [kmk_pick_nat _ (pL _)]
 show (((strValues lq).drop 0).take ((strValues lq).toArray.size - 1 - 0)).toArray = _
 rw [List.drop_zero,Nat.sub_zero,List.size_toArray,← List.dropLast_eq_take]
 unfold strValues
 rw [List.map_dropLast]
theorem xV {es:List aK} {i:Nat} {e:aK} {x:Int} (he:es[i]? = some e) (hm:e.m0 = some x):cQ (es.take (i + 1)) = cQ (es.take i)++[Dg e]:=by
 unfold cQ;rw [List.take_add_one,he,List.flatMap_append];simp [hm]
theorem yG {es:List aK} {i:Nat} {e:aK} (he:es[i]? = some e) (hm:e.m0 = none):cQ (es.take (i + 1)) = cQ (es.take i):=by
 unfold cQ;rw [List.take_add_one,he,List.flatMap_append];simp [hm]
theorem yh {k:Nat}:∀ i,i < ((ft k).push .finished).size → ((ft k).push .finished)[i]? = some .finished:=by
 intro i hi
 rw [iF] at hi ⊢
 unfold ft at hi ⊢
 rw [Array.size_replicate] at hi
 rw [Array.getElem?_replicate,if_pos hi]
theorem tE {w:World} {mean:ExcName → Option Value} {mg mb:PySem.Str → Option Value} {a L Bq nB LD D0 D1 D k0 k1 kd:Addr} {ccd:Value} {base h₀:Heap} {m:PySem.Str → Option Value} {s:Shared} {ys:List Value} {nw:List (Addr × Obj)} {oC:Obj} {es:List aK} {lv0 lv1 lvd:List (PySem.Str × Nat)} {Q:Flow → Shared → Prop} {E:Value → Shared → Prop} {body:List Stmt}
  (hb:body = (bF (bE pW 54)).drop 4) (B0:Below callerA base [] h₀) (F:Fr h₀ L s.heap (fun y=>if y = Str.ofString "due" then some (.ref LD) else if y = Str.ofString "entries" then some (.ref Bq) else m y)) (X:(K w.params).In h₀)
  (N:News h₀ L s.heap ((LD,listOf #[.ref D0,.ref D1] 0) :: (D1,listOf (strValues lv1).toArray k1) :: (D0,listOf (strValues lv0).toArray k0) :: (D,listOf (strValues lvd).toArray kd) :: (Bq,listOf ys.toArray nB) :: (L + 1,oC) :: nw))
  (T:Top (am pW) (looseW (am pW) aE) mean mg mb h₀) (hoC:oC.data = .cell (some (.ref D))) (hys:ba nw ys es) (hes:ee es)
  (hd:lvd.map (·.1) = bQ es) (hd0:lv0.map (·.1) = bv es 0) (hd1:lv1.map (·.1) = bv es 1) (hxd:(∀ p ∈ lvd,p.1.length ≤ 1000) ∧ lvd.length ≤ 1000) (hg:s.gens = ft 6)
  (hQ:∀ m' h' tk' g',Fr h₀ L h' m' → (∀ i,i < g'.size → g'[i]? = some .finished) → Q (.ret (.bool true)) { s with heap:=h',gens:=g',toks:=tk' }) :
  wpAny (model rW.row.prog w) (w6 L a ccd) (execs body (tW L a ccd)) Q E s:=by
 subst hb
 revert X
 k_fill
 intro X
 show wpAny _ _ (execs (_ :: _ :: _ :: []) _) _ _ _
 iterate 1 (all_goals (try (first | (k_unfold;(try dsimp only)) | walk1 | (dsimp only;walk1))))
 lcg_calm
 k_dflt (refine LCt.Assign_ListComp_T (F₀:=by k_asm) (by rfl) (by with_unfolding_all rfl) (by with_unfolding_all rfl) (by decide) (by rfl) (by decide) (by rfl) (by rfl) (by rfl) ?_)
 iterate 1 (all_goals (try (first | (k_unfold;(try dsimp only)) | walk1 | (dsimp only;walk1))))
 have hyl:ys.length ≤ 12:=by rw [hys.1];exact hes.len
 k_dflt (refine' LCt.CompSrcT.ledger (its:=ys.toArray) (by rfl) (by k_asm) (by k_asm) (by k_mem) (by rw [List.size_toArray];exact Nat.le_trans hyl (by decide)) ?_)
 intro g9
 refine' dR (n:=ys.length) (fun i ysA news=>news = _ ∧ ∃ lb:List (PySem.Str × Nat),ysA = strValues lb ∧ lb.map (·.1) = cQ (es.take i)) ?step ?fin ys.length 0 [] _ (Nat.zero_add _) ⟨rfl,[],rfl,rfl⟩
 case step =>
  intro i ysA news v I oI C oC2 Dc m₂ h tk E' hi ⟨hn,lb,hysA,hlb⟩ hv hC hx F N off ne
  subst hn
  subst hysA
  have off0:=off
  (try simp only [LCg.Off3,and_true] at off)
  refine (let G0:Prop:=_;(?_:G0))
  obtain ⟨e,he,ea,ep,em,n1,n2,n3,tl,t0,t1,lp,rfl,q1,q2,q3,q4⟩:=hys.2 i v (by simpa using hv)
  have hpar:=(hes.ok e (List.mem_of_getElem? he)).parts
  have hB2:∀ y ∈ lp.map (fun x=>x.fst),y.length ≤ 1000:=fun y hy=>by
   rw [q3] at hy;exact Nat.le_trans ((cf hpar).2.1 y hy).1 (by decide)
  have hL2:lp.length ≤ 1000:=by rw [← List.length_map (f:=(·.1)),q3];exact Nat.le_trans (cf hpar).2.2.2.2.2.2.2 (by decide)
  have hB3:∀ y ∈ lp.dropLast.map (fun x=>x.fst),y.length ≤ 1000:=fun y hy=>by
   obtain ⟨z,hz,rfl⟩:=List.mem_map.mp hy
   exact hB2 _ (List.mem_map_of_mem ((List.dropLast_sublist lp).subset hz))
  have hL3:lp.dropLast.length ≤ 1000:=by rw [List.length_dropLast];exact ae fun h9=>lN [_,_] [(1,.t (.k 1000) V0),(1,.l V1 (.k 1000)),(1,.l V0 V1)] (.c h9 (.c hL2 (.c (Nat.sub_le _ _) .n)))
  cases hm:e.m0 with
  | none =>
   rw [hm] at q4
   dsimp only [et] at q4
   refine (?_:wpAny _ _ _ _ _ _)
   iterate 12 (all_goals (try (first | (k_unfold;(try dsimp only)) | walk1 | (dsimp only;walk1))))
   rename News _ _ _ _=>NE
   rename Fr _ _ _ _=>FE
   exact CompEnd.intro FE NE _ (fun p hp=>hp) off0 (.inr ⟨_,(List.Mem.tail _ (List.Mem.tail _ (List.Mem.tail _ (List.Mem.tail _ (List.Mem.head _))))),rfl,_,rfl⟩) ⟨rfl,lb,rfl,by rw [yG he hm];exact hlb⟩
  | some x =>
   rw [hm] at q4
   dsimp only [et] at q4
   refine (?_:wpAny _ _ _ _ _ _)
   iterate 33 (all_goals (try (first | (k_unfold;(try dsimp only)) | walk1 | (dsimp only;walk1))))
   (k_dflt (refine' kmk_slice ?y1 ?y2 ?y3 ?y4 ?y5 ?_ ?y6 ?y7 ?y8;(case y1=>k_asm);(case y2=>k_asm);(case y3=>exact News.isList (by k_asm) (by ((repeat (first | with_reducible exact List.mem_cons_self | refine al ?_));(try first | with_reducible assumption | (refine aj ?_;with_reducible assumption) | (refine ac ?_;with_reducible assumption)))));(case y4=>kmk_part);(case y5=>kmk_part);(case y6=>with_unfolding_all rfl);(case y7=>kmk_pure);(case y8=>(simp only [List.size_toArray,aV,sizeLine_eq];omega)));intro D' h' F' N' l1;rw [uB] at N';(try k_lt l1);(try k_sweep))
   iterate 1 (all_goals (try (first | (k_unfold;(try dsimp only)) | walk1 | (dsimp only;walk1))))
   (k_dflt refine sA (by k_asm) (by k_mem) (by decide) (by with_reducible assumption) (by omega) ?_;intro _ _ _)
   (k_dflt refine KXadd.add (K:=8000000) (L:=8000000) (by first | ((with_reducible show PySem.Str.length (Str.ofString _) ≤ _);decide) | omega) (by first | ((with_reducible show PySem.Str.length (Str.ofString _) ≤ _);decide) | omega) (by decide) ?_;intro _ _ _)
   iterate 1 (all_goals (try (first | (k_unfold;(try dsimp only)) | walk1 | (dsimp only;walk1))))
   rename News _ _ _ _=>NE
   rename Fr _ _ _ _=>FE
   refine CompEnd.intro FE NE _ (fun p hp=>(al hp)) off0 (.inr ⟨_,(List.Mem.tail _ (List.Mem.tail _ (List.Mem.tail _ (List.Mem.tail _ (List.Mem.head _))))),rfl,_,rfl⟩) ⟨rfl,lb++[(_,_)],zO _ _ _,?_⟩
   rw [List.map_append,hlb,xV he hm]
   show _++[_] = _++[Dg e]
   unfold Dg
   rw [← q3,List.map_dropLast]
 case fin =>
  intro ysA news ⟨hn,lb,hysA,hlb⟩
  subst hn
  subst hysA
  intro DB h tk F N off
  rw [hys.1,List.take_length] at hlb
  iterate 3 (all_goals (try (first | (k_unfold;(try dsimp only)) | walk1 | (dsimp only;walk1))))
  refine qO (f:=fun y=>eK (Txt.slice y (some 11) none)) (by k_asm) X T (by first | decide | (show 1 + claimMargin + 1 + 12 < recursionLimit;decide)) (by first | decide | (show 4 + 3 + 240 < cLine;decide)) (by with_unfolding_all rfl) (by decide) (by rfl) (by decide) (by rfl) ?_
  iterate 9 (all_goals (try (first | (k_unfold;(try dsimp only)) | walk1 | (dsimp only;walk1))))
  rename News _ _ _ _=>NE
  rename Fr _ _ _ _=>FE
  refine ed FE X NE T (by show 1 + claimMargin + 1 + 2 < recursionLimit;decide) ?_
  intro Lg G h' oL tk9 t1 t2 F2 N2 hlt hLG hLL hNs
  clear FE NE
  dsimp only
  refine ⟨G,Lg,oL,_,_,_,_,_,t1,t2,D,kd,lvd,Str.ofString "- ",rfl,rfl,F2,N2,hlt,hLG,hLL,⟨_,.inl ⟨rfl,rfl⟩⟩,hNs,(List.Mem.tail _ (List.Mem.tail _ (List.Mem.tail _ (List.Mem.tail _ (List.Mem.head _))))),hxd.1,hxd.2,?_⟩
  have e0:ao (Str.ofString "- ") (lvd.map Prod.fst) = lv0.map (·.1):=by rw [hd,hd0,gn hes]
  constructor
  ·intro i y t C Dc ysc oC2 m₂ h g tk nx Q' E hy hC hx F N hk
   have hyl2:y.length ≤ 1000:=by
    rw [e0,hd0] at hy
    exact (zh hes).1 y (List.mem_of_getElem? hy)
   iterate 15 (all_goals (try (first | (k_unfold;(try dsimp only)) | walk1 | (dsimp only;walk1))))
   refine' (qy _ _ _ _ ?hx1).useS ?xB ?xF ?xX ?xN ?xT ?xk ?xd ?xu ?_;(case xB=>k_asm);(case xF=>k_asm);(case xX=>k_asm);(case xN=>k_asm);(case xT=>k_asm);(case xk=>exact rfl);(case xd=>first | decide | ((try simp (config:={zetaDelta:=true}) only [depth_under_make,depth_under_kw,depth_in1,depth_deeper,depth_caller,units_in1,units_deeper,Around.mark_units,units_caller,Around.in1_depth,Around.in1_units,Around.deeper_units] at *);(try dsimp only [ktrTop] at *);have hcL9:=cLine_is;(simp only [recursionLimit] at *);omega));(case xu=>first | decide | ((try simp (config:={zetaDelta:=true}) only [depth_under_make,depth_under_kw,depth_in1,depth_deeper,depth_caller,units_in1,units_deeper,Around.mark_units,units_caller,Around.in1_depth,Around.in1_units,Around.deeper_units] at *);(try dsimp only [ktrTop] at *);have hcL9:=cLine_is;(simp only [recursionLimit] at *);omega))
   case hx1=>omega
   intro t9 h9 tk9 F9 N9
   exact hk t9 h9 tk9 F9 N9
  ·intro DB2 lv' h'' tk'' hlv F N hne
   iterate 1 (all_goals (try (first | (k_unfold;(try dsimp only)) | walk1 | (dsimp only;walk1))))
   rename News _ _ _ _=>NE
   rename Fr _ _ _ _=>FE
   refine jN (d:=hX (cQ es)) (n:=1) ?ra ?rb (ky (tR hes)) (by decide) (by show 4 + 3 + 64 < cLine;decide) ?_
   case ra =>
    rw [e0,hd0,tC hes] at hlv
    rw [← hlv]
    exact ci NE (.head _)
   case rb=>rw [← hlb];exact ci NE (.tail _ (.head _))
   have N6:=df (df NE)
   clear NE N hne
   refine (let G0:Prop:=_;(?_:G0))
   obtain ⟨srt,hS,hch,hla,hlb2,hops,htag⟩:=y9 hes hd0 hd1
   refine (?_:wpAny _ _ _ _ _ _)
   iterate 24 (all_goals (try (first | (k_unfold;(try dsimp only)) | walk1 | (dsimp only;walk1))))
   refine' (DK _ _ _ _ _ lv1 ?h2 hlb2 hS.ndB).use ?xB ?xF ?xX ?xN ?xT ?xk ?xd ?xu ?_;(case xB=>k_asm);(case xF=>k_asm);(case xX=>k_asm);(case xN=>k_asm);(case xT=>k_asm);(case xk=>exact rfl);(case xd=>first | decide | ((try simp (config:={zetaDelta:=true}) only [depth_under_make,depth_under_kw,depth_in1,depth_deeper,depth_caller,units_in1,units_deeper,Around.mark_units,units_caller,Around.in1_depth,Around.in1_units,Around.deeper_units] at *);(try dsimp only [ktrTop] at *);have hcL9:=cLine_is;(simp only [recursionLimit] at *);omega));(case xu=>first | decide | ((try simp (config:={zetaDelta:=true}) only [depth_under_make,depth_under_kw,depth_in1,depth_deeper,depth_caller,units_in1,units_deeper,Around.mark_units,units_caller,Around.in1_depth,Around.in1_units,Around.deeper_units] at *);(try dsimp only [ktrTop] at *);have hcL9:=cLine_is;(simp only [recursionLimit] at *);omega))
   case h2=>((repeat (first | with_reducible exact List.mem_cons_self | refine al ?_));(try first | with_reducible assumption | (refine aj ?_;with_reducible assumption) | (refine ac ?_;with_reducible assumption)))
   intro v9 nw9 h1 tk1 F1 N1 hR9
   refine (let G0:Prop:=_;(?_:G0))
   obtain ⟨⟨y,rfl,rfl,hy⟩,l9,hs9,nd9⟩:=hR9
   refine (?_:wpAny _ _ _ _ _ _)
   iterate 2 (all_goals (try (first | (k_unfold;(try dsimp only)) | walk1 | (dsimp only;walk1))))
   show wpAny _ _ (call (.ref 210) [.ref y.x]) _ _ _
   refine' (qE _ _ l9 _ _ _ _ lv0 lv1 y hs9 nd9 ?h1 ?h2 hy hla hlb2 _ _ srt (yq hS)).useE ?xB ?xF ?xX ?xN ?xT ?xk ?xd ?xu ?_;(case xB=>k_asm);(case xF=>k_asm);(case xX=>k_asm);(case xN=>k_asm);(case xT=>k_asm);(case xk=>exact rfl);(case xd=>first | decide | ((try simp (config:={zetaDelta:=true}) only [depth_under_make,depth_under_kw,depth_in1,depth_deeper,depth_caller,units_in1,units_deeper,Around.mark_units,units_caller,Around.in1_depth,Around.in1_units,Around.deeper_units] at *);(try dsimp only [ktrTop] at *);have hcL9:=cLine_is;(simp only [recursionLimit] at *);omega));(case xu=>first | decide | ((try simp (config:={zetaDelta:=true}) only [depth_under_make,depth_under_kw,depth_in1,depth_deeper,depth_caller,units_in1,units_deeper,Around.mark_units,units_caller,Around.in1_depth,Around.in1_units,Around.deeper_units] at *);(try dsimp only [ktrTop] at *);have hcL9:=cLine_is;(simp only [recursionLimit] at *);omega))
   case h1=>((repeat (first | with_reducible exact List.mem_cons_self | refine al ?_));(try first | with_reducible assumption | (refine aj ?_;with_reducible assumption) | (refine ac ?_;with_reducible assumption)))
   case h2=>((repeat (first | with_reducible exact List.mem_cons_self | refine al ?_));(try first | with_reducible assumption | (refine aj ?_;with_reducible assumption) | (refine ac ?_;with_reducible assumption)))
   intro z h2 tk2 F2 N2 hz
   clear N6 N1 F1 F
   iterate 15 (all_goals (try (first | (k_unfold;(try dsimp only)) | walk1 | (dsimp only;walk1))))
   refine' (ru _ _ _ _ _ _ lv0 lv1 ?h1 ?h2 hla hlb2 hch).use ?xB ?xF ?xX ?xN ?xT ?xk ?xd ?xu ?_;(case xB=>k_asm);(case xF=>k_asm);(case xX=>k_asm);(case xN=>k_asm);(case xT=>k_asm);(case xk=>exact rfl);(case xd=>first | decide | ((try simp (config:={zetaDelta:=true}) only [depth_under_make,depth_under_kw,depth_in1,depth_deeper,depth_caller,units_in1,units_deeper,Around.mark_units,units_caller,Around.in1_depth,Around.in1_units,Around.deeper_units] at *);(try dsimp only [ktrTop] at *);have hcL9:=cLine_is;(simp only [recursionLimit] at *);omega));(case xu=>first | decide | ((try simp (config:={zetaDelta:=true}) only [depth_under_make,depth_under_kw,depth_in1,depth_deeper,depth_caller,units_in1,units_deeper,Around.mark_units,units_caller,Around.in1_depth,Around.in1_units,Around.deeper_units] at *);(try dsimp only [ktrTop] at *);have hcL9:=cLine_is;(simp only [recursionLimit] at *);omega))
   case h1=>exact ac (by ((repeat (first | with_reducible exact List.mem_cons_self | refine al ?_));(try first | with_reducible assumption | (refine aj ?_;with_reducible assumption) | (refine ac ?_;with_reducible assumption))))
   case h2=>exact ac (by ((repeat (first | with_reducible exact List.mem_cons_self | refine al ?_));(try first | with_reducible assumption | (refine aj ?_;with_reducible assumption) | (refine ac ?_;with_reducible assumption))))
   intro v new h3 tk3 F3 N3 hP
   refine (let G0:Prop:=_;(?_:G0))
   obtain ⟨d,n,k,vs,tups,rfl,rfl,hops2,hi,hj⟩:=hP.ex
   refine (?_:wpAny _ _ _ _ _ _)
   have hO:∀ (led:List (Addr × Obj)),(∀ p ∈ led,p ∈ ((d,listOf vs.toArray k) :: tups++((z.D,listOf z.vs.toArray z.k) :: z.tups++_):List (Addr × Obj))) → ∀ v x,fg led v x → ∃ as,Reads h3 v (Ca x) as:=fun led sub v x hx=>vH N3 (hx.mono sub)
   refine yx (d:=.list ((xz (cN lv0 lv1 srt) (cN lv0 lv1 srt).length).out.map Ca)) (n:=2) ?ra ?rb (yu htag) (by decide) (by show 4 + 3 + 64 < cLine;decide) ?_
   case ra=>exact cu N3 (ac (aj (.head _))) (dN (hO _ fun p hp=>ac (aj (.tail _ hp))) hz)
   case rb =>
    rw [← hops n hi hj]
    exact cu N3 (aj (.head _)) (dN (hO _ fun p hp=>aj (.tail _ hp)) hops2)
   refine hQ _ _ _ _ F3 ?_
   show ∀ i,i < (s.gens.push .finished).size → (s.gens.push .finished)[i]? = some .finished
   rw [hg]
   exact yh
theorem ui {w:World} {mean:ExcName → Option Value} {mg mb:PySem.Str → Option Value} {a L Bq nB LD D0 D1 D k0 k1 kd:Addr} {ccd:Value} {base h₀:Heap} {m:PySem.Str → Option Value} {s:Shared} {hp:Heap} {gs:Array GenState} {tk0:Nat} {ys:List Value} {nw:List (Addr × Obj)} {oC:Obj} {es:List aK} {lv0 lv1 lvd:List (PySem.Str × Nat)} {Q:Flow → Shared → Prop} {E:Value → Shared → Prop} {body:List Stmt}
  (hb:body = (bF (bE pW 54)).drop 4) (B0:Below callerA base [] h₀) (F:Fr h₀ L hp (fun y=>if y = Str.ofString "due" then some (.ref LD) else if y = Str.ofString "entries" then some (.ref Bq) else m y)) (X:(K w.params).In h₀)
  (N:News h₀ L hp ((LD,listOf #[.ref D0,.ref D1] 0) :: (D1,listOf (strValues lv1).toArray k1) :: (D0,listOf (strValues lv0).toArray k0) :: (D,listOf (strValues lvd).toArray kd) :: (Bq,listOf ys.toArray nB) :: (L + 1,oC) :: nw))
  (T:Top (am pW) (looseW (am pW) aE) mean mg mb h₀) (hoC:oC.data = .cell (some (.ref D))) (hys:ba nw ys es) (hes:ee es)
  (hd:lvd.map (·.1) = bQ es) (hd0:lv0.map (·.1) = bv es 0) (hd1:lv1.map (·.1) = bv es 1) (hxd:(∀ p ∈ lvd,p.1.length ≤ 1000) ∧ lvd.length ≤ 1000) (hg:gs = ft 6)
  (hQ:∀ m' h' tk' g',Fr h₀ L h' m' → (∀ i,i < g'.size → g'[i]? = some .finished) → Q (.ret (.bool true)) { s with heap:=h',gens:=g',toks:=tk' }) :
  wpAny (model rW.row.prog w) (w6 L a ccd) (execs body (tW L a ccd)) Q E { s with heap:=hp,gens:=gs,toks:=tk0 } :=
 tE (s:={ s with heap:=hp,gens:=gs,toks:=tk0 }) hb B0 F X N T hoC hys hes hd hd0 hd1 hxd hg hQ
end
section
open PyProof.Rows.LCg PyProof.Rows.LCt
theorem uW {w:World} {mean:ExcName → Option Value} {mg mb:PySem.Str → Option Value} {a L Bq nB:Addr} {ccd:Value} {base h₀:Heap} {m:PySem.Str → Option Value} {s:Shared} {ys:List Value} {nw:List (Addr × Obj)} {oC:Obj} {es:List aK} {Q:Flow → Shared → Prop} {E:Value → Shared → Prop}
  (B0:Below callerA base [] h₀) (F:Fr h₀ L s.heap (fun y=>if y = Str.ofString "entries" then some (.ref Bq) else m y)) (X:(K w.params).In h₀) (N:News h₀ L s.heap ((Bq,listOf ys.toArray nB) :: (L + 1,oC) :: nw))
  (T:Top (am pW) (looseW (am pW) aE) mean mg mb h₀) (hoC:oC.data = .cell none) (hnC:∀ p ∈ nw,p.1 ≠ L + 1) (hBC:Bq ≠ L + 1) (hys:ba nw ys es) (hes:ee es) (hg:s.gens = #[])
  (hQ:∀ m' h' tk' g',Fr h₀ L h' m' → (∀ i,i < g'.size → g'[i]? = some .finished) → Q (.ret (.bool true)) { s with heap:=h',gens:=g',toks:=tk' }) :
  wpAny (model rW.row.prog w) (w6 L a ccd) (execs ((bF (bE pW 54)).drop 1) (tW L a ccd)) Q E s:=by
 revert X
 k_fill
 intro X
 show wpAny _ _ (execs (_ :: _ :: _ :: _ :: _ :: _ :: []) _) _ _ _
 iterate 11 (all_goals (try (first | (k_unfold;(try dsimp only)) | walk1 | (dsimp only;walk1))))
 refine' (vb _ _ _ _ _ _ ?h1 ?h2 hes.ok ?h4).useE ?xB ?xF ?xX ?xN ?xT ?xk ?xd ?xu ?_;(case xB=>k_asm);(case xF=>k_asm);(case xX=>k_asm);(case xN=>k_asm);(case xT=>k_asm);(case xk=>exact rfl);(case xd=>first | decide | ((try simp (config:={zetaDelta:=true}) only [depth_under_make,depth_under_kw,depth_in1,depth_deeper,depth_caller,units_in1,units_deeper,Around.mark_units,units_caller,Around.in1_depth,Around.in1_units,Around.deeper_units] at *);(try dsimp only [ktrTop] at *);have hcL9:=cLine_is;(simp only [recursionLimit] at *);omega));(case xu=>first | decide | ((try simp (config:={zetaDelta:=true}) only [depth_under_make,depth_under_kw,depth_in1,depth_deeper,depth_caller,units_in1,units_deeper,Around.mark_units,units_caller,Around.in1_depth,Around.in1_units,Around.deeper_units] at *);(try dsimp only [ktrTop] at *);have hcL9:=cLine_is;(simp only [recursionLimit] at *);omega))
 case h1=>((repeat (first | with_reducible exact List.mem_cons_self | refine al ?_));(try first | with_reducible assumption | (refine aj ?_;with_reducible assumption) | (refine ac ?_;with_reducible assumption)))
 case h2=>exact hys.mono fun p hp=>by ((repeat (first | with_reducible exact List.mem_cons_self | refine al ?_));(try first | with_reducible assumption | (refine aj ?_;with_reducible assumption) | (refine ac ?_;with_reducible assumption)))
 case h4=>have:=hes.len;omega
 intro ⟨D,lvd,kd⟩ h1 tk1 F1 N1 hd
 dsimp only at F1 N1 hd ⊢
 simp only [List.cons_append,List.nil_append] at N1
 iterate 12 (all_goals (try (first | (k_unfold;(try dsimp only)) | walk1 | (dsimp only;walk1))))
 refine' (w5 _ _ _ _ _ _ _ _ ?h1 ?h2 hes.ok ?h4 (.inl rfl)).useE ?xB ?xF ?xX ?xN ?xT ?xk ?xd ?xu ?_;(case xB=>k_asm);(case xF=>k_asm);(case xX=>k_asm);(case xN=>k_asm);(case xT=>k_asm);(case xk=>exact rfl);(case xd=>first | decide | ((try simp (config:={zetaDelta:=true}) only [depth_under_make,depth_under_kw,depth_in1,depth_deeper,depth_caller,units_in1,units_deeper,Around.mark_units,units_caller,Around.in1_depth,Around.in1_units,Around.deeper_units] at *);(try dsimp only [ktrTop] at *);have hcL9:=cLine_is;(simp only [recursionLimit] at *);omega));(case xu=>first | decide | ((try simp (config:={zetaDelta:=true}) only [depth_under_make,depth_under_kw,depth_in1,depth_deeper,depth_caller,units_in1,units_deeper,Around.mark_units,units_caller,Around.in1_depth,Around.in1_units,Around.deeper_units] at *);(try dsimp only [ktrTop] at *);have hcL9:=cLine_is;(simp only [recursionLimit] at *);omega))
 case h1=>((repeat (first | with_reducible exact List.mem_cons_self | refine al ?_));(try first | with_reducible assumption | (refine aj ?_;with_reducible assumption) | (refine ac ?_;with_reducible assumption)))
 case h2=>exact hys.mono fun p hp=>by ((repeat (first | with_reducible exact List.mem_cons_self | refine al ?_));(try first | with_reducible assumption | (refine aj ?_;with_reducible assumption) | (refine ac ?_;with_reducible assumption)))
 case h4=>have:=hes.len;omega
 intro ⟨D0,lv0,k0⟩ h2 tk2 F2 N2 hd0
 dsimp only at F2 N2 hd0 ⊢
 simp only [List.cons_append,List.nil_append] at N2
 iterate 10 (all_goals (try (first | (k_unfold;(try dsimp only)) | walk1 | (dsimp only;walk1))))
 refine' (w5 _ _ _ _ _ _ _ _ ?h1 ?h2 hes.ok ?h4 (.inr rfl)).useE ?xB ?xF ?xX ?xN ?xT ?xk ?xd ?xu ?_;(case xB=>k_asm);(case xF=>k_asm);(case xX=>k_asm);(case xN=>k_asm);(case xT=>k_asm);(case xk=>exact rfl);(case xd=>first | decide | ((try simp (config:={zetaDelta:=true}) only [depth_under_make,depth_under_kw,depth_in1,depth_deeper,depth_caller,units_in1,units_deeper,Around.mark_units,units_caller,Around.in1_depth,Around.in1_units,Around.deeper_units] at *);(try dsimp only [ktrTop] at *);have hcL9:=cLine_is;(simp only [recursionLimit] at *);omega));(case xu=>first | decide | ((try simp (config:={zetaDelta:=true}) only [depth_under_make,depth_under_kw,depth_in1,depth_deeper,depth_caller,units_in1,units_deeper,Around.mark_units,units_caller,Around.in1_depth,Around.in1_units,Around.deeper_units] at *);(try dsimp only [ktrTop] at *);have hcL9:=cLine_is;(simp only [recursionLimit] at *);omega))
 case h1=>((repeat (first | with_reducible exact List.mem_cons_self | refine al ?_));(try first | with_reducible assumption | (refine aj ?_;with_reducible assumption) | (refine ac ?_;with_reducible assumption)))
 case h2=>exact hys.mono fun p hp=>by ((repeat (first | with_reducible exact List.mem_cons_self | refine al ?_));(try first | with_reducible assumption | (refine aj ?_;with_reducible assumption) | (refine ac ?_;with_reducible assumption)))
 case h4=>have:=hes.len;omega
 intro ⟨D1,lv1,k1⟩ h3 tk3 F3 N3 hd1
 dsimp only at F3 N3 hd1 ⊢
 simp only [List.cons_append,List.nil_append] at N3
 have nD:D ≠ L + 1:=dB N3 (by ((repeat (first | with_reducible exact List.mem_cons_self | refine al ?_));(try first | with_reducible assumption | (refine aj ?_;with_reducible assumption) | (refine ac ?_;with_reducible assumption)))) (show (L + 1,oC) ∈ _ by ((repeat (first | with_reducible exact List.mem_cons_self | refine al ?_));(try first | with_reducible assumption | (refine aj ?_;with_reducible assumption) | (refine ac ?_;with_reducible assumption)))) (bO hoC)
 have nD0:D0 ≠ L + 1:=dB N3 (by ((repeat (first | with_reducible exact List.mem_cons_self | refine al ?_));(try first | with_reducible assumption | (refine aj ?_;with_reducible assumption) | (refine ac ?_;with_reducible assumption)))) (show (L + 1,oC) ∈ _ by ((repeat (first | with_reducible exact List.mem_cons_self | refine al ?_));(try first | with_reducible assumption | (refine aj ?_;with_reducible assumption) | (refine ac ?_;with_reducible assumption)))) (bO hoC)
 have nD1:D1 ≠ L + 1:=dB N3 (by ((repeat (first | with_reducible exact List.mem_cons_self | refine al ?_));(try first | with_reducible assumption | (refine aj ?_;with_reducible assumption) | (refine ac ?_;with_reducible assumption)))) (show (L + 1,oC) ∈ _ by ((repeat (first | with_reducible exact List.mem_cons_self | refine al ?_));(try first | with_reducible assumption | (refine aj ?_;with_reducible assumption) | (refine ac ?_;with_reducible assumption)))) (bO hoC)
 iterate 16 (all_goals (try (first | (k_unfold;(try dsimp only)) | walk1 | (dsimp only;walk1))))
 rename News _ _ _ _=>N4
 obtain ⟨LD,hLD⟩:=Gp N4
 subst hLD
 have N5:=df N4
 clear N4
 refine iI (At:=BM) Gf (iA (lvd.map Prod.fst)) (by k_asm) (by with_unfolding_all rfl) (by decide) (by rfl) (by decide) (by rfl) (by rfl) ?_
 iterate 11 (all_goals (try (first | (k_unfold;(try dsimp only)) | walk1 | (dsimp only;walk1))))
 have hxd:(∀ p ∈ lvd,p.1.length ≤ 1000) ∧ lvd.length ≤ 1000:=by
  have h9:=vS hes
  rw [← hd,List.length_map] at h9
  exact ⟨fun p hp=>h9.1 _ (List.mem_map_of_mem hp),h9.2⟩
 rename News _ _ _ _=>NE
 rename Fr _ _ _ _=>FE
 refine ⟨_,0,0,_,[.int 1 _,.int 2 _,.str (Str.ofString "1") _,.str (Str.ofString "2") _],rfl,hg,FE,NE,.head _,Nat.le_of_ble_eq_true rfl,rfl,?_⟩
 clear FE NE
 constructor
 ·intro i v z C Dc ysc oC2 m₂ h tk nx Q' E hv hz hC hx F N hsub hK
  obtain ⟨tag,hw,rfl⟩:=Bg hv hz
  have hcm:=hsub _ (show (L + 1,_) ∈ _ from by ((repeat (first | with_reducible exact List.mem_cons_self | refine al ?_));(try first | with_reducible assumption | (refine aj ?_;with_reducible assumption) | (refine ac ?_;with_reducible assumption))))
  iterate 14 (all_goals (try (first | (k_unfold;(try dsimp only)) | walk1 | (dsimp only;walk1))))
  rename News _ _ _ _=>NE
  rename Fr _ _ _ _=>FE
  refine ed FE X NE T (by show 1 + claimMargin + 1 + 2 < recursionLimit;decide) ?_
  clear FE NE
  intro Lg G h' oL tk9 t1 t2 F2 N2 hlt hLG hLL hNs
  dsimp only
  iterate 1 (all_goals (try (first | (k_unfold;(try dsimp only)) | walk1 | (dsimp only;walk1))))
  refine js (lv:=lvd) (nn:=kd) F2 X N2 T (by first | decide | (show 1 + claimMargin + 1 + 12 < recursionLimit;decide)) (by first | decide | (show 4 + 3 + 300 < cLine;decide)) hw rfl hNs (.tail _ (.tail _ (hsub _ (by ((repeat (first | with_reducible exact List.mem_cons_self | refine al ?_));(try first | with_reducible assumption | (refine aj ?_;with_reducible assumption) | (refine ac ?_;with_reducible assumption))))))) hxd.1 hxd.2 hlt hLG hLL ?_
  intro S c h5 tk5 tv F5 N5 htv hS
  refine hK _ h5 tk5 [(S,listOf (strValues tv).toArray c)] F5 (fun p hp=>N5 p ?_) (fun p hp q hq=>?_) ⟨S,c,tv,rfl,.head _,htv⟩
  ·rcases ag hp with rfl | hp
   ·exact .head _
   ·exact .tail _ (.tail _ hp)
  ·rw [List.mem_singleton.mp hp]
   exact hS q hq
 ·intro DB ysB objs h'' tk'' hL F N hne
  dsimp only
  simp only [Nat.zero_add]
  iterate 3 (all_goals (try (first | (k_unfold;(try dsimp only)) | walk1 | (dsimp only;walk1))))
  rename News _ _ _ _=>NE
  rename Fr _ _ _ _=>FE
  have la:=News.isList NE (show (LD,listOf #[.ref D0,.ref D1] 0) ∈ _ from .tail _ (ac (.tail _ (.head _))))
  refine add_lists (vs:=[.ref D0,.ref D1]) (ws:=[.ref D0,.ref D1]) FE NE la la (fun h9 F9 N9=>?_) (by rw [sizeLine_eq];exact Nat.le_of_ble_eq_true rfl)
  clear FE NE la
  refine jN (d:=.list ((iA (lvd.map Prod.fst)).map hX)) (n:=2) ?ra ?rb ?lay (by decide) (by show 4 + 3 + 64 < cLine;decide) ?_
  case ra=>exact cu N9 (.tail _ (.head _)) (dN (ww N9 fun p hp=>.tail _ (.tail _ (aj hp))) hL)
  case rb =>
   have e:iA (lvd.map Prod.fst) = [lv0.map (·.1),lv1.map (·.1),lv0.map (·.1),lv1.map (·.1)]:=by
    unfold iA;rw [hd,hd0,hd1,gn hes,lU hes]
   rw [e]
   exact mT N9 (.tail _ (.tail _ (ac (.tail _ (.tail _ (.tail _ (.head _))))))) (.tail _ (.tail _ (ac (.tail _ (.tail _ (.head _)))))) (.head _)
  case lay =>
   refine xG fun x hx y hy=>?_
   have ht:=zm hes
   rw [← gn hes,← lU hes,← hd] at ht
   simp only [iA,List.mem_cons,List.not_mem_nil,or_false] at hx
   rcases hx with rfl | rfl | rfl | rfl
   ·exact ht.1 y hy
   ·exact ht.2 y hy
   ·exact ht.1 y hy
   ·exact ht.2 y hy
  have N6:News h₀ L _ ((LD,listOf #[.ref D0,.ref D1] 0) :: (D1,listOf (strValues lv1).toArray k1) :: (D0,listOf (strValues lv0).toArray k0) :: (D,listOf (strValues lvd).toArray kd) :: (Bq,listOf ys.toArray nB) :: _):=fun p hp=>N9 p (.tail _ (.tail _ (ac (.tail _ hp))))
  clear N9
  iterate 7 (all_goals (try (first | (k_unfold;(try dsimp only)) | walk1 | (dsimp only;walk1))))
  clear hL hne
  refine iI (At:=Cf) FK [aQ 0,aQ 3] (by k_asm) (by with_unfolding_all rfl) (by decide) (by rfl) (by decide) (by rfl) (by rfl) ?_
  iterate 7 (all_goals (try (first | (k_unfold;(try dsimp only)) | walk1 | (dsimp only;walk1))))
  rename News _ _ _ _=>NE
  rename Fr _ _ _ _=>FE
  refine ⟨_,0,4,_,[.int 0 _,.int 3 _],rfl,rfl,FE,NE,.head _,Nat.le_of_ble_eq_true rfl,rfl,?_⟩
  clear FE NE
  constructor
  ·intro i v z C Dc ysc oC2 m₂ h tk nx Q' E hv hz hC hx F N hsub hK
   obtain ⟨k,t,hk,rfl,rfl⟩:=BS hv hz
   have hcm:=hsub _ (show (L + 1,_) ∈ _ from by ((repeat (first | with_reducible exact List.mem_cons_self | refine al ?_));(try first | with_reducible assumption | (refine aj ?_;with_reducible assumption) | (refine ac ?_;with_reducible assumption))))
   iterate 10 (all_goals (try (first | (k_unfold;(try dsimp only)) | walk1 | (dsimp only;walk1))))
   rename News _ _ _ _=>NE
   rename Fr _ _ _ _=>FE
   refine pZ hk FE X NE T rfl (by first | decide | (show 1 + claimMargin + 1 + 40 < recursionLimit;decide)) (by first | decide | (show 4 + 3 + 600 < cLine;decide)) (Heap.get?_none_of_le FE.above) ?_
   clear FE NE
   intro t' h' tk' F2 N2
   exact hK _ h' tk' [] F2 N2 (fun p hp=>(nomatch hp)) ⟨t',rfl⟩
  ·intro DB2 ysB2 objs2 h2 tk2 hL F N hne
   dsimp only
   obtain ⟨lm,rfl,hlm⟩:=sJ hL
   have N7:News h₀ L _ ((DB2,lst (strValues lm)) :: (LD,listOf #[.ref D0,.ref D1] 0) :: (D1,listOf (strValues lv1).toArray k1) :: (D0,listOf (strValues lv0).toArray k0) :: (D,listOf (strValues lvd).toArray kd) :: (Bq,listOf ys.toArray nB) :: _):=fun p hp=>N p ((ag hp).elim (fun e=>e ▸ .head _) fun hp=>.tail _ (ac (.tail _ hp)))
   clear N hne hL
   refine LCg.ListComp_U (F₀:=by k_asm) (by with_unfolding_all rfl) (by decide) (by rfl) (by decide) (by rfl) ?_
   iterate 7 (all_goals (try (first | (k_unfold;(try dsimp only)) | walk1 | (dsimp only;walk1))))
   k_dflt (refine LCg.CompSrc.ledger (by rfl) (by k_asm) (by k_asm) (by k_mem) (by exact Nat.le_of_ble_eq_true rfl) ?_;intro g';lcg_lit)
   iterate 4 (all_goals (try (first | (k_unfold;(try dsimp only)) | walk1 | (dsimp only;walk1))))
   (refine lF (by first | exact .inl rfl | exact .inr rfl) ?_;intro _ _)
   ((with_reducible rename Fr _ _ _ _=>kF9);(with_reducible rename News _ _ _ _=>kN9);(first | refine LCg.CompEnd.intro kF9 kN9 _ (fun p hp=>hp) (by assumption) (by first | exact trivial | exact .inr ⟨_,by k_mem,rfl,_,rfl⟩ | exact .inl (by assumption)) ?_ | refine LCg.CompEnd.intro kF9 kN9 _ (fun p hp=>List.Mem.tail _ hp) (by assumption) (by first | exact trivial | exact .inr ⟨_,by k_mem,rfl,_,rfl⟩ | exact .inl (by assumption)) ?_);(try dsimp only))
   iterate 4 (all_goals (try (first | (k_unfold;(try dsimp only)) | walk1 | (dsimp only;walk1))))
   (refine lF (by first | exact .inl rfl | exact .inr rfl) ?_;intro _ _)
   ((with_reducible rename Fr _ _ _ _=>kF9);(with_reducible rename News _ _ _ _=>kN9);(first | refine LCg.CompEnd.intro kF9 kN9 _ (fun p hp=>hp) (by assumption) (by first | exact trivial | exact .inr ⟨_,by k_mem,rfl,_,rfl⟩ | exact .inl (by assumption)) ?_ | refine LCg.CompEnd.intro kF9 kN9 _ (fun p hp=>List.Mem.tail _ hp) (by assumption) (by first | exact trivial | exact .inr ⟨_,by k_mem,rfl,_,rfl⟩ | exact .inl (by assumption)) ?_);(try dsimp only))
   iterate 2 (all_goals (try (first | (k_unfold;(try dsimp only)) | walk1 | (dsimp only;walk1))))
   rename News _ _ _ _=>NE
   rename Fr _ _ _ _=>FE
   refine jN (d:=hX [aQ 0,aQ 3]) (n:=1) ?ra ?rb (ky zK) (by decide) (by show 4 + 3 + 64 < cLine;decide) ?_
   case ra=>rw [← hlm];exact ci NE (show (DB2,_) ∈ _ by ((repeat (first | with_reducible exact List.mem_cons_self | refine al ?_));(try first | with_reducible assumption | (refine aj ?_;with_reducible assumption) | (refine ac ?_;with_reducible assumption))))
   case rb=>exact cu NE (.head _) ⟨_,.cons (.str _ _) (.cons (.str _ _) .nil)⟩
   have N8:=df (df (df NE))
   clear NE
   repeat (rename (_ < _ ∧ _)=>z9;clear z9)
   iterate 3 (all_goals (try (first | (k_unfold;(try dsimp only)) | walk1 | (dsimp only;walk1))))
   rename Fr _ _ _ _=>FE
   refine ui rfl B0 FE X N8 T ?_ hys hes hd hd0 hd1 hxd ?_ ?_
   ·assumption
   ·rfl
   ·exact hQ
end
section
theorem tJ {w:World} {mean:ExcName → Option Value} {mg mb:PySem.Str → Option Value} {a L Bq nB:Addr} {ccd:Value} {base h₀:Heap} {m:PySem.Str → Option Value} {s:Shared} {hp:Heap} {gs:Array GenState} {tk0:Nat} {body:List Stmt} {ys:List Value} {nw:List (Addr × Obj)} {oC:Obj} {es:List aK} {Q:Flow → Shared → Prop} {E:Value → Shared → Prop}
  (hb:body = (bF (bE pW 54)).drop 1) (B0:Below callerA base [] h₀) (F:Fr h₀ L hp (fun y=>if y = Str.ofString "entries" then some (.ref Bq) else m y)) (X:(K w.params).In h₀) (N:News h₀ L hp ((Bq,listOf ys.toArray nB) :: (L + 1,oC) :: nw))
  (T:Top (am pW) (looseW (am pW) aE) mean mg mb h₀) (hoC:oC.data = .cell none) (hnC:∀ p ∈ nw,p.1 ≠ L + 1) (hBC:Bq ≠ L + 1) (hys:ba nw ys es) (hes:ee es) (hg:gs = #[])
  (hQ:∀ m' h' tk' g',Fr h₀ L h' m' → (∀ i,i < g'.size → g'[i]? = some .finished) → Q (.ret (.bool true)) { s with heap:=h',gens:=g',toks:=tk' }) :
  wpAny (model rW.row.prog w) (w6 L a ccd) (execs body (tW L a ccd)) Q E { s with heap:=hp,gens:=gs,toks:=tk0 }:=by
 subst hb
 exact uW (s:={ s with heap:=hp,gens:=gs,toks:=tk0 }) B0 F X N T hoC hnC hBC hys hes hg hQ
theorem xA {h₀ h:Heap} {L C:Addr} {oC:Obj} {u:Option Value} {led nw:List (Addr × Obj)} {vs:List Value} {es:List aK} (N:News h₀ L h led) (sub:∀ p ∈ nw,p ∈ led) (hC:(C,oC) ∈ led) (hoC:oC.data = .cell u) (h:ba nw vs es):ba (nw.filter fun p=>p.1 != C) vs es:=by
 refine ⟨h.1,fun i v hv=>?_⟩
 obtain ⟨e,he,a,p,m,n1,n2,n3,tl,t0,t1,lv,h0,h1,h2,h3,h4⟩:=h.2 i v hv
 have off:∀ {b:Addr} {its:Array Value} {n:Nat},(b,listOf its n) ∈ nw → (b,listOf its n) ∈ nw.filter fun p=>p.1 != C:=fun {b its n} hb=>by
  refine List.mem_filter.mpr ⟨hb,?_⟩
  have:=dB N (sub _ hb) hC (bO hoC)
  simpa using this
 exact ⟨e,he,a,p,m,n1,n2,n3,tl,t0,t1,lv,h0,off h1,off h2,h3,off h4⟩
theorem uy {w:World} {mean:ExcName → Option Value} {mg mb:PySem.Str → Option Value} {a L Bq nB:Addr} {ccd:Value} {base h₀:Heap} {m:PySem.Str → Option Value} {s:Shared} {hp:Heap} {gs:Array GenState} {tk0:Nat} {body:List Stmt} {ys:List Value} {nw rest:List (Addr × Obj)} {oC:Obj} {es:List aK} {Q:Flow → Shared → Prop} {E:Value → Shared → Prop}
  (hb:body = (bF (bE pW 54)).drop 1) (B0:Below callerA base [] h₀) (F:Fr h₀ L hp (fun y=>if y = Str.ofString "entries" then some (.ref Bq) else m y)) (X:(K w.params).In h₀) (N:News h₀ L hp (((Bq,listOf ys.toArray nB) :: nw)++rest)) (hC:(L + 1,oC) ∈ rest)
  (T:Top (am pW) (looseW (am pW) aE) mean mg mb h₀) (hoC:oC.data = .cell none) (hys:ba nw ys es) (hes:ee es) (hg:gs = #[])
  (hQ:∀ m' h' tk' g',Fr h₀ L h' m' → (∀ i,i < g'.size → g'[i]? = some .finished) → Q (.ret (.bool true)) { s with heap:=h',gens:=g',toks:=tk' }) :
  wpAny (model rW.row.prog w) (w6 L a ccd) (execs body (tW L a ccd)) Q E { s with heap:=hp,gens:=gs,toks:=tk0 }:=by
 have hC':(L + 1,oC) ∈ ((Bq,listOf ys.toArray nB) :: nw)++rest:=ac hC
 have h1:=xA (C:=L + 1) N (fun p hp=>aj (.tail _ hp)) hC' hoC hys
 refine tJ (nB:=nB) (nw:=nw.filter fun p=>p.1 != L + 1) hb B0 F X (fun p hp=>N p ?_) T hoC (fun p hp=>?_) (dB N (.head _) hC' (bO hoC)) h1 hes hg hQ
 ·rcases ag hp with rfl | hp
  ·exact .head _
  rcases ag hp with rfl | hp
  ·exact hC'
  ·exact aj (.tail _ (List.mem_filter.mp hp).1)
 ·have:=(List.mem_filter.mp hp).2
  simpa using this
end
open PyProof.Rows.LCg PyProof.Rows.LCt
theorem iu:∀ {vs:List Value} {xs:List Int},IntsAre vs xs → ∃ l:List (Int × Nat),vs = bm l ∧ l.map (·.1) = xs
 | _,_,.nil=>⟨[],rfl,rfl⟩
 | _,_,.cons y t h=>let ⟨l,a,b⟩:=iu h;⟨(y,t) :: l,by rw [a];rfl,by rw [← b];rfl⟩
noncomputable def mj (a b c d e:Nat):List (Int × Nat):=[(2583276,a),(2812359,b),(1153,c),(5378,d),(3145725,e)]
theorem xr {l:List (Int × Nat)} {a b c d e:Nat}:bm l++[.int 2583276 a,.int 2812359 b,.int 1153 c,.int 5378 d,.int 3145725 e] = bm (l++mj a b c d e):=by simp [bm,mj]
open PyProof.Rows.LCg PyProof.Rows.LCt
theorem law_end:rW.Holds:=by
  w_on
  refine PySem.W.holds_law (l:=rW) Mine.ws fun said=>?_
  refine PySem.W.holds_open (q:=am pW) (loose:=aE) (Xt:=EV pW) (XP:=XL (am pW) Fg)
    (Yf:=Hook.obs (kHook K xJ dd)) (Ya:=Hook.val (kHook K xJ dd)) (YP:=Hook.says (kHook K xJ dd)) (N:=7340) BO (Hook.of (kHook K xJ dd)) (Hook.keeps (kHook K xJ dd))
    (fun s e=>xl_of s (Bool.and_eq_true_iff.mp e).1) XL.keeps (by rfl) (by rfl) (by rfl) (fun s e=>recFacts_of (Bool.and_eq_true_iff.mp e).2) (by rfl) (by first | assumption | decide +kernel) (by decide +kernel) ⟨rfl,rfl,rfl,rfl,rfl,by decide +kernel⟩ ?hw ?hc
  case hw=>w_witness2
  case hc =>
   k_fill
   intro w s₀ s₁ mg mb G Y fa o pm cd doc dV kV ho hd hcd hD hmg hg args vals as hpre hlay hrd hwl hlo
   have KX:=kIn_of Y
   have X:=(Ground.X G).1
   have V:=(Ground.X G).2
   refine Ground.open G ?_
   intro T B D TE TW
   try (refine guard_noD D (by decide +kernel) ?_;clear D)
   obtain ⟨_,_,M⟩:=bmod_of_top T
   clear hmg
   wrow_args hpre hlay hrd hwl hlo
   refine enter_call ?_
   w_top on
   have K0:=below_caller (Top.heap T)
   w_call any ho hd hcd hD T F
   clear hd
   k_drop
   all_goals try k_fold
   rename Ground ..=>z9;clear z9
   rename Tables ..=>z9;clear z9
   rename TopE ..=>z9;clear z9
   rename TopW ..=>z9;clear z9
   rename BMod ..=>z9;clear z9
   rename Flt.MathXP ..=>z9;clear z9
   rename LooseAre ..=>z9;clear z9
   rename Heap.CodeRec ..=>z9;clear z9
   rename Dflts ..=>z9;clear z9
   rename ReadsAllW ..=>z9;clear z9
   rename ReadsAll ..=>z9;clear z9
   rename Well ..=>z9;clear z9
   rename Reads ..=>z9;clear z9
   rename Spec.Shape.has _ _ = true=>z9;clear z9
   rename Heap.IsList ..=>hScr
   rename IntsAre ..=>hInts
   rename ¬ _ < _=>hLen
   rename _ = #[]=>hGens
   iterate 28 (all_goals (try (first | (k_unfold;(try dsimp only)) | walk1 | (dsimp only;walk1))))
   rename News _ _ _ _=>NN
   rename Fr _ _ _ _=>FF
   obtain ⟨lw,hlw,hlw2⟩:=iu (by assumption:IntsAre _ (List.take 4 _))
   subst hlw
   have hlw3:lw.length ≤ 4:=by
    rw [← List.length_map (f:=(·.1)),hlw2,List.length_take]
    exact Nat.min_le_left _ _
   have la:=News.isList NN (.tail _ (.head _))
   have lb:=News.isList NN (.head _)
   refine add_lists (vs:=bm lw) (ws:=[_,_,_,_,_]) FF NN la lb (fun h9 F9 N9=>?_) (by rw [sizeLine_eq];simp [bm];omega)
   rw [xr] at N9
   clear FF NN la lb
   iterate 2 (all_goals (try (first | (k_unfold;(try dsimp only)) | walk1 | (dsimp only;walk1))))
   refine' (m5 _ _ _ 0 (lw++mj _ _ _ _ _) ?h1 ?h2).use ?xB ?xF ?xX ?xN ?xT ?xk ?xd ?xu ?_;(case xB=>k_asm);(case xF=>k_asm);(case xX=>k_asm);(case xN=>k_asm);(case xT=>k_asm);(case xk=>exact rfl);(case xd=>first | decide | ((try simp (config:={zetaDelta:=true}) only [depth_under_make,depth_under_kw,depth_in1,depth_deeper,depth_caller,units_in1,units_deeper,Around.mark_units,units_caller,Around.in1_depth,Around.in1_units,Around.deeper_units] at *);(try dsimp only [ktrTop] at *);have hcL9:=cLine_is;(simp only [recursionLimit] at *);omega));(case xu=>first | decide | ((try simp (config:={zetaDelta:=true}) only [depth_under_make,depth_under_kw,depth_in1,depth_deeper,depth_caller,units_in1,units_deeper,Around.mark_units,units_caller,Around.in1_depth,Around.in1_units,Around.deeper_units] at *);(try dsimp only [ktrTop] at *);have hcL9:=cLine_is;(simp only [recursionLimit] at *);omega))
   case h1=>exact .head _
   case h2=>simp [mj];omega
   intro v new h2 tk2 F2 N2 hR
   refine (let G0:Prop:=_;(?_:G0))
   obtain ⟨B,nB,ys,nw,ps,rfl,rfl,hps,hys⟩:=hR
   refine (?_:wpAny _ _ _ _ _ _)
   have hes:=zR (by simp [mj];omega) hps
   generalize fN _ ps = es at hys hes
   clear hps hlw2 hlw3
   clear N9 F9
   iterate 2 (all_goals (try (first | (k_unfold;(try dsimp only)) | walk1 | (dsimp only;walk1))))
   rename News _ _ _ _=>NN
   rename Fr _ _ _ _=>FF
   rename Below _ _ _ _=>BB
   rename Top _ _ _ _ _ _=>TT
   rename (K _).In _=>XX
   rename Obj.data _ = _=>hoC
   have hoC':=hoC.trans (b:=Data.cell none) rfl
   refine uy rfl BB FF XX NN ?_ TT hoC' hys hes hGens ?_
   ·((repeat (first | with_reducible exact List.mem_cons_self | refine al ?_));(try first | with_reducible assumption | (refine aj ?_;with_reducible assumption) | (refine ac ?_;with_reducible assumption)))
   intro m' h' tk' g' F' hg'
   iterate 1 (all_goals (try (first | (k_unfold;(try dsimp only)) | walk1 | (dsimp only;walk1))))
   refine ⟨.inl ⟨.bool true,.bool true,[],rfl,fun _=>rfl,.bool true,by wrow_post,unshared_nil⟩,.of_keep F'.keep,rfl,fun y hy=>?_⟩
   obtain ⟨i,hi,rfl⟩:=Array.getElem_of_mem hy
   have h9:=hg' i hi
   rw [Array.getElem?_eq_getElem hi] at h9
   rw [Option.some.inj h9]
   rfl
end Mine
theorem PySem.Challenge.cw_ik0243_01_holds : PySem.Challenge.rw_ik0243_01.Holds := by
  exact Mine.law_end
