import PyProof.Rows.All
import Wide.All
import OpenK.AllK
import Wide.FinOn
import PyProof.ExcArgs
import PyProof.ExcBaseAll.Exception
import PyProof.ExcAttrAll.Exception
import KE.KIsAll
import KE.KListMore
import KE.KPop
import KE.KSlice
import KE.KSliceW
import KE.KTryDeep
import KE.KSuper
import KE.LcTurns
import KE.KxPercent
import PyProof.ReprStr
import PyProof.ReprUnder
import Lean
import PySem.Challenge.RW_im0050_02
set_option Elab.async false
set_option bootstrap.genMatcherCode false
set_option linter.all false
set_option genSizeOf false
set_option genInjectivity false
set_option maxRecDepth 100000
set_option tactic.hygienic false
section
set_option tactic.hygienic true
open PySem PySem.W PySem.Calls PyProof.Rows
namespace MineH
noncomputable section
abbrev pw:Program:=PySem.Challenge.pw_im0050_02
abbrev rw_:OpenLaw:=PySem.Challenge.rw_im0050_02
noncomputable def S(x:String):Str:=Str.ofString x
noncomputable def N:Value:=.none
noncomputable def B(b:Bool):Value:=.bool b
noncomputable def I(i:Int)(t:Tok):Value:=.int i t
noncomputable def s(x:String)(t:Tok):Value:=.str (Str.ofString x) t
noncomputable def T(n:String):Value:=.type n
noncomputable def U(n:String):Value:=.builtin n
noncomputable def R(a:Addr):Value:=.ref a
noncomputable def K(P:Params)(x:Str)(t:Tok)(v:Value):DictEntry:=⟨PyData.keyHash P x,.str x t,v⟩
noncomputable def Q(xs:List Value)(n:Nat):Data:=.seq xs.toArray n
noncomputable def G(es:List DictEntry)(n:Nat):Data:=.dict es.toArray n
noncomputable def L(xs:List Value):Data:=.fields xs.toArray
noncomputable def sl(xs:List (Option Value)):Array (Option Value):=xs.toArray
noncomputable def ob(c:Value)(d:Data):Obj:=⟨c,none,d,#[]⟩
noncomputable def tu(xs:List Value):Obj:=⟨.type "tuple",none,.seq xs.toArray 0,#[]⟩
noncomputable def fi(c:Value)(xs:List Value):Obj:=⟨c,none,.fields xs.toArray,#[]⟩
noncomputable def D(i:Nat):Stmt:=pw.main.body.getD i (.Pass ⟨0,0,0,0⟩)
noncomputable def M(i j:Nat):Stmt:=match D i with
 | .ClassDef _ _ _ b _ _ _ _ _ _ _=>b.getD j (.Pass ⟨0,0,0,0⟩)
 |x=>x
noncomputable def F(st:Stmt)(qual:Str)(gl:Addr)(cl:List (Str×Addr))(dv kv doc pm:Value)(an:Option Addr)(cd ct:Value)(bi:Addr):FuncData:=match st with
 | .FunctionDef n a b _ _ _ sc _ _ _=>{name:=n,qualname:=qual,params:=a,body:=.stmts b,scope:=sc,globals:=gl,closure:=cl,defaults:=dv,kwdefaults:=kv,doc:=doc,pyModule:=pm,annotations:=an,code:=cd,closureTuple:=ct,builtins:=bi}
 |_=>default
noncomputable def C(name:Str)(bases mro:List Value)(ns:Addr)(qual:Str)(hd:Bool)(sn:List Str)(sub:List Value)(ab:Bool)(col:Option Bool)(del:Bool):ClassData:=
 {name:=name,bases:=bases,mro:=mro,ns:=ns,qualname:=qual,hasDict:=hd,slotNames:=sn,subclasses:=sub,abstract:=ab,collection:=col,hasDel:=del}
noncomputable def nd(o:Obj)(l r:BT):BT:=.node o l r
noncomputable def nl:BT:=.nil
noncomputable def env:Env:={scope:=pw.main.scope,locals:=mainNs,globals:=mainNs,cells:=[],code:=.ref 13,frame:=some 14}
noncomputable def p0:Pos:=⟨0,0,0,0⟩
noncomputable def p1:Pos:=⟨295,0,303,24⟩
noncomputable def p2:Pos:=⟨1683,0,1693,33⟩
noncomputable def body:List Stmt:=behindTheImports pw
noncomputable def cB:Code:=.body body env
noncomputable def bot:List Frame:=[topFrame p0]
noncomputable def st(t:BT)(n:Nat)(tk:Nat)(os:OsState):SharedT:=⟨t,n,{},#[],{},tk,os⟩
noncomputable def e(P:Params)(x:String)(t:Tok)(v:Value):DictEntry:=K P (S x) t v
noncomputable def dO(l:List DictEntry)(n:Nat):Obj:=ob (T "dict") (G l n)
noncomputable def ss(t:Tok):List String→List Value
 |[]=>[]
 |x::r=>s x t::ss (t+1) r
structure FI where
 a:Addr
 t:Tok
 j:Nat
 n:String
 l:Int
 c:Int
 v:Nat
 vs:List String
 dl:List Value
 g:Bool
 d:Value
noncomputable def ff(a:Addr)(t:Tok)(j:Nat)(n:String)(l c:Int)(v:Nat)(dl:List Value:=[]):FI:=⟨a,t,j,n,l,c,v,[],dl,false,N⟩
noncomputable def fh(a:Addr)(t:Tok)(j:Nat)(n:String)(l c:Int)(vs:List String)(dl:List Value:=[]):FI:=⟨a,t,j,n,l,c,vs.length,vs,dl,false,N⟩
noncomputable def gg(n:String)(t:Tok)(d:Value):FI:=⟨0,t,0,n,0,0,0,[],[],true,d⟩
noncomputable def fc(q:Str)(x:FI):Obj:=fi (T "code") [s x.n x.t,.str q (x.t+1),s "/claim/cut.py" (x.t+2),I x.l 0,I x.c 0,I 0 0,I 0 0,I 3 0,R x.a,B true,I 181 0,R (x.a+1),N,R (x.a+2),R (x.a+3),R (x.a+4),I (x.t+3+x.v:Nat) 0,I x.l 0,s "/claim/cut.py" (x.t+4+x.v)]
noncomputable def fo(m:Value)(st:Stmt)(q:Str)(x:FI)(cl:List (Str×Addr))(ct:Value):Obj:=ob (T "function") (Data.func (F st q 3 cl (match x.dl with|[]=>N|_=>R (x.a-1)) N N m none (R (x.a+5)) ct 0))
noncomputable def mk(b:Bool)(D:Nat→Stmt)(q:String→Str)(m:Value)(x:FI):List (Addr×Obj):=bif x.g then [] else
 (match x.dl with|[]=>[]|l=>[(x.a-1,tu l)])++((bif b then [] else [(x.a,tu []),(x.a+1,fi N []),(x.a+2,tu (ss (x.t+3) x.vs)),(x.a+3,tu []),(x.a+4,ob N (Data.func (F (D x.j) (q x.n) 0 [] N N N N none N N 0)))])++[(x.a+5,fc (q x.n) x),(x.a+6,fo m (D x.j) (q x.n) x [] N)])
noncomputable def qn(p n:String):Str:=⟨((S p).cps.toList++46::(S n).cps.toList).toArray⟩
noncomputable def ents(P:Params)(fs:List FI)(r:List DictEntry):List DictEntry:=fs.map (fun x=>bif x.g then e P x.n x.t x.d else e P x.n (x.t+5+x.v) (R (x.a+6)))++r
noncomputable def bm(z:Addr):Obj:=fi (T "builtin_function_or_method") [U "object.__init_subclass__",R z]
noncomputable def ck(b:Bool)(P:Params)(a:Addr)(t:Tok)(n:String)(l:Int)(mr:List Value)(m:Value)(i:Nat)(sa:Addr)(x w:Nat)(fs:List FI)(sn:List String)(sb:List Value:=[])(nw:String:="object.__new__"):List (Addr×Obj):=
 (bif b then [] else [(a,tu (bif w==3 then [] else mr.take 1)),(a+1,fi (T "builtin_function_or_method") [U "type.__prepare__",T "type"]),
  (a+2,dO (e P "__module__" (t+5) m::e P "__qualname__" (t+7) (s n (t+6))::e P "__firstlineno__" (t+9) (I l (t+8))::ents P fs [e P "__static_attributes__" x (R sa)]) (fs.length+4)),(a+3,tu []),
  (a+4,fi N (fs.flatMap fun y=>bif y.g then [] else [I y.l 0,I 4 0,R (y.a+5)])),
  (a+5,fi (T "code") [s n t,s n (t+1),s "/claim/cut.py" (t+2),I l 0,I 0 0,I 0 0,I 0 0,I 0 0,R (a+3),B false,I 181 0,R (a+4),N,N,N,N,I (t+3:Nat) 0,I l 0,s "/claim/cut.py" (t+4)]),
  (a+6,⟨T "frame",none,Data.plain,sl [some (R (a+5)),some (R 3),some (R (a+2)),none,some m,none,some (R 0)]⟩)])++
 (fs.flatMap (mk b (M i) (qn n) m)++
 ([(sa,tu (ss (x-sn.length) sn)),
  (sa+1,dO (e P "__module__" (t+5) m::e P "__firstlineno__" (t+9) (I l (t+8))::ents P fs (e P "__static_attributes__" x (R sa)::match w with
   |0=>[e P "__doc__" (x+1) N]
   |1=>[e P "__weakref__" (x+2) (R (sa+3)),e P "__doc__" (x+3) N]
   |4=>[e P "__doc__" (x+2) N]
   |_=>[e P "__dict__" (x+2) (R (sa+3)),e P "__weakref__" (x+4) (R (sa+4)),e P "__doc__" (x+5) N])) (match w with|0=>2|1=>3|4=>3|_=>4)),
  (sa+2,⟨T "type",none,Data.cls (C (S n) (mr.take 1) (R (sa+2)::mr) (sa+1) (S n) true [] sb false none false),sl [bif w==3 then none else some (R a),none,some (s n (t-2)),some (s n (t+6)),some (U nw),some (B true)]⟩)]++
 bif b then [] else match w with
  |0=>[(sa+3,fi (T "super") [R (sa+2),R (sa+2),R (sa+2)]),(sa+4,bm (sa+2))]
  |1=>[(sa+3,fi (T "getset_descriptor") [s "__weakref__" (x+1),R (sa+2),U "ExceptionGroup.__weakref__",N]),(sa+4,fi (T "super") [R (sa+2),R (sa+2),R (sa+2)]),(sa+5,bm (sa+2))]
  |_=>[(sa+3,fi (T "getset_descriptor") [s "__dict__" (x+1),R (sa+2),U "function.__dict__",U "function.__dict__#set"]),(sa+4,fi (T "getset_descriptor") [s "__weakref__" (x+3),R (sa+2),U "ExceptionGroup.__weakref__",N]),(sa+5,fi (T "super") [R (sa+2),R (sa+2),R (sa+2)]),(sa+6,bm (sa+2))]))
noncomputable def m0:=s "__main__" 164
noncomputable def m1:=s "yaml.error" 194
noncomputable def m2:=s "yaml.tokens" 321
noncomputable def m3:=s "yaml.events" 798
noncomputable def m4:=s "yaml.reader" 1142
noncomputable def m5:=s "yaml.scanner" 1285
noncomputable def m6:=s "yaml.parser" 2098
noncomputable def m7:=s "law_im0050_02" 2419
noncomputable def q0:List Value:=[T "object"]
noncomputable def q1:List Value:=[T "Exception",T "BaseException",T "object"]
noncomputable def q2:List Value:=[R 67,T "Exception",T "BaseException",T "object"]
noncomputable def q3:List Value:=[R 114,T "object"]
noncomputable def q4:List Value:=[R 427,T "object"]
noncomputable def q5:List Value:=[R 449,R 427,T "object"]
noncomputable def q6:List Value:=[R 469,R 449,R 427,T "object"]
noncomputable def q7:List Value:=[R 481,R 427,T "object"]
noncomputable def q8:List Value:=[R 95,R 67,T "Exception",T "BaseException",T "object"]
noncomputable def q9:List Value:=[R 730,T "object"]
noncomputable def q10:List Value:=[R 1281,R 730,T "object"]
noncomputable def x3(P:Params)(m:Value):List DictEntry:=let e:=e P;[e "__name__" 165 m,e "__doc__" 166 N,e "__package__" 167 N,e "__loader__" 168 (U "__main__.__loader__#opaque"),e "__spec__" 169 N,e "__annotations__" 170 (R 6),e "__builtins__" 171 (R 4),e "__file__" 173 (s "/claim/cut.py" 172),e "__cached__" 174 N,e "_wall" 193 (R 21),e "Mark" 259 (R 53),e "YAMLError" 279 (R 67),e "MarkedYAMLError" 320 (R 95),e "Token" 353 (R 114),e "DirectiveToken" 386 (R 135),e "DocumentStartToken" 404 (R 147),e "DocumentEndToken" 422 (R 159),e "StreamStartToken" 453 (R 179),e "StreamEndToken" 471 (R 191),e "BlockSequenceStartToken" 489 (R 203),e "BlockMappingStartToken" 507 (R 215),e "BlockEndToken" 525 (R 227),e "FlowSequenceStartToken" 543 (R 239),e "FlowMappingStartToken" 561 (R 251),e "FlowSequenceEndToken" 579 (R 263),e "FlowMappingEndToken" 597 (R 275),e "KeyToken" 615 (R 287),e "ValueToken" 633 (R 299),e "BlockEntryToken" 651 (R 311),e "FlowEntryToken" 669 (R 323),e "AliasToken" 700 (R 342),e "AnchorToken" 731 (R 361),e "TagToken" 762 (R 380),e "ScalarToken" 797 (R 400),e "Event" 837 (R 427),e "NodeEvent" 866 (R 449),e "CollectionStartEvent" 901 (R 469),e "CollectionEndEvent" 917 (R 481),e "StreamStartEvent" 946 (R 501),e "StreamEndEvent" 962 (R 513),e "DocumentStartEvent" 995 (R 533),e "DocumentEndEvent" 1024 (R 553),e "AliasEvent" 1040 (R 565),e "ScalarEvent" 1077 (R 585),e "SequenceStartEvent" 1093 (R 597),e "SequenceEndEvent" 1109 (R 609),e "MappingStartEvent" 1125 (R 621),e "MappingEndEvent" 1141 (R 633),e "ReaderError" 1183 (R 659),e "_is_printable" 1190 (R 668),e "Reader" 1284 (R 730),e "ScannerError" 1302 (R 744),e "SimpleKey" 1341 (R 763),e "Scanner" 2097 (R 1281),e "ParserError" 2115 (R 1293),e "Parser" 2418 (R 1521),e "_law_HEADS" 2426 (R 1530),e "_law_CONTENTS" 2432 (R 1537),e "_law_KEYS" 2436 (R 1538),e "_law_WORK" 2461 (R 1539),e "_law_built" 2467 (R 1544),e "_law_empty" 2474 (R 1551),e "_law_refused" 2483 (R 1558),e "_law_node" 2497 (R 1565),e "_law_left" 2508 (R 1572),e "_law_entries" 2519 (R 1579),e "_law_pairs" 2528 (R 1586),e "_law_told" 2535 (R 1593),e "_law_read" 2545 (R 1600),e "law" 2557 (R 1607)]
noncomputable def o3(P:Params):Obj:=dO ((x3 P (s "yaml.scanner" 1285)).take 53) 53
noncomputable def k3(P:Params):Obj:=dO (x3 P (s "law_im0050_02" 2419)) 70
noncomputable abbrev a0:=PySem.W.boot_o_0
noncomputable def a1(P:Params):Obj:=let e:=e P;dO [e "builtins" 162 (R 4),e "__main__" 163 (R 5)] 2
noncomputable def a2(_:Params):Obj:=ob N (G [] 0)
noncomputable def a3(P:Params):Obj:=let e:=e P;dO [e "__name__" 165 (s "__main__" 164),e "__doc__" 166 N,e "__package__" 167 N,e "__loader__" 168 (U "__main__.__loader__#opaque"),e "__spec__" 169 N,e "__annotations__" 170 (R 6),e "__builtins__" 171 (R 4),e "__file__" 173 (s "/claim/cut.py" 172),e "__cached__" 174 N] 9
noncomputable def a4(_:Params):Obj:=⟨(T "module"),some 0,Data.plain,sl []⟩
noncomputable def a5(_:Params):Obj:=⟨(T "module"),some 3,Data.plain,sl []⟩
noncomputable def a6(_:Params):Obj:=dO [] 0
noncomputable def a7(_:Params):Obj:=tu []
noncomputable def a8(_:Params):Obj:=fi N []
noncomputable def a9(_:Params):Obj:=fi (T "code") [s "<module>" 176,s "<module>" 177,s "/claim/cut.py" 178,I 1 0,I 0 0,I 0 0,I 0 0,I 0 0,R 7,B false,I 175 0,R 8,N,N,N,N,I 179 0,I 1 0,s "/claim/cut.py" 180]
noncomputable def a10(_:Params):Obj:=⟨(T "frame"),none,Data.plain,sl [some (R 9),some (R 3),some (R 3),none,some (s "__main__" 164),none,some (R 0)]⟩
noncomputable def a11(_:Params):Obj:=tu []
noncomputable def a12(_:Params):Obj:=fi N []
noncomputable def a13(_:Params):Obj:=fi (T "code") [s "<module>" 182,s "<module>" 183,s "/claim/cut.py" 184,I 1 0,I 0 0,I 0 0,I 0 0,I 0 0,R 11,B false,I 181 0,R 12,N,N,N,N,I 185 0,I 1 0,s "/claim/cut.py" 186]
noncomputable def a14(_:Params):Obj:=⟨(T "frame"),none,Data.plain,sl [some (R 13),some (R 3),some (R 3),none,some (s "__main__" 164),none,some (R 0)]⟩
noncomputable def o2(P:Params):Obj:=ob N (G [(K P (S "type.__subclasses__.Exception.0") 276 (I (67) 0)),(K P (S "type.__subclasses__.Exception.n") 277 (I (1) 0))] 2)
noncomputable def o12(_:Params):Obj:=fi N [I 1 0,I 0 0,R 20,I 5 0,I 0 0,R 27,I 43 0,I 0 0,R 63,I 45 0,I 0 0,R 76,I 68 0,I 0 0,R 103,I 73 0,I 0 0,R 124,I 81 0,I 0 0,R 143,I 83 0,I 0 0,R 155,I 85 0,I 0 0,R 167,I 92 0,I 0 0,R 187,I 94 0,I 0 0,R 199,I 96 0,I 0 0,R 211,I 98 0,I 0 0,R 223,I 100 0,I 0 0,R 235,I 102 0,I 0 0,R 247,I 104 0,I 0 0,R 259,I 106 0,I 0 0,R 271,I 108 0,I 0 0,R 283,I 110 0,I 0 0,R 295,I 112 0,I 0 0,R 307,I 114 0,I 0 0,R 319,I 116 0,I 0 0,R 331,I 123 0,I 0 0,R 350,I 130 0,I 0 0,R 369,I 137 0,I 0 0,R 388,I 147 0,I 0 0,R 408,I 155 0,I 0 0,R 437,I 161 0,I 0 0,R 457,I 170 0,I 0 0,R 477,I 172 0,I 0 0,R 489,I 178 0,I 0 0,R 509,I 180 0,I 0 0,R 521,I 188 0,I 0 0,R 541,I 194 0,I 0 0,R 561,I 196 0,I 0 0,R 573,I 206 0,I 0 0,R 593,I 208 0,I 0 0,R 605,I 210 0,I 0 0,R 617,I 212 0,I 0 0,R 629,I 215 0,I 0 0,R 641,I 229 0,I 0 0,R 667,I 231 0,I 0 0,R 674,I 293 0,I 0 0,R 740,I 295 0,I 0 0,R 752]
noncomputable def k771(_:Params):Obj:=ob (T "cell") (Data.cell (some (R 1281)))
noncomputable def k776(_:Params):Obj:=tu [R 771]
noncomputable def i782:=ff 777 1354 0 "__init__" 306 2 3
noncomputable def k782(_:Params):Obj:=fc (qn "Scanner" "__init__") i782
noncomputable def k783(_:Params):Obj:=fo m5 (M 49 0) (qn "Scanner" "__init__") i782 [(S "__class__",771)] (R 776)
noncomputable def k784(_:Params):Obj:=tu []
noncomputable def k1213(P:Params):Obj:=let e:=e P;dO [e "0" 1905 (s "\x00" 1906),e "a" 1908 (s "\x07" 1909),e "b" 1911 (s "\x08" 1912),e "t" 1914 (s "\t" 1915),e "\t" 1917 (s "\t" 1918),e "n" 1920 (s "\n" 1921),e "v" 1923 (s "\x0b" 1924),e "f" 1926 (s "\x0c" 1927),e "r" 1929 (s "\x0d" 1930),e "e" 1932 (s "\x1b" 1933),e " " 1935 (s " " 1936),e "\"" 1938 (s "\"" 1939),e "\\" 1941 (s "\\" 1942),e "/" 1944 (s "/" 1945),e "N" 1947 (s "" 1948),e "_" 1950 (s " " 1951),e "L" 1953 (s " " 1954),e "P" 1956 (s " " 1957)] 18
noncomputable def k1215(P:Params):Obj:=let e:=e P;dO [e "x" 1960 (I 2 1961),e "u" 1962 (I 4 1963),e "U" 1964 (I 8 1965)] 3
noncomputable def k1299(_:Params):Obj:=ob (T "cell") (Data.cell (some (R 1521)))
noncomputable def k1304(P:Params):Obj:=let e:=e P;dO [e "!" 2128 (s "!" 2129),e "!!" 2130 (s "tag:yaml.org,2002:" 2131)] 2
noncomputable def k1305(_:Params):Obj:=tu [R 1299]
noncomputable def i1311:=ff 1306 2135 1 "__init__" 1151 2 3
noncomputable def k1311(_:Params):Obj:=fc (qn "Parser" "__init__") i1311
noncomputable def k1312(_:Params):Obj:=fo m6 (M 52 1) (qn "Parser" "__init__") i1311 [(S "__class__",1299)] (R 1305)
noncomputable def k1538(_:Params):Obj:=ob (T "list") (Q [(s "?" 2433),(s ":" 2434),(s "end" 2435)] 0)
noncomputable def k1539(P:Params):Obj:=let e:=e P;dO [e "-" 2437 (I 2 2438),e "key" 2439 (I 6 2440),e "?" 2441 (I 2 2442),e ":" 2443 (I 2 2444),e "s" 2445 (I 3 2446),e "b" 2447 (I 3 2448),e "&" 2449 (I 2 2450),e "!" 2451 (I 2 2452)] 8
noncomputable def k1543(_:Params):Obj:=fi (T "code") [s "_law_built" 2462,s "_law_built" 2463,s "/claim/cut.py" 2464,I 1541 0,I 1 0,I 0 0,I 0 0,I 3 0,R 1540,B true,I 181 0,R 1541,N,N,N,R 1542,I 2465 0,I 1541 0,s "/claim/cut.py" 2466]
noncomputable def k1544(_:Params):Obj:=ob (T "function") (Data.func (F (D 58) (S "_law_built") 3 [] N N N (s "law_im0050_02" 2419) none (R 1543) N 0))
noncomputable def oB(b:Bool)(P:Params):List (Addr×Obj):=let c:=ck b P;let k:=mk b D S;List.flatten [
 k m0 (fh 15 187 0 "_wall" 1 1 ["k"]),
 c 22 198 "Mark" 5 q0 m1 2 51 252 3 [fh 29 208 0 "__init__" 7 7 ["self","name","index","line","column","buffer","pointer"],fh 37 223 1 "get_snippet" 15 3 ["self","indent","max_length","head","start","tail","end","snippet"] [I 4 221,I 75 222],fh 44 237 2 "__str__" 37 1 ["self","snippet","where"]] ["buffer","column","index","line","name","pointer"],
 ck b P 58 262 "YAMLError" 43 q1 m1 0 65 272 1 [] [] [R 95,R 659] "Exception.__new__",
 ck b P 71 282 "MarkedYAMLError" 45 q2 m1 4 93 317 0 [fh 79 292 0 "__init__" 47 6 ["self","context","context_mark","problem","problem_mark","note"] [N,N,N,N,N],fh 86 304 1 "__str__" 54 1 ["self","lines"]] ["context","context_mark","note","problem","problem_mark"] (bif b then [R 744,R 1293] else [R 744]) "Exception.__new__",
 ck b P 98 325 "Token" 68 q0 m2 6 112 346 2 [fh 105 335 0 "__init__" 70 3 ["self","start_mark","end_mark"]] ["end_mark","start_mark"] [R 135,R 147,R 159,R 179,R 191,R 203,R 215,R 227,R 239,R 251,R 263,R 275,R 287,R 299,R 311,R 323,R 342,R 361,R 380,R 400],
 c 119 356 "DirectiveToken" 73 q3 m2 7 133 383 0 [gg "id" 367 (s "<directive>" 366),fh 126 368 1 "__init__" 76 5 ["self","name","value","start_mark","end_mark"]] ["end_mark","name","start_mark","value"],
 c 138 389 "DocumentStartToken" 81 q3 m2 0 145 401 0 [gg "id" 400 (s "<document start>" 399)] [],
 c 150 407 "DocumentEndToken" 83 q3 m2 0 157 419 0 [gg "id" 418 (s "<document end>" 417)] [],
 c 162 425 "StreamStartToken" 85 q3 m2 10 177 450 0 [gg "id" 436 (s "<stream start>" 435),fh 170 437 1 "__init__" 88 4 ["self","start_mark","end_mark","encoding"] [N,N,N]] ["encoding","end_mark","start_mark"],
 c 182 456 "StreamEndToken" 92 q3 m2 0 189 468 0 [gg "id" 467 (s "<stream end>" 466)] [],
 c 194 474 "BlockSequenceStartToken" 94 q3 m2 0 201 486 0 [gg "id" 485 (s "<block sequence start>" 484)] [],
 c 206 492 "BlockMappingStartToken" 96 q3 m2 0 213 504 0 [gg "id" 503 (s "<block mapping start>" 502)] [],
 c 218 510 "BlockEndToken" 98 q3 m2 0 225 522 0 [gg "id" 521 (s "<block end>" 520)] [],
 c 230 528 "FlowSequenceStartToken" 100 q3 m2 0 237 540 0 [gg "id" 539 (s "[" 538)] [],
 c 242 546 "FlowMappingStartToken" 102 q3 m2 0 249 558 0 [gg "id" 557 (s "{" 556)] [],
 c 254 564 "FlowSequenceEndToken" 104 q3 m2 0 261 576 0 [gg "id" 575 (s "]" 574)] [],
 c 266 582 "FlowMappingEndToken" 106 q3 m2 0 273 594 0 [gg "id" 593 (s "}" 592)] [],
 c 278 600 "KeyToken" 108 q3 m2 0 285 612 0 [gg "id" 611 (s "?" 610)] [],
 c 290 618 "ValueToken" 110 q3 m2 0 297 630 0 [gg "id" 629 (s ":" 628)] [],
 c 302 636 "BlockEntryToken" 112 q3 m2 0 309 648 0 [gg "id" 647 (s "-" 646)] [],
 c 314 654 "FlowEntryToken" 114 q3 m2 0 321 666 0 [gg "id" 665 (s "," 664)] [],
 c 326 672 "AliasToken" 116 q3 m2 23 340 697 0 [gg "id" 683 (s "<alias>" 682),fh 333 684 1 "__init__" 119 4 ["self","value","start_mark","end_mark"]] ["end_mark","start_mark","value"],
 c 345 703 "AnchorToken" 123 q3 m2 24 359 728 0 [gg "id" 714 (s "<anchor>" 713),fh 352 715 1 "__init__" 126 4 ["self","value","start_mark","end_mark"]] ["end_mark","start_mark","value"],
 c 364 734 "TagToken" 130 q3 m2 25 378 759 0 [gg "id" 745 (s "<tag>" 744),fh 371 746 1 "__init__" 133 4 ["self","value","start_mark","end_mark"]] ["end_mark","start_mark","value"],
 c 383 765 "ScalarToken" 137 q3 m2 26 398 794 0 [gg "id" 776 (s "<scalar>" 775),fh 391 777 1 "__init__" 140 6 ["self","value","plain","start_mark","end_mark","style"] [N]] ["end_mark","plain","start_mark","style","value"],
 ck b P 403 802 "Event" 147 q0 m3 28 425 830 2 [fh 411 812 0 "__init__" 149 3 ["self","start_mark","end_mark"] [N,N],fh 418 821 1 "__repr__" 153 1 ["self"]] ["end_mark","start_mark"] [R 449,R 481,R 501,R 513,R 533,R 553],
 ck b P 432 840 "NodeEvent" 155 q4 m3 29 447 863 0 [fh 440 850 0 "__init__" 157 4 ["self","anchor","start_mark","end_mark"] [N,N]] ["anchor","end_mark","start_mark"] [R 469,R 565,R 585],
 ck b P 452 869 "CollectionStartEvent" 161 q5 m3 30 467 898 0 [fh 460 879 0 "__init__" 163 7 ["self","anchor","tag","implicit","start_mark","end_mark","flow_style"] [N,N,N]] ["anchor","end_mark","flow_style","implicit","start_mark","tag"] [R 597,R 621],
 ck b P 472 904 "CollectionEndEvent" 170 q4 m3 0 479 914 0 [] [] [R 609,R 633],
 c 484 920 "StreamStartEvent" 172 q4 m3 32 499 943 0 [fh 492 930 0 "__init__" 174 4 ["self","start_mark","end_mark","encoding"] [N,N,N]] ["encoding","end_mark","start_mark"],
 c 504 949 "StreamEndEvent" 178 q4 m3 0 511 959 0 [] [],
 c 516 965 "DocumentStartEvent" 180 q4 m3 34 531 992 0 [fh 524 975 0 "__init__" 182 6 ["self","start_mark","end_mark","explicit","version","tags"] [N,N,N,N,N]] ["end_mark","explicit","start_mark","tags","version"],
 c 536 998 "DocumentEndEvent" 188 q4 m3 35 551 1021 0 [fh 544 1008 0 "__init__" 190 4 ["self","start_mark","end_mark","explicit"] [N,N,N]] ["end_mark","explicit","start_mark"],
 c 556 1027 "AliasEvent" 194 q5 m3 0 563 1037 0 [] [],
 c 568 1043 "ScalarEvent" 196 q5 m3 37 583 1074 0 [fh 576 1053 0 "__init__" 198 8 ["self","anchor","tag","implicit","value","start_mark","end_mark","style"] [N,N,N]] ["anchor","end_mark","implicit","start_mark","style","tag","value"],
 c 588 1080 "SequenceStartEvent" 206 q6 m3 0 595 1090 0 [] [],
 c 600 1096 "SequenceEndEvent" 208 q7 m3 0 607 1106 0 [] [],
 c 612 1112 "MappingStartEvent" 210 q6 m3 0 619 1122 0 [] [],
 c 624 1128 "MappingEndEvent" 212 q7 m3 0 631 1138 0 [] [],
 ck b P 636 1146 "ReaderError" 215 q2 m4 43 657 1180 0 [fh 643 1156 0 "__init__" 217 6 ["self","name","position","character","encoding","reason"],fh 650 1168 1 "__str__" 224 1 ["self"]] ["character","encoding","name","position","reason"] [] "Exception.__new__",
 k m4 (fh 662 1184 44 "_is_printable" 229 1 ["ch"]),
 ck b P 669 1193 "Reader" 231 q0 m4 45 728 1277 2 [fh 676 1203 0 "__init__" 233 2 ["self","stream"],fh 684 1212 1 "peek" 251 2 ["self","index"] [I 0 1211],fh 692 1221 2 "prefix" 258 2 ["self","length"] [I 1 1220],fh 700 1230 3 "forward" 263 2 ["self","length","ch"] [I 1 1229],fh 707 1239 4 "get_mark" 277 1 ["self"],fh 714 1246 5 "check_printable" 283 2 ["self","data","start","character","position"],fh 721 1257 6 "update" 289 2 ["self","length"]] ["buffer","column","encoding","eof","index","line","name","pointer","raw_buffer","raw_decode","stream","stream_pointer"] (bif b then [R 1281] else []),
 ck b P 735 1289 "ScannerError" 293 q8 m5 0 742 1299 0 [] [] [] "Exception.__new__",
 c 747 1305 "SimpleKey" 295 q0 m5 48 761 1334 3 [fh 754 1315 0 "__init__" 297 7 ["self","token_number","required","index","line","column","mark"]] ["column","index","line","mark","required","token_number"]]
noncomputable def kB(P:Params):List (Addr×Obj):=let c:=ck true P;let k:=mk true D S;List.flatten [
 ck true P 768 1344 "Scanner" 304 q9 m5 49 1279 2093 4 [gg "__init__" 1362 (R 783),ff 786 1363 1 "check_token" 318 2 2 [R 784],ff 793 1371 2 "peek_token" 328 1 1,ff 800 1378 3 "get_token" 336 1 1,ff 807 1385 4 "need_more_tokens" 343 1 1,ff 814 1392 5 "fetch_more_tokens" 352 1 2,ff 821 1400 6 "next_possible_simple_key" 399 1 4,ff 828 1410 7 "stale_possible_simple_keys" 407 1 3,ff 835 1419 8 "save_possible_simple_key" 415 1 4,ff 842 1429 9 "remove_possible_simple_key" 423 1 2,ff 849 1437 10 "unwind_indent" 430 2 3,ff 856 1446 11 "add_indent" 438 2 2,ff 863 1454 12 "fetch_stream_start" 445 1 2,ff 870 1462 13 "fetch_stream_end" 449 1 2,ff 877 1470 14 "fetch_directive" 458 1 1,ff 884 1477 15 "fetch_document_start" 464 1 1,ff 891 1484 16 "fetch_document_end" 467 1 1,ff 898 1491 17 "fetch_document_indicator" 470 2 4,ff 905 1501 18 "fetch_flow_sequence_start" 479 1 1,ff 912 1508 19 "fetch_flow_mapping_start" 482 1 1,ff 919 1515 20 "fetch_flow_collection_start" 485 2 4,ff 926 1525 21 "fetch_flow_sequence_end" 494 1 1,ff 933 1532 22 "fetch_flow_mapping_end" 497 1 1,ff 940 1539 23 "fetch_flow_collection_end" 500 2 4,ff 947 1549 24 "fetch_flow_entry" 509 1 3,ff 954 1558 25 "fetch_block_entry" 517 1 4,ff 961 1568 26 "fetch_key" 533 1 4,ff 968 1578 27 "fetch_value" 547 1 5,ff 975 1589 28 "fetch_alias" 571 1 1,ff 982 1596 29 "fetch_anchor" 576 1 1,ff 989 1603 30 "fetch_tag" 581 1 1,ff 996 1610 31 "fetch_literal" 586 1 1,ff 1003 1617 32 "fetch_folded" 589 1 1,ff 1010 1624 33 "fetch_block_scalar" 592 2 2,ff 1017 1632 34 "fetch_single" 597 1 1,ff 1024 1639 35 "fetch_double" 600 1 1,ff 1031 1646 36 "fetch_flow_scalar" 603 2 2,ff 1038 1654 37 "fetch_plain" 608 1 1,ff 1045 1661 38 "check_directive" 613 1 1,ff 1052 1668 39 "check_document_start" 617 1 1,ff 1059 1675 40 "check_document_end" 622 1 1,ff 1066 1682 41 "check_block_entry" 627 1 1,ff 1073 1689 42 "check_key" 630 1 1,ff 1080 1696 43 "check_value" 636 1 1,ff 1087 1703 44 "check_plain" 642 1 2,ff 1094 1711 45 "scan_to_next_token" 646 1 2,ff 1101 1719 46 "scan_directive" 662 1 5,ff 1108 1730 47 "scan_directive_name" 680 2 5,ff 1115 1741 48 "scan_yaml_directive_value" 695 2 4,ff 1122 1751 49 "scan_yaml_directive_number" 707 2 5,ff 1129 1762 50 "scan_tag_directive_value" 718 2 4,ff 1136 1772 51 "scan_tag_directive_handle" 727 2 4,ff 1143 1782 52 "scan_tag_directive_prefix" 734 2 4,ff 1150 1792 53 "scan_directive_ignored_line" 741 2 3,ff 1157 1801 54 "scan_anchor" 752 2 9,ff 1164 1816 55 "scan_tag" 775 1 9,ff 1171 1831 56 "scan_block_scalar" 812 2 15,ff 1178 1852 57 "scan_block_scalar_indicators" 856 2 5,ff 1185 1863 58 "scan_block_scalar_ignored_line" 889 2 3,ff 1192 1872 59 "scan_block_scalar_indentation" 900 1 4,ff 1199 1882 60 "scan_block_scalar_breaks" 914 2 4,ff 1206 1892 61 "scan_flow_scalar" 926 2 7,gg "ESCAPE_REPLACEMENTS" 1959 (R 1213),gg "ESCAPE_CODES" 1969 (R 1215),ff 1216 1970 64 "scan_flow_scalar_non_spaces" 945 3 8,ff 1223 1984 65 "scan_flow_scalar_spaces" 984 3 9,ff 1230 1999 66 "scan_flow_scalar_breaks" 1006 3 5,ff 1237 2010 67 "scan_plain" 1019 1 8,ff 1244 2024 68 "scan_plain_spaces" 1046 3 10,ff 1251 2040 69 "scan_tag_handle" 1078 3 6,ff 1258 2052 70 "scan_tag_uri" 1096 3 6,ff 1265 2064 71 "scan_uri_escapes" 1117 3 7,ff 1272 2077 72 "scan_line_break" 1133 1 2] ["allow_simple_key","done","flow_level","indent","indents","possible_simple_keys","tokens","tokens_taken"] [R 1521],
 ck true P 1284 2102 "ParserError" 1146 q8 m6 0 1291 2112 0 [] [] [] "Exception.__new__",
 c 1296 2118 "Parser" 1148 q10 m6 52 1519 2414 4 [gg "DEFAULT_TAGS" 2134 (R 1304),gg "__init__" 2143 (R 1312),ff 1313 2144 2 "dispose" 1160 1 1,ff 1320 2151 3 "peek_event" 1163 1 1,ff 1327 2158 4 "get_event" 1169 1 2,ff 1334 2166 5 "parse_stream_start" 1177 1 3,ff 1341 2175 6 "parse_implicit_document_start" 1183 1 5,ff 1348 2186 7 "parse_document_start" 1195 1 7,ff 1355 2199 8 "parse_document_end" 1217 1 6,ff 1362 2211 9 "parse_document_content" 1229 1 2,ff 1369 2219 10 "process_directives" 1237 1 8,ff 1376 2233 11 "parse_block_node" 1263 1 1,ff 1383 2240 12 "parse_flow_node" 1266 1 1,ff 1390 2247 13 "parse_block_node_or_indentless_sequence" 1269 1 1,ff 1398 2254 14 "parse_node" 1272 3 14 [B false,B false],ff 1405 2274 15 "parse_block_sequence_first_entry" 1355 1 2,ff 1412 2282 16 "parse_block_sequence_entry" 1360 1 3,ff 1419 2291 17 "parse_indentless_sequence_entry" 1378 1 3,ff 1426 2300 18 "parse_block_mapping_first_key" 1392 1 2,ff 1433 2308 19 "parse_block_mapping_key" 1397 1 3,ff 1440 2317 20 "parse_block_mapping_value" 1415 1 2,ff 1447 2325 21 "parse_flow_sequence_first_entry" 1429 1 2,ff 1455 2333 22 "parse_flow_sequence_entry" 1434 2 4 [B false],ff 1462 2343 23 "parse_flow_sequence_entry_mapping_key" 1456 1 2,ff 1469 2351 24 "parse_flow_sequence_entry_mapping_value" 1465 1 2,ff 1476 2359 25 "parse_flow_sequence_entry_mapping_end" 1479 1 2,ff 1483 2367 26 "parse_flow_mapping_first_key" 1484 1 2,ff 1491 2375 27 "parse_flow_mapping_key" 1489 2 4 [B false],ff 1498 2385 28 "parse_flow_mapping_value" 1514 1 2,ff 1505 2393 29 "parse_flow_mapping_empty_value" 1528 1 1,ff 1512 2400 30 "process_empty_scalar" 1532 2 2] ["current_event","marks","state","states","tag_handles","yaml_version"],
 k m7 (ff 1524 2421 54 "_law_HEADS" 1535 0 0),
 k m7 (ff 1531 2427 55 "_law_CONTENTS" 1537 0 0),
 k m7 (ff 1545 2468 59 "_law_empty" 1591 1 1),
 k m7 (ff 1552 2475 60 "_law_refused" 1593 3 3),
 k m7 (ff 1559 2484 61 "_law_node" 1596 4 8),
 k m7 (ff 1566 2498 62 "_law_left" 1623 5 5),
 k m7 (ff 1573 2509 63 "_law_entries" 1628 5 5),
 k m7 (ff 1580 2520 64 "_law_pairs" 1639 3 3),
 k m7 (ff 1587 2529 65 "_law_told" 1654 1 1),
 k m7 (ff 1594 2536 66 "_law_read" 1674 1 4),
 k m7 (ff 1601 2546 67 "law" 1683 1 6),
 [(3,k3 P),(771,k771 P),(776,k776 P),(782,k782 P),(783,k783 P),(784,k784 P),(1213,k1213 P),(1215,k1215 P),(1299,k1299 P),(1304,k1304 P),(1305,k1305 P),(1311,k1311 P),(1312,k1312 P),(1538,k1538 P),(1539,k1539 P),(1543,k1543 P),(1544,k1544 P),(2,o2 P)]]
noncomputable def ev:List Obj→List Obj
 |x::_::r=>x::ev r
 |l=>l
noncomputable def od:List Obj→List Obj
 |_::y::r=>y::od r
 |_=>[]
noncomputable def bt:Nat→List Obj→BT
 |n+1,x::r=>nd x (bt n (ev r)) (bt n (od r))
 |_,_=>nl
noncomputable def tA(P:Params):BT:=bt 4 [a0 P,a1 P,a2 P,a3 P,a4 P,a5 P,a6 P,a7 P,a8 P,a9 P,a10 P,a11 P,a12 P,a13 P,a14 P]
noncomputable def tO(P:Params):BT:=bt 10 ([a0 P,a1 P,o2 P,o3 P,a4 P,a5 P,a6 P,a7 P,a8 P,a9 P,a10 P,a11 P,o12 P,a13 P,a14 P]++(oB false P).map (·.2))
noncomputable def Kf(P:Params):Frag:=oB true P++kB P
noncomputable def qv:Program:={pw with main:={pw.main with body:=[D 67]} }
noncomputable def looseN:List Str:=["_wall","Mark","YAMLError","MarkedYAMLError","Token","DirectiveToken","DocumentStartToken","DocumentEndToken","StreamStartToken","StreamEndToken","BlockSequenceStartToken","BlockMappingStartToken","BlockEndToken","FlowSequenceStartToken","FlowMappingStartToken","FlowSequenceEndToken","FlowMappingEndToken","KeyToken","ValueToken","BlockEntryToken","FlowEntryToken","AliasToken","AnchorToken","TagToken","ScalarToken","Event","NodeEvent","CollectionStartEvent","CollectionEndEvent","StreamStartEvent","StreamEndEvent","DocumentStartEvent","DocumentEndEvent","AliasEvent","ScalarEvent","SequenceStartEvent","SequenceEndEvent","MappingStartEvent","MappingEndEvent","ReaderError","_is_printable","Reader","ScannerError","SimpleKey","Scanner","ParserError","Parser","_law_HEADS","_law_CONTENTS","_law_KEYS","_law_WORK","_law_built","_law_empty","_law_refused","_law_node","_law_left","_law_entries","_law_pairs","_law_told","_law_read"].map S
noncomputable def asL:List Addr:=[20,21,34,35,36,42,43,49,50,51,52,53,65,66,67,78,84,85,91,92,93,94,95,110,111,112,113,114,131,132,133,134,135,145,146,147,157,158,159,169,175,176,177,178,179,189,190,191,201,202,203,213,214,215,225,226,227,237,238,239,249,250,251,261,262,263,273,274,275,285,286,287,297,298,299,309,310,311,321,322,323,338,339,340,341,342,357,358,359,360,361,376,377,378,379,380,390,396,397,398,399,400,410,416,417,423,424,425,426,427,439,445,446,447,448,449,459,465,466,467,468,469,479,480,481,491,497,498,499,500,501,511,512,513,523,529,530,531,532,533,543,549,550,551,552,553,563,564,565,575,581,582,583,584,585,595,596,597,607,608,609,619,620,621,631,632,633,648,649,655,656,657,658,659,667,668,681,682,683,689,690,691,697,698,699,705,706,712,713,719,720,726,727,728,729,730,742,743,744,759,760,761,762,763,785,791,792,798,799,805,806,812,813,819,820,826,827,833,834,840,841,847,848,854,855,861,862,868,869,875,876,882,883,889,890,896,897,903,904,910,911,917,918,924,925,931,932,938,939,945,946,952,953,959,960,966,967,973,974,980,981,987,988,994,995,1001,1002,1008,1009,1015,1016,1022,1023,1029,1030,1036,1037,1043,1044,1050,1051,1057,1058,1064,1065,1071,1072,1078,1079,1085,1086,1092,1093,1099,1100,1106,1107,1113,1114,1120,1121,1127,1128,1134,1135,1141,1142,1148,1149,1155,1156,1162,1163,1169,1170,1176,1177,1183,1184,1190,1191,1197,1198,1204,1205,1211,1212,1221,1222,1228,1229,1235,1236,1242,1243,1249,1250,1256,1257,1263,1264,1270,1271,1277,1278,1279,1280,1281,1291,1292,1293,1318,1319,1325,1326,1332,1333,1339,1340,1346,1347,1353,1354,1360,1361,1367,1368,1374,1375,1381,1382,1388,1389,1395,1396,1397,1403,1404,1410,1411,1417,1418,1424,1425,1431,1432,1438,1439,1445,1446,1452,1453,1454,1460,1461,1467,1468,1474,1475,1481,1482,1488,1489,1490,1496,1497,1503,1504,1510,1511,1517,1518,1519,1520,1521,1529,1530,1536,1537,1550,1551,1557,1558,1564,1565,1571,1572,1578,1579,1585,1586,1592,1593,1599,1600,1606,1607,3,771,776,782,783,784,1213,1215,1299,1304,1305,1311,1312,1538,1539,1543,1544,2]
theorem asL_eq(P:Params):asL=(Kf P).map (·.1):=by kernel_rfl
noncomputable abbrev Xt:Shared→Bool:=fun s=>xlAt qv [] s&&recOk rw_.row.records s
noncomputable def looksOf(P:Params)(s:Shared):=((staticsOk (importedModules pw.main.body) (boot_heap P) s.heap&&namesBound pw s.heap&&gensDone s&&laidKept (boot_heap P) s.heap),openSeen qv looseN (importedModules pw.main.body) Xt true s)
noncomputable def seenT(P:Params)(s:SharedT):=(looksOf P s.abs,s.n,asL.map s.tree.get)
noncomputable def goodOf(P:Params):=((true,openGood qv looseN),1608,(Kf P).map (fun p=>some p.2))
noncomputable def dead(o:Obj):Bool:=match o.data with| .freed=>true|_=>false
theorem alive_of{o:Obj}(h:dead o=false):alive o=some o:=by
 obtain⟨c,d,x,l⟩:=o;cases x<;>first|rfl|cases h
theorem obs_of{t:BT}{n:Nat}{life:Life}:∀(as:List Addr)(k:Frag),as.map t.get=k.map (fun p=>some p.2)→(as.all fun a=>Nat.blt a n)=true→(k.all fun p=> !dead p.2)=true→as.map (absHeap t n life).get?=k.map (fun p=>some p.2)
 |[],[],_,_,_=>rfl
 |[],_::_,h,_,_=>by cases h
 |_::_,[],h,_,_=>by cases h
 |a::as,p::k,h,l,d=>by
  simp only[List.map_cons,List.cons.injEq] at h⊢;simp only[List.all_cons,Bool.and_eq_true,Bool.not_eq_true'] at l d;exact⟨(abs_get (Nat.le_of_ble_eq_true l.1) h.1).trans (alive_of d.1),obs_of as k h.2 l.2 d.2⟩
theorem asL_lt:(asL.all fun a=>Nat.blt a 1608)=true:=by kernel_rfl
theorem kf_live(P:Params):((Kf P).all fun p=> !dead p.2)=true:=by kernel_rfl
noncomputable abbrev an:Option Value:=some (.ref 6)
noncomputable abbrev Yf_(s:Shared):List (Option Obj):=asL.map s.heap.get?
noncomputable abbrev Ya_(w:World):List (Option Obj):=(Kf w.params).map (fun p:Addr×Obj=>some p.2)
noncomputable abbrev Piece2(w:World)(os:OsState):Prop:=(segRunT treeTable pw w 11 an 1 5004 (st (tO w.params) 768 1342 os) (piecesOf (body.drop 49) env cB p1 bot)).map (fun r=>(r.1,r.2.2.1,r.2.2.2,seenT w.params r.2.1))=some (.next,cB,p2,goodOf w.params)
set_option maxRecDepth 100000 in
set_option maxHeartbeats 0 in
theorem piece2f(w:World)(os:OsState):Piece2 (w.withFollow "special-get-raises" false) os:=by
 unfold Piece2;rw[PySem.W.Fast.te10110043849684766642,PySem.W.Fast.te14364793385576792824]
 kernel_rfl
set_option maxRecDepth 100000 in
set_option maxHeartbeats 0 in
theorem piece2t(w:World)(os:OsState):Piece2 (w.withFollow "special-get-raises" true) os:=by
 unfold Piece2;rw[PySem.W.Fast.te10110043849684766642,PySem.W.Fast.te14364793385576792824]
 kernel_rfl
theorem piece2(w:World)(os:OsState):Piece2 w os:=by
 have e:=World.withFollow_self w "special-get-raises";cases hb:w.params.followText "special-get-raises" with
 |false=>rw[hb] at e;exact e▸piece2f w os
 |true=>rw[hb] at e;exact e▸piece2t w os
set_option maxRecDepth 100000 in
set_option maxHeartbeats 0 in
theorem pb_(w:World)(os:OsState):(topGo treeTable pw w 11 an 12 ⟨boot_heap w.params,Array.mk [],boot_drawn,boot_toks,os⟩ (topStub pw),segRunT treeTable pw w 11 an 1 1 (st (tA w.params) 15 187 os) (blockOf body env cB p0 bot),segRunT treeTable pw w 11 an 1 10366 (st (tA w.params) 15 187 os) (piecesOf (body.take 49) env cB p0 bot))=
  (some ((st (tA w.params) 15 187 os).abs,⟨denote treeTable cB,cB,p0,bot⟩),some (.next,st (tA w.params) 15 187 os,cB,p0),some (.next,st (tO w.params) 768 1342 os,cB,p1)):=by
 rw[PySem.W.Fast.te10110043849684766642,PySem.W.Fast.te14364793385576792824]
 kernel_rfl
theorem last_(w:World)(s:Shared):topRun treeTable pw w 11 an 2 s ⟨doneF .next,cB,p2,bot⟩=some s:=by
 cases s;rfl
noncomputable abbrev M_:Nat:=12+(1+(10366+(5004+2)))
theorem run_(w:World)(os:OsState):∃s₁,topRun treeTable pw w 11 an M_ ⟨boot_heap w.params,Array.mk [],boot_drawn,boot_toks,os⟩ (topStub pw)=some s₁∧(looksOf w.params s₁=(true,openGood qv looseN)∧asL.map s₁.heap.get?=(Kf w.params).map (fun p=>some p.2)):=by
 obtain⟨⟨fl,sT,c,q⟩,h1,h2⟩:=Option.map_eq_some_iff.mp (piece2 w os);obtain⟨rfl,h2⟩:=Prod.mk.inj h2;obtain⟨rfl,h2⟩:=Prod.mk.inj h2;obtain⟨rfl,h2⟩:=Prod.mk.inj h2;obtain⟨h3,h2⟩:=Prod.mk.inj h2;obtain⟨h4,h5⟩:=Prod.mk.inj h2;refine⟨sT.abs,?_,h3,obs_of _ _ h5 (by have h4':sT.n=1608:=h4;rw[h4'];exact asL_lt) (kf_live w.params)⟩;have k3:=piece_app (rest:=[]) (segRun_of h1) (piece_nil (last_ w sT.abs));have k2:=piece_app (segRun_of (Prod.mk.inj (Prod.mk.inj (pb_ w os)).2).2) k3;rw[List.append_nil,List.take_append_drop] at k2;exact go_top (Prod.mk.inj (pb_ w os)).1 (piece_block (segRun_of (Prod.mk.inj (Prod.mk.inj (pb_ w os)).2).1) k2)
theorem left_of{p q:Program}{loose:List Str}{X:Shared→Bool}{α:Type}{Yf:Shared→α}{Ya:World→α}{N:Nat}{g0:Bool}{H₀:Params→Heap}{gs₀:Array GenState}{d₀:Drawn}{k₀ m₀:Nat}{ann:Option Value}{M:Nat}
  (open_:∀w:World,(fencedOpening treeTable p w N).map (fun s=>(s.heap,s.gens,s.drawn,s.toks))=some (H₀ w.params,gs₀,d₀,k₀))
  (size:∀w:World,((H₀ w.params).isNs mainGlobals&&gs₀.size==0,(H₀ w.params).objs.size,(H₀ w.params).nsMap mainGlobals "__annotations__")=(true,m₀,ann))
  (le:Nat.ble M N=true)
  (run:∀(w:World)(os:OsState),∃s₁,topRun treeTable p w m₀ ann M ⟨H₀ w.params,gs₀,d₀,k₀,os⟩ (topStub p)=some s₁∧
   ((staticsOk (importedModules p.main.body) (H₀ w.params) s₁.heap&&namesBound p s₁.heap&&gensDone s₁&&laidKept (H₀ w.params) s₁.heap),openSeen q loose (importedModules p.main.body) X g0 s₁,Yf s₁)=(true,openGood q loose,Ya w)):LeftO p q loose X Yf Ya N g0:=fun w=>by
 obtain⟨⟨h,gs,d,k,os⟩,e,e'⟩:=Option.map_eq_some_iff.mp (open_ w);obtain⟨rfl,rfl,rfl,rfl⟩:h=H₀ w.params∧gs=gs₀∧d=d₀∧k=k₀:=by simpa using e'
 obtain⟨z1,z2,z3⟩:_∧_∧_:=by simpa only[Prod.mk.injEq] using size w
 obtain⟨s₁,r,l⟩:=run w os;obtain⟨l1,l2,l3⟩:_∧_∧_:=by simpa only[Prod.mk.injEq] using l
 have r:=topRun_mono (N-M) _ _ _ _ r;rw[show M+(N-M)=N by have:=Nat.le_of_ble_eq_true le;omega] at r;have t:topFrom treeTable p w N ⟨H₀ w.params,gs,d,k,os⟩=some s₁:=by
  unfold topFrom;dsimp only;rw[z1,z2,z3,r];show(match staticsOk (importedModules p.main.body) (H₀ w.params) s₁.heap&&namesBound p s₁.heap&&gensDone s₁&&laidKept (H₀ w.params) s₁.heap with|true=>_|false=>_)=_;rw[l1]
 unfold openEnds;rw[e];show(topFrom treeTable p w N _).map _=_;rw[t];exact congrArg some (Prod.ext l2 l3)
set_option maxRecDepth 100000 in
set_option maxHeartbeats 0 in
theorem left_:LeftO pw qv looseN Xt Yf_ Ya_ 40000:=
 left_of (M:=M_) (boot_open (by kernel_rfl) (by decide) (fun s=>by kernel_rfl)) (fun w=>by kernel_rfl) (by kernel_rfl) (fun w os=>by
  obtain⟨s₁,h1,h2,h3⟩:=run_ w os;refine⟨s₁,h1,?_⟩;obtain⟨h4,h5⟩:=Prod.mk.inj h2;exact Prod.ext h4 (Prod.ext h5 h3))
theorem nr_app(lk:Look):∀a b:List Stmt,noRoadLSs lk (a++b)=(noRoadLSs lk a&&noRoadLSs lk b)
 |[],b=>by simp[noRoadLSs]
 |s::a,b=>by rw[List.cons_append,noRoadLSs,noRoadLSs,nr_app lk a b,Bool.and_assoc]
noncomputable def lkA:Look:={strict:= !(importedModules pw.main.body).all cThrough.contains,foot:=none,bare:=(["vars","dir","locals"]:List Str).filter (readsOut pw pw.main.body)}
noncomputable abbrev lkB:Look:={strict:=false,foot:=none,bare:=[]}
set_option maxHeartbeats 0
theorem ws_lk:lkA=lkB:=by kernel_rfl
theorem ws1:namesResolve pw=true:=by rw[PySem.W.Fast.te8377067652309620493];kernel_rfl
theorem ws2a:noRoadLSs lkB (pw.main.body.take 49)=true:=by kernel_rfl
theorem ws2b:noRoadLSs lkB ((pw.main.body.drop 49).take 1)=true:=by kernel_rfl
theorem ws2c:noRoadLSs lkB ((pw.main.body.drop 49).drop 1)=true:=by kernel_rfl
theorem ws2:noRoadLSs {strict:= !(importedModules pw.main.body).all cThrough.contains,foot:=none,bare:=(["vars","dir","locals"]:List Str).filter (readsOut pw pw.main.body)} pw.main.body=true:=by
 show noRoadLSs lkA pw.main.body=true;rw[ws_lk,←List.take_append_drop 49 pw.main.body,nr_app,ws2a,←List.take_append_drop 1 (pw.main.body.drop 49),nr_app,ws2b,ws2c];rfl
theorem ws3:namesMeet pw pw.main.body (fun _ n=>attrL n)=true:=by kernel_rfl
theorem ws4:sreFenced pw.main=true:=by kernel_rfl
theorem ws5:looksOpen pw=true:=by
 unfold looksOpen;exact look_both (look_both (look_both (look_both (look_both ws4 (by kernel_rfl)) ws1) (by kernel_rfl)) ws2) ws3
theorem ws6:namesMeet pw rw_.above (fun _ n=> !rw_.own.contains n)=true:=by kernel_rfl
theorem ws7:rw_.row.wellSaid=true:=by
 unfold OpenRow.wellSaid OpenRow.partSaid
 repeat'(with_reducible refine look_both ?_ ?_)
 ·exact ws5
 all_goals kernel_rfl
theorem said_:rw_.wellSaid=true:=by
 unfold OpenLaw.wellSaid
 repeat'(with_reducible refine look_both ?_ ?_)
 ·exact ws7
 all_goals first|with_reducible exact ws6|kernel_rfl
noncomputable def dL:DefRec:=match D 67 with
 | .FunctionDef n a b _ _ _ sc _ _ ps=>⟨n,a,b,sc,ps⟩
 |_=>⟨S "",⟨[],[],none,[],[],none,[]⟩,[],⟨.function,[],false,false,[]⟩,p0⟩
noncomputable abbrev Walk_:Prop:=WalkO qv looseN (XL qv []) (InK Kf) rw_.row.toRowW dL [] (fun f vs=>PySem.call f vs)
theorem hd(call:Walk_):rw_.Holds:=holds_law said_ (fun said=>by
 refine PySem.W.holds_open (q:=qv) (loose:=looseN) (Xt:=Xt) (XP:=XL qv []) (Yf:=Yf_) (Ya:=Ya_) (YP:=InK Kf) (d:=dL) (kwd:=[]) (N:=40000) left_ (InK.of asL_eq) InK.keeps (fun s e=>xl_of s (Bool.and_eq_true_iff.mp e).1) XL.keeps (by kernel_rfl) (by kernel_rfl) (by kernel_rfl) (fun s e=>recFacts_of (Bool.and_eq_true_iff.mp e).2) (by kernel_rfl) said (by decide+kernel) ⟨rfl,rfl,rfl,rfl,rfl,by decide+kernel⟩ ?hw call
 case hw=>w_witness2)
end
end MineH
end
section
open PySem PySem.W PySem.Calls PyProof.Rows
namespace Mine.Internal
noncomputable section
noncomputable abbrev Led:=List (Addr×Obj)
noncomputable def SZ:Nat:=65536
inductive V where
 |absent|any|none|bool (b:Bool)|int (i:Int)|str (s:List Nat)
 |glob (a:Addr)|self|meth (f:Nat)
 |tup (xs:List V)|inst (C:Addr) (fs:List (Nat×V))
 |slist (xs:List V)|sdict (es:List (V×V))
 |list (xs:List V)|dict (es:List (V×V))|ltup (xs:List V)
noncomputable def V.nl:V→Bool
 | .list _| .dict _| .ltup _| .absent=>false
 |_=>true
noncomputable def V.lin:V→Bool
 | .list _| .dict _=>true
 |_=>false
inductive Bo where|add|sub|mul|mod|fdiv
inductive Co where|eq|ne|lt|le|gt|ge|isin|notin|is|isnot
set_option genCtorIdx false in
inductive Cst where|n|b (b:Bool)|i (i:Int)|s (s:List Nat)|neg (i:Int)
set_option genCtorIdx false in
inductive O1 where|len|chr|isi (x:Nat)|isStr|join
set_option genCtorIdx false in
inductive O2 where|bin (o:Bo)|cmp (o:Co)|sub|max|min
inductive E where
 |cst (c:Cst)
 |loc (i:Nat)
 |glb (x:Nat)
 |attr (e:E) (x:Nat)
 |op1 (o:O1) (a:E)
 |op2 (o:O2) (a b:E)
 |slice (a lo hi:E)
 |cmp2 (a:E) (o1:Co) (b:E) (o2:Co) (c:E)
 |not (a:E)
 |and (xs:List E)|or (xs:List E)
 |ite (t a b:E)
 |tup (xs:List E)|lst (xs:List E)|dic
 |meth (f x:Nat)
 |mcal (o:E) (x f:Nat) (xs:List E) (kw:List (Nat×E))
 |fcal (x f:Nat) (xs:List E) (kw:List (Nat×E))
 |new (x:Nat) (xs:List E) (kw:List (Nat×E))
 |newv (i:Nat) (xs:List E)
 |vcal (x:Nat)
 |supi (f:Nat) (xs:List E)
 |app (a:E) (e:E)|ext (a:E) (e:E)|pop (a:E)|pop0 (a:E)|ins (a:E) (i e:E)
 |split (e:E)|keys (a:E)|cat (a b:E)
 |tv (e:E)
 |pct (s:List Nat) (e:E)
 |comp (a:E) (lo hi k:Int)
 |opq
noncomputable abbrev E.cN:E:=.cst .n
noncomputable abbrev E.cB(b:Bool):E:=.cst (.b b)
noncomputable abbrev E.cI(i:Int):E:=.cst (.i i)
noncomputable abbrev E.cS(s:List Nat):E:=.cst (.s s)
noncomputable abbrev E.neg(i:Int):E:=.cst (.neg i)
noncomputable abbrev E.len(a:E):E:=.op1 .len a
noncomputable abbrev E.chr(a:E):E:=.op1 .chr a
noncomputable abbrev E.join(a:E):E:=.op1 .join a
noncomputable abbrev E.isi(a:E)(x:Nat):E:=.op1 (.isi x) a
noncomputable abbrev E.isStr(a:E):E:=.op1 .isStr a
noncomputable abbrev E.bin(o:Bo)(a b:E):E:=.op2 (.bin o) a b
noncomputable abbrev E.cmp(o:Co)(a b:E):E:=.op2 (.cmp o) a b
noncomputable abbrev E.sub(a b:E):E:=.op2 .sub a b
noncomputable abbrev E.max(a b:E):E:=.op2 .max a b
noncomputable abbrev E.min(a b:E):E:=.op2 .min a b
set_option genCtorIdx false in
inductive S where
 |expr (e:E)
 |asg (is:List Nat) (e:E)
 |unp (is:List Nat) (e:E)
 |setA (x:Nat) (e:E)
 |aug (i:Nat) (op:Bo) (e:E)
 |augA (x:Nat) (op:Bo) (e:E)
 |setI (x:Nat) (k e:E)
 |delI (x:Nat) (k:E)
 |ite (t:E) (a b:List S)
 |whl (t:E) (b:List S)
 |forL (i:Nat) (e:E) (b:List S)
 |forS (i j:Nat) (e:E) (b:List S)
 |forK (i:Nat) (x:Nat) (b:List S)
 |ret (e:E)
 |raise (x:Nat) (xs:List E)
 |brk|pas|ass (e:E)
 |tryN (b:List S)
 |opq
structure Fn where
 np:Nat
 nl:Nat
 defs:List (Option V)
 pn:List Nat
 code:List S
noncomputable abbrev Pt:=List (Nat×V)
structure St where
 loc:List V
 P:Pt
structure Ex where
 C:Addr
 fs:List (Nat×V)
set_option genCtorIdx false in
inductive R (α:Type) where
 |ok (a:α) (σ:St)
 |exc (x:Ex) (loc:List V)
set_option genCtorIdx false in
inductive CR where
 |ret (v:V) (P:Pt) (outs:List V)
 |exc (x:Ex)
inductive Fl where|next|brk|ret (v:V)
structure FnD where
 fo:Obj
 name:Str
 qual:Str
 params:Arguments
 body:List Stmt
 scope:Scope
 cl:List (Str×Addr)
 dV:Value
 kV:Value
 doc:Value
 pm:Value
 an:Option Addr
 cdv:Value
 ct:Value
 ns:List Str
@[reducible] noncomputable def FnD.fd (D:FnD):FuncData:=fnX D.name D.qual D.params D.body D.scope D.cl D.dV D.kV D.doc D.pm D.an D.cdv D.ct
structure RcD where
 fI:Addr
 me:Nat
 D:FnD
structure Tb where
 prog:Program
 w:World
 K:Frag
 an:Nat→Str
 fa:Nat→Addr
 CP:Addr
 gv:Nat→Option V
 ca:Addr→Nat→Option V
 fl:Addr→Option (List Nat×List (Option V))
 xc:Addr→Bool
 sb:Addr→Addr→Option Bool
 sp:List (List Nat×List (List Nat))
 pc:List Nat→List Nat→Bool
 ms:List (Nat×Nat)
 fs:List (Nat×Nat)
 sup:List Nat
 pf:Nat→Bool
 pinit:Nat
 fn:Nat→Fn
 fd:Nat→FnD
 rd:Addr→RcD
structure Bk where
 I:Led
 sx:Option Addr
 ad:Nat→Option Addr
structure Bk.le (a b:Bk):Prop where
 I:∀p∈a.I,p∈b.I
 sx:∀x,a.sx=some x→b.sx=some x
 ad:∀k x,a.ad k=some x→b.ad k=some x
theorem Bk.le.refl(a:Bk):a.le a:=⟨fun y0_ h=>h,fun y0_ h=>h,fun y0_ y1_ h=>h⟩
theorem Bk.le.trans{a b c:Bk}(h:a.le b)(k:b.le c):a.le c:=⟨fun p x=>k.I p (h.I p x),fun x e=>k.sx x (h.sx x e),fun i x e=>k.ad i x (h.ad i x e)⟩
noncomputable abbrev tupObj(vs:List Value):Obj:={cls:=.type "tuple",data:=.seq vs.toArray}
noncomputable def fieldOk(K:Frag)(C:Addr)(n:Str):Bool:=plainGet K C n&&hasDictIn K C&&(match findIn K (.ref C) n with|some attr=>noGet K attr|none=>false)
noncomputable def fieldX(K:Frag)(C:Addr)(n:Str):Bool:=findIn K (.ref C) "__getattribute__"==some (some (.builtin "BaseException.__getattribute__"))&&findIn K (.ref C) "__getattr__"==some none&&mroIn K C (.type "BaseException")==some true&&hasDictIn K C&&
 (match findIn K (.ref C) n with|some attr=>noGet K attr|none=>false)
noncomputable def fieldAt(K:Frag)(C:Addr)(n:Str):Bool:=fieldOk K C n||fieldX K C n
variable(T:Tb) (bk:Bk)
inductive InR (C:Addr) (fs:List (Nat×V)) (es:List DictEntry):Value→Prop
 |mk {x ox d n}:(x,ox)∈bk.I→ox.cls= .ref C→notCls ox=true→ox.dict=some d→(d,dictOf es n)∈bk.I→(∀p∈fs,fieldAt T.K C (T.an p.1)=true)→InR C fs es (.ref x)
inductive SdR (kvs:List (Str×Value)):Value→Prop
 |mk {a o}:1<a→T.K.lookup a=some o→o.IsDictOf (strKind T.prog T.w) kvs→SdR kvs (.ref a)
inductive MeR (f:Nat):Value→Prop
 |mk {q x}:bk.sx=some x→(q,methodObj (.ref (T.fa f)) (.ref x))∈bk.I→MeR f (.ref q)
inductive TuR (vs:List Value):Value→Prop
 |mk {a}:(a,tupObj vs)∈bk.I→TuR vs (.ref a)
inductive SlR (vs:List Value):Value→Prop
 |mk {a n}:T.K.lookup a=some (listOf vs.toArray n)→SlR vs (.ref a)
mutual
noncomputable def RN:V→Value→Prop
 | .any,v=>handedIn v=true
 | .none,v=>v= .none
 | .bool b,v=>v= .bool b
 | .int i,v=>∃t,v= .int i t
 | .str s,v=>∃t,v= .str ⟨s.toArray⟩ t∧s.length≤SZ
 | .glob a,v=>v= .ref a
 | .self,v=>∃x,v= .ref x∧bk.sx=some x
 | .meth f,v=>MeR T bk f v
 | .tup Vs,v=>Vs.length≤SZ∧∃vs,RNs Vs vs∧TuR bk vs v
 | .inst C fs,v=>∃es,RNF fs es∧InR T bk C fs es v
 | .slist Vs,v=>Vs.length≤SZ∧∃vs,RNs Vs vs∧SlR T vs v
 | .sdict Es,v=>Es.length≤200∧∃kvs,RD Es (kvs.map fun p=>(.str p.1.cps.toList,p.2))∧SdR T kvs v
 |_,_=>False
noncomputable def RNs:List V→List Value→Prop
 |[],y=>y=[]
 |u::us,y=>∃v z,y=v::z∧RN u v∧RNs us z
noncomputable def RNF:List (Nat×V)→List DictEntry→Prop
 |[],y=>y=[]
 |p::us,y=>∃v z,y=v::z∧(∃h t x,v=⟨h,.str (T.an p.1) t,x⟩∧RN p.2 x)∧RNF us z
noncomputable def RD:List (V×V)→List (V×Value)→Prop
 |[],y=>y=[]
 |p::us,y=>∃v z,y=v::z∧(v.1=p.1∧RN p.2 v.2)∧RD us z
end
end
end Mine.Internal
end
section
open PySem PySem.W PySem.Calls PyProof.Rows
namespace Mine.Internal
noncomputable section
variable{T:Tb} {bk bk':Bk} {A:Around} {Er:Value→Shared→Prop} {s:Shared} {h:Heap} {u:V} {v:Value}
noncomputable abbrev tk(s:Shared)(t:Nat):Shared:={s with toks:=t}
noncomputable abbrev Wp(T:Tb)(A:Around)(c:Sem Value)(Q Er:Value→Shared→Prop)(s:Shared):Prop:=wpAny (model T.prog T.w) A c Q Er s
noncomputable abbrev WpB(T:Tb)(A:Around)(c:Sem Bool)(Q:Bool→Shared→Prop)(Er:Value→Shared→Prop)(s:Shared):Prop:=wpAny (model T.prog T.w) A c Q Er s
theorem and_l{a b:Bool}(h:(a&&b)=true):a=true:=(Bool.and_eq_true_iff.mp h).1
theorem and_r{a b:Bool}(h:(a&&b)=true):b=true:=(Bool.and_eq_true_iff.mp h).2
theorem bind_k{α β:Type}{o:Option α}{f:α→Option β}{r:β}{C:Prop}(h:o.bind f=some r)(k:∀a,o=some a→f a=some r→C):C:=
 let⟨a,e1,e2⟩:=Option.bind_eq_some_iff.mp h;k a e1 e2
theorem map_k{α β:Type}{o:Option α}{f:α→β}{r:β}{C:Prop}(h:o.map f=some r)(k:∀a,o=some a→f a=r→C):C:=
 let⟨a,e1,e2⟩:=Option.map_eq_some_iff.mp h;k a e1 e2
theorem ite_k{α:Type}{p:Prop}[Decidable p]{a:α}{x:Option α}{C:Prop}(h:(if p then x else none)=some a)(k:p→x=some a→C):C:=
 if c:p then k c ((if_pos c).symm.trans h) else nomatch (if_neg c).symm.trans h
theorem no_some{β:Type}{r:β}{C:Prop}(e:none=some r):C:=nomatch e
section
variable{α β:Type} {r q:α→β→Prop}
noncomputable def All2(r:α→β→Prop):List α→List β→Prop
 |[],y=>y=[]
 |a::x,y=>∃b z,y=b::z∧r a b∧All2 r x z
theorem All2.ind{C:List α→List β→Prop}(h0:C [] [])(h1:∀{a b x y},r a b→All2 r x y→C x y→C (a::x) (b::y)):∀{x y},All2 r x y→C x y:=
 @fun x=>List.rec (motive:=fun x=>∀{y},All2 r x y→C x y) (fun h=>(show _=[] from h)▸h0) (fun y0_ y1_ ih=>@fun y0_⟨y1_,y2_,e,k,l⟩=>e▸h1 k l (ih l)) x
theorem All2.cons{a b x y}(h:r a b)(k:All2 r x y):All2 r (a::x) (b::y):=⟨b,y,rfl,h,k⟩
theorem All2.nil:All2 r [] []:=rfl
theorem All2.k{C:List β→Prop}{a x y}(h:All2 r (a::x) y)(k:∀b z,r a b→All2 r x z→C (b::z)):C y:=let⟨_,_,e,p,l⟩:=h;e▸k _ _ p l
theorem All2.imp(f:∀{a b},r a b→q a b){x y}(h:All2 r x y):All2 q x y:=h.ind .nil fun k y0_ l=>.cons (f k) l
theorem All2.len{x:List α}{y:List β}(h:All2 r x y):y.length=x.length:=All2.ind (r:=r) (C:=fun x y=>y.length=x.length) rfl (fun y0_ y1_ e=>congrArg Nat.succ e) h
theorem All2.get{x y a}(h:All2 r x y):∀{i:Nat},x[i]? =some a→∃b,y[i]? =some b∧r a b:=
 h.ind (C:=fun x y=>∀{i:Nat},x[i]? =some a→∃b,y[i]? =some b∧r a b) (fun e=>no_some e) fun{_ b _ _}k y0_ l i=>i.casesOn (motive:=fun i=>(_::_)[i]? =some a→∃c,(b::_)[i]? =some c∧r a c) (fun e=>⟨b,rfl,Option.some.inj e▸k⟩) fun n e=>l (i:=n) e
theorem All2.app{x y u v}(h:All2 r x y)(k:All2 r u v):All2 r (x++u) (y++v):=h.ind (C:=fun x y=>All2 r (x++u) (y++v)) k fun p y0_ l=>.cons p l
theorem All2.take{x y}(h:All2 r x y):∀(n:Nat),All2 r (x.take n) (y.take n):=
 h.ind (C:=fun x y=>∀n,All2 r (x.take n) (y.take n)) (fun n=>by simp[All2.nil]) fun k y0_ l n=>n.casesOn (motive:=fun n=>All2 r ((_::_).take n) ((_::_).take n)) .nil fun n=>.cons k (l n)
theorem All2.drop{x y}(h:All2 r x y):∀(n:Nat),All2 r (x.drop n) (y.drop n):=
 h.ind (C:=fun x y=>∀n,All2 r (x.drop n) (y.drop n)) (fun n=>by simp[All2.nil]) fun k m l n=>n.casesOn (motive:=fun n=>All2 r ((_::_).drop n) ((_::_).drop n)) (.cons k m) fun n=>l n
end
noncomputable def FD(T:Tb)(bk:Bk)(p:Nat×V)(e:DictEntry):Prop:=∃h t v,e=⟨h,.str (T.an p.1) t,v⟩∧RN T bk p.2 v
noncomputable abbrev KV(T:Tb)(bk:Bk)(p:V×V)(q:V×Value):Prop:=q.1=p.1∧RN T bk p.2 q.2
noncomputable abbrev As(T:Tb)(bk:Bk):List V→List Value→Prop:=All2 (RN T bk)
theorem RNs_eq:∀x,RNs T bk x=All2 (RN T bk) x:=fun x=>List.rec rfl (fun u us ih=>congrArg (fun(R:List Value→Prop)y=>∃v z,y=v::z∧RN T bk u v∧R z) ih) x
theorem RNF_eq:∀x,RNF T bk x=All2 (FD T bk) x:=fun x=>List.rec rfl (fun u us ih=>congrArg (fun(R:List DictEntry→Prop)y=>∃v z,y=v::z∧FD T bk u v∧R z) ih) x
theorem RD_eq:∀x,RD T bk x=All2 (KV T bk) x:=fun x=>List.rec rfl (fun u us ih=>congrArg (fun(R:List (V×Value)→Prop)y=>∃v z,y=v::z∧KV T bk u v∧R z) ih) x
theorem RNs.to{x y}(h:RNs T bk x y):As T bk x y:=(congrFun (RNs_eq x) y).mp h
theorem RNF.to{x y}(h:RNF T bk x y):All2 (FD T bk) x y:=(congrFun (RNF_eq x) y).mp h
theorem RD.to{x y}(h:RD T bk x y):All2 (KV T bk) x y:=(congrFun (RD_eq x) y).mp h
theorem RNs.of{x y}(h:As T bk x y):RNs T bk x y:=(congrFun (RNs_eq x) y).mpr h
theorem RNF.of{x y}(h:All2 (FD T bk) x y):RNF T bk x y:=(congrFun (RNF_eq x) y).mpr h
theorem MeR.mono(l:bk.le bk'){f v}(h:MeR T bk f v):MeR T bk' f v:=h.casesOn fun e m=>.mk (l.sx _ e) (l.I _ m)
theorem TuR.mono(l:bk.le bk'){f v}(h:TuR bk f v):TuR bk' f v:=h.casesOn fun m=>.mk (l.I _ m)
theorem InR.mono(l:bk.le bk'){C fs es v}(h:InR T bk C fs es v):InR T bk' C fs es v:=h.casesOn fun m c n d e f=>.mk (l.I _ m) c n d (l.I _ e) f
theorem RN.mono(l:bk.le bk'):∀{u v},RN T bk u v→RN T bk' u v:=
 @fun u=>V.rec (motive_1:=fun u=>∀{v},RN T bk u v→RN T bk' u v) (motive_2:=fun x=>∀{v},RNs T bk x v→RNs T bk' x v)
  (motive_3:=fun x=>∀{v},RNF T bk x v→RNF T bk' x v) (motive_4:=fun x=>∀{v},RD T bk x v→RD T bk' x v)
  (motive_5:=fun p=>∀{v},RN T bk p.2 v→RN T bk' p.2 v) (motive_6:=fun p=>∀{v},RN T bk p.2 v→RN T bk' p.2 v)
  id id id (fun y0_=>@fun y0_=>id) (fun y0_=>@fun y0_=>id) (fun y0_=>@fun y0_=>id) (fun y0_=>@fun y0_=>id) (@fun y0_=>Exists.imp fun y0_=>And.imp_right (l.sx _)) (fun y0_=>@fun y0_=>MeR.mono l)
  (fun y0_ ih=>@fun y0_=>And.imp_right (Exists.imp fun y0_=>And.imp ih (TuR.mono l)))
  (fun y0_ y1_ ih=>@fun y0_=>Exists.imp fun y0_=>And.imp ih (InR.mono l))
  (fun y0_ ih=>@fun y0_=>And.imp_right (Exists.imp fun y0_=>And.imp_left ih))
  (fun y0_ ih=>@fun y0_=>And.imp_right (Exists.imp fun y0_=>And.imp_left ih))
  (fun y0_ y1_=>@fun y0_=>id) (fun y0_ y1_=>@fun y0_=>id) (fun y0_ y1_=>@fun y0_=>id)
  id (fun y0_ y1_ i1 i2=>@fun y0_=>Exists.imp fun y0_=>Exists.imp fun y0_=>And.imp_right (And.imp i1 i2))
  id (fun y0_ y1_ i1 i2=>@fun y0_=>Exists.imp fun y0_=>Exists.imp fun y0_=>And.imp_right (And.imp (Exists.imp fun y0_=>Exists.imp fun y0_=>Exists.imp fun y0_=>And.imp_right i1) i2))
  id (fun y0_ y1_ i1 i2=>@fun y0_=>Exists.imp fun y0_=>Exists.imp fun y0_=>And.imp_right (And.imp (And.imp_right i1) i2))
  (fun y0_ y1_ ih=>ih) (fun y0_ y1_ y2_ ih=>ih) u
theorem As.split{y:List V}:∀{x:List V}{v:List Value},As T bk (x++y) v→∃a b,v=a++b∧As T bk x a∧As T bk y b
 |[],v,h=>⟨[],v,rfl,.nil,h⟩
 |_::x,_,⟨w,z,e,h,k⟩=>let⟨a,b,e',h',k'⟩:=As.split k;⟨w::a,b,e▸e'▸rfl,.cons h h',k'⟩
inductive Dct (T:Tb) (bk:Bk) (o:Obj) (es:List (V×V)):Prop
 |i {kvs}:o.IsDictOf (intKind T.prog T.w) kvs→All2 (KV T bk) es (kvs.map fun p=>(.int p.1,p.2))→Dct T bk o es
 |s {kvs}:o.IsDictOf (strKind T.prog T.w) kvs→All2 (KV T bk) es (kvs.map fun p=>(.str p.1.cps.toList,p.2))→Dct T bk o es
inductive LsR (T:Tb) (bk:Bk) (xs:List V):Value→Led→Prop
 |mk {a vs n}:As T bk xs vs→xs.length≤SZ→LsR T bk xs (.ref a) [(a,listOf vs.toArray n)]
inductive DcR (T:Tb) (bk:Bk) (es:List (V×V)):Value→Led→Prop
 |mk {a o}:1<a→Dct T bk o es→es.length≤200→DcR T bk es (.ref a) [(a,o)]
noncomputable def RV(T:Tb)(bk:Bk)(u:V)(v:Value)(fp:Led):Prop:=match u with
 | .list xs=>LsR T bk xs v fp
 | .dict es=>DcR T bk es v fp
 |u=>RN T bk u v∧fp=[]
inductive RVs (T:Tb) (bk:Bk):List V→List Value→Led→Prop
 |nil:RVs T bk [] [] []
 |cons {u v us vs f g}:RV T bk u v f→RVs T bk us vs g→RVs T bk (u::us) (v::vs) (f++g)
inductive LtR (T:Tb) (bk:Bk) (us:List V) (fp:Led):Value→Prop
 |mk {a vs}:(a,tupObj vs)∈bk.I→RVs T bk us vs fp→LtR T bk us fp (.ref a)
noncomputable def RX(T:Tb)(bk:Bk)(u:V)(v:Value)(fp:Led):Prop:=match u with
 | .ltup us=>LtR T bk us fp v
 |u=>RV T bk u v fp
theorem KV.mono(l:bk.le bk'){p q}(h:KV T bk p q):KV T bk' p q:=⟨h.1,h.2.mono l⟩
theorem Dct.mono(l:bk.le bk'){o es}(h:Dct T bk o es):Dct T bk' o es:=h.casesOn (fun d r=>.i d (r.imp (KV.mono l))) fun d r=>.s d (r.imp (KV.mono l))
theorem LsR.mono(l:bk.le bk'){xs v fp}(h:LsR T bk xs v fp):LsR T bk' xs v fp:=h.casesOn fun r z=>.mk (r.imp (RN.mono l)) z
theorem DcR.mono(l:bk.le bk'){xs v fp}(h:DcR T bk xs v fp):DcR T bk' xs v fp:=h.casesOn fun a r z=>.mk a (r.mono l) z
theorem nl_k{C:V→Prop}(h:∀u,u.nl=true→C u)(l:∀x,C (.list x))(d:∀x,C (.dict x))(t:∀x,C (.ltup x))(a:C .absent)(u:V):C u:=by
 cases u with
 |list=>exact l _
 |dict=>exact d _
 |ltup=>exact t _
 |absent=>exact a
 |_=>exact h _ rfl
theorem RV.ofN{fp}(n:u.nl=true):RV T bk u v fp↔RN T bk u v∧fp=[]:=by cases u<;>first|exact Iff.rfl|exact absurd n Bool.false_ne_true
theorem RX.ofN{fp}(n:u.nl=true):RX T bk u v fp↔RN T bk u v∧fp=[]:=by cases u<;>first|exact Iff.rfl|exact absurd n Bool.false_ne_true
theorem RN.nl:∀{u},RN T bk u v→u.nl=true:=@nl_k (fun u=>RN T bk u v→u.nl=true) (fun y0_ n y1_=>n) (fun y0_=>False.elim) (fun y0_=>False.elim) (fun y0_=>False.elim) False.elim
theorem RN.rv(n:u.nl=true)(r:RN T bk u v):RV T bk u v []:=(RV.ofN n).mpr ⟨r,rfl⟩
theorem RN.rx(n:u.nl=true)(r:RN T bk u v):RX T bk u v []:=(RX.ofN n).mpr ⟨r,rfl⟩
theorem RV.mono(l:bk.le bk'){fp}:∀{u},RV T bk u v fp→RV T bk' u v fp:=
 @nl_k (fun u=>RV T bk u v fp→RV T bk' u v fp) (fun y0_ n r=>(RV.ofN n).mpr (((RV.ofN n).mp r).imp (RN.mono l) id)) (fun y0_=>LsR.mono l) (fun y0_=>DcR.mono l) (fun y0_ r=>r) (fun r=>r)
theorem RVs.mono(l:bk.le bk'){us vs fp}(h:RVs T bk us vs fp):RVs T bk' us vs fp:=h.rec .nil fun k y0_ ih=>.cons (k.mono l) ih
theorem LtR.mono(l:bk.le bk'){us v fp}(h:LtR T bk us fp v):LtR T bk' us fp v:=h.casesOn fun m r=>.mk (l.I _ m) (r.mono l)
theorem RX.mono(l:bk.le bk'){fp}:∀{u},RX T bk u v fp→RX T bk' u v fp:=
 @nl_k (fun u=>RX T bk u v fp→RX T bk' u v fp) (fun y0_ n r=>(RX.ofN n).mpr (((RX.ofN n).mp r).imp (RN.mono l) id)) (fun y0_ r=>RV.mono (u:=.list _) l r)
  (fun y0_ r=>RV.mono (u:=.dict _) l r) (fun y0_=>LtR.mono l) (fun r=>r)
theorem RV.rx{fp}:∀{u},RV T bk u v fp→RX T bk u v fp:=@nl_k (fun u=>RV T bk u v fp→RX T bk u v fp) (fun y0_ n r=>(RX.ofN n).mpr ((RV.ofN n).mp r)) (fun y0_ r=>r) (fun y0_ r=>r) (fun y0_ r=>r.1.elim) (fun r=>r)
theorem RN.handed:∀{u},RN T bk u v→handedIn v=true:=@fun u=>@V.casesOn (fun u=>RN T bk u v→handedIn v=true) u False.elim id (fun e=>e▸rfl) (fun y0_ e=>e▸rfl) (fun y0_⟨y1_,e⟩=>e▸rfl) (fun y0_⟨y1_,e,y2_⟩=>e▸rfl) (fun y0_ e=>e▸rfl)
 (fun⟨y0_,e,y1_⟩=>e▸rfl) (fun y0_ h=>h.casesOn fun y0_ y1_=>rfl) (fun y0_⟨y1_,y2_,y3_,h⟩=>h.casesOn fun y0_=>rfl) (fun y0_ y1_⟨y2_,y3_,h⟩=>h.casesOn fun y0_ y1_ y2_ y3_ y4_ y5_=>rfl) (fun y0_⟨y1_,y2_,y3_,h⟩=>h.casesOn fun y0_=>rfl) (fun y0_⟨y1_,y2_,y3_,h⟩=>h.casesOn fun y0_ y1_ y2_=>rfl) (fun y0_=>False.elim) (fun y0_=>False.elim) fun y0_=>False.elim
theorem RV.handed{fp}:∀{u},RV T bk u v fp→handedIn v=true:=
 @nl_k (fun u=>RV T bk u v fp→handedIn v=true) (fun y0_ n r=>((RV.ofN n).mp r).1.handed) (fun y0_ r=>r.casesOn fun y0_ y1_=>rfl) (fun y0_ r=>r.casesOn fun y0_ y1_ y2_=>rfl) (fun y0_ r=>r.1.elim) (fun r=>r.1.elim)
theorem RVs.len{us vs fp}(h:RVs T bk us vs fp):vs.length=us.length:=h.rec rfl fun y0_ y1_ e=>congrArg (· +1) e
structure Hv (T:Tb) (h:Heap) (bk:Bk):Prop where
 X:T.K.In h
 I:∀p∈bk.I,h.get? p.1=some p.2
noncomputable def RB(T:Tb)(h:Heap)(bk:Bk)(u:V)(v:Value):Prop:=∃fp,RV T bk u v fp∧∀p∈fp,h.get? p.1=some p.2
theorem RN.rb(n:u.nl=true)(r:RN T bk u v):RB T h bk u v:=⟨[],r.rv n,fun y0_ q=>nomatch q⟩
theorem RB.ofN(n:u.nl=true)(r:RB T h bk u v):RN T bk u v:=let⟨_,y,_⟩:=r;((RV.ofN n).mp y).1
theorem isList_of{a:Addr}{vs:List Value}{n:Nat}(e:h.get? a=some (listOf vs.toArray n)):h.IsList a vs.toArray:=⟨_,e,rfl,n,rfl⟩
theorem isTup_of{a:Addr}{vs:List Value}(e:h.get? a=some (tupObj vs)):IsTup h a vs.toArray:=⟨_,e,rfl,0,rfl⟩
noncomputable def lstOf:V→Option (List V)
 | .list xs=>some xs
 | .slist xs=>some xs
 |_=>none
noncomputable def dctOf:V→Option (List (V×V))
 | .dict es=>some es
 | .sdict es=>some es
 |_=>none
noncomputable def onIS{β:Type}(a:V)(f:Int→Option β)(g:List Nat→Option β):Option β:=match a with
 | .int i=>f i
 | .str s=>g s
 |_=>none
noncomputable abbrev no{α β:Type}:α→Option β:=fun y0_=>none
theorem onIS_k{β:Type}{f:Int→Option β}{g:List Nat→Option β}{r:β}{C:V→Prop}(hi:∀i,f i=some r→C (.int i))(hs:∀x,g x=some r→C (.str x)){a:V}(e:onIS a f g=some r):C a:=by
 cases a with
 |int=>exact hi _ e
 |str=>exact hs _ e
 |_=>exact no_some e
theorem lst_k{C:V→Prop}{xs:List V}(h1:C (.list xs))(h2:C (.slist xs)){a:V}(e:lstOf a=some xs):C a:=by
 cases a with
 |list=>exact Option.some.inj e▸h1
 |slist=>exact Option.some.inj e▸h2
 |_=>exact no_some e
theorem dct_k{C:V→Prop}{es:List (V×V)}(h1:C (.dict es))(h2:C (.sdict es)){a:V}(e:dctOf a=some es):C a:=by
 cases a with
 |dict=>exact Option.some.inj e▸h1
 |sdict=>exact Option.some.inj e▸h2
 |_=>exact no_some e
@[elab_as_elim] theorem RB.lst (H:Hv T h bk) {xs:List V} {C:Value→Prop} (e:lstOf u=some xs) (r:RB T h bk u v) (k:∀a vs,h.IsList a vs.toArray→As T bk xs vs→vs.length≤SZ→C (.ref a)):C v:=
 lst_k (C:=fun u=>RB T h bk u v→C v) (fun⟨y0_,r,q⟩=>LsR.casesOn (motive:=fun v fp y0_=>(∀p∈fp,h.get? p.1=some p.2)→C v) r (fun rs z q=>k _ _ (isList_of (q _ (List.Mem.head _))) rs (rs.len▸z)) q)
  (fun⟨y0_,⟨⟨z,y1_,rs,l⟩,y2_⟩,y3_⟩=>l.casesOn fun l=>k _ _ (isList_of (H.X _ _ l)) rs.to (rs.to.len▸z)) e r
@[elab_as_elim] theorem RB.dct (H:Hv T h bk) {es:List (V×V)} {C:Value→Prop} (e:dctOf u=some es) (r:RB T h bk u v) (k:∀a o,1<a→h.get? a=some o→Dct T bk o es→es.length≤200→C (.ref a)):C v:=
 dct_k (C:=fun u=>RB T h bk u v→C v) (fun⟨y0_,r,q⟩=>DcR.casesOn (motive:=fun v fp y0_=>(∀p∈fp,h.get? p.1=some p.2)→C v) r (fun l d z q=>k _ _ l (q _ (List.Mem.head _)) d z) q)
  (fun⟨y0_,⟨⟨z,y1_,rs,l⟩,y2_⟩,y3_⟩=>l.casesOn fun l m d=>k _ _ l (H.X _ _ m) (.s d rs.to) z) e r
noncomputable def keyEq(k j:V):Option Bool:=onIS k (fun i=>onIS j (fun m=>some (decide (i=m))) no) fun s=>onIS j no fun t=>some (decide (s=t))
noncomputable def findK(k:V):List (V×V)→Option (Option V)
 |[]=>some none
 |p::r=>(keyEq k p.1).bind fun b=>if b then some (some p.2) else findK k r
noncomputable def Fnd(T:Tb)(bk:Bk)(r:Option V)(o:Option Value):Prop:=match r with
 |none=>o=none
 |some u=>∃v,o=some v∧RN T bk u v
theorem valueAt_cons{κ:Type}[DecidableEq κ]{x y:κ}{w:Value}{l:List (κ×Value)}:valueAt ((y,w)::l) x=if x=y then some w else valueAt l x:=by
 unfold valueAt;rw[List.find?_cons]
 by_cases q:x=y
 ·subst q;simp
 ·simp[q,Ne.symm q]
theorem KV.find{κ:Type}[DecidableEq κ]{key:κ→V}(hk:∀x y,keyEq (key x) (key y)=some (decide (x=y))){x:κ}{r:Option V}:∀{kvs es},All2 (KV T bk) es (kvs.map fun p=>(key p.1,p.2))→findK (key x) es=some r→Fnd T bk r (valueAt kvs x)
 |kvs,[],h,e=>by
  cases kvs with
  |nil=>exact Option.some.inj e▸rfl
  |cons=>exact nomatch (show _=[] from h)
 |kvs,p::es,h,e=>by
  cases kvs with
  |nil=>obtain⟨_,_,h,-⟩:=h;exact nomatch h
  |cons q kvs=>
   obtain⟨_,_,e0,⟨e1,e2⟩,e3⟩:=h;obtain⟨rfl,rfl⟩:=List.cons.inj e0;have e:(keyEq (key x) p.1).bind _=some r:=e;rw[←e1,hk x q.1,Option.bind_some] at e;rw[valueAt_cons]
   by_cases c:x=q.1
   ·rw[if_pos (decide_eq_true c)] at e;rw[if_pos c];exact Option.some.inj e▸⟨_,rfl,e2⟩
   ·rw[if_neg (fun d=>c (of_decide_eq_true d))] at e;rw[if_neg c];exact KV.find hk e3 e
theorem key_int(x y:Int):keyEq (.int x) (.int y)=some (decide (x=y)):=rfl
theorem key_str(x y:Str):keyEq (.str x.cps.toList) (.str y.cps.toList)=some (decide (x=y)):=by
 show some (decide (x.cps.toList=y.cps.toList))=_;obtain⟨⟨x⟩⟩:=x;obtain⟨⟨y⟩⟩:=y;simp
theorem dictOf_nil{K₁ K₂:Type}[DecidableEq K₁][DecidableEq K₂]{k₁:PySem.KeyKind T.prog T.w K₁}{k₂:PySem.KeyKind T.prog T.w K₂}{o:Obj}(D:o.IsDictOf k₁ []):o.IsDictOf k₂ []:=
 let⟨es,ep,hx,hd,_,hp,_⟩:=D
 have e:es=#[]:=Array.toList_eq_nil_iff.mp (List.length_eq_zero_iff.mp hp.length)
 ⟨#[],ep,hx,e▸hd,fun y0_ hx=>(nomatch hx),Pairs.nil,List.Pairwise.nil⟩
theorem kvs_nil{κ:Type}[DecidableEq κ]{k:PySem.KeyKind T.prog T.w κ}{o:Obj}{l:List (κ×Value)}(e:l=[])(D:o.IsDictOf k l):o.IsDictOf k []:=e▸D
theorem is_int{i:Int}{t:Tok}:(PySem.intKind T.prog T.w).is i (.int i t)=true:=by simp[PySem.intKind,Value.isInt]
theorem is_str{x:Str}{t:Tok}:(PySem.strKind T.prog T.w).is x (.str x t)=true:=by simp[PySem.strKind,Value.isStrOf]
theorem KV.nil{α:Type}{es:List (V×V)}{kvs:List (α×Value)}{f:α→V}{k:V}{r:Option V}(h:All2 (KV T bk) es (kvs.map fun p=>(f p.1,p.2)))(n:∀a,keyEq k (f a)=none)(e:findK k es=some r):kvs=[]∧r=none:=by
 cases es with
 |nil=>exact⟨List.map_eq_nil_iff.mp (show _=[] from h),(Option.some.inj e).symm⟩
 |cons p es=>
  cases kvs with
  |nil=>obtain⟨_,_,h,-⟩:=h;exact nomatch h
  |cons q kvs=>
   obtain⟨_,_,e0,⟨e1,-⟩,-⟩:=h;exact no_some (((congrArg (fun o:Option Bool=>o.bind _) ((congrArg (keyEq k) (e1.symm.trans (congrArg (·.1) (List.cons.inj e0).1).symm)).trans (n q.1))).symm).trans e)
theorem Dct.find{o:Obj}{es:List (V×V)}{k:V}{kv:Value}{r:Option V}{C:Prop}(D:Dct T bk o es)(e:findK k es=some r)(rk:RN T bk k kv)(hk:keyEq k k=some true)
  (q:∀{κ:Type}[DecidableEq κ](knd:PySem.KeyKind T.prog T.w κ)(x:κ)kvs,knd.is x kv=true→o.IsDictOf knd kvs→Fnd T bk r (valueAt kvs x)→C):C:=
 onIS_k (C:=fun k=>findK k es=some r→RN T bk k kv→C)
  (fun i y0_ e⟨t,f⟩=>D.casesOn (fun{kvs}d rs=>q _ i kvs (f▸is_int) d (KV.find key_int rs e)) fun{kvs}d rs=>let⟨z,y⟩:=KV.nil (f:=fun x:Str=>.str x.cps.toList) rs (fun y0_=>rfl) e;q _ i [] (f▸is_int) (dictOf_nil (kvs_nil z d)) (y▸rfl))
  (fun x y0_ e⟨t,f,y1_⟩=>D.casesOn (fun{kvs}d rs=>let⟨z,y⟩:=KV.nil (f:=fun x:Int=>.int x) rs (fun y0_=>rfl) e;q (strKind T.prog T.w) ⟨x.toArray⟩ [] (f▸is_str) (dictOf_nil (kvs_nil z d)) (y▸rfl)) fun{kvs}d rs=>q _ ⟨x.toArray⟩ kvs (f▸is_str) d (KV.find (x:=(⟨x.toArray⟩:Str)) key_str rs e)) hk e rk
end
end Mine.Internal
end
section
open PySem PySem.W PySem.Calls PyProof.Rows
namespace Mine.Internal
noncomputable section
variable{T:Tb} {bk bk':Bk} {A:Around} {Er:Value→Shared→Prop} {s:Shared} {h:Heap} {u a b r:V} {v va vb:Value}
noncomputable abbrev Gv(T:Tb)(A:Around)(s:Shared)(bk:Bk)(c:Sem Value)(r:V):Prop:=∀{Q Er:Value→Shared→Prop},(∀v t,RN T bk r v→Q v (tk s t))→Wp T A c Q Er s
theorem sz63{n:Nat}(h:n≤SZ):(n:Int)<2^63:=by unfold SZ at h;omega
theorem sz63'{n:Nat}(h:n≤SZ):¬(n:Int)≥2^63:=by unfold SZ at h;omega
theorem szL{n:Nat}(h:n≤SZ):n≤sizeLine:=by rw[sizeLine_eq];unfold SZ at h;omega
@[elab_as_elim] theorem onIS_r {β:Type} {f:Int→Option β} {g:List Nat→Option β} {q:β} {C:Value→Prop} (e:onIS a f g=some q) (ra:RN T bk a v) (hi:∀i t,f i=some q→C (.int i t)) (hs:∀x t,x.length≤SZ→g x=some q→C (.str ⟨x.toArray⟩ t)):C v:=
 onIS_k (C:=fun a=>RN T bk a v→C v) (fun i e⟨t,h⟩=>h▸hi i t e) (fun x e⟨t,h,z⟩=>h▸hs x t z e) e ra
@[elab_as_elim] theorem int_r {β:Type} {f:Int→Option β} {q:β} {C:Value→Prop} (e:onIS a f no=some q) (ra:RN T bk a v) (hi:∀i t,f i=some q→C (.int i t)):C v:=onIS_r e ra hi fun y0_ y1_ y2_ e=>no_some e
@[elab_as_elim] theorem str_r {β:Type} {f:List Nat→Option β} {q:β} {C:Value→Prop} (e:onIS a no f=some q) (ra:RN T bk a v) (hs:∀x t,x.length≤SZ→f x=some q→C (.str ⟨x.toArray⟩ t)):C v:=onIS_r e ra (fun y0_ y1_ e=>no_some e) hs
noncomputable def int2{β:Type}(a b:V)(f:Int→Int→Option β):Option β:=onIS a (fun i=>onIS b (f i) no) no
@[elab_as_elim] theorem int2_r {β:Type} {f:Int→Int→Option β} {q:β} {C:Value→Value→Prop} (e:int2 a b f=some q) (ra:RN T bk a va) (rb:RN T bk b vb) (h:∀i t j u,f i j=some q→C (.int i t) (.int j u)):C va vb:=
 onIS_r (C:=fun va=>C va vb) e ra (fun i t e=>onIS_r (C:=C (.int i t)) e rb (fun j u e=>h i t j u e) fun y0_ y1_ y2_ e=>no_some e) fun y0_ y1_ y2_ e=>no_some e
noncomputable def Bo.op:Bo→Operator
 | .add=>.Add| .sub=>.Sub| .mul=>.Mult| .mod=>.Mod| .fdiv=>.FloorDiv
noncomputable def Co.op:Co→CmpOp
 | .eq=>.Eq| .ne=>.NotEq| .lt=>.Lt| .le=>.LtE| .gt=>.Gt| .ge=>.GtE| .isin=>.In| .notin=>.NotIn| .is=>.Is| .isnot=>.IsNot
noncomputable def one{β:Type}(s:List Nat)(f:Nat→Option β):Option β:=match s with|[c]=>f c|_=>none
@[elab_as_elim] theorem one_k {β:Type} {s:List Nat} {f:Nat→Option β} {q:β} {C:List Nat→Prop} (e:one s f=some q) (k:∀c,f c=some q→C [c]):C s:=by
 rcases s with _|⟨c,_|⟨_,_⟩⟩
 ·exact no_some e
 ·exact k c e
 ·exact no_some e
noncomputable def binV(op:Bo)(a b:V):Option V:=match op with
 | .add=>onIS a (fun i=>onIS b (fun j=>some (.int (i+j))) no) fun s=>onIS b no fun t=>if s.length+t.length≤SZ then some (.str (s++t)) else none
 | .sub=>int2 a b fun i j=>some (.int (i-j))
 | .mul=>onIS a no fun s=>onIS b (fun j=>one s fun c=>if 0≤j∧j≤1000 then some (.str (List.replicate j.toNat c)) else none) no
 | .mod=>int2 a b fun i j=>if 0<j then some (.int (i%j)) else none
 | .fdiv=>int2 a b fun i j=>if 0<j∧j≤100000 then some (.int (i/j)) else none
theorem str_app{s t:List Nat}:(⟨s.toArray⟩:Str)++(⟨t.toArray⟩:Str)=⟨(s++t).toArray⟩:=congrArg Str.mk (List.append_toArray s t)
theorem str_len{s:List Nat}:(⟨s.toArray⟩:Str).length=s.length:=rfl
theorem str_eq{s t:List Nat}:((⟨s.toArray⟩:Str)==(⟨t.toArray⟩:Str))=decide (s=t):=by
 rw[decide_eq_decide.mpr (show s=t↔(⟨s.toArray⟩:Str)=⟨t.toArray⟩ from⟨fun h=>h▸rfl,fun h=>congrArg (fun z:Str=>z.cps.toList) h⟩)];exact Bool.eq_iff_iff.mpr (beq_iff_eq.trans decide_eq_true_iff.symm)
theorem notPylong{a j:Int}(h0:0<j)(h1:j≤100000):Builtin.divisionGoesByPylong a j=false:=by
 unfold Builtin.divisionGoesByPylong;have:j.natAbs.log2<17:=(Nat.log2_lt (by omega)).mpr (by omega);have e:decide (j.natAbs.log2/30+1>300)=false:=decide_eq_false (by omega);have z:(j==0)=false:=beq_eq_false_iff_ne.mpr (by omega);simp only[z,Bool.false_eq_true,if_false,e,Bool.false_and]
set_option tactic.hygienic true in
theorem mul_eq(c:Nat){j:Int}(h:0≤j):Txt.mul ⟨[c].toArray⟩ j=⟨(List.replicate j.toNat c).toArray⟩:=by
 unfold Txt.mul;split
 ·have:j.toNat=0:=by omega
  rw[this];rfl
 ·split
  ·rename_i h1 h2;have:j=1:=by simpa[str_len] using h2
   subst this;rfl
  ·congr 1
   generalize j.toNat=n;have H:∀(n:Nat)(x:Array Nat),List.foldl (fun(x1 x2:Array Nat)=>x1++x2) x (List.replicate n [c].toArray)=x++(List.replicate n c).toArray:=by
    intro n;induction n with
    |zero=>intro x;simp
    |succ n ih=>intro x;rw[List.replicate_succ,List.foldl_cons,ih];apply Array.ext';simp[List.replicate_succ]
   simpa using H n #[]
theorem mul_ok{c:Nat}{j:Int}{t u:Tok}(h0:0≤j∧j≤1000):Gv T A s bk (binaryOp .Mult (.str ⟨[c].toArray⟩ t) (.int j u)) (.str (List.replicate j.toNat c)):=fun k=>by
 refine PySem.SB.mul ⟨?_,?_,?_⟩ (fun t' tk=>?_)
 ·simp;omega
 ·intro q _ z;simp only[str_len,List.length_singleton] at z;have h2:(1:Int)≤(2^63-1)/j:=by
   apply Int.le_ediv_of_mul_le<;>omega
  omega
 ·intro q _;simp only[str_len,List.length_singleton];unfold Builtin.Str.tooLong;exact decide_eq_false (by rw[sizeLine_eq];omega)
 ·rw[mul_eq c h0.1];exact k _ _ ⟨_,rfl,by rw[List.length_replicate];unfold SZ;omega⟩
theorem bin_ok{op:Bo}(e:binV op a b=some r)(ra:RN T bk a va)(rb:RN T bk b vb):Gv T A s bk (binaryOp op.op va vb) r:=fun k=>by
 cases op with
 |add=>
  exact onIS_r e ra (fun i t e=>int_r e rb fun j u e=>add_int (k _ _ (Option.some.inj e▸⟨_,rfl⟩))) fun x t z e=>str_r e rb fun y u z' e=>ite_k e fun c e=>
   add_str (fun t' tk=>k _ _ (Option.some.inj e▸⟨_,congrArg (Value.str · _) str_app,by rw[List.length_append];exact c⟩)) (szL (n:=x.length+y.length) c)
 |sub=>exact int2_r e ra rb fun i t j u e=>sub_int (k _ _ (Option.some.inj e▸⟨_,rfl⟩))
 |mul=>exact str_r e ra fun x t z e=>int_r e rb fun j u e=>one_k e fun c e=>ite_k e fun h e=>mul_ok h (Option.some.inj e▸k)
 |mod=>exact int2_r e ra rb fun i t j u e=>ite_k e fun c e=>mod_int' (Int.ne_of_gt c) (k _ _ (Option.some.inj e▸⟨_,congrArg (Value.int · _) (Int.fmod_eq_emod_of_nonneg _ (Int.le_of_lt c))⟩))
 |fdiv=>exact int2_r e ra rb fun i t j u e=>ite_k e fun c e=>floordiv_int (Int.ne_of_gt c.1) (k _ _ (Option.some.inj e▸⟨_,congrArg (Value.int · _) (Int.fdiv_eq_ediv_of_nonneg _ (Int.le_of_lt c.1))⟩)) (.inl (notPylong c.1 c.2))
noncomputable def truthV:V→Option Bool
 | .none=>some false
 | .bool b=>some b
 | .int i=>some (decide (i≠0))
 | .str s=>some (!s.isEmpty)
 | .list xs=>some (!xs.isEmpty)
 | .slist xs=>some (!xs.isEmpty)
 | .tup xs=>some (!xs.isEmpty)
 | .dict es=>some (!es.isEmpty)
 | .meth _=>some true
 |_=>none
theorem no_bool_meth:typeLookup (.type "method") "__bool__"=pure none:=by rw[typeLookup_type,builtinLookup_eq_fast];kernel_rfl
theorem no_len_meth:typeLookup (.type "method") "__len__"=pure none:=by rw[typeLookup_type,builtinLookup_eq_fast];kernel_rfl
theorem truthy_meth{q:Addr}{f x:Value}(e:s.heap.get? q=some (methodObj f x)){Q:Bool→Shared→Prop}(k:Q true s):WpB T A (truthy (.ref q)) Q Er s:=by
 have hT:s.TypeIs (.ref q) "method":=⟨_,e,rfl⟩;unfold truthy
 first
  |refine wpAny_bind (wpAny_callSpecial?_none (name:=Str.ofString "__bool__") hT no_bool_meth ?_)
  |refine wpAny_bind (wpAny_pure (wpAny_bind (wpAny_callSpecial?_none (name:=Str.ofString "__bool__") hT no_bool_meth ?_)))
 first
  |refine wpAny_bind (wpAny_specialOf (name:=Str.ofString "__len__") hT no_len_meth ?_)
  |refine wpAny_bind (wpAny_pure (wpAny_bind (wpAny_specialOf (name:=Str.ofString "__len__") hT no_len_meth ?_)))
 exact wpAny_pure k
theorem emp2{α β:Type}:∀{l:List α}{m:List β},l.length=m.length→(!l.toArray.isEmpty)=(!m.isEmpty)
 |[],[],_=>rfl
 |_::_,_::_,_=>rfl
theorem emp3{α β:Type}:∀{l:List α}{m:List β},l.length=m.length→(!l.isEmpty)=(!m.isEmpty)
 |[],[],_=>rfl
 |_::_,_::_,_=>rfl
theorem dict_ne{a:Addr}(h:1<a):(a==sysModules)=false:=beq_eq_false_iff_ne.mpr (fun q:a=1=>by rw[q] at h;exact absurd h (by decide))
theorem str_nz(x:List Nat):((x.length:Int) !=0)= !x.isEmpty:=by
 cases x with
 |nil=>rfl
 |cons a r=>exact bne_iff_ne.mpr (fun h:((r.length+1:Nat):Int)=0=>by omega)
theorem int_nz(i:Int):(i !=0)=decide (i≠0):=by by_cases q:i=0<;>simp[q]
theorem Dct.len{o:Obj}{es:List (V×V)}{C:Prop}(D:Dct T bk o es)(q:∀{κ:Type}[DecidableEq κ](knd:PySem.KeyKind T.prog T.w κ)kvs,o.IsDictOf knd kvs→kvs.length=es.length→C):C:=
 D.casesOn (fun d r=>q _ _ d ((List.length_map (as:=_) _).symm.trans r.len)) fun d r=>q _ _ d ((List.length_map (as:=_) _).symm.trans r.len)
theorem tru_ok{b:Bool}(e:truthV u=some b)(H:Hv T s.heap bk)(r:RB T s.heap bk u v){Q:Bool→Shared→Prop}(k:∀t,Q b (tk s t)):WpB T A (truthy v) Q Er s:=by
 have L:∀{xs},lstOf u=some xs→(!xs.isEmpty)=b→WpB T A (truthy v) Q Er s:=fun e1 e2=>r.lst H e1 fun a vs l rs z=>wpAny_truthy_list l (sz63 z) (emp2 rs.len▸e2▸k _);cases u with
 |none=>cases show v=_ from r.ofN rfl;exact truthy_none (Option.some.inj e▸k _)
 |bool=>cases show v=_ from r.ofN rfl;exact wpAny_truthy_bool (Option.some.inj e▸k _)
 |int i=>obtain⟨t,rfl⟩:=r.ofN rfl;exact PyProof.Rows.truthy_int (int_nz i▸Option.some.inj e▸k _)
 |str x=>obtain⟨t,rfl,z⟩:=r.ofN rfl;exact SBL.truthy (sz63 z) (str_nz x▸Option.some.inj e▸k _)
 |list=>exact L rfl (Option.some.inj e)
 |slist=>exact L rfl (Option.some.inj e)
 |tup xs=>
  obtain⟨z,vs,rs,m⟩:=r.ofN rfl;cases m with|mk m=>exact truthy_tuple (isTup_of (H.I _ m)) (sz63 (n:=vs.length) (rs.to.len▸z)) (emp2 rs.to.len▸Option.some.inj e▸k _)
 |dict es=>exact r.dct H rfl fun a o l g D z=>D.len fun knd kvs d n=>wpAny_truthy_dict (dict_ne l) (Heap.dictOf_iff.mpr ⟨o,g,d⟩) (by omega) (emp3 n▸Option.some.inj e▸k _)
 |meth f=>cases show MeR _ _ _ _ from r.ofN rfl with|mk _ m=>exact truthy_meth (H.I _ m) (Option.some.inj e▸k _)
 |_=>exact no_some e
noncomputable def hasStr(x:List Nat):List V→Option Bool
 |[]=>some false
 |u::r=>onIS u no fun t=>(hasStr x r).map fun b=>decide (x=t)||b
theorem hasStr_spec{x:List Nat}{xs:List V}{vs:List Value}(h:As T bk xs vs):∀{q},hasStr x xs=some q→∃ys,StrsAre vs ys∧ys.any (· ==(⟨x.toArray⟩:Str))=q:=
 h.ind (C:=fun xs vs=>∀{q},hasStr x xs=some q→∃ys,StrsAre vs ys∧ys.any (· ==(⟨x.toArray⟩:Str))=q) (fun e=>⟨[],.nil,Option.some.inj e⟩)
  fun k y0_ ih=>@fun q e=>str_r (C:=fun v=>∃ys,StrsAre (v::_) ys∧ys.any (· ==(⟨x.toArray⟩:Str))=q) e k fun t tk z e=>map_k e fun b e1 e2=>let⟨ys,h1,h2⟩:=ih e1
   ⟨⟨t.toArray⟩::ys,.cons _ tk h1,by rw[List.any_cons,str_eq,h2,←e2];exact congrArg (· ||b) (decide_eq_decide.mpr ⟨Eq.symm,Eq.symm⟩)⟩
theorem strs_arr{vs:List Value}{ys:List Str}(h:StrsAre vs ys):StrsAre vs.toArray.toList ys:=h
noncomputable def memV(a b:V):Option Bool:=match b with
 | .str t=>onIS a no fun s=>one s fun c=>some (decide (c∈t))
 | .tup xs=>onIS a no fun s=>hasStr s xs
 |b=>match lstOf b with
  |some xs=>onIS a no fun s=>hasStr s xs
  |none=>(dctOf b).bind fun es=>if keyEq a a=some true then(findK a es).map Option.isSome else none
noncomputable def memOp(n:Bool):CmpOp:=if n then .NotIn else .In
theorem Fnd.isSome{o:Option V}{w:Option Value}(h:Fnd T bk o w):w.isSome=o.isSome:=by
 cases o with
 |none=>exact(show w=none from h)▸rfl
 |some=>obtain⟨_,rfl,-⟩:=h;rfl
theorem n_k{q:Bool}{Q:Value→Shared→Prop}(n:Bool)(h0:(∀v t,RN T bk (.bool q) v→Q v (tk s t))→Wp T A (compareOp .In va vb) Q Er s)(h1:(∀v t,RN T bk (.bool (!q)) v→Q v (tk s t))→Wp T A (compareOp .NotIn va vb) Q Er s)
  (k:∀v t,RN T bk (.bool (n^^q)) v→Q v (tk s t)):Wp T A (compareOp (memOp n) va vb) Q Er s:=
 match n,k with
 |false,k=>h0 (Bool.false_xor q▸k)
 |true,k=>h1 (Bool.true_xor q▸k)
theorem in_ok{q:Bool}(n:Bool)(e:memV a b=some q)(H:Hv T s.heap bk)(ra:RN T bk a va)(rb:RB T s.heap bk b vb):Gv T A s bk (compareOp (memOp n) va vb) (.bool (n^^q)):=@fun Q Er k=>by
 have L:∀{xs},lstOf b=some xs→onIS a no (fun s=>hasStr s xs)=some q→Wp T A (compareOp (memOp n) va vb) Q Er s:=fun e1 e2=>str_r e2 ra fun x t z e=>rb.lst H e1 fun l vs hl rs y0_=>
  let⟨ys,h1,h2⟩:=hasStr_spec rs e
  n_k n (fun k=>in_list_strs hl h1 (k _ _ (congrArg _ h2))) (fun k=>notin_list_strs hl h1 (k _ _ (congrArg _ (congrArg (!·) h2)))) k
 have D:∀{es},dctOf b=some es→(if keyEq a a=some true then(findK a es).map Option.isSome else none)=some q→Wp T A (compareOp (memOp n) va vb) Q Er s:=fun e1 e2=>ite_k e2 fun ka e2=>map_k e2 fun o f1 f2=>rb.dct H e1 fun d ob l g D y0_=>
  D.find f1 ra ka fun knd x kvs hk hd fd=>
   have hd:=Heap.dictOf_iff.mpr ⟨ob,g,hd⟩;have e3:=fd.isSome.trans f2
   n_k n (fun k=>wpAny_in_of hk (dict_ne l) hd.mapOf (k _ _ (congrArg _ e3))) (fun k=>wpAny_notIn_of hk (dict_ne l) hd.mapOf (k _ _ (congrArg _ (congrArg (!·) e3)))) k
 cases b with
 |str y=>
  obtain⟨u,rfl,-⟩:=rb.ofN rfl;refine str_r e ra fun x t z e=>one_k e fun c e=>?_;have e3:=(StrLaws.found_one ⟨y.toArray⟩ c).trans (Option.some.inj e);exact n_k n (fun k=>PySem.P.in_str (k _ _ (congrArg _ e3))) (fun k=>PySem.P.notIn_str (k _ _ (congrArg _ (congrArg (!·) e3)))) k
 |tup xs=>
  obtain⟨z,vs,rs,m⟩:=rb.ofN rfl;cases m with|mk m=>
  refine str_r e ra fun x t z e=>?_;obtain⟨ys,h1,h2⟩:=hasStr_spec rs.to e;exact n_k n (fun k=>in_tuple_strs (isTup_of (H.I _ m)) h1 (k _ _ (congrArg _ h2))) (fun k=>notin_tuple_strs (isTup_of (H.I _ m)) h1 (k _ _ (congrArg _ (congrArg (!·) h2)))) k
 |list=>exact L rfl e
 |slist=>exact L rfl e
 |dict=>exact D rfl e
 |sdict=>exact D rfl e
 |_=>exact no_some e
noncomputable def isNone:V→Option Bool
 | .none=>some true
 | .any| .absent| .ltup _=>none
 |_=>some false
theorem none_cmp{q:Bool}(e:isNone u=some q)(r:RB T h bk u v):(v== .none)=q:=by
 cases u with
 |any|absent|ltup=>exact no_some e
 |none|bool|glob=>cases show v=_ from r.ofN rfl;exact Option.some.inj e
 |int=>obtain⟨_,rfl⟩:=r.ofN rfl;exact Option.some.inj e
 |str|self=>obtain⟨_,rfl,-⟩:=r.ofN rfl;exact Option.some.inj e
 |meth=>cases show MeR _ _ _ _ from r.ofN rfl;exact Option.some.inj e
 |tup=>obtain⟨_,_,_,m⟩:=r.ofN rfl;cases m;exact Option.some.inj e
 |inst=>obtain⟨_,_,m⟩:=r.ofN rfl;cases m;exact Option.some.inj e
 |slist=>obtain⟨_,_,_,m⟩:=r.ofN rfl;cases m;exact Option.some.inj e
 |sdict=>obtain⟨_,_,_,m⟩:=r.ofN rfl;cases m;exact Option.some.inj e
 |list=>obtain⟨_,m,_⟩:=r;cases show LsR _ _ _ _ _ from m;exact Option.some.inj e
 |dict=>obtain⟨_,m,_⟩:=r;cases show DcR _ _ _ _ _ from m;exact Option.some.inj e
noncomputable def eqV(a b:V):Option Bool:=match a with
 | .none=>onIS b (fun y0_=>some false) fun y0_=>some false
 |a=>keyEq a b
noncomputable def cmpV(op:Co)(a b:V):Option Bool:=match op with
 | .eq=>eqV a b
 | .ne=>(keyEq a b).map (!·)
 | .lt=>int2 a b fun i j=>some (decide (i<j))
 | .gt=>int2 a b fun i j=>some (decide (i>j))
 | .ge=>int2 a b fun i j=>some (decide (i≥j))
 | .le=>onIS a (fun i=>onIS b (fun j=>some (decide (i≤j))) no) fun s=>onIS b no fun t=>one s fun x=>one t fun y=>some (decide (x≤y))
 | .is=>(match b with| .none=>isNone a|_=>none)
 | .isnot=>(match b with| .none=>(isNone a).map (!·)|_=>none)
 | .isin=>if a.nl then memV a b else none
 | .notin=>if a.nl then(memV a b).map (!·) else none
theorem eq_ok{q:Bool}(e:keyEq a b=some q)(ra:RN T bk a va)(rb:RN T bk b vb):SeqAt.RcAt A s va vb q:=
 onIS_r e ra (fun i t e=>int_r e rb fun j u e=>Option.some.inj e▸SeqAt.RcAt.int_int (A:=A) (s:=s) i t j u) fun x t y0_ e=>str_r e rb fun y u y0_ e=>Option.some.inj e▸str_eq▸SeqAt.RcAt.str_str (A:=A) (s:=s) ⟨x.toArray⟩ t ⟨y.toArray⟩ u
theorem key_nl{q:Bool}(e:keyEq a b=some q):a.nl=true∧b.nl=true:=onIS_k (C:=fun a=>a.nl=true∧b.nl=true) (fun y0_ e=>⟨rfl,onIS_k (C:=fun b=>b.nl=true) (fun y0_ y1_=>rfl) (fun y0_ y1_=>rfl) e⟩) (fun y0_ e=>⟨rfl,onIS_k (C:=fun b=>b.nl=true) (fun y0_ y1_=>rfl) (fun y0_ y1_=>rfl) e⟩) e
theorem eqV_k{q:Bool}{C:V→Prop}(e:eqV a b=some q)(k1:onIS b (fun y0_=>some false) (fun y0_=>some false)=some q→C .none)(k2:keyEq a b=some q→C a):C a:=by
 cases a with
 |none=>exact k1 e
 |_=>exact k2 e
theorem eqV_nl{q:Bool}(e:eqV a b=some q):a.nl=true∧b.nl=true:=eqV_k (C:=fun a=>a.nl=true∧b.nl=true) e (fun e=>⟨rfl,onIS_k (C:=fun b=>b.nl=true) (fun y0_ y1_=>rfl) (fun y0_ y1_=>rfl) e⟩) key_nl
theorem eqV_ok{q:Bool}(e:eqV a b=some q)(ra:RN T bk a va)(rb:RN T bk b vb):SeqAt.RcAt A s va vb q:=
 eqV_k (C:=fun a=>RN T bk a va→SeqAt.RcAt A s va vb q) e (fun e ra=>by
  cases show va=_ from ra
  exact onIS_r e rb (fun i t e=>Option.some.inj e▸SeqAt.RcAt.none_int (A:=A) (s:=s) i t) fun x t y0_ e=>Option.some.inj e▸SeqAt.RcAt.none_str (A:=A) (s:=s) ⟨x.toArray⟩ t) (fun e ra=>eq_ok e ra rb) ra
theorem int2_nl{β:Type}{f:Int→Int→Option β}{q:β}(e:int2 a b f=some q):a.nl=true∧b.nl=true:=onIS_k (C:=fun a=>a.nl=true∧b.nl=true) (fun y0_ e=>⟨rfl,onIS_k (C:=fun b=>b.nl=true) (fun y0_ y1_=>rfl) (fun y0_ y1_=>rfl) e⟩) (fun y0_ e=>no_some e) e
theorem none_k{C:Prop}{f:Option Bool}{q:Bool}(e:(match b with| .none=>f|_=>none)=some q)(k:b= .none→f=some q→C):C:=by
 cases b with
 |none=>exact k rfl e
 |_=>exact no_some e
theorem le1(c d:Nat):(!decide ([d]< [c]))=decide (c≤d):=by
 have e:[d]< [c]↔¬c≤d:=by simp[List.cons_lt_cons_iff]
 by_cases h:c≤d
 ·rw[decide_eq_true h,decide_eq_false fun q=>e.mp q h];rfl
 ·rw[decide_eq_false h,decide_eq_true (e.mpr h)];rfl
theorem cmp_ok{op:Co}{q:Bool}(e:cmpV op a b=some q)(H:Hv T s.heap bk)(ra:RB T s.heap bk a va)(rb:RB T s.heap bk b vb):Gv T A s bk (compareOp op.op va vb) (.bool q):=@fun Q Er k=>by
 have I:∀{f:Int→Int→Option Bool},int2 a b f=some q→(∀{i t j u},f i j=some q→Wp T A (compareOp op.op (.int i t) (.int j u)) Q Er s)→Wp T A (compareOp op.op va vb) Q Er s:=fun e h=>let n:=int2_nl e;int2_r e (ra.ofN n.1) (rb.ofN n.2) fun y0_ y1_ y2_ y3_=>h
 cases op with
 |eq=>have n:=eqV_nl e;exact eqV_ok e (ra.ofN n.1) (rb.ofN n.2) _ _ _ _ (k _ _ rfl)
 |ne=>
  refine map_k e fun c e1 e2=>?_;have n:=key_nl e1;exact onIS_r e1 (ra.ofN n.1) (fun i t e=>int_r e (rb.ofN n.2) fun j u e=>PyProof.Rows.ne_int (k _ _ (congrArg _ ((congrArg (!·) (Option.some.inj e)).trans e2)))) fun x t y0_ e=>str_r e (rb.ofN n.2) fun y u y0_ e=>
   PyProof.Rows.ne_str (k _ _ (congrArg _ ((congrArg (!·) (str_eq.trans (Option.some.inj e))).trans e2)))
 |lt=>exact I e fun e=>lt_int (k _ _ (congrArg _ (Option.some.inj e)))
 |gt=>exact I e fun e=>gt_int (k _ _ (congrArg _ (Option.some.inj e)))
 |ge=>exact I e fun e=>ge_int (k _ _ (congrArg _ (Option.some.inj e)))
 |le=>
  have n:a.nl=true∧b.nl=true:=onIS_k (C:=fun a=>a.nl=true∧b.nl=true) (fun y0_ e=>⟨rfl,onIS_k (C:=fun b=>b.nl=true) (fun y0_ y1_=>rfl) (fun y0_ y1_=>rfl) e⟩) (fun y0_ e=>⟨rfl,onIS_k (C:=fun b=>b.nl=true) (fun y0_ y1_=>rfl) (fun y0_ y1_=>rfl) e⟩) e;exact onIS_r e (ra.ofN n.1) (fun i t e=>int_r e (rb.ofN n.2) fun j u e=>le_int (k _ _ (congrArg _ (Option.some.inj e)))) fun x t y0_ e=>str_r e (rb.ofN n.2) fun y u y0_ e=>
   one_k e fun c e=>one_k e fun d e=>
    PySem.P.le_str (k _ _ (congrArg _ ((le1 c d).trans (Option.some.inj e))))
 |is=>exact none_k e fun hb e=>by subst hb;cases show vb=_ from rb.ofN rfl;exact PySem.is_none (k _ _ (congrArg _ (none_cmp e ra)))
 |isnot=>exact none_k e fun hb e=>map_k e fun c e1 e2=>by subst hb;cases show vb=_ from rb.ofN rfl;exact PyProof.Rows.isnot_none_gen (k _ _ (congrArg _ ((congrArg (!·) (none_cmp e1 ra)).trans e2)))
 |isin=>exact ite_k e fun n e=>in_ok false e H (ra.ofN n) rb fun v t h=>k v t (Eq.trans h (congrArg _ (Bool.false_xor _)))
 |notin=>exact ite_k e fun n e=>map_k e fun c e1 e2=>in_ok true e1 H (ra.ofN n) rb fun v t h=>k v t (Eq.trans h (congrArg _ ((Bool.true_xor _).trans e2)))
noncomputable def lenV(u:V):Option V:=match u with
 | .str s=>some (.int s.length)
 |u=>(lstOf u).map fun xs=>.int xs.length
theorem len_ok(e:lenV a=some r)(H:Hv T s.heap bk)(ra:RB T s.heap bk a va):Gv T A s bk (call (.builtin "len") [va]) r:=@fun Q Er k=>by
 have L:∀{xs},lstOf a=some xs→V.int xs.length=r→Wp T A (call (.builtin "len") [va]) Q Er s:=fun e1 e2=>ra.lst H e1 fun l vs hl rs z=>len_list hl (sz63 z) (k _ _ (e2▸⟨_,congrArg (fun n:Nat=>Value.int n _) rs.len⟩));cases a with
 |str x=>obtain⟨t,rfl,z⟩:=ra.ofN rfl;exact PyProof.Rows.len_str (sz63' z) (k _ _ (Option.some.inj e▸⟨_,rfl⟩))
 |list=>exact L rfl (Option.some.inj e)
 |slist=>exact L rfl (Option.some.inj e)
 |_=>exact no_some e
noncomputable def NoSlice(x:Expr):Prop:=∀o i,subscripted x false o i=operate [o,i] (getItem o i)
noncomputable def subV(a i:V):Option V:=match a with
 | .str s=>onIS i (fun i=>(seqIndex? i s.length).bind fun k=>(s[k]?).map fun c=>.str [c]) no
 | .tup xs=>onIS i (fun i=>(seqIndex? i xs.length).bind fun k=>xs[k]?) no
 |a=>match lstOf a with
  |some xs=>onIS i (fun i=>(seqIndex? i xs.length).bind fun k=>xs[k]?) no
  |none=>(dctOf a).bind fun es=>if keyEq i i=some true then(findK i es).bind id else none
theorem idx_i{i:Int}{n j:Nat}(e:seqIndex? i n=some j):(i<0∧ -(n:Int)≤i∧(i+n).toNat=j)∨(0≤i∧i<n∧i.toNat=j):=by
 unfold seqIndex? at e
 by_cases c:i<0
 ·exact ite_k (p:=_) (by rw[if_pos c] at e;exact e) fun h e=>.inl ⟨c,by have:=of_decide_eq_true (and_l h);omega,Option.some.inj e⟩
 ·exact ite_k (p:=_) (by rw[if_neg c] at e;exact e) fun h e=>.inr ⟨by omega,of_decide_eq_true (and_r h),Option.some.inj e⟩
theorem idx_b{i:Int}{n j:Nat}(e:seqIndex? i n=some j)(z:n≤SZ): -2^63≤i∧i<2^63:=by
 have:=sz63 z;rcases idx_i e with h|h<;>exact⟨by omega,by omega⟩
theorem arr_get{α:Type}{l:List α}{i:Nat}{x:α}(h:l[i]? =some x):l.toArray[i]? =some x:=List.getElem?_toArray.trans h
theorem getItem_any{l:Addr}{vs:List Value}{i:Int}{t:Tok}{j:Nat}{x:Value}{Q:Value→Shared→Prop}(hl:s.heap.IsList l vs.toArray)(z:vs.length≤SZ)(e:seqIndex? i vs.length=some j)(hx:vs[j]? =some x)(q:Q x s):Wp T A (getItem (.ref l) (.int i t)) Q Er s:=
 have b:=idx_b e z
 (idx_i e).elim (fun⟨c,d,f⟩=>wpAny_getItem_list_neg hl c d b.1 (arr_get (f▸hx)) q) fun⟨c,y0_,f⟩=>wpAny_getItem_list hl c b.2 (arr_get (f▸hx)) q
theorem Fnd.get{o:Option V}{w:Option Value}(e:id o=some r)(h:Fnd T bk o w):∃v,w=some v∧RN T bk r v:=by
 cases show o=some r from e;exact h
theorem sub_ok{i:V}{vi:Value}{value slice:Expr}(e:subV a i=some r)(hn:NoSlice slice)(H:Hv T s.heap bk)(ra:RB T s.heap bk a va)(ri:RN T bk i vi):Gv T A s bk (subscriptTail value slice va vi) r:=@fun Q Er k=>by
 have L:∀{xs},lstOf a=some xs→onIS i (fun i=>(seqIndex? i xs.length).bind fun k=>xs[k]?) no=some r→Wp T A (subscriptTail value slice va vi) Q Er s:=fun e1 e2=>int_r e2 ri fun n t e=>bind_k e fun j f1 f2=>ra.lst H e1 fun l vs hl rs z=>
  let⟨w,g1,g2⟩:=rs.get f2
  tail_any hl.typeIs slot_list_getitem.lookup (getItem_any hl z (rs.len▸f1) g1 (k w _ g2)) (hn _ _)
 have D:∀{es},dctOf a=some es→(if keyEq i i=some true then(findK i es).bind id else none)=some r→Wp T A (subscriptTail value slice va vi) Q Er s:=fun e1 e2=>ite_k e2 fun ka e2=>bind_k e2 fun o f1 f2=>ra.dct H e1 fun d ob l g D y0_=>
  D.find f1 ri ka fun knd x kvs hk hd fd=>
   have hd:=Heap.dictOf_iff.mpr ⟨ob,g,hd⟩
   let⟨w,g1,g2⟩:=Fnd.get f2 fd
   tail_any hd.typeIs slot_dict_getitem.lookup (wpAny_getItem_of hk hd.mapOf g1 (k w _ g2)) (hn _ _)
 cases a with
 |str x=>
  obtain⟨t0,rfl,z⟩:=ra.ofN rfl;exact int_r e ri fun n t e=>bind_k e fun j f1 f2=>map_k f2 fun c g1 g2=>have b:=idx_b f1 z
   tail_any (T:="str") rfl F.slot_str_getitem.lookup (PySem.P.getItem_str (c:=c) (by simp only[Bool.or_eq_false_iff,decide_eq_false_iff_not];omega) ((congrArg (fun o:Option Nat=>o.bind _) f1).trans (arr_get g1)) (k _ _ (g2▸⟨_,rfl,show 1≤SZ by decide⟩))) (hn _ _)
 |tup xs=>
  obtain⟨z,vs,rs,m⟩:=ra.ofN rfl;cases m with|mk m=>
  have rs:=rs.to;exact int_r e ri fun n t e=>bind_k e fun j f1 f2=>have b:=idx_b f1 z
   let⟨w,g1,g2⟩:=rs.get f2
   item_tupleT (isTup_of (H.I _ m)) b.1 b.2 (rs.len▸f1) g1 (k w _ g2) (hn _ _)
 |list=>exact L rfl e
 |slist=>exact L rfl e
 |dict=>exact D rfl e
 |sdict=>exact D rfl e
 |_=>exact no_some e
end
end Mine.Internal
end
section
open PySem PySem.W PySem.Calls PyProof.Rows
namespace Mine.Internal
noncomputable section
structure Cx where
 A₀:Around
 base:Heap
 outer:List Env
 qual:Str
 scope:Scope
 L:Addr
 f:Addr
 cd:Value
 cl:List (Str×Addr)
 h₀:Heap
 p:Program
 loose:List Str
 mean:ExcName→Option Value
 mg:Str→Option Value
 mb:Str→Option Value
 ns:List Str
 np:Nat
 pin:List (Option Value)
 gens:Array GenState
 drawn:Drawn
 os:OsState
@[reducible] noncomputable def Cx.env (c:Cx):Env:=envX c.qual c.scope c.L c.f c.cd c.cl
inductive Tg where|no|im|fr|par|loc (i:Nat)|at(k:Nat)|out (i:Nat)
noncomputable abbrev Own:=Addr→Tg
variable(T:Tb) (c:Cx) (m:Str→Option Value) (bk:Bk) (fr:Led) (led:Led) (own:Own)
noncomputable def Ow(t:Tg)(u:V)(v:Value):Prop:=∃fp,RV T bk u v fp∧∀p∈fp,p∈led∧own p.1=t
inductive LocR (t:Tg):Option Value→V→Prop
 |no:LocR t none .absent
 |ok {v u}:Ow T bk led own t u v→LocR t (some v) u
noncomputable def Bk.at(bk:Bk)(k:Nat)(v:Value):V→Prop
 | .list _=>∃a,v= .ref a∧bk.ad k=some a
 |_=>bk.ad k=none
inductive AtR (es:List DictEntry) (k:Nat):Option V→Prop
 |no:getL (T.an k) es=some none→bk.ad k=none→AtR es k none
 |ok {u v}:T.pf k=true→getL (T.an k) es=some (some v)→Ow T bk led own (.at k) u v→bk.at k v u→AtR es k (some u)
inductive ParR:Pt→Prop
 |un:bk.sx=none→(∀k,bk.ad k=none)→ParR []
 |dead:ParR [(9999,.any)]
 |ok {P x dx es n}:bk.sx=some x→(x,instObj T.CP dx)∈bk.I→(dx,dictOf es n)∈led→own dx= .par→es.length≤P.length→P.length≤100→(∀k,AtR T bk led own es k (P.lookup k))→ParR ((1000,.none)::P)
structure Rel (loc:List V):Prop where
 dj:(led.map (·.1)).Nodup
 imm:∀p∈bk.I,p∈led∧own p.1= .im
 frm:∀p∈fr,p∈led∧own p.1= .fr
 frd:(fr.map (·.1)).Nodup
 len:loc.length=c.ns.length
 loc:∀{i x u},c.ns[i]? =some x→loc[i]? =some u→LocR T bk led own (.loc i) (m x) u
noncomputable def PinOk(o:Option Value)(mx:Option Value)(u:V):Prop:=match o with
 |some v=>mx=some v∧(u.nl=false∨u= .any)
 |none=>u.nl=true
noncomputable def Pin(loc:List V):Prop:=∀{i:Nat}{w:Option Value}{x:Str}{u:V},c.pin[i]? =some w→c.ns[i]? =some x→loc[i]? =some u→PinOk w (m x) u
structure SR0 (h:Heap) (σ:St):Prop where
 R:Rel T c m bk fr led own σ.loc
 P:ParR T bk led own σ.P
 F:Fr c.h₀ c.L h m
 N:News c.h₀ c.L h led
 pin:Pin c m σ.loc
inductive SRh (h:Heap) (σ:St):Prop
 |mk {l:Led} {w:Own}:SR0 T c m bk fr l w h σ→SRh h σ
noncomputable abbrev Sm(s:Shared):Prop:=s.gens=c.gens∧s.drawn=c.drawn∧s.os=c.os
noncomputable def SR(s:Shared)(σ:St):Prop:=SRh T c m bk fr s.heap σ∧Sm c s
variable{T c m bk fr led own}
variable{bk':Bk} {fr':Led} {led':Led} {own':Own} {A:Around} {Er:Value→Shared→Prop} {s:Shared} {h h':Heap} {u:V} {v:Value} {t:Tg} {σ:St} {D:Addr} {o o':Obj} {loc:List V}
noncomputable def Kp(led:Led)(own:Own)(led':Led)(own':Own)(t:Tg):Prop:=∀{p},p∈led→own p.1=t→p∈led'∧own' p.1=t
theorem Ow.tr(k:Kp led own led' own' t)(r:Ow T bk led own t u v):Ow T bk led' own' t u v:=r.imp fun y0_=>And.imp_right fun h p hp=>k (h p hp).1 (h p hp).2
theorem Ow.mono(l:bk.le bk')(r:Ow T bk led own t u v):Ow T bk' led own t u v:=r.imp fun y0_=>And.imp_left (RV.mono l)
theorem LocR.tr(k:Kp led own led' own' t){o}(r:LocR T bk led own t o u):LocR T bk led' own' t o u:=r.casesOn .no fun r=>.ok (r.tr k)
theorem LocR.mono(l:bk.le bk'){o}(r:LocR T bk led own t o u):LocR T bk' led own t o u:=r.casesOn .no fun r=>.ok (r.mono l)
theorem AtR.tr{es k}(n:Kp led own led' own' (.at k)){o}(r:AtR T bk led own es k o):AtR T bk led' own' es k o:=r.casesOn .no fun p g r a=>.ok p g (r.tr n) a
theorem AtR.mono(l:bk.le bk'){es k o}(ad:bk'.ad k=bk.ad k)(r:AtR T bk led own es k o):AtR T bk' led own es k o:=r.casesOn (fun g a=>.no g (ad.trans a)) fun{u v}p g r a=>.ok p g (r.mono l) (by
 cases u with
 |list=>exact let⟨x,e,f⟩:=a;⟨x,e,l.ad _ _ f⟩
 |_=>exact ad.trans a)
theorem ParR.tr(n:∀k,Kp led own led' own' (.at k))(n':Kp led own led' own' .par){P}(r:ParR T bk led own P):ParR T bk led' own' P:=
 r.casesOn .un .dead fun e i d w l z a=>.ok e i (n' d w).1 (n' d w).2 l z fun k=>(a k).tr (n k)
theorem ParR.mono(l:bk.le bk')(ad:bk'.ad=bk.ad)(sx:bk'.sx=bk.sx){P}(r:ParR T bk led own P):ParR T bk' led own P:=
 r.casesOn (fun e a=>.un (sx.trans e) fun k=>(congrFun ad k).trans (a k)) .dead fun e i d w z y a=>.ok (sx.trans e) (l.I _ i) d w z y fun k=>(a k).mono l (congrFun ad k)
theorem Rel.tr{X:Tg}(n:∀t,t≠X→Kp led own led' own' t)(h1:X≠ .im)(h2:X≠ .fr)(h3:∀i,X≠ .loc i)(dj:(led'.map (·.1)).Nodup)(R:Rel T c m bk fr led own loc):Rel T c m bk fr led' own' loc:=
 ⟨dj,fun p hp=>n _ h1.symm (R.imm p hp).1 (R.imm p hp).2,fun p hp=>n _ h2.symm (R.frm p hp).1 (R.frm p hp).2,R.frd,R.len,fun a b=>(R.loc a b).tr (n _ (h3 _).symm)⟩
theorem Rel.mono(l:bk.le bk')(im':∀p∈bk'.I,p∈led∧own p.1= .im)(R:Rel T c m bk fr led own loc):Rel T c m bk' fr led own loc:=⟨R.dj,im',R.frm,R.frd,R.len,fun a b=>(R.loc a b).mono l⟩
theorem set_k{α:Type}{l:List α}{i j:Nat}{a b:α}{C:Prop}(h:(l.set i a)[j]? =some b)(k1:i=j→b=a→C)(k2:i≠j→l[j]? =some b→C):C:=by
 by_cases q:i=j
 ·subst q;rw[List.getElem?_set_self'] at h;obtain⟨_,_,e⟩:=Option.map_eq_some_iff.mp h;exact k1 rfl e.symm
 ·exact k2 q ((List.getElem?_set_ne q).symm.trans h)
theorem loc_inj{i j:Nat}(h:Tg.loc i=Tg.loc j):i=j:=by injection h
theorem Rel.setL{i:Nat}{m':Str→Option Value}(R:Rel T c m bk fr led own loc)(n:∀t,t≠ .loc i→t≠ .fr→Kp led own led' own' t)(dj:(led'.map (·.1)).Nodup)(frm:∀p∈fr',p∈led'∧own' p.1= .fr)(frd:(fr'.map (·.1)).Nodup)
  (hm:∀{j x},c.ns[j]? =some x→i≠j→m' x=m x) (h:∀{x},c.ns[i]? =some x→LocR T bk led' own' (.loc i) (m' x) u):Rel T c m' bk fr' led' own' (loc.set i u):=
 ⟨dj,fun p hp=>n .im nofun nofun (R.imm p hp).1 (R.imm p hp).2,frm,frd,(List.length_set ..).trans R.len,fun{j _ _}a b=>set_k b (fun e e2=>by subst e e2;exact h a) fun q e=>hm a q▸(R.loc a e).tr (n (.loc j) (fun z=>q (loc_inj z).symm) nofun)⟩
noncomputable def Bk.add(b:Bk)(a:Addr)(o:Obj):Bk:=⟨(a,o)::b.I,b.sx,b.ad⟩
theorem Bk.le_add(b:Bk)(a:Addr)(o:Obj):b.le (b.add a o):=⟨fun y0_ h=>.tail _ h,fun y0_ h=>h,fun y0_ y1_ h=>h⟩
theorem Bk.mem_add(b:Bk)(a:Addr)(o:Obj):(a,o)∈(b.add a o).I:=.head _
open Classical in
noncomputable def Own.set(own:Own)(a:Addr)(t:Tg):Own:=fun b=>if b=a then t else own b
theorem Own.self{a:Addr}:(own.set a t) a=t:=if_pos rfl
theorem Own.ne{a b:Addr}(n:b≠a):(own.set a t) b=own b:=if_neg n
theorem nes{l:Addr}(lt:∀p∈led,p.1<l):∀p∈led,p.1≠l:=fun p hp=>Nat.ne_of_lt (lt p hp)
theorem keys_not{l:Addr}(lt:∀p∈led,p.1≠l):l∉led.map (·.1):=fun q=>let⟨p,hp,e⟩:=List.mem_map.mp q;lt p hp e
theorem kp_new{l:Addr}{t':Tg}(lt:∀p∈led,p.1≠l):Kp led own ((l,o)::led) (own.set l t) t':=fun hp e=>⟨.tail _ hp,(Own.ne (lt _ hp)).trans e⟩
theorem mem_new{l:Addr}{p:Addr×Obj}(e:p=(l,o)):p∈(l,o)::led∧own.set l t p.1=t:=by subst e;exact⟨.head _,Own.self⟩
theorem SR0.addI{l:Addr}(Z:SR0 T c m bk fr led own h σ)(F':Fr c.h₀ c.L h' m)(N':News c.h₀ c.L h' ((l,o)::led))(lt:∀p∈led,p.1≠l):SR0 T c m (bk.add l o) fr ((l,o)::led) (own.set l .im) h' σ:=
 ⟨((Z.R.tr (X:=.no) (fun y0_ y1_=>kp_new lt) nofun nofun nofun (List.nodup_cons.mpr ⟨keys_not lt,Z.R.dj⟩))).mono (bk.le_add l o) fun p hp=>(List.mem_cons.mp hp).elim mem_new fun hp=>let q:=Z.R.imm p hp;⟨.tail _ q.1,(Own.ne (lt p q.1)).trans q.2⟩,
  (Z.P.tr (fun y0_=>kp_new lt) (kp_new lt)).mono (bk.le_add l o) rfl rfl,F',N',Z.pin⟩
theorem SR.allocI(S:SR T c m bk fr s σ){C:Prop}(k:∀led,Fr c.h₀ c.L s.heap m→News c.h₀ c.L s.heap led→(∀{h' tk l o},Fr c.h₀ c.L h' m→News c.h₀ c.L h' ((l,o)::led)→(∀p∈led,p.1<l)→SR T c m (bk.add l o) fr {s with heap:=h',toks:=tk} σ)→C):C:=
 S.1.casesOn fun{led own}Z=>k led Z.F Z.N fun{h' tk l o}F' N' lt=>⟨.mk (Z.addI F' N' (nes lt)),S.2⟩
theorem SR0.addF{l:Addr}(Z:SR0 T c m bk fr led own h σ)(F':Fr c.h₀ c.L h' m)(N':News c.h₀ c.L h' ((l,o)::led))(lt:∀p∈led,p.1≠l):SR0 T c m bk ((l,o)::fr) ((l,o)::led) (own.set l .fr) h' σ:=
 have R':=Z.R.tr (own':=own.set l .fr) (X:=.no) (fun y0_ y1_=>kp_new lt) nofun nofun nofun (List.nodup_cons.mpr ⟨keys_not lt,Z.R.dj⟩)
 ⟨⟨R'.dj,R'.imm,fun p hp=>(List.mem_cons.mp hp).elim mem_new (R'.frm p),List.nodup_cons.mpr ⟨keys_not fun p hp=>lt p (Z.R.frm p hp).1,Z.R.frd⟩,R'.len,R'.loc⟩,Z.P.tr (fun y0_=>kp_new lt) (kp_new lt),F',N',Z.pin⟩
theorem SR.allocF(S:SR T c m bk fr s σ){C:Prop}(k:∀led,Fr c.h₀ c.L s.heap m→News c.h₀ c.L s.heap led→(∀{h' tk l o},Fr c.h₀ c.L h' m→News c.h₀ c.L h' ((l,o)::led)→(∀p∈led,p.1<l)→SR T c m bk ((l,o)::fr) {s with heap:=h',toks:=tk} σ)→C):C:=
 S.1.casesOn fun{led own}Z=>k led Z.F Z.N fun{h' tk l o}F' N' lt=>⟨.mk (Z.addF F' N' (nes lt)),S.2⟩
theorem SR.sub(S:SR T c m bk fr s σ)(n:(fr'.map (·.1)).Sublist (fr.map (·.1)))(k:∀p∈fr',p∈fr):SR T c m bk fr' s σ:=
 ⟨S.1.casesOn fun Z=>.mk ⟨⟨Z.R.dj,Z.R.imm,fun p hp=>Z.R.frm p (k p hp),Z.R.frd.sublist n,Z.R.len,Z.R.loc⟩,Z.P,Z.F,Z.N,Z.pin⟩,S.2⟩
theorem SR.drop{f:Led}(S:SR T c m bk (f++fr) s σ):SR T c m bk fr s σ:=S.sub ((List.sublist_append_right _ _).map _) fun y0_ h=>List.mem_append_right _ h
theorem SR.swap{f g:Led}(S:SR T c m bk (f++(g++fr)) s σ):SR T c m bk (g++(f++fr)) s σ:=
 ⟨S.1.casesOn fun Z=>.mk ⟨⟨Z.R.dj,Z.R.imm,fun p hp=>Z.R.frm p ((perm3 f g fr).mem_iff.mp hp),((perm3 f g fr).map _).nodup_iff.mpr Z.R.frd,Z.R.len,Z.R.loc⟩,Z.P,Z.F,Z.N,Z.pin⟩,S.2⟩
where perm3 (f g fr:Led):(g++(f++fr)).Perm (f++(g++fr)):=(List.append_assoc g f fr).symm▸(List.append_assoc f g fr).symm▸(List.perm_append_comm.append_right fr)
theorem SR.hv(S:SR T c m bk fr s σ)(X:T.K.In c.h₀):Hv T s.heap bk:=S.1.casesOn fun Z=>⟨X.keeps Z.F.keep,fun p hp=>(Z.N p (Z.R.imm p hp).1).1⟩
theorem SR.F(S:SR T c m bk fr s σ):Fr c.h₀ c.L s.heap m:=S.1.casesOn fun Z=>Z.F
theorem SR.get(S:SR T c m bk fr s σ){i:Nat}{x:Str}(hx:c.ns[i]? =some x)(hu:σ.loc[i]? =some u)(n:u≠ .absent){C:Prop}(k:∀v,m x=some v→RB T s.heap bk u v→C):C:=
 S.1.casesOn fun Z=>LocR.casesOn (motive:=fun o w y0_=>m x=o→u=w→C) (Z.R.loc hx hu) (fun y0_ e=>absurd e n) (fun r e f=>let⟨fp,a,b⟩:=r;k _ e ⟨fp,f▸a,fun p hp=>(Z.N p (b p hp).1).1⟩) rfl rfl
theorem SR.fresh(S:SR T c m bk fr s σ):∀p∈fr,s.heap.get? p.1=some p.2:=S.1.casesOn fun Z p hp=>(Z.N p (Z.R.frm p hp).1).1
theorem RV.rb(r:RV T bk u v fr')(S:SR T c m bk (fr'++fr) s σ):RB T s.heap bk u v:=⟨fr',r,fun p hp=>S.fresh p (List.mem_append_left _ hp)⟩
open Classical in
noncomputable def upd(led:Led)(D:Addr)(o:Obj):Led:=led.map fun p=>if p.1=D then(D,o) else p
theorem upd_keys:(upd led D o).map (·.1)=led.map (·.1):=
 (List.map_map).trans (List.map_congr_left fun p y0_=>if q:p.1=D then(congrArg Prod.fst (if_pos q)).trans q.symm else congrArg Prod.fst (if_neg q))
theorem upd_ne{p:Addr×Obj}(hp:p∈led)(n:p.1≠D):p∈upd led D o:=List.mem_map.mpr ⟨p,hp,if_neg n⟩
theorem upd_self{p:Obj}(hp:(D,p)∈led):(D,o)∈upd led D o:=List.mem_map.mpr ⟨_,hp,if_pos rfl⟩
theorem upd_id(n:D∉led.map (·.1)):upd led D o=led:=(List.map_congr_left fun p hp=>if_neg fun e=>n (List.mem_map.mpr ⟨p,hp,e⟩)).trans (List.map_id' _)
theorem Upd.of:∀{led:Led},(led.map (·.1)).Nodup→(D,o)∈led→Upd D o o' led (upd led D o')
 |p::led,n,hm=>by
  obtain⟨n1,n2⟩:=List.nodup_cons.mp n;rw[upd,List.map_cons]
  by_cases q:p.1=D
  ·have:p=(D,o):=(List.mem_cons.mp hm).elim Eq.symm fun h=>absurd (List.mem_map.mpr ⟨(D,o),h,q.symm⟩) n1;subst this;rw[if_pos rfl];show Upd D o o' _ ((D,o')::upd led D o');rw[upd_id n1];exact .head fun p hp e=>n1 (List.mem_map.mpr ⟨p,hp,e⟩)
  ·rw[if_neg q];exact .tail q (Upd.of n2 ((List.mem_cons.mp hm).elim (fun e=>absurd (congrArg Prod.fst e).symm q) id))
theorem tg_ne{X:Tg}(e:own D=X)(n:t≠X){p:Addr×Obj}(h:own p.1=t):p.1≠D:=fun q=>n (h.symm.trans ((congrArg own q).trans e))
theorem kp_upd{X:Tg}(e:own D=X)(n:t≠X):Kp led own (upd led D o) own t:=fun hp h=>⟨upd_ne hp (tg_ne e n h),h⟩
theorem kp_set{X:Tg}{t':Tg}(e:own D=X)(n:t≠X):Kp led own led (own.set D t') t:=fun hp h=>⟨hp,(Own.ne (tg_ne e n h)).trans h⟩
theorem kp_id:Kp led own led own t:=fun hp h=>⟨hp,h⟩
end
end Mine.Internal
end
section
open PySem PySem.W PySem.Calls PyProof.Rows Builtin Builtin.ObjectAttr Builtin.Getset_descriptor
namespace Mine.Internal
noncomputable abbrev tupX(vs:List Value):Obj:={cls:=.type "tuple",data:=.seq vs.toArray}
noncomputable def isRefV:Value→Bool
 | .ref _=>true
 |_=>false
noncomputable def onlyExc:List Value→Bool
 |[]=>false
 |v::r=>(isRefV v&&onlyExc r)||decide (v::r=[.type "Exception",.type "BaseException",.type "object"])
theorem isRef_k{v:Value}{C:Value→Prop}(h:isRefV v=true)(k:∀a,C (.ref a)):C v:=by
 cases v with
 |ref a=>exact k a
 |_=>exact absurd h Bool.false_ne_true
theorem onlyExc_ind{P:List Value→Prop}(h0:P [.type "Exception",.type "BaseException",.type "object"])(h1:∀a r,onlyExc r=true→P r→P (.ref a::r)):∀{l:List Value},onlyExc l=true→P l:=by
 intro l;induction l with
 |nil=>exact fun h=>absurd h Bool.false_ne_true
 |cons v r ih=>
  intro h;rcases(Bool.or_eq_true _ _).mp h with h|h
  ·have h:=(Bool.and_eq_true _ _).mp h;exact isRef_k (C:=fun v=>P (v::r)) h.1 fun a=>h1 a r h.2 (ih h.2)
  ·exact of_decide_eq_true h▸h0
theorem refuse_exc(self:Value){l:List Value}(h:onlyExc l=true):refuseLoop self "__setattr__" l=pure ():=
 onlyExc_ind (P:=fun l=>refuseLoop self "__setattr__" l=pure ()) (PySem.F.store_Exception.passes self) (fun a r y0_ ih=>by rw[refuseLoop_ref];exact ih) h
theorem exc_has{X:String}{b:Bool}{l:List Value}(h:onlyExc l=true)(hb:([.type "Exception",.type "BaseException",.type "object"]:List Value).contains (.type X)=b):l.contains (.type X)=b:=
 onlyExc_ind (P:=fun l=>l.contains (.type X)=b) hb (fun a r y0_ ih=>by rw[List.contains_cons,ih];rfl) h
noncomputable def overAny(K:Frag)(C:Addr):Bool:=(clsIn K C).any fun cd=>onlyObject cd.mro||onlyExc cd.mro
section
variable{prog:Program} {w:World} {A:Around} {K:Frag} {C x L:Addr} {s:Shared} {h₀:Heap} {m:Str→Option Value} {news:List (Addr×Obj)} {R:Result→Shared→Prop}
theorem osaA_open{ox:Obj}{od:Option Obj}{name:Str}{tk:Tok}{v:Value}{r:Option Value}(X:K.In s.heap)(I:InstAt s.heap x ox C od)(hp:overAny K C=true)(ht:takerIn K C name=some r)
  (h:∀b,wpAny (model prog w) A.in1 (match r with|some a=>setByDescriptor a (.ref x) v|none=>storeInOwnDict (.ref x) (.ref C) (.str name tk) name v b)
   (fun fin s'=>match fin with| .done f=>R (.ok f) s'| .again c'=>c'.quiet=true∧codeAny (model prog w) A c' R s') (fun e s'=>R (.error e) s') s):
  codeAny (model prog w) A (.call (.builtin "object.__setattr__") ⟨[.ref x,.str name tk,v],[]⟩) R s:=by
 have SF:=PySem.F.store_object;obtain⟨cd,hc,ho⟩:=any_some hp;have has:cd.mro.contains (.type "object")=true:=by
  rcases Bool.or_eq_true_iff.mp ho with q|q
  ·exact only_has q
  ·exact exc_has q (by decide)
 have pass:refuseLoop (.ref x) "__setattr__" cd.mro=pure ():=by
  rcases Bool.or_eq_true_iff.mp ho with q|q
  ·exact refuse_only _ q
  ·exact refuse_exc _ q
 have ne:cd.mro.isEmpty=false:=by cases q:cd.mro with|nil=>rw[q] at has;cases has|cons _ _=>rfl
 have sub:Looks (model prog w) s.heap (isInstance (.ref x) (.type "object")) true:=I.type.andThen (looks_mroIn X (by unfold mroIn;rw[hc,Option.bind_some,if_neg (by rw[ne];decide),has]));refine codeAny_call_builtin SF.slot.plain SF.entry (@check_slot (model prog w) _ _ s "object.__setattr__" "object" "__setattr__" (.ref x) [.str name tk,v] [] _ SF.kind SF.split sub (SF.args (.ref x) (.str name tk) v) ?_);obtain⟨attr,ha,hr⟩:=Option.bind_eq_some_iff.mp ht;have hm:Looks (model prog w) s.heap (mroOf (.ref C)) cd.mro:=(looks_clsIn X hc).andThen .now;have L3:Looks (model prog w) s.heap (storeTaker? attr) r:=by
  cases attr with
  |none=>cases hr;exact .now
  |some a=>
   obtain⟨b,hb,rfl⟩:=Option.map_eq_some_iff.mp hr;refine(looks_takesIn X hb).andThen ?_;cases b<;>exact .now
 rw[osa_eq,refuse_eq];refine wpAny_bind (wpAny_bind (I.type.here (wpAny_bind (hm.here ?_))));rw[pass];refine wpAny_pure (wpAny_bind (I.type.here (wpAny_bind ((looks_findIn X ha).here (wpAny_bind (L3.here ?_))))));exact h _
set_option tactic.hygienic true in
theorem set_dictA{E:Value→Shared→Prop}{news':List (Addr×Obj)}{ox:Obj}{dx:Addr}{es es':List DictEntry}{n n':Nat}{name:Str}{v:Value}{Q:Unit→Shared→Prop}(F:Fr h₀ L s.heap m)(X₀:K.In h₀)(N:News h₀ L s.heap news)(I:InstAt s.heap x ox C (some (dictOf es n)))(hd:ox.dict=some dx)
  (hs:findIn K (.ref C) "__setattr__"=some (some (.builtin "object.__setattr__"))) (hp:overAny K C=true) (ht:takerIn K C name=some none) (hh:hasDictIn K C=true) (hl:(getL name es).isSome=true)
  (e:(putL name (PyData.keyHash w.params name) (.str name (s.toks+1)) v es,putN name es n)=(es',n')) (U:Upd dx (dictOf es n) (dictOf es' n') news news') (hz:es'.length≤1000)
  (h:∀h',Fr h₀ L h' m→News h₀ L h' news'→Q () {s with heap:=h',toks:=s.toks+2}):
  wpAny (model prog w) A (setAttr (.ref x) name v) Q E s:=by
 obtain⟨pre,post,rfl,rfl,h1,h2⟩:=U.split;obtain⟨e1,e2⟩:=Prod.mk.inj e;have X:=X₀.keeps F.keep;refine set_plain X I hs ?_;refine osaA_open (s:={s with toks:=s.toks+1}) X I hp ht fun b=>?_;obtain⟨cd,hc,hd'⟩:=any_some hh;have e0:Obj.putName name (PyData.keyHash w.params name) (.str name (s.toks+1)) v (dictOf es n)=dictOf es' n':=by rw[putName_dict,e1,e2]
 obtain⟨U1,U2⟩:=news_upd (f:=Obj.putName name (PyData.keyHash w.params name) (.str name (s.toks+1)) v) F N h1 h2 e0 rfl;have D:=(N (dx,dictOf es n) (by simp)).1;have D':=(U2 (dx,dictOf es' n') (by simp)).1;obtain⟨hx,hcl,hn,-⟩:=I;obtain⟨oc,odi,oda,osl⟩:=ox;dsimp only at hcl hd;subst hcl hd;refine wpAny_bind (wpAny_pure (wpAny_bind (wpAny_bind (wpAny_loadPart hx (wpAny_bind ((looks_clsIn X hc).at ?_))))));rw[hd'];refine wpAny_pure (a:=some dx) (wpAny_bind (wpAny_pure (wpAny_bind ?_)));unfold nsSet;refine wpAny_bind (wpAny_bind (wpAny_askSetting (wpAny_pure (wpAny_bind (wpAny_mkText (wpAny_bind (wpAny_loadPart D ?_)))))));dsimp only;have c:(!es.toArray.any (·.key.isStr name)&&es.toArray.any (·.refKey))=false:=by
  rw[←Array.any_toList,←Array.any_toList];unfold getL at hl;split at hl
  ·rename_i en he;rw[List.any_eq_true.mpr ⟨en,List.mem_of_find?_eq_some he,List.find?_some he⟩];rfl
  ·split at hl
   ·cases hl
   ·rename_i z;rw[Bool.not_eq_true] at z;rw[show es.toArray.toList=es from rfl,z,Bool.and_false]
 rw[aRefKeyMayBeTheName_at,c];refine wpAny_updatePart D ?_;refine wpAny_bind (wpAny_lookBehind D' (pastItsLine_dict (by rw[List.size_toArray,sizeLine_eq];omega)) ?_);exact wpAny_pure (h _ U1 U2)
theorem set_newA{E:Value→Shared→Prop}{ox:Obj}{vs:Array Value}{name:Str}{v:Value}{Q:Unit→Shared→Prop}(F:Fr h₀ L s.heap m)(X₀:K.In h₀)(N:News h₀ L s.heap ((x,ox)::news))(hap:∀p∈news,p.1≠x)(hcl:ox.cls= .ref C)(hdn:ox.dict=none)(hdt:ox.data= .fields vs)
  (hs:findIn K (.ref C) "__setattr__"=some (some (.builtin "object.__setattr__"))) (hp:overAny K C=true) (ht:takerIn K C name=some none) (hh:hasDictIn K C=true)
  (h:∀h' D,Fr h₀ L h' m→News h₀ L h' ((x,{ox with dict:=some D})::(D,dictOf (putL name (PyData.keyHash w.params name) (.str name (s.toks+1)) v []) (putN name [] 0))::news)→(∀p∈(x,ox)::news,p.1<D)→Q () {s with heap:=h',toks:=s.toks+2}):
  wpAny (model prog w) A (setAttr (.ref x) name v) Q E s:=by
 have X:=X₀.keeps F.keep;have hx:=(N _ (.head _)).1;have I:InstAt s.heap x ox C none:=⟨hx,hcl,by unfold notCls;rw[hdt],by rw[hdn];trivial⟩;refine set_plain X I hs ?_;refine osaA_open (s:={s with toks:=s.toks+1}) X I hp ht fun b=>?_;obtain⟨cd,hc,hd'⟩:=any_some hh;have F1:=F.push emptyDict;have N1:=News.push F N emptyDict;have lt:∀p∈(x,ox)::news,p.1<s.heap.objs.size:=fun p hp=>Heap.lt_size (N p hp).1;obtain⟨F2,N2⟩:=news_upd (pre:=[(s.heap.objs.size,emptyDict)]) (d:=x) (o:=ox) (post:=news) (f:=fun o=>{o with dict:=some s.heap.objs.size}) F1 N1 (fun p hp=>by
  rw[List.mem_singleton.mp hp];exact Nat.ne_of_gt (lt _ (.head _))) hap rfl (by obtain⟨a,b,e,f⟩:=ox;dsimp only at hdt;subst hdt;rfl)
 have e0:Obj.putName name (PyData.keyHash w.params name) (.str name (s.toks+1)) v (dictOf [] 0)=dictOf (putL name (PyData.keyHash w.params name) (.str name (s.toks+1)) v []) (putN name [] 0):=by rw[putName_dict]
 obtain⟨F3,N3⟩:=news_upd (pre:=[]) (d:=s.heap.objs.size) (o:=emptyDict) (f:=Obj.putName name (PyData.keyHash w.params name) (.str name (s.toks+1)) v) F2 N2 (fun p hp=>by cases hp) (fun p hp=>by
  rcases List.mem_cons.mp hp with rfl|hp
  ·exact Nat.ne_of_lt (lt (x,ox) (.head _))
  ·exact Nat.ne_of_lt (lt _ (.tail _ hp))) e0 rfl
 have D:=(N2 (s.heap.objs.size,emptyDict) (.head _)).1;have D':=(N3 (s.heap.objs.size,_) (.head _)).1;have hx1:=(N1 (x,ox) (.tail _ (.head _))).1;have fin:=h _ s.heap.objs.size F3 (fun p hp=>N3 p (by
  rcases List.mem_cons.mp hp with rfl|hp
  ·exact .tail _ (.head _)
  ·rcases List.mem_cons.mp hp with rfl|hp
   ·exact .head _
   ·exact .tail _ (.tail _ hp))) lt
 obtain⟨hh',g,dr,tk,os⟩:=s;obtain⟨oc,odi,oda,osl⟩:=ox;dsimp only at hcl hdn hdt;subst hcl hdn hdt;refine wpAny_bind (wpAny_pure (wpAny_bind (wpAny_bind (wpAny_loadPart hx (wpAny_bind ((looks_clsIn X hc).at ?_))))));rw[hd'];show wpAny _ _ (alloc emptyDict>>=fun d=>(update x fun o=>{o with dict:=some d})>>=fun y0_=>dictMade (.ref C) x d) _ _ _;refine wpAny_bind (wpAny_alloc (wpAny_bind (wpAny_update hx1 (wpAny_pure (a:=some hh'.objs.size) (wpAny_bind (wpAny_pure (wpAny_bind ?_)))))));unfold nsSet;refine wpAny_bind (wpAny_bind (wpAny_askSetting (wpAny_pure (wpAny_bind (wpAny_mkText (wpAny_bind (wpAny_loadPart D ?_)))))));dsimp only;have cc:(!(#[]:Array DictEntry).any (·.key.isStr name)&&(#[]:Array DictEntry).any (·.refKey))=false:=by simp
 rw[aRefKeyMayBeTheName_at,cc];refine wpAny_updatePart D ?_;refine wpAny_bind (wpAny_lookBehind D' (pastItsLine_dict (by rw[List.size_toArray,sizeLine_eq];simp[putL])) ?_);exact wpAny_pure fin
theorem ga_eq(self:Value)(name:Str)(tk:Tok):∃k:Value→Found→Sem Fin,(∀tp v,k tp (.value v)=ret v)∧Builtin.«object.__getattribute__» ⟨[self,.str name tk],[]⟩=(typeOf self>>=fun tp=>find self tp name>>=fun f=>k tp f):=by
 refine⟨?k,?h1,?h2⟩
 case h2=>rfl
 case h1=>intro _ _;rfl
theorem bga_kind:builtinKind "BaseException.__getattribute__"=some .slot:=by decide+kernel
theorem bga_split:splitId "BaseException.__getattribute__"=some ("BaseException","__getattribute__"):=by decide+kernel
theorem getX_own{E:Value→Shared→Prop}{ox:Obj}{name:Str}{v:Value}{es:List DictEntry}{n:Nat}{expr:Bool}{Q:Value→Shared→Prop}{attr:Option Value}(F:Fr h₀ L s.heap m)(X₀:K.In h₀)(I:InstAt s.heap x ox C (some (dictOf es n)))
  (hg:findIn K (.ref C) "__getattribute__"=some (some (.builtin "BaseException.__getattribute__"))) (hga:findIn K (.ref C) "__getattr__"=some none) (hsub:mroIn K C (.type "BaseException")=some true) (hh:hasDictIn K C=true)
  (ha:findIn K (.ref C) name=some attr) (hn:noGet K attr=true) (hl:getL name es=some (some v)) (hv:handedIn v=true) (h:Q v {s with toks:=s.toks+1}):
  wpAny (model prog w) A (getAttr (.ref x) name expr) Q E s:=by
 have X:=X₀.keeps F.keep;have hf:findObj K C (some (dictOf es n)) name=some (.value v):=findObj_own hh ha hn (by rw[lookIn_dict];exact hl);obtain⟨hh',g,d,t,os⟩:=s;have L0:=I.type (M:=model prog w);have L1:=looks_findIn (M:=model prog w) X hg;have L2:=looks_findIn (M:=model prog w) X hga;have L3:=looks_find (M:=model prog w) X I hf;have sub:Looks (model prog w) hh' (isInstance (.ref x) (.type "BaseException")) true:=I.type.andThen (looks_mroIn X hsub);unfold getAttr getAttrBy;refine wpAny_bind (wpAny_mkText (wpAny_holding (wpAny_bind (L0.at (wpAny_bind (L1.at ?_))))));have hx2:(Value.builtin "BaseException.__getattribute__"==Value.builtin "object.__getattribute__")=false:=by decide+kernel
 have hx1:(onTheHeap (Value.ref C)&&Value.builtin "BaseException.__getattribute__"==Value.builtin "object.__getattribute__")=false:=by rw[hx2];rfl
 dsimp only;rw[hx1];unfold getAttrByItsOwn;refine wpAny_bind (L2.at ?_);have hx0:(expr&&onTheHeap (Value.builtin "BaseException.__getattribute__"))=false:=by cases expr<;>rfl
 unfold callGetattribute;rw[hx0];unfold boundAndCalled;have key:∀{A':Around}{R:Result→Shared→Prop},R (.ok (.ret v)) ⟨hh',g,d,t+1,os⟩→codeAny (model prog w) A' (.call (.builtin "BaseException.__getattribute__") ⟨[.ref x,.str name t],[]⟩) R ⟨hh',g,d,t+1,os⟩:=by
  intro A' R hR;refine codeAny_call_builtin PySem.F.attr_Exception.ga.plain PySem.F.entry_bexc_ga (@check_slot (model prog w) _ _ ⟨hh',g,d,t+1,os⟩ "BaseException.__getattribute__" "BaseException" "__getattribute__" (.ref x) [.str name t] [] _ bga_kind bga_split sub (PySem.F.args_bexc_ga _ _) ?_);obtain⟨k,k1,k2⟩:=ga_eq (.ref x) name t;rw[k2];refine wpAny_bind (L0.at (wpAny_bind (L3.at ?_)));rw[k1];exact wpAny_pure hR
 refine wpAny_bind (wpAny_attempt (wpAny_holding (wpAny_bind (wpAny_of_eq (PySem.F.attr_Exception.ga.bind (.ref x)) (wpAny_call (key ?_))))));show wpAny _ _ (handedOut v) _ _ _;rw[handedOut_of hv];exact wpAny_pure h
end
inductive ExcM (K:Frag) (C:Addr):Prop
 |mk {nm q N bs bm sn sub ab col dd k0 k1 k2 k3 k5}:K.lookup C=some (excClassObj nm q C N bs bm true sn sub ab col dd k0 k1 k2 k3 k5 "Exception.__new__")→onlyExc bm=true→ExcM K C
noncomputable abbrev excObj(C t:Addr):Obj:={cls:=.ref C,data:=.fields #[.ref t,.none,.none,.none,.bool false,.none]}
section
variable{prog:Program} {w:World} {A:Around} {h:Heap} {g:Array GenState} {d:Drawn} {t:Nat} {os:OsState}
variable{nm q:Str} {C N:Addr} {bs bm:List Value} {sn:List Str} {sub:List Value} {ab:Bool} {col:Option Bool} {dd:Option Addr} {k0 k1 k2 k3 k5:Option Value}
theorem exc_check{M:Model}{E:Value→Shared→Prop}{rest:List Value}{Q:Unit→Shared→Prop}(T:onlyExc bm=true)(hC:h.get? C=some (excClassObj nm q C N bs bm true sn sub ab col dd k0 k1 k2 k3 k5 "Exception.__new__"))
  (hq:Q () ⟨h,g,d,t,os⟩):wpAny M A (checkBuiltinCall "Exception.__new__" ⟨.ref C::rest,[]⟩) Q E ⟨h,g,d,t,os⟩:=by
 have Fn:=PySem.F.excBase_Exception;have hcont:(Value.ref C::bm).contains (.type "Exception")=true:=by rw[List.contains_cons,exc_has T Fn.hasB,Bool.or_true]
 have hstar:=Fn.noStar;simp only[checkBuiltinCall,Fn.newKind,Fn.newSplit,Fn.newRow]
 repeat (first|refine wpAny_loadPart_at hC ?_|(refine wpAny_isSubtype_exc hC ?_;rw[hcont])|refine wpAny_staticBase_exc hC ?_|refine wpAny_madeBy_exc hC ?_|simp only[bne_self_eq_false,Bool.false_eq_true,if_false]|wp_step)
 exact hq
theorem exc_new{R:Result→Shared→Prop}{rest:List Value}(T:onlyExc bm=true)(hC:h.get? C=some (excClassObj nm q C N bs bm true sn sub ab col dd k0 k1 k2 k3 k5 "Exception.__new__"))
  (hq:R (.ok (.ret (.ref (h.objs.size+1)))) ⟨(h.push (tupX rest)).push (excObj C h.objs.size),g,d,t,os⟩) (hrest:rest.length≤sizeLine):
  codeAny (model prog w) A (.builtin "Exception.__new__" ⟨.ref C::rest,[]⟩) R ⟨h,g,d,t,os⟩:=by
 have Fn:=PySem.F.excBase_Exception;have hends:=Fn.ends;have hcB:(Value.ref C::bm).contains (.type "Exception")=true:=by rw[List.contains_cons,exc_has T Fn.hasB,Bool.or_true]
 have hcA:(Value.ref C::bm).contains (.type "AttributeError")=false:=by rw[List.contains_cons,exc_has T Fn.noAttr];rfl
 have hcN:(Value.ref C::bm).contains (.type "NameError")=false:=by rw[List.contains_cons,exc_has T Fn.noName];rfl
 refine codeAny_builtinAt Fn.entry ?_;unfold Builtin.«BaseException.__new__»;refine PySem.wpAt_bind ?_;show PySem.wpAt _ _ _ (stack>>=_) _ _ _;refine PySem.wpAt_bind (PySem.wpAt_stack fun p below=>PySem.wpAt_of_wpAny ?_)
 wp_walk
 refine PySem.wpAt_of_wpAny ?_;rw[Fn.owner]
 repeat (first|with_reducible refine wpAny_madeHere_exc Fn.canon hC ?_|with_reducible refine wpAny_loadPart_at hC ?_|(with_reducible refine wpAny_isSubtype_exc hC ?_;first|rw[hcB]|rw[hcA]|rw[hcN])|wp_step)
 show R _ _;rw[Heap.size_push];exact hq
theorem exc_call{K:Frag}{R:Result→Shared→Prop}{rest:List Value}{fI:Addr}(X:K.In h)(T:onlyExc bm=true)(hC:h.get? C=some (excClassObj nm q C N bs bm true sn sub ab col dd k0 k1 k2 k3 k5 "Exception.__new__"))
  (hi:findIn K (.ref C) "__init__"=some (some (.ref fI))) (hf:typeIn K (.ref fI)=some (.type "function")) (hrest:rest.length≤sizeLine)
  (hq:codeAny (model prog w) (A.under (.builtin "type.__call__" ⟨.ref C::rest,[]⟩)) (.call (.ref fI) ⟨.ref (h.objs.size+1)::rest,[]⟩) (InitBack (h.objs.size+1) R) ⟨(h.push (tupX rest)).push (excObj C h.objs.size),g,d,t,os⟩):
  codeAny (model prog w) A (.call (.ref C) ⟨rest,[]⟩) R ⟨h,g,d,t,os⟩:=by
 have Fn:=PySem.F.excBase_Exception;have f1:=tc_lookup;have f2:=tc_bind (.ref C);have hT:(⟨h,g,d,t,os⟩:Shared).TypeIs (.ref C) "type":=⟨_,hC,rfl⟩;refine codeAny_of_tree ?_;show wpAny _ _ (callAny (.ref C) _) _ _ _
 repeat (any_goals(first|assumption|with_reducible refine wpAny_loadPart_at hC ?_|wp_step))
 refine⟨rfl,?_⟩;refine codeAny_call_builtin_at (Code.quiet_builtin _ (by decide+kernel)) entry_typeCall (wpAny_check_type_call_sub hC ?_)
 repeat (first|with_reducible refine wpAny_loadPart_at hC ?_|with_reducible refine wpAny_madeBy_exc hC ?_|wp_step)
 refine codeAny_call_builtin_code (Code.quiet_builtin _ Fn.quiet) (exc_check T hC ?_);refine exc_new T hC ?_ hrest;show wpAny _ _ _ _ _ _;have k:∀b o,h.get? b=some o→((h.push (tupX rest)).push (excObj C h.objs.size)).get? b=some o:=fun b o e=>Heap.get?_push_of_some _ (Heap.get?_push_of_some _ e);have hC₁:=k _ _ hC;have hget:((h.push (tupX rest)).push (excObj C h.objs.size)).get? (h.objs.size+1)=some (excObj C h.objs.size):=by heap_get
 have hcC:(Value.ref C::bm).contains (.ref C)=true:=by simp
 have X₁:K.In ((h.push (tupX rest)).push (excObj C h.objs.size)):=X.keeps k;unfold isInstance
 repeat (first|with_reducible refine wpAny_loadPart_at hget ?_|(with_reducible refine wpAny_isSubtype_exc hC₁ ?_;rw[hcC])|wp_step)
 show wpAny _ _ (isSubtype (.ref C) (.ref C)) _ _ _;refine wpAny_isSubtype_exc hC₁ ?_;rw[hcC];simp only[Bool.not_true,Bool.false_eq_true,if_false];have hty:Looks (model prog w) ((h.push (tupX rest)).push (excObj C h.objs.size)) (typeOf (.ref (h.objs.size+1))) (.ref C):=(Looks.ld hget).andThen .now;refine wpAny_bind (wpAny_holding (wpAny_bind (wpAny_bind (hty.at ((looks_findIn X₁ hi).at (wpAny_holding (wpAny_bind ((bind_fn X₁ _ hf).at ?_))))))));refine wpAny_bind (wpAny_call (codeAny_mono hq fun r s' z=>?_));rcases r with e|(v|_|_|_)<;>first|exact z|exact z.elim|skip
 obtain⟨rfl,z⟩:=z;exact wpAny_pure (wpAny_pure z)
end
end Mine.Internal
end
section
open PySem PySem.W PySem.Calls PyProof.Rows
namespace Mine.Internal
noncomputable section
structure CaOk (T:Tb) (C:Addr) (x:Nat) (u:V) (a mc:Value):Prop where
 hd:handedIn a=true
 rn:∀bk,RN T bk u a
 nl:u.nl=true
 cp:copiedNames.contains (T.an x)=false
 pg:plainGet T.K C (T.an x)=true
 hs:hasDictIn T.K C=true
 fi:findIn T.K (.ref C) (T.an x)=some (some a)
 sp:specialIn T.K a "__get__"=some none
 ty:typeIn T.K (.ref C)=some mc
 rd:readsIn T.K C mc=true
 fc:findCls T.K (.ref C) mc (T.an x)=some (.val a)
noncomputable def AnInj(T:Tb):Prop:=∀a b,T.an a=T.an b→a=b
structure SbOk (T:Tb) (C D:Addr) (b:Bool):Prop where
 ki:kitOne T.K (.ref C) (.ref D)=some b
 c1:plainGet T.K C "__class__"=true
 hs:hasDictIn T.K C=true
 c2:findIn T.K (.ref C) "__class__"=some (some (.builtin "object.__class__"))
 c3:specialIn T.K (.builtin "object.__class__") "__get__"=some (some (.builtin "getset_descriptor.__get__"))
 c4:takesIn T.K (.builtin "object.__class__")=some true
 c5:mroIn T.K C (.type "object")=some true
structure SpOk (s:List Nat) (ws:List (List Nat)):Prop where
 e:Txt.split ⟨s.toArray⟩ ⟨#[32]⟩=ws.map (fun w=>(⟨w.toArray⟩:Str))
 l:s.length+2≤sizeLine
 w:ws.length≤SZ
 z:∀w∈ws,w.length≤SZ
structure MsOk (T:Tb) (k f:Nat):Prop where
 pg:plainGet T.K T.CP (T.an k)=true
 hs:hasDictIn T.K T.CP=true
 fi:findIn T.K (.ref T.CP) (T.an k)=some (some (.ref (T.fa f)))
 fn:isFn T.K (.ref (T.fa f))=true
 sp:specialIn T.K (.ref (T.fa f)) "__get__"=some (some (.builtin "function.__get__"))
 tk:takesIn T.K (.ref (T.fa f))=some false
 cp:copiedNames.contains (T.an k)=false
 pf:T.pf k=false
structure TbOK (T:Tb):Prop where
 inj:AnInj T
 pf:∀x,T.pf x=true→fieldOk T.K T.CP (T.an x)=true
 ca:∀C x u,T.ca C x=some u→∃a mc,CaOk T C x u a mc
 pf1000:∀x,T.pf x=true→x<1000
 gv:∀x u,T.gv x=some u→u.nl=true∧∃v,nsIn T.K mainGlobals (T.an x)=some (some v)∧∀bk,RN T bk u v
 blt:∀n∈(["len","chr","max","min","isinstance","str","list","super","enumerate"]:List Str),nsIn T.K mainGlobals n=some none
 sb:∀C D b,T.sb C D=some b→SbOk T C D b
 sp:∀s ws,T.sp.lookup s=some ws→SpOk s ws
 ms:∀k f,(k,f)∈T.ms→MsOk T k f
structure Cx.OK (T:Tb) (c:Cx):Prop where
 B:Below c.A₀ c.base c.outer c.h₀
 X:T.K.In c.h₀
 Tp:Top c.p c.loose c.mean c.mg c.mb c.h₀
 XB:T.K.In c.base
 TB:Top c.p c.loose c.mean c.mg c.mb c.base
 kind:c.scope.kind= .function
 loc:∀x∈c.ns,c.env.kindOf x=some .local∧(x==("__debug__":Str))=false
 nd:c.ns.Nodup
variable{T:Tb} {c:Cx} {m:Str→Option Value} {bk:Bk} {fr:Led} {A:Around} {Er:Value→Shared→Prop} {s:Shared} {u a:V} {v:Value} {σ:St} {Q:Value→Shared→Prop}
noncomputable def glbN(sc:Scope)(x:Str):Bool:=sc.names.lookup x==some .globalImplicit&& !(x==("__debug__":Str))
theorem not_r:∀{b:Bool},(!b)=true→b=false
 |false,_=>rfl
theorem loc_ok(C0:c.OK T)(S:SR T c m bk fr s σ){i:Nat}{y:Str}{p:Pos}(hn:c.ns[i]? =some y)(hv:σ.loc[i]? =some u)(n:u≠ .absent)(k:∀v,m y=some v→RB T s.heap bk u v→Q v s):Wp T A (eval (.Name y p) c.env) Q Er s:=
 have q:=C0.loc y (List.mem_of_getElem? hn)
 S.get hn hv n fun v e r=>nameX_L S.F e (k v e r) C0.kind q.1 q.2
theorem glb_ok(K0:TbOK T)(C0:c.OK T)(S:SR T c m bk fr s σ){k:Nat}{p:Pos}(hg:glbN c.scope (T.an k)=true)(hv:T.gv k=some u)(q:∀v,RN T bk u v→Q v s):Wp T A (eval (.Name (T.an k) p) c.env) Q Er s:=
 let⟨_,v,h1,h2⟩:=K0.gv k u hv
 nameX_K S.F C0.X (topRead_of C0.Tp) h1 (q v (h2 bk)) C0.kind (beq_iff_eq.mp (and_l hg)) (not_r (and_r hg))
theorem blt_ok(K0:TbOK T)(C0:c.OK T)(S:SR T c m bk fr s σ){y:Str}{p:Pos}{b:Value}(hy:y∈(["len","chr","max","min","isinstance","str","list","super","enumerate"]:List Str))(hg:glbN c.scope y=true)(hb:bootBuiltins y=some b)
  (hn:y≠ "__name__") (q:Q b s):Wp T A (eval (.Name y p) c.env) Q Er s:=
 nameX_B S.F C0.X (topRead_of C0.Tp) (K0.blt y hy) hb hn q C0.kind (beq_iff_eq.mp (and_l hg)) (not_r (and_r hg))
theorem find_no{o:Option (Option Value)}{f:Option Value→Bool}{C:Prop}(e:(match o with|some a=>f a|none=>false)=true)(k:∀a,o=some a→f a=true→C):C:=by
 cases o with
 |none=>exact absurd e Bool.false_ne_true
 |some a=>exact k a rfl e
theorem get_fld{K:Frag}{C x L:Addr}{h₀:Heap}{ox:Obj}{name:Str}{es:List DictEntry}{n:Nat}{expr:Bool}(F:Fr h₀ L s.heap m)(X₀:K.In h₀)(I:W.InstAt s.heap x ox C (some (dictOf es n)))
  (hf:fieldOk K C name=true) (hl:getL name es=some (some v)) (hv:handedIn v=true) (h:Q v (tk s (s.toks+1))):Wp T A (getAttr (.ref x) name expr) Q Er s:=
 find_no (and_r hf) fun y0_ e g=>get_own F X₀ I (and_l (and_l hf)) (and_r (and_l hf)) e g hl hv h
theorem getF_own{K:Frag}{C x L:Addr}{h₀:Heap}{ox:Obj}{name:Str}{es:List DictEntry}{n:Nat}{expr:Bool}(F:Fr h₀ L s.heap m)(X₀:K.In h₀)(I:W.InstAt s.heap x ox C (some (dictOf es n)))
  (hf:fieldAt K C name=true) (hl:getL name es=some (some v)) (hv:handedIn v=true) (h:Q v (tk s (s.toks+1))):Wp T A (getAttr (.ref x) name expr) Q Er s:=
 (Bool.or_eq_true_iff.mp hf).elim (fun q=>get_fld F X₀ I q hl hv h) fun q=>find_no (and_r q) fun y0_ e g=>
  getX_own F X₀ I (beq_iff_eq.mp (and_l (and_l (and_l (and_l q))))) (beq_iff_eq.mp (and_r (and_l (and_l (and_l q))))) (beq_iff_eq.mp (and_r (and_l (and_l q)))) (and_r (and_l q)) e g hl hv h
theorem isStr_eq{x y:Str}{t:Tok}:(Value.str x t).isStr y=decide (x=y):=(beq_eq_decide x y).trans rfl
where beq_eq_decide (x y:Str):(x==y)=decide (x=y):=Bool.eq_iff_iff.mpr (beq_iff_eq.trans decide_eq_true_iff.symm)
theorem getL_cons{x y:Str}{h:Int}{t:Tok}{v:Value}{es:List DictEntry}:getL y (⟨h,.str x t,v⟩::es)=if x=y then some (some v) else getL y es:=by
 unfold getL
 by_cases q:x=y
 ·simp[isStr_eq,q]
 ·simp[isStr_eq,q,DictEntry.refKey]
theorem FD.find(an:AnInj T){k:Nat}:∀{fs es},All2 (FD T bk) fs es→match fs.lookup k with|none=>getL (T.an k) es=some none|some u=>∃v,getL (T.an k) es=some (some v)∧RN T bk u v
 |[],_,e=>(show _=[] from e)▸rfl
 |(j,u)::fs,_,⟨_,es,e,⟨h,t,v,f,r⟩,l⟩=>by
  subst e;subst f;rw[getL_cons,List.lookup_cons]
  by_cases q:k=j
  ·rw[if_pos (congrArg T.an q.symm),beq_iff_eq.mpr q];exact⟨v,rfl,r⟩
  ·rw[if_neg fun z=>q (an _ _ z).symm,beq_eq_false_iff_ne.mpr q];exact FD.find an l
theorem lk_mem{α β:Type}[BEq α][LawfulBEq α]{a:α}{b:β}{l:List (α×β)}:l.lookup a=some b→(a,b)∈l:=by
 induction l with
 |nil=>exact nofun
 |cons p r ih=>
  rw[show p=(p.1,p.2) from rfl,List.lookup_cons]
  by_cases c:(a==p.1)=true
  ·rw[c,beq_iff_eq.mp c];exact fun h=>Option.some.inj h▸ .head _
  ·rw[Bool.eq_false_iff.mpr c];exact fun h=>.tail _ (ih h)
noncomputable def attrV(T:Tb)(P:Pt)(v:V)(x:Nat):Option V:=match v with
 | .self=>(match P.lookup x with|some u=>some u|none=>(match P.lookup 1000 with|some _=>T.ca T.CP x|none=>none))
 | .inst C fs=>(match fs.lookup x with|some u=>some u|none=>T.ca C x)
 | .glob C=>T.ca C x
 |_=>none
theorem lk_ne{k j:Nat}{w:V}{P:Pt}(n:k≠j):((j,w)::P).lookup k=P.lookup k:=by rw[List.lookup_cons,beq_eq_false_iff_ne.mpr n]
theorem lt_ne{k j:Nat}(h:k<j):k≠j:=Nat.ne_of_lt h
theorem or_k{o p:Option V}{C:Prop}(e:(match o with|some u=>some u|none=>p)=some u)(k1:o=some u→C)(k2:o=none→p=some u→C):C:=by
 cases o with
 |some=>exact k1 e
 |none=>exact k2 rfl e
theorem SR0.alive{led:Led}{own:Own}{h:Heap}(Z:SR0 T c m bk fr led own h σ){x:Addr}(hx:bk.sx=some x){k:Nat}(hk:k<1000){C:Prop}
  (q:∀{dx es n},W.InstAt h x (instObj T.CP dx) T.CP (some (dictOf es n))→AtR T bk led own es k (σ.P.lookup k)→C) (d:σ.P.lookup k=none→σ.P.lookup 1000=none→C):C:=
 Z.P.casesOn (motive:=fun P y0_=>(P.lookup k=none→P.lookup 1000=none→C)→(∀{dx es n},W.InstAt h x (instObj T.CP dx) T.CP (some (dictOf es n))→AtR T bk led own es k (P.lookup k)→C)→C)
  (fun e y0_ y1_ y2_=>no_some (e.symm.trans hx)) (fun d y0_=>d (lk_ne (Nat.ne_of_lt (Nat.lt_trans hk (by decide)))) rfl)
  (fun{P y dx es n}e i m y0_ y1_ y2_ a y3_ q=>q ⟨Option.some.inj (e.symm.trans hx)▸(Z.N _ (Z.R.imm _ i).1).1,rfl,rfl,(Z.N _ m).1⟩ (show AtR T bk led own es k (((1000,V.none)::P).lookup k) from(lk_ne (lt_ne hk)).symm▸a k)) d q
theorem SR.alive(S:SR T c m bk fr s σ)(X:T.K.In c.h₀){x:Addr}(hx:bk.sx=some x){k:Nat}(hk:k<1000){C:Prop}
  (q:∀{dx es n led own},News c.h₀ c.L s.heap led→W.InstAt s.heap x (instObj T.CP dx) T.CP (some (dictOf es n))→AtR T bk led own es k (σ.P.lookup k)→C) (d:σ.P.lookup k=none→σ.P.lookup 1000=none→C):C:=
 S.1.casesOn fun{led own}Z=>Z.alive hx hk (fun I a=>q Z.N I a) d
theorem AtR.notin{led:Led}{own:Own}{es:List DictEntry}{k:Nat}{o:Option V}(r:AtR T bk led own es k o)(h:T.pf k=false):getL (T.an k) es=some none:=by
 cases r with
 |no g=>exact g
 |ok p=>exact absurd (p.symm.trans h) nofun
theorem attr_ok(K0:TbOK T)(S:SR T c m bk fr s σ)(X:T.K.In c.h₀){x:Nat}(hx:x<1000){va:Value}(e:attrV T σ.P a x=some u)(ra:RN T bk a va)(k:∀v t,RB T s.heap bk u v→Q v (tk s t)){ex:Bool}:Wp T A (getAttr va (T.an x) ex) Q Er s:=by
 cases a with
 |self=>
  obtain⟨y,rfl,hy⟩:=ra;refine S.alive X hy hx (fun{dx es n led own}N I a=>?_) fun d1 d2=>?_
  ·refine or_k e (fun h1=>?_) fun h1 h2=>?_
   ·rw[h1] at a;cases a with|ok p g r b=>exact let⟨fp,r,f⟩:=r;get_fld S.F X I (K0.pf x p) g r.handed (k _ _ ⟨fp,r,fun p hp=>(N p (f p hp).1).1⟩)
   ·rw[h1] at a;have h2:T.ca T.CP x=some u:=by revert h2;cases σ.P.lookup 1000 with|none=>exact nofun|some=>exact id
    obtain⟨w,mc,h⟩:=K0.ca _ _ _ h2;cases a with|no g b=>exact get_cls S.F X I h.pg h.hs h.fi h.sp h.hd h.cp g (k _ _ ((h.rn bk).rb h.nl))
  ·exact or_k e (fun h=>no_some (d1.symm.trans h)) fun y0_ h=>by rw[d2] at h;exact no_some h
 |inst C fs=>
  obtain⟨es,r,i⟩:=ra;cases i with|@mk y ox d n h1 h2 h3 h4 h5 h6=>
  have H:=S.hv X;have I:W.InstAt s.heap y ox C (some (dictOf es n)):=⟨H.I _ h1,h2,h3,by rw[h4];exact H.I _ h5⟩;have g:=FD.find K0.inj r.to (k:=x);refine or_k e (fun q=>?_) fun q1 q2=>?_
  ·rw[q] at g;obtain⟨v,g1,g2⟩:=g;exact getF_own S.F X I (h6 (x,u) (lk_mem q)) g1 g2.handed (k _ _ (g2.rb g2.nl))
  ·rw[q1] at g;obtain⟨w,mc,h⟩:=K0.ca _ _ _ q2;exact get_cls S.F X I h.pg h.hs h.fi h.sp h.hd h.cp g (k _ _ ((h.rn bk).rb h.nl))
 |glob C=>
  obtain rfl:=show va=_ from ra
  obtain⟨w,mc,h⟩:=K0.ca _ _ _ e;exact cls_val S.F X h.ty h.rd h.fc h.hd (k _ _ ((h.rn bk).rb h.nl))
 |_=>exact no_some e
end
end Mine.Internal
end
section
open PySem PySem.W PySem.Calls PyProof.Rows
namespace Mine.Internal
noncomputable section
noncomputable def plainE:Expr→Bool
 | .Starred .. =>false
 | .Slice .. =>false
 |_=>true
noncomputable def plainT:Expr→Bool
 | .Call .. | .Subscript .. | .Name .. | .Attribute .. | .Constant .. =>true
 |_=>false
noncomputable def xsel(x:Expr)(f0:Const→Bool)(f1:Str→Bool)(f2:Expr→Str→Pos→Bool)(f3:Expr→Operator→Expr→Bool)(f4:UnaryOp→Expr→Bool)(f5:BoolOp→List Expr→Bool)(f6:Expr→List CmpOp→List Expr→Bool)(f7:Expr→Expr→Expr→Bool)(f8:Expr→Expr→Bool)(f9:Expr→List Expr→List Keyword→Pos→Bool)(f10:List Expr→Bool)(f11:List Expr→Bool)(f12:List (Option Expr)→List Expr→Bool)(f13:Option Expr→Option Expr→Option Expr→Bool)(f14:Expr→List Comprehension→Scope→Bool):Bool:=match x with
 | .Constant c _ _=>f0 c
 | .Name y _=>f1 y
 | .Attribute v y p=>f2 v y p
 | .BinOp l o r _=>f3 l o r
 | .UnaryOp o v _=>f4 o v
 | .BoolOp o v _=>f5 o v
 | .Compare l o r _=>f6 l o r
 | .IfExp t b e _=>f7 t b e
 | .Subscript v y _=>f8 v y
 | .Call f a ks p=>f9 f a ks p
 | .Tuple es _ _=>f10 es
 | .List es _=>f11 es
 | .Dict a b _=>f12 a b
 | .Slice a b c _=>f13 a b c
 | .ListComp e gs sc _=>f14 e gs sc
 |_=>false
theorem xsel_k{x:Expr}{C:Expr→Prop}{f0}{f1}{f2}{f3}{f4}{f5}{f6}{f7}{f8}{f9}{f10}{f11}{f12}{f13}{f14}(h:xsel x f0 f1 f2 f3 f4 f5 f6 f7 f8 f9 f10 f11 f12 f13 f14=true)(q0:∀c n p,f0 c=true→C (.Constant c n p))(q1:∀y p,f1 y=true→C (.Name y p))(q2:∀v y p,f2 v y p=true→C (.Attribute v y p))(q3:∀l o r p,f3 l o r=true→C (.BinOp l o r p))(q4:∀o v p,f4 o v=true→C (.UnaryOp o v p))(q5:∀o v p,f5 o v=true→C (.BoolOp o v p))(q6:∀l o r p,f6 l o r=true→C (.Compare l o r p))(q7:∀t b e p,f7 t b e=true→C (.IfExp t b e p))(q8:∀v y p,f8 v y=true→C (.Subscript v y p))(q9:∀f a ks p,f9 f a ks p=true→C (.Call f a ks p))(q10:∀es n p,f10 es=true→C (.Tuple es n p))(q11:∀es p,f11 es=true→C (.List es p))(q12:∀a b p,f12 a b=true→C (.Dict a b p))(q13:∀a b c p,f13 a b c=true→C (.Slice a b c p))(q14:∀e gs sc p,f14 e gs sc=true→C (.ListComp e gs sc p)):C x:=by
 cases x<;>first|exact q0 _ _ _ h|exact q1 _ _ h|exact q2 _ _ _ h|exact q3 _ _ _ _ h|exact q4 _ _ _ h|exact q5 _ _ _ h|exact q6 _ _ _ _ h|exact q7 _ _ _ _ h|exact q8 _ _ _ h|exact q9 _ _ _ _ h|exact q10 _ _ _ h|exact q11 _ _ h|exact q12 _ _ _ h|exact q13 _ _ _ _ h|exact q14 _ _ _ _ h|exact absurd h Bool.false_ne_true
noncomputable def xConst(x:Expr)(k:Const→Bool):Bool:=xsel x k (fun y0_=>false) (fun y0_ y1_ y2_=>false) (fun y0_ y1_ y2_=>false) (fun y0_ y1_=>false) (fun y0_ y1_=>false) (fun y0_ y1_ y2_=>false) (fun y0_ y1_ y2_=>false) (fun y0_ y1_=>false) (fun y0_ y1_ y2_ y3_=>false) (fun y0_=>false) (fun y0_=>false) (fun y0_ y1_=>false) (fun y0_ y1_ y2_=>false) (fun y0_ y1_ y2_=>false)
@[elab_as_elim] theorem xConst_k {x:Expr} {C:Expr→Prop} {k} (h:xConst x k=true) (q:∀c n p,k c=true→C (.Constant c n p)):C x:=xsel_k h q (fun y0_ y1_ h=>absurd h Bool.false_ne_true) (fun y0_ y1_ y2_ h=>absurd h Bool.false_ne_true) (fun y0_ y1_ y2_ y3_ h=>absurd h Bool.false_ne_true) (fun y0_ y1_ y2_ h=>absurd h Bool.false_ne_true) (fun y0_ y1_ y2_ h=>absurd h Bool.false_ne_true) (fun y0_ y1_ y2_ y3_ h=>absurd h Bool.false_ne_true) (fun y0_ y1_ y2_ y3_ h=>absurd h Bool.false_ne_true) (fun y0_ y1_ y2_ h=>absurd h Bool.false_ne_true) (fun y0_ y1_ y2_ y3_ h=>absurd h Bool.false_ne_true) (fun y0_ y1_ y2_ h=>absurd h Bool.false_ne_true) (fun y0_ y1_ h=>absurd h Bool.false_ne_true) (fun y0_ y1_ y2_ h=>absurd h Bool.false_ne_true) (fun y0_ y1_ y2_ y3_ h=>absurd h Bool.false_ne_true) (fun y0_ y1_ y2_ y3_ h=>absurd h Bool.false_ne_true)
noncomputable def xName(x:Expr)(k:Str→Bool):Bool:=xsel x (fun y0_=>false) k (fun y0_ y1_ y2_=>false) (fun y0_ y1_ y2_=>false) (fun y0_ y1_=>false) (fun y0_ y1_=>false) (fun y0_ y1_ y2_=>false) (fun y0_ y1_ y2_=>false) (fun y0_ y1_=>false) (fun y0_ y1_ y2_ y3_=>false) (fun y0_=>false) (fun y0_=>false) (fun y0_ y1_=>false) (fun y0_ y1_ y2_=>false) (fun y0_ y1_ y2_=>false)
@[elab_as_elim] theorem xName_k {x:Expr} {C:Expr→Prop} {k} (h:xName x k=true) (q:∀y p,k y=true→C (.Name y p)):C x:=xsel_k h (fun y0_ y1_ y2_ h=>absurd h Bool.false_ne_true) q (fun y0_ y1_ y2_ h=>absurd h Bool.false_ne_true) (fun y0_ y1_ y2_ y3_ h=>absurd h Bool.false_ne_true) (fun y0_ y1_ y2_ h=>absurd h Bool.false_ne_true) (fun y0_ y1_ y2_ h=>absurd h Bool.false_ne_true) (fun y0_ y1_ y2_ y3_ h=>absurd h Bool.false_ne_true) (fun y0_ y1_ y2_ y3_ h=>absurd h Bool.false_ne_true) (fun y0_ y1_ y2_ h=>absurd h Bool.false_ne_true) (fun y0_ y1_ y2_ y3_ h=>absurd h Bool.false_ne_true) (fun y0_ y1_ y2_ h=>absurd h Bool.false_ne_true) (fun y0_ y1_ h=>absurd h Bool.false_ne_true) (fun y0_ y1_ y2_ h=>absurd h Bool.false_ne_true) (fun y0_ y1_ y2_ y3_ h=>absurd h Bool.false_ne_true) (fun y0_ y1_ y2_ y3_ h=>absurd h Bool.false_ne_true)
noncomputable def xAttrP(x:Expr)(k:Expr→Str→Pos→Bool):Bool:=xsel x (fun y0_=>false) (fun y0_=>false) k (fun y0_ y1_ y2_=>false) (fun y0_ y1_=>false) (fun y0_ y1_=>false) (fun y0_ y1_ y2_=>false) (fun y0_ y1_ y2_=>false) (fun y0_ y1_=>false) (fun y0_ y1_ y2_ y3_=>false) (fun y0_=>false) (fun y0_=>false) (fun y0_ y1_=>false) (fun y0_ y1_ y2_=>false) (fun y0_ y1_ y2_=>false)
@[elab_as_elim] theorem xAttrP_k {x:Expr} {C:Expr→Prop} {k} (h:xAttrP x k=true) (q:∀v y p,k v y p=true→C (.Attribute v y p)):C x:=xsel_k h (fun y0_ y1_ y2_ h=>absurd h Bool.false_ne_true) (fun y0_ y1_ h=>absurd h Bool.false_ne_true) q (fun y0_ y1_ y2_ y3_ h=>absurd h Bool.false_ne_true) (fun y0_ y1_ y2_ h=>absurd h Bool.false_ne_true) (fun y0_ y1_ y2_ h=>absurd h Bool.false_ne_true) (fun y0_ y1_ y2_ y3_ h=>absurd h Bool.false_ne_true) (fun y0_ y1_ y2_ y3_ h=>absurd h Bool.false_ne_true) (fun y0_ y1_ y2_ h=>absurd h Bool.false_ne_true) (fun y0_ y1_ y2_ y3_ h=>absurd h Bool.false_ne_true) (fun y0_ y1_ y2_ h=>absurd h Bool.false_ne_true) (fun y0_ y1_ h=>absurd h Bool.false_ne_true) (fun y0_ y1_ y2_ h=>absurd h Bool.false_ne_true) (fun y0_ y1_ y2_ y3_ h=>absurd h Bool.false_ne_true) (fun y0_ y1_ y2_ y3_ h=>absurd h Bool.false_ne_true)
noncomputable def xBin(x:Expr)(k:Expr→Operator→Expr→Bool):Bool:=xsel x (fun y0_=>false) (fun y0_=>false) (fun y0_ y1_ y2_=>false) k (fun y0_ y1_=>false) (fun y0_ y1_=>false) (fun y0_ y1_ y2_=>false) (fun y0_ y1_ y2_=>false) (fun y0_ y1_=>false) (fun y0_ y1_ y2_ y3_=>false) (fun y0_=>false) (fun y0_=>false) (fun y0_ y1_=>false) (fun y0_ y1_ y2_=>false) (fun y0_ y1_ y2_=>false)
@[elab_as_elim] theorem xBin_k {x:Expr} {C:Expr→Prop} {k} (h:xBin x k=true) (q:∀l o r p,k l o r=true→C (.BinOp l o r p)):C x:=xsel_k h (fun y0_ y1_ y2_ h=>absurd h Bool.false_ne_true) (fun y0_ y1_ h=>absurd h Bool.false_ne_true) (fun y0_ y1_ y2_ h=>absurd h Bool.false_ne_true) q (fun y0_ y1_ y2_ h=>absurd h Bool.false_ne_true) (fun y0_ y1_ y2_ h=>absurd h Bool.false_ne_true) (fun y0_ y1_ y2_ y3_ h=>absurd h Bool.false_ne_true) (fun y0_ y1_ y2_ y3_ h=>absurd h Bool.false_ne_true) (fun y0_ y1_ y2_ h=>absurd h Bool.false_ne_true) (fun y0_ y1_ y2_ y3_ h=>absurd h Bool.false_ne_true) (fun y0_ y1_ y2_ h=>absurd h Bool.false_ne_true) (fun y0_ y1_ h=>absurd h Bool.false_ne_true) (fun y0_ y1_ y2_ h=>absurd h Bool.false_ne_true) (fun y0_ y1_ y2_ y3_ h=>absurd h Bool.false_ne_true) (fun y0_ y1_ y2_ y3_ h=>absurd h Bool.false_ne_true)
noncomputable def xUn(x:Expr)(k:UnaryOp→Expr→Bool):Bool:=xsel x (fun y0_=>false) (fun y0_=>false) (fun y0_ y1_ y2_=>false) (fun y0_ y1_ y2_=>false) k (fun y0_ y1_=>false) (fun y0_ y1_ y2_=>false) (fun y0_ y1_ y2_=>false) (fun y0_ y1_=>false) (fun y0_ y1_ y2_ y3_=>false) (fun y0_=>false) (fun y0_=>false) (fun y0_ y1_=>false) (fun y0_ y1_ y2_=>false) (fun y0_ y1_ y2_=>false)
@[elab_as_elim] theorem xUn_k {x:Expr} {C:Expr→Prop} {k} (h:xUn x k=true) (q:∀o v p,k o v=true→C (.UnaryOp o v p)):C x:=xsel_k h (fun y0_ y1_ y2_ h=>absurd h Bool.false_ne_true) (fun y0_ y1_ h=>absurd h Bool.false_ne_true) (fun y0_ y1_ y2_ h=>absurd h Bool.false_ne_true) (fun y0_ y1_ y2_ y3_ h=>absurd h Bool.false_ne_true) q (fun y0_ y1_ y2_ h=>absurd h Bool.false_ne_true) (fun y0_ y1_ y2_ y3_ h=>absurd h Bool.false_ne_true) (fun y0_ y1_ y2_ y3_ h=>absurd h Bool.false_ne_true) (fun y0_ y1_ y2_ h=>absurd h Bool.false_ne_true) (fun y0_ y1_ y2_ y3_ h=>absurd h Bool.false_ne_true) (fun y0_ y1_ y2_ h=>absurd h Bool.false_ne_true) (fun y0_ y1_ h=>absurd h Bool.false_ne_true) (fun y0_ y1_ y2_ h=>absurd h Bool.false_ne_true) (fun y0_ y1_ y2_ y3_ h=>absurd h Bool.false_ne_true) (fun y0_ y1_ y2_ y3_ h=>absurd h Bool.false_ne_true)
noncomputable def xBool(x:Expr)(k:BoolOp→List Expr→Bool):Bool:=xsel x (fun y0_=>false) (fun y0_=>false) (fun y0_ y1_ y2_=>false) (fun y0_ y1_ y2_=>false) (fun y0_ y1_=>false) k (fun y0_ y1_ y2_=>false) (fun y0_ y1_ y2_=>false) (fun y0_ y1_=>false) (fun y0_ y1_ y2_ y3_=>false) (fun y0_=>false) (fun y0_=>false) (fun y0_ y1_=>false) (fun y0_ y1_ y2_=>false) (fun y0_ y1_ y2_=>false)
@[elab_as_elim] theorem xBool_k {x:Expr} {C:Expr→Prop} {k} (h:xBool x k=true) (q:∀o v p,k o v=true→C (.BoolOp o v p)):C x:=xsel_k h (fun y0_ y1_ y2_ h=>absurd h Bool.false_ne_true) (fun y0_ y1_ h=>absurd h Bool.false_ne_true) (fun y0_ y1_ y2_ h=>absurd h Bool.false_ne_true) (fun y0_ y1_ y2_ y3_ h=>absurd h Bool.false_ne_true) (fun y0_ y1_ y2_ h=>absurd h Bool.false_ne_true) q (fun y0_ y1_ y2_ y3_ h=>absurd h Bool.false_ne_true) (fun y0_ y1_ y2_ y3_ h=>absurd h Bool.false_ne_true) (fun y0_ y1_ y2_ h=>absurd h Bool.false_ne_true) (fun y0_ y1_ y2_ y3_ h=>absurd h Bool.false_ne_true) (fun y0_ y1_ y2_ h=>absurd h Bool.false_ne_true) (fun y0_ y1_ h=>absurd h Bool.false_ne_true) (fun y0_ y1_ y2_ h=>absurd h Bool.false_ne_true) (fun y0_ y1_ y2_ y3_ h=>absurd h Bool.false_ne_true) (fun y0_ y1_ y2_ y3_ h=>absurd h Bool.false_ne_true)
noncomputable def xCmp(x:Expr)(k:Expr→List CmpOp→List Expr→Bool):Bool:=xsel x (fun y0_=>false) (fun y0_=>false) (fun y0_ y1_ y2_=>false) (fun y0_ y1_ y2_=>false) (fun y0_ y1_=>false) (fun y0_ y1_=>false) k (fun y0_ y1_ y2_=>false) (fun y0_ y1_=>false) (fun y0_ y1_ y2_ y3_=>false) (fun y0_=>false) (fun y0_=>false) (fun y0_ y1_=>false) (fun y0_ y1_ y2_=>false) (fun y0_ y1_ y2_=>false)
@[elab_as_elim] theorem xCmp_k {x:Expr} {C:Expr→Prop} {k} (h:xCmp x k=true) (q:∀l o r p,k l o r=true→C (.Compare l o r p)):C x:=xsel_k h (fun y0_ y1_ y2_ h=>absurd h Bool.false_ne_true) (fun y0_ y1_ h=>absurd h Bool.false_ne_true) (fun y0_ y1_ y2_ h=>absurd h Bool.false_ne_true) (fun y0_ y1_ y2_ y3_ h=>absurd h Bool.false_ne_true) (fun y0_ y1_ y2_ h=>absurd h Bool.false_ne_true) (fun y0_ y1_ y2_ h=>absurd h Bool.false_ne_true) q (fun y0_ y1_ y2_ y3_ h=>absurd h Bool.false_ne_true) (fun y0_ y1_ y2_ h=>absurd h Bool.false_ne_true) (fun y0_ y1_ y2_ y3_ h=>absurd h Bool.false_ne_true) (fun y0_ y1_ y2_ h=>absurd h Bool.false_ne_true) (fun y0_ y1_ h=>absurd h Bool.false_ne_true) (fun y0_ y1_ y2_ h=>absurd h Bool.false_ne_true) (fun y0_ y1_ y2_ y3_ h=>absurd h Bool.false_ne_true) (fun y0_ y1_ y2_ y3_ h=>absurd h Bool.false_ne_true)
noncomputable def xIf(x:Expr)(k:Expr→Expr→Expr→Bool):Bool:=xsel x (fun y0_=>false) (fun y0_=>false) (fun y0_ y1_ y2_=>false) (fun y0_ y1_ y2_=>false) (fun y0_ y1_=>false) (fun y0_ y1_=>false) (fun y0_ y1_ y2_=>false) k (fun y0_ y1_=>false) (fun y0_ y1_ y2_ y3_=>false) (fun y0_=>false) (fun y0_=>false) (fun y0_ y1_=>false) (fun y0_ y1_ y2_=>false) (fun y0_ y1_ y2_=>false)
@[elab_as_elim] theorem xIf_k {x:Expr} {C:Expr→Prop} {k} (h:xIf x k=true) (q:∀t b e p,k t b e=true→C (.IfExp t b e p)):C x:=xsel_k h (fun y0_ y1_ y2_ h=>absurd h Bool.false_ne_true) (fun y0_ y1_ h=>absurd h Bool.false_ne_true) (fun y0_ y1_ y2_ h=>absurd h Bool.false_ne_true) (fun y0_ y1_ y2_ y3_ h=>absurd h Bool.false_ne_true) (fun y0_ y1_ y2_ h=>absurd h Bool.false_ne_true) (fun y0_ y1_ y2_ h=>absurd h Bool.false_ne_true) (fun y0_ y1_ y2_ y3_ h=>absurd h Bool.false_ne_true) q (fun y0_ y1_ y2_ h=>absurd h Bool.false_ne_true) (fun y0_ y1_ y2_ y3_ h=>absurd h Bool.false_ne_true) (fun y0_ y1_ y2_ h=>absurd h Bool.false_ne_true) (fun y0_ y1_ h=>absurd h Bool.false_ne_true) (fun y0_ y1_ y2_ h=>absurd h Bool.false_ne_true) (fun y0_ y1_ y2_ y3_ h=>absurd h Bool.false_ne_true) (fun y0_ y1_ y2_ y3_ h=>absurd h Bool.false_ne_true)
noncomputable def xSub(x:Expr)(k:Expr→Expr→Bool):Bool:=xsel x (fun y0_=>false) (fun y0_=>false) (fun y0_ y1_ y2_=>false) (fun y0_ y1_ y2_=>false) (fun y0_ y1_=>false) (fun y0_ y1_=>false) (fun y0_ y1_ y2_=>false) (fun y0_ y1_ y2_=>false) k (fun y0_ y1_ y2_ y3_=>false) (fun y0_=>false) (fun y0_=>false) (fun y0_ y1_=>false) (fun y0_ y1_ y2_=>false) (fun y0_ y1_ y2_=>false)
@[elab_as_elim] theorem xSub_k {x:Expr} {C:Expr→Prop} {k} (h:xSub x k=true) (q:∀v y p,k v y=true→C (.Subscript v y p)):C x:=xsel_k h (fun y0_ y1_ y2_ h=>absurd h Bool.false_ne_true) (fun y0_ y1_ h=>absurd h Bool.false_ne_true) (fun y0_ y1_ y2_ h=>absurd h Bool.false_ne_true) (fun y0_ y1_ y2_ y3_ h=>absurd h Bool.false_ne_true) (fun y0_ y1_ y2_ h=>absurd h Bool.false_ne_true) (fun y0_ y1_ y2_ h=>absurd h Bool.false_ne_true) (fun y0_ y1_ y2_ y3_ h=>absurd h Bool.false_ne_true) (fun y0_ y1_ y2_ y3_ h=>absurd h Bool.false_ne_true) q (fun y0_ y1_ y2_ y3_ h=>absurd h Bool.false_ne_true) (fun y0_ y1_ y2_ h=>absurd h Bool.false_ne_true) (fun y0_ y1_ h=>absurd h Bool.false_ne_true) (fun y0_ y1_ y2_ h=>absurd h Bool.false_ne_true) (fun y0_ y1_ y2_ y3_ h=>absurd h Bool.false_ne_true) (fun y0_ y1_ y2_ y3_ h=>absurd h Bool.false_ne_true)
noncomputable def xCall(x:Expr)(k:Expr→List Expr→List Keyword→Pos→Bool):Bool:=xsel x (fun y0_=>false) (fun y0_=>false) (fun y0_ y1_ y2_=>false) (fun y0_ y1_ y2_=>false) (fun y0_ y1_=>false) (fun y0_ y1_=>false) (fun y0_ y1_ y2_=>false) (fun y0_ y1_ y2_=>false) (fun y0_ y1_=>false) k (fun y0_=>false) (fun y0_=>false) (fun y0_ y1_=>false) (fun y0_ y1_ y2_=>false) (fun y0_ y1_ y2_=>false)
@[elab_as_elim] theorem xCall_k {x:Expr} {C:Expr→Prop} {k} (h:xCall x k=true) (q:∀f a ks p,k f a ks p=true→C (.Call f a ks p)):C x:=xsel_k h (fun y0_ y1_ y2_ h=>absurd h Bool.false_ne_true) (fun y0_ y1_ h=>absurd h Bool.false_ne_true) (fun y0_ y1_ y2_ h=>absurd h Bool.false_ne_true) (fun y0_ y1_ y2_ y3_ h=>absurd h Bool.false_ne_true) (fun y0_ y1_ y2_ h=>absurd h Bool.false_ne_true) (fun y0_ y1_ y2_ h=>absurd h Bool.false_ne_true) (fun y0_ y1_ y2_ y3_ h=>absurd h Bool.false_ne_true) (fun y0_ y1_ y2_ y3_ h=>absurd h Bool.false_ne_true) (fun y0_ y1_ y2_ h=>absurd h Bool.false_ne_true) q (fun y0_ y1_ y2_ h=>absurd h Bool.false_ne_true) (fun y0_ y1_ h=>absurd h Bool.false_ne_true) (fun y0_ y1_ y2_ h=>absurd h Bool.false_ne_true) (fun y0_ y1_ y2_ y3_ h=>absurd h Bool.false_ne_true) (fun y0_ y1_ y2_ y3_ h=>absurd h Bool.false_ne_true)
noncomputable def xTup(x:Expr)(k:List Expr→Bool):Bool:=xsel x (fun y0_=>false) (fun y0_=>false) (fun y0_ y1_ y2_=>false) (fun y0_ y1_ y2_=>false) (fun y0_ y1_=>false) (fun y0_ y1_=>false) (fun y0_ y1_ y2_=>false) (fun y0_ y1_ y2_=>false) (fun y0_ y1_=>false) (fun y0_ y1_ y2_ y3_=>false) k (fun y0_=>false) (fun y0_ y1_=>false) (fun y0_ y1_ y2_=>false) (fun y0_ y1_ y2_=>false)
@[elab_as_elim] theorem xTup_k {x:Expr} {C:Expr→Prop} {k} (h:xTup x k=true) (q:∀es n p,k es=true→C (.Tuple es n p)):C x:=xsel_k h (fun y0_ y1_ y2_ h=>absurd h Bool.false_ne_true) (fun y0_ y1_ h=>absurd h Bool.false_ne_true) (fun y0_ y1_ y2_ h=>absurd h Bool.false_ne_true) (fun y0_ y1_ y2_ y3_ h=>absurd h Bool.false_ne_true) (fun y0_ y1_ y2_ h=>absurd h Bool.false_ne_true) (fun y0_ y1_ y2_ h=>absurd h Bool.false_ne_true) (fun y0_ y1_ y2_ y3_ h=>absurd h Bool.false_ne_true) (fun y0_ y1_ y2_ y3_ h=>absurd h Bool.false_ne_true) (fun y0_ y1_ y2_ h=>absurd h Bool.false_ne_true) (fun y0_ y1_ y2_ y3_ h=>absurd h Bool.false_ne_true) q (fun y0_ y1_ h=>absurd h Bool.false_ne_true) (fun y0_ y1_ y2_ h=>absurd h Bool.false_ne_true) (fun y0_ y1_ y2_ y3_ h=>absurd h Bool.false_ne_true) (fun y0_ y1_ y2_ y3_ h=>absurd h Bool.false_ne_true)
noncomputable def xLst(x:Expr)(k:List Expr→Bool):Bool:=xsel x (fun y0_=>false) (fun y0_=>false) (fun y0_ y1_ y2_=>false) (fun y0_ y1_ y2_=>false) (fun y0_ y1_=>false) (fun y0_ y1_=>false) (fun y0_ y1_ y2_=>false) (fun y0_ y1_ y2_=>false) (fun y0_ y1_=>false) (fun y0_ y1_ y2_ y3_=>false) (fun y0_=>false) k (fun y0_ y1_=>false) (fun y0_ y1_ y2_=>false) (fun y0_ y1_ y2_=>false)
@[elab_as_elim] theorem xLst_k {x:Expr} {C:Expr→Prop} {k} (h:xLst x k=true) (q:∀es p,k es=true→C (.List es p)):C x:=xsel_k h (fun y0_ y1_ y2_ h=>absurd h Bool.false_ne_true) (fun y0_ y1_ h=>absurd h Bool.false_ne_true) (fun y0_ y1_ y2_ h=>absurd h Bool.false_ne_true) (fun y0_ y1_ y2_ y3_ h=>absurd h Bool.false_ne_true) (fun y0_ y1_ y2_ h=>absurd h Bool.false_ne_true) (fun y0_ y1_ y2_ h=>absurd h Bool.false_ne_true) (fun y0_ y1_ y2_ y3_ h=>absurd h Bool.false_ne_true) (fun y0_ y1_ y2_ y3_ h=>absurd h Bool.false_ne_true) (fun y0_ y1_ y2_ h=>absurd h Bool.false_ne_true) (fun y0_ y1_ y2_ y3_ h=>absurd h Bool.false_ne_true) (fun y0_ y1_ y2_ h=>absurd h Bool.false_ne_true) q (fun y0_ y1_ y2_ h=>absurd h Bool.false_ne_true) (fun y0_ y1_ y2_ y3_ h=>absurd h Bool.false_ne_true) (fun y0_ y1_ y2_ y3_ h=>absurd h Bool.false_ne_true)
noncomputable def xDict(x:Expr)(k:List (Option Expr)→List Expr→Bool):Bool:=xsel x (fun y0_=>false) (fun y0_=>false) (fun y0_ y1_ y2_=>false) (fun y0_ y1_ y2_=>false) (fun y0_ y1_=>false) (fun y0_ y1_=>false) (fun y0_ y1_ y2_=>false) (fun y0_ y1_ y2_=>false) (fun y0_ y1_=>false) (fun y0_ y1_ y2_ y3_=>false) (fun y0_=>false) (fun y0_=>false) k (fun y0_ y1_ y2_=>false) (fun y0_ y1_ y2_=>false)
@[elab_as_elim] theorem xDict_k {x:Expr} {C:Expr→Prop} {k} (h:xDict x k=true) (q:∀a b p,k a b=true→C (.Dict a b p)):C x:=xsel_k h (fun y0_ y1_ y2_ h=>absurd h Bool.false_ne_true) (fun y0_ y1_ h=>absurd h Bool.false_ne_true) (fun y0_ y1_ y2_ h=>absurd h Bool.false_ne_true) (fun y0_ y1_ y2_ y3_ h=>absurd h Bool.false_ne_true) (fun y0_ y1_ y2_ h=>absurd h Bool.false_ne_true) (fun y0_ y1_ y2_ h=>absurd h Bool.false_ne_true) (fun y0_ y1_ y2_ y3_ h=>absurd h Bool.false_ne_true) (fun y0_ y1_ y2_ y3_ h=>absurd h Bool.false_ne_true) (fun y0_ y1_ y2_ h=>absurd h Bool.false_ne_true) (fun y0_ y1_ y2_ y3_ h=>absurd h Bool.false_ne_true) (fun y0_ y1_ y2_ h=>absurd h Bool.false_ne_true) (fun y0_ y1_ h=>absurd h Bool.false_ne_true) q (fun y0_ y1_ y2_ y3_ h=>absurd h Bool.false_ne_true) (fun y0_ y1_ y2_ y3_ h=>absurd h Bool.false_ne_true)
noncomputable def xSl(x:Expr)(k:Option Expr→Option Expr→Option Expr→Bool):Bool:=xsel x (fun y0_=>false) (fun y0_=>false) (fun y0_ y1_ y2_=>false) (fun y0_ y1_ y2_=>false) (fun y0_ y1_=>false) (fun y0_ y1_=>false) (fun y0_ y1_ y2_=>false) (fun y0_ y1_ y2_=>false) (fun y0_ y1_=>false) (fun y0_ y1_ y2_ y3_=>false) (fun y0_=>false) (fun y0_=>false) (fun y0_ y1_=>false) k (fun y0_ y1_ y2_=>false)
@[elab_as_elim] theorem xSl_k {x:Expr} {C:Expr→Prop} {k} (h:xSl x k=true) (q:∀a b c p,k a b c=true→C (.Slice a b c p)):C x:=xsel_k h (fun y0_ y1_ y2_ h=>absurd h Bool.false_ne_true) (fun y0_ y1_ h=>absurd h Bool.false_ne_true) (fun y0_ y1_ y2_ h=>absurd h Bool.false_ne_true) (fun y0_ y1_ y2_ y3_ h=>absurd h Bool.false_ne_true) (fun y0_ y1_ y2_ h=>absurd h Bool.false_ne_true) (fun y0_ y1_ y2_ h=>absurd h Bool.false_ne_true) (fun y0_ y1_ y2_ y3_ h=>absurd h Bool.false_ne_true) (fun y0_ y1_ y2_ y3_ h=>absurd h Bool.false_ne_true) (fun y0_ y1_ y2_ h=>absurd h Bool.false_ne_true) (fun y0_ y1_ y2_ y3_ h=>absurd h Bool.false_ne_true) (fun y0_ y1_ y2_ h=>absurd h Bool.false_ne_true) (fun y0_ y1_ h=>absurd h Bool.false_ne_true) (fun y0_ y1_ y2_ h=>absurd h Bool.false_ne_true) q (fun y0_ y1_ y2_ y3_ h=>absurd h Bool.false_ne_true)
noncomputable def xComp(x:Expr)(k:Expr→List Comprehension→Scope→Bool):Bool:=xsel x (fun y0_=>false) (fun y0_=>false) (fun y0_ y1_ y2_=>false) (fun y0_ y1_ y2_=>false) (fun y0_ y1_=>false) (fun y0_ y1_=>false) (fun y0_ y1_ y2_=>false) (fun y0_ y1_ y2_=>false) (fun y0_ y1_=>false) (fun y0_ y1_ y2_ y3_=>false) (fun y0_=>false) (fun y0_=>false) (fun y0_ y1_=>false) (fun y0_ y1_ y2_=>false) k
@[elab_as_elim] theorem xComp_k {x:Expr} {C:Expr→Prop} {k} (h:xComp x k=true) (q:∀e gs sc p,k e gs sc=true→C (.ListComp e gs sc p)):C x:=xsel_k h (fun y0_ y1_ y2_ h=>absurd h Bool.false_ne_true) (fun y0_ y1_ h=>absurd h Bool.false_ne_true) (fun y0_ y1_ y2_ h=>absurd h Bool.false_ne_true) (fun y0_ y1_ y2_ y3_ h=>absurd h Bool.false_ne_true) (fun y0_ y1_ y2_ h=>absurd h Bool.false_ne_true) (fun y0_ y1_ y2_ h=>absurd h Bool.false_ne_true) (fun y0_ y1_ y2_ y3_ h=>absurd h Bool.false_ne_true) (fun y0_ y1_ y2_ y3_ h=>absurd h Bool.false_ne_true) (fun y0_ y1_ y2_ h=>absurd h Bool.false_ne_true) (fun y0_ y1_ y2_ y3_ h=>absurd h Bool.false_ne_true) (fun y0_ y1_ y2_ h=>absurd h Bool.false_ne_true) (fun y0_ y1_ h=>absurd h Bool.false_ne_true) (fun y0_ y1_ y2_ h=>absurd h Bool.false_ne_true) (fun y0_ y1_ y2_ y3_ h=>absurd h Bool.false_ne_true) q
noncomputable def ysel(x:Stmt)(f0:Expr→Bool)(f1:List Expr→Expr→Bool)(f2:Expr→Operator→Expr→Bool)(f3:Expr→List Stmt→List Stmt→Bool)(f4:Expr→List Stmt→List Stmt→Bool)(f5:Expr→Expr→List Stmt→List Stmt→Bool)(f6:Option Expr→Bool)(f7:Option Expr→Option Expr→Bool)(f8:Expr→Bool)(f9:List Expr→Bool)(f10:List Stmt→List ExceptHandler→List Stmt→List Stmt→Bool)(f11:Bool)(f12:Bool):Bool:=match x with
 | .Expr v _=>f0 v
 | .Assign t v _=>f1 t v
 | .AugAssign t o v _=>f2 t o v
 | .If t a b _=>f3 t a b
 | .While t a b _=>f4 t a b
 | .For t v a b _=>f5 t v a b
 | .Return v _=>f6 v
 | .Raise v w _=>f7 v w
 | .Assert v _ _=>f8 v
 | .Delete v _=>f9 v
 | .Try a b o f _=>f10 a b o f
 | .Break _=>f11
 | .Pass _=>f12
 |_=>false
theorem ysel_k{x:Stmt}{C:Stmt→Prop}{f0}{f1}{f2}{f3}{f4}{f5}{f6}{f7}{f8}{f9}{f10}{f11}{f12}(h:ysel x f0 f1 f2 f3 f4 f5 f6 f7 f8 f9 f10 f11 f12=true)(q0:∀v p,f0 v=true→C (.Expr v p))(q1:∀t v p,f1 t v=true→C (.Assign t v p))(q2:∀t o v p,f2 t o v=true→C (.AugAssign t o v p))(q3:∀t a b p,f3 t a b=true→C (.If t a b p))(q4:∀t a b p,f4 t a b=true→C (.While t a b p))(q5:∀t v a b p,f5 t v a b=true→C (.For t v a b p))(q6:∀v p,f6 v=true→C (.Return v p))(q7:∀v w p,f7 v w=true→C (.Raise v w p))(q8:∀v w p,f8 v=true→C (.Assert v w p))(q9:∀v p,f9 v=true→C (.Delete v p))(q10:∀a b o f p,f10 a b o f=true→C (.Try a b o f p))(q11:∀p,f11=true→C (.Break p))(q12:∀p,f12=true→C (.Pass p)):C x:=by
 cases x<;>first|exact q0 _ _ h|exact q1 _ _ _ h|exact q2 _ _ _ _ h|exact q3 _ _ _ _ h|exact q4 _ _ _ _ h|exact q5 _ _ _ _ _ h|exact q6 _ _ h|exact q7 _ _ _ h|exact q8 _ _ _ h|exact q9 _ _ h|exact q10 _ _ _ _ _ h|exact q11 _ h|exact q12 _ h|exact absurd h Bool.false_ne_true
noncomputable def yExpr(x:Stmt)(k:Expr→Bool):Bool:=ysel x k (fun y0_ y1_=>false) (fun y0_ y1_ y2_=>false) (fun y0_ y1_ y2_=>false) (fun y0_ y1_ y2_=>false) (fun y0_ y1_ y2_ y3_=>false) (fun y0_=>false) (fun y0_ y1_=>false) (fun y0_=>false) (fun y0_=>false) (fun y0_ y1_ y2_ y3_=>false) false false
@[elab_as_elim] theorem yExpr_k {x:Stmt} {C:Stmt→Prop} {k} (h:yExpr x k=true) (q:∀v p,k v=true→C (.Expr v p)):C x:=ysel_k h q (fun y0_ y1_ y2_ h=>absurd h Bool.false_ne_true) (fun y0_ y1_ y2_ y3_ h=>absurd h Bool.false_ne_true) (fun y0_ y1_ y2_ y3_ h=>absurd h Bool.false_ne_true) (fun y0_ y1_ y2_ y3_ h=>absurd h Bool.false_ne_true) (fun y0_ y1_ y2_ y3_ y4_ h=>absurd h Bool.false_ne_true) (fun y0_ y1_ h=>absurd h Bool.false_ne_true) (fun y0_ y1_ y2_ h=>absurd h Bool.false_ne_true) (fun y0_ y1_ y2_ h=>absurd h Bool.false_ne_true) (fun y0_ y1_ h=>absurd h Bool.false_ne_true) (fun y0_ y1_ y2_ y3_ y4_ h=>absurd h Bool.false_ne_true) (fun y0_ h=>absurd h Bool.false_ne_true) (fun y0_ h=>absurd h Bool.false_ne_true)
noncomputable def yAsg(x:Stmt)(k:List Expr→Expr→Bool):Bool:=ysel x (fun y0_=>false) k (fun y0_ y1_ y2_=>false) (fun y0_ y1_ y2_=>false) (fun y0_ y1_ y2_=>false) (fun y0_ y1_ y2_ y3_=>false) (fun y0_=>false) (fun y0_ y1_=>false) (fun y0_=>false) (fun y0_=>false) (fun y0_ y1_ y2_ y3_=>false) false false
@[elab_as_elim] theorem yAsg_k {x:Stmt} {C:Stmt→Prop} {k} (h:yAsg x k=true) (q:∀t v p,k t v=true→C (.Assign t v p)):C x:=ysel_k h (fun y0_ y1_ h=>absurd h Bool.false_ne_true) q (fun y0_ y1_ y2_ y3_ h=>absurd h Bool.false_ne_true) (fun y0_ y1_ y2_ y3_ h=>absurd h Bool.false_ne_true) (fun y0_ y1_ y2_ y3_ h=>absurd h Bool.false_ne_true) (fun y0_ y1_ y2_ y3_ y4_ h=>absurd h Bool.false_ne_true) (fun y0_ y1_ h=>absurd h Bool.false_ne_true) (fun y0_ y1_ y2_ h=>absurd h Bool.false_ne_true) (fun y0_ y1_ y2_ h=>absurd h Bool.false_ne_true) (fun y0_ y1_ h=>absurd h Bool.false_ne_true) (fun y0_ y1_ y2_ y3_ y4_ h=>absurd h Bool.false_ne_true) (fun y0_ h=>absurd h Bool.false_ne_true) (fun y0_ h=>absurd h Bool.false_ne_true)
noncomputable def yAug(x:Stmt)(k:Expr→Operator→Expr→Bool):Bool:=ysel x (fun y0_=>false) (fun y0_ y1_=>false) k (fun y0_ y1_ y2_=>false) (fun y0_ y1_ y2_=>false) (fun y0_ y1_ y2_ y3_=>false) (fun y0_=>false) (fun y0_ y1_=>false) (fun y0_=>false) (fun y0_=>false) (fun y0_ y1_ y2_ y3_=>false) false false
@[elab_as_elim] theorem yAug_k {x:Stmt} {C:Stmt→Prop} {k} (h:yAug x k=true) (q:∀t o v p,k t o v=true→C (.AugAssign t o v p)):C x:=ysel_k h (fun y0_ y1_ h=>absurd h Bool.false_ne_true) (fun y0_ y1_ y2_ h=>absurd h Bool.false_ne_true) q (fun y0_ y1_ y2_ y3_ h=>absurd h Bool.false_ne_true) (fun y0_ y1_ y2_ y3_ h=>absurd h Bool.false_ne_true) (fun y0_ y1_ y2_ y3_ y4_ h=>absurd h Bool.false_ne_true) (fun y0_ y1_ h=>absurd h Bool.false_ne_true) (fun y0_ y1_ y2_ h=>absurd h Bool.false_ne_true) (fun y0_ y1_ y2_ h=>absurd h Bool.false_ne_true) (fun y0_ y1_ h=>absurd h Bool.false_ne_true) (fun y0_ y1_ y2_ y3_ y4_ h=>absurd h Bool.false_ne_true) (fun y0_ h=>absurd h Bool.false_ne_true) (fun y0_ h=>absurd h Bool.false_ne_true)
noncomputable def yIf(x:Stmt)(k:Expr→List Stmt→List Stmt→Bool):Bool:=ysel x (fun y0_=>false) (fun y0_ y1_=>false) (fun y0_ y1_ y2_=>false) k (fun y0_ y1_ y2_=>false) (fun y0_ y1_ y2_ y3_=>false) (fun y0_=>false) (fun y0_ y1_=>false) (fun y0_=>false) (fun y0_=>false) (fun y0_ y1_ y2_ y3_=>false) false false
@[elab_as_elim] theorem yIf_k {x:Stmt} {C:Stmt→Prop} {k} (h:yIf x k=true) (q:∀t a b p,k t a b=true→C (.If t a b p)):C x:=ysel_k h (fun y0_ y1_ h=>absurd h Bool.false_ne_true) (fun y0_ y1_ y2_ h=>absurd h Bool.false_ne_true) (fun y0_ y1_ y2_ y3_ h=>absurd h Bool.false_ne_true) q (fun y0_ y1_ y2_ y3_ h=>absurd h Bool.false_ne_true) (fun y0_ y1_ y2_ y3_ y4_ h=>absurd h Bool.false_ne_true) (fun y0_ y1_ h=>absurd h Bool.false_ne_true) (fun y0_ y1_ y2_ h=>absurd h Bool.false_ne_true) (fun y0_ y1_ y2_ h=>absurd h Bool.false_ne_true) (fun y0_ y1_ h=>absurd h Bool.false_ne_true) (fun y0_ y1_ y2_ y3_ y4_ h=>absurd h Bool.false_ne_true) (fun y0_ h=>absurd h Bool.false_ne_true) (fun y0_ h=>absurd h Bool.false_ne_true)
noncomputable def yWhl(x:Stmt)(k:Expr→List Stmt→List Stmt→Bool):Bool:=ysel x (fun y0_=>false) (fun y0_ y1_=>false) (fun y0_ y1_ y2_=>false) (fun y0_ y1_ y2_=>false) k (fun y0_ y1_ y2_ y3_=>false) (fun y0_=>false) (fun y0_ y1_=>false) (fun y0_=>false) (fun y0_=>false) (fun y0_ y1_ y2_ y3_=>false) false false
@[elab_as_elim] theorem yWhl_k {x:Stmt} {C:Stmt→Prop} {k} (h:yWhl x k=true) (q:∀t a b p,k t a b=true→C (.While t a b p)):C x:=ysel_k h (fun y0_ y1_ h=>absurd h Bool.false_ne_true) (fun y0_ y1_ y2_ h=>absurd h Bool.false_ne_true) (fun y0_ y1_ y2_ y3_ h=>absurd h Bool.false_ne_true) (fun y0_ y1_ y2_ y3_ h=>absurd h Bool.false_ne_true) q (fun y0_ y1_ y2_ y3_ y4_ h=>absurd h Bool.false_ne_true) (fun y0_ y1_ h=>absurd h Bool.false_ne_true) (fun y0_ y1_ y2_ h=>absurd h Bool.false_ne_true) (fun y0_ y1_ y2_ h=>absurd h Bool.false_ne_true) (fun y0_ y1_ h=>absurd h Bool.false_ne_true) (fun y0_ y1_ y2_ y3_ y4_ h=>absurd h Bool.false_ne_true) (fun y0_ h=>absurd h Bool.false_ne_true) (fun y0_ h=>absurd h Bool.false_ne_true)
noncomputable def yFor(x:Stmt)(k:Expr→Expr→List Stmt→List Stmt→Bool):Bool:=ysel x (fun y0_=>false) (fun y0_ y1_=>false) (fun y0_ y1_ y2_=>false) (fun y0_ y1_ y2_=>false) (fun y0_ y1_ y2_=>false) k (fun y0_=>false) (fun y0_ y1_=>false) (fun y0_=>false) (fun y0_=>false) (fun y0_ y1_ y2_ y3_=>false) false false
@[elab_as_elim] theorem yFor_k {x:Stmt} {C:Stmt→Prop} {k} (h:yFor x k=true) (q:∀t v a b p,k t v a b=true→C (.For t v a b p)):C x:=ysel_k h (fun y0_ y1_ h=>absurd h Bool.false_ne_true) (fun y0_ y1_ y2_ h=>absurd h Bool.false_ne_true) (fun y0_ y1_ y2_ y3_ h=>absurd h Bool.false_ne_true) (fun y0_ y1_ y2_ y3_ h=>absurd h Bool.false_ne_true) (fun y0_ y1_ y2_ y3_ h=>absurd h Bool.false_ne_true) q (fun y0_ y1_ h=>absurd h Bool.false_ne_true) (fun y0_ y1_ y2_ h=>absurd h Bool.false_ne_true) (fun y0_ y1_ y2_ h=>absurd h Bool.false_ne_true) (fun y0_ y1_ h=>absurd h Bool.false_ne_true) (fun y0_ y1_ y2_ y3_ y4_ h=>absurd h Bool.false_ne_true) (fun y0_ h=>absurd h Bool.false_ne_true) (fun y0_ h=>absurd h Bool.false_ne_true)
noncomputable def yRet(x:Stmt)(k:Option Expr→Bool):Bool:=ysel x (fun y0_=>false) (fun y0_ y1_=>false) (fun y0_ y1_ y2_=>false) (fun y0_ y1_ y2_=>false) (fun y0_ y1_ y2_=>false) (fun y0_ y1_ y2_ y3_=>false) k (fun y0_ y1_=>false) (fun y0_=>false) (fun y0_=>false) (fun y0_ y1_ y2_ y3_=>false) false false
@[elab_as_elim] theorem yRet_k {x:Stmt} {C:Stmt→Prop} {k} (h:yRet x k=true) (q:∀v p,k v=true→C (.Return v p)):C x:=ysel_k h (fun y0_ y1_ h=>absurd h Bool.false_ne_true) (fun y0_ y1_ y2_ h=>absurd h Bool.false_ne_true) (fun y0_ y1_ y2_ y3_ h=>absurd h Bool.false_ne_true) (fun y0_ y1_ y2_ y3_ h=>absurd h Bool.false_ne_true) (fun y0_ y1_ y2_ y3_ h=>absurd h Bool.false_ne_true) (fun y0_ y1_ y2_ y3_ y4_ h=>absurd h Bool.false_ne_true) q (fun y0_ y1_ y2_ h=>absurd h Bool.false_ne_true) (fun y0_ y1_ y2_ h=>absurd h Bool.false_ne_true) (fun y0_ y1_ h=>absurd h Bool.false_ne_true) (fun y0_ y1_ y2_ y3_ y4_ h=>absurd h Bool.false_ne_true) (fun y0_ h=>absurd h Bool.false_ne_true) (fun y0_ h=>absurd h Bool.false_ne_true)
noncomputable def yRaise(x:Stmt)(k:Option Expr→Option Expr→Bool):Bool:=ysel x (fun y0_=>false) (fun y0_ y1_=>false) (fun y0_ y1_ y2_=>false) (fun y0_ y1_ y2_=>false) (fun y0_ y1_ y2_=>false) (fun y0_ y1_ y2_ y3_=>false) (fun y0_=>false) k (fun y0_=>false) (fun y0_=>false) (fun y0_ y1_ y2_ y3_=>false) false false
@[elab_as_elim] theorem yRaise_k {x:Stmt} {C:Stmt→Prop} {k} (h:yRaise x k=true) (q:∀v w p,k v w=true→C (.Raise v w p)):C x:=ysel_k h (fun y0_ y1_ h=>absurd h Bool.false_ne_true) (fun y0_ y1_ y2_ h=>absurd h Bool.false_ne_true) (fun y0_ y1_ y2_ y3_ h=>absurd h Bool.false_ne_true) (fun y0_ y1_ y2_ y3_ h=>absurd h Bool.false_ne_true) (fun y0_ y1_ y2_ y3_ h=>absurd h Bool.false_ne_true) (fun y0_ y1_ y2_ y3_ y4_ h=>absurd h Bool.false_ne_true) (fun y0_ y1_ h=>absurd h Bool.false_ne_true) q (fun y0_ y1_ y2_ h=>absurd h Bool.false_ne_true) (fun y0_ y1_ h=>absurd h Bool.false_ne_true) (fun y0_ y1_ y2_ y3_ y4_ h=>absurd h Bool.false_ne_true) (fun y0_ h=>absurd h Bool.false_ne_true) (fun y0_ h=>absurd h Bool.false_ne_true)
noncomputable def yAss(x:Stmt)(k:Expr→Bool):Bool:=ysel x (fun y0_=>false) (fun y0_ y1_=>false) (fun y0_ y1_ y2_=>false) (fun y0_ y1_ y2_=>false) (fun y0_ y1_ y2_=>false) (fun y0_ y1_ y2_ y3_=>false) (fun y0_=>false) (fun y0_ y1_=>false) k (fun y0_=>false) (fun y0_ y1_ y2_ y3_=>false) false false
@[elab_as_elim] theorem yAss_k {x:Stmt} {C:Stmt→Prop} {k} (h:yAss x k=true) (q:∀v w p,k v=true→C (.Assert v w p)):C x:=ysel_k h (fun y0_ y1_ h=>absurd h Bool.false_ne_true) (fun y0_ y1_ y2_ h=>absurd h Bool.false_ne_true) (fun y0_ y1_ y2_ y3_ h=>absurd h Bool.false_ne_true) (fun y0_ y1_ y2_ y3_ h=>absurd h Bool.false_ne_true) (fun y0_ y1_ y2_ y3_ h=>absurd h Bool.false_ne_true) (fun y0_ y1_ y2_ y3_ y4_ h=>absurd h Bool.false_ne_true) (fun y0_ y1_ h=>absurd h Bool.false_ne_true) (fun y0_ y1_ y2_ h=>absurd h Bool.false_ne_true) q (fun y0_ y1_ h=>absurd h Bool.false_ne_true) (fun y0_ y1_ y2_ y3_ y4_ h=>absurd h Bool.false_ne_true) (fun y0_ h=>absurd h Bool.false_ne_true) (fun y0_ h=>absurd h Bool.false_ne_true)
noncomputable def yDel(x:Stmt)(k:List Expr→Bool):Bool:=ysel x (fun y0_=>false) (fun y0_ y1_=>false) (fun y0_ y1_ y2_=>false) (fun y0_ y1_ y2_=>false) (fun y0_ y1_ y2_=>false) (fun y0_ y1_ y2_ y3_=>false) (fun y0_=>false) (fun y0_ y1_=>false) (fun y0_=>false) k (fun y0_ y1_ y2_ y3_=>false) false false
@[elab_as_elim] theorem yDel_k {x:Stmt} {C:Stmt→Prop} {k} (h:yDel x k=true) (q:∀v p,k v=true→C (.Delete v p)):C x:=ysel_k h (fun y0_ y1_ h=>absurd h Bool.false_ne_true) (fun y0_ y1_ y2_ h=>absurd h Bool.false_ne_true) (fun y0_ y1_ y2_ y3_ h=>absurd h Bool.false_ne_true) (fun y0_ y1_ y2_ y3_ h=>absurd h Bool.false_ne_true) (fun y0_ y1_ y2_ y3_ h=>absurd h Bool.false_ne_true) (fun y0_ y1_ y2_ y3_ y4_ h=>absurd h Bool.false_ne_true) (fun y0_ y1_ h=>absurd h Bool.false_ne_true) (fun y0_ y1_ y2_ h=>absurd h Bool.false_ne_true) (fun y0_ y1_ y2_ h=>absurd h Bool.false_ne_true) q (fun y0_ y1_ y2_ y3_ y4_ h=>absurd h Bool.false_ne_true) (fun y0_ h=>absurd h Bool.false_ne_true) (fun y0_ h=>absurd h Bool.false_ne_true)
noncomputable def yTry(x:Stmt)(k:List Stmt→List ExceptHandler→List Stmt→List Stmt→Bool):Bool:=ysel x (fun y0_=>false) (fun y0_ y1_=>false) (fun y0_ y1_ y2_=>false) (fun y0_ y1_ y2_=>false) (fun y0_ y1_ y2_=>false) (fun y0_ y1_ y2_ y3_=>false) (fun y0_=>false) (fun y0_ y1_=>false) (fun y0_=>false) (fun y0_=>false) k false false
@[elab_as_elim] theorem yTry_k {x:Stmt} {C:Stmt→Prop} {k} (h:yTry x k=true) (q:∀a b o f p,k a b o f=true→C (.Try a b o f p)):C x:=ysel_k h (fun y0_ y1_ h=>absurd h Bool.false_ne_true) (fun y0_ y1_ y2_ h=>absurd h Bool.false_ne_true) (fun y0_ y1_ y2_ y3_ h=>absurd h Bool.false_ne_true) (fun y0_ y1_ y2_ y3_ h=>absurd h Bool.false_ne_true) (fun y0_ y1_ y2_ y3_ h=>absurd h Bool.false_ne_true) (fun y0_ y1_ y2_ y3_ y4_ h=>absurd h Bool.false_ne_true) (fun y0_ y1_ h=>absurd h Bool.false_ne_true) (fun y0_ y1_ y2_ h=>absurd h Bool.false_ne_true) (fun y0_ y1_ y2_ h=>absurd h Bool.false_ne_true) (fun y0_ y1_ h=>absurd h Bool.false_ne_true) q (fun y0_ h=>absurd h Bool.false_ne_true) (fun y0_ h=>absurd h Bool.false_ne_true)
noncomputable def yBrk(x:Stmt)(k:Bool):Bool:=ysel x (fun y0_=>false) (fun y0_ y1_=>false) (fun y0_ y1_ y2_=>false) (fun y0_ y1_ y2_=>false) (fun y0_ y1_ y2_=>false) (fun y0_ y1_ y2_ y3_=>false) (fun y0_=>false) (fun y0_ y1_=>false) (fun y0_=>false) (fun y0_=>false) (fun y0_ y1_ y2_ y3_=>false) k false
@[elab_as_elim] theorem yBrk_k {x:Stmt} {C:Stmt→Prop} {k} (h:yBrk x k=true) (q:∀p,k=true→C (.Break p)):C x:=ysel_k h (fun y0_ y1_ h=>absurd h Bool.false_ne_true) (fun y0_ y1_ y2_ h=>absurd h Bool.false_ne_true) (fun y0_ y1_ y2_ y3_ h=>absurd h Bool.false_ne_true) (fun y0_ y1_ y2_ y3_ h=>absurd h Bool.false_ne_true) (fun y0_ y1_ y2_ y3_ h=>absurd h Bool.false_ne_true) (fun y0_ y1_ y2_ y3_ y4_ h=>absurd h Bool.false_ne_true) (fun y0_ y1_ h=>absurd h Bool.false_ne_true) (fun y0_ y1_ y2_ h=>absurd h Bool.false_ne_true) (fun y0_ y1_ y2_ h=>absurd h Bool.false_ne_true) (fun y0_ y1_ h=>absurd h Bool.false_ne_true) (fun y0_ y1_ y2_ y3_ y4_ h=>absurd h Bool.false_ne_true) q (fun y0_ h=>absurd h Bool.false_ne_true)
noncomputable def yPas(x:Stmt)(k:Bool):Bool:=ysel x (fun y0_=>false) (fun y0_ y1_=>false) (fun y0_ y1_ y2_=>false) (fun y0_ y1_ y2_=>false) (fun y0_ y1_ y2_=>false) (fun y0_ y1_ y2_ y3_=>false) (fun y0_=>false) (fun y0_ y1_=>false) (fun y0_=>false) (fun y0_=>false) (fun y0_ y1_ y2_ y3_=>false) false k
@[elab_as_elim] theorem yPas_k {x:Stmt} {C:Stmt→Prop} {k} (h:yPas x k=true) (q:∀p,k=true→C (.Pass p)):C x:=ysel_k h (fun y0_ y1_ h=>absurd h Bool.false_ne_true) (fun y0_ y1_ y2_ h=>absurd h Bool.false_ne_true) (fun y0_ y1_ y2_ y3_ h=>absurd h Bool.false_ne_true) (fun y0_ y1_ y2_ y3_ h=>absurd h Bool.false_ne_true) (fun y0_ y1_ y2_ y3_ h=>absurd h Bool.false_ne_true) (fun y0_ y1_ y2_ y3_ y4_ h=>absurd h Bool.false_ne_true) (fun y0_ y1_ h=>absurd h Bool.false_ne_true) (fun y0_ y1_ y2_ h=>absurd h Bool.false_ne_true) (fun y0_ y1_ y2_ h=>absurd h Bool.false_ne_true) (fun y0_ y1_ h=>absurd h Bool.false_ne_true) (fun y0_ y1_ y2_ y3_ y4_ h=>absurd h Bool.false_ne_true) (fun y0_ h=>absurd h Bool.false_ne_true) q
noncomputable def noSuper(x:Expr):Bool:= !(xCall x fun f a ks y0_=>a.isEmpty&&ks.isEmpty&&xName f fun y0_=>true)
noncomputable def xAttr(x:Expr)(k:Expr→Str→Bool):Bool:=xAttrP x fun v y y0_=>k v y
@[elab_as_elim] theorem xAttr_k {x:Expr} {C:Expr→Prop} {k} (h:xAttr x k=true) (q:∀v y p,k v y=true→C (.Attribute v y p)):C x:=xAttrP_k h q
noncomputable def mOk(v:Expr)(p pos:Pos)(a:List Expr)(ks:List Keyword):Bool:=p.endLine==pos.line&&decide (a.length+ks.length<29)&&a.all plainE&&(noSuper v&&ks.all (·.arg.isSome))
noncomputable def xMeth(x:Expr)(k:Expr→Str→List Expr→List Keyword→Bool):Bool:=xCall x fun f a ks pos=>xAttrP f fun v y p=>mOk v p pos a ks&&k v y a ks
@[elab_as_elim] theorem xMeth_k {x:Expr} {C:Expr→Prop} {k} (h:xMeth x k=true) (q:∀v y p a ks pos,mOk v p pos a ks=true→k v y a ks=true→C (.Call (.Attribute v y p) a ks pos)):C x:=
 xCall_k h fun f a ks pos h=>xAttrP_k (C:=fun f=>C (.Call f a ks pos)) h fun v y p h=>q v y p a ks pos (and_l h) (and_r h)
noncomputable def some1{α:Type}(o:Option α)(k:α→Bool):Bool:=match o with|some a=>k a|none=>false
theorem some1_k{α:Type}{o:Option α}{k:α→Bool}{C:Option α→Prop}(h:some1 o k=true)(q:∀a,k a=true→C (some a)):C o:=by
 cases o with
 |none=>exact absurd h Bool.false_ne_true
 |some a=>exact q a h
theorem none_of{α:Type}:∀{o:Option α},o.isNone=true→o=none
 |none,_=>rfl
noncomputable def xSlice(x:Expr)(k:Expr→Expr→Bool):Bool:=xSl x fun a b c=>some1 a fun l=>some1 b fun u=>c.isNone&&k l u
noncomputable def xDic(x:Expr):Bool:=xDict x fun a b=>a.isEmpty&&b.isEmpty
noncomputable def one1{α:Type}(l:List α)(k:α→Bool):Bool:=match l with|[a]=>k a|_=>false
@[elab_as_elim] theorem one1_k {α:Type} {l:List α} {k:α→Bool} {C:List α→Prop} (h:one1 l k=true) (q:∀a,k a=true→C [a]):C l:=by
 rcases l with _|⟨a,_|⟨_,_⟩⟩
 ·exact absurd h Bool.false_ne_true
 ·exact q a h
 ·exact absurd h Bool.false_ne_true
noncomputable def two2{α:Type}(l:List α)(k:α→α→Bool):Bool:=match l with|[]=>false|a::l=>one1 l (k a)
@[elab_as_elim] theorem two2_k {α:Type} {l:List α} {k:α→α→Bool} {C:List α→Prop} (h:two2 l k=true) (q:∀a b,k a b=true→C [a,b]):C l:=by
 cases l with
 |nil=>exact absurd h Bool.false_ne_true
 |cons a l=>exact one1_k (C:=fun l=>C (a::l)) h (q a)
theorem nil_k{α:Type}:∀{l:List α},l.isEmpty=true→l=[]
 |[],_=>rfl
noncomputable def compSc(sc:Scope)(z:Str):Bool:=sc.kind== .function&&sc.names.all (fun y=>y.2 != .cell&&y.2 != .free&&(y.2 != .local||sc.names.lookup y.1==some .local))&&sc.names.lookup z==some .local&& !(z==("__debug__":Str))
noncomputable def compFit(lo hi k:Int)(x:Expr)(f:Expr→Bool):Bool:=xComp x fun e gs sc=>xBin e fun l o r=>o== .Mod&&xConst r (· == .int k)&&xName l fun z=>one1 gs fun g=>g.ifs.isEmpty&&g.is_async==0&&xName g.target (fun z'=>z==z'&&compSc sc z')&&xSub g.iter fun v y=>xName v (fun y0_=>true)&&f v&&xSlice y fun a b=>xConst a (· == .int lo)&&xConst b (· == .int hi)
variable(T:Tb) (ns:List Str) (sc:Scope)
noncomputable def fn1(n:Str)(x:Expr)(k:Expr→Bool):Bool:=xCall x fun f as ks y0_=>ks.isEmpty&&(xName f (fun y=>y==n&&glbN sc y)&&one1 as fun e=>plainE e&&k e)
noncomputable def fn2(n:Str)(x:Expr)(k:Expr→Expr→Bool):Bool:=xCall x fun f as ks y0_=>ks.isEmpty&&(xName f (fun y=>y==n&&glbN sc y)&&two2 as fun e g=>plainE e&&plainE g&&k e g)
noncomputable def cfit(c:Cst)(x:Expr):Bool:=match c with
 | .n=>xConst x (· == .none)
 | .b b=>xConst x (· == .bool b)
 | .i i=>xConst x (· == .int i)
 | .s s=>xConst x (· == .str ⟨s.toArray⟩)&&decide (s.length≤SZ)
 | .neg i=>xUn x fun o y=>o== .USub&&xConst y (· == .int i)
noncomputable def fit1(o:O1)(x:Expr)(k:Expr→Bool):Bool:=match o with
 | .len=>fn1 sc "len" x k
 | .chr=>fn1 sc "chr" x k
 | .isi z=>fn2 sc "isinstance" x fun e f=>k e&&xName f fun y=>y==T.an z&&glbN sc y
 | .isStr=>fn2 sc "isinstance" x fun e f=>k e&&xName f fun y=>y== "str"&&glbN sc y
 | .join=>xMeth x fun v y as ks=>ks.isEmpty&&(xConst v (· == .str ⟨#[]⟩)&&y== "join")&&one1 as k
noncomputable def fit2(o:O2)(x:Expr)(k:Expr→Expr→Bool):Bool:=match o with
 | .bin op=>xBin x fun l o r=>o==op.op&&k l r
 | .cmp op=>xCmp x fun l os rs=>one1 os fun o=>one1 rs fun r=>o==op.op&& !behindInMarks op.op r&&k l r
 | .sub=>xSub x fun v y=>plainE y&&k v y
 | .max=>fn2 sc "max" x k
 | .min=>fn2 sc "min" x k
mutual
noncomputable def fit:E→Expr→Bool
 | .cst c,x=>cfit c x
 | .loc i,x=>xName x fun y=>ns[i]? ==some y
 | .glb k,x=>xName x fun y=>y==T.an k&&glbN sc y
 | .attr e k,x=>xAttr x fun v y=>y==T.an k&&decide (k<1000)&&noSuper v&&fit e v
 | .op1 o a,x=>fit1 T sc o x (fit a)
 | .op2 o a b,x=>fit2 sc o x fun l r=>fit a l&&fit b r
 | .slice a lo hi,x=>xSub x fun v y=>xSlice y fun l u=>fit a v&&(fit lo l&&fit hi u)
 | .cmp2 a o1 b o2 c,x=>xCmp x fun l os rs=>two2 os fun p q=>two2 rs fun r t=>p==o1.op&&q==o2.op&& !lastMarks [o1.op,o2.op] [r,t]&&(fit a l&&(fit b r&&fit c t))
 | .not a,x=>xUn x fun o v=>o== .Not&&fit a v
 | .and xs,x=>xBool x fun o vs=>o== .And&&fits xs vs
 | .or xs,x=>xBool x fun o vs=>o== .Or&&fits xs vs
 | .ite t a b,x=>xIf x fun p q r=>fit t p&&(fit a q&&fit b r)
 | .tup xs,x=>xTup x fun es=>fits xs es&&decide (es.length≤1000)
 | .lst xs,x=>xLst x fun es=>fits xs es&&decide (es.length≤1000)
 | .dic,x=>xDic x
 | .meth f k,x=>xAttr x fun v y=>y==T.an k&&decide (k<1000)&&T.ms.contains (k,f)&&xName v fun z=>ns[0]? ==some z
 | .mcal o k f xs kw,x=>xMeth x fun v y as ks=>y==T.an k&&decide (k<1000)&&T.ms.contains (k,f)&&fit o v&&(fits xs as&&fitk kw ks)
 | .fcal k f xs kw,x=>xCall x fun g as ks y0_=>xName g (fun y=>y==T.an k&&glbN sc y)&&T.fs.contains (k,f)&&(fits xs as&&fitk kw ks)
 | .new k xs kw,x=>xCall x fun g as ks y0_=>xName g (fun y=>y==T.an k&&glbN sc y)&&(fits xs as&&fitk kw ks)
 | .newv i xs,x=>xCall x fun g as ks y0_=>ks.isEmpty&&xName g (fun y=>ns[i]? ==some y)&&fits xs as
 | .vcal k,x=>xMeth x fun v y as ks=>as.isEmpty&&ks.isEmpty&&y==T.an k&&decide (k<1000)&&xName v fun z=>ns[0]? ==some z
 | .supi _ _,_=>false
 | .app a e,x=>xMeth x fun v y as ks=>ks.isEmpty&&y== "append"&&fit a v&&one1 as (fit e)
 | .ext a e,x=>xMeth x fun v y as ks=>ks.isEmpty&&y== "extend"&&fit a v&&one1 as (fit e)
 | .pop a,x=>xMeth x fun v y as ks=>ks.isEmpty&&y== "pop"&&fit a v&&as.isEmpty
 | .pop0 a,x=>xMeth x fun v y as ks=>ks.isEmpty&&y== "pop"&&fit a v&&one1 as fun u=>xConst u (· == .int 0)
 | .ins a i e,x=>xMeth x fun v y as ks=>ks.isEmpty&&y== "insert"&&fit a v&&two2 as fun j u=>fit i j&&fit e u
 | .split e,x=>xMeth x fun v y as ks=>ks.isEmpty&&y== "split"&&fit e v&&one1 as fun u=>xConst u (· == .str ⟨#[32]⟩)
 | .keys a,x=>fn1 sc "list" x (fit a)
 | .cat a b,x=>xBin x fun l o r=>o== .Add&&(fit a l&&fit b r)
 | .comp a lo hi k,x=>compFit lo hi k x (fit a)
 | .tv e,x=>plainT x&&fit e x
 | .pct s e,x=>xBin x fun l o r=>o== .Mod&&xConst l (· == .str ⟨s.toArray⟩)&&fit e r
 | .opq,x=>plainE x
noncomputable def fits:List E→List Expr→Bool
 |[],vs=>vs.isEmpty
 |e::r,vs=>match vs with|[]=>false|x::s=>plainE x&&fit e x&&fits r s
noncomputable def fitk:List (Nat×E)→List Keyword→Bool
 |[],ks=>ks.isEmpty
 |p::r,ks=>match ks with|[]=>false|q::s=>q.arg==some (T.an p.1)&&fit p.2 q.value&&fitk r s
end
end
end Mine.Internal
end
section
open PySem PySem.W PySem.Calls PyProof.Rows
namespace Mine.Internal
noncomputable section
noncomputable def Cst.v:Cst→V
 | .n=>.none| .b x=>.bool x| .i x=>.int x| .s x=>.str x| .neg x=>.int (-x)
noncomputable def strsOf:List V→Option (List (List Nat))
 |[]=>some []
 |u::r=>onIS u no fun s=>(strsOf r).map (s:: ·)
noncomputable def isAb:V→Bool| .absent=>true|_=>false
variable(T:Tb)
noncomputable def isiV(v:V)(g:Option V):Option V:=match v with
 | .inst C _=>(match g with|some (.glob D)=>(T.sb C D).map .bool|_=>none)
 |_=>none
noncomputable def op1V(o:O1)(v:V):Option V:=match o with
 | .len=>lenV v
 | .chr=>onIS v (fun i=>if 0≤i∧i<128 then some (.str [i.toNat]) else none) no
 | .isi x=>isiV T v (T.gv x)
 | .isStr=>onIS v no fun y0_=>some (.bool true)
 | .join=>(lstOf v).bind fun xs=>(strsOf xs).bind fun ss=>if ss.flatten.length≤SZ then some (.str ss.flatten) else none
noncomputable def op2V(o:O2)(x y:V):Option V:=match o with
 | .bin op=>if x.nl=true∧y.nl=true then binV op x y else none
 | .cmp op=>(cmpV op x y).map .bool
 | .sub=>if y.nl=true then subV x y else none
 |_=>none
variable(σ:St)
mutual
noncomputable def pe:E→Option V
 | .cst c=>some c.v
 | .loc i=>(σ.loc[i]?).bind fun v=>if isAb v=false then some v else none
 | .glb x=>T.gv x
 | .attr e x=>(pe e).bind fun v=>attrV T σ.P v x
 | .op1 o a=>(pe a).bind (op1V T o)
 | .op2 o a b=>(pe a).bind fun x=>(pe b).bind fun y=>op2V o x y
 | .ite t a b=>(pt t).bind fun c=>if c then pe a else pe b
 | .not a=>(pe a).bind fun v=>(truthV v).map fun b=>.bool (!b)
 |_=>none
noncomputable def pt:E→Option Bool
 | .not a=>(pt a).map (!·)
 | .op2 o a b=>(match o with| .cmp op=>(pe a).bind fun x=>(pe b).bind fun y=>cmpV op x y|_=>none)
 | .cmp2 a o1 b o2 c=>(pe a).bind fun x=>(pe b).bind fun y=>(cmpV o1 x y).bind fun q=>if q then(pe c).bind fun z=>cmpV o2 y z else some false
 | .and xs=>ptAnd xs
 | .or xs=>ptOr xs
 | .tv e=>(pe e).bind truthV
 |_=>none
noncomputable def ptAnd:List E→Option Bool
 |[]=>some true
 |e::r=>(pt e).bind fun b=>if b then ptAnd r else some false
noncomputable def ptOr:List E→Option Bool
 |[]=>some false
 |e::r=>(pt e).bind fun b=>if b then some true else ptOr r
end
variable{T σ}
variable{c:Cx} {m:Str→Option Value} {bk:Bk} {fr:Led} {A:Around} {Er:Value→Shared→Prop} {s:Shared} {u a:V} {v:Value} {Q:Value→Shared→Prop} {x:Expr}
theorem starEach_plain{e:Expr}{rest:List Expr}{env:Env}(h:plainE e=true):starEach (e::rest) env=(false,eval e env)::starEach rest env:=by
 cases e<;>first|rfl|exact absurd h Bool.false_ne_true
theorem noSlice_plain{e:Expr}(h:plainE e=true):NoSlice e:=by
 intro o i;cases e<;>first|rfl|exact absurd h Bool.false_ne_true
theorem isTrue_T{env:Env}{w:Sem Value}(h:plainT x=true):isTrue x env w=(do let v←w;standAt x.pos;holding [v] (truthy v)):=by
 cases x<;>first|rfl|exact absurd h Bool.false_ne_true
theorem base_plain{v:Expr}{a:Str}{env:Env}{w:Sem Value}(h:noSuper v=true):attributeBase v a env w=w:=by
 cases v with
 |Call f as ks p=>
  cases f with
  |Name=>rcases as with _|_<;>rcases ks with _|_<;>first|rfl|exact absurd h Bool.false_ne_true
  |_=>rfl
 |_=>rfl
theorem blt_len:bootBuiltins "len"=some (.builtin "len"):=by decide+kernel
theorem blt_chr:bootBuiltins "chr"=some (.builtin "chr"):=by decide+kernel
theorem blt_isi:bootBuiltins "isinstance"=some (.builtin "isinstance"):=by decide+kernel
theorem blt_str:bootBuiltins "str"=some (.type "str"):=by decide+kernel
theorem backTo_plain{pos:Pos}{env:Env}:∀{vs:List Expr},vs.all plainE=true→(backTo pos (starEach vs env)).all (!·.1)=true
 |[],_=>rfl
 |v::vs,h=>by
  rw[starEach_plain (and_l h)];exact backTo_plain (vs:=vs) (and_r h)
theorem backTo_any{pos:Pos}{env:Env}{vs:List Expr}(h:vs.all plainE=true):(backTo pos (starEach vs env)).any (·.1)=false:=by
 rw[List.any_eq_not_all_not,backTo_plain h];rfl
theorem kw_some{pos:Pos}{env:Env}:∀{ks:List Keyword},ks.all (·.arg.isSome)=true→(backToKw pos (keywordEach ks env)).all (·.1.isSome)=true
 |[],_=>rfl
 |⟨n,v,p⟩::ks,h=>by
  show(n.isSome&&(backToKw pos (keywordEach ks env)).all (·.1.isSome))=true;rw[show n.isSome=true from and_l h,kw_some (ks:=ks) (and_r h)];rfl
theorem meth_k{env:Env}{k:Expr→Str→List Expr→List Keyword→Bool}(h:xMeth x k=true)
  (q:∀v y as ks pos,as.all plainE=true→ks.all (·.arg.isSome)=true→k v y as ks=true→Wp T A (eval v env) (fun ov s₁=>∀pl:Sem Bool,wpAny (model T.prog T.w) A (getMethod ov y pl) (fun fx s₂=>Wp T A (callWith pos fx.1 fx.2 (backTo pos (starEach as env)) (backToKw pos (keywordEach ks env))) Q Er s₂) Er s₁) Er s):
  Wp T A (eval x env) Q Er s:=
 xMeth_k h fun o name p as ks pos g h=>by
  have g:(p.endLine==pos.line&&decide (as.length+ks.length<29)&&as.all plainE&&(noSuper o&&ks.all (·.arg.isSome)))=true:=g;have hf:methodCallForm (as.length+ks.length) (backTo pos (starEach as env)) (backToKw pos (keywordEach ks env))=true:=by
   have:=of_decide_eq_true (and_r (and_l (and_l g)));unfold methodCallForm;rw[backTo_plain (and_r (and_l g)),kw_some (and_r (and_r g))];simp only[Bool.true_and,decide_eq_true_eq];split<;>omega
  show wpAny _ A (do
   let ov←attributeBase o name env (eval o env)
   standAt p.atName
   methodCall o name p pos env ov (as.length+ks.length) (backTo pos (starEach as env)) (backToKw pos (keywordEach ks env))) Q Er s
  rw[base_plain (and_l (and_r g))];refine wpAny_bind (wpAny_mono (q o name as ks pos (and_r (and_l g)) (and_r (and_r g)) h) (fun ov s₁ h₁=>wpAny_bind (wpAny_standAt ?_)) fun y0_ y1_ x=>x);unfold methodCall;rw[hf];refine wpAny_bind (wpAny_holding (wpAny_mono (h₁ _) (fun fx s₂ h₂=>?_) fun y0_ y1_ x=>x));unfold methodCallPos;rw[and_l (and_l (and_l g))];exact wpAny_bind (wpAny_pure h₂)
theorem bm1{env:Env}{pos:Pos}{id:String}{u:Expr}(hp:plainE u=true)(h:Wp T A (eval u env) (fun w s₁=>Wp T A (call (.builtin id) [v,w]) Q Er s₁) Er s):
  Wp T A (callWith pos (.builtin id) [v] (backTo pos (starEach [u] env)) (backToKw pos (keywordEach [] env))) Q Er s:=
 callWith_builtin (backTo_any (vs:=[u]) ((Bool.and_true _).trans hp)) (by
  have e:=starEach_plain (rest:=[]) (env:=env) hp;have h:wpAny _ A (spliced (backTo pos (starEach [u] env))) (fun ws s₁=>Wp T A (call (.builtin id) (v::ws)) Q Er s₁) Er s:=args_cons (wpAny_mono h (fun y0_ y1_ h=>args_nil h) fun y0_ y1_ x=>x) e;rw[e] at h⊢;exact evalArgs_plain h)
theorem fn1_k(K0:TbOK T)(C0:c.OK T)(S:SR T c m bk fr s σ){n:Str}{id:String}{k:Expr→Bool}(h:fn1 c.scope n x k=true)(hy:n∈(["len","chr","max","min","isinstance","str","list","super","enumerate"]:List Str))(hb:bootBuiltins n=some (.builtin id))(hn:n≠ "__name__")
  (q:∀e,k e=true→Wp T A (eval e c.env) (fun v s₁=>Wp T A (call (.builtin id) [v]) Q Er s₁) Er s):Wp T A (eval x c.env) Q Er s:=
 xCall_k h fun f as ks p h=>nil_k (and_l h)▸xName_k (and_l (and_r h)) fun y p' g=>beq_iff_eq.mp (and_l g)▸one1_k (and_r (and_r h)) fun e h=>
  Call_Name1 (blt_ok K0 C0 S hy (beq_iff_eq.mp (and_l g)▸and_r g) hb hn (PySem.callWith_builtin1 (q e (and_r h)))) (starEach_plain (and_l h))
theorem fn2_k(K0:TbOK T)(C0:c.OK T)(S:SR T c m bk fr s σ){n:Str}{id:String}{k:Expr→Expr→Bool}(h:fn2 c.scope n x k=true)(hy:n∈(["len","chr","max","min","isinstance","str","list","super","enumerate"]:List Str))(hb:bootBuiltins n=some (.builtin id))(hn:n≠ "__name__")
  (q:∀e f,k e f=true→Wp T A (eval e c.env) (fun v s₁=>Wp T A (eval f c.env) (fun u s₂=>Wp T A (call (.builtin id) [v,u]) Q Er s₂) Er s₁) Er s):Wp T A (eval x c.env) Q Er s:=
 xCall_k h fun f as ks p h=>nil_k (and_l h)▸xName_k (and_l (and_r h)) fun y p' g=>beq_iff_eq.mp (and_l g)▸two2_k (and_r (and_r h)) fun e f h=>
  Call_Name2 (blt_ok K0 C0 S hy (beq_iff_eq.mp (and_l g)▸and_r g) hb hn (callWith_builtin rfl (evalArgs_plain (spliced_cons (wpAny_mono (q e f (and_r h)) (fun v s₁ h₁=>spliced_cons (wpAny_mono h₁ (fun u s₂ h₂=>spliced_nil h₂) fun y0_ y1_ x=>x)) fun y0_ y1_ x=>x)))))
   ((starEach_plain (and_l (and_l h))).trans (congrArg _ (starEach_plain (and_r (and_l h)))))
theorem rns_strs{xs:List V}{vs:List Value}(h:As T bk xs vs):∀{ss},strsOf xs=some ss→StrsAre vs (ss.map fun s=>(⟨s.toArray⟩:Str)):=
 h.ind (C:=fun xs vs=>∀{ss},strsOf xs=some ss→StrsAre vs (ss.map fun s=>(⟨s.toArray⟩:Str))) (fun e=>Option.some.inj e▸ .nil) fun r y0_ ih=>@fun ss e=>str_r (C:=fun v=>StrsAre (v::_) _) e r fun x t y0_ e=>map_k e fun b e1 e2=>e2▸ .cons _ t (ih e1)
theorem join_flat:∀(ss:List (List Nat)),Str.join ⟨#[]⟩ (ss.map fun s=>(⟨s.toArray⟩:Str))=⟨ss.flatten.toArray⟩
 |[]=>rfl
 |[a]=>by simp[Str.join]
 |a::b::ss=>by
  show(⟨a.toArray⟩:Str)++(⟨([]:List Nat).toArray⟩:Str)++Str.join ⟨#[]⟩ ((b::ss).map fun s=>(⟨s.toArray⟩:Str))=_;rw[join_flat (b::ss),str_app,str_app,List.append_nil];rfl
noncomputable abbrev PeJ(T:Tb)(c:Cx)(m:Str→Option Value)(bk:Bk)(fr:Led)(A:Around)(σ:St)(e:E)(u:V):Prop:=
 ∀{x s},fit T c.ns c.scope e x=true→SR T c m bk fr s σ→∀{Q Er:Value→Shared→Prop},(∀v t,RB T s.heap bk u v→Q v (tk s t))→Wp T A (eval x c.env) Q Er s
noncomputable abbrev PtJ(T:Tb)(c:Cx)(m:Str→Option Value)(bk:Bk)(fr:Led)(A:Around)(σ:St)(e:E)(b:Bool):Prop:=
 ∀{x s w},fit T c.ns c.scope e x=true→SR T c m bk fr s σ→w=eval x c.env→∀{Q Er},(∀t,Q b (tk s t))→WpB T A (isTrue x c.env w) Q Er s
noncomputable abbrev PJ(T:Tb)(c:Cx)(m:Str→Option Value)(bk:Bk)(fr:Led)(A:Around)(σ:St)(e:E):Prop:=(∀{u},pe T σ e=some u→PeJ T c m bk fr A σ e u)∧∀{b},pt T σ e=some b→PtJ T c m bk fr A σ e b
theorem cst_ok{k:Cst}(h:cfit k x=true){env:Env}(q:∀v t,RB T s.heap bk k.v v→Q v (tk s t)):Wp T A (eval x env) Q Er s:=by
 cases k with
 |n=>exact xConst_k h fun c y0_ y1_ h=>beq_iff_eq.mp h▸wpAny_Constant_none (q _ _ (RN.rb (u:=.none) rfl rfl))
 |b b=>exact xConst_k h fun c y0_ y1_ h=>beq_iff_eq.mp h▸wpAny_Constant_bool (q _ _ (RN.rb (u:=.bool b) rfl rfl))
 |i i=>exact xConst_k h fun c y0_ y1_ h=>beq_iff_eq.mp h▸wpAny_Constant_int (q _ _ (RN.rb (u:=.int i) rfl ⟨_,rfl⟩))
 |s x=>exact xConst_k (and_l h) fun c y0_ y1_ h'=>beq_iff_eq.mp h'▸wpAny_Constant_str (q _ _ (RN.rb (u:=.str x) rfl ⟨_,rfl,of_decide_eq_true (and_r h)⟩))
 |neg i=>exact xUn_k h fun o v y0_ h=>beq_iff_eq.mp (and_l h)▸UnaryOp_ (xConst_k (and_r h) fun c y0_ y1_ h=>beq_iff_eq.mp h▸wpAny_Constant_int (PyProof.Rows.neg_int (q _ _ (RN.rb (u:=.int (-i)) rfl ⟨_,rfl⟩))))
theorem isi_g{g:Option V}{r:V}(e:isiV T a g=some r):(∃D,g=some (.glob D))∧a.nl=true:=by
 cases a with
 |inst C fs=>
  rcases g with _|g
  ·exact no_some e
  ·cases g with
   |glob D=>exact⟨⟨D,rfl⟩,rfl⟩
   |_=>exact no_some e
 |_=>exact no_some e
theorem attrV_nl{P:Pt}{k:Nat}{r:V}(e:attrV T P a k=some r):a.nl=true:=by
 cases a with
 |self|inst|glob=>rfl
 |_=>exact no_some e
variable(K0:TbOK T) (C0:c.OK T)
include K0 in
theorem isi_ok{g:Option V}{f:Value}{r:V}(H:Hv T s.heap bk)(e:isiV T a g=some r)(ra:RN T bk a v)(hf:∀D,g=some (.glob D)→f= .ref D):Gv T A s bk (call (.builtin "isinstance") [v,f]) r:=fun k=>by
 cases a with
 |inst C fs=>
  obtain⟨es,rr,i⟩:=ra;cases i with|@mk y ox d n h1 h2 h3 h4 h5 h6=>
  rcases g with _|g
  ·exact no_some e
  ·cases g with
   |glob D=>
    obtain rfl:=hf D rfl;refine map_k e fun b e1 e2=>?_;have h:=K0.sb C D b e1;exact kia_one (kitx_own h.c1 h.hs h.c2 h.c3 h.c4 h.c5) H.X ⟨H.I _ h1,h2,h3,by rw[h4];exact H.I _ h5⟩ h.ki nofun fun t=>k _ _ (e2▸rfl)
   |_=>exact no_some e
 |_=>exact no_some e
include K0 C0
theorem op1_ok{o:O1}{k:Expr→Bool}{r:V}(h:fit1 T c.scope o x k=true)(S:SR T c m bk fr s σ)(e:op1V T o a=some r)(ih:∀{e s},k e=true→SR T c m bk fr s σ→∀{Q Er:Value→Shared→Prop},(∀v t,RB T s.heap bk a v→Q v (tk s t))→Wp T A (eval e c.env) Q Er s)
  (q:∀v t,RB T s.heap bk r v→Q v (tk s t)):Wp T A (eval x c.env) Q Er s:=by
 cases o with
 |len=>exact fn1_k K0 C0 S h (by simp) blt_len (by decide) fun y hy=>ih hy S fun v t rv=>len_ok (s:=tk s t) e (S.hv C0.X) rv fun v t r=>q v t (r.rb r.nl)
 |chr=>exact fn1_k K0 C0 S h (by simp) blt_chr (by decide) fun y hy=>ih hy S fun v t rv=>int_r e (rv.ofN (onIS_k (C:=fun a=>a.nl=true) (fun y0_ y1_=>rfl) (fun y0_ y1_=>rfl) e)) fun i t e=>ite_k e fun c e=>chr_of_range c.1 (by omega) (q _ _ (Option.some.inj e▸RN.rb rfl ⟨_,rfl,show 1≤SZ by decide⟩))
 |isi z=>exact fn2_k K0 C0 S h (by simp) blt_isi (by decide) fun y f hy=>ih (and_l hy) S fun v t rv=>xName_k (and_r hy) fun n p hz=>beq_iff_eq.mp (and_l hz)▸And.elim (fun⟨D,g⟩n=>glb_ok (s:=tk s t) K0 C0 S (beq_iff_eq.mp (and_l hz)▸and_r hz) g fun w rw_=>isi_ok K0 (s:=tk s t) (S.hv C0.X) e (rv.ofN n) (fun D' e=>(Option.some.inj (g.symm.trans e)▸rw_:RN T bk (.glob D') w)) fun v t r=>q v t (r.rb r.nl)) (isi_g (T:=T) e)
 |isStr=>exact fn2_k K0 C0 S h (by simp) blt_isi (by decide) fun y f hy=>ih (and_l hy) S fun v t rv=>xName_k (and_r hy) fun n p hz=>beq_iff_eq.mp (and_l hz)▸str_r e (rv.ofN (onIS_k (C:=fun a=>a.nl=true) (fun y0_ y1_=>rfl) (fun y0_ y1_=>rfl) e)) fun y u z e=>blt_ok (s:=tk s t) K0 C0 S (by simp) (beq_iff_eq.mp (and_l hz)▸and_r hz) blt_str (by decide) (kia_one (s:=tk s t) kitx_str (S.hv C0.X).X trivial (by unfold kitOne;rfl) nofun fun t=>q _ _ (Option.some.inj e▸(RN.rb (u:=.bool true) rfl rfl:RB T s.heap bk _ _)))
 |join=>
  refine meth_k h fun v y as ks pos hp y0_ h=>?_;have e1:y=("join":Str):=beq_iff_eq.mp (and_r (and_r (and_l h)));have e3:=and_l (and_r (and_l h));have e4:=and_r h;have e2:=nil_k (and_l (and_l h));clear h;subst e1 e2;refine xConst_k e3 fun c y0_ y1_ h1=>?_;rw[beq_iff_eq.mp h1];refine wpAny_Constant_str ?_;intro pl
  with_reducible refine GM.join ?_
  revert hp;refine one1_k (C:=fun as=>as.all plainE=true→wpAny _ A (callWith _ _ _ (backTo _ (starEach as _)) _) Q Er _) e4 fun w hw hp=>bm1 (and_l hp) (ih (s:=tk s (s.toks+1)) hw S fun v t rv=>?_);exact bind_k (show(lstOf a).bind _=_ from e) fun xs e1 e=>bind_k e fun ss e2 e=>ite_k e fun z e=>RB.lst (S.hv C0.X) e1 rv fun l vs hl rs z'=>
   join_list hl (rns_strs rs e2) (by
    rw[show(List.map (fun x=>x.length) (ss.map fun s=>(⟨s.toArray⟩:Str))).sum=ss.flatten.length by rw[List.length_flatten,List.map_map];rfl];exact Nat.le_trans (Nat.le_of_eq (congrArg _ (Nat.mul_zero _))) (szL z)) fun t' k=>q _ _ (Option.some.inj e▸RN.rb rfl ⟨_,by rw[Txt.join,StrLaws.glued_eq_join,join_flat],z⟩)
noncomputable abbrev Ih(T:Tb)(c:Cx)(m:Str→Option Value)(bk:Bk)(fr:Led)(A:Around)(σ:St)(k:Expr→Bool)(u:V):Prop:=∀{e s},k e=true→SR T c m bk fr s σ→∀{Q Er:Value→Shared→Prop},(∀v t,RB T s.heap bk u v→Q v (tk s t))→Wp T A (eval e c.env) Q Er s
omit K0 in
theorem op2_ok{o:O2}{b:V}{k1 k2:Expr→Bool}{r:V}(h:fit2 c.scope o x (fun l r=>k1 l&&k2 r)=true)(S:SR T c m bk fr s σ)(e:op2V o a b=some r)(ia:Ih T c m bk fr A σ k1 a)(ib:Ih T c m bk fr A σ k2 b)
  (q:∀v t,RB T s.heap bk r v→Q v (tk s t)):Wp T A (eval x c.env) Q Er s:=by
 cases o with
 |bin op=>exact xBin_k h fun l o y p h=>ite_k e fun n e=>beq_iff_eq.mp (and_l h)▸wpAny_BinOp (ia (and_l (and_r h)) S fun v t ra=>ib (s:=tk s t) (and_r (and_r h)) S fun w t' rb=>bin_ok (s:=tk s t') e (ra.ofN n.1) (rb.ofN n.2) fun v t r=>q v t (r.rb r.nl))
 |cmp op=>
  refine xCmp_k h fun l os rs p h=>one1_k h fun o h=>one1_k h fun y h=>map_k e fun b e1 e2=>?_;have e0:=beq_iff_eq.mp (and_l (and_l h));subst e0;exact wpAny_Compare1 (ia (and_l (and_r h)) S fun v t ra=>ib (s:=tk s t) (and_r (and_r h)) S fun w t' rb=>cmp_ok (s:=tk s t') e1 (S.hv C0.X) ra rb fun v t r=>q v t (e2▸RN.rb (u:=.bool b) rfl r)) (not_r (and_r (and_l h)))
 |sub=>exact xSub_k h fun w y p h=>ite_k e fun n e=>Subscript_ (ia (and_l (and_r h)) S fun v t ra=>ib (s:=tk s t) (and_r (and_r h)) S fun w t' rb=>sub_ok (s:=tk s t') e (noSlice_plain (and_l h)) (S.hv C0.X) ra (rb.ofN n) fun v t r=>q v t (r.rb r.nl))
 |_=>exact no_some e
omit K0 C0 in
theorem ptAnd_ok{xs:List E}(IH:∀e∈xs,PJ T c m bk fr A σ e):∀{b},ptAnd T σ xs=some b→∀{vs p s w},fits T c.ns c.scope xs vs=true→SR T c m bk fr s σ→∀{Q Er},(∀t,Q b (tk s t))→WpB T A (isTrue (.BoolOp .And vs p) c.env w) Q Er s:=by
 induction xs with
 |nil=>intro b e vs p s w hf S Q Er k;cases nil_k hf;exact isTrue_and_nil (Option.some.inj e▸k _)
 |cons a xs ih=>
  intro b e vs p s w hf S Q Er k;cases vs with
  |nil=>exact absurd hf Bool.false_ne_true
  |cons v vs=>
   refine bind_k e fun q e1 e2=>isTrue_and ((IH a (.head _)).2 e1 (and_r (and_l hf)) S rfl fun t=>?_);cases q with
   |true=>exact ih (fun e h=>IH e (.tail _ h)) e2 (s:=tk s t) (and_r hf) S k
   |false=>cases e2;exact k _
omit K0 C0 in
theorem ptOr_ok{xs:List E}(IH:∀e∈xs,PJ T c m bk fr A σ e):∀{b},ptOr T σ xs=some b→∀{vs p s w},fits T c.ns c.scope xs vs=true→SR T c m bk fr s σ→∀{Q Er},(∀t,Q b (tk s t))→WpB T A (isTrue (.BoolOp .Or vs p) c.env w) Q Er s:=by
 induction xs with
 |nil=>intro b e vs p s w hf S Q Er k;cases nil_k hf;exact isTrue_or_nil (Option.some.inj e▸k _)
 |cons a xs ih=>
  intro b e vs p s w hf S Q Er k;cases vs with
  |nil=>exact absurd hf Bool.false_ne_true
  |cons v vs=>
   refine bind_k e fun q e1 e2=>isTrue_or ((IH a (.head _)).2 e1 (and_r (and_l hf)) S rfl fun t=>?_);cases q with
   |true=>cases e2;exact k _
   |false=>exact ih (fun e h=>IH e (.tail _ h)) e2 (s:=tk s t) (and_r hf) S k
theorem pe_ok(e:E):PJ T c m bk fr A σ e:=by
  refine E.rec (motive_1:=PJ T c m bk fr A σ) (motive_2:=fun xs=>∀e∈xs,PJ T c m bk fr A σ e) (motive_3:=fun y0_=>True) (motive_4:=fun y0_=>True) ?cst ?loc ?glb ?attr ?op1 ?op2 ?slice ?cmp2 ?not ?and ?or ?ite ?tup ?lst ?dic ?meth ?mcal ?fcal ?new ?newv ?vcal ?supi ?app ?ext ?pop ?pop0 ?ins ?split ?keys ?cat ?tv ?pct ?comp ?opq ?nil ?cons trivial (fun y0_ y1_ y2_ y3_=>trivial) (fun y0_ y1_ y2_=>trivial) e
  case cst=>exact fun k=>⟨fun e x s hf S Q Er q=>cst_ok hf (Option.some.inj e▸q),fun e=>no_some e⟩
  case loc=>exact fun i=>⟨fun e x s hf S Q Er q=>xName_k hf fun y p h=>bind_k e fun u e1 e2=>ite_k e2 fun n e2=>loc_ok C0 S (beq_iff_eq.mp h) e1 (fun q=>by subst q;cases n) fun v y0_ r=>q v _ (Option.some.inj e2▸r),fun e=>no_some e⟩
  case glb=>exact fun i=>⟨fun e x s hf S Q Er q=>xName_k hf fun y p h=>beq_iff_eq.mp (and_l h)▸glb_ok K0 C0 S (beq_iff_eq.mp (and_l h)▸and_r h) e fun v r=>q v _ (r.rb r.nl),fun e=>no_some e⟩
  case attr=>exact fun a i ih=>⟨fun e x s hf S Q Er q=>xAttr_k hf fun v y p h=>beq_iff_eq.mp (and_l (and_l (and_l h)))▸bind_k e fun u e1 e2=>Attribute_any_ (ih.1 e1 (and_r h) S fun w t r=>attr_ok K0 (s:=tk s t) S C0.X (of_decide_eq_true (and_r (and_l (and_l h)))) e2 (r.ofN (attrV_nl e2)) fun v t r=>q v t r) (congrArg (fun z=>z>>=_) (base_plain (and_r (and_l h)))),fun e=>no_some e⟩
  case op1=>exact fun o a ih=>⟨fun e x s hf S Q Er q=>bind_k e fun u e1 e2=>op1_ok K0 C0 hf S e2 (fun h S=>ih.1 e1 h S) q,fun e=>no_some e⟩
  case op2=>
   exact fun o a b ia ib=>⟨fun e x s hf S Q Er q=>bind_k e fun u e1 e=>bind_k e fun v e2 e3=>op2_ok C0 hf S e3 (fun h S=>ia.1 e1 h S) (fun h S=>ib.1 e2 h S) q,fun{b'}e x s w hf S hw Q Er q=>by
    cases o with
    |cmp op=>
      refine xCmp_k hf fun l os rs p h=>one1_k h fun o h=>one1_k h fun y h=>bind_k e fun u e1 e=>bind_k e fun v e2 e3=>?_;have e0:=beq_iff_eq.mp (and_l (and_l h));subst e0;exact wpAny_isTrue_Compare1 (ia.1 e1 (and_l (and_r h)) S fun v t ra=>ib.1 e2 (s:=tk s t) (and_r (and_r h)) S fun w t' rb=>cmp_ok (s:=tk s t') e3 (S.hv C0.X) ra rb fun v t r=>(show v= .bool b' from r)▸wpAny_truthy_bool (q t)) (not_r (and_r (and_l h)))
    |_=>exact no_some e⟩
  case cmp2=>
   exact fun a o1 b o2 d ia ib id=>⟨fun e=>no_some e,fun{b'}e x s w hf S hw Q Er q=>xCmp_k hf fun l os rs p h=>two2_k h fun y z h=>two2_k h fun f g h=>bind_k e fun u e1 e=>bind_k e fun v e2 e=>bind_k e fun n e3 e=>by
    have h1:=and_l (and_l h);have hm:=not_r (and_r (and_l h));have h2:=and_r h;have e5:=beq_iff_eq.mp (and_l h1);have e6:=beq_iff_eq.mp (and_r h1);subst e5 e6;refine isTrue_chain (ia.1 e1 (and_l h2) S fun v t ra=>test_link (ib.1 e2 (s:=tk s t) (and_l (and_r h2)) S fun w t' rb=>cmp_ok (s:=tk s t') e3 (S.hv C0.X) ra rb fun v t r=>(show v= .bool n from r)▸wpAny_truthy_bool ?_)) hm;cases n with
    |false=>cases e;exact q _
    |true=>exact bind_k e fun x e4 e5=>test_last (id.1 e4 (s:=tk s t) (and_r (and_r h2)) S fun y t rc=>cmp_ok (s:=tk s t) e5 (S.hv C0.X) rb rc fun v t r=>(show v= .bool b' from r)▸wpAny_truthy_bool (q t))⟩
  case not=>exact fun a ih=>⟨fun e x s hf S Q Er q=>xUn_k hf fun o v p h=>bind_k e fun u e1 e=>map_k e fun b e2 e3=>beq_iff_eq.mp (and_l h)▸UnaryOp_ (ih.1 e1 (and_r h) S fun v t r=>not_of (tru_ok (s:=tk s t) e2 (S.hv C0.X) r fun t=>q _ t (e3▸RN.rb (u:=.bool (!b)) rfl rfl))),
    fun e x s w hf S hw Q Er q=>xUn_k hf fun o v p h=>map_k e fun b e1 e2=>beq_iff_eq.mp (and_l h)▸isTrue_not (ih.2 e1 (and_r h) S rfl fun t=>e2▸q t)⟩
  case and=>exact fun xs ih=>⟨fun e=>no_some e,fun e x s w hf S hw Q Er q=>xBool_k hf fun o vs p h=>beq_iff_eq.mp (and_l h)▸ptAnd_ok ih e (and_r h) S q⟩
  case or=>exact fun xs ih=>⟨fun e=>no_some e,fun e x s w hf S hw Q Er q=>xBool_k hf fun o vs p h=>beq_iff_eq.mp (and_l h)▸ptOr_ok ih e (and_r h) S q⟩
  case ite=>
   exact fun t a b it ia ib=>⟨fun e x s hf S Q Er q=>xIf_k hf fun l o r p h=>bind_k e fun n e1 e2=>IfExp_ (it.2 e1 (and_l h) S rfl fun t=>by
    cases n with
    |true=>exact ia.1 e2 (s:=tk s t) (and_l (and_r h)) S q
    |false=>exact ib.1 e2 (s:=tk s t) (and_r (and_r h)) S q),fun e=>no_some e⟩
  case tv=>exact fun a ih=>⟨fun e=>no_some e,fun e x s w hf S hw Q Er q=>bind_k e fun u e1 e2=>isTrue_plain (hw▸ih.1 e1 (and_r hf) S fun v t r=>tru_ok (s:=tk s t) e2 (S.hv C0.X) r q) (isTrue_T (and_l hf))⟩
  case nil=>exact fun y0_ h=>nomatch h
  case cons=>exact fun a r ia ir e h=>(List.mem_cons.mp h).elim (fun q=>q▸ia) (ir e)
  all_goals(intros;exact⟨fun e=>no_some e,fun e=>no_some e⟩)
end
end Mine.Internal
end
section
open PySem PySem.W PySem.Calls PyProof.Rows
namespace Mine.Internal
noncomputable section
noncomputable def noComp:Expr→Bool
 | .ListComp .. | .SetComp .. | .DictComp .. =>false
 |_=>true
noncomputable def notTup:Expr→Bool
 | .ListComp .. | .SetComp .. | .DictComp .. | .Tuple .. =>false
 |_=>true
noncomputable def isN:E→Bool
 | .cst .n=>true
 |_=>false
noncomputable def noSet:Expr→Bool
 | .Set .. =>false
 |_=>true
variable(T:Tb) (ns:List Str) (sc:Scope)
noncomputable def fitA(k:Nat)(x:Expr):Bool:=xAttr x fun v y=>xName v (fun z=>ns[0]? ==some z)&&(y==T.an k&&decide (k<1000))
noncomputable def fitN:List Nat→List Expr→Bool
 |[],xs=>xs.isEmpty
 |i::is,xs=>match xs with|[]=>false|x::xs=>xName x (fun y=>ns[i]? ==some y)&&fitN is xs
noncomputable def opOk(o:Bo):Bool:=match o with| .add| .sub=>true|_=>false
noncomputable def supFit(xs:List E)(x:Expr):Bool:=xCall x fun f as ks pos=>xAttrP f fun v y p=>(p.endLine==pos.line&&decide (as.length<29)&&ks.isEmpty)&&(xCall v fun g a k y0_=>a.isEmpty&&k.isEmpty&&xName g (· == "super"))&&y== "__init__"&& !as.isEmpty&&fits T ns sc xs as
mutual
noncomputable def fitS:S→Stmt→Bool
 | .expr e,st=>yExpr st fun x=>noComp x&&fit T ns sc e x
 | .asg is e,st=>yAsg st fun ts v=>noComp v&&decide (is.length≤3)&& !is.isEmpty&&fitN ns is ts&&fit T ns sc e v
 | .unp is e,st=>yAsg st fun ts v=>notTup v&&(decide (is.length=2)||decide (is.length=3))&&one1 ts (fun t=>xTup t fun ts=>fitN ns is ts)&&fit T ns sc e v
 | .setA k e,st=>yAsg st fun ts v=>noComp v&&one1 ts (fitA T ns k)&&fit T ns sc e v
 | .aug i op e,st=>yAug st fun t o v=>o==op.op&&opOk op&&xName t (fun y=>ns[i]? ==some y)&&fit T ns sc e v
 | .augA k op e,st=>yAug st fun t o v=>o==op.op&&opOk op&&fitA T ns k t&&fit T ns sc e v
 | .setI k ke e,st=>yAsg st fun ts v=>noComp v&&one1 ts (fun t=>xSub t fun a kx=>fitA T ns k a&&fit T ns sc ke kx)&&fit T ns sc e v
 | .delI k ke,st=>yDel st fun ts=>one1 ts fun t=>xSub t fun a kx=>fitA T ns k a&&fit T ns sc ke kx
 | .ite t a b,st=>yIf st fun x y z=>fit T ns sc t x&&(fitSs a y&&fitSs b z)
 | .whl t b,st=>yWhl st fun x y z=>z.isEmpty&&fit T ns sc t x&&fitSs b y
 | .forL i e b,st=>yFor st fun t x y z=>z.isEmpty&&noSet x&&xName t (fun z=>ns[i]? ==some z)&&fit T ns sc e x&&fitSs b y
 | .forS i j e b,st=>yFor st fun t x y z=>z.isEmpty&&xTup t (fitN ns [i,j])&&fn1 sc "enumerate" x (fit T ns sc e)&&fitSs b y
 | .forK i k b,st=>yFor st fun t x y z=>z.isEmpty&&xName t (fun z=>ns[i]? ==some z)&&fitA T ns k x&&fitSs b y
 | .ret e,st=>yRet st fun o=>match o with|some x=>fit T ns sc e x|none=>isN e
 | .raise k xs,st=>yRaise st fun o w=>w.isNone&&some1 o fun x=>xCall x fun f as ks y0_=>ks.isEmpty&&xName f (fun y=>y==T.an k&&glbN sc y)&&fits T ns sc xs as
 | .brk,st=>yBrk st true
 | .pas,st=>yPas st true
 | .ass e,st=>yAss st (fit T ns sc e)
 | .tryN b,st=>yTry st fun bs hs o f=> !hs.isEmpty&&o.isEmpty&&f.isEmpty&&fitSs b bs
 | .opq,_=>true
noncomputable def fitSs:List S→List Stmt→Bool
 |[],xs=>xs.isEmpty
 |i::is,xs=>match xs with|[]=>false|x::xs=>fitS i x&&fitSs is xs
end
noncomputable def fitB(code:List S)(body:List Stmt):Bool:=match code with
 | .opq::_=>true
 | .expr (.supi _ xs)::is=>(match body with|[]=>false|x::r=>yExpr x (fun x=>noComp x&&supFit T ns sc xs x)&&fitSs T ns sc is r)
 |is=>fitSs T ns sc is body
end
end Mine.Internal
end
section
open PySem PySem.W PySem.Calls PyProof.Rows
namespace Mine.Internal
section
variable{M:Model} {A:Around} {E:Value→Shared→Prop} {s:Shared}
theorem mapF_dict(f:Array Value→Array Value)(o:Obj):(Obj.mapFields f o).dict=o.dict:=by
 obtain⟨c,d,data,sl⟩:=o;cases data<;>rfl
noncomputable def Aloft(base:Heap)(l:List Env)(L e dx:Addr)(cls a0:Value)(h:Heap):Prop:=
 base.StaysIn h∧base.get? e=none∧h.FunFrames base l∧∃oe vs,h.get? e=some oe∧oe.cls=cls∧oe.dict=some dx∧oe.data= .fields vs∧vs[0]? =some a0∧
  (vs[1]? =some .none∨∃T oT ts fl,vs[1]? =some (.ref T)∧base.get? T=none∧T≠e∧h.get? T=some oT∧oT.data= .fields ts∧ts[3]? =some fl∧(fl= .none∨fl=rawInt L))
noncomputable def Noted(base:Heap)(l:List Env)(L e dx:Addr)(cls a0:Value)(h:Heap):Prop:=
 base.StaysIn h∧base.get? e=none∧h.FunFrames base l∧∃oe vs,h.get? e=some oe∧oe.cls=cls∧oe.dict=some dx∧oe.data= .fields vs∧vs[0]? =some a0∧
  ∃T oT ts,vs[1]? =some (.ref T)∧base.get? T=none∧T≠e∧h.get? T=some oT∧oT.data= .fields ts∧ts[3]? =some (rawInt L)
theorem Noted.aloft{base:Heap}{l:List Env}{L e dx:Addr}{cls a0:Value}{h:Heap}(x:Noted base l L e dx cls a0 h):Aloft base l L e dx cls a0 h:=by
 obtain⟨a,b,c,oe,vs,d1,d2,d3,d4,d5,T,oT,ts,e1,e2,e3,e4,e5,e6⟩:=x;exact⟨a,b,c,oe,vs,d1,d2,d3,d4,d5,.inr ⟨T,oT,ts,_,e1,e2,e3,e4,e5,e6,.inr rfl⟩⟩
theorem entry_d{base:Heap}{env:Env}{outer:List Env}{L e dx:Addr}{oe:Obj}{vs:Array Value}{head cls a0:Value}{hadNext:Bool}{Q:Unit→Shared→Prop}
  (hfr:A.frames=some (env::outer)) (hf:env.frame=some L) (hl:s.heap.FunFrames base (env::outer)) (hkb:base.StaysIn s.heap) (hen:base.get? e=none)
  (he:s.heap.get? e=some oe) (hc:oe.cls=cls) (hdx:oe.dict=some dx) (hd:oe.data= .fields vs) (hsz:1<vs.size) (h0:vs[0]? =some a0)
  (k:∀h',Noted base (env::outer) L e dx cls a0 h'→s.heap.UpToSlots h'→Q () {s with heap:=h'}):
  wpAny M A (do let a←frameOf env;let pl←entryPlaceOf L hadNext;let b←EntryCells.newEntry head a .none (rawInt L) .none pl;setField (.ref e) 1 b) Q E s:=by
 have eout:∀b,b∈(env::outer).filterMap (·.frame)→base.get? b=none∧b≠e:=fun b hb=>by
  obtain⟨q1,o,q2,q3⟩:=hl.mem hb;refine⟨q1,fun z=>?_⟩;rw[z,he] at q2;cases q2;exact q3 vs hd
 have nf:∀b o,s.heap.get? b=some o→(∀ws,o.data≠ .fields ws)→b≠e:=fun b o q1 q2 z=>by rw[z,he] at q1;cases q1;exact q2 vs hd
 refine wpAny_bind (wpAny_frameOf_fun hfr hl hf fun h₁ hs₁=>wpAny_bind (wpAny_entryPlaceOf fun pl hpl=>?_));unfold EntryCells.newEntry newFields;refine wpAny_bind (wpAny_newObj_type ?_ (hpl.sizeOk5 _ _ _ _ _));have g1:h₁.get? e=some oe:=(hs₁.2.1 e fun hm=>(eout e hm).2 rfl).trans he;have gb:base.StaysIn h₁:=fun b o q=>(hs₁.2.1 b fun hm=>by rw[(eout b hm).1] at q;cases q).trans (hkb b o q);refine wpAny_setField (Heap.get?_push_of_some _ g1) hd hsz (k _ ?_ ?_)
 ·have hTe:h₁.objs.size≠e:=Nat.ne_of_gt (Heap.lt_size g1);have hT:=(Heap.get?_update_other (h₁.push {cls:=.type "traceback",dict:=none,data:=.fields ([head,.ref L,.none,rawInt L,.none]++(if pl.isEmpty then List.replicate 6 Value.none else pl)).toArray}) (Obj.mapFields (·.setIfInBounds 1 (Value.ref h₁.objs.size))) (Ne.symm hTe)).trans (Heap.get?_push_size h₁ rfl);have d3:=Obj.data_mapFields hd (·.setIfInBounds 1 (Value.ref h₁.objs.size));refine⟨fun b o q=>?_,hen,hl.of_keeps fun b o q1 q2=>?_,_,_,Heap.get?_update_self _ (Heap.get?_push_of_some _ g1) (Obj.isFreed_of_fields d3),(Obj.cls_mapFields _ _).trans hc,(mapF_dict _ _).trans hdx,d3,?_,h₁.objs.size,_,_,?_,?_,hTe,hT,rfl,?_⟩
  ·rw[Heap.get?_update_other _ _ (fun z:e=b=>by rw[←z,hen] at q;cases q)];exact Heap.get?_push_of_some _ (gb b o q)
  ·obtain⟨sl,z⟩:=hs₁.2.2 b o q1;refine⟨{o with slots:=sl},?_,rfl⟩;rw[Heap.get?_update_other _ _ (Ne.symm (nf b o q1 q2))];exact Heap.get?_push_of_some _ z
  ·rw[Array.getElem?_setIfInBounds_ne (by decide)];exact h0
  ·simp[hsz]
  ·exact gb.fresh
  ·first|(simp;done)|(rcases hpl with rfl|⟨_,_,_,_,_,_,_,rfl⟩<;>simp)
 ·intro b o q1 q2;obtain⟨sl,z⟩:=hs₁.2.2 b o q1;refine⟨sl,?_⟩;rw[Heap.get?_update_other _ _ (Ne.symm (nf b o q1 q2))];exact Heap.get?_push_of_some _ z
theorem note_any{base:Heap}{env:Env}{outer:List Env}{L e dx:Addr}{cls a0:Value}{Q:Unit→Shared→Prop}
  (hfr:A.frames=some (env::outer)) (hf:env.frame=some L) (x:Aloft base (env::outer) L e dx cls a0 s.heap)
  (k:∀h',Noted base (env::outer) L e dx cls a0 h'→s.heap.UpToSlots h'→Q () {s with heap:=h'}):wpAny M A (noteFrame (.ref e) env) Q E s:=by
 obtain⟨a,b,c,oe,vs,d1,d2,d3,d4,d5,d6⟩:=x;unfold noteFrame;simp only[hf];rcases d6 with d6|⟨T,oT,ts,fl,e1,e2,e3,e4,e5,e6,e7⟩
 ·refine wpAny_bind (wpAny_field d1 d4 d6 ?_);rw[if_neg (by decide)];exact entry_d hfr hf c a b d1 d2 d3 d4 (Array.getElem?_eq_some_iff.mp d6).1 d5 k
 ·refine wpAny_bind (wpAny_field d1 d4 e1 ?_);rw[if_pos (show(Value.ref T !=Value.none)=true from by simp)];refine wpAny_bind (wpAny_field e4 e5 e6 ?_);rcases e7 with rfl|rfl
  ·rw[if_neg (show¬((Value.none==rawInt L)=true) from by simp[rawInt])];refine wpAny_bind (wpAny_setField e4 e5 (Array.getElem?_eq_some_iff.mp e6).1 ?_);have other:∀b,b≠T→(s.heap.update T (Obj.mapFields (·.setIfInBounds 3 Value.none))).get? b=s.heap.get? b:=fun b hb=>Heap.get?_update_other _ _ (Ne.symm hb);have nT:∀b o,s.heap.get? b=some o→(∀ws,o.data≠ .fields ws)→b≠T:=fun b o q1 q2 z=>by rw[z,e4] at q1;cases q1;exact q2 ts e5
   refine entry_d (s:={s with heap:=s.heap.update T _}) hfr hf (c.of_keeps fun b o q1 q2=>⟨o,(other b (nT b o q1 q2)).trans q1,rfl⟩) (fun b o q=>(other b fun z=>by rw[z,e2] at q;cases q).trans (a b o q)) b ((other e (Ne.symm e3)).trans d1) d2 d3 d4 (Array.getElem?_eq_some_iff.mp e1).1 d5
    fun h' n u=>k h' n fun b o q1 q2=>u b o ((other b (nT b o q1 q2)).trans q1) q2
  ·rw[if_pos (show(rawInt L==rawInt L)=true from by simp)];exact wpAny_pure (k s.heap ⟨a,b,c,oe,vs,d1,d2,d3,d4,d5,T,oT,ts,e1,e2,e3,e4,e5,e6⟩ (.refl _))
theorem flight_d{base:Heap}{l:List Env}{L e dx:Addr}{cls a0:Value}{o:Option Addr}{Q:Unit→Shared→Prop}(x:Noted base l L e dx cls a0 s.heap)
  (k:∀h',(base.StaysIn h'∧base.get? e=none∧h'.FunFrames base l∧∃oe vs,h'.get? e=some oe∧oe.cls=cls∧oe.dict=some dx∧oe.data= .fields vs∧vs[0]? =some a0∧
   ∃T oT ts,vs[1]? =some (.ref T)∧base.get? T=none∧T≠e∧h'.get? T=some oT∧oT.data= .fields ts∧ts[3]? =some (o.elim Value.none fun f=>rawInt f))→s.heap.UpToSlots h'→Q () {s with heap:=h'}):wpAny M A (setFlight (.ref e) o) Q E s:=by
 obtain⟨a,b,c,oe,vs,d1,d2,d3,d4,d5,T,oT,ts,e1,e2,e3,e4,e5,e6⟩:=x;have hz:=(Array.getElem?_eq_some_iff.mp e6).1;have other:∀b,b≠T→(s.heap.update T (Obj.mapFields (·.setIfInBounds 3 (o.elim Value.none fun f=>rawInt f)))).get? b=s.heap.get? b:=fun b hb=>Heap.get?_update_other _ _ (Ne.symm hb);have nT:∀b o,s.heap.get? b=some o→(∀ws,o.data≠ .fields ws)→b≠T:=fun b o q1 q2 z=>by rw[z,e4] at q1;cases q1;exact q2 ts e5
 unfold setFlight;refine wpAny_bind (wpAny_field d1 d4 e1 ?_);rw[if_pos (show(Value.ref T !=Value.none)=true from by simp)];refine wpAny_setField e4 e5 hz (k _ ⟨fun b o q=>(other b fun z=>by rw[z,e2] at q;cases q).trans (a b o q),b,c.of_keeps fun b o q1 q2=>⟨o,(other b (nT b o q1 q2)).trans q1,rfl⟩,oe,vs,(other e (Ne.symm e3)).trans d1,d2,d3,d4,d5,
  T,_,_,e1,e2,e3,Heap.get?_update_self _ e4 (Obj.isFreed_of_fields (Obj.data_mapFields e5 _)),Obj.data_mapFields e5 _,by simp[hz]⟩ fun b o q1 q2=>⟨o.slots,(other b (nT b o q1 q2)).trans q1⟩)
theorem leave_any{base:Heap}{env:Env}{outer:List Env}{L L' e dx:Addr}{cls a0:Value}{Q:Unit→Shared→Prop}
  (hfr:A.frames=some (env::outer)) (hf:env.frame=some L) (x:Aloft base (env::outer) L e dx cls a0 s.heap)
  (k:∀h',Aloft base outer L' e dx cls a0 h'→s.heap.UpToSlots h'→Q () {s with heap:=h'}):wpAny M A (leaving env (.ref e)) Q E s:=by
 unfold leaving;refine wpAny_bind (note_any hfr hf x fun h1 n u1=>?_);refine flight_d (s:={s with heap:=h1}) n fun h2 n2 u2=>k h2 ?_ (u1.trans u2);obtain⟨a,b,⟨_,_,c⟩,oe,vs,d1,d2,d3,d4,d5,T,oT,ts,e1,e2,e3,e4,e5,e6⟩:=n2;exact⟨a,b,c,oe,vs,d1,d2,d3,d4,d5,.inr ⟨T,oT,ts,_,e1,e2,e3,e4,e5,e6,.inl rfl⟩⟩
theorem back_any{base:Heap}{l:List Env}{L e dx:Addr}{cls a0:Value}{Q:Unit→Shared→Prop}(x:Noted base l L e dx cls a0 s.heap)
  (k:∀h',Noted base l L e dx cls a0 h'→s.heap.UpToSlots h'→Q () {s with heap:=h'}):wpAny M A (setFlight (.ref e) (some L)) Q E s:=
 flight_d x fun h2 n2 u2=>k h2 n2 u2
end
end Mine.Internal
end
section
open PySem PySem.W PySem.Calls PyProof.Rows
namespace Mine.Internal
noncomputable section
section
variable(T:Tb)
inductive DR1:Option V→Option Value→Prop
 |no:DR1 none none
 |ok {u v}:(∀bk,RN T bk u v)→u.nl=true→DR1 (some u) (some v)
inductive DfR (D:FnD) (n:Nat) (Ds:List (Option V)):Prop
 |no:D.dV= .none→All2 (DR1 T) Ds (List.replicate n none)→DfR D n Ds
 |ok {ds:List Value} {a o k}:D.dV= .ref a→T.K.lookup a=some o→o.data= .seq ds.toArray k→ds.length≤n→All2 (DR1 T) Ds (List.replicate (n-ds.length) none++ds.map some)→DfR D n Ds
structure FnG (D:FnD) (a:Addr) (ps:List Str):Prop where
 lk:T.K.lookup a=some D.fo
 data:D.fo.data= .func D.fd
 code:codeIn T.K D.cdv D.qual=true
 nocell:∀x∈D.scope.names,x.2≠ .cell
 co:D.scope.isCoroutine=false
 gen:D.scope.isGenerator=false
 kind:D.scope.kind= .function
 par:∃as kd ds,D.params=⟨[],as,none,[],kd,none,ds⟩∧as.map (·.arg)=ps
 pre:∃rest,D.ns=ps++rest
 nd:D.ns.Nodup
 loc:∀x∈D.ns,D.scope.names.lookup x=some .local∧(x==("__debug__":Str))=false
noncomputable abbrev pnames(f:Nat):List Str:=(T.fn f).pn.map T.an
structure FnOK (f:Nat):Prop extends FnG T (T.fd f) (T.fa f) (pnames T f) where
 np:(T.fn f).pn.length=(T.fn f).np
 nl:(T.fd f).ns.length=(T.fn f).nl
 df:DfR T (T.fd f) (T.fn f).pn.length (T.fn f).defs
 body:fitB T (T.fd f).ns (T.fd f).scope (T.fn f).code (T.fd f).body=true
structure AOK (c:Cx) (A:Around) (d:Nat):Prop where
 frames:A.frames=some (c.env::c.outer)
 depth:A.depth+3*d+6<recursionLimit
 units:A.units+20*d+400<cLine
 handled:A.handled=none
structure AOC (c:Cx) (A:Around) (d:Nat):Prop where
 frames:A.frames=some (c.env::c.outer)
 depth:A.depth+3*d+4<recursionLimit
 units:A.units+20*d+390<cLine
 handled:A.handled=none
noncomputable def PctOK(s t:List Nat):Prop:=∀tk u,∃X:Str,Meets (PySem.Builtin.«str.__mod__» ⟨[.str ⟨s.toArray⟩ tk,.str ⟨t.toArray⟩ u],[]⟩) (fun y0_ R s=>∀t' k,R (.ok (.ret (.str X t'))) {s with toks:=k})
structure TbX:Prop extends TbOK T where
 pct:∀s t,T.pc s t=true→PctOK s t
 fok:∀k f,(k,f)∈T.ms∨(k,f)∈T.fs→FnOK T f
 fsr:∀k f,(k,f)∈T.fs→nsIn T.K mainGlobals (T.an k)=some (some (.ref (T.fa f)))
 nocls:∀k,T.pf k=true→findIn T.K (.ref T.CP) (T.an k)=some none
 seta:findIn T.K (.ref T.CP) "__setattr__"=some (some (.builtin "object.__setattr__"))
 over:plainOver T.K T.CP=true
 taker:∀k,T.pf k=true→takerIn T.K T.CP (T.an k)=some none
 hasd:hasDictIn T.K T.CP=true
structure Gd (d:Nat) (c:Cx) (A:Around):Prop where
 K:TbX T
 C:c.OK T
 A:AOK c A d
end
inductive Fly (base G:Heap) (l:List Env) (L ea C dx:Addr) (led:Led) (h:Heap):Prop
 |mk {B a0}:base.StaysIn B→(∀b o,G.get? b=some o→b∉l.filterMap (·.frame)→B.get? b=some o)→(∀q∈led,B.get? q.1=some q.2∧G.get? q.1=none∧base.get? q.1=none)→Aloft B l L ea dx (.ref C) a0 h→Fly base G l L ea C dx led h
inductive ExIn (T:Tb) (bk:Bk) (x:Ex) (dx:Addr):Prop
 |mk {es n}:(dx,dictOf es n)∈bk.I→All2 (FD T bk) x.fs es→(∀p∈x.fs,fieldAt T.K x.C (T.an p.1)=true)→ExIn T bk x dx
variable(T:Tb) (c:Cx) (m:Str→Option Value) (bk:Bk) (fr:Led)
inductive Rz (x:Ex) (l:List V):Value→Shared→Prop
 |mk {bk' led own G ea dx s}:bk.le bk'→Rel T c m bk' fr led own l→Sm c s→ExIn T bk' x dx→Fly c.base G (c.env::c.outer) c.L ea x.C dx led s.heap→Fr c.h₀ c.L G m→G.UpToSlots s.heap→Rz x l (.ref ea) s
noncomputable def EvP(r:R V)(Q Er:Value→Shared→Prop):Prop:=match r with
 | .ok u σ=>∀{s bk' v fp},SR T c m bk' (fp++fr) s σ→bk.le bk'→RX T bk' u v fp→Q v s
 | .exc x l=>∀{e s},Rz T c m bk fr x l e s→Er e s
noncomputable def TrP(r:R Bool)(Q:Bool→Shared→Prop)(Er:Value→Shared→Prop):Prop:=match r with
 | .ok u σ=>∀{s bk'},SR T c m bk' fr s σ→bk.le bk'→Q u s
 | .exc x l=>∀{e s},Rz T c m bk fr x l e s→Er e s
inductive FlR (bk:Bk):Fl→Flow→Led→Prop
 |next:FlR bk .next .next []
 |brk:FlR bk .brk .brk []
 |ret {v u fp}:RX T bk u v fp→FlR bk (.ret u) (.ret v) fp
noncomputable def ExP(r:R Fl)(Q:Flow→Shared→Prop)(Er:Value→Shared→Prop):Prop:=match r with
 | .ok f σ=>∀{s m bk' fl fp},SR T c m bk' (fp++fr) s σ→bk.le bk'→FlR T bk' f fl fp→Q fl s
 | .exc x l=>∀{e s m},Rz T c m bk fr x l e s→Er e s
noncomputable def Outs(T:Tb)(bk:Bk)(led:Led)(own:Own)(vals:List Value)(outs:List V):Prop:=∀{i:Nat}{u:V}{v:Value},outs[i]? =some u→u.lin=true→vals[i]? =some v→Ow T bk led own (.out i) u v
noncomputable def CrP(loc:List V)(vals:List Value)(cr:CR)(Rr:Result→Shared→Prop):Prop:=match cr with
 | .ret u P outs=>∀{s bk' v fv led own},SR0 T c m bk' (fv++fr) led own s.heap ⟨loc,P⟩→Sm c s→bk.le bk'→RX T bk' u v fv→Outs T bk' led own vals outs→Rr (.ok (.ret v)) s
 | .exc x=>∀{e s},Rz T c m bk fr x loc e s→Rr (.error e) s
variable(d np:Nat)
noncomputable def Ev(T:Tb)(d:Nat)(e:E)(σ:St)(r:R V):Prop:=∀{c A},Gd T d c A→∀{x s m bk fr},fit T c.ns c.scope e x=true→SR T c m bk fr s σ→∀{Q Er},EvP T c m bk fr r Q Er→Wp T A (eval x c.env) Q Er s
noncomputable def Tr(T:Tb)(d:Nat)(e:E)(σ:St)(r:R Bool):Prop:=∀{c A},Gd T d c A→∀{x s m bk fr},fit T c.ns c.scope e x=true→SR T c m bk fr s σ→∀{Q Er},TrP T c m bk fr r Q Er→WpB T A (isTrue x c.env (eval x c.env)) Q Er s
noncomputable def Exs(T:Tb)(d np:Nat)(code:List S)(σ:St)(r:R Fl):Prop:=∀{c A},Gd T d c A→c.pin.length≤np→∀{body s m bk fr},fitSs T c.ns c.scope code body=true→SR T c m bk fr s σ→∀{Q Er},ExP T c bk fr r Q Er→wpAny (model T.prog T.w) A (execs body c.env) Q Er s
noncomputable def Xs(T:Tb)(d np:Nat)(code:S)(σ:St)(r:R Fl):Prop:=∀{c A},Gd T d c A→c.pin.length≤np→∀{st s m bk fr},fitS T c.ns c.scope code st=true→SR T c m bk fr s σ→∀{Q Er},ExP T c bk fr r Q Er→wpAny (model T.prog T.w) A (exec st c.env) Q Er s
noncomputable def flV:Fl→V| .ret v=>v|_=>.none
noncomputable def Run(T:Tb)(d:Nat)(f:Nat)(xs:List V)(P:Pt)(r:CR):Prop:=∀{c A},TbX T→c.OK T→AOC c A d→∀{s m bk fr fp loc vals args},SR T c m bk (fp++fr) s ⟨loc,P⟩→RVs T bk xs vals fp→FnOK T f→BindsTo s (T.fd f).fd args ((pnames T f).zip vals)→
 ∀{Rr},CrP T c m bk fr loc vals r Rr→codeAny (model T.prog T.w) A (.call (.ref (T.fa f)) args) Rr s
end
end Mine.Internal
end
section
open PySem PySem.W PySem.Calls PyProof.Rows
namespace Mine.Internal
noncomputable section
variable{T:Tb} {c:Cx} {m:Str→Option Value} {bk bk':Bk} {fr fr' f:Led} {A:Around} {Q Er:Value→Shared→Prop} {s:Shared} {u v w a:V} {σ σ' σ1 σ2:St} {d:Nat} {e t i j:E} {x:Ex} {l:List V} {y:Value} {led:Led} {own:Own} {loc:List V} {es:List E}
theorem Rel.drop(R:Rel T c m bk (f++fr) led own loc):Rel T c m bk fr led own loc:=⟨R.dj,R.imm,fun p hp=>R.frm p (List.mem_append_right _ hp),R.frd.sublist ((List.sublist_append_right _ _).map _),R.len,R.loc⟩
theorem Rz.drop(h:bk.le bk')(z:Rz T c m bk' (f++fr) x l y s):Rz T c m bk fr x l y s:=z.casesOn fun l R a b c d e=>.mk (h.trans l) R.drop a b c d e
theorem Rz.up(h:bk.le bk')(z:Rz T c m bk' fr x l y s):Rz T c m bk fr x l y s:=Rz.drop (f:=[]) h z
theorem EvP.ok(k:EvP T c m bk fr (.ok u σ) Q Er)(S:SR T c m bk' fr s σ)(h:bk.le bk'){v:Value}(r:RN T bk' u v):Q v s:=k (fp:=[]) S h (r.rx r.nl)
theorem Gd.pe(g:Gd T d c A)(h:pe T σ e=some u):PeJ T c m bk fr A σ e u:=(pe_ok g.K.toTbOK g.C e).1 h
theorem Ev.p(h:pe T σ e=some u)(n:u.nl=true):Ev T d e σ (.ok u σ):=@fun y0_ y1_ g y2_ s y3_ y4_ y5_ hf S y6_ y7_ k=>g.pe h hf S fun y0_ t r=>k.ok (s:=tk s t) S (.refl _) (r.ofN n)
theorem Tr.p{b:Bool}(h:pt T σ e=some b):Tr T d e σ (.ok b σ):=@fun y0_ y1_ g y2_ s y3_ y4_ y5_ hf S y6_ y7_ k=>(pe_ok g.K.toTbOK g.C e).2 h hf S rfl fun t=>k (s:=tk s t) S (.refl _)
theorem Ev.attr{k:Nat}(h:Ev T d e σ (.ok v σ'))(h1:attrV T σ'.P v k=some u)(n:u.nl=true):Ev T d (.attr e k) σ (.ok u σ'):=@fun y0_ y1_ g y2_ y3_ y4_ y5_ y6_ hf S y7_ y8_ q=>xAttr_k hf fun y0_ y1_ y2_ f=>beq_iff_eq.mp (and_l (and_l (and_l f)))▸
 Attribute_any_ (h g (and_r f) S @fun s y0_ y1_ y2_ S l r=>let r:=(RX.ofN (attrV_nl h1)).mp r;attr_ok g.K.toTbOK S.drop g.C.X (of_decide_eq_true (and_r (and_l (and_l f)))) h1 r.1 fun y0_ t r=>q.ok (s:=tk s t) S.drop l (r.ofN n)) (congrArg (fun z=>z>>=_) (base_plain (and_r (and_l f))))
theorem Ev.attrX{k:Nat}(h:Ev T d e σ (.exc x l)):Ev T d (.attr e k) σ (.exc x l):=@fun y0_ y1_ g y2_ y3_ y4_ y5_ y6_ hf S y7_ y8_ q=>xAttr_k hf fun y0_ y1_ y2_ f=>beq_iff_eq.mp (and_l (and_l (and_l f)))▸Attribute_any_ (h g (and_r f) S q) (congrArg (fun z=>z>>=_) (base_plain (and_r (and_l f))))
theorem RX.rb{v:Value}(r:RX T bk u v f)(n:∀us,u≠ .ltup us)(S:SR T c m bk (f++fr) s σ):RB T s.heap bk u v:=RV.rb (show RV T bk u v f by cases u<;>first|exact r|exact absurd rfl (n _)) S
theorem cmp_nt{op:Co}{b:Bool}{us:List V}(h:cmpV op (.ltup us) v=some b):False:=by
 cases op with
 |is=>exact none_k h fun y0_ h=>no_some h
 |isnot=>exact none_k h fun y0_ h=>no_some h
 |_=>exact no_some h
theorem cmp_nl{op:Co}{b:Bool}(h:cmpV op u v=some b)(us:List V)(q:u= .ltup us):False:=cmp_nt (q▸h)
theorem Tr.cmpL{op:Co}{b:Bool}(h:Ev T d e σ (.ok u σ'))(h1:pe T σ' t=some v)(h2:cmpV op u v=some b):Tr T d (.cmp op e t) σ (.ok b σ'):=@fun y0_ y1_ g y2_ y3_ y4_ y5_ y6_ hf S y7_ y8_ q=>xCmp_k hf fun l os rs p f=>one1_k f fun o f=>one1_k f fun y f=>by
 have e0:=beq_iff_eq.mp (and_l (and_l f));subst e0;exact wpAny_isTrue_Compare1 (h g (and_l (and_r f)) S @fun s y0_ y1_ y2_ S l r=>g.pe h1 (and_r (and_r f)) S fun y0_ t rb=>cmp_ok (s:=tk s t) h2 (S.hv g.C.X) (r.rb (cmp_nl h2) S) rb fun v t r=>(show v= .bool b from r)▸wpAny_truthy_bool (q (s:=tk s t) S.drop l)) (not_r (and_r (and_l f)))
theorem Ev.cmpL{op:Co}{b:Bool}(h:Ev T d e σ (.ok u σ'))(h1:pe T σ' t=some v)(h2:cmpV op u v=some b):Ev T d (.cmp op e t) σ (.ok (.bool b) σ'):=@fun y0_ y1_ g y2_ y3_ y4_ y5_ y6_ hf S y7_ y8_ q=>xCmp_k hf fun l os rs p f=>one1_k f fun o f=>one1_k f fun y f=>by
 have e0:=beq_iff_eq.mp (and_l (and_l f));subst e0;exact wpAny_Compare1 (h g (and_l (and_r f)) S @fun s y0_ y1_ y2_ S l r=>g.pe h1 (and_r (and_r f)) S fun y0_ t rb=>cmp_ok (s:=tk s t) h2 (S.hv g.C.X) (r.rb (cmp_nl h2) S) rb fun v t r=>q.ok (s:=tk s t) S.drop l r) (not_r (and_r (and_l f)))
theorem Tr.cmpX{op:Co}(h:Ev T d e σ (.exc x l)):Tr T d (.cmp op e t) σ (.exc x l):=@fun y0_ y1_ g y2_ y3_ y4_ y5_ y6_ hf S y7_ y8_ q=>xCmp_k hf fun l os rs p f=>one1_k f fun o f=>one1_k f fun y f=>by
 have e0:=beq_iff_eq.mp (and_l (and_l f));subst e0;exact wpAny_isTrue_Compare1 (h g (and_l (and_r f)) S q) (not_r (and_r (and_l f)))
theorem Tr.tv{b:Bool}(h:Ev T d e σ (.ok v σ'))(n:v.nl=true)(h2:truthV v=some b):Tr T d (.tv e) σ (.ok b σ'):=@fun y0_ y1_ g y2_ y3_ y4_ y5_ y6_ hf S y7_ y8_ q=>isTrue_plain (h g (and_r hf) S @fun s y0_ y1_ y2_ S l r=>tru_ok h2 (S.hv g.C.X) (((RX.ofN n).mp r).1.rb n) fun t=>q (s:=tk s t) S.drop l) (isTrue_T (and_l hf))
theorem Tr.not{b:Bool}(h:Tr T d e σ (.ok b σ')):Tr T d (.not e) σ (.ok (!b) σ'):=@fun y0_ y1_ g y2_ y3_ y4_ y5_ y6_ hf S y7_ y8_ q=>xUn_k hf fun o v p f=>beq_iff_eq.mp (and_l f)▸isTrue_not (h g (and_r f) S @fun y0_ y1_ S l=>q S l)
theorem TrP.le{r:R Bool}{Q:Bool→Shared→Prop}(q:TrP T c m bk fr r Q Er)(l:bk.le bk'):TrP T c m bk' fr r Q Er:=by
 cases r with
 |ok=>exact @fun y0_ y1_ S l'=>q S (l.trans l')
 |exc=>exact @fun y0_ y1_ z=>q (z.up l)
theorem EvP.le{r:R V}(q:EvP T c m bk fr r Q Er)(l:bk.le bk'):EvP T c m bk' fr r Q Er:=by
 cases r with
 |ok=>exact @fun y0_ y1_ y2_ y3_ S l'=>q S (l.trans l')
 |exc=>exact @fun y0_ y1_ z=>q (z.up l)
noncomputable def TL(T:Tb)(d:Nat)(o:BoolOp)(es:List E)(σ:St)(r:R Bool):Prop:=∀{c A},Gd T d c A→∀{vs p w s m bk fr},fits T c.ns c.scope es vs=true→SR T c m bk fr s σ→∀{Q Er},TrP T c m bk fr r Q Er→WpB T A (isTrue (.BoolOp o vs p) c.env w) Q Er s
theorem Tr.and{r:R Bool}(h:TL T d .And es σ r):Tr T d (.and es) σ r:=@fun y0_ y1_ g y2_ y3_ y4_ y5_ y6_ hf S y7_ y8_ q=>xBool_k hf fun o vs p f=>beq_iff_eq.mp (and_l f)▸h g (and_r f) S q
theorem Tr.or{r:R Bool}(h:TL T d .Or es σ r):Tr T d (.or es) σ r:=@fun y0_ y1_ g y2_ y3_ y4_ y5_ y6_ hf S y7_ y8_ q=>xBool_k hf fun o vs p f=>beq_iff_eq.mp (and_l f)▸h g (and_r f) S q
theorem fits_k{C:List Expr→Prop}{vs:List Expr}{ns sc}(h:fits T ns sc (e::es) vs=true)(k:∀x r,plainE x=true→fit T ns sc e x=true→fits T ns sc es r=true→C (x::r)):C vs:=by
 cases vs with
 |nil=>exact absurd h Bool.false_ne_true
 |cons=>exact k _ _ (and_l (and_l h)) (and_r (and_l h)) (and_r h)
theorem TL.nilA:TL T d .And [] σ (.ok true σ):=@fun y0_ y1_ g y2_ y3_ y4_ y5_ y6_ y7_ y8_ hf S y9_ y10_ q=>nil_k hf▸isTrue_and_nil (q S (.refl _))
theorem TL.nilO:TL T d .Or [] σ (.ok false σ):=@fun y0_ y1_ g y2_ y3_ y4_ y5_ y6_ y7_ y8_ hf S y9_ y10_ q=>nil_k hf▸isTrue_or_nil (q S (.refl _))
theorem TL.andT{r:R Bool}(h:Tr T d e σ (.ok true σ'))(k:TL T d .And es σ' r):TL T d .And (e::es) σ r:=@fun y0_ y1_ g vs p w y2_ y3_ y4_ y5_ hf S Q Er q=>fits_k (C:=fun vs=>WpB T _ (isTrue (.BoolOp .And vs p) _ w) Q Er _) hf fun y0_ y1_ y2_ f1 f2=>isTrue_and (h g f1 S @fun y0_ y1_ S l=>k g f2 S (q.le l))
theorem TL.andF(h:Tr T d e σ (.ok false σ')):TL T d .And (e::es) σ (.ok false σ'):=@fun y0_ y1_ g vs p w y2_ y3_ y4_ y5_ hf S Q Er q=>fits_k (C:=fun vs=>WpB T _ (isTrue (.BoolOp .And vs p) _ w) Q Er _) hf fun y0_ y1_ y2_ f1 f2=>isTrue_and (h g f1 S @fun y0_ y1_ S l=>q S l)
theorem TL.orF{r:R Bool}(h:Tr T d e σ (.ok false σ'))(k:TL T d .Or es σ' r):TL T d .Or (e::es) σ r:=@fun y0_ y1_ g vs p w y2_ y3_ y4_ y5_ hf S Q Er q=>fits_k (C:=fun vs=>WpB T _ (isTrue (.BoolOp .Or vs p) _ w) Q Er _) hf fun y0_ y1_ y2_ f1 f2=>isTrue_or (h g f1 S @fun y0_ y1_ S l=>k g f2 S (q.le l))
theorem TL.orT(h:Tr T d e σ (.ok true σ')):TL T d .Or (e::es) σ (.ok true σ'):=@fun y0_ y1_ g vs p w y2_ y3_ y4_ y5_ hf S Q Er q=>fits_k (C:=fun vs=>WpB T _ (isTrue (.BoolOp .Or vs p) _ w) Q Er _) hf fun y0_ y1_ y2_ f1 f2=>isTrue_or (h g f1 S @fun y0_ y1_ S l=>q S l)
noncomputable def JsR(c:Cx)(m:Str→Option Value)(js:List (Option Nat))(pv:List Value):Prop:=∀{i j:Nat}{v:Value}{x:Str},js[i]? =some (some j)→pv[i]? =some v→c.ns[j]? =some x→m x=some v∧c.pin[j]? ≠some none
noncomputable abbrev Ar:=List (V×Option Nat)
noncomputable def AsP(T:Tb)(c:Cx)(m:Str→Option Value)(bk:Bk)(fr:Led)(r:R Ar)(Q:List Value→Shared→Prop)(Er:Value→Shared→Prop):Prop:=match r with
 | .ok vs σ=>∀{s bk' pv fp},SR T c m bk' (fp++fr) s σ→bk.le bk'→RVs T bk' (vs.map (·.1)) pv fp→JsR c m (vs.map (·.2)) pv→Q pv s
 | .exc x l=>∀{e s},Rz T c m bk fr x l e s→Er e s
noncomputable def As'(T:Tb)(d:Nat)(es:List E)(σ:St)(r:R Ar):Prop:=∀{c A},Gd T d c A→∀{vs pos s m bk fr},fits T c.ns c.scope es vs=true→SR T c m bk fr s σ→∀{Q Er},AsP T c m bk fr r Q Er→wpAny (model T.prog T.w) A (spliced (backTo pos (starEach vs c.env))) Q Er s
theorem As'.nil:As' T d [] σ (.ok [] σ):=@fun y0_ y1_ g y2_ pos y3_ y4_ y5_ y6_ hf S y7_ y8_ q=>nil_k hf▸args_nil (q (fp:=[]) S (.refl _) .nil nofun)
theorem JsR.cons{js:List (Option Nat)}{pv:List Value}{o:Option Nat}{v:Value}(h:∀{j x},o=some j→c.ns[j]? =some x→m x=some v∧c.pin[j]? ≠some none)(k:JsR c m js pv):JsR c m (o::js) (v::pv):=fun{i}=>i.casesOn (fun e1 e2 e3=>Option.some.inj e2▸h (Option.some.inj e1) e3) fun y0_=>k
theorem lin_cases(h:u.nl=true∨u.lin=true){v:Value}(r:RX T bk u v f):RV T bk u v f:=by
 cases u<;>first|exact r|exact h.elim (fun h=>absurd h Bool.false_ne_true) fun h=>absurd h Bool.false_ne_true
theorem As'.cons{vs:Ar}(h:Ev T d e σ (.ok v σ'))(n:v.nl=true∨v.lin=true)(k:As' T d es σ' (.ok vs σ2)):As' T d (e::es) σ (.ok ((v,none)::vs) σ2):=@fun c y0_ g xs pos y1_ m y2_ y3_ hf S Q Er q=>
 fits_k (C:=fun xs=>wpAny _ _ (spliced (backTo pos (starEach xs c.env))) Q Er _) hf fun y0_ y1_ p f1 f2=>args_cons (h g f1 S @fun y0_ y1_ v y2_ S1 l1 r1=>k g f2 S1 @fun y0_ y1_ pv fp S2 l2 r2 j=>q (fp:=_++fp) (List.append_assoc .. ▸S2.swap) (l1.trans l2) (.cons ((lin_cases n r1).mono l2) r2) (JsR.cons (fun e=>no_some e) j)) (starEach_plain p)
theorem As'.exc1(h:Ev T d e σ (.exc x l)):As' T d (e::es) σ (.exc x l):=@fun c y0_ g xs pos y1_ m y2_ y3_ hf S Q Er q=>
 fits_k (C:=fun xs=>wpAny _ _ (spliced (backTo pos (starEach xs c.env))) Q Er _) hf fun y0_ y1_ p f1 f2=>args_cons (h g f1 S q) (starEach_plain p)
noncomputable def pes(T:Tb)(σ:St):List E→Option (List V)
 |[]=>some []
 |e::r=>(pe T σ e).bind fun v=>if v.nl=true then(pes T σ r).map (v:: ·) else none
theorem As'.ps:∀{es vs},pes T σ es=some vs→As' T d es σ (.ok (vs.map (·,none)) σ)
 |[],_,h=>Option.some.inj h▸As'.nil
 |e::es,_,h=>bind_k h fun v e1 e2=>ite_k e2 fun n e2=>map_k e2 fun vs e3 e4=>e4▸As'.cons (Ev.p e1 n) (.inl n) (As'.ps e3)
end
end Mine.Internal
end
section
open PySem PySem.W PySem.Calls PyProof.Rows
namespace Mine.Internal
noncomputable section
variable{T:Tb} {c:Cx} {m:Str→Option Value} {bk bk':Bk} {fr fr' f:Led} {A:Around} {Q Er:Value→Shared→Prop} {s:Shared} {u w a:V} {v:Value} {σ σ' σ1 σ2:St} {d:Nat} {e t i j p:E} {x:Ex} {l:List V} {y:Value} {led:Led} {own:Own} {D:Addr} {loc:List V} {es:List E} {xs ys:List V}
noncomputable def put(k:Nat)(v:V):Pt→Pt
 |[]=>[(k,v)]
 |p::r=>if p.1=k then(k,v)::r else p::put k v r
theorem pe_loc{k:Nat}(h:σ.loc[k]? =some u)(n:isAb u=false):pe T σ (.loc k)=some u:=(congrArg (fun o:Option V=>o.bind _) h).trans (if_pos n)
theorem put_lk{k j:Nat}:∀{P:Pt},(put k u P).lookup j=if j=k then some u else P.lookup j
 |[]=>if q:j=k then by rw[if_pos q,q];exact List.lookup_cons_self else by rw[if_neg q];exact lk_ne q
 |(i,z)::P=>by
  rw[put]
  by_cases q:i=k
  ·subst q;rw[if_pos rfl]
   by_cases r:j=i
   ·rw[if_pos r,r];exact List.lookup_cons_self
   ·rw[if_neg r,lk_ne r,lk_ne r]
  ·rw[if_neg q]
   by_cases r:j=i
   ·subst r;rw[if_neg q,List.lookup_cons_self,List.lookup_cons_self]
   ·rw[lk_ne r,lk_ne r];exact put_lk
theorem put_len{k:Nat}{z:V}:∀{P:Pt},P.lookup k=some z→(put k u P).length=P.length
 |(i,y)::P,h=>by
  rw[put]
  by_cases q:i=k
  ·rw[if_pos q];rfl
  ·rw[if_neg q];exact congrArg Nat.succ (put_len ((lk_ne (Ne.symm q)).symm.trans h))
inductive PlV (σ:St) (xs:List V):E→Prop
 |loc {i:Nat}:σ.loc[i]? =some (.list xs)→PlV σ xs (.loc i)
 |attr {j k:Nat}:σ.loc[j]? =some .self→σ.P.lookup k=some (.list xs)→PlV σ xs (.attr (.loc j) k)
inductive PlR (c:Cx) (m:Str→Option Value) (bk:Bk):Value→E→Prop
 |loc {i:Nat} {v:Value}:(∀{x},c.ns[i]? =some x→m x=some v)→PlR c m bk v (.loc i)
 |attr {e:E} {k:Nat} {D:Addr}:k<1000→bk.ad k=some D→PlR c m bk (.ref D) (.attr e k)
noncomputable def setPl(σ:St)(v:V)(e:E):St:=match e with
 | .loc i=>⟨σ.loc.set i v,σ.P⟩
 | .attr _ k=>⟨σ.loc,put k v σ.P⟩
 |_=>σ
theorem PlR.le(l:bk.le bk')(h:PlR c m bk v p):PlR c m bk' v p:=h.casesOn .loc fun h a=>.attr h (l.ad _ _ a)
theorem place_ok(g:Gd T d c A)(S:SR T c m bk fr s σ){x:Expr}(hf:fit T c.ns c.scope p x=true)(h:PlV σ xs p)(q:∀v t,RB T s.heap bk (.list xs) v→PlR c m bk v p→Q v (tk s t)):Wp T A (eval x c.env) Q Er s:=by
 cases h with
 |loc h=>exact xName_k hf fun y p hn=>loc_ok g.C S (beq_iff_eq.mp hn) h nofun fun v e r=>q v _ r (.loc fun{z}hz=>Option.some.inj (hz.symm.trans (beq_iff_eq.mp hn))▸e)
 |attr h1 h2=>
  refine xAttr_k hf fun o y p f=>beq_iff_eq.mp (and_l (and_l (and_l f)))▸Attribute_any_ (g.pe (pe_loc h1 rfl) (and_r f) S fun v t r=>?_) (congrArg (fun z=>z>>=_) (base_plain (and_r (and_l f))));obtain⟨x,rfl,hx⟩:=r.ofN rfl;have hk:=of_decide_eq_true (and_r (and_l (and_l f)));refine S.alive g.C.X hx hk (fun N I a=>?_) fun e y0_=>no_some (e.symm.trans h2);rw[h2] at a;cases a with|ok pf hg r hat=>
  obtain⟨fp,r,f⟩:=r;obtain⟨D,rfl,had⟩:=hat;exact get_fld S.F g.C.X I (g.K.pf _ pf) hg r.handed (q _ _ ⟨fp,r,fun p hp=>(N p (f p hp).1).1⟩ (.attr hk had))
theorem at_inj{i j:Nat}(h:Tg.at i=Tg.at j):i=j:=by injection h
theorem ParR.upd{P:Pt}{k:Nat}(r:ParR T bk led own P)(h:P.lookup k=some (.list xs))(hk:k<1000)(had:bk.ad k=some D){C:Prop}
  (q:∀{vs n},(D,listOf (List.toArray vs) n)∈led→own D= .at k→As T bk xs vs→xs.length≤SZ→(∀{led' own' ys},(∀t,t≠ .at k→Kp led own led' own' t)→Ow T bk led' own' (.at k) (.list ys) (.ref D)→ParR T bk led' own' (put k (.list ys) P))→C):C:=by
 cases r with
 |un=>exact no_some h
 |dead=>exact no_some ((lk_ne (Nat.ne_of_lt (Nat.lt_trans hk (by decide)))).symm.trans h)
 |@ok P x dx es n e i m w l z a=>
  have h':=(lk_ne (lt_ne hk)).symm.trans h;have ak:=a k;rw[h'] at ak;cases ak with|ok pf hg r hat=>
  obtain⟨b,rfl,hb⟩:=hat;cases had.symm.trans hb;obtain⟨fp,r,ho⟩:=r;cases show LsR T bk xs _ fp from r with|@mk _ vs n' rs z'=>
  have hD:=ho _ (.head _);refine q hD.1 hD.2 rs z' fun{led' own' ys}kp r'=>?_;rw[put,if_neg (Ne.symm (lt_ne hk))];have L:=put_len (u:=.list ys) h';refine .ok e i (kp .par nofun m w).1 (kp .par nofun m w).2 (L▸l) (L▸z) fun j=>?_;rw[put_lk]
  by_cases c:j=k
  ·subst c;rw[if_pos rfl];exact .ok pf hg r' ⟨_,rfl,hb⟩
  ·rw[if_neg c];exact(a j).tr (kp (.at j) fun q=>c (at_inj q))
set_option tactic.hygienic true in
theorem SR.upd(S:SR T c m bk fr s σ)(h:PlV σ xs p)(q:PlR c m bk v p){C:Prop}
  (k:∀{D vs n led},v= .ref D→Fr c.h₀ c.L s.heap m→News c.h₀ c.L s.heap led→As T bk xs vs→xs.length≤SZ→(∀p∈fr,p∈led)→(∀{o'},Upd D (listOf vs.toArray n) o' led (upd led D o'))→
   (∀{ys ws n' h' t},As T bk ys ws→ys.length≤SZ→Fr c.h₀ c.L h' m→News c.h₀ c.L h' (upd led D (listOf ws.toArray n'))→SR T c m bk fr {s with heap:=h',toks:=t} (setPl σ (.list ys) p))→C):C:=by
 obtain⟨⟨Z⟩,sm⟩:=S;rename_i led own;cases h with
 |@loc i h=>
  cases q with|loc q=>
  have hi:i<c.ns.length:=Z.R.len▸(List.getElem?_eq_some_iff.mp h).1;have hx:=List.getElem?_eq_getElem hi;have L:=Z.R.loc hx h;rw[q hx] at L;cases L with|ok r=>
  obtain⟨fp,r,ho⟩:=r;cases show LsR T bk xs v fp from r with|@mk D vs n rs z=>
  have hD:=ho _ (.head _);exact k rfl Z.F Z.N rs z (fun p hp=>(Z.R.frm p hp).1) (Upd.of Z.R.dj hD.1) @fun ys ws n' h' t rs' z' F' N'=>⟨.mk ⟨Z.R.setL (fun t h1 h2=>kp_upd hD.2 h1) (upd_keys.symm▸Z.R.dj) (fun p hp=>kp_upd (t:=.fr) hD.2 nofun (Z.R.frm p hp).1 (Z.R.frm p hp).2) Z.R.frd (fun y0_ y1_=>rfl)
    (fun{x}hx=>q hx▸ .ok ⟨_,LsR.mk rs' z',fun p hp=>(List.mem_singleton.mp hp)▸⟨upd_self hD.1,hD.2⟩⟩),Z.P.tr (fun k=>kp_upd (t:=.at k) hD.2 nofun) (kp_upd (t:=.par) hD.2 nofun),F',N',
    fun{j w x u}a b e=>set_k e (fun e1 e2=>by subst e1 e2;have:=Z.pin a b h;cases w with|none=>exact absurd this Bool.false_ne_true|some=>exact⟨this.1,.inl rfl⟩) fun y0_ e=>Z.pin a b e⟩,sm⟩
 |@attr j kk h1 h2=>
  cases q with|attr hk had=>
  exact Z.P.upd h2 hk had fun{vs n}hD ho rs z up=>k rfl Z.F Z.N rs z (fun p hp=>(Z.R.frm p hp).1) (Upd.of Z.R.dj hD) @fun ys ws n' h' t rs' z' F' N'=>⟨.mk ⟨Z.R.tr (X:=.at kk) (fun t h1=>kp_upd ho h1) nofun nofun nofun (upd_keys.symm▸Z.R.dj),
    up (fun t h1=>kp_upd ho h1) ⟨_,LsR.mk rs' z',fun p hp=>(List.mem_singleton.mp hp)▸⟨upd_self hD,ho⟩⟩,F',N',Z.pin⟩,sm⟩
end
end Mine.Internal
end
section
open PySem PySem.W PySem.Calls PyProof.Rows
namespace Mine.Internal
noncomputable section
variable{T:Tb} {c:Cx} {m:Str→Option Value} {bk bk':Bk} {fr fr' f:Led} {A:Around} {Q Er:Value→Shared→Prop} {s:Shared} {u w a b:V} {v:Value} {σ σ' σ1 σ2:St} {d:Nat} {e t i j p:E} {x:Ex} {l:List V} {y:Value} {led:Led} {own:Own} {D:Addr} {loc:List V} {es:List E} {xs ys:List V}
theorem list_slot{name:Str}{id:String}{pl:Sem Bool}{Q:Value×List Value→Shared→Prop}(r:RB T s.heap bk (.list xs) v)(slot:Slot "list" name id)(hty:typeOf (.builtin id)=pure (.type "method_descriptor"))(h:Q (.builtin id,[v]) s):wpAny (model T.prog T.w) A (getMethod v name pl) Q Er s:=by
 obtain⟨fp,r,hh⟩:=r;cases show LsR T bk xs v fp from r
 have e:=hh _ (.head _);exact getMethod_builtin ⟨_,e,rfl⟩ PySem.F.plainAttrs_list slot hty (fun a q=>by cases q;exact⟨_,e,rfl⟩) h
theorem lm0(g:Gd T d c A){x:Expr}{n:Str}{id:String}(S:SR T c m bk fr s σ)(h0:PlV σ xs p)(hf:(xMeth x fun v y as ks=>ks.isEmpty&&y==n&&fit T c.ns c.scope p v&&as.isEmpty)=true)(slot:Slot "list" n id)(hty:typeOf (.builtin id)=pure (.type "method_descriptor"))
  (q:∀{v t},RB T s.heap bk (.list xs) v→PlR c m bk v p→Wp T A (call (.builtin id) [v]) Q Er (tk s t)):Wp T A (eval x c.env) Q Er s:=
 meth_k hf fun v y as ks pos hp y0_ f=>nil_k (and_l (and_l (and_l f)))▸nil_k (and_r f)▸beq_iff_eq.mp (and_r (and_l (and_l f)))▸place_ok g S (and_r (and_l f)) h0 fun v t r pl y0_=>list_slot (s:=tk s t) r slot hty (callWith_method0 (q r pl))
theorem lm1(g:Gd T d c A){x:Expr}{n:Str}{id:String}{k:Expr→Bool}(S:SR T c m bk fr s σ)(h0:PlV σ xs p)(hf:(xMeth x fun v y as ks=>ks.isEmpty&&y==n&&fit T c.ns c.scope p v&&one1 as k)=true)(slot:Slot "list" n id)(hty:typeOf (.builtin id)=pure (.type "method_descriptor"))
  (q:∀{v t a},k a=true→RB T s.heap bk (.list xs) v→PlR c m bk v p→Wp T A (eval a c.env) (fun w s=>Wp T A (call (.builtin id) [v,w]) Q Er s) Er (tk s t)):Wp T A (eval x c.env) Q Er s:=
 meth_k hf fun v y as ks pos hp y0_ f=>nil_k (and_l (and_l (and_l f)))▸beq_iff_eq.mp (and_r (and_l (and_l f)))▸place_ok g S (and_r (and_l f)) h0 fun v t r pl y0_=>list_slot (s:=tk s t) r slot hty
  (one1_k (C:=fun as=>as.all plainE=true→Wp T A (callWith pos (.builtin id) [v] (backTo pos (starEach as c.env)) _) Q Er _) (and_r f) (fun a ha hp=>bm1 (and_l hp) (q ha r pl)) hp)
theorem Ev.app(h0:PlV σ ys p)(h:Ev T d e σ (.ok u σ'))(h1:PlV σ' xs p)(n:u.nl=true)(z:xs.length<SZ):Ev T d (.app p e) σ (.ok .none (setPl σ' (.list (xs++[u])) p)):=@fun y0_ y1_ g x s m bk fr hf S Q Er q=>
 lm1 g S h0 hf F.slot_list_append F.type_list_append fun{v t a}ha r pl=>h g (s:=tk s t) ha S @fun s1 b1 w1 f1 S1 l1 r1=>S1.drop.upd h1 (pl.le l1) @fun D vs k led ev F N rs z' y0_ U up=>ev▸
  append_K F N U (fun h' F' N'=>q.ok (up (rs.app (.cons ((RX.ofN n).mp r1).1 .nil)) (by rw[List.length_append];exact z) F' (List.push_toArray vs w1▸N')) l1 (show RN T b1 .none .none from rfl)) (szL (n:=vs.length) (rs.len▸z'))
theorem Ev.pop{u:V}(h0:PlV σ (xs++[u]) p):Ev T d (.pop p) σ (.ok u (setPl σ (.list xs) p)):=@fun y0_ y1_ g x s m bk fr hf S Q Er q=>
 lm0 g S h0 hf F.slot_list_pop F.type_list_pop fun{v t}r pl=>SR.upd (s:=tk s t) S h0 pl @fun D vs k led ev F N rs z' y0_ U up=>ev▸by
  obtain⟨a,b,rfl,r1,r2⟩:=As.split rs;obtain⟨w,_,e,r2,r3⟩:=r2;cases(show _=[] from r3);subst e;exact kl_pop F N (p:=a) (y:=w) (kpa_last w a) U (szL (n:=(a++[w]).length) (rs.len▸z')) fun h' F' N'=>q.ok (up r1 (by rw[List.length_append] at z';omega) F' N') (.refl _) r2
theorem Ev.pop0{u:V}(h0:PlV σ (u::xs) p):Ev T d (.pop0 p) σ (.ok u (setPl σ (.list xs) p)):=@fun y0_ y1_ g x s m bk fr hf S Q Er q=>
 lm1 g S h0 hf F.slot_list_pop F.type_list_pop fun{v t a}ha r pl=>xConst_k ha fun k y0_ y1_ hk=>beq_iff_eq.mp hk▸wpAny_Constant_int (SR.upd (s:=tk s (t+1)) S h0 pl @fun D vs k led ev F N rs z' y0_ U up=>ev▸by
  obtain⟨w,vs,e,r2,r3⟩:=rs;subst e;exact kl_popAt (s:=tk s _) (k:=0) (p:=[]) (q:=vs) (y:=w) F N (by decide) (StrLaws.seqIndex_nonneg (by decide) (by simp)) (by simp[kl_cut]) U (szL (n:=vs.length+1) (congrArg (· +1) r3.len▸z'))
   fun h' F' N'=>q.ok (up r3 (Nat.le_of_succ_le z') F' N') (.refl _) r2)
end
end Mine.Internal
end
section
open PySem PySem.W PySem.Calls PyProof.Rows
namespace Mine.Internal
noncomputable section
variable{T:Tb} {c:Cx} {m:Str→Option Value} {bk bk':Bk} {fr fr' f:Led} {A:Around} {Q Er:Value→Shared→Prop} {s:Shared} {u w a b:V} {v:Value} {σ σ' σ1 σ2:St} {d:Nat} {e t i j p:E} {x:Ex} {l:List V} {y:Value} {led:Led} {own:Own} {D:Addr} {loc:List V} {es:List E} {xs ys:List V}
theorem SR.keep(S:SR T c m bk fr s σ){C:Prop}(k:∀led,Fr c.h₀ c.L s.heap m→News c.h₀ c.L s.heap led→(∀{h' tk},Fr c.h₀ c.L h' m→News c.h₀ c.L h' led→SR T c m bk fr {s with heap:=h',toks:=tk} σ)→C):C:=
 S.1.casesOn fun{led own}Z=>k led Z.F Z.N fun{h' tk}F' N'=>⟨.mk ⟨Z.R,Z.P,F',N',Z.pin⟩,S.2⟩
theorem lt_all{h₀ h:Heap}{L:Addr}(N:News h₀ L h led):∀p∈led,p.1<h.objs.size:=fun p hp=>Heap.lt_size (N p hp).1
theorem RX.lst(r:RX T bk (.list xs) v f){C:Value→Led→Prop}(k:∀{a vs n},As T bk xs vs→xs.length≤SZ→C (.ref a) [(a,listOf (List.toArray vs) n)]):C v f:=LsR.casesOn (motive:=fun v f y0_=>C v f) (show LsR T bk xs v f from r) fun a b=>k a b
theorem Ev.ext(h0:PlV σ l p)(h:Ev T d e σ (.ok (.list ys) σ'))(h1:PlV σ' xs p)(z:xs.length+ys.length<SZ):Ev T d (.ext p e) σ (.ok .none (setPl σ' (.list (xs++ys)) p)):=@fun y0_ y1_ g x s m bk fr hf S Q Er q=>
 lm1 g S h0 hf F.slot_list_extend F.type_list_extend fun{v t a}ha r pl=>h g (s:=tk s t) ha S @fun s1 b1 w1 f1 S1 l1 r1=>RX.lst (C:=fun w f=>SR _ _ _ _ (f++_) _ _→Wp _ _ (call _ [_,w]) _ _ _) r1 (fun{b ws n2}rs2 z2 S1=>SR.upd S1 h1 (pl.le l1) @fun D vs k led ev F N rs z' frl U up=>ev▸by
  have hb:(b,listOf ws.toArray n2)∈led:=frl _ (.head _);have l1':=rs.len;have l2':=rs2.len;have zz:vs.length+ws.length≤SZ:=by omega
  have tl:¬(!vs.toArray.isEmpty&&Builtin.List.listTooLong (vs.toArray.size+ws.toArray.size))=true:=fun h=>absurd (of_decide_eq_true (and_r h)) (Nat.not_lt.mpr (szL zz))
  by_cases hz:ws=[]
  ·subst hz;cases ys with
   |cons=>exact absurd l2' (by simp)
   |nil=>
    exact kxn_extend F N hb rfl U tl (szL (n:=vs.length) (by omega)) (Nat.le_succ_of_le (szL zz)) fun h' F' N'=>q.ok (by rw[List.append_nil];exact(up rs z' F' N').drop) l1 (show RN T b1 .none .none from rfl)
  ·exact kl_extend F N hb rfl (fun e=>hz (List.length_eq_zero_iff.mp e)) U tl (szL (n:=vs.length) (by omega)) (Nat.le_succ_of_le (szL zz)) fun h' F' N'=>q.ok (up (rs.app rs2) (by rw[List.length_append];omega) F' N').drop l1 (show RN T b1 .none .none from rfl)) S1
theorem bm2{env:Env}{pos:Pos}{id:String}{a b:Expr}(hp:[a,b].all plainE=true)(h:Wp T A (eval a env) (fun w s₁=>Wp T A (eval b env) (fun z s₂=>Wp T A (call (.builtin id) [v,w,z]) Q Er s₂) Er s₁) Er s):
  Wp T A (callWith pos (.builtin id) [v] (backTo pos (starEach [a,b] env)) (backToKw pos (keywordEach [] env))) Q Er s:=
 callWith_builtin (backTo_any (vs:=[a,b]) hp) (by
  have e1:=starEach_plain (rest:=[b]) (env:=env) (and_l hp);have e2:=starEach_plain (rest:=[]) (env:=env) (and_l (and_r hp));have h:wpAny _ A (spliced (backTo pos (starEach [a,b] env))) (fun ws s₁=>Wp T A (call (.builtin id) (v::ws)) Q Er s₁) Er s:=args_cons (wpAny_mono h (fun y0_ y1_ h=>args_cons (wpAny_mono h (fun y0_ y1_ h=>args_nil h) fun y0_ y1_ x=>x) e2) fun y0_ y1_ x=>x) e1;rw[e1] at h⊢;exact evalArgs_plain h)
theorem Ev.ins{k:Int}(h0:PlV σ l p)(hi:pe T σ i=some (.int k))(h:Ev T d e σ (.ok u σ'))(h1:PlV σ' xs p)(n:u.nl=true)(z:xs.length<SZ)(z1:0≤k)(z2:k.toNat≤xs.length):Ev T d (.ins p i e) σ (.ok .none (setPl σ' (.list (xs.take k.toNat++u::xs.drop k.toNat)) p)):=@fun y0_ y1_ g x s m bk fr hf S Q Er q=>
 meth_k hf fun v y as ks pos hp y0_ f=>nil_k (and_l (and_l (and_l f)))▸beq_iff_eq.mp (and_r (and_l (and_l f)))▸place_ok g S (and_r (and_l f)) h0 fun v t r pl y0_=>list_slot (s:=tk s t) r F.slot_list_insert F.type_list_insert
  (two2_k (C:=fun as=>as.all plainE=true→Wp T _ (callWith pos _ [v] (backTo pos (starEach as _)) _) Q Er _) (and_r f) (fun a b ha hp=>bm2 hp (g.pe (s:=tk s t) hi (and_l ha) S fun vi ti ri=>h g (s:=tk s ti) (and_r ha) S @fun s1 b1 w1 f1 S1 l1 r1=>S1.drop.upd h1 (pl.le l1) @fun D vs k' led ev F N rs z' frl U up=>ev▸by
   obtain⟨tt,rfl⟩:=ri.ofN rfl;have zl:=rs.len;have z63:=sz63 z';exact kl_insert F N (Bool.and_eq_true_iff.mpr ⟨decide_eq_true (by omega),decide_eq_true (by omega)⟩) (show kl_ins vs k w1=vs.take k.toNat++w1::vs.drop k.toNat by rw[kl_ins,if_neg (by omega),Nat.min_eq_left (by omega)]) U (szL (n:=vs.length) (by omega))
    fun h' F' N'=>q.ok (up ((rs.take _).app (.cons ((RX.ofN n).mp r1).1 (rs.drop _))) (by simp;omega) F' N') l1 (show RN T b1 .none .none from rfl))) hp)
end
end Mine.Internal
end
section
open PySem PySem.W PySem.Calls PyProof.Rows
namespace Mine.Internal
noncomputable section
variable{T:Tb} {c:Cx} {m:Str→Option Value} {bk bk':Bk} {fr fr' f:Led} {A:Around} {Q Er:Value→Shared→Prop} {s:Shared} {u w a b:V} {v:Value} {σ σ' σ1 σ2:St} {d:Nat} {e t i j p:E} {x:Ex} {l:List V} {y:Value} {led:Led} {own:Own} {D:Addr} {loc:List V} {es:List E} {xs ys:List V} {vs:Ar}
theorem lin_nl(h:u.lin=true):u.nl=false:=by cases u<;>first|rfl|exact absurd h Bool.false_ne_true
theorem RV.cell(h:u.lin=true)(r:RV T bk u v f){C:Led→Prop}(k:∀D o,C [(D,o)]):C f:=by
 cases u with
 |list=>exact(show LsR T bk _ v f from r).casesOn fun y0_ y1_=>k _ _
 |dict=>exact(show DcR T bk _ v f from r).casesOn fun y0_ y1_ y2_=>k _ _
 |_=>exact absurd h Bool.false_ne_true
theorem lin_ab(h:u.lin=true):u≠ .absent:=fun q=>by subst q;exact absurd h Bool.false_ne_true
theorem mem_fr{p:Addr×Obj}{o:Obj}(e:p=(D,o))(h:(D,o)∈led):p∈led∧own.set D .fr p.1= .fr:=by subst e;exact⟨h,Own.self⟩
theorem ow_any{t:Tg}(h:handedIn v=true):Ow T bk led own t .any v:=⟨[],⟨h,rfl⟩,fun y0_ q=>nomatch q⟩
theorem key_no{X:Tg}(R:Rel T c m bk fr led own loc)(h:own D=X)(n:Tg.fr≠X):D∉fr.map (·.1):=fun q=>by
 obtain⟨p,hp,e⟩:=List.mem_map.mp q;exact tg_ne h n (R.frm p hp).2 e
set_option tactic.hygienic true in
theorem SR.mv(S:SR T c m bk fr s σ){i:Nat}{x:Str}(hx:c.ns[i]? =some x)(hi:σ.loc[i]? =some u)(hu:u.lin=true){C:Prop}(k:∀{v f},m x=some v→RV T bk u v f→SR T c m bk (f++fr) s ⟨σ.loc.set i .any,σ.P⟩→C):C:=by
 obtain⟨⟨Z⟩,sm⟩:=S;rename_i led own;have L:=Z.R.loc hx hi;generalize hm:m x=mx at L;cases L with
 |no=>exact absurd hu Bool.false_ne_true
 |@ok v _ r=>
  obtain⟨f,r,ho⟩:=r;refine k (v:=v) (f:=f) hm r ?_;revert ho;refine r.cell hu (C:=fun f=>(∀p∈f,p∈led∧own p.1= .loc i)→SR T c m bk (f++fr) s ⟨σ.loc.set i .any,σ.P⟩) fun D o ho=>?_;have h1:(D,o)∈led:=(ho _ (.head _)).1;have h2:own D= .loc i:=(ho _ (.head _)).2;have kp:∀t,t≠ .loc i→Kp led own led (own.set D .fr) t:=fun t n=>kp_set h2 n;have frd:((((D,o)::fr):Led).map (·.1)).Nodup:=List.nodup_cons.mpr ⟨key_no Z.R h2 nofun,Z.R.frd⟩;have frm:∀p∈(((D,o)::fr):Led),p∈led∧own.set D .fr p.1= .fr:=fun p hp=>(List.mem_cons.mp hp).elim (fun e=>mem_fr e h1) fun hp=>kp .fr nofun (Z.R.frm p hp).1 (Z.R.frm p hp).2;have hL:∀{y},c.ns[i]? =some y→LocR T bk led (own.set D .fr) (.loc i) (m y) .any:=fun hy=>by cases hx.symm.trans hy;rw[hm];exact .ok (ow_any r.handed)
  have R:=Z.R.setL (u:=.any) (m':=m) (fun t h1 y0_=>kp t h1) Z.R.dj frm frd (fun y0_ y1_=>rfl) hL;exact⟨.mk (w:=own.set D .fr) ⟨R,Z.P.tr (fun k=>kp (.at k) nofun) (kp .par nofun),Z.F,Z.N,
    fun{j w x u}a b e=>set_k e (fun e1 e2=>by subst e1 e2;have:=Z.pin a b hi;cases w with|none=>exact absurd (this.symm.trans (lin_nl hu)) nofun|some=>exact⟨this.1,.inr rfl⟩) fun y0_ e=>Z.pin a b e⟩,sm⟩
theorem Ev.mv{i:Nat}(h:σ.loc[i]? =some u)(n:u.lin=true):Ev T d (.loc i) σ (.ok u ⟨σ.loc.set i .any,σ.P⟩):=@fun y0_ y1_ g x s m bk fr hf S Q Er q=>xName_k hf fun y p hn=>
 have hn:=beq_iff_eq.mp hn
 loc_ok g.C S hn h (lin_ab n) fun v e y0_=>S.mv hn h n fun{w f}e' r S'=>Option.some.inj (e'.symm.trans e)▸q S' (.refl _) r.rx
theorem RVs.ofN{vs:List Value}(n:xs.all V.nl=true)(r:RVs T bk xs vs f):As T bk xs vs∧f=[]:=
 r.rec (motive:=fun xs vs f y0_=>xs.all V.nl=true→As T bk xs vs∧f=[]) (fun y0_=>⟨.nil,rfl⟩) (fun h y0_ ih n=>let a:=(RV.ofN (and_l n)).mp h;let b:=ih (and_r n);⟨.cons a.1 b.1,by rw[a.2,b.2];rfl⟩) n
theorem Ev.tup(h:As' T d es σ (.ok vs σ'))(n:(vs.map (·.1)).all V.nl=true)(z:vs.length≤SZ):Ev T d (.tup es) σ (.ok (.tup (vs.map (·.1))) σ'):=@fun y0_ y1_ g x s m bk fr hf S Q Er q=>xTup_k hf fun as y0_ p f=>
 Tuple_ (h g (and_l f) S @fun s1 b1 pv fp S1 l1 r j=>S1.drop.allocI fun led F N k=>have⟨r,e⟩:=r.ofN n
  have z:=(List.length_map (as:=vs) (·.1)).symm▸z
  newTuple_N F N (fun h' F' N'=>q.ok (k F' N' (lt_all N)) (l1.trans (b1.le_add _ _)) ⟨z,_,.of (r.imp (RN.mono (b1.le_add _ _))),.mk (.head _)⟩) (szL (n:=pv.length) (r.len▸z)))
theorem Ev.ltup(h:As' T d es σ (.ok vs σ'))(z:vs.length≤SZ):Ev T d (.tup es) σ (.ok (.ltup (vs.map (·.1))) σ'):=@fun y0_ y1_ g x s m bk fr hf S Q Er q=>xTup_k hf fun as y0_ p f=>
 Tuple_ (h g (and_l f) S @fun s1 b1 pv fp S1 l1 r j=>S1.allocI fun led F N k=>
  newTuple_N F N (fun h' F' N'=>q (k F' N' (lt_all N)) (l1.trans (b1.le_add _ _)) (LtR.mk (.head _) (r.mono (b1.le_add _ _)))) (szL (n:=pv.length) (r.len▸(List.length_map (as:=vs) (·.1)).symm▸z)))
theorem Ev.lst(h:As' T d es σ (.ok vs σ'))(n:(vs.map (·.1)).all V.nl=true)(z:vs.length≤SZ):Ev T d (.lst es) σ (.ok (.list (vs.map (·.1))) σ'):=@fun y0_ y1_ g x s m bk fr hf S Q Er q=>xLst_k hf fun as p f=>
 List_ (h g (and_l f) S @fun s1 b1 pv fp S1 l1 r j=>S1.drop.allocF fun led F N k=>have⟨r,e⟩:=r.ofN n
  have z:=(List.length_map (as:=vs) (·.1)).symm▸z
  newList_N F N (fun h' F' N'=>q (fp:=[_]) (k F' N' (lt_all N)) l1 (LsR.mk (n:=0) r z)) (szL (n:=pv.length) (r.len▸z)))
theorem xDic_k{x:Expr}{C:Expr→Prop}(h:xDic x=true)(k:∀p,C (.Dict [] [] p)):C x:=xDict_k h fun y0_ y1_ p h=>nil_k (and_l h)▸nil_k (and_r h)▸k p
theorem Ev.dic:Ev T d .dic σ (.ok (.dict []) σ):=@fun c y0_ g x s m bk fr hf S Q Er q=>xDic_k (C:=fun x=>Wp _ _ (eval x _) _ _ _) hf fun p=>S.allocF fun led F N k=>
 have lo:=modules_low g.C.Tp.nolimit
 Dict_empty_made2 F N lo fun h' o F' N' y0_ ho y1_ y2_ y3_ y4_=>q (fp:=[_]) (k F' N' (lt_all N)) (.refl _) (DcR.mk (Nat.lt_trans (show 1<c.h₀.objs.size from lo) (Nat.lt_of_le_of_lt F.above F.ns.lt)) (.s ho .nil) (Nat.zero_le _))
theorem Ev.meth{f k:Nat}(h:σ.loc[0]? =some .self)(ha:(σ.P.lookup 1000).isSome=true):Ev T d (.meth f k) σ (.ok (.meth f) σ):=@fun y0_ y1_ g x s m bk fr hf S Q Er q=>xAttr_k hf fun v y p f=>xName_k (and_r f) fun z p' hz=>by
 have hk:=of_decide_eq_true (and_r (and_l (and_l f)));have hm:=g.K.ms _ _ (List.contains_iff_mem.mp (and_r (and_l f)));rw[beq_iff_eq.mp (and_l (and_l (and_l f)))];refine Attribute_any_ (loc_ok g.C S (beq_iff_eq.mp hz) h nofun fun v y0_ r=>?_) rfl;obtain⟨x,rfl,hx⟩:=r.ofN rfl;refine S.alive g.C.X hx hk (fun N I a=>?_) fun y0_ e=>by rw[e] at ha;exact absurd ha Bool.false_ne_true
 have hn:=a.notin hm.pf;exact S.allocI fun led F N k=>kbm_bound F g.C.X N I hm.pg hm.hs hm.fi hm.fn hm.sp hm.tk hm.cp hn fun o h' F' N' lt=>q.ok (k F' N' lt) (bk.le_add _ _) (.mk hx (.head _))
end
end Mine.Internal
end
section
open PySem PySem.W PySem.Calls PyProof.Rows
namespace Mine.Internal
noncomputable section
variable{T:Tb} {c:Cx} {m:Str→Option Value} {bk bk':Bk} {fr fr' f:Led} {A:Around} {Q Er:Value→Shared→Prop} {s:Shared} {u w a b:V} {v:Value} {σ σ' σ1 σ2:St} {d:Nat} {e t i j p:E} {x:Ex} {l:List V} {y:Value} {led:Led} {own:Own} {D:Addr} {loc:List V} {es:List E} {xs ys:List V} {vs:Ar}
theorem slice_min(s:List Nat)(i j:Nat):(s.drop (min i s.length)).take (min j s.length-min i s.length)=(s.drop i).take (j-i):=by
 by_cases hi:s.length≤i
 ·rw[Nat.min_eq_right hi,List.drop_length,List.drop_of_length_le hi,List.take_nil,List.take_nil]
 ·rw[Nat.min_eq_left (Nat.le_of_lt (Nat.not_le.mp hi))]
  by_cases hj:s.length≤j
  ·rw[Nat.min_eq_right hj,List.take_of_length_le (by rw[List.length_drop];omega),List.take_of_length_le (by rw[List.length_drop];omega)]
  ·rw[Nat.min_eq_left (Nat.le_of_lt (Nat.not_le.mp hj))]
theorem nat_ge(n:Nat):((n:Int)<0)=False:=eq_false (Int.not_lt.mpr (Int.natCast_nonneg n))
theorem clip_min(i n:Nat):max (0:Int) (min (i:Int) n)=max 0 (min ((min i n:Nat):Int) n):=by
 by_cases h:i≤n
 ·rw[Nat.min_eq_left h]
 ·have h:=Nat.le_of_lt (Nat.not_le.mp h);rw[Nat.min_eq_right h,Int.min_eq_right (Int.ofNat_le.mpr h),Int.min_self]
theorem txt_slice(s:List Nat)(i j:Nat)(h1:i≤j):Txt.slice ⟨s.toArray⟩ (some (i:Int)) (some (j:Int))=⟨((s.drop i).take (j-i)).toArray⟩:=by
 have e1:Builtin.Str.strSliceIndices (some (i:Int)) (some (j:Int)) 1 s.length=Builtin.Str.strSliceIndices (some ((min i s.length:Nat):Int)) (some ((min j s.length:Nat):Int)) 1 s.length:=by
  unfold Builtin.Str.strSliceIndices;simp only[nat_ge,if_false,show((1:Int)>0)=True from by simp,if_true];rw[clip_min i s.length,clip_min j s.length]
 have e2:Txt.slice ⟨s.toArray⟩ (some (i:Int)) (some (j:Int))=StrLaws.sliceText ⟨s.toArray⟩ (some ((min i s.length:Nat):Int)) (some ((min j s.length:Nat):Int)):=by
  unfold Txt.slice StrLaws.sliceText;rw[str_len,e1]
 rw[e2,StrLaws.sliceText_nat _ (by omega) (by rw[str_len];omega)];exact congrArg (fun l:List Nat=>(⟨l.toArray⟩:Str)) (slice_min s i j)
theorem letGo_str{value:Expr}{x:Str}{t:Tok}(r:Value):letTemporaryGo value (.str x t) r=pure ():=by cases value<;>rfl
theorem xSlice_k{x:Expr}{k:Expr→Expr→Bool}{C:Expr→Prop}(h:xSlice x k=true)(q:∀l u p,k l u=true→C (.Slice (some l) (some u) none p)):C x:=
 xSl_k h fun a b c p h=>some1_k (C:=fun a=>C (.Slice a b c p)) h fun l h=>some1_k (C:=fun b=>C (.Slice (some l) b c p)) h fun u h=>none_of (and_l h)▸q l u p (and_r h)
theorem Ev.slice{z:List Nat}{n k:Nat}(h:pe T σ e=some (.str z))(h1:pe T σ i=some (.int n))(h2:pe T σ j=some (.int k))(c1:n≤k)(c2:z.length≤SZ):Ev T d (.slice e i j) σ (.ok (.str ((z.drop n).take (k-n))) σ):=@fun c y0_ g x s m bk fr hf S Q Er q=>xSub_k hf fun o y p f=>
 xSlice_k (C:=fun y=>Wp T _ (eval (.Subscript o y p) _) Q Er s) f fun a b y0_ f=>Subscript_ (g.pe h (and_l f) S fun v t r=>wpAny_Slice (evalPart_some_step (g.pe (s:=tk s t) h1 (and_l (and_r f)) S fun v1 t1 r1=>evalPart_some_step (g.pe (s:=tk s t1) h2 (and_r (and_r f)) S fun v2 t2 r2=>evalPart_none_step (by
  obtain⟨_,rfl,-⟩:=r.ofN rfl;obtain⟨_,rfl⟩:=r1.ofN rfl;obtain⟨_,rfl⟩:=r2.ofN rfl;exact S.keep fun led F N k=>slice_strN_ss (s:=tk s t2) F N (fun h' t' tk F' N'=>q.ok (k F' N') (.refl _) ⟨t',by rw[txt_slice _ _ _ c1],Nat.le_trans (List.length_take_le' ..) (Nat.le_trans (by rw[List.length_drop];omega) c2)⟩) rfl letGo_str (szL c2))))))
theorem rns_values:∀{l:List (Str×Tok)}{ws:List (List Nat)},l.map (·.1)=ws.map (fun w=>(⟨w.toArray⟩:Str))→(∀w∈ws,w.length≤SZ)→As T bk (ws.map .str) (strValues l)
 |[],[],_,_=>.nil
 |p::l,w::ws,h,hs=>.cons ⟨p.2,congrArg (Value.str · p.2) (List.cons.inj h).1,hs w (.head _)⟩ (rns_values (List.cons.inj h).2 fun w hw=>hs w (.tail _ hw))
theorem Ev.split{z:List Nat}{ws:List (List Nat)}(h:pe T σ e=some (.str z))(h1:T.sp.lookup z=some ws):Ev T d (.split e) σ (.ok (.list (ws.map .str)) σ):=@fun y0_ y1_ g x s m bk fr hf S Q Er q=>
 meth_k hf fun v y as ks pos hp y0_ f=>nil_k (and_l (and_l (and_l f)))▸beq_iff_eq.mp (and_r (and_l (and_l f)))▸g.pe h (and_r (and_l f)) S fun v t r pl=>by
  obtain⟨_,rfl,-⟩:=r.ofN rfl
  with_reducible refine GM.split ?_
  revert hp;refine one1_k (C:=fun as=>as.all plainE=true→Wp T _ (callWith pos _ _ (backTo pos (starEach as _)) _) Q Er _) (and_r f) fun a ha hp=>bm1 (and_l hp) (xConst_k ha fun k y0_ y1_ hk=>beq_iff_eq.mp hk▸wpAny_Constant_str ?_);have k:=g.K.sp _ _ h1;exact S.allocF fun led F N q'=>KSpl.split1 (s:=tk s _) F N rfl (fun D l h' tk e1 e2 F' N' lt=>q (fp:=[_]) (q' F' N' lt) (.refl _) (LsR.mk (n:=0) (rns_values (e1.trans k.e) k.z) (by rw[List.length_map];exact k.w))) (by rw[str_len];exact k.l)
end
end Mine.Internal
end
section
open PySem PySem.W PySem.Calls PyProof.Rows
namespace Mine.Internal
noncomputable section
variable{T:Tb} {c:Cx} {m:Str→Option Value} {bk bk':Bk} {fr fr' f:Led} {A:Around} {Q Er:Value→Shared→Prop} {s:Shared} {u w a b:V} {v:Value} {σ σ' σ1 σ2:St} {d:Nat} {e t i j p:E} {x:Ex} {l:List V} {y:Value} {led:Led} {own:Own} {D:Addr} {loc:List V} {es:List E} {xs ys:List V} {vs:Ar}
noncomputable def intK:V→Bool| .int _=>true|_=>false
theorem keys_as:∀{es:List (V×V)}{kvs:List (Int×Value)}{vs:List Value},All2 (KV T bk) es (kvs.map fun p=>(.int p.1,p.2))→vs.length=kvs.length→(∀(j:Nat)(u:Value),vs[j]? =some u→∃k x,kvs[j]? =some (k,x)∧Value.isInt k u=true)→As T bk (es.map (·.1)) vs
 |[],[],vs,_,h,_=>List.length_eq_zero_iff.mp h
 |[],_::_,_,h,_,_=>nomatch (show _=[] from h)
 |_::_,[],_,h,_,_=>by obtain⟨_,_,h,-⟩:=h;exact nomatch h
 |p::es,q::kvs,[],h,n,_=>nomatch n
 |p::es,q::kvs,v::vs,h,n,k=>by
  obtain⟨_,_,e,⟨e1,-⟩,h⟩:=h;obtain⟨rfl,rfl⟩:=List.cons.inj e;obtain⟨k0,x,e2,e3⟩:=k 0 v rfl;cases e2;obtain⟨t,rfl⟩:=Value.isInt_shape e3;exact .cons (show RN T bk p.1 (.int k0 t) from(show V.int k0=p.1 from e1)▸(⟨t,rfl⟩:RN T bk (.int k0) _)) (keys_as h (Nat.succ.inj n) fun j=>k (j+1))
theorem blt_list:bootBuiltins "list"=some (.type "list"):=by decide+kernel
theorem Ev.keys{es:List (V×V)}(h:pe T σ e=some (.dict es))(n:es.all (fun p=>intK p.1)=true):Ev T d (.keys e) σ (.ok (.list (es.map (·.1))) σ):=@fun c A g x s m bk fr hf S Q Er q=>
 xCall_k hf fun f as ks p h'=>nil_k (and_l h')▸xName_k (and_l (and_r h')) fun y p' gl=>beq_iff_eq.mp (and_l gl)▸one1_k (and_r (and_r h')) fun a ha=>
  Call_Name1 (blt_ok g.K.toTbOK g.C S (by simp) (beq_iff_eq.mp (and_l gl)▸and_r gl) blt_list (by decide) (PySem.callWith_type1 (g.pe h (and_r ha) S fun v t r=>RB.dct (S.hv g.C.X) rfl r fun a o lo hg D z=>by
   have zl:∀{n:Nat},n=es.length→n≤SZ:=fun e=>Nat.le_trans (e▸z) (show 200≤SZ by decide);have hl:(es.map (·.1)).length≤SZ:=zl (List.length_map ..);cases D with
   |@i kvs hd hr=>
    have hk:kvs.length=es.length:=(List.length_map (as:=kvs) _).symm.trans hr.len;obtain⟨ep,hat⟩:=(Heap.dictOf_iff.mpr ⟨o,hg,hd⟩).dictAt;exact SR.allocF (s:=tk s t) S fun led F N k=>kdl_N (kdl_dict (knd:=intKind T.prog T.w) (kvs:=kvs) (ep:=ep) (dict_ne lo)) g.A.handled F N hat (szL (zl hk)) fun B cc h' tk vs F' N' l1 hl' hv=>q (fp:=[_]) (k F' N' l1) (.refl _) (LsR.mk (n:=cc) (keys_as hr hl' hv) hl)
   |@s kvs hd hr=>
    cases es with
    |cons=>obtain⟨_,_,e,⟨e1,-⟩,-⟩:=hr;cases kvs with
     |nil=>exact nomatch e
     |cons=>obtain⟨rfl,-⟩:=List.cons.inj e;exact absurd ((congrArg intK e1).trans (and_l n)) nofun
    |nil=>
     obtain rfl:=List.map_eq_nil_iff.mp (show _=[] from hr);obtain⟨ep,hat⟩:=(Heap.dictOf_iff.mpr ⟨o,hg,hd⟩).dictAt;exact SR.allocF (s:=tk s t) S fun led F N k=>kdl_N (kdl_dict (knd:=PySem.strKind T.prog T.w) (kvs:=[]) (ep:=ep) (dict_ne lo)) g.A.handled F N hat (Nat.zero_le _) fun B cc h' tk vs F' N' l1 hl' hv=>q (fp:=[_]) (k F' N' l1) (.refl _) (LsR.mk (n:=cc) (List.length_eq_zero_iff.mp hl') hl)))) (starEach_plain (and_l ha))
theorem Ev.cat(h:Ev T d e σ (.ok (.list xs) σ1))(h1:Ev T d t σ1 (.ok (.list ys) σ'))(z:xs.length+ys.length≤SZ):Ev T d (.cat e t) σ (.ok (.list (xs++ys)) σ'):=@fun y0_ y1_ g x s m bk fr hf S Q Er q=>xBin_k hf fun l o y p f=>beq_iff_eq.mp (and_l f)▸
 wpAny_BinOp (h g (and_l (and_r f)) S @fun s1 b1 v1 f1 S1 l1 r1=>h1 g (and_r (and_r f)) S1 @fun s2 b2 v2 f2 S2 l2 r2=>by
  have H:=S2.fresh;have S3:=S2.drop.drop;revert H;refine RX.lst (C:=fun v1 f1=>(∀p∈f2++(f1++fr),s2.heap.get? p.1=some p.2)→Wp T _ (binaryOp .Add v1 v2) Q Er s2) r1 fun{a vs n}rs y0_=>?_;refine RX.lst (C:=fun v2 f2=>(∀p∈f2++([(a,listOf vs.toArray n)]++fr),s2.heap.get? p.1=some p.2)→Wp T _ (binaryOp .Add _ v2) Q Er s2) r2 fun{b ws k}rs2 y0_ H=>?_;have e1:=rs.len;have e2:=rs2.len;exact S3.allocF fun led F N k'=>add_lists F N (isList_of (n:=n) (H (a,_) (.tail _ (.head _)))) (isList_of (n:=k) (H (b,_) (.head _))) (fun h' F' N'=>q (fp:=[_]) (k' F' N' (lt_all N)) (l1.trans l2) (LsR.mk (n:=0) ((rs.imp (RN.mono l2)).app rs2) (by rw[List.length_append];exact z))) (szL (n:=vs.length+ws.length) (by omega)))
theorem blt_max:bootBuiltins "max"=some (.builtin "max"):=by decide+kernel
theorem blt_min:bootBuiltins "min"=some (.builtin "min"):=by decide+kernel
theorem max_eq(a b:Int):(if b>a then b else a)=Max.max a b:=by split<;>omega
theorem min_eq(a b:Int):(if b<a then b else a)=Min.min a b:=by split<;>omega
theorem Ev.max{a b:Int}(h:Ev T d e σ (.ok (.int a) σ1))(h1:Ev T d t σ1 (.ok (.int b) σ')):Ev T d (.max e t) σ (.ok (.int (Max.max a b)) σ'):=@fun y0_ y1_ g x s m bk fr hf S Q Er q=>
 fn2_k g.K.toTbOK g.C S hf (by simp) blt_max (by decide) fun e f hy=>h g (and_l hy) S @fun s1 b1 v1 f1 S1 l1 r1=>h1 g (and_r hy) S1 @fun s2 b2 v2 f2 S2 l2 r2=>by
  obtain⟨⟨t1,rfl⟩,rfl⟩:=r1;obtain⟨⟨t2,rfl⟩,rfl⟩:=r2;exact SR.keep (fr:=fr) S2 fun led F N k=>max_two_N g.A.handled F N fun h' tk F' N'=>q.ok (k F' N') (l1.trans l2) ⟨_,congrArg (Value.int · _) (max_eq a b)⟩
theorem Ev.min{a b:Int}(h:Ev T d e σ (.ok (.int a) σ1))(h1:Ev T d t σ1 (.ok (.int b) σ')):Ev T d (.min e t) σ (.ok (.int (Min.min a b)) σ'):=@fun y0_ y1_ g x s m bk fr hf S Q Er q=>
 fn2_k g.K.toTbOK g.C S hf (by simp) blt_min (by decide) fun e f hy=>h g (and_l hy) S @fun s1 b1 v1 f1 S1 l1 r1=>h1 g (and_r hy) S1 @fun s2 b2 v2 f2 S2 l2 r2=>by
  obtain⟨⟨t1,rfl⟩,rfl⟩:=r1;obtain⟨⟨t2,rfl⟩,rfl⟩:=r2;exact SR.keep (fr:=fr) S2 fun led F N k=>min_two_N g.A.handled F N fun h' tk F' N'=>q.ok (k F' N') (l1.trans l2) ⟨_,congrArg (Value.int · _) (min_eq a b)⟩
theorem Ev.bin{op:Bo}(h:Ev T d e σ (.ok u σ1))(h1:Ev T d t σ1 (.ok w σ'))(n:u.nl=true)(n1:w.nl=true)(h2:binV op u w=some a):Ev T d (.bin op e t) σ (.ok a σ'):=@fun y0_ y1_ g x s m bk fr hf S Q Er q=>xBin_k hf fun l o y p f=>beq_iff_eq.mp (and_l f)▸
 wpAny_BinOp (h g (and_l (and_r f)) S @fun s1 b1 v1 f1 S1 l1 r1=>h1 g (and_r (and_r f)) S1 @fun s2 b2 v2 f2 S2 l2 r2=>bin_ok h2 (((RX.ofN n).mp r1).1.mono l2) ((RX.ofN n1).mp r2).1 fun v t r=>q.ok (s:=tk s2 t) S2.drop.drop (l1.trans l2) r)
theorem sub_nt{us:List V}{i r:V}(h:subV (.ltup us) i=some r):False:=no_some h
theorem Ev.sub(h:Ev T d e σ (.ok u σ'))(h1:pe T σ' t=some w)(n:w.nl=true)(h2:subV u w=some a):Ev T d (.sub e t) σ (.ok a σ'):=@fun y0_ y1_ g x s m bk fr hf S Q Er q=>xSub_k hf fun o y p f=>
 Subscript_ (h g (and_l (and_r f)) S @fun s1 b1 v1 f1 S1 l1 r1=>g.pe h1 (and_r (and_r f)) S1 fun v t r=>sub_ok (s:=tk s1 t) h2 (noSlice_plain (and_l f)) (S1.hv g.C.X) (r1.rb (fun us z=>sub_nt (z▸h2)) S1) (r.ofN n) fun v t r=>q.ok (s:=tk s1 t) S1.drop l1 r)
noncomputable def VL(T:Tb)(d:Nat)(o:BoolOp)(es:List E)(σ:St)(r:R V):Prop:=∀{c A},Gd T d c A→∀{vs p s m bk fr},fits T c.ns c.scope es vs=true→SR T c m bk fr s σ→∀{Q Er},EvP T c m bk fr r Q Er→Wp T A (eval (.BoolOp o vs p) c.env) Q Er s
theorem Ev.or{r:R V}(h:VL T d .Or es σ r):Ev T d (.or es) σ r:=@fun y0_ y1_ g x s m bk fr hf S Q Er q=>xBool_k hf fun o vs p f=>beq_iff_eq.mp (and_l f)▸h g (and_r f) S q
theorem Ev.and{r:R V}(h:VL T d .And es σ r):Ev T d (.and es) σ r:=@fun y0_ y1_ g x s m bk fr hf S Q Er q=>xBool_k hf fun o vs p f=>beq_iff_eq.mp (and_l f)▸h g (and_r f) S q
theorem VL.one{o:BoolOp}{r:R V}(h:Ev T d e σ r):VL T d o [e] σ r:=@fun c A g vs p s m bk fr hf S Q Er q=>fits_k (C:=fun vs=>Wp T A (eval (.BoolOp o vs p) c.env) Q Er s) hf fun y0_ y1_ y2_ f1 f2=>nil_k f2▸BoolOp_one (h g f1 S q)
theorem VL.orF{r:R V}(h:Ev T d e σ (.ok u σ'))(n:u.nl=true)(h1:truthV u=some false)(k:VL T d .Or (t::es) σ' r):VL T d .Or (e::t::es) σ r:=@fun c A g vs p s m bk fr hf S Q Er q=>fits_k (C:=fun vs=>Wp T A (eval (.BoolOp .Or vs p) c.env) Q Er s) hf fun y0_ y1_ y2_ f1 f2=>by
 refine fits_k (C:=fun vs=>fits T c.ns c.scope (t::es) vs=true→Wp T A (eval (.BoolOp .Or (_::vs) p) c.env) Q Er s) f2 (fun y0_ y1_ p1 f3 f4 f2=>BoolOp_or (h g f1 S @fun s1 b1 v1 fp1 S1 l1 r1=>tru_ok h1 (S1.hv g.C.X) (((RX.ofN n).mp r1).1.rb n) fun t=>k g (s:=tk s1 t) f2 S1.drop (q.le l1))) f2
theorem VL.orT(h:Ev T d e σ (.ok u σ'))(n:u.nl=true)(h1:truthV u=some true):VL T d .Or (e::t::es) σ (.ok u σ'):=@fun c A g vs p s m bk fr hf S Q Er q=>fits_k (C:=fun vs=>Wp T A (eval (.BoolOp .Or vs p) c.env) Q Er s) hf fun y0_ y1_ y2_ f1 f2=>by
 refine fits_k (C:=fun vs=>Wp T A (eval (.BoolOp .Or (_::vs) p) c.env) Q Er s) f2 fun y0_ y1_ p1 f3 f4=>BoolOp_or (h g f1 S @fun s1 b1 v1 fp1 S1 l1 r1=>tru_ok h1 (S1.hv g.C.X) (((RX.ofN n).mp r1).1.rb n) fun t=>q.ok (s:=tk s1 t) S1.drop l1 ((RX.ofN n).mp r1).1)
theorem VL.andT{r:R V}(h:Ev T d e σ (.ok u σ'))(n:u.nl=true)(h1:truthV u=some true)(k:VL T d .And (t::es) σ' r):VL T d .And (e::t::es) σ r:=@fun c A g vs p s m bk fr hf S Q Er q=>fits_k (C:=fun vs=>Wp T A (eval (.BoolOp .And vs p) c.env) Q Er s) hf fun y0_ y1_ y2_ f1 f2=>by
 refine fits_k (C:=fun vs=>fits T c.ns c.scope (t::es) vs=true→Wp T A (eval (.BoolOp .And (_::vs) p) c.env) Q Er s) f2 (fun y0_ y1_ p1 f3 f4 f2=>BoolOp_and (h g f1 S @fun s1 b1 v1 fp1 S1 l1 r1=>tru_ok h1 (S1.hv g.C.X) (((RX.ofN n).mp r1).1.rb n) fun t=>k g (s:=tk s1 t) f2 S1.drop (q.le l1))) f2
theorem VL.andF(h:Ev T d e σ (.ok u σ'))(n:u.nl=true)(h1:truthV u=some false):VL T d .And (e::t::es) σ (.ok u σ'):=@fun c A g vs p s m bk fr hf S Q Er q=>fits_k (C:=fun vs=>Wp T A (eval (.BoolOp .And vs p) c.env) Q Er s) hf fun y0_ y1_ y2_ f1 f2=>by
 refine fits_k (C:=fun vs=>Wp T A (eval (.BoolOp .And (_::vs) p) c.env) Q Er s) f2 fun y0_ y1_ p1 f3 f4=>BoolOp_and (h g f1 S @fun s1 b1 v1 fp1 S1 l1 r1=>tru_ok h1 (S1.hv g.C.X) (((RX.ofN n).mp r1).1.rb n) fun t=>q.ok (s:=tk s1 t) S1.drop l1 ((RX.ofN n).mp r1).1)
theorem Ev.ite{r:R V}{b:Bool}(h:Tr T d e σ (.ok b σ'))(k:Ev T d (if b then t else i) σ' r):Ev T d (.ite e t i) σ r:=@fun c A g x s m bk fr hf S Q Er q=>xIf_k hf fun y0_ y1_ y2_ p f=>IfExp_ (h g (and_l f) S @fun s1 b1 S1 l1=>by
 cases b with
 |true=>exact k g (and_l (and_r f)) S1 (q.le l1)
 |false=>exact k g (and_r (and_r f)) S1 (q.le l1))
end
end Mine.Internal
end
section
open PySem PySem.W PySem.Calls PyProof.Rows
namespace Mine.Internal
noncomputable section
variable{T:Tb} {c:Cx} {m m' m2:Str→Option Value} {bk bk' bk2:Bk} {fr fr' frc f fp fv:Led} {A:Around} {Q Er:Value→Shared→Prop} {s s2:Shared} {u w a b:V} {v:Value} {σ σ' σ1 σ2:St} {d:Nat} {e t i j p:E} {x:Ex} {l:List V} {y:Value} {led led2:Led} {own own2:Own} {D:Addr} {loc loc2:List V} {es:List E} {xs ys:List V} {vs:Ar} {vals:List Value} {P P2:Pt} {g h h2:Heap} {L':Addr} {n:Nat} {τ:Addr→Option Nat} {a':Tg}
noncomputable def Tau(T:Tb)(bk:Bk)(xs:List V)(vals:List Value)(fp:Led)(τ:Addr→Option Nat):Prop:=
 (∀{i:Nat}{u v},xs[i]? =some u→vals[i]? =some v→∃f,RV T bk u v f∧∀p∈f,p∈fp∧τ p.1=some i)∧∀{a},a∉fp.map (·.1)→τ a=none
open Classical in
theorem RVs.tau(r:RVs T bk xs vals fp):(fp.map (·.1)).Nodup→∃τ,Tau T bk xs vals fp τ:=
 r.rec (motive:=fun xs vals fp y0_=>(fp.map (·.1)).Nodup→∃τ,Tau T bk xs vals fp τ) (fun y0_=>⟨fun y0_=>none,fun h=>no_some h,fun y0_=>rfl⟩) fun{u v us vs f g}h y0_ ih n=>by
  rw[List.map_append] at n;obtain⟨n1,n2,n3⟩:=List.nodup_append.mp n;obtain⟨τ,h1,h2⟩:=ih n2;refine⟨fun a=>if a∈f.map (·.1) then some 0 else(τ a).map Nat.succ,?_,?_⟩
  ·intro i;cases i with
   |zero=>exact fun e1 e2=>⟨f,Option.some.inj e1▸Option.some.inj e2▸h,fun p hp=>⟨List.mem_append_left _ hp,if_pos (List.mem_map_of_mem hp)⟩⟩
   |succ i=>
    intro u v e1 e2;obtain⟨f',r,k⟩:=h1 (i:=i) e1 e2;exact⟨f',r,fun p hp=>⟨List.mem_append_right _ (k p hp).1,(if_neg fun q=>n3 _ q _ (List.mem_map_of_mem (k p hp).1) rfl).trans (congrArg (Option.map Nat.succ) (k p hp).2)⟩⟩
  ·intro a ha;rw[List.map_append] at ha;exact(if_neg fun q=>ha (List.mem_append_left _ q)).trans (congrArg (Option.map Nat.succ) (h2 fun q=>ha (List.mem_append_right _ q)))
noncomputable def Own.inn(own:Own)(τ:Addr→Option Nat):Own:=fun a=>match own a with
 | .loc _=>.fr
 | .fr=>(match τ a with|some i=>.loc i|none=>.fr)
 | .out _=>.no
 |t=>t
open Classical in
noncomputable def Own.back(own own2:Own)(fv:Led):Own:=fun a=>if a∈fv.map (·.1) then .fr else match own2 a with
 | .fr=>own a
 | .loc i=>.out i
 |t=>t
open Classical in
noncomputable def frIn(led:Led)(own:Own):Led:=led.filter fun p=>decide (own p.1= .fr)
open Classical in
theorem mem_frIn{p:Addr×Obj}(h:p∈led)(e:own p.1= .fr):p∈frIn led own:=List.mem_filter.mpr ⟨h,decide_eq_true e⟩
open Classical in
theorem frIn_spec{p:Addr×Obj}(h:p∈frIn led own):p∈led∧own p.1= .fr:=⟨(List.mem_filter.mp h).1,of_decide_eq_true (List.mem_filter.mp h).2⟩
noncomputable def keepT:Tg→Bool| .im| .par| .at _=>true|_=>false
theorem inn_keep(e:own D=a')(h:keepT a'=true):own.inn τ D=a':=by
 unfold Own.inn;rw[e];cases a'<;>first|rfl|exact absurd h Bool.false_ne_true
theorem inn_loc{i:Nat}(e:own D= .loc i):own.inn τ D= .fr:=by unfold Own.inn;rw[e]
theorem inn_fr(e:own D= .fr)(h:τ D=none):own.inn τ D= .fr:=by unfold Own.inn;rw[e];simp only[h]
theorem inn_arg{i:Nat}(e:own D= .fr)(h:τ D=some i):own.inn τ D= .loc i:=by unfold Own.inn;rw[e];simp only[h]
theorem back_fv(h:D∈fv.map (·.1)):own.back own2 fv D= .fr:=if_pos h
theorem back_fr(h:D∉fv.map (·.1))(e:own2 D= .fr):own.back own2 fv D=own D:=by unfold Own.back;rw[if_neg h,e]
theorem back_loc{i:Nat}(h:D∉fv.map (·.1))(e:own2 D= .loc i):own.back own2 fv D= .out i:=by unfold Own.back;rw[if_neg h,e]
theorem back_keep(h:D∉fv.map (·.1))(e:own2 D=a')(k:keepT a'=true):own.back own2 fv D=a':=by
 unfold Own.back;rw[if_neg h,e];cases a'<;>first|rfl|exact absurd k Bool.false_ne_true
theorem Rel.back{c':Cx}(R:Rel T c m bk (fp++fr) led own loc)(t:∀{a},a∉fp.map (·.1)→τ a=none)(R2:Rel T c' m2 bk2 (fv++frIn led (own.inn τ)) led2 own2 loc2)(l:bk.le bk2):
  Rel T c m bk2 (fv++fr) led2 (own.back own2 fv) loc∧(∀{p},p∈led2→own2 p.1≠ .fr→p.1∉fv.map (·.1)):=by
 have dj:=R2.frd;have d0:=R.frd;rw[List.map_append] at dj d0;obtain⟨n1,n2,n3⟩:=List.nodup_append.mp dj;obtain⟨_,m2,m3⟩:=List.nodup_append.mp d0;have nfv:∀{p},p∈led2→own2 p.1≠ .fr→p.1∉fv.map (·.1):=fun{p}y0_ n q=>by
  obtain⟨z,hz,e⟩:=List.mem_map.mp q;exact n (e▸(R2.frm z (List.mem_append_left _ hz)).2)
 have go:∀{p},p∈frIn led (own.inn τ)→p∈led2∧own.back own2 fv p.1=own p.1:=fun{p}hp=>by
  have q:=R2.frm p (List.mem_append_right _ hp);exact⟨q.1,back_fr (fun z=>n3 _ z _ (List.mem_map_of_mem hp) rfl) q.2⟩
 have infr:∀{p},p∈fr→p∈frIn led (own.inn τ):=fun{p}hp=>by
  have q:=R.frm p (List.mem_append_right _ hp);exact mem_frIn q.1 (inn_fr q.2 (t fun z=>m3 _ z _ (List.mem_map_of_mem hp) rfl))
 refine⟨⟨R2.dj,fun p hp=>?_,fun p hp=>?_,?_,R.len,fun{i x u}a b=>(R.loc a b).mono l|>.tr fun{p}hp e=>?_⟩,nfv⟩
 ·have q:=R2.imm p hp;exact⟨q.1,back_keep (nfv q.1 (q.2▸nofun)) q.2 rfl⟩
 ·rcases List.mem_append.mp hp with hp|hp
  ·exact⟨(R2.frm p (List.mem_append_left _ hp)).1,back_fv (List.mem_map_of_mem hp)⟩
  ·exact⟨(go (infr hp)).1,(go (infr hp)).2.trans (R.frm p (List.mem_append_right _ hp)).2⟩
 ·rw[List.map_append];refine List.nodup_append.mpr ⟨n1,m2,fun a ha b hb=>n3 a ha b ?_⟩;obtain⟨z,hz,rfl⟩:=List.mem_map.mp hb;exact List.mem_map_of_mem (infr hz)
 ·have q:=go (mem_frIn hp (inn_loc e));exact⟨q.1,q.2.trans e⟩
end
end Mine.Internal
end
section
open PySem PySem.W PySem.Calls PyProof.Rows
namespace Mine.Internal
noncomputable section
variable{T:Tb} {c:Cx} {m m' m2:Str→Option Value} {bk bk' bk2:Bk} {fr fr' frc fp fv:Led} {A:Around} {Q Er:Value→Shared→Prop} {s s2:Shared} {u w a b:V} {v:Value} {σ σ' σ1 σ2:St} {d:Nat} {e t i j p:E} {x:Ex} {l:List V} {y:Value} {led led2:Led} {own own2:Own} {D:Addr} {loc loc2:List V} {es:List E} {xs ys:List V} {vs:Ar} {vals:List Value} {P P2:Pt} {g h h2 h₁:Heap} {L':Addr} {n f:Nat} {τ:Addr→Option Nat} {r:CR}
theorem bound_none{ps:List Str}{vals:List Value}{x:Str}(h:x∉ps):(ps.zip vals).reverse.lookup x=none:=
 List.lookup_eq_none_iff.mpr fun q hq=>bne_iff_ne.mpr fun z=>h (z▸(List.of_mem_zip (List.mem_reverse.mp hq)).1)
theorem bound_lookup:∀{ps:List Str}{vals:List Value}{i:Nat}{x:Str}{v:Value},ps.Nodup→ps[i]? =some x→vals[i]? =some v→(ps.zip vals).reverse.lookup x=some v
 |p::ps,w::vals,i,x,v,hn,hp,hv=>by
  obtain⟨h1,h2⟩:=List.nodup_cons.mp hn;rw[List.zip_cons_cons,List.reverse_cons,List.lookup_append];cases i with
  |zero=>
   obtain rfl:=Option.some.inj hp;obtain rfl:=Option.some.inj hv;rw[bound_none h1,List.lookup_cons_self];rfl
  |succ i=>rw[bound_lookup h2 hp hv];rfl
noncomputable def pinOf(u:V)(v:Value):Option Value:=if u.lin=true then some v else none
noncomputable def Cx.call(T:Tb)(c:Cx)(f:Nat)(A:Around)(s:Shared)(g:Heap)(L':Addr)(xs:List V)(vals:List Value):Cx:=
 {A₀:=A,base:=c.base,outer:=c.env::c.outer,qual:=(T.fd f).qual,scope:=(T.fd f).scope,L:=L',f:=T.fa f,cd:=(T.fd f).cdv,cl:=(T.fd f).cl,h₀:=g,p:=c.p,loose:=c.loose,mean:=c.mean,mg:=c.mg,mb:=c.mb,ns:=(T.fd f).ns,np:=(T.fn f).np,pin:=List.zipWith pinOf xs vals,
  gens:=s.gens,drawn:=s.drawn,os:=s.os}
noncomputable abbrev mOf(T:Tb)(f:Nat)(vals:List Value):Str→Option Value:=fun y=>((pnames T f).zip vals).reverse.lookup y
noncomputable abbrev locOf(T:Tb)(f:Nat)(xs:List V):List V:=xs++List.replicate ((T.fn f).nl- (T.fn f).np) .absent
theorem Cx.call_ok(C0:c.OK T)(hD:FnOK T f)(B:Below A c.base (c.env::c.outer) g)(st:c.h₀.StaysIn g):(c.call T f A s g L' xs vals).OK T:=
 ⟨B,C0.X.keeps st,C0.Tp.keeps st,C0.XB,C0.TB,hD.kind,hD.loc,hD.nd⟩
theorem AOC.call(hA:AOC c A (d+1)):AOK (c.call T f A s g L' xs vals) (A.deeper (c.call T f A s g L' xs vals).env) d where
 frames:=Around.frames_deeper hA.frames
 depth:=by have:=hA.depth;show A.depth+1+_+_<_;omega
 units:=by have:=hA.units;show A.units+3+_+_<_;omega
 handled:=hA.handled
theorem FnOK.pn_len(hD:FnOK T f):(pnames T f).length=(T.fn f).np:=(List.length_map ..).trans hD.np
theorem get_app{α:Type}{l l':List α}{i:Nat}{x:α}{C:Prop}(h:(l++l')[i]? =some x)(h1:l[i]? =some x→C)(h2:l.length≤i→x∈l'→C):C:=by
 by_cases q:i<l.length
 ·exact h1 ((List.getElem?_append_left q).symm.trans h)
 ·rw[List.getElem?_append_right (Nat.not_lt.mp q)] at h;exact h2 (Nat.not_lt.mp q) (List.mem_of_getElem? h)
theorem lt_of_get{α:Type}{l:List α}{i:Nat}{x:α}(h:l[i]? =some x):i<l.length:=(List.getElem?_eq_some_iff.mp h).1
theorem get_lt{α:Type}{l:List α}{i:Nat}(h:i<l.length){C:Prop}(k:∀x,l[i]? =some x→C):C:=k _ (List.getElem?_eq_getElem h)
theorem RV.nl_of{f:Led}:∀{u},RV T bk u v f→¬u.lin=true→u.nl=true:=@nl_k (fun u=>RV T bk u v f→¬u.lin=true→u.nl=true) (fun y0_ n y1_ y2_=>n) (fun y0_ y1_ h=>absurd rfl h) (fun y0_ y1_ h=>absurd rfl h) (fun y0_ h y1_=>h.1.elim) (fun h y0_=>h.1.elim)
theorem SR0.enter(Z:SR0 T c m bk (fp++fr) led own h ⟨loc,P⟩)(r:RVs T bk xs vals fp)(t:Tau T bk xs vals fp τ)(hD:FnOK T f)(hx:xs.length=(T.fn f).np)(F':Fr g L' h₁ (mOf T f vals))(N':News g L' h₁ led):
  SR0 T (c.call T f A s g L' xs vals) (mOf T f vals) bk (frIn led (own.inn τ)) led (own.inn τ) h₁ ⟨locOf T f xs,P⟩:=by
 obtain⟨rest,hrest⟩:=hD.pre;have hnd:=hD.nd;rw[hrest] at hnd;obtain⟨n1,n2,n3⟩:=List.nodup_append.mp hnd;have hpl:=hD.pn_len;have hvl:=r.len;refine⟨⟨Z.R.dj,fun p hp=>⟨(Z.R.imm p hp).1,inn_keep (Z.R.imm p hp).2 rfl⟩,fun p hp=>frIn_spec hp,Z.R.dj.sublist (List.filter_sublist.map _),?_,fun{i x u}hi hu=>?_⟩,
  Z.P.tr (fun k{p}hp e=>⟨hp,inn_keep e rfl⟩) (fun{p}hp e=>⟨hp,inn_keep e rfl⟩),F',N',fun{i w x u}hp hi hu=>?_⟩
 ·show(xs++List.replicate _ _).length=(T.fd f).ns.length;have:=hD.nl;rw[List.length_append,List.length_replicate,this];have:=congrArg List.length hrest;rw[List.length_append] at this;omega
 ·refine get_app hu (fun hu=>?_) fun hl hu=>?_
  ·have hi:(pnames T f)[i]? =some x:=by
    have hi:(T.fd f).ns[i]? =some x:=hi;rw[hrest,List.getElem?_append_left (hpl▸hx▸lt_of_get hu)] at hi;exact hi
   refine get_lt (l:=vals) (i:=i) (hvl▸lt_of_get hu) fun v hv=>?_;have e:mOf T f vals x=some v:=bound_lookup n1 hi hv;obtain⟨f',rv,hf⟩:=t.1 hu hv;rw[e];exact .ok ⟨f',rv,fun p hp=>let q:=Z.R.frm p (List.mem_append_left _ (hf p hp).1);⟨q.1,inn_arg q.2 (hf p hp).2⟩⟩
  ·obtain rfl:=List.eq_of_mem_replicate hu;have e:mOf T f vals x=none:=bound_none fun q=>by
    have hi:(T.fd f).ns[i]? =some x:=hi;rw[hrest,List.getElem?_append_right (hpl▸hx▸hl)] at hi;exact n3 x q x (List.mem_of_getElem? hi) rfl
   rw[e];exact .no
 ·obtain⟨u',v',e1,e2,rfl⟩:∃u' v',xs[i]? =some u'∧vals[i]? =some v'∧pinOf u' v'=w:=by
   have hp:(List.zipWith pinOf xs vals)[i]? =some w:=hp;rw[List.getElem?_zipWith] at hp;cases h1:xs[i]? <;>cases h2:vals[i]? <;>rw[h1,h2] at hp<;>first|exact no_some hp|exact⟨_,_,rfl,rfl,Option.some.inj hp⟩
  have hu':some u'=some u:=e1.symm.trans ((List.getElem?_append_left (lt_of_get e1)).symm.trans hu);obtain rfl:=Option.some.inj hu';have hi:(pnames T f)[i]? =some x:=by
   have hi:(T.fd f).ns[i]? =some x:=hi;rw[hrest,List.getElem?_append_left (hpl▸hx▸lt_of_get e1)] at hi;exact hi
  unfold pinOf
  by_cases q:u'.lin=true
  ·rw[if_pos q];exact⟨bound_lookup n1 hi e2,.inl (lin_nl q)⟩
  ·rw[if_neg q];obtain⟨_,rv,-⟩:=t.1 e1 e2;exact rv.nl_of q
end
end Mine.Internal
end
section
open PySem PySem.W PySem.Calls PyProof.Rows
namespace Mine.Internal
noncomputable section
variable{T:Tb} {c:Cx} {m m' m2:Str→Option Value} {bk bk' bk2:Bk} {fr fr' frc fp fv:Led} {A:Around} {Q Er:Value→Shared→Prop} {s s2:Shared} {u w a b:V} {v:Value} {σ σ' σ1 σ2:St} {d:Nat} {e t i j p:E} {x:Ex} {l:List V} {y:Value} {led led2:Led} {own own2:Own} {D:Addr} {loc loc2:List V} {es:List E} {xs ys:List V} {vs:Ar} {vals:List Value} {P P2:Pt} {g h h2 h₁:Heap} {L':Addr} {n f:Nat} {τ:Addr→Option Nat} {r:CR} {fl:Fl}
theorem zip_pin{i:Nat}(h1:xs[i]? =some u)(h2:vals[i]? =some v):(List.zipWith pinOf xs vals)[i]? =some (pinOf u v):=by rw[List.getElem?_zipWith,h1,h2]
theorem pin_get{i:Nat}{w:V}(h:PinOk (pinOf u v) y' w)(n:w.lin=true):y'=some v:=by
 unfold pinOf at h
 by_cases q:u.lin=true
 ·rw[if_pos q] at h;exact h.1
 ·rw[if_neg q] at h;exact absurd ((lin_nl n).symm.trans h) Bool.false_ne_true
theorem SR0.leave(Z:SR0 T c m bk (fp++fr) led own h ⟨loc,P⟩)(t:∀{a},a∉fp.map (·.1)→τ a=none)(rv:RVs T bk xs vals fp)(hx:xs.length=(T.fn f).np)(Z2:SR0 T (c.call T f A s g L' xs vals) m2 bk2 (fv++frIn led (own.inn τ)) led2 own2 h2 ⟨loc2,P2⟩)(l:bk.le bk2)(F':Fr c.h₀ c.L h2 m)(N':News c.h₀ c.L h2 led2):
  SR0 T c m bk2 (fv++fr) led2 (own.back own2 fv) h2 ⟨loc,P2⟩∧Outs T bk2 led2 (own.back own2 fv) vals (loc2.take (T.fn f).np):=by
 obtain⟨R,nfv⟩:=Z.R.back t Z2.R l;refine⟨⟨R,Z2.P.tr (fun k{p}hp e=>⟨hp,back_keep (nfv hp fun q=>nomatch e.symm.trans q) e rfl⟩) (fun{p}hp e=>⟨hp,back_keep (nfv hp fun q=>nomatch e.symm.trans q) e rfl⟩),F',N',Z.pin⟩,fun{i u v}hu n hv=>?_⟩;have hi:i< (T.fn f).np:=Nat.lt_of_lt_of_le (lt_of_get hu) (List.length_take_le ..);rw[List.getElem?_take_of_lt hi] at hu;refine get_lt (l:=(T.fd f).ns) (i:=i) (show i< (T.fd f).ns.length from(show loc2.length=_ from Z2.R.len)▸lt_of_get hu) fun x hn=>get_lt (l:=xs) (i:=i) (hx▸hi) fun u0 h0=>?_;have L:=Z2.R.loc hn hu;rw[pin_get (i:=i) (Z2.pin (zip_pin h0 hv) hn hu) n] at L;cases L with|ok r=>exact r.imp fun y0_=>And.imp_right fun k p hp=>let q:=k p hp;⟨q.1,back_loc (nfv q.1 fun z=>nomatch q.2.symm.trans z) q.2⟩
theorem Rz.leave{env':Env}{A':Around}(he:env'.frame=some L')(hA:A'.frames=some (env'::c.env::c.outer))(Z:SR0 T c m bk (fp++fr) led own h ⟨loc,P⟩)(sm:Sm c s)(t:∀{a},a∉fp.map (·.1)→τ a=none){s2:Shared}{c':Cx}(hc:c'=c.call T f A s g L' xs vals)(henv:c'.env=env')
  (F1:Fr c.h₀ c.L g m) (ab:g.objs.size≤L') (z:Rz T c' m2 bk (frIn led (own.inn τ)) x l y s2) {Q:Unit→Shared→Prop} (k:∀{h'},Rz T c m bk fr x loc y {s2 with heap:=h'}→Q () {s2 with heap:=h'}):wpAny (model T.prog T.w) A' (leaving env' y) Q Er s2:=by
 subst hc henv;cases z with|@mk bk' led2 own2 G ea dx _ l R2 sm2 E Fl FG up=>
 cases Fl with|@mk B a0 b1 b2 b3 b4=>
 refine leave_any (L':=c.L) hA he b4 fun h' f1 f2=>k ?_;obtain⟨R,-⟩:=Z.R.back (fv:=[]) t R2 l;have keepG:∀b o,g.get? b=some o→G.get? b=some o:=FG.keep;refine .mk (G:=g) l R ⟨sm2.1.trans sm.1,sm2.2.1.trans sm.2.1,sm2.2.2.trans sm.2.2⟩ E (.mk b1 (fun b o hg hb=>b2 b o (keepG b o hg) ?_) (fun p hp=>?_) f1) F1 ((Heap.UpToSlots.of_keeps keepG).trans (up.trans f2))
 ·intro hm;rw[List.filterMap_cons] at hm;rcases List.mem_cons.mp hm with hm|hm
  ·exact absurd ((show b=L' from hm)▸Heap.lt_size hg) (Nat.not_lt.mpr ab)
  ·exact hb hm
 ·obtain⟨p1,p2,p3⟩:=b3 p hp;refine⟨p1,?_,p3⟩;cases hg:g.get? p.1 with
  |none=>rfl
  |some o=>exact no_some (p2.symm.trans (keepG _ _ hg))
theorem ExP.call{r2:R Fl}(hr:r=match r2 with| .ok fl σ2=>.ret (flV fl) σ2.P (σ2.loc.take (T.fn f).np)| .exc x _=>.exc x)(hA:AOC c A (d+1))(Z:SR0 T c m bk (fp++fr) led own h ⟨loc,P⟩)(sm:Sm c s)(t:∀{a},a∉fp.map (·.1)→τ a=none)(rv:RVs T bk xs vals fp)(hx:xs.length=(T.fn f).np)
  (F1:Fr c.h₀ c.L g m) (ab:g.objs.size≤L') {Rr:Result→Shared→Prop} (hR:CrP T c m bk fr loc vals r Rr):
  ExP T (c.call T f A s g L' xs vals) bk (frIn led (own.inn τ)) r2 (fun fl s'=>LeaveK c.h₀ c.L m g Rr (match fl with| .ret v=>v|_=>.none) s')
   (fun e s'=>wpAny (model T.prog T.w) (A.deeper (c.call T f A s g L' xs vals).env) (leaving (c.call T f A s g L' xs vals).env e) (fun y0_ s''=>Rr (.error e) s'') (fun e' s''=>Rr (.error e') s'') s'):=by
 subst hr;cases r2 with
 |exc x l=>exact @fun e s2 m2 z=>z.leave (A':=A.deeper _) rfl (Around.frames_deeper hA.frames) Z sm t rfl rfl F1 ab fun{h'}z=>hR z
 |ok fl σ2=>exact @fun s2 m2 bk2 flow fv S2 l hf=>S2.1.casesOn fun{led2 own2}Z2=>⟨L',m2,led2,Z2.F,Z2.N,fun F' N'=>by
   obtain⟨Z3,O⟩:=Z.leave t rv hx Z2 l F' N';have sm3:Sm c s2:=⟨S2.2.1.trans sm.1,S2.2.2.1.trans sm.2.1,S2.2.2.2.trans sm.2.2⟩;cases hf with
   |next=>exact hR Z3 sm3 l (RN.rx (u:=.none) rfl rfl) O
   |brk=>exact hR Z3 sm3 l (RN.rx (u:=.none) rfl rfl) O
   |ret r=>exact hR Z3 sm3 l r O⟩
end
end Mine.Internal
end
section
open PySem PySem.W PySem.Calls PyProof.Rows
namespace Mine.Internal
noncomputable section
theorem loop_inv{α β:Type}{f:α→β→Sem (ForInStep β)}(I:List α→β→Prop)(h:∀{x l b},I (x::l) b→∃b',f x b=pure (.yield b')∧I l b'):∀{l:List α}{b:β},I l b→∃b',(forIn l b f:Sem β)=pure b'∧I [] b'
 |[],b,hI=>⟨b,List.forIn_nil,hI⟩
 |x::l,b,hI=>by
  obtain⟨b1,e1,I1⟩:=h hI;obtain⟨b2,e2,I2⟩:=loop_inv I h I1;refine⟨b2,?_,I2⟩;rw[List.forIn_cons,e1];exact e2
theorem wp_loop{M:Model}{A:Around}{E:Value→Shared→Prop}{s:Shared}{α β:Type}{l:List α}{b:β}{f:α→β→Sem (ForInStep β)}{Q:β→Shared→Prop}(I:List α→β→Prop)(h0:I l b)(h:∀{x l b},I (x::l) b→∃b',f x b=pure (.yield b')∧I l b')(k:∀{b'},I [] b'→Q b' s):
  wpAny M A (forIn l b f) Q E s:=by
 obtain⟨b',e,hI⟩:=loop_inv I h h0;rw[e];exact wpAny_pure (k hI)
theorem wp_neg{M:Model}{A:Around}{E:Value→Shared→Prop}{s:Shared}{α:Type}{c:Prop}[Decidable c]{a b:Sem α}{Q:α→Shared→Prop}(h:¬c)(k:wpAny M A b Q E s):wpAny M A (if c then a else b) Q E s:=by rw[if_neg h];exact k
noncomputable def bindG{κ α:Type}[BEq κ](kw:List (κ×α)):List κ→List (Option α)→List α→Option (List α)
 |[],_,xs=>if xs.isEmpty then some [] else none
 |p::ps,ds,xs=>(xs.head?.or ((kw.lookup p).or ds.head?.join)).bind fun v=>(bindG kw ps ds.tail xs.tail).map (v:: ·)
section
variable{ps:List Str} {pv vals ds:List Value} {kw:List (Str×Value)} {dvs:List (Option Value)} {i:Nat} {x:Str} {s:Shared} {fd:FuncData}
theorem bindG_get:∀{ps:List Str}{dvs:List (Option Value)}{pv vals:List Value},bindG kw ps dvs pv=some vals→(vals.length=ps.length∧pv.length≤ps.length)∧∀{i:Nat}{x},ps[i]? =some x→pv[i]?.or ((kw.lookup x).or (dvs[i]?.join))=vals[i]? ∧vals[i]?.isSome=true
 |[],_,_,_,h=>ite_k h fun h e=>Option.some.inj e▸⟨⟨rfl,Nat.le_of_eq (congrArg List.length (nil_k h))⟩,fun h=>no_some h⟩
 |p::ps,dvs,pv,vals,h=>by
  obtain⟨v,e1,e2⟩:=Option.bind_eq_some_iff.mp h;obtain⟨vs,e3,rfl⟩:=Option.map_eq_some_iff.mp e2;obtain⟨h1,h2⟩:=bindG_get e3;refine⟨⟨congrArg (· +1) h1.1,by have:=h1.2;rw[List.length_tail] at this;exact Nat.le_add_of_sub_le this⟩,fun{i x}q=>?_⟩;cases i with
  |zero=>obtain rfl:=Option.some.inj q;rw[←List.head?_eq_getElem?,←List.head?_eq_getElem?];exact⟨e1,rfl⟩
  |succ i=>rw[←List.getElem?_tail,←List.getElem?_tail];exact h2 (i:=i) q
theorem zip_look{α:Type}:∀{ps:List Str}{pv:List α}{i:Nat},ps.Nodup→ps[i]? =some x→(ps.zip pv).lookup x=pv[i]?
 |[],_,_,_,h=>no_some h
 |p::ps,[],i,_,h=>rfl
 |p::ps,v::pv,i,hn,h=>by
  obtain⟨h1,h2⟩:=List.nodup_cons.mp hn;cases i with
  |zero=>obtain rfl:=Option.some.inj h;exact List.lookup_cons_self
  |succ i=>
   rw[List.zip_cons_cons,List.lookup_cons,beq_false_of_ne (a:=x) (b:=p) fun q=>h1 (q▸List.mem_of_getElem? (i:=i) h)];exact zip_look h2 h
theorem zip_none{α:Type}{pv:List α}(h:x∉ps):(ps.zip pv).lookup x=none:=List.lookup_eq_none_iff.mpr fun q hq=>bne_iff_ne.mpr fun z=>h (z▸(List.of_mem_zip hq).1)
theorem dflt_look(hn:ps.Nodup)(hd:ds.length≤ps.length)(h:ps[i]? =some x):((ps.drop (ps.length-ds.length)).zip ds).lookup x=((List.replicate (ps.length-ds.length) none++ds.map some)[i]?).join:=by
 by_cases c:i<ps.length-ds.length
 ·rw[List.getElem?_append_left (List.length_replicate.symm▸c),List.getElem?_replicate,if_pos c];refine zip_none fun q=>?_;rw[←List.take_append_drop (ps.length-ds.length) ps] at hn;exact(List.nodup_append.mp hn).2.2 x (List.mem_of_getElem? ((List.getElem?_take_of_lt c).trans h)) x q rfl
 ·obtain⟨j,rfl⟩:=Nat.exists_eq_add_of_le (Nat.not_lt.mp c);rw[List.getElem?_append_right (by rw[List.length_replicate];exact Nat.le_add_right ..),List.getElem?_map,List.length_replicate,Nat.add_sub_cancel_left];rw[zip_look (hn.sublist (List.drop_sublist ..)) ((List.getElem?_drop ..).trans h)];cases ds[j]? <;>rfl
theorem fm_zip{g:Str→Option Value}:∀{ps:List Str}{vals:List Value},vals.length=ps.length→(∀{i:Nat}{x},ps[i]? =some x→g x=vals[i]?)→ps.filterMap (fun n=>(g n).map (n,·))=ps.zip vals
 |[],vals,h,_=>by obtain rfl:=List.length_eq_zero_iff.mp h;rfl
 |p::ps,vals,h,hg=>by
  cases vals with
  |nil=>exact nomatch h
  |cons v vals=>
   have h0:(g p).map (p,·)=some (p,v):=congrArg (Option.map (p,·)) (hg (i:=0) rfl);have ih:=fm_zip (g:=g) (ps:=ps) (vals:=vals) (Nat.succ.inj h) fun{i x}q=>hg (i:=i+1) q;rw[List.filterMap_cons,h0,ih];rfl
noncomputable def DefsAre(s:Shared)(v:Value)(ds:List Value):Prop:=∀{M:Model}{A:Around}{E:Value→Shared→Prop}{Q:Option (Array Value)→Shared→Prop},(∀{o:Option (Array Value)},(o.getD #[]).toList=ds→Q o s)→wpAny M A (seqItems? v) Q E s
theorem or_assoc3{l r t:List (Str×Value)}{y:Str}{b:List (Str×Value)}(h:b.lookup y=(l.lookup y).or (r.lookup y)):(b++t).lookup y=(l.lookup y).or ((r++t).lookup y):=by
 rw[List.lookup_append,h,List.lookup_append,Option.or_assoc]
theorem kwNew{α:Type}{l dn r:List (Str×α)}{k:Str×α}{kw:List (Str×α)}(hn:((l++kw).map (·.1)).Nodup)(h:kw=dn++k::r):((l++dn).lookup k.1).isSome=false:=by
 subst h;rw[←List.append_assoc,List.map_append] at hn;rw[List.lookup_eq_none_iff.mpr fun q hq=>bne_iff_ne.mpr fun z=>(List.nodup_append.mp hn).2.2 _ (List.mem_map_of_mem hq) _ (.head _) z.symm];rfl
theorem miss(hn:ps.Nodup)(hds:ds.length≤ps.length)(h2:∀{i:Nat}{x},ps[i]? =some x→pv[i]?.or ((kw.lookup x).or ((List.replicate (ps.length-ds.length) none++ds.map some)[i]?.join))=vals[i]? ∧vals[i]?.isSome=true)(h:(ps.take (ps.length-ds.length))[i]? =some x):¬((ps.zip pv++kw).lookup x).isNone=true:=by
 have hl:i<ps.length-ds.length:=Nat.lt_of_lt_of_le (lt_of_get h) (List.length_take_le ..);rw[List.getElem?_take_of_lt hl] at h;obtain⟨e1,e2⟩:=h2 h;rw[List.getElem?_append_left (List.length_replicate.symm▸hl),List.getElem?_replicate,if_pos hl,Option.join_some,Option.or_none] at e1;rw[List.lookup_append,zip_look hn h,e1,Option.isNone_iff_eq_none];exact fun q=>nomatch (congrArg Option.isSome q).symm.trans e2
theorem dstep{b l dn:List (Str×Value)}{k:Str}{v:Value}{C:Prop}(h:∀y,b.lookup y=(l.lookup y).or (dn.lookup y))
  (q:∀b',(if(b.lookup k).isNone=true then pure (ForInStep.yield (b++[(k,v)])) else pure (ForInStep.yield b))=(pure (ForInStep.yield b'):Sem _)∧(∀y,b'.lookup y=(l.lookup y).or ((dn++[(k,v)]).lookup y))→C):C:=by
 by_cases c:(b.lookup k).isNone=true
 ·exact q _ ⟨if_pos c,fun y=>or_assoc3 (h y)⟩
 ·refine q _ ⟨if_neg c,fun y=>?_⟩;rw[List.lookup_append,←Option.or_assoc,←h y,List.lookup_cons]
  by_cases hy:y=k
  ·subst hy;cases e:b.lookup y with
   |none=>exact absurd (e▸rfl) c
   |some w=>rfl
  ·rw[beq_false_of_ne hy];exact(Option.or_none ..).symm
theorem binds_core{name qualname:Str}{as:List Arg}{kd:List (Option Expr)}{dss:List Expr}{body:FuncBody}{scope:Scope}{globals:Addr}{closure:List (Str×Addr)}{defaults kwdefaults doc pyModule:Value}{annotations:Option Addr}{code closureTuple:Value}{builtins:Addr}
  (ar:as.map (·.arg)=ps) (hn:ps.Nodup) (hk:∀k∈kw,k.1∈ps) (hkn:((ps.zip pv++kw).map (·.1)).Nodup) (hds:ds.length≤ps.length) (hd:DefsAre s defaults ds)
  (e:bindG kw ps (List.replicate (ps.length-ds.length) none++ds.map some) pv=some vals):BindsTo s ⟨name,qualname,⟨[],as,none,[],kd,none,dss⟩,body,scope,globals,closure,defaults,kwdefaults,doc,pyModule,annotations,code,closureTuple,builtins⟩ ⟨pv,kw⟩ (ps.zip vals):=by
 obtain⟨⟨h1,hp⟩,h2⟩:=bindG_get e;have look:∀{i:Nat}{x},ps[i]? =some x→((ps.zip pv++kw).lookup x).or (((ps.drop (ps.length-ds.length)).zip ds).lookup x)=vals[i]? :=fun{i x}q=>by
  rw[dflt_look hn hds q,List.lookup_append,zip_look hn q,Option.or_assoc];exact(h2 q).1
 subst ar;intro M A E Q hQ;refine wpAny_bind (wp_loop (fun rem b=>b.2=[]∧∃dn,kw=dn++rem∧b.1=(as.map (·.arg)).zip pv++dn) ⟨rfl,[],rfl,(List.append_nil _).symm⟩ ?_ ?_)
 ·rintro⟨k,v⟩ l ⟨b1,b2⟩ ⟨rfl,dn,h6,rfl⟩;refine⟨((as.map (·.arg)).zip pv++dn++[(k,v)],[]),(if_pos ?_).trans (if_neg ?_),rfl,dn++[(k,v)],h6.trans (List.append_cons ..),List.append_assoc ..⟩
  ·exact Bool.or_eq_true_iff.mpr (.inl (List.contains_iff_mem.mpr (hk (k,v) (h6▸List.mem_append_right _ (.head _)))))
  ·rw[kwNew hkn h6];exact Bool.false_ne_true
 ·rintro⟨b1,b2⟩ ⟨rfl,dn,h6,rfl⟩;obtain rfl:=h6.trans (List.append_nil _);refine wpAny_bind (hd fun{o}ho=>?_);subst ho;have hD:List.drop ((o.getD #[]).toList.length- (as.map (·.arg)).length) (o.getD #[]).toList=(o.getD #[]).toList:=(Nat.sub_eq_zero_of_le hds).symm▸rfl;refine wp_neg (fun q=>absurd (of_decide_eq_true (Bool.and_eq_true_iff.mp q).1) (Nat.not_lt.mpr hp)) (wp_neg (fun q=>?_) ?_)
  ·refine absurd ((List.isEmpty_iff.mpr (List.filter_eq_nil_iff.mpr fun x hx=>?_))) (fun z=>by rw[Bool.not_eq_true'] at q;exact nomatch z.symm.trans q);obtain⟨i,hi⟩:=List.mem_iff_getElem?.mp hx;refine miss (ps:=as.map (·.arg)) hn hds h2 (i:=i) ?_;exact hD▸hi
  refine wpAny_bind (wp_loop (fun rem b=>∃dn,(((as.map (·.arg)).drop ((as.map (·.arg)).length- (o.getD #[]).toList.length)).zip (o.getD #[]).toList)=dn++rem∧∀y,b.lookup y=(((as.map (·.arg)).zip pv++kw).lookup y).or (dn.lookup y)) ⟨[],?_,fun y=>(Option.or_none ..).symm⟩ ?_ ?_)
  ·refine(?_:_=(List.drop ((as.map (·.arg)).length- (List.drop ((o.getD #[]).toList.length- (as.map (·.arg)).length) (o.getD #[]).toList).length) (as.map (·.arg))).zip (List.drop ((o.getD #[]).toList.length- (as.map (·.arg)).length) (o.getD #[]).toList));rw[hD]
  ·rintro⟨k,v⟩ l b ⟨dn,h6,h7⟩;refine dstep (b:=b) (k:=k) h7 fun b' hb=>⟨b',?_,dn++[(k,v)],h6.trans (List.append_cons ..),hb.2⟩;exact hb.1
  ·rintro b ⟨dn,h6,h7⟩;obtain rfl:=h6.trans (List.append_nil _);refine wpAny_bind (wpAny_pure (wp_neg Bool.false_ne_true (wpAny_pure ?_)));have e:(as.map Arg.arg++[]).filterMap (fun n=>(b.lookup n).map (n,·))=(as.map (·.arg)).zip vals:=by rw[List.append_nil];exact fm_zip h1 fun{i x}q=>(h7 x).trans (look q)
   refine(?_:Q ((as.map Arg.arg++[]).filterMap (fun n=>(b.lookup n).map (n,·))) s);exact e.symm▸hQ
end
end
end Mine.Internal
end
section
open PySem PySem.W PySem.Calls PyProof.Rows
namespace Mine.Internal
noncomputable section
variable{T:Tb} {c:Cx} {m m' m2:Str→Option Value} {bk bk' bk2:Bk} {fr fr' frc fp fv f:Led} {A:Around} {Q Er:Value→Shared→Prop} {s s2:Shared} {u w a b:V} {v:Value} {σ σ' σ1 σ2:St} {d:Nat} {e t i j p:E} {x:Ex} {l:List V} {y:Value} {led led2:Led} {own own2:Own} {D:Addr} {loc loc2:List V} {es:List E} {xs ys bs:List V} {vs:Ar} {vals pv:List Value} {P P2:Pt} {g h h2 h₁:Heap} {L':Addr} {n k:Nat} {r:CR} {fl:Fl}
noncomputable def KwR(T:Tb)(bk:Bk)(p:Nat×V)(q:Str×Value):Prop:=q.1=T.an p.1∧RN T bk p.2 q.2
theorem beq_an(K0:AnInj T){a b:Nat}:(T.an a==T.an b)=(a==b):=by
 by_cases q:a=b
 ·subst q;exact(beq_self_eq_true _).trans (beq_self_eq_true _).symm
 ·exact(beq_false_of_ne fun z=>q (K0 _ _ z)).trans (beq_false_of_ne q).symm
theorem KwR.look(K0:AnInj T){p:Nat}{kw:List (Nat×V)}{kwv:List (Str×Value)}(h:All2 (KwR T bk) kw kwv):match kw.lookup p with|some u=>∃v,kwv.lookup (T.an p)=some v∧RN T bk u v|none=>kwv.lookup (T.an p)=none:=
 h.ind (C:=fun kw kwv=>match kw.lookup p with|some u=>∃v,kwv.lookup (T.an p)=some v∧RN T bk u v|none=>kwv.lookup (T.an p)=none) rfl fun{a b x y}hab y0_ ih=>by
  obtain⟨a1,a2⟩:=a;obtain⟨b1,b2⟩:=b;obtain⟨rfl,hr⟩:=hab;rw[List.lookup_cons,List.lookup_cons,beq_an K0];cases p==a1 with
  |true=>exact⟨_,rfl,hr⟩
  |false=>exact ih
theorem bind_rel(K0:AnInj T){kw:List (Nat×V)}{kwv:List (Str×Value)}(hk:All2 (KwR T bk) kw kwv):∀{pn:List Nat}{ds xs bs pv dvs fp},bindG kw pn ds xs=some bs→RVs T bk xs pv fp→All2 (DR1 T) ds dvs→∃vals,bindG kwv (pn.map T.an) dvs pv=some vals∧RVs T bk bs vals fp
 |[],_,xs,bs,pv,_,_,h,r,_=>ite_k h fun e h=>by
  obtain rfl:=nil_k e;obtain rfl:=Option.some.inj h;cases r;exact⟨[],rfl,.nil⟩
 |p::pn,ds,xs,bs,pv,dvs,fp,h,r,hd=>bind_k h fun v e1 e2=>map_k e2 fun bs' e3 e4=>by
  subst e4;have hd':All2 (DR1 T) ds.tail dvs.tail:=by
   cases ds with
   |nil=>obtain rfl:=(show dvs=[] from hd);exact .nil
   |cons=>exact hd.k (C:=fun z=>All2 (DR1 T) _ z.tail) fun y0_ y1_ y2_ l=>l
  cases r with
  |@cons _ w us ws f g r1 r2=>
   obtain⟨vals,a1,a2⟩:=bind_rel K0 hk e3 r2 hd';obtain rfl:=Option.some.inj e1;exact⟨w::vals,congrArg (Option.map (w:: ·)) a1,.cons r1 a2⟩
  |nil=>
   obtain⟨vals,a1,a2⟩:=bind_rel K0 hk e3 .nil hd';have go:∀{w},(kwv.lookup (T.an p)).or dvs.head?.join=some w→RN T bk v w→v.nl=true→∃vals,bindG kwv ((p::pn).map T.an) dvs []=some vals∧RVs T bk (v::bs') vals []:=fun{w}q r n=>
    ⟨w::vals,(congrArg (fun o=>Option.bind o fun v=>(bindG kwv (pn.map T.an) dvs.tail []).map (v:: ·)) q).trans (congrArg (Option.map (w:: ·)) a1),.cons (f:=[]) (r.rv n) a2⟩
   have L:=KwR.look K0 (p:=p) hk;have e1:(kw.lookup p).or ds.head?.join=some v:=e1;cases hl:kw.lookup p with
   |some z=>
    rw[hl] at e1 L;obtain rfl:=Option.some.inj e1;obtain⟨w,q1,q2⟩:=L;exact go (by rw[q1];rfl) q2 q2.nl
   |none=>
    rw[hl] at e1 L;cases ds with
    |nil=>exact no_some e1
    |cons d1 ds=>exact hd.k (C:=fun dvs=>(∀{w},(kwv.lookup (T.an p)).or dvs.head?.join=some w→RN T bk v w→v.nl=true→_)→_) (fun d2 y0_ q y1_ go=>by
      cases q with
      |no=>exact no_some e1
      |ok q1 q2=>obtain rfl:=Option.some.inj (show some _=some v from e1);exact go (by rw[show kwv.lookup (T.an p)=none from L];rfl) (q1 bk) q2) go
noncomputable def bindP(pn:List Nat)(ds:List (Option V))(xs:List V)(kw:List (Nat×V)):Option (List V):=if(kw.all (fun k=>pn.contains k.1)&&decide (pn.take xs.length++kw.map (·.1)).Nodup)=true then bindG kw pn ds xs else none
noncomputable abbrev bindK(fn:Fn)(xs:List V)(kw:List (Nat×V)):Option (List V):=bindP fn.pn fn.defs xs kw
theorem zip_fst{α β:Type}:∀{l:List α}{r:List β},(l.zip r).map (·.1)=l.take r.length
 |[],_=>List.take_nil.symm
 |a::l,[]=>rfl
 |a::l,b::r=>congrArg (a:: ·) (zip_fst (l:=l) (r:=r))
theorem nodup_map{α β:Type}{f:α→β}(hf:∀a b,f a=f b→a=b){l:List α}(h:l.Nodup):(l.map f).Nodup:=List.Pairwise.map f (fun a b n e=>n (hf a b e)) h
theorem KwR.keys{kw:List (Nat×V)}{kwv:List (Str×Value)}(h:All2 (KwR T bk) kw kwv):kwv.map Prod.fst=(kw.map Prod.fst).map T.an:=
 h.ind (C:=fun kw kwv=>kwv.map Prod.fst=(kw.map Prod.fst).map T.an) rfl fun{a b x y}h y0_ ih=>(congrArg (fun z=>z::y.map Prod.fst) h.1).trans (congrArg (List.cons (T.an a.1)) ih)
theorem defs_none:DefsAre s .none []:=fun h=>wpAny_pure (h (o:=none) rfl)
theorem defs_ref{a:Addr}{o:Obj}{ds:List Value}{n:Nat}(h:s.heap.get? a=some o)(hd:o.data= .seq ds.toArray n):DefsAre s (.ref a) ds:=fun k=>wpAny_seqItems h hd (k (o:=some ds.toArray) rfl)
theorem FnG.pn_nd{D:FnD}{a:Addr}{ps:List Str}(hD:FnG T D a ps):ps.Nodup:=by
 obtain⟨rs,h⟩:=hD.pre;have:=hD.nd;rw[h] at this;exact(List.nodup_append.mp this).1
theorem paramsAs{D:FnD}{p:Arguments}{ag:Args}{b:List (Str×Value)}(h:D.params=p)(k:BindsTo s (fnX D.name D.qual p D.body D.scope D.cl D.dV D.kV D.doc D.pm D.an D.cdv D.ct) ag b):BindsTo s D.fd ag b:=by
 unfold FnD.fd;rw[h];exact k
theorem bind_okP{D:FnD}{a:Addr}{pn:List Nat}{defs:List (Option V)}(K0:AnInj T)(hD:FnG T D a (pn.map T.an))(df:DfR T D pn.length defs)(X:T.K.In s.heap){kw:List (Nat×V)}{kwv:List (Str×Value)}(hb:bindP pn defs xs kw=some bs)(r:RVs T bk xs pv fp)(rk:All2 (KwR T bk) kw kwv){C:Prop}
  (k:∀{vals},RVs T bk bs vals fp→(∀{i:Nat}{v},pv[i]? =some v→vals[i]? =some v)→BindsTo s D.fd ⟨pv,kwv⟩ ((pn.map T.an).zip vals)→C):C:=ite_k hb fun hk hb=>by
 have go:∀{ds:List Value},ds.length≤pn.length→All2 (DR1 T) defs (List.replicate (pn.length-ds.length) none++ds.map some)→DefsAre s D.dV ds→C:=fun{ds}l a D=>by
  obtain⟨vals,h1,h2⟩:=bind_rel K0 rk hb r a;have e:(pn.map T.an).length=pn.length:=List.length_map ..
  obtain⟨as,kd,dss,hpar,har⟩:=hD.par;refine k h2 (fun{i v}q=>?_) (paramsAs hpar<|binds_core (ds:=ds) har hD.pn_nd (fun q hq=>?_) ?_ (e▸l) D (e▸h1))
  ·obtain⟨⟨-,hl⟩,hg⟩:=bindG_get h1;exact get_lt (l:=pn.map T.an) (Nat.lt_of_lt_of_le (lt_of_get q) hl) fun x hx=>by have:=(hg hx).1;rw[q] at this;exact this.symm
  ·have h3:q.1∈kwv.map (·.1):=List.mem_map_of_mem hq;rw[KwR.keys rk] at h3;obtain⟨z,h4,h5⟩:=List.mem_map.mp h3;obtain⟨y,h6,rfl⟩:=List.mem_map.mp h4;exact h5▸List.mem_map_of_mem (List.contains_iff_mem.mp (List.all_eq_true.mp (and_l hk) y h6))
  ·rw[List.map_append,zip_fst,KwR.keys rk,r.len,←List.map_take,←List.map_append];exact nodup_map K0 (of_decide_eq_true (and_r hk))
 cases df with
 |no e a=>exact go (ds:=[]) (Nat.zero_le _) (by rw[List.map_nil,List.append_nil];exact a) (e▸defs_none)
 |ok e a b c q=>exact go c q (e▸defs_ref (X _ _ a) b)
theorem bind_ok{f:Nat}(K0:AnInj T)(hD:FnOK T f)(X:T.K.In s.heap){kw:List (Nat×V)}{kwv:List (Str×Value)}(hb:bindK (T.fn f) xs kw=some bs)(r:RVs T bk xs pv fp)(rk:All2 (KwR T bk) kw kwv){C:Prop}
  (k:∀{vals},RVs T bk bs vals fp→(∀{i:Nat}{v},pv[i]? =some v→vals[i]? =some v)→BindsTo s (T.fd f).fd ⟨pv,kwv⟩ ((pnames T f).zip vals)→C):C:=bind_okP K0 hD.toFnG hD.df X hb r rk k
end
end Mine.Internal
end
section
open PySem PySem.W PySem.Calls PyProof.Rows
namespace Mine.Internal
noncomputable section
variable{T:Tb} {c:Cx} {m m' m2:Str→Option Value} {bk bk' bk2:Bk} {fr fr' frc fp fv f:Led} {A:Around} {Q Er:Value→Shared→Prop} {s s2:Shared} {u w a b:V} {v:Value} {σ σ' σ1 σ2:St} {d:Nat} {e t p:E} {x:Ex} {l:List V} {y:Value} {led led2:Led} {own own2:Own} {D:Addr} {loc loc2:List V} {es:List E} {xs ys bs outs:List V} {vs:Ar} {vals pv:List Value} {P P2:Pt} {g h h2 h₁:Heap} {L':Addr} {n k:Nat} {r:CR} {fl:Fl} {js:List (Option Nat)}
noncomputable def back:List (Option Nat)→List V→List V→List V
 |[],_,loc=>loc
 |o::js,outs,loc=>back js outs.tail (match o with|none=>loc|some j=>(match outs.head? with|some u=>if u.lin=true then loc.set j u else loc|none=>loc))
theorem back_spec:∀{js:List (Option Nat)}{outs loc:List V},(back js outs loc).length=loc.length∧∀{j:Nat}{u:V},(back js outs loc)[j]? =some u→loc[j]? =some u∨∃i:Nat,js[i]? =some (some j)∧outs[i]? =some u∧u.lin=true
 |[],_,_=>⟨rfl,.inl⟩
 |o::js,outs,loc=>by
  have ih:=fun l=>back_spec (js:=js) (outs:=outs.tail) (loc:=l);have go:∀{l':List V},l'.length=loc.length→(∀{j:Nat}{u:V},l'[j]? =some u→loc[j]? =some u∨∃i:Nat,(o::js)[i]? =some (some j)∧outs[i]? =some u∧u.lin=true)→
    (back js outs.tail l').length=loc.length∧∀{j:Nat}{u:V},(back js outs.tail l')[j]? =some u→loc[j]? =some u∨∃i:Nat,(o::js)[i]? =some (some j)∧outs[i]? =some u∧u.lin=true:=fun{l'}e k=>
   ⟨(ih l').1.trans e,fun{j u}q=>((ih l').2 q).elim k fun⟨i,a,b⟩=>.inr ⟨i+1,a,List.getElem?_tail▸b⟩⟩
  cases o with
  |none=>exact go (l':=loc) rfl .inl
  |some j0=>
   cases outs with
   |nil=>exact go (l':=loc) rfl .inl
   |cons u0 outs=>
    by_cases hl:u0.lin=true
    ·rw[back,List.head?_cons];simp only[if_pos hl];exact go (List.length_set ..) fun q=>set_k q (fun a b=>.inr ⟨0,congrArg (some∘some) a,congrArg some b.symm,b▸hl⟩) fun y0_ q=>.inl q
    ·rw[back,List.head?_cons];simp only[if_neg hl];exact go rfl .inl
noncomputable def giveO(own:Own)(js:List (Option Nat)):Own:=fun a=>match own a with
 | .out i=>(match js[i]?with|some (some j)=>.loc j|_=>.no)
 |t=>t
theorem give_keep{t:Tg}(n:∀i,t≠ .out i)(e:own D=t):giveO own js D=t:=by
 unfold giveO;rw[e];cases t<;>first|rfl|exact absurd rfl (n _)
theorem give_out{i j:Nat}(e:own D= .out i)(h:js[i]? =some (some j)):giveO own js D= .loc j:=by
 unfold giveO;rw[e];simp only[h]
theorem SR0.give(Z:SR0 T c m bk fr led own h ⟨loc,P⟩)(O:Outs T bk led own vals outs)(hj:JsR c m js pv)(hl:pv.length=js.length)(hv:∀{i:Nat}{v},pv[i]? =some v→vals[i]? =some v):SR0 T c m bk fr led (giveO own js) h ⟨back js outs loc,P⟩:=by
 have kp:∀{t:Tg},(∀i,t≠ .out i)→Kp led own led (giveO own js) t:=@fun t n p hp e=>⟨hp,give_keep n e⟩;have new:∀{i j:Nat}{u:V}{C:Value→Prop}{x:Str},js[i]? =some (some j)→outs[i]? =some u→u.lin=true→c.ns[j]? =some x→(∀{v},m x=some v→c.pin[j]? ≠some none→Ow T bk led (giveO own js) (.loc j) u v→C v)→∃v,m x=some v∧C v:=fun{i j u C x}h1 h2 h3 h4 k=>by
  refine get_lt (l:=pv) (i:=i) (hl▸lt_of_get h1) fun v h5=>?_;obtain⟨q1,q2⟩:=hj h1 h5 h4;exact⟨v,q1,k q1 q2 ((O h2 h3 (hv h5)).imp fun y0_=>And.imp_right fun k p hp=>⟨(k p hp).1,give_out (k p hp).2 h1⟩)⟩
 refine⟨⟨Z.R.dj,fun p hp=>kp (t:=.im) nofun (Z.R.imm p hp).1 (Z.R.imm p hp).2,fun p hp=>kp (t:=.fr) nofun (Z.R.frm p hp).1 (Z.R.frm p hp).2,Z.R.frd,back_spec.1.trans Z.R.len,fun{j x u}hx hu=>?_⟩,Z.P.tr (fun k=>kp (t:=.at k) nofun) (kp (t:=.par) nofun),Z.F,Z.N,fun{j w x u}hp hx hu=>?_⟩
 ·rcases back_spec.2 hu with hu|⟨i,h1,h2,h3⟩
  ·exact(Z.R.loc hx hu).tr (kp (t:=.loc j) nofun)
  ·obtain⟨v,e,k⟩:=new (C:=fun v=>LocR T bk led (giveO own js) (.loc j) (some v) u) h1 h2 h3 hx fun y0_ y1_ o=>.ok o;exact e▸k
 ·rcases back_spec.2 hu with hu|⟨i,h1,h2,h3⟩
  ·exact Z.pin hp hx hu
  ·refine get_lt (l:=loc) (i:=j) (Z.R.len▸lt_of_get hx) fun u0 h0=>?_;have q:=Z.pin hp hx h0;cases w with
   |some w=>exact⟨q.1,.inl (lin_nl h3)⟩
   |none=>obtain⟨v,-,k⟩:=new (C:=fun v=>False) h1 h2 h3 hx fun y0_ n y1_=>n hp;exact k.elim
noncomputable def resC(js:List (Option Nat))(loc:List V):CR→R V
 | .ret u P outs=>.ok u ⟨back js outs loc,P⟩
 | .exc x=>.exc x loc
theorem CrP.of(q:EvP T c m bk fr (resC js loc r) Q Er)(l:bk.le bk')(hj:JsR c m js pv)(hl:pv.length=js.length)(hv:∀{i:Nat}{v},pv[i]? =some v→vals[i]? =some v):
  CrP T c m bk' fr loc vals r (fun r s'=>match r with| .ok (.ret v)=>Q v s'| .ok _=>False| .error e=>Er e s'):=by
 cases r with
 |ret u P outs=>exact fun Z sm l2 r o=>q ⟨.mk (Z.give o hj hl hv),sm⟩ (l.trans l2) r
 |exc x=>exact fun z=>q (z.up l)
theorem AOK.toC(hA:AOK c A d):AOC c A d:=⟨hA.frames,Nat.lt_of_le_of_lt (Nat.add_le_add_left (by decide) _) hA.depth,Nat.lt_of_le_of_lt (Nat.add_le_add_left (by decide) _) hA.units,hA.handled⟩
theorem Run.go{f:Nat}(H:Run T d f bs σ.P r)(g:Gd T d c A)(hD:FnOK T f){kw:List (Nat×V)}{kwv:List (Str×Value)}(hb:bindK (T.fn f) xs kw=some bs)(S:SR T c m bk' (fp++fr) s σ)(l:bk.le bk')(rv:RVs T bk' xs pv fp)(rk:All2 (KwR T bk') kw kwv)(hj:JsR c m js pv)(hl:pv.length=js.length)
  (q:EvP T c m bk fr (resC js σ.loc r) Q Er):Wp T A (call (.ref (T.fa f)) pv kwv) Q Er s:=
 bind_ok g.K.inj hD (S.hv g.C.X).X hb rv rk fun r2 hv B=>wpAny_call (H g.K g.C g.A.toC S r2 hD B (CrP.of q l hj hl hv))
end
end Mine.Internal
end
section
open PySem PySem.W PySem.Calls PyProof.Rows
namespace Mine.Internal
noncomputable section
variable{T:Tb} {c:Cx} {m m' m2:Str→Option Value} {bk bk' bk2:Bk} {fr fr' frc fp fv:Led} {A:Around} {Q Er:Value→Shared→Prop} {s s2:Shared} {u w a b:V} {v:Value} {σ σ' σ1 σ2:St} {d:Nat} {e t p:E} {x:Ex} {l:List V} {y:Value} {led led2:Led} {own own2:Own} {D:Addr} {loc loc2:List V} {es:List E} {xs ys bs outs:List V} {vs:Ar} {vals pv:List Value} {P P2:Pt} {g h h2 h₁:Heap} {L':Addr} {n k f i:Nat} {r:CR} {fl:Fl} {js:List (Option Nat)} {kw:List (Nat×E)} {kv:List (Nat×V)} {pos:Pos} {as:List Expr} {ks:List Keyword}
theorem SR.pin_no(S:SR T c m bk fr s σ)(hx:c.ns[i]? =some z)(hi:σ.loc[i]? =some u)(hu:u.lin=true):c.pin[i]? ≠some none:=fun q=>S.1.casesOn fun Z=>nomatch (lin_nl hu).symm.trans (Z.pin q hx hi)
theorem As'.ml{vs:Ar}(h:σ.loc[i]? =some u)(n:u.lin=true)(k:As' T d es ⟨σ.loc.set i .any,σ.P⟩ (.ok vs σ2)):As' T d (.loc i::es) σ (.ok ((u,some i)::vs) σ2):=@fun c y0_ g xs pos y1_ m y2_ y3_ hf S Q Er q=>
 fits_k (C:=fun xs=>wpAny _ _ (spliced (backTo pos (starEach xs c.env))) Q Er _) hf fun y0_ y1_ p f1 f2=>args_cons (xName_k f1 fun y p hn=>by
  have hn:=beq_iff_eq.mp hn;refine loc_ok g.C S hn h (lin_ab n) fun v e y0_=>S.mv hn h n fun{w f}e' r S'=>?_;obtain rfl:=Option.some.inj (e'.symm.trans e);exact k g f2 S' @fun y0_ y1_ pv fp S2 l2 r2 j=>q (fp:=_++fp) (List.append_assoc .. ▸S2.swap) l2 (.cons (r.mono l2) r2) (JsR.cons (fun{j x}e1 e2=>by cases e1;cases hn.symm.trans e2;exact⟨e,S.pin_no hn h n⟩) j)) (starEach_plain p)
noncomputable def pks(T:Tb)(σ:St):List (Nat×E)→Option (List (Nat×V))
 |[]=>some []
 |p::r=>(pe T σ p.2).bind fun v=>if v.nl=true then(pks T σ r).map ((p.1,v):: ·) else none
theorem kws_ok(g:Gd T d c A):∀{kw kv ks s}{Q:List Value→Shared→Prop},pks T σ kw=some kv→fitk T c.ns c.scope kw ks=true→SR T c m bk fr s σ→(∀{t vs},All2 (KwR T bk) kv (((backToKw pos (keywordEach ks c.env)).filterMap (·.1)).zip vs)→Q vs (tk s t))→wpAny (model T.prog T.w) A (evalAll ((backToKw pos (keywordEach ks c.env)).map (·.2))) Q Er s
 |[],kv,ks,s,Q,e,hf,S,q=>by
  obtain rfl:=nil_k hf;obtain rfl:=Option.some.inj e;exact kws_nil (q (t:=s.toks) (vs:=[]) .nil)
 |(k,x)::kw,kv,ks,s,Q,e,hf,S,q=>bind_k e fun v e1 e2=>ite_k e2 fun n e2=>map_k e2 fun kv' e3 e4=>by
  subst e4;cases ks with
  |nil=>exact absurd hf Bool.false_ne_true
  |cons w ks=>
   obtain⟨o,y,p⟩:=w;obtain rfl:=beq_iff_eq.mp (and_l (and_l hf));exact kws_cons (g.pe e1 (and_r (and_l hf)) S fun v1 t r=>kws_ok g (s:=tk s t) e3 (and_r hf) S fun{t' vs}r2=>q (t:=t') (.cons ⟨rfl,r.ofN n⟩ r2))
theorem FnOK.keep(h:FnOK T f):keepIn T.K (.ref (T.fa f))=true∧fnIn T.K (T.fa f)=true:=by
 have h1:=h.lk;have h2:=h.data;generalize (T.fd f).fo=o at h1 h2;obtain⟨cls,dd,data,sl⟩:=o;cases show data=_ from h2
 constructor
 ·unfold keepIn;simp only;rw[h1]
 ·unfold fnIn;rw[h1]
theorem any_none{l:List (Option Str×Sem Value)}(h:l.all (·.1.isSome)=true):l.any (·.1.isNone)=false:=by
 rw[List.any_eq_false];exact fun x hx q=>by have:=List.all_eq_true.mp h x hx;rw[Option.isNone_iff_eq_none.mp q] at this;exact nomatch this
theorem callW{K:Frag}{env:Env}{fv:Value}{first:List Value}(X:K.In h)(hk:keepIn K fv=true)(hall:(backToKw pos (keywordEach ks env)).all (·.1.isSome)=true)(hp:as.all plainE=true)
  (h:wpAny (model T.prog T.w) A (spliced (backTo pos (starEach as env))) (fun vs s₁=>wpAny (model T.prog T.w) A (evalAll ((backToKw pos (keywordEach ks env)).map (·.2))) (fun ks' s₂=>K.In s₂.heap∧wpAny (model T.prog T.w) A (call fv (first++vs) (((backToKw pos (keywordEach ks env)).filterMap (·.1)).zip ks')) Q Er s₂) Er s₁) Er s):
  wpAny (model T.prog T.w) A (callWith pos fv first (backTo pos (starEach as env)) (backToKw pos (keywordEach ks env))) Q Er s:=by
 have hpl:((backTo pos (starEach as env)).any (·.1)||(backToKw pos (keywordEach ks env)).any (·.1.isNone))=false:=by
  rw[backTo_any hp,any_none hall];rfl
 cases as with
 |nil=>exact fun Γ p hΓ=>callWith_KW0 X hk hall (h Γ p hΓ) hpl Γ p hΓ
 |cons a as=>exact callWith_KW X hk hall h hpl (starEach_plain (and_l hp))
theorem callA(g:Gd T d c A){fv:Value}(hD:keepIn T.K fv=true){first:List Value}(hf:(fits T c.ns c.scope es as&&fitk T c.ns c.scope kw ks)=true)(ha:As' T d es σ (.ok vs σ1))(hk:pks T σ1 kw=some kv)(S:SR T c m bk fr s σ)(hp:as.all plainE=true)(hall:(backToKw pos (keywordEach ks c.env)).all (·.1.isSome)=true)
  (k:∀{s bk' pv kwv fp},SR T c m bk' (fp++fr) s σ1→bk.le bk'→RVs T bk' (vs.map (·.1)) pv fp→JsR c m (vs.map (·.2)) pv→All2 (KwR T bk') kv kwv→Wp T A (call fv (first++pv) kwv) Q Er s):
  Wp T A (callWith pos fv first (backTo pos (starEach as c.env)) (backToKw pos (keywordEach ks c.env))) Q Er s:=
 callW g.C.X hD hall hp (ha g (and_l hf) S @fun s1 y0_ y1_ y2_ S1 l1 r1 j1=>(kws_ok g hk (and_r hf) S1 fun{t vs}r2=>⟨(S1.hv g.C.X).X,k (s:=tk s1 t) S1 l1 r1 j1 r2⟩))
theorem fit_plains:∀{es as}{ns sc},fits T ns sc es as=true→as.all plainE=true
 |[],as,_,_,h=>nil_k h▸rfl
 |e::es,as,_,_,h=>fits_k (C:=fun as=>as.all plainE=true) h fun y0_ y1_ p y2_ f=>(congr (congrArg and p) (fit_plains f)).trans rfl
theorem fitk_some{env:Env}:∀{kw ks}{ns sc},fitk T ns sc kw ks=true→(backToKw pos (keywordEach ks env)).all (·.1.isSome)=true
 |[],ks,_,_,h=>nil_k h▸rfl
 |p::kw,ks,_,_,h=>by
  cases ks with
  |nil=>exact absurd h Bool.false_ne_true
  |cons q ks=>obtain⟨o,y,p⟩:=q;obtain rfl:=beq_iff_eq.mp (and_l (and_l h));exact(Bool.true_and _).trans (fitk_some (and_r h))
theorem Ev.mcal(hi:σ.loc[i]? =some .self)(ha:(σ.P.lookup 1000).isSome=true)(h:As' T d es σ (.ok vs σ1))(hk:pks T σ1 kw=some kv)(hb:bindK (T.fn f) (.self::vs.map (·.1)) kv=some bs)(H:Run T d f bs σ1.P r):
  Ev T d (.mcal (.loc i) k f es kw) σ (resC (none::vs.map (·.2)) σ1.loc r):=@fun c A g x s m bk fr hf S Q Er q=>meth_k hf fun v y as ks pos p1 p2 hf=>xName_k (and_r (and_l hf)) fun z p' hz=>by
 have h4:=and_l (and_l hf);have hms:=List.contains_iff_mem.mp (and_r h4);have hM:=g.K.ms _ _ hms;rw[beq_iff_eq.mp (and_l (and_l h4))];refine loc_ok g.C S (beq_iff_eq.mp hz) hi nofun fun v y0_ r pl=>?_;obtain⟨x,rfl,hx⟩:=r.ofN rfl;refine S.alive g.C.X hx (of_decide_eq_true (and_r (and_l h4))) (fun N I a=>?_) fun y0_ e=>by rw[e] at ha;exact absurd ha Bool.false_ne_true
 refine method_inst S.F g.C.X I hM.pg hM.fi hM.fn (a.notin hM.pf) (callA g (g.K.fok _ _ (.inl hms)).keep.1 (and_r hf) h hk S p1 (fitk_some (and_r (and_r hf))) fun S1 l1 r1 j1 r2=>?_);exact H.go g (g.K.fok _ _ (.inl hms)) hb S1 l1 (.cons (f:=[]) (RN.rv (u:=.self) rfl ⟨x,rfl,l1.sx _ hx⟩) r1) r2 (JsR.cons (fun e=>no_some e) j1) (congrArg (· +1) (r1.len.trans (by rw[List.length_map,List.length_map]))) q
theorem Ev.fcal(h:As' T d es σ (.ok vs σ1))(hk:pks T σ1 kw=some kv)(hb:bindK (T.fn f) (vs.map (·.1)) kv=some bs)(H:Run T d f bs σ1.P r):
  Ev T d (.fcal k f es kw) σ (resC (vs.map (·.2)) σ1.loc r):=@fun c A g x s m bk fr hf S Q Er q=>xCall_k hf fun f' as ks pos hf=>xName_k (and_l (and_l hf)) fun y p hn=>by
 have hfs:=List.contains_iff_mem.mp (and_r (and_l hf));have hD:=g.K.fok _ _ (.inr hfs);refine wpAny_bind (nameX_K S.F g.C.X (topRead_of g.C.Tp) (beq_iff_eq.mp (and_l hn)▸g.K.fsr _ _ hfs) ?_ g.C.kind (beq_iff_eq.mp (and_l (and_r hn))) (not_r (and_r (and_r hn))));exact callA (first:=[]) g hD.keep.1 (and_r hf) h hk S (fit_plains (and_l (and_r hf))) (fitk_some (and_r (and_r hf))) fun S1 l1 r1 j1 r2=>H.go g hD hb S1 l1 r1 r2 j1 (r1.len.trans (by rw[List.length_map,List.length_map])) q
theorem Ev.vcal(hi:σ.loc[0]? =some .self)(hP:σ.P.lookup k=some (.meth f))(hb:bindK (T.fn f) [.self] []=some bs)(H:Run T d f bs σ.P r)(hF:FnOK T f):Ev T d (.vcal k) σ (resC [none] σ.loc r):=@fun c A g x s m bk fr hf S Q Er q=>meth_k hf fun v y as ks pos p1 p2 hf=>xName_k (and_r hf) fun z p' hz=>by
 have hk:=of_decide_eq_true (and_r (and_l hf));obtain rfl:=nil_k (and_l (and_l (and_l (and_l hf))));obtain rfl:=nil_k (and_r (and_l (and_l (and_l hf))));rw[beq_iff_eq.mp (and_r (and_l (and_l hf)))];refine loc_ok g.C S (beq_iff_eq.mp hz) hi nofun fun v y0_ r pl=>?_;have r:=RB.ofN (u:=.self) rfl r;obtain⟨x,rfl,hx⟩:=r;refine S.alive g.C.X hx hk (fun N I a=>?_) fun e y0_=>no_some (e.symm.trans hP);rw[hP] at a;cases a with|ok pf=>
 have hno:=g.K.nocls k pf;have hpg:=plainGet_of (and_l (and_l (g.K.pf k pf)));refine method_usual (S.hv g.C.X).X I hpg.1 hpg.2 hno rfl (attr_ok g.K.toTbOK S g.C.X (a:=.self) hk (u:=.meth f) (by unfold attrV;simp only[hP]) ⟨x,rfl,hx⟩ fun w t rw=>?_);cases rw.ofN rfl with|@mk qa y e1 e2=>
 obtain rfl:=Option.some.inj (hx.symm.trans e1);have S':SR T c m bk fr (tk s t) σ:=S;have H':=S'.hv g.C.X;refine callWith_M0 ⟨H'.I _ e2,H'.X⟩ hF.keep.2 (S'.1.casesOn fun Z=>call_meth Z.N (Z.R.imm _ e2).1 ?_);exact bind_ok (xs:=[.self]) (pv:=[.ref x]) (kwv:=[]) (fp:=[]) g.K.inj hF H'.X hb (.cons (f:=[]) (RN.rv (u:=.self) rfl ⟨x,rfl,hx⟩) .nil) .nil fun r2 hv B=>H g.K g.C g.A.toC (fp:=[]) S' r2 hF B (CrP.of (js:=[none]) q (.refl _) (JsR.cons (js:=[]) (pv:=[]) (fun e=>no_some e) (fun{i j v x}e=>no_some e)) rfl hv)
end
end Mine.Internal
end
section
open PySem PySem.W PySem.Calls PyProof.Rows
namespace Mine.Internal
noncomputable section
variable{T:Tb} {c:Cx} {m m' m2:Str→Option Value} {bk bk' bk2:Bk} {fr fr' frc fp fv:Led} {A:Around} {Q Er:Value→Shared→Prop} {s s2:Shared} {u w a b:V} {v:Value} {σ σ' σ1 σ2:St} {d:Nat} {e t p:E} {x:Ex} {l:List V} {y:Value} {led led2:Led} {own own2:Own} {D:Addr} {loc loc2:List V} {es:List E} {xs ys bs outs:List V} {vs:Ar} {vals pv:List Value} {P P2:Pt} {g h h2 h₁:Heap} {L':Addr} {n k f i:Nat} {r:CR} {fl:Fl} {js:List (Option Nat)}
noncomputable def crOf(np:Nat):R Fl→CR
 | .ok fl σ=>.ret (flV fl) σ.P (σ.loc.take np)
 | .exc x _=>.exc x
theorem Run.by{r2:R Fl}(hx:xs.length=(T.fn f).np)
  (H:∀{c A},Gd T d c A→c.pin.length≤(T.fn f).np→c.ns=(T.fd f).ns→c.scope=(T.fd f).scope→FnOK T f→∀{s m bk fr},SR T c m bk fr s ⟨locOf T f xs,P⟩→∀{Q Er},ExP T c bk fr r2 Q Er→wpAny (model T.prog T.w) A (execs (T.fd f).body c.env) Q Er s):Run T (d+1) f xs P (crOf (T.fn f).np r2):=
 @fun c A K0 C0 hA s m bk fr fp loc vals args S rv hD hB Rr hR=>S.1.casesOn fun{led own}Z=>by
  have hX:=(S.hv C0.X).X;have nd:=Z.R.frd;rw[List.map_append] at nd;obtain⟨τ,t⟩:=rv.tau (List.nodup_append.mp nd).1;refine callX_plain C0.B Z.F Z.N C0.Tp.nolimit hA.frames rfl C0.kind (hX _ _ hD.lk) hD.data (codeRec_of hX hD.code) (Nat.lt_of_le_of_lt (Nat.le_trans (Nat.le_add_right _ _) (Nat.le_add_right _ _)) hA.depth) hB (fun y hy=>?_) (fun g L' h₁ F1 F2 N2 B2 st lt=>?_) hD.nocell hD.co hD.gen hD.kind
  ·obtain⟨rest,hrest⟩:=hD.pre;exact(hD.loc y.1 (hrest▸List.mem_append_left _ (List.of_mem_zip hy).1)).1
  ·exact H (c:=c.call T f A s g L' xs vals) (s:={s with heap:=h₁,toks:=_}) ⟨K0,Cx.call_ok C0 hD B2 st,AOC.call hA⟩ (by rw[←hx];exact(List.length_zipWith ..).symm▸Nat.min_le_left ..) rfl rfl hD ⟨.mk (Z.enter rv t hD hx F2 N2),rfl,rfl,rfl⟩ (ExP.call (r2:=r2) (by cases r2<;>rfl) hA Z S.2 t.2 rv hx F1 F2.above hR)
theorem Run.of{r2:R Fl}(hx:xs.length=(T.fn f).np)(hc:∀{ns sc body},fitB T ns sc (T.fn f).code body=fitSs T ns sc (T.fn f).code body)(H:Exs T d (T.fn f).np (T.fn f).code ⟨locOf T f xs,P⟩ r2):Run T (d+1) f xs P (crOf (T.fn f).np r2):=
 Run.by hx @fun c A g e1 e2 e3 hD s m bk fr S Q Er q=>H g e1 (by rw[e2,e3];exact hc▸hD.body) S q
end
end Mine.Internal
end
section
open PySem PySem.W PySem.Calls PyProof.Rows
namespace Mine.Internal
noncomputable section
variable{T:Tb} {c:Cx} {m m' m2:Str→Option Value} {bk bk' bk2:Bk} {fr fr' frc fp fv f:Led} {A:Around} {Er:Value→Shared→Prop} {s s2:Shared} {u w a b:V} {v:Value} {σ σ' σ1 σ2:St} {d np:Nat} {e t p:E} {x:Ex} {l:List V} {y:Value} {led led2:Led} {own own2:Own} {D:Addr} {loc loc2:List V} {es:List E} {xs ys bs outs:List V} {vs:Ar} {vals pv:List Value} {P P2:Pt} {g h h2 h₁:Heap} {L':Addr} {n k i j:Nat} {fl:Fl} {ba bb:List S} {z:R Fl} {st:S}
noncomputable def R.bnd{α β:Type}(r:R α)(k:α→St→R β):R β:=match r with
 | .ok v σ=>k v σ
 | .exc x l=>.exc x l
theorem ExP.le{Q:Flow→Shared→Prop}(q:ExP T c bk fr z Q Er)(l:bk.le bk'):ExP T c bk' fr z Q Er:=by
 cases z with
 |ok=>exact @fun y0_ y1_ y2_ y3_ y4_ S l'=>q S (l.trans l')
 |exc=>exact @fun y0_ y1_ y2_ z=>q (z.up l)
theorem EvP.bnd{r:R V}{k:V→St→R Fl}{Q:Flow→Shared→Prop}{Q':Value→Shared→Prop}(q:ExP T c bk fr (r.bnd k) Q Er)(K:∀{v σ' s bk' w fp},r= .ok v σ'→SR T c m bk' (fp++fr) s σ'→bk.le bk'→RX T bk' v w fp→ExP T c bk' fr (k v σ') Q Er→Q' w s):EvP T c m bk fr r Q' Er:=by
 cases r with
 |ok v σ'=>exact @fun s bk' w fp S l r=>K rfl S l r (q.le l)
 |exc=>exact @fun y0_ y1_ z=>q z
theorem TrP.bnd{r:R Bool}{k:Bool→St→R Fl}{Q:Flow→Shared→Prop}{Q':Bool→Shared→Prop}(q:ExP T c bk fr (r.bnd k) Q Er)(K:∀{v σ' s bk'},SR T c m bk' fr s σ'→bk.le bk'→ExP T c bk' fr (k v σ') Q Er→Q' v s):TrP T c m bk fr r Q' Er:=by
 cases r with
 |ok v σ'=>exact @fun s bk' S l=>K S l (q.le l)
 |exc=>exact @fun y0_ y1_ z=>q z
open Classical in
noncomputable def Own.giv(own:Own)(f:Led)(t:Tg):Own:=fun a=>if a∈f.map (·.1) then t else own a
theorem Rel.giv{t:Tg}(R:Rel T c m bk (f++fr) led own loc){C:Prop}(k:(∀t',t'≠ .fr→Kp led own led (own.giv f t) t')→(∀p∈fr,p∈led∧own.giv f t p.1= .fr)→(∀p∈f,p∈led∧own.giv f t p.1=t)→(fr.map (·.1)).Nodup→C):C:=by
 have nd:=R.frd;rw[List.map_append] at nd;obtain⟨-,n2,n3⟩:=List.nodup_append.mp nd;refine k (fun t' n{p}hp e=>⟨hp,(if_neg fun q=>?_).trans e⟩) (fun p hp=>?_) (fun p hp=>⟨(R.frm p (List.mem_append_left _ hp)).1,if_pos (List.mem_map_of_mem hp)⟩) n2
 ·obtain⟨z,hz,ez⟩:=List.mem_map.mp q;exact n (e.symm.trans (ez▸(R.frm z (List.mem_append_left _ hz)).2))
 ·have q:=R.frm p (List.mem_append_right _ hp);exact⟨q.1,(if_neg fun z=>n3 _ z _ (List.mem_map_of_mem hp) rfl).trans q.2⟩
noncomputable def known:V→Bool
 | .any=>false
 |u=>u.nl
noncomputable def okS(np:Nat)(loc:List V)(i:Nat)(u:V):Bool:=(u.nl||u.lin)&&(decide (np≤i)||u.nl&&(match loc[i]?with|some w=>known w|none=>false))
theorem ns_inj(C0:c.OK T){x y:Str}(hx:c.ns[i]? =some x)(hy:c.ns[j]? =some y)(n:i≠j):y≠x:=fun q=>n ((List.getElem?_inj (List.getElem?_eq_some_iff.mp hx).1 C0.nd).mp (hx.trans (q▸hy.symm)))
theorem RX.stored(ok:okS np loc i u=true)(r:RX T bk u v f):RV T bk u v f:=lin_cases (Bool.or_eq_true_iff.mp (and_l ok)) r
theorem known_no{w:V}(h:known w=true):w.nl=true∧w≠ .any:=by
 cases w<;>first|exact absurd h Bool.false_ne_true|exact⟨rfl,fun q=>nomatch q⟩
theorem store_keep(C0:c.OK T)(hp:c.pin.length≤np)(S:SR T c m bk (f++fr) s σ)(r:RV T bk u v f){y:Str}(hx:c.ns[i]? =some y)(ok:okS np σ.loc i u=true){Q:Unit→Shared→Prop}(q:∀{m' s'},SR T c m' bk fr s' ⟨σ.loc.set i u,σ.P⟩→(∀b o,b≠c.L→s.heap.get? b=some o→s'.heap.get? b=some o)→Q () s'):wpAny (model T.prog T.w) A (storeName c.env y v) Q Er s:=S.1.casesOn fun{led own}Z=>by
 refine wpAny_storeName_local (C0.loc y (List.mem_of_getElem? hx)).1 Z.F.ns (fun h' hn hs=>q (s':={s with heap:=h',toks:=s.toks+1}) ⟨.mk (w:=own.giv f (.loc i)) ⟨?_,?_,Z.F.set hn hs,Z.N.set hs,?_⟩,S.2⟩ fun b o hb e=>(hs.2 b hb).trans e) (by show(c.scope.kind== .class||_)=false;rw[C0.kind];rfl)
 ·exact Z.R.giv fun kp frm ow nd=>Z.R.setL (fun t y0_ h2=>kp t h2) Z.R.dj frm nd (fun hy n=>if_neg (ns_inj C0 hx hy n)) fun{y'}hy=>by show LocR T bk led _ _ (if y'=y then some v else m y') u;rw[if_pos (Option.some.inj (hx.symm.trans hy)).symm];exact .ok ⟨f,r,ow⟩
 ·exact Z.R.giv fun kp y0_ y1_ y2_=>Z.P.tr (fun k=>kp (.at k) nofun) (kp .par nofun)
 ·intro j w z u2 h1 h2 h3;refine set_k h3 (fun e1 e2=>?_) fun n h3=>by show PinOk w (if z=y then some v else m z) u2;rw[if_neg (ns_inj C0 hx h2 n)];exact Z.pin h1 h2 h3
  subst e1 e2;obtain rfl:=Option.some.inj (hx.symm.trans h2);rcases Bool.or_eq_true_iff.mp (and_r ok) with o|o
  ·exact absurd (Nat.lt_of_lt_of_le (lt_of_get h1) hp) (Nat.not_lt.mpr (of_decide_eq_true o))
  ·refine get_lt (l:=σ.loc) (i:=i) (Z.R.len▸lt_of_get hx) fun w' hw=>?_;have o2:=and_r o;rw[hw] at o2;have k:=known_no o2;have pk:=Z.pin h1 h2 hw;cases w with
   |none=>exact and_l o
   |some=>exact pk.2.elim (fun q=>nomatch k.1.symm.trans q) fun q=>absurd q k.2
theorem store_ok(C0:c.OK T)(hp:c.pin.length≤np)(S:SR T c m bk (f++fr) s σ)(r:RV T bk u v f){y:Str}(hx:c.ns[i]? =some y)(ok:okS np σ.loc i u=true){Q:Unit→Shared→Prop}(q:∀{m' s'},SR T c m' bk fr s' ⟨σ.loc.set i u,σ.P⟩→Q () s'):wpAny (model T.prog T.w) A (storeName c.env y v) Q Er s:=
 store_keep C0 hp S r hx ok fun S y0_=>q S
theorem fn_env(C0:c.OK T):interactive c.env=false:=by
 unfold interactive;show(c.scope.kind== .module&&_)=false;rw[C0.kind];rfl
theorem swaps_no{v:Expr}{t:Option Expr}{l:Nat}{env:Env}(h:noComp v=true):swapsWith v t l env=pure false:=by
 cases v<;>first|rfl|exact absurd h Bool.false_ne_true
theorem Xs.expr{r:R V}(h:Ev T d e σ r):Xs T d np (.expr e) σ (r.bnd fun y0_ σ=>.ok .next σ):=@fun y0_ y1_ g y2_ st y3_ y4_ y5_ y6_ hf S y7_ y8_ q=>yExpr_k hf fun x p f=>wpAny_Expr_any (h g (and_r f) S (EvP.bnd q fun y0_ S l y1_ q=>q (fp:=[]) S.drop (.refl _) .next)) (fn_env g.C) (swaps_no (and_l f))
theorem Xs.ret{r:R V}(h:Ev T d e σ r)(n:isN e=false):Xs T d np (.ret e) σ (r.bnd fun v σ=>.ok (.ret v) σ):=@fun y0_ y1_ g y2_ st s m bk fr hf S Q Er q=>yRet_k hf fun o p f=>by
 cases o with
 |some x=>exact wpAny_Return_some (h g f S (EvP.bnd q fun y0_ S l r q=>q S (.refl _) (.ret r)))
 |none=>exact nomatch n.symm.trans f
theorem Xs.retN:Xs T d np (.ret .cN) σ (.ok (.ret .none) σ):=@fun y0_ y1_ g y2_ st s m bk fr hf S Q Er q=>yRet_k hf fun o p f=>by
 cases o with
 |some x=>exact wpAny_Return_some (Ev.p (u:=.none) rfl rfl g f S @fun y0_ y1_ y2_ y3_ S l r=>q S l (.ret r))
 |none=>exact wpAny_Return_none (q (fp:=[]) S (.refl _) (.ret (RN.rx (u:=.none) rfl rfl)))
theorem Xs.brk:Xs T d np .brk σ (.ok .brk σ):=@fun y0_ y1_ g y2_ st s m bk fr hf S Q Er q=>yBrk_k hf fun y0_ y1_=>wpAny_Break (q (fp:=[]) S (.refl _) .brk)
theorem Xs.pas:Xs T d np .pas σ (.ok .next σ):=@fun y0_ y1_ g y2_ st s m bk fr hf S Q Er q=>yPas_k hf fun y0_ y1_=>wpAny_Pass (q (fp:=[]) S (.refl _) .next)
theorem Xs.ass(h:Tr T d e σ (.ok true σ')):Xs T d np (.ass e) σ (.ok .next σ'):=@fun y0_ y1_ g y2_ st s m bk fr hf S Q Er q=>yAss_k hf fun y0_ y1_ y2_ f=>wpAny_Assert_holds (h g f S @fun y0_ y1_ S l=>⟨rfl,q (fp:=[]) S l .next⟩)
theorem Xs.iteT(h:Tr T d e σ (.ok true σ'))(k:Exs T d np ba σ' z):Xs T d np (.ite e ba bb) σ z:=@fun y0_ y1_ g n st s m bk fr hf S Q Er q=>yIf_k hf fun x y w p f=>wpAny_If (h g (and_l f) S @fun y0_ y1_ S l=>k g n (and_l (and_r f)) S (ExP.le q l))
theorem Xs.iteF(h:Tr T d e σ (.ok false σ'))(k:Exs T d np bb σ' z):Xs T d np (.ite e ba bb) σ z:=@fun y0_ y1_ g n st s m bk fr hf S Q Er q=>yIf_k hf fun x y w p f=>wpAny_If (h g (and_l f) S @fun y0_ y1_ S l=>k g n (and_r (and_r f)) S (ExP.le q l))
theorem Xs.iteX(h:Tr T d e σ (.exc x l)):Xs T d np (.ite e ba bb) σ (.exc x l):=@fun y0_ y1_ g n st s m bk fr hf S Q Er q=>yIf_k hf fun x y w p f=>wpAny_If (h g (and_l f) S @fun y0_ y1_ z=>q z)
theorem Exs.nil:Exs T d np [] σ (.ok .next σ):=@fun y0_ y1_ g n body s m bk fr hf S Q Er q=>nil_k hf▸wpAny_execs_nil (q (fp:=[]) S (.refl _) .next)
theorem Exs.cons(h:Xs T d np st σ (.ok .next σ'))(k:Exs T d np ba σ' z):Exs T d np (st::ba) σ z:=@fun y0_ y1_ g n body s m bk fr hf S Q Er q=>by
 cases body with
 |nil=>exact absurd hf Bool.false_ne_true
 |cons b body=>exact wpAny_execs_cons (h g n (and_l hf) S @fun y0_ y1_ y2_ y3_ y4_ S l f=>by cases f;exact k g n (and_r hf) S (q.le l))
noncomputable def R.stop:R Fl→Bool
 | .ok .next _=>false
 |_=>true
theorem Exs.stop(h:Xs T d np st σ z)(n:z.stop=true):Exs T d np (st::ba) σ z:=@fun y0_ y1_ g y2_ body s m bk fr hf S Q Er q=>by
 cases body with
 |nil=>exact absurd hf Bool.false_ne_true
 |cons b body=>
  refine wpAny_execs_cons (h g ‹_› (and_l hf) S ?_);cases z with
  |exc=>exact @fun y0_ y1_ y2_ z=>q z
  |ok f σ'=>
   refine @fun y0_ y1_ y2_ y3_ y4_ S l f=>?_;cases f with
   |next=>exact absurd n Bool.false_ne_true
   |brk=>exact q S l .brk
   |ret r=>exact q S l (.ret r)
end
end Mine.Internal
end
section
open PySem PySem.W PySem.Calls PyProof.Rows
namespace Mine.Internal
noncomputable section
section
variable{M:Model} {A:Around} {E:Value→Shared→Prop} {s:Shared}
noncomputable def Held(base:Heap)(l:List Env)(e dx:Addr)(cls a0 fl:Value)(h:Heap):Prop:=
 base.StaysIn h∧base.get? e=none∧h.FunFrames base l∧∃oe vs,h.get? e=some oe∧oe.cls=cls∧oe.dict=some dx∧oe.data= .fields vs∧vs[0]? =some a0∧
  ∃T oT ts,vs[1]? =some (.ref T)∧base.get? T=none∧T≠e∧h.get? T=some oT∧oT.data= .fields ts∧ts[3]? =some fl
theorem held_flight{base:Heap}{l:List Env}{e dx:Addr}{cls a0 fl:Value}{o:Option Addr}{Q:Unit→Shared→Prop}(x:Held base l e dx cls a0 fl s.heap)
  (k:∀h',Held base l e dx cls a0 (o.elim Value.none fun f=>rawInt f) h'→s.heap.UpToSlots h'→Q () {s with heap:=h'}):wpAny M A (setFlight (.ref e) o) Q E s:=by
 obtain⟨a,b,c,oe,vs,d1,d2,d3,d4,d5,T,oT,ts,e1,e2,e3,e4,e5,e6⟩:=x;have hz:=(Array.getElem?_eq_some_iff.mp e6).1;have other:∀b,b≠T→(s.heap.update T (Obj.mapFields (·.setIfInBounds 3 (o.elim Value.none fun f=>rawInt f)))).get? b=s.heap.get? b:=fun b hb=>Heap.get?_update_other _ _ (Ne.symm hb);have nT:∀b o,s.heap.get? b=some o→(∀ws,o.data≠ .fields ws)→b≠T:=fun b o q1 q2 z=>by rw[z,e4] at q1;cases q1;exact q2 ts e5
 unfold setFlight;refine wpAny_bind (wpAny_field d1 d4 e1 ?_);rw[if_pos (show(Value.ref T !=Value.none)=true from by simp)];refine wpAny_setField e4 e5 hz (k _ ⟨fun b o q=>(other b fun z=>by rw[z,e2] at q;cases q).trans (a b o q),b,c.of_keeps fun b o q1 q2=>⟨o,(other b (nT b o q1 q2)).trans q1,rfl⟩,oe,vs,(other e (Ne.symm e3)).trans d1,d2,d3,d4,d5,
  T,_,_,e1,e2,e3,Heap.get?_update_self _ e4 (Obj.isFreed_of_fields (Obj.data_mapFields e5 _)),Obj.data_mapFields e5 _,by simp[hz]⟩ fun b o q1 q2=>⟨o.slots,(other b (nT b o q1 q2)).trans q1⟩)
end
variable{T:Tb} {c:Cx} {m:Str→Option Value} {bk bk':Bk} {fr fp:Led} {A:Around} {Er:Value→Shared→Prop} {s:Shared} {σ σ':St} {d np:Nat}
@[reducible] noncomputable def Cx.turn (c:Cx) (g:Heap) (ns:List Str):Cx:={c with h₀:=g,ns:=ns}
theorem caught_any(C0:c.OK T)(hfr:A.frames=some (c.env::c.outer)){x:Ex}{l:List V}{e:Value}(R:Rz T c m bk fr x l e s){y n:Str}{np pos:Pos}{b₀:Stmt}{suite:List Stmt}
  (hy:nsIn T.K mainGlobals y=some (some (.ref x.C))) (hC:ktsIn T.K x.C "BaseException"=true) (hg:glbN c.scope y=true) (hpin:Pin c m l)
  {Q:Flow→Shared→Prop} {E:Value→Shared→Prop}
  (k:∀{ea g' h' bk'},e= .ref ea→KtsTurn (c.outer.filterMap (·.frame)) c.h₀ g'→(c.turn g' c.ns).OK T→bk.le bk'→RN T bk' (.inst x.C x.fs) e→SR T (c.turn g' c.ns) m bk' fr {s with heap:=h'} ⟨l,[(9999,.any)]⟩→
   ∀{Er1:Value→Shared→Prop}{Er2:Shared→Value→Shared→Prop},wpAny (model T.prog T.w) (A.mark (some e)) (storeName c.env n e) (fun y0_ s₂=>wpAny (model T.prog T.w) (A.mark (some e)) (execs (b₀::suite) c.env) (fun f s₃=>wpAny (model T.prog T.w) A (do bindName c.env n .none;unbindBehindTheSuite c.env n pos) (fun y0_ s₄=>Q f s₄) E s₃) (Er2 s₂) s₂) Er1 {s with heap:=h'}):
  wpAny (model T.prog T.w) A (noteFrame e c.env) (fun y0_ s₂=>wpAny (model T.prog T.w) A (setFlight e none) (fun y0_ s₃=>wpAny (model T.prog T.w) A (handleBy e c.env [.ExceptHandler (some (.Name y np)) (some n) (b₀::suite) pos]) Q E s₃) E s₂) E s:=by
 cases R with|@mk bk' led own G ea dx _ q1 Rl sm hE Fl F qU=>
 cases hE with|@mk es n' hd1 hd2 hfa=>
 cases Fl with|@mk B a0 b1 b2 b3 b4=>
 refine note_any hfr rfl b4 fun h1 n1 u1=>?_;refine held_flight (s:={s with heap:=h1}) (fl:=rawInt c.L) n1 fun h5 n5 u5=>?_;have hsm5:G.UpToSlots h5:=(qU.trans u1).trans u5;obtain⟨g5,T5,F5,K5⟩:=kts_ground (name:=c.qual) (scope:=c.scope) (a:=c.f) (cd:=c.cd) C0.B F b2 n5.1 hsm5;have X5:T.K.In g5:=C0.XB.keeps K5.stays;obtain⟨nm,q',N,bs,bm,hdct,sn,sub,ab,col,dd,k0,k1,k2,k3,k5,newId,hCl,hbase,hbT⟩:=kts_cls X5 hC;have hC5:=F5.keep _ _ hCl;obtain⟨-,-,-,ob,obv,hob,hobc,-⟩:=id n5;refine wpAny_handleBy_cons (codeAny_handlers_test (nameX_K F5 X5 (topRead_of (C0.TB.keeps K5.stays)) hy ?_ C0.kind (beq_iff_eq.mp (and_l hg)) (not_r (and_r hg)))) (by intro q;cases q);refine wpAny_excMatches_sub_self hC5 hob hobc hbase (codeAny_handlers_suite_as ?_);refine held_flight (s:={s with heap:=h5}) n5 fun h6 n6 u6=>?_;have hsm6:G.UpToSlots h6:=hsm5.trans u6;obtain⟨g6,T6,F6,K6⟩:=kts_ground (name:=c.qual) (scope:=c.scope) (a:=c.f) (cd:=c.cd) C0.B F b2 n6.1 hsm6;obtain⟨w1,w2,w3,oe,ws,hoe,hoec,hoedx,hoed,-⟩:=n6;have hL:B.get? c.L=none:=by
  obtain⟨_,⟨L',_,hf,hn',_⟩,_⟩:=w3;obtain rfl:c.L=L':=Option.some.inj hf;exact hn'
 have ne6:g6.get? ea=none:=T6.none_ _ (kts_fresh (name:=c.qual) (scope:=c.scope) (a:=c.f) (cd:=c.cd) F b2 w2 fun o ho mm=>by
  obtain⟨_,o',ho',hd⟩:=C0.B.frames.mem mm;rw[ho] at ho';cases ho';obtain⟨sl,hs⟩:=hsm6 _ _ (F.keep _ _ ho) hd;rw[hoe] at hs;cases hs;exact hd _ hoed)
 have hne:ea≠c.L:=fun z=>by
  obtain⟨oL,es',ep,hLo,hLd,-⟩:=F6.ns;rw[z,hLo] at hoe;cases hoe;rw[hLd] at hoed;cases hoed
 have C6:(c.turn g6 c.ns).OK T:=⟨K6,C0.XB.keeps K6.stays,C0.TB.keeps K6.stays,C0.XB,C0.TB,C0.kind,C0.loc,C0.nd⟩;have lb:=bk'.le_add ea oe;have hnot:∀p∈led,p.1≠ea:=fun p hp z=>no_some (w2.symm.trans (z▸(b3 p hp).1));have N0:News g6 c.L h6 led:=fun p hp=>let⟨p1,p2,_⟩:=b3 p hp;⟨w1 _ _ p1,(fun z=>no_some (hL.symm.trans (z▸p1))),T6.none_ _ (kts_none F.keep p2)⟩
 have Z0:SR0 T (c.turn g6 c.ns) m bk' fr led own h6 ⟨l,[(9999,.any)]⟩:=⟨⟨Rl.dj,Rl.imm,Rl.frm,Rl.frd,Rl.len,Rl.loc⟩,.dead,F6,N0,hpin⟩;exact k rfl T6 C6 (q1.trans lb) ⟨es,.of (hd2.imp fun⟨a,b,c,e,r⟩=>⟨a,b,c,e,r.mono lb⟩),.mk (Bk.mem_add ..) hoec (by unfold notCls;rw[hoed]) hoedx (lb.I _ hd1) hfa⟩ ⟨.mk (Z0.addI F6 (fun p hp=>(List.mem_cons.mp hp).elim (fun e=>e▸⟨hoe,hne,ne6⟩) (N0 p)) hnot),sm⟩
theorem SR.ungo(C0:c.OK T){n:Str}{ns3:List Str}(hns:c.ns=ns3++[n]){l3:List V}{V₀:V}{P:Pt}(hl:l3.length=ns3.length)(S:SR T c m bk fr s ⟨l3++[V₀],P⟩){pos:Pos}{Q:Unit→Shared→Prop}
  (q:∀{s' m'},SR T (c.turn c.h₀ ns3) m' bk fr s' ⟨l3,P⟩→Q () s'):wpAny (model T.prog T.w) A (do bindName c.env n .none;unbindBehindTheSuite c.env n pos) Q Er s:=S.1.casesOn fun{led own}Z=>by
 have hnd:=C0.nd;rw[hns] at hnd;have hx:n∉ns3:=fun hm=>(List.nodup_append.mp hnd).2.2 n hm n (.head _) rfl;have up:∀{i:Nat}{x:Str},ns3[i]? =some x→c.ns[i]? =some x:=fun{i x}h=>by rw[hns,List.getElem?_append_left (lt_of_get h)];exact h
 have ul:∀{i:Nat}{u:V},l3[i]? =some u→(l3++[V₀])[i]? =some u:=fun{i u}h=>by rw[List.getElem?_append_left (lt_of_get h)];exact h
 have hm:∀{i:Nat}{x:Str}{v:Option Value},ns3[i]? =some x→(if x=n then v else m x)=m x:=@fun i x v h=>if_neg fun q:x=n=>hx (q▸List.mem_of_getElem? h);refine wpAny_nameGoes_keeps (C0.loc n (hns▸List.mem_append_right _ (.head _))).1 Z.F.ns (by show(c.scope.kind== .class||_)=false;rw[C0.kind];rfl) fun h' v hn' hs=>q (s':={s with heap:=h',toks:=s.toks+1}) (m':=fun y=>if y=n then v else m y) ⟨.mk (l:=led) (w:=own) ⟨⟨Z.R.dj,Z.R.imm,Z.R.frm,Z.R.frd,hl,fun{i x u}a b=>?_⟩,Z.P,Z.F.set hn' hs,Z.N.set hs,fun{i w x u}h1 h2 h3=>?_⟩,S.2⟩
 ·show LocR T bk led own (.loc i) (if x=n then v else m x) u;rw[hm a];exact Z.R.loc (up a) (ul b)
 ·show PinOk w (if x=n then v else m x) u;rw[hm h2];exact Z.pin h1 (up h2) (ul h3)
end
end Mine.Internal
end
section
open PySem PySem.W PySem.Calls PyProof.Rows
namespace Mine.Internal
noncomputable section
variable{T:Tb} {c:Cx} {m:Str→Option Value} {bk bk':Bk} {fr fp:Led} {A:Around} {Er:Value→Shared→Prop} {s:Shared} {σ σ':St} {d np f:Nat} {xs:List V} {vals:List Value} {out:V}
theorem call_turn(hD:FnOK T f)(hcl:(T.fd f).cl=[])(C0:c.OK T)(ho:c.outer=[])(hc:c.cl=[])(hA:AOC c A (d+1))(S:SR T c m bk fr s σ)(r:RVs T bk xs vals []){args:Args}(hb:BindsTo s (T.fd f).fd args ((pnames T f).zip vals))(hx:xs.length=(T.fn f).np)
  (body:∀{g L' s1 m1 fr1},(c.call T f A s g L' xs vals).OK T→SR T (c.call T f A s g L' xs vals) m1 bk fr1 s1 ⟨locOf T f xs,σ.P⟩→
   ∀{Q:Flow→Shared→Prop}{Er:Value→Shared→Prop},(∀{g' ns' s' m' bk' v fv loc Pout},KtsTurn [c.L] g g'→SR T ((c.call T f A s g L' xs vals).turn g' ns') m' bk' (fv++fr1) s' ⟨loc,Pout⟩→bk.le bk'→RX T bk' out v fv→Q (.ret v) s')→
   wpAny (model T.prog T.w) (A.deeper (c.call T f A s g L' xs vals).env) (execs (T.fd f).body (c.call T f A s g L' xs vals).env) Q Er s1)
  {Rr:Result→Shared→Prop} (h:∀{s' bk' v fv Pout},SR T c m bk' (fv++fr) s' ⟨σ.loc,Pout⟩→bk.le bk'→RX T bk' out v fv→Rr (.ok (.ret v)) s'):codeAny (model T.prog T.w) A (.call (.ref (T.fa f)) args) Rr s:=S.1.casesOn fun{led own}Z=>by
 have S0:SR0 T c m bk ([]++fr) led own s.heap ⟨σ.loc,σ.P⟩:=Z;obtain⟨τ,t⟩:=r.tau List.nodup_nil;have eD:(T.fd f).fd=fnOf (T.fd f).name (T.fd f).qual (T.fd f).params (T.fd f).body (T.fd f).scope (T.fd f).dV (T.fd f).kV (T.fd f).doc (T.fd f).pm (T.fd f).an (T.fd f).cdv (T.fd f).ct:=by unfold FnD.fd;rw[hcl]
 rw[eD] at hb;have hfr:=hA.frames;have eE:c.env=envOf c.qual c.scope c.L c.f c.cd:=by unfold Cx.env;rw[hc];rfl
 rw[ho,eE] at hfr;have B:=C0.B;rw[ho] at B;have hlk:T.K.lookup (T.fa f)=some ⟨(T.fd f).fo.cls,(T.fd f).fo.dict,.func (fnOf (T.fd f).name (T.fd f).qual (T.fd f).params (T.fd f).body (T.fd f).scope (T.fd f).dV (T.fd f).kV (T.fd f).doc (T.fd f).pm (T.fd f).an (T.fd f).cdv (T.fd f).ct),(T.fd f).fo.slots⟩:=by rw[hD.lk,←eD,←hD.data]
 refine code_defS0 (m:=m) B Z.F C0.X Z.N C0.Tp hfr hlk hD.code (Nat.lt_of_le_of_lt (Nat.le_trans (Nat.le_add_right _ _) (Nat.le_add_right _ _)) hA.depth) hb (fun y hy=>?_) (fun g L' h₁ F1 F2 N2 B2 X2 T2 D2=>?_) C0.kind hD.co hD.gen hD.kind hD.nocell
 ·obtain⟨rest,hrest⟩:=hD.pre;exact(hD.loc y.1 (hrest▸List.mem_append_left _ (List.of_mem_zip hy).1)).1
 have B3:Below A c.base (c.env::c.outer) g:=by rw[eE,ho];exact B2
 have C1:(c.call T f A s g L' xs vals).OK T:=⟨B3,X2,T2,C0.XB,C0.TB,hD.kind,fun x hx=>⟨(hD.loc x hx).1,(hD.loc x hx).2⟩,hD.nd⟩;have e1:envOf (T.fd f).qual (T.fd f).scope L' (T.fa f) (T.fd f).cdv=(c.call T f A s g L' xs vals).env:=by
  show _=envX _ _ _ _ _ (T.fd f).cl;rw[hcl];rfl
 rw[e1];refine body (s1:={s with heap:=h₁,toks:=s.toks+((pnames T f).zip vals).length}) C1 ⟨.mk (S0.enter r t hD hx F2 N2),rfl,rfl,rfl⟩ fun{g' ns' s' m' bk' v fv loc Pout}KT S2 l2 hr=>S2.1.casesOn fun{led2 own2}Z2=>?_;refine⟨g',L',m',led2,KT,Z2.F,Z2.N,fun F' N'=>h (fv:=fv) (Pout:=Pout) ⟨?_,S2.2.1.trans S.2.1,S2.2.2.1.trans S.2.2.1,S2.2.2.2.trans S.2.2.2⟩ l2 hr⟩;obtain⟨R,nfv⟩:=S0.R.back t.2 Z2.R l2;exact .mk ⟨R,Z2.P.tr (fun k{p}hp e=>⟨hp,back_keep (nfv hp fun q=>nomatch e.symm.trans q) e rfl⟩) (fun{p}hp e=>⟨hp,back_keep (nfv hp fun q=>nomatch e.symm.trans q) e rfl⟩),F',N',Z.pin⟩
end
end Mine.Internal
end
section
open PySem PySem.W PySem.Calls PyProof.Rows
namespace Mine.Internal
noncomputable section
variable{T:Tb} {c:Cx} {m:Str→Option Value} {bk bk':Bk} {fr fp:Led} {A:Around} {Q Er:Value→Shared→Prop} {s:Shared} {σ σ':St} {d np i:Nat} {xs us:List V} {es:List E}
theorem ps_hot(K:TbOK T)(C0:c.OK T){pos:Pos}{Q:List Value→Shared→Prop}:∀{es:List E}{us:List V}{vs:List Expr}{s:Shared},pes T σ es=some us→fits T c.ns c.scope es vs=true→SR T c m bk fr s σ→(∀{pv t},As T bk us pv→Q pv (tk s t))→
  wpAny (model T.prog T.w) A (spliced (backTo pos (starEach vs c.env))) Q Er s
 |[],_,vs,s,h,hf,S,q=>nil_k hf▸args_nil (q (t:=s.toks) (Option.some.inj h▸ .nil))
 |e::es,_,vs,s,h,hf,S,q=>bind_k h fun v e1 e2=>ite_k e2 fun n e2=>map_k e2 fun us e3 e4=>
  fits_k (C:=fun xs=>wpAny _ _ (spliced (backTo pos (starEach xs c.env))) Q Er _) hf fun y0_ y1_ p f1 f2=>args_cons ((pe_ok K C0 e).1 e1 f1 S fun v1 t r=>ps_hot K C0 (s:=tk s t) e3 f2 S fun{pv t'}r2=>q (t:=t') (e4▸ .cons (r.ofN n) r2)) (starEach_plain p)
theorem app_hot(K:TbOK T)(C0:c.OK T)(S:SR T c m bk fr s σ)(hi:σ.loc[i]? =some (.list xs))(hp:pes T σ es=some us)(hn:us.all V.nl=true)(hl:us.length≤SZ)(z:xs.length<SZ){x:Expr}(hf:fit T c.ns c.scope (.app (.loc i) (.tup es)) x=true)
  (q:∀{s' bk' v},SR T c m bk' fr s' (setPl σ (.list (xs++[.tup us])) (.loc i))→bk.le bk'→Q v s'):Wp T A (eval x c.env) Q Er s:=
 meth_k hf fun v y as ks pos hp' y0_ f=>nil_k (and_l (and_l (and_l f)))▸beq_iff_eq.mp (and_r (and_l (and_l f)))▸xName_k (and_r (and_l f)) fun y p hx=>loc_ok C0 S (beq_iff_eq.mp hx) hi nofun fun w0 e r pl=>list_slot (s:=s) r F.slot_list_append F.type_list_append
  (one1_k (C:=fun as=>as.all plainE=true→Wp T A (callWith pos (.builtin "list.append") [w0] (backTo pos (starEach as c.env)) _) Q Er _) (and_r f) (fun a ha hp1=>bm1 (and_l hp1) (xTup_k ha fun as' y0_ p2 f2=>Tuple_ (ps_hot K C0 hp (and_l f2) S fun{pv t'}rs=>SR.allocI (s:=tk s t') S fun led F1 N k=>newTuple_N F1 N (fun h' F' N'=>
   (k F' N' (lt_all N)).upd (v:=w0) (.loc hi) (.loc fun{z1}hz=>Option.some.inj (hz.symm.trans (beq_iff_eq.mp hx))▸e) @fun D vs kk led2 ev F2 N2 rs2 z' y0_ U up=>ev▸append_K F2 N2 U (fun h3 F3 N3=>q (up (rs2.app (.cons ⟨hl,_,.of (rs.imp (RN.mono (bk.le_add _ _))),.mk (.head _)⟩ .nil)) (by rw[List.length_append];exact z) F3 (List.push_toArray vs _▸N3)) (bk.le_add _ _)) (szL (n:=vs.length) (rs2.len▸z')))
   (szL (n:=pv.length) (rs.len▸hl))))) hp')
end
end Mine.Internal
end
section
open PySem PySem.W PySem.Calls PyProof.Rows
namespace Mine.Internal
noncomputable section
variable{T:Tb} {c:Cx} {m:Str→Option Value} {bk bk':Bk} {fr fp:Led} {A:Around} {Q Er:Value→Shared→Prop} {s:Shared} {σ σ':St} {d np i:Nat} {xs us:List V} {es:List E}
inductive RdEnd (T:Tb) (d:Nat) (iw:S) (tx:V) (P0:Pt) (es:List E) (CX:Addr) (due:List V):Prop
 |ok {P:Pt}:Xs T d 1 iw ⟨[tx,.self,.list [],.absent],P0⟩ (.ok .next ⟨[tx,.self,.list due,.absent],P⟩)→RdEnd T d iw tx P0 es CX due
 |exc {x:Ex} {G us:List V}:Xs T d 1 iw ⟨[tx,.self,.list [],.absent],P0⟩ (.exc x [tx,.self,.list G,.absent])→x.C=CX→pes T ⟨[tx,.self,.list G,.inst x.C x.fs],[(9999,.any)]⟩ es=some us→(us.all V.nl=true)→us.length≤SZ→G.length<SZ→due=G++[.tup us]→RdEnd T d iw tx P0 es CX due
theorem read_ok(g:Gd T d c A){n0 n1 n2 n3:Str}(hns:c.ns=[n0,n1,n2,n3])(hpl:c.pin.length≤1){i1 i2 iw:S}{st1 st2 tw st4:Stmt}{y:Str}{np' pos tpos sp:Pos}{se:Expr}{CX:Addr}{tx:V}{P0:Pt}{σ0 σ1:St}{due:List V}
  (f1:fitS T c.ns c.scope i1 st1=true) (f2:fitS T c.ns c.scope i2 st2=true) (f3:fitS T c.ns c.scope iw tw=true) (f4:∀ns,ns=[n0,n1,n2,n3]∨ns=[n0,n1,n2]→fitS T ns c.scope (.ret (.loc 2)) st4=true) (f5:fit T c.ns c.scope (.app (.loc 2) (.tup es)) se=true) (f6:noComp se=true)
  (hy:nsIn T.K mainGlobals y=some (some (.ref CX))) (hC:ktsIn T.K CX "BaseException"=true) (hg:glbN c.scope y=true) (hpin:∀{m:Str→Option Value}{G:List V},Pin c m [tx,.self,.list G,.absent])
  (h1:Xs T d 1 i1 σ0 (.ok .next σ1)) (h2:Xs T d 1 i2 σ1 (.ok .next ⟨[tx,.self,.list [],.absent],P0⟩)) (hR:RdEnd T d iw tx P0 es CX due) (S:SR T c m bk fr s σ0) {Q:Flow→Shared→Prop}
  (h:∀{g' ns' s' m' bk' v fv loc Pout},KtsTurn (c.outer.filterMap (·.frame)) c.h₀ g'→SR T (c.turn g' ns') m' bk' (fv++fr) s' ⟨loc,Pout⟩→bk.le bk'→RX T bk' (.list due) v fv→Q (.ret v) s'):
  wpAny (model T.prog T.w) A (execs [st1,st2,.Try [tw] [.ExceptHandler (some (.Name y np')) (some n3) [.Expr se sp] pos] [] [] tpos,st4] c.env) Q Er s:=by
 refine wpAny_execs_cons (h1 g hpl f1 S @fun s1 m1 b1 fl fp1 S1 l1 hfl=>?_);cases hfl;refine wpAny_execs_cons (h2 g hpl f2 S1 @fun s2 m2 b2 fl fp2 S2 l2 hfl=>?_);cases hfl;refine wpAny_execs_cons (wpAny_Try_except (wpAny_execs_cons ?_));cases hR with
 |ok hR=>
  refine hR g hpl f3 S2 @fun s3 m3 b3 fl fp3 S3 l3 hfl=>?_;cases hfl;refine wpAny_execs_nil (wpAny_execs_nil (wpAny_execs_cons ?_));refine(Xs.ret (np:=1) (Ev.mv (i:=2) (u:=.list due) rfl rfl) rfl) g hpl (by rw[hns];exact f4 _ (.inl rfl)) S3 @fun s4 m4 b4 fl fp4 S4 l4 hfl=>?_;cases hfl with
  |ret hr=>exact h (ns':=c.ns) KtsTurn.refl S4 (l1.trans (l2.trans (l3.trans l4))) hr
 |@exc x G us hR hx hp hn hl hz hd=>
  subst hx hd;refine hR g hpl f3 S2 @fun e s3 m3 R3=>?_;refine caught_any g.C g.A.frames R3 hy hC hg hpin @fun ea g' h' bk3 he KT C6 l6 hi S6 Er1 Er2=>?_;refine store_ok (np:=1) (u:=.inst x.C x.fs) C6 hpl (f:=[]) S6 (RN.rv rfl hi) (i:=3) (by show c.ns[3]? =_;rw[hns];rfl) rfl @fun m7 s7 S7=>?_;refine wpAny_execs_cons (wpAny_Expr_any ?_ (fn_env g.C) (swaps_no f6));refine app_hot (c:=c.turn g' c.ns) g.K.toTbOK C6 S7 (i:=2) (xs:=G) rfl hp hn hl hz f5 @fun s8 b8 v8 S8 l8=>wpAny_execs_nil ?_;refine SR.ungo C6 (n:=n3) (ns3:=[n0,n1,n2]) hns (l3:=[tx,.self,.list (G++[.tup us])]) rfl S8 @fun s9 m9 S9=>?_;have C9:(c.turn g' [n0,n1,n2]).OK T:=⟨C6.B,C6.X,C6.Tp,C6.XB,C6.TB,C6.kind,fun z hz=>g.C.loc z (by
   rw[hns];exact List.mem_append_left [n3] hz),(by
   have:=g.C.nd;rw[hns] at this;exact(List.nodup_append.mp (show([n0,n1,n2]++[n3]).Nodup from this)).1)⟩
  have G9:Gd T d (c.turn g' [n0,n1,n2]) A:=⟨g.K,C9,⟨g.A.frames,g.A.depth,g.A.units,g.A.handled⟩⟩;have hret:Xs T d 1 (.ret (.loc 2)) ⟨[tx,.self,.list (G++[.tup us])],[(9999,.any)]⟩ (.ok (.ret (.list (G++[.tup us]))) ⟨[tx,.self,.any],[(9999,.any)]⟩):=Xs.ret (Ev.mv rfl rfl) rfl;refine wpAny_execs_cons (hret G9 hpl (f4 _ (.inr rfl)) S9 @fun s4 m4 b4 fl fp4 S4 l4 hfl=>?_);cases hfl with
  |ret hr=>exact h (ns':=[n0,n1,n2]) KT S4 (l1.trans (l2.trans (l6.trans (l8.trans l4)))) hr
end
end Mine.Internal
end
section
open PySem PySem.W PySem.Calls PyProof.Rows
namespace Mine.Internal
noncomputable section
variable{T:Tb} {c:Cx} {m:Str→Option Value} {bk bk':Bk} {fr fp:Led} {A:Around} {Er:Value→Shared→Prop} {s:Shared} {σ σ':St} {d np i k f:Nat} {tx:V} {due:List V}
noncomputable def Turns(T:Tb)(c:Cx)(A:Around)(f:Nat)(tx:V)(P:Pt)(out:V):Prop:=∀{s0:Shared}{vals:List Value}{bk:Bk}{g:Heap}{L':Addr}{s1:Shared}{m1:Str→Option Value}{fr1:Led},(c.call T f A s0 g L' [tx] vals).OK T→SR T (c.call T f A s0 g L' [tx] vals) m1 bk fr1 s1 ⟨locOf T f [tx],P⟩→
 ∀{Q:Flow→Shared→Prop}{Er:Value→Shared→Prop},(∀{g' ns' s' m' bk' v fv loc Pout},KtsTurn [c.L] g g'→SR T ((c.call T f A s0 g L' [tx] vals).turn g' ns') m' bk' (fv++fr1) s' ⟨loc,Pout⟩→bk.le bk'→RX T bk' out v fv→Q (.ret v) s')→
 wpAny (model T.prog T.w) (A.deeper (c.call T f A s0 g L' [tx] vals).env) (execs (T.fd f).body (c.call T f A s0 g L' [tx] vals).env) Q Er s1
theorem ev_read(g:Gd T (d+1) c A)(ho:c.outer=[])(hc:c.cl=[])(hcl:(T.fd f).cl=[])(htx:tx.nl=true)(hi:pe T σ (.loc i)=some tx)(hnp:(T.fn f).np=1)(hb:bindK (T.fn f) [tx] []=some [tx]){out:V}(body:Turns T c A f tx σ.P out)
  (S:SR T c m bk fr s σ) {x:Expr} (hf:fit T c.ns c.scope (.fcal k f [.loc i] []) x=true) {Q:Value→Shared→Prop} (q:∀{s' bk' v fv Pout},SR T c m bk' (fv++fr) s' ⟨σ.loc,Pout⟩→bk.le bk'→RX T bk' out v fv→Q v s'):Wp T A (eval x c.env) Q Er s:=xCall_k hf fun f' as ks pos hf=>xName_k (and_l (and_l hf)) fun y p hn=>by
 have hfs:=List.contains_iff_mem.mp (and_r (and_l hf));have hD:=g.K.fok _ _ (.inr hfs);refine wpAny_bind (nameX_K S.F g.C.X (topRead_of g.C.Tp) (beq_iff_eq.mp (and_l hn)▸g.K.fsr _ _ hfs) ?_ g.C.kind (beq_iff_eq.mp (and_l (and_r hn))) (not_r (and_r (and_r hn))));have ha:As' T (d+1) [.loc i] σ (.ok [(tx,none)] σ):=As'.cons (Ev.p hi htx) (.inl htx) As'.nil;refine callA (first:=[]) (kv:=[]) g hD.keep.1 (and_r hf) ha rfl S (fit_plains (and_l (and_r hf))) (fitk_some (and_r (and_r hf))) @fun s1 b1 pv kwv fp S1 l1 r1 j1 r2=>?_;refine bind_ok g.K.inj hD (S1.hv g.C.X).X hb r1 r2 fun r3 hv B=>wpAny_call ?_;have hfp:fp=[]:=by
  have r1:RVs T b1 [tx] pv fp:=r1;cases r1 with
  |cons a b=>
   cases b;exact(List.append_nil _).trans ((RV.ofN htx).mp a).2
 subst hfp;exact call_turn hD hcl g.C ho hc g.A.toC S1 r3 B hnp.symm body fun S2 l2 hr=>q S2 (l1.trans l2) hr
end
end Mine.Internal
end
section
open PySem PySem.W PySem.Calls PyProof.Rows
namespace Mine.Internal
noncomputable section
variable{T:Tb} {bk:Bk} {s:Shared}
noncomputable def selfV(n:Nat):V→Bool:=n.rec (fun y0_=>false) fun y0_ K u=>match u with
 | .none| .bool _| .int _| .str _=>true
 | .tup xs=>xs.all K
 |_=>false
theorem selfV_k{n:Nat}{C:V→Prop}(h0:C .none)(hb:∀b,C (.bool b))(hi:∀i,C (.int i))(hs:∀x,C (.str x))(ht:∀xs,xs.all (selfV n)=true→C (.tup xs)){u:V}(h:selfV (n+1) u=true):C u:=by
 cases u with
 |none=>exact h0
 |bool b=>exact hb b
 |int i=>exact hi i
 |str x=>exact hs x
 |tup xs=>exact ht xs h
 |_=>exact absurd h Bool.false_ne_true
theorem eqs_of{n:Nat}{A:Around}(IH:∀{u va vb},selfV n u=true→RN T bk u va→RN T bk u vb→SeqAt.EqAt A s va vb true){xs:List V}{vs us:List Value}(hx:xs.all (selfV n)=true)(rs:As T bk xs vs)(rs':As T bk xs us):
  ∀j(h1:j<vs.toArray.size)(h2:j<us.toArray.size),SeqAt.EqAt A s vs.toArray[j] us.toArray[j] ((fun y0_=>true) j):=fun j h1 h2=>by
 have hj:j<xs.length:=rs.len▸h1;obtain⟨v1,q1,r1⟩:=rs.get (List.getElem?_eq_getElem hj);obtain⟨v2,q2,r2⟩:=rs'.get (List.getElem?_eq_getElem hj);have e1:vs.toArray[j]=v1:=Option.some.inj ((List.getElem?_eq_getElem _).symm.trans q1);have e2:us.toArray[j]=v2:=Option.some.inj ((List.getElem?_eq_getElem _).symm.trans q2);rw[e1,e2];exact IH (List.all_eq_true.mp hx _ (List.getElem_mem hj)) r1 r2
theorem all_tt{n:Nat}:(List.range n).all (fun y0_=>true)=true:=List.all_eq_true.mpr fun y0_ y1_=>rfl
theorem eq_self(H:Hv T s.heap bk):∀{n:Nat}{A:Around}{u:V}{va vb:Value},selfV n u=true→RN T bk u va→RN T bk u vb→A.units+n<cLine→SeqAt.EqAt A s va vb true
 |0,_,_,_,_,h,_,_,_=>absurd h Bool.false_ne_true
 |n+1,A,u,va,vb,h,ra,rb,hu=>selfV_k (C:=fun u=>RN T bk u va→RN T bk u vb→SeqAt.EqAt A s va vb true)
  (fun ra rb=>(show va= .none from ra).symm▸(show vb= .none from rb).symm▸ .same _) (fun b ra rb=>(show va= .bool b from ra).symm▸(show vb= .bool b from rb).symm▸ .same _)
  (fun i⟨t,e⟩⟨t',e'⟩=>e▸e'▸(beq_self_eq_true i▸SeqAt.EqAt.int_int (A:=A) (s:=s) i t i t'))
  (fun x⟨t,e,y0_⟩⟨t',e',y1_⟩=>e▸e'▸(beq_self_eq_true (⟨x.toArray⟩:Str)▸SeqAt.EqAt.str_str (A:=A) (s:=s) ⟨x.toArray⟩ t ⟨x.toArray⟩ t'))
  (fun xs hx ra rb=>by
   obtain⟨-,vs,rs,ha⟩:=ra;obtain⟨-,us,rs',hb⟩:=rb;cases ha with|@mk a ha=>
   cases hb with|@mk b hb=>
   by_cases q:a=b
   ·exact q▸ .same _
   ·refine .of_refs q ?_;have hl:vs.toArray.size=us.toArray.size:=rs.to.len.trans rs'.to.len.symm;have:=SeqAt.RcAt.tuples (A:=A) (s:=s) (e:=fun y0_=>true) (isTup_of (H.I _ ha)) (isTup_of (H.I _ hb)) (Nat.lt_of_le_of_lt (Nat.le_add_right _ _) hu) (eqs_of (fun k r1 r2=>eq_self H (n:=n) (A:=A.in1) k r1 r2 (by show A.units+1+n<cLine;omega)) hx rs.to rs'.to);rw[all_tt,hl,Bool.true_and,beq_self_eq_true] at this;exact this) h ra rb
theorem eq_lists(H:Hv T s.heap bk){n:Nat}{A:Around}{xs:List V}{a b:Addr}{vs us:List Value}(hx:xs.all (selfV n)=true)(rs:As T bk xs vs)(rs':As T bk xs us)(hl:s.heap.IsList a vs.toArray)(hb:s.heap.IsList b us.toArray)(hu:A.units+1+n<cLine):SeqAt.RcAt A s (.ref a) (.ref b) true:=by
 have hs:vs.toArray.size=us.toArray.size:=rs.len.trans rs'.len.symm;have:=SeqAt.RcAt.lists (A:=A) (s:=s) (e:=fun y0_=>true) hl hb hs (Nat.lt_of_le_of_lt (Nat.le_trans (Nat.le_add_right _ 1) (Nat.le_add_right _ n)) hu) (eqs_of (fun k r1 r2=>eq_self H (n:=n) (A:=A.in1) k r1 r2 hu) hx rs rs');rw[all_tt] at this;exact this
end
end Mine.Internal
end
section
open PySem PySem.W PySem.Calls PyProof.Rows
namespace Mine.Internal
noncomputable section
variable{T:Tb} {c:Cx} {m:Str→Option Value} {bk bk':Bk} {fr fp:Led} {A:Around} {Er:Value→Shared→Prop} {s:Shared} {σ σ':St} {d np i j k f n:Nat} {tx:V} {due:List V} {h:Heap}
inductive LstAt (T:Tb) (h:Heap) (bk:Bk) (us:List V):Value→Prop
 |mk {a:Addr} {vs:List Value}:As T bk us vs→h.IsList a vs.toArray→LstAt T h bk us (.ref a)
theorem lst_at{v:Value}(r:RB T h bk (.list due) v):LstAt T h bk due v:=by
 obtain⟨fp,r,hh⟩:=r;cases show LsR T bk due v fp from r with|@mk D vs n rs z=>exact .mk rs ⟨_,hh _ (.head _),rfl,_,rfl⟩
theorem law_last(g:Gd T (d+1) c A)(ho:c.outer=[])(hc:c.cl=[])(hcl:(T.fd f).cl=[])(htx:tx.nl=true)(hi:pe T σ (.loc i)=some tx)(hnp:(T.fn f).np=1)(hb:bindK (T.fn f) [tx] []=some [tx])(body:Turns T c A f tx σ.P (.list due))(hj:σ.loc[j]? =some (.list due))(hv:due.all (selfV n)=true)(hu:A.units+1+n<cLine)
  (S:SR T c m bk fr s σ) {st:Stmt} (hf:fitS T c.ns c.scope (.ret (.cmp .eq (.fcal k f [.loc i] []) (.loc j))) st=true) {Q:Flow→Shared→Prop} (q:∀{s' bk' fr' σ'},SR T c m bk' fr' s' σ'→Q (.ret (.bool true)) s'):wpAny (model T.prog T.w) A (exec st c.env) Q Er s:=yRet_k hf fun o p hf=>by
 cases o with
 |none=>exact absurd hf Bool.false_ne_true
 |some x=>
  refine wpAny_Return_some (xCmp_k hf fun l os rs p f1=>one1_k f1 fun o f1=>one1_k f1 fun y f1=>?_);have e0:=beq_iff_eq.mp (and_l (and_l f1));subst e0;refine wpAny_Compare1 (ev_read g ho hc hcl htx hi hnp hb body S (and_l (and_r f1)) @fun s1 b1 v fv Pout S1 l1 hr=>?_) (not_r (and_r (and_l f1)));refine xName_k (and_r (and_r f1)) fun y1 p1 hx=>loc_ok g.C S1 (beq_iff_eq.mp hx) hj nofun fun w e r=>?_;cases lst_at (hr.rb nofun S1) with|@mk a vs r1 h1=>
  cases lst_at r with|@mk b us r2 h2=>
  exact eq_lists (S1.hv g.C.X) hv r1 r2 h1 h2 hu _ _ _ _ (q S1)
end
end Mine.Internal
end
section
open PySem PySem.W PySem.Calls PyProof.Rows
namespace Mine.Internal
noncomputable section
noncomputable def fnD(o:Obj)(ns:List Str):FnD:=match o.data with
 | .func fd=>{fo:=o,name:=fd.name,qual:=fd.qualname,params:=fd.params,body:=(match fd.body with| .stmts b=>b|_=>[]),scope:=fd.scope,cl:=fd.closure,dV:=fd.defaults,kV:=fd.kwdefaults,doc:=fd.doc,pm:=fd.pyModule,an:=fd.annotations,cdv:=fd.code,ct:=fd.closureTuple,ns:=ns}
 |_=>{fo:=o,name:=⟨#[]⟩,qual:=⟨#[]⟩,params:=⟨[],[],none,[],[],none,[]⟩,body:=[],scope:=⟨.function,[],false,false,[]⟩,cl:=[],dV:=.none,kV:=.none,doc:=.none,pm:=.none,an:=none,cdv:=.none,ct:=.none,ns:=ns}
noncomputable def fnChk(K:Frag)(D:FnD)(ps:List Str):Bool:=
 codeIn K D.cdv D.qual&&D.scope.names.all (fun x=>x.2 != .cell)&& !D.scope.isCoroutine&& !D.scope.isGenerator&&D.scope.kind== .function&&(D.ns.take ps.length==ps)&&decide D.ns.Nodup&&D.ns.all (fun x=>D.scope.names.lookup x==some .local&& !(x==("__debug__":Str)))&&
 (D.params.posonlyargs.isEmpty&&D.params.args.map (·.arg)==ps&&D.params.vararg.isNone&&D.params.kwonlyargs.isEmpty&&D.params.kwarg.isNone)
theorem par_of{p:Arguments}{ps:List Str}(h:(p.posonlyargs.isEmpty&&p.args.map (·.arg)==ps&&p.vararg.isNone&&p.kwonlyargs.isEmpty&&p.kwarg.isNone)=true):∃as kd ds,p=⟨[],as,none,[],kd,none,ds⟩∧as.map (·.arg)=ps:=by
 obtain⟨po,as,va,ko,kd,kwa,ds⟩:=p;obtain rfl:=nil_k (l:=po) (and_l (and_l (and_l (and_l h))));obtain rfl:=none_of (o:=va) (and_r (and_l (and_l h)));obtain rfl:=nil_k (l:=ko) (and_r (and_l h));obtain rfl:=none_of (o:=kwa) (and_r h);exact⟨as,kd,ds,rfl,beq_iff_eq.mp (and_r (and_l (and_l (and_l h))))⟩
theorem fnG_of{T:Tb}{D:FnD}{a:Addr}{ps:List Str}(h1:T.K.lookup a=some D.fo)(h2:D.fo.data= .func D.fd)(h:fnChk T.K D ps=true):FnG T D a ps where
 lk:=h1
 data:=h2
 code:=and_l (and_l (and_l (and_l (and_l (and_l (and_l (and_l h)))))))
 nocell:=fun x hx=>bne_iff_ne.mp (List.all_eq_true.mp (and_r (and_l (and_l (and_l (and_l (and_l (and_l (and_l h)))))))) x hx)
 co:=not_r (and_r (and_l (and_l (and_l (and_l (and_l (and_l h)))))))
 gen:=not_r (and_r (and_l (and_l (and_l (and_l (and_l h))))))
 kind:=beq_iff_eq.mp (and_r (and_l (and_l (and_l (and_l h)))))
 par:=par_of (and_r h)
 pre:=⟨D.ns.drop ps.length,by
  have e:D.ns.take ps.length=ps:=beq_iff_eq.mp (and_r (and_l (and_l (and_l h))));exact(List.take_append_drop ps.length D.ns).symm.trans (congrArg (· ++_) e)⟩
 nd:=of_decide_eq_true (and_r (and_l (and_l h)))
 loc:=fun x hx=>let q:=List.all_eq_true.mp (and_r (and_l h)) x hx;⟨beq_iff_eq.mp (and_l q),not_r (and_r q)⟩
end
end Mine.Internal
end
section
open PySem PySem.W PySem.Calls PyProof.Rows
namespace Mine.Internal
noncomputable section
noncomputable def f_Reader_init:Fn:=⟨2,2,[none,none],[27,1],
 [(.setA 0 .cN),(.setA 1 .cN),(.setA 2 (.cI 0)),(.setA 3 (.cB true)),(.setA 4 (.cS [])),(.setA 5 (.cI 0)),(.setA 6 .cN),(.setA 7 .cN),(.setA 8 .cN),(.setA 9 (.cI 0)),(.setA 10 (.cI 0)),(.setA 11 (.cI 0)),(.ite (.tv (.isStr (.loc 1))) [(.setA 0 (.cS [60,117,110,105,99,111,100,101,32,115,116,114,105,110,103,62])),(.expr (.mcal (.loc 0) 26 5 [(.loc 1)] [])),(.setA 4 (.bin .add (.loc 1) (.cS [0])))] [])]⟩
noncomputable def f_Reader_peek:Fn:=⟨2,2,[none,some (.int 0)],[27,9],
 [(.tryN [(.ret (.sub (.attr (.loc 0) 4) (.bin .add (.attr (.loc 0) 5) (.loc 1))))])]⟩
noncomputable def f_Reader_prefix:Fn:=⟨2,2,[none,some (.int 1)],[27,29],
 [(.ite (.cmp .ge (.bin .add (.attr (.loc 0) 5) (.loc 1)) (.len (.attr (.loc 0) 4))) [(.expr (.mcal (.loc 0) 28 6 [(.loc 1)] []))] []),(.ret (.slice (.attr (.loc 0) 4) (.attr (.loc 0) 5) (.bin .add (.attr (.loc 0) 5) (.loc 1))))]⟩
noncomputable def f_Reader_forward:Fn:=⟨2,3,[none,some (.int 1)],[27,29],
 [(.ite (.cmp .ge (.bin .add (.bin .add (.attr (.loc 0) 5) (.loc 1)) (.cI 1)) (.len (.attr (.loc 0) 4))) [(.expr (.mcal (.loc 0) 28 6 [(.bin .add (.loc 1) (.cI 1))] []))] []),(.whl (.tv (.loc 1)) [(.asg [2] (.sub (.attr (.loc 0) 4) (.attr (.loc 0) 5))),(.augA 5 .add (.cI 1)),(.augA 9 .add (.cI 1)),(.ite (.or [(.cmp .isin (.loc 2) (.cS [10,133,8232,8233])),(.and [(.cmp .eq (.loc 2) (.cS [13])),(.cmp .ne (.sub (.attr (.loc 0) 4) (.attr (.loc 0) 5)) (.cS [10]))])]) [(.augA 10 .add (.cI 1)),(.setA 11 (.cI 0))] [(.ite (.cmp .ne (.loc 2) (.cS [65279])) [(.augA 11 .add (.cI 1))] [])]),(.aug 1 .sub (.cI 1))])]⟩
noncomputable def f_Reader_get_mark:Fn:=⟨1,1,[none],[27],
 [(.ite (.cmp .is (.attr (.loc 0) 1) .cN) [(.ret (.new 30 [(.attr (.loc 0) 0),(.attr (.loc 0) 9),(.attr (.loc 0) 10),(.attr (.loc 0) 11),(.attr (.loc 0) 4),(.attr (.loc 0) 5)] []))] [(.ret (.new 30 [(.attr (.loc 0) 0),(.attr (.loc 0) 9),(.attr (.loc 0) 10),(.attr (.loc 0) 11),.cN,.cN] []))])]⟩
noncomputable def f_Reader_check_printable:Fn:=⟨2,5,[none,none],[27,32],
 [(.forS 2 3 (.loc 1) [(.ite (.not (.tv (.fcal 31 7 [(.loc 3)] []))) [(.asg [4] (.bin .add (.bin .add (.attr (.loc 0) 9) (.bin .sub (.len (.attr (.loc 0) 4)) (.attr (.loc 0) 5))) (.loc 2))),.opq] [])])]⟩
noncomputable def f_Reader_update:Fn:=⟨2,2,[none,none],[27,29],
 [(.ite (.cmp .is (.attr (.loc 0) 6) .cN) [(.ret .cN)] [])]⟩
noncomputable def f_is_printable:Fn:=⟨1,1,[none],[33],
 [(.ret (.or [(.cmp .isin (.loc 0) (.cS [9,10,13,133])),(.cmp2 (.cS [32]) .le (.loc 0) .le (.cS [126])),(.cmp2 (.cS [160]) .le (.loc 0) .le (.cS [55295])),(.cmp2 (.cS [57344]) .le (.loc 0) .le (.cS [65533])),(.cmp2 (.cS [65536]) .le (.loc 0) .le (.cS [1114111]))]))]⟩
noncomputable def f_Scanner_init:Fn:=⟨2,2,[none,none],[27,1],
 [(.expr (.supi 0 [(.loc 1)])),(.setA 12 (.cB false)),(.setA 13 (.cI 0)),(.setA 14 (.lst [])),(.expr (.mcal (.loc 0) 34 20 [] [])),(.setA 15 (.cI 0)),(.setA 16 (.neg 1)),(.setA 17 (.lst [])),(.setA 18 (.cB true)),(.setA 19 .dic)]⟩
noncomputable def f_Scanner_check_token:Fn:=⟨2,2,[none,some .any],[27,38],
 [(.whl (.tv (.mcal (.loc 0) 35 12 [] [])) [(.expr (.mcal (.loc 0) 36 13 [] []))]),(.ite (.tv (.attr (.loc 0) 14)) [(.ite (.not (.tv (.loc 1))) [(.ret (.cB true))] []),(.ite (.cmp .isin (.attr (.sub (.attr (.loc 0) 14) (.cI 0)) 37) (.loc 1)) [(.ret (.cB true))] [])] []),(.ret (.cB false))]⟩
noncomputable def f_Scanner_peek_token:Fn:=⟨1,1,[none],[27],
 [(.whl (.tv (.mcal (.loc 0) 35 12 [] [])) [(.expr (.mcal (.loc 0) 36 13 [] []))]),(.ite (.tv (.attr (.loc 0) 14)) [(.ret (.sub (.attr (.loc 0) 14) (.cI 0)))] [(.ret .cN)])]⟩
noncomputable def f_Scanner_get_token:Fn:=⟨1,1,[none],[27],
 [(.whl (.tv (.mcal (.loc 0) 35 12 [] [])) [(.expr (.mcal (.loc 0) 36 13 [] []))]),(.ite (.tv (.attr (.loc 0) 14)) [(.augA 15 .add (.cI 1)),(.ret (.pop0 (.attr (.loc 0) 14)))] [])]⟩
noncomputable def f_Scanner_need_more_tokens:Fn:=⟨1,1,[none],[27],
 [(.ite (.tv (.attr (.loc 0) 12)) [(.ret (.cB false))] []),(.ite (.not (.tv (.attr (.loc 0) 14))) [(.ret (.cB true))] []),(.expr (.mcal (.loc 0) 39 15 [] [])),(.ite (.cmp .eq (.mcal (.loc 0) 40 14 [] []) (.attr (.loc 0) 15)) [(.ret (.cB true))] [])]⟩
noncomputable def f_Scanner_fetch_more_tokens:Fn:=⟨1,2,[none],[27],
 [(.expr (.mcal (.loc 0) 41 37 [] [])),(.expr (.mcal (.loc 0) 39 15 [] [])),(.expr (.mcal (.loc 0) 42 18 [(.attr (.loc 0) 11)] [])),(.asg [1] (.mcal (.loc 0) 43 1 [] [])),(.ite (.cmp .eq (.loc 1) (.cS [0])) [(.ret (.mcal (.loc 0) 44 21 [] []))] []),(.ite (.and [(.cmp .eq (.loc 1) (.cS [37])),(.tv .opq)]) [(.ret .opq)] []),(.ite (.and [(.cmp .eq (.loc 1) (.cS [45])),(.tv (.mcal (.loc 0) 45 32 [] []))]) [(.ret (.mcal (.loc 0) 46 22 [] []))] []),(.ite (.and [(.cmp .eq (.loc 1) (.cS [46])),(.tv .opq)]) [(.ret .opq)] []),(.ite (.cmp .eq (.loc 1) (.cS [91])) [(.ret .opq)] []),(.ite (.cmp .eq (.loc 1) (.cS [123])) [(.ret .opq)] []),(.ite (.cmp .eq (.loc 1) (.cS [93])) [(.ret .opq)] []),(.ite (.cmp .eq (.loc 1) (.cS [125])) [(.ret .opq)] []),(.ite (.cmp .eq (.loc 1) (.cS [44])) [(.ret .opq)] []),(.ite (.and [(.cmp .eq (.loc 1) (.cS [45])),(.tv (.mcal (.loc 0) 47 33 [] []))]) [(.ret (.mcal (.loc 0) 48 24 [] []))] []),(.ite (.and [(.cmp .eq (.loc 1) (.cS [63])),(.tv (.mcal (.loc 0) 49 34 [] []))]) [(.ret (.mcal (.loc 0) 50 25 [] []))] []),(.ite (.and [(.cmp .eq (.loc 1) (.cS [58])),(.tv (.mcal (.loc 0) 51 35 [] []))]) [(.ret (.mcal (.loc 0) 52 26 [] []))] []),(.ite (.cmp .eq (.loc 1) (.cS [42])) [(.ret .opq)] []),(.ite (.cmp .eq (.loc 1) (.cS [38])) [(.ret (.mcal (.loc 0) 53 27 [] []))] []),(.ite (.cmp .eq (.loc 1) (.cS [33])) [(.ret (.mcal (.loc 0) 54 28 [] []))] []),(.ite (.and [(.cmp .eq (.loc 1) (.cS [124])),(.not (.tv (.attr (.loc 0) 13)))]) [(.ret .opq)] []),(.ite (.and [(.cmp .eq (.loc 1) (.cS [62])),(.not (.tv (.attr (.loc 0) 13)))]) [(.ret .opq)] []),(.ite (.cmp .eq (.loc 1) (.cS [39])) [(.ret (.mcal (.loc 0) 55 29 [] []))] []),(.ite (.cmp .eq (.loc 1) (.cS [34])) [(.ret .opq)] []),(.ite (.tv (.mcal (.loc 0) 56 36 [] [])) [(.ret (.mcal (.loc 0) 57 31 [] []))] []),.opq]⟩
noncomputable def f_Scanner_next_possible_simple_key:Fn:=⟨1,4,[none],[27],
 [(.asg [1] .cN),(.forK 2 19 [(.asg [3] (.sub (.attr (.loc 0) 19) (.loc 2))),(.ite (.or [(.cmp .is (.loc 1) .cN),(.cmp .lt (.attr (.loc 3) 58) (.loc 1))]) [(.asg [1] (.attr (.loc 3) 58))] [])]),(.ret (.loc 1))]⟩
noncomputable def f_Scanner_stale_possible_simple_keys:Fn:=⟨1,3,[none],[27],
 [(.forL 1 (.keys (.attr (.loc 0) 19)) [(.asg [2] (.sub (.attr (.loc 0) 19) (.loc 1))),(.ite (.or [(.cmp .ne (.attr (.loc 2) 10) (.attr (.loc 0) 10)),(.cmp .gt (.bin .sub (.attr (.loc 0) 9) (.attr (.loc 2) 9)) (.cI 1024))]) [(.ite (.tv (.attr (.loc 2) 59)) [.opq] []),(.delI 19 (.loc 1))] [])])]⟩
noncomputable def f_Scanner_save_possible_simple_key:Fn:=⟨1,4,[none],[27],
 [(.asg [1] (.and [(.not (.attr (.loc 0) 13)),(.cmp .eq (.attr (.loc 0) 16) (.attr (.loc 0) 11))])),(.ite (.tv (.attr (.loc 0) 18)) [(.expr (.mcal (.loc 0) 60 17 [] [])),(.asg [2] (.bin .add (.attr (.loc 0) 15) (.len (.attr (.loc 0) 14)))),(.asg [3] (.new 61 [(.loc 2),(.loc 1),(.attr (.loc 0) 9),(.attr (.loc 0) 10),(.attr (.loc 0) 11),(.mcal (.loc 0) 62 4 [] [])] [])),(.setI 19 (.attr (.loc 0) 13) (.loc 3))] [])]⟩
noncomputable def f_Scanner_remove_possible_simple_key:Fn:=⟨1,2,[none],[27],
 [(.ite (.cmp .isin (.attr (.loc 0) 13) (.attr (.loc 0) 19)) [(.asg [1] (.sub (.attr (.loc 0) 19) (.attr (.loc 0) 13))),(.ite (.tv (.attr (.loc 1) 59)) [.opq] []),(.delI 19 (.attr (.loc 0) 13))] [])]⟩
noncomputable def f_Scanner_unwind_indent:Fn:=⟨2,3,[none,none],[27,11],
 [(.ite (.tv (.attr (.loc 0) 13)) [(.ret .cN)] []),(.whl (.cmp .gt (.attr (.loc 0) 16) (.loc 1)) [(.asg [2] (.mcal (.loc 0) 62 4 [] [])),(.setA 16 (.pop (.attr (.loc 0) 17))),(.expr (.app (.attr (.loc 0) 14) (.new 63 [(.loc 2),(.loc 2)] [])))])]⟩
noncomputable def f_Scanner_add_indent:Fn:=⟨2,2,[none,none],[27,11],
 [(.ite (.cmp .lt (.attr (.loc 0) 16) (.loc 1)) [(.expr (.app (.attr (.loc 0) 17) (.attr (.loc 0) 16))),(.setA 16 (.loc 1)),(.ret (.cB true))] []),(.ret (.cB false))]⟩
noncomputable def f_Scanner_fetch_stream_start:Fn:=⟨1,2,[none],[27],
 [(.asg [1] (.mcal (.loc 0) 62 4 [] [])),(.expr (.app (.attr (.loc 0) 14) (.new 64 [(.loc 1),(.loc 1)] [(8,(.attr (.loc 0) 8))])))]⟩
noncomputable def f_Scanner_fetch_stream_end:Fn:=⟨1,2,[none],[27],
 [(.expr (.mcal (.loc 0) 42 18 [(.neg 1)] [])),(.expr (.mcal (.loc 0) 60 17 [] [])),(.setA 18 (.cB false)),(.setA 19 .dic),(.asg [1] (.mcal (.loc 0) 62 4 [] [])),(.expr (.app (.attr (.loc 0) 14) (.new 65 [(.loc 1),(.loc 1)] []))),(.setA 12 (.cB true))]⟩
noncomputable def f_Scanner_fetch_document_start:Fn:=⟨1,1,[none],[27],
 [(.expr (.mcal (.loc 0) 66 23 [(.glb 67)] []))]⟩
noncomputable def f_Scanner_fetch_document_indicator:Fn:=⟨2,4,[none,none],[27,69],
 [(.expr (.mcal (.loc 0) 42 18 [(.neg 1)] [])),(.expr (.mcal (.loc 0) 60 17 [] [])),(.setA 18 (.cB false)),(.asg [2] (.mcal (.loc 0) 62 4 [] [])),(.expr (.mcal (.loc 0) 68 3 [(.cI 3)] [])),(.asg [3] (.mcal (.loc 0) 62 4 [] [])),(.expr (.app (.attr (.loc 0) 14) (.newv 1 [(.loc 2),(.loc 3)])))]⟩
noncomputable def f_Scanner_fetch_block_entry:Fn:=⟨1,4,[none],[27],
 [(.ite (.not (.tv (.attr (.loc 0) 13))) [(.ite (.not (.tv (.attr (.loc 0) 18))) [.opq] []),(.ite (.tv (.mcal (.loc 0) 70 19 [(.attr (.loc 0) 11)] [])) [(.asg [1] (.mcal (.loc 0) 62 4 [] [])),(.expr (.app (.attr (.loc 0) 14) (.new 71 [(.loc 1),(.loc 1)] [])))] [])] [.pas]),(.setA 18 (.cB true)),(.expr (.mcal (.loc 0) 60 17 [] [])),(.asg [2] (.mcal (.loc 0) 62 4 [] [])),(.expr (.mcal (.loc 0) 68 3 [] [])),(.asg [3] (.mcal (.loc 0) 62 4 [] [])),(.expr (.app (.attr (.loc 0) 14) (.new 72 [(.loc 2),(.loc 3)] [])))]⟩
noncomputable def f_Scanner_fetch_key:Fn:=⟨1,4,[none],[27],
 [(.ite (.not (.tv (.attr (.loc 0) 13))) [(.ite (.not (.tv (.attr (.loc 0) 18))) [.opq] []),(.ite (.tv (.mcal (.loc 0) 70 19 [(.attr (.loc 0) 11)] [])) [(.asg [1] (.mcal (.loc 0) 62 4 [] [])),(.expr (.app (.attr (.loc 0) 14) (.new 73 [(.loc 1),(.loc 1)] [])))] [])] []),(.setA 18 (.not (.attr (.loc 0) 13))),(.expr (.mcal (.loc 0) 60 17 [] [])),(.asg [2] (.mcal (.loc 0) 62 4 [] [])),(.expr (.mcal (.loc 0) 68 3 [] [])),(.asg [3] (.mcal (.loc 0) 62 4 [] [])),(.expr (.app (.attr (.loc 0) 14) (.new 74 [(.loc 2),(.loc 3)] [])))]⟩
noncomputable def f_Scanner_fetch_value:Fn:=⟨1,5,[none],[27],
 [(.ite (.cmp .isin (.attr (.loc 0) 13) (.attr (.loc 0) 19)) [(.asg [1] (.sub (.attr (.loc 0) 19) (.attr (.loc 0) 13))),(.delI 19 (.attr (.loc 0) 13)),(.expr (.ins (.attr (.loc 0) 14) (.bin .sub (.attr (.loc 1) 58) (.attr (.loc 0) 15)) (.new 74 [(.attr (.loc 1) 75),(.attr (.loc 1) 75)] []))),(.ite (.not (.tv (.attr (.loc 0) 13))) [(.ite (.tv (.mcal (.loc 0) 70 19 [(.attr (.loc 1) 11)] [])) [(.expr (.ins (.attr (.loc 0) 14) (.bin .sub (.attr (.loc 1) 58) (.attr (.loc 0) 15)) (.new 73 [(.attr (.loc 1) 75),(.attr (.loc 1) 75)] [])))] [])] []),(.setA 18 (.cB false))] [(.ite (.not (.tv (.attr (.loc 0) 13))) [(.ite (.not (.tv (.attr (.loc 0) 18))) [.opq] [])] []),(.ite (.not (.tv (.attr (.loc 0) 13))) [(.ite (.tv (.mcal (.loc 0) 70 19 [(.attr (.loc 0) 11)] [])) [(.asg [2] (.mcal (.loc 0) 62 4 [] [])),(.expr (.app (.attr (.loc 0) 14) (.new 73 [(.loc 2),(.loc 2)] [])))] [])] []),(.setA 18 (.not (.attr (.loc 0) 13))),(.expr (.mcal (.loc 0) 60 17 [] []))]),(.asg [3] (.mcal (.loc 0) 62 4 [] [])),(.expr (.mcal (.loc 0) 68 3 [] [])),(.asg [4] (.mcal (.loc 0) 62 4 [] [])),(.expr (.app (.attr (.loc 0) 14) (.new 76 [(.loc 3),(.loc 4)] [])))]⟩
noncomputable def f_Scanner_fetch_anchor:Fn:=⟨1,1,[none],[27],
 [(.expr (.mcal (.loc 0) 77 16 [] [])),(.setA 18 (.cB false)),(.expr (.app (.attr (.loc 0) 14) (.mcal (.loc 0) 78 38 [(.glb 79)] [])))]⟩
noncomputable def f_Scanner_fetch_tag:Fn:=⟨1,1,[none],[27],
 [(.expr (.mcal (.loc 0) 77 16 [] [])),(.setA 18 (.cB false)),(.expr (.app (.attr (.loc 0) 14) (.mcal (.loc 0) 80 39 [] [])))]⟩
noncomputable def f_Scanner_fetch_single:Fn:=⟨1,1,[none],[27],
 [(.expr (.mcal (.loc 0) 81 30 [] [(82,(.cS [39]))]))]⟩
noncomputable def f_Scanner_fetch_flow_scalar:Fn:=⟨2,2,[none,none],[27,82],
 [(.expr (.mcal (.loc 0) 77 16 [] [])),(.setA 18 (.cB false)),(.expr (.app (.attr (.loc 0) 14) (.mcal (.loc 0) 83 40 [(.loc 1)] [])))]⟩
noncomputable def f_Scanner_fetch_plain:Fn:=⟨1,1,[none],[27],
 [(.expr (.mcal (.loc 0) 77 16 [] [])),(.setA 18 (.cB false)),(.expr (.app (.attr (.loc 0) 14) (.mcal (.loc 0) 84 42 [] [])))]⟩
noncomputable def f_Scanner_check_document_start:Fn:=⟨1,1,[none],[27],
 [(.ite (.cmp .eq (.attr (.loc 0) 11) (.cI 0)) [(.ite (.and [(.cmp .eq (.mcal (.loc 0) 85 2 [(.cI 3)] []) (.cS [45,45,45])),(.cmp .isin (.mcal (.loc 0) 43 1 [(.cI 3)] []) (.cS [0,32,9,13,10,133,8232,8233]))]) [(.ret (.cB true))] [])] [])]⟩
noncomputable def f_Scanner_check_block_entry:Fn:=⟨1,1,[none],[27],
 [(.ret (.cmp .isin (.mcal (.loc 0) 43 1 [(.cI 1)] []) (.cS [0,32,9,13,10,133,8232,8233])))]⟩
noncomputable def f_Scanner_check_key:Fn:=⟨1,1,[none],[27],
 [(.ite (.tv (.attr (.loc 0) 13)) [(.ret (.cB true))] [(.ret (.cmp .isin (.mcal (.loc 0) 43 1 [(.cI 1)] []) (.cS [0,32,9,13,10,133,8232,8233])))])]⟩
noncomputable def f_Scanner_check_value:Fn:=⟨1,1,[none],[27],
 [(.ite (.tv (.attr (.loc 0) 13)) [(.ret (.cB true))] [(.ret (.cmp .isin (.mcal (.loc 0) 43 1 [(.cI 1)] []) (.cS [0,32,9,13,10,133,8232,8233])))])]⟩
noncomputable def f_Scanner_check_plain:Fn:=⟨1,2,[none],[27],
 [(.asg [1] (.mcal (.loc 0) 43 1 [] [])),(.ret (.or [(.cmp .notin (.loc 1) (.cS [0,32,9,13,10,133,8232,8233,45,63,58,44,91,93,123,125,35,38,42,33,124,62,39,34,37,64,96])),(.and [(.cmp .notin (.mcal (.loc 0) 43 1 [(.cI 1)] []) (.cS [0,32,9,13,10,133,8232,8233])),(.or [(.cmp .eq (.loc 1) (.cS [45])),(.and [(.not (.attr (.loc 0) 13)),(.cmp .isin (.loc 1) (.cS [63,58]))])])])]))]⟩
noncomputable def f_Scanner_scan_to_next_token:Fn:=⟨1,2,[none],[27],
 [(.ite (.and [(.cmp .eq (.attr (.loc 0) 9) (.cI 0)),(.cmp .eq (.mcal (.loc 0) 43 1 [] []) (.cS [65279]))]) [(.expr (.mcal (.loc 0) 68 3 [] []))] []),(.asg [1] (.cB false)),(.whl (.not (.tv (.loc 1))) [(.whl (.cmp .eq (.mcal (.loc 0) 43 1 [] []) (.cS [32])) [(.expr (.mcal (.loc 0) 68 3 [] []))]),(.ite (.cmp .eq (.mcal (.loc 0) 43 1 [] []) (.cS [35])) [(.whl (.cmp .notin (.mcal (.loc 0) 43 1 [] []) (.cS [0,13,10,133,8232,8233])) [(.expr (.mcal (.loc 0) 68 3 [] []))])] []),(.ite (.tv (.mcal (.loc 0) 86 45 [] [])) [(.ite (.not (.tv (.attr (.loc 0) 13))) [(.setA 18 (.cB true))] [])] [(.asg [1] (.cB true))])])]⟩
noncomputable def f_Scanner_scan_anchor:Fn:=⟨2,9,[none,none],[27,69],
 [(.asg [2] (.mcal (.loc 0) 62 4 [] [])),(.asg [3] (.mcal (.loc 0) 43 1 [] [])),(.ite (.cmp .eq (.loc 3) (.cS [42])) [(.asg [4] (.cS [97,108,105,97,115]))] [(.asg [4] (.cS [97,110,99,104,111,114]))]),(.expr (.mcal (.loc 0) 68 3 [] [])),(.asg [5] (.cI 0)),(.asg [6] (.mcal (.loc 0) 43 1 [(.loc 5)] [])),(.whl (.or [(.cmp2 (.cS [48]) .le (.loc 6) .le (.cS [57])),(.cmp2 (.cS [65]) .le (.loc 6) .le (.cS [90])),(.cmp2 (.cS [97]) .le (.loc 6) .le (.cS [122])),(.cmp .isin (.loc 6) (.cS [45,95]))]) [(.aug 5 .add (.cI 1)),(.asg [6] (.mcal (.loc 0) 43 1 [(.loc 5)] []))]),(.ite (.not (.tv (.loc 5))) [.opq] []),(.asg [7] (.mcal (.loc 0) 85 2 [(.loc 5)] [])),(.expr (.mcal (.loc 0) 68 3 [(.loc 5)] [])),(.asg [6] (.mcal (.loc 0) 43 1 [] [])),(.ite (.cmp .notin (.loc 6) (.cS [0,32,9,13,10,133,8232,8233,63,58,44,93,125,37,64,96])) [.opq] []),(.asg [8] (.mcal (.loc 0) 62 4 [] [])),(.ret (.newv 1 [(.loc 7),(.loc 2),(.loc 8)]))]⟩
noncomputable def f_Scanner_scan_tag:Fn:=⟨1,9,[none],[27],
 [(.asg [1] (.mcal (.loc 0) 62 4 [] [])),(.asg [2] (.mcal (.loc 0) 43 1 [(.cI 1)] [])),(.ite (.cmp .eq (.loc 2) (.cS [60])) [(.asg [3] .cN),(.expr (.mcal (.loc 0) 68 3 [(.cI 2)] [])),(.asg [4] (.mcal (.loc 0) 87 44 [(.cS [116,97,103]),(.loc 1)] [])),(.ite (.cmp .ne (.mcal (.loc 0) 43 1 [] []) (.cS [62])) [.opq] []),(.expr (.mcal (.loc 0) 68 3 [] []))] [(.ite (.cmp .isin (.loc 2) (.cS [0,32,9,13,10,133,8232,8233])) [(.asg [3] .cN),(.asg [4] (.cS [33])),(.expr (.mcal (.loc 0) 68 3 [] []))] [(.asg [5] (.cI 1)),(.asg [6] (.cB false)),(.whl (.cmp .notin (.loc 2) (.cS [0,32,13,10,133,8232,8233])) [(.ite (.cmp .eq (.loc 2) (.cS [33])) [(.asg [6] (.cB true)),.brk] []),(.aug 5 .add (.cI 1)),(.asg [2] (.mcal (.loc 0) 43 1 [(.loc 5)] []))]),(.asg [3] (.cS [33])),(.ite (.tv (.loc 6)) [(.asg [3] .opq)] [(.asg [3] (.cS [33])),(.expr (.mcal (.loc 0) 68 3 [] []))]),(.asg [4] (.mcal (.loc 0) 87 44 [(.cS [116,97,103]),(.loc 1)] []))])]),(.asg [2] (.mcal (.loc 0) 43 1 [] [])),(.ite (.cmp .notin (.loc 2) (.cS [0,32,13,10,133,8232,8233])) [.opq] []),(.asg [7] (.tup [(.loc 3),(.loc 4)])),(.asg [8] (.mcal (.loc 0) 62 4 [] [])),(.ret (.new 88 [(.loc 7),(.loc 1),(.loc 8)] []))]⟩
noncomputable def f_Scanner_scan_flow_scalar:Fn:=⟨2,7,[none,none],[27,82],
 [(.ite (.cmp .eq (.loc 1) (.cS [34])) [(.asg [2] (.cB true))] [(.asg [2] (.cB false))]),(.asg [3] (.lst [])),(.asg [4] (.mcal (.loc 0) 62 4 [] [])),(.asg [5] (.mcal (.loc 0) 43 1 [] [])),(.expr (.mcal (.loc 0) 68 3 [] [])),(.expr (.ext (.loc 3) (.mcal (.loc 0) 89 41 [(.loc 2),(.loc 4)] []))),(.whl (.cmp .ne (.mcal (.loc 0) 43 1 [] []) (.loc 5)) [(.expr (.ext (.loc 3) .opq)),(.expr (.ext (.loc 3) (.mcal (.loc 0) 89 41 [(.loc 2),(.loc 4)] [])))]),(.expr (.mcal (.loc 0) 68 3 [] [])),(.asg [6] (.mcal (.loc 0) 62 4 [] [])),(.ret (.new 90 [(.join (.loc 3)),(.cB false),(.loc 4),(.loc 6),(.loc 1)] []))]⟩
noncomputable def f_Scanner_scan_flow_scalar_non_spaces:Fn:=⟨3,8,[none,none,none],[27,93,94],
 [(.asg [3] (.lst [])),(.whl (.tv (.cB true)) [(.asg [4] (.cI 0)),(.whl (.cmp .notin (.mcal (.loc 0) 43 1 [(.loc 4)] []) (.cS [39,34,92,0,32,9,13,10,133,8232,8233])) [(.aug 4 .add (.cI 1))]),(.ite (.tv (.loc 4)) [(.expr (.app (.loc 3) (.mcal (.loc 0) 85 2 [(.loc 4)] []))),(.expr (.mcal (.loc 0) 68 3 [(.loc 4)] []))] []),(.asg [5] (.mcal (.loc 0) 43 1 [] [])),(.ite (.and [(.not (.tv (.loc 1))),(.cmp .eq (.loc 5) (.cS [39])),(.cmp .eq (.mcal (.loc 0) 43 1 [(.cI 1)] []) (.cS [39]))]) [(.expr (.app (.loc 3) (.cS [39]))),(.expr (.mcal (.loc 0) 68 3 [(.cI 2)] []))] [(.ite (.or [(.and [(.tv (.loc 1)),(.cmp .eq (.loc 5) (.cS [39]))]),(.and [(.not (.tv (.loc 1))),(.cmp .isin (.loc 5) (.cS [34,92]))])]) [(.expr (.app (.loc 3) (.loc 5))),(.expr (.mcal (.loc 0) 68 3 [] []))] [(.ite (.and [(.tv (.loc 1)),(.cmp .eq (.loc 5) (.cS [92]))]) [(.expr (.mcal (.loc 0) 68 3 [] [])),(.asg [5] (.mcal (.loc 0) 43 1 [] [])),(.ite (.cmp .isin (.loc 5) (.attr (.loc 0) 91)) [(.expr (.app (.loc 3) (.sub (.attr (.loc 0) 91) (.loc 5)))),(.expr (.mcal (.loc 0) 68 3 [] []))] [(.ite (.cmp .isin (.loc 5) (.attr (.loc 0) 92)) [(.asg [4] (.sub (.attr (.loc 0) 92) (.loc 5))),(.expr (.mcal (.loc 0) 68 3 [] [])),.opq,.opq,(.expr (.app (.loc 3) (.chr (.loc 7)))),(.expr (.mcal (.loc 0) 68 3 [(.loc 4)] []))] [(.ite (.cmp .isin (.loc 5) (.cS [13,10,133,8232,8233])) [(.expr (.mcal (.loc 0) 86 45 [] [])),(.expr (.ext (.loc 3) .opq))] [.opq])])])] [(.ret (.loc 3))])])])])]⟩
noncomputable def f_Scanner_scan_plain:Fn:=⟨1,8,[none],[27],
 [(.asg [1] (.lst [])),(.asg [2] (.mcal (.loc 0) 62 4 [] [])),(.asg [3] (.loc 2)),(.asg [4] (.bin .add (.attr (.loc 0) 16) (.cI 1))),(.asg [5] (.lst [])),(.whl (.tv (.cB true)) [(.asg [6] (.cI 0)),(.ite (.cmp .eq (.mcal (.loc 0) 43 1 [] []) (.cS [35])) [.brk] []),(.whl (.tv (.cB true)) [(.asg [7] (.mcal (.loc 0) 43 1 [(.loc 6)] [])),(.ite (.or [(.cmp .isin (.loc 7) (.cS [0,32,9,13,10,133,8232,8233])),(.and [(.cmp .eq (.loc 7) (.cS [58])),(.cmp .isin (.mcal (.loc 0) 43 1 [(.bin .add (.loc 6) (.cI 1))] []) (.bin .add (.cS [0,32,9,13,10,133,8232,8233]) (.ite (.tv (.attr (.loc 0) 13)) (.cS [44,91,93,123,125]) (.cS []))))]),(.and [(.tv (.attr (.loc 0) 13)),(.cmp .isin (.loc 7) (.cS [44,63,91,93,123,125]))])]) [.brk] []),(.aug 6 .add (.cI 1))]),(.ite (.cmp .eq (.loc 6) (.cI 0)) [.brk] []),(.setA 18 (.cB false)),(.expr (.ext (.loc 1) (.loc 5))),(.expr (.app (.loc 1) (.mcal (.loc 0) 85 2 [(.loc 6)] []))),(.expr (.mcal (.loc 0) 68 3 [(.loc 6)] [])),(.asg [3] (.mcal (.loc 0) 62 4 [] [])),(.asg [5] (.mcal (.loc 0) 95 43 [(.loc 4),(.loc 2)] [])),(.ite (.or [(.not (.tv (.loc 5))),(.cmp .eq (.mcal (.loc 0) 43 1 [] []) (.cS [35])),(.and [(.not (.tv (.attr (.loc 0) 13))),(.cmp .lt (.attr (.loc 0) 11) (.loc 4))])]) [.brk] [])]),(.ret (.new 90 [(.join (.loc 1)),(.cB true),(.loc 2),(.loc 3)] []))]⟩
noncomputable def f_Scanner_scan_plain_spaces:Fn:=⟨3,10,[none,none,none],[27,16,94],
 [(.asg [3] (.lst [])),(.asg [4] (.cI 0)),(.whl (.cmp .isin (.mcal (.loc 0) 43 1 [(.loc 4)] []) (.cS [32])) [(.aug 4 .add (.cI 1))]),(.asg [5] (.mcal (.loc 0) 85 2 [(.loc 4)] [])),(.expr (.mcal (.loc 0) 68 3 [(.loc 4)] [])),(.asg [6] (.mcal (.loc 0) 43 1 [] [])),(.ite (.cmp .isin (.loc 6) (.cS [13,10,133,8232,8233])) [(.asg [7] (.mcal (.loc 0) 86 45 [] [])),(.setA 18 (.cB true)),(.asg [8] (.mcal (.loc 0) 85 2 [(.cI 3)] [])),(.ite (.and [(.or [(.cmp .eq (.loc 8) (.cS [45,45,45])),(.cmp .eq (.loc 8) (.cS [46,46,46]))]),(.cmp .isin (.mcal (.loc 0) 43 1 [(.cI 3)] []) (.cS [0,32,9,13,10,133,8232,8233]))]) [(.ret .cN)] []),(.asg [9] (.lst [])),(.whl (.cmp .isin (.mcal (.loc 0) 43 1 [] []) (.cS [32,13,10,133,8232,8233])) [(.ite (.cmp .eq (.mcal (.loc 0) 43 1 [] []) (.cS [32])) [(.expr (.mcal (.loc 0) 68 3 [] []))] [(.expr (.app (.loc 9) (.mcal (.loc 0) 86 45 [] []))),(.asg [8] (.mcal (.loc 0) 85 2 [(.cI 3)] [])),(.ite (.and [(.or [(.cmp .eq (.loc 8) (.cS [45,45,45])),(.cmp .eq (.loc 8) (.cS [46,46,46]))]),(.cmp .isin (.mcal (.loc 0) 43 1 [(.cI 3)] []) (.cS [0,32,9,13,10,133,8232,8233]))]) [(.ret .cN)] [])])]),(.ite (.cmp .ne (.loc 7) (.cS [10])) [(.expr (.app (.loc 3) (.loc 7)))] [(.ite (.not (.tv (.loc 9))) [(.expr (.app (.loc 3) (.cS [32])))] [])]),(.expr (.ext (.loc 3) (.loc 9)))] [(.ite (.tv (.loc 5)) [(.expr (.app (.loc 3) (.loc 5)))] [])]),(.ret (.loc 3))]⟩
noncomputable def f_Scanner_scan_tag_uri:Fn:=⟨3,6,[none,none,none],[27,0,94],
 [(.asg [3] (.lst [])),(.asg [4] (.cI 0)),(.asg [5] (.mcal (.loc 0) 43 1 [(.loc 4)] [])),(.whl (.or [(.cmp2 (.cS [48]) .le (.loc 5) .le (.cS [57])),(.cmp2 (.cS [65]) .le (.loc 5) .le (.cS [90])),(.cmp2 (.cS [97]) .le (.loc 5) .le (.cS [122])),(.cmp .isin (.loc 5) (.cS [45,59,47,63,58,64,38,61,43,36,44,95,46,33,126,42,39,40,41,91,93,37]))]) [(.ite (.cmp .eq (.loc 5) (.cS [37])) [(.expr (.app (.loc 3) (.mcal (.loc 0) 85 2 [(.loc 4)] []))),(.expr (.mcal (.loc 0) 68 3 [(.loc 4)] [])),(.asg [4] (.cI 0)),(.expr (.app (.loc 3) .opq))] [(.aug 4 .add (.cI 1))]),(.asg [5] (.mcal (.loc 0) 43 1 [(.loc 4)] []))]),(.ite (.tv (.loc 4)) [(.expr (.app (.loc 3) (.mcal (.loc 0) 85 2 [(.loc 4)] []))),(.expr (.mcal (.loc 0) 68 3 [(.loc 4)] [])),(.asg [4] (.cI 0))] []),(.ite (.not (.tv (.loc 3))) [.opq] []),(.ret (.join (.loc 3)))]⟩
noncomputable def f_Scanner_scan_line_break:Fn:=⟨1,2,[none],[27],
 [(.asg [1] (.mcal (.loc 0) 43 1 [] [])),(.ite (.cmp .isin (.loc 1) (.cS [13,10,133])) [(.ite (.cmp .eq (.mcal (.loc 0) 85 2 [(.cI 2)] []) (.cS [13,10])) [(.expr (.mcal (.loc 0) 68 3 [(.cI 2)] []))] [(.expr (.mcal (.loc 0) 68 3 [] []))]),(.ret (.cS [10]))] [(.ite (.cmp .isin (.loc 1) (.cS [8232,8233])) [(.expr (.mcal (.loc 0) 68 3 [] [])),(.ret (.loc 1))] [])]),(.ret (.cS []))]⟩
noncomputable def f_Parser_init:Fn:=⟨2,2,[none,none],[27,1],
 [(.expr (.supi 8 [(.loc 1)])),(.setA 20 .cN),(.setA 21 .cN),(.setA 22 .dic),(.setA 23 (.lst [])),(.setA 24 (.lst [])),(.setA 25 (.meth 49 96))]⟩
noncomputable def f_Parser_peek_event:Fn:=⟨1,1,[none],[27],
 [(.ite (.cmp .is (.attr (.loc 0) 20) .cN) [(.ite (.tv (.attr (.loc 0) 25)) [(.setA 20 (.vcal 25))] [])] []),(.ret (.attr (.loc 0) 20))]⟩
noncomputable def f_Parser_get_event:Fn:=⟨1,2,[none],[27],
 [(.ite (.cmp .is (.attr (.loc 0) 20) .cN) [(.ite (.tv (.attr (.loc 0) 25)) [(.setA 20 (.vcal 25))] [])] []),(.asg [1] (.attr (.loc 0) 20)),(.setA 20 .cN),(.ret (.loc 1))]⟩
noncomputable def f_Parser_parse_stream_start:Fn:=⟨1,3,[none],[27],
 [(.asg [1] (.mcal (.loc 0) 97 11 [] [])),(.asg [2] (.new 98 [(.attr (.loc 1) 94),(.attr (.loc 1) 99)] [(8,(.attr (.loc 1) 8))])),(.setA 25 (.meth 50 100)),(.ret (.loc 2))]⟩
noncomputable def f_Parser_parse_implicit_document_start:Fn:=⟨1,5,[none],[27],
 [(.ite (.not (.tv (.mcal (.loc 0) 101 9 [(.tup [(.attr (.glb 102) 37),(.attr (.glb 67) 37),(.attr (.glb 65) 37)])] []))) [(.setA 22 (.attr (.loc 0) 103)),(.asg [1] (.mcal (.loc 0) 104 10 [] [])),(.asg [2,3] (.attr (.loc 1) 94)),(.asg [4] (.new 105 [(.loc 2),(.loc 3)] [(106,(.cB false))])),(.expr (.app (.attr (.loc 0) 23) (.meth 52 107))),(.setA 25 (.meth 55 108)),(.ret (.loc 4))] [(.ret (.mcal (.loc 0) 109 51 [] []))])]⟩
noncomputable def f_Parser_parse_document_start:Fn:=⟨1,7,[none],[27],
 [(.whl (.tv (.mcal (.loc 0) 101 9 [(.tup [(.attr (.glb 110) 37)])] [])) [(.expr (.mcal (.loc 0) 97 11 [] []))]),(.ite (.not (.tv (.mcal (.loc 0) 101 9 [(.tup [(.attr (.glb 65) 37)])] []))) [(.asg [1] (.mcal (.loc 0) 104 10 [] [])),(.asg [2] (.attr (.loc 1) 94)),(.unp [3,4] (.mcal (.loc 0) 111 54 [] [])),(.ite (.not (.tv (.mcal (.loc 0) 101 9 [(.tup [(.attr (.glb 67) 37)])] []))) [(.raise 112 [.cN,.cN,(.pct [101,120,112,101,99,116,101,100,32,39,60,100,111,99,117,109,101,110,116,32,115,116,97,114,116,62,39,44,32,98,117,116,32,102,111,117,110,100,32,37,114] (.attr (.mcal (.loc 0) 104 10 [] []) 37)),(.attr (.mcal (.loc 0) 104 10 [] []) 94)])] []),(.asg [1] (.mcal (.loc 0) 97 11 [] [])),(.asg [5] (.attr (.loc 1) 99)),(.asg [6] (.new 105 [(.loc 2),(.loc 5)] [(106,(.cB true)),(113,(.loc 3)),(114,(.loc 4))])),(.expr (.app (.attr (.loc 0) 23) (.meth 52 107))),(.setA 25 (.meth 53 115))] [(.asg [1] (.mcal (.loc 0) 97 11 [] [])),(.asg [6] (.new 116 [(.attr (.loc 1) 94),(.attr (.loc 1) 99)] [])),(.ass (.not (.tv (.attr (.loc 0) 23)))),(.ass (.not (.tv (.attr (.loc 0) 24)))),(.setA 25 .cN)]),(.ret (.loc 6))]⟩
noncomputable def f_Parser_parse_document_end:Fn:=⟨1,6,[none],[27],
 [(.asg [1] (.mcal (.loc 0) 104 10 [] [])),(.asg [2,3] (.attr (.loc 1) 94)),(.asg [4] (.cB false)),(.ite (.tv (.mcal (.loc 0) 101 9 [(.tup [(.attr (.glb 110) 37)])] [])) [(.asg [1] (.mcal (.loc 0) 97 11 [] [])),(.asg [3] (.attr (.loc 1) 99)),(.asg [4] (.cB true))] []),(.asg [5] (.new 117 [(.loc 2),(.loc 3)] [(106,(.loc 4))])),(.setA 25 (.meth 51 109)),(.ret (.loc 5))]⟩
noncomputable def f_Parser_parse_document_content:Fn:=⟨1,2,[none],[27],
 [(.ite (.tv (.mcal (.loc 0) 101 9 [(.tup [(.attr (.glb 102) 37),(.attr (.glb 67) 37),(.attr (.glb 110) 37),(.attr (.glb 65) 37)])] [])) [(.asg [1] (.mcal (.loc 0) 118 64 [(.attr (.mcal (.loc 0) 104 10 [] []) 94)] [])),(.setA 25 (.pop (.attr (.loc 0) 23))),(.ret (.loc 1))] [(.ret (.mcal (.loc 0) 108 55 [] []))])]⟩
noncomputable def f_Parser_process_directives:Fn:=⟨1,8,[none],[27],
 [(.setA 21 .cN),(.setA 22 .dic),(.whl (.tv (.mcal (.loc 0) 101 9 [(.tup [(.attr (.glb 102) 37)])] [])) [(.asg [1] (.mcal (.loc 0) 97 11 [] [])),(.ite (.cmp .eq (.attr (.loc 1) 0) (.cS [89,65,77,76])) [(.ite (.cmp .isnot (.attr (.loc 0) 21) .cN) [(.raise 112 [.cN,.cN,(.cS [102,111,117,110,100,32,100,117,112,108,105,99,97,116,101,32,89,65,77,76,32,100,105,114,101,99,116,105,118,101]),(.attr (.loc 1) 94)])] []),(.unp [2,3] (.attr (.loc 1) 119)),(.ite (.cmp .ne (.loc 2) (.cI 1)) [(.raise 112 [.cN,.cN,(.cS [102,111,117,110,100,32,105,110,99,111,109,112,97,116,105,98,108,101,32,89,65,77,76,32,100,111,99,117,109,101,110,116,32,40,118,101,114,115,105,111,110,32,49,46,42,32,105,115,32,114,101,113,117,105,114,101,100,41]),(.attr (.loc 1) 94)])] []),(.setA 21 (.attr (.loc 1) 119))] [(.ite (.cmp .eq (.attr (.loc 1) 0) (.cS [84,65,71])) [(.unp [4,5] (.attr (.loc 1) 119)),(.ite (.cmp .isin (.loc 4) (.attr (.loc 0) 22)) [(.raise 112 [.cN,.cN,(.pct [100,117,112,108,105,99,97,116,101,32,116,97,103,32,104,97,110,100,108,101,32,37,114] (.loc 4)),(.attr (.loc 1) 94)])] []),(.setI 22 (.loc 4) (.loc 5))] [])])]),(.ite (.tv (.attr (.loc 0) 22)) [.opq] [(.asg [6] (.tup [(.attr (.loc 0) 21),.cN]))]),(.forK 7 103 [(.ite (.cmp .notin (.loc 7) (.attr (.loc 0) 22)) [(.setI 22 (.loc 7) (.sub (.attr (.loc 0) 103) (.loc 7)))] [])]),(.ret (.loc 6))]⟩
noncomputable def f_Parser_parse_block_node:Fn:=⟨1,1,[none],[27],
 [(.ret (.mcal (.loc 0) 120 57 [] [(121,(.cB true))]))]⟩
noncomputable def f_Parser_parse_block_node_or_indentless_sequence:Fn:=⟨1,1,[none],[27],
 [(.ret (.mcal (.loc 0) 120 57 [] [(121,(.cB true)),(122,(.cB true))]))]⟩
noncomputable def f_Parser_parse_node:Fn:=⟨3,14,[none,some (.bool false),some (.bool false)],[27,121,122],
 [(.ite (.tv (.mcal (.loc 0) 101 9 [(.tup [(.attr (.glb 123) 37)])] [])) [(.asg [3] (.mcal (.loc 0) 97 11 [] [])),(.asg [4] (.new 124 [(.attr (.loc 3) 119),(.attr (.loc 3) 94),(.attr (.loc 3) 99)] [])),(.setA 25 (.pop (.attr (.loc 0) 23)))] [(.asg [5] .cN),(.asg [6] .cN),(.asg [7,8,9] .cN),(.ite (.tv (.mcal (.loc 0) 101 9 [(.tup [(.attr (.glb 79) 37)])] [])) [(.asg [3] (.mcal (.loc 0) 97 11 [] [])),(.asg [7] (.attr (.loc 3) 94)),(.asg [8] (.attr (.loc 3) 99)),(.asg [5] (.attr (.loc 3) 119)),(.ite (.tv (.mcal (.loc 0) 101 9 [(.tup [(.attr (.glb 88) 37)])] [])) [(.asg [3] (.mcal (.loc 0) 97 11 [] [])),(.asg [9] (.attr (.loc 3) 94)),(.asg [8] (.attr (.loc 3) 99)),(.asg [6] (.attr (.loc 3) 119))] [])] [(.ite (.tv (.mcal (.loc 0) 101 9 [(.tup [(.attr (.glb 88) 37)])] [])) [(.asg [3] (.mcal (.loc 0) 97 11 [] [])),(.asg [7,9] (.attr (.loc 3) 94)),(.asg [8] (.attr (.loc 3) 99)),(.asg [6] (.attr (.loc 3) 119)),(.ite (.tv (.mcal (.loc 0) 101 9 [(.tup [(.attr (.glb 79) 37)])] [])) [(.asg [3] (.mcal (.loc 0) 97 11 [] [])),(.asg [8] (.attr (.loc 3) 99)),(.asg [5] (.attr (.loc 3) 119))] [])] [])]),(.ite (.cmp .isnot (.loc 6) .cN) [(.unp [10,11] (.loc 6)),(.ite (.cmp .isnot (.loc 10) .cN) [(.ite (.cmp .notin (.loc 10) (.attr (.loc 0) 22)) [(.raise 112 [(.cS [119,104,105,108,101,32,112,97,114,115,105,110,103,32,97,32,110,111,100,101]),(.loc 7),(.pct [102,111,117,110,100,32,117,110,100,101,102,105,110,101,100,32,116,97,103,32,104,97,110,100,108,101,32,37,114] (.loc 10)),(.loc 9)])] []),(.asg [6] (.bin .add (.sub (.attr (.loc 0) 22) (.loc 10)) (.loc 11)))] [(.asg [6] (.loc 11))])] []),(.ite (.cmp .is (.loc 7) .cN) [(.asg [7,8] (.attr (.mcal (.loc 0) 104 10 [] []) 94))] []),(.asg [4] .cN),(.asg [12] (.or [(.cmp .is (.loc 6) .cN),(.cmp .eq (.loc 6) (.cS [33]))])),(.ite (.and [(.tv (.loc 2)),(.tv (.mcal (.loc 0) 101 9 [(.tup [(.attr (.glb 72) 37)])] []))]) [(.asg [8] (.attr (.mcal (.loc 0) 104 10 [] []) 99)),(.asg [4] (.new 125 [(.loc 5),(.loc 6),(.loc 12),(.loc 7),(.loc 8)] [])),(.setA 25 (.meth 60 126))] [(.ite (.tv (.mcal (.loc 0) 101 9 [(.tup [(.attr (.glb 90) 37)])] [])) [(.asg [3] (.mcal (.loc 0) 97 11 [] [])),(.asg [8] (.attr (.loc 3) 99)),(.ite (.or [(.and [(.tv (.attr (.loc 3) 127)),(.cmp .is (.loc 6) .cN)]),(.cmp .eq (.loc 6) (.cS [33]))]) [(.asg [12] (.tup [(.cB true),(.cB false)]))] [(.ite (.cmp .is (.loc 6) .cN) [(.asg [12] (.tup [(.cB false),(.cB true)]))] [(.asg [12] (.tup [(.cB false),(.cB false)]))])]),(.asg [4] (.new 128 [(.loc 5),(.loc 6),(.loc 12),(.attr (.loc 3) 119),(.loc 7),(.loc 8)] [(82,(.attr (.loc 3) 82))])),(.setA 25 (.pop (.attr (.loc 0) 23)))] [(.ite (.tv (.mcal (.loc 0) 101 9 [(.tup [(.attr (.glb 129) 37)])] [])) [(.asg [8] (.attr (.mcal (.loc 0) 104 10 [] []) 99)),(.asg [4] (.new 125 [(.loc 5),(.loc 6),(.loc 12),(.loc 7),(.loc 8)] [(130,(.cB true))])),.opq] [(.ite (.tv (.mcal (.loc 0) 101 9 [(.tup [(.attr (.glb 131) 37)])] [])) [(.asg [8] (.attr (.mcal (.loc 0) 104 10 [] []) 99)),(.asg [4] (.new 132 [(.loc 5),(.loc 6),(.loc 12),(.loc 7),(.loc 8)] [(130,(.cB true))])),.opq] [(.ite (.and [(.tv (.loc 1)),(.tv (.mcal (.loc 0) 101 9 [(.tup [(.attr (.glb 71) 37)])] []))]) [(.asg [8] (.attr (.mcal (.loc 0) 104 10 [] []) 94)),(.asg [4] (.new 125 [(.loc 5),(.loc 6),(.loc 12),(.loc 7),(.loc 8)] [(130,(.cB false))])),(.setA 25 (.meth 58 133))] [(.ite (.and [(.tv (.loc 1)),(.tv (.mcal (.loc 0) 101 9 [(.tup [(.attr (.glb 73) 37)])] []))]) [(.asg [8] (.attr (.mcal (.loc 0) 104 10 [] []) 94)),(.asg [4] (.new 132 [(.loc 5),(.loc 6),(.loc 12),(.loc 7),(.loc 8)] [(130,(.cB false))])),(.setA 25 (.meth 61 134))] [(.ite (.or [(.cmp .isnot (.loc 5) .cN),(.cmp .isnot (.loc 6) .cN)]) [(.asg [4] (.new 128 [(.loc 5),(.loc 6),(.tup [(.loc 12),(.cB false)]),(.cS []),(.loc 7),(.loc 8)] [])),(.setA 25 (.pop (.attr (.loc 0) 23)))] [(.ite (.tv (.loc 1)) [(.asg [13] (.cS [98,108,111,99,107]))] [(.asg [13] (.cS [102,108,111,119]))]),(.asg [3] (.mcal (.loc 0) 104 10 [] [])),(.raise 112 [(.pct [119,104,105,108,101,32,112,97,114,115,105,110,103,32,97,32,37,115,32,110,111,100,101] (.loc 13)),(.loc 7),(.pct [101,120,112,101,99,116,101,100,32,116,104,101,32,110,111,100,101,32,99,111,110,116,101,110,116,44,32,98,117,116,32,102,111,117,110,100,32,37,114] (.attr (.loc 3) 37)),(.attr (.loc 3) 94)])])])])])])])])]),(.ret (.loc 4))]⟩
noncomputable def f_Parser_parse_block_sequence_first_entry:Fn:=⟨1,2,[none],[27],
 [(.asg [1] (.mcal (.loc 0) 97 11 [] [])),(.expr (.app (.attr (.loc 0) 24) (.attr (.loc 1) 94))),(.ret (.mcal (.loc 0) 135 59 [] []))]⟩
noncomputable def f_Parser_parse_block_sequence_entry:Fn:=⟨1,3,[none],[27],
 [(.ite (.tv (.mcal (.loc 0) 101 9 [(.tup [(.attr (.glb 72) 37)])] [])) [(.asg [1] (.mcal (.loc 0) 97 11 [] [])),(.ite (.not (.tv (.mcal (.loc 0) 101 9 [(.tup [(.attr (.glb 72) 37),(.attr (.glb 63) 37)])] []))) [(.expr (.app (.attr (.loc 0) 23) (.meth 59 135))),(.ret (.mcal (.loc 0) 108 55 [] []))] [(.setA 25 (.meth 59 135)),(.ret (.mcal (.loc 0) 118 64 [(.attr (.loc 1) 99)] []))])] []),(.ite (.not (.tv (.mcal (.loc 0) 101 9 [(.tup [(.attr (.glb 63) 37)])] []))) [(.asg [1] (.mcal (.loc 0) 104 10 [] [])),(.raise 112 [(.cS [119,104,105,108,101,32,112,97,114,115,105,110,103,32,97,32,98,108,111,99,107,32,99,111,108,108,101,99,116,105,111,110]),(.sub (.attr (.loc 0) 24) (.neg 1)),(.pct [101,120,112,101,99,116,101,100,32,60,98,108,111,99,107,32,101,110,100,62,44,32,98,117,116,32,102,111,117,110,100,32,37,114] (.attr (.loc 1) 37)),(.attr (.loc 1) 94)])] []),(.asg [1] (.mcal (.loc 0) 97 11 [] [])),(.asg [2] (.new 136 [(.attr (.loc 1) 94),(.attr (.loc 1) 99)] [])),(.setA 25 (.pop (.attr (.loc 0) 23))),(.expr (.pop (.attr (.loc 0) 24))),(.ret (.loc 2))]⟩
noncomputable def f_Parser_parse_indentless_sequence_entry:Fn:=⟨1,3,[none],[27],
 [(.ite (.tv (.mcal (.loc 0) 101 9 [(.tup [(.attr (.glb 72) 37)])] [])) [(.asg [1] (.mcal (.loc 0) 97 11 [] [])),(.ite (.not (.tv (.mcal (.loc 0) 101 9 [(.tup [(.attr (.glb 72) 37),(.attr (.glb 74) 37),(.attr (.glb 76) 37),(.attr (.glb 63) 37)])] []))) [(.expr (.app (.attr (.loc 0) 23) (.meth 60 126))),(.ret (.mcal (.loc 0) 108 55 [] []))] [(.setA 25 (.meth 60 126)),(.ret (.mcal (.loc 0) 118 64 [(.attr (.loc 1) 99)] []))])] []),(.asg [1] (.mcal (.loc 0) 104 10 [] [])),(.asg [2] (.new 136 [(.attr (.loc 1) 94),(.attr (.loc 1) 94)] [])),(.setA 25 (.pop (.attr (.loc 0) 23))),(.ret (.loc 2))]⟩
noncomputable def f_Parser_parse_block_mapping_first_key:Fn:=⟨1,2,[none],[27],
 [(.asg [1] (.mcal (.loc 0) 97 11 [] [])),(.expr (.app (.attr (.loc 0) 24) (.attr (.loc 1) 94))),(.ret (.mcal (.loc 0) 137 62 [] []))]⟩
noncomputable def f_Parser_parse_block_mapping_key:Fn:=⟨1,3,[none],[27],
 [(.ite (.tv (.mcal (.loc 0) 101 9 [(.tup [(.attr (.glb 74) 37)])] [])) [(.asg [1] (.mcal (.loc 0) 97 11 [] [])),(.ite (.not (.tv (.mcal (.loc 0) 101 9 [(.tup [(.attr (.glb 74) 37),(.attr (.glb 76) 37),(.attr (.glb 63) 37)])] []))) [(.expr (.app (.attr (.loc 0) 23) (.meth 63 138))),(.ret (.mcal (.loc 0) 139 56 [] []))] [(.setA 25 (.meth 63 138)),(.ret (.mcal (.loc 0) 118 64 [(.attr (.loc 1) 99)] []))])] []),(.ite (.not (.tv (.mcal (.loc 0) 101 9 [(.tup [(.attr (.glb 63) 37)])] []))) [(.asg [1] (.mcal (.loc 0) 104 10 [] [])),(.raise 112 [(.cS [119,104,105,108,101,32,112,97,114,115,105,110,103,32,97,32,98,108,111,99,107,32,109,97,112,112,105,110,103]),(.sub (.attr (.loc 0) 24) (.neg 1)),(.pct [101,120,112,101,99,116,101,100,32,60,98,108,111,99,107,32,101,110,100,62,44,32,98,117,116,32,102,111,117,110,100,32,37,114] (.attr (.loc 1) 37)),(.attr (.loc 1) 94)])] []),(.asg [1] (.mcal (.loc 0) 97 11 [] [])),(.asg [2] (.new 140 [(.attr (.loc 1) 94),(.attr (.loc 1) 99)] [])),(.setA 25 (.pop (.attr (.loc 0) 23))),(.expr (.pop (.attr (.loc 0) 24))),(.ret (.loc 2))]⟩
noncomputable def f_Parser_parse_block_mapping_value:Fn:=⟨1,2,[none],[27],
 [(.ite (.tv (.mcal (.loc 0) 101 9 [(.tup [(.attr (.glb 76) 37)])] [])) [(.asg [1] (.mcal (.loc 0) 97 11 [] [])),(.ite (.not (.tv (.mcal (.loc 0) 101 9 [(.tup [(.attr (.glb 74) 37),(.attr (.glb 76) 37),(.attr (.glb 63) 37)])] []))) [(.expr (.app (.attr (.loc 0) 23) (.meth 62 137))),(.ret (.mcal (.loc 0) 139 56 [] []))] [(.setA 25 (.meth 62 137)),(.ret (.mcal (.loc 0) 118 64 [(.attr (.loc 1) 99)] []))])] [(.setA 25 (.meth 62 137)),(.asg [1] (.mcal (.loc 0) 104 10 [] [])),(.ret (.mcal (.loc 0) 118 64 [(.attr (.loc 1) 94)] []))])]⟩
noncomputable def f_Parser_process_empty_scalar:Fn:=⟨2,2,[none,none],[27,75],
 [(.ret (.new 128 [.cN,.cN,(.tup [(.cB true),(.cB false)]),(.cS []),(.loc 1),(.loc 1)] []))]⟩
noncomputable def f_law_HEADS:Fn:=⟨0,0,[],[],
 [(.ret (.lst [(.cS [45]),(.cS [107,101,121]),(.cS [63]),(.cS [58])]))]⟩
noncomputable def f_law_CONTENTS:Fn:=⟨0,0,[],[],
 [(.ret (.lst [(.cS [115]),(.cS []),(.cS [38]),(.cS [33,32,115]),(.cS [98]),(.cS [38,32,33,32,115]),(.cS [33]),(.cS [107,101,121,32,115]),(.cS [45,32,115]),(.cS [107,101,121]),(.cS [63,32,115])]))]⟩
noncomputable def f_law_built:Fn:=⟨1,15,[none],[144],
 [(.asg [1] (.and [(.cmp .gt (.len (.loc 0)) (.cI 0)),(.cmp .eq (.bin .mod (.sub (.loc 0) (.cI 0)) (.cI 2)) (.cI 1))])),(.asg [2] (.ite (.tv (.loc 1)) (.cS [45,45,45,10]) (.cS []))),(.asg [3] (.ite (.tv (.loc 1)) (.cI 1) (.cI 0))),(.asg [4] (.cI 0)),(.asg [5] (.cI 0)),(.asg [6] (.cI 0)),(.asg [7] (.lst [(.neg 1)])),(.asg [8] (.lst [])),(.forL 9 (.ite (.cmp .gt (.len (.loc 0)) (.cI 1)) (.comp (.loc 0) 1 9 5040) (.lst [(.cI 0)])) [(.ite (.cmp .gt (.loc 6) (.cI 40)) [.brk] []),(.asg [4] (.max (.cI 0) (.min (.cI 6) (.bin .add (.loc 4) (.sub (.lst [(.cI 0),(.cI 0),(.cI 2),(.neg 2),(.cI 0)]) (.bin .mod (.loc 9) (.cI 5))))))),(.aug 2 .add (.bin .mul (.cS [32]) (.loc 4))),(.asg [10] (.loc 4)),(.whl (.cmp .gt (.sub (.loc 7) (.neg 1)) (.loc 10)) [(.expr (.pop (.loc 7))),(.expr (.app (.loc 8) (.tup [(.cS [101,110,100]),(.loc 3),(.loc 10),(.cS [])])))]),(.asg [11] (.sub (.fcal 141 66 [] []) (.bin .mod (.bin .fdiv (.loc 9) (.cI 4)) (.ite (.cmp .eq (.bin .mod (.loc 9) (.cI 4)) (.cI 1)) (.cI 7) (.cI 11))))),(.forL 12 (.cat (.lst [(.sub (.fcal 142 65 [] []) (.bin .mod (.loc 9) (.cI 4)))]) (.ite (.tv (.loc 11)) (.split (.loc 11)) (.lst []))) [(.asg [13] (.chr (.bin .add (.cI 97) (.bin .mod (.loc 5) (.cI 26))))),(.aug 5 .add (.cI 1)),(.aug 6 .add (.sub (.glb 143) (.loc 12))),(.asg [14] (.bin .add (.loc 12) (.cS [32]))),(.ite (.and [(.cmp .isin (.loc 12) (.lst [(.cS [45]),(.cS [107,101,121]),(.cS [63]),(.cS [58])])),(.cmp .lt (.sub (.loc 7) (.neg 1)) (.loc 10))]) [(.expr (.app (.loc 7) (.loc 10))),(.aug 6 .add (.cI 2)),(.expr (.app (.loc 8) (.tup [(.ite (.cmp .eq (.loc 12) (.cS [45])) (.cS [115,101,113]) (.cS [109,97,112])),(.loc 3),(.loc 10),(.cS [])])))] []),(.ite (.cmp .eq (.loc 12) (.cS [107,101,121])) [(.asg [14] (.bin .add (.loc 13) (.cS [58,32]))),(.expr (.app (.loc 8) (.tup [(.cS [63]),(.loc 3),(.loc 10),(.cS [])]))),(.expr (.app (.loc 8) (.tup [(.cS [98]),(.loc 3),(.loc 10),(.loc 13)]))),(.expr (.app (.loc 8) (.tup [(.cS [58]),(.loc 3),(.bin .add (.loc 10) (.cI 1)),(.cS [])])))] [(.expr (.app (.loc 8) (.tup [(.loc 12),(.loc 3),(.loc 10),(.loc 13)])))]),(.ite (.or [(.cmp .eq (.loc 12) (.cS [38])),(.cmp .eq (.loc 12) (.cS [33]))]) [(.asg [14] (.bin .add (.bin .add (.loc 12) (.loc 13)) (.cS [32])))] [(.ite (.cmp .eq (.loc 12) (.cS [115])) [(.asg [14] (.bin .add (.bin .add (.cS [39]) (.loc 13)) (.cS [39,32])))] [(.ite (.cmp .eq (.loc 12) (.cS [98])) [(.asg [14] (.bin .add (.loc 13) (.cS [32,35])))] [])])]),(.aug 2 .add (.loc 14)),(.aug 10 .add (.len (.loc 14)))]),(.aug 2 .add (.cS [10])),(.aug 3 .add (.cI 1))]),(.whl (.cmp .ge (.sub (.loc 7) (.neg 1)) (.cI 0)) [(.expr (.pop (.loc 7))),(.expr (.app (.loc 8) (.tup [(.cS [101,110,100]),(.loc 3),(.cI 0),(.cS [])])))]),(.expr (.app (.loc 8) (.tup [(.cS [115,116,111,112]),(.loc 3),(.cI 0),(.cS [])]))),(.ret (.tup [(.loc 1),(.loc 2),(.loc 8)]))]⟩
noncomputable def f_law_empty:Fn:=⟨1,1,[none],[145],
 [(.expr (.app (.loc 0) (.tup [(.cS [118,97,108,117,101]),.cN,.cN,(.tup [(.cB true),(.cB false)]),(.cS []),.cN])))]⟩
noncomputable def f_law_refused:Fn:=⟨3,3,[none,none,none],[146,147,145],
 [(.expr (.app (.loc 2) (.tup [(.cS [114,101,102,117,115,101,100]),(.sub (.sub (.loc 0) (.loc 1)) (.cI 1)),(.sub (.sub (.loc 0) (.loc 1)) (.cI 2))]))),(.ret (.neg 1))]⟩
noncomputable def f_law_node:Fn:=⟨4,8,[none,none,none,none],[146,147,145,151],
 [(.asg [4] .cN),(.asg [5] .cN),(.whl (.or [(.and [(.cmp .eq (.sub (.sub (.loc 0) (.loc 1)) (.cI 0)) (.cS [38])),(.cmp .is (.loc 4) .cN)]),(.and [(.cmp .eq (.sub (.sub (.loc 0) (.loc 1)) (.cI 0)) (.cS [33])),(.cmp .is (.loc 5) .cN)])]) [(.ite (.cmp .eq (.sub (.sub (.loc 0) (.loc 1)) (.cI 0)) (.cS [38])) [(.asg [4] (.sub (.sub (.loc 0) (.loc 1)) (.cI 3)))] [(.asg [5] (.bin .add (.cS [33]) (.sub (.sub (.loc 0) (.loc 1)) (.cI 3))))]),(.aug 1 .add (.cI 1))]),(.asg [6] (.sub (.sub (.loc 0) (.loc 1)) (.cI 0))),(.ite (.and [(.cmp .eq (.loc 6) (.cS [45])),(.tv (.loc 3))]) [(.expr (.app (.loc 2) (.tup [(.cS [114,111,119]),(.loc 4),(.loc 5),(.cmp .is (.loc 5) .cN),.cN]))),(.ret (.fcal 148 72 [(.loc 0),(.loc 1),(.loc 2),(.lst [(.cS [45]),(.cS [63]),(.cS [58]),(.cS [101,110,100])]),(.cB false)] []))] []),(.ite (.or [(.cmp .eq (.loc 6) (.cS [115])),(.cmp .eq (.loc 6) (.cS [98]))]) [(.asg [7] (.ite (.cmp .is (.loc 5) .cN) (.tup [(.cmp .eq (.loc 6) (.cS [98])),(.cmp .eq (.loc 6) (.cS [115]))]) (.tup [(.cB false),(.cB false)]))),(.expr (.app (.loc 2) (.tup [(.cS [118,97,108,117,101]),(.loc 4),(.loc 5),(.loc 7),(.sub (.sub (.loc 0) (.loc 1)) (.cI 3)),(.ite (.cmp .eq (.loc 6) (.cS [115])) (.cS [39]) .cN)]))),(.ret (.bin .add (.loc 1) (.cI 1)))] []),(.ite (.cmp .eq (.loc 6) (.cS [115,101,113])) [(.expr (.app (.loc 2) (.tup [(.cS [114,111,119]),(.loc 4),(.loc 5),(.cmp .is (.loc 5) .cN),(.cB false)]))),(.ret (.fcal 148 72 [(.loc 0),(.bin .add (.loc 1) (.cI 1)),(.loc 2),(.lst [(.cS [45]),(.cS [101,110,100])]),(.cB true)] []))] []),(.ite (.cmp .eq (.loc 6) (.cS [109,97,112])) [(.expr (.app (.loc 2) (.tup [(.cS [109,97,112]),(.loc 4),(.loc 5),(.cmp .is (.loc 5) .cN),(.cB false)]))),(.ret (.fcal 149 73 [(.loc 0),(.bin .add (.loc 1) (.cI 1)),(.loc 2)] []))] []),(.ite (.and [(.cmp .is (.loc 4) .cN),(.cmp .is (.loc 5) .cN)]) [(.ret (.fcal 150 69 [(.loc 0),(.loc 1),(.loc 2)] []))] []),(.expr (.app (.loc 2) (.tup [(.cS [118,97,108,117,101]),(.loc 4),(.loc 5),(.tup [(.cmp .is (.loc 5) .cN),(.cB false)]),(.cS []),.cN]))),(.ret (.loc 1))]⟩
noncomputable def f_law_left:Fn:=⟨5,5,[none,none,none,none,none],[146,147,145,154,151],
 [(.ite (.cmp .isin (.sub (.sub (.loc 0) (.loc 1)) (.cI 0)) (.loc 3)) [(.expr (.fcal 152 68 [(.loc 2)] [])),(.ret (.loc 1))] []),(.ret (.fcal 153 70 [(.loc 0),(.loc 1),(.loc 2),(.loc 4)] []))]⟩
noncomputable def f_law_entries:Fn:=⟨5,5,[none,none,none,none,none],[146,147,145,154,156],
 [(.whl (.cmp .eq (.sub (.sub (.loc 0) (.loc 1)) (.cI 0)) (.cS [45])) [(.asg [1] (.fcal 155 71 [(.loc 0),(.bin .add (.loc 1) (.cI 1)),(.loc 2),(.loc 3),(.cB false)] [])),(.ite (.cmp .lt (.loc 1) (.cI 0)) [(.ret (.neg 1))] [])]),(.ite (.tv (.loc 4)) [(.ite (.cmp .ne (.sub (.sub (.loc 0) (.loc 1)) (.cI 0)) (.cS [101,110,100])) [(.ret (.fcal 150 69 [(.loc 0),(.loc 1),(.loc 2)] []))] []),(.aug 1 .add (.cI 1))] []),(.expr (.app (.loc 2) (.tup [(.cS [114,111,119,32,101,110,100])]))),(.ret (.loc 1))]⟩
noncomputable def f_law_pairs:Fn:=⟨3,3,[none,none,none],[146,147,145],
 [(.whl (.cmp .eq (.sub (.sub (.loc 0) (.loc 1)) (.cI 0)) (.cS [63])) [(.asg [1] (.fcal 155 71 [(.loc 0),(.bin .add (.loc 1) (.cI 1)),(.loc 2),(.glb 157),(.cB true)] [])),(.ite (.cmp .lt (.loc 1) (.cI 0)) [(.ret (.neg 1))] []),(.ite (.cmp .eq (.sub (.sub (.loc 0) (.loc 1)) (.cI 0)) (.cS [58])) [(.asg [1] (.fcal 155 71 [(.loc 0),(.bin .add (.loc 1) (.cI 1)),(.loc 2),(.glb 157),(.cB true)] [])),(.ite (.cmp .lt (.loc 1) (.cI 0)) [(.ret (.neg 1))] [])] [(.expr (.fcal 152 68 [(.loc 2)] []))])]),(.ite (.cmp .ne (.sub (.sub (.loc 0) (.loc 1)) (.cI 0)) (.cS [101,110,100])) [(.ret (.fcal 150 69 [(.loc 0),(.loc 1),(.loc 2)] []))] []),(.expr (.app (.loc 2) (.tup [(.cS [109,97,112,32,101,110,100])]))),(.ret (.bin .add (.loc 1) (.cI 1)))]⟩
noncomputable def f_law_told:Fn:=⟨1,1,[none],[161],
 [(.ite (.tv (.isi (.loc 0) 128)) [(.ret (.tup [(.cS [118,97,108,117,101]),(.attr (.loc 0) 158),(.attr (.loc 0) 159),(.attr (.loc 0) 160),(.attr (.loc 0) 119),(.attr (.loc 0) 82)]))] []),(.ite (.tv (.isi (.loc 0) 125)) [(.ret (.tup [(.cS [114,111,119]),(.attr (.loc 0) 158),(.attr (.loc 0) 159),(.attr (.loc 0) 160),(.attr (.loc 0) 130)]))] []),(.ite (.tv (.isi (.loc 0) 136)) [(.ret (.tup [(.cS [114,111,119,32,101,110,100])]))] []),(.ite (.tv (.isi (.loc 0) 132)) [(.ret (.tup [(.cS [109,97,112]),(.attr (.loc 0) 158),(.attr (.loc 0) 159),(.attr (.loc 0) 160),(.attr (.loc 0) 130)]))] []),(.ite (.tv (.isi (.loc 0) 140)) [(.ret (.tup [(.cS [109,97,112,32,101,110,100])]))] []),(.ite (.tv (.isi (.loc 0) 105)) [(.ret (.tup [(.cS [100,111,99,117,109,101,110,116]),(.attr (.loc 0) 106),(.attr (.loc 0) 113),(.attr (.loc 0) 114)]))] []),(.ite (.tv (.isi (.loc 0) 117)) [(.ret (.tup [(.cS [101,110,100]),(.attr (.loc 0) 106)]))] []),(.ite (.tv (.isi (.loc 0) 98)) [(.ret (.tup [(.cS [115,116,114,101,97,109])]))] []),(.ite (.tv (.isi (.loc 0) 116)) [(.ret (.tup [(.cS [115,116,114,101,97,109,32,101,110,100])]))] []),(.ret (.tup [(.cS [97,110,111,116,104,101,114])]))]⟩
noncomputable def f_law_read:Fn:=⟨1,4,[none],[167],
 [(.asg [1] (.new 162 [(.loc 0)] [])),(.asg [2] (.lst [])),.opq,(.ret (.loc 2))]⟩
noncomputable def f_law:Fn:=⟨1,6,[none],[144],
 [(.unp [1,2,3] (.fcal 168 67 [(.loc 0)] [])),(.asg [4] (.lst [(.tup [(.cS [115,116,114,101,97,109])]),(.tup [(.cS [100,111,99,117,109,101,110,116]),(.loc 1),.cN,.cN])])),(.asg [5] (.fcal 153 70 [(.loc 3),(.cI 0),(.loc 4),(.cB false)] [])),(.ite (.cmp .ge (.loc 5) (.cI 0)) [(.expr (.app (.loc 4) (.tup [(.cS [101,110,100]),(.cB false)]))),(.ite (.cmp .eq (.sub (.sub (.loc 3) (.loc 5)) (.cI 0)) (.cS [115,116,111,112])) [(.expr (.app (.loc 4) (.tup [(.cS [115,116,114,101,97,109,32,101,110,100])])))] [(.expr (.fcal 150 69 [(.loc 3),(.loc 5),(.loc 4)] []))])] []),(.ret (.cmp .eq (.fcal 169 75 [(.loc 2)] []) (.loc 4)))]⟩
noncomputable def gvL:List (Nat×V):=[(30,(.glob 53)),(61,(.glob 763)),(63,(.glob 227)),(64,(.glob 179)),(65,(.glob 191)),(67,(.glob 147)),(71,(.glob 203)),(72,(.glob 311)),(73,(.glob 215)),(74,(.glob 287)),(76,(.glob 299)),(79,(.glob 361)),(88,(.glob 380)),(90,(.glob 400)),(98,(.glob 501)),(102,(.glob 135)),(105,(.glob 533)),(110,(.glob 159)),(112,(.glob 1293)),(116,(.glob 513)),(117,(.glob 553)),(123,(.glob 342)),(124,(.glob 565)),(125,(.glob 597)),(128,(.glob 585)),(129,(.glob 239)),(131,(.glob 251)),(132,(.glob 621)),(136,(.glob 609)),(140,(.glob 633)),(162,(.glob 1521))]
noncomputable def gvX:List (Nat×V):=[(143,(.sdict [((.str [45]),(.int 2)),((.str [107,101,121]),(.int 6)),((.str [63]),(.int 2)),((.str [58]),(.int 2)),((.str [115]),(.int 3)),((.str [98]),(.int 3)),((.str [38]),(.int 2)),((.str [33]),(.int 2))])),(157,(.slist [(.str [63]),(.str [58]),(.str [101,110,100])]))]
noncomputable def gvT(k:Nat):Option V:=(gvX++gvL).lookup k
noncomputable def caL:List ((Addr×Nat)×V):=[((135,37),(.str [60,100,105,114,101,99,116,105,118,101,62])),((147,37),(.str [60,100,111,99,117,109,101,110,116,32,115,116,97,114,116,62])),((159,37),(.str [60,100,111,99,117,109,101,110,116,32,101,110,100,62])),((179,37),(.str [60,115,116,114,101,97,109,32,115,116,97,114,116,62])),((191,37),(.str [60,115,116,114,101,97,109,32,101,110,100,62])),((203,37),(.str [60,98,108,111,99,107,32,115,101,113,117,101,110,99,101,32,115,116,97,114,116,62])),((215,37),(.str [60,98,108,111,99,107,32,109,97,112,112,105,110,103,32,115,116,97,114,116,62])),((227,37),(.str [60,98,108,111,99,107,32,101,110,100,62])),((239,37),(.str [91])),((251,37),(.str [123])),((263,37),(.str [93])),((275,37),(.str [125])),((287,37),(.str [63])),((299,37),(.str [58])),((311,37),(.str [45])),((323,37),(.str [44])),((342,37),(.str [60,97,108,105,97,115,62])),((361,37),(.str [60,97,110,99,104,111,114,62])),((380,37),(.str [60,116,97,103,62])),((400,37),(.str [60,115,99,97,108,97,114,62]))]
noncomputable def caX:List ((Addr×Nat)×V):=[((1521,103),(.sdict [((.str [33]),(.str [33])),((.str [33,33]),(.str [116,97,103,58,121,97,109,108,46,111,114,103,44,50,48,48,50,58]))]))]
noncomputable def caT(c:Addr)(x:Nat):Option V:=(caX++caL).lookup (c,x)
noncomputable def flL:List (Addr×(List Nat×List (Option V))):=[(53,[0,9,10,11,4,5],[none,none,none,none,none,none]),(95,[170,171,172,166,173],[some .none,some .none,some .none,some .none,some .none]),(114,[94,99],[none,none]),(147,[94,99],[none,none]),(159,[94,99],[none,none]),(179,[94,99,8],[some .none,some .none,some .none]),(191,[94,99],[none,none]),(203,[94,99],[none,none]),(215,[94,99],[none,none]),(227,[94,99],[none,none]),(239,[94,99],[none,none]),(251,[94,99],[none,none]),(263,[94,99],[none,none]),(275,[94,99],[none,none]),(287,[94,99],[none,none]),(299,[94,99],[none,none]),(311,[94,99],[none,none]),(323,[94,99],[none,none]),(361,[119,94,99],[none,none,none]),(380,[119,94,99],[none,none,none]),(400,[119,127,94,99,82],[none,none,none,none,some .none]),(427,[94,99],[some .none,some .none]),(449,[158,94,99],[none,some .none,some .none]),(469,[158,159,160,94,99,130],[none,none,none,some .none,some .none,some .none]),(481,[94,99],[some .none,some .none]),(501,[94,99,8],[some .none,some .none,some .none]),(513,[94,99],[some .none,some .none]),(533,[94,99,106,113,114],[some .none,some .none,some .none,some .none,some .none]),(553,[94,99,106],[some .none,some .none,some .none]),(565,[158,94,99],[none,some .none,some .none]),(585,[158,159,160,119,94,99,82],[none,none,none,none,some .none,some .none,some .none]),(597,[158,159,160,94,99,130],[none,none,none,some .none,some .none,some .none]),(609,[94,99],[some .none,some .none]),(621,[158,159,160,94,99,130],[none,none,none,some .none,some .none,some .none]),(633,[94,99],[some .none,some .none]),(744,[170,171,172,166,173],[some .none,some .none,some .none,some .none,some .none]),(763,[58,59,9,10,11,75],[none,none,none,none,none,none]),(1293,[170,171,172,166,173],[some .none,some .none,some .none,some .none,some .none])]
noncomputable def flT(c:Addr):Option (List Nat×List (Option V)):=flL.lookup c
noncomputable def evT:List Addr:=[501,513,533,553,585,597,609,621,633]
noncomputable def sbT(c d:Addr):Option Bool:=if evT.contains c&&evT.contains d then some (c==d) else none
noncomputable def spT:List (List Nat×List (List Nat)):=[([115],[[115]]),([38],[[38]]),([33,32,115],[[33],[115]]),([98],[[98]]),([38,32,33,32,115],[[38],[33],[115]]),([33],[[33]]),([107,101,121,32,115],[[107,101,121],[115]]),([45,32,115],[[45],[115]]),([107,101,121],[[107,101,121]]),([63,32,115],[[63],[115]])]
noncomputable def pcA:List (List Nat):=[[101,120,112,101,99,116,101,100,32,39,60,100,111,99,117,109,101,110,116,32,115,116,97,114,116,62,39,44,32,98,117,116,32,102,111,117,110,100,32,37,114],[119,104,105,108,101,32,112,97,114,115,105,110,103,32,97,32,37,115,32,110,111,100,101],[101,120,112,101,99,116,101,100,32,116,104,101,32,110,111,100,101,32,99,111,110,116,101,110,116,44,32,98,117,116,32,102,111,117,110,100,32,37,114],[101,120,112,101,99,116,101,100,32,60,98,108,111,99,107,32,101,110,100,62,44,32,98,117,116,32,102,111,117,110,100,32,37,114]]
noncomputable def pcB:List (List Nat):=[[98,108,111,99,107],[102,108,111,119],[60,100,105,114,101,99,116,105,118,101,62],[60,100,111,99,117,109,101,110,116,32,115,116,97,114,116,62],[60,100,111,99,117,109,101,110,116,32,101,110,100,62],[60,115,116,114,101,97,109,32,115,116,97,114,116,62],[60,115,116,114,101,97,109,32,101,110,100,62],[60,98,108,111,99,107,32,115,101,113,117,101,110,99,101,32,115,116,97,114,116,62],[60,98,108,111,99,107,32,109,97,112,112,105,110,103,32,115,116,97,114,116,62],[60,98,108,111,99,107,32,101,110,100,62],[91],[123],[93],[125],[63],[58],[45],[44],[60,97,108,105,97,115,62],[60,97,110,99,104,111,114,62],[60,116,97,103,62],[60,115,99,97,108,97,114,62]]
noncomputable def rdTry:List S:=[(.whl (.cmp .isnot (.mcal (.loc 1) 163 47 [] []) .cN) [(.expr (.app (.loc 2) (.fcal 164 74 [(.mcal (.loc 1) 165 48 [] [])] [])))])]
noncomputable def fnL:List Fn:=[f_Reader_init,f_Reader_peek,f_Reader_prefix,f_Reader_forward,f_Reader_get_mark,f_Reader_check_printable,f_Reader_update,f_is_printable,f_Scanner_init,f_Scanner_check_token,f_Scanner_peek_token,f_Scanner_get_token,f_Scanner_need_more_tokens,f_Scanner_fetch_more_tokens,f_Scanner_next_possible_simple_key,f_Scanner_stale_possible_simple_keys,f_Scanner_save_possible_simple_key,f_Scanner_remove_possible_simple_key,f_Scanner_unwind_indent,f_Scanner_add_indent,f_Scanner_fetch_stream_start,f_Scanner_fetch_stream_end,f_Scanner_fetch_document_start,f_Scanner_fetch_document_indicator,f_Scanner_fetch_block_entry,f_Scanner_fetch_key,f_Scanner_fetch_value,f_Scanner_fetch_anchor,f_Scanner_fetch_tag,f_Scanner_fetch_single,f_Scanner_fetch_flow_scalar,f_Scanner_fetch_plain,f_Scanner_check_document_start,f_Scanner_check_block_entry,f_Scanner_check_key,f_Scanner_check_value,f_Scanner_check_plain,f_Scanner_scan_to_next_token,f_Scanner_scan_anchor,f_Scanner_scan_tag,f_Scanner_scan_flow_scalar,f_Scanner_scan_flow_scalar_non_spaces,f_Scanner_scan_plain,f_Scanner_scan_plain_spaces,f_Scanner_scan_tag_uri,f_Scanner_scan_line_break,f_Parser_init,f_Parser_peek_event,f_Parser_get_event,f_Parser_parse_stream_start,f_Parser_parse_implicit_document_start,f_Parser_parse_document_start,f_Parser_parse_document_end,f_Parser_parse_document_content,f_Parser_process_directives,f_Parser_parse_block_node,f_Parser_parse_block_node_or_indentless_sequence,f_Parser_parse_node,f_Parser_parse_block_sequence_first_entry,f_Parser_parse_block_sequence_entry,f_Parser_parse_indentless_sequence_entry,f_Parser_parse_block_mapping_first_key,f_Parser_parse_block_mapping_key,f_Parser_parse_block_mapping_value,f_Parser_process_empty_scalar,f_law_HEADS,f_law_CONTENTS,f_law_built,f_law_empty,f_law_refused,f_law_node,f_law_left,f_law_entries,f_law_pairs,f_law_told,{f_law_read with code:=[.opq]},{f_law with code:=[.opq]}]
noncomputable def fnT(i:Nat):Fn:=fnL.getD i ⟨0,0,[],[],[.opq]⟩
noncomputable def faL:List Addr:=[682,690,698,706,713,720,727,668,783,792,799,806,813,820,827,834,841,848,855,862,869,876,890,904,960,967,974,988,995,1023,1037,1044,1058,1072,1079,1086,1093,1100,1163,1170,1212,1222,1243,1250,1264,1278,1312,1326,1333,1340,1347,1354,1361,1368,1375,1382,1396,1404,1411,1418,1425,1432,1439,1446,1518,1530,1537,1544,1551,1558,1565,1572,1579,1586,1593,1600,1607]
noncomputable def faT(i:Nat):Addr:=faL.getD i 0
noncomputable def msT:List (Nat×Nat):=[(43,1),(85,2),(68,3),(62,4),(26,5),(28,6),(101,9),(104,10),(97,11),(35,12),(36,13),(40,14),(39,15),(77,16),(60,17),(42,18),(70,19),(34,20),(44,21),(46,22),(66,23),(48,24),(50,25),(52,26),(53,27),(54,28),(55,29),(81,30),(57,31),(45,32),(47,33),(49,34),(51,35),(56,36),(41,37),(78,38),(80,39),(83,40),(89,41),(84,42),(95,43),(87,44),(86,45),(163,47),(165,48),(96,49),(100,50),(109,51),(107,52),(115,53),(111,54),(108,55),(139,56),(120,57),(133,58),(135,59),(126,60),(134,61),(137,62),(138,63),(118,64)]
noncomputable def fsT:List (Nat×Nat):=[(31,7),(142,65),(141,66),(168,67),(152,68),(150,69),(153,70),(155,71),(148,72),(149,73),(164,74),(169,75),(174,76)]
noncomputable def nmT:List Str:=[Str.ofString "name",Str.ofString "stream",Str.ofString "stream_pointer",Str.ofString "eof",Str.ofString "buffer",Str.ofString "pointer",Str.ofString "raw_buffer",Str.ofString "raw_decode",Str.ofString "encoding",Str.ofString "index",Str.ofString "line",Str.ofString "column",Str.ofString "done",Str.ofString "flow_level",Str.ofString "tokens",Str.ofString "tokens_taken",Str.ofString "indent",Str.ofString "indents",Str.ofString "allow_simple_key",Str.ofString "possible_simple_keys",Str.ofString "current_event",Str.ofString "yaml_version",Str.ofString "tag_handles",Str.ofString "states",Str.ofString "marks",Str.ofString "state",Str.ofString "check_printable",Str.ofString "self",Str.ofString "update",Str.ofString "length",Str.ofString "Mark",Str.ofString "_is_printable",Str.ofString "data",Str.ofString "ch",Str.ofString "fetch_stream_start",Str.ofString "need_more_tokens",Str.ofString "fetch_more_tokens",Str.ofString "id",Str.ofString "choices",Str.ofString "stale_possible_simple_keys",Str.ofString "next_possible_simple_key",Str.ofString "scan_to_next_token",Str.ofString "unwind_indent",Str.ofString "peek",Str.ofString "fetch_stream_end",Str.ofString "check_document_start",Str.ofString "fetch_document_start",Str.ofString "check_block_entry",Str.ofString "fetch_block_entry",Str.ofString "check_key",Str.ofString "fetch_key",Str.ofString "check_value",Str.ofString "fetch_value",Str.ofString "fetch_anchor",Str.ofString "fetch_tag",Str.ofString "fetch_single",Str.ofString "check_plain",Str.ofString "fetch_plain",Str.ofString "token_number",Str.ofString "required",Str.ofString "remove_possible_simple_key",Str.ofString "SimpleKey",Str.ofString "get_mark",Str.ofString "BlockEndToken",Str.ofString "StreamStartToken",Str.ofString "StreamEndToken",Str.ofString "fetch_document_indicator",Str.ofString "DocumentStartToken",Str.ofString "forward",Str.ofString "TokenClass",Str.ofString "add_indent",Str.ofString "BlockSequenceStartToken",Str.ofString "BlockEntryToken",Str.ofString "BlockMappingStartToken",Str.ofString "KeyToken",Str.ofString "mark",Str.ofString "ValueToken",Str.ofString "save_possible_simple_key",Str.ofString "scan_anchor",Str.ofString "AnchorToken",Str.ofString "scan_tag",Str.ofString "fetch_flow_scalar",Str.ofString "style",Str.ofString "scan_flow_scalar",Str.ofString "scan_plain",Str.ofString "prefix",Str.ofString "scan_line_break",Str.ofString "scan_tag_uri",Str.ofString "TagToken",Str.ofString "scan_flow_scalar_non_spaces",Str.ofString "ScalarToken",Str.ofString "ESCAPE_REPLACEMENTS",Str.ofString "ESCAPE_CODES",Str.ofString "double",Str.ofString "start_mark",Str.ofString "scan_plain_spaces",Str.ofString "parse_stream_start",Str.ofString "get_token",Str.ofString "StreamStartEvent",Str.ofString "end_mark",Str.ofString "parse_implicit_document_start",Str.ofString "check_token",Str.ofString "DirectiveToken",Str.ofString "DEFAULT_TAGS",Str.ofString "peek_token",Str.ofString "DocumentStartEvent",Str.ofString "explicit",Str.ofString "parse_document_end",Str.ofString "parse_block_node",Str.ofString "parse_document_start",Str.ofString "DocumentEndToken",Str.ofString "process_directives",Str.ofString "ParserError",Str.ofString "version",Str.ofString "tags",Str.ofString "parse_document_content",Str.ofString "StreamEndEvent",Str.ofString "DocumentEndEvent",Str.ofString "process_empty_scalar",Str.ofString "value",Str.ofString "parse_node",Str.ofString "block",Str.ofString "indentless_sequence",Str.ofString "AliasToken",Str.ofString "AliasEvent",Str.ofString "SequenceStartEvent",Str.ofString "parse_indentless_sequence_entry",Str.ofString "plain",Str.ofString "ScalarEvent",Str.ofString "FlowSequenceStartToken",Str.ofString "flow_style",Str.ofString "FlowMappingStartToken",Str.ofString "MappingStartEvent",Str.ofString "parse_block_sequence_first_entry",Str.ofString "parse_block_mapping_first_key",Str.ofString "parse_block_sequence_entry",Str.ofString "SequenceEndEvent",Str.ofString "parse_block_mapping_key",Str.ofString "parse_block_mapping_value",Str.ofString "parse_block_node_or_indentless_sequence",Str.ofString "MappingEndEvent",Str.ofString "_law_CONTENTS",Str.ofString "_law_HEADS",Str.ofString "_law_WORK",Str.ofString "script",Str.ofString "out",Str.ofString "row",Str.ofString "k",Str.ofString "_law_entries",Str.ofString "_law_pairs",Str.ofString "_law_refused",Str.ofString "loose",Str.ofString "_law_empty",Str.ofString "_law_node",Str.ofString "stops",Str.ofString "_law_left",Str.ofString "framed",Str.ofString "_law_KEYS",Str.ofString "anchor",Str.ofString "tag",Str.ofString "implicit",Str.ofString "event",Str.ofString "Parser",Str.ofString "peek_event",Str.ofString "_law_told",Str.ofString "get_event",Str.ofString "problem_mark",Str.ofString "text",Str.ofString "_law_built",Str.ofString "_law_read",Str.ofString "context",Str.ofString "context_mark",Str.ofString "problem",Str.ofString "note",Str.ofString "law"]
noncomputable def anT(i:Nat):Str:=nmT.getD i ⟨#[1,i]⟩
noncomputable def xcT:List Addr:=[95,744,1293]
structure Tz where
 prog:Program
 w:World
 K:Frag
 fd:Nat→FnD
 rI:Addr→Addr
 rD:Addr→FnD
noncomputable def T0(z:Tz):Tb:={prog:=z.prog,w:=z.w,K:=z.K,an:=anT,fa:=faT,CP:=1521,gv:=gvT,ca:=caT,fl:=flT,xc:=fun c=>xcT.contains c,sb:=sbT,sp:=spT,pc:=fun a b=>pcA.contains a&&pcB.contains b,pf:=fun x=>decide (x<26),ms:=msT,fs:=fsT,sup:=[0,8],pinit:=46,fn:=fnT,fd:=z.fd,rd:=fun c=>⟨z.rI c,27,z.rD c⟩}
noncomputable def lcT:List (List Str):=[[Str.ofString "self",Str.ofString "stream"],[Str.ofString "self",Str.ofString "index"],[Str.ofString "self",Str.ofString "length"],[Str.ofString "self",Str.ofString "length",Str.ofString "ch"],[Str.ofString "self"],[Str.ofString "self",Str.ofString "data",Str.ofString "start",Str.ofString "character",Str.ofString "position"],[Str.ofString "self",Str.ofString "length"],[Str.ofString "ch"],[Str.ofString "self",Str.ofString "stream"],[Str.ofString "self",Str.ofString "choices"],[Str.ofString "self"],[Str.ofString "self"],[Str.ofString "self"],[Str.ofString "self",Str.ofString "ch"],[Str.ofString "self",Str.ofString "min_token_number",Str.ofString "level",Str.ofString "key"],[Str.ofString "self",Str.ofString "level",Str.ofString "key"],[Str.ofString "self",Str.ofString "required",Str.ofString "token_number",Str.ofString "key"],[Str.ofString "self",Str.ofString "key"],[Str.ofString "self",Str.ofString "column",Str.ofString "mark"],[Str.ofString "self",Str.ofString "column"],[Str.ofString "self",Str.ofString "mark"],[Str.ofString "self",Str.ofString "mark"],[Str.ofString "self"],[Str.ofString "self",Str.ofString "TokenClass",Str.ofString "start_mark",Str.ofString "end_mark"],[Str.ofString "self",Str.ofString "mark",Str.ofString "start_mark",Str.ofString "end_mark"],[Str.ofString "self",Str.ofString "mark",Str.ofString "start_mark",Str.ofString "end_mark"],[Str.ofString "self",Str.ofString "key",Str.ofString "mark",Str.ofString "start_mark",Str.ofString "end_mark"],[Str.ofString "self"],[Str.ofString "self"],[Str.ofString "self"],[Str.ofString "self",Str.ofString "style"],[Str.ofString "self"],[Str.ofString "self"],[Str.ofString "self"],[Str.ofString "self"],[Str.ofString "self"],[Str.ofString "self",Str.ofString "ch"],[Str.ofString "self",Str.ofString "found"],[Str.ofString "self",Str.ofString "TokenClass",Str.ofString "start_mark",Str.ofString "indicator",Str.ofString "name",Str.ofString "length",Str.ofString "ch",Str.ofString "value",Str.ofString "end_mark"],[Str.ofString "self",Str.ofString "start_mark",Str.ofString "ch",Str.ofString "handle",Str.ofString "suffix",Str.ofString "length",Str.ofString "use_handle",Str.ofString "value",Str.ofString "end_mark"],[Str.ofString "self",Str.ofString "style",Str.ofString "double",Str.ofString "chunks",Str.ofString "start_mark",Str.ofString "quote",Str.ofString "end_mark"],[Str.ofString "self",Str.ofString "double",Str.ofString "start_mark",Str.ofString "chunks",Str.ofString "length",Str.ofString "ch",Str.ofString "k",Str.ofString "code"],[Str.ofString "self",Str.ofString "chunks",Str.ofString "start_mark",Str.ofString "end_mark",Str.ofString "indent",Str.ofString "spaces",Str.ofString "length",Str.ofString "ch"],[Str.ofString "self",Str.ofString "indent",Str.ofString "start_mark",Str.ofString "chunks",Str.ofString "length",Str.ofString "whitespaces",Str.ofString "ch",Str.ofString "line_break",Str.ofString "prefix",Str.ofString "breaks"],[Str.ofString "self",Str.ofString "name",Str.ofString "start_mark",Str.ofString "chunks",Str.ofString "length",Str.ofString "ch"],[Str.ofString "self",Str.ofString "ch"],[Str.ofString "self",Str.ofString "stream"],[Str.ofString "self"],[Str.ofString "self",Str.ofString "value"],[Str.ofString "self",Str.ofString "token",Str.ofString "event"],[Str.ofString "self",Str.ofString "token",Str.ofString "start_mark",Str.ofString "end_mark",Str.ofString "event"],[Str.ofString "self",Str.ofString "token",Str.ofString "start_mark",Str.ofString "version",Str.ofString "tags",Str.ofString "end_mark",Str.ofString "event"],[Str.ofString "self",Str.ofString "token",Str.ofString "start_mark",Str.ofString "end_mark",Str.ofString "explicit",Str.ofString "event"],[Str.ofString "self",Str.ofString "event"],[Str.ofString "self",Str.ofString "token",Str.ofString "major",Str.ofString "minor",Str.ofString "handle",Str.ofString "prefix",Str.ofString "value",Str.ofString "key"],[Str.ofString "self"],[Str.ofString "self"],[Str.ofString "self",Str.ofString "block",Str.ofString "indentless_sequence",Str.ofString "token",Str.ofString "event",Str.ofString "anchor",Str.ofString "tag",Str.ofString "start_mark",Str.ofString "end_mark",Str.ofString "tag_mark",Str.ofString "handle",Str.ofString "suffix",Str.ofString "implicit",Str.ofString "node"],[Str.ofString "self",Str.ofString "token"],[Str.ofString "self",Str.ofString "token",Str.ofString "event"],[Str.ofString "self",Str.ofString "token",Str.ofString "event"],[Str.ofString "self",Str.ofString "token"],[Str.ofString "self",Str.ofString "token",Str.ofString "event"],[Str.ofString "self",Str.ofString "token"],[Str.ofString "self",Str.ofString "mark"],[],[],[Str.ofString "script",Str.ofString "opened",Str.ofString "text",Str.ofString "line",Str.ofString "margin",Str.ofString "count",Str.ofString "work",Str.ofString "open_columns",Str.ofString "row",Str.ofString "n",Str.ofString "column",Str.ofString "content",Str.ofString "sign",Str.ofString "told",Str.ofString "piece"],[Str.ofString "out"],[Str.ofString "row",Str.ofString "k",Str.ofString "out"],[Str.ofString "row",Str.ofString "k",Str.ofString "out",Str.ofString "loose",Str.ofString "anchor",Str.ofString "tag",Str.ofString "sign",Str.ofString "implicit"],[Str.ofString "row",Str.ofString "k",Str.ofString "out",Str.ofString "stops",Str.ofString "loose"],[Str.ofString "row",Str.ofString "k",Str.ofString "out",Str.ofString "stops",Str.ofString "framed"],[Str.ofString "row",Str.ofString "k",Str.ofString "out"],[Str.ofString "event"],[Str.ofString "text",Str.ofString "parser",Str.ofString "got",Str.ofString "refusal"],[Str.ofString "script",Str.ofString "opened",Str.ofString "text",Str.ofString "row",Str.ofString "due",Str.ofString "k"]]
end
end Mine.Internal
end
section
open PySem PySem.W PySem.Calls PyProof.Rows
namespace Mine.Internal
noncomputable section
noncomputable def fitR(T:Tb)(me:Str):List Nat→List Stmt→Bool
 |[],b=>b.isEmpty
 |k::ks,b=>match b with|[]=>false|st::b=>yAsg st (fun ts v=>xName v (· ==T.an k)&&one1 ts fun t=>xAttr t fun o y=>y==T.an k&&xName o (· ==me))&&fitR T me ks b
theorem fitR_k{T:Tb}{me:Str}{k:Nat}{ks:List Nat}{b:List Stmt}{C:List Stmt→Prop}(h:fitR T me (k::ks) b=true)(q:∀p p1 p2 p3 r,fitR T me ks r=true→C (.Assign [.Attribute (.Name me p2) (T.an k) p1] (.Name (T.an k) p3) p::r)):C b:=by
 cases b with
 |nil=>exact absurd h Bool.false_ne_true
 |cons st b=>
 exact yAsg_k (C:=fun st=>C (st::b)) (and_l h) fun ts w p f=>one1_k (C:=fun ts=>C (.Assign ts w p::b)) (and_r f) fun t ft=>xAttr_k (C:=fun t=>C (.Assign [t] w p::b)) ft fun o y p1 fo=>xName_k (C:=fun o=>C (.Assign [.Attribute o y p1] w p::b)) (and_r fo) fun y2 p2 h2=>xName_k (C:=fun w=>C (.Assign [.Attribute (.Name y2 p2) y p1] w p::b)) (and_l f) fun y3 p3 h3=>by
  rw[beq_iff_eq.mp (and_l fo),beq_iff_eq.mp h2,beq_iff_eq.mp h3];exact q p p1 p2 p3 b (and_r h)
structure RecB (T:Tb) (C:Addr) (fs:List Nat) (ds:List (Option V)):Prop extends FnG T (T.rd C).D (T.rd C).fI (((T.rd C).me::fs).map T.an) where
 df:DfR T (T.rd C).D ((T.rd C).me::fs).length (none::ds)
 keep:keepIn T.K (.ref C)=true
 init:findIn T.K (.ref C) "__init__"=some (some (.ref (T.rd C).fI))
 isf:isFn T.K (.ref (T.rd C).fI)=true
 body:fitR T (T.an (T.rd C).me) fs (T.rd C).D.body=true
 seta:findIn T.K (.ref C) "__setattr__"=some (some (.builtin "object.__setattr__"))
 over:overAny T.K C=true
 hasd:hasDictIn T.K C=true
 taker:∀k∈fs,takerIn T.K C (T.an k)=some none
 fld:∀k∈fs,fieldAt T.K C (T.an k)=true
 small:fs.length≤100
 ndk:((T.rd C).me::fs).Nodup
structure RecOK (T:Tb) (C:Addr) (fs:List Nat) (ds:List (Option V)):Prop extends RecB T C fs ds where
 makes:makesIn T.K C=true
variable{T:Tb} {c:Cx} {m:Str→Option Value} {bk bk':Bk} {fr fp:Led} {A:Around} {Q Er:Value→Shared→Prop} {s:Shared} {σ:St} {d:Nat} {C:Addr} {fs:List Nat} {ds:List (Option V)} {xs bs:List V} {pv vals:List Value}
theorem FD.keys(an:AnInj T){k:Nat}{P:List (Nat×V)}{es:List DictEntry}(h:All2 (FD T bk) P es):P.lookup k=none→∀{e},e∈es→e.key.isStr (T.an k)=false:=
 h.ind (C:=fun P es=>P.lookup k=none→∀{e},e∈es→e.key.isStr (T.an k)=false) (fun y0_ y1_ h=>nomatch h) fun{p q P es}f y0_ ih n e he=>by
  obtain⟨h,t,v,rfl,r⟩:=f;rw[show p=(p.1,p.2) from rfl,List.lookup_cons] at n
  by_cases c:k=p.1
  ·rw[beq_iff_eq.mpr c] at n;exact nomatch n
  ·rw[beq_eq_false_iff_ne.mpr c] at n;rcases List.mem_cons.mp he with rfl|he
   ·exact isStr_eq.trans (decide_eq_false fun z=>c (an _ _ z).symm)
   ·exact ih n he
theorem rec_walk(K0:AnInj T)(hR:RecB T C fs ds){g:Heap}{L':Addr}{mI:Str→Option Value}{x dx:Addr}{ox:Obj}(ho1:ox.cls= .ref C)(ho2:notCls ox=true)(ho3:ox.dict=some dx){cl:List (Str×Addr)}(X:T.K.In g)(hme:mI (T.an (T.rd C).me)=some (.ref x))(hxd:x≠dx):
  ∀{fs':List Nat}{body:List Stmt}{us:List V}{vs:List Value}{P:List (Nat×V)}{es:List DictEntry}{n:Nat}{s:Shared}{news:Led},fitR T (T.an (T.rd C).me) fs' body=true→(∀k∈fs',k∈fs)→fs'.Nodup→(∀k∈fs',P.lookup k=none)→As T bk us vs→
   (∀{i:Nat}{k},fs'[i]? =some k→mI (T.an k)=vs[i]?)→fs'.length=us.length→All2 (FD T bk) P es→P.length+fs'.length≤100→Fr g L' s.heap mI→News g L' s.heap ((x,ox)::(dx,dictOf es n)::news)→(∀p∈news,p.1≠dx)→
   ∀{Q:Flow→Shared→Prop},(∀{h' tk es' n'},Fr g L' h' mI→News g L' h' ((x,ox)::(dx,dictOf es' n')::news)→All2 (FD T bk) (P++fs'.zip us) es'→Q .next {s with heap:=h',toks:=tk})→
   wpAny (model T.prog T.w) A (execs body (envX (T.rd C).D.qual (T.rd C).D.scope L' (T.rd C).fI (T.rd C).D.cdv cl)) Q Er s
 |[],body,us,vs,P,es,n,s,news,hf,_,_,_,_,_,_,r,_,F,N,_,Q,k=>nil_k hf▸wpAny_execs_nil (k (h':=s.heap) (tk:=s.toks) F N (by rw[List.zip_nil_left,List.append_nil];exact r))
 |k0::fs',body,us,vs,P,es,n,s,news,hf,hin,hnd,hmiss,ra,hm,hl,r,hlen,F,N,hap,Q,k=>by
  cases us with
  |nil=>exact nomatch hl
  |cons u us=>
  obtain⟨v,vs',rfl,rv,ra⟩:=ra;have loc:=fun{y}(h:y∈((T.rd C).me::fs))=>hR.loc (T.an y) (by obtain⟨rest,e⟩:=hR.pre;rw[e];exact List.mem_append_left _ (List.mem_map_of_mem h));have kk:=hin k0 (.head _);have l1:=loc (.tail _ kk);have l2:=loc (.head _);have hv:=hm (i:=0) (k:=k0) rfl;have I:W.InstAt s.heap x ox C (some (dictOf es n)):=⟨(N _ (.head _)).1,ho1,ho2,by rw[ho3];exact(N _ (.tail _ (.head _))).1⟩;have m0:=hmiss k0 (.head _);have hno:=FD.find K0 (k:=k0) r;rw[m0] at hno;have pn:=putL_new (k:=T.an k0) (hsh:=PyData.keyHash T.w.params (T.an k0)) (key:=.str (T.an k0) (s.toks+1)) (v:=v) (fun e he=>FD.keys K0 r m0 he);have el:es.length+1≤1000:=by rw[r.len];have:=hlen;rw[List.length_cons] at this;omega
  have hnd':=List.nodup_cons.mp hnd;refine fitR_k (C:=fun body=>wpAny _ _ (execs body _) Q Er s) hf fun p p1 p2 p3 body hf=>?_;refine wpAny_execs_cons (plainObj_wpAny_Assign_Attribute (nameX_L F hv (nameX_L F hme ?_ hR.kind l2.1 l2.2) hR.kind l1.1 l1.2) rfl);refine set_dictA F X N I ho3 hR.seta hR.over (hR.taker k0 kk) hR.hasd (by rw[hno];rfl) (by rw[pn]) (.tail hxd (.head hap)) (by rw[List.length_append];exact el) fun h' F' N'=>?_;refine rec_walk K0 hR ho1 ho2 ho3 X hme hxd (P:=P++[(k0,u)]) (s:={s with heap:=h',toks:=s.toks+2}) hf (fun k hk=>hin k (.tail _ hk)) hnd'.2 (fun k hk=>?_) ra (fun{i k}e=>hm (i:=i+1) e) (Nat.succ.inj hl) (r.app (.cons ⟨_,_,_,rfl,rv⟩ .nil)) (by rw[List.length_append];have:=hlen;rw[List.length_cons] at this;show P.length+1+_≤_;omega) F' N' hap fun{h2 tk es' n'}F2 N2 r2=>k F2 N2 (List.append_cons .. ▸r2);rw[List.lookup_append,hmiss k (.tail _ hk),Option.none_or,lk_ne (fun q:k=k0=>hnd'.1 (q▸hk))];rfl
theorem RVs.one(r:RVs T bk (.any::xs) vals fp)(n:xs.all V.nl=true){x:Value}{pv:List Value}(h:vals[0]? =some x){C:Prop}(k:∀{vs},vals=x::vs→As T bk xs vs→fp=[]→C):C:=by
 obtain⟨a,e⟩:=r.ofN (xs:=.any::xs) ((Bool.true_and _).trans n);obtain⟨v,vs,rfl,-,a⟩:=a;obtain rfl:=Option.some.inj h;exact k rfl a e
theorem rec_new(g:Gd T d c A)(hR:RecOK T C fs ds)(S:SR T c m bk (fp++fr) s σ){kw:List (Nat×V)}{kwv:List (Str×Value)}(hb:bindP ((T.rd C).me::fs) (none::ds) (.any::xs) kw=some (.any::bs))(hbn:bs.all V.nl=true)(hl:bs.length=fs.length)(rv:RVs T bk xs pv fp)(rk:All2 (KwR T bk) kw kwv)
  (q:∀{s' bk' x},SR T c m bk' fr s' σ→bk.le bk'→RN T bk' (.inst C (fs.zip bs)) (.ref x)→Q (.ref x) s'):Wp T A (call (.ref C) pv kwv) Q Er s:=S.1.casesOn fun{led own}Z=>by
 have X:=(S.hv g.C.X).X;refine call_cls Z.F g.C.X Z.N hR.makes hR.init hR.isf fun x dx h' F' N' lt1 lt2=>?_;have X':T.K.In h':=g.C.X.keeps F'.keep;refine bind_okP (s:={s with heap:=h'}) (pv:=.ref x::pv) (fp:=[]++fp) g.K.inj hR.toFnG hR.df X' hb (.cons (RN.rv (u:=.any) rfl rfl) rv) rk fun{vals}r2 hv B=>?_;refine r2.one (pv:=pv) hbn (hv (i:=0) rfl) fun{vs}e ra efp=>?_;subst e;refine callX_plain (env:=c.env) (s:={s with heap:=h'}) g.C.B F' N' g.C.Tp.nolimit g.A.frames rfl g.C.kind (X' _ _ hR.lk) hR.data (codeRec_of X' hR.code) ?_ B ?_ (fun g' L' h₁ F1 F2 N2 B2 st lt=>?_) hR.nocell hR.co hR.gen hR.kind
 ·have h1:=g.A.depth;show A.depth+Code.weight (Code.builtin "type.__call__" {pos:=Value.ref C::pv,kw:=kwv})<recursionLimit;have h2:Code.weight (Code.builtin "type.__call__" {pos:=Value.ref C::pv,kw:=kwv})≤2:=Nat.le_of_ble_eq_true (by with_unfolding_all rfl);omega
 ·intro y hy;obtain⟨rest,e⟩:=hR.pre;exact(hR.loc y.1 (e▸List.mem_append_left _ (List.of_mem_zip hy).1)).1
 ·have hnd:=hR.toFnG.pn_nd;have hps:∀{i:Nat}{k},fs[i]? =some k→(fun y=>((((T.rd C).me::fs).map T.an).zip (.ref x::vs)).reverse.lookup y) (T.an k)=vs[i]? :=fun{i k}a=>by
   refine get_lt (l:=vs) (i:=i) (ra.len.trans hl▸lt_of_get a) fun v hv=>?_;exact(bound_lookup hnd (i:=i+1) (by rw[List.getElem?_map];exact congrArg (Option.map T.an) a) hv).trans hv.symm
  have hme:((((T.rd C).me::fs).map T.an).zip (.ref x::vs)).reverse.lookup (T.an (T.rd C).me)=some (.ref x):=bound_lookup hnd (i:=0) rfl rfl;refine rec_walk (bk:=bk) g.K.inj hR.toRecB (ox:=instObj C dx) rfl rfl rfl (g.C.X.keeps st) hme (Ne.symm (Nat.ne_of_lt lt2)) (P:=[]) hR.body (fun k hk=>hk) (List.nodup_cons.mp hR.ndk).2 (fun k hk=>rfl) ra hps hl.symm .nil (by have:=hR.small;show 0+_≤_;omega) F2 N2 (fun p hp=>Nat.ne_of_lt (lt1 p hp)) fun{h2 tk es' n'}F3 N3 r3=>?_;refine⟨L',_,_,F3,N3,fun F4 N4=>⟨rfl,?_⟩⟩;have fp0:fp=[]:=efp;subst fp0;have ll:=(Bk.le_add bk dx (dictOf es' n')).trans (Bk.le_add (bk.add dx (dictOf es' n')) x (instObj C dx));have N1:News c.h₀ c.L _ ((dx,dictOf es' n')::led):=fun p hp=>N4 p (.tail _ hp);exact q ⟨.mk ((Z.addI F4 N1 (nes lt1)).addI F4 N4 (nes fun p hp=>(List.mem_cons.mp hp).elim (fun e=>e▸lt2) fun hp=>Nat.lt_trans (lt1 p hp) lt2)),S.2⟩ ll ⟨es',.of (r3.imp fun⟨a,b,c,e,r⟩=>⟨a,b,c,e,r.mono ll⟩),.mk (Bk.mem_add ..) rfl rfl rfl (.tail _ (Bk.mem_add ..)) fun p hp=>hR.fld p.1 (List.of_mem_zip hp).1⟩
noncomputable def RecsOK(T:Tb):Prop:=∀{C fs ds},T.fl C=some (fs,ds)→T.xc C=false→RecOK T C fs ds
theorem Ev.new{es:List E}{kw:List (Nat×E)}{kv:List (Nat×V)}{vs:Ar}{k:Nat}{σ1:St}(K2:RecsOK T)(hC:T.gv k=some (.glob C))(hfl:T.fl C=some (fs,ds))(hx:T.xc C=false)(h:As' T d es σ (.ok vs σ1))(hk:pks T σ1 kw=some kv)(hb:bindP ((T.rd C).me::fs) (none::ds) (.any::vs.map (·.1)) kv=some (.any::bs))(hn:bs.all V.nl=true)(hl:bs.length=fs.length):
  Ev T d (.new k es kw) σ (.ok (.inst C (fs.zip bs)) σ1):=@fun c A g x s m bk fr hf S Q Er q=>xCall_k hf fun f' as ks pos hf=>xName_k (and_l hf) fun y p hn'=>by
 have hR:=K2 hfl hx;rw[beq_iff_eq.mp (and_l hn')];refine wpAny_bind (glb_ok g.K.toTbOK g.C S (beq_iff_eq.mp (and_l hn')▸and_r hn') hC fun v hv=>?_);obtain rfl:=show v= .ref C from hv
 exact callA (first:=[]) g hR.keep (and_r hf) h hk S (fit_plains (and_l (and_r hf))) (fitk_some (and_r (and_r hf))) fun S1 l1 r1 j1 r2=>rec_new g hR S1 hb hn hl r1 r2 fun S2 l2 r=>q.ok S2 (l1.trans l2) r
theorem Ev.newv{es:List E}{vs:Ar}{i:Nat}{σ1:St}(K2:RecsOK T)(hC:σ.loc[i]? =some (.glob C))(hfl:T.fl C=some (fs,ds))(hx:T.xc C=false)(h:As' T d es σ (.ok vs σ1))(hb:bindP ((T.rd C).me::fs) (none::ds) (.any::vs.map (·.1)) []=some (.any::bs))(hn:bs.all V.nl=true)(hl:bs.length=fs.length):
  Ev T d (.newv i es) σ (.ok (.inst C (fs.zip bs)) σ1):=@fun c A g x s m bk fr hf S Q Er q=>xCall_k hf fun f' as ks pos hf=>nil_k (and_l (and_l hf))▸xName_k (and_r (and_l hf)) fun y p hn'=>by
 have hR:=K2 hfl hx;refine wpAny_bind (loc_ok g.C S (beq_iff_eq.mp hn') hC nofun fun v y0_ r=>?_);obtain rfl:=show v= .ref C from RB.ofN (u:=.glob C) rfl r
 exact callA (kw:=[]) (first:=[]) g hR.keep (Bool.and_eq_true_iff.mpr ⟨and_r hf,rfl⟩) h (kv:=[]) rfl S (fit_plains (and_r hf)) rfl fun S1 l1 r1 j1 r2=>rec_new g hR S1 hb hn hl r1 r2 fun S2 l2 r=>q.ok S2 (l1.trans l2) r
end
end Mine.Internal
end
section
open PySem PySem.W PySem.Calls PyProof.Rows
namespace Mine.Internal
noncomputable section
structure PrOK (T:Tb):Prop where
 pk:keepIn T.K (.ref T.CP)=true
 pmk:makesIn T.K T.CP=true
 pin:findIn T.K (.ref T.CP) "__init__"=some (some (.ref (T.fa T.pinit)))
 pfn:isFn T.K (.ref (T.fa T.pinit))=true
 ok:FnOK T T.pinit
variable{T:Tb} {c:Cx} {m:Str→Option Value} {bk bk':Bk} {fr fp:Led} {A:Around} {Q Er:Value→Shared→Prop} {s:Shared} {σ σ1:St} {d k:Nat} {xs bs outs:List V} {pv vals:List Value} {P:Pt} {es:List E} {vs:Ar}
theorem AOK.under(hA:AOK c A d){cd:Code}(h0:(A.under cd).frames=A.frames)(h3:(A.under cd).handled=A.handled)(h1:cd.weight≤2)(h2:cd.cUnits≤9):AOC c (A.under cd) d:=
 ⟨h0.trans hA.frames,by have:=hA.depth;show A.depth+cd.weight+_+_<_;omega,by have:=hA.units;show A.units+cd.cUnits+_+_<_;omega,h3.trans hA.handled⟩
theorem parser_new(g:Gd T d c A)(hR:PrOK T)(S:SR T c m bk (fp++fr) s σ)(hP:σ.P=[])(hb:bindK (T.fn T.pinit) (.self::xs) []=some bs)(rv:RVs T bk xs pv fp)(H:Run T d T.pinit bs [(1000,.none)] (.ret .none P outs))
  (q:∀{s' bk' x},SR T c m bk' fr s' ⟨σ.loc,P⟩→bk.le bk'→RN T bk' .self (.ref x)→Q (.ref x) s'):Wp T A (call (.ref T.CP) pv []) Q Er s:=S.1.casesOn fun{led own}Z=>by
 have P0:=Z.P;rw[hP] at P0;cases P0 with|un e0 a0=>
 refine call_cls Z.F g.C.X Z.N hR.pmk hR.pin hR.pfn fun x dx h' F' N' lt1 lt2=>?_;have lb:bk.le ⟨(x,instObj T.CP dx)::bk.I,some x,bk.ad⟩:=⟨fun y0_ h=>.tail _ h,fun y e=>no_some (e0.symm.trans e),fun y0_ y1_ h=>h⟩;have lt3:∀p∈(dx,dictOf [] 0)::led,p.1<x:=fun p hp=>(List.mem_cons.mp hp).elim (fun e=>e▸lt2) fun hp=>Nat.lt_trans (lt1 p hp) lt2;have R1:=(Z.R.tr (own':=own.set dx .par) (led':=(dx,dictOf [] 0)::led) (X:=.no) (fun y0_ y1_=>kp_new (nes lt1)) nofun nofun nofun (List.nodup_cons.mpr ⟨keys_not (nes lt1),Z.R.dj⟩)).tr (own':=(own.set dx .par).set x .im) (led':=(x,instObj T.CP dx)::(dx,dictOf [] 0)::led) (X:=.no) (fun y0_ y1_=>kp_new (nes lt3)) nofun nofun nofun (List.nodup_cons.mpr ⟨keys_not (nes lt3),List.nodup_cons.mpr ⟨keys_not (nes lt1),Z.R.dj⟩⟩);have S2:SR T c m ⟨(x,instObj T.CP dx)::bk.I,some x,bk.ad⟩ (fp++fr) {s with heap:=h'} ⟨σ.loc,[(1000,.none)]⟩:=
  ⟨.mk ⟨R1.mono lb fun p hp=>(List.mem_cons.mp hp).elim mem_new (R1.imm p),.ok rfl (.head _) (.tail _ (.head _)) ((Own.ne (Nat.ne_of_lt lt2)).trans Own.self) (Nat.le_refl _) (Nat.zero_le _) fun k=>.no rfl (a0 k),F',N',Z.pin⟩,S.2⟩
 refine bind_ok (s:={s with heap:=h'}) (pv:=.ref x::pv) (kwv:=[]) (fp:=[]++fp) g.K.inj hR.ok (g.C.X.keeps F'.keep) hb (.cons (RN.rv (u:=.self) rfl ⟨x,rfl,rfl⟩) (rv.mono lb)) .nil fun r2 hv B=>?_;refine H g.K g.C (g.A.under rfl rfl (Nat.le_of_ble_eq_true (by with_unfolding_all rfl)) (Nat.le_of_ble_eq_true (by with_unfolding_all rfl))) (fr:=fr) (loc:=σ.loc) S2 r2 hR.ok B @fun s' b' v fv led own Z3 sm l3 hv y0_=>?_;obtain⟨rfl,rfl⟩:=(RX.ofN (u:=.none) rfl).mp hv;exact⟨rfl,q ⟨.mk Z3,sm⟩ (lb.trans l3) ⟨x,rfl,l3.sx _ rfl⟩⟩
theorem Ev.newp(K2:PrOK T)(hC:T.gv k=some (.glob T.CP))(h:As' T d es σ (.ok vs σ1))(hP:σ1.P=[])(hb:bindK (T.fn T.pinit) (.self::vs.map (·.1)) []=some bs)(H:Run T d T.pinit bs [(1000,.none)] (.ret .none P outs)):
  Ev T d (.new k es []) σ (.ok .self ⟨σ1.loc,P⟩):=@fun c A g x s m bk fr hf S Q Er q=>xCall_k hf fun f' as ks pos hf=>xName_k (and_l hf) fun y p hn'=>by
 rw[beq_iff_eq.mp (and_l hn')];refine wpAny_bind (glb_ok g.K.toTbOK g.C S (beq_iff_eq.mp (and_l hn')▸and_r hn') hC fun v hv=>?_);obtain rfl:=show v= .ref T.CP from hv
 exact callA (first:=[]) g K2.pk (and_r hf) h (kv:=[]) rfl S (fit_plains (and_l (and_r hf))) (fitk_some (and_r (and_r hf))) fun{_ _ _ kwv _}S1 l1 r1 j1 r2=>by
  obtain rfl:=show kwv=[] from r2
  exact parser_new g K2 S1 hP hb r1 H fun S2 l2 r=>q.ok S2 (l1.trans l2) r
end
end Mine.Internal
end
section
open PySem PySem.W PySem.Calls PyProof.Rows
namespace Mine.Internal
noncomputable section
structure SupOK (T:Tb) (g f:Nat) (cc cda Dc:Addr):Prop where
 cl:(T.fd f).cl=[(("__class__":Str),cc)]
 cdv:(T.fd f).cdv= .ref cda
 code:∃ccl cdd vs ccs file tf,T.K.lookup cda=some ⟨ccl,cdd,.fields vs,ccs⟩∧vs[2]? =some (.str file tf)∧((T.prog.main.file:Str)==file)=true
 cell:∃cl cld csl,T.K.lookup cc=some ⟨cl,cld,.cell (some (.ref Dc)),csl⟩
 cls:∃cdD,clsIn T.K Dc=some cdD
 sub:mroIn T.K T.CP (.ref Dc)=some true
 ks:(T.fd f).scope.names.lookup ("super":Str)=some .globalImplicit
 kc:(T.fd f).scope.names.lookup ("__class__":Str)=some .free
 nosup:(T.prog.main.scope.names.lookup ("super":Str)).isSome=false
 third:nsIn T.K cStatics "thirdparty.any"=some none
 find:ks_superIn T.K T.CP Dc "__init__"=some (some (.ref (T.fa g)))
 fn:typeIn T.K (.ref (T.fa g))=some (.type "function")
 ar:∃ar,((T.fd f).params.posonlyargs++(T.fd f).params.args).head?=some ar∧(T.fd f).ns[0]? =some ar.arg
variable{T:Tb} {c:Cx} {m:Str→Option Value} {bk bk':Bk} {fr fp:Led} {A:Around} {Er:Value→Shared→Prop} {s:Shared} {σ σ1 σ':St} {d k f gf np:Nat} {xs bs outs:List V} {pv vals:List Value} {P:Pt} {es:List E} {vs:Ar} {cc cda Dc:Addr} {r:CR} {is:List S}
theorem meth_callAt{cd:Code}{env:Env}{o:Expr}{name:Str}{p pos:Pos}{as:List Expr}{Q:Value→Shared→Prop}(hp:(p.endLine==pos.line)=true)(hl:as.length<29)(ha:as.all plainE=true)
  (h:_root_.PySem.wpAt (model T.prog T.w) A cd (attributeBase o name env (eval o env)) (fun ov s₁=>∀pl:Sem Bool,wpAny (model T.prog T.w) A (getMethod ov name pl) (fun fx s₂=>Wp T A (callWith pos fx.1 fx.2 (backTo pos (starEach as env)) (backToKw pos (keywordEach [] env))) Q Er s₂) Er s₁) Er s):
  _root_.PySem.wpAt (model T.prog T.w) A cd (eval (.Call (.Attribute o name p) as [] pos) env) Q Er s:=by
 have hf:methodCallForm (as.length+0) (backTo pos (starEach as env)) (backToKw pos (keywordEach [] env))=true:=by
  unfold methodCallForm;rw[backTo_plain ha];show(true&&_)=true;simp only[Bool.true_and];simp only[decide_eq_true_eq];split<;>omega
 have he:eval (.Call (.Attribute o name p) as [] pos) env=(do
   let ov←attributeBase o name env (eval o env)
   standAt p.atName
   methodCall o name p pos env ov (as.length+0) (backTo pos (starEach as env)) (backToKw pos (keywordEach [] env))):=rfl
 rw[he];refine _root_.PySem.wpAt_bind (_root_.PySem.wpAt_mono h (fun ov s₁ h₁=>_root_.PySem.wpAt_of_wpAny (wpAny_bind (wpAny_standAt ?_))) fun y0_ y1_ x=>x);unfold methodCall;rw[hf];refine wpAny_bind (wpAny_holding ?_);show wpAny (model T.prog T.w) A (getMethod ov name _) _ _ _;refine wpAny_mono (h₁ _) (fun fx s₂ h₂=>?_) fun y0_ y1_ x=>x;unfold methodCallPos;rw[hp];exact wpAny_bind (wpAny_pure h₂)
theorem boot_super:bootBuiltins "super"=some (.type "super"):=by first|boot_by_name|rfl|kernel_rfl
theorem FnOK.fo_eq(hD:FnOK T f){fd:FuncData}(e:(T.fd f).fd=fd):T.K.lookup (T.fa f)=some ⟨(T.fd f).fo.cls,(T.fd f).fo.dict,.func fd,(T.fd f).fo.slots⟩:=by
 rw[hD.lk,←e,←hD.data]
theorem sup_ok{c0:Cx}{A0:Around}{s0:Shared}{g0:Heap}{L':Addr}(hc:c=c0.call T f A0 s0 g0 L' xs vals)(hD:FnOK T f)(hG:FnOK T gf)(hS:SupOK T gf f cc cda Dc)(g:Gd T d c A){x:Expr}(hf:supFit T c.ns c.scope es x=true)
  (hi:σ.loc[0]? =some .self) (ha:(σ.P.lookup 1000).isSome=true) (h:As' T d es σ (.ok vs σ1)) (hb:bindK (T.fn gf) (.self::vs.map (·.1)) []=some bs) (H:Run T d gf bs σ1.P r) (S:SR T c m bk fr s σ) {body:List Stmt} {Q:Value→Shared→Prop} (q:EvP T c m bk fr (resC (none::vs.map (·.2)) σ1.loc r) Q Er):
  _root_.PySem.wpAt (model T.prog T.w) A (.func body c.env) (eval x c.env) Q Er s:=xCall_k (C:=fun x=>_root_.PySem.wpAt (model T.prog T.w) A (.func body c.env) (eval x c.env) Q Er s) hf fun fe as ks pos hf=>xAttrP_k (C:=fun fe=>_root_.PySem.wpAt (model T.prog T.w) A (.func body c.env) (eval (.Call fe as ks pos) c.env) Q Er s) hf fun v y p hf=>by
 have h1:=and_l (and_l (and_l (and_l hf)));have hfit:=and_r hf;obtain rfl:=nil_k (and_r h1);refine xCall_k (C:=fun v=>_root_.PySem.wpAt (model T.prog T.w) A (.func body c.env) (eval (.Call (.Attribute v y p) as [] pos) c.env) Q Er s) (and_r (and_l (and_l (and_l hf)))) fun g1 a1 k1 p1 hv=>?_;obtain rfl:=nil_k (and_l (and_l hv));obtain rfl:=nil_k (and_r (and_l hv));refine xName_k (C:=fun g1=>_root_.PySem.wpAt (model T.prog T.w) A (.func body c.env) (eval (.Call (.Attribute (.Call g1 [] [] p1) y p) as [] pos) c.env) Q Er s) (and_r hv) fun z p0 hz=>?_;rw[beq_iff_eq.mp hz,beq_iff_eq.mp (and_r (and_l (and_l hf)))];refine meth_callAt (and_l (and_l h1)) (of_decide_eq_true (and_r (and_l h1))) (fit_plains hfit) ?_;obtain⟨ccl,cdd,vs',ccs,file,tf,k1,k2,k3⟩:=hS.code;obtain⟨clv,cld,csl,k4⟩:=hS.cell;obtain⟨cdD,k5⟩:=hS.cls;obtain⟨ar,k13,k14⟩:=hS.ar;have he:c.env=ksEnv c.qual c.scope c.L (T.fa f) (.ref cda) cc:=by
  subst hc;show envX _ _ _ _ (T.fd f).cdv (T.fd f).cl=_;rw[hS.cdv,hS.cl];rfl
 have hns:c.ns[0]? =some ar.arg:=by subst hc;exact k14
 have hsc:c.scope=(T.fd f).scope:=by subst hc;rfl
 refine S.get hns hi nofun fun v hm rb=>?_;obtain⟨x',rfl,hx⟩:=RB.ofN (u:=.self) rfl rb;have al:∀{s1 b1 C},SR T c m b1 fr s1 σ→bk.le b1→(∀{dx es n led},News c.h₀ c.L s1.heap led→W.InstAt s1.heap x' (instObj T.CP dx) T.CP (some (dictOf es n))→C)→C:=fun{s1 b1 C}S1 l1 k=>S1.alive g.C.X (l1.sx _ hx) (k:=0) (by decide) (fun N I y0_=>k N I) fun y0_ e=>by rw[e] at ha;exact absurd ha Bool.false_ne_true
 have key:∀{Q0:Value→Shared→Prop},(∀so h',Fr c.h₀ c.L h' m→(∀{C:Prop},(SR T c m (bk.add so (ks_superObj Dc x' T.CP)) fr {s with heap:=h'} σ→C)→C)→Q0 (.ref so) {s with heap:=h'})→_root_.PySem.wpAt (model T.prog T.w) A (.func body c.env) (attributeBase (.Call (.Name "super" p0) [] [] p1) "__init__" c.env (eval (.Call (.Name "super" p0) [] [] p1) c.env)) Q0 Er s:=fun{Q0}k=>S.1.casesOn fun{led own}Z=>by
  rw[he];refine al S (.refl _) fun{dx es0 n0 _}y0_ I=>ks_node (ox:=instObj T.CP dx) (C:=T.CP) (D:=Dc) (fd:=(T.fd f).fd) S.F g.C.X Z.N g.C.Tp (hD.fo_eq rfl) k13 hm I k1 k2 k3 k4 k5 hS.sub (g.K.blt _ (by decide)) (by decide) (hsc▸hS.ks) (hsc▸hS.kc) (g.C.loc ar.arg (List.mem_of_getElem? hns)).1 g.C.kind hS.nosup boot_super fun so h' F' N' lt=>k so h' F' fun kk=>kk ⟨.mk (Z.addI F' N' (nes lt)),S.2⟩
 refine key fun so h' F' k pl=>k fun S1=>S1.1.casesOn fun{led1 own1}Z1=>al S1 (Bk.le_add ..) fun{dx es0 n0 _}y0_ I=>?_;refine ks_method F' g.C.X Z1.N (Z1.R.imm _ (Bk.mem_add ..)).1 I hS.third hS.find hS.fn (by decide) fun q' h2 F2 N2 lt2=>?_;have S2:SR T c m ((bk.add so (ks_superObj Dc x' T.CP)).add q' (methodObj (.ref (T.fa gf)) (.ref x'))) fr {s with heap:=h2,toks:=s.toks+1} σ:=⟨.mk (Z1.addI F2 N2 (nes lt2)),S.2⟩;have l2:=(bk.le_add so (ks_superObj Dc x' T.CP)).trans (Bk.le_add (bk.add so (ks_superObj Dc x' T.CP)) q' (methodObj (.ref (T.fa gf)) (.ref x')));have fin:wpAny (model T.prog T.w) A (spliced (backTo pos (starEach as c.env))) (fun pv s3=>MethP T.K q' (T.fa gf) (.ref x') s3.heap∧Wp T A (call (.ref q') pv []) Q Er s3) Er {s with heap:=h2,toks:=s.toks+1}:=h g hfit S2 @fun s3 b3 pv f3 S3 l3 r3 j3=>by
  have hm:(q',methodObj (.ref (T.fa gf)) (.ref x'))∈b3.I:=l3.I _ (Bk.mem_add ..);have H3:=S3.hv g.C.X;refine⟨⟨H3.I _ hm,H3.X⟩,S3.1.casesOn fun Z3=>call_meth Z3.N (Z3.R.imm _ hm).1 ?_⟩;exact bind_ok (xs:=.self::vs.map (·.1)) (pv:=.ref x'::pv) (kwv:=[]) (fp:=[]++f3) g.K.inj hG H3.X hb (.cons (RN.rv (u:=.self) rfl ⟨x',rfl,l3.sx _ (l2.sx _ hx)⟩) r3) .nil fun r2 hv B=>H g.K g.C g.A.toC S3 r2 hG B (CrP.of q (l2.trans l3) (JsR.cons (fun e=>no_some e) j3) (congrArg (· +1) (r3.len.trans (by rw[List.length_map,List.length_map]))) hv)
 have hpl:=fit_plains hfit;cases as with
 |nil=>exact absurd (and_r (and_l hf)) Bool.false_ne_true
 |cons a rest=>exact S2.1.casesOn fun Z2=>callWith_M g.C.X Z2.N (Z2.R.imm _ (Bk.mem_add ..)).1 hG.keep.2 fin (starEach_plain (and_l hpl)) (backTo_any (and_r hpl))
theorem Run.sup{r2:R Fl}{v:V}(hS:SupOK T gf f cc cda Dc)(hG:FnOK T gf)(hx:xs.length=(T.fn f).np)(hc:(T.fn f).code= .expr (.supi gf es)::is)(hi:(locOf T f xs)[0]? =some .self)(ha:(P.lookup 1000).isSome=true)(h:As' T d es ⟨locOf T f xs,P⟩ (.ok vs σ1))(hb:bindK (T.fn gf) (.self::vs.map (·.1)) []=some bs)(H:Run T d gf bs σ1.P r)
  (hr:resC (none::vs.map (·.2)) σ1.loc r= .ok v σ') (k:Exs T d (T.fn f).np is σ' r2):Run T (d+1) f xs P (crOf (T.fn f).np r2):=
 @fun c A K0 C0 hA s m bk fr fp loc vals args S rv hD hB Rr hR=>S.1.casesOn fun{led own}Z=>by
  have hX:=(S.hv C0.X).X;have nd:=Z.R.frd;rw[List.map_append] at nd;obtain⟨τ,t⟩:=rv.tau (List.nodup_append.mp nd).1;have e1:(T.fd f).fd=ksFn (T.fd f).name (T.fd f).qual (T.fd f).params (T.fd f).body (T.fd f).scope (T.fd f).dV (T.fd f).kV (T.fd f).doc (T.fd f).pm (T.fd f).an (T.fd f).cdv (T.fd f).ct cc:=by unfold FnD.fd;rw[hS.cl]
  rw[e1] at hB;refine ks_code_super C0.B Z.F C0.X Z.N C0.Tp hA.frames rfl C0.kind (hD.fo_eq e1) hD.code (Nat.lt_of_le_of_lt (Nat.le_trans (Nat.le_add_right _ _) (Nat.le_add_right _ _)) hA.depth) hB (fun y hy=>?_) (fun g L' h₁ F1 F2 N2 B2 st' y0_ lt=>?_) hD.nocell hD.co hD.gen hD.kind
  ·obtain⟨rest,hrest⟩:=hD.pre;exact(hD.loc y.1 (hrest▸List.mem_append_left _ (List.of_mem_zip hy).1)).1
  ·have he:(c.call T f A s g L' xs vals).env=ksEnv (T.fd f).qual (T.fd f).scope L' (T.fa f) (T.fd f).cdv cc:=by
    show envX _ _ _ _ _ (T.fd f).cl=_;rw[hS.cl];rfl
   rw[←he];have G:Gd T d (c.call T f A s g L' xs vals) (A.deeper (c.call T f A s g L' xs vals).env):=⟨K0,Cx.call_ok C0 hD B2 F1.keep,AOC.call hA⟩;have S1:SR T (c.call T f A s g L' xs vals) (mOf T f vals) bk (frIn led (own.inn τ)) {s with heap:=h₁,toks:=s.toks+((pnames T f).zip vals).length} ⟨locOf T f xs,P⟩:=⟨.mk (Z.enter rv t hD hx F2 N2),rfl,rfl,rfl⟩;have q:=ExP.call (T:=T) (r2:=r2) (r:=crOf (T.fn f).np r2) (by cases r2<;>rfl) hA Z S.2 t.2 rv hx F1 F2.above hR;have hb':=hD.body;rw[hc] at hb';generalize (T.fd f).body=body at hb';cases body with
   |nil=>exact absurd hb' Bool.false_ne_true
   |cons x body=>
    have fx:=and_l hb';refine ks_wpAt_execs_cons (yExpr_k (C:=fun x=>_root_.PySem.wpAt (model T.prog T.w) _ (.func (x::body) _) (exec x _) _ _ _) fx fun x' p' fx'=>ks_wpAt_Expr_any (sup_ok rfl hD hG hS G (and_r fx') hi ha h hb H S1 (hr▸@fun s3 b3 w3 f3 S3 l3 y0_=>_root_.PySem.wpAt_of_wpAny (k G (by rw[←hx];exact(List.length_zipWith ..).symm▸Nat.min_le_left ..) (and_r hb') S3.drop (q.le l3)))) (fn_env G.C) (swaps_no (and_l fx')))
end
end Mine.Internal
end
section
open PySem PySem.W PySem.Calls PyProof.Rows
namespace Mine.Internal
noncomputable section
structure ExcOK (T:Tb) (C:Addr) (fs:List Nat) (ds:List (Option V)):Prop extends RecB T C fs ds where
 mkx:ExcM T.K C
noncomputable abbrev oExc(C dx t:Addr):Obj:={cls:=.ref C,dict:=some dx,data:=.fields #[.ref t,.none,.none,.none,.bool false,.none]}
variable{T:Tb} {c:Cx} {m:Str→Option Value} {bk bk':Bk} {fr fp:Led} {A:Around} {Q Er:Value→Shared→Prop} {s:Shared} {σ σ1:St} {d k np:Nat} {C:Addr} {fs:List Nat} {ds:List (Option V)} {k0:Nat} {ks:List Nat} {u:V} {us xs bs:List V} {pv:List Value} {es:List E} {vs:Ar}
theorem exc_new_(g:Gd T d c A)(hR:ExcOK T C (k0::ks) ds)(S:SR T c m bk (fp++fr) s σ)(hb:bindP ((T.rd C).me::k0::ks) (none::ds) (.any::xs) []=some (.any::u::us))(hbn:(u::us).all V.nl=true)(hl:(u::us).length=(k0::ks).length)(hxl:xs.length≤100)(rv:RVs T bk xs pv fp)
  (q:∀{s' bk' e dx t es n},SR T c m bk' ((e,oExc C dx t)::fr) s' σ→bk.le bk'→(dx,dictOf es n)∈bk'.I→All2 (FD T bk') ((k0,u)::ks.zip us) es→Q (.ref e) s'):Wp T A (call (.ref C) pv []) Q Er s:=S.1.casesOn fun{led own}Z=>by
 have X:=(S.hv g.C.X).X;cases hR.mkx with|@mk nm qq NN bs' bm sn sub ab col dd q0 q1 q2 q3 q5 hC0 TE=>
 have hC:=X _ _ hC0;have hpv:pv.length≤sizeLine:=rv.len▸Nat.le_trans hxl (by decide);have F':=(Z.F.push (tupX pv)).push (excObj C s.heap.objs.size);have N1:=News.push Z.F Z.N (tupX pv);have N':=News.push (Z.F.push (tupX pv)) N1 (excObj C s.heap.objs.size);rw[Heap.size_push] at N';have lt1:=lt_all Z.N;have X':T.K.In ((s.heap.push (tupX pv)).push (excObj C s.heap.objs.size)):=g.C.X.keeps F'.keep;have hA1:(A.under (.builtin "type.__call__" ⟨.ref C::pv,[]⟩)).depth<recursionLimit:=by
  have h1:=g.A.depth;show A.depth+Code.weight (Code.builtin "type.__call__" {pos:=Value.ref C::pv,kw:=[]})<recursionLimit;have h2:Code.weight (Code.builtin "type.__call__" {pos:=Value.ref C::pv,kw:=[]})≤2:=Nat.le_of_ble_eq_true (by with_unfolding_all rfl);omega
 refine wpAny_call ?_;obtain⟨hh,g0,dr,tk0,os⟩:=s;refine exc_call X TE hC hR.init (beq_iff_eq.mp hR.isf) hpv ?_;refine bind_okP (s:=⟨(hh.push (tupX pv)).push (excObj C hh.objs.size),g0,dr,tk0,os⟩) (pv:=.ref (hh.objs.size+1)::pv) (kwv:=[]) (fp:=[]++fp) g.K.inj hR.toFnG hR.df X' hb (.cons (RN.rv (u:=.any) rfl rfl) rv) .nil fun{vals}r2 hv B=>?_;refine r2.one (pv:=pv) hbn (hv (i:=0) rfl) fun{vs}e ra efp=>?_;subst e;have fp0:fp=[]:=efp;subst fp0;refine callX_plain (env:=c.env) (s:=⟨(hh.push (tupX pv)).push (excObj C hh.objs.size),g0,dr,tk0,os⟩) g.C.B F' N' g.C.Tp.nolimit g.A.frames rfl g.C.kind (X' _ _ hR.lk) hR.data (codeRec_of X' hR.code) hA1 B (fun y hy=>?_) (fun g' L' h₁ F1 F2 N2 B2 st lt=>?_) hR.nocell hR.co hR.gen hR.kind
 ·obtain⟨rest,e⟩:=hR.pre;exact(hR.loc y.1 (e▸List.mem_append_left _ (List.of_mem_zip hy).1)).1
 ·have hnd:=hR.toFnG.pn_nd;have hps:∀{i:Nat}{k},(k0::ks)[i]? =some k→(fun y=>((((T.rd C).me::k0::ks).map T.an).zip (.ref (hh.objs.size+1)::vs)).reverse.lookup y) (T.an k)=vs[i]? :=fun{i k}a=>by
   refine get_lt (l:=vs) (i:=i) (ra.len.trans hl▸lt_of_get a) fun v hv=>?_;exact(bound_lookup hnd (i:=i+1) (by rw[List.getElem?_map];exact congrArg (Option.map T.an) a) hv).trans hv.symm
  have hme:((((T.rd C).me::k0::ks).map T.an).zip (.ref (hh.objs.size+1)::vs)).reverse.lookup (T.an (T.rd C).me)=some (.ref (hh.objs.size+1)):=bound_lookup hnd (i:=0) rfl rfl;have hbody:=hR.body;have loc:=fun{y}(h:y∈((T.rd C).me::k0::ks))=>hR.loc (T.an y) (by obtain⟨rest,e⟩:=hR.pre;rw[e];exact List.mem_append_left _ (List.mem_map_of_mem h));obtain⟨v,vs,rfl,rv0,ra⟩:=ra;have l1:=loc (.tail _ (.head _));have l2:=loc (.head _);have hnk:=List.nodup_cons.mp (List.nodup_cons.mp hR.ndk).2;generalize (T.rd C).D.body=body at hbody;refine fitR_k (C:=fun body=>wpAny _ _ (execs body _) _ _ _) hbody fun p p1 p2 p3 body hbody=>?_;refine wpAny_execs_cons (plainObj_wpAny_Assign_Attribute (nameX_L F2 (hps (i:=0) rfl) (nameX_L F2 hme ?_ hR.kind l2.1 l2.2) hR.kind l1.1 l1.2) rfl);have hap:∀p∈(hh.objs.size,tupX pv)::led,p.1≠hh.objs.size+1:=fun p hp=>(List.mem_cons.mp hp).elim (fun e=>e▸Nat.ne_of_lt (Nat.lt_succ_self _)) fun hp=>Nat.ne_of_lt (Nat.lt_succ_of_lt (lt1 p hp));refine set_newA (w:=T.w) (x:=hh.objs.size+1) F2 (g.C.X.keeps st) N2 hap rfl rfl rfl hR.seta hR.over (hR.taker k0 (.head _)) hR.hasd fun h' Dx F3 N3 lt3=>?_;refine rec_walk (bk:=bk) g.K.inj hR.toRecB (ox:=oExc C Dx hh.objs.size) rfl rfl rfl (g.C.X.keeps st) hme (Nat.ne_of_lt (lt3 _ (.head _))) (P:=[(k0,u)]) hbody (fun k hk=>.tail _ hk) hnk.2 (fun k hk=>(lk_ne (fun q:k=k0=>hnk.1 (q▸hk))).trans rfl) ra (fun{i k}a=>hps (i:=i+1) a) (Nat.succ.inj hl).symm (.cons ⟨_,_,_,rfl,rv0⟩ .nil) (by have:=hR.small;rw[List.length_cons] at this;show 1+_≤_;omega) F3 N3 (fun p hp=>Nat.ne_of_lt (lt3 p (.tail _ hp))) fun{h2 tk es' n'}F4 N4 r3=>?_;refine⟨L',_,_,F4,N4,fun F5 N5=>⟨rfl,?_⟩⟩;have Na:News c.h₀ c.L _ ((hh.objs.size,tupX pv)::led):=fun p hp=>N5 p (.tail _ (.tail _ hp));have Nb:News c.h₀ c.L _ ((hh.objs.size+1,oExc C Dx hh.objs.size)::(hh.objs.size,tupX pv)::led):=fun p hp=>(List.mem_cons.mp hp).elim (fun e=>e▸N5 _ (.head _)) (Na p);have Nc:News c.h₀ c.L _ ((Dx,dictOf es' n')::(hh.objs.size+1,oExc C Dx hh.objs.size)::(hh.objs.size,tupX pv)::led):=fun p hp=>(List.mem_cons.mp hp).elim (fun e=>e▸N5 _ (.tail _ (.head _))) (Nb p);have Z3:=((Z.addI F5 Na (nes lt1)).addF F5 Nb (nes fun p hp=>(List.mem_cons.mp hp).elim (fun e=>e▸Nat.lt_succ_self _) fun hp=>Nat.lt_succ_of_lt (lt1 p hp))).addI F5 Nc<|nes fun p hp=>(List.mem_cons.mp hp).elim (fun e=>by subst e;exact lt3 (hh.objs.size+1,excObj C hh.objs.size) (.head _)) fun hp=>lt3 p (.tail _ hp);have ll:=(Bk.le_add bk hh.objs.size (tupX pv)).trans (Bk.le_add (bk.add hh.objs.size (tupX pv)) Dx (dictOf es' n'));exact q ⟨.mk Z3,S.2⟩ ll (Bk.mem_add ..) (r3.imp fun⟨a,b,c,e,r⟩=>⟨a,b,c,e,r.mono ll⟩)
end
end Mine.Internal
end
section
open PySem PySem.W PySem.Calls PyProof.Rows
namespace Mine.Internal
noncomputable section
section
variable{x y:Str} {h:Int} {k v w:Value} {es:List DictEntry} {t:Tok}
theorem getL_con{e:DictEntry}:getL y (e::es)=if e.key.isStr y=true then some (some e.val) else(match getL y es with|some none=>if e.refKey=true then none else some none|o=>o):=by
 unfold getL;rw[List.find?_cons,List.any_cons];cases e.key.isStr y with
 |true=>rfl
 |false=>cases es.find? (·.key.isStr y) with
  |some=>rfl
  |none=>cases es.any (·.refKey)<;>cases e.refKey<;>rfl
theorem putL_self:∀{es:List DictEntry},getL x (putL x h (.str x t) v es)=some (some v)
 |[]=>by rw[putL,Mine.Internal.getL_cons,if_pos rfl]
 |e::es=>by
  rw[putL]
  by_cases q:e.key.isStr x=true
  ·rw[if_pos q,getL_con,if_pos q]
  ·rw[if_neg q,getL_con,if_neg q,putL_self]
theorem putL_ne(n:x≠y):∀{es:List DictEntry},getL y (putL x h (.str x t) v es)=getL y es
 |[]=>by rw[putL,Mine.Internal.getL_cons,if_neg n]
 |e::es=>by
  rw[putL]
  by_cases q:e.key.isStr x=true
  ·have q':¬e.key.isStr y=true:=fun z=>n ((by
    cases e with|mk a b c=>
    cases b<;>first|exact absurd q Bool.false_ne_true|exact(of_decide_eq_true (isStr_eq.symm.trans q)).symm.trans (of_decide_eq_true (isStr_eq.symm.trans z))))
   rw[if_pos q,getL_con,getL_con (e:=e) (es:=es),if_neg q',if_neg q'];rfl
  ·rw[if_neg q,getL_con,getL_con (e:=e) (es:=es),putL_ne n]
theorem putL_len:∀{es:List DictEntry},(putL x h k v es).length≤es.length+1
 |[]=>Nat.le_refl _
 |e::es=>by
  rw[putL]
  by_cases q:e.key.isStr x=true
  ·rw[if_pos q];exact Nat.le_succ _
  ·rw[if_neg q];exact Nat.succ_le_succ putL_len
theorem putL_len':∀{es:List DictEntry},getL x es=some (some w)→(putL x h k v es).length=es.length
 |[],e=>nomatch e
 |e::es,z=>by
  rw[putL]
  by_cases q:e.key.isStr x=true
  ·rw[if_pos q];rfl
  ·rw[if_neg q];rw[getL_con,if_neg q] at z;refine congrArg Nat.succ (putL_len' ?_);cases hg:getL x es with
   |none=>rw[hg] at z;exact nomatch z
   |some o=>cases o with
    |some=>rw[hg] at z;exact z
    |none=>rw[hg] at z;revert z;cases e.refKey<;>exact nofun
end
end
end Mine.Internal
end
section
open PySem PySem.W PySem.Calls PyProof.Rows
namespace Mine.Internal
noncomputable section
variable{T:Tb} {c:Cx} {m m' m2:Str→Option Value} {bk bk' bk2:Bk} {fr fr' frc fp fv f:Led} {A:Around} {Er:Value→Shared→Prop} {s s2:Shared} {u w a b:V} {v:Value} {σ σ' σ1 σ2:St} {d np:Nat} {e t p:E} {x:Ex} {l:List V} {y:Value} {led led2:Led} {own own2:Own} {D dx xa:Addr} {loc loc2:List V} {es:List E} {xs ys bs outs:List V} {vs:Ar} {vals pv:List Value} {P P2:Pt} {g h h2 h₁:Heap} {L':Addr} {n k i j:Nat} {fl:Fl} {ba bb:List S} {z:R Fl} {st:S}
noncomputable def isLst:V→Bool
 | .list _=>true
 |_=>false
noncomputable def okA(T:Tb)(k:Nat)(u:V)(P:Pt):Bool:=(u.nl||u.lin)&&(match P.lookup k with|some o=> !isLst o|none=>T.pf k&&(P.lookup 1000).isSome&&decide (P.length≤100))
theorem at_new(hn:bk.ad k=none)(r:RV T bk u v f):∃bk',bk.le bk'∧bk'.I=bk.I∧bk'.sx=bk.sx∧(∀j,j≠k→bk'.ad j=bk.ad j)∧bk'.at k v u:=by
 have old:bk.at k v u∨isLst u=true:=by cases u<;>first|exact .inr rfl|exact .inl hn
 rcases old with o|o
 ·exact⟨bk,.refl _,rfl,rfl,fun y0_ y1_=>rfl,o⟩
 ·cases u with
  |list xs=>
   cases show LsR T bk xs v f from r with|@mk D vs n rs z=>
   exact⟨⟨bk.I,bk.sx,fun j=>if j=k then some D else bk.ad j⟩,⟨fun y0_ h=>h,fun y0_ h=>h,fun j y e=>(if_neg fun q=>by subst q;exact no_some (hn.symm.trans e)).trans e⟩,rfl,rfl,fun j q=>if_neg q,D,rfl,if_pos rfl⟩
  |_=>exact absurd o Bool.false_ne_true
theorem put_len':∀{P:Pt},P.lookup k=none→(put k u P).length=P.length+1
 |[],_=>rfl
 |(i,y)::P,h=>by
  rw[put]
  by_cases q:i=k
  ·subst q;rw[List.lookup_cons_self] at h;exact nomatch h
  ·rw[if_neg q];exact congrArg Nat.succ (put_len' ((lk_ne (Ne.symm q)).symm.trans h))
theorem ParR.set(K0:AnInj T)(r:ParR T bk led own P)(hx:bk.sx=some xa)(hk:k<1000)(ok:okA T k u P=true){C:Prop}
  (q:∀{dx es n},(xa,instObj T.CP dx)∈bk.I→(dx,dictOf es n)∈led→own dx= .par→T.pf k=true→(getL (T.an k) es).isSome=true→es.length≤100→bk.ad k=none→
   (∀{bk' es' n'},bk.le bk'→bk'.sx=bk.sx→(∀j,j≠k→bk'.ad j=bk.ad j)→AtR T bk' (Mine.Internal.upd led dx (dictOf es' n')) own es' k (some u)→(∀j,k≠j→getL (T.an j) es'=getL (T.an j) es)→es'.length≤es.length+1→(∀w,getL (T.an k) es=some (some w)→es'.length=es.length)→
    ParR T bk' (Mine.Internal.upd led dx (dictOf es' n')) own (put k u P))→C):C:=by
 cases r with
 |un e=>exact no_some (e.symm.trans hx)
 |dead=>
  have ok:=and_r ok;rw[lk_ne (Nat.ne_of_lt (Nat.lt_trans hk (by decide)))] at ok;exact absurd (and_r (and_l ok)) Bool.false_ne_true
 |@ok P x dx es n e i m w l z a=>
  obtain rfl:=Option.some.inj (e.symm.trans hx);have ok:=and_r ok;rw[lk_ne (lt_ne hk)] at ok;have lk:∀{bk' es' n'},bk.le bk'→bk'.sx=bk.sx→(∀j,j≠k→bk'.ad j=bk.ad j)→AtR T bk' (Mine.Internal.upd led dx (dictOf es' n')) own es' k (some u)→(∀j,k≠j→getL (T.an j) es'=getL (T.an j) es)→es'.length≤(put k u P).length→(put k u P).length≤100→
    ParR T bk' (Mine.Internal.upd led dx (dictOf es' n')) own (put k u ((1000,.none)::P)):=fun{bk' es' n'}l1 sx ad at' ge le1 le2=>by
   rw[put,if_neg (Ne.symm (lt_ne hk))];refine .ok (sx.trans e) (l1.I _ i) (upd_self m) w le1 le2 fun j=>?_;rw[put_lk]
   by_cases c:j=k
   ·subst c;rw[if_pos rfl];exact at'
   ·rw[if_neg c];have aj:=((a j).mono l1 (ad j c)).tr (kp_upd (o:=dictOf es' n') (t:=.at j) w nofun);generalize P.lookup j=o at aj;cases aj with
    |no g b=>exact .no ((ge j (Ne.symm c)).trans g) b
    |ok p g r b=>exact .ok p ((ge j (Ne.symm c)).trans g) r b
  have ak:=a k;cases hl:P.lookup k with
  |none=>
   rw[hl] at ok ak;cases ak with|no g b=>
   have z':P.length+1≤100:=of_decide_eq_true (and_r ok);exact q i m w (and_l (and_l ok)) (by rw[g];rfl) (Nat.le_trans l z) b fun l1 sx ad at' ge h1 y0_=>lk l1 sx ad at' ge (put_len' hl▸Nat.le_trans h1 (Nat.succ_le_succ l)) (put_len' hl▸z')
  |some o=>
   rw[hl] at ok ak;cases ak with|@ok _ wv p g r b=>
   have b':bk.ad k=none:=by cases o<;>first|exact b|exact absurd ok Bool.false_ne_true
   exact q i m w p (by rw[g];rfl) (Nat.le_trans l z) b' fun l1 sx ad at' ge y0_ h2=>lk l1 sx ad at' ge (put_len hl▸h2 _ g▸l) (put_len hl▸z)
theorem SR.setA(g:Gd T d c A)(S:SR T c m bk (f++fr) s σ)(r:RV T bk u v f)(hk:k<1000)(hx:bk.sx=some xa)(ok:okA T k u σ.P=true){Q:Unit→Shared→Prop}(q:∀{s' bk'},SR T c m bk' fr s' ⟨σ.loc,put k u σ.P⟩→bk.le bk'→Q () s'):wpAny (model T.prog T.w) A (setAttr (.ref xa) (T.an k) v) Q Er s:=S.1.casesOn fun{led own}Z=>Z.R.giv (t:=.at k) fun kp frm ow nd=>by
 have R1:Rel T c m bk fr led (own.giv f (.at k)) σ.loc:=⟨Z.R.dj,fun p hp=>kp .im nofun (Z.R.imm p hp).1 (Z.R.imm p hp).2,frm,nd,Z.R.len,fun{i _ _}a b=>(Z.R.loc a b).tr (kp (.loc i) nofun)⟩;refine(Z.P.tr (fun k=>kp (.at k) nofun) (kp .par nofun)).set g.K.inj hx hk ok fun{dx es n}i m0 w pf ge l z up=>?_;obtain⟨bk',l1,l2,l3,l4,l5⟩:=at_new z r;have I:W.InstAt s.heap xa (instObj T.CP dx) T.CP (some (dictOf es n)):=⟨(Z.N _ (Z.R.imm _ i).1).1,rfl,rfl,(Z.N _ m0).1⟩;refine set_dict Z.F g.C.X Z.N I rfl g.K.seta g.K.over (g.K.taker k pf) g.K.hasd ge rfl (Upd.of Z.R.dj m0) (Nat.le_trans putL_len (Nat.succ_le_of_lt (Nat.lt_of_le_of_lt l (by decide)))) fun h' F' N'=>?_;exact q (s':={s with heap:=h',toks:=s.toks+2}) ⟨.mk ⟨((R1.tr (X:=.par) (fun t n=>kp_upd w n) nofun nofun nofun (upd_keys.symm▸Z.R.dj))).mono l1 (l2.symm▸fun p hp=>kp_upd (t:=.im) w nofun (R1.imm p hp).1 (R1.imm p hp).2),
  up l1 l3 l4 (.ok pf putL_self ⟨f,r.mono l1,fun p hp=>kp_upd (t:=.at k) w nofun (ow p hp).1 (ow p hp).2⟩ l5) (fun j n=>putL_ne fun q=>n (g.K.inj _ _ q)) putL_len (fun w q=>putL_len' q),F',N',Z.pin⟩,S.2⟩ l1
end
end Mine.Internal
end
section
open PySem PySem.W PySem.Calls PyProof.Rows
namespace Mine.Internal
noncomputable section
variable{T:Tb} {c:Cx} {m m' m2:Str→Option Value} {bk bk' bk2:Bk} {fr fr' frc fp fv f:Led} {A:Around} {Er:Value→Shared→Prop} {s s2:Shared} {u w a b:V} {v:V} {va vb:Value} {σ σ' σ1 σ2:St} {d np:Nat} {e t p:E} {x:Ex} {l:List V} {led led2:Led} {own own2:Own} {D dx xa:Addr} {loc loc2:List V} {es:List E} {xs ys bs outs:List V} {vs:Ar} {vals pv:List Value} {P P2:Pt} {g h h2 h₁:Heap} {L':Addr} {n k i j:Nat} {fl:Fl} {ba bb:List S} {z:R Fl} {st:S} {op:Bo} {is:List Nat}
theorem fitA_k{ns:List Str}{y:Expr}{C:Expr→Prop}(h:fitA T ns k y=true)(q:∀z p p',ns[0]? =some z→k<1000→C (.Attribute (.Name z p) (T.an k) p')):C y:=
 xAttr_k h fun v y p f=>xName_k (C:=fun v=>C (.Attribute v y p)) (and_l f) fun z p' hz=>beq_iff_eq.mp (and_l (and_r f))▸q z p' p (beq_iff_eq.mp hz) (of_decide_eq_true (and_r (and_r f)))
theorem fitN_k{ns:List Str}{ts:List Expr}{C:List Expr→Prop}(h:fitN ns (i::is) ts=true)(q:∀y p ts,ns[i]? =some y→fitN ns is ts=true→C (.Name y p::ts)):C ts:=by
 cases ts with
 |nil=>exact absurd h Bool.false_ne_true
 |cons t ts=>exact xName_k (C:=fun t=>C (t::ts)) (and_l h) fun y p hy=>q y p ts (beq_iff_eq.mp hy) (and_r h)
theorem self_ok(C0:c.OK T)(S:SR T c m bk fr s σ){z:Str}{p:Pos}(hz:c.ns[0]? =some z)(h0:σ.loc[0]? =some .self){Q:Value→Shared→Prop}(q:∀x,bk.sx=some x→Q (.ref x) s):Wp T A (eval (.Name z p) c.env) Q Er s:=
 loc_ok C0 S hz h0 nofun fun v y0_ r=>by
  obtain⟨x,rfl,hx⟩:=RB.ofN (u:=.self) rfl r;exact q x hx
theorem Xs.setA(h:Ev T d e σ (.ok v σ'))(h0:σ'.loc[0]? =some .self)(ok:okA T k v σ'.P=true):Xs T d np (.setA k e) σ (.ok .next ⟨σ'.loc,put k v σ'.P⟩):=@fun y0_ y1_ g y2_ st s m bk fr hf S Q Er q=>yAsg_k hf fun ts y p f=>one1_k (C:=fun ts=>wpAny _ _ (exec (.Assign ts y p) _) Q Er s) (and_r (and_l f)) fun t ft=>fitA_k (C:=fun t=>wpAny _ _ (exec (.Assign [t] y p) _) Q Er s) ft fun z p1 p2 hz hk=>
 plainObj_wpAny_Assign_Attribute (h g (and_r f) S @fun s1 b1 w f1 S1 l1 r1=>self_ok g.C S1 hz h0 fun x hx=>S1.setA g (lin_cases (Bool.or_eq_true_iff.mp (and_l ok)) r1) hk hx ok fun S2 l2=>q (fp:=[]) S2 (l1.trans l2) .next) (swaps_no (and_l (and_l f)))
theorem Xs.setAX(h:Ev T d e σ (.exc x l)):Xs T d np (.setA k e) σ (.exc x l):=@fun y0_ y1_ g y2_ st s m bk fr hf S Q Er q=>yAsg_k hf fun ts y p f=>one1_k (C:=fun ts=>wpAny _ _ (exec (.Assign ts y p) _) Q Er s) (and_r (and_l f)) fun t ft=>fitA_k (C:=fun t=>wpAny _ _ (exec (.Assign [t] y p) _) Q Er s) ft fun z p1 p2 hz hk=>
 plainObj_wpAny_Assign_Attribute (h g (and_r f) S @fun y0_ y1_ z=>q z) (swaps_no (and_l (and_l f)))
theorem Xs.asg(h:Ev T d e σ (.ok v σ'))(ok:okS np σ'.loc i v=true):Xs T d np (.asg [i] e) σ (.ok .next ⟨σ'.loc.set i v,σ'.P⟩):=@fun y0_ y1_ g n st s m bk fr hf S Q Er q=>yAsg_k hf fun ts y p f=>fitN_k (C:=fun ts=>wpAny _ _ (exec (.Assign ts y p) _) Q Er s) (and_r (and_l f)) fun z p1 ts hz fn=>nil_k fn▸
 wpAny_Assign_Name (h g (and_r f) S @fun s1 b1 w f1 S1 l1 r1=>store_ok g.C n S1 (r1.stored ok) hz ok fun S2=>q (fp:=[]) S2 l1 .next) (swaps_no (and_l (and_l (and_l (and_l f)))))
theorem Xs.asgX(h:Ev T d e σ (.exc x l)):Xs T d np (.asg [i] e) σ (.exc x l):=@fun y0_ y1_ g n st s m bk fr hf S Q Er q=>yAsg_k hf fun ts y p f=>fitN_k (C:=fun ts=>wpAny _ _ (exec (.Assign ts y p) _) Q Er s) (and_r (and_l f)) fun z p1 ts hz fn=>nil_k fn▸
 wpAny_Assign_Name (h g (and_r f) S @fun y0_ y1_ z=>q z) (swaps_no (and_l (and_l (and_l (and_l f)))))
theorem Xs.asg2(h:Ev T d e σ (.ok v σ'))(n:v.nl=true)(o1:okS np σ'.loc i v=true)(o2:okS np (σ'.loc.set i v) j v=true):Xs T d np (.asg [i,j] e) σ (.ok .next ⟨(σ'.loc.set i v).set j v,σ'.P⟩):=@fun y0_ y1_ g hp st s m bk fr hf S Q Er q=>yAsg_k hf fun ts y p f=>fitN_k (C:=fun ts=>wpAny _ _ (exec (.Assign ts y p) _) Q Er s) (and_r (and_l f)) fun z1 p1 ts h1 fn=>fitN_k (C:=fun ts=>wpAny _ _ (exec (.Assign (_::ts) y p) _) Q Er s) fn fun z2 p2 ts h2 fn=>nil_k fn▸
 wpAny_Assign_two (h g (and_r f) S @fun s1 b1 w f1 S1 l1 r1=>have r:=RN.rv n ((RX.ofN n).mp r1).1;wpAny_assign_Name (store_ok g.C hp (f:=[]) S1.drop r h1 o1 fun S2=>wpAny_assign_Name (store_ok g.C hp (f:=[]) S2 r h2 o2 fun S3=>q (fp:=[]) S3 l1 .next)))
theorem Xs.asg3(h:Ev T d e σ (.ok v σ'))(n:v.nl=true)(o1:okS np σ'.loc i v=true)(o2:okS np (σ'.loc.set i v) j v=true)(o3:okS np ((σ'.loc.set i v).set j v) k v=true):Xs T d np (.asg [i,j,k] e) σ (.ok .next ⟨((σ'.loc.set i v).set j v).set k v,σ'.P⟩):=@fun y0_ y1_ g hp st s m bk fr hf S Q Er q=>yAsg_k hf fun ts y p f=>fitN_k (C:=fun ts=>wpAny _ _ (exec (.Assign ts y p) _) Q Er s) (and_r (and_l f)) fun z1 p1 ts h1 fn=>fitN_k (C:=fun ts=>wpAny _ _ (exec (.Assign (_::ts) y p) _) Q Er s) fn fun z2 p2 ts h2 fn=>fitN_k (C:=fun ts=>wpAny _ _ (exec (.Assign (_::_::ts) y p) _) Q Er s) fn fun z3 p3 ts h3 fn=>nil_k fn▸
 wpAny_Assign_three (h g (and_r f) S @fun s1 b1 w f1 S1 l1 r1=>have r:=RN.rv n ((RX.ofN n).mp r1).1;wpAny_assign_Name (store_ok g.C hp (f:=[]) S1.drop r h1 o1 fun S2=>wpAny_assign_Name (store_ok g.C hp (f:=[]) S2 r h2 o2 fun S3=>wpAny_assign_Name (store_ok g.C hp (f:=[]) S3 r h3 o3 fun S4=>q (fp:=[]) S4 l1 .next))))
theorem iaug_ok(e:binV op a b=some w)(ho:opOk op=true)(ra:RN T bk a va)(rb:RN T bk b vb):Gv T A s bk (inplaceOp op.op va vb) w:=fun k=>by
 cases op with
 |add=>
  exact onIS_r e ra (fun i t e=>int_r e rb fun j u e=>PySem.P.iadd_int (k _ _ (Option.some.inj e▸⟨_,rfl⟩))) fun x t z e=>str_r e rb fun y u z' e=>ite_k e fun c e=>
   PyProof.Rows.iadd_str (fun t' tk=>k _ _ (Option.some.inj e▸⟨_,congrArg (Value.str · _) str_app,by rw[List.length_append];exact c⟩)) (szL (n:=x.length+y.length) c)
 |sub=>exact int2_r e ra rb fun i t j u e=>PySem.P.isub_int (k _ _ (Option.some.inj e▸⟨_,rfl⟩))
 |_=>exact absurd ho Bool.false_ne_true
theorem Xs.aug(h0:σ.loc[i]? =some u)(nu:u.nl=true)(h:Ev T d e σ (.ok v σ'))(nv:v.nl=true)(hb:binV op u v=some w)(nw:w.nl=true)(ok:okS np σ'.loc i w=true):Xs T d np (.aug i op e) σ (.ok .next ⟨σ'.loc.set i w,σ'.P⟩):=@fun c A g hp st s m bk fr hf S Q Er q=>yAug_k hf fun t o y p f=>xName_k (C:=fun t=>wpAny _ _ (exec (.AugAssign t o y p) _) Q Er s) (and_r (and_l f)) fun z p1 hz=>by
 have hz:=beq_iff_eq.mp hz;rw[beq_iff_eq.mp (and_l (and_l (and_l f)))];refine wpAny_AugAssign_Name (S.get hz h0 (fun q=>by subst q;exact absurd nu Bool.false_ne_true) fun va e r=>wpAny_loadName_local g.C.kind (g.C.loc z (List.mem_of_getElem? hz)).1 S.F.ns e ?_);exact h g (and_r f) S @fun s1 b1 w1 f1 S1 l1 r1=>iaug_ok hb (and_r (and_l (and_l f))) ((r.ofN nu).mono l1) ((RX.ofN nv).mp r1).1 fun v' t' r'=>store_ok g.C hp (f:=[]) (s:=tk s1 t') S1.drop (RN.rv nw r') hz ok fun S2=>q (fp:=[]) S2 l1 .next
theorem Xs.augA(h0:σ.loc[0]? =some .self)(h1:σ.P.lookup k=some u)(nu:u.nl=true)(h:Ev T d e σ (.ok v σ'))(nv:v.nl=true)(hb:binV op u v=some w)(nw:w.nl=true)(ok:okA T k w σ'.P=true):Xs T d np (.augA k op e) σ (.ok .next ⟨σ'.loc,put k w σ'.P⟩):=@fun c A g hp st s m bk fr hf S Q Er q=>yAug_k hf fun t o y p f=>fitA_k (C:=fun t=>wpAny _ _ (exec (.AugAssign t o y p) _) Q Er s) (and_r (and_l f)) fun z p1 p2 hz hk=>by
 rw[beq_iff_eq.mp (and_l (and_l (and_l f)))];refine wpAny_AugAssign_AttributeAny (self_ok g.C S hz h0 fun x hx=>attr_ok g.K.toTbOK S g.C.X (a:=.self) (u:=u) hk (by unfold attrV;simp only[h1]) ⟨x,rfl,hx⟩ fun va t r=>?_);exact h g (s:=tk s t) (and_r f) S @fun s1 b1 w1 f1 S1 l1 r1=>iaug_ok hb (and_r (and_l (and_l f))) ((r.ofN nu).mono l1) ((RX.ofN nv).mp r1).1 fun v' t' r'=>SR.setA g (f:=[]) (s:=tk s1 t') S1.drop (RN.rv nw r') hk (l1.sx _ hx) ok fun S2 l2=>q (fp:=[]) S2 (l1.trans l2) .next
end
end Mine.Internal
end
section
open PySem PySem.W PySem.Calls PyProof.Rows
namespace Mine.Internal
noncomputable section
variable{T:Tb} {c:Cx} {m:Str→Option Value} {bk bk':Bk} {fr fp:Led} {A:Around} {Q Er:Value→Shared→Prop} {s:Shared} {σ σ1:St} {d k np:Nat} {C:Addr} {k0:Nat} {ks:List Nat} {u:V} {us:List V} {ds:List (Option V)} {es:List E} {vs:Ar}
theorem FunFrames_hide{h base B:Heap}{fs:List Addr}{e:Addr}:∀{l:List Env},(∀b∈l.filterMap (·.frame),B.get? b=none)→h.FunFrames base l→h.FunFrames B l
 |[],_,_=>trivial
 |env::l,hs,hl=>by
  obtain⟨f1,⟨L',o',f2,f3,f4,f5⟩,f6⟩:=hl;rw[List.filterMap_cons,f2] at hs;exact⟨f1,⟨L',o',f2,hs L' (.head _),f4,f5⟩,FunFrames_hide (fs:=fs) (e:=e) (fun b hb=>hs b (.tail _ hb)) f6⟩
open Classical in
theorem Rz.new(C0:c.OK T){e dx t:Addr}{x:Ex}(S:SR T c m bk' ((e,oExc x.C dx t)::fr) s σ)(lb:bk.le bk')(hE:ExIn T bk' x dx):Rz T c m bk fr x σ.loc (.ref e) s:=S.1.casesOn fun{led own}Z=>by
 obtain⟨hm,hw⟩:=Z.R.frm _ (.head _);have Nee:=Z.N _ hm;have kp:∀{t:Tg},t≠ .fr→Kp led own (led.filter fun p=>decide (p.1≠e)) own t:=@fun t n p hp h=>⟨List.mem_filter.mpr ⟨hp,decide_eq_true (tg_ne hw n h)⟩,h⟩;have R:Rel T c m bk' fr (led.filter fun p=>decide (p.1≠e)) own σ.loc:=⟨Z.R.dj.sublist (List.filter_sublist.map _),fun p hp=>kp (t:=.im) nofun (Z.R.imm p hp).1 (Z.R.imm p hp).2,
  fun p hp=>let q:=Z.R.frm p (.tail _ hp);⟨List.mem_filter.mpr ⟨q.1,decide_eq_true fun z=>(List.nodup_cons.mp Z.R.frd).1 (List.mem_map.mpr ⟨p,hp,z⟩)⟩,q.2⟩,(List.nodup_cons.mp Z.R.frd).2,Z.R.len,fun{i _ _}a b=>(Z.R.loc a b).tr (kp (t:=.loc i) nofun)⟩
 have FFs:=(pushX (env:=c.env) C0.B Z.F rfl C0.kind).frames;have hLm:c.L∈(c.env::c.outer).filterMap (·.frame):=by rw[List.filterMap_cons];exact .head _
 have fin:∀b∈(c.env::c.outer).filterMap (·.frame),c.base.get? b=none∧∀p∈led,p.1≠b:=fun b hb=>by
  obtain⟨q1,o,q2,q3⟩:=FFs.mem hb;refine⟨q1,fun p hp q=>?_⟩;rw[List.filterMap_cons] at hb;rcases List.mem_cons.mp hb with h|h
  ·exact(Z.N p hp).2.1 (q.trans h)
  ·obtain⟨w1,o',w2,w3⟩:=C0.B.frames.mem h;exact no_some ((Z.N p hp).2.2.symm.trans (q▸w2))
 have nk:∀{b},b∉led.map (·.1)↔∀p∈led,p.1≠b:=fun{b}=>⟨fun h p hp q=>h (List.mem_map.mpr ⟨p,hp,q⟩),fun h q=>let⟨p,hp,z⟩:=List.mem_map.mp q;h p hp z⟩;have hB:∀b o,s.heap.get? b=some o→b≠e→b∉(c.env::c.outer).filterMap (·.frame)→(hideAll s.heap (e::(c.env::c.outer).filterMap (·.frame))).get? b=some o:=fun b o q q1 q2=>hideAll_get _ q fun z=>(List.mem_cons.mp z).elim q1 q2;have h0:∀{b o},c.h₀.get? b=some o→b∉led.map (·.1):=fun{b o}q=>nk.mpr fun p hp z=>no_some ((Z.N p hp).2.2.symm.trans (z▸q));obtain⟨oL,a1,a2,hoL,a3⟩:=Z.F.ns;refine .mk (led:=led.filter fun p=>decide (p.1≠e)) (own:=own) (G:=hideAll s.heap (led.map (·.1))) lb R S.2 hE (.mk (B:=hideAll s.heap (e::(c.env::c.outer).filterMap (·.frame))) (a0:=.ref t) (fun b o q=>?_) (fun b o q1 q2=>?_) (fun p hp=>?_) ?_) ⟨⟨oL,a1,a2,hideAll_get _ hoL (nk.mpr (fin _ hLm).2),a3⟩,fun b o q=>hideAll_get _ (Z.F.keep b o q) (h0 q),Z.F.above⟩ (Heap.UpToSlots.of_keeps fun b o q=>of_hideAll _ q)
 ·have q':=C0.B.stays b o q;exact hB b o (Z.F.keep b o q') (fun z=>h0 q' (List.mem_map.mpr ⟨_,hm,z.symm⟩)) fun hm'=>no_some ((fin b hm').1.symm.trans q)
 ·refine hB b o (of_hideAll _ q1) (fun z=>?_) q2;subst z;exact no_some ((hideAll_none _ (List.mem_map.mpr ⟨_,hm,rfl⟩)).symm.trans q1)
 ·obtain⟨hp,ne⟩:=List.mem_filter.mp hp;refine⟨hB _ _ (Z.N p hp).1 (of_decide_eq_true ne) fun hm'=>(fin _ hm').2 p hp rfl,hideAll_none _ (List.mem_map_of_mem hp),?_⟩;cases q:c.base.get? p.1 with
  |none=>rfl
  |some o=>exact no_some ((Z.N p hp).2.2.symm.trans (C0.B.stays _ _ q))
 ·exact⟨fun b o q=>of_hideAll _ q,hideAll_none _ (.head _),FunFrames_hide (fs:=[]) (e:=e) (fun b hb=>hideAll_none _ (.tail _ hb)) FFs,oExc x.C dx t,_,Nee.1,rfl,rfl,rfl,rfl,.inl rfl⟩
theorem raise_made{A:Around}{env:Env}{nm q:Str}{C N:Addr}{bs bm:List Value}{sn:List Str}{sub:List Value}{ab:Bool}{col:Option Bool}{dd:Option Addr}{k0 k1 k2 k3 k5:Option Value}{M:Model}{E:Value→Shared→Prop}{s:Shared}{x:Sem Value}{Q:Flow→Shared→Prop}(hbase:bm.contains (.type "BaseException")=true)(hh:A.handled=none)
  (h:wpAny M A x (fun v s₁=>∃e t dx,v= .ref e∧s₁.heap.get? C=some (excClassObj nm q C N bs bm true sn sub ab col dd k0 k1 k2 k3 k5 "Exception.__new__")∧
   s₁.heap.get? e=some (oExc C dx t)∧E (.ref e) s₁) E s):
  wpAny M A (raiseStmt env (some x) none) Q E s:=by
 have hcB:(Value.ref C::bm).contains (.type "BaseException")=true:=by rw[List.contains_cons,hbase,Bool.or_true]
 unfold raiseStmt;refine wpAny_bind (wpAny_mono h (fun v s₁ h₁=>?_) fun y0_ y1_ x=>x);obtain⟨e,t,dx,rfl,hC,he,hE⟩:=h₁;obtain⟨hp,g,d,tk,os⟩:=s₁
 repeat (first|with_reducible refine wpAny_loadPart_at he ?_|with_reducible refine wpAny_loadPart_at hC ?_|(with_reducible refine wpAny_isSubtype_exc hC ?_;rw[hcB])|wp_step)
 exact wpAny_raiseNew_none hh hE
noncomputable def ExcsOK(T:Tb):Prop:=∀{C fs ds},T.fl C=some (fs,ds)→T.xc C=true→ExcOK T C fs ds
theorem Xs.raise(K2:ExcsOK T)(hC:T.gv k=some (.glob C))(hfl:T.fl C=some (k0::ks,ds))(hx:T.xc C=true)(h:As' T d es σ (.ok vs σ1))(hb:bindP ((T.rd C).me::k0::ks) (none::ds) (.any::vs.map (·.1)) []=some (.any::u::us))(hbn:(u::us).all V.nl=true)(hl:(u::us).length=(k0::ks).length)(hxl:vs.length≤100):
  Xs T d np (.raise k es) σ (.exc ⟨C,(k0::ks).zip (u::us)⟩ σ1.loc):=@fun c A g hp st s m bk fr hf S Q Er q=>yRaise_k hf fun o w p hf=>by
 obtain rfl:=none_of (and_l hf);refine some1_k (C:=fun o=>wpAny _ _ (exec (.Raise o none p) _) Q Er s) (and_r hf) fun x hf=>xCall_k (C:=fun x=>wpAny _ _ (exec (.Raise (some x) none p) _) Q Er s) hf fun f' as ks' pos hf=>nil_k (and_l (and_l hf))▸xName_k (C:=fun f'=>wpAny _ _ (exec (.Raise (some (.Call f' as [] pos)) none p) _) Q Er s) (and_r (and_l hf)) fun y p2 hy=>?_;have hR:=K2 hfl hx;cases hR.mkx with|@mk nm qq NN bs' bm sn sub ab col dd q0 q1 q2 q3 q5 hC0 TE=>
 have hCo:=g.C.X _ _ hC0;rw[beq_iff_eq.mp (and_l hy),arm_exec_Raise];refine wpAny_bind (wpAny_standAt (raise_made (nm:=nm) (q:=qq) (C:=C) (N:=NN) (bs:=bs') (bm:=bm) (sn:=sn) (sub:=sub) (ab:=ab) (col:=col) (dd:=dd) (k0:=q0) (k1:=q1) (k2:=q2) (k3:=q3) (k5:=q5) (exc_has TE (by decide)) g.A.handled (wpAny_bind (wpAny_bind (glb_ok g.K.toTbOK g.C S (beq_iff_eq.mp (and_l hy)▸and_r hy) hC fun v hv=>?_)))));obtain rfl:=show v= .ref C from hv
 refine callA (kw:=[]) (first:=[]) g hR.keep (Bool.and_eq_true_iff.mpr ⟨and_r hf,rfl⟩) h (kv:=[]) rfl S (fit_plains (and_r hf)) rfl fun{s1 b1 pv kwv fp}S1 l1 r1 j1 r2=>?_;obtain rfl:=show kwv=[] from r2
 refine exc_new_ g hR S1 hb hbn hl ((List.length_map (as:=vs) (·.1)).symm▸hxl) r1 fun{s3 b3 e3 dx t3 es' n}S3 l3 hd3 r3=>?_;exact wpAny_bind (wpAny_standAt (wpAny_pure ⟨e3,t3,dx,rfl,S3.F.keep _ _ hCo,S3.fresh _ (.head _),q (Rz.new (x:=⟨C,(k0::ks).zip (u::us)⟩) g.C S3 (l1.trans l3) (.mk hd3 r3 fun p hp=>hR.fld p.1 (List.of_mem_zip hp).1))⟩))
end
end Mine.Internal
end
section
open PySem PySem.W PySem.Calls PyProof.Rows
namespace Mine.Internal
noncomputable section
section
variable{T:Tb} {c:Cx} {m:Str→Option Value} {bk bk':Bk} {fr:Led} {A:Around} {s:Shared} {d:Nat} {x:Ex} {l:List V}
theorem Rz.loop(hA:AOK c A d){ev:Value}(z:Rz T c m bk fr x l ev s){Er:Value→Shared→Prop}(k:∀{ev s'},Rz T c m bk fr x l ev s'→Er ev s'):notedBy (model T.prog T.w) A c.env (fun e s'=>cameBackBy (model T.prog T.w) A c.env Er e s') ev s:=by
 cases z with|@mk bk' led2 own2 G ea dx _ lb R2 sm2 E Fl FG up=>
 cases Fl with|@mk B a0 b1 b2 b3 b4=>
 refine note_any hA.frames rfl b4 fun h1 n1 u1=>?_;obtain⟨oe,vs,d1,d2,d3,d4,d5,T',oT,ts,e1,e2⟩:=n1.2.2.2;refine wpAny_bind (wpAny_field d1 d4 e1 (wp_neg (fun q=>nomatch beq_iff_eq.mp q) (back_any (s:={s with heap:=h1}) n1 fun h2 n2 u2=>k ?_)));exact .mk lb R2 sm2 E (.mk b1 b2 b3 n2.aloft) FG (up.trans (u1.trans u2))
end
variable{T:Tb} {c:Cx} {bk bk' bk2:Bk} {fr:Led} {A:Around} {Er:Value→Shared→Prop} {σ σ' σ1:St} {d np n:Nat} {t:E} {b:List S} {z r:R Fl} {K:St→Prop}
noncomputable def aft(K:St→Prop)(z r:R Fl):Prop:=match r with
 | .exc x l=>z= .exc x l
 | .ok f σ=>f.casesOn (K σ) (z= .ok .next σ) fun v=>z= .ok (.ret v) σ
theorem aft_ok(f2:Led)(hA:AOK c A d){N:Shared→Prop}{Q:Flow→Shared→Prop}(a:aft K z r)(q:ExP T c bk fr z Q Er)(l:bk.le bk')(kn:∀{σ2 s m b2},K σ2→SR T c m b2 (f2++fr) s σ2→bk'.le b2→N s):
  ExP T c bk' (f2++fr) r (fun f s3=>match f with| .next| .cont=>N s3| .brk=>Q .next s3| .ret v=>Q (.ret v) s3) (notedBy (model T.prog T.w) A c.env fun e s'=>cameBackBy (model T.prog T.w) A c.env Er e s'):=by
 cases r with
 |exc x l'=>cases show z=_ from a;exact @fun y0_ y1_ y2_ R=>(R.drop l).loop hA fun R2=>q R2
 |ok f σ2=>
  refine @fun s3 m b2 fl fp S l2 hf=>?_;cases hf with
  |next=>exact kn a S l2
  |brk=>cases show z=_ from a;exact q (fp:=[]) (SR.drop (f:=f2) S) (l.trans l2) .next
  |ret r=>cases show z=_ from a;exact q S.swap.drop (l.trans l2) (.ret r)
inductive WSt (T:Tb) (d np:Nat) (t:E) (b:List S) (K:St→Prop) (z:R Fl) (σ:St):Prop
 |stop {σ':St}:Tr T d t σ (.ok false σ')→z= .ok .next σ'→WSt T d np t b K z σ
 |exc {x:Ex} {l:List V}:Tr T d t σ (.exc x l)→z= .exc x l→WSt T d np t b K z σ
 |body {σ1:St} {r:R Fl}:Tr T d t σ (.ok true σ1)→Exs T d np b σ1 r→aft K z r→WSt T d np t b K z σ
noncomputable def Wl(T:Tb)(d np:Nat)(t:E)(b:List S)(z:R Fl)(n:Nat):St→Prop:=n.rec (fun y0_=>False) fun y0_ K σ=>WSt T d np t b K z σ
inductive WlI (T:Tb) (c:Cx) (bk:Bk) (fr:Led) (d np:Nat) (t:E) (b:List S) (z:R Fl) (n:Nat) (s:Shared):Prop
 |mk {σ m bk'}:Wl T d np t b z n σ→SR T c m bk' fr s σ→bk.le bk'→WlI T c bk fr d np t b z n s
theorem Xs.whl(h:Wl T d np t b z n σ):Xs T d np (.whl t b) σ z:=@fun c A g hp st s m bk fr hf S Q Er q=>yWhl_k hf fun x y w p f=>nil_k (and_l (and_l f))▸wpAny_While (codeAny_whileLoop (WlI T c bk fr d np t b z) (fun n s hI=>by
 cases hI with|@mk σ m b' h S lb=>
 cases n with
 |zero=>exact h.elim
 |succ n=>
  cases show WSt T d np t b _ z σ from h with
  |stop h1 e=>subst e;exact h1 g (and_r (and_l f)) S @fun s1 b1 S1 l1=>wpAny_execs_nil (q (fp:=[]) S1 (lb.trans l1) .next)
  |exc h1 e=>subst e;exact h1 g (and_r (and_l f)) S @fun y0_ y1_ R=>R.loop g.A fun R2=>q (R2.up lb)
  |body h1 h2 a=>exact h1 g (and_r (and_l f)) S @fun s1 b1 S1 l1=>h2 g hp (and_r f) S1 (aft_ok [] g.A a q (lb.trans l1) fun k S2 l2=>⟨n,Nat.lt_succ_self _,.mk k S2 (lb.trans (l1.trans l2))⟩)) n (.mk h S (.refl _)))
end
end Mine.Internal
end
section
open PySem PySem.W PySem.Calls PyProof.Rows
namespace Mine.Internal
noncomputable section
variable{T:Tb} {c:Cx} {m:Str→Option Value} {bk bk' bk2:Bk} {fr fp f:Led} {A:Around} {Er:Value→Shared→Prop} {s:Shared} {σ σ' σ1:St} {d np n i j:Nat} {e:E} {b:List S} {z r:R Fl} {K:St→Prop} {D:Addr} {o o':Obj} {h':Heap} {xs:List V} {u v:V} {w:Value}
open Classical in
theorem SR.frSet{f':Led}(S:SR T c m bk (f++fr) s σ)(hk:(f'.map (·.1)).Sublist (f.map (·.1)))(keep:∀b o,b∉f.map (·.1)→s.heap.get? b=some o→h'.get? b=some o)(new:∀p∈f',h'.get? p.1=some p.2){tk:Nat}:SR T c m bk (f'++fr) {s with heap:=h',toks:=tk} σ:=⟨S.1.casesOn fun{led own}Z=>by
 have nd:=Z.R.frd;rw[List.map_append] at nd;obtain⟨n1,n2,n3⟩:=List.nodup_append.mp nd;have inf:∀{a},a∈f.map (·.1)→∃o,(a,o)∈led∧own a= .fr:=fun h=>by
  obtain⟨q,hq,rfl⟩:=List.mem_map.mp h;have z:=Z.R.frm q (List.mem_append_left _ hq);exact⟨q.2,z.1,z.2⟩
 have mf:∀{p},p∈led→p.1∉f.map (·.1)→p∈f'++led.filter fun p=>decide (p.1∉f.map (·.1)):=fun h n=>List.mem_append_right _ (List.mem_filter.mpr ⟨h,decide_eq_true n⟩);have kp:∀{t:Tg},t≠ .fr→Kp led own (f'++led.filter fun p=>decide (p.1∉f.map (·.1))) own t:=@fun t n p hp e=>⟨mf hp fun q=>let⟨_,_,z⟩:=inf q;n (e.symm.trans z),e⟩;obtain⟨oL,a1,a2,hoL,a3⟩:=Z.F.ns;refine .mk (l:=f'++led.filter fun p=>decide (p.1∉f.map (·.1))) (w:=own) ⟨⟨?_,fun p hp=>kp (t:=.im) nofun (Z.R.imm p hp).1 (Z.R.imm p hp).2,fun p hp=>?_,?_,Z.R.len,fun{i _ _}a b=>(Z.R.loc a b).tr (kp (t:=.loc i) nofun)⟩,Z.P.tr (fun k=>kp (t:=.at k) nofun) (kp (t:=.par) nofun),
  ⟨⟨oL,a1,a2,keep _ _ (fun q=>let⟨_,z,_⟩:=inf q;(Z.N _ z).2.1 rfl) hoL,a3⟩,fun b x q=>keep _ _ (fun w=>let⟨_,z,_⟩:=inf w;no_some ((Z.N _ z).2.2.symm.trans q)) (Z.F.keep b x q),Z.F.above⟩,fun p hp=>?_,Z.pin⟩
 ·rw[List.map_append];refine List.nodup_append.mpr ⟨n1.sublist hk,Z.R.dj.sublist (List.filter_sublist.map _),fun a ha b hb e=>?_⟩;obtain⟨q,hq,rfl⟩:=List.mem_map.mp hb;exact of_decide_eq_true (List.mem_filter.mp hq).2 (e▸hk.subset ha)
 ·rcases List.mem_append.mp hp with hp|hp
  ·exact⟨List.mem_append_left _ hp,let⟨_,_,z⟩:=inf (hk.subset (List.mem_map_of_mem hp));z⟩
  ·have z:=Z.R.frm p (List.mem_append_right _ hp);exact⟨mf z.1 fun q=>n3 _ q _ (List.mem_map_of_mem hp) rfl,z.2⟩
 ·rw[List.map_append];exact nd.sublist (hk.append_right _)
 ·rcases List.mem_append.mp hp with hp|hp
  ·exact⟨new p hp,let⟨_,z,_⟩:=inf (hk.subset (List.mem_map_of_mem hp));(Z.N _ z).2⟩
  ·have z:=Z.N p (List.mem_filter.mp hp).1;exact⟨keep _ _ (of_decide_eq_true (List.mem_filter.mp hp).2) z.1,z.2⟩,S.2⟩
theorem SR.frUpd(S:SR T c m bk ((D,o)::fr) s σ)(hs:Heap.SameBut D s.heap h')(ho:h'.get? D=some o'):SR T c m bk ((D,o')::fr) {s with heap:=h'} σ:=
 SR.frSet (f:=[(D,o)]) (f':=[(D,o')]) (tk:=s.toks) S (List.Sublist.refl _) (fun b o n e=>(hs.2 b fun q=>n (List.mem_singleton.mpr q)).trans e) (fun p hp=>(List.mem_singleton.mp hp)▸ho)
theorem SR.frDrop(S:SR T c m bk ((D,o)::fr) s σ)(hs:Heap.ExtBut D s.heap h'):SR T c m bk fr {s with heap:=h'} σ:=
 SR.frSet (f:=[(D,o)]) (f':=[]) (tk:=s.toks) S (List.nil_sublist _) (fun b o n e=>hs b o (fun q=>n (List.mem_singleton.mpr q)) e) fun y0_ h=>absurd h List.not_mem_nil
noncomputable def ForV(T:Tb)(d np i:Nat)(b:List S)(z:R Fl)(xs:List V):St→Prop:=xs.rec (fun σ=>z= .ok .next σ) fun u y0_ K σ=>u.nl=true∧okS np σ.loc i u=true∧∃r,Exs T d np b ⟨σ.loc.set i u,σ.P⟩ r∧aft K z r
inductive ForI (T:Tb) (c:Cx) (bk:Bk) (fr:Led) (d np i:Nat) (b:List S) (z:R Fl) (It:Obj→Nat→Prop) (I:Addr) (fp:Led) (v:V) (w:Value) (xs:List V) (n:Nat) (s:Shared):Prop
 |mk {σ m bk' dn rest o}:xs=dn++rest→n=rest.length→ForV T d np i b z rest σ→SR T c m bk' ((I,o)::(fp++fr)) s σ→RV T bk' v w fp→It o dn.length→bk.le bk'→ForI T c bk fr d np i b z It I fp v w xs n s
theorem folded_no{e:Expr}{env:Env}(h:noSet e=true)(x:Value):foldedSetIterable e env x=pure x:=by
 cases e<;>first|rfl|exact absurd h Bool.false_ne_true
theorem As.at{x:List V}{vs:List Value}{rest:List V}(h:As T bk (x++u::rest) vs):∃w,vs[x.length]? =some w∧RN T bk u w:=h.get (by rw[List.getElem?_append_right (Nat.le_refl _),Nat.sub_self];rfl)
theorem Xs.forL(h:Ev T d e σ (.ok v σ1))(hv:lstOf v=some xs)(k:ForV T d np i b z xs σ1):Xs T d np (.forL i e b) σ z:=@fun c A g hp st s m bk fr hf S Q Er q=>yFor_k hf fun t x y w p f=>nil_k (and_l (and_l (and_l (and_l f))))▸xName_k (C:=fun t=>wpAny _ _ (exec (.For t x y [] p) _) Q Er s) (and_r (and_l (and_l f))) fun nm pn hn=>by
 have hn:=beq_iff_eq.mp hn;refine wpAny_For (h g (and_r (and_l f)) S @fun s1 b1 w1 fp S1 l1 r1=>?_) (folded_no (and_r (and_l (and_l (and_l f)))));have rv:RV T b1 v w1 fp:=lst_k (C:=fun v=>RX T b1 v w1 fp→RV T b1 v w1 fp) id id hv r1;have lk:∀{s' m' b' fr' σ'},RV T b' v w1 fp→SR T c m' b' (fp++fr') s' σ'→∃D vs,w1= .ref D∧s'.heap.IsList D vs.toArray∧As T b' xs vs:=fun{s' m' b' fr' σ'}r S'=>(r.rb S').lst (S'.hv g.C.X) hv (C:=fun w1=>∃D vs,w1= .ref D∧s'.heap.IsList D vs.toArray∧As T b' xs vs) fun D vs a b y0_=>⟨D,vs,rfl,a,b⟩;obtain⟨D,vs,rfl,hl,-⟩:=lk rv S1;refine wpAny_pyIter_list hl (S1.allocF fun led F N kk=>?_);have S2:=kk (h':=s1.heap.push {cls:=.type "list_iterator",data:=.fields #[.ref D,.int 0 0]}) (tk:=s1.toks) (F.push _) (News.push F N _) (lt_all N);refine codeAny_forLoop (ForI T c b1 fr d np i b z (fun o n=>o.cls= .type "list_iterator"∧o.data= .fields #[.ref D,.int n 0]) s1.heap.objs.size fp v (.ref D) xs) (fun n s hI=>?_) xs.length (.mk (dn:=[]) rfl rfl k S2 rv ⟨rfl,rfl⟩ (.refl _));cases hI with|@mk σ m' b' dn rest o e1 e2 hk S rv ho lb=>
 obtain⟨D',vs',eD,hl',rs⟩:=lk rv (S.sub (fr':=fp++fr) (List.sublist_cons_self _ _|>.map _) fun y0_ h=>.tail _ h);cases eD;have hI1:s.heap.IsListIter s1.heap.objs.size D dn.length:=⟨o,S.fresh _ (.head _),ho.1,ho.2⟩;cases rest with
 |nil=>
  cases show z=_ from hk
  refine wpAny_pyNext_list_end g.A.handled hI1 hl' (by rw[List.getElem?_toArray];exact List.getElem?_eq_none (by rw[rs.len,e1,List.append_nil];exact Nat.le_refl _)) fun h' hx=>?_;exact wpAny_execs_nil (q (fp:=[]) (S.frDrop hx).drop (l1.trans lb) .next)
 |cons u rest=>
  obtain⟨nu,ok,r,hb,ha⟩:=hk;obtain⟨w,q1,q2⟩:=(e1▸rs:As T b' (dn++u::rest) vs').at;refine wpAny_pyNext_list_item hI1 hl' (x:=w) (by rw[List.getElem?_toArray];exact q1) fun h' hit hs=>?_;obtain⟨o',g1,g2,g3⟩:=hit;refine PySem.wpAny_assign_Name (store_ok g.C hp (f:=[]) (S.frUpd hs g1) (RN.rv nu q2) hn ok fun{m3 s3}S3=>?_);exact hb g hp (and_r f) S3 (aft_ok ((s1.heap.objs.size,o')::fp) g.A ha q (l1.trans lb) fun{σ2 s4 m4 b4}K4 S4 l4=>⟨rest.length,e2▸Nat.lt_succ_self _,.mk (dn:=dn++[u]) (e1.trans (List.append_cons ..)) rfl K4 S4 (rv.mono l4) (by rw[List.length_append];exact⟨g2,g3⟩) (lb.trans l4)⟩)
end
end Mine.Internal
end
section
open PySem PySem.W PySem.Calls PyProof.Rows
namespace Mine.Internal
noncomputable section
variable{T:Tb} {c:Cx} {m:Str→Option Value} {bk bk' bk2:Bk} {fr fp f:Led} {A:Around} {Er:Value→Shared→Prop} {Q:Flow→Shared→Prop} {s:Shared} {σ σ' σ1:St} {d np n i j k:Nat} {e:E} {b ba bb:List S} {z r:R Fl} {st:S} {K:St→Prop} {D I:Addr} {o o':Obj} {h':Heap} {xs rest:List V} {u v:V} {w:Value} {y:List Stmt}
noncomputable def Px(T:Tb)(d np:Nat)(code:List S)(σ σ':St):Prop:=∀{c A},Gd T d c A→c.pin.length≤np→∀{body s m bk fr},fitSs T c.ns c.scope code body=true→SR T c m bk fr s σ→∀{Q:Flow→Shared→Prop}{Er},(∀{s' m'},SR T c m' bk fr s' σ'→(∀b o,b≠c.L→s.heap.get? b=some o→s'.heap.get? b=some o)→Q .next s')→wpAny (model T.prog T.w) A (execs body c.env) Q Er s
theorem Px.nil:Px T d np [] σ σ:=@fun y0_ y1_ g n body s m bk fr hf S Q Er q=>nil_k hf▸wpAny_execs_nil (q S fun y0_ y1_ y2_ h=>h)
theorem fitSs_k{ns sc}{C:List Stmt→Prop}{body:List Stmt}(h:fitSs T ns sc (st::b) body=true)(k:∀x r,fitS T ns sc st x=true→fitSs T ns sc b r=true→C (x::r)):C body:=by
 cases body with
 |nil=>exact absurd h Bool.false_ne_true
 |cons x r=>exact k x r (and_l h) (and_r h)
theorem Px.ite{t:E}{bo:Bool}(h:pt T σ t=some bo)(h1:Px T d np (if bo=true then ba else bb) σ σ1)(h2:Px T d np b σ1 σ'):Px T d np (.ite t ba bb::b) σ σ':=@fun c A g n body s m bk fr hf S Q Er q=>fitSs_k (C:=fun body=>wpAny _ _ (execs body _) Q Er s) hf fun x r f1 f2=>wpAny_execs_cons (yIf_k f1 fun a1 a2 a3 p f=>wpAny_If ((pe_ok g.K.toTbOK g.C t).2 h (and_l f) S rfl fun tk'=>by
 have q':∀{s1 m1},SR T c m1 bk fr s1 σ1→(∀b o,b≠c.L→s.heap.get? b=some o→s1.heap.get? b=some o)→wpAny (model T.prog T.w) A (execs r c.env) Q Er s1:=fun S1 k1=>h2 g n f2 S1 fun S2 k2=>q S2 fun b o hb e=>k2 b o hb (k1 b o hb e);cases bo with
 |true=>exact h1 g n (s:=tk s tk') (and_l (and_r f)) S fun S1 k1=>q' S1 k1
 |false=>exact h1 g n (s:=tk s tk') (and_r (and_r f)) S fun S1 k1=>q' S1 k1))
theorem Px.asg(h:pe T σ e=some u)(n:u.nl=true)(ok:okS np σ.loc i u=true)(h2:Px T d np b ⟨σ.loc.set i u,σ.P⟩ σ'):Px T d np (.asg [i] e::b) σ σ':=@fun c A g hp body s m bk fr hf S Q Er q=>fitSs_k (C:=fun body=>wpAny _ _ (execs body _) Q Er s) hf fun x r f1 f2=>wpAny_execs_cons (yAsg_k f1 fun ts y p f=>fitN_k (C:=fun ts=>wpAny _ _ (exec (.Assign ts y p) _) _ Er s) (and_r (and_l f)) fun z p1 ts hz fn=>nil_k fn▸
 wpAny_Assign_Name (g.pe h (and_r f) S fun v t r1=>store_keep g.C hp (f:=[]) (s:=tk s t) S (RN.rv n (r1.ofN n)) hz ok fun S1 k1=>h2 g hp f2 S1 fun S2 k2=>q S2 fun b o hb e=>k2 b o hb (k1 b o hb e)) (swaps_no (and_l (and_l (and_l (and_l f))))))
noncomputable abbrev kitObj(D:Addr)(i n ep:Nat):Obj:={cls:=.type "dict_keyiterator",data:=.fields #[.ref D,.int i 0,.int n 0,.int ep 0]}
inductive DfI (T:Tb) (c:Cx) (bk:Bk) (fr:Led) (W:List V→St→Prop) (D I:Addr) (o:Obj) (N ep:Nat) (xs:List V) (n:Nat) (s:Shared):Prop
 |mk {σ m bk' dn rest oI}:xs=dn++rest→n=rest.length→W rest σ→SR T c m bk' ((I,oI)::fr) s σ→oI.cls= .type "dict_keyiterator"→oI.data= .fields #[.ref D,.int dn.length 0,.int N 0,.int ep 0]→s.heap.get? D=some o→bk.le bk'→DfI T c bk fr W D I o N ep xs n s
theorem dict_loop{κ:Type}[DecidableEq κ]{knd:PySem.KeyKind T.prog T.w κ}(g:Gd T d c A)(hp:c.pin.length≤np){z:Str}{pz:Pos}(hn:c.ns[i]? =some z){ep:Nat}{kvs:List (κ×Value)}(hlen:xs.length=kvs.length)
  (hkey:∀{j:Nat}{k x u key bk},kvs[j]? =some (k,x)→xs[j]? =some u→knd.is k key=true→RN T bk u key) (hdat:∀{h:Heap},h.get? D=some o→h.DictAt knd D kvs ep) (hDI:D≠I) (hDL:D≠c.L) {W:List V→St→Prop} {R:Flow→Shared→Prop}
  (w0:∀{σ s m b'},W [] σ→SR T c m b' fr s σ→bk.le b'→R .next s)
  (w1:∀{u rest σ},W (u::rest) σ→u.nl=true∧okS np σ.loc i u=true∧∀{s m b' oI},SR T c m b' ((I,oI)::fr) s ⟨σ.loc.set i u,σ.P⟩→bk.le b'→s.heap.get? D=some o→∀{N:Shared→Prop},(∀{σ2 s' m' b2},W rest σ2→SR T c m' b2 ((I,oI)::fr) s' σ2→b'.le b2→s'.heap.get? D=some o→N s')→
   wpAny (model T.prog T.w) A (execs y c.env) (fun f s3=>match f with| .next| .cont=>N s3| .brk=>R .next s3| .ret v=>R (.ret v) s3) (notedBy (model T.prog T.w) A c.env fun e s'=>cameBackBy (model T.prog T.w) A c.env Er e s') s)
  (hW:W xs σ) (S:SR T c m bk ((I,kitObj D 0 kvs.length ep)::fr) s σ) (hD:s.heap.get? D=some o):
  codeAny (model T.prog T.w) A (.forLoop (.Name z pz) (.ref I) y [] c.env) (fun r s'=>match r with| .ok f=>R f s'| .error e=>cameBackBy (model T.prog T.w) A c.env Er e s') s:=by
 refine codeAny_forLoop (DfI T c bk fr W D I o kvs.length ep xs) (fun n s hI=>?_) xs.length (.mk (dn:=[]) rfl rfl hW S rfl rfl hD (.refl _));cases hI with|@mk σ m b' dn rest oI e1 e2 hk S o1 o2 hD lb=>
 have hit:s.heap.IsKeyIter I D dn.length kvs.length ep:=⟨oI,S.fresh _ (.head _),o1,o2⟩;cases rest with
 |nil=>
  refine wpAny_pyNext_dict_end g.A.handled hit (hdat hD) (List.getElem?_eq_none (by rw[←hlen,e1,List.append_nil];exact Nat.le_refl _)) fun h' hx=>?_;exact wpAny_execs_nil (w0 hk (S.frDrop hx) lb)
 |cons u rest=>
  obtain⟨nu,ok,body⟩:=w1 hk;have hx:xs[dn.length]? =some u:=by rw[e1,List.getElem?_append_right (Nat.le_refl _),Nat.sub_self];rfl
  refine get_lt (l:=kvs) (hlen▸lt_of_get hx) fun⟨kk,vv⟩hkv=>?_;refine wpAny_pyNext_dict_item hit (hdat hD) hkv fun key h' hk1 hit' hs=>?_;obtain⟨oI',g1,g2,g3⟩:=hit';refine PySem.wpAny_assign_Name (store_keep g.C hp (f:=[]) (S.frUpd hs g1) (RN.rv nu (hkey hkv hx hk1)) hn ok fun{m3 s3}S3 k3=>?_);exact body S3 lb (k3 D o hDL ((hs.2 D hDI).trans hD)) fun W2 S4 l4 hD4=>⟨rest.length,e2▸Nat.lt_succ_self _,.mk (dn:=dn++[u]) (e1.trans (List.append_cons ..)) rfl W2 S4 g2 (by rw[List.length_append];exact g3) hD4 (lb.trans l4)⟩
theorem int_shape{j:Int}{key:Value}(h:(intKind T.prog T.w).is j key=true):RN T bk (.int j) key:=by
 obtain⟨t,rfl⟩:=Value.isInt_shape h;exact⟨t,rfl⟩
theorem str_shape{x:Str}{key:Value}(h:(PySem.strKind T.prog T.w).is x key=true)(z:x.cps.toList.length≤SZ):RN T bk (.str x.cps.toList) key:=by
 obtain⟨t,rfl⟩:=Value.isStrOf_shape h;exact⟨t,rfl,z⟩
noncomputable def keyOk:V→Bool
 | .str s=>decide (s.length≤SZ)
 |_=>true
theorem Xs.forK{es:List (V×V)}(h0:σ.loc[0]? =some .self)(ha:attrV T σ.P .self k=some (.sdict es))(hk:(es.map (·.1)).all keyOk=true)(h:ForV T d np i b z (es.map (·.1)) σ):Xs T d np (.forK i k b) σ z:=@fun c A g hp st s m bk fr hf S Q Er q=>yFor_k hf fun t x y w p f=>nil_k (and_l (and_l (and_l f)))▸xName_k (C:=fun t=>wpAny _ _ (exec (.For t x y [] p) _) Q Er s) (and_r (and_l (and_l f))) fun nm pn hn=>fitA_k (C:=fun x=>wpAny _ _ (exec (.For _ x y [] p) _) Q Er s) (and_r (and_l f)) fun zs p1 p2 hzs hkk=>by
 refine wpAny_For (Attribute_any_ (self_ok g.C S hzs h0 fun x hx=>attr_ok g.K.toTbOK S g.C.X (a:=.self) hkk ha ⟨x,rfl,hx⟩ fun v t r=>?_) rfl) (fun y0_=>rfl);obtain⟨zl,kvs,rd,hd⟩:=RB.ofN (u:=.sdict es) rfl r;cases hd with|@mk a o ha1 hK hdo=>
 obtain⟨es0,ep,hq⟩:=hdo;have rs:All2 (KV T bk) es (kvs.map fun p=>(.str p.1.cps.toList,p.2)):=rd.to;have hX:=(S.hv g.C.X).X _ _ hK;have hdat:∀{h:Heap},h.get? a=some o→h.DictAt (PySem.strKind T.prog T.w) a kvs ep:=fun e=>⟨o,es0,e,hq⟩;refine wpAny_pyIter_dict (beq_false_of_ne (Nat.ne_of_gt ha1)) (hdat hX) (SR.allocF (s:=tk s t) S fun led F N kk=>?_);have S2:=kk (h':=s.heap.push (kitObj a 0 kvs.length ep)) (tk:=t) (F.push _) (News.push F N _) (lt_all N);refine dict_loop g hp (beq_iff_eq.mp hn) (xs:=es.map (·.1)) (D:=a) (o:=o) (W:=ForV T d np i b z) (R:=Q) (by rw[List.length_map,←List.length_map (as:=kvs),rs.len]) (fun{j k x u key bk}h1 h2 h3=>?_) hdat (Nat.ne_of_lt (Heap.lt_size hX)) (fun q=>absurd (q▸Heap.lt_size (g.C.X _ _ hK)) (Nat.not_lt.mpr F.above)) (fun hw S' l=>by cases show z=_ from hw;exact q (fp:=[]) S' l .next) (fun hw=>?_) h S2 (S2.hv g.C.X|>.X _ _ hK)
 ·rw[List.getElem?_map] at h2;obtain⟨q,e1,rfl⟩:=Option.map_eq_some_iff.mp h2;obtain⟨q',e3,e4,-⟩:=rs.get e1;rw[List.getElem?_map,h1] at e3;obtain rfl:=Option.some.inj e3;have ok:=List.all_eq_true.mp hk q.1 (List.mem_map_of_mem (List.mem_of_getElem? e1));rw[←show V.str k.cps.toList=q.1 from e4] at ok⊢;exact str_shape h3 (of_decide_eq_true ok)
 ·obtain⟨nu,ok,r,hb,ha⟩:=hw;exact⟨nu,ok,fun{s m b' oI}S3 lb hD3 N kn=>hb g hp (and_r f) S3 (aft_ok [_] g.A ha q lb fun K4 S4 l4=>kn K4 S4 l4 ((S4.hv g.C.X).X _ _ hK))⟩
noncomputable def isInt:V→Bool
 | .int _=>true
 |_=>false
theorem Dct.ints{es:List (V×V)}(hi:(es.map (·.1)).all isInt=true)(D:Dct T bk o es):∃kvs,o.IsDictOf (intKind T.prog T.w) kvs∧All2 (KV T bk) es (kvs.map fun p=>(.int p.1,p.2)):=by
 cases D with
 |i d r=>exact⟨_,d,r⟩
 |@s kvs d r=>
  cases es with
  |nil=>exact⟨[],dictOf_nil (kvs_nil (List.map_eq_nil_iff.mp (show _=[] from r)) d),.nil⟩
  |cons p es=>
   obtain⟨q,_,e,⟨e1,-⟩,-⟩:=r;have h:isInt p.1=true:=and_l hi;cases kvs with
   |nil=>exact nomatch e
   |cons a kvs=>rw[←e1,←(List.cons.inj e).1] at h;exact absurd h Bool.false_ne_true
noncomputable def ForP(T:Tb)(d np i:Nat)(b:List S)(σ':St)(xs:List V):St→Prop:=xs.rec (fun σ=>σ=σ') fun u y0_ K σ=>u.nl=true∧okS np σ.loc i u=true∧∃σ1,Px T d np b ⟨σ.loc.set i u,σ.P⟩ σ1∧K σ1
theorem Xs.forP{es:List (V×V)}(h0:σ.loc[0]? =some .self)(ha:σ.P.lookup k=some (.dict es))(hk:(es.map (·.1)).all isInt=true)(h:ForP T d np i b σ' (es.map (·.1)) σ):Xs T d np (.forK i k b) σ (.ok .next σ'):=@fun c A g hp st s m bk fr hf S Q Er q=>yFor_k hf fun t x y w p f=>nil_k (and_l (and_l (and_l f)))▸xName_k (C:=fun t=>wpAny _ _ (exec (.For t x y [] p) _) Q Er s) (and_r (and_l (and_l f))) fun nm pn hn=>fitA_k (C:=fun x=>wpAny _ _ (exec (.For _ x y [] p) _) Q Er s) (and_r (and_l f)) fun zs p1 p2 hzs hkk=>by
 refine wpAny_For (Attribute_any_ (self_ok g.C S hzs h0 fun x hx=>?_) rfl) (fun y0_=>rfl);refine S.alive g.C.X hx hkk (fun N I a=>?_) fun e y0_=>no_some (e.symm.trans ha);rw[ha] at a;cases a with|ok pf hg r hat=>
 obtain⟨fp,r,ho⟩:=r;cases show DcR T bk es _ fp from r with|@mk a o ha1 hD hl=>
 have hm:=(ho _ (.head _)).1;have hDL:=(N _ hm).2.1;refine get_fld S.F g.C.X I (g.K.pf _ pf) hg r.handed ?_;obtain⟨kvs,hdo,rs⟩:=hD.ints hk;obtain⟨es0,ep,hq⟩:=hdo;have hX:=(N _ hm).1;have hdat:∀{h:Heap},h.get? a=some o→h.DictAt (intKind T.prog T.w) a kvs ep:=fun e=>⟨o,es0,e,hq⟩;refine wpAny_pyIter_dict (beq_false_of_ne (Nat.ne_of_gt ha1)) (hdat hX) (SR.allocF (s:=tk s (s.toks+1)) S fun led F N' kk=>?_);have S2:=kk (h':=s.heap.push (kitObj a 0 kvs.length ep)) (tk:=s.toks+1) (F.push _) (News.push F N' _) (lt_all N');refine dict_loop g hp (beq_iff_eq.mp hn) (xs:=es.map (·.1)) (D:=a) (o:=o) (W:=ForP T d np i b σ') (R:=Q) (by rw[List.length_map,←List.length_map (as:=kvs),rs.len]) (fun{j k x u key bk}h1 h2 h3=>?_) hdat (Nat.ne_of_lt (Heap.lt_size hX)) hDL (fun hw S' l=>by cases show _=σ' from hw;exact q (fp:=[]) S' l .next) (fun hw=>?_) h S2 ((Heap.get?_push_ne _ _ _ (Nat.ne_of_lt (Heap.lt_size hX))).trans hX)
 ·rw[List.getElem?_map] at h2;obtain⟨q,e1,rfl⟩:=Option.map_eq_some_iff.mp h2;obtain⟨q',e3,e4,-⟩:=rs.get e1;rw[List.getElem?_map,h1] at e3;obtain rfl:=Option.some.inj e3;rw[←show V.int k=q.1 from e4];exact int_shape h3
 ·obtain⟨nu,ok,σ1,hb,ha⟩:=hw;exact⟨nu,ok,fun{s m b' oI}S3 lb hD3 N kn=>hb g hp (and_r f) S3 fun S4 k4=>kn ha S4 (.refl _) (k4 _ _ hDL hD3)⟩
end
end Mine.Internal
end
section
open PySem PySem.W PySem.Calls PyProof.Rows
namespace Mine.Internal
noncomputable section
variable{T:Tb} {c:Cx} {m:Str→Option Value} {bk bk' bk2:Bk} {fr fp f:Led} {A:Around} {Er:Value→Shared→Prop} {s:Shared} {σ σ' σ1:St} {d np n i j k:Nat} {e:E} {b ba bb:List S} {z r:R Fl} {st:S} {K:St→Prop} {D I:Addr} {o o':Obj} {h':Heap} {xs rest:List V} {u v kv:V} {w kval:Value} {y:List Stmt} {es es':List (V×V)} {P:Pt} {led led':Led} {own own':Own} {ke:E}
theorem Dct.key{r:Option V}(D:Dct T bk o es)(e:findK kv es=some r)(rk:RN T bk kv kval)(hk:keyEq kv kv=some true){C:Prop}
  (q:∀{κ:Type}[DecidableEq κ]{knd:PySem.KeyKind T.prog T.w κ}{x:κ}{key:κ→V}{kvs},kv=key x→knd.is x kval=true→o.IsDictOf knd kvs→All2 (KV T bk) es (kvs.map fun p=>(key p.1,p.2))→(∀x y,keyEq (key x) (key y)=some (decide (x=y)))→
   (∀{bk' o' es' kvs'},o'.IsDictOf knd kvs'→All2 (KV T bk') es' (kvs'.map fun p=>(key p.1,p.2))→Dct T bk' o' es')→C):C:=
 onIS_k (C:=fun kv=>findK kv es=some r→RN T bk kv kval→(∀{κ:Type}[DecidableEq κ]{knd:PySem.KeyKind T.prog T.w κ}{x:κ}{key:κ→V}{kvs},kv=key x→knd.is x kval=true→o.IsDictOf knd kvs→All2 (KV T bk) es (kvs.map fun p=>(key p.1,p.2))→(∀x y,keyEq (key x) (key y)=some (decide (x=y)))→
   (∀{bk' o' es' kvs'},o'.IsDictOf knd kvs'→All2 (KV T bk') es' (kvs'.map fun p=>(key p.1,p.2))→Dct T bk' o' es')→C)→C)
  (fun i y0_ e⟨t,f⟩q=>D.casesOn (fun d rs=>q rfl (f▸is_int) d rs key_int .i) fun{kvs}d rs=>let⟨z,y⟩:=KV.nil (f:=fun x:Str=>.str x.cps.toList) rs (fun y0_=>rfl) e;q (key:=.int) rfl (f▸is_int) (dictOf_nil (kvs_nil z d)) (by subst z;exact rs) key_int .i)
  (fun x y0_ e⟨t,f,y1_⟩q=>D.casesOn (fun{kvs}d rs=>let⟨z,y⟩:=KV.nil (f:=fun x:Int=>.int x) rs (fun y0_=>rfl) e;q (knd:=strKind T.prog T.w) (x:=⟨x.toArray⟩) (key:=fun x=>.str x.cps.toList) rfl (f▸is_str) (dictOf_nil (kvs_nil z d)) (by subst z;exact rs) key_str .s) fun d rs=>q (x:=(⟨x.toArray⟩:Str)) rfl (f▸is_str) d rs key_str .s) hk e rk q
theorem stored_new{κ:Type}[DecidableEq κ]{kvs:List (κ×Value)}{x:κ}(h:valueAt kvs x=none):stored kvs x w=kvs++[(x,w)]:=by
 refine if_neg fun q=>?_;obtain⟨p,hp,e⟩:=List.any_eq_true.mp q;exact List.find?_eq_none.mp (Option.map_eq_none_iff.mp h) p hp e
theorem ParR.att{xa:Addr}(r:ParR T bk led own P)(hx:bk.sx=some xa)(hk:k<1000)(hP:P.lookup k=some v){C:Prop}
  (q:∀{dx es n},(xa,instObj T.CP dx)∈bk.I→(dx,dictOf es n)∈led→AtR T bk led own es k (some v)→(∀{led' own' u},(∀t,t≠ .at k→Kp led own led' own' t)→AtR T bk led' own' es k (some u)→ParR T bk led' own' (put k u P))→C):C:=by
 cases r with
 |un=>exact no_some hP
 |dead=>exact no_some ((lk_ne (Nat.ne_of_lt (Nat.lt_trans hk (by decide)))).symm.trans hP)
 |@ok P x dx es n' e i m w l z a=>
  obtain rfl:=Option.some.inj (e.symm.trans hx);have h':=(lk_ne (lt_ne hk)).symm.trans hP;refine q i m (h'▸a k) fun{led' own' u}kp n=>?_;rw[put,if_neg (Ne.symm (lt_ne hk))];have L:=put_len (u:=u) h';refine .ok e i (kp .par nofun m w).1 (kp .par nofun m w).2 (L▸l) (L▸z) fun j=>?_;rw[put_lk]
  by_cases c:j=k
  ·subst c;rw[if_pos rfl];exact n
  ·rw[if_neg c];exact(a j).tr (kp (.at j) fun q=>c (at_inj q))
theorem dict_place(g:Gd T d c A)(S:SR T c m bk fr s σ)(hk:k<1000)(hP:σ.P.lookup k=some (.dict es))(h0:σ.loc[0]? =some .self){z:Str}{p pa:Pos}(hz:c.ns[0]? =some z){Q:Value→Shared→Prop}
  (q:∀{D o t},1<D→Dct T bk o es→es.length≤200→s.heap.get? D=some o→(∀{o' es' h' tk},Dct T bk o' es'→es'.length≤200→Heap.SameBut D s.heap h'→h'.get? D=some o'→SR T c m bk fr {s with heap:=h',toks:=tk} ⟨σ.loc,put k (.dict es') σ.P⟩)→Q (.ref D) (tk s t)):
  Wp T A (eval (.Attribute (.Name z p) (T.an k) pa) c.env) Q Er s:=by
 refine Attribute_any_ (self_ok g.C S hz h0 fun x hx=>S.1.casesOn fun{led own}Z=>?_) rfl;refine Z.P.att hx hk hP fun{dx es0 n}i m0 a up=>?_;cases a with|ok pf hg r hat=>
 obtain⟨fp,r,ho⟩:=r;cases show DcR T bk es _ fp from r with|@mk D o ha1 hD hl=>
 obtain⟨hm,hw⟩:=ho _ (.head _);have I:W.InstAt s.heap x (instObj T.CP dx) T.CP (some (dictOf es0 n)):=⟨(Z.N _ (Z.R.imm _ i).1).1,rfl,rfl,(Z.N _ m0).1⟩;refine get_fld S.F g.C.X I (g.K.pf _ pf) hg r.handed (q ha1 hD hl (Z.N _ hm).1 fun{o' es' h' tk}hD' hl' hs ho'=>?_);have kp:∀t,t≠ .at k→Kp led own (Mine.Internal.upd led D o') own t:=fun t n=>kp_upd hw n;obtain⟨pre,post,e1,e2,b1,b2⟩:=(Upd.of (o':=o') Z.R.dj hm).split;have N:=Z.N;rw[e1] at N;exact⟨.mk (l:=Mine.Internal.upd led D o') (w:=own) ⟨Z.R.tr kp nofun nofun nofun (upd_keys.symm▸Z.R.dj),up kp (.ok pf hg ⟨[(D,o')],DcR.mk ha1 hD' hl',fun p hp=>(List.mem_singleton.mp hp)▸⟨upd_self hm,hw⟩⟩ hat),Z.F.change hs (Z.N _ hm).2.1 (Z.N _ hm).2.2,e2▸news_set N b1 b2 hs ho',Z.pin⟩,S.2⟩
theorem szl{n:Nat}(h:n≤200):n≤sizeLine:=Nat.le_trans h (by decide)
theorem Xs.setI(h:Ev T d e σ (.ok v σ'))(nv:v.nl=true)(h0:σ'.loc[0]? =some .self)(hP:σ'.P.lookup k=some (.dict es))(hkv:pe T σ' ke=some kv)(hf:findK kv es=some none)(hkk:keyEq kv kv=some true)(hl:es.length<200):Xs T d np (.setI k ke e) σ (.ok .next ⟨σ'.loc,put k (.dict (es++[(kv,v)])) σ'.P⟩):=
 @fun c A g hp st s m bk fr hs S Q Er q=>yAsg_k hs fun ts y p f=>one1_k (C:=fun ts=>wpAny _ _ (exec (.Assign ts y p) _) Q Er s) (and_r (and_l f)) fun t ft=>xSub_k (C:=fun t=>wpAny _ _ (exec (.Assign [t] y p) _) Q Er s) ft fun a kx p' f'=>fitA_k (C:=fun a=>wpAny _ _ (exec (.Assign [.Subscript a kx p'] y p) _) Q Er s) (and_l f') fun z p1 p2 hz hk=>
 wpAny_Assign_Subscript (h g (and_r f) S @fun s1 b1 w f1 S1 l1 r1=>dict_place g S1.drop hk hP h0 hz fun{D o t}hD1 hD hle hg up=>g.pe hkv (and_r f') (s:=tk s1 t) S1.drop fun kval t2 rk=>hD.key hf (rk.ofN (by cases kv<;>first|rfl|exact no_some hkk)) hkk fun{κ _ knd x key kvs}e1 hx hdo rs ke mk=>by
  have hv:valueAt kvs x=none:=by subst e1;exact KV.find ke rs hf
  have hn:=rs.len;rw[List.length_map] at hn;refine wpAny_setItem_pairs (s:=tk s1 t2) hx (Heap.dictOf_iff.mpr ⟨o,hg,hdo⟩) (fun h' hm' hs'=>?_) (szl (hn▸hle));obtain⟨o',ho',hd'⟩:=Heap.dictOf_iff.mp hm';rw[stored_new hv] at hd';exact q (fp:=[]) (up (mk hd' (by rw[List.map_append];exact rs.app (.cons ⟨e1.symm,((RX.ofN nv).mp r1).1⟩ .nil))) (by rw[List.length_append];exact hl) hs' ho') l1 .next) (swaps_no (and_l (and_l f)))
theorem del_pairs{κ:Type}[DecidableEq κ]{knd:PySem.KeyKind T.prog T.w κ}{x:κ}{key:Value}{kvs:List (κ×Value)}{Q:Unit→Shared→Prop}(hkey:knd.is x key=true)(hm:s.heap.DictOf knd D kvs)(hsz:kvs.length≤sizeLine)(ht:(valueAt kvs x).isSome=true)
  (h:∀h',h'.DictOf knd D (without kvs x)→Heap.SameBut D s.heap h'→Q () {s with heap:=h',toks:=s.toks+1}):wpAny (model T.prog T.w) A (delItem (.ref D) key) Q Er s:=by
 unfold delItem
 try with_reducible refine wpAny_holding ?_
 refine wpAny_bind (wpAny_sequenceKey hm.typeIs (by decide) ?_);exact wpAny_bind (wpAny_callSpecial?_slot (name:=Str.ofString "__delitem__") hm.typeIs PySem.F.slot_dict_delitem
  (call_meetsIn PySem.F.slot_dict_delitem hm.typeIs PySem.F.entry_dict_delitem (PySem.F.args_dict_delitem_2 _ _) (meets_dict_delitem_pairs knd D hkey) ⟨kvs,hm,hsz,ht,fun h' hmm hs=>wpAny_pure (h h' hmm hs)⟩))
theorem without_one{κ:Type}[DecidableEq κ]{x y:κ}{v:Value}(h:valueAt [(y,v)] x=some w):without [(y,v)] x=[]:=by
 unfold valueAt at h
 by_cases q:y=x
 ·subst q;exact List.filter_eq_nil_iff.mpr fun p hp n=>(of_decide_eq_true n) (congrArg Prod.fst (List.mem_singleton.mp hp))
 ·rw[List.find?_cons,decide_eq_false q] at h;exact nomatch h
theorem Xs.delI(h0:σ.loc[0]? =some .self)(hP:σ.P.lookup k=some (.dict [(kv,v)]))(hkv:pe T σ ke=some kv)(hkk:keyEq kv kv=some true):Xs T d np (.delI k ke) σ (.ok .next ⟨σ.loc,put k (.dict []) σ.P⟩):=
 @fun c A g hp st s m bk fr hs S Q Er q=>yDel_k hs fun ts p f=>one1_k (C:=fun ts=>wpAny _ _ (exec (.Delete ts p) _) Q Er s) f fun t ft=>xSub_k (C:=fun t=>wpAny _ _ (exec (.Delete [t] p) _) Q Er s) ft fun a kx p' f'=>fitA_k (C:=fun a=>wpAny _ _ (exec (.Delete [.Subscript a kx p'] p) _) Q Er s) (and_l f') fun z p1 p2 hz hk=>
 wpAny_Delete (wpAny_deleteEach_cons (delete_Subscript (dict_place g S hk hP h0 hz fun{D o t}hD1 hD hle hg up=>g.pe hkv (and_r f') (s:=tk s t) S fun kval t2 rk=>hD.key (r:=some v) (by unfold findK;simp only[hkk];rfl) (rk.ofN (by cases kv<;>first|rfl|exact no_some hkk)) hkk fun{κ _ knd x key kvs}e1 hx hdo rs ke mk=>by
  have hv:Fnd T bk (some v) (valueAt kvs x):=by subst e1;exact KV.find ke rs (by unfold findK;simp only[hkk];rfl)
  obtain⟨w,hw,-⟩:=hv;have hn:=rs.len;rw[List.length_map] at hn;refine del_pairs (s:=tk s t2) hx (Heap.dictOf_iff.mpr ⟨o,hg,hdo⟩) (szl (hn▸hle)) (by rw[hw];rfl) fun h' hm' hs'=>?_;obtain⟨o',ho',hd'⟩:=Heap.dictOf_iff.mp hm';refine wpAny_deleteEach_nil (q (fp:=[]) (up (mk (bk':=bk) (kvs':=without kvs x) hd' ?_) (Nat.zero_le _) hs' ho') (.refl _) .next);obtain⟨⟨y,v'⟩,rfl⟩:=List.length_eq_one_iff.mp hn;rw[without_one hw];exact .nil)))
end
end Mine.Internal
end
section
open PySem PySem.W PySem.Calls PyProof.Rows
namespace Mine.Internal
noncomputable section
variable{T:Tb} {c:Cx} {m:Str→Option Value} {bk bk' bk2:Bk} {fr fp f:Led} {A:Around} {Er:Value→Shared→Prop} {s:Shared} {σ σ' σ1:St} {d np n i j k:Nat} {e:E} {b ba bb:List S} {z r:R Fl} {st:S} {h':Heap} {u v:V} {w:Value} {x:Ex} {l:List V}
theorem swapped_no{xs:List Expr}{k}{p:Pos}{v:Expr}{env:Env}(h:notTup v=true):swappedStores [.Tuple xs k p] v env=pure none∧noComp v=true:=by
 cases v<;>first|exact⟨rfl,rfl⟩|exact absurd h Bool.false_ne_true
theorem sole_no{t v:Expr}{l:Nat}{env:Env}(h:noComp v=true):swapsWithSole [t] v l env=pure false:=swaps_no h
theorem SR.ext(S:SR T c m bk fr s σ)(he:Heap.ExtBut s.heap.objs.size s.heap h'):SR T c m bk fr {s with heap:=h'} σ:=
 ⟨S.1.casesOn fun Z=>.mk ⟨Z.R,Z.P,Z.F.extBut he (Nat.le_refl _),fun p hp=>⟨he _ _ (Nat.ne_of_lt (lt_all Z.N p hp)) (Z.N p hp).1,(Z.N p hp).2⟩,Z.pin⟩,S.2⟩
theorem Xs.unp(h:Ev T d e σ (.ok (.tup [u,v]) σ'))(nu:u.nl=true)(nv:v.nl=true)(o1:okS np σ'.loc i u=true)(o2:okS np (σ'.loc.set i u) j v=true):Xs T d np (.unp [i,j] e) σ (.ok .next ⟨(σ'.loc.set i u).set j v,σ'.P⟩):=@fun c A g hp st s m bk fr hf S Q Er q=>yAsg_k hf fun ts y p f=>one1_k (C:=fun ts=>wpAny _ _ (exec (.Assign ts y p) _) Q Er s) (and_r (and_l f)) fun t ft=>xTup_k (C:=fun t=>wpAny _ _ (exec (.Assign [t] y p) _) Q Er s) ft fun es kk p0 fn=>fitN_k (C:=fun es=>wpAny _ _ (exec (.Assign [.Tuple es kk p0] y p) _) Q Er s) fn fun z1 p1 es h1 fn=>fitN_k (C:=fun es=>wpAny _ _ (exec (.Assign [.Tuple (_::es) kk p0] y p) _) Q Er s) fn fun z2 p2 es h2 fn=>by
 obtain rfl:=nil_k fn;obtain⟨sw,nc⟩:=swapped_no (xs:=[.Name z1 p1,.Name z2 p2]) (k:=kk) (p:=p0) (env:=c.env) (and_l (and_l (and_l f)));refine Assign_Tuple (h g (and_r f) S @fun s1 b1 w1 fp S1 l1 r1=>?_) (sole_no nc) sw;obtain⟨-,vs,rs,ht⟩:=((RX.ofN (u:=.tup [u,v]) rfl).mp r1).1;obtain⟨w1,_,rfl,q1,w2,_,rfl,q2,rfl⟩:=rs;cases ht with|mk hm=>
 have S1:=S1.drop;refine assign_Tuple_tuple g.A.handled (isTup_of ((S1.hv g.C.X).I _ hm)) rfl rfl fun h' he'=>?_;have S2:=S1.ext he';exact wpAny_bind (wpAny_holding (wpAny_assign_Name (store_ok g.C hp (f:=[]) S2 (RN.rv nu q1) h1 o1 fun S3=>wpAny_bind (wpAny_holding (wpAny_assign_Name (store_ok g.C hp (f:=[]) S3 (RN.rv nv q2) h2 o2 fun S4=>wpAny_pure (q (fp:=[]) S4 l1 .next)))))))
theorem Xs.unp3{u1 u2 u3:V}(h:Ev T d e σ (.ok (.ltup [u1,u2,u3]) σ'))(o1:okS np σ'.loc i u1=true)(o2:okS np (σ'.loc.set i u1) j u2=true)(o3:okS np ((σ'.loc.set i u1).set j u2) k u3=true):Xs T d np (.unp [i,j,k] e) σ (.ok .next ⟨((σ'.loc.set i u1).set j u2).set k u3,σ'.P⟩):=@fun c A g hp st s m bk fr hf S Q Er q=>yAsg_k hf fun ts y p f=>one1_k (C:=fun ts=>wpAny _ _ (exec (.Assign ts y p) _) Q Er s) (and_r (and_l f)) fun t ft=>xTup_k (C:=fun t=>wpAny _ _ (exec (.Assign [t] y p) _) Q Er s) ft fun es kk p0 fn=>fitN_k (C:=fun es=>wpAny _ _ (exec (.Assign [.Tuple es kk p0] y p) _) Q Er s) fn fun z1 p1 es h1 fn=>fitN_k (C:=fun es=>wpAny _ _ (exec (.Assign [.Tuple (_::es) kk p0] y p) _) Q Er s) fn fun z2 p2 es h2 fn=>fitN_k (C:=fun es=>wpAny _ _ (exec (.Assign [.Tuple (_::_::es) kk p0] y p) _) Q Er s) fn fun z3 p3 es h3 fn=>by
 obtain rfl:=nil_k fn;obtain⟨sw,nc⟩:=swapped_no (xs:=[.Name z1 p1,.Name z2 p2,.Name z3 p3]) (k:=kk) (p:=p0) (env:=c.env) (and_l (and_l (and_l f)));refine Assign_Tuple (h g (and_r f) S @fun s1 b1 w1 fp S1 l1 r1=>?_) (sole_no nc) sw;cases show LtR T b1 _ fp w1 from r1 with|@mk a vs hm rs=>
 have ht:=isTup_of ((S1.hv g.C.X).I _ hm);cases rs with|cons q1 rs=>
 cases rs with|cons q2 rs=>
 cases rs with|cons q3 rs=>
 cases rs;rw[List.append_nil,List.append_assoc,List.append_assoc] at S1;refine assign_Tuple_tuple g.A.handled ht rfl rfl fun h' he'=>?_;exact wpAny_bind (wpAny_holding (wpAny_assign_Name (store_ok g.C hp (S1.ext he') q1 h1 o1 fun S3=>wpAny_bind (wpAny_holding (wpAny_assign_Name (store_ok g.C hp S3 q2 h2 o2 fun S4=>wpAny_bind (wpAny_holding (wpAny_assign_Name (store_ok g.C hp S4 q3 h3 o3 fun S5=>wpAny_pure (q (fp:=[]) S5 l1 .next))))))))))
end
end Mine.Internal
end
section
open PySem PySem.W
namespace Mine.Internal
noncomputable section
variable{T:Tb} {σ σ' σ1:St} {d np:Nat} {st:S} {a b:List S} {f:Fl} {z:R Fl} {u v w:V} {e:E} {i k:Nat}
theorem isN_k{C:E→Prop}(h:isN e=true)(k:C .cN):C e:=by
 cases e with
 |cst c=>cases c<;>first|exact k|exact absurd h Bool.false_ne_true
 |_=>exact absurd h Bool.false_ne_true
noncomputable def onB{α:Type}(b:Bool)(x:Option α):Option α:=if b=true then x else none
theorem onB_k{α:Type}{b:Bool}{x:Option α}{r:α}{C:Prop}(h:onB b x=some r)(k:b=true→x=some r→C):C:=by
 cases b
 ·exact no_some h
 ·exact k rfl h
noncomputable def pv(T:Tb)(σ:St)(e:E):Option V:=(pe T σ e).bind fun u=>onB u.nl (some u)
theorem pv_k(h:pv T σ e=some u):Ev T d e σ (.ok u σ):=bind_k h fun y0_ h1 h=>onB_k h fun n h=>Option.some.inj h▸Ev.p h1 n
noncomputable def isSf:V→Bool
 | .self=>true
 |_=>false
noncomputable def self0(σ:St):Bool:=σ.loc.head?.elim false isSf
theorem self0_k(h:self0 σ=true):σ.loc[0]? =some .self:=by
 cases σ with|mk l P=>cases l with
 |nil=>exact absurd h Bool.false_ne_true
 |cons u l=>cases u<;>first|rfl|exact absurd h Bool.false_ne_true
noncomputable def asgL(np:Nat)(is:List Nat)(u:V)(l:List V):Option (List V):=match is with
 |[i]=>onB (okS np l i u) (some (l.set i u))
 |[i,j]=>onB (okS np l i u) (onB (okS np (l.set i u) j u) (some ((l.set i u).set j u)))
 |_=>none
noncomputable def flN{α:Type}(f:Fl)(x y:α):α:=match f with
 | .next=>x
 |_=>y
mutual
noncomputable def sx(T:Tb)(np:Nat):S→St→Option (Fl×St)
 | .asg is e,σ=>(pv T σ e).bind fun u=>(asgL np is u σ.loc).map fun l=>(.next,⟨l,σ.P⟩)
 | .setA k e,σ=>(pv T σ e).bind fun u=>onB (self0 σ&&okA T k u σ.P) (some (.next,⟨σ.loc,put k u σ.P⟩))
 | .aug i op e,σ=>(σ.loc[i]?).bind fun v=>(pv T σ e).bind fun u=>(binV op v u).bind fun w=>onB (v.nl&&u.nl&&w.nl&&okS np σ.loc i w) (some (.next,⟨σ.loc.set i w,σ.P⟩))
 | .augA k op e,σ=>(σ.P.lookup k).bind fun v=>(pv T σ e).bind fun u=>(binV op v u).bind fun w=>onB (v.nl&&u.nl&&w.nl&&okA T k w σ.P&&self0 σ) (some (.next,⟨σ.loc,put k w σ.P⟩))
 | .ite t a b,σ=>(pt T σ t).bind fun c=>if c then sxs T np a σ else sxs T np b σ
 | .ret e,σ=>(pv T σ e).map fun u=>(.ret u,σ)
 | .brk,σ=>some (.brk,σ)
 | .pas,σ=>some (.next,σ)
 |_,_=>none
noncomputable def sxs(T:Tb)(np:Nat):List S→St→Option (Fl×St)
 |[],σ=>some (.next,σ)
 |st::r,σ=>(sx T np st σ).bind fun p=>flN p.1 (sxs T np r p.2) (some p)
end
theorem pv_nl(h:pv T σ e=some u):u.nl=true:=bind_k h fun y0_ y1_ h=>onB_k h fun n h=>Option.some.inj h▸n
theorem asg_q(h:(pv T σ e).bind (fun u=>(asgL np is u σ.loc).map fun l=>((.next:Fl),(⟨l,σ.P⟩:St)))=some p):Xs T d np (.asg is e) σ (.ok p.1 p.2):=bind_k h fun u h1 h=>by
 obtain⟨l,h2,rfl⟩:=Option.map_eq_some_iff.mp h;cases is with
 |nil=>exact no_some h2
 |cons i is=>cases is with
  |nil=>exact onB_k h2 fun o h=>Option.some.inj h▸Xs.asg (pv_k h1) o
  |cons j is=>cases is with
   |nil=>exact onB_k h2 fun o h=>onB_k h fun o2 h=>Option.some.inj h▸Xs.asg2 (pv_k h1) (pv_nl h1) o o2
   |cons=>exact no_some h2
theorem ret_q(h:pv T σ e=some u):Xs T d np (.ret e) σ (.ok (.ret u) σ):=by
 cases n:isN e with
 |false=>exact Xs.ret (pv_k h) n
 |true=>exact isN_k (C:=fun e=>pv T σ e=some u→Xs T d np (.ret e) σ (.ok (.ret u) σ)) n (fun h=>Option.some.inj h▸Xs.retN) h
mutual
theorem sx_ok:∀{st:S}{σ:St}{p:Fl×St},sx T np st σ=some p→Xs T d np st σ (.ok p.1 p.2)
 | .asg is e,σ,p,h=>asg_q h
 | .setA k e,σ,p,h=>bind_k h fun u h1 h=>onB_k h fun c h=>Option.some.inj h▸Xs.setA (pv_k h1) (self0_k (and_l c)) (and_r c)
 | .aug i op e,σ,p,h=>bind_k h fun v h1 h=>bind_k h fun u h2 h=>bind_k h fun w h3 h=>onB_k h fun c h=>Option.some.inj h▸Xs.aug h1 (and_l (and_l (and_l c))) (pv_k h2) (and_r (and_l (and_l c))) h3 (and_r (and_l c)) (and_r c)
 | .augA k op e,σ,p,h=>bind_k h fun v h1 h=>bind_k h fun u h2 h=>bind_k h fun w h3 h=>onB_k h fun c h=>Option.some.inj h▸Xs.augA (self0_k (and_r c)) h1 (and_l (and_l (and_l (and_l c)))) (pv_k h2) (and_r (and_l (and_l (and_l c)))) h3 (and_r (and_l (and_l c))) (and_r (and_l c))
 | .ite t a b,σ,p,h=>bind_k h fun c h1 h=>by
  cases c with
  |true=>exact Xs.iteT (Tr.p h1) (sxs_ok h)
  |false=>exact Xs.iteF (Tr.p h1) (sxs_ok h)
 | .ret e,σ,p,h=>map_k h fun u h1 h=>h▸ret_q h1
 | .brk,σ,p,h=>Option.some.inj h▸Xs.brk
 | .pas,σ,p,h=>Option.some.inj h▸Xs.pas
 | .expr _,_,_,h| .unp ..,_,_,h| .setI ..,_,_,h| .delI ..,_,_,h| .whl ..,_,_,h| .forL ..,_,_,h| .forS ..,_,_,h| .forK ..,_,_,h| .raise ..,_,_,h| .ass ..,_,_,h| .tryN ..,_,_,h| .opq,_,_,h=>no_some h
theorem sxs_ok:∀{b:List S}{σ:St}{p:Fl×St},sxs T np b σ=some p→Exs T d np b σ (.ok p.1 p.2)
 |[],σ,p,h=>Option.some.inj h▸Exs.nil
 |st::r,σ,p,h=>bind_k h fun q h1 h=>by
  obtain⟨f,σ1⟩:=q;cases f with
  |next=>exact Exs.cons (sx_ok h1) (sxs_ok h)
  |brk=>exact Option.some.inj h▸Exs.stop (sx_ok h1) rfl
  |ret u=>exact Option.some.inj h▸Exs.stop (sx_ok h1) rfl
end
theorem Xs.q(h:sx T np st σ=some (f,σ')):Xs T d np st σ (.ok f σ'):=sx_ok h
theorem Exs.q(h:sxs T np b σ=some (f,σ')):Exs T d np b σ (.ok f σ'):=sxs_ok h
theorem Exs.pre:∀{a:List S}{σ:St},sxs T np a σ=some (.next,σ')→Exs T d np b σ' z→Exs T d np (a++b) σ z
 |[],σ,h,k=>by cases h;exact k
 |st::r,σ,h,k=>bind_k h fun q h1 h=>by
  obtain⟨f,σ1⟩:=q;cases f with
  |next=>exact Exs.cons (sx_ok h1) (Exs.pre h k)
  |_=>exact nomatch h
theorem Exs.go(n:Nat)(h:sxs T np (b.take n) σ=some (.next,σ'))(k:Exs T d np (b.drop n) σ' z):Exs T d np b σ z:=by
 have e:=List.take_append_drop n b;revert h k;generalize b.take n=x at e⊢;generalize b.drop n=y at e⊢;subst e;exact Exs.pre
end
end Mine.Internal
end
section
open PySem PySem.W PySem.Calls PyProof.Rows
namespace Mine.Internal
noncomputable section
variable{T:Tb} {c:Cx} {m:Str→Option Value} {bk bk' bk2:Bk} {fr fp f:Led} {A:Around} {Er:Value→Shared→Prop} {s:Shared} {σ σ' σ1:St} {d np n i j k:Nat} {e:E} {b ba bb:List S} {z r:R Fl} {st:S} {h':Heap} {u v:V} {w:Value} {x:Ex} {l:List V}
noncomputable abbrev enObj(it:Addr)(i:Int)(old:Value):Obj:={cls:=.type "enumerate",dict:=none,data:=.fields #[.none,.bool false,.ref it,rawInt i,.none,old],slots:=#[]}
theorem SR.grow2{o1 o2:Obj}(S:SR T c m bk fr s σ)(k:∀b o,s.heap.get? b=some o→h'.get? b=some o)(e1:h'.get? s.heap.objs.size=some o1)(e2:h'.get? (s.heap.objs.size+1)=some o2):
  SR T c m bk ((s.heap.objs.size+1,o2)::(s.heap.objs.size,o1)::fr) {s with heap:=h'} σ:=⟨S.1.casesOn fun{led own}Z=>by
 have lt:=lt_all Z.N;have hL:=Z.F.ns.lt;have new:∀a,s.heap.objs.size≤a→a≠c.L∧c.h₀.get? a=none:=fun a ha=>⟨fun q=>absurd hL (Nat.not_lt.mpr (q▸ha)),Heap.get?_none_of_le (Nat.le_trans Z.F.above (Nat.le_trans (Nat.le_of_lt hL) ha))⟩;have F':Fr c.h₀ c.L h' m:=⟨Z.F.ns.keeps k,fun b x q=>k _ _ (Z.F.keep b x q),Z.F.above⟩;have N1:News c.h₀ c.L h' ((s.heap.objs.size,o1)::led):=fun p hp=>(List.mem_cons.mp hp).elim (fun q=>q▸⟨e1,new _ (Nat.le_refl _)⟩) fun hp=>⟨k _ _ (Z.N p hp).1,(Z.N p hp).2⟩;exact .mk ((Z.addF F' N1 (nes lt)).addF F' (fun p hp=>(List.mem_cons.mp hp).elim (fun q=>q▸⟨e2,new _ (Nat.le_succ _)⟩) (N1 p)) (nes fun p hp=>(List.mem_cons.mp hp).elim (fun q=>q▸Nat.lt_succ_self _) fun hp=>Nat.lt_succ_of_lt (lt p hp))),S.2⟩
theorem draws_str(hh:A.handled=none)(it:Addr)(x:Str)(t:Tok):
  Draws T.prog T.w A.in1 it [it] x.cps.size (fun i v=>∃c u,x.cps[i]? =some c∧v= .str ⟨#[c]⟩ u) (fun i h=>h.IsStrIter it (strIterType x) x t i):=by
 cases ha:x.cps.all (· <128)
 ·rw[show strIterType x="str_iterator" by unfold strIterType;rw[ha];rfl];exact Draws.strWide (A:=A.in1) hh it x t
 ·rw[show strIterType x="str_ascii_iterator" by unfold strIterType;rw[ha];rfl];exact Draws.strAscii (A:=A.in1) hh it x t
noncomputable def ForS(T:Tb)(d np i j:Nat)(b:List S)(z:R Fl)(cs:List Nat):Nat→St→Prop:=cs.rec (fun y0_ σ=>z= .ok .next σ) fun c y0_ K n σ=>okS np σ.loc i (.int n)=true∧okS np (σ.loc.set i (.int n)) j (.str [c])=true∧∃r,Exs T d np b ⟨(σ.loc.set i (.int n)).set j (.str [c]),σ.P⟩ r∧aft (K (n+1)) z r
inductive FsI (T:Tb) (c:Cx) (bk:Bk) (fr:Led) (W:List Nat→Nat→St→Prop) (I:Addr) (cs:List Nat) (t:Tok) (n:Nat) (s:Shared):Prop
 |mk {σ m bk' dn rest o old}:cs=dn++rest→n=rest.length→W rest dn.length σ→SR T c m bk' ((I+1,enObj I dn.length old)::(I,o)::fr) s σ→o.cls= .type (strIterType ⟨cs.toArray⟩)→o.data= .fields #[.str ⟨cs.toArray⟩ t,.int dn.length 0]→bk.le bk'→FsI T c bk fr W I cs t n s
theorem Xs.forS{cs:List Nat}(h:pe T σ e=some (.str cs))(hW:ForS T d np i j b z cs 0 σ):Xs T d np (.forS i j e b) σ z:=@fun c A g hp st s m bk fr hf S Q Er q=>yFor_k hf fun tt x y w p f=>nil_k (and_l (and_l (and_l f)))▸xTup_k (C:=fun tt=>wpAny _ _ (exec (.For tt x y [] p) _) Q Er s) (and_r (and_l (and_l f))) fun es kk p0 fn=>fitN_k (C:=fun es=>wpAny _ _ (exec (.For (.Tuple es kk p0) x y [] p) _) Q Er s) fn fun z1 p1 es h1 fn=>fitN_k (C:=fun es=>wpAny _ _ (exec (.For (.Tuple (_::es) kk p0) x y [] p) _) Q Er s) fn fun z2 p2 es h2 fn=>by
 obtain rfl:=nil_k fn;refine wpAny_For (xCall_k (C:=fun x=>Wp T A (eval x c.env) _ Er s) (and_r (and_l f)) fun f' as ks p' hf=>nil_k (and_l hf)▸xName_k (C:=fun f'=>Wp T A (eval (.Call f' as [] p') c.env) _ Er s) (and_l (and_r hf)) fun y' p2 gl=>beq_iff_eq.mp (and_l gl)▸one1_k (C:=fun as=>Wp T A (eval (.Call _ as [] p') c.env) _ Er s) (and_r (and_r hf)) fun e' ha=>
  Call_Name1 (blt_ok g.K.toTbOK g.C S (by decide) (beq_iff_eq.mp (and_l gl)▸and_r gl) boot_enumerate (by decide) (PySem.callWith_type1 (g.pe h (and_r ha) S fun v tk0 rv=>?_))) (starEach_plain (and_l ha))) (fun v=>xCall_k (C:=fun x=>foldedSetIterable x c.env v=pure v) (and_r (and_l f)) fun y0_ y1_ y2_ y3_ y4_=>rfl)
 obtain⟨t,rfl,hz⟩:=rv.ofN rfl;refine call_enumerate_str (s:=tk s tk0) fun hp1 hen hit hsz hk=>wpAny_pyIter_enum hen ?_;obtain⟨oit,i1,i2,i3⟩:=hit;have S2:=SR.grow2 (s:=tk s tk0) S hk i1 hen;have D:=draws_str (T:=T) g.A.handled s.heap.objs.size ⟨cs.toArray⟩ t;refine codeAny_forLoop_any (FsI T c bk fr (ForS T d np i j b z) s.heap.objs.size cs t) (fun n s' hI=>?_) cs.length (.mk (dn:=[]) rfl rfl hW S2 i2 i3 (.refl _));cases hI with|@mk σ1 m1 b1 dn rest o old q1 q2 q3 S3 o1 o2 lb=>
 have hE:IsEnum s'.heap (s.heap.objs.size+1) s.heap.objs.size dn.length old:=S3.fresh _ (.head _);have hI:s'.heap.IsStrIter s.heap.objs.size (strIterType ⟨cs.toArray⟩) ⟨cs.toArray⟩ t dn.length:=⟨o,S3.fresh _ (.tail _ (.head _)),o1,o2⟩;cases rest with
 |nil=>
  cases show z=_ from q3
  have hl:dn.length=cs.length:=by rw[q1,List.append_nil]
  refine wpAny_pyNext_enum_endD D hE (show Heap.IsStrIter s'.heap _ _ _ t cs.length from hl▸hI) fun h' hx=>?_;exact wpAny_execs_nil (q (fp:=[]) (SR.frSet (f:=[_,_]) (f':=[]) (tk:=s'.toks) S3 (List.nil_sublist _) (fun b o n e=>hx b o (fun q=>n (q▸ .tail _ (.head _))) e) fun y0_ h=>absurd h List.not_mem_nil) lb .next)
 |cons a rest=>
  obtain⟨k1,k2,r,hb,ha⟩:=q3;have ha':cs[dn.length]? =some a:=by rw[q1,List.getElem?_append_right (Nat.le_refl _),Nat.sub_self];rfl
  refine wpAny_pyNext_enum_itemD D hE hI (show dn.length<cs.length from lt_of_get ha') (Nat.succ_ne_self _) (fun q=>Nat.succ_ne_self _ (List.mem_singleton.mp q)) fun x h' tk' hP ho hst' ht' hsz' hk'=>?_;obtain⟨z',u,g1,rfl⟩:=hP;have g1:cs[dn.length]? =some z':=List.getElem?_toArray .. ▸g1;obtain rfl:=Option.some.inj (ha'.symm.trans g1);refine wpAny_letOwnedTupleGo_enum ho fun h2' he2 hs2=>?_;obtain⟨o',w1,w2,w3⟩:=hst';have hne:s.heap.objs.size≠s.heap.objs.size+1:=Nat.ne_of_lt (Nat.lt_succ_self _);have hlt:s.heap.objs.size+1<s'.heap.objs.size:=Heap.lt_size hE;have S4:=SR.frSet (f:=[(s.heap.objs.size+1,enObj s.heap.objs.size dn.length old),(s.heap.objs.size,o)]) (f':=[(s.heap.objs.size+1,enObj s.heap.objs.size (dn.length+1) (.str ⟨#[a]⟩ u)),(s.heap.objs.size,o')]) (h':=h2') (tk:=tk'+1) S3 (List.Sublist.refl _) (fun b o n e=>(hs2.2 b fun q=>n (q▸ .head _)).trans (hk' b o (fun q=>n (q▸ .head _)) (fun q=>n (q▸ .tail _ (.head _))) e))
   (fun p hp=>(List.mem_cons.mp hp).elim (fun q=>q▸he2) fun hp=>(List.mem_singleton.mp hp)▸(hs2.2 _ hne).trans w1)
  have ht2:IsTup h2' s'.heap.objs.size ([.int dn.length tk',.str ⟨#[a]⟩ u]:List Value).toArray:=isTup_of ((hs2.2 _ (Nat.ne_of_gt hlt)).trans ht');refine assign_Tuple_tuple g.A.handled ht2 rfl rfl fun h3 he3=>?_;exact wpAny_bind (wpAny_holding (wpAny_assign_Name (store_ok g.C hp (f:=[]) (s:={s' with heap:=h3,toks:=tk'+1}) (SR.ext (s:={s' with heap:=h2',toks:=tk'+1}) S4 he3) (RN.rv (u:=.int dn.length) rfl ⟨tk',rfl⟩) h1 k1 fun S5=>wpAny_bind (wpAny_holding (wpAny_assign_Name (store_ok g.C hp (f:=[]) S5 (RN.rv (u:=.str [a]) rfl ⟨u,rfl,show 1≤SZ by decide⟩) h2 k2 fun S6=>wpAny_pure
   (hb g hp (and_r f) S6 (aft_ok [_,_] g.A ha q lb fun K7 S7 l7=>⟨rest.length,q2▸Nat.lt_succ_self _,.mk (dn:=dn++[a]) (q1.trans (List.append_cons ..)) rfl (by rw[List.length_append];exact K7) (by rw[List.length_append];exact S7) w2 (by rw[List.length_append];exact w3) (lb.trans l7)⟩))))))))
end
end Mine.Internal
end
section
open PySem PySem.W PySem.Calls PyProof.Rows
namespace Mine.Internal
noncomputable section
variable{T:Tb} {d np:Nat} {b:List S} {σ σ':St} {fl:Fl}
theorem Xs.tryN(h:Exs T d np b σ (.ok fl σ')):Xs T d np (.tryN b) σ (.ok fl σ'):=@fun c A g n st s m bk fr hf S Q Er q=>yTry_k hf fun bs hs o f p hf=>by
 obtain rfl:=nil_k (and_r (and_l (and_l hf)));obtain rfl:=nil_k (and_r (and_l hf));cases hs with
 |nil=>exact absurd (and_l (and_l (and_l hf))) Bool.false_ne_true
 |cons h0 hs=>
  refine wpAny_Try_except (h g n (and_r hf) S @fun s1 m1 b1 fl f1 S1 l1 hfl=>?_);cases hfl with
  |next=>exact wpAny_execs_nil (q (fp:=[]) S1 l1 .next)
  |brk=>exact q S1 l1 .brk
  |ret hv=>exact q S1 l1 (.ret hv)
end
end Mine.Internal
end
section
open PySem PySem.W PySem.Calls PyProof.Rows
namespace Mine.Internal
noncomputable section
variable{T:Tb} {c:Cx} {m:Str→Option Value} {bk bk':Bk} {fr:Led} {A:Around} {Q Er:Value→Shared→Prop} {s:Shared} {σ:St} {d:Nat} {a:E} {is:List Int} {lo hi k:Int} {vs ys:List Value}
theorem closure_none{sc:Scope}{env:Env}(h:∀y∈sc.names,y.2≠ .free):closureFor sc env=pure []:=by
 unfold closureFor;generalize sc.names=l at h;have:∀(l:List (Str×NameKind))(cs:List (Str×Addr)),(∀y∈l,y.2≠ .free)→(forIn l cs (fun x r=>(match x with
   |(name,kind)=>if(kind==NameKind.free)=true then cellOf env name>>=fun c=>pure (ForInStep.yield ((name,c)::r)) else pure (ForInStep.yield r):Sem (ForInStep (List (Str×Addr))))):Sem (List (Str×Addr)))=pure cs:=by
  intro l;induction l with
  |nil=>intro cs _;rfl
  |cons y l ih=>
   intro cs hl;obtain⟨n,k⟩:=y;have hk:(k==NameKind.free)=false:=beq_false_of_ne (hl (n,k) (.head _));rw[List.forIn_cons];simp only[hk,Bool.false_eq_true,if_false,pure_bind];exact ih cs fun y hy=>hl y (.tail _ hy)
 have e:=this l [] h;simp only[bind_pure_comp] at e⊢;rw[e];rfl
theorem Off1.mem{D:Addr}:∀{l:List (Addr×Obj)},LCg.Off1 D l→∀p∈l,p.1≠D
 |[],_,_,h=>nomatch h
 |_::_,x,p,h=>(List.mem_cons.mp h).elim (fun e=>e▸x.1) (Off1.mem x.2 p)
theorem ints_of:∀{is:List Int}{vs},As T bk (is.map .int) vs→IntsAre vs is
 |[],_,h=>(show _=[] from h)▸ .nil
 |i::is,_,⟨v,vs,e,⟨t,r⟩,l⟩=>by subst e;subst r;exact .cons _ _ (ints_of l)
theorem take_min{α:Type}(l:List α)(a b:Nat):(l.drop a).take (min b l.length-a)=(l.drop a).take (b-a):=by
 rcases Nat.le_total b l.length with h|h
 ·rw[Nat.min_eq_left h]
 ·rw[Nat.min_eq_right h,List.take_of_length_le (by simp),List.take_of_length_le (by simp;omega)]
noncomputable def Mods(k:Int)(is:List Int)(ys:List Value):Prop:=∀{j:Nat}{y:Value},ys[j]? =some y→∃m t,is[j]? =some m∧y=Value.int (m%k) t
theorem Mods.as:∀{is:List Int}{ys:List Value},ys.length=is.length→Mods k is ys→As T bk (is.map fun i=>.int (i%k)) ys
 |[],ys,h,_=>List.length_eq_zero_iff.mp h▸ .nil
 |i::is,ys,h,hy=>by
  cases ys with
  |nil=>exact nomatch h
  |cons y ys=>
   obtain⟨m,t,h1,rfl⟩:=hy (j:=0) rfl;obtain rfl:=Option.some.inj h1;exact .cons ⟨t,rfl⟩ (Mods.as (Nat.succ.inj h) fun{j y}q=>hy (j:=j+1) q)
theorem comp_rest{z:Str}(hk:0<k){p1 p2 p3:Pos}{n1:Nat}{sc:Scope}(hkind:sc.kind= .function)(hx:sc.names.lookup z=some .local)(hz:(z==("__debug__":Str))=false){ax:Addr}{its:Array Value}
  (hi:∀{i:Nat}{v:Value},its[i]? =some v→∃n t,is[i]? =some n∧v= .int n t) {s:Shared} {Fin:List Value→List (Addr×Obj)→Prop} {news:List (Addr×Obj)} (h4:LCg.SrcAt c.h₀ ax its news) (h5:∀{ys},ys.length=its.size→Mods k is ys→Fin ys news):
  ∀{n i:Nat}{ys:List Value},i+n=its.size→ys.length=i→Mods k is ys→
   LCg.CompRest T.prog T.w A c.h₀ c.L m c.env (.BinOp (.Name z p1) .Mod (.Constant (.int k) n1 p2) p3) z sc [] s (LCg.SrcAt c.h₀ ax its) (fun i v=>its[i]? =some v) Fin n i ys news
 |0,i,ys,h1,h2,h3=>.zero (h5 (h2.trans h1) h3)
 |n+1,i,ys,h1,h2,h3=>by
  refine .succ fun v I oI C oC D m₂ h tk E' hP hoC hm F N off ne=>?_;obtain⟨i0,t,e1,rfl⟩:=hi hP;have hC:=hoC.ns (N (C,oC) (by simp)).1;refine wpAny_BinOp (wpAny_Name (wpAny_loadName_local hkind (PySem.lookup_relabel_local hx) hC hm ?_) hz);refine wpAny_Constant_int (PyProof.Rows.mod_int' (Int.ne_of_gt hk) ?_);rw[Int.fmod_eq_emod_of_nonneg _ (Int.le_of_lt hk)];refine LCg.CompEnd.intro F N news (fun p hp=>hp) off h4 (comp_rest hk hkind hx hz hi h4 h5 (n:=n) (i:=i+1) ((Nat.add_right_comm i 1 n).trans h1) (by rw[List.length_append,h2];rfl) fun{j y}hy=>?_);have h0:=lt_of_get hy;refine get_app hy h3 fun hj hy=>?_;obtain rfl:=List.mem_singleton.mp hy;have:j=i:=Nat.le_antisymm (Nat.le_of_lt_succ (Nat.lt_of_lt_of_eq h0 (by rw[List.length_append,h2];rfl))) (h2▸hj);subst this;exact⟨i0,_,e1,rfl⟩
theorem Ev.comp(h:pe T σ a=some (.slist (is.map .int)))(c1:0≤lo)(c2:lo≤hi)(hk:0<k):Ev T d (.comp a lo hi k) σ (.ok (.list (((is.drop lo.toNat).take (hi.toNat-lo.toNat)).map fun i=>.int (i%k))) σ):=@fun c A g x s m bk fr hf S Q Er q=>xComp_k hf fun e gs sc p0 hf=>xBin_k (C:=fun e=>Wp T A (eval (.ListComp e gs sc p0) c.env) Q Er s) hf fun l o r p3 hf=>by
 rw[beq_iff_eq.mp (and_l (and_l hf))];refine xConst_k (C:=fun r=>Wp T A (eval (.ListComp (.BinOp l .Mod r p3) gs sc p0) c.env) Q Er s) (and_r (and_l hf)) fun v n1 p2 hv=>?_;rw[beq_iff_eq.mp hv];refine xName_k (C:=fun l=>Wp T A (eval (.ListComp (.BinOp l .Mod _ p3) gs sc p0) c.env) Q Er s) (and_r hf) fun z p1 hf=>one1_k (C:=fun gs=>Wp T A (eval (.ListComp _ gs sc p0) c.env) Q Er s) hf fun⟨tg,it,ifs,isa⟩hf=>?_;have hg:=and_l hf;obtain rfl:=nil_k (l:=ifs) (and_l (and_l hg));obtain rfl:isa=0:=beq_iff_eq.mp (and_r (and_l hg));refine xName_k (C:=fun tg=>Wp T A (eval (.ListComp _ [⟨tg,it,[],0⟩] sc p0) c.env) Q Er s) (and_r hg) fun z' p4 hz'=>xSub_k (C:=fun it=>Wp T A (eval (.ListComp _ [⟨_,it,[],0⟩] sc p0) c.env) Q Er s) (and_r hf) fun v y p5 hf=>?_;obtain rfl:z=z':=beq_iff_eq.mp (and_l hz');have hsc:=and_r hz';have hkind:=beq_iff_eq.mp (and_l (and_l (and_l hsc)));have hx:=beq_iff_eq.mp (and_r (and_l hsc));have hz:=not_r (and_r hsc);have hnm:∀y∈sc.names,(y.2≠ .cell∧y.2≠ .free)∧(y.2= .local→sc.names.lookup y.1=some .local):=fun y hy=>by
  have h:=List.all_eq_true.mp (and_r (and_l (and_l hsc))) y hy;exact⟨⟨bne_iff_ne.mp (and_l (and_l h)),bne_iff_ne.mp (and_r (and_l h))⟩,fun q=>(Bool.or_eq_true_iff.mp (and_r h)).elim (fun n=>absurd q (bne_iff_ne.mp n)) beq_iff_eq.mp⟩
 refine LCg.ListComp_U (m:=m) (h₀:=c.h₀) (L:=c.L) (cl:=[]) S.F (closure_none fun y hy=>(hnm y hy).1.2) (fun y hy=>(hnm y hy).1.1) hkind (fun y hy hl=>(hnm y hy).2 hl) hx ?_ (fun y0_=>rfl);refine xSl_k (C:=fun y=>Wp T A (eval (.Subscript v y p5) c.env) _ Er s) (and_r hf) fun sa sb sc' p6 hf'=>some1_k (C:=fun sa=>Wp T A (eval (.Subscript v (.Slice sa sb sc' p6) p5) c.env) _ Er s) hf' fun la hf'=>some1_k (C:=fun sb=>Wp T A (eval (.Subscript v (.Slice _ sb sc' p6) p5) c.env) _ Er s) hf' fun ua hf'=>?_;obtain rfl:=none_of (and_l hf');refine xConst_k (C:=fun la=>Wp T A (eval (.Subscript v (.Slice (some la) _ none p6) p5) c.env) _ Er s) (and_l (and_r hf')) fun lc n2 p7 hlc=>xConst_k (C:=fun ua=>Wp T A (eval (.Subscript v (.Slice _ (some ua) none p6) p5) c.env) _ Er s) (and_r (and_r hf')) fun uc n3 p8 huc=>?_;rw[beq_iff_eq.mp hlc,beq_iff_eq.mp huc];refine Subscript_ (g.pe h (and_r (and_l hf)) S fun v1 t1 r1=>wpAny_Slice (evalPart_some_step (wpAny_Constant_int (evalPart_some_step (wpAny_Constant_int (evalPart_none_step ?_))))));obtain⟨zl,vs,rs,hl⟩:=r1.ofN (u:=.slist (is.map .int)) rfl;cases hl with|@mk al n hl=>
 have rs:As T bk (is.map .int) vs:=rs.to;have hints:=ints_of rs;have hlen:=hints.length;rw[List.length_map] at zl;have S2:SR T c m bk fr {s with toks:=t1+1+1} σ:=S;have hL:Heap.IsList (Shared.heap {s with toks:=t1+1+1}) al vs.toArray:=isList_of ((S2.hv g.C.X).X _ _ hl);exact S2.1.casesOn fun{led own}Z=>by
  have hvs:vs.length≤SZ:=by rw[hlen];exact zl
  refine kmk_slice (s:={s with toks:=t1+1+1}) Z.F Z.N hL (.int _ _) (.int _ _) (fun D h' F' N' lt=>?_) rfl (fun w=>xName_k (C:=fun v=>letTemporaryGo v (.ref al) w=pure ()) (and_l (and_l hf)) fun y0_ y1_ y2_=>rfl) (szL (n:=vs.length) hvs);have hI:IntsAre (slicePick vs.toArray (some lo) (some hi) none).toList ((is.drop lo.toNat).take (hi.toNat-lo.toNat)):=by
   have:=kmk_run hints c1 (Int.le_trans c1 c2);rw[take_min] at this;exact this
  generalize slicePick vs.toArray (some lo) (some hi) none=its at hI N';have hz2:((is.drop lo.toNat).take (hi.toNat-lo.toNat)).length≤is.length:=Nat.le_trans (List.length_take_le' ..) (List.length_drop .. ▸Nat.sub_le ..);have hil:=hI.length;rw[Array.length_toList] at hil;refine LCg.CompSrc.ledger g.A.handled F' N' (.head _) (szL (n:=its.size) (hil▸Nat.le_trans hz2 zl)) fun g'=>?_;refine comp_rest (is:=(is.drop lo.toNat).take (hi.toNat-lo.toNat)) hk hkind hx hz (fun{i v}hv=>?_) (.inr ⟨_,.head _,rfl,_,rfl⟩) (fun{ys}hyl hys D2 h2 tk2 F2 N2 o1=>?_) (n:=its.size) (i:=0) (ys:=[]) (Nat.zero_add _) rfl fun{j y}h=>no_some h
  ·refine get_lt (l:=(is.drop lo.toNat).take (hi.toNat-lo.toNat)) (i:=i) (hil▸(Array.getElem?_eq_some_iff.mp hv).1) fun n0 hn0=>?_;obtain⟨t,ht⟩:=hI.get i _ hn0;rw[Array.getElem?_toList,hv] at ht;exact⟨_,t,hn0,Option.some.inj ht⟩
  ·have N3:News c.h₀ c.L h2 ((D2,LCg.lst ys)::led):=fun p hp=>N2 p ((List.mem_cons.mp hp).elim (fun e=>e▸ .head _) fun hp=>.tail _ (.tail _ hp));exact q (fp:=[(D2,LCg.lst ys)]) ⟨.mk (Z.addF F2 N3 fun p hp=>Off1.mem o1 p (.tail _ hp)),S.2⟩ (.refl _) (LsR.mk (n:=ys.length) (Mods.as (hyl.trans hil) hys) (by rw[List.length_map];exact Nat.le_trans hz2 zl))
end
end Mine.Internal
end
section
open PySem PySem.W PyProof.Rows
namespace Mine.Internal
noncomputable section
noncomputable def EvI(T:Tb)(d:Nat)(e:E)(σ:St)(r:R V):Prop:=match e with
 | .and es=>VL T d .And es σ r
 | .or es=>VL T d .Or es σ r
 |e=>Ev T d e σ r
noncomputable def TrI(T:Tb)(d:Nat)(e:E)(σ:St)(r:R Bool):Prop:=match e with
 | .and es=>TL T d .And es σ r
 | .or es=>TL T d .Or es σ r
 |e=>Tr T d e σ r
structure ev (T:Tb) (d:Nat) (e:E) (σ:St) (r:R V):Prop where
 mk::
 un0:EvI T d e σ r
structure tr (T:Tb) (d:Nat) (e:E) (σ:St) (r:R Bool):Prop where
 mk::
 un0:TrI T d e σ r
structure args (T:Tb) (d:Nat) (es:List E) (σ:St) (r:R Ar):Prop where
 mk::
 un:As' T d es σ r
structure ex (T:Tb) (d np:Nat) (st:S) (σ:St) (r:R Fl):Prop where
 mk::
 un:Xs T d np st σ r
structure exs (T:Tb) (d np:Nat) (b:List S) (σ:St) (r:R Fl):Prop where
 mk::
 un:Exs T d np b σ r
structure run (T:Tb) (d f:Nat) (xs:List V) (P:Pt) (r:CR):Prop where
 mk::
 un:Run T d f xs P r
inductive wl (T:Tb) (d np:Nat) (t:E) (b:List S) (σ:St) (z:R Fl):Prop
 |mk {n:Nat}:Wl T d np t b z n σ→wl T d np t b σ z
variable{T:Tb} {d np i j k f n:Nat} {e t p a c:E} {es ys:List E} {σ σ' σ1 σ2:St} {r:R V} {u v w:V} {vs bs outs xs us:List V} {l loc:List V} {x:Ex} {ba bb:List S} {st:S} {z:R Fl} {fl:Fl} {P P':Pt} {kw:List (Nat×E)} {b:Bool} {js:List (Option Nat)}
theorem ev.un(h:ev T d e σ r):Ev T d e σ r:=by
 have h:=h.un0;cases e with
  |and=>exact @Ev.and _ _ _ _ _ @h
  |or=>exact @Ev.or _ _ _ _ _ @h
  |_=>exact @h
theorem tr.un{r:R Bool}(h:tr T d e σ r):Tr T d e σ r:=by
 have h:=h.un0;cases e with
  |and=>exact @Tr.and _ _ _ _ _ @h
  |or=>exact @Tr.or _ _ _ _ _ @h
  |_=>exact @h
theorem e_p(h:pv T σ e=some u):ev T d e σ (.ok u σ):=.mk (by
 have k:=@pv_k T σ d u e h;cases e with
 |and=>exact(bind_k h fun y0_ h y1_=>no_some h:False).elim
 |or=>exact(bind_k h fun y0_ h y1_=>no_some h:False).elim
 |_=>exact @k)
theorem e_mv(h:σ.loc[i]? =some u)(n:u.lin=true):ev T d (.loc i) σ (.ok u ⟨σ.loc.set i .any,σ.P⟩):=.mk (Ev.mv h n)
theorem e_attr(h:ev T d e σ (.ok v σ'))(h1:attrV T σ'.P v k=some u)(n:u.nl=true):ev T d (.attr e k) σ (.ok u σ'):=.mk (Ev.attr @h.un h1 n)
theorem e_attrX(h:ev T d e σ (.exc x l)):ev T d (.attr e k) σ (.exc x l):=.mk (Ev.attrX @h.un)
theorem e_bin{op:Bo}(h:ev T d e σ (.ok u σ1))(h1:ev T d t σ1 (.ok v σ'))(n:(u.nl&&v.nl)=true)(h2:binV op u v=some w):ev T d (.bin op e t) σ (.ok w σ'):=.mk (Ev.bin @h.un @h1.un (and_l n) (and_r n) h2)
theorem e_cat(h:ev T d e σ (.ok (.list xs) σ1))(h1:ev T d t σ1 (.ok (.list us) σ'))(z:xs.length+us.length≤SZ):ev T d (.cat e t) σ (.ok (.list (xs++us)) σ'):=.mk (Ev.cat @h.un @h1.un z)
theorem e_dic:ev T d .dic σ (.ok (.dict []) σ):=.mk Ev.dic
theorem e_app(h0:PlV σ us p)(h:ev T d e σ (.ok u σ'))(h1:PlV σ' xs p)(n:u.nl=true)(z:xs.length<SZ):ev T d (.app p e) σ (.ok .none (setPl σ' (.list (xs++[u])) p)):=.mk (Ev.app h0 @h.un h1 n z)
theorem e_ext(h0:PlV σ vs p)(h:ev T d e σ (.ok (.list us) σ'))(h1:PlV σ' xs p)(z:xs.length+us.length<SZ):ev T d (.ext p e) σ (.ok .none (setPl σ' (.list (xs++us)) p)):=.mk (Ev.ext h0 @h.un h1 z)
theorem e_ins{m:Int}(h0:PlV σ vs p)(hi:pe T σ a=some (.int m))(h:ev T d e σ (.ok u σ'))(h1:PlV σ' xs p)(n:u.nl=true)(z:xs.length<SZ)(z1:0≤m)(z2:m.toNat≤xs.length):ev T d (.ins p a e) σ (.ok .none (setPl σ' (.list (xs.take m.toNat++u::xs.drop m.toNat)) p)):=.mk (Ev.ins h0 hi @h.un h1 n z z1 z2)
theorem e_pop(h0:PlV σ (xs++[u]) p):ev T d (.pop p) σ (.ok u (setPl σ (.list xs) p)):=.mk (Ev.pop h0)
theorem e_pop0(h0:PlV σ (u::xs) p):ev T d (.pop0 p) σ (.ok u (setPl σ (.list xs) p)):=.mk (Ev.pop0 h0)
theorem e_ite(h:tr T d e σ (.ok b σ'))(k:ev T d (if b=true then t else a) σ' r):ev T d (.ite e t a) σ r:=.mk (Ev.ite @h.un @k.un)
theorem e_keys{es:List (V×V)}(h:pe T σ e=some (.dict es))(n:es.all (fun p=>intK p.1)=true):ev T d (.keys e) σ (.ok (.list (es.map (·.1))) σ):=.mk (Ev.keys h n)
theorem e_lst{vs:Ar}(h:args T d es σ (.ok vs σ'))(n:(vs.map (·.1)).all V.nl=true)(z:vs.length≤SZ):ev T d (.lst es) σ (.ok (.list (vs.map (·.1))) σ'):=.mk (Ev.lst @h.un n z)
theorem e_tup{vs:Ar}(h:args T d es σ (.ok vs σ'))(n:(vs.map (·.1)).all V.nl=true)(z:vs.length≤SZ):ev T d (.tup es) σ (.ok (.tup (vs.map (·.1))) σ'):=.mk (Ev.tup @h.un n z)
theorem e_ltup{vs:Ar}(h:args T d es σ (.ok vs σ'))(z:vs.length≤SZ):ev T d (.tup es) σ (.ok (.ltup (vs.map (·.1))) σ'):=.mk (Ev.ltup @h.un z)
theorem e_max{a b:Int}(h:ev T d e σ (.ok (.int a) σ1))(h1:ev T d t σ1 (.ok (.int b) σ')):ev T d (.max e t) σ (.ok (.int (Max.max a b)) σ'):=.mk (Ev.max @h.un @h1.un)
theorem e_min{a b:Int}(h:ev T d e σ (.ok (.int a) σ1))(h1:ev T d t σ1 (.ok (.int b) σ')):ev T d (.min e t) σ (.ok (.int (Min.min a b)) σ'):=.mk (Ev.min @h.un @h1.un)
theorem e_cmp{op:Co}(h:ev T d e σ (.ok u σ'))(h1:pe T σ' t=some v)(h2:cmpV op u v=some b):ev T d (.cmp op e t) σ (.ok (.bool b) σ'):=.mk (Ev.cmpL @h.un h1 h2)
theorem e_slice{s:List Nat}{n k:Nat}(h:pe T σ e=some (.str s))(h1:pe T σ a=some (.int n))(h2:pe T σ c=some (.int k))(c1:n≤k)(c2:s.length≤SZ):ev T d (.slice e a c) σ (.ok (.str ((s.drop n).take (k-n))) σ):=.mk (Ev.slice h h1 h2 c1 c2)
theorem e_split{s:List Nat}{ws:List (List Nat)}(h:pe T σ e=some (.str s))(h1:T.sp.lookup s=some ws):ev T d (.split e) σ (.ok (.list (ws.map .str)) σ):=.mk (Ev.split h h1)
theorem e_sub(h:ev T d e σ (.ok u σ'))(h1:pe T σ' t=some w)(n:w.nl=true)(h2:subV u w=some v):ev T d (.sub e t) σ (.ok v σ'):=.mk (Ev.sub @h.un h1 n h2)
theorem e_orL(h:ev T d e σ r):ev T d (.or [e]) σ r:=.mk (VL.one @h.un)
theorem e_andL(h:ev T d e σ r):ev T d (.and [e]) σ r:=.mk (VL.one @h.un)
theorem e_orF(h:ev T d e σ (.ok u σ'))(n:u.nl=true)(h1:truthV u=some false)(k:ev T d (.or (t::es)) σ' r):ev T d (.or (e::t::es)) σ r:=.mk (VL.orF @h.un n h1 @k.un0)
theorem e_orT(h:ev T d e σ (.ok u σ'))(n:u.nl=true)(h1:truthV u=some true):ev T d (.or (e::t::es)) σ (.ok u σ'):=.mk (VL.orT @h.un n h1)
theorem e_andT(h:ev T d e σ (.ok u σ'))(n:u.nl=true)(h1:truthV u=some true)(k:ev T d (.and (t::es)) σ' r):ev T d (.and (e::t::es)) σ r:=.mk (VL.andT @h.un n h1 @k.un0)
theorem e_andF(h:ev T d e σ (.ok u σ'))(n:u.nl=true)(h1:truthV u=some false):ev T d (.and (e::t::es)) σ (.ok u σ'):=.mk (VL.andF @h.un n h1)
noncomputable def alive(σ:St):Bool:=self0 σ&&(σ.P.lookup 1000).isSome
theorem alive_0(h:alive σ=true):σ.loc[0]? =some .self:=self0_k (and_l h)
theorem e_meth(h:alive σ=true):ev T d (.meth f k) σ (.ok (.meth f) σ):=.mk (Ev.meth (alive_0 h) (and_r h))
theorem a_nil:args T d [] σ (.ok [] σ):=.mk As'.nil
theorem a_ps(h:pes T σ es=some vs):args T d es σ (.ok (vs.map (·,none)) σ):=.mk (As'.ps h)
theorem a_cons{vs:Ar}(h:ev T d e σ (.ok v σ'))(n:(v.nl||v.lin)=true)(k:args T d es σ' (.ok vs σ2)):args T d (e::es) σ (.ok ((v,none)::vs) σ2):=.mk (As'.cons @h.un (Bool.or_eq_true_iff.mp n) @k.un)
theorem a_exc(h:ev T d e σ (.exc x l)):args T d (e::es) σ (.exc x l):=.mk (As'.exc1 @h.un)
theorem a_ml{vs:Ar}(h:σ.loc[i]? =some u)(n:u.lin=true)(k:args T d es ⟨σ.loc.set i .any,σ.P⟩ (.ok vs σ2)):args T d (.loc i::es) σ (.ok ((u,some i)::vs) σ2):=.mk (As'.ml h n @k.un)
noncomputable def bindA(T:Tb)(f:Nat)(xs:List V)(σ:St)(kw:List (Nat×E)):Option (List V):=(pks T σ kw).bind fun kv=>bindK (T.fn f) xs kv
theorem mcal_k{vs:Ar}{r:CR}(hs:alive σ=true)(ha:args T d es σ (.ok vs σ1))(hb:bindA T f (.self::vs.map (·.1)) σ1 kw=some bs)(H:run T d f bs σ1.P r):ev T d (.mcal (.loc 0) k f es kw) σ (resC (none::vs.map (·.2)) σ1.loc r):=bind_k hb fun y0_ h1 h2=>.mk (Ev.mcal (alive_0 hs) (and_r hs) @ha.un h1 h2 @H.un)
theorem x_mcal{vs:Ar}(hs:alive σ=true)(ha:args T d es σ (.ok vs σ1))(hb:bindA T f (.self::vs.map (·.1)) σ1 kw=some bs)(H:run T d f bs σ1.P (.ret v P outs))(hl:back (none::vs.map (·.2)) outs σ1.loc=loc):ev T d (.mcal (.loc 0) k f es kw) σ (.ok v ⟨loc,P⟩):=hl▸mcal_k hs ha hb H
theorem x_mcalX{vs:Ar}(hs:alive σ=true)(ha:args T d es σ (.ok vs σ1))(hb:bindA T f (.self::vs.map (·.1)) σ1 kw=some bs)(H:run T d f bs σ1.P (.exc x)):ev T d (.mcal (.loc 0) k f es kw) σ (.exc x σ1.loc):=mcal_k hs ha hb H
theorem back_none:∀{xs:List V}{outs loc:List V},back (xs.map fun y0_=>none) outs loc=loc
 |[],_,_=>rfl
 |_::xs,_,_=>back_none (xs:=xs)
theorem pair_fst{xs:List V}:(xs.map fun x=>(x,(none:Option Nat))).map (·.1)=xs:=by rw[List.map_map];exact List.map_id _
theorem pair_snd{xs:List V}:(xs.map fun x=>(x,(none:Option Nat))).map (·.2)=xs.map fun y0_=>none:=List.map_map
noncomputable def bindQ(T:Tb)(f:Nat)(us:List V)(σ:St)(es:List E)(kw:List (Nat×E)):Option (List V):=(pes T σ es).bind fun xs=>bindA T f (us++xs) σ kw
theorem m_cal(hs:alive σ=true)(hb:bindQ T f [.self] σ es kw=some bs)(H:run T d f bs σ.P (.ret v P outs)):ev T d (.mcal (.loc 0) k f es kw) σ (.ok v ⟨σ.loc,P⟩):=bind_k hb fun xs h1 h2=>by
 have:=mcal_k (k:=k) hs (a_ps h1) (by rw[pair_fst];exact h2) H;rw[pair_snd] at this;exact(congrArg (fun l=>R.ok v ⟨l,P⟩) (back_none (xs:=xs) (outs:=outs.tail)))▸this
theorem m_calX(hs:alive σ=true)(hb:bindQ T f [.self] σ es kw=some bs)(H:run T d f bs σ.P (.exc x)):ev T d (.mcal (.loc 0) k f es kw) σ (.exc x σ.loc):=bind_k hb fun xs h1 h2=>mcal_k (k:=k) hs (a_ps h1) (by rw[pair_fst];exact h2) H
theorem fcal_k{vs:Ar}{r:CR}(ha:args T d es σ (.ok vs σ1))(hb:bindA T f (vs.map (·.1)) σ1 kw=some bs)(H:run T d f bs σ1.P r):ev T d (.fcal k f es kw) σ (resC (vs.map (·.2)) σ1.loc r):=bind_k hb fun y0_ h1 h2=>.mk (Ev.fcal @ha.un h1 h2 @H.un)
theorem x_fcal{vs:Ar}(ha:args T d es σ (.ok vs σ1))(hb:bindA T f (vs.map (·.1)) σ1 kw=some bs)(H:run T d f bs σ1.P (.ret v P outs))(hl:back (vs.map (·.2)) outs σ1.loc=loc):ev T d (.fcal k f es kw) σ (.ok v ⟨loc,P⟩):=hl▸fcal_k ha hb H
theorem f_cal(hb:bindQ T f [] σ es kw=some bs)(H:run T d f bs σ.P (.ret v P outs)):ev T d (.fcal k f es kw) σ (.ok v ⟨σ.loc,P⟩):=bind_k hb fun xs h1 h2=>by
 have:=fcal_k (k:=k) (a_ps h1) (by rw[pair_fst];exact h2) H;rw[pair_snd] at this;exact(congrArg (fun l=>R.ok v ⟨l,P⟩) (back_none (xs:=xs) (outs:=outs)))▸this
variable{q:R Bool}
theorem tpA:∀{es:List E}{b:Bool},ptAnd T σ es=some b→TL T d .And es σ (.ok b σ)
 |[],_,h=>by cases h;exact TL.nilA
 |e::es,b,h=>by
  refine bind_k h fun c h1 h=>?_;cases c with
  |true=>exact TL.andT (Tr.p h1) (tpA h)
  |false=>cases h;exact TL.andF (Tr.p h1)
theorem tpO:∀{es:List E}{b:Bool},ptOr T σ es=some b→TL T d .Or es σ (.ok b σ)
 |[],_,h=>by cases h;exact TL.nilO
 |e::es,b,h=>by
  refine bind_k h fun c h1 h=>?_;cases c with
  |false=>exact TL.orF (Tr.p h1) (tpO h)
  |true=>cases h;exact TL.orT (Tr.p h1)
theorem t_p(h:pt T σ e=some b):tr T d e σ (.ok b σ):=.mk (by
 have k:=@Tr.p T σ d e b h;cases e with
 |and es=>exact @tpA T d σ es b h
 |or es=>exact @tpO T d σ es b h
 |_=>exact @k)
theorem t_cmp{op:Co}(h:ev T d e σ (.ok u σ'))(h1:pe T σ' t=some v)(h2:cmpV op u v=some b):tr T d (.cmp op e t) σ (.ok b σ'):=.mk (Tr.cmpL @h.un h1 h2)
theorem t_cmpX{op:Co}(h:ev T d e σ (.exc x l)):tr T d (.cmp op e t) σ (.exc x l):=.mk (Tr.cmpX @h.un)
theorem t_not(h:tr T d e σ (.ok b σ')):tr T d (.not e) σ (.ok (!b) σ'):=.mk (Tr.not @h.un)
theorem t_tv(h:ev T d e σ (.ok v σ'))(n:v.nl=true)(h2:truthV v=some b):tr T d (.tv e) σ (.ok b σ'):=.mk (Tr.tv @h.un n h2)
theorem t_and0:tr T d (.and []) σ (.ok true σ):=.mk TL.nilA
theorem t_or0:tr T d (.or []) σ (.ok false σ):=.mk TL.nilO
theorem t_andT(h:tr T d e σ (.ok true σ'))(k:tr T d (.and es) σ' q):tr T d (.and (e::es)) σ q:=.mk (TL.andT @h.un @k.un0)
theorem t_andF(h:tr T d e σ (.ok false σ')):tr T d (.and (e::es)) σ (.ok false σ'):=.mk (TL.andF @h.un)
theorem t_orF(h:tr T d e σ (.ok false σ'))(k:tr T d (.or es) σ' q):tr T d (.or (e::es)) σ q:=.mk (TL.orF @h.un @k.un0)
theorem t_orT(h:tr T d e σ (.ok true σ')):tr T d (.or (e::es)) σ (.ok true σ'):=.mk (TL.orT @h.un)
theorem x_q(h:sx T np st σ=some (fl,σ')):ex T d np st σ (.ok fl σ'):=.mk (Xs.q h)
theorem x_expr(h:ev T d e σ (.ok v σ')):ex T d np (.expr e) σ (.ok .next σ'):=.mk (Xs.expr @h.un)
theorem x_exprX(h:ev T d e σ (.exc x l)):ex T d np (.expr e) σ (.exc x l):=.mk (Xs.expr @h.un)
theorem x_asg(h:ev T d e σ (.ok v σ'))(ok:okS np σ'.loc i v=true):ex T d np (.asg [i] e) σ (.ok .next ⟨σ'.loc.set i v,σ'.P⟩):=.mk (Xs.asg @h.un ok)
theorem x_asgX(h:ev T d e σ (.exc x l)):ex T d np (.asg [i] e) σ (.exc x l):=.mk (Xs.asgX @h.un)
theorem x_setA(h:ev T d e σ (.ok v σ'))(ok:(self0 σ'&&okA T k v σ'.P)=true):ex T d np (.setA k e) σ (.ok .next ⟨σ'.loc,put k v σ'.P⟩):=.mk (Xs.setA @h.un (self0_k (and_l ok)) (and_r ok))
theorem x_setAX(h:ev T d e σ (.exc x l)):ex T d np (.setA k e) σ (.exc x l):=.mk (Xs.setAX @h.un)
theorem x_aug{op:Bo}(h0:σ.loc[i]? =some u)(h:ev T d e σ (.ok v σ'))(hb:binV op u v=some w)(ok:(u.nl&&v.nl&&w.nl&&okS np σ'.loc i w)=true):ex T d np (.aug i op e) σ (.ok .next ⟨σ'.loc.set i w,σ'.P⟩):=.mk (Xs.aug h0 (and_l (and_l (and_l ok))) @h.un (and_r (and_l (and_l ok))) hb (and_r (and_l ok)) (and_r ok))
theorem x_ret(h:ev T d e σ (.ok v σ'))(n:isN e=false):ex T d np (.ret e) σ (.ok (.ret v) σ'):=.mk (Xs.ret @h.un n)
theorem x_retX(h:ev T d e σ (.exc x l))(n:isN e=false):ex T d np (.ret e) σ (.exc x l):=.mk (Xs.ret @h.un n)
theorem x_ass(h:tr T d e σ (.ok true σ')):ex T d np (.ass e) σ (.ok .next σ'):=.mk (Xs.ass @h.un)
theorem x_iT(h:tr T d e σ (.ok true σ'))(k:exs T d np ba σ' z):ex T d np (.ite e ba bb) σ z:=.mk (Xs.iteT @h.un @k.un)
theorem x_iF(h:tr T d e σ (.ok false σ'))(k:exs T d np bb σ' z):ex T d np (.ite e ba bb) σ z:=.mk (Xs.iteF @h.un @k.un)
theorem x_iX(h:tr T d e σ (.exc x l)):ex T d np (.ite e ba bb) σ (.exc x l):=.mk (Xs.iteX @h.un)
theorem x_try(h:exs T d np ba σ (.ok fl σ')):ex T d np (.tryN ba) σ (.ok fl σ'):=.mk (Xs.tryN @h.un)
theorem x_unp(h:ev T d e σ (.ok (.tup [u,v]) σ'))(n:(u.nl&&v.nl&&okS np σ'.loc i u&&okS np (σ'.loc.set i u) j v)=true):ex T d np (.unp [i,j] e) σ (.ok .next ⟨(σ'.loc.set i u).set j v,σ'.P⟩):=.mk (Xs.unp @h.un (and_l (and_l (and_l n))) (and_r (and_l (and_l n))) (and_r (and_l n)) (and_r n))
theorem x_whl(h:wl T d np t ba σ z):ex T d np (.whl t ba) σ z:=h.casesOn fun h=>.mk (Xs.whl h)
theorem w_stop(h:tr T d t σ (.ok false σ')):wl T d np t ba σ (.ok .next σ'):=.mk (n:=1) (.stop @h.un rfl)
theorem w_exc(h:tr T d t σ (.exc x l)):wl T d np t ba σ (.exc x l):=.mk (n:=1) (.exc @h.un rfl)
theorem w_go(h:tr T d t σ (.ok true σ1))(h1:exs T d np ba σ1 (.ok .next σ2))(h2:wl T d np t ba σ2 z):wl T d np t ba σ z:=h2.casesOn fun{n}h2=>.mk (n:=n+1) (.body @h.un @h1.un h2)
theorem w_brk(h:tr T d t σ (.ok true σ1))(h1:exs T d np ba σ1 (.ok .brk σ2)):wl T d np t ba σ (.ok .next σ2):=.mk (n:=1) (.body @h.un @h1.un rfl)
theorem w_ret(h:tr T d t σ (.ok true σ1))(h1:exs T d np ba σ1 (.ok (.ret v) σ2)):wl T d np t ba σ (.ok (.ret v) σ2):=.mk (n:=1) (.body @h.un @h1.un rfl)
theorem w_bX(h:tr T d t σ (.ok true σ1))(h1:exs T d np ba σ1 (.exc x l)):wl T d np t ba σ (.exc x l):=.mk (n:=1) (.body @h.un @h1.un rfl)
theorem x_nil:exs T d np [] σ (.ok .next σ):=.mk Exs.nil
theorem x_cons(h:ex T d np st σ (.ok .next σ'))(k:exs T d np ba σ' z):exs T d np (st::ba) σ z:=.mk (Exs.cons @h.un @k.un)
theorem x_end(h:ex T d np st σ z)(n:z.stop=true:=by rfl):exs T d np (st::ba) σ z:=.mk (Exs.stop @h.un n)
theorem x_qs(h:sxs T np ba σ=some (fl,σ')):exs T d np ba σ (.ok fl σ'):=.mk (Exs.q h)
theorem x_go(n:Nat)(h:sxs T np (ba.take n) σ=some (.next,σ'))(k:exs T d np (ba.drop n) σ' z):exs T d np ba σ z:=.mk (Exs.go n h @k.un)
theorem run_of(hx:xs.length=(T.fn f).np)(H:exs T d (T.fn f).np (T.fn f).code ⟨locOf T f xs,P⟩ z)
  (hc:∀{ns sc body},fitB T ns sc (T.fn f).code body=fitSs T ns sc (T.fn f).code body):run T (d+1) f xs P (crOf (T.fn f).np z):=.mk (Run.of hx hc @H.un)
end
end Mine.Internal
end
section
open PySem PySem.W
namespace Mine.Internal
noncomputable section
variable{T:Tb} {d np i k:Nat} {es:List E} {σ σ1:St} {u:V} {vs:List V} {kv:List (Nat×V)} {kw:List (Nat×E)} {C:Addr} {l:List V} {x:Ex}
noncomputable def recF(T:Tb)(C:Addr)(xc:Bool)(vs:List V)(kv:List (Nat×V)):Option (List (Nat×V)):=(T.fl C).bind fun p=>onB (T.xc C==xc) ((bindP ((T.rd C).me::p.1) (none::p.2) (.any::vs) kv).bind fun bs=>
 match bs with
 | .any::bs=>onB (bs.all V.nl&&bs.length==p.1.length) (some (p.1.zip bs))
 |_=>none)
inductive RecK (T:Tb) (C:Addr) (xc:Bool) (vs:List V) (kv:List (Nat×V)):List (Nat×V)→Prop
 |mk {fs ds bs}:T.fl C=some (fs,ds)→T.xc C=xc→bindP ((T.rd C).me::fs) (none::ds) (.any::vs) kv=some (.any::bs)→bs.all V.nl=true→bs.length=fs.length→RecK T C xc vs kv (fs.zip bs)
theorem recF_k{xc:Bool}{r:List (Nat×V)}(h:recF T C xc vs kv=some r):RecK T C xc vs kv r:=bind_k h fun p h1 h=>onB_k h fun h2 h=>bind_k h fun bs h3 h=>by
 cases bs with
 |nil=>exact no_some h
 |cons b bs=>cases b<;>first|exact no_some h|exact onB_k h fun h4 h=>Option.some.inj h▸ .mk h1 (beq_iff_eq.mp h2) h3 (and_l h4) (beq_iff_eq.mp (and_r h4))
noncomputable def globV(o:Option V):Option Addr:=o.bind fun v=>match v with
 | .glob C=>some C
 |_=>none
theorem globV_k{o:Option V}(h:globV o=some C):o=some (.glob C):=bind_k h fun v h1 h=>h1.trans (by cases v<;>first|exact no_some h|exact congrArg (some∘V.glob) (Option.some.inj h))
noncomputable def newF(T:Tb)(C:Addr)(vs:List V)(σ:St)(kw:List (Nat×E)):Option V:=(pks T σ kw).bind fun kv=>(recF T C false vs kv).map (.inst C)
theorem x_new{vs:Ar}(K:RecsOK T)(h:args T d es σ (.ok vs σ1))(hv:((globV (T.gv k)).bind fun C=>newF T C (vs.map (·.1)) σ1 kw)=some u):ev T d (.new k es kw) σ (.ok u σ1):=bind_k hv fun C h1 h2=>bind_k h2 fun kv h3 h2=>map_k h2 fun fs h4 h2=>h2▸by
 cases recF_k h4 with|mk a b c e f=>exact .mk (Ev.new K (globV_k h1) a b @h.un h3 c e f)
theorem e_new(K:RecsOK T)(hv:((globV (T.gv k)).bind fun C=>(pes T σ es).bind fun vs=>newF T C vs σ kw)=some u):ev T d (.new k es kw) σ (.ok u σ):=bind_k hv fun C h1 h2=>bind_k h2 fun vs h3 h2=>x_new K (a_ps h3) (by rw[h1,pair_fst];exact h2)
theorem x_newv{vs:Ar}(K:RecsOK T)(h:args T d es σ (.ok vs σ1))(hv:((globV σ.loc[i]?).bind fun C=>(recF T C false (vs.map (·.1)) []).map (.inst C))=some u):ev T d (.newv i es) σ (.ok u σ1):=bind_k hv fun C h1 h2=>map_k h2 fun fs h4 h2=>h2▸by
 cases recF_k h4 with|mk a b c e f=>exact .mk (Ev.newv K (globV_k h1) a b @h.un c e f)
theorem e_newv(K:RecsOK T)(hv:((globV σ.loc[i]?).bind fun C=>(pes T σ es).bind fun vs=>(recF T C false vs []).map (.inst C))=some u):ev T d (.newv i es) σ (.ok u σ):=bind_k hv fun C h1 h2=>bind_k h2 fun vs h3 h2=>x_newv K (a_ps h3) (by rw[h1,pair_fst];exact h2)
theorem x_raise{vs:Ar}(K:ExcsOK T)(h:args T d es σ (.ok vs σ1))(hl:vs.length.ble 100=true)(hv:((globV (T.gv k)).bind fun C=>(recF T C true (vs.map (·.1)) []).bind fun fs=>onB (!fs.isEmpty) (some (⟨C,fs⟩:Ex)))=some x):ex T d np (.raise k es) σ (.exc x σ1.loc):=bind_k hv fun C h1 h2=>bind_k h2 fun fs h4 h2=>onB_k h2 fun h5 h2=>Option.some.inj h2▸by
 cases recF_k h4 with|@mk fs ds bs a b c e f=>
 cases fs with
 |nil=>exact absurd h5 Bool.false_ne_true
 |cons k0 ks=>cases bs with
  |nil=>exact absurd h5 Bool.false_ne_true
  |cons u us=>exact .mk (Xs.raise K (globV_k h1) a b @h.un c e f (Nat.le_of_ble_eq_true hl))
end
end Mine.Internal
end
section
open PySem PySem.W
namespace Mine.Internal
noncomputable section
structure fv (T:Tb) (d np i:Nat) (b:List S) (xs:List V) (σ:St) (z:R Fl):Prop where
 mk::
 un:ForV T d np i b z xs σ
structure fs (T:Tb) (d np i j:Nat) (b:List S) (cs:List Nat) (n:Nat) (σ:St) (z:R Fl):Prop where
 mk::
 un:ForS T d np i j b z cs n σ
variable{T:Tb} {d np i j k n c:Nat} {e t p a ke:E} {σ σ' σ1 σ2:St} {u v w kv:V} {xs us:List V} {cs:List Nat} {x:Ex} {l:List V} {b:List S} {z:R Fl} {es:List (V×V)} {P:Pt}
theorem f_nil:fv T d np i b [] σ (.ok .next σ):=.mk rfl
theorem f_go(n:(u.nl&&okS np σ.loc i u)=true)(h:exs T d np b ⟨σ.loc.set i u,σ.P⟩ (.ok .next σ2))(k:fv T d np i b us σ2 z):fv T d np i b (u::us) σ z:=.mk ⟨and_l n,and_r n,_,@h.un,k.un⟩
theorem f_ret(n:(u.nl&&okS np σ.loc i u)=true)(h:exs T d np b ⟨σ.loc.set i u,σ.P⟩ (.ok (.ret v) σ2)):fv T d np i b (u::us) σ (.ok (.ret v) σ2):=.mk ⟨and_l n,and_r n,_,@h.un,rfl⟩
theorem f_brk(n:(u.nl&&okS np σ.loc i u)=true)(h:exs T d np b ⟨σ.loc.set i u,σ.P⟩ (.ok .brk σ2)):fv T d np i b (u::us) σ (.ok .next σ2):=.mk ⟨and_l n,and_r n,_,@h.un,rfl⟩
theorem x_forL(h:ev T d e σ (.ok v σ1))(hv:lstOf v=some xs)(k:fv T d np i b xs σ1 z):ex T d np (.forL i e b) σ z:=.mk (Xs.forL @h.un hv k.un)
theorem x_forK(ha:(attrV T σ.P .self k).bind (fun v=>match v with| .sdict es=>some es|_=>none)=some es)(h0:self0 σ=true)(hk:(es.map (·.1)).all keyOk=true)(h:fv T d np i b (es.map (·.1)) σ z):ex T d np (.forK i k b) σ z:=
 .mk (Xs.forK (self0_k h0) (bind_k ha fun v h1 h=>h1.trans (by cases v<;>first|exact no_some h|exact congrArg (some∘V.sdict) (Option.some.inj h))) hk h.un)
theorem x_forS(h:pe T σ e=some (.str cs))(k:fs T d np i j b cs 0 σ z):ex T d np (.forS i j e b) σ z:=.mk (Xs.forS h k.un)
theorem s_nil:fs T d np i j b [] n σ (.ok .next σ):=.mk rfl
theorem s_go(h0:(okS np σ.loc i (.int n)&&okS np (σ.loc.set i (.int n)) j (.str [c]))=true)(h:exs T d np b ⟨(σ.loc.set i (.int n)).set j (.str [c]),σ.P⟩ (.ok .next σ2))(k:fs T d np i j b cs (n+1) σ2 z):fs T d np i j b (c::cs) n σ z:=.mk ⟨and_l h0,and_r h0,_,@h.un,k.un⟩
theorem x_setI(h:ev T d e σ (.ok v σ'))(hP:σ'.P.lookup k=some (.dict es))(hkv:pe T σ' ke=some kv)(hf:findK kv es=some none)(hc:(v.nl&&self0 σ'&&(keyEq kv kv==some true))=true)(hl:es.length<200):ex T d np (.setI k ke e) σ (.ok .next ⟨σ'.loc,put k (.dict (es++[(kv,v)])) σ'.P⟩):=
 .mk (Xs.setI @h.un (and_l (and_l hc)) (self0_k (and_r (and_l hc))) hP hkv hf (beq_iff_eq.mp (and_r hc)) hl)
theorem x_delI(h0:self0 σ=true)(hP:σ.P.lookup k=some (.dict [(kv,v)]))(hkv:pe T σ ke=some kv)(hkk:keyEq kv kv=some true):ex T d np (.delI k ke) σ (.ok .next ⟨σ.loc,put k (.dict []) σ.P⟩):=.mk (Xs.delI (self0_k h0) hP hkv hkk)
theorem e_tupP{es:List E}(h:pes T σ es=some us)(n:(us.all V.nl&&us.length.ble 100)=true):ev T d (.tup es) σ (.ok (.tup us) σ):=by
 have:=e_tup (d:=d) (a_ps h) (by rw[pair_fst];exact and_l n) (by rw[List.length_map];exact Nat.le_trans (Nat.le_of_ble_eq_true (and_r n)) (by decide));rwa[pair_fst] at this
section
variable{T:Tb} {d np:Nat}
theorem x_a1{a0 x v:V}{l:List V}{P:Pt}{σ:St}{e:E}(h:ev T d e σ (.ok v ⟨a0::x::l,P⟩))(ok:okS np (a0::x::l) 1 v=true):ex T d np (.asg [1] e) σ (.ok .next ⟨a0::v::l,P⟩):=x_asg h ok
theorem x_a2{a0 a1 x v:V}{l:List V}{P:Pt}{σ:St}{e:E}(h:ev T d e σ (.ok v ⟨a0::a1::x::l,P⟩))(ok:okS np (a0::a1::x::l) 2 v=true):ex T d np (.asg [2] e) σ (.ok .next ⟨a0::a1::v::l,P⟩):=x_asg h ok
theorem x_a3{a0 a1 a2 x v:V}{l:List V}{P:Pt}{σ:St}{e:E}(h:ev T d e σ (.ok v ⟨a0::a1::a2::x::l,P⟩))(ok:okS np (a0::a1::a2::x::l) 3 v=true):ex T d np (.asg [3] e) σ (.ok .next ⟨a0::a1::a2::v::l,P⟩):=x_asg h ok
theorem x_a4{a0 a1 a2 a3 x v:V}{l:List V}{P:Pt}{σ:St}{e:E}(h:ev T d e σ (.ok v ⟨a0::a1::a2::a3::x::l,P⟩))(ok:okS np (a0::a1::a2::a3::x::l) 4 v=true):ex T d np (.asg [4] e) σ (.ok .next ⟨a0::a1::a2::a3::v::l,P⟩):=x_asg h ok
theorem x_a5{a0 a1 a2 a3 a4 x v:V}{l:List V}{P:Pt}{σ:St}{e:E}(h:ev T d e σ (.ok v ⟨a0::a1::a2::a3::a4::x::l,P⟩))(ok:okS np (a0::a1::a2::a3::a4::x::l) 5 v=true):ex T d np (.asg [5] e) σ (.ok .next ⟨a0::a1::a2::a3::a4::v::l,P⟩):=x_asg h ok
theorem x_a6{a0 a1 a2 a3 a4 a5 x v:V}{l:List V}{P:Pt}{σ:St}{e:E}(h:ev T d e σ (.ok v ⟨a0::a1::a2::a3::a4::a5::x::l,P⟩))(ok:okS np (a0::a1::a2::a3::a4::a5::x::l) 6 v=true):ex T d np (.asg [6] e) σ (.ok .next ⟨a0::a1::a2::a3::a4::a5::v::l,P⟩):=x_asg h ok
theorem x_a7{a0 a1 a2 a3 a4 a5 a6 x v:V}{l:List V}{P:Pt}{σ:St}{e:E}(h:ev T d e σ (.ok v ⟨a0::a1::a2::a3::a4::a5::a6::x::l,P⟩))(ok:okS np (a0::a1::a2::a3::a4::a5::a6::x::l) 7 v=true):ex T d np (.asg [7] e) σ (.ok .next ⟨a0::a1::a2::a3::a4::a5::a6::v::l,P⟩):=x_asg h ok
theorem x_a8{a0 a1 a2 a3 a4 a5 a6 a7 x v:V}{l:List V}{P:Pt}{σ:St}{e:E}(h:ev T d e σ (.ok v ⟨a0::a1::a2::a3::a4::a5::a6::a7::x::l,P⟩))(ok:okS np (a0::a1::a2::a3::a4::a5::a6::a7::x::l) 8 v=true):ex T d np (.asg [8] e) σ (.ok .next ⟨a0::a1::a2::a3::a4::a5::a6::a7::v::l,P⟩):=x_asg h ok
theorem x_a9{a0 a1 a2 a3 a4 a5 a6 a7 a8 x v:V}{l:List V}{P:Pt}{σ:St}{e:E}(h:ev T d e σ (.ok v ⟨a0::a1::a2::a3::a4::a5::a6::a7::a8::x::l,P⟩))(ok:okS np (a0::a1::a2::a3::a4::a5::a6::a7::a8::x::l) 9 v=true):ex T d np (.asg [9] e) σ (.ok .next ⟨a0::a1::a2::a3::a4::a5::a6::a7::a8::v::l,P⟩):=x_asg h ok
theorem x_a10{a0 a1 a2 a3 a4 a5 a6 a7 a8 a9 x v:V}{l:List V}{P:Pt}{σ:St}{e:E}(h:ev T d e σ (.ok v ⟨a0::a1::a2::a3::a4::a5::a6::a7::a8::a9::x::l,P⟩))(ok:okS np (a0::a1::a2::a3::a4::a5::a6::a7::a8::a9::x::l) 10 v=true):ex T d np (.asg [10] e) σ (.ok .next ⟨a0::a1::a2::a3::a4::a5::a6::a7::a8::a9::v::l,P⟩):=x_asg h ok
theorem x_a11{a0 a1 a2 a3 a4 a5 a6 a7 a8 a9 a10 x v:V}{l:List V}{P:Pt}{σ:St}{e:E}(h:ev T d e σ (.ok v ⟨a0::a1::a2::a3::a4::a5::a6::a7::a8::a9::a10::x::l,P⟩))(ok:okS np (a0::a1::a2::a3::a4::a5::a6::a7::a8::a9::a10::x::l) 11 v=true):ex T d np (.asg [11] e) σ (.ok .next ⟨a0::a1::a2::a3::a4::a5::a6::a7::a8::a9::a10::v::l,P⟩):=x_asg h ok
theorem x_a12{a0 a1 a2 a3 a4 a5 a6 a7 a8 a9 a10 a11 x v:V}{l:List V}{P:Pt}{σ:St}{e:E}(h:ev T d e σ (.ok v ⟨a0::a1::a2::a3::a4::a5::a6::a7::a8::a9::a10::a11::x::l,P⟩))(ok:okS np (a0::a1::a2::a3::a4::a5::a6::a7::a8::a9::a10::a11::x::l) 12 v=true):ex T d np (.asg [12] e) σ (.ok .next ⟨a0::a1::a2::a3::a4::a5::a6::a7::a8::a9::a10::a11::v::l,P⟩):=x_asg h ok
theorem x_a13{a0 a1 a2 a3 a4 a5 a6 a7 a8 a9 a10 a11 a12 x v:V}{l:List V}{P:Pt}{σ:St}{e:E}(h:ev T d e σ (.ok v ⟨a0::a1::a2::a3::a4::a5::a6::a7::a8::a9::a10::a11::a12::x::l,P⟩))(ok:okS np (a0::a1::a2::a3::a4::a5::a6::a7::a8::a9::a10::a11::a12::x::l) 13 v=true):ex T d np (.asg [13] e) σ (.ok .next ⟨a0::a1::a2::a3::a4::a5::a6::a7::a8::a9::a10::a11::a12::v::l,P⟩):=x_asg h ok
end
end
end Mine.Internal
end
section
open PySem PySem.W
namespace Mine.Internal
noncomputable def NAME:List Nat:=[60,117,110,105,99,111,100,101,32,115,116,114,105,110,103,62]
structure SS where
 ptr:Int
 idx:Int
 line:Int
 col:Int
 done:Bool
 toks:List V
 taken:Int
 ind:Int
 inds:List V
 ask:Bool
 psk:List (V×V)
noncomputable def SS.k(s:SS)(p:List (V×V)):SS:={s with psk:=p}
noncomputable def SS.a(s:SS)(a:Bool):SS:={s with ask:=a}
noncomputable def SS.t(s:SS)(ts:List V):SS:={s with toks:=ts}
structure QS where
 cur:V
 ver:V
 tags:V
 sts:List V
 marks:List V
 st:V
inductive SupX (T:Tb) (g f:Nat):Prop
 |mk {cc cda Dc:Addr}:SupOK T g f cc cda Dc→SupX T g f
structure Zk where
 t:Tz
 recs:RecsOK (T0 t)
 excs:ExcsOK (T0 t)
 par:PrOK (T0 t)
 fok:∀f,f<75→FnOK (T0 t) f
 sup0:SupX (T0 t) 0 8
 sup8:SupX (T0 t) 8 46
noncomputable abbrev TT(z:Zk):Tb:=T0 z.t
noncomputable def notL:V→Bool| .list _=>false|_=>true
noncomputable def enc(bf:List Nat)(s:SS)(q:QS):Pt:=[(1000,.none),(0,(.str NAME)),(1,.none),(2,(.int 0)),(3,(.bool true)),(4,(.str bf)),(5,(.int s.ptr)),(6,.none),(7,.none),(8,.none),(9,(.int s.idx)),(10,(.int s.line)),(11,(.int s.col)),(12,(.bool s.done)),(13,(.int 0)),(14,(.list s.toks)),(15,(.int s.taken)),(16,(.int s.ind)),(17,(.list s.inds)),(18,(.bool s.ask)),(19,(.dict s.psk)),(20,q.cur),(21,q.ver),(22,q.tags),(23,(.list q.sts)),(24,(.list q.marks)),(25,q.st)]
section
variable{T:Tb} {d f:Nat} {xs:List V} {P:Pt} {r:CR} {z:R Fl}
theorem run_to(h:exs T d (T.fn f).np (T.fn f).code ⟨locOf T f xs,P⟩ z)(hr:crOf (T.fn f).np z=r:=by exact rfl)(hx:xs.length=(T.fn f).np:=by exact rfl)
  (hc:∀{ns sc body},fitB T ns sc (T.fn f).code body=fitSs T ns sc (T.fn f).code body:=by exact rfl):run T (d+1) f xs P r:=hr▸run_of hx h hc
end
theorem d1{d:Nat}(h:1≤d):∃e,d=e+1:=⟨d-1,(Nat.succ_pred_eq_of_pos h).symm⟩
end Mine.Internal
end
section
open PySem PySem.W PySem.Calls PyProof.Rows
namespace Mine.Internal
noncomputable section
noncomputable def fnAt(K:Frag)(a:Addr)(ns:List Str):FnD:=fnD ((K.lookup a).getD ⟨.none,none,.plain,#[]⟩) ns
noncomputable def fdOk(fd:FuncData):Bool:=(match fd.body with| .stmts _=>true|_=>false)&&fd.globals==mainGlobals&&fd.builtins==builtinsNs
noncomputable def lies:Option Obj→Bool
 |none=>false
 |some o=>match o.data with| .func fd=>fdOk fd|_=>false
theorem lies_k{o:Option Obj}{ns:List Str}(h:lies o=true):o=some (fnD (o.getD ⟨.none,none,.plain,#[]⟩) ns).fo∧(fnD (o.getD ⟨.none,none,.plain,#[]⟩) ns).fo.data= .func (fnD (o.getD ⟨.none,none,.plain,#[]⟩) ns).fd:=by
 cases o with
 |none=>exact absurd h Bool.false_ne_true
 |some o=>
  obtain⟨c,d,D,sl⟩:=o;cases D with
  |func fd=>
   obtain⟨a1,a2,a3,b,a5,g,a7,a8,a9,a10,a11,a12,a13,a14,bl⟩:=fd;have h:fdOk _=true:=h;cases b with
   |stmts b=>
    obtain rfl:=beq_iff_eq.mp (and_r h);obtain rfl:=beq_iff_eq.mp (and_r (and_l h));exact⟨rfl,rfl⟩
   |_=>exact absurd h Bool.false_ne_true
  |_=>exact absurd h Bool.false_ne_true
noncomputable def vtok:Value→Tok
 | .int _ t=>t
 | .str _ t=>t
 |_=>0
noncomputable def rn0(u:V)(v:Value):Bool:=match u with
 | .any=>handedIn v
 | .none=>v== .none
 | .bool b=>v== .bool b
 | .int i=>v== .int i (vtok v)
 | .str l=>v== .str ⟨l.toArray⟩ (vtok v)&&Nat.ble l.length 1000
 | .glob a=>v== .ref a
 |_=>false
theorem le_SZ{n:Nat}(h:Nat.ble n 1000=true):n≤SZ:=Nat.le_trans (Nat.le_of_ble_eq_true h) (Nat.le_of_ble_eq_true rfl)
theorem rn0_ok{T:Tb}{bk:Bk}{u:V}{v:Value}(h:rn0 u v=true):RN T bk u v∧u.nl=true:=by
 cases u with
 |any=>exact⟨h,rfl⟩
 |none=>exact⟨beq_iff_eq.mp h,rfl⟩
 |bool b=>exact⟨beq_iff_eq.mp h,rfl⟩
 |int i=>exact⟨⟨_,beq_iff_eq.mp h⟩,rfl⟩
 |str l=>exact⟨⟨_,beq_iff_eq.mp (and_l h),le_SZ (and_r h)⟩,rfl⟩
 |glob a=>exact⟨beq_iff_eq.mp h,rfl⟩
 |_=>exact absurd h Bool.false_ne_true
noncomputable def dr0:List (Option V)→List (Option Value)→Bool
 |[],l=>l.isEmpty
 |U::Us,l=>match l with|[]=>false|v::vs=>(match U with|none=>v.isNone|some u=>v.any (rn0 u))&&dr0 Us vs
theorem dr0_ok{T:Tb}{Us:List (Option V)}:∀{vs},dr0 Us vs=true→All2 (DR1 T) Us vs:=by
 induction Us with
 |nil=>exact fun{vs}h=>nil_k (l:=vs) h▸ .nil
 |cons U Us ih=>
  intro vs h;cases vs with
  |nil=>exact absurd h Bool.false_ne_true
  |cons v vs=>
   refine .cons ?_ (ih (and_r h));cases U with
   |none=>exact none_of (o:=v) (and_l h)▸ .no
   |some u=>
    obtain⟨x,rfl,hx⟩:=any_some (and_l h);exact .ok (fun bk=>(rn0_ok hx).1) (rn0_ok (T:=T) (bk:=⟨[],none,fun y0_=>none⟩) hx).2
noncomputable def seqs:Option Obj→Option (List Value)
 |some o=>(match o.data with| .seq items k=>some items.toList|_=>none)
 |none=>none
theorem seqs_k{o:Option Obj}{l:List Value}(h:seqs o=some l):∃b k,o=some b∧b.data= .seq l.toArray k:=by
 cases o with
 |none=>exact nomatch h
 |some o=>
  obtain⟨c,d,D,sl⟩:=o;cases D with
  |seq items k=>exact⟨_,k,rfl,congrArg (Data.seq · k) (congrArg List.toArray (Option.some.inj h))⟩
  |_=>exact nomatch h
noncomputable def dsOf(K:Frag)(v:Value):Option (List Value):=match v with
 | .none=>some []
 | .ref a=>seqs (K.lookup a)
 |_=>none
noncomputable def dfChk(K:Frag)(n:Nat)(Us:List (Option V))(v:Value):Bool:=(dsOf K v).any fun l=>Nat.ble l.length n&&dr0 Us (List.replicate (n-l.length) none++l.map some)
theorem df_of{T:Tb}{D:FnD}{n:Nat}{Us:List (Option V)}(h:dfChk T.K n Us D.dV=true):DfR T D n Us:=by
 obtain⟨l,e,h⟩:=any_some h;have h2:=dr0_ok (T:=T) (and_r h);have h1:=Nat.le_of_ble_eq_true (and_l h);cases ev:D.dV with
 |none=>
  rw[ev] at e;cases e;exact .no ev (List.append_nil (List.replicate n none)▸h2)
 |ref a=>
  rw[ev] at e;obtain⟨b,k,ho,hd⟩:=seqs_k e;exact .ok ev ho hd h1 h2
 |_=>rw[ev] at e;exact nomatch e
noncomputable def fnC(T:Tb)(f:Nat)(o:Option Obj)(D:FnD):Bool:=lies o&&fnChk T.K D (pnames T f)&&(T.fn f).pn.length==(T.fn f).np&&D.ns.length==(T.fn f).nl&&dfChk T.K (T.fn f).pn.length (T.fn f).defs D.dV&&fitB T D.ns D.scope (T.fn f).code D.body
theorem fn_of{T:Tb}{f:Nat}{ns:List Str}(e:T.fd f=fnAt T.K (T.fa f) ns)(h:fnC T f (T.K.lookup (T.fa f)) (fnAt T.K (T.fa f) ns)=true):FnOK T f:=by
 have l:=lies_k (ns:=ns) (and_l (and_l (and_l (and_l (and_l h)))));have g:=fnG_of (T:=T) (D:=fnAt T.K (T.fa f) ns) l.1 l.2 (and_r (and_l (and_l (and_l (and_l h)))));rw[←e] at g h;exact⟨g,beq_iff_eq.mp (and_r (and_l (and_l (and_l h)))),beq_iff_eq.mp (and_r (and_l (and_l h))),df_of (and_r (and_l h)),and_r h⟩
noncomputable def initAt(K:Frag)(C:Addr):Addr:=match findIn K (.ref C) "__init__" with|some (some (.ref a))=>a|_=>0
variable(w:World) (P:Params) (X:Frag)
noncomputable def KK:Frag:=MineH.Kf P++X
noncomputable def tz:Tz:=⟨MineH.pw,w,KK P X,fun f=>fnAt (KK P X) (faT f) (lcT.getD f []),initAt (KK P X),fun C=>fnAt (KK P X) (initAt (KK P X) C) ((27::(flT C).elim [] (·.1)).map anT)⟩
noncomputable abbrev TK:Tb:=T0 (tz w P X)
theorem all_lt{p:Nat→Bool}{n:Nat}(h:(List.range n).all p=true){k:Nat}(hk:k<n):p k=true:=List.all_eq_true.mp h k (List.mem_range.mpr hk)
theorem fok{f:Nat}(h:f<77):FnOK (TK w P X) f:=fn_of rfl (all_lt (n:=77) (p:=fun f=>fnC (TK w P X) f ((TK w P X).K.lookup (faT f)) (fnAt (TK w P X).K (faT f) (lcT.getD f []))) (by kernel_rfl) h)
end
end Mine.Internal
end
section
open PySem PySem.W PySem.Calls PyProof.Rows
namespace Mine.Internal
noncomputable section
noncomputable def invT(s:Str):Nat:=bif s.cps.toList.headD 0==1 then s.cps.toList.getD 1 0 else nmT.idxOf s
theorem an_inv(i:Nat):invT (anT i)=i:=(Nat.lt_or_ge i 175).elim (fun h=>beq_iff_eq.mp (all_lt (n:=175) (p:=fun i=>invT (anT i)==i) (by kernel_rfl) h)) fun h=>by
 obtain⟨n,rfl⟩:=Nat.exists_eq_add_of_le' h;rfl
noncomputable def exOf(o:Option Obj):List ((Str×Tok)×Value):=match o with
 |some ⟨_,_,.dict es _,_⟩=>es.toList.map fun e=>((match e.key with| .str x _=>x|_=>⟨#[]⟩,vtok e.key),e.val)
 |_=>[]
theorem str_dict{prog:Program}{w:World}(ex:List ((Str×Tok)×Value))(n:Nat)(hn:decide (ex.map (·.1.1)).Nodup=true):(⟨.type "dict",none,.dict (ex.map fun x=>(⟨PyData.keyHash w.params x.1.1,.str x.1.1 x.1.2,x.2⟩:DictEntry)).toArray n,#[]⟩:Obj).IsDictOf (PySem.strKind prog w) (ex.map fun x=>(x.1.1,x.2)):=
 ⟨_,n,⟨rfl,rfl,rfl⟩,rfl,fun e he=>let⟨x,_,q⟩:=List.mem_map.mp (List.mem_toArray.mp he);q▸⟨x.1.1,strKind_is prog w _ _,rfl⟩,
  List.rec (motive:=fun ex=>Pairs (PySem.strKind prog w) (ex.map fun(x:(Str×Tok)×Value)=>(⟨PyData.keyHash w.params x.1.1,.str x.1.1 x.1.2,x.2⟩:DictEntry)) (ex.map fun(x:(Str×Tok)×Value)=>(x.1.1,x.2))) .nil (fun y0_ y1_ ih=>.cons (strKind_is prog w _ _) rfl ih) ex,List.map_map.symm▸of_decide_eq_true hn⟩
noncomputable def strV(x:Str):V→Bool
 | .str l=>l==x.cps.toList
 |_=>false
theorem strV_k{x:Str}{u:V}(h:strV x u=true): .str x.cps.toList=u:=by
 cases u with
 |str l=>exact congrArg V.str (beq_iff_eq.mp h).symm
 |_=>exact absurd h Bool.false_ne_true
noncomputable def rdC:List (V×V)→List ((Str×Tok)×Value)→Bool
 |[],l=>l.isEmpty
 |p::us,l=>match l with|[]=>false|x::l=>(strV x.1.1 p.1&&rn0 p.2 x.2)&&rdC us l
theorem rd_of{T:Tb}{bk:Bk}{Es:List (V×V)}:∀{l},rdC Es l=true→RD T bk Es ((l.map fun x=>(x.1.1,x.2)).map fun p=>(.str p.1.cps.toList,p.2)):=by
 induction Es with
 |nil=>exact fun{l}h=>nil_k (l:=l) h▸rfl
 |cons p us ih=>
  intro l h;cases l with
  |nil=>exact absurd h Bool.false_ne_true
  |cons x l=>exact⟨_,_,rfl,⟨strV_k (and_l (and_l h)),(rn0_ok (and_r (and_l h))).1⟩,ih (and_r h)⟩
noncomputable def rnsC:List V→List Value→Bool
 |[],l=>l.isEmpty
 |u::us,l=>match l with|[]=>false|x::l=>rn0 u x&&rnsC us l
theorem rns_of{T:Tb}{bk:Bk}{us:List V}:∀{l},rnsC us l=true→RNs T bk us l:=by
 induction us with
 |nil=>exact fun{l}h=>nil_k (l:=l) h
 |cons p us ih=>
  intro l h;cases l with
  |nil=>exact absurd h Bool.false_ne_true
  |cons x l=>exact⟨_,_,rfl,(rn0_ok (and_l h)).1,ih (and_r h)⟩
theorem sd_of{T:Tb}{bk:Bk}{Es:List (V×V)}{a n:Nat}{ex:List ((Str×Tok)×Value)}(h0:T.K.lookup a=some ⟨.type "dict",none,.dict (ex.map fun x=>(⟨PyData.keyHash T.w.params x.1.1,.str x.1.1 x.1.2,x.2⟩:DictEntry)).toArray n,#[]⟩)(h:(Nat.ble Es.length 200&&Nat.ble 2 a&&decide (ex.map (·.1.1)).Nodup&&rdC Es ex)=true):RN T bk (.sdict Es) (.ref a):=
 ⟨Nat.le_of_ble_eq_true (and_l (and_l (and_l h))),_,rd_of (and_r h),.mk (Nat.le_of_ble_eq_true (and_r (and_l (and_l h)))) h0 (str_dict _ _ (and_r (and_l h)))⟩
noncomputable def clsD(o:Obj):ClassData:=match o.data with| .cls cd=>cd|_=>default
noncomputable abbrev excFix(C:Addr)(o:Obj):Obj:=excClassObj (clsD o).name (clsD o).qualname C (clsD o).ns (clsD o).bases (clsD o).mro.tail true (clsD o).slotNames (clsD o).subclasses (clsD o).abstract (clsD o).collection o.dict (o.slots.getD 0 none) (o.slots.getD 1 none) (o.slots.getD 2 none) (o.slots.getD 3 none) (o.slots.getD 5 none) "Exception.__new__"
noncomputable abbrev obA(K:Frag)(a:Addr):Obj:=(K.lookup a).getD ⟨.none,none,.plain,#[]⟩
noncomputable def recC(T:Tb)(C:Addr)(fs:List Nat)(ds:List (Option V)):Bool:=lies (T.K.lookup (T.rd C).fI)&&fnChk T.K (T.rd C).D (((T.rd C).me::fs).map T.an)&&dfChk T.K ((T.rd C).me::fs).length (none::ds) (T.rd C).D.dV&&keepIn T.K (.ref C)&&(findIn T.K (.ref C) "__init__"==some (some (.ref (T.rd C).fI)))&&isFn T.K (.ref (T.rd C).fI)&&fitR T (T.an (T.rd C).me) fs (T.rd C).D.body&&
 (findIn T.K (.ref C) "__setattr__"==some (some (.builtin "object.__setattr__")))&&overAny T.K C&&hasDictIn T.K C&&fs.all (fun k=>takerIn T.K C (T.an k)==some none&&fieldAt T.K C (T.an k))&&Nat.ble fs.length 100&&decide ((T.rd C).me::fs).Nodup
theorem rec_of{T:Tb}{C:Addr}{fs:List Nat}{ds:List (Option V)}{ns:List Str}(e:(T.rd C).D=fnAt T.K (T.rd C).fI ns)(h:recC T C fs ds=true):RecB T C fs ds:=
 have h12:=and_l h;have h11:=and_l h12;have h10:=and_l h11;have h9:=and_l h10;have h8:=and_l h9;have h7:=and_l h8;have h6:=and_l h7;have h5:=and_l h6;have h4:=and_l h5;have h3:=and_l h4;have h2:=and_l h3;have l:=lies_k (ns:=ns) (and_l h2);have g:=fnG_of (T:=T) (D:=fnAt T.K (T.rd C).fI ns) l.1 l.2 (e▸and_r h2)
 ⟨e▸g,df_of (and_r h3),and_r h4,beq_iff_eq.mp (and_r h5),and_r h6,and_r h7,beq_iff_eq.mp (and_r h8),and_r h9,and_r h10,fun k hk=>beq_iff_eq.mp (and_l (List.all_eq_true.mp (and_r h11) k hk)),fun k hk=>and_r (List.all_eq_true.mp (and_r h11) k hk),Nat.le_of_ble_eq_true (and_r h12),of_decide_eq_true (and_r h)⟩
noncomputable def caC(T:Tb)(C:Addr)(x:Nat)(p:Value→Bool):Bool:=(findIn T.K (.ref C) (T.an x)).any fun a=>a.any fun a=>(typeIn T.K (.ref C)).any fun mc=>(findIn T.K (.ref C) (T.an x)==some (some a))&&(typeIn T.K (.ref C)==some mc)&&handedIn a&&p a&& !copiedNames.contains (T.an x)&&plainGet T.K C (T.an x)&&hasDictIn T.K C&&specialIn T.K a "__get__"==some none&&readsIn T.K C mc&&(match findCls T.K (.ref C) mc (T.an x) with|some (.val b)=>b==a|_=>false)
set_option tactic.hygienic true in
theorem ca_of{T:Tb}{C:Addr}{x:Nat}{u:V}(p:Value→Bool)(hp:∀a,p a=true→(∀bk,RN T bk u a)∧u.nl=true)(h:caC T C x p=true):∃a mc,CaOk T C x u a mc:=by
 obtain⟨a,_,h⟩:=any_some h;obtain⟨a,_,h⟩:=any_some h;obtain⟨mc,_,h⟩:=any_some h;have h8:=and_l h;have h7:=and_l h8;have h6:=and_l h7;have h5:=and_l h6;have h4:=and_l h5;have h3:=and_l h4;have h2:=and_l h3;have h1:=and_l h2;refine⟨a,mc,and_r h2,(hp a (and_r h3)).1,(hp a (and_r h3)).2,not_r (and_r h4),and_r h5,and_r h6,beq_iff_eq.mp (and_l h1),beq_iff_eq.mp (and_r h7),beq_iff_eq.mp (and_r h1),and_r h8,?_⟩;have h:=and_r h;split at h
 ·rename_i b e;rw[e,beq_iff_eq.mp h]
 ·exact absurd h Bool.false_ne_true
noncomputable def msC(T:Tb)(k f:Nat):Bool:=plainGet T.K T.CP (T.an k)&&hasDictIn T.K T.CP&&findIn T.K (.ref T.CP) (T.an k)==some (some (.ref (T.fa f)))&&isFn T.K (.ref (T.fa f))&&specialIn T.K (.ref (T.fa f)) "__get__"==some (some (.builtin "function.__get__"))&&takesIn T.K (.ref (T.fa f))==some false&& !copiedNames.contains (T.an k)&& !T.pf k&&Nat.ble (f+1) 77
theorem ms_of{T:Tb}{k f:Nat}(h:msC T k f=true):MsOk T k f:=
 have h7:=and_l h;have h6:=and_l h7;have h5:=and_l h6;have h4:=and_l h5;have h3:=and_l h4;have h2:=and_l h3;have h1:=and_l h2
 ⟨and_l h1,and_r h1,beq_iff_eq.mp (and_r h2),and_r h3,beq_iff_eq.mp (and_r h4),beq_iff_eq.mp (and_r h5),not_r (and_r h6),not_r (and_r h7)⟩
noncomputable def sbC(T:Tb)(c d:Addr):Bool:=(kitOne T.K (.ref c) (.ref d)==some (c==d))&&plainGet T.K c "__class__"&&hasDictIn T.K c&&findIn T.K (.ref c) "__class__"==some (some (.builtin "object.__class__"))&&specialIn T.K (.builtin "object.__class__") "__get__"==some (some (.builtin "getset_descriptor.__get__"))&&takesIn T.K (.builtin "object.__class__")==some true&&mroIn T.K c (.type "object")==some true
theorem sb_of{T:Tb}{c d:Addr}(h:sbC T c d=true):SbOk T c d (c==d):=
 have h5:=and_l h;have h4:=and_l h5;have h3:=and_l h4;have h2:=and_l h3;have h1:=and_l h2
 ⟨beq_iff_eq.mp (and_l h1),and_r h1,and_r h2,beq_iff_eq.mp (and_r h3),beq_iff_eq.mp (and_r h4),beq_iff_eq.mp (and_r h5),beq_iff_eq.mp (and_r h)⟩
theorem sp_of{s:List Nat}{ws:List (List Nat)}(h:(Txt.split ⟨s.toArray⟩ ⟨#[32]⟩==ws.map (fun w=>(⟨w.toArray⟩:Str))&&Nat.ble (s.length+2) sizeLine&&Nat.ble ws.length 1000&&ws.all fun w=>Nat.ble w.length 1000)=true):SpOk s ws:=
 have h2:=and_l h;have h1:=and_l h2
 ⟨beq_iff_eq.mp (and_l h1),Nat.le_of_ble_eq_true (and_r h1),le_SZ (and_r h2),fun w hw=>le_SZ (List.all_eq_true.mp (and_r h) w hw)⟩
variable(w:World) (P:Params) (X:Frag)
theorem exc3:xcT.map (fun C=>(TK w P X).K.lookup C)=xcT.map fun C=>some (excFix C (obA (TK w P X).K C)):=by kernel_rfl
theorem recs_:(flL.all fun p=>recC (TK w P X) p.1 p.2.1 p.2.2&&(bif xcT.contains p.1 then onlyExc (clsD (obA (TK w P X).K p.1)).mro.tail else makesIn (TK w P X).K p.1))=true:=by kernel_rfl
theorem recs_all:RecsOK (TK w P X):=@fun C fs ds h hx=>
 have g:=List.all_eq_true.mp (recs_ w P X) _ (lk_mem (show flL.lookup C=some (fs,ds) from h))
 ⟨rec_of rfl (and_l g),(congrArg (fun b=>(bif b then _ else makesIn (TK w P X).K C)=true) hx).mp (and_r g)⟩
theorem excs_all:ExcsOK (TK w P X):=@fun C fs ds h hx=>
 have g:=List.all_eq_true.mp (recs_ w P X) _ (lk_mem (show flL.lookup C=some (fs,ds) from h))
 ⟨rec_of rfl (and_l g),.mk (List.map_inj_left.mp (exc3 w P X) C (List.contains_iff_mem.mp hx)) ((congrArg (fun b=>(bif b then onlyExc (clsD (obA (TK w P X).K C)).mro.tail else _)=true) hx).mp (and_r g))⟩
theorem sup8_:SupX (TK w P X) 0 8:=.mk (cc:=771) (cda:=782) (Dc:=1281)
 {cl:=by kernel_rfl,cdv:=by kernel_rfl,code:=⟨_,_,_,_,_,_,(by kernel_rfl:(TK w P X).K.lookup 782=some (MineH.k782 P)),rfl,by kernel_rfl⟩,cell:=⟨_,_,_,(by kernel_rfl:(TK w P X).K.lookup 771=some (MineH.k771 P))⟩,cls:=Option.isSome_iff_exists.mp (by kernel_rfl),sub:=by kernel_rfl,ks:=by kernel_rfl,kc:=by kernel_rfl,nosup:=by kernel_rfl,third:=by kernel_rfl,find:=by kernel_rfl,fn:=by kernel_rfl,ar:=⟨_,rfl,by kernel_rfl⟩}
theorem sup46_:SupX (TK w P X) 8 46:=.mk (cc:=1299) (cda:=1311) (Dc:=1521)
 {cl:=by kernel_rfl,cdv:=by kernel_rfl,code:=⟨_,_,_,_,_,_,(by kernel_rfl:(TK w P X).K.lookup 1311=some (MineH.k1311 P)),rfl,by kernel_rfl⟩,cell:=⟨_,_,_,(by kernel_rfl:(TK w P X).K.lookup 1299=some (MineH.k1299 P))⟩,cls:=Option.isSome_iff_exists.mp (by kernel_rfl),sub:=by kernel_rfl,ks:=by kernel_rfl,kc:=by kernel_rfl,nosup:=by kernel_rfl,third:=by kernel_rfl,find:=by kernel_rfl,fn:=by kernel_rfl,ar:=⟨_,rfl,by kernel_rfl⟩}
end
end Mine.Internal
end
section
open PySem PySem.W PySem.Calls PyProof.Rows Builtin Builtin.Str
set_option maxHeartbeats 0
namespace Mine.Internal
theorem reprUnder_str{prog:Program}{w:World}{A:Around}{E:Value→Shared→Prop}{s:Shared}{b:Nat}{x:PySem.Str}{t:Tok}{Q:Value→Shared→Prop}(hx:(reprText x).length≤sizeLine)(h:Q (.str (reprText x) s.toks) {s with toks:=s.toks+1}):
  wpAny (model prog w) A (pyReprObjUnder b (.str x t)) Q E s:=by
 have hv:[Value.str x t].any Value.onHeap=false:=rfl;have htw:reprUnder? (.builtin "str.__repr__")=none:=by first|rfl|decide+kernel|simp[reprUnder?]
 unfold pyReprObjUnder pyReprObjBy;simp only[cRoomFor,hv,Bool.false_eq_true,if_false,pure_bind];refine wpAny_bind (wpAny_specialOf (name:=Str.ofString "__repr__") (typeIs_str s x t) F.slot_str_repr.lookup ?_);refine wpAny_bind (wpAny_callSpecialIfBoundBy?_slotG (name:=Str.ofString "__repr__") (typeIs_str s x t) F.slot_str_repr.toG ?_);simp only[htw];refine call_gives F.slot_str_repr (typeIs_str s x t) F.entry_str_repr (F.args_str_repr_1 _) (gives_str_repr x t) ⟨hx,?_⟩;exact wpAny_bind (wpAny_isInstance (T:="str") (b:=true) rfl isSubtype_str_str (wpAny_pure h))
theorem pct_r(F:PySem.Str)(lit:List Nat)(n:Nat)(hn:F.length=n+3)(hs:F.cps.toList.span (· !=37)=(lit,[37,114]))(he:lit.isEmpty=false)(hl:(lit.length==F.length)=false)(hk:lit.length≤100)(t u:Tok)(z:PySem.Str)(hz:(reprText z).length≤1000000):∃T:PySem.Str,Meets («str.__mod__» ⟨[.str F t,.str z u],[]⟩) (fun y0_ R s=>∀t' k,R (.ok (.ret (.str T t'))) {s with toks:=k}):=by
 refine⟨⟨lit.toArray⟩++reprText z,?_⟩;apply KPc.meets_of;intro _ _ _ _ _ _ _;rw[KPc.entry_is_s];unfold Builtin.Str.percentFormat;refine wpAny_bind (wpAny_isInstance (typeIs_str _ _ _) PySem.F.sub_str_tuple ?_);refine wpAny_bind (wpAny_of_eq (a:=some _) rfl ?_);refine wpAny_bind (KPc.wp_fills_str ?_);intro _
 kpc_if
 refine wpAny_bind (wpAny_pure ?_);refine wpAny_bind ?_;rw[KPc.range_list,hn];refine KPc.start ?_;intro w0 g0;refine KPc.turn ?_;have hne:¬F.cps.toList.isEmpty=true:=fun e=>by
  rw[List.isEmpty_iff.mp e] at hs;rw[←(Prod.mk.inj hs).1] at he;cases he
 kpc_check
 refine wpAny_ite (KPc.ite_no hne ?_);rw[hs];refine wpAny_ite (KPc.ite_yes (by rw[he];rfl) ?_);refine wpAny_pure ?_;refine KPc.after_add0 g0 rfl (KPc.obj_none (if_neg (by rw[←hn,hl];exact Bool.false_ne_true))) fun w1 g1=>?_;refine KPc.turn ?_;refine wpAny_ite (KPc.ite_no (KPc.short_good g1 (Nat.le_trans (Nat.add_le_add_left hk 0) (by decide))) ?_)
 (repeat kpc_if)
 refine wpAny_bind ?_;refine wpAny_holding ?_;(repeat kpc_if);refine wpAny_bind (reprUnder_str (by rw[sizeLine_eq];exact Nat.le_trans hz (by decide)) ?_);refine wpAny_bind (wpAny_of_eq (a:=some _) rfl ?_);refine wpAny_pure ?_;refine wpAny_pure ?_;refine KPc.after_str g1 hz (KPc.obj_some rfl) fun w2 g2=>?_;refine KPc.turn ?_;have hb:0+(⟨lit.toArray⟩:PySem.Str).length+1000000≤16777216:=Nat.le_trans (Nat.add_le_add_right (Nat.add_le_add_left hk 0) _) (by decide);refine wpAny_ite (KPc.ite_no (KPc.short_good g2 hb) ?_)
 (repeat kpc_if)
 refine wpAny_pure ?_
 kpc_if
 refine KPc.finish_ok g2 hb rfl ?_;assumption
theorem pct_s0(t u:Tok):∃T:PySem.Str→PySem.Str,∀z:PySem.Str,z.length≤1000000→Meets («str.__mod__» ⟨[.str ⟨#[119,104,105,108,101,32,112,97,114,115,105,110,103,32,97,32,37,115,32,110,111,100,101]⟩ t,.str z u],[]⟩) (fun y0_ R s=>∀t' k,R (.ok (.ret (.str (T z) t'))) {s with toks:=k}):=by
 apply Exists.intro
 kpc_run_s
end Mine.Internal
end
section
open PySem PySem.W PySem.Calls PyProof.Rows
namespace Mine.Internal
noncomputable section
variable(w:World) (X:Frag)
theorem rn0_all{T:Tb}{u:V}{v:Value}(h:rn0 u v=true):(∀bk,RN T bk u v)∧u.nl=true:=⟨fun bk=>(rn0_ok h).1,(rn0_ok (T:=T) (bk:=⟨[],none,fun y0_=>none⟩) h).2⟩
theorem sd1(bk:Bk):RN (TK w w.params X) bk (.sdict [((.str [33]),(.str [33])),((.str [33,33]),(.str [116,97,103,58,121,97,109,108,46,111,114,103,44,50,48,48,50,58]))]) (.ref 1304):=sd_of (n:=2) (ex:=exOf ((TK w w.params X).K.lookup 1304)) (by kernel_rfl) (by kernel_rfl)
theorem sd2(bk:Bk):RN (TK w w.params X) bk (.sdict [((.str [45]),(.int 2)),((.str [107,101,121]),(.int 6)),((.str [63]),(.int 2)),((.str [58]),(.int 2)),((.str [115]),(.int 3)),((.str [98]),(.int 3)),((.str [38]),(.int 2)),((.str [33]),(.int 2))]) (.ref 1539):=sd_of (n:=8) (ex:=exOf ((TK w w.params X).K.lookup 1539)) (by kernel_rfl) (by kernel_rfl)
theorem sl1(bk:Bk):RN (TK w w.params X) bk (.slist [(.str [63]),(.str [58]),(.str [101,110,100])]) (.ref 1538):=⟨le_SZ rfl,_,rns_of (l:=((seqs ((TK w w.params X).K.lookup 1538)).getD [])) (by kernel_rfl),.mk (n:=0) (by kernel_rfl)⟩
theorem caX_:caX=[((1521,103),(.sdict [((.str [33]),(.str [33])),((.str [33,33]),(.str [116,97,103,58,121,97,109,108,46,111,114,103,44,50,48,48,50,58]))]))]:=rfl
theorem ca1:∀p∈caL,caC (TK w w.params X) p.1.1 p.1.2 (rn0 p.2)=true:=List.all_eq_true.mp (by kernel_rfl)
theorem ca_all{C:Addr}{x:Nat}{u:V}(h:caT C x=some u):∃a mc,CaOk (TK w w.params X) C x u a mc:=by
 have h:(caX++caL).lookup (C,x)=some u:=h;rcases List.mem_append.mp (lk_mem h) with h|h
 ·rw[caX_] at h;cases List.mem_singleton.mp h;exact ca_of (· == .ref 1304) (fun a q=>by
   cases beq_iff_eq.mp q;exact⟨fun bk=>sd1 w X bk,rfl⟩) (by kernel_rfl)
 ·exact ca_of (T:=TK w w.params X) (C:=C) (x:=x) (rn0 u) (fun a q=>rn0_all q) (ca1 w X ((C,x),u) h)
set_option tactic.hygienic true in
theorem tb_ok:TbOK (TK w w.params X) where
 inj a b h:=(an_inv a).symm.trans ((congrArg invT h).trans (an_inv b))
 pf x h:=all_lt (n:=26) (p:=fun x=>fieldOk (TK w w.params X).K 1521 (anT x)) (by kernel_rfl) (of_decide_eq_true h)
 pf1000 x h:=Nat.lt_trans (of_decide_eq_true h) (Nat.le_of_ble_eq_true rfl)
 ca C x u h:=ca_all w X h
 gv x u h:=(List.mem_append.mp (lk_mem (l:=gvX++gvL) (show gvT x=some u from h))).elim (fun h=>(List.mem_cons.mp h).elim (fun h=>by
   cases h;exact⟨rfl,.ref 1539,by kernel_rfl,sd2 w X⟩) fun h=>by
   cases List.mem_singleton.mp h;exact⟨rfl,.ref 1538,by kernel_rfl,sl1 w X⟩)
  fun h=>by
   obtain⟨v,e,q⟩:=any_some (List.all_eq_true.mp (by kernel_rfl:gvL.all (fun p=>(nsIn (TK w w.params X).K mainGlobals (anT p.1)).any fun v=>v.any (rn0 p.2))=true) _ h);obtain⟨v,rfl,q⟩:=any_some q;exact⟨(rn0_all (T:=TK w w.params X) q).2,v,e,(rn0_all q).1⟩
 blt n hn:=beq_iff_eq.mp (List.all_eq_true.mp (by kernel_rfl:(["len","chr","max","min","isinstance","str","list","super","enumerate"]:List Str).all (fun n=>nsIn (TK w w.params X).K mainGlobals n==some none)=true) n hn)
 sb C D b h:=by
  have h:(if evT.contains C&&evT.contains D then some (C==D) else none)=some b:=h;split at h
  ·rename_i q;cases h;exact sb_of (List.all_eq_true.mp (List.all_eq_true.mp (by kernel_rfl:evT.all (fun c=>evT.all fun d=>sbC (TK w w.params X) c d)=true) C (List.contains_iff_mem.mp (and_l q))) D (List.contains_iff_mem.mp (and_r q)))
  ·exact nomatch h
 sp s ws h:=sp_of (List.all_eq_true.mp (by kernel_rfl:spT.all (fun p=>(Txt.split ⟨p.1.toArray⟩ ⟨#[32]⟩==p.2.map (fun w=>(⟨w.toArray⟩:Str))&&Nat.ble (p.1.length+2) sizeLine&&Nat.ble p.2.length 1000&&p.2.all fun w=>Nat.ble w.length 1000))=true) (s,ws) (lk_mem h))
 ms k f h:=ms_of (List.all_eq_true.mp (by kernel_rfl:msT.all (fun p=>msC (TK w w.params X) p.1 p.2)=true) (k,f) h)
theorem pc_all{s t:List Nat}(h:(pcA.contains s&&pcB.contains t)=true):PctOK s t:=by
 have hl:=Nat.le_of_ble_eq_true (List.all_eq_true.mp (by kernel_rfl:pcB.all (fun t=>Nat.ble t.length 1000000)=true) t (List.contains_iff_mem.mp (and_r h)));have hr:=Nat.le_of_ble_eq_true (List.all_eq_true.mp (by kernel_rfl:pcB.all (fun t=>Nat.ble (reprText ⟨t.toArray⟩).length 1000000)=true) t (List.contains_iff_mem.mp (and_r h)));have h1:=List.contains_iff_mem.mp (and_l h);simp only[pcA,List.mem_cons,List.not_mem_nil,or_false] at h1;intro tk u;rcases h1 with rfl|rfl|rfl|rfl
 ·exact pct_r _ (List.take 39 (pcA.getD 0 [])) 38 rfl (by kernel_rfl) rfl rfl (Nat.le_of_ble_eq_true rfl) tk u _ hr
 ·obtain⟨Z,hX⟩:=pct_s0 tk u;exact⟨_,hX _ hl⟩
 ·exact pct_r _ (List.take 37 (pcA.getD 2 [])) 36 rfl (by kernel_rfl) rfl rfl (Nat.le_of_ble_eq_true rfl) tk u _ hr
 ·exact pct_r _ (List.take 32 (pcA.getD 3 [])) 31 rfl (by kernel_rfl) rfl rfl (Nat.le_of_ble_eq_true rfl) tk u _ hr
theorem fs_:(fsT.all fun p=>nsIn (TK w w.params X).K mainGlobals (anT p.1)==some (some (.ref (faT p.2)))&&Nat.ble (p.2+1) 77)=true:=by kernel_rfl
theorem tb_x:TbX (TK w w.params X) where
 toTbOK:=tb_ok w X
 pct s t:=pc_all
 fok k f h:=fok w w.params X (h.elim (fun h=>Nat.le_of_ble_eq_true (and_r (List.all_eq_true.mp (by kernel_rfl:msT.all (fun p=>msC (TK w w.params X) p.1 p.2)=true) (k,f) h))) fun h=>Nat.le_of_ble_eq_true (and_r (List.all_eq_true.mp (fs_ w X) (k,f) h)))
 fsr k f h:=beq_iff_eq.mp (and_l (List.all_eq_true.mp (fs_ w X) (k,f) h))
 nocls k h:=beq_iff_eq.mp (all_lt (p:=fun k=>findIn (TK w w.params X).K (.ref 1521) (anT k)==some none) (n:=26) (by kernel_rfl) (of_decide_eq_true h))
 seta:=by kernel_rfl
 over:=by kernel_rfl
 taker k h:=beq_iff_eq.mp (all_lt (p:=fun k=>takerIn (TK w w.params X).K 1521 (anT k)==some none) (n:=26) (by kernel_rfl) (of_decide_eq_true h))
 hasd:=by kernel_rfl
noncomputable def zk:Zk:=⟨tz w w.params X,recs_all w w.params X,excs_all w w.params X,⟨by kernel_rfl,by kernel_rfl,by kernel_rfl,by kernel_rfl,fok w w.params X (Nat.le_of_ble_eq_true rfl)⟩,fun f h=>fok w w.params X (Nat.lt_trans h (Nat.le_of_ble_eq_true rfl)),sup8_ w w.params X,sup46_ w w.params X⟩
end
end Mine.Internal
end
section
open PySem PySem.W
namespace Mine.Internal
variable{z:Zk} {bf:List Nat} {s:SS} {q:QS} {d c k n:Nat} {r cs l m:List Nat}
structure At (bf:List Nat) (s:SS) (r:List Nat):Prop where
 ex:∃n:Nat,s.ptr=n∧bf.drop n=r
theorem seq_nat(h:k<n):seqIndex? k n=some k:=by
 unfold seqIndex?;rw[if_neg (Int.not_lt.mpr (Int.natCast_nonneg k))];exact if_pos (Bool.and_eq_true_iff.mpr ⟨decide_eq_true (Int.natCast_nonneg k),decide_eq_true (Int.ofNat_lt.mpr h)⟩)
theorem sub_nat(h:l[n]? =some c):subV (.str l) (.int n)=some (.str [c]):=by
 show((seqIndex? n l.length).bind _)=_;rw[seq_nat (List.getElem?_eq_some_iff.mp h).1];exact congrArg (Option.map _) h
theorem At.get(h:At bf s r)(e:r[k]? =some c):subV (.str bf) (.int (s.ptr+k))=some (.str [c]):=by
 obtain⟨n,e1,rfl⟩:=h.ex;rw[e1];exact sub_nat (n:=n+k) (List.getElem?_drop▸e)
theorem At.get0(h:At bf s (c::r)):subV (.str bf) (.int s.ptr)=some (.str [c]):=by
 have e:=h.get (k:=0) rfl;rwa[show s.ptr+((0:Nat):Int)=s.ptr from Int.add_zero _] at e
noncomputable def adv(s:SS)(n:Int):SS:={s with ptr:=s.ptr+n,idx:=s.idx+n,col:=s.col+n}
noncomputable def nl1(s:SS):SS:={s with ptr:=s.ptr+1,idx:=s.idx+1,line:=s.line+1,col:=0}
theorem At.up(h:At bf s (cs++r)){t:SS}(e:t.ptr=s.ptr+cs.length):At bf t r:=by
 obtain⟨n,e1,h⟩:=h.ex;exact⟨n+cs.length,e.trans (congrArg (· +(cs.length:Int)) e1),by rw[←List.drop_drop,h,List.drop_left]⟩
theorem At.advs(h:At bf s (cs++r)):At bf (Mine.Internal.adv s cs.length) r:=h.up rfl
theorem At.adv(h:At bf s (c::r)):At bf (adv s 1) r:=At.up (cs:=[c]) h rfl
theorem At.nl(h:At bf s (c::r)):At bf (nl1 s) r:=At.up (cs:=[c]) h rfl
theorem nin_sub(hc:c∉m)(h:l.all (m.contains ·)=true):c∉l:=fun q=>hc (List.contains_iff_mem.mp (List.all_eq_true.mp h c q))
theorem nin_ne(hc:c∉m)(h:m.contains k=true):c≠k:=fun e=>hc (e▸List.contains_iff_mem.mp h)
theorem cmp_in(h:c∉l):cmpV .isin (.str [c]) (.str l)=some false:=congrArg some (decide_eq_false h)
theorem cmp_nin(h:c∉l):cmpV .notin (.str [c]) (.str l)=some true:=congrArg (fun b=>some !b) (decide_eq_false h)
theorem one_ne(h:c≠k):decide ([c]=[k])=false:=decide_eq_false fun e=>h (List.head_eq_of_cons_eq e)
theorem cmp_eq(h:c≠k):cmpV .eq (.str [c]) (.str [k])=some false:=congrArg some (one_ne h)
theorem cmp_ne(h:c≠k):cmpV .ne (.str [c]) (.str [k])=some true:=congrArg (fun b=>some !b) (one_ne h)
noncomputable abbrev plainc(c:Nat):Prop:=c∉[10,133,8232,8233,13,65279]
theorem peek_spec(hA:At bf s r)(k c:Nat)(hc:r[k]? =some c):run (TT z) (d+1) 1 [.self,.int k] (enc bf s q) (.ret (.str [c]) (enc bf s q) [.self,.int k]):=
 run_to (x_end (x_try (x_end (x_ret (e_sub (e_p rfl) rfl rfl (hA.get hc)) rfl))))
theorem update_spec(x:V):run (TT z) (d+1) 6 [.self,x] (enc bf s q) (.ret .none (enc bf s q) [.self,x]):=run_to (x_qs rfl)
theorem At.pre(h:At bf s r)(hz:bf.length≤SZ)(n:Nat){e a b:E}{σ:St}(h1:pe (TT z) σ e=some (.str bf))(h2:pe (TT z) σ a=some (.int s.ptr))(h3:pe (TT z) σ b=some (.int (s.ptr+n))):ev (TT z) d (.slice e a b) σ (.ok (.str (r.take n)) σ):=by
 obtain⟨k,e1,rfl⟩:=h.ex;rw[e1] at h2 h3;have:=e_slice (d:=d) (n:=k) (k:=k+n) h1 h2 h3 (Nat.le_add_right k n) hz;rwa[Nat.add_sub_cancel_left] at this
theorem x_ite0{T:Tb}{d np:Nat}{σ:St}{t:E}{a:List S}{b:Bool}(h:pt T σ t=some b)(k:exs T d np a σ (.ok .next σ)):ex T d np (.ite t a []) σ (.ok .next σ):=by
 cases b with
 |false=>exact x_iF (t_p h) x_nil
 |true=>exact x_iT (t_p h) k
theorem x_up{l:List V}{e:E}{v:V}(hb:bindQ (TT z) 6 [.self] ⟨.self::l,enc bf s q⟩ [e] []=some [.self,v]){np:Nat}:exs (TT z) (d+1) np [.expr (.mcal (.loc 0) 28 6 [e] [])] ⟨.self::l,enc bf s q⟩ (.ok .next ⟨.self::l,enc bf s q⟩):=
 x_cons (x_expr (m_cal rfl hb (update_spec v))) x_nil
theorem prefix_spec(hA:At bf s r)(hz:bf.length≤SZ)(n:Nat):run (TT z) (d+2) 2 [.self,.int n] (enc bf s q) (.ret (.str (r.take n)) (enc bf s q) [.self,.int n]):=
 run_to (x_cons (x_ite0 rfl (x_up rfl)) (x_end (x_ret (hA.pre hz n rfl rfl rfl) rfl)))
noncomputable def fwBody:List S:=match f_Reader_forward.code with|[_,.whl _ b]=>b|_=>[]
theorem fw_turn{x:V}{n:Int}(hA:At bf s (c::r))(hc:plainc c):exs (TT z) d 2 fwBody ⟨[.self,.int n,x],enc bf s q⟩ (.ok .next ⟨[.self,.int (n-1),.str [c]],enc bf (adv s 1) q⟩):=
 x_cons (x_asg (e_sub (e_p rfl) rfl rfl hA.get0) rfl) (x_go 2 rfl (x_cons (x_iF (t_orF (t_p (cmp_in (nin_sub hc rfl))) (t_orF (t_andF (t_p (cmp_eq (nin_ne hc rfl)))) t_or0)) (x_cons (x_iT (t_p (cmp_ne (nin_ne hc rfl))) (x_qs rfl)) x_nil)) (x_qs rfl)))
theorem fw_turn_nl{x:V}{n:Int}(hA:At bf s (10::r)):exs (TT z) d 2 fwBody ⟨[.self,.int n,x],enc bf s q⟩ (.ok .next ⟨[.self,.int (n-1),.str [10]],enc bf (nl1 s) q⟩):=
 x_cons (x_asg (e_sub (e_p rfl) rfl rfl hA.get0) rfl) (x_qs rfl)
noncomputable def lastS:V→List Nat→V
 |x,[]=>x
 |_,c::cs=>lastS (.str [c]) cs
theorem adv0:adv s 0=s:=by unfold adv;simp only[Int.add_zero]
theorem adv_adv(a b:Int):adv (adv s a) b=adv s (a+b):=by unfold adv;simp only[Int.add_assoc]
theorem adv_S(a:Nat):adv (adv s 1) a=adv s ((a+1:Nat):Int):=(adv_adv 1 a).trans (congrArg (adv s) (Int.add_comm 1 a))
theorem fw_loop:∀{cs:List Nat}{s:SS}{x:V},At bf s (cs++r)→(∀c∈cs,plainc c)→wl (TT z) d 2 (.tv (.loc 1)) fwBody ⟨[.self,.int cs.length,x],enc bf s q⟩ (.ok .next ⟨[.self,.int 0,lastS x cs],enc bf (adv s cs.length) q⟩)
 |[],s,x,hA,hc=>(adv0 (s:=s)).symm▸w_stop (t_p rfl)
 |c::cs,s,x,hA,hc=>by
  have h:=fw_loop (x:=.str [c]) (At.adv hA) fun c h=>hc c (.tail _ h);rw[adv_S] at h;refine w_go (t_p (congrArg some (decide_eq_true fun e=>nomatch e))) (fw_turn hA (hc c (.head _))) ?_;rw[show(((c::cs).length:Int)-1)=cs.length from Int.add_sub_cancel (cs.length:Int) 1];exact h
theorem forward_spec(hA:At bf s (cs++r))(hc:∀c∈cs,plainc c):run (TT z) (d+2) 3 [.self,.int cs.length] (enc bf s q) (.ret .none (enc bf (adv s cs.length) q) [.self,.int 0]):=
 run_to (x_cons (x_ite0 rfl (x_up rfl)) (x_cons (x_whl (fw_loop hA hc)) x_nil))
theorem forward_nl(hA:At bf s (10::r)):run (TT z) (d+2) 3 [.self,.int 1] (enc bf s q) (.ret .none (enc bf (nl1 s) q) [.self,.int 0]):=
 run_to (x_cons (x_ite0 rfl (x_up rfl)) (x_cons (x_whl (w_go (t_p rfl) (fw_turn_nl hA) (w_stop (t_p rfl)))) x_nil))
end Mine.Internal
end
section
open PySem PySem.W
namespace Mine.Internal
variable{z:Zk} {bf:List Nat} {s:SS} {q:QS} {d c k n np a:Nat} {r cs m:List Nat} {l:List V} {e:E} {v:V} {b:Bool} {op:Co} {y:R Fl}
noncomputable def mk(bf:List Nat)(s:SS):V:=.inst 53 [(0,.str NAME),(9,.int s.idx),(10,.int s.line),(11,.int s.col),(4,.str bf),(5,.int s.ptr)]
theorem mark_spec:run (TT z) (d+1) 4 [.self] (enc bf s q) (.ret (mk bf s) (enc bf s q) [.self]):=
 run_to (x_end (x_iT (t_p rfl) (x_end (x_ret (e_new z.recs rfl) rfl))))
section
theorem e_mark:ev (TT z) (d+1) (.mcal (.loc 0) 62 4 [] []) ⟨.self::l,enc bf s q⟩ (.ok (mk bf s) ⟨.self::l,enc bf s q⟩):=m_cal rfl rfl mark_spec
theorem e_peek0(hA:At bf s (c::r)):ev (TT z) (d+1) (.mcal (.loc 0) 43 1 [] []) ⟨.self::l,enc bf s q⟩ (.ok (.str [c]) ⟨.self::l,enc bf s q⟩):=m_cal rfl rfl (peek_spec hA 0 c rfl)
theorem e_peek(hA:At bf s r)(hc:r[k]? =some c)(ha:bindQ (TT z) 1 [.self] ⟨.self::l,enc bf s q⟩ [e] []=some [.self,.int k]):ev (TT z) (d+1) (.mcal (.loc 0) 43 1 [e] []) ⟨.self::l,enc bf s q⟩ (.ok (.str [c]) ⟨.self::l,enc bf s q⟩):=m_cal rfl ha (peek_spec hA k c hc)
theorem t_peek0{op:Co}(hA:At bf s (c::r))(hb:cmpV op (.str [c]) (.str m)=some b):tr (TT z) (d+1) (.cmp op (.mcal (.loc 0) 43 1 [] []) (.cS m)) ⟨.self::l,enc bf s q⟩ (.ok b ⟨.self::l,enc bf s q⟩):=t_cmp (e_peek0 hA) rfl hb
theorem st_fw1(hA:At bf s (c::r))(hc:plainc c):ex (TT z) (d+2) np (.expr (.mcal (.loc 0) 68 3 [] [])) ⟨.self::l,enc bf s q⟩ (.ok .next ⟨.self::l,enc bf (adv s 1) q⟩):=
 x_expr (m_cal rfl rfl (forward_spec (cs:=[c]) hA fun y0_ h=>List.eq_of_mem_singleton h▸hc))
theorem st_fwnl(hA:At bf s (10::r)):ex (TT z) (d+2) np (.expr (.mcal (.loc 0) 68 3 [] [])) ⟨.self::l,enc bf s q⟩ (.ok .next ⟨.self::l,enc bf (nl1 s) q⟩):=x_expr (m_cal rfl rfl (forward_nl hA))
theorem st_fwn(hA:At bf s (cs++r))(hc:∀c∈cs,plainc c)(ha:bindQ (TT z) 3 [.self] ⟨.self::l,enc bf s q⟩ [e] []=some [.self,.int cs.length]):ex (TT z) (d+2) np (.expr (.mcal (.loc 0) 68 3 [e] [])) ⟨.self::l,enc bf s q⟩ (.ok .next ⟨.self::l,enc bf (adv s cs.length) q⟩):=x_expr (m_cal rfl ha (forward_spec hA hc))
theorem e_prefix(hA:At bf s r)(hz:bf.length≤SZ)(ha:bindQ (TT z) 2 [.self] ⟨.self::l,enc bf s q⟩ [e] []=some [.self,.int n]):ev (TT z) (d+2) (.mcal (.loc 0) 85 2 [e] []) ⟨.self::l,enc bf s q⟩ (.ok (.str (r.take n)) ⟨.self::l,enc bf s q⟩):=m_cal rfl ha (prefix_spec hA hz n)
end
noncomputable abbrev notBr(c:Nat):Prop:=c∉[13,10,133,8232,8233]
theorem break_none(hA:At bf s (c::r))(hc:notBr c):run (TT z) (d+2) 45 [.self] (enc bf s q) (.ret (.str []) (enc bf s q) [.self]):=
 run_to (x_cons (x_asg (e_peek0 hA) rfl) (x_cons (x_iF (t_p (cmp_in (nin_sub hc rfl))) (x_cons (x_iF (t_p (cmp_in (nin_sub hc rfl))) x_nil) x_nil)) (x_qs rfl)))
theorem two_nl:cmpV .eq (.str (List.take 2 (10::r))) (.str [13,10])=some false:=by cases r<;>exact congrArg some (decide_eq_false nofun)
theorem break_nl(hA:At bf s (10::r))(hz:bf.length≤SZ):run (TT z) (d+3) 45 [.self] (enc bf s q) (.ret (.str [10]) (enc bf (nl1 s) q) [.self]):=
 run_to (x_cons (x_asg (e_peek0 hA) rfl) (x_end (x_iT (t_p rfl) (x_cons (x_iF (t_cmp (e_prefix (n:=2) hA hz rfl) rfl two_nl) (x_cons (st_fwnl hA) x_nil)) (x_qs rfl)))))
noncomputable def spcB:List S:=[.expr (.mcal (.loc 0) 68 3 [] [])]
noncomputable def spcT:E:=.cmp .eq (.mcal (.loc 0) 43 1 [] []) (.cS [32])
theorem sp_loop(hc:c≠32):∀{a:Nat}{s:SS},At bf s (List.replicate a 32++c::r)→wl (TT z) (d+2) np spcT spcB ⟨.self::l,enc bf s q⟩ (.ok .next ⟨.self::l,enc bf (adv s a) q⟩)
 |0,s,hA=>(adv0 (s:=s)).symm▸w_stop (t_peek0 hA (cmp_eq hc))
 |a+1,s,hA=>by
  have hA:At bf s (32::(List.replicate a 32++c::r)):=hA;have h:=sp_loop hc hA.adv;rw[adv_S] at h;exact w_go (t_peek0 hA rfl) (x_cons (st_fw1 hA (by decide)) x_nil) h
theorem At.spaces(hA:At bf s (List.replicate a 32++r)):At bf (Mine.Internal.adv s a) r:=hA.up (by rw[List.length_replicate];rfl)
theorem t_brk0(hA:At bf s (c::r))(hc:notBr c):tr (TT z) (d+2) (.tv (.mcal (.loc 0) 86 45 [] [])) ⟨.self::l,enc bf s q⟩ (.ok false ⟨.self::l,enc bf s q⟩):=t_tv (m_cal rfl rfl (break_none hA hc)) rfl rfl
theorem t_brk1(hA:At bf s (10::r))(hz:bf.length≤SZ):tr (TT z) (d+3) (.tv (.mcal (.loc 0) 86 45 [] [])) ⟨.self::l,enc bf s q⟩ (.ok true ⟨.self::l,enc bf (nl1 s) q⟩):=t_tv (m_cal rfl rfl (break_nl hA hz)) rfl rfl
noncomputable def loopB:List S→List S
 |[]=>[]
 | .whl _ b::_=>b
 |_::r=>loopB r
noncomputable def stnB:List S:=loopB f_Scanner_scan_to_next_token.code
noncomputable abbrev stnT:E:=.not (.tv (.loc 1))
theorem stn_stop(hA:At bf s (List.replicate a 32++c::r))(h1:c∉[32,35])(h3:notBr c):wl (TT z) (d+2) 1 stnT stnB ⟨[.self,.bool false],enc bf s q⟩ (.ok .next ⟨[.self,.bool true],enc bf (adv s a) q⟩):=
 w_go (t_p rfl) (x_cons (x_whl (sp_loop (nin_ne h1 rfl) hA)) (x_cons (x_iF (t_peek0 hA.spaces (cmp_eq (nin_ne h1 rfl))) x_nil) (x_cons (x_iF (t_brk0 hA.spaces h3) (x_qs rfl)) x_nil))) (w_stop (t_p rfl))
theorem stn_nl(hA:At bf s (List.replicate a 32++10::r))(hz:bf.length≤SZ)(hr:wl (TT z) (d+3) 1 stnT stnB ⟨[.self,.bool false],enc bf ((nl1 (adv s a)).a true) q⟩ y):wl (TT z) (d+3) 1 stnT stnB ⟨[.self,.bool false],enc bf s q⟩ y:=
 w_go (t_p rfl) (x_cons (x_whl (sp_loop (by decide) hA)) (x_cons (x_iF (t_peek0 hA.spaces rfl) x_nil) (x_cons (x_iT (t_brk1 hA.spaces hz) (x_cons (x_iT (t_p rfl) (x_qs rfl)) x_nil)) x_nil))) hr
theorem stn_cm(hA:At bf s (35::10::r))(hz:bf.length≤SZ)(hr:wl (TT z) (d+3) 1 stnT stnB ⟨[.self,.bool false],enc bf ((nl1 (adv s 1)).a true) q⟩ y):wl (TT z) (d+3) 1 stnT stnB ⟨[.self,.bool false],enc bf s q⟩ y:=
 w_go (t_p rfl) (x_cons (x_whl (w_stop (t_peek0 hA rfl))) (x_cons (x_iT (t_peek0 hA rfl) (x_cons (x_whl (w_go (t_peek0 hA rfl) (x_cons (st_fw1 hA (by decide)) x_nil) (w_stop (t_peek0 hA.adv rfl)))) x_nil)) (x_cons (x_iT (t_brk1 hA.adv hz) (x_cons (x_iT (t_p rfl) (x_qs rfl)) x_nil)) x_nil))) hr
theorem stn_run{s':SS}(hA:At bf s (c::r))(h1:c≠65279)(hr:wl (TT z) (d+1) 1 stnT stnB ⟨[.self,.bool false],enc bf s q⟩ (.ok .next ⟨[.self,.bool true],enc bf s' q⟩)):run (TT z) (d+2) 37 [.self] (enc bf s q) (.ret .none (enc bf s' q) [.self]):=by
 have e:tr (TT z) (d+1) (.and [(.cmp .eq (.attr (.loc 0) 9) (.cI 0)),(.cmp .eq (.mcal (.loc 0) 43 1 [] []) (.cS [65279]))]) ⟨[.self,.absent],enc bf s q⟩ (.ok false ⟨[.self,.absent],enc bf s q⟩):=by
  by_cases e:s.idx=0
  ·exact t_andT (t_p (congrArg some (decide_eq_true e))) (t_andF (t_peek0 hA (cmp_eq h1)))
  ·exact t_andF (t_p (congrArg some (decide_eq_false e)))
 exact run_to (x_cons (x_iF e x_nil) (x_cons (x_q rfl) (x_cons (x_whl hr) x_nil)))
end Mine.Internal
end
section
open PySem PySem.W
namespace Mine.Internal
variable{z:Zk} {bf:List Nat} {s:SS} {q:QS} {d c np:Nat} {r:List Nat} {l:List V} {n i ln cl:Int} {b:Bool} {m:V}
noncomputable def skey(n:Int)(req:Bool)(i ln cl:Int)(m:V):V:=.inst 763 [(58,.int n),(59,.bool req),(9,.int i),(10,.int ln),(11,.int cl),(75,m)]
theorem SS.k_eq{p:List (V×V)}(h:s.psk=p):s.k p=s:=by subst h;rfl
theorem stale0(hp:s.psk=[]):run (TT z) (d+1) 15 [.self] (enc bf s q) (.ret .none (enc bf s q) [.self]):=
 SS.k_eq hp▸run_to (x_cons (x_forL (e_keys rfl rfl) rfl f_nil) x_nil)
theorem no_lt{a b:Int}(h:¬a<b):cmpV .lt (.int a) (.int b)=some false:=congrArg some (decide_eq_false h)
theorem stale_keep(hp:s.psk=[(.int 0,skey n b i ln cl m)])(hl:ln=s.line)(hi:s.idx-i≤1024):run (TT z) (d+1) 15 [.self] (enc bf s q) (.ret .none (enc bf s q) [.self]):=
 SS.k_eq hp▸run_to (x_cons (x_forL (e_keys rfl rfl) rfl (f_go rfl (x_cons (x_q rfl) (x_cons (x_iF (t_orF (t_p (congrArg (fun b=>some !b) (decide_eq_true hl))) (t_orF (t_p (congrArg some (decide_eq_false (Int.not_lt.mpr hi)))) t_or0)) x_nil) x_nil)) f_nil)) x_nil)
theorem stale_drop(hp:s.psk=[(.int 0,skey n false i ln cl m)])(hl:ln≠s.line):run (TT z) (d+1) 15 [.self] (enc bf s q) (.ret .none (enc bf (s.k []) q) [.self]):=
 SS.k_eq hp▸run_to (x_cons (x_forL (e_keys rfl rfl) rfl (f_go rfl (x_cons (x_q rfl) (x_cons (x_iT (t_orT (t_p (congrArg (fun b=>some !b) (decide_eq_false hl)))) (x_go 1 rfl (x_cons (x_delI rfl rfl rfl rfl) x_nil))) x_nil)) f_nil)) x_nil)
theorem npk0(hp:s.psk=[]):run (TT z) (d+1) 14 [.self] (enc bf s q) (.ret .none (enc bf s q) [.self]):=
 SS.k_eq hp▸run_to (x_go 1 rfl (x_cons (.mk (Xs.forP (es:=[]) rfl rfl rfl rfl)) (x_qs rfl)))
theorem npk1(hp:s.psk=[(.int 0,skey n b i ln cl m)]):run (TT z) (d+1) 14 [.self] (enc bf s q) (.ret (.int n) (enc bf s q) [.self]):=
 SS.k_eq hp▸run_to (x_go 1 rfl (x_cons (.mk (Xs.forP (es:=[(.int 0,skey n b i ln cl m)]) rfl rfl rfl ⟨rfl,rfl,_,Px.asg (u:=skey n b i ln cl m) rfl rfl rfl (Px.ite (bo:=true) rfl (Px.asg (u:=.int n) rfl rfl rfl Px.nil) Px.nil),rfl⟩)) (x_qs rfl)))
theorem remove0(hp:s.psk=[]):run (TT z) (d+1) 17 [.self] (enc bf s q) (.ret .none (enc bf s q) [.self]):=
 SS.k_eq hp▸run_to (x_qs rfl)
theorem ask_eq{a:Bool}(h:s.ask=a):s.a a=s:=by subst h;rfl
theorem save_req{a:V}{x y:V}:ex (TT z) d 1 (.asg [1] (.and [(.not (.attr (.loc 0) 13)),(.cmp .eq (.attr (.loc 0) 16) (.attr (.loc 0) 11))])) ⟨[.self,a,x,y],enc bf s q⟩ (.ok .next ⟨[.self,.bool (decide (s.ind=s.col)),x,y],enc bf s q⟩):=
 x_asg (e_andT (e_p rfl) rfl rfl (e_andL (e_p rfl))) rfl
theorem save0(ha:s.ask=false):run (TT z) (d+1) 16 [.self] (enc bf s q) (.ret .none (enc bf s q) [.self]):=
 ask_eq ha▸run_to (x_cons save_req (x_qs rfl))
noncomputable abbrev key0(bf:List Nat)(s:SS):V:=skey (s.taken+s.toks.length) (decide (s.ind=s.col)) s.idx s.line s.col (mk bf s)
theorem save1(ha:s.ask=true)(hp:s.psk=[]):run (TT z) (d+2) 16 [.self] (enc bf s q) (.ret .none (enc bf (s.k [(.int 0,key0 bf s)]) q) [.self]):=by
 obtain⟨s1,s2,s3,s4,s5,s6,s7,s8,s9,s10,s11⟩:=s;obtain rfl:s10=true:=ha;obtain rfl:s11=[]:=hp;exact run_to (x_cons save_req (x_cons (x_iT (t_p rfl) (x_cons (x_expr (m_cal rfl rfl (remove0 rfl))) (x_cons (x_q rfl) (x_cons (x_asg (x_new z.recs (a_cons (e_p rfl) rfl (a_cons (e_p rfl) rfl (a_cons (e_p rfl) rfl (a_cons (e_p rfl) rfl (a_cons (e_p rfl) rfl (a_cons e_mark rfl a_nil)))))) rfl) rfl) (x_cons (x_setI (e_p rfl) rfl rfl rfl rfl (Nat.zero_lt_succ 199)) x_nil))))) x_nil))
end Mine.Internal
end
section
open PySem PySem.W
namespace Mine.Internal
variable{z:Zk} {bf:List Nat} {s:SS} {q:QS} {d c np i g C:Nat} {r:List Nat} {l:List V} {a b cl:Int} {o ps:List Int} {x m:V} {e:E}
noncomputable def tk2(C:Nat)(bf:List Nat)(a b:SS):V:=.inst C [(94,mk bf a),(99,mk bf b)]
noncomputable def Stk(s:SS)(b:Int)(r:List Int):Prop:=s.ind=b∧s.inds=r.reverse.map V.int
noncomputable def cutS(s:SS)(b:Int)(r:List Int)(ts:List V):SS:={s with ind:=b,inds:=r.reverse.map V.int,toks:=ts}
theorem Stk.eq(h:Stk s b o):cutS s b o s.toks=s:=by
 obtain⟨rfl,e⟩:=h;unfold cutS;rw[←e]
noncomputable def TokQ(g C:Nat):Prop:=∀(z:Zk)(σ:St)(bf:List Nat)(a b:SS),((globV ((TT z).gv g)).bind fun C=>newF (TT z) C [mk bf a,mk bf b] σ [])=some (tk2 C bf a b)
theorem place14:PlV ⟨.self::l,enc bf s q⟩ s.toks (.attr (.loc 0) 14):=.attr rfl rfl
theorem st_tok{j:Nat}{m1 m2:SS}(hv:TokQ g C)(hi:(V.self::l)[i]? =some (mk bf m1))(hj:(V.self::l)[j]? =some (mk bf m2))(ht:s.toks.length<SZ):
  ex (TT z) d np (.expr (.app (.attr (.loc 0) 14) (.new g [(.loc i),(.loc j)] []))) ⟨.self::l,enc bf s q⟩ (.ok .next ⟨.self::l,enc bf (s.t (s.toks++[tk2 C bf m1 m2])) q⟩):=
 have p {i:Nat} {m:SS} (h:(V.self::l)[i]? =some (mk bf m)):ev (TT z) d (.loc i) ⟨.self::l,enc bf s q⟩ (.ok (mk bf m) ⟨.self::l,enc bf s q⟩):=e_p (congrArg (fun o:Option V=>(o.bind fun v=>if isAb v=false then some v else none).bind fun u=>onB u.nl (some u)) h)
 x_expr (e_app place14 (x_new z.recs (a_cons (p hi) rfl (a_cons (p hj) rfl a_nil)) (hv z _ bf m1 m2)) place14 rfl ht)
noncomputable def unwB:List S:=loopB f_Scanner_unwind_indent.code
noncomputable abbrev unwT:E:=.cmp .gt (.attr (.loc 0) 16) (.loc 1)
theorem okS_new{u:V}{l:List V}(h:np.ble i=true)(n:u.nl=true):okS np l i u=true:=by
 unfold okS;rw[n,decide_eq_true (Nat.le_of_ble_eq_true h)];rfl
theorem st_mark(h:np.ble i=true):ex (TT z) (d+1) np (.asg [i] (.mcal (.loc 0) 62 4 [] [])) ⟨.self::l,enc bf s q⟩ (.ok .next ⟨(.self::l).set i (mk bf s),enc bf s q⟩):=x_asg e_mark (okS_new h rfl)
theorem unw_turn(hk:Stk s a (b::o))(ht:s.toks.length<SZ):exs (TT z) (d+1) 2 unwB ⟨[.self,.int cl,x],enc bf s q⟩ (.ok .next ⟨[.self,.int cl,mk bf s],enc bf (cutS s b o (s.toks++[tk2 227 bf s s])) q⟩):=by
 have e:s.inds=o.reverse.map V.int++[.int b]:=by rw[hk.2,List.reverse_cons,List.map_append];rfl
 exact x_cons (st_mark rfl) (x_cons (x_setA (e_pop (u:=.int b) (xs:=o.reverse.map V.int) (.attr rfl (congrArg (some∘V.list) e))) rfl) (x_cons (st_tok (s:=cutS s b o s.toks) (l:=[.int cl,mk bf s]) (C:=227) (m1:=s) (m2:=s) (fun y0_ y1_ y2_ y3_ y4_=>rfl) rfl rfl ht) x_nil))
noncomputable def lx:List Int→V→V→V
 |[],x,_=>x
 |_::ps,_,m=>lx ps m m
theorem t_gt{v:E}{cl:Int}(hv:pe (TT z) ⟨.self::l,enc bf s q⟩ v=some (.int cl)):pt (TT z) ⟨.self::l,enc bf s q⟩ (.cmp .gt (.attr (.loc 0) 16) v)=some (decide (s.ind>cl)):=by
 show(pe (TT z) _ v).bind _=_;rw[hv];rfl
theorem unw_loop(hb:b≤cl):∀{ps:List Int}{s:SS}{x:V},(∀p∈ps,cl<p)→(∃a t,ps++b::o=a::t∧Stk s a t)→s.toks.length+ps.length<SZ→
  wl (TT z) (d+1) 2 unwT unwB ⟨[.self,.int cl,x],enc bf s q⟩ (.ok .next ⟨[.self,.int cl,lx ps x (mk bf s)],enc bf (cutS s b o (s.toks++List.replicate ps.length (tk2 227 bf s s))) q⟩)
 |[],s,x,hp,⟨a,t,e,hk⟩,ht=>by
  obtain⟨rfl,rfl⟩:=List.cons.inj e;have e2:cutS s b o (s.toks++[])=s:=(congrArg (cutS s b o) (List.append_nil _)).trans hk.eq;exact e2.symm▸w_stop (t_p (congrArg some (decide_eq_false (Int.not_lt.mpr (hk.1▸hb)))))
 |p::ps,s,x,hp,⟨a,t,e,hk⟩,ht=>by
  obtain⟨rfl,rfl⟩:=List.cons.inj e;obtain⟨b',r',e3⟩:∃b' r',ps++b::o=b'::r':=by cases ps with|nil=>exact⟨_,_,rfl⟩|cons y ys=>exact⟨_,_,rfl⟩
  have hk2:Stk s p (b'::r'):=e3▸hk;have h:=unw_loop (s:=cutS s b' r' (s.toks++[tk2 227 bf s s])) (x:=mk bf s) hb (fun y hy=>hp y (.tail _ hy)) ⟨b',r',e3,rfl,rfl⟩ (by
   show(s.toks++[_]).length+ps.length<SZ;rw[List.length_append,Nat.add_right_comm];exact ht)
  refine w_go (t_p (congrArg some (decide_eq_true (hk.1.symm▸hp p (.head _))))) (unw_turn hk2 (Nat.lt_of_le_of_lt (Nat.le_add_right _ _) ht)) ?_;have e4:s.toks++[tk2 227 bf s s]++List.replicate ps.length (tk2 227 bf s s)=s.toks++List.replicate (p::ps).length (tk2 227 bf s s):=List.append_assoc _ _ _;exact e4▸h
theorem unwind_spec(hb:b≤cl)(hp:∀p∈ps,cl<p)(hk:∃a t,ps++b::o=a::t∧Stk s a t)(ht:s.toks.length+ps.length<SZ):
  run (TT z) (d+2) 18 [.self,.int cl] (enc bf s q) (.ret .none (enc bf (cutS s b o (s.toks++List.replicate ps.length (tk2 227 bf s s))) q) [.self,.int cl]):=
 run_to (x_cons (x_q rfl) (x_cons (x_whl (unw_loop hb hp hk ht)) x_nil))
theorem indent_yes(hk:Stk s b o)(hb:b<cl)(hl:o.length<SZ):run (TT z) (d+1) 19 [.self,.int cl] (enc bf s q) (.ret (.bool true) (enc bf (cutS s cl (b::o) s.toks) q) [.self,.int cl]):=by
 have e:cutS s cl (b::o) s.toks={s with ind:=cl,inds:=s.inds++[.int s.ind]}:=by
  unfold cutS;rw[hk.2,hk.1,List.reverse_cons,List.map_append];rfl
 rw[e];exact run_to (x_end (x_iT (t_p (congrArg some (decide_eq_true (hk.1.symm▸hb)))) (x_cons (x_expr (e_app (.attr rfl rfl) (e_p rfl) (.attr rfl rfl) rfl (by rw[hk.2,List.length_map,List.length_reverse];exact hl))) (x_qs rfl))))
theorem indent_no(hk:Stk s b o)(hb:¬b<cl):run (TT z) (d+1) 19 [.self,.int cl] (enc bf s q) (.ret (.bool false) (enc bf s q) [.self,.int cl]):=
 run_to (x_cons (x_iF (t_p (congrArg some (decide_eq_false (hk.1.symm▸hb)))) x_nil) (x_qs rfl))
end Mine.Internal
end
section
open PySem PySem.W
namespace Mine.Internal
variable{z:Zk} {bf:List Nat} {s:SS} {q:QS} {d c np i g C:Nat} {r:List Nat} {l:List V} {b n:Int} {o:List Int} {x m:V} {e:E} {ts us:List V}
theorem t_add1(ha:bindQ (TT z) 19 [.self] ⟨.self::l,enc bf s q⟩ [e] []=some [.self,.int n])(hk:Stk s b o)(hb:b<n)(hl:o.length<SZ):
  tr (TT z) (d+1) (.tv (.mcal (.loc 0) 70 19 [e] [])) ⟨.self::l,enc bf s q⟩ (.ok true ⟨.self::l,enc bf (cutS s n (b::o) s.toks) q⟩):=t_tv (m_cal rfl ha (indent_yes hk hb hl)) rfl rfl
theorem t_add0(ha:bindQ (TT z) 19 [.self] ⟨.self::l,enc bf s q⟩ [e] []=some [.self,.int n])(hk:Stk s b o)(hb:¬b<n):
  tr (TT z) (d+1) (.tv (.mcal (.loc 0) 70 19 [e] [])) ⟨.self::l,enc bf s q⟩ (.ok false ⟨.self::l,enc bf s q⟩):=t_tv (m_cal rfl ha (indent_no hk hb)) rfl rfl
noncomputable def opn(bf:List Nat)(C:Nat)(s:SS)(b:Int)(o:List Int):SS:={s with ind:=if b<s.col then s.col else s.ind,inds:=if b<s.col then(b::o).reverse.map V.int else s.inds,toks:=if b<s.col then s.toks++[tk2 C bf s s] else s.toks}
theorem opn_y(h:b<s.col):opn bf C s b o=cutS s s.col (b::o) (s.toks++[tk2 C bf s s]):=by unfold opn;simp only[if_pos h];rfl
theorem opn_n(h:¬b<s.col):opn bf C s b o=s:=by unfold opn;simp only[if_neg h]
theorem opn_len(ht:s.toks.length<1000):(opn bf C s b o).toks.length<1001:=by
 show(if b<s.col then _ else _:List V).length<1001
 by_cases h:b<s.col
 ·rw[if_pos h,List.length_append];exact Nat.succ_lt_succ ht
 ·rw[if_neg h];exact Nat.lt_succ_of_lt ht
theorem lt_SZ{n k:Nat}(h:n<k)(hk:k≤SZ):n<SZ:=Nat.lt_of_lt_of_le h hk
theorem st_rem(hp:s.psk=[]):ex (TT z) (d+1) np (.expr (.mcal (.loc 0) 60 17 [] [])) ⟨.self::l,enc bf s q⟩ (.ok .next ⟨.self::l,enc bf s q⟩):=x_expr (m_cal rfl rfl (remove0 hp))
theorem st_opn{f:V→List V}(hf:∀m,(V.self::f x).set i m= .self::f m)(hg:∀m,(V.self::f m)[i]? =some m)(hi:np.ble i=true)(hv:TokQ g C)(hk:Stk s b o)(hl:o.length<1000)(ht:s.toks.length<1000):
  ex (TT z) (d+1) np (.ite (.tv (.mcal (.loc 0) 70 19 [(.attr (.loc 0) 11)] [])) [(.asg [i] (.mcal (.loc 0) 62 4 [] [])),(.expr (.app (.attr (.loc 0) 14) (.new g [(.loc i),(.loc i)] [])))] []) ⟨.self::f x,enc bf s q⟩ (.ok .next ⟨.self::f (if b<s.col then mk bf s else x),enc bf (opn bf C s b o) q⟩):=by
 by_cases hb:b<s.col
 ·rw[opn_y hb,if_pos hb];have h:=st_mark (z:=z) (d:=d) (bf:=bf) (s:=cutS s s.col (b::o) s.toks) (q:=q) (l:=f x) hi;rw[hf] at h;exact x_iT (t_add1 rfl hk hb (lt_SZ hl (by decide))) (x_cons h (x_cons (st_tok (s:=cutS s s.col (b::o) s.toks) (m1:=s) (m2:=s) hv (hg _) (hg _) (lt_SZ ht (by decide))) x_nil))
 ·rw[opn_n hb,if_neg hb];exact x_iF (t_add0 rfl hk hb) x_nil
theorem st_sign{f:V→V→List V}{j:Nat}{x y:V}(hA:At bf s (c::r))(hc:plainc c)(hf:∀m,(V.self::f x y).set i m= .self::f m y)(hf2:∀m n,(V.self::f m y).set j n= .self::f m n)(hg:∀m n,(V.self::f m n)[i]? =some m)(hg2:∀m n,(V.self::f m n)[j]? =some n)(hi:np.ble i=true)(hj:np.ble j=true)
  (hv:TokQ g C) (ht:s.toks.length<SZ):
  exs (TT z) (d+2) np [(.asg [i] (.mcal (.loc 0) 62 4 [] [])),(.expr (.mcal (.loc 0) 68 3 [] [])),(.asg [j] (.mcal (.loc 0) 62 4 [] [])),(.expr (.app (.attr (.loc 0) 14) (.new g [(.loc i),(.loc j)] [])))] ⟨.self::f x y,enc bf s q⟩ (.ok .next ⟨.self::f (mk bf s) (mk bf (adv s 1)),enc bf ((adv s 1).t (s.toks++[tk2 C bf s (adv s 1)])) q⟩):=by
 have h:=st_mark (z:=z) (d:=d+1) (bf:=bf) (s:=s) (q:=q) (l:=f x y) hi;have h2:=st_mark (z:=z) (d:=d+1) (bf:=bf) (s:=adv s 1) (q:=q) (l:=f (mk bf s) y) hj;rw[hf] at h;rw[hf2] at h2;exact x_cons h (x_cons (st_fw1 hA hc) (x_cons h2 (x_cons (st_tok (s:=adv s 1) hv (hg _ _) (hg2 _ _) ht) x_nil)))
theorem t_ask{b:Bool}(h:s.ask=b):tr (TT z) d (.not (.tv (.attr (.loc 0) 18))) ⟨.self::l,enc bf s q⟩ (.ok (!b) ⟨.self::l,enc bf s q⟩):=t_p (congrArg (fun b:Bool=>some !b) h)
theorem fetch_dash(hA:At bf s (45::r))(hk:Stk s b o)(ha:s.ask=true)(hp:s.psk=[])(hl:o.length<1000)(ht:s.toks.length<1000):
  run (TT z) (d+3) 24 [.self] (enc bf s q) (.ret .none (enc bf (((adv (opn bf 203 s b o) 1).a true).t ((opn bf 203 s b o).toks++[tk2 311 bf s (adv s 1)])) q) [.self]):=
 run_to (x_cons (x_iT (t_p rfl) (x_cons (x_iF (t_ask ha) x_nil) (x_cons (st_opn (f:=fun m=>[m,.absent,.absent]) (fun y0_=>rfl) (fun y0_=>rfl) rfl (fun y0_ y1_ y2_ y3_ y4_=>rfl) hk hl ht) x_nil))) (x_cons (x_q rfl) (x_cons (st_rem (s:=(opn bf 203 s b o).a true) hp)
  (st_sign (s:=(opn bf 203 s b o).a true) (x:=.absent) (y:=.absent) (f:=fun m n=>[if b<s.col then mk bf s else .absent,m,n]) (C:=311) ⟨hA.ex⟩ (by decide) (fun y0_=>rfl) (fun y0_ y1_=>rfl) (fun y0_ y1_=>rfl) (fun y0_ y1_=>rfl) rfl rfl (fun y0_ y1_ y2_ y3_ y4_=>rfl) (lt_SZ (opn_len (b:=b) (o:=o) ht) (by decide))))))
theorem fetch_q(hA:At bf s (63::r))(hk:Stk s b o)(ha:s.ask=true)(hp:s.psk=[])(hl:o.length<1000)(ht:s.toks.length<1000):
  run (TT z) (d+3) 25 [.self] (enc bf s q) (.ret .none (enc bf (((adv (opn bf 215 s b o) 1).a true).t ((opn bf 215 s b o).toks++[tk2 287 bf s (adv s 1)])) q) [.self]):=
 run_to (x_cons (x_iT (t_p rfl) (x_cons (x_iF (t_ask ha) x_nil) (x_cons (st_opn (f:=fun m=>[m,.absent,.absent]) (fun y0_=>rfl) (fun y0_=>rfl) rfl (fun y0_ y1_ y2_ y3_ y4_=>rfl) hk hl ht) x_nil))) (x_cons (x_q rfl) (x_cons (st_rem (s:=(opn bf 215 s b o).a true) hp)
  (st_sign (s:=(opn bf 215 s b o).a true) (x:=.absent) (y:=.absent) (f:=fun m n=>[if b<s.col then mk bf s else .absent,m,n]) (C:=287) ⟨hA.ex⟩ (by decide) (fun y0_=>rfl) (fun y0_ y1_=>rfl) (fun y0_ y1_=>rfl) (fun y0_ y1_=>rfl) rfl rfl (fun y0_ y1_ y2_ y3_ y4_=>rfl) (lt_SZ (opn_len (b:=b) (o:=o) ht) (by decide))))))
theorem t_key{b:Bool}{v:List (V×V)}(hp:s.psk=v)(h:cmpV .isin (.int 0) (.dict v)=some b):tr (TT z) d (.cmp .isin (.attr (.loc 0) 13) (.attr (.loc 0) 19)) ⟨.self::l,enc bf s q⟩ (.ok b ⟨.self::l,enc bf s q⟩):=t_p ((congrArg (fun p=>cmpV .isin (.int 0) (.dict p)) hp).trans h)
theorem fetch_colon(hA:At bf s (58::r))(hk:Stk s b o)(ha:s.ask=true)(hp:s.psk=[])(hl:o.length<1000)(ht:s.toks.length<1000):
  run (TT z) (d+3) 26 [.self] (enc bf s q) (.ret .none (enc bf (((adv (opn bf 215 s b o) 1).a true).t ((opn bf 215 s b o).toks++[tk2 299 bf s (adv s 1)])) q) [.self]):=
 run_to (x_cons (x_iF (t_key hp rfl) (x_cons (x_iT (t_p rfl) (x_cons (x_iF (t_ask ha) x_nil) x_nil)) (x_cons (x_iT (t_p rfl) (x_cons (st_opn (f:=fun m=>[.absent,m,.absent,.absent]) (fun y0_=>rfl) (fun y0_=>rfl) rfl (fun y0_ y1_ y2_ y3_ y4_=>rfl) hk hl ht) x_nil)) (x_cons (x_q rfl) (x_cons (st_rem (s:=(opn bf 215 s b o).a true) hp) x_nil)))))
  (st_sign (s:=(opn bf 215 s b o).a true) (x:=.absent) (y:=.absent) (f:=fun m n=>[.absent,if b<s.col then mk bf s else .absent,m,n]) (C:=299) ⟨hA.ex⟩ (by decide) (fun y0_=>rfl) (fun y0_ y1_=>rfl) (fun y0_ y1_=>rfl) (fun y0_ y1_=>rfl) rfl rfl (fun y0_ y1_ y2_ y3_ y4_=>rfl) (lt_SZ (opn_len (b:=b) (o:=o) ht) (by decide))))
theorem st_del{k:V}(hp:s.psk=[(.int 0,k)]):ex (TT z) d np (.delI 19 (.attr (.loc 0) 13)) ⟨.self::l,enc bf s q⟩ (.ok .next ⟨.self::l,enc bf (s.k []) q⟩):=
 x_delI rfl (congrArg (some∘V.dict) hp) rfl rfl
theorem st_ins{s0:SS}{rq:Bool}{i ln cl:Int}(hv:TokQ g C)(hn:n-s.taken=ts.length)(ht:s.toks=ts++us)(hz:s.toks.length<SZ):
  ex (TT z) d np (.expr (.ins (.attr (.loc 0) 14) (.bin .sub (.attr (.loc 1) 58) (.attr (.loc 0) 15)) (.new g [(.attr (.loc 1) 75),(.attr (.loc 1) 75)] []))) ⟨.self::skey n rq i ln cl (mk bf s0)::l,enc bf s q⟩ (.ok .next ⟨.self::skey n rq i ln cl (mk bf s0)::l,enc bf (s.t (ts++tk2 C bf s0 s0::us)) q⟩):=by
 have h:=e_ins (d:=d) (σ:=⟨.self::skey n rq i ln cl (mk bf s0)::l,enc bf s q⟩) (m:=(ts.length:Int)) (a:=.bin .sub (.attr (.loc 1) 58) (.attr (.loc 0) 15)) (e:=.new g [(.attr (.loc 1) 75),(.attr (.loc 1) 75)] []) place14 (congrArg (some∘V.int) hn) (x_new z.recs (a_cons (e_p rfl) rfl (a_cons (e_p rfl) rfl a_nil)) (hv z _ bf s0 s0)) place14 rfl hz (Int.natCast_nonneg _) (by rw[ht,List.length_append];exact Nat.le_add_right _ _);have e:s.toks.take (Int.toNat ts.length)++tk2 C bf s0 s0::s.toks.drop (Int.toNat ts.length)=ts++tk2 C bf s0 s0::us:=by
  rw[ht,Int.toNat_natCast,List.take_left,List.drop_left]
 rw[e] at h;exact x_expr h
noncomputable def opk(bf:List Nat)(s s0:SS)(b:Int)(o:List Int)(cl:Int)(ts us:List V):SS:={s with ind:=if b<cl then cl else s.ind,inds:=if b<cl then(b::o).reverse.map V.int else s.inds,toks:=ts++if b<cl then tk2 215 bf s0 s0::tk2 287 bf s0 s0::us else tk2 287 bf s0 s0::us}
theorem opk_y{s0:SS}{cl:Int}(h:b<cl):opk bf s s0 b o cl ts us=cutS s cl (b::o) (ts++tk2 215 bf s0 s0::tk2 287 bf s0 s0::us):=by unfold opk;simp only[if_pos h];rfl
theorem opk_n{s0:SS}{cl:Int}(h:¬b<cl):opk bf s s0 b o cl ts us=s.t (ts++tk2 287 bf s0 s0::us):=by unfold opk;simp only[if_neg h];rfl
theorem opk_len{s0:SS}{cl:Int}(htt:s.toks=ts++us)(ht:s.toks.length<1000):(opk bf s s0 b o cl ts us).toks.length<1002:=by
 rw[htt,List.length_append] at ht;show(ts++(if b<cl then _ else _:List V)).length<1002;rw[List.length_append]
 by_cases h:b<cl
 ·rw[if_pos h];exact Nat.succ_lt_succ (Nat.succ_lt_succ ht)
 ·rw[if_neg h];exact Nat.lt_succ_of_lt (Nat.succ_lt_succ ht)
theorem fetch_vkey{s0:SS}{rq:Bool}{i ln cl:Int}(hA:At bf s (58::r))(hk:Stk s b o)(hp:s.psk=[(.int 0,skey n rq i ln cl (mk bf s0))])(hn:n-s.taken=ts.length)(htt:s.toks=ts++us)(hl:o.length<1000)(ht:s.toks.length<1000):
  run (TT z) (d+3) 26 [.self] (enc bf s q) (.ret .none (enc bf ((((adv (opk bf s s0 b o cl ts us) 1).a false).k []).t ((opk bf s s0 b o cl ts us).toks++[tk2 299 bf s (adv s 1)])) q) [.self]):=by
 have h:ex (TT z) (d+2) 1 (.ite (.not (.tv (.attr (.loc 0) 13))) [(.ite (.tv (.mcal (.loc 0) 70 19 [(.attr (.loc 1) 11)] [])) [(.expr (.ins (.attr (.loc 0) 14) (.bin .sub (.attr (.loc 1) 58) (.attr (.loc 0) 15)) (.new 73 [(.attr (.loc 1) 75),(.attr (.loc 1) 75)] [])))] [])] [])
   ⟨[.self,skey n rq i ln cl (mk bf s0),.absent,.absent,.absent],enc bf ((s.k []).t (ts++tk2 287 bf s0 s0::us)) q⟩ (.ok .next ⟨[.self,skey n rq i ln cl (mk bf s0),.absent,.absent,.absent],enc bf ((opk bf s s0 b o cl ts us).k []) q⟩):=by
  refine x_iT (t_p rfl) (x_cons ?_ x_nil)
  by_cases hb:b<cl
  ·rw[opk_y hb];exact x_iT (t_add1 (s:=(s.k []).t (ts++tk2 287 bf s0 s0::us)) rfl hk hb (lt_SZ hl (by decide))) (x_cons (st_ins (s:=cutS (s.k []) cl (b::o) (ts++tk2 287 bf s0 s0::us)) (fun y0_ y1_ y2_ y3_ y4_=>rfl) hn rfl (by
    show(ts++_::us).length<SZ;rw[htt,List.length_append] at ht;rw[List.length_append];exact lt_SZ (Nat.succ_lt_succ ht) (by decide))) x_nil)
  ·rw[opk_n hb];exact x_iF (t_add0 (s:=(s.k []).t (ts++tk2 287 bf s0 s0::us)) rfl hk hb) x_nil
 exact run_to (x_cons (x_iT (t_key hp rfl) (x_cons (x_asg (e_p (congrArg (fun p=>(subV (.dict p) (.int 0)).bind fun u=>onB u.nl (some u)) hp)) rfl) (x_cons (st_del hp) (x_cons (st_ins (s:=s.k []) (fun y0_ y1_ y2_ y3_ y4_=>rfl) hn htt (lt_SZ ht (by decide))) (x_cons h (x_qs rfl))))))
  (st_sign (s:=((opk bf s s0 b o cl ts us).k []).a false) (x:=.absent) (y:=.absent) (f:=fun m n'=>[skey n rq i ln cl (mk bf s0),.absent,m,n']) (C:=299) ⟨hA.ex⟩ (by decide) (fun y0_=>rfl) (fun y0_ y1_=>rfl) (fun y0_ y1_=>rfl) (fun y0_ y1_=>rfl) rfl rfl (fun y0_ y1_ y2_ y3_ y4_=>rfl) (lt_SZ (opk_len (o:=o) htt ht) (by decide))))
end Mine.Internal
end
section
open PySem PySem.W
namespace Mine.Internal
variable{z:Zk} {bf:List Nat} {s:SS} {q:QS} {d c i:Nat} {r:List Nat} {l:List V}
noncomputable def letter(c:Nat):Prop:=97≤c∧c≤122
theorem letter.nin{l:List Nat}(h:letter c)(hl:l.all (fun k=>k<97||122<k)=true):c∉l:=fun q=>(Bool.or_eq_true_iff.mp (List.all_eq_true.mp hl c q)).elim (fun e=>Nat.not_lt.mpr h.1 (of_decide_eq_true e)) fun e=>Nat.not_lt.mpr h.2 (of_decide_eq_true e)
theorem letter.ne{k:Nat}(h:letter c)(hk:[k].all (fun k=>k<97||122<k)=true):c≠k:=fun e=>h.nin hk (e▸ .head _)
theorem letter.plain(h:letter c):plainc c:=h.nin rfl
theorem letter.br(h:letter c):notBr c:=h.nin rfl
section
variable{T:Tb} {σ:St} {a b:Nat}
theorem cmp2_pt(h:σ.loc[i]? =some (.str [c])):pt T σ (.cmp2 (.cS [a]) .le (.loc i) .le (.cS [b]))=some (if decide (a≤c)=true then decide (c≤b) else false):=by
 show(((σ.loc[i]?).bind fun v=>if isAb v=false then some v else none).bind fun y=>(cmpV .le (.str [a]) y).bind fun q=>if q then some (.str [b])|>.bind fun z=>cmpV .le y z else some false)=_;rw[h];show(if decide (a≤c)=true then some (decide (c≤b)) else some false)=_;cases decide (a≤c)<;>rfl
theorem t_let{es:List E}(hc:letter c)(h:σ.loc[i]? =some (.str [c])):tr T d (.or (.cmp2 (.cS [48]) .le (.loc i) .le (.cS [57])::.cmp2 (.cS [65]) .le (.loc i) .le (.cS [90])::.cmp2 (.cS [97]) .le (.loc i) .le (.cS [122])::es)) σ (.ok true σ):=
 have k {a b:Nat} (n:b<97):(if decide (a≤c)=true then decide (c≤b) else false)=false:=by
  rw[decide_eq_false (Nat.not_le.mpr (Nat.lt_of_lt_of_le n hc.1))];cases decide (a≤c)<;>rfl
 t_orF (t_p ((cmp2_pt h).trans (congrArg some (k (by decide))))) (t_orF (t_p ((cmp2_pt h).trans (congrArg some (k (by decide))))) (t_orT (t_p ((cmp2_pt h).trans (congrArg some (by rw[decide_eq_true hc.1,decide_eq_true hc.2];rfl))))))
end
noncomputable def mark2(a b:V):List (Nat×V):=[(94,a),(99,b)]
noncomputable def tkAnchor(bf:List Nat)(c:Nat)(a b:SS):V:=.inst 361 ((119,.str [c])::mark2 (mk bf a) (mk bf b))
noncomputable def tkTag(bf:List Nat)(c:Nat)(a b:SS):V:=.inst 380 ((119,.tup [.str [33],.str [c]])::mark2 (mk bf a) (mk bf b))
noncomputable def tkScalar(bf:List Nat)(c:Nat)(plain:Bool)(st:V)(a b:SS):V:=.inst 400 [(119,.str [c]),(127,.bool plain),(94,mk bf a),(99,mk bf b),(82,st)]
theorem st_fwl(hA:At bf s (c::r))(hc:letter c){e:E}{np:Nat}(ha:bindQ (TT z) 3 [.self] ⟨.self::l,enc bf s q⟩ [e] []=some [.self,.int 1]):ex (TT z) (d+2) np (.expr (.mcal (.loc 0) 68 3 [e] [])) ⟨.self::l,enc bf s q⟩ (.ok .next ⟨.self::l,enc bf (adv s 1) q⟩):=
 st_fwn (cs:=[c]) hA (fun y0_ h=>List.eq_of_mem_singleton h▸hc.plain) ha
theorem scan_anchor(hz:bf.length≤SZ)(hA:At bf s (38::c::32::r))(hc:letter c):
  run (TT z) (d+3) 38 [.self,.glob 361] (enc bf s q) (.ret (tkAnchor bf c s (adv s 2)) (enc bf (adv s 2) q) [.self,.glob 361]):=by
 have hB:=hA.adv;have hC:=hB.adv;rw[show adv s 2=adv (adv s 1) 1 from(adv_adv 1 1).symm];exact run_to<|x_cons (x_a2 e_mark rfl)<|x_cons (x_a3 (e_peek0 hA) rfl)<|x_cons (x_iF (t_p rfl)<|x_cons (x_a4 (e_p rfl) rfl) x_nil)<|x_cons (st_fw1 hA (by decide))<|x_cons (x_a5 (e_p rfl) rfl)<|x_cons (x_a6 (e_peek hB (k:=0) rfl rfl) rfl)<|
  x_cons (x_whl (w_go (t_let hc rfl) (x_cons (x_q rfl) (x_cons (x_a6 (e_peek hB (k:=1) rfl rfl) rfl) x_nil)) (w_stop (t_p rfl))))<|x_cons (x_iF (t_p rfl) x_nil)<|x_cons (x_a7 (e_prefix hB hz (n:=1) rfl) rfl)<|x_cons (st_fwl hB hc rfl)<|x_cons (x_a6 (e_peek0 hC) rfl)<|x_cons (x_iF (t_p rfl) x_nil)<|
  x_cons (x_a8 e_mark rfl)<|x_end (x_ret (e_newv z.recs rfl) rfl)
theorem scan_uri(hz:bf.length≤SZ)(hA:At bf s (c::32::r))(hc:letter c){s0:SS}:run (TT z) (d+3) 44 [.self,.str [116,97,103],mk bf s0] (enc bf s q) (.ret (.str [c]) (enc bf (adv s 1) q) [.self,.str [116,97,103],mk bf s0]):=
 run_to<|x_cons (x_a3 (e_lst a_nil rfl (by decide)) rfl)<|x_cons (x_a4 (e_p rfl) rfl)<|x_cons (x_a5 (e_peek hA (k:=0) rfl rfl) rfl)<|
  x_cons (x_whl (w_go (t_let hc rfl) (x_cons (x_iF (t_p (cmp_eq (hc.ne rfl))) (x_qs rfl)) (x_cons (x_a5 (e_peek hA (k:=1) rfl rfl) rfl) x_nil)) (w_stop (t_p rfl))))<|
  x_cons (x_iT (t_p rfl)<|x_cons (x_expr (e_app (.loc rfl) (e_prefix hA hz (n:=1) rfl) (.loc rfl) rfl (by decide)))<|x_cons (st_fwl hA hc rfl)<|x_cons (x_a4 (e_p rfl) rfl) x_nil)<|x_cons (x_iF (t_p rfl) x_nil)<|x_qs rfl
theorem scan_tag(hz:bf.length≤SZ)(hA:At bf s (33::c::32::r))(hc:letter c):run (TT z) (d+4) 39 [.self] (enc bf s q) (.ret (tkTag bf c s (adv s 2)) (enc bf (adv s 2) q) [.self]):=by
 have hB:=hA.adv;have hC:=hB.adv;rw[show adv s 2=adv (adv s 1) 1 from(adv_adv 1 1).symm];exact run_to<|x_cons (x_a1 e_mark rfl)<|x_cons (x_a2 (e_peek hA (k:=1) rfl rfl) rfl)<|
  x_cons (x_iF (t_p (cmp_eq (hc.ne rfl)))<|x_cons (x_iF (t_p (cmp_in (hc.nin rfl)))<|x_cons (x_a5 (e_p rfl) rfl)<|x_cons (x_a6 (e_p rfl) rfl)<|
   x_cons (x_whl (w_go (t_p (cmp_nin (hc.nin rfl))) (x_cons (x_iF (t_p (cmp_eq (hc.ne rfl))) x_nil)<|x_cons (x_q rfl)<|x_cons (x_a2 (e_peek hA (k:=2) rfl rfl) rfl) x_nil) (w_stop (t_p rfl))))<|
   x_cons (x_a3 (e_p rfl) rfl)<|x_cons (x_iF (t_p rfl)<|x_cons (x_a3 (e_p rfl) rfl)<|x_cons (st_fw1 hA (by decide)) x_nil)<|x_cons (x_a4 (m_cal rfl rfl (scan_uri hz hB hc)) rfl) x_nil) x_nil)<|
  x_cons (x_a2 (e_peek0 hC) rfl)<|x_cons (x_iF (t_p rfl) x_nil)<|x_cons (x_a7 (e_tupP rfl rfl) rfl)<|x_cons (x_a8 e_mark rfl)<|x_end (x_ret (e_new z.recs rfl) rfl)
theorem quote_spaces(hz:bf.length≤SZ)(hA:At bf s (c::39::32::r))(hc:letter c){s0:SS}:
  run (TT z) (d+3) 41 [.self,.bool false,mk bf s0] (enc bf s q) (.ret (.list [.str [c]]) (enc bf (adv s 1) q) [.self,.bool false,mk bf s0]):=by
 have hB:=hA.adv;exact run_to<|x_cons (x_a3 (e_lst a_nil rfl (by decide)) rfl)<|x_end<|x_whl<|w_ret (t_p rfl)<|x_cons (x_a4 (e_p rfl) rfl)<|
  x_cons (x_whl (w_go (t_cmp (e_peek hA (k:=0) rfl rfl) rfl (cmp_nin (hc.nin rfl))) (x_qs rfl) (w_stop (t_cmp (e_peek hA (k:=1) rfl rfl) rfl rfl))))<|
  x_cons (x_iT (t_p rfl)<|x_cons (x_expr (e_app (.loc rfl) (e_prefix hA hz (n:=1) rfl) (.loc rfl) rfl (by decide)))<|x_cons (st_fwl hA hc rfl) x_nil)<|
  x_cons (x_a5 (e_peek0 hB) rfl)<|x_end<|x_iF (t_andT (t_p rfl)<|t_andT (t_p rfl)<|t_andF (t_cmp (e_peek hB (k:=1) rfl rfl) rfl rfl))<|
  x_end<|x_iF (t_p rfl)<|x_end<|x_iF (t_p rfl)<|x_end (x_ret (e_mv rfl rfl) rfl)
theorem scan_quoted(hz:bf.length≤SZ)(hA:At bf s (39::c::39::32::r))(hc:letter c):
  run (TT z) (d+4) 40 [.self,.str [39]] (enc bf s q) (.ret (tkScalar bf c false (.str [39]) s (adv s 3)) (enc bf (adv s 3) q) [.self,.str [39]]):=by
 have hB:=hA.adv;have hC:=hB.adv;rw[show adv s 3=adv (adv (adv s 1) 1) 1 by rw[adv_adv,adv_adv];rfl];exact run_to<|x_cons (x_iF (t_p rfl)<|x_cons (x_a2 (e_p rfl) rfl) x_nil)<|x_cons (x_a3 (e_lst a_nil rfl (by decide)) rfl)<|x_cons (x_a4 e_mark rfl)<|x_cons (x_a5 (e_peek0 hA) rfl)<|x_cons (st_fw1 hA (by decide))<|
  x_cons (x_expr (e_ext (.loc rfl) (m_cal rfl rfl (quote_spaces hz hB hc)) (.loc rfl) (Nat.succ_lt_succ (by decide))))<|x_cons (x_whl (w_stop (t_cmp (e_peek0 hC) rfl rfl)))<|x_cons (st_fw1 hC (by decide))<|x_cons (x_a6 e_mark rfl)<|x_end (x_ret (e_new z.recs rfl) rfl)
end Mine.Internal
end
section
open PySem PySem.W
namespace Mine.Internal
variable{z:Zk} {bf:List Nat} {s:SS} {q:QS} {d c i np:Nat} {r:List Nat} {l:List V}
theorem st_ask{e:E}{b:Bool}(h:ev (TT z) d e ⟨.self::l,enc bf s q⟩ (.ok (.bool b) ⟨.self::l,enc bf s q⟩)):ex (TT z) d np (.setA 18 e) ⟨.self::l,enc bf s q⟩ (.ok .next ⟨.self::l,enc bf (s.a b) q⟩):=x_setA h rfl
theorem st_fw0(hA:At bf s r){e:E}(ha:bindQ (TT z) 3 [.self] ⟨.self::l,enc bf s q⟩ [e] []=some [.self,.int 0]):ex (TT z) (d+2) np (.expr (.mcal (.loc 0) 68 3 [e] [])) ⟨.self::l,enc bf s q⟩ (.ok .next ⟨.self::l,enc bf s q⟩):=by
 have h:=st_fwn (cs:=[]) (d:=d) (np:=np) (r:=r) hA nofun ha;rwa[show adv s ([]:List Nat).length=s from adv0] at h
theorem plain_sp0(hz:bf.length≤SZ)(hA:At bf s (58::r)){i:Int}{s0:SS}:run (TT z) (d+3) 43 [.self,.int i,mk bf s0] (enc bf s q) (.ret (.list []) (enc bf s q) [.self,.int i,mk bf s0]):=
 run_to<|x_cons (x_a3 (e_lst a_nil rfl (by decide)) rfl)<|x_cons (x_a4 (e_p rfl) rfl)<|x_cons (x_whl (w_stop (t_cmp (e_peek hA (k:=0) rfl rfl) rfl rfl)))<|x_cons (x_a5 (e_prefix hA hz (n:=0) rfl) rfl)<|x_cons (st_fw0 hA rfl)<|x_cons (x_a6 (e_peek0 hA) rfl)<|
  x_cons (x_iF (t_p rfl)<|x_cons (x_iF (t_p rfl) x_nil) x_nil)<|x_end (x_ret (e_mv rfl rfl) rfl)
theorem plain_sp1(hz:bf.length≤SZ)(hA:At bf s (32::35::r)){i:Int}{s0:SS}:run (TT z) (d+3) 43 [.self,.int i,mk bf s0] (enc bf s q) (.ret (.list [.str [32]]) (enc bf (adv s 1) q) [.self,.int i,mk bf s0]):=
 run_to<|x_cons (x_a3 (e_lst a_nil rfl (by decide)) rfl)<|x_cons (x_a4 (e_p rfl) rfl)<|x_cons (x_whl (w_go (t_cmp (e_peek hA (k:=0) rfl rfl) rfl rfl) (x_qs rfl) (w_stop (t_cmp (e_peek hA (k:=1) rfl rfl) rfl rfl))))<|x_cons (x_a5 (e_prefix hA hz (n:=1) rfl) rfl)<|
  x_cons (st_fwn (cs:=[32]) hA (by decide) rfl)<|x_cons (x_a6 (e_peek0 hA.adv) rfl)<|x_cons (x_iF (t_p rfl)<|x_cons (x_iT (t_p rfl)<|x_cons (x_expr (e_app (.loc rfl) (e_p rfl) (.loc rfl) rfl (by decide))) x_nil) x_nil)<|x_end (x_ret (e_mv rfl rfl) rfl)
theorem scan_key(hz:bf.length≤SZ)(hA:At bf s (c::58::32::r))(hc:letter c):run (TT z) (d+4) 42 [.self] (enc bf s q) (.ret (tkScalar bf c true .none s (adv s 1)) (enc bf ((adv s 1).a false) q) [.self]):=
 run_to<|x_cons (x_a1 (e_lst a_nil rfl (by decide)) rfl)<|x_cons (x_a2 e_mark rfl)<|x_cons (x_a3 (e_p rfl) rfl)<|x_cons (x_a4 (e_p rfl) rfl)<|x_cons (x_a5 (e_lst a_nil rfl (by decide)) rfl)<|
  x_cons (x_whl (w_brk (t_p rfl)<|x_cons (x_a6 (e_p rfl) rfl)<|x_cons (x_iF (t_peek0 hA (cmp_eq (hc.ne rfl))) x_nil)<|
   x_cons (x_whl (w_go (t_p rfl) (x_cons (x_a7 (e_peek hA (k:=0) rfl rfl) rfl)<|x_cons (x_iF (t_orF (t_p (cmp_in (hc.nin rfl)))<|t_orF (t_andF (t_p (cmp_eq (hc.ne rfl))))<|t_orF (t_andF (t_p rfl)) t_or0) x_nil) (x_qs rfl))
    (w_brk (t_p rfl)<|x_cons (x_a7 (e_peek hA (k:=1) rfl rfl) rfl)<|x_end<|x_iT (t_orF (t_p rfl)<|t_orT<|t_andT (t_p rfl)<|t_andT (t_cmp (e_peek hA (k:=2) rfl rfl) rfl rfl) t_and0) (x_qs rfl))))<|
   x_cons (x_iF (t_p rfl) x_nil)<|x_cons (st_ask (e_p rfl))<|x_cons (x_expr (e_ext (.loc rfl) (e_mv rfl rfl) (.loc rfl) (by decide)))<|x_cons (x_expr (e_app (.loc rfl) (e_prefix (s:=s.a false) ⟨hA.ex⟩ hz (n:=1) rfl) (.loc rfl) rfl (by decide)))<|x_cons (st_fwl (s:=s.a false) ⟨hA.ex⟩ hc rfl)<|
   x_cons (x_a3 e_mark rfl)<|x_cons (x_a5 (m_cal rfl rfl (plain_sp0 (s:=(adv s 1).a false) hz ⟨hA.adv.ex⟩)) rfl)<|x_end<|x_iT (t_orT (t_p rfl)) (x_qs rfl)))<|
  x_end (x_ret (e_new z.recs rfl) rfl)
theorem scan_val(hz:bf.length≤SZ)(hA:At bf s (c::32::35::r))(hc:letter c):run (TT z) (d+4) 42 [.self] (enc bf s q) (.ret (tkScalar bf c true .none s (adv s 1)) (enc bf ((adv (adv s 1) 1).a false) q) [.self]):=
 run_to<|x_cons (x_a1 (e_lst a_nil rfl (by decide)) rfl)<|x_cons (x_a2 e_mark rfl)<|x_cons (x_a3 (e_p rfl) rfl)<|x_cons (x_a4 (e_p rfl) rfl)<|x_cons (x_a5 (e_lst a_nil rfl (by decide)) rfl)<|
  x_cons (x_whl (w_brk (t_p rfl)<|x_cons (x_a6 (e_p rfl) rfl)<|x_cons (x_iF (t_peek0 hA (cmp_eq (hc.ne rfl))) x_nil)<|
   x_cons (x_whl (w_go (t_p rfl) (x_cons (x_a7 (e_peek hA (k:=0) rfl rfl) rfl)<|x_cons (x_iF (t_orF (t_p (cmp_in (hc.nin rfl)))<|t_orF (t_andF (t_p (cmp_eq (hc.ne rfl))))<|t_orF (t_andF (t_p rfl)) t_or0) x_nil) (x_qs rfl))
    (w_brk (t_p rfl)<|x_cons (x_a7 (e_peek hA (k:=1) rfl rfl) rfl)<|x_end<|x_iT (t_orT (t_p rfl)) (x_qs rfl))))<|
   x_cons (x_iF (t_p rfl) x_nil)<|x_cons (st_ask (e_p rfl))<|x_cons (x_expr (e_ext (.loc rfl) (e_mv rfl rfl) (.loc rfl) (by decide)))<|x_cons (x_expr (e_app (.loc rfl) (e_prefix (s:=s.a false) ⟨hA.ex⟩ hz (n:=1) rfl) (.loc rfl) rfl (by decide)))<|x_cons (st_fwl (s:=s.a false) ⟨hA.ex⟩ hc rfl)<|
   x_cons (x_a3 e_mark rfl)<|x_cons (x_a5 (m_cal rfl rfl (plain_sp1 (s:=(adv s 1).a false) hz ⟨hA.adv.ex⟩)) rfl)<|x_end<|x_iT (t_orF (t_p rfl)<|t_orT (t_peek0 (s:=(adv (adv s 1) 1).a false) ⟨hA.adv.adv.ex⟩ rfl)) (x_qs rfl)))<|
  x_end (x_ret (e_new z.recs rfl) rfl)
noncomputable def saved(bf:List Nat)(s:SS):SS:=s.k (if s.ask=true then [(.int 0,key0 bf s)] else s.psk)
theorem save_spec(hp:s.ask=true→s.psk=[]):run (TT z) (d+2) 16 [.self] (enc bf s q) (.ret .none (enc bf (saved bf s) q) [.self]):=by
 unfold saved
 by_cases ha:s.ask=true
 ·rw[if_pos ha];exact save1 ha (hp ha)
 ·rw[if_neg ha];exact save0 (Bool.eq_false_iff.mpr ha)
theorem st_save(hp:s.ask=true→s.psk=[]):ex (TT z) (d+2) np (.expr (.mcal (.loc 0) 77 16 [] [])) ⟨.self::l,enc bf s q⟩ (.ok .next ⟨.self::l,enc bf (saved bf s) q⟩):=x_expr (m_cal rfl rfl (save_spec hp))
theorem fetch_tk{e:E}{s':SS}{t:V}(hp:s.ask=true→s.psk=[])(ht:s.toks.length<1000)(hn:t.nl=true)(h:ev (TT z) (d+4) e ⟨.self::l,enc bf ((saved bf s).a false) q⟩ (.ok t ⟨.self::l,enc bf (s'.t s.toks) q⟩)):
  exs (TT z) (d+4) np [(.expr (.mcal (.loc 0) 77 16 [] [])),(.setA 18 (.cB false)),(.expr (.app (.attr (.loc 0) 14) e))] ⟨.self::l,enc bf s q⟩ (.ok .next ⟨.self::l,enc bf (s'.t (s.toks++[t])) q⟩):=
 x_cons (st_save hp)<|x_cons (st_ask (e_p rfl))<|x_cons (x_expr (e_app place14 h (place14 (s:=s'.t s.toks)) hn (lt_SZ ht (by decide)))) x_nil
theorem fetch_amp(hz:bf.length≤SZ)(hA:At bf s (38::c::32::r))(hc:letter c)(hp:s.ask=true→s.psk=[])(ht:s.toks.length<1000):
  run (TT z) (d+5) 27 [.self] (enc bf s q) (.ret .none (enc bf (((adv (saved bf s) 2).a false).t (s.toks++[tkAnchor bf c s (adv s 2)])) q) [.self]):=
 run_to<|fetch_tk (s':=(adv (saved bf s) 2).a false) hp ht rfl (m_cal rfl rfl (scan_anchor (s:=(saved bf s).a false) hz ⟨hA.ex⟩ hc))
theorem fetch_bang(hz:bf.length≤SZ)(hA:At bf s (33::c::32::r))(hc:letter c)(hp:s.ask=true→s.psk=[])(ht:s.toks.length<1000):
  run (TT z) (d+5) 28 [.self] (enc bf s q) (.ret .none (enc bf (((adv (saved bf s) 2).a false).t (s.toks++[tkTag bf c s (adv s 2)])) q) [.self]):=
 run_to<|fetch_tk (s':=(adv (saved bf s) 2).a false) hp ht rfl (m_cal rfl rfl (scan_tag (s:=(saved bf s).a false) hz ⟨hA.ex⟩ hc))
theorem fetch_single(hz:bf.length≤SZ)(hA:At bf s (39::c::39::32::r))(hc:letter c)(hp:s.ask=true→s.psk=[])(ht:s.toks.length<1000):
  run (TT z) (d+6) 29 [.self] (enc bf s q) (.ret .none (enc bf (((adv (saved bf s) 3).a false).t (s.toks++[tkScalar bf c false (.str [39]) s (adv s 3)])) q) [.self]):=
 run_to<|x_cons (x_expr (m_cal rfl rfl (run_to<|fetch_tk (s':=(adv (saved bf s) 3).a false) hp ht rfl (m_cal rfl rfl (scan_quoted (s:=(saved bf s).a false) hz ⟨hA.ex⟩ hc))))) x_nil
theorem fetch_pk(hz:bf.length≤SZ)(hA:At bf s (c::58::32::r))(hc:letter c)(hp:s.ask=true→s.psk=[])(ht:s.toks.length<1000):
  run (TT z) (d+5) 31 [.self] (enc bf s q) (.ret .none (enc bf (((adv (saved bf s) 1).a false).t (s.toks++[tkScalar bf c true .none s (adv s 1)])) q) [.self]):=
 run_to<|fetch_tk (s':=(adv (saved bf s) 1).a false) hp ht rfl (m_cal rfl rfl (scan_key (s:=(saved bf s).a false) hz ⟨hA.ex⟩ hc))
theorem fetch_pv(hz:bf.length≤SZ)(hA:At bf s (c::32::35::r))(hc:letter c)(hp:s.ask=true→s.psk=[])(ht:s.toks.length<1000):
  run (TT z) (d+5) 31 [.self] (enc bf s q) (.ret .none (enc bf (((adv (adv (saved bf s) 1) 1).a false).t (s.toks++[tkScalar bf c true .none s (adv s 1)])) q) [.self]):=
 run_to<|fetch_tk (s':=(adv (adv (saved bf s) 1) 1).a false) hp ht rfl (m_cal rfl rfl (scan_val (s:=(saved bf s).a false) hz ⟨hA.ex⟩ hc))
end Mine.Internal
end
section
open PySem PySem.W
namespace Mine.Internal
variable{z:Zk} {bf:List Nat} {s:SS} {q:QS} {d c i np a m:Nat} {r g:List Nat} {l:List V} {e:E} {cl b:Int} {ps o:List Int} {v:V} {P:Pt}
theorem st_unw(ha:bindQ (TT z) 18 [.self] ⟨.self::l,enc bf s q⟩ [e] []=some [.self,.int cl])(hb:b≤cl)(hp:∀p∈ps,cl<p)(hk:∃a t,ps++b::o=a::t∧Stk s a t)(ht:s.toks.length+ps.length<SZ):
  ex (TT z) (d+2) np (.expr (.mcal (.loc 0) 42 18 [e] [])) ⟨.self::l,enc bf s q⟩ (.ok .next ⟨.self::l,enc bf (cutS s b o (s.toks++List.replicate ps.length (tk2 227 bf s s))) q⟩):=x_expr (m_cal rfl ha (unwind_spec hb hp hk ht))
theorem st_unw0(ha:bindQ (TT z) 18 [.self] ⟨.self::l,enc bf s q⟩ [e] []=some [.self,.int cl])(hk:Stk s b o)(hb:b≤cl)(ht:s.toks.length<1000):
  ex (TT z) (d+2) np (.expr (.mcal (.loc 0) 42 18 [e] [])) ⟨.self::l,enc bf s q⟩ (.ok .next ⟨.self::l,enc bf s q⟩):=by
 have h:=st_unw (d:=d) (np:=np) (ps:=[]) ha hb nofun ⟨_,_,rfl,hk⟩ (lt_SZ ht (by decide));have e:cutS s b o (s.toks++[])=s:=(congrArg (cutS s b o) (List.append_nil _)).trans hk.eq;rw[show cutS s b o (s.toks++List.replicate ([]:List Int).length (tk2 227 bf s s))=s from e] at h;exact h
theorem fetch_end(hk:∃a t,ps++[-1]=a::t∧Stk s a t)(hps:∀p∈ps,-1<p)(hp:s.psk=[])(ht:s.toks.length+ps.length<1000):
  run (TT z) (d+3) 21 [.self] (enc bf s q) (.ret .none (enc bf {((cutS s (-1) [] (s.toks++List.replicate ps.length (tk2 227 bf s s)++[tk2 191 bf s s])).a false).k [] with done:=true} q) [.self]):=
 run_to<|x_cons (st_unw (b:= -1) (o:=[]) rfl (Int.le_refl _) hps hk (lt_SZ ht (by decide)))<|x_cons (st_rem hp)<|x_cons (st_ask (e_p rfl))<|x_cons (x_setA e_dic rfl)<|
  x_cons (x_a1 (e_mark (s:=((cutS s (-1) [] (s.toks++List.replicate ps.length (tk2 227 bf s s))).a false).k [])) rfl)<|x_cons (st_tok (s:=((cutS s (-1) [] (s.toks++List.replicate ps.length (tk2 227 bf s s))).a false).k []) (m1:=s) (m2:=s) (C:=191) (fun y0_ y1_ y2_ y3_ y4_=>rfl) rfl rfl (by
   show(s.toks++List.replicate _ _).length<SZ;rw[List.length_append,List.length_replicate];exact lt_SZ ht (by decide)))<|x_qs rfl
theorem fetch_doc(hA:At bf s (45::45::45::r))(hk:Stk s (-1) [])(hp:s.psk=[])(ht:s.toks.length<1000):
  run (TT z) (d+4) 22 [.self] (enc bf s q) (.ret .none (enc bf (((adv s 3).a false).t (s.toks++[tk2 147 bf s (adv s 3)])) q) [.self]):=
 run_to<|x_cons (x_expr (m_cal rfl rfl (run_to<|x_cons (st_unw0 rfl hk (Int.le_refl _) ht)<|x_cons (st_rem hp)<|x_cons (st_ask (e_p rfl))<|x_cons (x_a2 (e_mark (s:=s.a false)) rfl)<|x_cons (st_fwn (s:=s.a false) (cs:=[45,45,45]) ⟨hA.ex⟩ (by decide) rfl)<|
  x_cons (x_a3 (e_mark (s:=(adv s 3).a false)) rfl)<|x_cons (x_expr (e_app (place14 (s:=(adv s 3).a false)) (e_newv z.recs rfl) (place14 (s:=(adv s 3).a false)) rfl (lt_SZ ht (by decide)))) x_nil))) x_nil
theorem three_no:cmpV .eq (.str (List.take 3 (45::32::r))) (.str [45,45,45])=some false:=by cases r<;>exact congrArg some (decide_eq_false fun e=>nomatch (List.cons.inj (List.cons.inj e).2).1)
theorem check_doc0(hz:bf.length≤SZ)(hA:At bf s (45::32::r)):run (TT z) (d+3) 32 [.self] (enc bf s q) (.ret .none (enc bf s q) [.self]):=by
 by_cases hc:s.col=0
 ·exact run_to<|x_cons (x_iT (t_p (congrArg some (decide_eq_true hc)))<|x_cons (x_iF (t_andF (t_cmp (e_prefix (n:=3) hA hz rfl) rfl three_no)) x_nil) x_nil) x_nil
 ·exact run_to<|x_cons (x_iF (t_p (congrArg some (decide_eq_false hc))) x_nil) x_nil
theorem check_doc1(hz:bf.length≤SZ)(hA:At bf s (45::45::45::10::r))(hc:s.col=0):run (TT z) (d+3) 32 [.self] (enc bf s q) (.ret (.bool true) (enc bf s q) [.self]):=
 run_to<|x_end<|x_iT (t_p (congrArg some (decide_eq_true hc)))<|x_end<|x_iT (t_andT (t_cmp (e_prefix (n:=3) hA hz rfl) rfl rfl)<|t_andT (t_cmp (e_peek hA (k:=3) rfl rfl) rfl rfl) t_and0) (x_qs rfl)
theorem e_blank(hA:At bf s (c::32::r)):ev (TT z) (d+1) (.cmp .isin (.mcal (.loc 0) 43 1 [(.cI 1)] []) (.cS [0,32,9,13,10,133,8232,8233])) ⟨.self::l,enc bf s q⟩ (.ok (.bool true) ⟨.self::l,enc bf s q⟩):=e_cmp (e_peek hA (k:=1) rfl rfl) rfl rfl
theorem check_entry(hA:At bf s (c::32::r)):run (TT z) (d+2) 33 [.self] (enc bf s q) (.ret (.bool true) (enc bf s q) [.self]):=run_to<|x_end<|x_ret (e_blank hA) rfl
theorem check_q(hA:At bf s (c::32::r)):run (TT z) (d+2) 34 [.self] (enc bf s q) (.ret (.bool true) (enc bf s q) [.self]):=run_to<|x_end<|x_iF (t_p rfl)<|x_end<|x_ret (e_blank hA) rfl
theorem check_colon(hA:At bf s (c::32::r)):run (TT z) (d+2) 35 [.self] (enc bf s q) (.ret (.bool true) (enc bf s q) [.self]):=run_to<|x_end<|x_iF (t_p rfl)<|x_end<|x_ret (e_blank hA) rfl
theorem check_plain(hA:At bf s (c::r))(hc:letter c):run (TT z) (d+2) 36 [.self] (enc bf s q) (.ret (.bool true) (enc bf s q) [.self]):=
 run_to<|x_cons (x_a1 (e_peek0 hA) rfl)<|x_end<|x_ret (e_orT (e_p (congrArg (fun o:Option Bool=>(o.map V.bool).bind fun u=>onB u.nl (some u)) (cmp_nin (hc.nin rfl)))) rfl rfl) rfl
noncomputable abbrev Dsp(z:Zk)(d:Nat)(bf:List Nat)(s:SS)(q:QS)(c:Nat)(v:V)(P:Pt):Prop:=exs (TT z) d 1 (f_Scanner_fetch_more_tokens.code.drop 4) ⟨[.self,.str [c]],enc bf s q⟩ (.ok (.ret v) ⟨[.self,.str [c]],P⟩)
inductive KeepK (s:SS) (a:Nat):Prop
 |no:s.psk=[]→KeepK s a
 |yes {n rq i cl m}:s.psk=[(.int 0,skey n rq i s.line cl m)]→s.idx+a-i≤1024→KeepK s a
inductive DropK (s:SS):Prop
 |no:s.psk=[]→DropK s
 |yes {n i ln cl m}:s.psk=[(.int 0,skey n false i ln cl m)]→ln≠s.line+1→DropK s
noncomputable def sgn(c:Nat):Prop:=c∉[32,35,65279,13,10,133,8232,8233]
theorem fm_any{s1 s2 s3:SS}{x:Nat}{xs:List Nat}(hx:x≠65279)(hA:At bf s (x::xs))(hst:wl (TT z) (d+2) 1 stnT stnB ⟨[.self,.bool false],enc bf s q⟩ (.ok .next ⟨[.self,.bool true],enc bf s1 q⟩))(hk:run (TT z) (d+3) 15 [.self] (enc bf s1 q) (.ret .none (enc bf s2 q) [.self]))
  (hu:ex (TT z) (d+3) 1 (.expr (.mcal (.loc 0) 42 18 [(.attr (.loc 0) 11)] [])) ⟨[.self,.absent],enc bf s2 q⟩ (.ok .next ⟨[.self,.absent],enc bf s3 q⟩)) (hB:At bf s3 (c::r)) (hD:Dsp z (d+3) bf s3 q c v P):run (TT z) (d+4) 13 [.self] (enc bf s q) (.ret v P [.self]):=
 run_to<|x_cons (x_expr (m_cal rfl rfl (stn_run hA hx hst)))<|x_cons (x_expr (m_cal rfl rfl hk))<|x_cons hu<|x_cons (x_a1 (e_peek0 hB) rfl) hD
theorem fm_same(hA:At bf s (List.replicate a 32++c::r))(hc:sgn c)(hk:Stk s b o)(hb:b≤s.col+a)(ht:s.toks.length<1000)(hq:KeepK s a)(hD:Dsp z (d+3) bf (adv s a) q c v P):run (TT z) (d+4) 13 [.self] (enc bf s q) (.ret v P [.self]):=by
 have hst:run (TT z) (d+3) 15 [.self] (enc bf (adv s a) q) (.ret .none (enc bf (adv s a) q) [.self]):=by
  cases hq with
  |no hq=>exact stale0 hq
  |yes hq hi=>exact stale_keep hq rfl hi
 obtain⟨x,xs,hx,e⟩:∃x xs,x≠65279∧List.replicate a 32++c::r=x::xs:=by
  cases a with
  |zero=>exact⟨_,_,nin_ne hc rfl,rfl⟩
  |succ a=>exact⟨_,_,by decide,rfl⟩
 exact fm_any hx (e▸hA) (stn_stop hA (nin_sub hc rfl) (nin_sub hc rfl)) hst (st_unw0 (s:=adv s a) rfl hk hb ht) hA.spaces hD
inductive tailOf:List Nat→Prop
 |n:tailOf []
 |b:tailOf [32]
 |h:tailOf [35]
noncomputable def newS(s:SS)(g:List Nat)(m:Nat):SS:=(adv (nl1 (adv s g.length)) m).a true
theorem stn_new(hz:bf.length≤SZ)(hg:tailOf g)(hA:At bf s (g++10::(List.replicate m 32++c::r)))(hc:sgn c):
  wl (TT z) (d+3) 1 stnT stnB ⟨[.self,.bool false],enc bf s q⟩ (.ok .next ⟨[.self,.bool true],enc bf (newS s g m) q⟩)∧At bf (newS s g m) (c::r):=by
 have hB:At bf (nl1 (adv s g.length)) (List.replicate m 32++c::r):=hA.advs.nl;have hC:At bf ((nl1 (adv s g.length)).a true) (List.replicate m 32++c::r):=⟨hB.ex⟩;have h:=stn_stop (z:=z) (q:=q) (d:=d+1) hC (nin_sub hc rfl) (nin_sub hc rfl);refine⟨?_,hC.spaces⟩;cases hg with
 |n=>exact stn_nl (a:=0) hA hz h
 |b=>exact stn_nl (a:=1) hA hz h
 |h=>exact stn_cm hA hz h
theorem fm_new(hz:bf.length≤SZ)(hg:tailOf g)(hA:At bf s (g++10::(List.replicate m 32++c::r)))(hc:sgn c)(hk:∃x t,ps++b::o=x::t∧Stk s x t)(hps:∀p∈ps,(m:Int)<p)(hb:b≤m)(ht:s.toks.length+ps.length<1000)(hq:DropK s)
  (hD:Dsp z (d+4) bf (cutS ((newS s g m).k []) b o (s.toks++List.replicate ps.length (tk2 227 bf (newS s g m) (newS s g m)))) q c v P):run (TT z) (d+5) 13 [.self] (enc bf s q) (.ret v P [.self]):=by
 have h:=stn_new (z:=z) (q:=q) (d:=d) hz hg hA hc;have hss:run (TT z) (d+4) 15 [.self] (enc bf (newS s g m) q) (.ret .none (enc bf ((newS s g m).k []) q) [.self]):=by
  cases hq with
  |no hq=>rw[SS.k_eq (s:=newS s g m) hq];exact stale0 hq
  |yes hq hl=>exact stale_drop hq hl
 obtain⟨x,xs,hx,e⟩:∃x xs,x≠65279∧g++10::(List.replicate m 32++c::r)=x::xs:=by cases hg<;>exact⟨_,_,by decide,rfl⟩
 have e0:(newS s g m).col=m:=Int.zero_add _;exact fm_any hx (e▸hA) h.1 hss (st_unw (s:=(newS s g m).k []) (e0▸rfl) hb hps hk (lt_SZ ht (by decide))) ⟨h.2.ex⟩ hD
theorem e_call0{x f:Nat}(hb:bindQ (TT z) f [.self] ⟨.self::l,enc bf s q⟩ [] []=some [.self])(h:run (TT z) d f [.self] (enc bf s q) (.ret v P [.self])):ev (TT z) d (.mcal (.loc 0) x f [] []) ⟨.self::l,enc bf s q⟩ (.ok v ⟨.self::l,P⟩):=m_cal rfl hb h
theorem disp_end(hr:run (TT z) d 21 [.self] (enc bf s q) (.ret v P [.self])):Dsp z d bf s q 0 v P:=x_end<|x_iT (t_p rfl)<|x_end<|x_ret (e_call0 rfl hr) rfl
theorem disp_doc(hz:bf.length≤SZ)(hA:At bf s (45::45::45::10::r))(hc:s.col=0)(hr:run (TT z) (d+3) 22 [.self] (enc bf s q) (.ret v P [.self])):Dsp z (d+3) bf s q 45 v P:=
 x_go 2 rfl<|x_end<|x_iT (t_andT (t_p rfl)<|t_andT (t_tv (m_cal rfl rfl (check_doc1 hz hA hc)) rfl rfl) t_and0)<|x_end<|x_ret (e_call0 rfl hr) rfl
theorem disp_dash(hz:bf.length≤SZ)(hA:At bf s (45::32::r))(hr:run (TT z) (d+3) 24 [.self] (enc bf s q) (.ret v P [.self])):Dsp z (d+3) bf s q 45 v P:=
 x_go 2 rfl<|x_cons (x_iF (t_andT (t_p rfl)<|t_andF (t_tv (m_cal rfl rfl (check_doc0 hz hA)) rfl rfl)) x_nil)<|x_go 6 rfl<|x_end<|x_iT (t_andT (t_p rfl)<|t_andT (t_tv (m_cal rfl rfl (check_entry hA)) rfl rfl) t_and0)<|x_end<|x_ret (e_call0 rfl hr) rfl
theorem disp_q(hA:At bf s (63::32::r))(hr:run (TT z) (d+2) 25 [.self] (enc bf s q) (.ret v P [.self])):Dsp z (d+2) bf s q 63 v P:=
 x_go 10 rfl<|x_end<|x_iT (t_andT (t_p rfl)<|t_andT (t_tv (m_cal rfl rfl (check_q hA)) rfl rfl) t_and0)<|x_end<|x_ret (e_call0 rfl hr) rfl
theorem disp_colon(hA:At bf s (58::32::r))(hr:run (TT z) (d+2) 26 [.self] (enc bf s q) (.ret v P [.self])):Dsp z (d+2) bf s q 58 v P:=
 x_go 11 rfl<|x_end<|x_iT (t_andT (t_p rfl)<|t_andT (t_tv (m_cal rfl rfl (check_colon hA)) rfl rfl) t_and0)<|x_end<|x_ret (e_call0 rfl hr) rfl
theorem disp_amp(hr:run (TT z) d 27 [.self] (enc bf s q) (.ret v P [.self])):Dsp z d bf s q 38 v P:=x_go 13 rfl<|x_end<|x_iT (t_p rfl)<|x_end<|x_ret (e_call0 rfl hr) rfl
theorem disp_bang(hr:run (TT z) d 28 [.self] (enc bf s q) (.ret v P [.self])):Dsp z d bf s q 33 v P:=x_go 14 rfl<|x_end<|x_iT (t_p rfl)<|x_end<|x_ret (e_call0 rfl hr) rfl
theorem disp_quote(hr:run (TT z) d 29 [.self] (enc bf s q) (.ret v P [.self])):Dsp z d bf s q 39 v P:=x_go 17 rfl<|x_end<|x_iT (t_p rfl)<|x_end<|x_ret (e_call0 rfl hr) rfl
theorem disp_letter(hA:At bf s (c::r))(hc:letter c)(hr:run (TT z) (d+2) 31 [.self] (enc bf s q) (.ret v P [.self])):Dsp z (d+2) bf s q c v P:=
 have f {k:Nat} {b:List S} {np:Nat} (h:[k].all (fun k=>k<97||122<k)=true):ex (TT z) (d+2) np (.ite (.cmp .eq (.loc 1) (.cS [k])) b []) ⟨[.self,.str [c]],enc bf s q⟩ (.ok .next ⟨[.self,.str [c]],enc bf s q⟩):=x_iF (t_p (cmp_eq (hc.ne h))) x_nil;have g {k:Nat} {b:List S} {np:Nat} {es:List E} (h:[k].all (fun k=>k<97||122<k)=true):ex (TT z) (d+2) np (.ite (.and (.cmp .eq (.loc 1) (.cS [k])::es)) b []) ⟨[.self,.str [c]],enc bf s q⟩ (.ok .next ⟨[.self,.str [c]],enc bf s q⟩):=x_iF (t_andF (t_p (cmp_eq (hc.ne h)))) x_nil
 x_cons (f rfl)<|x_cons (g rfl)<|x_cons (g rfl)<|x_cons (g rfl)<|x_cons (f rfl)<|x_cons (f rfl)<|x_cons (f rfl)<|x_cons (f rfl)<|x_cons (f rfl)<|x_cons (g rfl)<|x_cons (g rfl)<|x_cons (g rfl)<|x_cons (f rfl)<|x_cons (f rfl)<|x_cons (f rfl)<|x_cons (g rfl)<|x_cons (g rfl)<|x_cons (f rfl)<|x_cons (f rfl)<|
  x_end<|x_iT (t_tv (m_cal rfl rfl (check_plain hA hc)) rfl rfl)<|x_end<|x_ret (e_call0 rfl hr) rfl
end Mine.Internal
end
section
open PySem PySem.W
namespace Mine.Internal
inductive Kd|sst|dst|dash|q|colon|seq|map|fin|s|b|amp|bang|stop
structure Row where
 k:Kd
 ln:Int
 cl:Int
 c:Nat
inductive Sg|dash|key|q|colon|s|b|amp|bang
noncomputable abbrev Items:=List (Sg×Nat)
noncomputable abbrev Lines:=List (Nat×Items)
noncomputable def piece:Sg→Nat→List Nat
 | .dash,_=>[45,32]
 | .key,c=>[c,58,32]
 | .q,_=>[63,32]
 | .colon,_=>[58,32]
 | .s,c=>[39,c,39,32]
 | .b,c=>[c,32,35]
 | .amp,c=>[38,c,32]
 | .bang,c=>[33,c,32]
noncomputable def plen(g:Sg):Nat:=(piece g 0).length
noncomputable def bodyT:Items→List Nat
 |[]=>[]
 |x::xs=>piece x.1 x.2++bodyT xs
noncomputable def linesT:Lines→List Nat
 |[]=>[0]
 |l::ls=>List.replicate l.1 32++(bodyT l.2++10::linesT ls)
noncomputable def isOpen:Sg→Bool
 | .dash| .key| .q| .colon=>true
 |_=>false
noncomputable def top(o:List Int):Int:=o.headD (-1)
noncomputable def opens(o:List Int)(cl:Int)(g:Sg):Bool:=isOpen g&&decide (top o<cl)
noncomputable def push(o:List Int)(cl:Int)(g:Sg):List Int:=if opens o cl g=true then cl::o else o
noncomputable def opener:Sg→Kd
 | .dash=>.seq
 |_=>.map
noncomputable def ownRows(ln cl:Int):Sg→Nat→List Row
 | .dash,c=>[⟨.dash,ln,cl,c⟩]
 | .key,c=>[⟨.q,ln,cl,0⟩,⟨.b,ln,cl,c⟩,⟨.colon,ln,cl+1,0⟩]
 | .q,c=>[⟨.q,ln,cl,c⟩]
 | .colon,c=>[⟨.colon,ln,cl,c⟩]
 | .s,c=>[⟨.s,ln,cl,c⟩]
 | .b,c=>[⟨.b,ln,cl,c⟩]
 | .amp,c=>[⟨.amp,ln,cl,c⟩]
 | .bang,c=>[⟨.bang,ln,cl,c⟩]
noncomputable def rowsOf(ln cl:Int)(o:List Int)(g:Sg)(c:Nat):List Row:=(if opens o cl g=true then [⟨opener g,ln,cl,0⟩] else [])++ownRows ln cl g c
noncomputable def fins(ln cl:Int)(n:Nat):List Row:=List.replicate n ⟨.fin,ln,cl,0⟩
noncomputable def pops(o:List Int)(cl:Int):List Int:=o.takeWhile fun p=>decide (cl<p)
noncomputable def left(o:List Int)(cl:Int):List Int:=o.dropWhile fun p=>decide (cl<p)
noncomputable def futI(ln:Int)(k:List Int→List Row):Int→List Int→Items→List Row
 |_,o,[]=>k o
 |cl,o,x::xs=>rowsOf ln cl o x.1 x.2++futI ln k (cl+plen x.1) (push o cl x.1) xs
noncomputable def futL:Int→List Int→Lines→List Row
 |ln,o,[]=>fins ln 0 (pops o (-1)).length++[⟨.stop,ln,0,0⟩]
 |ln,o,l::ls=>fins ln l.1 (pops o l.1).length++futI ln (fun o=>futL (ln+1) o ls) l.1 (left o l.1) l.2
noncomputable abbrev futS(ln:Int)(ls:Lines):Int→List Int→Items→List Row:=futI ln fun o=>futL (ln+1) o ls
inductive SOK:List Int→Prop
 |base:SOK [-1]
 |cons {a:Int} {t:List Int}: -1<a→SOK t→SOK (a::t)
theorem pops_left(o:List Int)(cl:Int):pops o cl++left o cl=o:=List.takeWhile_append_dropWhile
theorem tw_mem{cl:Int}{o:List Int}{p:Int}(h:p∈pops o cl):cl<p:=of_decide_eq_true (List.all_eq_true.mp List.all_takeWhile p h)
theorem left_y{cl a:Int}{t:List Int}(h:cl<a):left (a::t) cl=left t cl:=List.dropWhile_cons_of_pos (decide_eq_true h)
theorem left_n{cl a:Int}{t:List Int}(h:¬cl<a):left (a::t) cl=a::t:=List.dropWhile_cons_of_neg fun e=>h (of_decide_eq_true e)
inductive LeftK (o:List Int) (cl:Int):Prop
 |mk {b:Int} {r:List Int}:left o cl=b::r→b≤cl→SOK (b::r)→LeftK o cl
theorem SOK.left{o:List Int}(h:SOK o){cl:Int}(hc: -1≤cl):LeftK o cl:=by
 induction h with
 |base=>exact .mk (left_n (Int.not_lt.mpr hc)) hc .base
 |@cons a t ha h ih=>
  by_cases q:cl<a
  ·cases ih with|mk h1 h2 h3=>exact .mk ((left_y q).trans h1) h2 h3
  ·exact .mk (left_n q) (Int.not_lt.mp q) (.cons ha h)
theorem SOK.ground{o:List Int}(h:SOK o):o=pops o (-1)++[-1]:=by
 have e:Mine.Internal.left o (-1)=[-1]:=by
  induction h with
  |base=>exact left_n (Int.lt_irrefl _)
  |cons ha _ ih=>exact(left_y ha).trans ih
 exact e▸(pops_left o (-1)).symm
theorem SOK.push{o:List Int}(h:SOK o){cl:Int}{g:Sg}(hc:0≤cl):SOK (Mine.Internal.push o cl g):=by
 unfold Mine.Internal.push;cases opens o cl g
 ·exact h
 ·exact .cons (Int.lt_of_lt_of_le (by decide) hc) h
theorem push_len(o:List Int)(cl:Int)(g:Sg):o.length≤(push o cl g).length:=by
 unfold push;cases opens o cl g
 ·exact Nat.le_refl _
 ·exact Nat.le_succ _
theorem pops_len(o:List Int)(cl:Int):o.length=(pops o cl).length+(left o cl).length:=(congrArg List.length (pops_left o cl)).symm.trans List.length_append
theorem futI_len{ln:Int}{k:List Int→List Row}(hk:∀o,SOK o→o.length≤(k o).length):∀{its:Items}{cl:Int}{o:List Int},SOK o→0≤cl→o.length≤(futI ln k cl o its).length
 |[],cl,o,h,_=>hk o h
 |x::xs,cl,o,h,hc=>Nat.le_trans (push_len o cl x.1) (Nat.le_trans (futI_len hk (h.push hc) (Int.add_nonneg hc (Int.natCast_nonneg _))) (by
   show _≤(rowsOf ln cl o x.1 x.2++futI ln k (cl+plen x.1) (push o cl x.1) xs).length;rw[List.length_append];exact Nat.le_add_left _ _))
theorem fins_len{ln cl:Int}{n:Nat}{l:List Row}:(fins ln cl n++l).length=n+l.length:=by
 unfold fins;rw[List.length_append,List.length_replicate]
theorem futL_len:∀{ls:Lines}{ln:Int}{o:List Int},SOK o→o.length≤(futL ln o ls).length
 |[],ln,o,h=>by
  show _≤(fins ln 0 _++_).length;rw[fins_len];exact Nat.le_of_eq ((congrArg List.length h.ground).trans List.length_append)
 |l::ls,ln,o,h=>by
  show _≤(fins ln l.1 _++_).length;rw[fins_len,pops_len o l.1];refine Nat.add_le_add_left ?_ _;cases h.left (cl:=l.1) (Int.le_trans (by decide) (Int.natCast_nonneg _)) with|mk h1 h2 h3=>
  rw[h1];exact futI_len (fun o h=>futL_len h) h3 (Int.natCast_nonneg _)
noncomputable def letB(c:Nat):Bool:=decide (97≤c)&&decide (c≤122)
theorem letB_ok{c:Nat}(h:letB c=true):letter c:=⟨of_decide_eq_true (and_l h),of_decide_eq_true (and_r h)⟩
noncomputable def sgOk(g:Sg)(f:Bool→Bool)(a e:Bool):Bool:=match g with
 | .dash| .q| .colon=>a&&f true
 | .key=>a&&f false
 | .b=>e
 |_=>f false
noncomputable def okI:Bool→Items→Bool
 |_,[]=>true
 |a,x::r=>letB x.2&&sgOk x.1 (fun b=>okI b r) a r.isEmpty
noncomputable def headOpen:Items→Bool
 |[]=>false
 |x::_=>isOpen x.1
noncomputable def okLn(l:Items):Bool:=decide (l.length≤6)&&headOpen l&&okI true l
noncomputable def nOf(its:Items)(ls:Lines):Nat:=its.length+(ls.map fun l=>l.2.length).sum
noncomputable def tokV:Kd→Nat→V→V→V
 | .sst,_,a,b=>.inst 179 [(94,a),(99,b),(8,.none)]
 | .dst,_,a,b=>.inst 147 [(94,a),(99,b)]
 | .dash,_,a,b=>.inst 311 [(94,a),(99,b)]
 | .q,_,a,b=>.inst 287 [(94,a),(99,b)]
 | .colon,_,a,b=>.inst 299 [(94,a),(99,b)]
 | .seq,_,a,b=>.inst 203 [(94,a),(99,b)]
 | .map,_,a,b=>.inst 215 [(94,a),(99,b)]
 | .fin,_,a,b=>.inst 227 [(94,a),(99,b)]
 | .s,c,a,b=>.inst 400 [(119,.str [c]),(127,.bool false),(94,a),(99,b),(82,.str [39])]
 | .b,c,a,b=>.inst 400 [(119,.str [c]),(127,.bool true),(94,a),(99,b),(82,.none)]
 | .amp,c,a,b=>.inst 361 [(119,.str [c]),(94,a),(99,b)]
 | .bang,c,a,b=>.inst 380 [(119,.tup [.str [33],.str [c]]),(94,a),(99,b)]
 | .stop,_,a,b=>.inst 191 [(94,a),(99,b)]
inductive Tk (r:Row):V→Prop
 |mk {bf:List Nat} {a b:SS}:a.line=r.ln→a.col=r.cl→Tk r (tokV r.k r.c (mk bf a) (mk bf b))
inductive Tks:List Row→List V→Prop
 |nil:Tks [] []
 |cons {r:Row} {t:V} {rs:List Row} {ts:List V}:Tk r t→Tks rs ts→Tks (r::rs) (t::ts)
theorem Tks.len{rs:List Row}{ts:List V}(h:Tks rs ts):rs.length=ts.length:=by induction h with|nil=>rfl|cons _ _ ih=>exact congrArg Nat.succ ih
theorem Tks.app{rs rs':List Row}{ts ts':List V}(h:Tks rs ts)(h':Tks rs' ts'):Tks (rs++rs') (ts++ts'):=by
 induction h with|nil=>exact h'|cons a _ ih=>exact .cons a ih
theorem Tks.one{r:Row}{t:V}(h:Tk r t):Tks [r] [t]:=.cons h .nil
theorem Tks.rep{r:Row}{t:V}(h:Tk r t)(n:Nat):Tks (List.replicate n r) (List.replicate n t):=by
 induction n with|zero=>exact .nil|succ n ih=>exact .cons h ih
inductive LPos (bf:List Nat) (s:SS) (ls:Lines) (cl:Int):Items→Prop
 |nil {g}:tailOf g→At bf s (g++10::linesT ls)→LPos bf s ls cl []
 |cons {x xs} {a:Nat}:a≤100→At bf s (List.replicate a 32++(piece x.1 x.2++(bodyT xs++10::linesT ls)))→cl=s.col+a→LPos bf s ls cl (x::xs)
noncomputable def TopOk(o:List Int)(cl:Int):Items→Prop
 |[]=>True
 |x::_=>top o≤cl∧(isOpen x.1=false→top o<cl)
structure Live (s:SS) (o:List Int) (its:Items) (ls:Lines):Prop where
 done:s.done=false
 sok:SOK o
 st:Stk s (o.headD 0) o.tail
 lens:its.length≤6
 lo:∀l∈ls,okLn l.2=true
 ask:s.ask=true→s.psk=[]
inductive Wait (s:SS) (z:Nat) (n:Nat):Prop
 |no:s.psk=[]→Wait s z n
 |yes {k i cl m}:s.psk=[(.int 0,skey k false i s.line cl m)]→s.taken≤k→k-s.taken<n→s.idx-i+z≤900→s.ask=false→Wait s z n
inductive Sc (bf:List Nat):Nat→SS→List Row→Prop
 |live {s:SS} {o:List Int} {its:Items} {ls:Lines} {cl:Int} {Q:List Row}:Live s o its ls→Tks Q s.toks→0≤cl→LPos bf s ls cl its→TopOk o cl its→okI s.ask its=true→Wait s (104*its.length) Q.length→
   Sc bf (2*nOf its ls+1) s (Q++futS s.line ls cl o its)
 |key {s s0:SS} {o:List Int} {its:Items} {ls:Lines} {Q:List Row} {c:Nat} {ts:List V} {t:V} {k i:Int} {rq:Bool}:Live s o its ls→Tks Q ts→s.toks=ts++[t]→Tk ⟨.b,s.line,s0.col,c⟩ t→s0.line=s.line→s.psk=[(.int 0,skey k rq i s.line s0.col (mk bf s0))]→
   k-s.taken=ts.length→s.idx-i≤900→At bf s (58::32::(bodyT its++10::linesT ls))→0≤s0.col→s.col=s0.col+1→top o≤s0.col→okI false its=true→s.ask=false→
   Sc bf (2*nOf its ls+2) s (Q++(rowsOf s.line s0.col o .key c++futS s.line ls (s0.col+3) (push o s0.col .key) its))
 |doc {s:SS} {ls:Lines} {Q:List Row}:s.done=false→Stk s (-1) []→(∀l∈ls,okLn l.2=true)→Tks Q s.toks→s.col=0→s.psk=[]→At bf s (45::45::45::10::linesT ls)→
   Sc bf (2*nOf [] ls+2) s (Q++⟨.dst,s.line,0,0⟩::futL (s.line+1) [-1] ls)
 |done {s:SS} {F:List Row}:s.done=true→Tks F s.toks→s.psk=[]→Sc bf 0 s F
end Mine.Internal
end
section
open PySem PySem.W
namespace Mine.Internal
variable{z:Zk} {bf:List Nat} {s X:SS} {q:QS} {d c h0 C C2:Nat} {xs:Items} {ls:Lines} {cl b n:Int} {r o:List Int} {Q F:List Row} {g:Sg} {x:Sg×Nat} {kd:Kd} {t:V}
noncomputable def headc:Sg→Nat→Nat
 | .dash,_=>45
 | .key,c=>c
 | .q,_=>63
 | .colon,_=>58
 | .s,_=>39
 | .b,c=>c
 | .amp,_=>38
 | .bang,_=>33
structure Pre (bf:List Nat) (s:SS) (b:Int) (r:List Int) (x:Sg×Nat) (xs:Items) (ls:Lines) (Q:List Row):Prop where
 live:Live s (b::r) xs ls
 at_:At bf s (piece x.1 x.2++(bodyT xs++10::linesT ls))
 col:0≤s.col
 t1:b≤s.col
 t2:isOpen x.1=false→b<s.col
 ok:okI s.ask (x::xs)=true
 hq:Tks Q s.toks
 hw:Wait s (4+104*xs.length) Q.length
 b1:s.toks.length<1000
 b2:r.length<1000
theorem pos_next(hA:At bf X (32::(bodyT xs++10::linesT ls)))(hc:cl=X.col+1):LPos bf X ls cl xs:=by
 cases xs with
 |nil=>exact .nil .b hA
 |cons y ys=>exact .cons (a:=1) (by decide) ((List.append_assoc (piece y.1 y.2) (bodyT ys) (10::linesT ls))▸hA) hc
theorem topok_lt(h:top o<cl):TopOk o cl xs:=by
 cases xs with
 |nil=>exact trivial
 |cons y ys=>exact⟨Int.le_of_lt h,fun y0_=>h⟩
theorem nOf_cons:nOf (x::xs) ls=nOf xs ls+1:=Nat.add_right_comm _ _ _
theorem m_live:2*nOf xs ls+1<2*nOf (x::xs) ls+1:=by rw[nOf_cons];omega
theorem m_key:2*nOf xs ls+2<2*nOf (x::xs) ls+1:=by rw[nOf_cons];omega
inductive Res (z:Zk) (bf:List Nat) (d:Nat) (q:QS) (s:SS) (c:Nat) (F:List Row) (n:Nat):Prop
 |mk {n' s'}:n'<n→Dsp z d bf s q c .none (enc bf s' q)→Sc bf n' s' F→s'.taken=s.taken→Res z bf d q s c F n
theorem rows_eq{A B:List Row}{o':List Int}(e:rowsOf s.line s.col o g c=A++B)(e1:push o s.col g=o'):Q++futS s.line ls s.col o ((g,c)::xs)=((Q++A)++B)++futS s.line ls (s.col+plen g) o' xs:=by
 show Q++(rowsOf s.line s.col o g c++futS s.line ls (s.col+plen g) (push o s.col g) xs)=_;rw[e,e1,List.append_assoc,List.append_assoc,List.append_assoc]
theorem dispOpen(h:Pre bf s b r (g,c) xs ls Q)(hop:isOpen g=true)(hpl:plen g=2)(hp:piece g c=[h0,32])(hC:∀a b:SS,tokV (opener g) 0 (mk bf a) (mk bf b)=tk2 C bf a b)(hC2:∀a b:SS,tokV kd c (mk bf a) (mk bf b)=tk2 C2 bf a b)(hown:ownRows s.line s.col g c=[⟨kd,s.line,s.col,c⟩])
  (hg:Dsp z d bf s q (headc g c) .none (enc bf (((adv (opn bf C s b r) 1).a true).t ((opn bf C s b r).toks++[tk2 C2 bf s (adv s 1)])) q)) (ha:s.ask=true) (hi:okI true xs=true):
  Res z bf d q s (headc g c) (Q++futS s.line ls s.col (b::r) ((g,c)::xs)) (2*nOf ((g,c)::xs) ls+1):=by
 have hp0:=h.live.ask ha;have hA:At bf s (h0::32::(bodyT xs++10::linesT ls)):=by have:=h.at_;rw[show piece (g,c).1 (g,c).2=_ from hp] at this;exact this
 have fin:∀{A:List Row}{o':List Int},rowsOf s.line s.col (b::r) g c=A++[⟨kd,s.line,s.col,c⟩]→push (b::r) s.col g=o'→Tks (Q++A) (opn bf C s b r).toks→SOK o'→Stk (opn bf C s b r) (o'.headD 0) o'.tail→top o'≤s.col→
   Res z bf d q s (headc g c) (Q++futS s.line ls s.col (b::r) ((g,c)::xs)) (2*nOf ((g,c)::xs) ls+1):=fun{A o'}e e1 tk so st to=>by
  rw[rows_eq e e1,hpl];refine .mk m_live hg (Sc.live (s:=((adv (opn bf C s b r) 1).a true).t ((opn bf C s b r).toks++[tk2 C2 bf s (adv s 1)])) (cl:=s.col+2) ⟨h.live.done,so,st,h.live.lens,h.live.lo,fun y0_=>hp0⟩ (tk.app (.one (hC2 s (adv s 1)▸ .mk (r:=⟨kd,s.line,s.col,c⟩) rfl rfl))) (Int.add_nonneg h.col (by decide)) (pos_next ⟨hA.adv.ex⟩ ?_) (topok_lt (Int.lt_add_of_le_of_pos to (by decide))) hi (.no hp0)) rfl;exact(Int.add_assoc s.col 1 1).symm
 by_cases hb:b<s.col
 ·have e:opens (b::r) s.col g=true:=Bool.and_eq_true_iff.mpr ⟨hop,decide_eq_true hb⟩;refine fin (A:=[⟨opener g,s.line,s.col,0⟩]) (o':=s.col::b::r) ?_ (if_pos e) ?_ ?_ ?_ (Int.le_refl _)
  ·unfold rowsOf;rw[if_pos e,hown]
  ·rw[opn_y hb];exact h.hq.app (.one (hC s s▸ .mk (r:=⟨opener g,s.line,s.col,0⟩) rfl rfl))
  ·exact .cons (Int.lt_of_lt_of_le (by decide) h.col) h.live.sok
  ·rw[opn_y hb];exact⟨rfl,rfl⟩
 ·have e:opens (b::r) s.col g=false:=by show(isOpen g&&decide (b<s.col))=false;rw[hop,decide_eq_false hb];rfl
  refine fin (A:=[]) (o':=b::r) ?_ (if_neg (by rw[e];decide)) ?_ h.live.sok ?_ h.t1
  ·unfold rowsOf;rw[e,hown];rfl
  ·rw[opn_n hb,List.append_nil];exact h.hq
  ·rw[opn_n hb];exact h.live.st
theorem taken_app{k a:Int}{l:List Row}{y:Row}(h:k-a<l.length):k-a< (l++[y]).length:=Int.lt_of_lt_of_le h (by rw[List.length_append];exact Int.ofNat_le.mpr (Nat.le_add_right _ _))
theorem idx_up{a n i w:Int}(h:a-i+(4+w)≤900)(hn:n≤3):a+n-i+w≤900:=by omega
theorem idx_new{a n:Int}{m:Nat}(h:m≤6)(hn:n≤3):a+n-a+(104*m:Nat)≤900:=by omega
theorem val_wait{y:Row}(h:Pre bf s b r x xs ls Q)(h2:b<s.col)(hn:n≤3):Wait (((adv (saved bf s) n).a false).t (s.toks++[t])) (104*xs.length) (Q++[y]).length:=by
 by_cases ha:s.ask=true
 ·refine .yes (k:=s.taken+s.toks.length) (i:=s.idx) (cl:=s.col) (m:=mk bf s) ?_ (Int.le_add_of_nonneg_right (Int.natCast_nonneg _)) ?_ (idx_new h.live.lens hn) rfl
  ·refine(if_pos ha).trans ?_;have e:decide (s.ind=s.col)=false:=decide_eq_false fun e=>Int.lt_irrefl _ ((h.live.st.1.symm.trans e)▸h2);show [(V.int 0,skey _ (decide (s.ind=s.col)) _ _ _ _)]=_;rw[e];rfl
  ·show s.taken+s.toks.length-s.taken<_;rw[Int.add_comm,Int.add_sub_cancel,←h.hq.len,List.length_append];exact Int.ofNat_lt.mpr (Nat.lt_succ_self _)
 ·have e:(saved bf s).psk=s.psk:=if_neg ha;cases h.hw with
  |no hw=>exact .no (e.trans hw)
  |yes hw g1 g2 g3 g4=>exact .yes (e.trans hw) g1 (taken_app g2) (idx_up (w:=(104*xs.length:Nat)) (by rw[Int.natCast_add] at g3;exact g3) hn) rfl
theorem dispVal(h:Pre bf s b r (g,c) xs ls Q)(hx:isOpen g=false)(hown:ownRows s.line s.col g c=[⟨kd,s.line,s.col,c⟩])(ht:Tk ⟨kd,s.line,s.col,c⟩ t)(hn:n≤3)
  (hg:Dsp z d bf s q (headc g c) .none (enc bf (((adv (saved bf s) n).a false).t (s.toks++[t])) q)) (hi:okI false xs=true) (hpos:LPos bf (((adv (saved bf s) n).a false).t (s.toks++[t])) ls (s.col+plen g) xs):
  Res z bf d q s (headc g c) (Q++futS s.line ls s.col (b::r) ((g,c)::xs)) (2*nOf ((g,c)::xs) ls+1):=by
 have h2:=h.t2 hx;have e:opens (b::r) s.col g=false:=by show(isOpen g&&_)=false;rw[hx];rfl
 rw[rows_eq (A:=[]) (o':=b::r) (B:=[⟨kd,s.line,s.col,c⟩]) (by unfold rowsOf;rw[e,hown];rfl) (if_neg (by rw[e];decide)),List.append_nil];exact .mk m_live hg (Sc.live (s:=((adv (saved bf s) n).a false).t (s.toks++[t])) ⟨h.live.done,h.live.sok,h.live.st,h.live.lens,h.live.lo,fun h=>absurd h Bool.false_ne_true⟩ (h.hq.app (.one ht)) (Int.add_nonneg h.col (Int.natCast_nonneg _)) hpos (topok_lt (Int.lt_of_lt_of_le h2 (Int.le_add_of_nonneg_right (Int.natCast_nonneg _)))) hi (val_wait h h2 hn)) rfl
theorem dispKey(h:Pre bf s b r (.key,c) xs ls Q)(ha:s.ask=true)(hc:letter c)(hg:Dsp z d bf s q c .none (enc bf (((adv (saved bf s) 1).a false).t (s.toks++[tkScalar bf c true .none s (adv s 1)])) q))(hi:okI false xs=true):
  Res z bf d q s c (Q++futS s.line ls s.col (b::r) ((.key,c)::xs)) (2*nOf ((.key,c)::xs) ls+1):=by
 have hA:At bf s (c::(58::32::(bodyT xs++10::linesT ls))):=h.at_;refine .mk m_key hg (Sc.key (s:=((adv (saved bf s) 1).a false).t (s.toks++[tkScalar bf c true .none s (adv s 1)])) (s0:=s) (c:=c) (k:=s.taken+s.toks.length) (i:=s.idx) (rq:=decide (s.ind=s.col)) ⟨h.live.done,h.live.sok,h.live.st,h.live.lens,h.live.lo,fun h=>absurd h Bool.false_ne_true⟩ h.hq rfl (.mk (r:=⟨.b,s.line,s.col,c⟩) (a:=s) (b:=adv s 1) rfl rfl) rfl (if_pos ha) ?_ ?_ ⟨hA.adv.ex⟩ h.col rfl h.t1 hi rfl) rfl
 ·show s.taken+s.toks.length-s.taken=_;rw[Int.add_comm,Int.add_sub_cancel]
 ·show s.idx+1-s.idx≤900;rw[Int.add_comm,Int.add_sub_cancel];decide
theorem disp(h:Pre bf s b r (g,c) xs ls Q)(hz:bf.length≤SZ):Res z bf (d+7) q s (headc g c) (Q++futS s.line ls s.col (b::r) ((g,c)::xs)) (2*nOf ((g,c)::xs) ls+1):=by
 have hl:letter c:=letB_ok (and_l h.ok);have hat:=h.at_;have hk:Stk s b r:=h.live.st;have hok:=and_r h.ok;have hps:=h.live.ask;have b1:=h.b1;have b2:=h.b2;cases g with
 |dash=>exact dispOpen (kd:=.dash) h rfl rfl rfl (fun y0_ y1_=>rfl) (fun y0_ y1_=>rfl) rfl (disp_dash hz hat (fetch_dash hat hk (and_l hok) (hps (and_l hok)) b2 b1)) (and_l hok) (and_r hok)
 |q=>exact dispOpen (kd:=.q) h rfl rfl rfl (fun y0_ y1_=>rfl) (fun y0_ y1_=>rfl) rfl (disp_q hat (fetch_q hat hk (and_l hok) (hps (and_l hok)) b2 b1)) (and_l hok) (and_r hok)
 |colon=>exact dispOpen (kd:=.colon) h rfl rfl rfl (fun y0_ y1_=>rfl) (fun y0_ y1_=>rfl) rfl (disp_colon hat (fetch_colon hat hk (and_l hok) (hps (and_l hok)) b2 b1)) (and_l hok) (and_r hok)
 |key=>exact dispKey h (and_l hok) hl (disp_letter hat hl (fetch_pk hz hat hl hps b1)) (and_r hok)
 |s=>
  have hA:At bf (adv s 3) (32::(bodyT xs++10::linesT ls)):=At.advs (cs:=[39,c,39]) hat;exact dispVal (kd:=.s) (n:=3) h rfl rfl (.mk (r:=⟨.s,s.line,s.col,c⟩) (a:=s) (b:=adv s 3) rfl rfl) (by decide) (disp_quote (fetch_single hz hat hl hps b1)) hok (pos_next ⟨hA.ex⟩ (Int.add_assoc s.col 3 1).symm)
 |b=>
  cases xs with
  |cons=>exact absurd hok Bool.false_ne_true
  |nil=>
   have hA:At bf (adv s 2) (35::10::linesT ls):=At.advs (cs:=[c,32]) hat;exact dispVal (kd:=.b) (n:=2) h rfl rfl (.mk (r:=⟨.b,s.line,s.col,c⟩) (a:=s) (b:=adv s 1) rfl rfl) (by decide) (disp_letter hat hl (adv_adv (s:=saved bf s) 1 1▸fetch_pv hz hat hl hps b1)) rfl (.nil .h ⟨hA.ex⟩)
 |amp=>
  have hA:At bf (adv s 2) (32::(bodyT xs++10::linesT ls)):=At.advs (cs:=[38,c]) hat;exact dispVal (kd:=.amp) (n:=2) h rfl rfl (.mk (r:=⟨.amp,s.line,s.col,c⟩) (a:=s) (b:=adv s 2) rfl rfl) (by decide) (disp_amp (fetch_amp hz hat hl hps b1)) hok (pos_next ⟨hA.ex⟩ (Int.add_assoc s.col 2 1).symm)
 |bang=>
  have hA:At bf (adv s 2) (32::(bodyT xs++10::linesT ls)):=At.advs (cs:=[33,c]) hat;exact dispVal (kd:=.bang) (n:=2) h rfl rfl (.mk (r:=⟨.bang,s.line,s.col,c⟩) (a:=s) (b:=adv s 2) rfl rfl) (by decide) (disp_bang (fetch_bang hz hat hl hps b1)) hok (pos_next ⟨hA.ex⟩ (Int.add_assoc s.col 2 1).symm)
end Mine.Internal
end
section
open PySem PySem.W
namespace Mine.Internal
variable{z:Zk} {bf:List Nat} {s s0:SS} {q:QS} {d c n:Nat} {its xs:Items} {ls:Lines} {cl b k i:Int} {r o:List Int} {Q F:List Row} {g:Sg} {x:Sg×Nat} {t:V} {ts:List V} {rq:Bool} {l:Nat×Items}
inductive Fetch (z:Zk) (bf:List Nat) (d:Nat) (q:QS) (s:SS) (F:List Row) (n:Nat):Prop
 |mk {n' s'}:n'<n→run (TT z) d 13 [.self] (enc bf s q) (.ret .none (enc bf s' q) [.self])→Sc bf n' s' F→s'.taken=s.taken→Fetch z bf d q s F n
@[elab_as_elim] theorem SOK.el {C:List Int→Prop} (h:SOK o) (k:∀{b r},SOK (b::r)→C (b::r)):C o:=h.casesOn (k .base) fun a h=>k (.cons a h)
theorem sgn_of(h:[32,35,65279,13,10,133,8232,8233].contains c=false):sgn c:=fun q=>Bool.false_ne_true (h.symm.trans (List.contains_iff_mem.mpr q))
theorem headc_ok(h:letter c):sgn (headc g c):=by
 cases g with
 |key=>exact h.nin rfl
 |b=>exact h.nin rfl
 |_=>exact sgn_of rfl
theorem piece_head:piece g c=headc g c::(piece g c).tail:=by cases g<;>rfl
theorem fetch_in(hz:bf.length≤SZ)(h:Live s o (x::xs) ls)(hq:Tks Q s.toks)(hc:0≤cl)(hp:LPos bf s ls cl (x::xs))(ht:TopOk o cl (x::xs))(hi:okI s.ask (x::xs)=true)(hw:Wait s (104* (x::xs).length) Q.length)(b1:s.toks.length<900)(b2:o.length<900):
  Fetch z bf (d+8) q s (Q++futS s.line ls cl o (x::xs)) (2*nOf (x::xs) ls+1):=by
 have so:=h.sok;revert h ht b2;refine so.el fun{b r}so h ht b2=>?_;obtain⟨g,c⟩:=x;cases hp with|@cons _ _ a ha hA hcl=>
 have hA2:At bf s (List.replicate a 32++headc g c::((piece g c).tail++(bodyT xs++10::linesT ls))):=by rw[show piece (g,c).1 (g,c).2=_ from piece_head] at hA;exact hA
 have hwa:KeepK s a∧Wait (adv s a) (4+104*xs.length) Q.length:=by
  cases hw with
  |no hw=>exact⟨.no hw,.no hw⟩
  |yes hw g1 g2 g3 g4=>
   have:(104* ((g,c)::xs).length:Nat)=104*xs.length+104:=rfl;exact⟨.yes hw (by omega),.yes hw g1 g2 (by show s.idx+a-_+_≤900;omega) g4⟩
 subst hcl;have pre:Pre bf (adv s a) b r (g,c) xs ls Q:=⟨⟨h.done,so,h.st,Nat.le_of_succ_le h.lens,h.lo,h.ask⟩,hA.spaces,hc,ht.1,ht.2,hi,hq,hwa.2,Nat.lt_trans b1 (by decide),Nat.lt_trans (Nat.lt_of_succ_lt b2) (by decide)⟩;cases disp (z:=z) (q:=q) (d:=d) pre hz with|mk hn hg hs hta=>
 exact .mk hn (fm_same hA2 (headc_ok (letB_ok (and_l hi))) h.st ht.1 (Nat.lt_trans b1 (by decide)) hwa.1 hg) hs hta
theorem fm_same0{v:V}{P:Pt}{r':List Nat}(hA:At bf s (c::r'))(hc:sgn c)(hk:Stk s b o)(hb:b≤s.col)(ht:s.toks.length<1000)(hq:KeepK s 0)(hD:Dsp z (d+3) bf s q c v P):run (TT z) (d+4) 13 [.self] (enc bf s q) (.ret v P [.self]):=
 fm_same (a:=0) hA hc hk (Int.le_trans hb (Int.le_of_eq (Int.add_zero _).symm)) ht hq (by rw[show adv s ((0:Nat):Int)=s from adv0];exact hD)
theorem fetch_key(hz:bf.length≤SZ)(h:Live s o its ls)(hq:Tks Q ts)(htt:s.toks=ts++[t])(ht:Tk ⟨.b,s.line,s0.col,c⟩ t)(hm:s0.line=s.line)(hk:s.psk=[(.int 0,skey k rq i s.line s0.col (mk bf s0))])(hn:k-s.taken=ts.length)(hx:s.idx-i≤900)
  (hA:At bf s (58::32::(bodyT its++10::linesT ls))) (hc:0≤s0.col) (hcl:s.col=s0.col+1) (hto:top o≤s0.col) (hi:okI false its=true) (b1:s.toks.length<900) (b2:o.length<900):
  Fetch z bf (d+8) q s (Q++(rowsOf s.line s0.col o .key c++futS s.line ls (s0.col+3) (push o s0.col .key) its)) (2*nOf its ls+2):=by
 have so:=h.sok;revert h hto b2;refine so.el fun{b r}so h hto b2=>?_;have b1':s.toks.length<1000:=Nat.lt_trans b1 (by decide);have r1:Tk ⟨.map,s.line,s0.col,0⟩ (tk2 215 bf s0 s0):=.mk (r:=⟨.map,s.line,s0.col,0⟩) hm rfl;have r2:Tk ⟨.q,s.line,s0.col,0⟩ (tk2 287 bf s0 s0):=.mk (r:=⟨.q,s.line,s0.col,0⟩) hm rfl;have r3:Tk ⟨.colon,s.line,s0.col+1,0⟩ (tk2 299 bf s (adv s 1)):=.mk (r:=⟨.colon,s.line,s0.col+1,0⟩) rfl hcl;have hg:=fetch_vkey (z:=z) (q:=q) (d:=d+4) (us:=[t]) hA h.st hk hn htt (Nat.lt_trans (Nat.lt_of_succ_lt b2) (by decide)) b1';have hrun:=fm_same0 (z:=z) (q:=q) (d:=d+4) (c:=58) hA (sgn_of rfl) h.st (by rw[hcl];exact Int.le_trans hto (Int.le_of_lt (Int.lt_succ _))) b1' (.yes hk (by omega)) (disp_colon hA hg);have fin:∀{A:List Row}{tA:List V}{o':List Int},rowsOf s.line s0.col (b::r) .key c=A++[⟨.q,s.line,s0.col,0⟩,⟨.b,s.line,s0.col,c⟩,⟨.colon,s.line,s0.col+1,0⟩]→push (b::r) s0.col .key=o'→(opk bf s s0 b r s0.col ts [t]).toks=ts++(tA++[tk2 287 bf s0 s0,t])→Tks A tA→SOK o'→Stk (opk bf s s0 b r s0.col ts [t]) (o'.headD 0) o'.tail→top o'≤s0.col→
   Fetch z bf (d+8) q s (Q++(rowsOf s.line s0.col (b::r) .key c++futS s.line ls (s0.col+3) (push (b::r) s0.col .key) its)) (2*nOf its ls+2):=fun{A tA o'}e e1 et tk so st to=>by
  have e2:Q++(rowsOf s.line s0.col (b::r) .key c++futS s.line ls (s0.col+3) (push (b::r) s0.col .key) its)=((Q++A)++[⟨.q,s.line,s0.col,0⟩,⟨.b,s.line,s0.col,c⟩,⟨.colon,s.line,s0.col+1,0⟩])++futS s.line ls (s0.col+3) o' its:=by
   rw[e,e1,List.append_assoc,List.append_assoc,List.append_assoc]
  have e3:(opk bf s s0 b r s0.col ts [t]).toks++[tk2 299 bf s (adv s 1)]=(ts++tA)++[tk2 287 bf s0 s0,t,tk2 299 bf s (adv s 1)]:=by
   rw[et,List.append_assoc,List.append_assoc,List.append_assoc];rfl
  rw[e2];refine .mk (Nat.lt_succ_self _) hrun (Sc.live (s:=(((adv (opk bf s s0 b r s0.col ts [t]) 1).a false).k []).t ((opk bf s s0 b r s0.col ts [t]).toks++[tk2 299 bf s (adv s 1)])) (cl:=s0.col+3) ⟨h.done,so,st,h.lens,h.lo,fun h=>absurd h Bool.false_ne_true⟩ (e3▸(hq.app tk).app (.cons r2 (.cons ht (.one r3)))) (Int.add_nonneg hc (by decide)) (pos_next ⟨hA.adv.ex⟩ ?_) (topok_lt (Int.lt_add_of_le_of_pos to (by decide))) hi (.no rfl)) rfl;show s0.col+3=s.col+1+1;rw[hcl,Int.add_assoc,Int.add_assoc];rfl
 by_cases hb:b<s0.col
 ·have e:opens (b::r) s0.col .key=true:=decide_eq_true hb;refine fin (A:=[⟨.map,s.line,s0.col,0⟩]) (tA:=[tk2 215 bf s0 s0]) (o':=s0.col::b::r) ?_ (if_pos e) ?_ (.one r1) (.cons (Int.lt_of_lt_of_le (by decide) hc) so) ?_ (Int.le_refl _)
  ·unfold rowsOf;rw[if_pos e];rfl
  ·rw[opk_y hb];rfl
  ·rw[opk_y hb];exact⟨rfl,rfl⟩
 ·have e:opens (b::r) s0.col .key=false:=decide_eq_false hb;refine fin (A:=[]) (tA:=[]) (o':=b::r) ?_ (if_neg (by rw[e];decide)) ?_ .nil so ?_ hto
  ·unfold rowsOf;rw[e];rfl
  ·rw[opk_n hb];rfl
  ·rw[opk_n hb];exact h.st
theorem wait_new{n z:Nat}(hw:Wait s z n):DropK s:=by
 cases hw with
 |no hw=>exact .no hw
 |yes hw=>exact .yes hw (Int.ne_of_lt (Int.lt_succ _))
noncomputable abbrev nlS(bf:List Nat)(s:SS)(g:List Nat)(m:Nat)(b:Int)(r o:List Int):SS:=cutS ((newS s g m).k []) b r (s.toks++List.replicate (pops o m).length (tk2 227 bf (newS s g m) (newS s g m)))
theorem newS_col{g:List Nat}{m:Nat}:(newS s g m).col=m:=Int.zero_add _
theorem nl_toks{g:List Nat}{m:Nat}(hq:Tks Q s.toks):Tks (Q++fins (s.line+1) m n) (s.toks++List.replicate n (tk2 227 bf (newS s g m) (newS s g m))):=hq.app (Tks.rep (.mk (r:=⟨.fin,s.line+1,m,0⟩) (a:=newS s g m) (b:=newS s g m) rfl newS_col) _)
theorem nl_len{m:Int}{w:V}(h:left o m=b::r)(b1:s.toks.length+o.length<900):(s.toks++List.replicate (pops o m).length w).length+r.length+1<900:=by
 rw[List.length_append,List.length_replicate,Nat.add_assoc,Nat.add_assoc];rw[pops_len o m,h] at b1;exact b1
theorem fetch_nl(hz:bf.length≤SZ)(h:Live s o [] (l::ls))(hq:Tks Q s.toks)(hp:LPos bf s (l::ls) cl [])(hw:Wait s 0 Q.length)(b1:s.toks.length+o.length<900):
  Fetch z bf (d+8) q s (Q++futL (s.line+1) o (l::ls)) (2*nOf [] (l::ls)+1):=by
 obtain⟨m,its⟩:=l;have hlo:=h.lo (m,its) (.head _);have so:=h.sok;revert b1 h;refine so.el fun{b0 r0}so b1 h=>?_;cases its with
 |nil=>exact absurd (and_r (and_l hlo)) Bool.false_ne_true
 |cons x xs=>
 obtain⟨g,c⟩:=x;cases hp with|@nil gg hg hA=>
 have hl:letter c:=letB_ok (and_l (and_r hlo));have hA2:At bf s (gg++10::(List.replicate m 32++headc g c::((piece g c).tail++(bodyT xs++10::linesT ls)))):=by
  have e:linesT ((m,(g,c)::xs)::ls)=List.replicate m 32++headc g c::((piece g c).tail++(bodyT xs++10::linesT ls)):=by
   show List.replicate m 32++((piece g c++bodyT xs)++10::linesT ls)=_;rw[piece_head,List.append_assoc];rfl
  rw[←e];exact hA
 cases so.left (cl:=m) (Int.le_trans (by decide) (Int.natCast_nonneg m)) with|@mk b r hle hb hsok=>
 have hcol:(nlS bf s gg m b r (b0::r0)).col=m:=newS_col;have b3:=nl_len (s:=s) (w:=tk2 227 bf (newS s gg m) (newS s gg m)) hle b1;have hB:=(stn_new (z:=z) (q:=q) (d:=d) hz hg hA2 (headc_ok hl)).2;have pre:Pre bf (nlS bf s gg m b r (b0::r0)) b r (g,c) xs ls (Q++fins (s.line+1) m (pops (b0::r0) m).length):=
  ⟨⟨h.done,hsok,⟨rfl,rfl⟩,Nat.le_of_succ_le (of_decide_eq_true (and_l (and_l hlo))),fun l hl=>h.lo l (.tail _ hl),fun y0_=>rfl⟩,by rw[show piece (g,c).1 (g,c).2=_ from piece_head];exact⟨hB.ex⟩,by rw[hcol];exact Int.natCast_nonneg m,by rw[hcol];exact hb,fun e=>absurd ((and_r (and_l hlo)).symm.trans e) (by decide),and_r hlo,nl_toks hq,.no rfl,Nat.lt_trans (Nat.lt_of_le_of_lt (Nat.le_trans (Nat.le_add_right _ _) (Nat.le_add_right _ _)) b3) (by decide),Nat.lt_trans (Nat.lt_of_le_of_lt (Nat.le_trans (Nat.le_add_left _ _) (Nat.le_add_right _ _)) b3) (by decide)⟩
 cases disp (z:=z) (q:=q) (d:=d) pre hz with|@mk n' s' hn hgo hs hta=>
 rw[hcol] at hs;refine .mk (n':=n') ?_ (fm_new hz hg hA2 (headc_ok hl) ⟨_,_,hle▸pops_left (b0::r0) m,h.st⟩ (fun p hp=>tw_mem hp) hb ?_ (wait_new hw) hgo) ?_ hta
 ·rw[show nOf [] ((m,(g,c)::xs)::ls)=nOf ((g,c)::xs) ls from Nat.zero_add _];exact hn
 ·rw[pops_len (b0::r0) m] at b1;exact Nat.lt_of_le_of_lt (Nat.add_le_add_left (Nat.le_add_right _ _) _) (Nat.lt_trans b1 (by decide))
 ·have e:Q++futL (s.line+1) (b0::r0) ((m,(g,c)::xs)::ls)=(Q++fins (s.line+1) m (pops (b0::r0) m).length)++futS (s.line+1) ls m (b::r) ((g,c)::xs):=by
   show Q++(fins (s.line+1) m _++futS (s.line+1) ls m (left (b0::r0) m) ((g,c)::xs))=_;rw[hle,List.append_assoc]
  rw[e];exact hs
theorem fetch_eof(hz:bf.length≤SZ)(h:Live s o [] [])(hq:Tks Q s.toks)(hp:LPos bf s [] cl [])(hw:Wait s 0 Q.length)(b1:s.toks.length+o.length<900):Fetch z bf (d+8) q s (Q++futL (s.line+1) o []) (2*nOf [] []+1):=by
 have so:=h.sok;revert b1 h;refine so.el fun{b0 r0}so h b1=>?_;cases hp with|@nil gg hg hA=>
 cases so.left (cl:=((0:Nat):Int)) (by decide) with|@mk b r hle hb hsok=>
 have b3:=nl_len (s:=s) (w:=tk2 227 bf (newS s gg 0) (newS s gg 0)) hle b1;have e1:=hsok.ground;have hlen:(pops (b0::r0) (-1)).length=(pops (b0::r0) (0:Nat)).length+(pops (b::r) (-1)).length:=by
  have h1:=congrArg List.length so.ground;have h2:=congrArg List.length e1;rw[List.length_append] at h1 h2;have h3:=pops_len (b0::r0) (0:Nat);rw[hle,h2] at h3;exact Nat.succ.inj (h1.symm.trans h3)
 have hend:=fetch_end (z:=z) (bf:=bf) (q:=q) (d:=d+4) (s:=nlS bf s gg 0 b r (b0::r0)) (ps:=pops (b::r) (-1)) ⟨b,r,e1.symm,rfl,rfl⟩ (fun p hp=>tw_mem hp) rfl (by
  have h2:=congrArg List.length e1;rw[List.length_append] at h2;exact Nat.lt_of_le_of_lt (Nat.add_le_add_left (Nat.le_of_eq (Nat.succ.inj h2).symm) _) (Nat.lt_trans (Nat.lt_of_succ_lt b3) (by decide)))
 refine .mk (n':=0) (Nat.zero_lt_succ _) (fm_new (m:=0) hz hg hA (sgn_of rfl) ⟨_,_,hle▸pops_left (b0::r0) (0:Nat),h.st⟩ (fun p hp=>tw_mem hp) hb ?_ (wait_new hw) (disp_end hend)) (Sc.done rfl ?_ rfl) rfl
 ·rw[pops_len (b0::r0) (0:Nat)] at b1;exact Nat.lt_of_le_of_lt (Nat.add_le_add_left (Nat.le_add_right _ _) _) (Nat.lt_trans b1 (by decide))
 ·show Tks (Q++(fins (s.line+1) 0 (pops (b0::r0) (-1)).length++_)) _;have e2:fins (s.line+1) 0 (pops (b0::r0) (-1)).length=fins (s.line+1) (0:Nat) (pops (b0::r0) (0:Nat)).length++fins (s.line+1) (0:Nat) (pops (b::r) (-1)).length:=by rw[hlen];exact List.replicate_append_replicate.symm
  show Tks _ ((s.toks++List.replicate (pops (b0::r0) (0:Nat)).length (tk2 227 bf (newS s gg 0) (newS s gg 0))++List.replicate (pops (b::r) (-1)).length (tk2 227 bf (newS s gg 0) (newS s gg 0)))++[tk2 191 bf (newS s gg 0) (newS s gg 0)]);rw[e2,List.append_assoc,←List.append_assoc Q,List.append_assoc (s.toks++_)];exact(nl_toks (bf:=bf) (g:=gg) hq).app ((Tks.rep (.mk (r:=⟨.fin,s.line+1,(0:Nat),0⟩) (a:=newS s gg 0) (b:=newS s gg 0) rfl newS_col) _).app (.one (.mk (r:=⟨.stop,s.line+1,0,0⟩) (a:=newS s gg 0) (b:=newS s gg 0) rfl newS_col)))
end Mine.Internal
end
section
open PySem PySem.W
namespace Mine.Internal
variable{z:Zk} {bf:List Nat} {s s0:SS} {q:QS} {d c n np:Nat} {its xs:Items} {ls:Lines} {cl b k i:Int} {o:List Int} {Q F:List Row} {g:Sg} {x:Sg×Nat} {t m:V} {ts l:List V} {rq:Bool} {r:Row}
theorem fetch_step(h:Sc bf n s F)(hz:bf.length≤SZ)(hF:F.length<800)(hdn:s.done=false):Fetch z bf (d+8) q s F n:=by
 cases h with
 |@live _ o its ls cl Q h hq hc hp ht hi hw=>
  have h2:o.length≤(futS s.line ls cl o its).length:=futI_len (fun o h=>futL_len h) h.sok hc;have b:s.toks.length+o.length<900:=by
   rw[List.length_append,hq.len] at hF;exact Nat.lt_of_le_of_lt (Nat.add_le_add_left h2 _) (Nat.lt_trans hF (by decide))
  cases its with
  |cons x xs=>exact fetch_in hz h hq hc hp ht hi hw (Nat.lt_of_le_of_lt (Nat.le_add_right _ _) b) (Nat.lt_of_le_of_lt (Nat.le_add_left _ _) b)
  |nil=>
   cases ls with
   |nil=>exact fetch_eof hz h hq hp hw b
   |cons y ys=>exact fetch_nl hz h hq hp hw b
 |@key _ s0 o its ls Q c ts t k i rq h hq htt ht hm hk hn hx hA hc hcl hto hi ha=>
  have h2:o.length≤(futS s.line ls (s0.col+3) (push o s0.col .key) its).length:=Nat.le_trans (push_len o s0.col .key) (futI_len (fun o h=>futL_len h) (h.sok.push hc) (Int.add_nonneg hc (by decide)));have b:Q.length+o.length<800:=by
   rw[List.length_append,List.length_append] at hF;exact Nat.lt_of_le_of_lt (Nat.add_le_add_left (Nat.le_trans h2 (Nat.le_add_left _ _)) _) hF
  exact fetch_key hz h hq htt ht hm hk hn hx hA hc hcl hto hi (by rw[htt,List.length_append,←hq.len];exact Nat.lt_of_le_of_lt (Nat.succ_le_succ (Nat.le_add_right _ _)) (Nat.lt_trans (Nat.succ_lt_succ b) (by decide))) (Nat.lt_of_le_of_lt (Nat.le_add_left _ _) (Nat.lt_trans b (by decide)))
 |@doc _ ls Q hdn' hst hlo hq hcol hp hA=>
  have hB:At bf (adv s 3) (10::linesT ls):=At.advs (cs:=[45,45,45]) hA;have ht:s.toks.length<1000:=by rw[List.length_append,hq.len] at hF;exact Nat.lt_of_le_of_lt (Nat.le_add_right _ _) (Nat.lt_trans hF (by decide))
  have hr:=fm_same0 (z:=z) (q:=q) (d:=d+4) (c:=45) hA (sgn_of rfl) hst (by rw[hcol];decide) ht (.no hp) (disp_doc hz hA hcol (fetch_doc hA hst hp ht));rw[show Q++(⟨.dst,s.line,0,0⟩:Row)::futL (s.line+1) [-1] ls=(Q++[⟨.dst,s.line,0,0⟩])++futS s.line ls 0 [-1] [] from(List.append_assoc Q [_] _).symm];exact .mk (Nat.lt_succ_self _) hr (Sc.live (s:=((adv s 3).a false).t (s.toks++[tk2 147 bf s (adv s 3)])) (cl:=0) (o:=[-1]) (its:=[]) ⟨hdn',.base,hst,by decide,hlo,fun h=>absurd h Bool.false_ne_true⟩ (hq.app (.one (.mk (r:=⟨.dst,s.line,0,0⟩) (a:=s) (b:=adv s 3) rfl hcol))) (by decide) (.nil .n ⟨hB.ex⟩) trivial rfl (.no hp)) rfl
 |done h=>exact absurd (h.symm.trans hdn) (by decide)
noncomputable def SS.p(s:SS)(ts:List V):SS:={s with taken:=s.taken+1,toks:=ts}
inductive Ready (bf:List Nat) (n:Nat) (s:SS):List Row→Prop
 |mk {r:Row} {F:List Row} {t:V} {ts:List V}:s.toks=t::ts→Tk r t→Sc bf n (s.p ts) F→Ready bf n s (r::F)
theorem t_toks(h:s.toks=ts):tr (TT z) d (.tv (.attr (.loc 0) 14)) ⟨.self::l,enc bf s q⟩ (.ok (!ts.isEmpty) ⟨.self::l,enc bf s q⟩):=t_p (congrArg (fun l:List V=>some !l.isEmpty) h)
theorem t_done{b:Bool}(h:s.done=b):tr (TT z) d (.tv (.attr (.loc 0) 12)) ⟨.self::l,enc bf s q⟩ (.ok b ⟨.self::l,enc bf s q⟩):=t_p (congrArg some h)
noncomputable abbrev Need(z:Zk)(d:Nat)(bf:List Nat)(s:SS)(q:QS)(v:V):Prop:=run (TT z) d 12 [.self] (enc bf s q) (.ret v (enc bf s q) [.self])
theorem need_true(hdn:s.done=false)(ht:s.toks=[]):Need z (d+2) bf s q (.bool true):=run_to<|x_cons (x_iF (t_done hdn) x_nil)<|x_end<|x_iT (t_not (t_toks ht)) (x_qs rfl)
theorem need_done(hdn:s.done=true):Need z (d+2) bf s q (.bool false):=run_to<|x_end<|x_iT (t_done hdn) (x_qs rfl)
theorem need_no(hdn:s.done=false)(ht:s.toks=t::ts)(hp:s.psk=[]):Need z (d+2) bf s q .none:=
 run_to<|x_cons (x_iF (t_done hdn) x_nil)<|x_cons (x_iF (t_not (t_toks ht)) x_nil)<|x_cons (x_expr (m_cal rfl rfl (stale0 hp)))<|x_cons (x_iF (t_cmp (m_cal rfl rfl (npk0 hp)) rfl rfl) x_nil) x_nil
theorem need_pre(hdn:s.done=false)(ht:s.toks=t::ts)(hs:run (TT z) (d+1) 15 [.self] (enc bf s q) (.ret .none (enc bf s q) [.self])){w:R Fl}(k:exs (TT z) (d+1) 1 (f_Scanner_need_more_tokens.code.drop 3) ⟨[.self],enc bf s q⟩ w):exs (TT z) (d+1) 1 f_Scanner_need_more_tokens.code ⟨[.self],enc bf s q⟩ w:=
 x_cons (x_iF (t_done hdn) x_nil)<|x_cons (x_iF (t_not (t_toks ht)) x_nil)<|x_cons (x_expr (m_cal rfl rfl hs)) k
theorem need_key(hdn:s.done=false)(ht:s.toks=t::ts)(hp:s.psk=[(.int 0,skey k rq i s.line cl m)])(hi:s.idx-i≤1024):(k=s.taken→Need z (d+2) bf s q (.bool true))∧(k≠s.taken→Need z (d+2) bf s q .none):=
  ⟨fun e=>run_to<|need_pre hdn ht (stale_keep hp rfl hi)<|x_end<|x_iT (t_cmp (m_cal rfl rfl (npk1 hp)) rfl (congrArg some (decide_eq_true e))) (x_qs rfl),
   fun e=>run_to<|need_pre hdn ht (stale_keep hp rfl hi)<|x_cons (x_iF (t_cmp (m_cal rfl rfl (npk1 hp)) rfl (congrArg some (decide_eq_false e))) x_nil) x_nil⟩
inductive NeedS (z:Zk) (d:Nat) (bf:List Nat) (n:Nat) (s:SS) (q:QS) (F:List Row):Prop
 |more:Need z d bf s q (.bool true)→s.done=false→NeedS z d bf n s q F
 |no:Need z d bf s q .none→Ready bf n s F→NeedS z d bf n s q F
 |stop:Need z d bf s q (.bool false)→Ready bf n s F→NeedS z d bf n s q F
theorem Live.pop{o:List Int}(h:Live s o its ls):Live (s.p ts) o its ls:=⟨h.done,h.sok,h.st,h.lens,h.lo,h.ask⟩
theorem LPos.pop(h:LPos bf s ls cl its):LPos bf (s.p ts) ls cl its:=by
 cases h with
 |nil hg hA=>exact .nil hg ⟨hA.ex⟩
 |cons ha hA hc=>exact .cons ha ⟨hA.ex⟩ hc
theorem need_spec(h:Sc bf n s F)(hF:F≠[]):NeedS z (d+2) bf n s q F:=by
 cases h with
 |@live _ o its ls cl Q h hq hc hp ht hi hw=>
  cases htk:s.toks with
  |nil=>exact .more (need_true h.done htk) h.done
  |cons t ts=>
   rw[htk] at hq;cases hq with|cons h1 h2=>
   cases hw with
   |no hw=>exact .no (need_no h.done htk hw) (.mk htk h1 (Sc.live h.pop h2 hc hp.pop ht hi (.no hw)))
   |@yes k i c m hw g1 g2 g3 g4=>
    have hr:=need_key (z:=z) (d:=d) (bf:=bf) (q:=q) h.done htk hw (by omega)
    by_cases e:k=s.taken
    ·exact .more (hr.1 e) h.done
    ·exact .no (hr.2 e) (.mk htk h1 (Sc.live h.pop h2 hc hp.pop ht hi (.yes hw (Int.lt_iff_le_and_ne.mpr ⟨g1,Ne.symm e⟩) (by
      show k- (s.taken+1)<_;rw[List.length_cons] at g2;omega) g3 g4)))
 |@key _ s0 o its ls Q c ts t k i rq h hq htt ht hm hk hn hx hA hc hcl hto hi ha=>
  have hi':s.idx-i≤1024:=Int.le_trans hx (by decide);cases hq with
  |nil=>exact .more ((need_key h.done htt hk hi').1 (Int.sub_eq_zero.mp hn)) h.done
  |@cons r u rs us h1 h2=>
   have e2:k- (s.taken+1)=us.length:=by rw[List.length_cons] at hn;omega
   exact .no ((need_key h.done htt hk hi').2 (by rw[List.length_cons] at hn;omega)) (.mk (ts:=us++[t]) htt h1 (Sc.key (s:=s.p (us++[t])) h.pop h2 rfl ht hm hk e2 hx ⟨hA.ex⟩ hc hcl hto hi ha))
 |@doc _ ls Q hdn hst hlo hq hcol hp hA=>
  cases htk:s.toks with
  |nil=>exact .more (need_true hdn htk) hdn
  |cons t ts=>
   rw[htk] at hq;cases hq with|cons h1 h2=>
   exact .no (need_no hdn htk hp) (.mk htk h1 (Sc.doc (s:=s.p ts) hdn hst hlo h2 hcol hp ⟨hA.ex⟩))
 |done h hq hp=>
  cases htk:s.toks with
  |nil=>rw[htk] at hq;cases hq;exact absurd rfl hF
  |cons t ts=>
   rw[htk] at hq;cases hq with|cons h1 h2=>exact .stop (need_done h) (.mk htk h1 (Sc.done h h2 hp))
noncomputable abbrev needT:E:=.tv (.mcal (.loc 0) 35 12 [] [])
noncomputable abbrev needB:List S:=[.expr (.mcal (.loc 0) 36 13 [] [])]
inductive NeedL (z:Zk) (d np:Nat) (l:List V) (bf:List Nat) (s:SS) (q:QS) (F:List Row):Prop
 |mk {n' s'}:wl (TT z) d np needT needB ⟨.self::l,enc bf s q⟩ (.ok .next ⟨.self::l,enc bf s' q⟩)→Sc bf n' s' F→Ready bf n' s' F→NeedL z d np l bf s q F
theorem need_loop(hz:bf.length≤SZ)(hF:F≠[])(hF2:F.length<800):∀{n:Nat}{s:SS},Sc bf n s F→NeedL z (d+8) np l bf s q F:=fun{n}=>by
 induction n using Nat.strongRecOn with
 |ind n ih=>
 intro s h;cases need_spec (z:=z) (q:=q) (d:=d+6) h hF with
 |more hr hdn=>
  cases fetch_step (z:=z) (q:=q) (d:=d) h hz hF2 hdn with|mk hn hf hs=>
  cases ih _ hn hs with|mk hx h2 h3=>exact .mk (w_go (t_tv (m_cal rfl rfl hr) rfl rfl) (x_cons (x_expr (m_cal rfl rfl hf)) x_nil) hx) h2 h3
 |no hr hre=>exact .mk (w_stop (t_tv (m_cal rfl rfl hr) rfl rfl)) h hre
 |stop hr hre=>exact .mk (w_stop (t_tv (m_cal rfl rfl hr) rfl rfl)) h hre
noncomputable def idK:Kd→List Nat
 | .sst=>[60,115,116,114,101,97,109,32,115,116,97,114,116,62]
 | .dst=>[60,100,111,99,117,109,101,110,116,32,115,116,97,114,116,62]
 | .stop=>[60,115,116,114,101,97,109,32,101,110,100,62]
 | .seq=>[60,98,108,111,99,107,32,115,101,113,117,101,110,99,101,32,115,116,97,114,116,62]
 | .map=>[60,98,108,111,99,107,32,109,97,112,112,105,110,103,32,115,116,97,114,116,62]
 | .fin=>[60,98,108,111,99,107,32,101,110,100,62]
 | .q=>[63]
 | .colon=>[58]
 | .dash=>[45]
 | .amp=>[60,97,110,99,104,111,114,62]
 | .bang=>[60,116,97,103,62]
 | .s| .b=>[60,115,99,97,108,97,114,62]
noncomputable def wordIn(x:List Nat):List (List Nat)→Bool
 |[]=>false
 |c::cs=>decide (x=c)||wordIn x cs
theorem has_words{x:List Nat}:∀(cs:List (List Nat)),hasStr x (cs.map .str)=some (wordIn x cs)
 |[]=>rfl
 |c::cs=>congrArg (Option.map fun b=>decide (x=c)||b) (has_words cs)
theorem tok_id{k:Kd}{c:Nat}{a b:V}{P:Pt}:attrV (TT z) P (tokV k c a b) 37=some (.str (idK k)):=by cases k<;>rfl
theorem sub_0:subV (.list (t::ts)) (.int 0)=some t:=by
 show((seqIndex? ((0:Nat):Int) (ts.length+1)).bind fun k=>(t::ts)[k]?)=_;rw[seq_nat (Nat.zero_lt_succ _)];rfl
inductive Chk (z:Zk) (d:Nat) (bf:List Nat) (s:SS) (q:QS) (cs:List (List Nat)) (r:Row) (F:List Row):Prop
 |mk {n' s'}:run (TT z) d 9 [.self,.tup (cs.map .str)] (enc bf s q) (.ret (.bool (wordIn (idK r.k) cs)) (enc bf s' q) [.self,.tup (cs.map .str)])→Sc bf n' s' (r::F)→Ready bf n' s' (r::F)→Chk z d bf s q cs r F
theorem check_spec(hz:bf.length≤SZ)(h:Sc bf n s (r::F))(hF:F.length<790)(cs:List (List Nat))(hcs:cs.isEmpty=false):Chk z (d+9) bf s q cs r F:=by
 cases need_loop (z:=z) (q:=q) (d:=d) (np:=2) (l:=[.tup (cs.map .str)]) (F:=r::F) hz (List.cons_ne_nil _ _) (Nat.succ_lt_succ (Nat.lt_trans hF (by decide))) h with|@mk n' s' hx hs hre=>
 refine .mk ?_ hs hre;cases hre with|@mk _ _ t ts htk hT _=>
 cases hT with|@mk bf2 a b _ _=>
 have e0:pt (TT z) ⟨[.self,.tup (cs.map .str)],enc bf s' q⟩ (.not (.tv (.loc 1)))=some false:=congrArg (fun b=>some !!b) (show(cs.map V.str).isEmpty=false by cases cs<;>first|exact absurd hcs.symm Bool.false_ne_true|rfl);have e2:pt (TT z) ⟨[.self,.tup (cs.map .str)],enc bf s' q⟩ (.cmp .isin (.attr (.sub (.attr (.loc 0) 14) (.cI 0)) 37) (.loc 1))=some (wordIn (idK r.k) cs):=by
  show(((subV (.list s'.toks) (.int 0)).bind fun v=>attrV (TT z) (enc bf s' q) v 37).bind fun x=>cmpV .isin x (.tup (cs.map .str)))=_;rw[htk,sub_0];show((attrV (TT z) (enc bf s' q) (tokV r.k r.c (mk bf2 a) (mk bf2 b)) 37).bind _)=_;rw[tok_id];exact has_words cs
 cases hb:wordIn (idK r.k) cs with
 |true=>exact run_to<|x_cons (x_whl hx)<|x_end<|x_iT (t_toks htk)<|x_cons (x_iF (t_p e0) x_nil)<|x_end<|x_iT (t_p (e2.trans (congrArg some hb))) (x_qs rfl)
 |false=>exact run_to<|x_cons (x_whl hx)<|x_cons (x_iT (t_toks htk)<|x_cons (x_iF (t_p e0) x_nil)<|x_cons (x_iF (t_p (e2.trans (congrArg some hb))) x_nil) x_nil) (x_qs rfl)
inductive Peek (z:Zk) (d:Nat) (bf:List Nat) (s:SS) (q:QS) (r:Row) (F:List Row):Prop
 |mk {n' s' t}:run (TT z) d 10 [.self] (enc bf s q) (.ret t (enc bf s' q) [.self])→Sc bf n' s' (r::F)→Tk r t→Peek z d bf s q r F
theorem pop_val(htk:s.toks=t::ts)(hn:t.nl=true):pv (TT z) ⟨[.self],enc bf s q⟩ (.sub (.attr (.loc 0) 14) (.cI 0))=some t:=by
 show(subV (.list s.toks) (.int 0)).bind _=_;rw[htk,sub_0];show onB t.nl (some t)=_;rw[hn];rfl
theorem Tk.nl(h:Tk r t):t.nl=true:=by
 cases h;obtain⟨k,_,_,_⟩:=r;cases k<;>rfl
theorem peek_tok(hz:bf.length≤SZ)(h:Sc bf n s (r::F))(hF:F.length<790):Peek z (d+9) bf s q r F:=by
 cases need_loop (z:=z) (q:=q) (d:=d) (np:=1) (l:=[]) (F:=r::F) hz (List.cons_ne_nil _ _) (Nat.succ_lt_succ (Nat.lt_trans hF (by decide))) h with|@mk n' s' hx hs hre=>
 cases hre with|@mk _ _ t ts htk hT _=>
 exact .mk (run_to<|x_cons (x_whl hx)<|x_end<|x_iT (t_toks htk)<|x_end<|x_ret (e_p (pop_val htk hT.nl)) rfl) hs hT
inductive Get (z:Zk) (d:Nat) (bf:List Nat) (s:SS) (q:QS) (r:Row) (F:List Row):Prop
 |mk {n' s' t}:run (TT z) d 11 [.self] (enc bf s q) (.ret t (enc bf s' q) [.self])→Sc bf n' s' F→Tk r t→Get z d bf s q r F
theorem get_tok(hz:bf.length≤SZ)(h:Sc bf n s (r::F))(hF:F.length<790):Get z (d+9) bf s q r F:=by
 cases need_loop (z:=z) (q:=q) (d:=d) (np:=1) (l:=[]) (F:=r::F) hz (List.cons_ne_nil _ _) (Nat.succ_lt_succ (Nat.lt_trans hF (by decide))) h with|@mk n' s' hx hs hre=>
 cases hre with|@mk _ _ t ts htk hT hp=>
 exact .mk (run_to<|x_cons (x_whl hx)<|x_end<|x_iT (t_toks htk)<|x_cons (x_q rfl)<|x_end<|x_ret (e_pop0 (u:=t) (xs:=ts) (.attr rfl (congrArg (some∘V.list) htk))) rfl) hp hT
end Mine.Internal
end
section
open PySem PySem.W
namespace Mine.Internal
noncomputable def oA:Option Nat→V|none=>.none|some c=>.str [c]
noncomputable def oT:Option Nat→V|none=>.none|some c=>.str [33,c]
noncomputable def tVal(a t imp v st:V):V:=.tup [.str [118,97,108,117,101],a,t,imp,v,st]
noncomputable def tRow(a t:V)(imp:Bool)(fl:V):V:=.tup [.str [114,111,119],a,t,.bool imp,fl]
noncomputable def tMap(a t:V)(imp:Bool)(fl:V):V:=.tup [.str [109,97,112],a,t,.bool imp,fl]
noncomputable def tRowEnd:V:=.tup [.str [114,111,119,32,101,110,100]]
noncomputable def tMapEnd:V:=.tup [.str [109,97,112,32,101,110,100]]
noncomputable def tEmpty:V:=tVal .none .none (.tup [.bool true,.bool false]) (.str []) .none
noncomputable def tRef(r:Row):V:=.tup [.str [114,101,102,117,115,101,100],.int r.ln,.int r.cl]
noncomputable def tEmptyP(a t:Option Nat):V:=tVal (oA a) (oT t) (.tup [.bool t.isNone,.bool false]) (.str []) .none
noncomputable def Kd.cd:Kd→Nat
 | .sst=>0| .dst=>1| .dash=>2| .q=>3| .colon=>4| .seq=>5| .map=>6| .fin=>7| .s=>8| .b=>9| .amp=>10| .bang=>11| .stop=>12
noncomputable def kin(k:Kd)(L:List Nat):Bool:=L.contains k.cd
theorem kin_sub{k:Kd}{L M:List Nat}(h:kin k M=false)(s:L.all (M.contains ·)=true):kin k L=false:=Bool.eq_false_iff.mpr fun e=>Bool.false_ne_true (h.symm.trans (List.all_eq_true.mp s _ (List.contains_iff_mem.mp e)))
theorem kin_ne{k:Kd}{L M:List Nat}(h:kin k M=true)(s:M.all (fun x=> !L.contains x)=true):kin k L=false:=by
 have:=List.all_eq_true.mp s _ (List.contains_iff_mem.mp h);exact Bool.not_eq_true' _▸this
theorem kin_or{k:Kd}{a:Nat}{L:List Nat}:kin k (a::L)=(k.cd==a||kin k L):=List.contains_cons
theorem kin_fc{k:Kd}{a:Nat}{L:List Nat}(h:kin k [a]=false)(h2:kin k L=false):kin k (a::L)=false:=by
 rw[kin_or] at h⊢;rw[(Bool.or_eq_false_iff.mp h).1];exact h2
noncomputable def tScal(a t:Option Nat)(k:Kd)(c:Nat):V:=tVal (oA a) (oT t) (.tup [.bool (t.isNone&&kin k [9]),.bool (t.isNone&&kin k [8])]) (.str [c]) (if kin k [8]=true then .str [39] else .none)
noncomputable def props:Option Nat→Option Nat→List Row→Option Nat×Option Nat×List Row
 |a,t,[]=>(a,t,[])
 |a,t,r::F=>if(kin r.k [10]&&a.isNone)=true then props (some r.c) t F else if(kin r.k [11]&&t.isNone)=true then props a (some r.c) F else(a,t,r::F)
noncomputable def nodeK(loose:Bool):List Nat:=if loose=true then [2,8,9,5,6] else [8,9,5,6]
noncomputable def stopsOf(framed:Bool):List Nat:=if framed=true then [2,7] else [2,3,4,7]
inductive Md|node (loose:Bool)|left (st:List Nat) (loose:Bool)|ent (framed:Bool)|pairs
inductive Rd:Nat→Md→List Row→List V→Option (List Row)→Prop
 |dash {n F F2 a t r E res}:props none none F=(a,t,r::F2)→kin r.k [2]=true→Rd n (.ent false) (r::F2) E res→Rd (n+1) (.node true) F (tRow (oA a) (oT t) t.isNone .none::E) res
 |scal {n lo F F2 a t r}:props none none F=(a,t,r::F2)→kin r.k [8,9]=true→Rd (n+2) (.node lo) F [tScal a t r.k r.c] (some F2)
 |seq {n lo F F2 a t r E res}:props none none F=(a,t,r::F2)→kin r.k [5]=true→Rd n (.ent true) F2 E res→Rd (n+1) (.node lo) F (tRow (oA a) (oT t) t.isNone (.bool false)::E) res
 |map {n lo F F2 a t r E res}:props none none F=(a,t,r::F2)→kin r.k [6]=true→Rd n .pairs F2 E res→Rd (n+1) (.node lo) F (tMap (oA a) (oT t) t.isNone (.bool false)::E) res
 |bad {n lo F F2 r}:props none none F=(none,none,r::F2)→kin r.k (nodeK lo)=false→Rd (n+2) (.node lo) F [tRef r] none
 |bare {n lo F F2 a t r}:props none none F=(a,t,r::F2)→kin r.k (nodeK lo)=false→(a.isNone&&t.isNone)=false→Rd (n+2) (.node lo) F [tEmptyP a t] (some (r::F2))
 |stop {n st lo r F}:kin r.k st=true→Rd (n+2) (.left st lo) (r::F) [tEmpty] (some (r::F))
 |inner {n st lo r F E res}:kin r.k st=false→Rd n (.node lo) (r::F) E res→Rd (n+1) (.left st lo) (r::F) E res
 |turn {n fr r F F2 E E2 res}:kin r.k [2]=true→Rd n (.left (stopsOf fr) false) F E (some F2)→Rd (n+1) (.ent fr) F2 E2 res→Rd (n+1) (.ent fr) (r::F) (E++E2) res
 |failE {n fr r F E}:kin r.k [2]=true→Rd n (.left (stopsOf fr) false) F E none→Rd (n+1) (.ent fr) (r::F) E none
 |finE {n r F}:kin r.k [7]=true→Rd (n+2) (.ent true) (r::F) [tRowEnd] (some F)
 |badE {n r F}:kin r.k [2,7]=false→Rd (n+2) (.ent true) (r::F) [tRef r] none
 |off {n r F}:kin r.k [2]=false→Rd (n+2) (.ent false) (r::F) [tRowEnd] (some (r::F))
 |failK {n r F E}:kin r.k [3]=true→Rd n (.left [3,4,7] true) F E none→Rd (n+1) .pairs (r::F) E none
 |bareP {n r r2 F F2 E E2 res}:kin r.k [3]=true→Rd n (.left [3,4,7] true) F E (some (r2::F2))→kin r2.k [4]=false→Rd (n+1) .pairs (r2::F2) E2 res→Rd (n+1) .pairs (r::F) (E++(tEmpty::E2)) res
 |failV {n r r2 F F2 E E2}:kin r.k [3]=true→Rd n (.left [3,4,7] true) F E (some (r2::F2))→kin r2.k [4]=true→Rd n (.left [3,4,7] true) F2 E2 none→Rd (n+1) .pairs (r::F) (E++E2) none
 |full {n r r2 F F2 F3 E E2 E3 res}:kin r.k [3]=true→Rd n (.left [3,4,7] true) F E (some (r2::F2))→kin r2.k [4]=true→Rd n (.left [3,4,7] true) F2 E2 (some F3)→Rd (n+1) .pairs F3 E3 res→Rd (n+1) .pairs (r::F) (E++(E2++E3)) res
 |finP {n r F}:kin r.k [7]=true→Rd (n+2) .pairs (r::F) [tMapEnd] (some F)
 |badP {n r F}:kin r.k [3,7]=false→Rd (n+2) .pairs (r::F) [tRef r] none
inductive Ends:List Row→Prop
 |last {r}:kin r.k [12]=true→Ends [r]
 |cons {r F}:kin r.k [1,12]=false→Ends F→Ends (r::F)
theorem Ends.tail{r:Row}{F:List Row}{L:List Nat}(h:Ends (r::F))(hr:kin r.k L=true)(hl:L.all (fun x=> ![12].contains x)=true):Ends F:=by
 cases h with
 |last h=>exact absurd (h.symm.trans (kin_ne hr hl)) (by decide)
 |cons _ h=>exact h
theorem Ends.head{r:Row}{F:List Row}(h:Ends (r::F)):kin r.k [1]=false:=by
 cases h with
 |last h=>exact kin_ne h rfl
 |cons h _=>exact kin_sub h rfl
section
variable{r:Row} {F:List Row} {a t:Option Nat}
theorem neg_b{b:Bool}(h:b=false):¬b=true:=fun e=>Bool.false_ne_true (h.symm.trans e)
theorem props_y1(h:(kin r.k [10]&&a.isNone)=true):props a t (r::F)=props (some r.c) t F:=if_pos h
theorem props_y2(h:(kin r.k [10]&&a.isNone)=false)(h2:(kin r.k [11]&&t.isNone)=true):props a t (r::F)=props a (some r.c) F:=(if_neg (neg_b h)).trans (if_pos h2)
theorem props_n(h:(kin r.k [10]&&a.isNone)=false)(h2:(kin r.k [11]&&t.isNone)=false):props a t (r::F)=(a,t,r::F):=(if_neg (neg_b h)).trans (if_neg (neg_b h2))
end
inductive PropsE (F:List Row) (a t:Option Nat):Prop
 |mk {a' t' r F2}:props a t F=(a',t',r::F2)→Ends (r::F2)→F2.length<F.length→((a'=a∧t'=t)∨F2.length+1<F.length)→PropsE F a t
theorem props_ends:∀{F:List Row}(a t:Option Nat),Ends F→PropsE F a t
 |[],a,t,h=>nomatch h
 |r::F,a,t,h=>by
  have go:∀{a1 t1:Option Nat}{L:List Nat},kin r.k L=true→L.all (fun x=> ![12].contains x)=true→props a t (r::F)=props a1 t1 F→PropsE (r::F) a t:=fun{a1 t1 L}hk hl e=>by
   cases props_ends a1 t1 (h.tail hk hl) with|mk e2 h2 h3 h4=>exact .mk (e.trans e2) h2 (Nat.lt_succ_of_lt h3) (.inr (Nat.succ_lt_succ h3))
  cases h1:kin r.k [10]&&a.isNone with
  |true=>exact go (and_l h1) rfl (props_y1 h1)
  |false=>
   cases h4:kin r.k [11]&&t.isNone with
   |true=>exact go (and_l h4) rfl (props_y2 h1 h4)
   |false=>exact .mk (props_n h1 h4) h (Nat.lt_succ_self _) (.inl ⟨rfl,rfl⟩)
end Mine.Internal
end
section
namespace Mine.Internal
variable{L j s:Nat} {F:List Row} {n:Nat} {md:Md}
inductive Got (n:Nat) (md:Md) (F:List Row) (s:Nat):Prop
 |none {E}:Rd n md F E none→Got n md F s
 |some {E F'}:Rd n md F E (some F')→Ends F'→F'.length+s≤F.length→Got n md F s
noncomputable def hdS:List Row→Nat
 |[]=>0
 |r::_=>(kin r.k [2]).toNat
noncomputable def NodeT(L:Nat):Prop:=∀F,Ends F→F.length≤L→∀j lo,Got (j+3*L+5) (.node lo) F 1
noncomputable def LeftT(L:Nat):Prop:=∀F,Ends F→F.length≤L→∀j st lo,Got (j+3*L+6) (.left st lo) F 0
noncomputable def EntT(L:Nat):Prop:=∀F,Ends F→F.length≤L→∀j fr,Got (j+3*L+4) (.ent fr) F (hdS F)
noncomputable def PairT(L:Nat):Prop:=∀F,Ends F→F.length≤L→∀j,Got (j+3*L+4) .pairs F 0
theorem Ends.el{C:List Row→Prop}(h:Ends F)(k:∀r F,Ends (r::F)→C (r::F)):C F:=h.casesOn (fun e=>k _ _ (.last e)) fun e h=>k _ _ (.cons e h)
theorem leftT(h:NodeT L):LeftT L:=fun F hF hL j st lo=>by
 revert hL;refine hF.el (C:=fun F=>F.length≤L→Got (j+3*L+6) (.left st lo) F 0) fun r F hF hL=>?_;cases hr:kin r.k st with
 |true=>exact .some (.stop hr) hF (Nat.le_refl _)
 |false=>cases h _ hF hL j lo with
  |none g=>exact .none (.inner hr g)
  |some g e l=>exact .some (.inner hr g) e (Nat.le_of_succ_le l)
theorem fuel3:j+3*L+7=(j+3)+3*L+4:=by omega
theorem entT(hL:LeftT L)(hE:EntT L):EntT (L+1):=fun F hF hl j fr=>by
 revert hl;refine hF.el (C:=fun F=>F.length≤L+1→Got (j+3* (L+1)+4) (.ent fr) F (hdS F)) fun r F hF hl=>?_;have hl:=Nat.le_of_succ_le_succ hl;cases hr:kin r.k [2] with
 |true=>
  cases hL F (hF.tail hr rfl) hl j (stopsOf fr) false with
  |none g=>exact .none (.failE hr g)
  |@some E F' g e l=>
   cases hE F' e (Nat.le_trans l hl) (j+3) fr with
   |none g2=>exact .none (.turn hr g (fuel3▸g2))
   |some g2 e2 l2=>exact .some (.turn hr g (fuel3▸g2)) e2 (by
     show _+(kin r.k [2]).toNat≤_;rw[hr];exact Nat.succ_le_succ (Nat.le_trans (Nat.le_of_add_right_le l2) l))
 |false=>
  have z:hdS (r::F)=0:=congrArg Bool.toNat hr;rw[z];cases fr with
  |false=>exact .some (.off hr) hF (Nat.le_refl _)
  |true=>cases h2:kin r.k [7] with
   |true=>exact .some (.finE h2) (hF.tail h2 rfl) (Nat.le_succ _)
   |false=>exact .none (.badE (kin_fc hr h2))
theorem pairT(hL:LeftT L)(hP:PairT L):PairT (L+1):=fun F hF hl j=>by
 revert hl;refine hF.el (C:=fun F=>F.length≤L+1→Got (j+3* (L+1)+4) .pairs F 0) fun r F hF hl=>?_;have hl:=Nat.le_of_succ_le_succ hl;cases hr:kin r.k [3] with
 |false=>cases h2:kin r.k [7] with
  |true=>exact .some (.finP h2) (hF.tail h2 rfl) (Nat.le_succ _)
  |false=>exact .none (.badP (kin_fc hr h2))
 |true=>
  cases hL F (hF.tail hr rfl) hl j [3,4,7] true with
  |none g=>exact .none (.failK hr g)
  |@some E F' g e l=>
   revert g l;refine e.el (C:=fun F'=>Rd (j+3*L+6) (.left [3,4,7] true) F E (some F')→F'.length+0≤F.length→Got (j+3* (L+1)+4) .pairs (r::F) 0) fun r2 F2 e g l=>?_;cases hc:kin r2.k [4] with
   |false=>cases hP _ e (Nat.le_trans l hl) (j+3) with
    |none g2=>exact .none (.bareP hr g hc (fuel3▸g2))
    |some g2 e2 l2=>exact .some (.bareP hr g hc (fuel3▸g2)) e2 (Nat.le_succ_of_le (Nat.le_trans l2 l))
   |true=>
    have l1:=Nat.le_of_succ_le l;cases hL F2 (e.tail hc rfl) (Nat.le_trans l1 hl) j [3,4,7] true with
    |none g2=>exact .none (.failV hr g hc g2)
    |@some E2 F3 g2 e2 l2=>cases hP F3 e2 (Nat.le_trans l2 (Nat.le_trans l1 hl)) (j+3) with
     |none g3=>exact .none (.full hr g hc g2 (fuel3▸g3))
     |some g3 e3 l3=>exact .some (.full hr g hc g2 (fuel3▸g3)) e3 (Nat.le_succ_of_le (Nat.le_trans l3 (Nat.le_trans l2 l1)))
theorem nodeT(hE:EntT L)(hP:PairT L):NodeT L:=fun F hF hl j lo=>by
 cases props_ends none none hF with|@mk a t r F2 hp h1 h2 h3=>
 have hl2:F2.length+1≤L:=Nat.le_trans h2 hl;have hl3:=Nat.le_of_succ_le hl2;have d1:∀{L},kin r.k L=true→L.all (fun x=> ![12].contains x)=true→Ends F2:=fun h e=>h1.tail h e;cases c1:lo&&kin r.k [2] with
 |true=>
  obtain rfl:lo=true:=and_l c1;cases hE (r::F2) h1 hl2 j false with
  |none g=>exact .none (.dash hp (and_r c1) g)
  |some g e l=>exact .some (.dash hp (and_r c1) g) e (by rw[show hdS (r::F2)=1 from congrArg Bool.toNat (and_r c1)] at l;exact Nat.le_trans l h2)
 |false=>cases c2:kin r.k [8,9] with
  |true=>exact .some (.scal hp c2) (d1 c2 rfl) h2
  |false=>cases c3:kin r.k [5] with
   |true=>cases hE F2 (d1 c3 rfl) hl3 j true with
    |none g=>exact .none (.seq hp c3 g)
    |some g e l=>exact .some (.seq hp c3 g) e (Nat.le_trans (Nat.succ_le_succ (Nat.le_of_add_right_le l)) h2)
   |false=>cases c4:kin r.k [6] with
    |true=>cases hP F2 (d1 c4 rfl) hl3 j with
     |none g=>exact .none (.map hp c4 g)
     |some g e l=>exact .some (.map hp c4 g) e (Nat.le_trans (Nat.succ_le_succ l) h2)
    |false=>
     have k4:kin r.k [8,9,5,6]=false:=by
      have e8:=kin_sub (L:=[8]) c2 rfl;have e9:=kin_sub (L:=[9]) c2 rfl;exact kin_fc e8 (kin_fc e9 (kin_fc c3 c4))
     have k5:kin r.k (nodeK lo)=false:=by
      cases lo with
      |false=>exact k4
      |true=>exact kin_fc c1 k4
     cases c5:a.isNone&&t.isNone with
     |true=>
      cases a with
      |some=>exact absurd c5 Bool.false_ne_true
      |none=>cases t with
       |some=>exact absurd c5 Bool.false_ne_true
       |none=>exact .none (.bad hp k5)
     |false=>exact .some (.bare hp k5 c5) h1 (h3.elim (fun e=>by rw[e.1,e.2] at c5;exact absurd c5 (by decide)) fun l=>l)
theorem total:∀L,EntT L∧PairT L∧NodeT L
 |0=>by
  have z:∀{F},Ends F→¬F.length≤0:=fun h=>h.el (C:=fun F=>¬F.length≤0) fun y0_ y1_ y2_=>Nat.not_succ_le_zero _;have h0:EntT 0:=fun F hF hl=>absurd hl (z hF);have h1:PairT 0:=fun F hF hl=>absurd hl (z hF);exact⟨h0,h1,nodeT h0 h1⟩
 |L+1=>by
  obtain⟨h0,h1,h2⟩:=total L;have h3:=entT (leftT h2) h0;have h4:=pairT (leftT h2) h1;exact⟨h3,h4,nodeT h3 h4⟩
end Mine.Internal
end
section
open PySem PySem.W
namespace Mine.Internal
variable{z:Zk} {bf:List Nat} {s:SS} {q:QS} {d n np f i k mks c:Nat} {r:Row} {F:List Row} {l outs:List V} {e:E} {t u v m:V} {sts:List Nat} {P:Pt} {σ σ' σ1:St} {es:List E} {us bs:List V} {kw:List (Nat×E)} {T:Tb}
theorem pv_of(h:pe T σ e=some u)(n:u.nl=true):pv T σ e=some u:=by
 unfold pv;rw[h];show onB u.nl (some u)=_;rw[n];rfl
theorem pes_c(h:pe T σ e=some u)(n:u.nl=true)(k:pes T σ es=some us):pes T σ (e::es)=some (u::us):=by
 show((pe T σ e).bind fun v=>if v.nl=true then(pes T σ es).map (v:: ·) else none)=_;rw[h,k];exact if_pos n
theorem mcal_i{vs:Ar}{r:CR}(hi:σ.loc[i]? =some .self)(hs:(σ.P.lookup 1000).isSome=true)(ha:args T d es σ (.ok vs σ1))(hb:bindA T f (.self::vs.map (·.1)) σ1 kw=some bs)(H:run T d f bs σ1.P r):ev T d (.mcal (.loc i) k f es kw) σ (resC (none::vs.map (·.2)) σ1.loc r):=bind_k hb fun y0_ h1 h2=>.mk (Ev.mcal hi hs @ha.un h1 h2 @H.un)
noncomputable def CR.fin(loc:List V):CR→R Fl
 | .ret v P _=>.ok (.ret v) ⟨loc,P⟩
 | .exc x=>.exc x loc
theorem x_tail{r:CR}{b:List S}(hs:alive σ=true)(hb:bindQ T f [.self] σ es kw=some bs)(H:run T d f bs σ.P r):exs T d np (.ret (.mcal (.loc 0) k f es kw)::b) σ (r.fin σ.loc):=by
 cases r with
 |ret v P outs=>exact x_end (x_ret (m_cal hs hb H) rfl)
 |exc x=>exact x_end (x_retX (m_calX hs hb H) rfl)
noncomputable def evScal(a t imp v m1 m2 st:V):V:=.inst 585 [(158,a),(159,t),(160,imp),(119,v),(94,m1),(99,m2),(82,st)]
noncomputable def evSeq(a t imp m1 m2 fl:V):V:=.inst 597 [(158,a),(159,t),(160,imp),(94,m1),(99,m2),(130,fl)]
noncomputable def evMap(a t imp m1 m2 fl:V):V:=.inst 621 [(158,a),(159,t),(160,imp),(94,m1),(99,m2),(130,fl)]
noncomputable def evSeqEnd(m1 m2:V):V:=.inst 609 [(94,m1),(99,m2)]
noncomputable def evMapEnd(m1 m2:V):V:=.inst 633 [(94,m1),(99,m2)]
inductive Told (z:Zk):V→V→Prop
 |mk {C fs t}:t.nl=true→(∀d P,run (TT z) (d+1) 74 [.inst C fs] P (.ret t P [.inst C fs]))→Told z (.inst C fs) t
theorem oA_nl(a:Option Nat):(oA a).nl=true:=by cases a<;>rfl
theorem oT_nl(a:Option Nat):(oT a).nl=true:=by cases a<;>rfl
theorem all_c(h:u.nl=true)(k:us.all V.nl=true):(u::us).all V.nl=true:=by rw[List.all_cons,h,k];rfl
theorem e_tupA(h:pes T σ es=some us)(n:us.all V.nl=true)(z:us.length.ble 100=true):ev T d (.tup es) σ (.ok (.tup us) σ):=e_tupP h (Bool.and_eq_true_iff.mpr ⟨n,z⟩)
theorem told_scal{a t imp v m1 m2 st:V}(ha:a.nl=true)(ht:t.nl=true)(hi:imp.nl=true)(hv:v.nl=true)(hs:st.nl=true):Told z (evScal a t imp v m1 m2 st) (tVal a t imp v st):=
 .mk rfl fun d P=>run_to<|x_end<|x_iT (t_p rfl)<|x_end<|x_ret (e_tupA (pes_c rfl rfl<|pes_c rfl ha<|pes_c rfl ht<|pes_c rfl hi<|pes_c rfl hv<|pes_c rfl hs rfl) (all_c rfl<|all_c ha<|all_c ht<|all_c hi<|all_c hv<|all_c hs rfl) rfl) rfl
theorem told_seq{a t m1 m2 fl:V}{imp:Bool}(ha:a.nl=true)(ht:t.nl=true)(hf:fl.nl=true):Told z (evSeq a t (.bool imp) m1 m2 fl) (tRow a t imp fl):=
 .mk rfl fun d P=>run_to<|x_go 1 rfl<|x_end<|x_iT (t_p rfl)<|x_end<|x_ret (e_tupA (pes_c rfl rfl<|pes_c rfl ha<|pes_c rfl ht<|pes_c rfl rfl<|pes_c rfl hf rfl) (all_c rfl<|all_c ha<|all_c ht<|all_c rfl<|all_c hf rfl) rfl) rfl
theorem told_map{a t m1 m2 fl:V}{imp:Bool}(ha:a.nl=true)(ht:t.nl=true)(hf:fl.nl=true):Told z (evMap a t (.bool imp) m1 m2 fl) (tMap a t imp fl):=
 .mk rfl fun d P=>run_to<|x_go 3 rfl<|x_end<|x_iT (t_p rfl)<|x_end<|x_ret (e_tupA (pes_c rfl rfl<|pes_c rfl ha<|pes_c rfl ht<|pes_c rfl rfl<|pes_c rfl hf rfl) (all_c rfl<|all_c ha<|all_c ht<|all_c rfl<|all_c hf rfl) rfl) rfl
theorem told_seqEnd{m1 m2:V}:Told z (evSeqEnd m1 m2) tRowEnd:=.mk rfl fun d P=>run_to<|x_go 2 rfl<|x_end<|x_iT (t_p rfl)<|x_end<|x_ret (e_tupP rfl rfl) rfl
theorem told_mapEnd{m1 m2:V}:Told z (evMapEnd m1 m2) tMapEnd:=.mk rfl fun d P=>run_to<|x_go 4 rfl<|x_end<|x_iT (t_p rfl)<|x_end<|x_ret (e_tupP rfl rfl) rfl
noncomputable def tEnd:V:=.tup [.str [101,110,100],.bool false]
noncomputable def tStreamEnd:V:=.tup [.str [115,116,114,101,97,109,32,101,110,100]]
noncomputable def tStream:V:=.tup [.str [115,116,114,101,97,109]]
noncomputable def tDoc(op:Bool):V:=.tup [.str [100,111,99,117,109,101,110,116],.bool op,.none,.none]
theorem told_doc{a b:V}{op:Bool}:Told z (.inst 533 [(94,a),(99,b),(106,.bool op),(113,.none),(114,.none)]) (tDoc op):=.mk rfl fun d P=>run_to<|x_go 5 rfl<|x_end<|x_iT (t_p rfl)<|x_end<|x_ret (e_tupP rfl rfl) rfl
theorem told_docEnd{a b:V}:Told z (.inst 553 [(94,a),(99,b),(106,.bool false)]) tEnd:=.mk rfl fun d P=>run_to<|x_go 6 rfl<|x_end<|x_iT (t_p rfl)<|x_end<|x_ret (e_tupP rfl rfl) rfl
theorem told_stream{a b v:V}:Told z (.inst 501 [(94,a),(99,b),(8,v)]) tStream:=.mk rfl fun d P=>run_to<|x_go 7 rfl<|x_end<|x_iT (t_p rfl)<|x_end<|x_ret (e_tupP rfl rfl) rfl
theorem told_streamEnd{a b:V}:Told z (.inst 513 [(94,a),(99,b)]) tStreamEnd:=.mk rfl fun d P=>run_to<|x_go 8 rfl<|x_end<|x_iT (t_p rfl)<|x_end<|x_ret (e_tupP rfl rfl) rfl
noncomputable def QS.w(q:QS)(v:V):QS:={q with st:=v}
structure PQ0 (q:QS) (sts:List Nat) (mks:Nat):Prop where
 cur:q.cur= .none
 sts:q.sts=sts.reverse.map .meth
 mks:q.marks.length=mks
 mnl:q.marks.all V.nl=true
 st:isLst q.st=false
 tg:isLst q.tags=false
 vr:isLst q.ver=false
structure PQ (q:QS) (sts:List Nat) (mks:Nat):Prop extends PQ0 q sts mks where
 tg1:memV (.str [33]) q.tags=some true
 tg2:subV q.tags (.str [33])=some (.str [33])
theorem PQ.to(h:PQ q sts mks):PQ (q.w (.meth f)) sts mks:=⟨⟨h.cur,h.sts,h.mks,h.mnl,rfl,h.tg,h.vr⟩,h.tg1,h.tg2⟩
theorem PQ.pop(h:PQ q (c::sts) mks):q.sts=sts.reverse.map .meth++[.meth c]∧PQ {q with sts:=sts.reverse.map .meth,st:=.meth c} sts mks:=
 ⟨by rw[h.sts,List.reverse_cons,List.map_append];rfl,⟨h.cur,rfl,h.mks,h.mnl,rfl,h.tg,h.vr⟩,h.tg1,h.tg2⟩
theorem PQ.push(h:PQ q sts mks):PQ {q with sts:=q.sts++[.meth f]} (f::sts) mks:=
 ⟨⟨h.cur,by show q.sts++_=_;rw[h.sts,List.reverse_cons,List.map_append];rfl,h.mks,h.mnl,h.st,h.tg,h.vr⟩,h.tg1,h.tg2⟩
theorem PQ.mark(h:PQ q sts mks)(hm:m.nl=true):PQ {q with marks:=q.marks++[m]} sts (mks+1):=
 ⟨⟨h.cur,h.sts,by show(q.marks++[m]).length=_;rw[List.length_append,h.mks];rfl,by show(q.marks++[m]).all _=_;rw[List.all_append,h.mnl];exact all_c hm rfl,h.st,h.tg,h.vr⟩,h.tg1,h.tg2⟩
inductive UnM (q:QS) (sts:List Nat) (mks:Nat):Prop
 |mk {ms m}:q.marks=ms++[m]→m.nl=true→PQ {q with marks:=ms} sts mks→UnM q sts mks
theorem PQ.unmark(h:PQ q sts (mks+1)):UnM q sts mks:=by
 rcases List.eq_nil_or_concat q.marks with e|⟨ms,m,e⟩
 ·exact nomatch (congrArg List.length e).symm.trans h.mks
 ·rw[List.concat_eq_append] at e;have ha:=h.mnl;have hl:=h.mks;rw[e,List.all_append] at ha;rw[e,List.length_append] at hl;exact .mk e (and_l (and_r ha)) ⟨⟨h.cur,h.sts,Nat.succ.inj hl,and_l ha,h.st,h.tg,h.vr⟩,h.tg1,h.tg2⟩
inductive IsErr (r:Row):Ex→Prop
 |mk {a b c bf} {s:SS}:s.line=r.ln→s.col=r.cl→IsErr r ⟨1293,[(170,a),(171,b),(172,c),(166,mk bf s),(173,.none)]⟩
theorem ok_not{k:Nat}{v w:V}(h:isLst v=false):(!isLst v)=true:=by rw[h];rfl
theorem st_state{x:Nat}(h:isLst q.st=false):ex (TT z) d np (.setA 25 (.meth f x)) ⟨.self::l,enc bf s q⟩ (.ok .next ⟨.self::l,enc bf s (q.w (.meth f))⟩):=x_setA (σ':=⟨.self::l,enc bf s q⟩) (e_meth rfl) (show(!isLst q.st)=true by rw[h];rfl)
theorem pl23(h:q.sts=us):PlV ⟨.self::l,enc bf s q⟩ us (.attr (.loc 0) 23):=.attr rfl (congrArg (some∘V.list) h)
theorem pl24(h:q.marks=us):PlV ⟨.self::l,enc bf s q⟩ us (.attr (.loc 0) 24):=.attr rfl (congrArg (some∘V.list) h)
theorem st_popst{xs:List V}(hN:isLst q.st=false)(h:q.sts=xs++[.meth c]):ex (TT z) d np (.setA 25 (.pop (.attr (.loc 0) 23))) ⟨.self::l,enc bf s q⟩ (.ok .next ⟨.self::l,enc bf s {q with sts:=xs,st:=.meth c}⟩):=
 x_setA (e_pop (pl23 (s:=s) (bf:=bf) (l:=l) h)) (show(!isLst q.st)=true by rw[hN];rfl)
theorem st_push{x:Nat}(hl:q.sts.length<SZ):ex (TT z) d np (.expr (.app (.attr (.loc 0) 23) (.meth f x))) ⟨.self::l,enc bf s q⟩ (.ok .next ⟨.self::l,enc bf s {q with sts:=q.sts++[.meth f]}⟩):=x_expr (e_app (pl23 rfl) (e_meth rfl) (pl23 rfl) rfl hl)
theorem st_mpop{ms:List V}(h:q.marks=ms++[m]):ex (TT z) d np (.expr (.pop (.attr (.loc 0) 24))) ⟨.self::l,enc bf s q⟩ (.ok .next ⟨.self::l,enc bf s {q with marks:=ms}⟩):=x_expr (e_pop (pl24 h))
noncomputable def Bd(F:List Row)(sts:List Nat)(mks:Nat):Prop:=F.length+sts.length+mks<780
inductive Ask (z:Zk) (d:Nat) (bf:List Nat) (s:SS) (q:QS) (cs:List (List Nat)) (b:Bool) (F:List Row):Prop
 |mk {n' s'}:(∀{l es},pes (TT z) ⟨.self::l,enc bf s q⟩ es=some (cs.map .str)→tr (TT z) d (.tv (.mcal (.loc 0) 101 9 [.tup es] [])) ⟨.self::l,enc bf s q⟩ (.ok b ⟨.self::l,enc bf s' q⟩))→Sc bf n' s' F→Ask z d bf s q cs b F
theorem ask{b:Bool}{cs:List (List Nat)}(hz:bf.length≤SZ)(h:Sc bf n s (r::F))(hF:F.length<790)(hb:wordIn (idK r.k) cs=b)(hcs:(!cs.isEmpty&&((cs.map V.str).all V.nl&&(cs.map V.str).length.ble 100))=true:=by rfl):Ask z (d+9) bf s q cs b (r::F):=by
 subst hb;cases check_spec (z:=z) (q:=q) (d:=d) hz h hF cs (Bool.not_eq_true' _▸and_l hcs) with|mk g h2 _=>exact .mk (fun{l es}hb=>t_tv (x_mcal rfl (a_cons (e_tupP hb (and_r hcs)) rfl a_nil) rfl g rfl) rfl rfl) h2
noncomputable def idAlias:List Nat:=[60,97,108,105,97,115,62]
noncomputable def idDirective:List Nat:=[60,100,105,114,101,99,116,105,118,101,62]
noncomputable def idDocEnd:List Nat:=[60,100,111,99,117,109,101,110,116,32,101,110,100,62]
noncomputable def idFSeq:List Nat:=[91]
noncomputable def idFMap:List Nat:=[123]
section
variable{k:Kd}
theorem v_alias:wordIn (idK k) [idAlias]=false:=by cases k<;>rfl
theorem v_fseq:wordIn (idK k) [idFSeq]=false:=by cases k<;>rfl
theorem v_fmap:wordIn (idK k) [idFMap]=false:=by cases k<;>rfl
theorem v_dir:wordIn (idK k) [idDirective]=false:=by cases k<;>rfl
theorem v_dend:wordIn (idK k) [idDocEnd]=false:=by cases k<;>rfl
theorem v_amp:wordIn (idK k) [idK .amp]=kin k [10]:=by cases k<;>rfl
theorem v_bang:wordIn (idK k) [idK .bang]=kin k [11]:=by cases k<;>rfl
theorem v_dash:wordIn (idK k) [idK .dash]=kin k [2]:=by cases k<;>rfl
theorem v_scal:wordIn (idK k) [idK .s]=kin k [8,9]:=by cases k<;>rfl
theorem v_seq:wordIn (idK k) [idK .seq]=kin k [5]:=by cases k<;>rfl
theorem v_map:wordIn (idK k) [idK .map]=kin k [6]:=by cases k<;>rfl
theorem v_fin:wordIn (idK k) [idK .fin]=kin k [7]:=by cases k<;>rfl
theorem v_q:wordIn (idK k) [idK .q]=kin k [3]:=by cases k<;>rfl
theorem v_colon:wordIn (idK k) [idK .colon]=kin k [4]:=by cases k<;>rfl
theorem v_2:wordIn (idK k) [idK .dash,idK .fin]=kin k [2,7]:=by cases k<;>rfl
theorem v_3:wordIn (idK k) [idK .q,idK .colon,idK .fin]=kin k [3,4,7]:=by cases k<;>rfl
theorem v_4:wordIn (idK k) [idK .dash,idK .q,idK .colon,idK .fin]=kin k [2,3,4,7]:=by cases k<;>rfl
theorem v_dst:wordIn (idK k) [idK .dst]=kin k [1]:=by cases k<;>rfl
theorem v_stop:wordIn (idK k) [idK .stop]=kin k [12]:=by cases k<;>rfl
theorem v_d3:wordIn (idK k) [idDirective,idK .dst,idK .stop]=kin k [1,12]:=by cases k<;>rfl
theorem v_d4:wordIn (idK k) [idDirective,idK .dst,idDocEnd,idK .stop]=kin k [1,12]:=by cases k<;>rfl
end
inductive Pk (z:Zk) (d:Nat) (bf:List Nat) (s:SS) (q:QS) (r:Row) (F:List Row):Prop
 |mk {n' s' b} {u v:SS}:(∀{l},ev (TT z) d (.mcal (.loc 0) 104 10 [] []) ⟨.self::l,enc bf s q⟩ (.ok (tokV r.k r.c (mk b u) (mk b v)) ⟨.self::l,enc bf s' q⟩))→Sc bf n' s' (r::F)→u.line=r.ln→u.col=r.cl→Pk z d bf s q r F
theorem pk(hz:bf.length≤SZ)(h:Sc bf n s (r::F))(hF:F.length<790):Pk z (d+9) bf s q r F:=by
 cases peek_tok (z:=z) (q:=q) (d:=d) hz h hF with|mk g h2 ht=>
 cases ht with|mk h3 h4=>exact .mk (fun{l}=>m_cal rfl rfl g) h2 h3 h4
inductive Tak (z:Zk) (d:Nat) (bf:List Nat) (s:SS) (q:QS) (r:Row) (F:List Row):Prop
 |mk {n' s' b} {u v:SS}:(∀{l},ev (TT z) d (.mcal (.loc 0) 97 11 [] []) ⟨.self::l,enc bf s q⟩ (.ok (tokV r.k r.c (mk b u) (mk b v)) ⟨.self::l,enc bf s' q⟩))→Sc bf n' s' F→Tak z d bf s q r F
theorem tak(hz:bf.length≤SZ)(h:Sc bf n s (r::F))(hF:F.length<790):Tak z (d+9) bf s q r F:=by
 cases get_tok (z:=z) (q:=q) (d:=d) hz h hF with|mk g h2 ht=>
 cases ht with|mk h3 h4=>exact .mk (fun{l}=>m_cal rfl rfl g) h2
theorem tok_nl(k:Kd){c:Nat}:(tokV k c u v).nl=true:=by cases k<;>rfl
theorem tok_94(k:Kd){c:Nat}:attrV T P (tokV k c u v) 94=some u:=by cases k<;>rfl
theorem tok_99(k:Kd){c:Nat}:attrV T P (tokV k c u v) 99=some v:=by cases k<;>rfl
end Mine.Internal
end
section
open PySem PySem.W
namespace Mine.Internal
variable{z:Zk} {bf:List Nat} {s:SS} {q:QS} {d n np f i k mks c:Nat} {r r0 r1:Row} {F F2:List Row} {l outs:List V} {t u v m:V} {sts:List Nat} {a:Option Nat} {lo:Bool}
inductive PropsV:List Row→Option Nat→Option Nat→Row→List Row→Prop
 |no {r:Row} {F2:List Row}:kin r.k [10]=false→kin r.k [11]=false→PropsV (r::F2) none none r F2
 |a {r0 r:Row} {F2:List Row}:kin r0.k [10]=true→kin r.k [11]=false→PropsV (r0::r::F2) (some r0.c) none r F2
 |both {r0 r1 r:Row} {F2:List Row}:kin r0.k [10]=true→kin r1.k [11]=true→PropsV (r0::r1::r::F2) (some r0.c) (some r1.c) r F2
 |t {r0 r:Row} {F2:List Row}:kin r0.k [11]=true→kin r.k [10]=false→PropsV (r0::r::F2) none (some r0.c) r F2
 |ta {r0 r1 r:Row} {F2:List Row}:kin r0.k [11]=true→kin r1.k [10]=true→PropsV (r0::r1::r::F2) (some r1.c) (some r0.c) r F2
theorem props_both{x y:Nat}:∀{F:List Row},props (some x) (some y) F=(some x,some y,F)
 |[]=>rfl
 |r::F=>props_n (Bool.and_false _) (Bool.and_false _)
theorem pr_inj{α β γ:Type}{a a':α}{b b':β}{x y:γ}{C:Prop}(h:(a,b,x)=(a',b',y))(k:a=a'→b=b'→x=y→C):C:=by cases h;exact k rfl rfl rfl
theorem props_inv{a t:Option Nat}(h:props none none F=(a,t,r::F2)):PropsV F a t r F2:=by
 cases F with
 |nil=>exact nomatch h
 |cons r0 F=>
  cases h1:kin r0.k [10] with
  |true=>
   rw[props_y1 (by rw[h1];rfl)] at h;cases F with
   |nil=>exact nomatch h
   |cons r1 F=>
    cases h2:kin r1.k [11] with
    |true=>
     rw[props_y2 (Bool.and_false _) (by rw[h2];rfl),props_both] at h;exact pr_inj h fun e1 e2 e3=>by subst e1 e2 e3;exact .both h1 h2
    |false=>
     rw[props_n (Bool.and_false _) (by rw[h2];rfl)] at h;cases h;exact .a h1 h2
  |false=>
   cases h2:kin r0.k [11] with
   |false=>
    rw[props_n (by rw[h1];rfl) (by rw[h2];rfl)] at h;cases h;exact .no h1 h2
   |true=>
    rw[props_y2 (by rw[h1];rfl) (by rw[h2];rfl)] at h;cases F with
    |nil=>exact nomatch h
    |cons r1 F=>
     cases h3:kin r1.k [10] with
     |true=>
      rw[props_y1 (by rw[h3];rfl),props_both] at h;exact pr_inj h fun e1 e2 e3=>by subst e1 e2 e3;exact .ta h2 h3
     |false=>
      rw[props_n (by rw[h3];rfl) (Bool.and_false _)] at h;cases h;exact .t h2 h3
noncomputable def oG:Option Nat→V|none=>.none|some c=>.tup [.str [33],.str [c]]
noncomputable def nodeC:List S:=match f_Parser_parse_node.code with|[.ite _ _ l,_]=>l|_=>[]
noncomputable abbrev nl0(lo:Bool)(a t:V)(x3 m7 m8 m9:V):List V:=[.self,.bool true,.bool lo,x3,.absent,a,t,m7,m8,m9,.absent,.absent,.absent,.absent]
inductive OM:V→V→Prop
 |n:OM .none .none
 |y {b b2:List Nat} {u v:SS}:OM (mk b u) (mk b2 v)
inductive Hd (z:Zk) (d:Nat) (lo:Bool) (bf:List Nat) (s:SS) (q:QS) (a t:Option Nat) (F:List Row):Prop
 |mk {n':Nat} {s':SS} {x3 m7 m8 m9:V}:OM m7 m8→(∀{w},exs (TT z) d 3 (nodeC.drop 4) ⟨nl0 lo (oA a) (oG t) x3 m7 m8 m9,enc bf s' q⟩ w→exs (TT z) d 3 nodeC ⟨[.self,.bool true,.bool lo,.absent,.absent,.absent,.absent,.absent,.absent,.absent,.absent,.absent,.absent,.absent],enc bf s q⟩ w)→Sc bf n' s' F→Hd z d lo bf s q a t F
theorem tok_amp{k:Kd}{c:Nat}{P:Pt}(h:kin k [10]=true):attrV (TT z) P (tokV k c u v) 119=some (.str [c]):=by cases k<;>first|rfl|exact absurd h Bool.false_ne_true
theorem tok_bang{k:Kd}{c:Nat}{P:Pt}(h:kin k [11]=true):attrV (TT z) P (tokV k c u v) 119=some (.tup [.str [33],.str [c]]):=by cases k<;>first|rfl|exact absurd h Bool.false_ne_true
theorem e_at{σ:St}{y:Nat}{k:Kd}{c:Nat}{w:V}(hi:σ.loc[i]? =some (tokV k c u v))(h:attrV (TT z) σ.P (tokV k c u v) y=some w)(n:w.nl=true):ev (TT z) d (.attr (.loc i) y) σ (.ok w σ):=by
 refine e_p (pv_of ?_ n);show((σ.loc[i]?).bind fun v=>if isAb v=false then some v else none).bind _=_;rw[hi];show((if isAb (tokV k c u v)=false then some (tokV k c u v) else none).bind fun v=>attrV (TT z) σ.P v y)=_;rw[if_pos (by cases k<;>rfl)];exact h
theorem x_n3{a0 a1 a2 a3 a4 a5 a6 a7 a8 a9:V}{l:List V}{P:Pt}:ex (TT z) d 3 (.asg [7,8,9] .cN) ⟨a0::a1::a2::a3::a4::a5::a6::a7::a8::a9::l,P⟩ (.ok .next ⟨a0::a1::a2::a3::a4::a5::a6::.none::.none::.none::l,P⟩):=.mk (Xs.asg3 (v:=.none) (Ev.p rfl rfl) rfl rfl rfl rfl)
theorem x_two{i j:Nat}{σ σ':St}{e:E}{v:V}(h:ev (TT z) d e σ (.ok v σ'))(n:v.nl=true)(hi:np.ble i=true)(hj:np.ble j=true):ex (TT z) d np (.asg [i,j] e) σ (.ok .next ⟨(σ'.loc.set i v).set j v,σ'.P⟩):=.mk (Xs.asg2 @h.un n (okS_new hi n) (okS_new hj n))
theorem node_head{t:Option Nat}(hp:PropsV F a t r F2)(hz:bf.length≤SZ)(h:Sc bf n s F)(hF:F.length<780):Hd z (d+9) lo bf s q a t (r::F2):=by
 have lt {F:List Row} (h:F.length<780):F.length<790:=Nat.lt_trans h (by decide);cases hp with
 |no h1 h2=>
  cases ask (z:=z) (q:=q) (d:=d) hz h (lt (Nat.lt_of_succ_lt hF)) (v_amp.trans h1) with|mk g1 h=>
  cases ask (z:=z) (q:=q) (d:=d) hz h (lt (Nat.lt_of_succ_lt hF)) (v_bang.trans h2) with|mk g2 h=>
  exact .mk .n (fun{w}k=>x_cons (x_a5 (e_p rfl) rfl)<|x_cons (x_a6 (e_p rfl) rfl)<|x_cons x_n3<|x_cons (x_iF (g1 rfl)<|x_cons (x_iF (g2 rfl) x_nil) x_nil) k) h
 |@a r0 _ _ h1 h2=>
  have hF:=Nat.lt_of_succ_lt hF;cases ask (z:=z) (q:=q) (d:=d) hz h (lt hF) (v_amp.trans h1) with|mk g1 h=>
  cases tak (z:=z) (q:=q) (d:=d) hz h (lt hF) with|@mk _ _ b u v g2 h=>
  cases ask (z:=z) (q:=q) (d:=d) hz h (lt (Nat.lt_of_succ_lt hF)) (v_bang.trans h2) with|mk g3 h=>
  exact .mk (m7:=mk b u) (m8:=mk b v) .y (fun{w}k=>x_cons (x_a5 (e_p rfl) rfl)<|x_cons (x_a6 (e_p rfl) rfl)<|x_cons x_n3<|x_cons (x_iT (g1 rfl)<|x_cons (x_a3 g2 (okS_new rfl (tok_nl _)))<|x_cons (x_a7 (e_at rfl (tok_94 _) rfl) rfl)<|x_cons (x_a8 (e_at rfl (tok_99 _) rfl) rfl)<|x_cons (x_a5 (e_at rfl (tok_amp h1) rfl) rfl)<|
   x_cons (x_iF (g3 rfl) x_nil) x_nil) k) h
 |@both r0 r1 _ _ h1 h2=>
  have hF:=Nat.lt_of_succ_lt hF;have hF2:=Nat.lt_of_succ_lt hF;cases ask (z:=z) (q:=q) (d:=d) hz h (lt hF) (v_amp.trans h1) with|mk g1 h=>
  cases tak (z:=z) (q:=q) (d:=d) hz h (lt hF) with|@mk _ _ b u v g2 h=>
  cases ask (z:=z) (q:=q) (d:=d) hz h (lt hF2) (v_bang.trans h2) with|mk g3 h=>
  cases tak (z:=z) (q:=q) (d:=d) hz h (lt hF2) with|@mk _ _ b2 u2 v2 g4 h=>
  exact .mk (m7:=mk b u) (m8:=mk b2 v2) .y (fun{w}k=>x_cons (x_a5 (e_p rfl) rfl)<|x_cons (x_a6 (e_p rfl) rfl)<|x_cons x_n3<|x_cons (x_iT (g1 rfl)<|x_cons (x_a3 g2 (okS_new rfl (tok_nl _)))<|x_cons (x_a7 (e_at rfl (tok_94 _) rfl) rfl)<|x_cons (x_a8 (e_at rfl (tok_99 _) rfl) rfl)<|x_cons (x_a5 (e_at rfl (tok_amp h1) rfl) rfl)<|
   x_cons (x_iT (g3 rfl)<|x_cons (x_a3 g4 (okS_new rfl (tok_nl _)))<|x_cons (x_a9 (e_at rfl (tok_94 _) rfl) rfl)<|x_cons (x_a8 (e_at rfl (tok_99 _) rfl) rfl)<|x_cons (x_a6 (e_at rfl (tok_bang h2) rfl) rfl) x_nil) x_nil) k) h
 |@t r0 _ _ h1 h2=>
  have hF:=Nat.lt_of_succ_lt hF;cases ask (z:=z) (q:=q) (d:=d) hz h (lt hF) (v_amp.trans (kin_ne h1 rfl)) with|mk g0 h=>
  cases ask (z:=z) (q:=q) (d:=d) hz h (lt hF) (v_bang.trans h1) with|mk g1 h=>
  cases tak (z:=z) (q:=q) (d:=d) hz h (lt hF) with|@mk _ _ b u v g2 h=>
  cases ask (z:=z) (q:=q) (d:=d) hz h (lt (Nat.lt_of_succ_lt hF)) (v_amp.trans h2) with|mk g3 h=>
  exact .mk (m7:=mk b u) (m8:=mk b v) .y (fun{w}k=>x_cons (x_a5 (e_p rfl) rfl)<|x_cons (x_a6 (e_p rfl) rfl)<|x_cons x_n3<|x_cons (x_iF (g0 rfl)<|x_cons (x_iT (g1 rfl)<|x_cons (x_a3 g2 (okS_new rfl (tok_nl _)))<|x_cons (x_two (e_at rfl (tok_94 _) rfl) rfl rfl rfl)<|x_cons (x_a8 (e_at rfl (tok_99 _) rfl) rfl)<|x_cons (x_a6 (e_at rfl (tok_bang h1) rfl) rfl)<|
   x_cons (x_iF (g3 rfl) x_nil) x_nil) x_nil) k) h
 |@ta r0 r1 _ _ h1 h2=>
  have hF:=Nat.lt_of_succ_lt hF;have hF2:=Nat.lt_of_succ_lt hF;cases ask (z:=z) (q:=q) (d:=d) hz h (lt hF) (v_amp.trans (kin_ne h1 rfl)) with|mk g0 h=>
  cases ask (z:=z) (q:=q) (d:=d) hz h (lt hF) (v_bang.trans h1) with|mk g1 h=>
  cases tak (z:=z) (q:=q) (d:=d) hz h (lt hF) with|@mk _ _ b u v g2 h=>
  cases ask (z:=z) (q:=q) (d:=d) hz h (lt hF2) (v_amp.trans h2) with|mk g3 h=>
  cases tak (z:=z) (q:=q) (d:=d) hz h (lt hF2) with|@mk _ _ b2 u2 v2 g4 h=>
  exact .mk (m7:=mk b u) (m8:=mk b2 v2) .y (fun{w}k=>x_cons (x_a5 (e_p rfl) rfl)<|x_cons (x_a6 (e_p rfl) rfl)<|x_cons x_n3<|x_cons (x_iF (g0 rfl)<|x_cons (x_iT (g1 rfl)<|x_cons (x_a3 g2 (okS_new rfl (tok_nl _)))<|x_cons (x_two (e_at rfl (tok_94 _) rfl) rfl rfl rfl)<|x_cons (x_a8 (e_at rfl (tok_99 _) rfl) rfl)<|x_cons (x_a6 (e_at rfl (tok_bang h1) rfl) rfl)<|
   x_cons (x_iT (g3 rfl)<|x_cons (x_a3 g4 (okS_new rfl (tok_nl _)))<|x_cons (x_a8 (e_at rfl (tok_99 _) rfl) rfl)<|x_cons (x_a5 (e_at rfl (tok_amp h2) rfl) rfl) x_nil) x_nil) x_nil) k) h
end Mine.Internal
end
section
open PySem PySem.W PySem.Calls PyProof.Rows
namespace Mine.Internal
noncomputable section
theorem Ev.pct{T:Tb}{d:Nat}{e:E}{σ σ':St}{s x:List Nat}(h:Ev T d e σ (.ok (.str x) σ'))(h1:T.pc s x=true):Ev T d (.pct s e) σ (.ok .any σ'):=@fun c A g y s0 m bk fr hf S Q Er q=>xBin_k hf fun l o r p f=>by
 have e1:=beq_iff_eq.mp (and_l (and_l f));subst e1;refine xConst_k (C:=fun l=>Wp T A (eval (.BinOp l .Mod r p) c.env) Q Er s0) (and_r (and_l f)) fun k y0_ y1_ hk=>beq_iff_eq.mp hk▸wpAny_BinOp (wpAny_Constant_str (h g (and_r f) (s:=tk s0 (s0.toks+1)) S @fun s1 b1 v1 f1 S1 l1 r1=>?_));obtain⟨⟨u,rfl,hz⟩,rfl⟩:=(RX.ofN (u:=.str x) rfl).mp r1;obtain⟨X,hX⟩:=g.K.pct _ _ h1 s0.toks u;exact binaryOp_meets (T:="str") (op:=.Mod) (typeIs_str _ _ _) (typeIs_str _ _ u) F.fills_str_mod F.slot_str_mod F.entry_str_mod (F.args_str_mod_2 _ _) hX (fun t' k=>⟨(fun e=>nomatch e),q.ok (s:=tk s1 k) S1 l1 rfl⟩)
end
end Mine.Internal
end
section
open PySem PySem.W
namespace Mine.Internal
variable{z:Zk} {bf:List Nat} {s:SS} {q:QS} {d n np f i k mks c:Nat} {r r0 r1:Row} {F F2:List Row} {l outs E:List V} {m:V} {sts:List Nat} {a t:Option Nat} {lo:Bool} {x3 m7 m8 m9 x10 x11:V} {b7 b8:List Nat} {u7 u8:SS}
theorem e_pct{T:Tb}{e:Mine.Internal.E}{σ σ':St}{s x:List Nat}(h:ev T d e σ (.ok (.str x) σ'))(h1:T.pc s x=true):ev T d (.pct s e) σ (.ok .any σ'):=.mk (Ev.pct @h.un h1)
noncomputable abbrev rdT:Mine.Internal.E:=.cmp .isnot (.mcal (.loc 1) 163 47 [] []) .cN
noncomputable abbrev rdB:List S:=[.expr (.app (.loc 2) (.fcal 164 74 [(.mcal (.loc 1) 165 48 [] [])] []))]
inductive ROut (z:Zk) (d:Nat) (tx:V) (σ:St) (R:List V):Prop
 |ok {P:Pt}:wl (TT z) d 1 rdT rdB σ (.ok .next ⟨[tx,.self,.list R,.absent],P⟩)→ROut z d tx σ R
 |exc {x:Ex} {r:Row} {G:List V}:wl (TT z) d 1 rdT rdB σ (.exc x [tx,.self,.list G,.absent])→IsErr r x→R=G++[tRef r]→ROut z d tx σ R
structure Tell (z:Zk) (bf:List Nat) (f:Nat) (sts:List Nat) (mks:Nat) (F:List Row) (E:List V):Prop where
 mk::
 go:∀{n s q G d tx},Sc bf n s F→PQ q sts mks→q.st= .meth f→Bd F sts mks→G.length+E.length<SZ→ROut z (d+16) tx ⟨[tx,.self,.list G,.absent],enc bf s q⟩ (G++E)
inductive Good (z:Zk) (bf:List Nat):CR→List V→Prop
 |ok {n:Nat} {s:SS} {q:QS} {ev e:V} {f:Nat} {sts:List Nat} {mks:Nat} {F:List Row} {E outs:List V}:Sc bf n s F→PQ q sts mks→q.st= .meth f→Bd F sts mks→Told z ev e→Tell z bf f sts mks F E→Good z bf (.ret ev (enc bf s q) outs) (e::E)
 |exc {x:Ex} {r:Row}:IsErr r x→Good z bf (.exc x) [tRef r]
inductive Outc (z:Zk) (bf:List Nat) (d f:Nat) (xs:List V) (s:SS) (q:QS) (E:List V):Prop
 |mk {r:CR}:run (TT z) d f xs (enc bf s q) r→Good z bf r E→Outc z bf d f xs s q E
structure Stt (z:Zk) (bf:List Nat) (k f:Nat) (xs:List V) (sts:List Nat) (mks:Nat) (F:List Row) (E:List V):Prop where
 mk::
 go:∀{n s q d},Sc bf n s F→PQ q sts mks→Bd F sts mks→Outc z bf (d+k) f xs s q E
noncomputable def xt1:Option Nat→V|none=>.absent|some _=>.str [33]
noncomputable def xt2:Option Nat→V|none=>.absent|some c=>.str [c]
noncomputable abbrev nd1(lo:Bool)(a t:Option Nat)(x3 m7 m8 m9:V):List V:=[.self,.bool true,.bool lo,x3,.none,oA a,oT t,m7,m8,m9,xt1 t,xt2 t,.bool t.isNone,.absent]
inductive Md2 (z:Zk) (d:Nat) (lo:Bool) (bf:List Nat) (s:SS) (q:QS) (a t:Option Nat) (F:List Row) (l:List V):Prop
 |mk {n':Nat} {s':SS} {x3 m9:V} {b7 b8:List Nat} {u7 u8:SS}:(∀{w},exs (TT z) d 3 (nodeC.drop 8) ⟨nd1 lo a t x3 (mk b7 u7) (mk b8 u8) m9,enc bf s' q⟩ w→exs (TT z) d 3 (nodeC.drop 4) ⟨l,enc bf s q⟩ w)→Sc bf n' s' F→Md2 z d lo bf s q a t F l
theorem node_tag(hQ:PQ q sts mks){w:R Fl}(k:exs (TT z) d 3 (nodeC.drop 5) ⟨[.self,.bool true,.bool lo,x3,.absent,oA a,oT t,m7,m8,m9,xt1 t,xt2 t,.absent,.absent],enc bf s q⟩ w):exs (TT z) d 3 (nodeC.drop 4) ⟨nl0 lo (oA a) (oG t) x3 m7 m8 m9,enc bf s q⟩ w:=by
 cases t with
 |none=>exact x_cons (x_iF (t_p rfl) x_nil) k
 |some c=>exact x_cons (x_iT (t_p rfl)<|x_cons (x_unp (e_p rfl) rfl)<|x_cons (x_iT (t_p rfl)<|x_cons (x_iF (t_p (congrArg (Option.map (!·)) hQ.tg1)) x_nil)<|x_cons (x_a6 (e_bin (e_p (congrArg (fun o=>o.bind fun u=>onB u.nl (some u)) hQ.tg2)) (e_p rfl) rfl rfl) rfl) x_nil) x_nil) k
theorem node_imp{P:Pt}{w:R Fl}(k:exs (TT z) d 3 (nodeC.drop 8) ⟨nd1 lo a t x3 m7 m8 m9,P⟩ w):exs (TT z) d 3 (nodeC.drop 6) ⟨[.self,.bool true,.bool lo,x3,.absent,oA a,oT t,m7,m8,m9,xt1 t,xt2 t,.absent,.absent],P⟩ w:=by
 cases t with
 |none=>exact x_cons (x_a4 (e_p rfl) rfl)<|x_cons (x_a12 (e_orT (e_p rfl) rfl rfl) rfl) k
 |some c=>exact x_cons (x_a4 (e_p rfl) rfl)<|x_cons (x_a12 (e_orF (e_p rfl) rfl rfl (e_orL (e_p rfl))) rfl) k
theorem node_mid(o:OM m7 m8)(hz:bf.length≤SZ)(h:Sc bf n s (r::F2))(hF:F2.length<790)(hQ:PQ q sts mks):Md2 z (d+9) lo bf s q a t (r::F2) (nl0 lo (oA a) (oG t) x3 m7 m8 m9):=by
 cases o with
 |y=>exact .mk (fun{w}k=>node_tag hQ (x_cons (x_iF (t_p rfl) x_nil) (node_imp k))) h
 |n=>
  cases pk (z:=z) (q:=q) (d:=d) hz h hF with|@mk _ _ b u v g h _ _=>
  exact .mk (fun{w}k=>node_tag hQ (x_cons (x_iT (t_p rfl)<|x_cons (x_two (e_attr g (tok_94 _) rfl) rfl rfl rfl) x_nil) (node_imp k))) h
inductive NdG (z:Zk) (bf:List Nat) (lo:Bool):R Fl→List V→Prop
 |ok {n:Nat} {s:SS} {q:QS} {ev e:V} {f:Nat} {sts:List Nat} {mks:Nat} {F:List Row} {E:List V} {x3:V} {l:List V}:Sc bf n s F→PQ q sts mks→q.st= .meth f→Bd F sts mks→Told z ev e→Tell z bf f sts mks F E→NdG z bf lo (.ok .next ⟨.self::.bool true::.bool lo::x3::ev::l,enc bf s q⟩) (e::E)
 |exc {x:Ex} {r:Row} {l:List V}:IsErr r x→NdG z bf lo (.exc x l) [tRef r]
inductive NdO (z:Zk) (bf:List Nat) (d:Nat) (lo:Bool) (σ:St) (E:List V):Prop
 |mk {w:R Fl}:exs (TT z) d 3 (nodeC.drop 8) σ w→NdG z bf lo w E→NdO z bf d lo σ E
noncomputable abbrev ndσ(bf:List Nat)(s:SS)(q:QS)(lo:Bool)(a t:Option Nat)(x3 m9:V)(b7:List Nat)(u7:SS)(b8:List Nat)(u8:SS):St:=⟨nd1 lo a t x3 (mk b7 u7) (mk b8 u8) m9,enc bf s q⟩
theorem Bd.lt(h:Bd (r::F) sts mks):F.length<790:=by unfold Bd at h;rw[List.length_cons] at h;omega
theorem Bd.tl(h:Bd (r::F) sts mks):Bd F sts mks:=by unfold Bd at*;rw[List.length_cons] at h;omega
theorem Bd.pop(h:Bd F (c::sts) mks):Bd F sts mks:=by unfold Bd at*;rw[List.length_cons] at h;omega
noncomputable abbrev NewE(z:Zk)(g:Nat)(σ:St)(es:List Mine.Internal.E)(kw:List (Nat×Mine.Internal.E))(u:V):Prop:=((globV ((TT z).gv g)).bind fun C=>(pes (TT z) σ es).bind fun vs=>newF (TT z) C vs σ kw)=some u
theorem nd_dash(hz:bf.length≤SZ)(h:Sc bf n s (r::F2))(hB:Bd (r::F2) sts mks)(hQ:PQ q sts mks)(hk:kin r.k [2]=true)(hT:Tell z bf 60 sts mks (r::F2) E):NdO z bf (d+9) true (ndσ bf s q true a t x3 m9 b7 u7 b8 u8) (tRow (oA a) (oT t) t.isNone .none::E):=by
 cases ask (z:=z) (q:=q) (d:=d) hz h hB.lt (v_dash.trans hk) with|mk g1 h=>
 cases pk (z:=z) (q:=q) (d:=d) hz h hB.lt with|@mk _ s2 b u v g2 h _ _=>
 have hv:NewE z 125 (ndσ bf s2 q true a t x3 m9 b7 u7 b v) [.loc 5,.loc 6,.loc 12,.loc 7,.loc 8] [] (evSeq (oA a) (oT t) (.bool t.isNone) (mk b7 u7) (mk b v) .none):=by cases a<;>cases t<;>rfl
 exact .mk (x_cons (x_iT (t_andT (t_p rfl)<|t_andT (g1 rfl) t_and0)<|x_cons (x_a8 (e_attr g2 (tok_99 _) rfl) rfl)<|x_cons (x_a4 (e_new z.recs hv) rfl)<|x_cons (st_state hQ.st) x_nil) x_nil) (.ok h hQ.to rfl hB (told_seq (oA_nl a) (oT_nl t) rfl) hT)
inductive Fst (z:Zk) (d:Nat) (lo:Bool) (bf:List Nat) (s:SS) (q:QS) (F:List Row):Prop
 |mk {n':Nat} {s':SS}:(∀{a t x3 m9 b7 u7 b8 u8},tr (TT z) d (.and [(.tv (.loc 2)),(.tv (.mcal (.loc 0) 101 9 [(.tup [(.attr (.glb 72) 37)])] []))]) (ndσ bf s q lo a t x3 m9 b7 u7 b8 u8) (.ok false (ndσ bf s' q lo a t x3 m9 b7 u7 b8 u8)))→Sc bf n' s' F→Fst z d lo bf s q F
theorem fst(hz:bf.length≤SZ)(h:Sc bf n s (r::F2))(hF:F2.length<790)(hk:(lo&&kin r.k [2])=false):Fst z (d+9) lo bf s q (r::F2):=by
 cases lo with
 |false=>exact .mk (t_andF (t_p rfl)) h
 |true=>cases ask (z:=z) (q:=q) (d:=d) hz h hF (v_dash.trans hk) with|mk g1 h=>exact .mk (t_andT (t_p rfl) (t_andF (g1 rfl))) h
theorem kd_scal{k:Kd}{C:Kd→Prop}(h:kin k [8,9]=true)(h1:C .s)(h2:C .b):C k:=by cases k<;>first|exact h1|exact h2|exact absurd h Bool.false_ne_true
noncomputable abbrev impS(t:Option Nat)(k:Kd):V:=.tup [.bool (t.isNone&&kin k [9]),.bool (t.isNone&&kin k [8])]
noncomputable def styS(k:Kd):V:=if kin k [8]=true then .str [39] else .none
theorem scal_imp{k:Kd}{c0:Nat}{b:List Nat}{u v:SS}{P:Pt}(hk:kin k [8,9]=true):ex (TT z) d 3 (.ite (.or [(.and [(.tv (.attr (.loc 3) 127)),(.cmp .is (.loc 6) .cN)]),(.cmp .eq (.loc 6) (.cS [33]))]) [(.asg [12] (.tup [(.cB true),(.cB false)]))] [(.ite (.cmp .is (.loc 6) .cN) [(.asg [12] (.tup [(.cB false),(.cB true)]))] [(.asg [12] (.tup [(.cB false),(.cB false)]))])])
  ⟨nd1 lo a t (tokV k c0 (mk b u) (mk b v)) m7 m8 m9,P⟩ (.ok .next ⟨[.self,.bool true,.bool lo,tokV k c0 (mk b u) (mk b v),.none,oA a,oT t,m7,m8,m9,xt1 t,xt2 t,impS t k,.absent],P⟩):=by
 refine kd_scal (C:=fun k=>ex (TT z) d 3 _ ⟨nd1 lo a t (tokV k c0 (mk b u) (mk b v)) m7 m8 m9,P⟩ (.ok .next ⟨[.self,.bool true,.bool lo,tokV k c0 (mk b u) (mk b v),.none,oA a,oT t,m7,m8,m9,xt1 t,xt2 t,impS t k,.absent],P⟩)) hk ?_ ?_
 ·cases t with
  |none=>exact x_iF (t_p rfl)<|x_cons (x_iT (t_p rfl)<|x_cons (x_a12 (e_tupP rfl rfl) rfl) x_nil) x_nil
  |some=>exact x_iF (t_p rfl)<|x_cons (x_iF (t_p rfl)<|x_cons (x_a12 (e_tupP rfl rfl) rfl) x_nil) x_nil
 ·cases t with
  |none=>exact x_iT (t_p rfl)<|x_cons (x_a12 (e_tupP rfl rfl) rfl) x_nil
  |some=>exact x_iF (t_p rfl)<|x_cons (x_iF (t_p rfl)<|x_cons (x_a12 (e_tupP rfl rfl) rfl) x_nil) x_nil
theorem nd_scal(hz:bf.length≤SZ)(h:Sc bf n s (r::F2))(hB:Bd (r::F2) (c::sts) mks)(hQ:PQ q (c::sts) mks)(hk:kin r.k [8,9]=true)(hT:Tell z bf c sts mks F2 E):NdO z bf (d+9) lo (ndσ bf s q lo a t x3 m9 b7 u7 b8 u8) (tScal a t r.k r.c::E):=by
 cases fst (z:=z) (q:=q) (d:=d) (lo:=lo) hz h hB.lt (by rw[kin_ne hk rfl];exact Bool.and_false _) with|mk g0 h=>
 cases ask (z:=z) (q:=q) (d:=d) hz h hB.lt (v_scal.trans hk) with|mk g1 h=>
 cases tak (z:=z) (q:=q) (d:=d) hz h hB.lt with|@mk _ s2 b u v g2 h=>
 have hv:NewE z 128 ⟨[.self,.bool true,.bool lo,tokV r.k r.c (mk b u) (mk b v),.none,oA a,oT t,mk b7 u7,mk b v,m9,xt1 t,xt2 t,impS t r.k,.absent],enc bf s2 q⟩ [.loc 5,.loc 6,.loc 12,.attr (.loc 3) 119,.loc 7,.loc 8] [(82,.attr (.loc 3) 82)] (evScal (oA a) (oT t) (impS t r.k) (.str [r.c]) (mk b7 u7) (mk b v) (styS r.k)):=
  kd_scal (C:=fun k=>NewE z 128 ⟨[.self,.bool true,.bool lo,tokV k r.c (mk b u) (mk b v),.none,oA a,oT t,mk b7 u7,mk b v,m9,xt1 t,xt2 t,impS t k,.absent],enc bf s2 q⟩ [.loc 5,.loc 6,.loc 12,.attr (.loc 3) 119,.loc 7,.loc 8] [(82,.attr (.loc 3) 82)] (evScal (oA a) (oT t) (impS t k) (.str [r.c]) (mk b7 u7) (mk b v) (styS k))) hk (by cases a<;>cases t<;>rfl) (by cases a<;>cases t<;>rfl)
 have e:=hQ.pop;exact .mk (x_cons (x_iF g0<|x_cons (x_iT (g1 rfl)<|x_cons (x_a3 g2 (okS_new rfl (tok_nl _)))<|x_cons (x_a8 (e_at rfl (tok_99 _) rfl) rfl)<|x_cons (scal_imp hk)<|x_cons (x_a4 (e_new z.recs hv) rfl)<|x_cons (st_popst hQ.st e.1) x_nil) x_nil) x_nil)
  (.ok h e.2 rfl hB.tl.pop (told_scal (oA_nl a) (oT_nl t) rfl rfl (kd_scal (C:=fun k=>(styS k).nl=true) hk rfl rfl)) hT)
theorem Bd.mk1(h:Bd (r::F) sts mks):Bd F sts (mks+1):=by unfold Bd at*;rw[List.length_cons] at h;omega
inductive Big (z:Zk) (d:Nat) (lo:Bool) (bf:List Nat) (s:SS) (q:QS) (F:List Row):Prop
 |mk {n':Nat} {s':SS}:(∀{a t x3 m9 b7 u7 b8 u8 w},ex (TT z) d 3 (.ite (.and [(.tv (.loc 1)),(.tv (.mcal (.loc 0) 101 9 [(.tup [(.attr (.glb 71) 37)])] []))]) [(.asg [8] (.attr (.mcal (.loc 0) 104 10 [] []) 94)),(.asg [4] (.new 125 [(.loc 5),(.loc 6),(.loc 12),(.loc 7),(.loc 8)] [(130,(.cB false))])),(.setA 25 (.meth 58 133))] [(.ite (.and [(.tv (.loc 1)),(.tv (.mcal (.loc 0) 101 9 [(.tup [(.attr (.glb 73) 37)])] []))]) [(.asg [8] (.attr (.mcal (.loc 0) 104 10 [] []) 94)),(.asg [4] (.new 132 [(.loc 5),(.loc 6),(.loc 12),(.loc 7),(.loc 8)] [(130,(.cB false))])),(.setA 25 (.meth 61 134))] [(.ite (.or [(.cmp .isnot (.loc 5) .cN),(.cmp .isnot (.loc 6) .cN)]) [(.asg [4] (.new 128 [(.loc 5),(.loc 6),(.tup [(.loc 12),(.cB false)]),(.cS []),(.loc 7),(.loc 8)] [])),(.setA 25 (.pop (.attr (.loc 0) 23)))] [(.ite (.tv (.loc 1)) [(.asg [13] (.cS [98,108,111,99,107]))] [(.asg [13] (.cS [102,108,111,119]))]),(.asg [3] (.mcal (.loc 0) 104 10 [] [])),(.raise 112 [(.pct [119,104,105,108,101,32,112,97,114,115,105,110,103,32,97,32,37,115,32,110,111,100,101] (.loc 13)),(.loc 7),(.pct [101,120,112,101,99,116,101,100,32,116,104,101,32,110,111,100,101,32,99,111,110,116,101,110,116,44,32,98,117,116,32,102,111,117,110,100,32,37,114] (.attr (.loc 3) 37)),(.attr (.loc 3) 94)])])])])
   (ndσ bf s' q lo a t x3 m9 b7 u7 b8 u8) w→(w.stop=true∨∃σ',w= .ok .next σ')→exs (TT z) d 3 (nodeC.drop 8) (ndσ bf s q lo a t x3 m9 b7 u7 b8 u8) w)→Sc bf n' s' F→Big z d lo bf s q F
theorem x_last{T:Tb}{st:S}{σ:St}{w:R Fl}(h:ex T d np st σ w)(k:w.stop=true∨∃σ',w= .ok .next σ'):exs T d np [st] σ w:=by
 rcases k with k|⟨σ',rfl⟩
 ·exact x_end h k
 ·exact x_cons h x_nil
theorem big(hz:bf.length≤SZ)(h:Sc bf n s (r::F2))(hF:F2.length<790)(hk:(lo&&kin r.k [2])=false)(hk2:kin r.k [8,9]=false):Big z (d+9) lo bf s q (r::F2):=by
 cases fst (z:=z) (q:=q) (d:=d) (lo:=lo) hz h hF hk with|mk g0 h=>
 cases ask (z:=z) (q:=q) (d:=d) hz h hF (v_scal.trans hk2) with|mk g1 h=>
 cases ask (z:=z) (q:=q) (d:=d) hz h hF v_fseq with|mk g2 h=>
 cases ask (z:=z) (q:=q) (d:=d) hz h hF v_fmap with|mk g3 h=>
 exact .mk (fun{a t x3 m9 b7 u7 b8 u8 w}k o=>x_last (x_iF g0<|x_last (x_iF (g1 rfl)<|x_last (x_iF (g2 rfl)<|x_last (x_iF (g3 rfl)<|x_last k o) o) o) o) o) h
theorem nd_seq(hz:bf.length≤SZ)(h:Sc bf n s (r::F2))(hB:Bd (r::F2) sts mks)(hQ:PQ q sts mks)(hk:kin r.k [5]=true)(hT:Tell z bf 58 sts mks (r::F2) E):NdO z bf (d+9) lo (ndσ bf s q lo a t x3 m9 b7 u7 b8 u8) (tRow (oA a) (oT t) t.isNone (.bool false)::E):=by
 cases big (z:=z) (q:=q) (d:=d) (lo:=lo) hz h hB.lt (by rw[kin_ne hk rfl];exact Bool.and_false _) (kin_ne hk rfl) with|mk g0 h=>
 cases ask (z:=z) (q:=q) (d:=d) hz h hB.lt (v_seq.trans hk) with|mk g1 h=>
 cases pk (z:=z) (q:=q) (d:=d) hz h hB.lt with|@mk _ s2 b u v g2 h _ _=>
 have hv:NewE z 125 (ndσ bf s2 q lo a t x3 m9 b7 u7 b u) [.loc 5,.loc 6,.loc 12,.loc 7,.loc 8] [(130,(.cB false))] (evSeq (oA a) (oT t) (.bool t.isNone) (mk b7 u7) (mk b u) (.bool false)):=by cases a<;>cases t<;>rfl
 exact .mk (g0 (x_iT (t_andT (t_p rfl)<|t_andT (g1 rfl) t_and0)<|x_cons (x_a8 (e_attr g2 (tok_94 _) rfl) rfl)<|x_cons (x_a4 (e_new z.recs hv) rfl)<|x_cons (st_state hQ.st) x_nil) (.inr ⟨_,rfl⟩)) (.ok h hQ.to rfl hB (told_seq (oA_nl a) (oT_nl t) rfl) hT)
theorem nd_map(hz:bf.length≤SZ)(h:Sc bf n s (r::F2))(hB:Bd (r::F2) sts mks)(hQ:PQ q sts mks)(hk:kin r.k [6]=true)(hT:Tell z bf 61 sts mks (r::F2) E):NdO z bf (d+9) lo (ndσ bf s q lo a t x3 m9 b7 u7 b8 u8) (tMap (oA a) (oT t) t.isNone (.bool false)::E):=by
 cases big (z:=z) (q:=q) (d:=d) (lo:=lo) hz h hB.lt (by rw[kin_ne hk rfl];exact Bool.and_false _) (kin_ne hk rfl) with|mk g0 h=>
 cases ask (z:=z) (q:=q) (d:=d) hz h hB.lt (v_seq.trans (kin_ne hk rfl)) with|mk g1 h=>
 cases ask (z:=z) (q:=q) (d:=d) hz h hB.lt (v_map.trans hk) with|mk g2 h=>
 cases pk (z:=z) (q:=q) (d:=d) hz h hB.lt with|@mk _ s2 b u v g3 h _ _=>
 have hv:NewE z 132 (ndσ bf s2 q lo a t x3 m9 b7 u7 b u) [.loc 5,.loc 6,.loc 12,.loc 7,.loc 8] [(130,(.cB false))] (evMap (oA a) (oT t) (.bool t.isNone) (mk b7 u7) (mk b u) (.bool false)):=by cases a<;>cases t<;>rfl
 exact .mk (g0 (x_iF (t_andT (t_p rfl)<|t_andF (g1 rfl))<|x_cons (x_iT (t_andT (t_p rfl)<|t_andT (g2 rfl) t_and0)<|x_cons (x_a8 (e_attr g3 (tok_94 _) rfl) rfl)<|x_cons (x_a4 (e_new z.recs hv) rfl)<|x_cons (st_state hQ.st) x_nil) x_nil) (.inr ⟨_,rfl⟩)) (.ok h hQ.to rfl hB (told_map (oA_nl a) (oT_nl t) rfl) hT)
theorem nodeK_dash(h:kin r.k (nodeK lo)=false):(lo&&kin r.k [2])=false∧kin r.k [8,9,5,6]=false:=by
 cases lo with
 |false=>exact⟨rfl,h⟩
 |true=>exact⟨kin_sub h rfl,kin_sub h rfl⟩
theorem nd_bare(hz:bf.length≤SZ)(h:Sc bf n s (r::F2))(hB:Bd (r::F2) (c::sts) mks)(hQ:PQ q (c::sts) mks)(hk:kin r.k (nodeK lo)=false)(hat:(a.isNone&&t.isNone)=false)(hT:Tell z bf c sts mks (r::F2) E):NdO z bf (d+9) lo (ndσ bf s q lo a t x3 m9 b7 u7 b8 u8) (tEmptyP a t::E):=by
 have k:=nodeK_dash hk;cases big (z:=z) (q:=q) (d:=d) (lo:=lo) hz h hB.lt k.1 (kin_sub k.2 rfl) with|mk g0 h=>
 cases ask (z:=z) (q:=q) (d:=d) hz h hB.lt (v_seq.trans (kin_sub k.2 rfl)) with|mk g1 h=>
 cases ask (z:=z) (q:=q) (d:=d) hz h hB.lt (v_map.trans (kin_sub k.2 rfl)) with|@mk _ s2 g2 h=>
 have ht:pt (TT z) (ndσ bf s2 q lo a t x3 m9 b7 u7 b8 u8) (.or [(.cmp .isnot (.loc 5) .cN),(.cmp .isnot (.loc 6) .cN)])=some true:=by cases a<;>cases t<;>first|rfl|exact absurd hat (by decide)
 have hv:((globV ((TT z).gv 128)).bind fun C=>newF (TT z) C ([(oA a,none),(oT t,none),(.tup [.bool t.isNone,.bool false],none),(.str [],none),(mk b7 u7,none),(mk b8 u8,none)].map (fun(x:V×Option Nat)=>x.1)) (ndσ bf s2 q lo a t x3 m9 b7 u7 b8 u8) [])=some (evScal (oA a) (oT t) (.tup [.bool t.isNone,.bool false]) (.str []) (mk b7 u7) (mk b8 u8) .none):=by cases a<;>cases t<;>rfl
 have p {i:Nat} {u:V} (h:(ndσ bf s2 q lo a t x3 m9 b7 u7 b8 u8).loc[i]? =some u) (n:u.nl=true) (m:isAb u=false):ev (TT z) (d+9) (.loc i) (ndσ bf s2 q lo a t x3 m9 b7 u7 b8 u8) (.ok u (ndσ bf s2 q lo a t x3 m9 b7 u7 b8 u8)):=e_p (pv_of ((congrArg (fun o:Option V=>o.bind fun v=>if isAb v=false then some v else none) h).trans (if_pos m)) n);have e:=hQ.pop;exact .mk (g0 (x_iF (t_andT (t_p rfl)<|t_andF (g1 rfl))<|x_cons (x_iF (t_andT (t_p rfl)<|t_andF (g2 rfl))<|x_cons (x_iT (t_p ht)<|x_cons (x_a4 (x_new z.recs (a_cons (p (i:=5) rfl (oA_nl a) (by cases a<;>rfl)) (by rw[oA_nl];rfl)<|a_cons (p (i:=6) rfl (oT_nl t) (by cases t<;>rfl)) (by rw[oT_nl];rfl)<|a_cons (e_tupP rfl rfl) rfl<|a_cons (e_p rfl) rfl<|a_cons (e_p rfl) rfl<|a_cons (e_p rfl) rfl a_nil) hv) rfl)<|x_cons (st_popst hQ.st e.1) x_nil) x_nil) x_nil) (.inr ⟨_,rfl⟩))
  (.ok h e.2 rfl hB.pop (told_scal (oA_nl a) (oT_nl t) rfl rfl rfl) hT)
theorem pc_id{k:Kd}{s:List Nat}(h:pcA.contains s=true):(TT z).pc s (idK k)=true:=by
 show(pcA.contains s&&pcB.contains (idK k))=true;rw[h];cases k<;>rfl
theorem nd_bad(hz:bf.length≤SZ)(h:Sc bf n s (r::F2))(hB:Bd (r::F2) sts mks)(hk:kin r.k (nodeK lo)=false):NdO z bf (d+9) lo (ndσ bf s q lo none none x3 m9 b7 u7 b8 u8) [tRef r]:=by
 have k:=nodeK_dash hk;cases big (z:=z) (q:=q) (d:=d) (lo:=lo) hz h hB.lt k.1 (kin_sub k.2 rfl) with|mk g0 h=>
 cases ask (z:=z) (q:=q) (d:=d) hz h hB.lt (v_seq.trans (kin_sub k.2 rfl)) with|mk g1 h=>
 cases ask (z:=z) (q:=q) (d:=d) hz h hB.lt (v_map.trans (kin_sub k.2 rfl)) with|@mk _ s2 g2 h=>
 cases pk (z:=z) (q:=q) (d:=d) hz h hB.lt with|@mk _ s3 b u v g3 h e1 e2=>
 exact .mk (g0 (x_iF (t_andT (t_p rfl)<|t_andF (g1 rfl))<|x_end<|x_iF (t_andT (t_p rfl)<|t_andF (g2 rfl))<|x_end<|x_iF (t_p rfl)<|x_cons (x_iT (t_p rfl)<|x_cons (x_a13 (e_p rfl) rfl) x_nil)<|x_cons (x_a3 g3 (okS_new rfl (tok_nl _)))<|
  x_end<|x_raise z.excs (a_cons (e_pct (e_p rfl) rfl) rfl<|a_cons (e_p rfl) rfl<|a_cons (e_pct (e_at rfl tok_id rfl) (pc_id rfl)) rfl<|a_cons (e_at rfl (tok_94 _) rfl) rfl a_nil) rfl rfl) (.inl rfl)) (.exc (.mk e1 e2))
end Mine.Internal
end
section
open PySem PySem.W
namespace Mine.Internal
variable{z:Zk} {bf:List Nat} {s:SS} {q:QS} {d n np f i k mks c:Nat} {r r0 r1:Row} {F F2:List Row} {l outs E:List V} {m:V} {sts:List Nat} {a t:Option Nat} {lo:Bool} {x3 m7 m8 m9 x10 x11:V} {st:List Nat} {ρ:Nat}
theorem PropsV.ne(h:PropsV F a t r F2):∃r0 F0,F=r0::F0:=by cases h<;>exact⟨_,_,rfl⟩
theorem PropsV.len(h:PropsV F a t r F2):(r::F2).length≤F.length:=by
 cases h with
 |no=>exact Nat.le_refl _
 |a=>exact Nat.le_succ _
 |t=>exact Nat.le_succ _
 |both=>exact Nat.le_add_right _ 2
 |ta=>exact Nat.le_add_right _ 2
theorem Bd.le(h:Bd F sts mks){G:List Row}(l:G.length≤F.length):Bd G sts mks:=Nat.lt_of_le_of_lt (Nat.add_le_add_right (Nat.add_le_add_right l _) _) h
theorem Bd.len(h:Bd F sts mks):F.length<780:=Nat.lt_of_le_of_lt (Nat.le_trans (Nat.le_add_right _ _) (Nat.le_add_right _ _)) h
noncomputable def CR.o(outs:List V):CR→CR
 | .ret v P _=>.ret v P outs
 | .exc x=>.exc x
theorem Good.o{r:CR}(h:Good z bf r E):Good z bf (r.o outs) E:=by
 cases h with
 |ok a b c d e f=>exact .ok a b c d e f
 |exc h=>exact .exc h
theorem node_run(hp:PropsV F a t r F2)(hz:bf.length≤SZ)(hn:∀{n s q d x3 m9 b7 u7 b8 u8},Sc bf n s (r::F2)→PQ q sts mks→Bd (r::F2) sts mks→NdO z bf (d+9) lo (ndσ bf s q lo a t x3 m9 b7 u7 b8 u8) E):Stt z bf 10 57 [.self,.bool true,.bool lo] sts mks F E:=.mk fun{n s q d}h hQ hB=>by
 obtain⟨r0,F0,rfl⟩:=hp.ne;cases ask (z:=z) (q:=q) (d:=d) hz h hB.lt v_alias with|mk g0 h=>
 cases node_head (z:=z) (q:=q) (d:=d) (lo:=lo) hp hz h hB.len with|mk o g1 h=>
 have hB2:=hB.le hp.len;cases node_mid (z:=z) (d:=d) (a:=a) (t:=t) (lo:=lo) o hz h hB2.lt hQ with|mk g2 h=>
 cases hn (d:=d) h hQ hB2 with|mk g3 hG=>
 cases hG with
 |ok h1 h2 h3 h4 h5 h6=>
  cases h5 with|@mk C fs _ tn tr=>
  exact .mk (run_to<|x_cons (x_iF (g0 rfl) (g1 (g2 g3)))<|x_end<|x_ret (e_p (u:=.inst C fs) rfl) rfl) (.ok (outs:=[.self,.bool true,.bool lo]) h1 h2 h3 h4 (.mk tn tr) h6)
 |exc h=>exact .mk (run_to<|x_end<|x_iF (g0 rfl) (g1 (g2 g3))) (.exc h)
theorem fin_stop{r:CR}{l:List V}:(r.fin l).stop=true:=by cases r<;>rfl
theorem fin_cr{r:CR}{l:List V}:crOf np (r.fin l)=r.o (l.take np):=by cases r<;>rfl
theorem blk(h:Stt z bf 10 57 [.self,.bool true,.bool false] sts mks F E):Stt z bf 11 55 [.self] sts mks F E:=.mk fun{n s q d}a b c=>by
 cases h.go (d:=d) a b c with|mk g G=>exact .mk (run_to (x_tail rfl rfl g) fin_cr) G.o
theorem blkL(h:Stt z bf 10 57 [.self,.bool true,.bool true] sts mks F E):Stt z bf 11 56 [.self] sts mks F E:=.mk fun{n s q d}a b c=>by
 cases h.go (d:=d) a b c with|mk g G=>exact .mk (run_to (x_tail rfl rfl g) fin_cr) G.o
inductive LT (z:Zk) (bf:List Nat) (st:List Nat) (fn ρ:Nat) (sts:List Nat) (mks:Nat):List Row→List V→Prop
 |stop {r:Row} {F:List Row} {E:List V}:kin r.k st=true→Tell z bf ρ sts mks (r::F) E→LT z bf st fn ρ sts mks (r::F) (tEmpty::E)
 |node {r:Row} {F:List Row} {E:List V}:kin r.k st=false→Stt z bf 11 fn [.self] (ρ::sts) mks (r::F) E→LT z bf st fn ρ sts mks (r::F) E
inductive ExG (z:Zk) (bf:List Nat) (d np:Nat) (code:List S) (σ:St) (E:List V):Prop
 |mk {w:R Fl}:exs (TT z) d np code σ w→Good z bf (crOf np w) E→ExG z bf d np code σ E
theorem empty_run{b:List Nat}{u:SS}:run (TT z) (d+1) 64 [.self,mk b u] (enc bf s q) (.ret (evScal .none .none (.tup [.bool true,.bool false]) (.str []) (mk b u) (mk b u) .none) (enc bf s q) [.self,mk b u]):=
 run_to<|x_end<|x_ret (x_new z.recs (a_cons (e_p rfl) rfl<|a_cons (e_p rfl) rfl<|a_cons (e_tupP rfl rfl) rfl<|a_cons (e_p rfl) rfl<|a_cons (e_p rfl) rfl<|a_cons (e_p rfl) rfl a_nil) rfl) rfl
theorem told_empty{b:List Nat}{u:SS}:Told z (evScal .none .none (.tup [.bool true,.bool false]) (.str []) (mk b u) (mk b u) .none) tEmpty:=told_scal rfl rfl rfl rfl rfl
theorem e_empty{e:Mine.Internal.E}{b:List Nat}{u:SS}{s':SS}(h:ev (TT z) (d+1) e ⟨.self::l,enc bf s q⟩ (.ok (mk b u) ⟨.self::l,enc bf s' q⟩)):ev (TT z) (d+1) (.mcal (.loc 0) 118 64 [e] []) ⟨.self::l,enc bf s q⟩ (.ok (evScal .none .none (.tup [.bool true,.bool false]) (.str []) (mk b u) (mk b u) .none) ⟨.self::l,enc bf s' q⟩):=
 x_mcal rfl (a_cons h rfl a_nil) rfl empty_run rfl
theorem Bd.psh(h:Bd (r::F) sts mks):Bd F (c::sts) mks:=by unfold Bd at*;rw[List.length_cons] at h⊢;omega
theorem Bd.sl(h:Bd F sts mks):sts.length<780:=by unfold Bd at h;omega
theorem stk_len(hQ:PQ q sts mks)(hB:Bd F sts mks):q.sts.length<SZ:=by rw[hQ.sts,List.length_map,List.length_reverse];exact Nat.lt_trans hB.sl (by decide)
theorem ent_go{fn x m:Nat}{csX csS:List (List Nat)}{esX esS:List Mine.Internal.E}{els tl:List S}(hz:bf.length≤SZ)(h:Sc bf n s (r::F))(hQ:PQ q sts mks)(hB:Bd (r::F) sts mks)(hX:wordIn (idK r.k) csX=true)(eX:∀σ,pes (TT z) σ esX=some (csX.map .str))(cX:(!csX.isEmpty&&((csX.map V.str).all V.nl&&(csX.map V.str).length.ble 100))=true)
  (hS:∀{k},wordIn (idK k) csS=kin k st) (eS:∀σ,pes (TT z) σ esS=some (csS.map .str)) (cS:(!csS.isEmpty&&((csS.map V.str).all V.nl&&(csS.map V.str).length.ble 100))=true) (hb:∀σ,bindQ (TT z) fn [.self] σ [] []=some [.self]) (hT:LT z bf st fn ρ sts mks F E):
  ExG z bf (d+11) 1 (.ite (.tv (.mcal (.loc 0) 101 9 [.tup esX] [])) [.asg [1] (.mcal (.loc 0) 97 11 [] []),.ite (.not (.tv (.mcal (.loc 0) 101 9 [.tup esS] []))) [.expr (.app (.attr (.loc 0) 23) (.meth ρ m)),.ret (.mcal (.loc 0) x fn [] [])] [.setA 25 (.meth ρ m),.ret (.mcal (.loc 0) 118 64 [.attr (.loc 1) 99] [])]] els::tl) ⟨.self::.absent::l,enc bf s q⟩ E:=by
 cases ask (z:=z) (q:=q) (d:=d+2) hz h hB.lt hX cX with|mk g1 h=>
 cases tak (z:=z) (q:=q) (d:=d+2) hz h hB.lt with|mk g2 h=>
 cases hT with
 |stop hk hT=>
  cases ask (z:=z) (q:=q) (d:=d+2) hz h hB.tl.lt (hS.trans hk) cS with|mk g3 h=>
  exact .mk (x_end<|x_iT (g1 (eX _))<|x_cons (x_a1 g2 (okS_new rfl (tok_nl _)))<|x_end<|x_iF (t_not (g3 (eS _)))<|x_cons (st_state hQ.st)<|x_end<|x_ret (e_empty (e_at rfl (tok_99 _) rfl)) rfl) (.ok h hQ.to rfl hB.tl told_empty hT)
 |node hk hT=>
  cases ask (z:=z) (q:=q) (d:=d+2) hz h hB.tl.lt (hS.trans hk) cS with|mk g3 h=>
  cases hT.go (d:=d) h hQ.push hB.psh with|@mk r' g G=>
  exact .mk (x_end (x_iT (g1 (eX _))<|x_cons (x_a1 g2 (okS_new rfl (tok_nl _)))<|x_end (x_iT (t_not (g3 (eS _)))<|x_cons (st_push (stk_len hQ hB))<|x_tail rfl (hb _) g) fin_stop) fin_stop) (fin_cr▸G.o)
end Mine.Internal
end
section
open PySem PySem.W
namespace Mine.Internal
variable{z:Zk} {bf:List Nat} {s:SS} {q:QS} {d n np f i k mks c:Nat} {r r0 r1:Row} {F F2:List Row} {l outs E G R:List V} {m tx t:V} {sts:List Nat} {P P1 P2:Pt} {fs:List (Nat×V)} {C:Addr}
theorem e_vcal{bs:List V}{r:CR}{σ:St}(hs:alive σ=true)(hP:σ.P.lookup k=some (.meth f))(hb:bindK ((TT z).fn f) [.self] []=some bs)(H:run (TT z) d f bs σ.P r)(hf:f<75):ev (TT z) d (.vcal k) σ (resC [none] σ.loc r):=.mk (Ev.vcal (alive_0 hs) hP hb @H.un (z.fok f hf))
theorem e_vc{P':Pt}{v:V}(hst:q.st= .meth f)(hb:bindK ((TT z).fn f) [.self] []=some [.self])(H:run (TT z) d f [.self] (enc bf s q) (.ret v P' outs))(hf:f<75):ev (TT z) d (.vcal 25) ⟨.self::l,enc bf s q⟩ (.ok v ⟨.self::l,P'⟩):=e_vcal (r:=.ret v P' outs) (k:=25) rfl (congrArg some hst) hb H hf
theorem e_vcX{x:Ex}(hst:q.st= .meth f)(hb:bindK ((TT z).fn f) [.self] []=some [.self])(H:run (TT z) d f [.self] (enc bf s q) (.exc x))(hf:f<75):ev (TT z) d (.vcal 25) ⟨.self::l,enc bf s q⟩ (.exc x (.self::l)):=e_vcal (r:=.exc x) (k:=25) rfl (congrArg some hst) hb H hf
theorem m_c1{σ:St}{P':Pt}{v:V}(hi:σ.loc[i]? =some .self)(hs:(σ.P.lookup 1000).isSome=true)(hb:bindA (TT z) f [.self] σ []=some [.self])(H:run (TT z) d f [.self] σ.P (.ret v P' outs)):ev (TT z) d (.mcal (.loc i) k f [] []) σ (.ok v ⟨σ.loc,P'⟩):=mcal_i (r:=.ret v P' outs) (vs:=[]) hi hs a_nil hb H
theorem m_c1X{σ:St}{x:Ex}(hi:σ.loc[i]? =some .self)(hs:(σ.P.lookup 1000).isSome=true)(hb:bindA (TT z) f [.self] σ []=some [.self])(H:run (TT z) d f [.self] σ.P (.exc x)):ev (TT z) d (.mcal (.loc i) k f [] []) σ (.exc x σ.loc):=mcal_i (r:=.exc x) (vs:=[]) hi hs a_nil hb H
theorem ROut.turn(h1:run (TT z) d 47 [.self] P (.ret (.inst C fs) P1 outs))(a:(P.lookup 1000).isSome=true)(a1:(P1.lookup 1000).isSome=true)(h2:run (TT z) d 48 [.self] P1 (.ret (.inst C fs) P2 outs))(h3:run (TT z) d 74 [.inst C fs] P2 (.ret t P2 [.inst C fs]))(n:t.nl=true)(hG:G.length<SZ)
  (k:ROut z d tx ⟨[tx,.self,.list (G++[t]),.absent],P2⟩ R):ROut z d tx ⟨[tx,.self,.list G,.absent],P⟩ R:=by
 have g1:ev (TT z) d (.mcal (.loc 1) 163 47 [] []) ⟨[tx,.self,.list G,.absent],P⟩ (.ok (.inst C fs) ⟨[tx,.self,.list G,.absent],P1⟩):=m_c1 rfl a rfl h1;have g2:ev (TT z) d (.mcal (.loc 1) 165 48 [] []) ⟨[tx,.self,.list G,.absent],P1⟩ (.ok (.inst C fs) ⟨[tx,.self,.list G,.absent],P2⟩):=m_c1 rfl a1 rfl h2;have g3:ev (TT z) d (.fcal 164 74 [(.mcal (.loc 1) 165 48 [] [])] []) ⟨[tx,.self,.list G,.absent],P1⟩ (.ok t ⟨[tx,.self,.list G,.absent],P2⟩):=x_fcal (a_cons g2 rfl a_nil) rfl h3 rfl;have b {w:Mine.Internal.R Fl} (h:wl (TT z) d 1 rdT rdB ⟨[tx,.self,.list (G++[t]),.absent],P2⟩ w):wl (TT z) d 1 rdT rdB ⟨[tx,.self,.list G,.absent],P⟩ w:=
  w_go (t_cmp g1 rfl rfl) (x_cons (x_expr (e_app (us:=G) (xs:=G) (.loc rfl) g3 (.loc rfl) n hG)) x_nil) h
 cases k with
 |ok h=>exact .ok (b h)
 |exc h e1 e2=>exact .exc (b h) e1 e2
theorem cur_eq(h:q.cur= .none):{q with cur:=.none}=q:=by cases q;cases h;rfl
theorem t_cur{v:V}{b:Bool}(h:q.cur=v)(hb:isNone v=some b):tr (TT z) d (.cmp .is (.attr (.loc 0) 20) .cN) ⟨.self::l,enc bf s q⟩ (.ok b ⟨.self::l,enc bf s q⟩):=t_p ((congrArg isNone h).trans hb)
theorem t_st{v:V}{b:Bool}(h:q.st=v)(hb:truthV v=some b):tr (TT z) d (.tv (.attr (.loc 0) 25)) ⟨.self::l,enc bf s q⟩ (.ok b ⟨.self::l,enc bf s q⟩):=t_p ((congrArg truthV h).trans hb)
theorem peek_ev{s':SS}{q':QS}(hc:q.cur= .none)(hst:q.st= .meth f)(hb:bindK ((TT z).fn f) [.self] []=some [.self])(hf:f<75)(h:run (TT z) d f [.self] (enc bf s q) (.ret (.inst C fs) (enc bf s' q') outs))(hc':q'.cur= .none):
  run (TT z) (d+1) 47 [.self] (enc bf s q) (.ret (.inst C fs) (enc bf s' {q' with cur:=.inst C fs}) [.self]):=
 run_to<|x_cons (x_iT (t_cur hc rfl)<|x_cons (x_iT (t_st hst rfl)<|x_cons (x_setA (σ':=⟨[.self],enc bf s' q'⟩) (e_vc hst hb h hf) (show(!isLst q'.cur)=true by rw[hc'];rfl)) x_nil) x_nil)<|x_end<|x_ret (e_p (u:=.inst C fs) rfl) rfl
theorem peek_evX{x:Ex}(hc:q.cur= .none)(hst:q.st= .meth f)(hb:bindK ((TT z).fn f) [.self] []=some [.self])(hf:f<75)(h:run (TT z) d f [.self] (enc bf s q) (.exc x)):run (TT z) (d+1) 47 [.self] (enc bf s q) (.exc x):=
 run_to<|x_end<|x_iT (t_cur hc rfl)<|x_end<|x_iT (t_st hst rfl)<|x_end<|x_setAX (e_vcX hst hb h hf)
theorem get_ev:run (TT z) (d+1) 48 [.self] (enc bf s {q with cur:=.inst C fs}) (.ret (.inst C fs) (enc bf s {q with cur:=.none}) [.self]):=
 run_to<|x_cons (x_iF (t_p rfl) x_nil)<|x_cons (x_a1 (e_p (u:=.inst C fs) rfl) rfl)<|x_cons (x_q rfl)<|x_qs rfl
theorem Outc.turn(g:Outc z bf (d+15) f [.self] s q E)(hc:q.cur= .none)(hst:q.st= .meth f)(hb:bindK ((TT z).fn f) [.self] []=some [.self])(hf:f<75)(hG:G.length+E.length<SZ):ROut z (d+16) tx ⟨[tx,.self,.list G,.absent],enc bf s q⟩ (G++E):=by
 cases g with|mk g Go=>
 cases Go with
 |exc hx=>
  exact .exc (w_exc (t_cmpX (m_c1X rfl rfl rfl (peek_evX hc hst hb hf g)))) hx rfl
 |@ok n' s' q' ev e f' sts' mks' F' E' outs h1 h2 h3 h4 h5 h6=>
  cases h5 with|@mk C fs _ tn tr=>
  rw[List.length_cons] at hG;refine ROut.turn (peek_ev hc hst hb hf g h2.cur) rfl rfl get_ev (tr _ _) tn (Nat.lt_of_le_of_lt (Nat.le_add_right _ _) hG) ?_;rw[cur_eq h2.cur];have k:=h6.go (d:=d) (tx:=tx) (G:=G++[e]) h1 h2 h3 h4 (by rw[List.length_append,Nat.add_assoc];exact(Nat.add_comm 1 _)▸hG);rw[List.append_assoc] at k;exact k
theorem Tell.of(hb:bindK ((TT z).fn f) [.self] []=some [.self])(hf:f<75)(h:∀{n s q d},Sc bf n s F→PQ q sts mks→Bd F sts mks→Outc z bf (d+15) f [.self] s q E):Tell z bf f sts mks F E:=.mk fun{n s q G d tx}hS hQ hst hB hG=>(h (d:=d) hS hQ hB).turn hQ.cur hst hb hf hG
end Mine.Internal
end
section
open PySem PySem.W
namespace Mine.Internal
variable{z:Zk} {bf:List Nat} {s:SS} {q:QS} {d n np f i k mks c:Nat} {r r0 r1:Row} {F F2:List Row} {l outs E G R:List V} {m tx t:V} {sts:List Nat}
theorem ExG.out{xs:List V}(h:ExG z bf d ((TT z).fn f).np ((TT z).fn f).code ⟨locOf (TT z) f xs,enc bf s q⟩ E)(hx:xs.length=((TT z).fn f).np:=by exact rfl)(hc:∀{ns sc body},fitB (TT z) ns sc ((TT z).fn f).code body=fitSs (TT z) ns sc ((TT z).fn f).code body:=by exact rfl):Outc z bf (d+1) f xs s q E:=by
 cases h with|mk g G=>exact .mk (run_to g rfl hx hc) G
noncomputable abbrev endC(txt fmt:List Nat)(g:Nat):List S:=[(.ite (.not (.tv (.mcal (.loc 0) 101 9 [(.tup [(.attr (.glb 63) 37)])] []))) [(.asg [1] (.mcal (.loc 0) 104 10 [] [])),(.raise 112 [(.cS txt),(.sub (.attr (.loc 0) 24) (.neg 1)),(.pct fmt (.attr (.loc 1) 37)),(.attr (.loc 1) 94)])] []),(.asg [1] (.mcal (.loc 0) 97 11 [] [])),(.asg [2] (.new g [(.attr (.loc 1) 94),(.attr (.loc 1) 99)] [])),(.setA 25 (.pop (.attr (.loc 0) 23))),(.expr (.pop (.attr (.loc 0) 24))),(.ret (.loc 2))]
noncomputable abbrev Ev2(z:Zk)(g C:Nat):Prop:=∀(σ:St)(b:List Nat)(u v:SS),((globV ((TT z).gv g)).bind fun C=>newF (TT z) C ([(mk b u,none),(mk b v,none)].map fun(x:V×Option Nat)=>x.1) σ [])=some (.inst C [(94,mk b u),(99,mk b v)])
theorem end_fin{txt fmt:List Nat}{g C:Nat}(hz:bf.length≤SZ)(h:Sc bf n s (r::F))(hQ:PQ q (c::sts) (mks+1))(hB:Bd (r::F) (c::sts) (mks+1))(hk:kin r.k [7]=true)(hv:Ev2 z g C)(ht:∀b u v,Told z (.inst C [(94,mk b u),(99,mk b v)]) t)(hT:Tell z bf c sts mks F E):
  ExG z bf (d+9) 1 (endC txt fmt g) ⟨[.self,.absent,.absent],enc bf s q⟩ (t::E):=by
 cases ask (z:=z) (q:=q) (d:=d) hz h hB.lt (v_fin.trans hk) with|mk g1 h=>
 cases tak (z:=z) (q:=q) (d:=d) hz h hB.lt with|@mk _ s2 b u v g2 h=>
 have e:=hQ.pop;cases e.2.unmark with|@mk ms m0 hm mn hQ2=>
 exact .mk (x_cons (x_iF (t_not (g1 rfl)) x_nil)<|x_cons (x_a1 g2 (okS_new rfl (tok_nl _)))<|x_cons (x_a2 (x_new z.recs (a_cons (e_at rfl (tok_94 _) rfl) rfl<|a_cons (e_at rfl (tok_99 _) rfl) rfl a_nil) (hv _ b u v)) rfl)<|x_cons (st_popst hQ.st e.1)<|x_cons (st_mpop (q:={q with sts:=sts.reverse.map V.meth,st:=.meth c}) hm)<|x_qs rfl)
  (.ok h hQ2 rfl (by unfold Bd at*;rw[List.length_cons,List.length_cons] at hB;omega) (ht b u v) hT)
theorem seq_last{k:Nat}:seqIndex? (-1) (k+1)=some k:=by
 have e:(-1:Int)+((k+1:Nat):Int)=k:=by omega
 unfold seqIndex?;have e2:(if(-1:Int)<0 then(-1:Int)+((k+1:Nat):Int) else-1)=k:=(if_pos (by decide)).trans e;rw[e2];exact if_pos (Bool.and_eq_true_iff.mpr ⟨decide_eq_true (Int.natCast_nonneg k),decide_eq_true (Int.ofNat_lt.mpr (Nat.lt_succ_self k))⟩)
theorem last_m{ms:List V}(h:q.marks=ms++[m])(n:m.nl=true):ev (TT z) d (.sub (.attr (.loc 0) 24) (.neg 1)) ⟨.self::l,enc bf s q⟩ (.ok m ⟨.self::l,enc bf s q⟩):=by
 refine e_p (pv_of ?_ n);show subV (.list q.marks) (.int (-1))=_;rw[h];show((seqIndex? (-1) (ms++[m]).length).bind fun k=>(ms++[m])[k]?)=_;rw[List.length_append,show ms.length+[m].length=ms.length+1 from rfl,seq_last];exact List.getElem?_concat_length
theorem end_bad{txt fmt:List Nat}{g:Nat}(hz:bf.length≤SZ)(h:Sc bf n s (r::F))(hQ:PQ q sts (mks+1))(hB:Bd (r::F) sts (mks+1))(hk:kin r.k [7]=false)(hp:pcA.contains fmt=true):ExG z bf (d+9) 1 (endC txt fmt g) ⟨[.self,.absent,.absent],enc bf s q⟩ [tRef r]:=by
 cases ask (z:=z) (q:=q) (d:=d) hz h hB.lt (v_fin.trans hk) with|mk g1 h=>
 cases pk (z:=z) (q:=q) (d:=d) hz h hB.lt with|mk g2 h e1 e2=>
 cases hQ.unmark with|@mk ms m0 hm mn _=>
 have hv:∀{b:List Nat}{u:SS},((globV ((TT z).gv 112)).bind fun C=>(recF (TT z) C true ([(.str txt,none),(m0,none),(.any,none),(mk b u,none)].map fun(x:V×Option Nat)=>x.1) []).bind fun fs=>onB (!fs.isEmpty) (some (⟨C,fs⟩:Ex)))=some ⟨1293,[(170,.str txt),(171,m0),(172,.any),(166,mk b u),(173,.none)]⟩:=fun{b u}=>by
  show(onB ([V.str txt,m0,.any,mk b u,.none].all V.nl&&true) _).bind _=_;rw[all_c rfl (all_c mn (all_c rfl (all_c rfl (all_c rfl rfl))))];rfl
 exact .mk (x_end<|x_iT (t_not (g1 rfl))<|x_cons (x_a1 g2 (okS_new rfl (tok_nl _)))<|x_end<|x_raise z.excs (a_cons (e_p rfl) rfl<|a_cons (last_m hm mn) (by rw[mn];rfl)<|a_cons (e_pct (e_at rfl tok_id rfl) (pc_id hp)) rfl<|a_cons (e_at rfl (tok_94 _) rfl) rfl a_nil) rfl hv) (.exc (.mk e1 e2))
theorem ExG.skip{st:S}{σ σ':St}{code:List S}(h:ex (TT z) d np st σ (.ok .next σ'))(k:ExG z bf d np code σ' E):ExG z bf d np (st::code) σ E:=by
 cases k with|mk g G=>exact .mk (x_cons h g) G
theorem Tell.st(S:Stt z bf 12 f [.self] sts mks F E)(hb:bindK ((TT z).fn f) [.self] []=some [.self]:=by rfl)(hf:f<75:=by decide):Tell z bf f sts mks F E:=Tell.of hb hf fun{n s q d}h hQ hB=>S.go (d:=d+3) h hQ hB
theorem Tell.st3(S:Stt z bf 13 f [.self] sts mks F E)(hb:bindK ((TT z).fn f) [.self] []=some [.self]:=by rfl)(hf:f<75:=by decide):Tell z bf f sts mks F E:=Tell.of hb hf fun{n s q d}h hQ hB=>S.go (d:=d+2) h hQ hB
section
variable(hz:bf.length≤SZ)
include hz
theorem s59_dash(hk:kin r.k [2]=true)(hT:LT z bf [2,7] 55 59 sts mks F E):Stt z bf 12 59 [.self] sts mks (r::F) E:=.mk fun{n s q d}h hQ hB=>
 ExG.out (ent_go (d:=d) (csX:=[idK .dash]) (csS:=[idK .dash,idK .fin]) hz h hQ hB (v_dash.trans hk) (fun y0_=>rfl) rfl v_2 (fun y0_=>rfl) rfl (fun y0_=>rfl) hT)
theorem s60_dash(hk:kin r.k [2]=true)(hT:LT z bf [2,3,4,7] 55 60 sts mks F E):Stt z bf 12 60 [.self] sts mks (r::F) E:=.mk fun{n s q d}h hQ hB=>
 ExG.out (ent_go (d:=d) (csX:=[idK .dash]) (csS:=[idK .dash,idK .q,idK .colon,idK .fin]) hz h hQ hB (v_dash.trans hk) (fun y0_=>rfl) rfl v_4 (fun y0_=>rfl) rfl (fun y0_=>rfl) hT)
theorem s62_q(hk:kin r.k [3]=true)(hT:LT z bf [3,4,7] 56 63 sts mks F E):Stt z bf 12 62 [.self] sts mks (r::F) E:=.mk fun{n s q d}h hQ hB=>
 ExG.out (ent_go (d:=d) (csX:=[idK .q]) (csS:=[idK .q,idK .colon,idK .fin]) hz h hQ hB (v_q.trans hk) (fun y0_=>rfl) rfl v_3 (fun y0_=>rfl) rfl (fun y0_=>rfl) hT)
theorem s63_colon(hk:kin r.k [4]=true)(hT:LT z bf [3,4,7] 56 62 sts mks F E):Stt z bf 12 63 [.self] sts mks (r::F) E:=.mk fun{n s q d}h hQ hB=>
 ExG.out (ent_go (d:=d) (csX:=[idK .colon]) (csS:=[idK .q,idK .colon,idK .fin]) hz h hQ hB (v_colon.trans hk) (fun y0_=>rfl) rfl v_3 (fun y0_=>rfl) rfl (fun y0_=>rfl) hT)
theorem s59_fin(hk:kin r.k [7]=true)(hT:Tell z bf c sts mks F E):Stt z bf 12 59 [.self] (c::sts) (mks+1) (r::F) (tRowEnd::E):=.mk fun{n s q d}h hQ hB=>by
 cases ask (z:=z) (q:=q) (d:=d+2) hz h hB.lt (v_dash.trans (kin_ne hk rfl)) with|mk g h=>
 exact ExG.out (.skip (x_iF (g rfl) x_nil) (end_fin (d:=d+2) hz h hQ hB hk (fun y0_ y1_ y2_ y3_=>rfl) (fun y0_ y1_ y2_=>told_seqEnd) hT))
theorem s59_bad(hk:kin r.k [2,7]=false):Stt z bf 12 59 [.self] sts (mks+1) (r::F) [tRef r]:=.mk fun{n s q d}h hQ hB=>by
 cases ask (z:=z) (q:=q) (d:=d+2) hz h hB.lt (v_dash.trans (kin_sub hk rfl)) with|mk g h=>
 exact ExG.out (.skip (x_iF (g rfl) x_nil) (end_bad (d:=d+2) hz h hQ hB (kin_sub hk rfl) rfl))
theorem s62_fin(hk:kin r.k [7]=true)(hT:Tell z bf c sts mks F E):Stt z bf 12 62 [.self] (c::sts) (mks+1) (r::F) (tMapEnd::E):=.mk fun{n s q d}h hQ hB=>by
 cases ask (z:=z) (q:=q) (d:=d+2) hz h hB.lt (v_q.trans (kin_ne hk rfl)) with|mk g h=>
 exact ExG.out (.skip (x_iF (g rfl) x_nil) (end_fin (d:=d+2) hz h hQ hB hk (fun y0_ y1_ y2_ y3_=>rfl) (fun y0_ y1_ y2_=>told_mapEnd) hT))
theorem s62_bad(hk:kin r.k [3,7]=false):Stt z bf 12 62 [.self] sts (mks+1) (r::F) [tRef r]:=.mk fun{n s q d}h hQ hB=>by
 cases ask (z:=z) (q:=q) (d:=d+2) hz h hB.lt (v_q.trans (kin_sub hk rfl)) with|mk g h=>
 exact ExG.out (.skip (x_iF (g rfl) x_nil) (end_bad (d:=d+2) hz h hQ hB (kin_sub hk rfl) rfl))
theorem s60_end(hk:kin r.k [2]=false)(hT:Tell z bf c sts mks (r::F) E):Stt z bf 12 60 [.self] (c::sts) mks (r::F) (tRowEnd::E):=.mk fun{n s q d}h hQ hB=>by
 cases ask (z:=z) (q:=q) (d:=d+2) hz h hB.lt (v_dash.trans hk) with|mk g h=>
 cases pk (z:=z) (q:=q) (d:=d+2) hz h hB.lt with|@mk _ _ b u v g2 h _ _=>
 have e:=hQ.pop;exact ExG.out (.mk (x_cons (x_iF (g rfl) x_nil)<|x_cons (x_a1 g2 (okS_new rfl (tok_nl _)))<|x_cons (x_a2 (x_new z.recs (a_cons (e_at rfl (tok_94 _) rfl) rfl<|a_cons (e_at rfl (tok_94 _) rfl) rfl a_nil) rfl) rfl)<|x_cons (st_popst hQ.st e.1)<|x_qs rfl) (.ok h e.2 rfl hB.pop told_seqEnd hT))
theorem s63_none(hk:kin r.k [4]=false)(hT:Tell z bf 62 sts mks (r::F) E):Stt z bf 12 63 [.self] sts mks (r::F) (tEmpty::E):=.mk fun{n s q d}h hQ hB=>by
 cases ask (z:=z) (q:=q) (d:=d+2) hz h hB.lt (v_colon.trans hk) with|mk g h=>
 cases pk (z:=z) (q:=q.w (.meth 62)) (d:=d+2) hz h hB.lt with|mk g2 h _ _=>
 exact ExG.out (.mk (x_end<|x_iF (g rfl)<|x_cons (st_state hQ.st)<|x_cons (x_a1 g2 (okS_new rfl (tok_nl _)))<|x_end<|x_ret (e_empty (e_at rfl (tok_94 _) rfl)) rfl) (.ok h hQ.to rfl hB told_empty hT))
theorem st_mpush{np i:Nat}{k:Kd}{c:Nat}{b:List Nat}{u v:SS}(h:(V.self::l)[i]? =some (tokV k c (mk b u) (mk b v)))(hl:q.marks.length<SZ):ex (TT z) d np (.expr (.app (.attr (.loc 0) 24) (.attr (.loc i) 94))) ⟨.self::l,enc bf s q⟩ (.ok .next ⟨.self::l,enc bf s {q with marks:=q.marks++[mk b u]}⟩):=
 x_expr (e_app (pl24 rfl) (e_at h (tok_94 _) rfl) (pl24 rfl) rfl hl)
theorem s58(S:Stt z bf 12 59 [.self] sts (mks+1) F E):Stt z bf 13 58 [.self] sts mks (r::F) E:=.mk fun{n s q d}h hQ hB=>by
 cases tak (z:=z) (q:=q) (d:=d+3) hz h hB.lt with|@mk _ _ b u v g h=>
 cases S.go (d:=d) h (hQ.mark (m:=mk b u) rfl) hB.mk1 with|mk g2 G=>
 exact ExG.out (.mk (x_cons (x_a1 g (okS_new rfl (tok_nl _)))<|x_cons (st_mpush hz rfl (by rw[hQ.mks];exact Nat.lt_trans (Nat.lt_of_le_of_lt (Nat.le_add_left _ _) hB) (by decide)))<|x_tail rfl rfl g2) (fin_cr▸G.o))
theorem s61(S:Stt z bf 12 62 [.self] sts (mks+1) F E):Stt z bf 13 61 [.self] sts mks (r::F) E:=.mk fun{n s q d}h hQ hB=>by
 cases tak (z:=z) (q:=q) (d:=d+3) hz h hB.lt with|@mk _ _ b u v g h=>
 cases S.go (d:=d) h (hQ.mark (m:=mk b u) rfl) hB.mk1 with|mk g2 G=>
 exact ExG.out (.mk (x_cons (x_a1 g (okS_new rfl (tok_nl _)))<|x_cons (st_mpush hz rfl (by rw[hQ.mks];exact Nat.lt_trans (Nat.lt_of_le_of_lt (Nat.le_add_left _ _) hB) (by decide)))<|x_tail rfl rfl g2) (fin_cr▸G.o))
end
end Mine.Internal
end
section
open PySem PySem.W
namespace Mine.Internal
variable{z:Zk} {bf:List Nat}
noncomputable def Then(res:Option (List Row))(G:List Row→List V→Prop)(E2:List V):Prop:=match res with
 |some F=>G F E2
 |none=>E2=[]
noncomputable def Sim(z:Zk)(bf:List Nat)(md:Md)(F:List Row)(E:List V)(c:Nat)(sts:List Nat)(mks:Nat):Prop:=match md with
 | .node lo=>Stt z bf 10 57 [.self,.bool true,.bool lo] (c::sts) mks F E
 | .left st lo=>LT z bf st (if lo=true then 56 else 55) c sts mks F E
 | .ent fr=>Stt z bf 12 (if fr=true then 59 else 60) [.self] (c::sts) (mks+fr.toNat) F E
 | .pairs=>Stt z bf 12 62 [.self] (c::sts) (mks+1) F E
theorem cat_of{G:List V→Prop}{A B C:List V}(h:G (A++(B++C))):G ((A++B)++C):=(List.append_assoc A B C).symm▸h
theorem sim(hz:bf.length≤SZ){n:Nat}{md:Md}{F:List Row}{E:List V}{res:Option (List Row)}(h:Rd n md F E res):∀{c:Nat}{sts:List Nat}{mks:Nat}{E2:List V},Then res (Tell z bf c sts mks) E2→Sim z bf md F (E++E2) c sts mks:=by
 induction h with
 |dash hp hk h ih=>exact fun hT=>node_run (props_inv hp) hz fun h hQ hB=>nd_dash hz h hB hQ hk (Tell.st (ih hT))
 |scal hp hk=>exact fun hT=>node_run (props_inv hp) hz fun h hQ hB=>nd_scal hz h hB hQ hk hT
 |seq hp hk h ih=>exact fun hT=>node_run (props_inv hp) hz fun h hQ hB=>nd_seq hz h hB hQ hk (Tell.st3 (s58 hz (ih hT)))
 |map hp hk h ih=>exact fun hT=>node_run (props_inv hp) hz fun h hQ hB=>nd_map hz h hB hQ hk (Tell.st3 (s61 hz (ih hT)))
 |bad hp hk=>
  exact fun hT=>by
   cases show _=[] from hT
   exact node_run (props_inv hp) hz fun h hQ hB=>nd_bad hz h hB hk
 |bare hp hk ha=>exact fun hT=>node_run (props_inv hp) hz fun h hQ hB=>nd_bare hz h hB hQ hk ha hT
 |stop hk=>exact fun hT=>LT.stop hk hT
 |@inner n st lo r F E res hk h ih=>
  exact fun hT=>LT.node hk (by cases lo with
   |true=>exact blkL (ih hT)
   |false=>exact blk (ih hT))
 |@turn n fr r F F2 E E2 res hk h h2 ih ih2=>
  exact fun{c sts mks E3}hT=>cat_of (G:=fun E=>Sim z bf (.ent fr) (r::F) E c sts mks) (by
   cases fr with
   |true=>exact s59_dash hz hk (ih (c:=59) (sts:=c::sts) (mks:=mks+1) (Tell.st (ih2 hT)))
   |false=>exact s60_dash hz hk (ih (c:=60) (sts:=c::sts) (mks:=mks) (Tell.st (ih2 hT))))
 |@failE n fr r F E hk h ih=>
  exact fun{c sts mks E3}hT=>by
   cases fr with
   |true=>exact s59_dash hz hk (ih (c:=59) (sts:=c::sts) (mks:=mks+1) hT)
   |false=>exact s60_dash hz hk (ih (c:=60) (sts:=c::sts) (mks:=mks) hT)
 |finE hk=>exact fun hT=>s59_fin hz hk hT
 |badE hk=>
  exact fun hT=>by
   cases show _=[] from hT
   exact s59_bad hz hk
 |off hk=>exact fun hT=>s60_end hz hk hT
 |failK hk h ih=>exact fun{c sts mks E3}hT=>s62_q hz hk (ih (c:=63) (sts:=c::sts) (mks:=mks+1) hT)
 |@bareP n r r2 F F2 E E2 res hk h hk2 h2 ih ih2=>exact fun{c sts mks E3}hT=>cat_of (G:=fun E=>Sim z bf .pairs (r::F) E c sts mks) (s62_q hz hk (ih (c:=63) (sts:=c::sts) (mks:=mks+1) (Tell.st (s63_none hz hk2 (Tell.st (ih2 hT))))))
 |@failV n r r2 F F2 E E2 hk h hk2 h2 ih ih2=>exact fun{c sts mks E3}hT=>cat_of (G:=fun E=>Sim z bf .pairs (r::F) E c sts mks) (s62_q hz hk (ih (c:=63) (sts:=c::sts) (mks:=mks+1) (Tell.st (s63_colon hz hk2 (ih2 (c:=62) (sts:=c::sts) (mks:=mks+1) hT)))))
 |@full n r r2 F F2 F3 E E2 E3 res hk h hk2 h2 h3 ih ih2 ih3=>exact fun{c sts mks E4}hT=>cat_of (G:=fun E=>Sim z bf .pairs (r::F) E c sts mks) (s62_q hz hk (ih (c:=63) (sts:=c::sts) (mks:=mks+1) (Tell.st (s63_colon hz hk2 (cat_of (G:=fun E=>LT z bf [3,4,7] 56 62 (c::sts) (mks+1) F2 E) (ih2 (c:=62) (sts:=c::sts) (mks:=mks+1) (Tell.st (ih3 hT))))))))
 |finP hk=>exact fun hT=>s62_fin hz hk hT
 |badP hk=>
  exact fun hT=>by
   cases show _=[] from hT
   exact s62_bad hz hk
end Mine.Internal
end
section
open PySem PySem.W
namespace Mine.Internal
variable{z:Zk} {bf:List Nat} {s:SS} {q:QS} {d n np f i k mks c:Nat} {r r0 r1:Row} {F F2:List Row} {l outs E G R:List V} {m tx t:V} {sts:List Nat}
noncomputable def defTags:List (V×V):=[(.str [33],.str [33]),(.str [33,33],.str [116,97,103,58,121,97,109,108,46,111,114,103,44,50,48,48,50,58])]
theorem st_set22{e:Mine.Internal.E}{v:V}(h:ev (TT z) d e ⟨.self::l,enc bf s q⟩ (.ok v ⟨.self::l,enc bf s q⟩))(hn:(v.nl||v.lin)=true)(hq:isLst q.tags=false):ex (TT z) d np (.setA 22 e) ⟨.self::l,enc bf s q⟩ (.ok .next ⟨.self::l,enc bf s {q with tags:=v}⟩):=
 x_setA h (show((v.nl||v.lin)&& !isLst q.tags)=true by rw[hn,hq];rfl)
theorem st_set21(hq:isLst q.ver=false):ex (TT z) d np (.setA 21 .cN) ⟨.self::l,enc bf s q⟩ (.ok .next ⟨.self::l,enc bf s {q with ver:=.none}⟩):=
 x_setA (σ':=⟨.self::l,enc bf s q⟩) (e_p (u:=.none) rfl) (show(!isLst q.ver)=true by rw[hq];rfl)
inductive S54 (z:Zk) (d:Nat) (bf:List Nat) (s:SS) (q:QS) (F:List Row):Prop
 |mk {n':Nat} {s':SS}:run (TT z) d 54 [.self] (enc bf s q) (.ret (.tup [.none,.none]) (enc bf s' {q with ver:=.none,tags:=.dict defTags}) [.self])→Sc bf n' s' F→S54 z d bf s q F
theorem s54(hz:bf.length≤SZ)(h:Sc bf n s (r::F))(hF:F.length<790)(h1:isLst q.ver=false)(h2:isLst q.tags=false):S54 z (d+10) bf s q (r::F):=by
 cases ask (z:=z) (q:={q with ver:=.none,tags:=.dict []}) (d:=d) hz h hF v_dir with|mk g h=>
 exact .mk (run_to<|x_cons (st_set21 h1)<|x_cons (st_set22 (q:={q with ver:=.none}) e_dic rfl h2)<|x_cons (x_whl (w_stop (g rfl)))<|x_cons (x_iF (t_p rfl)<|x_cons (x_a6 (e_tupP rfl rfl) rfl) x_nil)<|
  x_cons (x_forK (es:=defTags) rfl rfl rfl (f_go rfl (x_cons (x_iT (t_p rfl)<|x_cons (x_setI (es:=[]) (e_p rfl) rfl rfl rfl rfl (by decide)) x_nil) x_nil)<|f_go rfl (x_cons (x_iT (t_p rfl)<|x_cons (x_setI (es:=[(.str [33],.str [33])]) (e_p rfl) rfl rfl rfl rfl (by decide)) x_nil) x_nil) f_nil))<|x_qs rfl) h
section
variable(hz:bf.length≤SZ)
include hz
theorem s52(hT:Tell z bf 51 sts mks (r::F) E):Stt z bf 12 52 [.self] sts mks (r::F) (tEnd::E):=.mk fun{n s q d}h hQ hB=>by
 cases pk (z:=z) (q:=q) (d:=d+2) hz h hB.lt with|@mk _ _ b u v g1 h _ _=>
 cases ask (z:=z) (q:=q) (d:=d+2) hz h hB.lt v_dend with|mk g2 h=>
 exact ExG.out (.mk (x_cons (x_a1 g1 (okS_new rfl (tok_nl _)))<|x_cons (x_two (e_at rfl (tok_94 _) rfl) rfl rfl rfl)<|x_cons (x_a4 (e_p rfl) rfl)<|x_cons (x_iF (g2 rfl) x_nil)<|x_cons (x_a5 (e_new z.recs rfl) rfl)<|x_cons (st_state hQ.st)<|x_qs rfl) (.ok h hQ.to rfl hB (told_docEnd (a:=mk b u) (b:=mk b u)) hT))
theorem s51_bad(hk:kin r.k [1,12]=false):Stt z bf 12 51 [.self] sts mks (r::F) [tRef r]:=.mk fun{n s q d}h hQ hB=>by
 cases ask (z:=z) (q:=q) (d:=d+2) hz h hB.lt v_dend with|mk g1 h=>
 cases ask (z:=z) (q:=q) (d:=d+2) hz h hB.lt (v_stop.trans (kin_sub hk rfl)) with|mk g2 h=>
 cases pk (z:=z) (q:=q) (d:=d+2) hz h hB.lt with|mk g3 h _ _=>
 cases s54 (z:=z) (q:=q) (d:=d+1) hz h hB.lt hQ.vr hQ.tg with|mk g4 h=>
 cases ask (z:=z) (q:={q with ver:=.none,tags:=.dict defTags}) (d:=d+2) hz h hB.lt (v_dst.trans (kin_sub hk rfl)) with|mk g5 h=>
 cases pk (z:=z) (q:={q with ver:=.none,tags:=.dict defTags}) (d:=d+2) hz h hB.lt with|mk g6 h _ _=>
 cases pk (z:=z) (q:={q with ver:=.none,tags:=.dict defTags}) (d:=d+2) hz h hB.lt with|mk g7 h e1 e2=>
 exact ExG.out (.mk (x_cons (x_whl (w_stop (g1 rfl)))<|x_end<|x_iT (t_not (g2 rfl))<|x_cons (x_a1 g3 (okS_new rfl (tok_nl _)))<|x_cons (x_a2 (e_at rfl (tok_94 _) rfl) rfl)<|x_cons (x_unp (m_cal rfl rfl g4) rfl)<|x_end<|x_iT (t_not (g5 rfl))<|
  x_end<|x_raise z.excs (a_cons (e_p rfl) rfl<|a_cons (e_p rfl) rfl<|a_cons (e_pct (e_attr g6 tok_id rfl) (pc_id rfl)) rfl<|a_cons (e_attr g7 (tok_94 _) rfl) rfl a_nil) rfl rfl) (.exc (.mk e1 e2)))
theorem PQ0.dir(h:PQ0 q sts mks):PQ {q with ver:=.none,tags:=.dict defTags} sts mks:=⟨⟨h.cur,h.sts,h.mks,h.mnl,h.st,rfl,rfl⟩,rfl,rfl⟩
theorem s51_dst(h:Sc bf n s (r::F))(hQ:PQ0 q [] 0)(hB:Bd (r::F) [] 0)(hk:kin r.k [1]=true)(hT:Tell z bf 53 [52] 0 F E):Outc z bf (d+12) 51 [.self] s q (tDoc true::E):=by
 cases ask (z:=z) (q:=q) (d:=d+2) hz h hB.lt v_dend with|mk g1 h=>
 cases ask (z:=z) (q:=q) (d:=d+2) hz h hB.lt (v_stop.trans (kin_ne hk rfl)) with|mk g2 h=>
 cases pk (z:=z) (q:=q) (d:=d+2) hz h hB.lt with|@mk _ _ b3 u3 v3 g3 h _ _=>
 cases s54 (z:=z) (q:=q) (d:=d+1) hz h hB.lt hQ.vr hQ.tg with|mk g4 h=>
 cases ask (z:=z) (q:={q with ver:=.none,tags:=.dict defTags}) (d:=d+2) hz h hB.lt (v_dst.trans hk) with|mk g5 h=>
 cases tak (z:=z) (q:={q with ver:=.none,tags:=.dict defTags}) (d:=d+2) hz h hB.lt with|@mk _ _ b u v g6 h=>
 have hQ2:=PQ0.dir hz hQ;exact ExG.out (.mk (x_cons (x_whl (w_stop (g1 rfl)))<|x_cons (x_iT (t_not (g2 rfl))<|x_cons (x_a1 g3 (okS_new rfl (tok_nl _)))<|x_cons (x_a2 (e_at rfl (tok_94 _) rfl) rfl)<|x_cons (x_unp (m_cal rfl rfl g4) rfl)<|x_cons (x_iF (t_not (g5 rfl)) x_nil)<|
  x_cons (x_a1 g6 (okS_new rfl (tok_nl _)))<|x_cons (x_a5 (e_at rfl (tok_99 _) rfl) rfl)<|x_cons (x_a6 (e_new z.recs rfl) rfl)<|x_cons (st_push (q:={q with ver:=.none,tags:=.dict defTags}) (stk_len hQ2 hB))<|x_cons (st_state hQ2.st) x_nil)<|x_qs rfl)
  (.ok h hQ2.push.to rfl hB.psh (told_doc (a:=mk b3 u3) (b:=mk b v)) hT))
theorem s51_stop(hk:kin r.k [12]=true):Tell z bf 51 [] 0 [r] [tStreamEnd]:=.mk fun{n s q G d tx}h hQ hst hB hG=>by
 cases ask (z:=z) (q:=q) (d:=d+5) hz h hB.lt v_dend with|mk g1 h=>
 cases ask (z:=z) (q:=q) (d:=d+5) hz h hB.lt (v_stop.trans hk) with|mk g2 h=>
 cases tak (z:=z) (q:=q) (d:=d+5) hz h hB.lt with|@mk _ s2 b u v g3 h=>
 have t1:pt (TT z) ⟨[.self,tokV r.k r.c (mk b u) (mk b v),.absent,.absent,.absent,.absent,.inst 513 [(94,mk b u),(99,mk b v)]],enc bf s2 q⟩ (.not (.tv (.attr (.loc 0) 23)))=some true:=congrArg (fun l:List V=>some !!l.isEmpty) hQ.sts;have t2:pt (TT z) ⟨[.self,tokV r.k r.c (mk b u) (mk b v),.absent,.absent,.absent,.absent,.inst 513 [(94,mk b u),(99,mk b v)]],enc bf s2 q⟩ (.not (.tv (.attr (.loc 0) 24)))=some true:=congrArg (fun l:List V=>some !!l.isEmpty) (List.length_eq_zero_iff.mp hQ.mks);have hr:run (TT z) (d+15) 51 [.self] (enc bf s q) (.ret (.inst 513 [(94,mk b u),(99,mk b v)]) (enc bf s2 (q.w .none)) [.self]):=run_to<|x_cons (x_whl (w_stop (g1 rfl)))<|x_cons (x_iF (t_not (g2 rfl))<|x_cons (x_a1 g3 (okS_new rfl (tok_nl _)))<|
  x_cons (x_a6 (x_new z.recs (a_cons (e_at rfl (tok_94 _) rfl) rfl<|a_cons (e_at rfl (tok_99 _) rfl) rfl a_nil) rfl) rfl)<|x_cons (x_ass (t_p t1))<|x_cons (x_ass (t_p t2))<|x_cons (x_setA (σ':=⟨_,enc bf s2 q⟩) (e_p (u:=.none) rfl) (show(!isLst q.st)=true by rw[hQ.st];rfl)) x_nil)<|x_qs rfl
 have hc:(q.w .none).cur= .none:=hQ.cur;cases told_streamEnd (z:=z) (a:=mk b u) (b:=mk b v) with|mk tn tr=>
 refine ROut.turn (peek_ev hQ.cur hst rfl (by decide) hr hc) rfl rfl get_ev (tr _ _) tn (Nat.lt_of_le_of_lt (Nat.le_add_right _ _) hG) ?_;rw[cur_eq hc];have hp:run (TT z) (d+16) 47 [.self] (enc bf s2 (q.w .none)) (.ret .none (enc bf s2 (q.w .none)) [.self]):=run_to<|x_cons (x_iT (t_cur hc rfl)<|x_cons (x_iF (t_st (v:=.none) rfl rfl) x_nil) x_nil)<|x_end<|x_ret (e_p (pv_of (congrArg some hc) rfl)) rfl;exact .ok (w_stop (t_cmp (m_c1 rfl rfl rfl hp) rfl rfl))
theorem s50_impl(h:Sc bf n s (r::F))(hQ:PQ0 q [] 0)(hB:Bd (r::F) [52] 0)(hk:kin r.k [1,12]=false)(hT:Tell z bf 55 [52] 0 (r::F) E):Outc z bf (d+12) 50 [.self] s q (tDoc false::E):=by
 cases ask (z:=z) (q:=q) (d:=d+2) hz h hB.lt (v_d3.trans hk) with|mk g1 h=>
 cases pk (z:=z) (q:={q with tags:=.sdict defTags}) (d:=d+2) hz h hB.lt with|@mk _ _ b u v g2 h _ _=>
 have hQ2:PQ {q with tags:=.sdict defTags} [] 0:=⟨⟨hQ.cur,hQ.sts,hQ.mks,hQ.mnl,hQ.st,rfl,hQ.vr⟩,rfl,rfl⟩;exact ExG.out (.mk (x_end<|x_iT (t_not (g1 rfl))<|x_cons (st_set22 (v:=.sdict defTags) (e_p rfl) rfl hQ.tg)<|x_cons (x_a1 g2 (okS_new rfl (tok_nl _)))<|x_cons (x_two (e_at rfl (tok_94 _) rfl) rfl rfl rfl)<|x_cons (x_a4 (e_new z.recs rfl) rfl)<|x_cons (st_push (q:={q with tags:=.sdict defTags}) (stk_len hQ2 hB.pop))<|x_cons (st_state hQ.st)<|x_qs rfl)
  (.ok h hQ2.push.to rfl hB (told_doc (a:=mk b u) (b:=mk b u)) hT))
theorem s50_dst(h:Sc bf n s (r::F))(hQ:PQ0 q [] 0)(hB:Bd (r::F) [] 0)(hk:kin r.k [1]=true)(hT:Tell z bf 53 [52] 0 F E):Outc z bf (d+13) 50 [.self] s q (tDoc true::E):=by
 cases ask (z:=z) (q:=q) (d:=d+3) hz h hB.lt (v_d3.trans (by
  show(r.k.cd==1||_)=true;have e:(r.k.cd==1||false)=true:=hk;rw[Bool.or_false] at e;rw[e];rfl)) with|mk g1 h=>
 cases s51_dst hz (z:=z) (d:=d) h hQ hB hk hT with|mk g2 G=>
 exact ExG.out (.mk (x_end (x_iF (t_not (g1 rfl))<|x_tail rfl rfl g2) fin_stop) (fin_cr▸G.o))
theorem s53(hk:kin r.k [1,12]=false)(S:Stt z bf 11 55 [.self] sts mks (r::F) E):Stt z bf 12 53 [.self] sts mks (r::F) E:=.mk fun{n s q d}h hQ hB=>by
 cases ask (z:=z) (q:=q) (d:=d+2) hz h hB.lt (v_d4.trans hk) with|mk g1 h=>
 cases S.go (d:=d) h hQ hB with|mk g2 G=>
 exact ExG.out (.mk (x_end (x_iF (g1 rfl)<|x_tail rfl rfl g2) fin_stop) (fin_cr▸G.o))
theorem rd_all{op:Bool}(hS:Sc bf n s (⟨.sst,0,0,0⟩::((if op=true then [⟨.dst,0,0,0⟩] else [])++r::F)))(hQ:PQ0 q [] 0)(hst:q.st= .meth 49)(hF:F.length<770)(hr:kin r.k [1,12]=false)(S:Stt z bf 11 55 [.self] [52] 0 (r::F) E)(hE:E.length+2<SZ):
  ROut z (d+16) tx ⟨[tx,.self,.list [],.absent],enc bf s q⟩ (tStream::tDoc op::E):=by
 have hl:((if op=true then [(⟨.dst,0,0,0⟩:Row)] else [])++r::F).length<790:=by cases op<;>exact Nat.lt_trans (Nat.succ_lt_succ (Nat.succ_lt_succ hF)) (by decide)|>Nat.lt_of_le_of_lt (by first|exact Nat.le_refl _|exact Nat.le_succ _)
 cases tak (z:=z) (q:=q) (d:=d+5) hz hS hl with|@mk _ s2 b u v g h=>
 have hr1:run (TT z) (d+15) 49 [.self] (enc bf s q) (.ret (.inst 501 [(94,mk b u),(99,mk b v),(8,.none)]) (enc bf s2 (q.w (.meth 50))) [.self]):=
  run_to<|x_cons (x_a1 g rfl)<|x_cons (x_a2 (e_new z.recs rfl) rfl)<|x_cons (st_state hQ.st)<|x_qs rfl
 have hc:(q.w (.meth 50)).cur= .none:=hQ.cur;have hQ2:PQ0 (q.w (.meth 50)) [] 0:=⟨hQ.cur,hQ.sts,hQ.mks,hQ.mnl,rfl,hQ.tg,hQ.vr⟩;cases told_stream (z:=z) (a:=mk b u) (b:=mk b v) (v:=.none) with|mk tn tr=>
 refine ROut.turn (peek_ev hQ.cur hst rfl (by decide) hr1 hc) rfl rfl get_ev (tr _ _) tn (by decide) ?_;rw[cur_eq hc];have hB:Bd (r::F) [52] 0:=Nat.lt_trans (Nat.succ_lt_succ (Nat.succ_lt_succ hF)) (by decide);have hG:[tStream].length+(tDoc op::E).length<SZ:=(Nat.add_comm (E.length+1) 1)▸hE;cases op with
 |false=>exact(s50_impl hz (z:=z) (d:=d+3) h hQ2 hB hr (Tell.of rfl (by decide) fun{n s q d}a b c=>S.go (d:=d+4) a b c)).turn (G:=[tStream]) hc rfl rfl (by decide) hG
 |true=>exact(s50_dst hz (z:=z) (d:=d+2) h hQ2 hB rfl (Tell.st (s53 hz hr S))).turn (G:=[tStream]) hc rfl rfl (by decide) hG
end
end Mine.Internal
end
section
open PySem PySem.W
namespace Mine.Internal
variable{z:Zk} {d n np k m:Nat} {P:Pt} {r:Row} {F F2:List Row} {l rows out E xs:List V} {a t:Option Nat} {lo fr:Bool} {res:Option (List Row)} {v:V} {w:List Nat} {b:Bool}
noncomputable def kname:Kd→List Nat
 | .sst=>[1]
 | .dst=>[2]
 | .dash=>[45]
 | .q=>[63]
 | .colon=>[58]
 | .seq=>[115,101,113]
 | .map=>[109,97,112]
 | .fin=>[101,110,100]
 | .s=>[115]
 | .b=>[98]
 | .amp=>[38]
 | .bang=>[33]
 | .stop=>[115,116,111,112]
section
variable{k:Kd}
theorem n_dash:decide (kname k=[45])=kin k [2]:=by cases k<;>rfl
theorem n_q:decide (kname k=[63])=kin k [3]:=by cases k<;>rfl
theorem n_colon:decide (kname k=[58])=kin k [4]:=by cases k<;>rfl
theorem n_seq:decide (kname k=[115,101,113])=kin k [5]:=by cases k<;>rfl
theorem n_map:decide (kname k=[109,97,112])=kin k [6]:=by cases k<;>rfl
theorem n_fin:decide (kname k=[101,110,100])=kin k [7]:=by cases k<;>rfl
theorem n_s:decide (kname k=[115])=kin k [8]:=by cases k<;>rfl
theorem n_b:decide (kname k=[98])=kin k [9]:=by cases k<;>rfl
theorem n_amp:decide (kname k=[38])=kin k [10]:=by cases k<;>rfl
theorem n_bang:decide (kname k=[33])=kin k [11]:=by cases k<;>rfl
theorem n_stop:decide (kname k=[115,116,111,112])=kin k [12]:=by cases k<;>rfl
end
inductive RowV (r:Row):V→Prop
 |mk {t:List Nat}:(kin r.k [8,9,10,11]=true→t=[r.c])→RowV r (.tup [.str (kname r.k),.int r.ln,.int r.cl,.str t])
inductive RowsV:List Row→List V→Prop
 |nil:RowsV [] []
 |cons {r:Row} {v:V} {F:List Row} {vs:List V}:RowV r v→RowsV F vs→RowsV (r::F) (v::vs)
noncomputable def RwA(rows:List V)(k:Nat)(F:List Row):Prop:=RowsV F (rows.drop k)
inductive RwG (rows:List V) (k:Nat) (r:Row) (F:List Row):Prop
 |mk {t:List Nat}:(kin r.k [8,9,10,11]=true→t=[r.c])→subV (.list rows) (.int k)=some (.tup [.str (kname r.k),.int r.ln,.int r.cl,.str t])→RwA rows (k+1) F→RwG rows k r F
theorem sub_lst(h:l[n]? =some v):subV (.list l) (.int n)=some v:=by
 show((seqIndex? n l.length).bind fun k=>l[k]?)=_;rw[seq_nat (List.getElem?_eq_some_iff.mp h).1];exact h
theorem RwA.get(h:RwA rows k (r::F)):RwG rows k r F:=by
 unfold RwA at h;have e0:(rows.drop k)[0]? =rows[k]? :=List.getElem?_drop;have e1:(rows.drop k).drop 1=rows.drop (k+1):=List.drop_drop;revert e0 e1 h;generalize rows.drop k=vs;intro h e0 e1;cases h with
 |cons h h2=>cases h with
  |mk ht=>exact .mk ht (sub_lst e0.symm) (show RowsV _ _ from e1▸h2)
section
variable{T:Tb} {kv:V}
theorem p_row(h:RwA rows k (r::F)){i:Nat}{u:V}(hi:∀t,subV (.tup [.str (kname r.k),.int r.ln,.int r.cl,.str t]) (.int i)=some u):pe T ⟨.list rows::.int k::l,P⟩ (.sub (.sub (.loc 0) (.loc 1)) (.cI i))=some u:=by
 cases h.get with|mk _ h2 _=>exact(congrArg (fun o:Option V=>o.bind fun x=>op2V .sub x (.int i)) h2).trans (hi _)
theorem p_row0(h:RwA rows k (r::F)):pe T ⟨.list rows::.int k::l,P⟩ (.sub (.sub (.loc 0) (.loc 1)) (.cI 0))=some (.str (kname r.k)):=p_row h (i:=0) fun y0_=>rfl
theorem p_row3(h:RwA rows k (r::F))(hk:kin r.k [8,9,10,11]=true):pe T ⟨.list rows::.int k::l,P⟩ (.sub (.sub (.loc 0) (.loc 1)) (.cI 3))=some (.str [r.c]):=by
 cases h.get with|mk ht h2 _=>exact ht hk▸(congrArg (fun o:Option V=>o.bind fun x=>op2V .sub x (.int 3)) h2)
theorem t_row(h:RwA rows k (r::F))(hb:decide (kname r.k=w)=b):pt T ⟨.list rows::.int k::l,P⟩ (.cmp .eq (.sub (.sub (.loc 0) (.loc 1)) (.cI 0)) (.cS w))=some b:=(congrArg (fun o:Option V=>o.bind fun x=>cmpV .eq x (.str w)) (p_row0 h)).trans (congrArg some hb)
theorem t_rowN(h:RwA rows k (r::F))(hb:decide (kname r.k=w)=b):pt T ⟨.list rows::.int k::l,P⟩ (.cmp .ne (.sub (.sub (.loc 0) (.loc 1)) (.cI 0)) (.cS w))=some (!b):=(congrArg (fun o:Option V=>o.bind fun x=>cmpV .ne x (.str w)) (p_row0 h)).trans (congrArg (fun b=>some !b) hb)
end
theorem empty_law(ho:out.length<SZ):run (TT z) (d+1) 68 [.list out] P (.ret .none P [.list (out++[tEmpty])]):=
 run_to<|x_cons (x_expr (e_app (.loc rfl) (e_tup (a_cons (e_p rfl) rfl<|a_cons (e_p rfl) rfl<|a_cons (e_p rfl) rfl<|a_cons (e_tupP rfl rfl) rfl<|a_cons (e_p rfl) rfl<|a_cons (e_p rfl) rfl a_nil) rfl (by decide)) (.loc rfl) rfl ho)) x_nil
theorem refused_law(h:RwA rows k (r::F))(ho:out.length<SZ):run (TT z) (d+1) 69 [.list rows,.int k,.list out] P (.ret (.int (-1)) P [.list rows,.int k,.list (out++[tRef r])]):=
 run_to<|x_cons (x_expr (e_app (.loc rfl) (e_tupP (pes_c rfl rfl<|pes_c (p_row h (i:=1) fun y0_=>rfl) rfl<|pes_c (p_row h (i:=2) fun y0_=>rfl) rfl rfl) rfl) (.loc rfl) rfl ho))<|x_qs rfl
end Mine.Internal
end
section
open PySem PySem.W
namespace Mine.Internal
variable{z:Zk} {d n np k m:Nat} {P:Pt} {r:Row} {F F2:List Row} {l rows out E xs:List V} {a t:Option Nat} {lo fr:Bool} {res:Option (List Row)} {v:V} {w:List Nat} {b:Bool}
theorem pt_and2{T:Tb}{σ:St}{e1 e2:Mine.Internal.E}{b1 b2:Bool}(h1:pt T σ e1=some b1)(h2:pt T σ e2=some b2):pt T σ (.and [e1,e2])=some (b1&&b2):=by
 show((pt T σ e1).bind fun b=>if b then((pt T σ e2).bind fun b=>if b then some true else some false) else some false)=_;rw[h1,h2];cases b1<;>cases b2<;>rfl
theorem pt_or2{T:Tb}{σ:St}{e1 e2:Mine.Internal.E}{b1 b2:Bool}(h1:pt T σ e1=some b1)(h2:pt T σ e2=some b2):pt T σ (.or [e1,e2])=some (b1||b2):=by
 show((pt T σ e1).bind fun b=>if b then some true else((pt T σ e2).bind fun b=>if b then some true else some false))=_;rw[h1,h2];cases b1<;>cases b2<;>rfl
inductive KRes (rows:List V):V→Option (List Row)→Prop
 |some {m:Nat} {F:List Row}:RwA rows m F→KRes rows (.int m) (some F)
 |none:KRes rows (.int (-1)) none
inductive LwR (z:Zk) (d f:Nat) (post:List V) (P:Pt) (rows:List V) (k:Nat) (out E:List V) (res:Option (List Row)):Prop
 |mk {kv kk:V}:run (TT z) d f (.list rows::.int k::.list out::post) P (.ret kv P (.list rows::kk::.list (out++E)::post))→KRes rows kv res→LwR z d f post P rows k out E res
inductive LwX (z:Zk) (d np:Nat) (code:List S) (σ:St) (post:List V) (P:Pt) (rows out E:List V) (res:Option (List Row)):Prop
 |mk {kv kk:V} {l:List V}:exs (TT z) d np code σ (.ok (.ret kv) ⟨.list rows::kk::.list (out++E)::(post++l),P⟩)→KRes rows kv res→LwX z d np code σ post P rows out E res
noncomputable abbrev n8(rows:List V)(k:Nat)(out:List V)(lo:Bool)(a t:Option Nat)(x:V):List V:=[.list rows,.int k,.list out,.bool lo,oA a,oT t,x,.absent]
theorem i_A{x:V}:pt (TT z) ⟨n8 rows k out lo a t x,P⟩ (.cmp .is (.loc 4) .cN)=some a.isNone:=by cases a<;>rfl
theorem i_T{x:V}:pt (TT z) ⟨n8 rows k out lo a t x,P⟩ (.cmp .is (.loc 5) .cN)=some t.isNone:=by cases t<;>rfl
noncomputable def propT:Mine.Internal.E:=match f_law_node.code.drop 2 with| .whl t _::_=>t|_=>.cN
noncomputable def propB:List S:=loopB f_law_node.code
theorem prop_t{x:V}(h:RwA rows k (r::F)):pt (TT z) ⟨n8 rows k out lo a t x,P⟩ propT=some ((kin r.k [10]&&a.isNone)||(kin r.k [11]&&t.isNone)):=
 pt_or2 (pt_and2 (t_row h n_amp) i_A) (pt_and2 (t_row h n_bang) i_T)
theorem RwA.nx(h:RwA rows k (r::F)):RwA rows (k+1) F:=h.get.casesOn fun y0_ y1_ h=>h
theorem kin_up{k:Kd}{L M:List Nat}(h:kin k L=true)(s:L.all (M.contains ·)=true):kin k M=true:=List.all_eq_true.mp s _ (List.contains_iff_mem.mp h)
theorem prop_amp{y:R Fl}(h:RwA rows k (r::F))(hk:kin r.k [10]=true)(g:wl (TT z) d 4 propT propB ⟨n8 rows (k+1) out lo (some r.c) t .absent,P⟩ y):wl (TT z) d 4 propT propB ⟨n8 rows k out lo none t .absent,P⟩ y:=
 w_go (t_p ((prop_t h).trans (by rw[hk];rfl))) (x_cons (x_iT (t_p (t_row h (n_amp.trans hk)))<|x_cons (x_a4 (e_p (pv_of (p_row3 h (kin_up hk rfl)) rfl)) rfl) x_nil)<|x_cons (x_q rfl) x_nil) g
theorem prop_bang{y:R Fl}(h:RwA rows k (r::F))(hk:kin r.k [11]=true)(g:wl (TT z) d 4 propT propB ⟨n8 rows (k+1) out lo a (some r.c) .absent,P⟩ y):wl (TT z) d 4 propT propB ⟨n8 rows k out lo a none .absent,P⟩ y:=
 w_go (t_p ((prop_t h).trans (by rw[hk,kin_ne hk rfl];rfl))) (x_cons (x_iF (t_p (t_row h (n_amp.trans (kin_ne hk rfl))))<|x_cons (x_a5 (e_bin (u:=.str [33]) (e_p rfl) (e_p (pv_of (p_row3 h (kin_up hk rfl)) rfl)) rfl rfl) rfl) x_nil)<|x_cons (x_q rfl) x_nil) g
theorem prop_stop(h:RwA rows k (r::F))(hk:((kin r.k [10]&&a.isNone)||(kin r.k [11]&&t.isNone))=false):wl (TT z) d 4 propT propB ⟨n8 rows k out lo a t .absent,P⟩ (.ok .next ⟨n8 rows k out lo a t .absent,P⟩):=w_stop (t_p ((prop_t h).trans (congrArg some hk)))
inductive NdS (z:Zk) (d:Nat) (P:Pt) (rows:List V) (k:Nat) (out:List V) (lo:Bool) (a t:Option Nat) (F:List Row):Prop
 |mk {k':Nat}:wl (TT z) d 4 propT propB ⟨n8 rows k out lo none none .absent,P⟩ (.ok .next ⟨n8 rows k' out lo a t .absent,P⟩)→RwA rows k' F→NdS z d P rows k out lo a t F
theorem node_start(hp:PropsV F a t r F2)(h:RwA rows k F):NdS z d P rows k out lo a t (r::F2):=by
 cases hp with
 |no h1 h2=>exact .mk (prop_stop h (by rw[h1,h2];rfl)) h
 |a h1 h2=>exact .mk (prop_amp h h1 (prop_stop h.nx (by rw[h2,Option.isNone_some,Bool.and_false];rfl))) h.nx
 |t h1 h2=>exact .mk (prop_bang h h1 (prop_stop h.nx (by rw[h2,Option.isNone_some,Bool.and_false];rfl))) h.nx
 |both h1 h2=>exact .mk (prop_amp h h1 (prop_bang h.nx h2 (prop_stop h.nx.nx (by rw[Option.isNone_some,Bool.and_false,Option.isNone_some,Bool.and_false];rfl)))) h.nx.nx
 |ta h1 h2=>exact .mk (prop_bang h h1 (prop_amp h.nx h2 (prop_stop h.nx.nx (by rw[Option.isNone_some,Bool.and_false,Option.isNone_some,Bool.and_false];rfl)))) h.nx.nx
noncomputable def sv2:V:=.list [.str [45],.str [101,110,100]]
noncomputable def sv4:V:=.list [.str [45],.str [63],.str [58],.str [101,110,100]]
noncomputable def sv3:V:=.slist [.str [63],.str [58],.str [101,110,100]]
noncomputable def svOf(framed:Bool):V:=if framed=true then sv2 else sv4
inductive SvOk:V→List Nat→Prop
 |s2:SvOk sv2 [2,7]
 |s4:SvOk sv4 [2,3,4,7]
 |s3:SvOk sv3 [3,4,7]
theorem sv_in{sv:V}{st:List Nat}{k:Kd}(h:SvOk sv st):memV (.str (kname k)) sv=some (kin k st):=by cases h<;>cases k<;>rfl
theorem svOf_ok:SvOk (svOf fr) (stopsOf fr):=by cases fr<;>first|exact .s2|exact .s4
noncomputable abbrev nodB:List S:=f_law_node.code.drop 4
theorem LwX.run{f:Nat}{post:List V}(h:LwX z d ((TT z).fn f).np ((TT z).fn f).code ⟨locOf (TT z) f (.list rows::.int k::.list out::post),P⟩ post P rows out E res)(hn:((TT z).fn f).np=(post.length+3):=by rfl)
  (hc:∀{ns sc body},fitB (TT z) ns sc ((TT z).fn f).code body=fitSs (TT z) ns sc ((TT z).fn f).code body:=by exact rfl):LwR z (d+1) f post P rows k out E res:=by
 cases h with|@mk kv kk l g hk=>exact .mk (run_to g (by
  show CR.ret kv P (List.take ((TT z).fn f).np (V.list rows::kk::V.list (out++E)::(post++l)))=_;rw[hn];exact congrArg (fun x=>CR.ret kv P (V.list rows::kk::V.list (out++E)::x)) List.take_left) (by rw[hn];rfl) hc) hk
theorem e_row{r:Row}{w:List Nat}{bo:Bool}{P:Pt}(h:decide (kname r.k=w)=bo):pt (TT z) ⟨n8 rows k out lo a t (.str (kname r.k)),P⟩ (.cmp .eq (.loc 6) (.cS w))=some bo:=congrArg some h
section
variable{x:V}
theorem p_A:pe (TT z) ⟨n8 rows k out lo a t x,P⟩ (.loc 4)=some (oA a):=by cases a<;>rfl
theorem p_T:pe (TT z) ⟨n8 rows k out lo a t x,P⟩ (.loc 5)=some (oT t):=by cases t<;>rfl
theorem p_iT:pe (TT z) ⟨n8 rows k out lo a t x,P⟩ (.cmp .is (.loc 5) .cN)=some (.bool t.isNone):=by cases t<;>rfl
theorem row_tup{c:Cst}(hc:c.v.nl=true):ev (TT z) d (.tup [.cS w,.loc 4,.loc 5,.cmp .is (.loc 5) .cN,.cst c]) ⟨n8 rows k out lo a t x,P⟩ (.ok (.tup [.str w,oA a,oT t,.bool t.isNone,c.v]) ⟨n8 rows k out lo a t x,P⟩):=
 e_tupA (pes_c rfl rfl<|pes_c p_A (oA_nl a)<|pes_c p_T (oT_nl t)<|pes_c p_iT rfl<|pes_c rfl hc rfl) (all_c rfl<|all_c (oA_nl a)<|all_c (oT_nl t)<|all_c rfl<|all_c hc rfl) rfl
end
theorem nb_dash(hr:kin r.k [2]=true)(ho:out.length<SZ)(hE:LwR z d 72 [sv4,.bool false] P rows k (out++[tRow (oA a) (oT t) t.isNone .none]) E res):LwX z d 4 nodB ⟨n8 rows k out true a t (.str (kname r.k)),P⟩ [.bool true] P rows out (tRow (oA a) (oT t) t.isNone .none::E) res:=by
 cases hE with|mk g hk=>
 rw[List.append_assoc] at g;exact .mk (x_end (x_iT (t_p (pt_and2 (e_row (n_dash.trans hr)) rfl))<|x_cons (x_expr (e_app (.loc rfl) (row_tup rfl) (.loc rfl) rfl ho))<|
  x_end<|x_ret (x_fcal (a_ml rfl rfl<|a_cons (e_p rfl) rfl<|a_ml rfl rfl<|a_cons (e_lst (a_ps rfl) rfl (by decide)) rfl<|a_cons (e_p rfl) rfl a_nil) rfl g rfl) rfl)) hk
theorem nb_seq(hd:(kin r.k [2]&&lo)=false)(hr:kin r.k [5]=true)(ho:out.length<SZ)(hE:LwR z d 72 [sv2,.bool true] P rows (k+1) (out++[tRow (oA a) (oT t) t.isNone (.bool false)]) E res):LwX z d 4 nodB ⟨n8 rows k out lo a t (.str (kname r.k)),P⟩ [.bool lo] P rows out (tRow (oA a) (oT t) t.isNone (.bool false)::E) res:=by
 cases hE with|mk g hk=>
 rw[List.append_assoc] at g;exact .mk (x_cons (x_iF (t_p ((pt_and2 (e_row n_dash) rfl).trans (congrArg some hd))) x_nil)<|x_cons (x_iF (t_p (pt_or2 (e_row (n_s.trans (kin_ne hr rfl))) (e_row (n_b.trans (kin_ne hr rfl))))) x_nil)<|x_end (x_iT (t_p (e_row (n_seq.trans hr)))<|x_cons (x_expr (e_app (.loc rfl) (row_tup rfl) (.loc rfl) rfl ho))<|
  x_end<|x_ret (x_fcal (a_ml rfl rfl<|a_cons (e_p rfl) rfl<|a_ml rfl rfl<|a_cons (e_lst (a_ps rfl) rfl (by decide)) rfl<|a_cons (e_p rfl) rfl a_nil) rfl g rfl) rfl)) hk
theorem nb_map(hd:(kin r.k [2]&&lo)=false)(hr:kin r.k [6]=true)(ho:out.length<SZ)(hE:LwR z d 73 [] P rows (k+1) (out++[tMap (oA a) (oT t) t.isNone (.bool false)]) E res):LwX z d 4 nodB ⟨n8 rows k out lo a t (.str (kname r.k)),P⟩ [.bool lo] P rows out (tMap (oA a) (oT t) t.isNone (.bool false)::E) res:=by
 cases hE with|mk g hk=>
 rw[List.append_assoc] at g;exact .mk (x_cons (x_iF (t_p ((pt_and2 (e_row n_dash) rfl).trans (congrArg some hd))) x_nil)<|x_cons (x_iF (t_p (pt_or2 (e_row (n_s.trans (kin_ne hr rfl))) (e_row (n_b.trans (kin_ne hr rfl))))) x_nil)<|x_cons (x_iF (t_p (e_row (n_seq.trans (kin_ne hr rfl)))) x_nil)<|x_end (x_iT (t_p (e_row (n_map.trans hr)))<|x_cons (x_expr (e_app (.loc rfl) (row_tup rfl) (.loc rfl) rfl ho))<|
  x_end<|x_ret (x_fcal (a_ml rfl rfl<|a_cons (e_p rfl) rfl<|a_ml rfl rfl a_nil) rfl g rfl) rfl)) hk
theorem or_scal{k:Kd}(h:kin k [8,9]=true):(kin k [8]||kin k [9])=true:=kd_scal (C:=fun k=>(kin k [8]||kin k [9])=true) h rfl rfl
theorem nb_scal(h:RwA rows k (r::F2))(hr:kin r.k [8,9]=true)(ho:out.length<SZ):LwX z d 4 nodB ⟨n8 rows k out lo a t (.str (kname r.k)),P⟩ [.bool lo] P rows out [tScal a t r.k r.c] (some F2):=by
 have hi:ev (TT z) d (.ite (.cmp .is (.loc 5) .cN) (.tup [(.cmp .eq (.loc 6) (.cS [98])),(.cmp .eq (.loc 6) (.cS [115]))]) (.tup [(.cB false),(.cB false)])) ⟨n8 rows k out lo a t (.str (kname r.k)),P⟩ (.ok (.tup [.bool (t.isNone&&kin r.k [9]),.bool (t.isNone&&kin r.k [8])]) ⟨n8 rows k out lo a t (.str (kname r.k)),P⟩):=
  e_ite (t_p i_T) (by
   cases t with
   |some=>exact e_tupP rfl rfl
   |none=>exact e_tupP (pes_c (congrArg (some∘V.bool) n_b) rfl<|pes_c (congrArg (some∘V.bool) n_s) rfl rfl) rfl)
 have hs:pe (TT z) ⟨[.list rows,.int k,.list out,.bool lo,oA a,oT t,.str (kname r.k),.tup [.bool (t.isNone&&kin r.k [9]),.bool (t.isNone&&kin r.k [8])]],P⟩ (.ite (.cmp .eq (.loc 6) (.cS [115])) (.cS [39]) .cN)=some (styS r.k):=by
  show((some (decide (kname r.k=[115]))).bind fun c=>if c=true then some (V.str [39]) else some V.none)=_;rw[n_s];exact kd_scal (C:=fun k=>((some (kin k [8])).bind fun c=>if c=true then some (V.str [39]) else some V.none)=some (styS k)) hr rfl rfl
 have hn:(styS r.k).nl=true:=kd_scal (C:=fun k=>(styS k).nl=true) hr rfl rfl;have hv:ev (TT z) d (.tup [.cS [118,97,108,117,101],.loc 4,.loc 5,.loc 7,.sub (.sub (.loc 0) (.loc 1)) (.cI 3),.ite (.cmp .eq (.loc 6) (.cS [115])) (.cS [39]) .cN]) ⟨[.list rows,.int k,.list out,.bool lo,oA a,oT t,.str (kname r.k),.tup [.bool (t.isNone&&kin r.k [9]),.bool (t.isNone&&kin r.k [8])]],P⟩ (.ok (tScal a t r.k r.c) ⟨[.list rows,.int k,.list out,.bool lo,oA a,oT t,.str (kname r.k),.tup [.bool (t.isNone&&kin r.k [9]),.bool (t.isNone&&kin r.k [8])]],P⟩):=
  e_tupA (pes_c rfl rfl<|pes_c (by cases a<;>rfl) (oA_nl a)<|pes_c (by cases t<;>rfl) (oT_nl t)<|pes_c rfl rfl<|pes_c (p_row3 h (kin_up hr rfl)) rfl<|pes_c hs hn rfl) (all_c rfl<|all_c (oA_nl a)<|all_c (oT_nl t)<|all_c rfl<|all_c rfl<|all_c hn rfl) rfl
 exact .mk (l:=[oA a,oT t,.str (kname r.k),_]) (x_cons (x_iF (t_p ((pt_and2 (e_row n_dash) rfl).trans (by rw[kin_ne hr rfl];rfl))) x_nil)<|x_end (x_iT (t_p ((pt_or2 (e_row n_s) (e_row n_b)).trans (congrArg some (or_scal hr))))<|x_cons (x_a7 hi rfl)<|x_cons (x_expr (e_app (.loc rfl) hv (.loc rfl) rfl ho))<|x_qs rfl)) (.some h.nx)
end Mine.Internal
end
section
open PySem PySem.W
namespace Mine.Internal
variable{z:Zk} {d n np k m:Nat} {P:Pt} {r r2:Row} {F F2:List Row} {l rows out E E2 xs post:List V} {a t:Option Nat} {lo fr:Bool} {res:Option (List Row)} {v sv:V} {w st:List Nat} {b:Bool}
theorem nb_pre{y:R Fl}(hk:kin r.k (nodeK lo)=false)(g:exs (TT z) d 4 (nodB.drop 4) ⟨n8 rows k out lo a t (.str (kname r.k)),P⟩ y):exs (TT z) d 4 nodB ⟨n8 rows k out lo a t (.str (kname r.k)),P⟩ y:=
 have q:=nodeK_dash hk
 x_cons (x_iF (t_p ((pt_and2 (e_row n_dash) rfl).trans (congrArg some ((Bool.and_comm _ _).trans q.1)))) x_nil)<|x_cons (x_iF (t_p (pt_or2 (e_row (n_s.trans (kin_sub q.2 rfl))) (e_row (n_b.trans (kin_sub q.2 rfl))))) x_nil)<|x_cons (x_iF (t_p (e_row (n_seq.trans (kin_sub q.2 rfl)))) x_nil)<|x_cons (x_iF (t_p (e_row (n_map.trans (kin_sub q.2 rfl)))) x_nil) g
theorem nb_bad(h:RwA rows k (r::F2))(hk:kin r.k (nodeK lo)=false)(ho:out.length<SZ):LwX z (d+1) 4 nodB ⟨n8 rows k out lo none none (.str (kname r.k)),P⟩ [.bool lo] P rows out [tRef r] none:=
 .mk (l:=[.none,.none,.str (kname r.k),.absent]) (nb_pre hk<|x_end<|x_iT (t_p rfl)<|x_end<|x_ret (x_fcal (a_ml rfl rfl<|a_cons (e_p rfl) rfl<|a_ml rfl rfl a_nil) rfl (refused_law h ho) rfl) rfl) .none
theorem nb_bare(h:RwA rows k (r::F2))(hk:kin r.k (nodeK lo)=false)(hat:(a.isNone&&t.isNone)=false)(ho:out.length<SZ):LwX z d 4 nodB ⟨n8 rows k out lo a t (.str (kname r.k)),P⟩ [.bool lo] P rows out [tEmptyP a t] (some (r::F2)):=
 .mk (l:=[oA a,oT t,.str (kname r.k),.absent]) (nb_pre hk<|x_cons (x_iF (t_p ((pt_and2 i_A i_T).trans (congrArg some hat))) x_nil)<|x_cons (x_expr (e_app (.loc rfl) (e_tup (a_cons (e_p rfl) rfl<|a_cons (e_p (pv_of p_A (oA_nl a))) (by rw[oA_nl];rfl)<|a_cons (e_p (pv_of p_T (oT_nl t))) (by rw[oT_nl];rfl)<|a_cons (e_tupP (pes_c p_iT rfl<|pes_c rfl rfl rfl) rfl) rfl<|a_cons (e_p rfl) rfl<|a_cons (e_p rfl) rfl a_nil)
  (all_c rfl<|all_c (oA_nl a)<|all_c (oT_nl t) rfl) (by show 6≤SZ;decide)) (.loc rfl) rfl ho))<|x_qs rfl) (.some h)
theorem node_go(hp:PropsV F a t r F2)(h:RwA rows k F)(hX:∀{k'},RwA rows k' (r::F2)→LwX z d 4 nodB ⟨n8 rows k' out lo a t (.str (kname r.k)),P⟩ [.bool lo] P rows out E res):LwR z (d+1) 70 [.bool lo] P rows k out E res:=by
 cases node_start (z:=z) (d:=d) (P:=P) (out:=out) (lo:=lo) hp h with|mk g h2=>
 cases hX h2 with|mk g2 hk=>
 exact LwX.run (.mk (x_cons (x_a4 (e_p rfl) rfl)<|x_cons (x_a5 (e_p rfl) rfl)<|x_cons (x_whl g)<|x_cons (x_a6 (e_p (pv_of (p_row0 h2) rfl)) rfl) g2) hk)
theorem t_left(h:RwA rows k (r::F))(hs:SvOk sv st){P:Pt}{l:List V}:pt (TT z) ⟨.list rows::.int k::.list out::sv::l,P⟩ (.cmp .isin (.sub (.sub (.loc 0) (.loc 1)) (.cI 0)) (.loc 3))=some (kin r.k st):=by
 refine(congrArg (fun o:Option V=>o.bind fun x=>(pe (TT z) ⟨.list rows::.int k::.list out::sv::l,P⟩ (.loc 3)).bind fun y=>cmpV .isin x y) (p_row0 h)).trans ?_;cases hs with
 |s2=>exact sv_in .s2
 |s4=>exact sv_in .s4
 |s3=>exact sv_in .s3
theorem left_stop(h:RwA rows k (r::F))(hs:SvOk sv st)(hk:kin r.k st=true)(ho:out.length<SZ):LwR z (d+2) 71 [sv,.bool lo] P rows k out [tEmpty] (some (r::F)):=
 LwX.run (.mk (l:=[]) (x_end<|x_iT (t_p ((t_left h hs).trans (congrArg some hk)))<|x_cons (x_expr (x_fcal (a_ml rfl rfl a_nil) rfl (empty_law ho) rfl))<|x_qs rfl) (.some h))
theorem left_node(h:RwA rows k (r::F))(hs:SvOk sv st)(hk:kin r.k st=false)(g:LwR z d 70 [.bool lo] P rows k out E res):LwR z (d+1) 71 [sv,.bool lo] P rows k out E res:=by
 cases g with|mk g hr=>
 exact LwX.run (.mk (l:=[]) (x_cons (x_iF (t_p ((t_left h hs).trans (congrArg some hk))) x_nil)<|x_end<|x_ret (x_fcal (a_ml rfl rfl<|a_cons (e_p rfl) rfl<|a_ml rfl rfl<|a_cons (e_p rfl) rfl a_nil) rfl g rfl) rfl) hr)
inductive WR (z:Zk) (d np:Nat) (t:Mine.Internal.E) (b rest:List S) (σ:St) (y:R Fl):Prop
 |now:wl (TT z) d np t b σ y→y.stop=true→WR z d np t b rest σ y
 |on {σ1:St}:wl (TT z) d np t b σ (.ok .next σ1)→exs (TT z) d np rest σ1 y→WR z d np t b rest σ y
theorem WR.go{t:Mine.Internal.E}{b rest:List S}{σ σ1 σ2:St}{y:R Fl}(h:tr (TT z) d t σ (.ok true σ1))(h1:exs (TT z) d np b σ1 (.ok .next σ2))(k:WR z d np t b rest σ2 y):WR z d np t b rest σ y:=by
 cases k with
 |now g s=>exact .now (w_go h h1 g) s
 |on g s=>exact .on (w_go h h1 g) s
theorem WR.x{t:Mine.Internal.E}{b rest:List S}{σ:St}{y:R Fl}(k:WR z d np t b rest σ y):exs (TT z) d np (.whl t b::rest) σ y:=by
 cases k with
 |now g s=>exact x_end (x_whl g) s
 |on g s=>exact x_cons (x_whl g) s
inductive LwW (z:Zk) (d np:Nat) (t:Mine.Internal.E) (b rest:List S) (post:List V) (P:Pt) (rows:List V) (k:Nat) (out E:List V) (res:Option (List Row)):Prop
 |mk {kv kk:V}:WR z d np t b rest ⟨.list rows::.int k::.list out::post,P⟩ (.ok (.ret kv) ⟨.list rows::kk::.list (out++E)::post,P⟩)→KRes rows kv res→LwW z d np t b rest post P rows k out E res
theorem LwW.x{t:Mine.Internal.E}{b rest:List S}(h:LwW z d np t b rest post P rows k out E res):LwX z d np (.whl t b::rest) ⟨.list rows::.int k::.list out::post,P⟩ post P rows out E res:=by
 cases h with|mk g hk=>exact .mk (l:=[]) (by rw[List.append_nil];exact g.x) hk
theorem LwW.go{t:Mine.Internal.E}{b rest:List S}{σ1:St}(h:tr (TT z) d t ⟨.list rows::.int k::.list out::post,P⟩ (.ok true σ1))(h1:exs (TT z) d np b σ1 (.ok .next ⟨.list rows::.int m::.list (out++E)::post,P⟩))(g:LwW z d np t b rest post P rows m (out++E) E2 res):LwW z d np t b rest post P rows k out (E++E2) res:=by
 cases g with|mk g hk=>exact .mk (.go h h1 (List.append_assoc out E E2▸g)) hk
theorem t_lt0{l:List V}{x:V}:pt (TT z) ⟨x::.int m::l,P⟩ (.cmp .lt (.loc 1) (.cI 0))=some false:=congrArg some (decide_eq_false (Int.not_lt.mpr (Int.natCast_nonneg m)))
noncomputable abbrev etT:Mine.Internal.E:=.cmp .eq (.sub (.sub (.loc 0) (.loc 1)) (.cI 0)) (.cS [45])
noncomputable abbrev etB:List S:=loopB f_law_entries.code
noncomputable abbrev etR:List S:=f_law_entries.code.drop 1
noncomputable abbrev EntW(z:Zk)(d:Nat)(fr:Bool)(P:Pt)(rows:List V)(k:Nat)(out E:List V)(res:Option (List Row)):Prop:=LwW z d 5 etT etB etR [svOf fr,.bool fr] P rows k out E res
theorem ent_turn(h:RwA rows k (r::F))(hk:kin r.k [2]=true)(g:LwR z d 71 [svOf fr,.bool false] P rows (k+1) out E (some F2))(n:∀{m},RwA rows m F2→EntW z d fr P rows m (out++E) E2 res):EntW z d fr P rows k out (E++E2) res:=by
 cases g with|mk g hr=>
 cases hr with|@some m _ hm=>
 refine LwW.go (m:=m) (t_p (t_row h (n_dash.trans hk))) ?_ (n hm);cases fr<;>exact x_cons (x_a1 (x_fcal (a_ml rfl rfl<|a_cons (e_p rfl) rfl<|a_ml rfl rfl<|a_ml rfl rfl<|a_cons (e_p rfl) rfl a_nil) rfl g rfl) rfl)<|x_cons (x_iF (t_p t_lt0) x_nil) x_nil
theorem ent_fail(h:RwA rows k (r::F))(hk:kin r.k [2]=true)(g:LwR z d 71 [svOf fr,.bool false] P rows (k+1) out E none):EntW z d fr P rows k out E none:=by
 cases g with|mk g hr=>
 cases hr;refine .mk (kk:=.int (-1)) (.now (w_ret (t_p (t_row h (n_dash.trans hk))) ?_) rfl) .none;cases fr<;>exact x_cons (x_a1 (x_fcal (a_ml rfl rfl<|a_cons (e_p rfl) rfl<|a_ml rfl rfl<|a_ml rfl rfl<|a_cons (e_p rfl) rfl a_nil) rfl g rfl) rfl)<|x_end<|x_iT (t_p rfl) (x_qs rfl)
theorem ent_fin(h:RwA rows k (r::F))(hk:kin r.k [7]=true)(ho:out.length<SZ):EntW z d true P rows k out [tRowEnd] (some F):=
 .mk (.on (w_stop (t_p (t_row h (n_dash.trans (kin_ne hk rfl))))) (x_cons (x_iT (t_p rfl)<|x_cons (x_iF (t_p (t_rowN h (n_fin.trans hk))) x_nil)<|x_cons (x_q rfl) x_nil)<|x_cons (x_expr (e_app (.loc rfl) (e_tupP rfl rfl) (.loc rfl) rfl ho))<|x_qs rfl)) (.some h.nx)
theorem ent_bad(h:RwA rows k (r::F))(hk:kin r.k [2,7]=false)(ho:out.length<SZ):EntW z (d+1) true P rows k out [tRef r] none:=
 .mk (.on (w_stop (t_p (t_row h (n_dash.trans (kin_sub hk rfl))))) (x_end<|x_iT (t_p rfl)<|x_end<|x_iT (t_p (t_rowN h (n_fin.trans (kin_sub hk rfl))))<|x_end<|x_ret (x_fcal (a_ml rfl rfl<|a_cons (e_p rfl) rfl<|a_ml rfl rfl a_nil) rfl (refused_law h ho) rfl) rfl)) .none
theorem ent_off(h:RwA rows k (r::F))(hk:kin r.k [2]=false)(ho:out.length<SZ):EntW z d false P rows k out [tRowEnd] (some (r::F)):=
 .mk (.on (w_stop (t_p (t_row h (n_dash.trans hk)))) (x_cons (x_iF (t_p rfl) x_nil)<|x_cons (x_expr (e_app (.loc rfl) (e_tupP rfl rfl) (.loc rfl) rfl ho))<|x_qs rfl)) (.some h)
noncomputable abbrev prT:Mine.Internal.E:=.cmp .eq (.sub (.sub (.loc 0) (.loc 1)) (.cI 0)) (.cS [63])
noncomputable abbrev prB:List S:=loopB f_law_pairs.code
noncomputable abbrev prR:List S:=f_law_pairs.code.drop 1
noncomputable abbrev PrW(z:Zk)(d:Nat)(P:Pt)(rows:List V)(k:Nat)(out E:List V)(res:Option (List Row)):Prop:=LwW z d 3 prT prB prR [] P rows k out E res
inductive KeyR (z:Zk) (d:Nat) (P:Pt) (rows:List V) (k:Nat) (out E:List V) (F:List Row):Prop
 |mk {m:Nat}:(∀{y},exs (TT z) d 3 (prB.drop 1) ⟨[.list rows,.int m,.list (out++E)],P⟩ y→exs (TT z) d 3 prB ⟨[.list rows,.int k,.list out],P⟩ y)→RwA rows m F→KeyR z d P rows k out E F
theorem key_r(g:LwR z d 71 [sv3,.bool true] P rows (k+1) out E (some F2)):KeyR z d P rows k out E F2:=by
 cases g with|mk g hr=>
 cases hr with|@some m _ hm=>
 exact .mk (fun{y}h=>x_cons (x_a1 (x_fcal (a_ml rfl rfl<|a_cons (e_p rfl) rfl<|a_ml rfl rfl<|a_cons (e_p rfl) rfl<|a_cons (e_p rfl) rfl a_nil) rfl g rfl) rfl) h) hm
theorem pair_failK(h:RwA rows k (r::F))(hk:kin r.k [3]=true)(g:LwR z d 71 [sv3,.bool true] P rows (k+1) out E none):PrW z d P rows k out E none:=by
 cases g with|mk g hr=>
 cases hr;exact .mk (.now (w_ret (t_p (t_row h (n_q.trans hk))) (x_cons (x_a1 (x_fcal (a_ml rfl rfl<|a_cons (e_p rfl) rfl<|a_ml rfl rfl<|a_cons (e_p rfl) rfl<|a_cons (e_p rfl) rfl a_nil) rfl g rfl) rfl)<|x_end<|x_iT (t_p rfl) (x_qs rfl))) rfl) .none
theorem pair_bare(h:RwA rows k (r::F))(hk:kin r.k [3]=true)(g:LwR z (d+1) 71 [sv3,.bool true] P rows (k+1) out E (some (r2::F2)))(hk2:kin r2.k [4]=false)(ho:(out++E).length<SZ)(n:∀{m},RwA rows m (r2::F2)→PrW z (d+1) P rows m (out++(E++[tEmpty])) E2 res):PrW z (d+1) P rows k out (E++(tEmpty::E2)) res:=by
 cases key_r g with|mk g hm=>
 have he:=empty_law (z:=z) (d:=d) (P:=P) ho;rw[List.append_assoc] at he;have:=LwW.go (m:=_) (E:=E++[tEmpty]) (E2:=E2) (t_p (t_row (P:=P) (l:=[.list out]) h (n_q.trans hk))) (g (x_cons (x_iF (t_p t_lt0) x_nil)<|x_cons (x_iF (t_p (t_row hm (n_colon.trans hk2)))<|x_cons (x_expr (x_fcal (a_ml rfl rfl a_nil) rfl he rfl)) x_nil) x_nil)) (n hm);rw[List.append_assoc] at this;exact this
theorem pair_failV(h:RwA rows k (r::F))(hk:kin r.k [3]=true)(g:LwR z d 71 [sv3,.bool true] P rows (k+1) out E (some (r2::F2)))(hk2:kin r2.k [4]=true)(n:∀{m},RwA rows m F2→LwR z d 71 [sv3,.bool true] P rows m (out++E) E2 none):PrW z d P rows k out (E++E2) none:=by
 cases key_r g with|mk g hm=>
 cases n hm.nx with|mk g2 hr=>
 cases hr;rw[List.append_assoc] at g2;exact .mk (.now (w_ret (t_p (t_row h (n_q.trans hk))) (g (x_cons (x_iF (t_p t_lt0) x_nil)<|x_end<|x_iT (t_p (t_row hm (n_colon.trans hk2)))<|x_cons (x_a1 (x_fcal (a_ml rfl rfl<|a_cons (e_p rfl) rfl<|a_ml rfl rfl<|a_cons (e_p rfl) rfl<|a_cons (e_p rfl) rfl a_nil) rfl g2 rfl) rfl)<|x_end<|x_iT (t_p rfl) (x_qs rfl)))) rfl) .none
theorem pair_full{F3:List Row}{E3:List V}(h:RwA rows k (r::F))(hk:kin r.k [3]=true)(g:LwR z d 71 [sv3,.bool true] P rows (k+1) out E (some (r2::F2)))(hk2:kin r2.k [4]=true)(n:∀{m},RwA rows m F2→LwR z d 71 [sv3,.bool true] P rows m (out++E) E2 (some F3))(n2:∀{m},RwA rows m F3→PrW z d P rows m (out++(E++E2)) E3 res):PrW z d P rows k out (E++(E2++E3)) res:=by
 cases key_r g with|mk g hm=>
 cases n hm.nx with|mk g2 hr=>
 cases hr with|@some m2 _ hm2=>
 rw[List.append_assoc] at g2;have:=LwW.go (m:=m2) (E:=E++E2) (t_p (t_row (P:=P) (l:=[.list out]) h (n_q.trans hk))) (g (x_cons (x_iF (t_p t_lt0) x_nil)<|x_cons (x_iT (t_p (t_row hm (n_colon.trans hk2)))<|x_cons (x_a1 (x_fcal (a_ml rfl rfl<|a_cons (e_p rfl) rfl<|a_ml rfl rfl<|a_cons (e_p rfl) rfl<|a_cons (e_p rfl) rfl a_nil) rfl g2 rfl) rfl)<|x_cons (x_iF (t_p t_lt0) x_nil) x_nil) x_nil)) (n2 hm2);rw[List.append_assoc] at this;exact this
theorem pair_fin(h:RwA rows k (r::F))(hk:kin r.k [7]=true)(ho:out.length<SZ):PrW z d P rows k out [tMapEnd] (some F):=
 .mk (.on (w_stop (t_p (t_row h (n_q.trans (kin_ne hk rfl))))) (x_cons (x_iF (t_p (t_rowN h (n_fin.trans hk))) x_nil)<|x_cons (x_expr (e_app (.loc rfl) (e_tupP rfl rfl) (.loc rfl) rfl ho))<|x_qs rfl)) (.some h.nx)
theorem pair_bad(h:RwA rows k (r::F))(hk:kin r.k [3,7]=false)(ho:out.length<SZ):PrW z (d+1) P rows k out [tRef r] none:=
 .mk (.on (w_stop (t_p (t_row h (n_q.trans (kin_sub hk rfl))))) (x_end<|x_iT (t_p (t_rowN h (n_fin.trans (kin_sub hk rfl))))<|x_end<|x_ret (x_fcal (a_ml rfl rfl<|a_cons (e_p rfl) rfl<|a_ml rfl rfl a_nil) rfl (refused_law h ho) rfl) rfl)) .none
end Mine.Internal
end
section
open PySem PySem.W
namespace Mine.Internal
variable{z:Zk} {d n k:Nat} {P:Pt} {F:List Row} {rows out E E2:List V} {fr:Bool} {res:Option (List Row)}
noncomputable def Law(z:Zk)(N:Nat)(md:Md)(F:List Row)(E:List V)(res:Option (List Row)):Prop:=match md with
 | .node lo=>∀(d:Nat)(P:Pt)(rows out:List V)(k:Nat),RwA rows k F→out.length+E.length<SZ→LwR z (d+N) 70 [.bool lo] P rows k out E res
 | .left st lo=>∀(d:Nat)(P:Pt)(rows out:List V)(k:Nat)(sv:V),RwA rows k F→out.length+E.length<SZ→SvOk sv st→LwR z (d+N) 71 [sv,.bool lo] P rows k out E res
 | .ent fr=>∃n,N=n+1∧∀(d:Nat)(P:Pt)(rows out:List V)(k:Nat),RwA rows k F→out.length+E.length<SZ→EntW z (d+n) fr P rows k out E res
 | .pairs=>∃n,N=n+1∧∀(d:Nat)(P:Pt)(rows out:List V)(k:Nat),RwA rows k F→out.length+E.length<SZ→PrW z (d+n) P rows k out E res
theorem EntW.run(h:EntW z d fr P rows k out E res):LwR z (d+1) 72 [svOf fr,.bool fr] P rows k out E res:=LwX.run h.x
theorem PrW.run(h:PrW z d P rows k out E res):LwR z (d+1) 73 [] P rows k out E res:=LwX.run h.x
theorem ln_1{v:V}(h:out.length+(v::E).length<SZ):out.length<SZ:=Nat.lt_of_le_of_lt (Nat.le_add_right _ _) h
theorem ln_s{v:V}(h:out.length+(v::E).length<SZ):(out++[v]).length+E.length<SZ:=by
 rw[List.length_append,Nat.add_assoc];exact(Nat.add_comm E.length 1)▸h
theorem ln_l(h:out.length+(E++E2).length<SZ):out.length+E.length<SZ:=by rw[List.length_append] at h;exact Nat.lt_of_le_of_lt (Nat.add_le_add_left (Nat.le_add_right _ _) _) h
theorem ln_r(h:out.length+(E++E2).length<SZ):(out++E).length+E2.length<SZ:=by rw[List.length_append] at h⊢;rw[Nat.add_assoc];exact h
theorem law{N:Nat}{md:Md}(h:Rd N md F E res):Law z N md F E res:=by
 induction h with
 |dash hp hk h ih=>
  obtain⟨n,rfl,ih⟩:=ih;exact fun d P rows out k hR ho=>node_go (props_inv hp) hR fun h=>nb_dash hk (ln_1 ho) (EntW.run (fr:=false) (ih d P rows _ _ h (ln_s ho)))
 |scal hp hk=>exact fun d P rows out k hR ho=>node_go (props_inv hp) hR fun h=>nb_scal h hk (ln_1 ho)
 |seq hp hk h ih=>
  obtain⟨n,rfl,ih⟩:=ih;exact fun d P rows out k hR ho=>node_go (props_inv hp) hR fun h=>nb_seq (by rw[kin_ne hk rfl];rfl) hk (ln_1 ho) (EntW.run (fr:=true) (ih d P rows _ _ h.nx (ln_s ho)))
 |map hp hk h ih=>
  obtain⟨n,rfl,ih⟩:=ih;exact fun d P rows out k hR ho=>node_go (props_inv hp) hR fun h=>nb_map (by rw[kin_ne hk rfl];rfl) hk (ln_1 ho) (PrW.run (ih d P rows _ _ h.nx (ln_s ho)))
 |bad hp hk=>exact fun d P rows out k hR ho=>node_go (props_inv hp) hR fun h=>nb_bad h hk (ln_1 ho)
 |bare hp hk ha=>exact fun d P rows out k hR ho=>node_go (props_inv hp) hR fun h=>nb_bare h hk ha (ln_1 ho)
 |stop hk=>exact fun d P rows out k sv hR ho hs=>left_stop hR hs hk (ln_1 ho)
 |inner hk h ih=>exact fun d P rows out k sv hR ho hs=>left_node hR hs hk (ih d P rows out k hR ho)
 |turn hk h h2 ih ih2=>
  obtain⟨n,e,ih2⟩:=ih2;cases e;exact⟨_,rfl,fun d P rows out k hR ho=>ent_turn hR hk (ih d P rows out _ _ hR.nx (ln_l ho) svOf_ok) fun hm=>ih2 d P rows _ _ hm (ln_r ho)⟩
 |failE hk h ih=>exact⟨_,rfl,fun d P rows out k hR ho=>ent_fail hR hk (ih d P rows out _ _ hR.nx ho svOf_ok)⟩
 |finE hk=>exact⟨_,rfl,fun d P rows out k hR ho=>ent_fin hR hk (ln_1 ho)⟩
 |badE hk=>exact⟨_,rfl,fun d P rows out k hR ho=>ent_bad hR hk (ln_1 ho)⟩
 |off hk=>exact⟨_,rfl,fun d P rows out k hR ho=>ent_off hR hk (ln_1 ho)⟩
 |failK hk h ih=>exact⟨_,rfl,fun d P rows out k hR ho=>pair_failK hR hk (ih d P rows out _ _ hR.nx ho .s3)⟩
 |bareP hk h hk2 h2 ih ih2=>
  obtain⟨n,e,ih2⟩:=ih2;cases e;exact⟨_,rfl,fun d P rows out k hR ho=>by
   have l1:=ln_r ho;have l2:=ln_1 l1;have l3:=ln_s l1;rw[List.append_assoc] at l3;cases h with
   |inner=>exact pair_bare hR hk (ih d P rows out _ _ hR.nx (ln_l ho) .s3) hk2 l2 fun hm=>ih2 d P rows _ _ hm l3
   |stop=>exact pair_bare hR hk (ih d P rows out _ _ hR.nx (ln_l ho) .s3) hk2 l2 fun hm=>ih2 d P rows _ _ hm l3⟩
 |failV hk h hk2 h2 ih ih2=>exact⟨_,rfl,fun d P rows out k hR ho=>pair_failV hR hk (ih d P rows out _ _ hR.nx (ln_l ho) .s3) hk2 fun hm=>ih2 d P rows _ _ _ hm (ln_r ho) .s3⟩
 |full hk h hk2 h2 h3 ih ih2 ih3=>
  obtain⟨n,e,ih3⟩:=ih3;cases e;exact⟨_,rfl,fun d P rows out k hR ho=>by
   have l1:=ln_r ho;have l3:=ln_r l1;rw[List.append_assoc] at l3;exact pair_full hR hk (ih d P rows out _ _ hR.nx (ln_l ho) .s3) hk2 (fun hm=>ih2 d P rows _ _ _ hm (ln_l l1) .s3) fun hm=>ih3 d P rows _ _ hm l3⟩
 |finP hk=>exact⟨_,rfl,fun d P rows out k hR ho=>pair_fin hR hk (ln_1 ho)⟩
 |badP hk=>exact⟨_,rfl,fun d P rows out k hR ho=>pair_bad hR hk (ln_1 ho)⟩
end Mine.Internal
end
section
open PySem PySem.W PySem.Calls PyProof.Rows
namespace Mine.Internal
noncomputable section
variable{T:Tb} {d:Nat} {e t:E} {σ σ1 σ':St} {u w:V} {op:Co} {b:Bool}
theorem Tr.cmpR(h:Ev T d e σ (.ok u σ1))(n:u.nl=true)(h1:Ev T d t σ1 (.ok w σ'))(nw:∀us,w≠ .ltup us)(h2:cmpV op u w=some b):Tr T d (.cmp op e t) σ (.ok b σ'):=@fun y0_ y1_ g y2_ y3_ y4_ y5_ y6_ hf S y7_ y8_ q=>xCmp_k hf fun l os rs p f=>one1_k f fun o f=>one1_k f fun y f=>by
 have e0:=beq_iff_eq.mp (and_l (and_l f));subst e0;exact wpAny_isTrue_Compare1 (h g (and_l (and_r f)) S @fun s1 b1 v1 f1 S1 l1 r1=>h1 g (and_r (and_r f)) S1 @fun s2 b2 v2 f2 S2 l2 r2=>cmp_ok h2 (S2.hv g.C.X) ((((RX.ofN n).mp r1).1.mono l2).rb n) (r2.rb nw S2) fun v t r=>(show v= .bool b from r)▸wpAny_truthy_bool (q (s:=tk s2 t) S2.drop.drop (l1.trans l2))) (not_r (and_r (and_l f)))
theorem Ev.cmp2{a b:E}{o1 o2:Co}{u v w:V}{q:Bool}(h1:pe T σ a=some u)(h2:pe T σ b=some v)(h3:cmpV o1 u v=some true)(h4:pe T σ e=some w)(h5:cmpV o2 v w=some q):Ev T d (.cmp2 a o1 b o2 e) σ (.ok (.bool q) σ):=@fun c A g x s m bk fr hf S Q Er k=>xCmp_k hf fun l os rs p f=>two2_k f fun y z f=>two2_k f fun y1 z1 f=>by
 have f1:=and_l (and_l f);have f2:=and_r f;have e5:=beq_iff_eq.mp (and_l f1);have e6:=beq_iff_eq.mp (and_r f1);subst e5 e6;exact PyProof.Rows.Compare_chain (g.pe h1 (and_l f2) S fun v1 t ra=>PyProof.Rows.chain_link (g.pe h2 (s:=tk s t) (and_l (and_r f2)) S fun v2 t rb=>cmp_ok (s:=tk s t) h3 (S.hv g.C.X) ra rb fun v3 t r=>(show v3= .bool true from r)▸wpAny_truthy_bool (PyProof.Rows.chain_last
  (g.pe h4 (s:=tk s t) (and_r (and_r f2)) S fun v4 t rc=>cmp_ok (s:=tk s t) h5 (S.hv g.C.X) rb rc fun v5 t r=>(show v5= .bool q from r)▸k.ok (s:=tk s t) S (.refl _) rfl)))) (not_r (and_r (and_l f)))
end
end Mine.Internal
end
section
open PySem PySem.W
namespace Mine.Internal
variable{z:Zk} {d np i:Nat} {P:Pt} {sc:V} {op:Bool} {t:List Nat} {ln mg wk cl b:Int} {cnt:Nat} {o r:List Int} {R:List V} {n ct td pc sg:V} {g:Sg}
theorem t_cmpR{T:Tb}{e t:Mine.Internal.E}{σ σ1 σ':St}{u w:V}{op:Co}{b:Bool}(h:ev T d e σ (.ok u σ1))(n:u.nl=true)(h1:ev T d t σ1 (.ok w σ'))(nw:∀us,w≠ .ltup us)(h2:cmpV op u w=some b):tr T d (.cmp op e t) σ (.ok b σ'):=.mk (Tr.cmpR @h.un n @h1.un nw h2)
noncomputable def sgW:Sg→List Nat
 | .dash=>[45]
 | .key=>[107,101,121]
 | .q=>[63]
 | .colon=>[58]
 | .s=>[115]
 | .b=>[98]
 | .amp=>[38]
 | .bang=>[33]
noncomputable abbrev sgV(g:Sg):V:=.str (sgW g)
noncomputable def wgt:Sg→Int
 | .key=>6
 | .s| .b=>3
 |_=>2
noncomputable def lt26(c:Nat):Nat:=97+c%26
noncomputable def rowT(k:List Nat)(ln cl:Int)(t:List Nat):V:=.tup [.str k,.int ln,.int cl,.str t]
noncomputable abbrev bl(sc:V)(op:Bool)(t:List Nat)(ln mg cnt wk:Int)(o:List Int)(R:List V)(n cl ct sg td pc:V):List V:=[sc,.bool op,.str t,.int ln,.int mg,.int cnt,.int wk,.list (o.reverse.map .int),.list R,n,cl,ct,sg,td,pc]
theorem last_top:subV (.list ((b::r).reverse.map V.int)) (.int (-1))=some (.int b):=by
 have e:(b::r).reverse.map V.int=r.reverse.map V.int++[.int b]:=by rw[List.reverse_cons,List.map_append];rfl
 rw[e];show((seqIndex? (-1) (r.reverse.map V.int++[V.int b]).length).bind fun k=>(r.reverse.map V.int++[V.int b])[k]?)=_;rw[List.length_append,show(r.reverse.map V.int).length+[V.int b].length=(r.reverse.map V.int).length+1 from rfl,seq_last];exact List.getElem?_concat_length
theorem add_str{a b:List Nat}(h:a.length+b.length≤SZ):binV .add (.str a) (.str b)=some (.str (a++b)):=if_pos h
theorem p_chr{l:List V}{x0 x1 x2 x3 x4:V}:pe (TT z) ⟨x0::x1::x2::x3::x4::.int cnt::l,P⟩ (.chr (.bin .add (.cI 97) (.bin .mod (.loc 5) (.cI 26))))=some (.str [lt26 cnt]):=by
 show(if 0≤((lt26 cnt:Nat):Int)∧((lt26 cnt:Nat):Int)<128 then some (V.str [((lt26 cnt:Nat):Int).toNat]) else none)=_;have h:lt26 cnt<128:=Nat.lt_of_lt_of_le (Nat.add_lt_add_left (Nat.mod_lt cnt (show 26>0 by decide)) 97) (by decide);exact if_pos ⟨Int.natCast_nonneg _,Int.ofNat_lt.mpr h⟩
noncomputable def bodyS:List S:=match f_law_built.code.drop 8 with| .forL _ _ b::_=>b|_=>[]
noncomputable def signS:List S:=match bodyS.drop 6 with| .forL _ _ b::_=>b|_=>[]
noncomputable def opnW:Sg→List Nat
 | .dash=>[115,101,113]
 |_=>[109,97,112]
noncomputable def opnR(ln cl:Int)(o:List Int)(g:Sg):List V:=if opens o cl g=true then [rowT (opnW g) ln cl []] else []
noncomputable abbrev opW(wk cl:Int)(o:List Int)(g:Sg):Int:=if opens o cl g=true then wk+2 else wk
theorem sg_opn(hr:r.length+10<SZ)(hR:R.length+10<SZ):
  ex (TT z) d 1 (.ite (.and [(.cmp .isin (.loc 12) (.lst [(.cS [45]),(.cS [107,101,121]),(.cS [63]),(.cS [58])])),(.cmp .lt (.sub (.loc 7) (.neg 1)) (.loc 10))]) [(.expr (.app (.loc 7) (.loc 10))),(.aug 6 .add (.cI 2)),(.expr (.app (.loc 8) (.tup [(.ite (.cmp .eq (.loc 12) (.cS [45])) (.cS [115,101,113]) (.cS [109,97,112])),(.loc 3),(.loc 10),(.cS [])])))] [])
   ⟨bl sc op t ln mg cnt wk (b::r) R n (.int cl) ct (sgV g) td pc,P⟩ (.ok .next ⟨bl sc op t ln mg cnt (opW wk cl (b::r) g) (push (b::r) cl g) (R++opnR ln cl (b::r) g) n (.int cl) ct (sgV g) td pc,P⟩):=by
 have m:cmpV .isin (sgV g) (.list [.str [45],.str [107,101,121],.str [63],.str [58]])=some (isOpen g):=by cases g<;>rfl
 have t1:tr (TT z) d (.cmp .isin (.loc 12) (.lst [(.cS [45]),(.cS [107,101,121]),(.cS [63]),(.cS [58])])) ⟨bl sc op t ln mg cnt wk (b::r) R n (.int cl) ct (sgV g) td pc,P⟩ (.ok (isOpen g) ⟨bl sc op t ln mg cnt wk (b::r) R n (.int cl) ct (sgV g) td pc,P⟩):=
  t_cmpR (e_p rfl) rfl (e_lst (a_ps rfl) rfl (by decide)) nofun m
 have t2:pt (TT z) ⟨bl sc op t ln mg cnt wk (b::r) R n (.int cl) ct (sgV g) td pc,P⟩ (.cmp .lt (.sub (.loc 7) (.neg 1)) (.loc 10))=some (decide (b<cl)):=congrArg (fun o:Option V=>o.bind fun x=>cmpV .lt x (.int cl)) last_top;have no:opens (b::r) cl g=false→bl sc op t ln mg cnt (opW wk cl (b::r) g) (push (b::r) cl g) (R++opnR ln cl (b::r) g) n (.int cl) ct (sgV g) td pc=bl sc op t ln mg cnt wk (b::r) R n (.int cl) ct (sgV g) td pc:=fun e=>by
  unfold bl opW push opnR;rw[e,if_neg Bool.false_ne_true,if_neg Bool.false_ne_true,if_neg Bool.false_ne_true,List.append_nil]
 cases hg:isOpen g with
 |false=>
  rw[hg] at t1;rw[no (by unfold opens;rw[hg];rfl)];exact x_iF (t_andF t1) x_nil
 |true=>
  rw[hg] at t1
  by_cases hb:b<cl
  ·have e:opens (b::r) cl g=true:=by unfold opens;rw[hg];exact decide_eq_true hb
   have en:pe (TT z) ⟨bl sc op t ln mg cnt (wk+2) (cl::b::r) R n (.int cl) ct (sgV g) td pc,P⟩ (.ite (.cmp .eq (.loc 12) (.cS [45])) (.cS [115,101,113]) (.cS [109,97,112]))=some (.str (opnW g)):=by cases g<;>rfl
   have ep:(b::r).reverse.map V.int++[.int cl]=(cl::b::r).reverse.map V.int:=by rw[List.reverse_cons (a:=cl),List.map_append];rfl
   unfold push opnR;rw[e,if_pos rfl,if_pos rfl,show opW wk cl (b::r) g=wk+2 from if_pos e];exact x_iT (t_andT t1<|t_andT (t_p (t2.trans (congrArg some (decide_eq_true hb)))) t_and0)<|x_cons (x_expr (e_app (.loc rfl) (e_p (u:=.int cl) rfl) (.loc rfl) rfl (by rw[List.length_map,List.length_reverse];exact Nat.lt_of_succ_le (Nat.le_trans (Nat.le_add_right _ 8) (Nat.le_of_lt hr)))))<|
    ep.symm▸(x_cons (x_q rfl)<|x_cons (x_expr (e_app (us:=R) (.loc rfl) (e_tupP (pes_c en rfl rfl) rfl) (.loc rfl) rfl (Nat.lt_of_le_of_lt (Nat.le_add_right _ _) hR))) x_nil)
  ·rw[no (by unfold opens;rw[hg];exact decide_eq_false hb)];exact x_iF (t_andT t1<|t_andF (t_p (t2.trans (congrArg some (decide_eq_false hb))))) x_nil
noncomputable def ownV(ln cl:Int):Sg→Nat→List V
 | .key,c=>[rowT [63] ln cl [],rowT [98] ln cl [c],rowT [58] ln (cl+1) []]
 |g,c=>[rowT (sgW g) ln cl [c]]
noncomputable def pc1:Sg→Nat→List Nat
 | .key,c=>[c,58,32]
 |g,_=>sgW g++[32]
theorem sg_own{o:List Int}{c:Nat}{zz:Mine.Internal.R Fl}(hR:R.length+5<SZ)(k:exs (TT z) d 1 (signS.drop 7) ⟨bl sc op t ln mg cnt wk o (R++ownV ln cl g c) n (.int cl) ct (sgV g) (.str [c]) (.str (piece g c)),P⟩ zz):
  exs (TT z) d 1 (signS.drop 5) ⟨bl sc op t ln mg cnt wk o R n (.int cl) ct (sgV g) (.str [c]) (.str (sgW g++[32])),P⟩ zz:=by
 have h:R.length<SZ:=Nat.lt_of_le_of_lt (Nat.le_add_right _ _) hR;cases g
 case key=>
  exact x_cons (x_iT (t_p rfl)<|x_cons (x_q rfl)<|x_cons (x_expr (e_app (us:=R) (.loc rfl) (e_tupP rfl rfl) (.loc rfl) rfl h))<|
   x_cons (x_expr (e_app (.loc rfl) (e_tupP rfl rfl) (.loc rfl) rfl (by rw[List.length_append];exact Nat.lt_of_le_of_lt (Nat.add_le_add_left (show 1≤5 by decide) _) hR)))<|
   x_cons (x_expr (e_app (.loc rfl) (e_tupP rfl rfl) (.loc rfl) rfl (by rw[List.length_append,List.length_append];exact Nat.lt_of_le_of_lt (Nat.add_le_add_left (show 2≤5 by decide) _) hR)))<|
   by rw[List.append_assoc,List.append_assoc];exact x_nil)<|x_go 1 rfl k
 all_goals exact x_cons (x_iF (t_p rfl)<|x_cons (x_expr (e_app (us:=R) (.loc rfl) (e_tupP rfl rfl) (.loc rfl) rfl h)) x_nil)<|x_go 1 rfl k
theorem sg_own_ok{c:Nat}:RowsV (ownRows ln cl g c) (ownV ln cl g c):=by
 cases g
 case key=>exact .cons (.mk nofun) (.cons (.mk (fun y0_=>rfl)) (.cons (.mk nofun) .nil))
 all_goals exact .cons (.mk (fun y0_=>rfl)) .nil
theorem sg_opn_ok:RowsV (if opens o cl g=true then [⟨opener g,ln,cl,0⟩] else []) (opnR ln cl o g):=by
 unfold opnR;split
 ·cases g<;>exact .cons (.mk nofun) .nil
 ·exact .nil
theorem turn(ht:t.length+10≤SZ)(hr:r.length+10<SZ)(hR:R.length+10<SZ):
  exs (TT z) d 1 signS ⟨bl sc op t ln mg cnt wk (b::r) R n (.int cl) ct (sgV g) td pc,P⟩ (.ok .next ⟨bl sc op (t++piece g (lt26 cnt)) ln mg (cnt+1:Nat) (opW (wk+wgt g) cl (b::r) g) (push (b::r) cl g) (R++opnR ln cl (b::r) g++ownV ln cl g (lt26 cnt)) n (.int (cl+plen g)) ct (sgV g) (.str [lt26 cnt]) (.str (piece g (lt26 cnt))),P⟩):=by
 have hp:(piece g (lt26 cnt)).length=plen g:=by cases g<;>rfl
 have h4:plen g≤10:=by cases g<;>exact Nat.le_of_ble_eq_true rfl
 have h3:(opnR ln cl (b::r) g).length≤1:=by unfold opnR;split;exact Nat.le_refl _;exact Nat.zero_le _
 have h5:(R++opnR ln cl (b::r) g).length+5<SZ:=by rw[List.length_append];omega
 refine x_cons (x_a13 (e_p (pv_of p_chr rfl)) rfl)<|x_cons (x_q rfl)<|x_cons (x_q (σ':=⟨bl sc op t ln mg (cnt+1:Nat) (wk+wgt g) (b::r) R n (.int cl) ct (sgV g) (.str [lt26 cnt]) pc,P⟩) (by cases g<;>rfl))<|
  x_cons (x_q (σ':=⟨bl sc op t ln mg (cnt+1:Nat) (wk+wgt g) (b::r) R n (.int cl) ct (sgV g) (.str [lt26 cnt]) (.str (sgW g++[32])),P⟩) (by cases g<;>rfl))<|x_cons (sg_opn hr hR)<|sg_own h5<|
  x_cons (x_aug rfl (e_p rfl) (add_str (hp.symm▸Nat.le_trans (Nat.add_le_add_left h4 t.length) ht)) rfl) ?_
 rw[←hp];exact x_go 1 rfl x_nil
end Mine.Internal
end
section
open PySem PySem.W
namespace Mine.Internal
variable{z:Zk} {d np i:Nat} {P:Pt} {sc:V} {op:Bool} {t:List Nat} {ln mg wk cl c0:Int} {cnt:Nat} {o:List Int} {R:List V} {n ct td pc sg clv:V} {g:Sg}
theorem rev_map(b:Int)(r:List Int):(b::r).reverse.map V.int=r.reverse.map V.int++[.int b]:=by rw[List.reverse_cons,List.map_append];rfl
noncomputable abbrev endT(ln c0:Int):V:=rowT [101,110,100] ln c0 []
theorem pop_gen{tE cE:Mine.Internal.E}(hc: -1≤cl)(ht:∀b r R,pt (TT z) ⟨bl sc op t ln mg cnt wk (b::r) R n clv ct sg td pc,P⟩ tE=some (decide (cl<b)))(hp:∀o R,pe (TT z) ⟨bl sc op t ln mg cnt wk o R n clv ct sg td pc,P⟩ cE=some (.int c0))(h:SOK o):
  ∀R,R.length+o.length<SZ→wl (TT z) d 1 tE [.expr (.pop (.loc 7)),.expr (.app (.loc 8) (.tup [(.cS [101,110,100]),(.loc 3),cE,(.cS [])]))] ⟨bl sc op t ln mg cnt wk o R n clv ct sg td pc,P⟩ (.ok .next ⟨bl sc op t ln mg cnt wk (left o cl) (R++List.replicate (pops o cl).length (endT ln c0)) n clv ct sg td pc,P⟩):=by
 have stop:∀{b r}R,¬cl<b→wl (TT z) d 1 tE [.expr (.pop (.loc 7)),.expr (.app (.loc 8) (.tup [(.cS [101,110,100]),(.loc 3),cE,(.cS [])]))] ⟨bl sc op t ln mg cnt wk (b::r) R n clv ct sg td pc,P⟩ (.ok .next ⟨bl sc op t ln mg cnt wk (left (b::r) cl) (R++List.replicate (pops (b::r) cl).length (endT ln c0)) n clv ct sg td pc,P⟩):=fun{b r}R hb=>by
  rw[left_n hb,show pops (b::r) cl=[] from List.takeWhile_cons_of_neg fun e=>hb (of_decide_eq_true e),show R++List.replicate ([]:List Int).length (endT ln c0)=R from List.append_nil R];exact w_stop (t_p ((ht b r R).trans (congrArg some (decide_eq_false hb))))
 induction h with
 |base=>exact fun R y0_=>stop R (Int.not_lt.mpr hc)
 |@cons b r ha h ih=>
  intro R hl
  by_cases hb:cl<b
  ·have hl2:(R++[endT ln c0]).length+r.length<SZ:=by
    rw[List.length_append];exact(Nat.add_assoc R.length 1 r.length).trans (congrArg (R.length+ ·) (Nat.add_comm 1 r.length))▸hl
   have e:R++List.replicate (pops (b::r) cl).length (endT ln c0)=(R++[endT ln c0])++List.replicate (pops r cl).length (endT ln c0):=by
    rw[show pops (b::r) cl=b::pops r cl from List.takeWhile_cons_of_pos (decide_eq_true hb),List.append_assoc];rfl
   rw[left_y hb,e];exact w_go (t_p ((ht b r R).trans (congrArg some (decide_eq_true hb)))) (x_cons (x_expr (e_pop (xs:=r.reverse.map V.int) (u:=.int b) (.loc (congrArg (some∘V.list) (rev_map b r)))))<|
    x_cons (x_expr (e_app (us:=R) (.loc rfl) (e_tupP (pes_c rfl rfl (pes_c rfl rfl (pes_c (hp r R) rfl rfl))) rfl) (.loc rfl) rfl (Nat.lt_of_le_of_lt (Nat.le_add_right _ _) hl))) x_nil) (ih _ hl2)
  ·exact stop R hb
theorem reps_ok{k:Nat}{c0':Int}:RowsV (fins ln c0' k) (List.replicate k (endT ln c0')):=by
 induction k with
 |zero=>exact .nil
 |succ k ih=>exact .cons (.mk nofun) ih
noncomputable def items:Nat→List Sg→Items
 |_,[]=>[]
 |c,g::gs=>(g,lt26 c)::items (c+1) gs
noncomputable def rowsI(ln:Int):Int→List Int→Items→List Row
 |_,_,[]=>[]
 |cl,o,x::xs=>rowsOf ln cl o x.1 x.2++rowsI ln (cl+plen x.1) (push o cl x.1) xs
noncomputable def stkI:Int→List Int→Items→List Int
 |_,o,[]=>o
 |cl,o,x::xs=>stkI (cl+plen x.1) (push o cl x.1) xs
theorem futI_eq{ln:Int}{k:List Int→List Row}:∀{its:Items}{cl:Int}{o:List Int},futI ln k cl o its=rowsI ln cl o its++k (stkI cl o its)
 |[],cl,o=>rfl
 |x::xs,cl,o=>(congrArg (rowsOf ln cl o x.1 x.2++ ·) futI_eq).trans (List.append_assoc ..).symm
theorem RowsV.app{F F':List Row}{vs vs':List V}(h:RowsV F vs)(h':RowsV F' vs'):RowsV (F++F') (vs++vs'):=by
 induction h with|nil=>exact h'|cons a _ ih=>exact .cons a ih
theorem RowsV.len{F:List Row}{vs:List V}(h:RowsV F vs):vs.length=F.length:=by induction h with|nil=>rfl|cons _ _ ih=>exact congrArg (· +1) ih
noncomputable def cost:Sg→Nat
 | .key=>5
 | .dash| .q| .colon=>3
 |_=>1
noncomputable def costs:List Sg→Nat
 |[]=>0
 |g::gs=>cost g+costs gs
theorem sg_cost:(opnR ln cl o g++ownV ln cl g i).length+(push o cl g).length≤cost g+o.length:=by
 have h:∀g,(opnR ln cl o g).length+(push o cl g).length≤2+o.length:=fun g=>by
  unfold opnR push;cases opens o cl g
  ·exact Nat.add_le_add_right (Nat.zero_le 2) o.length
  ·exact Nat.le_of_eq (show 1+(o.length+1)=2+o.length by rw[Nat.add_comm o.length,←Nat.add_assoc])
 have k:∀{g}{c:Nat},(ownV ln cl g i).length+2≤c→(opnR ln cl o g++ownV ln cl g i).length+(push o cl g).length≤c+o.length:=fun{g c}e=>by
  rw[List.length_append,Nat.add_comm (opnR ln cl o g).length,Nat.add_assoc];exact Nat.le_trans (Nat.add_le_add_left (h g) _) ((Nat.add_assoc ..).symm▸Nat.add_le_add_right e _)
 cases g
 case s=>exact Nat.le_refl _
 case b=>exact Nat.le_refl _
 case amp=>exact Nat.le_refl _
 case bang=>exact Nat.le_refl _
 all_goals exact k (Nat.le_refl _)
theorem piece_len(g:Sg)(c:Nat):(piece g c).length≤4:=by cases g<;>exact Nat.le_of_ble_eq_true rfl
theorem body_len:∀(ss:List Sg)(c:Nat),(bodyT (items c ss)).length≤4*ss.length
 |[],c=>Nat.le_refl _
 |g::ss,c=>by
  show(piece g (lt26 c)++bodyT (items (c+1) ss)).length≤_;rw[List.length_append,Nat.add_comm];exact Nat.add_le_add (body_len ss (c+1)) (piece_len g _)
theorem push_ne(h:SOK o)(hc:0≤cl)(g:Sg):SOK (push o cl g):=h.push hc
inductive Signs (z:Zk) (d:Nat) (P:Pt) (sc:V) (op:Bool) (ln mg:Int) (n ct:V) (t:List Nat) (cnt:Nat) (o:List Int) (cl:Int) (R:List V) (σ:St) (ss:List Sg):Prop
 |mk {wk rv cl' sg td pc}:fv (TT z) d 1 12 signS (ss.map sgV) σ (.ok .next ⟨bl sc op (t++bodyT (items cnt ss)) ln mg (cnt+ss.length:Nat) wk (stkI cl o (items cnt ss)) (R++rv) n cl' ct sg td pc,P⟩)→
   RowsV (rowsI ln cl o (items cnt ss)) rv→rv.length+(stkI cl o (items cnt ss)).length≤costs ss+o.length→SOK (stkI cl o (items cnt ss))→Signs z d P sc op ln mg n ct t cnt o cl R σ ss
theorem in_loop:∀(ss:List Sg){t:List Nat}{R:List V}{o:List Int}{cl wk:Int}{cnt:Nat}{sg td pc:V},SOK o→0≤cl→t.length+4*ss.length+10≤SZ→R.length+o.length+5*ss.length+10<SZ→
  Signs z d P sc op ln mg n ct t cnt o cl R ⟨bl sc op t ln mg cnt wk o R n (.int cl) ct sg td pc,P⟩ ss
 |[],t,R,o,cl,wk,cnt,sg,td,pc,ho,hc,ht,hR=>by
  have h:fv (TT z) d 1 12 signS [] ⟨bl sc op t ln mg cnt wk o R n (.int cl) ct sg td pc,P⟩ (.ok .next ⟨bl sc op (t++[]) ln mg cnt wk o (R++[]) n (.int cl) ct sg td pc,P⟩):=by rw[List.append_nil,List.append_nil];exact f_nil
  exact .mk (rv:=[]) h .nil (Nat.le_refl _) ho
 |g::ss,t,R,b::r,cl,wk,cnt,sg,td,pc,ho,hc,ht,hR=>by
  have hk:=sg_cost (ln:=ln) (cl:=cl) (o:=b::r) (g:=g) (i:=lt26 cnt);have hp:=piece_len g (lt26 cnt);have h5:cost g≤5:=by cases g<;>exact Nat.le_of_ble_eq_true rfl
  rw[List.length_append] at hk;have a1:t.length+10≤SZ:=Nat.le_trans (Nat.add_le_add_right (Nat.le_add_right _ _) _) ht;have a2:R.length+(b::r).length+10<SZ:=Nat.lt_of_le_of_lt (Nat.add_le_add_right (Nat.le_add_right _ _) _) hR;have a3:(t++piece g (lt26 cnt)).length+4*ss.length+10≤SZ:=by
   rw[List.length_append];exact Nat.le_trans (Nat.add_le_add_right (Nat.le_trans (Nat.add_le_add_right (Nat.add_le_add_left hp _) _) (Nat.le_of_eq (by rw[List.length_cons,Nat.mul_succ,Nat.add_assoc,Nat.add_comm 4]))) _) ht
  have a4:(R++opnR ln cl (b::r) g++ownV ln cl g (lt26 cnt)).length+(push (b::r) cl g).length+5*ss.length+10<SZ:=by
   rw[List.length_cons (as:=ss)] at hR;rw[List.length_append,List.length_append];omega
  cases in_loop ss (t:=t++piece g (lt26 cnt)) (R:=R++opnR ln cl (b::r) g++ownV ln cl g (lt26 cnt)) (o:=push (b::r) cl g) (cl:=cl+plen g) (wk:=opW (wk+wgt g) cl (b::r) g) (cnt:=cnt+1) (sg:=sgV g) (td:=.str [lt26 cnt]) (pc:=.str (piece g (lt26 cnt))) (ho.push hc) (Int.add_nonneg hc (Int.natCast_nonneg _)) a3 a4 with
  |@mk wk2 rv2 cl2 sg2 td2 pc2 g1 g2 g3 g4=>
  refine .mk (rv:=opnR ln cl (b::r) g++ownV ln cl g (lt26 cnt)++rv2) (wk:=wk2) (cl':=cl2) (sg:=sg2) (td:=td2) (pc:=pc2) ?_ ((RowsV.app sg_opn_ok sg_own_ok).app g2) ?_ g4
  ·have e1:cnt+1+ss.length=cnt+(ss.length+1):=(Nat.add_assoc ..).trans (congrArg (cnt+ ·) (Nat.add_comm ..));have e2:t++piece g (lt26 cnt)++bodyT (items (cnt+1) ss)=t++bodyT (items cnt (g::ss)):=List.append_assoc ..
   have e3:R++opnR ln cl (b::r) g++ownV ln cl g (lt26 cnt)++rv2=R++(opnR ln cl (b::r) g++ownV ln cl g (lt26 cnt)++rv2):=by rw[List.append_assoc,List.append_assoc,List.append_assoc]
   rw[e1,e2,e3] at g1;exact f_go (by cases g<;>rfl) (turn a1 (by rw[List.length_cons] at a2;omega) (by omega)) g1
  ·show _≤cost g+costs ss+(b::r).length;have e:(stkI cl (b::r) (items cnt (g::ss)))=stkI (cl+plen g) (push (b::r) cl g) (items (cnt+1) ss):=rfl;rw[e,List.length_append,List.length_append];omega
end Mine.Internal
end
section
open PySem PySem.W
namespace Mine.Internal
variable{z:Zk} {d np i:Nat} {P:Pt} {sc:V} {op:Bool} {t:List Nat} {ln mg wk cl c0:Int} {cnt n:Nat} {o:List Int} {R:List V} {nv ct td pc sg clv:V} {g:Sg}
theorem e_lstP{T:Tb}{σ:St}{es:List Mine.Internal.E}{us:List V}(h:pes T σ es=some us)(n:(us.all V.nl&&us.length.ble SZ)=true):ev T d (.lst es) σ (.ok (.list us) σ):=by
 have:=e_lst (d:=d) (a_ps h) (by rw[pair_fst];exact and_l n) (by rw[List.length_map];exact Nat.le_of_ble_eq_true (and_r n));rwa[pair_fst] at this
inductive OffK (k:Nat):Prop
 |mk {off:Int}:subV (.list [.int 0,.int 0,.int 2,.int (-2),.int 0]) (.int (k:Nat))=some (.int off)→OffK k
theorem off_ok:∀k,k<5→OffK k
 |0,_=>.mk rfl
 |1,_=>.mk rfl
 |2,_=>.mk rfl
 |3,_=>.mk rfl
 |4,_=>.mk rfl
 |_+5,h=>absurd h (Nat.not_lt.mpr (Nat.le_add_left ..))
noncomputable abbrev margE:Mine.Internal.E:=(.max (.cI 0) (.min (.cI 6) (.bin .add (.loc 4) (.sub (.lst [(.cI 0),(.cI 0),(.cI 2),(.neg 2),(.cI 0)]) (.bin .mod (.loc 9) (.cI 5))))))
inductive MargK (z:Zk) (d:Nat) (σ:St):Prop
 |mk {m:Nat}:m≤6→ev (TT z) d margE σ (.ok (.int m) σ)→MargK z d σ
theorem marg_ok:MargK z d ⟨bl sc op t ln mg cnt wk o R (.int n) clv ct sg td pc,P⟩:=by
 cases off_ok (n%5) (Nat.mod_lt n (by decide)) with|@mk off h=>
 have e:(((Max.max 0 (Min.min 6 (mg+off))).toNat:Nat):Int)=Max.max 0 (Min.min 6 (mg+off)):=Int.toNat_of_nonneg (Int.le_max_left ..);have l5:ev (TT z) d (.lst [(.cI 0),(.cI 0),(.cI 2),(.neg 2),(.cI 0)]) ⟨bl sc op t ln mg cnt wk o R (.int n) clv ct sg td pc,P⟩ (.ok (.list [.int 0,.int 0,.int 2,.int (-2),.int 0]) ⟨bl sc op t ln mg cnt wk o R (.int n) clv ct sg td pc,P⟩):=e_lstP rfl rfl;have g:ev (TT z) d margE ⟨bl sc op t ln mg cnt wk o R (.int n) clv ct sg td pc,P⟩ (.ok (.int (Max.max 0 (Min.min 6 (mg+off)))) ⟨bl sc op t ln mg cnt wk o R (.int n) clv ct sg td pc,P⟩):=
  e_max (e_p rfl) (e_min (e_p rfl) (e_bin (e_p rfl) (e_sub l5 rfl rfl h) rfl rfl))
 rw[←e] at g;have h6:Max.max 0 (Min.min 6 (mg+off))≤6:=Int.max_le.mpr ⟨by decide,Int.min_le_left ..⟩;exact .mk (Int.ofNat_le.mp (Int.le_trans (Int.le_of_eq e) h6)) g
noncomputable abbrev contV:List V:=[.str [115],.str [],.str [38],.str [33,32,115],.str [98],.str [38,32,33,32,115],.str [33],.str [107,101,121,32,115],.str [45,32,115],.str [107,101,121],.str [63,32,115]]
noncomputable abbrev headV:List V:=[.str [45],.str [107,101,121],.str [63],.str [58]]
noncomputable def contSg:Nat→List Sg
 |0=>[.s]|1=>[]|2=>[.amp]|3=>[.bang,.s]|4=>[.b]|5=>[.amp,.bang,.s]|6=>[.bang]|7=>[.key,.s]|8=>[.dash,.s]|9=>[.key]|_=>[.q,.s]
noncomputable def headSg:Nat→Sg
 |0=>.dash|1=>.key|2=>.q|_=>.colon
theorem cont_call:run (TT z) (d+1) 66 [] P (.ret (.list contV) P []):=run_to<|x_end<|x_ret (e_lstP rfl rfl) rfl
theorem head_call:run (TT z) (d+1) 65 [] P (.ret (.list headV) P []):=run_to<|x_end<|x_ret (e_lstP rfl rfl) rfl
inductive HeadK (h:Nat):Prop
 |mk:subV (.list headV) (.int (h:Nat))=some (sgV (headSg h))→HeadK h
theorem head_sub:∀h,h<4→subV (.list headV) (.int (h:Nat))=some (sgV (headSg h))
 |0,_=>rfl
 |1,_=>rfl
 |2,_=>rfl
 |3,_=>rfl
 |_+4,h=>absurd h (Nat.not_lt.mpr (Nat.le_add_left ..))
noncomputable abbrev σc(sc:V)(op:Bool)(t:List Nat)(ln mg cnt wk:Int)(o:List Int)(R:List V)(n clv sg td pc:V)(P:Pt)(cs:List Nat):St:=⟨bl sc op t ln mg cnt wk o R n clv (.str cs) sg td pc,P⟩
inductive ContK (z:Zk) (j:Nat):Prop
 |mk {cs:List Nat}:subV (.list contV) (.int (j:Nat))=some (.str cs)→(∀{d sc op t ln mg cnt wk o R n clv sg td pc P},ev (TT z) d (.ite (.tv (.loc 11)) (.split (.loc 11)) (.lst [])) (σc sc op t ln mg cnt wk o R n clv sg td pc P cs) (.ok (.list ((contSg j).map sgV)) (σc sc op t ln mg cnt wk o R n clv sg td pc P cs)))→ContK z j
theorem cont_sub:∀j,j<11→ContK z j
 |0,_=>.mk rfl (e_ite (t_p rfl) (e_split (ws:=[[115]]) rfl rfl))
 |1,_=>.mk rfl (e_ite (t_p rfl) (e_lst a_nil rfl (by decide)))
 |2,_=>.mk rfl (e_ite (t_p rfl) (e_split (ws:=[[38]]) rfl rfl))
 |3,_=>.mk rfl (e_ite (t_p rfl) (e_split (ws:=[[33],[115]]) rfl rfl))
 |4,_=>.mk rfl (e_ite (t_p rfl) (e_split (ws:=[[98]]) rfl rfl))
 |5,_=>.mk rfl (e_ite (t_p rfl) (e_split (ws:=[[38],[33],[115]]) rfl rfl))
 |6,_=>.mk rfl (e_ite (t_p rfl) (e_split (ws:=[[33]]) rfl rfl))
 |7,_=>.mk rfl (e_ite (t_p rfl) (e_split (ws:=[[107,101,121],[115]]) rfl rfl))
 |8,_=>.mk rfl (e_ite (t_p rfl) (e_split (ws:=[[45],[115]]) rfl rfl))
 |9,_=>.mk rfl (e_ite (t_p rfl) (e_split (ws:=[[107,101,121]]) rfl rfl))
 |10,_=>.mk rfl (e_ite (t_p rfl) (e_split (ws:=[[63],[115]]) rfl rfl))
 |_+11,h=>absurd h (Nat.not_lt.mpr (Nat.le_add_left ..))
noncomputable def okG:Bool→List Sg→Bool
 |_,[]=>true
 |a,g::r=>sgOk g (fun b=>okG b r) a r.isEmpty
noncomputable def shape(ss:List Sg):Bool:=ss.length.ble 4&&(match ss with|x::_=>isOpen x|[]=>false)&&okG true ss&&(costs ss).ble 9
theorem lt26_ok(c:Nat):letB (lt26 c)=true:=by
 have h:=Nat.mod_lt c (show 26>0 by decide);unfold letB lt26;rw[decide_eq_true (Nat.le_add_right 97 _),decide_eq_true (show 97+c%26≤122 from Nat.add_le_add_left (Nat.le_of_lt_succ h) 97)];rfl
theorem items_len:∀(ss:List Sg)(c:Nat),(items c ss).length=ss.length
 |[],c=>rfl
 |g::ss,c=>congrArg (· +1) (items_len ss (c+1))
theorem okI_items:∀(ss:List Sg)(a:Bool)(c:Nat),okI a (items c ss)=okG a ss
 |[],a,c=>rfl
 |g::ss,a,c=>by
  show(letB (lt26 c)&&sgOk g (fun b=>okI b (items (c+1) ss)) a (items (c+1) ss).isEmpty)=sgOk g (fun b=>okG b ss) a ss.isEmpty;rw[lt26_ok,show(fun b=>okI b (items (c+1) ss))=fun b=>okG b ss from funext fun b=>okI_items ss b (c+1),show(items (c+1) ss).isEmpty=ss.isEmpty by cases ss<;>rfl];rfl
structure ShapeK (ss:List Sg):Prop where
 mk::
 ok:∀c,okLn (items c ss)=true
 len:ss.length≤4
 cost:costs ss≤9
theorem shape_ok{ss:List Sg}(h:shape ss=true):ShapeK ss:=by
 have h4:=Nat.le_of_ble_eq_true (and_l (and_l (and_l h)));refine⟨fun c=>?_,h4,Nat.le_of_ble_eq_true (and_r h)⟩;have hd:headOpen (items c ss)=true:=by
  have h2:=and_r (and_l (and_l h));cases ss with|nil=>exact h2|cons g ss=>exact h2
 unfold okLn;rw[items_len,okI_items,and_r (and_l h),hd,decide_eq_true (Nat.le_trans h4 (by decide))];rfl
noncomputable def mayB(h j:Nat):Bool:=(h !=1||j.blt 7)
theorem all_shape:((List.range 4).all fun h=>(List.range 11).all fun j=> !mayB h j||shape (headSg h::contSg j))=true:=by decide
theorem line_shape{h j:Nat}(hh:h<4)(hj:j<11)(hm:mayB h j=true):shape (headSg h::contSg j)=true:=by
 have e:=List.all_eq_true.mp (List.all_eq_true.mp all_shape h (List.mem_range.mpr hh)) j (List.mem_range.mpr hj);rw[hm] at e;exact e
noncomputable abbrev idxE:Mine.Internal.E:=(.bin .mod (.bin .fdiv (.loc 9) (.cI 4)) (.ite (.cmp .eq (.bin .mod (.loc 9) (.cI 4)) (.cI 1)) (.cI 7) (.cI 11)))
noncomputable abbrev contE:Mine.Internal.E:=(.sub (.fcal 141 66 [] []) idxE)
noncomputable abbrev signE:Mine.Internal.E:=(.cat (.lst [(.sub (.fcal 142 65 [] []) (.bin .mod (.loc 9) (.cI 4)))]) (.ite (.tv (.loc 11)) (.split (.loc 11)) (.lst [])))
inductive LnK (z:Zk) (d:Nat) (σ:St) (n:Nat):Prop
 |mk {cs:List Nat} {ss:List Sg}:ev (TT z) (d+1) contE σ (.ok (.str cs) σ)→shape ss=true→
   (∀{sc op t ln mg cnt wk o R clv sg td pc P},ev (TT z) (d+1) signE (σc sc op t ln mg cnt wk o R (.int n) clv sg td pc P cs) (.ok (.list (ss.map sgV)) (σc sc op t ln mg cnt wk o R (.int n) clv sg td pc P cs)))→LnK z d σ n
theorem idx_ok:pe (TT z) ⟨bl sc op t ln mg cnt wk o R (.int n) clv ct sg td pc,P⟩ idxE=some (.int (n/4% (if n%4=1 then 7 else 11):Nat)):=by
 have e:pt (TT z) ⟨bl sc op t ln mg cnt wk o R (.int n) clv ct sg td pc,P⟩ (.cmp .eq (.bin .mod (.loc 9) (.cI 4)) (.cI 1))=some (decide (n%4=1)):=
  congrArg some (decide_eq_decide.mpr (show(((n%4:Nat):Int)=1↔n%4=1) from⟨fun h=>Int.ofNat.inj h,fun h=>congrArg Int.ofNat h⟩))
 have e3:pe (TT z) ⟨bl sc op t ln mg cnt wk o R (.int n) clv ct sg td pc,P⟩ (.ite (.cmp .eq (.bin .mod (.loc 9) (.cI 4)) (.cI 1)) (.cI 7) (.cI 11))=some (.int (if n%4=1 then 7 else 11:Nat)):=by
  refine(congrArg (fun w:Option Bool=>w.bind fun c=>if c=true then some (V.int 7) else some (V.int 11)) e).trans ?_
  by_cases h:n%4=1
  ·rw[decide_eq_true h,if_pos h];rfl
  ·rw[decide_eq_false h,if_neg h];rfl
 have e1:pe (TT z) ⟨bl sc op t ln mg cnt wk o R (.int n) clv ct sg td pc,P⟩ (.bin .fdiv (.loc 9) (.cI 4))=some (.int (n/4:Nat)):=rfl;refine((congrArg (fun w:Option V=>w.bind fun u=>(pe (TT z) ⟨bl sc op t ln mg cnt wk o R (.int n) clv ct sg td pc,P⟩ (.ite (.cmp .eq (.bin .mod (.loc 9) (.cI 4)) (.cI 1)) (.cI 7) (.cI 11))).bind fun v=>op2V (.bin .mod) u v) e1).trans (congrArg (fun w:Option V=>w.bind fun v=>op2V (.bin .mod) (.int (n/4:Nat)) v) e3)).trans ?_
 by_cases h:n%4=1
 ·rw[if_pos h];rfl
 ·rw[if_neg h];rfl
theorem cont_len:∀j,(contSg j).length≤3
 |0|1|2|3|4|5|6|7|8|9|_+10=>Nat.le_of_ble_eq_true rfl
theorem line_signs:LnK z d ⟨bl sc op t ln mg cnt wk o R (.int n) clv ct sg td pc,P⟩ n:=by
 have hh:=Nat.mod_lt n (show 4>0 by decide);have hj:n/4% (if n%4=1 then 7 else 11)<11:=by
  split
  ·exact Nat.lt_trans (Nat.mod_lt _ (by decide)) (by decide)
  ·exact Nat.mod_lt _ (by decide)
 have hm:mayB (n%4) (n/4% (if n%4=1 then 7 else 11))=true:=by
  by_cases h:n%4=1
  ·rw[if_pos h];unfold mayB;rw[show(n/4%7).blt 7=true from Nat.ble_eq_true_of_le (Nat.mod_lt _ (by decide)),Bool.or_true]
  ·unfold mayB;rw[show(n%4 !=1)=true from bne_iff_ne.mpr h];rfl
 cases cont_sub (z:=z) _ hj with|@mk cs g1 g2=>
 refine .mk (cs:=cs) (e_sub (x_fcal a_nil rfl cont_call rfl) idx_ok rfl g1) (line_shape hh hj hm) ?_;intro sc op t ln mg cnt wk o R clv sg td pc P;have hnl:(sgV (headSg (n%4))).nl=true:=rfl;have a:ev (TT z) (d+1) (.lst [(.sub (.fcal 142 65 [] []) (.bin .mod (.loc 9) (.cI 4)))]) (σc sc op t ln mg cnt wk o R (.int n) clv sg td pc P cs) (.ok (.list [sgV (headSg (n%4))]) (σc sc op t ln mg cnt wk o R (.int n) clv sg td pc P cs)):=
  e_lst (a_cons (e_sub (x_fcal a_nil rfl head_call rfl) rfl rfl (head_sub _ hh)) rfl a_nil) rfl (Nat.le_of_ble_eq_true rfl)
 exact e_cat a g2 (by
  rw[List.length_map];exact Nat.le_trans (Nat.add_le_add_left (cont_len _) 1) (by decide))
end Mine.Internal
end
section
open PySem PySem.W
namespace Mine.Internal
variable{z:Zk} {d np i:Nat} {P:Pt} {sc:V} {op:Bool} {t:List Nat} {ln mg wk cl c0:Int} {cnt n:Nat} {o:List Int} {R:List V} {nv ct td pc sg clv:V} {g:Sg}
noncomputable def lineT(m:Nat)(its:Items):List Nat:=List.replicate m 32++(bodyT its++[10])
noncomputable def linesT':Lines→List Nat
 |[]=>[]
 |l::ls=>lineT l.1 l.2++linesT' ls
theorem linesT_eq:∀(ls:Lines),linesT ls=linesT' ls++[0]
 |[]=>rfl
 |l::ls=>by
  show List.replicate l.1 32++(bodyT l.2++10::linesT ls)=(List.replicate l.1 32++(bodyT l.2++[10])++linesT' ls)++[0];rw[linesT_eq ls,List.append_assoc,List.append_assoc,List.append_assoc];rfl
theorem left_len(o:List Int)(cl:Int):(pops o cl).length+(left o cl).length=o.length:=(pops_len o cl).symm
inductive LineK (z:Zk) (d:Nat) (P:Pt) (sc:V) (op:Bool) (t:List Nat) (ln:Int) (n:Nat) (o:List Int) (R:List V) (σ:St):Prop
 |mk {m its wk' cl' ct' sg' td' pc' rv} {cnt':Nat}:exs (TT z) d 1 bodyS σ (.ok .next ⟨bl sc op (t++lineT m its) (ln+1) (m:Nat) cnt' wk' (stkI m (left o m) its) (R++rv) (.int n) cl' ct' sg' td' pc',P⟩)→
   m≤6→okLn its=true→SOK (stkI m (left o m) its)→RowsV (fins ln m (pops o m).length++rowsI ln m (left o m) its) rv→rv.length+(stkI m (left o m) its).length≤9+o.length→(lineT m its).length≤60→LineK z d P sc op t ln n o R σ
theorem sp_mul{m:Nat}(h:m≤6):binV .mul (.str [32]) (.int (m:Nat))=some (.str (List.replicate m 32)):=if_pos ⟨Int.natCast_nonneg _,Int.ofNat_le.mpr (Nat.le_trans h (by decide))⟩
theorem line_turn(hwk:wk≤40)(hs:SOK o)(ht:t.length+200≤SZ)(hR:R.length+o.length+200<SZ):LineK z (d+1) P sc op t ln n o R ⟨bl sc op t ln mg cnt wk o R (.int n) clv ct sg td pc,P⟩:=by
 cases marg_ok (z:=z) (d:=d+1) (sc:=sc) (op:=op) (t:=t) (ln:=ln) (mg:=mg) (cnt:=cnt) (wk:=wk) (o:=o) (R:=R) (n:=n) (clv:=clv) (ct:=ct) (sg:=sg) (td:=td) (pc:=pc) (P:=P) with|@mk m hm h1=>
 have hc:(0:Int)≤m:=Int.natCast_nonneg _;have hc1:(-1:Int)≤m:=Int.le_trans (by decide) hc;cases hs.left (cl:=m) hc1 with|@mk b r hl hb hs2=>
 rw[←hl] at hs2;have hpl:=left_len o m;have ll:(List.replicate m 32:List Nat).length≤6:=by rw[List.length_replicate];exact hm
 have hpop:=pop_gen (z:=z) (d:=d+1) (P:=P) (tE:=.cmp .gt (.sub (.loc 7) (.neg 1)) (.loc 10)) (cE:=.loc 10) (c0:=m) (sc:=sc) (op:=op) (t:=t++List.replicate m 32) (ln:=ln) (mg:=m) (wk:=wk) (cnt:=cnt) (n:=.int n) (clv:=.int m) (ct:=ct) (sg:=sg) (td:=td) (pc:=pc) hc1 (fun b r R=>congrArg (fun w:Option V=>w.bind fun x=>cmpV .gt x (.int m)) last_top) (fun y0_ y1_=>rfl) hs R (by omega);cases line_signs (z:=z) (d:=d) (P:=P) (sc:=sc) (op:=op) (t:=t++List.replicate m 32) (ln:=ln) (mg:=m) (wk:=wk) (cnt:=cnt) (o:=left o m) (R:=R++List.replicate (pops o m).length (endT ln m)) (n:=n) (clv:=.int m) (ct:=ct) (sg:=sg) (td:=td) (pc:=pc) with|@mk cs ss h2 hsh h3=>
 have K:=shape_ok hsh;have K2:=K.len;have hbl:=body_len ss cnt;have b1:(t++List.replicate m 32).length+4*ss.length+10≤SZ:=by rw[List.length_append];omega
 cases in_loop (z:=z) (d:=d+1) (P:=P) (sc:=sc) (op:=op) (ln:=ln) (mg:=m) (n:=.int n) (ct:=.str cs) ss (t:=t++List.replicate m 32) (R:=R++List.replicate (pops o m).length (endT ln m)) (o:=left o m) (cl:=m) (wk:=wk) (cnt:=cnt) (sg:=sg) (td:=td) (pc:=pc) hs2 hc b1 (by rw[List.length_append,List.length_replicate];omega) with
 |@mk wk' rv cl' sg' td' pc' h4 h5 h6 h7=>
 have e1:t++List.replicate m 32++bodyT (items cnt ss)++[10]=t++lineT m (items cnt ss):=by unfold lineT;rw[List.append_assoc,List.append_assoc]
 refine .mk (its:=items cnt ss) (cnt':=cnt+ss.length) (wk':=wk') (cl':=cl') (ct':=.str cs) (sg':=sg') (td':=td') (pc':=pc') (rv:=List.replicate (pops o m).length (endT ln m)++rv) ?_ hm (K.ok cnt) h7 (RowsV.app reps_ok h5) ?_ ?_
 ·rw[←e1,←List.append_assoc R];exact x_cons (x_iF (t_p (congrArg some (decide_eq_false (Int.not_lt.mpr hwk)))) x_nil)<|x_cons (x_a4 h1 rfl)<|x_cons (x_aug rfl (e_p (pv_of (sp_mul hm) rfl)) (add_str (by omega)) rfl)<|x_cons (x_q rfl)<|
   x_cons (x_whl hpop)<|x_cons (x_a11 h2 rfl)<|x_cons (x_forL h3 rfl h4)<|x_cons (x_aug rfl (e_p rfl) (add_str (by rw[List.length_append];exact Nat.le_trans (Nat.add_le_add_right (Nat.add_le_add_left hbl _) _) (Nat.le_trans (Nat.add_le_add_left (show 1≤10 by decide) _) b1))) rfl)<|x_qs rfl
 ·have:=K.cost;rw[List.length_append,List.length_replicate];omega
 ·unfold lineT;rw[List.length_append,List.length_append];show(List.replicate m 32:List Nat).length+((bodyT (items cnt ss)).length+1)≤60;omega
end Mine.Internal
end
section
open PySem PySem.W
namespace Mine.Internal
variable{z:Zk} {d np i:Nat} {P:Pt} {sc:V} {op:Bool} {t:List Nat} {ln mg wk cl c0:Int} {cnt n:Nat} {o:List Int} {R:List V} {nv ct td pc sg clv:V} {g:Sg}
structure LineOk (l:Nat×Items):Prop where
 mk::
 ok:okLn l.2=true
 mg:l.1≤6
inductive OutK (z:Zk) (d:Nat) (P:Pt) (sc:V) (op:Bool) (t:List Nat) (ln wk:Int) (ns:List Nat) (o:List Int) (R:List V) (σ:St):Prop
 |mk {L ln' mg' wk' o' rv n' cl' ct' sg' td' pc' Fr} {cnt':Nat}:fv (TT z) d 1 9 bodyS (ns.map fun n=>.int (n:Nat)) σ (.ok .next ⟨bl sc op (t++linesT' L) ln' mg' cnt' wk' o' (R++rv) n' cl' ct' sg' td' pc',P⟩)→SOK o'→
   (∀l∈L,LineOk l)→L.length≤ns.length→rv.length+o'.length≤9*L.length+o.length→RowsV Fr rv→futL ln o L=Fr++futL ln' o' []→(wk≤40→ns≠[]→L≠[])→(linesT' L).length≤60*L.length→OutK z d P sc op t ln wk ns o R σ
theorem out_none{ns:List Nat}(h:fv (TT z) d 1 9 bodyS (ns.map fun n=>.int (n:Nat)) ⟨bl sc op t ln mg cnt wk o R nv clv ct sg td pc,P⟩ (.ok .next ⟨bl sc op t ln mg cnt wk o R nv' clv ct sg td pc,P⟩))(hs:SOK o)(hw:wk≤40→ns≠[]→False):
  OutK z d P sc op t ln wk ns o R ⟨bl sc op t ln mg cnt wk o R nv clv ct sg td pc,P⟩:=
 .mk (L:=[]) (rv:=[]) (by rw[show linesT' []=[] from rfl,List.append_nil,List.append_nil];exact h) hs nofun (Nat.zero_le _) (Nat.le_refl _) .nil rfl (fun a b=>(hw a b).elim) (Nat.zero_le _)
theorem out_loop:∀(ns:List Nat){t:List Nat}{R:List V}{o:List Int}{ln mg wk:Int}{cnt:Nat}{nv clv ct sg td pc:V},SOK o→t.length+60*ns.length+300≤SZ→R.length+o.length+9*ns.length+300<SZ→
  OutK z (d+1) P sc op t ln wk ns o R ⟨bl sc op t ln mg cnt wk o R nv clv ct sg td pc,P⟩
 |[],t,R,o,ln,mg,wk,cnt,nv,clv,ct,sg,td,pc,hs,ht,hR=>out_none f_nil hs fun y0_ h=>h rfl
 |n::ns,t,R,o,ln,mg,wk,cnt,nv,clv,ct,sg,td,pc,hs,ht,hR=>by
  rw[List.length_cons] at ht hR
  by_cases hwk:wk≤40
  ·cases line_turn (z:=z) (d:=d) (P:=P) (sc:=sc) (op:=op) (t:=t) (ln:=ln) (mg:=mg) (wk:=wk) (cnt:=cnt) (o:=o) (R:=R) (clv:=clv) (ct:=ct) (td:=td) (pc:=pc) (sg:=sg) (n:=n) hwk hs (by omega) (by omega) with
   |@mk m its wk1 cl1 ct1 sg1 td1 pc1 rv1 cnt1 h1 h2 h3 h4 h5 h6 h7=>
   cases out_loop ns (t:=t++lineT m its) (R:=R++rv1) (o:=stkI m (left o m) its) (ln:=ln+1) (mg:=m) (wk:=wk1) (cnt:=cnt1) (nv:=.int n) (clv:=cl1) (ct:=ct1) (sg:=sg1) (td:=td1) (pc:=pc1) h4 (by rw[List.length_append];omega) (by rw[List.length_append];omega) with
   |@mk L ln' mg' wk' o' rv n' cl' ct' sg' td' pc' Fr cnt' g1 g2 g3 g4 g5 g6 g7 g8 g9=>
   refine .mk (L:=(m,its)::L) (ln':=ln') (mg':=mg') (wk':=wk') (o':=o') (rv:=rv1++rv) (n':=n') (cl':=cl') (ct':=ct') (sg':=sg') (td':=td') (pc':=pc') (Fr:=fins ln m (pops o m).length++rowsI ln m (left o m) its++Fr) (cnt':=cnt') ?_ g2 ?_ (Nat.succ_le_succ g4) ?_ (h5.app g6) ?_ (fun y0_ y1_=>List.cons_ne_nil _ _) ?_
   ·rw[show t++linesT' ((m,its)::L)=t++lineT m its++linesT' L from(List.append_assoc ..).symm,show R++(rv1++rv)=R++rv1++rv from(List.append_assoc ..).symm];exact f_go rfl h1 g1
   ·intro l hl;cases hl with
    |head=>exact⟨h3,h2⟩
    |tail _ hl=>exact g3 l hl
   ·rw[List.length_append,List.length_cons];omega
   ·show fins ln m (pops o m).length++futI ln (fun o=>futL (ln+1) o L) m (left o m) its=_;rw[futI_eq,g7,List.append_assoc,List.append_assoc]
   ·show(lineT m its++linesT' L).length≤60* (L.length+1);rw[List.length_append];omega
  ·exact out_none (nv':=.int n) (f_brk rfl (x_end (x_iT (t_p (congrArg some (decide_eq_true (Int.not_le.mp hwk)))) (x_qs rfl)))) hs fun h=>absurd h hwk
noncomputable def opOf:List Int→Bool
 |[]=>false
 |i::_=>decide (i%2=1)
noncomputable def nsOf(is:List Int):List Nat:=if 1<is.length then((is.drop 1).take 8).map (fun i=>(i%5040).toNat) else [0]
noncomputable def preT(op:Bool):List Nat:=if op then [45,45,45,10] else []
noncomputable def ln0(op:Bool):Int:=if op then 1 else 0
structure NsK (ns:List Nat):Prop where
 mk::
 len:ns.length≤8
 ne:ns≠[]
theorem nsOf_ok(is:List Int):NsK (nsOf is):=by
 unfold nsOf;split
 case isTrue h=>
  match is,h with
  |_::_::_,_=>exact⟨by rw[List.length_map];exact List.length_take_le ..,List.cons_ne_nil _ _⟩
 case isFalse=>exact⟨Nat.le_of_ble_eq_true rfl,List.cons_ne_nil _ _⟩
theorem ns_eq(is:List Int):(((is.drop (1:Int).toNat).take ((9:Int).toNat- (1:Int).toNat)).map fun i=>V.int (i%5040))=(((is.drop 1).take 8).map fun i=>(i%5040).toNat).map fun n=>V.int (n:Nat):=by
 rw[List.map_map];exact List.map_congr_left fun i y0_=>congrArg V.int (Int.toNat_of_nonneg (Int.emod_nonneg i (by decide))).symm
section
variable{is:List Int} {l:List V}
noncomputable abbrev scV(is:List Int):V:=.slist (is.map .int)
theorem op_e:ev (TT z) d (.and [(.cmp .gt (.len (.loc 0)) (.cI 0)),(.cmp .eq (.bin .mod (.sub (.loc 0) (.cI 0)) (.cI 2)) (.cI 1))]) ⟨scV is::l,P⟩ (.ok (.bool (opOf is)) ⟨scV is::l,P⟩):=by
 cases is with
 |nil=>exact e_andF (e_p rfl) rfl rfl
 |cons i is=>
  have h:pv (TT z) ⟨scV (i::is)::l,P⟩ (.cmp .gt (.len (.loc 0)) (.cI 0))=some (.bool true):=congrArg (fun b=>some (V.bool b)) (decide_eq_true (show((((i::is).map V.int).length:Nat):Int)>0 from Int.natCast_pos.mpr (Nat.zero_lt_succ _)));have h0:subV (scV (i::is)) (.int 0)=some (.int i):=congrArg (fun w:Option Nat=>w.bind fun k=>((i::is).map V.int)[k]?) (seq_nat (k:=0) (Nat.zero_lt_succ _));have h2:pe (TT z) ⟨scV (i::is)::l,P⟩ (.cmp .eq (.bin .mod (.sub (.loc 0) (.cI 0)) (.cI 2)) (.cI 1))=some (.bool (opOf (i::is))):=congrArg (fun w:Option V=>(w.bind fun x=>op2V (.bin .mod) x (.int 2)).bind fun x=>op2V (.cmp .eq) x (.int 1)) h0;exact e_andT (e_p h) rfl rfl (e_andL (e_p (pv_of h2 rfl)))
theorem ns_e:ev (TT z) d (.ite (.cmp .gt (.len (.loc 0)) (.cI 1)) (.comp (.loc 0) 1 9 5040) (.lst [(.cI 0)])) ⟨scV is::l,P⟩ (.ok (.list ((nsOf is).map fun n=>.int (n:Nat))) ⟨scV is::l,P⟩):=by
 have h:pt (TT z) ⟨scV is::l,P⟩ (.cmp .gt (.len (.loc 0)) (.cI 1))=some (decide (1<is.length)):=by
  refine congrArg some ((decide_eq_decide.mpr (?_:(((is.map V.int).length:Nat):Int)>1↔1<is.length)));rw[List.length_map];exact Int.ofNat_lt (n:=1)
 refine e_ite (t_p h) ?_;unfold nsOf
 by_cases c:1<is.length
 ·rw[if_pos (decide_eq_true c),if_pos c];exact ns_eq is▸ev.mk (Ev.comp (lo:=1) (hi:=9) (k:=5040) (is:=is) rfl (by decide) (by decide) (by decide))
 ·rw[if_neg (by rw[decide_eq_false c];exact Bool.false_ne_true),if_neg c];exact e_lstP rfl rfl
end
inductive Built (z:Zk) (d:Nat) (P:Pt) (is:List Int):Prop
 |mk {L:Lines} {rows:List V}:run (TT z) (d+2) 67 [scV is] P (.ret (.ltup [.bool (opOf is),.str (preT (opOf is)++linesT' L),.list rows]) P [scV is])→
  RowsV (futL (ln0 (opOf is)) [-1] L) rows→(∀l∈L,LineOk l)→L≠[]→rows.length≤73→(linesT' L).length≤480→Built z d P is
theorem left_ground(h:SOK o):left o (-1)=[-1]:=by
 cases h.left (cl:= -1) (Int.le_refl _) with|@mk b r h1 h2 h3=>
 rw[h1];cases h3 with
 |base=>rfl
 |cons h4=>exact absurd h2 (Int.not_le.mpr h4)
theorem built_run{is:List Int}:Built z d P is:=by
 have N:=nsOf_ok is;have hpl:(preT (opOf is)).length≤4:=by unfold preT;split<;>exact Nat.le_of_ble_eq_true rfl
 cases out_loop (z:=z) (d:=d) (P:=P) (sc:=scV is) (op:=opOf is) (nsOf is) (t:=preT (opOf is)) (R:=[]) (o:=[-1]) (ln:=ln0 (opOf is)) (mg:=0) (wk:=0) (cnt:=0) (nv:=.absent) (clv:=.absent) (ct:=.absent) (sg:=.absent) (td:=.absent) (pc:=.absent) .base
  (Nat.le_trans (Nat.add_le_add_right (Nat.add_le_add hpl (Nat.mul_le_mul_left 60 N.len)) 300) (Nat.le_of_ble_eq_true rfl)) (Nat.lt_of_le_of_lt (Nat.add_le_add_right (Nat.add_le_add_left (Nat.mul_le_mul_left 9 N.len) _) 300) (Nat.le_of_ble_eq_true rfl)) with
 |@mk L ln' mg' wk' o' rv n' cl' ct' sg' td' pc' Fr cnt' g1 g2 g3 g4 g5 g6 g7 g8 g9=>
 have hL:L.length≤8:=Nat.le_trans g4 N.len;have g5:rv.length+o'.length≤73:=Nat.le_trans g5 (Nat.add_le_add_right (Nat.mul_le_mul_left 9 hL) 1);have hS:rv.length+o'.length<SZ:=Nat.lt_of_le_of_lt g5 (Nat.le_of_ble_eq_true rfl);have hol:(pops o' (-1)).length+1=o'.length:=by
  have:=left_len o' (-1);rwa[left_ground g2] at this
 have hlen:(rv++List.replicate (pops o' (-1)).length (endT ln' 0)).length+1=rv.length+o'.length:=by
  rw[List.length_append,List.length_replicate,Nat.add_assoc,hol]
 have he:=pop_gen (z:=z) (d:=d+1) (P:=P) (tE:=.cmp .ge (.sub (.loc 7) (.neg 1)) (.cI 0)) (cE:=.cI 0) (c0:=0) (cl:= -1) (sc:=scV is) (op:=opOf is) (t:=preT (opOf is)++linesT' L) (ln:=ln') (mg:=mg') (cnt:=cnt') (wk:=wk') (n:=n') (clv:=cl') (ct:=ct') (sg:=sg') (td:=td') (pc:=pc') (o:=o') (by decide) (fun b r R=>(congrArg (fun w:Option V=>w.bind fun x=>cmpV .ge x (.int 0)) last_top).trans (congrArg some (decide_eq_decide.mpr (show b≥0↔ -1<b by omega)))) (fun y0_ y1_=>rfl) g2 rv hS;rw[left_ground g2] at he;refine .mk (L:=L) (rows:=rv++List.replicate (pops o' (-1)).length (endT ln' 0)++[rowT [115,116,111,112] ln' 0 []]) ?_ ?_ g3 (g8 (by decide) N.ne) ?_ (Nat.le_trans g9 (Nat.mul_le_mul_left 60 hL))
 ·have e2:pv (TT z) ⟨scV is::.bool (opOf is)::List.replicate 13 .absent,P⟩ (.ite (.tv (.loc 1)) (.cS [45,45,45,10]) (.cS []))=some (.str (preT (opOf is))):=by cases opOf is<;>rfl
  have e3:pv (TT z) ⟨scV is::.bool (opOf is)::.str (preT (opOf is))::List.replicate 12 .absent,P⟩ (.ite (.tv (.loc 1)) (.cI 1) (.cI 0))=some (.int (ln0 (opOf is))):=by cases opOf is<;>rfl
  exact run_to<|x_cons (x_a1 op_e rfl)<|x_cons (x_a2 (e_p e2) rfl)<|x_cons (x_a3 (e_p e3) rfl)<|x_go 3 rfl<|x_cons (x_a7 (e_lstP rfl rfl) rfl)<|x_cons (x_a8 (e_lst a_nil rfl (Nat.zero_le _)) rfl)<|
   x_cons (x_forL ns_e rfl g1)<|x_cons (x_whl he)<|x_cons (x_expr (e_app (.loc rfl) (e_tupP rfl rfl) (.loc rfl) rfl (Nat.lt_of_succ_le (Nat.le_trans (Nat.le_of_eq hlen) (Nat.le_of_lt hS)))))<|
   x_end<|x_ret (e_ltup (a_cons (e_p rfl) rfl<|a_cons (e_p rfl) rfl<|a_ml rfl rfl a_nil) (Nat.le_of_ble_eq_true rfl)) rfl
 ·rw[g7];rw[List.append_assoc];exact g6.app (reps_ok.app (.cons (.mk nofun) .nil))
 ·rw[List.length_append,show([rowT [115,116,111,112] ln' 0 []]:List V).length=1 from rfl,hlen];exact g5
end Mine.Internal
end
section
open PySem PySem.W
namespace Mine.Internal
variable{z:Zk} {d np i:Nat} {P:Pt} {bf:List Nat} {ln cl:Int} {o:List Int} {r:Row} {F F2:List Row} {g:Sg} {c:Nat}
noncomputable def midL(F:List Row):Bool:=F.all fun r=> !kin r.k [1,12]
theorem Ends.app:∀{A:List Row},midL A=true→Ends F→Ends (A++F)
 |[],_,h=>h
 |r::A,m,h=>.cons ((Bool.not_eq_true' _).mp (and_l m)) (Ends.app (and_r m) h)
theorem mid_rows:midL (rowsOf ln cl o g c)=true:=by
 unfold rowsOf;cases g
 case s=>rfl
 case b=>rfl
 case amp=>rfl
 case bang=>rfl
 all_goals cases opens o cl _<;>rfl
theorem mid_fins:∀{n:Nat},midL (fins ln cl n)=true
 |0=>rfl
 |n+1=>mid_fins (n:=n)
theorem futI_Ends{k:List Int→List Row}(hk:∀o,Ends (k o)):∀{its:Items}{cl:Int}{o:List Int},Ends (futI ln k cl o its)
 |[],cl,o=>hk o
 |x::xs,cl,o=>Ends.app mid_rows (futI_Ends hk)
theorem futL_Ends:∀{L:Lines}{ln:Int}{o:List Int},Ends (futL ln o L)
 |[],ln,o=>Ends.app mid_fins (.last rfl)
 |l::L,ln,o=>Ends.app mid_fins (futI_Ends fun o=>futL_Ends)
noncomputable def hdMid:List Row→Prop
 |[]=>False
 |r::_=>kin r.k [1,12]=false
theorem hd_fins:∀{n:Nat},hdMid F→hdMid (fins ln cl n++F)
 |0,h=>h
 |_+1,_=>rfl
theorem hd_rows:hdMid (rowsOf ln cl o g c++F):=by
 unfold rowsOf;cases g
 case s=>rfl
 case b=>rfl
 case amp=>rfl
 case bang=>rfl
 all_goals cases opens o cl _<;>rfl
theorem futL_hd:∀{L:Lines},L≠[]→(∀l∈L,LineOk l)→hdMid (futL ln o L)
 |[],h,_=>(h rfl).elim
 |(m,[])::L,_,h=>by have:=(h _ (List.mem_cons_self ..)).ok;cases this
 |(m,x::xs)::L,_,h=>hd_fins hd_rows
noncomputable def tailE:Option (List Row)→List V
 |some (r::_)=>if kin r.k [12]=true then [tEnd,tStreamEnd] else [tEnd,tRef r]
 |_=>[]
theorem tail_len:∀{res:Option (List Row)},(tailE res).length≤2
 |none=>Nat.zero_le _
 |some []=>Nat.zero_le _
 |some (r::_)=>by
  show(if kin r.k [12]=true then [tEnd,tStreamEnd] else [tEnd,tRef r]).length≤2;cases kin r.k [12]<;>exact Nat.le_refl _
inductive ResE:Option (List Row)→Prop
 |none:ResE none
 |some {F:List Row}:Ends F→ResE (some F)
theorem all_told(hz:bf.length≤SZ){n:Nat}{E:List V}{res:Option (List Row)}(h:Rd n (.node false) F E res)(hE:ResE res):Stt z bf 11 55 [.self] [52] 0 F (E++tailE res):=by
 refine blk (sim hz h ?_);cases hE with
 |none=>exact rfl
 |@some F hF=>
  cases hF with
  |@last r hk=>
   show Tell z bf 52 [] 0 [r] (if kin r.k [12]=true then _ else _);rw[if_pos hk];exact Tell.st (s52 hz (s51_stop hz hk))
  |@cons r F hk h=>
   show Tell z bf 52 [] 0 (r::F) (if kin r.k [12]=true then _ else _);rw[if_neg (neg_b (kin_sub hk rfl))];exact Tell.st (s52 hz (Tell.st (s51_bad hz hk)))
noncomputable def rlen:Option (List Row)→Nat|some F=>F.length|none=>0
noncomputable def slack:Md→Nat| .node _=>2| .left _ _=>2| .ent _=>1| .pairs=>1
theorem props_len:∀{F:List Row}{a t:Option Nat},(props a t F).2.2.length≤F.length
 |[],a,t=>Nat.le_refl _
 |r::F,a,t=>by
  unfold props;split
  ·exact Nat.le_succ_of_le props_len
  ·split
   ·exact Nat.le_succ_of_le props_len
   ·exact Nat.le_refl _
theorem props_l{a t:Option Nat}(h:props none none F=(a,t,r::F2)):F2.length+1≤F.length:=Nat.le_trans (Nat.le_of_eq (congrArg (fun p:Option Nat×Option Nat×List Row=>p.2.2.length) h).symm) props_len
theorem Rd.len{n:Nat}{md:Md}{F:List Row}{E:List V}{res:Option (List Row)}(h:Rd n md F E res):E.length+3*rlen res≤3*F.length+slack md:=by
 induction h with
 |dash hp hk h ih=>have:=props_l hp;simp only[List.length_cons,slack] at ih⊢;omega
 |seq hp hk h ih=>have:=props_l hp;simp only[List.length_cons,slack] at ih⊢;omega
 |map hp hk h ih=>have:=props_l hp;simp only[List.length_cons,slack] at ih⊢;omega
 |scal hp=>have:=props_l hp;simp only[List.length_cons,List.length_nil,slack,rlen] at this⊢;omega
 |bare hp=>have:=props_l hp;simp only[List.length_cons,List.length_nil,slack,rlen] at this⊢;omega
 |bad=>exact Nat.le_trans (show 1≤2 by decide) (Nat.le_add_left 2 _)
 |badE|badP=>exact Nat.le_add_left 1 _
 |stop|off|finE|finP=>simp only[List.length_cons,List.length_nil,slack,rlen];omega
 |inner _ h ih=>exact ih
 |turn _ h h2 ih ih2=>simp only[List.length_cons,List.length_append,slack,rlen] at ih ih2⊢;omega
 |failE _ h ih=>simp only[List.length_cons,slack,rlen] at ih⊢;omega
 |failK _ h ih=>simp only[List.length_cons,slack,rlen] at ih⊢;omega
 |bareP _ h _ h2 ih ih2=>simp only[List.length_cons,List.length_append,slack,rlen] at ih ih2⊢;omega
 |failV _ h _ h2 ih ih2=>simp only[List.length_cons,List.length_append,slack,rlen] at ih ih2⊢;omega
 |full _ h _ h2 h3 ih ih2 ih3=>simp only[List.length_cons,List.length_append,slack,rlen] at ih ih2 ih3⊢;omega
end Mine.Internal
end
section
open PySem PySem.W
namespace Mine.Internal
variable{z:Zk} {d np i:Nat} {P:Pt} {is:List Int}
theorem x_unp3{T:Tb}{e:Mine.Internal.E}{σ σ':St}{j k:Nat}{u1 u2 u3:V}(h:ev T d e σ (.ok (.ltup [u1,u2,u3]) σ'))(ok:(okS np σ'.loc i u1&&okS np (σ'.loc.set i u1) j u2&&okS np ((σ'.loc.set i u1).set j u2) k u3)=true):
  ex T d np (.unp [i,j,k] e) σ (.ok .next ⟨((σ'.loc.set i u1).set j u2).set k u3,σ'.P⟩):=.mk (Xs.unp3 @h.un (and_l (and_l ok)) (and_r (and_l ok)) (and_r ok))
noncomputable abbrev lw(is:List Int)(op:Bool)(L:Lines)(rows due:List V)(kk:V):List V:=[scV is,.bool op,.str (preT op++linesT' L),.list rows,.list due,kk]
noncomputable abbrev lw1:S:=.unp [1,2,3] (.fcal 168 67 [(.loc 0)] [])
noncomputable abbrev lw2:S:=.asg [4] (.lst [(.tup [(.cS [115,116,114,101,97,109])]),(.tup [(.cS [100,111,99,117,109,101,110,116]),(.loc 1),.cN,.cN])])
noncomputable abbrev lw3:S:=.asg [5] (.fcal 153 70 [(.loc 3),(.cI 0),(.loc 4),(.cB false)] [])
noncomputable abbrev lw4:S:=.ite (.cmp .ge (.loc 5) (.cI 0)) [(.expr (.app (.loc 4) (.tup [(.cS [101,110,100]),(.cB false)]))),(.ite (.cmp .eq (.sub (.sub (.loc 3) (.loc 5)) (.cI 0)) (.cS [115,116,111,112])) [(.expr (.app (.loc 4) (.tup [(.cS [115,116,114,101,97,109,32,101,110,100])])))] [(.expr (.fcal 150 69 [(.loc 3),(.loc 5),(.loc 4)] []))])] []
inductive LawK (z:Zk) (d:Nat) (P:Pt) (is:List Int):Prop
 |mk {op:Bool} {L:Lines} {rows E:List V} {res:Option (List Row)} {n:Nat} {kk:V} {σ1 σ2 σ3:St}:ex (TT z) d 1 lw1 ⟨[scV is,.absent,.absent,.absent,.absent,.absent],P⟩ (.ok .next σ1)→ex (TT z) d 1 lw2 σ1 (.ok .next σ2)→ex (TT z) d 1 lw3 σ2 (.ok .next σ3)→ex (TT z) d 1 lw4 σ3 (.ok .next ⟨lw is op L rows (tStream::tDoc op::(E++tailE res)) kk,P⟩)→
   (∀l∈L,LineOk l)→L≠[]→(linesT' L).length≤480→(futL (ln0 op) [-1] L).length≤73→Rd n (.node false) (futL (ln0 op) [-1] L) E res→ResE res→E.length≤221→LawK z d P is
theorem law_tail{op:Bool}{L:Lines}{rows E:List V}{res:Option (List Row)}{kv:V}(hE:E.length≤221)(hr:ResE res)(hk:KRes rows kv res):
  ex (TT z) (d+1) 1 lw4
   ⟨lw is op L rows (tStream::tDoc op::E) kv,P⟩ (.ok .next ⟨lw is op L rows (tStream::tDoc op::(E++tailE res)) kv,P⟩):=by
 have b1:(tStream::tDoc op::E).length<SZ:=Nat.lt_of_le_of_lt (Nat.succ_le_succ (Nat.succ_le_succ hE)) (Nat.le_of_ble_eq_true rfl);have b2:(tStream::tDoc op::(E++[tEnd])).length<SZ:=by
  rw[List.length_cons,List.length_cons,List.length_append];exact Nat.lt_of_le_of_lt (Nat.succ_le_succ (Nat.succ_le_succ (Nat.succ_le_succ hE))) (Nat.le_of_ble_eq_true rfl)
 cases hk with
 |none=>
  rw[show tailE none=[] from rfl,List.append_nil];exact x_iF (t_p rfl) x_nil
 |@some m F hm=>
  have t0:pt (TT z) ⟨lw is op L rows (tStream::tDoc op::E) (.int m),P⟩ (.cmp .ge (.loc 5) (.cI 0))=some true:=congrArg some (decide_eq_true (Int.natCast_nonneg m));refine x_iT (t_p t0)<|x_cons (x_expr (e_app (us:=tStream::tDoc op::E) (.loc rfl) (e_tupP rfl rfl) (.loc rfl) rfl b1)) ?_;cases hr with
  |@some _ hF=>
  cases hF with
  |@last r hk=>
   cases hm.get with|mk _ g2 _=>
   rw[show tailE (some [r])=[tEnd]++[tStreamEnd] from if_pos hk,←List.append_assoc];have t1:pt (TT z) ⟨lw is op L rows (tStream::tDoc op::(E++[tEnd])) (.int m),P⟩ (.cmp .eq (.sub (.sub (.loc 3) (.loc 5)) (.cI 0)) (.cS [115,116,111,112]))=some true:=(congrArg (fun w:Option V=>(w.bind fun x=>op2V .sub x (.int 0)).bind fun x=>cmpV .eq x (.str [115,116,111,112])) g2).trans (congrArg some (n_stop.trans hk));exact x_cons (x_iT (t_p t1)<|x_cons (x_expr (e_app (us:=tStream::tDoc op::(E++[tEnd])) (.loc rfl) (e_tupP rfl rfl) (.loc rfl) rfl b2)) x_nil) x_nil
  |@cons r F hk h=>
   cases hm.get with|mk _ g2 _=>
   rw[show tailE (some (r::F))=[tEnd]++[tRef r] from if_neg (neg_b (kin_sub hk rfl)),←List.append_assoc];have t1:pt (TT z) ⟨lw is op L rows (tStream::tDoc op::(E++[tEnd])) (.int m),P⟩ (.cmp .eq (.sub (.sub (.loc 3) (.loc 5)) (.cI 0)) (.cS [115,116,111,112]))=some false:=(congrArg (fun w:Option V=>(w.bind fun x=>op2V .sub x (.int 0)).bind fun x=>cmpV .eq x (.str [115,116,111,112])) g2).trans (congrArg some (n_stop.trans (kin_sub hk rfl)));exact x_cons (x_iF (t_p t1)<|x_cons (x_expr (x_fcal (a_ml rfl rfl<|a_cons (e_p rfl) rfl<|a_ml rfl rfl a_nil) rfl (refused_law (out:=tStream::tDoc op::(E++[tEnd])) hm b2) rfl)) x_nil) x_nil
theorem law_pre:LawK z (d+224) P is:=by
 cases built_run (z:=z) (d:=d+222) (P:=P) (is:=is) with
 |@mk L rows h1 h2 h3 h4 h5 h6=>
 have hl:(futL (ln0 (opOf is)) [-1] L).length≤73:=h2.len▸h5;have key:∀{E:List V}{res:Option (List Row)},Rd 224 (.node false) (futL (ln0 (opOf is)) [-1] L) E res→ResE res→LawK z (d+224) P is:=fun{E res}hN hr=>by
  have hE:E.length≤221:=Nat.le_trans (Nat.le_trans (Nat.le_add_right _ _) hN.len) (Nat.add_le_add_right (Nat.mul_le_mul_left 3 hl) 2);cases law hN d P rows [tStream,tDoc (opOf is)] 0 h2 (Nat.lt_of_le_of_lt (Nat.add_le_add_left hE 2) (Nat.le_of_ble_eq_true rfl)) with
  |@mk kv kk g1 g2=>
  exact .mk (op:=opOf is) (L:=L) (rows:=rows) (E:=E) (res:=res) (n:=224) (kk:=kv) (x_unp3 (x_fcal (a_cons (e_p rfl) rfl a_nil) rfl h1 rfl) rfl) (x_a4 (e_lst (a_cons (e_tupP rfl rfl) rfl<|a_cons (e_tupP rfl rfl) rfl a_nil) rfl (Nat.le_of_ble_eq_true rfl)) rfl)
   (x_a5 (x_fcal (a_ml rfl rfl<|a_cons (e_p rfl) rfl<|a_ml rfl rfl<|a_cons (e_p rfl) rfl a_nil) rfl g1 rfl) (by cases g2<;>rfl)) (law_tail hE hr g2) h3 h4 h6 hl hN hr hE
 cases(total 73).2.2 _ futL_Ends hl 0 false with
 |none g=>exact key g .none
 |some g h _=>exact key g (.some h)
end Mine.Internal
end
section
open PySem PySem.W
namespace Mine.Internal
variable{z:Zk} {d np i:Nat} {P P2:Pt} {bf cs:List Nat} {tx:V} {c:Nat}
theorem e_cmp2{T:Tb}{σ:St}{a b e:Mine.Internal.E}{o1 o2:Co}{u v w:V}{q:Bool}(h1:pe T σ a=some u)(h2:pe T σ b=some v)(h3:cmpV o1 u v=some true)(h4:pe T σ e=some w)(h5:cmpV o2 v w=some q):ev T d (.cmp2 a o1 b o2 e) σ (.ok (.bool q) σ):=.mk (Ev.cmp2 h1 h2 h3 h4 h5)
theorem run_sup{f gf:Nat}{es:List Mine.Internal.E}{body:List S}{vs:Ar}{xs bs:List V}{z2:Mine.Internal.R Fl}{r r1:CR}{σ1 σ':St}{v:V}(hS:SupX (TT z) gf f)(hG:gf<75)(hx:xs.length=((TT z).fn f).np)(hc:((TT z).fn f).code= .expr (.supi gf es)::body)(hi:(locOf (TT z) f xs)[0]? =some .self)(ha:(P.lookup 1000).isSome=true)
  (h:args (TT z) d es ⟨locOf (TT z) f xs,P⟩ (.ok vs σ1)) (hb:bindK ((TT z).fn gf) (.self::vs.map (·.1)) []=some bs) (H:run (TT z) d gf bs σ1.P r) (hr:resC (none::vs.map (·.2)) σ1.loc r= .ok v σ') (k:exs (TT z) d ((TT z).fn f).np body σ' z2) (he:crOf ((TT z).fn f).np z2=r1):run (TT z) (d+1) f xs P r1:=
 he▸hS.casesOn fun hS=>.mk (Run.sup hS (z.fok gf hG) hx hc hi ha @h.un hb @H.un hr @k.un)
noncomputable def pnB(c:Nat):Bool:=c==10||(Nat.ble 32 c&&Nat.ble c 126)
noncomputable abbrev prAll(cs:List Nat):Bool:=cs.all pnB
theorem cmp_le{a b:Nat}{q:Bool}(h:decide (a≤b)=q):cmpV .le (.str [a]) (.str [b])=some q:=congrArg some h
theorem print_run(h:pnB c=true):run (TT z) (d+1) 7 [.str [c]] P (.ret (.bool true) P [.str [c]]):=by
 by_cases e:c=10
 ·subst e;exact run_to<|x_end<|x_ret (e_orT (e_p rfl) rfl rfl) rfl
 ·have h2:(Nat.ble 32 c&&Nat.ble c 126)=true:=by
   unfold pnB at h;rwa[beq_eq_false_iff_ne.mpr e,Bool.false_or] at h
  have a:=decide_eq_true (Nat.le_of_ble_eq_true (and_l h2));have b:=decide_eq_true (Nat.le_of_ble_eq_true (and_r h2));have m:pe (TT z) ⟨[.str [c]],P⟩ (.cmp .isin (.loc 0) (.cS [9,10,13,133]))=some (.bool (decide (c∈([9,10,13,133]:List Nat)))):=rfl;cases q:decide (c∈([9,10,13,133]:List Nat)) with
  |true=>exact run_to<|x_end<|x_ret (e_orT (e_p (pv_of (m.trans (congrArg (fun b=>some (V.bool b)) q)) rfl)) rfl rfl) rfl
  |false=>exact run_to<|x_end<|x_ret (e_orF (e_p (pv_of (m.trans (congrArg (fun b=>some (V.bool b)) q)) rfl)) rfl rfl<|e_orT (e_cmp2 rfl rfl (cmp_le a) rfl (cmp_le b)) rfl rfl) rfl
noncomputable abbrev prL:List S:=match f_Reader_check_printable.code with| .forS _ _ _ b::_=>b|_=>[]
inductive PrintK (z:Zk) (d:Nat) (tx:V) (P:Pt) (cs:List Nat) (n:Nat) (σ:St):Prop
 |mk {x2 x3:V}:fs (TT z) d 2 2 3 prL cs n σ (.ok .next ⟨[.self,tx,x2,x3,.absent],P⟩)→PrintK z d tx P cs n σ
theorem print_loop:∀{cs:List Nat}{n:Nat}{x2 x3:V},prAll cs=true→PrintK z (d+1) tx P cs n ⟨[.self,tx,x2,x3,.absent],P⟩
 |[],n,x2,x3,h=>.mk s_nil
 |c::cs,n,x2,x3,h=>by
  cases print_loop (cs:=cs) (n:=n+1) (x2:=.int n) (x3:=.str [c]) (and_r h) with|mk g=>
  exact .mk (s_go rfl (x_cons (x_iF (t_not (b:=true) (t_tv (x_fcal (a_cons (e_p rfl) rfl a_nil) rfl (print_run (and_l h)) rfl) rfl rfl)) x_nil) x_nil) g)
theorem check_run(h:prAll cs=true):run (TT z) (d+2) 5 [.self,.str cs] P (.ret .none P [.self,.str cs]):=by
 cases print_loop (z:=z) (d:=d) (tx:=.str cs) (P:=P) (cs:=cs) (n:=0) (x2:=.absent) (x3:=.absent) h with|mk g=>
 exact run_to<|x_cons (x_forS rfl g) x_nil
noncomputable def PR(nm:V)(bf:List Nat):Pt:=[(1000,.none),(0,nm),(1,.none),(2,(.int 0)),(3,(.bool true)),(4,(.str bf)),(5,(.int 0)),(6,.none),(7,.none),(8,.none),(9,(.int 0)),(10,(.int 0)),(11,(.int 0))]
theorem reader_run(h:prAll cs=true)(hl:cs.length+1≤SZ):run (TT z) (d+3) 0 [.self,.str cs] [(1000,.none)] (.ret .none (PR (.str NAME) (cs++[0])) [.self,.str cs]):=
 run_to<|x_go 12 (σ':=⟨[.self,.str cs],PR .none []⟩) rfl<|x_cons (x_iT (t_p rfl)<|x_cons (x_q (σ':=⟨[.self,.str cs],PR (.str NAME) []⟩) rfl)<|x_cons (x_expr (x_mcal rfl (a_cons (e_p rfl) rfl a_nil) rfl (check_run h) rfl))<|x_cons (x_setA (e_p (pv_of (add_str (b:=[0]) hl) rfl)) rfl) x_nil) x_nil
noncomputable abbrev m00(bf:List Nat):V:=mk bf ⟨0,0,0,0,false,[],0,0,[],false,[]⟩
noncomputable abbrev t00(bf:List Nat):V:=.inst 179 [(94,m00 bf),(99,m00 bf),(8,.none)]
noncomputable abbrev s00(bf:List Nat):SS:=⟨0,0,0,0,false,[t00 bf],0,-1,[],true,[]⟩
noncomputable abbrev q00:QS:=⟨.none,.none,.dict [],[],[],.meth 49⟩
noncomputable abbrev PQ14(bf:List Nat)(l:List V):Pt:=PR (.str NAME) bf++[(12,(.bool false)),(13,(.int 0)),(14,(.list l))]
theorem sstart_run:run (TT z) (d+2) 20 [.self] (PQ14 bf []) (.ret .none (PQ14 bf [t00 bf]) [.self]):=
 have g:run (TT z) (d+1) 4 [.self] (PQ14 bf []) (.ret (m00 bf) (PQ14 bf []) [.self]):=run_to (x_end (x_iT (t_p rfl) (x_end (x_ret (e_new z.recs rfl) rfl))))
 run_to<|x_cons (x_a1 (m_cal rfl rfl g) rfl)<|x_cons (x_expr (e_app (us:=[]) (.attr rfl rfl) (e_new z.recs rfl) (.attr rfl rfl) rfl (by decide))) x_nil
noncomputable abbrev PSc(bf:List Nat):Pt:=PQ14 bf [t00 bf]++[(15,(.int 0)),(16,(.int (-1))),(17,(.list [])),(18,(.bool true)),(19,(.dict []))]
theorem scanner_run(h:prAll cs=true)(hl:cs.length+1≤SZ):run (TT z) (d+4) 8 [.self,.str cs] [(1000,.none)] (.ret .none (PSc (cs++[0])) [.self,.str cs]):=
 run_sup (gf:=0) z.sup0 (by decide) rfl rfl rfl rfl (a_cons (e_p rfl) rfl a_nil) rfl (reader_run h hl) rfl (x_go 2 rfl<|x_cons (x_setA (e_lst a_nil rfl (Nat.zero_le _)) rfl)<|x_cons (x_expr (m_cal rfl rfl (sstart_run (d:=d+1))))<|x_go 2 rfl<|x_cons (x_setA (e_lst a_nil rfl (Nat.zero_le _)) rfl)<|x_go 1 rfl<|x_cons (x_setA e_dic rfl) x_nil) rfl
theorem parser_run(h:prAll cs=true)(hl:cs.length+1≤SZ):run (TT z) (d+5) 46 [.self,.str cs] [(1000,.none)] (.ret .none (enc (cs++[0]) (s00 (cs++[0])) q00) [.self,.str cs]):=
 run_sup (gf:=8) z.sup8 (by decide) rfl rfl rfl rfl (a_cons (e_p rfl) rfl a_nil) rfl (scanner_run h hl) rfl (x_go 2 rfl<|x_cons (x_setA e_dic rfl)<|x_cons (x_setA (e_lst a_nil rfl (Nat.zero_le _)) rfl)<|x_cons (x_setA (e_lst a_nil rfl (Nat.zero_le _)) rfl)<|x_cons (x_setA (e_meth rfl) rfl) x_nil) rfl
theorem new_parser(h:prAll cs=true)(hl:cs.length+1≤SZ){l:List V}:ev (TT z) (d+5) (.new 162 [(.loc 0)] []) ⟨.str cs::l,[]⟩ (.ok .self ⟨.str cs::l,enc (cs++[0]) (s00 (cs++[0])) q00⟩):=
 have g:args (TT z) (d+5) [.loc 0] ⟨.str cs::l,[]⟩ (.ok [(.str cs,none)] ⟨.str cs::l,[]⟩):=a_cons (e_p rfl) rfl a_nil
 .mk (Ev.newp z.par rfl @g.un rfl rfl @(parser_run (z:=z) (d:=d) h hl).un)
theorem q00_ok:PQ0 q00 [] 0:=⟨rfl,rfl,rfl,rfl,rfl,rfl,rfl⟩
end Mine.Internal
end
section
open PySem PySem.W
namespace Mine.Internal
variable{z:Zk} {d np i:Nat} {op:Bool} {L:Lines}
theorem pn_let{c:Nat}(h:letB c=true):pnB c=true:=by
 have a:=of_decide_eq_true (and_l h);have b:=of_decide_eq_true (and_r h);unfold pnB;rw[show Nat.ble 32 c=true from Nat.ble_eq_true_of_le (Nat.le_trans (by decide) a),show Nat.ble c 126=true from Nat.ble_eq_true_of_le (Nat.le_trans b (by decide)),Bool.and_true,Bool.or_true]
theorem pn_app{a b:List Nat}(h:prAll a=true)(k:prAll b=true):prAll (a++b)=true:=List.all_append.trans ((congrArg (· &&_) h).trans k)
theorem pn_piece{g:Sg}{c:Nat}(h:letB c=true):prAll (piece g c)=true:=by
 have k:=pn_let h;have e:∀l r,prAll l=true→prAll r=true→prAll (l++c::r)=true:=fun l r a b=>by
  unfold prAll at*;rw[List.all_append,List.all_cons,a,b,k];rfl
 cases g
 case key=>exact e [] [58,32] rfl rfl
 case s=>exact e [39] [39,32] rfl rfl
 case b=>exact e [] [32,35] rfl rfl
 case amp=>exact e [38] [32] rfl rfl
 case bang=>exact e [33] [32] rfl rfl
 all_goals rfl
theorem sg_rest{g:Sg}{f:Bool→Bool}{a:Bool}{r:Items}{C:Prop}(h:sgOk g f a r.isEmpty=true)(k:∀b,f b=true→C)(k0:r=[]→C):C:=by
 cases g
 case b=>exact k0 (List.isEmpty_iff.mp h)
 case s=>exact k _ h
 case amp=>exact k _ h
 case bang=>exact k _ h
 all_goals exact k _ (and_r h)
theorem pn_body:∀{its:Items}{a:Bool},okI a its=true→prAll (bodyT its)=true
 |[],a,h=>rfl
 |x::xs,a,h=>pn_app (pn_piece (and_l h)) (sg_rest (and_r h) (fun b h=>pn_body h) fun e=>e▸rfl)
theorem pn_sp:∀{m:Nat},prAll (List.replicate m 32)=true
 |0=>rfl
 |m+1=>pn_sp (m:=m)
theorem pn_lines:∀{L:Lines},(∀l∈L,LineOk l)→prAll (linesT' L)=true
 |[],h=>rfl
 |l::L,h=>pn_app (pn_app pn_sp (pn_app (pn_body (and_r (h l (List.mem_cons_self ..)).ok)) rfl)) (pn_lines fun x hx=>h x (List.mem_cons_of_mem _ hx))
inductive ScK (op:Bool) (L:Lines):Prop
 |mk {n:Nat}:Sc (preT op++linesT L) n (s00 (preT op++linesT L)) (⟨.sst,0,0,0⟩::((if op=true then [⟨.dst,0,0,0⟩] else [])++futL (ln0 op) [-1] L))→ScK op L
theorem sc_start(hL:L≠[])(hok:∀l∈L,LineOk l):ScK op L:=by
 have htk:Tks [⟨.sst,0,0,0⟩] (s00 (preT op++linesT L)).toks:=.cons (.mk rfl rfl) .nil;cases op with
 |true=>exact .mk (Sc.doc (s:=s00 (preT true++linesT L)) (ls:=L) (Q:=[⟨.sst,0,0,0⟩]) rfl ⟨rfl,rfl⟩ (fun l hl=>(hok l hl).ok) htk rfl rfl ⟨0,rfl,rfl⟩)
 |false=>
  match L,hL with
  |(m,[])::L,_=>have:=(hok _ (List.mem_cons_self ..)).ok;cases this
  |(m,x::xs)::ls,_=>
   have h:=hok _ (List.mem_cons_self ..);have hm:(0:Int)≤m:=Int.natCast_nonneg m;have hn:(-1:Int)<m:=Int.lt_of_lt_of_le (by decide) hm;have e1:pops [-1] (m:Int)=[]:=List.takeWhile_cons_of_neg fun e=>Int.lt_asymm hn (of_decide_eq_true e);have e2:left [-1] (m:Int)=[-1]:=left_n (Int.lt_asymm hn);have e3:futL (ln0 false) [-1] ((m,x::xs)::ls)=futI 0 (fun o=>futL (0+1) o ls) m [-1] (x::xs):=by
    show fins 0 m (pops [-1] (m:Int)).length++futI 0 (fun o=>futL (0+1) o ls) m (left [-1] (m:Int)) (x::xs)=_;rw[e1,e2];rfl
   have e4:linesT ((m,x::xs)::ls)=List.replicate m 32++(piece x.1 x.2++(bodyT xs++10::linesT ls)):=congrArg (List.replicate m 32++ ·) (List.append_assoc ..);refine .mk (n:=2*nOf (x::xs) ls+1) ?_;rw[e3];exact Sc.live (s:=s00 (preT false++linesT ((m,x::xs)::ls))) (Q:=[⟨.sst,0,0,0⟩]) (o:=[-1]) (its:=x::xs) (ls:=ls) (cl:=m) ⟨rfl,.base,⟨rfl,rfl⟩,of_decide_eq_true (and_l (and_l h.ok)),fun l hl=>(hok l (List.mem_cons_of_mem _ hl)).ok,fun y0_=>rfl⟩ htk hm
    (.cons (Nat.le_trans h.mg (by decide)) ⟨0,rfl,e4⟩ (Int.zero_add _).symm) ⟨Int.le_of_lt hn,fun y0_=>hn⟩ (and_r h.ok) (.no rfl)
inductive ReadK (z:Zk) (d:Nat) (tx:List Nat) (R:List V):Prop
 |mk {P0:Pt} {σ1:St}:ex (TT z) d 1 (.asg [1] (.new 162 [(.loc 0)] [])) ⟨[.str tx,.absent,.absent,.absent],[]⟩ (.ok .next σ1)→ex (TT z) d 1 (.asg [2] (.lst [])) σ1 (.ok .next ⟨[.str tx,.self,.list [],.absent],P0⟩)→ROut z d (.str tx) ⟨[.str tx,.self,.list [],.absent],P0⟩ R→ReadK z d tx R
theorem read_pre{n:Nat}{E:List V}{res:Option (List Row)}(hok:∀l∈L,LineOk l)(hL:L≠[])(hl:(linesT' L).length≤480)(hF:(futL (ln0 op) [-1] L).length≤73)(hR:Rd n (.node false) (futL (ln0 op) [-1] L) E res)(hr:ResE res)(hE:E.length≤221):
  ReadK z (d+16) (preT op++linesT' L) (tStream::tDoc op::(E++tailE res)):=by
 have hpl:(preT op).length≤4:=by cases op<;>exact Nat.le_of_ble_eq_true rfl
 have hbf:preT op++linesT' L++[0]=preT op++linesT L:=by rw[linesT_eq,List.append_assoc]
 have hpr:prAll (preT op++linesT' L)=true:=pn_app (by cases op<;>rfl) (pn_lines hok);have hz:(preT op++linesT' L).length+1≤SZ:=by
  rw[List.length_append];exact Nat.le_trans (Nat.add_le_add_right (Nat.add_le_add hpl hl) 1) (Nat.le_of_ble_eq_true rfl)
 have hz2:(preT op++linesT L).length≤SZ:=by rw[←hbf,List.length_append];exact hz
 have hg:=new_parser (z:=z) (d:=d+11) hpr hz (l:=[.absent,.absent,.absent]);have S:=all_told (z:=z) hz2 hR hr;have hd:=futL_hd (o:=[-1]) (ln:=ln0 op) hL hok;cases sc_start (op:=op) hL hok with|mk hS=>
 rw[hbf] at hg;refine .mk (x_a1 hg rfl) (x_a2 (e_lst a_nil rfl (Nat.zero_le _)) rfl) ?_;have hE2:(E++tailE res).length+2<SZ:=by
  rw[List.length_append];exact Nat.lt_of_le_of_lt (Nat.add_le_add_right (Nat.add_le_add hE tail_len) 2) (Nat.le_of_ble_eq_true rfl)
 generalize futL (ln0 op) [-1] L=F at hS hF S hd;cases F with
 |nil=>exact hd.elim
 |cons r F=>exact rd_all hz2 hS q00_ok rfl (Nat.lt_of_le_of_lt (Nat.le_of_succ_le hF) (by decide)) hd S hE2
end Mine.Internal
end
section
open PySem PySem.W
namespace Mine.Internal
variable{n:Nat} {md:Md} {F:List Row} {E:List V} {res:Option (List Row)} {a t:Option Nat} {b:Bool} {r:Row}
noncomputable abbrev sv(E:List V):Bool:=E.all (selfV 4)
theorem sv_c{v:V}(h:selfV 4 v=true)(k:sv E=true):sv (v::E)=true:=(congrArg (· &&_) h).trans k
theorem sv_a{E2:List V}(h:sv E=true)(k:sv E2=true):sv (E++E2)=true:=List.all_append.trans ((congrArg (· &&_) h).trans k)
theorem Rd.self(h:Rd n md F E res):sv E=true:=by
 induction h with
 |@dash _ _ _ a t _ _ _ hp hk h ih=>exact sv_c (by cases a<;>cases t<;>rfl) ih
 |@seq _ _ _ _ a t _ _ _ hp hk h ih=>exact sv_c (by cases a<;>cases t<;>rfl) ih
 |@map _ _ _ _ a t _ _ _ hp hk h ih=>exact sv_c (by cases a<;>cases t<;>rfl) ih
 |@scal _ _ _ _ a t r hp hk=>exact sv_c (by cases a<;>cases t<;>cases r.k<;>rfl) rfl
 |@bare _ _ _ _ a t _ hp=>exact sv_c (by cases a<;>cases t<;>rfl) rfl
 |bad|badE|badP|stop|off|finE|finP=>exact sv_c rfl rfl
 |inner _ h ih=>exact ih
 |turn _ h h2 ih ih2=>exact sv_a ih ih2
 |failE _ h ih=>exact ih
 |failK _ h ih=>exact ih
 |bareP _ h _ h2 ih ih2=>exact sv_a ih (sv_c rfl ih2)
 |failV _ h _ h2 ih ih2=>exact sv_a ih ih2
 |full _ h _ h2 h3 ih ih2 ih3=>exact sv_a ih (sv_a ih2 ih3)
theorem tail_self:∀{res:Option (List Row)},sv (tailE res)=true
 |none=>rfl
 |some []=>rfl
 |some (r::_)=>by
  show sv (if kin r.k [12]=true then [tEnd,tStreamEnd] else [tEnd,tRef r])=true;cases kin r.k [12]<;>rfl
theorem due_self{op:Bool}(h:Rd n md F E res):sv (tStream::tDoc op::(E++tailE res))=true:=sv_c rfl (sv_c (by cases op<;>rfl) (sv_a h.self tail_self))
end Mine.Internal
end
section
open PySem PySem.W PySem.Calls PyProof.Rows
namespace Mine.Internal
noncomputable section
noncomputable def bS(l:List Stmt)(i:Nat):Stmt:=l.getD i (.Pass ⟨0,0,0,0⟩)
noncomputable def yP:PySem.Pos:=⟨0,0,0,0⟩
noncomputable def yW:Stmt→Stmt| .Try [tw] _ _ _ _=>tw|s=>s
noncomputable def yT:Stmt→PySem.Pos| .Try _ _ _ _ p=>p|_=>yP
noncomputable def yH:Stmt→PySem.Pos×PySem.Pos×Expr×PySem.Pos| .Try _ [.ExceptHandler (some (.Name _ np)) _ [.Expr se sp] pos] _ _ _=>(np,pos,se,sp)|_=>(yP,yP,.Name ⟨#[]⟩ yP,yP)
noncomputable def dR:Stmt:=MineH.D 66
noncomputable def bR:List Stmt:=match dR with| .FunctionDef _ _ b _ _ _ _ _ _ _=>b|_=>[]
noncomputable def sR:Scope:=match dR with| .FunctionDef _ _ _ _ _ _ s _ _ _=>s|_=>⟨.function,[],false,false,[]⟩
noncomputable def nR:List Str:=[Str.ofString "text",Str.ofString "parser",Str.ofString "got",Str.ofString "refusal"]
theorem bR_eq:bR=[bS bR 0,bS bR 1,.Try [yW (bS bR 2)] [.ExceptHandler (some (.Name (Str.ofString "ParserError") (yH (bS bR 2)).1)) (some (Str.ofString "refusal")) [.Expr (yH (bS bR 2)).2.2.1 (yH (bS bR 2)).2.2.2] (yH (bS bR 2)).2.1] [] [] (yT (bS bR 2)),bS bR 3]:=by kernel_rfl
noncomputable def dR'(T:Tb):List Stmt×Scope×List Str×List (Str×Addr):=((T.fd 75).body,(T.fd 75).scope,(T.fd 75).ns,(T.fd 75).cl)
variable{w:World} {X:Frag}
theorem dR_eq:dR' (TK w w.params X)=(bR,sR,nR,[]):=by kernel_rfl
noncomputable abbrev eR:List E:=[(.cS [114,101,102,117,115,101,100]),(.attr (.attr (.loc 3) 166) 10),(.attr (.attr (.loc 3) 166) 11)]
theorem rd_end{z:Zk}{d:Nat}{tx:V}{P:Pt}{R:List V}(hl:R.length≤400)(h:ROut z d tx ⟨[tx,.self,.list [],.absent],P⟩ R):RdEnd (TT z) d (.whl rdT rdB) tx P eR 1293 R:=by
 cases h with
 |ok h=>exact .ok (x_whl h).un
 |@exc x r G h hx hd=>
  cases hx with|@mk a b c bf s e1 e2=>
  have hG:G.length<SZ:=Nat.lt_of_lt_of_le (by rw[hd,List.length_append] at hl;exact hl) (Nat.le_of_ble_eq_true rfl);refine .exc (us:=[.str [114,101,102,117,115,101,100],.int r.ln,.int r.cl]) (x_whl h).un rfl ?_ rfl (Nat.le_of_ble_eq_true rfl) hG hd;rw[←e1,←e2];rfl
noncomputable abbrev i1R:S:=.asg [1] (.new 162 [(.loc 0)] [])
noncomputable abbrev i2R:S:=.asg [2] (.lst [])
noncomputable def rdChk(T:Tb):Bool:=fitS T nR sR i1R (bS bR 0)&&fitS T nR sR i2R (bS bR 1)&&fitS T nR sR (.whl rdT rdB) (yW (bS bR 2))&&fitS T nR sR (.ret (.loc 2)) (bS bR 3)&&fitS T (nR.take 3) sR (.ret (.loc 2)) (bS bR 3)&&fit T nR sR (.app (.loc 2) (.tup eR)) (yH (bS bR 2)).2.2.1&&noComp (yH (bS bR 2)).2.2.1&&
 (nsIn T.K mainGlobals "ParserError"==some (some (.ref 1293)))&&ktsIn T.K 1293 "BaseException"&&glbN sR "ParserError"
theorem rd_chk:rdChk (TK w w.params X)=true:=by kernel_rfl
theorem read_turns{z:Zk}{c:Cx}{A:Around}{d:Nat}{tx:List Nat}{due:List V}(e:dR' (TT z)=(bR,sR,nR,[]))(k:rdChk (TT z)=true)(hnp:((TT z).fn 75).np=1)(g:Gd (TT z) (d+1) c A)(ho:c.outer=[])(h:ReadK z d tx due)(hl:due.length≤400):Turns (TT z) c A 75 (.str tx) [] (.list due):=@fun s0 vals bk g0 L' s1 m1 fr1 C1 S1 Q Er q=>by
 cases h with|@mk P0 σ1 h1 h2 h3=>
 have e1:((TT z).fd 75).body=bR:=congrArg (·.1) e;have e2:((TT z).fd 75).scope=sR:=congrArg (·.2.1) e;have e3:((TT z).fd 75).ns=nR:=congrArg (·.2.2.1) e;have k9:=and_l k;have k8:=and_l k9;have k7:=and_l k8;have k6:=and_l k7;have k5:=and_l k6;have k4:=and_l k5;have k3:=and_l k4;have k2:=and_l k3;have G:Gd (TT z) d (c.call (TT z) 75 A s0 g0 L' [.str tx] vals) (A.deeper (c.call (TT z) 75 A s0 g0 L' [.str tx] vals).env):=⟨g.K,C1,g.A.toC.call⟩;have c2:(c.call (TT z) 75 A s0 g0 L' [.str tx] vals).scope=sR:=e2;have c3:(c.call (TT z) 75 A s0 g0 L' [.str tx] vals).ns=nR:=e3;have hp:(c.call (TT z) 75 A s0 g0 L' [.str tx] vals).pin.length≤1:=Nat.le_trans (Nat.le_of_eq (List.length_zipWith (f:=pinOf) (l₁:=[V.str tx]) (l₂:=vals))) (Nat.min_le_left ..);have hpin:∀{m:Str→Option Value}{G:List V},Pin (c.call (TT z) 75 A s0 g0 L' [.str tx] vals) m [.str tx,.self,.list G,.absent]:=@fun m G' i wv x u h1 h2 h3=>by
  have h1:(List.zipWith pinOf [V.str tx] vals)[i]? =some wv:=h1;cases vals with
  |nil=>exact nomatch h1
  |cons v vs=>
   cases i with
   |zero=>cases h1;cases h3;exact rfl
   |succ i=>exact nomatch h1
 have eo:∀{l:List Env},l=[]→List.filterMap (fun(e:Env)=>e.frame) (c.env::l)=[c.L]:=fun e=>e▸rfl;rw[e1,bR_eq];exact read_ok (es:=eR) (CX:=1293) (i1:=i1R) (i2:=i2R) (iw:=.whl rdT rdB) (due:=due) (tx:=.str tx) (P0:=P0) G (n0:=Str.ofString "text") (n1:=Str.ofString "parser") (n2:=Str.ofString "got") (n3:=Str.ofString "refusal") c3
  hp (by rw[c2,c3];exact and_l k2) (by rw[c2,c3];exact and_r k2) (by rw[c2,c3];exact and_r k3) (fun ns hns=>by rw[c2];exact hns.elim (fun e=>e▸and_r k4) fun e=>e▸and_r k5) (by rw[c2,c3];exact and_r k6) (and_r k7) (beq_iff_eq.mp (and_r k8)) (and_r k9) (by rw[c2];exact and_r k) hpin h1.un h2.un (rd_end hl h3) (by
   have S1:SR (TT z) (c.call (TT z) 75 A s0 g0 L' [.str tx] vals) m1 bk fr1 s1 ⟨[.str tx]++List.replicate (((TT z).fn 75).nl- ((TT z).fn 75).np) .absent,[]⟩:=S1;exact S1) fun KT=>q (eo ho▸KT)
end
end Mine.Internal
end
section
open PySem PySem.W PySem.Calls PyProof.Rows
namespace Mine.Internal
noncomputable section
theorem rns_well{T:Tb}{bk:Bk}{P:Params}{h:Heap}:∀{is:List Int}{vs:List Value},WellAll P h vs (ofPys (is.map .int))→RNs T bk (is.map V.int) vs
 |[],vs,H=>by cases H;rfl
 |i::is,vs,H=>by
  cases H with|cons h1 h2=>
  cases h1;exact⟨_,_,rfl,⟨_,rfl⟩,rns_well h2⟩
theorem look_app{K:Frag}{a:Addr}{o:Obj}{h:Heap}(KX:K.In h)(ho:h.get? a=some o):(K++[(a,o)]).lookup a=some o:=by
 rw[List.lookup_append];cases hk:K.lookup a with
 |none=>exact List.lookup_cons_self
 |some o'=>exact(KX _ _ hk).symm.trans ho
theorem in_app{K:Frag}{a:Addr}{o:Obj}{h:Heap}(KX:K.In h)(ho:h.get? a=some o):Frag.In (K++[(a,o)]) h:=by
 intro b p hb;rw[List.lookup_append] at hb;cases hk:K.lookup b with
 |none=>
  rw[hk] at hb;have:=List.mem_singleton.mp (lk_mem (show([(a,o)]:Frag).lookup b=some p from hb));cases this;exact ho
 |some o'=>rw[hk] at hb;exact KX _ _ (hk.trans hb)
noncomputable def sL:Str:=Str.ofString "script"
noncomputable def lawNs:List Str:=[Str.ofString "opened",Str.ofString "text",Str.ofString "row",Str.ofString "due",Str.ofString "k"]
noncomputable def lawN:List Str:=sL::lawNs
noncomputable abbrev lastR:S:=.ret (.cmp .eq (.fcal 169 75 [.loc 2] []) (.loc 4))
noncomputable abbrev bL:List Stmt:=MineH.dL.body
theorem bL_eq:bL=[bS bL 0,bS bL 1,bS bL 2,bS bL 3,bS bL 4]:=by kernel_rfl
noncomputable def lwChk(T:Tb):Bool:=fitS T lawN MineH.dL.scope lw1 (bS bL 0)&&fitS T lawN MineH.dL.scope lw2 (bS bL 1)&&fitS T lawN MineH.dL.scope lw3 (bS bL 2)&&fitS T lawN MineH.dL.scope lw4 (bS bL 3)&&fitS T lawN MineH.dL.scope lastR (bS bL 4)
theorem law_walk{z:Zk}{c:Cx}{A:Around}{is:List Int}(hc:lwChk (TT z)=true)(e:dR' (TT z)=(bR,sR,nR,[]))(k:rdChk (TT z)=true)(hnp:((TT z).fn 75).np=1)(hb:∀tx:V,bindK ((TT z).fn 75) [tx] []=some [tx])(g:Gd (TT z) 224 c A)(ho:c.outer=[])(hcl:c.cl=[])(hn:c.ns=lawN)(hs:c.scope=MineH.dL.scope)(hp:c.pin.length≤1)(hu:A.units+1+4<cLine)
  {s:Shared} {m:Str→Option Value} {bk:Bk} {fr:Led} (S:SR (TT z) c m bk fr s ⟨[scV is,.absent,.absent,.absent,.absent,.absent],[]⟩) {Q:Flow→Shared→Prop} {Er:Value→Shared→Prop} (q:∀{s' m' bk' fr' σ'},SR (TT z) c m' bk' fr' s' σ'→Q (.ret (.bool true)) s'):wpAny (model (TT z).prog (TT z).w) A (execs bL c.env) Q Er s:=by
 cases law_pre (z:=z) (d:=0) (P:=[]) (is:=is) with
 |@mk op L rows E res n kk σ1 σ2 σ3 h1 h2 h3 h4 hok hL hl hF hR hr hE=>
 have k4:=and_l hc;have k3:=and_l k4;have k2:=and_l k3;have hrd:=read_pre (z:=z) (d:=207) hok hL hl hF hR hr hE;have hlen:(tStream::tDoc op::(E++tailE res)).length≤400:=by
  rw[List.length_cons,List.length_cons,List.length_append];exact Nat.le_trans (Nat.add_le_add_right (Nat.add_le_add hE tail_len) 2) (Nat.le_of_ble_eq_true rfl)
 rw[bL_eq];refine wpAny_execs_cons (h1.un g hp (by rw[hn,hs];exact and_l k2) S @fun s1 m1 b1 fl fp1 S1 l1 hfl=>?_);cases hfl;refine wpAny_execs_cons (h2.un g hp (by rw[hn,hs];exact and_r k2) S1 @fun s2 m2 b2 fl fp2 S2 l2 hfl=>?_);cases hfl;refine wpAny_execs_cons (h3.un g hp (by rw[hn,hs];exact and_r k3) S2 @fun s3 m3 b3 fl fp3 S3 l3 hfl=>?_);cases hfl;refine wpAny_execs_cons (h4.un g hp (by rw[hn,hs];exact and_r k4) S3 @fun s4 m4 b4 fl fp4 S4 l4 hfl=>?_);cases hfl;refine wpAny_execs_cons (law_last (i:=2) (j:=4) (k:=169) (tx:=.str (preT op++linesT' L)) g ho hcl (congrArg (·.2.2.2) e) rfl rfl hnp (hb _) (read_turns e k hnp g ho hrd hlen) rfl (due_self hR) hu S4 (by rw[hn,hs];exact and_r hc) @fun s5 b5 fr5 σ5 S5=>q S5)
end
end Mine.Internal
end
section
open PySem PySem.W PySem.Calls PyProof.Rows
namespace Mine.Internal
noncomputable section
theorem lw_chk{w:World}{X:Frag}:lwChk (TK w w.params X)=true:=by kernel_rfl
noncomputable def m0(a:Addr):Str→Option Value:=fun x=>List.lookup x [(sL,Value.ref a)]
theorem m0_script(a:Addr):m0 a sL=some (.ref a):=List.lookup_cons_self
theorem lwN_none:lawNs.all (fun x=> !(x==sL))=true:=by kernel_rfl
theorem m0_none{a:Addr}{x:Str}(h:(!(x==sL))=true):m0 a x=none:=by
 show List.lookup x [(sL,Value.ref a)]=none;rw[List.lookup_cons,not_r h];rfl
theorem walk_gen{z:Zk}{s₁:Shared}{h₁:Heap}{tk:Tok}{fa a:Addr}{cd:Value}{is:List Int}{vs:List Value}{n:Nat}{p:Program}{loose:List Str}{mean:ExcName→Option Value}{mg mb:Str→Option Value}(K:TbX (TT z))(hc:lwChk (TT z)=true)(e:dR' (TT z)=(bR,sR,nR,[]))(k:rdChk (TT z)=true)(hnp:((TT z).fn 75).np=1)(hb:∀tx:V,bindK ((TT z).fn 75) [tx] []=some [tx])
  (Tp:Top p loose mean mg mb s₁.heap) (XI:(TT z).K.In s₁.heap) (hl:(TT z).K.lookup a=some (listOf vs.toArray n)) (rs:∀bk,RNs (TT z) bk (is.map V.int) vs) (hlen:is.length≤63) {L:Addr} (F:Fr s₁.heap L h₁ (m0 a)) (B:Below callerA s₁.heap [] s₁.heap)
  {Q:Flow→Shared→Prop} {Er:Value→Shared→Prop} (h:∀{s' m'},Fr s₁.heap L s'.heap m'→s'.gens=s₁.gens→s'.os=s₁.os→Q (.ret (.bool true)) s') (N0:News s₁.heap L h₁ []):
  wpAny (model (TT z).prog (TT z).w) (callerA.deeper (envOf MineH.dL.name MineH.dL.scope L fa cd)) (execs MineH.dL.body (envOf MineH.dL.name MineH.dL.scope L fa cd)) Q Er {s₁ with heap:=h₁,toks:=tk}:=by
 let c:Cx:={A₀:=callerA,base:=s₁.heap,outer:=[],qual:=MineH.dL.name,scope:=MineH.dL.scope,L:=L,f:=fa,cd:=cd,cl:=[],h₀:=s₁.heap,p:=p,loose:=loose,mean:=mean,mg:=mg,mb:=mb,ns:=lawN,np:=1,pin:=[none],gens:=s₁.gens,drawn:=s₁.drawn,os:=s₁.os}
 have C0:c.OK (TT z):=⟨B,XI,Tp,XI,Tp,by kernel_rfl,fun x hx=>(fun g=>⟨beq_iff_eq.mp (and_l g),not_r (and_r g)⟩) (List.all_eq_true.mp (by kernel_rfl:lawN.all (fun x=>MineH.dL.scope.names.lookup x==some .local&& !(x==("__debug__":Str)))=true) x hx),of_decide_eq_true (by kernel_rfl)⟩;have hA:AOK c (callerA.deeper c.env) 224:=⟨Around.frames_deeper B.stack,by show callerA.depth+1+3*224+6<recursionLimit;decide+kernel,by show callerA.units+3+20*224+400<cLine;decide+kernel,rfl⟩;have rs:RN (TT z) ⟨[],none,fun y0_=>none⟩ (scV is) (.ref a):=⟨by rw[List.length_map];exact Nat.le_trans hlen (Nat.le_of_ble_eq_true rfl),vs,rs _,.mk hl⟩;have ow:Ow (TT z) ⟨[],none,fun y0_=>none⟩ [] (fun y0_=>.no) (.loc 0) (scV is) (.ref a):=⟨[],RN.rv rfl rs,fun p hp=>absurd hp List.not_mem_nil⟩;have lc:∀{i:Nat}{x:Str}{u:V},lawN[i]? =some x→([scV is,.absent,.absent,.absent,.absent,.absent]:List V)[i]? =some u→LocR (TT z) ⟨[],none,fun y0_=>none⟩ [] (fun y0_=>.no) (.loc i) (m0 a x) u:=@fun i x u h1 h2=>by
  cases i with
  |zero=>
   have e1:sL=x:=Option.some.inj (show some sL=some x from h1);have e2:scV is=u:=Option.some.inj (show some (scV is)=some u from h2);subst e1 e2;rw[m0_script];exact .ok ow
  |succ i=>
   have h1:lawNs[i]? =some x:=(show(sL::lawNs)[i+1]? =some x from h1);have h2:(List.replicate 5 V.absent)[i]? =some u:=h2;rw[m0_none (a:=a) (List.all_eq_true.mp lwN_none x (List.mem_of_getElem? h1)),List.eq_of_mem_replicate (List.mem_of_getElem? h2)];exact .no
 have S:SR (TT z) c (m0 a) ⟨[],none,fun y0_=>none⟩ [] {s₁ with heap:=h₁,toks:=tk} ⟨[scV is,.absent,.absent,.absent,.absent,.absent],[]⟩:=
  ⟨.mk (l:=[]) (w:=fun y0_=>.no) ⟨⟨List.nodup_nil,fun p hp=>absurd hp List.not_mem_nil,fun p hp=>absurd hp List.not_mem_nil,List.nodup_nil,rfl,lc⟩,.un rfl fun y0_=>rfl,F,N0,@fun i wv x u h1 h2 h3=>by
   cases i with
   |zero=>cases h1;cases h3;exact rfl
   |succ i=>exact nomatch h1⟩,rfl,rfl,rfl⟩
 exact law_walk (z:=z) (c:=c) (is:=is) hc e k hnp hb ⟨K,C0,hA⟩ rfl rfl rfl rfl (Nat.le_refl 1) (by show callerA.units+3+1+4<cLine;decide+kernel) S @fun s' m' bk' fr' σ' S'=>S'.1.casesOn fun Z=>h Z.F S'.2.1 S'.2.2.2
theorem walk_core{w:World}{s₁:Shared}{h₁:Heap}{tk:Tok}{fa a:Addr}{cd:Value}{is:List Int}{p:Program}{loose:List Str}{mean:ExcName→Option Value}{mg mb m:Str→Option Value}(Tp:Top p loose mean mg mb s₁.heap)
  (KX:(MineH.Kf w.params).In s₁.heap) (W:Well w.params s₁.heap (.ref a) (ofPy (.list (is.map .int)))) (hlen:is.length≤63) {L:Addr} (F:Fr s₁.heap L h₁ m) (hm:m=m0 a) (B:Below callerA s₁.heap [] s₁.heap)
  {Q:Flow→Shared→Prop} {Er:Value→Shared→Prop} (h:∀{s' m'},Fr s₁.heap L s'.heap m'→s'.gens=s₁.gens→s'.os=s₁.os→Q (.ret (.bool true)) s') (N0:News s₁.heap L h₁ []):
  wpAny (model MineH.pw w) (callerA.deeper (envOf MineH.dL.name MineH.dL.scope L fa cd)) (execs MineH.dL.body (envOf MineH.dL.name MineH.dL.scope L fa cd)) Q Er {s₁ with heap:=h₁,toks:=tk}:=by
 have W':Well w.params s₁.heap (.ref a) (.list (ofPys (is.map .int))):=W;cases W' with|@list _ vs _ ho hw=>
 subst hm;exact walk_gen (z:=zk w [(a,{cls:=.type "list",data:=.seq vs.toArray})]) (n:=0) (tb_x w _) lw_chk dR_eq rd_chk rfl (fun y0_=>rfl) Tp (in_app KX ho) (look_app KX ho) (fun bk=>rns_well hw) hlen F B h N0
set_option tactic.hygienic true in
theorem walk_any(q:Program)(lo:List Str):WalkO q lo (XL q []) (InK MineH.Kf) MineH.rw_.row.toRowW MineH.dL [] (fun f vs=>PySem.call f vs):=by
 intro w s₀ s₁ mg mb G Y fa o pm cd doc dV kV ho hd hcd hD hmg hg args vals as hpre hlay hrd hwl hlo;have KX:(MineH.Kf w.params).In s₁.heap:=Y
 k_behind G ho hd hcd hD hmg hpre hlay hrd hwl hlo cd
 rename_i is _ _ _ _ _ _ _ a _ _ _ _ W _ _ _ hc1 _ K0 h1 F N0;refine walk_core (is:=is) (by assumption) KX W (by omega) F rfl K0 (@fun s' m' F' g1 g2=>?_) N0;refine goodW_bool F' (g1.trans hg) (raisesW_false ?_) ?_ g2
 ·wrow_none_raised
 ·wrow_post
theorem walk:MineH.Walk_:=walk_any MineH.qv MineH.looseN
end
end Mine.Internal
end
theorem PySem.Challenge.cw_im0050_02_holds : PySem.Challenge.rw_im0050_02.Holds :=
 MineH.hd Mine.Internal.walk
