import PyProof.Rows.All
import Wide.FinOn
import OpenK.AllK
import Wide.All
import Lean
import PySem.Challenge.RW_jn0057_01
set_option Elab.async false
set_option linter.all false
set_option maxRecDepth 100000
set_option maxHeartbeats 4000000
set_option genSizeOf false
open PySem PySem.W PySem.Calls PyProof.Rows
namespace HN
abbrev pP:Program:=PySem.Challenge.pw_jn0057_01
noncomputable def s (x:String) (t:Nat):Value:=.str (Str.ofString x) t
noncomputable def i (x:Int) (t:Nat):Value:=.int x t
noncomputable def r (a:Nat):Value:=.ref a
noncomputable def e (P:Params) (x:String) (t:Nat) (v:Value):DictEntry:=⟨PyData.keyHash P (Str.ofString x),.str (Str.ofString x) t,v⟩
noncomputable def tu (l:List Value):Obj:=⟨.type "tuple", none,.seq l.toArray 0,#[]⟩
noncomputable def li (l:List Value):Obj:=⟨.type "list", none,.seq l.toArray 0,#[]⟩
noncomputable def ft (l:List Value):Obj:=⟨.none,none,.fields l.toArray,#[]⟩
noncomputable def fc (c:String) (l:List Value):Obj:=⟨.type c,none,.fields l.toArray,#[]⟩
noncomputable def fcd (c:String) (d:Nat) (l:List Value):Obj:=⟨.type c,some d,.fields l.toArray,#[]⟩
noncomputable def di (c:String) (l:List DictEntry) (n:Nat):Obj:=⟨.type c,none,.dict l.toArray n,#[]⟩
noncomputable def dn (l:List DictEntry) (n:Nat):Obj:=⟨.none,none,.dict l.toArray n,#[]⟩
noncomputable def pl (c:String) (l:List (Option Value)):Obj:=⟨.type c,none,.plain,l.toArray⟩
noncomputable def ins (c d:Nat):Obj:=⟨.ref c,some d,.plain,#[]⟩
noncomputable def cl (n q:String) (bs mro:List Value) (ns:Nat) (sl:List (Option Value)):Obj:=⟨.type "type", none,.cls { name:=Str.ofString n,qualname:=Str.ofString q,bases:=bs,mro:=mro,ns:=ns },sl.toArray⟩
noncomputable def clX (n q:String) (bs mro:List Value) (ns:Nat) (hd:Bool) (_sn:Nat) (sub:List Value) (ab hdel:Bool) (sl:List (Option Value)):Obj:=⟨.type "type", none,.cls { name:=Str.ofString n,qualname:=Str.ofString q,bases:=bs,mro:=mro,ns:=ns,hasDict:=hd,subclasses:=sub,abstract:=ab,hasDel:=hdel },sl.toArray⟩
noncomputable def t (k:Nat):Stmt:=(pP.main.body.drop k).headD (.Pass default)
noncomputable def u (k j:Nat):Stmt:=match t k with
 | .ClassDef (body:=b) ..=>(b.drop j).headD (.Pass default)
 | x=>x
noncomputable def fA:Stmt→Arguments
 | .FunctionDef (args:=a) ..=>a
 | _=>default
noncomputable def fB:Stmt→List Stmt
 | .FunctionDef (body:=b) ..=>b
 | _=>[]
noncomputable def fS:Stmt→Scope
 | .FunctionDef (scope:=sc) ..=>sc
 | _=>default
noncomputable def fp (x:Stmt) (n q:String):Obj:=⟨.none,none,.func { name:=Str.ofString n,qualname:=Str.ofString q,params:=fA x,body:=.stmts (fB x),scope:=fS x,globals:=0,closure:=[],defaults:=.none,kwdefaults:=.none },#[]⟩
noncomputable def fn (x:Stmt) (n q:String) (d m:Value) (an:Option Nat) (c:Value):Obj:=⟨.type "function", none,.func { name:=Str.ofString n,qualname:=Str.ofString q,params:=fA x,body:=.stmts (fB x),scope:=fS x,globals:=3,closure:=[],defaults:=d,kwdefaults:=.none,pyModule:=m,annotations:=an,code:=c },#[]⟩
noncomputable def a_z (t:Nat):Value:=s "/claim/cut.py" t
noncomputable def a_ml:Value:=s "nltk.sem.logic" 194
noncomputable def a_cg (n q:String) (a l x1 x4 r1:Nat) (b:Bool) (X Y Z:Value) (k:Nat):Obj:=fc "code" [s n a,s q (a+1),a_z (a+2),i l 0,i x1 0,i 0 0,i 0 0,i x4 0,r r1,.bool b,i 181 0,r (r1+1),.none,X,Y,Z,i k 0,i l 0,a_z (k+1)]
noncomputable def a_cc (n q:String) (a l r1 k:Nat):Obj:=a_cg n q a l 0 0 r1 false .none .none .none k
noncomputable def a_cf (n q:String) (a l x1 x4 r1 k:Nat):Obj:=a_cg n q a l x1 x4 r1 true (r (r1+2)) (r (r1+3)) (r (r1+4)) k
noncomputable def a_gt (P:Params):List DictEntry:=[e P "__doc__" 166 .none,e P "__package__" 167 .none,e P "__loader__" 168 (.builtin "__main__.__loader__#opaque"),e P "__spec__" 169 .none,e P "__annotations__" 170 (r 6),e P "__builtins__" 171 (r 4),e P "__file__" 173 (a_z 172),e P "__cached__" 174 .none,e P "_wall" 193 (r 21),e P "Counter" 232 (r 46),e P "_counter" 237 (r 52),e P "_union" 247 (r 60),e P "Tokens" 424 (r 87),e P "Variable" 477 (r 129),e P "unique_variable" 487 (r 141),e P "SubstituteBindingsI" 522 (r 165),e P "Expression" 718 (r 321),e P "MAX_SIMPLIFY_SIZE" 720 (i 10000 719),e P "_exceeds_size" 731 (r 330),e P "ApplicationExpression" 854 (r 426),e P "AbstractVariableExpression" 928 (r 488),e P "IndividualVariableExpression" 958 (r 514),e P "FunctionVariableExpression" 988 (r 540),e P "EventVariableExpression" 1004 (r 552),e P "ConstantExpression" 1034 (r 578),e P "VariableExpression" 1041 (r 587),e P "VariableBinderExpression" 1121 (r 645),e P "LambdaExpression" 1163 (r 678),e P "NegatedExpression" 1229 (r 732),e P "BinaryExpression" 1291 (r 779),e P "BooleanExpression" 1307 (r 791),e P "AndExpression" 1355 (r 831),e P "OrExpression" 1403 (r 871),e P "ImpExpression" 1442 (r 904),e P "IffExpression" 1481 (r 937),e P "_is_letter_and_digits" 1490 (r 946),e P "is_indvar" 1497 (r 953),e P "is_funcvar" 1504 (r 960),e P "is_eventvar" 1511 (r 967),e P "BindingDict" 1588 (r 1020),e P "most_general_unification" 1597 (r 1032),e P "_mgu_var" 1606 (r 1039),e P "BindingException" 1626 (r 1049),e P "_law_digits" 1630 (s "0123456789" 1629),e P "_law_pair" 1653 (r 1059),e P "_law_expr" 1662 (r 1066),e P "_law_tree" 1669 (r 1073),e P "_law_filled" 1677 (r 1080),e P "_law_names" 1683 (r 1085),e P "_law_solved" 1698 (r 1092),e P "_law_plain" 1706 (r 1099),e P "law" 1723 (r 1106)]
noncomputable def a_gd (P:Params) (n:String) (t k:Nat):Obj:=di "dict" (e P "__name__" 165 (s n t)::(a_gt P).take k) (k+1)
noncomputable def a_lt:List Value:=[(i 1 0),(i 0 0),(r 20),(i 5 0),(i 0 0),(r 27),(i 14 0),(i 0 0),(r 59),(i 21 0),(i 0 0),(r 66),(i 54 0),(i 0 0),(r 97),(i 70 0),(i 0 0),(r 140),(i 86 0),(i 0 0),(r 147),(i 93 0),(i 0 0),(r 175),(i 180 0),(i 0 0),(r 329),(i 191 0),(i 0 0),(r 336),(i 272 0),(i 0 0),(r 434),(i 302 0),(i 0 0),(r 496),(i 309 0),(i 0 0),(r 522),(i 316 0),(i 0 0),(r 548),(i 318 0),(i 0 0),(r 560),(i 325 0),(i 0 0),(r 586),(i 335 0),(i 0 0),(r 593),(i 380 0),(i 0 0),(r 653),(i 395 0),(i 0 0),(r 686),(i 416 0),(i 0 0),(r 740),(i 437 0),(i 0 0),(r 787),(i 439 0),(i 0 0),(r 799),(i 455 0),(i 0 0),(r 839),(i 471 0),(i 0 0),(r 879),(i 481 0),(i 0 0),(r 912),(i 491 0),(i 0 0),(r 945),(i 498 0),(i 0 0),(r 952),(i 501 0),(i 0 0),(r 959),(i 504 0),(i 0 0),(r 966),(i 508 0),(i 0 0),(r 973),(i 555 0),(i 0 0),(r 1031),(i 567 0),(i 0 0),(r 1038),(i 572 0),(i 0 0),(r 1045),(i 576 0),(i 0 0),(r 1058),(i 624 0),(i 0 0),(r 1065),(i 631 0),(i 0 0),(r 1072),(i 637 0),(i 0 0),(r 1079),(i 645 0),(i 0 0),(r 1084),(i 654 0),(i 0 0),(r 1091),(i 673 0),(i 0 0),(r 1098),(i 681 0),(i 0 0),(r 1105)]
noncomputable def a3 (x:Stmt) (n q:String) (a l x1 x4 r1 k:Nat) (o:List Obj):List Obj:=fp x n q::a_cf n q a l x1 x4 r1 k::fn x n q .none a_ml none (r (r1+5))::o
noncomputable def nP (P:Params):List Obj:=[
 tu [],
 ft [],
 a_cc "<module>" "<module>" 182 1 11 185,
 pl "frame" [(some (r 13)),(some (r 3)),(some (r 3)),none,(some (s "__main__" 164)),none,(some (r 0))]]
noncomputable def g3P (P:Params):Obj:=di "dict" [e P "__name__" 165 (s "__main__" 164),e P "__doc__" 166 .none,e P "__package__" 167 .none,e P "__loader__" 168 (.builtin "__main__.__loader__#opaque"),e P "__spec__" 169 .none,e P "__annotations__" 170 (r 6),e P "__builtins__" 171 (r 4),e P "__file__" 173 (a_z 172),e P "__cached__" 174 .none] 9
noncomputable def n0 (P:Params):List Obj:=[
 tu [],
 ft [],
 tu [(s "k" 190)],
 tu [],
 fp (t 0) "_wall" "_wall",
 a_cf "_wall" "_wall" 187 1 1 3 15 191,
 fn (t 0) "_wall" "_wall" .none (s "__main__" 164) none (r 20)]
noncomputable def c0 (P:Params):List (Nat×Obj):=[(3,a_gd P "__main__" 164 9),
 (12,ft (a_lt.take 3))]
noncomputable def n1 (P:Params):List Obj:=[
 ]
noncomputable def c1 (P:Params):List (Nat×Obj):=[(3,a_gd P "nltk.sem.logic" 194 9)]
noncomputable def n2 (P:Params):List Obj:=[
 tu [],
 fc "builtin_function_or_method" [(.builtin "type.__prepare__"),(.type "type")],
 di "dict" [e P "__module__" 203 a_ml,e P "__qualname__" 205 (s "Counter" 204),e P "__firstlineno__" 207 (i 5 206),e P "__init__" 216 (r 36),e P "get" 223 (r 43),e P "__static_attributes__" 225 (r 44)] 6,
 tu [],
 ft [(i 7 0),(i 4 0),(r 35),(i 10 0),(i 4 0),(r 42)],
 a_cc "Counter" "Counter" 198 5 25 201,
 pl "frame" [(some (r 27)),(some (r 3)),(some (r 24)),none,(some a_ml),none,(some (r 0))],
 tu [(i 0 208)],
 tu [],
 ft [],
 tu [(s "self" 212),(s "initial_value" 213)],
 tu [],
 fp (u 2 0) "__init__" "Counter.__init__",
 a_cf "__init__" "Counter.__init__" 209 7 2 3 30 214,
 fn (u 2 0) "__init__" "Counter.__init__" (r 29) a_ml none (r 35),
 tu [],
 ft [],
 tu [(s "self" 220)],
 tu []].append <| a3 (u 2 1) "get" "Counter.get" 217 10 1 3 37 221 <| [
 tu [(s "_value" 224)],
 di "dict" [e P "__module__" 203 a_ml,e P "__firstlineno__" 207 (i 5 206),e P "__init__" 216 (r 36),e P "get" 223 (r 43),e P "__static_attributes__" 225 (r 44),e P "__dict__" 227 (r 47),e P "__weakref__" 229 (r 48),e P "__doc__" 230 .none] 4,
 cl "Counter" "Counter" [(.type "object")] [(r 46),(.type "object")] 45 [none,none,(some (s "Counter" 196)),(some (s "Counter" 204)),(some (.builtin "object.__new__")),(some (.bool true))],
 fc "getset_descriptor" [(s "__dict__" 226),(r 46),(.builtin "function.__dict__"),(.builtin "function.__dict__#set")],
 fc "getset_descriptor" [(s "__weakref__" 228),(r 46),(.builtin "ExceptionGroup.__weakref__"),.none],
 fc "super" [(r 46),(r 46),(r 46)],
 fc "builtin_function_or_method" [(.builtin "object.__init_subclass__"),(r 46)]]
noncomputable def c2 (P:Params):List (Nat×Obj):=[(3,a_gd P "nltk.sem.logic" 194 10),
 (12,ft (a_lt.take 6))]
noncomputable def n3 (P:Params):List Obj:=[
 di "dict" [e P "_value" 236 (i 0 208)] 1,
 ins 46 51,
 di "frame" [e P "self" 233 (r 52),e P "initial_value" 234 (i 0 208)] 2]
noncomputable def c3 (P:Params):List (Nat×Obj):=[(3,a_gd P "nltk.sem.logic" 194 11)]
noncomputable def n4 (P:Params):List Obj:=[
 tu [],
 ft [],
 tu [(s "parts" 241),(s "found" 242),(s "part" 243),(s "one" 244)],
 tu [],
 fp (t 4) "_union" "_union",
 a_cf "_union" "_union" 238 14 1 3 54 245,
 fn (t 4) "_union" "_union" .none a_ml none (r 59)]
noncomputable def c4 (P:Params):List (Nat×Obj):=[(3,a_gd P "nltk.sem.logic" 194 12),
 (12,ft (a_lt.take 9))]
noncomputable def n5 (P:Params):List Obj:=[
 tu [],
 fc "builtin_function_or_method" [(.builtin "type.__prepare__"),(.type "type")],
 di "dict" [e P "__module__" 255 a_ml,e P "__qualname__" 257 (s "Tokens" 256),e P "__firstlineno__" 259 (i 21 258),e P "LAMBDA" 261 (s "\\" 260),e P "LAMBDA_LIST" 263 (r 68),e P "EXISTS" 265 (s "exists" 264),e P "EXISTS_LIST" 269 (r 69),e P "ALL" 271 (s "all" 270),e P "ALL_LIST" 274 (r 70),e P "IOTA" 276 (s "iota" 275),e P "IOTA_LIST" 278 (r 71),e P "DOT" 280 (s "." 279),e P "OPEN" 282 (s "(" 281),e P "CLOSE" 284 (s ")" 283),e P "COMMA" 286 (s "," 285),e P "NOT" 288 (s "-" 287),e P "NOT_LIST" 292 (r 72),e P "AND" 294 (s "&" 293),e P "AND_LIST" 298 (r 73),e P "OR" 300 (s "|" 299),e P "OR_LIST" 303 (r 74),e P "IMP" 305 (s "->" 304),e P "IMP_LIST" 309 (r 75),e P "IFF" 311 (s "<->" 310),e P "IFF_LIST" 315 (r 76),e P "EQ" 317 (s "=" 316),e P "EQ_LIST" 320 (r 77),e P "NEQ" 322 (s "!=" 321),e P "NEQ_LIST" 324 (r 78),e P "BINOPS" 336 (r 79),e P "QUANTS" 343 (r 80),e P "PUNCT" 348 (r 81),e P "TOKENS" 377 (r 82),e P "SYMBOLS" 395 (r 83),e P "BEGINNINGS" 416 (r 84),e P "__static_attributes__" 417 (r 85)] 36,
 tu [],
 ft [],
 a_cc "Tokens" "Tokens" 250 21 64 253,
 pl "frame" [(some (r 66)),(some (r 3)),(some (r 63)),none,(some a_ml),none,(some (r 0))],
 li [(s "\\" 262)],
 li [(s "some" 266),(s "exists" 267),(s "exist" 268)],
 li [(s "all" 272),(s "forall" 273)],
 li [(s "iota" 277)],
 li [(s "not" 289),(s "-" 290),(s "!" 291)],
 li [(s "and" 295),(s "&" 296),(s "^" 297)],
 li [(s "or" 301),(s "|" 302)],
 li [(s "implies" 306),(s "->" 307),(s "=>" 308)],
 li [(s "iff" 312),(s "<->" 313),(s "<=>" 314)],
 li [(s "=" 318),(s "==" 319)],
 li [(s "!=" 323)],
 li [(s "and" 325),(s "&" 326),(s "^" 327),(s "or" 328),(s "|" 329),(s "implies" 330),(s "->" 331),(s "=>" 332),(s "iff" 333),(s "<->" 334),(s "<=>" 335)],
 li [(s "some" 337),(s "exists" 338),(s "exist" 339),(s "all" 340),(s "forall" 341),(s "iota" 342)],
 li [(s "." 344),(s "(" 345),(s ")" 346),(s "," 347)],
 li [(s "and" 349),(s "&" 350),(s "^" 351),(s "or" 352),(s "|" 353),(s "implies" 354),(s "->" 355),(s "=>" 356),(s "iff" 357),(s "<->" 358),(s "<=>" 359),(s "=" 360),(s "==" 361),(s "!=" 362),(s "some" 363),(s "exists" 364),(s "exist" 365),(s "all" 366),(s "forall" 367),(s "iota" 368),(s "\\" 369),(s "." 370),(s "(" 371),(s ")" 372),(s "," 373),(s "not" 374),(s "-" 375),(s "!" 376)],
 li [(s "&" 378),(s "^" 379),(s "|" 380),(s "->" 381),(s "=>" 382),(s "<->" 383),(s "<=>" 384),(s "=" 385),(s "==" 386),(s "!=" 387),(s "\\" 388),(s "." 389),(s "(" 390),(s ")" 391),(s "," 392),(s "-" 393),(s "!" 394)],
 li [(s "&" 396),(s "^" 397),(s "|" 398),(s "-" 399),(s "->" 400),(s "=" 401),(s "=>" 402),(s "<" 403),(s "<-" 404),(s "<->" 405),(s "<=" 406),(s "<=>" 407),(s "==" 408),(s "!" 409),(s "!=" 410),(s "\\" 411),(s "." 412),(s "(" 413),(s ")" 414),(s "," 415)],
 tu [],
 di "dict" [e P "__module__" 255 a_ml,e P "__firstlineno__" 259 (i 21 258),e P "LAMBDA" 261 (s "\\" 260),e P "LAMBDA_LIST" 263 (r 68),e P "EXISTS" 265 (s "exists" 264),e P "EXISTS_LIST" 269 (r 69),e P "ALL" 271 (s "all" 270),e P "ALL_LIST" 274 (r 70),e P "IOTA" 276 (s "iota" 275),e P "IOTA_LIST" 278 (r 71),e P "DOT" 280 (s "." 279),e P "OPEN" 282 (s "(" 281),e P "CLOSE" 284 (s ")" 283),e P "COMMA" 286 (s "," 285),e P "NOT" 288 (s "-" 287),e P "NOT_LIST" 292 (r 72),e P "AND" 294 (s "&" 293),e P "AND_LIST" 298 (r 73),e P "OR" 300 (s "|" 299),e P "OR_LIST" 303 (r 74),e P "IMP" 305 (s "->" 304),e P "IMP_LIST" 309 (r 75),e P "IFF" 311 (s "<->" 310),e P "IFF_LIST" 315 (r 76),e P "EQ" 317 (s "=" 316),e P "EQ_LIST" 320 (r 77),e P "NEQ" 322 (s "!=" 321),e P "NEQ_LIST" 324 (r 78),e P "BINOPS" 336 (r 79),e P "QUANTS" 343 (r 80),e P "PUNCT" 348 (r 81),e P "TOKENS" 377 (r 82),e P "SYMBOLS" 395 (r 83),e P "BEGINNINGS" 416 (r 84),e P "__static_attributes__" 417 (r 85),e P "__dict__" 419 (r 88),e P "__weakref__" 421 (r 89),e P "__doc__" 422 .none] 4,
 cl "Tokens" "Tokens" [(.type "object")] [(r 87),(.type "object")] 86 [none,none,(some (s "Tokens" 248)),(some (s "Tokens" 256)),(some (.builtin "object.__new__")),(some (.bool true))],
 fc "getset_descriptor" [(s "__dict__" 418),(r 87),(.builtin "function.__dict__"),(.builtin "function.__dict__#set")],
 fc "getset_descriptor" [(s "__weakref__" 420),(r 87),(.builtin "ExceptionGroup.__weakref__"),.none],
 fc "super" [(r 87),(r 87),(r 87)],
 fc "builtin_function_or_method" [(.builtin "object.__init_subclass__"),(r 87)]]
noncomputable def c5 (P:Params):List (Nat×Obj):=[(3,a_gd P "nltk.sem.logic" 194 13),
 (12,ft (a_lt.take 12))]
noncomputable def n6 (P:Params):List Obj:=[
 tu [],
 fc "builtin_function_or_method" [(.builtin "type.__prepare__"),(.type "type")],
 di "dict" [e P "__module__" 432 a_ml,e P "__qualname__" 434 (s "Variable" 433),e P "__firstlineno__" 436 (i 54 435),e P "__init__" 444 (r 105),e P "__eq__" 452 (r 112),e P "__lt__" 460 (r 119),e P "__str__" 467 (r 126),e P "__static_attributes__" 469 (r 127)] 8,
 tu [],
 ft [(i 56 0),(i 4 0),(r 104),(i 60 0),(i 4 0),(r 111),(i 63 0),(i 4 0),(r 118),(i 68 0),(i 4 0),(r 125)],
 a_cc "Variable" "Variable" 427 54 95 430,
 pl "frame" [(some (r 97)),(some (r 3)),(some (r 94)),none,(some a_ml),none,(some (r 0))],
 tu [],
 ft [],
 tu [(s "self" 440),(s "name" 441)],
 tu []].append <| a3 (u 6 0) "__init__" "Variable.__init__" 437 56 2 3 99 442 <| [
 tu [],
 ft [],
 tu [(s "self" 448),(s "other" 449)],
 tu []].append <| a3 (u 6 1) "__eq__" "Variable.__eq__" 445 60 2 3 106 450 <| [
 tu [],
 ft [],
 tu [(s "self" 456),(s "other" 457)],
 tu []].append <| a3 (u 6 2) "__lt__" "Variable.__lt__" 453 63 2 3 113 458 <| [
 tu [],
 ft [],
 tu [(s "self" 464)],
 tu []].append <| a3 (u 6 3) "__str__" "Variable.__str__" 461 68 1 3 120 465 <| [
 tu [(s "name" 468)],
 di "dict" [e P "__module__" 432 a_ml,e P "__firstlineno__" 436 (i 54 435),e P "__init__" 444 (r 105),e P "__eq__" 452 (r 112),e P "__lt__" 460 (r 119),e P "__str__" 467 (r 126),e P "__static_attributes__" 469 (r 127),e P "__dict__" 471 (r 130),e P "__weakref__" 473 (r 131),e P "__doc__" 474 .none,e P "__hash__" 475 .none] 5,
 cl "Variable" "Variable" [(.type "object")] [(r 129),(.type "object")] 128 [none,none,(some (s "Variable" 425)),(some (s "Variable" 433)),(some (.builtin "object.__new__")),(some (.bool true))],
 fc "getset_descriptor" [(s "__dict__" 470),(r 129),(.builtin "function.__dict__"),(.builtin "function.__dict__#set")],
 fc "getset_descriptor" [(s "__weakref__" 472),(r 129),(.builtin "ExceptionGroup.__weakref__"),.none],
 fc "super" [(r 129),(r 129),(r 129)],
 fc "builtin_function_or_method" [(.builtin "object.__init_subclass__"),(r 129)]]
noncomputable def c6 (P:Params):List (Nat×Obj):=[(3,a_gd P "nltk.sem.logic" 194 14),
 (12,ft (a_lt.take 15))]
noncomputable def n7 (P:Params):List Obj:=[
 tu [.none,.none],
 tu [],
 ft [],
 tu [(s "pattern" 481),(s "ignore" 482),(s "prefix" 483),(s "v" 484)],
 tu [],
 fp (t 7) "unique_variable" "unique_variable",
 a_cf "unique_variable" "unique_variable" 478 70 2 3 135 485,
 fn (t 7) "unique_variable" "unique_variable" (r 134) a_ml none (r 140)]
noncomputable def c7 (P:Params):List (Nat×Obj):=[(3,a_gd P "nltk.sem.logic" 194 15),
 (12,ft (a_lt.take 18))]
noncomputable def n8 (P:Params):List Obj:=[
 tu [],
 fc "builtin_function_or_method" [(.builtin "type.__prepare__"),(.type "type")],
 di "dict" [e P "__module__" 495 a_ml,e P "__qualname__" 497 (s "SubstituteBindingsI" 496),e P "__firstlineno__" 499 (i 86 498),e P "substitute_bindings" 507 (r 155),e P "variables" 514 (r 162),e P "__static_attributes__" 515 (r 163)] 6,
 tu [],
 ft [(i 88 0),(i 4 0),(r 154),(i 91 0),(i 4 0),(r 161)],
 a_cc "SubstituteBindingsI" "SubstituteBindingsI" 490 86 145 493,
 pl "frame" [(some (r 147)),(some (r 3)),(some (r 144)),none,(some a_ml),none,(some (r 0))],
 tu [],
 ft [],
 tu [(s "self" 503),(s "bindings" 504)],
 tu []].append <| a3 (u 8 0) "substitute_bindings" "SubstituteBindingsI.substitute_bindings" 500 88 2 3 149 505 <| [
 tu [],
 ft [],
 tu [(s "self" 511)],
 tu []].append <| a3 (u 8 1) "variables" "SubstituteBindingsI.variables" 508 91 1 3 156 512 <| [
 tu [],
 di "dict" [e P "__module__" 495 a_ml,e P "__firstlineno__" 499 (i 86 498),e P "substitute_bindings" 507 (r 155),e P "variables" 514 (r 162),e P "__static_attributes__" 515 (r 163),e P "__dict__" 517 (r 166),e P "__weakref__" 519 (r 167),e P "__doc__" 520 .none] 4,
 cl "SubstituteBindingsI" "SubstituteBindingsI" [(.type "object")] [(r 165),(.type "object")] 164 [none,none,(some (s "SubstituteBindingsI" 488)),(some (s "SubstituteBindingsI" 496)),(some (.builtin "object.__new__")),(some (.bool true))],
 fc "getset_descriptor" [(s "__dict__" 516),(r 165),(.builtin "function.__dict__"),(.builtin "function.__dict__#set")],
 fc "getset_descriptor" [(s "__weakref__" 518),(r 165),(.builtin "ExceptionGroup.__weakref__"),.none],
 fc "super" [(r 165),(r 165),(r 165)],
 fc "builtin_function_or_method" [(.builtin "object.__init_subclass__"),(r 165)]]
noncomputable def c8 (P:Params):List (Nat×Obj):=[(3,a_gd P "nltk.sem.logic" 194 16),
 (12,ft (a_lt.take 21))]
noncomputable def n9 (P:Params):List Obj:=[
 tu [(r 165)],
 fc "builtin_function_or_method" [(.builtin "type.__prepare__"),(.type "type")],
 di "dict" [e P "__module__" 530 a_ml,e P "__qualname__" 532 (s "Expression" 531),e P "__firstlineno__" 534 (i 93 533),e P "fromstring" 554 (r 185),e P "__call__" 565 (r 193),e P "applyto" 573 (r 200),e P "__neg__" 580 (r 207),e P "negate" 587 (r 214),e P "__and__" 595 (r 221),e P "__or__" 603 (r 228),e P "__gt__" 611 (r 235),e P "__lt__" 619 (r 242),e P "__eq__" 627 (r 249),e P "substitute_bindings" 638 (r 256),e P "replace" 653 (r 264),e P "visit" 662 (r 271),e P "visit_structured" 671 (r 278),e P "variables" 677 (r 283),e P "free" 684 (r 290),e P "constants" 691 (r 297),e P "predicates" 698 (r 304),e P "simplify" 705 (r 311),e P "make_VariableExpression" 713 (r 318),e P "__static_attributes__" 714 (r 319)] 24,
 tu [],
 ft [(i 96 0),(i 4 0),(r 182),(i 99 0),(i 4 0),(r 192),(i 105 0),(i 4 0),(r 199),(i 109 0),(i 4 0),(r 206),(i 112 0),(i 4 0),(r 213),(i 115 0),(i 4 0),(r 220),(i 120 0),(i 4 0),(r 227),(i 125 0),(i 4 0),(r 234),(i 130 0),(i 4 0),(r 241),(i 135 0),(i 4 0),(r 248),(i 138 0),(i 4 0),(r 255),(i 151 0),(i 4 0),(r 263),(i 156 0),(i 4 0),(r 270),(i 159 0),(i 4 0),(r 277),(i 162 0),(i 4 0),(r 282),(i 165 0),(i 4 0),(r 289),(i 168 0),(i 4 0),(r 296),(i 171 0),(i 4 0),(r 303),(i 174 0),(i 4 0),(r 310),(i 177 0),(i 4 0),(r 317)],
 a_cc "Expression" "Expression" 525 93 173 528,
 pl "frame" [(some (r 175)),(some (r 3)),(some (r 172)),none,(some a_ml),none,(some (r 0))],
 tu [],
 ft [],
 tu [(s "cls" 538),(s "s" 539)],
 tu [],
 fp (u 9 0) "fromstring" "Expression.fromstring",
 a_cf "fromstring" "Expression.fromstring" 535 95 2 3 177 540,
 fn (u 9 0) "fromstring" "Expression.fromstring" .none a_ml (some 186) (r 182),
 di "dict" [e P "__module__" 543 a_ml,e P "__name__" 546 (s "fromstring" 545),e P "__qualname__" 549 (s "Expression.fromstring" 548),e P "__doc__" 551 .none,e P "__annotations__" 553 (r 186)] 5,
 fcd "classmethod" 184 [(r 183),(.bool false)],
 di "dict" [] 0,
 tu [],
 ft [],
 tu [(s "self" 558),(s "other" 559),(s "additional" 560),(s "accum" 561),(s "a" 562)],
 tu []].append <| a3 (u 9 1) "__call__" "Expression.__call__" 555 99 2 7 187 563 <| [
 tu [],
 ft [],
 tu [(s "self" 569),(s "other" 570)],
 tu []].append <| a3 (u 9 2) "applyto" "Expression.applyto" 566 105 2 3 194 571 <| [
 tu [],
 ft [],
 tu [(s "self" 577)],
 tu []].append <| a3 (u 9 3) "__neg__" "Expression.__neg__" 574 109 1 3 201 578 <| [
 tu [],
 ft [],
 tu [(s "self" 584)],
 tu []].append <| a3 (u 9 4) "negate" "Expression.negate" 581 112 1 3 208 585 <| [
 tu [],
 ft [],
 tu [(s "self" 591),(s "other" 592)],
 tu []].append <| a3 (u 9 5) "__and__" "Expression.__and__" 588 115 2 3 215 593 <| [
 tu [],
 ft [],
 tu [(s "self" 599),(s "other" 600)],
 tu []].append <| a3 (u 9 6) "__or__" "Expression.__or__" 596 120 2 3 222 601 <| [
 tu [],
 ft [],
 tu [(s "self" 607),(s "other" 608)],
 tu []].append <| a3 (u 9 7) "__gt__" "Expression.__gt__" 604 125 2 3 229 609 <| [
 tu [],
 ft [],
 tu [(s "self" 615),(s "other" 616)],
 tu []].append <| a3 (u 9 8) "__lt__" "Expression.__lt__" 612 130 2 3 236 617 <| [
 tu [],
 ft [],
 tu [(s "self" 623),(s "other" 624)],
 tu []].append <| a3 (u 9 9) "__eq__" "Expression.__eq__" 620 135 2 3 243 625 <| [
 tu [],
 ft [],
 tu [(s "self" 631),(s "bindings" 632),(s "expr" 633),(s "var" 634),(s "val" 635)],
 tu []].append <| a3 (u 9 10) "substitute_bindings" "Expression.substitute_bindings" 628 138 2 3 250 636 <| [
 tu [(.bool false),(.bool true)],
 tu [],
 ft [],
 tu [(s "self" 642),(s "variable" 643),(s "expression" 644),(s "replace_bound" 645),(s "alpha_convert" 646)],
 tu [(s "variable" 647),(s "expression" 648),(s "replace_bound" 649),(s "alpha_convert" 650)],
 fp (u 9 11) "replace" "Expression.replace",
 a_cf "replace" "Expression.replace" 639 151 5 3 258 651,
 fn (u 9 11) "replace" "Expression.replace" (r 257) a_ml none (r 263),
 tu [],
 ft [],
 tu [(s "self" 657),(s "function" 658),(s "combinator" 659)],
 tu []].append <| a3 (u 9 12) "visit" "Expression.visit" 654 156 3 3 265 660 <| [
 tu [],
 ft [],
 tu [(s "self" 666),(s "function" 667)],
 tu [(s "self" 668)]].append <| a3 (u 9 13) "visit_structured" "Expression.visit_structured" 663 159 2 3 272 669 <| [
 tu [],
 ft [],
 fp (u 9 14) "variables" "Expression.variables",
 fc "code" [(s "variables" 672),(s "Expression.variables" 673),(a_z 674),(i 162 0),(i 1 0),(i 0 0),(i 0 0),(i 3 0),(r 279),(.bool true),(i 181 0),(r 280),.none,.none,.none,(r 281),(i 675 0),(i 162 0),(a_z 676)],
 fn (u 9 14) "variables" "Expression.variables" .none a_ml none (r 282),
 tu [],
 ft [],
 tu [(s "self" 681)],
 tu []].append <| a3 (u 9 15) "free" "Expression.free" 678 165 1 3 284 682 <| [
 tu [],
 ft [],
 tu [(s "self" 688)],
 tu []].append <| a3 (u 9 16) "constants" "Expression.constants" 685 168 1 3 291 689 <| [
 tu [],
 ft [],
 tu [(s "self" 695)],
 tu []].append <| a3 (u 9 17) "predicates" "Expression.predicates" 692 171 1 3 298 696 <| [
 tu [],
 ft [],
 tu [(s "self" 702)],
 tu []].append <| a3 (u 9 18) "simplify" "Expression.simplify" 699 174 1 3 305 703 <| [
 tu [],
 ft [],
 tu [(s "self" 709),(s "variable" 710)],
 tu []].append <| a3 (u 9 19) "make_VariableExpression" "Expression.make_VariableExpression" 706 177 2 3 312 711 <| [
 tu [],
 di "dict" [e P "__module__" 530 a_ml,e P "__firstlineno__" 534 (i 93 533),e P "fromstring" 554 (r 185),e P "__call__" 565 (r 193),e P "applyto" 573 (r 200),e P "__neg__" 580 (r 207),e P "negate" 587 (r 214),e P "__and__" 595 (r 221),e P "__or__" 603 (r 228),e P "__gt__" 611 (r 235),e P "__lt__" 619 (r 242),e P "__eq__" 627 (r 249),e P "substitute_bindings" 638 (r 256),e P "replace" 653 (r 264),e P "visit" 662 (r 271),e P "visit_structured" 671 (r 278),e P "variables" 677 (r 283),e P "free" 684 (r 290),e P "constants" 691 (r 297),e P "predicates" 698 (r 304),e P "simplify" 705 (r 311),e P "make_VariableExpression" 713 (r 318),e P "__static_attributes__" 714 (r 319),e P "__doc__" 715 .none,e P "__hash__" 716 .none] 3,
 cl "Expression" "Expression" [(r 165)] [(r 321),(r 165),(.type "object")] 320 [(some (r 170)),none,(some (s "Expression" 523)),(some (s "Expression" 531)),(some (.builtin "object.__new__")),(some (.bool true))],
 fc "super" [(r 321),(r 321),(r 321)],
 fc "builtin_function_or_method" [(.builtin "object.__init_subclass__"),(r 321)]]
noncomputable def c9 (P:Params):List (Nat×Obj):=[(3,a_gd P "nltk.sem.logic" 194 17),
 (12,ft (a_lt.take 24)),
 (165,clX "SubstituteBindingsI" "SubstituteBindingsI" [(.type "object")] [(r 165),(.type "object")] 164 true 0 [(r 321)] false false [none,none,(some (s "SubstituteBindingsI" 488)),(some (s "SubstituteBindingsI" 496)),(some (.builtin "object.__new__")),(some (.bool true))])]
noncomputable def n10 (P:Params):List Obj:=[
 ]
noncomputable def c10 (P:Params):List (Nat×Obj):=[(3,a_gd P "nltk.sem.logic" 194 18)]
noncomputable def n11 (P:Params):List Obj:=[
 tu [],
 ft [],
 tu [(s "expression" 724),(s "limit" 725),(s "count" 726),(s "node" 727)],
 tu [(s "stack" 728)],
 fp (t 11) "_exceeds_size" "_exceeds_size",
 a_cf "_exceeds_size" "_exceeds_size" 721 180 2 3 324 729,
 fn (t 11) "_exceeds_size" "_exceeds_size" .none a_ml none (r 329)]
noncomputable def c11 (P:Params):List (Nat×Obj):=[(3,a_gd P "nltk.sem.logic" 194 19),
 (12,ft (a_lt.take 27))]
noncomputable def n12 (P:Params):List Obj:=[
 tu [(r 321)],
 fc "builtin_function_or_method" [(.builtin "type.__prepare__"),(.type "type")],
 di "dict" [e P "__module__" 739 a_ml,e P "__qualname__" 741 (s "ApplicationExpression" 740),e P "__firstlineno__" 743 (i 191 742),e P "__init__" 752 (r 344),e P "simplify" 762 (r 351),e P "_made" 770 (r 358),e P "constants" 778 (r 365),e P "predicates" 786 (r 372),e P "visit" 795 (r 379),e P "__eq__" 803 (r 386),e P "__str__" 815 (r 393),e P "uncurry" 824 (r 400),e P "pred" 832 (r 408),e P "args" 840 (r 416),e P "is_atom" 847 (r 423),e P "__static_attributes__" 850 (r 424)] 16,
 tu [],
 ft [(i 193 0),(i 4 0),(r 343),(i 199 0),(i 4 0),(r 350),(i 210 0),(i 4 0),(r 357),(i 213 0),(i 4 0),(r 364),(i 220 0),(i 4 0),(r 371),(i 227 0),(i 4 0),(r 378),(i 230 0),(i 4 0),(r 385),(i 233 0),(i 4 0),(r 392),(i 254 0),(i 4 0),(r 399),(i 263 0),(i 4 0),(r 406),(i 267 0),(i 4 0),(r 414),(i 270 0),(i 4 0),(r 422)],
 a_cc "ApplicationExpression" "ApplicationExpression" 734 191 334 737,
 pl "frame" [(some (r 336)),(some (r 3)),(some (r 333)),none,(some a_ml),none,(some (r 0))],
 tu [],
 ft [],
 tu [(s "self" 747),(s "function" 748),(s "argument" 749)],
 tu []].append <| a3 (u 12 0) "__init__" "ApplicationExpression.__init__" 744 193 3 3 338 750 <| [
 tu [],
 ft [],
 tu [(s "self" 756),(s "function" 757),(s "argument" 758),(s "result" 759)],
 tu []].append <| a3 (u 12 1) "simplify" "ApplicationExpression.simplify" 753 199 1 3 345 760 <| [
 tu [],
 ft [],
 tu [(s "self" 766),(s "parts" 767)],
 tu []].append <| a3 (u 12 2) "_made" "ApplicationExpression._made" 763 210 2 3 352 768 <| [
 tu [],
 ft [],
 tu [(s "self" 774),(s "function_constants" 775)],
 tu []].append <| a3 (u 12 3) "constants" "ApplicationExpression.constants" 771 213 1 3 359 776 <| [
 tu [],
 ft [],
 tu [(s "self" 782),(s "function_preds" 783)],
 tu []].append <| a3 (u 12 4) "predicates" "ApplicationExpression.predicates" 779 220 1 3 366 784 <| [
 tu [],
 ft [],
 tu [(s "self" 790),(s "function" 791),(s "combinator" 792)],
 tu []].append <| a3 (u 12 5) "visit" "ApplicationExpression.visit" 787 227 3 3 373 793 <| [
 tu [],
 ft [],
 tu [(s "self" 799),(s "other" 800)],
 tu []].append <| a3 (u 12 6) "__eq__" "ApplicationExpression.__eq__" 796 230 2 3 380 801 <| [
 tu [],
 ft [],
 tu [(s "self" 807),(s "function" 808),(s "args" 809),(s "arg_str" 810),(s "function_str" 811),(s "parenthesize_function" 812)],
 tu []].append <| a3 (u 12 7) "__str__" "ApplicationExpression.__str__" 804 233 1 3 387 813 <| [
 tu [],
 ft [],
 tu [(s "self" 819),(s "function" 820),(s "args" 821)],
 tu []].append <| a3 (u 12 8) "uncurry" "ApplicationExpression.uncurry" 816 254 1 3 394 822 <| [
 tu [],
 ft [],
 tu [(s "self" 828)],
 tu []].append <| a3 (u 12 9) "pred" "ApplicationExpression.pred" 825 262 1 3 401 829 <| [
 fc "property" [(r 407),.none,.none,.none,(s "pred" 832),(.bool false)],
 tu [],
 ft [],
 tu [(s "self" 836)],
 tu []].append <| a3 (u 12 10) "args" "ApplicationExpression.args" 833 266 1 3 409 837 <| [
 fc "property" [(r 415),.none,.none,.none,(s "args" 840),(.bool false)],
 tu [],
 ft [],
 tu [(s "self" 844)],
 tu []].append <| a3 (u 12 11) "is_atom" "ApplicationExpression.is_atom" 841 270 1 3 417 845 <| [
 tu [(s "argument" 848),(s "function" 849)],
 di "dict" [e P "__module__" 739 a_ml,e P "__firstlineno__" 743 (i 191 742),e P "__init__" 752 (r 344),e P "simplify" 762 (r 351),e P "_made" 770 (r 358),e P "constants" 778 (r 365),e P "predicates" 786 (r 372),e P "visit" 795 (r 379),e P "__eq__" 803 (r 386),e P "__str__" 815 (r 393),e P "uncurry" 824 (r 400),e P "pred" 832 (r 408),e P "args" 840 (r 416),e P "is_atom" 847 (r 423),e P "__static_attributes__" 850 (r 424),e P "__doc__" 851 .none,e P "__hash__" 852 .none] 3,
 cl "ApplicationExpression" "ApplicationExpression" [(r 321)] [(r 426),(r 321),(r 165),(.type "object")] 425 [(some (r 331)),none,(some (s "ApplicationExpression" 732)),(some (s "ApplicationExpression" 740)),(some (.builtin "object.__new__")),(some (.bool true))],
 fc "super" [(r 426),(r 426),(r 426)],
 fc "builtin_function_or_method" [(.builtin "object.__init_subclass__"),(r 426)]]
noncomputable def c12 (P:Params):List (Nat×Obj):=[(3,a_gd P "nltk.sem.logic" 194 20),
 (12,ft (a_lt.take 30)),
 (321,clX "Expression" "Expression" [(r 165)] [(r 321),(r 165),(.type "object")] 320 true 0 [(r 426)] false false [(some (r 170)),none,(some (s "Expression" 523)),(some (s "Expression" 531)),(some (.builtin "object.__new__")),(some (.bool true))])]
noncomputable def n13 (P:Params):List Obj:=[
 tu [(r 321)],
 fc "builtin_function_or_method" [(.builtin "type.__prepare__"),(.type "type")],
 di "dict" [e P "__module__" 862 a_ml,e P "__qualname__" 864 (s "AbstractVariableExpression" 863),e P "__firstlineno__" 866 (i 272 865),e P "__init__" 874 (r 442),e P "simplify" 881 (r 449),e P "replace" 892 (r 457),e P "predicates" 899 (r 464),e P "__eq__" 907 (r 471),e P "__lt__" 915 (r 478),e P "__str__" 922 (r 485),e P "__static_attributes__" 924 (r 486)] 11,
 tu [],
 ft [(i 274 0),(i 4 0),(r 441),(i 278 0),(i 4 0),(r 448),(i 281 0),(i 4 0),(r 456),(i 289 0),(i 4 0),(r 463),(i 292 0),(i 4 0),(r 470),(i 295 0),(i 4 0),(r 477),(i 300 0),(i 4 0),(r 484)],
 a_cc "AbstractVariableExpression" "AbstractVariableExpression" 857 272 432 860,
 pl "frame" [(some (r 434)),(some (r 3)),(some (r 431)),none,(some a_ml),none,(some (r 0))],
 tu [],
 ft [],
 tu [(s "self" 870),(s "variable" 871)],
 tu []].append <| a3 (u 13 0) "__init__" "AbstractVariableExpression.__init__" 867 274 2 3 436 872 <| [
 tu [],
 ft [],
 tu [(s "self" 878)],
 tu []].append <| a3 (u 13 1) "simplify" "AbstractVariableExpression.simplify" 875 278 1 3 443 879 <| [
 tu [(.bool false),(.bool true)],
 tu [],
 ft [],
 tu [(s "self" 885),(s "variable" 886),(s "expression" 887),(s "replace_bound" 888),(s "alpha_convert" 889)],
 tu [],
 fp (u 13 2) "replace" "AbstractVariableExpression.replace",
 a_cf "replace" "AbstractVariableExpression.replace" 882 281 5 3 451 890,
 fn (u 13 2) "replace" "AbstractVariableExpression.replace" (r 450) a_ml none (r 456),
 tu [],
 ft [],
 tu [(s "self" 896)],
 tu []].append <| a3 (u 13 3) "predicates" "AbstractVariableExpression.predicates" 893 289 1 3 458 897 <| [
 tu [],
 ft [],
 tu [(s "self" 903),(s "other" 904)],
 tu []].append <| a3 (u 13 4) "__eq__" "AbstractVariableExpression.__eq__" 900 292 2 3 465 905 <| [
 tu [],
 ft [],
 tu [(s "self" 911),(s "other" 912)],
 tu []].append <| a3 (u 13 5) "__lt__" "AbstractVariableExpression.__lt__" 908 295 2 3 472 913 <| [
 tu [],
 ft [],
 tu [(s "self" 919)],
 tu []].append <| a3 (u 13 6) "__str__" "AbstractVariableExpression.__str__" 916 300 1 3 479 920 <| [
 tu [(s "variable" 923)],
 di "dict" [e P "__module__" 862 a_ml,e P "__firstlineno__" 866 (i 272 865),e P "__init__" 874 (r 442),e P "simplify" 881 (r 449),e P "replace" 892 (r 457),e P "predicates" 899 (r 464),e P "__eq__" 907 (r 471),e P "__lt__" 915 (r 478),e P "__str__" 922 (r 485),e P "__static_attributes__" 924 (r 486),e P "__doc__" 925 .none,e P "__hash__" 926 .none] 3,
 cl "AbstractVariableExpression" "AbstractVariableExpression" [(r 321)] [(r 488),(r 321),(r 165),(.type "object")] 487 [(some (r 429)),none,(some (s "AbstractVariableExpression" 855)),(some (s "AbstractVariableExpression" 863)),(some (.builtin "object.__new__")),(some (.bool true))],
 fc "super" [(r 488),(r 488),(r 488)],
 fc "builtin_function_or_method" [(.builtin "object.__init_subclass__"),(r 488)]]
noncomputable def c13 (P:Params):List (Nat×Obj):=[(3,a_gd P "nltk.sem.logic" 194 21),
 (12,ft (a_lt.take 33)),
 (321,clX "Expression" "Expression" [(r 165)] [(r 321),(r 165),(.type "object")] 320 true 0 [(r 426),(r 488)] false false [(some (r 170)),none,(some (s "Expression" 523)),(some (s "Expression" 531)),(some (.builtin "object.__new__")),(some (.bool true))])]
noncomputable def n14 (P:Params):List Obj:=[
 tu [(r 488)],
 fc "builtin_function_or_method" [(.builtin "type.__prepare__"),(.type "type")],
 di "dict" [e P "__module__" 936 a_ml,e P "__qualname__" 938 (s "IndividualVariableExpression" 937),e P "__firstlineno__" 940 (i 302 939),e P "free" 947 (r 504),e P "constants" 954 (r 511),e P "__static_attributes__" 955 (r 512)] 6,
 tu [],
 ft [(i 304 0),(i 4 0),(r 503),(i 307 0),(i 4 0),(r 510)],
 a_cc "IndividualVariableExpression" "IndividualVariableExpression" 931 302 494 934,
 pl "frame" [(some (r 496)),(some (r 3)),(some (r 493)),none,(some a_ml),none,(some (r 0))],
 tu [],
 ft [],
 tu [(s "self" 944)],
 tu []].append <| a3 (u 14 0) "free" "IndividualVariableExpression.free" 941 304 1 3 498 945 <| [
 tu [],
 ft [],
 tu [(s "self" 951)],
 tu []].append <| a3 (u 14 1) "constants" "IndividualVariableExpression.constants" 948 307 1 3 505 952 <| [
 tu [],
 di "dict" [e P "__module__" 936 a_ml,e P "__firstlineno__" 940 (i 302 939),e P "free" 947 (r 504),e P "constants" 954 (r 511),e P "__static_attributes__" 955 (r 512),e P "__doc__" 956 .none] 2,
 cl "IndividualVariableExpression" "IndividualVariableExpression" [(r 488)] [(r 514),(r 488),(r 321),(r 165),(.type "object")] 513 [(some (r 491)),none,(some (s "IndividualVariableExpression" 929)),(some (s "IndividualVariableExpression" 937)),(some (.builtin "object.__new__")),(some (.bool true))],
 fc "super" [(r 514),(r 514),(r 514)],
 fc "builtin_function_or_method" [(.builtin "object.__init_subclass__"),(r 514)]]
noncomputable def c14 (P:Params):List (Nat×Obj):=[(3,a_gd P "nltk.sem.logic" 194 22),
 (12,ft (a_lt.take 36)),
 (488,clX "AbstractVariableExpression" "AbstractVariableExpression" [(r 321)] [(r 488),(r 321),(r 165),(.type "object")] 487 true 0 [(r 514)] false false [(some (r 429)),none,(some (s "AbstractVariableExpression" 855)),(some (s "AbstractVariableExpression" 863)),(some (.builtin "object.__new__")),(some (.bool true))])]
noncomputable def n15 (P:Params):List Obj:=[
 tu [(r 488)],
 fc "builtin_function_or_method" [(.builtin "type.__prepare__"),(.type "type")],
 di "dict" [e P "__module__" 966 a_ml,e P "__qualname__" 968 (s "FunctionVariableExpression" 967),e P "__firstlineno__" 970 (i 309 969),e P "free" 977 (r 530),e P "constants" 984 (r 537),e P "__static_attributes__" 985 (r 538)] 6,
 tu [],
 ft [(i 311 0),(i 4 0),(r 529),(i 314 0),(i 4 0),(r 536)],
 a_cc "FunctionVariableExpression" "FunctionVariableExpression" 961 309 520 964,
 pl "frame" [(some (r 522)),(some (r 3)),(some (r 519)),none,(some a_ml),none,(some (r 0))],
 tu [],
 ft [],
 tu [(s "self" 974)],
 tu []].append <| a3 (u 15 0) "free" "FunctionVariableExpression.free" 971 311 1 3 524 975 <| [
 tu [],
 ft [],
 tu [(s "self" 981)],
 tu []].append <| a3 (u 15 1) "constants" "FunctionVariableExpression.constants" 978 314 1 3 531 982 <| [
 tu [],
 di "dict" [e P "__module__" 966 a_ml,e P "__firstlineno__" 970 (i 309 969),e P "free" 977 (r 530),e P "constants" 984 (r 537),e P "__static_attributes__" 985 (r 538),e P "__doc__" 986 .none] 2,
 cl "FunctionVariableExpression" "FunctionVariableExpression" [(r 488)] [(r 540),(r 488),(r 321),(r 165),(.type "object")] 539 [(some (r 517)),none,(some (s "FunctionVariableExpression" 959)),(some (s "FunctionVariableExpression" 967)),(some (.builtin "object.__new__")),(some (.bool true))],
 fc "super" [(r 540),(r 540),(r 540)],
 fc "builtin_function_or_method" [(.builtin "object.__init_subclass__"),(r 540)]]
noncomputable def c15 (P:Params):List (Nat×Obj):=[(3,a_gd P "nltk.sem.logic" 194 23),
 (12,ft (a_lt.take 39)),
 (488,clX "AbstractVariableExpression" "AbstractVariableExpression" [(r 321)] [(r 488),(r 321),(r 165),(.type "object")] 487 true 0 [(r 514),(r 540)] false false [(some (r 429)),none,(some (s "AbstractVariableExpression" 855)),(some (s "AbstractVariableExpression" 863)),(some (.builtin "object.__new__")),(some (.bool true))])]
noncomputable def n16 (P:Params):List Obj:=[
 tu [(r 514)],
 fc "builtin_function_or_method" [(.builtin "type.__prepare__"),(.type "type")],
 di "dict" [e P "__module__" 996 a_ml,e P "__qualname__" 998 (s "EventVariableExpression" 997),e P "__firstlineno__" 1000 (i 316 999),e P "__static_attributes__" 1001 (r 550)] 4,
 tu [],
 ft [],
 a_cc "EventVariableExpression" "EventVariableExpression" 991 316 546 994,
 pl "frame" [(some (r 548)),(some (r 3)),(some (r 545)),none,(some a_ml),none,(some (r 0))],
 tu [],
 di "dict" [e P "__module__" 996 a_ml,e P "__firstlineno__" 1000 (i 316 999),e P "__static_attributes__" 1001 (r 550),e P "__doc__" 1002 .none] 2,
 cl "EventVariableExpression" "EventVariableExpression" [(r 514)] [(r 552),(r 514),(r 488),(r 321),(r 165),(.type "object")] 551 [(some (r 543)),none,(some (s "EventVariableExpression" 989)),(some (s "EventVariableExpression" 997)),(some (.builtin "object.__new__")),(some (.bool true))],
 fc "super" [(r 552),(r 552),(r 552)],
 fc "builtin_function_or_method" [(.builtin "object.__init_subclass__"),(r 552)]]
noncomputable def c16 (P:Params):List (Nat×Obj):=[(3,a_gd P "nltk.sem.logic" 194 24),
 (12,ft (a_lt.take 42)),
 (514,clX "IndividualVariableExpression" "IndividualVariableExpression" [(r 488)] [(r 514),(r 488),(r 321),(r 165),(.type "object")] 513 true 0 [(r 552)] false false [(some (r 491)),none,(some (s "IndividualVariableExpression" 929)),(some (s "IndividualVariableExpression" 937)),(some (.builtin "object.__new__")),(some (.bool true))])]
noncomputable def n17 (P:Params):List Obj:=[
 tu [(r 488)],
 fc "builtin_function_or_method" [(.builtin "type.__prepare__"),(.type "type")],
 di "dict" [e P "__module__" 1012 a_ml,e P "__qualname__" 1014 (s "ConstantExpression" 1013),e P "__firstlineno__" 1016 (i 318 1015),e P "free" 1023 (r 568),e P "constants" 1030 (r 575),e P "__static_attributes__" 1031 (r 576)] 6,
 tu [],
 ft [(i 320 0),(i 4 0),(r 567),(i 323 0),(i 4 0),(r 574)],
 a_cc "ConstantExpression" "ConstantExpression" 1007 318 558 1010,
 pl "frame" [(some (r 560)),(some (r 3)),(some (r 557)),none,(some a_ml),none,(some (r 0))],
 tu [],
 ft [],
 tu [(s "self" 1020)],
 tu []].append <| a3 (u 17 0) "free" "ConstantExpression.free" 1017 320 1 3 562 1021 <| [
 tu [],
 ft [],
 tu [(s "self" 1027)],
 tu []].append <| a3 (u 17 1) "constants" "ConstantExpression.constants" 1024 323 1 3 569 1028 <| [
 tu [],
 di "dict" [e P "__module__" 1012 a_ml,e P "__firstlineno__" 1016 (i 318 1015),e P "free" 1023 (r 568),e P "constants" 1030 (r 575),e P "__static_attributes__" 1031 (r 576),e P "__doc__" 1032 .none] 2,
 cl "ConstantExpression" "ConstantExpression" [(r 488)] [(r 578),(r 488),(r 321),(r 165),(.type "object")] 577 [(some (r 555)),none,(some (s "ConstantExpression" 1005)),(some (s "ConstantExpression" 1013)),(some (.builtin "object.__new__")),(some (.bool true))],
 fc "super" [(r 578),(r 578),(r 578)],
 fc "builtin_function_or_method" [(.builtin "object.__init_subclass__"),(r 578)]]
noncomputable def c17 (P:Params):List (Nat×Obj):=[(3,a_gd P "nltk.sem.logic" 194 25),
 (12,ft (a_lt.take 45)),
 (488,clX "AbstractVariableExpression" "AbstractVariableExpression" [(r 321)] [(r 488),(r 321),(r 165),(.type "object")] 487 true 0 [(r 514),(r 540),(r 578)] false false [(some (r 429)),none,(some (s "AbstractVariableExpression" 855)),(some (s "AbstractVariableExpression" 863)),(some (.builtin "object.__new__")),(some (.bool true))])]
noncomputable def n18 (P:Params):List Obj:=[
 tu [],
 ft [],
 tu [(s "variable" 1038)],
 tu [],
 fp (t 18) "VariableExpression" "VariableExpression",
 a_cf "VariableExpression" "VariableExpression" 1035 325 1 3 581 1039,
 fn (t 18) "VariableExpression" "VariableExpression" .none a_ml none (r 586)]
noncomputable def c18 (P:Params):List (Nat×Obj):=[(3,a_gd P "nltk.sem.logic" 194 26),
 (12,ft (a_lt.take 48))]
noncomputable def n19 (P:Params):List Obj:=[
 tu [(r 321)],
 fc "builtin_function_or_method" [(.builtin "type.__prepare__"),(.type "type")],
 di "dict" [e P "__module__" 1049 a_ml,e P "__qualname__" 1051 (s "VariableBinderExpression" 1050),e P "__firstlineno__" 1053 (i 335 1052),e P "__init__" 1062 (r 601),e P "replace" 1074 (r 609),e P "alpha_convert" 1082 (r 616),e P "free" 1088 (r 621),e P "visit" 1097 (r 628),e P "_made" 1105 (r 635),e P "__eq__" 1114 (r 642),e P "__static_attributes__" 1117 (r 643)] 11,
 tu [],
 ft [(i 337 0),(i 4 0),(r 600),(i 343 0),(i 4 0),(r 608),(i 358 0),(i 4 0),(r 615),(i 362 0),(i 4 0),(r 620),(i 365 0),(i 4 0),(r 627),(i 368 0),(i 4 0),(r 634),(i 371 0),(i 4 0),(r 641)],
 a_cc "VariableBinderExpression" "VariableBinderExpression" 1044 335 591 1047,
 pl "frame" [(some (r 593)),(some (r 3)),(some (r 590)),none,(some a_ml),none,(some (r 0))],
 tu [],
 ft [],
 tu [(s "self" 1057),(s "variable" 1058),(s "term" 1059)],
 tu []].append <| a3 (u 19 0) "__init__" "VariableBinderExpression.__init__" 1054 337 3 3 595 1060 <| [
 tu [(.bool false),(.bool true)],
 tu [],
 ft [],
 tu [(s "self" 1066),(s "variable" 1067),(s "expression" 1068),(s "replace_bound" 1069),(s "alpha_convert" 1070),(s "binder" 1071)],
 tu [],
 fp (u 19 1) "replace" "VariableBinderExpression.replace",
 a_cf "replace" "VariableBinderExpression.replace" 1063 343 5 3 603 1072,
 fn (u 19 1) "replace" "VariableBinderExpression.replace" (r 602) a_ml none (r 608),
 tu [],
 ft [],
 tu [(s "self" 1078),(s "newvar" 1079)],
 tu []].append <| a3 (u 19 2) "alpha_convert" "VariableBinderExpression.alpha_convert" 1075 358 2 3 610 1080 <| [
 tu [],
 ft [],
 fp (u 19 3) "free" "VariableBinderExpression.free",
 fc "code" [(s "free" 1083),(s "VariableBinderExpression.free" 1084),(a_z 1085),(i 362 0),(i 1 0),(i 0 0),(i 0 0),(i 3 0),(r 617),(.bool true),(i 181 0),(r 618),.none,.none,.none,(r 619),(i 1086 0),(i 362 0),(a_z 1087)],
 fn (u 19 3) "free" "VariableBinderExpression.free" .none a_ml none (r 620),
 tu [],
 ft [],
 tu [(s "self" 1092),(s "function" 1093),(s "combinator" 1094)],
 tu []].append <| a3 (u 19 4) "visit" "VariableBinderExpression.visit" 1089 365 3 3 622 1095 <| [
 tu [],
 ft [],
 tu [(s "self" 1101),(s "parts" 1102)],
 tu []].append <| a3 (u 19 5) "_made" "VariableBinderExpression._made" 1098 368 2 3 629 1103 <| [
 tu [],
 ft [],
 tu [(s "self" 1109),(s "other" 1110),(s "varex" 1111)],
 tu []].append <| a3 (u 19 6) "__eq__" "VariableBinderExpression.__eq__" 1106 371 2 3 636 1112 <| [
 tu [(s "term" 1115),(s "variable" 1116)],
 di "dict" [e P "__module__" 1049 a_ml,e P "__firstlineno__" 1053 (i 335 1052),e P "__init__" 1062 (r 601),e P "replace" 1074 (r 609),e P "alpha_convert" 1082 (r 616),e P "free" 1088 (r 621),e P "visit" 1097 (r 628),e P "_made" 1105 (r 635),e P "__eq__" 1114 (r 642),e P "__static_attributes__" 1117 (r 643),e P "__doc__" 1118 .none,e P "__hash__" 1119 .none] 3,
 cl "VariableBinderExpression" "VariableBinderExpression" [(r 321)] [(r 645),(r 321),(r 165),(.type "object")] 644 [(some (r 588)),none,(some (s "VariableBinderExpression" 1042)),(some (s "VariableBinderExpression" 1050)),(some (.builtin "object.__new__")),(some (.bool true))],
 fc "super" [(r 645),(r 645),(r 645)],
 fc "builtin_function_or_method" [(.builtin "object.__init_subclass__"),(r 645)]]
noncomputable def c19 (P:Params):List (Nat×Obj):=[(3,a_gd P "nltk.sem.logic" 194 27),
 (12,ft (a_lt.take 51)),
 (321,clX "Expression" "Expression" [(r 165)] [(r 321),(r 165),(.type "object")] 320 true 0 [(r 426),(r 488),(r 645)] false false [(some (r 170)),none,(some (s "Expression" 523)),(some (s "Expression" 531)),(some (.builtin "object.__new__")),(some (.bool true))])]
noncomputable def n20 (P:Params):List Obj:=[
 tu [(r 645)],
 fc "builtin_function_or_method" [(.builtin "type.__prepare__"),(.type "type")],
 di "dict" [e P "__module__" 1129 a_ml,e P "__qualname__" 1131 (s "LambdaExpression" 1130),e P "__firstlineno__" 1133 (i 380 1132),e P "_binder" 1142 (r 661),e P "_is_alike" 1150 (r 668),e P "__str__" 1159 (r 675),e P "__static_attributes__" 1160 (r 676)] 7,
 tu [],
 ft [(i 382 0),(i 4 0),(r 660),(i 385 0),(i 4 0),(r 667),(i 388 0),(i 4 0),(r 674)],
 a_cc "LambdaExpression" "LambdaExpression" 1124 380 651 1127,
 pl "frame" [(some (r 653)),(some (r 3)),(some (r 650)),none,(some a_ml),none,(some (r 0))],
 tu [],
 ft [],
 tu [(s "self" 1137),(s "variable" 1138),(s "term" 1139)],
 tu []].append <| a3 (u 20 0) "_binder" "LambdaExpression._binder" 1134 382 3 3 655 1140 <| [
 tu [],
 ft [],
 tu [(s "self" 1146),(s "other" 1147)],
 tu []].append <| a3 (u 20 1) "_is_alike" "LambdaExpression._is_alike" 1143 385 2 3 662 1148 <| [
 tu [],
 ft [],
 tu [(s "self" 1154),(s "variables" 1155),(s "term" 1156)],
 tu []].append <| a3 (u 20 2) "__str__" "LambdaExpression.__str__" 1151 388 1 3 669 1157 <| [
 tu [],
 di "dict" [e P "__module__" 1129 a_ml,e P "__firstlineno__" 1133 (i 380 1132),e P "_binder" 1142 (r 661),e P "_is_alike" 1150 (r 668),e P "__str__" 1159 (r 675),e P "__static_attributes__" 1160 (r 676),e P "__doc__" 1161 .none] 2,
 cl "LambdaExpression" "LambdaExpression" [(r 645)] [(r 678),(r 645),(r 321),(r 165),(.type "object")] 677 [(some (r 648)),none,(some (s "LambdaExpression" 1122)),(some (s "LambdaExpression" 1130)),(some (.builtin "object.__new__")),(some (.bool true))],
 fc "super" [(r 678),(r 678),(r 678)],
 fc "builtin_function_or_method" [(.builtin "object.__init_subclass__"),(r 678)]]
noncomputable def c20 (P:Params):List (Nat×Obj):=[(3,a_gd P "nltk.sem.logic" 194 28),
 (12,ft (a_lt.take 54)),
 (645,clX "VariableBinderExpression" "VariableBinderExpression" [(r 321)] [(r 645),(r 321),(r 165),(.type "object")] 644 true 0 [(r 678)] false false [(some (r 588)),none,(some (s "VariableBinderExpression" 1042)),(some (s "VariableBinderExpression" 1050)),(some (.builtin "object.__new__")),(some (.bool true))])]
noncomputable def n21 (P:Params):List Obj:=[
 tu [(r 321)],
 fc "builtin_function_or_method" [(.builtin "type.__prepare__"),(.type "type")],
 di "dict" [e P "__module__" 1171 a_ml,e P "__qualname__" 1173 (s "NegatedExpression" 1172),e P "__firstlineno__" 1175 (i 395 1174),e P "_exhausted" 1176 (.bool false),e P "__init__" 1184 (r 694),e P "_made" 1192 (r 701),e P "visit" 1201 (r 708),e P "negate" 1208 (r 715),e P "__eq__" 1216 (r 722),e P "__str__" 1223 (r 729),e P "__static_attributes__" 1225 (r 730)] 11,
 tu [],
 ft [(i 398 0),(i 4 0),(r 693),(i 402 0),(i 4 0),(r 700),(i 405 0),(i 4 0),(r 707),(i 408 0),(i 4 0),(r 714),(i 411 0),(i 4 0),(r 721),(i 414 0),(i 4 0),(r 728)],
 a_cc "NegatedExpression" "NegatedExpression" 1166 395 684 1169,
 pl "frame" [(some (r 686)),(some (r 3)),(some (r 683)),none,(some a_ml),none,(some (r 0))],
 tu [],
 ft [],
 tu [(s "self" 1180),(s "term" 1181)],
 tu []].append <| a3 (u 21 1) "__init__" "NegatedExpression.__init__" 1177 398 2 3 688 1182 <| [
 tu [],
 ft [],
 tu [(s "self" 1188),(s "parts" 1189)],
 tu []].append <| a3 (u 21 2) "_made" "NegatedExpression._made" 1185 402 2 3 695 1190 <| [
 tu [],
 ft [],
 tu [(s "self" 1196),(s "function" 1197),(s "combinator" 1198)],
 tu []].append <| a3 (u 21 3) "visit" "NegatedExpression.visit" 1193 405 3 3 702 1199 <| [
 tu [],
 ft [],
 tu [(s "self" 1205)],
 tu []].append <| a3 (u 21 4) "negate" "NegatedExpression.negate" 1202 408 1 3 709 1206 <| [
 tu [],
 ft [],
 tu [(s "self" 1212),(s "other" 1213)],
 tu []].append <| a3 (u 21 5) "__eq__" "NegatedExpression.__eq__" 1209 411 2 3 716 1214 <| [
 tu [],
 ft [],
 tu [(s "self" 1220)],
 tu []].append <| a3 (u 21 6) "__str__" "NegatedExpression.__str__" 1217 414 1 3 723 1221 <| [
 tu [(s "term" 1224)],
 di "dict" [e P "__module__" 1171 a_ml,e P "__firstlineno__" 1175 (i 395 1174),e P "_exhausted" 1176 (.bool false),e P "__init__" 1184 (r 694),e P "_made" 1192 (r 701),e P "visit" 1201 (r 708),e P "negate" 1208 (r 715),e P "__eq__" 1216 (r 722),e P "__str__" 1223 (r 729),e P "__static_attributes__" 1225 (r 730),e P "__doc__" 1226 .none,e P "__hash__" 1227 .none] 3,
 cl "NegatedExpression" "NegatedExpression" [(r 321)] [(r 732),(r 321),(r 165),(.type "object")] 731 [(some (r 681)),none,(some (s "NegatedExpression" 1164)),(some (s "NegatedExpression" 1172)),(some (.builtin "object.__new__")),(some (.bool true))],
 fc "super" [(r 732),(r 732),(r 732)],
 fc "builtin_function_or_method" [(.builtin "object.__init_subclass__"),(r 732)]]
noncomputable def c21 (P:Params):List (Nat×Obj):=[(3,a_gd P "nltk.sem.logic" 194 29),
 (12,ft (a_lt.take 57)),
 (321,clX "Expression" "Expression" [(r 165)] [(r 321),(r 165),(.type "object")] 320 true 0 [(r 426),(r 488),(r 645),(r 732)] false false [(some (r 170)),none,(some (s "Expression" 523)),(some (s "Expression" 531)),(some (.builtin "object.__new__")),(some (.bool true))])]
noncomputable def n22 (P:Params):List Obj:=[
 tu [(r 321)],
 fc "builtin_function_or_method" [(.builtin "type.__prepare__"),(.type "type")],
 di "dict" [e P "__module__" 1237 a_ml,e P "__qualname__" 1239 (s "BinaryExpression" 1238),e P "__firstlineno__" 1241 (i 416 1240),e P "__init__" 1250 (r 748),e P "visit" 1259 (r 755),e P "__eq__" 1267 (r 762),e P "__str__" 1276 (r 769),e P "_str_subex" 1284 (r 776),e P "__static_attributes__" 1287 (r 777)] 9,
 tu [],
 ft [(i 418 0),(i 4 0),(r 747),(i 424 0),(i 4 0),(r 754),(i 427 0),(i 4 0),(r 761),(i 430 0),(i 4 0),(r 768),(i 435 0),(i 4 0),(r 775)],
 a_cc "BinaryExpression" "BinaryExpression" 1232 416 738 1235,
 pl "frame" [(some (r 740)),(some (r 3)),(some (r 737)),none,(some a_ml),none,(some (r 0))],
 tu [],
 ft [],
 tu [(s "self" 1245),(s "first" 1246),(s "second" 1247)],
 tu []].append <| a3 (u 22 0) "__init__" "BinaryExpression.__init__" 1242 418 3 3 742 1248 <| [
 tu [],
 ft [],
 tu [(s "self" 1254),(s "function" 1255),(s "combinator" 1256)],
 tu []].append <| a3 (u 22 1) "visit" "BinaryExpression.visit" 1251 424 3 3 749 1257 <| [
 tu [],
 ft [],
 tu [(s "self" 1263),(s "other" 1264)],
 tu []].append <| a3 (u 22 2) "__eq__" "BinaryExpression.__eq__" 1260 427 2 3 756 1265 <| [
 tu [],
 ft [],
 tu [(s "self" 1271),(s "first" 1272),(s "second" 1273)],
 tu []].append <| a3 (u 22 3) "__str__" "BinaryExpression.__str__" 1268 430 1 3 763 1274 <| [
 tu [],
 ft [],
 tu [(s "self" 1280),(s "subex" 1281)],
 tu []].append <| a3 (u 22 4) "_str_subex" "BinaryExpression._str_subex" 1277 435 2 3 770 1282 <| [
 tu [(s "first" 1285),(s "second" 1286)],
 di "dict" [e P "__module__" 1237 a_ml,e P "__firstlineno__" 1241 (i 416 1240),e P "__init__" 1250 (r 748),e P "visit" 1259 (r 755),e P "__eq__" 1267 (r 762),e P "__str__" 1276 (r 769),e P "_str_subex" 1284 (r 776),e P "__static_attributes__" 1287 (r 777),e P "__doc__" 1288 .none,e P "__hash__" 1289 .none] 3,
 cl "BinaryExpression" "BinaryExpression" [(r 321)] [(r 779),(r 321),(r 165),(.type "object")] 778 [(some (r 735)),none,(some (s "BinaryExpression" 1230)),(some (s "BinaryExpression" 1238)),(some (.builtin "object.__new__")),(some (.bool true))],
 fc "super" [(r 779),(r 779),(r 779)],
 fc "builtin_function_or_method" [(.builtin "object.__init_subclass__"),(r 779)]]
noncomputable def c22 (P:Params):List (Nat×Obj):=[(3,a_gd P "nltk.sem.logic" 194 30),
 (12,ft (a_lt.take 60)),
 (321,clX "Expression" "Expression" [(r 165)] [(r 321),(r 165),(.type "object")] 320 true 0 [(r 426),(r 488),(r 645),(r 732),(r 779)] false false [(some (r 170)),none,(some (s "Expression" 523)),(some (s "Expression" 531)),(some (.builtin "object.__new__")),(some (.bool true))])]
noncomputable def n23 (P:Params):List Obj:=[
 tu [(r 779)],
 fc "builtin_function_or_method" [(.builtin "type.__prepare__"),(.type "type")],
 di "dict" [e P "__module__" 1299 a_ml,e P "__qualname__" 1301 (s "BooleanExpression" 1300),e P "__firstlineno__" 1303 (i 437 1302),e P "__static_attributes__" 1304 (r 789)] 4,
 tu [],
 ft [],
 a_cc "BooleanExpression" "BooleanExpression" 1294 437 785 1297,
 pl "frame" [(some (r 787)),(some (r 3)),(some (r 784)),none,(some a_ml),none,(some (r 0))],
 tu [],
 di "dict" [e P "__module__" 1299 a_ml,e P "__firstlineno__" 1303 (i 437 1302),e P "__static_attributes__" 1304 (r 789),e P "__doc__" 1305 .none] 2,
 cl "BooleanExpression" "BooleanExpression" [(r 779)] [(r 791),(r 779),(r 321),(r 165),(.type "object")] 790 [(some (r 782)),none,(some (s "BooleanExpression" 1292)),(some (s "BooleanExpression" 1300)),(some (.builtin "object.__new__")),(some (.bool true))],
 fc "super" [(r 791),(r 791),(r 791)],
 fc "builtin_function_or_method" [(.builtin "object.__init_subclass__"),(r 791)]]
noncomputable def c23 (P:Params):List (Nat×Obj):=[(3,a_gd P "nltk.sem.logic" 194 31),
 (12,ft (a_lt.take 63)),
 (779,clX "BinaryExpression" "BinaryExpression" [(r 321)] [(r 779),(r 321),(r 165),(.type "object")] 778 true 0 [(r 791)] false false [(some (r 735)),none,(some (s "BinaryExpression" 1230)),(some (s "BinaryExpression" 1238)),(some (.builtin "object.__new__")),(some (.bool true))])]
noncomputable def n24 (P:Params):List Obj:=[
 tu [(r 791)],
 fc "builtin_function_or_method" [(.builtin "type.__prepare__"),(.type "type")],
 di "dict" [e P "__module__" 1315 a_ml,e P "__qualname__" 1317 (s "AndExpression" 1316),e P "__firstlineno__" 1319 (i 439 1318),e P "_made" 1327 (r 807),e P "_is_alike" 1335 (r 814),e P "getOp" 1342 (r 821),e P "_str_subex" 1351 (r 828),e P "__static_attributes__" 1352 (r 829)] 8,
 tu [],
 ft [(i 441 0),(i 4 0),(r 806),(i 444 0),(i 4 0),(r 813),(i 447 0),(i 4 0),(r 820),(i 450 0),(i 4 0),(r 827)],
 a_cc "AndExpression" "AndExpression" 1310 439 797 1313,
 pl "frame" [(some (r 799)),(some (r 3)),(some (r 796)),none,(some a_ml),none,(some (r 0))],
 tu [],
 ft [],
 tu [(s "self" 1323),(s "parts" 1324)],
 tu []].append <| a3 (u 24 0) "_made" "AndExpression._made" 1320 441 2 3 801 1325 <| [
 tu [],
 ft [],
 tu [(s "self" 1331),(s "other" 1332)],
 tu []].append <| a3 (u 24 1) "_is_alike" "AndExpression._is_alike" 1328 444 2 3 808 1333 <| [
 tu [],
 ft [],
 tu [(s "self" 1339)],
 tu []].append <| a3 (u 24 2) "getOp" "AndExpression.getOp" 1336 447 1 3 815 1340 <| [
 tu [],
 ft [],
 tu [(s "self" 1346),(s "subex" 1347),(s "s" 1348)],
 tu []].append <| a3 (u 24 3) "_str_subex" "AndExpression._str_subex" 1343 450 2 3 822 1349 <| [
 tu [],
 di "dict" [e P "__module__" 1315 a_ml,e P "__firstlineno__" 1319 (i 439 1318),e P "_made" 1327 (r 807),e P "_is_alike" 1335 (r 814),e P "getOp" 1342 (r 821),e P "_str_subex" 1351 (r 828),e P "__static_attributes__" 1352 (r 829),e P "__doc__" 1353 .none] 2,
 cl "AndExpression" "AndExpression" [(r 791)] [(r 831),(r 791),(r 779),(r 321),(r 165),(.type "object")] 830 [(some (r 794)),none,(some (s "AndExpression" 1308)),(some (s "AndExpression" 1316)),(some (.builtin "object.__new__")),(some (.bool true))],
 fc "super" [(r 831),(r 831),(r 831)],
 fc "builtin_function_or_method" [(.builtin "object.__init_subclass__"),(r 831)]]
noncomputable def c24 (P:Params):List (Nat×Obj):=[(3,a_gd P "nltk.sem.logic" 194 32),
 (12,ft (a_lt.take 66)),
 (791,clX "BooleanExpression" "BooleanExpression" [(r 779)] [(r 791),(r 779),(r 321),(r 165),(.type "object")] 790 true 0 [(r 831)] false false [(some (r 782)),none,(some (s "BooleanExpression" 1292)),(some (s "BooleanExpression" 1300)),(some (.builtin "object.__new__")),(some (.bool true))])]
noncomputable def n25 (P:Params):List Obj:=[
 tu [(r 791)],
 fc "builtin_function_or_method" [(.builtin "type.__prepare__"),(.type "type")],
 di "dict" [e P "__module__" 1363 a_ml,e P "__qualname__" 1365 (s "OrExpression" 1364),e P "__firstlineno__" 1367 (i 455 1366),e P "_made" 1375 (r 847),e P "_is_alike" 1383 (r 854),e P "getOp" 1390 (r 861),e P "_str_subex" 1399 (r 868),e P "__static_attributes__" 1400 (r 869)] 8,
 tu [],
 ft [(i 457 0),(i 4 0),(r 846),(i 460 0),(i 4 0),(r 853),(i 463 0),(i 4 0),(r 860),(i 466 0),(i 4 0),(r 867)],
 a_cc "OrExpression" "OrExpression" 1358 455 837 1361,
 pl "frame" [(some (r 839)),(some (r 3)),(some (r 836)),none,(some a_ml),none,(some (r 0))],
 tu [],
 ft [],
 tu [(s "self" 1371),(s "parts" 1372)],
 tu []].append <| a3 (u 25 0) "_made" "OrExpression._made" 1368 457 2 3 841 1373 <| [
 tu [],
 ft [],
 tu [(s "self" 1379),(s "other" 1380)],
 tu []].append <| a3 (u 25 1) "_is_alike" "OrExpression._is_alike" 1376 460 2 3 848 1381 <| [
 tu [],
 ft [],
 tu [(s "self" 1387)],
 tu []].append <| a3 (u 25 2) "getOp" "OrExpression.getOp" 1384 463 1 3 855 1388 <| [
 tu [],
 ft [],
 tu [(s "self" 1394),(s "subex" 1395),(s "s" 1396)],
 tu []].append <| a3 (u 25 3) "_str_subex" "OrExpression._str_subex" 1391 466 2 3 862 1397 <| [
 tu [],
 di "dict" [e P "__module__" 1363 a_ml,e P "__firstlineno__" 1367 (i 455 1366),e P "_made" 1375 (r 847),e P "_is_alike" 1383 (r 854),e P "getOp" 1390 (r 861),e P "_str_subex" 1399 (r 868),e P "__static_attributes__" 1400 (r 869),e P "__doc__" 1401 .none] 2,
 cl "OrExpression" "OrExpression" [(r 791)] [(r 871),(r 791),(r 779),(r 321),(r 165),(.type "object")] 870 [(some (r 834)),none,(some (s "OrExpression" 1356)),(some (s "OrExpression" 1364)),(some (.builtin "object.__new__")),(some (.bool true))],
 fc "super" [(r 871),(r 871),(r 871)],
 fc "builtin_function_or_method" [(.builtin "object.__init_subclass__"),(r 871)]]
noncomputable def c25 (P:Params):List (Nat×Obj):=[(3,a_gd P "nltk.sem.logic" 194 33),
 (12,ft (a_lt.take 69)),
 (791,clX "BooleanExpression" "BooleanExpression" [(r 779)] [(r 791),(r 779),(r 321),(r 165),(.type "object")] 790 true 0 [(r 831),(r 871)] false false [(some (r 782)),none,(some (s "BooleanExpression" 1292)),(some (s "BooleanExpression" 1300)),(some (.builtin "object.__new__")),(some (.bool true))])]
noncomputable def n26 (P:Params):List Obj:=[
 tu [(r 791)],
 fc "builtin_function_or_method" [(.builtin "type.__prepare__"),(.type "type")],
 di "dict" [e P "__module__" 1411 a_ml,e P "__qualname__" 1413 (s "ImpExpression" 1412),e P "__firstlineno__" 1415 (i 471 1414),e P "_made" 1423 (r 887),e P "_is_alike" 1431 (r 894),e P "getOp" 1438 (r 901),e P "__static_attributes__" 1439 (r 902)] 7,
 tu [],
 ft [(i 473 0),(i 4 0),(r 886),(i 476 0),(i 4 0),(r 893),(i 479 0),(i 4 0),(r 900)],
 a_cc "ImpExpression" "ImpExpression" 1406 471 877 1409,
 pl "frame" [(some (r 879)),(some (r 3)),(some (r 876)),none,(some a_ml),none,(some (r 0))],
 tu [],
 ft [],
 tu [(s "self" 1419),(s "parts" 1420)],
 tu []].append <| a3 (u 26 0) "_made" "ImpExpression._made" 1416 473 2 3 881 1421 <| [
 tu [],
 ft [],
 tu [(s "self" 1427),(s "other" 1428)],
 tu []].append <| a3 (u 26 1) "_is_alike" "ImpExpression._is_alike" 1424 476 2 3 888 1429 <| [
 tu [],
 ft [],
 tu [(s "self" 1435)],
 tu []].append <| a3 (u 26 2) "getOp" "ImpExpression.getOp" 1432 479 1 3 895 1436 <| [
 tu [],
 di "dict" [e P "__module__" 1411 a_ml,e P "__firstlineno__" 1415 (i 471 1414),e P "_made" 1423 (r 887),e P "_is_alike" 1431 (r 894),e P "getOp" 1438 (r 901),e P "__static_attributes__" 1439 (r 902),e P "__doc__" 1440 .none] 2,
 cl "ImpExpression" "ImpExpression" [(r 791)] [(r 904),(r 791),(r 779),(r 321),(r 165),(.type "object")] 903 [(some (r 874)),none,(some (s "ImpExpression" 1404)),(some (s "ImpExpression" 1412)),(some (.builtin "object.__new__")),(some (.bool true))],
 fc "super" [(r 904),(r 904),(r 904)],
 fc "builtin_function_or_method" [(.builtin "object.__init_subclass__"),(r 904)]]
noncomputable def c26 (P:Params):List (Nat×Obj):=[(3,a_gd P "nltk.sem.logic" 194 34),
 (12,ft (a_lt.take 72)),
 (791,clX "BooleanExpression" "BooleanExpression" [(r 779)] [(r 791),(r 779),(r 321),(r 165),(.type "object")] 790 true 0 [(r 831),(r 871),(r 904)] false false [(some (r 782)),none,(some (s "BooleanExpression" 1292)),(some (s "BooleanExpression" 1300)),(some (.builtin "object.__new__")),(some (.bool true))])]
noncomputable def n27 (P:Params):List Obj:=[
 tu [(r 791)],
 fc "builtin_function_or_method" [(.builtin "type.__prepare__"),(.type "type")],
 di "dict" [e P "__module__" 1450 a_ml,e P "__qualname__" 1452 (s "IffExpression" 1451),e P "__firstlineno__" 1454 (i 481 1453),e P "_made" 1462 (r 920),e P "_is_alike" 1470 (r 927),e P "getOp" 1477 (r 934),e P "__static_attributes__" 1478 (r 935)] 7,
 tu [],
 ft [(i 483 0),(i 4 0),(r 919),(i 486 0),(i 4 0),(r 926),(i 489 0),(i 4 0),(r 933)],
 a_cc "IffExpression" "IffExpression" 1445 481 910 1448,
 pl "frame" [(some (r 912)),(some (r 3)),(some (r 909)),none,(some a_ml),none,(some (r 0))],
 tu [],
 ft [],
 tu [(s "self" 1458),(s "parts" 1459)],
 tu []].append <| a3 (u 27 0) "_made" "IffExpression._made" 1455 483 2 3 914 1460 <| [
 tu [],
 ft [],
 tu [(s "self" 1466),(s "other" 1467)],
 tu []].append <| a3 (u 27 1) "_is_alike" "IffExpression._is_alike" 1463 486 2 3 921 1468 <| [
 tu [],
 ft [],
 tu [(s "self" 1474)],
 tu []].append <| a3 (u 27 2) "getOp" "IffExpression.getOp" 1471 489 1 3 928 1475 <| [
 tu [],
 di "dict" [e P "__module__" 1450 a_ml,e P "__firstlineno__" 1454 (i 481 1453),e P "_made" 1462 (r 920),e P "_is_alike" 1470 (r 927),e P "getOp" 1477 (r 934),e P "__static_attributes__" 1478 (r 935),e P "__doc__" 1479 .none] 2,
 cl "IffExpression" "IffExpression" [(r 791)] [(r 937),(r 791),(r 779),(r 321),(r 165),(.type "object")] 936 [(some (r 907)),none,(some (s "IffExpression" 1443)),(some (s "IffExpression" 1451)),(some (.builtin "object.__new__")),(some (.bool true))],
 fc "super" [(r 937),(r 937),(r 937)],
 fc "builtin_function_or_method" [(.builtin "object.__init_subclass__"),(r 937)]]
noncomputable def c27 (P:Params):List (Nat×Obj):=[(3,a_gd P "nltk.sem.logic" 194 35),
 (12,ft (a_lt.take 75)),
 (791,clX "BooleanExpression" "BooleanExpression" [(r 779)] [(r 791),(r 779),(r 321),(r 165),(.type "object")] 790 true 0 [(r 831),(r 871),(r 904),(r 937)] false false [(some (r 782)),none,(some (s "BooleanExpression" 1292)),(some (s "BooleanExpression" 1300)),(some (.builtin "object.__new__")),(some (.bool true))])]
noncomputable def n28 (P:Params):List Obj:=[
 tu [],
 ft [],
 tu [(s "expr" 1485),(s "letters" 1486),(s "sign" 1487)],
 tu [],
 fp (t 28) "_is_letter_and_digits" "_is_letter_and_digits",
 a_cf "_is_letter_and_digits" "_is_letter_and_digits" 1482 491 2 3 940 1488,
 fn (t 28) "_is_letter_and_digits" "_is_letter_and_digits" .none a_ml none (r 945)]
noncomputable def c28 (P:Params):List (Nat×Obj):=[(3,a_gd P "nltk.sem.logic" 194 36),
 (12,ft (a_lt.take 78))]
noncomputable def n29 (P:Params):List Obj:=[
 tu [],
 ft [],
 tu [(s "expr" 1494)],
 tu [],
 fp (t 29) "is_indvar" "is_indvar",
 a_cf "is_indvar" "is_indvar" 1491 498 1 3 947 1495,
 fn (t 29) "is_indvar" "is_indvar" .none a_ml none (r 952)]
noncomputable def c29 (P:Params):List (Nat×Obj):=[(3,a_gd P "nltk.sem.logic" 194 37),
 (12,ft (a_lt.take 81))]
noncomputable def n30 (P:Params):List Obj:=[
 tu [],
 ft [],
 tu [(s "expr" 1501)],
 tu [],
 fp (t 30) "is_funcvar" "is_funcvar",
 a_cf "is_funcvar" "is_funcvar" 1498 501 1 3 954 1502,
 fn (t 30) "is_funcvar" "is_funcvar" .none a_ml none (r 959)]
noncomputable def c30 (P:Params):List (Nat×Obj):=[(3,a_gd P "nltk.sem.logic" 194 38),
 (12,ft (a_lt.take 84))]
noncomputable def n31 (P:Params):List Obj:=[
 tu [],
 ft [],
 tu [(s "expr" 1508)],
 tu [],
 fp (t 31) "is_eventvar" "is_eventvar",
 a_cf "is_eventvar" "is_eventvar" 1505 504 1 3 961 1509,
 fn (t 31) "is_eventvar" "is_eventvar" .none a_ml none (r 966)]
noncomputable def c31 (P:Params):List (Nat×Obj):=[(3,a_gd P "nltk.sem.logic" 194 39),
 (12,ft (a_lt.take 87))]
noncomputable def n32 (P:Params):List Obj:=[
 ]
noncomputable def c32 (P:Params):List (Nat×Obj):=[(3,a_gd P "nltk.inference.resolution" 1512 39)]
noncomputable def n33 (P:Params):List Obj:=[
 tu [],
 fc "builtin_function_or_method" [(.builtin "type.__prepare__"),(.type "type")],
 di "dict" [e P "__module__" 1521 (s "nltk.inference.resolution" 1512),e P "__qualname__" 1523 (s "BindingDict" 1522),e P "__firstlineno__" 1525 (i 508 1524),e P "__init__" 1535 (r 982),e P "__setitem__" 1546 (r 989),e P "__getitem__" 1554 (r 996),e P "__contains__" 1562 (r 1003),e P "__add__" 1572 (r 1010),e P "__len__" 1579 (r 1017),e P "__static_attributes__" 1581 (r 1018)] 10,
 tu [],
 ft [(i 510 0),(i 4 0),(r 981),(i 516 0),(i 4 0),(r 988),(i 538 0),(i 4 0),(r 995),(i 542 0),(i 4 0),(r 1002),(i 545 0),(i 4 0),(r 1009),(i 553 0),(i 4 0),(r 1016)],
 a_cc "BindingDict" "BindingDict" 1516 508 971 1519,
 pl "frame" [(some (r 973)),(some (r 3)),(some (r 970)),none,(some (s "nltk.inference.resolution" 1512)),none,(some (r 0))],
 tu [.none],
 tu [],
 ft [],
 tu [(s "self" 1529),(s "binding_list" 1530),(s "v" 1531),(s "b" 1532)],
 tu [],
 fp (u 33 0) "__init__" "BindingDict.__init__",
 a_cf "__init__" "BindingDict.__init__" 1526 510 2 3 976 1533,
 fn (u 33 0) "__init__" "BindingDict.__init__" (r 975) (s "nltk.inference.resolution" 1512) none (r 981),
 tu [],
 ft [],
 tu [(s "self" 1539),(s "variable" 1540),(s "binding" 1541),(s "existing" 1542),(s "binding2" 1543)],
 tu [],
 fp (u 33 1) "__setitem__" "BindingDict.__setitem__",
 a_cf "__setitem__" "BindingDict.__setitem__" 1536 516 3 3 983 1544,
 fn (u 33 1) "__setitem__" "BindingDict.__setitem__" .none (s "nltk.inference.resolution" 1512) none (r 988),
 tu [],
 ft [],
 tu [(s "self" 1550),(s "variable" 1551)],
 tu [],
 fp (u 33 2) "__getitem__" "BindingDict.__getitem__",
 a_cf "__getitem__" "BindingDict.__getitem__" 1547 538 2 3 990 1552,
 fn (u 33 2) "__getitem__" "BindingDict.__getitem__" .none (s "nltk.inference.resolution" 1512) none (r 995),
 tu [],
 ft [],
 tu [(s "self" 1558),(s "item" 1559)],
 tu [],
 fp (u 33 3) "__contains__" "BindingDict.__contains__",
 a_cf "__contains__" "BindingDict.__contains__" 1555 542 2 3 997 1560,
 fn (u 33 3) "__contains__" "BindingDict.__contains__" .none (s "nltk.inference.resolution" 1512) none (r 1002),
 tu [],
 ft [],
 tu [(s "self" 1566),(s "other" 1567),(s "combined" 1568),(s "v" 1569)],
 tu [],
 fp (u 33 4) "__add__" "BindingDict.__add__",
 a_cf "__add__" "BindingDict.__add__" 1563 545 2 3 1004 1570,
 fn (u 33 4) "__add__" "BindingDict.__add__" .none (s "nltk.inference.resolution" 1512) none (r 1009),
 tu [],
 ft [],
 tu [(s "self" 1576)],
 tu [],
 fp (u 33 5) "__len__" "BindingDict.__len__",
 a_cf "__len__" "BindingDict.__len__" 1573 553 1 3 1011 1577,
 fn (u 33 5) "__len__" "BindingDict.__len__" .none (s "nltk.inference.resolution" 1512) none (r 1016),
 tu [(s "d" 1580)],
 di "dict" [e P "__module__" 1521 (s "nltk.inference.resolution" 1512),e P "__firstlineno__" 1525 (i 508 1524),e P "__init__" 1535 (r 982),e P "__setitem__" 1546 (r 989),e P "__getitem__" 1554 (r 996),e P "__contains__" 1562 (r 1003),e P "__add__" 1572 (r 1010),e P "__len__" 1579 (r 1017),e P "__static_attributes__" 1581 (r 1018),e P "__dict__" 1583 (r 1021),e P "__weakref__" 1585 (r 1022),e P "__doc__" 1586 .none] 4,
 cl "BindingDict" "BindingDict" [(.type "object")] [(r 1020),(.type "object")] 1019 [none,none,(some (s "BindingDict" 1514)),(some (s "BindingDict" 1522)),(some (.builtin "object.__new__")),(some (.bool true))],
 fc "getset_descriptor" [(s "__dict__" 1582),(r 1020),(.builtin "function.__dict__"),(.builtin "function.__dict__#set")],
 fc "getset_descriptor" [(s "__weakref__" 1584),(r 1020),(.builtin "ExceptionGroup.__weakref__"),.none],
 fc "super" [(r 1020),(r 1020),(r 1020)],
 fc "builtin_function_or_method" [(.builtin "object.__init_subclass__"),(r 1020)]]
noncomputable def c33 (P:Params):List (Nat×Obj):=[(3,a_gd P "nltk.inference.resolution" 1512 40),
 (12,ft (a_lt.take 90))]
noncomputable def n34 (P:Params):List Obj:=[
 tu [.none],
 tu [],
 ft [],
 tu [(s "a" 1592),(s "b" 1593),(s "bindings" 1594)],
 tu [],
 fp (t 34) "most_general_unification" "most_general_unification",
 a_cf "most_general_unification" "most_general_unification" 1589 555 3 3 1026 1595,
 fn (t 34) "most_general_unification" "most_general_unification" (r 1025) (s "nltk.inference.resolution" 1512) none (r 1031)]
noncomputable def c34 (P:Params):List (Nat×Obj):=[(3,a_gd P "nltk.inference.resolution" 1512 41),
 (12,ft (a_lt.take 93))]
noncomputable def n35 (P:Params):List Obj:=[
 tu [],
 ft [],
 tu [(s "var" 1601),(s "expression" 1602),(s "bindings" 1603)],
 tu [],
 fp (t 35) "_mgu_var" "_mgu_var",
 a_cf "_mgu_var" "_mgu_var" 1598 567 3 3 1033 1604,
 fn (t 35) "_mgu_var" "_mgu_var" .none (s "nltk.inference.resolution" 1512) none (r 1038)]
noncomputable def c35 (P:Params):List (Nat×Obj):=[(3,a_gd P "nltk.inference.resolution" 1512 42),
 (12,ft (a_lt.take 96))]
noncomputable def n36 (P:Params):List Obj:=[
 tu [(.type "Exception")],
 fc "builtin_function_or_method" [(.builtin "type.__prepare__"),(.type "type")],
 di "dict" [e P "__module__" 1614 (s "nltk.inference.resolution" 1512),e P "__qualname__" 1616 (s "BindingException" 1615),e P "__firstlineno__" 1618 (i 572 1617),e P "__static_attributes__" 1619 (r 1047)] 4,
 tu [],
 ft [],
 a_cc "BindingException" "BindingException" 1609 572 1043 1612,
 pl "frame" [(some (r 1045)),(some (r 3)),(some (r 1042)),none,(some (s "nltk.inference.resolution" 1512)),none,(some (r 0))],
 tu [],
 di "dict" [e P "__module__" 1614 (s "nltk.inference.resolution" 1512),e P "__firstlineno__" 1618 (i 572 1617),e P "__static_attributes__" 1619 (r 1047),e P "__weakref__" 1621 (r 1050),e P "__doc__" 1622 .none] 3,
 cl "BindingException" "BindingException" [(.type "Exception")] [(r 1049),(.type "Exception"),(.type "BaseException"),(.type "object")] 1048 [(some (r 1040)),none,(some (s "BindingException" 1607)),(some (s "BindingException" 1615)),(some (.builtin "Exception.__new__")),(some (.bool true))],
 fc "getset_descriptor" [(s "__weakref__" 1620),(r 1049),(.builtin "ExceptionGroup.__weakref__"),.none],
 fc "super" [(r 1049),(r 1049),(r 1049)],
 fc "builtin_function_or_method" [(.builtin "object.__init_subclass__"),(r 1049)]]
noncomputable def c36 (P:Params):List (Nat×Obj):=[(2,dn [e P "type.__subclasses__.Exception.0" 1623 (i 1049 0),e P "type.__subclasses__.Exception.n" 1624 (i 1 0)] 2),
 (3,a_gd P "nltk.inference.resolution" 1512 43),
 (12,ft (a_lt.take 99))]
noncomputable def n37 (P:Params):List Obj:=[
 ]
noncomputable def c37 (P:Params):List (Nat×Obj):=[(3,a_gd P "law_jn0057_01" 1627 43)]
noncomputable def n38 (P:Params):List Obj:=[
 ]
noncomputable def c38 (P:Params):List (Nat×Obj):=[(3,a_gd P "law_jn0057_01" 1627 44)]
noncomputable def n39 (P:Params):List Obj:=[
 tu [],
 ft [],
 tu [(s "numbers" 1634),(s "kind" 1635),(s "rex" 1636),(s "tom" 1637),(s "both" 1638),(s "stack" 1639),(s "count" 1640),(s "number" 1641),(s "k" 1642),(s "rest" 1643),(s "first" 1644),(s "second" 1645),(s "one" 1646),(s "other" 1647),(s "left" 1648),(s "right" 1649),(s "way" 1650)],
 tu [],
 fp (t 39) "_law_pair" "_law_pair",
 a_cf "_law_pair" "_law_pair" 1631 576 2 3 1053 1651,
 fn (t 39) "_law_pair" "_law_pair" .none (s "law_jn0057_01" 1627) none (r 1058)]
noncomputable def c39 (P:Params):List (Nat×Obj):=[(3,a_gd P "law_jn0057_01" 1627 45),
 (12,ft (a_lt.take 102))]
noncomputable def n40 (P:Params):List Obj:=[
 tu [],
 ft [],
 tu [(s "tree" 1657),(s "made" 1658),(s "part" 1659)],
 tu [],
 fp (t 40) "_law_expr" "_law_expr",
 a_cf "_law_expr" "_law_expr" 1654 624 1 3 1060 1660,
 fn (t 40) "_law_expr" "_law_expr" .none (s "law_jn0057_01" 1627) none (r 1065)]
noncomputable def c40 (P:Params):List (Nat×Obj):=[(3,a_gd P "law_jn0057_01" 1627 46),
 (12,ft (a_lt.take 105))]
noncomputable def n41 (P:Params):List Obj:=[
 tu [],
 ft [],
 tu [(s "e" 1666)],
 tu [],
 fp (t 41) "_law_tree" "_law_tree",
 a_cf "_law_tree" "_law_tree" 1663 631 1 3 1067 1667,
 fn (t 41) "_law_tree" "_law_tree" .none (s "law_jn0057_01" 1627) none (r 1072)]
noncomputable def c41 (P:Params):List (Nat×Obj):=[(3,a_gd P "law_jn0057_01" 1627 47),
 (12,ft (a_lt.take 108))]
noncomputable def n42 (P:Params):List Obj:=[
 tu [],
 ft [],
 tu [(s "tree" 1673),(s "bound" 1674)],
 tu [],
 fp (t 42) "_law_filled" "_law_filled",
 a_cf "_law_filled" "_law_filled" 1670 637 2 3 1074 1675,
 fn (t 42) "_law_filled" "_law_filled" .none (s "law_jn0057_01" 1627) none (r 1079)]
noncomputable def c42 (P:Params):List (Nat×Obj):=[(3,a_gd P "law_jn0057_01" 1627 48),
 (12,ft (a_lt.take 111))]
noncomputable def n43 (P:Params):List Obj:=[
 tu [],
 ft [],
 fp (t 43) "_law_names" "_law_names",
 fc "code" [(s "_law_names" 1678),(s "_law_names" 1679),(a_z 1680),(i 645 0),(i 1 0),(i 0 0),(i 0 0),(i 3 0),(r 1081),(.bool true),(i 181 0),(r 1082),.none,.none,.none,(r 1083),(i 1681 0),(i 645 0),(a_z 1682)],
 fn (t 43) "_law_names" "_law_names" .none (s "law_jn0057_01" 1627) none (r 1084)]
noncomputable def c43 (P:Params):List (Nat×Obj):=[(3,a_gd P "law_jn0057_01" 1627 49),
 (12,ft (a_lt.take 114))]
noncomputable def n44 (P:Params):List Obj:=[
 tu [],
 ft [],
 tu [(s "one" 1687),(s "other" 1688),(s "bound" 1689),(s "pairs" 1690),(s "left" 1691),(s "right" 1692),(s "name" 1693),(s "term" 1694),(s "k" 1695)],
 tu [],
 fp (t 44) "_law_solved" "_law_solved",
 a_cf "_law_solved" "_law_solved" 1684 654 2 3 1086 1696,
 fn (t 44) "_law_solved" "_law_solved" .none (s "law_jn0057_01" 1627) none (r 1091)]
noncomputable def c44 (P:Params):List (Nat×Obj):=[(3,a_gd P "law_jn0057_01" 1627 50),
 (12,ft (a_lt.take 117))]
noncomputable def n45 (P:Params):List Obj:=[
 tu [],
 ft [],
 tu [(s "tree" 1702),(s "order" 1703)],
 tu [],
 fp (t 45) "_law_plain" "_law_plain",
 a_cf "_law_plain" "_law_plain" 1699 673 2 3 1093 1704,
 fn (t 45) "_law_plain" "_law_plain" .none (s "law_jn0057_01" 1627) none (r 1098)]
noncomputable def c45 (P:Params):List (Nat×Obj):=[(3,a_gd P "law_jn0057_01" 1627 51),
 (12,ft (a_lt.take 120))]
noncomputable def n46 (P:Params):List Obj:=[
 tu [],
 ft [],
 tu [(s "script" 1710),(s "kind" 1711),(s "one" 1712),(s "other" 1713),(s "due" 1714),(s "left" 1715),(s "right" 1716),(s "told" 1717),(s "bound" 1718),(s "name" 1719),(s "made" 1720)],
 tu [],
 fp (t 46) "law" "law",
 a_cf "law" "law" 1707 681 1 3 1100 1721,
 fn (t 46) "law" "law" .none (s "law_jn0057_01" 1627) none (r 1105)]
noncomputable def c46 (P:Params):List (Nat×Obj):=[(3,a_gd P "law_jn0057_01" 1627 52),
 (12,ft (a_lt.take 123))]
noncomputable def insL:BT→Nat→List Obj→BT
 | T,_,[]=>T
 | T,n,o::l=>insL (T.ins n o) (n+1) l
noncomputable def setL:BT→List (Nat×Obj)→BT
 | T,[]=>T
 | T,(a,o)::l=>setL (T.set a fun _=>o) l
noncomputable def TP (P:Params):BT:=setL (insL (insL .nil 0 [boot_o_0 P,boot_o_1 P,boot_o_2 P,boot_o_3 P,boot_o_4 P,boot_o_5 P,boot_o_6 P,boot_o_7 P,boot_o_8 P,boot_o_9 P,boot_o_10 P]) 11 (nP P)) [(3,g3P P)]
noncomputable def S (T:Params→BT) (n k:Nat) (w:World) (os:OsState):SharedT:=⟨T w.params,n,{},#[],{},k,os⟩
noncomputable def ev:Env:={ scope:=pP.main.scope,locals:=mainNs,globals:=mainNs,cells:=[],code:=.ref 13,frame:=some 14 }
noncomputable def cd:Code:=.body (behindTheImports pP) ev
noncomputable def q0:Pos:=⟨0,0,0,0⟩
noncomputable abbrev B:List Frame:=[topFrame q0]
abbrev ann:Option Value:=some (.ref 6)
noncomputable def bo (k:Nat):List Stmt:=((behindTheImports pP).drop k).take 1
theorem segT {p:Program} {w:World} {n₀:Nat} {an:Option Value} {b n:Nat} {s:SharedT} {t:Thread} {x:Option (Flow×SharedT×Code×Pos)}
  (h:PySem.W.Fast.tw10110043849684766642 PySem.W.Fast.tw14364793385576792824 p w n₀ an b n s t=x):segRunT treeTable p w n₀ an b n s t=x:=by
 rw [PySem.W.Fast.te10110043849684766642,PySem.W.Fast.te14364793385576792824];exact h
noncomputable def T0 (P:Params):BT:=setL (insL (TP P) 15 (n0 P)) (c0 P)
noncomputable def p0:Pos:=⟨1,0,3,12⟩
noncomputable def T1 (P:Params):BT:=setL (insL (T0 P) 22 (n1 P)) (c1 P)
noncomputable def p1:Pos:=⟨4,0,4,8⟩
noncomputable def T2 (P:Params):BT:=setL (insL (T1 P) 22 (n2 P)) (c2 P)
noncomputable def p2:Pos:=⟨5,0,12,26⟩
noncomputable def T3 (P:Params):BT:=setL (insL (T2 P) 51 (n3 P)) (c3 P)
noncomputable def p3:Pos:=⟨13,0,13,8⟩
noncomputable def T4 (P:Params):BT:=setL (insL (T3 P) 54 (n4 P)) (c4 P)
noncomputable def p4:Pos:=⟨14,0,20,16⟩
noncomputable def T5 (P:Params):BT:=setL (insL (T4 P) 61 (n5 P)) (c5 P)
noncomputable def p5:Pos:=⟨21,0,53,128⟩
noncomputable def T6 (P:Params):BT:=setL (insL (T5 P) 92 (n6 P)) (c6 P)
noncomputable def p6:Pos:=⟨54,0,69,24⟩
noncomputable def T7 (P:Params):BT:=setL (insL (T6 P) 134 (n7 P)) (c7 P)
noncomputable def p7:Pos:=⟨70,0,85,12⟩
noncomputable def T8 (P:Params):BT:=setL (insL (T7 P) 142 (n8 P)) (c8 P)
noncomputable def p8:Pos:=⟨86,0,92,35⟩
noncomputable def T9 (P:Params):BT:=setL (insL (T8 P) 170 (n9 P)) (c9 P)
noncomputable def p9:Pos:=⟨93,0,178,43⟩
noncomputable def T10 (P:Params):BT:=setL (insL (T9 P) 324 (n10 P)) (c10 P)
noncomputable def p10:Pos:=⟨179,0,179,17⟩
noncomputable def T11 (P:Params):BT:=setL (insL (T10 P) 324 (n11 P)) (c11 P)
noncomputable def p11:Pos:=⟨180,0,190,16⟩
noncomputable def T12 (P:Params):BT:=setL (insL (T11 P) 331 (n12 P)) (c12 P)
noncomputable def p12:Pos:=⟨191,0,271,64⟩
noncomputable def T13 (P:Params):BT:=setL (insL (T12 P) 429 (n13 P)) (c13 P)
noncomputable def p13:Pos:=⟨272,0,301,35⟩
noncomputable def T14 (P:Params):BT:=setL (insL (T13 P) 491 (n14 P)) (c14 P)
noncomputable def p14:Pos:=⟨302,0,308,17⟩
noncomputable def T15 (P:Params):BT:=setL (insL (T14 P) 517 (n15 P)) (c15 P)
noncomputable def p15:Pos:=⟨309,0,315,17⟩
noncomputable def T16 (P:Params):BT:=setL (insL (T15 P) 543 (n16 P)) (c16 P)
noncomputable def p16:Pos:=⟨316,0,317,8⟩
noncomputable def T17 (P:Params):BT:=setL (insL (T16 P) 555 (n17 P)) (c17 P)
noncomputable def p17:Pos:=⟨318,0,324,30⟩
noncomputable def T18 (P:Params):BT:=setL (insL (T17 P) 581 (n18 P)) (c18 P)
noncomputable def p18:Pos:=⟨325,0,334,43⟩
noncomputable def T19 (P:Params):BT:=setL (insL (T18 P) 588 (n19 P)) (c19 P)
noncomputable def p19:Pos:=⟨335,0,379,24⟩
noncomputable def T20 (P:Params):BT:=setL (insL (T19 P) 648 (n20 P)) (c20 P)
noncomputable def p20:Pos:=⟨380,0,394,97⟩
noncomputable def T21 (P:Params):BT:=setL (insL (T20 P) 681 (n21 P)) (c21 P)
noncomputable def p21:Pos:=⟨395,0,415,44⟩
noncomputable def T22 (P:Params):BT:=setL (insL (T21 P) 735 (n22 P)) (c22 P)
noncomputable def p22:Pos:=⟨416,0,436,27⟩
noncomputable def T23 (P:Params):BT:=setL (insL (T22 P) 782 (n23 P)) (c23 P)
noncomputable def p23:Pos:=⟨437,0,438,8⟩
noncomputable def T24 (P:Params):BT:=setL (insL (T23 P) 794 (n24 P)) (c24 P)
noncomputable def p24:Pos:=⟨439,0,454,16⟩
noncomputable def T25 (P:Params):BT:=setL (insL (T24 P) 834 (n25 P)) (c25 P)
noncomputable def p25:Pos:=⟨455,0,470,16⟩
noncomputable def T26 (P:Params):BT:=setL (insL (T25 P) 874 (n26 P)) (c26 P)
noncomputable def p26:Pos:=⟨471,0,480,25⟩
noncomputable def T27 (P:Params):BT:=setL (insL (T26 P) 907 (n27 P)) (c27 P)
noncomputable def p27:Pos:=⟨481,0,490,25⟩
noncomputable def T28 (P:Params):BT:=setL (insL (T27 P) 940 (n28 P)) (c28 P)
noncomputable def p28:Pos:=⟨491,0,497,15⟩
noncomputable def T29 (P:Params):BT:=setL (insL (T28 P) 947 (n29 P)) (c29 P)
noncomputable def p29:Pos:=⟨498,0,500,67⟩
noncomputable def T30 (P:Params):BT:=setL (insL (T29 P) 954 (n30 P)) (c30 P)
noncomputable def p30:Pos:=⟨501,0,503,68⟩
noncomputable def T31 (P:Params):BT:=setL (insL (T30 P) 961 (n31 P)) (c31 P)
noncomputable def p31:Pos:=⟨504,0,506,43⟩
noncomputable def T32 (P:Params):BT:=setL (insL (T31 P) 968 (n32 P)) (c32 P)
noncomputable def p32:Pos:=⟨507,0,507,8⟩
noncomputable def T33 (P:Params):BT:=setL (insL (T32 P) 968 (n33 P)) (c33 P)
noncomputable def p33:Pos:=⟨508,0,554,26⟩
noncomputable def T34 (P:Params):BT:=setL (insL (T33 P) 1025 (n34 P)) (c34 P)
noncomputable def p34:Pos:=⟨555,0,566,28⟩
noncomputable def T35 (P:Params):BT:=setL (insL (T34 P) 1033 (n35 P)) (c35 P)
noncomputable def p35:Pos:=⟨567,0,571,67⟩
noncomputable def T36 (P:Params):BT:=setL (insL (T35 P) 1040 (n36 P)) (c36 P)
noncomputable def p36:Pos:=⟨572,0,573,8⟩
noncomputable def T37 (P:Params):BT:=setL (insL (T36 P) 1053 (n37 P)) (c37 P)
noncomputable def p37:Pos:=⟨574,0,574,8⟩
noncomputable def T38 (P:Params):BT:=setL (insL (T37 P) 1053 (n38 P)) (c38 P)
noncomputable def p38:Pos:=⟨575,0,575,11⟩
noncomputable def T39 (P:Params):BT:=setL (insL (T38 P) 1053 (n39 P)) (c39 P)
noncomputable def p39:Pos:=⟨576,0,623,54⟩
noncomputable def T40 (P:Params):BT:=setL (insL (T39 P) 1060 (n40 P)) (c40 P)
noncomputable def p40:Pos:=⟨624,0,630,15⟩
noncomputable def T41 (P:Params):BT:=setL (insL (T40 P) 1067 (n41 P)) (c41 P)
noncomputable def p41:Pos:=⟨631,0,636,60⟩
noncomputable def T42 (P:Params):BT:=setL (insL (T41 P) 1074 (n42 P)) (c42 P)
noncomputable def p42:Pos:=⟨637,0,644,78⟩
noncomputable def T43 (P:Params):BT:=setL (insL (T42 P) 1081 (n43 P)) (c43 P)
noncomputable def p43:Pos:=⟨645,0,653,16⟩
noncomputable def T44 (P:Params):BT:=setL (insL (T43 P) 1086 (n44 P)) (c44 P)
noncomputable def p44:Pos:=⟨654,0,672,34⟩
noncomputable def T45 (P:Params):BT:=setL (insL (T44 P) 1093 (n45 P)) (c45 P)
noncomputable def p45:Pos:=⟨673,0,680,76⟩
noncomputable def T46 (P:Params):BT:=setL (insL (T45 P) 1100 (n46 P)) (c46 P)
noncomputable def p46:Pos:=⟨681,0,704,63⟩
abbrev PCW (w:World) (os:OsState) (n:Nat) (a:World→OsState→SharedT) (k:Nat) (p:Pos) (b:World→OsState→SharedT) (q:Pos):Prop:=segRun treeTable pP w 11 ann 1 n (a w os).abs (piecesOf (bo k) ev cd p B)=some (.next,(b w os).abs,cd,q)
theorem pc0 (w:World) (os:OsState):PCW w os 30 (S TP 15 187) 0 q0 (S T0 22 194) p0:=segRun_of (segT (by kernel_rfl))
theorem pc1 (w:World) (os:OsState):PCW w os 10 (S T0 22 194) 1 p0 (S T1 22 196) p1:=segRun_of (segT (by kernel_rfl))
theorem pc2 (w:World) (os:OsState):PCW w os 256 (S T1 22 196) 2 p1 (S T2 51 233) p2:=segRun_of (segT (by kernel_rfl))
theorem pc3 (w:World) (os:OsState):PCW w os 99 (S T2 51 233) 3 p2 (S T3 54 238) p3:=segRun_of (segT (by kernel_rfl))
theorem pc4 (w:World) (os:OsState):PCW w os 33 (S T3 54 238) 4 p3 (S T4 61 248) p4:=segRun_of (segT (by kernel_rfl))
theorem pc5 (w:World) (os:OsState):PCW w os 654 (S T4 61 248) 5 p4 (S T5 92 425) p5:=segRun_of (segT (by kernel_rfl))
theorem pc6 (w:World) (os:OsState):PCW w os 324 (S T5 92 425) 6 p5 (S T6 134 478) p6:=segRun_of (segT (by kernel_rfl))
theorem pc7 (w:World) (os:OsState):PCW w os 34 (S T6 134 478) 7 p6 (S T7 142 488) p7:=segRun_of (segT (by kernel_rfl))
theorem pc8 (w:World) (os:OsState):PCW w os 253 (S T7 142 488) 8 p7 (S T8 170 523) p8:=segRun_of (segT (by kernel_rfl))
theorem pc9 (w:World) (os:OsState):PCW w os 997 (S T8 170 523) 9 p8 (S T9 324 719) p9:=segRun_of (segT (by kernel_rfl))
theorem pc10 (w:World) (os:OsState):PCW w os 10 (S T9 324 719) 10 p9 (S T10 324 721) p10:=segRun_of (segT (by kernel_rfl))
theorem pc11 (w:World) (os:OsState):PCW w os 34 (S T10 324 721) 11 p10 (S T11 331 732) p11:=segRun_of (segT (by kernel_rfl))
theorem pc12 (w:World) (os:OsState):PCW w os 741 (S T11 331 732) 12 p11 (S T12 429 855) p12:=segRun_of (segT (by kernel_rfl))
theorem pc13 (w:World) (os:OsState):PCW w os 459 (S T12 429 855) 13 p12 (S T13 491 929) p13:=segRun_of (segT (by kernel_rfl))
theorem pc14 (w:World) (os:OsState):PCW w os 303 (S T13 491 929) 14 p13 (S T14 517 959) p14:=segRun_of (segT (by kernel_rfl))
theorem pc15 (w:World) (os:OsState):PCW w os 303 (S T14 517 959) 15 p14 (S T15 543 989) p15:=segRun_of (segT (by kernel_rfl))
theorem pc16 (w:World) (os:OsState):PCW w os 256 (S T15 543 989) 16 p15 (S T16 555 1005) p16:=segRun_of (segT (by kernel_rfl))
theorem pc17 (w:World) (os:OsState):PCW w os 303 (S T16 555 1005) 17 p16 (S T17 581 1035) p17:=segRun_of (segT (by kernel_rfl))
theorem pc18 (w:World) (os:OsState):PCW w os 30 (S T17 581 1035) 18 p17 (S T18 588 1042) p18:=segRun_of (segT (by kernel_rfl))
theorem pc19 (w:World) (os:OsState):PCW w os 463 (S T18 588 1042) 19 p18 (S T19 648 1122) p19:=segRun_of (segT (by kernel_rfl))
theorem pc20 (w:World) (os:OsState):PCW w os 339 (S T19 648 1122) 20 p19 (S T20 681 1164) p20:=segRun_of (segT (by kernel_rfl))
theorem pc21 (w:World) (os:OsState):PCW w os 434 (S T20 681 1164) 21 p20 (S T21 735 1230) p21:=segRun_of (segT (by kernel_rfl))
theorem pc22 (w:World) (os:OsState):PCW w os 398 (S T21 735 1230) 22 p21 (S T22 782 1292) p22:=segRun_of (segT (by kernel_rfl))
theorem pc23 (w:World) (os:OsState):PCW w os 242 (S T22 782 1292) 23 p22 (S T23 794 1308) p23:=segRun_of (segT (by kernel_rfl))
theorem pc24 (w:World) (os:OsState):PCW w os 383 (S T23 794 1308) 24 p23 (S T24 834 1356) p24:=segRun_of (segT (by kernel_rfl))
theorem pc25 (w:World) (os:OsState):PCW w os 383 (S T24 834 1356) 25 p24 (S T25 874 1404) p25:=segRun_of (segT (by kernel_rfl))
theorem pc26 (w:World) (os:OsState):PCW w os 350 (S T25 874 1404) 26 p25 (S T26 907 1443) p26:=segRun_of (segT (by kernel_rfl))
theorem pc27 (w:World) (os:OsState):PCW w os 350 (S T26 907 1443) 27 p26 (S T27 940 1482) p27:=segRun_of (segT (by kernel_rfl))
theorem pc28 (w:World) (os:OsState):PCW w os 32 (S T27 940 1482) 28 p27 (S T28 947 1491) p28:=segRun_of (segT (by kernel_rfl))
theorem pc29 (w:World) (os:OsState):PCW w os 30 (S T28 947 1491) 29 p28 (S T29 954 1498) p29:=segRun_of (segT (by kernel_rfl))
theorem pc30 (w:World) (os:OsState):PCW w os 30 (S T29 954 1498) 30 p29 (S T30 961 1505) p30:=segRun_of (segT (by kernel_rfl))
theorem pc31 (w:World) (os:OsState):PCW w os 30 (S T30 961 1505) 31 p30 (S T31 968 1512) p31:=segRun_of (segT (by kernel_rfl))
theorem pc32 (w:World) (os:OsState):PCW w os 10 (S T31 968 1512) 32 p31 (S T32 968 1514) p32:=segRun_of (segT (by kernel_rfl))
theorem pc33 (w:World) (os:OsState):PCW w os 390 (S T32 968 1514) 33 p32 (S T33 1025 1589) p33:=segRun_of (segT (by kernel_rfl))
theorem pc34 (w:World) (os:OsState):PCW w os 33 (S T33 1025 1589) 34 p33 (S T34 1033 1598) p34:=segRun_of (segT (by kernel_rfl))
theorem pc35 (w:World) (os:OsState):PCW w os 32 (S T34 1033 1598) 35 p34 (S T35 1040 1607) p35:=segRun_of (segT (by kernel_rfl))
theorem pc36 (w:World) (os:OsState):PCW w os 197 (S T35 1040 1607) 36 p35 (S T36 1053 1627) p36:=segRun_of (segT (by kernel_rfl))
theorem pc37 (w:World) (os:OsState):PCW w os 10 (S T36 1053 1627) 37 p36 (S T37 1053 1629) p37:=segRun_of (segT (by kernel_rfl))
theorem pc38 (w:World) (os:OsState):PCW w os 10 (S T37 1053 1629) 38 p37 (S T38 1053 1631) p38:=segRun_of (segT (by kernel_rfl))
theorem pc39 (w:World) (os:OsState):PCW w os 46 (S T38 1053 1631) 39 p38 (S T39 1060 1654) p39:=segRun_of (segT (by kernel_rfl))
theorem pc40 (w:World) (os:OsState):PCW w os 32 (S T39 1060 1654) 40 p39 (S T40 1067 1663) p40:=segRun_of (segT (by kernel_rfl))
theorem pc41 (w:World) (os:OsState):PCW w os 30 (S T40 1067 1663) 41 p40 (S T41 1074 1670) p41:=segRun_of (segT (by kernel_rfl))
theorem pc42 (w:World) (os:OsState):PCW w os 31 (S T41 1074 1670) 42 p41 (S T42 1081 1678) p42:=segRun_of (segT (by kernel_rfl))
theorem pc43 (w:World) (os:OsState):PCW w os 27 (S T42 1081 1678) 43 p42 (S T43 1086 1684) p43:=segRun_of (segT (by kernel_rfl))
theorem pc44 (w:World) (os:OsState):PCW w os 38 (S T43 1086 1684) 44 p43 (S T44 1093 1699) p44:=segRun_of (segT (by kernel_rfl))
theorem pc45 (w:World) (os:OsState):PCW w os 31 (S T44 1093 1699) 45 p44 (S T45 1100 1707) p45:=segRun_of (segT (by kernel_rfl))
theorem pc46 (w:World) (os:OsState):PCW w os 40 (S T45 1100 1707) 46 p45 (S T46 1107 1724) p46:=segRun_of (segT (by kernel_rfl))
theorem fin_ (w:World) (os:OsState):topRun treeTable pP w 11 ann 2 (S T46 1107 1724 w os).abs (restOf [] ev cd p46 B)=some (S T46 1107 1724 w os).abs:=by
 rw [PySem.W.Fast.te14082659384304107361,PySem.W.Fast.te14364793385576792824];kernel_rfl
theorem pre_ (w:World) (os:OsState):topGo treeTable pP w 11 ann 12 ⟨boot_heap w.params,Array.mk [],boot_drawn,boot_toks,os⟩ (topStub pP)=some ((S TP 15 187 w os).abs,⟨denote treeTable cd,cd,q0,B⟩):=by
 rw [PySem.W.Fast.te15667345088766844465,PySem.W.Fast.te11892475500146522536,PySem.W.Fast.te14364793385576792824];kernel_rfl
theorem blk_ (w:World) (os:OsState):segRun treeTable pP w 11 ann 1 1 (S TP 15 187 w os).abs (blockOf (behindTheImports pP) ev cd q0 B)=some (.next,(S TP 15 187 w os).abs,cd,q0):=by
 rw [PySem.W.Fast.te14374325043358763698,PySem.W.Fast.te14364793385576792824];kernel_rfl
noncomputable def all:List Stmt:=bo 0++(bo 1++(bo 2++(bo 3++(bo 4++(bo 5++(bo 6++(bo 7++(bo 8++(bo 9++(bo 10++(bo 11++(bo 12++(bo 13++(bo 14++(bo 15++(bo 16++(bo 17++(bo 18++(bo 19++(bo 20++(bo 21++(bo 22++(bo 23++(bo 24++(bo 25++(bo 26++(bo 27++(bo 28++(bo 29++(bo 30++(bo 31++(bo 32++(bo 33++(bo 34++(bo 35++(bo 36++(bo 37++(bo 38++(bo 39++(bo 40++(bo 41++(bo 42++(bo 43++(bo 44++(bo 45++(bo 46++[]))))))))))))))))))))))))))))))))))))))))))))))
theorem all_eq:all=behindTheImports pP:=by kernel_rfl
abbrev M1:Nat:=30+(10+(256+(99+(33+(654+(324+(34+(253+(997+(10+(34+(741+(459+(303+(303+(256+(303+(30+(463+(339+(434+(398+(242+(383+(383+(350+(350+(32+(30+(30+(30+(10+(390+(33+(32+(197+(10+(10+(46+(32+(30+(31+(27+(38+(31+(40+2))))))))))))))))))))))))))))))))))))))))))))))
theorem rests (w:World) (os:OsState):topRun treeTable pP w 11 ann M1 (S TP 15 187 w os).abs (restOf all ev cd q0 B)=some (S T46 1107 1724 w os).abs :=
 (piece_app (pc0 w os) (piece_app (pc1 w os) (piece_app (pc2 w os) (piece_app (pc3 w os) (piece_app (pc4 w os) (piece_app (pc5 w os) (piece_app (pc6 w os) (piece_app (pc7 w os) (piece_app (pc8 w os) (piece_app (pc9 w os) (piece_app (pc10 w os) (piece_app (pc11 w os) (piece_app (pc12 w os) (piece_app (pc13 w os) (piece_app (pc14 w os) (piece_app (pc15 w os) (piece_app (pc16 w os) (piece_app (pc17 w os) (piece_app (pc18 w os) (piece_app (pc19 w os) (piece_app (pc20 w os) (piece_app (pc21 w os) (piece_app (pc22 w os) (piece_app (pc23 w os) (piece_app (pc24 w os) (piece_app (pc25 w os) (piece_app (pc26 w os) (piece_app (pc27 w os) (piece_app (pc28 w os) (piece_app (pc29 w os) (piece_app (pc30 w os) (piece_app (pc31 w os) (piece_app (pc32 w os) (piece_app (pc33 w os) (piece_app (pc34 w os) (piece_app (pc35 w os) (piece_app (pc36 w os) (piece_app (pc37 w os) (piece_app (pc38 w os) (piece_app (pc39 w os) (piece_app (pc40 w os) (piece_app (pc41 w os) (piece_app (pc42 w os) (piece_app (pc43 w os) (piece_app (pc44 w os) (piece_app (pc45 w os) (piece_app (rest:=[]) (pc46 w os) (fin_ w os))))))))))))))))))))))))))))))))))))))))))))))))
theorem run_ (w:World) (os:OsState):topRun treeTable pP w 11 ann (12+(1+M1)) ⟨boot_heap w.params,Array.mk [],boot_drawn,boot_toks,os⟩ (topStub pP)=some (S T46 1107 1724 w os).abs :=
 go_top (pre_ w os) (piece_block (blk_ w os) (by have h:=rests w os;rw [all_eq] at h;exact h))
theorem open_:∀ w:World,(fencedOpening treeTable pP w 20000).map (fun s=>(s.heap,s.gens,s.drawn,s.toks))=some (boot_heap w.params,Array.mk [],boot_drawn,boot_toks) :=
 boot_open (by kernel_rfl) (by decide) (fun _=>by kernel_rfl)
theorem size_:∀ w:World,((boot_heap w.params).isNs mainGlobals&&(Array.mk []:Array GenState).size==0,(boot_heap w.params).objs.size,(boot_heap w.params).nsMap mainGlobals "__annotations__")=(true,11,ann):=fun w=>by kernel_rfl
noncomputable def H1 (P:Params):Heap:=absHeap (T46 P) 1107 {}
noncomputable def vq:Program:=view pP [46]
noncomputable def loose:List Str:=(pP.boundNames).filter fun n=>n !=(Str.ofString "law")
abbrev rw0:=PySem.Challenge.rw_jn0057_01
noncomputable abbrev Xt (s:Shared):Bool:=xlAt vq [] s&&recOk [] s
abbrev Yf (s:Shared):Heap×Nat:=(s.heap,s.toks)
noncomputable abbrev Ya (w:World):Heap×Nat:=(H1 w.params,1724)
theorem look1 (w:World) (os:OsState):(staticsOk (importedModules pP.main.body) (boot_heap w.params) (H1 w.params)&&namesBound pP (H1 w.params)&&gensDone ⟨H1 w.params,#[],{},1724,os⟩&&laidKept (boot_heap w.params) (H1 w.params))=true:=by
 kernel_rfl
theorem look2 (w:World) (os:OsState):openSeen vq loose (importedModules pP.main.body) Xt true ⟨H1 w.params,#[],{},1724,os⟩=openGood vq loose:=by
 kernel_rfl
theorem S_abs (T:Params→BT) (n k:Nat) (w:World) (os:OsState):(S T n k w os).abs=⟨absHeap (T w.params) n {},#[],{},k,os⟩:=rfl
theorem H1_eq (P:Params):absHeap (T46 P) 1107 {}=H1 P:=rfl
theorem run2 (w:World) (os:OsState):topRun treeTable pP w 11 ann (12+(1+M1)) ⟨boot_heap w.params,Array.mk [],boot_drawn,boot_toks,os⟩ (topStub pP)=some ⟨H1 w.params,#[],{},1724,os⟩:=by
 have h:=run_ w os
 rw [S_abs,H1_eq] at h
 exact h
theorem looks (w:World):(fun os=>((staticsOk (importedModules pP.main.body) (boot_heap w.params) (H1 w.params)&&namesBound pP (H1 w.params)&&gensDone ⟨H1 w.params,#[],{},1724,os⟩&&laidKept (boot_heap w.params) (H1 w.params)),
    openSeen vq loose (importedModules pP.main.body) Xt true ⟨H1 w.params,#[],{},1724,os⟩,Yf ⟨H1 w.params,#[],{},1724,os⟩))=fun _=>(true,openGood vq loose,Ya w) :=
 funext fun os=>congr (congrArg Prod.mk (look1 w os)) (congr (congrArg Prod.mk (look2 w os)) rfl)
theorem left:LeftO pP vq loose Xt Yf Ya 20000 :=
 LeftO.of_pieces (H₀:=boot_heap) (H₁:=H1) (gs₀:=Array.mk []) (gs₁:=#[]) (d₀:=boot_drawn) (d₁:={}) (k₀:=boot_toks) (k₁:=1724) (m₀:=11) (ann:=ann) (M:=12+(1+M1)) open_ size_ run2 (by decide+kernel) looks
theorem h_lk0:(sreFenced pP.main)=true:=by rw [PySem.W.Fast.te11788848310118352699];kernel_rfl
theorem h_lk1:(((moduleNames pP.main.body).isEmpty||lookedIntoSs (moduleNames pP.main.body) pP.main.body))=true:=by kernel_rfl
theorem h_lk2:(namesResolve pP)=true:=by rw [PySem.W.Fast.te8377067652309620493];kernel_rfl
theorem h_lk3:(pP.boundNames.all (fun n=>!worldNames.contains n))=true:=by rw [PySem.W.Fast.te18344453789297297638];kernel_rfl
theorem h_lk4a:(!(importedModules pP.main.body).all cThrough.contains)=false:=by kernel_rfl
theorem h_lk4b:((["vars","dir","locals"]:List Str).filter (readsOut pP pP.main.body))=[]:=by kernel_rfl
theorem h_lk4c:(noRoadLSs { strict:=false,foot:=none,bare:=[] } pP.main.body)=true:=by rw [PySem.W.Fast.te8326940854005059898];kernel_rfl
theorem h_lk4:(noRoadLSs { strict:=!(importedModules pP.main.body).all cThrough.contains,foot:=none,bare:=(["vars","dir","locals"]:List Str).filter (readsOut pP pP.main.body) } pP.main.body)=true:=by rw [h_lk4a,h_lk4b];exact h_lk4c
theorem h_lk5:(namesMeet pP pP.main.body fun _ n=>attrL n)=true:=by rw [PySem.W.Fast.te17119622794617984870];kernel_rfl
theorem h_lk:looksOpen rw0.row.prog=true:=look_both (look_both (look_both (look_both (look_both (h_lk0) (h_lk1)) (h_lk2)) (h_lk3)) (h_lk4)) (h_lk5)
theorem h_part:rw0.row.partSaid=true:=by
 unfold OpenRow.partSaid
 exact look_both (look_both (look_both (look_both (look_both (look_both (look_both (look_both (look_both (look_both (look_both (look_both (look_both (h_lk) (by kernel_rfl)) (by kernel_rfl)) (by kernel_rfl)) (by kernel_rfl)) (by kernel_rfl)) (by kernel_rfl)) (by kernel_rfl)) (by kernel_rfl)) (by kernel_rfl)) (by kernel_rfl)) (by kernel_rfl)) (by kernel_rfl)) (by kernel_rfl)
theorem h_rsaid:rw0.row.wellSaid=true:=by
 unfold OpenRow.wellSaid
 exact look_both (look_both (h_part) (by rw [PySem.W.Fast.te18344453789297297638];kernel_rfl)) (by kernel_rfl)
theorem said:rw0.wellSaid=true:=by
 unfold OpenLaw.wellSaid
 exact look_both (look_both (look_both (look_both (look_both (look_both (look_both (look_both (look_both (look_both (look_both (look_both (look_both (look_both (look_both (look_both (look_both (look_both (h_rsaid) (by kernel_rfl)) (by kernel_rfl)) (by rw [PySem.W.Fast.te8179353310426384613];kernel_rfl)) (by kernel_rfl)) (by kernel_rfl)) (by rw [PySem.W.Fast.te8326940854005059898];kernel_rfl)) (by rw [PySem.W.Fast.te9558739934217749035];kernel_rfl)) (by rw [PySem.W.Fast.te16286561074155671207];kernel_rfl)) (by kernel_rfl)) (by kernel_rfl)) (by kernel_rfl)) (by kernel_rfl)) (by rw [PySem.W.Fast.te17119622794617984870];kernel_rfl)) (by kernel_rfl)) (by kernel_rfl)) (by kernel_rfl)) (by rw [PySem.W.Fast.te17119622794617984870];kernel_rfl)) (by rw [PySem.W.Fast.te17119622794617984870];kernel_rfl)
theorem dd_ex:(defOf vq rw0.row.name).isSome=true:=by kernel_rfl
noncomputable def dd:DefRec:=((defOf vq rw0.row.name).get dd_ex).1
noncomputable def kwd:List (Str×Expr):=((defOf vq rw0.row.name).get dd_ex).2
theorem dd_is:defOf vq rw0.row.name=some (dd,kwd):=by kernel_rfl
theorem theDef_is:rw0.row.prog.theDef rw0.row.name=some (dd.params,dd.body,dd.scope):=by kernel_rfl
theorem kw_is:kwWritten? dd.params.kwonlyargs dd.params.kw_defaults=some kwd:=by kernel_rfl
theorem ok_is:(chainsOk vq&&opensWell rw0.row.prog&&(frees rw0.row.toRowW&&rw0.row.within.isEmpty))=true:=by kernel_rfl
theorem bare_is:rw0.row.prog.bare:=⟨rfl,rfl,rfl,rfl,rfl,by kernel_rfl⟩
theorem prom:rw0.row.toRowW.promised:=by w_witness2
theorem head (call:WalkX vq loose (XL vq []) Yf Ya rw0.row.toRowW dd kwd fun f vs=>PySem.call f vs):rw0.Holds :=
 holds_law said fun said'=>holds_openX (r:=rw0.row) (q:=vq) (loose:=loose) (Xt:=Xt) (XP:=XL vq []) (Yf:=Yf) (Ya:=Ya) (N:=20000) left
  (fun s e=>xl_of s (Bool.and_eq_true_iff.mp e).1) XL.keeps dd_is theDef_is kw_is (fun s e=>recFacts_of (R:=[]) (Bool.and_eq_true_iff.mp e).2) rfl said' ok_is bare_is prom call
noncomputable def gt (l:List Obj) (j:Nat):Obj:=l.getD j default
@[irreducible] noncomputable def K (P:Params):Frag:=[
 (0,boot_o_0 P),
 (1,boot_o_1 P),
 (2,dn [e P "type.__subclasses__.Exception.0" 1623 (i 1049 0),e P "type.__subclasses__.Exception.n" 1624 (i 1 0)] 2),
 (3,di "dict" [e P "__name__" 165 (s "law_jn0057_01" 1627),e P "__doc__" 166 .none,e P "__package__" 167 .none,e P "__loader__" 168 (.builtin "__main__.__loader__#opaque"),e P "__spec__" 169 .none,e P "__annotations__" 170 (r 6),e P "__builtins__" 171 (r 4),e P "__file__" 173 (s "/claim/cut.py" 172),e P "__cached__" 174 .none,e P "_wall" 193 (r 21),e P "Counter" 232 (r 46),e P "_counter" 237 (r 52),e P "_union" 247 (r 60),e P "Tokens" 424 (r 87),e P "Variable" 477 (r 129),e P "unique_variable" 487 (r 141),e P "SubstituteBindingsI" 522 (r 165),e P "Expression" 718 (r 321),e P "MAX_SIMPLIFY_SIZE" 720 (i 10000 719),e P "_exceeds_size" 731 (r 330),e P "ApplicationExpression" 854 (r 426),e P "AbstractVariableExpression" 928 (r 488),e P "IndividualVariableExpression" 958 (r 514),e P "FunctionVariableExpression" 988 (r 540),e P "EventVariableExpression" 1004 (r 552),e P "ConstantExpression" 1034 (r 578),e P "VariableExpression" 1041 (r 587),e P "VariableBinderExpression" 1121 (r 645),e P "LambdaExpression" 1163 (r 678),e P "NegatedExpression" 1229 (r 732),e P "BinaryExpression" 1291 (r 779),e P "BooleanExpression" 1307 (r 791),e P "AndExpression" 1355 (r 831),e P "OrExpression" 1403 (r 871),e P "ImpExpression" 1442 (r 904),e P "IffExpression" 1481 (r 937),e P "_is_letter_and_digits" 1490 (r 946),e P "is_indvar" 1497 (r 953),e P "is_funcvar" 1504 (r 960),e P "is_eventvar" 1511 (r 967),e P "BindingDict" 1588 (r 1020),e P "most_general_unification" 1597 (r 1032),e P "_mgu_var" 1606 (r 1039),e P "BindingException" 1626 (r 1049),e P "_law_digits" 1630 (s "0123456789" 1629),e P "_law_pair" 1653 (r 1059),e P "_law_expr" 1662 (r 1066),e P "_law_tree" 1669 (r 1073),e P "_law_filled" 1677 (r 1080),e P "_law_names" 1683 (r 1085),e P "_law_solved" 1698 (r 1092),e P "_law_plain" 1706 (r 1099),e P "law" 1723 (r 1106)] 53),
 (4,boot_o_4 P),
 (5,boot_o_5 P),
 (59,gt (n4 P) 5),
 (60,gt (n4 P) 6),
 (104,gt (n6 P) 12),
 (105,gt (n6 P) 13),
 (111,gt (n6 P) 19),
 (112,gt (n6 P) 20),
 (128,gt (n6 P) 36),
 (129,gt (n6 P) 37),
 (164,gt (n8 P) 22),
 (165,clX "SubstituteBindingsI" "SubstituteBindingsI" [(.type "object")] [(r 165),(.type "object")] 164 true 0 [(r 321)] false false [none,none,(some (s "SubstituteBindingsI" 488)),(some (s "SubstituteBindingsI" 496)),(some (.builtin "object.__new__")),(some (.bool true))]),
 (248,gt (n9 P) 78),
 (249,gt (n9 P) 79),
 (255,gt (n9 P) 85),
 (256,gt (n9 P) 86),
 (257,gt (n9 P) 87),
 (263,gt (n9 P) 93),
 (264,gt (n9 P) 94),
 (270,gt (n9 P) 100),
 (271,gt (n9 P) 101),
 (277,gt (n9 P) 107),
 (278,gt (n9 P) 108),
 (282,gt (n9 P) 112),
 (283,gt (n9 P) 113),
 (289,gt (n9 P) 119),
 (290,gt (n9 P) 120),
 (296,gt (n9 P) 126),
 (297,gt (n9 P) 127),
 (310,gt (n9 P) 140),
 (311,gt (n9 P) 141),
 (317,gt (n9 P) 147),
 (318,gt (n9 P) 148),
 (320,gt (n9 P) 150),
 (321,clX "Expression" "Expression" [(r 165)] [(r 321),(r 165),(.type "object")] 320 true 0 [(r 426),(r 488),(r 645),(r 732),(r 779)] false false [(some (r 170)),none,(some (s "Expression" 523)),(some (s "Expression" 531)),(some (.builtin "object.__new__")),(some (.bool true))]),
 (343,gt (n12 P) 12),
 (344,gt (n12 P) 13),
 (350,gt (n12 P) 19),
 (351,gt (n12 P) 20),
 (357,gt (n12 P) 26),
 (358,gt (n12 P) 27),
 (364,gt (n12 P) 33),
 (365,gt (n12 P) 34),
 (371,gt (n12 P) 40),
 (372,gt (n12 P) 41),
 (378,gt (n12 P) 47),
 (379,gt (n12 P) 48),
 (385,gt (n12 P) 54),
 (386,gt (n12 P) 55),
 (425,gt (n12 P) 94),
 (426,gt (n12 P) 95),
 (441,gt (n13 P) 12),
 (442,gt (n13 P) 13),
 (448,gt (n13 P) 19),
 (449,gt (n13 P) 20),
 (450,gt (n13 P) 21),
 (456,gt (n13 P) 27),
 (457,gt (n13 P) 28),
 (463,gt (n13 P) 34),
 (464,gt (n13 P) 35),
 (470,gt (n13 P) 41),
 (471,gt (n13 P) 42),
 (487,gt (n13 P) 58),
 (488,clX "AbstractVariableExpression" "AbstractVariableExpression" [(r 321)] [(r 488),(r 321),(r 165),(.type "object")] 487 true 0 [(r 514),(r 540),(r 578)] false false [(some (r 429)),none,(some (s "AbstractVariableExpression" 855)),(some (s "AbstractVariableExpression" 863)),(some (.builtin "object.__new__")),(some (.bool true))]),
 (503,gt (n14 P) 12),
 (504,gt (n14 P) 13),
 (510,gt (n14 P) 19),
 (511,gt (n14 P) 20),
 (513,gt (n14 P) 22),
 (514,clX "IndividualVariableExpression" "IndividualVariableExpression" [(r 488)] [(r 514),(r 488),(r 321),(r 165),(.type "object")] 513 true 0 [(r 552)] false false [(some (r 491)),none,(some (s "IndividualVariableExpression" 929)),(some (s "IndividualVariableExpression" 937)),(some (.builtin "object.__new__")),(some (.bool true))]),
 (539,gt (n15 P) 22),
 (540,gt (n15 P) 23),
 (551,gt (n16 P) 8),
 (552,gt (n16 P) 9),
 (567,gt (n17 P) 12),
 (568,gt (n17 P) 13),
 (574,gt (n17 P) 19),
 (575,gt (n17 P) 20),
 (577,gt (n17 P) 22),
 (578,gt (n17 P) 23),
 (586,gt (n18 P) 5),
 (587,gt (n18 P) 6),
 (677,gt (n20 P) 29),
 (678,gt (n20 P) 30),
 (945,gt (n28 P) 5),
 (946,gt (n28 P) 6),
 (952,gt (n29 P) 5),
 (953,gt (n29 P) 6),
 (959,gt (n30 P) 5),
 (960,gt (n30 P) 6),
 (966,gt (n31 P) 5),
 (967,gt (n31 P) 6),
 (975,gt (n33 P) 7),
 (981,gt (n33 P) 13),
 (982,gt (n33 P) 14),
 (988,gt (n33 P) 20),
 (989,gt (n33 P) 21),
 (995,gt (n33 P) 27),
 (996,gt (n33 P) 28),
 (1002,gt (n33 P) 34),
 (1003,gt (n33 P) 35),
 (1009,gt (n33 P) 41),
 (1010,gt (n33 P) 42),
 (1019,gt (n33 P) 51),
 (1020,gt (n33 P) 52),
 (1025,gt (n34 P) 0),
 (1031,gt (n34 P) 6),
 (1032,gt (n34 P) 7),
 (1038,gt (n35 P) 5),
 (1039,gt (n35 P) 6),
 (1048,gt (n36 P) 8),
 (1049,gt (n36 P) 9),
 (1058,gt (n39 P) 5),
 (1059,gt (n39 P) 6),
 (1065,gt (n40 P) 5),
 (1066,gt (n40 P) 6),
 (1072,gt (n41 P) 5),
 (1073,gt (n41 P) 6),
 (1079,gt (n42 P) 5),
 (1080,gt (n42 P) 6),
 (1084,gt (n43 P) 3),
 (1085,gt (n43 P) 4),
 (1091,gt (n44 P) 5),
 (1092,gt (n44 P) 6),
 (1098,gt (n45 P) 5),
 (1099,gt (n45 P) 6),
 (1105,gt (n46 P) 5),
 (1106,gt (n46 P) 6)]
theorem K_tree (P:Params):(K P).map (fun p=>(T46 P).get p.1)=(K P).map (fun p=>some p.2):=by kernel_rfl
theorem K_alive (P:Params):(K P).map (fun p=>(alive p.2,Nat.blt p.1 1107))=(K P).map (fun p=>(some p.2,true)):=by kernel_rfl
theorem map_at {α β:Type} {f g:α→β}:∀ {l:List α},l.map f=l.map g→∀ x∈l,f x=g x
 | [],_,_,h=>nomatch h
 | a::l,e,x,h=>by
  rw [List.map_cons,List.map_cons] at e
  injection e with e1 e2
  rcases List.mem_cons.mp h with rfl | h
  ·exact e1
  ·exact map_at e2 x h
theorem mem_of_lookup {a:Addr} {o:Obj}:∀ {l:Frag},l.lookup a=some o→(a,o)∈l
 | [],h=>nomatch h
 | (b,x)::l,h=>by
  rw [List.lookup_cons] at h
  by_cases q:(a==b)=true
  ·rw [q] at h
   cases h
   rw [eq_of_beq q]
   exact .head _
  ·simp only [q] at h
   exact .tail _ (mem_of_lookup h)
theorem K_in (P:Params):(K P).In (H1 P):=fun a o h=>by
 have m:=mem_of_lookup h
 have e1:(T46 P).get a=some o:=map_at (K_tree P) (a,o) m
 have e2:(alive o,Nat.blt a 1107)=(some o,true):=map_at (K_alive P) (a,o) m
 have e3:alive o=some o:=(Prod.mk.inj e2).1
 have e4:Nat.blt a 1107=true:=(Prod.mk.inj e2).2
 have lt:a<1107:=Nat.le_of_ble_eq_true e4
 exact (abs_get lt e1).trans e3
noncomputable section
abbrev Mp:=Addr→Option Obj
inductive T where
 | n (s:Str) | ni (k:Int) | rex | tom | mo (t:T) | fa (t:T) | su (a b:T)
inductive C5 where
 | rex | tom | mother | father | sum
inductive X where
 | var (s:Str) | con (c:C5) | app (f a:X)
noncomputable def C5.nm:C5→Str
 | .rex => "rex" | .tom => "tom" | .mother => "mother" | .father => "father" | .sum => "sum"
inductive V where
 | none | bool (b:Bool) | int (i:Int) | str (s:Str)
 | tr (t:T) | vr (s:Str) | ex (e:X)
 | tup (vs:List V) | lst (vs:List V) | ls (l:List Str) | lv (l:List Str) | dct (kvs:List (Str×V))
 | cell (k:Nat) | raw (C:Nat) (k:Nat) | bd (d:List (Str×X))
 | fn (a:Nat) | bi (n:String) | ty (n:String)
 | lam (i:Nat) (caps:List V)
noncomputable def T.un:T→List V
 | .n s=>[.str "n", .str s]
 | .ni k=>[.str "n", .int k]
 | .rex=>[.str "c", .str "rex"]
 | .tom=>[.str "c", .str "tom"]
 | .mo t=>[.str "mother", .tr t]
 | .fa t=>[.str "father", .tr t]
 | .su a b=>[.str "sum", .tr a,.tr b]
noncomputable def V.items:V→Option (List V)
 | .tr t=>some t.un
 | .tup vs=>some vs
 | _=>Option.none
noncomputable def V.elems:V→Option (List V)
 | .lst vs=>some vs
 | .ls l=>some (l.map .str)
 | .lv l=>some (l.map .vr)
 | _=>Option.none
noncomputable def V.inst:V→Option (Nat×List (Str×V))
 | .vr s=>some (129,[("name", .str s)])
 | .ex (.var s)=>some (514,[("variable", .vr s)])
 | .ex (.con c)=>some (578,[("variable", .vr c.nm)])
 | .ex (.app f a)=>some (426,[("function", .ex f),("argument", .ex a)])
 | .bd d=>some (1020,[("d", .dct (d.map fun p=>(p.1,.ex p.2)))])
 | _=>Option.none
structure LamInfo where
 qual:Str
 params:Arguments
 body:Expr
 scope:Scope
 caps:List Str
section
variable (prog:Program) (w:World) (LI:Nat→Option LamInfo) (φ:Mp) (ca:List Addr)
mutual
inductive RV:V→Value→Prop
 | none:RV .none .none
 | bool {b}:RV (.bool b) (.bool b)
 | int {i t}:RV (.int i) (.int i t)
 | str {s t}:RV (.str s) (.str s t)
 | tup {v vs us a}:v.items=some vs→RVs vs us→φ a=some (tu us)→RV v (.ref a)
 | lst {v vs us a n}:v.elems=some vs→RVs vs us→φ a=some (listOf us.toArray n)→RV v (.ref a)
 | dct {kvs a o ws}:a≠1→φ a=some o→o.IsDictOf (PySem.strKind prog w) ws→RKs kvs ws→RV (.dct kvs) (.ref a)
 | inst {v C fs x dx es n}:v.inst=some (C,fs)→φ x=some (instObj C dx)→φ dx=some (dictOf es n)→REs fs es→RV v (.ref x)
 | cell {k a}:ca[k]?=some a→RV (.cell k) (.ref a)
 | raw {C k x dx}:φ x=some (instObj C dx)→ca[k]?=some dx→RV (.raw C k) (.ref x)
 | fn {a}:RV (.fn a) (.ref a)
 | bi {n}:RV (.bi n) (.builtin n)
 | ty {n}:RV (.ty n) (.type n)
 | lam {i caps f clos pm c oc t ct} {I:LamInfo} {vs:Array Value} {us:List Value}:LI i=some I→φ f=some (kla_obj "<lambda>" I.qual I.params I.body I.scope clos pm c ct) →
   φ c=some oc→oc.data=.fields vs→vs[1]?=some (.str I.qual t)→clos.map (·.1)=I.caps →
   (∀ (j:Nat) (x:Str) (a:Addr),clos[j]?=some (x,a)→∃ o u,φ a=some o∧o.data=.cell (some u)∧us[j]?=some u)→us.length=clos.length→RVs caps us→RV (.lam i caps) (.ref f)
inductive RVs:List V→List Value→Prop
 | nil:RVs [] []
 | cons {v vs u us}:RV v u→RVs vs us→RVs (v::vs) (u::us)
inductive RKs:List (Str×V)→List (Str×Value)→Prop
 | nil:RKs [] []
 | cons {k v vs u us}:RV v u→RKs vs us→RKs ((k,v)::vs) ((k,u)::us)
inductive REs:List (Str×V)→List DictEntry→Prop
 | nil:REs [] []
 | cons {k v vs h t u us}:RV v u→REs vs us→REs ((k,v)::vs) (⟨h,.str k t,u⟩::us)
end
end
theorem nsm {α:Type} {P:Prop} {x:Option α} {a:α} (h:x=none) (k:x=some a):P:=by rw [h] at k;cases k
theorem smi {α:Type} {x:Option α} {a b:α} (h:x=some a) (k:x=some b):a=b:=Option.some.inj (h.symm.trans k)
theorem items_elim {P:V→Prop} {v:V} {vs:List V} (e:v.items=some vs) (h1:∀ t:T,t.un=vs→P (.tr t)) (h2:P (.tup vs)):P v:=by
 cases v<;>first | exact h1 _ (Option.some.inj e) | exact (Option.some.inj e)▸h2 | exact nsm rfl e
theorem elems_elim {P:V→Prop} {v:V} {vs:List V} (e:v.elems=some vs) (h1:P (.lst vs)) (h2:∀ l:List Str,l.map V.str=vs→P (.ls l)) (h3:∀ l:List Str,l.map V.vr=vs→P (.lv l)):P v:=by
 cases v<;>first | exact (Option.some.inj e)▸h1 | exact h2 _ (Option.some.inj e) | exact h3 _ (Option.some.inj e) | exact nsm rfl e
theorem inst_elim {P:V→Prop} {v:V} {p:Nat×List (Str×V)} (e:v.inst=some p) (h1:∀ s,(V.vr s).inst=some p→P (.vr s)) (h2:∀ x,(V.ex x).inst=some p→P (.ex x)) (h3:∀ d,(V.bd d).inst=some p→P (.bd d)):P v:=by
 cases v<;>first | exact h1 _ e | exact h2 _ e | exact h3 _ e | exact nsm rfl e
theorem ifs {α:Type} {b:Bool} {x:Option α} {y:α} (e:(if b=true then x else none)=some y):b=true∧x=some y:=by
 cases b with
 | true=>exact ⟨rfl,e⟩
 | false=>exact nsm rfl e
theorem ifn {α:Type} {b:Bool} {x:Option α} {y:α} (e:(if b=true then none else x)=some y):b=false∧x=some y:=by
 cases b with
 | false=>exact ⟨rfl,e⟩
 | true=>exact nsm rfl e
theorem opt_none {α:Type} {x:Option α} (h:∀ a,x=some a→False):x=none:=by
 cases x with
 | none=>rfl
 | some a=>exact (h a rfl).elim
section
variable (prog:Program) (w:World) (LI:Nat→Option LamInfo) (φ:Mp) (ca:List Addr)
abbrev RTup (vs:List V) (u:Value):Prop:=∃ us a,u=.ref a∧RVs prog w LI φ ca vs us∧φ a=some (tu us)
abbrev RLst (vs:List V) (u:Value):Prop:=∃ us a n,u=.ref a∧RVs prog w LI φ ca vs us∧φ a=some (listOf us.toArray n)
abbrev RObj (v:V) (u:Value):Prop:=∀ C fs,v.inst=some (C,fs)→∃ x dx es n,u=.ref x∧φ x=some (instObj C dx)∧φ dx=some (dictOf es n)∧REs prog w LI φ ca fs es
noncomputable def RVI:V→Value→Prop
 | .none,u=>u=.none
 | .bool b,u=>u=.bool b
 | .int i,u=>∃ t,u=.int i t
 | .str s,u=>∃ t,u=.str s t
 | .tr t,u=>RTup prog w LI φ ca t.un u
 | .tup vs,u=>RTup prog w LI φ ca vs u
 | .lst vs,u=>RLst prog w LI φ ca vs u
 | .ls l,u=>RLst prog w LI φ ca (l.map .str) u
 | .lv l,u=>RLst prog w LI φ ca (l.map .vr) u
 | .dct kvs,u=>∃ a o ws,u=.ref a∧a≠1∧φ a=some o∧o.IsDictOf (PySem.strKind prog w) ws∧RKs prog w LI φ ca kvs ws
 | .vr s,u=>RObj prog w LI φ ca (.vr s) u
 | .ex x,u=>RObj prog w LI φ ca (.ex x) u
 | .bd d,u=>RObj prog w LI φ ca (.bd d) u
 | .cell k,u=>∃ a,u=.ref a∧ca[k]?=some a
 | .raw C k,u=>∃ x dx,u=.ref x∧φ x=some (instObj C dx)∧ca[k]?=some dx
 | .fn a,u=>u=.ref a
 | .bi n,u=>u=.builtin n
 | .ty n,u=>u=.type n
 | .lam i _,u=>∃ f I clos pm c ct,u=.ref f∧LI i=some I∧φ f=some (kla_obj "<lambda>" I.qual I.params I.body I.scope clos pm c ct)
variable {prog w LI φ ca}
theorem RObj.of {v:V} {C:Nat} {fs:List (Str×V)} {x dx:Addr} {es:List DictEntry} {n:Nat} (e:v.inst=some (C,fs)) (h1:φ x=some (instObj C dx)) (h2:φ dx=some (dictOf es n)) (h3:REs prog w LI φ ca fs es):RObj prog w LI φ ca v (.ref x):=fun _ _ q=>by
 cases e.symm.trans q;exact ⟨_,_,_,_,rfl,h1,h2,h3⟩
theorem RV.inv {v:V} {u:Value} (h:RV prog w LI φ ca v u):RVI prog w LI φ ca v u :=
 RV.casesOn (motive_1:=fun v u _=>RVI prog w LI φ ca v u) h rfl rfl ⟨_,rfl⟩ ⟨_,rfl⟩
  (fun e x y=>items_elim (P:=fun v=>RVI prog w LI φ ca v _) e (fun _ q=>⟨_,_,rfl,q▸x,y⟩) ⟨_,_,rfl,x,y⟩)
  (fun e x y=>elems_elim (P:=fun v=>RVI prog w LI φ ca v _) e ⟨_,_,_,rfl,x,y⟩ (fun _ q=>⟨_,_,_,rfl,q▸x,y⟩) (fun _ q=>⟨_,_,_,rfl,q▸x,y⟩))
  (fun n x y z=>⟨_,_,_,rfl,n,x,y,z⟩)
  (fun e x y z=>inst_elim (P:=fun v=>RVI prog w LI φ ca v _) e (fun _ q=>RObj.of q x y z) (fun _ q=>RObj.of q x y z) (fun _ q=>RObj.of q x y z))
  (fun e=>⟨_,rfl,e⟩) (fun x e=>⟨_,_,rfl,x,e⟩) rfl rfl rfl (fun a b _ _ _ _ _ _ _=>⟨_,_,_,_,_,_,rfl,a,b⟩)
theorem REs.nil_ {es:List DictEntry} (h:REs prog w LI φ ca [] es):es=[]:=by cases h;rfl
theorem REs.uncons {p:Str×V} {fs:List (Str×V)} {es:List DictEntry} (h:REs prog w LI φ ca (p::fs) es):∃ hs t u es',es=⟨hs,.str p.1 t,u⟩::es'∧RV prog w LI φ ca p.2 u∧REs prog w LI φ ca fs es':=by
 cases h with | cons a b=>exact ⟨_,_,_,_,rfl,a,b⟩
theorem RKs.nil_ {ws:List (Str×Value)} (h:RKs prog w LI φ ca [] ws):ws=[]:=by cases h;rfl
theorem RKs.uncons {p:Str×V} {fs:List (Str×V)} {ws:List (Str×Value)} (h:RKs prog w LI φ ca (p::fs) ws):∃ u ws',ws=(p.1,u)::ws'∧RV prog w LI φ ca p.2 u∧RKs prog w LI φ ca fs ws':=by
 cases h with | cons a b=>exact ⟨_,_,rfl,a,b⟩
theorem RV.items_inv {v:V} {u:Value} {vs:List V} (r:RV prog w LI φ ca v u) (e:v.items=some vs):RTup prog w LI φ ca vs u :=
 items_elim (P:=fun v=>RVI prog w LI φ ca v u→RTup prog w LI φ ca vs u) e (fun t q (h:RTup prog w LI φ ca t.un u)=>q▸h) (fun h=>h) r.inv
theorem RV.elems_inv {v:V} {u:Value} {vs:List V} (r:RV prog w LI φ ca v u) (e:v.elems=some vs):RLst prog w LI φ ca vs u :=
 elems_elim (P:=fun v=>RVI prog w LI φ ca v u→RLst prog w LI φ ca vs u) e (fun h=>h) (fun l q (h:RLst prog w LI φ ca (l.map .str) u)=>q▸h) (fun l q (h:RLst prog w LI φ ca (l.map .vr) u)=>q▸h) r.inv
end
section
variable {prog:Program} {w:World} {LI:Nat→Option LamInfo} {φ ψ:Mp} {ca cb:List Addr}
noncomputable def Mp.le (φ ψ:Mp):Prop:=∀ a o,φ a=some o→ψ a=some o
theorem Mp.le.refl (φ:Mp):φ.le φ:=fun _ _ e=>e
theorem Mp.le.trans {φ ψ χ:Mp} (x:φ.le ψ) (y:ψ.le χ):φ.le χ:=fun a o e=>y a o (x a o e)
theorem pre_get {ca cb:List Addr} (h:ca <+: cb) {k:Nat} {a:Addr} (e:ca[k]?=some a):cb[k]?=some a:=by
 obtain ⟨r,rfl⟩:=h
 rw [List.getElem?_append_left (List.getElem?_eq_some_iff.mp e).1];exact e
theorem RV.mono (l:φ.le ψ) (p:ca <+: cb) {v:V} {u:Value} (h:RV prog w LI φ ca v u):RV prog w LI ψ cb v u :=
 RV.rec (motive_1:=fun v u _=>RV prog w LI ψ cb v u) (motive_2:=fun v u _=>RVs prog w LI ψ cb v u) (motive_3:=fun v u _=>RKs prog w LI ψ cb v u) (motive_4:=fun v u _=>REs prog w LI ψ cb v u)
  .none .bool .int .str (fun e _ y x=>.tup e x (l _ _ y)) (fun e _ y x=>.lst e x (l _ _ y)) (fun n x y _ z=>.dct n (l _ _ x) y z) (fun e x y _ z=>.inst e (l _ _ x) (l _ _ y) z) (fun e=>.cell (pre_get p e)) (fun x e=>.raw (l _ _ x) (pre_get p e)) .fn .bi .ty
  (fun a b c d e f g h _ i=>.lam a (l _ _ b) (l _ _ c) d e f (fun j x y q=>(g j x y q).imp fun o k=>k.imp fun u k=>⟨l _ _ k.1,k.2⟩) h i) .nil (fun _ _ a b=>.cons a b) .nil (fun _ _ a b=>.cons a b) .nil (fun _ _ a b=>.cons a b) h
theorem RVs.mono (l:φ.le ψ) (p:ca <+: cb) {v:List V}:∀ {u:List Value},RVs prog w LI φ ca v u→RVs prog w LI ψ cb v u:=by
 induction v with
 | nil=>intro u h;cases h;exact .nil
 | cons a v ih=>intro u h;cases h with | cons a b=>exact .cons (a.mono l p) (ih b)
theorem RKs.mono (l:φ.le ψ) (p:ca <+: cb) {v:List (Str×V)}:∀ {u:List (Str×Value)},RKs prog w LI φ ca v u→RKs prog w LI ψ cb v u:=by
 induction v with
 | nil=>intro u h;cases h;exact .nil
 | cons a v ih=>intro u h;cases h with | cons a b=>exact .cons (a.mono l p) (ih b)
theorem REs.mono (l:φ.le ψ) (p:ca <+: cb) {v:List (Str×V)}:∀ {u:List DictEntry},REs prog w LI φ ca v u→REs prog w LI ψ cb v u:=by
 induction v with
 | nil=>intro u h;cases h;exact .nil
 | cons a v ih=>intro u h;cases h with | cons a b=>exact .cons (a.mono l p) (ih b)
end
end
section
open Classical in
def tabA:List Nat:=[285,259,273]
def tabQ:Nat→Str
 | 285 => "Expression.free.<locals>.<lambda>"
 | 259 => "Expression.replace.<locals>.<lambda>"
 | _ => "Expression.visit_structured.<locals>.<lambda>"
noncomputable def offK (P:Params):List Nat:=(List.range 1107).filter fun a=>((K P).lookup a).isNone
noncomputable def Hb (P:Params):Heap:=hideAll (H1 P) (offK P)
theorem Hb_size (P:Params):(Hb P).objs.size=1107:=by
 unfold Hb;rw [hideAll_size];show (absHeap (T46 P) 1107 {}).objs.size=1107;unfold absHeap BT.list;simp
theorem Hb_K (P:Params):(K P).In (Hb P):=fun a o e=>by
 refine hideAll_get _ (K_in P a o e) fun hm=>?_
 unfold offK at hm
 have:=(List.mem_filter.mp hm).2
 rw [e] at this;cases this
theorem Hb_get {P:Params} {a:Addr} {o:Obj} (e:(Hb P).get? a=some o):(K P).lookup a=some o:=by
 have h1:=of_hideAll _ e
 have hlt:a<1107:=by
  have:=Heap.lt_size e;rw [Hb_size] at this;exact this
 cases q:(K P).lookup a with
 | some o'=>have:=K_in P a o' q;rw [h1] at this;rw [this]
 | none =>
  have:(Hb P).get? a=none:=hideAll_none _ (by unfold offK;exact List.mem_filter.mpr ⟨List.mem_range.mpr hlt,by rw [q];rfl⟩)
  rw [this] at e;cases e
noncomputable def newsOf (P:Params) (h:Heap) (L:Addr):List (Addr×Obj) :=
 (List.range h.objs.size).filterMap fun a=>if a=L∨((Hb P).get? a).isSome then none else (h.get? a).map (a,·)
theorem mem_newsOf {P:Params} {h:Heap} {L a:Addr} {o:Obj}:(a,o)∈newsOf P h L↔h.get? a=some o∧a≠L∧(Hb P).get? a=none:=by
 unfold newsOf
 rw [List.mem_filterMap]
 constructor
 ·rintro ⟨b,_,hb⟩
  split at hb
  ·cases hb
  ·rename_i hn
   cases q:h.get? b with
   | none=>rw [q] at hb;cases hb
   | some o' =>
    rw [q] at hb;cases hb
    refine ⟨q,fun z=>hn (.inl z),?_⟩
    cases z:(Hb P).get? a with
    | none=>rfl
    | some _=>exact absurd (.inr (by rw [z];rfl)) hn
 ·rintro ⟨h1,h2,h3⟩
  refine ⟨a,List.mem_range.mpr (Heap.lt_size h1),?_⟩
  rw [if_neg (by
   rw [h3];rintro (z | z)
   ·exact h2 z
   ·cases z),h1];rfl
theorem news_of {P:Params} {h:Heap} {L:Addr}:News (Hb P) L h (newsOf P h L):=fun p hp=>by
 obtain ⟨a,b,c⟩:=mem_newsOf.mp (show (p.1,p.2)∈_ from hp)
 exact ⟨a,b,c⟩
def KIn (P:Params) (h:Heap):Prop:=∀ a o,(K P).lookup a=some o→h.get? a=some o
theorem fr_of {P:Params} {h:Heap} {L:Addr} {m:Str→Option Value} (k:KIn P h) (n:h.Ns L m) (l:1107≤L):Fr (Hb P) L h m :=
 ⟨n,fun b o e=>k b o (Hb_get e),by rw [Hb_size];exact l⟩
theorem keep_of {P:Params} {h h':Heap} {L:Addr} {m':Str→Option Value} {xs:List (Addr×Obj)} (k:KIn P h) (F':Fr (Hb P) L h' m') (N':News (Hb P) L h' xs) (hx:∀ p∈newsOf P h L,p∈xs)
  {b:Addr} {o:Obj} (e:h.get? b=some o) (hb:b≠L):h'.get? b=some o:=by
 cases q:(Hb P).get? b with
 | some o' =>
  have:=k _ _ (Hb_get q);rw [e] at this;cases this
  exact F'.keep _ _ q
 | none=>exact (N' _ (hx (b,o) (mem_newsOf.mpr ⟨e,hb,q⟩))).1
def Heap.Al (h:Heap) (a:Addr):Prop:=∃ o,h.get? a=some o
structure Stp (M F:List Addr) (φ:Mp) (h:Heap) (φ':Mp) (h':Heap):Prop where
 le:φ.le φ'
 new:∀ a o,φ' a=some o→φ a=some o∨h.get? a=none
 alive:∀ a,Heap.Al h a→Heap.Al h' a
 keep:∀ b o,h.get? b=some o→b∉M→b∉F→b∉tabA→h'.get? b=some o
 up:∀ b o,h.get? b=some o→b∈F→∃ sl,h'.get? b=some { o with slots:=sl }
theorem Stp.refl (M F:List Addr) (φ:Mp) (h:Heap):Stp M F φ h φ h :=
 ⟨fun _ _ e=>e,fun _ _ e=>.inl e,fun _ e=>e,fun _ _ e _ _ _=>e,fun _ o e _=>⟨o.slots,e⟩⟩
theorem Stp.trans {M M' F:List Addr} {φ φ' φ'':Mp} {h h' h'':Heap} (x:Stp M F φ h φ' h') (y:Stp M' F φ' h' φ'' h'') (m:∀ a∈M',a∈M∨h.get? a=none):Stp M F φ h φ'' h'' where
 le:=x.le.trans y.le
 new a o e:=by
  rcases y.new a o e with q | q
  ·exact x.new a o q
  ·right
   cases z:h.get? a with
   | none=>rfl
   | some o'=>obtain ⟨o₂,e₂⟩:=x.alive a ⟨o',z⟩;rw [q] at e₂;cases e₂
 alive a e:=y.alive a (x.alive a e)
 keep b o e h1 h2 h3:=y.keep b o (x.keep b o e h1 h2 h3) (fun z=>by
  rcases m b z with q | q
  ·exact h1 q
  ·rw [q] at e;cases e) h2 h3
 up b o e hb:=by
  obtain ⟨sl,e₁⟩:=x.up b o e hb
  obtain ⟨sl',e₂⟩:=y.up b _ e₁ hb
  exact ⟨sl',e₂⟩
end
inductive Cell where
 | list (vs:List V) | dict (kvs:List (Str×V)) | flds (fs:List (Str×V)) | gone
inductive Res (β:Type) where
 | ok (b:β) | err (c:V)
structure Ab where
 loc:List (Str×V)
 cells:List Cell
section
variable (prog:Program) (w:World) (LI:Nat→Option LamInfo)
def RC (φ:Mp) (ca:List Addr):Cell→Obj→Prop
 | .list vs,o=>∃ us n,o=listOf us.toArray n∧RVs prog w LI φ ca vs us
 | .dict kvs,o=>∃ ws,o.IsDictOf (PySem.strKind prog w) ws∧RKs prog w LI φ ca kvs ws
 | .flds fs,o=>∃ es n,o=dictOf es n∧REs prog w LI φ ca fs es
 | .gone,_=>False
def CodeR (φ:Mp) (cv:Value) (q:Str):Prop:=∃ c o vs t,cv=.ref c∧φ c=some o∧o.data=.fields vs∧vs[1]?=some (.str q t)
structure Hp (F:List Addr) (φ:Mp) (ca:List Addr) (cells:List Cell) (h:Heap):Prop where
 fz:∀ a o,φ a=some o→h.get? a=some o
 kk:∀ a o,(K w.params).lookup a=some o→φ a=some o
 tab:∀ P∈tabA,φ P=none∧P∉ca∧P∉F∧∃ ps,h.get? P=some (tabObj ps)∧TriplesOk ps.toList∧∀ pos cv,codeAmong pos ps.toList=some cv→CodeR φ cv (tabQ P)
 len:ca.length=cells.length
 nd:ca.Nodup
 cel:∀ (i:Nat) (c:Cell) (a:Addr),cells[i]?=some c→ca[i]?=some a→a∉F∧∃ o,h.get? a=some o∧(c=.gone∨(φ a=none∧RC prog w LI φ ca c o))
 frs:∀ a∈F,φ a=none∧∃ o,h.get? a=some o∧∀ vs,o.data≠.fields vs
structure At (env:Env) (cv:List (Str×V)) (L:Addr) (F:List Addr) (σ:Ab) (φ:Mp) (ca:List Addr) (s:Shared):Prop where
 hp:Hp prog w LI (L::F) φ ca σ.cells s.heap
 big:1107≤L
 LF:L∉F
 fr:∃ m,s.heap.Ns L m∧∀ x v,σ.loc.lookup x=some v→∃ u,m x=some u∧RV prog w LI φ ca v u
 cv:∀ x v,cv.lookup x=some v→∃ c o u,env.cells.lookup x=some c∧φ c=some o∧o.data=.cell (some u)∧RV prog w LI φ ca v u
def SameX (s s':Shared):Prop:=s'.gens=s.gens∧s'.drawn=s.drawn∧s'.os=s.os
theorem SameX.refl (s:Shared):SameX s s:=⟨rfl,rfl,rfl⟩
theorem SameX.trans {a b c:Shared} (x:SameX a b) (y:SameX b c):SameX a c:=⟨y.1.trans x.1,y.2.1.trans x.2.1,y.2.2.trans x.2.2⟩
def Ex (fl:Option Addr) (φ:Mp) (h₀:Heap) (cls:V) (ev:Value) (h:Heap):Prop :=
 ∃ e oe vs a0 cl,ev=.ref e∧h.get? e=some oe∧RV prog w LI φ [] cls cl∧oe.cls=cl∧oe.data=.fields vs∧vs[0]?=some a0∧φ e=none∧h₀.get? e=none ∧
  (vs[1]?=some .none∨∃ T oT ts,vs[1]?=some (.ref T)∧φ T=none∧h₀.get? T=none∧T≠e∧h.get? T=some oT∧oT.data=.fields ts∧(ts[3]?=some .none∨∃ L,fl=some L∧ts[3]?=some (rawInt L)))
structure Pst (env:Env) (cv:List (Str×V)) (L:Addr) (F:List Addr) (σ':Ab) (φ:Mp) (ca:List Addr) (s:Shared) (φ':Mp) (ca':List Addr) (s':Shared):Prop where
 pre:ca <+: ca'
 stp:Stp (L::ca) F φ s.heap φ' s'.heap
 fresh:∀ a∈ca',a∈ca∨s.heap.get? a=none
 at_:At prog w LI env cv L F σ' φ' ca' s'
 same:SameX s s'
def Tri (A:Around) (env:Env) (cv:List (Str×V)) (L:Addr) (F:List Addr) {α β:Type} (R:β→Mp→List Addr→α→Prop) (t:Sem α) (σ:Ab) (out:Res β) (σ':Ab):Prop :=
 ∀ φ ca s,At prog w LI env cv L F σ φ ca s→∀ (Q:α→Shared→Prop) (E:Value→Shared→Prop),
  (∀ b φ' ca' v s',out=.ok b→Pst prog w LI env cv L F σ' φ ca s φ' ca' s'→R b φ' ca' v→Q v s') →
  (∀ c φ' ca' e s',out=.err c→Pst prog w LI env cv L F σ' φ ca s φ' ca' s'→Ex prog w LI (some L) φ' s.heap c e s'.heap→E e s')→wpAny (model prog w) A t Q E s
def Okk (n:Nat) (A:Around):Prop:=A.handled=none∧A.depth+3 * n≤990∧A.units+12 * n≤9800
def FunE:List Env→List Addr→Prop
 | [],[]=>True
 | env::l,a::F=>env.scope.kind≠.module∧env.frame=some a∧a∉F∧FunE l F
 | _,_=>False
def Con (n:Nat) (f:V) (cells:List Cell) (args:List V) (kw:List (Str×V)) (out:Res V) (cells':List Cell):Prop :=
 ∀ A outer F φ ca s vf us ks,Okk n A→A.frames=some outer→FunE outer F→Hp prog w LI F φ ca cells s.heap→RV prog w LI φ ca f vf→RVs prog w LI φ ca args us→RKs prog w LI φ ca kw ks →
  ∀ (Q:Value→Shared→Prop) (E:Value→Shared→Prop),
  (∀ b φ' v s',out=.ok b→Stp ca F φ s.heap φ' s'.heap→Hp prog w LI F φ' ca cells' s'.heap→SameX s s'→RV prog w LI φ' ca b v→Q v s') →
  (∀ c φ' e s',out=.err c→Stp ca F φ s.heap φ' s'.heap→Hp prog w LI F φ' ca cells' s'.heap→SameX s s'→Ex prog w LI none φ' s.heap c e s'.heap→E e s') →
  codeAny (model prog w) A (.call vf ⟨us,ks⟩) (fun r s'=>match r with | .ok (.ret v)=>Q v s' | .ok _=>False | .error e=>E e s') s
def ConN (n:Nat) (f:V) (cells:List Cell) (args:List V) (kw:List (Str×V)) (out:Res V) (cells':List Cell):Prop :=
 ∀ A outer F φ ca s vf us ks,Okk n A→A.frames=some outer→FunE outer F→Hp prog w LI F φ ca cells s.heap→RV prog w LI φ ca f vf→RVs prog w LI φ ca args us→RKs prog w LI φ ca kw ks →
  ∀ (Q:Value→Shared→Prop) (E:Value→Shared→Prop),
  (∀ b φ' ca' v s',out=.ok b→ca <+: ca'→(∀ a∈ca',a∈ca∨s.heap.get? a=none)→Stp ca F φ s.heap φ' s'.heap→Hp prog w LI F φ' ca' cells' s'.heap→SameX s s'→RV prog w LI φ' ca' b v→Q v s') →
  (∀ c φ' e s',out=.err c→Stp ca F φ s.heap φ' s'.heap→Hp prog w LI F φ' ca (cells'.take cells.length) s'.heap→SameX s s'→Ex prog w LI none φ' s.heap c e s'.heap→E e s') →
  codeAny (model prog w) A (.call vf ⟨us,ks⟩) (fun r s'=>match r with | .ok (.ret v)=>Q v s' | .ok _=>False | .error e=>E e s') s
end
section
variable {prog:Program} {w:World} {LI:Nat→Option LamInfo} {A:Around} {env:Env} {cv:List (Str×V)} {L:Addr} {F:List Addr}
theorem Pst.refl {σ:Ab} {φ:Mp} {ca:List Addr} {s:Shared} (h:At prog w LI env cv L F σ φ ca s):Pst prog w LI env cv L F σ φ ca s φ ca s :=
 ⟨List.prefix_refl _,Stp.refl ..,fun a h=>.inl h,h,SameX.refl s⟩
theorem Pst.trans {σ' σ'':Ab} {φ φ' φ'':Mp} {ca ca' ca'':List Addr} {s s' s'':Shared} (x:Pst prog w LI env cv L F σ' φ ca s φ' ca' s') (y:Pst prog w LI env cv L F σ'' φ' ca' s' φ'' ca'' s'') :
  Pst prog w LI env cv L F σ'' φ ca s φ'' ca'' s'':=by
 refine ⟨x.pre.trans y.pre,x.stp.trans y.stp fun a ha=>?_,fun a ha=>?_,y.at_,x.same.trans y.same⟩
 ·rcases List.mem_cons.mp ha with rfl | ha
  ·exact .inl (.head _)
  ·exact (x.fresh a ha).imp (.tail _) id
 ·rcases y.fresh a ha with q | q
  ·exact x.fresh a q
  ·right
   cases z:s.heap.get? a with
   | none=>rfl
   | some o'=>obtain ⟨o₂,e₂⟩:=x.stp.alive a ⟨o',z⟩;rw [q] at e₂;cases e₂
theorem none_back {h₀ h₁:Heap} (al:∀ a,Heap.Al h₀ a→Heap.Al h₁ a) (a:Addr) (q:h₁.get? a=none):h₀.get? a=none:=by
 cases z:h₀.get? a with
 | none=>rfl
 | some o'=>exact (al a ⟨o',z⟩).elim fun o₂ e₂=>nomatch q.symm.trans e₂
theorem Ex.back {fl:Option Addr} {φ:Mp} {h₀ h₁ h:Heap} {cls:V} {ev:Value} (x:Ex prog w LI fl φ h₁ cls ev h) (al:∀ a,Heap.Al h₀ a→Heap.Al h₁ a):Ex prog w LI fl φ h₀ cls ev h :=
 x.imp fun _=>.imp fun _=>.imp fun _=>.imp fun _=>.imp fun _ k=>⟨k.1,k.2.1,k.2.2.1,k.2.2.2.1,k.2.2.2.2.1,k.2.2.2.2.2.1,k.2.2.2.2.2.2.1,none_back al _ k.2.2.2.2.2.2.2.1,
  k.2.2.2.2.2.2.2.2.imp id (.imp fun _=>.imp fun _=>.imp fun _ k=>⟨k.1,k.2.1,none_back al _ k.2.2.1,k.2.2.2⟩)⟩
theorem Ex.inn {fl:Option Addr} {φ:Mp} {h₀ h:Heap} {cls:V} {ev:Value} (x:Ex prog w LI none φ h₀ cls ev h):Ex prog w LI fl φ h₀ cls ev h :=
 x.imp fun _=>.imp fun _=>.imp fun _=>.imp fun _=>.imp fun _ k=>⟨k.1,k.2.1,k.2.2.1,k.2.2.2.1,k.2.2.2.2.1,k.2.2.2.2.2.1,k.2.2.2.2.2.2.1,k.2.2.2.2.2.2.2.1,
  k.2.2.2.2.2.2.2.2.imp id (.imp fun _=>.imp fun _=>.imp fun _ k=>⟨k.1,k.2.1,k.2.2.1,k.2.2.2.1,k.2.2.2.2.1,k.2.2.2.2.2.1,.inl (k.2.2.2.2.2.2.elim id fun z=>nomatch z)⟩)⟩
theorem Okk.lt {n:Nat} {A:Around} (h:Okk n A):A.depth<recursionLimit∧A.units<cLine :=
 ⟨Nat.lt_of_le_of_lt (Nat.le_trans (Nat.le_add_right ..) h.2.1) (by decide),Nat.lt_of_le_of_lt (Nat.le_trans (Nat.le_add_right ..) h.2.2) (by decide)⟩
theorem step3 {a b c d n k:Nat} (l:c≤b) (h:a+b * (n+1)≤k) (e:d=a+c):d+b * n≤k :=
 e▸Nat.le_trans (by rw [Nat.mul_succ,Nat.add_assoc,Nat.add_comm (b * n)];exact Nat.add_le_add_left (Nat.add_le_add_right l _) a) h
theorem Okk.in1 {n:Nat} {A:Around} (h:Okk (n+1) A):Okk n A.in1:=⟨h.1,step3 (c:=0) (by decide) h.2.1 rfl,step3 (c:=1) (by decide) h.2.2 rfl⟩
theorem Okk.down {n:Nat} {A:Around} (h:Okk (n+1) A):Okk n A:=⟨h.1,step3 (c:=0) (by decide) h.2.1 rfl,step3 (c:=0) (by decide) h.2.2 rfl⟩
theorem Okk.deeper {n:Nat} {A:Around} (env:Env) (h:Okk (n+1) A):Okk n (A.deeper env):=⟨h.1,step3 (c:=1) (by decide) h.2.1 rfl,step3 (c:=3) (by decide) h.2.2 rfl⟩
theorem Okk.mono {n m:Nat} {A:Around} (h:Okk n A) (l:m≤n):Okk m A :=
 ⟨h.1,Nat.le_trans (Nat.add_le_add_left (Nat.mul_le_mul_left 3 l) _) h.2.1,Nat.le_trans (Nat.add_le_add_left (Nat.mul_le_mul_left 12 l) _) h.2.2⟩
theorem Con.mono {n m:Nat} {f:V} {cells:List Cell} {args:List V} {kw:List (Str×V)} {out:Res V} {cells':List Cell} (h:Con prog w LI n f cells args kw out cells') (l:n≤m):Con prog w LI m f cells args kw out cells' :=
 fun A outer F φ ca s vf us ks k=>h A outer F φ ca s vf us ks (k.mono l)
theorem Heap.Ns.up {h h':Heap} {L:Addr} {m:Str→Option Value} (n:h.Ns L m) (u:∀ o,h.get? L=some o→∃ sl,h'.get? L=some { o with slots:=sl }):h'.Ns L m :=
 n.elim fun o h=>h.elim fun es h=>h.elim fun ep k=>(u o k.1).elim fun _ e=>⟨_,es,ep,e,k.2⟩
theorem At.call {σ:Ab} {cells':List Cell} {φ φ':Mp} {ca ca':List Addr} {s s':Shared} (a:At prog w LI env cv L F σ φ ca s) (pre:ca <+: ca') (le:φ.le φ') (up:∀ o,s.heap.get? L=some o→∃ sl,s'.heap.get? L=some { o with slots:=sl }) (hp:Hp prog w LI (L::F) φ' ca' cells' s'.heap):At prog w LI env cv L F ⟨σ.loc,cells'⟩ φ' ca' s' :=
 ⟨hp,a.big,a.LF,a.fr.imp fun m k=>⟨Heap.Ns.up k.1 up,fun x v hx=>(k.2 x v hx).imp fun u q=>⟨q.1,q.2.mono le pre⟩⟩,fun x v hx=>(a.cv x v hx).imp fun c=>.imp fun o=>.imp fun u k=>⟨k.1,le _ _ k.2.1,k.2.2.1,k.2.2.2.mono le pre⟩⟩
theorem Stp.frame {M F:List Addr} {φ φ':Mp} {h h':Heap} (st:Stp M (L::F) φ h φ' h'):Stp (L::M) F φ h φ' h' :=
 ⟨st.le,st.new,st.alive,fun b o e h1 h2 h3=>st.keep b o e (fun z=>h1 (.tail _ z)) (fun z=>(List.mem_cons.mp z).elim (fun y=>h1 (y▸.head _)) h2) h3,fun b o e hb=>st.up b o e (.tail _ hb)⟩
theorem Pst.of_callN {σ:Ab} {cells':List Cell} {φ φ':Mp} {ca ca':List Addr} {s s':Shared} (a:At prog w LI env cv L F σ φ ca s) (pre:ca <+: ca') (fresh:∀ a∈ca',a∈ca∨s.heap.get? a=none) (st:Stp ca (L::F) φ s.heap φ' s'.heap) (hp:Hp prog w LI (L::F) φ' ca' cells' s'.heap) (sx:SameX s s') :
  Pst prog w LI env cv L F ⟨σ.loc,cells'⟩ φ ca s φ' ca' s':=⟨pre,st.frame,fresh,a.call pre st.le (fun o ho=>st.up L o ho (.head _)) hp,sx⟩
theorem Pst.of_call {σ:Ab} {cells':List Cell} {φ φ':Mp} {ca:List Addr} {s s':Shared} (a:At prog w LI env cv L F σ φ ca s) (st:Stp ca (L::F) φ s.heap φ' s'.heap) (hp:Hp prog w LI (L::F) φ' ca cells' s'.heap) (sx:SameX s s') :
  Pst prog w LI env cv L F ⟨σ.loc,cells'⟩ φ ca s φ' ca s':=.of_callN a (List.prefix_refl _) (fun a h=>.inl h) st hp sx
theorem CodeR.mono {φ φ':Mp} {cv:Value} {q:Str} (h:CodeR φ cv q) (l:φ.le φ'):CodeR φ' cv q:=h.imp fun _=>.imp fun _=>.imp fun _=>.imp fun _ k=>⟨k.1,l _ _ k.2.1,k.2.2⟩
theorem RC.mono {φ φ':Mp} {ca cb:List Addr} {c:Cell} {o:Obj} (r:RC prog w LI φ ca c o) (l:φ.le φ') (p:ca <+: cb):RC prog w LI φ' cb c o:=by
 cases c with
 | list vs=>exact r.imp fun _=>.imp fun _ k=>⟨k.1,k.2.mono l p⟩
 | dict vs=>exact r.imp fun _ k=>⟨k.1,k.2.mono l p⟩
 | flds vs=>exact r.imp fun _=>.imp fun _ k=>⟨k.1,k.2.mono l p⟩
 | gone=>exact r
theorem fresh_none {φ φ':Mp} {h h':Heap} {a:Addr} (n:∀ a o,φ' a=some o→φ a=some o∨(h.get? a=none∧h'.get? a=some o)) (e:φ a=none) (al:Heap.Al h a):φ' a=none :=
 opt_none fun o z=>(n a o z).elim (fun q=>nsm e q) fun q=>al.elim fun _ k=>nsm q.1 k
theorem Hp.keeps {F:List Addr} {φ φ':Mp} {ca:List Addr} {cells:List Cell} {h h':Heap} (x:Hp prog w LI F φ ca cells h) (k:∀ b o,h.get? b=some o→b∉F→h'.get? b=some o) (hF:∀ b o,h.get? b=some o→b∈F→(∀ vs,o.data≠.fields vs)→∃ o',h'.get? b=some o'∧∀ vs,o'.data≠.fields vs)
  (l:φ.le φ') (n:∀ a o,φ' a=some o→φ a=some o∨(h.get? a=none∧h'.get? a=some o)):Hp prog w LI F φ' ca cells h' where
 fz a o e:=(n a o e).elim (fun q=>k a o (x.fz a o q) fun z=>nsm (x.frs a z).1 q) fun q=>q.2
 kk a o e:=l _ _ (x.kk a o e)
 tab P hP:=have t:=x.tab P hP;⟨fresh_none n t.1 (t.2.2.2.elim fun _ k=>⟨_,k.1⟩),t.2.1,t.2.2.1,t.2.2.2.imp fun _ q=>⟨k _ _ q.1 t.2.2.1,q.2.1,fun pos cv e=>(q.2.2 pos cv e).mono l⟩⟩
 len:=x.len
 nd:=x.nd
 cel i c a e1 e2:=have t:=x.cel i c a e1 e2;⟨t.1,t.2.imp fun o q=>⟨k _ _ q.1 t.1,q.2.imp id fun z=>⟨fresh_none n z.1 ⟨o,q.1⟩,z.2.mono l (List.prefix_refl _)⟩⟩⟩
 frs a ha:=have t:=x.frs a ha;⟨fresh_none n t.1 (t.2.imp fun _ k=>k.1),t.2.elim fun o q=>hF a o q.1 ha q.2⟩
end
noncomputable def attrOk (P:Params) (p:Nat×Str):Bool:=plainGet (K P) p.1 p.2&&hasDictIn (K P) p.1&&(match findIn (K P) (.ref p.1) p.2 with | some attr=>noGet (K P) attr | none=>false)
noncomputable def attrL:List (Nat×Str):=[(129,"name"),(514,"variable"),(578,"variable"),(426,"function"),(426,"argument"),(1020,"d")]
noncomputable def methOk (P:Params) (p:Nat×Str×Nat):Bool:=plainGet (K P) p.1 p.2.1&&(findIn (K P) (.ref p.1) p.2.1==some (some (.ref p.2.2)))&&isFn (K P) (.ref p.2.2)&&keepIn (K P) (.ref p.2.2)
noncomputable def methL:List (Nat×Str×Nat):=[
 (514,"free", 504),(514,"constants", 511),(514,"predicates", 464),(514,"replace", 457),(514,"simplify", 449),(514,"variables", 283),(514,"substitute_bindings", 256),
 (578,"free", 568),(578,"constants", 575),(578,"predicates", 464),(578,"replace", 457),(578,"simplify", 449),(578,"variables", 283),(578,"substitute_bindings", 256),
 (426,"free", 290),(426,"constants", 365),(426,"predicates", 372),(426,"replace", 264),(426,"simplify", 351),(426,"variables", 283),(426,"substitute_bindings", 256),(426,"visit", 379),(426,"visit_structured", 278),(426,"_made", 358)]
theorem attr_ok (P:Params):attrL.all (attrOk P)=true:=by kernel_rfl
theorem meth_ok (P:Params):methL.all (methOk P)=true:=by kernel_rfl
noncomputable def isiOk (P:Params) (p:Nat×Nat×Bool):Bool:=if p.2.2 then isIn (K P) (.ref p.1) p.2.1 else true
noncomputable def gfind (P:Params) (a:Nat) (x:Str):Option Value:=match (K P).lookup a with
 | some ⟨_,_,.dict es _,_⟩=>nsFind es x
 | _=>none
noncomputable def gkeys (P:Params) (a:Nat):Bool:=match (K P).lookup a with
 | some ⟨_,_,.dict es _,_⟩=>es.toList.all fun e=>match e.key with | .str ..=>true | _=>false
 | _=>false
def gl:List (Str×V):=[
 ("_union", .fn 60),("Variable", .fn 129),("Expression", .fn 321),("ApplicationExpression", .fn 426),("AbstractVariableExpression", .fn 488),("IndividualVariableExpression", .fn 514),("FunctionVariableExpression", .fn 540),
 ("EventVariableExpression", .fn 552),("ConstantExpression", .fn 578),("VariableExpression", .fn 587),("LambdaExpression", .fn 678),("is_indvar", .fn 953),("is_funcvar", .fn 960),("is_eventvar", .fn 967),("_is_letter_and_digits", .fn 946),
 ("BindingDict", .fn 1020),("BindingException", .fn 1049),("most_general_unification", .fn 1032),("_mgu_var", .fn 1039),("_law_pair", .fn 1059),("_law_expr", .fn 1066),("_law_tree", .fn 1073),("_law_filled", .fn 1080),("_law_names", .fn 1085),
 ("_law_solved", .fn 1092),("_law_plain", .fn 1099),("_law_digits", .str "0123456789"),
 ("isinstance", .bi "isinstance"),("len", .bi "len"),("str", .ty "str"),("range", .ty "range"),("KeyError", .ty "KeyError")]
noncomputable def isStrv (t:Str):Option Value→Bool
 | some (.str s _)=>s==t
 | _=>false
noncomputable def glOk2 (P:Params) (x:Str):V→Bool
 | .fn a=>gfind P 3 x==some (.ref a)
 | .str s=>isStrv s (gfind P 3 x)
 | .bi n=>gfind P 3 x==none&&gfind P 0 x==some (.builtin n)
 | .ty n=>gfind P 3 x==none&&gfind P 0 x==some (.type n)
 | _=>false
noncomputable def glOk (P:Params) (p:Str×V):Bool:=!(p.1==("__debug__": Str))&&glOk2 P p.1 p.2
theorem gl_ok (P:Params):gl.all (glOk P)=true:=by kernel_rfl
theorem g3 (P:Params):gkeys P 3=true:=by kernel_rfl
theorem g0 (P:Params):gkeys P 0=true:=by kernel_rfl
theorem g2 (P:Params):(gkeys P 2&&(gfind P 2 "sys.recursionlimit"== none))=true:=by kernel_rfl
theorem gns {P:Params} {h:Heap} {a:Nat} (k:KIn P h) (e:gkeys P a=true):h.Ns a (gfind P a):=by
 unfold gkeys at e
 split at e
 ·rename_i c d es ep sl q
  refine ⟨_,es,ep,k _ _ q,rfl,fun x hx=>?_,fun name=>?_⟩
  ·have:=List.all_eq_true.mp e x (by simpa using hx)
   split at this
   ·rename_i s t q;exact ⟨s,t,q⟩
   ·cases this
  ·unfold gfind;rw [q]
 ·cases e
theorem nolimit_of {P:Params} {h:Heap} (k:KIn P h):h.NoLimit:=by
 have e:=g2 P
 rw [Bool.and_eq_true] at e
 exact ⟨gfind P 2,gns k e.1,beq_iff_eq.mp e.2⟩
section
variable {prog:Program} {w:World} {LI:Nat→Option LamInfo} {A:Around} {cn:Str} {cs:Scope} {a:Addr} {cd:Value} {cl:List (Str×Addr)} {cv:List (Str×V)} {L:Addr} {F:List Addr} {σ:Ab} {φ:Mp} {ca:List Addr} {s:Shared} {E:Value→Shared→Prop}
theorem At.kin {env:Env} (h:At prog w LI env cv L F σ φ ca s):KIn w.params s.heap:=fun b o e=>h.hp.fz _ _ (h.hp.kk b o e)
theorem Hp.kin {cells:List Cell} {h:Heap} (x:Hp prog w LI F φ ca cells h):KIn w.params h:=fun b o e=>x.fz _ _ (x.kk b o e)
theorem At.to {env:Env} {s':Shared} (h:At prog w LI env cv L F σ φ ca s) (e:s'.heap=s.heap):At prog w LI env cv L F σ φ ca s':=by
 obtain ⟨a,b,c,d,f⟩:=h
 exact ⟨e▸a,b,c,e▸d,f⟩
theorem Pst.to {env:Env} {s':Shared} (h:At prog w LI env cv L F σ φ ca s) (e:s'.heap=s.heap) (x:SameX s s'):Pst prog w LI env cv L F σ φ ca s φ ca s' :=
 ⟨List.prefix_refl _,e▸Stp.refl ..,fun a h=>.inl h,h.to e,x⟩
theorem getL_str (hs:Int) (k:Str) (t:Tok) (u:Value) (us:List DictEntry) (x:Str):getL x (⟨hs,.str k t,u⟩::us)=if x=k then some (some u) else getL x us:=by
 have e:((Value.str k t).isStr x)=(k==x):=rfl
 unfold getL
 by_cases q:x=k
 ·rw [if_pos q,List.find?_cons_of_pos (by rw [e,q];exact beq_self_eq_true _)]
 ·rw [if_neg q,List.find?_cons_of_neg (by rw [e,beq_eq_false_iff_ne.mpr (Ne.symm q)];exact Bool.false_ne_true),List.any_cons];rfl
theorem REs.get_ {φ:Mp} {ca:List Addr} {fs:List (Str×V)}:∀ {es:List DictEntry},REs prog w LI φ ca fs es→∀ (x:Str),
  (∀ {v},fs.lookup x=some v→∃ u,getL x es=some (some u)∧RV prog w LI φ ca v u)∧(fs.lookup x=none→getL x es=some none):=by
 induction fs with
 | nil=>intro es h x;cases h;exact ⟨fun h=>nsm rfl h,fun _=>rfl⟩
 | cons p fs ih =>
  intro es h x
  cases h with
  | @cons k _ _ _ _ _ _ a b =>
   rw [List.lookup_cons,getL_str]
   by_cases q:x=k
   ·rw [if_pos q,q,beq_self_eq_true]
    exact ⟨fun h=>⟨_,rfl,Option.some.inj h▸a⟩,fun h=>nsm h rfl⟩
   ·rw [if_neg q,beq_eq_false_iff_ne.mpr q]
    exact ih b x
theorem REs.get {φ:Mp} {ca:List Addr} {fs:List (Str×V)} {es:List DictEntry} (h:REs prog w LI φ ca fs es) {x:Str} :
  (∀ {v},fs.lookup x=some v→∃ u,getL x es=some (some u)∧RV prog w LI φ ca v u)∧(fs.lookup x=none→getL x es=some none):=h.get_ x
def V.nbi:V→Bool
 | .bi _=>false
 | _=>true
theorem inst_nbi {v:V} {C:Nat} {fs:List (Str×V)} (e:v.inst=some (C,fs)):(fs.all fun p=>p.2.nbi)=true :=
 have k:∀ {p:Nat×List (Str×V)},some p=some (C,fs)→(p.2.all fun q=>q.2.nbi)=true→(fs.all fun p=>p.2.nbi)=true:=fun e h=>by cases e;exact h
 inst_elim (P:=fun v=>v.inst=some (C,fs)→(fs.all fun p=>p.2.nbi)=true) e (fun _ _ e=>k e rfl) (fun x _ e=>by cases x<;>exact k e rfl) (fun _ _ e=>k e rfl) e
theorem lookup_all {f:V→Bool}:∀ {fs:List (Str×V)} {x:Str} {v:V},(fs.all fun p=>f p.2)=true→fs.lookup x=some v→f v=true
 | [],_,_,_,h=>by cases h
 | (k,u)::r,x,v,e,h=>by
  rw [List.all_cons,Bool.and_eq_true] at e
  rw [List.lookup_cons] at h
  split at h
  ·cases h;exact e.1
  ·exact lookup_all e.2 h
theorem RV.handed {v:V} {u:Value} (h:RV prog w LI φ ca v u) (e:v.nbi=true):handedIn u=true:=by
 revert e
 exact RV.casesOn (motive_1:=fun v u _=>v.nbi=true→handedIn u=true) h (fun _=>rfl) (fun _=>rfl) (fun _=>rfl) (fun _=>rfl) (fun _ _ _ _=>rfl) (fun _ _ _ _=>rfl) (fun _ _ _ _ _=>rfl) (fun _ _ _ _ _=>rfl) (fun _ _=>rfl) (fun _ _ _=>rfl) (fun _=>rfl) (fun e=>absurd e Bool.false_ne_true) (fun _=>rfl) (fun _ _ _ _ _ _ _ _ _ _=>rfl)
theorem RV.inst_inv {v:V} {u:Value} {C:Nat} {fs:List (Str×V)} (h:RV prog w LI φ ca v u) (e:v.inst=some (C,fs)) :
  ∃ x dx es n,u=.ref x∧φ x=some (instObj C dx)∧φ dx=some (dictOf es n)∧REs prog w LI φ ca fs es :=
 have o:RObj prog w LI φ ca v u:=inst_elim (P:=fun v=>RVI prog w LI φ ca v u→RObj prog w LI φ ca v u) e (fun _ _ h=>h) (fun _ _ h=>h) (fun _ _ h=>h) h.inv
 o C fs e
theorem instAt_of {cells:List Cell} {h:Heap} (x:Hp prog w LI F φ ca cells h) {y dx C:Addr} {es n} (h1:φ y=some (instObj C dx)) (h2:φ dx=some (dictOf es n)):InstAt h y (instObj C dx) C (some (dictOf es n)) :=
 ⟨x.fz _ _ h1,rfl,rfl,x.fz _ _ h2⟩
theorem inst_at {env:Env} (h:At prog w LI env cv L F σ φ ca s) {v:V} {u:Value} {C:Nat} {fs:List (Str×V)} (r:RV prog w LI φ ca v u) (e:v.inst=some (C,fs)):∃ x dx od,u=.ref x∧InstAt s.heap x (instObj C dx) C (some od) :=
 (r.inst_inv e).elim fun x q=>q.elim fun dx q=>q.elim fun es q=>q.elim fun n q=>⟨x,dx,_,q.1,instAt_of h.hp q.2.1 q.2.2.1⟩
theorem get_own {h:Shared} {y dx C:Addr} {es:List DictEntry} {n:Nat} {x:Str} {u:Value} {expr:Bool} (kin:KIn w.params h.heap) (I:InstAt h.heap y (instObj C dx) C (some (dictOf es n))) (hm:(C,x)∈attrL) (g:getL x es=some (some u)) (hh:handedIn u=true) {Q:Value→Shared→Prop} (k:Q u { h with toks:=h.toks+1 }):wpAny (model prog w) A (getAttr (.ref y) x expr) Q E h:=by
 have ok:=Bool.and_eq_true_iff.mp (List.all_eq_true.mp (attr_ok w.params) _ hm)
 have o1:=Bool.and_eq_true_iff.mp ok.1
 have o3:=ok.2
 split at o3
 ·rename_i attr hq
  exact get_value kin I (plainGet_of o1.1).1 (findObj_own o1.2 hq o3 (by rw [lookIn_dict];exact g)) hh k
 ·cases o3
theorem attr_op {env:Env} {o:V} {ov:Value} {x:Str} {v:V} {C:Nat} {fs:List (Str×V)} {expr:Bool} (h:At prog w LI env cv L F σ φ ca s) (r:RV prog w LI φ ca o ov) (e:o.inst=some (C,fs)) (hx:fs.lookup x=some v) (hm:(C,x)∈attrL)
  {Q:Value→Shared→Prop} (k:∀ u s',s'.heap=s.heap→SameX s s'→RV prog w LI φ ca v u→Q u s'):wpAny (model prog w) A (getAttr ov x expr) Q E s :=
 (r.inst_inv e).elim fun y q=>q.elim fun dx q=>q.elim fun es q=>q.elim fun n q=>(q.2.2.2.get.1 hx).elim fun u z=>q.1▸get_own h.kin (instAt_of h.hp q.2.1 q.2.2.1) hm z.1 (z.2.handed (lookup_all (inst_nbi e) hx)) (k _ _ rfl ⟨rfl,rfl,rfl⟩ z.2)
end
noncomputable section
inductive Fl where
 | next | brk | cont | ret (v:V)
inductive Tr where
 | b (b:Bool)
 | c (o:Res V)
 | cc (k:Nat) (o:Res V) (c':Cell)
 | ca (o:Res V) (cs:List Cell)
 | cn (v:V) (cs:List Cell)
 | v (v:V)
 | pop (r:List V) (v:V)
 | cel
 | st (f:Res Fl) (loc:List (Str×V)) (cs:List Cell)
 | se (o:Res V) (loc:List (Str×V)) (cs:List Cell)
 | nm (l:List Str)
structure Wt where
 loc:List (Str×V)
 cells:List Cell
 tr:List Tr
abbrev Wt.ab (σ:Wt):Ab:=⟨σ.loc,σ.cells⟩
structure Gam where
 n:Nat
 cn:Str
 cs:Scope
 cd:Value
 cv:List (Str×V)
abbrev Ev (β:Type):Type:=Option (Res β×Wt×List Prop)
noncomputable def AllP:List Prop→Prop
 | []=>True
 | p::r=>p∧AllP r
theorem AllP.app:∀ {a b:List Prop},AllP (a++b)→AllP a∧AllP b
 | [],_,h=>⟨trivial,h⟩
 | _::_,_,h=>let ⟨x,y⟩:=AllP.app h.2;⟨⟨h.1,x⟩,y⟩
noncomputable def rt {β:Type} (b:β) (σ:Wt):Ev β:=some (.ok b,σ,[])
noncomputable def bnd {α β:Type} (m:Ev α) (f:α→Wt→Ev β):Ev β:=match m with
 | some (.ok a,σ,p)=>(match f a σ with
  | some (r,σ',q)=>some (r,σ',p++q)
  | none=>none)
 | some (.err c,σ,p)=>some (.err c,σ,p)
 | none=>none
noncomputable def br (x:Bool) (σ:Wt):Ev Bool:=match σ.tr with
 | .b b::t=>some (.ok b,⟨σ.loc,σ.cells,t⟩,[x=b])
 | _=>some (.ok x,σ,[])
noncomputable def optE {β:Type} (x:Option β) (σ:Wt):Ev β:=match x with
 | some b=>rt b σ
 | none=>none
abbrev eN (Γ:Gam) (L a:Addr) (cl:List (Str×Addr)):Env:=envX Γ.cn Γ.cs L a Γ.cd cl
section
variable (prog:Program) (w:World) (LI:Nat→Option LamInfo) (env:Env) (cv:List (Str×V)) (L:Addr) (F:List Addr)
noncomputable def Goal {α β:Type} (R:β→Mp→List Addr→α→Prop) (out:Res β) (σ':Ab) (φ:Mp) (ca:List Addr) (s:Shared) (G:(α→Shared→Prop)→(Value→Shared→Prop)→Prop):Prop :=
 ∀ (Q:α→Shared→Prop) (E:Value→Shared→Prop),
  (∀ b φ' ca' v s',out=.ok b→Pst prog w LI env cv L F σ' φ ca s φ' ca' s'→R b φ' ca' v→Q v s') →
  (∀ c φ' ca' e s',out=.err c→Pst prog w LI env cv L F σ' φ ca s φ' ca' s'→Ex prog w LI (some L) φ' s.heap c e s'.heap→E e s')→G Q E
abbrev RVr:V→Mp→List Addr→Value→Prop:=fun v φ ca u=>RV prog w LI φ ca v u
abbrev RVSr:List V→Mp→List Addr→List Value→Prop:=fun v φ ca u=>RVs prog w LI φ ca v u
abbrev RBr:Bool→Mp→List Addr→Bool→Prop:=fun b _ _ u=>u=b
structure Site (Γ:Gam) (A:Around) (a:Addr) (cl:List (Str×Addr)) (outer:List Env):Prop where
 ok:Okk (Γ.n+2) A
 fr:A.frames=some (envX Γ.cn Γ.cs L a Γ.cd cl::outer)
 fe:FunE outer F
 kd:Γ.cs.kind=.function
end
noncomputable def SemE (prog:Program) (w:World) (LI:Nat→Option LamInfo) (Γ:Gam) (e:Expr) (σ:Ab) (out:Res V) (σ':Ab):Prop:=∀ A a cl L F outer,Site L F Γ A a cl outer→∀ φ ca s,At prog w LI (eN Γ L a cl) Γ.cv L F σ φ ca s →
 Goal prog w LI (eN Γ L a cl) Γ.cv L F (RVr prog w LI) out σ' φ ca s (fun Q E=>wpAny (model prog w) A (eval e (eN Γ L a cl)) Q E s)
noncomputable def isiL:List (Nat×Nat×Bool):=[
 (129,129,true),(129,321,false),(514,129,false),(578,129,false),(426,129,false),
 (514,321,true),(578,321,true),(426,321,true),
 (514,426,false),(578,426,false),(426,426,true),
 (514,488,true),(578,488,true),(426,488,false),
 (514,514,true),(578,514,false),(426,514,false),
 (514,578,false),(578,578,true),(426,578,false),
 (514,678,false),(578,678,false),(426,678,false)]
noncomputable def lookI:List (Nat×Nat×Bool)→Nat→Nat→Option Bool
 | [],_,_=>none
 | (d,c,b)::r,D,C=>if Nat.beq d D&&Nat.beq c C then some b else lookI r D C
noncomputable def lookM:List (Nat×Str×Nat)→Nat→Str→Option Nat
 | [],_,_=>none
 | (d,x,f)::r,D,y=>if Nat.beq d D&&(x==y) then some f else lookM r D y
noncomputable def lookA:List (Nat×Str)→Nat→Str→Bool
 | [],_,_=>false
 | (d,x)::r,D,y=>(Nat.beq d D&&(x==y))||lookA r D y
noncomputable def CloC (c:Cell):Prop:=∀ prog w LI φ ca o,RC prog w LI φ ca c o→RC prog w LI φ [] c o
noncomputable def V.clo0:V→Bool
 | .tup _=>false
 | .lst _=>false
 | .dct _=>false
 | .cell _=>false
 | .raw _ _=>false
 | .lam _ _=>false
 | _=>true
noncomputable def V.cloS (f:V→Bool):V→Bool
 | .tup vs=>vs.all f
 | .lst vs=>vs.all f
 | .lam _ vs=>vs.all f
 | v=>v.clo0
noncomputable def V.clo:V→Bool:=V.cloS (V.cloS (V.cloS V.clo0))
noncomputable def V.sub (k:Nat):V→V
 | .cell j=>if Nat.beq j k then .cell 0 else .cell j
 | .raw C j=>if Nat.beq j k then .raw C 0 else .raw C j
 | v=>v
noncomputable def V.subOk (k:Nat):V→Bool
 | .cell j=>Nat.beq j k
 | .raw _ j=>Nat.beq j k
 | v=>v.clo
noncomputable def Res.clo:Res V→Bool
 | .ok v=>v.clo
 | .err _=>true
noncomputable def attrV (o:V) (x:Str):Option V:=o.inst.bind fun p=>if lookA attrL p.1 x then p.2.lookup x else none
noncomputable def V.raw?:V→Option (Nat×Nat)
 | .raw C k=>some (C,k)
 | _=>Option.none
noncomputable def Cell.fl:Cell→Option (List (Str×V))
 | .flds fs=>some fs
 | _=>none
noncomputable def attrR (C k:Nat) (x:Str) (cs:List Cell):Option V:=cs[k]?.bind fun c=>c.fl.bind fun fs=>if lookA attrL C x&&fs.all (fun p=>p.2.nbi) then fs.lookup x else none
noncomputable def attrC (o:V) (x:Str) (cs:List Cell):Option V:=(attrV o x).or (o.raw?.bind fun p=>attrR p.1 p.2 x cs)
noncomputable def isStar:Expr→Bool
 | .Starred ..=>true
 | _=>false
noncomputable def fnL:List Nat:=[60,129,426,514,540,552,578,587,946,953,960,967,1020,1032,1039,1049,1059,1066,1073,1080,1085,1092,1099]
noncomputable def plainBase:Expr→Bool
 | .Name ..=>true
 | .Attribute ..=>true
 | _=>false
noncomputable def T.eq:T→T→Bool
 | .n a=>fun y=>match y with
  | .n b=>decide (a=b)
  | _=>false
 | .ni a=>fun y=>match y with
  | .ni b=>decide (a=b)
  | _=>false
 | .rex=>fun y=>match y with
  | .rex=>true
  | _=>false
 | .tom=>fun y=>match y with
  | .tom=>true
  | _=>false
 | .mo a=>fun y=>match y with
  | .mo b=>a.eq b
  | _=>false
 | .fa a=>fun y=>match y with
  | .fa b=>a.eq b
  | _=>false
 | .su a c=>fun y=>match y with
  | .su b d=>a.eq b&&c.eq d
  | _=>false
noncomputable def T.dp:T→Nat
 | .mo t=>t.dp+1
 | .fa t=>t.dp+1
 | .su a b=>max a.dp b.dp+1
 | _=>0
noncomputable def TrOk (t:T):Prop:=t.dp≤64
noncomputable def V.isN:V→Bool
 | .none=>true
 | _=>false
noncomputable def truthV (v:V) (cs:List Cell):Option Bool:=match v with
 | .none=>some false
 | .bool b=>some b
 | .lst vs=>if Nat.blt vs.length 1000 then some (!vs.isEmpty) else none
 | .ex _=>some true
 | _=>none
noncomputable def X.cls:X→Nat
 | .var _=>514
 | .con _=>578
 | .app ..=>426
noncomputable def X.eqf:X→Nat
 | .app ..=>386
 | _=>471
noncomputable def exMeths:List Str:=["free","constants","predicates","replace","simplify","variables","substitute_bindings"]
noncomputable def X.mt (x:X) (n:Str):Nat:=(lookM methL x.cls n).getD 0
noncomputable def mk2 (x:Str):V→Option T
 | .str y=>if x==("n": Str) then some (.n y) else if x==("c": Str) then (if y==("rex": Str) then some .rex else if y==("tom": Str) then some .tom else none) else none
 | .int k=>if x==("n": Str) then some (.ni k) else none
 | .tr t=>if x==("mother": Str) then some (.mo t) else if x==("father": Str) then some (.fa t) else none
 | _=>none
noncomputable def V.str1:V→Option Str
 | .str s=>some s
 | _=>Option.none
noncomputable def V.tr1:V→Option T
 | .tr s=>some s
 | _=>Option.none
noncomputable def mk3 (x:Str) (b c:V):Option T:=b.tr1.bind fun t=>c.tr1.bind fun u=>if x==("sum": Str) then some (.su t u) else none
noncomputable def mkX (x:Str):List V→Option T
 | []=>none
 | b::vs=>(match vs with
  | []=>mk2 x b
  | c::vs=>if vs.isEmpty then mk3 x b c else none)
noncomputable def mkO:List V→Option T
 | []=>none
 | a::vs=>a.str1.bind fun x=>mkX x vs
noncomputable def mkT (vs:List V):V:=match mkO vs with
 | some t=>.tr t
 | none=>.tup vs
noncomputable def idxV (vs:List V):V→Option V
 | .int (.ofNat n)=>if Nat.blt n 1000 then vs[n]? else none
 | _=>none
noncomputable def notSlice:Expr→Bool
 | .Slice ..=>false
 | _=>true
noncomputable def kInt:Const→Option Int
 | .int i=>some i
 | _=>none
noncomputable def cInt:Expr→Option Int
 | .Constant c _ _=>kInt c
 | _=>none
noncomputable def partE:Option Expr→Option (Option Int)
 | none=>some none
 | some e=>(cInt e).map some
noncomputable def strSl (x:Str) (l u:Option Int):Str:=if (Builtin.Str.strSliceIndices l u 1 x.length).length==x.length then x else ⟨((Builtin.Str.strSliceIndices l u 1 x.length).filterMap (x.cps[·]?)).toArray⟩
noncomputable def strsOf:List V→Option (List Str)
 | []=>some []
 | .str s::r=>(match strsOf r with | some l=>some (s::l) | none=>none)
 | _::_=>none
noncomputable def V.strs:V→Option (List Str)
 | .ls l=>some l
 | .lst vs=>strsOf vs
 | _=>Option.none
section
variable (prog:Program) (w:World) (LI:Nat→Option LamInfo) (Γ:Gam)
noncomputable def nameV (x:Str) (σ:Wt):Option V:=match Γ.cs.names.lookup x with
 | some .local=>if x==("__debug__": Str) then none else σ.loc.lookup x
 | some .cell=>if x==("__debug__": Str) then none else Γ.cv.lookup x
 | some .free=>if x==("__debug__": Str)||x==("__classdict__": Str) then none else Γ.cv.lookup x
 | some .globalImplicit=>gl.lookup x
 | _=>none
noncomputable def callV (f:V) (args:List V) (σ:Wt):Ev V:=match σ.tr with
 | .c o::t=>if f.clo&&args.all V.clo then some (o,⟨σ.loc,σ.cells,t⟩,[Con prog w LI Γ.n f [] args [] o []]) else none
 | .cc k o c'::t=>(match σ.cells[k]? with
  | some c=>if f.clo&&args.all (V.subOk k)&&o.clo then some (o,⟨σ.loc,σ.cells.set k c',t⟩,[Con prog w LI Γ.n f [c] (args.map (V.sub k)) [] o [c'],CloC c,CloC c']) else none
  | none=>none)
 | .ca o cs::t=>some (o,⟨σ.loc,cs,t⟩,[Con prog w LI Γ.n f σ.cells args [] o cs])
 | .cn v cs::t=>if σ.cells.isEmpty then some (.ok v,⟨σ.loc,cs,t⟩,[ConN prog w LI Γ.n f [] args [] (.ok v) cs]) else none
 | _=>none
noncomputable def trSe:List Tr→Option (Res V×List (Str×V)×List Cell×List Tr)
 | []=>none
 | i::t=>match i with
  | .se o loc cs=>some (o,loc,cs,t)
  | _=>none
noncomputable def semE (e:Expr) (σ:Wt):Ev V:=(trSe σ.tr).bind fun p=>some (p.1,⟨p.2.1,p.2.2.1,p.2.2.2⟩,[SemE prog w LI Γ e σ.ab p.1 ⟨p.2.1,p.2.2.1⟩])
noncomputable def evS (rec:Expr→Wt→Ev V):List Expr→Wt→Ev (List V)
 | [],σ=>rt [] σ
 | e::es,σ=>if isStar e then none else bnd (rec e σ) fun v σ=>bnd (evS rec es σ) fun vs σ=>rt (v::vs) σ
noncomputable def cellL (v:V) (cs:List Cell):Option (List V):=match v with
 | .cell k=>(match cs[k]? with
  | some (.list vs)=>some vs
  | _=>none)
 | _=>none
noncomputable def seqV (v:V) (cs:List Cell):Option (List V):=v.items.or (v.elems.or (cellL v cs))
noncomputable def lenV (v:V) (σ:Wt):Ev V:=match seqV v σ.cells with
 | some vs=>some (.ok (.int (vs.length:Int)),σ,[vs.length<1000000])
 | none=>none
noncomputable def okF:V→Bool
 | .fn a=>fnL.any (Nat.beq a)
 | .lam ..=>true
 | .bi _=>true
 | .ty _=>true
 | _=>false
noncomputable def evA (rec:Expr→Wt→Ev V) (es:List Expr) (σ:Wt):Ev (List V):=if es.any isStar then none else evS rec es σ
noncomputable def V.str?:V→Option Str
 | .str s=>some s
 | _=>Option.none
noncomputable def V.ex?:V→Option X
 | .ex x=>some x
 | _=>Option.none
noncomputable def isiE (x:X) (C:Nat) (σ:Wt):Ev V:=if Nat.beq C 321 then rt (.bool true) σ else if Nat.beq C 129 then rt (.bool false) σ else optE ((lookI isiL x.cls C).map V.bool) σ
noncomputable def isiF (v:V) (C:Nat) (σ:Wt):Ev V:=match v.ex? with
 | some x=>isiE x C σ
 | none=>optE ((v.inst.bind fun p=>lookI isiL p.1 C).map V.bool) σ
noncomputable def isiT (v c:V) (σ:Wt):Ev V:=match c with
 | .fn C=>isiF v C σ
 | .ty t=>if v.str?.isSome&&decide (t ="str") then rt (.bool true) σ else none
 | _=>none
noncomputable def isiV (vs:List V) (σ:Wt):Ev V:=match vs with
 | []=>none
 | v::vs=>(match vs with
  | []=>none
  | c::vs=>if vs.isEmpty then isiT v c σ else none)
noncomputable def lenL (vs:List V) (σ:Wt):Ev V:=match vs with
 | []=>none
 | v::vs=>if vs.isEmpty then lenV v σ else none
noncomputable def biV (n:String) (vs:List V) (σ:Wt):Ev V:=if decide (n ="isinstance") then isiV vs σ else if decide (n ="len") then lenL vs σ else none
noncomputable def applyV (f:V) (vs:List V) (σ:Wt):Ev V:=match f with
 | .fn a=>callV prog w LI Γ f vs σ
 | .lam ..=>callV prog w LI Γ f vs σ
 | .bi n=>biV n vs σ
 | _=>none
noncomputable def V.int?:V→Option Int
 | .int x=>some x
 | _=>Option.none
noncomputable def V.tr?:V→Option T
 | .tr x=>some x
 | _=>Option.none
noncomputable def V.vr?:V→Option Str
 | .vr x=>some x
 | _=>Option.none
noncomputable def cmpEq (a b:V) (σ:Wt):Ev V:=match a with
 | .str x=>b.str?.bind fun y=>rt (.bool (x==y)) σ
 | .vr _=>b.vr?.bind fun _=>callV prog w LI Γ (.fn 112) [a,b] σ
 | .ex x=>b.ex?.bind fun _=>callV prog w LI Γ (.fn x.eqf) [a,b] σ
 | .int x=>b.int?.bind fun y=>rt (.bool (x==y)) σ
 | .tr x=>b.tr?.bind fun y=>some (.ok (.bool (x.eq y)),σ,[TrOk x,TrOk y])
 | _=>none
noncomputable def cmpNe (a b:V) (σ:Wt):Ev V:=match a with
 | .str x=>b.str?.bind fun y=>rt (.bool (x !=y)) σ
 | .tr x=>b.tr?.bind fun y=>some (.ok (.bool (!x.eq y)),σ,[TrOk x,TrOk y])
 | _=>none
noncomputable def cmpGt (a b:V) (σ:Wt):Ev V:=a.int?.bind fun x=>b.int?.bind fun y=>rt (.bool (decide (y<x))) σ
noncomputable def Cell.kv:Cell→Option (List (Str×V))
 | .dict kvs=>some kvs
 | _=>none
noncomputable abbrev cellD (c:Option Cell):Option (List (Str×V)):=c.bind Cell.kv
noncomputable def dictV (v:V) (cs:List Cell):Option (List (Str×V)):=match v with
 | .cell k=>cellD cs[k]?
 | .dct kvs=>some kvs
 | _=>none
noncomputable def inV (x:Str) (b:V):Option Bool:=(b.str?.map fun y=>!(Builtin.Str.occurrences y x 0 y.length 1).isEmpty).or (b.strs.map fun l=>l.any (·==x))
noncomputable def V.bool?:V→Option Bool
 | .bool b=>some b
 | _=>Option.none
noncomputable def Cell.ls:Cell→Option (List V)
 | .list l=>some l
 | _=>none
noncomputable def VarEqP:Prop:=∀ a b,Con prog w LI Γ.n (.fn 112) [] [.vr a,.vr b] [] (.ok (.bool (a==b))) []
noncomputable def ng (neg b:Bool):Bool:=if neg then !b else b
noncomputable def cmpInS (neg:Bool) (x:Str) (b:V) (σ:Wt):Ev V:=(((inV x b).map (ng neg)).or (if neg then none else (dictV b σ.cells).map fun kvs=>(kvs.lookup x).isSome)).bind fun r=>rt (.bool r) σ
noncomputable def nmV (neg:Bool) (x:Str) (vs:List V) (σ:Wt):List Tr→Ev V
 | []=>none
 | i::t=>match i with
  | .nm l=>some (.ok (.bool (ng neg (l.any (·==x)))),⟨σ.loc,σ.cells,t⟩,[vs=l.map .vr,VarEqP prog w LI Γ])
  | _=>none
noncomputable def cmpInV (neg:Bool) (x:Str) (b:V) (σ:Wt):Ev V:=match b with
 | .lv l=>some (.ok (.bool (ng neg (l.any (·==x)))),σ,[VarEqP prog w LI Γ])
 | .cell k=>(σ.cells[k]?.bind Cell.ls).bind fun vs=>nmV prog w LI Γ neg x vs σ σ.tr
 | .bd d=>if neg then none else bnd (callV prog w LI Γ (.fn 1003) [.bd d,.vr x] σ) fun r σ=>r.bool?.bind fun b=>rt (.bool b) σ
 | _=>none
noncomputable def cmpIn (neg:Bool) (a b:V) (σ:Wt):Ev V:=match a with
 | .str x=>cmpInS neg x b σ
 | .vr x=>cmpInV prog w LI Γ neg x b σ
 | _=>none
noncomputable def cmpV (op:CmpOp) (a b:V) (σ:Wt):Ev V:=match op with
 | .Eq=>cmpEq prog w LI Γ a b σ
 | .NotEq=>cmpNe a b σ
 | .Is=>if b.isN then rt (.bool a.isN) σ else none
 | .IsNot=>if b.isN then rt (.bool (!a.isN)) σ else none
 | .In=>cmpIn prog w LI Γ false a b σ
 | .NotIn=>cmpIn prog w LI Γ true a b σ
 | .Gt=>cmpGt a b σ
 | _=>none
noncomputable def strAt (y:Str) (k:Int):Option Str:=if decide (-1000<k)&&decide (k<1000) then ((seqIndex? k y.length).bind (y.cps[·]?)).map (fun c=>⟨#[c]⟩) else none
noncomputable def getT (kvs:List (Str×V)) (x:Str) (σ:Wt):List Tr→Ev V
 | []=>none
 | i::t=>match i with
  | .v y=>some (.ok y,⟨σ.loc,σ.cells,t⟩,[kvs.lookup x=some y])
  | .b b=>if b then none else some (.err (.ty "KeyError"),⟨σ.loc,σ.cells,t⟩,[kvs.lookup x=none])
  | _=>none
noncomputable def dsub (d:Option (List (Str×V))) (x:Option Str) (σ:Wt):Ev V:=d.bind fun kvs=>x.bind fun x=>getT kvs x σ σ.tr
noncomputable def strT (y:Str) (k:Int) (σ:Wt):List Tr→Ev V
 | []=>none
 | i::t=>match i with
  | .nm l=>some (.ok (.str (l.headD ⟨#[]⟩)),⟨σ.loc,σ.cells,t⟩,[strAt y k=some (l.headD ⟨#[]⟩)])
  | _=>none
noncomputable def strI (y:Str) (i:V) (σ:Wt):Ev V:=i.int?.bind fun k=>strT y k σ σ.tr
noncomputable def subV2 (a i:V) (σ:Wt):Ev V:=match a with
 | .str y=>strI y i σ
 | .bd _=>callV prog w LI Γ (.fn 996) [a,i] σ
 | .raw C _=>if Nat.beq C 1020 then callV prog w LI Γ (.fn 996) [a,i] σ else none
 | a=>dsub (dictV a σ.cells) i.str? σ
noncomputable def subV (a i:V) (σ:Wt):Ev V:=match a.items.or a.elems with
 | some vs=>optE (idxV vs i) σ
 | none=>subV2 prog w LI Γ a i σ
noncomputable def slT (a:V) (σ:Wt):Int→Ev V
 | .ofNat n=>(match a.items with
  | some vs=>if Nat.blt 0 n&&Nat.ble n vs.length&&Nat.blt vs.length 1000 then rt (.tup (vs.drop n)) σ else none
  | none=>none)
 | _=>none
noncomputable def slV (a:V) (l u:Option Int) (σ:Wt):Ev V:=match a.str? with
 | some x=>if Nat.blt (strSl x l u).length 1000 then rt (.str (strSl x l u)) σ else none
 | none=>if u.isNone then (match l with
  | some i=>slT a σ i
  | none=>none) else none
noncomputable def trV:List Tr→Option (V×List Tr)
 | []=>none
 | i::t=>match i with
  | .v u=>some (u,t)
  | _=>none
noncomputable def trPop:List Tr→Option (List V×V×List Tr)
 | []=>none
 | i::t=>match i with
  | .pop r v=>some (r,v,t)
  | _=>none
noncomputable def binL (a b:V) (σ:Wt):Ev V:=a.elems.bind fun xs=>b.elems.bind fun ys=>(trV σ.tr).bind fun p=>some (.ok p.1,⟨σ.loc,σ.cells,p.2⟩,[p.1.elems=some (xs++ys),xs.length+ys.length<1000000])
noncomputable def V.bd?:V→Option (List (Str×X))
 | .bd d=>some d
 | _=>Option.none
noncomputable def bdR (v:V) (σ:Wt):Ev V:=if v.bd?.isSome then rt v σ else none
noncomputable def iNat:Int→Option Nat
 | .ofNat n=>some n
 | _=>none
noncomputable def V.nat? (v:V):Option Nat:=v.int?.bind iNat
noncomputable def binAdd (a b:V) (σ:Wt):Ev V:=match a with
 | .str x=>b.str?.bind fun y=>some (.ok (.str (x++y)),σ,[x.length+y.length≤1000])
 | .int x=>b.int?.bind fun y=>rt (.int (x+y)) σ
 | .bd _=>b.bd?.bind fun _=>bnd (callV prog w LI Γ (.fn 1010) [a,b] σ) bdR
 | a=>binL a b σ
noncomputable def binV (op:Operator) (a b:V) (σ:Wt):Ev V:=match op with
 | .Add=>binAdd prog w LI Γ a b σ
 | .Mod=>a.int?.bind fun x=>b.nat?.bind fun k=>if Nat.blt 0 k then rt (.int (x.fmod (.ofNat k))) σ else none
 | .FloorDiv=>a.int?.bind fun x=>b.nat?.bind fun k=>if Nat.blt 0 k&&Nat.blt k 1000 then rt (.int (x.fdiv (.ofNat k))) σ else none
 | _=>none
noncomputable def evAnd (rec:Expr→Wt→Ev V):List Expr→Wt→Ev V
 | []=>fun _=>none
 | e::es=>fun σ=>if es.isEmpty then rec e σ else bnd (rec e σ) fun v σ=>bnd (optE (truthV v σ.cells) σ) fun t σ=>bnd (br t σ) fun t σ=>if t then evAnd rec es σ else rt v σ
noncomputable def evOr (rec:Expr→Wt→Ev V):List Expr→Wt→Ev V
 | []=>fun _=>none
 | e::es=>fun σ=>if es.isEmpty then rec e σ else bnd (rec e σ) fun v σ=>bnd (optE (truthV v σ.cells) σ) fun t σ=>bnd (br t σ) fun t σ=>if t then rt v σ else evOr rec es σ
noncomputable def evConst (c:Const) (σ:Wt):Ev V:=match c with
 | .none=>rt .none σ
 | .bool b=>rt (.bool b) σ
 | .int i=>rt (.int i) σ
 | .str s=>rt (.str s) σ
 | _=>none
noncomputable def evCallN (rec:Expr→Wt→Ev V) (f:Str) (args:List Expr) (σ:Wt):Ev V:=bnd (optE (nameV Γ f σ) σ) fun fv σ=>if okF fv then bnd (evA rec args σ) fun vs σ=>applyV prog w LI Γ fv vs σ else none
noncomputable def one1 {α:Type}:List α→Option α
 | []=>none
 | x::l=>if l.isEmpty then some x else none
noncomputable def appV (k:Nat) (v:V) (σ:Wt):Ev V:=(σ.cells[k]?.bind Cell.ls).bind fun vs=>some (.ok .none,⟨σ.loc,σ.cells.set k (.list (vs++[v])),σ.tr⟩,[vs.length<1000000])
noncomputable def popV (k:Nat) (σ:Wt):Ev V:=(σ.cells[k]?.bind Cell.ls).bind fun vs=>(trPop σ.tr).bind fun p=>some (.ok p.2.1,⟨σ.loc,σ.cells.set k (.list p.1),p.2.2⟩,[vs=p.1++[p.2.1],vs.length<1000000])
noncomputable def idxS (l:List Str) (x:Str):Option Int:=(l.findIdx? (·==x)).map Int.ofNat
noncomputable def ixV (l:List Str) (us:List V) (σ:Wt):Ev V:=(one1 us).bind fun v=>v.str?.bind fun x=>(trV σ.tr).bind fun p=>some (.ok p.1,⟨σ.loc,σ.cells,p.2⟩,[(idxS l x).map V.int=some p.1,l.length<1000])
noncomputable def evLC (rec:Expr→Wt→Ev V) (x:Str) (args:List Expr) (k:Nat) (σ:Wt):Ev V:=(σ.cells[k]?.bind Cell.ls).bind fun _=>if x==("append": Str) then bnd (evA rec args σ) fun us σ=>bnd (optE (one1 us) σ) fun v σ=>appV k v σ else if x==("pop": Str) then bnd (evA rec args σ) fun us σ=>if us.isEmpty then popV k σ else none else none
noncomputable def evLM (rec:Expr→Wt→Ev V) (x:Str) (args:List Expr) (ov:V) (σ:Wt):Ev V:=match ov with
 | .cell k=>evLC rec x args k σ
 | .ls l=>if x==("index": Str) then bnd (evA rec args σ) fun us σ=>ixV l us σ else none
 | _=>none
noncomputable def evMeth (rec:Expr→Wt→Ev V) (x:Str) (args:List Expr) (ov:V) (σ:Wt):Ev V:=if exMeths.any (·==x) then ov.ex?.bind fun e=>bnd (evA rec args σ) fun vs σ=>callV prog w LI Γ (.fn (e.mt x)) (ov::vs) σ else (match ov.inst with
  | some p=>if (p.2.lookup x).isSome then none else (lookM methL p.1 x).bind fun f=>bnd (evA rec args σ) fun vs σ=>callV prog w LI Γ (.fn f) (ov::vs) σ
  | none=>evLM rec x args ov σ)
noncomputable def evCallA (rec:Expr→Wt→Ev V) (o:Expr) (x:Str) (apos:Pos) (args:List Expr) (pos:Pos) (σ:Wt):Ev V :=
 if plainBase o&&apos.endLine==pos.line&&Nat.blt args.length 20&&!args.any isStar then bnd (rec o σ) fun ov σ=>evMeth prog w LI Γ rec x args ov σ else none
noncomputable def evCall (rec:Expr→Wt→Ev V) (f:Expr) (args:List Expr) (pos:Pos) (σ:Wt):Ev V:=match f with
 | .Name f _=>evCallN prog w LI Γ rec f args σ
 | .Attribute o x apos=>evCallA prog w LI Γ rec o x apos args pos σ
 | _=>none
noncomputable def evCmp (rec:Expr→Wt→Ev V) (l:Expr) (op:CmpOp) (r:Expr) (σ:Wt):Ev V:=if behindInMarks op r then none else bnd (rec l σ) fun a σ=>bnd (rec r σ) fun b σ=>cmpV prog w LI Γ op a b σ
noncomputable def evListK (vs:List V) (σ:Wt):List Tr→Ev V
 | []=>rt (.lst vs) σ
 | i::t=>match i with
  | .cel=>some (.ok (.cell σ.cells.length),⟨σ.loc,σ.cells++[.list vs],t⟩,[])
  | .v u=>some (.ok u,⟨σ.loc,σ.cells,t⟩,[u.elems=some vs])
  | _=>rt (.lst vs) σ
noncomputable def evList (rec:Expr→Wt→Ev V) (es:List Expr) (σ:Wt):Ev V:=bnd (evA rec es σ) fun vs σ=>if Nat.blt vs.length 1000 then evListK vs σ σ.tr else none
noncomputable def evTup (rec:Expr→Wt→Ev V) (es:List Expr) (σ:Wt):Ev V:=bnd (evA rec es σ) fun vs σ=>if Nat.blt vs.length 1000 then rt (mkT vs) σ else none
noncomputable def evSl (rec:Expr→Wt→Ev V) (o:Expr) (lo hi:Option Expr) (σ:Wt):Ev V:=(partE lo).bind fun l=>(partE hi).bind fun u=>bnd (rec o σ) fun a σ=>slV a l u σ
noncomputable def evIdx (rec:Expr→Wt→Ev V) (o i:Expr) (σ:Wt):Ev V:=if notSlice i then bnd (rec o σ) fun a σ=>bnd (rec i σ) fun k σ=>subV prog w LI Γ a k σ else none
noncomputable def evSub (rec:Expr→Wt→Ev V) (o i:Expr) (σ:Wt):Ev V:=match i with
 | .Slice lo hi st _=>(match st with
  | none=>evSl rec o lo hi σ
  | some _=>none)
 | i=>evIdx prog w LI Γ rec o i σ
noncomputable def evE (rec:Expr→Wt→Ev V) (recT:Expr→Wt→Ev Bool) (e:Expr) (σ:Wt):Ev V:=match e with
 | .Constant c _ _=>evConst c σ
 | .Name x _=>optE (nameV Γ x σ) σ
 | .Attribute o x _=>if plainBase o then bnd (rec o σ) fun v σ=>optE (attrC v x σ.cells) σ else none
 | .Call f args kws pos=>(match kws with
  | []=>evCall prog w LI Γ rec f args pos σ
  | _::_=>semE prog w LI Γ e σ)
 | .Compare l ops rs _=>(one1 ops).bind fun op=>(one1 rs).bind fun r=>evCmp prog w LI Γ rec l op r σ
 | .BoolOp op vs _=>(match op with
  | .And=>evAnd rec vs σ
  | .Or=>evOr rec vs σ)
 | .IfExp t a b _=>bnd (recT t σ) fun c σ=>if c then rec a σ else rec b σ
 | .List es _=>evList rec es σ
 | .Tuple es _ _=>evTup rec es σ
 | .Subscript o i _=>evSub prog w LI Γ rec o i σ
 | .BinOp l op r _=>bnd (rec l σ) fun a σ=>bnd (rec r σ) fun b σ=>binV prog w LI Γ op a b σ
 | .Dict ks vs _=>if ks.isEmpty&&vs.isEmpty then some (.ok (.cell σ.cells.length),⟨σ.loc,σ.cells++[.dict []],σ.tr⟩,[]) else none
 | .Lambda ..=>semE prog w LI Γ e σ
 | .ListComp ..=>semE prog w LI Γ e σ
 | _=>none
noncomputable def evAll (recT:Expr→Wt→Ev Bool):List Expr→Wt→Ev Bool
 | [],σ=>rt true σ
 | e::es,σ=>bnd (recT e σ) fun b σ=>if b then evAll recT es σ else rt false σ
noncomputable def evAny (recT:Expr→Wt→Ev Bool):List Expr→Wt→Ev Bool
 | [],σ=>rt false σ
 | e::es,σ=>bnd (recT e σ) fun b σ=>if b then rt true σ else evAny recT es σ
noncomputable def evV (rec:Expr→Wt→Ev V) (e:Expr) (σ:Wt):Ev Bool:=bnd (rec e σ) fun v σ=>bnd (optE (truthV v σ.cells) σ) fun t σ=>br t σ
noncomputable def evTC (rec:Expr→Wt→Ev V) (l:Expr) (op:CmpOp) (r:Expr) (σ:Wt):Ev Bool:=if behindInMarks op r then none else bnd (rec l σ) fun a σ=>bnd (rec r σ) fun b σ=>bnd (cmpV prog w LI Γ op a b σ) fun v σ=>v.bool?.bind fun t=>br t σ
noncomputable def evT (rec:Expr→Wt→Ev V) (recT:Expr→Wt→Ev Bool) (e:Expr) (σ:Wt):Ev Bool:=match e with
 | .UnaryOp op x _=>(match op with
  | .Not=>bnd (recT x σ) fun b σ=>rt (!b) σ
  | _=>none)
 | .BoolOp op vs _=>(match op with
  | .And=>evAll recT vs σ
  | .Or=>evAny recT vs σ)
 | .Compare l ops rs _=>(one1 ops).bind fun op=>(one1 rs).bind fun r=>evTC prog w LI Γ rec l op r σ
 | .Name ..=>evV rec e σ
 | .Call ..=>evV rec e σ
 | _=>none
noncomputable def evN:Nat→(Expr→Wt→Ev V)×(Expr→Wt→Ev Bool)
 | 0=>(fun _ _=>none,fun _ _=>none)
 | n+1=>(evE prog w LI Γ (evN n).1 (evN n).2,evT prog w LI Γ (evN n).1 (evN n).2)
end
end
section
variable {prog:Program} {w:World} {LI:Nat→Option LamInfo} {φ:Mp} {ca cb:List Addr}
def CloV (v:V):Prop:=∀ prog w LI φ ca u,RV prog w LI φ ca v u→RV prog w LI φ [] v u
def CloVs (vs:List V):Prop:=∀ prog w LI φ ca us,RVs prog w LI φ ca vs us→RVs prog w LI φ [] vs us
theorem CloVs.of {vs:List V}:(∀ v∈vs,CloV v)→CloVs vs:=by
 induction vs with
 | nil=>intro _ _ _ _ _ _ _ h;cases h;exact .nil
 | cons v vs ih=>intro h _ _ _ _ _ _ r;cases r with | cons a b=>exact .cons (h v (.head _) _ _ _ _ _ _ a) (ih (fun x hx=>h x (.tail _ hx)) _ _ _ _ _ _ b)
theorem clo_str (s:Str):CloV (.str s):=fun _ _ _ _ _ _ h=>h.inv.elim fun _ e=>e▸.str
theorem clo_int (s:Int):CloV (.int s):=fun _ _ _ _ _ _ h=>h.inv.elim fun _ e=>e▸.int
theorem clo_tup {v:V} {vs:List V} (e:v.items=some vs) (h:CloVs vs) {prog w LI φ ca u} (r:RTup prog w LI φ ca vs u):RV prog w LI φ [] v u :=
 r.elim fun _ r=>r.elim fun _ k=>k.1▸.tup e (h _ _ _ _ _ _ k.2.1) k.2.2
theorem clo_lst {v:V} {vs:List V} (e:v.elems=some vs) (h:CloVs vs) {prog w LI φ ca u} (r:RLst prog w LI φ ca vs u):RV prog w LI φ [] v u :=
 r.elim fun _ r=>r.elim fun _ r=>r.elim fun _ k=>k.1▸.lst e (h _ _ _ _ _ _ k.2.1) k.2.2
theorem clo_items {v:V} {vs:List V} (e:v.items=some vs) (h:CloVs vs):CloV v:=fun _ _ _ _ _ _ r=>clo_tup e h (r.items_inv e)
theorem clo_elems {v:V} {vs:List V} (e:v.elems=some vs) (h:CloVs vs):CloV v:=fun _ _ _ _ _ _ r=>clo_lst e h (r.elems_inv e)
theorem clo_fields {fs:List (Str×V)}:(∀ p∈fs,CloV p.2)→∀ {prog w LI φ ca es},REs prog w LI φ ca fs es→REs prog w LI φ [] fs es:=by
 induction fs with
 | nil=>intro _ _ _ _ _ _ _ h;cases h;exact .nil
 | cons p fs ih =>
  intro h _ _ _ _ _ _ r
  cases r with
  | cons a b=>exact .cons (h _ (.head _) _ _ _ _ _ _ a) (ih (fun x hx=>h x (.tail _ hx)) b)
theorem RV.obj_inv {v:V} {C:Nat} {fs:List (Str×V)} (e:v.inst=some (C,fs)) {prog w LI φ ca u} (r:RV prog w LI φ ca v u):∃ x dx es n,u=.ref x∧φ x=some (instObj C dx)∧φ dx=some (dictOf es n)∧REs prog w LI φ ca fs es:=r.inst_inv e
theorem clo_inst {v:V} {C:Nat} {fs:List (Str×V)} (e:v.inst=some (C,fs)) (h:∀ p∈fs,CloV p.2):CloV v:=fun _ _ _ _ _ _ r =>
 (r.obj_inv e).elim fun _ r=>r.elim fun _ r=>r.elim fun _ r=>r.elim fun _ k=>k.1▸.inst e k.2.1 k.2.2.1 (clo_fields h k.2.2.2)
theorem one_of {α:Type} {p:α→Prop} {a:α} (h:p a):∀ x∈[a],p x:=fun x hx=>by
 rcases List.mem_cons.mp hx with rfl | hx
 ·exact h
 ·cases hx
theorem two_of {α:Type} {p:α→Prop} {a b:α} (h:p a) (h':p b):∀ x∈[a,b],p x:=fun x hx=>by
 rcases List.mem_cons.mp hx with rfl | hx
 ·exact h
 ·exact one_of h' x hx
theorem clo_tr:∀ t:T,CloV (.tr t)
 | .n s=>clo_items rfl (CloVs.of (two_of (clo_str _) (clo_str _)))
 | .ni s=>clo_items rfl (CloVs.of (two_of (clo_str _) (clo_int _)))
 | .rex=>clo_items rfl (CloVs.of (two_of (clo_str _) (clo_str _)))
 | .tom=>clo_items rfl (CloVs.of (two_of (clo_str _) (clo_str _)))
 | .mo t=>clo_items rfl (CloVs.of (two_of (clo_str _) (clo_tr t)))
 | .fa t=>clo_items rfl (CloVs.of (two_of (clo_str _) (clo_tr t)))
 | .su a b=>clo_items rfl (CloVs.of fun x hx=>by
   rcases List.mem_cons.mp hx with rfl | hx
   ·exact clo_str _
   ·exact two_of (clo_tr a) (clo_tr b) x hx)
theorem clo_vr (s:Str):CloV (.vr s):=clo_inst rfl (one_of (clo_str _))
theorem clo_ex:∀ x:X,CloV (.ex x)
 | .var s=>clo_inst rfl (one_of (clo_vr _))
 | .con c=>clo_inst rfl (one_of (clo_vr _))
 | .app f a=>clo_inst rfl (two_of (clo_ex f) (clo_ex a))
theorem clo_ks {kvs:List (Str×V)}:(∀ p∈kvs,CloV p.2)→∀ {prog w LI φ ca ws},RKs prog w LI φ ca kvs ws→RKs prog w LI φ [] kvs ws:=by
 induction kvs with
 | nil=>intro _ _ _ _ _ _ _ h;cases h;exact .nil
 | cons p fs ih =>
  intro h _ _ _ _ _ _ r
  cases r with
  | cons a b=>exact .cons (h _ (.head _) _ _ _ _ _ _ a) (ih (fun x hx=>h x (.tail _ hx)) b)
theorem clo_dct {kvs:List (Str×V)} (h:∀ p∈kvs,CloV p.2):CloV (.dct kvs):=fun _ _ _ _ _ _ r =>
 r.inv.elim fun _ r=>r.elim fun _ r=>r.elim fun _ k=>k.1▸.dct k.2.1 k.2.2.1 k.2.2.2.1 (clo_ks h k.2.2.2.2)
theorem clo_bd (d:List (Str×X)):CloV (.bd d):=clo_inst rfl (one_of (clo_dct fun p hp=>by
 obtain ⟨q,_,rfl⟩:=List.mem_map.mp hp
 exact clo_ex _))
theorem clo_ls (l:List Str):CloV (.ls l):=clo_elems rfl (CloVs.of fun v hv=>by
 obtain ⟨q,_,rfl⟩:=List.mem_map.mp hv
 exact clo_str _)
theorem clo_lv (l:List Str):CloV (.lv l):=clo_elems rfl (CloVs.of fun v hv=>by
 obtain ⟨q,_,rfl⟩:=List.mem_map.mp hv
 exact clo_vr _)
theorem clo0_clo {v:V} (h:v.clo0=true):CloV v:=by
 cases v with
 | str s=>exact clo_str s
 | int s=>exact clo_int s
 | tr s=>exact clo_tr s
 | vr s=>exact clo_vr s
 | ex s=>exact clo_ex s
 | ls s=>exact clo_ls s
 | lv s=>exact clo_lv s
 | bd s=>exact clo_bd s
 | none=>exact fun _ _ _ _ _ _ r=>r.inv▸.none
 | bool=>exact fun _ _ _ _ _ _ r=>r.inv▸.bool
 | fn=>exact fun _ _ _ _ _ _ r=>r.inv▸.fn
 | bi=>exact fun _ _ _ _ _ _ r=>r.inv▸.bi
 | ty=>exact fun _ _ _ _ _ _ r=>r.inv▸.ty
 | _=>exact absurd h Bool.false_ne_true
theorem cloS_clo {f:V→Bool} (hf:∀ v,f v=true→CloV v) {v:V} (h:V.cloS f v=true):CloV v:=by
 cases v with
 | tup vs=>exact clo_items rfl (CloVs.of fun x hx=>hf x (List.all_eq_true.mp h x hx))
 | lst vs=>exact clo_elems rfl (CloVs.of fun x hx=>hf x (List.all_eq_true.mp h x hx))
 | lam i vs =>
   intro _ _ _ _ _ _ r
   cases r with
   | lam a b c d e f' g h' i'=>exact .lam a b c d e f' g h' (CloVs.of (fun x hx=>hf x (List.all_eq_true.mp h x hx)) _ _ _ _ _ _ i')
   | tup e=>cases e
   | lst e=>cases e
   | inst e=>cases e
 | _=>exact clo0_clo h
theorem clo_clo {v:V} (h:v.clo=true):CloV v:=cloS_clo (fun _ h=>cloS_clo (fun _ h=>cloS_clo (fun _ h=>clo0_clo h) h) h) h
theorem clo_all {vs:List V} (h:vs.all V.clo=true):CloVs vs:=CloVs.of fun x hx=>clo_clo (List.all_eq_true.mp h x hx)
theorem RVs.mono' {ψ:Mp} (l:φ.le ψ) (p:ca <+: cb) {v u} (h:RVs prog w LI φ ca v u):RVs prog w LI ψ cb v u:=h.mono l p
theorem sub_ok {k:Nat} {b:Addr} (hk:ca[k]?=some b) {v:V} {u:Value} (h:V.subOk k v=true) (r:RV prog w LI φ ca v u):RV prog w LI φ [b] (V.sub k v) u:=by
 have cl:∀ {v:V},v.clo=true→RV prog w LI φ ca v u→RV prog w LI φ [b] v u:=fun h r=>(clo_clo h _ _ _ _ _ _ r).mono (Mp.le.refl _) (List.nil_prefix)
 cases v with
 | cell j =>
  obtain rfl:=Nat.eq_of_beq_eq_true h
  show RV prog w LI φ [b] (if Nat.beq j j then .cell 0 else .cell j) u
  rw [if_pos (show Nat.beq j j=true from h)]
  exact r.inv.elim fun a k=>k.1▸smi hk k.2▸.cell rfl
 | raw C j =>
  obtain rfl:=Nat.eq_of_beq_eq_true h
  show RV prog w LI φ [b] (if Nat.beq j j then .raw C 0 else .raw C j) u
  rw [if_pos (show Nat.beq j j=true from h)]
  exact r.inv.elim fun x r=>r.elim fun dx k=>k.1▸.raw k.2.1 (smi hk k.2.2▸rfl)
 | _=>exact cl h r
theorem sub_all {k:Nat} {b:Addr} (hk:ca[k]?=some b) {vs:List V}:∀ {us:List Value},vs.all (V.subOk k)=true→RVs prog w LI φ ca vs us→RVs prog w LI φ [b] (vs.map (V.sub k)) us:=by
 induction vs with
 | nil=>intro _ _ h;cases h;exact .nil
 | cons v vs ih =>
  intro _ h r
  rw [List.all_cons,Bool.and_eq_true] at h
  cases r with
  | cons x y=>exact .cons (sub_ok hk h.1 x) (ih h.2 y)
theorem cloC_dict {kvs:List (Str×V)} (h:∀ p∈kvs,CloV p.2):CloC (.dict kvs):=fun _ _ _ _ _ _ h2=>h2.imp fun _ k=>⟨k.1,clo_ks h k.2⟩
theorem cloC_list {vs:List V} (h:CloVs vs):CloC (.list vs):=fun _ _ _ _ _ _ h2=>h2.imp fun _=>.imp fun _ k=>⟨k.1,h _ _ _ _ _ _ k.2⟩
end
section
variable {prog:Program} {w:World} {LI:Nat→Option LamInfo} {A:Around} {env:Env} {cv:List (Str×V)} {L:Addr} {F:List Addr} {φ:Mp} {ca:List Addr} {s:Shared}
 {α β α' β':Type} {R:β→Mp→List Addr→α→Prop} {R':β'→Mp→List Addr→α'→Prop}
theorem Goal.map {out:Res β} {σ':Ab} {G G':(α→Shared→Prop)→(Value→Shared→Prop)→Prop} (g:Goal prog w LI env cv L F R out σ' φ ca s G) (h:∀ Q E,G Q E→G' Q E):Goal prog w LI env cv L F R out σ' φ ca s G' :=
 fun Q E h1 h2=>h Q E (g Q E h1 h2)
theorem Goal.now {b:β} {u:α} {σ:Ab} {s':Shared} (h:At prog w LI env cv L F σ φ ca s) (e:s'.heap=s.heap) (x:SameX s s') (r:R b φ ca u):Goal prog w LI env cv L F R (.ok b) σ φ ca s (fun Q _=>Q u s') :=
 fun Q E h1 _=>h1 b φ ca u s' rfl (Pst.to h e x) r
theorem Goal.after {out:Res β} {σ₁ σ':Ab} {φ₁:Mp} {ca₁:List Addr} {s₁:Shared} {G:(α→Shared→Prop)→(Value→Shared→Prop)→Prop} (p:Pst prog w LI env cv L F σ₁ φ ca s φ₁ ca₁ s₁)
  (g:Goal prog w LI env cv L F R out σ' φ₁ ca₁ s₁ G):Goal prog w LI env cv L F R out σ' φ ca s G:=fun Q E h1 h2 =>
 g Q E (fun b φ' ca' v s' e p' r=>h1 b φ' ca' v s' e (p.trans p') r) fun c φ' ca' v s' e p' r=>h2 c φ' ca' v s' e (p.trans p') (r.back p.stp.alive)
theorem n_oe {β:Type} {P:Prop} {b:β} {c:V} (h:Res.ok b=.err c):P:=by cases h
theorem n_eo {β:Type} {P:Prop} {b:β} {c:V} (h:Res.err c=.ok b):P:=by cases h
theorem n_er {β β':Type} {c d:V} (h:(Res.err c:Res β)=.err d):(Res.err c:Res β')=.err d:=by cases h;rfl
theorem ev_inj {β:Type} {o o':Res β} {σ σ':Wt} {p p':List Prop} (e:some (o,σ,p)=some (o',σ',p')):o=o'∧σ=σ'∧p=p' :=
 have e:=Option.some.inj e
 ⟨congrArg (·.1) e,congrArg (·.2.1) e,congrArg (·.2.2) e⟩
theorem ev_sub {β:Type} {P:Res β→Wt→List Prop→Prop} {o o':Res β} {σ σ':Wt} {p p':List Prop} (e:some (o,σ,p)=some (o',σ',p')) (h:P o σ p):P o' σ' p':=by
 have k:=ev_inj e
 rw [←k.1,← k.2.1,← k.2.2];exact h
theorem optE_some {β:Type} {x:Option β} {σ:Wt} {r:Res β×Wt×List Prop} (e:optE x σ=some r):∃ b,x=some b∧rt b σ=some r:=by
 cases x with
 | none=>exact nsm rfl e
 | some b=>exact ⟨b,rfl,e⟩
theorem bnd_ok {b:β} {σ₁:Wt} {p:List Prop} {f:β→Wt→Ev β'} {out:Res β'} {σ':Wt} {ps:List Prop} (e:bnd (some (.ok b,σ₁,p)) f=some (out,σ',ps)):∃ q,f b σ₁=some (out,σ',q)∧ps=p++q:=by
 replace e:(match f b σ₁ with | some (o',σ',q)=>some (o',σ',p++q) | none=>none)=some (out,σ',ps):=e
 cases hf:f b σ₁ with
 | none=>rw [hf] at e;exact nsm rfl e
 | some r =>
  rw [hf] at e
  have k:=ev_inj (o:=r.1) (σ:=r.2.1) (p:=p++r.2.2) e
  exact ⟨r.2.2,congrArg some (congr (congrArg Prod.mk k.1) (congrArg (·,r.2.2) k.2.1)),k.2.2.symm⟩
theorem bnd_elim {P:Prop} {m:Ev β} {f:β→Wt→Ev β'} {out:Res β'} {σ':Wt} {ps:List Prop} (e:bnd m f=some (out,σ',ps))
  (h1:∀ b σ₁ p q,m=some (.ok b,σ₁,p)→f b σ₁=some (out,σ',q)→ps=p++q→P) (h2:∀ c,m=some (.err c,σ',ps)→out=.err c→P):P:=by
 cases hm:m with
 | none=>rw [hm] at e;exact nsm rfl e
 | some r =>
  cases ho:r.1 with
  | ok a =>
   have hm:m=some (.ok a,r.2.1,r.2.2):=hm.trans (congrArg (fun z=>some (z,r.2)) ho)
   rw [hm] at e
   exact (bnd_ok e).elim fun q k=>h1 a _ _ q hm k.1 k.2
  | err c =>
   have hm:m=some (.err c,r.2.1,r.2.2):=hm.trans (congrArg (fun z=>some (z,r.2)) ho)
   rw [hm] at e
   have k:=ev_inj (o:=.err c) e
   exact h2 c (hm.trans (congrArg some (congrArg (Prod.mk (Res.err c)) (congr (congrArg Prod.mk k.2.1) k.2.2)))) k.1.symm
theorem rt_goal {b:β} {σ σ':Wt} {out:Res β} {ps:List Prop} {G:(α→Shared→Prop)→(Value→Shared→Prop)→Prop} (e:rt b σ=some (out,σ',ps)) (g:Goal prog w LI env cv L F R (.ok b) σ.ab φ ca s G):Goal prog w LI env cv L F R out σ'.ab φ ca s G :=
 ev_sub (P:=fun out σ' _=>Goal prog w LI env cv L F R out σ'.ab φ ca s G) e g
theorem ev_goal {o:Res β} {σ₁ σ':Wt} {p:List Prop} {out:Res β} {ps:List Prop} {G:(α→Shared→Prop)→(Value→Shared→Prop)→Prop} (e:some (o,σ₁,p)=some (out,σ',ps)) (hp:AllP ps) (g:AllP p→Goal prog w LI env cv L F R o σ₁.ab φ ca s G):Goal prog w LI env cv L F R out σ'.ab φ ca s G :=
 ev_sub (P:=fun out σ' ps=>AllP ps→Goal prog w LI env cv L F R out σ'.ab φ ca s G) e g hp
theorem Goal.seq {m:Ev β} {f:β→Wt→Ev β'} {out:Res β'} {σ':Wt} {ps:List Prop} {t:Sem α} {K:α→Shared→(α'→Shared→Prop)→(Value→Shared→Prop)→Prop}
  (e:bnd m f=some (out,σ',ps)) (hp:AllP ps)
  (h1:∀ o σ₁ p,m=some (o,σ₁,p)→AllP p→Goal prog w LI env cv L F R o σ₁.ab φ ca s (fun Q E=>wpAny (model prog w) A t Q E s))
  (h2:∀ b σ₁ q,f b σ₁=some (out,σ',q)→AllP q→∀ φ₁ ca₁ s₁ u,Pst prog w LI env cv L F σ₁.ab φ ca s φ₁ ca₁ s₁→R b φ₁ ca₁ u→Goal prog w LI env cv L F R' out σ'.ab φ₁ ca₁ s₁ (fun Q E=>K u s₁ Q E)) :
  Goal prog w LI env cv L F R' out σ'.ab φ ca s (fun Q E=>wpAny (model prog w) A t (fun u s₁=>K u s₁ Q E) E s) :=
 fun Q E k1 k2=>bnd_elim e
  (fun b σ₁ p q hm hf hps =>
   have hq:=AllP.app (hps▸hp)
   h1 _ _ _ hm hq.1 _ _ (fun b' φ₁ ca₁ u s₁ eo pst r=>Goal.after pst (h2 b σ₁ q hf hq.2 _ _ _ _ pst (Res.ok.inj eo▸r)) Q E k1 k2) fun _ _ _ _ _ eo=>n_oe eo)
  fun c hm ho=>h1 _ _ _ hm hp _ _ (fun _ _ _ _ _ eo=>n_eo eo) fun c' φ₁ ca₁ u s₁ eo pst r=>k2 c' φ₁ ca₁ u s₁ (ho.trans (n_er eo)) pst r
theorem bnd_rt {α β:Type} (b:α) (σ:Wt) (f:α→Wt→Ev β) {r:Res β×Wt×List Prop} (e:bnd (rt b σ) f=some r):f b σ=some r :=
 (bnd_ok (out:=r.1) (σ':=r.2.1) (ps:=r.2.2) e).elim fun _ k=>k.1.trans (congrArg (fun z=>some (r.1,r.2.1,z)) k.2.symm)
theorem bnd_optE {α β:Type} {x:Option α} {σ:Wt} {f:α→Wt→Ev β} {r:Res β×Wt×List Prop} (e:bnd (optE x σ) f=some r):∃ b,x=some b∧f b σ=some r:=by
 cases x with
 | none=>exact nsm rfl e
 | some b=>exact ⟨b,rfl,bnd_rt b σ f e⟩
theorem Goal.ok_ {b:β} {σ':Ab} {G:(α→Shared→Prop)→(Value→Shared→Prop)→Prop} (g:Goal prog w LI env cv L F R (.ok b) σ' φ ca s G) {Q:α→Shared→Prop} {E:Value→Shared→Prop} (k:∀ φ' ca' v s',Pst prog w LI env cv L F σ' φ ca s φ' ca' s'→R b φ' ca' v→Q v s'):G Q E :=
 g Q E (fun _ φ' ca' v s' eo p r=>k φ' ca' v s' p (Res.ok.inj eo▸r)) fun _ _ _ _ _ eo=>n_oe eo
theorem Goal.er_ {c:V} {σ':Ab} {G:(α→Shared→Prop)→(Value→Shared→Prop)→Prop} (g:Goal prog w LI env cv L F R (.err c) σ' φ ca s G) {Q:α→Shared→Prop} {E:Value→Shared→Prop}
  (k:∀ φ' ca' e s',Pst prog w LI env cv L F σ' φ ca s φ' ca' s'→Ex prog w LI (some L) φ' s.heap c e s'.heap→E e s'):G Q E :=
 g Q E (fun _ _ _ _ _ eo=>n_eo eo) fun _ φ' ca' e s' eo p r=>k φ' ca' e s' p (Res.err.inj eo▸r)
theorem lookI_mem {D C:Nat} {b:Bool}:∀ {l:List (Nat×Nat×Bool)},lookI l D C=some b→(D,C,b)∈l:=by
 intro l
 induction l with
 | nil=>exact fun h=>nsm rfl h
 | cons p r ih =>
  intro h
  replace h:(if (Nat.beq p.1 D&&Nat.beq p.2.1 C)=true then some p.2.2 else lookI r D C)=some b:=h
  by_cases q:(Nat.beq p.1 D&&Nat.beq p.2.1 C)=true
  ·rw [if_pos q] at h
   rw [Bool.and_eq_true] at q
   rw [←Nat.eq_of_beq_eq_true q.1,← Nat.eq_of_beq_eq_true q.2,← Option.some.inj h];exact .head _
  ·rw [if_neg q] at h;exact .tail _ (ih h)
theorem lookM_mem {D:Nat} {y:Str} {f:Nat}:∀ {l:List (Nat×Str×Nat)},lookM l D y=some f→(D,y,f)∈l:=by
 intro l
 induction l with
 | nil=>exact fun h=>nsm rfl h
 | cons p r ih =>
  intro h
  replace h:(if (Nat.beq p.1 D&&p.2.1==y)=true then some p.2.2 else lookM r D y)=some f:=h
  by_cases q:(Nat.beq p.1 D&&p.2.1==y)=true
  ·rw [if_pos q] at h
   rw [Bool.and_eq_true] at q
   rw [←Nat.eq_of_beq_eq_true q.1,← eq_of_beq q.2,← Option.some.inj h];exact .head _
  ·rw [if_neg q] at h;exact .tail _ (ih h)
theorem lookA_mem {D:Nat} {y:Str}:∀ {l:List (Nat×Str)},lookA l D y=true→(D,y)∈l:=by
 intro l
 induction l with
 | nil=>exact fun h=>absurd h Bool.false_ne_true
 | cons p r ih =>
  intro h
  replace h:(Nat.beq p.1 D&&p.2==y||lookA r D y)=true:=h
  rw [Bool.or_eq_true,Bool.and_eq_true] at h
  exact h.elim (fun q=>by rw [←Nat.eq_of_beq_eq_true q.1,← eq_of_beq q.2];exact .head _) fun q=>.tail _ (ih q)
theorem lookup_mem {β:Type} {x:Str} {v:β}:∀ {l:List (Str×β)},l.lookup x=some v→(x,v)∈l:=by
 intro l
 induction l with
 | nil=>exact fun h=>nsm rfl h
 | cons p r ih =>
  intro h
  rw [List.lookup_cons] at h
  cases q:(x==p.1) with
  | true=>rw [q] at h;rw [eq_of_beq q,← Option.some.inj h];exact .head _
  | false=>rw [q] at h;exact .tail _ (ih h)
end
theorem fn_ok (P:Params):(fnL.all fun a=>keepIn (K P) (.ref a))=true:=by kernel_rfl
noncomputable def isOk (P:Params) (p:Nat×Nat×Bool):Bool:=if p.2.2 then isIn (K P) (.ref p.1) p.2.1 else
 kin_not (K P) p.1 p.2.1&&plainGet (K P) p.1 "__class__" && hasDictIn (K P) p.1&&(findIn (K P) (.ref p.1) "__class__"== some (some (.builtin "object.__class__")))&&(mroIn (K P) p.1 (.type "object")==some true)
theorem is_ok (P:Params):isiL.all (isOk P)=true:=by kernel_rfl
theorem sp_ok (P:Params):specialIn (K P) (.builtin "object.__class__") "__get__"= some (some (.builtin "getset_descriptor.__get__")):=by kernel_rfl
theorem tk_ok (P:Params):takesIn (K P) (.builtin "object.__class__")=some true:=by kernel_rfl
section
variable (prog:Program) (w:World) (LI:Nat→Option LamInfo) (Γ:Gam)
def SE (rec:Expr→Wt→Ev V):Prop:=∀ A a cl L F outer,Site L F Γ A a cl outer→∀ e σ out σ' ps,rec e σ=some (out,σ',ps)→AllP ps →
 ∀ φ ca s,At prog w LI (eN Γ L a cl) Γ.cv L F σ.ab φ ca s→Goal prog w LI (eN Γ L a cl) Γ.cv L F (RVr prog w LI) out σ'.ab φ ca s (fun Q E=>wpAny (model prog w) A (eval e (eN Γ L a cl)) Q E s)
def ST (rec:Expr→Wt→Ev Bool):Prop:=∀ A a cl L F outer,Site L F Γ A a cl outer→∀ e σ out σ' ps,rec e σ=some (out,σ',ps)→AllP ps →
 ∀ φ ca s,At prog w LI (eN Γ L a cl) Γ.cv L F σ.ab φ ca s→Goal prog w LI (eN Γ L a cl) Γ.cv L F RBr out σ'.ab φ ca s (fun Q E=>wpAny (model prog w) A (isTrue e (eN Γ L a cl) (eval e (eN Γ L a cl))) Q E s)
end
section
variable {prog:Program} {w:World} {LI:Nat→Option LamInfo} {Γ:Gam} {A:Around} {a:Addr} {cl:List (Str×Addr)} {L:Addr} {F:List Addr} {outer:List Env} {φ:Mp} {ca:List Addr} {s:Shared}
theorem nameV_elim {P:Prop} {x:Str} {σ:Wt} {v:V} (e:nameV Γ x σ=some v) (h1:Γ.cs.names.lookup x=some .local→(x==("__debug__": Str))=false→σ.loc.lookup x=some v→P)
  (h2:Γ.cs.names.lookup x=some .cell→(x==("__debug__": Str))=false→Γ.cv.lookup x=some v→P) (h3:Γ.cs.names.lookup x=some .free→(x==("__debug__": Str)||x==("__classdict__": Str))=false→Γ.cv.lookup x=some v→P)
  (h4:Γ.cs.names.lookup x=some .globalImplicit→gl.lookup x=some v→P):P:=by
 unfold nameV at e
 cases hk:Γ.cs.names.lookup x with
 | none=>rw [hk] at e;exact nsm rfl e
 | some k =>
  rw [hk] at e
  cases k with
  | «local»=>have e:=ifn e;exact h1 hk e.1 e.2
  | cell=>have e:=ifn e;exact h2 hk e.1 e.2
  | free=>have e:=ifn e;exact h3 hk e.1 e.2
  | globalImplicit=>exact h4 hk e
  | _=>exact nsm rfl e
theorem strv_is {o:Option Value} {t:Str} (ok:isStrv t o=true):∃ tk,o=some (.str t tk):=by
 cases o with
 | none=>exact absurd ok Bool.false_ne_true
 | some u=>cases u<;>first | exact ⟨_,congrArg (fun z=>some (Value.str z _)) (beq_iff_eq.mp ok)⟩ | exact absurd ok Bool.false_ne_true
theorem gl_elim {P:Params} {x:Str} {v:V} {Q:V→Prop} (ok:glOk P (x,v)=true) (h1:∀ c,gfind P 3 x=some (.ref c)→Q (.fn c)) (h2:∀ t tk,gfind P 3 x=some (.str t tk)→Q (.str t))
  (h3:∀ n,gfind P 3 x=none→gfind P 0 x=some (.builtin n)→Q (.bi n)) (h4:∀ n,gfind P 3 x=none→gfind P 0 x=some (.type n)→Q (.ty n)):(x==("__debug__": Str))=false∧Q v:=by
 have ok:=Bool.and_eq_true_iff.mp ok
 refine ⟨(Bool.not_eq_true' _).mp ok.1,?_⟩
 replace ok:glOk2 P x v=true:=ok.2
 cases v with
 | fn c=>exact h1 c (beq_iff_eq.mp ok)
 | bi n=>have ok:=Bool.and_eq_true_iff.mp ok;exact h3 n (beq_iff_eq.mp ok.1) (beq_iff_eq.mp ok.2)
 | ty n=>have ok:=Bool.and_eq_true_iff.mp ok;exact h4 n (beq_iff_eq.mp ok.1) (beq_iff_eq.mp ok.2)
 | str t =>
  exact (strv_is (o:=gfind P 3 x) ok).elim fun tk q=>h2 t tk q
 | _=>exact absurd ok Bool.false_ne_true
theorem name_sound (S:Site L F Γ A a cl outer) {x:Str} {pos:Pos} {σ:Wt} {v:V} (e:nameV Γ x σ=some v) (h:At prog w LI (eN Γ L a cl) Γ.cv L F σ.ab φ ca s) :
  Goal prog w LI (eN Γ L a cl) Γ.cv L F (RVr prog w LI) (.ok v) σ.ab φ ca s (fun Q E=>wpAny (model prog w) A (eval (.Name x pos) (eN Γ L a cl)) Q E s):=by
 refine nameV_elim e (fun hk hd e=>?_) (fun hk hd e=>?_) (fun hk hd e=>?_) fun hk e=>?_
 ·exact h.fr.elim fun m k=>(k.2 x v e).elim fun u q=>(Goal.now h rfl (SameX.refl s) q.2).map fun Q E z=>wpAny_Name (wpAny_loadName_local (env:=eN Γ L a cl) S.kd hk k.1 q.1 z) hd
 ·exact (h.cv x v e).elim fun c k=>k.elim fun o k=>k.elim fun u k=>(Goal.now h rfl (SameX.refl s) k.2.2.2).map fun Q E z=>wpAny_Name (wpAny_loadName_cell (env:=eN Γ L a cl) S.kd hk k.1 ⟨o,h.hp.fz _ _ k.2.1,k.2.2.1⟩ z) hd
 ·have hd:=Bool.or_eq_false_iff.mp hd
  exact (h.cv x v e).elim fun c k=>k.elim fun o k=>k.elim fun u k=>(Goal.now h rfl (SameX.refl s) k.2.2.2).map fun Q E z=>wpAny_Name (wpAny_loadName_free (env:=eN Γ L a cl) S.kd hk k.1 ⟨o,h.hp.fz _ _ k.2.1,k.2.2.1⟩ z hd.2) hd.1
 ·have G3:=gns h.kin (g3 w.params)
  have G0:=gns h.kin (g0 w.params)
  have k:=gl_elim (Q:=fun v=>∃ u,RV prog w LI φ ca v u∧∀ Q E,Q u s→wpAny (model prog w) A (loadGlobal (eN Γ L a cl) x) Q E s) (List.all_eq_true.mp (gl_ok w.params) _ (lookup_mem e))
   (fun c q=>⟨_,.fn,fun Q E=>loadGlobal_global (env:=eN Γ L a cl) G3 q⟩) (fun t tk q=>⟨_,.str,fun Q E=>loadGlobal_global (env:=eN Γ L a cl) G3 q⟩) (fun n q q2=>⟨_,.bi,fun Q E=>loadGlobal_builtin (env:=eN Γ L a cl) G3 q G0 q2⟩) fun n q q2=>⟨_,.ty,fun Q E=>loadGlobal_builtin (env:=eN Γ L a cl) G3 q G0 q2⟩
  exact k.2.elim fun u q=>(Goal.now h rfl (SameX.refl s) q.1).map fun Q E z=>Name_function_global (env:=eN Γ L a cl) S.kd hk (q.2 _ _ z) k.1
theorem attrV_op {env:Env} {cv:List (Str×V)} {σ:Ab} {o v:V} {ov:Value} {x:Str} {expr:Bool} (e:attrV o x=some v) (h:At prog w LI env cv L F σ φ ca s) (r:RV prog w LI φ ca o ov) :
  Goal prog w LI env cv L F (RVr prog w LI) (.ok v) σ φ ca s (fun Q E=>wpAny (model prog w) A (getAttr ov x expr) Q E s):=by
 refine (Option.bind_eq_some_iff.mp e).elim fun p q=>?_
 have e:=ifs (b:=lookA attrL p.1 x) q.2
 exact fun Q E k1 _=>attr_op h r q.1 e.2 (lookA_mem e.1) fun u s' he hx r'=>k1 _ _ _ _ _ rfl (Pst.to h he hx) r'
theorem Hp.sub {F:List Addr} {φ:Mp} {ca:List Addr} {cells:List Cell} {h:Heap} (x:Hp prog w LI F φ ca cells h):Hp prog w LI F φ [] [] h :=
 ⟨x.fz,x.kk,fun P hP=>⟨(x.tab P hP).1,nofun,(x.tab P hP).2.2⟩,rfl,List.nodup_nil,fun i c a e=>nsm rfl e,x.frs⟩
theorem cel_step {M F:List Addr} {φ':Mp} {h h':Heap} {x:Addr} {c:Cell} (q:x∉F∧∃ o,h.get? x=some o∧(c=.gone∨(φ x=none∧RC prog w LI φ ca c o))) (st:Stp M F φ h φ' h') (hM:x∉M) (hT:x∉tabA) :
  x∉F∧∃ o,h'.get? x=some o∧(c=.gone∨(φ' x=none∧RC prog w LI φ' ca c o)) :=
 ⟨q.1,q.2.imp fun o k=>⟨st.keep x o k.1 hM q.1 hT,k.2.imp id fun z=>⟨opt_none fun o' y=>(st.new x o' y).elim (nsm z.1) fun w=>nsm w k.1,z.2.mono st.le (List.prefix_refl _)⟩⟩⟩
theorem Hp.notab {F:List Addr} {cells:List Cell} {h:Heap} (x:Hp prog w LI F φ ca cells h) {i:Nat} {b:Addr} (e:ca[i]?=some b):b∉tabA:=fun z=>(x.tab b z).2.1 (List.mem_of_getElem? e)
theorem Hp.ne {F:List Addr} {cells:List Cell} {h:Heap} (x:Hp prog w LI F φ ca cells h) {i k:Nat} {a b:Addr} (e1:ca[i]?=some a) (e2:ca[k]?=some b) (q:i≠k):a≠b:=fun z =>
 (List.getElem?_eq_some_iff.mp e1).elim fun _ b1=>(List.getElem?_eq_some_iff.mp e2).elim fun _ b2=>q ((List.getElem_inj x.nd).mp (b1.trans (z.trans b2.symm)))
theorem Pst.of_callA {env:Env} {cv:List (Str×V)} {σ:Ab} {φ':Mp} {s':Shared} (h:At prog w LI env cv L F σ φ ca s) (st:Stp [] (L::F) φ s.heap φ' s'.heap) (hp:Hp prog w LI (L::F) φ' [] [] s'.heap) (sx:SameX s s') :
  Pst prog w LI env cv L F σ φ ca s φ' ca s' :=
 Pst.of_call h ⟨st.le,st.new,st.alive,fun b o e _ h2 h3=>st.keep b o e nofun h2 h3,st.up⟩
  ⟨hp.fz,hp.kk,fun P hP=>⟨(hp.tab P hP).1,(h.hp.tab P hP).2.1,(hp.tab P hP).2.2⟩,h.hp.len,h.hp.nd,fun i c b e1 e2=>cel_step (h.hp.cel i c b e1 e2) st nofun (h.hp.notab e2),hp.frs⟩ sx
theorem Pst.of_callB {env:Env} {cv:List (Str×V)} {σ:Ab} {φ':Mp} {s':Shared} {k:Nat} {b:Addr} {c':Cell} (h:At prog w LI env cv L F σ φ ca s) (hb:ca[k]?=some b) (hc:CloC c') (st:Stp [b] (L::F) φ s.heap φ' s'.heap) (hp:Hp prog w LI (L::F) φ' [b] [c'] s'.heap) (sx:SameX s s') :
  Pst prog w LI env cv L F ⟨σ.loc,σ.cells.set k c'⟩ φ ca s φ' ca s':=by
 refine Pst.of_call h ⟨st.le,st.new,st.alive,fun x o e h1 h2 h3=>st.keep x o e (fun z=>h1 (List.mem_singleton.mp z▸List.mem_of_getElem? hb)) h2 h3,st.up⟩
  ⟨hp.fz,hp.kk,fun P hP=>⟨(hp.tab P hP).1,(h.hp.tab P hP).2.1,(hp.tab P hP).2.2⟩,by rw [List.length_set];exact h.hp.len,h.hp.nd,fun i c x e1 e2=>?_,hp.frs⟩ sx
 by_cases q:i=k
 ·rw [q] at e1 e2
  have hi:=(List.getElem?_eq_some_iff.mp e1).1
  rw [List.length_set] at hi
  rw [List.getElem?_set_self hi] at e1
  rw [smi e2 hb,← Option.some.inj e1]
  have t:=hp.cel 0 _ _ rfl rfl
  exact ⟨t.1,t.2.imp fun o k=>⟨k.1,k.2.imp id fun z=>⟨z.1,(hc _ _ _ _ _ _ z.2).mono (Mp.le.refl _) List.nil_prefix⟩⟩⟩
 ·rw [List.getElem?_set_ne (Ne.symm q)] at e1
  exact cel_step (h.hp.cel i c x e1 e2) st (fun z=>h.hp.ne e2 hb q (List.mem_singleton.mp z)) (h.hp.notab e2)
theorem callV_elim {P:Res V→Wt→List Prop→Prop} {f:V} {args:List V} {σ σ':Wt} {out:Res V} {ps:List Prop} (e:callV prog w LI Γ f args σ=some (out,σ',ps))
  (h1:∀ o t,f.clo=true→args.all V.clo=true→P o ⟨σ.loc,σ.cells,t⟩ [Con prog w LI Γ.n f [] args [] o []])
  (h2:∀ k c o c' t,σ.cells[k]?=some c→f.clo=true→args.all (V.subOk k)=true→o.clo=true→P o ⟨σ.loc,σ.cells.set k c',t⟩ [Con prog w LI Γ.n f [c] (args.map (V.sub k)) [] o [c'],CloC c,CloC c'])
  (h3:∀ o cs t,P o ⟨σ.loc,cs,t⟩ [Con prog w LI Γ.n f σ.cells args [] o cs]) (h4:∀ v cs t,σ.cells=[]→P (.ok v) ⟨σ.loc,cs,t⟩ [ConN prog w LI Γ.n f [] args [] (.ok v) cs]):P out σ' ps:=by
 unfold callV at e
 cases ht:σ.tr with
 | nil=>rw [ht] at e;exact nsm rfl e
 | cons i t =>
  rw [ht] at e
  cases i with
  | c o=>have e:=ifs e;have k:=Bool.and_eq_true_iff.mp e.1;exact ev_sub e.2 (h1 o t k.1 k.2)
  | cc k o c' =>
   cases hk:σ.cells[k]? with
   | none=>replace e:(match σ.cells[k]? with | some c=>_ | none=>none)=some (out,σ',ps):=e;rw [hk] at e;exact nsm rfl e
   | some c =>
    replace e:(match σ.cells[k]? with | some c=>if f.clo&&args.all (V.subOk k)&&o.clo then some (o,(⟨σ.loc,σ.cells.set k c',t⟩:Wt),[Con prog w LI Γ.n f [c] (args.map (V.sub k)) [] o [c'],CloC c,CloC c']) else none | none=>none)=some (out,σ',ps):=e
    rw [hk] at e
    have e:=ifs e
    have q:=Bool.and_eq_true_iff.mp e.1
    have q1:=Bool.and_eq_true_iff.mp q.1
    exact ev_sub e.2 (h2 k c o c' t hk q1.1 q1.2 q.2)
  | ca o cs=>exact ev_sub e (h3 o cs t)
  | cn v cs=>have e:=ifs e;exact ev_sub e.2 (h4 v cs t (List.isEmpty_iff.mp e.1))
  | _=>exact nsm rfl e
theorem callV_sound (S:Site L F Γ A a cl outer) {A':Around} (ok:Okk Γ.n A') (fr:A'.frames=A.frames) {f:V} {args:List V} {vf:Value} {us:List Value} {σ σ':Wt} {out:Res V} {ps:List Prop}
  (e:callV prog w LI Γ f args σ=some (out,σ',ps)) (hp:AllP ps) (h:At prog w LI (eN Γ L a cl) Γ.cv L F σ.ab φ ca s) (rf:RV prog w LI φ ca f vf) (ra:RVs prog w LI φ ca args us) :
  Goal prog w LI (eN Γ L a cl) Γ.cv L F (RVr prog w LI) out σ'.ab φ ca s (fun Q E=>wpAny (model prog w) A' (call vf us []) Q E s):=by
 have fe:FunE (eN Γ L a cl::outer) (L::F):=⟨by show Γ.cs.kind≠_;rw [S.kd];decide,rfl,h.LF,S.fe⟩
 revert hp
 refine callV_elim (P:=fun out σ' ps=>AllP ps→Goal prog w LI (eN Γ L a cl) Γ.cv L F (RVr prog w LI) out σ'.ab φ ca s (fun Q E=>wpAny (model prog w) A' (call vf us []) Q E s)) e (fun o t c1 c2 hp Q E k1 k2=>?_) (fun k c o c' t hk c1 c2 c3 hp Q E k1 k2=>?_) (fun o cs t hp Q E k1 k2=>?_) fun v cs t hc hp Q E k1 k2=>?_
 ·exact wpAny_call (hp.1 A' _ (L::F) φ [] s vf us [] ok (fr.trans S.fr) fe h.hp.sub (clo_clo c1 _ _ _ _ _ _ rf) (clo_all c2 _ _ _ _ _ _ ra) .nil Q E (fun b φ' v s' eo st hq sx r=>k1 b φ' ca v s' eo (Pst.of_callA h st hq sx) (r.mono (Mp.le.refl _) List.nil_prefix)) fun c φ' v s' eo st hq sx r=>k2 c φ' ca v s' eo (Pst.of_callA h st hq sx) r.inn)
 ·have hlt:=(List.getElem?_eq_some_iff.mp hk).1
  have hb:=List.getElem?_eq_getElem (l:=ca) (i:=k) (by rw [h.hp.len];exact hlt)
  generalize ca[k]'_=b at hb
  have hp1:Hp prog w LI (L::F) φ [b] [c] s.heap:=by
   refine ⟨h.hp.fz,h.hp.kk,fun P hP=>⟨(h.hp.tab P hP).1,fun z=>(h.hp.tab P hP).2.1 (List.mem_singleton.mp z▸List.mem_of_getElem? hb),(h.hp.tab P hP).2.2⟩,rfl,List.nodup_cons.mpr ⟨nofun,List.nodup_nil⟩,fun i c₂ x e1 e2=>?_,h.hp.frs⟩
   cases i with
   | succ i=>exact nsm rfl e1
   | zero =>
    rw [←Option.some.inj e1,← Option.some.inj e2]
    have t:=h.hp.cel k _ _ hk hb
    exact ⟨t.1,t.2.imp fun o q=>⟨q.1,q.2.imp id fun z=>⟨z.1,(hp.2.1 _ _ _ _ _ _ z.2).mono (Mp.le.refl _) List.nil_prefix⟩⟩⟩
  exact wpAny_call (hp.1 A' _ (L::F) φ [b] s vf us [] ok (fr.trans S.fr) fe hp1 ((clo_clo c1 _ _ _ _ _ _ rf).mono (Mp.le.refl _) List.nil_prefix) (sub_all hb c2 ra) .nil Q E
   (fun v φ' u s' eo st hq sx r=>k1 v φ' ca u s' eo (Pst.of_callB h hb hp.2.2.1 st hq sx) ((clo_clo (by rw [eo] at c3;exact c3) _ _ _ _ _ _ r).mono (Mp.le.refl _) List.nil_prefix)) fun c φ' u s' eo st hq sx r=>k2 c φ' ca u s' eo (Pst.of_callB h hb hp.2.2.1 st hq sx) r.inn)
 ·exact wpAny_call (hp.1 A' _ (L::F) φ ca s vf us [] ok (fr.trans S.fr) fe h.hp rf ra .nil Q E (fun b φ' v s' eo st hq sx r=>k1 b φ' ca v s' eo (Pst.of_call h st hq sx) r) fun c φ' v s' eo st hq sx r=>k2 c φ' ca v s' eo (Pst.of_call h st hq sx) r.inn)
 ·have h0:Hp prog w LI (L::F) φ ca [] s.heap:=hc▸h.hp
  exact wpAny_call (hp.1 A' _ (L::F) φ ca s vf us [] ok (fr.trans S.fr) fe h0 rf ra .nil Q E (fun b φ' ca' v s' eo pre fresh st hq sx r=>k1 b φ' ca' v s' eo (Pst.of_callN h pre fresh st hq sx) r) fun c φ' v s' eo=>n_oe eo)
theorem starEach_cons {e:Expr} {es:List Expr} {env:Env} (h:isStar e=false):starEach (e::es) env=(false,eval e env)::starEach es env:=by
 cases e<;>first | rfl | cases h
theorem evS_sound {rec:Expr→Wt→Ev V} (H:SE prog w LI Γ rec) (S:Site L F Γ A a cl outer) {pos:Pos} {es:List Expr}:∀ {σ σ':Wt} {out:Res (List V)} {ps:List Prop},evS rec es σ=some (out,σ',ps)→AllP ps →
  ∀ {φ ca s},At prog w LI (eN Γ L a cl) Γ.cv L F σ.ab φ ca s→Goal prog w LI (eN Γ L a cl) Γ.cv L F (RVSr prog w LI) out σ'.ab φ ca s (fun Q E=>wpAny (model prog w) A (spliced (backTo pos (starEach es (eN Γ L a cl)))) Q E s):=by
 have fin:∀ {b:List V} {us:List Value} {σ σ':Wt} {out:Res (List V)} {ps:List Prop} {φ ca s},rt b σ=some (out,σ',ps)→At prog w LI (eN Γ L a cl) Γ.cv L F σ.ab φ ca s→RVs prog w LI φ ca b us→Goal prog w LI (eN Γ L a cl) Γ.cv L F (RVSr prog w LI) out σ'.ab φ ca s (fun Q _=>Q us s):=fun {b us σ σ' out ps φ ca s} e h r=>ev_sub (P:=fun out σ' _=>Goal prog w LI (eN Γ L a cl) Γ.cv L F (RVSr prog w LI) out σ'.ab φ ca s (fun Q _=>Q us s)) e (Goal.now h rfl (SameX.refl _) r)
 induction es with
 | nil=>exact fun e _ _ _ _ h=>(fin e h .nil).map fun Q E q=>spliced_nil q
 | cons x es ih =>
  intro σ σ' out ps e hp φ ca s h
  have e:=ifn e
  rw [starEach_cons e.1]
  exact (Goal.seq e.2 hp (fun o σ₁ p e1 hp1=>H A a cl L F outer S x σ o σ₁ p e1 hp1 φ ca s h) (K:=fun u s₁ Q E=>wpAny (model prog w) A (spliced (backTo pos (starEach es (eN Γ L a cl)))) (fun vs s₂=>Q (u::vs) s₂) E s₁) fun b σ₁ q e2 hq φ₁ ca₁ s₁ u pst r =>
   Goal.seq e2 hq (fun o σ₂ p e1 hp1=>ih e1 hp1 pst.at_) (K:=fun vs s₂ Q E=>Q (u::vs) s₂) fun bs σ₂ q₂ e3 hq₂ φ₂ ca₂ s₂ us pst₂ rs=>fin e3 pst₂.at_ (RVs.cons (r.mono pst₂.stp.le pst₂.pre) rs)).map fun Q E q=>spliced_cons q
def KeepOk (h:Heap) (f:Value):Prop:=∃ k,(k=Keeper.frame∨k=Keeper.machine∨k=Keeper.boundFrame)∧∀ M,Looks M h (keeperOf f) k
theorem keep_K {P:Params} {h:Heap} {f:Value} (k:KIn P h) (e:keepIn (K P) f=true):∃ k,(k=Keeper.frame∨k=Keeper.machine∨k=Keeper.boundFrame)∧Looks (model prog w) h (keeperOf f) k:=keeps_K e h k
end
section
variable {prog:Program} {w:World} {LI:Nat→Option LamInfo} {Γ:Gam} {A:Around} {a:Addr} {cl:List (Str×Addr)} {L:Addr} {F:List Addr} {outer:List Env} {φ:Mp} {ca:List Addr} {s:Shared}
 {α' β':Type} {R':β'→Mp→List Addr→α'→Prop}
theorem plain_of {env:Env} {pos:Pos}:∀ {es:List Expr},es.any isStar=false→(backTo pos (starEach es env)).any (·.1)=false
 | [],_=>rfl
 | e::es,h=>by
  rw [List.any_cons,Bool.or_eq_false_iff] at h
  rw [starEach_cons h.1]
  show (false||(backTo pos (starEach es env)).any (·.1))=false
  rw [plain_of h.2];rfl
def Keeps (prog:Program) (w:World) (vf:Value) (h:Heap):Prop:=∃ k,(k=Keeper.frame∨k=Keeper.machine∨k=Keeper.boundFrame)∧Looks (model prog w) h (keeperOf vf) k
theorem callWith_sound {rec:Expr→Wt→Ev V} (H:SE prog w LI Γ rec) (S:Site L F Γ A a cl outer) {vf:Value} {first:List Value} {pos:Pos} {es:List Expr} {f:List V→Wt→Ev V} {σ σ':Wt} {out:Res V} {ps:List Prop}
  (e:bnd (evA rec es σ) f=some (out,σ',ps)) (hp:AllP ps) (h:At prog w LI (eN Γ L a cl) Γ.cv L F σ.ab φ ca s)
  (hk:∀ σ₁ φ₁ ca₁ s₁,Pst prog w LI (eN Γ L a cl) Γ.cv L F σ₁ φ ca s φ₁ ca₁ s₁→Keeps prog w vf s₁.heap)
  (h2:∀ vs σ₁ q,f vs σ₁=some (out,σ',q)→AllP q→∀ φ₁ ca₁ s₁ us,Pst prog w LI (eN Γ L a cl) Γ.cv L F σ₁.ab φ ca s φ₁ ca₁ s₁→RVs prog w LI φ₁ ca₁ vs us →
   Goal prog w LI (eN Γ L a cl) Γ.cv L F (RVr prog w LI) out σ'.ab φ₁ ca₁ s₁ (fun Q E=>wpAny (model prog w) A (call vf (first++us)) Q E s₁)) :
  Goal prog w LI (eN Γ L a cl) Γ.cv L F (RVr prog w LI) out σ'.ab φ ca s (fun Q E=>wpAny (model prog w) A (callWith pos vf first (backTo pos (starEach es (eN Γ L a cl))) []) Q E s):=by
 have hs:es.any isStar=false:=by
  cases q:es.any isStar with
  | false=>rfl
  | true=>unfold evA at e;rw [q] at e;cases e
 have e':bnd (evS rec es σ) f=some (out,σ',ps):=by unfold evA at e;rw [hs] at e;exact e
 have main:Goal prog w LI (eN Γ L a cl) Γ.cv L F (RVr prog w LI) out σ'.ab φ ca s (fun Q E=>wpAny (model prog w) A (spliced (backTo pos (starEach es (eN Γ L a cl)))) (fun us s₁=>Keeps prog w vf s₁.heap∧wpAny (model prog w) A (call vf (first++us)) Q E s₁) E s):=by
  refine Goal.seq e' hp (fun o σ₁ p e1 hp1=>evS_sound H S e1 hp1 h) (K:=fun us s₁ Q E=>Keeps prog w vf s₁.heap∧wpAny (model prog w) A (call vf (first++us)) Q E s₁) ?_
  intro vs σ₁ q e2 hq φ₁ ca₁ s₁ us pst r
  exact fun Q E k1 k2=>⟨hk _ _ _ _ pst,h2 vs σ₁ q e2 hq φ₁ ca₁ s₁ us pst r Q E k1 k2⟩
 refine main.map fun Q E q=>?_
 refine callWith_of (P:=Keeps prog w vf) (by rw [plain_of hs];rfl) (fun h p=>p) ?_
 cases es with
 | nil =>
  have q':wpAny (model prog w) A (spliced []) (fun us s₁=>Keeps prog w vf s₁.heap∧wpAny (model prog w) A (call vf (first++us)) Q E s₁) E s:=q
  intro Γ' p' hΓ
  have:=q' Γ' p' hΓ
  exact (evalArgs_nil3 (Q:=fun (a:Args) s₁=>Keeps prog w vf s₁.heap∧wpAny (model prog w) A (call vf (first++a.pos) a.kw) Q E s₁) this) Γ' p' hΓ
 | cons x r =>
  rw [List.any_cons,Bool.or_eq_false_iff] at hs
  rw [starEach_cons hs.1] at q ⊢
  exact evalArgs_plain q
theorem bnd_some {α β:Type} {m:Ev α} {f:α→Wt→Ev β} {r:Res β×Wt×List Prop} (e:bnd m f=some r):m.isSome=true:=by
 cases m with
 | none=>cases e
 | some x=>rfl
theorem isi_op {v:V} {u:Value} {D C:Nat} {b:Bool} {fs:List (Str×V)} {σ:Ab} {env:Env} {cv:List (Str×V)} (hD:v.inst=some (D,fs)) (hl:lookI isiL D C=some b) (h:At prog w LI env cv L F σ φ ca s) (r:RV prog w LI φ ca v u) :
  Goal prog w LI env cv L F (RVr prog w LI) (.ok (.bool b)) σ φ ca s (fun Q E=>wpAny (model prog w) A (call (.builtin "isinstance") [u,.ref C]) Q E s):=by
 obtain ⟨x,dx,es,n,rfl,h1,h2,h3⟩:=r.inst_inv hD
 have ok:=List.all_eq_true.mp (is_ok w.params) _ (lookI_mem hl)
 have I:=instAt_of h.hp h1 h2
 unfold isOk at ok
 cases b with
 | true =>
  simp only [if_true] at ok
  exact (Goal.now h rfl (SameX.refl s) RV.bool).map fun Q E q=>isi_call h.kin (fun M=>I.type) ok (by intro z;cases z) q
 | false =>
  simp only [Bool.false_eq_true,if_false] at ok
  rw [Bool.and_eq_true,Bool.and_eq_true,Bool.and_eq_true,Bool.and_eq_true] at ok
  obtain ⟨⟨⟨⟨o1,o2⟩,o3⟩,o4⟩,o5⟩:=ok
  exact (Goal.now (s':={ s with toks:=s.toks+1 }) h rfl ⟨rfl,rfl,rfl⟩ RV.bool).map fun Q E q =>
   kin_callC h.kin I o1 o2 o3 (beq_iff_eq.mp o4) (sp_ok _) (tk_ok _) (beq_iff_eq.mp o5) q
end
def cmpL:List (Nat×Nat×Nat):=[(129,129,112),(426,426,386),(426,514,386),(426,578,386),(514,426,471),(514,514,471),(514,578,471),(578,426,471),(578,514,471),(578,578,471)]
noncomputable def cmpOk (P:Params) (p:Nat×Nat×Nat):Bool:=notFirst (K P) p.1 (.ref p.2.1)&&(findIn (K P) (.ref p.1) (cmpInfo .Eq).2.1==some (some (.ref p.2.2)))&&isFn (K P) (.ref p.2.2)
theorem cmp_ok (P:Params):cmpL.all (cmpOk P)=true:=by kernel_rfl
theorem blt_lt {a b:Nat} (h:Nat.blt a b=true):a<b:=Nat.le_of_ble_eq_true h
section
variable {prog:Program} {w:World} {LI:Nat→Option LamInfo} {Γ:Gam} {A:Around} {a:Addr} {cl:List (Str×Addr)} {L:Addr} {F:List Addr} {outer:List Env} {φ:Mp} {ca:List Addr} {s:Shared}
theorem keeps_V (S:Site L F Γ A a cl outer) {f:V} {vf:Value} {σ:Ab} (e:okF f=true) (r:RV prog w LI φ ca f vf) (h:At prog w LI (eN Γ L a cl) Γ.cv L F σ φ ca s):Keeps prog w vf s.heap:=by
 cases f with
 | fn c=>exact (List.any_eq_true.mp e).elim fun b k=>r.inv▸keep_K h.kin (Nat.eq_of_beq_eq_true k.2▸List.all_eq_true.mp (fn_ok w.params) b k.1)
 | lam i caps=>exact r.inv.elim fun f q=>q.elim fun I q=>q.elim fun cl q=>q.elim fun pm q=>q.elim fun c q=>q.elim fun ct q=>q.1▸⟨_,.inl rfl,(Looks.ld (part:=none) (h.hp.fz _ _ q.2.2)).andThen .now⟩
 | bi n=>exact r.inv▸⟨_,.inr (.inl rfl),Looks.of_pure rfl⟩
 | ty n=>exact r.inv▸⟨_,.inr (.inl rfl),Looks.of_pure rfl⟩
 | _=>exact absurd e Bool.false_ne_true
theorem Pst.mono {env:Env} {cv:List (Str×V)} {σ':Ab} {φ':Mp} {ca':List Addr} {s':Shared} (p:Pst prog w LI env cv L F σ' φ ca s φ' ca' s') {v:V} {u:Value} (r:RV prog w LI φ ca v u):RV prog w LI φ' ca' v u:=r.mono p.stp.le p.pre
theorem RVs.uncons {v:V} {vs:List V} {us:List Value} (h:RVs prog w LI φ ca (v::vs) us):∃ u us',us=u::us'∧RV prog w LI φ ca v u∧RVs prog w LI φ ca vs us':=by
 cases h with | cons a b=>exact ⟨_,_,rfl,a,b⟩
theorem RVs.nil_ {us:List Value} (h:RVs prog w LI φ ca [] us):us=[]:=by cases h;rfl
theorem RVs.one {v:V} {us:List Value} (h:RVs prog w LI φ ca [v] us):∃ u,us=[u]∧RV prog w LI φ ca v u :=
 h.uncons.imp fun u k=>k.elim fun us' k=>⟨k.1.trans (congrArg _ k.2.2.nil_),k.2.1⟩
theorem RVs.two {v v':V} {us:List Value} (h:RVs prog w LI φ ca [v,v'] us):∃ u u',us=[u,u']∧RV prog w LI φ ca v u∧RV prog w LI φ ca v' u' :=
 h.uncons.imp fun u k=>k.elim fun us' k=>k.2.2.one.imp fun u' q=>⟨k.1.trans (congrArg _ q.1),k.2.1,q.2⟩
theorem RV.fn_inv {c:Nat} {u:Value} (h:RV prog w LI φ ca (.fn c) u):u=.ref c:=h.inv
theorem RV.bi_inv {c:String} {u:Value} (h:RV prog w LI φ ca (.bi c) u):u=.builtin c:=h.inv
theorem RV.ty_inv {c:String} {u:Value} (h:RV prog w LI φ ca (.ty c) u):u=.type c:=h.inv
theorem RV.str_inv {c:Str} {u:Value} (h:RV prog w LI φ ca (.str c) u):∃ t,u=.str c t:=h.inv
theorem RV.int_inv {c:Int} {u:Value} (h:RV prog w LI φ ca (.int c) u):∃ t,u=.int c t:=h.inv
theorem RV.none_inv {u:Value} (h:RV prog w LI φ ca .none u):u=.none:=h.inv
theorem RV.bool_inv {b:Bool} {u:Value} (h:RV prog w LI φ ca (.bool b) u):u=.bool b:=h.inv
theorem RVs.len {vs:List V}:∀ {us:List Value},RVs prog w LI φ ca vs us→us.length=vs.length:=by
 induction vs with
 | nil=>exact fun h=>h.nil_▸rfl
 | cons v vs ih=>exact fun h=>h.uncons.elim fun _ k=>k.elim fun _ k=>k.1▸congrArg Nat.succ (ih k.2.2)
theorem cell_list {env:Env} {cv:List (Str×V)} {σ:Ab} {k:Nat} {vs:List V} {u:Value} (h:At prog w LI env cv L F σ φ ca s) (hk:σ.cells[k]?=some (.list vs)) (r:RV prog w LI φ ca (.cell k) u) :
  ∃ a us n,u=.ref a∧ca[k]?=some a∧s.heap.get? a=some (listOf us.toArray n)∧RVs prog w LI φ ca vs us :=
 r.inv.elim fun a q=>(h.hp.cel k _ a hk q.2).2.elim fun o t=>(t.2.resolve_left nofun).2.elim fun us e=>e.elim fun n e=>⟨a,us,n,q.1,q.2,e.1▸t.1,e.2⟩
theorem seqV_elim {P:Prop} {v:V} {cs:List Cell} {vs:List V} (e:seqV v cs=some vs) (h1:v.items=some vs→P) (h2:v.elems=some vs→P) (h3:∀ k,v=.cell k→cs[k]?=some (.list vs)→P):P:=by
 refine (Option.or_eq_some_iff.mp e).elim h1 fun k=>(Option.or_eq_some_iff.mp k.2).elim h2 fun k=>?_
 have k:=k.2
 cases v with
 | cell i =>
  replace k:(match cs[i]? with | some (.list vs)=>some vs | _=>none)=some vs:=k
  cases hk:cs[i]? with
  | none=>rw [hk] at k;exact nsm rfl k
  | some c =>
   rw [hk] at k
   cases c with
   | list ws=>exact h3 i rfl (hk.trans (congrArg (fun z=>some (Cell.list z)) (Option.some.inj k)))
   | _=>exact nsm rfl k
 | _=>exact nsm rfl k
theorem lenV_sound {env:Env} {cv:List (Str×V)} {v:V} {u:Value} {σ σ':Wt} {out:Res V} {ps:List Prop} (e:lenV v σ=some (out,σ',ps)) (hp:AllP ps)
  (h:At prog w LI env cv L F σ.ab φ ca s) (r:RV prog w LI φ ca v u) :
  Goal prog w LI env cv L F (RVr prog w LI) out σ'.ab φ ca s (fun Q E=>wpAny (model prog w) A (call (.builtin "len") [u]) Q E s):=by
 unfold lenV at e
 cases hs:seqV v σ.cells with
 | none=>rw [hs] at e;exact nsm rfl e
 | some vs =>
  rw [hs] at e
  refine ev_sub (P:=fun out σ' ps=>AllP ps→Goal prog w LI env cv L F (RVr prog w LI) out σ'.ab φ ca s (fun Q E=>wpAny (model prog w) A (call (.builtin "len") [u]) Q E s)) e (fun hp=>?_) hp
  have fin:∀ us:List Value,us.length=vs.length→(us.toArray.size:Int)=(vs.length:Int):=fun us q=>by rw [List.size_toArray,q]
  have g:∀ {x:Value},(∀ Q E,Q (.int (vs.length:Int) (s.toks+1)) { s with toks:=s.toks+1+1 }→wpAny (model prog w) A (call (.builtin "len") [x]) Q E s)→Goal prog w LI env cv L F (RVr prog w LI) (.ok (.int (vs.length:Int))) σ.ab φ ca s (fun Q E=>wpAny (model prog w) A (call (.builtin "len") [x]) Q E s):=fun q =>
   (Goal.now (s':={ s with toks:=s.toks+1+1 }) h rfl ⟨rfl,rfl,rfl⟩ RV.int).map q
  have sz:∀ us:List Value,us.length=vs.length→us.toArray.size≤9223372036854775807:=fun us q=>by rw [List.size_toArray,q];exact Nat.le_of_lt (Nat.lt_trans hp.1 (by decide))
  have L1:∀ {us:List Value} {a:Addr},s.heap.IsList a us.toArray→us.length=vs.length→∀ Q E,Q (.int (vs.length:Int) (s.toks+1)) { s with toks:=s.toks+1+1 }→wpAny (model prog w) A (call (.builtin "len") [.ref a]) Q E s:=fun {us a} hL q Q E z=>PyProof.Rows.len_list hL (by have:=sz us q;omega) (by rw [fin us q];exact z)
  refine seqV_elim hs (fun hi=>?_) (fun hi=>?_) fun k hv hk=>?_
  ·exact (r.items_inv hi).elim fun us q=>q.elim fun a q=>q.1▸g (x:=.ref a) fun Q E z=>PyProof.Rows.len_tuple ⟨_,h.hp.fz _ _ q.2.2,rfl,_,rfl⟩ (by have:=sz us q.2.1.len;omega) (by rw [fin us q.2.1.len];exact z)
  ·exact (r.elems_inv hi).elim fun us q=>q.elim fun a q=>q.elim fun n q=>q.1▸g (x:=.ref a) (L1 ⟨_,h.hp.fz _ _ q.2.2,rfl,_,rfl⟩ q.2.1.len)
  ·rw [hv] at r
   exact (cell_list h hk r).elim fun a q=>q.elim fun us q=>q.elim fun n q=>q.1▸g (x:=.ref a) (L1 ⟨_,q.2.2.1,rfl,_,rfl⟩ q.2.2.2.len)
theorem ex?_inv {v:V} {x:X} (h:v.ex?=some x):v=.ex x:=by
 cases v<;>first | exact congrArg V.ex (Option.some.inj h) | exact nsm rfl h
theorem str?_inv {v:V} {x:Str} (h:v.str?=some x):v=.str x:=by
 cases v<;>first | exact congrArg V.str (Option.some.inj h) | exact nsm rfl h
noncomputable def X.flds:X→List (Str×V)
 | .var s=>[("variable", .vr s)]
 | .con c=>[("variable", .vr c.nm)]
 | .app f a=>[("function", .ex f),("argument", .ex a)]
theorem X.inst_is:∀ x:X,(V.ex x).inst=some (x.cls,x.flds)
 | .var _=>rfl
 | .con _=>rfl
 | .app ..=>rfl
theorem isiF_inv {v:V} {C:Nat} {σ:Wt} {r:Res V×Wt×List Prop} (e:isiF v C σ=some r):∃ D fs b,v.inst=some (D,fs)∧lookI isiL D C=some b∧rt (V.bool b) σ=some r:=by
 unfold isiF at e
 cases hx:v.ex? with
 | some x =>
  rw [hx] at e
  rw [ex?_inv hx]
  have k:∃ b,lookI isiL x.cls C=some b∧rt (V.bool b) σ=some r:=by
   replace e:isiE x C σ=some r:=e
   unfold isiE at e
   cases q:Nat.beq C 321 with
   | true=>rw [q] at e;rw [Nat.eq_of_beq_eq_true q];exact ⟨true,by cases x<;>rfl,e⟩
   | false =>
    rw [q] at e
    cases q2:Nat.beq C 129 with
    | true=>rw [q2] at e;rw [Nat.eq_of_beq_eq_true q2];exact ⟨false,by cases x<;>rfl,e⟩
    | false=>rw [q2] at e;exact (optE_some e).elim fun v k=>(Option.map_eq_some_iff.mp k.1).elim fun b z=>⟨b,z.1,z.2▸k.2⟩
  exact k.elim fun b k=>⟨x.cls,x.flds,b,x.inst_is,k⟩
 | none =>
  rw [hx] at e
  exact (optE_some e).elim fun y k=>(Option.map_eq_some_iff.mp k.1).elim fun b z=>(Option.bind_eq_some_iff.mp z.1).elim fun p q=>⟨p.1,p.2,b,q.1,q.2,z.2▸k.2⟩
theorem isiT_sound {env:Env} {cv:List (Str×V)} {v c:V} {u u':Value} {σ σ':Wt} {out:Res V} {ps:List Prop} (e:isiT v c σ=some (out,σ',ps)) (h:At prog w LI env cv L F σ.ab φ ca s) (r:RV prog w LI φ ca v u) (r':RV prog w LI φ ca c u') :
  Goal prog w LI env cv L F (RVr prog w LI) out σ'.ab φ ca s (fun Q E=>wpAny (model prog w) A (call (.builtin "isinstance") [u,u']) Q E s):=by
 cases c with
 | fn C=>exact r'.fn_inv▸(isiF_inv e).elim fun D k=>k.elim fun fs k=>k.elim fun b k=>ev_sub (P:=fun out σ' _=>Goal prog w LI env cv L F (RVr prog w LI) out σ'.ab φ ca s (fun Q E=>wpAny (model prog w) A (call (.builtin "isinstance") [u,.ref C]) Q E s)) k.2.2 (isi_op k.1 k.2.1 h r)
 | ty t =>
  have e:=ifs (b:=v.str?.isSome&&decide (t ="str")) e
  have k:=Bool.and_eq_true_iff.mp e.1
  refine (Option.isSome_iff_exists.mp k.1).elim fun x hx=>?_
  rw [str?_inv hx] at r
  rw [r'.ty_inv,of_decide_eq_true k.2]
  exact r.str_inv.elim fun tk q=>q ▸
   ev_sub (P:=fun out σ' _=>Goal prog w LI env cv L F (RVr prog w LI) out σ'.ab φ ca s (fun Q E=>wpAny (model prog w) A (call (.builtin "isinstance") [.str x tk,.type "str"]) Q E s)) e.2 ((Goal.now h rfl (SameX.refl s) RV.bool).map fun Q E q=>IsiPair.str_str q)
 | _=>exact nsm rfl e
theorem applyV_sound (S:Site L F Γ A a cl outer) {f:V} {vs:List V} {vf:Value} {us:List Value} {σ σ':Wt} {out:Res V} {ps:List Prop} (e:applyV prog w LI Γ f vs σ=some (out,σ',ps)) (hp:AllP ps)
  (h:At prog w LI (eN Γ L a cl) Γ.cv L F σ.ab φ ca s) (rf:RV prog w LI φ ca f vf) (ra:RVs prog w LI φ ca vs us) :
  Goal prog w LI (eN Γ L a cl) Γ.cv L F (RVr prog w LI) out σ'.ab φ ca s (fun Q E=>wpAny (model prog w) A (call vf us) Q E s):=by
 cases f with
 | fn c=>exact callV_sound S (S.ok.mono (Nat.le_add_right ..)) rfl e hp h rf ra
 | lam i caps=>exact callV_sound S (S.ok.mono (Nat.le_add_right ..)) rfl e hp h rf ra
 | bi n =>
  rw [rf.bi_inv]
  replace e:(if decide (n ="isinstance") then isiV vs σ else if decide (n ="len") then lenL vs σ else none)=some (out,σ',ps):=e
  cases q:decide (n ="isinstance") with
  | true =>
   rw [q] at e
   rw [of_decide_eq_true q]
   cases vs with
   | nil=>exact nsm rfl e
   | cons v vs =>
    cases vs with
    | nil=>exact nsm rfl e
    | cons c vs =>
     have e:=ifs (b:=vs.isEmpty) e
     rw [List.isEmpty_iff.mp e.1] at ra
     exact ra.two.elim fun u k=>k.elim fun u' k=>k.1▸isiT_sound e.2 h k.2.1 k.2.2
  | false =>
   rw [q] at e
   have e:=ifs (b:=decide (n ="len")) e
   rw [of_decide_eq_true e.1]
   cases vs with
   | nil=>exact nsm rfl e.2
   | cons v vs =>
    have e:=ifs (b:=vs.isEmpty) e.2
    rw [List.isEmpty_iff.mp e.1] at ra
    exact ra.one.elim fun u k=>k.1▸lenV_sound e.2 hp h k.2
 | _=>exact nsm rfl e
theorem back_of {v:V} {t:Value} {Q:Value→Shared→Prop} {s':Shared} (r:RV prog w LI φ ca v t) (h:Q t s'):PySem.W.CmpBack Q t s':=by
 revert h
 exact RV.casesOn (motive_1:=fun _ t _=>Q t s'→PySem.W.CmpBack Q t s') r id id id id (fun _ _ _=>id) (fun _ _ _=>id) (fun _ _ _ _=>id) (fun _ _ _ _=>id) (fun _=>id) (fun _ _=>id) id id id (fun _ _ _ _ _ _ _ _ _=>id)
theorem cmpEq_op (S:Site L F Γ A a cl outer) {v v':V} {u u':Value} {D D' f:Nat} {fs fs':List (Str×V)} {σ σ':Wt} {out:Res V} {ps:List Prop} (hD:v.inst=some (D,fs)) (hD':v'.inst=some (D',fs')) (hc:(D,D',f)∈cmpL)
  (e:callV prog w LI Γ (.fn f) [v,v'] σ=some (out,σ',ps)) (hp:AllP ps)
  (h:At prog w LI (eN Γ L a cl) Γ.cv L F σ.ab φ ca s) (r:RV prog w LI φ ca v u) (r':RV prog w LI φ ca v' u') :
  Goal prog w LI (eN Γ L a cl) Γ.cv L F (RVr prog w LI) out σ'.ab φ ca s (fun Q E=>wpAny (model prog w) A (compareOp .Eq u u') Q E s):=by
 obtain ⟨x,dx,od,rfl,I⟩:=inst_at h r hD
 obtain ⟨y,dy,od',rfl,I'⟩:=inst_at h r' hD'
 have ok:=Bool.and_eq_true_iff.mp (List.all_eq_true.mp (cmp_ok w.params) _ hc)
 have o1:=Bool.and_eq_true_iff.mp ok.1
 exact h.fr.elim fun m k Q E q1 q2=>cmp_ofEq <| cmp_K (S.ok.lt).2 (fr_of h.kin k.1 h.big) (Hb_K _) I I'.type o1.1 (beq_iff_eq.mp o1.2) ok.2
  (callV_sound S (S.ok.mono (Nat.le_add_right ..)) rfl e hp h (RV.fn (a:=f)) (.cons r (.cons r' .nil)) (PySem.W.CmpBack Q) E (fun b φ' ca' t s' eo pst rr=>back_of rr (q1 b φ' ca' t s' eo pst rr)) q2)
end
noncomputable def trOk (P:Params) (C:Nat):Bool:=(findIn (K P) (.ref C) "__bool__"== some none)&&(findIn (K P) (.ref C) "__len__"== some none)
theorem tr_ok (P:Params):([514,578,426]:List Nat).all (trOk P)=true:=by kernel_rfl
section
variable {prog:Program} {w:World} {LI:Nat→Option LamInfo} {Γ:Gam} {A:Around} {a:Addr} {cl:List (Str×Addr)} {L:Addr} {F:List Addr} {outer:List Env} {φ:Mp} {ca:List Addr} {s:Shared}
theorem X.inst (x:X):∃ C fs,(V.ex x).inst=some (C,fs)∧C∈([514,578,426]:List Nat):=by
 cases x with
 | var s=>exact ⟨_,_,rfl,.head _⟩
 | con c=>exact ⟨_,_,rfl,.tail _ (.head _)⟩
 | app f a=>exact ⟨_,_,rfl,.tail _ (.tail _ (.head _))⟩
theorem truth_op {env:Env} {cv:List (Str×V)} {σ:Ab} {v:V} {u:Value} {b:Bool} (e:truthV v σ.cells=some b) (h:At prog w LI env cv L F σ φ ca s) (r:RV prog w LI φ ca v u) :
  Goal prog w LI env cv L F RBr (.ok b) σ φ ca s (fun Q E=>wpAny (model prog w) A (truthy u) Q E s):=by
 suffices k:∃ s',s'.heap=s.heap∧SameX s s'∧∀ Q E,Q b s'→wpAny (model prog w) A (truthy u) Q E s from k.elim fun s' k=>(Goal.now h k.1 k.2.1 rfl).map k.2.2
 cases v with
 | none=>exact r.inv▸Option.some.inj e▸⟨s,rfl,SameX.refl s,fun Q E q=>PyProof.Rows.truthy_none q⟩
 | bool c=>exact r.inv▸Option.some.inj e▸⟨s,rfl,SameX.refl s,fun Q E q=>wpAny_truthy_bool q⟩
 | ex x =>
  have ok:=Bool.and_eq_true_iff.mp (List.all_eq_true.mp (tr_ok w.params) x.cls (by cases x<;>first | exact .head _ | exact .tail _ (.head _) | exact .tail _ (.tail _ (.head _))))
  exact (inst_at h r x.inst_is).elim fun y q=>q.elim fun dx q=>q.elim fun od q=>h.fr.elim fun m k=>q.1▸Option.some.inj e▸⟨s,rfl,SameX.refl s,fun Q E z=>truthy_K0 (fr_of h.kin k.1 h.big) (Hb_K _) q.2 (beq_iff_eq.mp ok.1) (beq_iff_eq.mp ok.2) z⟩
 | lst vs =>
  have e:=ifs (b:=Nat.blt vs.length 1000) e
  refine (r.elems_inv rfl).elim fun us q=>q.elim fun l q=>q.elim fun n q=>q.1▸⟨{ s with toks:=s.toks+1+1 },rfl,⟨rfl,rfl,rfl⟩,fun Q E z=>wpAny_truthy_list ⟨_,h.hp.fz _ _ q.2.2,rfl,_,rfl⟩ (by rw [List.size_toArray,q.2.1.len];have:=blt_lt e.1;omega) ?_⟩
  have hb:(!us.toArray.isEmpty)=b:=(show (!us.toArray.isEmpty)=(!vs.isEmpty) by cases vs with | nil=>rw [q.2.1.nil_];rfl | cons v vs=>exact q.2.1.uncons.elim fun _ k=>k.elim fun _ k=>k.1▸rfl).trans (Option.some.inj e.2)
  rw [hb];exact z
 | _=>exact nsm rfl e
theorem br_inv {x:Bool} {σ σ':Wt} {out:Res Bool} {ps:List Prop} (e:br x σ=some (out,σ',ps)) (hp:AllP ps):out=.ok x∧σ'.ab=σ.ab:=by
 revert hp
 have d:some (.ok x,σ,[])=some (out,σ',ps)→AllP ps→out=.ok x∧σ'.ab=σ.ab:=fun e=>ev_sub (P:=fun out σ' ps=>AllP ps→out=.ok x∧σ'.ab=σ.ab) e fun _=>⟨rfl,rfl⟩
 unfold br at e
 cases ht:σ.tr with
 | nil=>rw [ht] at e;exact d e
 | cons i t =>
  rw [ht] at e
  cases i with
  | b c=>exact ev_sub (P:=fun out σ' ps=>AllP ps→out=.ok x∧σ'.ab=σ.ab) e fun hp=>⟨congrArg Res.ok hp.1.symm,rfl⟩
  | _=>exact d e
theorem bnd_br {β:Type} {x:Bool} {σ:Wt} {f:Bool→Wt→Ev β} {out:Res β} {σ':Wt} {ps:List Prop} (e:bnd (br x σ) f=some (out,σ',ps)) (hp:AllP ps):∃ σ₁ q,f x σ₁=some (out,σ',q)∧AllP q∧σ₁.ab=σ.ab :=
 bnd_elim e (fun b σ₁ p q hm hf hps=>have hq:=AllP.app (hps▸hp);have k:=br_inv hm hq.1;⟨σ₁,q,Res.ok.inj k.1▸hf,hq.2,k.2⟩) fun c hm ho=>n_eo (br_inv hm hp).1
theorem RV.isN {v:V} {u:Value} (r:RV prog w LI φ ca v u):(u==Value.none)=v.isN :=
 RV.casesOn (motive_1:=fun v u _=>(u==Value.none)=v.isN) r rfl rfl rfl rfl (fun e _ _=>items_elim (P:=fun v=>_=v.isN) e (fun _ _=>rfl) rfl) (fun e _ _=>elems_elim (P:=fun v=>_=v.isN) e rfl (fun _ _=>rfl) (fun _ _=>rfl)) (fun _ _ _ _=>rfl)
  (fun e _ _ _=>inst_elim (P:=fun v=>_=v.isN) e (fun _ _=>rfl) (fun _ _=>rfl) (fun _ _=>rfl)) (fun _=>rfl) (fun _ _=>rfl) rfl rfl rfl (fun _ _ _ _ _ _ _ _ _=>rfl)
theorem cl1:(426,426,386)∈cmpL:=by decide
theorem cl2:(426,514,386)∈cmpL:=by decide
theorem cl3:(426,578,386)∈cmpL:=by decide
theorem cl4:(514,426,471)∈cmpL:=by decide
theorem cl5:(514,514,471)∈cmpL:=by decide
theorem cl6:(514,578,471)∈cmpL:=by decide
theorem cl7:(578,426,471)∈cmpL:=by decide
theorem cl8:(578,514,471)∈cmpL:=by decide
theorem cl9:(578,578,471)∈cmpL:=by decide
end
section
variable {prog:Program} {w:World} {LI:Nat→Option LamInfo} {Γ:Gam} {A:Around} {a:Addr} {cl:List (Str×Addr)} {L:Addr} {F:List Addr} {outer:List Env} {φ:Mp} {ca:List Addr} {s:Shared}
def Mp.put (φ:Mp) (a:Addr) (o:Obj):Mp:=fun b=>if b=a then some o else φ b
theorem Mp.put_self (φ:Mp) (a:Addr) (o:Obj):φ.put a o a=some o:=if_pos rfl
theorem Hp.new {F:List Addr} {cells:List Cell} {h:Heap} (x:Hp prog w LI F φ ca cells h):φ h.objs.size=none:=opt_none fun _ q=>absurd (Heap.lt_size (x.fz _ _ q)) (Nat.lt_irrefl _)
theorem size_ne {h:Heap} {b:Addr} {o:Obj} (q:h.get? b=some o):b≠h.objs.size:=Nat.ne_of_lt (Heap.lt_size q)
theorem Mp.put_ne {b a:Addr} {o:Obj} (h:b≠a):φ.put a o b=φ b:=if_neg h
theorem Mp.le_put {a:Addr} {o:Obj} (h:φ a=none):φ.le (φ.put a o):=fun b _ q=>(if_neg fun z=>nsm h (z▸q)).trans q
theorem At.grow {env:Env} {cv:List (Str×V)} {σ σ':Ab} {φ':Mp} {ca':List Addr} {s':Shared} (a:At prog w LI env cv L F σ φ ca s) (pre:ca <+: ca') (le:φ.le φ') (el:σ'.loc=σ.loc) (k:∀ b x,s.heap.get? b=some x→s'.heap.get? b=some x) (hp:Hp prog w LI (L::F) φ' ca' σ'.cells s'.heap):At prog w LI env cv L F σ' φ' ca' s' :=
 ⟨hp,a.big,a.LF,a.fr.imp fun m q=>⟨q.1.keeps k,fun x v hx=>(q.2 x v (el▸hx)).imp fun u q=>⟨q.1,q.2.mono le pre⟩⟩,fun x v hx=>(a.cv x v hx).imp fun c=>.imp fun o=>.imp fun u k=>⟨k.1,le _ _ k.2.1,k.2.2.1,k.2.2.2.mono le pre⟩⟩
theorem Stp.kept {M F:List Addr} {φ φ':Mp} {h h':Heap} (le:φ.le φ') (nw:∀ a o,φ' a=some o→φ a=some o∨h.get? a=none) (k:∀ b x,h.get? b=some x→h'.get? b=some x):Stp M F φ h φ' h' :=
 ⟨le,nw,fun b q=>q.imp fun x q=>k b x q,fun b x q _ _ _=>k b x q,fun b x q _=>⟨x.slots,k b x q⟩⟩
theorem Pst.push {env:Env} {cv:List (Str×V)} {σ:Ab} (h:At prog w LI env cv L F σ φ ca s) (o:Obj) (hf:o.isFreed=false) {s':Shared} (e:s'.heap=s.heap.push o) (sx:SameX s s') :
  Pst prog w LI env cv L F σ φ ca s (φ.put s.heap.objs.size o) ca s':=by
 have hle:=Mp.le_put (o:=o) h.hp.new
 have hnew:∀ b x,φ.put s.heap.objs.size o b=some x→φ b=some x∨(s.heap.get? b=none∧s'.heap.get? b=some x):=fun b x q=>by
  by_cases z:b=s.heap.objs.size
  ·rw [z] at q ⊢
   exact .inr ⟨Heap.get?_none_of_le (Nat.le_refl _),by rw [e,← smi (Mp.put_self ..) q];exact Heap.get?_push_size _ hf⟩
  ·exact .inl ((Mp.put_ne z).symm.trans q)
 have k:∀ b x,s.heap.get? b=some x→s'.heap.get? b=some x:=fun b x q=>by rw [e];exact Heap.get?_push_of_some _ q
 exact ⟨List.prefix_refl _,.kept hle (fun b x q=>(hnew b x q).imp id (·.1)) k,fun b q=>.inl q,h.grow (List.prefix_refl _) hle rfl k (h.hp.keeps (fun b x q _=>k b x q) (fun b x q _ hd=>⟨x,k b x q,hd⟩) hle hnew),sx⟩
theorem RC.app {φ:Mp} {ca:List Addr} {c:Cell} {o:Obj} {b:Addr} (r:RC prog w LI φ ca c o):RC prog w LI φ (ca++[b]) c o:=r.mono (Mp.le.refl _) ⟨[b],rfl⟩
theorem getElem?_snoc {α:Type} {l:List α} {x y:α} {i:Nat} (e:(l++[x])[i]?=some y):i<l.length∧l[i]?=some y∨i=l.length∧x=y:=by
 by_cases hi:i<l.length
 ·rw [List.getElem?_append_left hi] at e;exact .inl ⟨hi,e⟩
 ·have hl:=(List.getElem?_eq_some_iff.mp e).1
  rw [List.length_append] at hl
  have:i=l.length:=Nat.le_antisymm (Nat.le_of_lt_succ hl) (Nat.le_of_not_lt hi)
  rw [this,List.getElem?_append_right (Nat.le_refl _),Nat.sub_self] at e
  exact .inr ⟨this,Option.some.inj e⟩
theorem Pst.pushC {env:Env} {cv:List (Str×V)} {σ:Ab} {c:Cell} (h:At prog w LI env cv L F σ φ ca s) (o:Obj) (hf:o.isFreed=false) (hc:RC prog w LI φ ca c o) {s':Shared} (e:s'.heap=s.heap.push o) (sx:SameX s s') :
  Pst prog w LI env cv L F ⟨σ.loc,σ.cells++[c]⟩ φ ca s φ (ca++[s.heap.objs.size]) s':=by
 have k:∀ b x,s.heap.get? b=some x→s'.heap.get? b=some x:=fun b x q=>by rw [e];exact Heap.get?_push_of_some _ q
 have hp1:Hp prog w LI (L::F) φ ca σ.cells s'.heap:=h.hp.keeps (fun b x q _=>k b x q) (fun b x q _ hd=>⟨x,k b x q,hd⟩) (Mp.le.refl _) (fun b x q=>.inl q)
 have nw:s.heap.get? s.heap.objs.size=none:=Heap.get?_none_of_le (Nat.le_refl _)
 have hca:s.heap.objs.size∉ca:=fun z=>(List.mem_iff_getElem?.mp z).elim fun i hi=>(h.hp.cel i _ _ (List.getElem?_eq_getElem (by rw [←h.hp.len];exact (List.getElem?_eq_some_iff.mp hi).1)) hi).2.elim fun o' y=>nsm nw y.1
 have two:∀ {b},b∈ca++[s.heap.objs.size]→b∈ca∨b=s.heap.objs.size:=fun q=>(List.mem_append.mp q).imp id List.mem_singleton.mp
 refine ⟨⟨_,rfl⟩,.kept (Mp.le.refl _) (fun b x q=>.inl q) k,fun b q=>(two q).imp id fun z=>(congrArg s.heap.get? z).trans nw,h.grow ⟨_,rfl⟩ (Mp.le.refl _) rfl k
  ⟨hp1.fz,hp1.kk,fun P hP=>⟨(hp1.tab P hP).1,fun z=>(two z).elim (hp1.tab P hP).2.1 fun q=>(h.hp.tab P hP).2.2.2.elim fun ps a=>nsm nw (q▸a.1),(hp1.tab P hP).2.2⟩,?_,List.nodup_append.mpr ⟨h.hp.nd,List.nodup_cons.mpr ⟨nofun,List.nodup_nil⟩,fun x hx y hy z=>hca (List.mem_singleton.mp hy▸z▸hx)⟩,fun i c' b e1 e2=>?_,hp1.frs⟩,sx⟩
 ·show (ca++_).length=(σ.cells++_).length
  rw [List.length_append,List.length_append,hp1.len];rfl
 ·rcases getElem?_snoc e2 with ⟨l,e2⟩ | ⟨l,e2⟩<;>rcases getElem?_snoc e1 with ⟨l',e1⟩ | ⟨l',e1⟩
  ·have t:=hp1.cel i c' b e1 e2
   exact ⟨t.1,t.2.imp fun o q=>⟨q.1,q.2.imp id fun z=>⟨z.1,z.2.app⟩⟩⟩
  ·exact absurd l (by rw [l',← hp1.len];exact Nat.lt_irrefl _)
  ·exact absurd l' (by rw [l,hp1.len];exact Nat.lt_irrefl _)
  ·rw [←e1,← e2]
   exact ⟨fun z=>(h.hp.frs _ z).2.elim fun o q=>nsm nw q.1,o,by rw [e];exact Heap.get?_push_size _ hf,.inr ⟨h.hp.new,hc.app⟩⟩
end
theorem str1_inv {v:V} {x:Str} (h:v.str1=some x):v=.str x:=by
 cases v<;>first | exact congrArg V.str (Option.some.inj h) | exact nsm rfl h
theorem tr1_inv {v:V} {x:T} (h:v.tr1=some x):v=.tr x:=by
 cases v<;>first | exact congrArg V.tr (Option.some.inj h) | exact nsm rfl h
theorem ite2 {α:Type} {b:Bool} {x y:α} {z:Option α} {P:Prop} (e:(if b=true then some x else z)=some y) (h1:b=true→x=y→P) (h2:z=some y→P):P:=by
 cases b with
 | true=>exact h1 rfl (Option.some.inj e)
 | false=>exact h2 e
theorem mk2_un {x:Str} {b:V} {t:T} (e:mk2 x b=some t):t.un=[.str x,b]:=by
 cases b with
 | str y =>
  refine ite2 (b:=x==("n": Str)) e (fun h k=>by rw [←k,eq_of_beq h];rfl) fun e=>?_
  have e:=ifs (b:=x==("c": Str)) e
  refine ite2 (b:=y==("rex": Str)) e.2 (fun h k=>by rw [←k,eq_of_beq e.1,eq_of_beq h];rfl) fun k=>?_
  have k:=ifs (b:=y==("tom": Str)) k
  rw [←Option.some.inj k.2,eq_of_beq e.1,eq_of_beq k.1];rfl
 | int y =>
  have e:=ifs (b:=x==("n": Str)) e
  rw [←Option.some.inj e.2,eq_of_beq e.1];rfl
 | tr y =>
  refine ite2 (b:=x==("mother": Str)) e (fun h k=>by rw [←k,eq_of_beq h];rfl) fun e=>?_
  have e:=ifs (b:=x==("father": Str)) e
  rw [←Option.some.inj e.2,eq_of_beq e.1];rfl
 | _=>exact nsm rfl e
theorem mk3_un {x:Str} {b c:V} {t:T} (e:mk3 x b c=some t):t.un=[.str x,b,c]:=by
 refine (Option.bind_eq_some_iff.mp e).elim fun y k=>(Option.bind_eq_some_iff.mp k.2).elim fun z q=>?_
 have e:=ifs (b:=x==("sum": Str)) q.2
 rw [←Option.some.inj e.2,eq_of_beq e.1,tr1_inv k.1,tr1_inv q.1];rfl
theorem mkO_un {vs:List V} {t:T} (e:mkO vs=some t):t.un=vs:=by
 cases vs with
 | nil=>exact nsm rfl e
 | cons a vs =>
  refine (Option.bind_eq_some_iff.mp e).elim fun x k=>?_
  rw [str1_inv k.1]
  have k:=k.2
  cases vs with
  | nil=>exact nsm rfl k
  | cons b vs =>
   cases vs with
   | nil=>exact mk2_un k
   | cons c vs =>
    have k:=ifs (b:=vs.isEmpty) k
    rw [List.isEmpty_iff.mp k.1];exact mk3_un k.2
theorem mkT_items (vs:List V):(mkT vs).items=some vs:=by
 unfold mkT
 cases q:mkO vs with
 | none=>rfl
 | some t=>exact congrArg some (mkO_un q)
section
variable {prog:Program} {w:World} {LI:Nat→Option LamInfo} {Γ:Gam} {A:Around} {a:Addr} {cl:List (Str×Addr)} {L:Addr} {F:List Addr} {outer:List Env} {φ:Mp} {ca:List Addr} {s:Shared}
theorem newTuple_op {env:Env} {cv:List (Str×V)} {σ:Ab} {vs:List V} {us:List Value} (h:At prog w LI env cv L F σ φ ca s) (r:RVs prog w LI φ ca vs us) (hl:vs.length<1000) {v:V} (hv:v.items=some vs) :
  Goal prog w LI env cv L F (RVr prog w LI) (.ok v) σ φ ca s (fun Q E=>wpAny (model prog w) A (newTuple us) Q E s):=by
 intro Q E k1 _
 have p:=Pst.push h (tu us) rfl (s':={ s with heap:=s.heap.push (tu us) }) rfl ⟨rfl,rfl,rfl⟩
 exact wpAny_newObj_type (k1 _ _ _ _ _ rfl p (.tup hv (r.mono p.stp.le p.pre) (Mp.put_self _ _ _))) (by
  show us.toArray.size≤sizeLine
  rw [List.size_toArray,r.len]
  have:sizeLine=16777216:=rfl
  omega)
theorem newList_op {env:Env} {cv:List (Str×V)} {σ:Ab} {vs:List V} {us:List Value} (h:At prog w LI env cv L F σ φ ca s) (r:RVs prog w LI φ ca vs us) (hl:vs.length<16000000) {v:V} (hv:v.elems=some vs) :
  Goal prog w LI env cv L F (RVr prog w LI) (.ok v) σ φ ca s (fun Q E=>wpAny (model prog w) A (newList us) Q E s):=by
 intro Q E k1 _
 have p:=Pst.push h (listOf us.toArray 0) rfl (s':={ s with heap:=s.heap.push (listOf us.toArray 0) }) rfl ⟨rfl,rfl,rfl⟩
 exact wpAny_newObj_type (k1 _ _ _ _ _ rfl p (.lst hv (r.mono p.stp.le p.pre) (Mp.put_self _ _ _))) (by
  show us.toArray.size≤sizeLine
  rw [List.size_toArray,r.len]
  have:sizeLine=16777216:=rfl
  omega)
theorem newListC_op {env:Env} {cv:List (Str×V)} {σ:Ab} {vs:List V} {us:List Value} (h:At prog w LI env cv L F σ φ ca s) (r:RVs prog w LI φ ca vs us) (hl:vs.length<16000000) :
  Goal prog w LI env cv L F (RVr prog w LI) (.ok (.cell σ.cells.length)) ⟨σ.loc,σ.cells++[.list vs]⟩ φ ca s (fun Q E=>wpAny (model prog w) A (newList us) Q E s):=by
 intro Q E k1 _
 have p:=Pst.pushC h (c:=.list vs) (listOf us.toArray 0) rfl ⟨us,0,rfl,r⟩ (s':={ s with heap:=s.heap.push (listOf us.toArray 0) }) rfl ⟨rfl,rfl,rfl⟩
 refine wpAny_newObj_type (k1 _ _ _ _ _ rfl p (.cell ?_)) (by
  show us.toArray.size≤sizeLine
  rw [List.size_toArray,r.len]
  have:sizeLine=16777216:=rfl
  omega)
 rw [←h.hp.len,List.getElem?_append_right (Nat.le_refl _),Nat.sub_self];rfl
theorem RVs.get {vs:List V}:∀ {us:List Value},RVs prog w LI φ ca vs us→∀ {n:Nat} {v:V},vs[n]?=some v→∃ u,us[n]?=some u∧RV prog w LI φ ca v u:=by
 induction vs with
 | nil=>exact fun _ _ _ h=>nsm rfl h
 | cons x vs ih =>
  intro us r n v h
  refine r.uncons.elim fun u k=>k.elim fun us' k=>k.1▸?_
  cases n with
  | zero=>exact ⟨u,rfl,Option.some.inj h▸k.2.1⟩
  | succ n=>exact ih k.2.2 h
theorem idxV_inv {vs:List V} {i v:V} (h:idxV vs i=some v):∃ n:Nat,i=.int n∧n<1000∧vs[n]?=some v:=by
 cases i with
 | int k =>
  cases k with
  | ofNat n=>have h:=ifs (b:=Nat.blt n 1000) h;exact ⟨n,rfl,blt_lt h.1,h.2⟩
  | negSucc n=>exact nsm rfl h
 | _=>exact nsm rfl h
theorem notSlice_sub {slice:Expr} {o i:Value} (h:notSlice slice=true):subscripted slice false o i=operate [o,i] (getItem o i):=by
 cases slice<;>first | rfl | exact absurd h Bool.false_ne_true
theorem RVs.drop:∀ (n:Nat) {vs:List V} {us:List Value},RVs prog w LI φ ca vs us→RVs prog w LI φ ca (vs.drop n) (us.drop n):=by
 intro n
 induction n with
 | zero=>exact fun h=>h
 | succ n ih =>
  intro vs us r
  cases vs with
  | nil=>exact r.nil_▸.nil
  | cons v vs=>exact r.uncons.elim fun u k=>k.elim fun us' k=>k.1▸ih k.2.2
theorem cInt_inv {e:Expr} {i:Int} (h:cInt e=some i):∃ k pos,e=.Constant (.int i) k pos:=by
 cases e with
 | Constant c k pos =>
  refine ⟨k,pos,congrArg (fun c=>Expr.Constant c k pos) ?_⟩
  cases c<;>first | exact congrArg Const.int (Option.some.inj h) | exact nsm rfl h
 | _=>exact nsm rfl h
theorem part_sound {env:Env} {e:Option Expr} {p:Option Int} (h:partE e=some p) {Q:Value→Shared→Prop} {E:Value→Shared→Prop} (k:∀ (q:Option (Int×Tok)) tk,q.map (·.1)=p→Q (partValue q) { s with toks:=tk }) :
  wpAny (model prog w) A (evalPart e env) Q E s:=by
 cases e with
 | none=>exact wpAny_pure (k none s.toks (Option.some.inj h))
 | some e=>exact (Option.map_eq_some_iff.mp h).elim fun i q=>(cInt_inv q.1).elim fun kk z=>z.elim fun pos z=>z▸wpAny_Constant_int (k:=kk) (pos:=pos) (k (some (i,s.toks)) _ q.2)
abbrev slObj (ql qu:Option (Int×Tok)):Obj:={ cls:=.type "slice", data:=.fields #[partValue ql,partValue qu,.none] }
theorem slV_sound {env:Env} {cv:List (Str×V)} {o:V} {ov:Value} {value:Expr} {lo hi:Option Expr} {p:Pos} {l u:Option Int} {σ σ':Wt} {out:Res V} {ps:List Prop} (e:slV o l u σ=some (out,σ',ps)) (hl:partE lo=some l) (hu:partE hi=some u)
  (h:At prog w LI env cv L F σ.ab φ ca s) (r:RV prog w LI φ ca o ov) :
  Goal prog w LI env cv L F (RVr prog w LI) out σ'.ab φ ca s (fun Q E=>wpAny (model prog w) A (eval (.Slice lo hi none p) env) (fun i s₂=>wpAny (model prog w) A (subscriptTail value (.Slice lo hi none p) ov i) Q E s₂) E s):=by
 intro Q E k1 _
 refine wpAny_Slice (part_sound hl fun ql tk hql=>part_sound hu fun qu tk' hqu=>wpAny_pure ?_)
 have p0:=Pst.push h (s':={ s with heap:=s.heap.push { cls:=.type "slice", data:=.fields #[partValue ql,partValue qu,.none] },toks:=tk' }) { cls:=.type "slice", data:=.fields #[partValue ql,partValue qu,.none] } rfl rfl ⟨rfl,rfl,rfl⟩
 have hsl:(s.heap.push { cls:=.type "slice", data:=.fields #[partValue ql,partValue qu,.none] }).get? s.heap.objs.size=some { cls:=.type "slice", data:=.fields #[partValue ql,partValue qu,.none] }:=Heap.get?_push_size _ rfl
 have hsub:∀ i,subscripted (.Slice lo hi none p) false ov i=operate [i,ov] (getItem ov i):=fun _=>rfl
 revert e
 unfold slV
 cases hx:o.str? with
 | some x =>
  intro e
  have e:=ifs (b:=Nat.blt (strSl x l u).length 1000) e
  rw [str?_inv hx] at r
  refine r.str_inv.elim fun t q=>?_
  rw [q] at hsub ⊢
  refine tail_any (typeIs_str _ x t) slot_str_getitem.lookup (wpAny_getItem_str_slice (l:=ql) (u:=qu) (st:=none) ⟨_,hsl,rfl,rfl⟩ rfl ?_) (hsub _)
  have hpk:slicePicked x ql qu none=Builtin.Str.strSliceIndices l u 1 x.length:=by unfold slicePicked;rw [hql,hqu];rfl
  unfold sliceMade
  rw [hpk]
  have ek:=ev_inj e.2
  have done:∀ (y:Str) (t':Tok) (s':Shared),s'.heap=s.heap.push (slObj ql qu)→SameX s s'→y=strSl x l u→Q (.str y t') s':=fun y t' s' eh ex ey =>
   k1 _ _ _ _ _ ek.1.symm (ek.2.1▸Pst.push h (slObj ql qu) rfl eh ex) (ey▸RV.str)
  cases hc:((Builtin.Str.strSliceIndices l u 1 x.length).length==x.length) with
  | true=>exact done _ _ _ rfl ⟨rfl,rfl,rfl⟩ (by unfold strSl;rw [if_pos hc])
  | false =>
   have he:strSl x l u=⟨((Builtin.Str.strSliceIndices l u 1 x.length).filterMap (x.cps[·]?)).toArray⟩:=by unfold strSl;rw [hc];rfl
   have:=blt_lt e.1
   rw [he] at this
   exact ⟨Nat.le_of_lt (Nat.lt_trans this (by decide)),done _ _ _ rfl ⟨rfl,rfl,rfl⟩ he.symm⟩
 | none =>
  intro e
  have e:=ifs e
  have hqn:qu=none:=by cases qu with | none=>rfl | some q=>exact nsm (Option.isNone_iff_eq_none.mp e.1) hqu.symm
  subst hqn
  have e:=e.2
  cases ql with
  | none=>rw [←show none=l from hql] at e;exact nsm rfl e
  | some q =>
   rw [←show some q.1=l from hql] at e
   replace e:slT o σ q.1=some (out,σ',ps):=e
   cases hq:q.1 with
   | negSucc n=>rw [hq] at e;exact nsm rfl e
   | ofNat n =>
    rw [hq] at e
    unfold slT at e
    cases hi:o.items with
    | none=>rw [hi] at e;exact nsm rfl e
    | some vs =>
     rw [hi] at e
     have e:=ifs e
     have c:=Bool.and_eq_true_iff.mp e.1
     have c1:=Bool.and_eq_true_iff.mp c.1
     have ek:=ev_inj e.2
     refine (r.items_inv hi).elim fun us z=>z.elim fun y z=>?_
     rw [z.1] at hsub ⊢
     have hT:IsTup (s.heap.push (slObj (some q) none)) y us.toArray:=⟨_,Heap.get?_push_of_some _ (h.hp.fz _ _ z.2.2),rfl,_,rfl⟩
     have p1:=p0.trans (Pst.push p0.at_ (s':={ s with heap:=(s.heap.push (slObj (some q) none)).push (tu (us.drop n)),toks:=tk' }) (tu (us.drop n)) rfl rfl ⟨rfl,rfl,rfl⟩)
     have hsz:us.toArray.size=vs.length:=by rw [List.size_toArray,z.2.1.len]
     refine tail_any hT.typeIs slot_tuple_getitem.lookup (getItem_tuple_from (a:=n) (u:=q.2) hT ⟨_,hsl,rfl,by show Data.fields #[Value.int q.1 q.2,Value.none,Value.none]=_;rw [hq];rfl⟩ (blt_lt c1.1) (by rw [hsz];exact Nat.le_of_ble_eq_true c1.2) ?_ (by rw [hsz];exact Nat.le_trans (Nat.le_of_lt (blt_lt c.2)) (by decide))) (hsub _)
     exact k1 _ _ _ _ _ ek.1.symm (ek.2.1▸p1) (.tup rfl ((z.2.1.drop n).mono p1.stp.le p1.pre) (Mp.put_self _ _ _))
theorem strsOf_are {vs:List V}:∀ {l:List Str} {us:List Value},strsOf vs=some l→RVs prog w LI φ ca vs us→StrsAre us l:=by
 induction vs with
 | nil=>exact fun h r=>r.nil_▸Option.some.inj h▸.nil
 | cons v vs ih =>
  intro l us h r
  refine r.uncons.elim fun u k=>k.elim fun us' k=>k.1▸?_
  have r1:=k.2.1
  cases v with
  | str x =>
   replace h:(match strsOf vs with | some l=>some (x::l) | none=>none)=some l:=h
   cases q:strsOf vs with
   | none=>rw [q] at h;exact nsm rfl h
   | some l'=>rw [q] at h;exact r1.str_inv.elim fun t z=>Option.some.inj h▸z▸.cons _ _ (ih q k.2.2)
  | _=>exact nsm rfl h
theorem strsOf_map:∀ l:List Str,strsOf (l.map V.str)=some l
 | []=>rfl
 | x::l=>by
  show (match strsOf (l.map V.str) with | some l=>some (x::l) | none=>none)=_
  rw [strsOf_map l]
theorem strs_are {v:V} {l:List Str} {u:Value} (e:v.strs=some l) (r:RV prog w LI φ ca v u):∃ us a n,u=.ref a∧StrsAre us l∧φ a=some (listOf us.toArray n):=by
 cases v with
 | ls x=>exact (r.elems_inv rfl).imp fun us=>.imp fun a=>.imp fun n k=>⟨k.1,strsOf_are (Option.some.inj e▸strsOf_map _) k.2.1,k.2.2⟩
 | lst x=>exact (r.elems_inv rfl).imp fun us=>.imp fun a=>.imp fun n k=>⟨k.1,strsOf_are e k.2.1,k.2.2⟩
 | _=>exact nsm rfl e
theorem in_op {env:Env} {cv:List (Str×V)} {x:Str} {v:V} {l:List Str} {u u':Value} {σ:Ab} (e:v.strs=some l) (h:At prog w LI env cv L F σ φ ca s) (r:RV prog w LI φ ca (.str x) u) (r':RV prog w LI φ ca v u') :
  Goal prog w LI env cv L F (RVr prog w LI) (.ok (.bool (l.any (·==x)))) σ φ ca s (fun Q E=>wpAny (model prog w) A (compareOp .In u u') Q E s) ∧
  Goal prog w LI env cv L F (RVr prog w LI) (.ok (.bool !(l.any (·==x)))) σ φ ca s (fun Q E=>wpAny (model prog w) A (compareOp .NotIn u u') Q E s):=by
 obtain ⟨t,rfl⟩:=r.str_inv
 obtain ⟨us,a,n,rfl,hs,hφ⟩:=strs_are e r'
 have hl:s.heap.IsList a us.toArray:=⟨_,h.hp.fz _ _ hφ,rfl,_,rfl⟩
 exact ⟨(Goal.now h rfl (SameX.refl s) RV.bool).map fun Q E q=>in_list_strs hl hs q,(Goal.now h rfl (SameX.refl s) RV.bool).map fun Q E q=>notin_list_strs hl hs q⟩
theorem isN_inv {v:V} (h:v.isN=true):v=.none:=by
 cases v<;>first | rfl | exact absurd h Bool.false_ne_true
theorem inV_sound {env:Env} {cv:List (Str×V)} {x:Str} {v':V} {b:Bool} {u u':Value} {σ:Ab} (e:inV x v'=some b)
  (h:At prog w LI env cv L F σ φ ca s) (r:RV prog w LI φ ca (.str x) u) (r':RV prog w LI φ ca v' u') :
  Goal prog w LI env cv L F (RVr prog w LI) (.ok (.bool b)) σ φ ca s (fun Q E=>wpAny (model prog w) A (compareOp .In u u') Q E s) ∧
  Goal prog w LI env cv L F (RVr prog w LI) (.ok (.bool (!b))) σ φ ca s (fun Q E=>wpAny (model prog w) A (compareOp .NotIn u u') Q E s):=by
 refine (Option.or_eq_some_iff.mp e).elim (fun e=>(Option.map_eq_some_iff.mp e).elim fun y k=>?_) fun e=>(Option.map_eq_some_iff.mp e.2).elim fun l k=>k.2▸in_op k.1 h r r'
 rw [str?_inv k.1] at r'
 refine r.str_inv.elim fun t q=>r'.str_inv.elim fun t' q'=>q▸q'▸k.2▸?_
 exact ⟨(Goal.now h rfl (SameX.refl s) RV.bool).map fun Q E q=>PyProof.Rows.in_str q,(Goal.now h rfl (SameX.refl s) RV.bool).map fun Q E q=>PyProof.Rows.notIn_str q⟩
end
theorem filterMap_fst {α β:Type} {f:α→Option (α×β)} (hf:∀ a p,f a=some p→p.1=a):∀ l:List α,((l.filterMap f).map (·.1)).Sublist l
 | []=>.slnil
 | a::l=>by
  rw [List.filterMap_cons]
  cases q:f a with
  | none=>exact (filterMap_fst hf l).cons a
  | some p =>
   simp only [List.map_cons]
   rw [hf a p q]
   exact (filterMap_fst hf l).cons₂ a
theorem newsOf_nodup (P:Params) (h:Heap) (L:Addr):((newsOf P h L).map (·.1)).Nodup:=by
 unfold newsOf
 refine (filterMap_fst ?_ _).nodup List.nodup_range
 intro a p e
 split at e
 ·cases e
 ·cases q:h.get? a with
  | none=>rw [q] at e;cases e
  | some o=>rw [q] at e;cases e;rfl
theorem upd_of {d:Addr} {o o':Obj}:∀ {l:List (Addr×Obj)},(l.map (·.1)).Nodup→(d,o)∈l→∃ l',Upd d o o' l l'∧(d,o')∈l'∧∀ p∈l,p.1≠d→p∈l'
 | [],_,h=>by cases h
 | p::l,hn,h=>by
  rw [List.map_cons,List.nodup_cons] at hn
  by_cases hp:p.1=d
  ·have hpo:p=(d,o):=by
    rcases List.mem_cons.mp h with z | z
    ·exact z.symm
    ·exact absurd (hp▸List.mem_map_of_mem (f:=(·.1)) z) hn.1
   subst hpo
   refine ⟨(d,o')::l,.head fun q hq z=>hn.1 (by rw [←z];exact List.mem_map_of_mem (f:=(·.1)) hq),.head _,fun q hq hne=>?_⟩
   rcases List.mem_cons.mp hq with rfl | hq
   ·exact absurd rfl hne
   ·exact .tail _ hq
  ·have hl:(d,o)∈l:=by
    rcases List.mem_cons.mp h with rfl | z
    ·exact absurd rfl hp
    ·exact z
   obtain ⟨l',u,m,k⟩:=upd_of hn.2 hl
   refine ⟨p::l',.tail hp u,.tail _ m,fun q hq hne=>?_⟩
   rcases List.mem_cons.mp hq with rfl | hq
   ·exact .head _
   ·exact .tail _ (k q hq hne)
section
variable {prog:Program} {w:World} {LI:Nat→Option LamInfo} {φ:Mp} {ca:List Addr}
theorem REs.app {x:Str} {v:V} {u:Value} {hs:Int} {t:Tok} (r:RV prog w LI φ ca v u) {fs:List (Str×V)}:∀ {es:List DictEntry},REs prog w LI φ ca fs es→REs prog w LI φ ca (fs++[(x,v)]) (es++[⟨hs,.str x t,u⟩]):=by
 induction fs with
 | nil=>exact fun h=>by rw [h.nil_];exact .cons r .nil
 | cons p fs ih=>exact fun h=>h.uncons.elim fun _ k=>k.elim fun _ k=>k.elim fun _ k=>k.elim fun _ k=>k.1▸.cons k.2.1 (ih k.2.2)
theorem REs.put {x:Str} {u:Value} {hs:Int} {t:Tok} {fs:List (Str×V)}:∀ {es:List DictEntry},REs prog w LI φ ca fs es→fs.lookup x=none→putL x hs (.str x t) u es=es++[⟨hs,.str x t,u⟩]:=by
 induction fs with
 | nil=>exact fun h _=>by rw [h.nil_];rfl
 | cons p fs ih =>
  intro es h e
  rw [List.lookup_cons] at e
  refine h.uncons.elim fun _ k=>k.elim fun tk k=>k.elim fun _ k=>k.elim fun _ k=>k.1▸?_
  cases q:(x==p.1) with
  | true=>rw [q] at e;exact nsm e rfl
  | false =>
   rw [q] at e
   have q':((Value.str p.1 tk).isStr x)=false:=beq_eq_false_iff_ne.mpr (Ne.symm (beq_eq_false_iff_ne.mp q))
   show (if (Value.str p.1 tk).isStr x then _ else _::putL x hs (.str x t) u _)=_
   rw [q',if_neg Bool.false_ne_true,ih k.2.2 e];rfl
theorem REs.len {fs:List (Str×V)}:∀ {es:List DictEntry},REs prog w LI φ ca fs es→es.length=fs.length:=by
 induction fs with
 | nil=>exact fun h=>by rw [h.nil_];rfl
 | cons p fs ih=>exact fun h=>h.uncons.elim fun _ k=>k.elim fun _ k=>k.elim fun _ k=>k.elim fun _ k=>k.1▸congrArg Nat.succ (ih k.2.2)
end
def setAL:List (Nat×Str):=[(129,"name"),(514,"variable"),(578,"variable"),(426,"function"),(426,"argument"),(1020,"d")]
noncomputable def setOk (P:Params) (p:Nat×Str):Bool:=(findIn (K P) (.ref p.1) "__setattr__"== some (some (.builtin "object.__setattr__")))&&plainOver (K P) p.1&&(takerIn (K P) p.1 p.2==some none)&&hasDictIn (K P) p.1
theorem set_ok (P:Params):setAL.all (setOk P)=true:=by kernel_rfl
section
variable {prog:Program} {w:World} {LI:Nat→Option LamInfo} {Γ:Gam} {A:Around} {a:Addr} {cl:List (Str×Addr)} {L:Addr} {F:List Addr} {outer:List Env} {φ:Mp} {ca:List Addr} {s:Shared}
theorem Pst.setCell {env:Env} {cv:List (Str×V)} {σ:Ab} {k:Nat} {b:Addr} {c c':Cell} {o':Obj} {s':Shared} (h:At prog w LI env cv L F σ φ ca s) (hb:ca[k]?=some b) (hc:σ.cells[k]?=some c) (hg:c≠.gone)
  (kp:∀ x o,s.heap.get? x=some o→x≠L→x≠b→s'.heap.get? x=some o) (hL:∀ m,s.heap.Ns L m→s'.heap.Ns L m) (ho:s'.heap.get? b=some o') (rc:RC prog w LI φ ca c' o') (sx:SameX s s') :
  Pst prog w LI env cv L F ⟨σ.loc,σ.cells.set k c'⟩ φ ca s φ ca s':=by
 have tb:=h.hp.cel k c b hc hb
 have hφb:φ b=none:=tb.2.elim fun _ q=>(q.2.resolve_left hg).1
 have hφL:φ L=none:=(h.hp.frs L (.head _)).1
 have nF:∀ x,x∈F→x≠L∧x≠b:=fun x hx=>⟨fun z=>h.LF (z▸hx),fun z=>tb.1 (.tail _ (z▸hx))⟩
 have hbm:=List.mem_of_getElem? hb
 have hd:∃ o₂,s'.heap.get? L=some o₂∧∀ vs,o₂.data≠.fields vs:=h.fr.elim fun m q=>(hL m q.1).elim fun o₂ z=>z.elim fun _ z=>z.elim fun _ z=>⟨o₂,z.1,fun vs q=>nomatch z.2.1.symm.trans q⟩
 refine ⟨List.prefix_refl _,⟨Mp.le.refl _,fun _ _ e=>.inl e,fun x al=>?_,fun x o e h1 _ _=>kp x o e (fun z=>h1 (z▸.head _)) (fun z=>h1 (.tail _ (z▸hbm))),fun x o e hx=>⟨o.slots,kp x o e (nF x hx).1 (nF x hx).2⟩⟩,fun _ q=>.inl q,
  ⟨⟨fun x o e=>kp x o (h.hp.fz _ _ e) (fun z=>nsm hφL (z▸e)) (fun z=>nsm hφb (z▸e)),h.hp.kk,fun P hP=>have t:=h.hp.tab P hP;⟨t.1,t.2.1,t.2.2.1,t.2.2.2.imp fun ps q=>⟨kp P _ q.1 (fun z=>t.2.2.1 (z▸.head _)) (fun z=>t.2.1 (z▸hbm)),q.2⟩⟩,by rw [List.length_set];exact h.hp.len,h.hp.nd,fun i c₂ x e1 e2=>?_,
   fun x hx=>have t:=h.hp.frs x hx;⟨t.1,(List.mem_cons.mp hx).elim (fun z=>z▸hd) fun hx=>t.2.imp fun o q=>⟨kp x o q.1 (nF x hx).1 (nF x hx).2,q.2⟩⟩⟩,h.big,h.LF,h.fr.imp fun m q=>⟨hL m q.1,q.2⟩,h.cv⟩,sx⟩
 ·by_cases z:x=L
  ·exact hd.elim fun o₂ q=>⟨o₂,z▸q.1⟩
  ·by_cases z':x=b
   ·exact ⟨o',z'▸ho⟩
   ·exact al.imp fun o e=>kp x o e z z'
 ·by_cases q:i=k
  ·rw [q] at e1 e2
   have hi:=(List.getElem?_eq_some_iff.mp e1).1
   rw [List.length_set] at hi
   rw [List.getElem?_set_self hi] at e1
   rw [smi e2 hb,← Option.some.inj e1]
   exact ⟨tb.1,o',ho,.inr ⟨hφb,rc⟩⟩
  ·rw [List.getElem?_set_ne (Ne.symm q)] at e1
   have t:=h.hp.cel i c₂ x e1 e2
   exact ⟨t.1,t.2.imp fun o z=>⟨kp x o z.1 (fun z=>t.1 (z▸.head _)) (h.hp.ne e2 hb q),z.2⟩⟩
theorem Ns.alike {h h':Heap} {a:Addr} {m m':Str→Option Value} (n:h.Ns a m) (n':h.Ns a m') (k:h'.Ns a m):h'.Ns a m' :=
 n.elim fun _ n=>n.elim fun _ n=>n.elim fun _ n=>n'.elim fun _ n'=>n'.elim fun _ n'=>n'.elim fun _ n'=>k.imp fun _=>.imp fun _=>.imp fun _ k=>⟨k.1,k.2.1,k.2.2.1,fun y=>(k.2.2.2 y).trans ((n.2.2.2 y).symm.trans (by
  have e:=(congrArg Obj.data (smi n.1 n'.1)).symm.trans n.2.1 |>.symm.trans n'.2.1
  rw [(Data.dict.inj e).1];exact n'.2.2.2 y))⟩
theorem setattr_op {env:Env} {cv:List (Str×V)} {σ:Ab} {C k:Nat} {fs:List (Str×V)} {x:Str} {v:V} {u ov:Value} (h:At prog w LI env cv L F σ φ ca s) (r:RV prog w LI φ ca (.raw C k) ov) (rv:RV prog w LI φ ca v u)
  (hc:σ.cells[k]?=some (.flds fs)) (hx:fs.lookup x=none) (hm:lookA setAL C x=true) (hz:fs.length<100) :
  Goal prog w LI env cv L F (fun (_:Unit) _ _ (_:Unit)=>True) (.ok ()) ⟨σ.loc,σ.cells.set k (.flds (fs++[(x,v)]))⟩ φ ca s (fun Q E=>wpAny (model prog w) A (setAttr ov x u) Q E s):=by
 intro Q E k1 _
 refine r.inv.elim fun y r=>r.elim fun dx r=>?_
 have tb:=h.hp.cel k _ dx hc r.2.2
 refine tb.2.elim fun ob q=>(q.2.resolve_left nofun).2.elim fun es z=>z.elim fun n z=>h.fr.elim fun m hm'=>?_
 have hob:s.heap.get? dx=some (dictOf es n):=z.1▸q.1
 have ok:=Bool.and_eq_true_iff.mp (List.all_eq_true.mp (set_ok w.params) _ (lookA_mem hm))
 have o1:=Bool.and_eq_true_iff.mp ok.1
 have o2:=Bool.and_eq_true_iff.mp o1.1
 have I:InstAt s.heap y (instObj C dx) C (some (dictOf es n)):=⟨h.hp.fz _ _ r.2.1,rfl,rfl,hob⟩
 have hHb:(Hb w.params).get? dx=none:=opt_none fun o z=>nsm (q.2.resolve_left nofun).1 (h.hp.kk _ _ (Hb_get z))
 refine (upd_of (o':=dictOf (putL x (PyData.keyHash w.params x) (.str x (s.toks+1)) u es) (putN x es n)) (newsOf_nodup w.params s.heap L) (mem_newsOf.mpr ⟨hob,fun z=>tb.1 (z▸.head _),hHb⟩)).elim fun l' U=>?_
 rw [r.1]
 refine set_dict (fr_of h.kin hm'.1 h.big) (Hb_K _) news_of I rfl (beq_iff_eq.mp o2.1) o2.2 (beq_iff_eq.mp o1.2) ok.2 (by rw [z.2.get.2 hx];rfl) rfl U.1 (by rw [REs.put z.2 hx,List.length_append,z.2.len];exact Nat.le_trans (Nat.succ_le_of_lt hz) (by decide)) fun h' F' N'=>?_
 exact k1 () φ ca () { s with heap:=h',toks:=s.toks+2 } rfl (Pst.setCell h r.2.2 hc nofun (fun z o e hz1 hz2=>by
   cases q:(Hb w.params).get? z with
   | some o₂=>rw [←smi (h.kin _ _ (Hb_get q)) e];exact F'.keep _ _ q
   | none=>exact (N' _ (U.2.2 (z,o) (mem_newsOf.mpr ⟨e,hz1,q⟩) hz2)).1) (fun m' hn'=>Ns.alike hm'.1 hn' F'.ns) (N' _ U.2.1).1 ⟨_,_,rfl,(REs.put z.2 hx).symm▸REs.app rv z.2⟩ ⟨rfl,rfl,rfl⟩) trivial
end
noncomputable def putK {α:Type} (kvs:List (Str×α)) (k:Str) (v:α):List (Str×α) :=
 if kvs.any (fun kv=>kv.1=k) then kvs.map (fun kv=>if kv.1=k then (kv.1,v) else kv) else kvs++[(k,v)]
section
variable {prog:Program} {w:World} {LI:Nat→Option LamInfo} {A:Around} {L:Addr} {F:List Addr} {φ:Mp} {ca:List Addr} {s:Shared}
theorem valueAt_cons (k' k:Str) (u:Value) (ws:List (Str×Value)):valueAt ((k',u)::ws) k=if k=k' then some u else valueAt ws k:=by
 unfold valueAt
 by_cases q:k=k'
 ·rw [if_pos q,List.find?_cons_of_pos (by rw [q];exact decide_eq_true rfl)];rfl
 ·rw [if_neg q,List.find?_cons_of_neg (fun z=>q (of_decide_eq_true z).symm)]
theorem RKs.at {kvs:List (Str×V)}:∀ {ws:List (Str×Value)},RKs prog w LI φ ca kvs ws→∀ {k:Str},(∀ {v},kvs.lookup k=some v→∃ u,valueAt ws k=some u∧RV prog w LI φ ca v u)∧(kvs.lookup k=none→valueAt ws k=none):=by
 induction kvs with
 | nil=>exact fun {ws} h {k}=>⟨fun e=>nsm rfl e,fun _=>by rw [h.nil_];rfl⟩
 | cons p kvs ih =>
  intro ws h k
  refine h.uncons.elim fun u z=>z.elim fun ws' z=>?_
  rw [z.1,List.lookup_cons,valueAt_cons]
  by_cases q:k=p.1
  ·rw [if_pos q,q,beq_self_eq_true]
   exact ⟨fun e=>⟨u,rfl,Option.some.inj e▸z.2.1⟩,fun e=>nsm e rfl⟩
  ·rw [if_neg q,beq_eq_false_iff_ne.mpr q]
   exact ih z.2.2
theorem RKs.any {k:Str} {kvs:List (Str×V)}:∀ {ws:List (Str×Value)},RKs prog w LI φ ca kvs ws→ws.any (fun kv=>kv.1=k)=kvs.any (fun kv=>kv.1=k):=by
 induction kvs with
 | nil=>exact fun h=>by rw [h.nil_];rfl
 | cons p kvs ih=>exact fun h=>h.uncons.elim fun u z=>z.elim fun ws' z=>by rw [z.1,List.any_cons,List.any_cons,ih z.2.2]
theorem RKs.putM {k:Str} {v:V} {u:Value} (r:RV prog w LI φ ca v u) {kvs:List (Str×V)}:∀ {ws:List (Str×Value)},RKs prog w LI φ ca kvs ws →
  RKs prog w LI φ ca (kvs.map (fun kv=>if kv.1=k then (kv.1,v) else kv)) (ws.map (fun kv=>if kv.1=k then (kv.1,u) else kv)):=by
 induction kvs with
 | nil=>exact fun h=>by rw [h.nil_];exact .nil
 | cons p kvs ih =>
  refine fun h=>h.uncons.elim fun u' z=>z.elim fun ws' z=>?_
  rw [z.1,List.map_cons,List.map_cons]
  by_cases q:p.1=k
  ·rw [if_pos q,if_pos q];exact .cons r (ih z.2.2)
  ·rw [if_neg q,if_neg q];exact .cons z.2.1 (ih z.2.2)
theorem RKs.snoc' {k:Str} {v:V} {u:Value} (r:RV prog w LI φ ca v u) {l:List (Str×V)}:∀ {b:List (Str×Value)},RKs prog w LI φ ca l b→RKs prog w LI φ ca (l++[(k,v)]) (b++[(k,u)]):=by
 induction l with
 | nil=>exact fun h=>by rw [h.nil_];exact .cons r .nil
 | cons p l ih=>exact fun h=>h.uncons.elim fun u z=>z.elim fun ws' z=>z.1▸.cons z.2.1 (ih z.2.2)
theorem RKs.put {k:Str} {v:V} {u:Value} (r:RV prog w LI φ ca v u) {kvs:List (Str×V)} {ws:List (Str×Value)} (h:RKs prog w LI φ ca kvs ws):RKs prog w LI φ ca (putK kvs k v) (stored ws k u):=by
 unfold putK stored
 rw [h.any]
 split
 ·exact h.putM r
 ·exact RKs.snoc' r h
end
theorem k1_some (P:Params):((K P).lookup 1).isSome=true:=by kernel_rfl
section
variable {prog:Program} {w:World} {LI:Nat→Option LamInfo} {A:Around} {L:Addr} {F:List Addr} {φ:Mp} {ca:List Addr} {s:Shared}
theorem cellD_inv {c:Option Cell} {kvs:List (Str×V)} (e:cellD c=some kvs):c=some (.dict kvs) :=
 (Option.bind_eq_some_iff.mp e).elim fun a k=>k.1.trans (congrArg some (by
  have e:=k.2
  cases a<;>first | exact congrArg Cell.dict (Option.some.inj e) | exact nsm rfl e))
theorem RKs.len {kvs:List (Str×V)}:∀ {ws:List (Str×Value)},RKs prog w LI φ ca kvs ws→ws.length=kvs.length:=by
 induction kvs with
 | nil=>exact fun h=>by rw [h.nil_];rfl
 | cons p kvs ih=>exact fun h=>h.uncons.elim fun u z=>z.elim fun ws' z=>z.1▸congrArg Nat.succ (ih z.2.2)
theorem At.no1 {env:Env} {cv:List (Str×V)} {σ:Ab} (h:At prog w LI env cv L F σ φ ca s) {a:Addr} (e:φ a=none):a≠1:=fun z =>
 (Option.isSome_iff_exists.mp (k1_some w.params)).elim fun o q=>nsm e (z▸h.hp.kk _ _ q)
theorem cell_dict {env:Env} {cv:List (Str×V)} {σ:Ab} {k:Nat} {u:Value} {kvs:List (Str×V)} (hk:σ.cells[k]?=some (.dict kvs)) (h:At prog w LI env cv L F σ φ ca s) (r:RV prog w LI φ ca (.cell k) u) :
  ∃ a ws,u=.ref a∧ca[k]?=some a∧a∉L::F∧φ a=none∧s.heap.DictOf (PySem.strKind prog w) a ws∧RKs prog w LI φ ca kvs ws :=
 r.inv.elim fun a q=>have t:=h.hp.cel k _ a hk q.2;t.2.elim fun o z=>have x:=z.2.resolve_left nofun;x.2.elim fun ws y=>⟨a,ws,q.1,q.2,t.1,x.1,Heap.dictOf_iff.mpr ⟨o,z.1,y.1⟩,y.2⟩
theorem dict_inv {env:Env} {cv:List (Str×V)} {σ:Ab} {v:V} {u:Value} {kvs:List (Str×V)} (e:dictV v σ.cells=some kvs) (h:At prog w LI env cv L F σ φ ca s) (r:RV prog w LI φ ca v u) :
  ∃ a ws,u=.ref a∧s.heap.DictOf (PySem.strKind prog w) a ws∧RKs prog w LI φ ca kvs ws∧(a==sysModules)=false:=by
 cases v with
 | cell k =>
  replace e:cellD σ.cells[k]?=some kvs:=e
  exact (cell_dict (cellD_inv e) h r).elim fun a z=>z.elim fun ws z=>⟨a,ws,z.1,z.2.2.2.2.1,z.2.2.2.2.2,beq_eq_false_iff_ne.mpr (h.no1 z.2.2.2.1)⟩
 | dct kvs'=>exact r.inv.elim fun a z=>z.elim fun o z=>z.elim fun ws z=>⟨a,ws,z.1,Heap.dictOf_iff.mpr ⟨o,h.hp.fz _ _ z.2.2.1,z.2.2.2.1⟩,Option.some.inj e▸z.2.2.2.2,beq_eq_false_iff_ne.mpr z.2.1⟩
 | _=>exact nsm rfl e
theorem dict_in {env:Env} {cv:List (Str×V)} {σ:Ab} {v:V} {x:Str} {u u':Value} {kvs:List (Str×V)} (e:dictV v σ.cells=some kvs) (h:At prog w LI env cv L F σ φ ca s) (r:RV prog w LI φ ca (.str x) u) (r':RV prog w LI φ ca v u') :
  Goal prog w LI env cv L F (RVr prog w LI) (.ok (.bool (kvs.lookup x).isSome)) σ φ ca s (fun Q E=>wpAny (model prog w) A (compareOp .In u u') Q E s):=by
 obtain ⟨t,rfl⟩:=r.str_inv
 obtain ⟨a,ws,rfl,hd,hr,hs⟩:=dict_inv e h r'
 have hb:(valueAt ws x).isSome=(kvs.lookup x).isSome:=by
  cases q:kvs.lookup x with
  | none=>rw [hr.at.2 q];rfl
  | some v=>obtain ⟨u,h1,_⟩:=hr.at.1 q;rw [h1];rfl
 exact (Goal.now (s':={ s with toks:=s.toks+1 }) h rfl ⟨rfl,rfl,rfl⟩ RV.bool).map fun Q E q=>wpAny_in_of (knd:=PySem.strKind prog w) (k:=x) (strKind_is prog w x t) hs hd.mapOf (hb▸q)
theorem dict_get {env:Env} {cv:List (Str×V)} {σ:Ab} {v y:V} {x:Str} {u u':Value} {kvs:List (Str×V)} {value slice:Expr} (e:dictV v σ.cells=some kvs) (hy:kvs.lookup x=some y) (hn:notSlice slice=true) (h:At prog w LI env cv L F σ φ ca s) (r:RV prog w LI φ ca (.str x) u) (r':RV prog w LI φ ca v u') :
  Goal prog w LI env cv L F (RVr prog w LI) (.ok y) σ φ ca s (fun Q E=>wpAny (model prog w) A (subscriptTail value slice u' u) Q E s):=by
 obtain ⟨t,rfl⟩:=r.str_inv
 obtain ⟨a,ws,rfl,hd,hr,hs⟩:=dict_inv e h r'
 obtain ⟨z,h1,rz⟩:=hr.at.1 hy
 exact (Goal.now (s':={ s with toks:=s.toks+1 }) h rfl ⟨rfl,rfl,rfl⟩ rz).map fun Q E q=>tail_any hd.typeIs slot_dict_getitem.lookup (wpAny_getItem_of (knd:=PySem.strKind prog w) (k:=x) (strKind_is prog w x t) hd.mapOf h1 q) (notSlice_sub hn)
theorem dict_set {env:Env} {cv:List (Str×V)} {σ:Ab} {k:Nat} {y:V} {x:Str} {u u' uy:Value} {kvs:List (Str×V)} (hk:σ.cells[k]?=some (.dict kvs)) (hz:kvs.length<1000000) (h:At prog w LI env cv L F σ φ ca s) (r:RV prog w LI φ ca (.str x) u) (r':RV prog w LI φ ca (.cell k) u') (ry:RV prog w LI φ ca y uy) :
  Goal prog w LI env cv L F (fun (_:Unit) _ _ (_:Unit)=>True) (.ok ()) ⟨σ.loc,σ.cells.set k (.dict (putK kvs x y))⟩ φ ca s (fun Q E=>wpAny (model prog w) A (setItem u' u uy) Q E s):=by
 intro Q E k1 _
 refine r.str_inv.elim fun t q=>(cell_dict hk h r').elim fun a z=>z.elim fun ws z=>q▸z.1▸?_
 refine wpAny_setItem_pairs (knd:=PySem.strKind prog w) (k:=x) (strKind_is prog w x t) z.2.2.2.2.1 (fun h' hd' hs'=>(Heap.dictOf_iff.mp hd').elim fun o' d=>?_) (by rw [z.2.2.2.2.2.len];exact Nat.le_trans (Nat.le_of_lt hz) (by decide))
 exact k1 () φ ca () { s with heap:=h',toks:=s.toks+1 } rfl (Pst.setCell h z.2.1 hk nofun (fun y o e _ h2=>(hs'.2 y h2).trans e) (fun m hn=>hn.sameBut hs' (fun y=>z.2.2.1 (y▸.head _))) d.1 ⟨_,d.2,z.2.2.2.2.2.put ry⟩ ⟨rfl,rfl,rfl⟩) trivial
end
section
open PySem PySem.W PySem.Calls PyProof.Rows PySem.SeqAt
noncomputable def V.eq2:V→V→Bool
 | .str a=>fun y=>match y with
  | .str b=>a==b
  | _=>false
 | .int a=>fun y=>match y with
  | .int b=>a==b
  | _=>false
 | .tr x=>fun v=>match v with
  | .tr y=>x.eq y
  | _=>false
 | _=>fun _=>false
noncomputable def eqs (xs ys:List V) (j:Nat):Bool:=(xs[j]?.bind fun a=>ys[j]?.map fun b=>a.eq2 b).getD false
noncomputable def eqL:List V→List V→Bool
 | []=>fun l=>l.isEmpty
 | a::xs=>fun l=>match l with
  | []=>false
  | b::ys=>a.eq2 b&&eqL xs ys
theorem eqL_range:∀ xs ys:List V,((List.range (min xs.length ys.length)).all (eqs xs ys)&&xs.length==ys.length)=eqL xs ys:=by
 intro xs
 induction xs with
 | nil=>intro ys;cases ys<;>(rw [List.length_nil,Nat.zero_min];rfl)
 | cons a xs ih =>
  intro ys
  cases ys with
  | nil=>rw [List.length_nil,Nat.min_zero];rfl
  | cons b ys =>
   rw [List.length_cons,List.length_cons,Nat.succ_min_succ,List.range_succ_eq_map,List.all_cons,List.all_map,Bool.and_assoc]
   show (a.eq2 b&&((List.range (min xs.length ys.length)).all (eqs xs ys)&&(xs.length+1==ys.length+1)))=(a.eq2 b&&eqL xs ys)
   rw [←ih ys,show (xs.length+1==ys.length+1)=(xs.length==ys.length) from Bool.eq_iff_iff.mpr ⟨fun h=>beq_iff_eq.mpr (Nat.succ.inj (beq_iff_eq.mp h)),fun h=>beq_iff_eq.mpr (congrArg _ (beq_iff_eq.mp h))⟩]
theorem T.eq_un (x y:T):x.eq y=((List.range (min x.un.length y.un.length)).all (eqs x.un y.un)&&x.un.length==y.un.length):=by
 rw [eqL_range]
 cases x with
 | n a=>cases y<;>first | exact (Bool.and_true (decide (_=_))).symm | kernel_rfl
 | ni a=>cases y<;>first | exact (Bool.and_true (decide (_=_))).symm | kernel_rfl
 | mo a=>cases y<;>first | exact (Bool.and_true (T.eq _ _)).symm | kernel_rfl
 | fa a=>cases y<;>first | exact (Bool.and_true (T.eq _ _)).symm | kernel_rfl
 | su a b=>cases y<;>first | exact congrArg (a.eq _&&·) (Bool.and_true (T.eq _ _)).symm | kernel_rfl
 | _=>cases y<;>kernel_rfl
theorem mem2 {P:V→Prop} {a b v:V} (h:v∈[a,b]) (h1:P a) (h2:P b):P v:=(List.mem_cons.mp h).elim (fun e=>e▸h1) fun h=>List.mem_singleton.mp h▸h2
theorem kind_elim {P:V→Prop} {x:T} {v:V} (hv:v∈x.un) (h1:∀ a,P (.str a)) (h2:∀ a,P (.int a)) (h3:∀ t:T,t.dp<x.dp→P (.tr t)):P v:=by
 cases x with
 | n s=>exact mem2 hv (h1 _) (h1 _)
 | ni s=>exact mem2 hv (h1 _) (h2 _)
 | rex=>exact mem2 hv (h1 _) (h1 _)
 | tom=>exact mem2 hv (h1 _) (h1 _)
 | mo t=>exact mem2 hv (h1 _) (h3 t (Nat.lt_succ_self _))
 | fa t=>exact mem2 hv (h1 _) (h3 t (Nat.lt_succ_self _))
 | su a b=>exact (List.mem_cons.mp hv).elim (fun e=>e▸h1 _) fun h=>mem2 h (h3 a (Nat.lt_succ_of_le (Nat.le_max_left ..))) (h3 b (Nat.lt_succ_of_le (Nat.le_max_right ..)))
section
variable {prog:Program} {w:World} {LI:Nat→Option LamInfo} {φ:Mp} {ca:List Addr} {s:Shared}
theorem RV.tr_inv {x:T} {u:Value} (r:RV prog w LI φ ca (.tr x) u):∃ us a,u=.ref a∧RVs prog w LI φ ca x.un us∧φ a=some (tu us):=r.inv
theorem RVs.len_eq {vs ws:List V} {us:List Value} (r:RVs prog w LI φ ca vs us) (q:RVs prog w LI φ ca ws us):vs.length=ws.length:=r.len.symm.trans q.len
theorem RVs.nth {xs:List V} {us:List Value} (r:RVs prog w LI φ ca xs us) {j:Nat} (h:j<us.length):∃ x,xs[j]?=some x∧x∈xs∧RV prog w LI φ ca x us[j] :=
 have e:=List.getElem?_eq_getElem (l:=xs) (i:=j) (by rw [←r.len];exact h)
 ⟨_,e,List.mem_of_getElem? e,(r.get e).elim fun u k=>smi (List.getElem?_eq_getElem h) k.1▸k.2⟩
theorem eqs_is {xs ys:List V} {j:Nat} {x y:V} (h:xs[j]?=some x) (k:ys[j]?=some y):eqs xs ys j=x.eq2 y:=by unfold eqs;rw [h,k];rfl
theorem T.eq_refl:∀ x:T,x.eq x=true
 | .n a=>decide_eq_true rfl
 | .ni a=>decide_eq_true rfl
 | .rex=>rfl
 | .tom=>rfl
 | .mo t=>T.eq_refl t
 | .fa t=>T.eq_refl t
 | .su a b=>Bool.and_eq_true_iff.mpr ⟨T.eq_refl a,T.eq_refl b⟩
theorem vi {P:Prop} {a:Str} {t:Tok} {i:Int} {t':Tok} {u:Value} (h:u=.str a t) (k:u=.int i t'):P:=nomatch h.symm.trans k
theorem vr_ {P:Prop} {a:Str} {t:Tok} {b:Addr} {u:Value} (h:u=.str a t) (k:u=.ref b):P:=nomatch h.symm.trans k
theorem ir_ {P:Prop} {a:Int} {t:Tok} {b:Addr} {u:Value} (h:u=.int a t) (k:u=.ref b):P:=nomatch h.symm.trans k
theorem tr_det:∀ (n:Nat) (x y:T) (u:Value),x.dp≤n→RV prog w LI φ ca (.tr x) u→RV prog w LI φ ca (.tr y) u→x.eq y=true:=by
 intro n
 induction n using Nat.strongRecOn with
 | ind n ih =>
  intro x y u hn r q
  refine r.tr_inv.elim fun us k=>k.elim fun a k=>q.tr_inv.elim fun us' k'=>k'.elim fun a' k'=>?_
  have e2:=smi k.2.2 ((congrArg φ (Value.ref.inj (k.1.symm.trans k'.1))).trans k'.2.2)
  have hus:us=us':=congrArg (fun o:Obj=>match o.data with | .fields v=>v.toList | .seq v _=>v.toList | _=>[]) e2
  have q1:=hus▸k'.2.1
  have r1:=k.2.1
  rw [T.eq_un,r1.len_eq q1,Bool.and_eq_true,beq_self_eq_true,Nat.min_self]
  refine ⟨List.all_eq_true.mpr fun j hj=>?_,rfl⟩
  have hj':j<us.length:=by rw [q1.len];exact List.mem_range.mp hj
  refine (r1.nth hj').elim fun v z=>(q1.nth hj').elim fun v' z'=>?_
  rw [eqs_is z.1 z'.1]
  refine kind_elim (P:=fun v=>RV prog w LI φ ca v us[j]→v.eq2 v'=true) z.2.1 (fun b k1=>?_) (fun b k1=>?_) (fun b lt k1=>?_) z.2.2<;>refine kind_elim (P:=fun v'=>RV prog w LI φ ca v' us[j]→V.eq2 _ v'=true) z'.2.1 (fun c k2=>?_) (fun c k2=>?_) (fun c _ k2=>?_) z'.2.2
  ·exact k1.str_inv.elim fun _ z1=>k2.str_inv.elim fun _ z2=>beq_iff_eq.mpr (Value.str.inj (z1.symm.trans z2)).1
  ·exact k1.str_inv.elim fun _ z1=>k2.int_inv.elim fun _ z2=>vi z1 z2
  ·exact k1.str_inv.elim fun _ z1=>k2.tr_inv.elim fun _ k=>k.elim fun _ z2=>vr_ z1 z2.1
  ·exact k1.int_inv.elim fun _ z1=>k2.str_inv.elim fun _ z2=>vi z2 z1
  ·exact k1.int_inv.elim fun _ z1=>k2.int_inv.elim fun _ z2=>beq_iff_eq.mpr (Value.int.inj (z1.symm.trans z2)).1
  ·exact k1.int_inv.elim fun _ z1=>k2.tr_inv.elim fun _ k=>k.elim fun _ z2=>ir_ z1 z2.1
  ·exact k2.str_inv.elim fun _ z1=>k1.tr_inv.elim fun _ k=>k.elim fun _ z2=>vr_ z1 z2.1
  ·exact k2.int_inv.elim fun _ z1=>k1.tr_inv.elim fun _ k=>k.elim fun _ z2=>ir_ z1 z2.1
  ·exact ih b.dp (Nat.lt_of_lt_of_le lt hn) b c _ (Nat.le_refl _) k1 k2
theorem tr_rc (hz:∀ a o,φ a=some o→s.heap.get? a=some o):∀ (n:Nat) (x y:T) (u v:Value) (A:Around),x.dp≤n→A.units+n+1<cLine→RV prog w LI φ ca (.tr x) u→RV prog w LI φ ca (.tr y) v→RcAt A s u v (x.eq y)∧RcNeAt A s u v (!x.eq y)∧EqAt A s u v (x.eq y):=by
 intro n
 induction n using Nat.strongRecOn with
 | ind n ih =>
  intro x y u v A hn hA r q
  have hA1:A.units+1<cLine:=Nat.lt_of_le_of_lt (Nat.add_le_add_right (Nat.le_add_right ..) 1) hA
  refine r.tr_inv.elim fun us k=>k.elim fun a k=>q.tr_inv.elim fun ws k'=>k'.elim fun b k'=>?_
  have he:∀ j (h1:j<us.toArray.size) (h2:j<ws.toArray.size),EqAt A.in1 s us.toArray[j] ws.toArray[j] (eqs x.un y.un j):=by
   intro j h1 h2
   refine (k.2.1.nth (j:=j) h1).elim fun v z=>(k'.2.1.nth (j:=j) h2).elim fun v' z'=>?_
   rw [eqs_is z.1 z'.1]
   show EqAt A.in1 s us[j] ws[j] _
   refine kind_elim (P:=fun v=>RV prog w LI φ ca v us[j]→EqAt A.in1 s us[j] ws[j] (v.eq2 v')) z.2.1 (fun b k1=>?_) (fun b k1=>?_) (fun b lt k1=>?_) z.2.2<;>refine kind_elim (P:=fun v'=>RV prog w LI φ ca v' ws[j]→EqAt A.in1 s us[j] ws[j] (V.eq2 _ v')) z'.2.1 (fun c k2=>?_) (fun c k2=>?_) (fun c _ k2=>?_) z'.2.2
   ·exact k1.str_inv.elim fun _ z1=>k2.str_inv.elim fun _ z2=>z1▸z2▸EqAt.str_str _ _ _ _
   ·exact k1.str_inv.elim fun _ z1=>k2.int_inv.elim fun _ z2=>z1▸z2▸EqAt.str_int _ _ _ _
   ·exact k1.str_inv.elim fun _ z1=>k2.tr_inv.elim fun _ k=>k.elim fun _ z2=>z1▸z2.1▸EqAt.str_tuple _ _ ⟨_,hz _ _ z2.2.2,rfl,_,rfl⟩ hA1
   ·exact k1.int_inv.elim fun _ z1=>k2.str_inv.elim fun _ z2=>z1▸z2▸EqAt.int_str _ _ _ _
   ·exact k1.int_inv.elim fun _ z1=>k2.int_inv.elim fun _ z2=>z1▸z2▸EqAt.int_int _ _ _ _
   ·exact k1.int_inv.elim fun _ z1=>k2.tr_inv.elim fun _ k=>k.elim fun _ z2=>z1▸z2.1▸EqAt.int_tuple _ _ ⟨_,hz _ _ z2.2.2,rfl,_,rfl⟩ hA1
   ·exact k2.str_inv.elim fun _ z1=>k1.tr_inv.elim fun _ k=>k.elim fun _ z2=>z1▸z2.1▸EqAt.tuple_str _ _ ⟨_,hz _ _ z2.2.2,rfl,_,rfl⟩ hA1
   ·exact k2.int_inv.elim fun _ z1=>k1.tr_inv.elim fun _ k=>k.elim fun _ z2=>z1▸z2.1▸EqAt.tuple_int _ _ ⟨_,hz _ _ z2.2.2,rfl,_,rfl⟩ hA1
   ·exact (ih b.dp (Nat.lt_of_lt_of_le lt hn) b c _ _ A.in1 (Nat.le_refl _) (Nat.lt_of_le_of_lt (Nat.add_le_add_right (by show A.units+1+b.dp≤A.units+n;rw [Nat.add_assoc,Nat.add_comm 1];exact Nat.add_le_add_left (Nat.lt_of_lt_of_le lt hn) _) 1) hA) k1 k2).2.2
  have key:RcAt A s (.ref a) (.ref b) (x.eq y)∧RcNeAt A s (.ref a) (.ref b) (!x.eq y):=by
   have hl:s.heap.IsTuple a us.toArray:=⟨_,hz _ _ k.2.2,rfl,_,rfl⟩
   have hb:s.heap.IsTuple b ws.toArray:=⟨_,hz _ _ k'.2.2,rfl,_,rfl⟩
   have hA':A.units<cLine:=Nat.lt_of_succ_lt hA1
   rw [T.eq_un,← k.2.1.len,← k'.2.1.len]
   exact ⟨RcAt.tuples hl hb hA' he,RcNeAt.tuples hl hb hA' he⟩
  rw [k.1,k'.1]
  refine ⟨key.1,key.2,?_⟩
  by_cases z:a=b
  ·rw [tr_det _ x y _ (Nat.le_refl _) r (k.1.trans ((congrArg Value.ref z).trans k'.1.symm)▸q),z]
   exact EqAt.same _
  ·exact EqAt.of_refs z key.1
end
end
section
open PySem PySem.W PySem.Calls PyProof.Rows PySem.SeqAt
noncomputable def bdOk (P:Params):Bool:=(findIn (K P) (.ref 1020) "__contains__"== some (some (.ref 1003)))&&isFn (K P) (.ref 1003)&&(findIn (K P) (.ref 1020) "__getitem__"== some (some (.ref 996)))&&fnIn (K P) 996&&isFn (K P) (.ref 996) &&
 selfFirst (K P) 1020&&(findIn (K P) (.ref 1020) (PySem.dunder (Operator.Add).info.2)==some (some (.ref 1010)))&&isFn (K P) (.ref 1010)&&noSeq (K P) 1020&&(findIn (K P) (.ref 1020) "__setitem__"== some (some (.ref 989)))&&isFn (K P) (.ref 989)
theorem bd_ok (P:Params):bdOk P=true:=by kernel_rfl
section
variable {prog:Program} {w:World} {LI:Nat→Option LamInfo} {Γ:Gam} {A:Around} {a:Addr} {cl:List (Str×Addr)} {L:Addr} {F:List Addr} {outer:List Env} {φ:Mp} {ca:List Addr} {s:Shared}
theorem raw?_inv {v:V} {p:Nat×Nat} (h:v.raw?=some p):v=.raw p.1 p.2:=by
 cases v<;>first | exact (Option.some.inj h)▸rfl | exact nsm rfl h
theorem RV.raw_inv {C k:Nat} {u:Value} (r:RV prog w LI φ ca (.raw C k) u):∃ x dx,u=.ref x∧φ x=some (instObj C dx)∧ca[k]?=some dx:=r.inv
theorem bd_at {env:Env} {cv:List (Str×V)} {σ:Ab} {d:List (Str×X)} {u:Value} (h:At prog w LI env cv L F σ φ ca s) (r:RV prog w LI φ ca (.bd d) u) :
  ∃ x dx od,u=.ref x∧InstAt s.heap x (instObj 1020 dx) 1020 (some od):=inst_at h r rfl
theorem raw_at {env:Env} {cv:List (Str×V)} {σ:Ab} {k:Nat} {u:Value} (h:At prog w LI env cv L F σ φ ca s) (r:RV prog w LI φ ca (.raw 1020 k) u) :
  ∃ x dx od,u=.ref x∧InstAt s.heap x (instObj 1020 dx) 1020 (some od) :=
 r.raw_inv.elim fun x q=>q.elim fun dx q=>(h.hp.cel k _ dx (List.getElem?_eq_getElem (by rw [←h.hp.len];exact (List.getElem?_eq_some_iff.mp q.2.2).1)) q.2.2).2.elim fun o z=>⟨x,dx,o,q.1,⟨h.hp.fz _ _ q.2.1,rfl,rfl,z.1⟩⟩
theorem fl_inv {c:Cell} {fs:List (Str×V)} (h:c.fl=some fs):c=.flds fs:=by
 cases c<;>first | exact congrArg Cell.flds (Option.some.inj h) | exact nsm rfl h
theorem attrC_op {env:Env} {cv:List (Str×V)} {σ:Ab} {o v:V} {ov:Value} {x:Str} {expr:Bool} (e:attrC o x σ.cells=some v) (h:At prog w LI env cv L F σ φ ca s) (r:RV prog w LI φ ca o ov) :
  Goal prog w LI env cv L F (RVr prog w LI) (.ok v) σ φ ca s (fun Q E=>wpAny (model prog w) A (getAttr ov x expr) Q E s):=by
 refine (Option.or_eq_some_iff.mp e).elim (fun e=>attrV_op e h r) fun e=>(Option.bind_eq_some_iff.mp e.2).elim fun p q=>(Option.bind_eq_some_iff.mp q.2).elim fun c q2=>(Option.bind_eq_some_iff.mp q2.2).elim fun fs q3=>?_
 have e:=ifs (b:=lookA attrL p.1 x&&fs.all (fun p=>p.2.nbi)) q3.2
 have hc:=Bool.and_eq_true_iff.mp e.1
 rw [raw?_inv q.1] at r
 refine r.raw_inv.elim fun y z=>z.elim fun dx z=>(h.hp.cel p.2 _ dx (q2.1.trans (congrArg some (fl_inv q3.1))) z.2.2).2.elim fun ob t=>(t.2.resolve_left nofun).2.elim fun es y=>y.elim fun n y=>(y.2.get.1 e.2).elim fun u g=>z.1▸?_
 exact fun Q E k1 _=>get_own h.kin ⟨h.hp.fz _ _ z.2.1,rfl,rfl,y.1▸t.1⟩ (lookA_mem hc.1) g.1 (g.2.handed (lookup_all hc.2 e.2)) (k1 _ _ _ _ _ rfl (Pst.to h rfl ⟨rfl,rfl,rfl⟩) g.2)
theorem vr_items {l:List Str} {us:List Value} (r:RVs prog w LI φ ca (l.map .vr) us):us.length=l.length:=by rw [r.len,List.length_map]
theorem RV.str_det {x y:Str} {u:Value} (r:RV prog w LI φ ca (.str x) u) (q:RV prog w LI φ ca (.str y) u):x=y :=
 r.str_inv.elim fun _ z1=>q.str_inv.elim fun _ z2=>(Value.str.inj (z1.symm.trans z2)).1
theorem vr_det {x y:Str} {u:Value} (r:RV prog w LI φ ca (.vr x) u) (q:RV prog w LI φ ca (.vr y) u):x=y:=by
 refine (r.inst_inv rfl).elim fun a k=>k.elim fun dx k=>k.elim fun es k=>k.elim fun n k=>(q.inst_inv rfl).elim fun a' k'=>k'.elim fun dx' k'=>k'.elim fun es' k'=>k'.elim fun n' k'=>?_
 have e1:dx=dx':=Option.some.inj (congrArg Obj.dict (smi k.2.1 ((congrArg φ (Value.ref.inj (k.1.symm.trans k'.1))).trans k'.2.1)))
 have e2:es=es':=congrArg (fun o:Obj=>match o.data with | .dict v _=>v.toList | _=>[]) (smi k.2.2.1 ((congrArg φ e1).trans k'.2.2.1))
 refine k.2.2.2.uncons.elim fun _ z=>z.elim fun _ z=>z.elim fun u1 z=>z.elim fun _ z=>k'.2.2.2.uncons.elim fun _ z'=>z'.elim fun _ z'=>z'.elim fun u2 z'=>z'.elim fun _ z'=>?_
 have e3:u1=u2:=congrArg DictEntry.val (List.cons.inj (z.1.symm.trans (e2.trans z'.1))).1
 exact z.2.1.str_det (e3▸z'.2.1)
theorem eqBool_of {u v:Value} {Q:Bool→Shared→Prop} {E:Value→Shared→Prop} (hn:∀ x t y t',u=.float x t→v=.float y t'→False) (h1:u=v→Q true s) (h2:u≠v→wpAny (model prog w) A (richCompare .Eq u v) (fun c s'=>wpAny (model prog w) A (truthOfDropped c) Q E s') E s):wpAny (model prog w) A (eqBool u v) Q E s:=by
 unfold eqBool
 refine wpAny_holding ?_
 refine wpAny_ite_split (fun hab=>wpAny_bind (wpAny_rule (wpAny_pure (h1 (eq_of_beq hab))))) (fun hab=>?_)
 have hne:u≠v:=fun z=>hab (by rw [z];exact beq_self_eq_true _)
 have fin:wpAny (model prog w) A (do let c←richCompare .Eq u v;truthOfDropped c) Q E s:=wpAny_bind (h2 hne)
 cases u<;>first | exact fin | skip
 cases v<;>first | exact fin | exact (hn _ _ _ _ rfl rfl).elim
end
end
section
open AutoSeq1 (wpAny_loadPart')
section
variable {prog:Program} {w:World} {LI:Nat→Option LamInfo} {Γ:Gam} {A:Around} {a:Addr} {cl:List (Str×Addr)} {L:Addr} {F:List Addr} {outer:List Env}
theorem vr_eqBool (S:Site L F Γ A a cl outer) (hV:VarEqP prog w LI Γ) {φ:Mp} {ca:List Addr} {s:Shared} {σ:Ab} {x y:Str} {u v:Value} (h:At prog w LI (eN Γ L a cl) Γ.cv L F σ φ ca s) (r:RV prog w LI φ ca (.vr y) u) (r':RV prog w LI φ ca (.vr x) v) :
  Goal prog w LI (eN Γ L a cl) Γ.cv L F RBr (.ok (y==x)) σ φ ca s (fun Q E=>wpAny (model prog w) A.in1 (eqBool u v) Q E s):=by
 intro Q E q1 q2
 refine eqBool_of (fun z t z' t' e _=>(r.inst_inv rfl).elim fun _ k=>k.elim fun _ k=>k.elim fun _ k=>k.elim fun _ k=>nomatch k.1.symm.trans e) (fun e=>?_) (fun _=>?_)
 ·exact q1 _ φ ca _ s rfl (Pst.refl h) ((beq_iff_eq.mpr (vr_det r (e▸r'))).symm)
 ·refine (inst_at h r rfl).elim fun b k=>k.elim fun dx k=>k.elim fun od k=>(inst_at h r' rfl).elim fun c k'=>k'.elim fun dy k'=>k'.elim fun od' k'=>h.fr.elim fun m hm=>?_
  have ok:=Bool.and_eq_true_iff.mp (List.all_eq_true.mp (cmp_ok w.params) _ (show (129,129,112)∈cmpL from .head _))
  have o1:=Bool.and_eq_true_iff.mp ok.1
  rw [k.1] at r ⊢
  rw [k'.1] at r' ⊢
  refine cmp_K (S.ok.in1.lt).2 (fr_of h.kin hm.1 h.big) (Hb_K _) k.2 k'.2.type o1.1 (beq_iff_eq.mp o1.2) ok.2 (callV_sound (σ:=⟨σ.loc,σ.cells,[.c (.ok (.bool (y==x)))]⟩) S S.ok.in1.down rfl (rfl:callV prog w LI Γ (.fn 112) [.vr y,.vr x] ⟨σ.loc,σ.cells,[.c (.ok (.bool (y==x)))]⟩=_) (show AllP [_] from ⟨hV y x,trivial⟩) h (RV.fn (a:=112)) (.cons r (.cons r' .nil)) _ E (fun b' φ' ca' t s' eo pst rr=>?_) (fun _ _ _ _ _ e=>n_oe e))
  have eb:V.bool (y==x)=b':=Res.ok.inj eo
  rw [(eb▸rr:RV prog w LI φ' ca' (.bool (y==x)) t).bool_inv]
  exact wpAny_truthy_bool (q1 _ φ' ca' _ s' rfl pst rfl)
theorem vin_loop (S:Site L F Γ A a cl outer) (hV:VarEqP prog w LI Γ) {φ₀:Mp} {ca:List Addr} {s₀:Shared} {σ:Ab} {ys:List Str} {x:Str} {xv:Value} {l:Addr} {R:Result→Shared→Prop}
  (h0:At prog w LI (eN Γ L a cl) Γ.cv L F σ φ₀ ca s₀) (rx:RV prog w LI φ₀ ca (.vr x) xv)
  (hl:∀ φ ca' s,Pst prog w LI (eN Γ L a cl) Γ.cv L F σ φ₀ ca s₀ φ ca' s→∃ us n,s.heap.get? l=some (listOf us.toArray n)∧RVs prog w LI φ ca' (ys.map .vr) us)
  (hR:∀ φ ca' s,Pst prog w LI (eN Γ L a cl) Γ.cv L F σ φ₀ ca s₀ φ ca' s→R (.ok (.ret (.bool (ys.any (·==x))))) s) :
  ∀ (k i:Nat) (φ:Mp) (ca':List Addr) (s:Shared),ys.length - i=k→Pst prog w LI (eN Γ L a cl) Γ.cv L F σ φ₀ ca s₀ φ ca' s→(ys.take i).any (·==x)=false →
   wpAny (model prog w) A.in1 (Builtin.«list.__contains__.loop» ⟨[.ref l,xv,rawInt i],[]⟩) (fun fin s'=>match fin with | .done f=>R (.ok f) s' | .again c'=>c'.quiet=true∧codeAny (model prog w) A c' R s') (fun e s'=>R (.error e) s') s:=by
 intro k
 induction k with
 | zero =>
  intro i φ ca' s hk pst hno
  obtain ⟨us,n,ho,rs⟩:=hl φ ca' s pst
  have hlen:us.length=ys.length:=vr_items rs
  have fin:=hR φ ca' s pst
  rw [List.take_of_length_le (by omega)] at hno
  rw [hno] at fin
  obtain ⟨hp,g,d,tk,os⟩:=s
  wp_walk using wpAny_loadPart' ho
  have hi:us.toArray[((i:Nat):Int).toNat]?=none:=by simp;omega
  rw [hi]
  wp_walk
  exact fin
 | succ k ih =>
  intro i φ ca' s hk pst hno
  obtain ⟨us,n,ho,rs⟩:=hl φ ca' s pst
  have hlen:us.length=ys.length:=vr_items rs
  have hlt:i<us.length:=by omega
  have hy:(ys.map V.vr)[i]?=some (.vr (ys[i]'(by omega))):=by rw [List.getElem?_map,List.getElem?_eq_getElem (by omega)];rfl
  obtain ⟨u,hu,ru⟩:=RVs.get rs hy
  have hi:us.toArray[((i:Nat):Int).toNat]?=some u:=by simpa using hu
  have g:=vr_eqBool S hV pst.at_ ru (rx.mono pst.stp.le pst.pre)
  have hdr:ys.take (i+1)=ys.take i++[ys[i]'(by omega)]:=(List.take_append_getElem (by omega)).symm
  have main:wpAny (model prog w) A.in1 (eqBool u xv) (fun b s'=>if b then R (.ok (.ret (.bool true))) s' else (Code.builtin "list.__contains__.loop" ⟨[.ref l,xv,rawInt (i+1)],[]⟩).quiet=true∧codeAny (model prog w) A (.builtin "list.__contains__.loop" ⟨[.ref l,xv,rawInt (i+1)],[]⟩) R s') (fun e s'=>R (.error e) s') s:=by
   refine g _ _ (fun b φ' ca'' v s' eo p' rb=>?_) (fun c φ' ca'' e s' eo=>by cases eo)
   cases eo
   cases rb
   cases hb:((ys[i]'(by omega))==x) with
   | true =>
    have fin:=hR _ _ _ (pst.trans p')
    have:ys.any (·==x)=true:=List.any_eq_true.mpr ⟨_,List.getElem_mem (by omega),hb⟩
    rw [this] at fin
    simpa using fin
   | false =>
    refine ⟨plainId_quiet MeetsSeq.plain_contains_loop _,codeAny_builtin MeetsSeq.entry_contains_loop ?_⟩
    rw [Around.under_plainId MeetsSeq.plain_contains_loop _]
    refine ih (i+1) _ _ _ (by omega) (pst.trans p') ?_
    rw [hdr,List.any_append,hno]
    simpa using hb
  obtain ⟨hp,g',d,tk,os⟩:=s
  wp_walk using wpAny_loadPart' ho
  rw [hi]
  refine wpAny_bind (wpAny_mono main (fun b s' hb=>?_) fun _ _ e=>e)
  obtain ⟨hp,g',d,tk,os⟩:=s'
  have hc:((i:Int)+1)=((i+1:Nat):Int):=by push_cast;rfl
  cases b with
  | true=>wp_walk;exact hb
  | false=>wp_walk;exact hb
end
end
section
open AutoSeq1 (wpAny_loadPart')
section
variable {prog:Program} {w:World} {LI:Nat→Option LamInfo} {Γ:Gam} {A:Around} {a:Addr} {cl:List (Str×Addr)} {L:Addr} {F:List Addr} {outer:List Env} {φ:Mp} {ca:List Addr} {s:Shared}
theorem int?_inv {v:V} {x:Int} (h:v.int?=some x):v=.int x:=by
 cases v<;>first | exact congrArg V.int (Option.some.inj h) | exact nsm rfl h
theorem tr?_inv {v:V} {x:T} (h:v.tr?=some x):v=.tr x:=by
 cases v<;>first | exact congrArg V.tr (Option.some.inj h) | exact nsm rfl h
theorem vr?_inv {v:V} {x:Str} (h:v.vr?=some x):v=.vr x:=by
 cases v<;>first | exact congrArg V.vr (Option.some.inj h) | exact nsm rfl h
theorem bool?_inv {v:V} {x:Bool} (h:v.bool?=some x):v=.bool x:=by
 cases v<;>first | exact congrArg V.bool (Option.some.inj h) | exact nsm rfl h
theorem ls_inv {c:Cell} {l:List V} (h:c.ls=some l):c=.list l:=by
 cases c<;>first | exact congrArg Cell.list (Option.some.inj h) | exact nsm rfl h
theorem bdI {α β:Type} {P:Prop} {x:Option α} {f:α→Option β} {y:β} (e:x.bind f=some y) (h:∀ a,x=some a→f a=some y→P):P:=(Option.bind_eq_some_iff.mp e).elim fun a k=>h a k.1 k.2
theorem cmpL_x (x y:X):(x.cls,y.cls,x.eqf)∈cmpL:=by
 cases x<;>cases y<;>first | exact cl1 | exact cl2 | exact cl3 | exact cl4 | exact cl5 | exact cl6 | exact cl7 | exact cl8 | exact cl9
theorem Site.u66 (S:Site L F Γ A a cl outer):A.units+66<cLine:=Nat.lt_of_le_of_lt (Nat.add_le_add_right (Nat.le_trans (Nat.le_add_right ..) S.ok.2.2) 66) (by decide)
theorem in_vars (S:Site L F Γ A a cl outer) (hV:VarEqP prog w LI Γ) {σ:Ab} {ys:List Str} {x:Str} {xv:Value} {l:Addr}
  (h0:At prog w LI (eN Γ L a cl) Γ.cv L F σ φ ca s) (rx:RV prog w LI φ ca (.vr x) xv)
  (hl:∀ φ' ca' s',Pst prog w LI (eN Γ L a cl) Γ.cv L F σ φ ca s φ' ca' s'→∃ us n,s'.heap.get? l=some (listOf us.toArray n)∧RVs prog w LI φ' ca' (ys.map .vr) us) (neg:Bool) :
  Goal prog w LI (eN Γ L a cl) Γ.cv L F (RVr prog w LI) (.ok (.bool (ng neg (ys.any (·==x))))) σ φ ca s (fun Q E=>wpAny (model prog w) A (compareOp (if neg then .NotIn else .In) xv (.ref l)) Q E s):=by
 intro Q E k1 k2
 obtain ⟨us,n,ho,_⟩:=hl φ ca s (Pst.refl h0)
 have hT:s.TypeIs (.ref l) "list":= ⟨_,ho,rfl⟩
 have go:∀ Q':Bool→Shared→Prop,(∀ φ' ca' s',Pst prog w LI (eN Γ L a cl) Γ.cv L F σ φ ca s φ' ca' s'→Q' (ys.any (·==x)) s')→wpAny (model prog w) A (contains (.ref l) xv) Q' E s:=fun Q' hQ=>by
  refine wpAny_contains_slot hT PySem.F.slot_list_contains (call_meetsIn (S:=fun A' R s'=>A'=A∧s'=s∧(∀ φ' ca' s',Pst prog w LI (eN Γ L a cl) Γ.cv L F σ φ ca s φ' ca' s'→R (.ok (.ret (.bool (ys.any (·==x))))) s')) PySem.F.slot_list_contains hT PySem.F.entry_list_contains (PySem.F.args_list_contains_2 _ _) ?_ ⟨rfl,rfl,fun φ' ca' s' p=>wpAny_truthy_bool (hQ _ _ _ p)⟩)
  rintro A' R s' ⟨rfl,rfl,hR⟩
  have lp:=vin_loop S hV h0 rx hl hR ys.length 0 φ ca s' (by simp) (Pst.refl h0) (by simp)
  obtain ⟨hp,g,d,tk,os⟩:=s'
  wp_walk
  exact ⟨plainId_quiet MeetsSeq.plain_contains_loop _,codeAny_builtin MeetsSeq.entry_contains_loop (by
   rw [Around.under_plainId MeetsSeq.plain_contains_loop _]
   exact lp)⟩
 cases neg with
 | false=>exact wpAny_bind (go _ fun φ' ca' s' p=>wpAny_pure (k1 _ _ _ _ _ rfl p RV.bool))
 | true=>exact wpAny_bind (go _ fun φ' ca' s' p=>wpAny_pure (k1 _ _ _ _ _ rfl p RV.bool))
theorem cmpEq_sound (S:Site L F Γ A a cl outer) {v v':V} {u u':Value} {σ σ':Wt} {out:Res V} {ps:List Prop} (e:cmpEq prog w LI Γ v v' σ=some (out,σ',ps)) (hp:AllP ps)
  (h:At prog w LI (eN Γ L a cl) Γ.cv L F σ.ab φ ca s) (r:RV prog w LI φ ca v u) (r':RV prog w LI φ ca v' u') :
  Goal prog w LI (eN Γ L a cl) Γ.cv L F (RVr prog w LI) out σ'.ab φ ca s (fun Q E=>wpAny (model prog w) A (compareOp .Eq u u') Q E s):=by
 cases v with
 | str x =>
  refine bdI e fun y hy e=>rt_goal e ?_
  rw [str?_inv hy] at r'
  exact r.str_inv.elim fun t q=>r'.str_inv.elim fun t' q'=>q▸q'▸(Goal.now h rfl (SameX.refl s) RV.bool).map fun Q E q=>PyProof.Rows.eq_str q
 | int x =>
  refine bdI e fun y hy e=>rt_goal e ?_
  rw [int?_inv hy] at r'
  exact r.int_inv.elim fun t q=>r'.int_inv.elim fun t' q'=>q▸q'▸(Goal.now h rfl (SameX.refl s) RV.bool).map fun Q E q=>PyProof.Rows.eq_int q
 | tr x =>
  refine bdI e fun y hy e=>ev_goal e hp fun hp=>?_
  rw [tr?_inv hy] at r'
  exact (Goal.now h rfl (SameX.refl s) RV.bool).map fun Q E q=>cmp_ofEq ((tr_rc h.hp.fz 64 x y u u' A hp.1 (Nat.lt_of_succ_lt S.u66) r r').1 prog w E Q q)
 | vr x=>exact bdI e fun y hy e=>by rw [vr?_inv hy] at r' e;exact cmpEq_op S rfl rfl (.head _) e hp h r r'
 | ex x=>exact bdI e fun y hy e=>by rw [ex?_inv hy] at r' e;exact cmpEq_op S x.inst_is y.inst_is (cmpL_x x y) e hp h r r'
 | _=>exact nsm rfl e
theorem tr_ne (hz:∀ a o,φ a=some o→s.heap.get? a=some o) {x y:T} {u v:Value} (hx:x.dp≤64) (hA:A.units+66<cLine) (r:RV prog w LI φ ca (.tr x) u) (q:RV prog w LI φ ca (.tr y) v) {Q:Value→Shared→Prop} {E:Value→Shared→Prop}
  (k:Q (.bool (!x.eq y)) s):wpAny (model prog w) A (compareOp .NotEq u v) Q E s:=cmp_ofNotEq ((tr_rc hz 64 x y u v A hx (Nat.lt_of_succ_lt hA) r q).2.1 prog w E Q k)
theorem cmpNe_sound (S:Site L F Γ A a cl outer) {v v':V} {u u':Value} {σ σ':Wt} {out:Res V} {ps:List Prop} (e:cmpNe v v' σ=some (out,σ',ps)) (hp:AllP ps)
  (h:At prog w LI (eN Γ L a cl) Γ.cv L F σ.ab φ ca s) (r:RV prog w LI φ ca v u) (r':RV prog w LI φ ca v' u') :
  Goal prog w LI (eN Γ L a cl) Γ.cv L F (RVr prog w LI) out σ'.ab φ ca s (fun Q E=>wpAny (model prog w) A (compareOp .NotEq u u') Q E s):=by
 cases v with
 | str x =>
  refine bdI e fun y hy e=>rt_goal e ?_
  rw [str?_inv hy] at r'
  exact r.str_inv.elim fun t q=>r'.str_inv.elim fun t' q'=>q▸q'▸(Goal.now h rfl (SameX.refl s) RV.bool).map fun Q E q=>PyProof.Rows.ne_str q
 | tr x =>
  refine bdI e fun y hy e=>ev_goal e hp fun hp=>?_
  rw [tr?_inv hy] at r'
  exact (Goal.now h rfl (SameX.refl s) RV.bool).map fun Q E q=>tr_ne h.hp.fz hp.1 S.u66 r r' q
 | _=>exact nsm rfl e
theorem cmpGt_sound {env:Env} {cv:List (Str×V)} {v v':V} {u u':Value} {σ σ':Wt} {out:Res V} {ps:List Prop} (e:cmpGt v v' σ=some (out,σ',ps))
  (h:At prog w LI env cv L F σ.ab φ ca s) (r:RV prog w LI φ ca v u) (r':RV prog w LI φ ca v' u') :
  Goal prog w LI env cv L F (RVr prog w LI) out σ'.ab φ ca s (fun Q E=>wpAny (model prog w) A (compareOp .Gt u u') Q E s):=by
 refine bdI e fun x hx e=>bdI e fun y hy e=>rt_goal e ?_
 rw [int?_inv hx] at r
 rw [int?_inv hy] at r'
 exact r.int_inv.elim fun t q=>r'.int_inv.elim fun t' q'=>q▸q'▸(Goal.now h rfl (SameX.refl s) RV.bool).map fun Q E q=>PyProof.Rows.gt_int q
theorem cmpInS_sound (neg:Bool) {env:Env} {cv:List (Str×V)} {x:Str} {v':V} {u u':Value} {σ σ':Wt} {out:Res V} {ps:List Prop} (e:cmpInS neg x v' σ=some (out,σ',ps))
  (h:At prog w LI env cv L F σ.ab φ ca s) (r:RV prog w LI φ ca (.str x) u) (r':RV prog w LI φ ca v' u') :
  Goal prog w LI env cv L F (RVr prog w LI) out σ'.ab φ ca s (fun Q E=>wpAny (model prog w) A (compareOp (if neg then .NotIn else .In) u u') Q E s):=by
 refine bdI e fun b hb e=>rt_goal e ?_
 refine (Option.or_eq_some_iff.mp hb).elim (fun hb=>(Option.map_eq_some_iff.mp hb).elim fun c k=>k.2▸?_) fun hb=>?_
 ·cases neg with
  | false=>exact (inV_sound k.1 h r r').1
  | true=>exact (inV_sound k.1 h r r').2
 ·have hb:=ifn hb.2
  rw [hb.1]
  exact (Option.map_eq_some_iff.mp hb.2).elim fun kvs k=>k.2▸dict_in k.1 h r r'
theorem nmV_inv {neg:Bool} {x:Str} {vs:List V} {σ:Wt} {r:Res V×Wt×List Prop}:∀ {tr:List Tr},nmV prog w LI Γ neg x vs σ tr=some r→∃ (l:List Str) (t:List Tr),r=(.ok (.bool (ng neg (l.any (·==x)))),⟨σ.loc,σ.cells,t⟩,[vs=l.map .vr,VarEqP prog w LI Γ]):=by
 intro tr e
 cases tr with
 | nil=>exact nsm rfl e
 | cons i t=>cases i<;>first | exact ⟨_,t,(Option.some.inj e).symm⟩ | exact nsm rfl e
theorem cmpInV_sound (S:Site L F Γ A a cl outer) (neg:Bool) {x:Str} {v':V} {u u':Value} {σ σ':Wt} {out:Res V} {ps:List Prop} (e:cmpInV prog w LI Γ neg x v' σ=some (out,σ',ps)) (hp:AllP ps)
  (h:At prog w LI (eN Γ L a cl) Γ.cv L F σ.ab φ ca s) (r:RV prog w LI φ ca (.vr x) u) (r':RV prog w LI φ ca v' u') :
  Goal prog w LI (eN Γ L a cl) Γ.cv L F (RVr prog w LI) out σ'.ab φ ca s (fun Q E=>wpAny (model prog w) A (compareOp (if neg then .NotIn else .In) u u') Q E s):=by
 cases v' with
 | lv l=>exact ev_goal e hp fun hp=>(r'.elems_inv rfl).elim fun us q=>q.elim fun b q=>q.elim fun n q=>q.1▸in_vars S hp.1 h r (fun φ' ca' s' p=>⟨us,n,p.at_.hp.fz _ _ (p.stp.le _ _ q.2.2),q.2.1.mono p.stp.le p.pre⟩) neg
 | cell k =>
  refine bdI e fun vs hk e=>bdI hk fun c hk hc=>(nmV_inv e).elim fun l q=>q.elim fun t q=>ev_goal (congrArg some q.symm) hp fun hp=>?_
  rw [ls_inv hc,hp.1] at hk
  exact (cell_list h hk r').elim fun b q=>q.elim fun us q=>q.elim fun n q=>q.1▸in_vars S hp.2.1 h r (fun φ' ca' s' p =>
   (cell_list p.at_ hk (r'.mono p.stp.le p.pre)).elim fun b' q'=>q'.elim fun us' q'=>q'.elim fun n' q'=>⟨us',n',Value.ref.inj (q'.1.symm.trans q.1)▸q'.2.2.1,q'.2.2.2⟩) neg
 | bd d =>
  have e:=ifn e
  rw [e.1]
  refine (bd_at h r').elim fun y q=>q.elim fun dx q=>q.elim fun od q=>h.fr.elim fun m hm=>?_
  have ok:=bd_ok w.params
  unfold bdOk at ok
  simp only [Bool.and_eq_true] at ok
  rw [q.1] at r' ⊢
  exact (Goal.seq e.2 hp (fun o σ₁ p e1 hp1=>callV_sound S S.ok.down.down rfl e1 hp1 h (RV.fn (a:=1003)) (.cons r' (.cons r .nil)))
   (K:=fun u s₁ Q E=>wpAny (model prog w) A (truthy u) (fun b=>Q (.bool b)) E s₁) (fun v σ₁ q e2 hq φ₁ ca₁ s₁ u pst rv=>bdI e2 fun b hb e2=>rt_goal e2 (by
    rw [bool?_inv hb] at rv
    rw [rv.bool_inv]
    exact (Goal.now pst.at_ rfl (SameX.refl _) RV.bool).map fun Q E q=>wpAny_truthy_bool q))).map fun Q E z=>in_K (fr_of h.kin hm.1 h.big) (Hb_K _) q.2 (beq_iff_eq.mp ok.1.1.1.1.1.1.1.1.1.1) ok.1.1.1.1.1.1.1.1.1.2 z
 | _=>exact nsm rfl e
theorem cmpIn_sound (S:Site L F Γ A a cl outer) (neg:Bool) {v v':V} {u u':Value} {σ σ':Wt} {out:Res V} {ps:List Prop} (e:cmpIn prog w LI Γ neg v v' σ=some (out,σ',ps)) (hp:AllP ps)
  (h:At prog w LI (eN Γ L a cl) Γ.cv L F σ.ab φ ca s) (r:RV prog w LI φ ca v u) (r':RV prog w LI φ ca v' u') :
  Goal prog w LI (eN Γ L a cl) Γ.cv L F (RVr prog w LI) out σ'.ab φ ca s (fun Q E=>wpAny (model prog w) A (compareOp (if neg then .NotIn else .In) u u') Q E s):=by
 cases v with
 | str x=>exact cmpInS_sound neg e h r r'
 | vr x=>exact cmpInV_sound S neg e hp h r r'
 | _=>exact nsm rfl e
end
end
section
open PySem PySem.W PySem.Calls PyProof.Rows PySem.SeqAt
section
variable {prog:Program} {w:World} {LI:Nat→Option LamInfo} {Γ:Gam} {A:Around} {a:Addr} {cl:List (Str×Addr)} {L:Addr} {F:List Addr} {outer:List Env} {φ:Mp} {ca:List Addr} {s:Shared}
theorem cmpV_sound (S:Site L F Γ A a cl outer) {op:CmpOp} {v v':V} {u u':Value} {σ σ':Wt} {out:Res V} {ps:List Prop} (e:cmpV prog w LI Γ op v v' σ=some (out,σ',ps)) (hp:AllP ps)
  (h:At prog w LI (eN Γ L a cl) Γ.cv L F σ.ab φ ca s) (r:RV prog w LI φ ca v u) (r':RV prog w LI φ ca v' u') :
  Goal prog w LI (eN Γ L a cl) Γ.cv L F (RVr prog w LI) out σ'.ab φ ca s (fun Q E=>wpAny (model prog w) A (compareOp op u u') Q E s):=by
 cases op with
 | Eq=>exact cmpEq_sound S e hp h r r'
 | NotEq=>exact cmpNe_sound S e hp h r r'
 | Gt=>exact cmpGt_sound e h r r'
 | Is =>
  have e:=ifs (b:=v'.isN) e
  refine rt_goal e.2 ?_
  rw [isN_inv e.1] at r'
  exact r'.none_inv▸(Goal.now h rfl (SameX.refl s) (r.isN▸RV.bool)).map fun Q E q=>is_none q
 | IsNot =>
  have e:=ifs (b:=v'.isN) e
  refine rt_goal e.2 ?_
  rw [isN_inv e.1] at r'
  exact r'.none_inv▸(Goal.now h rfl (SameX.refl s) (r.isN▸RV.bool)).map fun Q E q=>isNot_none q
 | In=>exact cmpIn_sound S false e hp h r r'
 | NotIn=>exact cmpIn_sound S true e hp h r r'
 | _=>exact nsm rfl e
structure Apart (L:Addr) (F:List Addr) (φ:Mp) (ca:List Addr) (I:Addr):Prop where
 f:φ I=none
 c:I∉ca
 l:I≠L
 F:I∉F
 t:I∉tabA
theorem At.touch {env:Env} {cv:List (Str×V)} {σ:Ab} {I:Addr} {s':Shared} (h:At prog w LI env cv L F σ φ ca s) (ap:Apart L F φ ca I) (k:∀ b o,b≠I→s.heap.get? b=some o→s'.heap.get? b=some o):At prog w LI env cv L F σ φ ca s' :=
 ⟨⟨fun b o e=>k b o (fun z=>nsm ap.f (z▸e)) (h.hp.fz _ _ e),h.hp.kk,fun P hP=>have t:=h.hp.tab P hP;⟨t.1,t.2.1,t.2.2.1,t.2.2.2.imp fun ps q=>⟨k P _ (fun z=>ap.t (z▸hP)) q.1,q.2⟩⟩,h.hp.len,h.hp.nd,
  fun i c b e1 e2=>have t:=h.hp.cel i c b e1 e2;⟨t.1,t.2.imp fun o q=>⟨k b o (fun z=>ap.c (z▸List.mem_of_getElem? e2)) q.1,q.2⟩⟩,
  fun b hb=>have t:=h.hp.frs b hb;⟨t.1,t.2.imp fun o q=>⟨k b o (fun z=>(List.mem_cons.mp hb).elim (fun q=>ap.l (z.symm.trans q)) fun q=>ap.F (z▸q)) q.1,q.2⟩⟩⟩,h.big,h.LF,h.fr.imp fun m q=>⟨q.1.extBut (fun b o hb e=>k b o hb e) (Ne.symm ap.l),q.2⟩,h.cv⟩
theorem Pst.touch {env:Env} {cv:List (Str×V)} {σ:Ab} {φ':Mp} {ca':List Addr} {I:Addr} {s₁ s':Shared} (p:Pst prog w LI env cv L F σ φ ca s φ' ca' s₁) (ap:Apart L F φ' ca' I) (n:s.heap.get? I=none) (k:∀ b o,b≠I→s₁.heap.get? b=some o→s'.heap.get? b=some o) (sx:SameX s₁ s') :
  Pst prog w LI env cv L F σ φ ca s φ' ca' s' :=
 have ne:∀ {b o},s.heap.get? b=some o→b≠I:=fun e z=>nsm n (z▸e)
 ⟨p.pre,⟨p.stp.le,p.stp.new,fun b al=>al.elim fun o e=>(p.stp.alive b ⟨o,e⟩).imp fun o' e'=>k b o' (ne e) e',fun b o e h1 h2 h3=>k b o (ne e) (p.stp.keep b o e h1 h2 h3),fun b o e hb=>(p.stp.up b o e hb).imp fun sl e'=>k b _ (ne e) e'⟩,p.fresh,p.at_.touch ap k,p.same.trans sx⟩
theorem apart_none {env:Env} {cv:List (Str×V)} {σ:Ab} {I:Addr} (h:At prog w LI env cv L F σ φ ca s) (no:s.heap.get? I=none):Apart L F φ ca I :=
 ⟨opt_none fun o q=>nsm no (h.hp.fz _ _ q),fun z=>(List.mem_iff_getElem?.mp z).elim fun i hi=>(h.hp.cel i _ _ (List.getElem?_eq_getElem (by rw [←h.hp.len];exact (List.getElem?_eq_some_iff.mp hi).1)) hi).2.elim fun o y=>nsm no y.1,
  fun z=>(h.hp.frs L (.head _)).2.elim fun o y=>nsm no (z▸y.1),fun z=>(h.hp.frs _ (.tail _ z)).2.elim fun o y=>nsm no y.1,fun z=>(h.hp.tab _ z).2.2.2.elim fun ps y=>nsm no y.1⟩
theorem Pst.exc {env:Env} {cv:List (Str×V)} {σ:Ab} {h':Heap} {e:Addr} {c:String} {fl:Option Addr} {s':Shared} (h:At prog w LI env cv L F σ φ ca s) (x:Heap.NewExc s.heap h' e c) (eh:s'.heap=h') (sx:SameX s s') :
  Pst prog w LI env cv L F σ φ ca s φ ca s'∧Ex prog w LI fl φ s.heap (.ty c) (.ref e) s'.heap:=by
 subst eh
 have ap:=apart_none h x.new
 exact ⟨(Pst.refl h).touch ap x.new (fun b o _ q=>x.keeps b o q) sx,x.there.elim fun ob k=>k.elim fun t k=>⟨e,ob,_,t,.type c,rfl,k.1,.ty,k.2.1,k.2.2,rfl,ap.f,x.new,.inl rfl⟩⟩
theorem dict_miss (S:Site L F Γ A a cl outer) {env:Env} {cv:List (Str×V)} {σ:Ab} {v:V} {x:Str} {u u':Value} {kvs:List (Str×V)} {value slice:Expr} (e:dictV v σ.cells=some kvs) (hy:kvs.lookup x=none) (hn:notSlice slice=true) (h:At prog w LI env cv L F σ φ ca s) (r:RV prog w LI φ ca (.str x) u) (r':RV prog w LI φ ca v u') :
  Goal prog w LI env cv L F (RVr prog w LI) (.err (.ty "KeyError")) σ φ ca s (fun Q E=>wpAny (model prog w) A (subscriptTail value slice u' u) Q E s) :=
 fun Q E _ k2=>r.str_inv.elim fun t q=>(dict_inv e h r').elim fun a z=>z.elim fun ws z=>q▸z.1▸tail_any z.2.1.typeIs slot_dict_getitem.lookup (wpAny_getItem_missing_of (knd:=PySem.strKind prog w) (k:=x) (strKind_is prog w x t) z.2.2.2 S.ok.1 z.2.1.mapOf (z.2.2.1.at.2 hy) fun h' e' x' =>
  have p:=Pst.exc (s':={ s with heap:=h',toks:=s.toks+1 }) h x' rfl ⟨rfl,rfl,rfl⟩
  k2 _ _ _ _ _ rfl p.1 p.2) (notSlice_sub hn)
theorem sub_bd (S:Site L F Γ A a cl outer) {v i:V} {x dx:Addr} {od:Obj} {iv:Value} {value slice:Expr} {σ σ':Wt} {out:Res V} {ps:List Prop} (I:InstAt s.heap x (instObj 1020 dx) 1020 (some od)) (e:callV prog w LI Γ (.fn 996) [v,i] σ=some (out,σ',ps)) (hp:AllP ps) (hn:notSlice slice=true)
  (h:At prog w LI (eN Γ L a cl) Γ.cv L F σ.ab φ ca s) (r:RV prog w LI φ ca v (.ref x)) (ri:RV prog w LI φ ca i iv) :
  Goal prog w LI (eN Γ L a cl) Γ.cv L F (RVr prog w LI) out σ'.ab φ ca s (fun Q E=>wpAny (model prog w) A (subscriptTail value slice (.ref x) iv) Q E s):=by
 have ok:=bd_ok w.params
 unfold bdOk at ok
 simp only [Bool.and_eq_true] at ok
 exact h.fr.elim fun m hm=>(callV_sound S S.ok.in1.down rfl e hp h (RV.fn (a:=996)) (.cons r (.cons ri .nil))).map fun Q E q =>
  sub_K (fr_of h.kin hm.1 h.big) (Hb_K _) I (beq_iff_eq.mp ok.1.1.1.1.1.1.1.1.2) ok.1.1.1.1.1.1.1.2 ok.1.1.1.1.1.1.2 q (by cases slice<;>first | rfl | exact absurd hn Bool.false_ne_true)
theorem strT_inv {y:Str} {k:Int} {σ:Wt} {r:Res V×Wt×List Prop}:∀ {tr:List Tr},strT y k σ tr=some r→∃ (z:Str) (t:List Tr),r=(.ok (.str z),⟨σ.loc,σ.cells,t⟩,[strAt y k=some z]):=by
 intro tr e
 cases tr with
 | nil=>exact nsm rfl e
 | cons i t=>cases i<;>first | exact ⟨_,t,(Option.some.inj e).symm⟩ | exact nsm rfl e
theorem getT_inv {kvs:List (Str×V)} {x:Str} {σ:Wt} {r:Res V×Wt×List Prop} {P:Prop}:∀ {tr:List Tr},getT kvs x σ tr=some r→(∀ (y:V) (t:List Tr),r=(.ok y,⟨σ.loc,σ.cells,t⟩,[kvs.lookup x=some y])→P)→(∀ t:List Tr,r=(.err (.ty "KeyError"),⟨σ.loc,σ.cells,t⟩,[kvs.lookup x=none])→P)→P:=by
 intro tr e h1 h2
 cases tr with
 | nil=>exact nsm rfl e
 | cons i t =>
  cases i with
  | v y=>exact h1 y t (Option.some.inj e).symm
  | b b=>exact h2 t (Option.some.inj (ifn (b:=b) e).2).symm
  | _=>exact nsm rfl e
theorem idx_sound {vs:List V} {us:List Value} {i:V} {iv:Value} {σ σ':Wt} {out:Res V} {ps:List Prop} {env:Env} {cv:List (Str×V)} {G:Value→(Value→Shared→Prop)→(Value→Shared→Prop)→Prop} (e:optE (idxV vs i) σ=some (out,σ',ps)) (h:At prog w LI env cv L F σ.ab φ ca s) (rs:RVs prog w LI φ ca vs us) (ri:RV prog w LI φ ca i iv)
  (k:∀ (n:Nat) (t:Tok) (u:Value),n<1000→n<us.length→us.toArray[n]?=some u→∀ Q E,Q u s→G (.int n t) Q E):Goal prog w LI env cv L F (RVr prog w LI) out σ'.ab φ ca s (G iv):=by
 refine (optE_some e).elim fun v q=>rt_goal q.2 ((idxV_inv q.1).elim fun n z=>?_)
 rw [z.1] at ri
 exact ri.int_inv.elim fun t y=>(rs.get z.2.2).elim fun u ru=>y▸(Goal.now h rfl (SameX.refl s) ru.2).map fun Q E q=>k n t u z.2.1 (List.getElem?_eq_some_iff.mp ru.1).1 (by rw [List.getElem?_toArray];exact ru.1) Q E q
theorem strAt_item {y z:Str} {k:Int} (h:strAt y k=some z):(decide (k< -9223372036854775808)||decide (9223372036854775807<k))=false∧∃ c,(seqIndex? k y.length).bind (y.cps[·]?)=some c∧⟨#[c]⟩=z:=by
 have h:=ifs (b:=decide (-1000<k)&&decide (k<1000)) h
 have hb:=Bool.and_eq_true_iff.mp h.1
 have h1:=of_decide_eq_true hb.1
 have h2:=of_decide_eq_true hb.2
 refine ⟨?_,Option.map_eq_some_iff.mp h.2⟩
 rw [Bool.or_eq_false_iff,decide_eq_false_iff_not,decide_eq_false_iff_not]
 omega
theorem subV2_sound (S:Site L F Γ A a cl outer) {o i:V} {ov iv:Value} {value slice:Expr} {σ σ':Wt} {out:Res V} {ps:List Prop} (e:subV2 prog w LI Γ o i σ=some (out,σ',ps)) (hp:AllP ps) (hn:notSlice slice=true)
  (h:At prog w LI (eN Γ L a cl) Γ.cv L F σ.ab φ ca s) (r:RV prog w LI φ ca o ov) (ri:RV prog w LI φ ca i iv) :
  Goal prog w LI (eN Γ L a cl) Γ.cv L F (RVr prog w LI) out σ'.ab φ ca s (fun Q E=>wpAny (model prog w) A (subscriptTail value slice ov iv) Q E s):=by
 have dct:dsub (dictV o σ.cells) i.str? σ=some (out,σ',ps)→Goal prog w LI (eN Γ L a cl) Γ.cv L F (RVr prog w LI) out σ'.ab φ ca s (fun Q E=>wpAny (model prog w) A (subscriptTail value slice ov iv) Q E s):=fun e=>bdI e fun kvs hd e=>bdI e fun x hx e=>by
  rw [str?_inv hx] at ri
  exact getT_inv e (fun y t q=>ev_goal (congrArg some q.symm) hp fun hp=>dict_get hd hp.1 hn h ri r) fun t q=>ev_goal (congrArg some q.symm) hp fun hp=>dict_miss S hd hp.1 hn h ri r
 cases o with
 | str y =>
  refine bdI e fun k hk e=>(strT_inv e).elim fun z q=>q.elim fun t q=>ev_goal (congrArg some q.symm) hp fun hp=>?_
  rw [int?_inv hk] at ri
  have sz:=strAt_item hp.1
  exact r.str_inv.elim fun tk q=>ri.int_inv.elim fun tk' q'=>sz.2.elim fun c hc=>q▸q'▸hc.2▸(Goal.now (s':={ s with toks:=s.toks+1 }) h rfl ⟨rfl,rfl,rfl⟩ RV.str).map fun Q E q=>tail_any (typeIs_str _ _ _) slot_str_getitem.lookup (PyProof.Rows.getItem_str sz.1 hc.1 q) (notSlice_sub hn)
 | bd d=>exact (bd_at h r).elim fun x q=>q.elim fun dx q=>q.elim fun od q=>q.1▸sub_bd S q.2 e hp hn h (q.1▸r) ri
 | raw C k =>
  have e:=ifs (b:=Nat.beq C 1020) e
  rw [Nat.eq_of_beq_eq_true e.1] at r e
  exact (raw_at h r).elim fun x q=>q.elim fun dx q=>q.elim fun od q=>q.1▸sub_bd S q.2 e.2 hp hn h (q.1▸r) ri
 | _=>exact dct e
theorem subV_sound (S:Site L F Γ A a cl outer) {o i:V} {ov iv:Value} {value slice:Expr} {σ σ':Wt} {out:Res V} {ps:List Prop} (e:subV prog w LI Γ o i σ=some (out,σ',ps)) (hp:AllP ps) (hn:notSlice slice=true)
  (h:At prog w LI (eN Γ L a cl) Γ.cv L F σ.ab φ ca s) (r:RV prog w LI φ ca o ov) (ri:RV prog w LI φ ca i iv) :
  Goal prog w LI (eN Γ L a cl) Γ.cv L F (RVr prog w LI) out σ'.ab φ ca s (fun Q E=>wpAny (model prog w) A (subscriptTail value slice ov iv) Q E s):=by
 unfold subV at e
 cases hs:o.items.or o.elems with
 | none=>rw [hs] at e;exact subV2_sound S e hp hn h r ri
 | some vs =>
  rw [hs] at e
  refine (Option.or_eq_some_iff.mp hs).elim (fun hi=>(r.items_inv hi).elim fun us q=>q.elim fun x q=>q.1▸?_) fun hi=>(r.elems_inv hi.2).elim fun us q=>q.elim fun x q=>q.elim fun k q=>q.1▸?_
  ·refine idx_sound (G:=fun iv Q E=>wpAny (model prog w) A (subscriptTail value slice (.ref x) iv) Q E s) e h q.2.1 ri fun n t u h1 h2 hu Q E z=>?_
   have hT:IsTup s.heap x us.toArray:=⟨_,h.hp.fz _ _ q.2.2,rfl,_,rfl⟩
   exact tail_any hT.typeIs slot_tuple_getitem.lookup (getItem_tuple (j:=n) hT (by omega) (by omega) (by rw [seqIndex_of (by omega) (by rw [List.size_toArray];omega)];rfl) hu z) (notSlice_sub hn)
  ·refine idx_sound (G:=fun iv Q E=>wpAny (model prog w) A (subscriptTail value slice (.ref x) iv) Q E s) e h q.2.1 ri fun n t u h1 h2 hu Q E z=>?_
   have hl:s.heap.IsList x us.toArray:=⟨_,h.hp.fz _ _ q.2.2,rfl,_,rfl⟩
   exact tail_any hl.typeIs list_getitem_lookup (wpAny_getItem_list hl (by omega) (by omega) hu z) (notSlice_sub hn)
end
end
section
open PySem PySem.W PySem.Calls PyProof.Rows PySem.SeqAt
section
variable {prog:Program} {w:World} {LI:Nat→Option LamInfo} {Γ:Gam} {A:Around} {a:Addr} {cl:List (Str×Addr)} {L:Addr} {F:List Addr} {outer:List Env} {φ:Mp} {ca:List Addr} {s:Shared}
theorem RVs.append {xs:List V}:∀ {us:List Value} {ys:List V} {ws:List Value},RVs prog w LI φ ca xs us→RVs prog w LI φ ca ys ws→RVs prog w LI φ ca (xs++ys) (us++ws):=by
 induction xs with
 | nil=>intro us ys ws h k;rw [h.nil_];exact k
 | cons x xs ih=>exact fun h k=>h.uncons.elim fun u q=>q.elim fun us' q=>q.1▸.cons q.2.1 (ih q.2.2 k)
theorem binL_sound {env:Env} {cv:List (Str×V)} {x y:V} {u v:Value} {σ σ':Wt} {out:Res V} {ps:List Prop} (e:binL x y σ=some (out,σ',ps)) (hp:AllP ps)
  (h:At prog w LI env cv L F σ.ab φ ca s) (r:RV prog w LI φ ca x u) (r':RV prog w LI φ ca y v) :
  Goal prog w LI env cv L F (RVr prog w LI) out σ'.ab φ ca s (fun Q E=>wpAny (model prog w) A (binaryOp .Add u v) Q E s):=by
 refine bdI e fun xs hx e=>bdI e fun ys hy e=>bdI e fun p _ e=>ev_goal e hp fun hp=>(r.elems_inv hx).elim fun us k=>k.elim fun a k=>k.elim fun n k=>(r'.elems_inv hy).elim fun ws k'=>k'.elim fun b k'=>k'.elim fun m k'=>k.1▸k'.1▸fun Q E k1 _=>?_
 have hle:us.length+ws.length≤sizeLine:=by rw [k.2.1.len,k'.2.1.len];exact Nat.le_trans (Nat.le_of_lt hp.2.1) (by decide)
 have q:=Pst.push h (listOf (us++ws).toArray 0) rfl (s':={ s with heap:=s.heap.push (listOf (us++ws).toArray 0) }) rfl ⟨rfl,rfl,rfl⟩
 have z:=k1 p.1 _ ca (.ref s.heap.objs.size) { s with heap:=s.heap.push (listOf (us++ws).toArray 0) } rfl q (.lst hp.1 ((k.2.1.append k'.2.1).mono q.stp.le q.pre) (Mp.put_self _ _ _))
 refine concat_meets (s:=s) ⟨_,h.hp.fz _ _ k.2.2,rfl⟩ ⟨_,h.hp.fz _ _ k'.2.2,rfl⟩ noFill_list_add seq_list_add PySem.F.slot_list_add PySem.F.entry_list_add (PySem.F.args_list_add_2 _ _) (list_addW a b us.toArray ws.toArray n m none none #[] #[] (by rw [List.size_toArray,List.size_toArray];exact hle)) ⟨h.hp.fz _ _ k.2.2,h.hp.fz _ _ k'.2.2,?_⟩
 rw [List.append_toArray]
 exact z
theorem bd?_inv {v:V} {x:List (Str×X)} (h:v.bd?=some x):v=.bd x:=by
 cases v<;>first | exact congrArg V.bd (Option.some.inj h) | exact nsm rfl h
theorem bdR_inv {m:Ev V} {out:Res V} {σ':Wt} {ps:List Prop} (e:bnd m bdR=some (out,σ',ps)):(∀ b,out=.ok b→∃ d,b=.bd d)∧m=some (out,σ',ps) :=
 bnd_elim e (fun b σ₁ p q hm hf hps=>by
  have hf:=ifs (b:=b.bd?.isSome) hf
  have k:=ev_inj hf.2
  exact ⟨fun b' eb=>(Option.isSome_iff_exists.mp hf.1).elim fun d hd=>⟨d,(Res.ok.inj (k.1.trans eb))▸bd?_inv hd⟩,by rw [hm,hps,← k.1,← k.2.1,← k.2.2,List.append_nil]⟩) fun c hm ho=>⟨fun b eb=>n_eo (ho.symm.trans eb),hm.trans (congrArg (fun z=>some (z,σ',ps)) ho.symm)⟩
theorem bd_add (S:Site L F Γ A a cl outer) {d d':List (Str×X)} {u v:Value} {σ σ':Wt} {out:Res V} {ps:List Prop} (e:callV prog w LI Γ (.fn 1010) [.bd d,.bd d'] σ=some (out,σ',ps)) (hp:AllP ps)
  (h:At prog w LI (eN Γ L a cl) Γ.cv L F σ.ab φ ca s) (r:RV prog w LI φ ca (.bd d) u) (r':RV prog w LI φ ca (.bd d') v) :
  Goal prog w LI (eN Γ L a cl) Γ.cv L F (RVr prog w LI) out σ'.ab φ ca s (fun Q E=>wpAny (model prog w) A (binaryOp .Add u v) Q E s):=by
 refine (bd_at h r).elim fun x k=>k.elim fun dx k=>k.elim fun od k=>(bd_at h r').elim fun x' k'=>k'.elim fun dx' k'=>k'.elim fun od' k'=>h.fr.elim fun m hm=>?_
 have ok:=bd_ok w.params
 unfold bdOk at ok
 simp only [Bool.and_eq_true] at ok
 rw [k.1] at r ⊢
 rw [k'.1] at r' ⊢
 exact fun Q E q1 q2=>binop_K (fr_of h.kin hm.1 h.big) (Hb_K _) k.2 k'.2.type ok.1.1.1.1.1.2 (beq_iff_eq.mp ok.1.1.1.1.2) ok.1.1.1.2 (callV_sound S S.ok.down.down rfl e hp h (RV.fn (a:=1010)) (.cons r (.cons r' .nil)) (PySem.W.CmpBack Q) E (fun b φ' ca' t s' eo pst rr=>back_of rr (q1 _ φ' ca' _ s' eo pst rr)) q2)
theorem nat?_inv {v:V} {n:Nat} (h:v.nat?=some n):v=.int (.ofNat n):=bdI h fun i hi h=>by
 rw [int?_inv hi]
 cases i with
 | ofNat k=>exact congrArg (fun n=>V.int (.ofNat n)) (Option.some.inj h)
 | negSucc k=>exact nsm rfl h
theorem int2 {env:Env} {cv:List (Str×V)} {op:Operator} {x y:V} {ix iy k:Int} {u v:Value} {σ σ':Wt} {out:Res V} {ps:List Prop} (e:rt (.int k) σ=some (out,σ',ps)) (hx:x=.int ix) (hy:y=.int iy) (h:At prog w LI env cv L F σ.ab φ ca s) (r:RV prog w LI φ ca x u) (r':RV prog w LI φ ca y v)
  (hk:∀ {tx ty:Tok} {Q:Value→Shared→Prop} {E:Value→Shared→Prop},Q (.int k s.toks) { s with toks:=s.toks+1 }→wpAny (model prog w) A (binaryOp op (.int ix tx) (.int iy ty)) Q E s) :
  Goal prog w LI env cv L F (RVr prog w LI) out σ'.ab φ ca s (fun Q E=>wpAny (model prog w) A (binaryOp op u v) Q E s):=by
 rw [hx] at r
 rw [hy] at r'
 exact rt_goal e (r.int_inv.elim fun t q=>r'.int_inv.elim fun t' q'=>q▸q'▸(Goal.now (s':={ s with toks:=s.toks+1 }) h rfl ⟨rfl,rfl,rfl⟩ RV.int).map fun Q E q=>hk q)
theorem ofNat_ne {k:Nat} (h:0<k):(Int.ofNat k)≠0:=fun z=>Nat.lt_irrefl 0 (by rw [Int.ofNat.inj (z:Int.ofNat k=Int.ofNat 0)] at h;exact h)
theorem binV_sound (S:Site L F Γ A a cl outer) {op:Operator} {x y:V} {u v:Value} {σ σ':Wt} {out:Res V} {ps:List Prop} (e:binV prog w LI Γ op x y σ=some (out,σ',ps)) (hp:AllP ps)
  (h:At prog w LI (eN Γ L a cl) Γ.cv L F σ.ab φ ca s) (r:RV prog w LI φ ca x u) (r':RV prog w LI φ ca y v) :
  Goal prog w LI (eN Γ L a cl) Γ.cv L F (RVr prog w LI) out σ'.ab φ ca s (fun Q E=>wpAny (model prog w) A (binaryOp op u v) Q E s):=by
 cases op with
 | Add =>
  replace e:binAdd prog w LI Γ x y σ=some (out,σ',ps):=e
  cases x with
  | str a =>
   refine bdI e fun b hb e=>ev_goal e hp fun hp=>?_
   rw [str?_inv hb] at r'
   exact r.str_inv.elim fun t q=>r'.str_inv.elim fun t' q'=>q▸q'▸fun Q E k1 _=>PyProof.Rows.add_str (fun t'' tk=>k1 _ _ _ _ _ rfl (Pst.to h rfl ⟨rfl,rfl,rfl⟩) RV.str) (Nat.le_trans hp.1 (by decide))
  | int a=>exact bdI e fun b hb e=>int2 e rfl (int?_inv hb) h r r' fun q=>PyProof.Rows.add_int q
  | bd d =>
   refine bdI e fun d' hb e=>?_
   rw [bd?_inv hb] at r' e
   exact bd_add S (bdR_inv e).2 hp h r r'
  | _=>exact binL_sound e hp h r r'
 | Mod=>exact bdI e fun a ha e=>bdI e fun k hk e=>have e:=ifs e;int2 e.2 (int?_inv ha) (nat?_inv hk) h r r' fun q=>PyProof.Rows.mod_int (ofNat_ne (blt_lt e.1)) q
 | FloorDiv=>exact bdI e fun a ha e=>bdI e fun k hk e=>have e:=ifs e;have c:=Bool.and_eq_true_iff.mp e.1;int2 e.2 (int?_inv ha) (nat?_inv hk) h r r' fun q=>PyProof.Rows.floordiv_int (ofNat_ne (blt_lt c.1)) q (.inl (PyProof.noPylong_small (by show (Int.ofNat k).natAbs<_;rw [Int.ofNat_eq_natCast,Int.natAbs_natCast];exact Nat.lt_trans (blt_lt c.2) (by decide))))
 | _=>exact nsm rfl e
end
end
section
open PySem PySem.W PySem.Calls PyProof.Rows PySem.SeqAt
section
variable {prog:Program} {w:World} {LI:Nat→Option LamInfo} {Γ:Gam} {A:Around} {a:Addr} {cl:List (Str×Addr)} {L:Addr} {F:List Addr} {outer:List Env} {φ:Mp} {ca:List Addr} {s:Shared}
theorem newDictC_op {env:Env} {cv:List (Str×V)} {σ:Ab} {pos:Pos} (h:At prog w LI env cv L F σ φ ca s) :
  Goal prog w LI env cv L F (RVr prog w LI) (.ok (.cell σ.cells.length)) ⟨σ.loc,σ.cells++[.dict []]⟩ φ ca s (fun Q E=>wpAny (model prog w) A (eval (.Dict [] [] pos) env) Q E s):=by
 intro Q E k1 _
 have p:=Pst.pushC h (c:=.dict []) { cls:=.type "dict", data:=.dict #[] } rfl ⟨[],⟨#[],0,⟨rfl,rfl,rfl⟩,rfl,(by intro e he;simp at he),.nil,List.nodup_nil⟩,.nil⟩ (s':={ s with heap:=s.heap.push { cls:=.type "dict", data:=.dict #[] } }) rfl ⟨rfl,rfl,rfl⟩
 refine wpAny_Dict_empty (k1 _ _ _ _ _ rfl p (.cell ?_))
 rw [←h.hp.len,List.getElem?_append_right (Nat.le_refl _),Nat.sub_self];rfl
theorem app_sound {env:Env} {cv:List (Str×V)} {k:Nat} {v:V} {u uv:Value} {σ σ':Wt} {out:Res V} {ps:List Prop} (e:appV k v σ=some (out,σ',ps)) (hp:AllP ps)
  (h:At prog w LI env cv L F σ.ab φ ca s) (r:RV prog w LI φ ca (.cell k) u) (rv:RV prog w LI φ ca v uv) :
  Goal prog w LI env cv L F (RVr prog w LI) out σ'.ab φ ca s (fun Q E=>wpAny (model prog w) A (call (.builtin "list.append") [u,uv]) Q E s):=by
 refine bdI e fun vs hv e=>bdI hv fun c hk hc=>ev_goal e hp fun hp=>?_
 rw [ls_inv hc] at hk
 refine (cell_list h hk r).elim fun b q=>q.elim fun us q=>q.elim fun n q=>q.1▸fun Q E k1 _=>append_at q.2.2.1 (fun h' hs ho'=>?_) (by rw [List.size_toArray,q.2.2.2.len];exact Nat.le_trans (Nat.le_of_lt hp.1) (by decide))
 exact k1 .none φ ca .none { s with heap:=h' } rfl (Pst.setCell (c':=.list (vs++[v])) h q.2.1 hk nofun (fun y o e _ h2=>(hs.2 y h2).trans e) (fun m hn=>hn.sameBut hs (fun z=>(h.hp.cel k _ b hk q.2.1).1 (z▸.head _))) ho' ⟨us++[uv],n+1,by rw [List.push_toArray],q.2.2.2.append (.cons rv .nil)⟩ ⟨rfl,rfl,rfl⟩) .none
theorem RVs.snoc_inv {vs:List V} {v:V}:∀ {us:List Value},RVs prog w LI φ ca (vs++[v]) us→∃ ws u,us=ws++[u]∧RVs prog w LI φ ca vs ws∧RV prog w LI φ ca v u:=by
 induction vs with
 | nil=>exact fun h=>h.one.elim fun u k=>⟨[],u,k.1,.nil,k.2⟩
 | cons x vs ih=>exact fun h=>h.uncons.elim fun u k=>k.elim fun us' k=>(ih k.2.2).elim fun ws q=>q.elim fun z q=>⟨u::ws,z,k.1.trans (congrArg (u::·) q.1),.cons k.2.1 q.2.1,q.2.2⟩
theorem pop_sound {env:Env} {cv:List (Str×V)} {k:Nat} {u:Value} {σ σ':Wt} {out:Res V} {ps:List Prop} (e:popV k σ=some (out,σ',ps)) (hp:AllP ps)
  (h:At prog w LI env cv L F σ.ab φ ca s) (r:RV prog w LI φ ca (.cell k) u) :
  Goal prog w LI env cv L F (RVr prog w LI) out σ'.ab φ ca s (fun Q E=>wpAny (model prog w) A (call (.builtin "list.pop") [u]) Q E s):=by
 refine bdI e fun vs hv e=>bdI hv fun c hk hc=>bdI e fun p _ e=>ev_goal e hp fun hp=>?_
 have hz:=hp.2.1
 rw [ls_inv hc] at hk
 refine (cell_list h hk r).elim fun b q=>q.elim fun us q=>q.elim fun n q=>?_
 refine (RVs.snoc_inv (hp.1▸q.2.2.2)).elim fun ws z=>z.elim fun uv z=>q.1▸fun Q E k1 _=>Copied.pop_at (y:=uv) q.2.2.1 (by rw [z.1];simp) (fun h' hs ho'=>?_) (by rw [List.size_toArray,q.2.2.2.len];exact Nat.le_trans (Nat.le_of_lt hz) (by decide))
 exact k1 _ φ ca uv { s with heap:=h' } rfl (Pst.setCell (c':=.list p.1) h q.2.1 hk nofun (fun y o e _ h2=>(hs.2 y h2).trans e) (fun m hn=>hn.sameBut hs (fun z=>(h.hp.cel k _ b hk q.2.1).1 (z▸.head _))) ho' ⟨ws,n+1,by rw [z.1,List.pop_toArray,List.dropLast_concat],z.2.1⟩ ⟨rfl,rfl,rfl⟩) z.2.2
theorem one1_inv {α:Type} {l:List α} {x:α} (h:one1 l=some x):l=[x]:=by
 cases l with
 | nil=>exact nsm rfl h
 | cons y l=>have h:=ifs (b:=l.isEmpty) h;rw [List.isEmpty_iff.mp h.1,Option.some.inj h.2]
theorem ix_sound (S:Site L F Γ A a cl outer) {env:Env} {cv:List (Str×V)} {l:List Str} {vs:List V} {u:Value} {us:List Value} {σ σ':Wt} {out:Res V} {ps:List Prop} (e:ixV l vs σ=some (out,σ',ps)) (hp:AllP ps)
  (h:At prog w LI env cv L F σ.ab φ ca s) (r:RV prog w LI φ ca (.ls l) u) (rs:RVs prog w LI φ ca vs us) :
  Goal prog w LI env cv L F (RVr prog w LI) out σ'.ab φ ca s (fun Q E=>wpAny (model prog w) A (call (.builtin "list.index") (u::us)) Q E s):=by
 refine bdI e fun v hv e=>bdI e fun x hx e=>bdI e fun p _ e=>ev_goal e hp fun hp=>?_
 rw [one1_inv hv,str?_inv hx] at rs
 refine rs.one.elim fun uv k=>k.2.str_inv.elim fun tk kt=>(r.elems_inv rfl).elim fun ws q=>q.elim fun b q=>q.elim fun n q=>(Option.map_eq_some_iff.mp hp.1).elim fun j hj=>(Option.map_eq_some_iff.mp hj.1).elim fun m hm=>?_
 have fi:=List.findIdx?_eq_some_iff_getElem.mp hm.1
 refine fi.elim fun hml fi=>?_
 have hws:ws.length=l.length:=by rw [q.2.1.len,List.length_map]
 have at_:∀ (m:Nat) (h1:m<l.length) (h2:m<ws.length),∃ t,ws[m]=.str l[m] t:=fun m h1 h2 =>
  (q.2.1.get (show (l.map V.str)[m]?=some (.str l[m]) by rw [List.getElem?_map,List.getElem?_eq_getElem h1];rfl)).elim fun u k=>k.2.str_inv.imp fun t z=>(smi (List.getElem?_eq_getElem h2) k.1).trans z
 have ho:=h.hp.fz _ _ q.2.2
 have hl1:l.length<1000:=hp.2.1
 have em:p.1=.int (Int.ofNat m):=(hj.2.symm.trans (congrArg V.int hm.2.symm))
 rw [q.1,k.1,kt,em]
 refine fun Q E k1 _=>call_meets PySem.F.slot_list_index ⟨_,ho,rfl⟩ PySem.F.entry_list_index (PySem.F.args_list_index_2 _ _) (SeqAt.list_indexAt b ws.toArray n none #[] (.str x tk) (isStrOf x) m (by rw [List.size_toArray];omega) (by omega) ?_ ?_) ⟨ho,?_,?_⟩
 ·refine (at_ m hml (by rw [hws];exact hml)).elim fun t' e1=>?_
  rw [List.getElem_toArray,e1]
  exact fi.1
 ·intro i hq1 hq2
  have hq1:i<ws.length:=hq1
  refine (at_ i (by rw [←hws];exact hq1) hq1).elim fun t' e1=>?_
  rw [List.getElem_toArray,e1]
  exact Bool.not_eq_true _▸(fi.2 i hq2)
 ·intro y hy
  refine (List.mem_iff_getElem.mp (List.mem_toArray.mp hy)).elim fun i hi=>hi.elim fun hi e1=>(at_ i (by rw [←hws];exact hi) hi).elim fun t' e2=>?_
  rw [←e1,e2]
  exact EqAt.str_str _ _ _ _
 ·exact k1 _ φ ca _ _ rfl (Pst.to h rfl ⟨rfl,rfl,rfl⟩) RV.int
end
end
section
variable {prog:Program} {w:World} {LI:Nat→Option LamInfo} {Γ:Gam} {A:Around} {a:Addr} {cl:List (Str×Addr)} {L:Addr} {F:List Addr} {outer:List Env} {φ:Mp} {ca:List Addr} {s:Shared}
theorem const_sound {env:Env} {cv:List (Str×V)} {c:Const} {k:Nat} {pos:Pos} {σ σ':Wt} {out:Res V} {ps:List Prop}
  (e:evConst c σ=some (out,σ',ps)) (h:At prog w LI env cv L F σ.ab φ ca s) :
  Goal prog w LI env cv L F (RVr prog w LI) out σ'.ab φ ca s (fun Q E=>wpAny (model prog w) A (eval (.Constant c k pos) env) Q E s):=by
 cases c with
 | none=>exact rt_goal e ((Goal.now h rfl (SameX.refl s) RV.none).map fun Q E q=>wpAny_Constant_none q)
 | bool b=>exact rt_goal e ((Goal.now h rfl (SameX.refl s) RV.bool).map fun Q E q=>wpAny_Constant_bool q)
 | int i=>exact rt_goal e ((Goal.now (s':={ s with toks:=s.toks+1 }) h rfl ⟨rfl,rfl,rfl⟩ RV.int).map fun Q E q=>wpAny_Constant_int q)
 | str i=>exact rt_goal e ((Goal.now (s':={ s with toks:=s.toks+1 }) h rfl ⟨rfl,rfl,rfl⟩ RV.str).map fun Q E q=>wpAny_Constant_str q)
 | _=>exact nsm rfl e
theorem attr_node {o:Expr} {x:Str} {pos:Pos} {env:Env} (hb:plainBase o=true):eval (.Attribute o x pos) env=(do
   let o'←eval o env
   standAt pos.atName
   let r←holding [o'] (getAttr o' x true)
   letTemporaryGo o o' r
   pure r):=by
 cases o<;>first | rfl | exact absurd hb Bool.false_ne_true
theorem meth_node {o:Expr} {x:Str} {apos pos:Pos} {args:List Expr} {env:Env} (hb:plainBase o=true) (hl:(apos.endLine==pos.line)=true) (hn:args.length<20) (hs:args.any isStar=false) :
  eval (.Call (.Attribute o x apos) args [] pos) env=(do
   let ov←eval o env
   standAt apos.atName
   let (f,first)←holding [ov] (getMethod ov x (do return (←importBound o env).getD true))
   callWith pos f first (backTo pos (starEach args env)) []):=by
 have hs':∀ {es:List Expr},es.any isStar=false→(backTo pos (starEach es env)).all (fun x=>!x.1)=true:=by
  intro es
  induction es with
  | nil=>intro _;rfl
  | cons e es ih =>
   intro h
   rw [List.any_cons,Bool.or_eq_false_iff] at h
   rw [starEach_cons h.1]
   show (!false&&(backTo pos (starEach es env)).all (fun x=>!x.1))=true
   rw [ih h.2];rfl
 have hform:methodCallForm (args.length+([]:List Keyword).length) (backTo pos (starEach args env)) (backToKw pos (keywordEach [] env))=true:=by
  show ((backTo pos (starEach args env)).all (fun x=>!x.1)&&(backToKw pos (keywordEach [] env)).all (fun x=>x.1.isSome)
   && decide (args.length+([]:List Keyword).length+(if ([]:List Keyword).isEmpty then 0 else 1)<30))=true
  rw [hs' hs]
  have:decide (args.length+([]:List Keyword).length+(if ([]:List Keyword).isEmpty then 0 else 1)<30)=true:=decide_eq_true (by show args.length+0+0<30;omega)
  rw [this];rfl
 have hpos:methodCallPos true o env apos pos=pure pos:=by unfold methodCallPos;simp [hl]
 have hbase:attributeBase o x env (eval o env)=eval o env:=by cases o<;>first | rfl | exact absurd hb Bool.false_ne_true
 rw [arm_eval_Call,hbase]
 unfold methodCall
 rw [hform,hpos]
 rfl
theorem meth_op {o:V} {ov:Value} {C f:Nat} {fs:List (Str×V)} {x:Str} {pl:Sem Bool} {env:Env} {cv:List (Str×V)} {σ:Ab} (hi:o.inst=some (C,fs)) (hn:fs.lookup x=none) (hm:lookM methL C x=some f) (h:At prog w LI env cv L F σ φ ca s) (r:RV prog w LI φ ca o ov)
  {Q:Value×List Value→Shared→Prop} {E:Value→Shared→Prop} (k:Q (.ref f,[ov]) s):wpAny (model prog w) A (getMethod ov x pl) Q E s:=by
 have ok:=Bool.and_eq_true_iff.mp (List.all_eq_true.mp (meth_ok w.params) _ (lookM_mem hm))
 have o1:=Bool.and_eq_true_iff.mp ok.1
 have o2:=Bool.and_eq_true_iff.mp o1.1
 exact (r.inst_inv hi).elim fun y q=>q.elim fun dx q=>q.elim fun es q=>q.elim fun n q=>h.fr.elim fun m hns=>q.1▸method_inst (fr_of h.kin hns.1 h.big) (Hb_K _) (instAt_of h.hp q.2.1 q.2.2.1) o2.1 (beq_iff_eq.mp o2.2) o1.2 (q.2.2.2.get.2 hn) (q.1▸k)
theorem meth_keep {C f:Nat} {x:Str} {env:Env} {cv:List (Str×V)} {σ:Ab} (hm:lookM methL C x=some f) (h:At prog w LI env cv L F σ φ ca s):Keeps prog w (.ref f) s.heap :=
 keep_K h.kin (Bool.and_eq_true_iff.mp (List.all_eq_true.mp (meth_ok w.params) _ (lookM_mem hm))).2
theorem exMeth_ok:(exMeths.all fun n=>(lookM methL 514 n).isSome&&(lookM methL 578 n).isSome&&(lookM methL 426 n).isSome&&!(n==("variable": Str))&&!(n==("function": Str))&&!(n==("argument": Str)))=true:=by kernel_rfl
theorem look_no {α:Type} {x y:Str} {v:α} {l:List (Str×α)} (h:(x==y)=false) (k:l.lookup x=none):((y,v)::l).lookup x=none:=by rw [List.lookup_cons,h];exact k
theorem exMeth_inv (e:X) {x:Str} (h:exMeths.any (·==x)=true):∃ f,lookM methL e.cls x=some f∧e.flds.lookup x=none∧e.mt x=f:=by
 refine (List.any_eq_true.mp h).elim fun y k=>?_
 have ok:=List.all_eq_true.mp exMeth_ok y k.1
 rw [eq_of_beq k.2] at ok
 simp only [Bool.and_eq_true,Bool.not_eq_true'] at ok
 have hs:(lookM methL e.cls x).isSome=true:=by
  cases e with
  | var s=>exact ok.1.1.1.1.1
  | con c=>exact ok.1.1.1.1.2
  | app g b=>exact ok.1.1.1.2
 exact (Option.isSome_iff_exists.mp hs).elim fun f hf=>⟨f,hf,by cases e<;>first | exact look_no ok.1.1.2 rfl | exact look_no ok.1.2 (look_no ok.2 rfl),by show (lookM methL e.cls x).getD 0=f;rw [hf];rfl⟩
theorem semE_sound {e:Expr} {σ σ':Wt} {out:Res V} {ps:List Prop} (he:semE prog w LI Γ e σ=some (out,σ',ps)) (hp:AllP ps) (S:Site L F Γ A a cl outer) (h:At prog w LI (eN Γ L a cl) Γ.cv L F σ.ab φ ca s) :
  Goal prog w LI (eN Γ L a cl) Γ.cv L F (RVr prog w LI) out σ'.ab φ ca s (fun Q E=>wpAny (model prog w) A (eval e (eN Γ L a cl)) Q E s):=bdI he fun p _ he=>ev_goal he hp fun hp=>hp.1 A a cl L F outer S φ ca s h
theorem bool_step (op:BoolOp) {pos:Pos} {x y:Expr} {es:List Expr} {env:Env} {b:Bool} (hb:∀ t v,(match op,t with | .And,false | .Or,true=>pure v | _,_=>boolOp pos op (evalEach (y::es) env))=if t=b then boolOp pos op (evalEach (y::es) env) else pure v) {Q:Value→Shared→Prop} {E:Value→Shared→Prop}
  (h:wpAny (model prog w) A (eval x env) (fun v s₁=>wpAny (model prog w) A (truthy v) (fun t s₂=>if t=b then wpAny (model prog w) A (boolOp pos op (evalEach (y::es) env)) Q E s₂ else Q v s₂) E s₁) E s):wpAny (model prog w) A (boolOp pos op (evalEach (x::y::es) env)) Q E s:=by
 show wpAny _ _ (do
  let v←eval x env
  standAt pos
  let t←holding [v] (truthy v)
  match op,t with
  | .And,false | .Or,true=>pure v
  | _,_=>boolOp pos op (evalEach (y::es) env)) Q E s
 refine wpAny_bind (wpAny_mono h (fun v s₁ h₁=>wpAny_bind (wpAny_standAt (wpAny_bind (wpAny_holding (wpAny_mono h₁ (fun t s₂ h₂=>?_) fun _ _ x=>x))))) fun _ _ x=>x)
 rw [hb]
 by_cases z:t=b
 ·rw [if_pos z] at h₂ ⊢;exact h₂
 ·rw [if_neg z] at h₂ ⊢;exact wpAny_pure h₂
theorem truth_br {α' β':Type} {R':β'→Mp→List Addr→α'→Prop} {env:Env} {cv:List (Str×V)} {v:V} {u:Value} {σ σ':Wt} {out:Res β'} {ps:List Prop} {f:Bool→Wt→Ev β'} {K:Bool→Shared→(α'→Shared→Prop)→(Value→Shared→Prop)→Prop} (e:(bnd (optE (truthV v σ.cells) σ) fun t σ=>bnd (br t σ) f)=some (out,σ',ps)) (hp:AllP ps) (h:At prog w LI env cv L F σ.ab φ ca s) (r:RV prog w LI φ ca v u)
  (k:∀ (t:Bool) (σ₁:Wt) (q:List Prop),f t σ₁=some (out,σ',q)→AllP q→∀ φ₁ ca₁ s₁,Pst prog w LI env cv L F σ.ab φ ca s φ₁ ca₁ s₁→At prog w LI env cv L F σ₁.ab φ₁ ca₁ s₁→Goal prog w LI env cv L F R' out σ'.ab φ₁ ca₁ s₁ (fun Q E=>K t s₁ Q E)) :
  Goal prog w LI env cv L F R' out σ'.ab φ ca s (fun Q E=>wpAny (model prog w) A (truthy u) (fun t s₁=>K t s₁ Q E) E s) :=
 (bnd_optE e).elim fun t ht=>(bnd_br ht.2 hp).elim fun σ₂ q=>q.elim fun q₂ q=>fun Q E k1 k2=>truth_op ht.1 h r _ _ (fun b φ₂ ca₂ t' s₂ eb pst₂ hb=>by
  have et:t'=t:=(hb:t'=b).trans (Res.ok.inj eb).symm
  rw [et]
  exact Goal.after pst₂ (k t σ₂ q₂ q.1 q.2.1 φ₂ ca₂ s₂ pst₂ (q.2.2▸pst₂.at_)) Q E k1 k2) fun c φ₂ ca₂ t' s₂ eb=>n_oe eb
theorem evAnd_sound {rec:Expr→Wt→Ev V} (H:SE prog w LI Γ rec) (S:Site L F Γ A a cl outer) {pos:Pos} {es:List Expr}:∀ {σ σ':Wt} {out:Res V} {ps:List Prop},evAnd rec es σ=some (out,σ',ps)→AllP ps →
  ∀ {φ ca s},At prog w LI (eN Γ L a cl) Γ.cv L F σ.ab φ ca s→Goal prog w LI (eN Γ L a cl) Γ.cv L F (RVr prog w LI) out σ'.ab φ ca s (fun Q E=>wpAny (model prog w) A (boolOp pos .And (evalEach es (eN Γ L a cl))) Q E s):=by
 induction es with
 | nil=>exact fun e=>nsm rfl e
 | cons x es ih =>
  intro σ σ' out ps e hp φ ca s h
  cases es with
  | nil=>exact H A a cl L F outer S x σ out σ' ps e hp φ ca s h
  | cons y es =>
   exact (Goal.seq e hp (fun o σ₁ p e1 hp1=>H A a cl L F outer S x σ o σ₁ p e1 hp1 φ ca s h) (K:=fun u s₁ Q E=>wpAny (model prog w) A (truthy u) (fun t s₂=>if t=true then wpAny (model prog w) A (boolOp pos .And (evalEach (y::es) (eN Γ L a cl))) Q E s₂ else Q u s₂) E s₁)
    fun v σ₁ q e2 hq φ₁ ca₁ s₁ u pst r=>truth_br e2 hq pst.at_ r (K:=fun t s₂ Q E=>if t=true then wpAny (model prog w) A (boolOp pos .And (evalEach (y::es) (eN Γ L a cl))) Q E s₂ else Q u s₂) fun t σ₂ q₂ e4 hq₂ φ₂ ca₂ s₂ pst₂ h2=>by
     cases t with
     | true=>exact ih e4 hq₂ h2
     | false=>exact rt_goal e4 (Goal.now h2 rfl (SameX.refl _) (pst₂.mono r))).map fun Q E q=>bool_step .And (fun t v=>by cases t<;>rfl) q
theorem evOr_sound {rec:Expr→Wt→Ev V} (H:SE prog w LI Γ rec) (S:Site L F Γ A a cl outer) {pos:Pos} {es:List Expr}:∀ {σ σ':Wt} {out:Res V} {ps:List Prop},evOr rec es σ=some (out,σ',ps)→AllP ps →
  ∀ {φ ca s},At prog w LI (eN Γ L a cl) Γ.cv L F σ.ab φ ca s→Goal prog w LI (eN Γ L a cl) Γ.cv L F (RVr prog w LI) out σ'.ab φ ca s (fun Q E=>wpAny (model prog w) A (boolOp pos .Or (evalEach es (eN Γ L a cl))) Q E s):=by
 induction es with
 | nil=>exact fun e=>nsm rfl e
 | cons x es ih =>
  intro σ σ' out ps e hp φ ca s h
  cases es with
  | nil=>exact H A a cl L F outer S x σ out σ' ps e hp φ ca s h
  | cons y es =>
   exact (Goal.seq e hp (fun o σ₁ p e1 hp1=>H A a cl L F outer S x σ o σ₁ p e1 hp1 φ ca s h) (K:=fun u s₁ Q E=>wpAny (model prog w) A (truthy u) (fun t s₂=>if t=false then wpAny (model prog w) A (boolOp pos .Or (evalEach (y::es) (eN Γ L a cl))) Q E s₂ else Q u s₂) E s₁)
    fun v σ₁ q e2 hq φ₁ ca₁ s₁ u pst r=>truth_br e2 hq pst.at_ r (K:=fun t s₂ Q E=>if t=false then wpAny (model prog w) A (boolOp pos .Or (evalEach (y::es) (eN Γ L a cl))) Q E s₂ else Q u s₂) fun t σ₂ q₂ e4 hq₂ φ₂ ca₂ s₂ pst₂ h2=>by
     cases t with
     | false=>exact ih e4 hq₂ h2
     | true=>exact rt_goal e4 (Goal.now h2 rfl (SameX.refl _) (pst₂.mono r))).map fun Q E q=>bool_step .Or (fun t v=>by cases t<;>rfl) q
theorem attr_snd {rec:Expr→Wt→Ev V} (H:SE prog w LI Γ rec) (S:Site L F Γ A a cl outer) {σ σ':Wt} {out:Res V} {ps:List Prop} {o:Expr} {x:Str} {pos:Pos} (he:(if plainBase o then bnd (rec o σ) fun v σ=>optE (attrC v x σ.cells) σ else none)=some (out,σ',ps)) (hp:AllP ps) (h:At prog w LI (eN Γ L a cl) Γ.cv L F σ.ab φ ca s) :
  Goal prog w LI (eN Γ L a cl) Γ.cv L F (RVr prog w LI) out σ'.ab φ ca s (fun Q E=>wpAny (model prog w) A (eval (.Attribute o x pos) (eN Γ L a cl)) Q E s) :=
 have he:=ifs he
 (Goal.seq he.2 hp (fun o' σ₁ p e1 hp1=>H A a cl L F outer S o σ o' σ₁ p e1 hp1 φ ca s h) (K:=fun u s₁ Q E=>wpAny (model prog w) A (getAttr u x true) Q E s₁) fun v σ₁ q e2 hq φ₁ ca₁ s₁ u pst r=>(optE_some e2).elim fun v' k=>rt_goal k.2 (attrC_op k.1 pst.at_ r)).map fun Q E q=>Attribute_any_ q (attr_node he.1)
theorem callN_snd {rec:Expr→Wt→Ev V} (H:SE prog w LI Γ rec) (S:Site L F Γ A a cl outer) {σ σ':Wt} {out:Res V} {ps:List Prop} {f:Str} {fp pos:Pos} {args:List Expr} (he:evCallN prog w LI Γ rec f args σ=some (out,σ',ps)) (hp:AllP ps) (h:At prog w LI (eN Γ L a cl) Γ.cv L F σ.ab φ ca s) :
  Goal prog w LI (eN Γ L a cl) Γ.cv L F (RVr prog w LI) out σ'.ab φ ca s (fun Q E=>wpAny (model prog w) A (eval (.Call (.Name f fp) args [] pos) (eN Γ L a cl)) Q E s):=by
 refine (bnd_optE he).elim fun fv k=>?_
 have he:=ifs (b:=okF fv) k.2
 exact fun Q E k1 k2=>wpAny_Call_NameR (name_sound S k.1 h _ _ (fun fv' φ₁ ca₁ vf s₁ ef pst rf=>Goal.after pst (callWith_sound (first:=[]) H S he.2 hp pst.at_ (fun σ₂ φ₂ ca₂ s₂ pst₂=>keeps_V S he.1 (Res.ok.inj ef▸pst₂.mono rf) pst₂.at_) fun vs σ₁ q e2 hq φ₂ ca₂ s₂ us pst₂ rs=>applyV_sound S e2 hq pst₂.at_ (Res.ok.inj ef▸pst₂.mono rf) rs) Q E k1 k2) fun c φ₁ ca₁ vf s₁ ef=>n_oe ef)
theorem keep_bi {n:String} {h:Heap}:Keeps prog w (.builtin n) h:=⟨_,.inr (.inl rfl),Looks.of_pure rfl⟩
theorem lc_snd {rec:Expr→Wt→Ev V} (H:SE prog w LI Γ rec) (S:Site L F Γ A a cl outer) {σ σ':Wt} {out:Res V} {ps:List Prop} {x:Str} {pos:Pos} {args:List Expr} {k:Nat} {u:Value} {pl:Sem Bool} (e2:evLC rec x args k σ=some (out,σ',ps)) (hq:AllP ps) (h:At prog w LI (eN Γ L a cl) Γ.cv L F σ.ab φ ca s) (r:RV prog w LI φ ca (.cell k) u) :
  Goal prog w LI (eN Γ L a cl) Γ.cv L F (RVr prog w LI) out σ'.ab φ ca s (fun Q E=>wpAny (model prog w) A (getMethod u x pl) (fun fx s₂=>wpAny (model prog w) A (callWith pos fx.1 fx.2 (backTo pos (starEach args (eN Γ L a cl))) []) Q E s₂) E s):=by
 refine bdI e2 fun vs hv e2=>bdI hv fun c hk hc=>?_
 rw [ls_inv hc] at hk
 refine (cell_list h hk r).elim fun b z=>z.elim fun us z=>z.elim fun n z=>?_
 rw [z.1] at r ⊢
 cases hx:(x==("append": Str)) with
 | true =>
  rw [hx] at e2
  rw [eq_of_beq hx]
  exact fun Q E k1 k2=>getMethod_list_append z.2.2.1 rfl rfl (callWith_sound H S e2 hq h (fun σ₂ φ₂ ca₂ s₂ pst₂=>keep_bi) (fun ws σ₂ q₂ e3 hq₂ φ₂ ca₂ s₂ us' pst₂ rs'=>(bnd_optE e3).elim fun y hy=>by
   rw [one1_inv hy.1] at rs'
   exact rs'.one.elim fun uy ry=>ry.1▸app_sound hy.2 hq₂ pst₂.at_ (pst₂.mono r) ry.2) Q E k1 k2)
 | false =>
  rw [hx] at e2
  have e2:=ifs (b:=x==("pop": Str)) e2
  rw [eq_of_beq e2.1]
  exact fun Q E k1 k2=>Copied.getMethod_pop_at z.2.2.1 rfl rfl (callWith_sound H S e2.2 hq h (fun σ₂ φ₂ ca₂ s₂ pst₂=>keep_bi) (fun ws σ₂ q₂ e3 hq₂ φ₂ ca₂ s₂ us' pst₂ rs'=>by
   have e3:=ifs (b:=ws.isEmpty) e3
   rw [List.isEmpty_iff.mp e3.1] at rs'
   rw [rs'.nil_]
   exact pop_sound e3.2 hq₂ pst₂.at_ (pst₂.mono r)) Q E k1 k2)
theorem lm_snd {rec:Expr→Wt→Ev V} (H:SE prog w LI Γ rec) (S:Site L F Γ A a cl outer) {σ σ':Wt} {out:Res V} {ps:List Prop} {x:Str} {pos:Pos} {args:List Expr} {v:V} {u:Value} {pl:Sem Bool} (e2:evLM rec x args v σ=some (out,σ',ps)) (hq:AllP ps) (h:At prog w LI (eN Γ L a cl) Γ.cv L F σ.ab φ ca s) (r:RV prog w LI φ ca v u) :
  Goal prog w LI (eN Γ L a cl) Γ.cv L F (RVr prog w LI) out σ'.ab φ ca s (fun Q E=>wpAny (model prog w) A (getMethod u x pl) (fun fx s₂=>wpAny (model prog w) A (callWith pos fx.1 fx.2 (backTo pos (starEach args (eN Γ L a cl))) []) Q E s₂) E s):=by
 cases v with
 | cell k=>exact lc_snd H S e2 hq h r
 | ls l =>
  have e2:=ifs (b:=x==("index": Str)) e2
  rw [eq_of_beq e2.1]
  refine (r.elems_inv rfl).elim fun ws z=>z.elim fun b z=>z.elim fun n z=>?_
  rw [z.1] at r ⊢
  have ho:=h.hp.fz _ _ z.2.2
  exact fun Q E k1 k2=>getMethod_builtin ⟨_,ho,rfl⟩ PySem.F.plainAttrs_list PySem.F.slot_list_index PySem.F.type_list_index (fun a e=>Value.ref.inj e▸⟨_,ho,rfl⟩) (callWith_sound H S e2.2 hq h (fun σ₂ φ₂ ca₂ s₂ pst₂=>keep_bi) (fun ws σ₂ q₂ e3 hq₂ φ₂ ca₂ s₂ us' pst₂ rs'=>ix_sound S e3 hq₂ pst₂.at_ (pst₂.mono r) rs') Q E k1 k2)
 | _=>exact nsm rfl e2
theorem mt_snd {rec:Expr→Wt→Ev V} (H:SE prog w LI Γ rec) (S:Site L F Γ A a cl outer) {σ σ':Wt} {out:Res V} {ps:List Prop} {x:Str} {pos:Pos} {args:List Expr} {v:V} {u:Value} {pl:Sem Bool} {C f:Nat} {fs:List (Str×V)} (hi:v.inst=some (C,fs)) (hn:fs.lookup x=none) (hm:lookM methL C x=some f) (e2:(bnd (evA rec args σ) fun vs σ=>callV prog w LI Γ (.fn f) (v::vs) σ)=some (out,σ',ps)) (hq:AllP ps) (h:At prog w LI (eN Γ L a cl) Γ.cv L F σ.ab φ ca s) (r:RV prog w LI φ ca v u) :
  Goal prog w LI (eN Γ L a cl) Γ.cv L F (RVr prog w LI) out σ'.ab φ ca s (fun Q E=>wpAny (model prog w) A (getMethod u x pl) (fun fx s₂=>wpAny (model prog w) A (callWith pos fx.1 fx.2 (backTo pos (starEach args (eN Γ L a cl))) []) Q E s₂) E s) :=
 fun Q E k1 k2=>meth_op hi hn hm h r (callWith_sound H S e2 hq h (fun σ₂ φ₂ ca₂ s₂ pst₂=>meth_keep hm pst₂.at_) (fun vs σ₂ q₂ e3 hq₂ φ₂ ca₂ s₂ us pst₂ rs=>callV_sound S S.ok.down.down rfl e3 hq₂ pst₂.at_ RV.fn (.cons (pst₂.mono r) rs)) Q E k1 k2)
theorem meth_snd {rec:Expr→Wt→Ev V} (H:SE prog w LI Γ rec) (S:Site L F Γ A a cl outer) {σ σ':Wt} {out:Res V} {ps:List Prop} {x:Str} {pos:Pos} {args:List Expr} {v:V} {u:Value} {pl:Sem Bool} (e2:evMeth prog w LI Γ rec x args v σ=some (out,σ',ps)) (hq:AllP ps) (h:At prog w LI (eN Γ L a cl) Γ.cv L F σ.ab φ ca s) (r:RV prog w LI φ ca v u) :
  Goal prog w LI (eN Γ L a cl) Γ.cv L F (RVr prog w LI) out σ'.ab φ ca s (fun Q E=>wpAny (model prog w) A (getMethod u x pl) (fun fx s₂=>wpAny (model prog w) A (callWith pos fx.1 fx.2 (backTo pos (starEach args (eN Γ L a cl))) []) Q E s₂) E s):=by
 unfold evMeth at e2
 cases hex:exMeths.any (·==x) with
 | true =>
  rw [hex] at e2
  refine bdI e2 fun e hv e2=>(exMeth_inv e hex).elim fun f k=>?_
  rw [k.2.2] at e2
  exact mt_snd H S (ex?_inv hv▸e.inst_is) k.2.1 k.1 e2 hq h r
 | false =>
  rw [hex] at e2
  cases hi:v.inst with
  | none=>rw [hi] at e2;exact lm_snd H S e2 hq h r
  | some p =>
   rw [hi] at e2
   have e2:=ifn (b:=(p.2.lookup x).isSome) e2
   exact bdI e2.2 fun f hf e2'=>mt_snd H S hi (Option.not_isSome_iff_eq_none.mp (by rw [e2.1];exact Bool.false_ne_true)) hf e2' hq h r
theorem callA_snd {rec:Expr→Wt→Ev V} (H:SE prog w LI Γ rec) (S:Site L F Γ A a cl outer) {σ σ':Wt} {out:Res V} {ps:List Prop} {o:Expr} {x:Str} {apos pos:Pos} {args:List Expr} (he:evCallA prog w LI Γ rec o x apos args pos σ=some (out,σ',ps)) (hp:AllP ps) (h:At prog w LI (eN Γ L a cl) Γ.cv L F σ.ab φ ca s) :
  Goal prog w LI (eN Γ L a cl) Γ.cv L F (RVr prog w LI) out σ'.ab φ ca s (fun Q E=>wpAny (model prog w) A (eval (.Call (.Attribute o x apos) args [] pos) (eN Γ L a cl)) Q E s):=by
 have he:=ifs (b:=plainBase o&&apos.endLine==pos.line&&Nat.blt args.length 20&&!args.any isStar) he
 have c:=Bool.and_eq_true_iff.mp he.1
 have c1:=Bool.and_eq_true_iff.mp c.1
 have c2:=Bool.and_eq_true_iff.mp c1.1
 refine (Goal.seq he.2 hp (fun o' σ₁ p e1 hp1=>H A a cl L F outer S o σ o' σ₁ p e1 hp1 φ ca s h)
   (K:=fun u s₁ Q E=>wpAny (model prog w) A (getMethod u x (do return (←importBound o (eN Γ L a cl)).getD true)) (fun fx s₂=>wpAny (model prog w) A (callWith pos fx.1 fx.2 (backTo pos (starEach args (eN Γ L a cl))) []) Q E s₂) E s₁) fun v σ₁ q e2 hq φ₁ ca₁ s₁ u pst r=>meth_snd H S e2 hq pst.at_ r).map fun Q E q=>?_
 rw [meth_node c2.1 c2.2 (blt_lt c1.2) ((Bool.not_eq_true' _).mp c.2)]
 exact wpAny_bind (wpAny_mono q (fun ov s₁ h₁=>wpAny_bind (wpAny_standAt (wpAny_bind (wpAny_holding (wpAny_mono h₁ (fun fx s₂ h₂=>h₂) fun _ _ x=>x))))) fun _ _ x=>x)
theorem cmp_snd {rec:Expr→Wt→Ev V} (H:SE prog w LI Γ rec) (S:Site L F Γ A a cl outer) {σ σ':Wt} {out:Res V} {ps:List Prop} {l r:Expr} {op:CmpOp} {pos:Pos} (he:evCmp prog w LI Γ rec l op r σ=some (out,σ',ps)) (hp:AllP ps) (h:At prog w LI (eN Γ L a cl) Γ.cv L F σ.ab φ ca s) :
  Goal prog w LI (eN Γ L a cl) Γ.cv L F (RVr prog w LI) out σ'.ab φ ca s (fun Q E=>wpAny (model prog w) A (eval (.Compare l [op] [r] pos) (eN Γ L a cl)) Q E s) :=
 have he:=ifn he
 (Goal.seq he.2 hp (fun o' σ₁ p e1 hp1=>H A a cl L F outer S l σ o' σ₁ p e1 hp1 φ ca s h)
   (K:=fun u s₁ Q E=>wpAny (model prog w) A (eval r (eN Γ L a cl)) (fun u' s₂=>wpAny (model prog w) A (compareOp op u u') Q E s₂) E s₁) fun v σ₁ q e2 hq φ₁ ca₁ s₁ u pst rv =>
  Goal.seq e2 hq (fun o' σ₁ p e1 hp1=>H A a cl L F outer S r _ o' σ₁ p e1 hp1 _ _ _ pst.at_) (K:=fun u' s₂ Q E=>wpAny (model prog w) A (compareOp op u u') Q E s₂) fun v' σ₂ q₂ e3 hq₂ φ₂ ca₂ s₂ u' pst₂ rv'=>cmpV_sound S e3 hq₂ pst₂.at_ (pst₂.mono rv) rv').map fun Q E q=>wpAny_Compare1 q he.1
theorem noStar_of {rec:Expr→Wt→Ev V} {es:List Expr} {σ:Wt} {f:List V→Wt→Ev V} {r:Res V×Wt×List Prop} (he:bnd (evA rec es σ) f=some r):bnd (evS rec es σ) f=some r:=by
 unfold evA at he
 cases q:es.any isStar with
 | false=>rw [q] at he;exact he
 | true=>rw [q] at he;exact nsm rfl he
theorem list_snd {rec:Expr→Wt→Ev V} (H:SE prog w LI Γ rec) (S:Site L F Γ A a cl outer) {σ σ':Wt} {out:Res V} {ps:List Prop} {es:List Expr} {pos:Pos} (he:evList rec es σ=some (out,σ',ps)) (hp:AllP ps) (h:At prog w LI (eN Γ L a cl) Γ.cv L F σ.ab φ ca s) :
  Goal prog w LI (eN Γ L a cl) Γ.cv L F (RVr prog w LI) out σ'.ab φ ca s (fun Q E=>wpAny (model prog w) A (eval (.List es pos) (eN Γ L a cl)) Q E s):=by
 refine (Goal.seq (noStar_of he) hp (fun o σ₁ p e1 hp1=>evS_sound H S e1 hp1 h) (K:=fun us s₁ Q E=>wpAny (model prog w) A (newList us) Q E s₁) fun vs σ₁ q e2 hq φ₁ ca₁ s₁ us pst r=>?_).map fun Q E q=>List_ q
 have e2:=ifs (b:=Nat.blt vs.length 1000) e2
 have hl:=Nat.lt_trans (blt_lt e2.1) (show 1000<16000000 by decide)
 have e2:=e2.2
 have d:=fun (e:rt (.lst vs) σ₁=some (out,σ',q))=>rt_goal e (newList_op (A:=A) pst.at_ r hl rfl)
 cases ht:σ₁.tr with
 | nil=>rw [ht] at e2;exact d e2
 | cons i t =>
  rw [ht] at e2
  cases i with
  | cel=>exact ev_goal e2 hq fun _=>newListC_op pst.at_ r hl
  | v u=>exact ev_goal e2 hq fun hq=>newList_op pst.at_ r hl hq.1
  | _=>exact d e2
theorem tup_snd {rec:Expr→Wt→Ev V} (H:SE prog w LI Γ rec) (S:Site L F Γ A a cl outer) {σ σ':Wt} {out:Res V} {ps:List Prop} {es:List Expr} {k:Nat} {pos:Pos} (he:evTup rec es σ=some (out,σ',ps)) (hp:AllP ps) (h:At prog w LI (eN Γ L a cl) Γ.cv L F σ.ab φ ca s) :
  Goal prog w LI (eN Γ L a cl) Γ.cv L F (RVr prog w LI) out σ'.ab φ ca s (fun Q E=>wpAny (model prog w) A (eval (.Tuple es k pos) (eN Γ L a cl)) Q E s) :=
 (Goal.seq (noStar_of he) hp (fun o σ₁ p e1 hp1=>evS_sound H S e1 hp1 h) (K:=fun us s₁ Q E=>wpAny (model prog w) A (newTuple us) Q E s₁) fun vs σ₁ q e2 hq φ₁ ca₁ s₁ us pst r =>
  have e2:=ifs e2
  rt_goal e2.2 (newTuple_op pst.at_ r (blt_lt e2.1) (mkT_items vs))).map fun Q E q=>Tuple_ q
theorem sl_snd {rec:Expr→Wt→Ev V} (H:SE prog w LI Γ rec) (S:Site L F Γ A a cl outer) {σ σ':Wt} {out:Res V} {ps:List Prop} {o:Expr} {lo hi:Option Expr} {p pos:Pos} (he:evSl rec o lo hi σ=some (out,σ',ps)) (hp:AllP ps) (h:At prog w LI (eN Γ L a cl) Γ.cv L F σ.ab φ ca s) :
  Goal prog w LI (eN Γ L a cl) Γ.cv L F (RVr prog w LI) out σ'.ab φ ca s (fun Q E=>wpAny (model prog w) A (eval (.Subscript o (.Slice lo hi none p) pos) (eN Γ L a cl)) Q E s) :=
 bdI he fun l hl he=>bdI he fun u hu he=>(Goal.seq he hp (fun o' σ₁ p e1 hp1=>H A a cl L F outer S o σ o' σ₁ p e1 hp1 φ ca s h)
   (K:=fun x s₁ Q E=>wpAny (model prog w) A (eval (.Slice lo hi none p) (eN Γ L a cl)) (fun u' s₂=>wpAny (model prog w) A (subscriptTail o (.Slice lo hi none p) x u') Q E s₂) E s₁) fun v σ₁ q e2 hq φ₁ ca₁ s₁ x pst rv=>slV_sound e2 hl hu pst.at_ rv).map fun Q E q=>Subscript_ q
theorem idx_snd {rec:Expr→Wt→Ev V} (H:SE prog w LI Γ rec) (S:Site L F Γ A a cl outer) {σ σ':Wt} {out:Res V} {ps:List Prop} {o i:Expr} {pos:Pos} (he:evIdx prog w LI Γ rec o i σ=some (out,σ',ps)) (hp:AllP ps) (h:At prog w LI (eN Γ L a cl) Γ.cv L F σ.ab φ ca s) :
  Goal prog w LI (eN Γ L a cl) Γ.cv L F (RVr prog w LI) out σ'.ab φ ca s (fun Q E=>wpAny (model prog w) A (eval (.Subscript o i pos) (eN Γ L a cl)) Q E s) :=
 have he:=ifs he
 (Goal.seq he.2 hp (fun o' σ₁ p e1 hp1=>H A a cl L F outer S o σ o' σ₁ p e1 hp1 φ ca s h)
   (K:=fun u s₁ Q E=>wpAny (model prog w) A (eval i (eN Γ L a cl)) (fun u' s₂=>wpAny (model prog w) A (subscriptTail o i u u') Q E s₂) E s₁) fun v σ₁ q e2 hq φ₁ ca₁ s₁ u pst rv =>
  Goal.seq e2 hq (fun o' σ₁ p e1 hp1=>H A a cl L F outer S i _ o' σ₁ p e1 hp1 _ _ _ pst.at_) (K:=fun u' s₂ Q E=>wpAny (model prog w) A (subscriptTail o i u u') Q E s₂) fun v' σ₂ q₂ e3 hq₂ φ₂ ca₂ s₂ u' pst₂ rv'=>subV_sound S e3 hq₂ he.1 pst₂.at_ (pst₂.mono rv) rv').map fun Q E q=>Subscript_ q
theorem bin_snd {rec:Expr→Wt→Ev V} (H:SE prog w LI Γ rec) (S:Site L F Γ A a cl outer) {σ σ':Wt} {out:Res V} {ps:List Prop} {l r:Expr} {op:Operator} {pos:Pos} (he:(bnd (rec l σ) fun a σ=>bnd (rec r σ) fun b σ=>binV prog w LI Γ op a b σ)=some (out,σ',ps)) (hp:AllP ps) (h:At prog w LI (eN Γ L a cl) Γ.cv L F σ.ab φ ca s) :
  Goal prog w LI (eN Γ L a cl) Γ.cv L F (RVr prog w LI) out σ'.ab φ ca s (fun Q E=>wpAny (model prog w) A (eval (.BinOp l op r pos) (eN Γ L a cl)) Q E s) :=
 (Goal.seq he hp (fun o' σ₁ p e1 hp1=>H A a cl L F outer S l σ o' σ₁ p e1 hp1 φ ca s h)
   (K:=fun u s₁ Q E=>wpAny (model prog w) A (eval r (eN Γ L a cl)) (fun u' s₂=>wpAny (model prog w) A (binaryOp op u u') Q E s₂) E s₁) fun v σ₁ q e2 hq φ₁ ca₁ s₁ u pst rv =>
  Goal.seq e2 hq (fun o' σ₁ p e1 hp1=>H A a cl L F outer S r _ o' σ₁ p e1 hp1 _ _ _ pst.at_) (K:=fun u' s₂ Q E=>wpAny (model prog w) A (binaryOp op u u') Q E s₂) fun v' σ₂ q₂ e3 hq₂ φ₂ ca₂ s₂ u' pst₂ rv'=>binV_sound S e3 hq₂ pst₂.at_ (pst₂.mono rv) rv').map fun Q E q=>wpAny_BinOp q
theorem if_snd {rec:Expr→Wt→Ev V} {recT:Expr→Wt→Ev Bool} (H:SE prog w LI Γ rec) (T:ST prog w LI Γ recT) (S:Site L F Γ A a cl outer) {σ σ':Wt} {out:Res V} {ps:List Prop} {t x y:Expr} {pos:Pos} (he:(bnd (recT t σ) fun c σ=>if c then rec x σ else rec y σ)=some (out,σ',ps)) (hp:AllP ps) (h:At prog w LI (eN Γ L a cl) Γ.cv L F σ.ab φ ca s) :
  Goal prog w LI (eN Γ L a cl) Γ.cv L F (RVr prog w LI) out σ'.ab φ ca s (fun Q E=>wpAny (model prog w) A (eval (.IfExp t x y pos) (eN Γ L a cl)) Q E s) :=
 (Goal.seq he hp (fun o' σ₁ p e1 hp1=>T A a cl L F outer S t σ o' σ₁ p e1 hp1 φ ca s h)
   (K:=fun b s₁ Q E=>if b then wpAny (model prog w) A (eval x (eN Γ L a cl)) Q E s₁ else wpAny (model prog w) A (eval y (eN Γ L a cl)) Q E s₁) fun b σ₁ q e2 hq φ₁ ca₁ s₁ u pst rb=>by
  rw [show u=b from rb]
  cases b with
  | true=>exact H A a cl L F outer S x _ _ _ _ e2 hq _ _ _ pst.at_
  | false=>exact H A a cl L F outer S y _ _ _ _ e2 hq _ _ _ pst.at_).map fun Q E q=>wpAny_IfExp q
theorem evE_sound {rec:Expr→Wt→Ev V} {recT:Expr→Wt→Ev Bool} (H:SE prog w LI Γ rec) (T:ST prog w LI Γ recT):SE prog w LI Γ (evE prog w LI Γ rec recT):=by
 intro A a cl L F outer S e σ out σ' ps he hp φ ca s h
 cases e with
 | Constant c k pos=>exact const_sound he h
 | Name x pos=>exact (optE_some he).elim fun v k=>rt_goal k.2 (name_sound S k.1 h)
 | Attribute o x pos=>exact attr_snd H S he hp h
 | Call f args kws pos =>
  cases kws with
  | cons _ _=>exact semE_sound he hp S h
  | nil =>
   cases f with
   | Name f fp=>exact callN_snd H S he hp h
   | Attribute o x apos=>exact callA_snd H S he hp h
   | _=>exact nsm rfl he
 | Compare l ops rs pos=>exact bdI he fun op ho he=>bdI he fun r hr he=>one1_inv ho▸one1_inv hr▸cmp_snd H S he hp h
 | BoolOp op vs pos =>
  cases op with
  | And=>exact evAnd_sound H S he hp h
  | Or=>exact evOr_sound H S he hp h
 | IfExp t x y pos=>exact if_snd H T S he hp h
 | List es pos=>exact list_snd H S he hp h
 | Tuple es k pos=>exact tup_snd H S he hp h
 | Subscript o i pos =>
  cases i with
  | Slice lo hi st p =>
   cases st with
   | none=>exact sl_snd H S he hp h
   | some _=>exact nsm rfl he
  | _=>exact idx_snd H S he hp h
 | BinOp l op r pos=>exact bin_snd H S he hp h
 | Dict ks vs pos =>
  have he:=ifs (b:=ks.isEmpty&&vs.isEmpty) he
  have c:=Bool.and_eq_true_iff.mp he.1
  rw [List.isEmpty_iff.mp c.1,List.isEmpty_iff.mp c.2]
  exact ev_goal he.2 hp fun _=>newDictC_op h
 | Lambda ps b pos=>exact semE_sound he hp S h
 | ListComp b g pos=>exact semE_sound he hp S h
 | _=>exact nsm rfl he
theorem truthBr {env:Env} {cv:List (Str×V)} {v:V} {u:Value} {σ σ':Wt} {out:Res Bool} {ps:List Prop} (e:(bnd (optE (truthV v σ.cells) σ) fun t σ=>br t σ)=some (out,σ',ps)) (hp:AllP ps) (h:At prog w LI env cv L F σ.ab φ ca s) (r:RV prog w LI φ ca v u) :
  Goal prog w LI env cv L F RBr out σ'.ab φ ca s (fun Q E=>wpAny (model prog w) A (truthy u) Q E s) :=
 (bnd_optE e).elim fun t k=>have z:=br_inv k.2 hp;z.1▸z.2▸truth_op k.1 h r
theorem evAll_sound {recT:Expr→Wt→Ev Bool} (T:ST prog w LI Γ recT) (S:Site L F Γ A a cl outer) {es:List Expr}:∀ {σ σ':Wt} {out:Res Bool} {ps:List Prop},evAll recT es σ=some (out,σ',ps)→AllP ps →
  ∀ {φ ca s},At prog w LI (eN Γ L a cl) Γ.cv L F σ.ab φ ca s→Goal prog w LI (eN Γ L a cl) Γ.cv L F RBr out σ'.ab φ ca s (fun Q E=>wpAny (model prog w) A (allTrue .And es (eN Γ L a cl)) Q E s):=by
 induction es with
 | nil=>exact fun e _ _ _ _ h=>rt_goal e ((Goal.now h rfl (SameX.refl _) rfl).map fun Q E q=>wpAny_allTrue_And_nil q)
 | cons x es ih =>
  intro σ σ' out ps e hp φ ca s h
  exact (Goal.seq e hp (fun o' σ₁ p e1 hp1=>T A a cl L F outer S x σ o' σ₁ p e1 hp1 φ ca s h)
    (K:=fun b s₁ Q E=>if b then wpAny (model prog w) A (allTrue .And es (eN Γ L a cl)) Q E s₁ else Q false s₁) fun b σ₁ q e2 hq φ₁ ca₁ s₁ u pst rb=>by
   rw [show u=b from rb]
   cases b with
   | true=>exact ih e2 hq pst.at_
   | false=>exact rt_goal e2 (Goal.now pst.at_ rfl (SameX.refl _) rfl)).map fun Q E q=>wpAny_allTrue_And_cons q
theorem evAny_sound {recT:Expr→Wt→Ev Bool} (T:ST prog w LI Γ recT) (S:Site L F Γ A a cl outer) {es:List Expr}:∀ {σ σ':Wt} {out:Res Bool} {ps:List Prop},evAny recT es σ=some (out,σ',ps)→AllP ps →
  ∀ {φ ca s},At prog w LI (eN Γ L a cl) Γ.cv L F σ.ab φ ca s→Goal prog w LI (eN Γ L a cl) Γ.cv L F RBr out σ'.ab φ ca s (fun Q E=>wpAny (model prog w) A (allTrue .Or es (eN Γ L a cl)) Q E s):=by
 induction es with
 | nil=>exact fun e _ _ _ _ h=>rt_goal e ((Goal.now h rfl (SameX.refl _) rfl).map fun Q E q=>wpAny_allTrue_Or_nil q)
 | cons x es ih =>
  intro σ σ' out ps e hp φ ca s h
  exact (Goal.seq e hp (fun o' σ₁ p e1 hp1=>T A a cl L F outer S x σ o' σ₁ p e1 hp1 φ ca s h)
    (K:=fun b s₁ Q E=>if b then Q true s₁ else wpAny (model prog w) A (allTrue .Or es (eN Γ L a cl)) Q E s₁) fun b σ₁ q e2 hq φ₁ ca₁ s₁ u pst rb=>by
   rw [show u=b from rb]
   cases b with
   | false=>exact ih e2 hq pst.at_
   | true=>exact rt_goal e2 (Goal.now pst.at_ rfl (SameX.refl _) rfl)).map fun Q E q=>wpAny_allTrue_Or_cons q
theorem evV_sound {rec:Expr→Wt→Ev V} (H:SE prog w LI Γ rec) (S:Site L F Γ A a cl outer) {x:Expr} {σ σ':Wt} {out:Res Bool} {ps:List Prop} (e:evV rec x σ=some (out,σ',ps)) (hp:AllP ps)
  (hx:isTrue x (eN Γ L a cl) (eval x (eN Γ L a cl))=(do let v←eval x (eN Γ L a cl);standAt x.pos;holding [v] (truthy v))) (h:At prog w LI (eN Γ L a cl) Γ.cv L F σ.ab φ ca s) :
  Goal prog w LI (eN Γ L a cl) Γ.cv L F RBr out σ'.ab φ ca s (fun Q E=>wpAny (model prog w) A (isTrue x (eN Γ L a cl) (eval x (eN Γ L a cl))) Q E s) :=
 (Goal.seq e hp (fun o' σ₁ p e1 hp1=>H A a cl L F outer S x σ o' σ₁ p e1 hp1 φ ca s h) (K:=fun u s₁ Q E=>wpAny (model prog w) A (truthy u) Q E s₁) fun v σ₁ q e2 hq φ₁ ca₁ s₁ u pst r=>truthBr e2 hq pst.at_ r).map fun Q E q=>wpAny_isTrue_value q hx
theorem tc_snd {rec:Expr→Wt→Ev V} (H:SE prog w LI Γ rec) (S:Site L F Γ A a cl outer) {σ σ':Wt} {out:Res Bool} {ps:List Prop} {l r:Expr} {op:CmpOp} {pos:Pos} (he:evTC prog w LI Γ rec l op r σ=some (out,σ',ps)) (hp:AllP ps) (h:At prog w LI (eN Γ L a cl) Γ.cv L F σ.ab φ ca s) :
  Goal prog w LI (eN Γ L a cl) Γ.cv L F RBr out σ'.ab φ ca s (fun Q E=>wpAny (model prog w) A (isTrue (.Compare l [op] [r] pos) (eN Γ L a cl) (eval (.Compare l [op] [r] pos) (eN Γ L a cl))) Q E s) :=
 have he:=ifn he
 (Goal.seq he.2 hp (fun o' σ₁ p e1 hp1=>H A a cl L F outer S l σ o' σ₁ p e1 hp1 φ ca s h)
   (K:=fun u s₁ Q E=>wpAny (model prog w) A (eval r (eN Γ L a cl)) (fun u' s₂=>wpAny (model prog w) A (compareOp op u u') (fun c s₃=>wpAny (model prog w) A (truthy c) Q E s₃) E s₂) E s₁) fun v σ₁ q e2 hq φ₁ ca₁ s₁ u pst rv =>
  Goal.seq e2 hq (fun o' σ₁ p e1 hp1=>H A a cl L F outer S r _ o' σ₁ p e1 hp1 _ _ _ pst.at_) (K:=fun u' s₂ Q E=>wpAny (model prog w) A (compareOp op u u') (fun c s₃=>wpAny (model prog w) A (truthy c) Q E s₃) E s₂) fun v' σ₂ q₂ e3 hq₂ φ₂ ca₂ s₂ u' pst₂ rv' =>
   Goal.seq e3 hq₂ (fun o' σ₁ p e1 hp1=>cmpV_sound S e1 hp1 pst₂.at_ (pst₂.mono rv) rv') (K:=fun u' s₂ Q E=>wpAny (model prog w) A (truthy u') Q E s₂) fun c σ₃ q₃ e4 hq₃ φ₃ ca₃ s₃ u₃ pst₃ rc=>bdI e4 fun t ht e4=>by
    rw [bool?_inv ht] at rc
    have z:=br_inv e4 hq₃
    rw [rc.bool_inv,z.1,z.2]
    exact (Goal.now pst₃.at_ rfl (SameX.refl _) rfl).map fun Q E q=>wpAny_truthy_bool q).map fun Q E q=>wpAny_isTrue_Compare1 q he.1
theorem evT_sound {rec:Expr→Wt→Ev V} {recT:Expr→Wt→Ev Bool} (H:SE prog w LI Γ rec) (T:ST prog w LI Γ recT):ST prog w LI Γ (evT prog w LI Γ rec recT):=by
 intro A a cl L F outer S e σ out σ' ps he hp φ ca s h
 cases e with
 | UnaryOp op x pos =>
  cases op with
  | Not =>
   exact (Goal.seq (show (bnd (recT x σ) fun b σ=>rt (!b) σ)=some (out,σ',ps) from he) hp (fun o' σ₁ p e1 hp1=>T A a cl L F outer S x σ o' σ₁ p e1 hp1 φ ca s h) (K:=fun b s₁ Q E=>Q (!b) s₁) fun b σ₁ q e2 hq φ₁ ca₁ s₁ u pst rb =>
    rt_goal e2 (Goal.now pst.at_ rfl (SameX.refl _) (congrArg not (show u=b from rb)))).map fun Q E q=>wpAny_isTrue_Not q
  | _=>exact nsm rfl he
 | BoolOp op vs pos =>
  cases op with
  | And=>exact (evAll_sound T S he hp h).map fun Q E q=>wpAny_isTrue_BoolOp q
  | Or=>exact (evAny_sound T S he hp h).map fun Q E q=>wpAny_isTrue_BoolOp q
 | Compare l ops rs pos=>exact bdI he fun op ho he=>bdI he fun r hr he=>one1_inv ho▸one1_inv hr▸tc_snd H S he hp h
 | Name x pos=>exact evV_sound H S he hp rfl h
 | Call f args kws pos=>exact evV_sound H S he hp (by cases f<;>rfl) h
 | _=>exact nsm rfl he
theorem evN_sound:∀ n,SE prog w LI Γ (evN prog w LI Γ n).1∧ST prog w LI Γ (evN prog w LI Γ n).2
 | 0=>⟨fun _ _ _ _ _ _ _ _ _ _ _ _ e=>by (cases e),fun _ _ _ _ _ _ _ _ _ _ _ _ e=>by (cases e)⟩
 | n+1=>⟨evE_sound (evN_sound n).1 (evN_sound n).2,evT_sound (evN_sound n).1 (evN_sound n).2⟩
end
section
open PySem PySem.W PySem.Calls PyProof.Rows PySem.SeqAt
theorem k1049 (P:Params):(K P).lookup 1049=some (excClassObj "BindingException" "BindingException" 1049 1048 [.type "Exception"] [.type "Exception", .type "BaseException", .type "object"] true [] [] false none none (some (.ref 1040)) none (some (.str "BindingException" 1607)) (some (.str "BindingException" 1615)) (some (.bool true)) "Exception.__new__"):=by kernel_rfl
theorem g1048 (P:Params):(gkeys P 1048&&(gfind P 1048 "__init__"== none))=true:=by kernel_rfl
section
variable {prog:Program} {w:World} {LI:Nat→Option LamInfo} {Γ:Gam} {A:Around} {a:Addr} {cl:List (Str×Addr)} {L:Addr} {F:List Addr} {outer:List Env} {φ:Mp} {ca:List Addr} {s:Shared}
theorem At.store {env:Env} {cv:List (Str×V)} {σ:Ab} {x:Str} {v:V} {u:Value} {m:Str→Option Value} {s':Shared} (h:At prog w LI env cv L F σ φ ca s) (hm:∀ x v,σ.loc.lookup x=some v→∃ u,m x=some u∧RV prog w LI φ ca v u)
  (r:RV prog w LI φ ca v u) (hn:s'.heap.Ns L (fun y=>if y=x then some u else m y)) (hs:Heap.SameBut L s.heap s'.heap):At prog w LI env cv L F ⟨(x,v)::σ.loc,σ.cells⟩ φ ca s':=by
 refine ⟨h.hp.keeps (fun b o e hb=>(hs.2 b (fun z=>hb (z▸.head _))).trans e) (fun b o e hb ho=>?_) (Mp.le.refl _) (fun _ _ e=>.inl e),h.big,h.LF,⟨_,hn,fun y t ht=>?_⟩,h.cv⟩
 ·by_cases z:b=L
  ·rw [z]
   exact hn.elim fun o' hn=>hn.elim fun es hn=>hn.elim fun ep hn=>⟨o',hn.1,fun vs q=>nomatch hn.2.1.symm.trans q⟩
  ·exact ⟨o,(hs.2 b z).trans e,ho⟩
 ·rw [List.lookup_cons] at ht
  cases q:(y==x) with
  | true=>rw [q] at ht;exact ⟨u,if_pos (eq_of_beq q),Option.some.inj ht▸r⟩
  | false =>
   rw [q] at ht
   exact (hm y t ht).imp fun u' k=>⟨(if_neg (beq_eq_false_iff_ne.mp q)).trans k.1,k.2⟩
theorem Pst.sameB {env:Env} {cv:List (Str×V)} {σ':Ab} {s':Shared} (h:At prog w LI env cv L F σ' φ ca s') (al:L<s.heap.objs.size∧Heap.Al s'.heap L) (hs:Heap.SameBut L s.heap s'.heap) (hF:L∉F) (x:SameX s s'):Pst prog w LI env cv L F σ' φ ca s φ ca s' :=
 ⟨List.prefix_refl _,⟨Mp.le.refl _,fun _ _ e=>.inl e,fun b hb=>if z:b=L then z▸al.2 else hb.imp fun o e=>(hs.2 b z).trans e,fun b o e h1 _ _=>(hs.2 b (fun z=>h1 (z▸.head _))).trans e,fun b o e hb=>⟨o.slots,(hs.2 b (fun z=>hF (z▸hb))).trans e⟩⟩,fun a h=>.inl h,h,x⟩
theorem store_op (S:Site L F Γ A a cl outer) {x:Str} {v:V} {u:Value} {σ:Ab} (hx:Γ.cs.names.lookup x=some .local) (h:At prog w LI (eN Γ L a cl) Γ.cv L F σ φ ca s) (r:RV prog w LI φ ca v u) :
  Goal prog w LI (eN Γ L a cl) Γ.cv L F (fun (_:Unit) _ _ (_:Unit)=>True) (.ok ()) ⟨(x,v)::σ.loc,σ.cells⟩ φ ca s (fun Q E=>wpAny (model prog w) A (storeName (eN Γ L a cl) x u) Q E s):=fun Q E k1 _ =>
 h.fr.elim fun m hm=>wpAny_storeName_local (env:=eN Γ L a cl) hx hm.1 (fun h' hn' hs=>hn'.elim fun o q=>q.elim fun es q=>q.elim fun ep q =>
  have at':At prog w LI (eN Γ L a cl) Γ.cv L F ⟨(x,v)::σ.loc,σ.cells⟩ φ ca { s with heap:=h',toks:=s.toks+1 }:=h.store hm.2 r hn' hs
  k1 () φ ca () _ rfl (Pst.sameB at' ⟨hm.1.lt,o,q.1⟩ hs h.LF ⟨rfl,rfl,rfl⟩) trivial) (by show (Γ.cs.kind==.class||(Γ.cs.kind==.module&&L !=mainGlobals))=false;rw [S.kd];rfl)
theorem store_fl {β γ:Type} {b:β} {g:γ} {R:β→Mp→List Addr→γ→Prop} {σ:Ab} {G:(Unit→Shared→Prop)→(Value→Shared→Prop)→Prop} {env:Env} {cv:List (Str×V)} (hR:∀ φ ca,R b φ ca g)
  (h:Goal prog w LI env cv L F (fun (_:Unit) _ _ (_:Unit)=>True) (.ok ()) σ φ ca s G):Goal prog w LI env cv L F R (.ok b) σ φ ca s (fun Q E=>G (fun _=>Q g) E):=fun Q E k1 k2 =>
 h _ _ (fun _ φ' ca' _ s' _ pst' _=>k1 b φ' ca' g s' rfl pst' (hR _ _)) fun _ _ _ _ _ eo=>n_oe eo
theorem raise_op {β α:Type} {R:β→Mp→List Addr→Flow→Prop} (S:Site L F Γ A a cl outer) {x:Str} {np cpos pos:Pos} {σ:Wt} (hx:nameV Γ x σ=some (.fn 1049)) (h:At prog w LI (eN Γ L a cl) Γ.cv L F σ.ab φ ca s) :
  Goal prog w LI (eN Γ L a cl) Γ.cv L F R (.err (.fn 1049)) σ.ab φ ca s (fun Q E=>wpAny (model prog w) A (exec (.Raise (some (.Call (.Name x np) [] [] cpos)) none pos) (eN Γ L a cl)) Q E s):=fun Q E _ k2 =>
 have gg:=Bool.and_eq_true_iff.mp (g1048 w.params)
 wpAny_Raise_call_sub PySem.F.excBase_Exception (C:=1049) (nm :="BindingException") (q :="BindingException") (N:=1048) (bs:=[.type "Exception"]) (hdct:=true) (sn:=[]) (sub:=[]) (ab:=false) (col:=none) (dd:=none) (k0:=some (.ref 1040)) (k1:=none) (k2:=some (.str "BindingException" 1607)) (k3:=some (.str "BindingException" 1615)) (k5:=some (.bool true)) (mN:=gfind w.params 1048) S.ok.1 rfl (beq_iff_eq.mp gg.2)
  (name_sound S hx h _ _ (fun fv φ₁ ca₁ vf s₁ ef pst rf =>
  ⟨(Res.ok.inj ef▸rf:RV prog w LI φ₁ ca₁ (.fn 1049) vf).fn_inv,evalArgs_empty ⟨rfl,Nat.zero_le _,pst.at_.kin _ _ (k1049 _),gns pst.at_.kin gg.1,fun h' e x=>x.there.elim fun t k =>
   have ap:=apart_none pst.at_ x.new
   k2 _ φ₁ ca₁ _ _ rfl (pst.trans ((Pst.refl pst.at_).touch ap x.new (fun b o _ q=>x.keeps b o q) ⟨rfl,rfl,rfl⟩))
    ⟨e,_,_,_,.ref 1049,rfl,k.1,.fn,rfl,rfl,rfl,ap.f,opt_none fun o q=>(pst.stp.alive e ⟨o,q⟩).elim fun o' q'=>nsm x.new q',.inl rfl⟩⟩⟩) fun _ _ _ _ _ e=>n_oe e)
noncomputable def Res.fl:Res V→Res Fl
 | .ok _=>.ok .next
 | .err c=>.err c
theorem setBd_op (S:Site L F Γ A a cl outer) {k:Nat} {i v:V} {u iv uv:Value} {σ σ':Wt} {out:Res V} {ps:List Prop} (e:callV prog w LI Γ (.fn 989) [.raw 1020 k,i,v] σ=some (out,σ',ps)) (hp:AllP ps)
  (h:At prog w LI (eN Γ L a cl) Γ.cv L F σ.ab φ ca s) (r:RV prog w LI φ ca (.raw 1020 k) u) (ri:RV prog w LI φ ca i iv) (rv:RV prog w LI φ ca v uv) {R:Fl→Mp→List Addr→Flow→Prop} (hR:∀ φ ca,R .next φ ca .next) :
  Goal prog w LI (eN Γ L a cl) Γ.cv L F R (Res.fl out) σ'.ab φ ca s (fun Q E=>wpAny (model prog w) A (setItem u iv uv) (fun _=>Q .next) E s):=by
 have ok:=bd_ok w.params
 unfold bdOk at ok
 simp only [Bool.and_eq_true] at ok
 intro Q E k1 k2
 refine h.fr.elim fun m hm=>(raw_at h r).elim fun x q=>q.elim fun dx q=>q.elim fun od q=>q.1▸ksp_setItem (fr_of h.kin hm.1 h.big) (Hb_K _) q.2 ok.1.1.2 (beq_iff_eq.mp ok.1.2) ok.2 (callV_sound S (S.ok.mono (Nat.le_add_right _ _)) rfl e hp h (RV.fn (a:=989)) (.cons (q.1▸r) (.cons ri (.cons rv .nil))) (fun _ s'=>Q .next s') E ?_ ?_)
 ·exact fun b φ' ca' v s' eo pst _=>k1 .next φ' ca' .next s' (congrArg Res.fl eo) pst (hR _ _)
 ·exact fun c φ' ca' v s' eo pst x=>k2 c φ' ca' _ s' (congrArg Res.fl eo) pst x
theorem unpack2_op (S:Site L F Γ A a cl outer) {x y:Str} {px py pos:Pos} {k:Nat} {v vx vy:V} {u:Value} {σ:Ab} (hx:Γ.cs.names.lookup x=some .local) (hy:Γ.cs.names.lookup y=some .local) (hv:v.items=some [vx,vy])
  (h:At prog w LI (eN Γ L a cl) Γ.cv L F σ φ ca s) (r:RV prog w LI φ ca v u) :
  Goal prog w LI (eN Γ L a cl) Γ.cv L F (fun (_:Unit) _ _ (_:Unit)=>True) (.ok ()) ⟨(y,vy)::(x,vx)::σ.loc,σ.cells⟩ φ ca s (fun Q E=>wpAny (model prog w) A (assign (.Tuple [.Name x px,.Name y py] k pos) (eN Γ L a cl) u) Q E s) :=
 (r.items_inv hv).elim fun us q=>q.elim fun b q=>q.2.1.two.elim fun ux z=>z.elim fun uy z=>by
 rw [q.1]
 intro Q E k1 k2
 refine assign_Tuple_tuple S.ok.1 (items:=#[ux,uy]) ⟨_,h.hp.fz _ _ (z.1▸q.2.2),rfl,_,rfl⟩ rfl rfl (fun h' he=>?_)
 have p0:Pst prog w LI (eN Γ L a cl) Γ.cv L F σ φ ca s φ ca { s with heap:=h' }:=(Pst.refl h).touch (apart_none h (Heap.get?_none_of_le (Nat.le_refl _))) (Heap.get?_none_of_le (Nat.le_refl _)) he ⟨rfl,rfl,rfl⟩
 exact assignInOrder_cons (assign_Name (store_op S hx p0.at_ z.2.1 _ _ (fun _ φ₁ ca₁ _ s₁ _ p1 _ =>
  assignInOrder_cons (assign_Name (store_op S hy p1.at_ (p1.mono z.2.2) _ _ (fun _ φ₂ ca₂ _ s₂ _ p2 _=>assignInOrder_nil (k1 () φ₂ ca₂ () s₂ rfl ((p0.trans p1).trans p2) trivial)) fun _ _ _ _ _ e=>n_oe e))) fun _ _ _ _ _ e=>n_oe e))
end
end
noncomputable section
noncomputable def isComp:Expr→Bool
 | .ListComp ..=>true
 | .SetComp ..=>true
 | .DictComp ..=>true
 | _=>false
noncomputable def isTup:Expr→Bool
 | .Tuple ..=>true
 | _=>false
noncomputable def isLc:NameKind→Bool
 | .local=>true
 | _=>false
noncomputable def isLoc (o:Option NameKind):Bool:=o.any isLc
noncomputable def isAdd:Operator→Bool
 | .Add=>true
 | _=>false
noncomputable def nmE:Expr→Option Str
 | .Name x _=>some x
 | _=>none
noncomputable def two1 {α:Type}:List α→Option (α×α)
 | []=>none
 | a::r=>(one1 r).map (Prod.mk a)
noncomputable def V.fn?:V→Option Nat
 | .fn c=>some c
 | _=>Option.none
noncomputable def trSt:List Tr→Option (Res Fl×List (Str×V)×List Cell×List Tr)
 | []=>none
 | i::t=>match i with
  | .st f loc cs=>some (f,loc,cs,t)
  | _=>none
noncomputable def kE:Expr→List Expr
 | .BinOp l _ r _=>[l,r]
 | .Compare l _ rs _=>l::rs
 | .Call f as _ _=>f::as
 | .Subscript a b _=>[a,b]
 | .Attribute o _ _=>[o]
 | .Slice l u _ _=>l.toList++u.toList
 | .List es _=>es
 | .Tuple es _ _=>es
 | .ListComp e _ _ _=>[e]
 | _=>[]
noncomputable def kS:Stmt→List Expr
 | .Return e _=>e.toList
 | .Assign ts v _=>v::ts
 | _=>[]
noncomputable def nE (e:Expr):List Nat→Expr
 | []=>e
 | i::p=>nE ((kE e).getD i default) p
noncomputable abbrev pE (e:Expr) (p:List Nat):Pos:=(nE e p).pos
section
variable (prog:Program) (w:World) (LI:Nat→Option LamInfo) (Γ:Gam)
noncomputable def RFr:Fl→Mp→List Addr→Flow→Prop:=fun f φ ca g=>match f,g with
 | .next,.next=>True
 | .brk,.brk=>True
 | .cont,.cont=>True
 | .ret v,.ret u=>RV prog w LI φ ca v u
 | _,_=>False
noncomputable def SemS (st:Stmt) (σ:Ab) (out:Res Fl) (σ':Ab):Prop:=∀ A a cl L F outer,Site L F Γ A a cl outer→∀ φ ca s,At prog w LI (eN Γ L a cl) Γ.cv L F σ φ ca s →
 Goal prog w LI (eN Γ L a cl) Γ.cv L F (RFr prog w LI) out σ' φ ca s (fun Q E=>wpAny (model prog w) A (exec st (eN Γ L a cl)) Q E s)
noncomputable def semS (st:Stmt) (σ:Wt):Ev Fl:=(trSt σ.tr).bind fun p=>some (p.1,⟨p.2.1,p.2.2.1,p.2.2.2⟩,[SemS prog w LI Γ st σ.ab p.1 ⟨p.2.1,p.2.2.1⟩])
noncomputable def setD (k:Nat) (x:Str) (v:V) (σ:Wt):Ev Fl:=(cellD σ.cells[k]?).bind fun kvs=>some (.ok .next,⟨σ.loc,σ.cells.set k (.dict (putK kvs x v)),σ.tr⟩,[kvs.length<1000000])
noncomputable def setV (ov iv v:V) (σ:Wt):Ev Fl:=match ov with
 | .cell k=>iv.str?.bind fun x=>setD k x v σ
 | .raw C k=>if Nat.beq C 1020 then bnd (callV prog w LI Γ (.fn 989) [.raw 1020 k,iv,v] σ) fun _ σ=>rt .next σ else none
 | _=>none
noncomputable def stV (x:Str) (v:V) (σ:Wt):Ev Fl:=rt .next ⟨(x,v)::σ.loc,σ.cells,σ.tr⟩
noncomputable def pairV (x y:Str) (v:V) (σ:Wt):Ev Fl:=v.items.bind fun vs=>(two1 vs).bind fun p=>rt .next ⟨(y,p.2)::(x,p.1)::σ.loc,σ.cells,σ.tr⟩
noncomputable def attV (x:Str) (v ov:V) (σ:Wt):Ev Fl:=ov.raw?.bind fun p=>σ.cells[p.2]?.bind fun c=>c.fl.bind fun fs=>if (fs.lookup x).isNone&&lookA setAL p.1 x&&Nat.blt fs.length 100 then rt .next ⟨σ.loc,σ.cells.set p.2 (.flds (fs++[(x,v)])),σ.tr⟩ else none
noncomputable def asgN (E:Expr→Wt→Ev V) (x:Str) (value:Expr) (σ:Wt):Ev Fl:=if isLoc (Γ.cs.names.lookup x) then bnd (E value σ) fun v σ=>stV x v σ else none
noncomputable def asgP (E:Expr→Wt→Ev V) (es:List Expr) (value:Expr) (σ:Wt):Ev Fl:=if isTup value then none else (two1 es).bind fun p=>(nmE p.1).bind fun x=>(nmE p.2).bind fun y =>
 if isLoc (Γ.cs.names.lookup x)&&isLoc (Γ.cs.names.lookup y) then bnd (E value σ) fun v σ=>pairV x y v σ else none
noncomputable def asgT (E:Expr→Wt→Ev V) (t value:Expr) (σ:Wt):Ev Fl:=match t with
 | .Name x _=>asgN Γ E x value σ
 | .Attribute o x _=>bnd (E value σ) fun v σ=>bnd (E o σ) fun ov σ=>attV x v ov σ
 | .Subscript o i _=>bnd (E value σ) fun v σ=>bnd (E o σ) fun ov σ=>bnd (E i σ) fun iv σ=>setV prog w LI Γ ov iv v σ
 | .Tuple es _ _=>asgP Γ E es value σ
 | _=>none
noncomputable def evAug (E:Expr→Wt→Ev V) (t:Expr) (op:Operator) (value:Expr) (σ:Wt):Ev Fl:=(nmE t).bind fun x=>if isLoc (Γ.cs.names.lookup x)&&isAdd op then
 bnd (optE (nameV Γ x σ) σ) fun old σ=>bnd (E value σ) fun v σ=>old.int?.bind fun a=>v.int?.bind fun b=>stV x (.int (a+b)) σ else none
noncomputable def evRs (f:Expr) (as:List Expr) (ks:List Keyword) (σ:Wt):Ev Fl:=if as.isEmpty&&ks.isEmpty then (nmE f).bind fun x=>(nameV Γ x σ).bind fun v=>v.fn?.bind fun c=>if Nat.beq c 1049 then some (.err (.fn 1049),σ,[]) else none else none
noncomputable def evRaise (e:Expr) (σ:Wt):Ev Fl:=match e with
 | .Call f as ks _=>evRs Γ f as ks σ
 | _=>none
noncomputable def evX (E:Expr→Wt→Ev V) (T:Expr→Wt→Ev Bool) (B:List Stmt→Wt→Ev Fl) (st:Stmt) (σ:Wt):Ev Fl:=match st with
 | .For ..=>semS prog w LI Γ st σ
 | .While ..=>semS prog w LI Γ st σ
 | .Try ..=>semS prog w LI Γ st σ
 | .Return e _=>(match e with
  | some e=>bnd (E e σ) fun v σ=>rt (.ret v) σ
  | none=>rt (.ret .none) σ)
 | .Assign ts value _=>if isComp value then none else (one1 ts).bind fun t=>asgT prog w LI Γ E t value σ
 | .AugAssign t op value _=>evAug Γ E t op value σ
 | .Raise e c _=>if c.isSome then none else e.bind fun e=>evRaise Γ e σ
 | .If t b o _=>bnd (T t σ) fun c σ=>if c then B b σ else B o σ
 | .Assert t _ _=>bnd (T t σ) fun c σ=>if c then rt .next σ else none
 | .Expr e _=>if isComp e then none else bnd (E e σ) fun _ σ=>rt .next σ
 | .Pass _=>rt .next σ
 | _=>none
noncomputable def flK (f:Fl) (k:Ev Fl) (σ:Wt):Ev Fl:=match f with
 | .next=>k
 | f=>rt f σ
noncomputable def evBk (X:Stmt→Wt→Ev Fl):List Stmt→Wt→Ev Fl
 | [],σ=>rt .next σ
 | st::r,σ=>bnd (X st σ) fun f σ=>flK f (evBk X r σ) σ
noncomputable def evM (m:Nat):Nat→Stmt→Wt→Ev Fl
 | 0=>fun _ _=>none
 | n+1=>evX prog w LI Γ (evN prog w LI Γ m).1 (evN prog w LI Γ m).2 (evBk (evM m n))
noncomputable def SX (rec:Stmt→Wt→Ev Fl):Prop:=∀ st σ out σ' ps,rec st σ=some (out,σ',ps)→AllP ps→SemS prog w LI Γ st σ.ab out σ'.ab
noncomputable def SemB (b:List Stmt) (σ:Ab) (out:Res Fl) (σ':Ab):Prop:=∀ A a cl L F outer,Site L F Γ A a cl outer→∀ φ ca s,At prog w LI (eN Γ L a cl) Γ.cv L F σ φ ca s →
 Goal prog w LI (eN Γ L a cl) Γ.cv L F (RFr prog w LI) out σ' φ ca s (fun Q E=>wpAny (model prog w) A (execs b (eN Γ L a cl)) Q E s)
end
theorem isLoc_inv {o:Option NameKind} (h:isLoc o=true):o=some .local:=by
 cases o with
 | none=>exact absurd h Bool.false_ne_true
 | some k=>cases k<;>first | rfl | exact absurd h Bool.false_ne_true
theorem isAdd_inv {o:Operator} (h:isAdd o=true):o=.Add:=by
 cases o<;>first | rfl | exact absurd h Bool.false_ne_true
theorem nmE_inv {e:Expr} {x:Str} (h:nmE e=some x):∃ p,e=.Name x p:=by
 cases e<;>first | exact ⟨_,congrArg (Expr.Name · _) (Option.some.inj h)⟩ | exact nsm rfl h
theorem fn?_inv {v:V} {x:Nat} (h:v.fn?=some x):v=.fn x:=by
 cases v<;>first | exact Option.some.inj h▸rfl | exact nsm rfl h
theorem two1_inv {α:Type} {l:List α} {p:α×α} (h:two1 l=some p):l=[p.1,p.2]:=by
 cases l with
 | nil=>exact nsm rfl h
 | cons a r=>exact (Option.map_eq_some_iff.mp h).elim fun b k=>by rw [one1_inv k.1,← k.2]
section
variable {prog:Program} {w:World} {LI:Nat→Option LamInfo} {Γ:Gam} {A:Around} {a:Addr} {cl:List (Str×Addr)} {L:Addr} {F:List Addr} {outer:List Env} {φ:Mp} {ca:List Addr} {s:Shared}
theorem trSt_semS {st:Stmt} {σ σ':Wt} {out:Res Fl} {ps:List Prop} (e:semS prog w LI Γ st σ=some (out,σ',ps)) (hp:AllP ps):SemS prog w LI Γ st σ.ab out σ'.ab :=
 bdI e fun p _ e=>ev_sub (P:=fun o σ' ps=>AllP ps→SemS prog w LI Γ st σ.ab o σ'.ab) e (fun h=>h.1) hp
theorem swaps_no {value:Expr} {t:Option Expr} {n:Nat} {env:Env} (h:isComp value=false):swapsWith value t n env=pure false:=by
 cases value<;>first | rfl | exact absurd h.symm Bool.false_ne_true
theorem noSwap1 {elts:List Expr} {k:Nat} {tp:Pos} {value:Expr} {n:Nat} {env:Env} (h:isComp value=false):swapsWithSole [.Tuple elts k tp] value n env=pure false:=by
 cases value<;>first | rfl | exact absurd h.symm Bool.false_ne_true
theorem noSwap2 {elts:List Expr} {k:Nat} {tp:Pos} {value:Expr} {env:Env} (h:isTup value=false):swappedStores [.Tuple elts k tp] value env=pure none:=by
 cases value<;>first | rfl | exact absurd h.symm Bool.false_ne_true
theorem RFr.next_inv {φ:Mp} {ca:List Addr} {u:Flow} (h:RFr prog w LI .next φ ca u):u=.next:=by
 cases u<;>first | rfl | exact h.elim
theorem RFr.brk_inv {φ:Mp} {ca:List Addr} {u:Flow} (h:RFr prog w LI .brk φ ca u):u=.brk:=by
 cases u<;>first | rfl | exact h.elim
theorem RFr.cont_inv {φ:Mp} {ca:List Addr} {u:Flow} (h:RFr prog w LI .cont φ ca u):u=.cont:=by
 cases u<;>first | rfl | exact h.elim
theorem RFr.ret_inv {φ:Mp} {ca:List Addr} {v:V} {u:Flow} (h:RFr prog w LI (.ret v) φ ca u):∃ x,u=.ret x∧RV prog w LI φ ca v x:=by
 cases u<;>first | exact ⟨_,rfl,h⟩ | exact h.elim
theorem nx_goal {σ:Ab} {env:Env} {cv:List (Str×V)} (h:At prog w LI env cv L F σ φ ca s):Goal prog w LI env cv L F (RFr prog w LI) (.ok .next) σ φ ca s (fun Q _=>Q .next s):=Goal.now h rfl (SameX.refl s) trivial
theorem evBk_sound {X:Stmt→Wt→Ev Fl} (H:SX prog w LI Γ X) {b:List Stmt}:∀ {σ σ':Wt} {out:Res Fl} {ps:List Prop},evBk X b σ=some (out,σ',ps)→AllP ps→SemB prog w LI Γ b σ.ab out σ'.ab:=by
 induction b with
 | nil=>exact fun e hp A a cl L F outer S φ ca s h=>rt_goal e ((nx_goal h).map fun Q E q=>wpAny_execs_nil q)
 | cons st r ih =>
  intro σ σ' out ps e hp A a cl L F outer S φ ca s h
  refine (Goal.seq e hp (fun o' σ₁ p e1 hp1=>H _ _ _ _ _ e1 hp1 A a cl L F outer S φ ca s h)
   (K:=fun f s₁ Q E=>match f with | .next=>wpAny (model prog w) A (execs r (eN Γ L a cl)) Q E s₁ | f=>Q f s₁) ?_).map fun Q E q=>wpAny_execs_cons q
  intro f σ₁ q e2 hq φ₁ ca₁ s₁ u pst rf
  cases f with
  | next=>rw [rf.next_inv];exact ih e2 hq A a cl L F outer S _ _ _ pst.at_
  | brk=>rw [rf.brk_inv];exact rt_goal e2 (Goal.now pst.at_ rfl (SameX.refl _) trivial)
  | cont=>rw [rf.cont_inv];exact rt_goal e2 (Goal.now pst.at_ rfl (SameX.refl _) trivial)
  | ret v=>exact rf.ret_inv.elim fun x k=>by rw [k.1];exact rt_goal e2 (Goal.now pst.at_ rfl (SameX.refl _) k.2)
theorem fl_inj {σ':Wt} {out:Res Fl} {ps:List Prop} {m:Ev V} (e:bnd m (fun _ σ=>rt Fl.next σ)=some (out,σ',ps)):∃ o',m=some (o',σ',ps)∧out=Res.fl o' :=
 bnd_elim e (fun b σ₁ p q hm hf hps=>have k:=ev_inj (o:=.ok Fl.next) (p:=[]) hf;⟨.ok b,by rw [hm,hps,← k.2.1,← k.2.2,List.append_nil],k.1.symm⟩) fun c hm ho=>⟨.err c,hm,ho⟩
theorem setV_sound (S:Site L F Γ A a cl outer) {o i v:V} {u ui uv:Value} {σ σ':Wt} {out:Res Fl} {ps:List Prop} (e:setV prog w LI Γ o i v σ=some (out,σ',ps)) (hp:AllP ps)
  (h:At prog w LI (eN Γ L a cl) Γ.cv L F σ.ab φ ca s) (r:RV prog w LI φ ca o u) (ri:RV prog w LI φ ca i ui) (rv:RV prog w LI φ ca v uv) :
  Goal prog w LI (eN Γ L a cl) Γ.cv L F (RFr prog w LI) out σ'.ab φ ca s (fun Q E=>wpAny (model prog w) A (setItem u ui uv) (fun _=>Q Flow.next) E s):=by
 cases o with
 | cell k=>exact bdI e fun x hx e=>bdI e fun kvs hk e=>ev_goal e hp fun hp Q E k1 k2 =>
   dict_set (cellD_inv hk) hp.1 h (str?_inv hx▸ri) r rv _ _ (fun b φ' ca' v' s' _ pst' _=>k1 .next φ' ca' .next s' rfl pst' trivial) (fun c φ' ca' v' s' eo=>n_oe eo)
 | raw C k =>
  have e:=ifs e
  have r:=Nat.eq_of_beq_eq_true e.1▸r
  exact (fl_inj e.2).elim fun o' k=>k.2▸setBd_op (R:=RFr prog w LI) S k.1 hp h r ri rv (fun _ _=>trivial)
 | _=>exact nsm rfl e
theorem loadName_op (S:Site L F Γ A a cl outer) {x:Str} {σ:Wt} {v:V} (hx:Γ.cs.names.lookup x=some .local) (e:nameV Γ x σ=some v) (h:At prog w LI (eN Γ L a cl) Γ.cv L F σ.ab φ ca s) {Q:Value→Shared→Prop} {E:Value→Shared→Prop}
  (k:∀ u,RV prog w LI φ ca v u→Q u s):wpAny (model prog w) A (loadName (eN Γ L a cl) x) Q E s:=by
 unfold nameV at e
 rw [hx] at e
 exact h.fr.elim fun m hm=>(hm.2 x v (ifn (b:=x==("__debug__": Str)) e).2).elim fun u k'=>wpAny_loadName_local (env:=eN Γ L a cl) S.kd hx hm.1 k'.1 (k u k'.2)
section st
variable {E:Expr→Wt→Ev V} {σ σ':Wt} {out:Res Fl} {ps:List Prop}
theorem stV_goal (S:Site L F Γ A a cl outer) {x:Str} {v:V} {u:Value} (e:stV x v σ=some (out,σ',ps)) (hx:Γ.cs.names.lookup x=some .local) (h:At prog w LI (eN Γ L a cl) Γ.cv L F σ.ab φ ca s) (r:RV prog w LI φ ca v u) :
  Goal prog w LI (eN Γ L a cl) Γ.cv L F (RFr prog w LI) out σ'.ab φ ca s (fun Q E=>wpAny (model prog w) A (storeName (eN Γ L a cl) x u) (fun _=>Q Flow.next) E s):=rt_goal e (store_fl (fun _ _=>trivial) (store_op S hx h r))
theorem attV_goal {env:Env} {cv:List (Str×V)} {x:Str} {v ov:V} {u uo:Value} (e:attV x v ov σ=some (out,σ',ps)) (h:At prog w LI env cv L F σ.ab φ ca s) (ro:RV prog w LI φ ca ov uo) (r:RV prog w LI φ ca v u) :
  Goal prog w LI env cv L F (RFr prog w LI) out σ'.ab φ ca s (fun Q E=>wpAny (model prog w) A (setAttr uo x u) (fun _=>Q Flow.next) E s) :=
 bdI e fun p hp e=>bdI e fun c hc e=>bdI e fun fs hf e =>
  have e:=ifs e
  have c1:=Bool.and_eq_true_iff.mp e.1
  have c2:=Bool.and_eq_true_iff.mp c1.1
  rt_goal e.2 (store_fl (fun _ _=>trivial) (setattr_op h (raw?_inv hp▸ro) r (hc.trans (congrArg some (fl_inv hf))) (Option.isNone_iff_eq_none.mp c2.1) c2.2 (blt_lt c1.2)))
variable (HE:SE prog w LI Γ E) (S:Site L F Γ A a cl outer) (h:At prog w LI (eN Γ L a cl) Γ.cv L F σ.ab φ ca s) (hp:AllP ps)
include HE S h hp
theorem ret_snd {x:Expr} {pos:Pos} (e:(bnd (E x σ) fun v σ=>rt (Fl.ret v) σ)=some (out,σ',ps)):Goal prog w LI (eN Γ L a cl) Γ.cv L F (RFr prog w LI) out σ'.ab φ ca s (fun Q E=>wpAny (model prog w) A (exec (.Return (some x) pos) (eN Γ L a cl)) Q E s) :=
 (Goal.seq e hp (fun o' σ₁ p e1 hp1=>HE A a cl L F outer S x σ o' σ₁ p e1 hp1 φ ca s h) (K:=fun u s₁ Q E=>Q (Flow.ret u) s₁) fun v σ₁ q e2 hq φ₁ ca₁ s₁ u pst r=>rt_goal e2 (Goal.now pst.at_ rfl (SameX.refl _) r)).map fun Q E q=>wpAny_Return_some q
theorem asg_snd {t value:Expr} {pos:Pos} (hc:isComp value=false) (e:asgT prog w LI Γ E t value σ=some (out,σ',ps)):Goal prog w LI (eN Γ L a cl) Γ.cv L F (RFr prog w LI) out σ'.ab φ ca s (fun Q E=>wpAny (model prog w) A (exec (.Assign [t] value pos) (eN Γ L a cl)) Q E s):=by
 have hv:=fun o' σ₁ p e1 hp1=>HE A a cl L F outer S value σ o' σ₁ p e1 hp1 φ ca s h
 cases t with
 | Name x px =>
  have e:=ifs (b:=isLoc (Γ.cs.names.lookup x)) e
  exact (Goal.seq e.2 hp hv (K:=fun u s₁ Q E=>wpAny (model prog w) A (storeName (eN Γ L a cl) x u) (fun _=>Q .next) E s₁) fun v σ₁ q e2 hq φ₁ ca₁ s₁ u pst r=>stV_goal S e2 (isLoc_inv e.1) pst.at_ r).map fun Q E q=>wpAny_Assign_Name q (swaps_no hc)
 | Attribute o x px =>
  exact (Goal.seq (show (bnd (E value σ) fun v σ=>bnd (E o σ) fun ov σ=>attV x v ov σ)=some (out,σ',ps) from e) hp hv
     (K:=fun u s₁ Q E=>wpAny (model prog w) A (eval o (eN Γ L a cl)) (fun ov s₂=>wpAny (model prog w) A (setAttr ov x u) (fun _=>Q Flow.next) E s₂) E s₁) fun v σ₁ q e2 hq φ₁ ca₁ s₁ u pst r =>
    Goal.seq e2 hq (fun o' σ₁ p e1 hp1=>HE A a cl L F outer S o _ o' σ₁ p e1 hp1 _ _ _ pst.at_) (K:=fun ov s₂ Q E=>wpAny (model prog w) A (setAttr ov x u) (fun _=>Q Flow.next) E s₂) fun ov σ₂ q₂ e3 hq₂ φ₂ ca₂ s₂ uo pst₂ ro =>
     attV_goal e3 pst₂.at_ ro (pst₂.mono r)).map fun Q E q=>plainObj_wpAny_Assign_Attribute q (swaps_no hc)
 | Subscript o i px =>
  exact (Goal.seq (show (bnd (E value σ) fun v σ=>bnd (E o σ) fun ov σ=>bnd (E i σ) fun iv σ=>setV prog w LI Γ ov iv v σ)=some (out,σ',ps) from e) hp hv
     (K:=fun u s₁ Q E=>wpAny (model prog w) A (eval o (eN Γ L a cl)) (fun ov s₂=>wpAny (model prog w) A (eval i (eN Γ L a cl)) (fun iv s₃=>wpAny (model prog w) A (setItem ov iv u) (fun _=>Q Flow.next) E s₃) E s₂) E s₁) fun v σ₁ q e2 hq φ₁ ca₁ s₁ u pst r =>
    Goal.seq e2 hq (fun o' σ₁ p e1 hp1=>HE A a cl L F outer S o _ o' σ₁ p e1 hp1 _ _ _ pst.at_) (K:=fun ov s₂ Q E=>wpAny (model prog w) A (eval i (eN Γ L a cl)) (fun iv s₃=>wpAny (model prog w) A (setItem ov iv u) (fun _=>Q Flow.next) E s₃) E s₂) fun ov σ₂ q₂ e3 hq₂ φ₂ ca₂ s₂ uo pst₂ ro =>
    Goal.seq e3 hq₂ (fun o' σ₁ p e1 hp1=>HE A a cl L F outer S i _ o' σ₁ p e1 hp1 _ _ _ pst₂.at_) (K:=fun iv s₃ Q E=>wpAny (model prog w) A (setItem uo iv u) (fun _=>Q Flow.next) E s₃) fun iv σ₃ q₃ e4 hq₃ φ₃ ca₃ s₃ ui pst₃ ri =>
     setV_sound S e4 hq₃ pst₃.at_ (pst₃.mono ro) ri ((pst₂.trans pst₃).mono r)).map fun Q E q=>wpAny_Assign_Subscript q (swaps_no hc)
 | Tuple es k tp =>
  have e:=ifn (b:=isTup value) e
  exact bdI e.2 fun p he e'=>bdI e' fun x hx e'=>bdI e' fun y hy e'=>(nmE_inv hx).elim fun px hx=>(nmE_inv hy).elim fun py hy=>by
   have e':=ifs e'
   have c:=Bool.and_eq_true_iff.mp e'.1
   rw [two1_inv he,hx,hy]
   exact (Goal.seq e'.2 hp hv (K:=fun u s₁ Q E=>wpAny (model prog w) A (assign (.Tuple [.Name x px,.Name y py] k tp) (eN Γ L a cl) u) (fun _=>Q .next) E s₁) fun v σ₁ q e2 hq φ₁ ca₁ s₁ u pst r =>
    bdI e2 fun vs hi e2=>bdI e2 fun p' hv' e2=>rt_goal e2 (store_fl (fun _ _=>trivial) (unpack2_op S (isLoc_inv c.1) (isLoc_inv c.2) (hi.trans (congrArg some (two1_inv hv'))) pst.at_ r))).map fun Q E q=>Assign_Tuple q (noSwap1 hc) (noSwap2 e.1)
 | _=>exact nsm rfl e
theorem aug_snd {t value:Expr} {op:Operator} {pos:Pos} (e:evAug Γ E t op value σ=some (out,σ',ps)):Goal prog w LI (eN Γ L a cl) Γ.cv L F (RFr prog w LI) out σ'.ab φ ca s (fun Q E=>wpAny (model prog w) A (exec (.AugAssign t op value pos) (eN Γ L a cl)) Q E s) :=
 bdI e fun x hx e=>(nmE_inv hx).elim fun px ht=>by
  have e:=ifs e
  have c:=Bool.and_eq_true_iff.mp e.1
  rw [ht,isAdd_inv c.2]
  exact (bnd_optE e.2).elim fun old k Q E' k1 k2=>wpAny_AugAssign_Name (loadName_op S (isLoc_inv c.1) k.1 h fun u₀ r₀ =>
   Goal.seq k.2 hp (fun o' σ₁ p e1 hp1=>HE A a cl L F outer S value σ o' σ₁ p e1 hp1 _ _ _ h) (K:=fun u s₁ Q E=>wpAny (model prog w) A (inplaceOp .Add u₀ u) (fun r s₃=>wpAny (model prog w) A (storeName (eN Γ L a cl) x r) (fun _=>Q Flow.next) E s₃) E s₁) (fun v σ₁ q e2 hq φ₁ ca₁ s₁ u pst r =>
    bdI e2 fun ia ha e2=>bdI e2 fun ib hb e2=>(int?_inv ha▸r₀:RV prog w LI φ ca (.int ia) u₀).int_inv.elim fun t r₀=>(int?_inv hb▸r:RV prog w LI φ₁ ca₁ (.int ib) u).int_inv.elim fun t' r=>by
     rw [r₀,r]
     have p1:Pst prog w LI (eN Γ L a cl) Γ.cv L F σ₁.ab φ₁ ca₁ s₁ φ₁ ca₁ { s₁ with toks:=s₁.toks+1 }:=Pst.to pst.at_ rfl ⟨rfl,rfl,rfl⟩
     exact fun Q E k1 k2=>PyProof.Rows.iadd_int (Goal.after p1 (stV_goal S e2 (isLoc_inv c.1) p1.at_ (RV.int (i:=ia+ib))) Q E k1 k2)) Q E' k1 k2)
theorem expr_snd {x:Expr} {pos:Pos} (hc:isComp x=false) (e:(bnd (E x σ) fun _ σ=>rt Fl.next σ)=some (out,σ',ps)):Goal prog w LI (eN Γ L a cl) Γ.cv L F (RFr prog w LI) out σ'.ab φ ca s (fun Q E=>wpAny (model prog w) A (exec (.Expr x pos) (eN Γ L a cl)) Q E s) :=
 (Goal.seq e hp (fun o' σ₁ p e1 hp1=>HE A a cl L F outer S x σ o' σ₁ p e1 hp1 φ ca s h) (K:=fun u s₁ Q E=>Q Flow.next s₁) fun v σ₁ q e2 hq φ₁ ca₁ s₁ u pst r=>rt_goal e2 (nx_goal pst.at_)).map fun Q E q=>wpAny_Expr_any q (by show (Γ.cs.kind==.module&&_)=false;rw [S.kd];rfl) (swaps_no hc)
end st
theorem raise_snd (S:Site L F Γ A a cl outer) {x:Expr} {pos:Pos} {σ σ':Wt} {out:Res Fl} {ps:List Prop} (e:evRaise Γ x σ=some (out,σ',ps)) (h:At prog w LI (eN Γ L a cl) Γ.cv L F σ.ab φ ca s):Goal prog w LI (eN Γ L a cl) Γ.cv L F (RFr prog w LI) out σ'.ab φ ca s (fun Q E=>wpAny (model prog w) A (exec (.Raise (some x) none pos) (eN Γ L a cl)) Q E s):=by
 cases x with
 | Call f as ks cp =>
  have e:=ifs (b:=as.isEmpty&&ks.isEmpty) e
  have c:=Bool.and_eq_true_iff.mp e.1
  exact bdI e.2 fun x hx e=>bdI e fun v hv e=>bdI e fun n hn e=>by
   have e:=ifs e
   rw [List.isEmpty_iff.mp c.1,List.isEmpty_iff.mp c.2]
   exact (nmE_inv hx).elim fun px hf=>hf▸ev_sub (P:=fun out σ' _=>Goal prog w LI (eN Γ L a cl) Γ.cv L F (RFr prog w LI) out σ'.ab φ ca s (fun Q E=>wpAny (model prog w) A (exec (.Raise (some (.Call (.Name x px) [] [] cp)) none pos) (eN Γ L a cl)) Q E s)) e.2 (raise_op (β:=Fl) (α:=Flow) S (hv.trans (congrArg some ((fn?_inv hn).trans (congrArg V.fn (Nat.eq_of_beq_eq_true e.1))))) h)
 | _=>exact nsm rfl e
theorem evX_sound {E:Expr→Wt→Ev V} {T:Expr→Wt→Ev Bool} {B:List Stmt→Wt→Ev Fl} (HE:SE prog w LI Γ E) (HT:ST prog w LI Γ T) (HB:∀ {b:List Stmt} {σ σ':Wt} {out:Res Fl} {ps:List Prop},B b σ=some (out,σ',ps)→AllP ps→SemB prog w LI Γ b σ.ab out σ'.ab) :
  SX prog w LI Γ (evX prog w LI Γ E T B):=by
 intro st σ out σ' ps e hp A a cl L F outer S φ ca s h
 cases st with
 | For=>exact trSt_semS e hp A a cl L F outer S φ ca s h
 | While=>exact trSt_semS e hp A a cl L F outer S φ ca s h
 | Try=>exact trSt_semS e hp A a cl L F outer S φ ca s h
 | Return x pos =>
  cases x with
  | some x=>exact ret_snd HE S h hp e
  | none=>exact rt_goal e ((Goal.now (b:=Fl.ret .none) (u:=Flow.ret .none) h rfl (SameX.refl s) (show RFr prog w LI (.ret .none) φ ca (.ret .none) from RV.none)).map fun Q E q=>wpAny_Return_none q)
 | Assign ts value pos =>
  have e:=ifn (b:=isComp value) e
  exact bdI e.2 fun t ht e'=>one1_inv ht▸asg_snd HE S h hp e.1 e'
 | AugAssign t op value pos=>exact aug_snd HE S h hp e
 | Raise x c pos =>
  cases c with
  | some _=>exact nsm rfl e
  | none=>exact bdI (show x.bind (fun e=>evRaise Γ e σ)=_ from e) fun x' hx e=>hx▸raise_snd S e h
 | If t b o pos =>
  exact (Goal.seq (show (bnd (T t σ) fun c σ=>if c then B b σ else B o σ)=some (out,σ',ps) from e) hp (fun o' σ₁ p e1 hp1=>HT A a cl L F outer S t σ o' σ₁ p e1 hp1 φ ca s h)
    (K:=fun c s₁ Q E=>if c then wpAny (model prog w) A (execs b (eN Γ L a cl)) Q E s₁ else wpAny (model prog w) A (execs o (eN Γ L a cl)) Q E s₁) fun c σ₁ q e2 hq φ₁ ca₁ s₁ u pst rb=>by
   rw [show u=c from rb]
   cases c with
   | true=>exact HB e2 hq A a cl L F outer S _ _ _ pst.at_
   | false=>exact HB e2 hq A a cl L F outer S _ _ _ pst.at_).map fun Q E q=>wpAny_If q
 | Assert t msg pos =>
  exact (Goal.seq (show (bnd (T t σ) fun c σ=>if c then rt Fl.next σ else none)=some (out,σ',ps) from e) hp (fun o' σ₁ p e1 hp1=>HT A a cl L F outer S t σ o' σ₁ p e1 hp1 φ ca s h) (K:=fun c s₁ Q E=>c=true∧Q Flow.next s₁) fun c σ₁ q e2 hq φ₁ ca₁ s₁ u pst rb =>
   have e2:=ifs e2
   rt_goal e2.2 ((nx_goal pst.at_).map fun Q E q=>⟨(show u=c from rb).trans e2.1,q⟩)).map fun Q E q=>wpAny_Assert_holds q
 | Expr x pos =>
  have e:=ifn (b:=isComp x) e
  exact expr_snd HE S h hp e.1 e.2
 | Pass pos=>exact rt_goal e ((nx_goal h).map fun Q E q=>wpAny_Pass q)
 | _=>exact nsm rfl e
theorem evM_sound (m:Nat):∀ n,SX prog w LI Γ (evM prog w LI Γ m n)
 | 0=>fun _ _ _ _ _ e=>by cases e
 | n+1=>evX_sound (evN_sound m).1 (evN_sound m).2 (evBk_sound (evM_sound m n))
end
end
section
variable {prog:Program} {w:World} {LI:Nat→Option LamInfo} {A:Around} {φ:Mp} {ca:List Addr} {s:Shared}
theorem funE_frames {base h:Heap}:∀ {l:List Env} {F:List Addr},FunE l F→(∀ a∈F,base.get? a=none∧∃ o,h.get? a=some o∧∀ vs,o.data≠.fields vs)→h.FunFrames base l
 | [],[],_,_=>trivial
 | env::l,a::F,⟨h1,h2,_,h4⟩,k=>by
  obtain ⟨k1,o,k2,k3⟩:=k a (.head _)
  exact ⟨h1,⟨a,o,h2,k1,k2,k3⟩,funE_frames h4 fun b hb=>k b (.tail _ hb)⟩
 | [],_::_,h,_=>h.elim
 | _::_,[],h,_=>h.elim
theorem frames_funE {base h:Heap}:∀ {l:List Env} {F:List Addr},FunE l F→h.FunFrames base l→∀ a∈F,∃ o,h.get? a=some o∧∀ vs,o.data≠.fields vs
 | [],[],_,_=>nofun
 | env::l,a::F,⟨h1,h2,_,h4⟩,⟨_,⟨L,o,e1,_,e2,e3⟩,k⟩=>fun b hb=>by
  rcases List.mem_cons.mp hb with rfl | hb
  ·rw [h2] at e1;cases e1;exact ⟨o,e2,e3⟩
  ·exact frames_funE h4 k b hb
 | [],_::_,h,_=>h.elim
 | _::_,[],h,_=>h.elim
theorem leave_op {env:Env} {outer:List Env} {L:Addr} {F:List Addr} {cells:List Cell} {c:V} {ev:Value} {h₀:Heap} (fr:A.frames=some (env::outer)) (fe:FunE (env::outer) (L::F)) (hp:Hp prog w LI (L::F) φ ca cells s.heap) (x:Ex prog w LI (some L) φ h₀ c ev s.heap)
  (al:∀ a,Heap.Al h₀ a→Heap.Al s.heap a) (hL:h₀.get? L=none) {Q:Unit→Shared→Prop} {E:Value→Shared→Prop}
  (k:∀ h',(∀ b o,s.heap.get? b=some o→Heap.Al h₀ b∨φ b=some o→b∉L::F→h'.get? b=some o)→(∀ b o,b∈L::F→s.heap.get? b=some o→∃ sl,h'.get? b=some { o with slots:=sl }) →
   (∀ a,Heap.Al h₀ a→Heap.Al h' a)→Ex prog w LI none φ h₀ c ev h'→Q () { s with heap:=h' }):wpAny (model prog w) A (leaving env ev) Q E s:=by
 obtain ⟨e,oe,vs,a0,cl,rfl,h2,h3,h4,h5,h6,h7,h8,h9⟩:=x
 have hfr:env.frame=some L:=fe.2.1
 have heF:e∉L::F:=fun z=>by
  obtain ⟨_,o,ho,hd⟩:=hp.frs e z
  rw [h2] at ho;cases ho;exact hd _ h5
 have hfun:∀ hide:List Addr,(∀ a∈L::F,a∈hide)→s.heap.FunFrames (hideAll s.heap hide) (env::outer):=fun hide hh=>funE_frames fe fun a ha=>⟨hideAll_none _ (hh a ha),(hp.frs a ha).2⟩
 have hecl:φ e=none:=h7
 have fin:∀ (hide:List Addr),(∀ a∈L::F,a∈hide)→e∈hide→(∀ a∈hide,a∈L::F∨(φ a=none∧h₀.get? a=none))→∀ h',Heap.LeftW (hideAll s.heap hide) (env::outer) e oe.cls a0 s.heap h'→Q () { s with heap:=h' }:=by
  intro hide hh he hout h' hw
  obtain ⟨k1,k2,⟨oe',vs',T',oT',ts',t1,⟨t2,t3⟩,t4,t5,t6,t7,t8,t9,t10⟩,k4⟩:=hw
  have hfF:=frames_funE fe k2
  have hTF:T'∉L::F:=fun z=>by
   obtain ⟨o,ho,hd⟩:=hfF T' z
   rw [t8] at ho;cases ho;exact hd _ t9
  have keepB:∀ b o,s.heap.get? b=some o→b∉hide→h'.get? b=some o:=fun b o q hb=>k1 b o (hideAll_get _ q hb)
  have freshT:∀ o,s.heap.get? T'=some o→T'∈hide:=fun o q=>by
   by_cases n:T'∈hide
   ·exact n
   ·have:=hideAll_get _ q n;rw [t6] at this;cases this
  refine k h' (fun b o q hb hn=>?_) (fun b o hb q=>?_) (fun b hb=>?_) ⟨e,oe',vs',a0,cl,rfl,t1,h3,t2.trans h4,t4,t3,h7,h8,.inr ⟨T',oT',ts',t5,?_,?_,t7,t8,t9,.inl t10⟩⟩
  ·refine keepB b o q fun hx=>?_
   rcases hout b hx with y | ⟨y1,y2⟩
   ·exact hn y
   ·rcases hb with ⟨_,z⟩ | z
    ·rw [y2] at z;cases z
    ·rw [y1] at z;cases z
  ·obtain ⟨_,o',ho,hd⟩:=hp.frs b hb
   rw [q] at ho;cases ho
   exact k4 b o q hd
  ·obtain ⟨o,q⟩:=hb
   obtain ⟨o',q'⟩:=al b ⟨o,q⟩
   by_cases hx:b∈hide
   ·rcases hout b hx with y | ⟨_,y2⟩
    ·obtain ⟨o₂,ho,_⟩:=hfF b y
     exact ⟨o₂,ho⟩
    ·rw [q] at y2;cases y2
   ·exact ⟨o',keepB b o' q' hx⟩
  ·cases z:φ T' with
   | none=>rfl
   | some o =>
    rcases hout T' (freshT o (hp.fz _ _ z)) with y | ⟨y1,_⟩
    ·exact absurd y hTF
    ·rw [z] at y1;cases y1
  ·cases z:h₀.get? T' with
   | none=>rfl
   | some o =>
    obtain ⟨o',q'⟩:=al T' ⟨o,z⟩
    rcases hout T' (freshT o' q') with y | ⟨_,y2⟩
    ·exact absurd y hTF
    ·rw [z] at y2;cases y2
 rcases h9 with h9 | ⟨T,oT,ts,i1,i2,i3,i4,i5,i6,i7 | ⟨L₁,i7,i8⟩⟩
 ·have hh:∀ a∈L::F,a∈(e::L::F):=fun a ha=>.tail _ ha
  refine wpAny_leaving_firstW (base:=hideAll s.heap (e::L::F)) fr (hfun _ hh) hfr h2 (fun b o q=>of_hideAll _ q) (hideAll_none _ (.head _)) h5 h9 h6 fun h' hw=>fin _ hh (.head _) (fun a ha=>?_) h' hw
  rcases List.mem_cons.mp ha with rfl | ha
  ·exact .inr ⟨h7,h8⟩
  ·exact .inl ha
 ·have hh:∀ a∈L::F,a∈(e::T::L::F):=fun a ha=>.tail _ (.tail _ ha)
  refine wpAny_leaving_nextW (base:=hideAll s.heap (e::T::L::F)) (cls:=oe.cls) fr (hfun _ hh) hfr ⟨oe,vs,T,oT,ts,h2,⟨rfl,h6⟩,h5,i1,hideAll_none _ (.tail _ (.head _)),i4,i5,i6,i7⟩ (fun b o q=>of_hideAll _ q) (hideAll_none _ (.head _)) fun h' hw=>fin _ hh (.head _) (fun a ha=>?_) h' hw
  rcases List.mem_cons.mp ha with rfl | ha
  ·exact .inr ⟨h7,h8⟩
  ·rcases List.mem_cons.mp ha with rfl | ha
   ·exact .inr ⟨i2,i3⟩
   ·exact .inl ha
 ·cases i7
  have ht:s.heap.TracedAtW (hideAll s.heap (e::T::L::F)) e oe.cls a0 (rawInt L):=⟨oe,vs,T,oT,ts,h2,⟨rfl,h6⟩,h5,i1,hideAll_none _ (.tail _ (.head _)),i4,i5,i6,i8⟩
  unfold leaving
  refine wpAny_bind (wpAny_noteFrame_againW hfr ht ?_)
  refine wpAny_setFlight_noneW (fun b o q=>of_hideAll _ q) (hfun _ fun a ha=>.tail _ (.tail _ ha)) ht fun h' w1 w2 w3 w4=>fin (e::T::L::F) (fun a ha=>.tail _ (.tail _ ha)) (.head _) (fun a ha=>?_) h' ⟨w1,w2,w3,fun b o q hd=>⟨o.slots,w4 b o q hd⟩⟩
  rcases List.mem_cons.mp ha with rfl | ha
  ·exact .inr ⟨h7,h8⟩
  ·rcases List.mem_cons.mp ha with rfl | ha
   ·exact .inr ⟨i2,i3⟩
   ·exact .inl ha
end
theorem all_cons {α:Type} {P:α→Prop} {a:α} {l:List α} (h:P a) (k:∀ p∈l,P p):∀ p∈a::l,P p:=fun p hp=>(List.mem_cons.mp hp).elim (fun e=>e▸h) (k p)
noncomputable def fdat (P:Params) (f:Nat):FuncData:=match (K P).lookup f with
 | some ⟨_,_,.func d,_⟩=>d
 | _=>default
def fdOk (K:Frag) (d:FuncData):Bool:=Nat.beq d.globals 3&&Nat.beq d.builtins 0&&(d.scope.kind==.function)&&!d.scope.isCoroutine&&!d.scope.isGenerator&&d.scope.names.all (fun x=>x.2 !=.cell)&&d.closure.isEmpty&&codeIn K d.code d.qualname&&(match d.body with | .stmts _=>true | _=>false)
noncomputable def okFn (P:Params) (f:Nat):Bool:=match (K P).lookup f with
 | some ⟨_,_,.func d,_⟩=>fdOk (K P) d
 | _=>false
def plainL:List Nat:=[60,105,112,256,283,290,344,351,358,365,372,379,386,442,449,457,464,471,504,511,568,575,587,946,953,960,967,982,989,996,1003,1010,1032,1039,1059,1066,1073,1080,1092,1099,1106]
theorem plain_ok (P:Params):plainL.all (okFn P)=true:=by kernel_rfl
def bodyOf (d:FuncData):List Stmt:=match d.body with
 | .stmts b=>b
 | _=>[]
noncomputable def Gf (P:Params) (n f:Nat):Gam:=⟨n,(fdat P f).qualname,(fdat P f).scope,(fdat P f).code,[]⟩
def flV:Fl→Option V
 | .ret v=>some v
 | .next=>some .none
 | _=>none
noncomputable def EndsG {β:Type} (vb:β→Option V):Res β→Res V→Prop
 | .ok b,.ok v=>vb b=some v
 | .err c,.err c'=>c=c'
 | _,_=>False
noncomputable abbrev EndsN:Res Fl→Res V→Prop:=EndsG flV
def Ends:Res Fl→Res V→Prop
 | .ok fl,.ok b=>flV fl=some b∧CloV b
 | .err c,.err c'=>c=c'
 | _,_=>False
theorem take_pre {ca ca':List Addr} (h:ca <+: ca'):ca'.take ca.length=ca:=by
 obtain ⟨r,rfl⟩:=h
 simp
section
variable {prog:Program} {w:World} {LI:Nat→Option LamInfo}
theorem RKs.look {φ:Mp} {ca:List Addr} {l:List (Str×V)}:∀ {b:List (Str×Value)},RKs prog w LI φ ca l b→∀ {x:Str} {v:V},l.lookup x=some v→∃ u,b.lookup x=some u∧RV prog w LI φ ca v u:=by
 induction l with
 | nil=>exact fun _ _ _ h=>nsm rfl h
 | cons p l ih =>
  intro b r x v h
  refine r.uncons.elim fun u q=>q.elim fun ws q=>?_
  rw [List.lookup_cons] at h
  rw [q.1,List.lookup_cons]
  cases z:(x==p.1) with
  | true=>rw [z] at h;exact ⟨u,rfl,Option.some.inj h▸q.2.1⟩
  | false=>rw [z] at h;exact ih q.2.2 h
theorem RKs.snoc {φ:Mp} {ca:List Addr} {k:Str} {v:V} {u:Value} (r:RV prog w LI φ ca v u) {l:List (Str×V)}:∀ {b:List (Str×Value)},RKs prog w LI φ ca l b→RKs prog w LI φ ca (l++[(k,v)]) (b++[(k,u)]):=by
 induction l with
 | nil=>exact fun h=>by rw [h.nil_];exact .cons r .nil
 | cons p l ih=>exact fun h=>h.uncons.elim fun u q=>q.elim fun ws q=>by rw [q.1];exact .cons q.2.1 (ih q.2.2)
theorem RKs.rev {φ:Mp} {ca:List Addr} {l:List (Str×V)}:∀ {b:List (Str×Value)},RKs prog w LI φ ca l b→RKs prog w LI φ ca l.reverse b.reverse:=by
 induction l with
 | nil=>exact fun h=>by rw [h.nil_];exact .nil
 | cons p l ih=>exact fun h=>h.uncons.elim fun u q=>q.elim fun ws q=>by rw [q.1,List.reverse_cons,List.reverse_cons];exact RKs.snoc q.2.1 (ih q.2.2)
theorem RVs.zip {φ:Mp} {ca:List Addr} (names:List Str):∀ {vs:List V} {us:List Value},RVs prog w LI φ ca vs us→RKs prog w LI φ ca (names.zip vs) (names.zip us):=by
 induction names with
 | nil=>exact fun _=>.nil
 | cons n names ih =>
  intro vs us r
  cases r with
  | nil=>exact .nil
  | cons a b=>exact .cons a (ih b)
theorem size_big {F:List Addr} {φ:Mp} {ca:List Addr} {cells:List Cell} {h:Heap} (x:Hp prog w LI F φ ca cells h):1107≤h.objs.size:=by
 have e:((K w.params).lookup 1106).isSome=true:=by kernel_rfl
 cases q:(K w.params).lookup 1106 with
 | none=>rw [q] at e;cases e
 | some o=>exact Heap.lt_size (x.kin _ _ q)
theorem At.enter {F:List Addr} {φ:Mp} {ca:List Addr} {cells:List Cell} {h h₁:Heap} {env:Env} {loc:List (Str×V)} {m:Str→Option Value} {s':Shared} (x:Hp prog w LI F φ ca cells h) (rk:∀ y v,loc.lookup y=some v→∃ u,m y=some u∧RV prog w LI φ ca v u)
  (hn:h₁.Ns h.objs.size m) (k:∀ b o,h.get? b=some o→h₁.get? b=some o) (e:s'.heap=h₁):At prog w LI env [] h.objs.size F ⟨loc,cells⟩ φ ca s':=by
 subst e
 have lt:∀ {b:Addr} {o:Obj},h.get? b=some o→b≠h.objs.size:=fun q=>Nat.ne_of_lt (Heap.lt_size q)
 have hp1:Hp prog w LI F φ ca cells s'.heap:=x.keeps (fun b o e _=>k b o e) (fun b o e hb ho=>⟨o,k b o e,ho⟩) (Mp.le.refl _) (fun _ _ e=>.inl e)
 refine ⟨⟨hp1.fz,hp1.kk,fun P hP=>?_,hp1.len,hp1.nd,fun i c b e1 e2=>?_,fun b hb=>?_⟩,size_big x,fun z=>?_,⟨_,hn,rk⟩,nofun⟩
 ·obtain ⟨a1,a2,a3,ps,a4,a5⟩:=x.tab P hP
  obtain ⟨b1,b2,b3,b4⟩:=hp1.tab P hP
  exact ⟨b1,b2,fun z=>by rcases List.mem_cons.mp z with rfl | z;exact lt a4 rfl;exact b3 z,b4⟩
 ·obtain ⟨a1,o,a2,_⟩:=x.cel i c b e1 e2
  obtain ⟨b1,b2⟩:=hp1.cel i c b e1 e2
  exact ⟨fun z=>by rcases List.mem_cons.mp z with rfl | z;exact lt a2 rfl;exact b1 z,b2⟩
 ·rcases List.mem_cons.mp hb with rfl | hb
  ·refine ⟨?_,?_⟩
   ·cases q:φ h.objs.size with
    | none=>rfl
    | some o=>exact absurd rfl (lt (x.fz _ _ q))
   ·obtain ⟨o,es,ep,h1,h2,_⟩:=hn
    exact ⟨o,h1,fun vs q=>by rw [h2] at q;cases q⟩
  ·exact hp1.frs b hb
 ·obtain ⟨_,o,ho,_⟩:=x.frs _ z
  exact lt ho rfl
theorem Hp.leave {F:List Addr} {φ:Mp} {ca ca':List Addr} {cells:List Cell} {h:Heap} {L:Addr} (x:Hp prog w LI (L::F) φ ca' cells h) (p:ca <+: ca') (hc:ca'.length=ca.length∨∀ c∈cells.take ca.length,CloC c):Hp prog w LI F φ ca (cells.take ca.length) h:=by
 have hle:=p.length_le
 refine ⟨x.fz,x.kk,fun P hP=>?_,?_,?_,fun i c b e1 e2=>?_,fun b hb=>x.frs b (.tail _ hb)⟩
 ·obtain ⟨a1,a2,a3,a4⟩:=x.tab P hP
  exact ⟨a1,fun z=>a2 (p.subset z),fun z=>a3 (.tail _ z),a4⟩
 ·rw [List.length_take,← x.len];omega
 ·obtain ⟨r,rfl⟩:=p;exact (List.nodup_append.mp x.nd).1
 ·have hi:i<ca.length:=(List.getElem?_eq_some_iff.mp e2).1
  have e1':cells[i]?=some c:=by rw [List.getElem?_take] at e1;split at e1<;>first | exact e1 | cases e1
  obtain ⟨a1,o,a2,a3⟩:=x.cel i c b e1' (pre_get p e2)
  refine ⟨fun z=>a1 (.tail _ z),o,a2,a3.imp id fun ⟨q,r⟩=>⟨q,?_⟩⟩
  rcases hc with hc | hc
  ·have:ca'=ca:=by
    have:=take_pre p
    rw [←hc,List.take_length] at this;exact this
   rw [←this];exact r
  ·exact (hc c (List.mem_of_getElem? e1) _ _ _ _ _ _ r).mono (Mp.le.refl _) List.nil_prefix
theorem Hp.keep2 {F:List Addr} {φ:Mp} {ca:List Addr} {cells:List Cell} {h h':Heap} (x:Hp prog w LI F φ ca cells h) (k:∀ b o,h.get? b=some o→φ b=some o∨b∈ca∨b∈tabA→b∉F→h'.get? b=some o)
  (u:∀ b o,b∈F→h.get? b=some o→∃ sl,h'.get? b=some { o with slots:=sl }):Hp prog w LI F φ ca cells h':=by
 refine ⟨fun a o e=>k a o (x.fz _ _ e) (.inl e) (fun z=>by have:=(x.frs a z).1;rw [e] at this;cases this),x.kk,fun P hP=>?_,x.len,x.nd,fun i c a e1 e2=>?_,fun a ha=>?_⟩
 ·obtain ⟨a1,a2,a3,ps,a4,a5⟩:=x.tab P hP
  exact ⟨a1,a2,a3,ps,k P _ a4 (.inr (.inr hP)) a3,a5⟩
 ·obtain ⟨a1,o,a2,a3⟩:=x.cel i c a e1 e2
  exact ⟨a1,o,k a o a2 (.inr (.inl (List.mem_of_getElem? e2))) a1,a3⟩
 ·obtain ⟨a1,o,a2,a3⟩:=x.frs a ha
  obtain ⟨sl,e⟩:=u a o ha a2
  exact ⟨a1,_,e,a3⟩
theorem Stp.enter {ca F:List Addr} {φ φ':Mp} {h h₀ h':Heap} (k:∀ b o,h.get? b=some o→h₀.get? b=some o) (st:Stp (h.objs.size::ca) F φ h₀ φ' h'):Stp ca F φ h φ' h':=by
 refine ⟨st.le,fun a o e=>?_,fun a ⟨o,e⟩=>st.alive a ⟨o,k a o e⟩,fun b o e h1 h2 h3=>st.keep b o (k b o e) (fun z=>?_) h2 h3,fun b o e hb=>st.up b o (k b o e) hb⟩
 ·rcases st.new a o e with q | q
  ·exact .inl q
  ·right
   cases z:h.get? a with
   | none=>rfl
   | some o'=>rw [k a o' z] at q;cases q
 ·rcases List.mem_cons.mp z with rfl | z
  ·exact absurd (Heap.lt_size e) (Nat.lt_irrefl _)
  ·exact h1 z
theorem okFn_inv {P:Params} {f:Nat} (h:okFn P f=true):∃ oc od osl,(K P).lookup f=some ⟨oc,od,.func (fdat P f),osl⟩∧fdOk (K P) (fdat P f)=true:=by
 unfold okFn at h
 split at h
 ·rename_i oc od d osl q
  have:fdat P f=d:=by unfold fdat;rw [q]
  rw [this];exact ⟨oc,od,osl,q,h⟩
 ·cases h
theorem Ends.N {o:Res Fl} {r:Res V} (h:Ends o r):EndsN o r:=by
 cases o<;>cases r<;>first | exact h.1 | exact h
theorem Ends.clo {o:Res Fl} {r:Res V} (h:Ends o r) {b:V} (e:r=.ok b):CloV b:=by
 subst e
 cases o with
 | ok f=>exact h.2
 | err c=>exact h.elim
theorem Hp.leaveN {F:List Addr} {φ:Mp} {ca:List Addr} {cells:List Cell} {h:Heap} {L:Addr} (x:Hp prog w LI (L::F) φ ca cells h):Hp prog w LI F φ ca cells h :=
 ⟨x.fz,x.kk,fun P hP=>let ⟨a1,a2,a3,a4⟩:=x.tab P hP;⟨a1,a2,fun z=>a3 (.tail _ z),a4⟩,x.len,x.nd,fun i c b e1 e2=>let ⟨a1,a2⟩:=x.cel i c b e1 e2;⟨fun z=>a1 (.tail _ z),a2⟩,fun b hb=>x.frs b (.tail _ hb)⟩
theorem Hp.drop {F:List Addr} {φ:Mp} {ca ca':List Addr} {cells:List Cell} {h:Heap} (x:Hp prog w LI F φ ca' cells h) (p:ca <+: ca') (hc:ca'.length=ca.length∨∀ c∈cells.take ca.length,CloC c):Hp prog w LI F φ ca (cells.take ca.length) h:=by
 have hle:=p.length_le
 refine ⟨x.fz,x.kk,fun P hP=>?_,?_,?_,fun i c b e1 e2=>?_,x.frs⟩
 ·obtain ⟨a1,a2,a3,a4⟩:=x.tab P hP
  exact ⟨a1,fun z=>a2 (p.subset z),a3,a4⟩
 ·rw [List.length_take,← x.len];omega
 ·obtain ⟨r,rfl⟩:=p;exact (List.nodup_append.mp x.nd).1
 ·have hi:i<ca.length:=(List.getElem?_eq_some_iff.mp e2).1
  have e1':cells[i]?=some c:=by rw [List.getElem?_take] at e1;split at e1<;>first | exact e1 | cases e1
  obtain ⟨a1,o,a2,a3⟩:=x.cel i c b e1' (pre_get p e2)
  refine ⟨a1,o,a2,a3.imp id fun ⟨q,r⟩=>⟨q,?_⟩⟩
  rcases hc with hc | hc
  ·have:ca'=ca:=by
    have:=take_pre p
    rw [←hc,List.take_length] at this;exact this
   rw [←this];exact r
  ·exact (hc c (List.mem_of_getElem? e1) _ _ _ _ _ _ r).mono (Mp.le.refl _) List.nil_prefix
theorem flow_val:∀ (b:Fl) (v:V) (φ:Mp) (ca:List Addr) (u:Flow),flV b=some v→RFr prog w LI b φ ca u→RV prog w LI φ ca v (match u with | .ret v=>v | _=>.none):=fun b v φ ca u e r=>by
 cases b<;>cases e<;>cases u<;>first | exact r.elim | exact .none | exact r
theorem run_frame {α β:Type} {R:β→Mp→List Addr→α→Prop} {val:α→Value} {vb:β→Option V} (hR:∀ b v φ ca u,vb b=some v→R b φ ca u→RV prog w LI φ ca v (val u)) {out:Res β} {r:Res V} (hr:EndsG vb out r)
  {Γ:Gam} {A:Around} {a:Addr} {cl:List (Str×Addr)} {outer:List Env} {F:List Addr} {φ φ₁:Mp} {ca:List Addr} {cells:List Cell} {s s₁:Shared} {σ':Ab} {G:(α→Shared→Prop)→(Value→Shared→Prop)→Prop}
  (hkd:Γ.cs.kind=.function) (fr:A.frames=some outer) (fe:FunE outer F) (hp0:Hp prog w LI F φ ca cells s.heap) (LF:s.heap.objs.size∉F)
  (hk:∀ b o,s.heap.get? b=some o→s₁.heap.get? b=some o) (le1:φ.le φ₁) (new1:∀ a o,φ₁ a=some o→φ a=some o∨s.heap.get? a=none) (sx1:SameX s s₁)
  (g:Goal prog w LI (eN Γ s.heap.objs.size a cl) Γ.cv s.heap.objs.size F R out σ' φ₁ ca s₁ G)
  (hc:∀ c,r=.err c→σ'.cells.length=cells.length∨∀ c∈σ'.cells.take cells.length,CloC c) {Q:Value→Shared→Prop} {E:Value→Shared→Prop}
  (k1:∀ b φ' ca' v s',r=.ok b→ca <+: ca'→(∀ a∈ca',a∈ca∨s.heap.get? a=none)→Stp ca F φ s.heap φ' s'.heap→Hp prog w LI F φ' ca' σ'.cells s'.heap→SameX s s'→RV prog w LI φ' ca' b v→Q v s')
  (k2:∀ c φ' e s',r=.err c→Stp ca F φ s.heap φ' s'.heap→Hp prog w LI F φ' ca (σ'.cells.take cells.length) s'.heap→SameX s s'→Ex prog w LI none φ' s.heap c e s'.heap→E e s') :
  G (fun u s'=>Q (val u) s') (fun e s'=>wpAny (model prog w) (A.deeper (eN Γ s.heap.objs.size a cl)) (leaving (eN Γ s.heap.objs.size a cl) e) (fun _ s''=>E e s'') (fun e'' s''=>E e'' s'') s'):=by
 have frd:(A.deeper (eN Γ s.heap.objs.size a cl)).frames=some (eN Γ s.heap.objs.size a cl::outer):=by
  show A.frames.map _=_;rw [fr];rfl
 have hlen:cells.length=ca.length:=hp0.len.symm
 have frsh:∀ {ca':List Addr},(∀ a∈ca',a∈ca∨s₁.heap.get? a=none)→∀ a∈ca',a∈ca∨s.heap.get? a=none:=fun hfr a ha=>(hfr a ha).imp id fun q=>by
  cases z:s.heap.get? a with
  | none=>rfl
  | some o=>rw [hk a o z] at q;cases q
 have no1:∀ {b:Addr},s₁.heap.get? b=none→s.heap.get? b=none:=fun {b} q=>by
  cases z:s.heap.get? b with
  | none=>rfl
  | some o=>rw [hk b o z] at q;cases q
 have stE:∀ {φ':Mp} {h':Heap},Stp (s.heap.objs.size::ca) F φ₁ s₁.heap φ' h'→Stp ca F φ s.heap φ' h':=fun {φ' h'} st =>
  ⟨le1.trans st.le,fun b o e=>(st.new b o e).elim (new1 b o) fun q=>.inr (no1 q),fun b ⟨o,e⟩=>st.alive b ⟨o,hk b o e⟩,fun b o e h1 h2 h3=>st.keep b o (hk b o e) (fun z=>by
   rcases List.mem_cons.mp z with rfl | z
   ·exact absurd (Heap.lt_size e) (Nat.lt_irrefl _)
   ·exact h1 z) h2 h3,fun b o e hb=>st.up b o (hk b o e) hb⟩
 refine g _ _ ?_ ?_
 ·intro fl φ' ca' v s' eo pst rfl_
  subst eo
  cases r with
  | err c=>exact hr.elim
  | ok b=>exact k1 b φ' ca' _ s' rfl pst.pre (frsh pst.fresh) (stE pst.stp) pst.at_.hp.leaveN (sx1.trans pst.same) (hR _ _ _ _ _ hr rfl_)
 ·intro c φ' ca' ev s' eo pst ex
  subst eo
  cases r with
  | ok b=>exact hr.elim
  | err c' =>
   have hr:c=c':=hr
   subst hr
   have hcc:ca'.length=ca.length∨∀ c∈σ'.cells.take ca.length,CloC c:=by
    rw [←hlen]
    exact (hc _ rfl).imp (fun q=>by rw [pst.at_.hp.len,← hlen] at *;exact q) id
   have hpl:=Hp.leave pst.at_.hp pst.pre hcc
   rw [←hlen] at hpl
   have stp:=stE pst.stp
   have hL0:s.heap.get? s.heap.objs.size=none:=Heap.get?_none_of_le (Nat.le_refl _)
   refine leave_op frd ⟨by show Γ.cs.kind≠_;rw [hkd];decide,rfl,LF,fe⟩ pst.at_.hp (ex.back fun a ⟨o,q⟩=>⟨o,hk a o q⟩) stp.alive hL0 fun h' q1 q2 q3 q4=>?_
   have q5:∀ b o,s'.heap.get? b=some o→Heap.Al s.heap b∨φ' b=some o→b∉F→h'.get? b=some o:=fun b o x1 x2 x3=>by
    refine q1 b o x1 x2 fun z=>?_
    rcases List.mem_cons.mp z with rfl | z
    ·rcases x2 with ⟨o',y⟩ | y
     ·exact absurd (Heap.lt_size y) (Nat.lt_irrefl _)
     ·have:=(pst.at_.hp.frs _ (.head _)).1;rw [y] at this;cases this
    ·exact x3 z
   refine k2 c φ' ev _ rfl ⟨stp.le,stp.new,q3,fun b o x1 x2 x3 x4=>q5 b o (stp.keep b o x1 x2 x3 x4) (.inl ⟨o,x1⟩) x3,fun b o x1 x2=>?_⟩ (hpl.keep2 (fun b o x1 x2 x3=>q5 b o x1 ?_ x3) fun b o x1 x2=>q2 b o (.tail _ x1) x2) (sx1.trans pst.same) q4
   ·obtain ⟨sl,y⟩:=stp.up b o x1 x2
    obtain ⟨sl',y'⟩:=q2 b _ (.tail _ x2) y
    exact ⟨sl',y'⟩
   ·rcases x2 with x2 | x2 | x2
    ·exact .inr x2
    ·left
     obtain ⟨i,hi⟩:=List.mem_iff_getElem?.mp x2
     have hi':=(List.getElem?_eq_some_iff.mp hi).1
     obtain ⟨_,o',y,_⟩:=hp0.cel i _ b (List.getElem?_eq_getElem (by rw [hlen];exact hi')) hi
     exact ⟨o',y⟩
    ·obtain ⟨_,_,_,ps,y,_⟩:=hp0.tab b x2
     exact .inl ⟨_,y⟩
theorem fn_conS {n f:Nat} {loc:List (Str×V)} {args:List V} {kw:List (Str×V)} {cells:List Cell} {out:Res Fl} {r:Res V} {σ':Ab}
  (hf:plainL.any (Nat.beq f)=true)
  (hb:∀ (s:Shared) (us:List Value) (ks:List (Str×Value)) (φ:Mp) (ca:List Addr),KIn w.params s.heap→RVs prog w LI φ ca args us→RKs prog w LI φ ca kw ks →
   ∃ binds,BindsTo s (fdat w.params f) ⟨us,ks⟩ binds∧(∀ x∈binds,(fdat w.params f).scope.names.lookup x.1=some .local)∧RKs prog w LI φ ca loc binds.reverse)
  (e:SemB prog w LI (Gf w.params n f) (bodyOf (fdat w.params f)) ⟨loc,cells⟩ out σ')
  (hr:EndsN out r) (hc:∀ c,r=.err c→σ'.cells.length=cells.length∨∀ c∈σ'.cells.take cells.length,CloC c) :
  ConN prog w LI (n+3) (.fn f) cells args kw r σ'.cells:=fun A outer F φ ca s vf us ks ok fr fe hp0 rf ra rk Q E k1 k2 =>
 (List.any_eq_true.mp hf).elim fun g hg=>(okFn_inv (List.all_eq_true.mp (plain_ok w.params) f (Nat.eq_of_beq_eq_true hg.2▸hg.1))).elim fun oc q=>q.elim fun od q=>q.elim fun osl q=>(hb s us ks φ ca hp0.kin ra rk).elim fun binds hb=>by
 rw [rf.fn_inv]
 have hok:=q.2
 unfold fdOk at hok
 simp only [Bool.and_eq_true,Bool.not_eq_true'] at hok
 have hbody:(fdat w.params f).body=.stmts (bodyOf (fdat w.params f)):=by
  have e9:=hok.2
  unfold bodyOf
  cases q:(fdat w.params f).body with
  | stmts b=>rfl
  | expr b=>rw [q] at e9;exact absurd e9 Bool.false_ne_true
 have henv:callEnv (fdat w.params f) s.heap.objs.size f=eN (Gf w.params n f) s.heap.objs.size f []:=by
  unfold callEnv newEnv eN envX Gf
  rw [Nat.eq_of_beq_eq_true hok.1.1.1.1.1.1.1.1,Nat.eq_of_beq_eq_true hok.1.1.1.1.1.1.1.2,List.isEmpty_iff.mp hok.1.1.2];rfl
 have hkd:(fdat w.params f).scope.kind=.function:=beq_iff_eq.mp hok.1.1.1.1.1.1.2
 refine codeAny_call_def (fd:=fdat w.params f) (body:=bodyOf (fdat w.params f)) (binds:=binds) ok.lt.1 (hp0.kin _ _ q.1) rfl (nolimit_of hp0.kin) (codeRec_of (K:=K w.params) hp0.kin hok.1.2) hbody hb.1
  (fun x hx=>bne_iff_ne.mp (List.all_eq_true.mp hok.1.1.1.2 x hx)) hb.2.1 (fun h₀ hns hk=>?_) hok.1.1.1.1.1.2 hok.1.1.1.1.2 hkd
 rw [henv]
 have at0:At prog w LI (eN (Gf w.params n f) s.heap.objs.size f []) (Gf w.params n f).cv s.heap.objs.size F ⟨loc,cells⟩ φ ca { s with heap:=h₀,toks:=s.toks+binds.length }:=At.enter hp0 (fun y v hy=>hb.2.2.look hy) hns hk rfl
 exact run_frame (val:=fun fl=>match fl with | .ret v=>v | _=>.none) flow_val hr hkd fr fe hp0 at0.LF hk (Mp.le.refl _) (fun _ _ e=>.inl e) ⟨rfl,rfl,rfl⟩ (s₁:={ s with heap:=h₀,toks:=s.toks+binds.length }) (e _ f [] _ F outer ⟨ok.deeper _,by show A.frames.map _=_;rw [fr];rfl,fe,hkd⟩ φ ca _ at0) hc k1 k2
theorem fn_conN {n f m k:Nat} {loc:List (Str×V)} {args:List V} {kw:List (Str×V)} {cells:List Cell} {tr:List Tr} {out:Res Fl} {r:Res V} {σ':Wt} {ps:List Prop}
  (hf:plainL.any (Nat.beq f)=true)
  (hb:∀ (s:Shared) (us:List Value) (ks:List (Str×Value)) (φ:Mp) (ca:List Addr),KIn w.params s.heap→RVs prog w LI φ ca args us→RKs prog w LI φ ca kw ks →
   ∃ binds,BindsTo s (fdat w.params f) ⟨us,ks⟩ binds∧(∀ x∈binds,(fdat w.params f).scope.names.lookup x.1=some .local)∧RKs prog w LI φ ca loc binds.reverse)
  (e:evBk (evM prog w LI (Gf w.params n f) m k) (bodyOf (fdat w.params f)) ⟨loc,cells,tr⟩=some (out,σ',ps)) (hp:AllP ps)
  (hr:EndsN out r) (hc:∀ c,r=.err c→σ'.cells.length=cells.length∨∀ c∈σ'.cells.take cells.length,CloC c) :
  ConN prog w LI (n+3) (.fn f) cells args kw r σ'.cells:=fn_conS hf hb (evBk_sound (evM_sound m k) e hp) hr hc
theorem ConN.con {n:Nat} {f:V} {cells cells':List Cell} {args:List V} {kw:List (Str×V)} {r:Res V} (h:ConN prog w LI n f cells args kw r cells') (hv:∀ b,r=.ok b→CloV b)
  (hc:cells'.length=cells.length∨∀ c∈cells'.take cells.length,CloC c):Con prog w LI n f cells args kw r (cells'.take cells.length):=by
 intro A outer F φ ca s vf us ks ok fr fe hp0 rf ra rk Q E k1 k2
 refine h A outer F φ ca s vf us ks ok fr fe hp0 rf ra rk Q E (fun b φ' ca' v s' eo pre fresh st hp sx rv=>?_) k2
 have hd:=hp.drop pre (by rw [hp0.len,hp.len];exact hc)
 rw [hp0.len] at hd
 exact k1 b φ' v s' eo st hd sx ((hv b eo _ _ _ _ _ _ rv).mono (Mp.le.refl _) List.nil_prefix)
theorem fn_con {n f m k:Nat} {names:List Str} {args:List V} {cells:List Cell} {tr:List Tr} {out:Res Fl} {r:Res V} {σ':Wt} {ps:List Prop}
  (hf:plainL.any (Nat.beq f)=true)
  (hnm:(names.all fun x=>(fdat w.params f).scope.names.lookup x==some .local)=true)
  (hb:∀ (s:Shared) (us:List Value),KIn w.params s.heap→us.length=args.length→BindsTo s (fdat w.params f) ⟨us,[]⟩ (names.zip us))
  (e:evBk (evM prog w LI (Gf w.params n f) m k) (bodyOf (fdat w.params f)) ⟨(names.zip args).reverse,cells,tr⟩=some (out,σ',ps)) (hp:AllP ps)
  (hr:EndsN out r) (hc:∀ c,r=.err c→σ'.cells.length=cells.length∨∀ c∈σ'.cells.take cells.length,CloC c) :
  ConN prog w LI (n+3) (.fn f) cells args [] r σ'.cells :=
 fn_conN hf (fun s us ks φ ca kin ra rk=>by
  cases rk
  exact ⟨names.zip us,hb s us kin ra.len,fun x hx=>beq_iff_eq.mp (List.all_eq_true.mp hnm x.1 (List.of_mem_zip hx).1),(RVs.zip names ra).rev⟩) e hp hr hc
structure FnS (P:Params) (f:Nat) (names:List Str):Prop where
 pl:plainL.any (Nat.beq f)=true
 nm:(names.all fun x=>(fdat P f).scope.names.lookup x==some .local)=true
 bd:∀ (s:Shared) (us:List Value),KIn P s.heap→us.length=names.length→BindsTo s (fdat P f) ⟨us,[]⟩ (names.zip us)
noncomputable abbrev bodyAt (P:Params) (f:Nat):List Stmt:=bodyOf (fdat P f)
theorem FnS.con {n f:Nat} {names:List Str} (F:FnS w.params f names) (m k:Nat) (args:List V) (cells:List Cell) (tr:List Tr) {out:Res Fl} {r:Res V} {σ':Wt} {ps:List Prop}
  (hl:args.length=names.length)
  (e:evBk (evM prog w LI (Gf w.params n f) m k) (bodyAt w.params f) ⟨(names.zip args).reverse,cells,tr⟩=some (out,σ',ps)) (hp:AllP ps)
  (hr:Ends out r)
  (hc:σ'.cells.length=cells.length∨∀ c∈σ'.cells.take cells.length,CloC c) :
  Con prog w LI (n+3) (.fn f) cells args [] r (σ'.cells.take cells.length) :=
 (fn_con F.pl F.nm (fun s us k h=>F.bd s us k (h.trans hl)) e hp hr.N (fun _ _=>hc)).con (fun b e=>hr.clo e) hc
theorem lenS {n:Nat} {us:List Value} (h:us.length=n+1):∃ a r,us=a::r∧r.length=n:=by
 cases us with
 | nil=>cases h
 | cons a r=>exact ⟨a,r,rfl,Nat.succ.inj h⟩
theorem len1 {us:List Value} (h:us.length=1):∃ a,us=[a]:=(lenS h).elim fun a q=>q.elim fun _ q=>⟨a,List.eq_nil_of_length_eq_zero q.2▸q.1⟩
theorem len2 {us:List Value} (h:us.length=2):∃ a b,us=[a,b]:=(lenS h).elim fun a q=>q.elim fun _ q=>(len1 q.2).elim fun b k=>⟨a,b,k▸q.1⟩
theorem len3 {us:List Value} (h:us.length=3):∃ a b c,us=[a,b,c]:=(lenS h).elim fun a q=>q.elim fun _ q=>(len2 q.2).elim fun b k=>k.elim fun c k=>⟨a,b,c,k▸q.1⟩
theorem len5 {us:List Value} (h:us.length=5):∃ a b c d e,us=[a,b,c,d,e]:=(lenS h).elim fun a q=>q.elim fun _ q=>(lenS q.2).elim fun b k=>k.elim fun _ k=>(len3 k.2).elim fun c j=>j.elim fun d j=>j.elim fun e j=>⟨a,b,c,d,e,by rw [q.1,k.1,j]⟩
end
section
variable {prog:Program} {w:World} {LI:Nat→Option LamInfo} {Γ:Gam} {A:Around} {a:Addr} {cl:List (Str×Addr)} {L:Addr} {F:List Addr} {outer:List Env} {φ φ':Mp} {ca ca':List Addr} {s₀ s:Shared}
theorem Pst.calm {env:Env} {cv:List (Str×V)} {σ₀ σ:Ab} (h0:At prog w LI env cv L F σ₀ φ ca s₀) (p:Pst prog w LI env cv L F σ φ ca s₀ φ' ca' s) (X:List Addr) (hX:∀ x∈X,φ' x=none∧s₀.heap.get? x=none∧x∉ca') {s':Shared}
  (kp:∀ b o,s.heap.get? b=some o→b∉X→b∉L::F→s'.heap.get? b=some o) (up:∀ b o,b∈L::F→s.heap.get? b=some o→∃ sl,s'.heap.get? b=some { o with slots:=sl }) (sx:SameX s s'):Pst prog w LI env cv L F σ φ ca s₀ φ' ca' s':=by
 have nX:∀ b o,s₀.heap.get? b=some o→b∉X:=fun b o e z=>by have:=(hX b z).2.1;rw [e] at this;cases this
 refine ⟨p.pre,⟨p.stp.le,p.stp.new,fun b ⟨o,e⟩=>?_,fun b o e h1 h2 h3=>kp b o (p.stp.keep b o e h1 h2 h3) (nX b o e) (fun z=>by rcases List.mem_cons.mp z with rfl | z;exact h1 (.head _);exact h2 z),fun b o e hb=>?_⟩,p.fresh,
  ⟨⟨fun b o e=>?_,p.at_.hp.kk,fun P hP=>?_,p.at_.hp.len,p.at_.hp.nd,fun i c b e1 e2=>?_,fun b hb=>?_⟩,p.at_.big,p.at_.LF,?_,p.at_.cv⟩,p.same.trans sx⟩
 ·obtain ⟨o',e'⟩:=p.stp.alive b ⟨o,e⟩
  by_cases z:b∈L::F
  ·obtain ⟨sl,q⟩:=up b o' z e';exact ⟨_,q⟩
  ·exact ⟨o',kp b o' e' (nX b o e) z⟩
 ·obtain ⟨sl,e'⟩:=p.stp.up b o e hb
  obtain ⟨sl',q⟩:=up b _ (.tail _ hb) e'
  exact ⟨sl',q⟩
 ·exact kp b o (p.at_.hp.fz b o e) (fun z=>by rw [(hX b z).1] at e;cases e) (fun z=>by rw [(p.at_.hp.frs b z).1] at e;cases e)
 ·obtain ⟨a1,a2,a3,ps,a4,a5⟩:=p.at_.hp.tab P hP
  obtain ⟨_,_,_,qs,b4,_⟩:=h0.hp.tab P hP
  exact ⟨a1,a2,a3,ps,kp P _ a4 (nX P _ b4) a3,a5⟩
 ·obtain ⟨a1,o,a2,a3⟩:=p.at_.hp.cel i c b e1 e2
  exact ⟨a1,o,kp b o a2 (fun z=>(hX b z).2.2 (List.mem_of_getElem? e2)) a1,a3⟩
 ·obtain ⟨a1,o,a2,a3⟩:=p.at_.hp.frs b hb
  obtain ⟨sl,q⟩:=up b o hb a2
  exact ⟨a1,_,q,a3⟩
 ·obtain ⟨m,⟨o,es,ep,ho,hd,hk,hf⟩,hl⟩:=p.at_.fr
  obtain ⟨sl,e⟩:=up L o (.head _) ho
  exact ⟨m,⟨_,es,ep,e,hd,hk,hf⟩,hl⟩
def Mk (prog:Program) (w:World) (LI:Nat→Option LamInfo) (fl:Value) (φ:Mp) (h₀:Heap) (cls:V) (ev:Value) (h:Heap):Prop :=
 ∃ e oe vs a0 cl T oT ts,ev=.ref e∧h.get? e=some oe∧RV prog w LI φ [] cls cl∧oe.cls=cl∧oe.data=.fields vs∧vs[0]?=some a0∧φ e=none∧h₀.get? e=none ∧
  vs[1]?=some (.ref T)∧φ T=none∧h₀.get? T=none∧T≠e∧h.get? T=some oT∧oT.data=.fields ts∧ts[3]?=some fl
theorem Mk.ex {φ:Mp} {h₀ h:Heap} {cls:V} {ev:Value} (x:Mk prog w LI (rawInt L) φ h₀ cls ev h):Ex prog w LI (some L) φ h₀ cls ev h:=by
 obtain ⟨e,oe,vs,a0,cl,T,oT,ts,h1,h2,h3,h4,h5,h6,h7,h8,i1,i2,i3,i4,i5,i6,i7⟩:=x
 exact ⟨e,oe,vs,a0,cl,h1,h2,h3,h4,h5,h6,h7,h8,.inr ⟨T,oT,ts,i1,i2,i3,i4,i5,i6,.inr ⟨L,rfl,i7⟩⟩⟩
theorem not_cell {env:Env} {cv:List (Str×V)} {σ:Ab} (h:At prog w LI env cv L F σ φ ca s) (hg:∀ c∈σ.cells,c≠.gone) {b:Addr} {o:Obj} {vs:Array Value} (e:s.heap.get? b=some o) (hd:o.data=.fields vs):b∉ca:=fun hm=>by
 obtain ⟨i,hi⟩:=List.mem_iff_getElem?.mp hm
 have hi':i<σ.cells.length:=by rw [←h.hp.len];exact (List.getElem?_eq_some_iff.mp hi).1
 obtain ⟨_,o',e',hx⟩:=h.hp.cel i _ b (List.getElem?_eq_getElem hi') hi
 rw [e] at e'
 cases e'
 obtain ⟨_,rc⟩:=hx.resolve_left (hg _ (List.getElem_mem hi'))
 cases hc:σ.cells[i] with
 | list vs=>rw [hc] at rc;obtain ⟨us,n,rfl,_⟩:=rc;cases hd
 | dict vs=>rw [hc] at rc;obtain ⟨us,⟨_,_,_,e,_⟩,_⟩:=rc;rw [e] at hd;cases hd
 | flds vs=>rw [hc] at rc;obtain ⟨us,n,rfl,_⟩:=rc;cases hd
 | gone=>exact hg _ (List.getElem_mem hi') hc
theorem not_frame {env:Env} {cv:List (Str×V)} {σ:Ab} (h:At prog w LI env cv L F σ φ ca s) {b:Addr} (e:s.heap.get? b=none):b∉L::F:=fun hm=>by
 obtain ⟨_,o,ho,_⟩:=h.hp.frs b hm
 rw [e] at ho;cases ho
theorem frameF (S:Site L F Γ A a cl outer) {σ:Ab} (h:At prog w LI (eN Γ L a cl) Γ.cv L F σ φ ca s):FunE (eN Γ L a cl::outer) (L::F):=⟨by show Γ.cs.kind≠_;rw [S.kd];decide,rfl,h.LF,S.fe⟩
theorem noted_op (S:Site L F Γ A a cl outer) {σ₀ σ:Ab} {c:V} {ev:Value} (h0:At prog w LI (eN Γ L a cl) Γ.cv L F σ₀ φ ca s₀) (p:Pst prog w LI (eN Γ L a cl) Γ.cv L F σ φ ca s₀ φ' ca' s) (hg:∀ c∈σ.cells,c≠.gone)
  (x:Ex prog w LI (some L) φ' s₀.heap c ev s.heap) {Q:Unit→Shared→Prop} {E:Value→Shared→Prop}
  (k:∀ s',Pst prog w LI (eN Γ L a cl) Γ.cv L F σ φ ca s₀ φ' ca' s'→Mk prog w LI (rawInt L) φ' s₀.heap c ev s'.heap→Q () s'):wpAny (model prog w) A (noteFrame ev (eN Γ L a cl)) Q E s:=by
 obtain ⟨e,oe,vs,a0,cl',rfl,h2,h3,h4,h5,h6,h7,h8,h9⟩:=x
 have fe:=frameF S p.at_
 have hfun:∀ hide:List Addr,(∀ a∈L::F,a∈hide)→s.heap.FunFrames (hideAll s.heap hide) (eN Γ L a cl::outer):=fun hide hh=>funE_frames fe fun a ha=>⟨hideAll_none _ (hh a ha),(p.at_.hp.frs a ha).2⟩
 have eca:e∉ca':=not_cell p.at_ hg h2 h5
 have fin:∀ (X:List Addr),e∈X→(∀ x∈X,φ' x=none∧s₀.heap.get? x=none∧x∉ca')→∀ h',Heap.NotedW (hideAll s.heap (X++L::F)) (eN Γ L a cl::outer) e oe.cls a0 (rawInt L) s.heap h'→Q () { s with heap:=h' }:=by
  rintro X heX hX h' ⟨w1,w2,⟨oe',vs',T,oT,ts,t1,⟨t2,t3⟩,t4,t5,t6,t7,t8,t9,t10⟩,w4⟩
  have hfF:=frames_funE fe w2
  have hTF:T∉L::F:=fun z=>by
   obtain ⟨o,ho,hd⟩:=hfF T z
   rw [t8] at ho;cases ho;exact hd _ t9
  have freshT:∀ o,s.heap.get? T=some o→T∈X:=fun o q=>by
   by_cases n:T∈X++L::F
   ·rcases List.mem_append.mp n with n | n
    ·exact n
    ·exact absurd n hTF
   ·have:=hideAll_get _ q n;rw [t6] at this;cases this
  have hp':=Pst.calm h0 p X hX (s':={ s with heap:=h' }) (fun b o q h1 h2=>w1 b o (hideAll_get _ q fun z=>(List.mem_append.mp z).elim h1 h2)) (fun b o hb q=>by
   obtain ⟨_,o',ho,hd⟩:=p.at_.hp.frs b hb
   rw [q] at ho;cases ho
   exact w4 b o q hd) ⟨rfl,rfl,rfl⟩
  refine k _ hp' ⟨e,oe',vs',a0,cl',T,oT,ts,rfl,t1,h3,t2.trans h4,t4,t3,h7,h8,t5,?_,?_,t7,t8,t9,t10⟩
  ·cases z:φ' T with
   | none=>rfl
   | some o=>have:=(hX T (freshT o (p.at_.hp.fz _ _ z))).1;rw [z] at this;cases this
  ·cases z:s₀.heap.get? T with
   | none=>rfl
   | some o =>
    obtain ⟨o',q'⟩:=p.stp.alive T ⟨o,z⟩
    have:=(hX T (freshT o' q')).2.1;rw [z] at this;cases this
 have hh:∀ X:List Addr,∀ b∈L::F,b∈X++L::F:=fun X b hb=>List.mem_append_right _ hb
 rcases h9 with h9 | ⟨T,oT,ts,i1,i2,i3,i4,i5,i6,i7⟩
 ·unfold noteFrame
  simp only [show (eN Γ L a cl).frame=some L from rfl]
  refine wpAny_bind (wpAny_field h2 h5 h9 ?_)
  rw [if_neg (by decide)]
  exact wpAny_entryW S.fr (hfun _ (hh [e])) rfl h2 (fun b o q=>of_hideAll _ q) (hideAll_none _ (.head _)) h5 (Array.getElem?_eq_some_iff.mp h9).1 h6 (fin [e] (.head _) (one_of ⟨h7,h8,eca⟩))
 ·have tca:T∉ca':=not_cell p.at_ hg i5 i6
  have hX:∀ x∈[e,T],φ' x=none∧s₀.heap.get? x=none∧x∉ca':=two_of ⟨h7,h8,eca⟩ ⟨i2,i3,tca⟩
  have trc:∀ {f:Value},ts[3]?=some f→s.heap.TracedAtW (hideAll s.heap ([e,T]++L::F)) e oe.cls a0 f:=fun h=>⟨oe,vs,T,oT,ts,h2,⟨rfl,h6⟩,h5,i1,hideAll_none _ (.tail _ (.head _)),i4,i5,i6,h⟩
  rcases i7 with i7 | ⟨L₁,i7,i8⟩
  ·exact wpAny_noteFrame_onW S.fr (hfun _ (hh [e,T])) rfl (trc i7) (fun b o q=>of_hideAll _ q) (hideAll_none _ (.head _)) (fin [e,T] (.head _) hX)
  ·cases i7
   exact wpAny_noteFrame_againW rfl (trc i8) (k s p ⟨e,oe,vs,a0,cl',T,oT,ts,rfl,h2,h3,h4,h5,h6,h7,h8,i1,i2,i3,i4,i5,i6,i8⟩)
theorem land_op {σ₀ σ:Ab} {c:V} {ev fl fl':Value} {f:Option Addr} (hf:f.elim Value.none (fun b=>rawInt b)=fl') (h0:At prog w LI (eN Γ L a cl) Γ.cv L F σ₀ φ ca s₀) (p:Pst prog w LI (eN Γ L a cl) Γ.cv L F σ φ ca s₀ φ' ca' s) (hg:∀ c∈σ.cells,c≠.gone)
  (x:Mk prog w LI fl φ' s₀.heap c ev s.heap) {Q:Unit→Shared→Prop} {E:Value→Shared→Prop}
  (k:∀ s',Pst prog w LI (eN Γ L a cl) Γ.cv L F σ φ ca s₀ φ' ca' s'→Mk prog w LI fl' φ' s₀.heap c ev s'.heap→Q () s'):wpAny (model prog w) A (setFlight ev f) Q E s:=by
 obtain ⟨e,oe,vs,a0,cl',T,oT,ts,rfl,h2,h3,h4,h5,h6,h7,h8,i1,i2,i3,i4,i5,i6,i7⟩:=x
 have tca:T∉ca':=not_cell p.at_ hg i5 i6
 have tF:=not_frame h0 i3
 have hsz:=(Array.getElem?_eq_some_iff.mp i7).1
 unfold setFlight
 refine wpAny_bind (wpAny_field h2 h5 i1 ?_)
 rw [if_pos (show (Value.ref T !=Value.none)=true from by simp)]
 have hd':=Obj.data_mapFields i6 (·.setIfInBounds 3 (f.elim Value.none fun b=>rawInt b))
 have gT:=Heap.get?_update_self (Obj.mapFields (·.setIfInBounds 3 (f.elim Value.none fun b=>rawInt b))) i5 (Obj.isFreed_of_fields hd')
 have other:∀ b,b≠T→(s.heap.update T (Obj.mapFields (·.setIfInBounds 3 (f.elim Value.none fun b=>rawInt b)))).get? b=s.heap.get? b:=fun b hb=>Heap.get?_update_other _ _ (Ne.symm hb)
 refine wpAny_setField i5 i6 hsz (k _ (Pst.calm h0 p [T] (one_of ⟨i2,i3,tca⟩) (fun b o q h1 _=>(other b (fun z=>h1 (z▸.head _))).trans q) (fun b o hb q=>⟨o.slots,(other b (fun z=>tF (z▸hb))).trans q⟩) ⟨rfl,rfl,rfl⟩)
  ⟨e,oe,vs,a0,cl',T,_,_,rfl,(other e (Ne.symm i4)).trans h2,h3,h4,h5,h6,h7,h8,i1,i2,i3,i4,gT,hd',by rw [←hf];simp [hsz]⟩)
end
section
variable {prog:Program} {w:World} {LI:Nat→Option LamInfo} {Γ:Gam} {A:Around} {a:Addr} {cl:List (Str×Addr)} {L:Addr} {F:List Addr} {outer:List Env} {φ φ':Mp} {ca ca':List Addr} {s₀ s:Shared}
def SuiteAny (prog:Program) (w:World) (LI:Nat→Option LamInfo) (Γ:Gam) (b:List Stmt) (σ:Ab) (out:Fl) (σ':Ab):Prop:=∀ A a cl L F,Γ.cs.kind=.function→∀ φ ca s,At prog w LI (eN Γ L a cl) Γ.cv L F σ φ ca s →
 ∀ (Q:Flow→Shared→Prop) (E:Value→Shared→Prop),(∀ φ' ca' g s',Pst prog w LI (eN Γ L a cl) Γ.cv L F σ' φ ca s φ' ca' s'→RFr prog w LI out φ' ca' g→Q g s')→wpAny (model prog w) A (execs b (eN Γ L a cl)) Q E s
def NameAny (prog:Program) (w:World) (LI:Nat→Option LamInfo) (Γ:Gam) (t:Expr) (σ:Ab) (u:Value):Prop:=∀ A a cl L F,Γ.cs.kind=.function→∀ φ ca s,At prog w LI (eN Γ L a cl) Γ.cv L F σ φ ca s →
 ∀ (Q:Value→Shared→Prop) (E:Value→Shared→Prop),Q u s→wpAny (model prog w) A (eval t (eN Γ L a cl)) Q E s
theorem name_glob {x:Str} {np:Pos} {v:V} {u:Value} {σ:Ab} (hx:Γ.cs.names.lookup x=some .globalImplicit) (hg:gl.lookup x=some v) (hv:(∃ c,v=.fn c∧u=.ref c)∨∃ n,v=.ty n∧u=.type n):NameAny prog w LI Γ (.Name x np) σ u:=by
 intro A a cl L F kd φ ca s h Q E q
 have ok:(!(x==("__debug__": Str))&&glOk2 w.params x v)=true:=List.all_eq_true.mp (gl_ok w.params) _ (lookup_mem hg)
 rw [Bool.and_eq_true,Bool.not_eq_true'] at ok
 have G3:=gns h.kin (g3 w.params)
 exact hv.elim (fun k=>k.elim fun c k=>by
   rw [k.1] at ok
   exact Name_function_global (env:=eN Γ L a cl) kd hx (loadGlobal_global (env:=eN Γ L a cl) G3 (beq_iff_eq.mp ok.2) (k.2▸q)) ok.1)
  fun k=>k.elim fun n k=>by
   rw [k.1] at ok
   have o2:=Bool.and_eq_true_iff.mp ok.2
   exact Name_function_global (env:=eN Γ L a cl) kd hx (loadGlobal_builtin (env:=eN Γ L a cl) G3 (beq_iff_eq.mp o2.1) (gns h.kin (g0 w.params)) (beq_iff_eq.mp o2.2) (k.2▸q)) ok.1
noncomputable def tryB:Stmt→List Stmt
 | .Try b _ _ _ _=>b
 | _=>[]
noncomputable def tryH:Stmt→Option ExceptHandler
 | .Try _ hs o f _=>if o.isEmpty&&f.isEmpty then one1 hs else none
 | _=>none
noncomputable def hT:ExceptHandler→Option Expr
 | .ExceptHandler t _ _ _=>t
noncomputable def hN:ExceptHandler→Option Str
 | .ExceptHandler _ n _ _=>n
noncomputable def hB:ExceptHandler→List Stmt
 | .ExceptHandler _ _ b _=>b
noncomputable def trySuite (st:Stmt):List Stmt:=(tryH st).elim [] hB
noncomputable def tryHP (st:Stmt):Pos:=(tryH st).elim default ExceptHandler.pos
noncomputable def tryT (st:Stmt):Expr:=((tryH st).bind hT).getD default
noncomputable def tryOk (st:Stmt):Bool:=(tryH st).any fun h=>(hT h).isSome&&(hN h).isNone&&!(hB h).isEmpty
theorem hd_eq {h:ExceptHandler} (k:((hT h).isSome&&(hN h).isNone&&!(hB h).isEmpty)=true):∃ b₀ r,hB h=b₀::r∧h=.ExceptHandler (some ((hT h).getD default)) none (b₀::r) h.pos:=by
 cases h with
 | ExceptHandler t n b p =>
  cases t<;>cases n<;>cases b<;>first | exact ⟨_,_,rfl,rfl⟩ | exact absurd k.symm Bool.noConfusion
theorem tryOk_eq {st:Stmt} (h:tryOk st=true):∃ b₀ r,trySuite st=b₀::r∧st=.Try (tryB st) [.ExceptHandler (some (tryT st)) none (b₀::r) (tryHP st)] [] [] st.pos:=by
 unfold tryOk at h
 cases hx:tryH st with
 | none=>rw [hx] at h;exact absurd h Bool.false_ne_true
 | some x =>
  rw [hx] at h
  have k:((hT x).isSome&&(hN x).isNone&&!(hB x).isEmpty)=true:=h
  unfold trySuite tryHP tryT
  rw [hx]
  refine (hd_eq k).imp fun b₀ q=>q.imp fun r q=>⟨q.1,?_⟩
  cases st with
  | Try b hs o f p =>
   have e:=ifs (b:=o.isEmpty&&f.isEmpty) hx
   have c:=Bool.and_eq_true_iff.mp e.1
   rw [one1_inv e.2,List.isEmpty_iff.mp c.1,List.isEmpty_iff.mp c.2]
   exact congrArg (fun z=>Stmt.Try b [z] [] [] p) q.2
  | _=>exact nsm rfl hx
theorem try_ok {st:Stmt} {σ σ':Ab} {fl:Fl} (h:tryOk st=true) (hb:SemB prog w LI Γ (tryB st) σ (.ok fl) σ'):SemS prog w LI Γ st σ (.ok fl) σ' :=
 (tryOk_eq h).elim fun b₀ q=>q.elim fun r q=>by
 rw [q.2]
 exact fun A a cl L F outer S φ ca s h Q E k1 k2=>wpAny_Try_except (hb A a cl L F outer S φ ca s h _ _ (fun b φ' ca' v s' eo pst rf=>by
  have fin:=k1 b φ' ca' v s' eo pst rf
  cases v with
  | next=>exact wpAny_execs_nil fin
  | _=>exact fin) fun c φ' ca' v s' eo=>n_oe eo)
theorem Mk.hd {fl:Value} {h₀ h:Heap} {cls:V} {ev:Value} (x:Mk prog w LI fl φ h₀ cls ev h):∃ e oe,ev=.ref e∧h.get? e=some oe∧RV prog w LI φ [] cls oe.cls :=
 x.imp fun e x=>x.imp fun oe x=>x.elim fun vs x=>x.elim fun a0 x=>x.elim fun cl x=>x.elim fun T x=>x.elim fun oT x=>x.elim fun ts x=>⟨x.1,x.2.1,x.2.2.2.1▸x.2.2.1⟩
theorem try_exc {st:Stmt} {σ σ₁ σ':Ab} {fl:Fl} {c:V} (h:tryOk st=true) (hb:SemB prog w LI Γ (tryB st) σ (.err c) σ₁) (hs:SuiteAny prog w LI Γ (trySuite st) σ₁ fl σ') (hg:∀ c∈σ₁.cells,c≠.gone)
  (mid:∀ A a cl L F φ ca s,Γ.cs.kind=.function→At prog w LI (eN Γ L a cl) Γ.cv L F σ₁ φ ca s→∀ e oe b₀ r p (Q:Flow→Shared→Prop) (E:Value→Shared→Prop),s.heap.get? e=some oe→RV prog w LI φ [] c oe.cls →
   (∀ A' E' E'',wpAny (model prog w) A' (setFlight (.ref e) none) (fun _ s₁=>wpAny (model prog w) A' (execs (b₀::r) (eN Γ L a cl)) Q E' s₁) E'' s)→wpAny (model prog w) A (handleBy (.ref e) (eN Γ L a cl) [.ExceptHandler (some (tryT st)) none (b₀::r) p]) Q E s):SemS prog w LI Γ st σ (.ok fl) σ' :=
 (tryOk_eq h).elim fun b₀ q=>q.elim fun r q=>by
 rw [q.2]
 exact fun A a cl L F outer S φ ca s h Q E k1 k2=>wpAny_Try_except (hb A a cl L F outer S φ ca s h _ _ (fun b φ' ca' v s' eo=>n_eo eo) fun c' φ₁ ca₁ ev s₁ eo p1 ex=>by
  cases eo
  exact noted_op S h p1 hg ex fun s₂ p2 m2=>land_op (f:=none) rfl h p2 hg m2 fun s₃ p3 m3=>m3.hd.elim fun e x=>x.elim fun oe x=>by
   rw [x.1] at m3 ⊢
   exact mid _ a cl L F _ _ _ S.kd p3.at_ e oe b₀ r _ _ _ x.2.1 x.2.2 fun A' E' E''=>land_op (f:=none) rfl h p3 hg m3 fun s₄ p4 m4=>q.1▸hs A' a cl L F S.kd _ _ _ p4.at_ _ _ fun φ' ca' g s' pst rf=>k1 fl φ' ca' g s' rfl (p4.trans pst) rf)
theorem try_own {st:Stmt} {σ σ₁ σ':Ab} {fl:Fl} (h:tryOk st=true) (hb:SemB prog w LI Γ (tryB st) σ (.err (.fn 1049)) σ₁) (hn:NameAny prog w LI Γ (tryT st) σ₁ (.ref 1049)) (hs:SuiteAny prog w LI Γ (trySuite st) σ₁ fl σ') (hg:∀ c∈σ₁.cells,c≠.gone):SemS prog w LI Γ st σ (.ok fl) σ' :=
 try_exc h hb hs hg fun A a cl L F φ ca s kd at_ e oe b₀ r p Q E h2 h3 k=>by
 refine wpAny_handleBy_cons (codeAny_handlers_test (hn _ a cl L F kd _ _ _ at_ _ _ ?_)) nofun
 obtain ⟨hp,gg,dd,tk,os⟩:=s
 exact wpAny_excMatches_sub_self (at_.kin _ _ (k1049 _)) h2 h3.fn_inv rfl (codeAny_handlers_suite (k _ _ _))
theorem try_key {st:Stmt} {σ σ₁ σ':Ab} {fl:Fl} (h:tryOk st=true) (hb:SemB prog w LI Γ (tryB st) σ (.err (.ty "KeyError")) σ₁) (hn:NameAny prog w LI Γ (tryT st) σ₁ (.type "KeyError")) (hs:SuiteAny prog w LI Γ (trySuite st) σ₁ fl σ') (hg:∀ c∈σ₁.cells,c≠.gone):SemS prog w LI Γ st σ (.ok fl) σ' :=
 try_exc h hb hs hg fun A a cl L F φ ca s kd at_ e oe b₀ r p Q E h2 h3 k =>
 wpAny_handleBy_builtin (X :="KeyError") (T :="KeyError") (b:=true) kr_isExc_KeyError (by rw [isSubtype_type];kernel_rfl) (by rw [isSubtype_type];kernel_rfl) (hn _ a cl L F kd _ _ _ at_ _ _ ⟨rfl,⟨oe,h2,h3.ty_inv⟩,k _ _ _⟩)
end
section
variable {prog:Program} {w:World} {LI:Nat→Option LamInfo} {F:List Addr} {φ:Mp} {ca:List Addr} {cells:List Cell} {h:Heap}
theorem put_le' {a:Addr} {o:Obj} (h:φ a=none):φ.le (φ.put a o):=fun b x q=>by
 unfold Mp.put
 by_cases z:b=a
 ·subst z;rw [h] at q;cases q
 ·rw [if_neg z];exact q
theorem Hp.freeze (x:Hp prog w LI F φ ca cells h) {a:Addr} {o:Obj} (h0:φ a=none) (h1:a∉ca) (h2:a∉F) (h3:a∉tabA) (ho:h.get? a=some o):Hp prog w LI F (φ.put a o) ca cells h:=by
 have le:=put_le' (o:=o) h0
 have ne:∀ b,b≠a→φ.put a o b=φ b:=fun b z=>if_neg z
 refine ⟨fun b o' e=>?_,fun b o' e=>le _ _ (x.kk b o' e),fun P hP=>?_,x.len,x.nd,fun i c b e1 e2=>?_,fun b hb=>?_⟩
 ·by_cases z:b=a
  ·subst z;rw [Mp.put_self] at e;cases e;exact ho
  ·rw [ne b z] at e;exact x.fz b o' e
 ·obtain ⟨a1,a2,a3,ps,a4,a5,a6⟩:=x.tab P hP
  exact ⟨(ne P fun z=>h3 (z▸hP)).trans a1,a2,a3,ps,a4,a5,fun pos cv e=>let ⟨c,o,vs,t,y1,y2,y3⟩:=a6 pos cv e;⟨c,o,vs,t,y1,le _ _ y2,y3⟩⟩
 ·obtain ⟨a1,o',a2,a3⟩:=x.cel i c b e1 e2
  exact ⟨a1,o',a2,a3.imp id fun ⟨p,r⟩=>⟨(ne b fun z=>h1 (z▸List.mem_of_getElem? e2)).trans p,r.mono le (List.prefix_refl _)⟩⟩
 ·obtain ⟨a1,a2⟩:=x.frs b hb
  exact ⟨(ne b fun z=>h2 (z▸hb)).trans a1,a2⟩
theorem Hp.cell_at (x:Hp prog w LI F φ ca cells h) {k:Nat} {c:Cell} (hk:cells[k]?=some c) (hg:c≠.gone):∃ a o,ca[k]?=some a∧a∉F∧a∉tabA∧h.get? a=some o∧φ a=none∧RC prog w LI φ ca c o:=by
 have hk':k<ca.length:=by rw [x.len];exact (List.getElem?_eq_some_iff.mp hk).1
 obtain ⟨a1,o,a2,a3⟩:=x.cel k c _ hk (List.getElem?_eq_getElem hk')
 obtain ⟨a4,a5⟩:=a3.resolve_left hg
 exact ⟨_,o,List.getElem?_eq_getElem hk',a1,fun z=>(x.tab _ z).2.1 (List.getElem_mem hk'),a2,a4,a5⟩
theorem take_no {ca ca':List Addr} (p:ca <+: ca') (nd:ca'.Nodup) {k:Nat} {a:Addr} (hk:ca'[k]?=some a) (hl:ca.length≤k):a∉ca:=fun hm=>by
 obtain ⟨i,hi⟩:=List.mem_iff_getElem?.mp hm
 have hi':=(List.getElem?_eq_some_iff.mp hi).1
 have e:=pre_get p hi
 obtain ⟨l1,e1⟩:=List.getElem?_eq_some_iff.mp e
 obtain ⟨l2,e2⟩:=List.getElem?_eq_some_iff.mp hk
 have:=(List.getElem_inj nd).mp (e1.trans e2.symm)
 omega
theorem new_ne {ca ca':List Addr} (h:Heap) (fresh:∀ a∈ca',a∈ca∨h.get? a=none) {k:Nat} {a:Addr} (hk:ca'[k]?=some a) (hn:a∉ca):h.get? a=none:=(fresh a (List.mem_of_getElem? hk)).resolve_left hn
theorem Stp.put {M F:List Addr} {φ φ':Mp} {h h':Heap} {a:Addr} {o:Obj} (st:Stp M F φ h φ' h') (h0:φ' a=none) (hn:h.get? a=none):Stp M F φ h (φ'.put a o) h' :=
 ⟨st.le.trans (put_le' h0),fun b x e=>by
  by_cases z:b=a
  ·subst z;exact .inr hn
  ·rw [show φ'.put a o b=φ' b from if_neg z] at e;exact st.new b x e,st.alive,st.keep,st.up⟩
theorem Hp.no1 (x:Hp prog w LI F φ ca cells h) {a:Addr} (e:φ a=none):a≠1:=fun z=>(Option.isSome_iff_exists.mp (k1_some w.params)).elim fun o q=>nsm e (x.kk a o (z▸q))
theorem RV.cell_inv {φ:Mp} {ca:List Addr} {k:Nat} {u:Value} (r:RV prog w LI φ ca (.cell k) u):∃ a,u=.ref a∧ca[k]?=some a:=r.inv
theorem ConN.lst {n k:Nat} {f v:V} {cells':List Cell} {args vs:List V} {kw:List (Str×V)} (x:ConN prog w LI n f cells args kw (.ok (.cell k)) cells') (hk:cells'[k]?=some (.list vs)) (hl:cells.length≤k) (hv:v.elems=some vs) (hcl:CloVs vs)
  (hc:∀ c∈cells'.take cells.length,CloC c):Con prog w LI n f cells args kw (.ok v) (cells'.take cells.length):=fun A outer F φ ca s vf us ks ok fr fe hp0 rf ra rk Q E k1 k2 =>
 x A outer F φ ca s vf us ks ok fr fe hp0 rf ra rk Q E (fun b φ' ca' u s' eo pre fresh st hp sx rv =>
  (hp.cell_at hk nofun).elim fun a q=>q.elim fun o q=>q.2.2.2.2.2.elim fun us' z=>z.elim fun m z=>(Res.ok.inj eo▸rv:RV prog w LI φ' ca' (.cell k) u).cell_inv.elim fun a' e=>by
   rw [e.1,← smi q.1 e.2]
   have ho:=z.1▸q.2.2.2.1
   have hφ:=q.2.2.2.2.1
   have hno:=take_no pre hp.nd q.1 (hp0.len▸hl)
   have hd:=hp.drop pre (.inr (hp0.len.symm▸hc))
   rw [hp0.len] at hd
   exact k1 v _ (.ref a) s' rfl (st.put hφ (new_ne _ fresh q.1 hno)) (hd.freeze hφ hno q.2.1 q.2.2.1 ho) sx (.lst hv (((hcl _ _ _ _ _ _ z.2).mono (put_le' hφ) List.nil_prefix)) (Mp.put_self _ _ _))) fun c φ' e s' eo=>n_oe eo
theorem ConN.bd {n j m:Nat} {f:V} {cells':List Cell} {args:List V} {kw:List (Str×V)} {d:List (Str×X)} (x:ConN prog w LI n f cells args kw (.ok (.raw 1020 j)) cells') (hj:cells'[j]?=some (.flds [("d", .cell m)])) (hm:cells'[m]?=some (.dict (d.map fun p=>(p.1,.ex p.2))))
  (hlj:cells.length≤j) (hlm:cells.length≤m) (hc:∀ c∈cells'.take cells.length,CloC c):Con prog w LI n f cells args kw (.ok (.bd d)) (cells'.take cells.length):=fun A outer F φ ca s vf us ks ok fr fe hp0 rf ra rk Q E k1 k2 =>
 x A outer F φ ca s vf us ks ok fr fe hp0 rf ra rk Q E (fun b φ' ca' u s' eo pre fresh st hp sx rv =>
  (hp.cell_at hj nofun).elim fun a A1=>A1.elim fun o A1=>A1.2.2.2.2.2.elim fun es A2=>A2.elim fun ne A2=>A2.2.uncons.elim fun hs R=>R.elim fun t R=>R.elim fun z R=>R.elim fun es' R=>R.2.1.cell_inv.elim fun b' e' =>
  (hp.cell_at hm nofun).elim fun b B1=>B1.elim fun ob B1=>B1.2.2.2.2.2.elim fun ws B2=>(Res.ok.inj eo▸rv:RV prog w LI φ' ca' (.raw 1020 j) u).raw_inv.elim fun y e=>e.elim fun dx e=>by
   have hy:=e.2.1
   rw [e.1]
   rw [←smi A1.1 e.2.2] at hy
   have ho:=A2.1▸A1.2.2.2.1
   have hφ:=A1.2.2.2.2.1
   have hno:=take_no pre hp.nd A1.1 (hp0.len▸hlj)
   have hno':=take_no pre hp.nd B1.1 (hp0.len▸hlm)
   have hd:=hp.drop pre (.inr (hp0.len.symm▸hc))
   rw [hp0.len] at hd
   have hφ2:(φ'.put a (dictOf es ne)) b=none:=(if_neg (Ne.symm (hp.ne A1.1 B1.1 fun z=>by rw [z] at hj;exact nomatch smi hj hm))).trans B1.2.2.2.2.1
   have key:∀ {ψ:Mp},RV prog w LI ψ ca (.dct (d.map fun p=>(p.1,.ex p.2))) (.ref b)→REs prog w LI ψ ca [("d", .dct (d.map fun p=>(p.1,.ex p.2)))] es:=fun h=>by rw [R.1,R.2.2.nil_,e'.1,← smi B1.1 e'.2];exact .cons h .nil
   have le1:φ'.le (φ'.put a (dictOf es ne)):=put_le' hφ
   have le2:(φ'.put a (dictOf es ne)).le ((φ'.put a (dictOf es ne)).put b ob):=put_le' hφ2
   exact k1 _ ((φ'.put a (dictOf es ne)).put b ob) (.ref y) s' rfl ((st.put hφ (new_ne _ fresh A1.1 hno)).put hφ2 (new_ne _ fresh B1.1 hno')) ((hd.freeze hφ hno A1.2.1 A1.2.2.1 ho).freeze hφ2 hno' B1.2.1 B1.2.2.1 B1.2.2.2.1) sx
    (.inst rfl (le2 _ _ (le1 _ _ hy)) (le2 _ _ (Mp.put_self _ _ _)) (key (.dct (hp.no1 B1.2.2.2.2.1) (Mp.put_self _ _ _) B2.1 ((clo_ks (fun p hp=>(List.mem_map.mp hp).elim fun q e=>e.2▸clo_ex _) B2.2).mono (le1.trans le2) List.nil_prefix))))) fun c φ' e s' eo=>n_oe eo
end
noncomputable def mgE (P:Params):Bool:=match gfind P 3 "__builtins__" with
 | some (.ref bm)=>!(Nat.beq bm 0)&&!(Nat.beq bm 3)&&Nat.blt bm 100&&(match (K P).lookup bm with
  | some ⟨.type t,some d,.plain,_⟩=>t =="module" && Nat.beq d 0
  | _=>false)
 | _=>false
theorem mg_e (P:Params):mgE P=true:=by kernel_rfl
noncomputable def chd (P:Params) (f:Nat) (T:Nat):Bool:=match (fdat P f).code with
 | .ref c=>(match (K P).lookup c with
  | some ⟨.type t,_,.fields vs,_⟩=>t =="code" && (vs[11]?==some (.ref T))&&(vs.getD 11 .none==.ref T)&&(match vs.getD 18 .none with | .str _ _=>true | _=>false)&&(match vs.getD 7 .none with | .int _ _=>true | _=>false) &&
   (match vs.getD 9 .none with | .bool _=>true | _=>false)&&(match vs.getD 10 .none with | .int _ _=>true | _=>false)&&!(Nat.beq c T)
  | _=>false)
 | _=>false
def hostL:List (Nat×Nat):=[(290,285),(264,259),(278,273)]
theorem host_ok (P:Params):hostL.all (fun p=>chd P p.1 p.2)=true:=by kernel_rfl
theorem chd_inv {P:Params} {f T:Nat} (e:chd P f T=true) {h:Heap} (k:KIn P h):∃ c,(fdat P f).code=.ref c∧CodeHd h c T:=by
 unfold chd at e
 split at e
 ·rename_i c hc
  split at e
  ·rename_i t d vs sl q
   simp only [Bool.and_eq_true] at e
   obtain ⟨⟨⟨⟨⟨⟨⟨e1,e2⟩,e3⟩,e4⟩,e5⟩,e6⟩,e7⟩,e8⟩:=e
   refine ⟨c,hc,?_⟩
   have h4:∃ file tf,vs.getD 18 .none=.str file tf:=by split at e4<;>first | exact ⟨_,_,by assumption⟩ | cases e4
   have h5:∃ file tf,vs.getD 7 .none=.int file tf:=by split at e5<;>first | exact ⟨_,_,by assumption⟩ | cases e5
   have h6:∃ file,vs.getD 9 .none=.bool file:=by split at e6<;>first | exact ⟨_,by assumption⟩ | cases e6
   have h7:∃ file tf,vs.getD 10 .none=.int file tf:=by split at e7<;>first | exact ⟨_,_,by assumption⟩ | cases e7
   obtain ⟨a4,b4,h4⟩:=h4
   obtain ⟨a5,b5,h5⟩:=h5
   obtain ⟨a6,h6⟩:=h6
   obtain ⟨a7,b7,h7⟩:=h7
   refine ⟨_,vs,a4,b4,a5,b5,a6,a7,b7,k _ _ q,by rw [beq_iff_eq.mp e1],rfl,beq_iff_eq.mp e2,beq_iff_eq.mp e3,h4,h5,h6,h7,fun z=>?_⟩
   rw [z,Nat.beq_refl] at e8;cases e8
  ·cases e
 ·cases e
theorem ca_snoc {pos pos':Pos} {c cv:Value} (l:List Value) (h:TriplesOk l) (e:codeAmong pos' (l++[rawInt pos.line,rawInt pos.col,c])=some cv):codeAmong pos' l=some cv∨cv=c:=by
 fun_induction TriplesOk l with
 | case1 =>
  simp only [List.nil_append,rawInt,codeAmong] at e
  split at e
  ·cases e;exact .inr rfl
  ·cases e
 | case2 a t b u x rest ih =>
  simp only [List.cons_append,codeAmong] at e ⊢
  split at e
  ·rename_i hc;rw [if_pos hc];exact .inl e
  ·rename_i hc;rw [if_neg hc];exact ih h e
 | case3 l h1 h2=>exact h.elim
section
variable {prog:Program} {w:World} {LI:Nat→Option LamInfo} {Γ:Gam} {A:Around} {a:Addr} {cl:List (Str×Addr)} {L:Addr} {F:List Addr} {outer:List Env} {φ:Mp} {ca:List Addr} {s:Shared}
theorem mg_at {h:Heap} {P:Params} (k:KIn P h) {T:Addr} (hT:100≤T):h.BuiltinsAt (gfind P 3) T:=by
 have e:=mg_e P
 unfold mgE at e
 split at e
 ·rename_i bm hbm
  simp only [Bool.and_eq_true] at e
  obtain ⟨⟨⟨e1,e2⟩,e3⟩,e4⟩:=e
  split at e4
  ·rename_i t d sl q
   rw [Bool.and_eq_true] at e4
   have e3':=blt_lt e3
   refine ⟨bm,_,hbm,fun z=>?_,fun z=>?_,fun z=>?_,k _ _ q,by rw [beq_iff_eq.mp e4.1],by rw [Nat.eq_of_beq_eq_true e4.2];rfl,rfl⟩
   ·rw [show bm=0 from z] at e1;cases e1
   ·rw [show bm=3 from z] at e2;cases e2
   ·exact absurd hT (Nat.not_le.mpr (z▸e3'))
  ·cases e4
 ·cases e
theorem At.more {env:Env} {cv cv':List (Str×V)} {σ:Ab} {φ':Mp} (h:At prog w LI env cv L F σ φ ca s) (le:φ.le φ') (nw:∀ b o,φ' b=some o→φ b=some o∨(s.heap.get? b=some o∧b∉ca∧b∉L::F∧b∉tabA))
  (hcv:∀ x v,cv'.lookup x=some v→∃ c o u,env.cells.lookup x=some c∧φ' c=some o∧o.data=.cell (some u)∧RV prog w LI φ' ca v u):At prog w LI env cv' L F σ φ' ca s:=by
 have no:∀ b,φ b=none→(b∈ca∨b∈L::F∨b∈tabA)→φ' b=none:=fun b hb hm=>by
  cases q:φ' b with
  | none=>rfl
  | some o =>
   rcases nw b o q with y | ⟨_,y1,y2,y3⟩
   ·rw [hb] at y;cases y
   ·rcases hm with z | z | z
    ·exact absurd z y1
    ·exact absurd z y2
    ·exact absurd z y3
 refine ⟨⟨fun b o e=>(nw b o e).elim (h.hp.fz b o) (·.1),fun b o e=>le _ _ (h.hp.kk b o e),fun P hP=>?_,h.hp.len,h.hp.nd,fun i c b e1 e2=>?_,fun b hb=>?_⟩,h.big,h.LF,?_,hcv⟩
 ·obtain ⟨a1,a2,a3,ps,a4,a5,a6⟩:=h.hp.tab P hP
  exact ⟨no P a1 (.inr (.inr hP)),a2,a3,ps,a4,a5,fun pos cv e=>let ⟨c,o,vs,t,y1,y2,y3⟩:=a6 pos cv e;⟨c,o,vs,t,y1,le _ _ y2,y3⟩⟩
 ·obtain ⟨a1,o,a2,a3⟩:=h.hp.cel i c b e1 e2
  exact ⟨a1,o,a2,a3.imp id fun ⟨p,r⟩=>⟨no b p (.inl (List.mem_of_getElem? e2)),r.mono le (List.prefix_refl _)⟩⟩
 ·obtain ⟨a1,a2⟩:=h.hp.frs b hb
  exact ⟨no b a1 (.inr (.inl hb)),a2⟩
 ·obtain ⟨m,hn,hl⟩:=h.fr
  exact ⟨m,hn,fun x v hx=>let ⟨u,h1,h2⟩:=hl x v hx;⟨u,h1,h2.mono le (List.prefix_refl _)⟩⟩
theorem Pst.tab {env:Env} {cv:List (Str×V)} {σ:Ab} {φ':Mp} {T:Addr} {ps':Array Value} {s':Shared} (h:At prog w LI env cv L F σ φ ca s) (hT:T∈tabA) (le:φ.le φ') (kp:∀ b o,b≠T→s.heap.get? b=some o→s'.heap.get? b=some o)
  (nw:∀ b o,φ' b=some o→φ b=some o∨(s.heap.get? b=none∧s'.heap.get? b=some o)) (ht:s'.heap.get? T=some (tabObj ps')) (hk:TriplesOk ps'.toList) (hc:∀ pos cv,codeAmong pos ps'.toList=some cv→CodeR φ' cv (tabQ T)) (sx:SameX s s') :
  Pst prog w LI env cv L F σ φ ca s φ' ca s':=by
 obtain ⟨t1,t2,t3,ps,t4,_⟩:=h.hp.tab T hT
 have no:∀ b o,φ b=none→s.heap.get? b=some o→φ' b=none:=fun b o hb hm=>by
  cases q:φ' b with
  | none=>rfl
  | some o' =>
   rcases nw b o' q with y | ⟨y,_⟩
   ·rw [hb] at y;cases y
   ·rw [hm] at y;cases y
 have neF:∀ b,b∈L::F→b≠T:=fun b hb z=>t3 (z▸hb)
 refine ⟨List.prefix_refl _,⟨le,fun b o e=>(nw b o e).imp id (·.1),fun b ⟨o,e⟩=>?_,fun b o e _ _ h3=>kp b o (fun z=>h3 (z▸hT)) e,fun b o e hb=>⟨o.slots,kp b o (neF b (.tail _ hb)) e⟩⟩,fun b hb=>.inl hb,
  ⟨⟨fun b o e=>?_,fun b o e=>le _ _ (h.hp.kk b o e),fun P hP=>?_,h.hp.len,h.hp.nd,fun i c b e1 e2=>?_,fun b hb=>?_⟩,h.big,h.LF,?_,fun x v hx=>?_⟩,sx⟩
 ·by_cases z:b=T
  ·exact ⟨_,z▸ht⟩
  ·exact ⟨o,kp b o z e⟩
 ·rcases nw b o e with y | y
  ·exact kp b o (fun z=>by rw [z,t1] at y;cases y) (h.hp.fz b o y)
  ·exact y.2
 ·obtain ⟨a1,a2,a3,qs,a4,a5,a6⟩:=h.hp.tab P hP
  by_cases z:P=T
  ·subst z
   exact ⟨no P _ a1 a4,a2,a3,ps',ht,hk,hc⟩
  ·exact ⟨no P _ a1 a4,a2,a3,qs,kp P _ z a4,a5,fun pos cv e=>let ⟨c,o,vs,t,y1,y2,y3⟩:=a6 pos cv e;⟨c,o,vs,t,y1,le _ _ y2,y3⟩⟩
 ·obtain ⟨a1,o,a2,a3⟩:=h.hp.cel i c b e1 e2
  exact ⟨a1,o,kp b o (fun z=>t2 (z▸List.mem_of_getElem? e2)) a2,a3.imp id fun ⟨p,r⟩=>⟨no b o p a2,r.mono le (List.prefix_refl _)⟩⟩
 ·obtain ⟨a1,o,a2,a3⟩:=h.hp.frs b hb
  exact ⟨no b o a1 a2,o,kp b o (neF b hb) a2,a3⟩
 ·obtain ⟨m,hn,hl⟩:=h.fr
  exact ⟨m,hn.extBut (fun b o hb e=>kp b o hb e) (neF L (.head _)),fun x v hx=>let ⟨u,h1,h2⟩:=hl x v hx;⟨u,h1,h2.mono le (List.prefix_refl _)⟩⟩
 ·obtain ⟨c,o',u,h1,h2,h3,h4⟩:=h.cv x v hx
  exact ⟨c,o',u,h1,le _ _ h2,h3,h4.mono le (List.prefix_refl _)⟩
theorem lam_op {f T i:Nat} {n:Nat} {cvs:List (Str×V)} {I:LamInfo} {σ:Ab} {clos:List (Str×Addr)} {us:List Value} {caps:List V} {pos:Pos} (hf:(f,T)∈hostL)
  (hI:LI i=some I) (hq:I.qual=tabQ T) (hq2:((fdat w.params f).qualname ++ ".<locals>.") ++ "<lambda>"= I.qual)
  (h:At prog w LI (eN ⟨n,(fdat w.params f).qualname,(fdat w.params f).scope,(fdat w.params f).code,cvs⟩ L a cl) cv L F σ φ ca s)
  (hdef:∀ env,defaultsOf I.params env=([],[])) (hcl:closureFor I.scope (eN ⟨n,(fdat w.params f).qualname,(fdat w.params f).scope,(fdat w.params f).code,cvs⟩ L a cl)=pure clos)
  (hcaps:clos.map (·.1)=I.caps) (hus:∀ (j:Nat) (x:Str) (b:Addr),clos[j]?=some (x,b)→∃ o u,φ b=some o∧o.data=.cell (some u)∧us[j]?=some u) (hul:us.length=clos.length) (hrv:RVs prog w LI φ ca caps us) :
  Goal prog w LI (eN ⟨n,(fdat w.params f).qualname,(fdat w.params f).scope,(fdat w.params f).code,cvs⟩ L a cl) cv L F (RVr prog w LI) (.ok (.lam i caps)) σ φ ca s
   (fun Q E=>wpAny (model prog w) A (eval (.Lambda I.params I.body I.scope pos) (eN ⟨n,(fdat w.params f).qualname,(fdat w.params f).scope,(fdat w.params f).code,cvs⟩ L a cl)) Q E s):=by
 have hTm:T∈tabA∧100≤T:=by
  rcases List.mem_cons.mp hf with e | hf
  ·cases e;decide
  ·rcases List.mem_cons.mp hf with e | hf
   ·cases e;decide
   ·rcases List.mem_cons.mp hf with e | hf
    ·cases e;decide
    ·cases hf
 have hch:=List.all_eq_true.mp (host_ok w.params) _ hf
 obtain ⟨c,hc,CH⟩:=chd_inv hch h.kin
 obtain ⟨t1,t2,t3,ps,t4,t5,t6⟩:=h.hp.tab T hTm.1
 have hg:=gns h.kin (g3 w.params)
 have hB:=mg_at h.kin (P:=w.params) hTm.2
 intro Q E k1 _
 refine kla_eval (hdef _) ?_
 rw [show (eN ⟨n,(fdat w.params f).qualname,(fdat w.params f).scope,(fdat w.params f).code,cvs⟩ L a cl).qual ++ "<lambda>"= I.qual from hq2]
 cases hca:codeAmong pos ps.toList with
 | some cv0 =>
  obtain ⟨c',oc,vs,t,rfl,y1,y2,y3⟩:=t6 pos cv0 hca
  refine kla_makeFunctionHit hcl rfl hg hc CH t4 t5 hca hB fun ctv h' tk hk hsz=>?_
  have nz:s.heap.get? h'.objs.size=none:=Heap.get?_none_of_le hsz
  have hφ:φ h'.objs.size=none:=by
   cases q:φ h'.objs.size with
   | none=>rfl
   | some o=>have:=h.hp.fz _ _ q;rw [nz] at this;cases this
  let lo:Obj:=kla_obj "<lambda>" I.qual I.params I.body I.scope clos ((gfind w.params 3 "__name__").getD .none) c' ctv
  have le:=put_le' (o:=lo) hφ
  have gs:(h'.push lo).get? h'.objs.size=some lo:=Heap.get?_push_size _ rfl
  refine k1 _ (φ.put h'.objs.size lo) ca _ _ rfl (Pst.tab h hTm.1 le (fun b o _ e=>Heap.get?_push_of_some _ (hk b o e)) (fun b o e=>?_) (Heap.get?_push_of_some _ (hk _ _ t4)) t5 (fun pos cv e=>let ⟨c,o,vs,t,y1,y2,y3⟩:=t6 pos cv e;⟨c,o,vs,t,y1,le _ _ y2,y3⟩) ⟨rfl,rfl,rfl⟩)
   (.lam hI (Mp.put_self _ _ _) (le _ _ y1) y2 (hq▸y3) hcaps (fun j x b e=>let ⟨o,u,z1,z2,z3⟩:=hus j x b e;⟨o,u,le _ _ z1,z2,z3⟩) hul (hrv.mono le (List.prefix_refl _)))
  by_cases z:b=h'.objs.size
  ·subst z;rw [Mp.put_self] at e;cases e;exact .inr ⟨nz,gs⟩
  ·rw [show φ.put h'.objs.size lo b=φ b from if_neg z] at e;exact .inl e
 | none =>
  have hgT:mainGlobals≠T:=fun z=>by have:(3:Nat)=T:=z;omega
  refine kla_makeFunction hcl rfl hg hc CH t4 t5 hca hgT hB fun c' ctv h' tk hx hge hlt hrec htb=>?_
  obtain ⟨c2,oc,vs,t,e2,y1,y2,y3⟩:=hrec
  cases e2
  have hsz:s.heap.objs.size≤h'.objs.size:=by omega
  have nz:∀ b,s.heap.objs.size≤b→s.heap.get? b=none:=fun b hb=>Heap.get?_none_of_le hb
  have hφ:∀ b,s.heap.objs.size≤b→φ b=none:=fun b hb=>by
   cases q:φ b with
   | none=>rfl
   | some o=>have:=h.hp.fz _ _ q;rw [nz b hb] at this;cases this
  let lo:Obj:=kla_obj "<lambda>" I.qual I.params I.body I.scope clos ((gfind w.params 3 "__name__").getD .none) c' ctv
  have ne:h'.objs.size≠c':=by omega
  have le1:=put_le' (o:=oc) (hφ c' hge)
  have hφ2:(φ.put c' oc) h'.objs.size=none:=(if_neg ne).trans (hφ _ hsz)
  have le2:=put_le' (o:=lo) hφ2
  have le:=le1.trans le2
  have gs:(h'.push lo).get? h'.objs.size=some lo:=Heap.get?_push_size _ rfl
  have gc:(h'.push lo).get? c'=some oc:=Heap.get?_push_of_some _ y1
  have pc:((φ.put c' oc).put h'.objs.size lo) c'=some oc:=le2 _ _ (Mp.put_self _ _ _)
  refine k1 _ ((φ.put c' oc).put h'.objs.size lo) ca _ _ rfl (Pst.tab h hTm.1 le (fun b o hb e=>Heap.get?_push_of_some _ (hx b o hb e)) (fun b o e=>?_) (Heap.get?_push_of_some _ htb) ?_ (fun pos' cv e=>?_) ⟨rfl,rfl,rfl⟩)
   (.lam hI (Mp.put_self _ _ _) pc y2 y3 hcaps (fun j x b e=>let ⟨o,u,z1,z2,z3⟩:=hus j x b e;⟨o,u,le _ _ z1,z2,z3⟩) hul (hrv.mono le (List.prefix_refl _)))
  ·by_cases z:b=h'.objs.size
   ·subst z;rw [Mp.put_self] at e;cases e;exact .inr ⟨nz _ hsz,gs⟩
   ·rw [show ((φ.put c' oc).put h'.objs.size lo) b=(φ.put c' oc) b from if_neg z] at e
    by_cases z':b=c'
    ·subst z';rw [Mp.put_self] at e;cases e;exact .inr ⟨nz _ hge,gc⟩
    ·rw [show φ.put c' oc b=φ b from if_neg z'] at e;exact .inl e
  ·rw [Array.toList_append];exact TriplesOk_snoc _ _ _ _ t5
  ·rw [Array.toList_append] at e
   rcases ca_snoc _ t5 e with q | rfl
   ·obtain ⟨c,o,vs,t,y1,y2,y3⟩:=t6 pos' cv q
    exact ⟨c,o,vs,t,y1,le _ _ y2,y3⟩
   ·exact ⟨c',oc,vs,t,rfl,pc,y2,hq▸y3⟩
end
def fdOkC (K:Frag) (d:FuncData):Bool:=Nat.beq d.globals 3&&Nat.beq d.builtins 0&&(d.scope.kind==.function)&&!d.scope.isCoroutine&&!d.scope.isGenerator&&d.closure.isEmpty&&codeIn K d.code d.qualname&&(match d.body with | .stmts _=>true | _=>false)
noncomputable def okFnC (P:Params) (f:Nat):Bool:=match (K P).lookup f with
 | some ⟨_,_,.func d,_⟩=>fdOkC (K P) d&&decide (((cellsFrom 0 d.scope.names []).map (·.1)).Nodup)
 | _=>false
def celL:List Nat:=[264,278,1085]
theorem cell_ok (P:Params):celL.all (okFnC P)=true:=by kernel_rfl
noncomputable def Gc (P:Params) (n f:Nat) (cvv:List (Str×V)):Gam:=⟨n,(fdat P f).qualname,(fdat P f).scope,(fdat P f).code,cvv⟩
theorem okFnC_inv {P:Params} {f:Nat} (h:okFnC P f=true):∃ oc od osl,(K P).lookup f=some ⟨oc,od,.func (fdat P f),osl⟩∧fdOkC (K P) (fdat P f)=true∧((cellsFrom 0 (fdat P f).scope.names []).map (·.1)).Nodup:=by
 unfold okFnC at h
 split at h
 ·rename_i oc od d osl q
  have:fdat P f=d:=by unfold fdat;rw [q]
  rw [Bool.and_eq_true,decide_eq_true_eq] at h
  rw [this];exact ⟨oc,od,osl,q,h⟩
 ·cases h
section
variable {prog:Program} {w:World} {LI:Nat→Option LamInfo}
theorem Hp.apart {F:List Addr} {φ:Mp} {ca:List Addr} {cells:List Cell} {h:Heap} (x:Hp prog w LI F φ ca cells h) {b:Addr} (no:h.get? b=none):φ b=none∧b∉ca∧b∉F∧b∉tabA :=
 ⟨opt_none fun o q=>nsm no (x.fz _ _ q),fun z=>(List.mem_iff_getElem?.mp z).elim fun i hi=>(x.cel i _ _ (List.getElem?_eq_getElem (by rw [←x.len];exact (List.getElem?_eq_some_iff.mp hi).1)) hi).2.elim fun o y=>nsm no y.1,
  fun z=>(x.frs _ z).2.elim fun o e=>nsm no e.1,fun z=>(x.tab _ z).2.2.2.elim fun ps e=>nsm no e.1⟩
noncomputable abbrev cLs (w:World) (f:Nat) (s:Shared):List (Str×Addr):=cellsFrom (s.heap.objs.size+1) (fdat w.params f).scope.names []
noncomputable abbrev cEn (w:World) (n f:Nat) (cvv:List (Str×V)) (s:Shared):Env:=eN (Gc w.params n f cvv) s.heap.objs.size f (cLs w f s)
noncomputable abbrev cIn (w:World) (f:Nat) (s:Shared) (binds:List (Str×Value)) (s':Shared):Prop:=InCallC s s.heap.objs.size (bindL (fun x=>(fdat w.params f).scope.names.lookup x) binds fun _=>none) (cLs w f s) (bindC (fun x=>(fdat w.params f).scope.names.lookup x) binds fun _=>none) s'
theorem cell_call {n f:Nat} {cvv:List (Str×V)} {A:Around} {outer:List Env} {F:List Addr} {φ:Mp} {ca:List Addr} {cells:List Cell} {s:Shared} {us:List Value} {ks binds:List (Str×Value)} {R:Result→Shared→Prop} (hf:f∈celL) (ok:Okk (n+3) A) (fr:A.frames=some outer) (fe:FunE outer F) (hp0:Hp prog w LI F φ ca cells s.heap)
  (hbt:BindsTo s (fdat w.params f) ⟨us,ks⟩ binds) (hkn:(binds.all fun y=>(fdat w.params f).scope.names.lookup y.1==some .local||(fdat w.params f).scope.names.lookup y.1==some .cell)=true)
  (k:∀ s',cIn w f s binds s'→(fdat w.params f).scope.kind=.function→Site s.heap.objs.size F (Gc w.params n f cvv) (A.deeper (cEn w n f cvv s)) f (cLs w f s) outer→wpAny (model prog w) (A.deeper (cEn w n f cvv s)) (execs (bodyOf (fdat w.params f)) (cEn w n f cvv s)) (fun fl s'=>R (.ok (.ret (match fl with | .ret v=>v | _=>.none))) s')
   (fun e s'=>wpAny (model prog w) (A.deeper (cEn w n f cvv s)) (leaving (cEn w n f cvv s) e) (fun _ s''=>R (.error e) s'') (fun e' s''=>R (.error e') s'') s') s'):codeAny (model prog w) A (.call (.ref f) ⟨us,ks⟩) R s :=
 (okFnC_inv (List.all_eq_true.mp (cell_ok w.params) f hf)).elim fun oc q=>q.elim fun od q=>q.elim fun osl q=>by
 have hok:=q.2.1
 unfold fdOkC at hok
 simp only [Bool.and_eq_true,Bool.not_eq_true'] at hok
 have hbody:(fdat w.params f).body=.stmts (bodyOf (fdat w.params f)):=by
  have e9:=hok.2
  unfold bodyOf
  cases q:(fdat w.params f).body with
  | stmts b=>rfl
  | expr b=>rw [q] at e9;exact absurd e9 Bool.false_ne_true
 have hkd:(fdat w.params f).scope.kind=.function:=beq_iff_eq.mp hok.1.1.1.1.1.2
 refine codeAny_call_function ok.lt.1 (hp0.kin _ _ q.1) rfl hok.1.1.1.1.2 hok.1.1.1.2 hbody (codeRec_of (K:=K w.params) hp0.kin hok.1.2) (hbt _ _ _ _ ?_)
 rw [List.isEmpty_iff.mp hok.1.1.2,Nat.eq_of_beq_eq_true hok.1.1.1.1.1.1.1,Nat.eq_of_beq_eq_true hok.1.1.1.1.1.1.2]
 refine wpAny_newFunctionEnv_cells hkd (kindsX hkn _) fun env' he s' x=>?_
 rw [he] at x ⊢
 exact ⟨(nolimit_of hp0.kin).keeps x.toInCall.keep,codeAny_func (k s' x hkd ⟨ok.deeper _,by show A.frames.map _=_;rw [fr];rfl,fe,hkd⟩)⟩
theorem fn_conC {n f m k:Nat} {loc cvv:List (Str×V)} {args:List V} {kw:List (Str×V)} {cells:List Cell} {tr:List Tr} {out:Res Fl} {r:Res V} {σ':Wt} {ps:List Prop}
  (hf:f∈celL)
  (hb:∀ (s:Shared) (us:List Value) (ks:List (Str×Value)) (φ:Mp) (ca:List Addr),KIn w.params s.heap→RVs prog w LI φ ca args us→RKs prog w LI φ ca kw ks →
   ∃ binds lb cb,BindsTo s (fdat w.params f) ⟨us,ks⟩ binds∧(binds.all fun y=>(fdat w.params f).scope.names.lookup y.1==some .local||(fdat w.params f).scope.names.lookup y.1==some .cell)=true ∧
    RKs prog w LI φ ca loc lb∧(∀ p∈lb,bindL (fun x=>(fdat w.params f).scope.names.lookup x) binds (fun _=>none) p.1=some p.2) ∧
    RKs prog w LI φ ca cvv cb∧(∀ p∈cb,bindC (fun x=>(fdat w.params f).scope.names.lookup x) binds (fun _=>none) p.1=some p.2∧(fdat w.params f).scope.names.lookup p.1=some .cell))
  (e:evBk (evM prog w LI (Gc w.params n f cvv) m k) (bodyOf (fdat w.params f)) ⟨loc,cells,tr⟩=some (out,σ',ps)) (hp:AllP ps)
  (hr:EndsN out r) (hc:∀ c,r=.err c→σ'.cells.length=cells.length∨∀ c∈σ'.cells.take cells.length,CloC c) :
  ConN prog w LI (n+3) (.fn f) cells args kw r σ'.cells:=fun A outer F φ ca s vf us ks ok fr fe hp0 rf ra rk Q E k1 k2 =>
 (hb s us ks φ ca hp0.kin ra rk).elim fun binds q=>q.elim fun lb q=>q.elim fun cb q=>by
 rw [rf.fn_inv]
 refine cell_call (cvv:=cvv) hf ok fr fe hp0 q.1 q.2.1 fun s' x hkd st=>?_
 have key:∀ b,(∃ y,(y,b)∈cLs w f s)→s.heap.get? b=none:=fun b z=>z.elim fun y hy=>Heap.get?_none_of_le (Nat.le_of_lt (x.above y b hy))
 let φ1:Mp:=fun b=>if b∈(cLs w f s).map (·.2) then s'.heap.get? b else φ b
 have le1:φ.le φ1:=fun b o e=>by
  by_cases z:b∈(cLs w f s).map (·.2)
  ·exact (if_pos z).trans (x.toInCall.keep b o (hp0.fz b o e))
  ·exact (if_neg z).trans e
 have nw:∀ b o,φ1 b=some o→φ b=some o∨(s'.heap.get? b=some o∧s.heap.get? b=none∧b∉s.heap.objs.size::F):=fun b o e=>by
  by_cases z:b∈(cLs w f s).map (·.2)
  ·exact (List.mem_map.mp z).elim fun p hp=>.inr ⟨(if_pos z).symm.trans e,hp.2▸key _ ⟨p.1,hp.1⟩,fun y=>(List.mem_cons.mp y).elim (fun y=>Nat.lt_irrefl _ (y▸hp.2▸x.above p.1 p.2 hp.1)) (hp0.apart (hp.2▸key _ ⟨p.1,hp.1⟩)).2.2.1⟩
  ·exact .inl ((if_neg z).symm.trans e)
 have at0:At prog w LI (cEn w n f cvv s) [] s.heap.objs.size F ⟨loc,cells⟩ φ ca s':=At.enter hp0 (fun y v hy=>(q.2.2.1.look hy).imp fun u h=>⟨q.2.2.2.1 _ (lookup_mem h.1),h.2⟩) x.toInCall.ns x.toInCall.keep rfl
 have at1:At prog w LI (cEn w n f cvv s) (Gc w.params n f cvv).cv s.heap.objs.size F ⟨loc,cells⟩ φ1 ca s' :=
  at0.more le1 (fun b o e=>(nw b o e).imp id fun z=>have y:=hp0.apart z.2.1;⟨z.1,y.2.1,z.2.2,y.2.2.2⟩) fun y v hy=>(q.2.2.2.2.1.look hy).elim fun u h =>
   have kk:=q.2.2.2.2.2 _ (lookup_mem h.1)
   (Option.isSome_iff_exists.mp (cellsFrom_some (fdat w.params f).scope.names (s.heap.objs.size+1) [] (.inl kk.2))).elim fun c hc=>(x.cell y c hc).elim fun o ho =>
    ⟨c,o,u,hc,(if_pos (List.mem_map_of_mem (f:=(·.2)) (lookup_mem hc))).trans ho.1,ho.2.trans (congrArg Data.cell kk.1),h.2.mono le1 (List.prefix_refl _)⟩
 have sx1:SameX s s':=x.toInCall.same.elim fun h z=>z.elim fun tk z=>by rw [z];exact ⟨rfl,rfl,rfl⟩
 exact run_frame (val:=fun fl=>match fl with | .ret v=>v | _=>.none) flow_val hr hkd fr fe hp0 at1.LF x.toInCall.keep le1 (fun b o q=>(nw b o q).imp id (·.2.1)) sx1 (evBk_sound (evM_sound m k) e hp _ f _ _ F outer st φ1 ca s' at1) hc k1 k2
theorem caps_look {φ:Mp} {ca:List Addr} {x:Str} {v:V} {clos:List (Str×Addr)}:∀ {names:List Str} {caps:List V} {us:List Value},clos.map (·.1)=names→RVs prog w LI φ ca caps us→(names.zip caps).lookup x=some v →
  ∃ (j:Nat) (b:Addr) (u:Value),clos.lookup x=some b∧clos[j]?=some (x,b)∧us[j]?=some u∧RV prog w LI φ ca v u:=by
 induction clos with
 | nil=>exact fun e _ h=>nsm rfl (e▸h)
 | cons p clos ih =>
  intro names caps us e r h
  rw [←e] at h
  cases caps with
  | nil=>exact nsm rfl h
  | cons c caps =>
   refine r.uncons.elim fun u q=>q.elim fun us' q=>?_
   rw [List.map_cons,List.zip_cons_cons,List.lookup_cons] at h
   rw [List.lookup_cons,q.1]
   cases z:(x==p.1) with
   | true=>rw [z] at h;exact ⟨0,p.2,u,rfl,by rw [eq_of_beq z];rfl,rfl,Option.some.inj h▸q.2.1⟩
   | false=>rw [z] at h;exact (ih rfl q.2.2 h).elim fun j k=>⟨j+1,k⟩
theorem lam_con {i n m:Nat} {I:LamInfo} {caps:List V} {names:List Str} {args:List V} {cells cs:List Cell} {tr:List Tr} {r:Res V} {ps:List Prop} (hI:LI i=some I)
  (hs:((I.scope.kind==.function)&&!I.scope.isCoroutine&&!I.scope.isGenerator&&I.scope.names.all (fun x=>x.2 !=.cell)&&names.all fun x=>I.scope.names.lookup x==some .local)=true)
  (hb:∀ clos pm cdv ct (us:List Value),us.length=names.length→bindArgs (kla_fn "<lambda>" I.qual I.params I.body I.scope clos pm cdv ct) ⟨us,[]⟩=pure (names.zip us)) (hl:args.length=names.length)
  (e:∀ cd,((evN prog w LI ⟨n,I.qual,I.scope,cd,I.caps.zip caps⟩ m).1 I.body ⟨(names.zip args).reverse,cells,tr⟩).map (fun r=>(r.1,r.2.1.cells,r.2.2))=some (r,cs,ps)) (hp:AllP ps)
  (hc:∀ c,r=.err c→cs.length=cells.length∨∀ c∈cs.take cells.length,CloC c) :
  ConN prog w LI (n+3) (.lam i caps) cells args [] r cs:=by
 intro A outer F φ ca s vf us ks ok fr fe hp0 rf ra rk Q E k1 k2
 cases rk
 cases rf with
 | inst e'=>cases e'
 | tup e'=>cases e'
 | lst e'=>cases e'
 | lam hI' hf hco hdo hvs hcn hcl hul hrv =>
  rename_i f clos pm c oc t ct I' vs ws
  rw [hI] at hI'
  cases hI'
  simp only [Bool.and_eq_true] at hs
  obtain ⟨⟨⟨⟨s1,s2⟩,s3⟩,s4⟩,s5⟩:=hs
  have hkd:I.scope.kind=.function:=beq_iff_eq.mp s1
  obtain ⟨⟨o,σ',p⟩,h1,h2⟩:=Option.map_eq_some_iff.mp (e (.ref c))
  cases h2
  refine kla_callFunE ok.lt.1 (hp0.fz _ _ hf) rfl (by simpa using s2) (by simpa using s3) rfl ⟨c,oc,vs,t,rfl,hp0.fz _ _ hco,hdo,hvs⟩ ?_
  rw [hb _ _ _ _ us (ra.len.trans hl)]
  refine wpAny_pure (wpAny_newFunctionEnv (fun x hx=>by have:=List.all_eq_true.mp s4 x hx;simpa using this) (fun x hx=>beq_iff_eq.mp (List.all_eq_true.mp s5 x.1 (List.of_mem_zip hx).1)) (fun h₁ hns hsb=>?_) hkd)
  have hk:∀ b o,s.heap.get? b=some o→h₁.get? b=some o:=fun b o q=>(hsb.2 b (Nat.ne_of_lt (Heap.lt_size q))).trans (Heap.get?_push_of_some _ q)
  refine ⟨(nolimit_of hp0.kin).keeps hk,kla_codeExpr ?_⟩
  have at0:At prog w LI (eN ⟨n,I.qual,I.scope,.ref c,I.caps.zip caps⟩ s.heap.objs.size f clos) [] s.heap.objs.size F ⟨(names.zip args).reverse,cells⟩ φ ca { s with heap:=h₁,toks:=s.toks+(names.zip us).length } :=
   At.enter hp0 (fun y v hy=>(RVs.zip names ra).rev.look hy) hns hk rfl
  have at1:At prog w LI (eN ⟨n,I.qual,I.scope,.ref c,I.caps.zip caps⟩ s.heap.objs.size f clos) (I.caps.zip caps) s.heap.objs.size F ⟨(names.zip args).reverse,cells⟩ φ ca { s with heap:=h₁,toks:=s.toks+(names.zip us).length } :=
   at0.more (Mp.le.refl _) (fun b o q=>.inl q) (fun y v hy=>by
    obtain ⟨j,b,u,z1,z2,z3,z4⟩:=caps_look hcn hrv hy
    obtain ⟨o,u',y1,y2,y3⟩:=hcl j y b z2
    rw [z3] at y3
    cases y3
    exact ⟨b,o,u,z1,y1,y2,z4⟩)
  have frd:(A.deeper (eN ⟨n,I.qual,I.scope,.ref c,I.caps.zip caps⟩ s.heap.objs.size f clos)).frames=some (eN ⟨n,I.qual,I.scope,.ref c,I.caps.zip caps⟩ s.heap.objs.size f clos::outer):=by
   show A.frames.map _=_;rw [fr];rfl
  have st:Site s.heap.objs.size F ⟨n,I.qual,I.scope,.ref c,I.caps.zip caps⟩ (A.deeper (eN ⟨n,I.qual,I.scope,.ref c,I.caps.zip caps⟩ s.heap.objs.size f clos)) f clos outer:=⟨ok.deeper _,frd,fe,hkd⟩
  exact run_frame (Γ:=⟨n,I.qual,I.scope,.ref c,I.caps.zip caps⟩) (s₁:={ s with heap:=h₁,toks:=s.toks+(names.zip us).length }) (val:=fun v=>v) (vb:=fun v=>some v) (R:=RVr prog w LI) (fun b v φ ca u q rr=>by cases q;exact rr)
   (show EndsG _ o o by cases o<;>rfl) hkd fr fe hp0 at0.LF hk (Mp.le.refl _) (fun _ _ q=>.inl q) ⟨rfl,rfl,rfl⟩ ((evN_sound m).1 _ f clos _ F outer st I.body ⟨(names.zip args).reverse,cells,tr⟩ o σ' p h1 hp φ ca _ at1) hc k1 k2
end
noncomputable def scOk (scope:Scope) (x:Str):Bool:=scope.names.all (fun y=>y.2 !=.cell)&&(scope.kind==.function)&&scope.names.all (fun y=>y.2 !=.local||scope.names.lookup y.1==some .local)&&(scope.names.lookup x==some .local)&&!(x==("__debug__": Str))
section
variable {prog:Program} {w:World} {LI:Nat→Option LamInfo} {Γ:Gam} {A:Around} {a:Addr} {cl:List (Str×Addr)} {L:Addr} {F:List Addr} {outer:List Env} {φ:Mp} {ca:List Addr} {s:Shared}
theorem Pst.grow {env:Env} {cv:List (Str×V)} {σ:Ab} {φ':Mp} {s':Shared} (h:At prog w LI env cv L F σ φ ca s) (le:φ.le φ') (k:∀ b o,s.heap.get? b=some o→s'.heap.get? b=some o)
  (nw:∀ b o,φ' b=some o→φ b=some o∨(s.heap.get? b=none∧s'.heap.get? b=some o)) (sx:SameX s s'):Pst prog w LI env cv L F σ φ ca s φ' ca s':=by
 refine ⟨List.prefix_refl _,⟨le,fun b x q=>(nw b x q).imp id (·.1),fun b ⟨x,q⟩=>⟨x,k b x q⟩,fun b x q _ _ _=>k b x q,fun b x q _=>⟨x.slots,k b x q⟩⟩,fun b q=>.inl q,
  ⟨h.hp.keeps (fun b x q _=>k b x q) (fun b x q _ hd=>⟨x,k b x q,hd⟩) le nw,h.big,h.LF,?_,fun x v hx=>?_⟩,sx⟩
 ·obtain ⟨m,hn,hl⟩:=h.fr
  exact ⟨m,hn.keeps k,fun x v hx=>let ⟨u,h1,h2⟩:=hl x v hx;⟨u,h1,h2.mono le (List.prefix_refl _)⟩⟩
 ·obtain ⟨c,o',u,h1,h2,h3,h4⟩:=h.cv x v hx
  exact ⟨c,o',u,h1,le _ _ h2,h3,h4.mono le (List.prefix_refl _)⟩
theorem RVs.filt {pu:Value→Bool} {pv:V→Bool}:∀ {vs:List V} {us:List Value},RVs prog w LI φ ca vs us→(∀ v∈vs,∀ u,RV prog w LI φ ca v u→pu u=pv v)→RVs prog w LI φ ca (vs.filter pv) (us.filter pu)
 | _,_,.nil,_=>.nil
 | _,_,.cons (v:=v) (u:=u) a b,h=>by
  have ih:=b.filt fun v hv=>h v (.tail _ hv)
  rw [List.filter_cons,List.filter_cons,h v (.head _) u a]
  split
  ·exact .cons a ih
  ·exact ih
theorem paired_eq:∀ {l l':List Value},Paired (fun v y=>y=v) l l'→l'=l
 | _,_,.nil=>rfl
 | _,_,.cons h t=>by rw [h,paired_eq t]
theorem comp_op (S:Site L F Γ A a cl outer) {k:Nat} {x:Str} {px p1 pos:Pos} {iter c:Expr} {scope:Scope} {cl':List (Str×Addr)} {σ σ₁:Wt} {ps:List Prop} {v r:V} {vs:List V} (pu:Value→Bool) (pv:V→Bool)
  (hclos:closureFor scope (eN Γ L a cl)=pure cl') (hsc:scOk scope x=true)
  (e:(evN prog w LI Γ k).1 iter σ=some (.ok v,σ₁,ps)) (hp:AllP ps) (hv:v.elems=some vs) (hl:vs.length<1000000) (hr:r.elems=some (vs.filter pv)) (hi:∀ y,foldedSetIterable iter (eN Γ L a cl) y=pure y)
  (h:At prog w LI (eN Γ L a cl) Γ.cv L F σ.ab φ ca s)
  (hpu:∀ φ ca v,v∈vs→∀ u,RV prog w LI φ ca v u→pu u=pv v)
  (test:∀ (φ:Mp) (ca:List Addr) (v:V) (u:Value) (C:Addr) (s₃:Shared) (m₃:Str→Option Value) (E':Value→Shared→Prop) (ex:φ.le φ),v∈vs→RV prog w LI φ ca v u→(∀ b o,φ b=some o→s₃.heap.get? b=some o)→(∀ b o,(K w.params).lookup b=some o→φ b=some o)→s₃.heap.Ns C m₃→m₃ x=some u →
   (∀ y w',Γ.cv.lookup y=some w'→∃ c o u,cl.lookup y=some c∧φ c=some o∧o.data=.cell (some u)∧RV prog w LI φ ca w' u) →
   wpAny (model prog w) A (isTrue c (compEnvC scope cl' C (eN Γ L a cl)) (eval c (compEnvC scope cl' C (eN Γ L a cl)))) (fun ok s₄=>ok=pv v∧PySem.Keeps s₃ s₄) E' s₃) :
  Goal prog w LI (eN Γ L a cl) Γ.cv L F (RVr prog w LI) (.ok r) σ₁.ab φ ca s (fun Q E=>wpAny (model prog w) A (eval (.ListComp (.Name x p1) [⟨.Name x px,iter,[c],0⟩] scope pos) (eN Γ L a cl)) Q E s):=by
 unfold scOk at hsc
 simp only [Bool.and_eq_true] at hsc
 obtain ⟨⟨⟨⟨h1,h2⟩,h3⟩,h4⟩,h5⟩:=hsc
 intro Q E k1 _
 refine wpAny_ListComp_free (cl:=cl') pu (fun v y=>y=v) hclos (fun y hy=>by have:=List.all_eq_true.mp h1 y hy;simpa using this) (beq_iff_eq.mp h2)
  (fun y hy hyl=>by have:=List.all_eq_true.mp h3 y hy;rw [hyl] at this;simpa using this) (beq_iff_eq.mp h4) ?_ hi
 refine (evN_sound k).1 A a cl L F outer S iter σ _ σ₁ ps e hp φ ca s h _ _ (fun b' φ₁ ca₁ xv s₁ eb pst rr=>?_) (fun c φ' ca' v' s' eo=>by cases eo)
 cases eb
 obtain ⟨us,ax,n,rfl,rs,hφ⟩:=rr.elems_inv hv
 have hL0:s₁.heap.IsList ax us.toArray:=⟨_,pst.at_.hp.fz _ _ hφ,rfl,_,rfl⟩
 have hax:ax<s₁.heap.objs.size:=Heap.lt_size (pst.at_.hp.fz _ _ hφ)
 have kI:∀ {s₃:Shared},(∀ b o,b∉[s₁.heap.objs.size]→(s₁.heap.push { cls:=.type "list_iterator", data:=.fields #[.ref ax,.int 0 0] }).get? b=some o→s₃.heap.get? b=some o)→∀ b o,s₁.heap.get? b=some o→s₃.heap.get? b=some o :=
  fun hk b o e=>hk b o (fun hm=>by rcases List.mem_cons.mp hm with rfl | hm;exact Nat.lt_irrefl _ (Heap.lt_size e);cases hm) (Heap.get?_push_of_some _ e)
 have it:∀ i u,us.toArray[i]?=some u→∃ v,v∈vs∧RV prog w LI φ₁ ca₁ v u:=fun i u hu=>by
  have hi:i<vs.length:=by rw [←rs.len];have:=(Array.getElem?_eq_some_iff.mp hu).1;simpa using this
  obtain ⟨u',hu',r'⟩:=rs.get (List.getElem?_eq_getElem hi)
  rw [show us.toArray[i]?=us[i]? from by simp,hu'] at hu
  cases hu
  exact ⟨_,List.getElem_mem hi,r'⟩
 refine wpAny_pyIter_list hL0 ⟨s₁.heap.objs.size,[s₁.heap.objs.size,ax],[s₁.heap.objs.size],us.toArray.size,_,_,rfl,Walks.list S.ok.1 _ _ (Nat.ne_of_lt hax) us.toArray,by rw [List.size_toArray,rs.len];have:sizeLine=16777216:=rfl;omega,⟨⟨_,Heap.get?_push_size _ rfl,rfl,rfl⟩,hL0.push _⟩,?_,⟨?_,?_⟩,?_⟩
 ·intro b hb
  show b<(s₁.heap.push _).objs.size
  rw [Heap.size_push]
  rcases List.mem_cons.mp hb with rfl | hb
  ·exact Nat.lt_succ_self _
  ·rcases List.mem_cons.mp hb with rfl | hb
   ·exact Nat.lt_succ_of_lt hax
   ·cases hb
 ·intro C i u s₃ m₃ E' _ hP hn hm hk _
  obtain ⟨v',hv',r'⟩:=it i u hP
  refine wpAny_tests_one ?_
  rw [hpu φ₁ ca₁ v' hv' u r']
  exact test φ₁ ca₁ v' u C s₃ m₃ E' (Mp.le.refl _) hv' r' (fun b o q=>kI hk b o (pst.at_.hp.fz b o q)) pst.at_.hp.kk hn hm pst.at_.cv
 ·intro C i u s₃ m₃ E' _ hP _ hn hm hk _
  have hxl:(relabel scope (eN Γ L a cl)).names.lookup x=some .local:=lookup_relabel_local (beq_iff_eq.mp h4)
  exact wpAny_Name (wpAny_loadName_local (env:=compEnvC scope cl' C (eN Γ L a cl)) (beq_iff_eq.mp h2) hxl hn hm ⟨rfl,s₃.heap,s₃.toks,rfl,fun _ _ e=>e⟩) (by simpa using h5)
 ·intro D h' tk ys us' hD _ hpl hlen hP hF hk
  have eus:us'=us:=by
   refine List.ext_getElem? fun j=>?_
   cases q:us'[j]? with
   | some u=>have:=hP j u q;simpa using this.symm
   | none =>
    have:us'.length≤j:=List.getElem?_eq_none_iff.mp q
    rw [hlen,List.size_toArray] at this
    exact (List.getElem?_eq_none_iff.mpr this).symm
  subst eus
  have eys:=paired_eq hF
  obtain ⟨n',hn'⟩:=hpl
  have nD:s₁.heap.get? D=none:=by
   cases q:s₁.heap.get? D with
   | none=>rfl
   | some o=>rw [Heap.get?_push_of_some _ q] at hD;cases hD
  have hφD:φ₁ D=none:=by
   cases q:φ₁ D with
   | none=>rfl
   | some o=>have:=pst.at_.hp.fz _ _ q;rw [nD] at this;cases this
  have kp:∀ b o,s₁.heap.get? b=some o→h'.get? b=some o:=kI (s₃:={ s₁ with heap:=h' }) hk
  have ey:ys=(us'.filter pu).toArray:=by rw [←eys]
  rw [ey] at hn'
  have hle:φ₁.le (φ₁.put D (listOf (us'.filter pu).toArray n')):=fun b o q=>by
   unfold Mp.put
   by_cases z:b=D
   ·subst z;rw [hφD] at q;cases q
   ·rw [if_neg z];exact q
  have p2:Pst prog w LI (eN Γ L a cl) Γ.cv L F σ₁.ab φ₁ ca₁ s₁ (φ₁.put D (listOf (us'.filter pu).toArray n')) ca₁ { s₁ with heap:=h',toks:=tk } :=
   Pst.grow pst.at_ hle kp (fun b o q=>by
    unfold Mp.put at q
    by_cases z:b=D
    ·rw [if_pos z] at q;cases q;subst z;exact .inr ⟨nD,hn'⟩
    ·rw [if_neg z] at q;exact .inl q) ⟨rfl,rfl,rfl⟩
  exact k1 r _ ca₁ (.ref D) _ rfl (pst.trans p2) (.lst hr ((rs.filt (hpu φ₁ ca₁)).mono hle (List.prefix_refl _)) (Mp.put_self _ _ _))
end
theorem F60 (P:Params):FnS P 60 ["parts"]:=by
 refine ⟨by kernel_rfl,by kernel_rfl,fun s us _ h=>?_⟩
 obtain ⟨a,rfl⟩:=len1 h
 refine BindsTo.of_eq ?_
 kernel_rfl
theorem F112 (P:Params):FnS P 112 ["self","other"]:=by
 refine ⟨by kernel_rfl,by kernel_rfl,fun s us _ h=>?_⟩
 obtain ⟨a,b,rfl⟩:=len2 h
 refine BindsTo.of_eq ?_
 kernel_rfl
theorem F256 (P:Params):FnS P 256 ["self","bindings"]:=by
 refine ⟨by kernel_rfl,by kernel_rfl,fun s us _ h=>?_⟩
 obtain ⟨a,b,rfl⟩:=len2 h
 refine BindsTo.of_eq ?_
 kernel_rfl
theorem F283 (P:Params):FnS P 283 ["self"]:=by
 refine ⟨by kernel_rfl,by kernel_rfl,fun s us _ h=>?_⟩
 obtain ⟨a,rfl⟩:=len1 h
 refine BindsTo.of_eq ?_
 kernel_rfl
theorem F290 (P:Params):FnS P 290 ["self"]:=by
 refine ⟨by kernel_rfl,by kernel_rfl,fun s us _ h=>?_⟩
 obtain ⟨a,rfl⟩:=len1 h
 refine BindsTo.of_eq ?_
 kernel_rfl
theorem F351 (P:Params):FnS P 351 ["self"]:=by
 refine ⟨by kernel_rfl,by kernel_rfl,fun s us _ h=>?_⟩
 obtain ⟨a,rfl⟩:=len1 h
 refine BindsTo.of_eq ?_
 kernel_rfl
theorem F358 (P:Params):FnS P 358 ["self","parts"]:=by
 refine ⟨by kernel_rfl,by kernel_rfl,fun s us _ h=>?_⟩
 obtain ⟨a,b,rfl⟩:=len2 h
 refine BindsTo.of_eq ?_
 kernel_rfl
theorem F365 (P:Params):FnS P 365 ["self"]:=by
 refine ⟨by kernel_rfl,by kernel_rfl,fun s us _ h=>?_⟩
 obtain ⟨a,rfl⟩:=len1 h
 refine BindsTo.of_eq ?_
 kernel_rfl
theorem F372 (P:Params):FnS P 372 ["self"]:=by
 refine ⟨by kernel_rfl,by kernel_rfl,fun s us _ h=>?_⟩
 obtain ⟨a,rfl⟩:=len1 h
 refine BindsTo.of_eq ?_
 kernel_rfl
theorem F379 (P:Params):FnS P 379 ["self","function","combinator"]:=by
 refine ⟨by kernel_rfl,by kernel_rfl,fun s us _ h=>?_⟩
 obtain ⟨a,b,c,rfl⟩:=len3 h
 refine BindsTo.of_eq ?_
 kernel_rfl
theorem F386 (P:Params):FnS P 386 ["self","other"]:=by
 refine ⟨by kernel_rfl,by kernel_rfl,fun s us _ h=>?_⟩
 obtain ⟨a,b,rfl⟩:=len2 h
 refine BindsTo.of_eq ?_
 kernel_rfl
theorem F449 (P:Params):FnS P 449 ["self"]:=by
 refine ⟨by kernel_rfl,by kernel_rfl,fun s us _ h=>?_⟩
 obtain ⟨a,rfl⟩:=len1 h
 refine BindsTo.of_eq ?_
 kernel_rfl
theorem F464 (P:Params):FnS P 464 ["self"]:=by
 refine ⟨by kernel_rfl,by kernel_rfl,fun s us _ h=>?_⟩
 obtain ⟨a,rfl⟩:=len1 h
 refine BindsTo.of_eq ?_
 kernel_rfl
theorem F471 (P:Params):FnS P 471 ["self","other"]:=by
 refine ⟨by kernel_rfl,by kernel_rfl,fun s us _ h=>?_⟩
 obtain ⟨a,b,rfl⟩:=len2 h
 refine BindsTo.of_eq ?_
 kernel_rfl
theorem F504 (P:Params):FnS P 504 ["self"]:=by
 refine ⟨by kernel_rfl,by kernel_rfl,fun s us _ h=>?_⟩
 obtain ⟨a,rfl⟩:=len1 h
 refine BindsTo.of_eq ?_
 kernel_rfl
theorem F511 (P:Params):FnS P 511 ["self"]:=by
 refine ⟨by kernel_rfl,by kernel_rfl,fun s us _ h=>?_⟩
 obtain ⟨a,rfl⟩:=len1 h
 refine BindsTo.of_eq ?_
 kernel_rfl
theorem F568 (P:Params):FnS P 568 ["self"]:=by
 refine ⟨by kernel_rfl,by kernel_rfl,fun s us _ h=>?_⟩
 obtain ⟨a,rfl⟩:=len1 h
 refine BindsTo.of_eq ?_
 kernel_rfl
theorem F575 (P:Params):FnS P 575 ["self"]:=by
 refine ⟨by kernel_rfl,by kernel_rfl,fun s us _ h=>?_⟩
 obtain ⟨a,rfl⟩:=len1 h
 refine BindsTo.of_eq ?_
 kernel_rfl
theorem F587 (P:Params):FnS P 587 ["variable"]:=by
 refine ⟨by kernel_rfl,by kernel_rfl,fun s us _ h=>?_⟩
 obtain ⟨a,rfl⟩:=len1 h
 refine BindsTo.of_eq ?_
 kernel_rfl
theorem F946 (P:Params):FnS P 946 ["expr","letters"]:=by
 refine ⟨by kernel_rfl,by kernel_rfl,fun s us _ h=>?_⟩
 obtain ⟨a,b,rfl⟩:=len2 h
 refine BindsTo.of_eq ?_
 kernel_rfl
theorem F953 (P:Params):FnS P 953 ["expr"]:=by
 refine ⟨by kernel_rfl,by kernel_rfl,fun s us _ h=>?_⟩
 obtain ⟨a,rfl⟩:=len1 h
 refine BindsTo.of_eq ?_
 kernel_rfl
theorem F960 (P:Params):FnS P 960 ["expr"]:=by
 refine ⟨by kernel_rfl,by kernel_rfl,fun s us _ h=>?_⟩
 obtain ⟨a,rfl⟩:=len1 h
 refine BindsTo.of_eq ?_
 kernel_rfl
theorem F967 (P:Params):FnS P 967 ["expr"]:=by
 refine ⟨by kernel_rfl,by kernel_rfl,fun s us _ h=>?_⟩
 obtain ⟨a,rfl⟩:=len1 h
 refine BindsTo.of_eq ?_
 kernel_rfl
theorem F989 (P:Params):FnS P 989 ["self","variable","binding"]:=by
 refine ⟨by kernel_rfl,by kernel_rfl,fun s us _ h=>?_⟩
 obtain ⟨a,b,c,rfl⟩:=len3 h
 refine BindsTo.of_eq ?_
 kernel_rfl
theorem F996 (P:Params):FnS P 996 ["self","variable"]:=by
 refine ⟨by kernel_rfl,by kernel_rfl,fun s us _ h=>?_⟩
 obtain ⟨a,b,rfl⟩:=len2 h
 refine BindsTo.of_eq ?_
 kernel_rfl
theorem F1003 (P:Params):FnS P 1003 ["self","item"]:=by
 refine ⟨by kernel_rfl,by kernel_rfl,fun s us _ h=>?_⟩
 obtain ⟨a,b,rfl⟩:=len2 h
 refine BindsTo.of_eq ?_
 kernel_rfl
theorem F1010 (P:Params):FnS P 1010 ["self","other"]:=by
 refine ⟨by kernel_rfl,by kernel_rfl,fun s us _ h=>?_⟩
 obtain ⟨a,b,rfl⟩:=len2 h
 refine BindsTo.of_eq ?_
 kernel_rfl
theorem F1039 (P:Params):FnS P 1039 ["var","expression","bindings"]:=by
 refine ⟨by kernel_rfl,by kernel_rfl,fun s us _ h=>?_⟩
 obtain ⟨a,b,c,rfl⟩:=len3 h
 refine BindsTo.of_eq ?_
 kernel_rfl
theorem F1059 (P:Params):FnS P 1059 ["numbers","kind"]:=by
 refine ⟨by kernel_rfl,by kernel_rfl,fun s us _ h=>?_⟩
 obtain ⟨a,b,rfl⟩:=len2 h
 refine BindsTo.of_eq ?_
 kernel_rfl
theorem F1066 (P:Params):FnS P 1066 ["tree"]:=by
 refine ⟨by kernel_rfl,by kernel_rfl,fun s us _ h=>?_⟩
 obtain ⟨a,rfl⟩:=len1 h
 refine BindsTo.of_eq ?_
 kernel_rfl
theorem F1073 (P:Params):FnS P 1073 ["e"]:=by
 refine ⟨by kernel_rfl,by kernel_rfl,fun s us _ h=>?_⟩
 obtain ⟨a,rfl⟩:=len1 h
 refine BindsTo.of_eq ?_
 kernel_rfl
theorem F1080 (P:Params):FnS P 1080 ["tree","bound"]:=by
 refine ⟨by kernel_rfl,by kernel_rfl,fun s us _ h=>?_⟩
 obtain ⟨a,b,rfl⟩:=len2 h
 refine BindsTo.of_eq ?_
 kernel_rfl
theorem F1092 (P:Params):FnS P 1092 ["one","other"]:=by
 refine ⟨by kernel_rfl,by kernel_rfl,fun s us _ h=>?_⟩
 obtain ⟨a,b,rfl⟩:=len2 h
 refine BindsTo.of_eq ?_
 kernel_rfl
theorem F1099 (P:Params):FnS P 1099 ["tree","order"]:=by
 refine ⟨by kernel_rfl,by kernel_rfl,fun s us _ h=>?_⟩
 obtain ⟨a,b,rfl⟩:=len2 h
 refine BindsTo.of_eq ?_
 kernel_rfl
theorem F1106 (P:Params):FnS P 1106 ["script"]:=by
 refine ⟨by kernel_rfl,by kernel_rfl,fun s us _ h=>?_⟩
 obtain ⟨a,rfl⟩:=len1 h
 refine BindsTo.of_eq ?_
 kernel_rfl
theorem F105 (P:Params):FnS P 105 ["self","name"]:=by
 refine ⟨by kernel_rfl,by kernel_rfl,fun s us _ h=>?_⟩
 obtain ⟨a,b,rfl⟩:=len2 h
 refine BindsTo.of_eq ?_
 kernel_rfl
theorem F442 (P:Params):FnS P 442 ["self","variable"]:=by
 refine ⟨by kernel_rfl,by kernel_rfl,fun s us _ h=>?_⟩
 obtain ⟨a,b,rfl⟩:=len2 h
 refine BindsTo.of_eq ?_
 kernel_rfl
theorem F344 (P:Params):FnS P 344 ["self","function","argument"]:=by
 refine ⟨by kernel_rfl,by kernel_rfl,fun s us _ h=>?_⟩
 obtain ⟨a,b,c,rfl⟩:=len3 h
 refine BindsTo.of_eq ?_
 kernel_rfl
def clsL:List (Nat×Nat):=[(129,105),(514,442),(578,442),(426,344),(1020,982)]
noncomputable def clsOk (P:Params) (p:Nat×Nat):Bool:=makesIn (K P) p.1&&(findIn (K P) (.ref p.1) "__init__"== some (some (.ref p.2)))&&isFn (K P) (.ref p.2)
theorem cls_ok (P:Params):clsL.all (clsOk P)=true:=by kernel_rfl
theorem uc_weight (C:Nat) (us:List Value):(Code.builtin "type.__call__" ⟨.ref C::us,[]⟩).weight=1:=by kernel_rfl
theorem uc_units (C:Nat) (us:List Value):(Code.builtin "type.__call__" ⟨.ref C::us,[]⟩).cUnits=1:=by kernel_rfl
theorem uc_envs (C:Nat) (us:List Value):(Code.builtin "type.__call__" ⟨.ref C::us,[]⟩).envs=[]:=by kernel_rfl
theorem under_call {n C:Nat} {us:List Value} {A:Around} (h:Okk (n+1) A):Okk n (A.under (.builtin "type.__call__" ⟨.ref C::us,[]⟩))∧(A.under (.builtin "type.__call__" ⟨.ref C::us,[]⟩)).frames=A.frames:=by
 obtain ⟨h0,h1,h2⟩:=h
 unfold Around.under Okk
 rw [uc_weight,uc_units,uc_envs]
 exact ⟨⟨h0,by show A.depth+1+3 * n≤990;omega,by show A.units+1+12 * n≤9800;omega⟩,rfl⟩
section
variable {prog:Program} {w:World} {LI:Nat→Option LamInfo}
theorem cls_conN {n C fI:Nat} {args:List V} {cells':List Cell} (hC:(C,fI)∈clsL)
  (hi:ConN prog w LI n (.fn fI) [.flds []] (.raw C 0::args) [] (.ok .none) cells') (ha:CloVs args):ConN prog w LI (n+1) (.fn C) [] args [] (.ok (.raw C 0)) cells':=by
 intro A outer F φ ca s vf us ks ok fr fe hp0 rf ra rk Q E k1 k2
 obtain rfl:=rf.fn_inv
 cases rk
 have hca:ca=[]:=List.eq_nil_of_length_eq_zero hp0.len
 subst hca
 have okC:=List.all_eq_true.mp (cls_ok w.params) _ hC
 unfold clsOk at okC
 rw [Bool.and_eq_true,Bool.and_eq_true] at okC
 obtain ⟨⟨o1,o2⟩,o3⟩:=okC
 obtain ⟨hh,g,d,t,os⟩:=s
 obtain ⟨okU,frU⟩:=under_call (C:=C) (us:=us) ok
 let h2:Heap:=(hh.push emptyDict).push (instObj C hh.objs.size)
 have kp:∀ b o,hh.get? b=some o→h2.get? b=some o:=fun b o e=>Heap.get?_push_of_some _ (Heap.get?_push_of_some _ e)
 have gd:h2.get? hh.objs.size=some emptyDict:=Heap.get?_push_of_some _ (Heap.get?_push_size _ rfl)
 have gx:h2.get? (hh.objs.size+1)=some (instObj C hh.objs.size):=by
  have:=Heap.get?_push_size (hh.push emptyDict) (o:=instObj C hh.objs.size) rfl
  rwa [Heap.size_push] at this
 have n0:∀ b,hh.objs.size≤b→hh.get? b=none:=fun b hb=>Heap.get?_none_of_le hb
 have φn:∀ b,hh.objs.size≤b→φ b=none:=fun b hb=>by
  cases q:φ b with
  | none=>rfl
  | some o=>have:=hp0.fz _ _ q;rw [n0 b hb] at this;cases this
 have lt:∀ {b:Addr} {o:Obj},hh.get? b=some o→b<hh.objs.size:=fun q=>Heap.lt_size q
 let φ2:Mp:=φ.put (hh.objs.size+1) (instObj C hh.objs.size)
 have le2:φ.le φ2:=put_le' (φn _ (Nat.le_succ _))
 have new2:∀ b o,φ2 b=some o→φ b=some o∨(hh.get? b=none∧h2.get? b=some o):=fun b o q=>by
  show _∨_
  by_cases z:b=hh.objs.size+1
  ·subst z
   have:φ2 (hh.objs.size+1)=some (instObj C hh.objs.size):=Mp.put_self _ _ _
   rw [this] at q;cases q
   exact .inr ⟨n0 _ (Nat.le_succ _),gx⟩
  ·have:φ2 b=φ b:=if_neg z
   rw [this] at q;exact .inl q
 have hp1:Hp prog w LI F φ2 [] [] h2:=hp0.keeps (fun b o e _=>kp b o e) (fun b o e _ hd=>⟨o,kp b o e,hd⟩) le2 new2
 have hp2:Hp prog w LI F φ2 [hh.objs.size] [.flds []] h2:=by
  refine ⟨hp1.fz,hp1.kk,fun P hP=>?_,rfl,by simp,fun i c b e1 e2=>?_,hp1.frs⟩
  ·obtain ⟨a1,a2,a3,ps,a4,a5⟩:=hp0.tab P hP
   obtain ⟨b1,b2,b3⟩:=hp1.tab P hP
   refine ⟨b1,fun z=>?_,b3⟩
   rcases List.mem_cons.mp z with rfl | z
   ·exact absurd (lt a4) (Nat.lt_irrefl _)
   ·cases z
  ·cases i with
   | succ i=>cases e1
   | zero =>
    cases e1;cases e2
    refine ⟨fun z=>?_,emptyDict,gd,.inr ⟨?_,[],0,rfl,.nil⟩⟩
    ·obtain ⟨_,o,y,_⟩:=hp0.frs _ z
     exact absurd (lt y) (Nat.lt_irrefl _)
    ·have:φ2 hh.objs.size=φ hh.objs.size:=if_neg (Nat.ne_of_lt (Nat.lt_succ_self _))
     rw [this];exact φn _ (Nat.le_refl _)
 refine (make_core (makes_of hp0.kin o1) (looks_findIn hp0.kin (beq_iff_eq.mp o2)) (fun self=>bind_fn hp0.kin self (beq_iff_eq.mp o3)) (.inl rfl) ?_)
 refine codeAny_mono (hi (A.under (.builtin "type.__call__" ⟨.ref C::us,[]⟩)) outer F φ2 [hh.objs.size] ⟨h2,g,d,t,os⟩ (.ref fI) (.ref (hh.objs.size+1)::us) [] okU (frU.trans fr) fe hp2 .fn (.cons (.raw (Mp.put_self _ _ _) rfl) ((ha _ _ _ _ _ _ ra).mono le2 List.nil_prefix)) .nil
  (fun v' s'=>v'=.none∧Q (.ref (hh.objs.size+1)) s') E ?_ (fun c φ' e s' eo=>by cases eo)) ?_
 ·intro b φ' ca' v' s' eo pre fresh st hq sx r
  cases eo
  have hb0:∀ b,h2.get? b=none→hh.get? b=none:=fun b q=>by
   cases y:hh.get? b with
   | none=>rfl
   | some o'=>rw [kp b o' y] at q;cases q
  refine ⟨r.none_inv,k1 _ φ' ca' _ s' rfl List.nil_prefix (fun a ha=>.inr ?_) ⟨le2.trans st.le,fun b o e=>?_,fun b ⟨o,e⟩=>st.alive b ⟨o,kp b o e⟩,fun b o e _ hF ht=>st.keep b o (kp b o e) (fun z=>?_) hF ht,fun b o e hF=>st.up b o (kp b o e) hF⟩ hq sx
   (.raw (st.le _ _ (Mp.put_self _ _ _)) (pre_get pre rfl))⟩
  ·rcases fresh a ha with q | q
   ·rcases List.mem_cons.mp q with rfl | q
    ·exact n0 _ (Nat.le_refl _)
    ·cases q
   ·exact hb0 a q
  ·rcases st.new b o e with q | q
   ·exact (new2 b o q).imp id (·.1)
   ·exact .inr (hb0 b q)
  ·rcases List.mem_cons.mp z with rfl | z
   ·exact absurd (lt e) (Nat.lt_irrefl _)
   ·cases z
 ·intro r s' hr
  cases r with
  | ok fl=>cases fl<;>first | exact hr | exact hr.elim
  | error e=>exact hr
theorem Con.toN {n:Nat} {f:V} {cells cells':List Cell} {args:List V} {kw:List (Str×V)} {r:V} (h:Con prog w LI n f cells args kw (.ok r) cells'):ConN prog w LI n f cells args kw (.ok r) cells':=by
 intro A outer F φ ca s vf us ks ok fr fe hp0 rf ra rk Q E k1 k2
 exact h A outer F φ ca s vf us ks ok fr fe hp0 rf ra rk Q E (fun b φ' v s' eo st hp sx rv=>k1 b φ' ca v s' eo (List.prefix_refl _) (fun a ha=>.inl ha) st hp sx rv) (fun c φ' e s' eo=>by cases eo)
theorem ConN.inst {n C:Nat} {f v:V} {args:List V} {fs:List (Str×V)} (x:ConN prog w LI n f [] args [] (.ok (.raw C 0)) [.flds fs]) (hv:v.inst=some (C,fs)) (hcl:∀ p∈fs,CloV p.2):Con prog w LI n f [] args [] (.ok v) []:=by
 intro A outer F φ ca s vf us ks ok fr fe hp0 rf ra rk Q E k1 k2
 refine x A outer F φ ca s vf us ks ok fr fe hp0 rf ra rk Q E (fun b φ' ca' u s' eo pre fresh st hp sx rv=>?_) (fun c φ' e s' eo=>by cases eo)
 cases eo
 have hca:ca=[]:=List.eq_nil_of_length_eq_zero hp0.len
 subst hca
 obtain ⟨a,o,ha,hF,hT,ho,hφ,es,ne,rfl,rs⟩:=hp.cell_at (k:=0) rfl (by intro z;cases z)
 have hd:=hp.drop pre (.inr nofun)
 have le:=put_le' (o:=dictOf es ne) hφ
 cases rv with
 | raw h1 h2 =>
  rw [ha] at h2
  cases h2
  exact k1 v _ _ s' rfl (st.put hφ (new_ne _ fresh ha nofun)) (hd.freeze hφ nofun hF hT ho) sx (.inst hv (le _ _ h1) (Mp.put_self _ _ _) ((clo_fields hcl rs).mono le List.nil_prefix))
 | inst e'=>cases e'
 | tup e'=>cases e'
 | lst e'=>cases e'
theorem cls_con {n C fI:Nat} {args:List V} {v:V} {fs:List (Str×V)} (hC:(C,fI)∈clsL) (hv:v.inst=some (C,fs)) (hcl:∀ p∈fs,CloV p.2)
  (hi:Con prog w LI n (.fn fI) [.flds []] (.raw C 0::args) [] (.ok .none) [.flds fs]) (ha:CloVs args):Con prog w LI (n+1) (.fn C) [] args [] (.ok v) [] :=
 (cls_conN hC hi.toN ha).inst hv hcl
end
theorem mxL (n c f a k:Nat):n+c * f+k≤n+c * max f a+k:=Nat.add_le_add_right (Nat.add_le_add_left (Nat.mul_le_mul_left _ (Nat.le_max_left ..)) _) _
theorem mxR (n c f a k:Nat):n+c * a+k≤n+c * max f a+k:=Nat.add_le_add_right (Nat.add_le_add_left (Nat.mul_le_mul_left _ (Nat.le_max_right ..)) _) _
theorem mx0 {j k:Nat} (n m:Nat) (h:j≤k):n+j≤n+m+k:=Nat.add_le_add (Nat.le_add_right ..) h
theorem mx3 (n m k:Nat):n+3 * m+k+3≤n+3 * (m+1)+k:=by omega
theorem mx_le {a b c d:Nat} (h:a≤c) (k:b≤d):max a b≤max c d:=Nat.max_le.mpr ⟨Nat.le_trans h (Nat.le_max_left ..),Nat.le_trans k (Nat.le_max_right ..)⟩
theorem mxS {h f g x y:Nat} (k:h≤max f g):h≤max (max f x+1) (max g y+1):=Nat.le_trans k (mx_le (Nat.le_succ_of_le (Nat.le_max_left ..)) (Nat.le_succ_of_le (Nat.le_max_left ..)))
theorem mxT {h f g x y:Nat} (k:h≤max x y):h≤max (max f x+1) (max g y+1):=Nat.le_trans k (mx_le (Nat.le_succ_of_le (Nat.le_max_right ..)) (Nat.le_succ_of_le (Nat.le_max_right ..)))
theorem mxs {x a b:Nat} (q:x≤max a b):x+1≤max (a+1) (b+1):=by rw [Nat.add_max_add_right];exact Nat.succ_le_succ q
theorem ltL {f a b:Nat} (h:f+a<b):f<b:=Nat.lt_of_le_of_lt (Nat.le_add_right ..) h
theorem ltR {f a b:Nat} (h:f+a<b):a<b:=Nat.lt_of_le_of_lt (Nat.le_add_left ..) h
theorem lt2 {f a f' a' b:Nat} (h:f+a<b) (k:f'≤f) (l:a'≤a):f'+a'<b:=Nat.lt_of_le_of_lt (Nat.add_le_add k l) h
theorem hL {f x H:Nat} (h:max f x+1≤H):f≤H:=Nat.le_trans (Nat.le_max_left ..) (Nat.le_of_succ_le h)
theorem hR {f x H:Nat} (h:max f x+1≤H):x≤H:=Nat.le_trans (Nat.le_max_right ..) (Nat.le_of_succ_le h)
section
variable {prog:Program} {w:World} {LI:Nat→Option LamInfo}
theorem FnS.run {n f:Nat} {names:List Str} (F:FnS w.params f names) (args:List V) (cells:List Cell) (tr:List Tr) {out:Res Fl} {r:Res V} {cs:List Cell} {ps:List Prop}
  (hl:args.length=names.length)
  (e:((evBk (evM prog w LI (Gf w.params n f) 40 40) (bodyAt w.params f) ⟨(names.zip args).reverse,cells,tr⟩).map fun r=>(r.1,r.2.1.cells,r.2.2))=some (out,cs,ps)) (hp:AllP ps) (hr:Ends out r)
  (hc:cs.length=cells.length∨∀ c∈cs.take cells.length,CloC c):Con prog w LI (n+3) (.fn f) cells args [] r (cs.take cells.length):=by
 obtain ⟨⟨o,σ',p⟩,h1,h2⟩:=Option.map_eq_some_iff.mp e
 cases h2
 exact F.con 40 40 args cells tr hl h1 hp hr hc
theorem FnS.runN {n f:Nat} {names:List Str} (F:FnS w.params f names) (args:List V) (cells:List Cell) (tr:List Tr) {out:Res Fl} {r:Res V} {cs:List Cell} {ps:List Prop}
  (hl:args.length=names.length)
  (e:((evBk (evM prog w LI (Gf w.params n f) 40 40) (bodyAt w.params f) ⟨(names.zip args).reverse,cells,tr⟩).map fun r=>(r.1,r.2.1.cells,r.2.2))=some (out,cs,ps)) (hp:AllP ps) (hr:EndsN out r)
  (hc:∀ c,r=.err c→cs.length=cells.length∨∀ c∈cs.take cells.length,CloC c):ConN prog w LI (n+3) (.fn f) cells args [] r cs:=by
 obtain ⟨⟨o,σ',p⟩,h1,h2⟩:=Option.map_eq_some_iff.mp e
 cases h2
 exact fn_con F.pl F.nm (fun s us k h=>F.bd s us k (h.trans hl)) h1 hp hr hc
theorem FnS.runC {n f m:Nat} {names:List Str} (F:FnS w.params f names) (r:Res V) (args:List V) (cells cs:List Cell) (tr:List Tr) {out:Res Fl} {ps:List Prop} (hp:AllP ps) (hr:Ends out r) (hm:n+3≤m)
  (hl:args.length=names.length) (hc:cs.length=cells.length)
  (e:((evBk (evM prog w LI (Gf w.params n f) 40 40) (bodyAt w.params f) ⟨(names.zip args).reverse,cells,tr⟩).map fun r=>(r.1,r.2.1.cells,r.2.2))=some (out,cs,ps)):Con prog w LI m (.fn f) cells args [] r cs:=by
 have:=F.run args cells tr hl e hp hr (.inl hc)
 rw [←hc,List.take_length] at this
 exact this.mono hm
theorem FnS.run0 {n f:Nat} {names:List Str} (F:FnS w.params f names) (args:List V) (tr:List Tr) {out:Res Fl} {r:Res V} {cs:List Cell} {ps:List Prop}
  (hl:args.length=names.length)
  (e:((evBk (evM prog w LI (Gf w.params n f) 40 40) (bodyAt w.params f) ⟨(names.zip args).reverse,[],tr⟩).map fun r=>(r.1,r.2.1.cells,r.2.2))=some (out,cs,ps)) (hp:AllP ps) (hr:Ends out r) :
  Con prog w LI (n+3) (.fn f) [] args [] r []:=F.run args [] tr hl e hp hr (.inr (by intro c h;cases h))
theorem P0:AllP []:=trivial
theorem P1 {p:Prop} (h:p):AllP [p]:=⟨h,trivial⟩
theorem P2 {p q:Prop} (h:p) (k:q):AllP [p,q]:=⟨h,k,trivial⟩
theorem P3 {p q r:Prop} (h:p) (k:q) (l:r):AllP [p,q,r]:=⟨h,k,l,trivial⟩
theorem PC {p:Prop} {ps:List Prop} (h:p) (k:AllP ps):AllP (p::ps):=⟨h,k⟩
theorem FnS.ret0 {n f m:Nat} {names:List Str} (F:FnS w.params f names) (b:V) (args:List V) (tr:List Tr) {ps:List Prop} {cs:List Cell} (hp:AllP ps) (hb:CloV b) (hm:n+3≤m) (hl:args.length=names.length)
  (e:((evBk (evM prog w LI (Gf w.params n f) 40 40) (bodyAt w.params f) ⟨(names.zip args).reverse,[],tr⟩).map fun r=>(r.1,r.2.1.cells,r.2.2))=some (.ok (.ret b),cs,ps)) :
  Con prog w LI m (.fn f) [] args [] (.ok b) []:=(F.run0 args tr hl e hp (r:=.ok b) ⟨rfl,hb⟩).mono hm
end
section
variable {prog:Program} {w:World} {LI:Nat→Option LamInfo} {Γ:Gam} {A:Around} {a:Addr} {cl:List (Str×Addr)} {L:Addr} {F:List Addr} {outer:List Env} {φ:Mp} {ca:List Addr} {s:Shared}
theorem Pst.apart {env:Env} {cv:List (Str×V)} {σ:Ab} {φ':Mp} {ca':List Addr} {I:Addr} {o:Obj} {s':Shared} (p:Pst prog w LI env cv L F σ φ ca s φ' ca' s') (ap:Apart L F φ ca I) (e:s.heap.get? I=some o):Apart L F φ' ca' I∧s'.heap.get? I=some o :=
 ⟨⟨opt_none fun o' q=>(p.stp.new I o' q).elim (nsm ap.f) fun y=>nsm y e,fun z=>(p.fresh I z).elim ap.c fun y=>nsm y e,ap.l,ap.F,ap.t⟩,p.stp.keep I o e (fun z=>(List.mem_cons.mp z).elim ap.l ap.c) ap.F ap.t⟩
theorem apart_new {env:Env} {cv:List (Str×V)} {σ:Ab} (h:At prog w LI env cv L F σ φ ca s):Apart L F φ ca s.heap.objs.size:=apart_none h (Heap.get?_none_of_le (Nat.le_refl _))
theorem At.weak {env:Env} {cv:List (Str×V)} {σ:Ab} {loc':List (Str×V)} (h:At prog w LI env cv L F σ φ ca s) (k:∀ x v,loc'.lookup x=some v→σ.loc.lookup x=some v):At prog w LI env cv L F ⟨loc',σ.cells⟩ φ ca s :=
 ⟨h.hp,h.big,h.LF,let ⟨m,hn,hl⟩:=h.fr;⟨m,hn,fun x v e=>hl x v (k x v e)⟩,h.cv⟩
theorem Pst.weak {env:Env} {cv:List (Str×V)} {σ:Ab} {φ':Mp} {ca':List Addr} {s':Shared} {loc':List (Str×V)} (p:Pst prog w LI env cv L F σ φ ca s φ' ca' s') (k:∀ x v,loc'.lookup x=some v→σ.loc.lookup x=some v) :
  Pst prog w LI env cv L F ⟨loc',σ.cells⟩ φ ca s φ' ca' s':=⟨p.pre,p.stp,p.fresh,p.at_.weak k,p.same⟩
inductive Loop (prog:Program) (w:World) (LI:Nat→Option LamInfo) (Γ:Gam) (b:V→List (Str×V)) (body:List Stmt):List V→Ab→Res Fl→Ab→Prop
 | nil {σ}:Loop prog w LI Γ b body [] σ (.ok .next) σ
 | next {v vs σ fl σ₁ loc out σ₂}:SemB prog w LI Γ body ⟨b v++σ.loc,σ.cells⟩ (.ok fl) σ₁→(fl=.next∨fl=.cont)→(∀ y u,loc.lookup y=some u→σ₁.loc.lookup y=some u)→Loop prog w LI Γ b body vs ⟨loc,σ₁.cells⟩ out σ₂→Loop prog w LI Γ b body (v::vs) σ out σ₂
 | ret {v vs σ u σ₁}:SemB prog w LI Γ body ⟨b v++σ.loc,σ.cells⟩ (.ok (.ret u)) σ₁→Loop prog w LI Γ b body (v::vs) σ (.ok (.ret u)) σ₁
 | err {v vs σ c σ₁}:SemB prog w LI Γ body ⟨b v++σ.loc,σ.cells⟩ (.err c) σ₁→(∀ c∈σ₁.cells,c≠.gone)→Loop prog w LI Γ b body (v::vs) σ (.err c) σ₁
theorem Loop.nil_inv {b:V→List (Str×V)} {body:List Stmt} {σ σ':Ab} {out:Res Fl} (lp:Loop prog w LI Γ b body [] σ out σ'):out=.ok .next∧σ'=σ:=by
 cases lp;exact ⟨rfl,rfl⟩
theorem Loop.step {P:Prop} {b:V→List (Str×V)} {body:List Stmt} {v:V} {vs:List V} {σ σ':Ab} {out:Res Fl} (lp:Loop prog w LI Γ b body (v::vs) σ out σ')
  (h1:∀ fl σ₁ loc,SemB prog w LI Γ body ⟨b v++σ.loc,σ.cells⟩ (.ok fl) σ₁→(fl=.next∨fl=.cont)→(∀ y u,loc.lookup y=some u→σ₁.loc.lookup y=some u)→Loop prog w LI Γ b body vs ⟨loc,σ₁.cells⟩ out σ'→P)
  (h2:∀ u,SemB prog w LI Γ body ⟨b v++σ.loc,σ.cells⟩ (.ok (.ret u)) σ'→out=.ok (.ret u)→P) (h3:∀ c,SemB prog w LI Γ body ⟨b v++σ.loc,σ.cells⟩ (.err c) σ'→(∀ c∈σ'.cells,c≠.gone)→out=.err c→P):P:=by
 cases lp with
 | next a b c d=>exact h1 _ _ _ a b c d
 | ret a=>exact h2 _ a rfl
 | err a b=>exact h3 _ a b rfl
structure Iter (prog:Program) (w:World) (LI:Nat→Option LamInfo) (A:Around) (env:Env) (cv:List (Str×V)) (L:Addr) (F:List Addr) (φ₀:Mp) (ca₀:List Addr) (I:Addr) (vs:List V) (It:Heap→Nat→Prop):Prop where
 stay:∀ h h' i o,h.get? I=some o→h'.get? I=some o→It h i→It h' i
 obj:∀ h i,It h i→∃ o,h.get? I=some o
 item:∀ σ φ ca s i v,At prog w LI env cv L F σ φ ca s→φ₀.le φ→ca₀ <+: ca→It s.heap i→vs[i]?=some v→∀ (Q:Option Value→Shared→Prop) (E:Value→Shared→Prop),
  (∀ u h₁ tk,RV prog w LI φ ca v u→It h₁ (i+1)→Heap.SameBut I s.heap h₁→Q (some u) { s with heap:=h₁,toks:=tk })→wpAny (model prog w) A (pyNext (.ref I)) Q E s
 fin:∀ σ φ ca s i,At prog w LI env cv L F σ φ ca s→φ₀.le φ→ca₀ <+: ca→It s.heap i→vs[i]?=none→∀ (Q:Option Value→Shared→Prop) (E:Value→Shared→Prop),
  (∀ h₁ tk,Heap.ExtBut I s.heap h₁→Q none { s with heap:=h₁,toks:=tk })→wpAny (model prog w) A (pyNext (.ref I)) Q E s
def Binds (prog:Program) (w:World) (LI:Nat→Option LamInfo) (Γ:Gam) (target:Expr) (b:V→List (Str×V)) (v:V):Prop:=∀ A a cl L F outer,Site L F Γ A a cl outer→∀ σ φ ca s u,At prog w LI (eN Γ L a cl) Γ.cv L F σ φ ca s→RV prog w LI φ ca v u →
 Goal prog w LI (eN Γ L a cl) Γ.cv L F (fun (_:Unit) _ _ (_:Unit)=>True) (.ok ()) ⟨b v++σ.loc,σ.cells⟩ φ ca s (fun Q E=>wpAny (model prog w) A (assign target (eN Γ L a cl) u) Q E s)
theorem SemB.ok_ {body:List Stmt} {σ σ':Ab} {fl:Fl} (sb:SemB prog w LI Γ body σ (.ok fl) σ') (S:Site L F Γ A a cl outer) (h:At prog w LI (eN Γ L a cl) Γ.cv L F σ φ ca s) {Q:Flow→Shared→Prop} {E:Value→Shared→Prop}
  (k:∀ φ' ca' g s',Pst prog w LI (eN Γ L a cl) Γ.cv L F σ' φ ca s φ' ca' s'→RFr prog w LI fl φ' ca' g→Q g s'):wpAny (model prog w) A (execs body (eN Γ L a cl)) Q E s:=(sb A a cl L F outer S φ ca s h).ok_ k
def FI (prog:Program) (w:World) (LI:Nat→Option LamInfo) (Γ:Gam) (a:Addr) (cl:List (Str×Addr)) (L:Addr) (F:List Addr) (φ:Mp) (ca:List Addr) (s₀:Shared) (I:Addr) (It:Heap→Nat→Prop) (b:V→List (Str×V)) (body:List Stmt) (vs:List V) (out:Res Fl) (σ':Ab) (k:Nat) (s':Shared):Prop :=
 ∃ i φ₁ ca₁ σ₁,k=vs.length+1 - i∧i≤vs.length∧Pst prog w LI (eN Γ L a cl) Γ.cv L F σ₁ φ ca s₀ φ₁ ca₁ s'∧Apart L F φ₁ ca₁ I∧It s'.heap i∧Loop prog w LI Γ b body (vs.drop i) σ₁ out σ'
theorem drop_at {α:Type} {vs:List α} {i:Nat} {v:α} (hv:vs[i]?=some v):vs.drop i=v::vs.drop (i+1) :=
 (List.getElem?_eq_some_iff.mp hv).elim fun h1 h2=>h2▸List.drop_eq_getElem_cons h1
theorem drop_no {α:Type} {vs:List α} {i:Nat} (hv:vs[i]?=none):vs.drop i=[]:=List.drop_eq_nil_of_le (List.getElem?_eq_none_iff.mp hv)
theorem Mk.tb {fl:Value} {h₀ h:Heap} {cls:V} {ev:Value} (x:Mk prog w LI fl φ h₀ cls ev h):∃ e oe vs T,ev=.ref e∧h.get? e=some oe∧oe.data=.fields vs∧vs[1]?=some (.ref T) :=
 x.imp fun e x=>x.imp fun oe x=>x.imp fun vs x=>x.elim fun a0 x=>x.elim fun cl x=>x.imp fun T x=>x.elim fun oT x=>x.elim fun ts x=>⟨x.1,x.2.1,x.2.2.2.2.1,x.2.2.2.2.2.2.2.2.1⟩
theorem back_op {σ:Ab} {c:V} {ev:Value} {s₀:Shared} {φ':Mp} {ca':List Addr} (S:Site L F Γ A a cl outer) {σ₀:Ab} (h:At prog w LI (eN Γ L a cl) Γ.cv L F σ₀ φ ca s₀) (p:Pst prog w LI (eN Γ L a cl) Γ.cv L F σ φ ca s₀ φ' ca' s) (hg:∀ c∈σ.cells,c≠.gone)
  (x:Ex prog w LI (some L) φ' s₀.heap c ev s.heap) {E:Value→Shared→Prop} (k:∀ s',Pst prog w LI (eN Γ L a cl) Γ.cv L F σ φ ca s₀ φ' ca' s'→Ex prog w LI (some L) φ' s₀.heap c ev s'.heap→E ev s') :
  notedBy (model prog w) A (eN Γ L a cl) (fun e s'=>cameBackBy (model prog w) A (eN Γ L a cl) E e s') ev s :=
 noted_op S h p hg x fun s₄ p4 mk4=>by
  refine mk4.tb.elim fun e x=>x.elim fun oe x=>x.elim fun vs' x=>x.elim fun T x=>?_
  rw [x.1] at mk4 ⊢
  unfold cameBackBy
  refine wpAny_bind (wpAny_field x.2.1 x.2.2.1 x.2.2.2 ?_)
  rw [if_neg nofun]
  exact land_op (f:=some L) rfl h p4 hg mk4 fun s₅ p5 mk5=>x.1▸k _ p5 (x.1▸mk5.ex)
theorem flow_ends {fl:Fl} {g:Flow} {φ:Mp} {ca:List Addr} {P B:Prop} {R:Value→Prop} (hfl:fl=.next∨fl=.cont) (rf:RFr prog w LI fl φ ca g) (p:P):(match (generalizing:=false) g with | .next | .cont=>P | .brk=>B | .ret v=>R v) :=
 hfl.elim (fun e=>by subst e;rw [rf.next_inv];exact p) fun e=>by subst e;rw [rf.cont_inv];exact p
theorem for_gen (S:Site L F Γ A a cl outer) {target:Expr} {b:V→List (Str×V)} {body:List Stmt} {vs:List V} {σ σ':Ab} {out:Res Fl} {I:Addr} {It:Heap→Nat→Prop} {s₀:Shared}
  (hgo:∀ (s:Shared) (i:Nat) (u:Value) (Q:Unit→Shared→Prop) (E:Value→Shared→Prop),It s.heap i→Q () s→wpAny (model prog w) A (letOwnedTupleGo target (.ref I) u) Q E s) (hb:∀ v∈vs,Binds prog w LI Γ target b v)
  (h:At prog w LI (eN Γ L a cl) Γ.cv L F σ φ ca s₀) (ap0:Apart L F φ ca I) (n0:s₀.heap.get? I=none) (k0:∀ b o,s₀.heap.get? b=some o→s.heap.get? b=some o) (sx0:SameX s₀ s)
  (J:Iter prog w LI A (eN Γ L a cl) Γ.cv L F φ ca I vs It) (i0:It s.heap 0) (lp:Loop prog w LI Γ b body vs σ out σ') :
  Goal prog w LI (eN Γ L a cl) Γ.cv L F (RFr prog w LI) out σ' φ ca s₀ (fun Q E=>codeAny (model prog w) A (.forLoop target (.ref I) body [] (eN Γ L a cl))
   (fun r s'=>match r with | .ok f=>Q f s' | .error e=>cameBackBy (model prog w) A (eN Γ L a cl) E e s') s):=fun Q E k1 k2 =>
 codeAny_forLoop_any (FI prog w LI Γ a cl L F φ ca s₀ I It b body vs out σ') (fun k s' x=>x.elim fun i x=>x.elim fun φ₁ x=>x.elim fun ca₁ x=>x.elim fun σ₁ x=>by
  have pst:=x.2.2.1
  have ap:=x.2.2.2.1
  have lpi:=x.2.2.2.2.2
  cases hv:vs[i]? with
  | none =>
   rw [drop_no hv] at lpi
   have z:=lpi.nil_inv
   rw [←z.2] at pst
   exact J.fin _ _ _ _ i pst.at_ pst.stp.le pst.pre x.2.2.2.2.1 hv _ _ fun h₁ tk he₁=>wpAny_execs_nil (k1 .next φ₁ ca₁ .next _ z.1 (pst.touch ap n0 he₁ ⟨rfl,rfl,rfl⟩) trivial)
  | some v =>
   refine J.item _ _ _ _ i v pst.at_ pst.stp.le pst.pre x.2.2.2.2.1 hv _ _ fun u h₁ tk ru hit₁ hs₁=>?_
   have p1:=pst.touch (s':={ s' with heap:=h₁,toks:=tk }) ap n0 (fun b o hb e=>(hs₁.2 b hb).trans e) ⟨rfl,rfl,rfl⟩
   rw [drop_at hv] at lpi
   refine (J.obj _ _ hit₁).elim fun oI hoI=>hgo { s' with heap:=h₁,toks:=tk } (i+1) u _ _ hit₁ ((hb v (List.mem_of_getElem? hv) A a cl L F outer S _ _ _ _ u p1.at_ ru).ok_ fun φ₂ ca₂ _ s₂ pst₂ _=>?_)
   have ap2:=pst₂.apart ap hoI
   have hit2:It s₂.heap (i+1):=J.stay _ _ _ _ hoI ap2.2 hit₁
   have p2:=p1.trans pst₂
   exact lpi.step
    (fun fl σ₃ loc sb hfl hloc rest=>sb.ok_ S pst₂.at_ fun φ₃ ca₃ g s₃ p3 rf =>
     have ap3:=p3.apart ap2.1 ap2.2
     flow_ends hfl rf ⟨vs.length - i,x.1▸Nat.lt_of_lt_of_eq (Nat.lt_succ_self _) (Nat.succ_sub x.2.1).symm,i+1,φ₃,ca₃,_,(Nat.add_sub_add_right ..).symm,(List.getElem?_eq_some_iff.mp hv).1,(p2.trans p3).weak hloc,ap3.1,J.stay _ _ _ _ ap2.2 ap3.2 hit2,rest⟩)
    (fun u' sb ho=>sb.ok_ S pst₂.at_ fun φ₃ ca₃ g s₃ p3 rf=>rf.ret_inv.elim fun z k=>by rw [k.1];exact k1 _ φ₃ ca₃ (.ret z) s₃ ho (p2.trans p3) k.2)
    fun c sb hg ho=>(sb A a cl L F outer S φ₂ ca₂ s₂ pst₂.at_).er_ fun φ₃ ca₃ ev s₃ pst₃ ex=>back_op S h (p2.trans pst₃) hg (ex.back fun b hb=>p2.stp.alive b hb) fun s₅ p5 x5=>k2 _ _ _ _ _ ho p5 x5)
  (vs.length+1) ⟨0,φ,ca,σ,rfl,Nat.zero_le _,(Pst.refl h).touch ap0 n0 (fun b o _ e=>k0 b o e) sx0,ap0,i0,lp⟩
theorem binds_name {x:Str} {px:Pos} (hx:Γ.cs.names.lookup x=some .local) (v:V):Binds prog w LI Γ (.Name x px) (fun v=>[(x,v)]) v:=by
 intro A a cl L F outer S σ φ ca s u h r
 exact (store_op S hx h r).map fun Q E q=>wpAny_assign_Name q
noncomputable def pairB (x y:Str) (v:V):List (Str×V):=match v.items with
 | some [a,b]=>[(y,b),(x,a)]
 | _=>[]
theorem binds_pair {x y:Str} {px py pos:Pos} {k:Nat} (hx:Γ.cs.names.lookup x=some .local) (hy:Γ.cs.names.lookup y=some .local) {v vx vy:V} (hv:v.items=some [vx,vy]):Binds prog w LI Γ (.Tuple [.Name x px,.Name y py] k pos) (pairB x y) v:=by
 intro A a cl L F outer S σ φ ca s u h r
 have e:pairB x y v=[(y,vy),(x,vx)]:=by unfold pairB;rw [hv]
 rw [e]
 exact unpack2_op S hx hy hv h r
theorem iter_list {env:Env} {cv:List (Str×V)} (hh:A.handled=none) {φ₀:Mp} {ca₀:List Addr} {vs:List V} {us:List Value} {l I:Addr} {n:Nat} (hl:φ₀ l=some (listOf us.toArray n)) (r:RVs prog w LI φ₀ ca₀ vs us) :
  Iter prog w LI A env cv L F φ₀ ca₀ I vs (fun h i=>h.IsListIter I l i) where
 stay h h' i o e1 e2:=fun ⟨o',x1,x2⟩=>by rw [e1] at x1;cases x1;exact ⟨o,e2,x2⟩
 obj h i:=fun ⟨o,x,_⟩=>⟨o,x⟩
 item σ φ ca s i v h le pre hit hv Q E k:=by
  have hL1:s.heap.IsList l us.toArray:=⟨_,h.hp.fz _ _ (le _ _ hl),rfl,_,rfl⟩
  obtain ⟨u,hu,ru⟩:=r.get hv
  exact wpAny_pyNext_list_item hit hL1 (by simpa using hu) fun h₁ x1 x2=>k u h₁ s.toks (ru.mono le pre) x1 x2
 fin σ φ ca s i h le pre hit hv Q E k:=by
  have hL1:s.heap.IsList l us.toArray:=⟨_,h.hp.fz _ _ (le _ _ hl),rfl,_,rfl⟩
  refine wpAny_pyNext_list_end hh hit hL1 ?_ fun h₁ x=>k h₁ s.toks x
  have:vs.length≤i:=by simpa using hv
  simp;rw [r.len];exact this
end
noncomputable def plainIter:Expr→Bool
 | .Name ..=>true
 | .Attribute ..=>true
 | .Call ..=>true
 | .Subscript ..=>true
 | .BinOp ..=>true
 | _=>false
section
variable {prog:Program} {w:World} {LI:Nat→Option LamInfo} {Γ:Gam} {A:Around} {a:Addr} {cl:List (Str×Addr)} {L:Addr} {F:List Addr} {outer:List Env} {φ:Mp} {ca:List Addr} {s:Shared}
theorem folded_no {iter:Expr} {env:Env} {x:Value} (h:plainIter iter=true):foldedSetIterable iter env x=pure x:=by
 cases iter<;>first | rfl | exact absurd h Bool.false_ne_true
theorem go_name {target:Expr} (h:∀ it v,letOwnedTupleGo target it v=pure ()) (A:Around) (I l:Addr) (s:Shared) (i:Nat) (u:Value) (Q:Unit→Shared→Prop) (E:Value→Shared→Prop) (_:s.heap.IsListIter I l i) (q:Q () s):wpAny (model prog w) A (letOwnedTupleGo target (.ref I) u) Q E s:=by
 rw [h];exact wpAny_pure q
theorem go_tuple {elts:List Expr} {k:Nat} {pos:Pos} (A:Around) (I l:Addr) (s:Shared) (i:Nat) (u:Value) (Q:Unit→Shared→Prop) (E:Value→Shared→Prop) (it:s.heap.IsListIter I l i) (q:Q () s):wpAny (model prog w) A (letOwnedTupleGo (.Tuple elts k pos) (.ref I) u) Q E s:=by
 cases u with
 | ref T=>exact wpAny_letOwnedTupleGo_listiter it q
 | _=>exact wpAny_pure q
theorem for_list {k:Nat} {target iter:Expr} {body:List Stmt} {pos:Pos} {b:V→List (Str×V)} {v:V} {vs:List V} {σ σ₁:Wt} {σ':Ab} {ps:List Prop} {out:Res Fl} (e:(evN prog w LI Γ k).1 iter σ=some (.ok v,σ₁,ps)) (hp:AllP ps) (hv:v.elems=some vs)
  (hi:plainIter iter=true) (hgo:∀ (A:Around) (I l:Addr) (s:Shared) (i:Nat) (u:Value) (Q:Unit→Shared→Prop) (E:Value→Shared→Prop),s.heap.IsListIter I l i→Q () s→wpAny (model prog w) A (letOwnedTupleGo target (.ref I) u) Q E s) (hb:∀ v∈vs,Binds prog w LI Γ target b v) (lp:Loop prog w LI Γ b body vs σ₁.ab out σ') :
  SemS prog w LI Γ (.For target iter body [] pos) σ.ab out σ':=by
 intro A a cl L F outer S φ ca s h Q E k1 k2
 refine wpAny_For ?_ (fun x=>folded_no hi)
 refine ((evN_sound k).1 A a cl L F outer S iter σ _ σ₁ ps e hp φ ca s h).ok_ fun φ₁ ca₁ x s₁ pst r=>?_
 obtain ⟨us,l,n,rfl,rs,hl⟩:=r.elems_inv hv
 have hL0:s₁.heap.IsList l us.toArray:=⟨_,pst.at_.hp.fz _ _ hl,rfl,_,rfl⟩
 refine wpAny_pyIter_list hL0 ?_
 exact Goal.after pst (for_gen (s:={ s₁ with heap:=s₁.heap.push { cls:=.type "list_iterator", data:=.fields #[.ref l,.int 0 0] } }) S (fun s i u Q E it q=>hgo A _ l s i u Q E it q) hb pst.at_ (apart_new pst.at_) (Heap.get?_none_of_le (Nat.le_refl _)) (fun b o e=>Heap.get?_push_of_some _ e) ⟨rfl,rfl,rfl⟩
  (iter_list S.ok.1 hl rs) ⟨_,Heap.get?_push_size _ rfl,rfl,rfl⟩ lp) Q E k1 k2
end
def Str.vs (x:Str):List V:=x.cps.toList.map fun c=>.str ⟨#[c]⟩
section
variable {prog:Program} {w:World} {LI:Nat→Option LamInfo} {Γ:Gam} {A:Around} {a:Addr} {cl:List (Str×Addr)} {L:Addr} {F:List Addr} {outer:List Env} {φ:Mp} {ca:List Addr} {s:Shared}
theorem iter_tuple {env:Env} {cv:List (Str×V)} (hh:A.handled=none) {φ₀:Mp} {ca₀:List Addr} {vs:List V} {us:List Value} {l I:Addr} (hl:φ₀ l=some (tu us)) (r:RVs prog w LI φ₀ ca₀ vs us) :
  Iter prog w LI A env cv L F φ₀ ca₀ I vs (fun h i=>h.IsTupleIter I l i) where
 stay h h' i o e1 e2:=fun ⟨o',x1,x2⟩=>by rw [e1] at x1;cases x1;exact ⟨o,e2,x2⟩
 obj h i:=fun ⟨o,x,_⟩=>⟨o,x⟩
 item σ φ ca s i v h le pre hit hv Q E k:=by
  have hL1:s.heap.IsTuple l us.toArray:=⟨_,h.hp.fz _ _ (le _ _ hl),rfl,_,rfl⟩
  obtain ⟨u,hu,ru⟩:=r.get hv
  exact wpAny_pyNext_tuple_item hit hL1 (by simpa using hu) fun h₁ x1 x2=>k u h₁ s.toks (ru.mono le pre) x1 x2
 fin σ φ ca s i h le pre hit hv Q E k:=by
  have hL1:s.heap.IsTuple l us.toArray:=⟨_,h.hp.fz _ _ (le _ _ hl),rfl,_,rfl⟩
  refine wpAny_pyNext_tuple_end hh hit hL1 ?_ fun h₁ x=>k h₁ s.toks x
  have:vs.length≤i:=by simpa using hv
  simp;rw [r.len];exact this
theorem iter_str {env:Env} {cv:List (Str×V)} (hh:A.handled=none) {φ₀:Mp} {ca₀:List Addr} {x:Str} {t:Tok} {I:Addr} :
  Iter prog w LI A env cv L F φ₀ ca₀ I (Str.vs x) (fun h i=>h.IsStrIter I "str_ascii_iterator" x t i) where
 stay h h' i o e1 e2:=fun ⟨o',x1,x2⟩=>by rw [e1] at x1;cases x1;exact ⟨o,e2,x2⟩
 obj h i:=fun ⟨o,x,_⟩=>⟨o,x⟩
 item σ φ ca s i v h le pre hit hv Q E k:=by
  unfold Str.vs at hv
  rw [List.getElem?_map,Option.map_eq_some_iff] at hv
  obtain ⟨c,hc,rfl⟩:=hv
  exact wpAny_pyNext_ascii_item hit (by simpa using hc) fun h₁ x1 x2=>k _ h₁ _ .str x1 x2
 fin σ φ ca s i h le pre hit hv Q E k:=by
  refine wpAny_pyNext_ascii_end hh hit ?_ fun h₁ x=>k h₁ s.toks x
  unfold Str.vs at hv
  rw [List.getElem?_map,Option.map_eq_none_iff] at hv
  simpa using hv
theorem for_tuple {k:Nat} {target iter:Expr} {body:List Stmt} {pos:Pos} {b:V→List (Str×V)} {v:V} {vs:List V} {σ σ₁:Wt} {σ':Ab} {ps:List Prop} {out:Res Fl} (e:(evN prog w LI Γ k).1 iter σ=some (.ok v,σ₁,ps)) (hp:AllP ps) (hv:v.items=some vs)
  (hi:plainIter iter=true) (hlt:∀ it v,letOwnedTupleGo target it v=pure ()) (hb:∀ v∈vs,Binds prog w LI Γ target b v) (lp:Loop prog w LI Γ b body vs σ₁.ab out σ') :
  SemS prog w LI Γ (.For target iter body [] pos) σ.ab out σ':=by
 intro A a cl L F outer S φ ca s h Q E k1 k2
 refine wpAny_For ?_ (fun x=>folded_no hi)
 refine ((evN_sound k).1 A a cl L F outer S iter σ _ σ₁ ps e hp φ ca s h).ok_ fun φ₁ ca₁ x s₁ pst r=>?_
 obtain ⟨us,l,rfl,rs,hl⟩:=r.items_inv hv
 have hL0:s₁.heap.IsTuple l us.toArray:=⟨_,pst.at_.hp.fz _ _ hl,rfl,_,rfl⟩
 refine wpAny_pyIter_tuple hL0 ?_
 exact Goal.after pst (for_gen (s:={ s₁ with heap:=s₁.heap.push { cls:=.type "tuple_iterator", data:=.fields #[.ref l,.int 0 0] } }) S (fun s i u Q E _ q=>by rw [hlt];exact wpAny_pure q) hb pst.at_ (apart_new pst.at_) (Heap.get?_none_of_le (Nat.le_refl _)) (fun b o e=>Heap.get?_push_of_some _ e) ⟨rfl,rfl,rfl⟩
  (iter_tuple S.ok.1 hl rs) ⟨_,Heap.get?_push_size _ rfl,rfl,rfl⟩ lp) Q E k1 k2
theorem for_str {k:Nat} {target iter:Expr} {body:List Stmt} {pos:Pos} {b:V→List (Str×V)} {x:Str} {σ σ₁:Wt} {σ':Ab} {ps:List Prop} {out:Res Fl} (e:(evN prog w LI Γ k).1 iter σ=some (.ok (.str x),σ₁,ps)) (hp:AllP ps) (ha:x.cps.all (·<128)=true)
  (hi:plainIter iter=true) (hlt:∀ it v,letOwnedTupleGo target it v=pure ()) (hb:∀ v,Binds prog w LI Γ target b v) (lp:Loop prog w LI Γ b body (Str.vs x) σ₁.ab out σ') :
  SemS prog w LI Γ (.For target iter body [] pos) σ.ab out σ':=by
 intro A a cl L F outer S φ ca s h Q E k1 k2
 refine wpAny_For ?_ (fun x=>folded_no hi)
 refine ((evN_sound k).1 A a cl L F outer S iter σ _ σ₁ ps e hp φ ca s h).ok_ fun φ₁ ca₁ u s₁ pst r=>?_
 obtain ⟨t,rfl⟩:=r.str_inv
 refine wpAny_pyIter_ascii ha ?_
 exact Goal.after pst (for_gen (s:={ s₁ with heap:=s₁.heap.push { cls:=.type "str_ascii_iterator", data:=.fields #[.str x t,.int 0 0] } }) S (fun s i u Q E _ q=>by rw [hlt];exact wpAny_pure q) (fun v _=>hb v) pst.at_ (apart_new pst.at_) (Heap.get?_none_of_le (Nat.le_refl _)) (fun b o e=>Heap.get?_push_of_some _ e) ⟨rfl,rfl,rfl⟩
  (iter_str (x:=x) (t:=t) S.ok.1) ⟨_,Heap.get?_push_size _ rfl,rfl,rfl⟩ lp) Q E k1 k2
theorem RKs.getK {kvs:List (Str×V)}:∀ {ws:List (Str×Value)},RKs prog w LI φ ca kvs ws→∀ {i:Nat} {k:Str},(kvs.map (·.1))[i]?=some k→∃ v,ws[i]?=some (k,v):=by
 induction kvs with
 | nil=>exact fun r i k h=>nsm rfl h
 | cons p kvs ih =>
  intro ws r i k h
  refine r.uncons.elim fun u q=>q.elim fun ws' q=>?_
  rw [q.1]
  cases i with
  | zero=>exact ⟨u,congrArg (fun z=>some (z,u)) (Option.some.inj h)⟩
  | succ i=>exact ih q.2.2 h
theorem iter_dict {env:Env} {cv:List (Str×V)} (hh:A.handled=none) {φ₀:Mp} {ca₀:List Addr} {kvs:List (Str×V)} {ws:List (Str×Value)} {d I:Addr} {o:Obj} {ep:Nat} {es:Array DictEntry} (hl:φ₀ d=some o) (ho:o.ExactDict∧o.data=.dict es ep∧KeysOf (PySem.strKind prog w) es∧Pairs (PySem.strKind prog w) es.toList ws∧(ws.map (·.1)).Nodup) (r:RKs prog w LI φ₀ ca₀ kvs ws) :
  Iter prog w LI A env cv L F φ₀ ca₀ I (kvs.map fun p=>.str p.1) (fun h i=>h.IsKeyIter I d i ws.length ep) where
 stay h h' i o e1 e2:=fun ⟨o',x1,x2⟩=>by rw [e1] at x1;cases x1;exact ⟨o,e2,x2⟩
 obj h i:=fun ⟨o,x,_⟩=>⟨o,x⟩
 item σ φ ca s i v h le pre hit hv Q E k:=by
  have hm:s.heap.DictAt (PySem.strKind prog w) d ws ep:=⟨o,es,h.hp.fz _ _ (le _ _ hl),ho⟩
  rw [List.getElem?_map,Option.map_eq_some_iff] at hv
  obtain ⟨p,hp,rfl⟩:=hv
  obtain ⟨u,hu⟩:=r.getK (i:=i) (k:=p.1) (by rw [List.getElem?_map,hp];rfl)
  refine wpAny_pyNext_dict_item hit hm hu fun key h' hk x1 x2=>?_
  obtain ⟨t,rfl⟩:∃ t,key=.str p.1 t:=by
   cases key<;>simp [PySem.strKind,Value.isStrOf] at hk
   exact ⟨_,by rw [hk]⟩
  exact k _ h' s.toks .str x1 x2
 fin σ φ ca s i h le pre hit hv Q E k:=by
  have hm:s.heap.DictAt (PySem.strKind prog w) d ws ep:=⟨o,es,h.hp.fz _ _ (le _ _ hl),ho⟩
  refine wpAny_pyNext_dict_end hh hit hm ?_ fun h₁ x=>k h₁ s.toks x
  rw [List.getElem?_map,Option.map_eq_none_iff] at hv
  have:=List.getElem?_eq_none_iff.mp hv
  rw [List.getElem?_eq_none_iff,r.len];exact this
theorem for_dict {k:Nat} {target iter:Expr} {body:List Stmt} {pos:Pos} {b:V→List (Str×V)} {kvs:List (Str×V)} {σ σ₁:Wt} {σ':Ab} {ps:List Prop} {out:Res Fl} (e:(evN prog w LI Γ k).1 iter σ=some (.ok (.dct kvs),σ₁,ps)) (hp:AllP ps)
  (hi:plainIter iter=true) (hlt:∀ it v,letOwnedTupleGo target it v=pure ()) (hb:∀ v,Binds prog w LI Γ target b v) (lp:Loop prog w LI Γ b body (kvs.map fun p=>.str p.1) σ₁.ab out σ') :
  SemS prog w LI Γ (.For target iter body [] pos) σ.ab out σ':=by
 intro A a cl L F outer S φ ca s h Q E k1 k2
 refine wpAny_For ?_ (fun x=>folded_no hi)
 refine ((evN_sound k).1 A a cl L F outer S iter σ _ σ₁ ps e hp φ ca s h).ok_ fun φ₁ ca₁ u s₁ pst r=>?_
 refine r.inv.elim fun d q=>q.elim fun o q=>q.elim fun ws q=>q.2.2.2.1.elim fun es z=>z.elim fun ep hd'=>?_
 rw [q.1]
 have hm:s₁.heap.DictAt (PySem.strKind prog w) d ws ep:=⟨o,es,pst.at_.hp.fz _ _ q.2.2.1,hd'⟩
 exact wpAny_pyIter_dict (beq_eq_false_iff_ne.mpr q.2.1) hm (Goal.after pst (for_gen (s:={ s₁ with heap:=s₁.heap.push { cls:=.type "dict_keyiterator", data:=.fields #[.ref d,.int 0 0,.int ws.length 0,.int ep 0] } }) S (fun s i u Q E _ q=>by rw [hlt];exact wpAny_pure q) (fun v _=>hb v) pst.at_ (apart_new pst.at_) (Heap.get?_none_of_le (Nat.le_refl _)) (fun b o e=>Heap.get?_push_of_some _ e) ⟨rfl,rfl,rfl⟩
   (iter_dict S.ok.1 q.2.2.1 hd' q.2.2.2.2) ⟨_,Heap.get?_push_size _ rfl,rfl,rfl⟩ lp) Q E k1 k2)
end
noncomputable def stAt (P:Params) (f k:Nat):Stmt:=((bodyAt P f).drop k).headD (.Pass default)
noncomputable def forT:Stmt→Expr
 | .For t ..=>t
 | _=>default
noncomputable def forI:Stmt→Expr
 | .For _ i ..=>i
 | _=>default
noncomputable def forB:Stmt→List Stmt
 | .For _ _ b ..=>b
 | _=>[]
noncomputable def forOk:Stmt→Bool
 | .For _ _ _ o _=>o.isEmpty
 | _=>false
theorem forOk_eq {st:Stmt} (h:forOk st=true):st=.For (forT st) (forI st) (forB st) [] st.pos:=by
 cases st with
 | For t i b o p=>exact congrArg (Stmt.For t i b · p) (List.isEmpty_iff.mp h)
 | _=>exact absurd h Bool.false_ne_true
noncomputable def isName (x:Str) (e:Expr):Bool:=(nmE e).any (·==x)
theorem isName_eq {x:Str} {e:Expr} (h:isName x e=true):∃ p,e=.Name x p:=by
 unfold isName at h
 cases q:nmE e with
 | none=>rw [q] at h;exact absurd h Bool.false_ne_true
 | some y=>rw [q] at h;exact eq_of_beq h▸nmE_inv q
section
variable {prog:Program} {w:World} {LI:Nat→Option LamInfo} {Γ:Gam}
theorem binds_isName {t:Expr} {x:Str} (h:isName x t=true) (hx:Γ.cs.names.lookup x=some .local) (v:V):Binds prog w LI Γ t (fun v=>[(x,v)]) v :=
 (isName_eq h).elim fun p e=>e▸binds_name hx v
theorem lt_isName {t:Expr} {x:Str} (h:isName x t=true):∀ it v,letOwnedTupleGo t it v=pure () :=
 (isName_eq h).elim fun p e=>e▸fun _ _=>rfl
theorem run_is {α:Type} {m:Ev α} {o:Res α} {σ':Ab} {ps:List Prop} (e:(m.map fun r=>(r.1,r.2.1.ab,r.2.2))=some (o,σ',ps)):∃ σ:Wt,σ.ab=σ'∧m=some (o,σ,ps) :=
 (Option.map_eq_some_iff.mp e).elim fun r k=>⟨r.2.1,congrArg (·.2.1) k.2,k.1.trans (congrArg some (congr (congrArg Prod.mk (congrArg (·.1) k.2)) (congrArg (Prod.mk r.2.1) (congrArg (·.2.2) k.2))))⟩
theorem semB_run {b:List Stmt} {σ:Wt} {out:Res Fl} {loc:List (Str×V)} {cs:List Cell} {ps:List Prop} (hp:AllP ps)
  (e:((evBk (evM prog w LI Γ 40 40) b σ).map fun r=>(r.1,r.2.1.ab,r.2.2))=some (out,⟨loc,cs⟩,ps)):SemB prog w LI Γ b σ.ab out ⟨loc,cs⟩ :=
 (run_is e).elim fun σ' k=>k.1▸evBk_sound (evM_sound 40 40) k.2 hp
theorem for_str_st {st:Stmt} {x:Str} {y:Str} {σ:Wt} {σ':Ab} {out:Res Fl} (ho:forOk st=true) (ht:isName x (forT st)=true) (hx:Γ.cs.names.lookup x=some .local) (hi:plainIter (forI st)=true)
  (e:((evN prog w LI Γ 40).1 (forI st) σ).map (fun r=>(r.1,r.2.1.ab,r.2.2))=some (.ok (.str y),σ.ab,[])) (ha:y.cps.all (·<128)=true)
  (lp:Loop prog w LI Γ (fun v=>[(x,v)]) (forB st) (Str.vs y) σ.ab out σ'):SemS prog w LI Γ st σ.ab out σ' :=
 (run_is e).elim fun σ₁ k=>by rw [forOk_eq ho];exact for_str k.2 trivial ha hi (lt_isName ht) (binds_isName ht hx) (k.1▸lp)
end
section
variable {prog:Program} {w:World} {LI:Nat→Option LamInfo} {Γ:Gam}
theorem for_tup_st {st:Stmt} {x:Str} {v:V} {vs:List V} {σ:Wt} {σ':Ab} {out:Res Fl} (ho:forOk st=true) (ht:isName x (forT st)=true) (hx:Γ.cs.names.lookup x=some .local) (hi:plainIter (forI st)=true)
  (e:((evN prog w LI Γ 40).1 (forI st) σ).map (fun r=>(r.1,r.2.1.ab,r.2.2))=some (.ok v,σ.ab,[])) (hv:v.items=some vs)
  (lp:Loop prog w LI Γ (fun v=>[(x,v)]) (forB st) vs σ.ab out σ'):SemS prog w LI Γ st σ.ab out σ' :=
 (run_is e).elim fun σ₁ k=>by rw [forOk_eq ho];exact for_tuple k.2 trivial hv hi (lt_isName ht) (fun v _=>binds_isName ht hx v) (k.1▸lp)
theorem for_list_st {st:Stmt} {x:Str} {v:V} {vs:List V} {σ:Wt} {σ':Ab} {out:Res Fl} (ho:forOk st=true) (ht:isName x (forT st)=true) (hx:Γ.cs.names.lookup x=some .local) (hi:plainIter (forI st)=true) {ps:List Prop} (hp:AllP ps)
  (e:((evN prog w LI Γ 40).1 (forI st) σ).map (fun r=>(r.1,r.2.1.ab,r.2.2))=some (.ok v,σ.ab,ps)) (hv:v.elems=some vs)
  (lp:Loop prog w LI Γ (fun v=>[(x,v)]) (forB st) vs σ.ab out σ'):SemS prog w LI Γ st σ.ab out σ' :=
 (run_is e).elim fun σ₁ k=>by rw [forOk_eq ho];exact for_list k.2 hp hv hi (go_name (lt_isName ht)) (fun v _=>binds_isName ht hx v) (k.1▸lp)
theorem for_dict_st {st:Stmt} {x:Str} {kvs:List (Str×V)} {σ:Wt} {σ':Ab} {out:Res Fl} (ho:forOk st=true) (ht:isName x (forT st)=true) (hx:Γ.cs.names.lookup x=some .local) (hi:plainIter (forI st)=true)
  (e:((evN prog w LI Γ 40).1 (forI st) σ).map (fun r=>(r.1,r.2.1.ab,r.2.2))=some (.ok (.dct kvs),σ.ab,[]))
  (lp:Loop prog w LI Γ (fun v=>[(x,v)]) (forB st) (kvs.map fun p=>.str p.1) σ.ab out σ'):SemS prog w LI Γ st σ.ab out σ' :=
 (run_is e).elim fun σ₁ k=>by rw [forOk_eq ho];exact for_dict k.2 trivial hi (lt_isName ht) (binds_isName ht hx) (k.1▸lp)
end
section
variable {prog:Program} {w:World} {LI:Nat→Option LamInfo} {Γ:Gam}
theorem for_pairs_st {st:Stmt} {x y:Str} {px py p:Pos} {k:Nat} {v:V} {vs:List V} {σ:Wt} {σ':Ab} {out:Res Fl} (ho:forOk st=true) (ht:forT st=.Tuple [.Name x px,.Name y py] k p) (hx:Γ.cs.names.lookup x=some .local) (hy:Γ.cs.names.lookup y=some .local) (hi:plainIter (forI st)=true)
  (e:((evN prog w LI Γ 40).1 (forI st) σ).map (fun r=>(r.1,r.2.1.ab,r.2.2))=some (.ok v,σ.ab,[])) (hv:v.elems=some vs) (hvs:∀ v∈vs,∃ a b,v.items=some [a,b])
  (lp:Loop prog w LI Γ (pairB x y) (forB st) vs σ.ab out σ'):SemS prog w LI Γ st σ.ab out σ' :=
 (run_is e).elim fun σ₁ k=>by rw [forOk_eq ho,ht];exact for_list k.2 trivial hv hi go_tuple (fun v hv=>(hvs v hv).elim fun a q=>q.elim fun b e=>binds_pair hx hy e) (k.1▸lp)
theorem name_is {x:Str} {t:Expr} {v:V} {u:Value} {σ:Ab} (ht:isName x t=true) (hx:Γ.cs.names.lookup x=some .globalImplicit) (hg:gl.lookup x=some v) (hv:(∃ c,v=.fn c∧u=.ref c)∨∃ n,v=.ty n∧u=.type n):NameAny prog w LI Γ t σ u :=
 (isName_eq ht).elim fun p e=>e▸name_glob hx hg hv
theorem suite_none {x:Str} {p1 p2 p3:Pos} {σ:Ab} (hx:Γ.cs.names.lookup x=some .local):SuiteAny prog w LI Γ [.Assign [.Name x p1] (.Constant .none 0 p2) p3] σ .next ⟨(x,.none)::σ.loc,σ.cells⟩:=fun A a cl L F kd φ ca s h0 Q E k1=>h0.fr.elim fun m hm =>
  wpAny_execs_cons (wpAny_Assign_Name (wpAny_Constant_none (wpAny_storeName_local (env:=eN Γ L a cl) hx hm.1 (fun h' hn' hs=>hn'.elim fun o q=>q.elim fun es q=>q.elim fun ep q =>
   have at':At prog w LI (eN Γ L a cl) Γ.cv L F ⟨(x,.none)::σ.loc,σ.cells⟩ φ ca { s with heap:=h',toks:=s.toks+1 }:=h0.store hm.2 .none hn' hs
   wpAny_execs_nil (k1 φ ca .next _ (Pst.sameB at' ⟨hm.1.lt,o,q.1⟩ hs h0.LF ⟨rfl,rfl,rfl⟩) trivial)) (by show (Γ.cs.kind==.class||(Γ.cs.kind==.module&&L !=mainGlobals))=false;rw [kd];rfl))) rfl)
end
section
variable {prog:Program} {w:World} {LI:Nat→Option LamInfo}
theorem var_eq (n:Nat) (a b:Str):Con prog w LI (n+3) (.fn 112) [] [.vr a,.vr b] [] (.ok (.bool (a==b))) []:=by
 have e:evBk (evM prog w LI (Gf w.params n 112) 30 30) (bodyAt w.params 112) ⟨((["self","other"]:List Str).zip [.vr a,.vr b]).reverse,[],[]⟩=some (.ok (.ret (.bool (a==b))),⟨[("other", .vr b),("self", .vr a)],[],[]⟩,[]):=by kernel_rfl
 exact (F112 _).con 30 30 [.vr a,.vr b] [] [] rfl e trivial ⟨rfl,clo0_clo rfl⟩ (.inl rfl)
theorem var_init (n:Nat) (s:Str):Con prog w LI (n+3) (.fn 105) [.flds []] [.raw 129 0,.str s] [] (.ok .none) [.flds [("name", .str s)]]:=by
 have e:evBk (evM prog w LI (Gf w.params n 105) 30 30) (bodyAt w.params 105) ⟨((["self","name"]:List Str).zip [.raw 129 0,.str s]).reverse,[.flds []],[]⟩=some (.ok .next,⟨[("name", .str s),("self", .raw 129 0)],[.flds [("name", .str s)]],[]⟩,[]):=by kernel_rfl
 exact (F105 _).con 30 30 [.raw 129 0,.str s] [.flds []] [] rfl e trivial ⟨rfl,clo0_clo rfl⟩ (.inl rfl)
theorem var_new (n:Nat) (s:Str):Con prog w LI (n+4) (.fn 129) [] [.str s] [] (.ok (.vr s)) [] :=
 cls_con (.head _) rfl (one_of (clo_str s)) (var_init n s) (CloVs.of (one_of (clo_str s)))
theorem ave_init (n:Nat) (C:Nat) (hC:C=514∨C=578) (s:Str):Con prog w LI (n+3) (.fn 442) [.flds []] [.raw C 0,.vr s] [] (.ok .none) [.flds [("variable", .vr s)]]:=by
 rcases hC with rfl | rfl
 ·have e:evBk (evM prog w LI (Gf w.params n 442) 30 30) (bodyAt w.params 442) ⟨((["self","variable"]:List Str).zip [.raw 514 0,.vr s]).reverse,[.flds []],[]⟩=some (.ok .next,⟨[("variable", .vr s),("self", .raw 514 0)],[.flds [("variable", .vr s)]],[]⟩,[]):=by kernel_rfl
  exact (F442 _).con 30 30 [.raw 514 0,.vr s] [.flds []] [] rfl e trivial ⟨rfl,clo0_clo rfl⟩ (.inl rfl)
 ·have e:evBk (evM prog w LI (Gf w.params n 442) 30 30) (bodyAt w.params 442) ⟨((["self","variable"]:List Str).zip [.raw 578 0,.vr s]).reverse,[.flds []],[]⟩=some (.ok .next,⟨[("variable", .vr s),("self", .raw 578 0)],[.flds [("variable", .vr s)]],[]⟩,[]):=by kernel_rfl
  exact (F442 _).con 30 30 [.raw 578 0,.vr s] [.flds []] [] rfl e trivial ⟨rfl,clo0_clo rfl⟩ (.inl rfl)
theorem ivar_new (n:Nat) (s:Str):Con prog w LI (n+4) (.fn 514) [] [.vr s] [] (.ok (.ex (.var s))) [] :=
 cls_con (.tail _ (.head _)) rfl (one_of (clo_vr s)) (ave_init n 514 (.inl rfl) s) (CloVs.of (one_of (clo_vr s)))
theorem con_new (n:Nat) (c:C5):Con prog w LI (n+4) (.fn 578) [] [.vr c.nm] [] (.ok (.ex (.con c))) [] :=
 cls_con (.tail _ (.tail _ (.head _))) rfl (one_of (clo_vr _)) (ave_init n 578 (.inr rfl) _) (CloVs.of (one_of (clo_vr _)))
theorem app_init (n:Nat) (f a:X):Con prog w LI (n+3) (.fn 344) [.flds []] [.raw 426 0,.ex f,.ex a] [] (.ok .none) [.flds [("function", .ex f),("argument", .ex a)]]:=by
 have e:evBk (evM prog w LI (Gf w.params n 344) 30 30) (bodyAt w.params 344) ⟨((["self","function","argument"]:List Str).zip [.raw 426 0,.ex f,.ex a]).reverse,[.flds []],[]⟩=some (.ok .next,⟨[("argument", .ex a),("function", .ex f),("self", .raw 426 0)],[.flds [("function", .ex f),("argument", .ex a)]],[]⟩,[]):=by kernel_rfl
 exact (F344 _).con 30 30 [.raw 426 0,.ex f,.ex a] [.flds []] [] rfl e trivial ⟨rfl,clo0_clo rfl⟩ (.inl rfl)
theorem app_new (n:Nat) (f a:X):Con prog w LI (n+4) (.fn 426) [] [.ex f,.ex a] [] (.ok (.ex (.app f a))) [] :=
 cls_con (.tail _ (.tail _ (.tail _ (.head _)))) rfl (two_of (clo_ex f) (clo_ex a)) (app_init n f a) (CloVs.of (two_of (clo_ex f) (clo_ex a)))
noncomputable def X.eqb:X→X→Bool
 | .app f a,.app g b=>X.eqb f g&&X.eqb a b
 | .app ..,_=>false
 | .var s,.var t=>s==t
 | .var s,.con c=>s==c.nm
 | .var _,.app ..=>false
 | .con c,.var t=>c.nm==t
 | .con c,.con d=>c.nm==d.nm
 | .con _,.app ..=>false
noncomputable def X.ht:X→Nat
 | .app f a=>max f.ht a.ht+1
 | _=>0
theorem ave_eq (n:Nat) (x y:X) (hx:x.eqf=471):Con prog w LI (n+6) (.fn 471) [] [.ex x,.ex y] [] (.ok (.bool (x.eqb y))) []:=by
 have hv:∀ a b,Con prog w LI (n+3) (.fn 112) [] [.vr a,.vr b] [] (.ok (.bool (a==b))) []:=var_eq n
 cases x with
 | app f a=>cases hx
 | var s =>
  cases y with
  | app g b =>
   have e:evBk (evM prog w LI (Gf w.params (n+3) 471) 30 30) (bodyAt w.params 471) ⟨((["self","other"]:List Str).zip [.ex (.var s),.ex (.app g b)]).reverse,[],[]⟩=some (.ok (.ret (.bool false)),⟨[("other", .ex (.app g b)),("self", .ex (.var s))],[],[]⟩,[]):=by kernel_rfl
   exact (F471 _).con 30 30 [_,_] [] [] rfl e trivial ⟨rfl,clo0_clo rfl⟩ (.inl rfl)
  | var t =>
   have e:evBk (evM prog w LI (Gf w.params (n+3) 471) 30 30) (bodyAt w.params 471) ⟨((["self","other"]:List Str).zip [.ex (.var s),.ex (.var t)]).reverse,[],[.c (.ok (.bool (s==t)))]⟩=some (.ok (.ret (.bool (s==t))),⟨[("other", .ex (.var t)),("self", .ex (.var s))],[],[]⟩,[Con prog w LI (n+3) (.fn 112) [] [.vr s,.vr t] [] (.ok (.bool (s==t))) []]):=by kernel_rfl
   exact (F471 _).con 30 30 [_,_] [] [_] rfl e ⟨hv _ _,trivial⟩ ⟨rfl,clo0_clo rfl⟩ (.inl rfl)
  | con c =>
   have e:evBk (evM prog w LI (Gf w.params (n+3) 471) 30 30) (bodyAt w.params 471) ⟨((["self","other"]:List Str).zip [.ex (.var s),.ex (.con c)]).reverse,[],[.c (.ok (.bool (s==c.nm)))]⟩=some (.ok (.ret (.bool (s==c.nm))),⟨[("other", .ex (.con c)),("self", .ex (.var s))],[],[]⟩,[Con prog w LI (n+3) (.fn 112) [] [.vr s,.vr c.nm] [] (.ok (.bool (s==c.nm))) []]):=by kernel_rfl
   exact (F471 _).con 30 30 [_,_] [] [_] rfl e ⟨hv _ _,trivial⟩ ⟨rfl,clo0_clo rfl⟩ (.inl rfl)
 | con d =>
  cases y with
  | app g b =>
   have e:evBk (evM prog w LI (Gf w.params (n+3) 471) 30 30) (bodyAt w.params 471) ⟨((["self","other"]:List Str).zip [.ex (.con d),.ex (.app g b)]).reverse,[],[]⟩=some (.ok (.ret (.bool false)),⟨[("other", .ex (.app g b)),("self", .ex (.con d))],[],[]⟩,[]):=by kernel_rfl
   exact (F471 _).con 30 30 [_,_] [] [] rfl e trivial ⟨rfl,clo0_clo rfl⟩ (.inl rfl)
  | var t =>
   have e:evBk (evM prog w LI (Gf w.params (n+3) 471) 30 30) (bodyAt w.params 471) ⟨((["self","other"]:List Str).zip [.ex (.con d),.ex (.var t)]).reverse,[],[.c (.ok (.bool (d.nm==t)))]⟩=some (.ok (.ret (.bool (d.nm==t))),⟨[("other", .ex (.var t)),("self", .ex (.con d))],[],[]⟩,[Con prog w LI (n+3) (.fn 112) [] [.vr d.nm,.vr t] [] (.ok (.bool (d.nm==t))) []]):=by kernel_rfl
   exact (F471 _).con 30 30 [_,_] [] [_] rfl e ⟨hv _ _,trivial⟩ ⟨rfl,clo0_clo rfl⟩ (.inl rfl)
  | con c =>
   have e:evBk (evM prog w LI (Gf w.params (n+3) 471) 30 30) (bodyAt w.params 471) ⟨((["self","other"]:List Str).zip [.ex (.con d),.ex (.con c)]).reverse,[],[.c (.ok (.bool (d.nm==c.nm)))]⟩=some (.ok (.ret (.bool (d.nm==c.nm))),⟨[("other", .ex (.con c)),("self", .ex (.con d))],[],[]⟩,[Con prog w LI (n+3) (.fn 112) [] [.vr d.nm,.vr c.nm] [] (.ok (.bool (d.nm==c.nm))) []]):=by kernel_rfl
   exact (F471 _).con 30 30 [_,_] [] [_] rfl e ⟨hv _ _,trivial⟩ ⟨rfl,clo0_clo rfl⟩ (.inl rfl)
end
section
variable {prog:Program} {w:World} {LI:Nat→Option LamInfo}
theorem eqb_con:∀ x y:X,∀ n,Con prog w LI (n+3 * x.ht+6) (.fn x.eqf) [] [.ex x,.ex y] [] (.ok (.bool (x.eqb y))) []
 | .var s,y,n=>(ave_eq n (.var s) y rfl).mono (mx0 _ _ (by decide))
 | .con s,y,n=>(ave_eq n (.con s) y rfl).mono (mx0 _ _ (by decide))
 | .app f a,.var s,n=>(F386 w.params).ret0 (n:=n) (cs:=[]) (.bool false) [_,_] [] P0 (clo0_clo rfl) (mx0 _ _ (by decide)) rfl (by kernel_rfl)
 | .app f a,.con s,n=>(F386 w.params).ret0 (n:=n) (cs:=[]) (.bool false) [_,_] [] P0 (clo0_clo rfl) (mx0 _ _ (by decide)) rfl (by kernel_rfl)
 | .app f a,.app g b,n=>by
  have h1:Con prog w LI (n+3 * max f.ht a.ht+6) (.fn f.eqf) [] [.ex f,.ex g] [] (.ok (.bool (f.eqb g))) []:=(eqb_con f g n).mono (mxL ..)
  have h2:Con prog w LI (n+3 * max f.ht a.ht+6) (.fn a.eqf) [] [.ex a,.ex b] [] (.ok (.bool (a.eqb b))) []:=(eqb_con a b n).mono (mxR ..)
  have e:(X.app f a).eqb (.app g b)=(f.eqb g&&a.eqb b):=rfl
  have hm:n+3 * max f.ht a.ht+6+3≤n+3 * (X.app f a).ht+6:=mx3 ..
  rw [e]
  cases hq:f.eqb g with
  | true =>
   rw [hq] at h1
   exact (F386 w.params).ret0 (cs:=[]) (.bool (a.eqb b)) [.ex (.app f a),.ex (.app g b)] [.c (.ok (.bool true)),.c (.ok (.bool (a.eqb b)))] (P2 h1 h2) (clo0_clo rfl) hm rfl (by kernel_rfl)
  | false =>
   rw [hq] at h1
   exact (F386 w.params).ret0 (cs:=[]) (.bool false) [.ex (.app f a),.ex (.app g b)] [.c (.ok (.bool false))] (P1 h1) (clo0_clo rfl) hm rfl (by kernel_rfl)
theorem simp_con:∀ x:X,∀ n,Con prog w LI (n+3 * x.ht+4) (.fn (x.mt "simplify")) [] [.ex x] [] (.ok (.ex x)) []
 | .var s,n=>(F449 w.params).ret0 (n:=n) (cs:=[]) (.ex (.var s)) [_] [] P0 (clo_ex _) (mx0 _ _ (by decide)) rfl (by kernel_rfl)
 | .con s,n=>(F449 w.params).ret0 (n:=n) (cs:=[]) (.ex (.con s)) [_] [] P0 (clo_ex _) (mx0 _ _ (by decide)) rfl (by kernel_rfl)
 | .app f a,n=>by
  have h1:Con prog w LI (n+3 * max f.ht a.ht+4) (.fn (f.mt "simplify")) [] [.ex f] [] (.ok (.ex f)) []:=(simp_con f n).mono (mxL ..)
  have h2:Con prog w LI (n+3 * max f.ht a.ht+4) (.fn (a.mt "simplify")) [] [.ex a] [] (.ok (.ex a)) []:=(simp_con a n).mono (mxR ..)
  have h3:Con prog w LI (n+3 * max f.ht a.ht+4) (.fn 426) [] [.ex f,.ex a] [] (.ok (.ex (.app f a))) []:=(app_new n f a).mono (mx0 _ _ (by decide))
  have hm:n+3 * max f.ht a.ht+4+3≤n+3 * (X.app f a).ht+4:=mx3 ..
  cases f with
  | var s=>exact (F351 w.params).ret0 (cs:=[]) (.ex (.app (.var s) a)) [.ex (.app (.var s) a)] [.c (.ok (.ex (.var s))),.c (.ok (.ex a)),.c (.ok (.ex (.app (.var s) a)))] (P3 h1 h2 h3) (clo_ex _) hm rfl (by kernel_rfl)
  | con s=>exact (F351 w.params).ret0 (cs:=[]) (.ex (.app (.con s) a)) [.ex (.app (.con s) a)] [.c (.ok (.ex (.con s))),.c (.ok (.ex a)),.c (.ok (.ex (.app (.con s) a)))] (P3 h1 h2 h3) (clo_ex _) hm rfl (by kernel_rfl)
  | app p q=>exact (F351 w.params).ret0 (cs:=[]) (.ex (.app (.app p q) a)) [.ex (.app (.app p q) a)] [.c (.ok (.ex (.app p q))),.c (.ok (.ex a)),.c (.ok (.ex (.app (.app p q) a)))] (P3 h1 h2 h3) (clo_ex _) hm rfl (by kernel_rfl)
end
noncomputable def addU (l:List Str) (x:Str):List Str:=if l.any (·==x) then l else l++[x]
noncomputable def uni (l:List Str) (xs:List Str):List Str:=xs.foldl addU l
theorem un_ok (P:Params):(forOk (stAt P 60 1)&&isName "part" (forT (stAt P 60 1))&&plainIter (forI (stAt P 60 1)))=true:=by kernel_rfl
theorem un_loc (P:Params) (n:Nat):(Gf P n 60).cs.names.lookup ("part": Str)=some NameKind.local:=by kernel_rfl
noncomputable def unI (P:Params):Stmt:=(forB (stAt P 60 1)).headD (.Pass default)
theorem un_ok2 (P:Params):(forOk (unI P)&&isName "one" (forT (unI P))&&plainIter (forI (unI P)))=true:=by kernel_rfl
theorem un_loc2 (P:Params) (n:Nat):(Gf P n 60).cs.names.lookup ("one": Str)=some NameKind.local:=by kernel_rfl
section
variable {prog:Program} {w:World} {LI:Nat→Option LamInfo}
theorem var_eqP (n:Nat) (f:Nat):VarEqP prog w LI (Gf w.params (n+3) f):=fun a b=>var_eq n a b
theorem weak1 {x:Str} {v:V} {loc:List (Str×V)} (h:loc.lookup x=none):∀ y u,loc.lookup y=some u→((x,v)::loc).lookup y=some u:=fun y u e=>by
 rw [List.lookup_cons]
 cases q:(y==x) with
 | false=>exact e
 | true=>rw [eq_of_beq q,h] at e;cases e
noncomputable abbrev unL (pv p:V):List (Str×V):=[("part", p),("found", .cell 0),("parts", pv)]
theorem un_turn (n:Nat) (l:List Str) (x:Str) (pv p:V) (hl:l.length<1000000):SemB prog w LI (Gf w.params (n+3) 60) (forB (unI w.params)) ⟨("one", .vr x)::unL pv p,[.list (l.map .vr)]⟩ (.ok .next) ⟨("one", .vr x)::unL pv p,[.list ((addU l x).map .vr)]⟩:=by
 cases h:l.any (·==x) with
 | true =>
  rw [show addU l x=l from if_pos h]
  exact semB_run (σ:=⟨("one", .vr x)::unL pv p,[.list (l.map .vr)],[.nm l,.b false]⟩) (show AllP [l.map V.vr=l.map V.vr,VarEqP prog w LI (Gf w.params (n+3) 60),(!(l.any (·==x)))=false] from ⟨rfl,var_eqP n 60,by rw [h];rfl,trivial⟩) (by kernel_rfl)
 | false =>
  rw [show addU l x=l++[x] from if_neg (by rw [h];exact Bool.false_ne_true),List.map_append]
  exact semB_run (σ:=⟨("one", .vr x)::unL pv p,[.list (l.map .vr)],[.nm l,.b true]⟩) (show AllP [l.map V.vr=l.map V.vr,VarEqP prog w LI (Gf w.params (n+3) 60),(!(l.any (·==x)))=true,(l.map V.vr).length<1000000] from ⟨rfl,var_eqP n 60,by rw [h];rfl,by rw [List.length_map];exact hl,trivial⟩) (by kernel_rfl)
theorem addU_len (l:List Str) (x:Str):(addU l x).length≤l.length+1:=by
 unfold addU;split<;>simp
theorem uni_len:∀ (xs l:List Str),(uni l xs).length≤l.length+xs.length
 | [],l=>Nat.le_refl _
 | x::xs,l=>by
  have h1:=addU_len l x
  have h2:=uni_len xs (addU l x)
  rw [List.length_cons]
  show (uni (addU l x) xs).length≤_
  omega
theorem un_in (n:Nat) (pv p:V):∀ (xs l:List Str),l.length+xs.length<1000000 →
  Loop prog w LI (Gf w.params (n+3) 60) (fun v=>[("one", v)]) (forB (unI w.params)) (xs.map V.vr) ⟨unL pv p,[.list (l.map .vr)]⟩ (.ok .next) ⟨unL pv p,[.list ((uni l xs).map .vr)]⟩
 | [],l,_=>Loop.nil
 | x::xs,l,hl=>by
  have h1:=addU_len l x
  rw [List.length_cons] at hl
  exact Loop.next (un_turn n l x pv p (by omega)) (.inl rfl) (weak1 rfl) (un_in n pv p xs (addU l x) (by omega))
theorem un_part (n:Nat) (l xs:List Str) (pv:V) (hl:l.length+xs.length<1000000) :
  SemB prog w LI (Gf w.params (n+3) 60) (forB (stAt w.params 60 1)) ⟨unL pv (.lv xs),[.list (l.map .vr)]⟩ (.ok .next) ⟨unL pv (.lv xs),[.list ((uni l xs).map .vr)]⟩:=by
 have ok:=un_ok2 w.params
 rw [Bool.and_eq_true,Bool.and_eq_true] at ok
 have h:SemS prog w LI (Gf w.params (n+3) 60) (unI w.params) ⟨unL pv (.lv xs),[.list (l.map .vr)]⟩ (.ok .next) ⟨unL pv (.lv xs),[.list ((uni l xs).map .vr)]⟩ :=
  for_list_st (v:=.lv xs) (σ:=⟨unL pv (.lv xs),[.list (l.map .vr)],[]⟩) ok.1.1 ok.1.2 (un_loc2 _ _) ok.2 P0 (by kernel_rfl) rfl (un_in n pv (.lv xs) xs l hl)
 exact semB_run (σ:=⟨unL pv (.lv xs),[.list (l.map .vr)],[.st (.ok .next) (unL pv (.lv xs)) [.list ((uni l xs).map .vr)]]⟩) (P1 h) (by kernel_rfl)
theorem union_con (n:Nat) (a b:List Str) (hl:a.length+b.length<1000000):Con prog w LI (n+6) (.fn 60) [] [.lst [.lv a,.lv b]] [] (.ok (.lv (uni (uni [] a) b))) []:=by
 have ok:=un_ok w.params
 rw [Bool.and_eq_true,Bool.and_eq_true] at ok
 have h1:=uni_len a []
 have h2:=uni_len b (uni [] a)
 simp at h1
 have hs:SemS prog w LI (Gf w.params (n+3) 60) (stAt w.params 60 1) ⟨[("found", .cell 0),("parts", .lst [.lv a,.lv b])],[.list []]⟩ (.ok .next) ⟨[("found", .cell 0),("parts", .lst [.lv a,.lv b])],[.list ((uni (uni [] a) b).map .vr)]⟩ :=
  for_list_st (v:=.lst [.lv a,.lv b]) (σ:=⟨[("found", .cell 0),("parts", .lst [.lv a,.lv b])],[.list []],[]⟩) ok.1.1 ok.1.2 (un_loc _ _) ok.2 P0 (by kernel_rfl) rfl
   (Loop.next (un_part n [] a _ (by simp;omega)) (.inl rfl) (weak1 rfl) (Loop.next (un_part n (uni [] a) b _ (by omega)) (.inl rfl) (weak1 rfl) Loop.nil))
 have r:=(F60 w.params).runN (prog:=prog) (LI:=LI) (n:=n+3) (r:=.ok (.cell 0)) [.lst [.lv a,.lv b]] [] [.cel,.st (.ok .next) [("found", .cell 0),("parts", .lst [.lv a,.lv b])] [.list ((uni (uni [] a) b).map .vr)]] (out:=.ok (.ret (.cell 0))) (cs:=[.list ((uni (uni [] a) b).map .vr)]) (ps:=[SemS prog w LI (Gf w.params (n+3) 60) (stAt w.params 60 1) ⟨[("found", .cell 0),("parts", .lst [.lv a,.lv b])],[.list []]⟩ (.ok .next) ⟨[("found", .cell 0),("parts", .lst [.lv a,.lv b])],[.list ((uni (uni [] a) b).map .vr)]⟩]) rfl (by kernel_rfl) (P1 hs) rfl nofun
 exact ConN.lst (v:=.lv (uni (uni [] a) b)) r rfl (Nat.zero_le _) rfl (CloVs.of fun v hv=>by obtain ⟨q,_,rfl⟩:=List.mem_map.mp hv;exact clo_vr _) nofun
end
noncomputable abbrev ltr:Str :="abcdfghijklmnopqrstuvwxyz"
noncomputable abbrev lL (x:Str):List (Str×V):=[("letters", .str ltr),("expr", .str x)]
section
variable {prog:Program} {w:World} {LI:Nat→Option LamInfo}
theorem ld_ok (P:Params):(forOk (stAt P 946 1)&&isName "sign" (forT (stAt P 946 1))&&plainIter (forI (stAt P 946 1)))=true:=by kernel_rfl
theorem ld_loc (P:Params) (n:Nat):(Gf P n 946).cs.names.lookup ("sign": Str)=some NameKind.local:=by kernel_rfl
abbrev LD (prog:Program) (w:World) (LI:Nat→Option LamInfo) (n:Nat) (x l:Str) (b:Bool):Prop:=Con prog w LI (n+3) (.fn 946) [] [.str x,.str l] [] (.ok (.bool b)) []
abbrev LB (prog:Program) (w:World) (LI:Nat→Option LamInfo) (n:Nat) (c:Str) (out:Fl):Prop:=∀ loc,SemB prog w LI (Gf w.params n 946) (forB (stAt w.params 946 1)) ⟨("sign", .str c)::loc,[]⟩ (.ok out) ⟨("sign", .str c)::loc,[]⟩
theorem ld_of {n:Nat} {x y:Str} {loc':List (Str×V)} {out:Res Fl} {b:Bool} (h1:((evN prog w LI (Gf w.params n 946) 40).1 (forI (stAt w.params 946 1)) ⟨lL x,[],[]⟩).map (fun r=>(r.1,r.2.1.ab,r.2.2))=some (.ok (.str y),⟨lL x,[]⟩,[])) (ha:y.cps.all (·<128)=true)
  (lp:Loop prog w LI (Gf w.params n 946) (fun v=>[("sign", v)]) (forB (stAt w.params 946 1)) (Str.vs y) ⟨lL x,[]⟩ out ⟨loc',[]⟩)
  (e:((evBk (evM prog w LI (Gf w.params n 946) 40 40) (bodyAt w.params 946) ⟨lL x,[],[.st out loc' []]⟩).map fun r=>(r.1,r.2.1.cells,r.2.2))=some (.ok (.ret (.bool b)),[],[SemS prog w LI (Gf w.params n 946) (stAt w.params 946 1) ⟨lL x,[]⟩ out ⟨loc',[]⟩])):LD prog w LI n x ltr b:=by
 have ok:=ld_ok w.params
 rw [Bool.and_eq_true,Bool.and_eq_true] at ok
 exact (F946 w.params).ret0 (n:=n) (cs:=[]) (.bool b) [.str x,.str ltr] [.st out loc' []] (P1 (for_str_st (σ:=⟨lL x,[],[]⟩) ok.1.1 ok.1.2 (ld_loc _ _) ok.2 h1 ha lp)) (clo0_clo rfl) (Nat.le_refl _) rfl e
theorem ldb_49 (n:Nat):LB prog w LI n "1" .next:=fun loc=>semB_run (σ:=⟨("sign", .str "1")::loc,[],[]⟩) P0 (by kernel_rfl)
theorem ldb_50 (n:Nat):LB prog w LI n "2" .next:=fun loc=>semB_run (σ:=⟨("sign", .str "2")::loc,[],[]⟩) P0 (by kernel_rfl)
theorem ldb_51 (n:Nat):LB prog w LI n "3" .next:=fun loc=>semB_run (σ:=⟨("sign", .str "3")::loc,[],[]⟩) P0 (by kernel_rfl)
theorem ldb_52 (n:Nat):LB prog w LI n "4" .next:=fun loc=>semB_run (σ:=⟨("sign", .str "4")::loc,[],[]⟩) P0 (by kernel_rfl)
theorem ldb_53 (n:Nat):LB prog w LI n "5" .next:=fun loc=>semB_run (σ:=⟨("sign", .str "5")::loc,[],[]⟩) P0 (by kernel_rfl)
theorem ldb_54 (n:Nat):LB prog w LI n "6" .next:=fun loc=>semB_run (σ:=⟨("sign", .str "6")::loc,[],[]⟩) P0 (by kernel_rfl)
theorem ldb_55 (n:Nat):LB prog w LI n "7" .next:=fun loc=>semB_run (σ:=⟨("sign", .str "7")::loc,[],[]⟩) P0 (by kernel_rfl)
theorem ldb_56 (n:Nat):LB prog w LI n "8" .next:=fun loc=>semB_run (σ:=⟨("sign", .str "8")::loc,[],[]⟩) P0 (by kernel_rfl)
theorem ldb_57 (n:Nat):LB prog w LI n "9" .next:=fun loc=>semB_run (σ:=⟨("sign", .str "9")::loc,[],[]⟩) P0 (by kernel_rfl)
theorem ldb_101 (n:Nat):LB prog w LI n "e" (.ret (.bool false)):=fun loc=>semB_run (σ:=⟨("sign", .str "e")::loc,[],[]⟩) P0 (by kernel_rfl)
theorem ldb_111 (n:Nat):LB prog w LI n "o" (.ret (.bool false)):=fun loc=>semB_run (σ:=⟨("sign", .str "o")::loc,[],[]⟩) P0 (by kernel_rfl)
theorem ldb_117 (n:Nat):LB prog w LI n "u" (.ret (.bool false)):=fun loc=>semB_run (σ:=⟨("sign", .str "u")::loc,[],[]⟩) P0 (by kernel_rfl)
theorem ldb_97 (n:Nat):LB prog w LI n "a" (.ret (.bool false)):=fun loc=>semB_run (σ:=⟨("sign", .str "a")::loc,[],[]⟩) P0 (by kernel_rfl)
theorem ld_x (n:Nat):LD prog w LI n "x" ltr true:=ld_of (y :="") (by kernel_rfl) (by kernel_rfl) .nil (by kernel_rfl)
theorem ld_y (n:Nat):LD prog w LI n "y" ltr true:=ld_of (y :="") (by kernel_rfl) (by kernel_rfl) .nil (by kernel_rfl)
theorem ld_x1 (n:Nat):LD prog w LI n "x1" ltr true:=ld_of (y :="1") (by kernel_rfl) (by kernel_rfl) (.next (ldb_49 n (lL "x1")) (.inl rfl) (fun _ _ h=>h) .nil) (by kernel_rfl)
theorem ld_x2 (n:Nat):LD prog w LI n "x2" ltr true:=ld_of (y :="2") (by kernel_rfl) (by kernel_rfl) (.next (ldb_50 n (lL "x2")) (.inl rfl) (fun _ _ h=>h) .nil) (by kernel_rfl)
theorem ld_x3 (n:Nat):LD prog w LI n "x3" ltr true:=ld_of (y :="3") (by kernel_rfl) (by kernel_rfl) (.next (ldb_51 n (lL "x3")) (.inl rfl) (fun _ _ h=>h) .nil) (by kernel_rfl)
theorem ld_x4 (n:Nat):LD prog w LI n "x4" ltr true:=ld_of (y :="4") (by kernel_rfl) (by kernel_rfl) (.next (ldb_52 n (lL "x4")) (.inl rfl) (fun _ _ h=>h) .nil) (by kernel_rfl)
theorem ld_x5 (n:Nat):LD prog w LI n "x5" ltr true:=ld_of (y :="5") (by kernel_rfl) (by kernel_rfl) (.next (ldb_53 n (lL "x5")) (.inl rfl) (fun _ _ h=>h) .nil) (by kernel_rfl)
theorem ld_x6 (n:Nat):LD prog w LI n "x6" ltr true:=ld_of (y :="6") (by kernel_rfl) (by kernel_rfl) (.next (ldb_54 n (lL "x6")) (.inl rfl) (fun _ _ h=>h) .nil) (by kernel_rfl)
theorem ld_x7 (n:Nat):LD prog w LI n "x7" ltr true:=ld_of (y :="7") (by kernel_rfl) (by kernel_rfl) (.next (ldb_55 n (lL "x7")) (.inl rfl) (fun _ _ h=>h) .nil) (by kernel_rfl)
theorem ld_x8 (n:Nat):LD prog w LI n "x8" ltr true:=ld_of (y :="8") (by kernel_rfl) (by kernel_rfl) (.next (ldb_56 n (lL "x8")) (.inl rfl) (fun _ _ h=>h) .nil) (by kernel_rfl)
theorem ld_x9 (n:Nat):LD prog w LI n "x9" ltr true:=ld_of (y :="9") (by kernel_rfl) (by kernel_rfl) (.next (ldb_57 n (lL "x9")) (.inl rfl) (fun _ _ h=>h) .nil) (by kernel_rfl)
theorem ld_y1 (n:Nat):LD prog w LI n "y1" ltr true:=ld_of (y :="1") (by kernel_rfl) (by kernel_rfl) (.next (ldb_49 n (lL "y1")) (.inl rfl) (fun _ _ h=>h) .nil) (by kernel_rfl)
theorem ld_y2 (n:Nat):LD prog w LI n "y2" ltr true:=ld_of (y :="2") (by kernel_rfl) (by kernel_rfl) (.next (ldb_50 n (lL "y2")) (.inl rfl) (fun _ _ h=>h) .nil) (by kernel_rfl)
theorem ld_y3 (n:Nat):LD prog w LI n "y3" ltr true:=ld_of (y :="3") (by kernel_rfl) (by kernel_rfl) (.next (ldb_51 n (lL "y3")) (.inl rfl) (fun _ _ h=>h) .nil) (by kernel_rfl)
theorem ld_y4 (n:Nat):LD prog w LI n "y4" ltr true:=ld_of (y :="4") (by kernel_rfl) (by kernel_rfl) (.next (ldb_52 n (lL "y4")) (.inl rfl) (fun _ _ h=>h) .nil) (by kernel_rfl)
theorem ld_y5 (n:Nat):LD prog w LI n "y5" ltr true:=ld_of (y :="5") (by kernel_rfl) (by kernel_rfl) (.next (ldb_53 n (lL "y5")) (.inl rfl) (fun _ _ h=>h) .nil) (by kernel_rfl)
theorem ld_y6 (n:Nat):LD prog w LI n "y6" ltr true:=ld_of (y :="6") (by kernel_rfl) (by kernel_rfl) (.next (ldb_54 n (lL "y6")) (.inl rfl) (fun _ _ h=>h) .nil) (by kernel_rfl)
theorem ld_y7 (n:Nat):LD prog w LI n "y7" ltr true:=ld_of (y :="7") (by kernel_rfl) (by kernel_rfl) (.next (ldb_55 n (lL "y7")) (.inl rfl) (fun _ _ h=>h) .nil) (by kernel_rfl)
theorem ld_y8 (n:Nat):LD prog w LI n "y8" ltr true:=ld_of (y :="8") (by kernel_rfl) (by kernel_rfl) (.next (ldb_56 n (lL "y8")) (.inl rfl) (fun _ _ h=>h) .nil) (by kernel_rfl)
theorem ld_y9 (n:Nat):LD prog w LI n "y9" ltr true:=ld_of (y :="9") (by kernel_rfl) (by kernel_rfl) (.next (ldb_57 n (lL "y9")) (.inl rfl) (fun _ _ h=>h) .nil) (by kernel_rfl)
theorem ldi_rex (n:Nat):LD prog w LI n "rex" ltr false:=ld_of (y :="ex") (by kernel_rfl) (by kernel_rfl) (.ret (ldb_101 n (lL "rex"))) (by kernel_rfl)
theorem ldf_rex (n:Nat):LD prog w LI n "rex" "ABCDEFGHIJKLMNOPQRSTUVWXYZ" false:=(F946 w.params).ret0 (n:=n) (cs:=[]) (.bool false) [.str "rex", .str "ABCDEFGHIJKLMNOPQRSTUVWXYZ"] [] P0 (clo0_clo rfl) (Nat.le_refl _) rfl (by kernel_rfl)
theorem lde_rex (n:Nat):LD prog w LI n "rex" "e" false:=(F946 w.params).ret0 (n:=n) (cs:=[]) (.bool false) [.str "rex", .str "e"] [] P0 (clo0_clo rfl) (Nat.le_refl _) rfl (by kernel_rfl)
theorem ldi_tom (n:Nat):LD prog w LI n "tom" ltr false:=ld_of (y :="om") (by kernel_rfl) (by kernel_rfl) (.ret (ldb_111 n (lL "tom"))) (by kernel_rfl)
theorem ldf_tom (n:Nat):LD prog w LI n "tom" "ABCDEFGHIJKLMNOPQRSTUVWXYZ" false:=(F946 w.params).ret0 (n:=n) (cs:=[]) (.bool false) [.str "tom", .str "ABCDEFGHIJKLMNOPQRSTUVWXYZ"] [] P0 (clo0_clo rfl) (Nat.le_refl _) rfl (by kernel_rfl)
theorem lde_tom (n:Nat):LD prog w LI n "tom" "e" false:=(F946 w.params).ret0 (n:=n) (cs:=[]) (.bool false) [.str "tom", .str "e"] [] P0 (clo0_clo rfl) (Nat.le_refl _) rfl (by kernel_rfl)
theorem ldi_mother (n:Nat):LD prog w LI n "mother" ltr false:=ld_of (y :="other") (by kernel_rfl) (by kernel_rfl) (.ret (ldb_111 n (lL "mother"))) (by kernel_rfl)
theorem ldf_mother (n:Nat):LD prog w LI n "mother" "ABCDEFGHIJKLMNOPQRSTUVWXYZ" false:=(F946 w.params).ret0 (n:=n) (cs:=[]) (.bool false) [.str "mother", .str "ABCDEFGHIJKLMNOPQRSTUVWXYZ"] [] P0 (clo0_clo rfl) (Nat.le_refl _) rfl (by kernel_rfl)
theorem lde_mother (n:Nat):LD prog w LI n "mother" "e" false:=(F946 w.params).ret0 (n:=n) (cs:=[]) (.bool false) [.str "mother", .str "e"] [] P0 (clo0_clo rfl) (Nat.le_refl _) rfl (by kernel_rfl)
theorem ldi_father (n:Nat):LD prog w LI n "father" ltr false:=ld_of (y :="ather") (by kernel_rfl) (by kernel_rfl) (.ret (ldb_97 n (lL "father"))) (by kernel_rfl)
theorem ldf_father (n:Nat):LD prog w LI n "father" "ABCDEFGHIJKLMNOPQRSTUVWXYZ" false:=(F946 w.params).ret0 (n:=n) (cs:=[]) (.bool false) [.str "father", .str "ABCDEFGHIJKLMNOPQRSTUVWXYZ"] [] P0 (clo0_clo rfl) (Nat.le_refl _) rfl (by kernel_rfl)
theorem lde_father (n:Nat):LD prog w LI n "father" "e" false:=(F946 w.params).ret0 (n:=n) (cs:=[]) (.bool false) [.str "father", .str "e"] [] P0 (clo0_clo rfl) (Nat.le_refl _) rfl (by kernel_rfl)
theorem ldi_sum (n:Nat):LD prog w LI n "sum" ltr false:=ld_of (y :="um") (by kernel_rfl) (by kernel_rfl) (.ret (ldb_117 n (lL "sum"))) (by kernel_rfl)
theorem ldf_sum (n:Nat):LD prog w LI n "sum" "ABCDEFGHIJKLMNOPQRSTUVWXYZ" false:=(F946 w.params).ret0 (n:=n) (cs:=[]) (.bool false) [.str "sum", .str "ABCDEFGHIJKLMNOPQRSTUVWXYZ"] [] P0 (clo0_clo rfl) (Nat.le_refl _) rfl (by kernel_rfl)
theorem lde_sum (n:Nat):LD prog w LI n "sum" "e" false:=(F946 w.params).ret0 (n:=n) (cs:=[]) (.bool false) [.str "sum", .str "e"] [] P0 (clo0_clo rfl) (Nat.le_refl _) rfl (by kernel_rfl)
end
noncomputable def nameL:List Str:=["x","y","x1","x2","x3","x4","x5","x6","x7","x8","x9","y1","y2","y3","y4","y5","y6","y7","y8","y9"]
section
variable {prog:Program} {w:World} {LI:Nat→Option LamInfo}
theorem ld_name (n:Nat):∀ s∈nameL,LD prog w LI n s ltr true:=all_cons (ld_x n) (all_cons (ld_y n) (all_cons (ld_x1 n) (all_cons (ld_x2 n) (all_cons (ld_x3 n) (all_cons (ld_x4 n) (all_cons (ld_x5 n) (all_cons (ld_x6 n) (all_cons (ld_x7 n) (all_cons (ld_x8 n) (all_cons (ld_x9 n) (all_cons (ld_y1 n) (all_cons (ld_y2 n) (all_cons (ld_y3 n) (all_cons (ld_y4 n) (all_cons (ld_y5 n) (all_cons (ld_y6 n) (all_cons (ld_y7 n) (all_cons (ld_y8 n) (all_cons (ld_y9 n) (nofun))))))))))))))))))))
theorem ind_name (n:Nat) (s:Str) (hs:s∈nameL):Con prog w LI (n+6) (.fn 953) [] [.str s] [] (.ok (.bool true)) [] :=
 (F953 w.params).ret0 (n:=n+3) (cs:=[]) (.bool true) [.str s] [.c (.ok (.bool true))] (P1 (ld_name (prog:=prog) (w:=w) (LI:=LI) n s hs)) (clo0_clo rfl) (by omega) rfl (by kernel_rfl)
theorem vex_name (n:Nat) (s:Str) (hs:s∈nameL):Con prog w LI (n+9) (.fn 587) [] [.vr s] [] (.ok (.ex (.var s))) [] :=
 (F587 w.params).ret0 (n:=n+6) (cs:=[]) (.ex (.var s)) [.vr s] [.c (.ok (.bool true)),.c (.ok (.ex (.var s)))] (P2 (ind_name (prog:=prog) (w:=w) (LI:=LI) n s hs) ((ivar_new (prog:=prog) (w:=w) (LI:=LI) n s).mono (by omega:n+4≤n+6))) (clo_ex _) (by omega) rfl (by kernel_rfl)
theorem indf (n:Nat) (x:Str) (h:LD prog w LI n x ltr false):Con prog w LI (n+6) (.fn 953) [] [.str x] [] (.ok (.bool false)) [] :=
 (F953 w.params).ret0 (n:=n+3) (cs:=[]) (.bool false) [.str x] [.c (.ok (.bool false))] (P1 h) (clo0_clo rfl) (Nat.le_refl _) rfl (by kernel_rfl)
theorem funf (n:Nat) (x:Str) (h:LD prog w LI n x "ABCDEFGHIJKLMNOPQRSTUVWXYZ" false):Con prog w LI (n+6) (.fn 960) [] [.str x] [] (.ok (.bool false)) [] :=
 (F960 w.params).ret0 (n:=n+3) (cs:=[]) (.bool false) [.str x] [.c (.ok (.bool false))] (P1 h) (clo0_clo rfl) (Nat.le_refl _) rfl (by kernel_rfl)
theorem evtf (n:Nat) (x:Str) (h:LD prog w LI n x "e" false):Con prog w LI (n+6) (.fn 967) [] [.str x] [] (.ok (.bool false)) [] :=
 (F967 w.params).ret0 (n:=n+3) (cs:=[]) (.bool false) [.str x] [.c (.ok (.bool false))] (P1 h) (clo0_clo rfl) (Nat.le_refl _) rfl (by kernel_rfl)
theorem con_new_at (n:Nat) (c:C5) (s:Str) (h:s=c.nm):Con prog w LI (n+4) (.fn 578) [] [.vr s] [] (.ok (.ex (.con c))) []:=by subst h;exact con_new n c
theorem vex_con (n:Nat) (c:C5):Con prog w LI (n+9) (.fn 587) [] [.vr c.nm] [] (.ok (.ex (.con c))) []:=by
 have key:∀ s:Str,s=c.nm→Con prog w LI (n+6) (.fn 953) [] [.str s] [] (.ok (.bool false)) []→Con prog w LI (n+6) (.fn 960) [] [.str s] [] (.ok (.bool false)) []→Con prog w LI (n+6) (.fn 967) [] [.str s] [] (.ok (.bool false)) [] →
   Con prog w LI (n+9) (.fn 587) [] [.vr s] [] (.ok (.ex (.con c))) []:=fun s hs h1 h2 h3 =>
  (F587 w.params).ret0 (n:=n+6) (cs:=[]) (.ex (.con c)) [.vr s] [.c (.ok (.bool false)),.c (.ok (.bool false)),.c (.ok (.bool false)),.c (.ok (.ex (.con c)))] (PC h1 (P3 h2 h3 ((con_new_at (prog:=prog) (w:=w) (LI:=LI) n c s hs).mono (by omega:n+4≤n+6)))) (clo_ex _) (by omega) rfl (by kernel_rfl)
 cases c with
 | rex=>exact key _ rfl (indf n _ (ldi_rex n)) (funf n _ (ldf_rex n)) (evtf n _ (lde_rex n))
 | tom=>exact key _ rfl (indf n _ (ldi_tom n)) (funf n _ (ldf_tom n)) (evtf n _ (lde_tom n))
 | mother=>exact key _ rfl (indf n _ (ldi_mother n)) (funf n _ (ldf_mother n)) (evtf n _ (lde_mother n))
 | father=>exact key _ rfl (indf n _ (ldi_father n)) (funf n _ (ldf_father n)) (evtf n _ (lde_father n))
 | sum=>exact key _ rfl (indf n _ (ldi_sum n)) (funf n _ (ldf_sum n)) (evtf n _ (lde_sum n))
end
def T.ok:T→Prop
 | .n s=>s∈nameL
 | .ni _=>False
 | .rex=>True
 | .tom=>True
 | .mo t=>t.ok
 | .fa t=>t.ok
 | .su a b=>a.ok∧b.ok
noncomputable def toE:T→X
 | .n s=>.var s
 | .ni _=>.con .rex
 | .rex=>.con .rex
 | .tom=>.con .tom
 | .mo t=>.app (.con .mother) (toE t)
 | .fa t=>.app (.con .father) (toE t)
 | .su a b=>.app (.app (.con .sum) (toE a)) (toE b)
noncomputable def T.ht:T→Nat
 | .mo t=>t.ht+1
 | .fa t=>t.ht+1
 | .su a b=>max a.ht b.ht+1
 | _=>0
theorem ex_ok (P:Params):(forOk (stAt P 1066 2)&&isName "part" (forT (stAt P 1066 2))&&plainIter (forI (stAt P 1066 2)))=true:=by kernel_rfl
theorem ex_loc (P:Params) (n:Nat):(Gf P n 1066).cs.names.lookup ("part": Str)=some NameKind.local:=by kernel_rfl
section
variable {prog:Program} {w:World} {LI:Nat→Option LamInfo}
theorem ex_turn (n:Nat) (m:X) (t:T) (x:X) (loc:List (Str×V)) (h1:Con prog w LI n (.fn 1066) [] [.tr t] [] (.ok (.ex x)) []) (h2:Con prog w LI n (.fn 426) [] [.ex m,.ex x] [] (.ok (.ex (.app m x))) []) :
  SemB prog w LI (Gf w.params n 1066) (forB (stAt w.params 1066 2)) ⟨("part", .tr t)::("made", .ex m)::loc,[]⟩ (.ok .next) ⟨("made", .ex (.app m x))::("part", .tr t)::("made", .ex m)::loc,[]⟩ :=
 semB_run (σ:=⟨("part", .tr t)::("made", .ex m)::loc,[],[.c (.ok (.ex x)),.c (.ok (.ex (.app m x)))]⟩) (P2 h1 h2) (by kernel_rfl)
theorem ok (w:World):forOk (stAt w.params 1066 2)=true∧isName "part" (forT (stAt w.params 1066 2))=true∧plainIter (forI (stAt w.params 1066 2))=true:=by
 have h:=ex_ok w.params
 rw [Bool.and_eq_true,Bool.and_eq_true] at h
 exact ⟨h.1.1,h.1.2,h.2⟩
theorem expr_con:∀ t:T,t.ok→∀ n,Con prog w LI (n+3 * t.ht+12) (.fn 1066) [] [.tr t] [] (.ok (.ex (toE t))) []
 | .n s,hok,n=>(F1066 w.params).ret0 (n:=n+9) (cs:=[]) (.ex (.var s)) [.tr (.n s)] [.c (.ok (.vr s)),.c (.ok (.ex (.var s)))] (P2 ((var_new (prog:=prog) (w:=w) (LI:=LI) n s).mono (show n+4≤n+9 from Nat.add_le_add_left (by decide) n)) (vex_name (prog:=prog) (w:=w) (LI:=LI) n s hok)) (clo_ex _) (Nat.le_refl _) rfl (by kernel_rfl)
 | .ni _,hok,n=>hok.elim
 | .rex,hok,n=>(F1066 w.params).ret0 (n:=n+9) (cs:=[]) (.ex (.con .rex)) [.tr .rex] [.c (.ok (.vr "rex")),.c (.ok (.ex (.con .rex)))] (P2 ((var_new (prog:=prog) (w:=w) (LI:=LI) n "rex").mono (show n+4≤n+9 from Nat.add_le_add_left (by decide) n)) (vex_con (prog:=prog) (w:=w) (LI:=LI) n .rex)) (clo_ex _) (Nat.le_refl _) rfl (by kernel_rfl)
 | .tom,hok,n=>(F1066 w.params).ret0 (n:=n+9) (cs:=[]) (.ex (.con .tom)) [.tr .tom] [.c (.ok (.vr "tom")),.c (.ok (.ex (.con .tom)))] (P2 ((var_new (prog:=prog) (w:=w) (LI:=LI) n "tom").mono (show n+4≤n+9 from Nat.add_le_add_left (by decide) n)) (vex_con (prog:=prog) (w:=w) (LI:=LI) n .tom)) (clo_ex _) (Nat.le_refl _) rfl (by kernel_rfl)
 | .mo t,hok,n=>by
  have ih:Con prog w LI (n+3 * t.ht+12) (.fn 1066) [] [.tr t] [] (.ok (.ex (toE t))) []:=expr_con t hok n
  have h1:Con prog w LI (n+3 * t.ht+12) (.fn 129) [] [.str "mother"] [] (.ok (.vr "mother")) []:=(var_new n _).mono (mx0 _ _ (by decide))
  have h2:Con prog w LI (n+3 * t.ht+12) (.fn 587) [] [.vr "mother"] [] (.ok (.ex (.con .mother))) []:=(vex_con n .mother).mono (mx0 _ _ (by decide))
  have h3:Con prog w LI (n+3 * t.ht+12) (.fn 426) [] [.ex (.con .mother),.ex (toE t)] [] (.ok (.ex (.app (.con .mother) (toE t)))) []:=(app_new n _ _).mono (mx0 _ _ (by decide))
  have hl:SemS prog w LI (Gf w.params (n+3 * t.ht+12) 1066) (stAt w.params 1066 2) ⟨[("made", .ex (.con .mother)),("tree", .tr (.mo t))],[]⟩ (.ok .next) _ :=
   for_tup_st (v:=.tup [.tr t]) (σ:=⟨[("made", .ex (.con .mother)),("tree", .tr (.mo t))],[],[]⟩) (ok w).1 (ok w).2.1 (ex_loc _ _) (ok w).2.2 (by kernel_rfl) rfl
    (Loop.next (ex_turn _ (.con .mother) t (toE t) [("tree", .tr (.mo t))] ih h3) (.inl rfl) (fun _ _ h=>h) Loop.nil)
  exact (F1066 w.params).ret0 (n:=n+3 * t.ht+12) (cs:=[]) (.ex (.app (.con .mother) (toE t))) [.tr (.mo t)] [.c (.ok (.vr "mother")),.c (.ok (.ex (.con .mother))),.st (.ok .next) [("made", .ex (.app (.con .mother) (toE t))),("part", .tr t),("made", .ex (.con .mother)),("tree", .tr (.mo t))] []] (P3 h1 h2 hl) (clo_ex _) (mx3 ..) rfl (by kernel_rfl)
 | .fa t,hok,n=>by
  have ih:Con prog w LI (n+3 * t.ht+12) (.fn 1066) [] [.tr t] [] (.ok (.ex (toE t))) []:=expr_con t hok n
  have h1:Con prog w LI (n+3 * t.ht+12) (.fn 129) [] [.str "father"] [] (.ok (.vr "father")) []:=(var_new n _).mono (mx0 _ _ (by decide))
  have h2:Con prog w LI (n+3 * t.ht+12) (.fn 587) [] [.vr "father"] [] (.ok (.ex (.con .father))) []:=(vex_con n .father).mono (mx0 _ _ (by decide))
  have h3:Con prog w LI (n+3 * t.ht+12) (.fn 426) [] [.ex (.con .father),.ex (toE t)] [] (.ok (.ex (.app (.con .father) (toE t)))) []:=(app_new n _ _).mono (mx0 _ _ (by decide))
  have hl:SemS prog w LI (Gf w.params (n+3 * t.ht+12) 1066) (stAt w.params 1066 2) ⟨[("made", .ex (.con .father)),("tree", .tr (.fa t))],[]⟩ (.ok .next) _ :=
   for_tup_st (v:=.tup [.tr t]) (σ:=⟨[("made", .ex (.con .father)),("tree", .tr (.fa t))],[],[]⟩) (ok w).1 (ok w).2.1 (ex_loc _ _) (ok w).2.2 (by kernel_rfl) rfl
    (Loop.next (ex_turn _ (.con .father) t (toE t) [("tree", .tr (.fa t))] ih h3) (.inl rfl) (fun _ _ h=>h) Loop.nil)
  exact (F1066 w.params).ret0 (n:=n+3 * t.ht+12) (cs:=[]) (.ex (.app (.con .father) (toE t))) [.tr (.fa t)] [.c (.ok (.vr "father")),.c (.ok (.ex (.con .father))),.st (.ok .next) [("made", .ex (.app (.con .father) (toE t))),("part", .tr t),("made", .ex (.con .father)),("tree", .tr (.fa t))] []] (P3 h1 h2 hl) (clo_ex _) (mx3 ..) rfl (by kernel_rfl)
 | .su a b,hok,n=>by
  have ia:Con prog w LI (n+3 * max a.ht b.ht+12) (.fn 1066) [] [.tr a] [] (.ok (.ex (toE a))) []:=(expr_con a hok.1 n).mono (mxL ..)
  have ib:Con prog w LI (n+3 * max a.ht b.ht+12) (.fn 1066) [] [.tr b] [] (.ok (.ex (toE b))) []:=(expr_con b hok.2 n).mono (mxR ..)
  have h1:Con prog w LI (n+3 * max a.ht b.ht+12) (.fn 129) [] [.str "sum"] [] (.ok (.vr "sum")) []:=(var_new n _).mono (mx0 _ _ (by decide))
  have h2:Con prog w LI (n+3 * max a.ht b.ht+12) (.fn 587) [] [.vr "sum"] [] (.ok (.ex (.con .sum))) []:=(vex_con n .sum).mono (mx0 _ _ (by decide))
  have h3:Con prog w LI (n+3 * max a.ht b.ht+12) (.fn 426) [] [.ex (.con .sum),.ex (toE a)] [] (.ok (.ex (.app (.con .sum) (toE a)))) []:=(app_new n _ _).mono (mx0 _ _ (by decide))
  have h4:Con prog w LI (n+3 * max a.ht b.ht+12) (.fn 426) [] [.ex (.app (.con .sum) (toE a)),.ex (toE b)] [] (.ok (.ex (.app (.app (.con .sum) (toE a)) (toE b)))) []:=(app_new n _ _).mono (mx0 _ _ (by decide))
  have hl:SemS prog w LI (Gf w.params (n+3 * max a.ht b.ht+12) 1066) (stAt w.params 1066 2) ⟨[("made", .ex (.con .sum)),("tree", .tr (.su a b))],[]⟩ (.ok .next) _ :=
   for_tup_st (v:=.tup [.tr a,.tr b]) (σ:=⟨[("made", .ex (.con .sum)),("tree", .tr (.su a b))],[],[]⟩) (ok w).1 (ok w).2.1 (ex_loc _ _) (ok w).2.2 (by kernel_rfl) rfl
    (Loop.next (ex_turn _ (.con .sum) a (toE a) [("tree", .tr (.su a b))] ia h3) (.inl rfl) (fun _ _ h=>h)
     (Loop.next (ex_turn _ (.app (.con .sum) (toE a)) b (toE b) [("part", .tr a),("made", .ex (.con .sum)),("tree", .tr (.su a b))] ib h4) (.inl rfl) (fun _ _ h=>h) Loop.nil))
  exact (F1066 w.params).ret0 (n:=n+3 * max a.ht b.ht+12) (cs:=[]) (.ex (.app (.app (.con .sum) (toE a)) (toE b))) [.tr (.su a b)] [.c (.ok (.vr "sum")),.c (.ok (.ex (.con .sum))),.st (.ok .next) [("made", .ex (.app (.app (.con .sum) (toE a)) (toE b))),("part", .tr b),("made", .ex (.app (.con .sum) (toE a))),("part", .tr a),("made", .ex (.con .sum)),("tree", .tr (.su a b))] []] (P3 h1 h2 hl) (clo_ex _) (mx3 ..) rfl (by kernel_rfl)
end
section
variable {prog:Program} {w:World} {LI:Nat→Option LamInfo}
theorem tree_con:∀ t:T,t.ok→∀ n,Con prog w LI (n+3 * t.ht+3) (.fn 1073) [] [.ex (toE t)] [] (.ok (.tr t)) []
 | .n s,hok,n=>(F1073 w.params).ret0 (n:=n) (cs:=[]) (.tr (.n s)) [.ex (.var s)] [] P0 (clo_tr _) (mx0 _ _ (by decide)) rfl (by kernel_rfl)
 | .ni _,hok,n=>hok.elim
 | .rex,hok,n=>(F1073 w.params).ret0 (n:=n) (cs:=[]) (.tr .rex) [.ex (.con .rex)] [] P0 (clo_tr _) (mx0 _ _ (by decide)) rfl (by kernel_rfl)
 | .tom,hok,n=>(F1073 w.params).ret0 (n:=n) (cs:=[]) (.tr .tom) [.ex (.con .tom)] [] P0 (clo_tr _) (mx0 _ _ (by decide)) rfl (by kernel_rfl)
 | .mo t,hok,n=>by
  have ih:Con prog w LI (n+3 * t.ht+3) (.fn 1073) [] [.ex (toE t)] [] (.ok (.tr t)) []:=tree_con t hok n
  exact (F1073 w.params).ret0 (n:=n+3 * t.ht+3) (cs:=[]) (.tr (.mo t)) [.ex (.app (.con .mother) (toE t))] [.c (.ok (.tr t))] (P1 ih) (clo_tr _) (mx3 ..) rfl (by kernel_rfl)
 | .fa t,hok,n=>by
  have ih:Con prog w LI (n+3 * t.ht+3) (.fn 1073) [] [.ex (toE t)] [] (.ok (.tr t)) []:=tree_con t hok n
  exact (F1073 w.params).ret0 (n:=n+3 * t.ht+3) (cs:=[]) (.tr (.fa t)) [.ex (.app (.con .father) (toE t))] [.c (.ok (.tr t))] (P1 ih) (clo_tr _) (mx3 ..) rfl (by kernel_rfl)
 | .su a b,hok,n=>by
  have ia:Con prog w LI (n+3 * max a.ht b.ht+3) (.fn 1073) [] [.ex (toE a)] [] (.ok (.tr a)) []:=(tree_con a hok.1 n).mono (mxL ..)
  have ib:Con prog w LI (n+3 * max a.ht b.ht+3) (.fn 1073) [] [.ex (toE b)] [] (.ok (.tr b)) []:=(tree_con b hok.2 n).mono (mxR ..)
  exact (F1073 w.params).ret0 (n:=n+3 * max a.ht b.ht+3) (cs:=[]) (.tr (.su a b)) [.ex (.app (.app (.con .sum) (toE a)) (toE b))] [.c (.ok (.tr a)),.c (.ok (.tr b))] (P2 ia ib) (clo_tr _) (mx3 ..) rfl (by kernel_rfl)
end
section
variable {prog:Program} {w:World} {LI:Nat→Option LamInfo}
theorem made_con (n:Nat) (f a:X) (e:X) (he:e.cls=426):Con prog w LI (n+7) (.fn 358) [] [.ex e,.lst [.ex f,.ex a]] [] (.ok (.ex (.app f a))) [] :=
 (F358 w.params).ret0 (n:=n+4) (cs:=[]) (.ex (.app f a)) [.ex e,.lst [.ex f,.ex a]] [.c (.ok (.ex (.app f a)))] (P1 (app_new (prog:=prog) (w:=w) (LI:=LI) n f a)) (clo_ex _) (by omega) rfl (by kernel_rfl)
theorem ivfree (n:Nat) (s:Str):Con prog w LI (n+3) (.fn 504) [] [.ex (.var s)] [] (.ok (.lv [s])) [] :=
 (F504 w.params).ret0 (n:=n) (cs:=[]) (.lv [s]) [.ex (.var s)] [.v (.lv [s])] (P1 (show (V.lv [s]).elems=some [.vr s] from rfl)) (clo_lv _) (by omega) rfl (by kernel_rfl)
theorem ivconst (n:Nat) (s:Str):Con prog w LI (n+3) (.fn 511) [] [.ex (.var s)] [] (.ok (.lv [])) [] :=
 (F511 w.params).ret0 (n:=n) (cs:=[]) (.lv []) [.ex (.var s)] [.v (.lv [])] (P1 (show (V.lv []).elems=some [] from rfl)) (clo_lv _) (by omega) rfl (by kernel_rfl)
theorem cofree (n:Nat) (c:C5):Con prog w LI (n+3) (.fn 568) [] [.ex (.con c)] [] (.ok (.lv [])) [] :=
 (F568 w.params).ret0 (n:=n) (cs:=[]) (.lv []) [.ex (.con c)] [.v (.lv [])] (P1 (show (V.lv []).elems=some [] from rfl)) (clo_lv _) (by omega) rfl (by kernel_rfl)
theorem coconst (n:Nat) (c:C5):Con prog w LI (n+3) (.fn 575) [] [.ex (.con c)] [] (.ok (.lv [c.nm])) [] :=
 (F575 w.params).ret0 (n:=n) (cs:=[]) (.lv [c.nm]) [.ex (.con c)] [.v (.lv [c.nm])] (P1 (show (V.lv [c.nm]).elems=some [.vr c.nm] from rfl)) (clo_lv _) (by omega) rfl (by kernel_rfl)
theorem avpred (n:Nat) (x:X):Con prog w LI (n+3) (.fn 464) [] [.ex x] [] (.ok (.lv [])) [] :=
 (F464 w.params).ret0 (n:=n) (cs:=[]) (.lv []) [.ex x] [.v (.lv [])] (P1 (show (V.lv []).elems=some [] from rfl)) (clo_lv _) (by omega) rfl (by kernel_rfl)
end
theorem k450 (P:Params):(K P).lookup 450=some (tu [.bool false,.bool true]):=by kernel_rfl
theorem F457 (P:Params):FnS P 457 ["self","variable","expression","replace_bound","alpha_convert"]:=by
 refine ⟨by kernel_rfl,by kernel_rfl,fun s us k h=>?_⟩
 obtain ⟨a,b,c,d,e,rfl⟩:=len5 h
 have hd:(fdat P 457).defaults=.ref 450:=by kernel_rfl
 refine BindsTo.of_defaults (items:=#[.bool false,.bool true]) (n:=0) hd (k _ _ (k450 P)) rfl (by unfold bindArgs;rfl) ?_
 kernel_rfl
section
variable {prog:Program} {w:World} {LI:Nat→Option LamInfo}
theorem avrepl_var (n:Nat) (t v:Str) (e:X):Con prog w LI (n+6) (.fn 457) [] [.ex (.var t),.vr v,.ex e,.bool false,.bool true] [] (.ok (.ex (if t==v then e else .var t))) []:=by
 have h:=var_eq (prog:=prog) (w:=w) (LI:=LI) n t v
 cases q:(t==v) with
 | true =>
  rw [q] at h
  exact (F457 w.params).ret0 (n:=n+3) (cs:=[]) (.ex e) [.ex (.var t),.vr v,.ex e,.bool false,.bool true] [.c (.ok (.bool true))] (P1 h) (clo_ex _) (by omega) rfl (by kernel_rfl)
 | false =>
  rw [q] at h
  exact (F457 w.params).ret0 (n:=n+3) (cs:=[]) (.ex (.var t)) [.ex (.var t),.vr v,.ex e,.bool false,.bool true] [.c (.ok (.bool false))] (P1 h) (clo_ex _) (by omega) rfl (by kernel_rfl)
theorem avrepl_con (n:Nat) (c:C5) (v:Str) (e:X):Con prog w LI (n+6) (.fn 457) [] [.ex (.con c),.vr v,.ex e,.bool false,.bool true] [] (.ok (.ex (if c.nm==v then e else .con c))) []:=by
 have h:=var_eq (prog:=prog) (w:=w) (LI:=LI) n c.nm v
 cases q:(c.nm==v) with
 | true =>
  rw [q] at h
  exact (F457 w.params).ret0 (n:=n+3) (cs:=[]) (.ex e) [.ex (.con c),.vr v,.ex e,.bool false,.bool true] [.c (.ok (.bool true))] (P1 h) (clo_ex _) (by omega) rfl (by kernel_rfl)
 | false =>
  rw [q] at h
  exact (F457 w.params).ret0 (n:=n+3) (cs:=[]) (.ex (.con c)) [.ex (.con c),.vr v,.ex e,.bool false,.bool true] [.c (.ok (.bool false))] (P1 h) (clo_ex _) (by omega) rfl (by kernel_rfl)
end
noncomputable def closL (cl:List (Str×Addr)):List (Str×NameKind)→List (Str×Addr)→List (Str×Addr)
 | [],acc=>acc
 | (n,k)::r,acc=>if k==.free then closL cl r ((n,(cl.lookup n).getD 0)::acc) else closL cl r acc
theorem closure_of {scope:Scope} {env:Env} (h:∀ p∈scope.names,p.2=.free→(env.cells.lookup p.1).isSome=true):closureFor scope env=pure (closL env.cells scope.names []):=by
 unfold closureFor
 have go:∀ (l:List (Str×NameKind)) (acc:List (Str×Addr)),(∀ p∈l,p.2=.free→(env.cells.lookup p.1).isSome=true) →
   (forIn l acc fun (x:Str×NameKind) r=>if (x.2==NameKind.free)=true then (do let a←cellOf env x.1;pure (ForInStep.yield ((x.1,a)::r))) else pure (ForInStep.yield r):Sem (List (Str×Addr)))=pure (closL env.cells l acc):=by
  intro l
  induction l with
  | nil=>intro acc _;rfl
  | cons p l ih =>
   intro acc hl
   obtain ⟨y,k⟩:=p
   rw [List.forIn_cons]
   unfold closL
   cases hk:(k==NameKind.free) with
   | true =>
    obtain ⟨c,hc⟩:=Option.isSome_iff_exists.mp (hl (y,k) (.head _) (beq_iff_eq.mp hk))
    simp only [if_true,cellOf,hc,Option.getD_some,pure_bind]
    exact ih _ fun q hq=>hl q (.tail _ hq)
   | false =>
    simp only [Bool.false_eq_true,if_false,pure_bind]
    exact ih _ fun q hq=>hl q (.tail _ hq)
 have:=go scope.names [] h
 simpa using this
noncomputable def lamE (P:Params) (f j:Nat):Expr:=match (bodyAt P f).getLastD (.Pass default) with
 | .Return (some (.Call _ args _ _)) _=>(args.drop j).headD (.Constant .none 0 default)
 | _=>.Constant .none 0 default
noncomputable def mkLI (q:Str):Expr→Option LamInfo
 | .Lambda ps b sc _=>some ⟨q,ps,b,sc,((sc.names.filter (fun x=>x.2==.free)).map (·.1)).reverse⟩
 | _=>none
noncomputable def LIx (P:Params):Nat→Option LamInfo
 | 0=>mkLI (tabQ 285) (lamE P 290 0)
 | 1=>mkLI (tabQ 285) (lamE P 290 1)
 | 2=>mkLI (tabQ 259) (lamE P 264 0)
 | 3=>mkLI (tabQ 273) (lamE P 278 1)
 | _=>none
noncomputable def lamOk (P:Params) (f i j:Nat):Bool:=match LIx P i,lamE P f j with
 | some I,.Lambda ps b sc _=>(I.scope.names.all fun x=>x.2 !=.free)&&((((fdat P f).qualname ++ ".<locals>.") ++ "<lambda>")==I.qual)&&I.caps.isEmpty
 | _,_=>false
def isLam:Expr→Bool
 | .Lambda ..=>true
 | _=>false
def lamPos:Expr→Pos
 | .Lambda _ _ _ p=>p
 | _=>default
noncomputable def LIg (P:Params) (i:Nat):LamInfo:=(LIx P i).getD ⟨"", default,.Constant .none 0 default,default,[]⟩
theorem LI_some (P:Params):([0,1,2,3]:List Nat).all (fun i=>(LIx P i).isSome)=true:=by kernel_rfl
theorem lam_is (P:Params):lamE P 290 0=.Lambda (LIg P 0).params (LIg P 0).body (LIg P 0).scope (lamPos (lamE P 290 0))∧lamE P 290 1=.Lambda (LIg P 1).params (LIg P 1).body (LIg P 1).scope (lamPos (lamE P 290 1)) ∧
  lamE P 264 0=.Lambda (LIg P 2).params (LIg P 2).body (LIg P 2).scope (lamPos (lamE P 264 0))∧lamE P 278 1=.Lambda (LIg P 3).params (LIg P 3).body (LIg P 3).scope (lamPos (lamE P 278 1)):=by
 refine ⟨?_,?_,?_,?_⟩<;>kernel_rfl
theorem LIg_eq (P:Params) {i:Nat} (h:i∈([0,1,2,3]:List Nat)):LIx P i=some (LIg P i):=by
 have:=List.all_eq_true.mp (LI_some P) i h
 obtain ⟨I,e⟩:=Option.isSome_iff_exists.mp this
 unfold LIg;rw [e];rfl
noncomputable def freeOf (P:Params) (i:Nat):List (Str×NameKind):=(LIg P i).scope.names
theorem lam_facts (P:Params):(([(290,0,285),(290,1,285),(264,2,259),(278,3,273)]:List (Nat×Nat×Nat)).all fun p=>((LIg P p.2.1).qual==tabQ p.2.2)&&((((fdat P p.1).qualname ++ ".<locals>.") ++ "<lambda>")==(LIg P p.2.1).qual) &&
  (match (LIg P p.2.1).params with | ⟨_,_,_,_,kwd,_,d⟩=>kwd.isEmpty&&d.isEmpty))=true:=by kernel_rfl
theorem defs_of {ps:Arguments} (h:(match ps with | ⟨_,_,_,_,kwd,_,d⟩=>kwd.isEmpty&&d.isEmpty)=true) (env:Env):defaultsOf ps env=([],[]):=by
 obtain ⟨a1,a2,a3,a4,a5,a6,a7⟩:=ps
 rw [Bool.and_eq_true] at h
 obtain rfl:=List.isEmpty_iff.mp h.1
 obtain rfl:=List.isEmpty_iff.mp h.2
 rfl
section
variable {prog:Program} {w:World}
theorem lam290 (n:Nat) (i j:Nat) (hi:(i=0∧j=0)∨(i=1∧j=1)) (σ:Ab):SemE prog w (LIx w.params) (Gf w.params n 290) (lamE w.params 290 j) σ (.ok (.lam i [])) σ:=by
 intro A a cl L F outer S φ ca s h
 have hI:LIx w.params i=some (LIg w.params i):=LIg_eq _ (by rcases hi with ⟨rfl,_⟩ | ⟨rfl,_⟩<;>decide)
 have fc:=List.all_eq_true.mp (lam_facts w.params) (290,i,285) (by rcases hi with ⟨rfl,_⟩ | ⟨rfl,_⟩<;>decide)
 rw [Bool.and_eq_true,Bool.and_eq_true] at fc
 obtain ⟨⟨f1,f2⟩,f3⟩:=fc
 have hno:((freeOf w.params 0).all (fun x=>x.2 !=.free)&&(freeOf w.params 1).all (fun x=>x.2 !=.free)&&(LIg w.params 0).caps.isEmpty&&(LIg w.params 1).caps.isEmpty)=true:=by kernel_rfl
 simp only [Bool.and_eq_true] at hno
 have hn:∀ p∈(LIg w.params i).scope.names,p.2≠.free:=fun p hp=>by
  rcases hi with ⟨rfl,_⟩ | ⟨rfl,_⟩
  ·have:=List.all_eq_true.mp hno.1.1.1 p hp;simpa using this
  ·have:=List.all_eq_true.mp hno.1.1.2 p hp;simpa using this
 have hcaps:[]=(LIg w.params i).caps:=by
  rcases hi with ⟨rfl,_⟩ | ⟨rfl,_⟩
  ·exact (List.isEmpty_iff.mp hno.1.2).symm
  ·exact (List.isEmpty_iff.mp hno.2).symm
 have e:lamE w.params 290 j=.Lambda (LIg w.params i).params (LIg w.params i).body (LIg w.params i).scope (lamPos (lamE w.params 290 j)):=by
  rcases hi with ⟨rfl,rfl⟩ | ⟨rfl,rfl⟩
  ·exact (lam_is w.params).1
  ·exact (lam_is w.params).2.1
 rw [e]
 exact lam_op (f:=290) (T:=285) (cvs:=[]) (clos:=[]) (us:=[]) (caps:=[]) (.head _) hI (beq_iff_eq.mp f1) (beq_iff_eq.mp f2) h (defs_of f3) (closureFor_none hn) hcaps (fun j x b q=>by simp at q) rfl .nil
noncomputable def X.fv:X→List Str
 | .var s=>[s]
 | .con _=>[]
 | .app f a=>uni (uni [] f.fv) a.fv
noncomputable def X.sz:X→Nat
 | .app f a=>f.sz+a.sz
 | _=>1
theorem X.fv_len:∀ x:X,x.fv.length≤x.sz
 | .var s=>Nat.le_refl _
 | .con _=>Nat.zero_le _
 | .app f a=>by
  have h1:=uni_len f.fv []
  have h2:=uni_len a.fv (uni [] f.fv)
  have h3:=f.fv_len
  have h4:=a.fv_len
  simp at h1
  show (uni (uni [] f.fv) a.fv).length≤f.sz+a.sz
  omega
theorem lam0_con (n:Nat) (x:X) (l:List Str) (h:Con prog w (LIx w.params) n (.fn (x.mt "free")) [] [.ex x] [] (.ok (.lv l)) []):Con prog w (LIx w.params) (n+3) (.lam 0 []) [] [.ex x] [] (.ok (.lv l)) [] :=
 (lam_con (names:=["e"]) (cs:=[]) (tr:=[.c (.ok (.lv l))]) (m:=40) (LIg_eq w.params (i:=0) (by decide)) (by kernel_rfl) (fun clos pm cdv ct us hu=>by obtain ⟨u,rfl⟩:=len1 hu;kernel_rfl) rfl (fun cd=>by kernel_rfl) (P1 h) (fun c q=>by cases q)).con (fun b e=>by cases e;exact clo_lv _) (.inl rfl)
theorem lam1_con (n:Nat) (a b:List Str) (hl:a.length+b.length<1000000):Con prog w (LIx w.params) (n+9) (.lam 1 []) [] [.lst [.lv a,.lv b]] [] (.ok (.lv (uni (uni [] a) b))) [] :=
 (lam_con (names:=["parts"]) (cs:=[]) (tr:=[.c (.ok (.lv (uni (uni [] a) b)))]) (m:=40) (LIg_eq w.params (i:=1) (by decide)) (by kernel_rfl) (fun clos pm cdv ct us hu=>by obtain ⟨u,rfl⟩:=len1 hu;kernel_rfl) rfl (fun cd=>by kernel_rfl) (P1 (union_con (prog:=prog) (w:=w) (LI:=LIx w.params) n a b hl)) (fun c q=>by cases q)).con (fun b e=>by cases e;exact clo_lv _) (.inl rfl)
end
noncomputable abbrev exK (d:List (Str×X)):List (Str×V):=d.map fun p=>(p.1,.ex p.2)
noncomputable abbrev bdC (d:List (Str×X)):List Cell:=[.flds [("d", .cell 1)],.dict (exK d)]
theorem exK_look (x:Str):∀ d:List (Str×X),(exK d).lookup x=(d.lookup x).map .ex
 | []=>rfl
 | (k,e)::d=>by
  show ((k,V.ex e)::exK d).lookup x=_
  rw [List.lookup_cons,List.lookup_cons]
  cases (x==k) with
  | true=>rfl
  | false=>exact exK_look x d
theorem exK_put (x:Str) (e:X) (d:List (Str×X)):putK (exK d) x (.ex e)=exK (putK d x e):=by
 unfold putK
 rw [show (exK d).any (fun kv=>decide (kv.1=x))=d.any (fun kv=>decide (kv.1=x)) from by rw [List.any_map];rfl]
 unfold exK
 split
 ·rw [List.map_map,List.map_map]
  apply List.map_congr_left
  intro p _
  show (if p.1=x then (p.1,V.ex e) else (p.1,V.ex p.2))=((if p.1=x then (p.1,e) else p).1,V.ex (if p.1=x then (p.1,e) else p).2)
  by_cases h:p.1=x
  ·rw [if_pos h,if_pos h]
  ·rw [if_neg h,if_neg h]
 ·rw [List.map_append];rfl
def ifB:Stmt→List Stmt
 | .If _ b _ _=>b
 | _=>[]
section
variable {prog:Program} {w:World} {LI:Nat→Option LamInfo}
theorem bd_has (n:Nat) (d:List (Str×X)) (x:Str):Con prog w LI (n+3) (.fn 1003) [] [.bd d,.vr x] [] (.ok (.bool (d.lookup x).isSome)) []:=by
 have e:((exK d).lookup x).isSome=(d.lookup x).isSome:=by rw [exK_look];cases d.lookup x<;>rfl
 rw [←e]
 exact (F1003 w.params).ret0 (n:=n) (cs:=[]) (.bool ((exK d).lookup x).isSome) [.bd d,.vr x] [] P0 (clo0_clo rfl) (by omega) rfl (by kernel_rfl)
theorem bd_get (n:Nat) (d:List (Str×X)) (x:Str) (e:X) (h:d.lookup x=some e):Con prog w LI (n+3) (.fn 996) [] [.bd d,.vr x] [] (.ok (.ex e)) [] :=
 (F996 w.params).ret0 (n:=n) (cs:=[]) (.ex e) [.bd d,.vr x] [.v (.ex e)] (P1 (show (exK d).lookup x=some (.ex e) from by rw [exK_look,h];rfl)) (clo_ex e) (by omega) rfl (by kernel_rfl)
theorem raw_get (n:Nat) (d:List (Str×X)) (x:Str) (e:X) (h:d.lookup x=some e):Con prog w LI (n+3) (.fn 996) (bdC d) [.raw 1020 0,.vr x] [] (.ok (.ex e)) (bdC d) :=
 (F996 w.params).run (n:=n) (out:=.ok (.ret (.ex e))) (cs:=bdC d) [.raw 1020 0,.vr x] (bdC d) [.v (.ex e)] rfl (by kernel_rfl) (P1 (show (exK d).lookup x=some (.ex e) from by rw [exK_look,h];rfl)) ⟨rfl,clo_ex e⟩ (.inl rfl)
theorem raw_miss (n:Nat) (d:List (Str×X)) (x:Str) (h:d.lookup x=none):Con prog w LI (n+3) (.fn 996) (bdC d) [.raw 1020 0,.vr x] [] (.err (.ty "KeyError")) (bdC d) :=
 (F996 w.params).run (n:=n) (out:=.err (.ty "KeyError")) (r:=.err (.ty "KeyError")) (cs:=bdC d) [.raw 1020 0,.vr x] (bdC d) [.b true,.b false] rfl (by kernel_rfl) (P2 (show true=true from rfl) (show (exK d).lookup x=none from by rw [exK_look,h];rfl)) rfl (.inl rfl)
noncomputable def seS (P:Params):Stmt:=(trySuite (stAt P 989 2)).headD default
theorem set_ok1 (P:Params):(tryOk (stAt P 989 2)&&isName "KeyError" (tryT (stAt P 989 2)))=true:=by kernel_rfl
theorem set_s1 (P:Params):trySuite (stAt P 989 2)=[.Assign [.Name "existing" ((kS (seS P)).getD 1 default).pos] (.Constant .none 0 ((kS (seS P)).headD default).pos) (seS P).pos]:=by kernel_rfl
theorem set_l1 (P:Params) (n:Nat):(Gf P n 989).cs.names.lookup ("existing": Str)=some NameKind.local:=by kernel_rfl
theorem set_l2 (P:Params) (n:Nat):(Gf P n 989).cs.names.lookup ("KeyError": Str)=some NameKind.globalImplicit:=by kernel_rfl
noncomputable abbrev seL (x:Str) (e:X):List (Str×V):=[("binding", .ex e),("variable", .vr x),("self", .raw 1020 0)]
theorem bdC_ne (d:List (Str×X)):∀ c∈bdC d,c≠.gone:=fun c hc=>by
 rcases List.mem_cons.mp hc with rfl | hc
 ·intro z;cases z
 ·rcases List.mem_cons.mp hc with rfl | hc
  ·intro z;cases z
  ·cases hc
theorem set_try0 (n:Nat) (d:List (Str×X)) (x:Str) (e:X) (h:d.lookup x=none):SemS prog w LI (Gf w.params (n+3) 989) (stAt w.params 989 2) ⟨seL x e,bdC d⟩ (.ok .next) ⟨("existing", .none)::seL x e,bdC d⟩:=by
 have ok:=Bool.and_eq_true_iff.mp (set_ok1 w.params)
 exact try_key ok.1 (semB_run (σ:=⟨seL x e,bdC d,[.ca (.err (.ty "KeyError")) (bdC d)]⟩) (P1 (raw_miss (prog:=prog) (w:=w) (LI:=LI) n d x h)) (by kernel_rfl)) (name_is ok.2 (set_l2 _ _) rfl (.inr ⟨_,rfl,rfl⟩)) (set_s1 w.params▸suite_none (set_l1 _ _)) (bdC_ne d)
theorem set_try1 (n:Nat) (d:List (Str×X)) (x:Str) (e e0:X) (h:d.lookup x=some e0):SemS prog w LI (Gf w.params (n+3) 989) (stAt w.params 989 2) ⟨seL x e,bdC d⟩ (.ok .next) ⟨("existing", .ex e0)::seL x e,bdC d⟩:=by
 exact try_ok (Bool.and_eq_true_iff.mp (set_ok1 w.params)).1 (semB_run (σ:=⟨seL x e,bdC d,[.ca (.ok (.ex e0)) (bdC d)]⟩) (P1 (raw_get (prog:=prog) (w:=w) (LI:=LI) n d x e0 h)) (by kernel_rfl))
theorem set_new (n:Nat) (d:List (Str×X)) (x:Str) (e:X) (h:d.lookup x=none) (hl:d.length<1000000):Con prog w LI (n+6) (.fn 989) (bdC d) [.raw 1020 0,.vr x,.ex e] [] (.ok .none) (bdC (putK d x e)):=by
 have r:=(F989 w.params).run (prog:=prog) (LI:=LI) (n:=n+3) (out:=.ok .next) (r:=.ok .none) (cs:=[.flds [("d", .cell 1)],.dict (putK (exK d) x (.ex e))]) [.raw 1020 0,.vr x,.ex e] (bdC d) [.st (.ok .next) (("existing", .none)::seL x e) (bdC d)] rfl (by kernel_rfl)
  (P2 (set_try0 (prog:=prog) (w:=w) (LI:=LI) n d x e h) (show (exK d).length<1000000 from by rw [List.length_map];exact hl)) ⟨rfl,clo0_clo rfl⟩ (.inl rfl)
 rw [exK_put] at r
 exact r
theorem set_same (n m:Nat) (hm:n+3≤m) (d:List (Str×X)) (x:Str) (e e0:X) (h:d.lookup x=some e0) (hl:d.length<1000000) (he:Con prog w LI m (.fn e.eqf) [] [.ex e,.ex e0] [] (.ok (.bool true)) []):Con prog w LI (m+3) (.fn 989) (bdC d) [.raw 1020 0,.vr x,.ex e] [] (.ok .none) (bdC (putK d x e)):=by
 obtain ⟨k,rfl⟩:∃ k,m=k+3:=⟨m - 3,by omega⟩
 have r:=(F989 w.params).run (prog:=prog) (LI:=LI) (n:=k+3) (out:=.ok .next) (r:=.ok .none) (cs:=[.flds [("d", .cell 1)],.dict (putK (exK d) x (.ex e))]) [.raw 1020 0,.vr x,.ex e] (bdC d) [.st (.ok .next) (("existing", .ex e0)::seL x e) (bdC d),.c (.ok (.bool true))] rfl (by kernel_rfl)
  (P3 (set_try1 (prog:=prog) (w:=w) (LI:=LI) k d x e e0 h) he (show (exK d).length<1000000 from by rw [List.length_map];exact hl)) ⟨rfl,clo0_clo rfl⟩ (.inl rfl)
 rw [exK_put] at r
 exact r
theorem set_clash (n m:Nat) (hm:n+3≤m) (d:List (Str×X)) (x:Str) (e e0:X) (h:d.lookup x=some e0) (hv:e.cls≠514) (he:Con prog w LI m (.fn e.eqf) [] [.ex e,.ex e0] [] (.ok (.bool false)) []):Con prog w LI (m+3) (.fn 989) (bdC d) [.raw 1020 0,.vr x,.ex e] [] (.err (.fn 1049)) (bdC d):=by
 obtain ⟨k,rfl⟩:∃ k,m=k+3:=⟨m - 3,by omega⟩
 cases e with
 | var s=>exact absurd rfl hv
 | con c=>exact (F989 w.params).run (prog:=prog) (LI:=LI) (n:=k+3) (out:=.err (.fn 1049)) (r:=.err (.fn 1049)) (cs:=bdC d) [.raw 1020 0,.vr x,.ex (.con c)] (bdC d) [.st (.ok .next) (("existing", .ex e0)::seL x (.con c)) (bdC d),.c (.ok (.bool false))] rfl (by kernel_rfl) (P2 (set_try1 (prog:=prog) (w:=w) (LI:=LI) k d x (.con c) e0 h) he) rfl (.inl rfl)
 | app f a =>
  have hs:=set_try1 (prog:=prog) (w:=w) (LI:=LI) k d x (.app f a) e0 h
  have hp:=P2 hs he
  exact (F989 w.params).run (prog:=prog) (LI:=LI) (n:=k+3) (out:=.err (.fn 1049)) (r:=.err (.fn 1049)) (cs:=bdC d) [.raw 1020 0,.vr x,.ex (.app f a)] (bdC d) [.st (.ok .next) (("existing", .ex e0)::seL x (.app f a)) (bdC d),.c (.ok (.bool false))] (by rfl) (by kernel_rfl) hp (by rfl) (.inl (by rfl))
theorem k975 (P:Params):(K P).lookup 975=some (tu [.none]):=by kernel_rfl
theorem B982 (P:Params) {s:Shared} (k:KIn P s.heap) (a:Value):BindsTo s (fdat P 982) ⟨[a],[]⟩ [("self", a),("binding_list", .none)]:=by
 have hd:(fdat P 982).defaults=.ref 975:=by kernel_rfl
 refine BindsTo.of_defaults (items:=#[.none]) (n:=0) hd (k _ _ (k975 P)) rfl (by unfold bindArgs;rfl) ?_
 kernel_rfl
theorem B982' (P:Params) {s:Shared} (k:KIn P s.heap) (a b:Value):BindsTo s (fdat P 982) ⟨[a,b],[]⟩ [("self", a),("binding_list", b)]:=by
 have hd:(fdat P 982).defaults=.ref 975:=by kernel_rfl
 refine BindsTo.of_defaults (items:=#[.none]) (n:=0) hd (k _ _ (k975 P)) rfl (by unfold bindArgs;rfl) ?_
 kernel_rfl
theorem f982:plainL.any (Nat.beq 982)=true:=by kernel_rfl
theorem n982 (P:Params):(["self","binding_list"].all fun x=>(fdat P 982).scope.names.lookup (Str.ofString x)==some .local)=true:=by kernel_rfl
theorem init0 (n:Nat):ConN prog w LI (n+3) (.fn 982) [.flds []] [.raw 1020 0] [] (.ok .none) (bdC []):=by
 have nm:=n982 w.params
 simp only [List.all_cons,List.all_nil,Bool.and_true,Bool.and_eq_true] at nm
 refine fn_conN (n:=n) (m:=40) (k:=40) (loc:=[("binding_list", .none),("self", .raw 1020 0)]) (tr:=[]) (out:=.ok .next) (σ':=⟨[("binding_list", .none),("self", .raw 1020 0)],bdC [],[]⟩) (ps:=[]) f982 (fun s us ks φ ca k ra rk=>?_) (by kernel_rfl) P0 rfl (fun c q=>by cases q)
 cases rk
 obtain ⟨u,rfl,r⟩:=ra.one
 refine ⟨_,B982 w.params k u,fun x hx=>?_,.cons .none (.cons r .nil)⟩
 rcases List.mem_cons.mp hx with rfl | hx
 ·exact beq_iff_eq.mp nm.1
 ·rcases List.mem_cons.mp hx with rfl | hx
  ·exact beq_iff_eq.mp nm.2
  ·cases hx
theorem new0 (n:Nat):ConN prog w LI (n+4) (.fn 1020) [] [] [] (.ok (.raw 1020 0)) (bdC []) :=
 cls_conN (C:=1020) (.tail _ (.tail _ (.tail _ (.tail _ (.head _))))) (init0 n) (CloVs.of nofun)
theorem new0_bd (n:Nat):Con prog w LI (n+4) (.fn 1020) [] [] [] (.ok (.bd [])) [] :=
 ConN.bd (d:=[]) (j:=0) (m:=1) (new0 n) rfl rfl (Nat.zero_le _) (Nat.zero_le _) nofun
noncomputable def inI (P:Params):Stmt:=(ifB (stAt P 982 1)).headD (.Pass default)
theorem in_ok (P:Params):(forOk (inI P)&&plainIter (forI (inI P)))=true:=by kernel_rfl
theorem in_t (P:Params):forT (inI P)=.Tuple [.Name "v" (pE (forT (inI P)) [0]),.Name "b" (pE (forT (inI P)) [1])] 0 (forT (inI P)).pos:=by kernel_rfl
theorem in_l (P:Params) (n:Nat):(Gf P n 982).cs.names.lookup ("v": Str)=some NameKind.local∧(Gf P n 982).cs.names.lookup ("b": Str)=some NameKind.local:=⟨by kernel_rfl,by kernel_rfl⟩
theorem init1 (n:Nat) (x:Str) (e:X):ConN prog w LI (n+9) (.fn 982) [.flds []] [.raw 1020 0,.lst [.tup [.vr x,.ex e]]] [] (.ok .none) (bdC [(x,e)]):=by
 have nm:=n982 w.params
 simp only [List.all_cons,List.all_nil,Bool.and_true,Bool.and_eq_true] at nm
 have ok:=Bool.and_eq_true_iff.mp (in_ok w.params)
 have hs:SemS prog w LI (Gf w.params (n+6) 982) (inI w.params) ⟨[("binding_list", .lst [.tup [.vr x,.ex e]]),("self", .raw 1020 0)],bdC []⟩ (.ok .next) ⟨[("binding_list", .lst [.tup [.vr x,.ex e]]),("self", .raw 1020 0)],bdC [(x,e)]⟩ :=
  for_pairs_st (v:=.lst [.tup [.vr x,.ex e]]) (vs:=[.tup [.vr x,.ex e]]) (σ:=⟨[("binding_list", .lst [.tup [.vr x,.ex e]]),("self", .raw 1020 0)],bdC [],[]⟩) ok.1 (in_t w.params) (in_l _ _).1 (in_l _ _).2 ok.2 (by kernel_rfl) rfl (one_of ⟨_,_,rfl⟩)
   (Loop.next (fl:=.next) (loc:=[("binding_list", .lst [.tup [.vr x,.ex e]]),("self", .raw 1020 0)]) (σ₁:=⟨("b", .ex e)::("v", .vr x)::[("binding_list", .lst [.tup [.vr x,.ex e]]),("self", .raw 1020 0)],bdC [(x,e)]⟩)
    (semB_run (σ:=⟨("b", .ex e)::("v", .vr x)::[("binding_list", .lst [.tup [.vr x,.ex e]]),("self", .raw 1020 0)],bdC [],[.ca (.ok .none) (bdC [(x,e)])]⟩) (P1 (set_new (prog:=prog) (w:=w) (LI:=LI) n [] x e rfl (by decide))) (by kernel_rfl)) (.inl rfl)
    (fun y u h=>weak1 (loc:=("v", .vr x)::[("binding_list", .lst [.tup [.vr x,.ex e]]),("self", .raw 1020 0)]) (by rfl) y u (weak1 (by rfl) y u h)) Loop.nil)
 refine fn_conN (n:=n+6) (m:=40) (k:=40) (loc:=[("binding_list", .lst [.tup [.vr x,.ex e]]),("self", .raw 1020 0)]) (tr:=[.st (.ok .next) [("binding_list", .lst [.tup [.vr x,.ex e]]),("self", .raw 1020 0)] (bdC [(x,e)])]) (out:=.ok .next) (σ':=⟨[("binding_list", .lst [.tup [.vr x,.ex e]]),("self", .raw 1020 0)],bdC [(x,e)],[]⟩) (ps:=[_]) f982 (fun s us ks φ ca k ra rk=>?_) (by kernel_rfl) (P1 hs) rfl (fun c q=>by cases q)
 cases rk
 obtain ⟨u,v,rfl,r,r'⟩:=ra.two
 refine ⟨_,B982' w.params k u v,fun x hx=>?_,.cons r' (.cons r .nil)⟩
 rcases List.mem_cons.mp hx with rfl | hx
 ·exact beq_iff_eq.mp nm.1
 ·rcases List.mem_cons.mp hx with rfl | hx
  ·exact beq_iff_eq.mp nm.2
  ·cases hx
theorem new1_bd (n:Nat) (x:Str) (e:X):Con prog w LI (n+10) (.fn 1020) [] [.lst [.tup [.vr x,.ex e]]] [] (.ok (.bd [(x,e)])) [] :=
 ConN.bd (d:=[(x,e)]) (j:=0) (m:=1) (cls_conN (C:=1020) (.tail _ (.tail _ (.tail _ (.tail _ (.head _))))) (init1 n x e) (clo_all (by rfl))) rfl rfl (Nat.zero_le _) (Nat.zero_le _) nofun
end
noncomputable def addB (d:List (Str×X)) (p:Str×X):Option (List (Str×X)):=match d.lookup p.1 with
 | none=>some (putK d p.1 p.2)
 | some e0=>if p.2.eqb e0 then some (putK d p.1 p.2) else none
noncomputable def addAll:List (Str×X)→List (Str×X)→Option (List (Str×X))
 | d,[]=>some d
 | d,p::ps=>match addB d p with
  | some d'=>addAll d' ps
  | none=>none
theorem add_ok (P:Params):(forOk (stAt P 1010 1)&&isName "v" (forT (stAt P 1010 1))&&plainIter (forI (stAt P 1010 1))&&(forOk (stAt P 1010 2)&&isName "v" (forT (stAt P 1010 2))&&plainIter (forI (stAt P 1010 2))))=true:=by kernel_rfl
theorem add_l (P:Params) (n:Nat):(Gf P n 1010).cs.names.lookup ("v": Str)=some NameKind.local:=by kernel_rfl
theorem putK_len {α:Type} (d:List (Str×α)) (x:Str) (e:α):(putK d x e).length≤d.length+1:=by
 unfold putK;split<;>simp
section
variable {prog:Program} {w:World} {LI:Nat→Option LamInfo}
theorem set_add (n:Nat) (d:List (Str×X)) (x:Str) (e:X) (hl:d.length<1000000) (h:∀ e0,d.lookup x=some e0→e.eqb e0=false→e.cls≠514) :
  (∀ d',addB d (x,e)=some d'→Con prog w LI (n+3 * e.ht+9) (.fn 989) (bdC d) [.raw 1020 0,.vr x,.ex e] [] (.ok .none) (bdC d'))∧(addB d (x,e)=none→Con prog w LI (n+3 * e.ht+9) (.fn 989) (bdC d) [.raw 1020 0,.vr x,.ex e] [] (.err (.fn 1049)) (bdC d)):=by
 unfold addB
 cases q:d.lookup x with
 | none =>
  simp only [q]
  exact ⟨fun d' hd=>by cases hd;exact (set_new (n+3 * e.ht+3) d x e q hl),fun hd=>by cases hd⟩
 | some e0 =>
  simp only [q]
  have he:Con prog w LI (n+3 * e.ht+6) (.fn e.eqf) [] [.ex e,.ex e0] [] (.ok (.bool (e.eqb e0))) []:=eqb_con e e0 n
  cases b:e.eqb e0 with
  | true =>
   rw [b] at he
   simp only [if_true]
   exact ⟨fun d' hd=>by cases hd;exact set_same n _ (by omega) d x e e0 q hl he,fun hd=>by cases hd⟩
  | false =>
   rw [b] at he
   simp only [Bool.false_eq_true,if_false]
   exact ⟨fun d' hd=>(by cases hd),fun _=>set_clash n _ (by omega) d x e e0 q (h e0 q b) he⟩
noncomputable abbrev adL (d1 d2:List (Str×X)):List (Str×V):=[("combined", .raw 1020 0),("other", .bd d2),("self", .bd d1)]
theorem add_turn1 (m:Nat) (d1 d2 d d':List (Str×X)) (v:Str) (e:X) (h:d1.lookup v=some e) (hv:Con prog w LI m (.fn 129) [] [.str v] [] (.ok (.vr v)) []) (hs:Con prog w LI m (.fn 989) (bdC d) [.raw 1020 0,.vr v,.ex e] [] (.ok .none) (bdC d')) :
  SemB prog w LI (Gf w.params m 1010) (forB (stAt w.params 1010 1)) ⟨("v", .str v)::adL d1 d2,bdC d⟩ (.ok .next) ⟨("v", .str v)::adL d1 d2,bdC d'⟩ :=
 semB_run (σ:=⟨("v", .str v)::adL d1 d2,bdC d,[.v (.ex e),.c (.ok (.vr v)),.ca (.ok .none) (bdC d')]⟩) (P3 (show (exK d1).lookup v=some (.ex e) from by rw [exK_look,h];rfl) hv hs) (by kernel_rfl)
theorem add_turn2 (m:Nat) (d1 d2 d d':List (Str×X)) (v:Str) (e:X) (h:d2.lookup v=some e) (hv:Con prog w LI m (.fn 129) [] [.str v] [] (.ok (.vr v)) []) (hs:Con prog w LI m (.fn 989) (bdC d) [.raw 1020 0,.vr v,.ex e] [] (.ok .none) (bdC d')) :
  SemB prog w LI (Gf w.params m 1010) (forB (stAt w.params 1010 2)) ⟨("v", .str v)::adL d1 d2,bdC d⟩ (.ok .next) ⟨("v", .str v)::adL d1 d2,bdC d'⟩ :=
 semB_run (σ:=⟨("v", .str v)::adL d1 d2,bdC d,[.v (.ex e),.c (.ok (.vr v)),.ca (.ok .none) (bdC d')]⟩) (P3 (show (exK d2).lookup v=some (.ex e) from by rw [exK_look,h];rfl) hv hs) (by kernel_rfl)
theorem add_turn2e (m:Nat) (d1 d2 d:List (Str×X)) (v:Str) (e:X) (h:d2.lookup v=some e) (hv:Con prog w LI m (.fn 129) [] [.str v] [] (.ok (.vr v)) []) (hs:Con prog w LI m (.fn 989) (bdC d) [.raw 1020 0,.vr v,.ex e] [] (.err (.fn 1049)) (bdC d)) :
  SemB prog w LI (Gf w.params m 1010) (forB (stAt w.params 1010 2)) ⟨("v", .str v)::adL d1 d2,bdC d⟩ (.err (.fn 1049)) ⟨("v", .str v)::adL d1 d2,bdC d⟩ :=
 semB_run (σ:=⟨("v", .str v)::adL d1 d2,bdC d,[.v (.ex e),.c (.ok (.vr v)),.ca (.err (.fn 1049)) (bdC d)]⟩) (P3 (show (exK d2).lookup v=some (.ex e) from by rw [exK_look,h];rfl) hv hs) (by kernel_rfl)
noncomputable def AddOk:List (Str×X)→List (Str×X)→Prop
 | _,[]=>True
 | d,p::ps=>(∀ e0,d.lookup p.1=some e0→p.2.eqb e0=false→p.2.cls≠514)∧∀ d',addB d p=some d'→AddOk d' ps
theorem addB_len {d d':List (Str×X)} {p:Str×X} (h:addB d p=some d'):d'.length≤d.length+1:=by
 unfold addB at h
 split at h
 ·cases h;exact putK_len _ _ _
 ·split at h
  ·cases h;exact putK_len _ _ _
  ·cases h
theorem add_loop1 (n N m:Nat) (hm:n+3 * N+9≤m) (d1 d2:List (Str×X)):∀ (rest d:List (Str×X)),(∀ p∈rest,d1.lookup p.1=some p.2∧p.2.ht≤N)→AddOk d rest→d.length+rest.length<1000000→∀ d',addAll d rest=some d' →
  Loop prog w LI (Gf w.params m 1010) (fun v=>[("v", v)]) (forB (stAt w.params 1010 1)) ((exK rest).map fun p=>.str p.1) ⟨adL d1 d2,bdC d⟩ (.ok .next) ⟨adL d1 d2,bdC d'⟩
 | [],d,_,_,_,d',h=>by cases h;exact Loop.nil
 | p::rest,d,hp,ha,hl,d',h=>by
  rw [List.length_cons] at hl
  unfold addAll at h
  cases q:addB d p with
  | none=>rw [q] at h;cases h
  | some d'' =>
   rw [q] at h
   have hb:=addB_len q
   have hs:=(set_add (prog:=prog) (w:=w) (LI:=LI) n d p.1 p.2 (by omega) ha.1).1 d'' q
   exact Loop.next (add_turn1 m d1 d2 d d'' p.1 p.2 (hp p (.head _)).1 ((var_new 0 p.1).mono (by omega)) (hs.mono (by have:=(hp p (.head _)).2;omega))) (.inl rfl) (weak1 rfl)
    (add_loop1 n N m hm d1 d2 rest d'' (fun x hx=>hp x (.tail _ hx)) (ha.2 d'' q) (by omega) d' h)
theorem add_loop2 (n N m:Nat) (hm:n+3 * N+9≤m) (d1 d2:List (Str×X)):∀ (rest d:List (Str×X)),(∀ p∈rest,d2.lookup p.1=some p.2∧p.2.ht≤N)→AddOk d rest→d.length+rest.length<1000000 →
  (∀ d',addAll d rest=some d'→Loop prog w LI (Gf w.params m 1010) (fun v=>[("v", v)]) (forB (stAt w.params 1010 2)) ((exK rest).map fun p=>.str p.1) ⟨adL d1 d2,bdC d⟩ (.ok .next) ⟨adL d1 d2,bdC d'⟩) ∧
  (addAll d rest=none→∃ v d'',Loop prog w LI (Gf w.params m 1010) (fun v=>[("v", v)]) (forB (stAt w.params 1010 2)) ((exK rest).map fun p=>.str p.1) ⟨adL d1 d2,bdC d⟩ (.err (.fn 1049)) ⟨("v", .str v)::adL d1 d2,bdC d''⟩)
 | [],d,_,_,_=>⟨fun d' h=>by cases h;exact Loop.nil,fun h=>by cases h⟩
 | p::rest,d,hp,ha,hl=>by
  rw [List.length_cons] at hl
  have hs:=set_add (prog:=prog) (w:=w) (LI:=LI) n d p.1 p.2 (by omega) ha.1
  have hN:=(hp p (.head _)).2
  have hv:Con prog w LI m (.fn 129) [] [.str p.1] [] (.ok (.vr p.1)) []:=(var_new 0 p.1).mono (by omega)
  unfold addAll
  cases q:addB d p with
  | none =>
   refine ⟨fun d' h=>(by cases h),fun _=>⟨p.1,d,?_⟩⟩
   exact Loop.err (add_turn2e m d1 d2 d p.1 p.2 (hp p (.head _)).1 hv ((hs.2 q).mono (by omega))) (bdC_ne d)
  | some d'' =>
   have hb:=addB_len q
   obtain ⟨r1,r2⟩:=add_loop2 n N m hm d1 d2 rest d'' (fun x hx=>hp x (.tail _ hx)) (ha.2 d'' q) (by omega)
   have t:=add_turn2 (prog:=prog) (w:=w) (LI:=LI) m d1 d2 d d'' p.1 p.2 (hp p (.head _)).1 hv ((hs.1 d'' q).mono (by omega))
   exact ⟨fun d' h=>Loop.next t (.inl rfl) (weak1 rfl) (r1 d' h),fun h=>by
    obtain ⟨v,d3,r⟩:=r2 h
    exact ⟨v,d3,Loop.next t (.inl rfl) (weak1 rfl) r⟩⟩
theorem okA (w:World):(forOk (stAt w.params 1010 1)=true∧isName "v" (forT (stAt w.params 1010 1))=true∧plainIter (forI (stAt w.params 1010 1))=true)∧(forOk (stAt w.params 1010 2)=true∧isName "v" (forT (stAt w.params 1010 2))=true∧plainIter (forI (stAt w.params 1010 2))=true):=by
 have h:=add_ok w.params
 simp only [Bool.and_eq_true] at h
 exact ⟨⟨h.1.1.1,h.1.1.2,h.1.2⟩,⟨h.2.1.1,h.2.1.2,h.2.2⟩⟩
theorem add_con (n N:Nat) (d1 d2 d:List (Str×X)) (h1:∀ p∈d1,d1.lookup p.1=some p.2∧p.2.ht≤N) (h2:∀ p∈d2,d2.lookup p.1=some p.2∧p.2.ht≤N) (a1:AddOk [] d1) (e1:addAll [] d1=some d) (a2:AddOk d d2) (hl1:d1.length<500000) (hl:d.length+d2.length<500000) :
  (∀ d',addAll d d2=some d'→Con prog w LI (n+3 * N+12) (.fn 1010) [] [.bd d1,.bd d2] [] (.ok (.bd d')) [])∧(addAll d d2=none→Con prog w LI (n+3 * N+12) (.fn 1010) [] [.bd d1,.bd d2] [] (.err (.fn 1049)) []):=by
 obtain ⟨⟨o1,o2,o3⟩,⟨o4,o5,o6⟩⟩:=okA w
 have hb:ConN prog w LI (n+3 * N+9) (.fn 1020) [] [] [] (.ok (.raw 1020 0)) (bdC []):=by
  intro A outer F φ ca s vf us ks k
  exact new0 0 A outer F φ ca s vf us ks (k.mono (by omega))
 have s1:SemS prog w LI (Gf w.params (n+3 * N+9) 1010) (stAt w.params 1010 1) ⟨adL d1 d2,bdC []⟩ (.ok .next) ⟨adL d1 d2,bdC d⟩ :=
  for_dict_st (kvs:=exK d1) (σ:=⟨adL d1 d2,bdC [],[]⟩) o1 o2 (add_l _ _) o3 (by kernel_rfl) (add_loop1 n N _ (Nat.le_refl _) d1 d2 d1 [] h1 a1 (by simp;omega) d e1)
 obtain ⟨r1,r2⟩:=add_loop2 (prog:=prog) (w:=w) (LI:=LI) n N _ (Nat.le_refl _) d1 d2 d2 d h2 a2 (by omega)
 refine ⟨fun d' h=>?_,fun h=>?_⟩
 ·have s2:SemS prog w LI (Gf w.params (n+3 * N+9) 1010) (stAt w.params 1010 2) ⟨adL d1 d2,bdC d⟩ (.ok .next) ⟨adL d1 d2,bdC d'⟩ :=
   for_dict_st (kvs:=exK d2) (σ:=⟨adL d1 d2,bdC d,[]⟩) o4 o5 (add_l _ _) o6 (by kernel_rfl) (r1 d' h)
  have r:=(F1010 w.params).runN (prog:=prog) (LI:=LI) (n:=n+3 * N+9) (r:=.ok (.raw 1020 0)) [.bd d1,.bd d2] [] [.cn (.raw 1020 0) (bdC []),.st (.ok .next) (adL d1 d2) (bdC d),.st (.ok .next) (adL d1 d2) (bdC d')] (out:=.ok (.ret (.raw 1020 0))) (cs:=bdC d') (by rfl) (by kernel_rfl) (P3 hb s1 s2) (by rfl) (fun c q=>by cases q)
  exact ConN.bd (d:=d') (j:=0) (m:=1) r rfl rfl (Nat.zero_le _) (Nat.zero_le _) nofun
 ·obtain ⟨v,d3,r2⟩:=r2 h
  have s2:SemS prog w LI (Gf w.params (n+3 * N+9) 1010) (stAt w.params 1010 2) ⟨adL d1 d2,bdC d⟩ (.err (.fn 1049)) ⟨("v", .str v)::adL d1 d2,bdC d3⟩ :=
   for_dict_st (kvs:=exK d2) (σ:=⟨adL d1 d2,bdC d,[]⟩) o4 o5 (add_l _ _) o6 (by kernel_rfl) r2
  exact (F1010 w.params).run0 (prog:=prog) (LI:=LI) (n:=n+3 * N+9) [.bd d1,.bd d2] [.cn (.raw 1020 0) (bdC []),.st (.ok .next) (adL d1 d2) (bdC d),.st (.err (.fn 1049)) (("v", .str v)::adL d1 d2) (bdC d3)] (r:=.err (.fn 1049)) (out:=.err (.fn 1049)) (cs:=bdC d3) (by rfl) (by kernel_rfl) (P3 hb s1 s2) (by rfl)
end
noncomputable def X.cf (l:List Str):X→List Str
 | .app ..=>l
 | _=>[]
noncomputable def X.pf (l:List Str):X→List Str
 | .con c=>[c.nm]
 | _=>l
noncomputable def X.cs:X→List Str
 | .var _=>[]
 | .con c=>[c.nm]
 | .app f a=>uni (uni [] (f.cf f.cs)) a.cs
noncomputable def X.ps:X→List Str
 | .app f a=>uni (uni [] (f.pf f.ps)) a.ps
 | _=>[]
theorem X.sz_pos:∀ x:X,1≤x.sz
 | .var _=>Nat.le_refl _
 | .con _=>Nat.le_refl _
 | .app f a=>Nat.le_trans f.sz_pos (Nat.le_add_right _ _)
theorem X.cs_len:∀ x:X,x.cs.length≤x.sz
 | .var s=>Nat.zero_le _
 | .con _=>Nat.le_refl _
 | .app f a=>by
  have h3:=f.cs_len
  have h4:=a.cs_len
  have h5:(f.cf f.cs).length≤f.sz:=by cases f<;>first | exact Nat.zero_le _ | exact h3
  have h1:=uni_len (f.cf f.cs) []
  have h2:=uni_len a.cs (uni [] (f.cf f.cs))
  simp only [List.length_nil,Nat.zero_add] at h1
  show (uni (uni [] _) a.cs).length≤f.sz+a.sz
  omega
theorem X.ps_len:∀ x:X,x.ps.length≤x.sz
 | .var s=>Nat.zero_le _
 | .con _=>Nat.zero_le _
 | .app f a=>by
  have h3:=f.ps_len
  have h4:=a.ps_len
  have h5:(f.pf f.ps).length≤f.sz:=by cases f<;>first | exact h3 | exact Nat.le_refl _
  have h1:=uni_len (f.pf f.ps) []
  have h2:=uni_len a.ps (uni [] (f.pf f.ps))
  simp only [List.length_nil,Nat.zero_add] at h1
  show (uni (uni [] _) a.ps).length≤f.sz+a.sz
  omega
section
variable {prog:Program} {w:World}
theorem visit_free (n:Nat) (f a:X) (lf la l:List Str) (h1:Con prog w (LIx w.params) n (.lam 0 []) [] [.ex f] [] (.ok (.lv lf)) []) (h2:Con prog w (LIx w.params) n (.lam 0 []) [] [.ex a] [] (.ok (.lv la)) [])
  (h3:Con prog w (LIx w.params) n (.lam 1 []) [] [.lst [.lv lf,.lv la]] [] (.ok (.lv l)) []):Con prog w (LIx w.params) (n+3) (.fn 379) [] [.ex (.app f a),.lam 0 [],.lam 1 []] [] (.ok (.lv l)) [] :=
 (F379 w.params).ret0 (n:=n) (cs:=[]) (.lv l) [.ex (.app f a),.lam 0 [],.lam 1 []] [.c (.ok (.lv lf)),.c (.ok (.lv la)),.c (.ok (.lv l))] (P3 h1 h2 h3) (clo_lv _) (Nat.le_refl _) (by rfl) (by kernel_rfl)
theorem app_free (n:Nat) (f a:X) (l:List Str) (h:Con prog w (LIx w.params) n (.fn 379) [] [.ex (.app f a),.lam 0 [],.lam 1 []] [] (.ok (.lv l)) []):Con prog w (LIx w.params) (n+3) (.fn 290) [] [.ex (.app f a)] [] (.ok (.lv l)) [] :=
 (F290 w.params).ret0 (n:=n) (cs:=[]) (.lv l) [.ex (.app f a)] [.se (.ok (.lam 0 [])) [("self", .ex (.app f a))] [],.se (.ok (.lam 1 [])) [("self", .ex (.app f a))] [],.c (.ok (.lv l))]
  (P3 (@lam290 prog w n 0 0 (.inl ⟨rfl,rfl⟩) ⟨[("self", .ex (.app f a))],[]⟩) (@lam290 prog w n 1 1 (.inr ⟨rfl,rfl⟩) ⟨[("self", .ex (.app f a))],[]⟩) h) (clo_lv _) (Nat.le_refl _) (by rfl) (by kernel_rfl)
theorem free_con:∀ (x:X),x.sz<1000000→∀ n,Con prog w (LIx w.params) (n+9 * x.ht+6) (.fn (x.mt "free")) [] [.ex x] [] (.ok (.lv x.fv)) []
 | .var s,_,n=>(ivfree n s).mono (mx0 _ _ (by decide))
 | .con c,_,n=>(cofree n c).mono (mx0 _ _ (by decide))
 | .app f a,hz,n=>by
  have hz':f.sz+a.sz<1000000:=hz
  have lf:=f.fv_len
  have la:=a.fv_len
  have hf:Con prog w (LIx w.params) (n+9 * max f.ht a.ht+6) (.fn (f.mt "free")) [] [.ex f] [] (.ok (.lv f.fv)) []:=(free_con f (ltL hz') n).mono (mxL ..)
  have ha:Con prog w (LIx w.params) (n+9 * max f.ht a.ht+6) (.fn (a.mt "free")) [] [.ex a] [] (.ok (.lv a.fv)) []:=(free_con a (ltR hz') n).mono (mxR ..)
  have hu:Con prog w (LIx w.params) (n+9 * max f.ht a.ht+9) (.lam 1 []) [] [.lst [.lv f.fv,.lv a.fv]] [] (.ok (.lv (uni (uni [] f.fv) a.fv))) []:=(lam1_con n f.fv a.fv (lt2 hz' lf la)).mono (mx0 _ _ (by decide))
  exact app_free _ f a _ (visit_free _ f a _ _ _ (lam0_con _ f f.fv hf) (lam0_con _ a a.fv ha) hu)
theorem const_v (n:Nat) (s:Str) (a:X) (la:List Str) (ha:Con prog w (LIx w.params) (n+6) (.fn (a.mt "constants")) [] [.ex a] [] (.ok (.lv la)) []) (hl:la.length<1000000):Con prog w (LIx w.params) (n+9) (.fn 365) [] [.ex (.app (.var s) a)] [] (.ok (.lv (uni (uni [] []) la))) [] :=
 (F365 w.params).ret0 (n:=n+6) (cs:=[]) (.lv (uni (uni [] []) la)) [.ex (.app (.var s) a)] [.v (.lv []),.c (.ok (.lv la)),.c (.ok (.lv (uni (uni [] []) la)))] (P3 (show (V.lv []).elems=some [] from rfl) ha (union_con (prog:=prog) (w:=w) (LI:=LIx w.params) n [] la (by simpa using hl))) (clo_lv _) (Nat.le_refl _) (by rfl) (by kernel_rfl)
theorem const_c (n:Nat) (c:C5) (a:X) (la:List Str) (ha:Con prog w (LIx w.params) (n+6) (.fn (a.mt "constants")) [] [.ex a] [] (.ok (.lv la)) []) (hl:la.length<1000000):Con prog w (LIx w.params) (n+9) (.fn 365) [] [.ex (.app (.con c) a)] [] (.ok (.lv (uni (uni [] []) la))) [] :=
 (F365 w.params).ret0 (n:=n+6) (cs:=[]) (.lv (uni (uni [] []) la)) [.ex (.app (.con c) a)] [.v (.lv []),.c (.ok (.lv la)),.c (.ok (.lv (uni (uni [] []) la)))] (P3 (show (V.lv []).elems=some [] from rfl) ha (union_con (prog:=prog) (w:=w) (LI:=LIx w.params) n [] la (by simpa using hl))) (clo_lv _) (Nat.le_refl _) (by rfl) (by kernel_rfl)
theorem const_a (n:Nat) (g b a:X) (lf la:List Str) (hf:Con prog w (LIx w.params) (n+6) (.fn 365) [] [.ex (.app g b)] [] (.ok (.lv lf)) []) (ha:Con prog w (LIx w.params) (n+6) (.fn (a.mt "constants")) [] [.ex a] [] (.ok (.lv la)) []) (hl:lf.length+la.length<1000000) :
  Con prog w (LIx w.params) (n+9) (.fn 365) [] [.ex (.app (.app g b) a)] [] (.ok (.lv (uni (uni [] lf) la))) [] :=
 (F365 w.params).ret0 (n:=n+6) (cs:=[]) (.lv (uni (uni [] lf) la)) [.ex (.app (.app g b) a)] [.c (.ok (.lv lf)),.c (.ok (.lv la)),.c (.ok (.lv (uni (uni [] lf) la)))] (P3 hf ha (union_con (prog:=prog) (w:=w) (LI:=LIx w.params) n lf la hl)) (clo_lv _) (Nat.le_refl _) (by rfl) (by kernel_rfl)
theorem const_con:∀ (x:X),x.sz<1000000→∀ n,Con prog w (LIx w.params) (n+3 * x.ht+6) (.fn (x.mt "constants")) [] [.ex x] [] (.ok (.lv x.cs)) []
 | .var s,_,n=>(ivconst n s).mono (mx0 _ _ (by decide))
 | .con c,_,n=>(coconst n c).mono (mx0 _ _ (by decide))
 | .app f a,hz,n=>by
  have hz':f.sz+a.sz<1000000:=hz
  have lf:=f.cs_len
  have la:=a.cs_len
  have ha:Con prog w (LIx w.params) (n+3 * max f.ht a.ht+6) (.fn (a.mt "constants")) [] [.ex a] [] (.ok (.lv a.cs)) []:=(const_con a (ltR hz') n).mono (mxR ..)
  cases f with
  | var s=>exact const_v _ s a _ ha (Nat.lt_of_le_of_lt la (ltR hz'))
  | con c=>exact const_c _ c a _ ha (Nat.lt_of_le_of_lt la (ltR hz'))
  | app g b =>
   have hf:Con prog w (LIx w.params) (n+3 * max (X.app g b).ht a.ht+6) (.fn 365) [] [.ex (.app g b)] [] (.ok (.lv (X.app g b).cs)) []:=(const_con (.app g b) (ltL hz') n).mono (mxL ..)
   exact const_a _ g b a (X.app g b).cs a.cs hf ha (lt2 hz' lf la)
theorem pred_v (n:Nat) (f a:X) (lf la:List Str) (h0:f.cls=514∨f.cls=426) (hf:Con prog w (LIx w.params) (n+6) (.fn (f.mt "predicates")) [] [.ex f] [] (.ok (.lv lf)) []) (ha:Con prog w (LIx w.params) (n+6) (.fn (a.mt "predicates")) [] [.ex a] [] (.ok (.lv la)) []) (hl:lf.length+la.length<1000000) :
  Con prog w (LIx w.params) (n+9) (.fn 372) [] [.ex (.app f a)] [] (.ok (.lv (uni (uni [] lf) la))) []:=by
 have hu:=union_con (prog:=prog) (w:=w) (LI:=LIx w.params) n lf la hl
 cases f with
 | con c=>rcases h0 with h | h<;>cases h
 | var s=>exact (F372 w.params).ret0 (n:=n+6) (cs:=[]) (.lv (uni (uni [] lf) la)) [.ex (.app (.var s) a)] [.c (.ok (.lv lf)),.c (.ok (.lv la)),.c (.ok (.lv (uni (uni [] lf) la)))] (P3 hf ha hu) (clo_lv _) (Nat.le_refl _) (by rfl) (by kernel_rfl)
 | app g b=>exact (F372 w.params).ret0 (n:=n+6) (cs:=[]) (.lv (uni (uni [] lf) la)) [.ex (.app (.app g b) a)] [.c (.ok (.lv lf)),.c (.ok (.lv la)),.c (.ok (.lv (uni (uni [] lf) la)))] (P3 hf ha hu) (clo_lv _) (Nat.le_refl _) (by rfl) (by kernel_rfl)
theorem pred_c (n:Nat) (c:C5) (a:X) (la:List Str) (ha:Con prog w (LIx w.params) (n+6) (.fn (a.mt "predicates")) [] [.ex a] [] (.ok (.lv la)) []) (hl:la.length<999999):Con prog w (LIx w.params) (n+9) (.fn 372) [] [.ex (.app (.con c) a)] [] (.ok (.lv (uni (uni [] [c.nm]) la))) [] :=
 (F372 w.params).ret0 (n:=n+6) (cs:=[]) (.lv (uni (uni [] [c.nm]) la)) [.ex (.app (.con c) a)] [.v (.lv [c.nm]),.c (.ok (.lv la)),.c (.ok (.lv (uni (uni [] [c.nm]) la)))] (P3 (show (V.lv [c.nm]).elems=some [.vr c.nm] from rfl) ha (union_con (prog:=prog) (w:=w) (LI:=LIx w.params) n [c.nm] la (by simp;omega))) (clo_lv _) (Nat.le_refl _) (by rfl) (by kernel_rfl)
theorem pred_con:∀ (x:X),x.sz<1000000→∀ n,Con prog w (LIx w.params) (n+3 * x.ht+6) (.fn (x.mt "predicates")) [] [.ex x] [] (.ok (.lv x.ps)) []
 | .var s,_,n=>(avpred n (.var s)).mono (mx0 _ _ (by decide))
 | .con c,_,n=>(avpred n (.con c)).mono (mx0 _ _ (by decide))
 | .app f a,hz,n=>by
  have hz':f.sz+a.sz<1000000:=hz
  have lf:=f.ps_len
  have la:=a.ps_len
  have pf:=f.sz_pos
  have ha:Con prog w (LIx w.params) (n+3 * max f.ht a.ht+6) (.fn (a.mt "predicates")) [] [.ex a] [] (.ok (.lv a.ps)) []:=(pred_con a (ltR hz') n).mono (mxR ..)
  have hf:Con prog w (LIx w.params) (n+3 * max f.ht a.ht+6) (.fn (f.mt "predicates")) [] [.ex f] [] (.ok (.lv f.ps)) []:=(pred_con f (ltL hz') n).mono (mxL ..)
  cases f with
  | var s=>exact pred_v _ (.var s) a (X.var s).ps a.ps (.inl rfl) hf ha (lt2 hz' lf la)
  | con c=>exact pred_c _ c a _ ha (Nat.lt_of_succ_lt_succ (Nat.lt_of_le_of_lt (Nat.succ_le_succ la) (show a.sz+1<1000000 from Nat.add_comm 1 a.sz▸hz')))
  | app g b=>exact pred_v _ (.app g b) a (X.app g b).ps a.ps (.inr rfl) hf ha (lt2 hz' lf la)
end
noncomputable def tsE (e:Expr):Expr:=.Compare (.Subscript (.Attribute (.Name "p" (pE e [0,0,0])) "name" (pE e [0,0])) (.Slice none (some (.Constant (.int 1) 0 (pE e [0,1,0]))) none (pE e [0,1])) (pE e [0])) [.In] [.List [.Constant (.str "?") 0 (pE e [1,0]),.Constant (.str "@") 0 (pE e [1,1])] (pE e [1])] e.pos
noncomputable def cmpE (P:Params):Expr:=nE ((kS (stAt P 283 0)).headD default) [1,1]
noncomputable def ceL:Expr→List Comprehension
 | .ListComp _ gs _ _=>gs
 | _=>[]
noncomputable def ceC (e:Expr):Comprehension:=(ceL e).headD default
noncomputable def ceIter (e:Expr):Expr:=(ceC e).iter
noncomputable def ceTst (e:Expr):Expr:=(ceC e).ifs.headD default
noncomputable def ceSc:Expr→Scope
 | .ListComp _ _ s _=>s
 | _=>default
noncomputable def ceE (x:Str) (e:Expr):Expr:=.ListComp (.Name x (pE e [0])) [⟨.Name x (ceC e).target.pos,ceIter e,[ceTst e],0⟩] (ceSc e) e.pos
section
variable {prog:Program} {w:World} {LI:Nat→Option LamInfo} {A:Around} {φ:Mp} {ca:List Addr}
theorem attr_at {s:Shared} {o:V} {ov:Value} {x:Str} {v:V} {C:Nat} {fs:List (Str×V)} {expr:Bool} (kin:KIn w.params s.heap) (fz:∀ b o,φ b=some o→s.heap.get? b=some o) (r:RV prog w LI φ ca o ov) (e:o.inst=some (C,fs)) (hx:fs.lookup x=some v) (hm:(C,x)∈attrL)
  {Q:Value→Shared→Prop} {E:Value→Shared→Prop} (k:∀ u s',s'.heap=s.heap→PySem.Keeps s s'→RV prog w LI φ ca v u→Q u s'):wpAny (model prog w) A (getAttr ov x expr) Q E s:=by
 exact (r.inst_inv e).elim fun y q=>q.elim fun dx q=>q.elim fun es q=>q.elim fun n q=>((q.2.2.2.get (x:=x)).1 hx).elim fun u g=>q.1 ▸
  get_own kin ⟨fz _ _ q.2.1,rfl,rfl,fz _ _ q.2.2.1⟩ hm g.1 (g.2.handed (lookup_all (inst_nbi e) hx)) (k u _ rfl ⟨_,_,rfl,fun _ _ e=>e⟩ g.2)
theorem str_part {env:Env} {x:Str} {t:Tok} {value:Expr} {lo hi:Option Expr} {p:Pos} {l u:Option Int} {s:Shared} (hl:partE lo=some l) (hu:partE hi=some u) (hx:(strSl x l u).length<1000) {Q:Value→Shared→Prop} {E:Value→Shared→Prop}
  (k:∀ t' s',PySem.Keeps s s'→Q (.str (strSl x l u) t') s'):wpAny (model prog w) A (eval (.Slice lo hi none p) env) (fun i s₂=>wpAny (model prog w) A (subscriptTail value (.Slice lo hi none p) (.str x t) i) Q E s₂) E s:=by
 refine wpAny_Slice (part_sound hl fun ql tk hql=>part_sound hu fun qu tk' hqu=>wpAny_pure ?_)
 have hsl:(s.heap.push { cls:=.type "slice", data:=.fields #[partValue ql,partValue qu,.none] }).get? s.heap.objs.size=some { cls:=.type "slice", data:=.fields #[partValue ql,partValue qu,.none] }:=Heap.get?_push_size _ rfl
 have hsub:∀ i,subscripted (.Slice lo hi none p) false (.str x t) i=operate [i,.str x t] (getItem (.str x t) i):=fun _=>rfl
 refine tail_any (typeIs_str _ x t) slot_str_getitem.lookup (wpAny_getItem_str_slice (l:=ql) (u:=qu) (st:=none) ⟨_,hsl,rfl,rfl⟩ rfl ?_) (hsub _)
 have hpk:slicePicked x ql qu none=Builtin.Str.strSliceIndices l u 1 x.length:=by unfold slicePicked;rw [hql,hqu];rfl
 unfold sliceMade
 rw [hpk]
 have kk:∀ tk,PySem.Keeps s { s with heap:=s.heap.push { cls:=.type "slice", data:=.fields #[partValue ql,partValue qu,.none] },toks:=tk }:=fun tk=>⟨_,_,rfl,fun b o e=>Heap.get?_push_of_some _ e⟩
 split
 ·rename_i hc
  have hc':((Builtin.Str.strSliceIndices l u 1 x.length).length==x.length)=true:=by simpa using hc
  have e:strSl x l u=x:=by unfold strSl;rw [if_pos hc']
  have:=k t _ (kk tk')
  rw [e] at this
  exact this
 ·rename_i hc
  have hc':¬ ((Builtin.Str.strSliceIndices l u 1 x.length).length==x.length)=true:=by simpa using hc
  have he:strSl x l u=⟨((Builtin.Str.strSliceIndices l u 1 x.length).filterMap (x.cps[·]?)).toArray⟩:=by unfold strSl;rw [if_neg hc']
  refine ⟨?_,?_⟩
  ·have h2:sizeLine=16777216:=rfl
   rw [he] at hx
   omega
  ·rw [←he];exact k _ _ (kk _)
theorem kpT {a b c:Shared} (x:PySem.Keeps a b) (y:PySem.Keeps b c):PySem.Keeps a c:=by
 obtain ⟨h,t,rfl,k⟩:=x
 obtain ⟨h',t',rfl,k'⟩:=y
 exact ⟨h',t',rfl,fun b o e=>k' b o (k b o e)⟩
theorem tst283 {p1 p2 p3 p4 p5 p6 p7 p8 p9:Pos} {env:Env} {C:Addr} {m:Str→Option Value} {s:Shared} {nm:Str} {u:Value} (kd:env.scope.kind=.function) (hl:env.kindOf "p"= some .local) (hn:s.heap.Ns env.locals m) (hm:m "p"= some u)
  (kin:KIn w.params s.heap) (fz:∀ b o,φ b=some o→s.heap.get? b=some o) (r:RV prog w LI φ ca (.vr nm) u) (h1:(strSl nm none (some 1)).length<1000) (h2:(["?","@"]:List Str).any (·==strSl nm none (some 1))=false) (E':Value→Shared→Prop) :
  let c:Expr:=.Compare (.Subscript (.Attribute (.Name "p" p1) "name" p2) (.Slice none (some (.Constant (.int 1) 0 p3)) none p4) p5) [.In] [.List [.Constant (.str "?") 0 p6,.Constant (.str "@") 0 p7] p8] p9
  wpAny (model prog w) A (isTrue c env (eval c env)) (fun ok s₄=>ok=false∧PySem.Keeps s s₄) E' s :=
 wpAny_isTrue_Compare1 (Subscript_ (Attribute_any_ (wpAny_Name (wpAny_loadName_local kd hl hn hm (attr_at kin fz r rfl rfl (.head _) fun u' s₀ eh kp₀ r'=>r'.str_inv.elim fun t e=>e▸str_part (l:=none) (u:=some 1) rfl rfl h1 fun t' s₁ kp₁=>List_ (by
  rw [starEach_cons rfl,starEach_cons rfl]
  exact spliced_cons (wpAny_Constant_str (k:=0) (pos:=p6) (spliced_cons (wpAny_Constant_str (k:=0) (pos:=p7) (spliced_nil (wpAny_newObj_type (in_list_strs (vs:=[.str "?" _,.str "@" _]) (ys:=["?","@"]) ⟨_,Heap.get?_push_size _ rfl,rfl,_,rfl⟩ (.cons _ _ (.cons _ _ .nil))
   (wpAny_truthy_bool ⟨h2,kpT (kpT kp₀ kp₁) ⟨_,_,rfl,fun b o e=>Heap.get?_push_of_some _ e⟩⟩)) (by show 2≤sizeLine;decide))))))))) rfl) (attr_node rfl))) rfl
end
theorem comp283 (P:Params):cmpE P=ceE "p" (cmpE P):=by kernel_rfl
theorem tst_is (P:Params):ceTst (cmpE P)=tsE (ceTst (cmpE P)):=by kernel_rfl
theorem it283 (P:Params):plainIter (ceIter (cmpE P))=true:=by kernel_rfl
theorem sc283 (P:Params):scOk (ceSc (cmpE P)) "p"= true:=by kernel_rfl
theorem nf283 (P:Params):(ceSc (cmpE P)).names.all (fun y=>y.2 !=.free)=true:=by kernel_rfl
noncomputable def Plain (s:Str):Prop:=(strSl s none (some 1)).length<1000∧(["?","@"]:List Str).any (·==strSl s none (some 1))=false
section
variable {prog:Program} {w:World}
theorem comp_vars (n:Nat) (x:X) (pl cl' l:List Str) (hp:Con prog w (LIx w.params) n (.fn (x.mt "predicates")) [] [.ex x] [] (.ok (.lv pl)) []) (hc:Con prog w (LIx w.params) n (.fn (x.mt "constants")) [] [.ex x] [] (.ok (.lv cl')) [])
  (hu:Con prog w (LIx w.params) n (.fn 60) [] [.lst [.lv pl,.lv cl']] [] (.ok (.lv l)) []) (hl:l.length<1000000) (hpl:∀ s∈l,Plain s) :
  SemE prog w (LIx w.params) (Gf w.params n 283) (cmpE w.params) ⟨[("self", .ex x)],[]⟩ (.ok (.lv [])) ⟨[("self", .ex x)],[]⟩:=by
 intro A a cl L F outer S φ ca s h
 have sc:=sc283 w.params
 have hcl:closureFor (ceSc (cmpE w.params)) (eN (Gf w.params n 283) L a cl)=pure []:=closureFor_none fun y hy=>by have:=List.all_eq_true.mp (nf283 w.params) y hy;simpa using this
 rw [comp283]
 have ev:((evN prog w (LIx w.params) (Gf w.params n 283) 40).1 (ceIter (cmpE w.params)) ⟨[("self", .ex x)],[],[.c (.ok (.lv pl)),.c (.ok (.lv cl')),.c (.ok (.lv l))]⟩)=some (.ok (.lv l),⟨[("self", .ex x)],[],[]⟩,[Con prog w (LIx w.params) n (.fn (x.mt "predicates")) [] [.ex x] [] (.ok (.lv pl)) [],Con prog w (LIx w.params) n (.fn (x.mt "constants")) [] [.ex x] [] (.ok (.lv cl')) [],Con prog w (LIx w.params) n (.fn 60) [] [.lst [.lv pl,.lv cl']] [] (.ok (.lv l)) []]):=by kernel_rfl
 refine comp_op S (v:=.lv l) (vs:=l.map .vr) (fun _=>false) (fun _=>false) hcl sc ev (P3 hp hc hu) rfl (by rw [List.length_map];exact hl) (show (V.lv []).elems=some ((l.map V.vr).filter fun _=>false) from by rw [show (l.map V.vr).filter (fun _=>false)=[] from List.filter_eq_nil_iff.mpr (fun _ _ h=>by cases h)];rfl) (fun y=>folded_no (it283 w.params)) h (fun _ _ _ _ _ _=>rfl) ?_
 intro φ' ca' v u C s₃ m₃ E' _ hv r fz kk hn hm _
 refine (List.mem_map.mp hv).elim fun nm q=>?_
 have hk:=hpl nm q.1
 unfold scOk at sc
 have sc:=Bool.and_eq_true_iff.mp (Bool.and_eq_true_iff.mp sc).1
 have hkp:(relabel (ceSc (cmpE w.params)) (eN (Gf w.params n 283) L a cl)).names.lookup ("p": Str)=some .local:=lookup_relabel_local (beq_iff_eq.mp sc.2)
 have kd:=beq_iff_eq.mp (Bool.and_eq_true_iff.mp (Bool.and_eq_true_iff.mp sc.1).1).2
 rw [tst_is]
 exact tst283 (env:=compEnvC (ceSc (cmpE w.params)) [] C (eN (Gf w.params n 283) L a cl)) (C:=C) kd hkp hn hm (fun b o q=>fz b o (kk b o q)) fz (q.2.symm▸r) hk.1 hk.2 E'
noncomputable def X.vs (x:X):List Str:=uni (uni [] x.fv) []
theorem vars_con (x:X) (hz:x.sz<400000) (hpl:∀ s∈uni (uni [] x.ps) x.cs,Plain s) (n:Nat):Con prog w (LIx w.params) (n+9 * x.ht+9) (.fn 283) [] [.ex x] [] (.ok (.lv x.vs)) []:=by
 have h1:=free_con (prog:=prog) (w:=w) x (by omega) n
 have h2:Con prog w (LIx w.params) (n+9 * x.ht+6) (.fn (x.mt "predicates")) [] [.ex x] [] (.ok (.lv x.ps)) []:=(pred_con x (by omega) n).mono (by omega)
 have h3:Con prog w (LIx w.params) (n+9 * x.ht+6) (.fn (x.mt "constants")) [] [.ex x] [] (.ok (.lv x.cs)) []:=(const_con x (by omega) n).mono (by omega)
 have l1:=x.fv_len
 have l2:=x.ps_len
 have l3:=x.cs_len
 have h4:=union_con (prog:=prog) (w:=w) (LI:=LIx w.params) (n+9 * x.ht) x.ps x.cs (by omega)
 have u1:=uni_len x.ps []
 have u2:=uni_len x.cs (uni [] x.ps)
 simp only [List.length_nil,Nat.zero_add] at u1
 have hc:=comp_vars (prog:=prog) (w:=w) (n+9 * x.ht+6) x x.ps x.cs _ h2 h3 h4 (by omega) hpl
 have h5:=union_con (prog:=prog) (w:=w) (LI:=LIx w.params) (n+9 * x.ht) x.fv [] (by simp only [List.length_nil];omega)
 exact (F283 w.params).ret0 (n:=n+9 * x.ht+6) (cs:=[]) (.lv x.vs) [.ex x] [.c (.ok (.lv x.fv)),.se (.ok (.lv [])) [("self", .ex x)] [],.c (.ok (.lv x.vs))] (P3 h1 hc h5) (clo_lv _) (Nat.le_refl _) (by rfl) (by kernel_rfl)
end
noncomputable def X.occ (e:X) (s:Str):Bool:=(uni (uni [] e.fv) e.cs).any (·==s)
noncomputable def bindX (s:Str) (e:X):Option (List (Str×X)):=if e.occ s then none else some [(s,e)]
noncomputable def mguX:X→X→Option (List (Str×X))
 | .var s,b=>if (X.var s).eqb b then some [] else bindX s b
 | .con c,.var s=>if (X.con c).eqb (.var s) then some [] else bindX s (.con c)
 | .con c,b=>if (X.con c).eqb b then some [] else none
 | .app f x,.var s=>if (X.app f x).eqb (.var s) then some [] else bindX s (.app f x)
 | .app f x,.con c=>if (X.app f x).eqb (.con c) then some [] else none
 | .app f x,.app g y=>if (X.app f x).eqb (.app g y) then some [] else match mguX f g with
  | none=>none
  | some d1=>match mguX x y with
   | none=>none
   | some d2=>addAll d1 d2
noncomputable def resB:Option (List (Str×X))→Res V
 | some d=>.ok (.bd d)
 | none=>.err (.fn 1049)
noncomputable def NoDup (d:List (Str×X)):Prop:=(d.map (·.1)).Nodup
theorem look_of {d:List (Str×X)} (h:NoDup d):∀ p∈d,d.lookup p.1=some p.2:=by
 induction d with
 | nil=>nofun
 | cons q d ih =>
  intro p hp
  have h2:=List.nodup_cons.mp h
  rw [List.lookup_cons]
  rcases List.mem_cons.mp hp with rfl | hp
  ·rw [beq_self_eq_true]
  ·have:(p.1==q.1)=false:=beq_eq_false_iff_ne.mpr fun z=>h2.1 (List.mem_map.mpr ⟨p,hp,z⟩)
   rw [this]
   exact ih h2.2 p hp
theorem look_none {d:List (Str×X)} {x:Str} (h:x∉d.map (·.1)):d.lookup x=none:=by
 induction d with
 | nil=>rfl
 | cons q d ih =>
  rw [List.map_cons,List.mem_cons,not_or] at h
  rw [List.lookup_cons,beq_eq_false_iff_ne.mpr h.1]
  exact ih h.2
theorem putK_new {d:List (Str×X)} {x:Str} {e:X} (h:x∉d.map (·.1)):putK d x e=d++[(x,e)]:=by
 unfold putK
 rw [if_neg]
 intro z
 obtain ⟨p,hp,hx⟩:=List.any_eq_true.mp z
 exact h (List.mem_map.mpr ⟨p,hp,of_decide_eq_true hx⟩)
theorem putK_keys {d:List (Str×X)} {x:Str} {e:X} (h:x∈d.map (·.1)):(putK d x e).map (·.1)=d.map (·.1):=by
 unfold putK
 rw [if_pos (by obtain ⟨p,hp,hx⟩:=List.mem_map.mp h;exact List.any_eq_true.mpr ⟨p,hp,decide_eq_true hx⟩),List.map_map]
 exact List.map_congr_left fun p _=>by
  show (if p.1=x then (p.1,e) else p).1=p.1
  split<;>rfl
theorem putK_nodup {d:List (Str×X)} {x:Str} {e:X} (h:NoDup d):NoDup (putK d x e):=by
 unfold NoDup
 by_cases q:x∈d.map (·.1)
 ·rw [putK_keys q];exact h
 ·rw [putK_new q,List.map_append]
  exact List.nodup_append.mpr ⟨h,by simp,fun a ha b hb z=>by simp at hb;subst hb;exact q (z▸ha)⟩
theorem putK_mem {d:List (Str×X)} {x:Str} {e:X} {p:Str×X} (h:p∈putK d x e):p∈d∨p.2=e:=by
 unfold putK at h
 split at h
 ·obtain ⟨q,hq,rfl⟩:=List.mem_map.mp h
  by_cases z:q.1=x
  ·rw [if_pos z];exact .inr rfl
  ·rw [if_neg z];exact .inl hq
 ·rcases List.mem_append.mp h with h | h
  ·exact .inl h
  ·simp at h;subst h;exact .inr rfl
theorem addB_put {d d':List (Str×X)} {p:Str×X} (h:addB d p=some d'):d'=putK d p.1 p.2:=by
 unfold addB at h
 split at h
 ·cases h;rfl
 ·split at h
  ·cases h;rfl
  ·cases h
theorem addAll_facts:∀ (ps d d':List (Str×X)),NoDup d→addAll d ps=some d'→NoDup d'∧d'.length≤d.length+ps.length∧∀ p∈d',p∈d∨∃ q∈ps,p.2=q.2
 | [],d,d',hd,h=>by cases h;exact ⟨hd,by simp,fun p hp=>.inl hp⟩
 | p::ps,d,d',hd,h=>by
  unfold addAll at h
  split at h
  ·rename_i d1 q
   have hl:=addB_len q
   rw [addB_put q] at h hl
   obtain ⟨h1,h2,h3⟩:=addAll_facts ps _ d' (putK_nodup hd) h
   refine ⟨h1,by rw [List.length_cons];omega,fun r hr=>?_⟩
   rcases h3 r hr with z | ⟨q,hq,z⟩
   ·rcases putK_mem z with z | z
    ·exact .inl z
    ·exact .inr ⟨p,.head _,z⟩
   ·exact .inr ⟨q,.tail _ hq,z⟩
  ·cases h
theorem addAll_new:∀ (ps d:List (Str×X)),NoDup (d++ps)→addAll d ps=some (d++ps)∧AddOk d ps
 | [],d,_=>⟨by rw [List.append_nil];rfl,trivial⟩
 | p::ps,d,h=>by
  have hx:p.1∉d.map (·.1):=fun z=>by
   unfold NoDup at h
   rw [List.map_append,List.map_cons] at h
   exact (List.nodup_append.mp h).2.2 _ z _ (.head _) rfl
  have hb:addB d p=some (d++[p]):=by
   unfold addB
   rw [look_none hx,putK_new hx]
  have e:d++p::ps=(d++[p])++ps:=by simp
  obtain ⟨h1,h2⟩:=addAll_new ps (d++[p]) (e▸h)
  refine ⟨by unfold addAll;rw [hb];exact h1.trans (by rw [e]),?_⟩
  exact And.intro (fun e0 he=>by rw [look_none hx] at he;cases he) (fun d' hd=>by rw [hb] at hd;cases hd;exact h2)
theorem mgu_facts:∀ (a b:X) (d:List (Str×X)),mguX a b=some d→NoDup d∧d.length≤a.sz+b.sz∧∀ p∈d,p.2.ht≤max a.ht b.ht:=by
 have e0:∀ (a b:X) (d:List (Str×X)),some []=some d→NoDup d∧d.length≤a.sz+b.sz∧∀ p∈d,p.2.ht≤max a.ht b.ht:=fun a b d h=>by cases h;exact ⟨List.nodup_nil,Nat.zero_le _,nofun⟩
 have e1:∀ (a b:X) (s:Str) (e:X) (d:List (Str×X)),e.ht≤max a.ht b.ht→bindX s e=some d→NoDup d∧d.length≤a.sz+b.sz∧∀ p∈d,p.2.ht≤max a.ht b.ht:=fun a b s e d he h=>by
  unfold bindX at h
  split at h
  ·cases h
  ·cases h
   have:=a.sz_pos
   exact ⟨by unfold NoDup;simp,by simp;omega,one_of he⟩
 intro a
 induction a with
 | var s =>
  intro b d h
  unfold mguX at h
  split at h
  ·exact e0 _ _ _ h
  ·exact e1 _ _ s b d (Nat.le_max_right _ _) h
 | con c =>
  intro b d h
  cases b with
  | var s =>
   unfold mguX at h
   split at h
   ·exact e0 _ _ _ h
   ·exact e1 _ _ s (.con c) d (Nat.le_max_left _ _) h
  | con c' =>
   unfold mguX at h
   split at h
   ·exact e0 _ _ _ h
   ·cases h
  | app g y =>
   unfold mguX at h
   split at h
   ·exact e0 _ _ _ h
   ·cases h
 | app f x ihf ihx =>
  intro b d h
  cases b with
  | var s =>
   unfold mguX at h
   split at h
   ·exact e0 _ _ _ h
   ·exact e1 _ _ s (.app f x) d (Nat.le_max_left _ _) h
  | con c' =>
   unfold mguX at h
   split at h
   ·exact e0 _ _ _ h
   ·cases h
  | app g y =>
   unfold mguX at h
   split at h
   ·exact e0 _ _ _ h
   ·split at h
    ·cases h
    ·rename_i d1 h1
     split at h
     ·cases h
     ·rename_i d2 h2
      obtain ⟨a1,a2,a3⟩:=ihf g d1 h1
      obtain ⟨b1,b2,b3⟩:=ihx y d2 h2
      obtain ⟨c1,c2,c3⟩:=addAll_facts d2 d1 d a1 h
      refine ⟨c1,by show d.length≤(f.sz+x.sz)+(g.sz+y.sz);rw [Nat.add_add_add_comm];exact Nat.le_trans c2 (Nat.add_le_add a2 b2),fun p hp=>?_⟩
      show p.2.ht≤max (max f.ht x.ht+1) (max g.ht y.ht+1)
      rcases c3 p hp with z | ⟨q,hq,z⟩
      ·exact mxS (a3 p z)
      ·rw [z];exact mxT (b3 q hq)
noncomputable def GoodM:X→X→Prop
 | .app f x,.app g y=>GoodM f g∧GoodM x y∧∀ d1 d2,mguX f g=some d1→mguX x y=some d2→AddOk d1 d2
 | _,_=>True
theorem k1025 (P:Params):(K P).lookup 1025=some (tu [.none]):=by kernel_rfl
theorem F1032 (P:Params):FnS P 1032 ["a","b","bindings"]:=by
 refine ⟨by kernel_rfl,by kernel_rfl,fun s us k h=>?_⟩
 obtain ⟨a,b,c,rfl⟩:=len3 h
 have hd:(fdat P 1032).defaults=.ref 1025:=by kernel_rfl
 refine BindsTo.of_defaults (items:=#[.none]) (n:=0) hd (k _ _ (k1025 P)) rfl (by unfold bindArgs;rfl) ?_
 kernel_rfl
theorem resB_clo {o:Option (List (Str×X))} {b:V} (h:resB o=.ok b):CloV b:=by
 cases o with
 | none=>cases h
 | some d=>cases h;exact clo_bd d
noncomputable def resF:Option (List (Str×X))→Res Fl
 | some d=>.ok (.ret (.bd d))
 | none=>.err (.fn 1049)
theorem resF_ends (o:Option (List (Str×X))):Ends (resF o) (resB o):=by
 cases o with
 | none=>rfl
 | some d=>exact ⟨rfl,clo_bd d⟩
section
variable {prog:Program} {w:World}
theorem mvar_con (n H:Nat) (s:Str) (e:X) (hz:e.sz<400000) (hh:e.ht≤H):Con prog w (LIx w.params) (n+9 * H+15) (.fn 1039) [] [.ex (.var s),.ex e,.bd []] [] (resB (bindX s e)) []:=by
 have h1:Con prog w (LIx w.params) (n+9 * H+12) (.fn (e.mt "free")) [] [.ex e] [] (.ok (.lv e.fv)) []:=(free_con e (by omega) n).mono (by omega)
 have h2:Con prog w (LIx w.params) (n+9 * H+12) (.fn (e.mt "constants")) [] [.ex e] [] (.ok (.lv e.cs)) []:=(const_con e (by omega) n).mono (by omega)
 have l1:=e.fv_len
 have l2:=e.cs_len
 have h3:Con prog w (LIx w.params) (n+9 * H+12) (.fn 60) [] [.lst [.lv e.fv,.lv e.cs]] [] (.ok (.lv (uni (uni [] e.fv) e.cs))) []:=(union_con n e.fv e.cs (by omega)).mono (by omega)
 have hv:VarEqP prog w (LIx w.params) (Gf w.params (n+9 * H+12) 1039):=fun a b=>(var_eq n a b).mono (by show n+3≤n+9 * H+12;omega)
 unfold bindX
 cases q:e.occ s with
 | true =>
  simp only [if_true]
  exact (F1039 w.params).run0 (prog:=prog) (LI:=LIx w.params) (n:=n+9 * H+12) (out:=.err (.fn 1049)) (cs:=[]) [.ex (.var s),.ex e,.bd []] [.c (.ok (.lv e.fv)),.c (.ok (.lv e.cs)),.c (.ok (.lv (uni (uni [] e.fv) e.cs))),.b true] (by rfl) (by kernel_rfl) (PC h1 (PC h2 (PC h3 (P2 hv (show e.occ s=true from q))))) (by rfl)
 | false =>
  simp only [Bool.false_eq_true,if_false]
  have h4:Con prog w (LIx w.params) (n+9 * H+12) (.fn 1020) [] [.lst [.tup [.vr s,.ex e]]] [] (.ok (.bd [(s,e)])) []:=(new1_bd n s e).mono (by omega)
  have h5:Con prog w (LIx w.params) (n+9 * H+12) (.fn 1010) [] [.bd [(s,e)],.bd []] [] (.ok (.bd [(s,e)])) [] :=
   ((add_con (n) H [(s,e)] [] [(s,e)] (one_of ⟨by simp,hh⟩) nofun ((addAll_new [(s,e)] [] (by unfold NoDup;simp)).2) ((addAll_new [(s,e)] [] (by unfold NoDup;simp)).1) trivial (by simp) (by simp)).1 _ rfl).mono (by omega)
  exact (F1039 w.params).run0 (prog:=prog) (LI:=LIx w.params) (n:=n+9 * H+12) (out:=.ok (.ret (.bd [(s,e)]))) (cs:=[]) [.ex (.var s),.ex e,.bd []] [.c (.ok (.lv e.fv)),.c (.ok (.lv e.cs)),.c (.ok (.lv (uni (uni [] e.fv) e.cs))),.b false,.c (.ok (.bd [(s,e)])),.c (.ok (.bd [(s,e)]))] (by rfl) (by kernel_rfl)
   (PC h1 (PC h2 (PC h3 (PC hv (P3 (show e.occ s=false from q) h4 h5))))) ⟨rfl,clo_bd _⟩
theorem m_same (m:Nat) (a b:X) (h:Con prog w (LIx w.params) m (.fn a.eqf) [] [.ex a,.ex b] [] (.ok (.bool true)) []):Con prog w (LIx w.params) (m+3) (.fn 1032) [] [.ex a,.ex b,.bd []] [] (.ok (.bd [])) [] :=
 (F1032 w.params).ret0 (n:=m) (cs:=[]) (.bd []) [.ex a,.ex b,.bd []] [.c (.ok (.bool true))] (P1 h) (clo_bd _) (Nat.le_refl _) (by rfl) (by kernel_rfl)
theorem m_varl (m:Nat) (s:Str) (b:X) (o:Option (List (Str×X))) (h:Con prog w (LIx w.params) m (.fn 471) [] [.ex (.var s),.ex b] [] (.ok (.bool false)) []) (hv:Con prog w (LIx w.params) m (.fn 1039) [] [.ex (.var s),.ex b,.bd []] [] (resB o) []) :
  Con prog w (LIx w.params) (m+3) (.fn 1032) [] [.ex (.var s),.ex b,.bd []] [] (resB o) []:=by
 cases o with
 | some d=>exact (F1032 w.params).run0 (prog:=prog) (LI:=LIx w.params) (n:=m) (out:=resF (some d)) (cs:=[]) [.ex (.var s),.ex b,.bd []] [.c (.ok (.bool false)),.c (.ok (.bd d))] (by rfl) (by kernel_rfl) (P2 h hv) (resF_ends _)
 | none=>exact (F1032 w.params).run0 (prog:=prog) (LI:=LIx w.params) (n:=m) (out:=resF none) (cs:=[]) [.ex (.var s),.ex b,.bd []] [.c (.ok (.bool false)),.c (.err (.fn 1049))] (by rfl) (by kernel_rfl) (P2 h hv) (resF_ends _)
theorem m_varr (m:Nat) (s:Str) (a:X) (o:Option (List (Str×X))) (ha:a.cls≠514) (h:Con prog w (LIx w.params) m (.fn a.eqf) [] [.ex a,.ex (.var s)] [] (.ok (.bool false)) []) (hv:Con prog w (LIx w.params) m (.fn 1039) [] [.ex (.var s),.ex a,.bd []] [] (resB o) []) :
  Con prog w (LIx w.params) (m+3) (.fn 1032) [] [.ex a,.ex (.var s),.bd []] [] (resB o) []:=by
 cases a with
 | var t=>exact absurd rfl ha
 | con c =>
  cases o with
  | some d=>exact (F1032 w.params).run0 (prog:=prog) (LI:=LIx w.params) (n:=m) (out:=resF (some d)) (cs:=[]) [.ex (.con c),.ex (.var s),.bd []] [.c (.ok (.bool false)),.c (.ok (.bd d))] (by rfl) (by kernel_rfl) (P2 h hv) (resF_ends _)
  | none=>exact (F1032 w.params).run0 (prog:=prog) (LI:=LIx w.params) (n:=m) (out:=resF none) (cs:=[]) [.ex (.con c),.ex (.var s),.bd []] [.c (.ok (.bool false)),.c (.err (.fn 1049))] (by rfl) (by kernel_rfl) (P2 h hv) (resF_ends _)
 | app f x =>
  cases o with
  | some d=>exact (F1032 w.params).run0 (prog:=prog) (LI:=LIx w.params) (n:=m) (out:=resF (some d)) (cs:=[]) [.ex (.app f x),.ex (.var s),.bd []] [.c (.ok (.bool false)),.c (.ok (.bd d))] (by rfl) (by kernel_rfl) (P2 h hv) (resF_ends _)
  | none=>exact (F1032 w.params).run0 (prog:=prog) (LI:=LIx w.params) (n:=m) (out:=resF none) (cs:=[]) [.ex (.app f x),.ex (.var s),.bd []] [.c (.ok (.bool false)),.c (.err (.fn 1049))] (by rfl) (by kernel_rfl) (P2 h hv) (resF_ends _)
theorem m_cc (m:Nat) (c d:C5) (h:Con prog w (LIx w.params) m (.fn 471) [] [.ex (.con c),.ex (.con d)] [] (.ok (.bool false)) []):Con prog w (LIx w.params) (m+3) (.fn 1032) [] [.ex (.con c),.ex (.con d),.bd []] [] (.err (.fn 1049)) [] :=
 (F1032 w.params).run0 (prog:=prog) (LI:=LIx w.params) (n:=m) (out:=.err (.fn 1049)) (cs:=[]) [.ex (.con c),.ex (.con d),.bd []] [.c (.ok (.bool false))] (by rfl) (by kernel_rfl) (P1 h) rfl
theorem m_ca (m:Nat) (c:C5) (g y:X) (h:Con prog w (LIx w.params) m (.fn 471) [] [.ex (.con c),.ex (.app g y)] [] (.ok (.bool false)) []):Con prog w (LIx w.params) (m+3) (.fn 1032) [] [.ex (.con c),.ex (.app g y),.bd []] [] (.err (.fn 1049)) [] :=
 (F1032 w.params).run0 (prog:=prog) (LI:=LIx w.params) (n:=m) (out:=.err (.fn 1049)) (cs:=[]) [.ex (.con c),.ex (.app g y),.bd []] [.c (.ok (.bool false))] (by rfl) (by kernel_rfl) (P1 h) rfl
theorem m_ac (m:Nat) (f x:X) (c:C5) (h:Con prog w (LIx w.params) m (.fn 386) [] [.ex (.app f x),.ex (.con c)] [] (.ok (.bool false)) []):Con prog w (LIx w.params) (m+3) (.fn 1032) [] [.ex (.app f x),.ex (.con c),.bd []] [] (.err (.fn 1049)) [] :=
 (F1032 w.params).run0 (prog:=prog) (LI:=LIx w.params) (n:=m) (out:=.err (.fn 1049)) (cs:=[]) [.ex (.app f x),.ex (.con c),.bd []] [.c (.ok (.bool false))] (by rfl) (by kernel_rfl) (P1 h) rfl
theorem m_aa1 (m:Nat) (f x g y:X) (h:Con prog w (LIx w.params) m (.fn 386) [] [.ex (.app f x),.ex (.app g y)] [] (.ok (.bool false)) []) (h1:Con prog w (LIx w.params) m (.fn 1032) [] [.ex f,.ex g,.bd []] [] (.err (.fn 1049)) []) :
  Con prog w (LIx w.params) (m+3) (.fn 1032) [] [.ex (.app f x),.ex (.app g y),.bd []] [] (.err (.fn 1049)) [] :=
 (F1032 w.params).run0 (prog:=prog) (LI:=LIx w.params) (n:=m) (out:=.err (.fn 1049)) (cs:=[]) [.ex (.app f x),.ex (.app g y),.bd []] [.c (.ok (.bool false)),.c (.err (.fn 1049))] (by rfl) (by kernel_rfl) (P2 h h1) rfl
theorem m_aa2 (m:Nat) (f x g y:X) (d1:List (Str×X)) (h:Con prog w (LIx w.params) m (.fn 386) [] [.ex (.app f x),.ex (.app g y)] [] (.ok (.bool false)) []) (h1:Con prog w (LIx w.params) m (.fn 1032) [] [.ex f,.ex g,.bd []] [] (.ok (.bd d1)) [])
  (h2:Con prog w (LIx w.params) m (.fn 1032) [] [.ex x,.ex y,.bd []] [] (.err (.fn 1049)) []):Con prog w (LIx w.params) (m+3) (.fn 1032) [] [.ex (.app f x),.ex (.app g y),.bd []] [] (.err (.fn 1049)) [] :=
 (F1032 w.params).run0 (prog:=prog) (LI:=LIx w.params) (n:=m) (out:=.err (.fn 1049)) (cs:=[]) [.ex (.app f x),.ex (.app g y),.bd []] [.c (.ok (.bool false)),.c (.ok (.bd d1)),.c (.err (.fn 1049))] (by rfl) (by kernel_rfl) (P3 h h1 h2) rfl
theorem m_aa3 (m:Nat) (f x g y:X) (d1 d2:List (Str×X)) (o:Option (List (Str×X))) (h:Con prog w (LIx w.params) m (.fn 386) [] [.ex (.app f x),.ex (.app g y)] [] (.ok (.bool false)) []) (h1:Con prog w (LIx w.params) m (.fn 1032) [] [.ex f,.ex g,.bd []] [] (.ok (.bd d1)) [])
  (h2:Con prog w (LIx w.params) m (.fn 1032) [] [.ex x,.ex y,.bd []] [] (.ok (.bd d2)) []) (h3:Con prog w (LIx w.params) m (.fn 1010) [] [.bd d1,.bd d2] [] (resB o) []):Con prog w (LIx w.params) (m+3) (.fn 1032) [] [.ex (.app f x),.ex (.app g y),.bd []] [] (resB o) []:=by
 cases o with
 | some d=>exact (F1032 w.params).run0 (prog:=prog) (LI:=LIx w.params) (n:=m) (out:=resF (some d)) (cs:=[]) [.ex (.app f x),.ex (.app g y),.bd []] [.c (.ok (.bool false)),.c (.ok (.bd d1)),.c (.ok (.bd d2)),.c (.ok (.bd d))] (by rfl) (by kernel_rfl) (PC h (P3 h1 h2 h3)) (resF_ends _)
 | none=>exact (F1032 w.params).run0 (prog:=prog) (LI:=LIx w.params) (n:=m) (out:=resF none) (cs:=[]) [.ex (.app f x),.ex (.app g y),.bd []] [.c (.ok (.bool false)),.c (.ok (.bd d1)),.c (.ok (.bd d2)),.c (.err (.fn 1049))] (by rfl) (by kernel_rfl) (PC h (P3 h1 h2 h3)) (resF_ends _)
end
section
variable {prog:Program} {w:World}
theorem mgu_same {a b:X} (h:a.eqb b=true):mguX a b=some []:=by
 cases a<;>cases b<;>(unfold mguX;first | rw [if_pos h] | rfl)
theorem up3 (n H:Nat) {f m:Nat} (h:f≤m):n+9 * H+3 * f+18≤n+9 * H+3 * (m+1)+15:=by omega
theorem up6 {n H f:Nat} (h:f≤H):n+3 * f+6≤n+9 * H+3 * f+15:=by omega
theorem upj (n H h:Nat):n+3 * H+12≤n+9 * H+3 * h+15:=by omega
theorem upv (n H h:Nat):n+9 * H+15≤n+9 * H+3 * h+15:=by omega
theorem lt5 {x a b:Nat} (k:x≤a+b) (h:a<100000) (l:b<100000):x<500000:=by omega
theorem lt6 {x y:Nat} (h:x<200000) (l:y<200000):x+y<500000:=by omega
theorem lt7 {x a b:Nat} (k:x≤a+b) (h:a<100000) (l:b<100000):x<200000:=by omega
theorem mgu_con (n H:Nat):∀ (a b:X),a.ht≤H→b.ht≤H→a.sz<100000→b.sz<100000→GoodM a b→Con prog w (LIx w.params) (n+9 * H+3 * a.ht+18) (.fn 1032) [] [.ex a,.ex b,.bd []] [] (resB (mguX a b)) []:=by
 have eqc:∀ (a b:X),a.ht≤H→Con prog w (LIx w.params) (n+9 * H+3 * a.ht+15) (.fn a.eqf) [] [.ex a,.ex b] [] (.ok (.bool (a.eqb b))) []:=fun a b h=>(eqb_con a b n).mono (up6 h)
 have mv:∀ (a:X) (s:Str) (e:X),e.ht≤H→e.sz<100000→Con prog w (LIx w.params) (n+9 * H+3 * a.ht+15) (.fn 1039) [] [.ex (.var s),.ex e,.bd []] [] (resB (bindX s e)) []:=fun a s e h1 h2=>(mvar_con n H s e (Nat.lt_trans h2 (by decide)) h1).mono (upv ..)
 intro a
 induction a with
 | var s =>
  intro b ha hb za zb _
  have he:=eqc (.var s) b ha
  cases q:(X.var s).eqb b with
  | true=>rw [mgu_same q];rw [q] at he;exact m_same _ _ _ he
  | false =>
   rw [q] at he
   have e:mguX (.var s) b=bindX s b:=by unfold mguX;rw [q];rfl
   rw [e]
   exact m_varl _ s b _ he (mv (.var s) s b hb zb)
 | con c =>
  intro b ha hb za zb _
  have he:=eqc (.con c) b ha
  cases q:(X.con c).eqb b with
  | true=>rw [mgu_same q];rw [q] at he;exact m_same _ _ _ he
  | false =>
   rw [q] at he
   cases b with
   | var s =>
    have e:mguX (.con c) (.var s)=bindX s (.con c):=by unfold mguX;rw [q];rfl
    rw [e]
    exact m_varr _ s (.con c) _ (by intro z;cases z) he (mv (.con c) s (.con c) ha za)
   | con d =>
    have e:mguX (.con c) (.con d)=none:=by unfold mguX;rw [q];rfl
    rw [e]
    exact m_cc _ c d he
   | app g y =>
    have e:mguX (.con c) (.app g y)=none:=by unfold mguX;rw [q];rfl
    rw [e]
    exact m_ca _ c g y he
 | app f x ihf ihx =>
  intro b ha hb za zb hg
  have he:=eqc (.app f x) b ha
  have ha':max f.ht x.ht+1≤H:=ha
  have za':f.sz+x.sz<100000:=za
  cases q:(X.app f x).eqb b with
  | true=>rw [mgu_same q];rw [q] at he;exact m_same _ _ _ he
  | false =>
   rw [q] at he
   cases b with
   | var s =>
    have e:mguX (.app f x) (.var s)=bindX s (.app f x):=by unfold mguX;rw [q];rfl
    rw [e]
    exact m_varr _ s (.app f x) _ (by intro z;cases z) he (mv (.app f x) s (.app f x) ha za)
   | con c =>
    have e:mguX (.app f x) (.con c)=none:=by unfold mguX;rw [q];rfl
    rw [e]
    exact m_ac _ f x c he
   | app g y =>
    have hb':max g.ht y.ht+1≤H:=hb
    have zb':g.sz+y.sz<100000:=zb
    obtain ⟨g1,g2,g3⟩:=hg
    have e:mguX (.app f x) (.app g y)=(match mguX f g with | none=>none | some d1=>match mguX x y with | none=>none | some d2=>addAll d1 d2):=by
     show (if (X.app f x).eqb (.app g y)=true then _ else _)=_
     rw [q];rfl
    rw [e]
    have hx:(X.app f x).ht=max f.ht x.ht+1:=rfl
    have c1:Con prog w (LIx w.params) (n+9 * H+3 * (X.app f x).ht+15) (.fn 1032) [] [.ex f,.ex g,.bd []] [] (resB (mguX f g)) []:=(ihf g (hL ha') (hL hb') (ltL za') (ltL zb') g1).mono (up3 _ _ (Nat.le_max_left ..))
    have c2:Con prog w (LIx w.params) (n+9 * H+3 * (X.app f x).ht+15) (.fn 1032) [] [.ex x,.ex y,.bd []] [] (resB (mguX x y)) []:=(ihx y (hR ha') (hR hb') (ltR za') (ltR zb') g2).mono (up3 _ _ (Nat.le_max_right ..))
    cases h1:mguX f g with
    | none =>
     rw [h1] at c1
     exact m_aa1 _ f x g y he c1
    | some d1 =>
     rw [h1] at c1
     cases h2:mguX x y with
     | none =>
      rw [h2] at c2
      exact m_aa2 _ f x g y d1 he c1 c2
     | some d2 =>
      rw [h2] at c2
      obtain ⟨a1,a2,a3⟩:=mgu_facts f g d1 h1
      obtain ⟨b1,b2,b3⟩:=mgu_facts x y d2 h2
      obtain ⟨n1,n2⟩:=addAll_new d1 [] a1
      have hj:=add_con (prog:=prog) (w:=w) (LI:=LIx w.params) n H d1 d2 d1 (fun p hp=>⟨look_of a1 p hp,Nat.le_trans (a3 p hp) (Nat.max_le.mpr ⟨hL ha',hL hb'⟩)⟩) (fun p hp=>⟨look_of b1 p hp,Nat.le_trans (b3 p hp) (Nat.max_le.mpr ⟨hR ha',hR hb'⟩)⟩) n2 n1 (g3 d1 d2 h1 h2) (lt5 a2 (ltL za') (ltL zb')) (lt6 (lt7 a2 (ltL za') (ltL zb')) (lt7 b2 (ltR za') (ltR zb')))
      have c3:Con prog w (LIx w.params) (n+9 * H+3 * (X.app f x).ht+15) (.fn 1010) [] [.bd d1,.bd d2] [] (resB (addAll d1 d2)) []:=by
       cases q3:addAll d1 d2 with
       | some d=>exact (hj.1 d q3).mono (upj ..)
       | none=>exact (hj.2 q3).mono (upj ..)
      exact m_aa3 _ f x g y d1 d2 _ he c1 c2 c3
theorem B1032 (P:Params) {s:Shared} (k:KIn P s.heap) (a b:Value):BindsTo s (fdat P 1032) ⟨[a,b],[]⟩ [("a", a),("b", b),("bindings", .none)]:=by
 have hd:(fdat P 1032).defaults=.ref 1025:=by kernel_rfl
 refine BindsTo.of_defaults (items:=#[.none]) (n:=0) hd (k _ _ (k1025 P)) rfl (by unfold bindArgs;rfl) ?_
 kernel_rfl
end
theorem n1032 (P:Params):(["a","b","bindings"].all fun x=>(fdat P 1032).scope.names.lookup (Str.ofString x)==some .local)=true:=by kernel_rfl
theorem p1032:plainL.any (Nat.beq 1032)=true:=by kernel_rfl
section
variable {prog:Program} {w:World}
theorem runD {n:Nat} {cs:List Cell} {out:Res Fl} {r:Res V} {ps:List Prop} (a b:V) (tr:List Tr)
  (e:((evBk (evM prog w (LIx w.params) (Gf w.params n 1032) 40 40) (bodyAt w.params 1032) ⟨[("bindings", .none),("b", b),("a", a)],[],.c (.ok (.bd []))::tr⟩).map fun r=>(r.1,r.2.1.cells,r.2.2))=some (out,cs,ps)) (hp:AllP ps) (hr:Ends out r) :
  Con prog w (LIx w.params) (n+3) (.fn 1032) [] [a,b] [] r []:=by
 obtain ⟨⟨o,σ',p⟩,h1,h2⟩:=Option.map_eq_some_iff.mp e
 cases h2
 have nm:=n1032 w.params
 simp only [List.all_cons,List.all_nil,Bool.and_true,Bool.and_eq_true] at nm
 have:=fn_conN (n:=n) (m:=40) (k:=40) (args:=[a,b]) (kw:=[]) (cells:=[]) (r:=r) p1032 (fun s us ks φ ca k ra rk=>by
  cases rk
  obtain ⟨u,v,rfl,r1,r2⟩:=ra.two
  refine ⟨_,B1032 w.params k u v,fun x hx=>?_,.cons .none (.cons r2 (.cons r1 .nil))⟩
  rcases List.mem_cons.mp hx with rfl | hx
  ·exact beq_iff_eq.mp nm.1
  ·rcases List.mem_cons.mp hx with rfl | hx
   ·exact beq_iff_eq.mp nm.2.1
   ·rcases List.mem_cons.mp hx with rfl | hx
    ·exact beq_iff_eq.mp nm.2.2
    ·cases hx) h1 hp hr.N (fun c _=>.inr nofun)
 exact this.con (fun b e=>hr.clo e) (.inr nofun)
theorem m_same_ (m:Nat) (h0:Con prog w (LIx w.params) m (.fn 1020) [] [] [] (.ok (.bd [])) []) (a b:X) (h:Con prog w (LIx w.params) m (.fn a.eqf) [] [.ex a,.ex b] [] (.ok (.bool true)) []):Con prog w (LIx w.params) (m+3) (.fn 1032) [] [.ex a,.ex b] [] (.ok (.bd [])) [] :=
 runD (n:=m) (cs:=[]) (out:=.ok (.ret (.bd []))) (.ex a) (.ex b) [.c (.ok (.bool true))] (by kernel_rfl) (PC h0 (P1 h)) ⟨rfl,clo_bd _⟩
theorem m_varl_ (m:Nat) (h0:Con prog w (LIx w.params) m (.fn 1020) [] [] [] (.ok (.bd [])) []) (s:Str) (b:X) (o:Option (List (Str×X))) (h:Con prog w (LIx w.params) m (.fn 471) [] [.ex (.var s),.ex b] [] (.ok (.bool false)) []) (hv:Con prog w (LIx w.params) m (.fn 1039) [] [.ex (.var s),.ex b,.bd []] [] (resB o) []) :
  Con prog w (LIx w.params) (m+3) (.fn 1032) [] [.ex (.var s),.ex b] [] (resB o) []:=by
 cases o with
 | some d=>exact runD (n:=m) (cs:=[]) (out:=resF (some d)) (.ex (.var s)) (.ex b) [.c (.ok (.bool false)),.c (.ok (.bd d))] (by kernel_rfl) (PC h0 (P2 h hv)) (resF_ends _)
 | none=>exact runD (n:=m) (cs:=[]) (out:=resF none) (.ex (.var s)) (.ex b) [.c (.ok (.bool false)),.c (.err (.fn 1049))] (by kernel_rfl) (PC h0 (P2 h hv)) (resF_ends _)
theorem m_varr_ (m:Nat) (h0:Con prog w (LIx w.params) m (.fn 1020) [] [] [] (.ok (.bd [])) []) (s:Str) (a:X) (o:Option (List (Str×X))) (ha:a.cls≠514) (h:Con prog w (LIx w.params) m (.fn a.eqf) [] [.ex a,.ex (.var s)] [] (.ok (.bool false)) []) (hv:Con prog w (LIx w.params) m (.fn 1039) [] [.ex (.var s),.ex a,.bd []] [] (resB o) []) :
  Con prog w (LIx w.params) (m+3) (.fn 1032) [] [.ex a,.ex (.var s)] [] (resB o) []:=by
 cases a with
 | var t=>exact absurd rfl ha
 | con c =>
  cases o with
  | some d=>exact runD (n:=m) (cs:=[]) (out:=resF (some d)) (.ex (.con c)) (.ex (.var s)) [.c (.ok (.bool false)),.c (.ok (.bd d))] (by kernel_rfl) (PC h0 (P2 h hv)) (resF_ends _)
  | none=>exact runD (n:=m) (cs:=[]) (out:=resF none) (.ex (.con c)) (.ex (.var s)) [.c (.ok (.bool false)),.c (.err (.fn 1049))] (by kernel_rfl) (PC h0 (P2 h hv)) (resF_ends _)
 | app f x =>
  cases o with
  | some d=>exact runD (n:=m) (cs:=[]) (out:=resF (some d)) (.ex (.app f x)) (.ex (.var s)) [.c (.ok (.bool false)),.c (.ok (.bd d))] (by kernel_rfl) (PC h0 (P2 h hv)) (resF_ends _)
  | none=>exact runD (n:=m) (cs:=[]) (out:=resF none) (.ex (.app f x)) (.ex (.var s)) [.c (.ok (.bool false)),.c (.err (.fn 1049))] (by kernel_rfl) (PC h0 (P2 h hv)) (resF_ends _)
theorem m_cc_ (m:Nat) (h0:Con prog w (LIx w.params) m (.fn 1020) [] [] [] (.ok (.bd [])) []) (c d:C5) (h:Con prog w (LIx w.params) m (.fn 471) [] [.ex (.con c),.ex (.con d)] [] (.ok (.bool false)) []):Con prog w (LIx w.params) (m+3) (.fn 1032) [] [.ex (.con c),.ex (.con d)] [] (.err (.fn 1049)) [] :=
 runD (n:=m) (cs:=[]) (out:=.err (.fn 1049)) (.ex (.con c)) (.ex (.con d)) [.c (.ok (.bool false))] (by kernel_rfl) (PC h0 (P1 h)) rfl
theorem m_ca_ (m:Nat) (h0:Con prog w (LIx w.params) m (.fn 1020) [] [] [] (.ok (.bd [])) []) (c:C5) (g y:X) (h:Con prog w (LIx w.params) m (.fn 471) [] [.ex (.con c),.ex (.app g y)] [] (.ok (.bool false)) []):Con prog w (LIx w.params) (m+3) (.fn 1032) [] [.ex (.con c),.ex (.app g y)] [] (.err (.fn 1049)) [] :=
 runD (n:=m) (cs:=[]) (out:=.err (.fn 1049)) (.ex (.con c)) (.ex (.app g y)) [.c (.ok (.bool false))] (by kernel_rfl) (PC h0 (P1 h)) rfl
theorem m_ac_ (m:Nat) (h0:Con prog w (LIx w.params) m (.fn 1020) [] [] [] (.ok (.bd [])) []) (f x:X) (c:C5) (h:Con prog w (LIx w.params) m (.fn 386) [] [.ex (.app f x),.ex (.con c)] [] (.ok (.bool false)) []):Con prog w (LIx w.params) (m+3) (.fn 1032) [] [.ex (.app f x),.ex (.con c)] [] (.err (.fn 1049)) [] :=
 runD (n:=m) (cs:=[]) (out:=.err (.fn 1049)) (.ex (.app f x)) (.ex (.con c)) [.c (.ok (.bool false))] (by kernel_rfl) (PC h0 (P1 h)) rfl
theorem m_aa1_ (m:Nat) (h0:Con prog w (LIx w.params) m (.fn 1020) [] [] [] (.ok (.bd [])) []) (f x g y:X) (h:Con prog w (LIx w.params) m (.fn 386) [] [.ex (.app f x),.ex (.app g y)] [] (.ok (.bool false)) []) (h1:Con prog w (LIx w.params) m (.fn 1032) [] [.ex f,.ex g,.bd []] [] (.err (.fn 1049)) []) :
  Con prog w (LIx w.params) (m+3) (.fn 1032) [] [.ex (.app f x),.ex (.app g y)] [] (.err (.fn 1049)) [] :=
 runD (n:=m) (cs:=[]) (out:=.err (.fn 1049)) (.ex (.app f x)) (.ex (.app g y)) [.c (.ok (.bool false)),.c (.err (.fn 1049))] (by kernel_rfl) (PC h0 (P2 h h1)) rfl
theorem m_aa2_ (m:Nat) (h0:Con prog w (LIx w.params) m (.fn 1020) [] [] [] (.ok (.bd [])) []) (f x g y:X) (d1:List (Str×X)) (h:Con prog w (LIx w.params) m (.fn 386) [] [.ex (.app f x),.ex (.app g y)] [] (.ok (.bool false)) []) (h1:Con prog w (LIx w.params) m (.fn 1032) [] [.ex f,.ex g,.bd []] [] (.ok (.bd d1)) [])
  (h2:Con prog w (LIx w.params) m (.fn 1032) [] [.ex x,.ex y,.bd []] [] (.err (.fn 1049)) []):Con prog w (LIx w.params) (m+3) (.fn 1032) [] [.ex (.app f x),.ex (.app g y)] [] (.err (.fn 1049)) [] :=
 runD (n:=m) (cs:=[]) (out:=.err (.fn 1049)) (.ex (.app f x)) (.ex (.app g y)) [.c (.ok (.bool false)),.c (.ok (.bd d1)),.c (.err (.fn 1049))] (by kernel_rfl) (PC h0 (P3 h h1 h2)) rfl
theorem m_aa3_ (m:Nat) (h0:Con prog w (LIx w.params) m (.fn 1020) [] [] [] (.ok (.bd [])) []) (f x g y:X) (d1 d2:List (Str×X)) (o:Option (List (Str×X))) (h:Con prog w (LIx w.params) m (.fn 386) [] [.ex (.app f x),.ex (.app g y)] [] (.ok (.bool false)) []) (h1:Con prog w (LIx w.params) m (.fn 1032) [] [.ex f,.ex g,.bd []] [] (.ok (.bd d1)) [])
  (h2:Con prog w (LIx w.params) m (.fn 1032) [] [.ex x,.ex y,.bd []] [] (.ok (.bd d2)) []) (h3:Con prog w (LIx w.params) m (.fn 1010) [] [.bd d1,.bd d2] [] (resB o) []):Con prog w (LIx w.params) (m+3) (.fn 1032) [] [.ex (.app f x),.ex (.app g y)] [] (resB o) []:=by
 cases o with
 | some d=>exact runD (n:=m) (cs:=[]) (out:=resF (some d)) (.ex (.app f x)) (.ex (.app g y)) [.c (.ok (.bool false)),.c (.ok (.bd d1)),.c (.ok (.bd d2)),.c (.ok (.bd d))] (by kernel_rfl) (PC h0 (PC h (P3 h1 h2 h3))) (resF_ends _)
 | none=>exact runD (n:=m) (cs:=[]) (out:=resF none) (.ex (.app f x)) (.ex (.app g y)) [.c (.ok (.bool false)),.c (.ok (.bd d1)),.c (.ok (.bd d2)),.c (.err (.fn 1049))] (by kernel_rfl) (PC h0 (PC h (P3 h1 h2 h3))) (resF_ends _)
theorem mgu2_con (n H:Nat):∀ (a b:X),a.ht≤H→b.ht≤H→a.sz<100000→b.sz<100000→GoodM a b→Con prog w (LIx w.params) (n+9 * H+3 * a.ht+18) (.fn 1032) [] [.ex a,.ex b] [] (resB (mguX a b)) []:=by
 have eqc:∀ (a b:X),a.ht≤H→Con prog w (LIx w.params) (n+9 * H+3 * a.ht+15) (.fn a.eqf) [] [.ex a,.ex b] [] (.ok (.bool (a.eqb b))) []:=fun a b h=>(eqb_con a b n).mono (up6 h)
 have mv:∀ (a:X) (s:Str) (e:X),e.ht≤H→e.sz<100000→Con prog w (LIx w.params) (n+9 * H+3 * a.ht+15) (.fn 1039) [] [.ex (.var s),.ex e,.bd []] [] (resB (bindX s e)) []:=fun a s e h1 h2=>(mvar_con n H s e (Nat.lt_trans h2 (by decide)) h1).mono (upv ..)
 have nb:∀ (a:X),Con prog w (LIx w.params) (n+9 * H+3 * a.ht+15) (.fn 1020) [] [] [] (.ok (.bd [])) []:=fun a=>(new0_bd n).mono (Nat.add_le_add (Nat.le_trans (Nat.le_add_right _ _) (Nat.le_add_right _ _)) (by decide))
 intro a
 cases a with
 | var s =>
  intro b ha hb za zb _
  have he:=eqc (.var s) b ha
  cases q:(X.var s).eqb b with
  | true=>rw [mgu_same q];rw [q] at he;exact m_same_ _ (nb _) _ _ he
  | false =>
   rw [q] at he
   have e:mguX (.var s) b=bindX s b:=by unfold mguX;rw [q];rfl
   rw [e]
   exact m_varl_ _ (nb _) s b _ he (mv (.var s) s b hb zb)
 | con c =>
  intro b ha hb za zb _
  have he:=eqc (.con c) b ha
  cases q:(X.con c).eqb b with
  | true=>rw [mgu_same q];rw [q] at he;exact m_same_ _ (nb _) _ _ he
  | false =>
   rw [q] at he
   cases b with
   | var s =>
    have e:mguX (.con c) (.var s)=bindX s (.con c):=by unfold mguX;rw [q];rfl
    rw [e]
    exact m_varr_ _ (nb _) s (.con c) _ (by intro z;cases z) he (mv (.con c) s (.con c) ha za)
   | con d =>
    have e:mguX (.con c) (.con d)=none:=by unfold mguX;rw [q];rfl
    rw [e]
    exact m_cc_ _ (nb _) c d he
   | app g y =>
    have e:mguX (.con c) (.app g y)=none:=by unfold mguX;rw [q];rfl
    rw [e]
    exact m_ca_ _ (nb _) c g y he
 | app f x =>
  intro b ha hb za zb hg
  have he:=eqc (.app f x) b ha
  have ha':max f.ht x.ht+1≤H:=ha
  have za':f.sz+x.sz<100000:=za
  cases q:(X.app f x).eqb b with
  | true=>rw [mgu_same q];rw [q] at he;exact m_same_ _ (nb _) _ _ he
  | false =>
   rw [q] at he
   cases b with
   | var s =>
    have e:mguX (.app f x) (.var s)=bindX s (.app f x):=by unfold mguX;rw [q];rfl
    rw [e]
    exact m_varr_ _ (nb _) s (.app f x) _ (by intro z;cases z) he (mv (.app f x) s (.app f x) ha za)
   | con c =>
    have e:mguX (.app f x) (.con c)=none:=by unfold mguX;rw [q];rfl
    rw [e]
    exact m_ac_ _ (nb _) f x c he
   | app g y =>
    have hb':max g.ht y.ht+1≤H:=hb
    have zb':g.sz+y.sz<100000:=zb
    obtain ⟨g1,g2,g3⟩:=hg
    have e:mguX (.app f x) (.app g y)=(match mguX f g with | none=>none | some d1=>match mguX x y with | none=>none | some d2=>addAll d1 d2):=by
     show (if (X.app f x).eqb (.app g y)=true then _ else _)=_
     rw [q];rfl
    rw [e]
    have hx:(X.app f x).ht=max f.ht x.ht+1:=rfl
    have c1:Con prog w (LIx w.params) (n+9 * H+3 * (X.app f x).ht+15) (.fn 1032) [] [.ex f,.ex g,.bd []] [] (resB (mguX f g)) []:=(mgu_con n H f g (hL ha') (hL hb') (ltL za') (ltL zb') g1).mono (up3 _ _ (Nat.le_max_left ..))
    have c2:Con prog w (LIx w.params) (n+9 * H+3 * (X.app f x).ht+15) (.fn 1032) [] [.ex x,.ex y,.bd []] [] (resB (mguX x y)) []:=(mgu_con n H x y (hR ha') (hR hb') (ltR za') (ltR zb') g2).mono (up3 _ _ (Nat.le_max_right ..))
    cases h1:mguX f g with
    | none =>
     rw [h1] at c1
     exact m_aa1_ _ (nb _) f x g y he c1
    | some d1 =>
     rw [h1] at c1
     cases h2:mguX x y with
     | none =>
      rw [h2] at c2
      exact m_aa2_ _ (nb _) f x g y d1 he c1 c2
     | some d2 =>
      rw [h2] at c2
      obtain ⟨a1,a2,a3⟩:=mgu_facts f g d1 h1
      obtain ⟨b1,b2,b3⟩:=mgu_facts x y d2 h2
      obtain ⟨n1,n2⟩:=addAll_new d1 [] a1
      have hj:=add_con (prog:=prog) (w:=w) (LI:=LIx w.params) n H d1 d2 d1 (fun p hp=>⟨look_of a1 p hp,Nat.le_trans (a3 p hp) (Nat.max_le.mpr ⟨hL ha',hL hb'⟩)⟩) (fun p hp=>⟨look_of b1 p hp,Nat.le_trans (b3 p hp) (Nat.max_le.mpr ⟨hR ha',hR hb'⟩)⟩) n2 n1 (g3 d1 d2 h1 h2) (lt5 a2 (ltL za') (ltL zb')) (lt6 (lt7 a2 (ltL za') (ltL zb')) (lt7 b2 (ltR za') (ltR zb')))
      have c3:Con prog w (LIx w.params) (n+9 * H+3 * (X.app f x).ht+15) (.fn 1010) [] [.bd d1,.bd d2] [] (resB (addAll d1 d2)) []:=by
       cases q3:addAll d1 d2 with
       | some d=>exact (hj.1 d q3).mono (upj ..)
       | none=>exact (hj.2 q3).mono (upj ..)
      exact m_aa3_ _ (nb _) f x g y d1 d2 _ he c1 c2 c3
end
noncomputable def X.repl (v:Str) (e:X):X→X
 | .var t=>if t==v then e else .var t
 | .con c=>if c.nm==v then e else .con c
 | .app f a=>.app (X.repl v e f) (X.repl v e a)
noncomputable abbrev rCv (v:Str) (e:X):List (Str×V):=[("variable", .vr v),("expression", .ex e),("replace_bound", .bool false),("alpha_convert", .bool true)]
noncomputable abbrev rCa (v:Str) (e:X):List V:=[.vr v,.bool false,.ex e,.bool true]
theorem caps2 (P:Params):(LIg P 2).caps=([Str.ofString "variable", Str.ofString "replace_bound", Str.ofString "expression", Str.ofString "alpha_convert"]:List Str)∧(LIg P 3).caps=([Str.ofString "self"]:List Str):=by
 refine ⟨?_,?_⟩<;>kernel_rfl
theorem names2 (P:Params):(LIg P 2).scope.names=([((("e": Str),NameKind.local)),("alpha_convert", .free),("expression", .free),("replace_bound", .free),("variable", .free)]:List (Str×NameKind))∧(LIg P 3).scope.names=([("parts", .local),("self", .free)]:List (Str×NameKind)):=by
 refine ⟨?_,?_⟩<;>kernel_rfl
section
variable {prog:Program} {w:World}
theorem capsJ {φ:Mp} {z:Str} {c:Addr} {o:Obj} {u:Value} {clos:List (Str×Addr)} {us:List Value} (h:φ c=some o) (d:o.data=.cell (some u)) (k:∀ (j:Nat) (x:Str) (b:Addr),clos[j]?=some (x,b)→∃ o u,φ b=some o∧o.data=.cell (some u)∧us[j]?=some u) :
  ∀ (j:Nat) (x:Str) (b:Addr),((z,c)::clos)[j]?=some (x,b)→∃ o u',φ b=some o∧o.data=.cell (some u')∧(u::us)[j]?=some u':=fun j x b e=>by
 cases j with
 | zero =>
  have e:c=b:=congrArg Prod.snd (Option.some.inj e)
  exact ⟨o,u,e▸h,d,rfl⟩
 | succ j=>exact k j x b e
theorem lam264 (n:Nat) (v:Str) (e:X) (σ:Ab):SemE prog w (LIx w.params) (Gc w.params n 264 (rCv v e)) (lamE w.params 264 0) σ (.ok (.lam 2 (rCa v e))) σ:=by
 intro A a cl L F outer S φ ca s h
 have fc:=List.all_eq_true.mp (lam_facts w.params) (264,2,259) (by decide)
 rw [Bool.and_eq_true,Bool.and_eq_true] at fc
 refine (h.cv "variable" (.vr v) rfl).elim fun c1 q1=>q1.elim fun o1 q1=>q1.elim fun u1 q1=>(h.cv "expression" (.ex e) rfl).elim fun c2 q2=>q2.elim fun o2 q2=>q2.elim fun u2 q2=>(h.cv "replace_bound" (.bool false) rfl).elim fun c3 q3=>q3.elim fun o3 q3=>q3.elim fun u3 q3=>(h.cv "alpha_convert" (.bool true) rfl).elim fun c4 q4=>q4.elim fun o4 q4=>q4.elim fun u4 q4=>?_
 have l1:cl.lookup ("variable": Str)=some c1:=q1.1
 have l2:cl.lookup ("expression": Str)=some c2:=q2.1
 have l3:cl.lookup ("replace_bound": Str)=some c3:=q3.1
 have l4:cl.lookup ("alpha_convert": Str)=some c4:=q4.1
 have hn:=(names2 w.params).1
 have hcl:closureFor (LIg w.params 2).scope (eN (Gc w.params n 264 (rCv v e)) L a cl)=pure ([("variable", c1),("replace_bound", c3),("expression", c2),("alpha_convert", c4)]:List (Str×Addr)):=by
  rw [closure_of (hn▸all_cons nofun (all_cons (fun _=>Option.isSome_of_eq_some l4) (all_cons (fun _=>Option.isSome_of_eq_some l2) (all_cons (fun _=>Option.isSome_of_eq_some l3) (one_of fun _=>Option.isSome_of_eq_some l1))))),hn]
  show pure (closL cl _ [])=_
  simp only [closL,l1,l2,l3,l4,Option.getD_some]
  rfl
 rw [(lam_is w.params).2.2.1]
 exact lam_op (f:=264) (T:=259) (cvs:=rCv v e) (clos:=[("variable", c1),("replace_bound", c3),("expression", c2),("alpha_convert", c4)]) (us:=[u1,u3,u2,u4]) (caps:=rCa v e) (.tail _ (.head _)) (LIg_eq _ (by decide)) (beq_iff_eq.mp fc.1.1) (beq_iff_eq.mp fc.1.2) h (defs_of fc.2) hcl (caps2 w.params).1.symm
  (capsJ (q1.2.1) q1.2.2.1 (capsJ q3.2.1 q3.2.2.1 (capsJ q2.2.1 q2.2.2.1 (capsJ q4.2.1 q4.2.2.1 nofun)))) rfl (.cons q1.2.2.2 (.cons q3.2.2.2 (.cons q2.2.2.2 (.cons q4.2.2.2 .nil))))
theorem lam278 (n:Nat) (x:V) (σ:Ab):SemE prog w (LIx w.params) (Gc w.params n 278 [("self", x)]) (lamE w.params 278 1) σ (.ok (.lam 3 [x])) σ:=by
 intro A a cl L F outer S φ ca s h
 have fc:=List.all_eq_true.mp (lam_facts w.params) (278,3,273) (by decide)
 rw [Bool.and_eq_true,Bool.and_eq_true] at fc
 refine (h.cv "self" x rfl).elim fun c1 q1=>q1.elim fun o1 q1=>q1.elim fun u1 q1=>?_
 have l1:cl.lookup ("self": Str)=some c1:=q1.1
 have hn:=(names2 w.params).2
 have hcl:closureFor (LIg w.params 3).scope (eN (Gc w.params n 278 [("self", x)]) L a cl)=pure ([("self", c1)]:List (Str×Addr)):=by
  rw [closure_of (hn▸all_cons nofun (one_of fun _=>Option.isSome_of_eq_some l1)),hn]
  show pure (closL cl _ [])=_
  simp only [closL,l1,Option.getD_some]
  rfl
 rw [(lam_is w.params).2.2.2]
 exact lam_op (f:=278) (T:=273) (cvs:=[("self", x)]) (clos:=[("self", c1)]) (us:=[u1]) (caps:=[x]) (.tail _ (.tail _ (.head _))) (LIg_eq _ (by decide)) (beq_iff_eq.mp fc.1.1) (beq_iff_eq.mp fc.1.2) h (defs_of fc.2) hcl (caps2 w.params).2.symm (capsJ q1.2.1 q1.2.2.1 nofun) rfl (.cons q1.2.2.2 .nil)
theorem lam2_con (n:Nat) (v:Str) (e x y:X) (h:Con prog w (LIx w.params) n (.fn (x.mt "replace")) [] [.ex x,.vr v,.ex e,.bool false,.bool true] [] (.ok (.ex y)) []):Con prog w (LIx w.params) (n+3) (.lam 2 (rCa v e)) [] [.ex x] [] (.ok (.ex y)) [] :=
 (lam_con (names:=["e"]) (cs:=[]) (tr:=[.c (.ok (.ex y))]) (m:=40) (LIg_eq w.params (i:=2) (by decide)) (by kernel_rfl) (fun clos pm cdv ct us hu=>by obtain ⟨u,rfl⟩:=len1 hu;kernel_rfl) rfl (fun cd=>by kernel_rfl) (P1 h) (fun c q=>by cases q)).con (fun b e=>by cases e;exact clo_ex _) (.inl rfl)
end
theorem k257 (P:Params):(K P).lookup 257=some (tu [.bool false,.bool true]):=by kernel_rfl
noncomputable abbrev b264 (a b c d e:Value):List (Str×Value):=[("self", a),("variable", b),("expression", c),("replace_bound", d),("alpha_convert", e)]
theorem B264 (P:Params) {s:Shared} (k:KIn P s.heap) (a b c d e:Value):BindsTo s (fdat P 264) ⟨[a,b,c,d,e],[]⟩ (b264 a b c d e):=by
 have hd:(fdat P 264).defaults=.ref 257:=by kernel_rfl
 refine BindsTo.of_defaults (items:=#[.bool false,.bool true]) (n:=0) hd (k _ _ (k257 P)) rfl (by unfold bindArgs;rfl) ?_
 kernel_rfl
theorem B264k (P:Params) {s:Shared} (k:KIn P s.heap) (a b c e:Value):BindsTo s (fdat P 264) ⟨[a,b,c],[("alpha_convert", e)]⟩ (b264 a b c (.bool false) e):=by
 have hd:(fdat P 264).defaults=.ref 257:=by kernel_rfl
 refine BindsTo.of_defaults (items:=#[.bool false,.bool true]) (n:=0) hd (k _ _ (k257 P)) rfl (by unfold bindArgs;with_unfolding_all rfl) ?_
 kernel_rfl
theorem B457k (P:Params) {s:Shared} (k:KIn P s.heap) (a b c e:Value):BindsTo s (fdat P 457) ⟨[a,b,c],[("alpha_convert", e)]⟩ (b264 a b c (.bool false) e):=by
 have hd:(fdat P 457).defaults=.ref 450:=by kernel_rfl
 refine BindsTo.of_defaults (items:=#[.bool false,.bool true]) (n:=0) hd (k _ _ (k450 P)) rfl (by unfold bindArgs;with_unfolding_all rfl) ?_
 kernel_rfl
theorem kinds264 (P:Params) (a b c d e:Value):((b264 a b c d e).all fun y=>(fdat P 264).scope.names.lookup y.1==some .local||(fdat P 264).scope.names.lookup y.1==some .cell)=true:=by kernel_rfl
theorem bl264 (P:Params) (a b c d e:Value):bindL (fun x=>(fdat P 264).scope.names.lookup x) (b264 a b c d e) (fun _=>none) "self"= some a:=by kernel_rfl
theorem bc264 (P:Params) (a b c d e:Value):(bindC (fun x=>(fdat P 264).scope.names.lookup x) (b264 a b c d e) (fun _=>none) "variable"= some b∧(fdat P 264).scope.names.lookup ("variable": Str)=some .cell)∧(bindC (fun x=>(fdat P 264).scope.names.lookup x) (b264 a b c d e) (fun _=>none) "expression"= some c∧(fdat P 264).scope.names.lookup ("expression": Str)=some .cell) ∧
  (bindC (fun x=>(fdat P 264).scope.names.lookup x) (b264 a b c d e) (fun _=>none) "replace_bound"= some d∧(fdat P 264).scope.names.lookup ("replace_bound": Str)=some .cell)∧(bindC (fun x=>(fdat P 264).scope.names.lookup x) (b264 a b c d e) (fun _=>none) "alpha_convert"= some e∧(fdat P 264).scope.names.lookup ("alpha_convert": Str)=some .cell):=by
 refine ⟨⟨?_,?_⟩,⟨?_,?_⟩,⟨?_,?_⟩,⟨?_,?_⟩⟩<;>kernel_rfl
theorem c264:264∈celL:=.head _
theorem c278:278∈celL:=.tail _ (.head _)
section
variable {prog:Program} {w:World}
theorem RVs.hd {LI:Nat→Option LamInfo} {φ:Mp} {ca:List Addr} {v:V} {u:Value} {vs:List V} {us:List Value} (h:RVs prog w LI φ ca (v::vs) (u::us)):RV prog w LI φ ca v u:=by cases h with | cons a _=>exact a
theorem RVs.tl {LI:Nat→Option LamInfo} {φ:Mp} {ca:List Addr} {v:V} {u:Value} {vs:List V} {us:List Value} (h:RVs prog w LI φ ca (v::vs) (u::us)):RVs prog w LI φ ca vs us:=by cases h with | cons _ b=>exact b
theorem runC_is {α:Type} {m:Ev α} {o:Res α} {cs:List Cell} {ps:List Prop} (e:(m.map fun r=>(r.1,r.2.1.cells,r.2.2))=some (o,cs,ps)):∃ σ:Wt,σ.cells=cs∧m=some (o,σ,ps) :=
 (Option.map_eq_some_iff.mp e).elim fun r k=>⟨r.2.1,congrArg (·.2.1) k.2,k.1.trans (congrArg some (congr (congrArg Prod.mk (congrArg (·.1) k.2)) (congrArg (Prod.mk r.2.1) (congrArg (·.2.2) k.2))))⟩
theorem run264 {n:Nat} {v:Str} {e x:X} {args:List V} {kw:List (Str×V)} {tr:List Tr} {y:X} {ps:List Prop} {cs:List Cell}
  (hb:∀ (s:Shared) (us:List Value) (ks:List (Str×Value)) (φ:Mp) (ca:List Addr),KIn w.params s.heap→RVs prog w (LIx w.params) φ ca args us→RKs prog w (LIx w.params) φ ca kw ks →
   ∃ a b c d e',BindsTo s (fdat w.params 264) ⟨us,ks⟩ (b264 a b c d e')∧RVs prog w (LIx w.params) φ ca [.ex x,.vr v,.ex e,.bool false,.bool true] [a,b,c,d,e'])
  (er:((evBk (evM prog w (LIx w.params) (Gc w.params n 264 (rCv v e)) 40 40) (bodyAt w.params 264) ⟨[("self", .ex x)],[],tr⟩).map fun r=>(r.1,r.2.1.cells,r.2.2))=some (.ok (.ret (.ex y)),cs,ps)) (hp:AllP ps):Con prog w (LIx w.params) (n+3) (.fn 264) [] args kw (.ok (.ex y)) [] :=
 (runC_is er).elim fun σ' h1=>(fn_conC (n:=n) (m:=40) (k:=40) (args:=args) (kw:=kw) (cells:=[]) (r:=.ok (.ex y)) c264 (fun s us ks φ ca k ra rk=>(hb s us ks φ ca k ra rk).elim fun a q=>q.elim fun b q=>q.elim fun c q=>q.elim fun d q=>q.elim fun e' q=>by
  have kk:=bc264 w.params a b c d e'
  exact ⟨_,[("self", a)],[("variable", b),("expression", c),("replace_bound", d),("alpha_convert", e')],q.1,kinds264 _ _ _ _ _ _,.cons q.2.hd .nil,one_of (bl264 _ _ _ _ _ _),.cons q.2.tl.hd (.cons q.2.tl.tl.hd (.cons q.2.tl.tl.tl.hd (.cons q.2.tl.tl.tl.tl.hd .nil))),
   all_cons kk.1 (all_cons kk.2.1 (all_cons kk.2.2.1 (one_of kk.2.2.2)))⟩) h1.2 hp (show EndsN _ _ from rfl) nofun).con (fun b q=>Res.ok.inj q▸clo_ex _) (.inr nofun)
theorem pos264 (v:Str) (e x:X) (s:Shared) (us:List Value) (ks:List (Str×Value)) (φ:Mp) (ca:List Addr) (k:KIn w.params s.heap) (ra:RVs prog w (LIx w.params) φ ca [.ex x,.vr v,.ex e,.bool false,.bool true] us) (rk:RKs prog w (LIx w.params) φ ca [] ks) :
   ∃ a b c d e',BindsTo s (fdat w.params 264) ⟨us,ks⟩ (b264 a b c d e')∧RVs prog w (LIx w.params) φ ca [.ex x,.vr v,.ex e,.bool false,.bool true] [a,b,c,d,e']:=by
 cases rk
 obtain ⟨a,b,c,d,e',rfl⟩:=len5 ra.len
 exact ⟨a,b,c,d,e',B264 w.params k _ _ _ _ _,ra⟩
theorem kw264 (v:Str) (e x:X) (s:Shared) (us:List Value) (ks:List (Str×Value)) (φ:Mp) (ca:List Addr) (k:KIn w.params s.heap) (ra:RVs prog w (LIx w.params) φ ca [.ex x,.vr v,.ex e] us) (rk:RKs prog w (LIx w.params) φ ca [("alpha_convert", .bool true)] ks) :
   ∃ a b c d e',BindsTo s (fdat w.params 264) ⟨us,ks⟩ (b264 a b c d e')∧RVs prog w (LIx w.params) φ ca [.ex x,.vr v,.ex e,.bool false,.bool true] [a,b,c,d,e']:=(len3 ra.len).elim fun a q=>q.elim fun b q=>q.elim fun c q=>rk.uncons.elim fun u z=>z.elim fun ws z=>by
 rw [q] at ra ⊢
 rw [z.1,z.2.2.nil_]
 exact ⟨_,_,_,_,_,B264k w.params k _ _ _ _,.cons ra.hd (.cons ra.tl.hd (.cons ra.tl.tl.hd (.cons .bool (.cons z.2.1 .nil))))⟩
theorem B278 (P:Params) {s:Shared} (a b:Value):BindsTo s (fdat P 278) ⟨[a,b],[]⟩ [("self", a),("function", b)]:=by
 refine BindsTo.of_eq ?_
 kernel_rfl
theorem f278 (P:Params) (a b:Value):((([("self", a),("function", b)]:List (Str×Value)).all fun y=>(fdat P 278).scope.names.lookup y.1==some .local||(fdat P 278).scope.names.lookup y.1==some .cell)=true)∧bindL (fun x=>(fdat P 278).scope.names.lookup x) [("self", a),("function", b)] (fun _=>none) "function"= some b ∧
  bindC (fun x=>(fdat P 278).scope.names.lookup x) [("self", a),("function", b)] (fun _=>none) "self"= some a∧(fdat P 278).scope.names.lookup ("self": Str)=some .cell:=by
 refine ⟨?_,?_,?_,?_⟩<;>kernel_rfl
theorem run278 {n:Nat} {x:X} {l:V} {tr:List Tr} {y:X} {ps:List Prop} {cs:List Cell}
  (er:((evBk (evM prog w (LIx w.params) (Gc w.params n 278 [("self", .ex x)]) 40 40) (bodyAt w.params 278) ⟨[("function", l)],[],tr⟩).map fun r=>(r.1,r.2.1.cells,r.2.2))=some (.ok (.ret (.ex y)),cs,ps)) (hp:AllP ps):Con prog w (LIx w.params) (n+3) (.fn 278) [] [.ex x,l] [] (.ok (.ex y)) [] :=
 (runC_is er).elim fun σ' h1=>(fn_conC (n:=n) (m:=40) (k:=40) (args:=[.ex x,l]) (kw:=[]) (cells:=[]) (r:=.ok (.ex y)) c278 (fun s us ks φ ca k ra rk=>ra.two.elim fun a z=>z.elim fun b z=>by
  rw [rk.nil_,z.1]
  have q:=f278 w.params a b
  exact ⟨_,[("function", b)],[("self", a)],@B278 w.params s a b,q.1,.cons z.2.2 .nil,one_of q.2.1,.cons z.2.1 .nil,one_of q.2.2⟩) h1.2 hp (show EndsN _ _ from rfl) nofun).con (fun b q=>Res.ok.inj q▸clo_ex _) (.inr nofun)
theorem lam3_con' (n:Nat) (x f a:X) (hx:x.cls=426) (h:Con prog w (LIx w.params) n (.fn 358) [] [.ex x,.lst [.ex f,.ex a]] [] (.ok (.ex (.app f a))) []):Con prog w (LIx w.params) (n+3) (.lam 3 [.ex x]) [] [.lst [.ex f,.ex a]] [] (.ok (.ex (.app f a))) []:=by
 cases x with
 | var s=>cases hx
 | con c=>cases hx
 | app g b=>exact (lam_con (names:=["parts"]) (cs:=[]) (tr:=[.c (.ok (.ex (.app f a)))]) (m:=40) (LIg_eq w.params (i:=3) (by decide)) (by kernel_rfl) (fun clos pm cdv ct us hu=>by obtain ⟨u,rfl⟩:=len1 hu;kernel_rfl) rfl (fun cd=>by kernel_rfl) (P1 h) (fun c q=>by cases q)).con (fun b e=>by cases e;exact clo_ex _) (.inl rfl)
theorem visit_repl (n:Nat) (v:Str) (e f a f' a':X) (h1:Con prog w (LIx w.params) n (.lam 2 (rCa v e)) [] [.ex f] [] (.ok (.ex f')) []) (h2:Con prog w (LIx w.params) n (.lam 2 (rCa v e)) [] [.ex a] [] (.ok (.ex a')) [])
  (h3:Con prog w (LIx w.params) n (.lam 3 [.ex (.app f a)]) [] [.lst [.ex f',.ex a']] [] (.ok (.ex (.app f' a'))) []):Con prog w (LIx w.params) (n+3) (.fn 379) [] [.ex (.app f a),.lam 2 (rCa v e),.lam 3 [.ex (.app f a)]] [] (.ok (.ex (.app f' a'))) [] :=
 (F379 w.params).ret0 (n:=n) (cs:=[]) (.ex (.app f' a')) [.ex (.app f a),.lam 2 (rCa v e),.lam 3 [.ex (.app f a)]] [.c (.ok (.ex f')),.c (.ok (.ex a')),.c (.ok (.ex (.app f' a')))] (P3 h1 h2 h3) (clo_ex _) (Nat.le_refl _) (by rfl) (by kernel_rfl)
theorem vs_repl (n:Nat) (v:Str) (e f a y:X) (h:Con prog w (LIx w.params) n (.fn 379) [] [.ex (.app f a),.lam 2 (rCa v e),.lam 3 [.ex (.app f a)]] [] (.ok (.ex y)) []):Con prog w (LIx w.params) (n+3) (.fn 278) [] [.ex (.app f a),.lam 2 (rCa v e)] [] (.ok (.ex y)) [] :=
 run278 (cs:=[]) (tr:=[.se (.ok (.lam 3 [.ex (.app f a)])) [("function", .lam 2 (rCa v e))] [],.c (.ok (.ex y))]) (by kernel_rfl) (P2 (lam278 (prog:=prog) (w:=w) n (.ex (.app f a)) ⟨[("function", .lam 2 (rCa v e))],[]⟩) h)
theorem app_repl {n:Nat} {v:Str} {e f a y:X} {args:List V} {kw:List (Str×V)}
  (hb:∀ (s:Shared) (us:List Value) (ks:List (Str×Value)) (φ:Mp) (ca:List Addr),KIn w.params s.heap→RVs prog w (LIx w.params) φ ca args us→RKs prog w (LIx w.params) φ ca kw ks →
   ∃ a' b c d e',BindsTo s (fdat w.params 264) ⟨us,ks⟩ (b264 a' b c d e')∧RVs prog w (LIx w.params) φ ca [.ex (.app f a),.vr v,.ex e,.bool false,.bool true] [a',b,c,d,e'])
  (h:Con prog w (LIx w.params) n (.fn 278) [] [.ex (.app f a),.lam 2 (rCa v e)] [] (.ok (.ex y)) []):Con prog w (LIx w.params) (n+3) (.fn 264) [] args kw (.ok (.ex y)) [] :=
 run264 (cs:=[]) (tr:=[.se (.ok (.lam 2 (rCa v e))) [("self", .ex (.app f a))] [],.c (.ok (.ex y))]) hb (by kernel_rfl) (P2 (lam264 (prog:=prog) (w:=w) n v e ⟨[("self", .ex (.app f a))],[]⟩) h)
theorem repl_con (v:Str) (e:X):∀ (x:X) (n:Nat),Con prog w (LIx w.params) (n+12 * x.ht+7) (.fn (x.mt "replace")) [] [.ex x,.vr v,.ex e,.bool false,.bool true] [] (.ok (.ex (X.repl v e x))) []
 | .var t,n=>(avrepl_var n t v e).mono (by omega)
 | .con c,n=>(avrepl_con n c v e).mono (by omega)
 | .app f a,n=>by
  have hf:Con prog w (LIx w.params) (n+12 * max f.ht a.ht+7) (.fn (f.mt "replace")) [] [.ex f,.vr v,.ex e,.bool false,.bool true] [] (.ok (.ex (X.repl v e f))) []:=(repl_con v e f n).mono (by omega)
  have ha:Con prog w (LIx w.params) (n+12 * max f.ht a.ht+7) (.fn (a.mt "replace")) [] [.ex a,.vr v,.ex e,.bool false,.bool true] [] (.ok (.ex (X.repl v e a))) []:=(repl_con v e a n).mono (by omega)
  have hm:Con prog w (LIx w.params) (n+12 * max f.ht a.ht+7) (.fn 358) [] [.ex (.app f a),.lst [.ex (X.repl v e f),.ex (X.repl v e a)]] [] (.ok (.ex (.app (X.repl v e f) (X.repl v e a)))) []:=(made_con n _ _ (.app f a) rfl).mono (by omega)
  exact app_repl (pos264 v e (.app f a)) (vs_repl _ v e f a _ (visit_repl _ v e f a _ _ (lam2_con _ v e f _ hf) (lam2_con _ v e a _ ha) (lam3_con' _ (.app f a) _ _ rfl hm)))
end
section
variable {prog:Program} {w:World}
theorem replkw_node {on x a1 a2 kn:Str} {b:Bool} {p0 p1 p2 cp apos kp pos:Pos} {u:Nat} {env:Env} (hl:(apos.endLine==pos.line)=true) :
  eval (.Call (.Attribute (.Name on p0) x apos) [.Name a1 p1,.Name a2 p2] [⟨some kn,.Constant (.bool b) u cp,kp⟩] pos) env=(do
   let ov←eval (.Name on p0) env
   standAt apos.atName
   let (f,first)←holding [ov] (getMethod ov x (do return (←importBound (.Name on p0) env).getD true))
   callWith pos f first (backTo pos (starEach [.Name a1 p1,.Name a2 p2] env)) (backToKw pos (keywordEach [⟨some kn,.Constant (.bool b) u cp,kp⟩] env))):=by
 have hpos:methodCallPos true (.Name on p0) env apos pos=pure pos:=by unfold methodCallPos;simp [hl]
 rw [arm_eval_Call]
 show (do let ov←eval (.Name on p0) env;standAt apos.atName;methodCall (.Name on p0) x apos pos env ov 3 _ _)=_
 unfold methodCall
 rw [show methodCallForm 3 (backTo pos (starEach [.Name a1 p1,.Name a2 p2] env)) (backToKw pos (keywordEach [⟨some kn,.Constant (.bool b) u cp,kp⟩] env))=true from rfl,hpos]
 rfl
theorem replkw_sem {Γ:Gam} {σ:Ab} {n:Nat} {on a1 a2 v:Str} {b:Bool} {p0 p1 p2 cp apos kp pos:Pos} {u:Nat} {x e y:X} (hl:(apos.endLine==pos.line)=true)
  (e0:(evN prog w (LIx w.params) Γ (n+1)).1 (.Name on p0) ⟨σ.loc,σ.cells,[]⟩=some (.ok (.ex x),⟨σ.loc,σ.cells,[]⟩,[]))
  (e1:(evN prog w (LIx w.params) Γ (n+1)).1 (.Name a1 p1) ⟨σ.loc,σ.cells,[]⟩=some (.ok (.vr v),⟨σ.loc,σ.cells,[]⟩,[]))
  (e2:(evN prog w (LIx w.params) Γ (n+1)).1 (.Name a2 p2) ⟨σ.loc,σ.cells,[]⟩=some (.ok (.ex e),⟨σ.loc,σ.cells,[]⟩,[]))
  (hc:Con prog w (LIx w.params) Γ.n (.fn (x.mt "replace")) [] [.ex x,.vr v,.ex e] [("alpha_convert", .bool b)] (.ok (.ex y)) []) :
  SemE prog w (LIx w.params) Γ (.Call (.Attribute (.Name on p0) "replace" apos) [.Name a1 p1,.Name a2 p2] [⟨some "alpha_convert", .Constant (.bool b) u cp,kp⟩] pos) σ (.ok (.ex y)) σ:=by
 intro A a cl L F outer S φ ca s h Q E k1 k2
 have H:=(evN_sound (prog:=prog) (w:=w) (LI:=LIx w.params) (Γ:=Γ) (n+1)).1
 have b2:evS (evN prog w (LIx w.params) Γ (n+1)).1 [.Name a2 p2] ⟨σ.loc,σ.cells,[]⟩=some (.ok [.ex e],⟨σ.loc,σ.cells,[]⟩,[]):=by
  unfold evS
  rw [if_neg (by show ¬ (false=true);decide),e2]
  rfl
 have b1:evS (evN prog w (LIx w.params) Γ (n+1)).1 [.Name a1 p1,.Name a2 p2] ⟨σ.loc,σ.cells,[]⟩=some (.ok [.vr v,.ex e],⟨σ.loc,σ.cells,[]⟩,[]):=by
  unfold evS
  rw [if_neg (by show ¬ (false=true);decide),e1]
  unfold bnd
  dsimp only
  rw [b2]
  rfl
 rw [replkw_node hl]
 refine (exMeth_inv x (x :="replace") (by kernel_rfl)).elim fun f k=>wpAny_bind ((H A a cl L F outer S _ _ _ _ _ e0 trivial φ ca s h).ok_ fun φ₁ ca₁ ov s₁ p₁ r₁=>wpAny_bind (wpAny_standAt (wpAny_bind (wpAny_holding (meth_op x.inst_is k.2.1 k.1 p₁.at_ r₁ ?_)))))
 rw [k.2.2] at hc
 refine callWith_of (P:=Keeps prog w (.ref f)) (by rfl) (fun h p=>p) (evalArgs_kw2 (by rfl) ((evS_sound H S b1 trivial p₁.at_).ok_ fun φ₂ ca₂ us s₂ p₂ r₂=>kwAll_cons (wpAny_Constant_bool (kwAll_nil ⟨meth_keep k.1 p₂.at_,?_⟩))))
 have fe:FunE (eN Γ L a cl::outer) (L::F):=⟨by show Γ.cs.kind≠_;rw [S.kd];decide,rfl,p₂.at_.LF,S.fe⟩
 exact wpAny_call (hc A _ (L::F) φ₂ [] s₂ (.ref f) _ _ (S.ok.mono (Nat.le_add_right _ _)) S.fr fe p₂.at_.hp.sub RV.fn (.cons ((clo_ex x) _ _ _ _ _ _ (p₂.mono r₁)) (clo_all (by rfl) _ _ _ _ _ _ r₂)) (.cons .bool .nil) Q E
  (fun b φ' v s' eo st hq sx r=>k1 b φ' ca₂ v s' eo ((p₁.trans p₂).trans (Pst.of_callA p₂.at_ st hq sx)) (r.mono (Mp.le.refl _) List.nil_prefix)) fun c φ' v s' eo=>n_oe eo)
end
theorem kinds457 (P:Params) (a b c d e:Value):∀ x∈b264 a b c d e,(fdat P 457).scope.names.lookup x.1=some .local:=by
 have:((b264 a b c d e).all fun x=>(fdat P 457).scope.names.lookup x.1==some .local)=true:=by kernel_rfl
 exact fun x hx=>beq_iff_eq.mp (List.all_eq_true.mp this x hx)
theorem p457:plainL.any (Nat.beq 457)=true:=by kernel_rfl
section
variable {prog:Program} {w:World}
noncomputable abbrev loc457 (v:Str) (x e:X):List (Str×V):=[("alpha_convert", .bool true),("replace_bound", .bool false),("expression", .ex e),("variable", .vr v),("self", .ex x)]
theorem kw457 {n:Nat} {v:Str} {e x y:X} {tr:List Tr} {ps:List Prop} {cs:List Cell}
  (er:((evBk (evM prog w (LIx w.params) (Gf w.params n 457) 40 40) (bodyAt w.params 457) ⟨loc457 v x e,[],tr⟩).map fun r=>(r.1,r.2.1.cells,r.2.2))=some (.ok (.ret (.ex y)),cs,ps)) (hp:AllP ps):Con prog w (LIx w.params) (n+3) (.fn 457) [] [.ex x,.vr v,.ex e] [("alpha_convert", .bool true)] (.ok (.ex y)) []:=by
 obtain ⟨⟨o,σ',p⟩,h1,h2⟩:=Option.map_eq_some_iff.mp er
 cases h2
 have:=fn_conN (n:=n) (m:=40) (k:=40) (args:=[.ex x,.vr v,.ex e]) (kw:=[("alpha_convert", .bool true)]) (cells:=[]) (r:=.ok (.ex y)) (loc:=loc457 v x e) p457 (fun s us ks φ ca k ra rk=>by
  obtain ⟨a,b,c,rfl⟩:=len3 ra.len
  cases rk with
  | cons q rk =>
   cases rk
   cases ra with
   | cons r0 ra =>
    obtain ⟨u1,u2,e1,r1,r2⟩:=ra.two
    cases e1
    exact ⟨_,B457k _ k _ _ _ _,kinds457 _ _ _ _ _ _,.cons q (.cons .bool (.cons r2 (.cons r1 (.cons r0 .nil))))⟩) h1 hp (show EndsN _ _ from rfl) (fun c q=>by cases q)
 exact this.con (fun b q=>by cases q;exact clo_ex _) (.inr nofun)
theorem kwvar (n:Nat) (t v:Str) (e:X):Con prog w (LIx w.params) (n+6) (.fn 457) [] [.ex (.var t),.vr v,.ex e] [("alpha_convert", .bool true)] (.ok (.ex (if t==v then e else .var t))) []:=by
 have h:=var_eq (prog:=prog) (w:=w) (LI:=LIx w.params) n t v
 cases q:(t==v) with
 | true=>rw [q] at h;exact kw457 (n:=n+3) (cs:=[]) (tr:=[.c (.ok (.bool true))]) (by kernel_rfl) (P1 h)
 | false=>rw [q] at h;exact kw457 (n:=n+3) (cs:=[]) (tr:=[.c (.ok (.bool false))]) (by kernel_rfl) (P1 h)
theorem kwcon (n:Nat) (c:C5) (v:Str) (e:X):Con prog w (LIx w.params) (n+6) (.fn 457) [] [.ex (.con c),.vr v,.ex e] [("alpha_convert", .bool true)] (.ok (.ex (if c.nm==v then e else .con c))) []:=by
 have h:=var_eq (prog:=prog) (w:=w) (LI:=LIx w.params) n c.nm v
 cases q:(c.nm==v) with
 | true=>rw [q] at h;exact kw457 (n:=n+3) (cs:=[]) (tr:=[.c (.ok (.bool true))]) (by kernel_rfl) (P1 h)
 | false=>rw [q] at h;exact kw457 (n:=n+3) (cs:=[]) (tr:=[.c (.ok (.bool false))]) (by kernel_rfl) (P1 h)
theorem replk_con (v:Str) (e:X) (x:X) (n:Nat):Con prog w (LIx w.params) (n+12 * x.ht+7) (.fn (x.mt "replace")) [] [.ex x,.vr v,.ex e] [("alpha_convert", .bool true)] (.ok (.ex (X.repl v e x))) []:=by
 match x with
 | .var t=>exact (kwvar n t v e).mono (by omega)
 | .con c=>exact (kwcon n c v e).mono (by omega)
 | .app f a =>
  have hf:Con prog w (LIx w.params) (n+12 * max f.ht a.ht+7) (.fn (f.mt "replace")) [] [.ex f,.vr v,.ex e,.bool false,.bool true] [] (.ok (.ex (X.repl v e f))) []:=(repl_con v e f n).mono (by omega)
  have ha:Con prog w (LIx w.params) (n+12 * max f.ht a.ht+7) (.fn (a.mt "replace")) [] [.ex a,.vr v,.ex e,.bool false,.bool true] [] (.ok (.ex (X.repl v e a))) []:=(repl_con v e a n).mono (by omega)
  have hm:Con prog w (LIx w.params) (n+12 * max f.ht a.ht+7) (.fn 358) [] [.ex (.app f a),.lst [.ex (X.repl v e f),.ex (X.repl v e a)]] [] (.ok (.ex (.app (X.repl v e f) (X.repl v e a)))) []:=(made_con n _ _ (.app f a) rfl).mono (by omega)
  exact app_repl (kw264 v e (.app f a)) (vs_repl _ v e f a _ (visit_repl _ v e f a _ _ (lam2_con _ v e f _ hf) (lam2_con _ v e a _ ha) (lam3_con' _ (.app f a) _ _ rfl hm)))
end
noncomputable def cF:Expr→Expr
 | .Call f _ _ _=>f
 | .Attribute o _ _=>o
 | e=>e
noncomputable def cAs:Expr→List Expr
 | .Call _ l _ _=>l
 | _=>[]
noncomputable def cKs:Expr→List Keyword
 | .Call _ _ l _=>l
 | _=>[]
noncomputable def asE:Stmt→Expr
 | .Assign _ e _=>e
 | .Return (some e) _=>e
 | _=>default
noncomputable def kwE (P:Params):Expr:=asE ((ifB ((forB (stAt P 256 1)).headD (.Pass default))).getLastD (.Pass default))
noncomputable def akE (P:Params) (i:Nat):Expr:=(cAs (kwE P)).getD i default
noncomputable def kkE (P:Params):Keyword:=(cKs (kwE P)).headD ⟨none,default,default⟩
theorem kwx_is (P:Params):kwE P=.Call (.Attribute (.Name "expr" (Expr.pos (cF (cF (kwE P))))) "replace" (Expr.pos (cF (kwE P)))) [.Name "var" (Expr.pos (akE P 0)),.Name "val" (Expr.pos (akE P 1))] [⟨some "alpha_convert", .Constant (.bool true) 0 (Expr.pos (kkE P).value),(kkE P).pos⟩] (Expr.pos (kwE P)):=by kernel_rfl
theorem kw_line (P:Params):((Expr.pos (cF (kwE P))).endLine==(Expr.pos (kwE P)).line)=true:=by kernel_rfl
theorem sbs_ok (P:Params):(forOk (stAt P 256 1)&&isName "var" (forT (stAt P 256 1))&&plainIter (forI (stAt P 256 1)))=true:=by kernel_rfl
theorem sbs_l (P:Params) (n:Nat):(Gf P n 256).cs.names.lookup ("var": Str)=some NameKind.local:=by kernel_rfl
noncomputable def X.sub1 (d:List (Str×X)) (y:X) (v:Str):X:=match d.lookup v with
 | some e=>X.repl v e y
 | none=>y
noncomputable abbrev X.subs (d:List (Str×X)) (l:List Str) (x:X):X:=l.foldl (X.sub1 d) x
section
variable {prog:Program} {w:World}
noncomputable abbrev sL (y:X) (d:List (Str×X)) (x:X):List (Str×V):=[("expr", .ex y),("bindings", .bd d),("self", .ex x)]
theorem sub_turn0 (m:Nat) (d:List (Str×X)) (x y:X) (v:Str) (h:d.lookup v=none) (hh:Con prog w (LIx w.params) m (.fn 1003) [] [.bd d,.vr v] [] (.ok (.bool (d.lookup v).isSome)) []) :
  SemB prog w (LIx w.params) (Gf w.params m 256) (forB (stAt w.params 256 1)) ⟨("var", .vr v)::sL y d x,[]⟩ (.ok .next) ⟨("var", .vr v)::sL y d x,[]⟩:=by
 rw [h] at hh
 exact semB_run (σ:=⟨("var", .vr v)::sL y d x,[],[.c (.ok (.bool false))]⟩) (P1 hh) (by kernel_rfl)
theorem kw_sem (m:Nat) (d:List (Str×X)) (x y z e:X) (v:Str) (hr:Con prog w (LIx w.params) m (.fn (y.mt "replace")) [] [.ex y,.vr v,.ex e] [("alpha_convert", .bool true)] (.ok (.ex z)) []) :
  SemE prog w (LIx w.params) (Gf w.params m 256) (kwE w.params) ⟨("val", .ex e)::("val", .ex e)::("var", .vr v)::sL y d x,[]⟩ (.ok (.ex z)) ⟨("val", .ex e)::("val", .ex e)::("var", .vr v)::sL y d x,[]⟩:=by
 rw [kwx_is]
 exact replkw_sem (n:=0) (kw_line w.params) (by kernel_rfl) (by kernel_rfl) (by kernel_rfl) hr
theorem sub_turn1 (m:Nat) (d:List (Str×X)) (x y z e:X) (v:Str) (h:d.lookup v=some e) (hh:Con prog w (LIx w.params) m (.fn 1003) [] [.bd d,.vr v] [] (.ok (.bool (d.lookup v).isSome)) []) (hg:Con prog w (LIx w.params) m (.fn 996) [] [.bd d,.vr v] [] (.ok (.ex e)) [])
  (he:Con prog w (LIx w.params) m (.fn (e.mt "substitute_bindings")) [] [.ex e,.bd d] [] (.ok (.ex e)) []) (hr:Con prog w (LIx w.params) m (.fn (y.mt "replace")) [] [.ex y,.vr v,.ex e] [("alpha_convert", .bool true)] (.ok (.ex z)) []) :
  SemB prog w (LIx w.params) (Gf w.params m 256) (forB (stAt w.params 256 1)) ⟨("var", .vr v)::sL y d x,[]⟩ (.ok .next) ⟨("expr", .ex z)::("val", .ex e)::("val", .ex e)::("var", .vr v)::sL y d x,[]⟩:=by
 rw [h] at hh
 have hk:=kw_sem (prog:=prog) (w:=w) m d x y z e v hr
 cases e with
 | var s=>exact semB_run (σ:=⟨("var", .vr v)::sL y d x,[],[.c (.ok (.bool true)),.c (.ok (.ex (.var s))),.c (.ok (.ex (.var s))),.se (.ok (.ex z)) (("val", .ex (.var s))::("val", .ex (.var s))::("var", .vr v)::sL y d x) []]⟩) (PC hh (P3 hg he hk)) (by kernel_rfl)
 | con c=>exact semB_run (σ:=⟨("var", .vr v)::sL y d x,[],[.c (.ok (.bool true)),.c (.ok (.ex (.con c))),.c (.ok (.ex (.con c))),.se (.ok (.ex z)) (("val", .ex (.con c))::("val", .ex (.con c))::("var", .vr v)::sL y d x) []]⟩) (PC hh (P3 hg he hk)) (by kernel_rfl)
 | app f a=>exact semB_run (σ:=⟨("var", .vr v)::sL y d x,[],[.c (.ok (.bool true)),.c (.ok (.ex (.app f a))),.c (.ok (.ex (.app f a))),.se (.ok (.ex z)) (("val", .ex (.app f a))::("val", .ex (.app f a))::("var", .vr v)::sL y d x) []]⟩) (PC hh (P3 hg he hk)) (by kernel_rfl)
theorem weakS {v:Str} {e z y x:X} {d:List (Str×X)}:∀ n u,(sL z d x).lookup n=some u→(("expr", .ex z)::("val", .ex e)::("val", .ex e)::("var", .vr v)::sL y d x:List (Str×V)).lookup n=some u:=by
 intro n u h
 have nv:(n==("val": Str))=false:=by
  cases q:(n==("val": Str)) with
  | false=>rfl
  | true=>rw [eq_of_beq q] at h;exact nomatch (show none=some u from h)
 have nr:(n==("var": Str))=false:=by
  cases q:(n==("var": Str)) with
  | false=>rfl
  | true=>rw [eq_of_beq q] at h;exact nomatch (show none=some u from h)
 rw [List.lookup_cons] at h ⊢
 cases q:(n==("expr": Str)) with
 | true=>rw [q] at h;exact h
 | false =>
  rw [q] at h
  show List.lookup n (("val", V.ex e)::_:List (Str×V))=_
  rw [List.lookup_cons,nv]
  show List.lookup n (("val", V.ex e)::_:List (Str×V))=_
  rw [List.lookup_cons,nv]
  show List.lookup n (("var", V.vr v)::_:List (Str×V))=_
  rw [List.lookup_cons,nr]
  show List.lookup n (("expr", V.ex y)::_:List (Str×V))=_
  rw [List.lookup_cons,q];exact h
theorem sub_loop (m:Nat) (d:List (Str×X)) (x:X) (hh:∀ v,Con prog w (LIx w.params) m (.fn 1003) [] [.bd d,.vr v] [] (.ok (.bool (d.lookup v).isSome)) []) (hg:∀ v e,d.lookup v=some e→Con prog w (LIx w.params) m (.fn 996) [] [.bd d,.vr v] [] (.ok (.ex e)) []) :
  ∀ (l:List Str) (y:X),(∀ v∈l,∀ e,d.lookup v=some e→Con prog w (LIx w.params) m (.fn (e.mt "substitute_bindings")) [] [.ex e,.bd d] [] (.ok (.ex e)) []) →
   (∀ k v e,l[k]?=some v→d.lookup v=some e→Con prog w (LIx w.params) m (.fn ((X.subs d (l.take k) y).mt "replace")) [] [.ex (X.subs d (l.take k) y),.vr v,.ex e] [("alpha_convert", .bool true)] (.ok (.ex (X.repl v e (X.subs d (l.take k) y)))) []) →
  Loop prog w (LIx w.params) (Gf w.params m 256) (fun v=>[("var", v)]) (forB (stAt w.params 256 1)) (l.map V.vr) ⟨sL y d x,[]⟩ (.ok .next) ⟨sL (X.subs d l y) d x,[]⟩
 | [],y,_,_=>Loop.nil
 | v::l,y,he,hr=>by
  have r:=sub_loop m d x hh hg l (X.sub1 d y v) (fun u hu=>he u (.tail _ hu)) (fun k u e hk hl=>hr (k+1) u e hk hl)
  have h0:=hr 0 v
  cases q:d.lookup v with
  | none =>
   have e0:X.sub1 d y v=y:=by unfold X.sub1;rw [q]
   rw [e0] at r
   exact Loop.next (sub_turn0 m d x y v q (hh v)) (.inl rfl) (weak1 (by rfl)) (by rw [show X.subs d (v::l) y=X.subs d l (X.sub1 d y v) from rfl,e0];exact r)
  | some e =>
   have e0:X.sub1 d y v=X.repl v e y:=by unfold X.sub1;rw [q]
   rw [e0] at r
   exact Loop.next (sub_turn1 m d x y (X.repl v e y) e v q (hh v) (hg v e q) (he v (.head _) e q) (h0 e rfl q)) (.inl rfl) weakS (by rw [show X.subs d (v::l) y=X.subs d l (X.sub1 d y v) from rfl,e0];exact r)
theorem sub_main (m:Nat) (d:List (Str×X)) (x:X) (hv:Con prog w (LIx w.params) m (.fn 283) [] [.ex x] [] (.ok (.lv x.vs)) []) (hs:∀ y:X,y=X.subs d x.vs x→Con prog w (LIx w.params) m (.fn (y.mt "simplify")) [] [.ex y] [] (.ok (.ex y)) [])
  (hl:Loop prog w (LIx w.params) (Gf w.params m 256) (fun v=>[("var", v)]) (forB (stAt w.params 256 1)) (x.vs.map V.vr) ⟨sL x d x,[]⟩ (.ok .next) ⟨sL (X.subs d x.vs x) d x,[]⟩) :
  Con prog w (LIx w.params) (m+3) (.fn 256) [] [.ex x,.bd d] [] (.ok (.ex (X.subs d x.vs x))) []:=by
 have ok:=sbs_ok w.params
 rw [Bool.and_eq_true,Bool.and_eq_true] at ok
 have hv':Con prog w (LIx w.params) m (.fn (x.mt "variables")) [] [.ex x] [] (.ok (.lv x.vs)) []:=by
  rw [show x.mt "variables"= 283 from by cases x<;>rfl];exact hv
 have hs:=hs _ rfl
 generalize X.subs d x.vs x=z at *
 have h:SemS prog w (LIx w.params) (Gf w.params m 256) (stAt w.params 256 1) ⟨sL x d x,[]⟩ (.ok .next) ⟨sL z d x,[]⟩:=by
  exact for_list_st (v:=.lv x.vs) (σ:=⟨sL x d x,[],[.c (.ok (.lv x.vs))]⟩) ok.1.1 ok.1.2 (sbs_l _ _) ok.2 (P1 hv') (by kernel_rfl) rfl hl
 exact (F256 w.params).ret0 (n:=m) (cs:=[]) (.ex z) [.ex x,.bd d] [.st (.ok .next) (sL z d x) [],.c (.ok (.ex z))] (P2 h hs) (clo_ex _) (Nat.le_refl _) (by rfl) (by kernel_rfl)
end
theorem subs_id (d:List (Str×X)) (x:X):∀ l:List Str,(∀ v∈l,d.lookup v=none)→X.subs d l x=x
 | [],_=>rfl
 | v::l,h=>by
  show X.subs d l (X.sub1 d x v)=x
  rw [show X.sub1 d x v=x from by unfold X.sub1;rw [h v (.head _)]]
  exact subs_id d x l fun u hu=>h u (.tail _ hu)
structure X.Fit (x:X):Prop where
 sz:x.sz<400000
 pl:∀ s∈uni (uni [] x.ps) x.cs,Plain s
section
variable {prog:Program} {w:World}
theorem mt_sub (x:X):x.mt "substitute_bindings"= 256:=by cases x<;>rfl
theorem sub_id (d:List (Str×X)) (e:X) (hf:e.Fit) (hu:∀ v∈e.vs,d.lookup v=none) (n:Nat):Con prog w (LIx w.params) (n+9 * e.ht+12) (.fn 256) [] [.ex e,.bd d] [] (.ok (.ex e)) []:=by
 have r:=sub_main (prog:=prog) (w:=w) (n+9 * e.ht+9) d e (vars_con e hf.sz hf.pl n) (fun y hy=>by rw [subs_id d e _ hu] at hy;subst hy;exact (simp_con y n).mono (by omega))
  (sub_loop _ d e (fun v=>(bd_has 0 d v).mono (by omega)) (fun v e' h=>(bd_get 0 d v e' h).mono (by omega)) e.vs e (fun v hv e' h=>by rw [hu v hv] at h;cases h) (fun k v e' hk h=>by rw [hu v (List.mem_of_getElem? hk)] at h;cases h))
 rw [subs_id d e _ hu] at r
 exact r
theorem sub_con (d:List (Str×X)) (x:X) (B:Nat) (hx:x.Fit) (hd:∀ v∈x.vs,∀ e,d.lookup v=some e→e.Fit∧e.ht≤B∧∀ u∈e.vs,d.lookup u=none) (hB:∀ k,(X.subs d (x.vs.take k) x).ht≤B) (n:Nat) :
  Con prog w (LIx w.params) (n+12 * B+20) (.fn 256) [] [.ex x,.bd d] [] (.ok (.ex (X.subs d x.vs x))) []:=by
 have h0:x.ht≤B:=hB 0
 refine (sub_main (prog:=prog) (w:=w) (n+12 * B+17) d x ((vars_con x hx.sz hx.pl n).mono (by omega)) (fun y hy=>(simp_con y n).mono ?_)
  (sub_loop _ d x (fun v=>(bd_has 0 d v).mono (by omega)) (fun v e' h=>(bd_get 0 d v e' h).mono (by omega)) x.vs x (fun v hv e h=>?_) (fun k v e hk h=>?_)))
 ·have:=hB x.vs.length
  rw [List.take_length,← hy] at this
  omega
 ·obtain ⟨h1,h2,h3⟩:=hd v hv e h
  rw [mt_sub]
  exact (sub_id d e h1 h3 n).mono (by omega)
 ·have:=hB k
  exact (replk_con v e _ n).mono (by omega)
end
noncomputable abbrev trK (b:List (Str×T)):List (Str×V):=b.map fun p=>(p.1,.tr p.2)
theorem trK_look (x:Str):∀ d:List (Str×T),(trK d).lookup x=(d.lookup x).map .tr
 | []=>rfl
 | (k,e)::d=>by
  show List.lookup x ((k,V.tr e)::trK d)=_
  rw [List.lookup_cons,List.lookup_cons]
  cases q:(x==k) with
  | true=>rfl
  | false=>exact trK_look x d
noncomputable def fill (b:List (Str×T)):Nat→T→Option T
 | 0,_=>none
 | k+1,.n s=>match b.lookup s with
  | none=>some (.n s)
  | some t=>fill b k t
 | k+1,.mo t=>(fill b k t).map .mo
 | k+1,.fa t=>(fill b k t).map .fa
 | k+1,.su x y=>(fill b k x).bind fun x'=>(fill b k y).map fun y'=>.su x' y'
 | _+1,.rex=>some .rex
 | _+1,.tom=>some .tom
 | _+1,.ni _=>none
section
variable {prog:Program} {w:World} {LI:Nat→Option LamInfo}
noncomputable abbrev Fc (prog:Program) (w:World) (LI:Nat→Option LamInfo) (n:Nat) (b:List (Str×T)) (t u:T):Prop:=Con prog w LI n (.fn 1080) [.dict (trK b)] [.tr t,.cell 0] [] (.ok (.tr u)) [.dict (trK b)]
theorem clo_trK (b:List (Str×T)):CloC (.dict (trK b)):=by
 refine cloC_dict fun p hp=>?_
 obtain ⟨q,_,rfl⟩:=List.mem_map.mp hp
 exact clo_tr _
theorem fill_free (n:Nat) (b:List (Str×T)) (s:Str) (h:b.lookup s=none):Fc prog w LI (n+3) b (.n s) (.n s) :=
 (F1080 w.params).runC (n:=n) (out:=.ok (.ret (.tr (.n s)))) (.ok (.tr (.n s))) [.tr (.n s),.cell 0] [.dict (trK b)] [.dict (trK b)] [.b true,.b false] (P2 (show true=true from rfl) (show ((trK b).lookup s).isSome=false from by rw [trK_look,h];rfl)) ⟨rfl,clo_tr _⟩ (Nat.le_refl _) rfl rfl (by kernel_rfl)
theorem fill_bound (n:Nat) (b:List (Str×T)) (s:Str) (t u:T) (h:b.lookup s=some t) (r:Fc prog w LI n b t u):Fc prog w LI (n+3) b (.n s) u :=
 (F1080 w.params).runC (n:=n) (out:=.ok (.ret (.tr u))) (.ok (.tr u)) [.tr (.n s),.cell 0] [.dict (trK b)] [.dict (trK b)] [.b true,.b true,.v (.tr t),.cc 0 (.ok (.tr u)) (.dict (trK b))] (PC (show true=true from rfl) (PC (show ((trK b).lookup s).isSome=true from by rw [trK_look,h];rfl) (PC (show (trK b).lookup s=some (.tr t) from by rw [trK_look,h];rfl) (P3 r (clo_trK b) (clo_trK b))))) ⟨rfl,clo_tr _⟩ (Nat.le_refl _) rfl rfl (by kernel_rfl)
theorem fill_mo (n:Nat) (b:List (Str×T)) (t u:T) (r:Fc prog w LI n b t u):Fc prog w LI (n+3) b (.mo t) (.mo u) :=
 (F1080 w.params).runC (n:=n) (out:=.ok (.ret (.tr (.mo u)))) (.ok (.tr (.mo u))) [.tr (.mo t),.cell 0] [.dict (trK b)] [.dict (trK b)] [.cc 0 (.ok (.tr u)) (.dict (trK b))] (PC (show 2<1000000 by decide) (P3 r (clo_trK b) (clo_trK b))) ⟨rfl,clo_tr _⟩ (Nat.le_refl _) rfl rfl (by kernel_rfl)
theorem fill_fa (n:Nat) (b:List (Str×T)) (t u:T) (r:Fc prog w LI n b t u):Fc prog w LI (n+3) b (.fa t) (.fa u) :=
 (F1080 w.params).runC (n:=n) (out:=.ok (.ret (.tr (.fa u)))) (.ok (.tr (.fa u))) [.tr (.fa t),.cell 0] [.dict (trK b)] [.dict (trK b)] [.cc 0 (.ok (.tr u)) (.dict (trK b))] (PC (show 2<1000000 by decide) (P3 r (clo_trK b) (clo_trK b))) ⟨rfl,clo_tr _⟩ (Nat.le_refl _) rfl rfl (by kernel_rfl)
theorem fill_su (n:Nat) (b:List (Str×T)) (t u t2 u2:T) (r:Fc prog w LI n b t u) (r2:Fc prog w LI n b t2 u2):Fc prog w LI (n+3) b (.su t t2) (.su u u2) :=
 (F1080 w.params).runC (n:=n) (out:=.ok (.ret (.tr (.su u u2)))) (.ok (.tr (.su u u2))) [.tr (.su t t2),.cell 0] [.dict (trK b)] [.dict (trK b)] [.cc 0 (.ok (.tr u)) (.dict (trK b)),.cc 0 (.ok (.tr u2)) (.dict (trK b))] (PC (show 3<1000000 by decide) (PC r (PC (clo_trK b) (PC (clo_trK b) (P3 r2 (clo_trK b) (clo_trK b)))))) ⟨rfl,clo_tr _⟩ (Nat.le_refl _) rfl rfl (by kernel_rfl)
theorem fill_rex (n:Nat) (b:List (Str×T)):Fc prog w LI (n+3) b (.rex) (.rex) :=
 (F1080 w.params).runC (n:=n) (out:=.ok (.ret (.tr (.rex)))) (.ok (.tr (.rex))) [.tr (.rex),.cell 0] [.dict (trK b)] [.dict (trK b)] [] (P0) ⟨rfl,clo_tr _⟩ (Nat.le_refl _) rfl rfl (by kernel_rfl)
theorem fill_tom (n:Nat) (b:List (Str×T)):Fc prog w LI (n+3) b (.tom) (.tom) :=
 (F1080 w.params).runC (n:=n) (out:=.ok (.ret (.tr (.tom)))) (.ok (.tr (.tom))) [.tr (.tom),.cell 0] [.dict (trK b)] [.dict (trK b)] [] (P0) ⟨rfl,clo_tr _⟩ (Nat.le_refl _) rfl rfl (by kernel_rfl)
theorem fill_con (b:List (Str×T)) (n:Nat):∀ (k:Nat) (t u:T),fill b k t=some u→Fc prog w LI (n+3 * k) b t u
 | 0,t,u,h=>by cases h
 | k+1,.n s,u,h=>by
  unfold fill at h
  cases q:b.lookup s with
  | none=>rw [q] at h;cases h;exact fill_free _ b s q
  | some t=>rw [q] at h;exact fill_bound _ b s t u q (fill_con b n k t u h)
 | k+1,.mo t,u,h=>by
  obtain ⟨v,h1,rfl⟩:=Option.map_eq_some_iff.mp h
  exact fill_mo _ b t v (fill_con b n k t v h1)
 | k+1,.fa t,u,h=>by
  obtain ⟨v,h1,rfl⟩:=Option.map_eq_some_iff.mp h
  exact fill_fa _ b t v (fill_con b n k t v h1)
 | k+1,.su x y,u,h=>by
  obtain ⟨v,h1,h2⟩:=Option.bind_eq_some_iff.mp h
  obtain ⟨v2,h3,rfl⟩:=Option.map_eq_some_iff.mp h2
  exact fill_su _ b x v y v2 (fill_con b n k x v h1) (fill_con b n k y v2 h3)
 | k+1,.rex,u,h=>by cases h;exact fill_rex _ b
 | k+1,.tom,u,h=>by cases h;exact fill_tom _ b
 | k+1,.ni _,u,h=>by cases h
end
noncomputable def plainT (l:List Str):T→Option T
 | .n s=>(idxS l s).map .ni
 | .ni _=>none
 | .rex=>some .rex
 | .tom=>some .tom
 | .mo t=>(plainT l t).map .mo
 | .fa t=>(plainT l t).map .fa
 | .su x y=>(plainT l x).bind fun x'=>(plainT l y).map fun y'=>.su x' y'
section
variable {prog:Program} {w:World} {LI:Nat→Option LamInfo}
theorem plain_con (l:List Str) (hl:l.length<1000):∀ (t u:T),plainT l t=some u→∀ n,Con prog w LI (n+3 * t.ht+3) (.fn 1099) [] [.tr t,.ls l] [] (.ok (.tr u)) []
 | .n s,u,h,n=>by
  obtain ⟨i,h1,rfl⟩:=Option.map_eq_some_iff.mp h
  exact (F1099 w.params).ret0 (n:=n) (cs:=[]) (.tr (.ni i)) [.tr (.n s),.ls l] [.b true,.v (.int i)] (P3 (show true=true from rfl) (show (idxS l s).map V.int=some (.int i) by rw [h1];rfl) hl) (clo_tr _) (by omega) rfl (by kernel_rfl)
 | .ni _,u,h,n=>by cases h
 | .rex,u,h,n=>by cases h;exact (F1099 w.params).ret0 (n:=n) (cs:=[]) (.tr .rex) [.tr .rex,.ls l] [] P0 (clo_tr _) (mx0 _ _ (by decide)) rfl (by kernel_rfl)
 | .tom,u,h,n=>by cases h;exact (F1099 w.params).ret0 (n:=n) (cs:=[]) (.tr .tom) [.tr .tom,.ls l] [] P0 (clo_tr _) (mx0 _ _ (by decide)) rfl (by kernel_rfl)
 | .mo t,u,h,n=>by
  obtain ⟨v,h1,rfl⟩:=Option.map_eq_some_iff.mp h
  exact (F1099 w.params).ret0 (n:=n+3 * t.ht+3) (cs:=[]) (.tr (.mo v)) [.tr (.mo t),.ls l] [.c (.ok (.tr v))] (P2 (show 2<1000000 by decide) (plain_con l hl t v h1 n)) (clo_tr _) (mx3 ..) rfl (by kernel_rfl)
 | .fa t,u,h,n=>by
  obtain ⟨v,h1,rfl⟩:=Option.map_eq_some_iff.mp h
  exact (F1099 w.params).ret0 (n:=n+3 * t.ht+3) (cs:=[]) (.tr (.fa v)) [.tr (.fa t),.ls l] [.c (.ok (.tr v))] (P2 (show 2<1000000 by decide) (plain_con l hl t v h1 n)) (clo_tr _) (mx3 ..) rfl (by kernel_rfl)
 | .su x y,u,h,n=>by
  obtain ⟨v,h1,h2⟩:=Option.bind_eq_some_iff.mp h
  obtain ⟨v2,h3,rfl⟩:=Option.map_eq_some_iff.mp h2
  have a:Con prog w LI (n+3 * max x.ht y.ht+3) (.fn 1099) [] [.tr x,.ls l] [] (.ok (.tr v)) []:=(plain_con l hl x v h1 n).mono (mxL ..)
  have b:Con prog w LI (n+3 * max x.ht y.ht+3) (.fn 1099) [] [.tr y,.ls l] [] (.ok (.tr v2)) []:=(plain_con l hl y v2 h3 n).mono (mxR ..)
  exact (F1099 w.params).ret0 (n:=n+3 * max x.ht y.ht+3) (cs:=[]) (.tr (.su v v2)) [.tr (.su x y),.ls l] [.c (.ok (.tr v)),.c (.ok (.tr v2))] (P3 (show 3<1000000 by decide) a b) (clo_tr _) (mx3 ..) rfl (by kernel_rfl)
end
noncomputable abbrev rngV (a n:Nat):List V:=(List.range' a n).map fun (i:Nat)=>V.int (Int.ofNat i)
noncomputable def rgArgs:Expr→List Expr
 | .Call _ l _ _=>l
 | _=>[]
noncomputable def isRg (es:List Expr):Expr→Bool
 | .Call f _ ks _=>isName "range" f&&ks.isEmpty&&!es.any isStar
 | _=>false
theorem isRg_eq {e:Expr} (h:isRg (rgArgs e) e=true):∃ pf,e=.Call (.Name "range" pf) (rgArgs e) [] e.pos∧(rgArgs e).any isStar=false:=by
 cases e with
 | Call f args ks cp =>
  have h:(isName "range" f&&ks.isEmpty&&!args.any isStar)=true:=h
  have c:=Bool.and_eq_true_iff.mp h
  have c1:=Bool.and_eq_true_iff.mp c.1
  exact (isName_eq c1.1).imp fun p e=>⟨by rw [e,List.isEmpty_iff.mp c1.2];rfl,(Bool.not_eq_true' _).mp c.2⟩
 | _=>exact absurd h Bool.false_ne_true
section
variable {prog:Program} {w:World} {LI:Nat→Option LamInfo} {Γ:Gam} {A:Around} {L:Addr} {F:List Addr} {φ:Mp} {ca:List Addr}
theorem iter_range {env:Env} {cv:List (Str×V)} (hh:A.handled=none) {φ₀:Mp} {ca₀:List Addr} {I:Addr} {a n:Nat} :
  Iter prog w LI A env cv L F φ₀ ca₀ I (rngV a n) (fun h i=>IsRangeIter h I ((a:Int)+i) ((n:Int) - i) 1) where
 stay h h' i o e1 e2:=fun x1=>by
  have x1':h.get? I=_:=x1
  rw [e1] at x1'
  show h'.get? I=_
  rw [e2];exact x1'
 obj h i:=fun x=>⟨_,x⟩
 item σ φ ca s i v h le pre hit hv Q E k:=by
  rw [List.getElem?_map,Option.map_eq_some_iff] at hv
  obtain ⟨j,hj,rfl⟩:=hv
  obtain ⟨hl,hj⟩:=List.getElem?_eq_some_iff.mp hj
  rw [List.length_range'] at hl
  rw [List.getElem_range'] at hj
  refine wpAny_pyNext_range_item hit (by omega) fun h₁ x1 x2=>k (.int ((a:Int)+i) s.toks) h₁ _ ?_ ?_ x2
  ·rw [show Int.ofNat j=(a:Int)+i by show (j:Int)=_;omega];exact .int
  ·have e1:(a:Int)+i+1=(a:Int)+((i+1:Nat):Int):=by omega
   have e2:(n:Int) - i - 1=(n:Int) - ((i+1:Nat):Int):=by omega
   rw [e1,e2] at x1
   exact x1
 fin σ φ ca s i h le pre hit hv Q E k:=by
  refine wpAny_pyNext_range_end hh hit ?_ fun h₁ x=>k h₁ s.toks x
  have:(rngV a n).length≤i:=by simpa using hv
  rw [List.length_map,List.length_range'] at this
  omega
theorem range_core {t:Expr} {body:List Stmt} {pf cp pos:Pos} {args:List Expr} {x:Str} {k a n:Nat} {σ σ₁:Wt} {σ':Ab} {ps:List Prop} {out:Res Fl} (ht:isName x t=true) (hx:Γ.cs.names.lookup x=some .local) (hg:Γ.cs.names.lookup ("range": Str)=some .globalImplicit) (hs:args.any isStar=false) (ha:a+n<100000)
  (h1:evS (evN prog w LI Γ k).1 args σ=some (.ok [.int a,.int ((a+n:Nat):Int)],σ₁,ps)) (hp:AllP ps)
  (lp:Loop prog w LI Γ (fun v=>[(x,v)]) body (rngV a n) σ₁.ab out σ'):SemS prog w LI Γ (.For t (.Call (.Name "range" pf) args [] cp) body [] pos) σ.ab out σ':=by
 intro A ad cl L F outer S φ ca s h Q E k1 k2
 have hn:nameV Γ "range" σ=some (.ty "range"):=by unfold nameV;rw [hg];rfl
 refine wpAny_For (wpAny_Call_NameR ((name_sound S hn h).ok_ fun φ₁ ca₁ vf s₁ p₁ r₁=>?_)) (fun x=>folded_no rfl)
 rw [show vf=.type "range" from r₁.ty_inv]
 refine callWith_of (P:=Keeps prog w (.type "range")) (by rw [plain_of hs];rfl) (fun h p=>p) ?_
 cases args with
 | nil=>exact nomatch congrArg (fun z=>z.map (·.1)) h1
 | cons e1 es =>
  rw [List.any_cons,Bool.or_eq_false_iff] at hs
  have g:=evS_sound (evN_sound k).1 S (pos:=cp) h1 hp p₁.at_
  rw [starEach_cons hs.1] at g ⊢
  refine evalArgs_plain (g.ok_ fun φ₂ ca₂ us s₂ p₂ r₂=>⟨keeps_V S (f:=.ty "range") rfl .ty p₂.at_,r₂.two.elim fun u1 z=>z.elim fun u2 z=>z.2.1.int_inv.elim fun t1 q1=>z.2.2.int_inv.elim fun t2 q2=>?_⟩)
  rw [z.1,q1,q2]
  have lt:((a+n:Nat):Int)<100000:=by omega
  have le:(a:Int)≤((a+n:Nat):Int):=by omega
  have hsz:Builtin.Range.rangeSize (a:Int) ((a+n:Nat):Int) 1=(n:Int):=by rw [rangeSize_one];split<;>omega
  refine call_range_2 (wpAny_pyIter_range (IsRange.new _ _ _ _ _ _ _) (small_one (by omega) (by omega) (by omega) (by omega)) ?_)
  rw [hsz]
  have p₃:=Pst.push p₂.at_ { cls:=.type "range", data:=.fields #[.int a t1,.int ((a+n:Nat):Int) t2,.int 1 s₂.toks] } rfl (s':={ s₂ with heap:=s₂.heap.push { cls:=.type "range", data:=.fields #[.int a t1,.int ((a+n:Nat):Int) t2,.int 1 s₂.toks] },toks:=s₂.toks+1 }) rfl ⟨rfl,rfl,rfl⟩
  generalize ({ s₂ with heap:=s₂.heap.push { cls:=.type "range", data:=.fields #[.int a t1,.int ((a+n:Nat):Int) t2,.int 1 s₂.toks] },toks:=s₂.toks+1 }:Shared)=s₃ at p₃ ⊢
  exact Goal.after ((p₁.trans p₂).trans p₃) (for_gen (s:={ s₃ with heap:=s₃.heap.push { cls:=.type "range_iterator", data:=.fields #[rawInt a,rawInt n,rawInt 1] } }) S (fun s i u Q E _ q=>by rw [lt_isName ht];exact wpAny_pure q) (fun v _=>binds_isName ht hx v) p₃.at_ (apart_new p₃.at_) (Heap.get?_none_of_le (Nat.le_refl _)) (fun b o e=>Heap.get?_push_of_some _ e) ⟨rfl,rfl,rfl⟩
   (iter_range (a:=a) (n:=n) S.ok.1) (by show IsRangeIter _ _ ((a:Int)+((0:Nat):Int)) ((n:Int) - ((0:Nat):Int)) 1;rw [show (a:Int)+((0:Nat):Int)=a from Int.add_zero _,show (n:Int) - ((0:Nat):Int)=n from Int.sub_zero _];exact Heap.get?_push_size _ rfl) lp) Q E k1 k2
theorem range_st {st:Stmt} {x:Str} {k a n:Nat} {σ:Wt} {σ':Ab} {ps:List Prop} {out:Res Fl} (ho:forOk st=true) (ht:isName x (forT st)=true) (hx:Γ.cs.names.lookup x=some .local) (hg:Γ.cs.names.lookup ("range": Str)=some .globalImplicit) (hi:isRg (rgArgs (forI st)) (forI st)=true) (ha:a+n<100000)
  (e:(evS (evN prog w LI Γ k).1 (rgArgs (forI st)) σ).map (fun r=>(r.1,r.2.1.ab,r.2.2))=some (.ok [.int a,.int ((a+n:Nat):Int)],σ.ab,ps)) (hp:AllP ps)
  (lp:Loop prog w LI Γ (fun v=>[(x,v)]) (forB st) (rngV a n) σ.ab out σ'):SemS prog w LI Γ st σ.ab out σ' :=
 (run_is e).elim fun σ₁ k=>(isRg_eq hi).elim fun pf q=>by
  rw [forOk_eq ho,q.1]
  exact range_core ht hx hg q.2 ha k.2 hp (k.1▸lp)
end
noncomputable def whT:Stmt→Expr
 | .While t _ _ _=>t
 | _=>default
noncomputable def whB:Stmt→List Stmt
 | .While _ b _ _=>b
 | _=>[]
noncomputable def whP:Stmt→Pos
 | .While _ _ _ p=>p
 | _=>default
noncomputable def whO:Stmt→Bool
 | .While _ _ o _=>o.isEmpty
 | _=>false
theorem whO_eq {st:Stmt} (h:whO st=true):st=.While (whT st) (whB st) [] (whP st):=by
 cases st<;>first | cases h | skip
 rename_i t b o p
 obtain rfl:o=[]:=List.isEmpty_iff.mp h
 rfl
section
variable {prog:Program} {w:World} {LI:Nat→Option LamInfo} {Γ:Gam}
def TestIs (prog:Program) (w:World) (LI:Nat→Option LamInfo) (Γ:Gam) (t:Expr) (σ:Ab) (b:Bool):Prop:=∃ tr ps,((evN prog w LI Γ 40).2 t ⟨σ.loc,σ.cells,tr⟩).map (fun r=>(r.1,r.2.1.ab,r.2.2))=some (.ok b,σ,ps)∧AllP ps
inductive WhileN (prog:Program) (w:World) (LI:Nat→Option LamInfo) (Γ:Gam) (t:Expr) (body:List Stmt) (out:Res Fl) (σ':Ab):Nat→Ab→Prop
 | stop {k}:TestIs prog w LI Γ t σ' false→out=.ok .next→WhileN prog w LI Γ t body out σ' k σ'
 | turn {k σ σ₂ loc}:TestIs prog w LI Γ t σ true→SemB prog w LI Γ body σ (.ok .next) σ₂→(∀ y u,loc.lookup y=some u→σ₂.loc.lookup y=some u)→WhileN prog w LI Γ t body out σ' k ⟨loc,σ₂.cells⟩→WhileN prog w LI Γ t body out σ' (k+1) σ
 | ret {k σ u}:TestIs prog w LI Γ t σ true→SemB prog w LI Γ body σ (.ok (.ret u)) σ'→out=.ok (.ret u)→WhileN prog w LI Γ t body out σ' k σ
theorem TestIs.sound {A:Around} {a:Addr} {cl:List (Str×Addr)} {L:Addr} {F:List Addr} {outer:List Env} {φ:Mp} {ca:List Addr} {s:Shared} {t:Expr} {σ:Ab} {b:Bool} (x:TestIs prog w LI Γ t σ b) (S:Site L F Γ A a cl outer) (h:At prog w LI (eN Γ L a cl) Γ.cv L F σ φ ca s) :
  Goal prog w LI (eN Γ L a cl) Γ.cv L F RBr (.ok b) σ φ ca s (fun Q E=>wpAny (model prog w) A (isTrue t (eN Γ L a cl) (eval t (eN Γ L a cl))) Q E s):=by
 obtain ⟨tr,ps,e,hp⟩:=x
 obtain ⟨⟨o,σ₁,p⟩,h1,h2⟩:=Option.map_eq_some_iff.mp e
 obtain ⟨h3,h4⟩:=Prod.mk.inj h2
 obtain ⟨h4,h5⟩:=Prod.mk.inj h4
 have h3':o=.ok b:=h3
 have h4':σ₁.ab=σ:=h4
 have h5':p=ps:=h5
 subst h3';subst h5';subst h4'
 exact (evN_sound 40).2 A a cl L F outer S t _ _ σ₁ p h1 hp φ ca s h
theorem while_st {st:Stmt} {k:Nat} {σ σ':Ab} {out:Res Fl} (ho:whO st=true) (lp:WhileN prog w LI Γ (whT st) (whB st) out σ' k σ):SemS prog w LI Γ st σ out σ':=by
 rw [whO_eq ho]
 generalize whT st=t at *
 generalize whB st=body at *
 generalize whP st=pos at *
 intro A a cl L F outer S φ ca s h Q E k1 k2
 refine wpAny_While ?_
 refine codeAny_whileLoop (fun k s'=>∃ φ₁ ca₁ σ₁,Pst prog w LI (eN Γ L a cl) Γ.cv L F σ₁ φ ca s φ₁ ca₁ s'∧WhileN prog w LI Γ t body out σ' k σ₁) ?_ k ⟨φ,ca,σ,Pst.refl h,lp⟩
 rintro k s' ⟨φ₁,ca₁,σ₁,pst,lpi⟩
 have body_step:∀ {fl:Fl} {σ₃:Ab} {φ₂ ca₂ s₂},Pst prog w LI (eN Γ L a cl) Γ.cv L F σ₁ φ ca s φ₂ ca₂ s₂→SemB prog w LI Γ body σ₁ (.ok fl) σ₃→(∀ φ₃ ca₃ g s₃,Pst prog w LI (eN Γ L a cl) Γ.cv L F σ₃ φ ca s φ₃ ca₃ s₃→RFr prog w LI fl φ₃ ca₃ g →
   (match g with
    | .next | .cont=>∃ m,m<k∧∃ φ₁ ca₁ σ₁,Pst prog w LI (eN Γ L a cl) Γ.cv L F σ₁ φ ca s φ₁ ca₁ s₃∧WhileN prog w LI Γ t body out σ' m σ₁
    | .brk=>Q .next s₃
    | .ret v=>Q (.ret v) s₃)) →
   wpAny (model prog w) A (execs body (eN Γ L a cl)) (fun f s₃=>match f with
    | .next | .cont=>∃ m,m<k∧∃ φ₁ ca₁ σ₁,Pst prog w LI (eN Γ L a cl) Γ.cv L F σ₁ φ ca s φ₁ ca₁ s₃∧WhileN prog w LI Γ t body out σ' m σ₁
    | .brk=>Q .next s₃
    | .ret v=>Q (.ret v) s₃) (notedBy (model prog w) A (eN Γ L a cl) fun e s'=>cameBackBy (model prog w) A (eN Γ L a cl) E e s') s₂:=by
  intro fl σ₃ φ₂ ca₂ s₂ p₂ sb kk
  refine sb A a cl L F outer S φ₂ ca₂ s₂ p₂.at_ _ _ (fun b φ₃ ca₃ g s₃ eb pst₃ rf=>?_) (fun c φ' ca' v' s' eo=>by cases eo)
  cases eb
  exact kk φ₃ ca₃ g s₃ (p₂.trans pst₃) rf
 cases lpi with
 | stop ht hout =>
  subst hout
  refine ht.sound S pst.at_ _ _ (fun b φ₂ ca₂ b' s₂ eb p₂ rb=>?_) (fun c φ' ca' v' s' eo=>by cases eo)
  cases eb
  obtain rfl:b'=false:=rb
  exact wpAny_execs_nil (k1 .next φ₂ ca₂ .next _ rfl (pst.trans p₂) trivial)
 | turn ht sb hloc rest =>
  refine ht.sound S pst.at_ _ _ (fun b φ₂ ca₂ b' s₂ eb p₂ rb=>?_) (fun c φ' ca' v' s' eo=>by cases eo)
  cases eb
  obtain rfl:b'=true:=rb
  refine body_step (pst.trans p₂) sb fun φ₃ ca₃ g s₃ p₃ rf=>?_
  cases g<;>first | exact rf.elim | exact ⟨_,Nat.lt_succ_self _,φ₃,ca₃,_,p₃.weak hloc,rest⟩
 | ret ht sb hout =>
  subst hout
  refine ht.sound S pst.at_ _ _ (fun b φ₂ ca₂ b' s₂ eb p₂ rb=>?_) (fun c φ' ca' v' s' eo=>by cases eo)
  cases eb
  obtain rfl:b'=true:=rb
  refine body_step (pst.trans p₂) sb fun φ₃ ca₃ g s₃ p₃ rf=>?_
  cases g<;>first | exact rf.elim | exact k1 _ φ₃ ca₃ _ s₃ rfl p₃ rf
end
noncomputable def ifS:Stmt→List Stmt
 | .If _ b _ _=>b
 | _=>[]
noncomputable def vaE:Stmt→Expr
 | .Assign _ e _=>e
 | _=>default
noncomputable def rgE:Expr→Expr
 | .BinOp _ _ r _=>r
 | e=>e
noncomputable def cmN (P:Params):Expr:=rgE (vaE ((ifS (stAt P 1085 3)).headD (.Pass default)))
noncomputable def tnE (e:Expr):Expr:=.Compare (.Name "name" (pE e [0])) [.NotIn] [.Name "found" (pE e [1])] e.pos
theorem cmN_ok (P:Params):(plainIter (ceIter (cmN P))&&scOk (ceSc (cmN P)) "name")=true:=by kernel_rfl
theorem cmN_is (P:Params):cmN P=ceE "name" (cmN P):=by kernel_rfl
theorem cmN_ts (P:Params):ceTst (cmN P)=tnE (ceTst (cmN P)):=by kernel_rfl
theorem cmN_nm (P:Params):(ceSc (cmN P)).names=([(".0", .local),("name", .local),("found", .free)]:List (Str×NameKind)):=by kernel_rfl
section
variable {prog:Program} {w:World}
noncomputable abbrev G1 (P:Params) (n:Nat) (l:List Str):Gam:=Gc P n 1085 [("found", .ls l)]
theorem comp_names (n:Nat) (t:T) (l1 l2:List Str) (loc:List (Str×V)) (cs:List Cell) (hl:l2.length<1000000)
  (e:((evN prog w (LIx w.params) (G1 w.params n l1) 40).1 (ceIter (cmN w.params)) ⟨loc,cs,[.c (.ok (.ls l2))]⟩)=some (.ok (.ls l2),⟨loc,cs,[]⟩,[Con prog w (LIx w.params) n (.fn 1085) [] [.tr t] [] (.ok (.ls l2)) []]))
  (hc:Con prog w (LIx w.params) n (.fn 1085) [] [.tr t] [] (.ok (.ls l2)) []) :
  SemE prog w (LIx w.params) (G1 w.params n l1) (cmN w.params) ⟨loc,cs⟩ (.ok (.ls (l2.filter fun x=>!l1.any (·==x)))) ⟨loc,cs⟩:=by
 intro A a cl L F outer S φ ca s h
 have ok:=Bool.and_eq_true_iff.mp (cmN_ok w.params)
 have sc:=ok.2
 refine (h.cv "found" (.ls l1) rfl).elim fun c q=>q.elim fun o q=>q.elim fun u0 q=>?_
 have h1:cl.lookup ("found": Str)=some c:=q.1
 have hcl:closureFor (ceSc (cmN w.params)) (eN (G1 w.params n l1) L a cl)=pure ([("found", c)]:List (Str×Addr)):=by
  rw [closure_of (fun p hp hf=>by
   rw [cmN_nm] at hp
   have e:p.1 ="found":= by
    rcases List.mem_cons.mp hp with e | hp
    ·exact absurd (e▸hf) (by decide)
    ·rcases List.mem_cons.mp hp with e | hp
     ·exact absurd (e▸hf) (by decide)
     ·exact List.mem_singleton.mp hp▸rfl
   show (cl.lookup p.1).isSome=true
   rw [e,h1];rfl),cmN_nm]
  show pure (closL cl _ [])=_
  simp only [closL,h1,Option.getD_some]
  rfl
 rw [cmN_is]
 have key:∀ (l:List Str),((l.map V.str).filter fun v=>match v with | .str x=>!l1.any (·==x) | _=>false)=(l.filter fun x=>!l1.any (·==x)).map V.str:=by
  intro l
  rw [List.filter_map];rfl
 refine comp_op S (v:=.ls l2) (vs:=l2.map .str) (fun u=>match u with | .str x _=>!l1.any (·==x) | _=>false) (fun v=>match v with | .str x=>!l1.any (·==x) | _=>false) hcl sc e (P1 hc) rfl (by rw [List.length_map];exact hl)
  (show (V.ls _).elems=some _ from congrArg some (key l2).symm) (fun y=>folded_no ok.1) h (fun φ ca v hv u r=>?_) ?_
 ·refine (List.mem_map.mp hv).elim fun x q=>(q.2.symm▸r:RV prog w (LIx w.params) φ ca (.str x) u).str_inv.elim fun t' e=>?_
  rw [e,← q.2]
 ·intro φ' ca' v u C s₃ m₃ E' _ hv r fz kk hn hm cv
  refine (List.mem_map.mp hv).elim fun nm q=>(q.2.symm▸r:RV prog w (LIx w.params) φ' ca' (.str nm) u).str_inv.elim fun t' eu=>(cv "found" (.ls l1) rfl).elim fun c' g=>g.elim fun o' g=>g.elim fun uf g=>(strs_are (v:=.ls l1) rfl g.2.2.2).elim fun us z=>z.elim fun al z=>z.elim fun nn z=>?_
  have g3:=g.2.2.1
  rw [z.1] at g3
  have g2:=Option.some.inj (h1.symm.trans g.1)▸g.2.1
  unfold scOk at sc
  have hkp:(relabel (ceSc (cmN w.params)) (eN (G1 w.params n l1) L a cl)).names.lookup ("name": Str)=some .local:=lookup_relabel_local (beq_iff_eq.mp (Bool.and_eq_true_iff.mp (Bool.and_eq_true_iff.mp sc).1).2)
  have hkf:(relabel (ceSc (cmN w.params)) (eN (G1 w.params n l1) L a cl)).names.lookup ("found": Str)=some .cell:=by kernel_rfl
  have kd:(relabel (ceSc (cmN w.params)) (eN (G1 w.params n l1) L a cl)).kind=.function:=by kernel_rfl
  rw [←q.2,cmN_ts]
  exact wpAny_isTrue_Compare1 (wpAny_Name (wpAny_loadName_local (env:=compEnvC (ceSc (cmN w.params)) [("found", c)] C (eN (G1 w.params n l1) L a cl)) kd hkp hn (eu▸hm)
   (wpAny_Name (wpAny_loadName_cell (env:=compEnvC (ceSc (cmN w.params)) [("found", c)] C (eN (G1 w.params n l1) L a cl)) kd hkf rfl ⟨o',fz _ _ g2,g3⟩
    (notin_list_strs ⟨_,fz _ _ z.2.2,rfl,_,rfl⟩ z.2.1 (wpAny_truthy_bool ⟨rfl,⟨_,_,rfl,fun _ _ e=>e⟩⟩))) (by decide))) (by decide)) rfl
end
section
variable {prog:Program} {w:World} {LI:Nat→Option LamInfo} {φ₁ φ₂ φ:Mp} {ca ca':List Addr} {L c:Addr} {F:List Addr}
structure Sw (c:Addr) (φ₁ φ₂:Mp):Prop where
 ne:∀ a,a≠c→φ₂ a=φ₁ a
 cl:∀ o,φ₁ c=some o→∃ x,o.data=.cell x
theorem RVs.swap {φ₁ φ₂:Mp} {ca ca':List Addr}:∀ {vs:List V} {us:List Value},(∀ v∈vs,∀ u,RV prog w LI φ₁ ca v u→RV prog w LI φ₂ ca' v u)→RVs prog w LI φ₁ ca vs us→RVs prog w LI φ₂ ca' vs us
 | _,_,_,.nil=>.nil
 | _,_,f,.cons a b=>.cons (f _ (.head _) _ a) (RVs.swap (fun v hv=>f v (.tail _ hv)) b)
theorem Sw.tup (x:Sw c φ₁ φ₂) {a:Addr} {l:List Value} (h:φ₁ a=some (tu l)):φ₂ a=some (tu l):=by
 by_cases e:a=c
 ·subst e;obtain ⟨y,hy⟩:=x.cl _ h;cases hy
 ·rw [x.ne a e];exact h
theorem Sw.lst (x:Sw c φ₁ φ₂) {a:Addr} {l:Array Value} {n:Nat} (h:φ₁ a=some (listOf l n)):φ₂ a=some (listOf l n):=by
 by_cases e:a=c
 ·subst e;obtain ⟨y,hy⟩:=x.cl _ h;cases hy
 ·rw [x.ne a e];exact h
theorem Sw.tr (x:Sw c φ₁ φ₂):∀ (t:T) (u:Value),RV prog w LI φ₁ ca (.tr t) u→RV prog w LI φ₂ ca' (.tr t) u:=by
 have st:∀ (s:Str) (u:Value),RV prog w LI φ₁ ca (.str s) u→RV prog w LI φ₂ ca' (.str s) u:=fun s u r=>by obtain ⟨t,rfl⟩:=r.str_inv;exact .str
 have go:∀ (t:T) (vs:List V),(V.tr t).items=some vs→(∀ v∈vs,∀ u,RV prog w LI φ₁ ca v u→RV prog w LI φ₂ ca' v u)→∀ u,RV prog w LI φ₁ ca (.tr t) u→RV prog w LI φ₂ ca' (.tr t) u:=fun t vs e f u r=>by
  obtain ⟨us,a,rfl,rs,ha⟩:=r.items_inv e
  exact .tup e (rs.swap f) (x.tup ha)
 intro t
 induction t with
 | n s =>
  refine go _ _ rfl fun v hv=>?_
  simp only [T.un,List.mem_cons,List.not_mem_nil,or_false] at hv
  rcases hv with rfl | rfl
  ·exact st _
  ·exact st _
 | ni k =>
  refine go _ _ rfl fun v hv=>?_
  simp only [T.un,List.mem_cons,List.not_mem_nil,or_false] at hv
  rcases hv with rfl | rfl
  ·exact st _
  ·intro u r;obtain ⟨t,rfl⟩:=r.int_inv;exact .int
 | rex =>
  refine go _ _ rfl fun v hv=>?_
  simp only [T.un,List.mem_cons,List.not_mem_nil,or_false] at hv
  rcases hv with rfl | rfl
  ·exact st _
  ·exact st _
 | tom =>
  refine go _ _ rfl fun v hv=>?_
  simp only [T.un,List.mem_cons,List.not_mem_nil,or_false] at hv
  rcases hv with rfl | rfl
  ·exact st _
  ·exact st _
 | mo t ih =>
  refine go _ _ rfl fun v hv=>?_
  simp only [T.un,List.mem_cons,List.not_mem_nil,or_false] at hv
  rcases hv with rfl | rfl
  ·exact st _
  ·exact ih
 | fa t ih =>
  refine go _ _ rfl fun v hv=>?_
  simp only [T.un,List.mem_cons,List.not_mem_nil,or_false] at hv
  rcases hv with rfl | rfl
  ·exact st _
  ·exact ih
 | su t t2 ih ih2 =>
  refine go _ _ rfl fun v hv=>?_
  simp only [T.un,List.mem_cons,List.not_mem_nil,or_false] at hv
  rcases hv with rfl | rfl | rfl
  ·exact st _
  ·exact ih
  ·exact ih2
theorem Sw.ls (x:Sw c φ₁ φ₂) {l:List Str} {u:Value} (r:RV prog w LI φ₁ ca (.ls l) u):RV prog w LI φ₂ ca' (.ls l) u:=by
 obtain ⟨us,a,n,rfl,rs,ha⟩:=r.elems_inv (vs:=l.map .str) rfl
 refine .lst (vs:=l.map .str) rfl (rs.swap fun v hv u r=>?_) (x.lst ha)
 obtain ⟨s,_,rfl⟩:=List.mem_map.mp hv
 obtain ⟨t,rfl⟩:=r.str_inv
 exact .str
theorem Sw.put {o₁ o₂:Obj} {x₁:Option Value} (h1:φ₁ c=some o₁) (h2:o₁.data=.cell x₁):Sw c φ₁ (φ₁.put c o₂) :=
 ⟨fun a h=>if_neg h,fun o e=>by rw [h1] at e;cases e;exact ⟨_,h2⟩⟩
theorem At.recell {env:Env} {loc:List (Str×V)} {s₁:Shared} {o₁ o₂:Obj} {x₁:Option Value} {h₂:Heap} (h:At prog w LI env [] L F ⟨loc,[]⟩ φ₁ [] s₁) (hloc:∀ x v,loc.lookup x=some v→∃ t,v=.tr t) (h1:φ₁ c=some o₁) (h2:o₁.data=.cell x₁)
  (hK:(K w.params).lookup c=none) (hT:c∉tabA) (hF:c∉L::F) (sb:Heap.SameBut c s₁.heap h₂) (h3:h₂.get? c=some o₂):At prog w LI env [] L F ⟨loc,[]⟩ (φ₁.put c o₂) [] { s₁ with heap:=h₂ }:=by
 have sw:Sw c φ₁ (φ₁.put c o₂):=Sw.put h1 h2
 refine ⟨⟨fun b o e=>?_,fun b o e=>?_,fun P hP=>?_,rfl,h.hp.nd,fun i c' b e1 e2=>(by cases e1),fun b hb=>?_⟩,h.big,h.LF,?_,fun x v e=>(by cases e)⟩
 ·by_cases z:b=c
  ·subst z;rw [Mp.put_self] at e;cases e;exact h3
  ·rw [sw.ne b z] at e;exact (sb.2 b z).trans (h.hp.fz _ _ e)
 ·have z:b≠c:=fun z=>by rw [z,hK] at e;cases e
  rw [sw.ne b z];exact h.hp.kk _ _ e
 ·have z:P≠c:=fun z=>hT (z▸hP)
  obtain ⟨a1,a2,a3,ps,a4,a5,a6⟩:=h.hp.tab P hP
  refine ⟨by rw [sw.ne P z];exact a1,a2,a3,ps,(sb.2 P z).trans a4,a5,fun pos cv e=>?_⟩
  obtain ⟨k,o,vs,t,q1,q2,q3,q4⟩:=a6 pos cv e
  refine ⟨k,o,vs,t,q1,?_,q3,q4⟩
  by_cases z:k=c
  ·subst z;rw [h1] at q2;cases q2;rw [h2] at q3;cases q3
  ·rw [sw.ne k z];exact q2
 ·have z:b≠c:=fun z=>hF (z▸hb)
  obtain ⟨a1,o,a2,a3⟩:=h.hp.frs b hb
  exact ⟨by rw [sw.ne b z];exact a1,o,(sb.2 b z).trans a2,a3⟩
 ·obtain ⟨m,hn,hl⟩:=h.fr
  refine ⟨m,hn.extBut (fun b o hb e=>(sb.2 b hb).trans e) (fun z=>hF (z▸.head _)),fun x v e=>?_⟩
  obtain ⟨u,hu,r⟩:=hl x v e
  obtain ⟨t,rfl⟩:=hloc x v e
  exact ⟨u,hu,sw.tr t u r⟩
theorem Stp.recell {h₀ h₁ h₂:Heap} {o₂:Obj} (st:Stp [] F φ h₀ φ₁ h₁) (hφ:φ c=none) (h0:h₀.get? c=none) (hF:c∉F) (sb:Heap.SameBut c h₁ h₂) (h3:h₂.get? c=some o₂):Stp [] F φ h₀ (φ₁.put c o₂) h₂:=by
 refine ⟨fun a o e=>?_,fun a o e=>?_,fun a ha=>?_,fun b o e m f t=>?_,fun b o e f=>?_⟩
 ·have z:a≠c:=fun z=>by rw [z,hφ] at e;cases e
  exact (if_neg z).trans (st.le a o e)
 ·by_cases z:a=c
  ·subst z;exact .inr h0
  ·exact st.new a o ((if_neg z).symm.trans e)
 ·obtain ⟨o,e⟩:=st.alive a ha
  by_cases z:a=c
  ·subst z;exact ⟨_,h3⟩
  ·exact ⟨o,(sb.2 a z).trans e⟩
 ·have z:b≠c:=fun z=>by rw [z,h0] at e;cases e
  exact (sb.2 b z).trans (st.keep b o e m f t)
 ·have z:b≠c:=fun z=>hF (z▸f)
  obtain ⟨sl,q⟩:=st.up b o e f
  exact ⟨sl,(sb.2 b z).trans q⟩
end
theorem B1085 (P:Params) {s:Shared} (a:Value):BindsTo s (fdat P 1085) ⟨[a],[]⟩ [("tree", a)]:=by
 refine BindsTo.of_eq ?_
 kernel_rfl
theorem f1085 (P:Params) (a:Value):((([("tree", a)]:List (Str×Value)).all fun y=>(fdat P 1085).scope.names.lookup y.1==some .local||(fdat P 1085).scope.names.lookup y.1==some .cell)=true)∧bindL (fun x=>(fdat P 1085).scope.names.lookup x) [("tree", a)] (fun _=>none) "tree"= some a ∧
  bindC (fun x=>(fdat P 1085).scope.names.lookup x) [("tree", a)] (fun _=>none) "found"= none∧(fdat P 1085).scope.names.lookup ("found": Str)=some .cell:=by
 refine ⟨?_,?_,?_,?_⟩<;>kernel_rfl
theorem c1085:1085∈celL:=.tail _ (.tail _ (.head _))
section
variable {prog:Program} {w:World} {LI:Nat→Option LamInfo}
theorem names_fn {n:Nat} {t:T} {l:List Str}
  (hb:∀ (A:Around) (cl:List (Str×Addr)) (L:Addr) (F:List Addr) (outer:List Env) (h₀:Heap) (φ φ0:Mp) (s:Shared) (c:Addr) (o:Obj),
   Site L F (Gc w.params n 1085 []) A 1085 cl outer→At prog w LI (eN (Gc w.params n 1085 []) L 1085 cl) [] L F ⟨[("tree", .tr t)],[]⟩ φ0 [] s→cl.lookup ("found": Str)=some c→φ0 c=some o→o.data=.cell none→φ c=none→h₀.get? c=none→c∉L::F→c∉tabA→(K w.params).lookup c=none→h₀.get? L=none→Stp [] F φ h₀ φ0 s.heap →
   ∀ (Q:Flow→Shared→Prop) (E:Value→Shared→Prop),(∀ φ' cells' ca' u s',Stp [] F φ h₀ φ' s'.heap→Hp prog w LI (L::F) φ' ca' cells' s'.heap→SameX s s'→RV prog w LI φ' ca' (.ls l) u→Q (.ret u) s')→wpAny (model prog w) A (execs (bodyAt w.params 1085) (eN (Gc w.params n 1085 []) L 1085 cl)) Q E s) :
  Con prog w LI (n+3) (.fn 1085) [] [.tr t] [] (.ok (.ls l)) []:=fun A outer F φ ca s vf us ks ok fr fe hp0 rf ra rk Q E k1 k2=>ra.one.elim fun u0 z=>by
 obtain rfl:ca=[]:=List.length_eq_zero_iff.mp hp0.len
 have q:=f1085 w.params u0
 rw [rf.fn_inv,z.1,rk.nil_]
 refine cell_call (cvv:=[]) c1085 ok fr fe hp0 (B1085 _ _) q.1 fun s' x hkd st=>(Option.isSome_iff_exists.mp (cellsFrom_some (fdat w.params 1085).scope.names (s.heap.objs.size+1) [] (.inl q.2.2.2))).elim fun c hc=>(x.cell _ c hc).elim fun o ho=>?_
 have nc:s.heap.get? c=none:=Heap.get?_none_of_le (Nat.le_of_lt (x.above _ _ (lookup_mem hc)))
 have a:=hp0.apart nc
 have kp:=x.toInCall.keep
 have hcL:c∉s.heap.objs.size::F:=fun y=>(List.mem_cons.mp y).elim (fun y=>Nat.lt_irrefl _ (y▸x.above _ _ (lookup_mem hc))) a.2.2.1
 have hL:s.heap.get? s.heap.objs.size=none:=Heap.get?_none_of_le (Nat.le_refl _)
 have at0:At prog w LI (cEn w n 1085 [] s) [] s.heap.objs.size F ⟨[("tree", .tr t)],[]⟩ φ [] s':=At.enter hp0 (fun y v hy=>((RKs.cons z.2 .nil:RKs prog w LI φ [] [("tree", .tr t)] [("tree", u0)]).look hy).imp fun u h =>
  ⟨one_of (p:=fun p:Str×Value=>bindL (fun x=>(fdat w.params 1085).scope.names.lookup x) [("tree", u0)] (fun _=>none) p.1=some p.2) q.2.1 _ (lookup_mem h.1),h.2⟩) x.toInCall.ns kp rfl
 have nw:∀ b o',φ.put c o b=some o'→φ b=some o'∨b=c:=fun b o' e=>if y:b=c then .inr y else .inl ((if_neg y).symm.trans e)
 have at1:At prog w LI (cEn w n 1085 [] s) [] s.heap.objs.size F ⟨[("tree", .tr t)],[]⟩ (φ.put c o) [] s' :=
  at0.more (put_le' a.1) (fun b o' e=>(nw b o' e).imp id fun y=>by rw [y,Mp.put_self] at e;rw [y,← Option.some.inj e];exact ⟨ho.1,nofun,hcL,a.2.2.2⟩) nofun
 refine hb _ _ _ F outer s.heap φ (φ.put c o) s' c o st at1 hc (Mp.put_self _ _ _) (ho.2.trans (congrArg Data.cell q.2.2.1)) a.1 nc hcL a.2.2.2 (opt_none fun o e=>nsm a.1 (hp0.kk _ _ e)) hL
  ⟨put_le' a.1,fun b o' e=>(nw b o' e).elim .inl fun y=>.inr (y▸nc),fun b y=>y.imp fun o' e=>kp b o' e,fun b o' e _ _ _=>kp b o' e,fun b o' e _=>⟨o'.slots,kp b o' e⟩⟩ _ _ fun φ' cells' ca' u s₂ st2 hp2 sx2 r2=>?_
 have sx1:SameX s s':=x.toInCall.same.elim fun h z=>z.elim fun tk z=>by rw [z];exact ⟨rfl,rfl,rfl⟩
 exact k1 _ φ' u s₂ rfl st2 ((hp2.leaveN).drop (ca:=[]) List.nil_prefix (.inr nofun)) (sx1.trans sx2) (clo_ls l _ _ _ _ _ _ r2)
end
noncomputable def ifT:Stmt→Expr
 | .If t _ _ _=>t
 | _=>default
noncomputable abbrev sF (P:Params):Stmt:=(ifS (stAt P 1085 3)).headD (.Pass default)
theorem b1085 (P:Params):bodyAt P 1085=[stAt P 1085 0,stAt P 1085 1,stAt P 1085 2,stAt P 1085 3,stAt P 1085 4]:=by kernel_rfl
noncomputable abbrev asP (st:Stmt):Pos:=((kS st).getD 1 default).pos
theorem ss1085 (P:Params):stAt P 1085 2=.Assign [.Name "found" (asP (stAt P 1085 2))] (vaE (stAt P 1085 2)) (stAt P 1085 2).pos:=by kernel_rfl
theorem ff1085 (P:Params):sF P=.Assign [.Name "found" (asP (sF P))] (vaE (sF P)) (sF P).pos:=by kernel_rfl
theorem ii1085 (P:Params):stAt P 1085 3=.If (ifT (stAt P 1085 3)) [sF P] [] (stAt P 1085 3).pos:=by kernel_rfl
theorem nc1085 (P:Params):isComp (vaE (stAt P 1085 2))=false:=by kernel_rfl
theorem nd1085 (P:Params):isComp (vaE (sF P))=false:=by kernel_rfl
theorem l1085 (P:Params) (n:Nat) (cv:List (Str×V)):(Gc P n 1085 cv).cs.names.lookup ("found": Str)=some .cell:=by kernel_rfl
section
variable {prog:Program} {w:World} {LI:Nat→Option LamInfo} {L c:Addr} {F:List Addr} {A:Around} {cl:List (Str×Addr)} {outer:List Env} {n:Nat} {φ φ₁:Mp} {h₀:Heap} {s₁:Shared} {loc:List (Str×V)}
structure Cl (w:World) (L c:Addr) (F:List Addr) (cl:List (Str×Addr)) (φ:Mp) (h₀:Heap) (φ₁:Mp):Prop where
 look:cl.lookup ("found": Str)=some c
 φc:φ c=none
 h0:h₀.get? c=none
 hF:c∉L::F
 hT:c∉tabA
 hK:(K w.params).lookup c=none
 is:∃ o x,φ₁ c=some o∧o.data=.cell x
theorem Cl.le {φ₂:Mp} (x:Cl w L c F cl φ h₀ φ₁) (le:φ₁.le φ₂):Cl w L c F cl φ h₀ φ₂ :=
 ⟨x.look,x.φc,x.h0,x.hF,x.hT,x.hK,let ⟨o,y,e,d⟩:=x.is;⟨o,y,le _ _ e,d⟩⟩
theorem store_found {cv0 cv1:List (Str×V)} (x:Cl w L c F cl φ h₀ φ₁) (S:Site L F (Gc w.params n 1085 cv0) A 1085 cl outer) (h:At prog w LI (eN (Gc w.params n 1085 cv0) L 1085 cl) cv1 L F ⟨loc,[]⟩ φ₁ [] s₁) (hloc:∀ x v,loc.lookup x=some v→∃ t,v=.tr t) (st:Stp [] F φ h₀ φ₁ s₁.heap)
  {l:List Str} {u:Value} (r:RV prog w LI φ₁ [] (.ls l) u) {Q:Unit→Shared→Prop} {E:Value→Shared→Prop}
  (k:∀ φ₂ h₂,Cl w L c F cl φ h₀ φ₂→At prog w LI (eN (Gc w.params n 1085 [("found", .ls l)]) L 1085 cl) [("found", .ls l)] L F ⟨loc,[]⟩ φ₂ [] { s₁ with heap:=h₂ }→Stp [] F φ h₀ φ₂ h₂→Q () { s₁ with heap:=h₂ }) :
  wpAny (model prog w) A (storeName (eN (Gc w.params n 1085 cv0) L 1085 cl) "found" u) Q E s₁:=by
 obtain ⟨o₁,y₁,h1,h2⟩:=x.is
 refine wpAny_storeName_cell (env:=eN (Gc w.params n 1085 cv0) L 1085 cl) S.kd (l1085 w.params n cv0) x.look ⟨o₁,h.hp.fz _ _ h1,h2⟩ fun h₂ ⟨o₂,g1,g2⟩ sb=>?_
 have at0:At prog w LI (eN (Gc w.params n 1085 cv0) L 1085 cl) [] L F ⟨loc,[]⟩ φ₁ [] s₁:=⟨h.hp,h.big,h.LF,h.fr,fun x v e=>by cases e⟩
 have at2:=at0.recell hloc h1 h2 x.hK x.hT x.hF sb g1
 have st2:=st.recell x.φc x.h0 (fun z=>x.hF (.tail _ z)) sb g1
 have r2:RV prog w LI (φ₁.put c o₂) [] (.ls l) u:=(Sw.put h1 h2).ls r
 refine k (φ₁.put c o₂) h₂ ⟨x.look,x.φc,x.h0,x.hF,x.hT,x.hK,_,_,Mp.put_self _ _ _,g2⟩ ⟨at2.hp,at2.big,at2.LF,at2.fr,fun y v e=>?_⟩ st2
 rw [List.lookup_cons] at e
 split at e
 ·rename_i q
  cases e
  rw [eq_of_beq q]
  exact ⟨c,o₂,u,x.look,Mp.put_self _ _ _,g2,r2⟩
 ·cases e
theorem names_simple {t:T} {l:List Str} {tr:List Tr} {ps:List Prop} {σ':Ab}
  (er:((evBk (evM prog w LI (Gc w.params n 1085 []) 40 40) (bodyAt w.params 1085) ⟨[("tree", .tr t)],[],tr⟩).map fun r=>(r.1,r.2.1.ab,r.2.2))=some (.ok (.ret (.ls l)),σ',ps)) (hp:AllP ps):Con prog w LI (n+3) (.fn 1085) [] [.tr t] [] (.ok (.ls l)) [] :=
 names_fn (fun A cl L F outer h₀ φ φ0 s c o S h _ hc hd hφ h0 hL hT hK hL0 st Q E k=>by
  exact (semB_run (σ:=⟨[("tree", .tr t)],[],tr⟩) hp er A _ cl L F outer S φ0 [] s h).ok_ fun φ' ca' g s' p r=>r.ret_inv.elim fun u q=>by
   rw [q.1];exact k φ' _ ca' _ s' (st.trans p.stp (fun a ha=>.inr (List.mem_singleton.mp ha▸hL0))) p.at_.hp p.same q.2)
theorem names_upto {t:T} {l l1:List Str} {ps:List Prop}
  (e0:evM prog w LI (Gc w.params n 1085 []) 40 40 (stAt w.params 1085 0) ⟨[("tree", .tr t)],[],[]⟩=some (.ok .next,⟨[("tree", .tr t)],[],[]⟩,[]))
  (e1:evM prog w LI (Gc w.params n 1085 []) 40 40 (stAt w.params 1085 1) ⟨[("tree", .tr t)],[],[]⟩=some (.ok .next,⟨[("tree", .tr t)],[],[]⟩,[]))
  (e2:((evN prog w LI (Gc w.params n 1085 []) 40).1 (vaE (stAt w.params 1085 2)) ⟨[("tree", .tr t)],[],[.c (.ok (.ls l1))]⟩)=some (.ok (.ls l1),⟨[("tree", .tr t)],[],[]⟩,ps)) (hp:AllP ps)
  (rest:∀ (A:Around) (cl:List (Str×Addr)) (L:Addr) (F:List Addr) (outer:List Env) (h₀:Heap) (φ φ₂:Mp) (s:Shared) (c:Addr),Cl w L c F cl φ h₀ φ₂→Site L F (Gc w.params n 1085 [("found", .ls l1)]) A 1085 cl outer →
   At prog w LI (eN (Gc w.params n 1085 [("found", .ls l1)]) L 1085 cl) [("found", .ls l1)] L F ⟨[("tree", .tr t)],[]⟩ φ₂ [] s→h₀.get? L=none→Stp [] F φ h₀ φ₂ s.heap →
   ∀ (Q:Flow→Shared→Prop) (E:Value→Shared→Prop),(∀ φ' cells' ca' u s',Stp [] F φ h₀ φ' s'.heap→Hp prog w LI (L::F) φ' ca' cells' s'.heap→SameX s s'→RV prog w LI φ' ca' (.ls l) u→Q (.ret u) s')→wpAny (model prog w) A (execs [stAt w.params 1085 3,stAt w.params 1085 4] (eN (Gc w.params n 1085 []) L 1085 cl)) Q E s) :
  Con prog w LI (n+3) (.fn 1085) [] [.tr t] [] (.ok (.ls l)) []:=by
 refine names_fn (fun A cl L F outer h₀ φ φ0 s c o S h hcl hc hd hφ h0 hL hT hK hL0 st Q E k=>?_)
 have x0:Cl w L c F cl φ h₀ φ0:=⟨hcl,hφ,h0,hL,hT,hK,o,_,hc,hd⟩
 have new:∀ {a:Addr},a∈[L]→a∈([]:List Addr)∨h₀.get? a=none:=fun ha=>.inr (List.mem_singleton.mp ha▸hL0)
 have one:∀ {st:Stmt} {φ1:Mp} {s1:Shared} {Q:Flow→Shared→Prop} {E:Value→Shared→Prop},evM prog w LI (Gc w.params n 1085 []) 40 40 st ⟨[("tree", .tr t)],[],[]⟩=some (.ok .next,⟨[("tree", .tr t)],[],[]⟩,[])→At prog w LI (eN (Gc w.params n 1085 []) L 1085 cl) [] L F ⟨[("tree", .tr t)],[]⟩ φ1 [] s1 →
   (∀ φ2 s2,Pst prog w LI (eN (Gc w.params n 1085 []) L 1085 cl) [] L F ⟨[("tree", .tr t)],[]⟩ φ1 [] s1 φ2 [] s2→Q .next s2)→wpAny (model prog w) A (exec st (eN (Gc w.params n 1085 []) L 1085 cl)) Q E s1:=fun e h k=>by
  refine (evM_sound 40 40 _ ⟨[("tree", .tr t)],[],[]⟩ _ _ _ e P0 A _ cl L F outer S _ [] _ h).ok_ fun φ' ca' g s' p r=>?_
  rw [r.next_inv]
  obtain rfl:ca'=[]:=List.length_eq_zero_iff.mp p.at_.hp.len
  exact k φ' s' p
 rw [b1085]
 refine wpAny_execs_cons (one e0 h fun φ2 s2 p2=>?_)
 refine wpAny_execs_cons (one e1 p2.at_ fun φ3 s3 p3=>?_)
 have p23:=p2.trans p3
 rw [ss1085]
 refine wpAny_execs_cons (wpAny_Assign_Name ?_ (swaps_no (nc1085 w.params)))
 refine ((evN_sound 40).1 A _ cl L F outer S _ ⟨[("tree", .tr t)],[],[.c (.ok (.ls l1))]⟩ _ _ _ e2 hp φ3 [] s3 p3.at_).ok_ fun φ4 ca4 u s4 p4 r=>?_
 obtain rfl:ca4=[]:=List.length_eq_zero_iff.mp p4.at_.hp.len
 have p:=p23.trans p4
 refine store_found (cv0:=[]) (x0.le p.stp.le) S p4.at_ (fun x v e=>by
  rw [List.lookup_cons] at e
  split at e
  ·cases e;exact ⟨_,rfl⟩
  ·cases e) (st.trans p.stp fun a ha=>new ha) r fun φ5 h5 x5 at5 st5=>?_
 exact rest A cl L F outer h₀ φ φ5 _ c x5 ⟨S.ok,S.fr,S.fe,S.kd⟩ at5 hL0 st5 Q E fun φ' cells' ca' u s' q1 q2 q3 q4=>k φ' cells' ca' u s' q1 q2 ((p.same.trans ⟨rfl,rfl,rfl⟩).trans q3) q4
end
noncomputable def T.names:T→List Str
 | .n s=>[s]
 | .ni _=>[]
 | .rex=>[]
 | .tom=>[]
 | .mo t=>t.names
 | .fa t=>t.names
 | .su a b=>a.names++b.names.filter fun x=>!a.names.any (·==x)
noncomputable def T.sz:T→Nat
 | .mo t=>t.sz
 | .fa t=>t.sz
 | .su a b=>a.sz+b.sz
 | _=>1
theorem T.names_len:∀ t:T,t.names.length≤t.sz
 | .n s=>Nat.le_refl _
 | .ni _=>Nat.zero_le _
 | .rex=>Nat.zero_le _
 | .tom=>Nat.zero_le _
 | .mo t=>t.names_len
 | .fa t=>t.names_len
 | .su a b=>by
  have h1:=a.names_len
  have h2:=b.names_len
  have h3:=List.length_filter_le (fun x=>!a.names.any (·==x)) b.names
  show (a.names++_).length≤a.sz+b.sz
  rw [List.length_append]
  exact Nat.add_le_add h1 (Nat.le_trans h3 h2)
noncomputable def T.nn:T→Prop
 | .ni _=>False
 | .mo t=>t.nn
 | .fa t=>t.nn
 | .su a b=>a.nn∧b.nn
 | _=>True
section
variable {prog:Program} {w:World}
theorem names_one {n:Nat} {t:T} {l1:List Str} {ps ps2:List Prop}
  (e0:evM prog w (LIx w.params) (Gc w.params n 1085 []) 40 40 (stAt w.params 1085 0) ⟨[("tree", .tr t)],[],[]⟩=some (.ok .next,⟨[("tree", .tr t)],[],[]⟩,[]))
  (e1:evM prog w (LIx w.params) (Gc w.params n 1085 []) 40 40 (stAt w.params 1085 1) ⟨[("tree", .tr t)],[],[]⟩=some (.ok .next,⟨[("tree", .tr t)],[],[]⟩,[]))
  (e2:((evN prog w (LIx w.params) (Gc w.params n 1085 []) 40).1 (vaE (stAt w.params 1085 2)) ⟨[("tree", .tr t)],[],[.c (.ok (.ls l1))]⟩)=some (.ok (.ls l1),⟨[("tree", .tr t)],[],[]⟩,ps)) (hp:AllP ps)
  (e3:((evBk (evM prog w (LIx w.params) (G1 w.params n l1) 40 40) [stAt w.params 1085 3,stAt w.params 1085 4] ⟨[("tree", .tr t)],[],[]⟩).map fun r=>(r.1,r.2.1.ab,r.2.2))=some (.ok (.ret (.ls l1)),⟨[("tree", .tr t)],[]⟩,ps2)) (hp2:AllP ps2) :
  Con prog w (LIx w.params) (n+3) (.fn 1085) [] [.tr t] [] (.ok (.ls l1)) [] :=
 names_upto e0 e1 e2 hp fun A cl L F outer h₀ φ φ₂ s c x S h hL0 st Q E k=>by
  exact (semB_run (Γ:=G1 w.params n l1) (σ:=⟨[("tree", .tr t)],[],[]⟩) hp2 e3 A _ cl L F outer S φ₂ [] s h).ok_ fun φ' ca' g s' p r=>r.ret_inv.elim fun u q=>by
   rw [q.1];exact k φ' _ ca' _ s' (st.trans p.stp (fun a ha=>.inr (List.mem_singleton.mp ha▸hL0))) p.at_.hp p.same q.2
theorem names_mo {n:Nat} {t:T} {l:List Str} (h:Con prog w (LIx w.params) n (.fn 1085) [] [.tr t] [] (.ok (.ls l)) []):Con prog w (LIx w.params) (n+3) (.fn 1085) [] [.tr (.mo t)] [] (.ok (.ls l)) [] :=
 names_one (l1:=l) (ps:=[Con prog w (LIx w.params) n (.fn 1085) [] [.tr t] [] (.ok (.ls l)) []]) (ps2:=[2<1000000]) (by kernel_rfl) (by kernel_rfl) (by kernel_rfl) (P1 h) (by kernel_rfl) (P1 (by decide))
theorem names_fa {n:Nat} {t:T} {l:List Str} (h:Con prog w (LIx w.params) n (.fn 1085) [] [.tr t] [] (.ok (.ls l)) []):Con prog w (LIx w.params) (n+3) (.fn 1085) [] [.tr (.fa t)] [] (.ok (.ls l)) [] :=
 names_one (l1:=l) (ps:=[Con prog w (LIx w.params) n (.fn 1085) [] [.tr t] [] (.ok (.ls l)) []]) (ps2:=[2<1000000]) (by kernel_rfl) (by kernel_rfl) (by kernel_rfl) (P1 h) (by kernel_rfl) (P1 (by decide))
theorem names_n (n:Nat) (s:Str):Con prog w (LIx w.params) (n+3) (.fn 1085) [] [.tr (.n s)] [] (.ok (.ls [s])) [] :=
 names_simple (tr:=[.v (.ls [s])]) (σ':=⟨[("tree", .tr (.n s))],[]⟩) (ps:=[(V.ls [s]).elems=some [.str s]]) (by kernel_rfl) (P1 rfl)
theorem names_rex (n:Nat):Con prog w (LIx w.params) (n+3) (.fn 1085) [] [.tr .rex] [] (.ok (.ls [])) [] :=
 names_simple (tr:=[.v (.ls [])]) (σ':=⟨[("tree", .tr .rex)],[]⟩) (ps:=[(V.ls []).elems=some []]) (by kernel_rfl) (P1 rfl)
theorem names_tom (n:Nat):Con prog w (LIx w.params) (n+3) (.fn 1085) [] [.tr .tom] [] (.ok (.ls [])) [] :=
 names_simple (tr:=[.v (.ls [])]) (σ':=⟨[("tree", .tr .tom)],[]⟩) (ps:=[(V.ls []).elems=some []]) (by kernel_rfl) (P1 rfl)
theorem names_su {n:Nat} {a b:T} {l1 l2:List Str} (h1:Con prog w (LIx w.params) n (.fn 1085) [] [.tr a] [] (.ok (.ls l1)) []) (h2:Con prog w (LIx w.params) n (.fn 1085) [] [.tr b] [] (.ok (.ls l2)) []) (hl:l1.length+l2.length<1000000) :
  Con prog w (LIx w.params) (n+3) (.fn 1085) [] [.tr (.su a b)] [] (.ok (.ls (l1++l2.filter fun x=>!l1.any (·==x)))) []:=by
 have hl2:=List.length_filter_le (fun x=>!l1.any (·==x)) l2
 have hc:SemE prog w (LIx w.params) (G1 w.params n l1) (cmN w.params) ⟨[("tree", .tr (.su a b))],[]⟩ (.ok (.ls (l2.filter fun x=>!l1.any (·==x)))) ⟨[("tree", .tr (.su a b))],[]⟩ :=
  comp_names n b l1 l2 [("tree", .tr (.su a b))] [] (by omega) (by kernel_rfl) h2
 generalize hf:l2.filter (fun x=>!l1.any (·==x))=lf at *
 refine names_upto (l1:=l1) (ps:=[Con prog w (LIx w.params) n (.fn 1085) [] [.tr a] [] (.ok (.ls l1)) []]) (by kernel_rfl) (by kernel_rfl) (by kernel_rfl) (P1 h1) fun A cl L F outer h₀ φ φ₂ s c x S h hL0 st Q E k=>?_
 have new:∀ {a:Addr},a∈[L]→a∈([]:List Addr)∨h₀.get? a=none:=fun ha=>.inr (List.mem_singleton.mp ha▸hL0)
 rw [ii1085]
 have et:((evN prog w (LIx w.params) (G1 w.params n l1) 40).2 (ifT (stAt w.params 1085 3)) ⟨[("tree", .tr (.su a b))],[],[]⟩)=some (.ok true,⟨[("tree", .tr (.su a b))],[],[]⟩,[3<1000000]):=by kernel_rfl
 have ev:((evN prog w (LIx w.params) (G1 w.params n l1) 40).1 (vaE (sF w.params)) ⟨[("tree", .tr (.su a b))],[],[.se (.ok (.ls lf)) [("tree", .tr (.su a b))] [],.v (.ls (l1++lf))]⟩)=some (.ok (.ls (l1++lf)),⟨[("tree", .tr (.su a b))],[],[]⟩,[SemE prog w (LIx w.params) (G1 w.params n l1) (cmN w.params) ⟨[("tree", .tr (.su a b))],[]⟩ (.ok (.ls lf)) ⟨[("tree", .tr (.su a b))],[]⟩,(V.ls (l1++lf)).elems=some (l1.map .str++lf.map .str),(l1.map V.str).length+(lf.map V.str).length<1000000]):=by kernel_rfl
 refine wpAny_execs_cons (wpAny_If ?_)
 refine (evN_sound 40).2 A _ cl L F outer S _ ⟨[("tree", .tr (.su a b))],[],[]⟩ _ _ _ et (P1 (by decide)) φ₂ [] s h _ _ (fun b' φ3 ca3 g s3 eb p3 r3=>?_) (fun c φ' ca' v' s' eo=>n_oe eo)
 cases eb
 obtain rfl:g=true:=r3
 obtain rfl:ca3=[]:=List.length_eq_zero_iff.mp p3.at_.hp.len
 rw [if_pos rfl,ff1085]
 refine wpAny_execs_cons (wpAny_Assign_Name ?_ (swaps_no (nd1085 w.params)))
 refine (evN_sound 40).1 A _ cl L F outer S _ ⟨[("tree", .tr (.su a b))],[],[.se (.ok (.ls lf)) [("tree", .tr (.su a b))] [],.v (.ls (l1++lf))]⟩ _ _ _ ev (P3 hc (show some _=_ by rw [List.map_append]) (by rw [List.length_map,List.length_map];omega)) φ3 [] s3 p3.at_ _ _ (fun b' φ4 ca4 u s4 eb p4 r=>?_) (fun c φ' ca' v' s' eo=>n_oe eo)
 cases eb
 obtain rfl:ca4=[]:=List.length_eq_zero_iff.mp p4.at_.hp.len
 have p:=p3.trans p4
 refine store_found (cv0:=[("found", .ls l1)]) (x.le p.stp.le) S p4.at_ (fun x v e=>by
  rw [List.lookup_cons] at e
  split at e
  ·cases e;exact ⟨_,rfl⟩
  ·cases e) (st.trans p.stp fun a ha=>new ha) r fun φ5 h5 x5 at5 st5=>?_
 refine wpAny_execs_nil ?_
 have er:((evBk (evM prog w (LIx w.params) (G1 w.params n (l1++lf)) 40 40) [stAt w.params 1085 4] ⟨[("tree", .tr (.su a b))],[],[]⟩).map fun r=>(r.1,r.2.1.ab,r.2.2))=some (.ok (.ret (.ls (l1++lf))),⟨[("tree", .tr (.su a b))],[]⟩,[]):=by kernel_rfl
 refine semB_run (Γ:=G1 w.params n (l1++lf)) (σ:=⟨[("tree", .tr (.su a b))],[],[]⟩) P0 er A _ cl L F outer ⟨S.ok,S.fr,S.fe,S.kd⟩ φ5 [] _ at5 _ _ (fun b φ' ca' g s' eb p6 r=>?_) (fun c φ' ca' v' s' eo=>n_oe eo)
 cases eb
 exact r.ret_inv.elim fun u q=>by rw [q.1];exact k φ' _ ca' _ s' (st5.trans p6.stp (fun a ha=>new ha)) p6.at_.hp ((p.same.trans ⟨rfl,rfl,rfl⟩).trans p6.same) q.2
theorem names_con:∀ t:T,t.nn→t.sz<1000000→∀ n,Con prog w (LIx w.params) (n+3 * t.ht+3) (.fn 1085) [] [.tr t] [] (.ok (.ls t.names)) []
 | .n s,_,_,n=>names_n _ s
 | .ni _,h,_,n=>h.elim
 | .rex,_,_,n=>names_rex _
 | .tom,_,_,n=>names_tom _
 | .mo t,h,hz,n=>by
  have:=names_con t h hz n
  exact (names_mo this).mono (mx3 ..)
 | .fa t,h,hz,n=>by
  have:=names_con t h hz n
  exact (names_fa this).mono (mx3 ..)
 | .su a b,h,hz,n=>by
  have z:a.sz+b.sz<1000000:=hz
  have g1:=a.names_len
  have g2:=b.names_len
  have c1:=names_con a h.1 (ltL z) n
  have c2:=names_con b h.2 (ltR z) n
  exact (names_su (n:=n+3 * max a.ht b.ht+3) (c1.mono (mxL ..)) (c2.mono (mxR ..)) (lt2 z g1 g2)).mono (mx3 ..)
end
theorem trK_put (x:Str) (e:T) (d:List (Str×T)):putK (trK d) x (.tr e)=trK (putK d x e):=by
 unfold putK
 have h:((trK d).any fun kv=>kv.1=x)=(d.any fun kv=>kv.1=x):=by
  rw [List.any_map];rfl
 rw [h]
 split
 ·show List.map _ (List.map _ d)=List.map _ (List.map _ d)
  rw [List.map_map,List.map_map]
  apply List.map_congr_left
  intro p _
  show (if p.1=x then (p.1,V.tr e) else (p.1,V.tr p.2))=((if p.1=x then (p.1,e) else p).1,V.tr (if p.1=x then (p.1,e) else p).2)
  by_cases h:p.1=x
  ·rw [if_pos h,if_pos h]
  ·rw [if_neg h,if_neg h]
 ·show List.map _ d++_=List.map _ (d++[(x,e)])
  rw [List.map_append];rfl
noncomputable abbrev pv (p:T×T):V:=.tup [.tr p.1,.tr p.2]
noncomputable abbrev pvs (l:List (T×T)):List V:=l.map pv
noncomputable abbrev soL (a b:T):List (Str×V):=[("pairs", .cell 1),("bound", .cell 0),("other", .tr b),("one", .tr a)]
noncomputable abbrev soC (bd:List (Str×T)) (ps:List (T×T)):List Cell:=[.dict (trK bd),.list (pvs ps)]
theorem so_ok (P:Params):whO (stAt P 1092 2)=true:=by kernel_rfl
theorem weakP {loc:List (Str×V)}:∀ (pre:List (Str×V)),(pre.all fun p=>(loc.lookup p.1).isNone)=true→∀ y u,loc.lookup y=some u→(pre++loc).lookup y=some u
 | [],_,y,u,h=>h
 | p::pre,h0,y,u,h=>by
  rw [List.all_cons,Bool.and_eq_true] at h0
  rw [List.cons_append,List.lookup_cons]
  cases q:(y==p.1) with
  | false=>exact weakP pre h0.2 y u h
  | true =>
   have e:=Option.isNone_iff_eq_none.mp h0.1
   rw [eq_of_beq q,e] at h
   cases h
theorem allP_app:∀ {a b:List Prop},AllP a→AllP b→AllP (a++b)
 | [],_,_,h=>h
 | _::_,_,⟨x,y⟩,h=>⟨x,allP_app y h⟩
section
variable {prog:Program} {w:World} {LI:Nat→Option LamInfo}
noncomputable abbrev soT (bd:List (Str×T)) (ps:List (T×T)) (l r l' r':T) (b:Bool):List Tr:=[.pop (pvs ps) (pv (l,r)),.cc 0 (.ok (.tr l')) (.dict (trK bd)),.cc 0 (.ok (.tr r')) (.dict (trK bd)),.b b]
noncomputable abbrev soP (prog:Program) (w:World) (LI:Nat→Option LamInfo) (N:Nat) (bd:List (Str×T)) (ps:List (T×T)) (l r l' r':T) (b:Bool):List Prop :=
 [pvs (ps++[(l,r)])=pvs ps++[pv (l,r)],(pvs (ps++[(l,r)])).length<1000000,Fc prog w LI N bd l l',CloC (.dict (trK bd)),CloC (.dict (trK bd)),Fc prog w LI N bd r r',CloC (.dict (trK bd)),CloC (.dict (trK bd)),TrOk l',TrOk r',(!l'.eq r')=b]
theorem soP_ok {N:Nat} {bd:List (Str×T)} {ps:List (T×T)} {l r l' r':T} {b:Bool} (hl:ps.length<999999) (h1:Fc prog w LI N bd l l') (h2:Fc prog w LI N bd r r') (o1:TrOk l') (o2:TrOk r') (hb:(!l'.eq r')=b):AllP (soP prog w LI N bd ps l r l' r' b) :=
 PC (by rw [pvs,List.map_append];rfl) (PC (by rw [List.length_map,List.length_append];show ps.length+1<_;omega) (PC h1 (PC (clo_trK bd) (PC (clo_trK bd) (PC h2 (PC (clo_trK bd) (PC (clo_trK bd) (PC o1 (PC o2 (PC hb P0))))))))))
noncomputable abbrev soB (w:World):List Stmt:=whB (stAt w.params 1092 2)
noncomputable abbrev preL (l r l' r':T):List (Str×V):=[("right", .tr r'),("left", .tr l'),("right", .tr r),("left", .tr l)]
noncomputable abbrev Turn (prog:Program) (w:World) (LI:Nat→Option LamInfo) (N:Nat) (a b:T) (bd:List (Str×T)) (ps:List (T×T)) (l r:T) (out:Res Fl) (pre:List (Str×V)) (bd':List (Str×T)) (ps':List (T×T)):Prop :=
 SemB prog w LI (Gf w.params N 1092) (soB w) ⟨soL a b,soC bd (ps++[(l,r)])⟩ out ⟨pre++soL a b,soC bd' ps'⟩
variable {N:Nat} {a b:T} {bd:List (Str×T)} {ps:List (T×T)} {l r l' r' t x y x2 y2:T} {s:Str}
noncomputable abbrev soW (a b:T) (bd:List (Str×T)) (ps:List (T×T)) (l r l' r':T) (b':Bool):Wt:=⟨soL a b,soC bd (ps++[(l,r)]),soT bd ps l r l' r' b'⟩
theorem so_eq (hp:AllP (soP prog w LI N bd ps l r l' r' false)):Turn prog w LI N a b bd ps l r (.ok .next) (preL l r l' r') bd ps :=
 semB_run (σ:=⟨soL a b,soC bd (ps++[(l,r)]),soT bd ps l r l' r' false⟩) hp (by kernel_rfl)
abbrev RN' (prog:Program) (w:World) (LI:Nat→Option LamInfo) (N:Nat) (a b:T) (bd:List (Str×T)) (ps:List (T×T)) (l r l' r' t:T) (s:Str) (ans:Bool) (out:Res Fl) (C:List Cell) (P:List Prop):Prop :=
 ((evBk (evM prog w LI (Gf w.params N 1092) 40 40) (soB w) ⟨soL a b,soC bd (ps++[(l,r)]),soT bd ps l r l' r' true++[.c (.ok (.ls t.names)),.b ans]⟩).map fun r=>(r.1,r.2.1.ab,r.2.2)) =
  some (out,⟨(("term", .tr t)::("name", .str s)::preL l r l' r':List (Str×V))++soL a b,C⟩,soP prog w LI N bd ps l r l' r' true++Con prog w LI N (.fn 1085) [] [.tr t] [] (.ok (.ls t.names)) []::(t.names.any (·==s)=ans)::P)
abbrev RN (prog:Program) (w:World) (LI:Nat→Option LamInfo) (N:Nat) (a b:T) (bd:List (Str×T)) (ps:List (T×T)) (l r l' r' t:T) (s:Str):Prop :=
 AllP (soP prog w LI N bd ps l r l' r' true)→Con prog w LI N (.fn 1085) [] [.tr t] [] (.ok (.ls t.names)) []→bd.length<1000000 →
  (t.names.any (·==s)=true→Turn prog w LI N a b bd ps l r (.ok (.ret .none)) (("term", .tr t)::("name", .str s)::preL l r l' r') bd ps) ∧
  (t.names.any (·==s)=false→Turn prog w LI N a b bd ps l r (.ok .next) (("term", .tr t)::("name", .str s)::preL l r l' r') (putK bd s t) ps)
theorem rn_of (e1:RN' prog w LI N a b bd ps l r l' r' t s true (.ok (.ret .none)) (soC bd ps) []) (e2:RN' prog w LI N a b bd ps l r l' r' t s false (.ok .next) [.dict (putK (trK bd) s (.tr t)),.list (pvs ps)] [(trK bd).length<1000000]):RN prog w LI N a b bd ps l r l' r' t s:=fun hp hn hb =>
 ⟨fun h=>semB_run (allP_app hp (P2 hn h)) e1,fun h=>by
  unfold Turn
  rw [show soC (putK bd s t) ps=[.dict (putK (trK bd) s (.tr t)),.list (pvs ps)] from by rw [trK_put]]
  exact semB_run (allP_app hp (P3 hn h (by rw [List.length_map];exact hb))) e2⟩
abbrev Nf (s:Str):Prop:=(∃ x,s=⟨#[x]⟩)∨∃ x y,s=⟨#[x,y]⟩
theorem so_ln (hs:Nf s):RN prog w LI N a b bd ps l r (.n s) r' r' s:=by rcases hs with ⟨x,rfl⟩ | ⟨x,y,rfl⟩<;>exact rn_of (by kernel_rfl) (by kernel_rfl)
theorem so_rn_rex (hs:Nf s):RN prog w LI N a b bd ps l r .rex (.n s) .rex s:=by rcases hs with ⟨x,rfl⟩ | ⟨x,y,rfl⟩<;>exact rn_of (by kernel_rfl) (by kernel_rfl)
theorem so_rn_tom (hs:Nf s):RN prog w LI N a b bd ps l r .tom (.n s) .tom s:=by rcases hs with ⟨x,rfl⟩ | ⟨x,y,rfl⟩<;>exact rn_of (by kernel_rfl) (by kernel_rfl)
theorem so_rn_mo (hs:Nf s):RN prog w LI N a b bd ps l r (.mo x) (.n s) (.mo x) s:=by rcases hs with ⟨x,rfl⟩ | ⟨x,y,rfl⟩<;>exact rn_of (by kernel_rfl) (by kernel_rfl)
theorem so_rn_fa (hs:Nf s):RN prog w LI N a b bd ps l r (.fa x) (.n s) (.fa x) s:=by rcases hs with ⟨x,rfl⟩ | ⟨x,y,rfl⟩<;>exact rn_of (by kernel_rfl) (by kernel_rfl)
theorem so_rn_su (hs:Nf s):RN prog w LI N a b bd ps l r (.su x x2) (.n s) (.su x x2) s:=by rcases hs with ⟨x,rfl⟩ | ⟨x,y,rfl⟩<;>exact rn_of (by kernel_rfl) (by kernel_rfl)
end
noncomputable def ifE:Stmt→List Stmt
 | .If _ _ o _=>o
 | _=>[]
noncomputable def rgS (P:Params):Stmt:=(ifE ((ifE ((ifS ((whB (stAt P 1092 2)).getLastD (.Pass default))).headD (.Pass default))).headD (.Pass default))).headD (.Pass default)
theorem rg_ok (P:Params):(forOk (rgS P)&&isName "k" (forT (rgS P))&&isRg (rgArgs (forI (rgS P))) (forI (rgS P)))=true:=by kernel_rfl
theorem rg_l (P:Params) (n:Nat):(Gf P n 1092).cs.names.lookup ("k": Str)=some NameKind.local∧(Gf P n 1092).cs.names.lookup ("range": Str)=some NameKind.globalImplicit:=by
 refine ⟨?_,?_⟩<;>kernel_rfl
section
variable {prog:Program} {w:World} {LI:Nat→Option LamInfo}
theorem soC_app (bd:List (Str×T)) (ps:List (T×T)) (x y:T):soC bd (ps++[(x,y)])=[.dict (trK bd),.list (pvs ps++[pv (x,y)])]:=by
 show [Cell.dict (trK bd),.list (List.map pv (ps++[(x,y)]))]=_
 rw [List.map_append];rfl
theorem rg_range {N:Nat} {loc:List (Str×V)} {cs:List Cell} {n:Nat} {ps:List Prop} {out:Ab} (hn:1+n<100000)
  (e:(evS (evN prog w LI (Gf w.params N 1092) 40).1 (rgArgs (forI (rgS w.params))) ⟨loc,cs,[]⟩).map (fun r=>(r.1,r.2.1.ab,r.2.2))=some (.ok [.int (1:Nat),.int ((1+n:Nat):Int)],⟨loc,cs⟩,ps)) (hp:AllP ps)
  (lp:Loop prog w LI (Gf w.params N 1092) (fun v=>[("k", v)]) (forB (rgS w.params)) (rngV 1 n) ⟨loc,cs⟩ (.ok .next) out):SemS prog w LI (Gf w.params N 1092) (rgS w.params) ⟨loc,cs⟩ (.ok .next) out:=by
 have ok:=rg_ok w.params
 rw [Bool.and_eq_true,Bool.and_eq_true] at ok
 obtain ⟨l1,l2⟩:=rg_l w.params N
 exact range_st (σ:=⟨loc,cs,[]⟩) ok.1.1 ok.1.2 l1 l2 ok.2 hn e hp lp
theorem rg_mo {N:Nat} {a b l r x y:T} {bd:List (Str×T)} {ps:List (T×T)} (hl:ps.length<999999):SemS prog w LI (Gf w.params N 1092) (rgS w.params) ⟨preL l r (.mo x) (.mo y)++soL a b,soC bd ps⟩ (.ok .next) ⟨preL l r (.mo x) (.mo y)++soL a b,soC bd (ps++[(x,y)])⟩:=by
 have h1:SemB prog w LI (Gf w.params N 1092) (forB (rgS w.params)) ⟨("k", .int 1)::(preL l r (.mo x) (.mo y)++soL a b),soC bd ps⟩ (.ok .next) ⟨("k", .int 1)::(preL l r (.mo x) (.mo y)++soL a b),soC bd (ps++[(x,y)])⟩:=by
  rw [soC_app]
  exact semB_run (σ:=⟨("k", .int 1)::(preL l r (.mo x) (.mo y)++soL a b),soC bd ps,[]⟩) (P1 (show (pvs ps).length<1000000 by rw [List.length_map];omega)) (by kernel_rfl)
 exact rg_range (n:=1) (ps:=[2<1000000]) (by omega) (by kernel_rfl) (P1 (by decide)) (Loop.next h1 (.inl rfl) (weak1 (by rfl)) Loop.nil)
theorem rg_fa {N:Nat} {a b l r x y:T} {bd:List (Str×T)} {ps:List (T×T)} (hl:ps.length<999999):SemS prog w LI (Gf w.params N 1092) (rgS w.params) ⟨preL l r (.fa x) (.fa y)++soL a b,soC bd ps⟩ (.ok .next) ⟨preL l r (.fa x) (.fa y)++soL a b,soC bd (ps++[(x,y)])⟩:=by
 have h1:SemB prog w LI (Gf w.params N 1092) (forB (rgS w.params)) ⟨("k", .int 1)::(preL l r (.fa x) (.fa y)++soL a b),soC bd ps⟩ (.ok .next) ⟨("k", .int 1)::(preL l r (.fa x) (.fa y)++soL a b),soC bd (ps++[(x,y)])⟩:=by
  rw [soC_app]
  exact semB_run (σ:=⟨("k", .int 1)::(preL l r (.fa x) (.fa y)++soL a b),soC bd ps,[]⟩) (P1 (show (pvs ps).length<1000000 by rw [List.length_map];omega)) (by kernel_rfl)
 exact rg_range (n:=1) (ps:=[2<1000000]) (by omega) (by kernel_rfl) (P1 (by decide)) (Loop.next h1 (.inl rfl) (weak1 (by rfl)) Loop.nil)
theorem rg_su {N:Nat} {a b l r x y x2 y2:T} {bd:List (Str×T)} {ps:List (T×T)} (hl:ps.length<999998):SemS prog w LI (Gf w.params N 1092) (rgS w.params) ⟨preL l r (.su x x2) (.su y y2)++soL a b,soC bd ps⟩ (.ok .next) ⟨preL l r (.su x x2) (.su y y2)++soL a b,soC bd (ps++[(x,y),(x2,y2)])⟩:=by
 have h1:SemB prog w LI (Gf w.params N 1092) (forB (rgS w.params)) ⟨("k", .int 1)::(preL l r (.su x x2) (.su y y2)++soL a b),soC bd ps⟩ (.ok .next) ⟨("k", .int 1)::(preL l r (.su x x2) (.su y y2)++soL a b),soC bd (ps++[(x,y)])⟩:=by
  rw [soC_app]
  exact semB_run (σ:=⟨("k", .int 1)::(preL l r (.su x x2) (.su y y2)++soL a b),soC bd ps,[]⟩) (P1 (show (pvs ps).length<1000000 by rw [List.length_map];omega)) (by kernel_rfl)
 have h2:SemB prog w LI (Gf w.params N 1092) (forB (rgS w.params)) ⟨("k", .int 2)::(preL l r (.su x x2) (.su y y2)++soL a b),soC bd (ps++[(x,y)])⟩ (.ok .next) ⟨("k", .int 2)::(preL l r (.su x x2) (.su y y2)++soL a b),soC bd (ps++[(x,y),(x2,y2)])⟩:=by
  rw [show ps++[(x,y),(x2,y2)]=(ps++[(x,y)])++[(x2,y2)] by rw [List.append_assoc];rfl,soC_app bd (ps++[(x,y)]) x2 y2]
  exact semB_run (σ:=⟨("k", .int 2)::(preL l r (.su x x2) (.su y y2)++soL a b),soC bd (ps++[(x,y)]),[]⟩) (P1 (show (pvs (ps++[(x,y)])).length<1000000 by rw [List.length_map,List.length_append];show ps.length+1<_;omega)) (by kernel_rfl)
 exact rg_range (n:=2) (ps:=[3<1000000]) (by omega) (by kernel_rfl) (P1 (by decide)) (Loop.next h1 (.inl rfl) (weak1 (by rfl)) (Loop.next h2 (.inl rfl) (weak1 (by rfl)) Loop.nil))
theorem so_mo {N:Nat} {a b:T} {bd:List (Str×T)} {ps:List (T×T)} {l r x y:T} (hl:ps.length<999998) (hp:AllP (soP prog w LI N bd ps l r (.mo x) (.mo y) true)):Turn prog w LI N a b bd ps l r (.ok .next) (preL l r (.mo x) (.mo y)) bd (ps++[(x,y)]) :=
 semB_run (σ:=⟨soL a b,soC bd (ps++[(l,r)]),soT bd ps l r (.mo x) (.mo y) true++[.st (.ok .next) (preL l r (.mo x) (.mo y)++soL a b) (soC bd (ps++[(x,y)]))]⟩) (allP_app hp (P1 (rg_mo (prog:=prog) (w:=w) (LI:=LI) (N:=N) (a:=a) (b:=b) (l:=l) (r:=r) (x:=x) (y:=y) (bd:=bd) (ps:=ps) (by omega)))) (by kernel_rfl)
theorem so_fa {N:Nat} {a b:T} {bd:List (Str×T)} {ps:List (T×T)} {l r x y:T} (hl:ps.length<999998) (hp:AllP (soP prog w LI N bd ps l r (.fa x) (.fa y) true)):Turn prog w LI N a b bd ps l r (.ok .next) (preL l r (.fa x) (.fa y)) bd (ps++[(x,y)]) :=
 semB_run (σ:=⟨soL a b,soC bd (ps++[(l,r)]),soT bd ps l r (.fa x) (.fa y) true++[.st (.ok .next) (preL l r (.fa x) (.fa y)++soL a b) (soC bd (ps++[(x,y)]))]⟩) (allP_app hp (P1 (rg_fa (prog:=prog) (w:=w) (LI:=LI) (N:=N) (a:=a) (b:=b) (l:=l) (r:=r) (x:=x) (y:=y) (bd:=bd) (ps:=ps) (by omega)))) (by kernel_rfl)
theorem so_su {N:Nat} {a b:T} {bd:List (Str×T)} {ps:List (T×T)} {l r x y x2 y2:T} (hl:ps.length<999998) (hp:AllP (soP prog w LI N bd ps l r (.su x x2) (.su y y2) true)):Turn prog w LI N a b bd ps l r (.ok .next) (preL l r (.su x x2) (.su y y2)) bd (ps++[(x,y),(x2,y2)]) :=
 semB_run (σ:=⟨soL a b,soC bd (ps++[(l,r)]),soT bd ps l r (.su x x2) (.su y y2) true++[.st (.ok .next) (preL l r (.su x x2) (.su y y2)++soL a b) (soC bd (ps++[(x,y),(x2,y2)]))]⟩) (allP_app hp (P1 (rg_su (prog:=prog) (w:=w) (LI:=LI) (N:=N) (a:=a) (b:=b) (l:=l) (r:=r) (x:=x) (y:=y) (x2:=x2) (y2:=y2) (bd:=bd) (ps:=ps) hl))) (by kernel_rfl)
end
noncomputable def T.nm?:T→Option Str
 | .n s=>some s
 | _=>none
noncomputable def kids (l r:T):Option (List (T×T)):=match l with
 | .mo x=>(match r with | .mo y=>some [(x,y)] | _=>none)
 | .fa x=>(match r with | .fa y=>some [(x,y)] | _=>none)
 | .su x x2=>(match r with | .su y y2=>some [(x,y),(x2,y2)] | _=>none)
 | _=>none
noncomputable def sstep (bd:List (Str×T)) (ps:List (T×T)) (l r:T):Option (List (Str×T)×List (T×T)):=if l.eq r then some (bd,ps) else match l.nm? with
 | some s=>if r.names.any (·==s) then none else some (putK bd s r,ps)
 | none=>match r.nm? with
  | some s=>if l.names.any (·==s) then none else some (putK bd s l,ps)
  | none=>(kids l r).map fun k=>(bd,ps++k)
def okCh (s:Str):Bool:=match s.cps.toList with
 | [_]=>true
 | [_,_]=>true
 | _=>false
theorem nm_all:nameL.all okCh=true:=by kernel_rfl
theorem nm_form {s:Str} (h:s∈nameL):(∃ x,s=⟨#[x]⟩)∨∃ x y,s=⟨#[x,y]⟩:=by
 have q:=List.all_eq_true.mp nm_all s h
 unfold okCh at q
 split at q
 ·rename_i x e
  exact .inl ⟨x,by cases s;exact congrArg Str.mk (Array.ext' e)⟩
 ·rename_i x y e
  exact .inr ⟨x,y,by cases s;exact congrArg Str.mk (Array.ext' e)⟩
 ·cases q
theorem ok_nn:∀ t:T,t.ok→t.nn
 | .n _,_=>trivial
 | .ni _,h=>h
 | .rex,_=>trivial
 | .tom,_=>trivial
 | .mo t,h=>ok_nn t h
 | .fa t,h=>ok_nn t h
 | .su a b,h=>⟨ok_nn a h.1,ok_nn b h.2⟩
structure T.Fit (t:T):Prop where
 ok:t.ok
 sz:t.sz<1000000
 dp:t.dp≤64
 ht:t.ht≤20
section
variable {prog:Program} {w:World} {N:Nat} {a b:T} {bd bd1:List (Str×T)} {ps ps1:List (T×T)} {l r:T}
abbrev TO (prog:Program) (w:World) (N:Nat) (a b:T) (bd:List (Str×T)) (ps:List (T×T)) (l r:T) (sn:Option (List (Str×T)×List (T×T))):Prop :=
 (∀ bd' ps',sn=some (bd',ps')→∃ pre,((pre.all fun p=>((soL a b).lookup p.1).isNone)=true)∧Turn prog w (LIx w.params) N a b bd ps l r (.ok .next) pre bd' ps') ∧
  (sn=none→∃ pre,Turn prog w (LIx w.params) N a b bd ps l r (.ok (.ret .none)) pre bd ps)
theorem TO.no {pre:List (Str×V)} (h:Turn prog w (LIx w.params) N a b bd ps l r (.ok (.ret .none)) pre bd ps):TO prog w N a b bd ps l r none:=⟨fun _ _ e=>nsm rfl e,fun _=>⟨_,h⟩⟩
theorem TO.yes {pre:List (Str×V)} (h:Turn prog w (LIx w.params) N a b bd ps l r (.ok .next) pre bd1 ps1) (k:(pre.all fun p=>((soL a b).lookup p.1).isNone)=true):TO prog w N a b bd ps l r (some (bd1,ps1)) :=
 ⟨fun bd' ps' e=>by
  have q:=Option.some.inj e
  rw [←show bd1=bd' from congrArg (·.1) q,← show ps1=ps' from congrArg (·.2) q]
  exact ⟨_,k,h⟩,fun e=>nsm e rfl⟩
theorem TO.ite {c:Bool} {pre pre':List (Str×V)} (h:(c=true→Turn prog w (LIx w.params) N a b bd ps l r (.ok (.ret .none)) pre bd ps)∧(c=false→Turn prog w (LIx w.params) N a b bd ps l r (.ok .next) pre' bd1 ps1)) (k:(pre'.all fun p=>((soL a b).lookup p.1).isNone)=true):TO prog w N a b bd ps l r (if c=true then none else some (bd1,ps1)):=by
 cases c with
 | true=>exact .no (h.1 rfl)
 | false=>exact .yes (h.2 rfl) k
theorem so_cl (l' r':T) (hp:AllP (soP prog w (LIx w.params) N bd ps l r l' r' true)) (e:((evBk (evM prog w (LIx w.params) (Gf w.params N 1092) 40 40) (soB w) (soW a b bd ps l r l' r' true)).map fun r=>(r.1,r.2.1.ab,r.2.2))=some (.ok (.ret .none),⟨preL l r l' r'++soL a b,soC bd ps⟩,soP prog w (LIx w.params) N bd ps l r l' r' true)):TO prog w N a b bd ps l r none :=
 .no (semB_run hp e)
theorem so_turn (hN:66≤N) {l' r':T} (h1:Fc prog w (LIx w.params) N bd l l') (h2:Fc prog w (LIx w.params) N bd r r') (f1:l'.Fit) (f2:r'.Fit) (hb:bd.length<1000000) (hl:ps.length<900000):TO prog w N a b bd ps l r (sstep bd ps l' r'):=by
 have up:∀ {h:Nat},h≤20→0+3 * h+3≤N:=fun h=>Nat.le_trans (Nat.add_le_add_right (Nat.add_le_add_left (Nat.mul_le_mul_left 3 h) 0) 3) (Nat.le_trans (by decide) hN)
 have nl:Con prog w (LIx w.params) N (.fn 1085) [] [.tr l'] [] (.ok (.ls l'.names)) []:=(names_con l' (ok_nn _ f1.ok) f1.sz 0).mono (up f1.ht)
 have nr:Con prog w (LIx w.params) N (.fn 1085) [] [.tr r'] [] (.ok (.ls r'.names)) []:=(names_con r' (ok_nn _ f2.ok) f2.sz 0).mono (up f2.ht)
 have hl:ps.length<999998:=Nat.lt_trans hl (by decide)
 have d1:TrOk l':=f1.dp
 have d2:TrOk r':=f2.dp
 have o1:=f1.ok
 have o2:=f2.ok
 clear f1 f2
 unfold sstep
 cases q:l'.eq r' with
 | true=>exact .yes (so_eq (soP_ok (Nat.lt_succ_of_lt hl) h1 h2 d1 d2 (by rw [q];rfl))) (by rfl)
 | false =>
  have hp:AllP (soP prog w (LIx w.params) N bd ps l r l' r' true):=soP_ok (Nat.lt_succ_of_lt hl) h1 h2 d1 d2 (by rw [q];rfl)
  cases l' with
  | n s=>exact .ite (c:=r'.names.any (·==s)) (so_ln (nm_form o1) hp nr hb) (by rfl)
  | ni k=>exact o1.elim
  | rex =>
   cases r' with
   | n s=>exact .ite (c:=(T.names .rex).any (·==s)) (so_rn_rex (nm_form o2) hp nl hb) (by rfl)
   | ni k=>exact o2.elim
   | rex=>exact absurd q (show ¬ (true=false) by decide)
   | tom=>exact so_cl .rex .tom hp (by kernel_rfl)
   | mo y=>exact so_cl .rex (.mo y) hp (by kernel_rfl)
   | fa y=>exact so_cl .rex (.fa y) hp (by kernel_rfl)
   | su y y2=>exact so_cl .rex (.su y y2) hp (by kernel_rfl)
  | tom =>
   cases r' with
   | n s=>exact .ite (c:=(T.names .tom).any (·==s)) (so_rn_tom (nm_form o2) hp nl hb) (by rfl)
   | ni k=>exact o2.elim
   | rex=>exact so_cl .tom .rex hp (by kernel_rfl)
   | tom=>exact absurd q (show ¬ (true=false) by decide)
   | mo y=>exact so_cl .tom (.mo y) hp (by kernel_rfl)
   | fa y=>exact so_cl .tom (.fa y) hp (by kernel_rfl)
   | su y y2=>exact so_cl .tom (.su y y2) hp (by kernel_rfl)
  | mo x =>
   cases r' with
   | n s=>exact .ite (c:=(T.names (.mo x)).any (·==s)) (so_rn_mo (nm_form o2) hp nl hb) (by rfl)
   | ni k=>exact o2.elim
   | rex=>exact so_cl (.mo x) .rex hp (by kernel_rfl)
   | tom=>exact so_cl (.mo x) .tom hp (by kernel_rfl)
   | mo y=>exact .yes (so_mo hl hp) (by rfl)
   | fa y=>exact so_cl (.mo x) (.fa y) hp (by kernel_rfl)
   | su y y2=>exact so_cl (.mo x) (.su y y2) hp (by kernel_rfl)
  | fa x =>
   cases r' with
   | n s=>exact .ite (c:=(T.names (.fa x)).any (·==s)) (so_rn_fa (nm_form o2) hp nl hb) (by rfl)
   | ni k=>exact o2.elim
   | rex=>exact so_cl (.fa x) .rex hp (by kernel_rfl)
   | tom=>exact so_cl (.fa x) .tom hp (by kernel_rfl)
   | mo y=>exact so_cl (.fa x) (.mo y) hp (by kernel_rfl)
   | fa y=>exact .yes (so_fa hl hp) (by rfl)
   | su y y2=>exact so_cl (.fa x) (.su y y2) hp (by kernel_rfl)
  | su x x2 =>
   cases r' with
   | n s=>exact .ite (c:=(T.names (.su x x2)).any (·==s)) (so_rn_su (nm_form o2) hp nl hb) (by rfl)
   | ni k=>exact o2.elim
   | rex=>exact so_cl (.su x x2) .rex hp (by kernel_rfl)
   | tom=>exact so_cl (.su x x2) .tom hp (by kernel_rfl)
   | mo y=>exact so_cl (.su x x2) (.mo y) hp (by kernel_rfl)
   | fa y=>exact so_cl (.su x x2) (.fa y) hp (by kernel_rfl)
   | su y y2=>exact .yes (so_su hl hp) (by rfl)
end
inductive SolveR (kf:Nat) (out:Option (List (Str×T))):Nat→List (Str×T)→List (T×T)→Prop
 | done {k bd}:out=some bd→bd.length<1000000→SolveR kf out k bd []
 | step {k bd ps l r l' r' bd' ps'}:fill bd kf l=some l'→fill bd kf r=some r'→l'.Fit→r'.Fit→bd.length<1000000→ps.length<900000→sstep bd ps l' r'=some (bd',ps')→SolveR kf out k bd' ps'→SolveR kf out (k+1) bd (ps++[(l,r)])
 | fail {k bd ps l r l' r'}:fill bd kf l=some l'→fill bd kf r=some r'→l'.Fit→r'.Fit→bd.length<1000000→ps.length<900000→sstep bd ps l' r'=none→out=none→SolveR kf out k bd (ps++[(l,r)])
section
variable {prog:Program} {w:World}
theorem so_test {N:Nat} {a b:T} {bd:List (Str×T)} {ps:List (T×T)} {t:Bool} (hl:ps.length<1000000) (h:decide ((0:Int)<(((pvs ps).length:Nat):Int))=t):TestIs prog w (LIx w.params) (Gf w.params N 1092) (whT (stAt w.params 1092 2)) ⟨soL a b,soC bd ps⟩ t :=
 ⟨[.b t],[(pvs ps).length<1000000,decide ((0:Int)<(((pvs ps).length:Nat):Int))=t],by kernel_rfl,P2 (by rw [List.length_map];exact hl) h⟩
theorem so_while {N kf:Nat} (hN:66+3 * kf≤N) {a b:T} {out:Option (List (Str×T))}:∀ (k:Nat) (bd:List (Str×T)) (ps:List (T×T)),SolveR kf out k bd ps →
  (∀ bd',out=some bd'→WhileN prog w (LIx w.params) (Gf w.params N 1092) (whT (stAt w.params 1092 2)) (whB (stAt w.params 1092 2)) (.ok .next) ⟨soL a b,soC bd' []⟩ k ⟨soL a b,soC bd ps⟩) ∧
  (out=none→∃ loc cs,WhileN prog w (LIx w.params) (Gf w.params N 1092) (whT (stAt w.params 1092 2)) (whB (stAt w.params 1092 2)) (.ok (.ret .none)) ⟨loc,cs⟩ k ⟨soL a b,soC bd ps⟩):=by
 have hN':66≤N:=Nat.le_trans (Nat.le_add_right ..) hN
 intro k bd ps h
 induction h with
 | done e _ =>
  subst e
  exact ⟨fun bd' e=>by cases e;exact .stop (so_test (by decide) (by rfl)) rfl,fun e=>by cases e⟩
 | @step k bd ps l r l' r' bd' ps' f1 f2 g1 g2 hb hl hs _ ih =>
  have c1:Fc prog w (LIx w.params) N bd l l':=(fill_con (prog:=prog) (w:=w) (LI:=LIx w.params) bd 0 kf l l' f1).mono (by omega)
  have c2:Fc prog w (LIx w.params) N bd r r':=(fill_con (prog:=prog) (w:=w) (LI:=LIx w.params) bd 0 kf r r' f2).mono (by omega)
  obtain ⟨pre,hp,t⟩:=(so_turn (a:=a) (b:=b) hN' c1 c2 g1 g2 hb hl).1 bd' ps' hs
  have ht:TestIs prog w (LIx w.params) (Gf w.params N 1092) (whT (stAt w.params 1092 2)) ⟨soL a b,soC bd (ps++[(l,r)])⟩ true:=so_test (by rw [List.length_append];show ps.length+1<_;omega) (decide_eq_true (by rw [List.length_map,List.length_append];show (0:Int)<((ps.length+1:Nat):Int);omega))
  exact ⟨fun d e=>.turn ht t (weakP pre hp) (ih.1 d e),fun e=>by
   obtain ⟨loc,cs,i⟩:=ih.2 e
   exact ⟨loc,cs,.turn ht t (weakP pre hp) i⟩⟩
 | @fail k bd ps l r l' r' f1 f2 g1 g2 hb hl hs e =>
  have c1:Fc prog w (LIx w.params) N bd l l':=(fill_con (prog:=prog) (w:=w) (LI:=LIx w.params) bd 0 kf l l' f1).mono (by omega)
  have c2:Fc prog w (LIx w.params) N bd r r':=(fill_con (prog:=prog) (w:=w) (LI:=LIx w.params) bd 0 kf r r' f2).mono (by omega)
  obtain ⟨pre,t⟩:=(so_turn (a:=a) (b:=b) hN' c1 c2 g1 g2 hb hl).2 hs
  have ht:TestIs prog w (LIx w.params) (Gf w.params N 1092) (whT (stAt w.params 1092 2)) ⟨soL a b,soC bd (ps++[(l,r)])⟩ true:=so_test (by rw [List.length_append];show ps.length+1<_;omega) (decide_eq_true (by rw [List.length_map,List.length_append];show (0:Int)<((ps.length+1:Nat):Int);omega))
  exact ⟨fun d z=>(by rw [e] at z;cases z),fun _=>⟨_,_,.ret ht t rfl⟩⟩
theorem solved_some {N kf k:Nat} (hN:66+3 * kf≤N) {a b u:T} {bd:List (Str×T)} (h:SolveR kf (some bd) k [] [(a,b)]) (hu:fill bd kf a=some u):Con prog w (LIx w.params) (N+3) (.fn 1092) [] [.tr a,.tr b] [] (.ok (.tr u)) []:=by
 have hw:=(so_while (prog:=prog) (w:=w) (a:=a) (b:=b) hN k _ _ h).1 bd rfl
 have hs:SemS prog w (LIx w.params) (Gf w.params N 1092) (stAt w.params 1092 2) ⟨soL a b,[.dict [],.list [pv (a,b)]]⟩ (.ok .next) ⟨soL a b,soC bd []⟩:=while_st (so_ok w.params) hw
 have c1:Fc prog w (LIx w.params) N bd a u:=(fill_con (prog:=prog) (w:=w) (LI:=LIx w.params) bd 0 kf a u hu).mono (by omega)
 exact (F1092 w.params).ret0 (n:=N) (cs:=soC bd []) (.tr u) [.tr a,.tr b] [.cel,.st (.ok .next) (soL a b) (soC bd []),.cc 0 (.ok (.tr u)) (.dict (trK bd))] (PC hs (P3 c1 (clo_trK bd) (clo_trK bd))) (clo_tr _) (Nat.le_refl _) (by rfl) (by kernel_rfl)
theorem solved_none {N kf k:Nat} (hN:66+3 * kf≤N) {a b:T} (h:SolveR kf none k [] [(a,b)]):Con prog w (LIx w.params) (N+3) (.fn 1092) [] [.tr a,.tr b] [] (.ok .none) []:=by
 obtain ⟨loc,cs,hw⟩:=(so_while (prog:=prog) (w:=w) (a:=a) (b:=b) hN k _ _ h).2 rfl
 have hs:SemS prog w (LIx w.params) (Gf w.params N 1092) (stAt w.params 1092 2) ⟨soL a b,[.dict [],.list [pv (a,b)]]⟩ (.ok (.ret .none)) ⟨loc,cs⟩:=while_st (so_ok w.params) hw
 exact (F1092 w.params).ret0 (n:=N) (cs:=cs) .none [.tr a,.tr b] [.cel,.st (.ok (.ret .none)) loc cs] (P1 hs) (clo0_clo rfl) (Nat.le_refl _) (by rfl) (by kernel_rfl)
end
section
open Sem (wp) in
theorem execs_app {M:Model} {Γ:Ctx} {env:Env} {b2:List Stmt} {Q:Flow→Shared→Prop} {E:Value→Shared→Prop}:∀ (b1:List Stmt) (p:Pos) (s:Shared),wp M Γ (execs b1 env) (fun f p' s'=>match f with | .next=>wp M Γ (execs b2 env) (fun a _ s'=>Q a s') (fun e _ s'=>E e s') p' s' | f=>Q f s') (fun e _ s'=>E e s') p s →
  wp M Γ (execs (b1++b2) env) (fun a _ s'=>Q a s') (fun e _ s'=>E e s') p s
 | [],p,s,h=>h
 | st::r,p,s,h=>by
  rw [execs_cons,Sem.wp_bind'] at h
  show wp M Γ (execs (st::(r++b2)) env) _ _ p s
  rw [execs_cons,Sem.wp_bind']
  refine Sem.wp_mono M Γ _ (fun f p' s' h'=>?_) (fun _ _ _ h'=>h') _ _ h
  cases f with
  | next=>exact execs_app r p' s' h'
  | _=>exact h'
section
variable {prog:Program} {w:World} {LI:Nat→Option LamInfo} {Γ:Gam}
theorem SemB.app {b1 b2:List Stmt} {σ σ₁ σ₂:Ab} {out:Res Fl} (h1:SemB prog w LI Γ b1 σ (.ok .next) σ₁) (h2:SemB prog w LI Γ b2 σ₁ out σ₂):SemB prog w LI Γ (b1++b2) σ out σ₂:=by
 intro A a cl L F outer S φ ca s h Q E k1 k2
 have g:wpAny (model prog w) A (execs b1 (eN Γ L a cl)) (fun f s'=>match f with | .next=>wpAny (model prog w) A (execs b2 (eN Γ L a cl)) Q E s' | f=>Q f s') E s:=by
  refine h1 A a cl L F outer S φ ca s h _ _ (fun b φ' ca' g s' eb p r=>?_) (fun c φ' ca' v' s' eo=>by cases eo)
  cases eb
  cases g<;>first | exact r.elim | skip
  exact Goal.after p (h2 A a cl L F outer S φ' ca' s' p.at_) Q E k1 k2
 intro Γ' p hΓ
 refine execs_app b1 p s (Sem.wp_mono _ Γ' _ (fun f p' s' h'=>?_) (fun _ _ _ h'=>h') _ _ (g Γ' p hΓ))
 cases f with
 | next=>exact h' Γ' p' hΓ
 | _=>exact h'
end
theorem weakQ {x:Str} {v v':V} {base:List (Str×V)}:∀ (pre pre2:List (Str×V)),(pre.all fun p=>!(p.1==x)&&(base.lookup p.1).isNone)=true→(pre2.all fun p=>(base.lookup p.1).isNone)=true →
  ∀ y u,((x,v')::base).lookup y=some u→(pre++(x,v')::(pre2++(x,v)::base)).lookup y=some u
 | [],pre2,_,h2,y,u,h=>by
  rw [List.nil_append,List.lookup_cons] at *
  cases q:(y==x) with
  | true=>rw [q] at h;exact h
  | false =>
   rw [q] at h
   show (pre2++(x,v)::base).lookup y=some u
   have hb:base.lookup y=some u:=h
   clear h
   induction pre2 with
   | nil=>rw [List.nil_append,List.lookup_cons,q];exact hb
   | cons p r ih =>
    rw [List.all_cons,Bool.and_eq_true] at h2
    rw [List.cons_append,List.lookup_cons]
    cases z:(y==p.1) with
    | false=>exact ih h2.2
    | true =>
     have e:=Option.isNone_iff_eq_none.mp h2.1
     rw [eq_of_beq z,e] at hb
     cases hb
 | p::pre,pre2,h1,h2,y,u,h=>by
  rw [List.all_cons,Bool.and_eq_true,Bool.and_eq_true] at h1
  rw [List.cons_append,List.lookup_cons]
  cases z:(y==p.1) with
  | false=>exact weakQ pre pre2 h1.2 h2 y u h
  | true =>
   have e:=Option.isNone_iff_eq_none.mp h1.1.2
   have ne:(p.1==x)=false:=by simpa using h1.1.1
   rw [List.lookup_cons,eq_of_beq z,ne] at h
   rw [show base.lookup p.1=none from e] at h
   cases h
end
noncomputable abbrev paB (bo:Bool) (kd:Int) (ns:V):List (Str×V):=[("stack", .cell 0),("both", .bool bo),("tom", .tr .tom),("rex", .tr .rex),("kind", .int kd),("numbers", ns)]
noncomputable abbrev paL (c:Int) (bo:Bool) (kd:Int) (ns:V):List (Str×V):=("count", .int c)::paB bo kd ns
noncomputable abbrev paQ (f g:T) (r k n c:Int) (bo:Bool) (kd:Int) (ns:V):List (Str×V):=("second", .tr g)::("first", .tr f)::("count", .int (c+1))::("rest", .int r)::("k", .int k)::("number", .int n)::paL c bo kd ns
theorem pa_ok (P:Params):(forOk (stAt P 1059 5)&&isName "number" (forT (stAt P 1059 5))&&plainIter (forI (stAt P 1059 5)))=true:=by kernel_rfl
theorem pa_l (P:Params) (n:Nat):(Gf P n 1059).cs.names.lookup ("number": Str)=some NameKind.local:=by kernel_rfl
noncomputable abbrev paF (P:Params):List Stmt:=forB (stAt P 1059 5)
theorem pa_split (P:Params):paF P=(paF P).take 5++(paF P).drop 5:=(List.take_append_drop 5 _).symm
section
variable {prog:Program} {w:World} {LI:Nat→Option LamInfo}
theorem tT:true=true:=rfl
theorem fF:false=false:=rfl
theorem pa_first0 {N:Nat} {n c:Int} {bo:Bool} {ns:V} {st:List (T×T)} {d e:Str} (h1:strAt "0123456789" (c+1)=some d) (h2:strAt "0123456789" (c+1)=some e) (l1:("x": Str).length+d.length≤1000) (l2:("y": Str).length+e.length≤1000) :
  SemB prog w LI (Gf w.params N 1059) ((paF w.params).take 5) ⟨("number", .int n)::paL c bo 0 ns,[.list (pvs st)]⟩ (.ok .next) ⟨paQ (.n (("x": Str)++d)) (.n (("y": Str)++e)) (n.fdiv 8) (n.fmod 8) n c bo 0 ns,[.list (pvs st)]⟩ :=
 semB_run (σ:=⟨("number", .int n)::paL c bo 0 ns,[.list (pvs st)],[.b true,.nm [d],.b true,.nm [e]]⟩) (PC tT (PC h1 (PC l1 (PC tT (P2 h2 l2))))) (by kernel_rfl)
theorem pa_first1 {N:Nat} {n c kd:Int} {bo:Bool} {ns:V} {st:List (T×T)} {d e:Str} (hk:(kd==0)=false) (h1:strAt "xy" ((n.fdiv 8).fmod 2)=some d) (h2:strAt "xy" ((n.fdiv 8).fmod 2)=some e) :
  SemB prog w LI (Gf w.params N 1059) ((paF w.params).take 5) ⟨("number", .int n)::paL c bo kd ns,[.list (pvs st)]⟩ (.ok .next) ⟨paQ (.n d) (.n e) (n.fdiv 8) (n.fmod 8) n c bo kd ns,[.list (pvs st)]⟩ :=
 semB_run (σ:=⟨("number", .int n)::paL c bo kd ns,[.list (pvs st)],[.b false,.nm [d],.b false,.nm [e]]⟩) (PC hk (PC h1 (P2 hk h2))) (by kernel_rfl)
theorem pvs_app (st:List (T×T)) (x y:T):pvs (st++[(x,y)])=pvs st++[pv (x,y)]:=by
 show List.map pv _=_
 rw [List.map_append];rfl
theorem pvs_len (st:List (T×T)):(pvs st).length=st.length:=List.length_map _
theorem len_ok (st:List (T×T)) (h:st.length<1000000):(pvs st).length<1000000:=by rw [pvs_len];exact h
theorem gt_ok (st:List (T×T)) (k:Int) (b:Bool) (h:decide (k<((st.length:Nat):Int))=b):decide (k<(((pvs st).length:Nat):Int))=b:=by rw [pvs_len];exact h
theorem len1p (st:List (T×T)) (p:T×T):(st++[p]).length=st.length+1:=by rw [List.length_append];rfl
theorem lk0 {st:List (T×T)} (h:st.length<900000):(pvs st).length<1000000:=len_ok st (Nat.lt_trans h (by decide))
theorem lk1 (st:List (T×T)) (p:T×T) (h:st.length<900000):(pvs (st++[p])).length<1000000:=len_ok _ (by rw [len1p];omega)
theorem lk2 (st:List (T×T)) (p q:T×T) (h:st.length<900000):(pvs (st++[p]++[q])).length<1000000:=len_ok _ (by rw [len1p,len1p];omega)
theorem gk1 (st:List (T×T)) (p:T×T):decide ((0:Int)<(((pvs (st++[p])).length:Nat):Int))=true:=gt_ok _ 0 true (decide_eq_true (by rw [len1p];omega))
noncomputable abbrev Pair (prog:Program) (w:World) (LI:Nat→Option LamInfo) (N:Nat) (f g:T) (r k n c:Int) (bo:Bool) (kd:Int) (ns:V) (st:List (T×T)) (pre:List (Str×V)) (st':List (T×T)):Prop :=
 SemB prog w LI (Gf w.params N 1059) ((paF w.params).drop 5) ⟨paQ f g r k n c bo kd ns,[.list (pvs st)]⟩ (.ok .next) ⟨pre++paQ f g r k n c bo kd ns,[.list (pvs st')]⟩
variable {N:Nat} {f g:T} {r n c:Int} {bo:Bool} {kd:Int} {ns:V}
theorem pa5fa {st:List (T×T)} {a b:T} (hl:st.length<900000) (h:(r.fmod 4==3)=true):Pair prog w LI N f g r 5 n c bo kd ns (st++[(a,b)]) [("other", V.tr b),("one", V.tr a)] (st++[((.mo a),(.fa b))]):=by
 unfold Pair
 rw [pvs_app st (.mo a) (.fa b)]
 exact semB_run (σ:=⟨paQ f g r 5 n c bo kd ns,[.list (pvs (st++[(a,b)]))],[.b true,.b true,.pop (pvs st) (pv (a,b)),.b true]⟩) (PC tT (PC (lk1 st (a,b) hl) (PC (gk1 st (a,b)) (PC (pvs_app st a b) (PC (lk1 st (a,b) hl) (PC h (P1 (lk0 hl)))))))) (by kernel_rfl)
theorem pa5mo {st:List (T×T)} {a b:T} (hl:st.length<900000) (h:(r.fmod 4==3)=false):Pair prog w LI N f g r 5 n c bo kd ns (st++[(a,b)]) [("other", V.tr b),("one", V.tr a)] (st++[((.mo a),(.mo b))]):=by
 unfold Pair
 rw [pvs_app st (.mo a) (.mo b)]
 exact semB_run (σ:=⟨paQ f g r 5 n c bo kd ns,[.list (pvs (st++[(a,b)]))],[.b true,.b true,.pop (pvs st) (pv (a,b)),.b false]⟩) (PC tT (PC (lk1 st (a,b) hl) (PC (gk1 st (a,b)) (PC (pvs_app st a b) (PC (lk1 st (a,b) hl) (PC h (P1 (lk0 hl)))))))) (by kernel_rfl)
theorem pa6 {st:List (T×T)} {a b a2 b2:T} (hl:st.length<900000):Pair prog w LI N f g r 6 n c bo kd ns (st++[(a2,b2)]++[(a,b)]) [("right", V.tr b2),("left", V.tr a2),("other", V.tr b),("one", V.tr a)] (st++[((.su a2 a),(.su b2 b))]):=by
 unfold Pair
 rw [pvs_app st (.su a2 a) (.su b2 b)]
 exact semB_run (σ:=⟨paQ f g r 6 n c bo kd ns,[.list (pvs (st++[(a2,b2)]++[(a,b)]))],[.b false,.b true,.b true,.pop (pvs (st++[(a2,b2)])) (pv (a,b)),.pop (pvs st) (pv (a2,b2))]⟩) (PC fF (PC tT (PC (lk2 st (a2,b2) (a,b) hl) (PC (gt_ok (st++[(a2,b2)]++[(a,b)]) 1 true (decide_eq_true (by rw [len1p,len1p];omega))) (PC (pvs_app (st++[(a2,b2)]) a b) (PC (lk2 st (a2,b2) (a,b) hl) (PC (pvs_app st a2 b2) (PC (lk1 st (a2,b2) hl) (P1 (lk0 hl)))))))))) (by kernel_rfl)
theorem pa70 {st:List (T×T)} {a b:T} (hl:st.length<900000) (h:((r.fdiv 2).fmod 3==0)=true):Pair prog w LI N f g r 7 n c bo kd ns (st++[(a,b)]) [("way", V.int ((r.fdiv 2).fmod 3)),("other", V.tr b),("one", V.tr a)] (st++[(f,b)]):=by
 unfold Pair
 rw [pvs_app st f b]
 exact semB_run (σ:=⟨paQ f g r 7 n c bo kd ns,[.list (pvs (st++[(a,b)]))],[.b false,.b false,.b true,.b true,.pop (pvs st) (pv (a,b)),.b true]⟩) (PC fF (PC fF (PC tT (PC (lk1 st (a,b) hl) (PC (gk1 st (a,b)) (PC (pvs_app st a b) (PC (lk1 st (a,b) hl) (PC h (P1 (lk0 hl)))))))))) (by kernel_rfl)
theorem pa71 {st:List (T×T)} {a b:T} (hl:st.length<900000) (h:((r.fdiv 2).fmod 3==0)=false) (h2:((r.fdiv 2).fmod 3==1)=true) (hb:bo=true):Pair prog w LI N f g r 7 n c bo kd ns (st++[(a,b)]) [("way", V.int ((r.fdiv 2).fmod 3)),("other", V.tr b),("one", V.tr a)] (st++[(a,g)]):=by
 unfold Pair
 rw [pvs_app st a g]
 exact semB_run (σ:=⟨paQ f g r 7 n c bo kd ns,[.list (pvs (st++[(a,b)]))],[.b false,.b false,.b true,.b true,.pop (pvs st) (pv (a,b)),.b false,.b true,.b true]⟩) (PC fF (PC fF (PC tT (PC (lk1 st (a,b) hl) (PC (gk1 st (a,b)) (PC (pvs_app st a b) (PC (lk1 st (a,b) hl) (PC h (PC h2 (PC hb (P1 (lk0 hl)))))))))))) (by kernel_rfl)
theorem pa72 {st:List (T×T)} {a b:T} (hl:st.length<900000) (h:((r.fdiv 2).fmod 3==0)=false) (h2:((r.fdiv 2).fmod 3==1)=true) (hb:bo=false):Pair prog w LI N f g r 7 n c bo kd ns (st++[(a,b)]) [("way", V.int ((r.fdiv 2).fmod 3)),("other", V.tr b),("one", V.tr a)] (st++[(a,(.mo b))]):=by
 unfold Pair
 rw [pvs_app st a (.mo b)]
 exact semB_run (σ:=⟨paQ f g r 7 n c bo kd ns,[.list (pvs (st++[(a,b)]))],[.b false,.b false,.b true,.b true,.pop (pvs st) (pv (a,b)),.b false,.b true,.b false]⟩) (PC fF (PC fF (PC tT (PC (lk1 st (a,b) hl) (PC (gk1 st (a,b)) (PC (pvs_app st a b) (PC (lk1 st (a,b) hl) (PC h (PC h2 (PC hb (P1 (lk0 hl)))))))))))) (by kernel_rfl)
theorem pa73 {st:List (T×T)} {a b:T} (hl:st.length<900000) (h:((r.fdiv 2).fmod 3==0)=false) (h2:((r.fdiv 2).fmod 3==1)=false):Pair prog w LI N f g r 7 n c bo kd ns (st++[(a,b)]) [("way", V.int ((r.fdiv 2).fmod 3)),("other", V.tr b),("one", V.tr a)] (st++[(a,(.mo b))]):=by
 unfold Pair
 rw [pvs_app st a (.mo b)]
 exact semB_run (σ:=⟨paQ f g r 7 n c bo kd ns,[.list (pvs (st++[(a,b)]))],[.b false,.b false,.b true,.b true,.pop (pvs st) (pv (a,b)),.b false,.b false]⟩) (PC fF (PC fF (PC tT (PC (lk1 st (a,b) hl) (PC (gk1 st (a,b)) (PC (pvs_app st a b) (PC (lk1 st (a,b) hl) (PC h (PC h2 (P1 (lk0 hl))))))))))) (by kernel_rfl)
theorem pa2 {st:List (T×T)} (hl:st.length<900000):Pair prog w LI N f g r 2 n c bo kd ns st [] (st++[(f,.rex)]):=by
 unfold Pair
 rw [pvs_app st f .rex]
 exact semB_run (σ:=⟨paQ f g r 2 n c bo kd ns,[.list (pvs st)],[.b false,.b false,.b false,.b true]⟩) (PC fF (PC fF (PC fF (PC tT (P1 (lk0 hl)))))) (by kernel_rfl)
theorem pa3t {st:List (T×T)} (hl:st.length<900000) (hb:bo=true):Pair prog w LI N f g r 3 n c bo kd ns st [] (st++[(.rex,g)]):=by
 unfold Pair
 rw [pvs_app st .rex g]
 exact semB_run (σ:=⟨paQ f g r 3 n c bo kd ns,[.list (pvs st)],[.b false,.b false,.b false,.b false,.b true,.b true]⟩) (PC fF (PC fF (PC fF (PC fF (PC tT (PC hb (P1 (lk0 hl)))))))) (by kernel_rfl)
theorem pa3f {st:List (T×T)} (hl:st.length<900000) (hb:bo=false):Pair prog w LI N f g r 3 n c bo kd ns st [] (st++[(.rex,.rex)]):=by
 unfold Pair
 rw [pvs_app st .rex .rex]
 exact semB_run (σ:=⟨paQ f g r 3 n c bo kd ns,[.list (pvs st)],[.b false,.b false,.b false,.b false,.b true,.b false]⟩) (PC fF (PC fF (PC fF (PC fF (PC tT (PC hb (P1 (lk0 hl)))))))) (by kernel_rfl)
theorem pa4t {st:List (T×T)} (hl:st.length<900000) (hb:bo=true):Pair prog w LI N f g r 4 n c bo kd ns st [] (st++[(f,g)]):=by
 unfold Pair
 rw [pvs_app st f g]
 exact semB_run (σ:=⟨paQ f g r 4 n c bo kd ns,[.list (pvs st)],[.b false,.b false,.b false,.b false,.b false,.b true,.b true]⟩) (PC fF (PC fF (PC fF (PC fF (PC fF (PC tT (PC hb (P1 (lk0 hl))))))))) (by kernel_rfl)
theorem pa4f {st:List (T×T)} (hl:st.length<900000) (hb:bo=false):Pair prog w LI N f g r 4 n c bo kd ns st [] (st++[(f,.tom)]):=by
 unfold Pair
 rw [pvs_app st f .tom]
 exact semB_run (σ:=⟨paQ f g r 4 n c bo kd ns,[.list (pvs st)],[.b false,.b false,.b false,.b false,.b false,.b true,.b false]⟩) (PC fF (PC fF (PC fF (PC fF (PC fF (PC tT (PC hb (P1 (lk0 hl))))))))) (by kernel_rfl)
theorem pa1 {st:List (T×T)} (hl:st.length<900000):Pair prog w LI N f g r 1 n c bo kd ns st [] (st++[(.tom,.tom)]):=by
 unfold Pair
 rw [pvs_app st .tom .tom]
 exact semB_run (σ:=⟨paQ f g r 1 n c bo kd ns,[.list (pvs st)],[.b false,.b false,.b false,.b false,.b false,.b false,.b true]⟩) (PC fF (PC fF (PC fF (PC fF (PC fF (PC fF (PC tT (P1 (lk0 hl))))))))) (by kernel_rfl)
theorem pa0tom {st:List (T×T)} (hl:st.length<900000) (h:(r.fmod 2==1)=true):Pair prog w LI N f g r 0 n c bo kd ns st [] (st++[(.rex,.tom)]):=by
 unfold Pair
 rw [pvs_app st .rex .tom]
 exact semB_run (σ:=⟨paQ f g r 0 n c bo kd ns,[.list (pvs st)],[.b false,.b false,.b false,.b false,.b false,.b false,.b false,.b true]⟩) (PC fF (PC fF (PC fF (PC fF (PC fF (PC fF (PC fF (PC h (P1 (lk0 hl)))))))))) (by kernel_rfl)
theorem pa5etom (h:(r.fmod 2==1)=true):Pair prog w LI N f g r 5 n c bo kd ns [] [] ([]++[(.rex,.tom)]):=by
 unfold Pair
 rw [pvs_app ([]) .rex .tom]
 exact semB_run (σ:=⟨paQ f g r 5 n c bo kd ns,[.list (pvs [])],[.b true,.b false,.b false,.b false,.b false,.b false,.b false,.b false,.b true]⟩) (PC tT (PC (len_ok [] (by decide)) (PC (gt_ok [] 0 false (by rfl)) (PC fF (PC fF (PC fF (PC fF (PC fF (PC fF (PC h (P1 (len_ok [] (by decide))))))))))))) (by kernel_rfl)
theorem pa7etom (h:(r.fmod 2==1)=true):Pair prog w LI N f g r 7 n c bo kd ns [] [] ([]++[(.rex,.tom)]):=by
 unfold Pair
 rw [pvs_app ([]) .rex .tom]
 exact semB_run (σ:=⟨paQ f g r 7 n c bo kd ns,[.list (pvs [])],[.b false,.b false,.b true,.b false,.b false,.b false,.b false,.b false,.b true]⟩) (PC fF (PC fF (PC tT (PC (len_ok [] (by decide)) (PC (gt_ok [] 0 false (by rfl)) (PC fF (PC fF (PC fF (PC fF (PC h (P1 (len_ok [] (by decide))))))))))))) (by kernel_rfl)
theorem pa6etom {st:List (T×T)} (hl:st.length≤1) (h:(r.fmod 2==1)=true):Pair prog w LI N f g r 6 n c bo kd ns st [] (st++[(.rex,.tom)]):=by
 unfold Pair
 rw [pvs_app st .rex .tom]
 exact semB_run (σ:=⟨paQ f g r 6 n c bo kd ns,[.list (pvs st)],[.b false,.b true,.b false,.b false,.b false,.b false,.b false,.b false,.b true]⟩) (PC fF (PC tT (PC (len_ok st (Nat.lt_of_le_of_lt hl (by decide))) (PC (gt_ok st 1 false (decide_eq_false (by omega))) (PC fF (PC fF (PC fF (PC fF (PC fF (PC h (P1 (len_ok st (Nat.lt_of_le_of_lt hl (by decide)))))))))))))) (by kernel_rfl)
theorem pa0rex {st:List (T×T)} (hl:st.length<900000) (h:(r.fmod 2==1)=false):Pair prog w LI N f g r 0 n c bo kd ns st [] (st++[(.rex,.rex)]):=by
 unfold Pair
 rw [pvs_app st .rex .rex]
 exact semB_run (σ:=⟨paQ f g r 0 n c bo kd ns,[.list (pvs st)],[.b false,.b false,.b false,.b false,.b false,.b false,.b false,.b false]⟩) (PC fF (PC fF (PC fF (PC fF (PC fF (PC fF (PC fF (PC h (P1 (lk0 hl)))))))))) (by kernel_rfl)
theorem pa5erex (h:(r.fmod 2==1)=false):Pair prog w LI N f g r 5 n c bo kd ns [] [] ([]++[(.rex,.rex)]):=by
 unfold Pair
 rw [pvs_app ([]) .rex .rex]
 exact semB_run (σ:=⟨paQ f g r 5 n c bo kd ns,[.list (pvs [])],[.b true,.b false,.b false,.b false,.b false,.b false,.b false,.b false,.b false]⟩) (PC tT (PC (len_ok [] (by decide)) (PC (gt_ok [] 0 false (by rfl)) (PC fF (PC fF (PC fF (PC fF (PC fF (PC fF (PC h (P1 (len_ok [] (by decide))))))))))))) (by kernel_rfl)
theorem pa7erex (h:(r.fmod 2==1)=false):Pair prog w LI N f g r 7 n c bo kd ns [] [] ([]++[(.rex,.rex)]):=by
 unfold Pair
 rw [pvs_app ([]) .rex .rex]
 exact semB_run (σ:=⟨paQ f g r 7 n c bo kd ns,[.list (pvs [])],[.b false,.b false,.b true,.b false,.b false,.b false,.b false,.b false,.b false]⟩) (PC fF (PC fF (PC tT (PC (len_ok [] (by decide)) (PC (gt_ok [] 0 false (by rfl)) (PC fF (PC fF (PC fF (PC fF (PC h (P1 (len_ok [] (by decide))))))))))))) (by kernel_rfl)
theorem pa6erex {st:List (T×T)} (hl:st.length≤1) (h:(r.fmod 2==1)=false):Pair prog w LI N f g r 6 n c bo kd ns st [] (st++[(.rex,.rex)]):=by
 unfold Pair
 rw [pvs_app st .rex .rex]
 exact semB_run (σ:=⟨paQ f g r 6 n c bo kd ns,[.list (pvs st)],[.b false,.b true,.b false,.b false,.b false,.b false,.b false,.b false,.b false]⟩) (PC fF (PC tT (PC (len_ok st (Nat.lt_of_le_of_lt hl (by decide))) (PC (gt_ok st 1 false (decide_eq_false (by omega))) (PC fF (PC fF (PC fF (PC fF (PC fF (PC h (P1 (len_ok st (Nat.lt_of_le_of_lt hl (by decide)))))))))))))) (by kernel_rfl)
end
inductive PStep (bo:Bool) (f g:T) (r:Int):Int→List (T×T)→List (T×T)→Prop
 | k5 {st a b}:PStep bo f g r 5 (st++[(a,b)]) (st++[(.mo a,if (r.fmod 4==3)=true then .fa b else .mo b)])
 | k6 {st a b a2 b2}:PStep bo f g r 6 (st++[(a2,b2)]++[(a,b)]) (st++[(.su a2 a,.su b2 b)])
 | k70 {st a b}:((r.fdiv 2).fmod 3==0)=true→PStep bo f g r 7 (st++[(a,b)]) (st++[(f,b)])
 | k71 {st a b}:((r.fdiv 2).fmod 3==0)=false→((r.fdiv 2).fmod 3==1)=true→bo=true→PStep bo f g r 7 (st++[(a,b)]) (st++[(a,g)])
 | k72 {st a b}:((r.fdiv 2).fmod 3==0)=false→(((r.fdiv 2).fmod 3==1)=true→bo=false)→PStep bo f g r 7 (st++[(a,b)]) (st++[(a,.mo b)])
 | k2 {st}:PStep bo f g r 2 st (st++[(f,.rex)])
 | k3 {st}:PStep bo f g r 3 st (st++[(.rex,if bo=true then g else .rex)])
 | k4 {st}:PStep bo f g r 4 st (st++[(f,if bo=true then g else .tom)])
 | k1 {st}:PStep bo f g r 1 st (st++[(.tom,.tom)])
 | k0 {st k}:(k=0∨k=5∧st=[]∨k=6∧st.length≤1∨k=7∧st=[])→PStep bo f g r k st (st++[(.rex,if (r.fmod 2==1)=true then .tom else .rex)])
noncomputable def First (kd c n:Int) (f g:T):Prop:=(kd=0∧∃ d,strAt "0123456789" (c+1)=some d∧d.length≤900∧f=.n (("x": Str)++d)∧g=.n (("y": Str)++d))∨((kd==0)=false∧∃ d,strAt "xy" ((n.fdiv 8).fmod 2)=some d∧f=.n d∧g=.n d)
inductive PRun (kd:Int) (bo:Bool):Int→List Int→List (T×T)→Int→List (T×T)→Prop
 | nil {c st}:PRun kd bo c [] st c st
 | cons {c n ns st st' c' st'' f g}:First kd c n f g→PStep bo f g (n.fdiv 8) (n.fmod 8) st st'→st.length<800000→PRun kd bo (c+1) ns st' c' st''→PRun kd bo c (n::ns) st c' st''
theorem lookup_app {α:Type} (y:Str):∀ (a b:List (Str×α)),(a++b).lookup y=(a.lookup y).or (b.lookup y)
 | [],b=>rfl
 | p::a,b=>by
  rw [List.cons_append,List.lookup_cons,List.lookup_cons]
  cases y==p.1 with
  | true=>rfl
  | false=>exact lookup_app y a b
theorem weakR (new mid base:List (Str×V)) (h:(mid.all fun p=>(base.lookup p.1).isNone||(new.lookup p.1).isSome)=true):∀ y u,(new++base).lookup y=some u→(new++(mid++base)).lookup y=some u:=by
 intro y u e
 rw [lookup_app] at e ⊢
 cases q:new.lookup y with
 | some v=>rw [q] at e;exact e
 | none =>
  rw [q] at e
  replace e:base.lookup y=some u:=e
  show (mid++base).lookup y=some u
  rw [lookup_app]
  have:mid.lookup y=none:=by
   induction mid with
   | nil=>rfl
   | cons p r ih =>
    rw [List.all_cons,Bool.and_eq_true] at h
    rw [List.lookup_cons]
    cases z:(y==p.1) with
    | false=>exact ih h.2
    | true =>
     have h1:=h.1
     rw [←eq_of_beq z,e,q] at h1
     cases h1
  rw [this];exact e
section
variable {prog:Program} {w:World} {LI:Nat→Option LamInfo}
theorem pstep_sem {N:Nat} {f g:T} {r n c k:Int} {bo:Bool} {kd:Int} {ns:V} {st st':List (T×T)} (h:PStep bo f g r k st st') (hl:st.length<800000):∃ pre,((pre.all fun p=>((paQ f g r k n c bo kd ns).lookup p.1).isNone)=true)∧Pair prog w LI N f g r k n c bo kd ns st pre st':=by
 cases h with
 | @k5 st a b =>
  have hl:st.length<900000:=by rw [len1p] at hl;omega
  cases q:(r.fmod 4==3) with
  | true=>exact ⟨_,by kernel_rfl,pa5fa hl q⟩
  | false=>exact ⟨_,by kernel_rfl,pa5mo hl q⟩
 | @k6 st a b a2 b2=>exact ⟨_,by kernel_rfl,pa6 (by rw [len1p,len1p] at hl;omega)⟩
 | @k70 st a b h1=>exact ⟨_,by kernel_rfl,pa70 (by rw [len1p] at hl;omega) h1⟩
 | @k71 st a b h1 h2 h3=>exact ⟨_,by kernel_rfl,pa71 (by rw [len1p] at hl;omega) h1 h2 h3⟩
 | @k72 st a b h1 h2 =>
  have hl:st.length<900000:=by rw [len1p] at hl;omega
  cases q:((r.fdiv 2).fmod 3==1) with
  | true=>exact ⟨_,by kernel_rfl,pa72 hl h1 q (h2 q)⟩
  | false=>exact ⟨_,by kernel_rfl,pa73 hl h1 q⟩
 | k2=>exact ⟨_,by kernel_rfl,pa2 (by omega)⟩
 | k3 =>
  cases q:bo with
  | true=>exact ⟨_,by kernel_rfl,pa3t (by omega) rfl⟩
  | false=>exact ⟨_,by kernel_rfl,pa3f (by omega) rfl⟩
 | k4 =>
  cases q:bo with
  | true=>exact ⟨_,by kernel_rfl,pa4t (by omega) rfl⟩
  | false=>exact ⟨_,by kernel_rfl,pa4f (by omega) rfl⟩
 | k1=>exact ⟨_,by kernel_rfl,pa1 (by omega)⟩
 | k0 hk =>
  cases q:(r.fmod 2==1) with
  | true =>
   rcases hk with rfl | ⟨rfl,rfl⟩ | ⟨rfl,h⟩ | ⟨rfl,rfl⟩
   ·exact ⟨_,by kernel_rfl,pa0tom (by omega) q⟩
   ·exact ⟨_,by kernel_rfl,pa5etom q⟩
   ·exact ⟨_,by kernel_rfl,pa6etom h q⟩
   ·exact ⟨_,by kernel_rfl,pa7etom q⟩
  | false =>
   rcases hk with rfl | ⟨rfl,rfl⟩ | ⟨rfl,h⟩ | ⟨rfl,rfl⟩
   ·exact ⟨_,by kernel_rfl,pa0rex (by omega) q⟩
   ·exact ⟨_,by kernel_rfl,pa5erex q⟩
   ·exact ⟨_,by kernel_rfl,pa6erex h q⟩
   ·exact ⟨_,by kernel_rfl,pa7erex q⟩
theorem first_sem {N:Nat} {f g:T} {n c:Int} {bo:Bool} {kd:Int} {ns:V} {st:List (T×T)} (h:First kd c n f g) :
  SemB prog w LI (Gf w.params N 1059) ((paF w.params).take 5) ⟨("number", .int n)::paL c bo kd ns,[.list (pvs st)]⟩ (.ok .next) ⟨paQ f g (n.fdiv 8) (n.fmod 8) n c bo kd ns,[.list (pvs st)]⟩:=by
 rcases h with ⟨rfl,d,h1,h2,rfl,rfl⟩ | ⟨hk,d,h1,rfl,rfl⟩
 ·have l1:("x": Str).length=1:=by decide+kernel
  have l2:("y": Str).length=1:=by decide+kernel
  exact pa_first0 h1 h1 (by omega) (by omega)
 ·exact pa_first1 hk h1 h1
theorem pair_loop {N:Nat} {bo:Bool} {kd:Int} {ns:V} {c c':Int} {l:List Int} {st st':List (T×T)} (h:PRun kd bo c l st c' st'):Loop prog w LI (Gf w.params N 1059) (fun v=>[("number", v)]) (paF w.params) (l.map V.int) ⟨paL c bo kd ns,[.list (pvs st)]⟩ (.ok .next) ⟨paL c' bo kd ns,[.list (pvs st')]⟩:=by
 induction h with
 | nil=>exact Loop.nil
 | @cons c n ns' st st' c' st'' f g h1 h2 h3 _ ih =>
  obtain ⟨pre,hp,hs⟩:=pstep_sem (prog:=prog) (w:=w) (LI:=LI) (N:=N) (n:=n) (c:=c) (kd:=kd) (ns:=ns) h2 h3
  have t:=SemB.app (first_sem (prog:=prog) (w:=w) (LI:=LI) (N:=N) (bo:=bo) (ns:=ns) (st:=st) h1) hs
  rw [←pa_split] at t
  refine Loop.next t (.inl rfl) ?_ ih
  intro y u e
  have e2:=weakR [("count", V.int (c+1))] ([("rest", V.int (n.fdiv 8)),("k", V.int (n.fmod 8)),("number", V.int n),("count", V.int c)]:List (Str×V)) (paB bo kd ns) (by kernel_rfl) y u e
  exact weakP pre hp y u (weakP ([("second", V.tr g),("first", V.tr f)]:List (Str×V)) (by kernel_rfl) y u e2)
end
noncomputable def joinR:List (T×T)→T×T→T×T
 | [],p=>p
 | q::r,p=>joinR r (.su q.1 p.1,.su q.2 p.2)
noncomputable abbrev paW (p:T×T) (base:List (Str×V)):List (Str×V):=("other", .tr p.2)::("one", .tr p.1)::base
theorem paw_ok (P:Params):whO (stAt P 1059 8)=true:=by kernel_rfl
section
variable {prog:Program} {w:World} {LI:Nat→Option LamInfo}
theorem pw_test {N:Nat} {p:T×T} {c:Int} {bo:Bool} {kd:Int} {ns:V} {st:List (T×T)} {t:Bool} (hl:st.length<1000000) (h:decide ((0:Int)<(((pvs st).length:Nat):Int))=t):TestIs prog w LI (Gf w.params N 1059) (whT (stAt w.params 1059 8)) ⟨paW p (paL c bo kd ns),[.list (pvs st)]⟩ t :=
 ⟨[.b t],[(pvs st).length<1000000,decide ((0:Int)<(((pvs st).length:Nat):Int))=t],by kernel_rfl,P2 (len_ok st hl) h⟩
theorem pw_turn {N:Nat} {p:T×T} {c:Int} {bo:Bool} {kd:Int} {ns:V} {st:List (T×T)} {a b:T} (hl:st.length<900000):SemB prog w LI (Gf w.params N 1059) (whB (stAt w.params 1059 8)) ⟨paW p (paL c bo kd ns),[.list (pvs (st++[(a,b)]))]⟩ (.ok .next)
  ⟨("other", .tr (.su b p.2))::("one", .tr (.su a p.1))::("right", .tr b)::("left", .tr a)::paW p (paL c bo kd ns),[.list (pvs st)]⟩ :=
 semB_run (σ:=⟨paW p (paL c bo kd ns),[.list (pvs (st++[(a,b)]))],[.pop (pvs st) (pv (a,b))]⟩) (P2 (pvs_app st a b) (len_ok (st++[(a,b)]) (by rw [len1p];omega))) (by kernel_rfl)
theorem pw_while {N:Nat} {c:Int} {bo:Bool} {kd:Int} {ns:V}:∀ (rev:List (T×T)) (p:T×T),rev.length<900000→WhileN prog w LI (Gf w.params N 1059) (whT (stAt w.params 1059 8)) (whB (stAt w.params 1059 8)) (.ok .next) ⟨paW (joinR rev p) (paL c bo kd ns),[.list []]⟩ rev.length ⟨paW p (paL c bo kd ns),[.list (pvs rev.reverse)]⟩
 | [],p,_=>.stop (pw_test (st:=[]) (by decide) (by rfl)) rfl
 | q::r,p,hl=>by
  rw [List.length_cons] at hl ⊢
  rw [List.reverse_cons]
  have ih:=pw_while (N:=N) (c:=c) (bo:=bo) (kd:=kd) (ns:=ns) r (.su q.1 p.1,.su q.2 p.2) (by omega)
  have hr:r.reverse.length<900000:=by rw [List.length_reverse];omega
  refine .turn (pw_test (by rw [len1p];omega) (gt_ok _ 0 true (decide_eq_true (by rw [len1p];omega)))) (pw_turn (a:=q.1) (b:=q.2) hr) ?_ ih
  exact weakR ([("other", V.tr (.su q.2 p.2)),("one", V.tr (.su q.1 p.1))]:List (Str×V)) ([("right", V.tr q.2),("left", V.tr q.1),("other", V.tr p.2),("one", V.tr p.1)]:List (Str×V)) (paL c bo kd ns) (by kernel_rfl)
noncomputable def bothOf (kd:Int):Bool:=(kd==0)||(kd==3)
noncomputable def stOf (st:List (T×T)):List (T×T):=if st.isEmpty then [(.n "x", .rex)] else st
noncomputable def endP (kd:Int) (p:T×T):T×T :=
 let one:=if (kd==3)=true then .n "x" else p.1
 if (kd==2)=true then (p.2,one) else (one,p.2)
theorem pair_con {N:Nat} {kd c:Int} {l:List Int} {st rev:List (T×T)} {a b:T} (hk:kd=0∨kd=1∨kd=2∨kd=3) (h:PRun kd (bothOf kd) 0 l [] c st) (hs:stOf st=rev.reverse++[(a,b)]) (hl:rev.length<800000) :
  Con prog w LI (N+3) (.fn 1059) [] [.lst (l.map .int),.int kd] [] (.ok (.tup [.tr (endP kd (joinR rev (a,b))).1,.tr (endP kd (joinR rev (a,b))).2])) []:=by
 have ok:=pa_ok w.params
 rw [Bool.and_eq_true,Bool.and_eq_true] at ok
 have s5:SemS prog w LI (Gf w.params N 1059) (stAt w.params 1059 5) ⟨paL 0 (bothOf kd) kd (.lst (l.map .int)),[.list []]⟩ (.ok .next) ⟨paL c (bothOf kd) kd (.lst (l.map .int)),[.list (pvs st)]⟩ :=
  for_list_st (v:=.lst (l.map .int)) (σ:=⟨paL 0 (bothOf kd) kd (.lst (l.map .int)),[.list []],[]⟩) ok.1.1 ok.1.2 (pa_l _ _) ok.2 P0 (by kernel_rfl) rfl (pair_loop (bo:=bothOf kd) (kd:=kd) (ns:=.lst (l.map .int)) h)
 have s8:SemS prog w LI (Gf w.params N 1059) (stAt w.params 1059 8) ⟨paW (a,b) (paL c (bothOf kd) kd (.lst (l.map .int))),[.list (pvs rev.reverse)]⟩ (.ok .next) ⟨paW (joinR rev (a,b)) (paL c (bothOf kd) kd (.lst (l.map .int))),[.list []]⟩:=while_st (paw_ok w.params) (pw_while rev (a,b) (by omega))
 have hrl:rev.reverse.length=rev.length:=List.length_reverse
 generalize joinR rev (a,b)=q at *
 generalize rev.reverse=rv at *
 obtain ⟨q1,q2⟩:=q
 cases st with
 | nil =>
  obtain ⟨rfl,e⟩:rv=[]∧((.n "x", .rex):T×T)=(a,b):=by
   have hs':([(.n "x", .rex)]:List (T×T))=rv++[(a,b)]:=hs
   cases rv with
   | nil=>exact ⟨rfl,by simpa using hs'⟩
   | cons x r=>simp at hs'
  cases e
  exact (F1059 w.params).ret0 (n:=N) (cs:=[.list []]) (.tup [.tr (endP kd (q1,q2)).1,.tr (endP kd (q1,q2)).2]) [.lst (l.map .int),.int kd] [.cel,.st (.ok .next) (paL c (bothOf kd) kd (.lst (l.map .int))) [.list []],.b true,.pop [] (pv (.n "x", .rex)),.st (.ok .next) (paW (q1,q2) (paL c (bothOf kd) kd (.lst (l.map .int)))) [.list []]]
   (PC s5 (PC (len_ok [] (by decide)) (PC (show ((((pvs []).length:Nat):Int)==0)=true by rfl) (PC (len_ok [] (by decide)) (PC (show [pv (.n "x", .rex)]=[]++[pv (.n "x", .rex)] from rfl) (P2 (len_ok [(.n "x", .rex)] (by decide)) s8)))))) (clo_clo (by rfl)) (Nat.le_refl _) (by rfl) (by rcases hk with rfl | rfl | rfl | rfl<;>kernel_rfl)
 | cons x r =>
  replace hs:x::r=rv++[(a,b)]:=hs
  rw [hs] at s5
  have ho:rv.length<900000:=by omega
  have h0:((((pvs (rv++[(a,b)])).length:Nat):Int)==0)=false:=by
   rw [pvs_len,len1p]
   exact beq_eq_false_iff_ne.mpr (by omega)
  exact (F1059 w.params).ret0 (n:=N) (cs:=[.list []]) (.tup [.tr (endP kd (q1,q2)).1,.tr (endP kd (q1,q2)).2]) [.lst (l.map .int),.int kd] [.cel,.st (.ok .next) (paL c (bothOf kd) kd (.lst (l.map .int))) [.list (pvs (rv++[(a,b)]))],.b false,.pop (pvs rv) (pv (a,b)),.st (.ok .next) (paW (q1,q2) (paL c (bothOf kd) kd (.lst (l.map .int)))) [.list []]]
   (PC s5 (PC (lk1 rv (a,b) ho) (PC h0 (PC (pvs_app rv a b) (P2 (lk1 rv (a,b) ho) s8))))) (clo_clo (by rfl)) (Nat.le_refl _) (by rfl) (by rcases hk with rfl | rfl | rfl | rfl<;>kernel_rfl)
end
theorem pick_at {α:Type} (l:List α) {n:Nat} (hn:l.length=n):(l.drop (min 1 n)).take (min 10 n - min 1 n)=(l.drop 1).take 9:=by
 subst hn
 cases l with
 | nil=>rfl
 | cons a l =>
  rw [show min 1 (a::l).length=1 from Nat.min_eq_left (Nat.succ_le_succ (Nat.zero_le _)),List.drop_one,List.tail_cons]
  refine Nat.le_total 10 (a::l).length |>.elim (fun h=>by rw [Nat.min_eq_left h]) fun h=>?_
  rw [Nat.min_eq_right h,List.take_of_length_le (i:=9) (Nat.le_of_succ_le_succ h)]
  exact List.take_of_length_le (Nat.le_refl _)
theorem mm (k n:Nat):max (0:Int) (min (k:Int) n)=((min k n:Nat):Int):=by omega
theorem pick_1_10 (items:Array Value):slicePick items (some 1) (some 10) none=((items.toList.drop 1).take 9).toArray:=by
 have e:sliceBounds (some 1) (some 10) none items.size=(((min 1 items.size:Nat):Int),((min 10 items.size:Nat):Int),1):=by
  simp only [sliceBounds,Option.getD_none,show ¬ ((1:Int)<0) by decide,show ¬ ((10:Int)<0) by decide,if_false,show (1:Int)>0 by decide,if_true]
  exact congr (congrArg Prod.mk (mm 1 _)) (congrArg (·,(1:Int)) (mm 10 _))
 unfold slicePick
 rw [e]
 simp only [sliceRange_one,pick_run]
 exact congrArg List.toArray (pick_at items.toList Array.length_toList)
noncomputable def slE (e:Expr):Expr:=.Subscript (.Name "script" (pE e [0])) (.Slice (some (.Constant (.int 1) 0 (pE e [1,0]))) (some (.Constant (.int 10) 0 (pE e [1,1]))) none (pE e [1])) e.pos
noncomputable def isSl:Expr→Bool
 | .Subscript ..=>true
 | _=>false
section
variable {prog:Program} {w:World} {LI:Nat→Option LamInfo} {Γ:Gam}
theorem RVs.take9 {φ:Mp} {ca:List Addr} {vs:List V}:∀ (k:Nat) {us:List Value},RVs prog w LI φ ca vs us→RVs prog w LI φ ca (vs.take k) (us.take k):=by
 induction vs with
 | nil=>exact fun k us r=>by rw [r.nil_,List.take_nil,List.take_nil];exact .nil
 | cons v vs ih =>
  intro k us r
  refine r.uncons.elim fun u q=>q.elim fun us' q=>?_
  rw [q.1]
  cases k with
  | zero=>exact .nil
  | succ k=>exact .cons q.2.1 (ih k q.2.2)
theorem RVs.drop1 {φ:Mp} {ca:List Addr} {vs:List V} {us:List Value} (r:RVs prog w LI φ ca vs us):RVs prog w LI φ ca (vs.drop 1) (us.drop 1):=by
 cases r with
 | nil=>exact .nil
 | cons a b=>exact b
theorem part_int {k:Int} {o:Option (Int×Tok)} (h:o.map (·.1)=some k):IsPart (partValue o) (some k):=by
 cases o with
 | none=>cases h
 | some q=>exact Option.some.inj h▸.int _ _
theorem slice_sem {p1 p2 p3 p4 p5:Pos} (hx:Γ.cs.names.lookup ("script": Str)=some .local) {l:List Int} (hl:l.length<1000) {σ:Ab} (hs:σ.loc.lookup ("script": Str)=some (.lst (l.map .int))) :
  SemE prog w LI Γ (.Subscript (.Name "script" p1) (.Slice (some (.Constant (.int 1) 0 p2)) (some (.Constant (.int 10) 0 p3)) none p4) p5) σ (.ok (.lst (((l.drop 1).take 9).map .int))) σ:=by
  intro A ad cl L F outer S φ ca s h Q E kk1 kk2
  have hn:nameV Γ "script" ⟨σ.loc,σ.cells,[]⟩=some (.lst (l.map .int)):=by
   unfold nameV
   rw [hx]
   exact hs
  refine wpAny_Subscript_list_slice ((name_sound S hn h).ok_ fun φ₁ ca₁ vf s₁ p₁ r₁=>(r₁.elems_inv rfl).elim fun us z=>z.elim fun al z=>z.elim fun n z=>part_sound (e:=some (.Constant (.int 1) 0 p2)) (p:=some 1) rfl fun qa tk hqa=>part_sound (e:=some (.Constant (.int 10) 0 p3)) (p:=some 10) rfl fun qb tk' hqb=>?_)
  have hlen:us.length=l.length:=z.2.1.len.trans (List.length_map ..)
  have hL:s₁.heap.IsList al us.toArray:=⟨_,p₁.at_.hp.fz _ _ z.2.2,rfl,_,rfl⟩
  refine ⟨al,us.toArray,some 1,some 10,z.1,hL,?_,part_int hqa,part_int hqb,?_⟩
  ·show us.toArray.size≤16777216;rw [List.size_toArray,hlen];exact Nat.le_trans (Nat.le_of_lt hl) (by decide)
  ·rw [pick_1_10]
   have p2:=Pst.push p₁.at_ { cls:=.type "slice", data:=.fields #[partValue qa,partValue qb,.none] } rfl (s':={ s₁ with heap:=s₁.heap.push { cls:=.type "slice", data:=.fields #[partValue qa,partValue qb,.none] },toks:=tk' }) rfl ⟨rfl,rfl,rfl⟩
   have p3:=Pst.push p2.at_ (listOf ((us.drop 1).take 9).toArray 0) rfl (s':={ s₁ with heap:=(s₁.heap.push { cls:=.type "slice", data:=.fields #[partValue qa,partValue qb,.none] }).push (listOf ((us.drop 1).take 9).toArray 0),toks:=tk' }) rfl ⟨rfl,rfl,rfl⟩
   refine kk1 _ _ _ _ _ rfl ((p₁.trans p2).trans p3) (.lst (vs:=((l.drop 1).take 9).map .int) rfl ?_ ?_ (n:=0) (us:=(us.drop 1).take 9))
   ·rw [List.map_take,List.map_drop]
    exact ((z.2.1.mono p2.stp.le p2.pre).mono p3.stp.le p3.pre).drop1.take9 9
   ·rw [show s₁.heap.objs.size+1=(s₁.heap.push { cls:=.type "slice", data:=.fields #[partValue qa,partValue qb,.none] }).objs.size from (Heap.size_push _ _).symm]
    exact Mp.put_self _ _ _
end
noncomputable def kdOf:List Int→Int
 | []=>0
 | n::_=>n.fmod 4
noncomputable abbrev rtE (b:List Stmt):Expr:=(kS (b.headD default)).headD default
noncomputable abbrev laS (l:List Int):List (Str×V):=[("script", .lst (l.map .int))]
noncomputable abbrev laK (l:List Int):List (Str×V):=("kind", .int (kdOf l))::laS l
noncomputable abbrev laO (a b:T) (l:List Int):List (Str×V):=("other", .tr b)::("one", .tr a)::laK l
noncomputable abbrev laR (dv:V) (a b:T) (l:List Int):List (Str×V):=("right", .ex (toE b))::("left", .ex (toE a))::("due", dv)::laO a b l
theorem la_try (P:Params):(tryOk (stAt P 1106 5)&&isName "BindingException" (tryT (stAt P 1106 5)))=true:=by kernel_rfl
theorem la_rt (P:Params):trySuite (stAt P 1106 5)=[.Return (some (.Compare (.Name "due" (pE (rtE (trySuite (stAt P 1106 5))) [0])) [.Is] [.Constant .none 0 (pE (rtE (trySuite (stAt P 1106 5))) [1])] (rtE (trySuite (stAt P 1106 5))).pos)) ((trySuite (stAt P 1106 5)).headD default).pos]:=by kernel_rfl
theorem la_l (P:Params) (n:Nat):(Gf P n 1106).cs.names.lookup ("due": Str)=some NameKind.local∧(Gf P n 1106).cs.names.lookup ("BindingException": Str)=some NameKind.globalImplicit∧(Gf P n 1106).cs.names.lookup ("script": Str)=some NameKind.local∧(Gf P n 1106).cs.names.lookup ("name": Str)=some NameKind.local:=by
 refine ⟨?_,?_,?_,?_⟩<;>kernel_rfl
section
variable {prog:Program} {w:World} {LI:Nat→Option LamInfo} {Γ:Gam}
noncomputable def recS (prog:Program) (w:World) (LI:Nat→Option LamInfo) (Γ:Gam) (e:Expr) (σ:Wt):Ev V:=if isSl e then semE prog w LI Γ e σ else (evN prog w LI Γ 40).1 e σ
theorem recS_sound:SE prog w LI Γ (recS prog w LI Γ):=by
 intro A a cl L F outer S e σ out σ' ps h hp φ ca s hat
 unfold recS at h
 cases q:isSl e with
 | true=>rw [q] at h;exact semE_sound h hp S hat
 | false=>rw [q] at h;exact (evN_sound 40).1 A a cl L F outer S e σ out σ' ps h hp φ ca s hat
theorem suite_is {x:Str} {p1 p2 p3 p4:Pos} {σ:Ab} {v:V} (hx:Γ.cs.names.lookup x=some .local) (hv:σ.loc.lookup x=some v) (hdb:(x==("__debug__": Str))=false):SuiteAny prog w LI Γ [.Return (some (.Compare (.Name x p1) [.Is] [.Constant .none 0 p2] p3)) p4] σ (.ret (.bool v.isN)) σ :=
 fun A a cl L F kd φ ca s h0 Q E k1=>h0.fr.elim fun m hm=>(hm.2 x v hv).elim fun u hu =>
  wpAny_execs_cons (wpAny_Return_some (wpAny_Compare1 (wpAny_Name (wpAny_loadName_local (env:=eN Γ L a cl) kd hx hm.1 hu.1
   (wpAny_Constant_none (is_none (k1 φ ca _ s (Pst.refl h0) (show RFr prog w LI (.ret (.bool v.isN)) φ ca (.ret (.bool (u==Value.none))) from hu.2.isN▸RV.bool))))) hdb) rfl))
end
section
variable {prog:Program} {w:World} {LI:Nat→Option LamInfo}
theorem la0 {N:Nat} {l:List Int} (hl:l.length<1000):SemB prog w LI (Gf w.params N 1106) [stAt w.params 1106 0] ⟨laS l,[]⟩ (.ok .next) ⟨laK l,[]⟩:=by
 have h:(l.map V.int).length<1000000:=by rw [List.length_map];omega
 cases l with
 | nil=>exact semB_run (σ:=⟨laS [],[],[.b false]⟩) (P2 h (show decide ((0:Int)<((([]:List V).length:Nat):Int))=false by rfl)) (by kernel_rfl)
 | cons n r=>exact semB_run (σ:=⟨laS (n::r),[],[.b true]⟩) (P2 h (show decide ((0:Int)<(((V.int n::r.map V.int).length:Nat):Int))=true from decide_eq_true (by rw [List.length_cons];omega))) (by kernel_rfl)
noncomputable abbrev la1E (P:Params):Expr:=(cAs (asE (stAt P 1106 1))).headD default
theorem la_s1 (P:Params):la1E P=slE (la1E P):=by kernel_rfl
theorem la1 {N:Nat} {l:List Int} {a b:T} (hl:l.length<1000) (hp:Con prog w LI N (.fn 1059) [] [.lst (((l.drop 1).take 9).map .int),.int (kdOf l)] [] (.ok (.tup [.tr a,.tr b])) []):SemB prog w LI (Gf w.params N 1106) [stAt w.params 1106 1] ⟨laK l,[]⟩ (.ok .next) ⟨laO a b l,[]⟩:=by
 have hs:SemE prog w LI (Gf w.params N 1106) (la1E w.params) ⟨laK l,[]⟩ (.ok (.lst (((l.drop 1).take 9).map .int))) ⟨laK l,[]⟩:=by rw [la_s1];exact slice_sem (la_l w.params N).2.2.1 hl (by rfl)
 have e:((evBk (evX prog w LI (Gf w.params N 1106) (evE prog w LI (Gf w.params N 1106) (recS prog w LI (Gf w.params N 1106)) (evN prog w LI (Gf w.params N 1106) 40).2) (evN prog w LI (Gf w.params N 1106) 40).2 (fun _ _=>none)) [stAt w.params 1106 1] ⟨laK l,[],[.se (.ok (.lst (((l.drop 1).take 9).map .int))) (laK l) [],.ca (.ok (.tup [.tr a,.tr b])) []]⟩).map fun r=>(r.1,r.2.1.ab,r.2.2))=some (.ok .next,⟨laO a b l,[]⟩,[SemE prog w LI (Gf w.params N 1106) (la1E w.params) ⟨laK l,[]⟩ (.ok (.lst (((l.drop 1).take 9).map .int))) ⟨laK l,[]⟩,Con prog w LI N (.fn 1059) [] [.lst (((l.drop 1).take 9).map .int),.int (kdOf l)] [] (.ok (.tup [.tr a,.tr b])) []]):=by kernel_rfl
 exact (run_is e).elim fun σ' k=>k.1▸evBk_sound (evX_sound (evE_sound recS_sound (evN_sound 40).2) (evN_sound 40).2 (fun e=>nsm rfl e)) k.2 (P2 hs hp)
theorem la2 {N:Nat} {l:List Int} {a b:T} {dv:V} (hd:Con prog w LI N (.fn 1092) [] [.tr a,.tr b] [] (.ok dv) []) (h1:Con prog w LI N (.fn 1066) [] [.tr a] [] (.ok (.ex (toE a))) []) (h2:Con prog w LI N (.fn 1066) [] [.tr b] [] (.ok (.ex (toE b))) []) :
  SemB prog w LI (Gf w.params N 1106) [stAt w.params 1106 2,stAt w.params 1106 3,stAt w.params 1106 4] ⟨laO a b l,[]⟩ (.ok .next) ⟨laR dv a b l,[]⟩ :=
 semB_run (σ:=⟨laO a b l,[],[.c (.ok dv),.c (.ok (.ex (toE a))),.c (.ok (.ex (toE b)))]⟩) (P3 hd h1 h2) (by kernel_rfl)
theorem la5f {N:Nat} {l:List Int} {a b:T} {dv:V} (hm:Con prog w LI N (.fn 1032) [] [.ex (toE a),.ex (toE b)] [] (.err (.fn 1049)) []):SemS prog w LI (Gf w.params N 1106) (stAt w.params 1106 5) ⟨laR dv a b l,[]⟩ (.ok (.ret (.bool dv.isN))) ⟨laR dv a b l,[]⟩:=by
 have ok:=Bool.and_eq_true_iff.mp (la_try w.params)
 have hl:=la_l w.params N
 have hb:SemB prog w LI (Gf w.params N 1106) (tryB (stAt w.params 1106 5)) ⟨laR dv a b l,[]⟩ (.err (.fn 1049)) ⟨laR dv a b l,[]⟩:=semB_run (σ:=⟨laR dv a b l,[],[.c (.err (.fn 1049))]⟩) (P1 hm) (by kernel_rfl)
 have e:=la_rt w.params
 generalize stAt w.params 1106 5=st at *
 exact try_own ok.1 hb (name_is ok.2 hl.2.1 rfl (.inl ⟨1049,rfl,rfl⟩)) (e▸suite_is hl.1 (by rfl) (by decide)) nofun
theorem la5o {N:Nat} {l:List Int} {a b:T} {dv:V} {d:List (Str×X)} (hm:Con prog w LI N (.fn 1032) [] [.ex (toE a),.ex (toE b)] [] (.ok (.bd d)) []):SemS prog w LI (Gf w.params N 1106) (stAt w.params 1106 5) ⟨laR dv a b l,[]⟩ (.ok .next) ⟨("told", .bd d)::laR dv a b l,[]⟩:=by
 have hb:SemB prog w LI (Gf w.params N 1106) (tryB (stAt w.params 1106 5)) ⟨laR dv a b l,[]⟩ (.ok .next) ⟨("told", .bd d)::laR dv a b l,[]⟩:=semB_run (σ:=⟨laR dv a b l,[],[.c (.ok (.bd d))]⟩) (P1 hm) (by kernel_rfl)
 exact try_ok (Bool.and_eq_true_iff.mp (la_try w.params)).1 hb
end
noncomputable def bind1 (d:List (Str×T)) (b:List (Str×T)) (x:Str):List (Str×T):=match d.lookup x with
 | some t=>putK b x t
 | none=>b
noncomputable abbrev bindL (d:List (Str×T)) (l:List Str) (b:List (Str×T)):List (Str×T):=l.foldl (bind1 d) b
noncomputable abbrev dX (d:List (Str×T)):List (Str×X):=d.map fun p=>(p.1,toE p.2)
theorem dX_look (x:Str):∀ d:List (Str×T),(dX d).lookup x=(d.lookup x).map toE
 | []=>rfl
 | (k,e)::d=>by
  show List.lookup x ((k,toE e)::dX d)=_
  rw [List.lookup_cons,List.lookup_cons]
  cases q:(x==k) with
  | true=>rfl
  | false=>exact dX_look x d
theorem putT_len (d:List (Str×T)) (x:Str) (e:T):(putK d x e).length≤d.length+1:=by
 unfold putK;split<;>simp
theorem bind1_len (d b:List (Str×T)) (x:Str):(bind1 d b x).length≤b.length+1:=by
 unfold bind1
 cases d.lookup x with
 | none=>exact Nat.le_succ _
 | some t=>exact putT_len b x t
theorem la_for (P:Params):(forOk (stAt P 1106 8)&&isName "name" (forT (stAt P 1106 8))&&plainIter (forI (stAt P 1106 8)))=true:=by kernel_rfl
section
variable {prog:Program} {w:World} {LI:Nat→Option LamInfo}
noncomputable abbrev laB (d:List (Str×T)) (dv:V) (a b:T) (l:List Int):List (Str×V):=("bound", .cell 0)::("told", .bd (dX d))::laR dv a b l
theorem la8_turn {N:Nat} (hN:200≤N) {l:List Int} {a b:T} {dv:V} {d bd:List (Str×T)} {x:Str} (hb:bd.length<1000000) (ht:∀ t,d.lookup x=some t→t.ok∧t.ht≤60) :
  SemB prog w LI (Gf w.params N 1106) (forB (stAt w.params 1106 8)) ⟨("name", .str x)::laB d dv a b l,[.dict (trK bd)]⟩ (.ok .next) ⟨("name", .str x)::laB d dv a b l,[.dict (trK (bind1 d bd x))]⟩:=by
 have hv:Con prog w LI N (.fn 129) [] [.str x] [] (.ok (.vr x)) []:=(var_new 0 x).mono (by omega)
 have hh:Con prog w LI N (.fn 1003) [] [.bd (dX d),.vr x] [] (.ok (.bool ((dX d).lookup x).isSome)) []:=(bd_has 0 (dX d) x).mono (by omega)
 have hk:=dX_look x d
 unfold bind1
 cases q:d.lookup x with
 | none =>
  rw [q] at hk
  rw [hk] at hh
  exact semB_run (σ:=⟨("name", .str x)::laB d dv a b l,[.dict (trK bd)],[.c (.ok (.vr x)),.c (.ok (.bool false))]⟩) (P2 hv hh) (by kernel_rfl)
 | some t =>
  rw [q] at hk
  have hk':(dX d).lookup x=some (toE t):=hk
  rw [hk] at hh
  obtain ⟨t1,t2⟩:=ht t q
  have hg:Con prog w LI N (.fn 996) [] [.bd (dX d),.vr x] [] (.ok (.ex (toE t))) []:=(bd_get 0 (dX d) x (toE t) hk').mono (by omega)
  have hc:Con prog w LI N (.fn 1073) [] [.ex (toE t)] [] (.ok (.tr t)) []:=(tree_con t t1 0).mono (by omega)
  show SemB prog w LI (Gf w.params N 1106) (forB (stAt w.params 1106 8)) _ (.ok .next) ⟨("name", .str x)::laB d dv a b l,[.dict (trK (putK bd x t))]⟩
  rw [←trK_put]
  exact semB_run (σ:=⟨("name", .str x)::laB d dv a b l,[.dict (trK bd)],[.c (.ok (.vr x)),.c (.ok (.bool true)),.c (.ok (.vr x)),.c (.ok (.ex (toE t))),.c (.ok (.tr t))]⟩) (PC hv (PC hh (PC hv (P3 hg hc (show (trK bd).length<1000000 by rw [List.length_map];exact hb))))) (by kernel_rfl)
theorem la8_loop {N:Nat} (hN:200≤N) {l:List Int} {a b:T} {dv:V} {d:List (Str×T)} (ht:∀ x t,d.lookup x=some t→t.ok∧t.ht≤60):∀ (xs:List Str) (bd:List (Str×T)),bd.length+xs.length<1000000 →
  Loop prog w LI (Gf w.params N 1106) (fun v=>[("name", v)]) (forB (stAt w.params 1106 8)) (xs.map V.str) ⟨laB d dv a b l,[.dict (trK bd)]⟩ (.ok .next) ⟨laB d dv a b l,[.dict (trK (bindL d xs bd))]⟩
 | [],bd,_=>Loop.nil
 | x::xs,bd,h=>by
  rw [List.length_cons] at h
  have:=bind1_len d bd x
  exact Loop.next (la8_turn hN (by omega) (ht x)) (.inl rfl) (weak1 (by kernel_rfl)) (la8_loop hN ht xs (bind1 d bd x) (by omega))
theorem la8 {N:Nat} (hN:200≤N) {l:List Int} {a b:T} {dv:V} {d:List (Str×T)} (ht:∀ x t,d.lookup x=some t→t.ok∧t.ht≤60) {na nb:List Str} (h1:Con prog w LI N (.fn 1085) [] [.tr a] [] (.ok (.ls na)) []) (h2:Con prog w LI N (.fn 1085) [] [.tr b] [] (.ok (.ls nb)) []) (hl:na.length+nb.length<1000000) :
  SemS prog w LI (Gf w.params N 1106) (stAt w.params 1106 8) ⟨laB d dv a b l,[.dict []]⟩ (.ok .next) ⟨laB d dv a b l,[.dict (trK (bindL d (na++nb) []))]⟩:=by
 have ok:=la_for w.params
 rw [Bool.and_eq_true,Bool.and_eq_true] at ok
 exact for_list_st (v:=.ls (na++nb)) (σ:=⟨laB d dv a b l,[.dict []],[.c (.ok (.ls na)),.c (.ok (.ls nb)),.v (.ls (na++nb))]⟩) ok.1.1 ok.1.2 (la_l w.params N).2.2.2 ok.2 (ps:=[Con prog w LI N (.fn 1085) [] [.tr a] [] (.ok (.ls na)) [],Con prog w LI N (.fn 1085) [] [.tr b] [] (.ok (.ls nb)) [],(V.ls (na++nb)).elems=some (na.map .str++nb.map .str),(na.map V.str).length+(nb.map V.str).length<1000000]) (PC h1 (P3 h2 (show some _=_ by rw [List.map_append]) (by rw [List.length_map,List.length_map];exact hl))) (by kernel_rfl) rfl
  (la8_loop hN ht (na++nb) [] (by rw [List.length_append];simpa using hl))
theorem la9 {N:Nat} {l:List Int} {a b u m p:T} {d bd:List (Str×T)} {nm nu:List Str} (c1:Fc prog w LI N bd a m) (c2:Fc prog w LI N bd b m) (om:TrOk m) (op:TrOk p) (oa:TrOk a) (ob:TrOk b)
  (n1:Con prog w LI N (.fn 1085) [] [.tr m] [] (.ok (.ls nm)) []) (p1:Con prog w LI N (.fn 1099) [] [.tr m,.ls nm] [] (.ok (.tr p)) []) (n2:Con prog w LI N (.fn 1085) [] [.tr u] [] (.ok (.ls nu)) []) (p2:Con prog w LI N (.fn 1099) [] [.tr u,.ls nu] [] (.ok (.tr p)) [])
  (s1:Con prog w LI N (.fn ((toE a).mt "substitute_bindings")) [] [.ex (toE a),.bd (dX d)] [] (.ok (.ex (toE m))) []) (s2:Con prog w LI N (.fn ((toE b).mt "substitute_bindings")) [] [.ex (toE b),.bd (dX d)] [] (.ok (.ex (toE m))) []) (tm:Con prog w LI N (.fn 1073) [] [.ex (toE m)] [] (.ok (.tr m)) [])
  (ta:Con prog w LI N (.fn 1073) [] [.ex (toE a)] [] (.ok (.tr a)) []) (tb:Con prog w LI N (.fn 1073) [] [.ex (toE b)] [] (.ok (.tr b)) []) (em:(!m.eq m)=false) (ep:(!p.eq p)=false) (ea:a.eq a=true) :
  SemB prog w LI (Gf w.params N 1106) [stAt w.params 1106 9,stAt w.params 1106 10,stAt w.params 1106 11,stAt w.params 1106 12,stAt w.params 1106 13] ⟨laB d (.tr u) a b l,[.dict (trK bd)]⟩ (.ok (.ret (.bool (b.eq b)))) ⟨("made", .tr m)::laB d (.tr u) a b l,[.dict (trK bd)]⟩ :=
 semB_run (σ:=⟨laB d (.tr u) a b l,[.dict (trK bd)],[.cc 0 (.ok (.tr m)) (.dict (trK bd)),.cc 0 (.ok (.tr m)) (.dict (trK bd)),.b false,.c (.ok (.ls nm)),.c (.ok (.tr p)),.c (.ok (.ls nu)),.c (.ok (.tr p)),.b false,.c (.ok (.ex (toE m))),.c (.ok (.tr m)),.b false,.c (.ok (.ex (toE m))),.c (.ok (.tr m)),.b false,.c (.ok (.tr a)),.b true,.c (.ok (.tr b))]⟩)
  (PC c1 (PC (clo_trK bd) (PC (clo_trK bd) (PC c2 (PC (clo_trK bd) (PC (clo_trK bd) (PC om (PC om (PC em (PC n1 (PC p1 (PC n2 (PC p2 (PC op (PC op (PC ep (PC s1 (PC tm (PC om (PC om (PC em (PC s2 (PC tm (PC om (PC om (PC em (PC ta (PC oa (PC oa (PC ea (P3 tb ob ob))))))))))))))))))))))))))))))) (by kernel_rfl)
end
theorem b1106 (P:Params):bodyAt P 1106=[stAt P 1106 0]++([stAt P 1106 1]++([stAt P 1106 2,stAt P 1106 3,stAt P 1106 4]++([stAt P 1106 5,stAt P 1106 6,stAt P 1106 7,stAt P 1106 8]++[stAt P 1106 9,stAt P 1106 10,stAt P 1106 11,stAt P 1106 12,stAt P 1106 13]))):=by kernel_rfl
section
variable {prog:Program} {w:World} {LI:Nat→Option LamInfo}
theorem law_run {N:Nat} {l:List Int} {σ':Ab} {a b:T} {dv:V} {t:Bool} (ht:t=true) (hl:l.length<1000) (hp:Con prog w LI N (.fn 1059) [] [.lst (((l.drop 1).take 9).map .int),.int (kdOf l)] [] (.ok (.tup [.tr a,.tr b])) [])
  (hd:Con prog w LI N (.fn 1092) [] [.tr a,.tr b] [] (.ok dv) []) (h1:Con prog w LI N (.fn 1066) [] [.tr a] [] (.ok (.ex (toE a))) []) (h2:Con prog w LI N (.fn 1066) [] [.tr b] [] (.ok (.ex (toE b))) [])
  (rest:SemB prog w LI (Gf w.params N 1106) ([stAt w.params 1106 5,stAt w.params 1106 6,stAt w.params 1106 7,stAt w.params 1106 8]++[stAt w.params 1106 9,stAt w.params 1106 10,stAt w.params 1106 11,stAt w.params 1106 12,stAt w.params 1106 13]) ⟨laR dv a b l,[]⟩ (.ok (.ret (.bool t))) σ') :
  Con prog w LI (N+3) (.fn 1106) [] [.lst (l.map .int)] [] (.ok (.bool true)) []:=by
 subst ht
 have sb:SemB prog w LI (Gf w.params N 1106) (bodyAt w.params 1106) ⟨laS l,[]⟩ (.ok (.ret (.bool true))) σ':=by
  rw [b1106]
  exact (la0 hl).app ((la1 hl hp).app ((la2 hd h1 h2).app rest))
 have F:=F1106 w.params
 have r:=fn_conS (n:=N) (f:=1106) (kw:=[]) (loc:=laS l) (args:=[.lst (l.map .int)]) (cells:=[]) (r:=.ok (.bool true)) F.pl (fun s us ks φ ca kin ra rk=>by
  cases rk
  exact ⟨List.zip ["script"] us,F.bd s us kin ra.len,fun x hx=>beq_iff_eq.mp (List.all_eq_true.mp F.nm x.1 (List.of_mem_zip hx).1),(RVs.zip (["script"]:List Str) ra).rev⟩) sb (show EndsN _ _ from rfl) (fun c q=>by cases q)
 exact r.con (fun b q=>by cases q;exact clo0_clo rfl) (.inr (by intro c h;cases h))
theorem law_fail {N:Nat} {l:List Int} {a b:T} (hl:l.length<1000) (hp:Con prog w LI N (.fn 1059) [] [.lst (((l.drop 1).take 9).map .int),.int (kdOf l)] [] (.ok (.tup [.tr a,.tr b])) [])
  (hd:Con prog w LI N (.fn 1092) [] [.tr a,.tr b] [] (.ok .none) []) (h1:Con prog w LI N (.fn 1066) [] [.tr a] [] (.ok (.ex (toE a))) []) (h2:Con prog w LI N (.fn 1066) [] [.tr b] [] (.ok (.ex (toE b))) [])
  (hm:Con prog w LI N (.fn 1032) [] [.ex (toE a),.ex (toE b)] [] (.err (.fn 1049)) []):Con prog w LI (N+3) (.fn 1106) [] [.lst (l.map .int)] [] (.ok (.bool true)) []:=by
 have s5:=la5f (prog:=prog) (w:=w) (LI:=LI) (l:=l) (dv:=.none) hm
 exact law_run (t:=true) (σ':=⟨laR .none a b l,[]⟩) rfl hl hp hd h1 h2 (semB_run (σ:=⟨laR .none a b l,[],[.st (.ok (.ret (.bool true))) (laR .none a b l) []]⟩) (P1 s5) (by kernel_rfl))
theorem law_good {N:Nat} {l:List Int} {a b u:T} {d bd:List (Str×T)} {σ':Ab} (hl:l.length<1000) (hp:Con prog w LI N (.fn 1059) [] [.lst (((l.drop 1).take 9).map .int),.int (kdOf l)] [] (.ok (.tup [.tr a,.tr b])) [])
  (hd:Con prog w LI N (.fn 1092) [] [.tr a,.tr b] [] (.ok (.tr u)) []) (h1:Con prog w LI N (.fn 1066) [] [.tr a] [] (.ok (.ex (toE a))) []) (h2:Con prog w LI N (.fn 1066) [] [.tr b] [] (.ok (.ex (toE b))) [])
  (hm:Con prog w LI N (.fn 1032) [] [.ex (toE a),.ex (toE b)] [] (.ok (.bd (dX d))) []) (s8:SemS prog w LI (Gf w.params N 1106) (stAt w.params 1106 8) ⟨laB d (.tr u) a b l,[.dict []]⟩ (.ok .next) ⟨laB d (.tr u) a b l,[.dict (trK bd)]⟩)
  (hb:b.eq b=true) (s9:SemB prog w LI (Gf w.params N 1106) [stAt w.params 1106 9,stAt w.params 1106 10,stAt w.params 1106 11,stAt w.params 1106 12,stAt w.params 1106 13] ⟨laB d (.tr u) a b l,[.dict (trK bd)]⟩ (.ok (.ret (.bool (b.eq b)))) σ'):Con prog w LI (N+3) (.fn 1106) [] [.lst (l.map .int)] [] (.ok (.bool true)) []:=by
 have s5:=la5o (prog:=prog) (w:=w) (LI:=LI) (l:=l) (dv:=.tr u) hm
 have s58:SemB prog w LI (Gf w.params N 1106) [stAt w.params 1106 5,stAt w.params 1106 6,stAt w.params 1106 7,stAt w.params 1106 8] ⟨laR (.tr u) a b l,[]⟩ (.ok .next) ⟨laB d (.tr u) a b l,[.dict (trK bd)]⟩ :=
  semB_run (σ:=⟨laR (.tr u) a b l,[],[.st (.ok .next) (("told", .bd (dX d))::laR (.tr u) a b l) [],.st (.ok .next) (laB d (.tr u) a b l) [.dict (trK bd)]]⟩) (P2 s5 s8) (by kernel_rfl)
 exact law_run hb hl hp hd h1 h2 (s58.app s9)
end
noncomputable def fld11 (P:Params) (c:Nat):Value×Option Value:=match (K P).lookup c with
 | some o=>(o.cls,match o.data with | .fields vs=>vs[11]? | _=>none)
 | none=>(.none,none)
theorem fld_at (P:Params):[fld11 P 289,fld11 P 263,fld11 P 277]=[(.type "code", some (.ref 285)),(.type "code", some (.ref 259)),(.type "code", some (.ref 273))]:=by kernel_rfl
theorem tab_at (P:Params):[(T46 P).get 285,(T46 P).get 259,(T46 P).get 273].map (fun o=>(o,o.bind alive))=[(some (tabObj #[]),some (tabObj #[])),(some (tabObj #[]),some (tabObj #[])),(some (tabObj #[]),some (tabObj #[]))]:=by kernel_rfl
theorem tab_out (P:Params):[(K P).lookup 285,(K P).lookup 259,(K P).lookup 273].all Option.isNone=true:=by kernel_rfl
theorem K_small (P:Params):(K P).all (fun p=>Nat.blt p.1 1107)=true:=by kernel_rfl
theorem law_at (P:Params):(match (K P).lookup 3 with | some o=>(match o.data with | .dict es _=>nsFind es dd.name | _=>none) | none=>none)=some (.ref 1106):=by kernel_rfl
theorem main3:(mainGlobals==3)=true:=by decide+kernel
theorem marg:claimMargin=300:=rfl
theorem codeT {P:Params} {h:Heap} {c T:Nat} (hk:∀ a o,(K P).lookup a=some o→h.get? a=some o) (e:fld11 P c=(.type "code", some (.ref T))):isCodeTable h T:=by
 unfold fld11 at e
 cases q:(K P).lookup c with
 | none=>rw [q] at e;cases e
 | some o =>
  rw [q] at e
  obtain ⟨e1,e2⟩:=Prod.mk.inj e
  cases q2:o.data with
  | fields vs=>rw [q2] at e2;exact ⟨c,o,vs,hk _ _ q,e1,q2,e2⟩
  | _=>rw [q2] at e2;cases e2
theorem ints_rvs {prog:Program} {w:World} {LI:Nat→Option LamInfo} {φ:Mp} {ca:List Addr}:∀ {us:List Value} {l:List Int},IntsAre us l→RVs prog w LI φ ca (l.map .int) us
 | _,_,.nil=>.nil
 | _,_,.cons _ _ r=>.cons .int (ints_rvs r)
theorem start {prog:Program} {w:World} {s:Shared} {a:Addr} {us:List Value} {l:List Int} (keep:∀ b o,(H1 w.params).get? b=some o→s.heap.get? b=some o) (ha:a=1107) {n:Nat} (hl:s.heap.get? a=some (listOf us.toArray n)) (hi:IntsAre us l)
  (h:Con prog w (LIx w.params) 229 (.fn 1106) [] [.lst (l.map .int)] [] (.ok (.bool true)) []) (Q:Value→Shared→Prop) (E:Value→Shared→Prop)
  (k:∀ s',OldK s.heap s'.heap→SameX s s'→Q (.bool true) s'):wpAny (model prog w) callerA (call (.ref 1106) [.ref a]) Q E s:=by
 have hK:∀ b o,(K w.params).lookup b=some o→s.heap.get? b=some o:=fun b o e=>keep b o (K_in _ b o e)
 have hne:∀ b o,(K w.params).lookup b=some o→b≠a:=fun b o e z=>by
  have:=List.all_eq_true.mp (K_small w.params) _ (mem_of_lookup e)
  have:=Nat.le_of_ble_eq_true this
  subst z;subst ha;omega
 have tb:∀ T∈tabA,(K w.params).lookup T=none∧s.heap.get? T=some (tabObj #[])∧isCodeTable s.heap T:=by
  have t1:=fld_at w.params
  have t2:=tab_at w.params
  have t3:=tab_out w.params
  simp only [List.all_cons,List.all_nil,Bool.and_true,Bool.and_eq_true,Option.isNone_iff_eq_none] at t3
  obtain ⟨a1,a2,a3⟩:=t3
  obtain ⟨b1,t1⟩:=List.cons.inj t1
  obtain ⟨b2,t1⟩:=List.cons.inj t1
  obtain ⟨b3,t1⟩:=List.cons.inj t1
  obtain ⟨c1,t2⟩:=List.cons.inj t2
  obtain ⟨c2,t2⟩:=List.cons.inj t2
  obtain ⟨c3,t2⟩:=List.cons.inj t2
  have g:∀ {T:Nat},T<1107→((T46 w.params).get T,((T46 w.params).get T).bind alive)=(some (tabObj #[]),some (tabObj #[]))→s.heap.get? T=some (tabObj #[]):=fun {T} lt e=>by
   obtain ⟨e1,e2⟩:=Prod.mk.inj e
   rw [e1] at e2
   exact keep _ _ ((abs_get lt e1).trans e2)
  intro T hT
  rcases List.mem_cons.mp hT with rfl | hT
  ·exact ⟨a1,g (by decide) c1,codeT hK b1⟩
  rcases List.mem_cons.mp hT with rfl | hT
  ·exact ⟨a2,g (by decide) c2,codeT hK b2⟩
  rcases List.mem_cons.mp hT with rfl | hT
  ·exact ⟨a3,g (by decide) c3,codeT hK b3⟩
  ·cases hT
 have tlt:∀ T∈tabA,T≠a:=fun T hT z=>by
  subst z;subst ha
  rcases List.mem_cons.mp hT with z | hT
  ·cases z
  rcases List.mem_cons.mp hT with z | hT
  ·cases z
  rcases List.mem_cons.mp hT with z | hT
  ·cases z
  ·cases hT
 let φ:Mp:=fun b=>if b=a then some (listOf us.toArray n) else (K w.params).lookup b
 have φa:φ a=some (listOf us.toArray n):=if_pos rfl
 have φn:∀ b,b≠a→φ b=(K w.params).lookup b:=fun b hb=>if_neg hb
 have hp:Hp prog w (LIx w.params) [] φ [] [] s.heap:=by
  refine ⟨fun b o e=>?_,fun b o e=>(φn b (hne b o e)).trans e,fun T hT=>?_,rfl,List.nodup_nil,fun i c b e=>(by cases e),fun b hb=>(by cases hb)⟩
  ·by_cases q:b=a
   ·subst q;rw [φa] at e;cases e;exact hl
   ·rw [φn b q] at e;exact hK b o e
  ·obtain ⟨h1,h2,h3⟩:=tb T hT
   exact ⟨(φn T (tlt T hT)).trans h1,nofun,nofun,#[],h2,(by constructor),fun pos cv e=>(by cases e)⟩
 refine wpAny_call (h callerA [] [] φ [] s (.ref 1106) [.ref a] [] ⟨rfl,?_,by decide+kernel⟩ rfl trivial hp .fn (.cons (.lst rfl (ints_rvs hi) φa) .nil) .nil Q E (fun b φ' v s' eo st hq sx r=>?_) (fun c φ' e s' eo=>by cases eo))
 ·show 1+claimMargin+3 * 229≤990
  rw [marg];decide
 ·cases eo
  obtain rfl:=r.bool_inv
  refine k s' ⟨fun b o e=>?_,fun b o e=>st.alive b ⟨o,e⟩⟩ sx
  by_cases q:b∈tabA
  ·obtain ⟨h1,h2,h3⟩:=tb b q
   rw [h2] at e
   cases e
   obtain ⟨_,_,_,ps,h4,_⟩:=hq.tab b q
   exact .inr (.inl ⟨h3,rfl,#[],ps,rfl,by rw [h4,Array.empty_append]⟩)
  ·exact .inl (st.keep b o e nofun nofun q)
theorem joined (lawc:∀ (prog:Program) (w:World) (l:List Int),l.length≤63→Con prog w (LIx w.params) 229 (.fn 1106) [] [.lst (l.map .int)] [] (.ok (.bool true)) []):rw0.Holds:=by
 refine head ?_
 intro w s₀ s₁ mg mb G Y fa o pm cd doc dV kV ho hd hcd hD hmg hg args vals as hL hpre hlay hrd hwl hlo
 refine Ground.open G ?_
 intro T B D TE TW
 clear B D TE TW hcd hD hd
 wrow_args hpre hlay hrd hwl hlo
 rename_i ns _ _ _ _ _ as1 as2 a its bs hIs _ _ _ hI _ hlen _
 have hh:s₀.heap=H1 w.params:=congrArg Prod.fst Y
 have h0:=PySem.W.X.script_at hL
 have hob:=PySem.W.X.script_obj hL hIs
 have hs:(H1 w.params).objs.size=1107:=by unfold H1 absHeap BT.list;simp
 have hf:fa=1106:=by
  obtain ⟨o3,es,ep,e1,e2,_,e4⟩:=T.g
  have q:=law_at w.params
  have m3:=main3
  cases q3:(K w.params).lookup 3 with
  | none=>rw [q3] at q;cases q
  | some o =>
   rw [q3] at q
   have:=hL.keeps _ _ (hh▸K_in _ 3 o q3)
   rw [show mainGlobals=3 from eq_of_beq m3,this] at e1
   cases e1
   replace q:(match o3.data with | .dict es _=>nsFind es dd.name | _=>none)=some (.ref 1106):=q
   rw [e2] at q
   have:=(e4 dd.name).symm.trans q
   rw [hmg] at this
   cases this;rfl
 subst hf
 refine start (fun b o e=>hL.keeps _ _ (hh▸e)) ?_ hob hI (lawc _ w ns (by omega)) _ _ fun s' hk hx=>?_
 ·rw [h0.1,hh,hs]
 ·exact ⟨.inl ⟨_,.bool true,[],rfl,fun _=>rfl,ReadsW.bool true,by kernel_rfl,fun _=>⟨List.nodup_nil,fun _ hm=>(nomatch hm)⟩⟩,hk,hx.2.2,by rw [hx.1,hg];exact AllBare.empty⟩
abbrev Fn:=Str→Option T
noncomputable def T.cnt (s:Str):T→Nat
 | .n x=>if x=s then 1 else 0
 | .mo t=>t.cnt s
 | .fa t=>t.cnt s
 | .su a b=>a.cnt s+b.cnt s
 | _=>0
noncomputable def T.sub (f:Fn):T→T
 | .n s=>(f s).getD (.n s)
 | .mo t=>.mo (t.sub f)
 | .fa t=>.fa (t.sub f)
 | .su a b=>.su (a.sub f) (b.sub f)
 | t=>t
noncomputable def zipT {β:Type} (nm:Str→T→β) (nil:β) (two:β→β→β) (no:β):T→T→β
 | .n s=>fun r=>nm s r
 | .ni _=>fun _=>no
 | .rex=>fun r=>match r with
  | .n s=>nm s .rex
  | .rex=>nil
  | _=>no
 | .tom=>fun r=>match r with
  | .n s=>nm s .tom
  | .tom=>nil
  | _=>no
 | .mo a=>fun r=>match r with
  | .n s=>nm s (.mo a)
  | .mo b=>zipT nm nil two no a b
  | _=>no
 | .fa a=>fun r=>match r with
  | .n s=>nm s (.fa a)
  | .fa b=>zipT nm nil two no a b
  | _=>no
 | .su a b=>fun r=>match r with
  | .n s=>nm s (.su a b)
  | .su c d=>two (zipT nm nil two no a c) (zipT nm nil two no b d)
  | _=>no
structure Blk (l r:T):Prop where
 no:∀ {β:Type} (nm:Str→T→β) (nil:β) (two:β→β→β) (no:β),zipT nm nil two no l r=no
 sub:∀ {β:Type} (f:Fn) (nm:Str→T→β) (nil:β) (two:β→β→β) (no:β),zipT nm nil two no (l.sub f) (r.sub f)=no
 ne:l.eq r=false∨¬ l.ok
 st:l.ok→r.ok→l.nm?=none∧r.nm?=none∧kids l r=none
structure Nmr (l:T) (s:Str):Prop where
 zip:∀ {β:Type} (nm:Str→T→β) (nil:β) (two:β→β→β) (no:β),zipT nm nil two no l (.n s)=nm s l
 nm:l.nm?=none
 ne:l.eq (.n s)=false
theorem pair_ind {P:T→T→Prop} (nl:∀ s r,P (.n s) r) (nr:∀ l s,Nmr l s→P l (.n s)) (rex:P .rex .rex) (tom:P .tom .tom) (mo:∀ a b,P a b→P (.mo a) (.mo b)) (fa:∀ a b,P a b→P (.fa a) (.fa b))
  (su:∀ a b c d,P a c→P b d→P (.su a b) (.su c d)) (no:∀ l r,Blk l r→P l r):∀ a b,P a b:=by
 intro a
 induction a with
 | n s=>exact nl s
 | ni k=>exact fun r=>no _ _ ⟨fun _ _ _ _=>rfl,fun _ _ _ _ _=>rfl,.inr id,fun h=>h.elim⟩
 | rex=>exact fun r=>by cases r<;>first | exact rex | exact nr _ _ ⟨fun _ _ _ _=>rfl,rfl,rfl⟩ | exact no _ _ ⟨fun _ _ _ _=>rfl,fun _ _ _ _ _=>rfl,.inl rfl,fun _ _=>⟨rfl,rfl,rfl⟩⟩
 | tom=>exact fun r=>by cases r<;>first | exact tom | exact nr _ _ ⟨fun _ _ _ _=>rfl,rfl,rfl⟩ | exact no _ _ ⟨fun _ _ _ _=>rfl,fun _ _ _ _ _=>rfl,.inl rfl,fun _ _=>⟨rfl,rfl,rfl⟩⟩
 | mo a ih=>exact fun r=>by cases r<;>first | exact mo _ _ (ih _) | exact nr _ _ ⟨fun _ _ _ _=>rfl,rfl,rfl⟩ | exact no _ _ ⟨fun _ _ _ _=>rfl,fun _ _ _ _ _=>rfl,.inl rfl,fun _ _=>⟨rfl,rfl,rfl⟩⟩
 | fa a ih=>exact fun r=>by cases r<;>first | exact fa _ _ (ih _) | exact nr _ _ ⟨fun _ _ _ _=>rfl,rfl,rfl⟩ | exact no _ _ ⟨fun _ _ _ _=>rfl,fun _ _ _ _ _=>rfl,.inl rfl,fun _ _=>⟨rfl,rfl,rfl⟩⟩
 | su a b iha ihb=>exact fun r=>by cases r<;>first | exact su _ _ _ _ (iha _) (ihb _) | exact nr _ _ ⟨fun _ _ _ _=>rfl,rfl,rfl⟩ | exact no _ _ ⟨fun _ _ _ _=>rfl,fun _ _ _ _ _=>rfl,.inl rfl,fun _ _=>⟨rfl,rfl,rfl⟩⟩
theorem T.eq_is {a:T}:∀ {b:T},a.eq b=true→a=b:=by
 induction a with
 | n x=>intro b h;cases b<;>first | exact congrArg T.n (of_decide_eq_true h) | exact absurd h Bool.false_ne_true
 | ni x=>intro b h;cases b<;>first | exact congrArg T.ni (of_decide_eq_true h) | exact absurd h Bool.false_ne_true
 | rex=>intro b h;cases b<;>first | rfl | exact absurd h Bool.false_ne_true
 | tom=>intro b h;cases b<;>first | rfl | exact absurd h Bool.false_ne_true
 | mo a ih=>intro b h;cases b<;>first | exact congrArg T.mo (ih h) | exact absurd h Bool.false_ne_true
 | fa a ih=>intro b h;cases b<;>first | exact congrArg T.fa (ih h) | exact absurd h Bool.false_ne_true
 | su a c ih ih2=>intro b h;cases b<;>first | exact congr (congrArg T.su (ih (Bool.and_eq_true_iff.mp h).1)) (ih2 (Bool.and_eq_true_iff.mp h).2) | exact absurd h Bool.false_ne_true
theorem T.eq_not {a b:T} (h:a≠b):a.eq b=false:=by
 cases q:a.eq b with
 | false=>rfl
 | true=>exact absurd (T.eq_is q) h
noncomputable abbrev Sol (f:Fn):T→T→Prop:=zipT (fun s r=>f s=some r) True And False
noncomputable def insB (bd:List (Str×T)) (s:Str) (v:T):Option (List (Str×T)):=match bd.lookup s with
 | none=>some (bd++[(s,v)])
 | some v'=>if v'.eq v then some bd else none
noncomputable abbrev mt:T→T→List (Str×T)→Option (List (Str×T)):=zipT (fun s r bd=>insB bd s r) some (fun g h bd=>(h bd).bind g) (fun _=>none)
noncomputable def addT:List (Str×T)→List (Str×T)→Option (List (Str×T))
 | d,[]=>some d
 | d,p::ps=>(insB d p.1 p.2).bind fun d'=>addT d' ps
noncomputable abbrev mg:T→T→Option (List (Str×T)):=zipT (fun s r=>some [(s,r)]) (some []) (fun x y=>x.bind fun d1=>y.bind fun d2=>addT d1 d2) none
abbrev lk (d:List (Str×T)):Fn:=fun s=>d.lookup s
def Le (d:List (Str×T)) (f:Fn):Prop:=∀ p∈d,f p.1=some p.2
abbrev Fun (d:List (Str×T)):Prop:=Le d (lk d)
theorem Sol.mono {f g:Fn} (h:∀ s v,f s=some v→g s=some v):∀ a b,Sol f a b→Sol g a b:=by
 refine pair_ind (fun s r q=>h _ _ q) (fun l s z q=>?_) id id (fun _ _ i=>i) (fun _ _ i=>i) (fun _ _ _ _ i j q=>⟨i q.1,j q.2⟩) (fun l r z q=>?_)
 ·have q:Sol f l (.n s):=q
  rw [Sol,z.zip] at q ⊢;exact h _ _ q
 ·rw [Sol,z.no] at q;exact q.elim
theorem look_app (s x:Str) (v:T):∀ d:List (Str×T),(d++[(s,v)]).lookup x=(d.lookup x).or (if x=s then some v else none)
 | []=>by
  show List.lookup x [(s,v)]=_
  rw [List.lookup_cons]
  by_cases h:x=s
  ·rw [if_pos h,h,beq_self_eq_true];rfl
  ·rw [if_neg h,beq_eq_false_iff_ne.mpr h];rfl
 | (k,e)::d=>by
  rw [List.cons_append,List.lookup_cons,List.lookup_cons]
  cases x==k with
  | true=>rfl
  | false=>exact look_app s x v d
theorem Le.look {d:List (Str×T)} {f:Fn} (h:Le d f) {s:Str} {v:T} (e:d.lookup s=some v):f s=some v:=h (s,v) (lookup_mem e)
theorem Le.trans {d e:List (Str×T)} {f:Fn} (h:Le d (lk e)) (g:Le e f):Le d f:=fun p hp=>g.look (h p hp)
theorem ins_ok {bd bd':List (Str×T)} {s:Str} {v:T} (h:insB bd s v=some bd'):bd'=bd∧bd.lookup s=some v∨bd'=bd++[(s,v)]∧bd.lookup s=none:=by
 unfold insB at h
 cases q:bd.lookup s with
 | none=>rw [q] at h;cases h;exact .inr ⟨rfl,rfl⟩
 | some v' =>
  rw [q] at h
  replace h:(if v'.eq v then some bd else none)=some bd':=h
  cases z:v'.eq v with
  | true=>rw [z,if_pos rfl] at h;cases h;exact .inl ⟨rfl,by rw [T.eq_is z]⟩
  | false=>rw [z] at h;cases h
theorem ins_no {bd:List (Str×T)} {s:Str} {v:T} (h:insB bd s v=none):∃ v',bd.lookup s=some v'∧v'≠v:=by
 unfold insB at h
 cases q:bd.lookup s with
 | none=>rw [q] at h;cases h
 | some v' =>
  rw [q] at h
  exact ⟨v',rfl,fun z=>by subst z;replace h:(if v'.eq v' then some bd else none)=none:=h;rw [T.eq_refl,if_pos rfl] at h;cases h⟩
theorem ins_least {bd:List (Str×T)} (hf:Fun bd) {s:Str} {v:T}:(∀ bd',insB bd s v=some bd'→Fun bd'∧Le bd (lk bd')∧bd'.lookup s=some v∧∀ f,Le bd f→f s=some v→Le bd' f)∧(insB bd s v=none→∀ f,Le bd f→f s≠some v):=by
 refine ⟨fun bd' h=>?_,fun h f hl e=>?_⟩
 ·rcases ins_ok h with ⟨rfl,e⟩ | ⟨rfl,e⟩
  ·exact ⟨hf,hf,e,fun f hl _=>hl⟩
  ·have k:Le bd (lk (bd++[(s,v)])):=fun p hp=>by show List.lookup _ _=_;rw [look_app,show bd.lookup p.1=_ from hf p hp];rfl
   have k2:(bd++[(s,v)]).lookup s=some v:=by rw [look_app,e,if_pos rfl];rfl
   refine ⟨fun p hp=>?_,k,k2,fun f hl e2 p hp=>?_⟩
   ·rcases List.mem_append.mp hp with hp | hp
    ·exact k p hp
    ·rw [List.mem_singleton] at hp;subst hp;exact k2
   ·rcases List.mem_append.mp hp with hp | hp
    ·exact hl p hp
    ·rw [List.mem_singleton] at hp;subst hp;exact e2
 ·obtain ⟨v',q,n⟩:=ins_no h
  have:=hl.look q
  rw [e] at this
  cases this
  exact n rfl
theorem mt_least:∀ a b (bd:List (Str×T)),Fun bd→(∀ bd',mt a b bd=some bd'→Fun bd'∧Le bd (lk bd')∧Sol (lk bd') a b∧∀ f,Le bd f→Sol f a b→Le bd' f)∧(mt a b bd=none→∀ f,Le bd f→¬ Sol f a b):=by
 have nil:∀ (bd:List (Str×T)),Fun bd→(∀ bd',some bd=some bd'→Fun bd'∧Le bd (lk bd')∧True∧∀ f,Le bd f→True→Le bd' f)∧(some bd=none→∀ f,Le bd f→¬ True):=fun bd hf=>⟨fun bd' h=>by cases h;exact ⟨hf,hf,trivial,fun _ h _=>h⟩,fun h=>by cases h⟩
 refine pair_ind (fun s r bd hf=>ins_least hf) (fun l s z bd hf=>?_) nil nil (fun _ _ i=>i) (fun _ _ i=>i) (fun a b c d i j bd hf=>?_) (fun l r z bd hf=>?_)
 ·have e1:mt l (.n s)=fun bd=>insB bd s l:=z.zip ..
  have e2:∀ f,Sol f l (.n s)=(f s=some l):=fun f=>z.zip ..
  rw [e1]
  simp only [e2]
  exact ins_least hf
 ·show (∀ bd',(mt b d bd).bind (mt a c)=some bd'→Fun bd'∧Le bd (lk bd')∧(Sol (lk bd') a c∧Sol (lk bd') b d)∧∀ f,Le bd f→(Sol f a c∧Sol f b d)→Le bd' f)∧((mt b d bd).bind (mt a c)=none→∀ f,Le bd f→¬ (Sol f a c∧Sol f b d))
  have J:=j bd hf
  cases q:mt b d bd with
  | none=>exact ⟨fun _ h=>(by cases h),fun _ f hl hs=>J.2 q f hl hs.2⟩
  | some b1 =>
   obtain ⟨f1,l1,s1,m1⟩:=J.1 b1 q
   have I:=i b1 f1
   refine ⟨fun bd' h=>?_,fun h f hl hs=>I.2 h f (m1 f hl hs.2) hs.1⟩
   obtain ⟨f2,l2,s2,m2⟩:=I.1 bd' h
   exact ⟨f2,l1.trans l2,⟨s2,Sol.mono (fun s v e=>l2.look e) _ _ s1⟩,fun f hl hs=>m2 f (m1 f hl hs.2) hs.1⟩
 ·have e1:mt l r=fun _=>none:=z.no ..
  have e2:∀ f,Sol f l r=False:=fun f=>z.no ..
  rw [e1]
  simp only [e2]
  exact ⟨fun _ h=>(by cases h),fun _ _ _ h=>h⟩
theorem add_least:∀ (d2 d1:List (Str×T)),Fun d1→(∀ d,addT d1 d2=some d→Fun d∧Le d1 (lk d)∧Le d2 (lk d)∧∀ f,Le d1 f→Le d2 f→Le d f)∧(addT d1 d2=none→∀ f,Le d1 f→¬ Le d2 f)
 | [],d1,hf=>⟨fun d h=>by cases h;exact ⟨hf,hf,nofun,fun _ h _=>h⟩,fun h=>by cases h⟩
 | p::ps,d1,hf=>by
  have e:addT d1 (p::ps)=(insB d1 p.1 p.2).bind fun d'=>addT d' ps:=rfl
  rw [e]
  have I:=ins_least (s:=p.1) (v:=p.2) hf
  cases q:insB d1 p.1 p.2 with
  | none=>exact ⟨fun _ h=>(by cases h),fun _ f h1 h2=>I.2 q f h1 (h2 p (.head _))⟩
  | some b1 =>
   obtain ⟨f1,l1,s1,m1⟩:=I.1 b1 q
   have J:=add_least ps b1 f1
   refine ⟨fun d h=>?_,fun h f h1 h2=>J.2 h f (m1 f h1 (h2 p (.head _))) fun r hr=>h2 r (.tail _ hr)⟩
   obtain ⟨f2,l2,s2,m2⟩:=J.1 d h
   refine ⟨f2,l1.trans l2,fun r hr=>?_,fun f h1 h2=>m2 f (m1 f h1 (h2 p (.head _))) fun r hr=>h2 r (.tail _ hr)⟩
   rcases List.mem_cons.mp hr with rfl | hr
   ·exact l2.look s1
   ·exact s2 r hr
theorem mg_least:∀ a b,(∀ d,mg a b=some d→Fun d∧Sol (lk d) a b∧∀ f,Sol f a b→Le d f)∧(mg a b=none→∀ f,¬ Sol f a b):=by
 have one:∀ s r,(∀ d,some [((s,r):Str×T)]=some d→Fun d∧d.lookup s=some r∧∀ f:Fn,f s=some r→Le d f)∧(some [((s,r):Str×T)]=none→∀ f:Fn,¬ f s=some r):=fun s r=>⟨fun d h=>by
  cases h
  have k:List.lookup s [(s,r)]=some r:=by rw [List.lookup_cons,beq_self_eq_true]
  exact ⟨fun p hp=>by rw [List.mem_singleton] at hp;subst hp;exact k,k,fun f e p hp=>by rw [List.mem_singleton] at hp;subst hp;exact e⟩,fun h=>by cases h⟩
 have nil:(∀ d,some ([]:List (Str×T))=some d→Fun d∧True∧∀ f:Fn,True→Le d f)∧(some ([]:List (Str×T))=none→∀ f:Fn,¬ True):=⟨fun d h=>by cases h;exact ⟨nofun,trivial,fun _ _=>nofun⟩,fun h=>by cases h⟩
 refine pair_ind (fun s r=>one s r) (fun l s z=>?_) nil nil (fun _ _ i=>i) (fun _ _ i=>i) (fun a b c d i j=>?_) (fun l r z=>?_)
 ·have e1:mg l (.n s)=some [(s,l)]:=z.zip ..
  have e2:∀ f,Sol f l (.n s)=(f s=some l):=fun f=>z.zip ..
  rw [e1]
  simp only [e2]
  exact one s l
 ·show (∀ e,((mg a c).bind fun d1=>(mg b d).bind fun d2=>addT d1 d2)=some e→Fun e∧(Sol (lk e) a c∧Sol (lk e) b d)∧∀ f,(Sol f a c∧Sol f b d)→Le e f)∧(((mg a c).bind fun d1=>(mg b d).bind fun d2=>addT d1 d2)=none→∀ f,¬ (Sol f a c∧Sol f b d))
  cases q:mg a c with
  | none=>exact ⟨fun _ h=>(by cases h),fun _ f hs=>i.2 q f hs.1⟩
  | some d1 =>
   obtain ⟨f1,s1,m1⟩:=i.1 d1 q
   cases q2:mg b d with
   | none=>exact ⟨fun _ h=>(by cases h),fun _ f hs=>j.2 q2 f hs.2⟩
   | some d2 =>
    obtain ⟨f2,s2,m2⟩:=j.1 d2 q2
    have A:=add_least d2 d1 f1
    refine ⟨fun e h=>?_,fun h f hs=>A.2 h f (m1 f hs.1) (m2 f hs.2)⟩
    obtain ⟨f3,l1,l2,m3⟩:=A.1 e h
    exact ⟨f3,⟨Sol.mono (fun s v e=>l1.look e) _ _ s1,Sol.mono (fun s v e=>l2.look e) _ _ s2⟩,fun f hs=>m3 f (m1 f hs.1) (m2 f hs.2)⟩
 ·have e1:mg l r=none:=z.no ..
  have e2:∀ f,Sol f l r=False:=fun f=>z.no ..
  rw [e1]
  simp only [e2]
  exact ⟨fun _ h=>(by cases h),fun _ _ h=>h⟩
theorem mt_mg (a b:T):(∀ d,mg a b=some d→∃ bd,mt a b []=some bd∧lk bd=lk d)∧(mg a b=none→mt a b []=none):=by
 have G:=mg_least a b
 have M:=mt_least a b [] nofun
 refine ⟨fun d h=>?_,fun h=>?_⟩
 ·obtain ⟨f1,s1,m1⟩:=G.1 d h
  cases q:mt a b [] with
  | none=>exact absurd s1 (M.2 q _ nofun)
  | some bd =>
   obtain ⟨f2,_,s2,m2⟩:=M.1 bd q
   refine ⟨bd,rfl,funext fun s=>?_⟩
   have k1:=m1 _ s2
   have k2:=m2 _ nofun s1
   cases e:bd.lookup s with
   | some v=>exact e.trans (k2.look e).symm
   | none =>
    cases e2:d.lookup s with
    | none=>exact e.trans e2.symm
    | some v=>have:=e.symm.trans (k1.look e2);cases this
 ·cases q:mt a b [] with
  | none=>rfl
  | some bd=>exact absurd (M.1 bd q).2.2.1 (G.2 h _)
theorem su_eq {a a' b b':T} (h:a=a') (k:b=b'):T.su a b=T.su a' b':=by subst h;subst k;rfl
structure Sb (v t:T):Prop where
 ht:v.ht≤t.ht
 ok:t.ok→v.ok
 cnt:∀ x,v.cnt x≤t.cnt x
theorem Sb.refl (t:T):Sb t t:=⟨Nat.le_refl _,id,fun _=>Nat.le_refl _⟩
theorem Sb.mo {v t:T} (h:Sb v t):Sb v (.mo t):=⟨Nat.le_succ_of_le h.ht,h.ok,h.cnt⟩
theorem Sb.fa {v t:T} (h:Sb v t):Sb v (.fa t):=⟨Nat.le_succ_of_le h.ht,h.ok,h.cnt⟩
theorem Sb.sl {v t:T} (u:T) (h:Sb v t):Sb v (.su t u):=⟨Nat.le_succ_of_le (Nat.le_trans h.ht (Nat.le_max_left ..)),fun o=>h.ok o.1,fun x=>Nat.le_trans (h.cnt x) (Nat.le_add_right ..)⟩
theorem Sb.sr {v t:T} (u:T) (h:Sb v t):Sb v (.su u t):=⟨Nat.le_succ_of_le (Nat.le_trans h.ht (Nat.le_max_right ..)),fun o=>h.ok o.2,fun x=>Nat.le_trans (h.cnt x) (Nat.le_add_left ..)⟩
def Ent (a b:T) (p:Str×T):Prop:=(a.cnt p.1≠0∧Sb p.2 b)∨(b.cnt p.1≠0∧Sb p.2 a)
theorem Ent.sl {a b:T} (c d:T) {p:Str×T}:Ent a b p→Ent (.su a c) (.su b d) p
 | .inl h=>.inl ⟨fun z=>h.1 (Nat.eq_zero_of_add_eq_zero_right z),h.2.sl d⟩
 | .inr h=>.inr ⟨fun z=>h.1 (Nat.eq_zero_of_add_eq_zero_right z),h.2.sl c⟩
theorem Ent.sr {a b:T} (c d:T) {p:Str×T}:Ent a b p→Ent (.su c a) (.su d b) p
 | .inl h=>.inl ⟨fun z=>h.1 (Nat.eq_zero_of_add_eq_zero_left z),h.2.sr d⟩
 | .inr h=>.inr ⟨fun z=>h.1 (Nat.eq_zero_of_add_eq_zero_left z),h.2.sr c⟩
theorem Ent.mo {a b:T} {p:Str×T}:Ent a b p→Ent (.mo a) (.mo b) p
 | .inl h=>.inl ⟨h.1,h.2.mo⟩
 | .inr h=>.inr ⟨h.1,h.2.mo⟩
theorem Ent.fa {a b:T} {p:Str×T}:Ent a b p→Ent (.fa a) (.fa b) p
 | .inl h=>.inl ⟨h.1,h.2.fa⟩
 | .inr h=>.inr ⟨h.1,h.2.fa⟩
theorem cnt_self (s:Str):(T.n s).cnt s=1:=if_pos rfl
theorem cnt_name {s x:Str} (h:(T.n s).cnt x≠0):x=s:=by
 by_cases q:s=x
 ·exact q.symm
 ·exact absurd (if_neg q) h
theorem ins_mem {bd bd':List (Str×T)} {s:Str} {v:T} (h:insB bd s v=some bd'):∀ p∈bd',p∈bd∨p=(s,v):=by
 intro p hp
 rcases ins_ok h with ⟨rfl,_⟩ | ⟨rfl,_⟩
 ·exact .inl hp
 ·exact (List.mem_append.mp hp).imp id List.mem_singleton.mp
theorem add_mem:∀ {d2 d1 d:List (Str×T)},addT d1 d2=some d→∀ p∈d,p∈d1∨p∈d2
 | [],d1,d,h,p,hp=>by cases h;exact .inl hp
 | q::ps,d1,d,h,p,hp=>by
  obtain ⟨b1,h1,h2⟩:=Option.bind_eq_some_iff.mp h
  rcases add_mem h2 p hp with z | z
  ·rcases ins_mem h1 p z with z | rfl
   ·exact .inl z
   ·exact .inr (.head _)
  ·exact .inr (.tail _ z)
theorem add_inv {x y:Option (List (Str×T))} {d:List (Str×T)} (h:(x.bind fun d1=>y.bind fun d2=>addT d1 d2)=some d):∃ d1 d2,x=some d1∧y=some d2∧addT d1 d2=some d:=by
 obtain ⟨d1,h1,h2⟩:=Option.bind_eq_some_iff.mp h
 obtain ⟨d2,h3,h4⟩:=Option.bind_eq_some_iff.mp h2
 exact ⟨d1,d2,h1,h3,h4⟩
theorem ent_l {s:Str} {r:T} {p:Str×T} (h:p=(s,r)):Ent (.n s) r p:=by subst h;exact .inl ⟨by rw [cnt_self];exact Nat.one_ne_zero,.refl r⟩
theorem ent_r {s:Str} {r:T} {p:Str×T} (h:p=(s,r)):Ent r (.n s) p:=by subst h;exact .inr ⟨by rw [cnt_self];exact Nat.one_ne_zero,.refl r⟩
theorem mg_ent:∀ a b,∀ d,mg a b=some d→∀ p∈d,Ent a b p:=by
 refine pair_ind (fun s r d h p hp=>?_) (fun l s z d h p hp=>?_) (fun d h p hp=>?_) (fun d h p hp=>?_) (fun _ _ i d h p hp=>(i d h p hp).mo) (fun _ _ i d h p hp=>(i d h p hp).fa) (fun a b c d i j e h p hp=>?_) (fun l r z d h p hp=>?_)
 ·replace h:some [(s,r)]=some d:=h
  cases h;exact ent_l (List.mem_singleton.mp hp)
 ·rw [mg,z.zip] at h;cases h;exact ent_r (List.mem_singleton.mp hp)
 ·replace h:some []=some d:=h
  cases h;cases hp
 ·replace h:some []=some d:=h
  cases h;cases hp
 ·obtain ⟨d1,d2,h1,h2,h3⟩:=add_inv h
  rcases add_mem h3 p hp with z | z
  ·exact (i _ h1 p z).sl b d
  ·exact (j _ h2 p z).sr a c
 ·rw [mg,z.no] at h;cases h
theorem mt_ent:∀ a b,∀ bd bd',mt a b bd=some bd'→∀ p∈bd',p∈bd∨Ent a b p:=by
 refine pair_ind (fun s r bd d h p hp=>(ins_mem h p hp).imp id ent_l) (fun l s z bd d h p hp=>?_) (fun bd d h p hp=>?_) (fun bd d h p hp=>?_) (fun _ _ i bd d h p hp=>(i bd d h p hp).imp id Ent.mo) (fun _ _ i bd d h p hp=>(i bd d h p hp).imp id Ent.fa) (fun a b c d i j bd e h p hp=>?_) (fun l r z bd d h p hp=>?_)
 ·rw [mt,z.zip] at h;exact (ins_mem h p hp).imp id ent_r
 ·replace h:some bd=some d:=h
  cases h;exact .inl hp
 ·replace h:some bd=some d:=h
  cases h;exact .inl hp
 ·obtain ⟨b1,h1,h2⟩:=Option.bind_eq_some_iff.mp h
  rcases i _ _ h2 p hp with z | z
  ·exact (j _ _ h1 p z).imp id (Ent.sr a c)
  ·exact .inr (z.sl b d)
 ·rw [mt,z.no] at h;cases h
abbrev Lin (a b:T):Prop:=∀ s,a.cnt s+b.cnt s≤1
abbrev Gr (a:T):Prop:=∀ s,a.cnt s=0
def Cd (a b:T):Prop:=Lin a b∨Gr a∨Gr b
theorem Cd.dis {a b:T} (h:Cd a b) (s:Str):a.cnt s=0∨b.cnt s=0:=by
 rcases h with h | h | h
 ·have:=h s;omega
 ·exact .inl (h s)
 ·exact .inr (h s)
def Idem (d:List (Str×T)):Prop:=∀ p∈d,∀ q∈d,q.2.cnt p.1=0
theorem ent_gr {a b:T} (h:Gr a∨Gr b) {p:Str×T} (e:Ent a b p):Gr p.2:=by
 intro x
 rcases h with h | h
 ·rcases e with ⟨e,_⟩ | ⟨_,e⟩
  ·exact absurd (h _) e
  ·have:=e.cnt x;have:=h x;omega
 ·rcases e with ⟨_,e⟩ | ⟨e,_⟩
  ·have:=e.cnt x;have:=h x;omega
  ·exact absurd (h _) e
theorem ent_cnt {a b:T} {p:Str×T} (e:Ent a b p):a.cnt p.1+b.cnt p.1≠0∧∀ x,p.2.cnt x≤a.cnt x+b.cnt x:=by
 rcases e with ⟨e,f⟩ | ⟨e,f⟩
 ·exact ⟨by omega,fun x=>Nat.le_trans (f.cnt x) (Nat.le_add_left ..)⟩
 ·exact ⟨by omega,fun x=>Nat.le_trans (f.cnt x) (Nat.le_add_right ..)⟩
theorem lin0 {A B q:Nat} (h:A+B≤1) (n:A≠0) (k:q≤B):q=0:=by omega
theorem mg_lin:∀ a b,Lin a b→∀ d,mg a b=some d→Idem d:=by
 have one:∀ {s:Str} {r:T},r.cnt s=0→∀ {d},some [(s,r)]=some d→Idem d:=fun h d e p hp q hq=>by
  cases e
  rw [List.mem_singleton.mp hp,List.mem_singleton.mp hq];exact h
 refine pair_ind (fun s r hl d h=>one ?_ h) (fun l s z hl d h=>?_) (fun _ d h=>?_) (fun _ d h=>?_) (fun _ _ i hl d h=>i hl d h) (fun _ _ i hl d h=>i hl d h) (fun a b c d i j hl e h=>?_) (fun l r z _ d h=>?_)
 ·have:=hl s;rw [cnt_self] at this;omega
 ·rw [mg,z.zip] at h;exact one (by have:=hl s;rw [cnt_self] at this;omega) h
 ·replace h:some []=some d:=h
  cases h;exact nofun
 ·replace h:some []=some d:=h
  cases h;exact nofun
 ·obtain ⟨d1,d2,h1,h2,h3⟩:=add_inv h
  have hs:∀ s,(a.cnt s+c.cnt s)+(b.cnt s+d.cnt s)≤1:=fun s=>Nat.le_trans (Nat.le_of_eq (Nat.add_add_add_comm ..)) (hl s)
  have I:=i (fun s=>Nat.le_trans (Nat.le_add_right ..) (hs s)) d1 h1
  have J:=j (fun s=>Nat.le_trans (Nat.le_add_left ..) (hs s)) d2 h2
  intro p hp q hq
  rcases add_mem h3 p hp with z | z<;>rcases add_mem h3 q hq with y | y
  ·exact I p z q y
  ·exact lin0 (hs p.1) (ent_cnt (mg_ent _ _ _ h1 p z)).1 ((ent_cnt (mg_ent _ _ _ h2 q y)).2 p.1)
  ·exact lin0 (Nat.add_comm _ _▸hs p.1) (ent_cnt (mg_ent _ _ _ h2 p z)).1 ((ent_cnt (mg_ent _ _ _ h1 q y)).2 p.1)
  ·exact J p z q y
 ·rw [mg,z.no] at h;cases h
theorem mg_idem {a b:T} (h:Cd a b) {d:List (Str×T)} (e:mg a b=some d):Idem d:=by
 rcases h with h | h
 ·exact mg_lin a b h d e
 ·exact fun p hp q hq=>ent_gr h (mg_ent _ _ _ e q hq) p.1
theorem fsub_id (f:Fn):∀ t:T,(∀ x,t.cnt x≠0→f x=none)→t.sub f=t
 | .n s,h=>by show (f s).getD _=_;rw [h s (by rw [cnt_self];exact Nat.one_ne_zero)];rfl
 | .ni _,_=>rfl
 | .rex,_=>rfl
 | .tom,_=>rfl
 | .mo t,h=>congrArg T.mo (fsub_id f t h)
 | .fa t,h=>congrArg T.fa (fsub_id f t h)
 | .su a b,h=>su_eq (fsub_id f a fun x n=>h x (fun z=>n (Nat.eq_zero_of_add_eq_zero_right z))) (fsub_id f b fun x n=>h x (fun z=>n (Nat.eq_zero_of_add_eq_zero_left z)))
theorem sol_sub {f:Fn} (hf:∀ s v,f s=some v→v.sub f=v):∀ a b,Sol f a b→a.sub f=b.sub f∧(a.sub f).ht≤max a.ht b.ht:=by
 have one:∀ s r,f s=some r→(T.n s).sub f=r.sub f∧(r.sub f).ht≤r.ht:=fun s r h=>by
  have e:(T.n s).sub f=r:=by show (f s).getD _=_;rw [h];rfl
  rw [hf s r h,e];exact ⟨rfl,Nat.le_refl _⟩
 refine pair_ind (fun s r h=>?_) (fun l s z h=>?_) (fun _=>⟨rfl,Nat.zero_le _⟩) (fun _=>⟨rfl,Nat.zero_le _⟩) (fun a b i h=>?_) (fun a b i h=>?_) (fun a b c d i j h=>?_) (fun l r z h=>?_)
 ·obtain ⟨e,q⟩:=one s r h
  rw [e];exact ⟨rfl,Nat.le_trans q (Nat.le_max_right ..)⟩
 ·rw [Sol,z.zip] at h
  obtain ⟨e,q⟩:=one s l h
  rw [e];exact ⟨rfl,Nat.le_trans q (Nat.le_max_left ..)⟩
 ·obtain ⟨e,q⟩:=i h
  exact ⟨congrArg T.mo e,mxs q⟩
 ·obtain ⟨e,q⟩:=i h
  exact ⟨congrArg T.fa e,mxs q⟩
 ·obtain ⟨e,q⟩:=i h.1
  obtain ⟨e2,q2⟩:=j h.2
  exact ⟨su_eq e e2,mxs (Nat.max_le.mpr ⟨Nat.le_trans q (mx_le (Nat.le_max_left ..) (Nat.le_max_left ..)),Nat.le_trans q2 (mx_le (Nat.le_max_right ..) (Nat.le_max_right ..))⟩)⟩
 ·rw [Sol,z.no] at h;exact h.elim
theorem sub_ht {f g:Fn} (h:∀ s v,f s=some v→g s=some v):∀ t:T,(t.sub f).ht≤(t.sub g).ht
 | .n s=>by
  show ((f s).getD _).ht≤((g s).getD _).ht
  cases q:f s with
  | none=>exact Nat.zero_le _
  | some v=>rw [h s v q];exact Nat.le_refl _
 | .ni _=>Nat.le_refl _
 | .rex=>Nat.le_refl _
 | .tom=>Nat.le_refl _
 | .mo t=>Nat.succ_le_succ (sub_ht h t)
 | .fa t=>Nat.succ_le_succ (sub_ht h t)
 | .su a b=>Nat.succ_le_succ (mx_le (sub_ht h a) (sub_ht h b))
theorem fsub_ok {f:Fn} (h:∀ s v,f s=some v→v.ok):∀ t:T,t.ok→(t.sub f).ok
 | .n s,o=>by
  show ((f s).getD _).ok
  cases q:f s with
  | none=>exact o
  | some v=>exact h s v q
 | .ni _,o=>o
 | .rex,o=>o
 | .tom,o=>o
 | .mo t,o=>fsub_ok h t o
 | .fa t,o=>fsub_ok h t o
 | .su a b,o=>⟨fsub_ok h a o.1,fsub_ok h b o.2⟩
theorem sub_congr {f g:Fn}:∀ t:T,(∀ x,t.cnt x≠0→f x=g x)→t.sub f=t.sub g
 | .n s,h=>by show (f s).getD _=(g s).getD _;rw [h s (by rw [cnt_self];exact Nat.one_ne_zero)]
 | .ni _,_=>rfl
 | .rex,_=>rfl
 | .tom,_=>rfl
 | .mo t,h=>congrArg T.mo (sub_congr t h)
 | .fa t,h=>congrArg T.fa (sub_congr t h)
 | .su a b,h=>su_eq (sub_congr a fun x n=>h x (fun z=>n (Nat.eq_zero_of_add_eq_zero_right z))) (sub_congr b fun x n=>h x (fun z=>n (Nat.eq_zero_of_add_eq_zero_left z)))
theorem fill_id (b:List (Str×T)):∀ (t:T) (k:Nat),t.ok→t.ht<k→(∀ x,t.cnt x≠0→b.lookup x=none)→fill b k t=some t
 | t,0,_,l,_=>absurd l (Nat.not_lt_zero _)
 | .n s,k+1,_,_,h=>by
  have:=h s (by rw [cnt_self];exact Nat.one_ne_zero)
  show (match b.lookup s with | none=>some (T.n s) | some t=>fill b k t)=_
  rw [this]
 | .ni _,k+1,o,_,_=>o.elim
 | .rex,k+1,_,_,_=>rfl
 | .tom,k+1,_,_,_=>rfl
 | .mo t,k+1,o,l,h=>by show (fill b k t).map _=_;rw [fill_id b t k o (Nat.lt_of_succ_lt_succ l) h];rfl
 | .fa t,k+1,o,l,h=>by show (fill b k t).map _=_;rw [fill_id b t k o (Nat.lt_of_succ_lt_succ l) h];rfl
 | .su x y,k+1,o,l,h=>by
  have l2:max x.ht y.ht+1<k+1:=l
  show (fill b k x).bind _=_
  rw [fill_id b x k o.1 (Nat.lt_of_le_of_lt (Nat.le_max_left ..) (Nat.lt_of_succ_lt_succ l2)) fun z n=>h z (fun e=>n (Nat.eq_zero_of_add_eq_zero_right e)),fill_id b y k o.2 (Nat.lt_of_le_of_lt (Nat.le_max_right ..) (Nat.lt_of_succ_lt_succ l2)) fun z n=>h z (fun e=>n (Nat.eq_zero_of_add_eq_zero_left e))];rfl
theorem fl2 {m x H k:Nat} (h:x≤m) (l:m+1+H+2≤k+1):x+H+2≤k:=by omega
theorem fill_sub (b:List (Str×T)) (H:Nat) (hb:∀ s v,b.lookup s=some v→v.ok∧v.ht≤H∧∀ x,v.cnt x≠0→b.lookup x=none):∀ (t:T) (k:Nat),t.ok→t.ht+H+2≤k→fill b k t=some (t.sub (lk b))
 | t,0,_,l=>by omega
 | .n s,k+1,_,l=>by
  show (match b.lookup s with | none=>some (T.n s) | some t=>fill b k t)=some ((b.lookup s).getD (.n s))
  cases q:b.lookup s with
  | none=>rfl
  | some v =>
   obtain ⟨h1,h2,h3⟩:=hb s v q
   have l2:0+H+2≤k+1:=l
   exact fill_id b v k h1 (by omega) h3
 | .ni _,k+1,o,_=>o.elim
 | .rex,k+1,_,_=>rfl
 | .tom,k+1,_,_=>rfl
 | .mo t,k+1,o,l=>by
  have l2:t.ht+1+H+2≤k+1:=l
  show (fill b k t).map _=_;rw [fill_sub b H hb t k o (fl2 (Nat.le_refl _) l2)];rfl
 | .fa t,k+1,o,l=>by
  have l2:t.ht+1+H+2≤k+1:=l
  show (fill b k t).map _=_;rw [fill_sub b H hb t k o (fl2 (Nat.le_refl _) l2)];rfl
 | .su x y,k+1,o,l=>by
  have l2:max x.ht y.ht+1+H+2≤k+1:=l
  show (fill b k x).bind _=_
  rw [fill_sub b H hb x k o.1 (fl2 (Nat.le_max_left ..) l2),fill_sub b H hb y k o.2 (fl2 (Nat.le_max_right ..) l2)];rfl
noncomputable def c5L:List C5:=[.rex,.tom,.mother,.father,.sum]
theorem nm_con:(nameL.all fun s=>c5L.all fun c=>!(s==c.nm)&&!(c.nm==s))=true:=by kernel_rfl
theorem c5_in:∀ c:C5,c∈c5L
 | .rex=>.head _
 | .tom=>.tail _ (.head _)
 | .mother=>.tail _ (.tail _ (.head _))
 | .father=>.tail _ (.tail _ (.tail _ (.head _)))
 | .sum=>.tail _ (.tail _ (.tail _ (.tail _ (.head _))))
theorem nm_ne {s:Str} (h:s∈nameL) (c:C5):(s==c.nm)=false∧(c.nm==s)=false:=by
 have:=List.all_eq_true.mp (List.all_eq_true.mp nm_con s h) c (c5_in c)
 rw [Bool.and_eq_true,Bool.not_eq_true',Bool.not_eq_true'] at this
 exact this
theorem mf:(C5.mother.nm==C5.father.nm)=false∧(C5.father.nm==C5.mother.nm)=false∧(C5.rex.nm==C5.tom.nm)=false∧(C5.tom.nm==C5.rex.nm)=false:=⟨by decide,by decide,by decide,by decide⟩
theorem eqb_cc (c:C5) (A B:X):(X.app (.con c) A).eqb (.app (.con c) B)=A.eqb B:=by
 show ((c.nm==c.nm)&&A.eqb B)=_
 rw [beq_self_eq_true];rfl
theorem eqb_ne {c d:C5} (h:(c.nm==d.nm)=false) (A B:X):(X.app (.con c) A).eqb (.app (.con d) B)=false:=by
 show ((c.nm==d.nm)&&A.eqb B)=_
 rw [h];rfl
theorem eqb_toE:∀ (a b:T),a.ok→b.ok→(toE a).eqb (toE b)=a.eq b
 | .n s,b,oa,ob=>by
  cases b with
  | n t =>
   show (s==t)=decide (s=t)
   by_cases h:s=t
   ·rw [decide_eq_true h,h,beq_self_eq_true]
   ·rw [decide_eq_false h,beq_eq_false_iff_ne.mpr h]
  | ni _=>exact ob.elim
  | rex=>exact (nm_ne oa .rex).1
  | tom=>exact (nm_ne oa .tom).1
  | _=>rfl
 | .ni _,b,oa,ob=>oa.elim
 | .rex,b,oa,ob=>by
  cases b with
  | n t=>exact (nm_ne ob .rex).2
  | ni _=>exact ob.elim
  | rex=>exact beq_self_eq_true _
  | tom=>exact mf.2.2.1
  | _=>rfl
 | .tom,b,oa,ob=>by
  cases b with
  | n t=>exact (nm_ne ob .tom).2
  | ni _=>exact ob.elim
  | tom=>exact beq_self_eq_true _
  | rex=>exact mf.2.2.2
  | _=>rfl
 | .mo a,b,oa,ob=>by
  cases b with
  | mo b=>exact (eqb_cc ..).trans (eqb_toE a b oa ob)
  | fa b=>exact eqb_ne mf.1 ..
  | ni _=>exact ob.elim
  | _=>rfl
 | .fa a,b,oa,ob=>by
  cases b with
  | fa b=>exact (eqb_cc ..).trans (eqb_toE a b oa ob)
  | mo b=>exact eqb_ne mf.2.1 ..
  | ni _=>exact ob.elim
  | _=>rfl
 | .su a c,b,oa,ob=>by
  cases b with
  | su b d =>
   show ((X.app (.con .sum) (toE a)).eqb (.app (.con .sum) (toE b))&&(toE c).eqb (toE d))=(a.eq b&&c.eq d)
   rw [eqb_cc,eqb_toE a b oa.1 ob.1,eqb_toE c d oa.2 ob.2]
  | ni _=>exact ob.elim
  | _=>rfl
theorem mem_addU {l:List Str} {x y:Str}:y∈addU l x↔y∈l∨y=x:=by
 unfold addU
 cases q:l.any (·==x) with
 | true =>
  rw [if_pos rfl]
  refine ⟨.inl,fun h=>h.elim id fun e=>?_⟩
  obtain ⟨z,hz,e2⟩:=List.any_eq_true.mp q
  rw [e,← eq_of_beq e2];exact hz
 | false=>rw [if_neg Bool.false_ne_true,List.mem_append,List.mem_singleton]
theorem mem_uni {y:Str}:∀ {xs l:List Str},y∈uni l xs↔y∈l∨y∈xs
 | [],l=>⟨.inl,fun h=>h.elim id nofun⟩
 | x::xs,l=>by
  show y∈uni (addU l x) xs↔_
  rw [mem_uni,mem_addU,List.mem_cons,or_assoc]
theorem mem_uni2 {y:Str} {xs zs:List Str}:y∈uni (uni [] xs) zs↔y∈xs∨y∈zs:=by
 rw [mem_uni,mem_uni]
 exact ⟨fun h=>h.elim (fun h=>h.elim nofun .inl) .inr,fun h=>h.elim (fun h=>.inl (.inr h)) .inr⟩
theorem fv_mem {x:Str}:∀ t:T,x∈(toE t).fv↔t.cnt x≠0
 | .n s=>by
  show x∈[s]↔_
  rw [List.mem_singleton]
  exact ⟨fun h=>by rw [h,cnt_self];exact Nat.one_ne_zero,cnt_name⟩
 | .ni _=>⟨nofun,fun h=>absurd rfl h⟩
 | .rex=>⟨nofun,fun h=>absurd rfl h⟩
 | .tom=>⟨nofun,fun h=>absurd rfl h⟩
 | .mo t=>mem_uni2.trans ⟨fun h=>h.elim nofun (fv_mem t).mp,fun h=>.inr ((fv_mem t).mpr h)⟩
 | .fa t=>mem_uni2.trans ⟨fun h=>h.elim nofun (fv_mem t).mp,fun h=>.inr ((fv_mem t).mpr h)⟩
 | .su a b=>by
  have h1:x∈(X.app (.con .sum) (toE a)).fv↔a.cnt x≠0:=mem_uni2.trans ⟨fun h=>h.elim nofun (fv_mem a).mp,fun h=>.inr ((fv_mem a).mpr h)⟩
  refine mem_uni2.trans ⟨fun h=>?_,fun h=>?_⟩
  ·exact h.elim (fun h z=>h1.mp h (Nat.eq_zero_of_add_eq_zero_right z)) fun h z=>(fv_mem b).mp h (Nat.eq_zero_of_add_eq_zero_left z)
  ·by_cases z:a.cnt x=0
   ·exact .inr ((fv_mem b).mpr fun y=>h (by show a.cnt x+b.cnt x=0;rw [z,y]))
   ·exact .inl (h1.mpr z)
theorem cs_c5 {x:Str}:∀ e:X,x∈e.cs→∃ c:C5,x=c.nm
 | .var _,h=>nomatch h
 | .con c,h=>⟨c,List.mem_singleton.mp h⟩
 | .app f a,h=>by
  rcases mem_uni2.mp h with h | h
  ·exact cs_c5 f (by cases f<;>first | exact h | cases h)
  ·exact cs_c5 a h
theorem ps_c5 {x:Str}:∀ e:X,x∈e.ps→∃ c:C5,x=c.nm
 | .var _,h=>nomatch h
 | .con c,h=>nomatch h
 | .app f a,h=>by
  rcases mem_uni2.mp h with h | h
  ·cases f with
   | con c=>exact ⟨c,List.mem_singleton.mp h⟩
   | var _=>exact ps_c5 _ h
   | app _ _=>exact ps_c5 _ h
  ·exact ps_c5 a h
theorem any_is {l:List Str} {s:Str}:l.any (·==s)=true↔s∈l :=
 ⟨fun h=>by obtain ⟨z,hz,e⟩:=List.any_eq_true.mp h;rw [←eq_of_beq e];exact hz,fun h=>List.any_eq_true.mpr ⟨s,h,beq_self_eq_true _⟩⟩
theorem occ_is {t:T} {s:Str} (hs:s∈nameL):(toE t).occ s=true↔t.cnt s≠0:=by
 unfold X.occ
 rw [any_is,mem_uni2,fv_mem]
 refine ⟨fun h=>h.elim id fun h=>?_,.inl⟩
 obtain ⟨c,e⟩:=cs_c5 _ h
 have:=(nm_ne hs c).1
 rw [e,beq_self_eq_true] at this;cases this
theorem bind_toE {t:T} {s:Str} (hs:s∈nameL) (h:t.cnt s=0):bindX s (toE t)=some [(s,toE t)]:=by
 unfold bindX
 rw [if_neg fun z=>(occ_is hs).mp z h]
theorem mg_same:∀ t:T,t.ok→Gr t→mg t t=some []
 | .n s,_,g=>by have:=g s;rw [cnt_self] at this;cases this
 | .ni _,o,_=>o.elim
 | .rex,_,_=>rfl
 | .tom,_,_=>rfl
 | .mo t,o,g=>mg_same t o g
 | .fa t,o,g=>mg_same t o g
 | .su a b,o,g=>by
  show ((mg a a).bind fun d1=>(mg b b).bind fun d2=>addT d1 d2)=_
  rw [mg_same a o.1 fun s=>Nat.eq_zero_of_add_eq_zero_right (g s),mg_same b o.2 fun s=>Nat.eq_zero_of_add_eq_zero_left (g s)];rfl
theorem app_con (c:C5) (A C:X):mguX (.app (.con c) A) (.app (.con c) C)=mguX A C:=by
 show (if (X.app (.con c) A).eqb (.app (.con c) C) then some [] else match mguX (.con c) (.con c) with | none=>none | some d1=>match mguX A C with | none=>none | some d2=>addAll d1 d2)=_
 rw [eqb_cc]
 cases q:A.eqb C with
 | true=>rw [if_pos rfl,mgu_same q]
 | false =>
  rw [if_neg Bool.false_ne_true,mgu_same (show (X.con c).eqb (.con c)=true from beq_self_eq_true _)]
  cases q2:mguX A C with
  | none=>rfl
  | some d2=>exact (addAll_new d2 [] (mgu_facts _ _ _ q2).1).1
theorem putK_same {d:List (Str×X)} (h:NoDup d) {s:Str} {e:X} (q:d.lookup s=some e):putK d s e=d:=by
 unfold putK
 rw [if_pos (List.any_eq_true.mpr ⟨_,lookup_mem q,decide_eq_true rfl⟩)]
 refine (List.map_congr_left fun p hp=>?_).trans (List.map_id d)
 show (if p.1=s then (p.1,e) else p)=p
 by_cases z:p.1=s
 ·rw [if_pos z]
  have:=look_of h p hp
  rw [z,q] at this
  cases this;rfl
 ·rw [if_neg z]
theorem look_out {d:List (Str×X)} {s:Str} (h:d.lookup s=none):s∉d.map (·.1):=fun z=>by
 induction d with
 | nil=>cases z
 | cons p d ih =>
  rw [List.lookup_cons] at h
  cases q:(s==p.1) with
  | true=>rw [q] at h;cases h
  | false =>
   rw [q] at h
   rcases List.mem_cons.mp z with z | z
   ·rw [z,beq_self_eq_true] at q;cases q
   ·exact ih h z
theorem addB_dX {d:List (Str×T)} (hn:NoDup (dX d)) (hd:∀ p∈d,p.2.ok) {s:Str} {v:T} (hv:v.ok):addB (dX d) (s,toE v)=(insB d s v).map dX:=by
 unfold addB insB
 show (match (dX d).lookup s with | none=>_ | some e0=>_)=_
 rw [dX_look]
 cases q:d.lookup s with
 | none =>
  show some (putK (dX d) s (toE v))=some (dX (d++[(s,v)]))
  rw [putK_new (look_out (by rw [dX_look,q];rfl)),dX,dX,List.map_append];rfl
 | some v0 =>
  have h0:=hd _ (lookup_mem q)
  show (if (toE v).eqb (toE v0) then some (putK (dX d) s (toE v)) else none)=Option.map dX (if v0.eq v then some d else none)
  rw [eqb_toE v v0 hv h0]
  by_cases z:v=v0
  ·subst z
   rw [T.eq_refl,if_pos rfl,if_pos rfl,putK_same hn (by rw [dX_look,q];rfl)];rfl
  ·rw [T.eq_not z,T.eq_not fun y=>z y.symm,if_neg Bool.false_ne_true,if_neg Bool.false_ne_true];rfl
theorem addAll_dX:∀ (d2 d1:List (Str×T)),NoDup (dX d1)→(∀ p∈d1,p.2.ok)→(∀ p∈d2,p.2.ok)→addAll (dX d1) (dX d2)=(addT d1 d2).map dX
 | [],d1,_,_,_=>rfl
 | p::ps,d1,hn,h1,h2=>by
  have e:=addB_dX hn h1 (s:=p.1) (h2 p (.head _))
  show (match addB (dX d1) (p.1,toE p.2) with | some d'=>addAll d' (dX ps) | none=>none)=((insB d1 p.1 p.2).bind fun d'=>addT d' ps).map dX
  rw [e]
  cases q:insB d1 p.1 p.2 with
  | none=>rfl
  | some d' =>
   have hn':NoDup (dX d'):=by
    rw [q] at e
    rw [addB_put e];exact putK_nodup hn
   refine addAll_dX ps d' hn' (fun r hr=>?_) fun r hr=>h2 r (.tail _ hr)
   rcases ins_mem q r hr with z | rfl
   ·exact h1 r z
   ·exact h2 p (.head _)
theorem ent_ok {a b:T} (oa:a.ok) (ob:b.ok) {p:Str×T} (e:Ent a b p):p.2.ok:=e.elim (fun h=>h.2.ok ob) fun h=>h.2.ok oa
theorem Cd.sub {a b a' b':T} (h:Cd a b) (ha:∀ x,a'.cnt x≤a.cnt x) (hb:∀ x,b'.cnt x≤b.cnt x):Cd a' b':=by
 rcases h with h | h | h
 ·exact .inl fun s=>Nat.le_trans (Nat.add_le_add (ha s) (hb s)) (h s)
 ·exact .inr (.inl fun s=>Nat.le_zero.mp (h s▸ha s))
 ·exact .inr (.inr fun s=>Nat.le_zero.mp (h s▸hb s))
theorem Cd.gr {t:T} (h:Cd t t):Gr t:=by
 rcases h with h | h | h
 ·intro s;have:=h s;omega
 ·exact h
 ·exact h
theorem mgu_none (f x:X) (c:C5) (y:X):mguX (.app (.app (.con .sum) f) x) (.app (.con c) y)=none∧mguX (.app (.con c) y) (.app (.app (.con .sum) f) x)=none:=⟨rfl,rfl⟩
theorem mgu_cc {c d:C5} (h:(c.nm==d.nm)=false) (x y:X):mguX (.app (.con c) x) (.app (.con d) y)=none:=by
 show (if (X.app (.con c) x).eqb (.app (.con d) y) then some [] else match (if (X.con c).eqb (.con d) then some [] else none) with | none=>none | some d1=>match mguX x y with | none=>none | some d2=>addAll d1 d2)=_
 rw [eqb_ne h,show (X.con c).eqb (.con d)=false from h];rfl
theorem mgu_nl {s:Str} {r:T} (hs:s∈nameL) (hr:r.ok) (h:r.cnt s=0):mguX (.var s) (toE r)=some [(s,toE r)]:=by
 have e:(X.var s).eqb (toE r)=false:=(eqb_toE (.n s) r hs hr).trans (T.eq_not fun z=>by rw [←z,cnt_self] at h;cases h)
 unfold mguX
 rw [e,if_neg Bool.false_ne_true,bind_toE hs h]
theorem mgu_nr {s:Str} {l:T} (hs:s∈nameL) (hl:l.ok) (h:l.cnt s=0) (hn:l.nm?=none):mguX (toE l) (.var s)=some [(s,toE l)]:=by
 have e:(toE l).eqb (.var s)=false:=(eqb_toE l (.n s) hl hs).trans (T.eq_not fun z=>by rw [z,cnt_self] at h;cases h)
 have b:=bind_toE hs h
 have q:∀ c:C5,(X.con c).eqb (.var s)=false→bindX s (.con c)=some [(s,.con c)]→mguX (.con c) (.var s)=some [(s,.con c)]:=fun c h1 h2=>by
  show (if (X.con c).eqb (.var s) then some [] else bindX s (.con c))=_
  rw [h1,h2];rfl
 cases l with
 | n x=>cases hn
 | ni _=>exact hl.elim
 | rex=>exact q .rex e b
 | tom=>exact q .tom e b
 | _=>exact b
theorem add_ok_gr:∀ (ps d:List (Str×X)),(∀ p∈ps,p.2.cls≠514)→AddOk d ps
 | [],_,_=>trivial
 | p::ps,d,h=>⟨fun _ _ _=>h p (.head _),fun d' _=>add_ok_gr ps d' fun q hq=>h q (.tail _ hq)⟩
theorem gr_cls {t:T} (h:Gr t):(toE t).cls≠514:=by
 cases t with
 | n s=>have:=h s;rw [cnt_self] at this;cases this
 | _=>intro z;cases z
theorem good_con {c d:C5} {A B:X} (h:GoodM A B):GoodM (.app (.con c) A) (.app (.con d) B):=by
 refine ⟨trivial,h,fun d1 d2 h1 h2=>?_⟩
 have e:d1=[]:=by
  replace h1:(if (X.con c).eqb (.con d) then some [] else none)=some d1:=h1
  split at h1
  ·cases h1;rfl
  ·cases h1
 subst e
 exact (addAll_new d2 [] (mgu_facts _ _ _ h2).1).2
def GM (a b:T):Prop:=mguX (toE a) (toE b)=(mg a b).map dX∧GoodM (toE a) (toE b)
theorem mg_nl (s:Str) (r:T):mg (.n s) r=some [(s,r)]:=rfl
theorem dX_fst (d:List (Str×T)):(dX d).map (·.1)=d.map (·.1):=by rw [dX,List.map_map];rfl
theorem add_good {a b c d:T} (oc:c.ok) (od:d.ok) (ob:b.ok) (oa:a.ok) (h:Cd (.su a b) (.su c d)) (ga:mguX (toE a) (toE c)=(mg a c).map dX) (gb:mguX (toE b) (toE d)=(mg b d).map dX) {d1 d2:List (Str×X)} (h1:mguX (toE a) (toE c)=some d1) (h2:mguX (toE b) (toE d)=some d2):AddOk d1 d2:=by
 have n1:=(mgu_facts _ _ _ h1).1
 have n2:=(mgu_facts _ _ _ h2).1
 rw [ga] at h1
 rw [gb] at h2
 obtain ⟨e1,q1,rfl⟩:=Option.map_eq_some_iff.mp h1
 obtain ⟨e2,q2,rfl⟩:=Option.map_eq_some_iff.mp h2
 have gr:Gr b∨Gr d→AddOk (dX e1) (dX e2):=fun g=>add_ok_gr _ _ fun p hp=>by
  obtain ⟨q,hq,rfl⟩:=List.mem_map.mp hp
  exact gr_cls (ent_gr g (mg_ent _ _ _ q2 q hq))
 rcases h with h | h | h
 ·refine (addAll_new _ _ ?_).2
  unfold NoDup at n1 n2 ⊢
  rw [List.map_append]
  refine List.nodup_append.mpr ⟨n1,n2,fun x hx y hy z=>?_⟩
  subst z
  rw [dX_fst] at hx hy
  obtain ⟨p,hp,rfl⟩:=List.mem_map.mp hx
  obtain ⟨q,hq,e⟩:=List.mem_map.mp hy
  have k1:=(ent_cnt (mg_ent _ _ _ q1 p hp)).1
  have k2:=(ent_cnt (mg_ent _ _ _ q2 q hq)).1
  have e:q.1=p.1:=e
  rw [e] at k2
  have k3:(a.cnt p.1+b.cnt p.1)+(c.cnt p.1+d.cnt p.1)≤1:=h p.1
  omega
 ·exact gr (.inl fun s=>Nat.eq_zero_of_add_eq_zero_left (h s))
 ·exact gr (.inr fun s=>Nat.eq_zero_of_add_eq_zero_left (h s))
theorem mgu_is:∀ (a b:T),a.ok→b.ok→Cd a b→GM a b
 | .n s,b,oa,ob,h=>⟨mgu_nl oa ob ((h.dis s).resolve_left (by rw [cnt_self];exact Nat.one_ne_zero)),by cases b<;>trivial⟩
 | .ni _,b,oa,ob,h=>oa.elim
 | .rex,b,oa,ob,h=>by
  cases b with
  | n s=>exact ⟨mgu_nr ob oa rfl rfl,trivial⟩
  | ni _=>exact ob.elim
  | rex=>exact ⟨mgu_same (eqb_toE .rex .rex trivial trivial),trivial⟩
  | tom=>exact ⟨by show (if (X.con .rex).eqb (.con .tom) then some [] else none)=none;rw [show (X.con .rex).eqb (.con .tom)=false from mf.2.2.1];rfl,trivial⟩
  | _=>exact ⟨rfl,trivial⟩
 | .tom,b,oa,ob,h=>by
  cases b with
  | n s=>exact ⟨mgu_nr ob oa rfl rfl,trivial⟩
  | ni _=>exact ob.elim
  | tom=>exact ⟨mgu_same (eqb_toE .tom .tom trivial trivial),trivial⟩
  | rex=>exact ⟨by show (if (X.con .tom).eqb (.con .rex) then some [] else none)=none;rw [show (X.con .tom).eqb (.con .rex)=false from mf.2.2.2];rfl,trivial⟩
  | _=>exact ⟨rfl,trivial⟩
 | .mo a,b,oa,ob,h=>by
  cases b with
  | n s=>exact ⟨mgu_nr ob oa ((h.dis s).resolve_right (by rw [cnt_self];exact Nat.one_ne_zero)) rfl,trivial⟩
  | ni _=>exact ob.elim
  | mo b=>have i:=mgu_is a b oa ob h;exact ⟨(app_con ..).trans i.1,good_con i.2⟩
  | fa b=>have i:=mgu_is a b oa ob h;exact ⟨mgu_cc mf.1 ..,good_con i.2⟩
  | su b d =>
   have i:=mgu_is a d oa ob.2 (h.sub (fun _=>Nat.le_refl _) fun _=>Nat.le_add_left ..)
   exact ⟨rfl,trivial,i.2,fun d1 d2 h1=>by cases h1⟩
  | _=>exact ⟨rfl,trivial⟩
 | .fa a,b,oa,ob,h=>by
  cases b with
  | n s=>exact ⟨mgu_nr ob oa ((h.dis s).resolve_right (by rw [cnt_self];exact Nat.one_ne_zero)) rfl,trivial⟩
  | ni _=>exact ob.elim
  | fa b=>have i:=mgu_is a b oa ob h;exact ⟨(app_con ..).trans i.1,good_con i.2⟩
  | mo b=>have i:=mgu_is a b oa ob h;exact ⟨mgu_cc mf.2.1 ..,good_con i.2⟩
  | su b d =>
   have i:=mgu_is a d oa ob.2 (h.sub (fun _=>Nat.le_refl _) fun _=>Nat.le_add_left ..)
   exact ⟨rfl,trivial,i.2,fun d1 d2 h1=>by cases h1⟩
  | _=>exact ⟨rfl,trivial⟩
 | .su a c,b,oa,ob,h=>by
  cases b with
  | n s=>exact ⟨mgu_nr ob oa ((h.dis s).resolve_right (by rw [cnt_self];exact Nat.one_ne_zero)) rfl,trivial⟩
  | ni _=>exact ob.elim
  | mo d =>
   have i:=mgu_is c d oa.2 ob (h.sub (fun _=>Nat.le_add_left ..) fun _=>Nat.le_refl _)
   exact ⟨rfl,trivial,i.2,fun d1 d2 h1=>by cases h1⟩
  | fa d =>
   have i:=mgu_is c d oa.2 ob (h.sub (fun _=>Nat.le_add_left ..) fun _=>Nat.le_refl _)
   exact ⟨rfl,trivial,i.2,fun d1 d2 h1=>by cases h1⟩
  | su b d =>
   have i:=mgu_is a b oa.1 ob.1 (h.sub (fun _=>Nat.le_add_right ..) fun _=>Nat.le_add_right ..)
   have j:=mgu_is c d oa.2 ob.2 (h.sub (fun _=>Nat.le_add_left ..) fun _=>Nat.le_add_left ..)
   refine ⟨?_,good_con i.2,j.2,fun d1 d2 h1 h2=>add_good ob.1 ob.2 oa.2 oa.1 h i.1 j.1 ((app_con ..).symm.trans h1) h2⟩
   show (if (toE (.su a c)).eqb (toE (.su b d)) then some [] else match mguX (.app (.con .sum) (toE a)) (.app (.con .sum) (toE b)) with | none=>none | some d1=>match mguX (toE c) (toE d) with | none=>none | some d2=>addAll d1 d2)=((mg a b).bind fun d1=>(mg c d).bind fun d2=>addT d1 d2).map dX
   rw [eqb_toE _ _ oa ob,app_con]
   cases q:(T.su a c).eq (.su b d) with
   | true =>
    have z:=T.eq_is q
    injection z with z1 z2
    subst z1;subst z2
    have g:=h.gr
    rw [if_pos rfl,mg_same a oa.1 fun s=>Nat.eq_zero_of_add_eq_zero_right (g s),mg_same c oa.2 fun s=>Nat.eq_zero_of_add_eq_zero_left (g s)];rfl
   | false =>
    rw [if_neg Bool.false_ne_true,i.1,j.1]
    cases q1:mg a b with
    | none=>rfl
    | some d1 =>
     cases q2:mg c d with
     | none=>rfl
     | some d2 =>
      exact addAll_dX d2 d1 (mgu_facts _ _ _ (i.1.trans (congrArg _ q1))).1 (fun p hp=>ent_ok oa.1 ob.1 (mg_ent _ _ _ q1 p hp)) fun p hp=>ent_ok oa.2 ob.2 (mg_ent _ _ _ q2 p hp)
  | _=>exact ⟨rfl,trivial⟩
noncomputable def T.hh:T→Nat
 | .n _=>8
 | .mo t=>t.hh+1
 | .fa t=>t.hh+1
 | .su a b=>max a.hh b.hh+1
 | _=>0
theorem ht_hh:∀ t:T,t.ht≤t.hh∧t.hh≤t.ht+8
 | .n _=>⟨Nat.zero_le _,Nat.le_refl _⟩
 | .ni _=>⟨Nat.zero_le _,Nat.zero_le _⟩
 | .rex=>⟨Nat.zero_le _,Nat.zero_le _⟩
 | .tom=>⟨Nat.zero_le _,Nat.zero_le _⟩
 | .mo t=>let h:=ht_hh t;⟨Nat.succ_le_succ h.1,Nat.succ_add t.ht 8▸Nat.succ_le_succ h.2⟩
 | .fa t=>let h:=ht_hh t;⟨Nat.succ_le_succ h.1,Nat.succ_add t.ht 8▸Nat.succ_le_succ h.2⟩
 | .su a b=>let h:=ht_hh a;let k:=ht_hh b;⟨Nat.succ_le_succ (mx_le h.1 k.1),Nat.succ_add (max a.ht b.ht) 8▸Nat.succ_le_succ (Nat.max_le.mpr ⟨Nat.le_trans h.2 (Nat.add_le_add_right (Nat.le_max_left ..) 8),Nat.le_trans k.2 (Nat.add_le_add_right (Nat.le_max_right ..) 8)⟩)⟩
theorem gr_hh:∀ t:T,Gr t→t.hh=t.ht
 | .n s,h=>by have:=h s;rw [cnt_self] at this;cases this
 | .ni _,_=>rfl
 | .rex,_=>rfl
 | .tom,_=>rfl
 | .mo t,h=>congrArg Nat.succ (gr_hh t h)
 | .fa t,h=>congrArg Nat.succ (gr_hh t h)
 | .su a b,h=>by
  show max a.hh b.hh+1=max a.ht b.ht+1
  rw [gr_hh a fun s=>Nat.eq_zero_of_add_eq_zero_right (h s),gr_hh b fun s=>Nat.eq_zero_of_add_eq_zero_left (h s)]
theorem sub_hh {f:Fn} (hf:∀ s v,f s=some v→v.hh≤8):∀ t:T,(t.sub f).hh≤t.hh
 | .n s=>by
  show ((f s).getD (.n s)).hh≤8
  cases q:f s with
  | none=>exact Nat.le_refl _
  | some v=>exact hf s v q
 | .ni _=>Nat.le_refl _
 | .rex=>Nat.le_refl _
 | .tom=>Nat.le_refl _
 | .mo t=>Nat.succ_le_succ (sub_hh hf t)
 | .fa t=>Nat.succ_le_succ (sub_hh hf t)
 | .su a b=>Nat.succ_le_succ (mx_le (sub_hh hf a) (sub_hh hf b))
theorem sz_ht:∀ t:T,t.sz≤2 ^ t.ht
 | .n _=>Nat.le_refl _
 | .ni _=>Nat.le_refl _
 | .rex=>Nat.le_refl _
 | .tom=>Nat.le_refl _
 | .mo t=>Nat.le_trans (sz_ht t) (Nat.pow_le_pow_right (by decide) (Nat.le_succ _))
 | .fa t=>Nat.le_trans (sz_ht t) (Nat.pow_le_pow_right (by decide) (Nat.le_succ _))
 | .su a b=>by
  have h1:=Nat.le_trans (sz_ht a) (Nat.pow_le_pow_right (n:=2) (by decide) (Nat.le_max_left a.ht b.ht))
  have h2:=Nat.le_trans (sz_ht b) (Nat.pow_le_pow_right (n:=2) (by decide) (Nat.le_max_right a.ht b.ht))
  show a.sz+b.sz≤2 ^ (max a.ht b.ht+1)
  rw [Nat.pow_succ,Nat.mul_two];exact Nat.add_le_add h1 h2
theorem dp_ht:∀ t:T,t.dp=t.ht
 | .n _=>rfl
 | .ni _=>rfl
 | .rex=>rfl
 | .tom=>rfl
 | .mo t=>congrArg Nat.succ (dp_ht t)
 | .fa t=>congrArg Nat.succ (dp_ht t)
 | .su a b=>by show max _ _+1=max _ _+1;rw [dp_ht a,dp_ht b]
theorem fit_of {t:T} (o:t.ok) (h:t.ht≤16):t.Fit :=
 ⟨o,Nat.lt_of_le_of_lt (Nat.le_trans (sz_ht t) (Nat.pow_le_pow_right (by decide) h)) (by decide),dp_ht t▸Nat.le_trans h (by decide),Nat.le_trans h (by decide)⟩
theorem names_mem {x:Str}:∀ t:T,x∈t.names↔t.cnt x≠0
 | .n s=>by
  show x∈[s]↔_
  rw [List.mem_singleton]
  exact ⟨fun h=>by rw [h,cnt_self];exact Nat.one_ne_zero,cnt_name⟩
 | .ni _=>⟨nofun,fun h=>absurd rfl h⟩
 | .rex=>⟨nofun,fun h=>absurd rfl h⟩
 | .tom=>⟨nofun,fun h=>absurd rfl h⟩
 | .mo t=>names_mem t
 | .fa t=>names_mem t
 | .su a b=>by
  show x∈a.names++b.names.filter (fun x=>!a.names.any (·==x))↔a.cnt x+b.cnt x≠0
  have h1:=names_mem (x:=x) a
  have h2:=names_mem (x:=x) b
  rw [List.mem_append,List.mem_filter]
  refine ⟨fun h z=>h.elim (fun h=>h1.mp h (Nat.eq_zero_of_add_eq_zero_right z)) fun h=>h2.mp h.1 (Nat.eq_zero_of_add_eq_zero_left z),fun h=>?_⟩
  by_cases z:x∈a.names
  ·exact .inl z
  ·refine .inr ⟨h2.mpr fun y=>h (by rw [y,Nat.add_zero];exact Decidable.byContradiction fun w=>z (h1.mpr w)),?_⟩
   cases q:a.names.any (·==x) with
   | false=>rfl
   | true=>exact absurd (any_is.mp q) z
theorem names_no {x:Str} {t:T} (h:t.cnt x=0):t.names.any (·==x)=false:=by
 cases q:t.names.any (·==x) with
 | false=>rfl
 | true=>exact absurd h ((names_mem t).mp (any_is.mp q))
theorem eq_symm (a b:T):a.eq b=b.eq a:=by
 by_cases h:a=b
 ·rw [h]
 ·rw [T.eq_not h,T.eq_not fun z=>h z.symm]
theorem mt_gr:∀ a b,a.ok→b.ok→Gr a→Gr b→∀ bd,mt a b bd=if a.eq b then some bd else none:=by
 refine pair_ind (fun s r _ _ g=>?_) (fun l s _ _ _ _ g=>?_) (fun _ _ _ _ _=>rfl) (fun _ _ _ _ _=>rfl) (fun _ _ i=>i) (fun _ _ i=>i) (fun a b c d i j oa ob ga gb bd=>?_) (fun l r z oa _ _ _ bd=>?_)
 ·have:=g s;rw [cnt_self] at this;cases this
 ·have:=g s;rw [cnt_self] at this;cases this
 ·show (mt b d bd).bind (mt a c)=if (a.eq c&&b.eq d) then some bd else none
  rw [j oa.2 ob.2 (fun s=>Nat.eq_zero_of_add_eq_zero_left (ga s)) (fun s=>Nat.eq_zero_of_add_eq_zero_left (gb s))]
  cases b.eq d with
  | false=>rw [Bool.and_false];rfl
  | true =>
   rw [if_pos rfl,Bool.and_true]
   exact i oa.1 ob.1 (fun s=>Nat.eq_zero_of_add_eq_zero_right (ga s)) (fun s=>Nat.eq_zero_of_add_eq_zero_right (gb s)) bd
 ·rw [mt,z.no,z.ne.resolve_right fun h=>h oa];rfl
theorem mt_fill {f:Fn} (hf:∀ s v,f s=some v→v.ok∧Gr v):∀ l r,l.ok→r.ok→(Gr l∨Gr r)→∀ bd,Fun bd→(∀ s v,f s=some v→bd.lookup s=some v)→mt (l.sub f) (r.sub f) bd=mt l r bd:=by
 have gid:∀ {t},Gr t→t.sub f=t:=fun {t} g=>fsub_id f t fun x h=>absurd (g x) h
 have nog:∀ {s},¬ Gr (.n s):=fun {s} g=>by have:=g s;rw [cnt_self] at this;cases this
 refine pair_ind (fun s r _ o g bd _ hb=>?_) (fun l s z o _ g bd _ hb=>?_) (fun _ _ _ _ _ _=>rfl) (fun _ _ _ _ _ _=>rfl) (fun _ _ i=>i) (fun _ _ i=>i) (fun a b c d i j oa ob g bd hF hb=>?_) (fun l r z _ _ _ bd _ _=>?_)
 ·have gr:=g.resolve_left nog
  rw [gid gr]
  show mt ((f s).getD (.n s)) r bd=_
  cases q:f s with
  | none=>rfl
  | some v =>
   have h:=hf s v q
   show mt v r bd=insB bd s r
   rw [mt_gr v r h.1 o h.2 gr]
   unfold insB
   rw [hb s v q]
 ·have gr:=g.resolve_right nog
  rw [gid gr]
  show mt l ((f s).getD (.n s)) bd=_
  cases q:f s with
  | none=>rfl
  | some v =>
   have h:=hf s v q
   have e:mt l (.n s)=fun bd=>insB bd s l:=z.zip ..
   show mt l v bd=_
   rw [mt_gr l v o h.1 gr h.2,e,eq_symm]
   show _=insB bd s l
   unfold insB
   rw [hb s v q]
 ·show (mt (b.sub f) (d.sub f) bd).bind (mt (a.sub f) (c.sub f))=(mt b d bd).bind (mt a c)
  have g1:Gr a∨Gr c:=g.imp (fun g s=>Nat.eq_zero_of_add_eq_zero_right (g s)) fun g s=>Nat.eq_zero_of_add_eq_zero_right (g s)
  have g2:Gr b∨Gr d:=g.imp (fun g s=>Nat.eq_zero_of_add_eq_zero_left (g s)) fun g s=>Nat.eq_zero_of_add_eq_zero_left (g s)
  rw [j oa.2 ob.2 g2 bd hF hb]
  cases q:mt b d bd with
  | none=>rfl
  | some b1 =>
   obtain ⟨f1,l1,_⟩:=(mt_least b d bd hF).1 b1 q
   exact i oa.1 ob.1 g1 b1 f1 fun s v e=>l1.look (hb s v e)
 ·rw [mt,z.sub,z.no]
theorem mt_len:∀ a b (n:Nat),(a.ht≤n∨b.ht≤n)→∀ bd bd',mt a b bd=some bd'→bd'.length≤bd.length+2 ^ n:=by
 have ins1:∀ {n:Nat} {bd bd':List (Str×T)} {s:Str} {v:T},insB bd s v=some bd'→bd'.length≤bd.length+2 ^ n:=fun {n} {bd} {bd'} {s} {v} h=>by
  exact (ins_ok h).elim (fun q=>q.1▸Nat.le_add_right ..) fun q=>by rw [q.1,List.length_append];exact Nat.add_le_add_left Nat.one_le_two_pow _
 have up:∀ {n k m:Nat},k≤m+2 ^ n→k≤m+2 ^ (n+1):=fun {n k m} h=>Nat.le_trans h (Nat.add_le_add_left (Nat.pow_le_pow_right (by decide) (Nat.le_succ _)) _)
 have pos:∀ {k n:Nat},k+1≤n→∃ m,n=m+1∧k≤m:=fun {k n} h=>match n,h with | n+1,h=>⟨n,rfl,Nat.le_of_succ_le_succ h⟩
 refine pair_ind (fun s r n _ bd d h=>ins1 h) (fun l s z n _ bd d h=>?_) (fun n _ bd d h=>?_) (fun n _ bd d h=>?_) (fun a b i n hn bd d h=>?_) (fun a b i n hn bd d h=>?_) (fun a b c d i j n hn bd e h=>?_) (fun l r z n _ bd d h=>?_)
 ·rw [mt,z.zip] at h;exact ins1 h
 ·replace h:some bd=some d:=h
  cases h;exact Nat.le_add_right ..
 ·replace h:some bd=some d:=h
  cases h;exact Nat.le_add_right ..
 ·obtain ⟨m,rfl,hm⟩:∃ m,n=m+1∧(a.ht≤m∨b.ht≤m):=hn.elim (fun q=>let ⟨m,e,q⟩:=pos q;⟨m,e,.inl q⟩) fun q=>let ⟨m,e,q⟩:=pos q;⟨m,e,.inr q⟩
  exact up (i m hm bd d h)
 ·obtain ⟨m,rfl,hm⟩:∃ m,n=m+1∧(a.ht≤m∨b.ht≤m):=hn.elim (fun q=>let ⟨m,e,q⟩:=pos q;⟨m,e,.inl q⟩) fun q=>let ⟨m,e,q⟩:=pos q;⟨m,e,.inr q⟩
  exact up (i m hm bd d h)
 ·obtain ⟨m,rfl,hm⟩:∃ m,n=m+1∧(max a.ht b.ht≤m∨max c.ht d.ht≤m):=hn.elim (fun q=>let ⟨m,e,q⟩:=pos q;⟨m,e,.inl q⟩) fun q=>let ⟨m,e,q⟩:=pos q;⟨m,e,.inr q⟩
  obtain ⟨b1,h1,h2⟩:=Option.bind_eq_some_iff.mp h
  have k1:=j m (hm.imp (Nat.le_trans (Nat.le_max_right ..)) (Nat.le_trans (Nat.le_max_right ..))) bd b1 h1
  have k2:=i m (hm.imp (Nat.le_trans (Nat.le_max_left ..)) (Nat.le_trans (Nat.le_max_left ..))) b1 e h2
  rw [Nat.pow_succ,Nat.mul_two,← Nat.add_assoc];exact Nat.le_trans k2 (Nat.add_le_add_right k1 _)
 ·rw [mt,z.no] at h;cases h
def Vals (bd:List (Str×T)):Prop:=∀ s v,bd.lookup s=some v→v.ok∧v.ht≤8∧Gr v
structure Qs (n:Nat) (bd:List (Str×T)) (l r:T):Prop where
 ol:l.ok
 or:r.ok
 hl:l.hh≤16
 hr:r.hh≤16
 md:(Lin l r∧l.ht≤n∧∀ s,l.cnt s+r.cnt s≠0→bd.lookup s=none)∨((Gr l∧l.ht≤n∨Gr r∧r.ht≤n)∧Vals bd)
 fn:Fun bd
 nb:n≤8
 bl:bd.length+2 ^ n≤1000
theorem Qs.cd {n:Nat} {bd:List (Str×T)} {l r:T} (q:Qs n bd l r):Cd l r:=q.md.elim (fun h=>.inl h.1) fun h=>.inr (h.1.imp And.left And.left)
theorem cnt_sub {f:Fn} {s:Str} (hf:∀ x v,f x=some v→Gr v):∀ t:T,(t.sub f).cnt s≠0→f s=none∧t.cnt s≠0
 | .n x,h=>by
  replace h:((f x).getD (.n x)).cnt s≠0:=h
  cases q:f x with
  | none =>
   rw [q] at h
   have e:=cnt_name h
   exact ⟨e▸q,h⟩
  | some v=>rw [q] at h;exact absurd (hf x v q s) h
 | .ni _,h=>absurd rfl h
 | .rex,h=>absurd rfl h
 | .tom,h=>absurd rfl h
 | .mo t,h=>cnt_sub hf t h
 | .fa t,h=>cnt_sub hf t h
 | .su a b,h=>by
  by_cases z:(a.sub f).cnt s=0
  ·have:=cnt_sub hf b fun y=>h (by show (a.sub f).cnt s+(b.sub f).cnt s=0;rw [z,y])
   exact ⟨this.1,fun y=>this.2 (Nat.eq_zero_of_add_eq_zero_left y)⟩
  ·have:=cnt_sub hf a z
   exact ⟨this.1,fun y=>this.2 (Nat.eq_zero_of_add_eq_zero_right y)⟩
theorem Qs.fill {n:Nat} {bd:List (Str×T)} {l r:T} (q:Qs n bd l r):∃ l' r',fill bd 26 l=some l'∧fill bd 26 r=some r'∧Qs n bd l' r'∧(∀ s,l'.cnt s+r'.cnt s≠0→bd.lookup s=none)∧mt l' r' bd=mt l r bd:=by
 have h1:=ht_hh l
 have h2:=ht_hh r
 have h3:=q.hl
 have h4:=q.hr
 rcases q.md with ⟨a1,a2,a3⟩ | ⟨a1,a2⟩
 ·exact ⟨l,r,fill_id bd l 26 q.ol (by omega) fun s h=>a3 s fun z=>h (Nat.eq_zero_of_add_eq_zero_right z),fill_id bd r 26 q.or (by omega) fun s h=>a3 s fun z=>h (Nat.eq_zero_of_add_eq_zero_left z),q,a3,rfl⟩
 ·have hv:∀ s v,bd.lookup s=some v→v.ok∧v.ht≤8∧∀ x,v.cnt x≠0→bd.lookup x=none:=fun s v e=>let h:=a2 s v e;⟨h.1,h.2.1,fun x z=>absurd (h.2.2 x) z⟩
  have hg:∀ s v,lk bd s=some v→Gr v:=fun s v e=>(a2 s v e).2.2
  have hh:∀ s v,lk bd s=some v→v.hh≤8:=fun s v e=>by rw [gr_hh v (hg s v e)];exact (a2 s v e).2.1
  have gid:∀ {t},Gr t→t.sub (lk bd)=t:=fun {t} g=>fsub_id _ t fun x h=>absurd (g x) h
  refine ⟨l.sub (lk bd),r.sub (lk bd),fill_sub bd 8 hv l 26 q.ol (by omega),fill_sub bd 8 hv r 26 q.or (by omega),⟨fsub_ok (fun s v e=>(a2 s v e).1) l q.ol,fsub_ok (fun s v e=>(a2 s v e).1) r q.or,Nat.le_trans (sub_hh hh l) h3,Nat.le_trans (sub_hh hh r) h4,.inr ⟨a1.imp (fun g=>by rw [gid g.1];exact g) fun g=>by rw [gid g.1];exact g,a2⟩,q.fn,q.nb,q.bl⟩,fun s h=>?_,mt_fill (fun s v e=>⟨(a2 s v e).1,hg s v e⟩) l r q.ol q.or (a1.imp And.left And.left) bd q.fn fun s v e=>e⟩
  by_cases z:(l.sub (lk bd)).cnt s=0
  ·exact (cnt_sub hg r fun y=>h (by rw [z,y])).1
  ·exact (cnt_sub hg l z).1
theorem Qs.kid {n:Nat} {bd:List (Str×T)} {l r x y:T} (q:Qs n bd l r) (o1:l.ok→x.ok) (o2:r.ok→y.ok) (h1:x.ht+1≤l.ht) (h2:y.ht+1≤r.ht) (h3:x.hh≤l.hh) (h4:y.hh≤r.hh) (c1:∀ s,x.cnt s≤l.cnt s) (c2:∀ s,y.cnt s≤r.cnt s):∃ m,n=m+1∧Qs m bd x y:=by
 have g:∀ {a b:T},(∀ s,a.cnt s≤b.cnt s)→Gr b→Gr a:=fun h g s=>Nat.le_zero.mp (g s▸h s)
 have hp:1≤n:=by
  rcases q.md with ⟨_,a,_⟩ | ⟨⟨_,a⟩ | ⟨_,a⟩,_⟩<;>omega
 obtain ⟨m,rfl⟩:∃ m,n=m+1:=⟨n - 1,by omega⟩
 refine ⟨m,rfl,o1 q.ol,o2 q.or,Nat.le_trans h3 q.hl,Nat.le_trans h4 q.hr,?_,q.fn,Nat.le_of_succ_le q.nb,?_⟩
 ·rcases q.md with ⟨a,b,c⟩ | ⟨⟨a,b⟩ | ⟨a,b⟩,c⟩
  ·refine .inl ⟨fun s=>Nat.le_trans (Nat.add_le_add (c1 s) (c2 s)) (a s),by omega,fun s h=>c s fun z=>h ?_⟩
   have:=c1 s
   have:=c2 s
   omega
  ·exact .inr ⟨.inl ⟨g c1 a,by omega⟩,c⟩
  ·exact .inr ⟨.inr ⟨g c2 a,by omega⟩,c⟩
 ·have:=q.bl
  rw [Nat.pow_succ] at this;omega
theorem Qs.next {m:Nat} {bd bd':List (Str×T)} {x y x2 y2:T} (q:Qs (m+1) bd (.su x x2) (.su y y2)) (e:mt x2 y2 bd=some bd'):Qs m bd' x y:=by
 obtain ⟨m1,e1,q1⟩:=q.kid (x:=x) (y:=y) And.left And.left (Nat.succ_le_succ (Nat.le_max_left ..)) (Nat.succ_le_succ (Nat.le_max_left ..)) (Nat.le_succ_of_le (Nat.le_max_left ..)) (Nat.le_succ_of_le (Nat.le_max_left ..)) (fun _=>Nat.le_add_right ..) (fun _=>Nat.le_add_right ..)
 obtain ⟨m2,e2,q2⟩:=q.kid (x:=x2) (y:=y2) And.right And.right (Nat.succ_le_succ (Nat.le_max_right ..)) (Nat.succ_le_succ (Nat.le_max_right ..)) (Nat.le_succ_of_le (Nat.le_max_right ..)) (Nat.le_succ_of_le (Nat.le_max_right ..)) (fun _=>Nat.le_add_left ..) (fun _=>Nat.le_add_left ..)
 cases e1
 cases e2
 obtain ⟨f1,_⟩:=(mt_least _ _ _ q.fn).1 bd' e
 have en:=mt_ent _ _ _ _ e
 refine ⟨q1.ol,q1.or,q1.hl,q1.hr,?_,f1,q1.nb,?_⟩
 ·rcases q.md with ⟨a,b,c⟩ | ⟨g,v⟩
  ·have a:∀ s,(x.cnt s+x2.cnt s)+(y.cnt s+y2.cnt s)≤1:=a
   refine .inl ⟨fun s=>by have:=a s;omega,q1.md.elim (fun h=>h.2.1) fun h=>?_,fun s h=>?_⟩
   ·have b:max x.ht x2.ht+1≤m+1:=b
    omega
   ·cases z:bd'.lookup s with
    | none=>rfl
    | some v =>
     rcases en _ (lookup_mem z) with w | w
     ·have:=c s (by show (x.cnt s+x2.cnt s)+(y.cnt s+y2.cnt s)≠0;omega)
      have k:=q.fn _ w
      rw [show lk bd s=none from this] at k
      cases k
     ·have k:x2.cnt s+y2.cnt s≠0:=(ent_cnt w).1
      have:=a s
      omega
  ·have hg:(Gr x∧x.ht≤m∨Gr y∧y.ht≤m)∧(Gr x2∧x2.ht≤m∨Gr y2∧y2.ht≤m):=by
    rcases g with ⟨g,h⟩ | ⟨g,h⟩
    ·have h:max x.ht x2.ht+1≤m+1:=h
     exact ⟨.inl ⟨fun s=>Nat.eq_zero_of_add_eq_zero_right (g s),by omega⟩,.inl ⟨fun s=>Nat.eq_zero_of_add_eq_zero_left (g s),by omega⟩⟩
    ·have h:max y.ht y2.ht+1≤m+1:=h
     exact ⟨.inr ⟨fun s=>Nat.eq_zero_of_add_eq_zero_right (g s),by omega⟩,.inr ⟨fun s=>Nat.eq_zero_of_add_eq_zero_left (g s),by omega⟩⟩
   refine .inr ⟨hg.1,fun s u z=>?_⟩
   rcases en _ (lookup_mem z) with w | w
   ·exact v s u (q.fn _ w)
   ·refine ⟨ent_ok q2.ol q2.or w,?_,ent_gr (hg.2.imp And.left And.left) w⟩
    have:=q1.nb
    rcases hg.2 with ⟨g,h⟩ | ⟨g,h⟩
    ·rcases w with w | w
     ·exact absurd (g _) w.1
     ·have h4:u.ht≤x2.ht:=w.2.ht
      exact Nat.le_trans h4 (Nat.le_trans h this)
    ·rcases w with w | w
     ·have h4:u.ht≤y2.ht:=w.2.ht
      exact Nat.le_trans h4 (Nat.le_trans h this)
     ·exact absurd (g _) w.1
 ·have k:=mt_len x2 y2 m (q2.md.elim (fun h=>.inl h.2.1) fun h=>h.1.imp And.right And.right) bd bd' e
  have:=q.bl
  rw [Nat.pow_succ] at this;omega
theorem putT_new:∀ {d:List (Str×T)} {x:Str} {e:T},d.lookup x=none→putK d x e=d++[(x,e)]:=fun {d x e} h=>by
 unfold putK
 rw [if_neg]
 intro z
 obtain ⟨p,hp,hx⟩:=List.any_eq_true.mp z
 clear z
 induction d with
 | nil=>cases hp
 | cons q d ih =>
  rw [List.lookup_cons] at h
  cases y:(x==q.1) with
  | true=>rw [y] at h;cases h
  | false =>
   rw [y] at h
   rcases List.mem_cons.mp hp with rfl | hp
   ·rw [of_decide_eq_true hx,beq_self_eq_true] at y;cases y
   ·exact ih h hp
theorem turn {out:Option (List (Str×T))} {n:Nat} (ih:∀ m,m<n→∀ l r bd ps,Qs m bd l r→ps.length+m≤1000→(∀ bd',mt l r bd=some bd'→∃ k,SolveR 26 out k bd' ps)→(mt l r bd=none→out=none)→∃ k,SolveR 26 out k bd (ps++[(l,r)])) :
  ∀ l r bd ps,Qs n bd l r→(∀ s,l.cnt s+r.cnt s≠0→bd.lookup s=none)→ps.length+n≤1000→(∀ bd',mt l r bd=some bd'→∃ k,SolveR 26 out k bd' ps)→(mt l r bd=none→out=none)→∀ l0 r0,fill bd 26 l0=some l→fill bd 26 r0=some r→∃ k,SolveR 26 out k bd (ps++[(l0,r0)]):=by
 have stp:∀ {l r bd ps bd' ps'},Qs n bd l r→ps.length+n≤1000→sstep bd ps l r=some (bd',ps')→(∃ k,SolveR 26 out k bd' ps')→∀ l0 r0,fill bd 26 l0=some l→fill bd 26 r0=some r→∃ k,SolveR 26 out k bd (ps++[(l0,r0)]):=fun {l r bd ps bd' ps'} q hp hs ⟨k,hk⟩ l0 r0 h1 h2=>by
  have k1:=ht_hh l
  have k2:=ht_hh r
  have k3:=q.hl
  have k4:=q.hr
  have k5:bd.length<1000000:=Nat.lt_of_le_of_lt (Nat.le_trans (Nat.le_add_right ..) q.bl) (by decide)
  exact ⟨k+1,.step h1 h2 (fit_of q.ol (by omega)) (fit_of q.or (by omega)) k5 (by omega) hs hk⟩
 have fl:∀ {l r bd ps},Qs n bd l r→ps.length+n≤1000→sstep bd ps l r=none→out=none→∀ l0 r0,fill bd 26 l0=some l→fill bd 26 r0=some r→∃ k,SolveR 26 out k bd (ps++[(l0,r0)]):=fun {l r bd ps} q hp hs ho l0 r0 h1 h2=>by
  have k1:=ht_hh l
  have k2:=ht_hh r
  have k3:=q.hl
  have k4:=q.hr
  have k5:bd.length<1000000:=Nat.lt_of_le_of_lt (Nat.le_trans (Nat.le_add_right ..) q.bl) (by decide)
  exact ⟨0,.fail h1 h2 (fit_of q.ol (by omega)) (fit_of q.or (by omega)) k5 (by omega) hs ho⟩
 have eqc:∀ l r bd ps,l.eq r=true→Qs n bd l r→ps.length+n≤1000→(∀ bd',mt l r bd=some bd'→∃ k,SolveR 26 out k bd' ps)→∀ l0 r0,fill bd 26 l0=some l→fill bd 26 r0=some r→∃ k,SolveR 26 out k bd (ps++[(l0,r0)]):=fun l r bd ps e q hp hk=>by
  have g:Gr l:=by have:=T.eq_is e;subst this;exact q.cd.gr
  have g2:Gr r:=by have:=T.eq_is e;subst this;exact g
  refine stp q hp (bd':=bd) (ps':=ps) (if_pos e) (hk bd ?_)
  rw [mt_gr l r q.ol q.or g g2,e];rfl
 have nameN:∀ {bd:List (Str×T)} {s:Str} {v:T},bd.lookup s=none→insB bd s v=some (bd++[(s,v)]):=fun {bd s v} h=>by unfold insB;rw [h]
 refine pair_ind (fun s r bd ps q hu hp hk hn=>?_) (fun l s z bd ps q hu hp hk hn=>?_) (fun bd ps q hu hp hk hn=>eqc _ _ bd ps rfl q hp hk) (fun bd ps q hu hp hk hn=>eqc _ _ bd ps rfl q hp hk) (fun a b _ bd ps q hu hp hk hn=>?_) (fun a b _ bd ps q hu hp hk hn=>?_) (fun a b c d _ _ bd ps q hu hp hk hn=>?_) (fun l r z bd ps q hu hp hk hn=>?_)
 ·have c0:r.cnt s=0:=(q.cd.dis s).resolve_left (by rw [cnt_self];exact Nat.one_ne_zero)
  have u0:=hu s (by rw [cnt_self,c0];exact Nat.one_ne_zero)
  refine stp q hp (bd':=bd++[(s,r)]) (ps':=ps) ?_ (hk _ (nameN u0))
  show (if (T.n s).eq r then some (bd,ps) else if r.names.any (·==s) then none else some (putK bd s r,ps))=_
  rw [T.eq_not fun z=>(by rw [←z,cnt_self] at c0;cases c0),names_no c0,putT_new u0];rfl
 ·have c0:l.cnt s=0:=(q.cd.dis s).resolve_right (by rw [cnt_self];exact Nat.one_ne_zero)
  have u0:=hu s (by rw [cnt_self,c0];exact Nat.one_ne_zero)
  have e:mt l (.n s)=fun bd=>insB bd s l:=z.zip ..
  refine stp q hp (bd':=bd++[(s,l)]) (ps':=ps) ?_ (hk _ (by rw [e];exact nameN u0))
  unfold sstep
  rw [z.ne,z.nm]
  show (if l.names.any (·==s) then none else some (putK bd s l,ps))=_
  rw [names_no c0,putT_new u0];rfl
 ·cases e:(T.mo a).eq (.mo b) with
  | true=>exact eqc _ _ bd ps e q hp hk
  | false =>
   obtain ⟨m,rfl,q1⟩:=q.kid (x:=a) (y:=b) id id (Nat.le_refl _) (Nat.le_refl _) (Nat.le_succ _) (Nat.le_succ _) (fun _=>Nat.le_refl _) (fun _=>Nat.le_refl _)
   refine stp q hp (bd':=bd) (ps':=ps++[(a,b)]) ?_ (ih m (Nat.lt_succ_self m) a b bd ps q1 (by omega) hk hn)
   unfold sstep;rw [e];rfl
 ·cases e:(T.fa a).eq (.fa b) with
  | true=>exact eqc _ _ bd ps e q hp hk
  | false =>
   obtain ⟨m,rfl,q1⟩:=q.kid (x:=a) (y:=b) id id (Nat.le_refl _) (Nat.le_refl _) (Nat.le_succ _) (Nat.le_succ _) (fun _=>Nat.le_refl _) (fun _=>Nat.le_refl _)
   refine stp q hp (bd':=bd) (ps':=ps++[(a,b)]) ?_ (ih m (Nat.lt_succ_self m) a b bd ps q1 (by omega) hk hn)
   unfold sstep;rw [e];rfl
 ·cases e:(T.su a b).eq (.su c d) with
  | true=>exact eqc _ _ bd ps e q hp hk
  | false =>
   obtain ⟨m,rfl,q1⟩:=q.kid (x:=b) (y:=d) And.right And.right (Nat.succ_le_succ (Nat.le_max_right ..)) (Nat.succ_le_succ (Nat.le_max_right ..)) (Nat.le_succ_of_le (Nat.le_max_right ..)) (Nat.le_succ_of_le (Nat.le_max_right ..)) (fun _=>Nat.le_add_left ..) (fun _=>Nat.le_add_left ..)
   have em:mt (.su a b) (.su c d) bd=(mt b d bd).bind (mt a c):=rfl
   rw [em] at hn
   refine stp q hp (bd':=bd) (ps':=(ps++[(a,c)])++[(b,d)]) ?_ (ih m (Nat.lt_succ_self m) b d bd (ps++[(a,c)]) q1 (by rw [List.length_append];show ps.length+1+m≤1000;omega) (fun b1 h1=>?_) fun h1=>hn (by rw [h1];rfl))
   ·unfold sstep
    rw [e,List.append_assoc];rfl
   ·rw [em,h1] at hk
    rw [h1] at hn
    exact ih m (Nat.lt_succ_self m) a c b1 ps (q.next h1) (by omega) hk hn
 ·have st:=z.st q.ol q.or
  have e1:mt l r=fun _=>none:=z.no ..
  refine fl q hp ?_ (hn (by rw [e1]))
  unfold sstep
  rw [z.ne.resolve_right fun h=>h q.ol,st.1,st.2.1,st.2.2];rfl
theorem solve_pair {out:Option (List (Str×T))}:∀ n l r bd ps,Qs n bd l r→ps.length+n≤1000→(∀ bd',mt l r bd=some bd'→∃ k,SolveR 26 out k bd' ps)→(mt l r bd=none→out=none)→∃ k,SolveR 26 out k bd (ps++[(l,r)]):=by
 intro n
 induction n using Nat.strongRecOn with
 | _ n ih =>
  intro l r bd ps q hp hk hn
  obtain ⟨l',r',f1,f2,q',hu,em⟩:=q.fill
  rw [←em] at hk hn
  exact turn ih l' r' bd ps q' hu hp hk hn l r f1 f2
theorem solved {a b:T} (h:Cd a b) (oa:a.ok) (ob:b.ok) (ha:a.ht≤8) (hb:b.ht≤8):∃ k,SolveR 26 (mt a b []) k [] [(a,b)]:=by
 have k1:=ht_hh a
 have k2:=ht_hh b
 have q:Qs 8 [] a b:=⟨oa,ob,by omega,by omega,h.elim (fun h=>.inl ⟨h,ha,fun _ _=>rfl⟩) (fun h=>.inr ⟨h.imp (fun g=>⟨g,ha⟩) fun g=>⟨g,hb⟩,nofun⟩),nofun,Nat.le_refl _,by decide⟩
 refine solve_pair 8 a b [] [] q (by decide) (fun bd' e=>⟨0,.done e ?_⟩) id
 have:=mt_len a b 8 (.inl ha) [] bd' e
 have:bd'.length≤0+256:=this
 omega
noncomputable def sumP (g:T×T→Nat):List (T×T)→Nat
 | []=>0
 | p::r=>g p+sumP g r
theorem sumP_app (g:T×T→Nat):∀ a b,sumP g (a++b)=sumP g a+sumP g b
 | [],b=>(Nat.zero_add _).symm
 | p::a,b=>by show g p+sumP g (a++b)=g p+sumP g a+sumP g b;rw [sumP_app g a b,Nat.add_assoc]
noncomputable def pot (p:T×T):Nat:=max p.1.ht p.2.ht+1
noncomputable def tot (s:Str) (p:T×T):Nat:=p.1.cnt s+p.2.cnt s
theorem lp {l m S:Nat} (h:l≤S):l+1≤m+1+S:=by omega
theorem len_pot:∀ l,l.length≤sumP pot l
 | []=>Nat.le_refl _
 | p::l=>lp (len_pot l)
noncomputable def dg (i:Nat):Str:=(strAt "0123456789" (i:Int)).getD ""
noncomputable def nx (i:Nat):Str:=("x": Str)++dg i
noncomputable def ny (i:Nat):Str:=("y": Str)++dg i
noncomputable def lv (s:Str):Nat:=match nameL.findIdx? (·==s) with
 | some k=>if Nat.blt k 11 then k - 1 else k - 10
 | none=>0
theorem dgs:(([1,2,3,4,5,6,7,8,9]:List Nat).all fun i=>((strAt "0123456789" (i:Int)).isSome&&Nat.ble (dg i).length 900)&&(nameL.any (·==nx i)&&nameL.any (·==ny i))&&(Nat.beq (lv (nx i)) i&&Nat.beq (lv (ny i)) i&&!(nx i==ny i)))=true:=by kernel_rfl
theorem xys:(((strAt "xy" 0).isSome&&nameL.any (·==(strAt "xy" 0).getD ""))&&((strAt "xy" 1).isSome&&nameL.any (·==(strAt "xy" 1).getD "")))=true:=by kernel_rfl
theorem nine {c:Nat} (h:c<9):c+1∈([1,2,3,4,5,6,7,8,9]:List Nat):=by
 exact (by decide:∀ c<9,c+1∈([1,2,3,4,5,6,7,8,9]:List Nat)) c h
structure Fr2 (kd:Int) (c:Nat) (f g:T):Prop where
 o1:f.ok
 o2:g.ok
 h1:f.ht=0
 h2:g.ht=0
 z:kd=0→∀ s,f.cnt s+g.cnt s≤1∧(f.cnt s+g.cnt s≠0→lv s=c+1)
theorem first_ex {kd:Int} {c:Nat} (n:Int) (hc:c<9):∃ f g,First kd c n f g∧Fr2 kd c f g:=by
 by_cases hk:kd=0
 ·have h:=List.all_eq_true.mp dgs _ (nine hc)
  simp only [Bool.and_eq_true] at h
  obtain ⟨⟨⟨a1,a2⟩,b1,b2⟩,⟨c1,c2⟩,c3⟩:=h
  obtain ⟨d,hd⟩:=Option.isSome_iff_exists.mp a1
  have e:dg (c+1)=d:=by unfold dg;rw [hd];rfl
  refine ⟨.n (nx (c+1)),.n (ny (c+1)),.inl ⟨hk,d,hd,?_,?_,?_⟩,any_is.mp b1,any_is.mp b2,rfl,rfl,fun _ s=>?_⟩
  ·rw [←e];exact Nat.le_of_ble_eq_true a2
  ·rw [←e];rfl
  ·rw [←e];rfl
  ·have c1:=Nat.eq_of_beq_eq_true c1
   have c2:=Nat.eq_of_beq_eq_true c2
   have c3:nx (c+1)≠ny (c+1):=fun z=>by rw [z,beq_self_eq_true] at c3;cases c3
   show (if nx (c+1)=s then 1 else 0)+(if ny (c+1)=s then 1 else 0)≤1∧((if nx (c+1)=s then 1 else 0)+(if ny (c+1)=s then 1 else 0)≠0→lv s=c+1)
   by_cases h1:nx (c+1)=s
   ·rw [if_pos h1,if_neg fun z=>c3 (h1.trans z.symm)]
    exact ⟨Nat.le_refl _,fun _=>h1▸c1⟩
   ·by_cases h2:ny (c+1)=s
    ·rw [if_neg h1,if_pos h2]
     exact ⟨Nat.le_refl _,fun _=>h2▸c2⟩
    ·rw [if_neg h1,if_neg h2]
     exact ⟨Nat.zero_le _,fun h=>absurd rfl h⟩
 ·have hm:(n.fdiv 8).fmod 2=0∨(n.fdiv 8).fmod 2=1:=by
   rw [Int.fmod_eq_emod_of_nonneg _ (by decide)];omega
  have h:=xys
  simp only [Bool.and_eq_true] at h
  obtain ⟨⟨a1,a2⟩,b1,b2⟩:=h
  have go:∀ m:Int,(n.fdiv 8).fmod 2=m→(strAt "xy" m).isSome=true→nameL.any (·==(strAt "xy" m).getD "")=true→∃ f g,First kd c n f g∧Fr2 kd c f g:=fun m e i j=>by
   obtain ⟨d,hd⟩:=Option.isSome_iff_exists.mp i
   rw [hd] at j
   have o:d∈nameL:=any_is.mp j
   exact ⟨.n d,.n d,.inr ⟨beq_eq_false_iff_ne.mpr hk,d,by rw [e];exact hd,rfl,rfl⟩,o,o,rfl,rfl,fun z=>absurd z hk⟩
  rcases hm with e | e
  ·exact go 0 e a1 a2
  ·exact go 1 e b1 b2
structure Jv (kd:Int) (c:Nat) (st:List (T×T)):Prop where
 ok:∀ p∈st,p.1.ok∧p.2.ok
 pt:sumP pot st≤c
 z:kd=0→∀ s,sumP (tot s) st≤1∧(c<lv s→sumP (tot s) st=0)
 g:kd=1∨kd=2→∀ p∈st,Gr p.2
theorem jz {S O A F L c:Nat} (h1:S+O≤1∧(c<L→S+O=0)) (h2:F≤1∧(F≠0→L=c+1)) (h3:A≤O+F):S+A≤1∧(c+1<L→S+A=0):=by
 have k:S+A≤S+O+F:=Nat.add_assoc S O F▸Nat.add_le_add_left h3 S
 by_cases q:F=0
 ·rw [q] at k
  exact ⟨Nat.le_trans k h1.1,fun l=>Nat.le_zero.mp (h1.2 (Nat.lt_of_succ_lt l)▸k)⟩
 ·have e:=h2.2 q
  rw [h1.2 (e▸Nat.lt_succ_self c),Nat.zero_add] at k
  exact ⟨Nat.le_trans k h2.1,fun l=>absurd (e▸l) (Nat.lt_irrefl _)⟩
theorem Jv.put {kd:Int} {c:Nat} {st0 old:List (T×T)} {f g a b:T} (j:Jv kd c (st0++old)) (fr:Fr2 kd c f g) (o1:a.ok) (o2:b.ok) (hp:max a.ht b.ht≤sumP pot old) (hz:∀ s,a.cnt s+b.cnt s≤sumP (tot s) old+(f.cnt s+g.cnt s)) (hg:kd=1∨kd=2→Gr b):Jv kd (c+1) (st0++[(a,b)]):=by
 refine ⟨fun p h=>?_,?_,fun k s=>?_,fun k p h=>?_⟩
 ·rcases List.mem_append.mp h with h | h
  ·exact j.ok p (List.mem_append_left _ h)
  ·rw [List.mem_singleton.mp h];exact ⟨o1,o2⟩
 ·have:=j.pt
  rw [sumP_app] at this ⊢
  exact Nat.succ_le_succ (Nat.le_trans (Nat.add_le_add_left hp _) this)
 ·have h1:=j.z k s
  have h2:=fr.z k s
  rw [sumP_app] at h1 ⊢
  exact jz h1 h2 (hz s)
 ·rcases List.mem_append.mp h with h | h
  ·exact j.g k p (List.mem_append_left _ h)
  ·rw [List.mem_singleton.mp h];exact hg k
theorem last_of {α:Type}:∀ l:List α,l=[]∨∃ r x,l=r++[x]
 | []=>.inl rfl
 | a::l=>.inr (match last_of l with
  | .inl h=>⟨[],a,by rw [h];rfl⟩
  | .inr ⟨r,x,h⟩=>⟨a::r,x,by rw [h];rfl⟩)
theorem both12 {kd:Int} (h:kd=1∨kd=2):bothOf kd=false:=by rcases h with rfl | rfl<;>rfl
theorem ite_ok {b:Bool} {x y:T} (h1:x.ok) (h2:y.ok):(if b=true then x else y).ok:=by cases b<;>assumption
theorem ite_ht {b:Bool} {x y:T} (h1:x.ht=0) (h2:y.ht=0):(if b=true then x else y).ht=0:=by cases b<;>assumption
theorem ite_cnt {b:Bool} {x y:T} {s:Str} {n:Nat} (h1:x.cnt s≤n) (h2:y.cnt s≤n):(if b=true then x else y).cnt s≤n:=by cases b<;>assumption
theorem mm6 {a b M N:Nat} (h:a≤M) (k:b≤N):max a b+1≤M+1+(N+1):=Nat.succ_le_succ (Nat.max_le.mpr ⟨Nat.le_trans h (Nat.le_trans (Nat.le_succ _) (Nat.le_add_right ..)),Nat.le_trans k (Nat.le_add_left ..)⟩)
theorem cc1 (f b a g:Nat):f+b≤a+b+0+(f+g):=by omega
theorem cc2 (a g b f:Nat):a+g≤a+b+0+(f+g):=by omega
theorem step_ex {kd:Int} {c:Nat} {st:List (T×T)} {f g:T} (j:Jv kd c st) (fr:Fr2 kd c f g) (r:Int) {k:Int} (hk:k=0∨k=1∨k=2∨k=3∨k=4∨k=5∨k=6∨k=7) :
  ∃ st',PStep (bothOf kd) f g r k st st'∧Jv kd (c+1) st':=by
 have j0:Jv kd c (st++[]):=by rw [List.append_nil];exact j
 have ke:(k=0∨k=5∧st=[]∨k=6∧st.length≤1∨k=7∧st=[])→∃ st',PStep (bothOf kd) f g r k st st'∧Jv kd (c+1) st':=fun h =>
  ⟨_,.k0 h,j0.put fr trivial (ite_ok trivial trivial) (by rw [ite_ht rfl rfl];exact Nat.le_refl _) (fun s=>Nat.le_trans (Nat.add_le_add (Nat.le_refl 0) (ite_cnt (Nat.le_refl 0) (Nat.le_refl 0))) (Nat.zero_le _)) fun _ s=>by cases (r.fmod 2==1)<;>rfl⟩
 rcases hk with rfl | rfl | rfl | rfl | rfl | rfl | rfl | rfl
 ·exact ke (.inl rfl)
 ·exact ⟨_,.k1,j0.put fr trivial trivial (Nat.le_refl _) (fun s=>Nat.zero_le _) fun _ s=>rfl⟩
 ·exact ⟨_,.k2,j0.put fr fr.o1 trivial (by rw [fr.h1];exact Nat.le_refl _) (fun s=>Nat.le_trans (Nat.le_add_right (f.cnt s) (g.cnt s)) (Nat.le_of_eq (Nat.zero_add _).symm)) fun _ s=>rfl⟩
 ·refine ⟨_,.k3,j0.put fr trivial (ite_ok fr.o2 trivial) (by rw [ite_ht fr.h2 rfl];exact Nat.le_refl _) (fun s=>?_) fun q s=>by rw [both12 q];rfl⟩
  have:(if bothOf kd=true then g else .rex).cnt s≤g.cnt s:=ite_cnt (Nat.le_refl _) (Nat.zero_le _)
  exact Nat.add_le_add_left (Nat.le_trans this (Nat.le_add_left ..)) 0
 ·refine ⟨_,.k4,j0.put fr fr.o1 (ite_ok fr.o2 trivial) (by rw [ite_ht fr.h2 rfl,fr.h1];exact Nat.le_refl _) (fun s=>?_) fun q s=>by rw [both12 q];rfl⟩
  have:(if bothOf kd=true then g else .tom).cnt s≤g.cnt s:=ite_cnt (Nat.le_refl _) (Nat.zero_le _)
  exact Nat.le_trans (Nat.add_le_add_left this (f.cnt s)) (Nat.le_of_eq (Nat.zero_add _).symm)
 ·rcases last_of st with h | ⟨st0,⟨a,b⟩,rfl⟩
  ·exact ke (.inr (.inl ⟨rfl,h⟩))
  ·have o:=j.ok (a,b) (List.mem_append_right _ (.head _))
   refine ⟨_,.k5,j.put fr o.1 (by cases (r.fmod 4==3)<;>exact o.2) ?_ (fun s=>?_) fun q s=>?_⟩
   ·have:(if (r.fmod 4==3)=true then T.fa b else .mo b).ht=b.ht+1:=by cases (r.fmod 4==3)<;>rfl
    rw [this];exact Nat.max_le.mpr ⟨Nat.succ_le_succ (Nat.le_max_left ..),Nat.succ_le_succ (Nat.le_max_right ..)⟩
   ·have:(if (r.fmod 4==3)=true then T.fa b else .mo b).cnt s=b.cnt s:=by cases (r.fmod 4==3)<;>rfl
    rw [this];exact Nat.le_add_right (a.cnt s+b.cnt s) _
   ·have:=j.g q (a,b) (List.mem_append_right _ (.head _)) s
    cases (r.fmod 4==3)<;>exact this
 ·rcases last_of st with h | ⟨st1,⟨a,b⟩,rfl⟩
  ·exact ke (.inr (.inr (.inl ⟨rfl,by rw [h];exact Nat.zero_le _⟩)))
  ·rcases last_of st1 with h | ⟨st0,⟨a2,b2⟩,rfl⟩
   ·exact ke (.inr (.inr (.inl ⟨rfl,by rw [h];exact Nat.le_refl _⟩)))
   ·have o:=j.ok (a,b) (List.mem_append_right _ (.head _))
    have o2:=j.ok (a2,b2) (List.mem_append_left _ (List.mem_append_right _ (.head _)))
    have gg:=fun q=>j.g q (a,b) (List.mem_append_right _ (.head _))
    have gg2:=fun q=>j.g q (a2,b2) (List.mem_append_left _ (List.mem_append_right _ (.head _)))
    rw [List.append_assoc] at j
    refine ⟨_,.k6,j.put fr ⟨o2.1,o.1⟩ ⟨o2.2,o.2⟩ ?_ (fun s=>?_) fun q s=>?_⟩
    ·exact Nat.max_le.mpr ⟨mm6 (Nat.le_max_left ..) (Nat.le_max_left ..),mm6 (Nat.le_max_right ..) (Nat.le_max_right ..)⟩
    ·exact Nat.le_trans (Nat.le_of_eq (Nat.add_add_add_comm ..)) (Nat.le_add_right _ _)
    ·show b2.cnt s+b.cnt s=0
     rw [gg2 q s,gg q s]
 ·rcases last_of st with h | ⟨st0,⟨a,b⟩,rfl⟩
  ·exact ke (.inr (.inr (.inr ⟨rfl,h⟩)))
  ·have o:=j.ok (a,b) (List.mem_append_right _ (.head _))
   have gg:=fun q=>j.g q (a,b) (List.mem_append_right _ (.head _))
   have h72:((r.fdiv 2).fmod 3==0)=false→(((r.fdiv 2).fmod 3==1)=true→bothOf kd=false)→∃ st',PStep (bothOf kd) f g r 7 (st0++[(a,b)]) st'∧Jv kd (c+1) st':=fun h1 h2 =>
    ⟨_,.k72 h1 h2,j.put fr o.1 o.2 (Nat.max_le.mpr ⟨Nat.le_succ_of_le (Nat.le_max_left ..),Nat.succ_le_succ (Nat.le_max_right ..)⟩) (fun s=>Nat.le_add_right (a.cnt s+b.cnt s) _) fun q s=>gg q s⟩
   cases h1:((r.fdiv 2).fmod 3==0) with
   | true=>exact ⟨_,.k70 h1,j.put fr fr.o1 o.2 (by rw [fr.h1];exact Nat.max_le.mpr ⟨Nat.zero_le _,Nat.le_succ_of_le (Nat.le_max_right ..)⟩) (fun s=>cc1 ..) fun q s=>gg q s⟩
   | false =>
    cases h2:((r.fdiv 2).fmod 3==1) with
    | false=>exact h72 h1 fun z=>by rw [h2] at z;cases z
    | true =>
     cases h3:bothOf kd with
     | false=>rw [←h3];exact h72 h1 fun _=>h3
     | true =>
      rw [←h3]
      exact ⟨_,.k71 h1 h2 h3,j.put fr o.1 fr.o2 (by rw [fr.h2];exact Nat.max_le.mpr ⟨Nat.le_succ_of_le (Nat.le_max_left ..),Nat.zero_le _⟩) (fun s=>cc2 ..) fun q s=>by rw [both12 q] at h3;cases h3⟩
theorem mod8 (n:Int):n.fmod 8=0∨n.fmod 8=1∨n.fmod 8=2∨n.fmod 8=3∨n.fmod 8=4∨n.fmod 8=5∨n.fmod 8=6∨n.fmod 8=7:=by
 have h:((n.fmod 8).toNat:Int)=n.fmod 8:=Int.toNat_of_nonneg (Int.fmod_nonneg_of_pos n (by decide))
 rw [←h]
 exact (by decide:∀ k:Nat,k<8→(k:Int)=0∨(k:Int)=1∨(k:Int)=2∨(k:Int)=3∨(k:Int)=4∨(k:Int)=5∨(k:Int)=6∨(k:Int)=7) _ (Int.ofNat_lt.mp (h▸Int.fmod_lt_of_pos n (b:=8) (by decide)))
theorem run_ex {kd:Int}:∀ (l:List Int) (c:Nat) (st:List (T×T)),Jv kd c st→c+l.length≤9→∃ c' st',PRun kd (bothOf kd) c l st c' st'∧Jv kd 9 st'
 | [],c,st,j,h=>⟨c,st,.nil,j.ok,Nat.le_trans j.pt h,fun k s=>⟨(j.z k s).1,fun l=>(j.z k s).2 (Nat.lt_of_le_of_lt h l)⟩,j.g⟩
 | n::l,c,st,j,h=>by
  rw [List.length_cons] at h
  obtain ⟨f,g,h1,fr⟩:=first_ex (kd:=kd) n (Nat.lt_of_lt_of_le (Nat.lt_add_of_pos_right (Nat.succ_pos _)) h)
  obtain ⟨st',h2,j'⟩:=step_ex j fr (n.fdiv 8) (mod8 n)
  obtain ⟨c',st'',h3,j''⟩:=run_ex l (c+1) st' j' (by rw [Nat.succ_add];exact h)
  exact ⟨c',st'',.cons h1 h2 (Nat.lt_of_le_of_lt (Nat.le_trans (len_pot st) (Nat.le_trans j.pt (Nat.le_trans (Nat.le_add_right ..) h))) (by decide)) h3,j''⟩
structure Ends2 (kd:Int) (p:T×T):Prop where
 o1:p.1.ok
 o2:p.2.ok
 h1:p.1.ht≤8
 h2:p.2.ht≤8
 z:kd=0→Lin p.1 p.2
 g:kd=1∨kd=2→Gr p.2
theorem jn1 {M N K S:Nat} (k:K≤M+N+1) (h:M+1+S+(N+1)≤9):S+(K+1)≤9:=by omega
theorem jn2 {a b S c d:Nat} (h:a+b+S+(c+d)≤1):S+((a+c)+(b+d))≤1:=by omega
theorem join_ex {kd:Int}:∀ (rev:List (T×T)) (p:T×T),(∀ q∈rev,q.1.ok∧q.2.ok)→p.1.ok→p.2.ok→sumP pot rev+pot p≤9→(kd=0→∀ s,sumP (tot s) rev+tot s p≤1)→(kd=1∨kd=2→(∀ q∈rev,Gr q.2)∧Gr p.2)→Ends2 kd (joinR rev p)
 | [],p,_,o1,o2,h,z,g=>by
  have h:0+(max p.1.ht p.2.ht+1)≤9:=h
  exact ⟨o1,o2,Nat.le_trans (Nat.le_max_left ..) (Nat.le_of_succ_le_succ (Nat.zero_add _▸h)),Nat.le_trans (Nat.le_max_right ..) (Nat.le_of_succ_le_succ (Nat.zero_add _▸h)),fun k s=>by have:=z k s;exact Nat.le_trans (Nat.le_add_left _ 0) this,fun k=>(g k).2⟩
 | q::rev,p,o,o1,o2,h,z,g=>by
  have q1:=o q (.head _)
  refine join_ex rev (.su q.1 p.1,.su q.2 p.2) (fun x hx=>o x (.tail _ hx)) ⟨q1.1,o1⟩ ⟨q1.2,o2⟩ ?_ (fun k s=>?_) fun k=>⟨fun x hx=>(g k).1 x (.tail _ hx),fun s=>?_⟩
  ·have h:(max q.1.ht q.2.ht+1+sumP pot rev)+(max p.1.ht p.2.ht+1)≤9:=h
   exact jn1 (Nat.max_le.mpr ⟨Nat.succ_le_succ (Nat.max_le.mpr ⟨Nat.le_trans (Nat.le_max_left ..) (Nat.le_add_right ..),Nat.le_trans (Nat.le_max_left ..) (Nat.le_add_left ..)⟩),Nat.succ_le_succ (Nat.max_le.mpr ⟨Nat.le_trans (Nat.le_max_right ..) (Nat.le_add_right ..),Nat.le_trans (Nat.le_max_right ..) (Nat.le_add_left ..)⟩)⟩) h
  ·have h:(q.1.cnt s+q.2.cnt s+sumP (tot s) rev)+(p.1.cnt s+p.2.cnt s)≤1:=z k s
   exact jn2 h
  ·show q.2.cnt s+p.2.cnt s=0
   rw [(g k).1 q (.head _) s,(g k).2 s]
theorem sumP_rev (g:T×T→Nat):∀ l,sumP g l.reverse=sumP g l
 | []=>rfl
 | p::l=>by rw [List.reverse_cons,sumP_app,sumP_rev g l];exact Nat.add_comm ..
theorem x_name:nameL.any (·==("x": Str))=true:=by kernel_rfl
theorem run_all {kd:Int} (l:List Int) (hl:l.length≤9):∃ c st rev a b,PRun kd (bothOf kd) 0 l [] c st∧stOf st=rev.reverse++[(a,b)]∧rev.length<800000∧Ends2 kd (joinR rev (a,b)):=by
 obtain ⟨c,st,h,j⟩:=run_ex (kd:=kd) l 0 [] ⟨nofun,Nat.le_refl _,fun _ _=>⟨Nat.zero_le _,fun _=>rfl⟩,fun _=>nofun⟩ (by omega)
 rcases last_of st with e | ⟨st0,⟨a,b⟩,e⟩
 ·subst e
  refine ⟨c,[],[],.n "x", .rex,h,rfl,by decide,any_is.mp x_name,trivial,by decide,by decide,fun _ s=>?_,fun _ s=>rfl⟩
  show (if ("x": Str)=s then 1 else 0)+0≤1
  split<;>omega
 ·subst e
  have hs:stOf (st0++[(a,b)])=st0.reverse.reverse++[(a,b)]:=by
   rw [List.reverse_reverse]
   cases st0<;>rfl
  have o:=j.ok (a,b) (List.mem_append_right _ (.head _))
  have pt:=j.pt
  rw [sumP_app] at pt
  have pt:sumP pot st0+(pot (a,b)+0)≤9:=pt
  have:=len_pot st0
  refine ⟨c,_,st0.reverse,a,b,h,hs,by rw [List.length_reverse];omega,join_ex _ _ (fun q hq=>j.ok q (List.mem_append_left _ (List.mem_reverse.mp hq))) o.1 o.2 (by rw [sumP_rev];exact pt) (fun k s=>?_) fun k=>⟨fun q hq=>j.g k q (List.mem_append_left _ (List.mem_reverse.mp hq)),j.g k (a,b) (List.mem_append_right _ (.head _))⟩⟩
  have:=(j.z k s).1
  rw [sumP_app] at this
  rw [sumP_rev];exact this
section
open Classical in
theorem hx1 {h t:Nat} (k:h≤2 * t):max 0 h+1≤2 * (t+1):=Nat.succ_le_succ (Nat.max_le.mpr ⟨Nat.zero_le _,Nat.le_succ_of_le k⟩)
theorem hx2 {h g s t:Nat} (k:h≤2 * s) (l:g≤2 * t):max (max 0 h+1) g+1≤2 * (max s t+1):=Nat.succ_le_succ (Nat.max_le.mpr ⟨Nat.succ_le_succ (Nat.max_le.mpr ⟨Nat.zero_le _,Nat.le_trans k (Nat.mul_le_mul_left 2 (Nat.le_max_left ..))⟩),Nat.le_succ_of_le (Nat.le_trans l (Nat.mul_le_mul_left 2 (Nat.le_max_right ..)))⟩)
theorem htX:∀ t:T,(toE t).ht≤2 * t.ht
 | .n _=>Nat.le_refl _
 | .ni _=>Nat.le_refl _
 | .rex=>Nat.le_refl _
 | .tom=>Nat.le_refl _
 | .mo t=>hx1 (htX t)
 | .fa t=>hx1 (htX t)
 | .su a b=>hx2 (htX a) (htX b)
theorem szX:∀ t:T,(toE t).sz+1≤2 ^ (t.ht+1)
 | .n _=>Nat.le_refl _
 | .ni _=>Nat.le_refl _
 | .rex=>Nat.le_refl _
 | .tom=>Nat.le_refl _
 | .mo t=>by
  have:=szX t
  have h2:=Nat.one_le_two_pow (n:=t.ht+1)
  show 1+(toE t).sz+1≤2 ^ (t.ht+1+1)
  rw [Nat.pow_succ];omega
 | .fa t=>by
  have:=szX t
  have h2:=Nat.one_le_two_pow (n:=t.ht+1)
  show 1+(toE t).sz+1≤2 ^ (t.ht+1+1)
  rw [Nat.pow_succ];omega
 | .su a b=>by
  have h1:=Nat.le_trans (szX a) (Nat.pow_le_pow_right (n:=2) (by decide) (Nat.succ_le_succ (Nat.le_max_left a.ht b.ht)))
  have h2:=Nat.le_trans (szX b) (Nat.pow_le_pow_right (n:=2) (by decide) (Nat.succ_le_succ (Nat.le_max_right a.ht b.ht)))
  show 1+(toE a).sz+(toE b).sz+1≤2 ^ (max a.ht b.ht+1+1)
  rw [Nat.pow_succ]
  have h1:(toE a).sz+1≤2 ^ (max a.ht b.ht+1):=h1
  have h2:(toE b).sz+1≤2 ^ (max a.ht b.ht+1):=h2
  omega
theorem szX8 {t:T} (h:t.ht≤8):(toE t).sz<100000:=by
 have h1:=Nat.le_trans (szX t) (Nat.pow_le_pow_right (n:=2) (by decide) (Nat.succ_le_succ h))
 have h1:(toE t).sz+1≤512:=h1
 omega
theorem c5_plain:(c5L.all fun c=>Nat.blt (strSl c.nm none (some 1)).length 1000&&!((["?","@"]:List Str).any (·==strSl c.nm none (some 1))))=true:=by kernel_rfl
theorem fitX {t:T} (h:t.ht≤8):(toE t).Fit:=by
 refine ⟨by have:=szX8 h;omega,fun s hs=>?_⟩
 obtain ⟨c,rfl⟩:=(mem_uni2.mp hs).elim (ps_c5 _) (cs_c5 _)
 have:=List.all_eq_true.mp c5_plain c (c5_in c)
 rw [Bool.and_eq_true,Bool.not_eq_true'] at this
 exact ⟨Nat.le_of_ble_eq_true this.1,this.2⟩
theorem vs_mem {t:T} {x:Str}:x∈(toE t).vs↔t.cnt x≠0:=by
 unfold X.vs
 rw [mem_uni2,fv_mem]
 exact ⟨fun h=>h.elim id nofun,.inl⟩
theorem ok_name {s:Str}:∀ t:T,t.ok→t.cnt s≠0→s∈nameL
 | .n x,o,h=>by rw [cnt_name h];exact o
 | .ni _,o,_=>o.elim
 | .rex,_,h=>absurd rfl h
 | .tom,_,h=>absurd rfl h
 | .mo t,o,h=>ok_name t o h
 | .fa t,o,h=>ok_name t o h
 | .su a b,o,h=>by
  by_cases z:a.cnt s=0
  ·exact ok_name b o.2 fun y=>h (by show a.cnt s+b.cnt s=0;rw [z,y])
  ·exact ok_name a o.1 z
noncomputable def one1f (s:Str) (v:T):Fn:=fun x=>if x=s then some v else none
theorem repl_toE {s:Str} (hs:s∈nameL) (v:T):∀ t:T,t.ok→X.repl s (toE v) (toE t)=toE (t.sub (one1f s v))
 | .n x,_=>by
  show (if x==s then toE v else .var x)=toE ((one1f s v x).getD (.n x))
  unfold one1f
  by_cases h:x=s
  ·rw [if_pos h,h,beq_self_eq_true,if_pos rfl];rfl
  ·rw [if_neg h,beq_eq_false_iff_ne.mpr h];rfl
 | .ni _,o=>o.elim
 | .rex,_=>by show (if C5.rex.nm==s then toE v else .con .rex)=_;rw [(nm_ne hs .rex).2];rfl
 | .tom,_=>by show (if C5.tom.nm==s then toE v else .con .tom)=_;rw [(nm_ne hs .tom).2];rfl
 | .mo t,o=>by show X.app (if C5.mother.nm==s then toE v else .con .mother) (X.repl s (toE v) (toE t))=_;rw [(nm_ne hs .mother).2,repl_toE hs v t o];rfl
 | .fa t,o=>by show X.app (if C5.father.nm==s then toE v else .con .father) (X.repl s (toE v) (toE t))=_;rw [(nm_ne hs .father).2,repl_toE hs v t o];rfl
 | .su a b,o=>by
  show X.app (X.app (if C5.sum.nm==s then toE v else .con .sum) (X.repl s (toE v) (toE a))) (X.repl s (toE v) (toE b))=_
  rw [(nm_ne hs .sum).2,repl_toE hs v a o.1,repl_toE hs v b o.2];rfl
theorem sub_sub {f g h:Fn} (e:∀ x,((f x).getD (.n x)).sub g=(h x).getD (.n x)):∀ t:T,(t.sub f).sub g=t.sub h
 | .n x=>e x
 | .ni _=>rfl
 | .rex=>rfl
 | .tom=>rfl
 | .mo t=>congrArg T.mo (sub_sub e t)
 | .fa t=>congrArg T.fa (sub_sub e t)
 | .su a b=>su_eq (sub_sub e a) (sub_sub e b)
noncomputable def upto (d:List (Str×T)) (l:List Str):Fn:=fun x=>if x∈l then d.lookup x else none
theorem Idem.free {d:List (Str×T)} (h:Idem d) {s x:Str} {v:T} (e:d.lookup s=some v) (c:v.cnt x≠0):d.lookup x=none:=by
 cases q:d.lookup x with
 | none=>rfl
 | some u=>exact absurd (h _ (lookup_mem q) _ (lookup_mem e)) c
theorem subs_is {d:List (Str×T)} (hi:Idem d) (hv:∀ p∈d,p.2.ok):∀ (l:List Str) (t:T),(∀ s∈l,s∈nameL)→t.ok→X.subs (dX d) l (toE t)=toE (t.sub (upto d l))
 | [],t,_,_=>congrArg toE (fsub_id (upto d []) t fun x _=>if_neg nofun).symm
 | s::l,t,hl,o=>by
  show X.subs (dX d) l (X.sub1 (dX d) (toE t) s)=_
  unfold X.sub1
  rw [dX_look]
  cases q:d.lookup s with
  | none =>
   refine (subs_is hi hv l t (fun x hx=>hl x (.tail _ hx)) o).trans (congrArg toE (sub_congr t fun x _=>?_))
   unfold upto
   by_cases h:x=s
   ·subst h;rw [q];split<;>split<;>rfl
   ·by_cases h2:x∈l
    ·rw [if_pos h2,if_pos (.tail _ h2)]
    ·rw [if_neg h2,if_neg fun z=>(List.mem_cons.mp z).elim h h2]
  | some v =>
   show X.subs (dX d) l (X.repl s (toE v) (toE t))=_
   have ov:=hv _ (lookup_mem q)
   rw [repl_toE (hl s (.head _)) v t o,subs_is hi hv l _ (fun x hx=>hl x (.tail _ hx)) (fsub_ok (fun x u e=>by unfold one1f at e;split at e<;>cases e;exact ov) t o)]
   refine congrArg toE (sub_sub (fun x=>?_) t)
   unfold one1f
   by_cases h:x=s
   ·subst h
    rw [if_pos rfl]
    have:upto d (x::l) x=some v:=(if_pos (.head _)).trans q
    rw [this]
    refine fsub_id _ v fun y hy=>?_
    unfold upto
    rw [hi.free q hy];split<;>rfl
   ·rw [if_neg h]
    show ((upto d l x).getD _)=_
    unfold upto
    by_cases h2:x∈l
    ·rw [if_pos h2,if_pos (.tail _ h2)]
    ·rw [if_neg h2,if_neg fun z=>(List.mem_cons.mp z).elim h h2]
theorem subs_all {d:List (Str×T)} (hi:Idem d) (hv:∀ p∈d,p.2.ok) {t:T} (o:t.ok):X.subs (dX d) (toE t).vs (toE t)=toE (t.sub (lk d)):=by
 rw [subs_is hi hv _ t (fun s h=>ok_name t o (vs_mem.mp h)) o]
 exact congrArg toE (sub_congr t fun x h=>if_pos (vs_mem.mpr h))
theorem subs_ht {d:List (Str×T)} (hi:Idem d) (hv:∀ p∈d,p.2.ok) {t:T} (o:t.ok) (h:(t.sub (lk d)).ht≤8) (k:Nat):(X.subs (dX d) ((toE t).vs.take k) (toE t)).ht≤16:=by
 rw [subs_is hi hv _ t (fun s h=>ok_name t o (vs_mem.mp (List.mem_of_mem_take h))) o]
 have h1:=htX (t.sub (upto d ((toE t).vs.take k)))
 have h2:(t.sub (upto d ((toE t).vs.take k))).ht≤(t.sub (lk d)).ht:=sub_ht (fun s v e=>by unfold upto at e;split at e;exact e;cases e) t
 omega
theorem putT_map (x y:Str) (e:T):∀ d:List (Str×T),(d.map fun kv=>if kv.1=x then (kv.1,e) else kv).lookup y=if y=x then (d.lookup x).map (fun _=>e) else d.lookup y
 | []=>by split<;>rfl
 | (k,u)::d=>by
  have ih:=putT_map x y e d
  rw [List.map_cons,List.lookup_cons,List.lookup_cons]
  by_cases h:k=x
  ·rw [show (if (k,u).1=x then ((k,u).1,e) else (k,u))=(k,e) from if_pos h,List.lookup_cons,h,beq_self_eq_true]
   cases q:(y==x) with
   | true=>rw [if_pos (eq_of_beq q)];rfl
   | false=>rw [ih,if_neg (beq_eq_false_iff_ne.mp q),if_neg (beq_eq_false_iff_ne.mp q)]
  ·rw [show (if (k,u).1=x then ((k,u).1,e) else (k,u))=(k,u) from if_neg h,List.lookup_cons,beq_eq_false_iff_ne.mpr (Ne.symm h)]
   cases q:(y==k) with
   | true=>rw [if_neg fun z=>h ((eq_of_beq q).symm.trans z)]
   | false=>exact ih
theorem putT_look:∀ (d:List (Str×T)) (x y:Str) (e:T),(putK d x e).lookup y=if y=x then some e else d.lookup y:=by
 intro d x y e
 cases q:d.lookup x with
 | none =>
  rw [putT_new q,look_app]
  by_cases h:y=x
  ·rw [if_pos h,if_pos h,h,q];rfl
  ·rw [if_neg h,if_neg h];cases d.lookup y<;>rfl
 | some v =>
  unfold putK
  rw [if_pos (List.any_eq_true.mpr ⟨_,lookup_mem q,decide_eq_true rfl⟩)]
  refine (putT_map x y e d).trans ?_
  rw [q];rfl
theorem bind_in {d:List (Str×T)}:∀ (xs:List Str) (b:List (Str×T)),(∀ s v,b.lookup s=some v→d.lookup s=some v)→(∀ s v,(bindL d xs b).lookup s=some v→d.lookup s=some v)∧∀ s v,d.lookup s=some v→(s∈xs∨b.lookup s=some v)→(bindL d xs b).lookup s=some v
 | [],b,h=>⟨h,fun s v _ z=>z.elim nofun id⟩
 | x::xs,b,h=>by
  have e:bindL d (x::xs) b=bindL d xs (bind1 d b x):=rfl
  rw [e]
  have hb:∀ s v,(bind1 d b x).lookup s=some v→d.lookup s=some v:=fun s v z=>by
   unfold bind1 at z
   cases q:d.lookup x with
   | none=>rw [q] at z;exact h s v z
   | some t =>
    rw [q] at z
    replace z:(putK b x t).lookup s=some v:=z
    rw [putT_look] at z
    by_cases y:s=x
    ·rw [if_pos y] at z;cases z;rw [y];exact q
    ·rw [if_neg y] at z;exact h s v z
  obtain ⟨i1,i2⟩:=bind_in xs (bind1 d b x) hb
  refine ⟨i1,fun s v hd hz=>i2 s v hd ?_⟩
  by_cases y:s=x
  ·right
   unfold bind1
   rw [←y,hd]
   show (putK b s v).lookup s=_
   rw [putT_look,if_pos rfl]
  ·rcases hz with hz | hz
   ·exact .inl ((List.mem_cons.mp hz).resolve_left y)
   ·right
    unfold bind1
    cases q:d.lookup x with
    | none=>exact hz
    | some t =>
     show (putK b x t).lookup s=_
     rw [putT_look,if_neg y];exact hz
theorem bind_all {d:List (Str×T)} {a b:T} (hk:∀ p∈d,a.cnt p.1+b.cnt p.1≠0):lk (bindL d (a.names++b.names) [])=lk d:=by
 obtain ⟨i1,i2⟩:=bind_in (d:=d) (a.names++b.names) [] nofun
 funext s
 show List.lookup s _=List.lookup s d
 cases q:d.lookup s with
 | some v =>
  refine i2 s v q (.inl ?_)
  have:=hk _ (lookup_mem q)
  by_cases z:a.cnt s=0
  ·exact List.mem_append_right _ ((names_mem b).mpr fun y=>this (by show a.cnt s+b.cnt s=0;rw [z,y]))
  ·exact List.mem_append_left _ ((names_mem a).mpr z)
 | none =>
  cases q2:(bindL d (a.names++b.names) []).lookup s with
  | none=>rfl
  | some v=>rw [i1 s v q2] at q;cases q
theorem idx_ex {l:List Str} {x:Str} (h:x∈l):∃ i,idxS l x=some i:=by
 unfold idxS
 cases q:l.findIdx? (·==x) with
 | some k=>exact ⟨_,rfl⟩
 | none=>exact absurd (beq_self_eq_true x) (by have:=List.findIdx?_eq_none_iff.mp q x h;rw [this];exact Bool.false_ne_true)
theorem plain_ex {l:List Str}:∀ t:T,t.ok→(∀ x,t.cnt x≠0→x∈l)→∃ p,plainT l t=some p∧p.ht=t.ht
 | .n s,_,h=>by
  obtain ⟨i,e⟩:=idx_ex (h s (by rw [cnt_self];exact Nat.one_ne_zero))
  exact ⟨.ni i,by show (idxS l s).map T.ni=_;rw [e];rfl,rfl⟩
 | .ni _,o,_=>o.elim
 | .rex,_,_=>⟨.rex,rfl,rfl⟩
 | .tom,_,_=>⟨.tom,rfl,rfl⟩
 | .mo t,o,h=>by
  obtain ⟨p,e,q⟩:=plain_ex t o h
  exact ⟨.mo p,by show (plainT l t).map T.mo=_;rw [e];rfl,congrArg Nat.succ q⟩
 | .fa t,o,h=>by
  obtain ⟨p,e,q⟩:=plain_ex t o h
  exact ⟨.fa p,by show (plainT l t).map T.fa=_;rw [e];rfl,congrArg Nat.succ q⟩
 | .su a b,o,h=>by
  obtain ⟨p,e,q⟩:=plain_ex a o.1 fun x z=>h x fun y=>z (Nat.eq_zero_of_add_eq_zero_right y)
  obtain ⟨p2,e2,q2⟩:=plain_ex b o.2 fun x z=>h x fun y=>z (Nat.eq_zero_of_add_eq_zero_left y)
  exact ⟨.su p p2,by show (plainT l a).bind _=_;rw [e];show (plainT l b).map _=_;rw [e2];rfl,by show max p.ht p2.ht+1=max a.ht b.ht+1;rw [q,q2]⟩
end
section
variable {prog:Program} {w:World}
structure Good (a b m:T) (d bd:List (Str×T)):Prop where
 oa:a.ok
 ob:b.ok
 ha:a.ht≤8
 hb:b.ht≤8
 mgu:mguX (toE a) (toE b)=some (dX d)
 gm:GoodM (toE a) (toE b)
 so:∃ k,SolveR 26 (some bd) k [] [(a,b)]
 eq:lk bd=lk d
 id:Idem d
 vals:∀ p∈d,p.2.ok∧p.2.ht≤8
 keys:∀ p∈d,a.cnt p.1+b.cnt p.1≠0
 ma:a.sub (lk d)=m
 mb:b.sub (lk d)=m
 mh:m.ht≤8
theorem callees {a:T} (oa:a.ok) (ha:a.ht≤8):Con prog w (LIx w.params) 226 (.fn 1066) [] [.tr a] [] (.ok (.ex (toE a))) []:=(expr_con a oa 0).mono (by omega)
theorem tree8 {a:T} (oa:a.ok) (ha:a.ht≤8):Con prog w (LIx w.params) 226 (.fn 1073) [] [.ex (toE a)] [] (.ok (.tr a)) []:=(tree_con a oa 0).mono (by omega)
theorem sz8 {a:T} (ha:a.ht≤8):a.sz≤256:=Nat.le_trans (sz_ht a) (Nat.pow_le_pow_right (by decide) ha)
theorem names8 {a:T} (oa:a.ok) (ha:a.ht≤8):Con prog w (LIx w.params) 226 (.fn 1085) [] [.tr a] [] (.ok (.ls a.names)) []:=(names_con a (ok_nn a oa) (Nat.lt_of_le_of_lt (sz8 ha) (by decide)) 0).mono (by omega)
theorem mgu8 {a b:T} {o:Option (List (Str×X))} (ha:a.ht≤8) (hb:b.ht≤8) (g:GoodM (toE a) (toE b)) (e:mguX (toE a) (toE b)=o):Con prog w (LIx w.params) 226 (.fn 1032) [] [.ex (toE a),.ex (toE b)] [] (resB o) []:=by
 have h1:=htX a
 have h2:=htX b
 have:=mgu2_con (prog:=prog) (w:=w) 0 16 (toE a) (toE b) (by omega) (by omega) (szX8 ha) (szX8 hb) g
 rw [e] at this
 exact this.mono (by omega)
theorem dp8 {a:T} (ha:a.ht≤8):TrOk a:=by show a.dp≤64;rw [dp_ht];omega
theorem subs8 {d:List (Str×T)} {t m:T} (o:t.ok) (h:t.ht≤8) (hm:m.ht≤8) (hi:Idem d) (hv:∀ p∈d,p.2.ok∧p.2.ht≤8) (e:t.sub (lk d)=m):Con prog w (LIx w.params) 226 (.fn ((toE t).mt "substitute_bindings")) [] [.ex (toE t),.bd (dX d)] [] (.ok (.ex (toE m))) []:=by
 subst e
 have:=sub_con (prog:=prog) (w:=w) (dX d) (toE t) 16 (fitX h) (fun v _ e he=>?_) (subs_ht hi (fun p hp=>(hv p hp).1) o hm) 0
 ·rw [subs_all hi (fun p hp=>(hv p hp).1) o] at this
  rw [HN.mt_sub]
  exact this.mono (by omega)
 ·rw [dX_look] at he
  obtain ⟨u,hu,rfl⟩:=Option.map_eq_some_iff.mp he
  have h8:=(hv _ (lookup_mem hu)).2
  have:=htX u
  refine ⟨fitX h8,Nat.le_trans this (Nat.mul_le_mul_left 2 h8),fun x hx=>?_⟩
  rw [dX_look,hi.free hu (vs_mem.mp hx)];rfl
theorem Good.law {l:List Int} {a b m:T} {d bd:List (Str×T)} (g:Good a b m d bd) (hl:l.length<1000) (hp:Con prog w (LIx w.params) 226 (.fn 1059) [] [.lst (((l.drop 1).take 9).map .int),.int (kdOf l)] [] (.ok (.tup [.tr a,.tr b])) []) :
  Con prog w (LIx w.params) 229 (.fn 1106) [] [.lst (l.map .int)] [] (.ok (.bool true)) []:=by
 obtain ⟨oa,ob,ha,hb,mgu,gm,⟨k,so⟩,eq,id,vals,keys,ma,mb,mh⟩:=g
 have om:m.ok:=by rw [←ma];exact fsub_ok (fun s v e=>(vals _ (lookup_mem e)).1) a oa
 have fl:∀ {b2:List (Str×T)} {t:T},lk b2=lk d→t.ok→t.ht≤8→t.sub (lk d)=m→fill b2 26 t=some m:=fun {b2 t} e o h q=>by
  have hv:∀ s v,b2.lookup s=some v→v.ok∧v.ht≤8∧∀ x,v.cnt x≠0→b2.lookup x=none:=fun s v z=>by
   have z:d.lookup s=some v:=(congrFun e s).symm.trans z
   have:=vals _ (lookup_mem z)
   exact ⟨this.1,this.2,fun x c=>(congrFun e x).trans (id.free z c)⟩
  rw [←q,← e]
  exact fill_sub b2 8 hv t 26 o (by omega)
 have lb:=bind_all (d:=d) (a:=a) (b:=b) keys
 have hd:Con prog w (LIx w.params) 226 (.fn 1092) [] [.tr a,.tr b] [] (.ok (.tr m)) []:=solved_some (N:=223) (kf:=26) (by decide) so (fl eq oa ha ma)
 have h1:=callees (prog:=prog) (w:=w) oa ha
 have h2:=callees (prog:=prog) (w:=w) ob hb
 have hm:Con prog w (LIx w.params) 226 (.fn 1032) [] [.ex (toE a),.ex (toE b)] [] (.ok (.bd (dX d))) []:=mgu8 ha hb gm mgu
 have na:=names8 (prog:=prog) (w:=w) oa ha
 have nb:=names8 (prog:=prog) (w:=w) ob hb
 have nm:=names8 (prog:=prog) (w:=w) om mh
 have la:=Nat.le_trans a.names_len (sz8 ha)
 have lb2:=Nat.le_trans b.names_len (sz8 hb)
 have lm:=Nat.le_trans m.names_len (sz8 mh)
 have s8:=la8 (prog:=prog) (w:=w) (LI:=LIx w.params) (N:=226) (by decide) (l:=l) (a:=a) (b:=b) (dv:=.tr m) (d:=d) (fun x t e=>⟨(vals _ (lookup_mem e)).1,Nat.le_trans (vals _ (lookup_mem e)).2 (by decide)⟩) na nb (by omega)
 obtain ⟨p,hpl,hph⟩:=plain_ex (l:=m.names) m om fun x c=>(names_mem m).mpr c
 have pc:Con prog w (LIx w.params) 226 (.fn 1099) [] [.tr m,.ls m.names] [] (.ok (.tr p)) []:=(plain_con m.names (by omega) m p hpl 0).mono (by omega)
 have c1:Fc prog w (LIx w.params) 226 (bindL d (a.names++b.names) []) a m:=(fill_con (prog:=prog) (w:=w) (LI:=LIx w.params) _ 0 26 a m (fl lb oa ha ma)).mono (by decide)
 have c2:Fc prog w (LIx w.params) 226 (bindL d (a.names++b.names) []) b m:=(fill_con (prog:=prog) (w:=w) (LI:=LIx w.params) _ 0 26 b m (fl lb ob hb mb)).mono (by decide)
 have nt:∀ t:T,(!t.eq t)=false:=fun t=>by rw [T.eq_refl];rfl
 exact law_good hl hp hd h1 h2 hm s8 (T.eq_refl b) (la9 c1 c2 (dp8 mh) (dp8 (by omega)) (dp8 ha) (dp8 hb) nm pc nm pc (subs8 oa ha mh id vals ma) (subs8 ob hb mh id vals mb) (tree8 om mh) (tree8 oa ha) (tree8 ob hb) (nt m) (nt p) (T.eq_refl a))
theorem law_cd {l:List Int} {a b:T} (hl:l.length<1000) (oa:a.ok) (ob:b.ok) (ha:a.ht≤8) (hb:b.ht≤8) (h:Cd a b) (hp:Con prog w (LIx w.params) 226 (.fn 1059) [] [.lst (((l.drop 1).take 9).map .int),.int (kdOf l)] [] (.ok (.tup [.tr a,.tr b])) []) :
  Con prog w (LIx w.params) 229 (.fn 1106) [] [.lst (l.map .int)] [] (.ok (.bool true)) []:=by
 have g:=mgu_is a b oa ob h
 obtain ⟨k,so⟩:=solved h oa ob ha hb
 cases q:mg a b with
 | none =>
  have g1:=g.1
  rw [q] at g1
  rw [(mt_mg a b).2 q] at so
  exact law_fail hl hp (solved_none (N:=223) (kf:=26) (by decide) so) (callees oa ha) (callees ob hb) (mgu8 ha hb g.2 g1)
 | some d =>
  obtain ⟨bd,e1,e2⟩:=(mt_mg a b).1 d q
  rw [e1] at so
  have id:=mg_idem h q
  have en:=mg_ent a b d q
  obtain ⟨_,s1,_⟩:=(mg_least a b).1 d q
  have sl:∀ s v,lk d s=some v→v.sub (lk d)=v:=fun s v e=>fsub_id _ v fun x c=>id.free e c
  obtain ⟨m1,m2⟩:=sol_sub sl a b s1
  refine Good.law (m:=a.sub (lk d)) (bd:=bd) ⟨oa,ob,ha,hb,?_,g.2,⟨k,so⟩,e2,id,fun p hp=>⟨ent_ok oa ob (en p hp),?_⟩,fun p hp=>(ent_cnt (en p hp)).1,rfl,m1.symm,by omega⟩ hl hp
  ·rw [g.1,q];rfl
  ·rcases en p hp with w | w
   ·exact Nat.le_trans w.2.ht hb
   ·exact Nat.le_trans w.2.ht ha
theorem law_x {l:List Int} {x:Str} {b:T} (hl:l.length<1000) (hx:x∈nameL) (ob:b.ok) (hb:b.ht≤8) (hp:Con prog w (LIx w.params) 226 (.fn 1059) [] [.lst (((l.drop 1).take 9).map .int),.int (kdOf l)] [] (.ok (.tup [.tr (.n x),.tr b])) []) :
  Con prog w (LIx w.params) 229 (.fn 1106) [] [.lst (l.map .int)] [] (.ok (.bool true)) []:=by
 have ha:(T.n x).ht≤8:=Nat.zero_le _
 have hxo:(T.n x).ok:=hx
 have f1:fill [] 26 (.n x)=some (.n x):=rfl
 have f2:fill [] 26 b=some b:=fill_id [] b 26 ob (by omega) fun _ _=>rfl
 have t1:(T.n x).Fit:=fit_of hx (Nat.zero_le _)
 have t2:=fit_of ob (by omega)
 have gm:GoodM (toE (.n x)) (toE b):=by cases b<;>trivial
 have step:∀ {bd' ps'},sstep [] [] (.n x) b=some (bd',ps')→∀ {out k},SolveR 26 out k bd' ps'→SolveR 26 out (k+1) [] [(.n x,b)]:=fun h=>fun {out k}=>.step (ps:=[]) f1 f2 t1 t2 (by decide) (by decide) h
 by_cases hc:b.cnt x=0
 ·have hn:(T.n x).eq b=false:=T.eq_not fun z=>by rw [←z,cnt_self] at hc;cases hc
  have so:SolveR 26 (some [(x,b)]) 1 [] [(.n x,b)]:=step (bd':=[(x,b)]) (ps':=[]) (by unfold sstep;rw [hn];show (if b.names.any (·==x) then none else some (putK [] x b,[]))=_;rw [names_no hc];rfl) (.done rfl (show 1<1000000 by decide))
  have l1:lk [(x,b)] x=some b:=by show List.lookup x [(x,b)]=_;rw [List.lookup_cons,beq_self_eq_true]
  have sb:b.sub (lk [(x,b)])=b:=fsub_id _ b fun y c=>by
   show List.lookup y [(x,b)]=none
   rw [List.lookup_cons,beq_eq_false_iff_ne.mpr fun z=>c (by rw [z];exact hc)];rfl
  refine Good.law (a:=.n x) (m:=b) (d:=[(x,b)]) (bd:=[(x,b)]) ⟨hxo,ob,ha,hb,mgu_nl hx ob hc,gm,⟨1,so⟩,rfl,fun p hp q hq=>?_,fun p hp=>?_,fun p hp=>?_,by show (lk [(x,b)] x).getD _=_;rw [l1];rfl,sb,hb⟩ hl hp
  ·rw [List.mem_singleton.mp hp,List.mem_singleton.mp hq];exact hc
  ·rw [List.mem_singleton.mp hp];exact ⟨ob,hb⟩
  ·rw [List.mem_singleton.mp hp];show (T.n x).cnt x+_≠0;rw [cnt_self];omega
 ·cases he:(T.n x).eq b with
  | true =>
   have z:=T.eq_is he
   subst z
   have so:SolveR 26 (some []) 1 [] [(.n x,.n x)]:=step (bd':=[]) (ps':=[]) (if_pos he) (.done rfl (by decide))
   exact Good.law (a:=.n x) (m:=.n x) (d:=[]) (bd:=[]) ⟨hxo,ob,ha,hb,mgu_same ((eqb_toE _ _ hxo ob).trans he),gm,⟨1,so⟩,rfl,nofun,nofun,nofun,rfl,rfl,hb⟩ hl hp
  | false =>
   have hm:mguX (toE (.n x)) (toE b)=none:=by
    show (if (X.var x).eqb (toE b) then some [] else bindX x (toE b))=none
    rw [show (X.var x).eqb (toE b)=false from (eqb_toE (.n x) b hx ob).trans he]
    show (if (toE b).occ x then none else some [(x,toE b)])=none
    rw [(occ_is hx).mpr hc];rfl
   have so:SolveR 26 none 0 [] [(.n x,b)]:=.fail (ps:=[]) f1 f2 t1 t2 (by decide) (by decide) (by unfold sstep;rw [he];show (if b.names.any (·==x) then none else some (putK [] x b,[]))=_;rw [any_is.mpr ((names_mem b).mpr hc)];rfl) rfl
   exact law_fail hl hp (solved_none (N:=223) (kf:=26) (by decide) so) (callees (a:=.n x) hx ha) (callees ob hb) (mgu8 ha hb gm hm)
theorem kd_four:∀ l:List Int,kdOf l=0∨kdOf l=1∨kdOf l=2∨kdOf l=3
 | []=>.inl rfl
 | n::_=>by
  show n.fmod 4=0∨n.fmod 4=1∨n.fmod 4=2∨n.fmod 4=3
  rw [Int.fmod_eq_emod_of_nonneg _ (by decide)];omega
end
theorem lawc (prog:Program) (w:World) (l:List Int) (hl:l.length≤63):Con prog w (LIx w.params) 229 (.fn 1106) [] [.lst (l.map .int)] [] (.ok (.bool true)) []:=by
 have hl:l.length<1000:=Nat.lt_of_le_of_lt hl (by decide)
 have hk:=kd_four l
 obtain ⟨c,st,rev,a,b,h1,h2,h3,e⟩:=run_all (kd:=kdOf l) ((l.drop 1).take 9) (by rw [List.length_take];exact Nat.min_le_left ..)
 have hp:=pair_con (prog:=prog) (w:=w) (LI:=LIx w.params) (N:=223) hk h1 h2 h3
 generalize joinR rev (a,b)=p at *
 obtain ⟨p1,p2⟩:=p
 generalize hd:kdOf l=kd at *
 rcases hk with rfl | rfl | rfl | rfl
 ·exact law_cd hl e.o1 e.o2 e.h1 e.h2 (.inl (e.z rfl)) (hd▸hp)
 ·exact law_cd hl e.o1 e.o2 e.h1 e.h2 (.inr (.inr (e.g (.inl rfl)))) (hd▸hp)
 ·exact law_cd hl e.o2 e.o1 e.h2 e.h1 (.inr (.inl (e.g (.inr rfl)))) (hd▸hp)
 ·exact law_x hl (any_is.mp x_name) e.o2 e.h2 (hd▸hp)
theorem holds:rw0.Holds:=joined lawc
end HN
theorem PySem.Challenge.cw_jn0057_01_holds : PySem.Challenge.rw_jn0057_01.Holds :=
  HN.holds
