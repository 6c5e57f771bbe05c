import PyProof.Rows.All
import Wide.All
import OpenK.AllK
import Wide.FinOn
import Lean
import PySem.Challenge.RW_im0053_01
set_option Elab.async false
set_option backward.match.sparseCases false
set_option maxRecDepth 100000
set_option maxHeartbeats 0
set_option linter.all false
set_option genSizeOf false
set_option genInjectivity false
local macro_rules | `(tactic| rfl')=>`(tactic| kernel_rfl)
namespace Hd
open PySem PySem.W PyProof.Rows PySem.Challenge
noncomputable abbrev t (x:String):Str:=Str.ofString x
noncomputable abbrev v (x:String) (n:Nat):Value:=.str (Str.ofString x) n
noncomputable abbrev r (a:Nat):Value:=.ref a
noncomputable abbrev i (k:Int) (n:Nat):Value:=.int k n
noncomputable abbrev b (x:String):Value:=.builtin x
noncomputable abbrev ty (x:String):Value:=.type x
noncomputable abbrev vb (x:Bool):Value:=.bool x
noncomputable abbrev z:Value:=.none
noncomputable abbrev A {α:Type} (l:List α):Array α:=⟨l⟩
noncomputable abbrev s {α:Type} (x:α):Option α:=some x
noncomputable abbrev n {α:Type}:Option α:=none
noncomputable abbrev kh (P:Params) (x:Str):=PyData.keyHash P x
noncomputable abbrev e (P:Params) (x:String) (k:Nat) (y:Value):DictEntry:=⟨PyData.keyHash P (Str.ofString x),.str (Str.ofString x) k,y⟩
noncomputable abbrev cod (x y:String) (k l:Nat) (a c d f:Int) (g:Value) (h:Bool) (j m o p q:Value) (u:Nat):Obj :=
 ⟨.type "code",none,.fields ⟨[.str (Str.ofString x) k,.str (Str.ofString y) (k + 1),.str (Str.ofString "/claim/cut.py") (k + 2),.int l 0,.int a 0,.int c 0,.int d 0,.int f 0,g,.bool h,.int 181 0,j,m,o,p,q,.int u 0,.int l 0,.str (Str.ofString "/claim/cut.py") (u + 1)]⟩,⟨[]⟩⟩
noncomputable abbrev tup (l:List Value):Obj:=⟨.type "tuple",none,.seq ⟨l⟩ 0,⟨[]⟩⟩
noncomputable abbrev fld (l:List Value):Obj:=⟨.none,none,.fields ⟨l⟩,⟨[]⟩⟩
noncomputable abbrev dct (l:List DictEntry) (k:Nat):Obj:=⟨.type "dict",none,.dict ⟨l⟩ k,⟨[]⟩⟩
noncomputable abbrev dcz (l:List DictEntry) (k:Nat):Obj:=⟨.none,none,.dict ⟨l⟩ k,⟨[]⟩⟩
noncomputable abbrev bfo (l:List Value):Obj:=⟨.type "builtin_function_or_method",none,.fields ⟨l⟩,⟨[]⟩⟩
noncomputable abbrev sup (l:List Value):Obj:=⟨.type "super",none,.fields ⟨l⟩,⟨[]⟩⟩
noncomputable abbrev gsd (l:List Value):Obj:=⟨.type "getset_descriptor",none,.fields ⟨l⟩,⟨[]⟩⟩
noncomputable abbrev frm (l:List (Option Value)):Obj:=⟨.type "frame",none,.plain,⟨l⟩⟩
noncomputable abbrev D:=Arguments × List Stmt × Scope
noncomputable def defs1:List Stmt → List D → List D
 | [],k=>k
 | .FunctionDef _ a c _ _ _ sc _ _ _ :: l,k=>(a,c,sc) :: defs1 l k
 | _ :: l,k=>defs1 l k
noncomputable def defs2:List Stmt → List D
 | []=>[]
 | .FunctionDef _ a c _ _ _ sc _ _ _ :: l=>(a,c,sc) :: defs2 l
 | .ClassDef _ _ _ c _ _ _ _ _ _ _ :: l=>defs1 c (defs2 l)
 | _ :: l=>defs2 l
noncomputable def nthD:Nat → List D → D
 | 0,x :: _=>x
 | k + 1,_ :: l=>nthD k l
 | _,[]=>default
noncomputable def prg:Program:=(PySem.W.Fast.tw2368527892694137696 rw_im0053_01).toRowW.1
noncomputable def dfs:List D:=defs2 prg.main.body
noncomputable def fa (k:Nat):Arguments:=(nthD k dfs).1
noncomputable def fb (k:Nat):List Stmt:=(nthD k dfs).2.1
noncomputable def fs (k:Nat):Scope:=(nthD k dfs).2.2
noncomputable abbrev fz (x y:String) (k:Nat):Obj:=⟨.none,none,.func ⟨Str.ofString x,Str.ofString y,fa k,.stmts (fb k),fs k,0,[],.none,.none,.none,.none,none,.none,.none,0⟩,⟨[]⟩⟩
noncomputable abbrev ff (x y:String) (k g:Nat) (d m c:Value):Obj:=⟨.type "function",none,.func ⟨Str.ofString x,Str.ofString y,fa k,.stmts (fb k),fs k,g,[],d,.none,.none,m,none,c,.none,0⟩,⟨[]⟩⟩
noncomputable section
def yE:Value:=v "yaml.emitter" 560
def yV:Value:=v "yaml.events" 216
def yL:Value:=v "law_im0053_01" 1315
def o_43:=tup []
def o_44:=fld []
def o_45:=cod "<module>" "<module>" 182 1 0 0 0 0 (r 11) false (r 12) z z z z 185
def o_49 (P:Params):Obj:=(dcz [(e P "type.__subclasses__.Exception.0" 212 (i 31 0)),(e P "type.__subclasses__.Exception.n" 213 (i 1 0))] 2)
noncomputable def glE (P:Params):List DictEntry:=[(e P "__name__" 165 (v "law_im0053_01" 1315)),(e P "__doc__" 166 z),(e P "__package__" 167 z),(e P "__loader__" 168 (b "__main__.__loader__#opaque")),(e P "__spec__" 169 z),(e P "__annotations__" 170 (r 6)),(e P "__builtins__" 171 (r 4)),(e P "__file__" 173 (v "/claim/cut.py" 172)),(e P "__cached__" 174 z),(e P "_wall" 193 (r 21)),(e P "YAMLError" 215 (r 31)),(e P "Event" 255 (r 59)),(e P "NodeEvent" 284 (r 81)),(e P "CollectionStartEvent" 319 (r 101)),(e P "CollectionEndEvent" 335 (r 113)),(e P "StreamStartEvent" 364 (r 133)),(e P "StreamEndEvent" 380 (r 145)),(e P "DocumentStartEvent" 413 (r 165)),(e P "DocumentEndEvent" 442 (r 185)),(e P "AliasEvent" 458 (r 197)),(e P "ScalarEvent" 495 (r 217)),(e P "SequenceStartEvent" 511 (r 229)),(e P "SequenceEndEvent" 527 (r 241)),(e P "MappingStartEvent" 543 (r 253)),(e P "MappingEndEvent" 559 (r 265)),(e P "EmitterError" 577 (r 277)),(e P "ScalarAnalysis" 620 (r 296)),(e P "Emitter" 1271 (r 736)),(e P "Rows" 1314 (r 771)),(e P "_law_NAMES" 1318 (v "0123456789abcdefghijklmnopqrstuvwxyzABCDEFGHIJKLMNOPQRSTUVWXYZ-_" 1317)),(e P "_law_LET" 1324 (r 782)),(e P "_law_HEX" 1326 (v "0123456789ABCDEF" 1325)),(e P "_law_VERSIONS" 1332 (r 789)),(e P "_law_HANDLES" 1338 (r 796)),(e P "_law_WRONGS" 1344 (r 803)),(e P "_law_PREFIXES" 1350 (r 810)),(e P "_law_HEADS" 1356 (r 817)),(e P "_law_SIGNS" 1380 (r 818)),(e P "_law_ANCHORS" 1386 (r 825)),(e P "_law_PAIRS" 1392 (r 832)),(e P "_law_WORDS" 1398 (r 839)),(e P "_law_next" 1405 (r 846)),(e P "_law_directive" 1414 (r 853)),(e P "_law_drawn_tag" 1420 (r 858)),(e P "_law_octets" 1428 (r 865)),(e P "_law_spelt" 1434 (r 870)),(e P "_law_tag" 1444 (r 877)),(e P "_law_named" 1450 (r 882)),(e P "_law_props" 1461 (r 889)),(e P "_law_reckon" 1493 (r 896)),(e P "law" 1499 (r 901))]
def o_50 (P:Params):Obj:=dct (glE P) 51
noncomputable def flE:List Value:=[(i 1 0),(i 0 0),(r 20),(i 5 0),(i 0 0),(r 27),(i 8 0),(i 0 0),(r 40),(i 16 0),(i 0 0),(r 69),(i 22 0),(i 0 0),(r 89),(i 31 0),(i 0 0),(r 109),(i 33 0),(i 0 0),(r 121),(i 39 0),(i 0 0),(r 141),(i 41 0),(i 0 0),(r 153),(i 49 0),(i 0 0),(r 173),(i 55 0),(i 0 0),(r 193),(i 57 0),(i 0 0),(r 205),(i 67 0),(i 0 0),(r 225),(i 69 0),(i 0 0),(r 237),(i 71 0),(i 0 0),(r 249),(i 73 0),(i 0 0),(r 261),(i 76 0),(i 0 0),(r 273),(i 78 0),(i 0 0),(r 285),(i 89 0),(i 0 0),(r 306),(i 963 0),(i 0 0),(r 746),(i 975 0),(i 0 0),(r 781),(i 978 0),(i 0 0),(r 788),(i 980 0),(i 0 0),(r 795),(i 982 0),(i 0 0),(r 802),(i 984 0),(i 0 0),(r 809),(i 986 0),(i 0 0),(r 816),(i 989 0),(i 0 0),(r 824),(i 991 0),(i 0 0),(r 831),(i 993 0),(i 0 0),(r 838),(i 995 0),(i 0 0),(r 845),(i 997 0),(i 0 0),(r 852),(i 1005 0),(i 0 0),(r 857),(i 1013 0),(i 0 0),(r 864),(i 1022 0),(i 0 0),(r 869),(i 1030 0),(i 0 0),(r 876),(i 1038 0),(i 0 0),(r 881),(i 1040 0),(i 0 0),(r 888),(i 1051 0),(i 0 0),(r 895),(i 1104 0),(i 0 0),(r 900)]
def o_60:=bfo [(b "type.__prepare__"),(ty "type")]
def o_61 (P:Params):Obj:=(dct [(e P "__module__" 203 (v "yaml.error" 194)),(e P "__qualname__" 205 (v "YAMLError" 204)),(e P "__firstlineno__" 207 (i 5 206)),(e P "__static_attributes__" 208 (r 29))] 4)
def o_67 (P:Params):Obj:=(dct [(e P "__module__" 203 (v "yaml.error" 194)),(e P "__firstlineno__" 207 (i 5 206)),(e P "__static_attributes__" 208 (r 29)),(e P "__weakref__" 210 (r 32)),(e P "__doc__" 211 z)] 3)
def o_68:=PySem.Obj.mk (ty "type") n (PySem.Data.cls (PySem.ClassData.mk (t "YAMLError") [(ty "Exception")] [(r 31),(ty "Exception"),(ty "BaseException"),(ty "object")] 30 (t "YAMLError") true [] [(r 277)] false n false)) (A [(s (r 22)),n,(s (v "YAMLError" 196)),(s (v "YAMLError" 204)),(s (b "Exception.__new__")),(s (vb true))])
def o_74 (P:Params):Obj:=(dct [(e P "__module__" 225 yV),(e P "__qualname__" 227 (v "Event" 226)),(e P "__firstlineno__" 229 (i 8 228)),(e P "__init__" 238 (r 49)),(e P "__repr__" 245 (r 56)),(e P "__static_attributes__" 248 (r 57))] 6)
def o_95 (P:Params):Obj:=(dct [(e P "__module__" 225 yV),(e P "__firstlineno__" 229 (i 8 228)),(e P "__init__" 238 (r 49)),(e P "__repr__" 245 (r 56)),(e P "__static_attributes__" 248 (r 57)),(e P "__dict__" 250 (r 60)),(e P "__weakref__" 252 (r 61)),(e P "__doc__" 253 z)] 4)
def o_96:=PySem.Obj.mk (ty "type") n (PySem.Data.cls (PySem.ClassData.mk (t "Event") [(ty "object")] [(r 59),(ty "object")] 58 (t "Event") true [] [(r 81),(r 113),(r 133),(r 145),(r 165),(r 185)] false n false)) (A [(s (r 35)),n,(s (v "Event" 218)),(s (v "Event" 226)),(s (b "object.__new__")),(s (vb true))])
def o_103 (P:Params):Obj:=(dct [(e P "__module__" 263 yV),(e P "__qualname__" 265 (v "NodeEvent" 264)),(e P "__firstlineno__" 267 (i 16 266)),(e P "__init__" 277 (r 78)),(e P "__static_attributes__" 281 (r 79))] 5)
def o_117 (P:Params):Obj:=(dct [(e P "__module__" 263 yV),(e P "__firstlineno__" 267 (i 16 266)),(e P "__init__" 277 (r 78)),(e P "__static_attributes__" 281 (r 79)),(e P "__doc__" 282 z)] 2)
def o_118:=PySem.Obj.mk (ty "type") n (PySem.Data.cls (PySem.ClassData.mk (t "NodeEvent") [(r 59)] [(r 81),(r 59),(ty "object")] 80 (t "NodeEvent") true [] [(r 101),(r 197),(r 217)] false n false)) (A [(s (r 64)),n,(s (v "NodeEvent" 256)),(s (v "NodeEvent" 264)),(s (b "object.__new__")),(s (vb true))])
def o_123 (P:Params):Obj:=(dct [(e P "__module__" 292 yV),(e P "__qualname__" 294 (v "CollectionStartEvent" 293)),(e P "__firstlineno__" 296 (i 22 295)),(e P "__init__" 309 (r 98)),(e P "__static_attributes__" 316 (r 99))] 5)
def o_137 (P:Params):Obj:=(dct [(e P "__module__" 292 yV),(e P "__firstlineno__" 296 (i 22 295)),(e P "__init__" 309 (r 98)),(e P "__static_attributes__" 316 (r 99)),(e P "__doc__" 317 z)] 2)
def o_138:=PySem.Obj.mk (ty "type") n (PySem.Data.cls (PySem.ClassData.mk (t "CollectionStartEvent") [(r 81)] [(r 101),(r 81),(r 59),(ty "object")] 100 (t "CollectionStartEvent") true [] [(r 229),(r 253)] false n false)) (A [(s (r 84)),n,(s (v "CollectionStartEvent" 285)),(s (v "CollectionStartEvent" 293)),(s (b "object.__new__")),(s (vb true))])
def o_143 (P:Params):Obj:=(dct [(e P "__module__" 327 yV),(e P "__qualname__" 329 (v "CollectionEndEvent" 328)),(e P "__firstlineno__" 331 (i 31 330)),(e P "__static_attributes__" 332 (r 111))] 4)
def o_149 (P:Params):Obj:=(dct [(e P "__module__" 327 yV),(e P "__firstlineno__" 331 (i 31 330)),(e P "__static_attributes__" 332 (r 111)),(e P "__doc__" 333 z)] 2)
def o_150:=PySem.Obj.mk (ty "type") n (PySem.Data.cls (PySem.ClassData.mk (t "CollectionEndEvent") [(r 59)] [(r 113),(r 59),(ty "object")] 112 (t "CollectionEndEvent") true [] [(r 241),(r 265)] false n false)) (A [(s (r 104)),n,(s (v "CollectionEndEvent" 320)),(s (v "CollectionEndEvent" 328)),(s (b "object.__new__")),(s (vb true))])
def o_155 (P:Params):Obj:=(dct [(e P "__module__" 343 yV),(e P "__qualname__" 345 (v "StreamStartEvent" 344)),(e P "__firstlineno__" 347 (i 33 346)),(e P "__init__" 357 (r 130)),(e P "__static_attributes__" 361 (r 131))] 5)
def o_169 (P:Params):Obj:=(dct [(e P "__module__" 343 yV),(e P "__firstlineno__" 347 (i 33 346)),(e P "__init__" 357 (r 130)),(e P "__static_attributes__" 361 (r 131)),(e P "__doc__" 362 z)] 2)
def o_170:=PySem.Obj.mk (ty "type") n (PySem.Data.cls (PySem.ClassData.mk (t "StreamStartEvent") [(r 59)] [(r 133),(r 59),(ty "object")] 132 (t "StreamStartEvent") true [] [] false n false)) (A [(s (r 116)),n,(s (v "StreamStartEvent" 336)),(s (v "StreamStartEvent" 344)),(s (b "object.__new__")),(s (vb true))])
def o_175 (P:Params):Obj:=(dct [(e P "__module__" 372 yV),(e P "__qualname__" 374 (v "StreamEndEvent" 373)),(e P "__firstlineno__" 376 (i 39 375)),(e P "__static_attributes__" 377 (r 143))] 4)
def o_181 (P:Params):Obj:=(dct [(e P "__module__" 372 yV),(e P "__firstlineno__" 376 (i 39 375)),(e P "__static_attributes__" 377 (r 143)),(e P "__doc__" 378 z)] 2)
def o_182:=PySem.Obj.mk (ty "type") n (PySem.Data.cls (PySem.ClassData.mk (t "StreamEndEvent") [(r 59)] [(r 145),(r 59),(ty "object")] 144 (t "StreamEndEvent") true [] [] false n false)) (A [(s (r 136)),n,(s (v "StreamEndEvent" 365)),(s (v "StreamEndEvent" 373)),(s (b "object.__new__")),(s (vb true))])
def o_187 (P:Params):Obj:=(dct [(e P "__module__" 388 yV),(e P "__qualname__" 390 (v "DocumentStartEvent" 389)),(e P "__firstlineno__" 392 (i 41 391)),(e P "__init__" 404 (r 162)),(e P "__static_attributes__" 410 (r 163))] 5)
def o_201 (P:Params):Obj:=(dct [(e P "__module__" 388 yV),(e P "__firstlineno__" 392 (i 41 391)),(e P "__init__" 404 (r 162)),(e P "__static_attributes__" 410 (r 163)),(e P "__doc__" 411 z)] 2)
def o_202:=PySem.Obj.mk (ty "type") n (PySem.Data.cls (PySem.ClassData.mk (t "DocumentStartEvent") [(r 59)] [(r 165),(r 59),(ty "object")] 164 (t "DocumentStartEvent") true [] [] false n false)) (A [(s (r 148)),n,(s (v "DocumentStartEvent" 381)),(s (v "DocumentStartEvent" 389)),(s (b "object.__new__")),(s (vb true))])
def o_207 (P:Params):Obj:=(dct [(e P "__module__" 421 yV),(e P "__qualname__" 423 (v "DocumentEndEvent" 422)),(e P "__firstlineno__" 425 (i 49 424)),(e P "__init__" 435 (r 182)),(e P "__static_attributes__" 439 (r 183))] 5)
def o_221 (P:Params):Obj:=(dct [(e P "__module__" 421 yV),(e P "__firstlineno__" 425 (i 49 424)),(e P "__init__" 435 (r 182)),(e P "__static_attributes__" 439 (r 183)),(e P "__doc__" 440 z)] 2)
def o_222:=PySem.Obj.mk (ty "type") n (PySem.Data.cls (PySem.ClassData.mk (t "DocumentEndEvent") [(r 59)] [(r 185),(r 59),(ty "object")] 184 (t "DocumentEndEvent") true [] [] false n false)) (A [(s (r 168)),n,(s (v "DocumentEndEvent" 414)),(s (v "DocumentEndEvent" 422)),(s (b "object.__new__")),(s (vb true))])
def o_227 (P:Params):Obj:=(dct [(e P "__module__" 450 yV),(e P "__qualname__" 452 (v "AliasEvent" 451)),(e P "__firstlineno__" 454 (i 55 453)),(e P "__static_attributes__" 455 (r 195))] 4)
def o_233 (P:Params):Obj:=(dct [(e P "__module__" 450 yV),(e P "__firstlineno__" 454 (i 55 453)),(e P "__static_attributes__" 455 (r 195)),(e P "__doc__" 456 z)] 2)
def o_234:=PySem.Obj.mk (ty "type") n (PySem.Data.cls (PySem.ClassData.mk (t "AliasEvent") [(r 81)] [(r 197),(r 81),(r 59),(ty "object")] 196 (t "AliasEvent") true [] [] false n false)) (A [(s (r 188)),n,(s (v "AliasEvent" 443)),(s (v "AliasEvent" 451)),(s (b "object.__new__")),(s (vb true))])
def o_239 (P:Params):Obj:=(dct [(e P "__module__" 466 yV),(e P "__qualname__" 468 (v "ScalarEvent" 467)),(e P "__firstlineno__" 470 (i 57 469)),(e P "__init__" 484 (r 214)),(e P "__static_attributes__" 492 (r 215))] 5)
def o_253 (P:Params):Obj:=(dct [(e P "__module__" 466 yV),(e P "__firstlineno__" 470 (i 57 469)),(e P "__init__" 484 (r 214)),(e P "__static_attributes__" 492 (r 215)),(e P "__doc__" 493 z)] 2)
def o_254:=PySem.Obj.mk (ty "type") n (PySem.Data.cls (PySem.ClassData.mk (t "ScalarEvent") [(r 81)] [(r 217),(r 81),(r 59),(ty "object")] 216 (t "ScalarEvent") true [] [] false n false)) (A [(s (r 200)),n,(s (v "ScalarEvent" 459)),(s (v "ScalarEvent" 467)),(s (b "object.__new__")),(s (vb true))])
def o_259 (P:Params):Obj:=(dct [(e P "__module__" 503 yV),(e P "__qualname__" 505 (v "SequenceStartEvent" 504)),(e P "__firstlineno__" 507 (i 67 506)),(e P "__static_attributes__" 508 (r 227))] 4)
def o_265 (P:Params):Obj:=(dct [(e P "__module__" 503 yV),(e P "__firstlineno__" 507 (i 67 506)),(e P "__static_attributes__" 508 (r 227)),(e P "__doc__" 509 z)] 2)
def o_266:=PySem.Obj.mk (ty "type") n (PySem.Data.cls (PySem.ClassData.mk (t "SequenceStartEvent") [(r 101)] [(r 229),(r 101),(r 81),(r 59),(ty "object")] 228 (t "SequenceStartEvent") true [] [] false n false)) (A [(s (r 220)),n,(s (v "SequenceStartEvent" 496)),(s (v "SequenceStartEvent" 504)),(s (b "object.__new__")),(s (vb true))])
def o_271 (P:Params):Obj:=(dct [(e P "__module__" 519 yV),(e P "__qualname__" 521 (v "SequenceEndEvent" 520)),(e P "__firstlineno__" 523 (i 69 522)),(e P "__static_attributes__" 524 (r 239))] 4)
def o_277 (P:Params):Obj:=(dct [(e P "__module__" 519 yV),(e P "__firstlineno__" 523 (i 69 522)),(e P "__static_attributes__" 524 (r 239)),(e P "__doc__" 525 z)] 2)
def o_278:=PySem.Obj.mk (ty "type") n (PySem.Data.cls (PySem.ClassData.mk (t "SequenceEndEvent") [(r 113)] [(r 241),(r 113),(r 59),(ty "object")] 240 (t "SequenceEndEvent") true [] [] false n false)) (A [(s (r 232)),n,(s (v "SequenceEndEvent" 512)),(s (v "SequenceEndEvent" 520)),(s (b "object.__new__")),(s (vb true))])
def o_283 (P:Params):Obj:=(dct [(e P "__module__" 535 yV),(e P "__qualname__" 537 (v "MappingStartEvent" 536)),(e P "__firstlineno__" 539 (i 71 538)),(e P "__static_attributes__" 540 (r 251))] 4)
def o_289 (P:Params):Obj:=(dct [(e P "__module__" 535 yV),(e P "__firstlineno__" 539 (i 71 538)),(e P "__static_attributes__" 540 (r 251)),(e P "__doc__" 541 z)] 2)
def o_290:=PySem.Obj.mk (ty "type") n (PySem.Data.cls (PySem.ClassData.mk (t "MappingStartEvent") [(r 101)] [(r 253),(r 101),(r 81),(r 59),(ty "object")] 252 (t "MappingStartEvent") true [] [] false n false)) (A [(s (r 244)),n,(s (v "MappingStartEvent" 528)),(s (v "MappingStartEvent" 536)),(s (b "object.__new__")),(s (vb true))])
def o_295 (P:Params):Obj:=(dct [(e P "__module__" 551 yV),(e P "__qualname__" 553 (v "MappingEndEvent" 552)),(e P "__firstlineno__" 555 (i 73 554)),(e P "__static_attributes__" 556 (r 263))] 4)
def o_301 (P:Params):Obj:=(dct [(e P "__module__" 551 yV),(e P "__firstlineno__" 555 (i 73 554)),(e P "__static_attributes__" 556 (r 263)),(e P "__doc__" 557 z)] 2)
def o_302:=PySem.Obj.mk (ty "type") n (PySem.Data.cls (PySem.ClassData.mk (t "MappingEndEvent") [(r 113)] [(r 265),(r 113),(r 59),(ty "object")] 264 (t "MappingEndEvent") true [] [] false n false)) (A [(s (r 256)),n,(s (v "MappingEndEvent" 544)),(s (v "MappingEndEvent" 552)),(s (b "object.__new__")),(s (vb true))])
def o_307 (P:Params):Obj:=(dct [(e P "__module__" 569 yE),(e P "__qualname__" 571 (v "EmitterError" 570)),(e P "__firstlineno__" 573 (i 76 572)),(e P "__static_attributes__" 574 (r 275))] 4)
def o_313 (P:Params):Obj:=(dct [(e P "__module__" 569 yE),(e P "__firstlineno__" 573 (i 76 572)),(e P "__static_attributes__" 574 (r 275)),(e P "__doc__" 575 z)] 2)
def o_314:=PySem.Obj.mk (ty "type") n (PySem.Data.cls (PySem.ClassData.mk (t "EmitterError") [(r 31)] [(r 277),(r 31),(ty "Exception"),(ty "BaseException"),(ty "object")] 276 (t "EmitterError") true [] [] false n false)) (A [(s (r 268)),n,(s (v "EmitterError" 562)),(s (v "EmitterError" 570)),(s (b "Exception.__new__")),(s (vb true))])
def o_319 (P:Params):Obj:=(dct [(e P "__module__" 585 yE),(e P "__qualname__" 587 (v "ScalarAnalysis" 586)),(e P "__firstlineno__" 589 (i 78 588)),(e P "__init__" 604 (r 293)),(e P "__static_attributes__" 613 (r 294))] 5)
def o_332 (P:Params):Obj:=(dct [(e P "__module__" 585 yE),(e P "__firstlineno__" 589 (i 78 588)),(e P "__init__" 604 (r 293)),(e P "__static_attributes__" 613 (r 294)),(e P "__dict__" 615 (r 297)),(e P "__weakref__" 617 (r 298)),(e P "__doc__" 618 z)] 4)
def o_333:=PySem.Obj.mk (ty "type") n (PySem.Data.cls (PySem.ClassData.mk (t "ScalarAnalysis") [(ty "object")] [(r 296),(ty "object")] 295 (t "ScalarAnalysis") true [] [] false n false)) (A [n,n,(s (v "ScalarAnalysis" 578)),(s (v "ScalarAnalysis" 586)),(s (b "object.__new__")),(s (vb true))])
def o_340 (P:Params):Obj:=(dct [(e P "__module__" 628 yE),(e P "__qualname__" 630 (v "Emitter" 629)),(e P "__firstlineno__" 632 (i 89 631)),(e P "DEFAULT_TAG_PREFIXES" 639 (r 308)),(e P "__init__" 652 (r 316)),(e P "dispose" 659 (r 323)),(e P "emit" 667 (r 330)),(e P "need_more_events" 675 (r 337)),(e P "need_events" 685 (r 344)),(e P "increase_indent" 694 (r 352)),(e P "expect_stream_start" 701 (r 359)),(e P "expect_nothing" 708 (r 366)),(e P "expect_first_document_start" 715 (r 373)),(e P "expect_document_start" 730 (r 381)),(e P "expect_document_end" 737 (r 388)),(e P "expect_document_root" 744 (r 395)),(e P "expect_node" 755 (r 403)),(e P "expect_alias" 762 (r 410)),(e P "expect_scalar" 769 (r 417)),(e P "expect_flow_sequence" 776 (r 424)),(e P "expect_first_flow_sequence_item" 783 (r 431)),(e P "expect_flow_sequence_item" 790 (r 438)),(e P "expect_flow_mapping" 797 (r 445)),(e P "expect_first_flow_mapping_key" 804 (r 452)),(e P "expect_flow_mapping_key" 811 (r 459)),(e P "expect_flow_mapping_simple_value" 818 (r 466)),(e P "expect_flow_mapping_value" 825 (r 473)),(e P "expect_block_sequence" 833 (r 480)),(e P "expect_first_block_sequence_item" 840 (r 487)),(e P "expect_block_sequence_item" 848 (r 495)),(e P "expect_block_mapping" 855 (r 502)),(e P "expect_first_block_mapping_key" 862 (r 509)),(e P "expect_block_mapping_key" 870 (r 517)),(e P "expect_block_mapping_simple_value" 877 (r 524)),(e P "expect_block_mapping_value" 884 (r 531)),(e P "check_empty_sequence" 891 (r 538)),(e P "check_empty_mapping" 898 (r 545)),(e P "check_empty_document" 906 (r 552)),(e P "check_simple_key" 914 (r 559)),(e P "process_anchor" 922 (r 566)),(e P "process_tag" 930 (r 573)),(e P "choose_scalar_style" 937 (r 580)),(e P "process_scalar" 945 (r 587)),(e P "prepare_version" 955 (r 594)),(e P "prepare_tag_handle" 964 (r 601)),(e P "prepare_tag_prefix" 977 (r 608)),(e P "prepare_tag" 995 (r 615)),(e P "prepare_anchor" 1004 (r 622)),(e P "analyze_scalar" 1034 (r 629)),(e P "flush_stream" 1041 (r 636)),(e P "write_stream_start" 1048 (r 643)),(e P "write_stream_end" 1055 (r 650)),(e P "write_indicator" 1067 (r 658)),(e P "write_indent" 1076 (r 665)),(e P "write_line_break" 1084 (r 673)),(e P "write_version_directive" 1093 (r 680)),(e P "write_tag_directive" 1103 (r 687)),(e P "write_single_quoted" 1119 (r 695)),(e P "ESCAPE_REPLACEMENTS" 1165 (r 696)),(e P "write_double_quoted" 1178 (r 704)),(e P "determine_block_hints" 1187 (r 711)),(e P "write_folded" 1204 (r 718)),(e P "write_literal" 1219 (r 725)),(e P "write_plain" 1235 (r 733)),(e P "__static_attributes__" 1264 (r 734))] 65)
def o_345 (P:Params):Obj:=(dct [(e P "!" 633 (v "!" 634)),(e P "tag:yaml.org,2002:" 635 (v "!!" 636))] 2)
def o_395:=cod "expect_stream_start" "Emitter.expect_stream_start" 695 174 1 0 0 3 (r 353) true (r 354) z (r 355) (r 356) (r 357) 699
def o_409:=cod "expect_first_document_start" "Emitter.expect_first_document_start" 709 184 1 0 0 3 (r 367) true (r 368) z (r 369) (r 370) (r 371) 713
def o_417:=cod "expect_document_start" "Emitter.expect_document_start" 716 187 2 0 0 3 (r 375) true (r 376) z (r 377) (r 378) (r 379) 728
def o_424:=cod "expect_document_end" "Emitter.expect_document_end" 731 220 1 0 0 3 (r 382) true (r 383) z (r 384) (r 385) (r 386) 735
def o_431:=cod "expect_document_root" "Emitter.expect_document_root" 738 231 1 0 0 3 (r 389) true (r 390) z (r 391) (r 392) (r 393) 742
def o_460:=cod "expect_flow_sequence" "Emitter.expect_flow_sequence" 770 272 1 0 0 3 (r 418) true (r 419) z (r 420) (r 421) (r 422) 774
def o_467:=cod "expect_first_flow_sequence_item" "Emitter.expect_first_flow_sequence_item" 777 278 1 0 0 3 (r 425) true (r 426) z (r 427) (r 428) (r 429) 781
def o_474:=cod "expect_flow_sequence_item" "Emitter.expect_flow_sequence_item" 784 290 1 0 0 3 (r 432) true (r 433) z (r 434) (r 435) (r 436) 788
def o_481:=cod "expect_flow_mapping" "Emitter.expect_flow_mapping" 791 306 1 0 0 3 (r 439) true (r 440) z (r 441) (r 442) (r 443) 795
def o_488:=cod "expect_first_flow_mapping_key" "Emitter.expect_first_flow_mapping_key" 798 312 1 0 0 3 (r 446) true (r 447) z (r 448) (r 449) (r 450) 802
def o_495:=cod "expect_flow_mapping_key" "Emitter.expect_flow_mapping_key" 805 329 1 0 0 3 (r 453) true (r 454) z (r 455) (r 456) (r 457) 809
def o_502:=cod "expect_flow_mapping_simple_value" "Emitter.expect_flow_mapping_simple_value" 812 350 1 0 0 3 (r 460) true (r 461) z (r 462) (r 463) (r 464) 816
def o_509:=cod "expect_flow_mapping_value" "Emitter.expect_flow_mapping_value" 819 355 1 0 0 3 (r 467) true (r 468) z (r 469) (r 470) (r 471) 823
def o_516:=cod "expect_block_sequence" "Emitter.expect_block_sequence" 826 362 1 0 0 3 (r 474) true (r 475) z (r 476) (r 477) (r 478) 831
def o_523:=cod "expect_first_block_sequence_item" "Emitter.expect_first_block_sequence_item" 834 367 1 0 0 3 (r 481) true (r 482) z (r 483) (r 484) (r 485) 838
def o_531:=cod "expect_block_sequence_item" "Emitter.expect_block_sequence_item" 841 370 2 0 0 3 (r 489) true (r 490) z (r 491) (r 492) (r 493) 846
def o_538:=cod "expect_block_mapping" "Emitter.expect_block_mapping" 849 380 1 0 0 3 (r 496) true (r 497) z (r 498) (r 499) (r 500) 853
def o_545:=cod "expect_first_block_mapping_key" "Emitter.expect_first_block_mapping_key" 856 384 1 0 0 3 (r 503) true (r 504) z (r 505) (r 506) (r 507) 860
def o_553:=cod "expect_block_mapping_key" "Emitter.expect_block_mapping_key" 863 387 2 0 0 3 (r 511) true (r 512) z (r 513) (r 514) (r 515) 868
def o_560:=cod "expect_block_mapping_simple_value" "Emitter.expect_block_mapping_simple_value" 871 401 1 0 0 3 (r 518) true (r 519) z (r 520) (r 521) (r 522) 875
def o_567:=cod "expect_block_mapping_value" "Emitter.expect_block_mapping_value" 878 406 1 0 0 3 (r 525) true (r 526) z (r 527) (r 528) (r 529) 882
def o_574:=cod "check_empty_sequence" "Emitter.check_empty_sequence" 885 412 1 0 0 3 (r 532) true (r 533) z (r 534) (r 535) (r 536) 889
def o_581:=cod "check_empty_mapping" "Emitter.check_empty_mapping" 892 415 1 0 0 3 (r 539) true (r 540) z (r 541) (r 542) (r 543) 896
def o_588:=cod "check_empty_document" "Emitter.check_empty_document" 899 418 1 0 0 3 (r 546) true (r 547) z (r 548) (r 549) (r 550) 904
def o_616:=cod "choose_scalar_style" "Emitter.choose_scalar_style" 931 472 1 0 0 3 (r 574) true (r 575) z (r 576) (r 577) (r 578) 935
def o_637:=cod "prepare_tag_handle" "Emitter.prepare_tag_handle" 956 513 2 0 0 3 (r 595) true (r 596) z (r 597) (r 598) (r 599) 962
def o_644:=cod "prepare_tag_prefix" "Emitter.prepare_tag_prefix" 965 523 2 0 0 3 (r 602) true (r 603) z (r 604) (r 605) (r 606) 975
def o_679:=cod "write_stream_start" "Emitter.write_stream_start" 1042 687 1 0 0 3 (r 637) true (r 638) z (r 639) (r 640) (r 641) 1046
def o_686:=cod "write_stream_end" "Emitter.write_stream_end" 1049 690 1 0 0 3 (r 644) true (r 645) z (r 646) (r 647) (r 648) 1053
def o_709:=cod "write_line_break" "Emitter.write_line_break" 1077 714 2 0 0 3 (r 667) true (r 668) z (r 669) (r 670) (r 671) 1082
def o_716:=cod "write_version_directive" "Emitter.write_version_directive" 1085 723 2 0 0 3 (r 674) true (r 675) z (r 676) (r 677) (r 678) 1091
def o_723:=cod "write_tag_directive" "Emitter.write_tag_directive" 1094 728 3 0 0 3 (r 681) true (r 682) z (r 683) (r 684) (r 685) 1101
def o_731:=cod "write_single_quoted" "Emitter.write_single_quoted" 1104 733 3 0 0 3 (r 689) true (r 690) z (r 691) (r 692) (r 693) 1117
def o_733 (P:Params):Obj:=(dct [(e P "\x00" 1120 (v "0" 1121)),(e P "\x07" 1122 (v "a" 1123)),(e P "\x08" 1124 (v "b" 1125)),(e P "\t" 1126 (v "t" 1127)),(e P "\n" 1128 (v "n" 1129)),(e P "\x0b" 1130 (v "v" 1131)),(e P "\x0c" 1132 (v "f" 1133)),(e P "\x0d" 1134 (v "r" 1135)),(e P "\x1b" 1136 (v "e" 1137)),(e P "\"" 1138 (v "\"" 1139)),(e P "\\" 1140 (v "\\" 1141)),(e P "" 1142 (v "N" 1143)),(e P " " 1144 (v "_" 1145)),(e P " " 1146 (v "L" 1147)),(e P " " 1148 (v "P" 1149))] 15)
def o_740:=cod "write_double_quoted" "Emitter.write_double_quoted" 1166 780 3 0 0 3 (r 698) true (r 699) z (r 700) (r 701) (r 702) 1176
def o_747:=cod "determine_block_hints" "Emitter.determine_block_hints" 1179 821 2 0 0 3 (r 705) true (r 706) z (r 707) (r 708) (r 709) 1185
def o_772 (P:Params):Obj:=(dct [(e P "__module__" 628 yE),(e P "__firstlineno__" 632 (i 89 631)),(e P "DEFAULT_TAG_PREFIXES" 639 (r 308)),(e P "__init__" 652 (r 316)),(e P "dispose" 659 (r 323)),(e P "emit" 667 (r 330)),(e P "need_more_events" 675 (r 337)),(e P "need_events" 685 (r 344)),(e P "increase_indent" 694 (r 352)),(e P "expect_stream_start" 701 (r 359)),(e P "expect_nothing" 708 (r 366)),(e P "expect_first_document_start" 715 (r 373)),(e P "expect_document_start" 730 (r 381)),(e P "expect_document_end" 737 (r 388)),(e P "expect_document_root" 744 (r 395)),(e P "expect_node" 755 (r 403)),(e P "expect_alias" 762 (r 410)),(e P "expect_scalar" 769 (r 417)),(e P "expect_flow_sequence" 776 (r 424)),(e P "expect_first_flow_sequence_item" 783 (r 431)),(e P "expect_flow_sequence_item" 790 (r 438)),(e P "expect_flow_mapping" 797 (r 445)),(e P "expect_first_flow_mapping_key" 804 (r 452)),(e P "expect_flow_mapping_key" 811 (r 459)),(e P "expect_flow_mapping_simple_value" 818 (r 466)),(e P "expect_flow_mapping_value" 825 (r 473)),(e P "expect_block_sequence" 833 (r 480)),(e P "expect_first_block_sequence_item" 840 (r 487)),(e P "expect_block_sequence_item" 848 (r 495)),(e P "expect_block_mapping" 855 (r 502)),(e P "expect_first_block_mapping_key" 862 (r 509)),(e P "expect_block_mapping_key" 870 (r 517)),(e P "expect_block_mapping_simple_value" 877 (r 524)),(e P "expect_block_mapping_value" 884 (r 531)),(e P "check_empty_sequence" 891 (r 538)),(e P "check_empty_mapping" 898 (r 545)),(e P "check_empty_document" 906 (r 552)),(e P "check_simple_key" 914 (r 559)),(e P "process_anchor" 922 (r 566)),(e P "process_tag" 930 (r 573)),(e P "choose_scalar_style" 937 (r 580)),(e P "process_scalar" 945 (r 587)),(e P "prepare_version" 955 (r 594)),(e P "prepare_tag_handle" 964 (r 601)),(e P "prepare_tag_prefix" 977 (r 608)),(e P "prepare_tag" 995 (r 615)),(e P "prepare_anchor" 1004 (r 622)),(e P "analyze_scalar" 1034 (r 629)),(e P "flush_stream" 1041 (r 636)),(e P "write_stream_start" 1048 (r 643)),(e P "write_stream_end" 1055 (r 650)),(e P "write_indicator" 1067 (r 658)),(e P "write_indent" 1076 (r 665)),(e P "write_line_break" 1084 (r 673)),(e P "write_version_directive" 1093 (r 680)),(e P "write_tag_directive" 1103 (r 687)),(e P "write_single_quoted" 1119 (r 695)),(e P "ESCAPE_REPLACEMENTS" 1165 (r 696)),(e P "write_double_quoted" 1178 (r 704)),(e P "determine_block_hints" 1187 (r 711)),(e P "write_folded" 1204 (r 718)),(e P "write_literal" 1219 (r 725)),(e P "write_plain" 1235 (r 733)),(e P "__static_attributes__" 1264 (r 734)),(e P "__dict__" 1266 (r 737)),(e P "__weakref__" 1268 (r 738)),(e P "__doc__" 1269 z)] 4)
def o_773:=PySem.Obj.mk (ty "type") n (PySem.Data.cls (PySem.ClassData.mk (t "Emitter") [(ty "object")] [(r 736),(ty "object")] 735 (t "Emitter") true [] [] false n false)) (A [n,n,(s (v "Emitter" 621)),(s (v "Emitter" 629)),(s (b "object.__new__")),(s (vb true))])
def o_780 (P:Params):Obj:=(dct [(e P "__module__" 1279 yE),(e P "__qualname__" 1281 (v "Rows" 1280)),(e P "__firstlineno__" 1283 (i 963 1282)),(e P "__init__" 1290 (r 754)),(e P "write" 1298 (r 761)),(e P "text" 1305 (r 768)),(e P "__static_attributes__" 1307 (r 769))] 7)
def o_807 (P:Params):Obj:=(dct [(e P "__module__" 1279 yE),(e P "__firstlineno__" 1283 (i 963 1282)),(e P "__init__" 1290 (r 754)),(e P "write" 1298 (r 761)),(e P "text" 1305 (r 768)),(e P "__static_attributes__" 1307 (r 769)),(e P "__dict__" 1309 (r 772)),(e P "__weakref__" 1311 (r 773)),(e P "__doc__" 1312 z)] 4)
def o_808:=PySem.Obj.mk (ty "type") n (PySem.Data.cls (PySem.ClassData.mk (t "Rows") [(ty "object")] [(r 771),(ty "object")] 770 (t "Rows") true [] [] false n false)) (A [n,n,(s (v "Rows" 1272)),(s (v "Rows" 1280)),(s (b "object.__new__")),(s (vb true))])
def o_855:=PySem.Obj.mk (ty "list") n (PySem.Data.seq (A [(v "a" 1357),(v "!" 1358),(v " " 1359),(v "é" 1360),(v "Z" 1361),(v "%" 1362),(v "€" 1363),(v "/" 1364),(v "[" 1365),(v "{" 1366),(v "😀" 1367),(v "'" 1368),(v "," 1369),(v "<" 1370),(v "0" 1371),(v "#" 1372),(v "~" 1373),(v "\\" 1374),(v "\n" 1375),(v "" 1376),(v "^" 1377),(v "*" 1378),(v "\"" 1379)]) 0) (A [])
end
noncomputable def preL (P:Params):List Obj:=[boot_o_0 P,boot_o_1 P,boot_o_2 P,boot_o_3 P,boot_o_4 P,boot_o_5 P,boot_o_6 P,boot_o_7 P,boot_o_8 P,boot_o_9 P,boot_o_10 P,o_43,o_44,o_45,(frm [(s (r 13)),(s (r 3)),(s (r 3)),n,(s (v "__main__" 164)),n,(s (r 0))])]
noncomputable def finL (P:Params):List Obj:=[boot_o_0 P,boot_o_1 P,o_49 P,o_50 P,boot_o_4 P,boot_o_5 P,boot_o_6 P,boot_o_7 P,boot_o_8 P,boot_o_9 P,boot_o_10 P,o_43,(fld flE),o_45,(frm [(s (r 13)),(s (r 3)),(s (r 3)),n,(s (v "__main__" 164)),n,(s (r 0))]),o_43,o_44,(tup [(v "k" 190)]),o_43,(fz "_wall" "_wall" 0),(cod "_wall" "_wall" 187 1 1 0 0 3 (r 15) true (r 16) z (r 17) (r 18) (r 19) 191),(ff "_wall" "_wall" 0 3 z (v "__main__" 164) (r 20)),(tup [(ty "Exception")]),o_60,o_61 P,o_43,o_44,(cod "YAMLError" "YAMLError" 198 5 0 0 0 0 (r 25) false (r 26) z z z z 201),(frm [(s (r 27)),(s (r 3)),(s (r 24)),n,(s (v "yaml.error" 194)),n,(s (r 0))]),o_43,o_67 P,o_68,(gsd [(v "__weakref__" 209),(r 31),(b "ExceptionGroup.__weakref__"),z]),(sup [(r 31),(r 31),(r 31)]),(bfo [(b "object.__init_subclass__"),(r 31)]),(tup [(ty "object")]),o_60,o_74 P,o_43,(fld [(i 10 0),(i 4 0),(r 48),(i 14 0),(i 4 0),(r 55)]),(cod "Event" "Event" 220 8 0 0 0 0 (r 38) false (r 39) z z z z 223),(frm [(s (r 40)),(s (r 3)),(s (r 37)),n,(s yV),n,(s (r 0))]),(tup [z,z]),o_43,o_44,(tup [(v "self" 233),(v "start_mark" 234),(v "end_mark" 235)]),o_43,(fz "__init__" "Event.__init__" 1),(cod "__init__" "Event.__init__" 230 10 3 0 0 3 (r 43) true (r 44) z (r 45) (r 46) (r 47) 236),(ff "__init__" "Event.__init__" 1 3 (r 42) yV (r 48)),o_43,o_44,(tup [(v "self" 242)]),o_43,(fz "__repr__" "Event.__repr__" 2),(cod "__repr__" "Event.__repr__" 239 14 1 0 0 3 (r 50) true (r 51) z (r 52) (r 53) (r 54) 243),(ff "__repr__" "Event.__repr__" 2 3 z yV (r 55)),(tup [(v "end_mark" 246),(v "start_mark" 247)]),o_95 P,o_96,(gsd [(v "__dict__" 249),(r 59),(b "function.__dict__"),(b "function.__dict__#set")]),(gsd [(v "__weakref__" 251),(r 59),(b "ExceptionGroup.__weakref__"),z]),(sup [(r 59),(r 59),(r 59)]),(bfo [(b "object.__init_subclass__"),(r 59)]),(tup [(r 59)]),o_60,o_103 P,o_43,(fld [(i 18 0),(i 4 0),(r 77)]),(cod "NodeEvent" "NodeEvent" 258 16 0 0 0 0 (r 67) false (r 68) z z z z 261),(frm [(s (r 69)),(s (r 3)),(s (r 66)),n,(s yV),n,(s (r 0))]),(tup [z,z]),o_43,o_44,(tup [(v "self" 271),(v "anchor" 272),(v "start_mark" 273),(v "end_mark" 274)]),o_43,(fz "__init__" "NodeEvent.__init__" 3),(cod "__init__" "NodeEvent.__init__" 268 18 4 0 0 3 (r 72) true (r 73) z (r 74) (r 75) (r 76) 275),(ff "__init__" "NodeEvent.__init__" 3 3 (r 71) yV (r 77)),(tup [(v "anchor" 278),(v "end_mark" 279),(v "start_mark" 280)]),o_117 P,o_118,(sup [(r 81),(r 81),(r 81)]),(bfo [(b "object.__init_subclass__"),(r 81)]),(tup [(r 81)]),o_60,o_123 P,o_43,(fld [(i 24 0),(i 4 0),(r 97)]),(cod "CollectionStartEvent" "CollectionStartEvent" 287 22 0 0 0 0 (r 87) false (r 88) z z z z 290),(frm [(s (r 89)),(s (r 3)),(s (r 86)),n,(s yV),n,(s (r 0))]),(tup [z,z,z]),o_43,o_44,(tup [(v "self" 300),(v "anchor" 301),(v "tag" 302),(v "implicit" 303),(v "start_mark" 304),(v "end_mark" 305),(v "flow_style" 306)]),o_43,(fz "__init__" "CollectionStartEvent.__init__" 4),(cod "__init__" "CollectionStartEvent.__init__" 297 24 7 0 0 3 (r 92) true (r 93) z (r 94) (r 95) (r 96) 307),(ff "__init__" "CollectionStartEvent.__init__" 4 3 (r 91) yV (r 97)),(tup [(v "anchor" 310),(v "end_mark" 311),(v "flow_style" 312),(v "implicit" 313),(v "start_mark" 314),(v "tag" 315)]),o_137 P,o_138,(sup [(r 101),(r 101),(r 101)]),(bfo [(b "object.__init_subclass__"),(r 101)]),(tup [(r 59)]),o_60,o_143 P,o_43,o_44,(cod "CollectionEndEvent" "CollectionEndEvent" 322 31 0 0 0 0 (r 107) false (r 108) z z z z 325),(frm [(s (r 109)),(s (r 3)),(s (r 106)),n,(s yV),n,(s (r 0))]),o_43,o_149 P,o_150,(sup [(r 113),(r 113),(r 113)]),(bfo [(b "object.__init_subclass__"),(r 113)]),(tup [(r 59)]),o_60,o_155 P,o_43,(fld [(i 35 0),(i 4 0),(r 129)]),(cod "StreamStartEvent" "StreamStartEvent" 338 33 0 0 0 0 (r 119) false (r 120) z z z z 341),(frm [(s (r 121)),(s (r 3)),(s (r 118)),n,(s yV),n,(s (r 0))]),(tup [z,z,z]),o_43,o_44,(tup [(v "self" 351),(v "start_mark" 352),(v "end_mark" 353),(v "encoding" 354)]),o_43,(fz "__init__" "StreamStartEvent.__init__" 5),(cod "__init__" "StreamStartEvent.__init__" 348 35 4 0 0 3 (r 124) true (r 125) z (r 126) (r 127) (r 128) 355),(ff "__init__" "StreamStartEvent.__init__" 5 3 (r 123) yV (r 129)),(tup [(v "encoding" 358),(v "end_mark" 359),(v "start_mark" 360)]),o_169 P,o_170,(sup [(r 133),(r 133),(r 133)]),(bfo [(b "object.__init_subclass__"),(r 133)]),(tup [(r 59)]),o_60,o_175 P,o_43,o_44,(cod "StreamEndEvent" "StreamEndEvent" 367 39 0 0 0 0 (r 139) false (r 140) z z z z 370),(frm [(s (r 141)),(s (r 3)),(s (r 138)),n,(s yV),n,(s (r 0))]),o_43,o_181 P,o_182,(sup [(r 145),(r 145),(r 145)]),(bfo [(b "object.__init_subclass__"),(r 145)]),(tup [(r 59)]),o_60,o_187 P,o_43,(fld [(i 43 0),(i 4 0),(r 161)]),(cod "DocumentStartEvent" "DocumentStartEvent" 383 41 0 0 0 0 (r 151) false (r 152) z z z z 386),(frm [(s (r 153)),(s (r 3)),(s (r 150)),n,(s yV),n,(s (r 0))]),(tup [z,z,z,z,z]),o_43,o_44,(tup [(v "self" 396),(v "start_mark" 397),(v "end_mark" 398),(v "explicit" 399),(v "version" 400),(v "tags" 401)]),o_43,(fz "__init__" "DocumentStartEvent.__init__" 6),(cod "__init__" "DocumentStartEvent.__init__" 393 43 6 0 0 3 (r 156) true (r 157) z (r 158) (r 159) (r 160) 402),(ff "__init__" "DocumentStartEvent.__init__" 6 3 (r 155) yV (r 161)),(tup [(v "end_mark" 405),(v "explicit" 406),(v "start_mark" 407),(v "tags" 408),(v "version" 409)]),o_201 P,o_202,(sup [(r 165),(r 165),(r 165)]),(bfo [(b "object.__init_subclass__"),(r 165)]),(tup [(r 59)]),o_60,o_207 P,o_43,(fld [(i 51 0),(i 4 0),(r 181)]),(cod "DocumentEndEvent" "DocumentEndEvent" 416 49 0 0 0 0 (r 171) false (r 172) z z z z 419),(frm [(s (r 173)),(s (r 3)),(s (r 170)),n,(s yV),n,(s (r 0))]),(tup [z,z,z]),o_43,o_44,(tup [(v "self" 429),(v "start_mark" 430),(v "end_mark" 431),(v "explicit" 432)]),o_43,(fz "__init__" "DocumentEndEvent.__init__" 7),(cod "__init__" "DocumentEndEvent.__init__" 426 51 4 0 0 3 (r 176) true (r 177) z (r 178) (r 179) (r 180) 433),(ff "__init__" "DocumentEndEvent.__init__" 7 3 (r 175) yV (r 181)),(tup [(v "end_mark" 436),(v "explicit" 437),(v "start_mark" 438)]),o_221 P,o_222,(sup [(r 185),(r 185),(r 185)]),(bfo [(b "object.__init_subclass__"),(r 185)]),(tup [(r 81)]),o_60,o_227 P,o_43,o_44,(cod "AliasEvent" "AliasEvent" 445 55 0 0 0 0 (r 191) false (r 192) z z z z 448),(frm [(s (r 193)),(s (r 3)),(s (r 190)),n,(s yV),n,(s (r 0))]),o_43,o_233 P,o_234,(sup [(r 197),(r 197),(r 197)]),(bfo [(b "object.__init_subclass__"),(r 197)]),(tup [(r 81)]),o_60,o_239 P,o_43,(fld [(i 59 0),(i 4 0),(r 213)]),(cod "ScalarEvent" "ScalarEvent" 461 57 0 0 0 0 (r 203) false (r 204) z z z z 464),(frm [(s (r 205)),(s (r 3)),(s (r 202)),n,(s yV),n,(s (r 0))]),(tup [z,z,z]),o_43,o_44,(tup [(v "self" 474),(v "anchor" 475),(v "tag" 476),(v "implicit" 477),(v "value" 478),(v "start_mark" 479),(v "end_mark" 480),(v "style" 481)]),o_43,(fz "__init__" "ScalarEvent.__init__" 8),(cod "__init__" "ScalarEvent.__init__" 471 59 8 0 0 3 (r 208) true (r 209) z (r 210) (r 211) (r 212) 482),(ff "__init__" "ScalarEvent.__init__" 8 3 (r 207) yV (r 213)),(tup [(v "anchor" 485),(v "end_mark" 486),(v "implicit" 487),(v "start_mark" 488),(v "style" 489),(v "tag" 490),(v "value" 491)]),o_253 P,o_254,(sup [(r 217),(r 217),(r 217)]),(bfo [(b "object.__init_subclass__"),(r 217)]),(tup [(r 101)]),o_60,o_259 P,o_43,o_44,(cod "SequenceStartEvent" "SequenceStartEvent" 498 67 0 0 0 0 (r 223) false (r 224) z z z z 501),(frm [(s (r 225)),(s (r 3)),(s (r 222)),n,(s yV),n,(s (r 0))]),o_43,o_265 P,o_266,(sup [(r 229),(r 229),(r 229)]),(bfo [(b "object.__init_subclass__"),(r 229)]),(tup [(r 113)]),o_60,o_271 P,o_43,o_44,(cod "SequenceEndEvent" "SequenceEndEvent" 514 69 0 0 0 0 (r 235) false (r 236) z z z z 517),(frm [(s (r 237)),(s (r 3)),(s (r 234)),n,(s yV),n,(s (r 0))]),o_43,o_277 P,o_278,(sup [(r 241),(r 241),(r 241)]),(bfo [(b "object.__init_subclass__"),(r 241)]),(tup [(r 101)]),o_60,o_283 P,o_43,o_44,(cod "MappingStartEvent" "MappingStartEvent" 530 71 0 0 0 0 (r 247) false (r 248) z z z z 533),(frm [(s (r 249)),(s (r 3)),(s (r 246)),n,(s yV),n,(s (r 0))]),o_43,o_289 P,o_290,(sup [(r 253),(r 253),(r 253)]),(bfo [(b "object.__init_subclass__"),(r 253)]),(tup [(r 113)]),o_60,o_295 P,o_43,o_44,(cod "MappingEndEvent" "MappingEndEvent" 546 73 0 0 0 0 (r 259) false (r 260) z z z z 549),(frm [(s (r 261)),(s (r 3)),(s (r 258)),n,(s yV),n,(s (r 0))]),o_43,o_301 P,o_302,(sup [(r 265),(r 265),(r 265)]),(bfo [(b "object.__init_subclass__"),(r 265)]),(tup [(r 31)]),o_60,o_307 P,o_43,o_44,(cod "EmitterError" "EmitterError" 564 76 0 0 0 0 (r 271) false (r 272) z z z z 567),(frm [(s (r 273)),(s (r 3)),(s (r 270)),n,(s yE),n,(s (r 0))]),o_43,o_313 P,o_314,(sup [(r 277),(r 277),(r 277)]),(bfo [(b "object.__init_subclass__"),(r 277)]),o_43,o_60,o_319 P,o_43,(fld [(i 80 0),(i 4 0),(r 292)]),(cod "ScalarAnalysis" "ScalarAnalysis" 580 78 0 0 0 0 (r 283) false (r 284) z z z z 583),(frm [(s (r 285)),(s (r 3)),(s (r 282)),n,(s yE),n,(s (r 0))]),o_43,o_44,(tup [(v "self" 593),(v "scalar" 594),(v "empty" 595),(v "multiline" 596),(v "allow_flow_plain" 597),(v "allow_block_plain" 598),(v "allow_single_quoted" 599),(v "allow_double_quoted" 600),(v "allow_block" 601)]),o_43,(fz "__init__" "ScalarAnalysis.__init__" 9),(cod "__init__" "ScalarAnalysis.__init__" 590 80 9 0 0 3 (r 287) true (r 288) z (r 289) (r 290) (r 291) 602),(ff "__init__" "ScalarAnalysis.__init__" 9 3 z yE (r 292)),(tup [(v "allow_block" 605),(v "allow_block_plain" 606),(v "allow_double_quoted" 607),(v "allow_flow_plain" 608),(v "allow_single_quoted" 609),(v "empty" 610),(v "multiline" 611),(v "scalar" 612)]),o_332 P,o_333,(gsd [(v "__dict__" 614),(r 296),(b "function.__dict__"),(b "function.__dict__#set")]),(gsd [(v "__weakref__" 616),(r 296),(b "ExceptionGroup.__weakref__"),z]),(sup [(r 296),(r 296),(r 296)]),(bfo [(b "object.__init_subclass__"),(r 296)]),o_43,o_60,o_340 P,o_43,(fld [(i 92 0),(i 4 0),(r 315),(i 128 0),(i 4 0),(r 322),(i 131 0),(i 4 0),(r 329),(i 138 0),(i 4 0),(r 336),(i 151 0),(i 4 0),(r 343),(i 164 0),(i 4 0),(r 351),(i 174 0),(i 4 0),(r 358),(i 181 0),(i 4 0),(r 365),(i 184 0),(i 4 0),(r 372),(i 187 0),(i 4 0),(r 380),(i 220 0),(i 4 0),(r 387),(i 231 0),(i 4 0),(r 394),(i 235 0),(i 4 0),(r 402),(i 260 0),(i 4 0),(r 409),(i 266 0),(i 4 0),(r 416),(i 272 0),(i 4 0),(r 423),(i 278 0),(i 4 0),(r 430),(i 290 0),(i 4 0),(r 437),(i 306 0),(i 4 0),(r 444),(i 312 0),(i 4 0),(r 451),(i 329 0),(i 4 0),(r 458),(i 350 0),(i 4 0),(r 465),(i 355 0),(i 4 0),(r 472),(i 362 0),(i 4 0),(r 479),(i 367 0),(i 4 0),(r 486),(i 370 0),(i 4 0),(r 494),(i 380 0),(i 4 0),(r 501),(i 384 0),(i 4 0),(r 508),(i 387 0),(i 4 0),(r 516),(i 401 0),(i 4 0),(r 523),(i 406 0),(i 4 0),(r 530),(i 412 0),(i 4 0),(r 537),(i 415 0),(i 4 0),(r 544),(i 418 0),(i 4 0),(r 551),(i 424 0),(i 4 0),(r 558),(i 440 0),(i 4 0),(r 565),(i 450 0),(i 4 0),(r 572),(i 472 0),(i 4 0),(r 579),(i 488 0),(i 4 0),(r 586),(i 507 0),(i 4 0),(r 593),(i 513 0),(i 4 0),(r 600),(i 523 0),(i 4 0),(r 607),(i 545 0),(i 4 0),(r 614),(i 578 0),(i 4 0),(r 621),(i 586 0),(i 4 0),(r 628),(i 684 0),(i 4 0),(r 635),(i 687 0),(i 4 0),(r 642),(i 690 0),(i 4 0),(r 649),(i 693 0),(i 4 0),(r 657),(i 704 0),(i 4 0),(r 664),(i 714 0),(i 4 0),(r 672),(i 723 0),(i 4 0),(r 679),(i 728 0),(i 4 0),(r 686),(i 733 0),(i 4 0),(r 694),(i 780 0),(i 4 0),(r 703),(i 821 0),(i 4 0),(r 710),(i 832 0),(i 4 0),(r 717),(i 880 0),(i 4 0),(r 724),(i 912 0),(i 4 0),(r 732)]),(cod "Emitter" "Emitter" 623 89 0 0 0 0 (r 304) false (r 305) z z z z 626),(frm [(s (r 306)),(s (r 3)),(s (r 303)),n,(s yE),n,(s (r 0))]),o_345 P,(tup [z,z,z,z,z]),o_43,o_44,(tup [(v "self" 643),(v "stream" 644),(v "canonical" 645),(v "indent" 646),(v "width" 647),(v "allow_unicode" 648),(v "line_break" 649)]),o_43,(fz "__init__" "Emitter.__init__" 10),(cod "__init__" "Emitter.__init__" 640 92 7 0 0 3 (r 310) true (r 311) z (r 312) (r 313) (r 314) 650),(ff "__init__" "Emitter.__init__" 10 3 (r 309) yE (r 315)),o_43,o_44,(tup [(v "self" 656)]),o_43,(fz "dispose" "Emitter.dispose" 11),(cod "dispose" "Emitter.dispose" 653 128 1 0 0 3 (r 317) true (r 318) z (r 319) (r 320) (r 321) 657),(ff "dispose" "Emitter.dispose" 11 3 z yE (r 322)),o_43,o_44,(tup [(v "self" 663),(v "event" 664)]),o_43,(fz "emit" "Emitter.emit" 12),(cod "emit" "Emitter.emit" 660 131 2 0 0 3 (r 324) true (r 325) z (r 326) (r 327) (r 328) 665),(ff "emit" "Emitter.emit" 12 3 z yE (r 329)),o_43,o_44,(tup [(v "self" 671),(v "event" 672)]),o_43,(fz "need_more_events" "Emitter.need_more_events" 13),(cod "need_more_events" "Emitter.need_more_events" 668 138 1 0 0 3 (r 331) true (r 332) z (r 333) (r 334) (r 335) 673),(ff "need_more_events" "Emitter.need_more_events" 13 3 z yE (r 336)),o_43,o_44,(tup [(v "self" 679),(v "count" 680),(v "level" 681),(v "event" 682)]),o_43,(fz "need_events" "Emitter.need_events" 14),(cod "need_events" "Emitter.need_events" 676 151 2 0 0 3 (r 338) true (r 339) z (r 340) (r 341) (r 342) 683),(ff "need_events" "Emitter.need_events" 14 3 z yE (r 343)),(tup [(vb false),(vb false)]),o_43,o_44,(tup [(v "self" 689),(v "flow" 690),(v "indentless" 691)]),o_43,(fz "increase_indent" "Emitter.increase_indent" 15),(cod "increase_indent" "Emitter.increase_indent" 686 164 3 0 0 3 (r 346) true (r 347) z (r 348) (r 349) (r 350) 692),(ff "increase_indent" "Emitter.increase_indent" 15 3 (r 345) yE (r 351)),o_43,o_44,(tup [(v "self" 698)]),o_43,(fz "expect_stream_start" "Emitter.expect_stream_start" 16),o_395,(ff "expect_stream_start" "Emitter.expect_stream_start" 16 3 z yE (r 358)),o_43,o_44,(tup [(v "self" 705)]),o_43,(fz "expect_nothing" "Emitter.expect_nothing" 17),(cod "expect_nothing" "Emitter.expect_nothing" 702 181 1 0 0 3 (r 360) true (r 361) z (r 362) (r 363) (r 364) 706),(ff "expect_nothing" "Emitter.expect_nothing" 17 3 z yE (r 365)),o_43,o_44,(tup [(v "self" 712)]),o_43,(fz "expect_first_document_start" "Emitter.expect_first_document_start" 18),o_409,(ff "expect_first_document_start" "Emitter.expect_first_document_start" 18 3 z yE (r 372)),(tup [(vb false)]),o_43,o_44,(tup [(v "self" 719),(v "first" 720),(v "version_text" 721),(v "handles" 722),(v "handle" 723),(v "prefix" 724),(v "handle_text" 725),(v "prefix_text" 726),(v "implicit" 727)]),o_43,(fz "expect_document_start" "Emitter.expect_document_start" 19),o_417,(ff "expect_document_start" "Emitter.expect_document_start" 19 3 (r 374) yE (r 380)),o_43,o_44,(tup [(v "self" 734)]),o_43,(fz "expect_document_end" "Emitter.expect_document_end" 20),o_424,(ff "expect_document_end" "Emitter.expect_document_end" 20 3 z yE (r 387)),o_43,o_44,(tup [(v "self" 741)]),o_43,(fz "expect_document_root" "Emitter.expect_document_root" 21),o_431,(ff "expect_document_root" "Emitter.expect_document_root" 21 3 z yE (r 394)),(tup [(vb false),(vb false),(vb false),(vb false)]),o_43,o_44,(tup [(v "self" 748),(v "root" 749),(v "sequence" 750),(v "mapping" 751),(v "simple_key" 752)]),o_43,(fz "expect_node" "Emitter.expect_node" 22),(cod "expect_node" "Emitter.expect_node" 745 235 5 0 0 3 (r 397) true (r 398) z (r 399) (r 400) (r 401) 753),(ff "expect_node" "Emitter.expect_node" 22 3 (r 396) yE (r 402)),o_43,o_44,(tup [(v "self" 759)]),o_43,(fz "expect_alias" "Emitter.expect_alias" 23),(cod "expect_alias" "Emitter.expect_alias" 756 260 1 0 0 3 (r 404) true (r 405) z (r 406) (r 407) (r 408) 760),(ff "expect_alias" "Emitter.expect_alias" 23 3 z yE (r 409)),o_43,o_44,(tup [(v "self" 766)]),o_43,(fz "expect_scalar" "Emitter.expect_scalar" 24),(cod "expect_scalar" "Emitter.expect_scalar" 763 266 1 0 0 3 (r 411) true (r 412) z (r 413) (r 414) (r 415) 767),(ff "expect_scalar" "Emitter.expect_scalar" 24 3 z yE (r 416)),o_43,o_44,(tup [(v "self" 773)]),o_43,(fz "expect_flow_sequence" "Emitter.expect_flow_sequence" 25),o_460,(ff "expect_flow_sequence" "Emitter.expect_flow_sequence" 25 3 z yE (r 423)),o_43,o_44,(tup [(v "self" 780)]),o_43,(fz "expect_first_flow_sequence_item" "Emitter.expect_first_flow_sequence_item" 26),o_467,(ff "expect_first_flow_sequence_item" "Emitter.expect_first_flow_sequence_item" 26 3 z yE (r 430)),o_43,o_44,(tup [(v "self" 787)]),o_43,(fz "expect_flow_sequence_item" "Emitter.expect_flow_sequence_item" 27),o_474,(ff "expect_flow_sequence_item" "Emitter.expect_flow_sequence_item" 27 3 z yE (r 437)),o_43,o_44,(tup [(v "self" 794)]),o_43,(fz "expect_flow_mapping" "Emitter.expect_flow_mapping" 28),o_481,(ff "expect_flow_mapping" "Emitter.expect_flow_mapping" 28 3 z yE (r 444)),o_43,o_44,(tup [(v "self" 801)]),o_43,(fz "expect_first_flow_mapping_key" "Emitter.expect_first_flow_mapping_key" 29),o_488,(ff "expect_first_flow_mapping_key" "Emitter.expect_first_flow_mapping_key" 29 3 z yE (r 451)),o_43,o_44,(tup [(v "self" 808)]),o_43,(fz "expect_flow_mapping_key" "Emitter.expect_flow_mapping_key" 30),o_495,(ff "expect_flow_mapping_key" "Emitter.expect_flow_mapping_key" 30 3 z yE (r 458)),o_43,o_44,(tup [(v "self" 815)]),o_43,(fz "expect_flow_mapping_simple_value" "Emitter.expect_flow_mapping_simple_value" 31),o_502,(ff "expect_flow_mapping_simple_value" "Emitter.expect_flow_mapping_simple_value" 31 3 z yE (r 465)),o_43,o_44,(tup [(v "self" 822)]),o_43,(fz "expect_flow_mapping_value" "Emitter.expect_flow_mapping_value" 32),o_509,(ff "expect_flow_mapping_value" "Emitter.expect_flow_mapping_value" 32 3 z yE (r 472)),o_43,o_44,(tup [(v "self" 829),(v "indentless" 830)]),o_43,(fz "expect_block_sequence" "Emitter.expect_block_sequence" 33),o_516,(ff "expect_block_sequence" "Emitter.expect_block_sequence" 33 3 z yE (r 479)),o_43,o_44,(tup [(v "self" 837)]),o_43,(fz "expect_first_block_sequence_item" "Emitter.expect_first_block_sequence_item" 34),o_523,(ff "expect_first_block_sequence_item" "Emitter.expect_first_block_sequence_item" 34 3 z yE (r 486)),(tup [(vb false)]),o_43,o_44,(tup [(v "self" 844),(v "first" 845)]),o_43,(fz "expect_block_sequence_item" "Emitter.expect_block_sequence_item" 35),o_531,(ff "expect_block_sequence_item" "Emitter.expect_block_sequence_item" 35 3 (r 488) yE (r 494)),o_43,o_44,(tup [(v "self" 852)]),o_43,(fz "expect_block_mapping" "Emitter.expect_block_mapping" 36),o_538,(ff "expect_block_mapping" "Emitter.expect_block_mapping" 36 3 z yE (r 501)),o_43,o_44,(tup [(v "self" 859)]),o_43,(fz "expect_first_block_mapping_key" "Emitter.expect_first_block_mapping_key" 37),o_545,(ff "expect_first_block_mapping_key" "Emitter.expect_first_block_mapping_key" 37 3 z yE (r 508)),(tup [(vb false)]),o_43,o_44,(tup [(v "self" 866),(v "first" 867)]),o_43,(fz "expect_block_mapping_key" "Emitter.expect_block_mapping_key" 38),o_553,(ff "expect_block_mapping_key" "Emitter.expect_block_mapping_key" 38 3 (r 510) yE (r 516)),o_43,o_44,(tup [(v "self" 874)]),o_43,(fz "expect_block_mapping_simple_value" "Emitter.expect_block_mapping_simple_value" 39),o_560,(ff "expect_block_mapping_simple_value" "Emitter.expect_block_mapping_simple_value" 39 3 z yE (r 523)),o_43,o_44,(tup [(v "self" 881)]),o_43,(fz "expect_block_mapping_value" "Emitter.expect_block_mapping_value" 40),o_567,(ff "expect_block_mapping_value" "Emitter.expect_block_mapping_value" 40 3 z yE (r 530)),o_43,o_44,(tup [(v "self" 888)]),o_43,(fz "check_empty_sequence" "Emitter.check_empty_sequence" 41),o_574,(ff "check_empty_sequence" "Emitter.check_empty_sequence" 41 3 z yE (r 537)),o_43,o_44,(tup [(v "self" 895)]),o_43,(fz "check_empty_mapping" "Emitter.check_empty_mapping" 42),o_581,(ff "check_empty_mapping" "Emitter.check_empty_mapping" 42 3 z yE (r 544)),o_43,o_44,(tup [(v "self" 902),(v "event" 903)]),o_43,(fz "check_empty_document" "Emitter.check_empty_document" 43),o_588,(ff "check_empty_document" "Emitter.check_empty_document" 43 3 z yE (r 551)),o_43,o_44,(tup [(v "self" 910),(v "length" 911)]),o_43,(fz "check_simple_key" "Emitter.check_simple_key" 44),(cod "check_simple_key" "Emitter.check_simple_key" 907 424 1 0 0 3 (r 553) true (r 554) z (r 555) (r 556) (r 557) 912),(ff "check_simple_key" "Emitter.check_simple_key" 44 3 z yE (r 558)),o_43,o_44,(tup [(v "self" 918),(v "indicator" 919)]),o_43,(fz "process_anchor" "Emitter.process_anchor" 45),(cod "process_anchor" "Emitter.process_anchor" 915 440 2 0 0 3 (r 560) true (r 561) z (r 562) (r 563) (r 564) 920),(ff "process_anchor" "Emitter.process_anchor" 45 3 z yE (r 565)),o_43,o_44,(tup [(v "self" 926),(v "tag" 927)]),o_43,(fz "process_tag" "Emitter.process_tag" 46),(cod "process_tag" "Emitter.process_tag" 923 450 1 0 0 3 (r 567) true (r 568) z (r 569) (r 570) (r 571) 928),(ff "process_tag" "Emitter.process_tag" 46 3 z yE (r 572)),o_43,o_44,(tup [(v "self" 934)]),o_43,(fz "choose_scalar_style" "Emitter.choose_scalar_style" 47),o_616,(ff "choose_scalar_style" "Emitter.choose_scalar_style" 47 3 z yE (r 579)),o_43,o_44,(tup [(v "self" 941),(v "split" 942)]),o_43,(fz "process_scalar" "Emitter.process_scalar" 48),(cod "process_scalar" "Emitter.process_scalar" 938 488 1 0 0 3 (r 581) true (r 582) z (r 583) (r 584) (r 585) 943),(ff "process_scalar" "Emitter.process_scalar" 48 3 z yE (r 586)),o_43,o_44,(tup [(v "self" 949),(v "version" 950),(v "major" 951),(v "minor" 952)]),o_43,(fz "prepare_version" "Emitter.prepare_version" 49),(cod "prepare_version" "Emitter.prepare_version" 946 507 2 0 0 3 (r 588) true (r 589) z (r 590) (r 591) (r 592) 953),(ff "prepare_version" "Emitter.prepare_version" 49 3 z yE (r 593)),o_43,o_44,(tup [(v "self" 959),(v "handle" 960),(v "ch" 961)]),o_43,(fz "prepare_tag_handle" "Emitter.prepare_tag_handle" 50),o_637,(ff "prepare_tag_handle" "Emitter.prepare_tag_handle" 50 3 z yE (r 600)),o_43,o_44,(tup [(v "self" 968),(v "prefix" 969),(v "chunks" 970),(v "start" 971),(v "end" 972),(v "ch" 973),(v "data" 974)]),o_43,(fz "prepare_tag_prefix" "Emitter.prepare_tag_prefix" 51),o_644,(ff "prepare_tag_prefix" "Emitter.prepare_tag_prefix" 51 3 z yE (r 607)),o_43,o_44,(tup [(v "self" 981),(v "tag" 982),(v "handle" 983),(v "suffix" 984),(v "prefixes" 985),(v "prefix" 986),(v "chunks" 987),(v "start" 988),(v "end" 989),(v "ch" 990),(v "data" 991),(v "suffix_text" 992)]),o_43,(fz "prepare_tag" "Emitter.prepare_tag" 52),(cod "prepare_tag" "Emitter.prepare_tag" 978 545 2 0 0 3 (r 609) true (r 610) z (r 611) (r 612) (r 613) 993),(ff "prepare_tag" "Emitter.prepare_tag" 52 3 z yE (r 614)),o_43,o_44,(tup [(v "self" 999),(v "anchor" 1000),(v "ch" 1001)]),o_43,(fz "prepare_anchor" "Emitter.prepare_anchor" 53),(cod "prepare_anchor" "Emitter.prepare_anchor" 996 578 2 0 0 3 (r 616) true (r 617) z (r 618) (r 619) (r 620) 1002),(ff "prepare_anchor" "Emitter.prepare_anchor" 53 3 z yE (r 621)),o_43,o_44,(tup [(v "self" 1008),(v "scalar" 1009),(v "block_indicators" 1010),(v "flow_indicators" 1011),(v "line_breaks" 1012),(v "special_characters" 1013),(v "leading_space" 1014),(v "leading_break" 1015),(v "trailing_space" 1016),(v "trailing_break" 1017),(v "break_space" 1018),(v "space_break" 1019),(v "preceded_by_whitespace" 1020),(v "followed_by_whitespace" 1021),(v "previous_space" 1022),(v "previous_break" 1023),(v "index" 1024),(v "ch" 1025),(v "unicode_characters" 1026),(v "allow_flow_plain" 1027),(v "allow_block_plain" 1028),(v "allow_single_quoted" 1029),(v "allow_double_quoted" 1030),(v "allow_block" 1031)]),o_43,(fz "analyze_scalar" "Emitter.analyze_scalar" 54),(cod "analyze_scalar" "Emitter.analyze_scalar" 1005 586 2 0 0 3 (r 623) true (r 624) z (r 625) (r 626) (r 627) 1032),(ff "analyze_scalar" "Emitter.analyze_scalar" 54 3 z yE (r 628)),o_43,o_44,(tup [(v "self" 1038)]),o_43,(fz "flush_stream" "Emitter.flush_stream" 55),(cod "flush_stream" "Emitter.flush_stream" 1035 684 1 0 0 3 (r 630) true (r 631) z (r 632) (r 633) (r 634) 1039),(ff "flush_stream" "Emitter.flush_stream" 55 3 z yE (r 635)),o_43,o_44,(tup [(v "self" 1045)]),o_43,(fz "write_stream_start" "Emitter.write_stream_start" 56),o_679,(ff "write_stream_start" "Emitter.write_stream_start" 56 3 z yE (r 642)),o_43,o_44,(tup [(v "self" 1052)]),o_43,(fz "write_stream_end" "Emitter.write_stream_end" 57),o_686,(ff "write_stream_end" "Emitter.write_stream_end" 57 3 z yE (r 649)),(tup [(vb false),(vb false)]),o_43,o_44,(tup [(v "self" 1059),(v "indicator" 1060),(v "need_whitespace" 1061),(v "whitespace" 1062),(v "indention" 1063),(v "data" 1064)]),o_43,(fz "write_indicator" "Emitter.write_indicator" 58),(cod "write_indicator" "Emitter.write_indicator" 1056 693 5 0 0 3 (r 652) true (r 653) z (r 654) (r 655) (r 656) 1065),(ff "write_indicator" "Emitter.write_indicator" 58 3 (r 651) yE (r 657)),o_43,o_44,(tup [(v "self" 1071),(v "indent" 1072),(v "data" 1073)]),o_43,(fz "write_indent" "Emitter.write_indent" 59),(cod "write_indent" "Emitter.write_indent" 1068 704 1 0 0 3 (r 659) true (r 660) z (r 661) (r 662) (r 663) 1074),(ff "write_indent" "Emitter.write_indent" 59 3 z yE (r 664)),(tup [z]),o_43,o_44,(tup [(v "self" 1080),(v "data" 1081)]),o_43,(fz "write_line_break" "Emitter.write_line_break" 60),o_709,(ff "write_line_break" "Emitter.write_line_break" 60 3 (r 666) yE (r 672)),o_43,o_44,(tup [(v "self" 1088),(v "version_text" 1089),(v "data" 1090)]),o_43,(fz "write_version_directive" "Emitter.write_version_directive" 61),o_716,(ff "write_version_directive" "Emitter.write_version_directive" 61 3 z yE (r 679)),o_43,o_44,(tup [(v "self" 1097),(v "handle_text" 1098),(v "prefix_text" 1099),(v "data" 1100)]),o_43,(fz "write_tag_directive" "Emitter.write_tag_directive" 62),o_723,(ff "write_tag_directive" "Emitter.write_tag_directive" 62 3 z yE (r 686)),(tup [(vb true)]),o_43,o_44,(tup [(v "self" 1107),(v "text" 1108),(v "split" 1109),(v "spaces" 1110),(v "breaks" 1111),(v "start" 1112),(v "end" 1113),(v "ch" 1114),(v "data" 1115),(v "br" 1116)]),o_43,(fz "write_single_quoted" "Emitter.write_single_quoted" 63),o_731,(ff "write_single_quoted" "Emitter.write_single_quoted" 63 3 (r 688) yE (r 694)),o_733 P,(tup [(vb true)]),o_43,o_44,(tup [(v "self" 1169),(v "text" 1170),(v "split" 1171),(v "start" 1172),(v "end" 1173),(v "ch" 1174),(v "data" 1175)]),o_43,(fz "write_double_quoted" "Emitter.write_double_quoted" 64),o_740,(ff "write_double_quoted" "Emitter.write_double_quoted" 64 3 (r 697) yE (r 703)),o_43,o_44,(tup [(v "self" 1182),(v "text" 1183),(v "hints" 1184)]),o_43,(fz "determine_block_hints" "Emitter.determine_block_hints" 65),o_747,(ff "determine_block_hints" "Emitter.determine_block_hints" 65 3 z yE (r 710)),o_43,o_44,(tup [(v "self" 1191),(v "text" 1192),(v "hints" 1193),(v "leading_space" 1194),(v "spaces" 1195),(v "breaks" 1196),(v "start" 1197),(v "end" 1198),(v "ch" 1199),(v "br" 1200),(v "data" 1201)]),o_43,(fz "write_folded" "Emitter.write_folded" 66),(cod "write_folded" "Emitter.write_folded" 1188 832 2 0 0 3 (r 712) true (r 713) z (r 714) (r 715) (r 716) 1202),(ff "write_folded" "Emitter.write_folded" 66 3 z yE (r 717)),o_43,o_44,(tup [(v "self" 1208),(v "text" 1209),(v "hints" 1210),(v "breaks" 1211),(v "start" 1212),(v "end" 1213),(v "ch" 1214),(v "br" 1215),(v "data" 1216)]),o_43,(fz "write_literal" "Emitter.write_literal" 67),(cod "write_literal" "Emitter.write_literal" 1205 880 2 0 0 3 (r 719) true (r 720) z (r 721) (r 722) (r 723) 1217),(ff "write_literal" "Emitter.write_literal" 67 3 z yE (r 724)),(tup [(vb true)]),o_43,o_44,(tup [(v "self" 1223),(v "text" 1224),(v "split" 1225),(v "data" 1226),(v "spaces" 1227),(v "breaks" 1228),(v "start" 1229),(v "end" 1230),(v "ch" 1231),(v "br" 1232)]),o_43,(fz "write_plain" "Emitter.write_plain" 68),(cod "write_plain" "Emitter.write_plain" 1220 912 3 0 0 3 (r 727) true (r 728) z (r 729) (r 730) (r 731) 1233),(ff "write_plain" "Emitter.write_plain" 68 3 (r 726) yE (r 732)),(tup [(v "allow_unicode" 1236),(v "analysis" 1237),(v "best_indent" 1238),(v "best_line_break" 1239),(v "best_width" 1240),(v "canonical" 1241),(v "column" 1242),(v "encoding" 1243),(v "event" 1244),(v "events" 1245),(v "flow_level" 1246),(v "indent" 1247),(v "indention" 1248),(v "indents" 1249),(v "line" 1250),(v "mapping_context" 1251),(v "open_ended" 1252),(v "prepared_anchor" 1253),(v "prepared_tag" 1254),(v "root_context" 1255),(v "sequence_context" 1256),(v "simple_key_context" 1257),(v "state" 1258),(v "states" 1259),(v "stream" 1260),(v "style" 1261),(v "tag_prefixes" 1262),(v "whitespace" 1263)]),o_772 P,o_773,(gsd [(v "__dict__" 1265),(r 736),(b "function.__dict__"),(b "function.__dict__#set")]),(gsd [(v "__weakref__" 1267),(r 736),(b "ExceptionGroup.__weakref__"),z]),(sup [(r 736),(r 736),(r 736)]),(bfo [(b "object.__init_subclass__"),(r 736)]),o_43,o_60,o_780 P,o_43,(fld [(i 965 0),(i 4 0),(r 753),(i 968 0),(i 4 0),(r 760),(i 971 0),(i 4 0),(r 767)]),(cod "Rows" "Rows" 1274 963 0 0 0 0 (r 744) false (r 745) z z z z 1277),(frm [(s (r 746)),(s (r 3)),(s (r 743)),n,(s yE),n,(s (r 0))]),o_43,o_44,(tup [(v "self" 1287)]),o_43,(fz "__init__" "Rows.__init__" 69),(cod "__init__" "Rows.__init__" 1284 965 1 0 0 3 (r 748) true (r 749) z (r 750) (r 751) (r 752) 1288),(ff "__init__" "Rows.__init__" 69 3 z yE (r 753)),o_43,o_44,(tup [(v "self" 1294),(v "data" 1295)]),o_43,(fz "write" "Rows.write" 70),(cod "write" "Rows.write" 1291 968 2 0 0 3 (r 755) true (r 756) z (r 757) (r 758) (r 759) 1296),(ff "write" "Rows.write" 70 3 z yE (r 760)),o_43,o_44,(tup [(v "self" 1302)]),o_43,(fz "text" "Rows.text" 71),(cod "text" "Rows.text" 1299 971 1 0 0 3 (r 762) true (r 763) z (r 764) (r 765) (r 766) 1303),(ff "text" "Rows.text" 71 3 z yE (r 767)),(tup [(v "rows" 1306)]),o_807 P,o_808,(gsd [(v "__dict__" 1308),(r 771),(b "function.__dict__"),(b "function.__dict__#set")]),(gsd [(v "__weakref__" 1310),(r 771),(b "ExceptionGroup.__weakref__"),z]),(sup [(r 771),(r 771),(r 771)]),(bfo [(b "object.__init_subclass__"),(r 771)]),o_43,o_44,o_43,o_43,(fz "_law_LET" "_law_LET" 72),(cod "_law_LET" "_law_LET" 1319 975 0 0 0 3 (r 776) true (r 777) z (r 778) (r 779) (r 780) 1322),(ff "_law_LET" "_law_LET" 72 3 z yL (r 781)),o_43,o_44,o_43,o_43,(fz "_law_VERSIONS" "_law_VERSIONS" 73),(cod "_law_VERSIONS" "_law_VERSIONS" 1327 978 0 0 0 3 (r 783) true (r 784) z (r 785) (r 786) (r 787) 1330),(ff "_law_VERSIONS" "_law_VERSIONS" 73 3 z yL (r 788)),o_43,o_44,o_43,o_43,(fz "_law_HANDLES" "_law_HANDLES" 74),(cod "_law_HANDLES" "_law_HANDLES" 1333 980 0 0 0 3 (r 790) true (r 791) z (r 792) (r 793) (r 794) 1336),(ff "_law_HANDLES" "_law_HANDLES" 74 3 z yL (r 795)),o_43,o_44,o_43,o_43,(fz "_law_WRONGS" "_law_WRONGS" 75),(cod "_law_WRONGS" "_law_WRONGS" 1339 982 0 0 0 3 (r 797) true (r 798) z (r 799) (r 800) (r 801) 1342),(ff "_law_WRONGS" "_law_WRONGS" 75 3 z yL (r 802)),o_43,o_44,o_43,o_43,(fz "_law_PREFIXES" "_law_PREFIXES" 76),(cod "_law_PREFIXES" "_law_PREFIXES" 1345 984 0 0 0 3 (r 804) true (r 805) z (r 806) (r 807) (r 808) 1348),(ff "_law_PREFIXES" "_law_PREFIXES" 76 3 z yL (r 809)),o_43,o_44,o_43,o_43,(fz "_law_HEADS" "_law_HEADS" 77),(cod "_law_HEADS" "_law_HEADS" 1351 986 0 0 0 3 (r 811) true (r 812) z (r 813) (r 814) (r 815) 1354),(ff "_law_HEADS" "_law_HEADS" 77 3 z yL (r 816)),o_855,o_43,o_44,o_43,o_43,(fz "_law_ANCHORS" "_law_ANCHORS" 78),(cod "_law_ANCHORS" "_law_ANCHORS" 1381 989 0 0 0 3 (r 819) true (r 820) z (r 821) (r 822) (r 823) 1384),(ff "_law_ANCHORS" "_law_ANCHORS" 78 3 z yL (r 824)),o_43,o_44,o_43,o_43,(fz "_law_PAIRS" "_law_PAIRS" 79),(cod "_law_PAIRS" "_law_PAIRS" 1387 991 0 0 0 3 (r 826) true (r 827) z (r 828) (r 829) (r 830) 1390),(ff "_law_PAIRS" "_law_PAIRS" 79 3 z yL (r 831)),o_43,o_44,o_43,o_43,(fz "_law_WORDS" "_law_WORDS" 80),(cod "_law_WORDS" "_law_WORDS" 1393 993 0 0 0 3 (r 833) true (r 834) z (r 835) (r 836) (r 837) 1396),(ff "_law_WORDS" "_law_WORDS" 80 3 z yL (r 838)),o_43,o_44,(tup [(v "tape" 1402)]),o_43,(fz "_law_next" "_law_next" 81),(cod "_law_next" "_law_next" 1399 995 1 0 0 3 (r 840) true (r 841) z (r 842) (r 843) (r 844) 1403),(ff "_law_next" "_law_next" 81 3 z yL (r 845)),o_43,o_44,(tup [(v "n" 1409),(v "handle" 1410),(v "prefix" 1411)]),o_43,(fz "_law_directive" "_law_directive" 82),(cod "_law_directive" "_law_directive" 1406 997 1 0 0 3 (r 847) true (r 848) z (r 849) (r 850) (r 851) 1412),(ff "_law_directive" "_law_directive" 82 3 z yL (r 852)),o_43,o_44,(fz "_law_drawn_tag" "_law_drawn_tag" 83),(cod "_law_drawn_tag" "_law_drawn_tag" 1415 1005 1 0 0 3 (r 854) true (r 855) z z z (r 856) 1418),(ff "_law_drawn_tag" "_law_drawn_tag" 83 3 z yL (r 857)),o_43,o_44,(tup [(v "sign" 1424),(v "n" 1425)]),o_43,(fz "_law_octets" "_law_octets" 84),(cod "_law_octets" "_law_octets" 1421 1013 1 0 0 3 (r 859) true (r 860) z (r 861) (r 862) (r 863) 1426),(ff "_law_octets" "_law_octets" 84 3 z yL (r 864)),o_43,o_44,(fz "_law_spelt" "_law_spelt" 85),(cod "_law_spelt" "_law_spelt" 1429 1022 2 0 0 3 (r 866) true (r 867) z z z (r 868) 1432),(ff "_law_spelt" "_law_spelt" 85 3 z yL (r 869)),o_43,o_44,(tup [(v "tag" 1438),(v "table" 1439),(v "cut" 1440),(v "handle" 1441)]),o_43,(fz "_law_tag" "_law_tag" 86),(cod "_law_tag" "_law_tag" 1435 1030 2 0 0 3 (r 871) true (r 872) z (r 873) (r 874) (r 875) 1442),(ff "_law_tag" "_law_tag" 86 3 z yL (r 876)),o_43,o_44,(fz "_law_named" "_law_named" 87),(cod "_law_named" "_law_named" 1445 1038 1 0 0 3 (r 878) true (r 879) z z z (r 880) 1448),(ff "_law_named" "_law_named" 87 3 z yL (r 881)),o_43,o_44,(tup [(v "anchor" 1454),(v "tag" 1455),(v "shown" 1456),(v "table" 1457),(v "words" 1458)]),o_43,(fz "_law_props" "_law_props" 88),(cod "_law_props" "_law_props" 1451 1040 4 0 0 3 (r 883) true (r 884) z (r 885) (r 886) (r 887) 1459),(ff "_law_props" "_law_props" 88 3 z yL (r 888)),o_43,o_44,(tup [(v "docs" 1465),(v "canonical" 1466),(v "step" 1467),(v "text" 1468),(v "d" 1469),(v "explicit" 1470),(v "version" 1471),(v "tags" 1472),(v "anchor" 1473),(v "tag" 1474),(v "implicit" 1475),(v "items" 1476),(v "table" 1477),(v "handle" 1478),(v "prefix" 1479),(v "marked" 1480),(v "blank" 1481),(v "words" 1482),(v "fine" 1483),(v "i" 1484),(v "alias" 1485),(v "pair" 1486),(v "style" 1487),(v "word" 1488),(v "quote" 1489),(v "shown" 1490)]),o_43,(fz "_law_reckon" "_law_reckon" 89),(cod "_law_reckon" "_law_reckon" 1462 1051 3 0 0 3 (r 890) true (r 891) z (r 892) (r 893) (r 894) 1491),(ff "_law_reckon" "_law_reckon" 89 3 z yL (r 895)),o_43,o_44,(fz "law" "law" 90),(cod "law" "law" 1494 1104 1 0 0 3 (r 897) true (r 898) z z z (r 899) 1497),(ff "law" "law" 90 3 z yL (r 900))]
noncomputable def evens {α:Type}:List α → List α
 | []=>[]
 | [x]=>[x]
 | x :: _ :: l=>x :: evens l
noncomputable def odds {α:Type}:List α → List α
 | []=>[]
 | [_]=>[]
 | _ :: x :: l=>x :: odds l
noncomputable def braun:Nat → List Obj → BT
 | 0,_=>.nil
 | _,[]=>.nil
 | k + 1,x :: l=>.node x (braun k (evens l)) (braun k (odds l))
noncomputable abbrev p0:Pos:=⟨0,0,0,0⟩
noncomputable abbrev pE:Pos:=⟨1104,0,1145,60⟩
noncomputable abbrev prR:Program:=rw_im0053_01.row.toRowW.1
noncomputable def env:Env:={ scope:=prR.main.scope,locals:=mainNs,globals:=mainNs,cells:=[],code:=.ref 13,frame:=some 14 }
noncomputable abbrev cd (p:Program):Code:=Code.body (behindTheImports p) env
noncomputable def hpA (P:Params):Heap:=⟨⟨preL P⟩,{}⟩
noncomputable def hpZ (P:Params):Heap:=⟨⟨finL P⟩,{}⟩
noncomputable def trB (P:Params):BT:=braun 6 (preL P)
noncomputable def trZ (P:Params):BT:=braun 12 (finL P)
noncomputable abbrev shA (w:World) (os:OsState):Shared:={ heap:=hpA w.params,toks:=187,os:=os }
noncomputable abbrev shB (w:World) (os:OsState):SharedT:={ tree:=trB w.params,n:=15,life:={},gens:=⟨[]⟩,drawn:={},toks:=187,os:=os }
noncomputable abbrev shY (w:World) (os:OsState):SharedT:={ tree:=trZ w.params,n:=902,life:={},gens:=⟨[]⟩,drawn:={},toks:=1500,os:=os }
noncomputable abbrev shZ (w:World) (os:OsState):Shared:={ heap:=hpZ w.params,toks:=1500,os:=os }
noncomputable abbrev sh0 (w:World) (os:OsState):Shared:={ heap:=boot_heap w.params,drawn:=boot_drawn,toks:=boot_toks,os:=os }
noncomputable abbrev ann:Option Value:=some (.ref 6)
noncomputable abbrev thA (p:Program) (dn:(String → Option Builtin) → Code → Sem Fin) (tb:String → Option Builtin):Thread:=⟨dn tb (cd p),cd p,p0,[topFrame p0]⟩
noncomputable abbrev thZ (p:Program):Thread:=⟨doneF .next,cd p,pE,[topFrame p0]⟩
theorem prgR:prg = prR:=by
 show (PySem.W.Fast.tw2368527892694137696 rw_im0053_01).toRowW.1 = rw_im0053_01.row.toRowW.1
 rw [PySem.W.Fast.te2368527892694137696]
theorem preT (w:World):(fun os=>PySem.W.Fast.tw15667345088766844465 PySem.W.Fast.tw14364793385576792824 prg w 11 ann 12 (sh0 w os) (topStub prg)) = fun os=>some (shA w os,thA prg PySem.W.Fast.tw11892475500146522536 PySem.W.Fast.tw14364793385576792824):=by rfl'
theorem pre (w:World) (os:OsState):topGo treeTable prR w 11 ann 12 (sh0 w os) (topStub prR) = some (shA w os,thA prR denote treeTable):=by
 have:=congrFun (preT w) os
 rw [← PySem.W.Fast.te15667345088766844465,← PySem.W.Fast.te14364793385576792824,← PySem.W.Fast.te11892475500146522536] at this
 rw [prgR] at this
 exact this
theorem blockT (w:World):(fun os=>PySem.W.Fast.tw14374325043358763698 PySem.W.Fast.tw14364793385576792824 prg w 11 ann 1 1 (shA w os) (blockOf (behindTheImports prg) env (cd prg) p0 [topFrame p0])) = fun os=>some (.next,(shB w os).abs,cd prg,p0):=by rfl'
theorem finT (w:World):(fun os=>PySem.W.Fast.tw14082659384304107361 PySem.W.Fast.tw14364793385576792824 prg w 11 ann 2 (shY w os).abs (thZ prg)) = fun os=>some (shZ w os):=by rfl'
theorem block (w:World) (os:OsState):segRun treeTable prR w 11 ann 1 1 (shA w os) (blockOf (behindTheImports prR) env (cd prR) p0 [topFrame p0]) = some (.next,(shB w os).abs,cd prR,p0):=by
 have:=congrFun (blockT w) os
 rw [← PySem.W.Fast.te14374325043358763698,← PySem.W.Fast.te14364793385576792824,prgR] at this
 exact this
theorem fin (w:World) (os:OsState):topRun treeTable prR w 11 ann 2 (shY w os).abs (thZ prR) = some (shZ w os):=by
 have:=congrFun (finT w) os
 rw [← PySem.W.Fast.te14082659384304107361,← PySem.W.Fast.te14364793385576792824,prgR] at this
 exact this
noncomputable def sts:List Stmt:=behindTheImports prg
noncomputable def vw:Program:={ prg with main:={ prg.main with body:=prg.main.body.drop 45 } }
noncomputable def lse:List Str:=[(Str.ofString "_wall"),(Str.ofString "YAMLError"),(Str.ofString "Event"),(Str.ofString "NodeEvent"),(Str.ofString "CollectionStartEvent"),(Str.ofString "CollectionEndEvent"),(Str.ofString "StreamStartEvent"),(Str.ofString "StreamEndEvent"),(Str.ofString "DocumentStartEvent"),(Str.ofString "DocumentEndEvent"),(Str.ofString "AliasEvent"),(Str.ofString "ScalarEvent"),(Str.ofString "SequenceStartEvent"),(Str.ofString "SequenceEndEvent"),(Str.ofString "MappingStartEvent"),(Str.ofString "MappingEndEvent"),(Str.ofString "EmitterError"),(Str.ofString "ScalarAnalysis"),(Str.ofString "Emitter"),(Str.ofString "Rows"),(Str.ofString "_law_NAMES"),(Str.ofString "_law_LET"),(Str.ofString "_law_HEX"),(Str.ofString "_law_VERSIONS"),(Str.ofString "_law_HANDLES"),(Str.ofString "_law_WRONGS"),(Str.ofString "_law_PREFIXES"),(Str.ofString "_law_HEADS"),(Str.ofString "_law_SIGNS"),(Str.ofString "_law_ANCHORS"),(Str.ofString "_law_PAIRS"),(Str.ofString "_law_WORDS"),(Str.ofString "_law_next"),(Str.ofString "_law_directive"),(Str.ofString "_law_drawn_tag"),(Str.ofString "_law_octets"),(Str.ofString "_law_spelt"),(Str.ofString "_law_tag"),(Str.ofString "_law_named"),(Str.ofString "_law_props"),(Str.ofString "_law_reckon")]
theorem open42:opening prR = plainProg prR.main.scope.names:=by rfl'
theorem open43 (s:Shared):fenceModules? prR s = some s:=by rfl
theorem boot (w:World):(fencedOpening treeTable prR w (2 * 7491 + 100)).map (fun s=>(s.heap,s.gens,s.drawn,s.toks)) = some (boot_heap w.params,Array.mk [],boot_drawn,boot_toks):=boot_open open42 (by decide) open43 w
theorem sizeT (P:Params):(PySem.W.Fast.tw8920871248978507458 (boot_heap P) mainGlobals "__annotations__") = ann:=by rfl'
theorem size1 (P:Params):((boot_heap P).isNs mainGlobals && (Array.mk ([]:List GenState)).size == 0,(boot_heap P).objs.size) = (true,11):=by rfl'
noncomputable abbrev mods:List Str:=importedModules prg.main.body
theorem st1 (w:World):staticsOk mods (boot_heap w.params) (hpZ w.params) = true:=by rfl'
theorem st2 (w:World):namesBound prg (hpZ w.params) = true:=by rfl'
theorem st3 (w:World):laidKept (boot_heap w.params) (hpZ w.params) = true:=by rfl'
theorem lk1 (w:World):(fun os=>seen ((recsOf vw).map (·.name)) (ownsOf vw) [] { shZ w os with gens:=#[] }) = fun _=>expectedOf vw:=by rfl'
theorem lk2 (w:World):(hpZ w.params).bltView = bltViewBooted:=by rfl'
theorem st4 (w:World):tablesOk vw (hpZ w.params) = true:=by rfl'
theorem lk3 (w:World):(hpZ w.params).keysOk (looseW vw lse) ((recsOf vw).map (·.name)) ((litsOf vw).map (·.1)) ((clssOf vw (looseW vw lse)).map (·.name)) = true:=by rfl'
theorem lk4 (w:World):(hpZ w.params).accountedOkI mods = true:=by rfl'
theorem lk5 (w:World):(fun os=>xlAt vw [] (shZ w os)) = fun _=>true:=by rfl'
theorem lk6 (w:World):(fun os=>tabsOk vw (shZ w os)) = fun _=>true:=by rfl'
theorem lk7 (w:World):(fun os=>pinSeenD vw (drecsOf vw) (shZ w os)) = fun _=>pinGoodD (drecsOf vw):=by rfl'
theorem lk8 (w:World):(fun os=>plainSeenE vw (looseW vw lse) (shZ w os)) = fun _=>plainGoodE vw (looseW vw lse):=by rfl'
theorem lk9 (w:World):(fun os=>plainSeenD vw lse (shZ w os)) = fun _=>plainGoodD vw lse:=by rfl'
theorem lk10 (w:World):(fun os=>wideSeen vw (shZ w os)) = fun _=>wideGood vw:=by rfl'
theorem lk11 (w:World):(fun os=>clsSeenW vw lse (shZ w os)) = fun _=>clsGoodW vw lse:=by rfl'
noncomputable def midL (P:Params) (n k m:Nat):List Obj:=(((finL P).take n).set 3 (dct (e P "__name__" 165 (v "yaml.emitter" 560) :: ((glE P).drop 1).take k) (k + 1))).set 12 (fld (flE.take m))
noncomputable abbrev shM (w:World) (n k m c:Nat) (os:OsState):SharedT:={ tree:=braun 12 (midL w.params n k m),n:=n,life:={},gens:=⟨[]⟩,drawn:={},toks:=c,os:=os }
noncomputable abbrev pA:Pos:=⟨78,0,88,38⟩
noncomputable abbrev pC:Pos:=⟨89,0,962,20⟩
noncomputable abbrev sgR (w:World) (s:SharedT) (l:List Stmt) (p:Pos):=PySem.W.Fast.tw10110043849684766642 PySem.W.Fast.tw14364793385576792824 prg w 11 ann 1 5000 s (piecesOf l env (cd prg) p [topFrame p0])
theorem bgA (w:World):(fun os=>sgR w (shB w os) (sts.take 21) p0) = fun os=>some (.next,shM w 301 26 54 621 os,cd prg,pA):=by rfl'
theorem bigF (w:World):(fun os=>sgR (w.withFollow "special-get-raises" false) (shM (w.withFollow "special-get-raises" false) 301 26 54 621 os) ((sts.drop 21).take 1) pA) =
  fun os=>some (.next,shM (w.withFollow "special-get-raises" false) 741 27 57 1272 os,cd prg,pC):=by rfl'
theorem bigT (w:World):(fun os=>sgR (w.withFollow "special-get-raises" true) (shM (w.withFollow "special-get-raises" true) 301 26 54 621 os) ((sts.drop 21).take 1) pA) =
  fun os=>some (.next,shM (w.withFollow "special-get-raises" true) 741 27 57 1272 os,cd prg,pC):=by rfl'
theorem bgR (w:World):(fun os=>sgR w (shM w 741 27 57 1272 os) (sts.drop 22) pC) = fun os=>some (.next,shY w os,cd prg,pE):=by rfl'
noncomputable def kk (P:Params):Frag:=[(31,o_68),(59,o_96),(81,o_118),(101,o_138),(113,o_150),(133,o_170),(145,o_182),(165,o_202),(185,o_222),(197,o_234),(217,o_254),(229,o_266),(241,o_278),(253,o_290),(265,o_302),(277,o_314),(296,o_333),(736,o_773),(771,o_808),(818,o_855),(0,boot_o_0 P),(1,boot_o_1 P),(2,o_49 P),(3,o_50 P),(4,boot_o_4 P),(5,boot_o_5 P),(6,boot_o_6 P),(7,boot_o_7 P),(8,boot_o_8 P),(9,boot_o_9 P),(10,boot_o_10 P),(24,o_61 P),(30,o_67 P),(37,o_74 P),(58,o_95 P),(66,o_103 P),(80,o_117 P),(86,o_123 P),(100,o_137 P),(106,o_143 P),(112,o_149 P),(118,o_155 P),(132,o_169 P),(138,o_175 P),(144,o_181 P),(150,o_187 P),(164,o_201 P),(170,o_207 P),(184,o_221 P),(190,o_227 P),(196,o_233 P),(202,o_239 P),(216,o_253 P),(222,o_259 P),(228,o_265 P),(234,o_271 P),(240,o_277 P),(246,o_283 P),(252,o_289 P),(258,o_295 P),(264,o_301 P),(270,o_307 P),(276,o_313 P),(282,o_319 P),(295,o_332 P),(303,o_340 P),(308,o_345 P),(696,o_733 P),(735,o_772 P),(743,o_780 P),(770,o_807 P),(21,(ff "_wall" "_wall" 0 3 z (v "__main__" 164) (r 20))),(49,(ff "__init__" "Event.__init__" 1 3 (r 42) yV (r 48))),(56,(ff "__repr__" "Event.__repr__" 2 3 z yV (r 55))),(78,(ff "__init__" "NodeEvent.__init__" 3 3 (r 71) yV (r 77))),(98,(ff "__init__" "CollectionStartEvent.__init__" 4 3 (r 91) yV (r 97))),(130,(ff "__init__" "StreamStartEvent.__init__" 5 3 (r 123) yV (r 129))),(162,(ff "__init__" "DocumentStartEvent.__init__" 6 3 (r 155) yV (r 161))),(182,(ff "__init__" "DocumentEndEvent.__init__" 7 3 (r 175) yV (r 181))),(214,(ff "__init__" "ScalarEvent.__init__" 8 3 (r 207) yV (r 213))),(293,(ff "__init__" "ScalarAnalysis.__init__" 9 3 z yE (r 292))),(316,(ff "__init__" "Emitter.__init__" 10 3 (r 309) yE (r 315))),(323,(ff "dispose" "Emitter.dispose" 11 3 z yE (r 322))),(330,(ff "emit" "Emitter.emit" 12 3 z yE (r 329))),(337,(ff "need_more_events" "Emitter.need_more_events" 13 3 z yE (r 336))),(344,(ff "need_events" "Emitter.need_events" 14 3 z yE (r 343))),(352,(ff "increase_indent" "Emitter.increase_indent" 15 3 (r 345) yE (r 351))),(359,(ff "expect_stream_start" "Emitter.expect_stream_start" 16 3 z yE (r 358))),(366,(ff "expect_nothing" "Emitter.expect_nothing" 17 3 z yE (r 365))),(373,(ff "expect_first_document_start" "Emitter.expect_first_document_start" 18 3 z yE (r 372))),(381,(ff "expect_document_start" "Emitter.expect_document_start" 19 3 (r 374) yE (r 380))),(388,(ff "expect_document_end" "Emitter.expect_document_end" 20 3 z yE (r 387))),(395,(ff "expect_document_root" "Emitter.expect_document_root" 21 3 z yE (r 394))),(403,(ff "expect_node" "Emitter.expect_node" 22 3 (r 396) yE (r 402))),(410,(ff "expect_alias" "Emitter.expect_alias" 23 3 z yE (r 409))),(417,(ff "expect_scalar" "Emitter.expect_scalar" 24 3 z yE (r 416))),(424,(ff "expect_flow_sequence" "Emitter.expect_flow_sequence" 25 3 z yE (r 423))),(431,(ff "expect_first_flow_sequence_item" "Emitter.expect_first_flow_sequence_item" 26 3 z yE (r 430))),(438,(ff "expect_flow_sequence_item" "Emitter.expect_flow_sequence_item" 27 3 z yE (r 437))),(445,(ff "expect_flow_mapping" "Emitter.expect_flow_mapping" 28 3 z yE (r 444))),(452,(ff "expect_first_flow_mapping_key" "Emitter.expect_first_flow_mapping_key" 29 3 z yE (r 451))),(459,(ff "expect_flow_mapping_key" "Emitter.expect_flow_mapping_key" 30 3 z yE (r 458))),(466,(ff "expect_flow_mapping_simple_value" "Emitter.expect_flow_mapping_simple_value" 31 3 z yE (r 465))),(473,(ff "expect_flow_mapping_value" "Emitter.expect_flow_mapping_value" 32 3 z yE (r 472))),(480,(ff "expect_block_sequence" "Emitter.expect_block_sequence" 33 3 z yE (r 479))),(487,(ff "expect_first_block_sequence_item" "Emitter.expect_first_block_sequence_item" 34 3 z yE (r 486))),(495,(ff "expect_block_sequence_item" "Emitter.expect_block_sequence_item" 35 3 (r 488) yE (r 494))),(502,(ff "expect_block_mapping" "Emitter.expect_block_mapping" 36 3 z yE (r 501))),(509,(ff "expect_first_block_mapping_key" "Emitter.expect_first_block_mapping_key" 37 3 z yE (r 508))),(517,(ff "expect_block_mapping_key" "Emitter.expect_block_mapping_key" 38 3 (r 510) yE (r 516))),(524,(ff "expect_block_mapping_simple_value" "Emitter.expect_block_mapping_simple_value" 39 3 z yE (r 523))),(531,(ff "expect_block_mapping_value" "Emitter.expect_block_mapping_value" 40 3 z yE (r 530))),(538,(ff "check_empty_sequence" "Emitter.check_empty_sequence" 41 3 z yE (r 537))),(545,(ff "check_empty_mapping" "Emitter.check_empty_mapping" 42 3 z yE (r 544))),(552,(ff "check_empty_document" "Emitter.check_empty_document" 43 3 z yE (r 551))),(559,(ff "check_simple_key" "Emitter.check_simple_key" 44 3 z yE (r 558))),(566,(ff "process_anchor" "Emitter.process_anchor" 45 3 z yE (r 565))),(573,(ff "process_tag" "Emitter.process_tag" 46 3 z yE (r 572))),(580,(ff "choose_scalar_style" "Emitter.choose_scalar_style" 47 3 z yE (r 579))),(587,(ff "process_scalar" "Emitter.process_scalar" 48 3 z yE (r 586))),(594,(ff "prepare_version" "Emitter.prepare_version" 49 3 z yE (r 593))),(601,(ff "prepare_tag_handle" "Emitter.prepare_tag_handle" 50 3 z yE (r 600))),(608,(ff "prepare_tag_prefix" "Emitter.prepare_tag_prefix" 51 3 z yE (r 607))),(615,(ff "prepare_tag" "Emitter.prepare_tag" 52 3 z yE (r 614))),(622,(ff "prepare_anchor" "Emitter.prepare_anchor" 53 3 z yE (r 621))),(629,(ff "analyze_scalar" "Emitter.analyze_scalar" 54 3 z yE (r 628))),(636,(ff "flush_stream" "Emitter.flush_stream" 55 3 z yE (r 635))),(643,(ff "write_stream_start" "Emitter.write_stream_start" 56 3 z yE (r 642))),(650,(ff "write_stream_end" "Emitter.write_stream_end" 57 3 z yE (r 649))),(658,(ff "write_indicator" "Emitter.write_indicator" 58 3 (r 651) yE (r 657))),(665,(ff "write_indent" "Emitter.write_indent" 59 3 z yE (r 664))),(673,(ff "write_line_break" "Emitter.write_line_break" 60 3 (r 666) yE (r 672))),(680,(ff "write_version_directive" "Emitter.write_version_directive" 61 3 z yE (r 679))),(687,(ff "write_tag_directive" "Emitter.write_tag_directive" 62 3 z yE (r 686))),(695,(ff "write_single_quoted" "Emitter.write_single_quoted" 63 3 (r 688) yE (r 694))),(704,(ff "write_double_quoted" "Emitter.write_double_quoted" 64 3 (r 697) yE (r 703))),(711,(ff "determine_block_hints" "Emitter.determine_block_hints" 65 3 z yE (r 710))),(718,(ff "write_folded" "Emitter.write_folded" 66 3 z yE (r 717))),(725,(ff "write_literal" "Emitter.write_literal" 67 3 z yE (r 724))),(733,(ff "write_plain" "Emitter.write_plain" 68 3 (r 726) yE (r 732))),(754,(ff "__init__" "Rows.__init__" 69 3 z yE (r 753))),(761,(ff "write" "Rows.write" 70 3 z yE (r 760))),(768,(ff "text" "Rows.text" 71 3 z yE (r 767))),(782,(ff "_law_LET" "_law_LET" 72 3 z yL (r 781))),(789,(ff "_law_VERSIONS" "_law_VERSIONS" 73 3 z yL (r 788))),(796,(ff "_law_HANDLES" "_law_HANDLES" 74 3 z yL (r 795))),(803,(ff "_law_WRONGS" "_law_WRONGS" 75 3 z yL (r 802))),(810,(ff "_law_PREFIXES" "_law_PREFIXES" 76 3 z yL (r 809))),(817,(ff "_law_HEADS" "_law_HEADS" 77 3 z yL (r 816))),(825,(ff "_law_ANCHORS" "_law_ANCHORS" 78 3 z yL (r 824))),(832,(ff "_law_PAIRS" "_law_PAIRS" 79 3 z yL (r 831))),(839,(ff "_law_WORDS" "_law_WORDS" 80 3 z yL (r 838))),(846,(ff "_law_next" "_law_next" 81 3 z yL (r 845))),(853,(ff "_law_directive" "_law_directive" 82 3 z yL (r 852))),(858,(ff "_law_drawn_tag" "_law_drawn_tag" 83 3 z yL (r 857))),(865,(ff "_law_octets" "_law_octets" 84 3 z yL (r 864))),(870,(ff "_law_spelt" "_law_spelt" 85 3 z yL (r 869))),(877,(ff "_law_tag" "_law_tag" 86 3 z yL (r 876))),(882,(ff "_law_named" "_law_named" 87 3 z yL (r 881))),(889,(ff "_law_props" "_law_props" 88 3 z yL (r 888))),(896,(ff "_law_reckon" "_law_reckon" 89 3 z yL (r 895))),(901,(ff "law" "law" 90 3 z yL (r 900))),(32,(gsd [(v "__weakref__" 209),(r 31),(b "ExceptionGroup.__weakref__"),z])),(42,(tup [z,z])),(60,(gsd [(v "__dict__" 249),(r 59),(b "function.__dict__"),(b "function.__dict__#set")])),(61,(gsd [(v "__weakref__" 251),(r 59),(b "ExceptionGroup.__weakref__"),z])),(71,(tup [z,z])),(91,(tup [z,z,z])),(123,(tup [z,z,z])),(155,(tup [z,z,z,z,z])),(175,(tup [z,z,z])),(207,(tup [z,z,z])),(297,(gsd [(v "__dict__" 614),(r 296),(b "function.__dict__"),(b "function.__dict__#set")])),(298,(gsd [(v "__weakref__" 616),(r 296),(b "ExceptionGroup.__weakref__"),z])),(309,(tup [z,z,z,z,z])),(345,(tup [(vb false),(vb false)])),(374,(tup [(vb false)])),(396,(tup [(vb false),(vb false),(vb false),(vb false)])),(488,(tup [(vb false)])),(510,(tup [(vb false)])),(651,(tup [(vb false),(vb false)])),(666,(tup [z])),(688,(tup [(vb true)])),(697,(tup [(vb true)])),(726,(tup [(vb true)])),(737,(gsd [(v "__dict__" 1265),(r 736),(b "function.__dict__"),(b "function.__dict__#set")])),(738,(gsd [(v "__weakref__" 1267),(r 736),(b "ExceptionGroup.__weakref__"),z])),(772,(gsd [(v "__dict__" 1308),(r 771),(b "function.__dict__"),(b "function.__dict__#set")])),(773,(gsd [(v "__weakref__" 1310),(r 771),(b "ExceptionGroup.__weakref__"),z])),(13,o_45),(20,(cod "_wall" "_wall" 187 1 1 0 0 3 (r 15) true (r 16) z (r 17) (r 18) (r 19) 191)),(27,(cod "YAMLError" "YAMLError" 198 5 0 0 0 0 (r 25) false (r 26) z z z z 201)),(40,(cod "Event" "Event" 220 8 0 0 0 0 (r 38) false (r 39) z z z z 223)),(48,(cod "__init__" "Event.__init__" 230 10 3 0 0 3 (r 43) true (r 44) z (r 45) (r 46) (r 47) 236)),(55,(cod "__repr__" "Event.__repr__" 239 14 1 0 0 3 (r 50) true (r 51) z (r 52) (r 53) (r 54) 243)),(69,(cod "NodeEvent" "NodeEvent" 258 16 0 0 0 0 (r 67) false (r 68) z z z z 261)),(77,(cod "__init__" "NodeEvent.__init__" 268 18 4 0 0 3 (r 72) true (r 73) z (r 74) (r 75) (r 76) 275)),(89,(cod "CollectionStartEvent" "CollectionStartEvent" 287 22 0 0 0 0 (r 87) false (r 88) z z z z 290)),(97,(cod "__init__" "CollectionStartEvent.__init__" 297 24 7 0 0 3 (r 92) true (r 93) z (r 94) (r 95) (r 96) 307)),(109,(cod "CollectionEndEvent" "CollectionEndEvent" 322 31 0 0 0 0 (r 107) false (r 108) z z z z 325)),(121,(cod "StreamStartEvent" "StreamStartEvent" 338 33 0 0 0 0 (r 119) false (r 120) z z z z 341)),(129,(cod "__init__" "StreamStartEvent.__init__" 348 35 4 0 0 3 (r 124) true (r 125) z (r 126) (r 127) (r 128) 355)),(141,(cod "StreamEndEvent" "StreamEndEvent" 367 39 0 0 0 0 (r 139) false (r 140) z z z z 370)),(153,(cod "DocumentStartEvent" "DocumentStartEvent" 383 41 0 0 0 0 (r 151) false (r 152) z z z z 386)),(161,(cod "__init__" "DocumentStartEvent.__init__" 393 43 6 0 0 3 (r 156) true (r 157) z (r 158) (r 159) (r 160) 402)),(173,(cod "DocumentEndEvent" "DocumentEndEvent" 416 49 0 0 0 0 (r 171) false (r 172) z z z z 419)),(181,(cod "__init__" "DocumentEndEvent.__init__" 426 51 4 0 0 3 (r 176) true (r 177) z (r 178) (r 179) (r 180) 433)),(193,(cod "AliasEvent" "AliasEvent" 445 55 0 0 0 0 (r 191) false (r 192) z z z z 448)),(205,(cod "ScalarEvent" "ScalarEvent" 461 57 0 0 0 0 (r 203) false (r 204) z z z z 464)),(213,(cod "__init__" "ScalarEvent.__init__" 471 59 8 0 0 3 (r 208) true (r 209) z (r 210) (r 211) (r 212) 482)),(225,(cod "SequenceStartEvent" "SequenceStartEvent" 498 67 0 0 0 0 (r 223) false (r 224) z z z z 501)),(237,(cod "SequenceEndEvent" "SequenceEndEvent" 514 69 0 0 0 0 (r 235) false (r 236) z z z z 517)),(249,(cod "MappingStartEvent" "MappingStartEvent" 530 71 0 0 0 0 (r 247) false (r 248) z z z z 533)),(261,(cod "MappingEndEvent" "MappingEndEvent" 546 73 0 0 0 0 (r 259) false (r 260) z z z z 549)),(273,(cod "EmitterError" "EmitterError" 564 76 0 0 0 0 (r 271) false (r 272) z z z z 567)),(285,(cod "ScalarAnalysis" "ScalarAnalysis" 580 78 0 0 0 0 (r 283) false (r 284) z z z z 583)),(292,(cod "__init__" "ScalarAnalysis.__init__" 590 80 9 0 0 3 (r 287) true (r 288) z (r 289) (r 290) (r 291) 602)),(306,(cod "Emitter" "Emitter" 623 89 0 0 0 0 (r 304) false (r 305) z z z z 626)),(315,(cod "__init__" "Emitter.__init__" 640 92 7 0 0 3 (r 310) true (r 311) z (r 312) (r 313) (r 314) 650)),(322,(cod "dispose" "Emitter.dispose" 653 128 1 0 0 3 (r 317) true (r 318) z (r 319) (r 320) (r 321) 657)),(329,(cod "emit" "Emitter.emit" 660 131 2 0 0 3 (r 324) true (r 325) z (r 326) (r 327) (r 328) 665)),(336,(cod "need_more_events" "Emitter.need_more_events" 668 138 1 0 0 3 (r 331) true (r 332) z (r 333) (r 334) (r 335) 673)),(343,(cod "need_events" "Emitter.need_events" 676 151 2 0 0 3 (r 338) true (r 339) z (r 340) (r 341) (r 342) 683)),(351,(cod "increase_indent" "Emitter.increase_indent" 686 164 3 0 0 3 (r 346) true (r 347) z (r 348) (r 349) (r 350) 692)),(358,o_395),(365,(cod "expect_nothing" "Emitter.expect_nothing" 702 181 1 0 0 3 (r 360) true (r 361) z (r 362) (r 363) (r 364) 706)),(372,o_409),(380,o_417),(387,o_424),(394,o_431),(402,(cod "expect_node" "Emitter.expect_node" 745 235 5 0 0 3 (r 397) true (r 398) z (r 399) (r 400) (r 401) 753)),(409,(cod "expect_alias" "Emitter.expect_alias" 756 260 1 0 0 3 (r 404) true (r 405) z (r 406) (r 407) (r 408) 760)),(416,(cod "expect_scalar" "Emitter.expect_scalar" 763 266 1 0 0 3 (r 411) true (r 412) z (r 413) (r 414) (r 415) 767)),(423,o_460),(430,o_467),(437,o_474),(444,o_481),(451,o_488),(458,o_495),(465,o_502),(472,o_509),(479,o_516),(486,o_523),(494,o_531),(501,o_538),(508,o_545),(516,o_553),(523,o_560),(530,o_567),(537,o_574),(544,o_581),(551,o_588),(558,(cod "check_simple_key" "Emitter.check_simple_key" 907 424 1 0 0 3 (r 553) true (r 554) z (r 555) (r 556) (r 557) 912)),(565,(cod "process_anchor" "Emitter.process_anchor" 915 440 2 0 0 3 (r 560) true (r 561) z (r 562) (r 563) (r 564) 920)),(572,(cod "process_tag" "Emitter.process_tag" 923 450 1 0 0 3 (r 567) true (r 568) z (r 569) (r 570) (r 571) 928)),(579,o_616),(586,(cod "process_scalar" "Emitter.process_scalar" 938 488 1 0 0 3 (r 581) true (r 582) z (r 583) (r 584) (r 585) 943)),(593,(cod "prepare_version" "Emitter.prepare_version" 946 507 2 0 0 3 (r 588) true (r 589) z (r 590) (r 591) (r 592) 953)),(600,o_637),(607,o_644),(614,(cod "prepare_tag" "Emitter.prepare_tag" 978 545 2 0 0 3 (r 609) true (r 610) z (r 611) (r 612) (r 613) 993)),(621,(cod "prepare_anchor" "Emitter.prepare_anchor" 996 578 2 0 0 3 (r 616) true (r 617) z (r 618) (r 619) (r 620) 1002)),(628,(cod "analyze_scalar" "Emitter.analyze_scalar" 1005 586 2 0 0 3 (r 623) true (r 624) z (r 625) (r 626) (r 627) 1032)),(635,(cod "flush_stream" "Emitter.flush_stream" 1035 684 1 0 0 3 (r 630) true (r 631) z (r 632) (r 633) (r 634) 1039)),(642,o_679),(649,o_686),(657,(cod "write_indicator" "Emitter.write_indicator" 1056 693 5 0 0 3 (r 652) true (r 653) z (r 654) (r 655) (r 656) 1065)),(664,(cod "write_indent" "Emitter.write_indent" 1068 704 1 0 0 3 (r 659) true (r 660) z (r 661) (r 662) (r 663) 1074)),(672,o_709),(679,o_716),(686,o_723),(694,o_731),(703,o_740),(710,o_747),(717,(cod "write_folded" "Emitter.write_folded" 1188 832 2 0 0 3 (r 712) true (r 713) z (r 714) (r 715) (r 716) 1202)),(724,(cod "write_literal" "Emitter.write_literal" 1205 880 2 0 0 3 (r 719) true (r 720) z (r 721) (r 722) (r 723) 1217)),(732,(cod "write_plain" "Emitter.write_plain" 1220 912 3 0 0 3 (r 727) true (r 728) z (r 729) (r 730) (r 731) 1233)),(746,(cod "Rows" "Rows" 1274 963 0 0 0 0 (r 744) false (r 745) z z z z 1277)),(753,(cod "__init__" "Rows.__init__" 1284 965 1 0 0 3 (r 748) true (r 749) z (r 750) (r 751) (r 752) 1288)),(760,(cod "write" "Rows.write" 1291 968 2 0 0 3 (r 755) true (r 756) z (r 757) (r 758) (r 759) 1296)),(767,(cod "text" "Rows.text" 1299 971 1 0 0 3 (r 762) true (r 763) z (r 764) (r 765) (r 766) 1303)),(781,(cod "_law_LET" "_law_LET" 1319 975 0 0 0 3 (r 776) true (r 777) z (r 778) (r 779) (r 780) 1322)),(788,(cod "_law_VERSIONS" "_law_VERSIONS" 1327 978 0 0 0 3 (r 783) true (r 784) z (r 785) (r 786) (r 787) 1330)),(795,(cod "_law_HANDLES" "_law_HANDLES" 1333 980 0 0 0 3 (r 790) true (r 791) z (r 792) (r 793) (r 794) 1336)),(802,(cod "_law_WRONGS" "_law_WRONGS" 1339 982 0 0 0 3 (r 797) true (r 798) z (r 799) (r 800) (r 801) 1342)),(809,(cod "_law_PREFIXES" "_law_PREFIXES" 1345 984 0 0 0 3 (r 804) true (r 805) z (r 806) (r 807) (r 808) 1348)),(816,(cod "_law_HEADS" "_law_HEADS" 1351 986 0 0 0 3 (r 811) true (r 812) z (r 813) (r 814) (r 815) 1354)),(824,(cod "_law_ANCHORS" "_law_ANCHORS" 1381 989 0 0 0 3 (r 819) true (r 820) z (r 821) (r 822) (r 823) 1384)),(831,(cod "_law_PAIRS" "_law_PAIRS" 1387 991 0 0 0 3 (r 826) true (r 827) z (r 828) (r 829) (r 830) 1390)),(838,(cod "_law_WORDS" "_law_WORDS" 1393 993 0 0 0 3 (r 833) true (r 834) z (r 835) (r 836) (r 837) 1396)),(845,(cod "_law_next" "_law_next" 1399 995 1 0 0 3 (r 840) true (r 841) z (r 842) (r 843) (r 844) 1403)),(852,(cod "_law_directive" "_law_directive" 1406 997 1 0 0 3 (r 847) true (r 848) z (r 849) (r 850) (r 851) 1412)),(857,(cod "_law_drawn_tag" "_law_drawn_tag" 1415 1005 1 0 0 3 (r 854) true (r 855) z z z (r 856) 1418)),(864,(cod "_law_octets" "_law_octets" 1421 1013 1 0 0 3 (r 859) true (r 860) z (r 861) (r 862) (r 863) 1426)),(869,(cod "_law_spelt" "_law_spelt" 1429 1022 2 0 0 3 (r 866) true (r 867) z z z (r 868) 1432)),(876,(cod "_law_tag" "_law_tag" 1435 1030 2 0 0 3 (r 871) true (r 872) z (r 873) (r 874) (r 875) 1442)),(881,(cod "_law_named" "_law_named" 1445 1038 1 0 0 3 (r 878) true (r 879) z z z (r 880) 1448)),(888,(cod "_law_props" "_law_props" 1451 1040 4 0 0 3 (r 883) true (r 884) z (r 885) (r 886) (r 887) 1459)),(895,(cod "_law_reckon" "_law_reckon" 1462 1051 3 0 0 3 (r 890) true (r 891) z (r 892) (r 893) (r 894) 1491)),(900,(cod "law" "law" 1494 1104 1 0 0 3 (r 897) true (r 898) z z z (r 899) 1497))]
noncomputable def kas:List Addr:=[31,59,81,101,113,133,145,165,185,197,217,229,241,253,265,277,296,736,771,818,0,1,2,3,4,5,6,7,8,9,10,24,30,37,58,66,80,86,100,106,112,118,132,138,144,150,164,170,184,190,196,202,216,222,228,234,240,246,252,258,264,270,276,282,295,303,308,696,735,743,770,21,49,56,78,98,130,162,182,214,293,316,323,330,337,344,352,359,366,373,381,388,395,403,410,417,424,431,438,445,452,459,466,473,480,487,495,502,509,517,524,531,538,545,552,559,566,573,580,587,594,601,608,615,622,629,636,643,650,658,665,673,680,687,695,704,711,718,725,733,754,761,768,782,789,796,803,810,817,825,832,839,846,853,858,865,870,877,882,889,896,901,32,42,60,61,71,91,123,155,175,207,297,298,309,345,374,396,488,510,651,666,688,697,726,737,738,772,773,13,20,27,40,48,55,69,77,89,97,109,121,129,141,153,161,173,181,193,205,213,225,237,249,261,273,285,292,306,315,322,329,336,343,351,358,365,372,380,387,394,402,409,416,423,430,437,444,451,458,465,472,479,486,494,501,508,516,523,530,537,544,551,558,565,572,579,586,593,600,607,614,621,628,635,642,649,657,664,672,679,686,694,703,710,717,724,732,746,753,760,767,781,788,795,802,809,816,824,831,838,845,852,857,864,869,876,881,888,895,900]
theorem kasE (P:Params):kas = (kk P).map (·.1):=by rfl'
noncomputable abbrev hk:Hook:=kHook kk kas kasE
theorem hkE (w:World):(fun os=>hk.obs (shZ w os)) = fun _=>hk.val w:=by rfl'
theorem sgF {w:World} {s s':OsState → SharedT} {l:List Stmt} {p q:Pos} (h:(fun os=>sgR w (s os) l p) = fun os=>some (.next,s' os,cd prg,q)) (os:OsState):segRun treeTable prR w 11 ann 1 5000 (s os).abs (piecesOf l env (cd prR) p [topFrame p0]) = some (.next,(s' os).abs,cd prR,q):=by
 unfold sgR at h
 rw [← PySem.W.Fast.te10110043849684766642,← PySem.W.Fast.te14364793385576792824,prgR] at h
 exact segRun_of (congrFun h os)
theorem bgE (w:World):(fun os=>sgR w (shM w 301 26 54 621 os) ((sts.drop 21).take 1) pA) = fun os=>some (.next,shM w 741 27 57 1272 os,cd prg,pC) :=
 byRow2 (P:=fun w=>(fun os=>sgR w (shM w 301 26 54 621 os) ((sts.drop 21).take 1) pA) = fun os=>some (.next,shM w 741 27 57 1272 os,cd prg,pC)) "special-get-raises" bigF bigT w
theorem stsE:behindTheImports prR = sts.take 21 ++ ((sts.drop 21).take 1 ++ (sts.drop 22 ++ [])):=by
 rw [show behindTheImports prR = sts from congrArg behindTheImports prgR.symm,List.append_nil,show sts.drop 22 = (sts.drop 21).drop 1 from (List.drop_drop (i:=1) (j:=21) (l:=sts)).symm,List.take_append_drop,List.take_append_drop]
theorem run (w:World) (os:OsState):topRun treeTable prR w 11 ann (Nat.add 12 (Nat.add 1 (Nat.add 5000 (Nat.add 5000 (Nat.add 5000 2))))) ⟨boot_heap w.params,Array.mk [],boot_drawn,boot_toks,os⟩ (topStub prR) = some ⟨hpZ w.params,Array.mk [],{},1500,os⟩:=by
 refine go_top (pre w os) (piece_block (block w os) ?_)
 have h:=piece_app (sgF (bgA w) os) (piece_app (sgF (bgE w) os) (piece_app (rest:=[]) (sgF (bgR w) os) (piece_nil (env:=env) (fin w os))))
 rw [← stsE] at h
 exact h
noncomputable abbrev rr:RowW:=rw_im0053_01.row.toRowW
theorem rec1 (s:Shared):recOk (RowW.records rr) s = true:=by rfl
theorem ns1 (P:Params):(hpZ P).isNs mainGlobals = true:=by rfl'
theorem ns2 (P:Params):(hpZ P).isNs builtinsNs = true:=by rfl'
theorem gd (P:Params) (os:OsState):gensDone ⟨hpZ P,Array.mk [],{},1500,os⟩ = true:=by rfl
theorem looks (w:World):(fun os=>((staticsOk (importedModules prR.main.body) (boot_heap w.params) (hpZ w.params) && namesBound prR (hpZ w.params) && gensDone ⟨hpZ w.params,Array.mk [],{},1500,os⟩ && laidKept (boot_heap w.params) (hpZ w.params)),
    openSeen vw lse (importedModules prR.main.body) (fun s=>xlAt vw [] s && recOk (RowW.records rr) s) true ⟨hpZ w.params,Array.mk [],{},1500,os⟩,hk.obs ⟨hpZ w.params,Array.mk [],{},1500,os⟩)) = fun _=>(true,openGood vw lse,hk.val w):=by
 funext os
 have hp:mods = importedModules prR.main.body:=congrArg (fun p:Program=>importedModules p.main.body) prgR
 have x1:=st1 w
 have x2:=st2 w
 have x4:=lk4 w
 rw [hp] at x1 x4
 rw [prgR] at x2
 have x5:=congrFun (lk5 w) os
 have x6:=congrFun (lk6 w) os
 refine looks_pair ?_ (looks_pair ?_ (congrFun (hkE w) os))
 ·rw [x1,x2,st3 w,gd];rfl
 ·refine looks_pair (congrFun (lk1 w) os) (looks_pair (lk2 w) (looks_pair ?_ (looks_pair x6 (looks_pair (congrFun (lk7 w) os) (looks_pair (congrFun (lk8 w) os) (looks_pair (congrFun (lk9 w) os) (looks_pair (congrFun (lk10 w) os) (congrFun (lk11 w) os))))))))
  show ((hpZ w.params).keysOk _ _ _ _ && (hpZ w.params).accountedOkI _ && (hpZ w.params).isNs mainGlobals && (hpZ w.params).isNs builtinsNs && tablesOk vw (hpZ w.params) && (xlAt vw [] (shZ w os) && recOk (RowW.records rr) (shZ w os)) && true) = true
  rw [lk3 w,x4,st4 w,ns1,ns2,rec1,show xlAt vw [] (shZ w os) = true from x5]
  rfl
theorem hl:LeftO prR vw lse (fun s=>xlAt vw [] s && recOk (RowW.records rr) s) hk.obs hk.val (2 * 7491 + 100) true :=
 LeftO.of_pieces boot (fun w=>by
  have a:=sizeT w.params
  rw [← PySem.W.Fast.te8920871248978507458] at a
  have b:=size1 w.params
  exact looks_pair (congrArg Prod.fst b) (looks_pair (congrArg Prod.snd b) a)) run (by decide) looks
noncomputable abbrev L:=rw_im0053_01
theorem w2:decide (L.foot ≤ (behindTheImports L.prog).length) = true:=by rfl'
theorem w3:L.footing.all footLine = true:=by rfl'
theorem w4:noClassBlock L.prog L.footing = true:=by rfl'
theorem w5:L.most.all (fun n=>decide (63 ≤ n)) = true:=by rfl'
theorem w6:L.bound.all (fun n=>decide (2 ^ 63 ≤ n)) = true:=by rfl'
theorem w7:noRoadLSs { strict:=true,foot:=some L.bound',writes:=L.writes,may:=L.may } L.footing = true:=by rfl'
theorem w8:defStands L.about L.above = true:=by rfl'
theorem w9:L.namesIt = true:=by rfl'
theorem w10:(["type","isinstance","issubclass","getattr","hasattr"]:List Str).all (fun n=>L.about != [n]) = true:=by rfl'
theorem w11:L.bound'.all (fun n=>!builtinNamed n || L.about == [n] || !L.reads n) = true:=by rfl'
theorem w12:(!L.writes || (L.prog.main.body.flatMap importedNames).all fun n=>!L.reads n) = true:=by rfl'
theorem w13:(L.prog.main.body.flatMap importedNames).all (fun n=>!L.reads n || (drawsOf n L.prog.main.body).all fun mn=>mn.2 != ("attrgetter":Str) && mn.2 != ("methodcaller":Str)) = true:=by rfl'
theorem w14:namesMeet L.prog L.footing (fun sc n=>(!(["type","isinstance","issubclass","getattr","hasattr"]:List Str).contains n || sc.names.lookup n == some .globalImplicit) &&
  (L.may != some n || sc.kind == .module || sc.names.lookup n == some .globalImplicit)) = true:=by rfl'
theorem w15:L.own.contains L.name = true:=by rfl'
theorem w16:(L.own.eraseDups.length == L.own.length) = true:=by rfl'
theorem w17:L.own.all (fun n=>!builtinNamed n) = true:=by rfl'
theorem w18:namesMeet L.prog L.above (fun _ n=>!L.own.contains n) = true:=by rfl'
theorem w19:namesMeet L.prog L.footing (fun sc n=>sc.kind == .module || sc.names.lookup n != some .globalExplicit) = true:=by rfl'
noncomputable abbrev R:OpenRow:=L.row
theorem v2:(R.loose.isEmpty && R.makers.isEmpty && (R.records.isEmpty || R.raises.all fun ct=>ct.1 != .builtin "AttributeError" && ct.1 != .builtin "TypeError")) = true:=by rfl'
theorem v3:(R.raises.all fun ct=>match ct.1 with | .builtin n=>!R.prog.boundNames.contains (Str.ofString n) && !ofTheWorld.contains n | .own _=>true) = true:=by rfl'
theorem v4:decide (R.records.map (·.1)).Nodup = true:=by rfl'
theorem v5:(R.records.all fun x=>!x.1.opensWith "__" && !builtinNamed x.1 && R.prog.boundNames.contains x.1 && x.2.all fun f=>!f.1.opensWith "__") = true:=by rfl'
theorem v6:(R.toRowW.solid && R.pre.litsOk && R.post.litsOk && R.raises.all (·.2.litsOk)) = true:=by rfl'
theorem v7:(R.mutates.all (fun i=>match R.args[i]? with
  | some sh=>!sh.arms.any WShape.isObj
  | none=>false)) = true:=by rfl'
theorem v8:(R.within.all (fun i=>decide (i < R.args.length)) && R.same.all (fun i=>decide (i < R.args.length))) = true:=by rfl'
theorem v9:R.prog.boundNames.contains R.name = true:=by rfl'
theorem v10:(!startupNames.contains R.name) = true:=by rfl'
noncomputable abbrev pr:=L.prog
theorem u1:(sreFenced pr.main && ((moduleNames pr.main.body).isEmpty || lookedIntoSs (moduleNames pr.main.body) pr.main.body)) = true:=by rfl'
theorem u2:namesResolve pr = true:=by rfl'
theorem u3:pr.boundNames.all (fun n=>!worldNames.contains n) = true:=by rfl'
theorem u4:noRoadLSs { strict:=!(importedModules pr.main.body).all cThrough.contains,foot:=none,bare:=(["vars","dir","locals"]:List Str).filter (readsOut pr pr.main.body) } pr.main.body = true:=by rfl'
theorem u5:namesMeet pr pr.main.body (fun _ n=>attrL n) = true:=by rfl'
theorem ws:OpenLaw.wellSaid rw_im0053_01 = true:=by
 have a:looksOpen pr = true:=by unfold looksOpen;rw [u1,u2,u3,u4,u5];rfl
 have h2:=v2
 have h6:=v6
 have h8:=v8
 simp only [Bool.and_eq_true,and_assoc] at h2 h6 h8
 have b:R.partSaid = true:=by
  unfold OpenRow.partSaid
  simp only [Bool.and_eq_true,and_assoc]
  exact ⟨a,h2.1,h2.2.1,h2.2.2,v3,v4,v5,h6.1,h6.2.1,h6.2.2.1,h6.2.2.2,v7,h8.1,h8.2⟩
 have c:R.wellSaid = true:=by unfold OpenRow.wellSaid;rw [b,v9,v10];rfl
 unfold OpenLaw.wellSaid
 simp only [Bool.and_eq_true,and_assoc]
 exact ⟨c,w2,w3,w4,w5,w6,w7,w8,w9,w10,w11,w12,w13,w14,w15,w16,w17,w18,w19⟩
noncomputable def dL:DefRec:=⟨Str.ofString "law",fa 90,fb 90,fs 90,pE⟩
theorem hdef:defOf vw (RowW.name rr) = some (dL,[]):=by rfl'
theorem hthe:(RowW.prog rr).theDef (RowW.name rr) = some (dL.params,dL.body,dL.scope):=by rfl'
theorem hkwd:kwWritten? dL.params.kwonlyargs dL.params.kw_defaults = some []:=by rfl'
theorem okk:(chainsOk vw && opensWell (RowW.prog rr) && (frees rr && R.within.isEmpty)) = true:=by rfl'
theorem bare:(RowW.prog rr).bare:=⟨rfl,rfl,rfl,rfl,rfl,by rfl'⟩
theorem prom:rr.promised:=⟨[.list []],by rfl',by rfl'⟩
theorem head (call:WalkO vw lse (XL vw []) hk.says rr dL [] fun f vs=>PySem.call f vs):rw_im0053_01.Holds :=
 holds_law ws fun said=>holds_open (r:=R) (q:=vw) (loose:=lse) (Xt:=fun s=>xlAt vw [] s && recOk (RowW.records rr) s) (XP:=XL vw []) (Yf:=hk.obs) (Ya:=hk.val) (YP:=hk.says) (N:=2 * 7491 + 100)
  hl hk.of hk.keeps (fun s e=>xl_of s (Bool.and_eq_true_iff.mp e).1) XL.keeps hdef hthe hkwd (fun s e=>recFacts_of (Bool.and_eq_true_iff.mp e).2) (by rfl) said okk bare prom call
end Hd
namespace Yv
open PySem PySem.W PyProof.Rows PySem.Calls PySem.Challenge
theorem Nl {a b c:Nat} (h:a ≤ b) (k:b ≤ c):a ≤ c:=Nat.le_trans h k
theorem Ba {a b:Bool} (h:and a b = true):a = true ∧ b = true:=Bool.and_eq_true_iff.mp h
theorem La (a b:Str):(a ++ b).length = a.length + b.length:=Str.length_append a b
theorem Aa (a b c:Str):a ++ b ++ c = a ++ (b ++ c):=Str.append_assoc a b c
theorem Ae (a:Str):a ++ Str.empty = a:=Str.append_empty a
theorem Mr {α:Type} {a:α} (l:List α) {k:List α} (h:a ∈ k):a ∈ l ++ k:=List.mem_append_right l h
theorem Ml {α:Type} {a:α} {l:List α} (k:List α) (h:a ∈ l):a ∈ l ++ k:=List.mem_append_left k h
theorem Mc {α:Type} {a b:α} {l:List α} (h:a ∈ b :: l):a = b ∨ a ∈ l:=List.mem_cons.mp h
theorem Ms {α:Type} {a b:α} (h:a ∈ [b]):a = b:=List.mem_singleton.mp h
theorem Ma {α:Type} {a:α} {l k:List α} (h:a ∈ l ++ k):a ∈ l ∨ a ∈ k:=List.mem_append.mp h
theorem Nb {a b:Nat} (h:Nat.ble a b = true):a ≤ b:=Nat.le_of_ble_eq_true h
theorem Nq {a b:Nat} (h:Nat.beq a b = true):a = b:=Nat.eq_of_beq_eq_true h
theorem Nd {a b:Nat} (h:a ≤ b) (c:Nat):c + a ≤ c + b:=Nat.add_le_add_left h c
theorem no_none {α:Type} {x:α} {P:Prop} (h:none = some x):P:=by cases h
inductive SV where
 | none
 | bool (b:Bool)
 | int (i:Int)
 | str (s:Str)
 | byt (bs:List Nat)
 | fix (a:Addr)
 | obj (l:Nat) (a:Option Addr)
 | tup (xs:List SV)
 | lst (xs:List SV)
 | dct (kvs:List (Str × SV))
 | meth (f:Addr) (self:SV)
 | inst (c:Addr) (kvs:List (Str × SV))
noncomputable abbrev Lg:=List (Addr × Obj)
structure PP where
 P:Params
 pa:Nat → Addr
noncomputable def adr (p:PP) (l:Nat) (a:Option Addr):Addr:=a.getD (p.pa l)
noncomputable abbrev tupO (vs:List Value) (n:Nat):Obj:={ cls:=.type "tuple",data:=.seq vs.toArray n }
mutual
inductive VR (p:PP) (R:Lg):SV → Value → Prop
 | none:VR p R .none .none
 | bool (b:Bool):VR p R (.bool b) (.bool b)
 | int (i:Int) (t:Tok):VR p R (.int i) (.int i t)
 | str (s:Str) (t:Tok):VR p R (.str s) (.str s t)
 | byt (bs:List Nat) (arr:Array UInt8) (t:Tok):arr.toList.map UInt8.toNat = bs → VR p R (.byt bs) (.bytes arr t)
 | fix (a:Addr):VR p R (.fix a) (.ref a)
 | obj (l:Nat) (a:Option Addr):VR p R (.obj l a) (.ref (adr p l a))
 | tup (a:Addr) (vs:List Value) (n:Nat) (xs:List SV):(a,tupO vs n) ∈ R → VRs p R xs vs → VR p R (.tup xs) (.ref a)
 | lst (a:Addr) (vs:List Value) (n:Nat) (xs:List SV):(a,W.listOf vs.toArray n) ∈ R → VRs p R xs vs → VR p R (.lst xs) (.ref a)
 | dct (a:Addr) (es:List DictEntry) (n:Nat) (kvs:List (Str × SV)):(a,dictOf es n) ∈ R → DR p R kvs es → (kvs.map (·.1)).Nodup → (a == sysModules) = false → VR p R (.dct kvs) (.ref a)
 | meth (a f:Addr) (v:Value) (x:SV):(a,methodObj (.ref f) v) ∈ R → VR p R x v → VR p R (.meth f x) (.ref a)
 | inst (a d c:Addr) (es:List DictEntry) (n:Nat) (kvs:List (Str × SV)):(a,instObj c d) ∈ R → (d,dictOf es n) ∈ R → DR p R kvs es → VR p R (.inst c kvs) (.ref a)
inductive VRs (p:PP) (R:Lg):List SV → List Value → Prop
 | nil:VRs p R [] []
 | cons {x:SV} {v:Value} {xs:List SV} {vs:List Value}:VR p R x v → VRs p R xs vs → VRs p R (x :: xs) (v :: vs)
inductive DR (p:PP) (R:Lg):List (Str × SV) → List DictEntry → Prop
 | nil:DR p R [] []
 | cons {k:Str} {t:Tok} {x:SV} {v:Value} {kvs:List (Str × SV)} {es:List DictEntry}:VR p R x v → DR p R kvs es → DR p R ((k,x) :: kvs) (⟨PyData.keyHash p.P k,.str k t,v⟩ :: es)
end
noncomputable def Sub (R R':Lg):Prop:=∀ p ∈ R,p ∈ R'
theorem Sub.refl (R:Lg):Sub R R:=fun _ h=>h
theorem Sub.trans {R R' R'':Lg} (a:Sub R R') (b:Sub R' R''):Sub R R'':=fun p h=>b p (a p h)
theorem Sub.cons (p:Addr × Obj) (R:Lg):Sub R (p :: R):=fun _ h=>.tail _ h
theorem Sub.nil (R:Lg):Sub [] R:=fun _ h=>nomatch h
section
variable {p:PP} {R R':Lg}
theorem mono3 (h:Sub R R'):(∀ {x v},VR p R x v → VR p R' x v) ∧ (∀ {x v},VRs p R x v → VRs p R' x v) ∧ ∀ {x v},DR p R x v → DR p R' x v:=by
 refine ⟨fun r=>?_,fun r=>?_,fun r=>?_⟩
 ·exact VR.rec (motive_1:=fun x v _=>VR p R' x v) (motive_2:=fun x v _=>VRs p R' x v) (motive_3:=fun x v _=>DR p R' x v) .none .bool .int .str .byt .fix .obj (fun a vs n xs m _ r=>.tup a vs n xs (h _ m) r)
   (fun a vs n xs m _ r=>.lst a vs n xs (h _ m) r) (fun a es n kvs m _ d e r=>.dct a es n kvs (h _ m) r d e) (fun a f v x m _ r=>.meth a f v x (h _ m) r) (fun a d c es n kvs m m' _ r=>.inst a d c es n kvs (h _ m) (h _ m') r)
   .nil (fun _ _ a r=>.cons a r) .nil (fun _ _ a r=>.cons a r) r
 ·exact VRs.rec (motive_1:=fun x v _=>VR p R' x v) (motive_2:=fun x v _=>VRs p R' x v) (motive_3:=fun x v _=>DR p R' x v) .none .bool .int .str .byt .fix .obj (fun a vs n xs m _ r=>.tup a vs n xs (h _ m) r)
   (fun a vs n xs m _ r=>.lst a vs n xs (h _ m) r) (fun a es n kvs m _ d e r=>.dct a es n kvs (h _ m) r d e) (fun a f v x m _ r=>.meth a f v x (h _ m) r) (fun a d c es n kvs m m' _ r=>.inst a d c es n kvs (h _ m) (h _ m') r)
   .nil (fun _ _ a r=>.cons a r) .nil (fun _ _ a r=>.cons a r) r
 ·exact DR.rec (motive_1:=fun x v _=>VR p R' x v) (motive_2:=fun x v _=>VRs p R' x v) (motive_3:=fun x v _=>DR p R' x v) .none .bool .int .str .byt .fix .obj (fun a vs n xs m _ r=>.tup a vs n xs (h _ m) r)
   (fun a vs n xs m _ r=>.lst a vs n xs (h _ m) r) (fun a es n kvs m _ d e r=>.dct a es n kvs (h _ m) r d e) (fun a f v x m _ r=>.meth a f v x (h _ m) r) (fun a d c es n kvs m m' _ r=>.inst a d c es n kvs (h _ m) (h _ m') r)
   .nil (fun _ _ a r=>.cons a r) .nil (fun _ _ a r=>.cons a r) r
theorem VR.mono (h:Sub R R') {x:SV} {v:Value} (r:VR p R x v):VR p R' x v:=(mono3 h).1 r
theorem VRs.mono (h:Sub R R') {x:List SV} {v:List Value} (r:VRs p R x v):VRs p R' x v:=(mono3 h).2.1 r
theorem DR.mono (h:Sub R R') {x:List (Str × SV)} {v:List DictEntry} (r:DR p R x v):DR p R' x v:=(mono3 h).2.2 r
theorem VRs.length {xs:List SV}:∀ {vs:List Value},VRs p R xs vs → xs.length = vs.length:=by
 induction xs with
 | nil=>intro vs r;cases r;rfl
 | cons x xs ih=>intro vs r;cases r with | cons a r=>exact congrArg Nat.succ (ih r)
theorem VRs.append {xs ys:List SV} {ws:List Value} (h:VRs p R ys ws):∀ {vs:List Value},VRs p R xs vs → VRs p R (xs ++ ys) (vs ++ ws):=by
 induction xs with
 | nil=>intro vs r;cases r;exact h
 | cons x xs ih=>intro vs r;cases r with | cons a r=>exact .cons a (ih r)
theorem VRs.get {xs:List SV}:∀ {vs:List Value},VRs p R xs vs → ∀ (i:Nat) {x:SV},xs[i]? = some x → ∃ v,vs[i]? = some v ∧ VR p R x v:=by
 induction xs with
 | nil=>intro vs r i x e;cases e
 | cons y xs ih =>
  intro vs r i x e
  cases r with
  | cons a r=>cases i with
   | zero=>cases e;exact ⟨_,rfl,a⟩
   | succ i=>exact ih r i e
theorem VRs.back {xs:List SV}:∀ {vs:List Value},VRs p R xs vs → ∀ (i:Nat) {v:Value},vs[i]? = some v → ∃ x,xs[i]? = some x ∧ VR p R x v:=by
 induction xs with
 | nil=>intro vs r i x e;cases r;cases e
 | cons y xs ih =>
  intro vs r i x e
  cases r with
  | cons a r=>cases i with
   | zero=>cases e;exact ⟨_,rfl,a⟩
   | succ i=>exact ih r i e
end
noncomputable def lbeq:List Nat → List Nat → Bool
 | [],[]=>true
 | a :: r,b :: q=>match Nat.beq a b with | true=>lbeq r q | false=>false
 | _,_=>false
noncomputable def sbeq (x y:Str):Bool:=lbeq x.cps.toList y.cps.toList
theorem lbeq_self:∀ a,lbeq a a = true
 | []=>rfl
 | a :: r=>by show (match Nat.beq a a with | true=>lbeq r r | false=>false) = true;rw [Nat.beq_refl];exact lbeq_self r
theorem of_lbeq (a:List Nat):∀ {b},lbeq a b = true → a = b:=by
 induction a with
 | nil=>intro b h;cases b with | nil=>rfl | cons _ _=>cases h
 | cons x r ih =>
  intro b h
  cases b with
  | nil=>cases h
  | cons y q =>
   have h':(match Nat.beq x y with | true=>lbeq r q | false=>false) = true:=h
   cases e:Nat.beq x y with
   | true=>rw [e] at h';rw [Nq e,ih h']
   | false=>rw [e] at h';cases h'
theorem sext {a b:Str} (h:a.cps.toList = b.cps.toList):a = b:=by
 obtain ⟨⟨a⟩⟩:=a
 obtain ⟨⟨b⟩⟩:=b
 exact congrArg (fun l=>(⟨⟨l⟩⟩:Str)) h
theorem of_sbeq {x y:Str} (h:sbeq x y = true):x = y:=sext (of_lbeq _ h)
theorem sbeq_self (x:Str):sbeq x x = true:=lbeq_self _
theorem sbeq_eq (x y:Str):sbeq x y = (x == y):=by
 cases h:sbeq x y with
 | true=>rw [of_sbeq h];exact (beq_self_eq_true y).symm
 | false=>exact (beq_eq_false_iff_ne.mpr fun e=>by rw [e,sbeq_self] at h;cases h).symm
theorem sbeq_false {x y:Str} (h:sbeq x y = false):x ≠ y:=fun e=>by rw [e,sbeq_self] at h;cases h
noncomputable def lk {α:Type} (x:Str):List (Str × α) → Option α
 | []=>none
 | p :: r=>match sbeq x p.1 with | true=>some p.2 | false=>lk x r
noncomputable def put {α:Type} (x:Str) (v:α):List (Str × α) → List (Str × α)
 | []=>[(x,v)]
 | p :: r=>match sbeq x p.1 with | true=>(p.1,v) :: r | false=>p :: put x v r
theorem lk_cons {α:Type} (x:Str) (p:Str × α) (r:List (Str × α)):lk x (p :: r) = bif sbeq x p.1 then some p.2 else lk x r:=by
 show (match sbeq x p.1 with | true=>some p.2 | false=>lk x r) = _
 cases sbeq x p.1 <;> rfl
theorem put_cons {α:Type} (x:Str) (v:α) (p:Str × α) (r:List (Str × α)):put x v (p :: r) = bif sbeq x p.1 then (p.1,v) :: r else p :: put x v r:=by
 show (match sbeq x p.1 with | true=>(p.1,v) :: r | false=>p :: put x v r) = _
 cases sbeq x p.1 <;> rfl
theorem lk_lookup {α:Type} (x:Str) (l:List (Str × α)):lk x l = l.lookup x:=by
 induction l with
 | nil=>rfl
 | cons p r ih=>rw [lk_cons,List.lookup_cons,sbeq_eq,ih];cases x == p.1 <;> rfl
theorem lk_put {α:Type} (x y:Str) (v:α) (l:List (Str × α)):lk y (put x v l) = bif sbeq y x then some v else lk y l:=by
 induction l with
 | nil=>exact lk_cons ..
 | cons p r ih =>
  rw [put_cons]
  cases h:sbeq x p.1 with
  | true =>
   rw [of_sbeq h,cond_true,lk_cons,lk_cons]
   cases sbeq y p.1 <;> rfl
  | false =>
   rw [cond_false,lk_cons,lk_cons,ih]
   cases q:sbeq y p.1 with
   | true =>
    have:sbeq y x = false:=by
     cases q':sbeq y x with
     | false=>rfl
     | true=>rw [← of_sbeq q',q] at h;cases h
    rw [this];rfl
   | false=>rfl
inductive MO where
 | list (xs:List SV)
 | dict (kvs:List (Str × SV))
 | inst (c:Addr) (kvs:List (Str × SV))
 | acc (t:Str) (n:Nat)
noncomputable abbrev Hp:=List (Nat × Option Addr × MO)
noncomputable abbrev Loc:=List (Str × SV)
noncomputable def joined:List Str → Str
 | []=>Str.empty
 | x :: r=>x ++ joined r
inductive MR (p:PP) (R:Lg):Addr → MO → Lg → Prop
 | list (a:Addr) (xs:List SV) (vs:List Value) (n:Nat):VRs p R xs vs → MR p R a (.list xs) [(a,W.listOf vs.toArray n)]
 | dict (a:Addr) (kvs:List (Str × SV)) (es:List DictEntry) (n:Nat):DR p R kvs es → (kvs.map (·.1)).Nodup → (a == sysModules) = false → MR p R a (.dict kvs) [(a,dictOf es n)]
 | inst (a d c:Addr) (kvs:List (Str × SV)) (es:List DictEntry) (n:Nat):DR p R kvs es → MR p R a (.inst c kvs) [(a,instObj c d),(d,dictOf es n)]
 | acc (a:Addr) (t:Str) (k:Nat) (vs:List Value) (ys:List Str) (n:Nat):StrsAre vs ys → joined ys = t → ys.length ≤ k → MR p R a (.acc t k) [(a,W.listOf vs.toArray n)]
inductive HR (p:PP) (R:Lg):Hp → Lg → Prop
 | nil:HR p R [] []
 | cons {l:Nat} {a:Option Addr} {o:MO} {H:Hp} {n1 n2:Lg}:MR p R (adr p l a) o n1 → HR p R H n2 → HR p R ((l,a,o) :: H) (n1 ++ n2)
section
variable {p:PP} {R R':Lg}
theorem MR.mono (h:Sub R R') {a:Addr} {o:MO} {n1:Lg} (x:MR p R a o n1):MR p R' a o n1:=by
 cases x with
 | list xs vs n r=>exact .list _ _ _ _ (r.mono h)
 | dict kvs es n r d e=>exact .dict _ _ _ _ (r.mono h) d e
 | inst d c kvs es n r=>exact .inst _ _ _ _ _ _ (r.mono h)
 | acc t k vs ys n r e l=>exact .acc _ _ _ _ _ _ r e l
theorem HR.mono (h:Sub R R') {H:Hp} {N:Lg} (x:HR p R H N):HR p R' H N:=by
 induction x with
 | nil=>exact .nil
 | cons a _ ih=>exact .cons (a.mono h) ih
end
noncomputable def fnd (l:Nat):Hp → Option (Option Addr × MO)
 | []=>none
 | p :: H=>match Nat.beq l p.1 with | true=>some p.2 | false=>fnd l H
noncomputable def setH (l:Nat) (o:MO):Hp → Hp
 | []=>[]
 | p :: H=>match Nat.beq l p.1 with | true=>(p.1,p.2.1,o) :: H | false=>p :: setH l o H
noncomputable def delH (l:Nat):Hp → Hp
 | []=>[]
 | p :: H=>match Nat.beq l p.1 with | true=>H | false=>p :: delH l H
structure Led (p:PP) (H:Hp) (N R F:Lg):Prop where
 hr:HR p R H N
 nd:(N.map (·.1)).Nodup
 ap:∀ q ∈ N,∀ r ∈ R ++ F,q.1 ≠ r.1
 af:∀ q ∈ R,∀ r ∈ F,q.1 ≠ r.1
noncomputable def LR (p:PP) (R:Lg) (loc:Loc) (m:Str → Option Value):Prop:=∀ x sv,lk x loc = some sv → ∃ v,m x = some v ∧ VR p R sv v
theorem LR.mono {p:PP} {R R':Lg} {loc:Loc} {m:Str → Option Value} (h:Sub R R') (x:LR p R loc m):LR p R' loc m :=
 fun y sv e=>let ⟨v,a,b⟩:=x y sv e;⟨v,a,b.mono h⟩
theorem LR.put {p:PP} {R:Lg} {loc:Loc} {m:Str → Option Value} {x:Str} {sv:SV} {v:Value} (h:LR p R loc m) (hv:VR p R sv v):LR p R (Yv.put x sv loc) (fun y=>if y = x then some v else m y):=by
 intro y s e
 rw [lk_put] at e
 cases q:sbeq y x with
 | true =>
  rw [q] at e;cases e
  exact ⟨v,if_pos (of_sbeq q),hv⟩
 | false =>
  rw [q] at e
  obtain ⟨u,h1,h2⟩:=h y s e
  exact ⟨u,(if_neg (sbeq_false q)).trans h1,h2⟩
noncomputable abbrev QV:=SV → Hp → Prop
noncomputable abbrev XC:=Hp → Prop
noncomputable abbrev QB:=Bool → Hp → Prop
noncomputable abbrev Sm:=List SV → Hp → QV → XC → Prop
noncomputable abbrev WE:=Expr → Loc → Hp → QV → XC → Prop
noncomputable abbrev WB:=Expr → Loc → Hp → QB → XC → Prop
inductive AK where
 | plain
 | meth (f:Addr)
 | const (v:SV)
inductive BF where
 | len | isinstance | ord | str | all
inductive BM where
 | append | pop | copy | startswith | join | encode
inductive Gh where
 | frz (x:Str)
 | acc (l:Nat)
 | trim (xs:List Str) (ls:List Nat)
structure Tab where
 glob:List (Str × SV)
 bfn:List (Str × BF)
 attr:List (Addr × List (Str × AK))
 fns:List (Addr × Nat × List Str × Sm)
 kept:List (Addr × Bool)
 isa:List (Addr × List (Addr × Bool))
 klist:List (Addr × List SV)
 kdict:List (Addr × List (Str × SV))
 exc:Addr
 frz:List (Nat × Gh)
 fmt:Str → SV → Option Str
 fmtAny:Str → SV → Bool
 comp:Expr → Scope → Loc → Hp → QV → XC → Prop
 wh:Nat
 cells:List (Str × SV):=[]
noncomputable def brn (c:Bool) (a b:Prop):Prop:=match c with | true=>a | false=>b
theorem brn.tt {c:Bool} {a b:Prop} (h:brn c a b) (e:c = true):a:=by subst e;exact h
theorem brn.ff {c:Bool} {a b:Prop} (h:brn c a b) (e:c = false):b:=by subst e;exact h
noncomputable def iff_ (c:Bool) (k:Prop):Prop:=match c with | true=>k | false=>False
noncomputable def opt {α:Type} (o:Option α) (k:α → Prop):Prop:=match o with | some x=>k x | none=>False
theorem of_iff {c:Bool} {k:Prop} (h:iff_ c k):c = true ∧ k:=by cases c with | true=>exact ⟨rfl,h⟩ | false=>exact h.elim
theorem of_opt {α:Type} {o:Option α} {k:α → Prop} (h:opt o k):∃ x,o = some x ∧ k x:=by cases o with | some x=>exact ⟨x,rfl,h⟩ | none=>exact h.elim
noncomputable def bnd (m n:Nat) (k:Prop):Prop:=match Nat.ble n 1000 with | true=>k | false=>n ≤ m ∧ k
theorem of_bnd {m n:Nat} {k:Prop} (h:bnd m n k) (hm:1000 ≤ m):n ≤ m ∧ k:=by
 unfold bnd at h
 cases e:Nat.ble n 1000 with
 | true=>rw [e] at h;exact ⟨Nl (Nb e) hm,h⟩
 | false=>rw [e] at h;exact h
theorem bnd_of {m n:Nat} {k:Prop} (h:n ≤ m) (hk:k):bnd m n k:=by
 unfold bnd
 cases Nat.ble n 1000 with
 | true=>exact hk
 | false=>exact ⟨h,hk⟩
noncomputable abbrev bnz (n:Nat) (k:Prop):Prop:=bnd sizeLine n k
theorem of_bnz {n:Nat} {k:Prop} (h:bnz n k):n ≤ sizeLine ∧ k:=of_bnd h (by decide)
noncomputable def lkN {α:Type} (n:Nat):List (Nat × α) → Option α
 | []=>none
 | p :: r=>match Nat.beq n p.1 with | true=>some p.2 | false=>lkN n r
noncomputable def nil? {α:Type}:List α → Bool
 | []=>true
 | _ :: _=>false
noncomputable def lenL {α:Type}:List α → Nat
 | []=>0
 | _ :: r=>Nat.succ (lenL r)
noncomputable def seqsEq:List Str → List Str → Bool
 | [],[]=>true
 | a :: r,b :: q=>match sbeq a b with | true=>seqsEq r q | false=>false
 | _,_=>false
noncomputable def fnS (f:Addr) (n:Nat) (ks:List Str):List (Addr × Nat × List Str × Sm) → Option Sm
 | []=>none
 | p :: r=>match and (and (Nat.beq f p.1) (Nat.beq n p.2.1)) (seqsEq ks p.2.2.1) with
  | true=>some p.2.2.2
  | false=>fnS f n ks r
noncomputable def atK (T:Tab) (c:Addr) (x:Str):Option AK:=(lkN c T.attr).bind (lk x)
inductive Vw where
 | non | oth
 | boo (b:Bool)
 | int (i:Int)
 | str (s:Str)
 | byt (bs:List Nat)
 | tup (xs:List SV)
 | lst (xs:List SV)
 | dct (kvs:List (Str × SV))
 | ins (c:Addr) (kvs:List (Str × SV))
 | acc (t:Str) (n:Nat)
noncomputable def mvw:MO → Vw
 | .list xs=>.lst xs
 | .dict kvs=>.dct kvs
 | .inst c kvs=>.ins c kvs
 | .acc t n=>.acc t n
noncomputable def sameA (a b:Option Addr) (k:Prop):Prop:=match a with
 | none=>(match b with | none=>k | some _=>False)
 | some x=>(match b with | none=>False | some y=>x = y ∧ k)
noncomputable def own (v:SV) (H:Hp) (k:Nat → MO → Prop):Prop:=match v with
 | .obj l a=>opt (fnd l H) fun p=>sameA p.1 a (k l p.2)
 | _=>False
noncomputable def look (v:SV) (H:Hp) (k:Vw → Prop):Prop:=match v with
 | .none=>k .non
 | .bool b=>k (.boo b)
 | .int i=>k (.int i)
 | .str s=>k (.str s)
 | .byt bs=>k (.byt bs)
 | .fix _=>k .oth
 | .obj l a=>opt (fnd l H) fun p=>sameA p.1 a (k (mvw p.2))
 | .tup xs=>k (.tup xs)
 | .lst xs=>k (.lst xs)
 | .dct kvs=>k (.dct kvs)
 | .meth _ _=>k .oth
 | .inst c kvs=>k (.ins c kvs)
noncomputable def asI (v:SV) (k:Int → Prop):Prop:=match v with | .int i=>k i | _=>False
noncomputable def asS (v:SV) (k:Str → Prop):Prop:=match v with | .str i=>k i | _=>False
noncomputable def asB (v:SV) (k:Bool → Prop):Prop:=match v with | .bool i=>k i | _=>False
noncomputable def isI:SV → Bool | .int _=>true | _=>false
noncomputable def isS:SV → Bool | .str _=>true | _=>false
noncomputable def isNo:SV → Bool | .none=>true | _=>false
noncomputable def truW (w:Vw) (k:Bool → Prop):Prop:=match w with
 | .non=>k false
 | .boo b=>k b
 | .int i=>k (i != 0)
 | .str s=>bnz s.length (k (!(nil? s.cps.toList)))
 | .tup xs=>bnz xs.length (k (!(nil? xs)))
 | .lst xs=>bnz xs.length (k (!(nil? xs)))
 | .dct kvs=>bnz kvs.length (k (!(nil? kvs)))
 | _=>False
noncomputable def tru (v:SV) (H:Hp) (k:Bool → Prop):Prop:=look v H fun w=>truW w k
noncomputable def insW (w:Vw) (k:Addr → List (Str × SV) → Prop):Prop:=match w with | .ins c kvs=>k c kvs | _=>False
noncomputable def getK (o:Option AK) (v:SV) (u:Option SV) (k:SV → Prop):Prop:=opt o fun a=>match a with
 | .plain=>opt u k
 | .meth f=>(match u with | none=>k (.meth f v) | some _=>False)
 | .const c=>(match u with | none=>k c | some _=>False)
noncomputable def getA (T:Tab) (v:SV) (x:Str) (H:Hp) (k:SV → Prop):Prop:=look v H fun w=>insW w fun c kvs=>getK (atK T c x) v (lk x kvs) k
noncomputable def plainK (o:Option AK) (k:Prop):Prop:=opt o fun a=>match a with | .plain=>k | _=>False
noncomputable def instM (o:MO) (k:Addr → List (Str × SV) → Prop):Prop:=match o with | .inst c kvs=>k c kvs | _=>False
noncomputable def setA (T:Tab) (v:SV) (x:Str) (u:SV) (H:Hp) (k:Hp → Prop):Prop :=
 own v H fun l o=>instM o fun c kvs=>plainK (atK T c x) (iff_ (Nat.ble (lenL (put x u kvs)) 1000) (k (setH l (.inst c (put x u kvs)) H)))
noncomputable def binV (T:Tab) (op:Operator) (a b:SV) (H:Hp) (Q:QV):Prop:=match op with
 | .Add=>(match isI a with
  | true=>asI a fun i=>asI b fun j=>Q (.int (i + j)) H
  | false=>asS a fun s=>asS b fun t=>bnz (s.length + t.length) (Q (.str (s ++ t)) H))
 | .Sub=>asI a fun i=>asI b fun j=>Q (.int (i - j)) H
 | .Mult=>asI b fun j=>(match isI a with
  | true=>asI a fun i=>IntMulOk i j ∧ Q (.int (i * j)) H
  | false=>asS a fun s=>MulOk s j ∧ Q (.str (Txt.mul s j)) H)
 | .Mod=>(match isI a with
  | true=>asI a fun i=>asI b fun j=>iff_ (j != 0) (Q (.int (i.fmod j)) H)
  | false=>asS a fun s=>(match T.fmt s b with
   | some r=>bnd 100000 r.length (Q (.str r) H)
   | none=>iff_ (T.fmtAny s b) (∀ r,Q (.str r) H)))
 | .FloorDiv=>asI a fun i=>asI b fun j=>iff_ (j != 0) (Builtin.divisionGoesByPylong i j = false ∧ Q (.int (i.fdiv j)) H)
 | _=>False
noncomputable def strsOf:List SV → Option (List Str)
 | []=>some []
 | v :: r=>match v with
  | .str s=>(match strsOf r with | some l=>some (s :: l) | none=>none)
  | _=>none
noncomputable def hasStr (x:Str):List Str → Bool
 | []=>false
 | y :: r=>match sbeq y x with | true=>true | false=>hasStr x r
noncomputable def isSome? {α:Type}:Option α → Bool
 | some _=>true
 | none=>false
noncomputable def inW (s:Str) (w:Vw) (k:Bool → Prop):Prop:=match w with
 | .str t=>k (!(Builtin.Str.occurrences t s 0 t.length 1).isEmpty)
 | .tup xs=>opt (strsOf xs) fun l=>k (hasStr s l)
 | .lst xs=>opt (strsOf xs) fun l=>k (hasStr s l)
 | .dct kvs=>k (isSome? (lk s kvs))
 | _=>False
noncomputable def noIn (w:Vw) (k:Bool → Prop):Prop:=match w with | .lst xs=>opt (strsOf xs) fun _=>k false | _=>False
noncomputable def eqV (a b:SV) (k:Bool → Prop):Prop:=match a with
 | .int i=>asI b fun j=>k (i == j)
 | .str s=>(match isNo b with | true=>k false | false=>asS b fun t=>k (sbeq s t))
 | .none=>asS b fun _=>k false
 | .bool c=>asB b fun d=>k (c == d)
 | _=>False
noncomputable def cmpV (op:CmpOp) (a b:SV) (H:Hp) (k:Bool → Prop):Prop:=match op with
 | .Is=>iff_ (isNo b) (k (isNo a))
 | .IsNot=>iff_ (isNo b) (k (!(isNo a)))
 | .Eq=>eqV a b k
 | .NotEq=>eqV a b fun c=>k (!c)
 | .Lt=>(match isI a with
  | true=>asI a fun i=>asI b fun j=>k (decide (i < j))
  | false=>asS a fun s=>asS b fun t=>k (decide (s.cps.toList < t.cps.toList)))
 | .LtE=>(match isI a with
  | true=>asI a fun i=>asI b fun j=>k (decide (i ≤ j))
  | false=>asS a fun s=>asS b fun t=>k (!(decide (t.cps.toList < s.cps.toList))))
 | .Gt=>asI a fun i=>asI b fun j=>k (decide (j < i))
 | .GtE=>asI a fun i=>asI b fun j=>k (decide (j ≤ i))
 | .In=>(match isNo a with
  | true=>look b H fun w=>noIn w k
  | false=>asS a fun s=>look b H fun w=>inW s w k)
 | .NotIn=>asS a fun s=>look b H fun w=>inW s w fun c=>k (!c)
noncomputable def nthL {α:Type}:Nat → List α → Option α
 | 0,l=>(match l with | []=>none | x :: _=>some x)
 | n + 1,l=>(match l with | []=>none | _ :: r=>nthL n r)
noncomputable def seqG {α:Type} (xs:List α) (j:Int):Option α:=match j with
 | .ofNat n=>nthL n xs
 | .negSucc n=>nthL n xs.reverse
noncomputable def fixL (T:Tab) (v:SV):Option (List SV):=match v with | .fix a=>lkN a T.klist | _=>none
noncomputable def subW (w:Vw) (i:SV) (k:SV → Prop):Prop:=match w with
 | .str s=>asI i fun j=>iff_ (and (decide (-(s.length:Int) ≤ j)) (decide (j < (s.length:Int)))) (bnz s.length (k (.str (Txt.item s j))))
 | .tup xs=>asI i fun j=>bnz xs.length (opt (seqG xs j) k)
 | .lst xs=>asI i fun j=>bnz xs.length (opt (seqG xs j) k)
 | .dct kvs=>asS i fun s=>opt (lk s kvs) k
 | _=>False
noncomputable def subV (T:Tab) (v i:SV) (H:Hp) (k:SV → Prop):Prop:=match fixL T v with
 | some xs=>asI i fun j=>bnz xs.length (opt (seqG xs j) k)
 | none=>look v H fun w=>subW w i k
noncomputable def asO (v:SV) (k:Option Int → Prop):Prop:=match v with | .none=>k none | .int i=>k (some i) | _=>False
noncomputable def isOne:SV → Bool | .int i=>(match i with | .ofNat n=>Nat.beq n 1 | _=>false) | _=>false
noncomputable def slcW (w:Vw) (l u:SV) (k:SV → Prop):Prop:=match w with
 | .str s=>asO l fun l'=>asO u fun u'=>bnz s.length (k (.str (Txt.slice s l' u')))
 | .lst xs=>iff_ (and (isOne l) (isNo u)) (bnz xs.length (k (.lst xs.tail)))
 | _=>False
noncomputable def dictM (o:MO) (k:List (Str × SV) → Prop):Prop:=match o with | .dict kvs=>k kvs | _=>False
noncomputable def setI (v i u:SV) (H:Hp) (k:Hp → Prop):Prop :=
 own v H fun l o=>dictM o fun kvs=>asS i fun s=>iff_ (Nat.ble (lenL (put s u kvs)) 1000) (k (setH l (.dict (put s u kvs)) H))
noncomputable def fnV (T:Tab) (f:Addr) (xs:List SV) (us:List (Str × SV)) (H:Hp) (Q:QV) (X:XC):Prop :=
 opt (fnS f (lenL xs) (us.map (·.1)) T.fns) fun S=>S (xs ++ us.map (·.2)) H Q X
inductive Cal where
 | fn (f:Addr) (first:List SV)
 | val (v:SV)
 | bm (b:BM) (self:SV)
noncomputable def calF (v:SV) (k:Addr → List SV → Prop):Prop:=match v with
 | .fix f=>k f []
 | .meth f self=>k f [self]
 | _=>False
noncomputable def isa1 (T:Tab) (c:Addr) (v:SV):Option Bool:=match v with | .fix d=>(lkN c T.isa).bind (lkN d) | _=>none
noncomputable def isaL (T:Tab) (c:Addr):List SV → Option Bool
 | []=>some false
 | x :: r=>(isa1 T c x).bind fun b=>(isaL T c r).bind fun bs=>some (b || bs)
noncomputable def isaV (T:Tab) (c:Addr) (v:SV):Option Bool:=match v with | .tup ds=>(match ds with | []=>none | _ :: _=>isaL T c ds) | _=>isa1 T c v
noncomputable def lenW (w:Vw) (k:Int → Prop):Prop:=match w with
 | .str s=>bnz s.length (k s.length)
 | .lst xs=>bnz xs.length (k (lenL xs))
 | .dct kvs=>bnz kvs.length (k (lenL kvs))
 | _=>False
noncomputable def boolsOf:List SV → Option Bool
 | []=>some true
 | v :: r=>match v with
  | .bool b=>(match boolsOf r with | some l=>some (b && l) | none=>none)
  | _=>none
noncomputable def lstW (w:Vw) (k:List SV → Prop):Prop:=match w with | .lst xs=>k xs | _=>False
noncomputable def one1 (vs:List SV) (k:SV → Prop):Prop:=match vs with | []=>False | v :: r=>(match r with | []=>k v | _ :: _=>False)
noncomputable def two2 (vs:List SV) (k:SV → SV → Prop):Prop:=match vs with | []=>False | v :: r=>one1 r (k v)
noncomputable def bifV (T:Tab) (b:BF) (vs:List SV) (H:Hp) (Q:QV):Prop:=match b with
 | .len=>one1 vs fun v=>look v H fun w=>lenW w fun n=>Q (.int n) H
 | .isinstance=>two2 vs fun v d=>look v H fun w=>insW w fun c _=>opt (isaV T c d) fun r=>Q (.bool r) H
 | .ord=>one1 vs fun v=>asS v fun s=>(match s.cps.toList with | []=>False | c :: r=>iff_ (nil? r) (Q (.int (c:Int)) H))
 | .str=>one1 vs fun v=>asI v fun i=>iff_ (Nat.blt i.natAbs.log2 1920) (Q (.str (Str.ofString (toString i))) H)
 | .all=>one1 vs fun v=>look v H fun w=>lstW w fun xs=>opt (boolsOf xs) fun b=>bnz xs.length (Q (.bool b) H)
noncomputable def bmOf (x:Str) (l:List (Str × BM)) (k:BM → Prop):Prop:=opt (lk x l) k
noncomputable def strM:List (Str × BM):=[("startswith",.startswith),("join",.join),("encode",.encode)]
noncomputable def lstM:List (Str × BM):=[("append",.append),("pop",.pop)]
noncomputable def accM:List (Str × BM):=[("append",.append)]
noncomputable def dctM:List (Str × BM):=[("copy",.copy)]
noncomputable def resK (o:Option AK) (v:SV) (u:Option SV) (k:Cal → Prop):Prop:=opt o fun a=>match a with
 | .plain=>opt u fun w=>k (.val w)
 | .meth f=>(match u with | none=>k (.fn f [v]) | some _=>False)
 | .const _=>False
noncomputable def fixD (T:Tab) (v:SV):Option (List (Str × SV)):=match v with | .fix a=>lkN a T.kdict | _=>none
noncomputable def resW (T:Tab) (v:SV) (m:Str) (w:Vw) (k:Cal → Prop):Prop:=match w with
 | .str _=>bmOf m strM fun b=>k (.bm b v)
 | .lst _=>bmOf m lstM fun b=>k (.bm b v)
 | .acc _ _=>bmOf m accM fun b=>k (.bm b v)
 | .ins c kvs=>resK (atK T c m) v (lk m kvs) k
 | _=>False
noncomputable def resM (T:Tab) (v:SV) (m:Str) (H:Hp) (k:Cal → Prop):Prop:=match fixD T v with
 | some _=>bmOf m dctM fun b=>k (.bm b v)
 | none=>look v H fun w=>resW T v m w k
noncomputable def unsnoc {α:Type}:List α → Option (List α × α)
 | []=>none
 | x :: r=>match unsnoc r with | some p=>some (x :: p.1,p.2) | none=>some ([],x)
noncomputable def appM (o:MO) (x:SV) (k:MO → Prop):Prop:=match o with
 | .list xs=>bnz xs.length (k (.list (xs ++ [x])))
 | .acc t n=>asS x fun s=>n ≤ 1000000 ∧ k (.acc (t ++ s) (n + 1))
 | _=>False
noncomputable def listM (o:MO) (k:List SV → Prop):Prop:=match o with | .list xs=>k xs | _=>False
noncomputable def popM (o:MO) (k:MO → SV → Prop):Prop:=listM o fun xs=>bnz xs.length (opt (unsnoc xs) fun p=>k (.list p.1) p.2)
noncomputable def pop0M (o:MO) (k:MO → SV → Prop):Prop:=listM o fun xs=>bnz xs.length (match xs with | []=>False | y :: r=>k (.list r) y)
noncomputable def isZ:SV → Bool | .int i=>(match i with | .ofNat n=>Nat.beq n 0 | _=>false) | _=>false
noncomputable def joinW (s:Str) (w:Vw) (k:Str → Prop):Prop:=match w with
 | .lst xs=>opt (strsOf xs) fun l=>iff_ (Nat.ble s.length 64) (bnz ((l.map (·.length)).sum + l.length * 64) (k (Txt.join s l)))
 | .acc t _=>iff_ (nil? s.cps.toList) (bnz t.length (k t))
 | _=>False
noncomputable def encTab:List (Nat × List Nat):=[(32,[32]),(233,[195,169]),(37,[37]),(8364,[226,130,172]),(123,[123]),(128512,[240,159,152,128]),(60,[60]),(35,[35]),(92,[92]),(10,[10]),(133,[194,133]),(94,[94]),(34,[34]),(33,[33])]
noncomputable def bmV (T:Tab) (b:BM) (v:SV) (vs:List SV) (lbl:Nat) (H:Hp) (Q:QV):Prop:=match b with
 | .append=>one1 vs fun x=>own v H fun l o=>appM o x fun o'=>Q .none (setH l o' H)
 | .pop=>(match vs with
  | []=>own v H fun l o=>popM o fun o' y=>Q y (setH l o' H)
  | i :: r=>iff_ (and (isZ i) (nil? r)) (own v H fun l o=>pop0M o fun o' y=>Q y (setH l o' H)))
 | .copy=>iff_ (nil? vs) (opt (fixD T v) fun kvs=>∀ a,Q (.obj lbl (some a)) ((lbl,some a,.dict kvs) :: delH lbl H))
 | .startswith=>asS v fun s=>one1 vs fun x=>asS x fun t=>Q (.bool (Txt.startswith s t)) H
 | .encode=>asS v fun s=>one1 vs fun x=>asS x fun e=>iff_ (sbeq e "utf-8") (match s.cps.toList with
  | []=>False
  | c :: r=>iff_ (nil? r) (opt (lkN c encTab) fun bs=>Q (.byt bs) H))
 | .join=>asS v fun s=>one1 vs fun x=>look x H fun w=>joinW s w fun r=>Q (.str r) H
noncomputable def keepV (T:Tab) (v:SV):Bool:=match v with
 | .fix f=>(match lkN f T.kept with | some _=>true | none=>false)
 | .meth f _=>(match lkN f T.kept with | some b=>b | none=>false)
 | _=>false
noncomputable def calOK (T:Tab) (c:Cal):Bool:=match c with
 | .val v=>keepV T v
 | _=>true
noncomputable def calV (T:Tab) (c:Cal) (vs:List SV) (us:List (Str × SV)) (lbl:Nat) (H:Hp) (Q:QV) (X:XC):Prop:=match c with
 | .fn f first=>fnV T f (first ++ vs) us H Q X
 | .val v=>calF v fun f first=>fnV T f (first ++ vs) us H Q X
 | .bm b self=>iff_ (nil? us) (bmV T b self vs lbl H Q)
inductive Fl where
 | next
 | ret (v:SV)
noncomputable abbrev QS:=Fl → Loc → Hp → Prop
noncomputable abbrev WS:=Stmt → Loc → Hp → QS → XC → Prop
noncomputable abbrev WL:=List Stmt → Loc → Hp → QS → XC → Prop
structure Rec where
 k:Nat
 E:WE
 B:WB
 S:WS
noncomputable def nst (e:Expr):Bool:=match e with | .Starred ..=>false | _=>true
noncomputable def isCall (e:Expr):Bool:=match e with | .Call ..=>true | _=>false
noncomputable def plainSl (e:Expr):Bool:=match e with | .Slice ..=>false | _=>true
noncomputable def noComp (e:Expr):Bool:=match e with
 | .ListComp ..=>false
 | .SetComp ..=>false
 | .DictComp ..=>false
 | .Set ..=>false
 | _=>true
noncomputable def augOK:Operator → Bool
 | .Add=>true
 | .Sub=>true
 | _=>false
noncomputable def allNst:List Expr → Bool
 | []=>true
 | e :: r=>and (nst e) (allNst r)
noncomputable def named:List Keyword → Bool
 | []=>true
 | k :: r=>match k.1 with | some _=>named r | none=>false
noncomputable def aOk (as:List Expr) (ks:List Keyword):Bool:=and (allNst as) (named ks)
noncomputable def mOk (p q:Pos) (as:List Expr) (ks:List Keyword):Bool:=and (Nat.beq p.endLine q.line) (and (Nat.ble (lenL as + lenL ks) 20) (aOk as ks))
noncomputable def argL (E:WE):List Expr → Loc → Hp → (List SV → Hp → Prop) → XC → Prop
 | [],_,H,Q,_=>Q [] H
 | e :: es,loc,H,Q,X=>E e loc H (fun v H=>argL E es loc H (fun vs H=>Q (v :: vs) H) X) X
noncomputable def kwL (E:WE):List Keyword → Loc → Hp → (List (Str × SV) → Hp → Prop) → XC → Prop
 | [],_,H,Q,_=>Q [] H
 | k :: es,loc,H,Q,X=>opt k.1 fun x=>E k.2 loc H (fun v H=>kwL E es loc H (fun vs H=>Q ((x,v) :: vs) H) X) X
noncomputable def goOn (op:BoolOp) (c:Bool):Bool:=match op with | .And=>c | .Or=>!c
noncomputable def boolL (E:WE) (op:BoolOp) (e:Expr):List Expr → Loc → Hp → QV → XC → Prop
 | [],loc,H,Q,X=>E e loc H Q X
 | e2 :: es,loc,H,Q,X=>E e loc H (fun v H=>tru v H fun c=>brn (goOn op c) (boolL E op e2 es loc H Q X) (Q v H)) X
noncomputable def testL (B:WB) (op:BoolOp):List Expr → Loc → Hp → QB → XC → Prop
 | [],_,H,Q,_=>Q (goOn op true) H
 | e :: es,loc,H,Q,X=>B e loc H (fun c H=>brn (goOn op c) (testL B op es loc H Q X) (Q c H)) X
noncomputable def cmpE (E:WE) (l:Expr) (ops:List CmpOp) (xs:List Expr) (loc:Loc) (H:Hp) (K:QB) (X:XC):Prop:=match ops with
 | []=>False
 | op :: ops=>(match xs with
  | []=>False
  | x :: xs=>(match ops with
   | []=>iff_ (and (nil? xs) (!(behindInMarks op x))) (E l loc H (fun a H=>E x loc H (fun b H=>cmpV op a b H fun c=>K c H) X) X)
   | o2 :: ops=>(match xs with
    | []=>False
    | y :: xs=>iff_ (and (nil? ops) (and (nil? xs) (!(behindInMarks o2 y)))) (E l loc H (fun a H=>E x loc H (fun b H=>cmpV op a b H fun c =>
      brn c (E y loc H (fun d H=>cmpV o2 b d H fun c=>K c H) X) (K false H)) X) X))))
noncomputable def insS (s:Str):List Str → List Str
 | []=>[s]
 | t :: r=>match decide (t.cps.toList < s.cps.toList) with | true=>t :: insS s r | false=>s :: t :: r
noncomputable def sortS:List Str → List Str
 | []=>[]
 | s :: r=>insS s (sortS r)
noncomputable def dctW (w:Vw) (k:List (Str × SV) → Prop):Prop:=match w with | .dct kvs=>k kvs | _=>False
noncomputable def lblOf (p:Pos):Nat:=p.line * 1000 + p.col
noncomputable def glN (sc:Scope) (x:Str):Bool:=match lk x sc.names with
 | some k=>(match k with | .globalImplicit=>true | _=>false)
 | none=>false
noncomputable def loN (sc:Scope) (x:Str):Bool:=match lk x sc.names with
 | some k=>(match k with | .local=>true | _=>false)
 | none=>false
noncomputable def ceN (sc:Scope) (x:Str):Bool:=match lk x sc.names with
 | some k=>(match k with | .cell=>true | _=>false)
 | none=>false
noncomputable def nmV (T:Tab) (sc:Scope) (x:Str) (loc:Loc) (k:SV → Prop):Prop:=match loN sc x with
 | true=>opt (lk x loc) k
 | false=>(match ceN sc x with
  | true=>opt (lk x T.cells) k
  | false=>iff_ (glN sc x) (opt (lk x T.glob) k))
noncomputable def partE (E:WE) (o:Option Expr) (loc:Loc) (H:Hp) (Q:QV) (X:XC):Prop:=match o with
 | some l=>E l loc H Q X
 | none=>Q .none H
noncomputable def keysOf (e:Expr):Option Expr:=match e with
 | .Call f as ks p=>(match f with
  | .Attribute d m ap=>(match and (and (sbeq m "keys") (and (nil? as) (nil? ks))) (and (mOk ap p as ks) (!(isCall d))) with | true=>some d | false=>none)
  | _=>none)
 | _=>none
noncomputable def callE (T:Tab) (sc:Scope) (r:Rec) (f:Expr) (as:List Expr) (ks:List Keyword) (p:Pos) (loc:Loc) (H:Hp) (Q:QV) (X:XC):Prop:=match f with
 | .Attribute o m ap=>iff_ (and (mOk ap p as ks) (!(isCall o))) (r.E o loc H (fun v H=>resM T v m H fun c=>iff_ (calOK T c) (argL r.E as loc H (fun vs H=>kwL r.E ks loc H (fun us H=>calV T c vs us (lblOf p) H Q X) X) X)) X)
 | .Name x _=>iff_ (aOk as ks) (match and (sbeq x "sorted") (glN sc x) with
  | true=>(match as with
   | []=>False
   | e :: es=>iff_ (and (nil? es) (nil? ks)) (opt (keysOf e) fun d=>r.E d loc H (fun v H=>look v H fun w=>dctW w fun kvs=>iff_ (Nat.ble kvs.length 60) (Q (.lst ((sortS (kvs.map (·.1))).map .str)) H)) X))
  | false=>(match and (glN sc x) (isSome? (lk x T.bfn)) with
   | true=>opt (lk x T.bfn) fun b=>iff_ (nil? ks) (argL r.E as loc H (fun vs H=>bifV T b vs H Q) X)
   | false=>nmV T sc x loc fun v=>iff_ (keepV T v) (argL r.E as loc H (fun vs H=>kwL r.E ks loc H (fun us H=>calF v fun g first=>fnV T g (first ++ vs) us H Q X) X) X)))
 | _=>False
noncomputable def cstV (c:Const) (k:SV → Prop):Prop:=match c with
 | .none=>k .none
 | .bool b=>k (.bool b)
 | .int i=>k (.int i)
 | .str s=>k (.str s)
 | _=>False
noncomputable def unV (op:UnaryOp) (v:SV) (H:Hp) (Q:QV):Prop:=match op with
 | .Not=>tru v H fun c=>Q (.bool !c) H
 | .USub=>asI v fun i=>Q (.int (-i)) H
 | _=>False
noncomputable def okS (x:Str):Bool:=and (Nat.ble x.length 100) (x.cps.toList.all fun c=>Nat.blt c 4294967296)
noncomputable def strC (e:Expr):Option Str:=match e with
 | .Constant c _ _=>(match c with | .str s=>some s | _=>none)
 | _=>none
noncomputable def fvOf (e:Expr):Option (Bool × Expr):=match e with
 | .FormattedValue v c s _=>(match s with
  | none=>(match c with
   | .ofNat n=>(match Nat.beq n 115 with | true=>some (false,v) | false=>(match Nat.beq n 114 with | true=>some (true,v) | false=>none))
   | .negSucc _=>none)
  | some _=>none)
 | _=>none
noncomputable def jbd (acc:Option Str) (n:Nat) (k:Prop):Prop:=match acc with | some a=>bnz a.length k | none=>iff_ (Nat.ble n 100000) k
noncomputable def jadd (acc:Option Str) (y:Str):Option Str:=match acc with | some a=>some (a ++ y) | none=>none
noncomputable def jstL (E:WE):List Expr → Loc → Hp → Option Str → Nat → QV → XC → Prop
 | [],_,H,acc,_,Q,_=>(match acc with | some a=>Q (.str a) H | none=>∀ r,Q (.str r) H)
 | e :: es,loc,H,acc,n,Q,X=>(match strC e with
  | some s=>jbd (jadd acc s) (n + s.length) (bnz s.length (jstL E es loc H (jadd acc s) (n + s.length) Q X))
  | none=>opt (fvOf e) fun p=>E p.2 loc H (fun v H=>asS v fun y=>(match p.1 with
   | false=>jbd (jadd acc y) (n + y.length) (bnz y.length (jstL E es loc H (jadd acc y) (n + y.length) Q X))
   | true=>iff_ (okS y) (jbd none (n + 1002) (jstL E es loc H none (n + 1002) Q X)))) X)
noncomputable def two? {α:Type}:List α → Bool
 | []=>false
 | _ :: r=>!(nil? r)
noncomputable def stE (T:Tab) (sc:Scope) (r:Rec) (e:Expr) (loc:Loc) (H:Hp) (Q:QV) (X:XC):Prop:=match e with
 | .Constant c _ _=>cstV c fun v=>Q v H
 | .Name x _=>nmV T sc x loc fun v=>Q v H
 | .Attribute o x _=>iff_ (!(isCall o)) (r.E o loc H (fun v H=>getA T v x H fun u=>Q u H) X)
 | .BinOp l op x _=>r.E l loc H (fun a H=>r.E x loc H (fun b H=>binV T op a b H Q) X) X
 | .UnaryOp op x _=>r.E x loc H (fun v H=>unV op v H Q) X
 | .BoolOp op es _=>(match es with | []=>False | e :: es=>boolL r.E op e es loc H Q X)
 | .IfExp t a b _=>r.B t loc H (fun c H=>brn c (r.E a loc H Q X) (r.E b loc H Q X)) X
 | .Compare l ops xs _=>cmpE r.E l ops xs loc H (fun c H=>Q (.bool c) H) X
 | .Tuple es _ _=>iff_ (allNst es) (argL r.E es loc H (fun vs H=>iff_ (Nat.ble (lenL vs) 1000) (Q (.tup vs) H)) X)
 | .List es _=>iff_ (allNst es) (argL r.E es loc H (fun vs H=>iff_ (Nat.ble (lenL vs) 1000) (Q (.lst vs) H)) X)
 | .Subscript v i _=>(match i with
  | .Slice l u s _=>iff_ (!(isSome? s)) (r.E v loc H (fun a H=>partE r.E l loc H (fun lv H=>partE r.E u loc H (fun uv H=>look a H fun w=>slcW w lv uv fun y=>Q y H) X) X) X)
  | _=>r.E v loc H (fun a H=>r.E i loc H (fun b H=>subV T a b H fun w=>Q w H) X) X)
 | .Call f as ks p=>callE T sc r f as ks p loc H Q X
 | .ListComp ..=>T.comp e sc loc H Q X
 | .JoinedStr vs _=>iff_ (two? vs) (jstL r.E vs loc H (some Str.empty) 0 Q X)
 | _=>False
noncomputable def stB (_T:Tab) (_sc:Scope) (r:Rec) (e:Expr) (loc:Loc) (H:Hp) (Q:QB) (X:XC):Prop:=match e with
 | .UnaryOp op x _=>(match op with
  | .Not=>r.B x loc H (fun c H=>Q (!c) H) X
  | _=>False)
 | .BoolOp op es _=>testL r.B op es loc H Q X
 | .IfExp t a b _=>r.B t loc H (fun c H=>brn c (r.B a loc H Q X) (r.B b loc H Q X)) X
 | .Compare l ops xs _=>cmpE r.E l ops xs loc H Q X
 | .Constant ..=>False
 | e=>r.E e loc H (fun v H=>tru v H fun c=>Q c H) X
noncomputable def asgN (sc:Scope):List Expr → List SV → Loc → Option Loc
 | [],vs,loc=>(match vs with | []=>some loc | _ :: _=>none)
 | e :: es,vs,loc=>(match vs with
  | []=>none
  | v :: vs=>(match e with
   | .Name x _=>(match loN sc x with | true=>asgN sc es vs (put x v loc) | false=>none)
   | _=>none))
noncomputable def asgT (T:Tab) (sc:Scope) (r:Rec) (t:Expr) (v:SV) (loc:Loc) (H:Hp) (k:Loc → Hp → Prop) (X:XC):Prop:=match t with
 | .Name x _=>iff_ (loN sc x) (k (put x v loc) H)
 | .Attribute o x _=>r.E o loc H (fun ov H=>setA T ov x v H fun H=>k loc H) X
 | .Subscript o i _=>iff_ (plainSl i) (r.E o loc H (fun ov H=>r.E i loc H (fun iv H=>setI ov iv v H fun H=>k loc H) X) X)
 | .Tuple ts _ _=>(match v with
  | .tup xs=>opt (asgN sc ts xs loc) fun loc=>k loc H
  | _=>False)
 | _=>False
noncomputable def asgL (T:Tab) (sc:Scope) (r:Rec):List Expr → SV → Loc → Hp → (Loc → Hp → Prop) → XC → Prop
 | [],_,loc,H,k,_=>k loc H
 | t :: ts,v,loc,H,k,X=>asgT T sc r t v loc H (fun loc H=>asgL T sc r ts v loc H k X) X
noncomputable def stLine:Stmt → Nat
 | .Assign _ _ p=>p.line
 | .For _ _ _ _ p=>p.line
 | .Expr _ p=>p.line
 | .AugAssign _ _ _ p=>p.line
 | _=>0
noncomputable def delL:List Nat → Hp → Hp
 | [],H=>H
 | l :: r,H=>delL r (delH l H)
noncomputable def keepL (loc:Loc):List Str → Loc
 | []=>[]
 | x :: r=>match lk x loc with | some v=>(x,v) :: keepL loc r | none=>keepL loc r
noncomputable def frzM (o:MO) (k:SV → Prop):Prop:=match o with
 | .list xs=>k (.lst xs)
 | .dict kvs=>k (.dct kvs)
 | _=>False
noncomputable def objV (v:SV) (k:Nat → Prop):Prop:=match v with | .obj l _=>k l | _=>False
noncomputable def ghV (g:Gh) (loc:Loc) (H:Hp) (k:Loc → Hp → Prop):Prop:=match g with
 | .acc l=>opt (fnd l H) fun p=>listM p.2 fun xs=>iff_ (nil? xs) (k loc (setH l (.acc Str.empty 0) H))
 | .frz x=>opt (lk x loc) fun v=>own v H fun l o=>frzM o fun u=>k (put x u loc) (delH l H)
 | .trim xs ls=>k (keepL loc xs) (delL ls H)
noncomputable def frzV (T:Tab) (n:Nat) (loc:Loc) (H:Hp) (k:Loc → Hp → Prop):Prop:=match lkN n T.frz with
 | none=>k loc H
 | some g=>ghV g loc H k
noncomputable def afterV (f:Fl) (loc:Loc) (H:Hp) (Q:QS) (k:Loc → Hp → Prop):Prop:=match f with
 | .next=>k loc H
 | .ret v=>Q (.ret v) loc H
noncomputable def exeL (T:Tab) (S:WS):WL
 | [],loc,H,Q,_=>Q .next loc H
 | s :: ss,loc,H,Q,X=>S s loc H (fun f loc H=>afterV f loc H Q fun loc H=>frzV T (stLine s) loc H fun loc H=>exeL T S ss loc H Q X) X
noncomputable def itrV (v:SV) (k:List SV → Prop):Prop:=match v with
 | .str s=>k (s.cps.toList.map fun c=>.str ⟨#[c]⟩)
 | .lst xs=>k xs
 | .byt bs=>k (bs.map fun (b:Nat)=>.int (Int.ofNat b))
 | _=>False
noncomputable def rngL (a:Int) (c:Int):Nat → List SV
 | 0=>[]
 | n + 1=>.int a :: rngL (a + c) c n
noncomputable def isM1:SV → Bool | .int i=>(match i with | .ofNat _=>false | .negSucc n=>Nat.beq n 0) | _=>false
noncomputable def rngV (vs:List SV) (k:List SV → Prop):Prop:=match vs with
 | []=>False
 | v :: r=>asI v fun a=>(match r with
  | []=>a ≤ 1000000 ∧ -1000000 ≤ a ∧ k (rngL 0 1 a.toNat)
  | u :: r=>asI u fun b=>one1 r fun c=>iff_ (isM1 c) (-1000000 ≤ a ∧ a ≤ 1000000 ∧ -1000000 ≤ b ∧ b ≤ 1000000 ∧ k (rngL a (-1) (a - b).toNat)))
noncomputable def forL (T:Tab) (S:WS) (x:Str) (body:List Stmt):List SV → Loc → Hp → QS → XC → Prop
 | [],loc,H,Q,_=>Q .next loc H
 | v :: vs,loc,H,Q,X=>exeL T S body (put x v loc) H (fun f loc H=>afterV f loc H Q fun loc H=>forL T S x body vs loc H Q X) X
noncomputable def whlL (T:Tab) (r:Rec) (t:Expr) (body:List Stmt):Nat → Loc → Hp → QS → XC → Prop
 | 0,_,_,_,_=>False
 | n + 1,loc,H,Q,X=>r.B t loc H (fun c H=>brn c (exeL T r.S body loc H (fun f loc H=>afterV f loc H Q fun loc H=>whlL T r t body n loc H Q X) X) (Q .next loc H)) X
noncomputable def strK (e:Expr):Option Str:=match e with
 | .Constant c _ _=>(match c with | .str s=>some s | _=>none)
 | _=>none
noncomputable def dspL:List (Option Expr) → List Expr → Option (List (Str × SV))
 | [],vs=>(match vs with | []=>some [] | _ :: _=>none)
 | k :: ks,vs=>k.bind fun k=>(strK k).bind fun a=>(match vs with | []=>none | v :: vs=>(strK v).bind fun b=>(dspL ks vs).bind fun l=>some ((a,.str b) :: l))
noncomputable def apart:List Str → Bool
 | []=>true
 | x :: r=>and (!(hasStr x r)) (apart r)
inductive Src where
 | lst (es:List Expr)
 | dct (ks:List (Option Expr)) (vs:List Expr)
 | cmp
 | rng (as:List Expr)
 | val
noncomputable def srcA (v:Expr):Src:=match v with
 | .List es _=>.lst es
 | .Dict ks vs _=>.dct ks vs
 | .ListComp ..=>.cmp
 | _=>.val
noncomputable def srcF (sc:Scope) (v:Expr):Src:=match v with
 | .Call f as ks _=>(match f with
  | .Name x _=>(match and (and (sbeq x "range") (glN sc x)) (and (nil? ks) (aOk as [])) with | true=>.rng as | false=>.val)
  | _=>.val)
 | _=>.val
noncomputable def swOK (ts:List Expr) (v:Expr):Bool:=match ts with
 | []=>true
 | t :: r=>(match r with
  | []=>(match t with
   | .Tuple ..=>(match v with | .Tuple ..=>false | _=>true)
   | .List ..=>false
   | _=>true)
  | _ :: _=>true)
noncomputable def asgS (T:Tab) (sc:Scope) (r:Rec) (ts:List Expr) (v:Expr) (lbl:Nat) (loc:Loc) (H:Hp) (Q:QS) (X:XC):Prop:=match srcA v with
 | .lst es=>iff_ (allNst es) (argL r.E es loc H (fun vs H=>iff_ (Nat.ble (lenL vs) 1000) (∀ a,asgL T sc r ts (.obj lbl (some a)) loc ((lbl,some a,.list vs) :: delH lbl H) (fun loc H=>Q .next loc H) X)) X)
 | .dct ks vs=>opt (dspL ks vs) fun l=>iff_ (and (apart (l.map (·.1))) (Nat.ble (lenL l) 15)) (∀ a,asgL T sc r ts (.obj lbl (some a)) loc ((lbl,some a,.dict l) :: delH lbl H) (fun loc H=>Q .next loc H) X)
 | .val=>r.E v loc H (fun u H=>asgL T sc r ts u loc H (fun loc H=>Q .next loc H) X) X
 | _=>False
noncomputable def augS (T:Tab) (sc:Scope) (r:Rec) (t:Expr) (op:Operator) (v:Expr) (loc:Loc) (H:Hp) (Q:QS) (X:XC):Prop:=match t with
 | .Name x _=>iff_ (loN sc x) (opt (lk x loc) fun old=>r.E v loc H (fun u H=>binV T op old u H fun w H=>Q .next (put x w loc) H) X)
 | .Attribute o x _=>r.E o loc H (fun ov H=>getA T ov x H fun old=>r.E v loc H (fun u H=>binV T op old u H fun w H=>setA T ov x w H fun H=>Q .next loc H) X) X
 | _=>False
noncomputable def forS (T:Tab) (sc:Scope) (r:Rec) (x:Str) (it:Expr) (b:List Stmt) (loc:Loc) (H:Hp) (Q:QS) (X:XC):Prop:=match srcF sc it with
 | .rng as=>argL r.E as loc H (fun vs H=>rngV vs fun xs=>forL T r.S x b xs loc H Q X) X
 | .val=>r.E it loc H (fun v H=>itrV v fun xs=>forL T r.S x b xs loc H Q X) X
 | _=>False
noncomputable def raiseOf (e:Option Expr):Option (Str × Expr):=e.bind fun e=>match e with
 | .Call f as ks _=>(match f with
  | .Name c _=>(match as with | []=>none | e :: es=>(match and (and (nil? es) (nil? ks)) (nst e) with | true=>some (c,e) | false=>none))
  | _=>none)
 | _=>none
noncomputable def nonV (v:SV) (k:Prop):Prop:=match v with | .none=>k | _=>False
noncomputable def fixA (v:SV):Option Addr:=match v with | .fix a=>some a | _=>none
noncomputable def nameT (e:Expr):Option Str:=match e with | .Name x _=>some x | _=>none
noncomputable def stS (T:Tab) (sc:Scope) (r:Rec) (s:Stmt) (loc:Loc) (H:Hp) (Q:QS) (X:XC):Prop:=match s with
 | .Pass _=>Q .next loc H
 | .Return e _=>partE r.E e loc H (fun v H=>Q (.ret v) loc H) X
 | .Expr e _=>iff_ (noComp e) (r.E e loc H (fun v H=>nonV v (Q .next loc H)) X)
 | .Assign ts v p=>iff_ (and (swOK ts v) (noComp v)) (asgS T sc r ts v (lblOf p) loc H Q X)
 | .AugAssign t op v _=>iff_ (augOK op) (augS T sc r t op v loc H Q X)
 | .If t a b _=>r.B t loc H (fun c H=>brn c (exeL T r.S a loc H Q X) (exeL T r.S b loc H Q X)) X
 | .While t b el _=>iff_ (nil? el) (whlL T r t b T.wh loc H Q X)
 | .For t it b el _=>opt (nameT t) fun x=>iff_ (and (and (nil? el) (noComp it)) (loN sc x)) (forS T sc r x it b loc H Q X)
 | .Raise e c _=>iff_ (and (!(isSome? c)) (nil? T.cells)) (opt (raiseOf e) fun p=>iff_ (glN sc p.1) (opt ((lk p.1 T.glob).bind fixA) fun C=>iff_ (Nat.beq C T.exc) (r.E p.2 loc H (fun _ H=>X H) X)))
 | _=>False
noncomputable def bot:Rec:=⟨0,fun _ _ _ _ _=>False,fun _ _ _ _ _=>False,fun _ _ _ _ _=>False⟩
noncomputable def wp (T:Tab) (sc:Scope):Nat → Rec
 | 0=>bot
 | n + 1=>⟨n + 1,stE T sc (wp T sc n),stB T sc (wp T sc n),stS T sc (wp T sc n)⟩
noncomputable def wpF (T:Tab) (sc:Scope) (n:Nat) (body:List Stmt) (loc:Loc) (H:Hp) (Q:QV) (X:XC):Prop :=
 exeL T (wp T sc n).S body loc H (fun f _ H=>match f with | .next=>Q .none H | .ret v=>Q v H) X
structure GC where
 prog:Program
 w:World
 K:Frag
 p:Program
 loose:List Str
 mean:ExcName → Option Value
 mg:Str → Option Value
 mb:Str → Option Value
 EE:Addr
 gens:Array GenState
 drawn:Drawn
 os:OsState
 pa:Nat → Addr
noncomputable abbrev GC.sh (G:GC) (h:Heap) (t:Nat):Shared:=⟨h,G.gens,G.drawn,t,G.os⟩
noncomputable abbrev GC.P (G:GC):PP:=⟨G.w.params,G.pa⟩
noncomputable abbrev GC.M (G:GC):Model:=model G.prog G.w
structure FC where
 A₀:Around
 base:Heap
 h₀:Heap
 outer:List Env
 name:Str
 scope:Scope
 L:Addr
 a:Addr
 cd:Value
 cl:List (Str × Addr):=[]
noncomputable abbrev FC.env (c:FC):Env:=envX c.name c.scope c.L c.a c.cd c.cl
noncomputable abbrev FC.A (c:FC):Around:=c.A₀.deeper c.env
structure FC.Ok (G:GC) (c:FC):Prop where
 below:Below c.A₀ c.base c.outer c.h₀
 kin:G.K.In c.h₀
 top:Top G.p G.loose G.mean G.mg G.mb c.h₀
 kind:c.scope.kind = .function
structure Room (n:Nat) (A:Around):Prop where
 hd:A.handled = none
 dp:A.depth + 3 * n ≤ 900
 un:A.units + 20 * n ≤ 9000
structure St (G:GC) (c:FC) (F:Lg) (H:Hp) (R:Lg) (m:Str → Option Value) (h:Heap) (N:Lg):Prop where
 fr:Fr c.h₀ c.L h m
 nw:News c.h₀ c.L h (N ++ (R ++ F))
 led:Led G.P H N R F
structure Cx where
 G:GC
 lv:Nat
 T:Tab
 sc:Scope
 c:FC
 R₀:Lg
 F₀:Lg
 X:XC
 Ec:Value → Shared → Prop
structure Mo (Z:Cx) (F:Lg) (loc:Loc) (m:Str → Option Value) where
 H:Hp
 R:Lg
 N:Lg
 h:Heap
 tk:Nat
 st:St Z.G Z.c F H R m h N
 lr:LR Z.G.P R loc m
 sub:Sub Z.R₀ R
 fs:Sub Z.F₀ F
section
variable {Z:Cx} {F:Lg} {loc:Loc} {m:Str → Option Value}
noncomputable abbrev Mo.s (M:Mo Z F loc m):Shared:=Z.G.sh M.h M.tk
noncomputable abbrev Mo.L (M:Mo Z F loc m):Lg:=M.N ++ (M.R ++ F)
noncomputable def PQ (M:Mo Z F loc m) (Q:QV) (Qc:Value → Shared → Prop):Prop:=∀ sv v (M':Mo Z F loc m),Sub M.R M'.R → Q sv M'.H → VR Z.G.P M'.R sv v → Qc v M'.s
noncomputable def PU (M:Mo Z F loc m) (Q:Hp → Prop) (Qc:Shared → Prop):Prop:=∀ (M':Mo Z F loc m),Sub M.R M'.R → Q M'.H → Qc M'.s
noncomputable abbrev W {α:Type} (M:Mo Z F loc m) (f:Sem α) (Qc:α → Shared → Prop):Prop:=wpAny Z.G.M Z.c.A f Qc Z.Ec M.s
noncomputable def Mo.tick (M:Mo Z F loc m) (tk:Nat):Mo Z F loc m:={ M with tk:=tk }
theorem PQ.use {M:Mo Z F loc m} {Q:QV} {Qc:Value → Shared → Prop} (q:PQ M Q Qc) {sv:SV} {v:Value} (tk:Nat) (t:Q sv M.H) (r:VR Z.G.P M.R sv v):Qc v (Z.G.sh M.h tk):=q sv v (M.tick tk) (Sub.refl _) t r
theorem PQ.sub {M M':Mo Z F loc m} {Q:QV} {Qc:Value → Shared → Prop} (q:PQ M Q Qc) (s:Sub M.R M'.R):PQ M' Q Qc:=fun _ _ _ s' t r=>q _ _ _ (s.trans s') t r
theorem PU.sub {M M':Mo Z F loc m} {Q:Hp → Prop} {Qc:Shared → Prop} (q:PU M Q Qc) (s:Sub M.R M'.R):PU M' Q Qc:=fun _ s' t=>q _ (s.trans s') t
theorem lt_ne {N:Lg} {a:Addr} (h:∀ p ∈ N,p.1 < a):∀ p ∈ N,p.1 ≠ a:=fun p hp=>Nat.ne_of_lt (h p hp)
theorem Mo.size_ne (M:Mo Z F loc m):∀ p ∈ M.L,p.1 ≠ M.h.objs.size:=fun p hp=>Nat.ne_of_lt (Heap.lt_size (M.st.nw p hp).1)
theorem Mo.inR (M:Mo Z F loc m) {p:Addr × Obj} (hp:p ∈ M.R):p ∈ M.L:=Mr _ (Ml _ hp)
theorem Mo.inN (M:Mo Z F loc m) {p:Addr × Obj} (hp:p ∈ M.N):p ∈ M.L:=Ml _ hp
theorem Mo.get (M:Mo Z F loc m) {a:Addr} {o:Obj} (hp:(a,o) ∈ M.L):M.h.get? a = some o:=(M.st.nw _ hp).1
theorem Mo.kin (M:Mo Z F loc m) (ok:Z.c.Ok Z.G):Z.G.K.In M.h:=ok.kin.keeps M.st.fr.keep
noncomputable def Mo.heap (M:Mo Z F loc m) (h':Heap) (tk:Nat) (fr:Fr Z.c.h₀ Z.c.L h' m) (nw:News Z.c.h₀ Z.c.L h' M.L):Mo Z F loc m:={ M with h:=h',tk:=tk,st:=⟨fr,nw,M.st.led⟩ }
theorem Led.more {p:PP} {H:Hp} {N R F:Lg} (x:Led p H N R F) {q:Addr × Obj} (hn:∀ r ∈ N ++ (R ++ F),r.1 ≠ q.1):Led p H N (q :: R) F :=
 ⟨x.hr.mono (Sub.cons _ _),x.nd,fun r hr s hs=>by
  rcases Mc hs with rfl | hs
  ·exact hn r (Ml _ hr)
  ·exact x.ap r hr s hs,fun r hr s hs=>by
  rcases Mc hr with rfl | hr
  ·exact (hn s (Mr _ (Mr _ hs))).symm
  ·exact x.af r hr s hs⟩
theorem mem_more {N R F:Lg} {q r:Addr × Obj} (h:r ∈ N ++ (q :: R ++ F)):r ∈ q :: (N ++ (R ++ F)):=by
 rcases Ma h with h | h
 ·exact .tail _ (Ml _ h)
 ·rcases Mc h with rfl | h
  ·exact .head _
  ·exact .tail _ (Mr _ h)
noncomputable def Mo.more (M:Mo Z F loc m) (q:Addr × Obj) (h':Heap) (tk:Nat) (fr:Fr Z.c.h₀ Z.c.L h' m) (nw:News Z.c.h₀ Z.c.L h' (q :: M.L)) (hn:∀ r ∈ M.L,r.1 ≠ q.1):Mo Z F loc m :=
 ⟨M.H,q :: M.R,M.N,h',tk,⟨fr,fun r hr=>nw r (mem_more hr),M.st.led.more hn⟩,M.lr.mono (Sub.cons _ _),M.sub.trans (Sub.cons _ _),M.fs⟩
theorem HR.del {p:PP} {R:Lg} (l:Nat) {H:Hp} {N:Lg} (x:HR p R H N):∃ N',HR p R (delH l H) N' ∧ N'.Sublist N:=by
 induction x with
 | nil=>exact ⟨[],.nil,.slnil⟩
 | @cons k a o H n1 n2 a1 a2 ih =>
  show ∃ N',HR p R (match Nat.beq l k with | true=>H | false=>(k,a,o) :: delH l H) N' ∧ _
  cases Nat.beq l k with
  | true=>exact ⟨_,a2,List.sublist_append_right _ _⟩
  | false =>
   obtain ⟨N',h1,h2⟩:=ih
   exact ⟨n1 ++ N',.cons a1 h1,h2.append_left n1⟩
theorem Mo.make (M:Mo Z F loc m) {a:Addr} {o:Obj} {u:MO} (l:Nat) {h':Heap} (tk:Nat) (fr:Fr Z.c.h₀ Z.c.L h' m) (nw:News Z.c.h₀ Z.c.L h' ((a,o) :: M.L)) (hn:∀ p ∈ M.L,p.1 ≠ a)
  (mr:MR Z.G.P M.R a u [(a,o)]) {C:Shared → Prop} (k:∀ M':Mo Z F loc m,M'.H = (l,some a,u) :: delH l M.H → M'.R = M.R → C M'.s):C (Z.G.sh h' tk):=by
 obtain ⟨N',y,sl⟩:=M.st.led.hr.del l
 have sub:∀ p ∈ N' ++ (M.R ++ F),p ∈ M.L:=fun p hp=>(Ma hp).elim (fun k=>Ml _ (sl.mem k)) (Mr _)
 refine k ⟨(l,some a,u) :: delH l M.H,M.R,(a,o) :: N',h',tk,⟨fr,fun p hp=>?_,⟨HR.cons (n1:=[(a,o)]) mr y,?_,fun p hp q hq=>?_,M.st.led.af⟩⟩,M.lr,M.sub,M.fs⟩ rfl rfl
 ·rcases Mc hp with rfl | hp
  ·exact nw _ (.head _)
  ·exact nw p (.tail _ (sub p hp))
 ·refine List.nodup_cons.mpr ⟨fun hm=>?_,(sl.map _).nodup M.st.led.nd⟩
  obtain ⟨p,hp,e⟩:=List.mem_map.mp hm
  exact hn p (sub p (Ml _ hp)) e
 ·rcases Mc hp with rfl | hp
  ·exact (hn q (Mr _ hq)).symm
  ·exact M.st.led.ap p (sl.mem hp) q hq
theorem HR.at {p:PP} {R:Lg} {l:Nat} {a:Option Addr} {o:MO} {H:Hp} {N:Lg} (x:HR p R H N):fnd l H = some (a,o) →
  ∃ pre n1 post,N = pre ++ (n1 ++ post) ∧ MR p R (adr p l a) o n1 ∧ (∀ o' n1',MR p R (adr p l a) o' n1' → HR p R (setH l o' H) (pre ++ (n1' ++ post))) ∧ HR p R (delH l H) (pre ++ post):=by
 induction x with
 | nil=>intro e;cases e
 | @cons k b u H n1 n2 a1 a2 ih =>
  intro e
  have e:(match Nat.beq l k with | true=>some (b,u) | false=>fnd l H) = some (a,o):=e
  show ∃ pre m1 post,n1 ++ n2 = pre ++ (m1 ++ post) ∧ _ ∧ (∀ o' n1',_ → HR p R (match Nat.beq l k with | true=>(k,b,o') :: H | false=>(k,b,u) :: setH l o' H) _) ∧ HR p R (match Nat.beq l k with | true=>H | false=>(k,b,u) :: delH l H) _
  cases q:Nat.beq l k with
  | true =>
   rw [q] at e
   cases e
   cases Nq q
   exact ⟨[],n1,n2,rfl,a1,fun o' n1' x=>HR.cons (n1:=n1') x a2,a2⟩
  | false =>
   rw [q] at e
   obtain ⟨pre,m1,post,e1,e2,e3,e4⟩:=ih e
   exact ⟨n1 ++ pre,m1,post,by rw [e1,List.append_assoc],e2,fun o' n1' x=>by rw [List.append_assoc];exact .cons a1 (e3 o' n1' x),by rw [List.append_assoc];exact .cons a1 e4⟩
theorem Mo.at (M:Mo Z F loc m) {l:Nat} {a:Option Addr} {o:MO} (e:fnd l M.H = some (a,o)):∃ n1,MR Z.G.P M.R (adr Z.G.P l a) o n1 ∧ ∀ q ∈ n1,q ∈ M.N:=by
 obtain ⟨pre,n1,post,e1,e2,_⟩:=M.st.led.hr.at e
 exact ⟨n1,e2,fun q hq=>e1 ▸ Mr _ (Ml _ hq)⟩
theorem Mo.open (M:Mo Z F loc m) {l:Nat} {a:Option Addr} {o:MO} (e:fnd l M.H = some (a,o)) :
  ∃ n1 rest,MR Z.G.P M.R (adr Z.G.P l a) o n1 ∧ News Z.c.h₀ Z.c.L M.h (n1 ++ rest) ∧ (∀ q ∈ n1,∀ r ∈ rest,q.1 ≠ r.1) ∧ (n1.map (·.1)).Nodup ∧
   ∀ o' n1' h' tk,MR Z.G.P M.R (adr Z.G.P l a) o' n1' → n1'.map (·.1) = n1.map (·.1) → Fr Z.c.h₀ Z.c.L h' m → News Z.c.h₀ Z.c.L h' (n1' ++ rest) →
    ∀ {C:Shared → Prop},(∀ M':Mo Z F loc m,M'.H = setH l o' M.H → M'.R = M.R → C M'.s) → C (Z.G.sh h' tk):=by
 obtain ⟨pre,n1,post,e1,e2,e3,_⟩:=M.st.led.hr.at e
 have nd:=M.st.led.nd
 rw [e1,List.map_append,List.map_append,List.nodup_append,List.nodup_append] at nd
 obtain ⟨d1,⟨d2,d3,d4⟩,d5⟩:=nd
 have key:∀ n:Lg,∀ q,q ∈ (pre ++ (n ++ post)) ++ (M.R ++ F) ↔ q ∈ n ++ (pre ++ (post ++ (M.R ++ F))):=fun n q=>by simp only [List.mem_append];exact ⟨fun h=>by rcases h with (h | h | h) | h <;> simp [h],fun h=>by rcases h with h | h | h | h <;> simp [h]⟩
 refine ⟨n1,pre ++ (post ++ (M.R ++ F)),e2,fun q hq=>M.st.nw q (by rw [e1];exact (key n1 q).mpr hq),fun q hq r hr=>?_,d2,fun o' n1' h' tk mr em fr nw C k=>?_⟩
 ·rcases Ma hr with k | k
  ·exact (d5 r.1 (List.mem_map_of_mem k) q.1 (Ml _ (List.mem_map_of_mem hq))).symm
  ·rcases Ma k with k | k
   ·exact d4 q.1 (List.mem_map_of_mem hq) r.1 (List.mem_map_of_mem k)
   ·exact M.st.led.ap q (e1 ▸ Mr _ (Ml _ hq)) r k
 ·have en:(pre ++ (n1' ++ post)).map (·.1) = M.N.map (·.1):=by rw [e1];simp only [List.map_append,em]
  refine k ⟨setH l o' M.H,M.R,pre ++ (n1' ++ post),h',tk,⟨fr,fun q hq=>nw q ((key n1' q).mp hq),⟨e3 o' n1' mr,en ▸ M.st.led.nd,fun q hq r hr=>?_,M.st.led.af⟩⟩,M.lr,M.sub,M.fs⟩ rfl rfl
  have hm:q.1 ∈ M.N.map (·.1):=en ▸ List.mem_map_of_mem hq
  obtain ⟨q',hq',e'⟩:=List.mem_map.mp hm
  exact e' ▸ M.st.led.ap q' hq' r hr
end
inductive VwR (p:PP) (L R:Lg):Vw → Value → Prop
 | non:VwR p L R .non .none
 | oth (v:Value):VwR p L R .oth v
 | boo (b:Bool):VwR p L R (.boo b) (.bool b)
 | int (i:Int) (t:Tok):VwR p L R (.int i) (.int i t)
 | str (s:Str) (t:Tok):VwR p L R (.str s) (.str s t)
 | byt (bs:List Nat) (v:Value):VwR p L R (.byt bs) v
 | tup (a:Addr) (vs:List Value) (n:Nat) (xs:List SV):(a,tupO vs n) ∈ L → VRs p R xs vs → VwR p L R (.tup xs) (.ref a)
 | lst (a:Addr) (vs:List Value) (n:Nat) (xs:List SV):(a,W.listOf vs.toArray n) ∈ L → VRs p R xs vs → VwR p L R (.lst xs) (.ref a)
 | dct (a:Addr) (es:List DictEntry) (n:Nat) (kvs:List (Str × SV)):(a,dictOf es n) ∈ L → DR p R kvs es → (kvs.map (·.1)).Nodup → (a == sysModules) = false → VwR p L R (.dct kvs) (.ref a)
 | ins (a d c:Addr) (es:List DictEntry) (n:Nat) (kvs:List (Str × SV)):(a,instObj c d) ∈ L → (d,dictOf es n) ∈ L → DR p R kvs es → VwR p L R (.ins c kvs) (.ref a)
 | acc (a:Addr) (t:Str) (k:Nat) (vs:List Value) (ys:List Str) (n:Nat):(a,W.listOf vs.toArray n) ∈ L → StrsAre vs ys → joined ys = t → ys.length ≤ k → VwR p L R (.acc t k) (.ref a)
theorem of_same {a b:Option Addr} {k:Prop} (h:sameA a b k):a = b ∧ k:=by
 cases a <;> cases b <;> first | exact ⟨rfl,h⟩ | exact h.elim | exact ⟨congrArg some h.1,h.2⟩
section
variable {Z:Cx} {F:Lg} {loc:Loc} {m:Str → Option Value} {M:Mo Z F loc m}
theorem own_obj {l:Nat} {a:Option Addr} {k:Nat → MO → Prop} (t:own (.obj l a) M.H k):∃ o,fnd l M.H = some (a,o) ∧ k l o:=by
 obtain ⟨⟨b,o⟩,e,t⟩:=of_opt t
 obtain ⟨rfl,t2⟩:=of_same t
 exact ⟨o,e,t2⟩
noncomputable def IsO (Z:Cx) {F:Lg} {loc:Loc} {m:Str → Option Value} (M:Mo Z F loc m) (v:SV) (u:Value) (k:Nat → MO → Prop):Prop:=∃ l a o,u = .ref (adr Z.G.P l a) ∧ v = .obj l a ∧ fnd l M.H = some (a,o) ∧ k l o
theorem own_ok {v:SV} {u:Value} {k:Nat → MO → Prop} (r:VR Z.G.P M.R v u):own v M.H k → IsO Z M v u k :=
 VR.casesOn (motive_1:=fun v u _=>own v M.H k → IsO Z M v u k) r (fun t=>t.elim) (fun _ t=>t.elim) (fun _ _ t=>t.elim) (fun _ _ t=>t.elim) (fun _ _ _ _ t=>t.elim) (fun _ t=>t.elim) (fun l a t=>let ⟨o,e,t'⟩:=own_obj t;⟨l,a,o,rfl,rfl,e,t'⟩) (fun _ _ _ _ _ _ t=>t.elim) (fun _ _ _ _ _ _ t=>t.elim) (fun _ _ _ _ _ _ _ _ t=>t.elim) (fun _ _ _ _ _ _ t=>t.elim) (fun _ _ _ _ _ _ _ _ _ t=>t.elim)
theorem look_ok {v:SV} {u:Value} {k:Vw → Prop} (r:VR Z.G.P M.R v u) (t:look v M.H k):∃ w,VwR Z.G.P M.L M.R w u ∧ k w:=by
 cases r with
 | none=>exact ⟨_,.non,t⟩
 | bool b=>exact ⟨_,.boo b,t⟩
 | int i tk=>exact ⟨_,.int i tk,t⟩
 | str s tk=>exact ⟨_,.str s tk,t⟩
 | byt bs arr tk e=>exact ⟨_,.byt bs _,t⟩
 | fix a=>exact ⟨_,.oth _,t⟩
 | meth a f v x _ _=>exact ⟨_,.oth _,t⟩
 | tup a vs n xs hm r=>exact ⟨_,.tup a vs n xs (M.inR hm) r,t⟩
 | lst a vs n xs hm r=>exact ⟨_,.lst a vs n xs (M.inR hm) r,t⟩
 | dct a es n kvs hm r d e=>exact ⟨_,.dct a es n kvs (M.inR hm) r d e,t⟩
 | inst a d c es n kvs h1 h2 r=>exact ⟨_,.ins a d c es n kvs (M.inR h1) (M.inR h2) r,t⟩
 | obj l a =>
  obtain ⟨⟨b,o⟩,e,t⟩:=of_opt t
  obtain ⟨rfl,t2⟩:=of_same t
  obtain ⟨n1,mr,hm⟩:=M.at e
  refine ⟨_,?_,t2⟩
  cases mr with
  | list xs vs n r=>exact .lst _ vs n xs (M.inN (hm _ (.head _))) r
  | dict kvs es n r d e'=>exact .dct _ es n kvs (M.inN (hm _ (.head _))) r d e'
  | inst d c kvs es n r=>exact .ins _ d c es n kvs (M.inN (hm _ (.head _))) (M.inN (hm _ (.tail _ (.head _)))) r
  | acc tx k vs ys n r e1 e2=>exact .acc _ tx k vs ys n (M.inN (hm _ (.head _))) r e1 e2
noncomputable def IsI (u:Value) (k:Int → Prop):Prop:=∃ i tk,u = .int i tk ∧ k i
theorem asI_ok {p:PP} {R:Lg} {v:SV} {u:Value} {k:Int → Prop} (r:VR p R v u):asI v k → IsI u k :=
 VR.casesOn (motive_1:=fun v u _=>asI v k → IsI u k) r (fun t=>t.elim) (fun _ t=>t.elim) (fun i tk t=>⟨i,tk,rfl,t⟩) (fun _ _ t=>t.elim) (fun _ _ _ _ t=>t.elim) (fun _ t=>t.elim) (fun _ _ t=>t.elim) (fun _ _ _ _ _ _ t=>t.elim) (fun _ _ _ _ _ _ t=>t.elim) (fun _ _ _ _ _ _ _ _ t=>t.elim) (fun _ _ _ _ _ _ t=>t.elim) (fun _ _ _ _ _ _ _ _ _ t=>t.elim)
noncomputable def IsS (u:Value) (k:Str → Prop):Prop:=∃ i tk,u = .str i tk ∧ k i
theorem asS_ok {p:PP} {R:Lg} {v:SV} {u:Value} {k:Str → Prop} (r:VR p R v u):asS v k → IsS u k :=
 VR.casesOn (motive_1:=fun v u _=>asS v k → IsS u k) r (fun t=>t.elim) (fun _ t=>t.elim) (fun _ _ t=>t.elim) (fun i tk t=>⟨i,tk,rfl,t⟩) (fun _ _ _ _ t=>t.elim) (fun _ t=>t.elim) (fun _ _ t=>t.elim) (fun _ _ _ _ _ _ t=>t.elim) (fun _ _ _ _ _ _ t=>t.elim) (fun _ _ _ _ _ _ _ _ t=>t.elim) (fun _ _ _ _ _ _ t=>t.elim) (fun _ _ _ _ _ _ _ _ _ t=>t.elim)
noncomputable def IsB (u:Value) (k:Bool → Prop):Prop:=∃ i,u = .bool i ∧ k i
theorem asB_ok {p:PP} {R:Lg} {v:SV} {u:Value} {k:Bool → Prop} (r:VR p R v u):asB v k → IsB u k :=
 VR.casesOn (motive_1:=fun v u _=>asB v k → IsB u k) r (fun t=>t.elim) (fun i t=>⟨i,rfl,t⟩) (fun _ _ t=>t.elim) (fun _ _ t=>t.elim) (fun _ _ _ _ t=>t.elim) (fun _ t=>t.elim) (fun _ _ t=>t.elim) (fun _ _ _ _ _ _ t=>t.elim) (fun _ _ _ _ _ _ t=>t.elim) (fun _ _ _ _ _ _ _ _ t=>t.elim) (fun _ _ _ _ _ _ t=>t.elim) (fun _ _ _ _ _ _ _ _ _ t=>t.elim)
theorem isNo_ok {p:PP} {R:Lg} {v:SV} {u:Value} (r:VR p R v u):isNo v = true → u = .none :=
 VR.casesOn (motive_1:=fun v u _=>isNo v = true → u = .none) r (fun _=>rfl) (fun _ t=>Bool.noConfusion t) (fun _ _ t=>Bool.noConfusion t) (fun _ _ t=>Bool.noConfusion t) (fun _ _ _ _ t=>Bool.noConfusion t) (fun _ t=>Bool.noConfusion t) (fun _ _ t=>Bool.noConfusion t) (fun _ _ _ _ _ _ t=>Bool.noConfusion t) (fun _ _ _ _ _ _ t=>Bool.noConfusion t) (fun _ _ _ _ _ _ _ _ t=>Bool.noConfusion t) (fun _ _ _ _ _ _ t=>Bool.noConfusion t) (fun _ _ _ _ _ _ _ _ _ t=>Bool.noConfusion t)
theorem Mo.isList (M:Mo Z F loc m) {a:Addr} {vs:List Value} {n:Nat} (hm:(a,W.listOf vs.toArray n) ∈ M.L):M.h.IsList a vs.toArray:=⟨_,(M.st.nw _ hm).1,rfl,n,rfl⟩
theorem Mo.isTup (M:Mo Z F loc m) {a:Addr} {vs:List Value} {n:Nat} (hm:(a,tupO vs n) ∈ M.L):PyProof.Rows.IsTup M.h a vs.toArray:=⟨_,(M.st.nw _ hm).1,rfl,n,rfl⟩
inductive PR (p:PP) (R:Lg):List (Str × SV) → List (Str × Value) → Prop
 | nil:PR p R [] []
 | cons {k:Str} {x:SV} {v:Value} {kvs:List (Str × SV)} {us:List (Str × Value)}:VR p R x v → PR p R kvs us → PR p R ((k,x) :: kvs) ((k,v) :: us)
theorem PR.keys {p:PP} {R:Lg} {kvs:List (Str × SV)} {us:List (Str × Value)} (h:PR p R kvs us):us.map (·.1) = kvs.map (·.1):=by
 induction h with
 | nil=>rfl
 | cons a r ih=>exact congrArg (_ :: ·) ih
theorem PR.len {p:PP} {R:Lg} {kvs:List (Str × SV)} {us:List (Str × Value)} (h:PR p R kvs us):us.length = kvs.length:=by
 have:=congrArg List.length h.keys
 rwa [List.length_map,List.length_map] at this
theorem PR.mono {p:PP} {R R':Lg} (s:Sub R R') {kvs:List (Str × SV)} {us:List (Str × Value)} (h:PR p R kvs us):PR p R' kvs us:=by
 induction h with
 | nil=>exact .nil
 | cons a r ih=>exact .cons (a.mono s) ih
theorem valueAt_cons (k x:Str) (v:Value) (us:List (Str × Value)):valueAt ((k,v) :: us) x = bif sbeq x k then some v else valueAt us x:=by
 cases q:sbeq x k with
 | true=>cases of_sbeq q;simp [valueAt]
 | false=>have:=(sbeq_false q).symm;simp [valueAt,this]
theorem PR.at {p:PP} {R:Lg} {kvs:List (Str × SV)} {us:List (Str × Value)} (h:PR p R kvs us) (k:Str):(valueAt us k).isSome = isSome? (lk k kvs) ∧ ∀ x,lk k kvs = some x → ∃ v,valueAt us k = some v ∧ VR p R x v:=by
 induction h with
 | nil=>exact ⟨rfl,fun _ e=>nomatch e⟩
 | @cons k' y v kvs us a r ih =>
  rw [valueAt_cons,lk_cons]
  cases sbeq k k' with
  | true=>exact ⟨rfl,fun x e=>by cases e;exact ⟨v,rfl,a⟩⟩
  | false=>exact ih
theorem DR.pr {p:PP} {R:Lg} {prog:Program} {w:World} (hP:p.P = w.params) {kvs:List (Str × SV)}:∀ {es:List DictEntry},DR p R kvs es →
  ∃ us:List (Str × Value),Pairs (PySem.strKind prog w) es us ∧ PR p R kvs us ∧ (∀ e ∈ es,∃ k,(PySem.strKind prog w).is k e.key = true ∧ e.hash = (PySem.strKind prog w).hash k):=by
 induction kvs with
 | nil=>intro es r;cases r;exact ⟨[],.nil,.nil,(fun _ h=>(nomatch h))⟩
 | cons q kvs ih =>
  intro es r
  cases r with
  | @cons k t x v _ es a r =>
  obtain ⟨us,p1,p2,p3⟩:=ih r
  rw [hP]
  refine ⟨(k,v) :: us,.cons (strKind_is prog w k t) rfl p1,.cons a p2,fun e he=>?_⟩
  rcases Mc he with rfl | he
  ·exact ⟨k,strKind_is prog w k t,rfl⟩
  ·exact p3 e he
theorem DR.isDict {p:PP} {R:Lg} {prog:Program} {w:World} (hP:p.P = w.params) {n:Nat} {kvs:List (Str × SV)} {es:List DictEntry} (r:DR p R kvs es) (hd:(kvs.map (·.1)).Nodup) :
  ∃ us:List (Str × Value),Obj.IsDictOf (PySem.strKind prog w) (dictOf es n) us ∧ PR p R kvs us:=by
 obtain ⟨us,p1,p2,p3⟩:=r.pr (prog:=prog) hP
 exact ⟨us,⟨_,_,⟨rfl,rfl,rfl⟩,rfl,(fun e he=>p3 e (by simpa using he)),p1,by rw [p2.keys];exact hd⟩,p2⟩
theorem Mo.dictOf (M:Mo Z F loc m) {a:Addr} {n:Nat} {kvs:List (Str × SV)} {es:List DictEntry} (hm:(a,dictOf es n) ∈ M.L) (r:DR Z.G.P M.R kvs es) (hd:(kvs.map (·.1)).Nodup) :
  ∃ us:List (Str × Value),M.h.DictOf (PySem.strKind Z.G.prog Z.G.w) a us ∧ PR Z.G.P M.R kvs us:=by
 obtain ⟨us,⟨es',ep,d1,d2,d3,d4,d5⟩,p2⟩:=r.isDict (prog:=Z.G.prog) (w:=Z.G.w) rfl hd (n:=n)
 exact ⟨us,⟨_,es',ep,M.get hm,d1,d2,d3,d4,d5⟩,p2⟩
theorem nil_len {α:Type} (xs:List α):(!(nil? xs)) = ((xs.length:Int) != 0):=by cases xs <;> rfl
theorem nil_eq {α β:Type} {xs:List α} {ys:List β} (h:xs.length = ys.length):nil? xs = ys.isEmpty:=by
 cases xs <;> cases ys <;> first | rfl | cases h
theorem fit63 {n:Nat} (h:n ≤ sizeLine):(n:Int) < 2 ^ 63:=Int.lt_of_le_of_lt (Int.ofNat_le.mpr h) (by decide)
theorem lenL_eq {α:Type} (l:List α):lenL l = l.length:=by
 induction l with
 | nil=>rfl
 | cons _ _ ih=>exact congrArg Nat.succ ih
theorem slen (a:Str):a.cps.toList.length = a.length:=Array.length_toList ..
theorem tru_ok {v:SV} {u:Value} {k:Bool → Prop} {Qc:Bool → Shared → Prop} {A:Around} {E:Value → Shared → Prop} (r:VR Z.G.P M.R v u) (t:tru v M.H k) (h:∀ b tk,k b → Qc b (Z.G.sh M.h tk)):wpAny Z.G.M A (truthy u) Qc E M.s:=by
 obtain ⟨w,rw',t⟩:=look_ok r t
 clear r
 cases rw' with
 | non=>exact truthy_none (h _ _ t)
 | boo b=>exact wpAny_truthy_bool (h _ _ t)
 | int i tk=>exact truthy_int (h _ _ t)
 | str y tk =>
  obtain ⟨t1,t2⟩:=of_bnz t
  rw [nil_len,slen] at t2
  exact SBL.truthy (fit63 t1) (h _ _ t2)
 | lst a vs n xs hm r =>
  obtain ⟨t1,t2⟩:=of_bnz t
  rw [nil_eq r.length] at t2
  rw [r.length] at t1
  exact wpAny_truthy_list (M.isList hm) (fit63 t1) (h _ _ (by rw [List.isEmpty_toArray];exact t2))
 | tup a vs n xs hm r =>
  obtain ⟨t1,t2⟩:=of_bnz t
  rw [nil_eq r.length] at t2
  rw [r.length] at t1
  exact truthy_tuple (M.isTup hm) (fit63 t1) (h _ _ (by rw [List.isEmpty_toArray];exact t2))
 | dct a es n kvs hm r hd hs =>
  obtain ⟨t1,t2⟩:=of_bnz t
  obtain ⟨us,d1,d2⟩:=M.dictOf hm r hd
  rw [nil_eq d2.len.symm] at t2
  exact wpAny_truthy_dict hs d1 (by rw [d2.len];exact fit63 t1) (h _ _ t2)
 | _=>exact (t:False).elim
end
theorem hasStr_eq (x:Str) (l:List Str):hasStr x l = l.any fun y=>y == x:=by
 induction l with
 | nil=>rfl
 | cons y r ih =>
  show (match sbeq y x with | true=>true | false=>hasStr x r) = _
  rw [List.any_cons,← sbeq_eq,ih]
  cases sbeq y x <;> rfl
theorem strsOf_are {p:PP} {R:Lg} {xs:List SV}:∀ {vs:List Value} {l:List Str},VRs p R xs vs → strsOf xs = some l → StrsAre vs l:=by
 induction xs with
 | nil=>intro vs l r e;cases r;cases e;exact .nil
 | cons x xs ih =>
  intro vs l r e
  cases x with
  | str y =>
   have e:(match strsOf xs with | some l=>some (y :: l) | none=>none) = some l:=e
   cases r with
   | cons a r =>
   cases a with
   | str _ t =>
   cases q:strsOf xs with
   | none=>rw [q] at e;cases e
   | some l'=>rw [q] at e;cases e;exact .cons y t (ih r q)
  | _=>cases e
theorem iff_ne {j:Int} {k:Prop} (h:iff_ (j != 0) k):j ≠ 0 ∧ k:=let ⟨a,b⟩:=of_iff h;⟨by simpa using a,b⟩
section
variable {Z:Cx} {F:Lg} {loc:Loc} {m:Str → Option Value} {M:Mo Z F loc m}
theorem isNo_cmp {v:SV} {u:Value} {Qc:Value → Shared → Prop} (r:VR Z.G.P M.R v u):(Qc (.bool (isNo v)) M.s → W M (compareOp .Is u .none) Qc) ∧ (Qc (.bool (!(isNo v))) M.s → W M (compareOp .IsNot u .none) Qc) :=
 VR.casesOn (motive_1:=fun v u _=>(Qc (.bool (isNo v)) M.s → W M (compareOp .Is u .none) Qc) ∧ (Qc (.bool (!(isNo v))) M.s → W M (compareOp .IsNot u .none) Qc)) r
  ⟨is_none_none,isnot_none_none⟩ (fun _=>⟨is_bool_none,isnot_bool_none⟩) (fun _ _=>⟨is_int_none,isnot_int_none⟩) (fun _ _=>⟨is_str_none,isnot_str_none⟩) (fun _ _ _ _=>⟨fun h=>wpAny_pure h,fun h=>wpAny_pure h⟩)
  (fun _=>⟨is_ref_none,isnot_ref_none⟩) (fun _ _=>⟨is_ref_none,isnot_ref_none⟩) (fun _ _ _ _ _ _=>⟨is_ref_none,isnot_ref_none⟩) (fun _ _ _ _ _ _=>⟨is_ref_none,isnot_ref_none⟩) (fun _ _ _ _ _ _ _ _=>⟨is_ref_none,isnot_ref_none⟩)
  (fun _ _ _ _ _ _=>⟨is_ref_none,isnot_ref_none⟩) (fun _ _ _ _ _ _ _ _ _=>⟨is_ref_none,isnot_ref_none⟩)
theorem in_ok {s:Str} {tk:Tok} {b:SV} {v:Value} {k:Bool → Prop} {Qc:Value → Shared → Prop} (rb:VR Z.G.P M.R b v) (t:look b M.H fun w=>inW s w k) (h:∀ b tk,k b → Qc (.bool b) (Z.G.sh M.h tk)):W M (compareOp .In (.str s tk) v) Qc:=by
 obtain ⟨w,r,t⟩:=look_ok rb t
 clear rb
 cases r with
 | str z tk'=>exact in_str (h _ _ t)
 | tup a vs n xs hm r =>
  obtain ⟨l,e,t⟩:=of_opt t
  rw [hasStr_eq] at t
  exact in_tuple_strs (M.isTup hm) (strsOf_are r e) (h _ _ t)
 | lst a vs n xs hm r =>
  obtain ⟨l,e,t⟩:=of_opt t
  rw [hasStr_eq] at t
  exact in_list_strs (M.isList hm) (strsOf_are r e) (h _ _ t)
 | dct a es n kvs hm r hd hs =>
  obtain ⟨us,d1,d2⟩:=M.dictOf hm r hd
  exact wpAny_in_of (strKind_is Z.G.prog Z.G.w s tk) hs d1.mapOf (h _ _ ((d2.at s).1 ▸ t))
 | _=>exact (t:False).elim
theorem strs_mem {vs:List Value} {l:List Str} (s:StrsAre vs l):∀ y ∈ vs,∃ x t,y = .str x t:=by
 induction s with
 | nil=>exact fun _ h=>nomatch h
 | cons x t _ ih=>exact fun y h=>(Mc h).elim (fun e=>⟨x,t,e⟩) (ih y)
theorem eqBool_str_none (prog:Program) (w:World) (A:Around) (E:Value → Shared → Prop) (s:Shared) (Q:Bool → Shared → Prop) (x:Str) (t:Tok) (h:Q false s):wpAny (model prog w) A (eqBool (.str x t) .none) Q E s:=by
 unfold eqBool
 refine wpAny_holding ?_
 rw [if_neg (by intro q;have:=eq_of_beq q;cases this)]
 exact wpAny_bind (EqNone.eq_str_none (wpAny_truthy_bool h))
theorem noIn_ok {b:SV} {v:Value} {k:Bool → Prop} {Qc:Value → Shared → Prop} (rb:VR Z.G.P M.R b v) (t:look b M.H fun w=>noIn w k) (h:∀ b tk,k b → Qc (.bool b) (Z.G.sh M.h tk)):W M (compareOp .In .none v) Qc:=by
 obtain ⟨w,r,t⟩:=look_ok rb t
 clear rb
 cases r with
 | lst a vs n xs hm r =>
  obtain ⟨l,e,t⟩:=of_opt t
  have hs:=strsOf_are r e
  refine SeqInW.in_listW (fun _=>false) (fun y hy=>?_) (M.isList hm) ?_
  ·obtain ⟨x,tx,rfl⟩:=strs_mem hs y (by simpa using hy)
   exact fun prog w A E s Q hq=>eqBool_str_none prog w A E s Q x tx hq
  ·rw [show (vs.toArray.any fun _=>false) = false from by simp]
   exact h _ _ t
 | _=>exact (t:False).elim
theorem notIn_ok {s:Str} {tk:Tok} {b:SV} {v:Value} {k:Bool → Prop} {Qc:Value → Shared → Prop} (rb:VR Z.G.P M.R b v) (t:look b M.H fun w=>inW s w fun c=>k (!c)) (h:∀ b tk,k b → Qc (.bool b) (Z.G.sh M.h tk)):W M (compareOp .NotIn (.str s tk) v) Qc:=by
 obtain ⟨w,r,t⟩:=look_ok rb t
 clear rb
 cases r with
 | str z tk'=>exact notIn_str (h _ _ t)
 | tup a vs n xs hm r =>
  obtain ⟨l,e,t⟩:=of_opt t
  rw [hasStr_eq] at t
  exact notin_tuple_strs (M.isTup hm) (strsOf_are r e) (h _ _ t)
 | lst a vs n xs hm r =>
  obtain ⟨l,e,t⟩:=of_opt t
  rw [hasStr_eq] at t
  exact notin_list_strs (M.isList hm) (strsOf_are r e) (h _ _ t)
 | dct a es n kvs hm r hd hs =>
  obtain ⟨us,d1,d2⟩:=M.dictOf hm r hd
  exact wpAny_notIn_of (strKind_is Z.G.prog Z.G.w s tk) hs d1.mapOf (h _ _ ((d2.at s).1 ▸ t))
 | _=>exact (t:False).elim
theorem eq_ok {a b:SV} {u v:Value} {k:Bool → Prop} {Qc:Value → Shared → Prop} (ra:VR Z.G.P M.R a u) (rb:VR Z.G.P M.R b v) (t:eqV a b k):((∀ b,k b → Qc (.bool b) M.s) → W M (compareOp .Eq u v) Qc) ∧ ((∀ b,k b → Qc (.bool (!b)) M.s) → W M (compareOp .NotEq u v) Qc):=by
 cases a with
 | int i=>cases ra;obtain ⟨j,tj,rfl,t⟩:=asI_ok rb t;exact ⟨fun h=>eq_int (h _ t),fun h=>ne_int (h _ t)⟩
 | str s =>
  cases ra
  have t:(match isNo b with | true=>k false | false=>asS b fun t=>k (sbeq s t)):=t
  cases e:isNo b with
  | true =>
   rw [e] at t
   rw [isNo_ok rb e]
   exact ⟨fun h=>EqNone.eq_str_none (h _ t),fun h=>EqNone.ne_str_none (h _ t)⟩
  | false =>
   rw [e] at t
   obtain ⟨j,tj,rfl,t⟩:=asS_ok rb t
   rw [sbeq_eq] at t
   exact ⟨fun h=>eq_str (h _ t),fun h=>ne_str (h _ t)⟩
 | none=>cases ra;obtain ⟨j,tj,rfl,t⟩:=asS_ok rb t;exact ⟨fun h=>EqNone.eq_none_str (h _ t),fun h=>EqNone.ne_none_str (h _ t)⟩
 | bool c=>cases ra;obtain ⟨j,rfl,t⟩:=asB_ok rb t;exact ⟨fun h=>eq_bool (h _ t),fun h=>ne_bool (h _ t)⟩
 | _=>exact (t:False).elim
theorem cmp_ok {op:CmpOp} {a b:SV} {u v:Value} {k:Bool → Prop} {Qc:Value → Shared → Prop} (ra:VR Z.G.P M.R a u) (rb:VR Z.G.P M.R b v) (t:cmpV op a b M.H k)
  (h:∀ b tk,k b → Qc (.bool b) (Z.G.sh M.h tk)):W M (compareOp op u v) Qc:=by
 cases op with
 | Is=>obtain ⟨e,t⟩:=of_iff t;rw [isNo_ok rb e];exact (isNo_cmp ra).1 (h _ _ t)
 | IsNot=>obtain ⟨e,t⟩:=of_iff t;rw [isNo_ok rb e];exact (isNo_cmp ra).2 (h _ _ t)
 | Eq=>exact (eq_ok ra rb t).1 fun b=>h b _
 | NotEq=>exact (eq_ok (k:=fun c=>k (!c)) ra rb t).2 fun b=>h (!b) _
 | Gt=>obtain ⟨i,ti,rfl,t⟩:=asI_ok ra t;obtain ⟨j,tj,rfl,t⟩:=asI_ok rb t;exact gt_int (h _ _ t)
 | GtE=>obtain ⟨i,ti,rfl,t⟩:=asI_ok ra t;obtain ⟨j,tj,rfl,t⟩:=asI_ok rb t;exact ge_int (h _ _ t)
 | In =>
  revert t
  show (match isNo a with | true=>_ | false=>_) → _
  cases e:isNo a with
  | true=>intro t;rw [isNo_ok ra e];exact noIn_ok rb t h
  | false=>intro t;obtain ⟨s,ts,rfl,t⟩:=asS_ok ra t;exact in_ok rb t h
 | NotIn=>obtain ⟨s,ts,rfl,t⟩:=asS_ok ra t;exact notIn_ok rb t h
 | Lt =>
  revert t
  show (match isI a with | true=>_ | false=>_) → _
  cases isI a with
  | true=>intro t;obtain ⟨i,ti,rfl,t⟩:=asI_ok ra t;obtain ⟨j,tj,rfl,t⟩:=asI_ok rb t;exact lt_int (h _ _ t)
  | false=>intro t;obtain ⟨i,ti,rfl,t⟩:=asS_ok ra t;obtain ⟨j,tj,rfl,t⟩:=asS_ok rb t;exact lt_str (h _ _ t)
 | LtE =>
  revert t
  show (match isI a with | true=>_ | false=>_) → _
  cases isI a with
  | true=>intro t;obtain ⟨i,ti,rfl,t⟩:=asI_ok ra t;obtain ⟨j,tj,rfl,t⟩:=asI_ok rb t;exact le_int (h _ _ t)
  | false=>intro t;obtain ⟨i,ti,rfl,t⟩:=asS_ok ra t;obtain ⟨j,tj,rfl,t⟩:=asS_ok rb t;exact P.le_str (h _ _ t)
noncomputable def FmtOK (G:GC) (T:Tab):Prop:=∀ {A:Around} {E:Value → Shared → Prop} {c:FC} {F:Lg} {H:Hp} {R N:Lg} {m:Str → Option Value} {h:Heap} {tk:Nat} {s:Str} {t:Tok} {sv:SV} {u:Value} {Q:Value → Shared → Prop},
 St G c F H R m h N → VR G.P R sv u → (∀ r,T.fmt s sv = some r → r.length ≤ 100000 → (∀ t' k,Q (.str r t') (G.sh h k)) → wpAny G.M A (binaryOp .Mod (.str s t) u) Q E (G.sh h tk)) ∧
  (T.fmtAny s sv = true → (∀ r t' k,Q (.str r t') (G.sh h k)) → wpAny G.M A (binaryOp .Mod (.str s t) u) Q E (G.sh h tk))
theorem bin_ok {op:Operator} {a b:SV} {u v:Value} {Q:QV} {Qc:Value → Shared → Prop} (fm:FmtOK Z.G Z.T) (ra:VR Z.G.P M.R a u) (rb:VR Z.G.P M.R b v) (t:binV Z.T op a b M.H Q) (q:PQ M Q Qc):W M (binaryOp op u v) Qc:=by
 cases op with
 | Add =>
  revert t
  show (match isI a with | true=>_ | false=>_) → _
  cases isI a with
  | true=>intro t;obtain ⟨i,ti,rfl,t⟩:=asI_ok ra t;obtain ⟨j,tj,rfl,t⟩:=asI_ok rb t;exact add_int (q.use _ t (.int _ _))
  | false=>intro t;obtain ⟨i,ti,rfl,t⟩:=asS_ok ra t;obtain ⟨j,tj,rfl,t⟩:=asS_ok rb t;obtain ⟨t1,t2⟩:=of_bnz t;exact SBL.add (fun t' k _=>q.use _ t2 (.str _ _)) t1
 | Sub=>obtain ⟨i,ti,rfl,t⟩:=asI_ok ra t;obtain ⟨j,tj,rfl,t⟩:=asI_ok rb t;exact sub_int (q.use _ t (.int _ _))
 | Mult =>
  obtain ⟨j,tj,rfl,t⟩:=asI_ok rb t
  revert t
  cases isI a with
  | true=>intro t;obtain ⟨i,ti,rfl,t⟩:=asI_ok ra t;exact mul_int (q.use _ t.2 (.int _ _)) t.1
  | false=>intro t;obtain ⟨i,ti,rfl,t⟩:=asS_ok ra t;exact SB.mul t.1 (fun t' k=>q.use _ t.2 (.str _ _))
 | Mod =>
  revert t
  show (match isI a with | true=>_ | false=>_) → _
  cases isI a with
  | true=>intro t;obtain ⟨i,ti,rfl,t⟩:=asI_ok ra t;obtain ⟨j,tj,rfl,t⟩:=asI_ok rb t;obtain ⟨e,t⟩:=iff_ne t;exact mod_int' e (q.use _ t (.int _ _))
  | false =>
   intro t
   obtain ⟨s,ts,rfl,t⟩:=asS_ok ra t
   revert t
   cases e:Z.T.fmt s b with
   | some r=>intro t;obtain ⟨t1,t2⟩:=of_bnd t (by decide);exact (fm M.st rb).1 r e t1 fun t' k=>q.use _ t2 (.str _ _)
   | none=>intro t;obtain ⟨e,t⟩:=of_iff t;exact (fm M.st rb).2 e fun r t' k=>q.use _ (t r) (.str _ _)
 | FloorDiv=>obtain ⟨i,ti,rfl,t⟩:=asI_ok ra t;obtain ⟨j,tj,rfl,t⟩:=asI_ok rb t;obtain ⟨e,t⟩:=iff_ne t;exact floordiv_int e (q.use _ t.2 (.int _ _)) (.inl t.1)
 | _=>exact (t:False).elim
theorem ibin_ok {op:Operator} {a b:SV} {u v:Value} {Q:QV} {Qc:Value → Shared → Prop} (ho:augOK op = true) (ra:VR Z.G.P M.R a u) (rb:VR Z.G.P M.R b v) (t:binV Z.T op a b M.H Q) (q:PQ M Q Qc):W M (inplaceOp op u v) Qc:=by
 cases op with
 | Add =>
  revert t
  show (match isI a with | true=>_ | false=>_) → _
  cases isI a with
  | true=>intro t;obtain ⟨i,ti,rfl,t⟩:=asI_ok ra t;obtain ⟨j,tj,rfl,t⟩:=asI_ok rb t;exact iadd_int (q.use _ t (.int _ _))
  | false=>intro t;obtain ⟨i,ti,rfl,t⟩:=asS_ok ra t;obtain ⟨j,tj,rfl,t⟩:=asS_ok rb t;obtain ⟨t1,t2⟩:=of_bnz t;exact SBL.iadd (fun t' k _=>q.use _ t2 (.str _ _)) t1
 | Sub=>obtain ⟨i,ti,rfl,t⟩:=asI_ok ra t;obtain ⟨j,tj,rfl,t⟩:=asI_ok rb t;exact isub_int (q.use _ t (.int _ _))
 | _=>cases ho
end
theorem isStr_eq (x k:Str) (t:Tok):(Value.str k t).isStr x = sbeq x k:=by
 rw [sbeq_eq]
 show (k == x) = (x == k)
 exact Bool.beq_comm ..
theorem getL_cons (x k:Str) (t:Tok) (hh:Int) (v:Value) (es:List DictEntry):W.getL x (⟨hh,.str k t,v⟩ :: es) = bif sbeq x k then some (some v) else W.getL x es:=by
 unfold W.getL
 rw [List.find?_cons,List.any_cons]
 dsimp only
 rw [isStr_eq]
 cases sbeq x k <;> rfl
noncomputable def OR (p:PP) (R:Lg) (a:Option SV) (o:Option Value):Prop:=match a with | some x=>∃ v,o = some v ∧ VR p R x v | none=>o = none
theorem DR.getL {p:PP} {R:Lg} (x:Str) {kvs:List (Str × SV)}:∀ {es:List DictEntry},DR p R kvs es → ∃ o,W.getL x es = some o ∧ OR p R (lk x kvs) o:=by
 induction kvs with
 | nil=>intro es r;cases r;exact ⟨none,rfl,rfl⟩
 | cons q kvs ih =>
  intro es r
  cases r with
  | @cons k t y v _ es a r =>
  rw [getL_cons,lk_cons]
  cases sbeq x k with
  | true=>exact ⟨some v,rfl,v,rfl,a⟩
  | false=>exact ih r
theorem DR.putL {p:PP} {R:Lg} {x:Str} {u:SV} {w:Value} {tk:Tok} (hu:VR p R u w) {kvs:List (Str × SV)}:∀ {es:List DictEntry},DR p R kvs es → DR p R (put x u kvs) (W.putL x (PyData.keyHash p.P x) (.str x tk) w es):=by
 induction kvs with
 | nil=>intro es r;cases r;exact .cons hu .nil
 | cons q kvs ih =>
  intro es r
  cases r with
  | @cons k t y v _ es a r =>
  rw [put_cons]
  show DR p R _ (if (Value.str k t).isStr x = true then _ else _)
  rw [isStr_eq]
  cases q:sbeq x k with
  | true=>exact .cons hu r
  | false=>exact .cons a (ih r)
theorem DR.length {p:PP} {R:Lg} {kvs:List (Str × SV)}:∀ {es:List DictEntry},DR p R kvs es → kvs.length = es.length:=by
 induction kvs with
 | nil=>intro es r;cases r;rfl
 | cons q kvs ih=>intro es r;cases r with | cons a r=>exact congrArg Nat.succ (ih r)
structure AKOK0 (G:GC) (d:Addr) (x:Str):Prop where
 pg:plainGet G.K d x = true
 hd:hasDictIn G.K d = true
structure AKP (G:GC) (d:Addr) (x:Str) (b:Option Value):Prop where
 fd:findIn G.K (.ref d) x = some b
 ng:noGet G.K b = true
 al:b.all (fun a=>(typeIn G.K a).any fun t=>t != .type "function" && t != .type "method_descriptor" && t != .type "wrapper_descriptor") = true
 st:findIn G.K (.ref d) "__setattr__" = some (some (.builtin "object.__setattr__"))
 po:plainOver G.K d = true
 tk:takerIn G.K d x = some none
structure AKM (G:GC) (d:Addr) (x:Str) (f:Addr):Prop where
 fd:findIn G.K (.ref d) x = some (some (.ref f))
 isf:isFn G.K (.ref f) = true
 fn:fnIn G.K f = true
 sp:specialIn G.K (.ref f) "__get__" = some (some (.builtin "function.__get__"))
 tk:takesIn G.K (.ref f) = some false
 cp:copiedNames.contains x = false
structure AKC (G:GC) (d:Addr) (x:Str) (u:SV) (a:Value):Prop where
 fd:findIn G.K (.ref d) x = some (some a)
 sp:specialIn G.K a "__get__" = some none
 hi:handedIn a = true
 cp:copiedNames.contains x = false
 vr:VR G.P [] u a
noncomputable def AKOK (G:GC) (d:Addr) (x:Str) (k:AK):Prop:=match k with
 | .plain=>∃ b,AKP G d x b
 | .meth f=>AKM G d x f
 | .const u=>∃ a,AKC G d x u a
noncomputable def AttrOK (G:GC) (T:Tab):Prop:=∀ d x k,atK T d x = some k → AKOK0 G d x ∧ AKOK G d x k
theorem findObj_fn {K:Frag} {C:Addr} {od:Obj} {name:Str} {a g:Value} (hh:hasDictIn K C = true) (ha:findIn K (.ref C) name = some (some a)) (hg:specialIn K a "__get__" = some (some g)) (ht:takesIn K a = some false)
  (hc:copiedNames.contains name = false) (hl:lookIn name od = some none):findObj K C (some od) name = some (Builtin.ObjectAttr.Found.bind g a):=by
 obtain ⟨cd,h1,h2⟩:=any_some hh
 have ho:W.ownOf cd (some od) name = some none:=by
  unfold W.ownOf
  simp [h2,hl]
 unfold findObj
 rw [h1,Option.bind_some,ha,Option.bind_some]
 simp only [hg,ht,Option.bind_some,ho,hc,Bool.false_and,Bool.false_eq_true,if_false]
theorem VR.hand {p:PP} {R:Lg} {v:SV} {u:Value} (r:VR p R v u):handedIn u = true :=
 VR.casesOn (motive_1:=fun _ u _=>handedIn u = true) r rfl (fun _=>rfl) (fun _ _=>rfl) (fun _ _=>rfl) (fun _ _ _ _=>rfl) (fun _=>rfl) (fun _ _=>rfl) (fun _ _ _ _ _ _=>rfl) (fun _ _ _ _ _ _=>rfl) (fun _ _ _ _ _ _ _ _=>rfl) (fun _ _ _ _ _ _=>rfl) (fun _ _ _ _ _ _ _ _ _=>rfl)
section
variable {Z:Cx} {F:Lg} {loc:Loc} {m:Str → Option Value} {M:Mo Z F loc m}
structure InsR (M:Mo Z F loc m) (a d:Addr) (kvs:List (Str × SV)) (dx:Addr) (es:List DictEntry) (n:Nat):Prop where
 at_:InstAt M.h a (instObj d dx) d (some (dictOf es n))
 dr:DR Z.G.P M.R kvs es
noncomputable def IsIns (M:Mo Z F loc m) (w:Vw) (u:Value) (k:Addr → List (Str × SV) → Prop):Prop:=∃ a d kvs dx es n,u = .ref a ∧ w = .ins d kvs ∧ InsR M a d kvs dx es n ∧ k d kvs
theorem ins_ok {w:Vw} {u:Value} {k:Addr → List (Str × SV) → Prop} (r:VwR Z.G.P M.L M.R w u):insW w k → IsIns M w u k :=
 VwR.casesOn (motive:=fun w u _=>insW w k → IsIns M w u k) r (fun t=>t.elim) (fun _ t=>t.elim) (fun _ t=>t.elim) (fun _ _ t=>t.elim) (fun _ _ t=>t.elim) (fun _ _ t=>t.elim) (fun _ _ _ _ _ _ t=>t.elim) (fun _ _ _ _ _ _ t=>t.elim) (fun _ _ _ _ _ _ _ _ t=>t.elim)
  (fun a d c es n kvs h1 h2 r t=>⟨a,c,kvs,d,es,n,rfl,rfl,⟨⟨M.get h1,rfl,rfl,M.get h2⟩,r⟩,t⟩) (fun _ _ _ _ _ _ _ _ _ _ t=>t.elim)
theorem getA_ok {v:SV} {u:Value} {name:Str} {expr:Bool} {Q:QV} {Qc:Value → Shared → Prop} (at':AttrOK Z.G Z.T) (ok:Z.c.Ok Z.G) (r:VR Z.G.P M.R v u) (t:getA Z.T v name M.H fun w=>Q w M.H) (q:PQ M Q Qc):W M (getAttr u name expr) Qc:=by
 obtain ⟨w,rw',t⟩:=look_ok r t
 obtain ⟨a,d,kvs,dx,es,n,rfl,rfl,I,t⟩:=ins_ok rw' t
 obtain ⟨o,g1,g2⟩:=I.dr.getL name
 obtain ⟨ak,e,t⟩:=of_opt t
 obtain ⟨a0,ak'⟩:=at' _ _ _ e
 revert g2
 cases ak with
 | plain =>
  obtain ⟨y,e1,t⟩:=of_opt t
  obtain ⟨b,A1⟩:=ak'
  rw [e1]
  rintro ⟨w',rfl,e3⟩
  exact get_own (s:=M.s) M.st.fr ok.kin I.at_ a0.pg a0.hd A1.fd A1.ng g1 e3.hand (q.use _ t e3)
 | meth f =>
  revert t
  show (match lk name kvs with | none=>_ | some _=>False) → _
  cases lk name kvs with
  | some _=>exact fun t=>t.elim
  | none =>
   rintro t rfl
   have hf:=findObj_fn (K:=Z.G.K) (od:=dictOf es n) a0.hd ak'.fd ak'.sp ak'.tk ak'.cp g1
   refine get_bind (s:=M.s) (M.kin ok) I.at_ (plainGet_of a0.pg).1 hf (plainGet_of a0.pg).2 (wpAny_call (fn_get (s:=Z.G.sh M.h (M.tk + 1)) (M.kin ok) (beq_iff_eq.mp ak'.isf) (handed_on rfl ?_)))
   exact q (.meth f v) _ (M.more (M.h.objs.size,methodObj (.ref f) (.ref a)) (M.h.push (methodObj (.ref f) (.ref a))) (M.tk + 1) (M.st.fr.push _) (M.st.nw.push M.st.fr _) M.size_ne) (Sub.cons _ _) t (.meth _ _ _ _ (.head _) (r.mono (Sub.cons _ _)))
 | const c =>
  revert t
  show (match lk name kvs with | none=>_ | some _=>False) → _
  cases lk name kvs with
  | some _=>exact fun t=>t.elim
  | none =>
   rintro t rfl
   obtain ⟨b,A1⟩:=ak'
   exact get_cls (s:=M.s) M.st.fr ok.kin I.at_ a0.pg a0.hd A1.fd A1.sp A1.hi A1.cp g1 (q.use _ t (A1.vr.mono (Sub.nil _)))
theorem setA_ok {v w:SV} {u u':Value} {name:Str} {Q:Hp → Prop} {Qc:Unit → Shared → Prop} (at':AttrOK Z.G Z.T) (ok:Z.c.Ok Z.G) (r:VR Z.G.P M.R v u) (rw':VR Z.G.P M.R w u') (t:setA Z.T v name w M.H Q)
  (q:PU M Q (Qc ())):W M (setAttr u name u') Qc:=by
 obtain ⟨l,a,o,rfl,rfl,e,t⟩:=own_ok r t
 cases o with
 | inst d kvs =>
  obtain ⟨ak,e1,t⟩:=of_opt t
  obtain ⟨a0,ak'⟩:=at' _ _ _ e1
  cases ak with
  | plain =>
   obtain ⟨b,A1⟩:=ak'
   obtain ⟨t1,t2⟩:=of_iff t
   obtain ⟨n1,rest,mr,nw,ap,nd,back⟩:=M.open e
   cases mr with
   | inst dx _ _ es n dr =>
   obtain ⟨o,g1,_⟩:=dr.getL name
   have rp:=dr.putL (x:=name) (tk:=M.tk + 1) rw'
   have ne:∀ p ∈ rest,p.1 ≠ dx:=fun p hp=>(ap (dx,dictOf es n) (.tail _ (.head _)) p hp).symm
   have ne':adr Z.G.P l a ≠ dx:=fun q=>(List.nodup_cons.mp nd).1 (q ▸ .head _)
   refine set_dict (s:=M.s) (news:=(adr Z.G.P l a,instObj d dx) :: (dx,dictOf es n) :: rest) M.st.fr ok.kin nw ⟨(nw _ (.head _)).1,rfl,rfl,(nw _ (.tail _ (.head _))).1⟩ rfl A1.st A1.po A1.tk a0.hd (by rw [g1];rfl) rfl
    (.tail ne' (.head ne)) (by rw [← rp.length,← lenL_eq];exact Nb t1) (fun h' F' N'=>?_)
   exact back (.inst d (put name w kvs)) [(adr Z.G.P l a,instObj d dx),(dx,dictOf _ _)] h' (M.tk + 2) (.inst _ _ _ _ _ _ rp) rfl F' N' (C:=Qc ()) fun M' h1 h2=>q M' (h2 ▸ Sub.refl _) (h1 ▸ t2)
  | _=>exact (t:False).elim
 | _=>exact (t:False).elim
end
theorem nth_get {α:Type} (n:Nat):∀ xs:List α,nthL n xs = xs[n]?:=by
 induction n with
 | zero=>intro xs;cases xs <;> rfl
 | succ n ih=>intro xs;cases xs with | nil=>rfl | cons x r=>exact (ih r).trans (List.getElem?_cons_succ ..).symm
theorem lt_of_get {α:Type} {xs:List α} {n:Nat} {x:α} (e:xs[n]? = some x):n < xs.length:=by
 rcases Nat.lt_or_ge n xs.length with h | h
 ·exact h
 ·rw [List.getElem?_eq_none h] at e;cases e
theorem seqIndex_pos {n k:Nat} (h:n < k):seqIndex? (n:Int) k = some n:=by
 unfold seqIndex?
 simp
 (first | lia | omega)
theorem seqIndex_neg {n k:Nat} (h:n < k):seqIndex? (Int.negSucc n) k = some (k - 1 - n):=by
 unfold seqIndex?
 simp only [Int.negSucc_eq]
 have h1:¬ (0 ≤ (-((n:Int) + 1))):=by (first | lia | omega)
 simp
 (first | lia | omega)
noncomputable def SQ {α:Type} (xs:List α) (j:Int) (x:α):Prop:=∃ k,seqIndex? j xs.length = some k ∧ xs[k]? = some x ∧ -(2 ^ 63) ≤ j ∧ j < 2 ^ 63 ∧ (0 ≤ j → k = j.toNat)
theorem seqG_ix {α:Type} {xs:List α} {j:Int} {x:α} (hn:xs.length ≤ sizeLine) (e:seqG xs j = some x):SQ xs j x:=by
 have hz:sizeLine = 16777216:=rfl
 cases j with
 | ofNat n =>
  have e':xs[n]? = some x:=(nth_get n xs).symm.trans e
  have hl:=lt_of_get e'
  exact ⟨n,seqIndex_pos hl,e',by show -(2 ^ 63) ≤ (n:Int);(first | lia | omega),by show (n:Int) < 2 ^ 63;(first | lia | omega),fun _=>rfl⟩
 | negSucc n =>
  have e':xs.reverse[n]? = some x:=(nth_get n xs.reverse).symm.trans e
  have hl:=lt_of_get e'
  rw [List.length_reverse] at hl
  rw [List.getElem?_reverse hl] at e'
  exact ⟨xs.length - 1 - n,seqIndex_neg hl,e',by rw [Int.negSucc_eq];(first | lia | omega),by rw [Int.negSucc_eq];(first | lia | omega),fun h=>by rw [Int.negSucc_eq] at h;(first | lia | omega)⟩
theorem sub_plain {slice:Expr} (hs:plainSl slice = true) (o i:Value):subscripted slice false o i = operate [o,i] (getItem o i) :=
 match slice,hs with
 | .Slice ..,h=>Bool.noConfusion h
 | .BoolOp ..,_ | .NamedExpr ..,_ | .BinOp ..,_ | .UnaryOp ..,_ | .Lambda ..,_ | .IfExp ..,_ | .Dict ..,_ | .Set ..,_ | .ListComp ..,_ | .SetComp ..,_ | .DictComp ..,_ | .GeneratorExp ..,_ | .Await ..,_ | .Yield ..,_ | .YieldFrom ..,_ | .Compare ..,_ | .Call ..,_
 | .FormattedValue ..,_ | .JoinedStr ..,_ | .Constant ..,_ | .Attribute ..,_ | .Subscript ..,_ | .Starred ..,_ | .Name ..,_ | .List ..,_ | .Tuple ..,_=>rfl
theorem go_str (value:Expr) (y:Str) (t:Tok) (r:Value):letTemporaryGo value (.str y t) r = pure ():=by cases value <;> rfl
noncomputable def KListOK (G:GC) (T:Tab):Prop:=∀ a xs,lkN a T.klist = some xs → ∃ vs dd n sl,G.K.lookup a = some ⟨.type "list",dd,.seq (List.toArray vs) n,sl⟩ ∧ VRs G.P [] xs vs
structure KDOK (G:GC) (a:Addr) (kvs:List (Str × SV)) (es:List DictEntry) (n:Nat):Prop where
 lo:G.K.lookup a = some (dictOf es n)
 dr:DR G.P [] kvs es
 nd:(kvs.map (·.1)).Nodup
 sm:(a == sysModules) = false
 sz:kvs.length ≤ sizeLine
noncomputable def KDictOK (G:GC) (T:Tab):Prop:=∀ a kvs,lkN a T.kdict = some kvs → ∃ es n,KDOK G a kvs es n
section
variable {Z:Cx} {F:Lg} {loc:Loc} {m:Str → Option Value} {M:Mo Z F loc m}
theorem list_item {value slice:Expr} {a:Addr} {xs:List SV} {vs:List Value} {i:SV} {iv:Value} {R:Lg} {k:SV → Prop} {Qc:Value → Shared → Prop} (hs:plainSl slice = true) (hl:M.h.IsList a vs.toArray) (r:VRs Z.G.P R xs vs) (s:Sub R M.R) (ri:VR Z.G.P M.R i iv)
  (t:asI i fun j=>bnz xs.length (opt (seqG xs j) k)) (q:∀ sv v,k sv → VR Z.G.P M.R sv v → Qc v M.s):W M (subscriptTail value slice (.ref a) iv) Qc:=by
 obtain ⟨j,u,rfl,t⟩:=asI_ok ri t
 obtain ⟨t1,t2⟩:=of_bnz t
 obtain ⟨x,e,t3⟩:=of_opt t2
 obtain ⟨n,e1,e2,h1,h2,h3⟩:=seqG_ix t1 e
 obtain ⟨y,hy,ry⟩:=r.get n e2
 have qq:=q _ _ t3 (ry.mono s)
 rw [r.length] at e1
 by_cases h0:0 ≤ j
 ·have:=h3 h0;subst this
  exact item_listR hl h0 h2 (by rw [List.getElem?_toArray];exact hy) qq (sub_plain hs _ _)
 ·exact kde_neg hl (Int.not_le.mp h0) h1 e1 hy qq (sub_plain hs _ _)
theorem subW_ok {value slice:Expr} {w:Vw} {i:SV} {u iv:Value} {Q:QV} {Qc:Value → Shared → Prop} (hs:plainSl slice = true) (r:VwR Z.G.P M.L M.R w u) (ri:VR Z.G.P M.R i iv) (t:subW w i fun w=>Q w M.H) (q:PQ M Q Qc):W M (subscriptTail value slice u iv) Qc:=by
 cases r with
 | str s ts =>
  obtain ⟨j,tj,rfl,t⟩:=asI_ok ri t
  obtain ⟨e,t⟩:=of_iff t
  obtain ⟨e1,e2⟩:=Ba e
  have t1:=of_decide_eq_true e1
  have t2:=of_decide_eq_true e2
  obtain ⟨t3,t4⟩:=of_bnz t
  have:sizeLine = 16777216:=rfl
  exact item_str (s:=M.s) (by simp only [fitsSsize];simp;(first | lia | omega)) t1 t2 (fun _=>q.use _ t4 (.str _ _)) (sub_plain hs _ _) (go_str _ _ _)
 | tup a vs n xs hm r =>
  obtain ⟨j,tj,rfl,t⟩:=asI_ok ri t
  obtain ⟨t1,t2⟩:=of_bnz t
  obtain ⟨x,e,t3⟩:=of_opt t2
  obtain ⟨n,e1,e2,h1,h2,h3⟩:=seqG_ix t1 e
  obtain ⟨y,hy,ry⟩:=r.get n e2
  rw [r.length] at e1
  exact tail_any (s:=M.s) (M.isTup hm).typeIs slot_tuple_getitem.lookup (getItem_tuple (M.isTup hm) h1 h2 (by rw [List.size_toArray];exact e1) (by rw [List.getElem?_toArray];exact hy) (q.use _ t3 ry)) (sub_plain hs _ _)
 | lst a vs n xs hm r=>exact list_item hs (M.isList hm) r (Sub.refl _) ri t fun sv v k r=>q.use M.tk k r
 | dct a es n kvs hm r hd hsm =>
  obtain ⟨s,ts,rfl,t⟩:=asS_ok ri t
  obtain ⟨y,e,t⟩:=of_opt t
  obtain ⟨us,d1,d2⟩:=M.dictOf hm r hd
  obtain ⟨v,e1,e2⟩:=(d2.at s).2 _ e
  exact tail_any (s:=M.s) d1.typeIs slot_dict_getitem.lookup (wpAny_getItem_of (s:=M.s) (strKind_is Z.G.prog Z.G.w _ _) d1.mapOf e1 (q.use _ t e2)) (sub_plain hs _ _)
 | _=>exact (t:False).elim
theorem fixL_ok {T:Tab} {p:PP} {R:Lg} {v:SV} {u:Value} {xs:List SV} (r:VR p R v u):fixL T v = some xs → ∃ a,u = .ref a ∧ lkN a T.klist = some xs :=
 VR.casesOn (motive_1:=fun v u _=>fixL T v = some xs → ∃ a,u = .ref a ∧ lkN a T.klist = some xs) r (fun t=>no_none t) (fun _ t=>no_none t) (fun _ _ t=>no_none t) (fun _ _ t=>no_none t) (fun _ _ _ _ t=>no_none t) (fun a t=>⟨a,rfl,t⟩) (fun _ _ t=>no_none t) (fun _ _ _ _ _ _ t=>no_none t) (fun _ _ _ _ _ _ t=>no_none t)
  (fun _ _ _ _ _ _ _ _ t=>no_none t) (fun _ _ _ _ _ _ t=>no_none t) (fun _ _ _ _ _ _ _ _ _ t=>no_none t)
theorem fixD_ok {T:Tab} {p:PP} {R:Lg} {v:SV} {u:Value} {xs:List (Str × SV)} (r:VR p R v u):fixD T v = some xs → ∃ a,u = .ref a ∧ lkN a T.kdict = some xs :=
 VR.casesOn (motive_1:=fun v u _=>fixD T v = some xs → ∃ a,u = .ref a ∧ lkN a T.kdict = some xs) r (fun t=>no_none t) (fun _ t=>no_none t) (fun _ _ t=>no_none t) (fun _ _ t=>no_none t) (fun _ _ _ _ t=>no_none t) (fun a t=>⟨a,rfl,t⟩) (fun _ _ t=>no_none t) (fun _ _ _ _ _ _ t=>no_none t) (fun _ _ _ _ _ _ t=>no_none t)
  (fun _ _ _ _ _ _ _ _ t=>no_none t) (fun _ _ _ _ _ _ t=>no_none t) (fun _ _ _ _ _ _ _ _ _ t=>no_none t)
theorem sub_ok {value slice:Expr} {a i:SV} {u iv:Value} {Q:QV} {Qc:Value → Shared → Prop} (kl:KListOK Z.G Z.T) (ok:Z.c.Ok Z.G) (hs:plainSl slice = true) (ra:VR Z.G.P M.R a u) (ri:VR Z.G.P M.R i iv) (t:subV Z.T a i M.H fun w=>Q w M.H) (q:PQ M Q Qc) :
  W M (subscriptTail value slice u iv) Qc:=by
 revert t
 show (match fixL Z.T a with | some xs=>_ | none=>_) → _
 cases e:fixL Z.T a with
 | some xs =>
  intro t
  obtain ⟨b,rfl,e⟩:=fixL_ok ra e
  obtain ⟨vs,dd,n,sl,k1,r⟩:=kl _ _ e
  exact list_item hs (lstK (M.kin ok) k1) r (Sub.nil _) ri t fun sv v k r=>q.use M.tk k r
 | none =>
  intro t
  obtain ⟨w,rw',t⟩:=look_ok ra t
  exact subW_ok hs rw' ri t q
theorem asO_ok {p:PP} {R:Lg} {v:SV} {u:Value} {k:Option Int → Prop} (r:VR p R v u):asO v k → ∃ o,IsPart u o ∧ k o :=
 VR.casesOn (motive_1:=fun v u _=>asO v k → ∃ o,IsPart u o ∧ k o) r (fun t=>⟨_,.none,t⟩) (fun _ t=>t.elim) (fun _ _ t=>⟨_,.int _ _,t⟩) (fun _ _ t=>t.elim) (fun _ _ _ _ t=>t.elim) (fun _ t=>t.elim) (fun _ _ t=>t.elim) (fun _ _ _ _ _ _ t=>t.elim) (fun _ _ _ _ _ _ t=>t.elim) (fun _ _ _ _ _ _ _ _ t=>t.elim) (fun _ _ _ _ _ _ t=>t.elim) (fun _ _ _ _ _ _ _ _ _ t=>t.elim)
theorem isOne_ok {p:PP} {R:Lg} {v:SV} {u:Value} (r:VR p R v u) (h:isOne v = true):∃ tk,u = .int 1 tk:=by
 cases v with
 | int i=>cases r;cases i with
  | ofNat n=>cases (Nq h);exact ⟨_,rfl⟩
  | negSucc n=>cases h
 | _=>cases h
theorem VRs.tail {p:PP} {R:Lg} {xs:List SV} {vs:List Value} (r:VRs p R xs vs):VRs p R xs.tail vs.tail:=by cases r with
 | nil=>exact .nil
 | cons _ r=>exact r
theorem pick_tail (vs:List Value):slicePick vs.toArray (some 1) none none = vs.tail.toArray:=by
 have:=slicePick_from' vs.toArray 1
 rw [show (some ((1:Nat):Int)) = some (1:Int) from rfl] at this
 rw [this]
 simp
theorem slc_ok {value:Expr} {l' u':Option Expr} {p:Pos} {a lo hi:SV} {u vl vu:Value} {Q:QV} {Qc:Value → Shared → Prop} (ra:VR Z.G.P M.R a u) (rl:VR Z.G.P M.R lo vl) (ru:VR Z.G.P M.R hi vu) (t:look a M.H fun w=>slcW w lo hi fun y=>Q y M.H) (q:PQ M Q Qc) :
  wpAny Z.G.M Z.c.A (subscriptTail value (.Slice l' u' none p) u (.ref M.h.objs.size)) Qc Z.Ec (Z.G.sh (M.h.push { cls:=.type "slice",data:=.fields #[vl,vu,.none] }) M.tk):=by
 have hs:∀ o i,subscripted (.Slice l' u' none p) false o i = operate [i,o] (getItem o i):=fun _ _=>rfl
 obtain ⟨w,rw',t⟩:=look_ok ra t
 cases rw' with
 | str s ts =>
  have t:asO lo fun l'=>asO hi fun u'=>bnz s.length (Q (.str (Txt.slice s l' u')) M.H):=t
  obtain ⟨l2,i1,t⟩:=asO_ok rl t
  obtain ⟨u2,i2,t⟩:=asO_ok ru t
  obtain ⟨t1,t2⟩:=of_bnz t
  have k:∀ h' t' k,Fr Z.c.h₀ Z.c.L h' m → News Z.c.h₀ Z.c.L h' M.L → Qc (.str (Txt.slice s l2 u2) t') (Z.G.sh h' k):=fun h' t' k F' N'=>q (.str _) _ (M.heap h' k F' N') (Sub.refl _) t2 (.str _ _)
  cases i1 <;> cases i2
  ·exact slice_strN_nn (s:=M.s) M.st.fr M.st.nw k (hs _ _) (go_str _ _ _) t1
  ·exact slice_strN_ns (s:=M.s) M.st.fr M.st.nw k (hs _ _) (go_str _ _ _) t1
  ·exact slice_strN_sn (s:=M.s) M.st.fr M.st.nw k (hs _ _) (go_str _ _ _) t1
  ·exact slice_strN_ss (s:=M.s) M.st.fr M.st.nw k (hs _ _) (go_str _ _ _) t1
 | lst a vs n xs hm r =>
  obtain ⟨e,t⟩:=of_iff t
  obtain ⟨t1,t2⟩:=of_bnz t
  obtain ⟨e1,e2⟩:=Ba e
  obtain ⟨tt,rfl⟩:=isOne_ok rl e1
  have:=isNo_ok ru e2
  subst this
  rw [r.length] at t1
  have hl:=M.isList hm
  have hd:∀ b o,M.h.get? b = some o → (M.h.push { cls:=.type "slice",data:=.fields #[.int 1 tt,.none,.none] }).get? b = some o:=fun _ _ e=>Heap.get?_push_of_some _ e
  refine tail_any (s:=Z.G.sh (M.h.push _) M.tk) (Heap.IsList.typeIs (s:=Z.G.sh (M.h.push _) M.tk) (hl.push _)) list_getitem_lookup (wpAny_getItem_list_slice (s:=Z.G.sh (M.h.push _) M.tk) (hl.push _) (Heap.IsSliceOf.new ..) (.int _ _) .none .none (by simp) ?_ t1) (hs _ _)
  have N1:=News.push (M.st.fr.push { cls:=.type "slice",data:=.fields #[.int 1 tt,.none,.none] }) (M.st.nw.grown hd) { cls:=.type "list",data:=.seq (slicePick vs.toArray (some 1) none none) }
  rw [pick_tail] at N1 ⊢
  exact q (.lst xs.tail) _ (M.more _ _ M.tk ((M.st.fr.push _).push _) N1 (fun p hp=>by rw [Heap.size_push];exact Nat.ne_of_lt (Nat.lt_succ_of_lt (Heap.lt_size (M.st.nw p hp).1)))) (Sub.cons _ _) t2 (.lst _ _ 0 _ (.head _) (r.tail.mono (Sub.cons _ _)))
 | _=>exact (t:False).elim
end
theorem stored_other {us:List (Str × Value)} {x:Str} {w:Value} (hx:∀ p ∈ us,p.1 ≠ x):us.map (fun kv=>if kv.1 = x then (kv.1,w) else kv) = us:=by
 conv=>rhs;rw [← List.map_id us]
 exact List.map_congr_left fun p hp=>if_neg (hx p hp)
theorem PR.put_new {p:PP} {R:Lg} {x:Str} {u:SV} {w:Value} (hu:VR p R u w) {kvs:List (Str × SV)} {us:List (Str × Value)} (h:PR p R kvs us) (hn:(kvs.map (·.1)).Nodup):PR p R (put x u kvs) (stored us x w):=by
 induction h with
 | nil=>exact .cons hu .nil
 | @cons k y v kvs us a r ih =>
  rw [List.map_cons,List.nodup_cons] at hn
  have ih:=ih hn.2
  rw [put_cons]
  cases q:sbeq x k with
  | true =>
   have:=of_sbeq q;subst this
   have e:stored ((x,v) :: us) x w = (x,w) :: us:=by
    unfold stored
    rw [List.any_cons,decide_eq_true rfl,Bool.true_or,if_pos rfl,List.map_cons,if_pos rfl,stored_other fun p hp e=>hn.1 (by rw [← r.keys];exact e ▸ List.mem_map_of_mem hp)]
   rw [e]
   exact .cons hu r
  | false =>
   have ne:¬ k = x:=(sbeq_false q).symm
   have e:stored ((k,v) :: us) x w = (k,v) :: stored us x w:=by
    unfold stored
    rw [List.any_cons,decide_eq_false ne,Bool.false_or,List.map_cons,if_neg ne]
    split <;> rfl
   rw [e]
   exact .cons a ih
theorem PR.back {p:PP} {R:Lg} {prog:Program} {w:World} (hP:p.P = w.params) {kvs:List (Str × SV)}:∀ {es:List DictEntry} {us:List (Str × Value)},Pairs (PySem.strKind prog w) es us → PR p R kvs us →
  (∀ e ∈ es,∃ k,(PySem.strKind prog w).is k e.key = true ∧ e.hash = (PySem.strKind prog w).hash k) → DR p R kvs es:=by
 induction kvs with
 | nil=>intro es us h q hk;cases q;cases h;exact .nil
 | cons kx kvs ih =>
  intro es us h q hk
  cases q with
  | @cons k x v _ us a r =>
  cases h with
  | @cons e _ _ _ h1 h2 h3 =>
  have ih:=ih h3 r fun e he=>hk e (.tail _ he)
  obtain ⟨k',q1,q2⟩:=hk _ (.head _)
  have:=(PySem.strKind prog w).inj _ _ _ h1 q1
  dsimp only at this h1 h2
  subst this
  obtain ⟨t,ht⟩:=Value.isStrOf_shape h1
  obtain ⟨hh,key,val⟩:=e
  dsimp only at *
  subst ht h2 q2
  show DR p R ((k,x) :: kvs) (⟨PyData.keyHash w.params k,_,_⟩ :: _)
  rw [← hP]
  exact .cons a ih
structure DO (p:PP) (R:Lg) (h:Heap) (d:Addr) (kvs:List (Str × SV)) (es:List DictEntry) (n:Nat):Prop where
 get:h.get? d = some (W.dictOf es n)
 dr:DR p R kvs es
 nd:(kvs.map (·.1)).Nodup
theorem DR.of {p:PP} {R:Lg} {prog:Program} {w:World} {h:Heap} {d:Addr} {us:List (Str × Value)} {kvs:List (Str × SV)} (hP:p.P = w.params) (x:h.DictOf (PySem.strKind prog w) d us) (q:PR p R kvs us):∃ es n,DO p R h d kvs es n:=by
 obtain ⟨o,es,ep,h1,⟨c1,c2,c3⟩,h2,h3,h4,h5⟩:=x
 refine ⟨es.toList,ep,?_,PR.back hP h4 q (fun e he=>h3 e (Array.mem_toList_iff.mp he)),by rw [← q.keys];exact h5⟩
 rw [h1]
 obtain ⟨a,b,c,d⟩:=o
 dsimp only at *
 subst c1 c2 c3 h2
 rfl
theorem put_len {α:Type} (x:Str) (v:α) (l:List (Str × α)):l.length ≤ (put x v l).length:=by
 induction l with
 | nil=>exact Nat.zero_le _
 | cons p r ih =>
  rw [put_cons]
  cases sbeq x p.1 with
  | true=>exact Nat.le_refl _
  | false=>exact Nat.succ_le_succ ih
section
variable {Z:Cx} {F:Lg} {loc:Loc} {m:Str → Option Value} {M:Mo Z F loc m}
theorem setI_ok {v i w:SV} {u iv u':Value} {Q:Hp → Prop} {Qc:Unit → Shared → Prop} (r:VR Z.G.P M.R v u) (ri:VR Z.G.P M.R i iv) (rw':VR Z.G.P M.R w u') (t:setI v i w M.H Q) (q:PU M Q (Qc ())):W M (setItem u iv u') Qc:=by
 obtain ⟨l,a,o,rfl,rfl,e,t⟩:=own_ok r t
 cases o with
 | dict kvs =>
  obtain ⟨y,ty,rfl,t⟩:=asS_ok ri t
  obtain ⟨t1,t2⟩:=of_iff t
  obtain ⟨n1,rest,mr,nw,ap,nd,back⟩:=M.open e
  cases mr with
  | dict _ es n dr hd hsm =>
  obtain ⟨us,⟨es',ep,d1,d2,d3,d4,d5⟩,p2⟩:=dr.isDict (prog:=Z.G.prog) (w:=Z.G.w) rfl hd (n:=n)
  have ho:=nw _ (.head _)
  have hsz:us.length ≤ sizeLine:=by
   rw [p2.len]
   refine Nl (put_len y w kvs) (Nl (lenL_eq _ ▸ Nb t1) (by decide))
  refine wpAny_setItem_pairs (s:=M.s) (strKind_is Z.G.prog Z.G.w y ty) ⟨_,es',ep,ho.1,d1,d2,d3,d4,d5⟩ (fun h' d' sb=>?_) hsz
  obtain ⟨es2,n2,o1,o2,o3⟩:=DR.of (p:=Z.G.P) (R:=M.R) rfl d' (p2.put_new rw' hd)
  have ne:adr Z.G.P l a ≠ Z.c.L:=ho.2.1
  refine back (.dict (put y w kvs)) [(adr Z.G.P l a,dictOf es2 n2)] h' (M.tk + 1) (.dict _ _ _ _ o2 o3 hsm) rfl
   ⟨M.st.fr.ns.sameBut sb ne.symm,fun b o e=>by rw [sb.2 b fun q=>by rw [q,ho.2.2] at e;cases e];exact M.st.fr.keep b o e,M.st.fr.above⟩
   (fun p hp=>by
    rcases Mc hp with rfl | hp
    ·exact ⟨o1,ho.2⟩
    ·have:=nw p (.tail _ hp)
     exact ⟨by rw [sb.2 _ (ap _ (.head _) p hp).symm];exact this.1,this.2⟩) (C:=Qc ()) fun M' h1 h2=>q M' (h2 ▸ Sub.refl _) (h1 ▸ t2)
 | _=>exact (t:False).elim
end
section
variable {prog:Program} {w:World} {A:Around} {E:Value → Shared → Prop} {s:Shared} {K:Frag} {x C d:Addr} {ox od:Obj}
structure ClsOK (K:Frag) (C:Addr):Prop where
 pg:plainGet K C "__class__" = true
 f:findIn K (.ref C) "__class__" = some (some (.builtin "object.__class__"))
 g:specialIn K (.builtin "object.__class__") "__get__" = some (some (.builtin "getset_descriptor.__get__"))
 t:takesIn K (.builtin "object.__class__") = some true
 m:mroIn K C (.type "object") = some true
 c:(clsIn K C).isSome = true
structure IsaK (K:Frag) (c d:Addr) (b:Bool):Prop where
 own:ClsOK K c
 cls:(clsIn K d).isSome = true
 ty:typeIn K (.ref d) = some (.type "type")
 inst:instIn K (.ref d) (.type "type") = some true
 sub:subIn K (.ref c) (.ref d) = some b
 ne:b = false → c ≠ d
theorem class_of {Q:Option Value → Shared → Prop} (X:K.In s.heap) (I:InstAt s.heap x ox C (some od)) (O:ClsOK K C) (h:Q (some (.ref C)) { s with toks:=s.toks + 1 }):wpAny (model prog w) A (getAttr? (.ref x) "__class__") Q E s:=by
 obtain ⟨hh,g,dr,t,os⟩:=s
 have L0:=I.type (M:=model prog w)
 have L1:=looks_findIn (M:=model prog w) X (plainGet_of O.pg).1
 unfold getAttr? getAttrBy?
 refine wpAny_bind (wpAny_mkText (wpAny_bind (wpAny_attempt ?_)))
 unfold getAttrBy
 refine wpAny_holding (wpAny_bind (L0.at (wpAny_bind (L1.at ?_))))
 show wpAny _ _ (getAttrEveryday _ _ _) _ _ _
 have hf:findObj K C (some od) "__class__" = some (.bind (.builtin "getset_descriptor.__get__") (.builtin "object.__class__")):=findObj_data O.c O.f O.g O.t
 have L3:=looks_find (M:=model prog w) X I hf
 have L2:=looks_findIn (M:=model prog w) X (plainGet_of O.pg).2
 refine wpAny_bind (wpAny_onRaise (wpAny_runValue (codeAny_builtin F.plainObj_entry_getattr_hooked ?_)))
 refine wpAny_bind (wpAny_pure (wpAny_bind (L0.at (wpAny_bind (L3.at (wpAny_bind (L2.at ?_)))))))
 show wpAny _ _ (holding [_] (call _ [_,.ref x,.ref C]) >>= ret) _ _ _
 refine wpAny_bind (wpAny_holding ?_)
 refine wpAny_call (class_get (s:=⟨hh,g,dr,t + 1,os⟩) X I O.m ?_)
 refine wpAny_pure ?_
 show wpAny _ _ (handedOut (.ref C)) _ _ _
 exact handed_on rfl (wpAny_pure h)
theorem nested_of {b:Bool} {dep:Int} {tk:Tok} {Q:Fin → Shared → Prop} (X:K.In s.heap) (I:InstAt s.heap x ox C (some od)) (O:IsaK K C d b) (h:∀ tk',Q (.done (.ret (.bool b))) { s with toks:=tk' }) :
  wpAny (model prog w) A (Builtin.«isinstance.nested» ⟨[.ref x,.ref d,.int dep tk],[]⟩) Q E s:=by
 cases b with
 | true=>exact isi_nested X I.type (by unfold isIn;rw [O.cls,O.ty,O.inst,O.sub];simp) (h s.toks)
 | false =>
  obtain ⟨hh,g,dr,tt,os⟩:=s
  have ht:=I.type (M:=model prog w)
  unfold Builtin.«isinstance.nested»
  refine wpAny_bind (ht.at ?_)
  rw [if_neg (fun q=>O.ne rfl (by simpa using beq_iff_eq.mp q))]
  have L1:=looks_typeIn (M:=model prog w) X O.ty
  have L2:=looks_instIn (M:=model prog w) X O.inst
  have L4:Looks (model prog w) hh (isSubtype (.ref C) (.ref d)) false:=looks_subIn X O.sub
  have L3:Looks (model prog w) hh (isInstance (.ref x) (.ref d)) false:=ht.andThen L4
  have e0:=O.cls
  have e1:=O.own.c
  refine wpAny_bind (L1.at ?_)
  rw [if_pos (by decide)]
  k_delta "plainIsInstance"
  unfold isType
  repeat lk
  unfold clsIn at e0 e1
  split at e0
  ·rename_i ho
   split at e1
   ·rename_i ho1
    refine nd_load (X _ _ ho) (nd_pure (wpAny_pure ?_))
    simp only [Bool.not_true,Bool.false_eq_true,if_false]
    refine wpAny_bind (L3.at ?_)
    simp only [Bool.false_eq_true,if_false]
    refine wpAny_bind (class_of X I O.own ?_)
    repeat lk
    refine nd_load (X _ _ ho1) (nd_pure (wpAny_pure ?_))
    simp only [Bool.not_true,Bool.false_eq_true,if_false]
    refine wpAny_bind (wpAny_rule ?_)
    refine L4.at ?_
    exact wpAny_pure (h _)
   ·cases e1
  ·cases e0
theorem isi_one {b:Bool} {Q:Value → Shared → Prop} (X:K.In s.heap) (I:InstAt s.heap x ox C (some od)) (O:IsaK K C d b) (h:∀ tk',Q (.bool b) { s with toks:=tk' }):wpAny (model prog w) A (call (.builtin "isinstance") [.ref x,.ref d]) Q E s :=
 call_isinstance (S:=fun _ R s=>(K.In s.heap ∧ InstAt s.heap x ox C (some od)) ∧ ∀ tk',R (.ok (.ret (.bool b))) { s with toks:=tk' })
  (fun _ _ _ _ _ hs=>isinstance_outer (nested_of hs.1.1 hs.1.2 O hs.2) (by intro e;cases e)) ⟨⟨X,I⟩,h⟩
inductive AnsK (K:Frag) (C:Addr):List Value → List Bool → Prop
 | nil:AnsK K C [] []
 | cons {d:Addr} {b:Bool} {cs:List Value} {bs:List Bool}:IsaK K C d b → AnsK K C cs bs → AnsK K C (.ref d :: cs) (b :: bs)
theorem AnsK.all {cs:List Value} {bs:List Bool} (a:AnsK K C cs bs):AnswersAll (fun s=>K.In s.heap ∧ InstAt s.heap x ox C (some od)) (.ref x) cs bs:=by
 induction a with
 | nil=>trivial
 | cons o _ ih=>exact ⟨fun dep tk _ _ _ _ s hs=>nested_of hs.1.1 hs.1.2 o hs.2,ih⟩
theorem nested_tup {cs:List Value} {bs:List Bool} {tp:Addr} {n:Nat} {tk:Tok} {Q:Fin → Shared → Prop} (X:K.In s.heap) (I:InstAt s.heap x ox C (some od)) (hC:(clsIn K C).isSome = true) (a:AnsK K C cs bs)
  (htp:s.heap.get? tp = some { cls:=.type "tuple",data:=.seq cs.toArray n }) (hq:∀ tk',Q (.done (.ret (.bool (bs.any id)))) { s with toks:=tk' }) :
  wpAny (model prog w) A (Builtin.«isinstance.nested» ⟨[.ref x,.ref tp,.int 0 tk],[]⟩) Q E s:=by
 have ne:C ≠ tp:=fun e=>by
  unfold clsIn at hC
  split at hC
  ·rename_i ho
   have:=X _ _ ho
   rw [e,htp] at this
   cases this
  ·cases hC
 have hs:(fun s:Shared=>K.In s.heap ∧ InstAt s.heap x ox C (some od)) s:=⟨X,I⟩
 obtain ⟨h,g,d,t,os⟩:=s
 have ht:=I.type (M:=model prog w)
 have hT2:(⟨h,g,d,t,os⟩:Shared).TypeIs (.ref tp) "tuple":=⟨_,htp,rfl⟩
 have f1:=F.isi_sub_tuple
 unfold Builtin.«isinstance.nested»
 refine wpAny_bind (ht.at ?_)
 rw [if_neg (fun q=>ne (by simpa using beq_iff_eq.mp q))]
 repeat (any_goals (first | assumption | wp_step))
 refine wpAny_arrayLoop ?_
 simp only [Option.getD_some,List.toList_toArray]
 refine isinstance_items (P:=fun s=>K.In s.heap ∧ InstAt s.heap x ox C (some od)) (dep:=0) (fun _ _ h=>h) cs bs _ _ a.all hs fun tk'=>?_
 cases hv:bs.any id with
 | true =>
  simp only [if_true]
  repeat (any_goals (first | assumption | wp_step))
  exact hv ▸ hq tk'
 | false =>
  simp only [Bool.false_eq_true,if_false]
  repeat (any_goals (first | assumption | wp_step))
  exact hv ▸ hq tk'
theorem isi_tup {cs:List Value} {bs:List Bool} {tp:Addr} {n:Nat} {Q:Value → Shared → Prop} (X:K.In s.heap) (I:InstAt s.heap x ox C (some od)) (hC:(clsIn K C).isSome = true) (a:AnsK K C cs bs)
  (htp:s.heap.get? tp = some { cls:=.type "tuple",data:=.seq cs.toArray n }) (h:∀ tk',Q (.bool (bs.any id)) { s with toks:=tk' }):wpAny (model prog w) A (call (.builtin "isinstance") [.ref x,.ref tp]) Q E s :=
 call_isinstance (S:=fun _ R s=>(K.In s.heap ∧ InstAt s.heap x ox C (some od) ∧ s.heap.get? tp = some { cls:=.type "tuple",data:=.seq cs.toArray n }) ∧ ∀ tk',R (.ok (.ret (.bool (bs.any id)))) { s with toks:=tk' })
  (fun _ _ _ _ _ hs=>isinstance_outer (nested_tup hs.1.1 hs.1.2.1 hC a hs.1.2.2 hs.2) (by intro e;cases e)) ⟨⟨X,I,htp⟩,h⟩
end
noncomputable def bmId (b:BM):String:=match b with
 | .append=>"list.append"
 | .pop=>"list.pop"
 | .copy=>"dict.copy"
 | .startswith=>"str.startswith"
 | .join=>"str.join"
 | .encode=>"str.encode"
noncomputable def CalR (G:GC) (R:Lg) (c:Cal) (p:Value × List Value):Prop:=match c with
 | .fn f xs=>∃ vs,p = (.ref f,vs) ∧ VRs G.P R xs vs ∧ fnIn G.K f = true
 | .val u=>∃ v,p = (v,[]) ∧ VR G.P R u v
 | .bm b self=>∃ v,p = (.builtin (bmId b),[v]) ∧ VR G.P R self v
theorem sapp (a b:Str):(a ++ b).cps.toList = a.cps.toList ++ b.cps.toList:=by
 show (Str.append a b).cps.toList = _
 exact Array.toList_append
theorem sapp_assoc (a b d:Str):(a ++ b) ++ d = a ++ (b ++ d):=sext (by rw [sapp,sapp,sapp,sapp,List.append_assoc])
theorem empty_sapp (a:Str):Str.empty ++ a = a:=sext (by rw [sapp];rfl)
theorem sapp_empty (a:Str):a ++ Str.empty = a:=sext (by rw [sapp];exact List.append_nil _)
theorem joined_snoc (x:Str) (l:List Str):joined (l ++ [x]) = joined l ++ x:=by
 induction l with
 | nil=>show x ++ Str.empty = Str.empty ++ x;rw [sapp_empty,empty_sapp]
 | cons y r ih=>show y ++ joined (r ++ [x]) = (y ++ joined r) ++ x;rw [ih,sapp_assoc]
theorem slen_app (a b:Str):(a ++ b).length = a.length + b.length:=by rw [← slen,← slen,← slen,sapp,List.length_append]
theorem joined_len (l:List Str):(l.map (·.length)).sum = (joined l).length:=by
 induction l with
 | nil=>rfl
 | cons y r ih=>rw [List.map_cons,List.sum_cons,ih];exact (slen_app ..).symm
theorem snil {s:Str} (h:nil? s.cps.toList = true):s = Str.empty:=sext (by
 cases e:s.cps.toList with
 | nil=>rfl
 | cons a r=>rw [e] at h;cases h)
theorem StrsAre.snoc {vs:List Value} {ys:List Str} (h:StrsAre vs ys) (y:Str) (t:Tok):StrsAre (vs ++ [.str y t]) (ys ++ [y]):=by
 induction h with
 | nil=>exact .cons y t .nil
 | cons a b _ ih=>exact .cons a b ih
theorem kl_some {v:Value} {vs:List Value}:kl_last (v :: vs) = (match kl_last vs with | some (p,y)=>some (v :: p,y) | none=>some ([],v)):=rfl
theorem unsnoc_cons {α:Type} (x:α) (r:List α):unsnoc (x :: r) = (match unsnoc r with | some p=>some (x :: p.1,p.2) | none=>some ([],x)):=rfl
theorem unsnoc_last {p:PP} {R:Lg} {xs:List SV}:∀ {vs:List Value},VRs p R xs vs → (unsnoc xs = none ∧ kl_last vs = none) ∨ ∃ q z r y,unsnoc xs = some (q,z) ∧ kl_last vs = some (r,y) ∧ VRs p R q r ∧ VR p R z y:=by
 induction xs with
 | nil=>intro vs r;cases r;exact .inl ⟨rfl,rfl⟩
 | cons x xs ih =>
  intro vs r
  cases r with
  | @cons _ v _ vs a r =>
  refine .inr ?_
  rcases ih r with ⟨h1,h2⟩ | ⟨q,z,s,y,h1,h2,h3,h4⟩
  ·exact ⟨[],x,[],v,by rw [unsnoc_cons,h1],by rw [kl_some,h2],.nil,a⟩
  ·exact ⟨x :: q,z,v :: s,y,by rw [unsnoc_cons,h1],by rw [kl_some,h2],.cons a h3,h4⟩
theorem bm_names {x:Str} {l:List (Str × BM)} {k:BM → Prop} (h:bmOf x l k):∃ b,(x,b) ∈ l ∧ k b:=by
 obtain ⟨b,e,t⟩:=of_opt h
 refine ⟨b,?_,t⟩
 clear h t
 induction l with
 | nil=>cases e
 | cons p r ih =>
  rw [lk_cons] at e
  cases q:sbeq x p.1 with
  | true=>rw [q] at e;cases e;rw [of_sbeq q];exact .head _
  | false=>rw [q] at e;exact .tail _ (ih e)
theorem strMeth {M:Model} {A:Around} {E:Value → Shared → Prop} {y:Str} {t:Tok} {name:Str} {id:String} {pl:Sem Bool} {Q:Value × List Value → Shared → Prop} {s:Shared} (slot:Slot "str" name id) (hty:typeOf (.builtin id) = pure (.type "method_descriptor")) (q:Q (.builtin id,[.str y t]) s) :
  wpAny M A (getMethod (.str y t) name pl) Q E s:=by
 have hT:s.TypeIs (.str y t) "str":=rfl
 with_reducible refine getMethod_builtin hT PySem.F.plainAttrs_str slot hty ?_ q
 intro a e;cases e
section
variable {Z:Cx} {F:Lg} {loc:Loc} {m:Str → Option Value} {M:Mo Z F loc m}
theorem ins_res {v:SV} {a d dx:Addr} {kvs:List (Str × SV)} {es:List DictEntry} {n:Nat} {name:Str} {pl:Sem Bool} {k:Cal → Prop} {Qc:Value × List Value → Shared → Prop} (at':AttrOK Z.G Z.T) (ok:Z.c.Ok Z.G) (r:VR Z.G.P M.R v (.ref a)) (I:InsR M a d kvs dx es n)
  (t:resK (atK Z.T d name) v (lk name kvs) k) (q:∀ cal p tk,k cal → CalR Z.G M.R cal p → Qc p (Z.G.sh M.h tk)):W M (getMethod (.ref a) name pl) Qc:=by
 obtain ⟨o,g1,g2⟩:=I.dr.getL name
 obtain ⟨ak,e,t⟩:=of_opt t
 obtain ⟨a0,ak'⟩:=at' _ _ _ e
 cases ak with
 | plain =>
  obtain ⟨y,e1,t⟩:=of_opt t
  obtain ⟨b,A1⟩:=ak'
  rw [e1] at g2
  obtain ⟨w',rfl,e5⟩:=g2
  with_reducible refine method_usual (s:=M.s) (M.kin ok) I.at_ (plainGet_of a0.pg).1 (plainGet_of a0.pg).2 A1.fd A1.al (get_own (s:=M.s) M.st.fr ok.kin I.at_ a0.pg a0.hd A1.fd A1.ng g1 e5.hand ?_)
  exact q _ _ _ t ⟨_,rfl,e5⟩
 | meth f =>
  have ak':AKM Z.G d name f:=ak'
  revert t g2
  show OR _ _ (lk name kvs) o → (match lk name kvs with | none=>_ | some _=>False) → _
  cases lk name kvs with
  | some _=>exact fun _ t=>t.elim
  | none =>
   rintro rfl t
   with_reducible refine method_inst (s:=M.s) M.st.fr ok.kin I.at_ a0.pg ak'.fd ak'.isf g1 ?_
   exact q (.fn f [v]) _ M.tk t ⟨_,rfl,.cons r .nil,ak'.fn⟩
 | const c=>exact (t:False).elim
theorem res_ok {v:SV} {u:Value} {name:Str} {pl:Sem Bool} {k:Cal → Prop} {Qc:Value × List Value → Shared → Prop} (at':AttrOK Z.G Z.T) (kd:KDictOK Z.G Z.T) (ok:Z.c.Ok Z.G) (r:VR Z.G.P M.R v u) (t:resM Z.T v name M.H k)
  (q:∀ cal p tk,k cal → CalR Z.G M.R cal p → Qc p (Z.G.sh M.h tk)):W M (getMethod u name pl) Qc:=by
 have qb:∀ b,k (.bm b v) → Qc (.builtin (bmId b),[u]) M.s:=fun b t=>q _ _ M.tk t ⟨u,rfl,r⟩
 revert t
 show (match fixD Z.T v with | some _=>_ | none=>_) → _
 cases e:fixD Z.T v with
 | some kvs =>
  intro t
  obtain ⟨d,rfl,e⟩:=fixD_ok r e
  obtain ⟨es,n,D⟩:=kd _ _ e
  have ho:=(M.kin ok) _ _ D.lo
  have hT:M.s.TypeIs (.ref d) "dict":=⟨_,ho,rfl⟩
  obtain ⟨b,hm,t⟩:=bm_names t
  cases hm with
  | tail _ hm=>cases hm
  | head =>
  with_reducible refine getMethod_builtin hT PySem.F.plainAttrs_dict PySem.F.slot_dict_copy PySem.F.type_dict_copy ?_ ?_
  ·intro a e;cases e;exact ⟨_,ho,rfl⟩
  ·exact qb _ t
 | none =>
  intro t
  obtain ⟨w,rw',t⟩:=look_ok r t
  cases rw' with
  | str y ty =>
   obtain ⟨b,hm,t⟩:=bm_names t
   cases hm with
   | head=>(with_reducible refine strMeth PySem.F.slot_str_startswith PySem.F.type_str_startswith ?_);exact qb _ t
   | tail _ hm=>cases hm with
    | head=>(with_reducible refine strMeth PySem.F.slot_str_join PySem.F.type_str_join ?_);exact qb _ t
    | tail _ hm=>cases hm with
     | head=>(with_reducible refine strMeth PySem.F.slot_str_encode PySem.F.type_str_encode ?_);exact qb _ t
     | tail _ hm=>cases hm
  | lst a vs n xs hm r =>
   obtain ⟨b,hb,t⟩:=bm_names t
   cases hb with
   | head=>(with_reducible refine listMethod_K (s:=M.s) M.st.nw hm PySem.F.slot_list_append PySem.F.type_list_append ?_);exact qb _ t
   | tail _ hb=>cases hb with
    | head=>(with_reducible refine listMethod_K (s:=M.s) M.st.nw hm PySem.F.slot_list_pop PySem.F.type_list_pop ?_);exact qb _ t
    | tail _ hb=>cases hb
  | acc a tx n vs ys n' hm r e1 e2 =>
   obtain ⟨b,hb,t⟩:=bm_names t
   cases hb with
   | head=>(with_reducible refine listMethod_K (s:=M.s) M.st.nw hm PySem.F.slot_list_append PySem.F.type_list_append ?_);exact qb _ t
   | tail _ hb=>cases hb
  | ins a d c es n kvs h1 h2 r'=>exact ins_res at' ok r ⟨⟨M.get h1,rfl,rfl,M.get h2⟩,r'⟩ t q
  | _=>exact (t:False).elim
end
section
variable {prog:Program} {w:World} {A:Around} {E:Value → Shared → Prop} {s:Shared}
open Builtin._codecs in
structure Enc (c:Nat) (bs:List Nat) (out:Array UInt8):Prop where
 run:∀ self,encodeNarrow "str.encode" utf8Codec none self ⟨#[c]⟩ = pure out
 eq:out.toList.map UInt8.toNat = bs
 le:out.size ≤ sizeLine
noncomputable abbrev EncP (p:Nat × List Nat):Prop:=Enc p.1 p.2 ⟨p.2.map Nat.toUInt8⟩
theorem enc_cons {q:Nat × List Nat} {r:List (Nat × List Nat)} (h:EncP q) (k:∀ p ∈ r,EncP p):∀ p ∈ q :: r,EncP p:=fun p hp=>by
 cases hp with
 | head=>exact h
 | tail _ hp=>exact k p hp
theorem enc_all:∀ p ∈ encTab,EncP p:=by
 unfold encTab
 repeat (refine enc_cons ⟨fun _=>by rfl',by rfl,by decide⟩ ?_)
 exact fun _ h=>nomatch h
open Builtin Builtin._codecs in
theorem encode_tree2 (x:Str) (t u:Tok):Builtin.«str.encode» ⟨[.str x t,.str "utf-8" u],[]⟩ = (do ret (← encodeRoad "str.encode" (.str x t) x (Str.ofString "utf-8") none)):=by
 first | with_unfolding_all rfl | kernel_rfl | skip
theorem encode_one {c:Nat} {bs:List Nat} {out:Array UInt8} {t u:Tok} {Q:Value → Shared → Prop} (O:Enc c bs out) (h:∀ t' k,Q (.bytes out t') { s with toks:=k }) :
  wpAny (model prog w) A (call (.builtin "str.encode") [.str ⟨#[c]⟩ t,.str "utf-8" u]) Q E s:=by
 have hT:s.TypeIs (.str ⟨#[c]⟩ t) "str":=rfl
 refine wpAny_call_entry PySem.F.slot_str_encode hT PySem.F.entry_str_encode ?_ (PySem.F.args_str_encode_2 _ _)
 rw [encode_tree2,PySem.encodeRoad_utf8,O.run]
 exact wpAny_bind (wpAny_bind (wpAny_pure (wpAny_mkBytes (wpAny_pure ⟨_,rfl,h _ _⟩) O.le)))
end
theorem glued_from (r:List Str):∀ acc:Array Nat,(r.foldl (fun acc p=>acc ++ Str.empty.cps ++ p.cps) acc).toList = acc.toList ++ (joined r).cps.toList:=by
 induction r with
 | nil=>intro acc;exact (List.append_nil _).symm
 | cons y r ih =>
  intro acc
  rw [List.foldl_cons,ih]
  show _ = acc.toList ++ (y ++ joined r).cps.toList
  rw [sapp,Array.toList_append,Array.toList_append,← List.append_assoc]
  exact congrArg (· ++ _) (congrArg (· ++ _) (List.append_nil _))
theorem glued_empty (ys:List Str):Txt.join Str.empty ys = joined ys:=by
 refine sext ?_
 show ((ys.drop 1).foldl (fun acc p=>acc ++ Str.empty.cps ++ p.cps) (ys.headD Str.empty).cps).toList = _
 rw [glued_from]
 cases ys with
 | nil=>rfl
 | cons y r=>exact (sapp y (joined r)).symm
section
variable {Z:Cx} {F:Lg} {loc:Loc} {m:Str → Option Value} {M:Mo Z F loc m}
theorem Mo.big (M:Mo Z F loc m) (ok:Z.c.Ok Z.G) {a:Addr} (h:M.h.objs.size ≤ a):(a == sysModules) = false:=by
 obtain ⟨oL,_,_,hL,_⟩:=M.st.fr.ns
 exact beq_eq_false_iff_ne.mpr (Nat.ne_of_gt (Nat.lt_of_lt_of_le (Nat.lt_trans (Nat.lt_of_lt_of_le (modules_low ok.top.nolimit) M.st.fr.above) (Heap.lt_size hL)) h))
theorem one_ok {vs:List SV} {us:List Value} {k:SV → Prop} (rs:VRs Z.G.P M.R vs us) (t:one1 vs k):∃ x u,us = [u] ∧ VR Z.G.P M.R x u ∧ k x:=by
 cases rs with
 | nil=>exact t.elim
 | cons a r=>cases r with
  | nil=>exact ⟨_,_,rfl,a,t⟩
  | cons _ _=>exact (t:False).elim
theorem join_ok {s:Str} {ty:Tok} {w:Vw} {u:Value} {Q:QV} {Qc:Value → Shared → Prop} (r:VwR Z.G.P M.L M.R w u) (t:joinW s w fun r=>Q (.str r) M.H) (q:PQ M Q Qc):W M (call (.builtin "str.join") [.str s ty,u]) Qc:=by
 cases r with
 | lst a vs n xs hm r =>
  obtain ⟨l,e,t⟩:=of_opt t
  obtain ⟨t1,t⟩:=of_iff t
  obtain ⟨t2,t3⟩:=of_bnz t
  exact join_listC (s:=M.s) (M.isList hm) (strsOf_are r e) (Nb t1) t2 fun t' k=>q.use _ t3 (.str _ _)
 | acc a tx n vs ys n' hm r e1 e2 =>
  obtain ⟨e,t⟩:=of_iff t
  obtain ⟨t1,t2⟩:=of_bnz t
  rw [snil e]
  refine join_list (s:=M.s) (M.isList hm) r ?_ fun t' k=>?_
  ·rw [joined_len,e1]
   exact t1
  ·rw [glued_empty,e1];exact q.use _ t2 (.str _ _)
 | _=>exact (t:False).elim
theorem lkN_mem {α:Type} {n:Nat} {l:List (Nat × α)} {v:α} (e:lkN n l = some v):(n,v) ∈ l:=by
 induction l with
 | nil=>cases e
 | cons p r ih =>
  have e:(match Nat.beq n p.1 with | true=>some p.2 | false=>lkN n r) = some v:=e
  cases q:Nat.beq n p.1 with
  | true=>rw [q] at e;cases e;rw [Nq q];exact .head _
  | false=>rw [q] at e;exact .tail _ (ih e)
structure LAt (M:Mo Z F loc m) (l:Nat) (a:Addr) (xs:List SV) (vs:List Value) (n:Nat) (rest:Lg):Prop where
 vr:VRs Z.G.P M.R xs vs
 nw:News Z.c.h₀ Z.c.L M.h ((a,W.listOf vs.toArray n) :: rest)
 ne:∀ p ∈ rest,p.1 ≠ a
 back:∀ {sv:SV} {v:Value} {Q:QV} {Qc:Value → Shared → Prop} (xs':List SV) (vs':List Value) (n':Nat) (h':Heap),PQ M Q Qc → VRs Z.G.P M.R xs' vs' → VR Z.G.P M.R sv v → Q sv (setH l (.list xs') M.H) → Fr Z.c.h₀ Z.c.L h' m → News Z.c.h₀ Z.c.L h' ((a,W.listOf vs'.toArray n') :: rest) → Qc v (Z.G.sh h' M.tk)
theorem list_at {l:Nat} {a:Option Addr} {xs:List SV} (e:fnd l M.H = some (a,.list xs)):∃ vs n rest,LAt M l (adr Z.G.P l a) xs vs n rest:=by
 obtain ⟨n1,rest,mr,nw,ap,nd,back⟩:=M.open e
 generalize adr Z.G.P l a = A at *
 cases mr with
 | list _ vs n r=>exact ⟨vs,n,rest,r,nw,fun p hp=>(ap _ (.head _) p hp).symm,fun xs' vs' n' h' q r' ry t F' N'=>back (.list xs') _ h' M.tk (.list _ _ _ _ r') rfl F' N' fun M' h1 h2=>q _ _ M' (h2 ▸ Sub.refl _) (h1 ▸ t) (h2 ▸ ry)⟩
theorem of_list {o:MO} {k:List SV → Prop} (h:listM o k):∃ xs,o = .list xs ∧ k xs:=by cases o with | list xs=>exact ⟨xs,rfl,h⟩ | _=>exact h.elim
theorem app_ok {v x:SV} {u ux:Value} {Q:QV} {Qc:Value → Shared → Prop} (r:VR Z.G.P M.R v u) (rx:VR Z.G.P M.R x ux) (t:own v M.H fun l o=>appM o x fun o'=>Q .none (setH l o' M.H)) (q:PQ M Q Qc):W M (call (.builtin "list.append") [u,ux]) Qc:=by
 obtain ⟨l,a,o,rfl,rfl,e,t⟩:=own_ok r t
 cases o with
 | list xs =>
  obtain ⟨vs,n,rest,L⟩:=list_at e
  have t:=of_bnz t
  exact append_K (s:=M.s) M.st.fr L.nw (.head L.ne) (fun h' F' N'=>L.back (xs ++ [x]) (vs ++ [ux]) (n + 1) h' q (VRs.append (.cons rx .nil) L.vr) .none t.2 F' (by rw [List.push_toArray] at N';exact N')) (by rw [List.size_toArray,← L.vr.length];exact t.1)
 | acc tx k =>
  obtain ⟨y,ty,rfl,t1,t2⟩:=asS_ok rx t
  obtain ⟨n1,rest,mr,nw,ap,nd,back⟩:=M.open e
  generalize adr Z.G.P l a = A at *
  cases mr with
  | acc _ _ vs ys n r e1 e2 =>
   refine append_K (s:=M.s) M.st.fr nw (.head fun p hp=>(ap _ (.head _) p hp).symm) (fun h' F' N'=>?_) (by rw [List.size_toArray,StrsAre.length r];exact Nl e2 (Nl t1 (by decide)))
   rw [List.push_toArray] at N'
   exact back _ _ h' M.tk (.acc _ _ _ _ (ys ++ [y]) _ (StrsAre.snoc r y ty) (by rw [joined_snoc,e1]) (by rw [List.length_append];exact Nat.succ_le_succ e2)) rfl F' N' (C:=Qc .none) fun M' h1 h2=>q _ _ M' (h2 ▸ Sub.refl _) (h1 ▸ t2) .none
 | _=>exact (t:False).elim
theorem pop_ok {v:SV} {u:Value} {Q:QV} {Qc:Value → Shared → Prop} (r:VR Z.G.P M.R v u) (t:own v M.H fun l o=>popM o fun o' y=>Q y (setH l o' M.H)) (q:PQ M Q Qc):W M (call (.builtin "list.pop") [u]) Qc:=by
 obtain ⟨l,a,o,rfl,rfl,e,t⟩:=own_ok r t
 obtain ⟨xs,rfl,t⟩:=of_list t
 obtain ⟨t1,t2⟩:=of_bnz t
 obtain ⟨p,e1,t2⟩:=of_opt t2
 obtain ⟨vs,n,rest,L⟩:=list_at e
 rcases unsnoc_last L.vr with ⟨h1,_⟩ | ⟨p',z',s,y,h1,h2,h3,h4⟩
 ·rw [h1] at e1;cases e1
 ·rw [h1] at e1
  cases e1
  exact kl_pop (s:=M.s) M.st.fr L.nw h2 (.head L.ne) (L.vr.length ▸ t1) (fun h' F' N'=>L.back p' s (n + 1) h' q h3 h4 t2 F' N')
theorem isZ_ok {p:PP} {R:Lg} {v:SV} {u:Value} (r:VR p R v u) (h:isZ v = true):∃ tk,u = .int 0 tk:=by
 cases v with
 | int i=>cases r;cases i with
  | ofNat n=>cases (Nq h);exact ⟨_,rfl⟩
  | negSucc n=>cases h
 | _=>cases h
theorem pop0_ok {v:SV} {u:Value} {tk:Tok} {Q:QV} {Qc:Value → Shared → Prop} (r:VR Z.G.P M.R v u) (t:own v M.H fun l o=>pop0M o fun o' y=>Q y (setH l o' M.H)) (q:PQ M Q Qc):W M (call (.builtin "list.pop") [u,.int 0 tk]) Qc:=by
 obtain ⟨l,a,o,rfl,rfl,e,t⟩:=own_ok r t
 obtain ⟨xs,rfl,t⟩:=of_list t
 obtain ⟨t1,t2⟩:=of_bnz t
 obtain ⟨vs,n,rest,L⟩:=list_at e
 have r:=L.vr
 cases xs with
 | nil=>exact (t2:False).elim
 | cons y xs =>
  cases vs with
  | nil=>cases r
  | cons yv vs =>
  cases r with
  | cons ry rr =>
  exact kl_popAt (s:=M.s) (k:=0) (p:=[]) (q:=vs) (y:=yv) M.st.fr L.nw (by decide) (by rw [List.size_toArray];exact seqIndex_pos (n:=0) (Nat.succ_pos _)) rfl (.head L.ne) (L.vr.length ▸ t1) (fun h' F' N'=>L.back xs vs (n + 1) h' q rr ry t2 F' N')
theorem copy_ok {v:SV} {u:Value} {kvs:List (Str × SV)} {lbl:Nat} {Q:QV} {Qc:Value → Shared → Prop} (kd:KDictOK Z.G Z.T) (ok:Z.c.Ok Z.G) (r:VR Z.G.P M.R v u) (e:fixD Z.T v = some kvs) (t:∀ a,Q (.obj lbl (some a)) ((lbl,some a,.dict kvs) :: delH lbl M.H)) (q:PQ M Q Qc) :
  W M (call (.builtin "dict.copy") [u]) Qc:=by
 obtain ⟨d,rfl,e⟩:=fixD_ok r e
 obtain ⟨es,n,D⟩:=kd _ _ e
 have ho:=(M.kin ok) _ _ D.lo
 obtain ⟨us,⟨es',ep,d1,d2,d3,d4,d5⟩,p2⟩:=D.dr.isDict (prog:=Z.G.prog) (w:=Z.G.w) rfl D.nd (n:=n)
 have hT:M.s.TypeIs (.ref d) "dict":=⟨_,ho,rfl⟩
 refine call_meetsIn PySem.F.slot_dict_copy hT PySem.F.entry_dict_copy (PySem.F.args_dict_copy_1 _) (meets_dict_copy (PySem.strKind Z.G.prog Z.G.w) d D.sm) ⟨us,⟨_,es',ep,ho,d1,d2,d3,d4,d5⟩,?_,fun h' d1 d2 hk=>?_⟩
 ·rw [p2.len];exact D.sz
 ·obtain ⟨es',n',o1,o2,o3⟩:=DR.of (p:=Z.G.P) (R:=M.R) rfl d1 (p2.mono (Sub.nil _))
  have nw:=News.kept_cons M.st.fr M.st.nw hk (Nat.le_refl _) o1
  exact M.make lbl (u:=.dict kvs) M.tk (M.st.fr.kept hk) nw M.size_ne (.dict _ _ _ _ o2 o3 (M.big ok (Nat.le_refl _))) (C:=Qc (.ref M.h.objs.size)) fun M' h5 h6=>q _ _ M' (h6 ▸ Sub.refl _) (h5 ▸ t M.h.objs.size) (.obj lbl (some _))
theorem bm_ok {b:BM} {v:SV} {u:Value} {vs:List SV} {us:List Value} {lbl:Nat} {Q:QV} {Qc:Value → Shared → Prop} (kd:KDictOK Z.G Z.T) (ok:Z.c.Ok Z.G) (r:VR Z.G.P M.R v u) (rs:VRs Z.G.P M.R vs us) (t:bmV Z.T b v vs lbl M.H Q)
  (q:PQ M Q Qc):W M (call (.builtin (bmId b)) (u :: us)) Qc:=by
 cases b with
 | append=>obtain ⟨x,ux,rfl,rx,t⟩:=one_ok rs t;exact app_ok r rx t q
 | pop =>
  cases rs with
  | nil=>exact pop_ok r t q
  | cons a r' =>
   obtain ⟨e,t2⟩:=of_iff t
   obtain ⟨e1,e2⟩:=Ba e
   cases r' with
   | cons _ _=>cases e2
   | nil =>
    obtain ⟨tk,rfl⟩:=isZ_ok a e1
    exact pop0_ok r t2 q
 | copy =>
  obtain ⟨e,t2⟩:=of_iff t
  obtain ⟨kvs,e1,t2⟩:=of_opt t2
  cases rs with
  | cons _ _=>cases e
  | nil=>exact copy_ok kd ok r e1 t2 q
 | startswith =>
  obtain ⟨s,ts,rfl,t⟩:=asS_ok r t
  obtain ⟨x,ux,rfl,rx,t⟩:=one_ok rs t
  obtain ⟨y,ty,rfl,t⟩:=asS_ok rx t
  exact SC.startswith (s:=M.s) (q.use _ t (.bool _))
 | encode =>
  obtain ⟨s,ts,rfl,t⟩:=asS_ok r t
  obtain ⟨x,ux,rfl,rx,t⟩:=one_ok rs t
  obtain ⟨y,ty,rfl,t⟩:=asS_ok rx t
  obtain ⟨e,t⟩:=of_iff t
  rw [of_sbeq e]
  obtain ⟨⟨cs⟩⟩:=s
  cases cs with
  | nil=>exact (t:False).elim
  | cons c cr =>
   obtain ⟨e,t2⟩:=of_iff t
   obtain ⟨bs,e2,t2⟩:=of_opt t2
   cases cr with
   | cons _ _=>cases e
   | nil =>
    have O:=enc_all _ (lkN_mem e2)
    exact encode_one (s:=M.s) O fun t' k=>q.use _ t2 (.byt _ _ _ O.eq)
 | join =>
  obtain ⟨s,ts,rfl,t⟩:=asS_ok r t
  obtain ⟨x,ux,rfl,rx,t⟩:=one_ok rs t
  obtain ⟨w,rw',t⟩:=look_ok rx t
  exact join_ok rw' t q
end
noncomputable def bfVal (b:BF):Value:=match b with
 | .len=>.builtin "len"
 | .isinstance=>.builtin "isinstance"
 | .ord=>.builtin "ord"
 | .str=>.type "str"
 | .all=>.builtin "all"
section
variable {Z:Cx} {F:Lg} {loc:Loc} {m:Str → Option Value} {M:Mo Z F loc m}
noncomputable def IsaOK (G:GC) (T:Tab):Prop:=∀ c l d b,lkN c T.isa = some l → lkN d l = some b → IsaK G.K c d b ∧ ClsOK G.K c
theorem of_bind {α β:Type} {o:Option α} {f:α → Option β} {y:β} (e:o.bind f = some y):∃ x,o = some x ∧ f x = some y:=by cases o with | none=>cases e | some x=>exact ⟨x,rfl,e⟩
noncomputable def Is1 (G:GC) (d:Addr) (b:Bool) (u:Value):Prop:=∃ a,u = .ref a ∧ IsaK G.K d a b ∧ ClsOK G.K d
theorem isa1_ok {G:GC} {T:Tab} {R:Lg} (io:IsaOK G T) {d:Addr} {v:SV} {u:Value} {b:Bool} (r:VR G.P R v u):isa1 T d v = some b → Is1 G d b u :=
 VR.casesOn (motive_1:=fun v u _=>isa1 T d v = some b → Is1 G d b u) r (fun t=>no_none t) (fun _ t=>no_none t) (fun _ _ t=>no_none t) (fun _ _ t=>no_none t) (fun _ _ _ _ t=>no_none t)
  (fun a t=>let ⟨_,h1,h2⟩:=of_bind t;⟨a,rfl,io _ _ _ _ h1 h2⟩) (fun _ _ t=>no_none t) (fun _ _ _ _ _ _ t=>no_none t) (fun _ _ _ _ _ _ t=>no_none t) (fun _ _ _ _ _ _ _ _ t=>no_none t) (fun _ _ _ _ _ _ t=>no_none t) (fun _ _ _ _ _ _ _ _ _ t=>no_none t)
theorem isaL_ok {G:GC} {T:Tab} {R:Lg} (io:IsaOK G T) {d:Addr} {ds:List SV}:∀ {us:List Value} {b:Bool},VRs G.P R ds us → isaL T d ds = some b → ∃ bs,AnsK G.K d us bs ∧ bs.any id = b ∧ (ds ≠ [] → ClsOK G.K d):=by
 induction ds with
 | nil=>intro us b r e;cases r;cases e;exact ⟨[],.nil,rfl,fun h=>absurd rfl h⟩
 | cons x ds ih =>
  intro us b r e
  cases r with
  | cons a r =>
  obtain ⟨b1,e1,e⟩:=of_bind e
  obtain ⟨b2,e2,e⟩:=of_bind e
  cases e
  obtain ⟨q,rfl,h1,h2⟩:=isa1_ok io a e1
  obtain ⟨bs,h3,h4,_⟩:=ih r e2
  exact ⟨b1 :: bs,.cons h1 h3,by rw [List.any_cons,h4];rfl,fun _=>h2⟩
theorem isi_ok {d:SV} {ud:Value} {b:Bool} {Q:QV} {Qc:Value → Shared → Prop} {c:Addr} {kvs:List (Str × SV)} {a dx:Addr} {es:List DictEntry} {n:Nat} (io:IsaOK Z.G Z.T) (ok:Z.c.Ok Z.G) (I:InsR M a c kvs dx es n) (rd:VR Z.G.P M.R d ud) (e:isaV Z.T c d = some b)
  (t:Q (.bool b) M.H) (q:PQ M Q Qc):W M (call (.builtin "isinstance") [.ref a,ud]) Qc:=by
 have one:isa1 Z.T c d = some b → W M (call (.builtin "isinstance") [.ref a,ud]) Qc:=fun e=>by
  obtain ⟨x,rfl,h1,_⟩:=isa1_ok io rd e
  exact isi_one (s:=M.s) (M.kin ok) I.at_ h1 fun tk'=>q.use _ t (.bool _)
 cases d with
 | tup ds =>
  cases rd with
  | tup tp vs n' _ hm r =>
  cases ds with
  | nil=>cases e
  | cons x ds =>
   obtain ⟨bs,h1,h2,h3⟩:=isaL_ok io r e
   exact isi_tup (s:=M.s) (M.kin ok) I.at_ (h3 (fun h=>nomatch h)).c h1 (M.get (M.inR hm)) fun tk'=>h2 ▸ q.use _ (h2 ▸ t) (.bool _)
 | _=>exact one e
theorem bools_ok {p:PP} {R:Lg} {xs:List SV}:∀ {vs:List Value} {b:Bool},VRs p R xs vs → boolsOf xs = some b → ∃ bs:List Bool,vs = bs.map Value.bool ∧ bs.all id = b:=by
 induction xs with
 | nil=>intro vs b r e;cases r;cases e;exact ⟨[],rfl,rfl⟩
 | cons x xs ih =>
  intro vs b r e
  cases x with
  | bool c =>
   have e:(match boolsOf xs with | some l=>some (c && l) | none=>none) = some b:=e
   cases r with
   | cons a r =>
   cases a
   cases q:boolsOf xs with
   | none=>rw [q] at e;cases e
   | some l =>
    rw [q] at e;cases e
    obtain ⟨bs,rfl,rfl⟩:=ih r q
    exact ⟨c :: bs,rfl,rfl⟩
  | _=>cases e
theorem all_ok {a:Addr} {bs:List Bool} {n:Nat} {Q:QV} {Qc:Value → Shared → Prop} (hd:Z.c.A.handled = none) (hm:(a,W.listOf (bs.map Value.bool).toArray n) ∈ M.L) (hz:bs.length ≤ sizeLine) (t:Q (.bool (bs.all id)) M.H) (q:PQ M Q Qc):W M (call (.builtin "all") [.ref a]) Qc:=by
 have hl:=M.isList hm
 have hne:a ≠ M.h.objs.size:=Nat.ne_of_lt (Heap.lt_size (M.get hm))
 have it:(M.h.push { cls:=.type "list_iterator",data:=.fields #[.ref a,.int 0 0] }).IsListIter M.h.objs.size a 0:=⟨_,Heap.get?_push_size _ rfl,rfl,rfl⟩
 refine call_all_walk (wpAny_pyIter_list (s:=M.s) hl ⟨M.h.objs.size,_,_,_,_,_,fun i=>(bs[i]?).getD true,rfl,Walks.list (A:=Z.c.A.in1) hd M.h.objs.size a hne _,⟨it,hl.push _⟩,?_,fun h' tk hk=>?_⟩)
 ·intro i v s Q E hp h
  dsimp only at h
  rw [List.getElem?_toArray,List.getElem?_map] at hp
  cases e:bs[i]? with
  | none=>rw [e] at hp;cases hp
  | some b =>
   rw [e] at hp h
   cases hp
   exact wpAny_truthy_bool h
 ·have hs:(List.range (bs.map Value.bool).toArray.size).all (fun i=>(bs[i]?).getD true) = bs.all id:=by
   rw [List.size_toArray,List.length_map]
   clear hz t hm hl q hk
   induction bs with
   | nil=>rfl
   | cons b bs ih=>rw [List.length_cons,List.range_succ_eq_map,List.all_cons,List.all_map,List.all_cons,← ih];rfl
  rw [hs]
  have hI:∀ b o,M.h.get? b = some o → h'.get? b = some o:=fun b o e=>hk b o (fun hm=>by rw [Ms hm] at e;exact absurd (Heap.lt_size e) (Nat.lt_irrefl _)) (Heap.get?_push_of_some _ e)
  exact q _ _ (M.heap h' tk (M.st.fr.kept hI) (M.st.nw.grown hI)) (Sub.refl _) t (.bool _)
theorem two_ok {vs:List SV} {us:List Value} {k:SV → SV → Prop} (rs:VRs Z.G.P M.R vs us) (t:two2 vs k):∃ x y u v,us = [u,v] ∧ VR Z.G.P M.R x u ∧ VR Z.G.P M.R y v ∧ k x y:=by
 cases rs with
 | nil=>exact t.elim
 | cons a r =>
  obtain ⟨y,v,rfl,ry,t⟩:=one_ok r t
  exact ⟨_,y,_,v,rfl,a,ry,t⟩
theorem len_ok {w:Vw} {u:Value} {Q:QV} {Qc:Value → Shared → Prop} (r:VwR Z.G.P M.L M.R w u) (t:lenW w fun n=>Q (.int n) M.H) (q:PQ M Q Qc):W M (call (.builtin "len") [u]) Qc:=by
 cases r with
 | str s ts=>obtain ⟨t1,t2⟩:=of_bnz t;exact SBL.len (s:=M.s) (fit63 t1) (q.use _ t2 (.int _ _))
 | lst a vs n xs hm r =>
  obtain ⟨t1,t2⟩:=of_bnz t
  rw [lenL_eq,r.length] at t2
  rw [r.length] at t1
  exact call_len_list (s:=M.s) (M.isList hm) (fit63 t1) (q.use _ t2 (.int _ _))
 | dct a es n kvs hm r hd hs =>
  obtain ⟨t1,t2⟩:=of_bnz t
  obtain ⟨us,d1,d2⟩:=M.dictOf hm r hd
  rw [lenL_eq,← d2.len] at t2
  exact call_len_dict (s:=M.s) hs d1 (by rw [d2.len];exact fit63 t1) (q.use _ t2 (.int _ _))
 | _=>exact (t:False).elim
theorem bif_ok {b:BF} {vs:List SV} {us:List Value} {Q:QV} {Qc:Value → Shared → Prop} (hd:Z.c.A.handled = none) (io:IsaOK Z.G Z.T) (ok:Z.c.Ok Z.G) (rs:VRs Z.G.P M.R vs us) (t:bifV Z.T b vs M.H Q) (q:PQ M Q Qc):W M (call (bfVal b) us) Qc:=by
 cases b with
 | len =>
  obtain ⟨x,u,rfl,rx,t⟩:=one_ok rs t
  obtain ⟨w,rw',t⟩:=look_ok rx t
  exact len_ok rw' t q
 | isinstance =>
  obtain ⟨x,d,u,ud,rfl,rx,rd,t⟩:=two_ok rs t
  obtain ⟨w,rw',t⟩:=look_ok rx t
  obtain ⟨a,c,kvs,dx,es,n,rfl,rfl,I,t⟩:=ins_ok rw' t
  obtain ⟨b,e,t⟩:=of_opt t
  exact isi_ok io ok I rd e t q
 | ord =>
  obtain ⟨x,u,rfl,rx,t⟩:=one_ok rs t
  obtain ⟨s,ts,rfl,t⟩:=asS_ok rx t
  obtain ⟨⟨cs⟩⟩:=s
  cases cs with
  | nil=>exact (t:False).elim
  | cons c cr =>
   obtain ⟨e,t2⟩:=of_iff t
   cases cr with
   | cons _ _=>cases e
   | nil=>exact P.ord_of_char (s:=M.s) (q.use _ t2 (.int _ _))
 | str =>
  obtain ⟨x,u,rfl,rx,t⟩:=one_ok rs t
  obtain ⟨i,ti,rfl,t⟩:=asI_ok rx t
  obtain ⟨e,t⟩:=of_iff t
  exact P.str_of_int (s:=M.s) (Nb e) (q.use _ t (.str _ _))
 | all =>
  obtain ⟨x,u,rfl,rx,t⟩:=one_ok rs t
  obtain ⟨w,rw',t⟩:=look_ok rx t
  cases rw' with
  | lst a vs n xs hm r =>
   obtain ⟨b,e,t⟩:=of_opt t
   obtain ⟨t1,t2⟩:=of_bnz t
   obtain ⟨bs,rfl,rfl⟩:=bools_ok r e
   exact all_ok hd hm (by rw [r.length,List.length_map] at t1;exact t1) t2 q
  | _=>exact (t:False).elim
end
structure Rsd (G:GC) (c:FC) (F R:Lg) (m:Str → Option Value) (X:XC) (e:Addr) (h':Heap):Prop where
 of:∃ t vs H' R' N' g₂,X H' ∧ Led G.P H' N' R' F ∧ Sub R R' ∧ RaisedK c.base (c.env :: c.outer) e (.ref G.EE) t vs (N' ++ (R' ++ F)) h' ∧ Fr c.h₀ c.L g₂ m ∧ g₂.UpToSlots h'
theorem Rsd.el {G:GC} {c:FC} {F R:Lg} {m:Str → Option Value} {X:XC} {e:Addr} {h':Heap} {C:Prop} (r:Rsd G c F R m X e h') (f:∀ t vs H' R' N' g₂,X H' → Led G.P H' N' R' F → Sub R R' → RaisedK c.base (c.env :: c.outer) e (.ref G.EE) t vs (N' ++ (R' ++ F)) h' → Fr c.h₀ c.L g₂ m → g₂.UpToSlots h' → C):C :=
 r.of.elim fun t r=>r.elim fun vs r=>r.elim fun H' r=>r.elim fun R' r=>r.elim fun N' r=>r.elim fun g₂ r=>f t vs H' R' N' g₂ r.1 r.2.1 r.2.2.1 r.2.2.2.1 r.2.2.2.2.1 r.2.2.2.2.2
noncomputable def XOk (G:GC) (c:FC) (F R:Lg) (m:Str → Option Value) (X:XC) (Ec:Value → Shared → Prop):Prop:=∀ e h' tk',Rsd G c F R m X e h' → Ec (.ref e) (G.sh h' tk')
theorem RaisedK.sub {base h:Heap} {l:List Env} {e t:Addr} {cls:Value} {vs:List Value} {n n':Lg} (x:RaisedK base l e cls t vs n h) (hs:∀ p ∈ n',p ∈ n):RaisedK base l e cls t vs n' h :=
 let ⟨⟨B,h1,h2,h3⟩,h4⟩:=x;⟨⟨B,h1,fun q hq=>h2 q (hs q hq),h3⟩,h4⟩
theorem Led.less {p:PP} {H:Hp} {N R F F₀:Lg} (x:Led p H N R F) (f:Sub F₀ F):Led p H N R F₀:=⟨x.hr,x.nd,fun q hq y hy=>x.ap q hq y ((Ma hy).elim (Ml _) fun k=>Mr _ (f _ k)),fun q hq y hy=>x.af q hq y (f _ hy)⟩
theorem less_sub {N R F F₀:Lg} (f:Sub F₀ F):∀ p ∈ N ++ (R ++ F₀),p ∈ N ++ (R ++ F):=fun _ hp=>(Ma hp).elim (Ml _) fun k=>Mr _ ((Ma k).elim (Ml _) fun k=>Mr _ (f _ k))
theorem XOk.of {G:GC} {c:FC} {F F₀ R R₀:Lg} {m:Str → Option Value} {X:XC} {Ec:Value → Shared → Prop} (x:XOk G c F₀ R₀ m X Ec) (s:Sub R₀ R) (f:Sub F₀ F):XOk G c F R m X Ec :=
 fun e h' tk' r=>r.el fun t vs H' R' N' g₂ a b d k g i=>x e h' tk' ⟨t,vs,H',R',N',g₂,a,b.less f,s.trans d,RaisedK.sub k (less_sub f),g,i⟩
noncomputable def FnOK (G:GC) (lv:Nat) (f:Addr) (n:Nat) (ks:List Str) (S:Sm):Prop :=
 ∀ {Z:Cx} {F:Lg} {loc:Loc} {m:Str → Option Value} (M:Mo Z F loc m) {A:Around} {vs ws:List Value} {xs:List SV} {Q:QV} {X:XC} {Rr:Result → Shared → Prop},
  Z.G = G → Z.c.Ok Z.G → Room lv A → A.frames = some (Z.c.env :: Z.c.outer) → VRs Z.G.P M.R xs (vs ++ ws) → vs.length = n → ws.length = ks.length → S xs M.H Q X →
  PQ M Q (fun v s'=>Rr (.ok (.ret v)) s') → XOk Z.G Z.c F M.R m X (fun e s'=>Rr (.error e) s') → codeAny Z.G.M A (.call (.ref f) ⟨vs,ks.zip ws⟩) Rr M.s
structure ExOK (Z:Cx):Prop where
 xo:∀ m,XOk Z.G Z.c Z.F₀ Z.R₀ m Z.X Z.Ec
 xr:∀ {F:Lg} {loc:Loc} {m:Str → Option Value} (M:Mo Z F loc m) {h:Heap} {e:Addr} {vs:List Value} {tk:Nat},Z.X M.H → M.h.MadeExcOf h e (.ref Z.G.EE) vs → Z.Ec (.ref e) (Z.G.sh h tk)
 po:PassesOwn Z.G.M Z.c.A Z.c.env Z.Ec
noncomputable def CelOK (Z:Cx):Prop:=∀ x sv,lk x Z.T.cells = some sv → ∃ c o v,Z.c.cl.lookup x = some c ∧ (c,o) ∈ Z.R₀ ∧ o.data = .cell (some v) ∧ VR Z.G.P Z.R₀ sv v
noncomputable def CompOK (G:GC) (lv:Nat) (T:Tab):Prop :=
 ∀ {Z:Cx} {F:Lg} {loc:Loc} {m:Str → Option Value} (M:Mo Z F loc m) {e:Expr} {Q:QV} {Qc:Value → Shared → Prop},Z.G = G → Z.lv = lv → Z.T = T → Z.c.scope = Z.sc → lk ("__debug__":Str) Z.sc.names = none → Z.c.Ok Z.G → Room Z.lv Z.c.A → ExOK Z → CelOK Z → (nil? Z.T.cells = true → Z.c.cl = []) →
  T.comp e Z.sc loc M.H Q Z.X → PQ M Q Qc → W M (eval e Z.c.env) Qc
structure GlobR (G:GC) (x:Str) (v:Value):Prop where
 ns:nsIn G.K mainGlobals x = some (some v)
 db:(x == ("__debug__":Str)) = false
structure BltR (G:GC) (x:Str) (v:Value):Prop where
 ns:nsIn G.K mainGlobals x = some none
 bt:bootBuiltins x = some v
 nm:x ≠ ("__name__":Str)
 db:(x == ("__debug__":Str)) = false
structure TabOK (G:GC) (lv:Nat) (T:Tab):Prop where
 attr:AttrOK G T
 kl:KListOK G T
 kd:KDictOK G T
 isa:IsaOK G T
 fmt:FmtOK G T
 glob:∀ x sv,lk x T.glob = some sv → ∃ v,GlobR G x v ∧ VR G.P [] sv v
 bfn:∀ x b,lk x T.bfn = some b → BltR G x (bfVal b)
 srt:BltR G "sorted" (.builtin "sorted")
 rng:BltR G "range" (.type "range")
 fns:∀ f n ks S,fnS f n ks T.fns = some S → FnOK G lv f n ks S
 kept:∀ f b,lkN f T.kept = some b → keepIn G.K (.ref f) = true ∧ (b = true → fnIn G.K f = true)
 comp:CompOK G lv T
 exc:T.exc = G.EE
 own:∃ newId initId bm,excIn G.K G.EE bm newId = true ∧ ExcBaseFacts "Exception" newId initId bm
structure Pl (Z:Cx):Prop where
 tab:TabOK Z.G Z.lv Z.T
 scp:Z.c.scope = Z.sc
 dbg:lk ("__debug__":Str) Z.sc.names = none
 ok:Z.c.Ok Z.G
 room:Room Z.lv Z.c.A
 ex:ExOK Z
 cel:CelOK Z
 nc:nil? Z.T.cells = true → Z.c.cl = []
noncomputable abbrev Cx.r (Z:Cx) (n:Nat):Rec:=wp Z.T Z.sc n
noncomputable def EOk (n:Nat):Prop:=∀ {Z:Cx} {F:Lg} {loc:Loc} {m:Str → Option Value} {M:Mo Z F loc m} {e:Expr} {Q:QV} {Qc:Value → Shared → Prop},Pl Z → (Z.r n).E e loc M.H Q Z.X → PQ M Q Qc → W M (eval e Z.c.env) Qc
noncomputable def PB {Z:Cx} {F:Lg} {loc:Loc} {m:Str → Option Value} (M:Mo Z F loc m) (Q:QB) (Qc:Bool → Shared → Prop):Prop:=∀ b (M':Mo Z F loc m),Sub M.R M'.R → Q b M'.H → Qc b M'.s
noncomputable def BOk (n:Nat):Prop:=∀ {Z:Cx} {F:Lg} {loc:Loc} {m:Str → Option Value} {M:Mo Z F loc m} {e:Expr} {Q:QB} {Qc:Bool → Shared → Prop},Pl Z → (Z.r n).B e loc M.H Q Z.X → PB M Q Qc → W M (isTrue e Z.c.env (eval e Z.c.env)) Qc
theorem PB.sub {Z:Cx} {F:Lg} {loc:Loc} {m:Str → Option Value} {M M':Mo Z F loc m} {Q:QB} {Qc:Bool → Shared → Prop} (q:PB M Q Qc) (s:Sub M.R M'.R):PB M' Q Qc:=fun _ _ s' t=>q _ _ (s.trans s') t
theorem star_one {e:Expr} {es:List Expr} {env:Env} (h:nst e = true):starEach (e :: es) env = (false,eval e env) :: starEach es env:=by cases e <;> first | rfl | cases h
theorem nst_any {env:Env} {pos:Pos} {as:List Expr} (h:allNst as = true):(backTo pos (starEach as env)).any (·.1) = false:=by
 induction as with
 | nil=>rfl
 | cons e as ih =>
  obtain ⟨h1,h2⟩:=Ba h
  rw [star_one h1]
  exact ih h2
theorem named_all {env:Env} {pos:Pos} {ks:List Keyword} (h:named ks = true):(backToKw pos (keywordEach ks env)).all (·.1.isSome) = true ∧ (backToKw pos (keywordEach ks env)).any (·.1.isNone) = false:=by
 induction ks with
 | nil=>exact ⟨rfl,rfl⟩
 | cons k ks ih =>
  obtain ⟨o,e,p⟩:=k
  cases o with
  | none=>cases h
  | some x=>exact ih h
section
variable {n:Nat} {Z:Cx} {F:Lg} {loc:Loc} {m:Str → Option Value}
theorem args_ok (eo:EOk n) (p:Pl Z) {pos:Pos} {as:List Expr}:∀ {M:Mo Z F loc m} {Q:List SV → Hp → Prop} {Qc:List Value → Shared → Prop},allNst as = true → argL (Z.r n).E as loc M.H Q Z.X →
  (∀ xs vs (M':Mo Z F loc m),Sub M.R M'.R → Q xs M'.H → VRs Z.G.P M'.R xs vs → Qc vs M'.s) → W M (spliced (backTo pos (starEach as Z.c.env))) Qc:=by
 induction as with
 | nil=>intro M Q Qc _ t q;exact spliced_nil (q [] [] M (Sub.refl _) t .nil)
 | cons e es ih =>
  intro M Q Qc hn t q
  obtain ⟨h1,h2⟩:=Ba hn
  rw [star_one h1]
  exact spliced_cons (eo p t fun sv v M' s' t' r'=>ih h2 t' fun xs vs M2 s2 t2 r2=>q (sv :: xs) (v :: vs) M2 (s'.trans s2) t2 (.cons (r'.mono s2) r2))
structure KwR (Z:Cx) (pos:Pos) (ks:List Keyword) (R:Lg) (us:List (Str × SV)) (ws:List Value):Prop where
 vr:VRs Z.G.P R (us.map (·.2)) ws
 nm:(backToKw pos (keywordEach ks Z.c.env)).filterMap (·.1) = us.map (·.1)
 ln:ws.length = us.length
theorem kws_ok (eo:EOk n) (p:Pl Z) {pos:Pos} {ks:List Keyword}:∀ {M:Mo Z F loc m} {Q:List (Str × SV) → Hp → Prop} {Qc:List Value → Shared → Prop},kwL (Z.r n).E ks loc M.H Q Z.X →
  (∀ us ws (M':Mo Z F loc m),Sub M.R M'.R → Q us M'.H → KwR Z pos ks M'.R us ws → Qc ws M'.s) → W M (evalAll ((backToKw pos (keywordEach ks Z.c.env)).map (·.2))) Qc:=by
 induction ks with
 | nil=>intro M Q Qc t q;exact wpAny_evalAll_nil (q [] [] M (Sub.refl _) t ⟨.nil,rfl,rfl⟩)
 | cons k ks ih =>
  intro M Q Qc t q
  obtain ⟨o,e,kp⟩:=k
  obtain ⟨x,rfl,t⟩:=of_opt (o:=o) t
  refine wpAny_evalAll_cons (wpAny_bind (eo p t fun sv v M' s' t' r'=>wpAny_bind (wpAny_standAt (wpAny_pure (ih t' fun us ws M2 s2 t2 k2=>?_)))))
  exact q ((x,sv) :: us) (v :: ws) M2 (s'.trans s2) t2 ⟨.cons (r'.mono s2) k2.vr,congrArg (x :: ·) k2.nm,congrArg Nat.succ k2.ln⟩
noncomputable def KeptAs (Z:Cx) (R:Lg) (f:Value):Prop:=∀ h,Z.G.K.In h → (∀ q ∈ R,h.get? q.1 = some q.2) → ∃ k,(k = Keeper.frame ∨ k = Keeper.machine ∨ k = Keeper.boundFrame) ∧ Looks Z.G.M h (keeperOf f) k
theorem cw_ok (eo:EOk n) (p:Pl Z) {pos:Pos} {M:Mo Z F loc m} {f:Value} {first:List Value} {as:List Expr} {ks:List Keyword} {Q:List SV → List (Str × SV) → Hp → Prop} {Qc:Value → Shared → Prop}
  (ha:aOk as ks = true) (hk:KeptAs Z M.R f) (t:argL (Z.r n).E as loc M.H (fun vs H=>kwL (Z.r n).E ks loc H (fun us H=>Q vs us H) Z.X) Z.X)
  (q:∀ xs us vs ws (M':Mo Z F loc m),Sub M.R M'.R → Q xs us M'.H → VRs Z.G.P M'.R xs vs → VRs Z.G.P M'.R (us.map (·.2)) ws → ws.length = us.length → W M' (call f (first ++ vs) ((us.map (·.1)).zip ws)) Qc) :
  W M (callWith pos f first (backTo pos (starEach as Z.c.env)) (backToKw pos (keywordEach ks Z.c.env))) Qc:=by
 obtain ⟨n1,n2⟩:=Ba ha
 obtain ⟨k1,k2⟩:=named_all (env:=Z.c.env) (pos:=pos) n2
 have go:W M (spliced (backTo pos (starEach as Z.c.env))) (fun vs s₁=>wpAny Z.G.M Z.c.A (evalAll ((backToKw pos (keywordEach ks Z.c.env)).map (·.2)))
   (fun ws s₂=>(Z.G.K.In s₂.heap ∧ ∀ q ∈ M.R,s₂.heap.get? q.1 = some q.2) ∧ wpAny Z.G.M Z.c.A (call f (first ++ vs) (((backToKw pos (keywordEach ks Z.c.env)).filterMap (·.1)).zip ws)) Qc Z.Ec s₂) Z.Ec s₁) :=
  args_ok eo p n1 t fun xs vs M1 s1 t1 r1=>kws_ok eo p (pos:=pos) t1 fun us ws M2 s2 t2 k2 =>
   ⟨⟨M2.kin p.ok,fun q hq=>M2.get (M2.inR (s2 _ (s1 _ hq)))⟩,by rw [k2.nm];exact q xs us vs ws M2 (s1.trans s2) t2 (r1.mono s2) k2.vr k2.ln⟩
 have hplain:((backTo pos (starEach as Z.c.env)).any (·.1) || (backToKw pos (keywordEach ks Z.c.env)).any (·.1.isNone)) = false:=by rw [nst_any n1,k2];rfl
 refine callWith_of (P:=fun h=>Z.G.K.In h ∧ ∀ q ∈ M.R,h.get? q.1 = some q.2) hplain (fun h hh=>hk h hh.1 hh.2) ?_
 cases as with
 | nil =>
  exact evalArgs_kw2_nil k1 (kws_ok eo p (pos:=pos) (M:=M) (Q:=fun us H=>Q [] us H) t fun us ws M2 s2 t2 k2 =>
   ⟨⟨M2.kin p.ok,fun q hq=>M2.get (M2.inR (s2 _ hq))⟩,by rw [k2.nm];exact q [] us [] ws M2 s2 t2 .nil k2.vr k2.ln⟩)
 | cons e as=>exact evalArgs_kw2 k1 go (star_one (Ba n1).1)
end
noncomputable def leS (a b:Str):Prop:=¬ b.cps.toList < a.cps.toList
theorem leS_trans {a b d:Str} (h1:leS a b) (h2:leS b d):leS a d:=List.not_lt.mpr (List.le_trans (List.not_lt.mp h1) (List.not_lt.mp h2))
theorem leS_anti {a b:Str} (h1:leS a b) (h2:leS b a):a = b:=sext (List.le_antisymm (List.not_lt.mp h1) (List.not_lt.mp h2))
theorem leS_of_lt {a b:Str} (h:a.cps.toList < b.cps.toList):leS a b:=fun h2=>List.lt_irrefl _ (List.lt_trans h h2)
theorem insS_cons (s t:Str) (r:List Str):insS s (t :: r) = if t.cps.toList < s.cps.toList then t :: insS s r else s :: t :: r:=by
 show (match decide (t.cps.toList < s.cps.toList) with | true=>t :: insS s r | false=>s :: t :: r) = _
 by_cases h:t.cps.toList < s.cps.toList
 ·rw [if_pos h,decide_eq_true h]
 ·rw [if_neg h,decide_eq_false h]
theorem insS_perm (s:Str) (l:List Str):(insS s l).Perm (s :: l):=by
 induction l with
 | nil=>exact .refl _
 | cons t r ih =>
  rw [insS_cons]
  by_cases h:t.cps.toList < s.cps.toList
  ·rw [if_pos h];exact (ih.cons t).trans (.swap s t r)
  ·rw [if_neg h]
theorem sortS_perm (l:List Str):(sortS l).Perm l:=by
 induction l with
 | nil=>exact .refl _
 | cons s r ih=>exact (insS_perm s _).trans (ih.cons s)
theorem insS_pair (s:Str) {l:List Str}:l.Pairwise leS → (insS s l).Pairwise leS:=by
 induction l with
 | nil=>exact fun _=>List.pairwise_cons.mpr ⟨(fun _ h=>nomatch h),.nil⟩
 | cons t r ih =>
  intro h
  obtain ⟨h1,h2⟩:=List.pairwise_cons.mp h
  rw [insS_cons]
  by_cases e:t.cps.toList < s.cps.toList
  ·rw [if_pos e]
   refine List.pairwise_cons.mpr ⟨fun x hx=>?_,ih h2⟩
   rcases Mc ((insS_perm s r).mem_iff.mp hx) with rfl | hx
   ·exact leS_of_lt e
   ·exact h1 x hx
  ·rw [if_neg e]
   refine List.pairwise_cons.mpr ⟨fun x hx=>?_,h⟩
   rcases Mc hx with rfl | hx
   ·exact e
   ·exact leS_trans e (h1 x hx)
theorem sortS_pair (l:List Str):(sortS l).Pairwise leS:=by
 induction l with
 | nil=>exact .nil
 | cons s r ih=>exact insS_pair s ih
theorem rising_pair (l:List Str):∀ p:Str,risingS p l = true → (p :: l).Pairwise leS:=by
 induction l with
 | nil=>exact fun _ _=>List.pairwise_cons.mpr ⟨(fun _ h=>nomatch h),.nil⟩
 | cons x r ih =>
  intro p h
  have h:(!PySem.Spec.ltCps x.cps.toList p.cps.toList && risingS x r) = true:=h
  obtain ⟨h1,h2⟩:=Ba h
  have ih:=ih x h2
  have e:leS p x:=by
   rw [ltCps_eq] at h1
   exact of_decide_eq_false (Bool.not_eq_true' .. ▸ h1)
  refine List.pairwise_cons.mpr ⟨fun y hy=>?_,ih⟩
  rcases Mc hy with rfl | hy
  ·exact e
  ·exact leS_trans e ((List.pairwise_cons.mp ih).1 y hy)
theorem sorted_pair (l:List Str) (h:sortedS l = true):l.Pairwise leS:=by
 cases l with
 | nil=>exact .nil
 | cons x r=>exact rising_pair r x h
theorem sortS_unique {l l':List Str} (p:l'.Perm l) (s:sortedS l' = true):l' = sortS l :=
 List.Perm.eq_of_pairwise (fun _ _ _ _ h1 h2=>leS_anti h1 h2) (sorted_pair _ s) (sortS_pair l) (p.trans (sortS_perm l).symm)
theorem strsAre_svs {p:PP} {R:Lg} {vs:List Value} {ss:List Str} (h:StrsAre vs ss):VRs p R (ss.map .str) vs:=by
 induction h with
 | nil=>exact .nil
 | cons y t _ ih=>exact .cons (.str y t) ih
section
variable {Z:Cx} {F:Lg} {loc:Loc} {m:Str → Option Value} {M:Mo Z F loc m}
theorem keyVs_are {G:GC} {us:List (Str × Value)}:∀ {vs:List Value},vs.length = us.length → (∀ (j:Nat) (v:Value),vs[j]? = some v → ∃ k x,us[j]? = some (k,x) ∧ (PySem.strKind G.prog G.w).is k v = true) → StrsAre vs (us.map (·.1)):=by
 induction us with
 | nil=>intro vs e _;cases vs with
  | nil=>exact .nil
  | cons _ _=>cases e
 | cons p us ih=>intro vs e hv;cases vs with
  | nil=>cases e
  | cons v vs =>
   obtain ⟨k,x,h1,h2⟩:=hv 0 v rfl
   cases h1
   obtain ⟨t,rfl⟩:=Value.isStrOf_shape h2
   exact .cons _ _ (ih (Nat.succ.inj e) fun j v hj=>hv (j + 1) v hj)
theorem sort_ok {a q:Addr} {es:List DictEntry} {n:Nat} {kvs:List (Str × SV)} {Qc:Value → Shared → Prop} {Q:QV} (hA:Z.c.A.handled = none) (hm:(a,dictOf es n) ∈ M.L) (hq:(q,({ cls:=.type "dict_keys",data:=.fields #[.ref a] }:Obj)) ∈ M.R)
  (r:DR Z.G.P M.R kvs es) (hd:(kvs.map (·.1)).Nodup) (hl:kvs.length ≤ 60) (t:Q (.lst ((sortS (kvs.map (·.1))).map .str)) M.H) (qq:PQ M Q Qc):W M (call (.builtin "sorted") [.ref q]) Qc:=by
 obtain ⟨us,dO,p2⟩:=M.dictOf hm r hd
 obtain ⟨ep,hat⟩:=dO.dictAt
 have el:=p2.len
 have e4:us.length ≤ sizeLine:=el ▸ Nl hl (by decide)
 have hq':M.h.get? q = some { cls:=.type "dict_keys",data:=.fields #[.ref a] }:=M.get (M.inR hq)
 refine kdu_sorted (s:=M.s) (kdl_keys (knd:=PySem.strKind Z.G.prog Z.G.w) (kvs:=us) (ep:=ep) (d:=a) (r:=q)) hA M.st.fr M.st.nw ⟨⟨_,hq',rfl,rfl⟩,hat⟩ e4 fun D h' tk' vs F' N' l1 hlen hv=>?_
 have hS:StrsAre vs (us.map (·.1)):=keyVs_are (G:=Z.G) hlen hv
 have ho:=N' (D,W.listOf vs.toArray 0) (.head _)
 have hT:(Z.G.sh h' tk').TypeIs (.ref D) "list":=⟨_,ho.1,rfl⟩
 refine wpAny_call_entry (s:=Z.G.sh h' tk') slot_list_sort hT entry_list_sort (list_sort_treeK (s:=Z.G.sh h' tk') strKind_oneLt (n:=0) ho.1 hS.keysOf (fun v₁ v₂ rest e=>keyKind_strs (by rw [← e];exact hS)) (by rw [hlen,el];exact Nat.lt_of_le_of_lt hl (by decide)) fun st' a1 a2=>⟨_,rfl,?_⟩) (args_list_sort _)
 obtain ⟨ss',b1,b2,b3⟩:=sorted_out_str hS a1 a2
 have b4:=sortS_unique b2 b3
 rw [p2.keys] at b4
 subst b4
 obtain ⟨e',he'⟩:=sortedHeap_at (out:=(arrOf st').map (·.2)) ho.1
 have old:∀ b o,b ≠ D → h'.get? b = some o → (sortedHeap h' D vs ((arrOf st').map (·.2))).get? b = some o:=fun b o hb e=>by rw [sortedHeap_old hb (Heap.lt_size e)];exact e
 obtain ⟨oL,f1,f2,hL,f3⟩:=F'.ns
 have hDL:D ≠ Z.c.L:=ho.2.1
 have F2:Fr Z.c.h₀ Z.c.L (sortedHeap h' D vs ((arrOf st').map (·.2))) m:=⟨⟨oL,f1,f2,old _ _ (Ne.symm hDL) hL,f3⟩,fun b o e=>old b o (fun z=>by rw [z,ho.2.2] at e;cases e) (F'.keep b o e),F'.above⟩
 have N2:News Z.c.h₀ Z.c.L (sortedHeap h' D vs ((arrOf st').map (·.2))) ((D,W.listOf ((arrOf st').map (·.2)).toList.toArray e') :: M.L):=by
  intro p hp
  rcases Mc hp with rfl | hp
  ·exact ⟨by dsimp only;rw [Array.toArray_toList];exact he',ho.2⟩
  ·have:=N' p (.tail _ hp)
   exact ⟨old _ _ (Nat.ne_of_lt (l1 p hp)) this.1,this.2⟩
 exact qq (.lst ((sortS (kvs.map (·.1))).map .str)) (.ref D) (M.more _ _ _ F2 N2 fun p hp=>Nat.ne_of_lt (l1 p hp)) (Sub.cons _ _) t (.lst _ _ _ _ (.head _) (strsAre_svs b1))
theorem lo_of {sc:Scope} {x:Str} (h:loN sc x = true):lk x sc.names = some .local:=by
 unfold loN at h
 cases e:lk x sc.names with
 | none=>rw [e] at h;cases h
 | some k=>rw [e] at h;cases k <;> first | rfl | cases h
theorem gl_of {sc:Scope} {x:Str} (h:glN sc x = true):lk x sc.names = some .globalImplicit:=by
 unfold glN at h
 cases e:lk x sc.names with
 | none=>rw [e] at h;cases h
 | some k=>rw [e] at h;cases k <;> first | rfl | cases h
theorem ce_of {sc:Scope} {x:Str} (h:ceN sc x = true):lk x sc.names = some .cell:=by
 unfold ceN at h
 cases e:lk x sc.names with
 | none=>rw [e] at h;cases h
 | some k=>rw [e] at h;cases k <;> first | rfl | cases h
theorem Pl.kindOf (p:Pl Z) (x:Str):Z.c.env.kindOf x = lk x Z.sc.names:=by rw [lk_lookup,← p.scp];rfl
theorem Pl.lo (p:Pl Z) {x:Str} (h:loN Z.sc x = true):Z.c.env.kindOf x = some .local:=(p.kindOf x).trans (lo_of h)
theorem Pl.gl (p:Pl Z) {x:Str} (h:glN Z.sc x = true):Z.c.env.kindOf x = some .globalImplicit:=(p.kindOf x).trans (gl_of h)
theorem Pl.noDbg (p:Pl Z) {x:Str} (e:loN Z.sc x = true):(x == ("__debug__":Str)) = false :=
 beq_eq_false_iff_ne.mpr fun q=>by have:=lo_of e;rw [q,p.dbg] at this;cases this
theorem Pl.hd (p:Pl Z):Z.c.A.handled = none:=p.room.hd
theorem Pl.frames (p:Pl Z):Z.c.A.frames = some (Z.c.env :: Z.c.outer):=Around.frames_deeper p.ok.below.stack
theorem name_ok {x:Str} {pos:Pos} {k:SV → Prop} {Qc:Value → Shared → Prop} (p:Pl Z) (t:nmV Z.T Z.sc x loc k) (q:∀ sv v tk',k sv → VR Z.G.P M.R sv v → Qc v (Z.G.sh M.h tk')):W M (eval (.Name x pos) Z.c.env) Qc:=by
 revert t
 show (match loN Z.sc x with | true=>_ | false=>_) → _
 cases e:loN Z.sc x with
 | true =>
  intro t
  obtain ⟨sv,e1,t⟩:=of_opt t
  obtain ⟨v,h1,h2⟩:=M.lr _ _ e1
  exact nameX_L (s:=M.s) M.st.fr h1 (q _ _ _ t h2) p.ok.kind (p.lo e) (p.noDbg e)
 | false =>
  show (match ceN Z.sc x with | true=>_ | false=>_) → _
  cases e':ceN Z.sc x with
  | true =>
   intro t
   obtain ⟨sv,e1,t⟩:=of_opt t
   obtain ⟨c,o,v,h1,h2,h3,h4⟩:=p.cel _ _ e1
   exact nameX_C (s:=M.s) M.st.nw h1 (M.inR (M.sub _ h2)) h3 (q _ _ _ t (h4.mono M.sub)) p.ok.kind ((p.kindOf x).trans (ce_of e')) (beq_eq_false_iff_ne.mpr fun q=>by have:=ce_of e';rw [q,p.dbg] at this;cases this)
  | false =>
  intro t
  obtain ⟨e0,t⟩:=of_iff t
  obtain ⟨sv,e1,t⟩:=of_opt t
  obtain ⟨v,g,h2⟩:=p.tab.glob _ _ e1
  exact nameX_K (s:=M.s) M.st.fr p.ok.kin (topRead_of p.ok.top) g.ns (q _ _ _ t (h2.mono (Sub.nil _))) p.ok.kind (p.gl e0) g.db
theorem blt_ok {x:Str} {pos:Pos} {v:Value} {Qc:Value → Shared → Prop} (p:Pl Z) (g:BltR Z.G x v) (h:glN Z.sc x = true) (q:∀ tk',Qc v (Z.G.sh M.h tk')):W M (eval (.Name x pos) Z.c.env) Qc :=
 nameX_B (s:=M.s) M.st.fr p.ok.kin (topRead_of p.ok.top) g.ns g.bt g.nm (q _) p.ok.kind (p.gl h) g.db
set_option backward.match.sparseCases true in
theorem fnV_ok {f:Addr} {xs:List SV} {us:List (Str × SV)} {vs ws:List Value} {Q:QV} {Qc:Value → Shared → Prop} (p:Pl Z) (r1:VRs Z.G.P M.R xs vs) (r2:VRs Z.G.P M.R (us.map (·.2)) ws) (e2:ws.length = us.length) (t:fnV Z.T f xs us M.H Q Z.X) (q:PQ M Q Qc) :
  codeAny Z.G.M Z.c.A (.call (.ref f) ⟨vs,(us.map (·.1)).zip ws⟩) (fun r s'=>match r with | .ok (.ret v)=>Qc v s' | .ok _=>False | .error e=>Z.Ec e s') M.s:=by
 obtain ⟨S,e,t⟩:=of_opt t
 exact p.tab.fns _ _ _ _ e M rfl p.ok p.room p.frames (VRs.append r2 r1) (by rw [← r1.length,lenL_eq]) (by rw [e2,List.length_map]) t q ((p.ex.xo m).of M.sub M.fs)
noncomputable def IsCl (Z:Cx) (M:Mo Z F loc m) (u:Value) (k:Addr → List SV → Prop):Prop:=∃ f first vs,VRs Z.G.P M.R first vs ∧ k f first ∧ ∀ {ws:List Value} {kw:List (Str × Value)} {R:Result → Shared → Prop},codeAny Z.G.M Z.c.A (.call (.ref f) ⟨vs ++ ws,kw⟩) R M.s → codeAny Z.G.M Z.c.A (.call u ⟨ws,kw⟩) R M.s
theorem cal_ok {v:SV} {u:Value} {k:Addr → List SV → Prop} (r:VR Z.G.P M.R v u):calF v k → IsCl Z M u k :=
 VR.casesOn (motive_1:=fun v u _=>calF v k → IsCl Z M u k) r (fun t=>t.elim) (fun _ t=>t.elim) (fun _ _ t=>t.elim) (fun _ _ t=>t.elim) (fun _ _ _ _ t=>t.elim) (fun a t=>⟨a,[],[],.nil,t,id⟩) (fun _ _ t=>t.elim) (fun _ _ _ _ _ _ t=>t.elim) (fun _ _ _ _ _ _ t=>t.elim) (fun _ _ _ _ _ _ _ _ t=>t.elim)
  (fun a f v x hm r t=>⟨f,[x],[v],.cons r .nil,t,fun h=>method_call (s:=M.s) (M.get (M.inR hm)) h⟩) (fun _ _ _ _ _ _ _ _ _ t=>t.elim)
theorem callV_ok {fv:SV} {u:Value} {xs:List SV} {us:List (Str × SV)} {vs ws:List Value} {Q:QV} {Qc:Value → Shared → Prop} (p:Pl Z) (r:VR Z.G.P M.R fv u) (r1:VRs Z.G.P M.R xs vs) (r2:VRs Z.G.P M.R (us.map (·.2)) ws) (e2:ws.length = us.length)
  (t:calF fv fun f first=>fnV Z.T f (first ++ xs) us M.H Q Z.X) (q:PQ M Q Qc):W M (call u vs ((us.map (·.1)).zip ws)) Qc:=by
 obtain ⟨f,first,fs,r0,t,k⟩:=cal_ok (M:=M) r t
 exact wpAny_call (k (fnV_ok p (VRs.append r1 r0) r2 e2 t q))
theorem keep_fn {K:Frag} {f:Addr} (hf:fnIn K f = true):keepIn K (.ref f) = true:=by
 unfold fnIn at hf
 unfold keepIn
 split at hf
 ·rename_i e;dsimp only;rw [e]
 ·cases hf
theorem keep_bi {R:Lg} {id:String}:KeptAs Z R (.builtin id):=fun _ _ _=>⟨.machine,.inr (.inl rfl),.now⟩
theorem keep_ty {R:Lg} {id:String}:KeptAs Z R (.type id):=fun _ _ _=>⟨.machine,.inr (.inl rfl),.now⟩
theorem keep_val {fv:SV} {u:Value} (p:Pl Z) (r:VR Z.G.P M.R fv u):keepV Z.T fv = true → KeptAs Z M.R u:=by
 cases fv with
 | fix f =>
  intro e
  have e:(match lkN f Z.T.kept with | some _=>true | none=>false) = true:=e
  cases r
  cases q:lkN f Z.T.kept with
  | none=>rw [q] at e;cases e
  | some b=>exact fun h hk _=>keeps_K (p.tab.kept _ _ q).1 h hk
 | meth f self =>
  intro e
  have e:(match lkN f Z.T.kept with | some b=>b | none=>false) = true:=e
  cases r with
  | meth a f v self hm r =>
  cases q:lkN f Z.T.kept with
  | none=>rw [q] at e;cases e
  | some b=>rw [q] at e;exact fun h hk hr=>keeps_M ((p.tab.kept _ _ q).2 e) h ⟨hr _ hm,hk⟩
 | _=>exact fun e=>Bool.noConfusion e
end
theorem base_plain {o:Expr} (ho:isCall o = false) (attr:Str) (env:Env) (w:Sem Value):attributeBase o attr env w = w:=by cases o <;> first | rfl | cases ho
section
variable {M:Model} {A:Around} {E:Value → Shared → Prop} {s:Shared} {env:Env} {Q:Value → Shared → Prop}
theorem attr_ {o:Expr} {x:Str} {pos:Pos} (ho:isCall o = false)
  (h:wpAny M A (eval o env) (fun v s₁=>wpAny M A (getAttr v x true) (fun r s₂=>wpAny M A (letTemporaryGo o v r) (fun _=>Q r) E s₂) E s₁) E s):wpAny M A (eval (.Attribute o x pos) env) Q E s:=by
 show wpAny M A (do
  let ov ← attributeBase o x env (eval o env)
  standAt pos.atName
  let r ← holding [ov] (getAttr ov x true)
  letTemporaryGo o ov r
  pure r) Q E s
 rw [base_plain ho]
 exact wpAny_bind (wpAny_mono h (fun v s₁ h₁=>wpAny_bind (wpAny_standAt (wpAny_bind (wpAny_holding (wpAny_mono h₁ (fun r s₂ h₂=>wpAny_bind (wpAny_mono h₂ (fun _ _ h₃=>wpAny_pure h₃) fun _ _ x=>x)) fun _ _ x=>x))))) fun _ _ x=>x)
theorem form_ok {as:List Expr} {ks:List Keyword} {pos:Pos} (h1:as.length + ks.length ≤ 20) (h2:aOk as ks = true):methodCallForm (as.length + ks.length) (backTo pos (starEach as env)) (backToKw pos (keywordEach ks env)) = true:=by
 obtain ⟨n1,n2⟩:=Ba h2
 have k3:(backTo pos (starEach as env)).all (!·.1) = true:=by
  have k2:=nst_any (env:=env) (pos:=pos) n1
  rw [List.any_eq_false] at k2
  exact List.all_eq_true.mpr fun x hx=>by rw [Bool.not_eq_true'];exact Bool.eq_false_iff.mpr (k2 x hx)
 unfold methodCallForm
 rw [(named_all n2).1,k3]
 simp only [Bool.true_and,decide_eq_true_eq]
 split <;> (first | lia | omega)
theorem meth_ {o:Expr} {x:Str} {ap pos:Pos} {as:List Expr} {ks:List Keyword} (hm:mOk ap pos as ks = true) (ho:isCall o = false)
  (h:wpAny M A (eval o env) (fun v s₁=>wpAny M A (getMethod v x (do return (← importBound o env).getD true)) (fun fx s₂=>wpAny M A (callWith pos fx.1 fx.2 (backTo pos (starEach as env)) (backToKw pos (keywordEach ks env))) Q E s₂) E s₁) E s) :
  wpAny M A (eval (.Call (.Attribute o x ap) as ks pos) env) Q E s:=by
 obtain ⟨e1,hm⟩:=Ba hm
 obtain ⟨e2,hm⟩:=Ba hm
 rw [lenL_eq,lenL_eq] at e2
 have hf:=form_ok (env:=env) (pos:=pos) (Nb e2) hm
 have hp:methodCallPos true o env ap pos = pure pos:=by
  unfold methodCallPos
  rw [if_pos (by rw [Nq e1];simp)]
 show wpAny M A (do
  let ov ← attributeBase o x env (eval o env)
  standAt ap.atName
  methodCall o x ap pos env ov (as.length + ks.length) (backTo pos (starEach as env)) (backToKw pos (keywordEach ks env))) Q E s
 rw [base_plain ho]
 refine wpAny_bind (wpAny_mono h (fun v s₁ h₁=>wpAny_bind (wpAny_standAt ?_)) fun _ _ x=>x)
 unfold methodCall
 rw [hf]
 refine wpAny_bind (wpAny_holding (wpAny_mono (h₁:wpAny M A (calleeOf true o env v x) _ E s₁) (fun fx s₂ h₂=>?_) fun _ _ x=>x))
 obtain ⟨f,first⟩:=fx
 show wpAny M A (methodCallPos true o env ap pos >>= fun callPos=>callWith callPos f first _ _) Q E s₂
 rw [hp]
 exact wpAny_bind (wpAny_pure h₂)
theorem eval_name_call {x:Str} {np:Pos} {as:List Expr} {ks:List Keyword} {pos:Pos} (h:wpAny M A (eval (.Name x np) env) (fun f s₁=>wpAny M A (callWith pos f [] (backTo pos (starEach as env)) (backToKw pos (keywordEach ks env))) Q E s₁) E s):wpAny M A (eval (.Call (.Name x np) as ks pos) env) Q E s :=
 wpAny_bind (m:=eval (.Name x np) env) h
end
section
variable {n:Nat} {Z:Cx} {F:Lg} {loc:Loc} {m:Str → Option Value}
theorem boolL_ok (eo:EOk n) (p:Pl Z) {op:BoolOp} {pos:Pos} {es:List Expr}:∀ {e:Expr} {M:Mo Z F loc m} {Q:QV} {Qc:Value → Shared → Prop},boolL (Z.r n).E op e es loc M.H Q Z.X → PQ M Q Qc → W M (eval (.BoolOp op (e :: es) pos) Z.c.env) Qc:=by
 induction es with
 | nil=>intro e M Q Qc t q;exact BoolOp_one (eo p t q)
 | cons e2 es ih =>
  intro e M Q Qc t q
  have k:∀ sv v (M':Mo Z F loc m),Sub M.R M'.R → (tru sv M'.H fun c=>brn (goOn op c) (boolL (Z.r n).E op e2 es loc M'.H Q Z.X) (Q sv M'.H)) → VR Z.G.P M'.R sv v →
    W M' (truthy v) (fun b s'=>match goOn op b with | true=>wpAny Z.G.M Z.c.A (eval (.BoolOp op (e2 :: es) pos) Z.c.env) Qc Z.Ec s' | false=>Qc v s'):=fun sv v M' s' t' r'=>tru_ok r' t' fun b tk tb=>by
   cases e0:goOn op b with
   | true=>exact ih (M:=M'.tick tk) (tb.tt e0) (q.sub s')
   | false=>exact (q.sub s').use _ (tb.ff e0) r'
  cases op with
  | And=>exact BoolOp_and (eo p t fun sv v M' s' t' r'=>wpAny_mono (k sv v M' s' t' r') (fun b _ h=>by cases b <;> exact h) fun _ _ h=>h)
  | Or=>exact BoolOp_or (eo p t fun sv v M' s' t' r'=>wpAny_mono (k sv v M' s' t' r') (fun b _ h=>by cases b <;> exact h) fun _ _ h=>h)
theorem testL_ok (bo:BOk n) (p:Pl Z) {op:BoolOp} {pos:Pos} {whole:Sem Value} {es:List Expr}:∀ {M:Mo Z F loc m} {Q:QB} {Qc:Bool → Shared → Prop},testL (Z.r n).B op es loc M.H Q Z.X → PB M Q Qc → W M (PySem.isTrue (.BoolOp op es pos) Z.c.env whole) Qc:=by
 induction es with
 | nil=>intro M Q Qc t q;cases op with
  | And=>exact isTrue_and_nil (q _ M (Sub.refl _) t)
  | Or=>exact isTrue_or_nil (q _ M (Sub.refl _) t)
 | cons e es ih =>
  intro M Q Qc t q
  cases op with
  | And=>exact isTrue_and (bo p t fun b M' s' t'=>by cases b with
   | true=>exact ih (t'.tt rfl) (q.sub s')
   | false=>exact q _ M' s' (t'.ff rfl))
  | Or=>exact isTrue_or (bo p t fun b M' s' t'=>by cases b with
   | true=>exact q _ M' s' (t'.ff rfl)
   | false=>exact ih (t'.tt rfl) (q.sub s'))
inductive CmpS (E:WE) (l:Expr) (loc:Loc) (H:Hp) (K:QB) (X:XC):List CmpOp → List Expr → Prop
 | one (op:CmpOp) (x:Expr):behindInMarks op x = false → E l loc H (fun a H=>E x loc H (fun b H=>cmpV op a b H fun c=>K c H) X) X → CmpS E l loc H K X [op] [x]
 | two (o1 o2:CmpOp) (x y:Expr):behindInMarks o2 y = false → E l loc H (fun a H=>E x loc H (fun b H=>cmpV o1 a b H fun c=>brn c (E y loc H (fun d H=>cmpV o2 b d H fun c=>K c H) X) (K false H)) X) X → CmpS E l loc H K X [o1,o2] [x,y]
theorem of_nil {α:Type} {l:List α} (h:nil? l = true):l = []:=by cases l with | nil=>rfl | cons _ _=>cases h
theorem notT {b:Bool} (h:(!b) = true):b = false:=by cases b <;> first | rfl | cases h
theorem cmpE_inv {E:WE} {l:Expr} {loc:Loc} {H:Hp} {K:QB} {X:XC} {ops:List CmpOp} {xs:List Expr} (t:cmpE E l ops xs loc H K X):CmpS E l loc H K X ops xs:=by
 cases ops with
 | nil=>exact t.elim
 | cons op ops=>cases xs with
  | nil=>exact t.elim
  | cons x xs=>cases ops with
   | nil =>
    obtain ⟨e,t2⟩:=of_iff t
    obtain ⟨e1,e2⟩:=Ba e
    cases of_nil e1
    exact .one op x (notT e2) t2
   | cons o2 ops=>cases xs with
    | nil=>exact t.elim
    | cons y xs =>
     obtain ⟨e,t2⟩:=of_iff t
     obtain ⟨e1,e⟩:=Ba e
     obtain ⟨e2,e3⟩:=Ba e
     cases of_nil e1
     cases of_nil e2
     exact .two op o2 x y (notT e3) t2
theorem cmpv_ok (eo:EOk n) (p:Pl Z) {l:Expr} {ops:List CmpOp} {xs:List Expr} {pos:Pos} {M:Mo Z F loc m} {Q:QV} {Qc:Value → Shared → Prop} (t:CmpS (Z.r n).E l loc M.H (fun c H=>Q (.bool c) H) Z.X ops xs) (q:PQ M Q Qc):W M (eval (.Compare l ops xs pos) Z.c.env) Qc:=by
 cases t with
 | one op x hm t=>exact wpAny_Compare1 (eo p t fun sv v M' s' t' r'=>eo p t' fun sv2 v2 M2 s2 t2 r2=>cmp_ok (r'.mono s2) r2 t2 fun b tk tb=>(q.sub (s'.trans s2)).use _ tb (.bool _)) hm
 | two o1 o2 x y hm t =>
  refine Compare_chain (eo p t fun sv v M' s' t' r'=>chain_link (eo p t' fun sv2 v2 M2 s2 t2 r2=>cmp_ok (r'.mono s2) r2 t2 fun b tk tb=>wpAny_truthy_bool ?_)) (by simpa [lastMarks] using hm)
  cases b with
  | false=>exact (q.sub (s'.trans s2)).use _ (tb.ff rfl) (.bool _)
  | true=>exact chain_last (eo p (M:=M2.tick tk) (tb.tt rfl) fun sv3 v3 M3 s3 t3 r3=>cmp_ok (r2.mono s3) r3 t3 fun b tk tb=>(q.sub ((s'.trans s2).trans s3)).use _ tb (.bool _))
theorem cmpb_ok (eo:EOk n) (p:Pl Z) {l:Expr} {ops:List CmpOp} {xs:List Expr} {pos:Pos} {M:Mo Z F loc m} {Q:QB} {Qc:Bool → Shared → Prop} (t:CmpS (Z.r n).E l loc M.H Q Z.X ops xs) (q:PB M Q Qc):W M (isTrue (.Compare l ops xs pos) Z.c.env (eval (.Compare l ops xs pos) Z.c.env)) Qc:=by
 cases t with
 | one op x hm t =>
  rw [isTrue_Compare1,markedBehindIn_of_false hm]
  exact wpAny_bind (eo p t fun sv v M' s' t' r'=>wpAny_bind (wpAny_holding (eo p t' fun sv2 v2 M2 s2 t2 r2=>wpAny_bind (wpAny_standAt (wpAny_bind (wpAny_operate' (cmp_ok (r'.mono s2) r2 t2 fun b tk tb=>wpAny_holding (wpAny_truthy_bool (q _ (M2.tick tk) (s'.trans s2) tb)))))))))
 | two o1 o2 x y hm t =>
  refine isTrue_chain (eo p t fun sv v M' s' t' r'=>test_link (eo p t' fun sv2 v2 M2 s2 t2 r2=>cmp_ok (r'.mono s2) r2 t2 fun b tk tb=>wpAny_truthy_bool ?_)) (by simpa [lastMarks] using hm)
  cases b with
  | false=>exact q _ (M2.tick tk) (s'.trans s2) (tb.ff rfl)
  | true=>exact test_last (eo p (M:=M2.tick tk) (tb.tt rfl) fun sv3 v3 M3 s3 t3 r3=>cmp_ok (r2.mono s3) r3 t3 fun b tk tb=>wpAny_truthy_bool (q _ (M3.tick tk) ((s'.trans s2).trans s3) tb))
end
theorem Constant_int' {M:Model} {A:Around} {E:Value → Shared → Prop} {s:Shared} {env:Env} {i:Int} {k:Nat} {pos:Pos} {Q:Value → Shared → Prop} (h:∀ t tk',Q (.int i t) { s with toks:=tk' }):wpAny M A (eval (.Constant (.int i) k pos) env) Q E s:=fun _ _ _=>h _ _
theorem mOk_aOk {ap pos:Pos} {as:List Expr} {ks:List Keyword} (hm:mOk ap pos as ks = true):aOk as ks = true:=(Ba (Ba hm).2).2
section
variable {n:Nat} {Z:Cx} {F:Lg} {loc:Loc} {m:Str → Option Value} {M:Mo Z F loc m}
theorem cst_ok {c:Const} {k:Nat} {pos:Pos} {Q:QV} {Qc:Value → Shared → Prop} (t:cstV c fun v=>Q v M.H) (q:PQ M Q Qc):W M (eval (.Constant c k pos) Z.c.env) Qc:=by
 cases c with
 | none=>exact Constant_none (q.use _ t .none)
 | bool b=>exact Constant_bool (q.use _ t (.bool _))
 | int i=>exact Constant_int' fun t' tk'=>q.use _ t (.int _ _)
 | str s=>exact Constant_str (q.use _ t (.str _ _))
 | _=>exact (t:False).elim
theorem un_ok (eo:EOk n) (p:Pl Z) {op:UnaryOp} {x:Expr} {pos:Pos} {Q:QV} {Qc:Value → Shared → Prop} (t:(Z.r n).E x loc M.H (fun v H=>unV op v H Q) Z.X) (q:PQ M Q Qc):W M (eval (.UnaryOp op x pos) Z.c.env) Qc:=by
 cases op with
 | Not=>exact UnaryOp_ (eo p t fun sv v M' s' t' r'=>PyProof.Rows.not_of (tru_ok r' t' fun b tk tb=>(q.sub s').use _ tb (.bool _)))
 | USub=>exact UnaryOp_ (eo p t fun sv v M' s' t' r'=>by
   obtain ⟨i,ti,rfl,t2⟩:=asI_ok r' t'
   exact neg_int (s:=M'.s) ((q.sub s').use _ t2 (.int _ _)))
 | _=>exact UnaryOp_ (eo p t fun sv v M' s' t' r'=>(t':False).elim)
theorem tup_ok (eo:EOk n) (p:Pl Z) {es:List Expr} {k:Nat} {pos:Pos} {Q:QV} {Qc:Value → Shared → Prop} (hn:allNst es = true) (t:argL (Z.r n).E es loc M.H (fun vs H=>iff_ (Nat.ble (lenL vs) 1000) (Q (.tup vs) H)) Z.X) (q:PQ M Q Qc):W M (eval (.Tuple es k pos) Z.c.env) Qc:=by
 refine Tuple_ (args_ok eo p hn t fun xs vs M' s' t' r'=>?_)
 obtain ⟨e1,t'⟩:=of_iff t'
 have e1:=Nb e1
 rw [lenL_eq,r'.length] at e1
 exact newTuple_N (s:=M'.s) M'.st.fr M'.st.nw (fun h2 F2 N2=>q (.tup xs) _ (M'.more _ _ M'.tk F2 N2 M'.size_ne) (s'.trans (Sub.cons _ _)) t' (.tup _ _ 0 _ (.head _) (r'.mono (Sub.cons _ _)))) (Nl e1 (by decide))
theorem list_ok (eo:EOk n) (p:Pl Z) {es:List Expr} {pos:Pos} {Q:List SV → Hp → Prop} {Qc:Value → Shared → Prop} (hn:allNst es = true) (t:argL (Z.r n).E es loc M.H (fun vs H=>iff_ (Nat.ble (lenL vs) 1000) (Q vs H)) Z.X)
  (q:∀ xs vs a h' tk (M':Mo Z F loc m),Sub M.R M'.R → Q xs M'.H → VRs Z.G.P M'.R xs vs → Fr Z.c.h₀ Z.c.L h' m → News Z.c.h₀ Z.c.L h' ((a,W.listOf vs.toArray 0) :: M'.L) → (∀ p ∈ M'.L,p.1 ≠ a) → Qc (.ref a) (Z.G.sh h' tk)):W M (eval (.List es pos) Z.c.env) Qc:=by
 refine List_ (args_ok eo p hn t fun xs vs M' s' t' r'=>?_)
 obtain ⟨e1,t'⟩:=of_iff t'
 have e1:=Nb e1
 rw [lenL_eq,r'.length] at e1
 exact newList_K (s:=M'.s) M'.st.fr M'.st.nw (fun a h2 F2 N2 l1=>q xs vs a h2 _ M' s' t' r' F2 N2 (lt_ne l1)) (Nl e1 (by decide))
noncomputable def PartR (Z:Cx) (F:Lg) (loc:Loc) (m:Str → Option Value) (M:Mo Z F loc m) (Q:QV) (v:Value) (s:Shared):Prop:=∃ sv,∃ M':Mo Z F loc m,s = M'.s ∧ Sub M.R M'.R ∧ Q sv M'.H ∧ VR Z.G.P M'.R sv v
theorem part_ok (eo:EOk n) (p:Pl Z) {o:Option Expr} {Q:QV} (t:partE (Z.r n).E o loc M.H Q Z.X):W M (evalPart o Z.c.env) (PartR Z F loc m M Q):=by
 cases o with
 | none=>exact wpAny_pure ⟨.none,M,rfl,Sub.refl _,t,.none⟩
 | some e=>exact eo p t fun sv v M' s' t' r'=>⟨sv,M',rfl,s',t',r'⟩
theorem slice_ok (eo:EOk n) (p:Pl Z) {v:Expr} {l u:Option Expr} {sp pos:Pos} {Q:QV} {Qc:Value → Shared → Prop} (t:(Z.r n).E v loc M.H (fun a H=>partE (Z.r n).E l loc H (fun lv H=>partE (Z.r n).E u loc H (fun uv H=>look a H fun w=>slcW w lv uv fun y=>Q y H) Z.X) Z.X) Z.X) (q:PQ M Q Qc) :
  W M (eval (.Subscript v (.Slice l u none sp) pos) Z.c.env) Qc:=by
 refine Subscript_ (eo p t fun sv v M' s' t' r'=>wpAny_Slice (wpAny_mono (part_ok eo p t') (fun lv s₁ z=>?_) fun _ _ z=>z))
 obtain ⟨lsv,M2,rfl,s2,t2,r2⟩:=z
 refine wpAny_mono (part_ok eo p t2) (fun uv s₁ z=>?_) fun _ _ z=>z
 obtain ⟨usv,M3,rfl,s3,t3,r3⟩:=z
 exact wpAny_pure (slc_ok (r'.mono (s2.trans s3)) (r2.mono s3) r3 t3 (q.sub ((s'.trans s2).trans s3)))
theorem meth_ok (eo:EOk n) (p:Pl Z) {o:Expr} {x:Str} {ap pos:Pos} {as:List Expr} {ks:List Keyword} {Q:QV} {Qc:Value → Shared → Prop} (hm:mOk ap pos as ks = true) (ho:isCall o = false)
  (t:(Z.r n).E o loc M.H (fun v H=>resM Z.T v x H fun c=>iff_ (calOK Z.T c) (argL (Z.r n).E as loc H (fun vs H=>kwL (Z.r n).E ks loc H (fun us H=>calV Z.T c vs us (lblOf pos) H Q Z.X) Z.X) Z.X)) Z.X) (q:PQ M Q Qc):W M (eval (.Call (.Attribute o x ap) as ks pos) Z.c.env) Qc:=by
 have ha:=mOk_aOk hm
 refine meth_ hm ho (eo p t fun sv v M' s' t' r'=>res_ok p.tab.attr p.tab.kd p.ok r' t' fun cal fx tk t2 cr=>?_)
 obtain ⟨hc,t2⟩:=of_iff t2
 cases cal with
 | fn f first =>
  obtain ⟨v1,rfl,r1,hf⟩:=cr
  exact cw_ok eo p (M:=M'.tick tk) ha (fun h hk _=>keeps_K (keep_fn hf) h hk) t2 fun xs us vs ws M3 s3 t3 r3 r4 e4=>wpAny_call (fnV_ok p (VRs.append r3 (r1.mono s3)) r4 e4 t3 (q.sub (s'.trans s3)))
 | val u =>
  obtain ⟨v1,rfl,r1⟩:=cr
  exact cw_ok eo p (M:=M'.tick tk) ha (keep_val (M:=M') p r1 hc) t2 fun xs us vs ws M3 s3 t3 r3 r4 e4=>callV_ok p (r1.mono s3) r3 r4 e4 t3 (q.sub (s'.trans s3))
 | bm b self =>
  obtain ⟨v1,rfl,r1⟩:=cr
  refine cw_ok eo p (M:=M'.tick tk) ha keep_bi t2 fun xs us vs ws M3 s3 t3 r3 r4 e4=>?_
  obtain ⟨e5,t3⟩:=of_iff t3
  cases of_nil e5
  cases ws with
  | cons _ _=>cases e4
  | nil=>exact bm_ok p.tab.kd p.ok (r1.mono s3) r3 t3 (q.sub (s'.trans s3))
theorem keys_inv {e d:Expr} (h:keysOf e = some d):∃ ap pos,e = .Call (.Attribute d "keys" ap) [] [] pos ∧ mOk ap pos [] [] = true ∧ isCall d = false:=by
 cases e with
 | Call f as ks pos=>cases f with
  | Attribute o x ap =>
   have h:(match and (and (sbeq x "keys") (and (nil? as) (nil? ks))) (and (mOk ap pos as ks) (!(isCall o))) with | true=>some o | false=>none) = some d:=h
   cases e:and (and (sbeq x "keys") (and (nil? as) (nil? ks))) (and (mOk ap pos as ks) (!(isCall o))) with
   | false=>rw [e] at h;cases h
   | true =>
    rw [e] at h
    cases h
    obtain ⟨e1,e2⟩:=Ba e
    obtain ⟨e3,e4⟩:=Ba e1
    obtain ⟨e5,e6⟩:=Ba e4
    obtain ⟨e7,e8⟩:=Ba e2
    cases of_nil e5
    cases of_nil e6
    cases of_sbeq e3
    exact ⟨ap,pos,rfl,e7,notT e8⟩
  | _=>exact no_none h
 | _=>exact no_none h
theorem dct_ok {w:Vw} {u:Value} {k:List (Str × SV) → Prop} (r:VwR Z.G.P M.L M.R w u) (t:dctW w k):∃ a es n kvs,u = .ref a ∧ (a,dictOf es n) ∈ M.L ∧ DR Z.G.P M.R kvs es ∧ (kvs.map (·.1)).Nodup ∧ (a == sysModules) = false ∧ k kvs:=by
 cases r with
 | dct a es n kvs hm r hd hs=>exact ⟨a,es,n,kvs,rfl,hm,r,hd,hs,t⟩
 | _=>exact (t:False).elim
theorem sorted_ok (eo:EOk n) (p:Pl Z) {np pos:Pos} {e d:Expr} {Q:QV} {Qc:Value → Shared → Prop} (hs:glN Z.sc "sorted" = true) (hk:keysOf e = some d)
  (t:(Z.r n).E d loc M.H (fun v H=>look v H fun w=>dctW w fun kvs=>iff_ (Nat.ble kvs.length 60) (Q (.lst ((sortS (kvs.map (·.1))).map .str)) H)) Z.X) (q:PQ M Q Qc):W M (eval (.Call (.Name "sorted" np) [e] [] pos) Z.c.env) Qc:=by
 obtain ⟨ap,kp,rfl,hm,ho⟩:=keys_inv hk
 refine eval_name_call (blt_ok p p.tab.srt hs fun tk=>?_)
 refine callWith_of (P:=fun _=>True) rfl (fun h _=>⟨.machine,.inr (.inl rfl),.now⟩) (evalArgs_plain (spliced_cons ?_))
 refine meth_ hm ho (eo p (M:=M.tick tk) t fun sv v M' s' t' r'=>?_)
 obtain ⟨w,rw',t'⟩:=look_ok r' t'
 obtain ⟨a,es,n',kvs,rfl,k1,k2,k3,k4,k5⟩:=dct_ok rw' t'
 obtain ⟨k5,k6⟩:=of_iff k5
 have k5:=Nb k5
 have hT:M'.s.TypeIs (.ref a) "dict":=⟨_,M'.get k1,rfl⟩
 with_reducible refine getMethod_builtin hT PySem.F.plainAttrs_dict PySem.F.slot_dict_keys PySem.F.type_dict_keys ?_ ?_
 ·intro b e;cases e;exact ⟨_,M'.get k1,rfl⟩
 refine callWith_of (P:=fun _=>True) rfl (fun h _=>⟨.machine,.inr (.inl rfl),.now⟩) (evalArgs_nil3 ⟨trivial,?_⟩)
 obtain ⟨us,dO,p2⟩:=k2.isDict (prog:=Z.G.prog) (w:=Z.G.w) rfl k3 (n:=n')
 refine kdl_view_keys (s:=M'.s) M'.st.fr M'.st.nw k1 dO k4 fun D h2 F2 N2 l2=>spliced_nil ⟨trivial,?_⟩
 exact sort_ok (M:=M'.more (D,_) h2 M'.tk F2 N2 (lt_ne l2)) p.hd (List.mem_append.mpr ((Ma k1).imp id fun k=>List.mem_append.mpr ((Ma k).imp (.tail _) id))) (.head _) (k2.mono (Sub.cons _ _)) k3 k5 k6 (q.sub (s'.trans (Sub.cons _ _)))
theorem name_call_ok (eo:EOk n) (p:Pl Z) {x:Str} {np pos:Pos} {as:List Expr} {ks:List Keyword} {Q:QV} {Qc:Value → Shared → Prop} (t:callE Z.T Z.sc (Z.r n) (.Name x np) as ks pos loc M.H Q Z.X) (q:PQ M Q Qc):W M (eval (.Call (.Name x np) as ks pos) Z.c.env) Qc:=by
 obtain ⟨ha,t⟩:=of_iff t
 cases e1:and (sbeq x "sorted") (glN Z.sc x) with
 | true =>
  rw [e1] at t
  obtain ⟨e2,e3⟩:=Ba e1
  cases of_sbeq e2
  cases as with
  | nil=>exact (t:False).elim
  | cons e es =>
   obtain ⟨e4,t2⟩:=of_iff t
   obtain ⟨e5,e6⟩:=Ba e4
   cases of_nil e5
   cases of_nil e6
   obtain ⟨d,e7,t2⟩:=of_opt t2
   exact sorted_ok eo p e3 e7 t2 q
 | false =>
  rw [e1] at t
  dsimp only at t
  cases e2:and (glN Z.sc x) (isSome? (lk x Z.T.bfn)) with
  | true =>
   rw [e2] at t
   obtain ⟨b,e3,t⟩:=of_opt t
   obtain ⟨e4,t⟩:=of_iff t
   cases of_nil e4
   refine eval_name_call (blt_ok p (p.tab.bfn _ _ e3) (Ba e2).1 fun tk=>?_)
   have hk:KeptAs Z M.R (bfVal b):=by cases b <;> first | exact keep_bi | exact keep_ty
   refine cw_ok eo p (M:=M.tick tk) (ks:=[]) ha hk (Q:=fun vs us H=>match us with | []=>bifV Z.T b vs H Q | _=>False) t fun xs us vs ws M3 s3 t3 r3 r4 e4=>?_
   cases us with
   | cons _ _=>exact (t3:False).elim
   | nil=>cases ws with
    | cons _ _=>cases e4
    | nil=>exact bif_ok p.hd p.tab.isa p.ok r3 t3 (q.sub s3)
  | false =>
   rw [e2] at t
   refine eval_name_call (name_ok p t fun sv v tk t2 r2=>?_)
   obtain ⟨e3,t2⟩:=of_iff t2
   exact cw_ok eo p (M:=M.tick tk) ha (keep_val (M:=M) p r2 e3) t2 fun xs us vs ws M3 s3 t3 r3 r4 e4=>callV_ok p (r2.mono s3) r3 r4 e4 t3 (q.sub s3)
theorem sub_ok' (eo:EOk n) (p:Pl Z) {v i:Expr} {pos:Pos} {Q:QV} {Qc:Value → Shared → Prop} (hs:plainSl i = true) (t:(Z.r n).E v loc M.H (fun a H=>(Z.r n).E i loc H (fun b H=>subV Z.T a b H fun w=>Q w H) Z.X) Z.X) (q:PQ M Q Qc):W M (eval (.Subscript v i pos) Z.c.env) Qc :=
 Subscript_ (eo p t fun sv v M' s' t' r'=>eo p t' fun sv2 v2 M2 s2 t2 r2=>sub_ok p.tab.kl p.ok hs (r'.mono s2) r2 t2 (q.sub (s'.trans s2)))
end
theorem okS_len {x:Str} (h:okS x = true):(reprText x).length ≤ 1002:=by
 obtain ⟨h1,h2⟩:=Ba h
 have:=StrLaws.reprText_len x fun c hc=>by have:=List.all_eq_true.mp h2 c hc;exact Nb this
 have:=Nb h1
 (first | lia | omega)
structure JR (acc:Option Str) (n:Nat) (out:Str):Prop where
 is:∀ a,acc = some a → out = a
 le:out.length ≤ n
theorem JR.add {acc:Option Str} {n:Nat} {out:Str} (j:JR acc n out) (y:Str):JR (jadd acc y) (n + y.length) (out ++ y) :=
 ⟨fun a e=>by cases acc with | none=>cases e | some b=>cases e;rw [j.is b rfl],by rw [La];exact Nat.add_le_add_right j.le _⟩
theorem JR.bd {acc:Option Str} {n:Nat} {out:Str} {k:Prop} (j:JR acc n out) (t:jbd acc n k):out.length ≤ sizeLine ∧ k:=by
 cases acc with
 | some a=>have:=of_bnz (n:=a.length) t;rw [j.is a rfl];exact this
 | none=>obtain ⟨h,t⟩:=of_iff (c:=Nat.ble n 100000) t;exact ⟨Nl j.le (Nl (Nb h) (by decide)),t⟩
theorem FormattedValue_s {M:Model} {A:Around} {E:Value → Shared → Prop} {s:Shared} {env:Env} {value:Expr} {pos:Pos} {Q:Value → Shared → Prop}
  (h:wpAny M A (eval value env) (fun v s₁=>∃ x t,v = .str x t ∧ x.length ≤ sizeLine ∧ ∀ t' tk,Q (.str x t') { s₁ with toks:=tk }) E s):wpAny M A (eval (.FormattedValue value 115 none pos) env) Q E s:=by
 show wpAny M A (do let v ← eval value env;standAt pos;formatted pos (← holding [v] (converted 115 v)) none) Q E s
 refine wpAny_bind (wpAny_mono h (fun v s₁ h₁=>?_) fun _ _ x=>x)
 obtain ⟨x,t,rfl,hz,q⟩:=h₁
 refine wpAny_bind (wpAny_standAt ?_)
 show wpAny _ _ (do let v' ← holding [.str x t] (habitSame "fstring-hands-on-the-str" (.str x t));formatField v' Str.empty) Q E s₁
 exact wpAny_bind (wpAny_holding (habitSame_str (fun t' tk=>formatField_str (fun t2 tk2=>q t2 tk2) hz) hz))
section
variable {n:Nat} {Z:Cx} {F:Lg} {loc:Loc} {m:Str → Option Value}
theorem jst_ok (eo:EOk n) (p:Pl Z) (es:List Expr):∀ {M:Mo Z F loc m} {acc:Option Str} {k:Nat} {out:Str} {Q:QV} {Qc:Value → Shared → Prop},out.length ≤ sizeLine → JR acc k out → jstL (Z.r n).E es loc M.H acc k Q Z.X → PQ M Q Qc → W M (joinParts out (evalEach es Z.c.env)) Qc:=by
 induction es with
 | nil =>
  intro M acc k out Q Qc hz j t q
  refine joinParts_nil ?_ hz
  cases acc with
  | some a=>rw [j.is a rfl];exact q.use _ t (.str _ _)
  | none=>exact q.use _ (t out) (.str _ _)
 | cons e es ih =>
  intro M acc k out Q Qc hz j t q
  refine joinParts_cons ?_
  have t:(match strC e with
   | some s=>jbd (jadd acc s) (k + s.length) (bnz s.length (jstL (Z.r n).E es loc M.H (jadd acc s) (k + s.length) Q Z.X))
   | none=>opt (fvOf e) fun p=>(Z.r n).E p.2 loc M.H (fun v H=>asS v fun y=>(match p.1 with
    | false=>jbd (jadd acc y) (k + y.length) (bnz y.length (jstL (Z.r n).E es loc H (jadd acc y) (k + y.length) Q Z.X))
    | true=>iff_ (okS y) (jbd none (k + 1002) (jstL (Z.r n).E es loc H none (k + 1002) Q Z.X)))) Z.X):=t
  cases e with
  | Constant c ck pos=>cases c with
   | str s =>
    obtain ⟨h1,t⟩:=(j.add s).bd t
    obtain ⟨h2,t⟩:=of_bnz t
    exact Constant_str (s:=M.s) ⟨h1,ih (M:=M.tick _) h1 (j.add s) t (q.sub (Sub.refl _))⟩
   | _=>exact (t:False).elim
  | FormattedValue v c sp pos=>cases sp with
   | some _=>exact (t:False).elim
   | none=>cases c with
    | negSucc _=>exact (t:False).elim
    | ofNat c =>
     obtain ⟨⟨b,v'⟩,e1,t⟩:=of_opt t
     have e1:(match Nat.beq c 115 with | true=>some (false,v) | false=>(match Nat.beq c 114 with | true=>some (true,v) | false=>none)) = some (b,v'):=e1
     cases q1:Nat.beq c 115 with
     | true =>
      rw [q1] at e1
      cases e1
      cases Nq q1
      refine FormattedValue_s (eo p t fun sv u M' s' t' r'=>?_)
      obtain ⟨y,tk,rfl,t'⟩:=asS_ok r' t'
      obtain ⟨h1,t'⟩:=(j.add y).bd t'
      obtain ⟨h2,t'⟩:=of_bnz t'
      exact ⟨y,tk,rfl,h2,fun t2 tk2=>⟨h1,ih (M:=M'.tick _) h1 (j.add y) t' (q.sub s')⟩⟩
     | false =>
      rw [q1] at e1
      cases q2:Nat.beq c 114 with
      | false=>rw [q2] at e1;cases e1
      | true =>
       rw [q2] at e1
       cases e1
       cases Nq q2
       refine wpAny_FormattedValue_repr (eo p t fun sv u M' s' t' r'=>?_)
       obtain ⟨y,tk,rfl,t'⟩:=asS_ok r' t'
       obtain ⟨h1,t'⟩:=of_iff t'
       have hl:=okS_len h1
       have hz2:(reprText y).length ≤ sizeLine:=Nl hl (by decide)
       have j':JR none (k + 1002) (out ++ reprText y):=⟨fun a e=>(nomatch e),by rw [La];exact Nat.add_le_add j.le hl⟩
       obtain ⟨h2,t'⟩:=j'.bd t'
       exact wpAny_pyReprObj_str (s:=M'.s) (formatField_str (fun t2 tk2=>⟨h2,ih (M:=M'.tick _) h2 j' t' (q.sub s')⟩) hz2) hz2
  | _=>exact (t:False).elim
theorem joined_ok (eo:EOk n) (p:Pl Z) {M:Mo Z F loc m} {es:List Expr} {pos:Pos} {Q:QV} {Qc:Value → Shared → Prop} (h:two? es = true) (t:jstL (Z.r n).E es loc M.H (some Str.empty) 0 Q Z.X) (q:PQ M Q Qc):W M (eval (.JoinedStr es pos) Z.c.env) Qc:=by
 cases es with
 | nil=>cases h
 | cons e es=>cases es with
  | nil=>cases h
  | cons e2 es=>exact JoinedStr_many (jst_ok eo p (e :: e2 :: es) (Nat.zero_le _) ⟨fun a e=>Option.some.inj e,Nat.le_refl _⟩ t q)
end
theorem stE_ok {n:Nat} (eo:EOk n) (bo:BOk n):EOk (n + 1):=by
 intro Z F loc m M e Q Qc p t q
 have t:stE Z.T Z.sc (Z.r n) e loc M.H Q Z.X:=t
 cases e with
 | Constant c k pos=>exact cst_ok t q
 | Name x pos=>exact name_ok p t fun sv v tk' k r'=>q.use _ k r'
 | Attribute o x pos =>
  obtain ⟨ho,t⟩:=of_iff t
  exact attr_ (notT ho) (eo p t fun sv v M' s' t' r'=>getA_ok p.tab.attr p.ok r' t' fun sv2 v2 M2 s2 t2 r2=>wpAny_letTemporaryGo ((q.sub (s'.trans s2)).use _ t2 r2))
 | BinOp l op x pos=>exact wpAny_BinOp (eo p t fun sv v M' s' t' r'=>eo p t' fun sv2 v2 M2 s2 t2 r2=>bin_ok p.tab.fmt (r'.mono s2) r2 t2 (q.sub (s'.trans s2)))
 | UnaryOp op x pos=>exact un_ok eo p t q
 | BoolOp op es pos=>cases es with
  | nil=>exact t.elim
  | cons e es=>exact boolL_ok eo p t q
 | IfExp c a b pos=>exact IfExp_ (bo p t fun b M' s' t'=>by cases b with
   | true=>exact eo p (t'.tt rfl) (q.sub s')
   | false=>exact eo p (t'.ff rfl) (q.sub s'))
 | Compare l ops xs pos=>exact cmpv_ok eo p (cmpE_inv t) q
 | Tuple es k pos=>obtain ⟨h,t⟩:=of_iff t;exact tup_ok eo p h t q
 | List es pos =>
  obtain ⟨h,t⟩:=of_iff t
  exact list_ok eo p h (Q:=fun vs H=>Q (.lst vs) H) t fun xs vs a h' tk M' s' t' r' F2 N2 l2=>q (.lst xs) _ (M'.more _ h' tk F2 N2 l2) (s'.trans (Sub.cons _ _)) t' (.lst _ _ 0 _ (.head _) (r'.mono (Sub.cons _ _)))
 | Subscript v i pos=>cases i with
  | Slice l u s sp =>
   obtain ⟨h,t⟩:=of_iff t
   cases s with
   | some _=>cases h
   | none=>exact slice_ok eo p t q
  | _=>exact sub_ok' eo p rfl t q
 | Call f as ks pos=>cases f with
  | Attribute o x ap =>
   obtain ⟨h,t⟩:=of_iff t
   obtain ⟨h1,h2⟩:=Ba h
   exact meth_ok eo p h1 (notT h2) t q
  | Name x np=>exact name_call_ok eo p t q
  | _=>exact (t:False).elim
 | JoinedStr es pos=>obtain ⟨h,t⟩:=of_iff t;exact joined_ok eo p h t q
 | ListComp a b c d=>exact p.tab.comp M rfl rfl rfl p.scp p.dbg p.ok p.room p.ex p.cel p.nc t q
 | _=>exact (t:False).elim
theorem stB_ok {n:Nat} (eo:EOk n) (bo:BOk n):BOk (n + 1):=by
 intro Z F loc m M e Q Qc p t q
 have t:stB Z.T Z.sc (Z.r n) e loc M.H Q Z.X:=t
 have rest:PySem.isTrue e Z.c.env (eval e Z.c.env) = (do let v ← eval e Z.c.env;standAt e.pos;holding [v] (truthy v)) → (Z.r n).E e loc M.H (fun v H=>tru v H fun c=>Q c H) Z.X → W M (isTrue e Z.c.env (eval e Z.c.env)) Qc :=
  fun he t=>isTrue_plain (eo p t fun sv v M' s' t' r'=>tru_ok r' t' fun b tk tb=>q _ (M'.tick tk) s' tb) he
 cases e with
 | UnaryOp op x pos=>cases op with
  | Not=>exact isTrue_not (bo p t fun b M' s' t'=>q _ M' s' t')
  | _=>exact (t:False).elim
 | BoolOp op es pos=>exact testL_ok bo p t q
 | IfExp c a b pos=>exact isTrue_IfExp (bo p t fun b M' s' t'=>by cases b with
   | true=>exact bo p (t'.tt rfl) (q.sub s')
   | false=>exact bo p (t'.ff rfl) (q.sub s'))
 | Compare l ops xs pos=>exact cmpb_ok eo p (cmpE_inv t) q
 | Constant c k pos=>exact (t:False).elim
 | _=>exact rest rfl t
noncomputable def PL {Z:Cx} {F:Lg} {loc:Loc} {m:Str → Option Value} (M:Mo Z F loc m) (k:Loc → Hp → Prop) (Qc:Shared → Prop):Prop:=∀ loc' m' (M':Mo Z F loc' m'),Sub M.R M'.R → k loc' M'.H → Qc M'.s
theorem PL.sub {Z:Cx} {F:Lg} {loc loc':Loc} {m m':Str → Option Value} {M:Mo Z F loc m} {M':Mo Z F loc' m'} {k:Loc → Hp → Prop} {Qc:Shared → Prop} (q:PL M k Qc) (s:Sub M.R M'.R):PL M' k Qc:=fun _ _ _ s' t=>q _ _ _ (s.trans s') t
section
variable {n:Nat} {Z:Cx} {F:Lg} {loc:Loc} {m:Str → Option Value} {M:Mo Z F loc m}
noncomputable def Mo.store (M:Mo Z F loc m) {x:Str} {sv:SV} {v:Value} (r:VR Z.G.P M.R sv v) (h':Heap) (tk:Nat) (fr:Fr Z.c.h₀ Z.c.L h' (fun y=>if y = x then some v else m y)) (nw:News Z.c.h₀ Z.c.L h' M.L):Mo Z F (put x sv loc) (fun y=>if y = x then some v else m y) :=
 ⟨M.H,M.R,M.N,h',tk,⟨fr,nw,M.st.led⟩,M.lr.put r,M.sub,M.fs⟩
theorem store_ok {x:Str} {sv:SV} {v:Value} {k:Loc → Hp → Prop} {Qc:Shared → Prop} (p:Pl Z) (e:loN Z.sc x = true) (r:VR Z.G.P M.R sv v) (t:k (put x sv loc) M.H) (q:PL M k Qc):W M (storeName Z.c.env x v) (fun _ s'=>Qc s') :=
 storeX_L (s:=M.s) M.st.fr M.st.nw (fun h' F' N'=>q _ _ (M.store r h' _ F' N') (Sub.refl _) t) p.ok.kind (p.lo e)
theorem asgN_name {sc:Scope} {e:Expr} {es:List Expr} {xs:List SV} {loc loc':Loc} (h:asgN sc (e :: es) xs loc = some loc'):∃ x px v vs,e = .Name x px ∧ xs = v :: vs ∧ loN sc x = true ∧ asgN sc es vs (put x v loc) = some loc':=by
 cases xs with
 | nil=>exact no_none h
 | cons v vs=>cases e with
  | Name x px =>
   have h:(match loN sc x with | true=>asgN sc es vs (put x v loc) | false=>none) = some loc':=h
   cases e:loN sc x with
   | true=>rw [e] at h;exact ⟨x,px,v,vs,rfl,rfl,e,h⟩
   | false=>rw [e] at h;cases h
  | _=>exact no_none h
theorem asgN_len {sc:Scope} {env:Env} {loc':Loc} {ts:List Expr}:∀ {xs:List SV} {loc:Loc},asgN sc ts xs loc = some loc' → (assignEach ts env).length = xs.length ∧ (assignEach ts env).any (·.1) = false:=by
 induction ts with
 | nil=>intro xs loc e;cases xs with
  | nil=>exact ⟨rfl,rfl⟩
  | cons _ _=>cases e
 | cons t ts ih =>
  intro xs loc e
  obtain ⟨x,px,v,vs,rfl,rfl,_,e⟩:=asgN_name e
  exact ⟨congrArg Nat.succ (ih e).1,(ih e).2⟩
theorem asgN_ok (p:Pl Z) {loc':Loc} {k:Loc → Hp → Prop} {Qc:Shared → Prop} {ts:List Expr}:∀ {loc:Loc} {m:Str → Option Value} {M:Mo Z F loc m} {xs:List SV} {vs:List Value},VRs Z.G.P M.R xs vs → asgN Z.sc ts xs loc = some loc' → k loc' M.H → PL M k Qc →
  W M (assignInOrder ((assignEach ts Z.c.env).map (·.2)) vs) (fun _ s'=>Qc s'):=by
 induction ts with
 | nil =>
  intro loc m M xs vs r e t q
  cases r with
  | nil=>cases e;exact wpAny_assignInOrder_none (q _ _ M (Sub.refl _) t)
  | cons _ _=>cases e
 | cons tt ts ih =>
  intro loc m M xs vs r e t q
  obtain ⟨x,px,sv,xs,rfl,rfl,e1,e⟩:=asgN_name e
  cases r with
  | cons a r=>exact wpAny_assignInOrder_more (PyProof.Rows.assign_Name (storeX_L (s:=M.s) M.st.fr M.st.nw (fun h' F' N'=>ih (M:=M.store a h' _ F' N') r e t (q.sub (Sub.refl _))) p.ok.kind (p.lo e1)))
theorem each_one {t:Expr} {ts:List Expr} {env:Env}:∃ g,(assignEach (t :: ts) env).map (·.2) = g :: (assignEach ts env).map (·.2) ∧ (nst t = true → g = assign t env):=by
 cases t <;> first | exact ⟨_,rfl,fun _=>rfl⟩ | exact ⟨_,rfl,fun h=>Bool.noConfusion h⟩
theorem asgT_ok (eo:EOk n) (p:Pl Z) {t:Expr} {sv:SV} {v:Value} {k:Loc → Hp → Prop} {Qc:Shared → Prop} (ra:VR Z.G.P M.R sv v) (w:asgT Z.T Z.sc (Z.r n) t sv loc M.H k Z.X) (q:PL M k Qc):nst t = true ∧ W M (assign t Z.c.env v) (fun _ s'=>Qc s'):=by
 cases t with
 | Name x px=>obtain ⟨e,w⟩:=of_iff w;exact ⟨rfl,PyProof.Rows.assign_Name (store_ok p e ra w q)⟩
 | Attribute o x pos=>exact ⟨rfl,kas_attr (eo p w fun ov u M' s' t' r'=>setA_ok p.tab.attr p.ok r' (ra.mono s') t' fun M2 s2 t2=>q _ _ M2 (s'.trans s2) t2)⟩
 | Subscript o i pos =>
  obtain ⟨e,w⟩:=of_iff w
  exact ⟨rfl,kas_sub (eo p w fun ov u M' s' t' r'=>eo p t' fun iv u2 M2 s2 t2 r2=>setI_ok (r'.mono s2) r2 (ra.mono (s'.trans s2)) t2 fun M3 s3 t3=>q _ _ M3 ((s'.trans s2).trans s3) t3)⟩
 | Tuple ts k0 pos=>cases sv with
  | tup xs =>
   obtain ⟨loc',e,w⟩:=of_opt w
   refine ⟨rfl,?_⟩
   cases ra with
   | tup a vs n' _ hm rr =>
   obtain ⟨k1,k2⟩:=asgN_len (env:=Z.c.env) e
   have k3:(assignEach ts Z.c.env).findIdx? (·.1) = none:=List.findIdx?_eq_none_iff.mpr fun x hx=>Bool.eq_false_iff.mpr (List.any_eq_false.mp k2 x hx)
   refine assign_Tuple_tuple (s:=M.s) p.hd (M.isTup (M.inR hm)) (by rw [k1,rr.length,List.size_toArray]) k3 fun h' ext=>?_
   have keep:∀ b o,M.h.get? b = some o → h'.get? b = some o:=fun b o e=>ext b o (Nat.ne_of_lt (Heap.lt_size e)) e
   exact asgN_ok p (M:=M.heap h' _ (M.st.fr.kept keep) (M.st.nw.keepsAll keep)) rr e w (q.sub (Sub.refl _))
  | _=>exact (w:False).elim
 | _=>exact (w:False).elim
theorem asgL_ok (eo:EOk n) (p:Pl Z) {sv:SV} {v:Value} {k:Loc → Hp → Prop} {Qc:Shared → Prop} {ts:List Expr}:∀ {loc:Loc} {m:Str → Option Value} {M:Mo Z F loc m},VR Z.G.P M.R sv v → asgL Z.T Z.sc (Z.r n) ts sv loc M.H k Z.X → PL M k Qc →
  W M (assignAll v ((assignEach ts Z.c.env).map (·.2))) (fun _ s'=>Qc s'):=by
 induction ts with
 | nil=>intro loc m M ra w q;exact wpAny_pure (q _ _ M (Sub.refl _) w)
 | cons t ts ih =>
  intro loc m M ra w q
  obtain ⟨g,e1,e2⟩:=each_one (t:=t) (ts:=ts) (env:=Z.c.env)
  rw [e1]
  cases ts with
  | nil =>
   have z:=asgT_ok eo p ra (k:=k) w q
   rw [e2 z.1]
   exact z.2
  | cons t2 ts =>
   have z:=asgT_ok (Qc:=fun s'=>wpAny Z.G.M Z.c.A (assignAll v ((assignEach (t2 :: ts) Z.c.env).map (·.2))) (fun _ s'=>Qc s') Z.Ec s') eo p ra w fun loc' m' M' s' t'=>ih (ra.mono s') t' (q.sub s')
   rw [e2 z.1]
   obtain ⟨g2,e3,_⟩:=each_one (t:=t2) (ts:=ts) (env:=Z.c.env)
   rw [e3] at z ⊢
   exact wpAny_bind (wpAny_holding z.2)
end
noncomputable def FlR (p:PP) (R:Lg) (fl:Fl) (f:Flow):Prop:=match fl with
 | .next=>f = .next
 | .ret sv=>∃ v,f = .ret v ∧ VR p R sv v
noncomputable def PX {Z:Cx} {F:Lg} {loc:Loc} {m:Str → Option Value} (M:Mo Z F loc m) (Q:QS) (Qc:Flow → Shared → Prop):Prop:=∀ fl fv loc' m' (M':Mo Z F loc' m'),Sub M.R M'.R → Q fl loc' M'.H → FlR Z.G.P M'.R fl fv → Qc fv M'.s
theorem PX.sub {Z:Cx} {F:Lg} {loc loc':Loc} {m m':Str → Option Value} {M:Mo Z F loc m} {M':Mo Z F loc' m'} {Q:QS} {Qc:Flow → Shared → Prop} (q:PX M Q Qc) (s:Sub M.R M'.R):PX M' Q Qc:=fun _ _ _ _ _ s' t r=>q _ _ _ _ _ (s.trans s') t r
noncomputable def SOk (n:Nat):Prop:=∀ {Z:Cx} {F:Lg} {loc:Loc} {m:Str → Option Value} {M:Mo Z F loc m} {st:Stmt} {Q:QS} {Qc:Flow → Shared → Prop},Pl Z → (Z.r n).S st loc M.H Q Z.X → PX M Q Qc → W M (exec st Z.c.env) Qc
noncomputable def LOk (n:Nat):Prop:=∀ {Z:Cx} {F:Lg} {loc:Loc} {m:Str → Option Value} {M:Mo Z F loc m} {st:List Stmt} {Q:QS} {Qc:Flow → Shared → Prop},Pl Z → exeL Z.T (Z.r n).S st loc M.H Q Z.X → PX M Q Qc → W M (execs st Z.c.env) Qc
theorem Led.frz {p:PP} {H H':Hp} {R F pre post:Lg} {q:Addr × Obj} (x:Led p H (pre ++ ([q] ++ post)) R F) (hr:HR p R H' (pre ++ post)):Led p H' (pre ++ post) (q :: R) F:=by
 have nd:=x.nd
 rw [List.map_append,List.map_append,List.nodup_append] at nd
 obtain ⟨h1,h2,h3⟩:=nd
 have h2:=List.nodup_cons.mp h2
 have ne:∀ r ∈ pre ++ post,r.1 ≠ q.1:=fun r hr=>by
  rcases Ma hr with k | k
  ·exact h3 r.1 (List.mem_map_of_mem k) q.1 (.head _)
  ·exact fun e=>h2.1 (by show q.1 ∈ List.map (·.1) post;rw [← e];exact List.mem_map_of_mem k)
 have sub:∀ r ∈ pre ++ post,r ∈ pre ++ ([q] ++ post):=fun r hr=>(Ma hr).elim (fun k=>Ml _ k) fun k=>Mr _ (.tail _ k)
 refine ⟨hr.mono (Sub.cons _ _),?_,fun r hr s hs=>?_,fun r hr s hs=>?_⟩
 ·rw [List.map_append,List.nodup_append]
  exact ⟨h1,h2.2,fun u hu v hv=>h3 u hu v (.tail _ hv)⟩
 ·rcases Mc hs with rfl | hs
  ·exact ne r hr
  ·exact x.ap r (sub r hr) s hs
 ·rcases Mc hr with rfl | hr
  ·exact x.ap r (Mr _ (.head _)) s (Mr _ hs)
  ·exact x.af r hr s hs
theorem frz_mem {R F pre post:Lg} {q:Addr × Obj}:∀ r ∈ (pre ++ post) ++ (q :: R ++ F),r ∈ (pre ++ ([q] ++ post)) ++ (R ++ F):=fun r hr=>by
 rcases Ma hr with k | k
 ·exact Ml _ ((Ma k).elim (fun k=>Ml _ k) fun k=>Mr _ (.tail _ k))
 ·rcases Mc k with rfl | k
  ·exact Ml _ (Mr _ (.head _))
  ·exact Mr _ k
theorem LR.see {p:PP} {R R':Lg} {loc:Loc} {m:Str → Option Value} {x:Str} {sv':SV} {v:Value} (l:LR p R loc m) (hs:Sub R R') (e:m x = some v) (hv:VR p R' sv' v):LR p R' (Yv.put x sv' loc) m:=by
 intro y s e1
 rw [lk_put] at e1
 cases q:sbeq y x with
 | true =>
  rw [q] at e1;cases e1
  rw [of_sbeq q]
  exact ⟨v,e,hv⟩
 | false =>
  rw [q] at e1
  obtain ⟨u,h1,h2⟩:=l y s e1
  exact ⟨u,h1,h2.mono hs⟩
theorem HR.dels {p:PP} {R:Lg} (ls:List Nat):∀ {H:Hp} {N:Lg},HR p R H N → ∃ N',HR p R (delL ls H) N' ∧ N'.Sublist N:=by
 induction ls with
 | nil=>exact fun h=>⟨_,h,List.Sublist.refl _⟩
 | cons l r ih =>
  intro H N h
  obtain ⟨N1,h1,s1⟩:=h.del l
  obtain ⟨N2,h2,s2⟩:=ih h1
  exact ⟨N2,h2,s2.trans s1⟩
theorem keep_lk {loc:Loc} {x:Str} {v:SV}:∀ {xs:List Str},lk x (keepL loc xs) = some v → lk x loc = some v:=by
 intro xs
 induction xs with
 | nil=>intro e;cases e
 | cons y r ih =>
  intro e
  have e:lk x (match lk y loc with | some v=>(y,v) :: keepL loc r | none=>keepL loc r) = some v:=e
  cases q:lk y loc with
  | none=>rw [q] at e;exact ih e
  | some w =>
   rw [q] at e
   have e:lk x ((y,w) :: keepL loc r) = some v:=e
   rw [lk_cons] at e
   cases q2:sbeq x y with
   | true=>rw [q2] at e;cases e;rw [of_sbeq q2];exact q
   | false=>rw [q2] at e;exact ih e
theorem frz_vr {p:PP} {R n1:Lg} {A:Addr} {o:MO} {k:SV → Prop} (mr:MR p R A o n1) (t:frzM o k):∃ q u,n1 = [q] ∧ k u ∧ VR p (q :: R) u (.ref A):=by
 cases mr with
 | list xs vs n r=>exact ⟨_,_,rfl,t,.lst _ _ _ _ (.head _) (r.mono (Sub.cons _ _))⟩
 | dict kvs es n r d e=>exact ⟨_,_,rfl,t,.dct _ _ _ _ (.head _) (r.mono (Sub.cons _ _)) d e⟩
 | _=>exact (t:False).elim
section
variable {n:Nat} {Z:Cx} {F:Lg} {loc:Loc} {m:Str → Option Value} {M:Mo Z F loc m}
theorem frz_ok {ln:Nat} {k:Loc → Hp → Prop} (t:frzV Z.T ln loc M.H k):∃ loc',∃ M':Mo Z F loc' m,Sub M.R M'.R ∧ k loc' M'.H ∧ M'.s = M.s:=by
 revert t
 show (match lkN ln Z.T.frz with | none=>_ | some g=>_) → _
 cases lkN ln Z.T.frz with
 | none=>exact fun t=>⟨loc,M,Sub.refl _,t,rfl⟩
 | some g=>cases g with
  | acc l =>
   intro t
   obtain ⟨⟨a,o⟩,e,t⟩:=of_opt t
   cases o with
   | list xs =>
    obtain ⟨e1,t⟩:=of_iff t
    cases of_nil e1
    obtain ⟨n1,rest,mr,nw,ap,nd,back⟩:=M.open e
    generalize adr Z.G.P l a = A at *
    cases mr with
    | list _ vs n' r =>
    cases r
    exact back (.acc Str.empty 0) _ M.h M.tk (.acc _ Str.empty 0 [] [] n' .nil rfl (Nat.le_refl 0)) rfl M.st.fr nw (C:=fun s=>∃ loc',∃ M':Mo Z F loc' m,Sub M.R M'.R ∧ k loc' M'.H ∧ M'.s = s) fun M' h1 h2=>⟨loc,M',h2 ▸ Sub.refl _,h1 ▸ t,rfl⟩
   | _=>exact (t:False).elim
  | frz x =>
   intro t
   obtain ⟨v,e0,t⟩:=of_opt t
   obtain ⟨u,h1,h2⟩:=M.lr _ _ e0
   obtain ⟨l,a,o,rfl,rfl,e,t⟩:=own_ok h2 t
   obtain ⟨pre,n1,post,e1,mr,_,hd⟩:=M.st.led.hr.at e
   obtain ⟨q,u,rfl,t,vr⟩:=frz_vr mr t
   have led:=M.st.led
   have nw:=M.st.nw
   rw [e1] at led nw
   exact ⟨_,⟨delH l M.H,q :: M.R,pre ++ post,M.h,M.tk,⟨M.st.fr,fun r hr=>nw r (frz_mem r hr),led.frz hd⟩,M.lr.see (Sub.cons _ _) h1 vr,M.sub.trans (Sub.cons _ _),M.fs⟩,Sub.cons _ _,t,rfl⟩
  | trim xs ls =>
   intro t
   obtain ⟨N',hr,sl⟩:=M.st.led.hr.dels ls
   have sub:∀ r ∈ N' ++ (M.R ++ F),r ∈ M.N ++ (M.R ++ F):=fun r hr=>(Ma hr).elim (fun k=>Ml _ (sl.mem k)) (Mr _)
   exact ⟨_,⟨delL ls M.H,M.R,N',M.h,M.tk,⟨M.st.fr,fun r hr=>M.st.nw r (sub r hr),⟨hr,(sl.map _).nodup M.st.led.nd,fun r hr=>M.st.led.ap r (sl.mem hr),M.st.led.af⟩⟩,fun x sv e=>M.lr x sv (keep_lk e),M.sub,M.fs⟩,Sub.refl _,t,rfl⟩
theorem exeL_ok (so:SOk n):LOk n:=by
 intro Z F loc m M st
 induction st generalizing loc m M with
 | nil=>intro Q Qc p t q;exact wpAny_execs_nil (q .next _ _ _ M (Sub.refl _) t rfl)
 | cons a ss ih =>
  intro Q Qc p t q
  refine wpAny_execs_cons (so p t fun fl fv loc' m' M' s' t' f'=>?_)
  cases fl with
  | next =>
   cases f'
   have t':frzV Z.T (stLine a) loc' M'.H fun loc H=>exeL Z.T (Z.r n).S ss loc H Q Z.X:=t'
   obtain ⟨loc2,M2,s2,t2,e⟩:=frz_ok t'
   show wpAny Z.G.M Z.c.A (execs ss Z.c.env) Qc Z.Ec M'.s
   rw [← e]
   exact ih (M:=M2) p t2 (q.sub (s'.trans s2))
  | ret sv =>
   obtain ⟨v,rfl,rv⟩:=f'
   exact q _ _ _ _ M' s' t' ⟨v,rfl,rv⟩
noncomputable def Mo.frame (M:Mo Z F loc m) {g:Heap} {tk:Nat} {loc':Loc} {m':Str → Option Value} {H':Hp} {R' N':Lg} (q:Addr × Obj) (fr:Fr Z.c.h₀ Z.c.L g m') (nw:News Z.c.h₀ Z.c.L g (N' ++ (R' ++ q :: F))) (led:Led Z.G.P H' N' R' (q :: F)) (lr:LR Z.G.P R' loc' m') (sR:Sub M.R R'):Mo Z (q :: F) loc' m' :=
 ⟨H',R',N',g,tk,⟨fr,nw,led⟩,lr,M.sub.trans sR,M.fs.trans (Sub.cons _ _)⟩
noncomputable def Mo.less {q:Addr × Obj} (f:Sub Z.F₀ F) (M:Mo Z (q :: F) loc m):Mo Z F loc m:=⟨M.H,M.R,M.N,M.h,M.tk,⟨M.st.fr,fun p hp=>M.st.nw p (less_sub (Sub.cons _ _) p hp),M.st.led.less (Sub.cons _ _)⟩,M.lr,M.sub,f⟩
theorem Led.plus {p:PP} {H:Hp} {N R F:Lg} {q:Addr × Obj} (x:Led p H N R F) (h:∀ r ∈ N ++ (R ++ F),r.1 ≠ q.1):Led p H N R (q :: F) :=
 ⟨x.hr,x.nd,fun r hr s hs=>by
  rcases Ma hs with k | k
  ·exact x.ap r hr s (Ml _ k)
  ·rcases Mc k with rfl | k
   ·exact h r (Ml _ hr)
   ·exact x.ap r hr s (Mr _ k),fun r hr s hs=>by
  rcases Mc hs with rfl | k
  ·exact h r (Mr _ (Ml _ hr))
  ·exact x.af r hr s k⟩
theorem plus_mem {N R F:Lg} {q r:Addr × Obj} (h:r ∈ N ++ (R ++ q :: F)):r = q ∨ r ∈ N ++ (R ++ F):=by
 rcases Ma h with k | k
 ·exact .inr (Ml _ k)
 ·rcases Ma k with k | k
  ·exact .inr (Mr _ (Ml _ k))
  ·rcases Mc k with k | k
   ·exact .inl k
   ·exact .inr (Mr _ (Mr _ k))
noncomputable def LpI (Z:Cx) (F:Lg) (R:Lg) (S:WS) (y:Str) (body:List Stmt) (xs:List SV) (Q:QS) (i:Nat) (m':Str → Option Value) (news:Lg):Prop :=
 ∃ H' R' N' loc',news = N' ++ (R' ++ F) ∧ Led Z.G.P H' N' R' F ∧ Sub R R' ∧ LR Z.G.P R' loc' m' ∧ forL Z.T S y body (xs.drop i) loc' H' Q Z.X
theorem loop_back {q:Addr × Obj} {loc2:Loc} {m2:Str → Option Value} (M2:Mo Z (q :: F) loc2 m2) {ow:Lg} (how:∀ r ∈ ow,r = q ∨ r ∈ M2.R) (nF:∀ r ∈ F,r.1 ≠ q.1):News Z.c.h₀ Z.c.L M2.h (ow ++ (M2.N ++ (M2.R ++ F))) ∧ ∀ r ∈ M2.N ++ (M2.R ++ F),r.1 ∉ [q.1]:=by
 refine ⟨fun r hr=>?_,fun r hr hm=>?_⟩
 ·refine (Ma hr).elim (fun k=>(how r k).elim (fun e=>?_) fun k=>M2.st.nw _ (M2.inR k)) fun k=>M2.st.nw _ (less_sub (Sub.cons _ _) r k)
  rw [e]
  exact M2.st.nw _ (Mr _ (Mr _ (.head _)))
 ·have hm:=Ms hm
  exact (Ma hr).elim (fun k=>M2.st.led.ap r k q (Mr _ (.head _)) hm) fun k=>(Ma k).elim (fun k=>M2.st.led.af r k q (.head _) hm) fun k=>nF r k hm
theorem loop_ok {I:Addr} {fp:List Addr} {k:Nat} {Pv:Nat → Value → Prop} {Sv:Nat → Heap → Prop} {y:Str} {body:List Stmt} {xs:List SV} {Q:QS} {Qc:Flow → Shared → Prop} (bl:LOk n) (p:Pl Z)
  (Wk:Walks Z.G.prog Z.G.w Z.c.A I fp [I] k Pv Sv) (hn:k = xs.length) (hI:I = M.h.objs.size) (hfp:∀ b ∈ fp,b = I ∨ ∃ o,(b,o) ∈ M.R) (hIf:I ∈ fp)
  (hv:∀ i v,i < k → Pv i v → ∃ sv,xs[i]? = some sv ∧ VR Z.G.P M.R sv v) {oI:Obj} (st0:Sv 0 (M.h.push oI)) (stI:∀ i g,Sv i g → ∃ o,g.get? I = some o)
  (t:forL Z.T (Z.r n).S y body xs loc M.H Q Z.X) (q:PX M Q Qc) (tk:Nat):LoopAtV Z.G.prog Z.G.w Z.c.A Z.c.h₀ Z.c.env y body Qc Z.Ec (.ref I) (Z.G.sh (M.h.push oI) tk):=by
 have hL:Z.c.env.locals = Z.c.L:=rfl
 obtain ⟨oL,_,_,hgL,_⟩:=M.st.fr.ns
 have lt:∀ {b o},M.h.get? b = some o → b ≠ I:=fun e q=>absurd (Heap.lt_size e) (by rw [q,hI];exact Nat.lt_irrefl _)
 have h0I:Z.c.h₀.get? I = none:=by
  cases e:Z.c.h₀.get? I with
  | none=>rfl
  | some o=>exact (lt (M.st.fr.keep _ _ e) rfl).elim
 refine ⟨I,fp,[I],k,Pv,Sv,m,M.L,LpI Z F M.R (Z.r n).S y body xs Q,rfl,Wk,fun hm=>?_,fun b hb=>by rw [Ms hb];exact h0I,fun q hq hm=>lt (M.st.nw q hq).1 (Ms hm),st0,M.st.fr.push _,fun q hq=>⟨Heap.get?_push_of_some _ (M.st.nw q hq).1,(M.st.nw q hq).2⟩,
  ⟨M.H,M.R,M.N,loc,rfl,M.st.led,Sub.refl _,M.lr,t⟩,?_,?_⟩
 ·rw [hL] at hm
  rcases hfp _ hm with e | ⟨o,ho⟩
  ·exact lt hgL e
  ·exact (M.st.nw _ (M.inR ho)).2.1 rfl
 ·rintro i v m₁ news₁ s₁ ow ⟨g,tk1,rfl⟩ hi hp ⟨H',R',N',loc',rfl,led,sR,l',t'⟩ hoff hown hget hall hst F₁ N₁
  obtain ⟨sv,hx,rv⟩:=hv i v hi hp
  obtain ⟨oI',hoI⟩:=stI _ _ hst
  have hin:(I,oI') ∈ ow:=hall I hIf h0I oI' hoI
  have nI:∀ r ∈ N' ++ (R' ++ F),r.1 ≠ I:=fun r hr e=>hoff r hr (List.mem_singleton.mpr e)
  have N₂:News Z.c.h₀ Z.c.L g (N' ++ (R' ++ (I,oI') :: F)):=fun r hr=>N₁ r ((plus_mem hr).elim (fun e=>Ml _ (e ▸ hin)) fun k=>Mr _ k)
  have ed:xs.drop i = sv :: xs.drop (i + 1):=by
   have hlt:i < xs.length:=hn ▸ hi
   rw [List.getElem?_eq_getElem hlt] at hx
   cases hx
   exact List.drop_eq_getElem_cons hlt
  rw [ed] at t'
  refine bl (M:=M.frame (tk:=tk1) (I,oI') F₁ N₂ (led.plus nI) (l'.put (rv.mono sR)) sR) p t' fun fl fv loc2 m2 M2 s2 t2 f2=>?_
  cases fl with
  | next =>
   cases f2
   have bk:=loop_back M2 (ow:=ow) (fun r hr=>?_) fun r hr=>nI r (Mr _ (Mr _ hr))
   ·exact ⟨rfl,M2.h,M2.tk,m2,M2.N ++ (M2.R ++ F),rfl,M2.st.fr,bk.1,bk.2,⟨M2.H,M2.R,M2.N,loc2,rfl,M2.st.led.less (Sub.cons _ _),sR.trans s2,M2.lr,t2⟩⟩
   ·have e1:=hget r hr
    rcases hfp _ (hown r hr) with e | ⟨o,ho⟩
    ·rw [e] at e1
     exact .inl (Prod.ext e (Option.some.inj (hoI.symm.trans e1)).symm)
    ·have e2:=(N₂ _ (Mr _ (Ml _ (sR _ ho)))).1
     have:r = (r.1,o):=Prod.ext rfl (Option.some.inj (e1.symm.trans e2))
     exact .inr (this ▸ s2 _ (sR _ ho))
  | ret u =>
   obtain ⟨v2,rfl,rv2⟩:=f2
   exact q _ _ _ _ (M2.less M.fs) (sR.trans s2) t2 ⟨v2,rfl,rv2⟩
 ·rintro h' tk' m' news' F' N2 hoff ⟨H',R',N',loc',rfl,led,sR,l',t'⟩
  rw [hn,List.drop_length] at t'
  exact q .next _ _ _ (⟨H',R',N',h',tk',⟨F',N2,led⟩,l',M.sub.trans sR,M.fs⟩:Mo Z F loc' m') sR t' rfl
end
theorem rngL_get (c:Int) (n:Nat):∀ (a:Int) (i:Nat),i < n → (rngL a c n)[i]? = some (.int (a + i * c)):=by
 induction n with
 | zero=>intro a i h;exact absurd h (Nat.not_lt_zero _)
 | succ n ih =>
  intro a i h
  cases i with
  | zero=>show some (SV.int a) = some (.int (a + (0:Nat) * c));rw [Int.natCast_zero,Int.zero_mul,Int.add_zero]
  | succ i =>
   show (rngL (a + c) c n)[i]? = _
   rw [ih (a + c) i (Nat.lt_of_succ_lt_succ h),Int.natCast_succ,Int.add_mul,Int.one_mul,Int.add_assoc,Int.add_comm c]
theorem rngL_len (c:Int) (n:Nat):∀ a:Int,(rngL a c n).length = n:=by
 induction n with
 | zero=>intro _;rfl
 | succ n ih=>intro a;exact congrArg Nat.succ (ih (a + c))
section
variable {n:Nat} {Z:Cx} {F:Lg} {loc:Loc} {m:Str → Option Value} {M:Mo Z F loc m}
theorem iter_ok {sv:SV} {v:Value} {y:Str} {body:List Stmt} {Q:QS} {Qc:Flow → Shared → Prop} (bl:LOk n) (p:Pl Z) (rv:VR Z.G.P M.R sv v)
  (t:itrV sv fun xs=>forL Z.T (Z.r n).S y body xs loc M.H Q Z.X) (q:PX M Q Qc):W M (pyIter v) (fun it s₂=>LoopAtV Z.G.prog Z.G.w Z.c.A Z.c.h₀ Z.c.env y body Qc Z.Ec it s₂):=by
 cases rv with
 | str z tz =>
  have hv:∀ i v,i < z.cps.size → SignAt z i v → ∃ sv,(z.cps.toList.map fun c=>SV.str ⟨#[c]⟩)[i]? = some sv ∧ VR Z.G.P M.R sv v:=by
   rintro i v hi ⟨c',u,h1,rfl⟩
   exact ⟨.str ⟨#[c']⟩,by rw [List.getElem?_map,Array.getElem?_toList,h1];rfl,.str _ _⟩
  have hz:z.cps.size = (z.cps.toList.map fun c=>SV.str ⟨#[c]⟩).length:=by rw [List.length_map,Array.length_toList]
  cases ha:(z.cps.all fun x=>decide (x < 128)) with
  | true=>exact wpAny_pyIter_ascii (s:=M.s) ha (loop_ok bl p (Walks.strAscii p.hd M.h.objs.size z tz) hz rfl (fun b hb=>.inl (Ms hb)) (.head _) hv ⟨_,Heap.get?_push_size _ rfl,rfl,rfl⟩ (fun i g st=>let ⟨o,h1,_⟩:=st;⟨o,h1⟩) t q _)
  | false=>exact wpAny_pyIter_wide (s:=M.s) ha (loop_ok bl p (Walks.strWide p.hd M.h.objs.size z tz) hz rfl (fun b hb=>.inl (Ms hb)) (.head _) hv ⟨_,Heap.get?_push_size _ rfl,rfl,rfl⟩ (fun i g st=>let ⟨o,h1,_⟩:=st;⟨o,h1⟩) t q _)
 | byt bs arr tz e =>
  refine KBw.pyIter_bytes (s:=M.s) (loop_ok bl p (KBw.walks p.hd M.h.objs.size arr tz) (by rw [← e,List.length_map,List.length_map,Array.length_toList]) rfl (fun b hb=>.inl (Ms hb)) (.head _) ?_ ⟨_,Heap.get?_push_size _ rfl,rfl,rfl⟩ (fun i g st=>let ⟨o,h1,_⟩:=st;⟨o,h1⟩) t q _)
  rintro i v hi ⟨c',u,h1,rfl⟩
  exact ⟨.int (c'.toNat:Int),by rw [← e,List.map_map,List.getElem?_map,Array.getElem?_toList,h1];rfl,.int _ _⟩
 | lst a vs n xs hm rr =>
  have hl:=M.isList (M.inR hm)
  have hne:a ≠ M.h.objs.size:=Nat.ne_of_lt (Heap.lt_size (M.get (M.inR hm)))
  refine wpAny_pyIter_list (s:=M.s) hl (loop_ok bl p (Walks.list p.hd M.h.objs.size a hne vs.toArray) (by rw [List.size_toArray,rr.length]) rfl (fun b hb=>?_) (.head _) (fun i v hi hv=>?_) ⟨⟨_,Heap.get?_push_size _ rfl,rfl,rfl⟩,hl.push _⟩ (fun i g st=>let ⟨⟨o,h1,_⟩,_⟩:=st;⟨o,h1⟩) t q _)
  ·rcases Mc hb with rfl | hb
   ·exact .inl rfl
   ·rw [Ms hb];exact .inr ⟨_,hm⟩
  ·exact rr.back i (by rw [List.getElem?_toArray] at hv;exact hv)
 | _=>exact (t:False).elim
theorem isM1_ok {p:PP} {R:Lg} {v:SV} {u:Value} (r:VR p R v u) (h:isM1 v = true):∃ tk,u = .int (-1) tk:=by
 cases v with
 | int i=>cases r;cases i with
  | ofNat n=>cases h
  | negSucc n=>cases (Nq h);exact ⟨_,rfl⟩
 | _=>cases h
theorem rng_loop {a c:Int} {k:Nat} {h':Heap} {tk:Nat} {y:Str} {body:List Stmt} {Q:QS} {Qc:Flow → Shared → Prop} (bl:LOk n) (p:Pl Z) (F':Fr Z.c.h₀ Z.c.L h' m) (N':News Z.c.h₀ Z.c.L h' M.L) {oI:Obj} (st:IsRangeIter (h'.push oI) h'.objs.size a (k:Int) c)
  (t:forL Z.T (Z.r n).S y body (rngL a c k) loc M.H Q Z.X) (q:PX M Q Qc):LoopAtV Z.G.prog Z.G.w Z.c.A Z.c.h₀ Z.c.env y body Qc Z.Ec (.ref h'.objs.size) (Z.G.sh (h'.push oI) tk):=by
 refine loop_ok (M:=M.heap h' tk F' N') bl p ((Walks.range p.hd h'.objs.size a c k).bound) (by rw [rngL_len]) rfl (fun b hb=>.inl (Ms hb)) (.head _) ?_ (oI:=oI) ?_ (fun i g st=>⟨_,st⟩) t (q.sub (Sub.refl _)) tk
 ·rintro i v hi ⟨_,u,rfl⟩
  exact ⟨_,rngL_get _ _ _ _ hi,.int _ _⟩
 ·show IsRangeIter _ _ (a + (0:Nat) * c) ((k:Int) - (0:Nat)) c
  rw [Int.natCast_zero,Int.zero_mul,Int.add_zero,Int.sub_zero]
  exact st
theorem rng_ok {vs:List SV} {us:List Value} {y:Str} {body:List Stmt} {Q:QS} {Qc:Flow → Shared → Prop} (bl:LOk n) (p:Pl Z) (rv:VRs Z.G.P M.R vs us)
  (t:rngV vs fun xs=>forL Z.T (Z.r n).S y body xs loc M.H Q Z.X) (q:PX M Q Qc):W M (call (.type "range") us) (fun u s₁=>wpAny Z.G.M Z.c.A (pyIter u) (fun it s₂=>LoopAtV Z.G.prog Z.G.w Z.c.A Z.c.h₀ Z.c.env y body Qc Z.Ec it s₂) Z.Ec s₁):=by
 cases rv with
 | nil=>exact t.elim
 | cons r1 r =>
 obtain ⟨a,ta,rfl,t⟩:=asI_ok r1 t
 cases r with
 | nil =>
  obtain ⟨t1,t2,t⟩:=t
  refine range1_rows (s:=M.s) M.st.fr M.st.nw fun h' tk' t1' u1 v1 hr F' N' hk=>?_
  have hz:Builtin.Range.rangeSize 0 a 1 = (a.toNat:Int):=by
   unfold Builtin.Range.rangeSize
   simp only [show (1:Int) > 0 from by decide,if_true]
   split <;> (first | lia | omega)
  refine wpAny_pyIter_range (s:=Z.G.sh h' tk') hr ?_ (rng_loop bl p F' N' (by rw [hz];exact Heap.get?_push_size _ rfl) t q)
  unfold Builtin.Range.small Builtin.Range.rangeFitsLong
  rw [hz]
  simp
  (first | lia | omega)
 | cons r2 r =>
  obtain ⟨b,tb,rfl,t⟩:=asI_ok r2 t
  obtain ⟨x,u,rfl,r3,t⟩:=one_ok r t
  obtain ⟨e,t1,t2,t3,t4,t⟩:=of_iff t
  obtain ⟨tc,rfl⟩:=isM1_ok r3 e
  refine range3_rows (s:=M.s) M.st.fr M.st.nw (by decide) (fun h' tk' t1' u1 v1 hr F' N' hk=>?_) (.inl ?_)
  ·have hz:Builtin.Range.rangeSize a b (-1) = ((a - b).toNat:Int):=by
    unfold Builtin.Range.rangeSize
    simp only [show ¬ ((-1:Int) > 0) from by decide,if_false]
    split <;> simp <;> (first | lia | omega)
   refine wpAny_pyIter_range (s:=Z.G.sh h' tk') hr ?_ (rng_loop bl p F' N' (by rw [hz];exact Heap.get?_push_size _ rfl) t q)
   unfold Builtin.Range.small Builtin.Range.rangeFitsLong
   rw [hz]
   simp
   (first | lia | omega)
  ·unfold Builtin.divisionGoesByPylong
   rfl
end
theorem strK_lit {e:Expr} {s:Str} (h:strK e = some s):tabLit e = some (.str s):=by
 cases e with
 | Constant c k p=>cases c with
  | str x=>cases h;rfl
  | _=>exact no_none h
 | _=>exact no_none h
inductive Lits:List (Str × SV) → List (PyData × PyData) → Prop
 | nil:Lits [] []
 | cons (a b:Str) {l:List (Str × SV)} {d:List (PyData × PyData)}:Lits l d → Lits ((a,.str b) :: l) ((.str a,.str b) :: d)
structure DspR (ks:List (Option Expr)) (vs:List Expr) (l:List (Str × SV)) (d:List (PyData × PyData)):Prop where
 lits:Lits l d
 pairs:litPairs ks vs = some d
 all:ks.all (·.isSome) = true
 len:ks.length = vs.length
 ln:ks.length = l.length
theorem dspL_lit {ks:List (Option Expr)}:∀ {vs:List Expr} {l:List (Str × SV)},dspL ks vs = some l → ∃ d,DspR ks vs l d:=by
 induction ks with
 | nil=>intro vs l e;cases vs with
  | nil=>cases e;exact ⟨[],.nil,rfl,rfl,rfl,rfl⟩
  | cons _ _=>exact no_none e
 | cons k ks ih =>
  intro vs l e
  obtain ⟨k',e1,e⟩:=of_bind (o:=k) e
  obtain ⟨a,e2,e⟩:=of_bind e
  cases vs with
  | nil=>exact no_none e
  | cons v vs =>
   obtain ⟨b,e3,e⟩:=of_bind e
   obtain ⟨l',e4,e⟩:=of_bind e
   cases e
   obtain ⟨d,D⟩:=ih e4
   subst e1
   refine ⟨_,.cons a b D.lits,?_,D.all,congrArg Nat.succ D.len,congrArg Nat.succ D.ln⟩
   unfold litPairs
   rw [strK_lit e2,strK_lit e3,D.pairs]
   rfl
theorem Lits.keys {l:List (Str × SV)} {d:List (PyData × PyData)} (h:Lits l d):strKeyed d = true ∧ strKeysOf d = l.map (·.1):=by
 induction h with
 | nil=>exact ⟨rfl,rfl⟩
 | cons a b _ ih=>exact ⟨ih.1,congrArg (a :: ·) ih.2⟩
theorem apart_nodup {l:List Str} (h:apart l = true):l.Nodup:=by
 induction l with
 | nil=>exact .nil
 | cons x r ih =>
  obtain ⟨e,h⟩:=Ba h
  have e:=notT e
  rw [hasStr_eq,List.any_eq_false] at e
  exact List.nodup_cons.mpr ⟨fun hm=>e x hm (beq_self_eq_true x),ih h⟩
theorem flat_pr {p:PP} {R:Lg} {l:List (Str × SV)} {d:List (PyData × PyData)} (h:Lits l d):∀ {us:List (Str × Value)},PyProof.V.FlatPairs PyData.str us d → PR p R l us:=by
 induction h with
 | nil=>intro us f;cases f;exact .nil
 | cons a b _ ih =>
  intro us f
  cases f with
  | cons h1 h2 =>
   obtain ⟨t,rfl⟩:=PyProof.V.Flat.str_inv h1
   exact .cons (.str _ _) (ih h2)
section
variable {n:Nat} {Z:Cx} {F:Lg} {loc:Loc} {m:Str → Option Value} {M:Mo Z F loc m}
theorem dict_ok {ks:List (Option Expr)} {vs:List Expr} {pos:Pos} {l:List (Str × SV)} {lbl:Nat} {Qc:Value → Shared → Prop} (ok:Z.c.Ok Z.G) (e:dspL ks vs = some l) (e1:apart (l.map (·.1)) = true) (e2:Nat.ble (lenL l) 15 = true)
  (q:∀ a (M':Mo Z F loc m),M'.H = (lbl,some a,.dict l) :: delH lbl M.H → M'.R = M.R → Qc (.ref a) M'.s):W M (eval (.Dict ks vs pos) Z.c.env) Qc:=by
 obtain ⟨d,D⟩:=dspL_lit e
 cases ks with
 | nil =>
  have hl:l = []:=by cases l with | nil=>rfl | cons _ _=>cases D.ln
  have hv:vs = []:=by cases vs with | nil=>rfl | cons _ _=>cases D.len
  subst hl hv
  refine newDict_K (s:=M.s) M.st.fr M.st.nw ok.top.nolimit fun a h' o F' N' l1 lo a1 a2 a3 a4=>?_
  obtain ⟨es,ep,d1,d2,d3,d4,d5⟩:=a1
  obtain ⟨es',n',o1,o2,o3⟩:=DR.of (p:=Z.G.P) (R:=M.R) rfl (⟨o,es,ep,(N' _ (.head _)).1,d1,d2,d3,d4,d5⟩:h'.DictOf (PySem.strKind Z.G.prog Z.G.w) a []) (.nil:PR Z.G.P M.R [] [])
  cases o1.symm.trans (N' _ (.head _)).1
  exact M.make lbl (u:=.dict []) _ F' N' (lt_ne l1) (.dict _ _ _ _ o2 o3 lo) (C:=Qc (.ref a)) fun M' h1 h2=>q a M' h1 h2
 | cons k ks =>
  have hs:=D.lits.keys
  refine Dict_lits_str (s:=M.s) D.pairs hs.1 (by rw [hs.2];exact apart_nodup e1) D.all D.len (fun h=>nomatch h) (by rw [D.ln,← lenL_eq];exact Nl (Nb e2) (by decide)) fun a o h' tk' hle ho ht hk=>?_
  obtain ⟨us,⟨es,ep,d1,d2,d3,d4,d5⟩,hf⟩:=ht
  obtain ⟨es',n',o1,o2,o3⟩:=DR.of (p:=Z.G.P) (R:=M.R) rfl (⟨o,es,ep,ho,d1,d2,d3,d4,d5⟩:h'.DictOf (PySem.strKind Z.G.prog Z.G.w) a us) (flat_pr D.lits hf)
  exact M.make lbl (u:=.dict l) tk' (M.st.fr.kept hk) (News.kept_cons M.st.fr M.st.nw hk hle o1) (fun q hq=>Nat.ne_of_lt (Nat.lt_of_lt_of_le (Heap.lt_size (M.st.nw q hq).1) hle)) (.dict _ _ _ _ o2 o3 (M.big ok hle)) (C:=Qc (.ref a)) fun M' h1 h2=>q a M' h1 h2
theorem noComp_swap {e:Expr} (h:noComp e = true) (t:Option Expr) (k:Nat) (env:Env):swapsWith e t k env = pure false:=by cases e <;> first | rfl | cases h
theorem noComp_sole {e:Expr} (h:noComp e = true) (ts:List Expr) (k:Nat) (env:Env):swapsWithSole ts e k env = pure false:=by
 unfold swapsWithSole
 split
 ·exact noComp_swap h _ _ _
 ·rfl
theorem swOK_none {ts:List Expr} {v:Expr} (h:swOK ts v = true) (env:Env):swappedStores ts v env = pure none:=by
 cases ts with
 | nil=>rfl
 | cons t ts =>
  cases ts with
  | cons t2 ts=>cases t <;> rfl
  | nil=>cases t <;> first | rfl | cases h | (cases v <;> first | rfl | cases h)
theorem noComp_set {e:Expr} (h:noComp e = true) (env:Env) (x:Value):foldedSetIterable e env x = pure x:=by cases e <;> first | rfl | cases h
theorem env_inter {c:FC} (hk:c.scope.kind = .function):interactive c.env = false:=by
 unfold interactive
 have:c.env.scope.kind = .function:=hk
 rw [this];rfl
inductive SrcR (sc:Scope):Expr → Src → Prop
 | lst (es:List Expr) (p:Pos):SrcR sc (.List es p) (.lst es)
 | dct (ks:List (Option Expr)) (vs:List Expr) (p:Pos):SrcR sc (.Dict ks vs p) (.dct ks vs)
 | cmp (e:Expr):SrcR sc e .cmp
 | rng (as:List Expr) (np p:Pos):glN sc "range" = true → aOk as [] = true → SrcR sc (.Call (.Name "range" np) as [] p) (.rng as)
 | val (e:Expr):SrcR sc e .val
theorem srcA_ok (sc:Scope) (e:Expr):SrcR sc e (srcA e):=by
 cases e with
 | List es p=>exact .lst es p
 | Dict ks vs p=>exact .dct ks vs p
 | ListComp a b c d=>exact .cmp _
 | _=>exact .val _
theorem srcF_ok (sc:Scope) (e:Expr):SrcR sc e (srcF sc e):=by
 cases e with
 | Call f as ks p=>cases f with
  | Name x np =>
   show SrcR sc _ (match and (and (sbeq x "range") (glN sc x)) (and (nil? ks) (aOk as [])) with | true=>.rng as | false=>.val)
   cases e:and (and (sbeq x "range") (glN sc x)) (and (nil? ks) (aOk as [])) with
   | false=>exact .val _
   | true =>
    obtain ⟨e1,e2⟩:=Ba e
    obtain ⟨e3,e4⟩:=Ba e1
    obtain ⟨e5,e6⟩:=Ba e2
    cases of_sbeq e3
    cases of_nil e5
    exact .rng as np p e4 e6
  | _=>exact .val _
 | _=>exact .val _
theorem asgS_ok (eo:EOk n) (p:Pl Z) {ts:List Expr} {v:Expr} {lbl:Nat} {Q:QS} {Qc:Flow → Shared → Prop} (t:asgS Z.T Z.sc (Z.r n) ts v lbl loc M.H Q Z.X) (q:PX M Q Qc) :
  W M (eval v Z.c.env) (fun u s₁=>wpAny Z.G.M Z.c.A (assignAll u ((assignEach ts Z.c.env).map (·.2))) (fun _ s'=>Qc .next s') Z.Ec s₁):=by
 have fin:∀ {M':Mo Z F loc m},Sub M.R M'.R → PL M' (fun loc H=>Q .next loc H) (Qc .next):=fun s' loc2 m2 M2 s2 t2=>q .next _ _ _ M2 (s'.trans s2) t2 rfl
 revert t
 unfold asgS
 have hr:=srcA_ok Z.sc v
 revert hr
 generalize srcA v = sr
 intro hr t
 cases hr with
 | lst es pos =>
  obtain ⟨h,t⟩:=of_iff t
  refine list_ok eo p h t fun xs vs a h' tk M' s' t' r' F2 N2 l2=>?_
  exact M'.make lbl (u:=.list xs) tk F2 N2 l2 (.list _ _ _ _ r') (C:=fun s₁=>wpAny Z.G.M Z.c.A (assignAll (.ref a) ((assignEach ts Z.c.env).map (·.2))) (fun _ s'=>Qc .next s') Z.Ec s₁) fun M2 h1 h2 =>
   asgL_ok (M:=M2) eo p (VR.obj lbl (some a)) (h1 ▸ t' a) (fin (h2 ▸ s'))
 | dct ks vs pos =>
  obtain ⟨l,e,t⟩:=of_opt t
  obtain ⟨e1,t⟩:=of_iff t
  obtain ⟨e2,e3⟩:=Ba e1
  exact dict_ok (lbl:=lbl) p.ok e e2 e3 fun a M2 h1 h2=>asgL_ok (M:=M2) eo p (VR.obj lbl (some a)) (h1 ▸ t a) (fin (h2 ▸ Sub.refl _))
 | val=>exact eo p t fun sv v M' s' t' r'=>asgL_ok eo p r' t' (fin s')
 | _=>exact (t:False).elim
theorem augS_ok (eo:EOk n) (p:Pl Z) {tt:Expr} {op:Operator} {v:Expr} {pos:Pos} {Q:QS} {Qc:Flow → Shared → Prop} (ho:augOK op = true) (t:augS Z.T Z.sc (Z.r n) tt op v loc M.H Q Z.X) (q:PX M Q Qc):W M (exec (.AugAssign tt op v pos) Z.c.env) Qc:=by
 cases tt with
 | Name x np =>
  obtain ⟨e1,t⟩:=of_iff t
  obtain ⟨old,e2,t⟩:=of_opt t
  obtain ⟨v0,h1,h2⟩:=M.lr _ _ e2
  exact wpAny_AugAssign_Name (wpAny_loadName_local (s:=M.s) p.ok.kind (p.lo e1) M.st.fr.ns h1 (eo p t fun sv u M' s' t' r'=>ibin_ok ho (h2.mono s') r' t' fun sw w M2 s2 t2 r2 =>
   store_ok p e1 r2 (k:=fun loc H=>Q .next loc H) t2 fun loc3 m3 M3 s3 t3=>q .next _ _ _ M3 ((s'.trans s2).trans s3) t3 rfl))
 | Attribute o x ap =>
  exact wpAny_AugAssign_AttributeAny (eo p t fun ov u M' s' t' r'=>getA_ok p.tab.attr p.ok r' (Q:=fun w H=>(Z.r n).E _ loc H _ Z.X) t' fun old v2 M2 s2 t2 r2=>eo p t2 fun sv v3 M3 s3 t3 r3 =>
   ibin_ok ho (r2.mono s3) r3 t3 fun sw w M4 s4 t4 r4=>setA_ok p.tab.attr p.ok (r'.mono ((s2.trans s3).trans s4)) r4 t4 fun M5 s5 t5=>q .next _ _ _ M5 ((((s'.trans s2).trans s3).trans s4).trans s5) t5 rfl)
 | _=>exact (t:False).elim
theorem while_ok (bo:BOk n) (bl:LOk n) (p:Pl Z) {test:Expr} {body:List Stmt} {pos:Pos} {k:Nat} {Q:QS} {Qc:Flow → Shared → Prop} (t:whlL Z.T (Z.r n) test body k loc M.H Q Z.X) (q:PX M Q Qc):W M (exec (.While test body [] pos) Z.c.env) Qc:=by
 refine wpAny_While (codeAny_whileLoop (I:=fun k s'=>∃ loc' m',∃ M':Mo Z F loc' m',s' = M'.s ∧ Sub M.R M'.R ∧ whlL Z.T (Z.r n) test body k loc' M'.H Q Z.X) (fun k s' hi=>?_) k ⟨loc,m,M,rfl,Sub.refl _,t⟩)
 obtain ⟨loc',m',M',rfl,s',t'⟩:=hi
 cases k with
 | zero=>exact t'.elim
 | succ k =>
  refine wpAny_passesOwn p.ex.po (bo p t' fun b M2 s2 t2=>?_)
  cases b with
  | true =>
   refine wpAny_passesOwn p.ex.po (bl p (t2.tt rfl) fun fl fv loc3 m3 M3 s3 t3 f3=>?_)
   cases fl with
   | next =>
    cases f3
    exact ⟨k,Nat.lt_succ_self _,loc3,m3,M3,rfl,(s'.trans s2).trans s3,t3⟩
   | ret u =>
    obtain ⟨v,rfl,rv⟩:=f3
    exact q _ _ _ _ M3 ((s'.trans s2).trans s3) t3 ⟨v,rfl,rv⟩
  | false=>exact wpAny_execs_nil (q .next _ _ _ M2 (s'.trans s2) (t2.ff rfl) rfl)
theorem for_ok (eo:EOk n) (bl:LOk n) (p:Pl Z) {x:Str} {np pos:Pos} {it:Expr} {body:List Stmt} {Q:QS} {Qc:Flow → Shared → Prop} (hc:noComp it = true) (hx:loN Z.sc x = true) (t:forS Z.T Z.sc (Z.r n) x it body loc M.H Q Z.X) (q:PX M Q Qc):W M (exec (.For (.Name x np) it body [] pos) Z.c.env) Qc:=by
 have hk:(Z.c.env.scope.kind == ScopeKind.class || Z.c.env.scope.kind == ScopeKind.module && Z.c.env.locals != Z.c.env.globals) = false:=by
  have:Z.c.env.scope.kind = .function:=p.ok.kind
  rw [this];rfl
 refine For_invV Z.c.h₀ (p.lo hx) hk ?_ (noComp_set hc _) p.ex.po
 revert t
 unfold forS
 have hr:=srcF_ok Z.sc it
 revert hr
 generalize srcF Z.sc it = sr
 intro hr t
 cases hr with
 | rng as np pos e4 ha =>
  refine eval_name_call (blt_ok p p.tab.rng e4 fun tk=>?_)
  refine cw_ok eo p (M:=M.tick tk) (ks:=[]) ha keep_ty (Q:=fun vs us H=>match us with | []=>rngV vs fun xs=>forL Z.T (Z.r n).S _ _ xs loc H Q Z.X | _=>False) t fun xs us vs ws M3 s3 t3 r3 r4 e4=>?_
  cases us with
  | cons _ _=>exact (t3:False).elim
  | nil=>cases ws with
   | cons _ _=>cases e4
   | nil=>exact rng_ok bl p r3 t3 (q.sub s3)
 | val=>exact eo p t fun sv v M' s' t' r'=>iter_ok bl p r' t' (q.sub s')
 | _=>exact (t:False).elim
theorem raise_inv {e:Option Expr} {c:Str} {x:Expr} (h:raiseOf e = some (c,x)):∃ np pos,e = some (.Call (.Name c np) [x] [] pos) ∧ nst x = true:=by
 obtain ⟨e',rfl,h⟩:=of_bind h
 cases e' with
 | Call f as ks pos=>cases f with
  | Name y np=>cases as with
   | nil=>exact no_none h
   | cons a as =>
    have h:(match and (and (nil? as) (nil? ks)) (nst a) with | true=>some (y,a) | false=>none) = some (c,x):=h
    cases e:and (and (nil? as) (nil? ks)) (nst a) with
    | false=>rw [e] at h;cases h
    | true =>
     rw [e] at h
     cases h
     obtain ⟨e1,e2⟩:=Ba e
     obtain ⟨e3,e4⟩:=Ba e1
     cases of_nil e3
     cases of_nil e4
     exact ⟨np,pos,rfl,e2⟩
  | _=>exact no_none h
 | _=>exact no_none h
theorem fixA_inv {v:SV} {a:Addr} (h:fixA v = some a):v = .fix a:=by cases v with | fix b=>cases h;rfl | _=>exact no_none h
theorem raise_ok (eo:EOk n) (p:Pl Z) (hnc:nil? Z.T.cells = true) {e:Option Expr} {pos:Pos} {Qc:Flow → Shared → Prop}
  (t:opt (raiseOf e) fun q=>iff_ (glN Z.sc q.1) (opt ((lk q.1 Z.T.glob).bind fixA) fun C=>iff_ (Nat.beq C Z.T.exc) ((Z.r n).E q.2 loc M.H (fun _ H=>Z.X H) Z.X))):W M (exec (.Raise e none pos) Z.c.env) Qc:=by
 obtain ⟨⟨c,x⟩,e1,t2⟩:=of_opt t
 clear t
 obtain ⟨np,cp,rfl,hn⟩:=raise_inv e1
 obtain ⟨hg,t⟩:=of_iff t2
 obtain ⟨C,e2,t⟩:=of_opt t
 obtain ⟨hC,t9⟩:=of_iff t
 clear t
 obtain ⟨sv,e3,e4⟩:=of_bind e2
 cases fixA_inv e4
 obtain ⟨v,g,k2⟩:=p.tab.glob _ _ e3
 cases k2
 have hC:=Nq hC
 rw [p.tab.exc] at hC
 subst hC
 obtain ⟨newId,initId,bm,o1,o2⟩:=p.tab.own
 have O:=own_of_in p.ok.kin (topRead_of p.ok.top) g.ns o1
 have ee:Z.c.env = envOf Z.c.name Z.c.scope Z.c.L Z.c.a Z.c.cd:=by show envX _ _ _ _ _ Z.c.cl = _;rw [p.nc hnc];rfl
 have tt:∀ {Qc:Value → Shared → Prop},(Z.r n).E x loc M.H (fun _ H=>Z.X H) Z.X → PQ M (fun _ H=>Z.X H) Qc → W M (eval x Z.c.env) Qc:=fun t q=>eo p t q
 have gl:=p.gl hg
 rw [ee] at gl tt ⊢
 refine Raise_own (s:=M.s) M.st.fr p.ok.top.g O o2 p.hd ?_ (star_one hn) rfl p.ok.kind gl g.db
 rw [star_one hn]
 exact spliced_cons (tt t9 fun sv v M' s' t' r'=>spliced_nil ⟨(show 1 ≤ sizeLine by decide),M'.st.fr.keep,fun h2 e he=>p.ex.xr M' t' he⟩)
end
theorem nameT_inv {e:Expr} {x:Str} (h:nameT e = some x):∃ np,e = .Name x np:=by cases e with | Name y np=>cases h;exact ⟨np,rfl⟩ | _=>exact no_none h
theorem stS_ok {n:Nat} (eo:EOk n) (bo:BOk n) (so:SOk n):SOk (n + 1):=by
 intro Z F loc m M st Q Qc p t q
 have bl:LOk n:=exeL_ok so
 have t:stS Z.T Z.sc (Z.r n) st loc M.H Q Z.X:=t
 cases st with
 | Pass pos=>exact wpAny_Pass (q .next _ _ _ M (Sub.refl _) t rfl)
 | Return e pos=>cases e with
  | none=>exact wpAny_Return_none (q (.ret .none) _ _ _ M (Sub.refl _) t ⟨_,rfl,.none⟩)
  | some e=>exact wpAny_Return_some (eo p t fun sv v M' s' t' r'=>q (.ret sv) _ _ _ M' s' t' ⟨_,rfl,r'⟩)
 | Expr e pos =>
  obtain ⟨hn,t⟩:=of_iff t
  refine wpAny_Expr (eo p t fun sv v M' s' t' r'=>?_) (env_inter p.ok.kind) (noComp_swap hn _ _ _)
  cases sv with
  | none=>cases r';exact q .next _ _ _ M' s' t' rfl
  | _=>exact (t':False).elim
 | Assign ts v pos =>
  obtain ⟨h,t⟩:=of_iff t
  obtain ⟨h1,h2⟩:=Ba h
  exact wpAny_Assign_stores (asgS_ok eo p t q) (noComp_sole h2 _ _ _) (swOK_none h1 _)
 | AugAssign tt op v pos=>obtain ⟨ho,t⟩:=of_iff t;exact augS_ok eo p ho t q
 | If c a b pos=>exact wpAny_If (bo p t fun b M' s' t'=>by cases b with
   | true=>exact bl p (t'.tt rfl) (q.sub s')
   | false=>exact bl p (t'.ff rfl) (q.sub s'))
 | While c b el pos =>
  obtain ⟨h,t⟩:=of_iff t
  cases of_nil h
  exact while_ok bo bl p t q
 | For tt it b el pos =>
  obtain ⟨x,hx,t2⟩:=of_opt t
  clear t
  obtain ⟨np,rfl⟩:=nameT_inv hx
  obtain ⟨h,t9⟩:=of_iff t2
  clear t2
  obtain ⟨h1,h2⟩:=Ba h
  obtain ⟨h3,h4⟩:=Ba h1
  cases of_nil h3
  exact for_ok eo bl p h4 h2 t9 q
 | Raise e c pos =>
  obtain ⟨h,t1⟩:=of_iff t
  cases c with
  | some _=>cases h
  | none=>exact raise_ok eo p h t1
 | _=>exact (t:False).elim
theorem wp_ok (n:Nat):EOk n ∧ BOk n ∧ SOk n:=by
 induction n with
 | zero=>exact ⟨fun _ t=>(t:False).elim,fun _ t=>(t:False).elim,fun _ t=>(t:False).elim⟩
 | succ n ih=>exact ⟨stE_ok ih.1 ih.2.1,stB_ok ih.1 ih.2.1,stS_ok ih.1 ih.2.1 ih.2.2⟩
noncomputable def runK {α:Type} (K:Frag):Nat → Sem α → Option α
 | 0,_=>none
 | n + 1,t=>match t with
  | .pure a=>some a
  | .load a _ k=>(match K.lookup a with | some o=>runK K n (k o) | none=>none)
  | _=>none
theorem runK_ok {α:Type} {K:Frag} {M:Model} {A:Around} {E:Value → Shared → Prop} {Q:α → Shared → Prop} {s:Shared} {x:α} (X:K.In s.heap) (q:Q x s) (n:Nat):∀ t:Sem α,runK K n t = some x → wpAny M A t Q E s:=by
 induction n with
 | zero=>intro t h;exact no_none h
 | succ n ih =>
  intro t h
  cases t with
  | pure a=>cases h;exact wpAny_pure q
  | load a p k =>
   have h:(match K.lookup a with | some o=>runK K n (k o) | none=>none) = some x:=h
   cases e:K.lookup a with
   | none=>rw [e] at h;cases h
   | some o=>rw [e] at h;exact wpAny_bind (m:=loadPart a p) (wpAny_loadPart (X _ _ e) (ih _ h))
  | _=>exact no_none h
noncomputable def allN {α:Type}:Nat → (List α → Prop) → Prop
 | 0,p=>p []
 | n + 1,p=>∀ x,allN n fun l=>p (x :: l)
theorem allN_of {α:Type} {n:Nat}:∀ {p:List α → Prop},allN n p → ∀ l,l.length = n → p l:=by
 induction n with
 | zero=>intro p h l e;cases l with | nil=>exact h | cons _ _=>cases e
 | succ n ih=>intro p h l e;cases l with | nil=>cases e | cons x l=>exact ih (h x) l (Nat.succ.inj e)
noncomputable def pickL {α:Type} (ns:List (Str × Nat)) (xs:List α):List (Str × α):=match ns with
 | []=>[]
 | p :: r=>match nthL p.2 xs with | some x=>(p.1,x) :: pickL r xs | none=>pickL r xs
theorem pick_cons {α:Type} (p:Str × Nat) (ns:List (Str × Nat)) (xs:List α):pickL (p :: ns) xs = (match nthL p.2 xs with | some x=>(p.1,x) :: pickL ns xs | none=>pickL ns xs):=rfl
theorem pick_lr {p:PP} {R:Lg} {xs:List SV} {vs:List Value} (r:VRs p R xs vs) (ns:List (Str × Nat)):∀ x sv,lk x (pickL ns xs) = some sv → ∃ v,(pickL ns vs).lookup x = some v ∧ VR p R sv v:=by
 induction ns with
 | nil=>intro x sv e;cases e
 | cons q ns ih =>
  intro x sv
  rw [pick_cons,pick_cons]
  cases e1:nthL q.2 xs with
  | none =>
   cases e2:nthL q.2 vs with
   | none=>exact ih x sv
   | some v=>obtain ⟨y,h,_⟩:=r.back q.2 ((nth_get ..).symm.trans e2);rw [← nth_get,e1] at h;cases h
  | some y =>
   obtain ⟨v,h,vr⟩:=r.get q.2 ((nth_get ..).symm.trans e1)
   rw [← nth_get] at h
   rw [h]
   dsimp only
   rw [lk_cons,List.lookup_cons,sbeq_eq]
   cases x == q.1 with
   | true=>intro e;cases e;exact ⟨v,rfl,vr⟩
   | false=>exact ih x sv
theorem lookup_rev {α:Type} {l:List (Str × α)} (h:(l.map (·.1)).Nodup) (x:Str):l.reverse.lookup x = l.lookup x:=by
 induction l with
 | nil=>rfl
 | cons p r ih =>
  obtain ⟨h1,h2⟩:=List.nodup_cons.mp h
  rw [List.reverse_cons,List.lookup_append,ih h2,List.lookup_cons,List.lookup_cons]
  cases e:x == p.1 with
  | false=>cases List.lookup x r <;> rfl
  | true =>
   have e:x = p.1:=eq_of_beq e
   have:List.lookup x r = none:=List.lookup_eq_none_iff.mpr fun q hq=>bne_iff_ne.mpr (fun z=>h1 (by show p.1 ∈ _;rw [← e,z];exact List.mem_map_of_mem hq):x ≠ q.1)
   rw [this];rfl
theorem pick_keys {α:Type} {ns:List (Str × Nat)} {xs:List α}:((pickL ns xs).map (·.1)).Sublist (ns.map (·.1)):=by
 induction ns with
 | nil=>exact .slnil
 | cons p ns ih =>
  rw [pick_cons]
  cases nthL p.2 xs with
  | none=>exact ih.cons _
  | some x=>exact ih.cons_cons _
theorem Room.deeper {n:Nat} {A:Around} {env:Env} (r:Room (n + 1) A):Room n (A.deeper env):=⟨r.hd,by have:=r.dp;rw [depth_deeper];(first | lia | omega),by have:=r.un;show A.units + 3 + 20 * n ≤ 9000;(first | lia | omega)⟩
noncomputable def scopeOK (sc:Scope) (ns:List (Str × Nat)):Bool:=sc.kind == .function && !sc.isCoroutine && !sc.isGenerator && sc.names.all (fun x=>x.2 != .cell) && ns.all (fun x=>loN sc x.1) && apart (ns.map (·.1)) && (match lk "__debug__" sc.names with | none=>true | some _=>false)
structure ScOK (sc:Scope) (ns:List (Str × Nat)):Prop where
 kd:sc.kind = .function
 co:sc.isCoroutine = false
 ge:sc.isGenerator = false
 ce:∀ x ∈ sc.names,x.2 ≠ .cell
 lo:∀ x ∈ ns,loN sc x.1 = true
 nd:(ns.map (·.1)).Nodup
 db:lk "__debug__" sc.names = none
theorem scOK_of {sc:Scope} {ns:List (Str × Nat)} (h:scopeOK sc ns = true):ScOK sc ns:=by
 unfold scopeOK at h
 simp only [Bool.and_eq_true,and_assoc,beq_iff_eq,Bool.not_eq_true',List.all_eq_true,bne_iff_ne] at h
 obtain ⟨h1,h2,h3,h4,h5,h6,h7⟩:=h
 refine ⟨h1,h2,h3,h4,h5,apart_nodup h6,?_⟩
 cases e:lk "__debug__" sc.names with
 | none=>rfl
 | some _=>rw [e] at h7;cases h7
noncomputable def inl (T:Tab) (sc:Scope) (body:List Stmt) (ns:List (Str × Nat)) (dfl:List SV) (dr:List Nat):Sm:=fun xs H Q X=>wpF T sc 60 body (pickL ns (xs ++ dfl)) H (fun v H=>Q v (delL dr H)) X
structure DefR (K:Frag) (f:Addr) (name qual:Str) (params:Arguments) (body:List Stmt) (sc:Scope) (dV pm cdv:Value):Prop where
 lo:K.lookup f = some ⟨.type "function",none,.func (fnOf name qual params body sc dV .none .none pm none cdv .none),⟨[]⟩⟩
 cd:codeIn K cdv qual = true
theorem fn_inl {G:GC} {k:Nat} {T:Tab} (tab:TabOK G k T) {f:Addr} {name qual:Str} {params:Arguments} {body:List Stmt} {sc:Scope} {dV pm cdv:Value} (D:DefR G.K f name qual params body sc dV pm cdv) {n:Nat} {ks:List Str} {ns:List (Str × Nat)} {dfl:List SV} {dvs:List Value} (dr:List Nat)
  (good:ScOK sc ns) (dv:VRs G.P [] dfl dvs) (nc:T.cells = [])
  (hb:allN n fun vs=>allN ks.length fun ws=>runK G.K 9 (bindArgs (fnOf name qual params body sc dV .none .none pm none cdv .none) ⟨vs,ks.zip ws⟩) = some (pickL ns ((vs ++ ws) ++ dvs))):FnOK G (k + 1) f n ks (inl T sc body ns dfl dr):=by
 rintro Z F loc m M A vs ws xs Q X Rr rfl ok room hA rx hn hk t q xo
 have hbind:=allN_of (allN_of hb vs hn) ws hk
 have rx':VRs Z.G.P M.R (xs ++ dfl) ((vs ++ ws) ++ dvs):=VRs.append (dv.mono (Sub.nil _)) rx
 have hnd:((pickL ns ((vs ++ ws) ++ dvs)).map (·.1)).Nodup:=pick_keys.nodup good.nd
 refine code_def (s:=M.s) (news:=M.L) ok.below M.st.fr ok.kin M.st.nw ok.top hA rfl ok.kind D.lo D.cd (Nat.lt_of_le_of_lt (Nl (Nat.le_add_right _ _) room.dp) (by decide))
  (fun _ _ _ _ hq=>runK_ok (M.kin ok) hq _ _ hbind) (fun y hy=>?_) (fun g L' h₁ FG F' N' B' X' T'=>?_) good.co good.ge good.kd good.ce
 ·have:y.1 ∈ ns.map (·.1):=pick_keys.mem (List.mem_map_of_mem hy)
  obtain ⟨z,hz,e⟩:=List.mem_map.mp this
  rw [← lk_lookup,← e]
  exact lo_of (good.lo z hz)
 ·let c':FC:=⟨A,Z.c.base,g,Z.c.env :: Z.c.outer,qual,sc,L',f,cdv,[]⟩
  let Z':Cx:=⟨Z.G,k,T,sc,c',M.R,F,X,fun e s'=>wpAny Z.G.M c'.A (leaving c'.env e) (fun _ s''=>Rr (.error e) s'') (fun e' s''=>Rr (.error e') s'') s'⟩
  have okc:c'.Ok Z.G:=⟨B',X',T',good.kd⟩
  let M0:Mo Z' F (pickL ns (xs ++ dfl)) (fun y=>(pickL ns ((vs ++ ws) ++ dvs)).reverse.lookup y) :=
   ⟨M.H,M.R,M.N,h₁,M.tk + (pickL ns ((vs ++ ws) ++ dvs)).length,⟨F',N',M.st.led⟩,fun x sv e=>by rw [lookup_rev hnd];exact pick_lr rx' ns x sv e,Sub.refl _,Sub.refl _⟩
  have pl:Pl Z':=⟨tab,rfl,good.db,okc,room.deeper,⟨fun m' e h' tk' r=>r.el fun t us H' R' N'' g₂ x1 x2 x3 x4 x5 x6 =>
    leave_onK (s':=Z.G.sh h' tk') B' x5 x4 x6 fun h'' y1 y2=>xo e h'' tk' ⟨t,us,H',R',N'',g,x1,x2,x3,y1,FG,y2⟩,
   @fun _ _ _ M' h e us tk x1 x2=>leave_raiseK (s':=Z.G.sh h tk) B' x2 M'.st.fr M'.st.nw (fun h'' t y1 y2=>xo e h'' tk ⟨t,us,M'.H,M'.R,M'.N,g,x1,M'.st.led.less M'.fs,M'.sub,RaisedK.sub y1 (less_sub M'.fs),FG,y2⟩) good.kd,
   PassesOwn.leaving⟩,(fun x sv e=>by have e:lk x T.cells = some sv:=e;rw [nc] at e;cases e),fun _=>rfl⟩
  refine exeL_ok (wp_ok 60).2.2 (M:=M0) (Q:=fun f _ H=>match f with | .next=>Q .none (delL dr H) | .ret v=>Q v (delL dr H)) pl t fun fl fv loc' m' M' s' t' f'=>?_
  obtain ⟨N3,hr3,sl3⟩:=M'.st.led.hr.dels dr
  have sub3:∀ r ∈ N3 ++ (M'.R ++ F),r ∈ M'.N ++ (M'.R ++ F):=fun r hr=>(Ma hr).elim (fun k=>Ml _ (sl3.mem k)) (Mr _)
  have fin:∀ sv v,Q sv (delL dr M'.H) → VR Z.G.P M'.R sv v → LeaveK Z.c.h₀ Z.c.L m g Rr v M'.s:=fun sv v tq vr=>leaveK_ M'.st.fr M'.st.nw fun F2 N2 =>
   q sv v (⟨delL dr M'.H,M'.R,N3,M'.h,M'.tk,⟨F2,fun r hr=>N2 r (sub3 r hr),⟨hr3,(sl3.map _).nodup M'.st.led.nd,fun r hr=>M'.st.led.ap r (sl3.mem hr),M'.st.led.af⟩⟩,M.lr.mono s',M.sub.trans s',M.fs⟩:Mo Z F loc m) s' tq vr
  cases fl with
  | next=>cases f';exact fin .none .none t' .none
  | ret sv=>obtain ⟨v,rfl,vr⟩:=f';exact fin sv v t' vr
theorem Room.less {n k:Nat} {A:Around} (r:Room n A) (h:k ≤ n):Room k A:=⟨r.hd,Nl (Nd (Nat.mul_le_mul_left _ h) _) r.dp,Nl (Nd (Nat.mul_le_mul_left _ h) _) r.un⟩
theorem Room.under {n:Nat} {A:Around} (r:Room (n + 1) A) (C:Addr) (vs:List Value) (kw:List (Str × Value)):Room n (A.under (.builtin "type.__call__" ⟨.ref C :: vs,kw⟩)):=⟨r.hd,by have:=r.dp;rw [show (A.under (.builtin "type.__call__" ⟨.ref C :: vs,kw⟩)).depth = A.depth + 1 from rfl];(first | lia | omega),by have:=r.un;rw [show (A.under (.builtin "type.__call__" ⟨.ref C :: vs,kw⟩)).units = A.units + 1 from rfl];(first | lia | omega)⟩
theorem FnOK.up {G:GC} {k k':Nat} {f:Addr} {n:Nat} {ks:List Str} {S:Sm} (x:FnOK G k f n ks S) (h:k ≤ k'):FnOK G k' f n ks S:=fun M _ _ _ _ _ _ _ e ok r a b c d t q xo=>x M e ok (r.less h) a b c d t q xo
theorem FnOK.weak {G:GC} {k:Nat} {f:Addr} {n:Nat} {ks:List Str} {S S':Sm} (x:FnOK G k f n ks S) (h:allN n fun vs=>allN ks.length fun ws=>∀ H Q X,S' (vs ++ ws) H Q X → S (vs ++ ws) H Q X):FnOK G k f n ks S':=by
 intro Z F loc m M A vs ws xs Q X Rr e ok r a b c d t q xo
 refine x M e ok r a b c d ?_ q xo
 have hl:(xs.take n).length = n:=by rw [List.length_take,b.length,List.length_append,c,Nat.min_eq_left (Nat.le_add_right _ _)]
 have hd:(xs.drop n).length = ks.length:=by rw [List.length_drop,b.length,List.length_append,c,d,Nat.add_sub_cancel_left]
 have:=allN_of (allN_of h _ hl) _ hd
 rw [List.take_append_drop] at this
 exact this _ _ _ t
noncomputable def clsK (C:Addr) (lbl:Nat) (S:Sm):Sm:=fun xs H Q X=>∀ a,S (.obj lbl (some a) :: xs) ((lbl,some a,.inst C []) :: delH lbl H) (fun v H=>nonV v (Q (.obj lbl (some a)) H)) X
noncomputable def clsF (C:Addr) (lbl:Nat) (S:Sm):Sm:=fun xs H Q X=>∀ a,S (.obj lbl (some a) :: xs) ((lbl,some a,.inst C []) :: delH lbl H) (fun v H=>nonV v (own (.obj lbl (some a)) H fun l o=>instM o fun c kvs=>Q (.inst c kvs) (delH l H))) X
structure ClsR (K:Frag) (C fI:Addr):Prop where
 mks:makesIn K C = true
 ini:findIn K (.ref C) "__init__" = some (some (.ref fI))
 fn:typeIn K (.ref fI) = some (.type "function")
section
variable {Z:Cx} {F:Lg} {loc:Loc} {m:Str → Option Value}
theorem Mo.inst (M:Mo Z F loc m) {a d c:Addr} (l:Nat) {h':Heap} (tk:Nat) (fr:Fr Z.c.h₀ Z.c.L h' m) (nw:News Z.c.h₀ Z.c.L h' ((a,instObj c d) :: (d,W.dictOf [] 0) :: M.L)) (ha:∀ p ∈ M.L,p.1 < d) (hd:d < a) {C:Shared → Prop}
  (k:∀ M':Mo Z F loc m,M'.H = (l,some a,.inst c []) :: delH l M.H → M'.R = M.R → C M'.s):C (Z.G.sh h' tk):=by
 obtain ⟨N',y,sl⟩:=M.st.led.hr.del l
 have sub:∀ p ∈ N' ++ (M.R ++ F),p ∈ M.L:=fun p hp=>(Ma hp).elim (fun k=>Ml _ (sl.mem k)) (Mr _)
 have nm:∀ b,d ≤ b → b ∉ N'.map (·.1):=fun b hb hm=>by
  obtain ⟨p,hp,e⟩:=List.mem_map.mp hm
  exact absurd (ha p (sub p (Ml _ hp))) (by rw [e];exact Nat.not_lt.mpr hb)
 refine k ⟨(l,some a,.inst c []) :: delH l M.H,M.R,[(a,instObj c d),(d,W.dictOf [] 0)] ++ N',h',tk,⟨fr,fun p hp=>?_,⟨HR.cons (MR.inst a d c [] [] 0 .nil) y,?_,fun p hp q hq=>?_,M.st.led.af⟩⟩,M.lr,M.sub,M.fs⟩ rfl rfl
 ·rcases Mc hp with rfl | hp
  ·exact nw _ (.head _)
  ·rcases Mc hp with rfl | hp
   ·exact nw _ (.tail _ (.head _))
   ·exact nw p (.tail _ (.tail _ (sub p hp)))
 ·refine List.nodup_cons.mpr ⟨fun hm=>?_,List.nodup_cons.mpr ⟨nm d (Nat.le_refl _),(sl.map _).nodup M.st.led.nd⟩⟩
  rcases Mc hm with e | hm
  ·exact absurd hd (by rw [show a = d from e];exact Nat.lt_irrefl _)
  ·exact nm a (Nat.le_of_lt hd) hm
 ·have hq':=ha q (Mr _ hq)
  rcases Mc hp with rfl | hp
  ·exact (Nat.ne_of_lt (Nat.lt_trans hq' hd)).symm
  ·rcases Mc hp with rfl | hp
   ·exact (Nat.ne_of_lt hq').symm
   ·exact M.st.led.ap p (sl.mem hp) q hq
theorem led_frz2 {p:PP} {H H':Hp} {R F pre post:Lg} {q r:Addr × Obj} (x:Led p H (pre ++ ([q,r] ++ post)) R F) (hr:HR p R H' (pre ++ post)):Led p H' (pre ++ post) (q :: r :: R) F:=by
 have nd:=x.nd
 rw [List.map_append,List.map_append,List.nodup_append] at nd
 obtain ⟨h1,h2,h3⟩:=nd
 obtain ⟨h4,h2⟩:=List.nodup_cons.mp h2
 obtain ⟨h5,h2⟩:=List.nodup_cons.mp h2
 have sub:∀ s ∈ pre ++ post,s ∈ pre ++ ([q,r] ++ post):=fun s hs=>(Ma hs).elim (fun k=>Ml _ k) fun k=>Mr _ (.tail _ (.tail _ k))
 have neq:∀ s ∈ pre ++ post,s.1 ≠ q.1 ∧ s.1 ≠ r.1:=fun s hs=>by
  rcases Ma hs with k | k
  ·exact ⟨h3 s.1 (List.mem_map_of_mem k) q.1 (.head _),h3 s.1 (List.mem_map_of_mem k) r.1 (.tail _ (.head _))⟩
  ·have hm:s.1 ∈ post.map (·.1):=List.mem_map_of_mem k
   exact ⟨fun e=>h4 (.tail _ (by rw [e] at hm;exact hm)),fun e=>h5 (by rw [e] at hm;exact hm)⟩
 refine ⟨hr.mono ((Sub.cons _ _).trans (Sub.cons _ _)),?_,fun s hs t ht=>?_,fun s hs t ht=>?_⟩
 ·rw [List.map_append,List.nodup_append]
  exact ⟨h1,h2,fun u hu v hv=>h3 u hu v (.tail _ (.tail _ hv))⟩
 ·rcases Mc ht with rfl | ht
  ·exact (neq s hs).1
  ·rcases Mc ht with rfl | ht
   ·exact (neq s hs).2
   ·exact x.ap s (sub s hs) t ht
 ·rcases Mc hs with rfl | hs
  ·exact x.ap s (Mr _ (.head _)) t (Mr _ ht)
  ·rcases Mc hs with rfl | hs
   ·exact x.ap s (Mr _ (.tail _ (.head _))) t (Mr _ ht)
   ·exact x.af s hs t ht
theorem Mo.frzI (M:Mo Z F loc m) {l:Nat} {a c:Addr} {kvs:List (Str × SV)} (e:fnd l M.H = some (some a,.inst c kvs)) {C:Shared → Prop} (k:∀ M':Mo Z F loc m,M'.H = delH l M.H → Sub M.R M'.R → VR Z.G.P M'.R (.inst c kvs) (.ref a) → C M'.s):C M.s:=by
 obtain ⟨pre,n1,post,e1,mr,_,hd⟩:=M.st.led.hr.at e
 have mr:MR Z.G.P M.R a (.inst c kvs) n1:=mr
 cases mr with
 | inst d _ _ es n r =>
 have led:=M.st.led
 have nw:=M.st.nw
 rw [e1] at led nw
 have sub:Sub M.R ((a,instObj c d) :: (d,W.dictOf es n) :: M.R):=(Sub.cons _ _).trans (Sub.cons _ _)
 refine k ⟨delH l M.H,(a,instObj c d) :: (d,W.dictOf es n) :: M.R,pre ++ post,M.h,M.tk,⟨M.st.fr,fun q hq=>nw q ?_,led_frz2 led hd⟩,M.lr.mono sub,M.sub.trans sub,M.fs⟩ rfl sub (.inst a d c es n kvs (.head _) (.tail _ (.head _)) (r.mono sub))
 rcases Ma hq with k | k
 ·exact Ml _ ((Ma k).elim (fun k=>Ml _ k) fun k=>Mr _ (.tail _ (.tail _ k)))
 ·rcases Mc k with rfl | k
  ·exact Ml _ (Mr _ (.head _))
  ·rcases Mc k with rfl | k
   ·exact Ml _ (Mr _ (.tail _ (.head _)))
   ·exact Mr _ k
end
theorem cls_any {G:GC} {k:Nat} {C fI:Addr} {n:Nat} {ks:List Str} {S:Sm} (D:ClsR G.K C fI) (x:FnOK G k fI (n + 1) ks S) (lbl:Nat) :
  FnOK G (k + 1) C n ks (clsK C lbl S) ∧ FnOK G (k + 1) C n ks (clsF C lbl S):=by
 have go:∀ {Z:Cx} {F:Lg} {loc:Loc} {m:Str → Option Value} (M:Mo Z F loc m) {A:Around} {vs ws:List Value} {xs:List SV} {X:XC} {Rr:Result → Shared → Prop} {QQ:Addr → QV},
   Z.G = G → Z.c.Ok Z.G → Room (k + 1) A → A.frames = some (Z.c.env :: Z.c.outer) → VRs Z.G.P M.R xs (vs ++ ws) → vs.length = n → ws.length = ks.length →
   (∀ a,S (.obj lbl (some a) :: xs) ((lbl,some a,.inst C []) :: delH lbl M.H) (QQ a) X) →
   (∀ a,PQ M (QQ a) (fun v s'=>InitBack a Rr (.ok (.ret v)) s')) → XOk Z.G Z.c F M.R m X (fun e s'=>Rr (.error e) s') → codeAny Z.G.M A (.call (.ref C) ⟨vs,ks.zip ws⟩) Rr M.s:=by
  rintro Z F loc m M A vs ws xs X Rr QQ rfl ok room hA rx hn hk t q xo
  refine make_K (s:=M.s) M.st.fr M.st.nw (M.kin ok) D.mks D.ini D.fn fun a d h' F' N' l1 l2=>?_
  refine M.inst lbl M.tk F' N' l1 l2 (C:=fun s=>codeAny Z.G.M (A.under (.builtin "type.__call__" ⟨.ref C :: vs,ks.zip ws⟩)) (.call (.ref fI) ⟨.ref a :: vs,ks.zip ws⟩) (InitBack a Rr) s) fun M' h1 h2=>?_
  exact x M' rfl ok (room.under C vs _) hA (.cons (.obj lbl (some a)) (h2 ▸ rx)) (congrArg Nat.succ hn) hk (h1 ▸ t a) ((q a).sub (h2 ▸ Sub.refl _)) fun e h'' tk' z=>xo e h'' tk' (h2 ▸ z)
 refine ⟨fun M A vs ws xs Q X Rr e ok r a b c d t q xo=>go M e ok r a b c d t (fun a sv v M' s' t' vr=>?_) xo,fun M A vs ws xs Q X Rr e ok r a b c d t q xo=>go M e ok r a b c d t (fun a sv v M' s' t' vr=>?_) xo⟩
 ·cases sv with
  | none=>cases vr;exact ⟨rfl,q _ _ M' s' t' (.obj lbl (some a))⟩
  | _=>exact (t':False).elim
 ·cases sv with
  | none =>
   cases vr
   obtain ⟨o,e1,t2⟩:=own_obj (M:=M') (k:=fun l o=>instM o fun c kvs=>Q (.inst c kvs) (delH l M'.H)) t'
   clear t'
   cases o with
   | inst c' kvs=>exact ⟨rfl,M'.frzI e1 (C:=fun s=>Rr (.ok (.ret (.ref a))) s) fun M2 h1 s2 vr=>q _ _ M2 (s'.trans s2) (h1 ▸ t2) vr⟩
   | _=>exact (t2:False).elim
  | _=>exact (t':False).elim
theorem lk_mem {α:Type} {x:Str} {l:List (Str × α)} {v:α} (e:lk x l = some v):(x,v) ∈ l:=by
 induction l with
 | nil=>cases e
 | cons p r ih =>
  rw [lk_cons] at e
  cases q:sbeq x p.1 with
  | true=>rw [q] at e;cases e;rw [of_sbeq q];exact .head _
  | false=>rw [q] at e;exact .tail _ (ih e)
theorem all2 {α β:Type} {l:List (Nat × List (β × α))} {f:Nat → β → α → Bool} (h:l.all (fun p=>p.2.all fun q=>f p.1 q.1 q.2) = true) {n:Nat} {m:List (β × α)} (hm:(n,m) ∈ l) {q:β × α} (hq:q ∈ m):f n q.1 q.2 = true :=
 List.all_eq_true.mp (List.all_eq_true.mp h _ hm) _ hq
noncomputable def fixIs (u:SV) (a:Value):Bool:=match u with | .fix b=>a == .ref b | _=>false
theorem fixIs_ok {p:PP} {u:SV} {a:Value} (h:fixIs u a = true):VR p [] u a:=by
 cases u with
 | fix b=>cases eq_of_beq h;exact .fix b
 | _=>cases h
noncomputable def atGood (K:Frag) (d:Addr) (x:Str) (k:AK):Bool:=plainGet K d x && hasDictIn K d && (match findIn K (.ref d) x with
 | none=>false
 | some b=>(match k with
  | .plain=>noGet K b && b.all (fun a=>(typeIn K a).any fun t=>t != .type "function" && t != .type "method_descriptor" && t != .type "wrapper_descriptor") && findIn K (.ref d) "__setattr__" == some (some (.builtin "object.__setattr__")) && plainOver K d && takerIn K d x == some none
  | .meth f=>b == some (.ref f) && isFn K (.ref f) && fnIn K f && specialIn K (.ref f) "__get__" == some (some (.builtin "function.__get__")) && takesIn K (.ref f) == some false && !(copiedNames.contains x)
  | .const u=>(match b with | some a=>specialIn K a "__get__" == some none && handedIn a && !(copiedNames.contains x) && fixIs u a | none=>false)))
theorem atGood_ok {G:GC} {d:Addr} {x:Str} {k:AK} (h:atGood G.K d x k = true):AKOK0 G d x ∧ AKOK G d x k:=by
 unfold atGood at h
 obtain ⟨h1,h2⟩:=Ba h
 obtain ⟨h3,h4⟩:=Ba h1
 refine ⟨⟨h3,h4⟩,?_⟩
 cases e:findIn G.K (.ref d) x with
 | none=>rw [e] at h2;cases h2
 | some b =>
  rw [e] at h2
  cases k with
  | plain =>
   simp only [Bool.and_eq_true,and_assoc] at h2
   obtain ⟨a1,a2,a3,a4,a5⟩:=h2
   exact ⟨b,e,a1,a2,eq_of_beq a3,a4,eq_of_beq a5⟩
  | meth f =>
   simp only [Bool.and_eq_true,and_assoc] at h2
   obtain ⟨a1,a2,a3,a4,a5,a6⟩:=h2
   exact ⟨e.trans (congrArg some (eq_of_beq a1)),a2,a3,eq_of_beq a4,eq_of_beq a5,notT a6⟩
  | const u =>
   cases b with
   | none=>cases h2
   | some a =>
    simp only [Bool.and_eq_true,and_assoc] at h2
    obtain ⟨a1,a2,a3,a4⟩:=h2
    exact ⟨a,e,eq_of_beq a1,a2,notT a3,fixIs_ok a4⟩
theorem attr_of {G:GC} {T:Tab} (h:T.attr.all (fun p=>p.2.all fun q=>atGood G.K p.1 q.1 q.2) = true):AttrOK G T:=fun d x k e=>by
 obtain ⟨l,e1,e2⟩:=of_bind e
 exact atGood_ok (all2 h (lkN_mem e1) (lk_mem e2))
noncomputable def isaGood (K:Frag) (c d:Addr) (b:Bool):Bool:=plainGet K c "__class__" && findIn K (.ref c) "__class__" == some (some (.builtin "object.__class__")) && specialIn K (.builtin "object.__class__") "__get__" == some (some (.builtin "getset_descriptor.__get__")) &&
 takesIn K (.builtin "object.__class__") == some true && mroIn K c (.type "object") == some true && (clsIn K c).isSome && ((clsIn K d).isSome && typeIn K (.ref d) == some (.type "type") && instIn K (.ref d) (.type "type") == some true && subIn K (.ref c) (.ref d) == some b && (b || !(Nat.beq c d)))
theorem isa_of {G:GC} {T:Tab} (h:T.isa.all (fun p=>p.2.all fun q=>isaGood G.K p.1 q.1 q.2) = true):IsaOK G T:=fun c l d b e1 e2=>by
 have h:=all2 h (lkN_mem e1) (lkN_mem e2)
 unfold isaGood at h
 simp only [Bool.and_eq_true,and_assoc] at h
 obtain ⟨a1,a2,a3,a4,a5,a6,a7,a8,a9,a10,a11⟩:=h
 have C:ClsOK G.K c:=⟨a1,eq_of_beq a2,eq_of_beq a3,eq_of_beq a4,eq_of_beq a5,a6⟩
 refine ⟨⟨C,a7,eq_of_beq a8,eq_of_beq a9,eq_of_beq a10,fun hb z=>?_⟩,C⟩
 rw [hb,Bool.false_or] at a11
 have a12:=notT a11
 rw [z,Nat.beq_refl] at a12
 cases a12
noncomputable def gbGood (K:Frag) (x:Str) (u:SV):Bool:=(match nsIn K mainGlobals x with
 | some (some v)=>(match u with | .fix b=>v == .ref b | .str s=>(match v with | .str s' _=>sbeq s s' | _=>false) | _=>false)
 | _=>false) && !(x == ("__debug__":Str))
theorem glob_of {G:GC} {T:Tab} (h:T.glob.all (fun p=>gbGood G.K p.1 p.2) = true):∀ x sv,lk x T.glob = some sv → ∃ v,GlobR G x v ∧ VR G.P [] sv v:=fun x sv e=>by
 have h:=List.all_eq_true.mp h _ (lk_mem e)
 unfold gbGood at h
 obtain ⟨h1,h2⟩:=Ba h
 cases e1:nsIn G.K mainGlobals x with
 | none=>rw [e1] at h1;cases h1
 | some o=>cases o with
  | none=>rw [e1] at h1;cases h1
  | some v =>
   rw [e1] at h1
   refine ⟨v,⟨e1,notT h2⟩,?_⟩
   cases sv with
   | fix b=>cases eq_of_beq h1;exact .fix b
   | str s=>cases v with
    | str s' t=>cases of_sbeq h1;exact .str _ _
    | _=>cases h1
   | _=>cases h1
noncomputable def bltGood (K:Frag) (x:Str) (v:Value):Bool:=nsIn K mainGlobals x == some none && bootBuiltins x == some v && !(x == ("__name__":Str)) && !(x == ("__debug__":Str))
theorem blt_of {G:GC} {x:Str} {v:Value} (h:bltGood G.K x v = true):BltR G x v:=by
 unfold bltGood at h
 simp only [Bool.and_eq_true,and_assoc] at h
 obtain ⟨a1,a2,a3,a4⟩:=h
 exact ⟨eq_of_beq a1,eq_of_beq a2,(fun e=>by have a5:=notT a3;rw [e,beq_self_eq_true] at a5;cases a5),notT a4⟩
theorem bfn_of {G:GC} {T:Tab} (h:T.bfn.all (fun p=>bltGood G.K p.1 (bfVal p.2)) = true):∀ x b,lk x T.bfn = some b → BltR G x (bfVal b):=fun _ _ e=>blt_of (List.all_eq_true.mp h _ (lk_mem e))
theorem kept_of {G:GC} {T:Tab} (h:T.kept.all (fun p=>keepIn G.K (.ref p.1) && (!p.2 || fnIn G.K p.1)) = true):∀ f b,lkN f T.kept = some b → keepIn G.K (.ref f) = true ∧ (b = true → fnIn G.K f = true):=fun f b e=>by
 obtain ⟨h1,h2⟩:=Ba (List.all_eq_true.mp h _ (lkN_mem e))
 exact ⟨h1,fun hb=>by rw [hb] at h2;exact h2⟩
noncomputable def strL (l:List SV) (vs:List Value):Bool:=match l with
 | []=>(match vs with | []=>true | _ :: _=>false)
 | x :: r=>(match vs with
  | []=>false
  | v :: vs=>(match x with | .str s=>(match v with | .str s' _=>sbeq s s' && strL r vs | _=>false) | _=>false))
theorem strL_ok {p:PP} {l:List SV}:∀ {vs:List Value},strL l vs = true → VRs p [] l vs:=by
 induction l with
 | nil=>intro vs h;cases vs with | nil=>exact .nil | cons _ _=>cases h
 | cons x r ih =>
  intro vs h
  cases vs with
  | nil=>cases h
  | cons v vs=>cases x with
   | str s=>cases v with
    | str s' t=>obtain ⟨h1,h2⟩:=Ba h;cases of_sbeq h1;exact .cons (.str _ _) (ih h2)
    | _=>cases h
   | _=>cases h
structure Ent where
 f:Addr
 nm:Str
 ql:Str
 ps:Arguments
 bd:List Stmt
 sc:Scope
 dV:Value
 pm:Value
 cd:Value
 n:Nat
 ks:List Str
 ns:List (Str × Nat)
 dfl:List SV
 dvs:List Value
 dr:List Nat
structure EntOK (K:Frag) (e:Ent):Prop where
 df:DefR K e.f e.nm e.ql e.ps e.bd e.sc e.dV e.pm e.cd
 sc:scopeOK e.sc e.ns = true
 dv:∀ p:PP,VRs p [] e.dfl e.dvs
 bd:allN e.n fun vs=>allN e.ks.length fun ws=>runK K 9 (bindArgs (fnOf e.nm e.ql e.ps e.bd e.sc e.dV .none .none e.pm none e.cd .none) ⟨vs,e.ks.zip ws⟩) = some (pickL e.ns ((vs ++ ws) ++ e.dvs))
noncomputable def Ent.fn (T:Tab) (e:Ent):Addr × Nat × List Str × Sm:=(e.f,e.n,e.ks,inl T e.sc e.bd e.ns e.dfl e.dr)
theorem ent_ok {G:GC} {k:Nat} {T:Tab} (tab:TabOK G k T) (nc:T.cells = []) {e:Ent} (h:EntOK G.K e):FnOK G (k + 1) e.f e.n e.ks (inl T e.sc e.bd e.ns e.dfl e.dr):=fn_inl tab h.df e.dr (scOK_of h.sc) (h.dv _) nc h.bd
theorem seqs_eq {a:List Str}:∀ {b:List Str},seqsEq a b = true → a = b:=by
 induction a with
 | nil=>intro b h;cases b with | nil=>rfl | cons _ _=>cases h
 | cons x r ih =>
  intro b h
  cases b with
  | nil=>cases h
  | cons y q =>
   have h:(match sbeq x y with | true=>seqsEq r q | false=>false) = true:=h
   cases e:sbeq x y with
   | true=>rw [e] at h;rw [of_sbeq e,ih h]
   | false=>rw [e] at h;cases h
theorem fnS_of {P:Addr → Nat → List Str → Sm → Prop} {l:List (Addr × Nat × List Str × Sm)} (h:∀ p ∈ l,P p.1 p.2.1 p.2.2.1 p.2.2.2):∀ f n ks S,fnS f n ks l = some S → P f n ks S:=by
 induction l with
 | nil=>intro f n ks S e;cases e
 | cons p r ih =>
  intro f n ks S e
  have e:(match and (and (Nat.beq f p.1) (Nat.beq n p.2.1)) (seqsEq ks p.2.2.1) with | true=>some p.2.2.2 | false=>fnS f n ks r) = some S:=e
  cases q:and (and (Nat.beq f p.1) (Nat.beq n p.2.1)) (seqsEq ks p.2.2.1) with
  | false=>rw [q] at e;exact ih (fun p hp=>h p (.tail _ hp)) f n ks S e
  | true =>
   rw [q] at e
   cases e
   obtain ⟨q1,q2⟩:=Ba q
   obtain ⟨q3,q4⟩:=Ba q1
   rw [Nq q3,Nq q4,seqs_eq q2]
   exact h p (.head _)
section
open Builtin Builtin.Str KPc
noncomputable abbrev St3:=List Value × Writer × List Nat
noncomputable def pc2:Percent:={ zero:=true,width:=some 2,type:=88 }
noncomputable def hexT (n:Int):List Nat:=percentInt pc2 (decide (n < 0)) ((Nat.toDigits 16 n.natAbs).map Char.toNat)
noncomputable def hexF (n:Int):List Nat:=(percentField pc2 true (hexT n)).getD (hexT n)
structure PF (M:Model) (A:Around) (E:Value → Shared → Prop) (d:Nat) (Q:St3 → Shared → Prop) (f:Nat → St3 → Sem (ForInStep St3)):Prop where
 lit:∀ {x:Nat} {l:List Nat} {p:List Value} {w:Writer} {r a t:List Nat} {T:Str} {N:Nat} {s:Shared},Good w T N → N ≤ 1000000 → r.isEmpty = false → r.span (· != 37) = (a,t) → a.isEmpty = false → (a.length == d) = false →
  (∀ w',Good w' (T ++ ⟨a.toArray⟩) (N + a.toArray.size) → wpAny M A (forIn l (p,w',t) f) Q E s) → wpAny M A (forIn (x :: l) (p,w,r) f) Q E s
 pct:∀ {x:Nat} {l:List Nat} {p:List Value} {w:Writer} {t:List Nat} {T:Str} {N:Nat} {s:Shared},Good w T N → N ≤ 1000000 →
  (∀ w',Good w' (T ++ Str.ofString "%") (N + 1) → wpAny M A (forIn l (p,w',t) f) Q E s) → wpAny M A (forIn (x :: l) (p,w,37 :: 37 :: t) f) Q E s
 str:∀ {x:Nat} {l:List Nat} {p:List Value} {w:Writer} {t:List Nat} {T y:Str} {N K:Nat} {tk:Tok} {s:Shared},Good w T N → N ≤ 1000000 → y.length ≤ K →
  (∀ w',Good w' (T ++ y) (N + K) → wpAny M A (forIn l (p,w',t) f) Q E s) → wpAny M A (forIn (x :: l) (.str y tk :: p,w,37 :: 115 :: t) f) Q E s
 rep:∀ {x:Nat} {l:List Nat} {p:List Value} {w:Writer} {t:List Nat} {T y:Str} {N K:Nat} {tk:Tok} {s:Shared},Good w T N → N ≤ 1000000 → (reprText y).length ≤ K → K ≤ 1000000 →
  (∀ w' k,Good w' (T ++ reprText y) (N + K) → wpAny M A (forIn l (p,w',t) f) Q E { s with toks:=k }) → wpAny M A (forIn (x :: l) (.str y tk :: p,w,37 :: 114 :: t) f) Q E s
 int:∀ {x:Nat} {l:List Nat} {p:List Value} {w:Writer} {t:List Nat} {T:Str} {n:Int} {N:Nat} {tk:Tok} {s:Shared},Good w T N → N ≤ 1000000 → 0 ≤ n → n < 10 ^ 10 → n.natAbs.log2 < 1920 →
  (∀ w' k,Good w' (T ++ Str.ofString (toString n)) (N + 10) → wpAny M A (forIn l (p,w',t) f) Q E { s with toks:=k }) → wpAny M A (forIn (x :: l) (.int n tk :: p,w,37 :: 100 :: t) f) Q E s
 hex:∀ {x:Nat} {l:List Nat} {p:List Value} {w:Writer} {t d:List Nat} {T:Str} {n:Int} {N:Nat} {tk:Tok} {s:Shared},Good w T N → N ≤ 1000000 → hexF n = d →
  (∀ w',Good w' (T ++ ⟨d.toArray⟩) (N + d.toArray.size) → wpAny M A (forIn l (p,w',t) f) Q E s) → wpAny M A (forIn (x :: l) (.int n tk :: p,w,37 :: 48 :: 50 :: 88 :: t) f) Q E s
 fin:∀ {x:Nat} {l:List Nat} {p:List Value} {w:Writer} {T:Str} {N:Nat} {s:Shared},Good w T N → N ≤ 1000000 → Q (p,w,[]) s → wpAny M A (forIn (x :: l) (p,w,[]) f) Q E s
theorem str_arr (y:Str):(⟨y.cps.toList.toArray⟩:Str) = y:=congrArg Str.mk (Array.toArray_toList ..)
section
variable {prog:Program} {wd:World} {A:Around} {E:Value → Shared → Prop}
theorem short' {w':Writer} {T:Str} {N:Nat} (g:Good w' T N) (h:N ≤ 1000000):¬ (tooLong w'.total = true):=short_good g (Nl h (by decide))
theorem rep_under {x:Str} {t:Tok} {b:Nat} {s:Shared} {Q:Value → Shared → Prop} (hsz:(reprText x).length ≤ sizeLine) (h:Q (.str (reprText x) s.toks) { s with toks:=s.toks + 1 }):wpAny (model prog wd) A (pyReprObjUnder b (.str x t)) Q E s:=by
 unfold pyReprObjUnder pyReprObjBy
 have hT:=typeIs_str s x t
 refine wpAny_bind (wpAny_of_eq (a:=()) rfl ?_)
 refine wpAny_bind (wpAny_specialOf (name:=Str.ofString "__repr__") hT F.slot_str_repr.lookup ?_)
 refine wpAny_bind (wpAny_callSpecialIfBoundBy?_slotG (name:=Str.ofString "__repr__") hT F.slot_str_repr.toG (call_gives F.slot_str_repr hT F.entry_str_repr (F.args_str_repr_1 _) (gives_str_repr x t) ⟨hsz,?_⟩))
 exact wpAny_bind (wpAny_isInstance (T:="str") (b:=true) rfl isSubtype_str_str (wpAny_pure h))
theorem jp_any {v:Value} {s:Shared} {c:Bool} {p:List Value} {R:Fin → Shared → Prop} {jp:List Value → Sem Fin}
  (hp:match (motive:=Bool → Prop) c with | true=>∃ vs:Array Value,vs.toList = p ∧ ∀ Q:Option (Array Value) → Shared → Prop,Q (some vs) s → wpAny (model prog wd) A (seqItems? v) Q E s | false=>p = [v]) (k:wpAny (model prog wd) A (jp p) R E s) :
  wpAny (model prog wd) A (if c = true then (do
   let o ← seqItems? v
   match o with
   | some xs=>do let p ← pure xs.toList;jp p
   | none=>do let p ← unsupported "internal:str.__mod__";jp p) else (do let p ← pure [v];jp p)) R E s:=by
 cases c with
 | true=>obtain ⟨vs,e1,e2⟩:=hp;exact wpAny_bind (e2 _ (wpAny_bind (wpAny_pure (e1 ▸ k))))
 | false=>cases hp;exact wpAny_bind (wpAny_pure k)
theorem pct_any {fo:Value} {fmt:Str} {v:Value} {s:Shared} {bT:Bool} {p:List Value} {r:List Nat} {o:Option Str} {R:Fin → Shared → Prop} {d:Nat}
  (h1:∀ Q:Bool → Shared → Prop,Q bT s → wpAny (model prog wd) A (isInstance v (.type "tuple")) Q E s) (h2:∀ Q:Option Str → Shared → Prop,Q o s → wpAny (model prog wd) A (asStr? v) Q E s)
  (h3:∀ Q:Bool → Shared → Prop,(∀ b,Q b s) → wpAny (model prog wd) A (fillsMappingSlot v) Q E s) (hp:match (motive:=Bool → Prop) bT with | true=>∃ vs:Array Value,vs.toList = p ∧ ∀ Q:Option (Array Value) → Shared → Prop,Q (some vs) s → wpAny (model prog wd) A (seqItems? v) Q E s | false=>p = [v])
  (hf:fmt.cps.toList = r) (hl:fmt.length = d)
  (h:∀ (f:Nat → St3 → Sem (ForInStep St3)) (w':Writer),Good w' Str.empty 0 → (∀ Q,PF (model prog wd) A E d Q f) →
   wpAny (model prog wd) A (forIn (List.range' 0 d 1) (p,w',r) f) (fun z s'=>z.1 = [] ∧ ∀ id,wpAny (model prog wd) A (z.2.1.finish id) R E s') E s) :
  wpAny (model prog wd) A (percentFormat fo fmt v) R E s:=by
 unfold Builtin.Str.percentFormat
 refine wpAny_bind (h1 _ ?_)
 refine wpAny_bind (h2 _ ?_)
 refine wpAny_bind (h3 _ fun b=>?_)
 clear h1 h2 h3
 generalize (!bT && !o.isSome && b) = mp
 refine jp_any hp ?_
 clear hp
 refine wpAny_bind ?_
 rw [KPc.range_list,hf,hl]
 refine wpAny_mono (KPc.start fun w' g=>h _ w' g fun Q=>?_) (fun z s' hz=>?_) fun _ _ e=>e
 ·refine ⟨?_,?_,?_,?_,?_,?_,?_⟩
  ·intro x l p w r a t T N s g hN hr hs ha hd k
   refine KPc.turn ?_
   refine wpAny_ite (KPc.ite_no (short' g hN) ?_)
   refine wpAny_ite (KPc.ite_no (by rw [hr];exact Bool.false_ne_true) ?_)
   rw [hs]
   refine wpAny_ite (KPc.ite_yes (by rw [ha];rfl) ?_)
   refine wpAny_pure ?_
   exact KPc.after_add g rfl (KPc.obj_none (if_neg (by rw [hd];exact Bool.false_ne_true))) k
  ·intro x l p w t T N s g hN k
   refine KPc.turn ?_
   refine wpAny_ite (KPc.ite_no (short' g hN) ?_)
   repeat kpc_if
   refine wpAny_pure ?_
   exact KPc.after_add (y:=Str.ofString "%") g rfl (KPc.obj_none rfl) k
  ·intro x l p w t T y N K tk s g hN hy k
   refine KPc.turn ?_
   refine wpAny_ite (KPc.ite_no (short' g hN) ?_)
   repeat kpc_if
   refine wpAny_bind ?_
   refine wpAny_holding ?_
   repeat kpc_if
   refine wpAny_bind (wpAny_of_eq (KPc.strOf_str _ _) ?_)
   refine wpAny_bind (wpAny_of_eq (a:=some _) rfl ?_)
   refine wpAny_pure ?_
   refine wpAny_pure ?_
   exact KPc.after_str g hy (by cases t <;> first | exact KPc.obj_some rfl | exact KPc.obj_none rfl) k
  ·intro x l p w t T y N K tk s g hN hy hK k
   refine KPc.turn ?_
   refine wpAny_ite (KPc.ite_no (short' g hN) ?_)
   repeat kpc_if
   refine wpAny_bind ?_
   refine wpAny_holding ?_
   repeat kpc_if
   refine wpAny_bind (rep_under (Nl hy (Nl hK (by rw [sizeLine_eq];decide))) ?_)
   refine wpAny_bind (wpAny_of_eq (a:=some _) rfl ?_)
   refine wpAny_pure ?_
   refine wpAny_pure ?_
   exact KPc.after_str g hy (by cases t <;> first | exact KPc.obj_some rfl | exact KPc.obj_none rfl) fun w' g'=>k w' _ g'
  ·intro x l p w t T n N tk s g hN h0 h9 hb k
   refine KPc.turn ?_
   refine wpAny_ite (KPc.ite_no (short' g hN) ?_)
   repeat kpc_if
   refine wpAny_bind ?_
   refine wpAny_holding ?_
   repeat kpc_if
   refine wpAny_bind (wpAny_of_eq (a:=n) rfl ?_)
   repeat kpc_if
   refine wpAny_bind (wpAny_mkInt ?_)
   refine wpAny_bind (call_gives F.slot_int_repr (typeIs_int _ _ _) F.entry_int_repr (F.args_int_repr_1 _) (gives_int_repr _ _ (KPt.hd2 hb)) ⟨int_text_fits (KPt.hd2 hb),?_⟩)
   refine wpAny_bind (wpAny_of_eq (a:=some _) rfl ?_)
   refine wpAny_pure ?_
   refine wpAny_pure ?_
   exact KPc.after_int g rfl (.inl rfl) rfl h0 h9 rfl (ite_self _) fun w' g'=>k w' _ g'
  ·intro x l p w t d T n N tk s g hN hd k
   refine KPc.turn ?_
   refine wpAny_ite (KPc.ite_no (short' g hN) ?_)
   repeat kpc_if
   refine wpAny_bind ?_
   refine wpAny_holding ?_
   repeat kpc_if
   refine wpAny_bind (wpAny_of_eq (a:=n) rfl ?_)
   repeat kpc_if
   refine wpAny_bind (wpAny_pure ?_)
   refine wpAny_pure ?_
   have key:∀ o:Option (List Nat),o.getD (hexT n) = d → wpAny (model prog wd) A ((match o with
     | none=>pure (ForInStep.yield (p,w.add { cps:=(hexT n).toArray } (if t.isEmpty = true then none else none),t))
     | some laid=>pure (ForInStep.yield (p,w.add { cps:=laid.toArray },t)):Sem (ForInStep St3))) (fun r s'=>match r with | .done b'=>Q b' s' | .yield b'=>wpAny (model prog wd) A (forIn l b' _) Q E s') E s:=fun o ho=>by
    cases o with
    | none=>cases ho;exact wpAny_pure (KPc.after_add g rfl (KPc.obj_none (ite_self _)) k)
    | some laid=>cases ho;exact wpAny_pure (KPc.after_add g rfl (KPc.obj_none rfl) k)
   exact Eq.mp (by rfl') (key _ hd)
  ·intro x l p w T N s g hN k
   refine KPc.turn ?_
   refine wpAny_ite (KPc.ite_no (short' g hN) ?_)
   refine wpAny_ite (KPc.ite_yes rfl ?_)
   exact wpAny_pure k
 ·obtain ⟨z1,z2,z3⟩:=z
  cases hz.1
  exact hz.2 _
end
end
section
open Builtin Builtin.Str KPc
noncomputable def Tpl (r:List Nat) (d:Nat) (p:List Value) (T:Str):Prop:=∀ {prog:Program} {wd:World} {A:Around} {E:Value → Shared → Prop} {s:Shared} {f:Nat → St3 → Sem (ForInStep St3)} {w':Writer} {Q:St3 → Shared → Prop},
 Good w' Str.empty 0 → PF (model prog wd) A E d Q f → (∀ w2 N k,Good w2 T N → N ≤ 1000000 → Q ([],w2,[]) { s with toks:=k }) → wpAny (model prog wd) A (forIn (List.range' 0 d 1) (p,w',r) f) Q E s
section
variable {prog:Program} {wd:World} {A:Around} {E:Value → Shared → Prop} {s:Shared} {X:Str} {t u:Tok} {Q:Value → Shared → Prop} {T:Str} {r:List Nat} {d:Nat}
theorem tpl_run {p:List Value} {fo v:Value} {fmt:Str} {bT:Bool} {o:Option Str} {s:Shared} {R:Fin → Shared → Prop} (tp:Tpl r d p T)
  (h1:∀ Q:Bool → Shared → Prop,Q bT s → wpAny (model prog wd) A (isInstance v (.type "tuple")) Q E s) (h2:∀ Q:Option Str → Shared → Prop,Q o s → wpAny (model prog wd) A (asStr? v) Q E s)
  (h3:∀ Q:Bool → Shared → Prop,(∀ b,Q b s) → wpAny (model prog wd) A (fillsMappingSlot v) Q E s) (hp:match (motive:=Bool → Prop) bT with | true=>∃ vs:Array Value,vs.toList = p ∧ ∀ Q:Option (Array Value) → Shared → Prop,Q (some vs) s → wpAny (model prog wd) A (seqItems? v) Q E s | false=>p = [v])
  (hf:fmt.cps.toList = r) (hl:fmt.length = d) (h:∀ t' k,R (.done (.ret (.str T t'))) { s with toks:=k }):wpAny (model prog wd) A (percentFormat fo fmt v) R E s :=
 pct_any h1 h2 h3 hp hf hl fun _ _ g pf=>tp g (pf _) fun _ _ k g2 hN=>⟨rfl,fun _=>KPc.finish_ok g2 (Nl hN (by decide)) rfl fun t' k'=>h t' k'⟩
theorem mod_str {y:Str} (tp:∀ u,Tpl r d [.str y u] T) (hf:X.cps.toList = r) (hl:X.length = d) (h:∀ t' k,Q (.str T t') { s with toks:=k }):wpAny (model prog wd) A (binaryOp .Mod (.str X t) (.str y u)) Q E s :=
 binaryOp_meets (T:="str") (op:=.Mod) (typeIs_str s X t) (typeIs_str s y u) F.fills_str_mod F.slot_str_mod F.entry_str_mod (F.args_str_mod_2 _ _)
  (KPc.meets_of (T:=T) fun _ _ _ _ _ _ hq=>by
   rw [KPc.entry_is_s]
   exact tpl_run (bT:=false) (o:=some y) (tp u) (fun _ q=>wpAny_isInstance (typeIs_str _ _ _) F.sub_str_tuple q) (fun _ q=>wpAny_of_eq rfl q) (fun _ q=>KPc.wp_fills_str q) rfl hf hl hq) (fun t' k=>⟨(fun e=>nomatch e),h t' k⟩)
theorem mod_int {n:Int} (tp:∀ u,Tpl r d [.int n u] T) (hf:X.cps.toList = r) (hl:X.length = d) (h:∀ t' k,Q (.str T t') { s with toks:=k }):wpAny (model prog wd) A (binaryOp .Mod (.str X t) (.int n u)) Q E s :=
 AutoFloatOps.binaryOp_left_meets (T:="str") (U:="int") (op:=.Mod) (by decide) (typeIs_str s X t) (fun s'=>typeIs_int s' n u) F.fills_str_mod F.fills_int_mod F.sub_int_str F.slot_str_mod F.slot_int_rmod F.entry_str_mod (F.args_str_mod_2 _ _)
  (KPc.meets_of (T:=T) fun _ _ _ _ _ _ hq=>by
   rw [KPc.entry_is]
   exact tpl_run (bT:=false) (o:=none) (tp u) (fun _ q=>wpAny_isInstance (typeIs_int _ _ _) F.sub_int_tuple q) (fun _ q=>wpAny_of_eq rfl q) (fun _ q=>wpAny_of_eq (KPc.fills _ _) (q _)) rfl hf hl hq) (fun t' k=>⟨(fun e=>nomatch e),h t' k⟩)
theorem mod_tup {h₀:Heap} {L b:Addr} {news:Lg} {vs:List Value} {n:Nat} (N:News h₀ L s.heap news) (hb:(b,tupO vs n) ∈ news) (tp:Tpl r d vs T) (hf:X.cps.toList = r) (hl:X.length = d)
  (h:∀ t' k,Q (.str T t') { s with toks:=k }):wpAny (model prog wd) A (binaryOp .Mod (.str X t) (.ref b)) Q E s :=
 KPt.mod_tuple N hb rfl (KPt.meets_tup (T:=T) fun _ _ _ _ _ _ ⟨o,hg,hc,n',hd⟩ hq=>by
  rw [KPt.entry_is_r]
  exact tpl_run (bT:=true) (o:=none) tp (fun _ q=>wpAny_isInstance (T:="tuple") ⟨o,hg,hc⟩ KPt.sub_tt q) (fun _ q=>KPt.asStr_ref hg hd q) (fun _ q=>KPt.fills_ref ⟨o,hg,hc⟩ q)
   ⟨vs.toArray,rfl,fun _ q=>wpAny_seqItems hg hd q⟩ hf hl hq) h
end
theorem t_ang {y:Str} {u:Tok} (hy:y.length ≤ 100000):Tpl [33,60,37,115,62] 5 [.str y u] (Str.ofString "!<" ++ y ++ Str.ofString ">"):=fun g pf k =>
 pf.lit (a:=[33,60]) (t:=[37,115,62]) g (by decide) rfl rfl rfl rfl fun _ g=>pf.str g (by decide) hy fun _ g=>pf.lit (a:=[62]) (t:=[]) g (by decide) rfl rfl rfl rfl fun _ g=>pf.fin g (by decide) (k _ _ _ (by rw [KPc.empty_app] at g;exact g) (by decide))
theorem t_yam {y:Str} {u:Tok} (hy:y.length ≤ 100000):Tpl [37,37,89,65,77,76,32,37,115] 9 [.str y u] (Str.ofString "%YAML " ++ y):=fun g pf k =>
 pf.pct g (by decide) fun _ g=>pf.lit (a:=[89,65,77,76,32]) (t:=[37,115]) g (by decide) rfl rfl rfl rfl fun _ g=>pf.str g (by decide) hy fun _ g=>pf.fin g (by decide) (k _ _ _ (by rw [KPc.empty_app] at g;exact g) (by decide))
theorem t_tag {x y:Str} {u v:Tok} (hx:x.length ≤ 100000) (hy:y.length ≤ 100000):Tpl [37,37,84,65,71,32,37,115,32,37,115] 11 [.str x v,.str y u] (Str.ofString "%TAG " ++ x ++ Str.ofString " " ++ y):=fun g pf k =>
 pf.pct g (by decide) fun _ g=>pf.lit (a:=[84,65,71,32]) (t:=[37,115,32,37,115]) g (by decide) rfl rfl rfl rfl fun _ g=>pf.str g (by decide) hx fun _ g =>
  pf.lit (a:=[32]) (t:=[37,115]) g (by decide) rfl rfl rfl rfl fun _ g=>pf.str g (by decide) hy fun _ g=>pf.fin g (by decide) (k _ _ _ (by rw [KPc.empty_app] at g;exact g) (by decide))
theorem t_two {x y:Str} {u v:Tok} (hx:x.length ≤ 100000) (hy:y.length ≤ 100000):Tpl [37,115,37,115] 4 [.str x v,.str y u] (x ++ y):=fun g pf k =>
 pf.str g (by decide) hx fun _ g=>pf.str g (by decide) hy fun _ g=>pf.fin g (by decide) (k _ _ _ (by rw [KPc.empty_app] at g;exact g) (by decide))
noncomputable def L (s:String):List Nat:=(Str.ofString s).cps.toList
theorem log_ok {i:Nat} (hi:Nat.ble i 1000 = true):(Int.ofNat i).natAbs.log2 < 1920:=Nat.lt_of_le_of_lt (Nat.log2_le_self i) (Nat.lt_of_le_of_lt (Nb hi) (by decide))
theorem ten_ok {i:Nat} (hi:Nat.ble i 1000 = true):Int.ofNat i < 10 ^ 10:=Int.ofNat_lt.mpr (Nat.lt_of_le_of_lt (Nb hi) (by decide:1000 < 10 ^ 10))
theorem t_ver {i j:Nat} {u v:Tok} (hi:Nat.ble i 1000 = true) (hj:Nat.ble j 1000 = true):Tpl [37,100,46,37,100] 5 [.int (Int.ofNat i) v,.int (Int.ofNat j) u] (Str.ofString (toString (Int.ofNat i)) ++ Str.ofString "." ++ Str.ofString (toString (Int.ofNat j))):=fun g pf k =>
 pf.int g (by decide) (Int.natCast_nonneg i) (ten_ok hi) (log_ok hi) fun _ _ g=>pf.lit (a:=[46]) (t:=[37,100]) g (by decide) rfl rfl rfl rfl fun _ g=>pf.int g (by decide) (Int.natCast_nonneg j) (ten_ok hj) (log_ok hj) fun _ _ g =>
  pf.fin g (by decide) (k _ _ _ (by rw [KPc.empty_app] at g;exact g) (by decide))
theorem t_bad {i j:Nat} {u v:Tok} (hi:Nat.ble i 1000 = true) (hj:Nat.ble j 1000 = true):∃ T,Tpl (L "unsupported YAML version: " ++ [37,100,46,37,100]) 31 [.int (Int.ofNat i) v,.int (Int.ofNat j) u] T:=⟨_,fun g pf k =>
 pf.lit (a:=L "unsupported YAML version: ") (t:=[37,100,46,37,100]) g (by decide) (by rfl') (by rfl') (by rfl') (by rfl') fun _ g =>
 pf.int g (by decide +kernel) (Int.natCast_nonneg i) (ten_ok hi) (log_ok hi) fun _ _ g=>pf.lit (a:=[46]) (t:=[37,100]) g (by decide +kernel) rfl rfl rfl rfl fun _ g=>pf.int g (by decide +kernel) (Int.natCast_nonneg j) (ten_ok hj) (log_ok hj) fun _ _ g =>
  pf.fin g (by decide +kernel) (k _ _ _ g (by decide +kernel))⟩
theorem t_hex {n:Int} {u:Tok} (hn:Nat.ble (hexF n).toArray.size 10 = true):Tpl [37,37,37,48,50,88] 6 [.int n u] (Str.ofString "%" ++ ⟨(hexF n).toArray⟩):=fun g pf k =>
 pf.pct g (by decide) fun _ g=>pf.hex g (by decide) rfl fun _ g=>pf.fin g (by have:=Nb hn;(first | lia | omega)) (k _ _ _ (by rw [KPc.empty_app] at g;exact g) (by have:=Nb hn;(first | lia | omega)))
theorem t_r1 {x:Str} (h:okS x = true):∃ T,∀ u,Tpl (L "tag handle must start and end with '!': " ++ [37,114]) 42 [.str x u] T:=⟨_,fun _ _ _ _ _ _ _ _ _ g pf k =>
 pf.lit (a:=L "tag handle must start and end with '!': ") (t:=[37,114]) g (by decide) (by rfl') (by rfl') (by rfl') (by rfl') fun _ g=>pf.rep g (by decide +kernel) (okS_len h) (by decide) fun _ _ g=>pf.fin g (by decide +kernel) (k _ _ _ g (by decide +kernel))⟩
theorem t_r2 {x y:Str} {u v:Tok} (hx:okS x = true) (hy:okS y = true) {m:String} {d:Nat} (h1:(L "invalid character " ++ (37 :: 114 :: (L m ++ [37,114]))).isEmpty = false) (h2:(L "invalid character " ++ (37 :: 114 :: (L m ++ [37,114]))).span (· != 37) = (L "invalid character ",37 :: 114 :: (L m ++ [37,114])))
  (h3:(L "invalid character ").isEmpty = false) (h4:((L "invalid character ").length == d + 5) = false) (h5:(L m ++ [37,114]).isEmpty = false) (h6:(L m ++ [37,114]).span (· != 37) = (L m,[37,114])) (h7:(L m).isEmpty = false) (h8:((L m).length == d + 5) = false) (h9:(L m).toArray.size ≤ 100) :
  ∃ T,Tpl (L "invalid character " ++ (37 :: 114 :: (L m ++ [37,114]))) (d + 5) [.str x v,.str y u] T:=⟨_,fun g pf k =>
 pf.lit g (by decide) h1 h2 h3 h4 fun _ g=>pf.rep g (by decide +kernel) (okS_len hx) (by decide) fun _ _ g =>
  pf.lit g (by decide +kernel) h5 h6 h7 h8 fun _ g=>pf.rep g (by have:0 + (L "invalid character ").toArray.size + 1002 ≤ 2000:=(by decide +kernel);(first | lia | omega)) (okS_len hy) (by decide) fun _ _ g=>pf.fin g (by have:0 + (L "invalid character ").toArray.size + 1002 ≤ 2000:=(by decide +kernel);(first | lia | omega)) (k _ _ _ g (by have:0 + (L "invalid character ").toArray.size + 1002 ≤ 2000:=(by decide +kernel);(first | lia | omega)))⟩
end
section
open Builtin Builtin.Str KPc
noncomputable def sS (v:SV):Option Str:=match v with | .str s=>some s | _=>none
noncomputable def sN (v:SV):Option Nat:=match v with | .int i=>(match i with | .ofNat n=>(match Nat.ble n 1000 with | true=>some n | false=>none) | _=>none) | _=>none
noncomputable def tp2 (v:SV):Option (SV × SV):=match v with | .tup l=>(match l with | a :: r=>(match r with | b :: q=>(match q with | []=>some (a,b) | _ :: _=>none) | []=>none) | []=>none) | _=>none
noncomputable def okd (c:Bool) (r:Str):Option Str:=match c with | true=>some r | false=>none
noncomputable def sO (v:SV):Option Str:=(sS v).bind fun x=>okd (okS x) x
noncomputable def fmtL:List (Str × (SV → Option Str)):=[
 ("!<%s>",fun v=>(sS v).map fun y=>Str.ofString "!<" ++ y ++ Str.ofString ">"),
 ("%%YAML %s",fun v=>(sS v).map fun y=>Str.ofString "%YAML " ++ y),
 ("%%%02X",fun v=>(sN v).bind fun n=>okd (Nat.ble (hexF (Int.ofNat n)).toArray.size 10) (Str.ofString "%" ++ ⟨(hexF (Int.ofNat n)).toArray⟩)),
 ("%%TAG %s %s",fun v=>(tp2 v).bind fun p=>(sS p.1).bind fun x=>(sS p.2).map fun y=>Str.ofString "%TAG " ++ x ++ Str.ofString " " ++ y),
 ("%s%s",fun v=>(tp2 v).bind fun p=>(sS p.1).bind fun x=>(sS p.2).map fun y=>x ++ y),
 ("%d.%d",fun v=>(tp2 v).bind fun p=>(sN p.1).bind fun i=>(sN p.2).map fun j=>Str.ofString (toString (Int.ofNat i)) ++ Str.ofString "." ++ Str.ofString (toString (Int.ofNat j)))]
noncomputable def anyL:List (Str × (SV → Bool)):=[
 ("unsupported YAML version: %d.%d",fun v=>isSome? ((tp2 v).bind fun p=>(sN p.1).bind fun i=>(sN p.2).map fun j=>(i,j))),
 ("tag handle must start and end with '!': %r",fun v=>isSome? (sO v)),
 ("invalid character %r in the tag handle: %r",fun v=>isSome? ((tp2 v).bind fun p=>(sO p.1).bind fun x=>(sO p.2).map fun y=>(x,y))),
 ("invalid character %r in the anchor: %r",fun v=>isSome? ((tp2 v).bind fun p=>(sO p.1).bind fun x=>(sO p.2).map fun y=>(x,y)))]
noncomputable def fmtT (s:Str) (v:SV):Option Str:=(lk s fmtL).bind fun f=>f v
noncomputable def anyT (s:Str) (v:SV):Bool:=match lk s anyL with | some f=>f v | none=>false
theorem of_map {α β:Type} {o:Option α} {f:α → β} {y:β} (e:o.map f = some y):∃ x,o = some x ∧ f x = y:=by cases o with | none=>cases e | some x=>exact ⟨x,rfl,Option.some.inj e⟩
theorem of_okd {c:Bool} {r y:Str} (e:okd c r = some y):c = true ∧ r = y:=by cases c with | false=>cases e | true=>exact ⟨rfl,Option.some.inj e⟩
theorem of_some? {α:Type} {o:Option α} (e:isSome? o = true):∃ x,o = some x:=by cases o with | none=>cases e | some x=>exact ⟨x,rfl⟩
theorem sS_ok {p:PP} {R:Lg} {v:SV} {u:Value} {x:Str} (r:VR p R v u) (e:sS v = some x):∃ t,u = .str x t:=by
 cases v with
 | str s=>cases e;cases r;exact ⟨_,rfl⟩
 | _=>cases e
theorem sN_ok {p:PP} {R:Lg} {v:SV} {u:Value} {x:Nat} (r:VR p R v u) (e:sN v = some x):Nat.ble x 1000 = true ∧ ∃ t,u = .int (Int.ofNat x) t:=by
 cases v with
 | int i=>cases i with
  | ofNat n =>
   have e:(match Nat.ble n 1000 with | true=>some n | false=>none) = some x:=e
   cases q:Nat.ble n 1000 with
   | true=>rw [q] at e;cases e;cases r;exact ⟨q,_,rfl⟩
   | false=>rw [q] at e;cases e
  | negSucc n=>cases e
 | _=>cases e
theorem tp2_ok {p:PP} {R:Lg} {v:SV} {u:Value} {x:SV × SV} (r:VR p R v u) (e:tp2 v = some x):∃ a n v1 v2,u = .ref a ∧ (a,tupO [v1,v2] n) ∈ R ∧ VR p R x.1 v1 ∧ VR p R x.2 v2:=by
 cases v with
 | tup l=>cases l with
  | nil=>cases e
  | cons a l=>cases l with
   | nil=>cases e
   | cons b l=>cases l with
    | nil=>cases e;cases r with | tup a vs n _ hm r=>cases r with | cons r1 r=>cases r with | cons r2 r=>cases r;exact ⟨_,_,_,_,rfl,hm,r1,r2⟩
    | cons _ _=>cases e
 | _=>cases e
theorem sO_ok {v:SV} {x:Str} (e:sO v = some x):okS x = true ∧ sS v = some x:=by
 obtain ⟨y,e1,e2⟩:=of_bind e
 obtain ⟨h,rfl⟩:=of_okd e2
 exact ⟨h,e1⟩
section
variable {G:GC}
noncomputable def FE (G:GC) (s:Str) (f:SV → Option Str):Prop:=∀ {A:Around} {E:Value → Shared → Prop} {c:FC} {F:Lg} {H:Hp} {R N:Lg} {m:Str → Option Value} {h:Heap} {tk:Nat} {t:Tok} {sv:SV} {u:Value} {Q:Value → Shared → Prop},
 St G c F H R m h N → VR G.P R sv u → ∀ r,f sv = some r → r.length ≤ 100000 → (∀ t' k,Q (.str r t') (G.sh h k)) → wpAny G.M A (binaryOp .Mod (.str s t) u) Q E (G.sh h tk)
noncomputable def FA (G:GC) (s:Str) (f:SV → Bool):Prop:=∀ {A:Around} {E:Value → Shared → Prop} {c:FC} {F:Lg} {H:Hp} {R N:Lg} {m:Str → Option Value} {h:Heap} {tk:Nat} {t:Tok} {sv:SV} {u:Value} {Q:Value → Shared → Prop},
 St G c F H R m h N → VR G.P R sv u → f sv = true → (∀ r t' k,Q (.str r t') (G.sh h k)) → wpAny G.M A (binaryOp .Mod (.str s t) u) Q E (G.sh h tk)
theorem in_mid {a:Addr × Obj} {N R F:Lg} (h:a ∈ R):a ∈ N ++ (R ++ F):=Mr _ (Ml _ h)
theorem len_l {a b:Str} {n:Nat} (h:(a ++ b).length ≤ n):a.length ≤ n ∧ b.length ≤ n:=by rw [La] at h;(first | lia | omega)
theorem fe_all:∀ p ∈ fmtL,FE G p.1 p.2:=by
 refine List.forall_mem_cons.mpr ⟨?_,List.forall_mem_cons.mpr ⟨?_,List.forall_mem_cons.mpr ⟨?_,List.forall_mem_cons.mpr ⟨?_,List.forall_mem_cons.mpr ⟨?_,List.forall_mem_cons.mpr ⟨?_,fun _ h=>nomatch h⟩⟩⟩⟩⟩⟩
 ·intro A E c F H R N m h tk t sv u Q st vr r e hl q
  obtain ⟨y,e1,rfl⟩:=of_map e
  obtain ⟨t',rfl⟩:=sS_ok vr e1
  exact mod_str (fun _=>t_ang (len_l (len_l hl).1).2) (by rfl') (by rfl') fun t' k=>q t' k
 ·intro A E c F H R N m h tk t sv u Q st vr r e hl q
  obtain ⟨y,e1,rfl⟩:=of_map e
  obtain ⟨t',rfl⟩:=sS_ok vr e1
  exact mod_str (fun _=>t_yam (len_l hl).2) (by rfl') (by rfl') fun t' k=>q t' k
 ·intro A E c F H R N m h tk t sv u Q st vr r e hl q
  obtain ⟨y,e1,e⟩:=of_bind e
  obtain ⟨e2,rfl⟩:=of_okd e
  obtain ⟨_,t',rfl⟩:=sN_ok vr e1
  exact mod_int (fun _=>t_hex e2) (by rfl') (by rfl') fun t' k=>q t' k
 ·intro A E c F H R N m h tk t sv u Q st vr r e hl q
  obtain ⟨p,e1,e⟩:=of_bind e
  obtain ⟨x,e2,e⟩:=of_bind e
  obtain ⟨y,e3,rfl⟩:=of_map e
  obtain ⟨a,n,v1,v2,rfl,hm,r1,r2⟩:=tp2_ok vr e1
  obtain ⟨t1,rfl⟩:=sS_ok r1 e2
  obtain ⟨t2,rfl⟩:=sS_ok r2 e3
  exact mod_tup st.nw (in_mid hm) (t_tag (len_l (len_l (len_l hl).1).1).2 (len_l hl).2) (by rfl') (by rfl') fun t' k=>q t' k
 ·intro A E c F H R N m h tk t sv u Q st vr r e hl q
  obtain ⟨p,e1,e⟩:=of_bind e
  obtain ⟨x,e2,e⟩:=of_bind e
  obtain ⟨y,e3,rfl⟩:=of_map e
  obtain ⟨a,n,v1,v2,rfl,hm,r1,r2⟩:=tp2_ok vr e1
  obtain ⟨t1,rfl⟩:=sS_ok r1 e2
  obtain ⟨t2,rfl⟩:=sS_ok r2 e3
  exact mod_tup st.nw (in_mid hm) (t_two (len_l hl).1 (len_l hl).2) (by rfl') (by rfl') fun t' k=>q t' k
 ·intro A E c F H R N m h tk t sv u Q st vr r e hl q
  obtain ⟨p,e1,e⟩:=of_bind e
  obtain ⟨x,e2,e⟩:=of_bind e
  obtain ⟨y,e3,rfl⟩:=of_map e
  obtain ⟨a,n,v1,v2,rfl,hm,r1,r2⟩:=tp2_ok vr e1
  obtain ⟨b1,t1,rfl⟩:=sN_ok r1 e2
  obtain ⟨b2,t2,rfl⟩:=sN_ok r2 e3
  exact mod_tup st.nw (in_mid hm) (t_ver b1 b2) (by rfl') (by rfl') fun t' k=>q t' k
theorem fa_all:∀ p ∈ anyL,FA G p.1 p.2:=by
 refine List.forall_mem_cons.mpr ⟨?_,List.forall_mem_cons.mpr ⟨?_,List.forall_mem_cons.mpr ⟨?_,List.forall_mem_cons.mpr ⟨?_,fun _ h=>nomatch h⟩⟩⟩⟩
 ·intro A E c F H R N m h tk t sv u Q st vr e q
  obtain ⟨z,e⟩:=of_some? e
  obtain ⟨p,e1,e⟩:=of_bind e
  obtain ⟨x,e2,e⟩:=of_bind e
  obtain ⟨y,e3,_⟩:=of_map e
  obtain ⟨a,n,v1,v2,rfl,hm,r1,r2⟩:=tp2_ok vr e1
  obtain ⟨b1,t1,rfl⟩:=sN_ok r1 e2
  obtain ⟨b2,t2,rfl⟩:=sN_ok r2 e3
  obtain ⟨T,tp⟩:=t_bad b1 b2 (u:=t2) (v:=t1)
  exact mod_tup st.nw (in_mid hm) tp (by rfl') (by rfl') fun t' k=>q T t' k
 ·intro A E c F H R N m h tk t sv u Q st vr e q
  obtain ⟨x,e⟩:=of_some? e
  obtain ⟨b1,e⟩:=sO_ok e
  obtain ⟨t1,rfl⟩:=sS_ok vr e
  obtain ⟨T,tp⟩:=t_r1 b1
  exact mod_str (fun u=>tp u) (by rfl') (by rfl') fun t' k=>q _ t' k
 ·intro A E c F H R N m h tk t sv u Q st vr e q
  obtain ⟨z,e⟩:=of_some? e
  obtain ⟨p,e1,e⟩:=of_bind e
  obtain ⟨x,e2,e⟩:=of_bind e
  obtain ⟨y,e3,_⟩:=of_map e
  obtain ⟨a,n,v1,v2,rfl,hm,r1,r2⟩:=tp2_ok vr e1
  obtain ⟨b1,e2⟩:=sO_ok e2
  obtain ⟨b2,e3⟩:=sO_ok e3
  obtain ⟨t1,rfl⟩:=sS_ok r1 e2
  obtain ⟨t2,rfl⟩:=sS_ok r2 e3
  obtain ⟨T,tp⟩:=t_r2 b1 b2 (u:=t2) (v:=t1) (m:=" in the tag handle: ") (d:=37) (by rfl') (by rfl') (by rfl') (by rfl') (by rfl') (by rfl') (by rfl') (by rfl') (by decide +kernel)
  exact mod_tup st.nw (in_mid hm) tp (by rfl') (by rfl') fun t' k=>q T t' k
 ·intro A E c F H R N m h tk t sv u Q st vr e q
  obtain ⟨z,e⟩:=of_some? e
  obtain ⟨p,e1,e⟩:=of_bind e
  obtain ⟨x,e2,e⟩:=of_bind e
  obtain ⟨y,e3,_⟩:=of_map e
  obtain ⟨a,n,v1,v2,rfl,hm,r1,r2⟩:=tp2_ok vr e1
  obtain ⟨b1,e2⟩:=sO_ok e2
  obtain ⟨b2,e3⟩:=sO_ok e3
  obtain ⟨t1,rfl⟩:=sS_ok r1 e2
  obtain ⟨t2,rfl⟩:=sS_ok r2 e3
  obtain ⟨T,tp⟩:=t_r2 b1 b2 (u:=t2) (v:=t1) (m:=" in the anchor: ") (d:=33) (by rfl') (by rfl') (by rfl') (by rfl') (by rfl') (by rfl') (by rfl') (by rfl') (by decide +kernel)
  exact mod_tup st.nw (in_mid hm) tp (by rfl') (by rfl') fun t' k=>q T t' k
theorem fmt_ok {T:Tab} (h1:T.fmt = fmtT) (h2:T.fmtAny = anyT):FmtOK G T:=fun {A E c F H R N m h tk s t sv u Q} st vr=>by
 rw [h1,h2]
 refine ⟨fun r e hl q=>?_,fun e q=>?_⟩
 ·obtain ⟨f,e1,e2⟩:=of_bind e
  exact fe_all _ (lk_mem e1) st vr r e2 hl q
 ·have e:(match lk s anyL with | some f=>f sv | none=>false) = true:=e
  cases q':lk s anyL with
  | none=>rw [q'] at e;cases e
  | some f=>rw [q'] at e;exact fa_all _ (lk_mem q') st vr e q
end
end
open Hd (t)
noncomputable abbrev en (f i:Nat) (nm ql:String) (dV pm:Value) (cd:Addr) (n:Nat) (ks:List Str) (ns:List (Str × Nat)) (dfl:List SV) (dvs:List Value) (dr:List Nat):Ent:=⟨f,t nm,t ql,Hd.fa i,Hd.fb i,Hd.fs i,dV,pm,.ref cd,n,ks,ns,dfl,dvs,dr⟩
noncomputable def e_0:Ent:=en 337 13 "need_more_events" "Emitter.need_more_events" .none Hd.yE 336 1 [] [(t "self",0)] [] [] []
theorem ok_0 (P:Params):EntOK (Hd.kk P) e_0:=⟨⟨by rfl',by rfl'⟩,by rfl',fun _=>.nil,by intro _ ;refine (?_:_ = _);kernel_rfl⟩
noncomputable def e_1:Ent:=en 344 14 "need_events" "Emitter.need_events" .none Hd.yE 343 2 [] [(t "self",0),(t "count",1)] [] [] []
theorem ok_1 (P:Params):EntOK (Hd.kk P) e_1:=⟨⟨by rfl',by rfl'⟩,by rfl',fun _=>.nil,by intro _ _ ;refine (?_:_ = _);kernel_rfl⟩
noncomputable def e_2:Ent:=en 643 56 "write_stream_start" "Emitter.write_stream_start" .none Hd.yE 642 1 [] [(t "self",0)] [] [] []
theorem ok_2 (P:Params):EntOK (Hd.kk P) e_2:=⟨⟨by rfl',by rfl'⟩,by rfl',fun _=>.nil,by intro _ ;refine (?_:_ = _);kernel_rfl⟩
noncomputable def e_3:Ent:=en 381 19 "expect_document_start" "Emitter.expect_document_start" (.ref 374) Hd.yE 380 1 [t "first"] [(t "self",0),(t "first",1)] [.bool false] [.bool false] []
theorem ok_3 (P:Params):EntOK (Hd.kk P) e_3:=⟨⟨by rfl',by rfl'⟩,by rfl',fun _=>(.cons (.bool _) .nil),by intro _ _ ;refine (?_:_ = _);kernel_rfl⟩
noncomputable def e_4:Ent:=en 381 19 "expect_document_start" "Emitter.expect_document_start" (.ref 374) Hd.yE 380 1 [] [(t "self",0),(t "first",1)] [.bool false] [.bool false] []
theorem ok_4 (P:Params):EntOK (Hd.kk P) e_4:=⟨⟨by rfl',by rfl'⟩,by rfl',fun _=>(.cons (.bool _) .nil),by intro _ ;refine (?_:_ = _);kernel_rfl⟩
noncomputable def e_5:Ent:=en 658 58 "write_indicator" "Emitter.write_indicator" (.ref 651) Hd.yE 657 3 [] [(t "self",0),(t "indicator",1),(t "need_whitespace",2),(t "whitespace",3),(t "indention",4)] [.bool false,.bool false] [.bool false,.bool false] []
theorem ok_5 (P:Params):EntOK (Hd.kk P) e_5:=⟨⟨by rfl',by rfl'⟩,by rfl',fun _=>(.cons (.bool _) (.cons (.bool _) .nil)),by intro _ _ _ ;refine (?_:_ = _);kernel_rfl⟩
noncomputable def e_6:Ent:=en 658 58 "write_indicator" "Emitter.write_indicator" (.ref 651) Hd.yE 657 3 [t "whitespace"] [(t "self",0),(t "indicator",1),(t "need_whitespace",2),(t "whitespace",3),(t "indention",5)] [.bool false,.bool false] [.bool false,.bool false] []
theorem ok_6 (P:Params):EntOK (Hd.kk P) e_6:=⟨⟨by rfl',by rfl'⟩,by rfl',fun _=>(.cons (.bool _) (.cons (.bool _) .nil)),by intro _ _ _ _ ;refine (?_:_ = _);kernel_rfl⟩
noncomputable def e_7:Ent:=en 665 59 "write_indent" "Emitter.write_indent" .none Hd.yE 664 1 [] [(t "self",0)] [] [] []
theorem ok_7 (P:Params):EntOK (Hd.kk P) e_7:=⟨⟨by rfl',by rfl'⟩,by rfl',fun _=>.nil,by intro _ ;refine (?_:_ = _);kernel_rfl⟩
noncomputable def e_8:Ent:=en 594 49 "prepare_version" "Emitter.prepare_version" .none Hd.yE 593 2 [] [(t "self",0),(t "version",1)] [] [] []
theorem ok_8 (P:Params):EntOK (Hd.kk P) e_8:=⟨⟨by rfl',by rfl'⟩,by rfl',fun _=>.nil,by intro _ _ ;refine (?_:_ = _);kernel_rfl⟩
noncomputable def e_9:Ent:=en 680 61 "write_version_directive" "Emitter.write_version_directive" .none Hd.yE 679 2 [] [(t "self",0),(t "version_text",1)] [] [] []
theorem ok_9 (P:Params):EntOK (Hd.kk P) e_9:=⟨⟨by rfl',by rfl'⟩,by rfl',fun _=>.nil,by intro _ _ ;refine (?_:_ = _);kernel_rfl⟩
noncomputable def e_10:Ent:=en 650 57 "write_stream_end" "Emitter.write_stream_end" .none Hd.yE 649 1 [] [(t "self",0)] [] [] []
theorem ok_10 (P:Params):EntOK (Hd.kk P) e_10:=⟨⟨by rfl',by rfl'⟩,by rfl',fun _=>.nil,by intro _ ;refine (?_:_ = _);kernel_rfl⟩
noncomputable def e_11:Ent:=en 601 50 "prepare_tag_handle" "Emitter.prepare_tag_handle" .none Hd.yE 600 2 [] [(t "self",0),(t "handle",1)] [] [] []
theorem ok_11 (P:Params):EntOK (Hd.kk P) e_11:=⟨⟨by rfl',by rfl'⟩,by rfl',fun _=>.nil,by intro _ _ ;refine (?_:_ = _);kernel_rfl⟩
noncomputable def e_12:Ent:=en 608 51 "prepare_tag_prefix" "Emitter.prepare_tag_prefix" .none Hd.yE 607 2 [] [(t "self",0),(t "prefix",1)] [] [] [526008]
theorem ok_12 (P:Params):EntOK (Hd.kk P) e_12:=⟨⟨by rfl',by rfl'⟩,by rfl',fun _=>.nil,by intro _ _ ;refine (?_:_ = _);kernel_rfl⟩
noncomputable def e_13:Ent:=en 687 62 "write_tag_directive" "Emitter.write_tag_directive" .none Hd.yE 686 3 [] [(t "self",0),(t "handle_text",1),(t "prefix_text",2)] [] [] []
theorem ok_13 (P:Params):EntOK (Hd.kk P) e_13:=⟨⟨by rfl',by rfl'⟩,by rfl',fun _=>.nil,by intro _ _ _ ;refine (?_:_ = _);kernel_rfl⟩
noncomputable def e_14:Ent:=en 552 43 "check_empty_document" "Emitter.check_empty_document" .none Hd.yE 551 1 [] [(t "self",0)] [] [] []
theorem ok_14 (P:Params):EntOK (Hd.kk P) e_14:=⟨⟨by rfl',by rfl'⟩,by rfl',fun _=>.nil,by intro _ ;refine (?_:_ = _);kernel_rfl⟩
noncomputable def e_15:Ent:=en 636 55 "flush_stream" "Emitter.flush_stream" .none Hd.yE 635 1 [] [(t "self",0)] [] [] []
theorem ok_15 (P:Params):EntOK (Hd.kk P) e_15:=⟨⟨by rfl',by rfl'⟩,by rfl',fun _=>.nil,by intro _ ;refine (?_:_ = _);kernel_rfl⟩
noncomputable def e_16:Ent:=en 403 22 "expect_node" "Emitter.expect_node" (.ref 396) Hd.yE 402 1 [t "root"] [(t "self",0),(t "root",1),(t "sequence",3),(t "mapping",4),(t "simple_key",5)] [.bool false,.bool false,.bool false,.bool false] [.bool false,.bool false,.bool false,.bool false] []
theorem ok_16 (P:Params):EntOK (Hd.kk P) e_16:=⟨⟨by rfl',by rfl'⟩,by rfl',fun _=>(.cons (.bool _) (.cons (.bool _) (.cons (.bool _) (.cons (.bool _) .nil)))),by intro _ _ ;refine (?_:_ = _);kernel_rfl⟩
noncomputable def e_17:Ent:=en 403 22 "expect_node" "Emitter.expect_node" (.ref 396) Hd.yE 402 1 [t "sequence"] [(t "self",0),(t "root",2),(t "sequence",1),(t "mapping",4),(t "simple_key",5)] [.bool false,.bool false,.bool false,.bool false] [.bool false,.bool false,.bool false,.bool false] []
theorem ok_17 (P:Params):EntOK (Hd.kk P) e_17:=⟨⟨by rfl',by rfl'⟩,by rfl',fun _=>(.cons (.bool _) (.cons (.bool _) (.cons (.bool _) (.cons (.bool _) .nil)))),by intro _ _ ;refine (?_:_ = _);kernel_rfl⟩
noncomputable def e_18:Ent:=en 410 23 "expect_alias" "Emitter.expect_alias" .none Hd.yE 409 1 [] [(t "self",0)] [] [] []
theorem ok_18 (P:Params):EntOK (Hd.kk P) e_18:=⟨⟨by rfl',by rfl'⟩,by rfl',fun _=>.nil,by intro _ ;refine (?_:_ = _);kernel_rfl⟩
noncomputable def e_19:Ent:=en 566 45 "process_anchor" "Emitter.process_anchor" .none Hd.yE 565 2 [] [(t "self",0),(t "indicator",1)] [] [] []
theorem ok_19 (P:Params):EntOK (Hd.kk P) e_19:=⟨⟨by rfl',by rfl'⟩,by rfl',fun _=>.nil,by intro _ _ ;refine (?_:_ = _);kernel_rfl⟩
noncomputable def e_20:Ent:=en 573 46 "process_tag" "Emitter.process_tag" .none Hd.yE 572 1 [] [(t "self",0)] [] [] []
theorem ok_20 (P:Params):EntOK (Hd.kk P) e_20:=⟨⟨by rfl',by rfl'⟩,by rfl',fun _=>.nil,by intro _ ;refine (?_:_ = _);kernel_rfl⟩
noncomputable def e_21:Ent:=en 417 24 "expect_scalar" "Emitter.expect_scalar" .none Hd.yE 416 1 [] [(t "self",0)] [] [] []
theorem ok_21 (P:Params):EntOK (Hd.kk P) e_21:=⟨⟨by rfl',by rfl'⟩,by rfl',fun _=>.nil,by intro _ ;refine (?_:_ = _);kernel_rfl⟩
noncomputable def e_22:Ent:=en 424 25 "expect_flow_sequence" "Emitter.expect_flow_sequence" .none Hd.yE 423 1 [] [(t "self",0)] [] [] []
theorem ok_22 (P:Params):EntOK (Hd.kk P) e_22:=⟨⟨by rfl',by rfl'⟩,by rfl',fun _=>.nil,by intro _ ;refine (?_:_ = _);kernel_rfl⟩
noncomputable def e_23:Ent:=en 352 15 "increase_indent" "Emitter.increase_indent" (.ref 345) Hd.yE 351 1 [t "flow"] [(t "self",0),(t "flow",1),(t "indentless",3)] [.bool false,.bool false] [.bool false,.bool false] []
theorem ok_23 (P:Params):EntOK (Hd.kk P) e_23:=⟨⟨by rfl',by rfl'⟩,by rfl',fun _=>(.cons (.bool _) (.cons (.bool _) .nil)),by intro _ _ ;refine (?_:_ = _);kernel_rfl⟩
noncomputable def e_24:Ent:=en 587 48 "process_scalar" "Emitter.process_scalar" .none Hd.yE 586 1 [] [(t "self",0)] [] [] []
theorem ok_24 (P:Params):EntOK (Hd.kk P) e_24:=⟨⟨by rfl',by rfl'⟩,by rfl',fun _=>.nil,by intro _ ;refine (?_:_ = _);kernel_rfl⟩
noncomputable def e_25:Ent:=en 622 53 "prepare_anchor" "Emitter.prepare_anchor" .none Hd.yE 621 2 [] [(t "self",0),(t "anchor",1)] [] [] []
theorem ok_25 (P:Params):EntOK (Hd.kk P) e_25:=⟨⟨by rfl',by rfl'⟩,by rfl',fun _=>.nil,by intro _ _ ;refine (?_:_ = _);kernel_rfl⟩
noncomputable def e_26:Ent:=en 615 52 "prepare_tag" "Emitter.prepare_tag" .none Hd.yE 614 2 [] [(t "self",0),(t "tag",1)] [] [] [557008]
theorem ok_26 (P:Params):EntOK (Hd.kk P) e_26:=⟨⟨by rfl',by rfl'⟩,by rfl',fun _=>.nil,by intro _ _ ;refine (?_:_ = _);kernel_rfl⟩
noncomputable def e_27:Ent:=en 580 47 "choose_scalar_style" "Emitter.choose_scalar_style" .none Hd.yE 579 1 [] [(t "self",0)] [] [] []
theorem ok_27 (P:Params):EntOK (Hd.kk P) e_27:=⟨⟨by rfl',by rfl'⟩,by rfl',fun _=>.nil,by intro _ ;refine (?_:_ = _);kernel_rfl⟩
noncomputable def e_28:Ent:=en 629 54 "analyze_scalar" "Emitter.analyze_scalar" .none Hd.yE 628 2 [] [(t "self",0),(t "scalar",1)] [] [] []
theorem ok_28 (P:Params):EntOK (Hd.kk P) e_28:=⟨⟨by rfl',by rfl'⟩,by rfl',fun _=>.nil,by intro _ _ ;refine (?_:_ = _);kernel_rfl⟩
noncomputable def e_29:Ent:=en 704 64 "write_double_quoted" "Emitter.write_double_quoted" (.ref 697) Hd.yE 703 3 [] [(t "self",0),(t "text",1),(t "split",2)] [.bool true] [.bool true] []
theorem ok_29 (P:Params):EntOK (Hd.kk P) e_29:=⟨⟨by rfl',by rfl'⟩,by rfl',fun _=>(.cons (.bool _) .nil),by intro _ _ _ ;refine (?_:_ = _);kernel_rfl⟩
noncomputable def e_30:Ent:=en 695 63 "write_single_quoted" "Emitter.write_single_quoted" (.ref 688) Hd.yE 694 3 [] [(t "self",0),(t "text",1),(t "split",2)] [.bool true] [.bool true] []
theorem ok_30 (P:Params):EntOK (Hd.kk P) e_30:=⟨⟨by rfl',by rfl'⟩,by rfl',fun _=>(.cons (.bool _) .nil),by intro _ _ _ ;refine (?_:_ = _);kernel_rfl⟩
noncomputable def e_31:Ent:=en 733 68 "write_plain" "Emitter.write_plain" (.ref 726) Hd.yE 732 3 [] [(t "self",0),(t "text",1),(t "split",2)] [.bool true] [.bool true] []
theorem ok_31 (P:Params):EntOK (Hd.kk P) e_31:=⟨⟨by rfl',by rfl'⟩,by rfl',fun _=>(.cons (.bool _) .nil),by intro _ _ _ ;refine (?_:_ = _);kernel_rfl⟩
noncomputable def e_32:Ent:=en 293 9 "__init__" "ScalarAnalysis.__init__" .none Hd.yE 292 1 [t "scalar",t "empty",t "multiline",t "allow_flow_plain",t "allow_block_plain",t "allow_single_quoted",t "allow_double_quoted",t "allow_block"] [(t "self",0),(t "scalar",1),(t "empty",2),(t "multiline",3),(t "allow_flow_plain",4),(t "allow_block_plain",5),(t "allow_single_quoted",6),(t "allow_double_quoted",7),(t "allow_block",8)] [] [] []
theorem ok_32 (P:Params):EntOK (Hd.kk P) e_32:=⟨⟨by rfl',by rfl'⟩,by rfl',fun _=>.nil,by intro _ _ _ _ _ _ _ _ _ ;refine (?_:_ = _);kernel_rfl⟩
noncomputable def e_33:Ent:=en 761 70 "write" "Rows.write" .none Hd.yE 760 2 [] [(t "self",0),(t "data",1)] [] [] []
theorem ok_33 (P:Params):EntOK (Hd.kk P) e_33:=⟨⟨by rfl',by rfl'⟩,by rfl',fun _=>.nil,by intro _ _ ;refine (?_:_ = _);kernel_rfl⟩
noncomputable def e_34:Ent:=en 673 60 "write_line_break" "Emitter.write_line_break" (.ref 666) Hd.yE 672 1 [] [(t "self",0),(t "data",1)] [.none] [.none] []
theorem ok_34 (P:Params):EntOK (Hd.kk P) e_34:=⟨⟨by rfl',by rfl'⟩,by rfl',fun _=>(.cons .none .nil),by intro _ ;refine (?_:_ = _);kernel_rfl⟩
noncomputable def e_35:Ent:=en 673 60 "write_line_break" "Emitter.write_line_break" (.ref 666) Hd.yE 672 2 [] [(t "self",0),(t "data",1)] [.none] [.none] []
theorem ok_35 (P:Params):EntOK (Hd.kk P) e_35:=⟨⟨by rfl',by rfl'⟩,by rfl',fun _=>(.cons .none .nil),by intro _ _ ;refine (?_:_ = _);kernel_rfl⟩
noncomputable def e_36:Ent:=en 803 75 "_law_WRONGS" "_law_WRONGS" .none Hd.yL 802 0 [] [] [] [] []
theorem ok_36 (P:Params):EntOK (Hd.kk P) e_36:=⟨⟨by rfl',by rfl'⟩,by rfl',fun _=>.nil,by refine (?_:_ = _);kernel_rfl⟩
noncomputable def e_37:Ent:=en 796 74 "_law_HANDLES" "_law_HANDLES" .none Hd.yL 795 0 [] [] [] [] []
theorem ok_37 (P:Params):EntOK (Hd.kk P) e_37:=⟨⟨by rfl',by rfl'⟩,by rfl',fun _=>.nil,by refine (?_:_ = _);kernel_rfl⟩
noncomputable def e_38:Ent:=en 810 76 "_law_PREFIXES" "_law_PREFIXES" .none Hd.yL 809 0 [] [] [] [] []
theorem ok_38 (P:Params):EntOK (Hd.kk P) e_38:=⟨⟨by rfl',by rfl'⟩,by rfl',fun _=>.nil,by refine (?_:_ = _);kernel_rfl⟩
noncomputable def e_39:Ent:=en 817 77 "_law_HEADS" "_law_HEADS" .none Hd.yL 816 0 [] [] [] [] []
theorem ok_39 (P:Params):EntOK (Hd.kk P) e_39:=⟨⟨by rfl',by rfl'⟩,by rfl',fun _=>.nil,by refine (?_:_ = _);kernel_rfl⟩
noncomputable def e_40:Ent:=en 782 72 "_law_LET" "_law_LET" .none Hd.yL 781 0 [] [] [] [] []
theorem ok_40 (P:Params):EntOK (Hd.kk P) e_40:=⟨⟨by rfl',by rfl'⟩,by rfl',fun _=>.nil,by refine (?_:_ = _);kernel_rfl⟩
noncomputable def e_41:Ent:=en 865 84 "_law_octets" "_law_octets" .none Hd.yL 864 1 [] [(t "sign",0)] [] [] []
theorem ok_41 (P:Params):EntOK (Hd.kk P) e_41:=⟨⟨by rfl',by rfl'⟩,by rfl',fun _=>.nil,by intro _ ;refine (?_:_ = _);kernel_rfl⟩
noncomputable def e_42:Ent:=en 870 85 "_law_spelt" "_law_spelt" .none Hd.yL 869 2 [] [(t "rest",0),(t "bang",1)] [] [] []
theorem ok_42 (P:Params):EntOK (Hd.kk P) e_42:=⟨⟨by rfl',by rfl'⟩,by rfl',fun _=>.nil,by intro _ _ ;refine (?_:_ = _);kernel_rfl⟩
noncomputable def e_43:Ent:=en 882 87 "_law_named" "_law_named" .none Hd.yL 881 1 [] [(t "text",0)] [] [] []
theorem ok_43 (P:Params):EntOK (Hd.kk P) e_43:=⟨⟨by rfl',by rfl'⟩,by rfl',fun _=>.nil,by intro _ ;refine (?_:_ = _);kernel_rfl⟩
noncomputable def e_44:Ent:=en 877 86 "_law_tag" "_law_tag" .none Hd.yL 876 2 [] [(t "tag",0),(t "table",1)] [] [] []
theorem ok_44 (P:Params):EntOK (Hd.kk P) e_44:=⟨⟨by rfl',by rfl'⟩,by rfl',fun _=>.nil,by intro _ _ ;refine (?_:_ = _);kernel_rfl⟩
noncomputable def e_45:Ent:=en 889 88 "_law_props" "_law_props" .none Hd.yL 888 4 [] [(t "anchor",0),(t "tag",1),(t "shown",2),(t "table",3)] [] [] []
theorem ok_45 (P:Params):EntOK (Hd.kk P) e_45:=⟨⟨by rfl',by rfl'⟩,by rfl',fun _=>.nil,by intro _ _ _ _ ;refine (?_:_ = _);kernel_rfl⟩
noncomputable def e_46:Ent:=en 846 81 "_law_next" "_law_next" .none Hd.yL 845 1 [] [(t "tape",0)] [] [] []
theorem ok_46 (P:Params):EntOK (Hd.kk P) e_46:=⟨⟨by rfl',by rfl'⟩,by rfl',fun _=>.nil,by intro _ ;refine (?_:_ = _);kernel_rfl⟩
noncomputable def e_47:Ent:=en 896 89 "_law_reckon" "_law_reckon" .none Hd.yL 895 3 [] [(t "docs",0),(t "canonical",1),(t "step",2)] [] [] [1059008,1085016]
theorem ok_47 (P:Params):EntOK (Hd.kk P) e_47:=⟨⟨by rfl',by rfl'⟩,by rfl',fun _=>.nil,by intro _ _ _ ;refine (?_:_ = _);kernel_rfl⟩
noncomputable def e_48:Ent:=en 316 10 "__init__" "Emitter.__init__" (.ref 309) Hd.yE 315 2 [t "canonical",t "indent",t "width"] [(t "self",0),(t "stream",1),(t "canonical",2),(t "indent",3),(t "width",4),(t "allow_unicode",8),(t "line_break",9)] [.none,.none,.none,.none,.none] [.none,.none,.none,.none,.none] []
theorem ok_48 (P:Params):EntOK (Hd.kk P) e_48:=⟨⟨by rfl',by rfl'⟩,by rfl',fun _=>(.cons .none (.cons .none (.cons .none (.cons .none (.cons .none .nil))))),by intro _ _ _ _ _ ;refine (?_:_ = _);kernel_rfl⟩
noncomputable def e_49:Ent:=en 130 5 "__init__" "StreamStartEvent.__init__" (.ref 123) Hd.yV 129 1 [] [(t "self",0),(t "start_mark",1),(t "end_mark",2),(t "encoding",3)] [.none,.none,.none] [.none,.none,.none] []
theorem ok_49 (P:Params):EntOK (Hd.kk P) e_49:=⟨⟨by rfl',by rfl'⟩,by rfl',fun _=>(.cons .none (.cons .none (.cons .none .nil))),by intro _ ;refine (?_:_ = _);kernel_rfl⟩
noncomputable def e_50:Ent:=en 49 1 "__init__" "Event.__init__" (.ref 42) Hd.yV 48 1 [] [(t "self",0),(t "start_mark",1),(t "end_mark",2)] [.none,.none] [.none,.none] []
theorem ok_50 (P:Params):EntOK (Hd.kk P) e_50:=⟨⟨by rfl',by rfl'⟩,by rfl',fun _=>(.cons .none (.cons .none .nil)),by intro _ ;refine (?_:_ = _);kernel_rfl⟩
noncomputable def e_51:Ent:=en 754 69 "__init__" "Rows.__init__" .none Hd.yE 753 1 [] [(t "self",0)] [] [] []
theorem ok_51 (P:Params):EntOK (Hd.kk P) e_51:=⟨⟨by rfl',by rfl'⟩,by rfl',fun _=>.nil,by intro _ ;refine (?_:_ = _);kernel_rfl⟩
noncomputable def e_52:Ent:=en 789 73 "_law_VERSIONS" "_law_VERSIONS" .none Hd.yL 788 0 [] [] [] [] []
theorem ok_52 (P:Params):EntOK (Hd.kk P) e_52:=⟨⟨by rfl',by rfl'⟩,by rfl',fun _=>.nil,by refine (?_:_ = _);kernel_rfl⟩
noncomputable def e_53:Ent:=en 853 82 "_law_directive" "_law_directive" .none Hd.yL 852 1 [] [(t "n",0)] [] [] []
theorem ok_53 (P:Params):EntOK (Hd.kk P) e_53:=⟨⟨by rfl',by rfl'⟩,by rfl',fun _=>.nil,by intro _ ;refine (?_:_ = _);kernel_rfl⟩
noncomputable def e_54:Ent:=en 825 78 "_law_ANCHORS" "_law_ANCHORS" .none Hd.yL 824 0 [] [] [] [] []
theorem ok_54 (P:Params):EntOK (Hd.kk P) e_54:=⟨⟨by rfl',by rfl'⟩,by rfl',fun _=>.nil,by refine (?_:_ = _);kernel_rfl⟩
noncomputable def e_55:Ent:=en 162 6 "__init__" "DocumentStartEvent.__init__" (.ref 155) Hd.yV 161 1 [t "explicit",t "version",t "tags"] [(t "self",0),(t "start_mark",4),(t "end_mark",5),(t "explicit",1),(t "version",2),(t "tags",3)] [.none,.none,.none,.none,.none] [.none,.none,.none,.none,.none] []
theorem ok_55 (P:Params):EntOK (Hd.kk P) e_55:=⟨⟨by rfl',by rfl'⟩,by rfl',fun _=>(.cons .none (.cons .none (.cons .none (.cons .none (.cons .none .nil))))),by intro _ _ _ _ ;refine (?_:_ = _);kernel_rfl⟩
noncomputable def e_56:Ent:=en 98 4 "__init__" "CollectionStartEvent.__init__" (.ref 91) Hd.yV 97 4 [t "flow_style"] [(t "self",0),(t "anchor",1),(t "tag",2),(t "implicit",3),(t "start_mark",5),(t "end_mark",6),(t "flow_style",4)] [.none,.none,.none] [.none,.none,.none] []
theorem ok_56 (P:Params):EntOK (Hd.kk P) e_56:=⟨⟨by rfl',by rfl'⟩,by rfl',fun _=>(.cons .none (.cons .none (.cons .none .nil))),by intro _ _ _ _ _ ;refine (?_:_ = _);kernel_rfl⟩
noncomputable def e_57:Ent:=en 182 7 "__init__" "DocumentEndEvent.__init__" (.ref 175) Hd.yV 181 1 [] [(t "self",0),(t "start_mark",1),(t "end_mark",2),(t "explicit",3)] [.none,.none,.none] [.none,.none,.none] []
theorem ok_57 (P:Params):EntOK (Hd.kk P) e_57:=⟨⟨by rfl',by rfl'⟩,by rfl',fun _=>(.cons .none (.cons .none (.cons .none .nil))),by intro _ ;refine (?_:_ = _);kernel_rfl⟩
noncomputable def e_58:Ent:=en 330 12 "emit" "Emitter.emit" .none Hd.yE 329 2 [] [(t "self",0),(t "event",1)] [] [] []
theorem ok_58 (P:Params):EntOK (Hd.kk P) e_58:=⟨⟨by rfl',by rfl'⟩,by rfl',fun _=>.nil,by intro _ _ ;refine (?_:_ = _);kernel_rfl⟩
noncomputable def e_59:Ent:=en 768 71 "text" "Rows.text" .none Hd.yE 767 1 [] [(t "self",0)] [] [] []
theorem ok_59 (P:Params):EntOK (Hd.kk P) e_59:=⟨⟨by rfl',by rfl'⟩,by rfl',fun _=>.nil,by intro _ ;refine (?_:_ = _);kernel_rfl⟩
noncomputable def e_60:Ent:=en 832 79 "_law_PAIRS" "_law_PAIRS" .none Hd.yL 831 0 [] [] [] [] []
theorem ok_60 (P:Params):EntOK (Hd.kk P) e_60:=⟨⟨by rfl',by rfl'⟩,by rfl',fun _=>.nil,by refine (?_:_ = _);kernel_rfl⟩
noncomputable def e_61:Ent:=en 839 80 "_law_WORDS" "_law_WORDS" .none Hd.yL 838 0 [] [] [] [] []
theorem ok_61 (P:Params):EntOK (Hd.kk P) e_61:=⟨⟨by rfl',by rfl'⟩,by rfl',fun _=>.nil,by refine (?_:_ = _);kernel_rfl⟩
noncomputable def e_62:Ent:=en 78 3 "__init__" "NodeEvent.__init__" (.ref 71) Hd.yV 77 2 [] [(t "self",0),(t "anchor",1),(t "start_mark",2),(t "end_mark",3)] [.none,.none] [.none,.none] []
theorem ok_62 (P:Params):EntOK (Hd.kk P) e_62:=⟨⟨by rfl',by rfl'⟩,by rfl',fun _=>(.cons .none (.cons .none .nil)),by intro _ _ ;refine (?_:_ = _);kernel_rfl⟩
noncomputable def e_63:Ent:=en 214 8 "__init__" "ScalarEvent.__init__" (.ref 207) Hd.yV 213 5 [t "style"] [(t "self",0),(t "anchor",1),(t "tag",2),(t "implicit",3),(t "value",4),(t "start_mark",6),(t "end_mark",7),(t "style",5)] [.none,.none,.none] [.none,.none,.none] []
theorem ok_63 (P:Params):EntOK (Hd.kk P) e_63:=⟨⟨by rfl',by rfl'⟩,by rfl',fun _=>(.cons .none (.cons .none (.cons .none .nil))),by intro _ _ _ _ _ _ ;refine (?_:_ = _);kernel_rfl⟩
noncomputable def e_64:Ent:=en 359 16 "expect_stream_start" "Emitter.expect_stream_start" .none Hd.yE 358 1 [] [(t "self",0)] [] [] []
theorem ok_64 (P:Params):EntOK (Hd.kk P) e_64:=⟨⟨by rfl',by rfl'⟩,by rfl',fun _=>.nil,by intro _ ;refine (?_:_ = _);kernel_rfl⟩
noncomputable def e_65:Ent:=en 373 18 "expect_first_document_start" "Emitter.expect_first_document_start" .none Hd.yE 372 1 [] [(t "self",0)] [] [] []
theorem ok_65 (P:Params):EntOK (Hd.kk P) e_65:=⟨⟨by rfl',by rfl'⟩,by rfl',fun _=>.nil,by intro _ ;refine (?_:_ = _);kernel_rfl⟩
noncomputable def e_66:Ent:=en 395 21 "expect_document_root" "Emitter.expect_document_root" .none Hd.yE 394 1 [] [(t "self",0)] [] [] []
theorem ok_66 (P:Params):EntOK (Hd.kk P) e_66:=⟨⟨by rfl',by rfl'⟩,by rfl',fun _=>.nil,by intro _ ;refine (?_:_ = _);kernel_rfl⟩
noncomputable def e_67:Ent:=en 388 20 "expect_document_end" "Emitter.expect_document_end" .none Hd.yE 387 1 [] [(t "self",0)] [] [] []
theorem ok_67 (P:Params):EntOK (Hd.kk P) e_67:=⟨⟨by rfl',by rfl'⟩,by rfl',fun _=>.nil,by intro _ ;refine (?_:_ = _);kernel_rfl⟩
noncomputable def e_68:Ent:=en 431 26 "expect_first_flow_sequence_item" "Emitter.expect_first_flow_sequence_item" .none Hd.yE 430 1 [] [(t "self",0)] [] [] []
theorem ok_68 (P:Params):EntOK (Hd.kk P) e_68:=⟨⟨by rfl',by rfl'⟩,by rfl',fun _=>.nil,by intro _ ;refine (?_:_ = _);kernel_rfl⟩
noncomputable def e_69:Ent:=en 438 27 "expect_flow_sequence_item" "Emitter.expect_flow_sequence_item" .none Hd.yE 437 1 [] [(t "self",0)] [] [] []
theorem ok_69 (P:Params):EntOK (Hd.kk P) e_69:=⟨⟨by rfl',by rfl'⟩,by rfl',fun _=>.nil,by intro _ ;refine (?_:_ = _);kernel_rfl⟩
noncomputable def entL:List Ent:=[e_0,e_1,e_2,e_3,e_4,e_5,e_6,e_7,e_8,e_9,e_10,e_11,e_12,e_13,e_14,e_15,e_16,e_17,e_18,e_19,e_20,e_21,e_22,e_23,e_24,e_25,e_26,e_27,e_28,e_29,e_30,e_31,e_32,e_33,e_34,e_35,e_36,e_37,e_38,e_39,e_40,e_41,e_42,e_43,e_44,e_45,e_46,e_47,e_48,e_49,e_50,e_51,e_52,e_53,e_54,e_55,e_56,e_57,e_58,e_59,e_60,e_61,e_62,e_63,e_64,e_65,e_66,e_67,e_68,e_69]
theorem ent_cons {K:Frag} {e:Ent} {l:List Ent} (h:EntOK K e) (k:∀ x ∈ l,EntOK K x):∀ x ∈ e :: l,EntOK K x:=fun x hx=>by rcases Mc hx with rfl | hx;exact h;exact k x hx
theorem entL_ok (P:Params):∀ e ∈ entL,EntOK (Hd.kk P) e:=(ent_cons (ok_0 P) (ent_cons (ok_1 P) (ent_cons (ok_2 P) (ent_cons (ok_3 P) (ent_cons (ok_4 P) (ent_cons (ok_5 P) (ent_cons (ok_6 P) (ent_cons (ok_7 P) (ent_cons (ok_8 P) (ent_cons (ok_9 P) (ent_cons (ok_10 P) (ent_cons (ok_11 P) (ent_cons (ok_12 P) (ent_cons (ok_13 P) (ent_cons (ok_14 P) (ent_cons (ok_15 P) (ent_cons (ok_16 P) (ent_cons (ok_17 P) (ent_cons (ok_18 P) (ent_cons (ok_19 P) (ent_cons (ok_20 P) (ent_cons (ok_21 P) (ent_cons (ok_22 P) (ent_cons (ok_23 P) (ent_cons (ok_24 P) (ent_cons (ok_25 P) (ent_cons (ok_26 P) (ent_cons (ok_27 P) (ent_cons (ok_28 P) (ent_cons (ok_29 P) (ent_cons (ok_30 P) (ent_cons (ok_31 P) (ent_cons (ok_32 P) (ent_cons (ok_33 P) (ent_cons (ok_34 P) (ent_cons (ok_35 P) (ent_cons (ok_36 P) (ent_cons (ok_37 P) (ent_cons (ok_38 P) (ent_cons (ok_39 P) (ent_cons (ok_40 P) (ent_cons (ok_41 P) (ent_cons (ok_42 P) (ent_cons (ok_43 P) (ent_cons (ok_44 P) (ent_cons (ok_45 P) (ent_cons (ok_46 P) (ent_cons (ok_47 P) (ent_cons (ok_48 P) (ent_cons (ok_49 P) (ent_cons (ok_50 P) (ent_cons (ok_51 P) (ent_cons (ok_52 P) (ent_cons (ok_53 P) (ent_cons (ok_54 P) (ent_cons (ok_55 P) (ent_cons (ok_56 P) (ent_cons (ok_57 P) (ent_cons (ok_58 P) (ent_cons (ok_59 P) (ent_cons (ok_60 P) (ent_cons (ok_61 P) (ent_cons (ok_62 P) (ent_cons (ok_63 P) (ent_cons (ok_64 P) (ent_cons (ok_65 P) (ent_cons (ok_66 P) (ent_cons (ok_67 P) (ent_cons (ok_68 P) (ent_cons (ok_69 P) (fun _ h=>nomatch h)))))))))))))))))))))))))))))))))))))))))))))))))))))))))))))))))))))))
noncomputable def pl (l:List String):List (Str × AK):=l.map fun x=>(t x,.plain)
noncomputable def atE:List (Str × AK):=pl ["stream","encoding","states","state","events","event","indents","indent","flow_level","root_context","sequence_context","mapping_context","simple_key_context","line","column","whitespace","indention","open_ended","canonical","allow_unicode","best_indent","best_width","best_line_break","tag_prefixes","prepared_anchor","prepared_tag","analysis","style"] ++ [(t "emit",.meth 330),(t "need_more_events",.meth 337),(t "need_events",.meth 344),(t "increase_indent",.meth 352),(t "expect_stream_start",.meth 359),(t "expect_nothing",.meth 366),(t "expect_first_document_start",.meth 373),(t "expect_document_start",.meth 381),(t "expect_document_end",.meth 388),(t "expect_document_root",.meth 395),(t "expect_node",.meth 403),(t "expect_alias",.meth 410),(t "expect_scalar",.meth 417),(t "expect_flow_sequence",.meth 424),(t "expect_first_flow_sequence_item",.meth 431),(t "expect_flow_sequence_item",.meth 438),(t "expect_flow_mapping",.meth 445),(t "expect_first_flow_mapping_key",.meth 452),(t "expect_flow_mapping_key",.meth 459),(t "expect_flow_mapping_simple_value",.meth 466),(t "expect_flow_mapping_value",.meth 473),(t "expect_block_sequence",.meth 480),(t "expect_first_block_sequence_item",.meth 487),(t "expect_block_sequence_item",.meth 495),(t "expect_block_mapping",.meth 502),(t "expect_first_block_mapping_key",.meth 509),(t "expect_block_mapping_key",.meth 517),(t "expect_block_mapping_simple_value",.meth 524),(t "expect_block_mapping_value",.meth 531),(t "check_empty_sequence",.meth 538),(t "check_empty_mapping",.meth 545),(t "check_empty_document",.meth 552),(t "check_simple_key",.meth 559),(t "process_anchor",.meth 566),(t "process_tag",.meth 573),(t "choose_scalar_style",.meth 580),(t "process_scalar",.meth 587),(t "prepare_version",.meth 594),(t "prepare_tag_handle",.meth 601),(t "prepare_tag_prefix",.meth 608),(t "prepare_tag",.meth 615),(t "prepare_anchor",.meth 622),(t "analyze_scalar",.meth 629),(t "flush_stream",.meth 636),(t "write_stream_start",.meth 643),(t "write_stream_end",.meth 650),(t "write_indicator",.meth 658),(t "write_indent",.meth 665),(t "write_line_break",.meth 673),(t "write_version_directive",.meth 680),(t "write_tag_directive",.meth 687),(t "write_single_quoted",.meth 695),(t "write_double_quoted",.meth 704),(t "determine_block_hints",.meth 711),(t "write_folded",.meth 718),(t "write_literal",.meth 725),(t "write_plain",.meth 733)] ++ [(t "DEFAULT_TAG_PREFIXES",.const (.fix 308)),(t "ESCAPE_REPLACEMENTS",.const (.fix 696))]
noncomputable def atT:List (Addr × List (Str × AK)):=[(736,atE),(771,pl ["rows"] ++ [(t "write",.meth 761),(t "text",.meth 768)]),(296,pl ["scalar","empty","multiline","allow_flow_plain","allow_block_plain","allow_single_quoted","allow_double_quoted","allow_block"]),(133,pl ["start_mark","end_mark","encoding"]),(145,pl ["start_mark","end_mark"]),(165,pl ["start_mark","end_mark","explicit","version","tags"]),(185,pl ["start_mark","end_mark","explicit"]),(229,pl ["anchor","tag","implicit","start_mark","end_mark","flow_style"]),(241,pl ["start_mark","end_mark"]),(197,pl ["anchor","start_mark","end_mark"]),(217,pl ["anchor","tag","implicit","value","start_mark","end_mark","style"])]
theorem at_ok (P:Params):atT.all (fun p=>p.2.all fun q=>atGood (Hd.kk P) p.1 q.1 q.2) = true:=by rfl'
noncomputable def isT:List (Addr × List (Addr × Bool)):=[(133,[(133,true),(145,false),(241,false),(165,false),(185,false),(229,false),(101,false),(113,false),(253,false),(197,false),(217,false)]),(145,[(133,false),(145,true),(241,false),(165,false),(185,false),(229,false),(101,false),(113,false),(253,false),(197,false),(217,false)]),(165,[(133,false),(145,false),(241,false),(165,true),(185,false),(229,false),(101,false),(113,false),(253,false),(197,false),(217,false)]),(185,[(133,false),(145,false),(241,false),(165,false),(185,true),(229,false),(101,false),(113,false),(253,false),(197,false),(217,false)]),(229,[(133,false),(145,false),(241,false),(165,false),(185,false),(229,true),(101,true),(113,false),(253,false),(197,false),(217,false)]),(241,[(133,false),(145,false),(241,true),(165,false),(185,false),(229,false),(101,false),(113,true),(253,false),(197,false),(217,false)]),(197,[(133,false),(145,false),(241,false),(165,false),(185,false),(229,false),(101,false),(113,false),(253,false),(197,true),(217,false)]),(217,[(133,false),(145,false),(241,false),(165,false),(185,false),(229,false),(101,false),(113,false),(253,false),(197,false),(217,true)])]
theorem is_ok (P:Params):isT.all (fun p=>p.2.all fun q=>isaGood (Hd.kk P) p.1 q.1 q.2) = true:=by rfl'
noncomputable def glT:List (Str × SV):=[(t "_law_NAMES",.str (t "0123456789abcdefghijklmnopqrstuvwxyzABCDEFGHIJKLMNOPQRSTUVWXYZ-_")),(t "_law_HEX",.str (t "0123456789ABCDEF")),(t "_law_SIGNS",.fix 818),(t "_law_LET",.fix 782),(t "_law_VERSIONS",.fix 789),(t "_law_HANDLES",.fix 796),(t "_law_WRONGS",.fix 803),(t "_law_PREFIXES",.fix 810),(t "_law_HEADS",.fix 817),(t "_law_ANCHORS",.fix 825),(t "_law_PAIRS",.fix 832),(t "_law_WORDS",.fix 839),(t "_law_next",.fix 846),(t "_law_directive",.fix 853),(t "_law_drawn_tag",.fix 858),(t "_law_octets",.fix 865),(t "_law_spelt",.fix 870),(t "_law_tag",.fix 877),(t "_law_named",.fix 882),(t "_law_props",.fix 889),(t "_law_reckon",.fix 896),(t "EmitterError",.fix 277),(t "ScalarAnalysis",.fix 296),(t "Emitter",.fix 736),(t "Rows",.fix 771),(t "AliasEvent",.fix 197),(t "CollectionEndEvent",.fix 113),(t "CollectionStartEvent",.fix 101),(t "DocumentEndEvent",.fix 185),(t "DocumentStartEvent",.fix 165),(t "MappingStartEvent",.fix 253),(t "ScalarEvent",.fix 217),(t "SequenceEndEvent",.fix 241),(t "SequenceStartEvent",.fix 229),(t "StreamEndEvent",.fix 145),(t "StreamStartEvent",.fix 133)]
theorem gl_ok (P:Params):glT.all (fun p=>gbGood (Hd.kk P) p.1 p.2) = true:=by rfl'
noncomputable def bfT:List (Str × BF):=[(t "len",.len),(t "isinstance",.isinstance),(t "ord",.ord),(t "str",.str),(t "all",.all)]
theorem bf_ok (P:Params):bfT.all (fun p=>bltGood (Hd.kk P) p.1 (bfVal p.2)) = true:=by rfl'
theorem srt_ok (P:Params):bltGood (Hd.kk P) "sorted" (.builtin "sorted") = true:=by rfl'
theorem rng_ok' (P:Params):bltGood (Hd.kk P) "range" (.type "range") = true:=by rfl'
noncomputable def kpT:List (Addr × Bool):=[(330,true),(337,true),(344,true),(352,true),(359,true),(366,true),(373,true),(381,true),(388,true),(395,true),(403,true),(410,true),(417,true),(424,true),(431,true),(438,true),(445,true),(452,true),(459,true),(466,true),(473,true),(480,true),(487,true),(495,true),(502,true),(509,true),(517,true),(524,true),(531,true),(538,true),(545,true),(552,true),(559,true),(566,true),(573,true),(580,true),(587,true),(594,true),(601,true),(608,true),(615,true),(622,true),(629,true),(636,true),(643,true),(650,true),(658,true),(665,true),(673,true),(680,true),(687,true),(695,true),(704,true),(711,true),(718,true),(725,true),(733,true),(761,true),(768,true),(782,true),(789,true),(796,true),(803,true),(810,true),(817,true),(825,true),(832,true),(839,true),(846,true),(853,true),(858,true),(865,true),(870,true),(877,true),(882,true),(889,true),(896,true),(296,false),(736,false),(771,false),(133,false),(145,false),(165,false),(185,false),(229,false),(241,false),(197,false),(217,false)]
theorem kp_ok (P:Params):kpT.all (fun p=>keepIn (Hd.kk P) (.ref p.1) && (!p.2 || fnIn (Hd.kk P) p.1)) = true:=by rfl'
noncomputable def sgL:List SV:=[.str (t "a"),.str (t "!"),.str (t " "),.str (t "é"),.str (t "Z"),.str (t "%"),.str (t "€"),.str (t "/"),.str (t "["),.str (t "{"),.str (t "😀"),.str (t "'"),.str (t ","),.str (t "<"),.str (t "0"),.str (t "#"),.str (t "~"),.str (t "\\"),.str (t "\n"),.str (t "\x85"),.str (t "^"),.str (t "*"),.str (t "\"")]
theorem sg_ok (P:Params):((Hd.kk P).lookup 818).map (fun o=>match o.data with | .seq a _=>strL sgL a.toList | _=>false) = some true:=by rfl'
noncomputable def baseT:Tab:={ glob:=glT,bfn:=bfT,attr:=atT,fns:=[],kept:=kpT,isa:=isT,klist:=[(818,sgL)],kdict:=[(308,[(t "!",.str (t "!")),(t "tag:yaml.org,2002:",.str (t "!!"))])],exc:=277,frz:=[],fmt:=fmtT,fmtAny:=anyT,comp:=fun _ _ _ _ _ _=>False,wh:=200 }
noncomputable abbrev tpK:List (Str × SV):=[(t "!",.str (t "!")),(t "tag:yaml.org,2002:",.str (t "!!"))]
noncomputable def withT (f:List (Addr × Nat × List Str × Sm)) (c:Expr → Scope → Loc → Hp → QV → XC → Prop) (z:List (Nat × Gh)):Tab:={ baseT with fns:=f,comp:=c,frz:=z }
theorem kd_ok (P:Params):∃ es n,(Hd.kk P).lookup 308 = some (W.dictOf es n) ∧ ∀ p:PP,p.P = P → DR p [] tpK es:=⟨_,_,(by rfl':(Hd.kk P).lookup 308 = some (W.dictOf [⟨PyData.keyHash P (t "!"),.str (t "!") 633,.str (t "!") 634⟩,⟨PyData.keyHash P (t "tag:yaml.org,2002:"),.str (t "tag:yaml.org,2002:") 635,.str (t "!!") 636⟩] 2)),
 fun p e=>e ▸ .cons (.str _ _) (.cons (.str _ _) .nil)⟩
noncomputable def sqL (o:Obj):List Value:=match o.data with | .seq a _=>a.toList | _=>[]
noncomputable def sqN (o:Obj):Nat:=match o.data with | .seq _ n=>n | _=>0
theorem sg_is (P:Params):(Hd.kk P).lookup 818 = some ⟨.type "list",none,.seq (sqL (Hd.o_855)).toArray (sqN (Hd.o_855)),(Hd.o_855).slots⟩ ∧ strL sgL (sqL (Hd.o_855)) = true:=⟨by rfl',by rfl'⟩
theorem tab_ok {G:GC} (hK:G.K = Hd.kk G.w.params) (hE:G.EE = 277) {lv:Nat} {f:List (Addr × Nat × List Str × Sm)} {c:Expr → Scope → Loc → Hp → QV → XC → Prop} {z:List (Nat × Gh)} (hf:∀ p ∈ f,FnOK G lv p.1 p.2.1 p.2.2.1 p.2.2.2) (hc:CompOK G lv (withT f c z)):TabOK G lv (withT f c z) where
 attr:=attr_of (by rw [hK];exact at_ok _)
 kl:=fun a xs e=>by
  have e:(match Nat.beq a 818 with | true=>some sgL | false=>none) = some xs:=e
  cases q:Nat.beq a 818 with
  | false=>rw [q] at e;cases e
  | true =>
   rw [q] at e
   cases e
   rw [Nq q,hK]
   exact ⟨_,_,_,_,(sg_is G.w.params).1,strL_ok (sg_is G.w.params).2⟩
 kd:=fun a kvs e=>by
  have e:(match Nat.beq a 308 with | true=>some tpK | false=>none) = some kvs:=e
  cases q:Nat.beq a 308 with
  | false=>rw [q] at e;cases e
  | true =>
   rw [q] at e
   cases e
   obtain ⟨es,n,h1,h2⟩:=kd_ok G.w.params
   exact ⟨es,n,Nq q ▸ hK ▸ h1,h2 _ rfl,by decide +kernel,Nq q ▸ rfl,by decide⟩
 isa:=isa_of (by rw [hK];exact is_ok _)
 fmt:=fmt_ok rfl rfl
 glob:=glob_of (by rw [hK];exact gl_ok _)
 bfn:=bfn_of (by rw [hK];exact bf_ok _)
 srt:=blt_of (by rw [hK];exact srt_ok _)
 rng:=blt_of (by rw [hK];exact rng_ok' _)
 fns:=fnS_of hf
 kept:=kept_of (by rw [hK];exact kp_ok _)
 comp:=hc
 exc:=hE.symm
 own:=⟨_,_,_,by rw [hK,hE];kernel_rfl,F.excBase_Exception⟩
noncomputable def fS (T:Tab) (f n:Nat) (ks:List Str):Sm:=fun xs H Q X=>opt (fnS f n ks T.fns) fun S=>S xs H Q X
noncomputable abbrev Fns:=List (Addr × Nat × List Str × Sm)
structure CEnt where
 C:Addr
 fI:Addr
 n:Nat
 ks:List Str
noncomputable def CEnt.fn (l:Fns) (c:CEnt):Addr × Nat × List Str × Sm:=(c.C,c.n,c.ks,clsF c.C 9 fun xs H Q X=>opt (fnS c.fI (c.n + 1) c.ks l) fun S=>S xs H Q X)
noncomputable def clsL:List CEnt:=[⟨296,293,0,[t "scalar",t "empty",t "multiline",t "allow_flow_plain",t "allow_block_plain",t "allow_single_quoted",t "allow_double_quoted",t "allow_block"]⟩,
 ⟨133,130,0,[]⟩,⟨145,49,0,[]⟩,⟨165,162,0,[t "explicit",t "version",t "tags"]⟩,⟨185,182,0,[]⟩,⟨229,98,3,[t "flow_style"]⟩,⟨241,49,0,[]⟩,⟨197,78,1,[]⟩,⟨217,214,4,[t "style"]⟩]
noncomputable def rkN:List Str:=[t "docs",t "canonical",t "step",t "text"]
noncomputable def rkD:List Str:=[t "docs",t "canonical",t "step",t "text",t "d",t "explicit",t "version",t "tags",t "anchor",t "tag",t "implicit",t "items",t "table"]
noncomputable def rkI:List Str:=[t "docs",t "canonical",t "step",t "text",t "d",t "items",t "table",t "fine"]
noncomputable def lwN:List Str:=[t "tape",t "h",t "canonical",t "step",t "docs",t "events"]
noncomputable def lwD:List Str:=[t "tape",t "h",t "canonical",t "step",t "docs",t "events",t "d",t "v",t "version",t "tags"]
noncomputable def lwI:List Str:=[t "tape",t "h",t "canonical",t "step",t "docs",t "events",t "d",t "v",t "version",t "tags",t "c",t "anchor",t "tag",t "items"]
noncomputable def frzT:List (Nat × Gh):=[(526,.acc 526008),(557,.acc 557008),(966,.acc 966008),(1115,.frz (t "tags")),(1124,.frz (t "items")),(1111,.frz (t "docs")),(1136,.frz (t "events")),
 (1065,.trim rkD []),(1060,.trim rkD []),(1073,.trim rkI [1041004]),(1099,.trim (rkI ++ [t "i"]) [1041004,1085016]),(1102,.trim rkN [1059008]),(1117,.trim lwD []),(1132,.trim lwI []),(1135,.trim lwN [])]
noncomputable def noC:Expr → Scope → Loc → Hp → QV → XC → Prop:=fun _ _ _ _ _ _=>False
noncomputable def upN (l:Fns):Nat → Fns
 | 0=>l
 | n + 1=>l ++ ((entL.map fun e=>e.fn (withT (upN l n) noC frzT)) ++ clsL.map fun k=>k.fn (upN l n))
noncomputable abbrev eS (l:Fns) (n:Nat) (e:Ent):Sm:=inl (withT (upN l n) noC frzT) e.sc e.bd e.ns e.dfl e.dr
structure Em where
 states:List SV
 state:SV
 events:List SV
 event:SV
 indents:List SV
 indent:SV
 flow:Int
 root:Bool
 seq:Bool
 map:Bool
 simple:Bool
 line:Int
 col:Int
 ws:Bool
 ind:Bool
 oe:Bool
 canon:Bool
 bi:Int
 ta:Addr
 tk:List (Str × SV)
 pan:SV
 ptg:SV
 ana:SV
 sty:SV
 tx:Str
 n:Nat
noncomputable abbrev me:SV:=.obj 0 none
noncomputable abbrev roK:List (Str × SV):=[(t "rows",.obj 5 none)]
noncomputable def emK (s:Em) (tp:SV):List (Str × SV):=[(t "stream",.obj 4 none),(t "encoding",.none),(t "states",.obj 1 none),(t "state",s.state),(t "events",.obj 2 none),(t "event",s.event),(t "indents",.obj 3 none),(t "indent",s.indent),(t "flow_level",.int s.flow),(t "root_context",.bool s.root),(t "sequence_context",.bool s.seq),(t "mapping_context",.bool s.map),(t "simple_key_context",.bool s.simple),(t "line",.int s.line),(t "column",.int s.col),(t "whitespace",.bool s.ws),(t "indention",.bool s.ind),(t "open_ended",.bool s.oe),(t "canonical",.bool s.canon),(t "allow_unicode",.none),(t "best_indent",.int s.bi),(t "best_width",.int 1000),(t "best_line_break",.str (t "\n")),(t "tag_prefixes",tp),(t "prepared_anchor",s.pan),(t "prepared_tag",s.ptg),(t "analysis",s.ana),(t "style",s.sty)]
noncomputable def hp0 (s:Em) (tp:SV):Hp:=[(0,none,.inst 736 (emK s tp)),(1,none,.list s.states),(2,none,.list s.events),(3,none,.list s.indents),(4,none,.inst 771 roK),(5,none,.acc s.tx s.n)]
noncomputable def hp (s:Em):Hp:=(195032,some s.ta,.dict s.tk) :: hp0 s (.obj 195032 (some s.ta))
theorem em_u (s:Em) {ev an pt pa sy:SV} {si ro oe:Bool} {fl:Int} (h1:s.event = ev) (h2:s.ana = an) (h3:s.ptg = pt) (h4:s.pan = pa) (h5:s.sty = sy) (h6:s.simple = si) (h7:s.root = ro) (h8:s.oe = oe) (h9:s.flow = fl):s = { s with event:=ev,ana:=an,ptg:=pt,pan:=pa,sty:=sy,simple:=si,root:=ro,oe:=oe,flow:=fl }:=by subst h1 h2 h3 h4 h5 h6 h7 h8 h9;rfl
theorem em_w {P:Em → Prop} (s:Em) {id:SV} {ws ind:Bool} {col:Int} (h1:s.indent = id) (h2:s.ws = ws) (h3:s.ind = ind) (h4:s.col = col) (h:P { s with indent:=id,ws:=ws,ind:=ind,col:=col }):P s:=by subst h1 h2 h3 h4;exact h
noncomputable def isNum (n:Int):SV → Bool | .int i=>decide (i = n) | _=>false
noncomputable def isTxt (s:Str):SV → Bool | .str i=>sbeq s i | _=>false
noncomputable def isOb (l:Nat):SV → Bool | .obj k a=>(match a with | none=>Nat.beq l k | some _=>false) | _=>false
noncomputable def isOba (l:Nat):SV → Bool | .obj k b=>(match b with | none=>false | some _=>Nat.beq l k) | _=>false
noncomputable def theA:SV → Addr | .obj _ b=>b.getD 0 | _=>0
noncomputable def isBo:SV → Bool | .bool _=>true | _=>false
noncomputable def kT (x:Str) (p:SV → Bool):List (Str × SV) → Option (SV × List (Str × SV))
 | []=>none
 | q :: r=>match and (sbeq x q.1) (p q.2) with | true=>some (q.2,r) | false=>none
theorem kT_ok {x:Str} {p:SV → Bool} {l r:List (Str × SV)} {v:SV} (h:kT x p l = some (v,r)):l = (x,v) :: r ∧ p v = true:=by
 cases l with
 | nil=>cases h
 | cons q l =>
  have h:(match and (sbeq x q.1) (p q.2) with | true=>some (q.2,l) | false=>none) = some (v,r):=h
  cases e:and (sbeq x q.1) (p q.2) with
  | false=>rw [e] at h;cases h
  | true =>
   rw [e] at h;cases h
   obtain ⟨h1,h2⟩:=Ba e
   exact ⟨by rw [of_sbeq h1],h2⟩
noncomputable def theI:SV → Int | .int i=>i | _=>0
noncomputable def theB:SV → Bool | .bool i=>i | _=>false
theorem isOb_ok {l:Nat} {v:SV} (h:isOb l v = true):v = .obj l none:=by
 cases v with
 | obj k a=>cases a with
  | none=>rw [Nq h]
  | some _=>cases h
 | _=>cases h
theorem isOba_ok {l:Nat} {v:SV} (h:isOba l v = true):v = .obj l (some (theA v)):=by
 cases v with
 | obj k b=>cases b with
  | none=>cases h
  | some c=>rw [Nq h];rfl
 | _=>cases h
theorem isNo_is {v:SV} (h:isNo v = true):v = .none:=by cases v <;> first | rfl | cases h
theorem isI_is {v:SV} (h:isI v = true):v = .int (theI v):=by cases v <;> first | rfl | cases h
theorem isBo_is {v:SV} (h:isBo v = true):v = .bool (theB v):=by cases v <;> first | rfl | cases h
theorem isTxt_ok {s:Str} {v:SV} (h:isTxt s v = true):v = .str s:=by
 cases v with
 | str x=>rw [of_sbeq h]
 | _=>cases h
theorem isNum_ok {n:Int} {v:SV} (h:isNum n v = true):v = .int n:=by
 cases v with
 | int x=>rw [of_decide_eq_true h]
 | _=>cases h
noncomputable def nx (x:String) (p:SV → Bool) {α:Type} (l:List (Str × SV)) (k:SV → List (Str × SV) → Option α):Option α:=(kT (Str.ofString x) p l).bind fun q=>k q.1 q.2
theorem nx_ok {x:String} {p:SV → Bool} {α:Type} {l:List (Str × SV)} {k:SV → List (Str × SV) → Option α} {y:α} (h:nx x p l k = some y):∃ v r,l = (Str.ofString x,v) :: r ∧ p v = true ∧ k v r = some y:=by
 obtain ⟨q,e,h⟩:=of_bind h
 obtain ⟨h1,h2⟩:=kT_ok e
 exact ⟨q.1,q.2,h1,h2,h⟩
theorem nx_c {x:String} {p:SV → Bool} {α:Type} {l:List (Str × SV)} {k:SV → List (Str × SV) → Option α} {y:α} {C:Prop} (h:nx x p l k = some y) (g:∀ v r,l = (Str.ofString x,v) :: r → p v = true → k v r = some y → C):C:=let ⟨v,r,a,b,c⟩:=nx_ok h;g v r a b c
theorem inst_eq {c d:Addr} {k l:List (Str × SV)} (h:c = d) (e:k = l):SV.inst c k = .inst d l:=by subst h e;rfl
noncomputable def anyV:SV → Bool:=fun _=>true
noncomputable def emR (ta:Addr) (tk:List (Str × SV)) (st ev ins:List SV) (tx:Str) (nn:Nat) (kvs:List (Str × SV)):Option (SV × Em):=nx "stream" (isOb 4) kvs fun v0 kvs=>nx "encoding" isNo kvs fun v1 kvs=>nx "states" (isOb 1) kvs fun v2 kvs=>nx "state" anyV kvs fun v3 kvs=>nx "events" (isOb 2) kvs fun v4 kvs=>nx "event" anyV kvs fun v5 kvs=>nx "indents" (isOb 3) kvs fun v6 kvs=>nx "indent" anyV kvs fun v7 kvs=>nx "flow_level" isI kvs fun v8 kvs=>nx "root_context" isBo kvs fun v9 kvs=>nx "sequence_context" isBo kvs fun v10 kvs=>nx "mapping_context" isBo kvs fun v11 kvs=>nx "simple_key_context" isBo kvs fun v12 kvs=>nx "line" isI kvs fun v13 kvs=>nx "column" isI kvs fun v14 kvs=>nx "whitespace" isBo kvs fun v15 kvs=>nx "indention" isBo kvs fun v16 kvs=>nx "open_ended" isBo kvs fun v17 kvs=>nx "canonical" isBo kvs fun v18 kvs=>nx "allow_unicode" isNo kvs fun v19 kvs=>nx "best_indent" isI kvs fun v20 kvs=>nx "best_width" (isNum 1000) kvs fun v21 kvs=>nx "best_line_break" (isTxt (Str.ofString "\n")) kvs fun v22 kvs=>nx "tag_prefixes" anyV kvs fun v23 kvs=>nx "prepared_anchor" anyV kvs fun v24 kvs=>nx "prepared_tag" anyV kvs fun v25 kvs=>nx "analysis" anyV kvs fun v26 kvs=>nx "style" anyV kvs fun v27 kvs=>(match kvs with | []=>some (v23,⟨st,v3,ev,v5,ins,v7,(theI v8),(theB v9),(theB v10),(theB v11),(theB v12),(theI v13),(theI v14),(theB v15),(theB v16),(theB v17),(theB v18),(theI v20),ta,tk,v24,v25,v26,v27,tx,nn⟩) | _ :: _=>none)
theorem cstep {x:Str} {v v2:SV} {r r1 c:List (Str × SV)} (e:r = (x,v) :: r1) (hv:v = v2) (ht:r1 = c):r = (x,v2) :: c:=by subst e hv ht;rfl
theorem emR_ok {ta:Addr} {tk:List (Str × SV)} {st ev ins:List SV} {tx:Str} {nn:Nat} {kvs:List (Str × SV)} {s:SV × Em} (h:emR ta tk st ev ins tx nn kvs = some s):kvs = emK s.2 s.1 ∧ s.2.states = st ∧ s.2.events = ev ∧ s.2.indents = ins ∧ s.2.ta = ta ∧ s.2.tk = tk ∧ s.2.tx = tx ∧ s.2.n = nn:=by
 unfold emR at h
 refine nx_c h fun v0 r0 e0 p0 h=>?_
 refine nx_c h fun v1 r1 e1 p1 h=>?_
 refine nx_c h fun v2 r2 e2 p2 h=>?_
 refine nx_c h fun v3 r3 e3 p3 h=>?_
 refine nx_c h fun v4 r4 e4 p4 h=>?_
 refine nx_c h fun v5 r5 e5 p5 h=>?_
 refine nx_c h fun v6 r6 e6 p6 h=>?_
 refine nx_c h fun v7 r7 e7 p7 h=>?_
 refine nx_c h fun v8 r8 e8 p8 h=>?_
 refine nx_c h fun v9 r9 e9 p9 h=>?_
 refine nx_c h fun v10 r10 e10 p10 h=>?_
 refine nx_c h fun v11 r11 e11 p11 h=>?_
 refine nx_c h fun v12 r12 e12 p12 h=>?_
 refine nx_c h fun v13 r13 e13 p13 h=>?_
 refine nx_c h fun v14 r14 e14 p14 h=>?_
 refine nx_c h fun v15 r15 e15 p15 h=>?_
 refine nx_c h fun v16 r16 e16 p16 h=>?_
 refine nx_c h fun v17 r17 e17 p17 h=>?_
 refine nx_c h fun v18 r18 e18 p18 h=>?_
 refine nx_c h fun v19 r19 e19 p19 h=>?_
 refine nx_c h fun v20 r20 e20 p20 h=>?_
 refine nx_c h fun v21 r21 e21 p21 h=>?_
 refine nx_c h fun v22 r22 e22 p22 h=>?_
 refine nx_c h fun v23 r23 e23 p23 h=>?_
 refine nx_c h fun v24 r24 e24 p24 h=>?_
 refine nx_c h fun v25 r25 e25 p25 h=>?_
 refine nx_c h fun v26 r26 e26 p26 h=>?_
 refine nx_c h fun v27 r27 e27 p27 h=>?_
 cases r27 with
 | cons _ _=>cases h
 | nil =>
  cases h
  exact ⟨(cstep e0 (isOb_ok p0) (cstep e1 (isNo_is p1) (cstep e2 (isOb_ok p2) (cstep e3 rfl (cstep e4 (isOb_ok p4) (cstep e5 rfl (cstep e6 (isOb_ok p6) (cstep e7 rfl (cstep e8 (isI_is p8) (cstep e9 (isBo_is p9) (cstep e10 (isBo_is p10) (cstep e11 (isBo_is p11) (cstep e12 (isBo_is p12) (cstep e13 (isI_is p13) (cstep e14 (isI_is p14) (cstep e15 (isBo_is p15) (cstep e16 (isBo_is p16) (cstep e17 (isBo_is p17) (cstep e18 (isBo_is p18) (cstep e19 (isNo_is p19) (cstep e20 (isI_is p20) (cstep e21 (isNum_ok p21) (cstep e22 (isTxt_ok p22) (cstep e23 rfl (cstep e24 rfl (cstep e25 rfl (cstep e26 rfl (cstep e27 rfl rfl)))))))))))))))))))))))))))),rfl,rfl,rfl,rfl,rfl,rfl,rfl⟩
noncomputable def rdH (l:Nat) (H:Hp):Option (MO × Hp):=match H with
 | []=>none
 | q :: H=>(match and (Nat.beq q.1 l) (isN q.2.1) with | true=>some (q.2.2,H) | false=>none)
where isN:Option Addr → Bool | none=>true | some _=>false
noncomputable def asIn (c:Addr) (o:MO):Option (List (Str × SV)):=match o with | .inst d kvs=>(match Nat.beq d c with | true=>some kvs | false=>none) | _=>none
noncomputable def asLs (o:MO):Option (List SV):=match o with | .list l=>some l | _=>none
noncomputable def asAc (o:MO):Option (Str × Nat):=match o with | .acc x n=>some (x,n) | _=>none
theorem rdH_ok {l:Nat} {H:Hp} {p:MO × Hp} (h:rdH l H = some p):H = (l,none,p.1) :: p.2:=by
 cases H with
 | nil=>cases h
 | cons q H =>
  obtain ⟨k,a,o⟩:=q
  have h:(match and (Nat.beq k l) (rdH.isN a) with | true=>some (o,H) | false=>none) = some p:=h
  cases e:and (Nat.beq k l) (rdH.isN a) with
  | false=>rw [e] at h;cases h
  | true =>
   rw [e] at h
   cases h
   obtain ⟨h1,h2⟩:=Ba e
   cases a with
   | some _=>cases h2
   | none=>rw [Nq h1]
theorem asIn_ok {c:Addr} {o:MO} {kvs:List (Str × SV)} (h:asIn c o = some kvs):o = .inst c kvs:=by
 cases o with
 | inst d k =>
  have h:(match Nat.beq d c with | true=>some k | false=>none) = some kvs:=h
  cases e:Nat.beq d c with
  | false=>rw [e] at h;cases h
  | true=>rw [e] at h;cases h;rw [Nq e]
 | _=>cases h
theorem asLs_ok {o:MO} {l:List SV} (h:asLs o = some l):o = .list l:=by cases o with | list k=>cases h;rfl | _=>cases h
theorem asAc_ok {o:MO} {p:Str × Nat} (h:asAc o = some p):o = .acc p.1 p.2:=by cases o with | acc x n=>cases h;rfl | _=>cases h
theorem bind_c {α β:Type} {o:Option α} {f:α → Option β} {y:β} {C:Prop} (h:o.bind f = some y) (g:∀ x,o = some x → f x = some y → C):C:=let ⟨x,a,b⟩:=of_bind h;g x a b
noncomputable def emB (ta:Addr) (tk:List (Str × SV)) (H:Hp):Option (SV × Em):=(rdH 0 H).bind fun a=>(asIn 736 a.1).bind fun kvs=>(rdH 1 a.2).bind fun b=>(asLs b.1).bind fun st=>(rdH 2 b.2).bind fun c=>(asLs c.1).bind fun ev=>(rdH 3 c.2).bind fun d=>(asLs d.1).bind fun ins=>(rdH 4 d.2).bind fun e=>(asIn 771 e.1).bind fun rk=>(rdH 5 e.2).bind fun f=>(asAc f.1).bind fun x=>(match f.2 with
 | []=>nx "rows" (isOb 5) rk fun _ rk=>(match rk with | []=>emR ta tk st ev ins x.1 x.2 kvs | _ :: _=>none)
 | _ :: _=>none)
theorem and3 {a b c:Bool} (h:and a (and b c) = true):a = true ∧ b = true ∧ c = true:=⟨(Ba h).1,Ba (Ba h).2⟩
theorem hstep {l:Nat} {o o2:MO} {H r r2:Hp} (e:H = (l,none,o) :: r) (ho:o = o2) (hr:r = r2):H = (l,none,o2) :: r2:=by subst e ho hr;rfl
theorem emB_ok {ta:Addr} {tk:List (Str × SV)} {H:Hp} {p:SV × Em} (h:emB ta tk H = some p):H = hp0 p.2 p.1 ∧ p.2.ta = ta ∧ p.2.tk = tk:=by
 unfold emB at h
 refine bind_c h fun a ea h=>?_
 refine bind_c h fun kvs ek h=>?_
 refine bind_c h fun b eb h=>?_
 refine bind_c h fun st es h=>?_
 refine bind_c h fun c ec h=>?_
 refine bind_c h fun ev ev' h=>?_
 refine bind_c h fun d ed h=>?_
 refine bind_c h fun ins ei h=>?_
 refine bind_c h fun e ee h=>?_
 refine bind_c h fun rk er h=>?_
 refine bind_c h fun f ef h=>?_
 refine bind_c h fun x ex h=>?_
 revert h
 generalize hf:f.2 = fr
 cases fr with
 | cons _ _=>intro h;cases h
 | nil =>
  intro h
  refine nx_c h fun v r e1 p1 h=>?_
  cases r with
  | cons _ _=>cases h
  | nil =>
   obtain ⟨h1,h2,h3,h4,h5,h6,h7,h8⟩:=emR_ok h
   exact ⟨hstep (rdH_ok ea) ((asIn_ok ek).trans (h1 ▸ rfl)) (hstep (rdH_ok eb) ((asLs_ok es).trans (h2 ▸ rfl)) (hstep (rdH_ok ec) ((asLs_ok ev').trans (h3 ▸ rfl)) (hstep (rdH_ok ed) ((asLs_ok ei).trans (h4 ▸ rfl)) (hstep (rdH_ok ee) ((asIn_ok er).trans (congrArg (MO.inst 771) (cstep e1 (isOb_ok p1) rfl))) (hstep (rdH_ok ef) ((asAc_ok ex).trans (by rw [← h7,← h8])) hf))))),h5,h6⟩
noncomputable def emT (p:SV × Em):Option (Addr × Em):=match isOba 195032 p.1 with | true=>some (theA p.1,p.2) | false=>none
noncomputable def emV (H:Hp):Option (Addr × Em):=match H with
 | []=>none
 | q :: H=>(match q.2.2 with
  | .dict tk=>(match Nat.beq q.1 195032 with | true=>q.2.1.bind fun ta=>(emB ta tk H).bind emT | false=>none)
  | _=>none)
theorem emV_ok {H:Hp} {p:Addr × Em} (h:emV H = some p) (ha:p.1 = p.2.ta):H = hp p.2:=by
 cases H with
 | nil=>cases h
 | cons q H=>obtain ⟨l,a,o⟩:=q;cases o with
  | dict tk =>
   have h:(match Nat.beq l 195032 with | true=>a.bind fun ta=>(emB ta tk H).bind emT | false=>none) = some p:=h
   cases e:Nat.beq l 195032 with
   | false=>rw [e] at h;cases h
   | true =>
    rw [e] at h
    obtain ⟨ta,e1,h⟩:=of_bind h
    obtain ⟨u,e2,h⟩:=of_bind h
    obtain ⟨h1,h2,h3⟩:=emB_ok e2
    have h:(match isOba 195032 u.1 with | true=>some (theA u.1,u.2) | false=>none) = some p:=h
    cases e3:isOba 195032 u.1 with
    | false=>rw [e3] at h;cases h
    | true =>
     rw [e3] at h
     cases h
     have ha:theA u.1 = u.2.ta:=ha
     rw [Nq e,e1,h1,isOba_ok e3,ha,← h2,← h3]
     rfl
  | _=>cases h
noncomputable def emN (H:Hp):Option Em:=(emB 0 [] H).bind fun p=>match isNo p.1 with | true=>some p.2 | false=>none
theorem emN_ok {H:Hp} {s:Em} (h:emN H = some s):H = hp0 s .none:=by
 obtain ⟨p,e,h⟩:=of_bind h
 obtain ⟨h1,_,_⟩:=emB_ok e
 cases e3:isNo p.1 with
 | false=>rw [e3] at h;cases h
 | true=>rw [e3] at h;cases h;rw [h1,isNo_is e3]
noncomputable def sl (l:List String):List Str:=l.map fun x=>t x
noncomputable def ancOk:List Str:=sl ["a","Z-9_","b","x1","0","-","_","k","c","9","r"]
noncomputable def ancL:List Str:=ancOk ++ sl ["","a b","é"]
noncomputable def hanOk:List Str:=sl ["!e!","!f-_9!","!a!","!Z!","!","!!","!0!","!b!"]
noncomputable def hanL:List Str:=hanOk ++ sl ["","e!","!e","!c c!","!é!","e","!e!f!"]
noncomputable def preOk:List Str:=sl ["tag:e.org,2026:","!","tag:yaml.org,2002:","tag:e.org,2026:x/","!lo-"]
noncomputable def preL:List Str:=preOk ++ sl [""]
noncomputable def words:List Str:=sl ["v","two w","","x, y"]
theorem sub_all {P:Str → Prop} {x:Str} {l:List Str} (h:P x) (k:∀ y ∈ l,P y):∀ y ∈ x :: l,P y:=fun y hy=>by rcases Mc hy with rfl | hy;exact h;exact k y hy
theorem nil_all {P:Str → Prop}:∀ y ∈ ([]:List Str),P y:=fun _ h=>nomatch h
theorem has_mem {x:Str} {l:List Str} (h:hasStr x l = true):x ∈ l:=by
 rw [hasStr_eq,List.any_eq_true] at h
 obtain ⟨y,hy,e⟩:=h
 exact eq_of_beq e ▸ hy
noncomputable def chk (all ok:List Str):Sm:=fun xs H Q X=>two2 xs fun _ v=>asS v fun a=>iff_ (hasStr a all) (brn (hasStr a ok) (Q (.str a) H) (X H))
noncomputable def Chk (S:Sm) (ok:List Str) (a:Str):Prop:=∀ self H Q X,brn (hasStr a ok) (Q (.str a) H) (X H) → S [self,.str a] H Q X
theorem chk_weak {S:Sm} {all ok:List Str} (h:∀ a ∈ all,Chk S ok a):allN 2 fun vs=>allN 0 fun ws=>∀ H Q X,chk all ok (vs ++ ws) H Q X → S (vs ++ ws) H Q X:=fun self v H Q X t=>by
 have t:asS v fun a=>iff_ (hasStr a all) (brn (hasStr a ok) (Q (.str a) H) (X H)):=t
 cases v with
 | str a =>
  obtain ⟨h1,t⟩:=of_iff t
  exact h a (has_mem h1) self H Q X t
 | _=>exact (t:False).elim
theorem chk_ok {S:Sm} {ok:List Str} {a:Str} (e:hasStr a ok = true) (h:∀ self H Q X,S [self,.str a] H Q X = Q (.str a) H):Chk S ok a:=fun self H Q X t=>Eq.mpr (h self H Q X) (brn.tt t e)
theorem chk_x {S:Sm} {ok:List Str} {a:Str} (e:hasStr a ok = false) (h:∀ self H Q X,S [self,.str a] H Q X = X H):Chk S ok a:=fun self H Q X t=>Eq.mpr (h self H Q X) (brn.ff t e)
theorem chk_r {S:Sm} {ok:List Str} {a:Str} (e:hasStr a ok = false) (h:∀ self H Q X,S [self,.str a] H Q X = ∀ _:Str,X H):Chk S ok a:=fun self H Q X t=>Eq.mpr (h self H Q X) fun _=>brn.ff t e
theorem pa_all:∀ a ∈ ancL,Chk (eS [] 0 e_25) ancOk a :=
 sub_all (chk_ok (by rfl') fun _ _ _ _=>by rfl') <| sub_all (chk_ok (by rfl') fun _ _ _ _=>by rfl') <| sub_all (chk_ok (by rfl') fun _ _ _ _=>by rfl') <|
 sub_all (chk_ok (by rfl') fun _ _ _ _=>by rfl') <| sub_all (chk_ok (by rfl') fun _ _ _ _=>by rfl') <| sub_all (chk_ok (by rfl') fun _ _ _ _=>by rfl') <|
 sub_all (chk_ok (by rfl') fun _ _ _ _=>by rfl') <| sub_all (chk_ok (by rfl') fun _ _ _ _=>by rfl') <| sub_all (chk_ok (by rfl') fun _ _ _ _=>by rfl') <|
 sub_all (chk_ok (by rfl') fun _ _ _ _=>by rfl') <| sub_all (chk_ok (by rfl') fun _ _ _ _=>by rfl') <|
 sub_all (chk_x (by rfl') fun _ _ _ _=>by rfl') <| sub_all (chk_r (by rfl') fun _ _ _ _=>by rfl') <| sub_all (chk_r (by rfl') fun _ _ _ _=>by rfl') nil_all
theorem ha_all:∀ a ∈ hanL,Chk (eS [] 0 e_11) hanOk a :=
 sub_all (chk_ok (by rfl') fun _ _ _ _=>by rfl') <| sub_all (chk_ok (by rfl') fun _ _ _ _=>by rfl') <| sub_all (chk_ok (by rfl') fun _ _ _ _=>by rfl') <|
 sub_all (chk_ok (by rfl') fun _ _ _ _=>by rfl') <| sub_all (chk_ok (by rfl') fun _ _ _ _=>by rfl') <| sub_all (chk_ok (by rfl') fun _ _ _ _=>by rfl') <|
 sub_all (chk_ok (by rfl') fun _ _ _ _=>by rfl') <| sub_all (chk_ok (by rfl') fun _ _ _ _=>by rfl') <|
 sub_all (chk_x (by rfl') fun _ _ _ _=>by rfl') <| sub_all (chk_r (by rfl') fun _ _ _ _=>by rfl') <| sub_all (chk_r (by rfl') fun _ _ _ _=>by rfl') <|
 sub_all (chk_r (by rfl') fun _ _ _ _=>by rfl') <| sub_all (chk_r (by rfl') fun _ _ _ _=>by rfl') <| sub_all (chk_r (by rfl') fun _ _ _ _=>by rfl') <|
 sub_all (chk_r (by rfl') fun _ _ _ _=>by rfl') nil_all
noncomputable def meV (v:SV) (H:Hp) (k:Em → Prop):Prop:=iff_ (isOb 0 v) (opt (emV H) fun p=>p.1 = p.2.ta ∧ k p.2)
theorem of_me {v:SV} {H:Hp} {k:Em → Prop} (h:meV v H k):∃ s,v = me ∧ H = hp s ∧ k s:=by
 obtain ⟨h1,h⟩:=of_iff h
 obtain ⟨s,h2,h3,h⟩:=of_opt h
 exact ⟨s.2,isOb_ok h1,emV_ok h2 h3,h⟩
theorem me_el {v:SV} {H:Hp} {k:Em → Prop} {P:SV → Hp → Prop} (h:meV v H k) (f:∀ s,k s → P me (hp s)):P v H:=by
 obtain ⟨s,rfl,rfl,k⟩:=of_me h
 exact f s k
noncomputable def prS:Sm:=fun xs H Q X=>two2 xs fun v0 v1=>asS v1 fun a=>meV v0 H fun s=>iff_ (hasStr a preL) (brn (hasStr a preOk) (Q (.str a) (hp s)) (X (hp s)))
noncomputable def PrP (a:Str):Prop:=∀ s Q X,brn (hasStr a preOk) (Q (.str a) (hp s)) (X (hp s)) → eS [] 0 e_12 [me,.str a] (hp s) Q X
theorem pr_ok {a:Str} (e:hasStr a preOk = true) (h:∀ s Q X,eS [] 0 e_12 [me,.str a] (hp s) Q X = ∀ b:Addr,b = b ∧ b = b ∧ 0 ≤ 1000000 ∧ b = b ∧ Q (.str a) (hp s)):PrP a:=fun s Q X t=>Eq.mpr (h s Q X) fun _=>⟨rfl,rfl,Nat.zero_le _,rfl,t.tt e⟩
theorem pr_all:∀ a ∈ preL,PrP a :=
 sub_all (x:=t "tag:e.org,2026:") (@pr_ok (t "tag:e.org,2026:") (by rfl') fun _ _ _=>by rfl') <| sub_all (x:=t "!") (@pr_ok (t "!") (by rfl') fun _ _ _=>by rfl') <| sub_all (x:=t "tag:yaml.org,2002:") (@pr_ok (t "tag:yaml.org,2002:") (by rfl') fun _ _ _=>by rfl') <| sub_all (x:=t "tag:e.org,2026:x/") (@pr_ok (t "tag:e.org,2026:x/") (by rfl') fun _ _ _=>by rfl') <| sub_all (x:=t "!lo-") (@pr_ok (t "!lo-") (by rfl') fun _ _ _=>by rfl') <|
 sub_all (x:=t "") (fun s Q X h=>Eq.mpr (by rfl') (brn.ff (c:=hasStr (t "") preOk) (a:=Q (.str (t "")) (hp s)) (b:=X (hp s)) h (by rfl'))) nil_all
noncomputable def saK (w:Str):List (Str × SV):=[(t "scalar",.str w),(t "empty",.bool (sbeq w (t ""))),(t "multiline",.bool false),(t "allow_flow_plain",.bool (or (sbeq w (t "v")) (sbeq w (t "two w")))),(t "allow_block_plain",.bool true),(t "allow_single_quoted",.bool true),(t "allow_double_quoted",.bool true),(t "allow_block",.bool (!(sbeq w (t ""))))]
noncomputable def saS:Sm:=fun xs H Q _=>two2 xs fun v0 v1=>asS v1 fun w=>meV v0 H fun s=>iff_ (hasStr w words) (Q (.inst 296 (saK w)) (hp s))
noncomputable def SaP (w:Str):Prop:=∀ s Q X,Q (.inst 296 (saK w)) (hp s) → eS [] 2 e_28 [me,.str w] (hp s) Q X
theorem sa_ok {w:Str} (h:∀ s Q X,eS [] 2 e_28 [me,.str w] (hp s) Q X = ∀ b:Addr,b = b ∧ b = b ∧ b = b ∧ b = b ∧ b = b ∧ b = b ∧ b = b ∧ b = b ∧ b = b ∧ Q (.inst 296 (saK w)) (hp s)):SaP w:=fun s Q X t=>Eq.mpr (h s Q X) fun _=>⟨rfl,rfl,rfl,rfl,rfl,rfl,rfl,rfl,rfl,t⟩
theorem sa_all:∀ w ∈ words,SaP w:=sub_all (x:=t "v") (@sa_ok (t "v") fun _ _ _=>by rfl') <| sub_all (x:=t "two w") (@sa_ok (t "two w") fun _ _ _=>by rfl') <| sub_all (x:=t "") (@sa_ok (t "") fun _ _ _=>by rfl') <| sub_all (x:=t "x, y") (@sa_ok (t "x, y") fun _ _ _=>by rfl') nil_all
noncomputable def sp (b:Bool) (i:Str):Str:=match b with | true=>i | false=>Str.ofString " " ++ i
noncomputable def wInd (s:Em) (i:Str) (nw ws idn:Bool):Em:={ s with tx:=s.tx ++ sp (or (!nw) s.ws) i,col:=s.col + (sp (or (!nw) s.ws) i).length,ws:=ws,ind:=and idn s.ind,oe:=false,n:=s.n + 1 }
noncomputable def wi3:Sm:=fun xs H Q _=>(match xs with | []=>False | v0 :: r=>two2 r fun v1 v2=>asS v1 fun i=>asB v2 fun nw=>meV v0 H fun s=>s.n ≤ 1000000 ∧ bnd 100000 i.length (Q .none (hp (wInd s i nw false false))))
noncomputable def wi4:Sm:=fun xs H Q _=>(match xs with | []=>False | v0 :: r=>(match r with | []=>False | v1 :: r=>two2 r fun v2 v3=>asS v1 fun i=>asB v2 fun nw=>asB v3 fun ws=>meV v0 H fun s=>s.n ≤ 1000000 ∧ bnd 100000 i.length (Q .none (hp (wInd s i nw ws false)))))
noncomputable def wNl (s:Em):Em:={ s with line:=s.line + 1,col:=0,ws:=true,ind:=true,tx:=s.tx ++ t "\n",n:=s.n + 1 }
noncomputable def wNi (s:Em) (i:Int):Em:={ s with line:=s.line + 1,col:=i,ws:=true,ind:=true,tx:=(s.tx ++ t "\n") ++ Txt.mul (t " ") i,n:=s.n + 1 + 1 }
noncomputable def isNoP (v:SV) (k:Prop):Prop:=match v with | .none=>k | _=>False
noncomputable def wnP (s:Em) (Q:QV):Prop:=iff_ (isNo s.sty) (match s.ind with
 | false=>(match s.indent with
  | .none=>s.n ≤ 1000000 ∧ Q .none (hp (wNl s))
  | .int i=>iff_ s.canon ((2 ≤ i ∧ i ≤ 9 ∧ s.n + 1 ≤ 1000000) ∧ Q .none (hp (wNi s i)))
  | _=>False)
 | true=>iff_ (and s.ws (decide (s.col = 0))) (isNoP s.indent (Q .none (hp s))))
noncomputable def wnS:Sm:=fun xs H Q _=>one1 xs fun v0=>meV v0 H fun s=>wnP s Q
theorem viaR {α β:Prop} (a:α) (h:β = α):β:=h.mpr a
theorem sz_le {n:Nat} (h:n ≤ 100001):n ≤ sizeLine:=Nl h (by decide)
theorem len_sp (i:Str):(Str.ofString " " ++ i).length = 1 + i.length:=La ..
theorem sz1 {i:Str} (h:i.length ≤ 100000):1 + i.length ≤ sizeLine:=sz_le (Nat.add_comm 1 i.length ▸ Nat.succ_le_succ h)
theorem wi_el {P:Bool → Bool → Em → Prop} (h:∀ s:Em,P true true { s with ws:=true,ind:=true } ∧ P true false { s with ws:=true,ind:=false } ∧ P false true { s with ws:=false,ind:=true } ∧ P false false { s with ws:=false,ind:=false }) (s:Em):P s.ws s.ind s:=by
 have k:=h s
 cases e1:s.ws <;> cases e2:s.ind
 ·exact em_w (P:=fun s=>P false false s) s rfl e1 e2 rfl k.2.2.2
 ·exact em_w (P:=fun s=>P false true s) s rfl e1 e2 rfl k.2.2.1
 ·exact em_w (P:=fun s=>P true false s) s rfl e1 e2 rfl k.2.1
 ·exact em_w (P:=fun s=>P true true s) s rfl e1 e2 rfl k.1
theorem wi3_ok:allN 3 fun vs=>allN 0 fun ws=>∀ H Q X,wi3 (vs ++ ws) H Q X → eS [] 2 e_5 (vs ++ ws) H Q X:=fun v0 v1 v2 H Q X h=>by
 have h:asS v1 fun i=>asB v2 fun nw=>meV v0 H fun s=>s.n ≤ 1000000 ∧ bnd 100000 i.length (Q .none (hp (wInd s i nw false false))):=h
 cases v1 with
 | str i=>cases v2 with
  | bool nw =>
   refine me_el (k:=fun s=>s.n ≤ 1000000 ∧ bnd 100000 i.length (Q .none (hp (wInd s i nw false false)))) (P:=fun v H=>eS [] 2 e_5 [v,.str i,.bool nw] H Q X) h fun s h=>?_
   obtain ⟨hn,h⟩:=h
   obtain ⟨hi,h⟩:=of_bnd h (by decide)
   have h1:i.length ≤ sizeLine:=sz_le (Nat.le_succ_of_le hi)
   have h2:(Str.ofString " ").length + i.length ≤ sizeLine:=sz1 hi
   have h3:(Str.ofString " " ++ i).length ≤ sizeLine:=len_sp i ▸ sz1 hi
   clear hi
   cases nw with
   | false=>exact wi_el (P:=fun _ _ s=>s.n ≤ 1000000 → Q .none (hp (wInd s i false false false)) → eS [] 2 e_5 [me,.str i,.bool false] (hp s) Q X) (fun s=>⟨fun hn h=>viaR (bnd_of h1 (And.intro hn h)) (by rfl'),fun hn h=>viaR (bnd_of h1 (And.intro hn h)) (by rfl'),fun hn h=>viaR (bnd_of h1 (And.intro hn h)) (by rfl'),fun hn h=>viaR (bnd_of h1 (And.intro hn h)) (by rfl')⟩) s hn h
   | true=>exact wi_el (P:=fun _ _ s=>s.n ≤ 1000000 → Q .none (hp (wInd s i true false false)) → eS [] 2 e_5 [me,.str i,.bool true] (hp s) Q X) (fun s=>⟨fun hn h=>viaR (bnd_of h1 (And.intro hn h)) (by rfl'),fun hn h=>viaR (bnd_of h1 (And.intro hn h)) (by rfl'),fun hn h=>viaR (bnd_of h2 (bnd_of h3 (And.intro hn h))) (by rfl'),fun hn h=>viaR (bnd_of h2 (bnd_of h3 (And.intro hn h))) (by rfl')⟩) s hn h
  | _=>exact h.elim
 | _=>exact h.elim
theorem wi4_ok:allN 3 fun vs=>allN 1 fun ws=>∀ H Q X,wi4 (vs ++ ws) H Q X → eS [] 2 e_6 (vs ++ ws) H Q X:=fun v0 v1 v2 v3 H Q X h=>by
 have h:asS v1 fun i=>asB v2 fun nw=>asB v3 fun ws=>meV v0 H fun s=>s.n ≤ 1000000 ∧ bnd 100000 i.length (Q .none (hp (wInd s i nw ws false))):=h
 cases v1 with
 | str i=>cases v2 with
  | bool nw=>cases v3 with
   | bool w2 =>
    refine me_el (k:=fun s=>s.n ≤ 1000000 ∧ bnd 100000 i.length (Q .none (hp (wInd s i nw w2 false)))) (P:=fun v H=>eS [] 2 e_6 [v,.str i,.bool nw,.bool w2] H Q X) h fun s h=>?_
    obtain ⟨hn,h⟩:=h
    obtain ⟨hi,h⟩:=of_bnd h (by decide)
    have h1:i.length ≤ sizeLine:=sz_le (Nat.le_succ_of_le hi)
    have h2:(Str.ofString " ").length + i.length ≤ sizeLine:=sz1 hi
    have h3:(Str.ofString " " ++ i).length ≤ sizeLine:=len_sp i ▸ sz1 hi
    clear hi
    cases nw with
    | false=>exact wi_el (P:=fun _ _ s=>s.n ≤ 1000000 → Q .none (hp (wInd s i false w2 false)) → eS [] 2 e_6 [me,.str i,.bool false,.bool w2] (hp s) Q X) (fun s=>⟨fun hn h=>viaR (bnd_of h1 (And.intro hn h)) (by rfl'),fun hn h=>viaR (bnd_of h1 (And.intro hn h)) (by rfl'),fun hn h=>viaR (bnd_of h1 (And.intro hn h)) (by rfl'),fun hn h=>viaR (bnd_of h1 (And.intro hn h)) (by rfl')⟩) s hn h
    | true=>exact wi_el (P:=fun _ _ s=>s.n ≤ 1000000 → Q .none (hp (wInd s i true w2 false)) → eS [] 2 e_6 [me,.str i,.bool true,.bool w2] (hp s) Q X) (fun s=>⟨fun hn h=>viaR (bnd_of h1 (And.intro hn h)) (by rfl'),fun hn h=>viaR (bnd_of h1 (And.intro hn h)) (by rfl'),fun hn h=>viaR (bnd_of h2 (bnd_of h3 (And.intro hn h))) (by rfl'),fun hn h=>viaR (bnd_of h2 (bnd_of h3 (And.intro hn h))) (by rfl')⟩) s hn h
   | _=>exact h.elim
  | _=>exact h.elim
 | _=>exact h.elim
theorem i_29 {i:Int} (h1:2 ≤ i) (h2:i ≤ 9):i = 2 ∨ i = 3 ∨ i = 4 ∨ i = 5 ∨ i = 6 ∨ i = 7 ∨ i = 8 ∨ i = 9:=by (first | lia | omega)
theorem i_all {P:Int → Prop} {i:Int} (h1:2 ≤ i) (h2:i ≤ 9) (a:P 2) (b:P 3) (c:P 4) (d:P 5) (e:P 6) (f:P 7) (g:P 8) (h:P 9):P i:=by
 rcases i_29 h1 h2 with rfl | rfl | rfl | rfl | rfl | rfl | rfl | rfl <;> assumption
theorem mulOk_b {i:Int} (h1:2 ≤ i) (h2:i ≤ 9):MulOk (Str.ofString " ") i :=
 i_all (P:=MulOk (Str.ofString " ")) h1 h2 ⟨by decide,fun _ _=>by decide,fun _ _=>by decide⟩ ⟨by decide,fun _ _=>by decide,fun _ _=>by decide⟩ ⟨by decide,fun _ _=>by decide,fun _ _=>by decide⟩ ⟨by decide,fun _ _=>by decide,fun _ _=>by decide⟩ ⟨by decide,fun _ _=>by decide,fun _ _=>by decide⟩ ⟨by decide,fun _ _=>by decide,fun _ _=>by decide⟩ ⟨by decide,fun _ _=>by decide,fun _ _=>by decide⟩ ⟨by decide,fun _ _=>by decide,fun _ _=>by decide⟩
theorem wn_i (s:Em) (hi:s.ind = false) (i:Int) (e:s.indent = .int i) (h1:2 ≤ i) (h2:i ≤ 9) (hn:s.n + 1 ≤ 1000000) {Q:QV} {X:XC} (h:Q .none (hp (wNi s i))):eS [] 2 e_7 [me] (hp s) Q X:=by
 refine em_w (P:=fun s=>s.n + 1 ≤ 1000000 → Q .none (hp (wNi s i)) → eS [] 2 e_7 [me] (hp s) Q X) s e rfl hi rfl ?_ hn h
 intro hn h
 have hn0:s.n ≤ 1000000:=Nat.le_of_succ_le hn
 exact i_all (P:=fun i=>MulOk (Str.ofString " ") i → Q .none (hp (wNi { s with indent:=.int i,ws:=s.ws,ind:=false,col:=s.col } i)) → eS [] 2 e_7 [me] (hp { s with indent:=.int i,ws:=s.ws,ind:=false,col:=s.col }) Q X) h1 h2
  (fun hm h=>viaR (And.intro hn0 (And.intro hm (And.intro hn h))) (by rfl')) (fun hm h=>viaR (And.intro hn0 (And.intro hm (And.intro hn h))) (by rfl')) (fun hm h=>viaR (And.intro hn0 (And.intro hm (And.intro hn h))) (by rfl')) (fun hm h=>viaR (And.intro hn0 (And.intro hm (And.intro hn h))) (by rfl'))
  (fun hm h=>viaR (And.intro hn0 (And.intro hm (And.intro hn h))) (by rfl')) (fun hm h=>viaR (And.intro hn0 (And.intro hm (And.intro hn h))) (by rfl')) (fun hm h=>viaR (And.intro hn0 (And.intro hm (And.intro hn h))) (by rfl')) (fun hm h=>viaR (And.intro hn0 (And.intro hm (And.intro hn h))) (by rfl')) (mulOk_b h1 h2) h
theorem wn_ok:allN 1 fun vs=>allN 0 fun ws=>∀ H Q X,wnS (vs ++ ws) H Q X → eS [] 2 e_7 (vs ++ ws) H Q X:=fun v0 H Q X h=>by
 refine me_el (k:=fun s=>wnP s Q) (P:=fun v H=>eS [] 2 e_7 [v] H Q X) h fun s h=>?_
 have h0:=h
 unfold wnP at h
 obtain ⟨_,h⟩:=of_iff h
 cases hi:s.ind with
 | false =>
  rw [hi] at h
  cases e:s.indent with
  | none =>
   rw [e] at h
   exact em_w (P:=fun s=>s.n ≤ 1000000 ∧ Q .none (hp (wNl s)) → eS [] 2 e_7 [me] (hp s) Q X) s e rfl hi rfl (fun h=>viaR h (by rfl')) h
  | int i =>
   rw [e] at h
   obtain ⟨_,⟨h1,h2,hn⟩,h⟩:=of_iff (c:=s.canon) h
   exact wn_i s hi i e h1 h2 hn h
  | _=>rw [e] at h;exact h.elim
 | true =>
  rw [hi] at h
  obtain ⟨h1,h⟩:=of_iff (c:=and s.ws (decide (s.col = 0))) h
  obtain ⟨h2,h3⟩:=Ba h1
  cases e:s.indent with
  | none=>exact em_w (P:=fun s=>wnP s Q → eS [] 2 e_7 [me] (hp s) Q X) s e h2 hi (of_decide_eq_true h3) (fun h=>viaR (show Q .none _ from (of_iff (of_iff h).2).2) (by rfl')) h0
  | _=>rw [e] at h;exact h.elim
inductive Ev where
 | sc (a g:SV) (b1 b2:Bool) (w:Str) (y:SV)
 | sq (a g:SV) (im:Bool)
 | al (a:SV)
noncomputable def evK:Ev → SV
 | .sc a g b1 b2 w y=>.inst 217 [(t "anchor",a),(t "tag",g),(t "implicit",.tup [.bool b1,.bool b2]),(t "value",.str w),(t "start_mark",.none),(t "end_mark",.none),(t "style",y)]
 | .sq a g im=>.inst 229 [(t "anchor",a),(t "tag",g),(t "implicit",.bool im),(t "start_mark",.none),(t "end_mark",.none),(t "flow_style",.bool true)]
 | .al a=>.inst 197 [(t "anchor",a),(t "start_mark",.none),(t "end_mark",.none)]
noncomputable def isB2:SV → Bool | .tup xs=>(match xs with | []=>false | a :: r=>(match r with | []=>false | b :: q=>and (nil? q) (and (isBo a) (isBo b)))) | _=>false
noncomputable def theB2 (i:Nat):SV → Bool | .tup xs=>(match nthL i xs with | some v=>theB v | none=>false) | _=>false
noncomputable def theS:SV → Str | .str s=>s | _=>Str.empty
noncomputable def isTr:SV → Bool | .bool b=>b | _=>false
noncomputable def evV (v:SV):Option Ev:=match v with
 | .inst c kvs=>(match Nat.beq c 217 with
  | true=>nx "anchor" anyV kvs fun a kvs=>nx "tag" anyV kvs fun g kvs=>nx "implicit" isB2 kvs fun b kvs=>nx "value" isS kvs fun w kvs=>nx "start_mark" isNo kvs fun _ kvs=>nx "end_mark" isNo kvs fun _ kvs=>nx "style" anyV kvs fun y kvs=>(match kvs with | []=>some (.sc a g (theB2 0 b) (theB2 1 b) (theS w) y) | _ :: _=>none)
  | false=>(match Nat.beq c 229 with
   | true=>nx "anchor" anyV kvs fun a kvs=>nx "tag" anyV kvs fun g kvs=>nx "implicit" isBo kvs fun b kvs=>nx "start_mark" isNo kvs fun _ kvs=>nx "end_mark" isNo kvs fun _ kvs=>nx "flow_style" isTr kvs fun _ kvs=>(match kvs with | []=>some (.sq a g (theB b)) | _ :: _=>none)
   | false=>(match Nat.beq c 197 with
    | true=>nx "anchor" anyV kvs fun a kvs=>nx "start_mark" isNo kvs fun _ kvs=>nx "end_mark" isNo kvs fun _ kvs=>(match kvs with | []=>some (.al a) | _ :: _=>none)
    | false=>none)))
 | _=>none
theorem isB2_ok {v:SV} (h:isB2 v = true):v = .tup [.bool (theB2 0 v),.bool (theB2 1 v)]:=by
 cases v with
 | tup xs=>cases xs with
  | nil=>cases h
  | cons a r=>cases r with
   | nil=>cases h
   | cons b q =>
    obtain ⟨h1,h2⟩:=Ba h
    obtain ⟨h2,h3⟩:=Ba h2
    cases q with
    | nil=>rw [isBo_is h2,isBo_is h3];rfl
    | cons _ _=>cases h1
 | _=>cases h
theorem isS_ok {v:SV} (h:isS v = true):v = .str (theS v):=by cases v <;> first | rfl | cases h
theorem isTr_ok {v:SV} (h:isTr v = true):v = .bool true:=by
 cases v with
 | bool b=>rw [show b = true from h]
 | _=>cases h
theorem evV_ok {v:SV} {e:Ev} (h:evV v = some e):v = evK e:=by
 cases v with
 | inst c kvs =>
  unfold evV at h
  dsimp only at h
  cases q1:Nat.beq c 217 with
  | true =>
   rw [q1] at h
   refine nx_c h fun a r1 e1 _ h=>?_
   refine nx_c h fun g r2 e2 _ h=>?_
   refine nx_c h fun b r3 e3 p3 h=>?_
   refine nx_c h fun w r4 e4 p4 h=>?_
   refine nx_c h fun v5 r5 e5 p5 h=>?_
   refine nx_c h fun v6 r6 e6 p6 h=>?_
   refine nx_c h fun y r7 e7 _ h=>?_
   cases r7 with
   | cons _ _=>cases h
   | nil=>cases h;exact inst_eq (Nq q1) (cstep e1 rfl (cstep e2 rfl (cstep e3 (isB2_ok p3) (cstep e4 (isS_ok p4) (cstep e5 (isNo_is p5) (cstep e6 (isNo_is p6) e7))))))
  | false =>
   rw [q1] at h
   cases q2:Nat.beq c 229 with
   | true =>
    rw [q2] at h
    refine nx_c h fun a r1 e1 _ h=>?_
    refine nx_c h fun g r2 e2 _ h=>?_
    refine nx_c h fun b r3 e3 p3 h=>?_
    refine nx_c h fun v5 r5 e5 p5 h=>?_
    refine nx_c h fun v6 r6 e6 p6 h=>?_
    refine nx_c h fun v7 r7 e7 p7 h=>?_
    cases r7 with
    | cons _ _=>cases h
    | nil=>cases h;exact inst_eq (Nq q2) (cstep e1 rfl (cstep e2 rfl (cstep e3 (isBo_is p3) (cstep e5 (isNo_is p5) (cstep e6 (isNo_is p6) (cstep e7 (isTr_ok p7) rfl))))))
   | false =>
    rw [q2] at h
    cases q3:Nat.beq c 197 with
    | true =>
     rw [q3] at h
     refine nx_c h fun a r1 e1 _ h=>?_
     refine nx_c h fun v5 r5 e5 p5 h=>?_
     refine nx_c h fun v6 r6 e6 p6 h=>?_
     cases r6 with
     | cons _ _=>cases h
     | nil=>cases h;exact inst_eq (Nq q3) (cstep e1 rfl (cstep e5 (isNo_is p5) (cstep e6 (isNo_is p6) rfl)))
    | false=>rw [q3] at h;cases h
 | _=>cases h
noncomputable def letL:List Nat:=(t "0123456789abcdefghijklmnopqrstuvwxyzABCDEFGHIJKLMNOPQRSTUVWXYZ-_;/?:@&=+$,.~*'()[]").cps.toList
noncomputable def memN (c:Nat):List Nat → Bool
 | []=>false
 | d :: r=>match Nat.beq c d with | true=>true | false=>memN c r
noncomputable def pctN (n:Nat):Str:=t "%" ++ ⟨(hexF (Int.ofNat n)).toArray⟩
noncomputable def pctL:List Nat → Str
 | []=>Str.empty
 | n :: r=>pctN n ++ pctL r
noncomputable def spell1 (bang:Bool) (c:Nat):Str:=match or (memN c letL) (and bang (Nat.beq c 33)) with
 | true=>⟨⟨[c]⟩⟩
 | false=>(match lkN c encTab with | some bs=>pctL bs | none=>Str.empty)
noncomputable def spell (bang:Bool):List Nat → Str
 | []=>Str.empty
 | c :: r=>spell1 bang c ++ spell bang r
noncomputable def cutOf (kvs:List (Str × SV)) (g:Str):Nat → Option (Nat × SV)
 | 0=>none
 | n + 1=>match lk ⟨⟨g.cps.toList.take (n + 1)⟩⟩ kvs with | some v=>some (n + 1,v) | none=>cutOf kvs g n
noncomputable def tagW (g:Str) (kvs:List (Str × SV)):Str:=match sbeq g (t "!") with
 | true=>g
 | false=>(match cutOf kvs g (g.cps.toList.length - 1) with
  | some p=>theS p.2 ++ spell (!(sbeq (theS p.2) (t "!"))) (g.cps.toList.drop p.1)
  | none=>t "!<" ++ spell true g.cps.toList ++ t ">")
noncomputable def sgnL:List Nat:=letL ++ [33,32,233,37,8364,123,128512,60,35,92,10,133,94,34]
noncomputable def gWt:List Nat → Nat
 | []=>0
 | c :: r=>(match memN c letL with | true=>1 | false=>12) + gWt r
noncomputable def gOk (g:Str):Bool:=and (Nat.ble (gWt g.cps.toList) 100) (g.cps.toList.all fun c=>memN c sgnL)
noncomputable def kOk (kvs:List (Str × SV)):Bool:=and (and (Nat.ble 1 kvs.length) (Nat.ble kvs.length 10)) (kvs.all fun p=>and (hasStr p.1 preOk) (and (isS p.2) (hasStr (theS p.2) hanOk)))
noncomputable def tagS:Sm:=fun xs H Q X=>two2 xs fun v0 v1=>asS v1 fun g=>meV v0 H fun s=>brn (nil? g.cps.toList) (X (hp s)) ((gOk g = true ∧ kOk s.tk = true ∧ (s.tk.map (·.1)).Nodup) ∧ ∀ c r,tagW g s.tk = ⟨⟨c :: r⟩⟩ → r.length ≤ 120 → Q (.str ⟨⟨c :: r⟩⟩) (hp s))
noncomputable def l1:Fns:=[(658,3,[],wi3),(658,3,[t "whitespace"],wi4),(665,1,[],wnS),(622,2,[],chk ancL ancOk),(601,2,[],chk hanL hanOk),(608,2,[],prS),(629,2,[],saS),(615,2,[],tagS)]
noncomputable abbrev dq:Str:=t "\""
noncomputable abbrev sq:Str:=t "'"
theorem brn2 {c:Bool} {B:Prop} (A:Prop) (hc:c = false) (hb:B):brn c A (brn c A B):=by subst hc;exact hb
theorem nb {n:Nat} (h:n ≤ 900000) (k:Nat) (hk:Nat.ble k 1000 = true):n + k ≤ 1000000:=Nl (Nat.add_le_add h (Nb hk)) (by decide)
theorem sp_len (b:Bool) (i:Str):(sp b i).length ≤ 1 + i.length:=by
 cases b with
 | true=>exact Nat.le_add_left _ _
 | false=>exact Nat.le_of_eq (len_sp i)
theorem sp_app (b:Bool) (i j:Str):sp b i ++ j = sp b (i ++ j):=by
 cases b with
 | true=>rfl
 | false=>exact Aa ..
theorem ndec {a b:Int} (h:b ≤ a):decide (a < b) = false:=decide_eq_false (Int.not_lt.mpr h)
structure Aft (s:Em) (x:Str) (k:Nat) (tx:Str) (col:Int) (n:Nat):Prop where
 tx:tx = s.tx ++ x
 col:col ≤ s.col + k
 n:n ≤ s.n + k
noncomputable def psT (s:Em) (q w:Str) (Q:QV):Prop:=∀ tx col n,Aft s (sp s.ws (q ++ (w ++ q))) 20 tx col n → Q .none (hp { s with tx:=tx,col:=col,n:=n,ws:=false,ind:=false,oe:=false,ana:=.none,sty:=.none })
noncomputable abbrev psI (s:Em) (q w:Str):Em:={ s with ana:=.inst 296 (saK w),sty:=.str q,simple:=false,root:=false,oe:=false }
noncomputable def PsP (q w:Str):Prop:=∀ (s:Em) (Q:QV) (X:XC),s.n ≤ 900000 → s.col ≤ 900 → psT (psI s q w) q w Q → eS l1 3 e_24 [me] (hp (psI s q w)) Q X
theorem ps_d1 {w q z:Str} (s:Em) (hw:z ++ q = w) (hk:q.length + (z.length + q.length) ≤ 19) {m:Nat} (hm:m ≤ 20):Aft s (sp s.ws (q ++ w)) 20 (s.tx ++ sp s.ws q ++ z ++ q) (s.col + (sp s.ws q).length + z.length + q.length) (s.n + m) :=
 ⟨by rw [Aa,hw,Aa,sp_app],by have:=sp_len s.ws q;(first | lia | omega),Nd hm _⟩
theorem ps_dv:PsP dq (t "v"):=fun s Q X hn hc h=>viaR
 (And.intro (rfl:s.ta = s.ta) (And.intro (nb hn 0 rfl) (And.intro (nb hn 1 rfl) (And.intro (rfl:s.ta = s.ta) (And.intro (nb hn 2 rfl)
  (h (s.tx ++ sp s.ws dq ++ t "v" ++ dq) (s.col + (sp s.ws dq).length + (t "v").length + dq.length) (s.n + 3) (ps_d1 (psI s dq (t "v")) rfl (by decide) (by decide)))))))) (by rfl')
theorem ps_d0 {q:Str} (s:Em) (hk:q.length + q.length ≤ 19):Aft s (sp s.ws (q ++ ((t "") ++ q))) 20 (s.tx ++ sp s.ws q ++ q) (s.col + (sp s.ws q).length + q.length) (s.n + 2) :=
 ⟨by rw [Aa,sp_app,show (t "":Str) ++ q = q from Str.empty_append q],by have:=sp_len s.ws q;(first | lia | omega),Nd (by decide) _⟩
theorem ps_d3 {w q z1 z2 z3:Str} (s:Em) (hw:z1 ++ (z2 ++ (z3 ++ q)) = w) (hk:q.length + (z1.length + (z2.length + (z3.length + q.length))) ≤ 19):Aft s (sp s.ws (q ++ w)) 20 (s.tx ++ sp s.ws q ++ z1 ++ z2 ++ z3 ++ q) (s.col + (sp s.ws q).length + z1.length + z2.length + z3.length + q.length) (s.n + 5) :=
 ⟨by rw [Aa,Aa,Aa,Aa,hw,sp_app],by have:=sp_len s.ws q;(first | lia | omega),Nd (by decide) _⟩
theorem ps_col {s:Em} (hc:s.col ≤ 900) {q:Str} {k:Int} (hk:q.length ≤ 10) (hk:k ≤ 20):decide ((1000:Int) < s.col + (sp s.ws q).length + k) = false:=ndec (by have:=sp_len s.ws q;(first | lia | omega))
theorem ps_d2:PsP dq (t "two w"):=fun s Q X hn hc h=>viaR
 (And.intro (rfl:s.ta = s.ta) (And.intro (nb hn 0 rfl) (brn2 (s.n + 1 ≤ 1000000 ∧ s.ta = s.ta ∧ False) (ps_col (s:=psI s dq (t "two w")) hc (q:=dq) (k:=3) (by decide) (by decide)) (And.intro (nb hn 1 rfl) (And.intro (rfl:s.ta = s.ta) (And.intro (nb hn 2 rfl)
  (h (s.tx ++ sp s.ws dq ++ t "two w" ++ dq) (s.col + (sp s.ws dq).length + (t "two w").length + dq.length) (s.n + 3) (ps_d1 (psI s dq (t "two w")) rfl (by decide) (by decide))))))))) (by rfl')
theorem ps_d4:PsP dq (t "x, y"):=fun s Q X hn hc h=>viaR
 (And.intro (rfl:s.ta = s.ta) (And.intro (nb hn 0 rfl) (brn2 (s.n + 1 ≤ 1000000 ∧ s.ta = s.ta ∧ False) (ps_col (s:=psI s dq (t "x, y")) hc (q:=dq) (k:=2) (by decide) (by decide)) (And.intro (nb hn 1 rfl) (And.intro (rfl:s.ta = s.ta) (And.intro (nb hn 2 rfl)
  (h (s.tx ++ sp s.ws dq ++ t "x, y" ++ dq) (s.col + (sp s.ws dq).length + (t "x, y").length + dq.length) (s.n + 3) (ps_d1 (psI s dq (t "x, y")) rfl (by decide) (by decide))))))))) (by rfl')
theorem ps_de:PsP dq (t ""):=fun s Q X hn hc h=>viaR
 (And.intro (rfl:s.ta = s.ta) (And.intro (nb hn 0 rfl) (And.intro (rfl:s.ta = s.ta) (And.intro (nb hn 1 rfl)
  (h (s.tx ++ sp s.ws dq ++ dq) (s.col + (sp s.ws dq).length + dq.length) (s.n + 2) (ps_d0 (psI s dq (t "")) (by decide))))))) (by rfl')
theorem ps_se:PsP sq (t ""):=fun s Q X hn hc h=>viaR
 (And.intro (rfl:s.ta = s.ta) (And.intro (nb hn 0 rfl) (And.intro (rfl:s.ta = s.ta) (And.intro (nb hn 1 rfl)
  (h (s.tx ++ sp s.ws sq ++ sq) (s.col + (sp s.ws sq).length + sq.length) (s.n + 2) (ps_d0 (psI s sq (t "")) (by decide))))))) (by rfl')
theorem ps_sv:PsP sq (t "v"):=fun s Q X hn hc h=>viaR
 (And.intro (rfl:s.ta = s.ta) (And.intro (nb hn 0 rfl) (And.intro (nb hn 1 rfl) (And.intro (rfl:s.ta = s.ta) (And.intro (nb hn 2 rfl)
  (h (s.tx ++ sp s.ws sq ++ t "v" ++ sq) (s.col + (sp s.ws sq).length + (t "v").length + sq.length) (s.n + 3) (ps_d1 (psI s sq (t "v")) rfl (by decide) (by decide)))))))) (by rfl')
theorem ps_s2:PsP sq (t "two w"):=fun s Q X hn hc h=>viaR
 (And.intro (rfl:s.ta = s.ta) (And.intro (nb hn 0 rfl) (And.intro (nb hn 1 rfl) (brn2 (s.ta = s.ta ∧ False) (ps_col (s:=psI s sq (t "two w")) hc (q:=sq) (k:=3) (by decide) (by decide)) (And.intro (nb hn 2 rfl) (And.intro (nb hn 3 rfl) (And.intro (rfl:s.ta = s.ta) (And.intro (nb hn 4 rfl)
  (h (s.tx ++ sp s.ws sq ++ t "two" ++ t " " ++ t "w" ++ sq) (s.col + (sp s.ws sq).length + (t "two").length + (t " ").length + (t "w").length + sq.length) (s.n + 5) (ps_d3 (psI s sq (t "two w")) rfl (by decide))))))))))) (by rfl')
theorem ps_s4:PsP sq (t "x, y"):=fun s Q X hn hc h=>viaR
 (And.intro (rfl:s.ta = s.ta) (And.intro (nb hn 0 rfl) (And.intro (nb hn 1 rfl) (brn2 (s.ta = s.ta ∧ False) (ps_col (s:=psI s sq (t "x, y")) hc (q:=sq) (k:=2) (by decide) (by decide)) (And.intro (nb hn 2 rfl) (And.intro (nb hn 3 rfl) (And.intro (rfl:s.ta = s.ta) (And.intro (nb hn 4 rfl)
  (h (s.tx ++ sp s.ws sq ++ t "x," ++ t " " ++ t "y" ++ sq) (s.col + (sp s.ws sq).length + (t "x,").length + (t " ").length + (t "y").length + sq.length) (s.n + 5) (ps_d3 (psI s sq (t "x, y")) rfl (by decide))))))))))) (by rfl')
theorem ps_pv1 (s:Em) (Q:QV) (X:XC) (hn:s.n ≤ 900000) (h:psT (psI { s with ws:=true } (t "") (t "v")) (t "") (t "v") Q):eS l1 3 e_24 [me] (hp (psI { s with ws:=true } (t "") (t "v"))) Q X:=viaR
 (And.intro (nb hn 0 rfl) (h (s.tx ++ t "v") (s.col + (t "v").length) (s.n + 1) ⟨rfl,by show _ ≤ s.col + 20;have:(t "v").length = 1:=rfl;(first | lia | omega),Nd (by decide) _⟩)) (by rfl')
theorem ps_pv2 (s:Em) (Q:QV) (X:XC) (hn:s.n ≤ 900000) (h:psT (psI { s with ws:=false } (t "") (t "v")) (t "") (t "v") Q):eS l1 3 e_24 [me] (hp (psI { s with ws:=false } (t "") (t "v"))) Q X:=viaR
 (And.intro (nb hn 0 rfl) (And.intro (nb hn 1 rfl) (h (s.tx ++ t " " ++ t "v") (s.col + (t " ").length + (t "v").length) (s.n + 2) ⟨Aa ..,by show _ ≤ s.col + 20;have:(t "v").length = 1:=rfl;have:(t " ").length = 1:=rfl;(first | lia | omega),Nd (by decide) _⟩))) (by rfl')
theorem ps_pw1 (s:Em) (Q:QV) (X:XC) (hn:s.n ≤ 900000) (hc:s.col ≤ 900) (h:psT (psI { s with ws:=true } (t "") (t "two w")) (t "") (t "two w") Q):eS l1 3 e_24 [me] (hp (psI { s with ws:=true } (t "") (t "two w"))) Q X:=viaR
 (And.intro (nb hn 0 rfl) (brn2 (s.ta = s.ta ∧ False) (ndec (by have:(t "two").length = 3:=rfl;(first | lia | omega)):decide ((1000:Int) < s.col + (t "two").length) = false) (And.intro (nb hn 1 rfl) (And.intro (nb hn 2 rfl)
  (h (s.tx ++ t "two" ++ t " " ++ t "w") (s.col + (t "two").length + (t " ").length + (t "w").length) (s.n + 3) ⟨by rw [Aa,Aa];rfl,by show _ ≤ s.col + 20;have:(t "two").length = 3:=rfl;have:(t " ").length = 1:=rfl;have:(t "w").length = 1:=rfl;(first | lia | omega),Nd (by decide) _⟩))))) (by rfl')
theorem ps_pw2 (s:Em) (Q:QV) (X:XC) (hn:s.n ≤ 900000) (hc:s.col ≤ 900) (h:psT (psI { s with ws:=false } (t "") (t "two w")) (t "") (t "two w") Q):eS l1 3 e_24 [me] (hp (psI { s with ws:=false } (t "") (t "two w"))) Q X:=viaR
 (And.intro (nb hn 0 rfl) (And.intro (nb hn 1 rfl) (brn2 (s.ta = s.ta ∧ False) (ndec (by have:(t "two").length = 3:=rfl;have:(t " ").length = 1:=rfl;(first | lia | omega)):decide ((1000:Int) < s.col + (t " ").length + (t "two").length) = false) (And.intro (nb hn 2 rfl) (And.intro (nb hn 3 rfl)
  (h (s.tx ++ t " " ++ t "two" ++ t " " ++ t "w") (s.col + (t " ").length + (t "two").length + (t " ").length + (t "w").length) (s.n + 4) ⟨by rw [Aa,Aa,Aa];rfl,by show _ ≤ s.col + 20;have:(t "two").length = 3:=rfl;have:(t " ").length = 1:=rfl;have:(t "w").length = 1:=rfl;(first | lia | omega),Nd (by decide) _⟩)))))) (by rfl')
theorem ps_pv:PsP (t "") (t "v"):=fun s Q X hn hc h=>by
 obtain ⟨st,sta,evs,ev,ids,idt,fl,ro,se,ma,si,li,co,ws,ind,oe,ca,bi,ta,tk,pa,pt,an,sy,tx,n⟩:=s
 cases ws with
 | true=>exact ps_pv1 ⟨st,sta,evs,ev,ids,idt,fl,ro,se,ma,si,li,co,true,ind,oe,ca,bi,ta,tk,pa,pt,an,sy,tx,n⟩ Q X hn h
 | false=>exact ps_pv2 ⟨st,sta,evs,ev,ids,idt,fl,ro,se,ma,si,li,co,false,ind,oe,ca,bi,ta,tk,pa,pt,an,sy,tx,n⟩ Q X hn h
theorem ps_pw:PsP (t "") (t "two w"):=fun s Q X hn hc h=>by
 obtain ⟨st,sta,evs,ev,ids,idt,fl,ro,se,ma,si,li,co,ws,ind,oe,ca,bi,ta,tk,pa,pt,an,sy,tx,n⟩:=s
 cases ws with
 | true=>exact ps_pw1 ⟨st,sta,evs,ev,ids,idt,fl,ro,se,ma,si,li,co,true,ind,oe,ca,bi,ta,tk,pa,pt,an,sy,tx,n⟩ Q X hn hc h
 | false=>exact ps_pw2 ⟨st,sta,evs,ev,ids,idt,fl,ro,se,ma,si,li,co,false,ind,oe,ca,bi,ta,tk,pa,pt,an,sy,tx,n⟩ Q X hn hc h
noncomputable def plW:List Str:=sl ["v","two w"]
noncomputable def scV (v:SV) (k:SV → SV → Bool → Bool → Str → SV → Prop):Prop:=opt (evV v) fun e=>(match e with | .sc a g b1 b2 w y=>k a g b1 b2 w y | _=>False)
theorem of_sc {v:SV} {k:SV → SV → Bool → Bool → Str → SV → Prop} (h:scV v k):∃ a g b1 b2 w y,v = evK (.sc a g b1 b2 w y) ∧ k a g b1 b2 w y:=by
 obtain ⟨e,h1,h⟩:=of_opt h
 cases e with
 | sc a g b1 b2 w y=>exact ⟨a,g,b1,b2,w,y,evV_ok h1,h⟩
 | _=>exact h.elim
noncomputable def psS:Sm:=fun xs H Q _=>one1 xs fun v0=>meV v0 H fun s=>iff_ (and (!s.simple) (and (!s.root) (!s.oe))) (scV s.event fun _ _ _ _ w _=>asS s.sty fun q=>(s.ana = .inst 296 (saK w) ∧ s.n ≤ 900000 ∧ s.col ≤ 900 ∧ hasStr w words = true ∧ hasStr q [dq,sq,t ""] = true ∧ (q = t "" → hasStr w plW = true)) ∧ psT s q w Q)
theorem ps_all:∀ w ∈ words,PsP dq w ∧ PsP sq w:=sub_all (x:=t "v") ⟨ps_dv,ps_sv⟩ <| sub_all (x:=t "two w") ⟨ps_d2,ps_s2⟩ <| sub_all (x:=t "") ⟨ps_de,ps_se⟩ <| sub_all (x:=t "x, y") ⟨ps_d4,ps_s4⟩ nil_all
theorem ps_pls:∀ w ∈ plW,PsP (t "") w:=sub_all (x:=t "v") ps_pv <| sub_all (x:=t "two w") ps_pw nil_all
theorem ps_weak:allN 1 fun vs=>allN 0 fun ws=>∀ H Q X,psS (vs ++ ws) H Q X → eS l1 3 e_24 (vs ++ ws) H Q X:=fun v0 H Q X h=>by
 have h:meV v0 H fun s=>iff_ (and (!s.simple) (and (!s.root) (!s.oe))) (scV s.event fun _ _ _ _ w _=>asS s.sty fun q=>(s.ana = .inst 296 (saK w) ∧ s.n ≤ 900000 ∧ s.col ≤ 900 ∧ hasStr w words = true ∧ hasStr q [dq,sq,t ""] = true ∧ (q = t "" → hasStr w plW = true)) ∧ psT s q w Q):=h
 refine me_el (P:=fun v H=>eS l1 3 e_24 [v] H Q X) h fun s h=>?_
 obtain ⟨hb,h⟩:=of_iff h
 obtain ⟨a,g,b1,b2,w,y,he,h⟩:=of_sc h
 cases hs:s.sty with
 | str q =>
  rw [hs] at h
  obtain ⟨⟨h1,h2,h3,h4,h5,h6⟩,h⟩:=h
  have e:s = psI s q w:=by
   obtain ⟨k1,k2,k3⟩:=and3 hb
   exact em_u s rfl h1 rfl rfl hs (notT k1) (notT k2) (notT k3) rfl
  have key:PsP q w:=by
   rcases Mc (has_mem h5) with rfl | h5
   ·exact (ps_all w (has_mem h4)).1
   ·rcases Mc h5 with rfl | h5
    ·exact (ps_all w (has_mem h4)).2
    ·rcases Mc h5 with rfl | h5
     ·exact ps_pls w (has_mem (h6 rfl))
     ·cases h5
  rw [e] at h ⊢
  exact key s Q X h2 h3 h
 | _=>rw [hs] at h;exact h.elim
noncomputable def qF (canon:Bool) (y:SV) (b1:Bool) (w:Str):Str:=match canon with
 | true=>dq
 | false=>(match y with
  | .none=>(match and b1 (hasStr w plW) with | true=>t "" | false=>sq)
  | .str z=>(match sbeq z dq with | true=>dq | false=>sq)
  | _=>sq)
noncomputable abbrev csI (s:Em) (c:Bool) (a g:SV) (b1 b2:Bool) (w:Str) (y:SV):Em:={ s with event:=evK (.sc a g b1 b2 w y),ana:=.none,flow:=1,simple:=false,canon:=c }
noncomputable def CsP (y:SV) (w:Str):Prop:=∀ (s:Em) (c:Bool) (a g:SV) (b1 b2:Bool) (Q:QV) (X:XC),Q (.str (qF c y b1 w)) (hp { csI s c a g b1 b2 w y with ana:=.inst 296 (saK w) }) → eS l1 0 e_27 [me] (hp (csI s c a g b1 b2 w y)) Q X
theorem cs_of {y:SV} {w:Str} (h:∀ (s:Em) (a g:SV) (b2:Bool) (Q:QV) (X:XC),∀ c b1,eS l1 0 e_27 [me] (hp (csI s c a g b1 b2 w y)) Q X = (s.ta = s.ta ∧ Q (.str (qF c y b1 w)) (hp { csI s c a g b1 b2 w y with ana:=.inst 296 (saK w) }))):CsP y w :=
 fun s c a g b1 b2 Q X t=>(h s a g b2 Q X c b1).mpr ⟨rfl,t⟩
theorem b2_all {P:Bool → Bool → Prop} (h1:P true true) (h2:P true false) (h3:P false true) (h4:P false false):∀ a b,P a b:=fun a b=>by cases a <;> cases b <;> assumption
theorem cs_all:∀ w ∈ words,CsP .none w ∧ CsP (.str sq) w ∧ CsP (.str dq) w:=by
 refine sub_all (x:=t "v") ?_ (sub_all (x:=t "two w") ?_ (sub_all (x:=t "") ?_ (sub_all (x:=t "x, y") ?_ nil_all))) <;>
  exact ⟨cs_of fun s a g b2 Q X=>b2_all (by rfl') (by rfl') (by rfl') (by rfl'),cs_of fun s a g b2 Q X=>b2_all (by rfl') (by rfl') (by rfl') (by rfl'),cs_of fun s a g b2 Q X=>b2_all (by rfl') (by rfl') (by rfl') (by rfl')⟩
noncomputable def wr (ws:Bool):List Str → Str
 | []=>Str.empty
 | w :: r=>sp ws w ++ wr false r
noncomputable def wsA (ws:Bool):List Str → Bool
 | []=>ws
 | _ :: _=>false
structure Aw (s:Em) (L:List Str) (k:Nat) (tx:Str) (col:Int) (n:Nat) (ws:Bool):Prop where
 tx:tx = s.tx ++ wr s.ws L
 col:col ≤ s.col + k
 n:n ≤ s.n + k
 ws:ws = wsA s.ws L
theorem aw_nil (s:Em) (k:Nat):Aw s [] k s.tx s.col s.n s.ws:=⟨(Ae _).symm,by (first | lia | omega),Nat.le_add_right _ _,rfl⟩
theorem aw_one {s:Em} {x:Str} {k:Nat} (hk:1 + x.length ≤ k) (h1:1 ≤ k):Aw s [x] k (s.tx ++ sp s.ws x) (s.col + (sp s.ws x).length) (s.n + 1) false :=
 ⟨by show _ = s.tx ++ (sp s.ws x ++ Str.empty);rw [Ae],by have:=sp_len s.ws x;(first | lia | omega),Nd h1 _,rfl⟩
noncomputable abbrev aft (s:Em) (tx:Str) (col:Int) (n:Nat) (ws ind:Bool):Em:={ s with tx:=tx,col:=col,n:=n,ws:=ws,ind:=ind,oe:=false }
noncomputable def awQ (s:Em) (L:List Str) (k:Nat) (Q:QV):Prop:=∀ tx col n ws ind,Aw s L k tx col n ws → Q .none (hp (aft s tx col n ws ind))
noncomputable def evA:Ev → SV
 | .sc a _ _ _ _ _=>a
 | .sq a _ _=>a
 | .al a=>a
noncomputable def ancV (v:SV) (k:SV → Prop):Prop:=opt (evV v) fun e=>k (evA e)
noncomputable def ancB (a:SV):Bool:=match a with | .str x=>hasStr x ancOk | _=>true
noncomputable def ancW (i:Str) (a:SV):List Str:=match a with | .str x=>[i ++ x] | _=>[]
noncomputable def anP (a:SV):Prop:=a = .none ∨ ∃ x,a = .str x ∧ x ∈ ancL
noncomputable def paK (s:Em) (i:Str) (a:SV) (Q:QV) (X:XC):Prop:=(anP a ∧ s.n ≤ 900000 ∧ i.length ≤ 1) ∧ brn (ancB a) (awQ s (ancW i a) 10 Q) (X (hp s))
noncomputable def paS:Sm:=fun xs H Q X=>two2 xs fun v0 v1=>asS v1 fun i=>meV v0 H fun s=>iff_ (and (isNo s.pan) (!s.oe)) (ancV s.event fun a=>paK s i a Q X)
theorem anc_len:∀ x ∈ ancL,x.length ≤ 5:=by decide +kernel
theorem ev_el {v:SV} {k:Ev → Prop} {P:SV → Prop} (h:opt (evV v) k) (f:∀ e,k e → P (evK e)):P v:=by
 obtain ⟨e,h1,h⟩:=of_opt h
 rw [evV_ok h1]
 exact f e h
theorem iff_of {c:Bool} {k:Prop} (h:c = true) (hk:k):iff_ c k:=by subst h;exact hk
theorem brn_of {c:Bool} {A B:Prop} (h1:c = true → A) (h2:c = false → B):brn c A B:=by cases c with | true=>exact h1 rfl | false=>exact h2 rfl
noncomputable abbrev paI (s:Em) (e:Ev):Em:={ s with event:=evK e,pan:=.none,oe:=false }
theorem pa_none (e:Ev) (he:evA e = .none) (s:Em) (i:Str) (Q:QV) (X:XC) (h:Q .none (hp (paI s e))):eS l1 0 e_19 [me,.str i] (hp (paI s e)) Q X:=by
 cases e with
 | sc a g b1 b2 w y=>cases he;exact viaR (show Q .none _ from h) (by rfl')
 | sq a g im=>cases he;exact viaR (show Q .none _ from h) (by rfl')
 | al a=>cases he;exact viaR (show Q .none _ from h) (by rfl')
theorem pa_empty (e:Ev) (he:evA e = .str (t "")) (s:Em) (i:Str) (Q:QV) (X:XC) (h:X (hp (paI s e))):eS l1 0 e_19 [me,.str i] (hp (paI s e)) Q X:=by
 cases e with
 | sc a g b1 b2 w y=>cases he;exact viaR (show X _ from h) (by rfl')
 | sq a g im=>cases he;exact viaR (show X _ from h) (by rfl')
 | al a=>cases he;exact viaR (show X _ from h) (by rfl')
theorem pa_str (e:Ev) (c:Nat) (r:List Nat) (he:evA e = .str ⟨⟨c :: r⟩⟩) (s:Em) (i:Str) (Q:QV) (X:XC) (hn:s.n ≤ 1000000) (hL:hasStr ⟨⟨c :: r⟩⟩ ancL = true) (hi:i.length ≤ 1) (hx:(⟨⟨c :: r⟩⟩:Str).length ≤ 5)
  (h:brn (hasStr ⟨⟨c :: r⟩⟩ ancOk) (Q .none (hp (wInd (paI s e) (i ++ ⟨⟨c :: r⟩⟩) true false false))) (X (hp (paI s e)))):eS l1 0 e_19 [me,.str i] (hp (paI s e)) Q X:=by
 have h1:(⟨⟨c :: r⟩⟩:Str).length ≤ sizeLine:=Nl hx (by decide)
 have h2:i.length + (⟨⟨c :: r⟩⟩:Str).length ≤ sizeLine:=Nl (Nat.add_le_add hi hx) (by decide)
 have h3:(i ++ ⟨⟨c :: r⟩⟩).length ≤ 100000:=by rw [La];exact Nl (Nat.add_le_add hi hx) (by decide)
 cases e with
 | sc a g b1 b2 w y=>cases he;exact viaR (iff_of hL (brn_of (fun e=>bnd_of h1 (bnd_of h2 (And.intro (rfl:s.ta = s.ta) (And.intro hn (bnd_of h3 (h.tt e)))))) (fun e=>h.ff e))) (by rfl')
 | sq a g im=>cases he;exact viaR (iff_of hL (brn_of (fun e=>bnd_of h1 (bnd_of h2 (And.intro (rfl:s.ta = s.ta) (And.intro hn (bnd_of h3 (h.tt e)))))) (fun e=>h.ff e))) (by rfl')
 | al a=>cases he;exact viaR (iff_of hL (brn_of (fun e=>bnd_of h1 (bnd_of h2 (And.intro (rfl:s.ta = s.ta) (And.intro hn (bnd_of h3 (h.tt e)))))) (fun e=>h.ff e))) (by rfl')
theorem pa_weak:allN 2 fun vs=>allN 0 fun ws=>∀ H Q X,paS (vs ++ ws) H Q X → eS l1 0 e_19 (vs ++ ws) H Q X:=fun v0 v1 H Q X h=>by
 have h:asS v1 fun i=>meV v0 H fun s=>iff_ (and (isNo s.pan) (!s.oe)) (ancV s.event fun a=>paK s i a Q X):=h
 cases v1 with
 | str i =>
  have h:meV v0 H fun s=>iff_ (and (isNo s.pan) (!s.oe)) (ancV s.event fun a=>paK s i a Q X):=h
  refine me_el (P:=fun v H=>eS l1 0 e_19 [v,.str i] H Q X) h fun s h=>?_
  obtain ⟨hb,h⟩:=of_iff h
  obtain ⟨e,he,h⟩:=of_opt h
  have es:s = paI s e:=by
   have hv:=evV_ok he
   obtain ⟨h1,h2⟩:=Ba hb
   exact em_u s hv rfl rfl (isNo_is h1) rfl rfl rfl (notT h2) rfl
  have h:paK s i (evA e) Q X:=h
  rw [es]
  generalize ea:evA e = a at h
  obtain ⟨⟨hp1,hn,hi⟩,h⟩:=h
  rcases hp1 with rfl | ⟨x,rfl,hx⟩
  ·have k:=(show awQ s [] 10 Q from h) s.tx s.col s.n s.ws s.ind (aw_nil s 10)
   rw [es] at k
   exact pa_none e ea s i Q X k
  ·have hl:=anc_len x hx
   have hs:hasStr x ancL = true:=by rw [hasStr_eq,List.any_eq_true];exact ⟨x,hx,beq_self_eq_true x⟩
   have h:brn (hasStr x ancOk) (awQ s [i ++ x] 10 Q) (X (hp s)):=h
   obtain ⟨⟨l⟩⟩:=x
   cases l with
   | nil=>exact pa_empty e ea s i Q X (es ▸ (h.ff (by rfl'):X (hp s)))
   | cons c r =>
    have hix:(i ++ ⟨⟨c :: r⟩⟩).length ≤ 6:=by rw [La];exact Nat.add_le_add hi hl
    refine pa_str e c r ea s i Q X (Nl hn (by decide)) hs hi hl (brn_of (fun hc=>?_) (fun hc=>es ▸ h.ff hc))
    have k:=(h.tt hc) _ _ _ _ false (aw_one (s:=s) (x:=i ++ ⟨⟨c :: r⟩⟩) (k:=10) (by (first | lia | omega)) (by decide))
    rw [es] at k
    exact k
 | _=>exact h.elim
noncomputable def yP (y:SV):Prop:=y = .none ∨ y = .str sq ∨ y = .str dq
noncomputable def cssQ (q:Str):Sm:=fun xs H Q _=>one1 xs fun v0=>meV v0 H fun s=>iff_ (and (isNo s.ana) (and (!s.simple) (decide (s.flow = 1)))) (scV s.event fun _ _ b1 _ w y=>(hasStr w words = true ∧ yP y ∧ qF s.canon y b1 w = q) ∧ Q (.str q) (hp { s with ana:=.inst 296 (saK w) }))
theorem css_weak (q:Str):allN 1 fun vs=>allN 0 fun ws=>∀ H Q X,cssQ q (vs ++ ws) H Q X → eS l1 0 e_27 (vs ++ ws) H Q X:=fun v0 H Q X h=>by
 have h:meV v0 H fun s=>iff_ (and (isNo s.ana) (and (!s.simple) (decide (s.flow = 1)))) (scV s.event fun _ _ b1 _ w y=>(hasStr w words = true ∧ yP y ∧ qF s.canon y b1 w = q) ∧ Q (.str q) (hp { s with ana:=.inst 296 (saK w) })):=h
 refine me_el (P:=fun v H=>eS l1 0 e_27 [v] H Q X) h fun s h=>?_
 obtain ⟨hb,h⟩:=of_iff h
 obtain ⟨a,g,b1,b2,w,y,he,⟨hw,hy,hq⟩,h⟩:=of_sc h
 have es:s = csI s s.canon a g b1 b2 w y:=by
  obtain ⟨h1,h2,h3⟩:=and3 hb
  exact em_u s he (isNo_is h1) rfl rfl rfl (notT h2) rfl rfl (of_decide_eq_true h3)
 obtain ⟨p1,p2,p3⟩:=cs_all w (has_mem hw)
 have key:CsP y w:=by rcases hy with rfl | rfl | rfl <;> assumption
 rw [← hq] at h
 have k:=key s s.canon a g b1 b2 Q X
 rw [es] at h ⊢
 exact k h
noncomputable def l2 (q:Str):Fns:=(580,1,[],cssQ q) :: l1
noncomputable abbrev ptI (s:Em) (c:Bool) (e:Ev):Em:={ s with event:=evK e,ptg:=.none,ana:=.none,sty:=.none,flow:=1,simple:=false,canon:=c }
noncomputable abbrev ptJ (s:Em) (c:Bool) (e:Ev):Em:={ s with event:=evK e,ptg:=.none,canon:=c }
noncomputable def tpR (s1:Em) (g:Str) (Q:QV):Prop:=(s1.ta = s1.ta) ∧ ((gOk g = true ∧ kOk s1.tk = true ∧ (s1.tk.map (·.1)).Nodup) ∧ ∀ c r,tagW g s1.tk = ⟨⟨c :: r⟩⟩ → r.length ≤ 120 → bnd sizeLine (⟨⟨c :: r⟩⟩:Str).length ((s1.ta = s1.ta) ∧ (s1.n ≤ 1000000) ∧ bnd 100000 (⟨⟨c :: r⟩⟩:Str).length (Q .none (hp (wInd s1 ⟨⟨c :: r⟩⟩ true false false)))))
theorem b3_all {P:Bool → Bool → Bool → Prop} (h1:P true true true) (h2:P true true false) (h3:P true false true) (h4:P true false false) (h5:P false true true) (h6:P false true false) (h7:P false false true) (h8:P false false false):∀ a b c,P a b c:=fun a b c=>by cases a <;> cases b <;> cases c <;> assumption
noncomputable def ptN (s1:Em) (im b1:Bool) (Q:QV) (X:XC):Prop:=match im with | true=>Q .none (hp s1) | false=>(match b1 with | true=>tpR s1 (t "!") Q | false=>X (hp s1))
noncomputable def ptC (s1:Em) (im c:Bool) (l:List Nat) (Q:QV) (X:XC):Prop:=match and im (!c) with | true=>Q .none (hp s1) | false=>(match l with | []=>(s1.ta = s1.ta ∧ X (hp s1)) | d :: r=>tpR s1 ⟨⟨d :: r⟩⟩ Q)
noncomputable abbrev ptS1 (s:Em) (c:Bool) (e:Ev) (q w:Str):Em:={ ptI s c e with ana:=.inst 296 (saK w),sty:=.str q }
noncomputable def imF (q:Str) (b1 b2:Bool):Bool:=match sbeq q (t "") with | true=>b1 | false=>b2
noncomputable def PtA (q:Str):Prop:=∀ (s:Em) (a:SV) (w:Str) (y:SV) (Q:QV) (X:XC) (c b1 b2:Bool),eS (l2 q) 0 e_20 [me] (hp (ptI s c (.sc a .none b1 b2 w y))) Q X =
 (s.ta = s.ta ∧ (hasStr w words = true ∧ yP y ∧ qF c y b1 w = q) ∧ ptN (ptS1 s c (.sc a .none b1 b2 w y) q w) (imF q b1 b2) b1 Q X)
noncomputable def PtB (q:Str) (l:List Nat):Prop:=∀ (s:Em) (a:SV) (w:Str) (y:SV) (Q:QV) (X:XC) (c b1 b2:Bool),eS (l2 q) 0 e_20 [me] (hp (ptI s c (.sc a (.str ⟨⟨l⟩⟩) b1 b2 w y))) Q X =
 (s.ta = s.ta ∧ (hasStr w words = true ∧ yP y ∧ qF c y b1 w = q) ∧ ptC (ptS1 s c (.sc a (.str ⟨⟨l⟩⟩) b1 b2 w y) q w) (imF q b1 b2) c l Q X)
theorem ptA_d:PtA dq:=fun s a w y Q X=>b3_all (by rfl') (by rfl') (by rfl') (by rfl') (by rfl') (by rfl') (by rfl') (by rfl')
theorem ptB_d:∀ l,PtB dq l:=fun l=>match l with | []=>(fun s a w y Q X=>b3_all (by rfl') (by rfl') (by rfl') (by rfl') (by rfl') (by rfl') (by rfl') (by rfl')) | d :: r=>(fun s a w y Q X=>b3_all (by rfl') (by rfl') (by rfl') (by rfl') (by rfl') (by rfl') (by rfl') (by rfl'))
theorem ptA_s:PtA sq:=fun s a w y Q X=>b3_all (by rfl') (by rfl') (by rfl') (by rfl') (by rfl') (by rfl') (by rfl') (by rfl')
theorem ptB_s:∀ l,PtB sq l:=fun l=>match l with | []=>(fun s a w y Q X=>b3_all (by rfl') (by rfl') (by rfl') (by rfl') (by rfl') (by rfl') (by rfl') (by rfl')) | d :: r=>(fun s a w y Q X=>b3_all (by rfl') (by rfl') (by rfl') (by rfl') (by rfl') (by rfl') (by rfl') (by rfl'))
theorem ptA_e:PtA (t ""):=fun s a w y Q X=>b3_all (by rfl') (by rfl') (by rfl') (by rfl') (by rfl') (by rfl') (by rfl') (by rfl')
theorem ptB_e:∀ l,PtB (t "") l:=fun l=>match l with | []=>(fun s a w y Q X=>b3_all (by rfl') (by rfl') (by rfl') (by rfl') (by rfl') (by rfl') (by rfl') (by rfl')) | d :: r=>(fun s a w y Q X=>b3_all (by rfl') (by rfl') (by rfl') (by rfl') (by rfl') (by rfl') (by rfl') (by rfl'))
theorem ptA_sq (s:Em) (a:SV) (Q:QV) (X:XC):∀ c im,eS (l2 dq) 0 e_20 [me] (hp (ptJ s c (.sq a .none im))) Q X = ptN (ptJ s c (.sq a .none im)) im false Q X:=b2_all (by rfl') (by rfl') (by rfl') (by rfl')
theorem ptB_sq (s:Em) (a:SV) (l:List Nat) (Q:QV) (X:XC):∀ c im,eS (l2 dq) 0 e_20 [me] (hp (ptJ s c (.sq a (.str ⟨⟨l⟩⟩) im))) Q X = ptC (ptJ s c (.sq a (.str ⟨⟨l⟩⟩) im)) im c l Q X:=match l with | []=>(b2_all (by rfl') (by rfl') (by rfl') (by rfl')) | d :: r=>(b2_all (by rfl') (by rfl') (by rfl') (by rfl'))
noncomputable def gP (g:SV):Prop:=g = .none ∨ ∃ x,g = .str x ∧ (x = t "" ∨ gOk x = true)
noncomputable def shB (im c:Bool) (g:SV):Bool:=!(and im (or (isNo g) (!c)))
noncomputable def ptB (sh b1:Bool) (g:SV):Bool:=match sh with | false=>true | true=>(match g with | .str x=>!(nil? x.cps.toList) | _=>b1)
noncomputable def ptL (sh:Bool) (g:SV) (kvs:List (Str × SV)):List Str:=match sh with | false=>[] | true=>[tagW (match g with | .str x=>x | _=>t "!") kvs]
noncomputable def ptK (s1:Em) (im b1:Bool) (g:SV) (Q:QV) (X:XC):Prop:=(gP g ∧ kOk s1.tk = true ∧ (s1.tk.map (·.1)).Nodup ∧ s1.n ≤ 900000) ∧ brn (ptB (shB im s1.canon g) b1 g) (awQ s1 (ptL (shB im s1.canon g) g s1.tk) 130 Q) (X (hp s1))
noncomputable def ptE (s:Em) (e:Ev) (Q:QV) (X:XC):Prop:=match e with
 | .sc _ g b1 b2 w y=>iff_ (and (and (isNo s.ana) (isNo s.sty)) (and (!s.simple) (decide (s.flow = 1)))) ((hasStr w words = true ∧ yP y) ∧ ptK { s with ana:=.inst 296 (saK w),sty:=.str (qF s.canon y b1 w) } (imF (qF s.canon y b1 w) b1 b2) b1 g Q X)
 | .sq _ g im=>ptK s im false g Q X
 | .al _=>False
noncomputable def ptS:Sm:=fun xs H Q X=>one1 xs fun v0=>meV v0 H fun s=>iff_ (and (isNo s.ptg) (!s.oe)) (opt (evV s.event) fun e=>ptE s e Q X)
theorem tag_bang (kvs:List (Str × SV)):tagW (t "!") kvs = t "!":=by rfl'
theorem tp_of {s1:Em} {g:Str} {Q:QV} (oe:s1.oe = false) (hg:gOk g = true) (hk:kOk s1.tk = true) (hd:(s1.tk.map (·.1)).Nodup) (hn:s1.n ≤ 900000) (h:awQ s1 [tagW g s1.tk] 130 Q):tpR s1 g Q :=
 ⟨rfl,⟨hg,hk,hd⟩,fun c r e hr=>bnd_of (Nl (Nat.succ_le_succ hr) (by decide)) ⟨rfl,Nl hn (by decide),bnd_of (Nl (Nat.succ_le_succ hr) (by decide)) (by
  rw [e] at h
  have k:=h _ _ _ _ false (aw_one (s:=s1) (x:=⟨⟨c :: r⟩⟩) (k:=130) (by have:(⟨⟨c :: r⟩⟩:Str).length = r.length + 1:=rfl;(first | lia | omega)) (by decide))
  exact k)⟩⟩
theorem ptN_of {s1:Em} {im b1:Bool} {Q:QV} {X:XC} (oe:s1.oe = false) (h:ptK s1 im b1 .none Q X):ptN s1 im b1 Q X:=by
 obtain ⟨⟨_,hk,hd,hn⟩,h⟩:=h
 cases im with
 | true =>
  have h:awQ s1 [] 130 Q:=h
  have k:=h s1.tx s1.col s1.n s1.ws s1.ind (aw_nil s1 130)
  have e:aft s1 s1.tx s1.col s1.n s1.ws s1.ind = s1:=by cases s1;cases oe;rfl
  rw [e] at k
  exact k
 | false=>cases b1 with
  | true=>exact tp_of oe (by rfl') hk hd hn h
  | false=>exact h
theorem ptC_of {s1:Em} {im b1 c:Bool} {l:List Nat} {Q:QV} {X:XC} (oe:s1.oe = false) (hc:s1.canon = c) (h:ptK s1 im b1 (.str ⟨⟨l⟩⟩) Q X):ptC s1 im c l Q X:=by
 obtain ⟨⟨hg,hk,hd,hn⟩,h⟩:=h
 subst hc
 have hs:shB im s1.canon (.str ⟨⟨l⟩⟩) = !(and im (!s1.canon)):=rfl
 rw [hs] at h
 unfold ptC
 cases e:and im (!s1.canon) with
 | true =>
  rw [e] at h
  have h:awQ s1 [] 130 Q:=h
  have k:=h s1.tx s1.col s1.n s1.ws s1.ind (aw_nil s1 130)
  have e:aft s1 s1.tx s1.col s1.n s1.ws s1.ind = s1:=by cases s1;cases oe;rfl
  rw [e] at k
  exact k
 | false =>
  rw [e] at h
  cases l with
  | nil=>exact ⟨rfl,h⟩
  | cons d r =>
   refine tp_of oe ?_ hk hd hn h
   rcases hg with hg | ⟨x,hx,rfl | hx2⟩
   ·cases hg
   ·cases hx
   ·cases hx;exact hx2
theorem FnOK.any {G:GC} {k:Nat} {f:Addr} {n:Nat} {ks:List Str} {ι:Type} {S:ι → Sm} {S':Sm} (x:∀ i,FnOK G k f n ks (S i)) (h:allN n fun vs=>allN ks.length fun ws=>∀ H Q X,S' (vs ++ ws) H Q X → ∃ i,S i (vs ++ ws) H Q X):FnOK G k f n ks S':=by
 intro Z F loc m M A vs ws xs Q X Rr e ok r a b c d t q xo
 have hl:(xs.take n).length = n:=by rw [List.length_take,b.length,List.length_append,c,Nat.min_eq_left (Nat.le_add_right _ _)]
 have hd:(xs.drop n).length = ks.length:=by rw [List.length_drop,b.length,List.length_append,c,d,Nat.add_sub_cancel_left]
 have:=allN_of (allN_of h _ hl) _ hd
 rw [List.take_append_drop] at this
 obtain ⟨i,t'⟩:=this _ _ _ t
 exact x i M e ok r a b c d t' q xo
theorem qF_in (c:Bool) (y:SV) (b1:Bool) (w:Str):qF c y b1 w = dq ∨ qF c y b1 w = sq ∨ qF c y b1 w = t "":=by
 cases c with
 | true=>exact .inl rfl
 | false =>
  cases y with
  | none =>
   unfold qF
   dsimp only
   cases and b1 (hasStr w plW) with
   | true=>exact .inr (.inr rfl)
   | false=>exact .inr (.inl rfl)
  | str z =>
   unfold qF
   dsimp only
   cases sbeq z dq with
   | true=>exact .inl rfl
   | false=>exact .inr (.inl rfl)
  | _=>exact .inr (.inl rfl)
theorem ptA_all (q:Str) (h:q = dq ∨ q = sq ∨ q = t ""):PtA q:=by
 rcases h with rfl | rfl | rfl
 ·exact ptA_d
 ·exact ptA_s
 ·exact ptA_e
theorem ptB_all (q:Str) (h:q = dq ∨ q = sq ∨ q = t "") (l:List Nat):PtB q l:=by
 rcases h with rfl | rfl | rfl
 ·exact ptB_d l
 ·exact ptB_s l
 ·exact ptB_e l
theorem pt_any:allN 1 fun vs=>allN 0 fun ws=>∀ H Q X,ptS (vs ++ ws) H Q X → ∃ q,eS (l2 q) 0 e_20 (vs ++ ws) H Q X:=fun v0 H Q X h=>by
 have h:meV v0 H fun s=>iff_ (and (isNo s.ptg) (!s.oe)) (opt (evV s.event) fun e=>ptE s e Q X):=h
 refine me_el (P:=fun v H=>∃ q,eS (l2 q) 0 e_20 [v] H Q X) h fun s h=>?_
 obtain ⟨hb,h⟩:=of_iff h
 obtain ⟨e,he,h⟩:=of_opt h
 have he:=evV_ok he
 obtain ⟨b1,b2⟩:=Ba hb
 have b1:=isNo_is b1
 have oe:s.oe = false:=notT b2
 cases e with
 | al a=>exact h.elim
 | sq a g im =>
  have h:ptK s im false g Q X:=h
  have es:s = ptJ s s.canon (.sq a g im):=by
   exact em_u s he rfl b1 rfl rfl rfl rfl rfl rfl
  refine ⟨dq,?_⟩
  have hg:=h.1.1
  rcases hg with rfl | ⟨⟨⟨l⟩⟩,rfl,_⟩
  ·have k:=ptN_of oe h
   rw [es] at k ⊢
   exact (ptA_sq s a Q X s.canon im).mpr k
  ·have k:=ptC_of oe rfl h
   rw [es] at k ⊢
   exact (ptB_sq s a l Q X s.canon im).mpr k
 | sc a g i1 i2 w y =>
  obtain ⟨hc,⟨hw,hy⟩,h⟩:=of_iff h
  have es:s = ptI s s.canon (.sc a g i1 i2 w y):=by
   obtain ⟨hc1,hc2⟩:=Ba hc
   obtain ⟨p1,p2⟩:=Ba hc1
   obtain ⟨p3,p4⟩:=Ba hc2
   exact em_u s he (isNo_is p1) b1 rfl (isNo_is p2) (notT p3) rfl rfl (of_decide_eq_true p4)
  have hq:=qF_in s.canon y i1 w
  generalize hQ:qF s.canon y i1 w = q at h hq
  refine ⟨q,?_⟩
  have hg:=h.1.1
  rcases hg with rfl | ⟨⟨⟨l⟩⟩,rfl,_⟩
  ·have k:=ptN_of (s1:={ s with ana:=.inst 296 (saK w),sty:=.str q }) oe h
   rw [es] at k hQ ⊢
   exact (ptA_all q hq s a w y Q X s.canon i1 i2).mpr ⟨rfl,⟨hw,hy,hQ⟩,k⟩
  ·have k:=ptC_of (s1:={ s with ana:=.inst 296 (saK w),sty:=.str q }) oe rfl h
   rw [es] at k hQ ⊢
   exact (ptB_all q hq l s a w y Q X s.canon i1 i2).mpr ⟨rfl,⟨hw,hy,hQ⟩,k⟩
noncomputable def l3:Fns:=(566,2,[],paS) :: (573,1,[],ptS) :: (587,1,[],psS) :: l1
noncomputable def ndL (e:Ev) (c:Bool) (tk:List (Str × SV)):List Str × Bool:=match e with
 | .al a=>(match ancB a with | false=>([],false) | true=>(ancW (t "*") a,true))
 | .sq _ _ _=>([],false)
 | .sc a g b1 b2 w y=>(match ancB a with
  | false=>([],false)
  | true=>(match ptB (shB (imF (qF c y b1 w) b1 b2) c g) b1 g with
   | false=>(ancW (t "&") a,false)
   | true=>(ancW (t "&") a ++ (ptL (shB (imF (qF c y b1 w) b1 b2) c g) g tk ++ [qF c y b1 w ++ (w ++ qF c y b1 w)]),true)))
noncomputable def ndP (e:Ev):Prop:=match e with
 | .al a=>∃ x,a = .str x ∧ x ∈ ancL
 | .sq _ _ _=>False
 | .sc a g _ _ w y=>anP a ∧ gP g ∧ hasStr w words = true ∧ yP y
noncomputable abbrev m388:SV:=.meth 388 me
noncomputable abbrev m438:SV:=.meth 438 me
noncomputable abbrev ndI (s:Em) (e:Ev) (i:Int):Em:={ s with states:=[m388,m438],indents:=[.none],indent:=.int i,flow:=1,pan:=.none,ptg:=.none,ana:=.none,sty:=.none,oe:=false,event:=evK e }
noncomputable abbrev ndO (s:Em) (e:Ev) (i:Int) (tx:Str) (col:Int) (n:Nat) (ind:Bool):Em:={ s with states:=[m388],state:=m438,indents:=[.none],indent:=.int i,flow:=1,pan:=.none,ptg:=.none,ana:=.none,sty:=.none,oe:=false,event:=evK e,root:=false,seq:=true,map:=false,simple:=false,tx:=tx,col:=col,n:=n,ws:=false,ind:=ind }
noncomputable def ndK (s:Em) (e:Ev) (i:Int) (c:Bool) (Q:QV) (X:XC):Prop :=
 brn (ndL e c s.tk).2 (∀ tx col n ind,tx = s.tx ++ wr s.ws (ndL e c s.tk).1 → col ≤ s.col + 160 → n ≤ s.n + 160 → Q .none (hp (ndO s e i tx col n ind))) (∀ s':Em,s'.tx = s.tx ++ wr s.ws (ndL e c s.tk).1 → X (hp s'))
theorem nb8 {n:Nat} (h:n ≤ 800000) (k:Nat) (hk:Nat.ble k 1000 = true):n + k ≤ 900000:=Nl (Nat.add_le_add h (Nb hk)) (by decide)
noncomputable abbrev ndA (s:Em) (e:Ev) (i:Int):Em:={ ndI s e i with root:=false,seq:=true,map:=false,simple:=false }
theorem nd_al (s:Em) (x:Str) (hx:x ∈ ancL) (i:Int) (c:Bool) (hn:s.n ≤ 800000) (Q:QV) (X:XC) (h:ndK s (.al (.str x)) i c Q X):eS l3 2 e_17 [me,.bool true] (hp (ndI s (.al (.str x)) i)) Q X:=by
 have k1:ancB (.str x) = true → ∀ tx col n ws ind,Aw (ndA s (.al (.str x)) i) (ancW (t "*") (.str x)) 10 tx col n ws → Q .none (hp { aft (ndA s (.al (.str x)) i) tx col n ws ind with states:=[m388],state:=m438 }):=fun e1 tx col n ws ind A=>by
  unfold ndK ndL at h
  dsimp only at h
  rw [e1] at h
  have hw:=A.ws
  cases hw
  exact h.tt rfl tx col n ind A.tx (Int.le_trans A.col (Int.add_le_add_left (by decide) _)) (Nl A.n (Nd (by decide) _))
 have k2:ancB (.str x) = false → X (hp (ndA s (.al (.str x)) i)):=fun e1=>by
  unfold ndK ndL at h
  dsimp only at h
  rw [e1] at h
  exact h.ff rfl _ (Ae _).symm
 exact viaR (And.intro (rfl:s.ta = s.ta) (And.intro (And.intro (Or.inr ⟨x,rfl,hx⟩:anP (.str x)) (And.intro (nb8 hn 0 rfl) (by decide:(t "*").length ≤ 1))) (brn_of k1 k2))) (by rfl')
theorem wr_app (ws:Bool) (L M:List Str):wr ws (L ++ M) = wr ws L ++ wr (wsA ws L) M:=by
 induction L generalizing ws with
 | nil=>exact (Str.empty_append _).symm
 | cons x r ih =>
  show sp ws x ++ wr false (r ++ M) = (sp ws x ++ wr false r) ++ wr false M
  rw [ih false,Aa]
  cases r <;> rfl
theorem wr_one (ws:Bool) (x:Str):wr ws [x] = sp ws x:=Ae _
theorem qF_has (c:Bool) (y:SV) (b1:Bool) (w:Str):hasStr (qF c y b1 w) [dq,sq,t ""] = true:=by
 rcases qF_in c y b1 w with h | h | h <;> rw [h] <;> kernel_rfl
theorem qF_pl (c:Bool) (y:SV) (b1:Bool) (w:Str) (h:qF c y b1 w = t ""):hasStr w plW = true:=by
 have hd:dq ≠ t "":=fun e=>absurd (congrArg Str.length e) (by decide)
 have hs:sq ≠ t "":=fun e=>absurd (congrArg Str.length e) (by decide)
 cases c with
 | true=>exact (hd h).elim
 | false =>
  cases y with
  | none =>
   have h:(match and b1 (hasStr w plW) with | true=>t "" | false=>sq) = t "":=h
   cases e:and b1 (hasStr w plW) with
   | true=>exact (Ba e).2
   | false=>rw [e] at h;exact (hs h).elim
  | str z =>
   have h:(match sbeq z dq with | true=>dq | false=>sq) = t "":=h
   cases e:sbeq z dq with
   | true=>rw [e] at h;exact (hd h).elim
   | false=>rw [e] at h;exact (hs h).elim
  | _=>exact (hs h).elim
noncomputable abbrev ndT (s:Em) (w q:Str):Em:={ s with ana:=.inst 296 (saK w),sty:=.str q }
noncomputable abbrev ndU (s:Em) (i:Int):Em:={ s with indents:=[.none,.int i],indent:=.int (i + s.bi) }
theorem nd_sc (s:Em) (a g:SV) (b1 b2:Bool) (w:Str) (y:SV) (ha:anP a) (hg:gP g) (hw:hasStr w words = true) (hy:yP y) (i:Int) (hn:s.n ≤ 800000) (hc:s.col ≤ 700) (hk:kOk s.tk = true) (hd:(s.tk.map (·.1)).Nodup) (Q:QV) (X:XC)
  (h:ndK s (.sc a g b1 b2 w y) i s.canon Q X):eS l3 2 e_17 [me,.bool true] (hp (ndI s (.sc a g b1 b2 w y) i)) Q X:=by
 generalize hq:qF s.canon y b1 w = q at *
 have hqh:hasStr q [dq,sq,t ""] = true:=hq ▸ qF_has ..
 have hqp:q = t "" → hasStr w plW = true:=fun e=>qF_pl s.canon y b1 w (hq.trans e)
 unfold ndK ndL at h
 dsimp only at h
 rw [hq] at h
 have k1:ancB a = false → X (hp (ndA s (.sc a g b1 b2 w y) i)):=fun e1=>by
  rw [e1] at h
  exact h.ff rfl _ (Ae _).symm
 have k2:ancB a = true → ∀ tx col n ws ind,Aw (ndA s (.sc a g b1 b2 w y) i) (ancW (t "&") a) 10 tx col n ws → s.ta = s.ta ∧ (hasStr w words = true ∧ yP y) ∧ (gP g ∧ kOk s.tk = true ∧ (s.tk.map (·.1)).Nodup ∧ n ≤ 900000) ∧
   brn (ptB (shB (imF (qF s.canon y b1 w) b1 b2) s.canon g) b1 g) (∀ tx2 col2 n2 ws2 ind2,Aw (ndT (aft (ndA s (.sc a g b1 b2 w y) i) tx col n ws ind) w (qF s.canon y b1 w)) (ptL (shB (imF (qF s.canon y b1 w) b1 b2) s.canon g) g s.tk) 130 tx2 col2 n2 ws2 →
    s.ta = s.ta ∧ (SV.inst 296 (saK w) = .inst 296 (saK w) ∧ n2 ≤ 900000 ∧ col2 ≤ 900 ∧ hasStr w words = true ∧ hasStr (qF s.canon y b1 w) [dq,sq,t ""] = true ∧ (qF s.canon y b1 w = t "" → hasStr w plW = true)) ∧
     ∀ tx3 col3 n3,Aft (ndU (aft (ndT (aft (ndA s (.sc a g b1 b2 w y) i) tx col n ws ind) w (qF s.canon y b1 w)) tx2 col2 n2 ws2 ind2) i) (sp ws2 (qF s.canon y b1 w ++ (w ++ qF s.canon y b1 w))) 20 tx3 col3 n3 → Q .none (hp (ndO s (.sc a g b1 b2 w y) i tx3 col3 n3 false)))
    (X (hp (ndT (aft (ndA s (.sc a g b1 b2 w y) i) tx col n ws ind) w (qF s.canon y b1 w)))):=fun e1 tx col n ws ind A=>by
  rw [e1] at h
  rw [hq]
  dsimp only at h
  have hcol:col ≤ s.col + 10:=A.col
  have hnn:n ≤ s.n + 10:=A.n
  refine ⟨rfl,⟨hw,hy⟩,⟨hg,hk,hd,Nl hnn (nb8 hn 10 rfl)⟩,brn_of (fun e2=>?_) (fun e2=>?_)⟩
  ·rw [e2] at h
   intro tx2 col2 n2 ws2 ind2 B
   have hcol2:col2 ≤ col + 130:=B.col
   have hn2:n2 ≤ n + 130:=B.n
   refine ⟨rfl,⟨rfl,by (first | lia | omega),by (first | lia | omega),hw,hqh,hqp⟩,fun tx3 col3 n3 C=>?_⟩
   have hcol3:col3 ≤ col2 + 20:=C.col
   have hn3:n3 ≤ n2 + 20:=C.n
   refine h.tt rfl tx3 col3 n3 false ?_ (by (first | lia | omega)) (by (first | lia | omega))
   have e3:tx3 = tx2 ++ sp ws2 (q ++ (w ++ q)):=C.tx
   have e4:tx2 = tx ++ wr ws (ptL (shB (imF q b1 b2) s.canon g) g s.tk):=B.tx
   have e5:tx = s.tx ++ wr s.ws (ancW (t "&") a):=A.tx
   have e6:ws2 = wsA ws (ptL (shB (imF q b1 b2) s.canon g) g s.tk):=B.ws
   have e7:ws = wsA s.ws (ancW (t "&") a):=A.ws
   rw [e3,e4,e5,e6,e7,wr_app,wr_app,wr_one,Aa,Aa]
  ·rw [e2] at h
   exact h.ff rfl _ A.tx
 exact viaR (And.intro (rfl:s.ta = s.ta) (And.intro (And.intro ha (And.intro (nb8 hn 0 rfl) (by decide:(t "&").length ≤ 1))) (brn_of k2 k1))) (by rfl')
noncomputable def isM (f:Addr):SV → Bool | .meth g v=>and (Nat.beq f g) (isOb 0 v) | _=>false
theorem isM_ok {f:Addr} {v:SV} (h:isM f v = true):v = .meth f me:=by
 cases v with
 | meth g u=>obtain ⟨h1,h2⟩:=Ba h;rw [Nq h1,isOb_ok h2]
 | _=>cases h
noncomputable def isL1 (p:SV → Bool):List SV → Bool | []=>false | v :: r=>and (p v) (nil? r)
noncomputable def isL2 (p q:SV → Bool):List SV → Bool | []=>false | v :: r=>and (p v) (isL1 q r)
theorem isL1_ok {p:SV → Bool} {l:List SV} (h:isL1 p l = true):∃ v,l = [v] ∧ p v = true:=by
 cases l with
 | nil=>cases h
 | cons v r=>obtain ⟨h1,h2⟩:=Ba h;cases of_nil h2;exact ⟨v,rfl,h1⟩
theorem isL2_ok {p q:SV → Bool} {l:List SV} (h:isL2 p q l = true):∃ v u,l = [v,u] ∧ p v = true ∧ q u = true:=by
 cases l with
 | nil=>cases h
 | cons v r=>obtain ⟨h1,h2⟩:=Ba h;obtain ⟨u,rfl,h3⟩:=isL1_ok h2;exact ⟨v,u,rfl,h1,h3⟩
noncomputable def quiet (s:Em):Bool:=and (and (isNo s.pan) (isNo s.ptg)) (and (and (isNo s.ana) (isNo s.sty)) (!s.oe))
theorem em_q0 {P:Em → Prop} (s:Em) {a b:List SV} {c v p1 p2 p3 p4:SV} {d:Int} {o:Bool} (h1:s.states = a) (h2:s.indents = b) (h3:s.indent = c) (h4:s.flow = d) (h5:s.event = v) (h6:s.pan = p1) (h7:s.ptg = p2) (h8:s.ana = p3) (h9:s.sty = p4) (h10:s.oe = o)
  (k:P { s with states:=a,indents:=b,indent:=c,flow:=d,pan:=p1,ptg:=p2,ana:=p3,sty:=p4,oe:=o,event:=v }):P s:=by subst h1 h2 h3 h4 h5 h6 h7 h8 h9 h10;exact k
theorem em_q {P:Em → Prop} (s:Em) (hq:quiet s = true) {a b:List SV} {c v:SV} {d:Int} (h1:s.states = a) (h2:s.indents = b) (h3:s.indent = c) (h4:s.flow = d) (h5:s.event = v)
  (k:P { s with states:=a,indents:=b,indent:=c,flow:=d,pan:=.none,ptg:=.none,ana:=.none,sty:=.none,oe:=false,event:=v }):P s:=by
 obtain ⟨q1,q2⟩:=Ba hq
 obtain ⟨q3,q4⟩:=Ba q1
 obtain ⟨q5,q6⟩:=Ba q2
 obtain ⟨q7,q8⟩:=Ba q5
 exact em_q0 s h1 h2 h3 h4 h5 (isNo_is q3) (isNo_is q4) (isNo_is q7) (isNo_is q8) (notT q6) k
noncomputable def ndH (s:Em) (e:Ev):Prop:=ndP e ∧ s.n ≤ 800000 ∧ s.col ≤ 700 ∧ kOk s.tk = true ∧ (s.tk.map (·.1)).Nodup
noncomputable def ndV (s:Em) (Q:QV) (X:XC):Prop:=opt (evV s.event) fun e=>asI s.indent fun i=>ndH s e ∧ ndK s e i s.canon Q X
noncomputable def ndS:Sm:=fun xs H Q X=>two2 xs fun v0 v1=>iff_ (isTr v1) (meV v0 H fun s=>iff_ (and (quiet s) (and (and (isL2 (isM 388) (isM 438) s.states) (isL1 isNo s.indents)) (decide (s.flow = 1)))) (ndV s Q X))
theorem nd_weak:allN 1 fun vs=>allN 1 fun ws=>∀ H Q X,ndS (vs ++ ws) H Q X → eS l3 2 e_17 (vs ++ ws) H Q X:=fun v0 v1 H Q X h=>by
 have h:iff_ (isTr v1) (meV v0 H fun s=>iff_ (and (quiet s) (and (and (isL2 (isM 388) (isM 438) s.states) (isL1 isNo s.indents)) (decide (s.flow = 1)))) (ndV s Q X)):=h
 obtain ⟨h1,h⟩:=of_iff h
 rw [isTr_ok h1]
 refine me_el (P:=fun v H=>eS l3 2 e_17 [v,.bool true] H Q X) h fun s h=>?_
 obtain ⟨hb,h⟩:=of_iff h
 obtain ⟨hq,hb⟩:=Ba hb
 obtain ⟨hb,hf⟩:=Ba hb
 obtain ⟨hs,hi⟩:=Ba hb
 obtain ⟨u,v,e1,p1,p2⟩:=isL2_ok hs
 obtain ⟨z,e2,p3⟩:=isL1_ok hi
 rw [isM_ok p1,isM_ok p2] at e1
 rw [isNo_is p3] at e2
 obtain ⟨e,he,h⟩:=of_opt h
 cases hi:s.indent with
 | int i =>
  rw [hi] at h
  obtain ⟨⟨h1,h2,h3,h4,h5⟩,h⟩:=h
  refine em_q (P:=fun s=>eS l3 2 e_17 [me,.bool true] (hp s) Q X) s hq e1 e2 hi (of_decide_eq_true hf) (evV_ok he) ?_
  cases e with
  | al a=>obtain ⟨x,rfl,hx⟩:=h1;exact nd_al s x hx i s.canon h2 Q X h
  | sq a g im=>exact h1.elim
  | sc a g b1 b2 w y=>exact nd_sc s a g b1 b2 w y h1.1 h1.2.1 h1.2.2.1 h1.2.2.2 i h2 h3 h4 h5 Q X h
 | _=>rw [hi] at h;exact h.elim
noncomputable def l4:Fns:=(403,1,[t "sequence"],ndS) :: l3
noncomputable def itPre (c first:Bool) (i:Int):Str:=(match first with | true=>Str.empty | false=>t ",") ++ (match c with | true=>t "\n" ++ Txt.mul (t " ") i | false=>Str.empty)
noncomputable def colZ (c:Bool) (col:Int):Int:=match c with | true=>0 | false=>col
noncomputable def itK (s:Em) (e:Ev) (i:Int) (c first:Bool) (Q:QV) (X:XC):Prop :=
 brn (ndL e c s.tk).2 (∀ tx col n line ind,tx = s.tx ++ (itPre c first i ++ wr (or c first) (ndL e c s.tk).1) → col ≤ colZ c s.col + 180 → n ≤ s.n + 180 → Q .none (hp { ndO s e i tx col n ind with line:=line })) (∀ s':Em,s'.tx = s.tx ++ (itPre c first i ++ wr (or c first) (ndL e c s.tk).1) → X (hp s'))
noncomputable abbrev itI (s:Em) (e:Ev) (i:Int) (c w d:Bool):Em:={ s with states:=[m388],indents:=[.none],indent:=.int i,flow:=1,pan:=.none,ptg:=.none,ana:=.none,sty:=.none,oe:=false,event:=evK e,canon:=c,ind:=d,ws:=w }
theorem brn3 {c:Bool} {B:Prop} (A:Prop) (hc:c = false) (hb:B):brn (!c) B (brn c A B):=by subst hc;exact hb
theorem nb7 {n:Nat} (h:n ≤ 700000) (k:Nat) (hk:Nat.ble k 1000 = true):n + k ≤ 800000:=Nl (Nat.add_le_add h (Nb hk)) (by decide)
theorem nb7b {n:Nat} (h:n ≤ 700000) (k:Nat) (hk:Nat.ble k 1000 = true):n + k ≤ 1000000:=Nl (nb7 h k hk) (by decide)
theorem nd_of {s s5:Em} {e:Ev} {i:Int} {c first:Bool} {Q:QV} {X:XC} (h:itK s e i c first Q X) (htx:s5.tx = s.tx ++ itPre c first i) (hws:s5.ws = or c first) (hcol:s5.col ≤ colZ c s.col + 20) (hn:s5.n ≤ s.n + 20) (htk:s5.tk = s.tk)
  (hO:∀ tx col n ind,{ ndO s e i tx col n ind with line:=s5.line } = ndO s5 e i tx col n ind):ndK s5 e i c Q X:=by
 unfold ndK
 rw [htk]
 refine brn_of (fun e1 tx col n ind h1 h2 h3=>?_) (fun e1 s' h1=>(h.ff e1) s' ?_)
 ·rw [← hO]
  refine (h.tt e1) tx col n s5.line ind ?_ (by (first | lia | omega)) (by (first | lia | omega))
  rw [h1,htx,hws,Aa]
 ·rw [h1,htx,hws,Aa]
theorem itH_n {s:Em} {e:Ev} {n:Nat} {col:Int} (hp1:ndP e) (hn:n ≤ 800000) (hc:col ≤ 700) (hk:kOk s.tk = true) (hd:(s.tk.map (·.1)).Nodup):ndH { s with n:=n,col:=col } e:=⟨hp1,hn,hc,hk,hd⟩
noncomputable abbrev i5 (s:Em):Em:={ s with states:=[m388,m438] }
theorem it_ff (s:Em) (e:Ev) (i:Int) (hp1:ndP e) (hn:s.n ≤ 700000) (hc:s.col ≤ 650) (hk:kOk s.tk = true) (hd:(s.tk.map (·.1)).Nodup) (Q:QV) (X:XC) (w d:Bool) (h:itK (itI s e i false w d) e i false false Q X):eS l4 2 e_69 [me] (hp (itI s e i false w d)) Q X:=by
 have hcol:decide ((1000:Int) < s.col + (t ",").length) = false:=ndec (by have:(t ",").length = 1:=rfl;(first | lia | omega))
 have k:ndK (i5 (wInd (itI s e i false w d) (t ",") false false false)) e i false Q X:=nd_of h (by rfl') rfl (show s.col + (t ",").length ≤ s.col + 20 from Int.add_le_add_left (by decide) _) (Nd (by decide:1 ≤ 20) s.n) rfl fun _ _ _ _=>rfl
 have kH:ndH (i5 (wInd (itI s e i false w d) (t ",") false false false)) e:=⟨hp1,nb7 hn 1 rfl,show s.col + (t ",").length ≤ 700 from by have:(t ",").length = 1:=rfl;(first | lia | omega),hk,hd⟩
 have r:=And.intro (rfl:s.ta = s.ta) (And.intro (Nl hn (by decide):s.n ≤ 1000000) (brn3 (s.ta = s.ta ∧ False) hcol (And.intro (rfl:s.ta = s.ta) (And.intro kH k))))
 cases e with
 | sq a g im=>exact hp1.elim
 | al a=>exact viaR r (by rfl')
 | sc a g b1 b2 w y=>exact viaR r (by rfl')
theorem it_ft (s:Em) (e:Ev) (i:Int) (hi:2 ≤ i ∧ i ≤ 9) (hp1:ndP e) (hn:s.n ≤ 700000) (hk:kOk s.tk = true) (hd:(s.tk.map (·.1)).Nodup) (Q:QV) (X:XC) (w d:Bool) (h:itK (itI s e i true w d) e i true false Q X):eS l4 2 e_69 [me] (hp (itI s e i true w d)) Q X:=by
 have k:ndK (i5 (wNi (wInd (itI s e i true w d) (t ",") false false false) i)) e i true Q X:=nd_of h (by show (s.tx ++ t ",") ++ t "\n" ++ Txt.mul (t " ") i = s.tx ++ (t "," ++ (t "\n" ++ Txt.mul (t " ") i));rw [Aa,Aa]) rfl (show i ≤ 0 + 20 by (first | lia | omega)) (Nd (by decide:3 ≤ 20) s.n) rfl fun _ _ _ _=>rfl
 have kH:ndH (i5 (wNi (wInd (itI s e i true w d) (t ",") false false false) i)) e:=⟨hp1,nb7 hn 3 rfl,show i ≤ 700 from by (first | lia | omega),hk,hd⟩
 have r:=And.intro (rfl:s.ta = s.ta) (And.intro (Nl hn (by decide):s.n ≤ 1000000) (And.intro (rfl:s.ta = s.ta) (And.intro (And.intro hi.1 (And.intro hi.2 (nb7b hn 2 rfl:s.n + 1 + 1 ≤ 1000000))) (And.intro (rfl:s.ta = s.ta) (And.intro kH k)))))
 cases e with
 | sq a g im=>exact hp1.elim
 | al a=>exact viaR r (by rfl')
 | sc a g b1 b2 w y=>exact viaR r (by rfl')
theorem it_tf (s:Em) (e:Ev) (i:Int) (hp1:ndP e) (hn:s.n ≤ 700000) (hc:s.col ≤ 650) (hk:kOk s.tk = true) (hd:(s.tk.map (·.1)).Nodup) (Q:QV) (X:XC) (h:itK (itI s e i false true false) e i false true Q X):eS l4 2 e_68 [me] (hp (itI s e i false true false)) Q X:=by
 have hcol:decide ((1000:Int) < s.col) = false:=ndec (by (first | lia | omega))
 have k:ndK (i5 (itI s e i false true false)) e i false Q X:=nd_of h (Ae _).symm rfl (show s.col ≤ s.col + 20 by (first | lia | omega)) (Nat.le_add_right _ _) rfl fun _ _ _ _=>rfl
 have kH:ndH (i5 (itI s e i false true false)) e:=⟨hp1,nb7 hn 0 rfl,show s.col ≤ 700 from by (first | lia | omega),hk,hd⟩
 have r:=brn3 (s.ta = s.ta ∧ False) hcol (And.intro (rfl:s.ta = s.ta) (And.intro kH k))
 cases e with
 | sq a g im=>exact hp1.elim
 | al a=>exact viaR r (by rfl')
 | sc a g b1 b2 w y=>exact viaR r (by rfl')
theorem it_tt (s:Em) (e:Ev) (i:Int) (hi:2 ≤ i ∧ i ≤ 9) (hp1:ndP e) (hn:s.n ≤ 700000) (hk:kOk s.tk = true) (hd:(s.tk.map (·.1)).Nodup) (Q:QV) (X:XC) (h:itK (itI s e i true true false) e i true true Q X):eS l4 2 e_68 [me] (hp (itI s e i true true false)) Q X:=by
 have k:ndK (i5 (wNi (itI s e i true true false) i)) e i true Q X:=nd_of h (by show s.tx ++ t "\n" ++ Txt.mul (t " ") i = s.tx ++ (Str.empty ++ (t "\n" ++ Txt.mul (t " ") i));rw [Aa,Str.empty_append]) rfl (show i ≤ 0 + 20 by (first | lia | omega)) (Nd (by decide:2 ≤ 20) s.n) rfl fun _ _ _ _=>rfl
 have kH:ndH (i5 (wNi (itI s e i true true false) i)) e:=⟨hp1,nb7 hn 2 rfl,show i ≤ 700 from by (first | lia | omega),hk,hd⟩
 have r:=And.intro (rfl:s.ta = s.ta) (And.intro (And.intro hi.1 (And.intro hi.2 (nb7b hn 1 rfl:s.n + 1 ≤ 1000000))) (And.intro (rfl:s.ta = s.ta) (And.intro kH k)))
 cases e with
 | sq a g im=>exact hp1.elim
 | al a=>exact viaR r (by rfl')
 | sc a g b1 b2 w y=>exact viaR r (by rfl')
noncomputable def itH (s:Em) (e:Ev) (i:Int):Prop:=ndP e ∧ s.n ≤ 700000 ∧ colZ s.canon s.col ≤ 650 ∧ kOk s.tk = true ∧ (s.tk.map (·.1)).Nodup ∧ 2 ≤ i ∧ i ≤ 9
noncomputable def itV (first:Bool) (s:Em) (Q:QV) (X:XC):Prop:=opt (evV s.event) fun e=>asI s.indent fun i=>itH s e i ∧ itK s e i s.canon first Q X
noncomputable def itQ (s:Em):Bool:=and (quiet s) (and (and (isL1 (isM 388) s.states) (isL1 isNo s.indents)) (decide (s.flow = 1)))
noncomputable def itS:Sm:=fun xs H Q X=>one1 xs fun v0=>meV v0 H fun s=>iff_ (itQ s) (itV false s Q X)
noncomputable def itF:Sm:=fun xs H Q X=>one1 xs fun v0=>meV v0 H fun s=>iff_ (and (itQ s) (and s.ws (!s.ind))) (itV true s Q X)
theorem itQ_el {P:Em → Prop} (s:Em) {e:Ev} {i:Int} (hq:itQ s = true) (he:evV s.event = some e) (hi:s.indent = .int i) (k:P (itI s e i s.canon s.ws s.ind)):P s:=by
 obtain ⟨hq,hb⟩:=Ba hq
 obtain ⟨hb,hf⟩:=Ba hb
 obtain ⟨hs,hi2⟩:=Ba hb
 obtain ⟨u,e1,p1⟩:=isL1_ok hs
 obtain ⟨z,e2,p3⟩:=isL1_ok hi2
 rw [isM_ok p1] at e1
 rw [isNo_is p3] at e2
 exact em_q s hq e1 e2 hi (of_decide_eq_true hf) (evV_ok he) k
theorem it_weak:allN 1 fun vs=>allN 0 fun ws=>∀ H Q X,itS (vs ++ ws) H Q X → eS l4 2 e_69 (vs ++ ws) H Q X:=fun v0 H Q X h=>by
 have h:meV v0 H fun s=>iff_ (itQ s) (itV false s Q X):=h
 refine me_el (P:=fun v H=>eS l4 2 e_69 [v] H Q X) h fun s h=>?_
 obtain ⟨hb,h⟩:=of_iff h
 obtain ⟨e,he,h⟩:=of_opt h
 cases hi:s.indent with
 | int i =>
  rw [hi] at h
  have h:itH s e i ∧ itK s e i s.canon false Q X:=h
  revert h
  refine itQ_el (P:=fun s'=>itH s' e i ∧ itK s' e i s'.canon false Q X → eS l4 2 e_69 [me] (hp s') Q X) s hb he hi fun ⟨⟨h1,h2,h3,h4,h5,h6⟩,h⟩=>?_
  generalize s.canon = c at h3 h ⊢
  cases c with
  | false=>exact it_ff s e i h1 h2 h3 h4 h5 Q X s.ws s.ind h
  | true=>exact it_ft s e i h6 h1 h2 h4 h5 Q X s.ws s.ind h
 | _=>rw [hi] at h;exact h.elim
theorem itF_weak:allN 1 fun vs=>allN 0 fun ws=>∀ H Q X,itF (vs ++ ws) H Q X → eS l4 2 e_68 (vs ++ ws) H Q X:=fun v0 H Q X h=>by
 have h:meV v0 H fun s=>iff_ (and (itQ s) (and s.ws (!s.ind))) (itV true s Q X):=h
 refine me_el (P:=fun v H=>eS l4 2 e_68 [v] H Q X) h fun s h=>?_
 obtain ⟨hb,h⟩:=of_iff h
 obtain ⟨hb,hw⟩:=Ba hb
 obtain ⟨hw,hd⟩:=Ba hw
 have hd:=notT hd
 obtain ⟨e,he,h⟩:=of_opt h
 cases hi:s.indent with
 | int i =>
  rw [hi] at h
  have h:itH s e i ∧ itK s e i s.canon true Q X:=h
  revert h
  refine itQ_el (P:=fun s'=>itH s' e i ∧ itK s' e i s'.canon true Q X → eS l4 2 e_68 [me] (hp s') Q X) s hb he hi fun ⟨⟨h1,h2,h3,h4,h5,h6⟩,h⟩=>?_
  generalize s.canon = c at h3 h ⊢
  rw [hw,hd] at h ⊢
  cases c with
  | false=>exact it_tf s e i h1 h2 h3 h4 h5 Q X h
  | true=>exact it_tt s e i h6 h1 h2 h4 h5 Q X h
 | _=>rw [hi] at h;exact h.elim
noncomputable abbrev m431:SV:=.meth 431 me
noncomputable def ssL (a g:SV) (im c:Bool) (tk:List (Str × SV)):List Str × Bool:=match ancB a with
 | false=>([],false)
 | true=>(match ptB (shB im c g) false g with
  | false=>(ancW (t "&") a,false)
  | true=>(ancW (t "&") a ++ (ptL (shB im c g) g tk ++ [t "["]),true))
noncomputable abbrev ssI (s:Em) (a g:SV) (im c:Bool):Em:={ s with states:=[],indents:=[],indent:=.none,flow:=0,pan:=.none,ptg:=.none,ana:=.none,sty:=.none,oe:=false,event:=evK (.sq a g im),canon:=c }
noncomputable abbrev ssA (s:Em) (a g:SV) (im c:Bool):Em:={ ssI s a g im c with states:=[m388],root:=true,seq:=false,map:=false,simple:=false }
noncomputable abbrev ssO (s:Em) (a g:SV) (im c:Bool) (tx:Str) (col:Int) (n:Nat):Em:={ ssA s a g im c with state:=m431,indents:=[.none],indent:=.int s.bi,flow:=1,tx:=tx,col:=col,n:=n,ws:=true,ind:=false }
noncomputable def ssK (s:Em) (a g:SV) (im c:Bool) (Q:QV) (X:XC):Prop :=
 brn (ssL a g im c s.tk).2 (∀ tx col n,tx = s.tx ++ wr s.ws (ssL a g im c s.tk).1 → col ≤ s.col + 150 → n ≤ s.n + 150 → Q .none (hp (ssO s a g im c tx col n))) (∀ s':Em,s'.tx = s.tx ++ wr s.ws (ssL a g im c s.tk).1 → X (hp s'))
theorem ss_c (s:Em) (a g:SV) (im:Bool) (ha:anP a) (hg:gP g) (hn:s.n ≤ 700000) (hk:kOk s.tk = true) (hd:(s.tk.map (·.1)).Nodup) (Q:QV) (X:XC):∀ c,ssK s a g im c Q X → eS l3 3 e_66 [me] (hp (ssI s a g im c)) Q X:=fun c h=>by
 unfold ssK ssL at h
 have k1:ancB a = false → X (hp (ssA s a g im c)):=fun e1=>by
  rw [e1] at h
  exact h.ff rfl _ (Ae _).symm
 have k2:ancB a = true → ∀ tx col n ws ind,Aw (ssA s a g im c) (ancW (t "&") a) 10 tx col n ws → s.ta = s.ta ∧ (gP g ∧ kOk s.tk = true ∧ (s.tk.map (·.1)).Nodup ∧ n ≤ 900000) ∧
   brn (ptB (shB im c g) false g) (∀ (tx2:Str) (col2:Int) (n2:Nat) (ws2:Bool) (ind2:Bool),Aw (aft (ssA s a g im c) tx col n ws ind) (ptL (shB im c g) g s.tk) 130 tx2 col2 n2 ws2 →
    s.ta = s.ta ∧ n2 ≤ 1000000 ∧ Q .none (hp (ssO s a g im c (tx2 ++ sp ws2 (t "[")) (col2 + (sp ws2 (t "[")).length) (n2 + 1))))
    (X (hp (aft (ssA s a g im c) tx col n ws ind))):=fun e1 tx col n ws ind A=>by
  rw [e1] at h
  dsimp only at h
  have hcol:col ≤ s.col + 10:=A.col
  have hnn:n ≤ s.n + 10:=A.n
  refine ⟨rfl,⟨hg,hk,hd,Nl hnn (Nl (nb7 hn 10 rfl) (by decide))⟩,brn_of (fun e2=>?_) (fun e2=>?_)⟩
  ·rw [e2] at h
   intro tx2 col2 n2 ws2 ind2 B
   have hcol2:col2 ≤ col + 130:=B.col
   have hn2:n2 ≤ n + 130:=B.n
   have hl:=sp_len ws2 (t "[")
   have hl1:(t "[").length = 1:=rfl
   refine ⟨rfl,by (first | lia | omega),h.tt rfl _ _ _ ?_ (by (first | lia | omega)) (by (first | lia | omega))⟩
   have e4:tx2 = tx ++ wr ws (ptL (shB im c g) g s.tk):=B.tx
   have e5:tx = s.tx ++ wr s.ws (ancW (t "&") a):=A.tx
   have e6:ws2 = wsA ws (ptL (shB im c g) g s.tk):=B.ws
   have e7:ws = wsA s.ws (ancW (t "&") a):=A.ws
   rw [e4,e5,e6,e7,wr_app,wr_app,wr_one,Aa,Aa]
  ·rw [e2] at h
   exact h.ff rfl _ A.tx
 have r:=And.intro (rfl:s.ta = s.ta) (And.intro (And.intro ha (And.intro (Nl hn (by decide):s.n ≤ 900000) (by decide:(t "&").length ≤ 1))) (brn_of k2 k1))
 clear k1 k2 h
 cases c with
 | false=>exact viaR r (by rfl')
 | true=>exact viaR r (by rfl')
noncomputable def ssH (s:Em) (a g:SV):Prop:=anP a ∧ gP g ∧ s.n ≤ 700000 ∧ kOk s.tk = true ∧ (s.tk.map (·.1)).Nodup
noncomputable def ssV (s:Em) (Q:QV) (X:XC):Prop:=opt (evV s.event) fun e=>(match e with | .sq a g im=>ssH s a g ∧ ssK s a g im s.canon Q X | _=>False)
noncomputable def ssQ (s:Em):Bool:=and (quiet s) (and (and (nil? s.states) (nil? s.indents)) (and (isNo s.indent) (decide (s.flow = 0))))
noncomputable def ssS:Sm:=fun xs H Q X=>one1 xs fun v0=>meV v0 H fun s=>iff_ (ssQ s) (ssV s Q X)
theorem ss_weak:allN 1 fun vs=>allN 0 fun ws=>∀ H Q X,ssS (vs ++ ws) H Q X → eS l3 3 e_66 (vs ++ ws) H Q X:=fun v0 H Q X h=>by
 have h:meV v0 H fun s=>iff_ (ssQ s) (ssV s Q X):=h
 refine me_el (P:=fun v H=>eS l3 3 e_66 [v] H Q X) h fun s h=>?_
 obtain ⟨hb,h⟩:=of_iff h
 obtain ⟨hq,hb⟩:=Ba hb
 obtain ⟨hb,hb2⟩:=Ba hb
 obtain ⟨h1,h2⟩:=Ba hb
 obtain ⟨h3,h4⟩:=Ba hb2
 obtain ⟨e,he,h⟩:=of_opt h
 cases e with
 | sq a g im =>
  have h:ssH s a g ∧ ssK s a g im s.canon Q X:=h
  revert h
  exact em_q (P:=fun s'=>ssH s' a g ∧ ssK s' a g im s'.canon Q X → eS l3 3 e_66 [me] (hp s') Q X) s hq (of_nil h1) (of_nil h2) (isNo_is h3) (of_decide_eq_true h4) (evV_ok he) fun ⟨⟨p1,p2,p3,p4,p5⟩,h⟩=>ss_c s a g im p1 p2 p3 p4 p5 Q X s.canon h
 | _=>exact h.elim
noncomputable def ifT:Stmt → List Stmt | .If _ b _ _=>b | _=>[]
noncomputable def ifE:Stmt → List Stmt | .If _ _ b _=>b | _=>[]
noncomputable def loopB:Stmt → List Stmt | .For _ _ b _ _=>b | .While _ b _ _=>b | _=>[]
noncomputable def nthS (n:Nat) (l:List Stmt):Stmt:=match nthL n l with | some s=>s | none=>.Pass ⟨0,0,0,0⟩
noncomputable abbrev tL (l:Fns) (k:Nat):Tab:=withT (upN l k) noC frzT
noncomputable def dsB:List Stmt:=ifT (nthS 0 e_3.bd)
noncomputable def dsF:List Stmt:=loopB (nthS 1 (ifT (nthS 3 dsB)))
noncomputable def dsLoc (f:Bool) (vt:List (Str × SV)):Loc:=(t "self",me) :: (t "first",.bool f) :: vt
noncomputable def dsE (ex:Bool) (ver tg:SV):SV:=.inst 165 [(t "start_mark",.none),(t "end_mark",.none),(t "explicit",.bool ex),(t "version",ver),(t "tags",tg)]
theorem opt_of {α:Type} {o:Option α} {k:α → Prop} {v:α} (e:o = some v) (h:k v):opt o k:=by subst e;exact h
noncomputable def dirT (h p:Str):Str:=(((Str.empty ++ t "%TAG ") ++ h) ++ t " ") ++ p
noncomputable abbrev dirO (s:Em) (h p:Str):Em:={ s with tk:=put p (.str h) s.tk,line:=s.line + 1,col:=0,ws:=true,ind:=true,tx:=(s.tx ++ dirT h p) ++ t "\n",n:=s.n + 1 + 1 }
noncomputable abbrev dirS (s:Em) (h p:Str):Em:={ s with tk:=put p (.str h) s.tk }
noncomputable abbrev dsX (n:Nat):WS:=(wp (tL l3 3) e_3.sc n).S
noncomputable def dirR (s:Em) (h p:Str) (L':Loc) (Qs:QS) (X:XC):Prop:=s.ta = s.ta ∧ iff_ (Nat.ble (lenL (put p (.str h) s.tk)) 1000) (iff_ (hasStr h hanL) (brn (hasStr h hanOk)
 (s.ta = s.ta ∧ iff_ (hasStr p preL) (brn (hasStr p preOk)
  (bnd sizeLine ((Str.empty ++ t "%TAG ") ++ h).length (bnd sizeLine h.length (bnd sizeLine (((Str.empty ++ t "%TAG ") ++ h) ++ t " ").length (bnd sizeLine (dirT h p).length (bnd sizeLine p.length (s.n ≤ 1000000 ∧ s.n + 1 ≤ 1000000 ∧ Qs .next L' (hp (dirO s h p))))))))
  (X (hp (dirS s h p)))))
 (X (hp (dirS s h p)))))
structure DirK (L L':Str → Str → Loc):Prop where
 a:∀ (s:Em) (ex:Bool) (ver:SV) (kvs:List (Str × SV)) (h p:Str) (Qs:QS) (X:XC),exeL (tL l3 3) (dsX 57) dsF (L h p) (hp { s with event:=dsE ex ver (.dct kvs) }) Qs X = opt (lk h kvs) fun v=>exeL (tL l3 3) (dsX 57) (dsF.drop 1) (put (t "prefix") v (L h p)) (hp { s with event:=dsE ex ver (.dct kvs) }) Qs X
 b:∀ (s:Em) (ex:Bool) (ver:SV) (kvs:List (Str × SV)) (h p:Str) (Qs:QS) (X:XC),exeL (tL l3 3) (dsX 57) (dsF.drop 1) (put (t "prefix") (.str p) (L h p)) (hp { s with event:=dsE ex ver (.dct kvs) }) Qs X = dirR { s with event:=dsE ex ver (.dct kvs) } h p (L' h p) Qs X
noncomputable abbrev ds0 (f:Bool) (vt:List (Str × SV)) (hs:SV) (x1:SV):Loc:=dsLoc f (vt ++ [(t "handles",hs),(t "handle",x1)])
noncomputable abbrev ds1 (f:Bool) (vt:List (Str × SV)) (hs:SV) (x1 x2 x3 x4:SV):Loc:=dsLoc f (vt ++ [(t "handles",hs),(t "handle",x1),(t "prefix",x2),(t "handle_text",x3),(t "prefix_text",x4)])
noncomputable abbrev vtL (v:Option SV):List (Str × SV):=match v with | none=>[] | some x=>[(t "version_text",x)]
theorem dk_0 (f:Bool) (hs:SV):∀ v,DirK (fun h _=>ds0 f (vtL v) hs (.str h)) (fun h p=>ds1 f (vtL v) hs (.str h) (.str p) (.str h) (.str p)):=fun v=>match v with
 | none=>⟨fun s ex ver kvs h p Qs X=>by rfl',fun s ex ver kvs h p Qs X=>by rfl'⟩
 | some _=>⟨fun s ex ver kvs h p Qs X=>by rfl',fun s ex ver kvs h p Qs X=>by rfl'⟩
theorem dk_1 (f:Bool) (hs x2 x3 x4:SV):∀ v,DirK (fun h _=>ds1 f (vtL v) hs (.str h) x2 x3 x4) (fun h p=>ds1 f (vtL v) hs (.str h) (.str p) (.str h) (.str p)):=fun v=>match v with
 | none=>⟨fun s ex ver kvs h p Qs X=>by rfl',fun s ex ver kvs h p Qs X=>by rfl'⟩
 | some _=>⟨fun s ex ver kvs h p Qs X=>by rfl',fun s ex ver kvs h p Qs X=>by rfl'⟩
noncomputable def dirL (kvs:List (Str × SV)):List Str → List (Str × SV) → Str × Bool × List (Str × SV)
 | [],tk=>(Str.empty,true,tk)
 | h :: r,tk=>(match lk h kvs with
  | some v=>(match and (hasStr h hanOk) (hasStr (theS v) preOk) with
   | true=>(dirT h (theS v) ++ (t "\n" ++ (dirL kvs r (put (theS v) (.str h) tk)).1),(dirL kvs r (put (theS v) (.str h) tk)).2)
   | false=>(Str.empty,false,tk))
  | none=>(Str.empty,false,tk))
noncomputable def dirC (kvs:List (Str × SV)) (h:Str):Prop:=∃ p,lk h kvs = some (.str p) ∧ hasStr h hanL = true ∧ hasStr p preL = true
theorem han_len:∀ h ∈ hanL,h.length ≤ 10:=by decide +kernel
theorem pre_len:∀ h ∈ preL,h.length ≤ 20:=by decide +kernel
theorem putL_len {x:Str} {v:SV} {l:List (Str × SV)}:lenL (put x v l) ≤ lenL l + 1:=by
 induction l with
 | nil=>exact Nat.le_refl _
 | cons p r ih =>
  rw [put_cons]
  cases sbeq x p.1 with
  | true=>exact Nat.le_succ _
  | false=>exact Nat.succ_le_succ ih
theorem dir_turn {L L':Str → Str → Loc} (K:DirK L L') (s:Em) (ex:Bool) (ver:SV) (kvs:List (Str × SV)) {h:Str} {p:Str} (e:lk h kvs = some (.str p)) (hh:hasStr h hanL = true) (hp':hasStr p preL = true) (hn:s.n ≤ 900000) (hk:lenL s.tk ≤ 500) (Qs:QS) (X:XC)
  (q:and (hasStr h hanOk) (hasStr p preOk) = true → Qs .next (L' h p) (hp (dirO { s with event:=dsE ex ver (.dct kvs) } h p))) (x:and (hasStr h hanOk) (hasStr p preOk) = false → X (hp (dirS { s with event:=dsE ex ver (.dct kvs) } h p))) :
  exeL (tL l3 3) (dsX 57) dsF (L h p) (hp { s with event:=dsE ex ver (.dct kvs) }) Qs X:=by
 rw [K.a s ex ver kvs h p Qs X]
 refine opt_of e ?_
 rw [K.b s ex ver kvs h p Qs X]
 have l1:=han_len h (has_mem hh)
 have l2:=pre_len p (has_mem hp')
 have l3:((Str.empty ++ t "%TAG ") ++ h).length ≤ 20:=by rw [La];exact Nl (Nd l1 _) (by decide)
 have l4:(((Str.empty ++ t "%TAG ") ++ h) ++ t " ").length ≤ 30:=by rw [La];exact Nl (Nat.add_le_add_right l3 _) (by decide)
 have l5:(dirT h p).length ≤ 50:=by unfold dirT;rw [La];exact Nat.add_le_add l4 l2
 refine ⟨rfl,iff_of (Nat.ble_eq_true_of_le (Nl putL_len (Nl (Nat.succ_le_succ hk) (by decide)))) (iff_of hh (brn_of (fun e1=>⟨rfl,iff_of hp' (brn_of (fun e2=>?_) (fun e2=>?_))⟩) (fun e1=>?_)))⟩
 ·exact bnd_of (Nl l3 (by decide)) (bnd_of (Nl l1 (by decide)) (bnd_of (Nl l4 (by decide)) (bnd_of (Nl l5 (by decide)) (bnd_of (Nl l2 (by decide)) ⟨Nl hn (by decide),nb hn 1 rfl,q (by rw [e1,e2];rfl)⟩))))
 ·exact x (by rw [e1,e2];rfl)
 ·exact x (by rw [e1];rfl)
noncomputable abbrev dS (s:Em) (ex:Bool) (ver:SV) (kvs tk:List (Str × SV)) (tx:Str) (line:Int) (n:Nat):Em:={ s with event:=dsE ex ver (.dct kvs),tk:=tk,tx:=tx,line:=line,n:=n,ws:=true,ind:=true,col:=0 }
theorem dir_loop (s:Em) (ex:Bool) (ver:SV) (kvs:List (Str × SV)) (f:Bool) (v:Option SV) (hs:SV) (Qs:QS) (X:XC) (l:List Str):∀ (tk:List (Str × SV)) (tx:Str) (line:Int) (n:Nat) (h p:Str),(∀ h ∈ l,dirC kvs h) → n + 2 * l.length ≤ 900000 → lenL tk + l.length ≤ 500 →
  ((dirL kvs l tk).2.1 = true → ∀ line n' h p,n' ≤ n + 2 * l.length → Qs .next (ds1 f (vtL v) hs (.str h) (.str p) (.str h) (.str p)) (hp (dS s ex ver kvs (dirL kvs l tk).2.2 (tx ++ (dirL kvs l tk).1) line n'))) →
  ((dirL kvs l tk).2.1 = false → ∀ s':Em,s'.tx = tx ++ (dirL kvs l tk).1 → X (hp s')) →
  forL (tL l3 3) (dsX 57) (t "handle") dsF (l.map .str) (ds1 f (vtL v) hs (.str h) (.str p) (.str h) (.str p)) (hp (dS s ex ver kvs tk tx line n)) Qs X:=by
 induction l with
 | nil =>
  intro tk tx line n h p _ _ _ q x
  have k:=q rfl line n h p (Nat.le_add_right _ _)
  have e:tx ++ (dirL kvs [] tk).1 = tx:=Ae tx
  rw [e] at k
  exact k
 | cons h' r ih =>
  intro tk tx line n h p hc hn hk q x
  obtain ⟨p',e,c1,c2⟩:=hc h' (.head _)
  have hn:n + 2 * r.length + 2 ≤ 900000:=hn
  have hk:lenL tk + r.length + 1 ≤ 500:=hk
  have hput:put (t "handle") (.str h') (ds1 f (vtL v) hs (.str h) (.str p) (.str h) (.str p)) = ds1 f (vtL v) hs (.str h') (.str p) (.str h) (.str p):=by cases v <;> kernel_rfl
  show exeL (tL l3 3) (dsX 57) dsF (put (t "handle") (.str h') (ds1 f (vtL v) hs (.str h) (.str p) (.str h) (.str p))) _ (fun fl loc H=>afterV fl loc H Qs fun loc H=>forL (tL l3 3) (dsX 57) (t "handle") dsF (r.map .str) loc H Qs X) X
  rw [hput]
  have hd:dirL kvs (h' :: r) tk = (match and (hasStr h' hanOk) (hasStr p' preOk) with
   | true=>(dirT h' p' ++ (t "\n" ++ (dirL kvs r (put p' (.str h') tk)).1),(dirL kvs r (put p' (.str h') tk)).2)
   | false=>(Str.empty,false,tk)):=by
   show (match lk h' kvs with | some v=>_ | none=>_) = _
   rw [e];rfl
  rw [hd] at q x
  refine dir_turn (dk_1 f hs (.str p) (.str h) (.str p) v) (dS s ex ver kvs tk tx line n) ex ver kvs e c1 c2 (by show n ≤ _;(first | lia | omega)) (by show lenL tk ≤ _;(first | lia | omega)) _ _ (fun eo=>?_) (fun eo=>?_)
  ·rw [eo] at q x
   have hl:=putL_len (x:=p') (v:=.str h') (l:=tk)
   have ea:∀ y,(tx ++ dirT h' p' ++ t "\n") ++ y = tx ++ (dirT h' p' ++ (t "\n" ++ y)):=fun y=>by rw [Aa,Aa]
   refine ih (put p' (.str h') tk) (tx ++ dirT h' p' ++ t "\n") (line + 1) (n + 1 + 1) h' p' (fun y hy=>hc y (.tail _ hy)) (by (first | lia | omega)) (by (first | lia | omega)) (fun e1 line n' h p hn'=>?_) (fun e1 s' hs'=>?_)
   ·rw [ea]
    exact q e1 line n' h p (by show n' ≤ n + 2 * (r.length + 1);(first | lia | omega))
   ·exact x e1 s' (by rw [hs',ea])
  ·rw [eo] at x
   exact x rfl _ (Ae tx).symm
noncomputable abbrev m395:SV:=.meth 395 me
noncomputable def hpD (d:Bool) (s:Em):Hp:=match d with | true=>hp s | false=>hp0 s .none
noncomputable abbrev verV (m:Int):SV:=.tup [.int 1,.int m]
noncomputable abbrev dsI (s:Em) (ex:Bool) (ver tg:SV) (a g:SV) (im:Bool) (c:Bool):Em:={ s with states:=[],events:=[evK (.sq a g im)],event:=dsE ex ver tg,indents:=[],indent:=.none,flow:=0,pan:=.none,ptg:=.none,ana:=.none,sty:=.none,oe:=false,canon:=c,ws:=true,ind:=true,col:=0 }
noncomputable def mkB (f ex c vn tn:Bool):Bool:=!(and f (and (!ex) (and (!c) (and vn tn))))
noncomputable abbrev dsO (s:Em) (mk c:Bool) (tx:Str) (ta:Addr) (tk:List (Str × SV)) (line:Int) (n:Nat):Em:={ s with state:=m395,ta:=ta,tk:=tk,tx:=tx,line:=line,n:=n,ws:=or c (!mk),ind:=or c (!mk),col:=(match and mk (!c) with | true=>3 | false=>0) }
noncomputable def dsN (s:Em) (mk c:Bool) (tk:List (Str × SV)) (tx:Str) (line:Int) (n:Nat) (Q:QV):Prop:=∀ a':Addr,match mk with
 | false=>Q .none (hp (dsO s false c tx a' tk line n))
 | true=>a' = a' ∧ a' = a' ∧ n ≤ 1000000 ∧ (match c with
  | false=>Q .none (hp (dsO s true false (tx ++ t "---") a' tk line (n + 1)))
  | true=>a' = a' ∧ n + 1 ≤ 1000000 ∧ Q .none (hp (dsO s true true ((tx ++ t "---") ++ t "\n") a' tk (line + 1) (n + 1 + 1))))
noncomputable abbrev dsS (d:Bool) (s:Em) (f:Bool) (Q:QV) (X:XC):Prop:=eS l3 3 e_3 [me,.bool f] (hpD d s) Q X
theorem dsN_0 (s:Em) (a g:SV) (im:Bool) (Q:QV) (X:XC):∀ d f ex c,dsS d (dsI s ex .none .none a g im c) f Q X = dsN (dsI s ex .none .none a g im c) (mkB f ex c true true) c tpK s.tx s.line s.n Q :=
 fun d=>match d with
 | true=>b3_all (by rfl') (by rfl') (by rfl') (by rfl') (by rfl') (by rfl') (by rfl') (by rfl')
 | false=>b3_all (by rfl') (by rfl') (by rfl') (by rfl') (by rfl') (by rfl') (by rfl') (by rfl')
noncomputable def verT (m:Int):Str:=t "%YAML " ++ (t "1." ++ Str.ofString (toString m))
noncomputable abbrev verTx (s:Em) (m:Int):Str:=(s.tx ++ verT m) ++ t "\n"
noncomputable def VerN (m:Int):Prop:=∀ (s:Em) (a g:SV) (im:Bool) (Q:QV) (X:XC) (d f ex c:Bool),dsS d (dsI s ex (verV m) .none a g im c) f Q X = (s.n ≤ 1000000 ∧ s.n + 1 ≤ 1000000 ∧ dsN (dsI s ex (verV m) .none a g im c) true c tpK (verTx s m) (s.line + 1) (s.n + 1 + 1) Q)
theorem verN_1:VerN 1:=fun s a g im Q X d=>match d with
 | true=>b3_all (by rfl') (by rfl') (by rfl') (by rfl') (by rfl') (by rfl') (by rfl') (by rfl')
 | false=>b3_all (by rfl') (by rfl') (by rfl') (by rfl') (by rfl') (by rfl') (by rfl') (by rfl')
theorem verN_0:VerN 0:=fun s a g im Q X d=>match d with
 | true=>b3_all (by rfl') (by rfl') (by rfl') (by rfl') (by rfl') (by rfl') (by rfl') (by rfl')
 | false=>b3_all (by rfl') (by rfl') (by rfl') (by rfl') (by rfl') (by rfl') (by rfl') (by rfl')
theorem verN_23:VerN 23:=fun s a g im Q X d=>match d with
 | true=>b3_all (by rfl') (by rfl') (by rfl') (by rfl') (by rfl') (by rfl') (by rfl') (by rfl')
 | false=>b3_all (by rfl') (by rfl') (by rfl') (by rfl') (by rfl') (by rfl') (by rfl') (by rfl')
theorem verN_2:VerN 2:=fun s a g im Q X d=>match d with
 | true=>b3_all (by rfl') (by rfl') (by rfl') (by rfl') (by rfl') (by rfl') (by rfl') (by rfl')
 | false=>b3_all (by rfl') (by rfl') (by rfl') (by rfl') (by rfl') (by rfl') (by rfl') (by rfl')
theorem ver_x (s:Em) (a g tg:SV) (im:Bool) (Q:QV) (X:XC) (f ex c:Bool):∀ d,dsS d (dsI s ex (.tup [.int 2,.int 0]) tg a g im c) f Q X = ∀ _:Str,X (hpD d (dsI s ex (.tup [.int 2,.int 0]) tg a g im c)):=fun d=>match d with | true=>(by rfl') | false=>(by rfl')
noncomputable def aft1 (T:Tab) (S:WS) (s:Stmt) (ss:List Stmt) (Q:QS) (X:XC):QS:=fun f loc H=>afterV f loc H Q fun loc H=>frzV T (stLine s) loc H fun loc H=>exeL T S ss loc H Q X
noncomputable def endQ (Q:QV):QS:=fun f _ H=>match f with | .next=>Q .none H | .ret v=>Q v H
theorem aft_next {T:Tab} {S:WS} {s:Stmt} {ss:List Stmt} {Q:QS} {X:XC} {loc:Loc} {H:Hp} (hf:lkN (stLine s) T.frz = none) (h:exeL T S ss loc H Q X):aft1 T S s ss Q X .next loc H:=by
 show frzV T (stLine s) loc H (fun loc H=>exeL T S ss loc H Q X)
 unfold frzV
 rw [hf]
 exact h
noncomputable def tstO:Stmt → Expr | .If e _ _ _=>e | .While e _ _ _=>e | .For _ e _ _ _=>e | _=>.Constant .none 0 ⟨0,0,0,0⟩
noncomputable def posO:Stmt → Pos | .If _ _ _ p=>p | .While _ _ _ p=>p | .For _ _ _ _ p=>p | _=>⟨0,0,0,0⟩
theorem st_if {T:Tab} {sc:Scope} {n:Nat} {s:Stmt} {loc:Loc} {H:Hp} {Q:QS} {X:XC} (hs:s = .If (tstO s) (ifT s) (ifE s) (posO s)) (hB:∀ K:QB,K true H → (wp T sc n).B (tstO s) loc H K X) (h:exeL T (wp T sc n).S (ifT s) loc H Q X):(wp T sc (n + 1)).S s loc H Q X:=by
 rw [hs]
 show (wp T sc n).B (tstO s) loc H (fun c H=>brn c (exeL T (wp T sc n).S (ifT s) loc H Q X) (exeL T (wp T sc n).S (ifE s) loc H Q X)) X
 exact hB _ h
theorem st_for {T:Tab} {sc:Scope} {n:Nat} {s:Stmt} {px:Pos} {x:Str} {xs:List SV} {loc:Loc} {H:Hp} {Q:QS} {X:XC} (hs:s = .For (.Name x px) (tstO s) (loopB s) [] (posO s)) (h1:and (noComp (tstO s)) (loN sc x) = true) (h2:srcF sc (tstO s) = .val) (hE:∀ K:QV,K (.lst xs) H → (wp T sc n).E (tstO s) loc H K X)
  (h:forL T (wp T sc n).S x (loopB s) xs loc H Q X):(wp T sc (n + 1)).S s loc H Q X:=by
 rw [hs]
 show iff_ (and (noComp (tstO s)) (loN sc x)) (forS T sc (wp T sc n) x (tstO s) (loopB s) loc H Q X)
 refine iff_of h1 ?_
 unfold forS
 rw [h2]
 show (wp T sc n).E (tstO s) loc H (fun v H=>itrV v fun xs=>forL T (wp T sc n).S x (loopB s) xs loc H Q X) X
 exact hE _ h
noncomputable abbrev dsA (Q:QV) (X:XC):QS:=aft1 (tL l3 3) (dsX 60) (nthS 0 e_3.bd) [] (endQ fun v H=>Q v (delL [] H)) X
noncomputable abbrev dsZ (Q:QV) (X:XC):QS:=aft1 (tL l3 3) (dsX 59) (nthS 3 dsB) (dsB.drop 4) (dsA Q X) X
theorem inl_eq (T:Tab) (sc:Scope) (bd:List Stmt) (ns:List (Str × Nat)) (dfl:List SV) (dr:List Nat) (xs:List SV) (H:Hp) (Q:QV) (X:XC):inl T sc bd ns dfl dr xs H Q X = exeL T (wp T sc 60).S bd (pickL ns (xs ++ dfl)) H (endQ fun v H=>Q v (delL dr H)) X:=rfl
theorem ds_bd:e_3.bd = [nthS 0 e_3.bd]:=by rfl'
theorem ds_ns (f:Bool):pickL e_3.ns ([me,.bool f] ++ e_3.dfl) = dsLoc f []:=by rfl'
theorem ds_if:nthS 0 e_3.bd = .If (tstO (nthS 0 e_3.bd)) (ifT (nthS 0 e_3.bd)) (ifE (nthS 0 e_3.bd)) (posO (nthS 0 e_3.bd)):=by rfl'
theorem ds_t0 (s:Em) (a g ver tg:SV) (im c:Bool) (X:XC) (f ex:Bool) (K:QB):∀ d,(wp (tL l3 3) e_3.sc 59).B (tstO (nthS 0 e_3.bd)) (dsLoc f []) (hpD d (dsI s ex ver tg a g im c)) K X = K true (hpD d (dsI s ex ver tg a g im c))
 | true=>(by rfl')
 | false=>(by rfl')
theorem inl_of {T:Tab} {sc:Scope} {bd:List Stmt} {ns:List (Str × Nat)} {dfl:List SV} {dr:List Nat} {xs:List SV} {H:Hp} {Q:QV} {X:XC} {s:Stmt} {loc:Loc} (hb:bd = [s]) (hn:pickL ns (xs ++ dfl) = loc) (h:(wp T sc 60).S s loc H (aft1 T (wp T sc 60).S s [] (endQ fun v H=>Q v (delL dr H)) X) X):inl T sc bd ns dfl dr xs H Q X:=by
 subst hb hn
 exact h
theorem ds_in (s:Em) (a g ver tg:SV) (im c:Bool) (Q:QV) (X:XC) (f ex:Bool) (d:Bool) (h:exeL (tL l3 3) (dsX 59) dsB (dsLoc f []) (hpD d (dsI s ex ver tg a g im c)) (dsA Q X) X):dsS d (dsI s ex ver tg a g im c) f Q X :=
 inl_of (T:=tL l3 3) (sc:=e_3.sc) (dr:=[]) ds_bd (ds_ns f) (st_if ds_if (fun K=>(ds_t0 s a g ver tg im c X f ex K d).mpr) h)
theorem ds_l:dsB = nthS 0 dsB :: nthS 1 dsB :: nthS 2 dsB :: nthS 3 dsB :: dsB.drop 4:=by rfl'
theorem ds_fr0:lkN (stLine (nthS 0 dsB)) (tL l3 3).frz = none:=by rfl'
theorem ds_fr1:lkN (stLine (nthS 1 dsB)) (tL l3 3).frz = none:=by rfl'
theorem ds_fr2:lkN (stLine (nthS 2 dsB)) (tL l3 3).frz = none:=by rfl'
theorem ds_fr3:lkN (stLine (nthS 3 dsB)) (tL l3 3).frz = none:=by rfl'
theorem ds_if3:nthS 3 dsB = .If (tstO (nthS 3 dsB)) (ifT (nthS 3 dsB)) (ifE (nthS 3 dsB)) (posO (nthS 3 dsB)):=by rfl'
noncomputable def dsC:List Stmt:=ifT (nthS 3 dsB)
theorem ds_lc:ifT (nthS 3 dsB) = [nthS 0 dsC,nthS 1 dsC]:=by rfl'
theorem ds_frc:lkN (stLine (nthS 0 dsC)) (tL l3 3).frz = none:=by rfl'
theorem ds_frd:lkN (stLine (nthS 1 dsC)) (tL l3 3).frz = none:=by rfl'
theorem ds_lb:loopB (nthS 1 dsC) = dsF:=by rfl'
noncomputable def tgtP:Stmt → Pos | .For (.Name _ p) _ _ _ _=>p | _=>⟨0,0,0,0⟩
theorem ds_for:nthS 1 dsC = .For (.Name (t "handle") (tgtP (nthS 1 dsC))) (tstO (nthS 1 dsC)) (loopB (nthS 1 dsC)) [] (posO (nthS 1 dsC)):=by rfl'
theorem ds_for1:and (noComp (tstO (nthS 1 dsC))) (loN e_3.sc (t "handle")) = true:=by rfl'
theorem ds_for2:srcF e_3.sc (tstO (nthS 1 dsC)) = .val:=by rfl'
noncomputable def hsV (kvs:List (Str × SV)):SV:=.lst ((sortS (kvs.map (·.1))).map .str)
noncomputable def verS (w:Option Int):SV:=match w with | none=>.none | some m=>verV m
noncomputable def vtS (w:Option Int):Option SV:=match w with | none=>none | some m=>some (.str (t "1." ++ Str.ofString (toString m)))
noncomputable abbrev dvI (s:Em) (w:Option Int):Em:=match w with | none=>s | some m=>{ s with tx:=verTx s m,line:=s.line + 1,n:=s.n + 1 + 1 }
section
variable (s:Em) (a g:SV) (im c f ex:Bool) (q:Str × SV) (r:List (Str × SV)) (Qv:QS) (X:XC)
theorem ds_s0t (x y:SV):∀ (d:Bool),(dsX 59) (nthS 0 dsB) (dsLoc f []) (hpD d (dsI s ex (.tup [x,y]) (.dct (q :: r)) a g im c)) Qv X = Qv .next (dsLoc f []) (hpD d (dsI s ex (.tup [x,y]) (.dct (q :: r)) a g im c))
 | true=>(by rfl')
 | false=>(by rfl')
theorem ds_s0n:∀ (d:Bool),(dsX 59) (nthS 0 dsB) (dsLoc f []) (hpD d (dsI s ex .none (.dct (q :: r)) a g im c)) Qv X = bnd sizeLine (q :: r).length (Qv .next (dsLoc f []) (hpD d (dsI s ex .none (.dct (q :: r)) a g im c)))
 | true=>(by rfl')
 | false=>(by rfl')
theorem ds_s1n:∀ d,(dsX 59) (nthS 1 dsB) (dsLoc f []) (hpD d (dsI s ex .none (.dct (q :: r)) a g im c)) Qv X = Qv .next (dsLoc f []) (hpD d (dsI s ex .none (.dct (q :: r)) a g im c))
 | true=>(by rfl')
 | false=>(by rfl')
noncomputable def VerP (m:Int):Prop:=∀ (s:Em) (a g:SV) (im c f ex:Bool) (q:Str × SV) (r:List (Str × SV)) (Qv:QS) (X:XC) (d:Bool),(dsX 59) (nthS 1 dsB) (dsLoc f []) (hpD d (dsI s ex (verV m) (.dct (q :: r)) a g im c)) Qv X = (s.n ≤ 1000000 ∧ s.n + 1 ≤ 1000000 ∧ Qv .next (dsLoc f [(t "version_text",.str (t "1." ++ Str.ofString (toString m)))]) (hpD d { dsI s ex (verV m) (.dct (q :: r)) a g im c with tx:=verTx s m,line:=s.line + 1,n:=s.n + 1 + 1 }))
theorem verP_1:VerP 1:=fun s a g im c f ex q r Qv X d=>match d with | true=>(by rfl') | false=>(by rfl')
theorem verP_0:VerP 0:=fun s a g im c f ex q r Qv X d=>match d with | true=>(by rfl') | false=>(by rfl')
theorem verP_23:VerP 23:=fun s a g im c f ex q r Qv X d=>match d with | true=>(by rfl') | false=>(by rfl')
theorem verP_2:VerP 2:=fun s a g im c f ex q r Qv X d=>match d with | true=>(by rfl') | false=>(by rfl')
theorem ds_s2 (ver tg:SV) (tx:Str) (line:Int) (n:Nat) (v:List (Str × SV)):∀ d,(dsX 59) (nthS 2 dsB) (dsLoc f v) (hpD d { dsI s ex ver tg a g im c with tx:=tx,line:=line,n:=n }) Qv X = ∀ a':Addr,Qv .next (dsLoc f v) (hp { dsI s ex ver tg a g im c with tx:=tx,line:=line,n:=n,ta:=a',tk:=tpK })
 | true=>(by rfl')
 | false=>(by rfl')
theorem ds_t3 (ver:SV) (tx:Str) (line:Int) (n:Nat) (v:List (Str × SV)) (a':Addr) (K:QB):(wp (tL l3 3) e_3.sc 58).B (tstO (nthS 3 dsB)) (dsLoc f v) (hp { dsI s ex ver (.dct (q :: r)) a g im c with tx:=tx,line:=line,n:=n,ta:=a',tk:=tpK }) K X = bnd sizeLine (q :: r).length (K true (hp { dsI s ex ver (.dct (q :: r)) a g im c with tx:=tx,line:=line,n:=n,ta:=a',tk:=tpK })):=by rfl'
end
noncomputable abbrev dsM (s:Em) (ex:Bool) (ver:SV) (kvs:List (Str × SV)) (a g:SV) (im c:Bool) (ta:Addr) (tk:List (Str × SV)) (tx:Str) (line:Int) (n:Nat):Em:={ dsI s ex ver (.dct kvs) a g im c with ta:=ta,tk:=tk,tx:=tx,line:=line,n:=n }
section
variable (s:Em) (a g ver:SV) (im c f ex:Bool) (q:Str × SV) (r:List (Str × SV)) (Qv:QS) (X:XC) (ta:Addr) (tk:List (Str × SV)) (tx:Str) (line:Int) (n:Nat)
theorem ds_c0:∀ v:Option SV,(dsX 58) (nthS 0 dsC) (dsLoc f (vtL v)) (hp (dsM s ex ver (q :: r) a g im c ta tk tx line n)) Qv X = iff_ (Nat.ble (q :: r).length 60) (Qv .next (dsLoc f (vtL v ++ [(t "handles",hsV (q :: r))])) (hp (dsM s ex ver (q :: r) a g im c ta tk tx line n)))
 | none=>(by rfl')
 | some _=>(by rfl')
theorem ds_c1 (K:QV):∀ v:Option SV,(wp (tL l3 3) e_3.sc 57).E (tstO (nthS 1 dsC)) (dsLoc f (vtL v ++ [(t "handles",hsV (q :: r))])) (hp (dsM s ex ver (q :: r) a g im c ta tk tx line n)) K X = K (.lst ((sortS ((q :: r).map (·.1))).map .str)) (hp (dsM s ex ver (q :: r) a g im c ta tk tx line n))
 | none=>(by rfl')
 | some _=>(by rfl')
end
noncomputable def dsRv (s:Em) (c:Bool) (tx:Str) (ta:Addr) (tk:List (Str × SV)) (line:Int) (n:Nat) (Q:Hp → Prop):Prop:=ta = ta ∧ ta = ta ∧ n ≤ 1000000 ∧ (match c with
  | false=>Q (hp (dsO s true false (tx ++ t "---") ta tk line (n + 1)))
  | true=>ta = ta ∧ n + 1 ≤ 1000000 ∧ Q (hp (dsO s true true ((tx ++ t "---") ++ t "\n") ta tk (line + 1) (n + 1 + 1))))
theorem ds_restT (s:Em) (a g hs h1 h2 h3 h4 x y w:SV) (im:Bool) (q:Str × SV) (r:List (Str × SV)) (Qv:QS) (X:XC) (ta:Addr) (tk:List (Str × SV)) (tx:Str) (line:Int) (n:Nat):∀ f ex c,exeL (tL l3 3) (dsX 59) (dsB.drop 4) (ds1 f (vtL (some w)) hs h1 h2 h3 h4) (hp (dsM s ex (.tup [x,y]) (q :: r) a g im c ta tk tx line n)) Qv X =
  dsRv (dsI s ex (.tup [x,y]) (.dct (q :: r)) a g im c) c tx ta tk line n fun H=>Qv .next (ds1 f (vtL (some w)) hs h1 h2 h3 h4 ++ [(t "implicit",.bool false)]) H :=
 b3_all (by rfl') (by rfl') (by rfl') (by rfl') (by rfl') (by rfl') (by rfl') (by rfl')
theorem ds_restN (s:Em) (a g hs h1 h2 h3 h4:SV) (im:Bool) (q:Str × SV) (r:List (Str × SV)) (Qv:QS) (X:XC) (ta:Addr) (tk:List (Str × SV)) (tx:Str) (line:Int) (n:Nat):∀ f ex c,exeL (tL l3 3) (dsX 59) (dsB.drop 4) (ds1 f (vtL none) hs h1 h2 h3 h4) (hp (dsM s ex .none (q :: r) a g im c ta tk tx line n)) Qv X =
  (match and f (and (!ex) (!c)) with
  | true=>bnd sizeLine (q :: r).length (dsRv (dsI s ex .none (.dct (q :: r)) a g im c) c tx ta tk line n fun H=>Qv .next (ds1 f (vtL none) hs h1 h2 h3 h4 ++ [(t "implicit",.bool false)]) H)
  | false=>dsRv (dsI s ex .none (.dct (q :: r)) a g im c) c tx ta tk line n fun H=>Qv .next (ds1 f (vtL none) hs h1 h2 h3 h4 ++ [(t "implicit",.bool false)]) H) :=
 b3_all (by rfl') (by rfl') (by rfl') (by rfl') (by rfl') (by rfl') (by rfl') (by rfl')
theorem dir_all (s:Em) (ex:Bool) (ver:SV) (kvs:List (Str × SV)) (f:Bool) (v:Option SV) (hs:SV) (Qs:QS) (X:XC) (h':Str) (r:List Str) (tk:List (Str × SV)) (tx:Str) (line:Int) (n:Nat) (hc:∀ h ∈ h' :: r,dirC kvs h) (hn:n + 2 * r.length + 2 ≤ 900000) (hk:lenL tk + r.length + 1 ≤ 500)
  (q:(dirL kvs (h' :: r) tk).2.1 = true → ∀ line n' h p,n' ≤ n + 2 * r.length + 2 → Qs .next (ds1 f (vtL v) hs (.str h) (.str p) (.str h) (.str p)) (hp (dS s ex ver kvs (dirL kvs (h' :: r) tk).2.2 (tx ++ (dirL kvs (h' :: r) tk).1) line n')))
  (x:(dirL kvs (h' :: r) tk).2.1 = false → ∀ s':Em,s'.tx = tx ++ (dirL kvs (h' :: r) tk).1 → X (hp s')) :
  forL (tL l3 3) (dsX 57) (t "handle") dsF ((h' :: r).map .str) (dsLoc f (vtL v ++ [(t "handles",hs)])) (hp { s with event:=dsE ex ver (.dct kvs),tk:=tk,tx:=tx,line:=line,n:=n }) Qs X:=by
 obtain ⟨p',e,c1,c2⟩:=hc h' (.head _)
 have hput:put (t "handle") (.str h') (dsLoc f (vtL v ++ [(t "handles",hs)])) = ds0 f (vtL v) hs (.str h'):=by cases v <;> kernel_rfl
 show exeL (tL l3 3) (dsX 57) dsF (put (t "handle") (.str h') (dsLoc f (vtL v ++ [(t "handles",hs)]))) _ (fun fl loc H=>afterV fl loc H Qs fun loc H=>forL (tL l3 3) (dsX 57) (t "handle") dsF (r.map .str) loc H Qs X) X
 rw [hput]
 have hd:dirL kvs (h' :: r) tk = (match and (hasStr h' hanOk) (hasStr p' preOk) with
  | true=>(dirT h' p' ++ (t "\n" ++ (dirL kvs r (put p' (.str h') tk)).1),(dirL kvs r (put p' (.str h') tk)).2)
  | false=>(Str.empty,false,tk)):=by
  show (match lk h' kvs with | some v=>_ | none=>_) = _
  rw [e];rfl
 rw [hd] at q x
 refine dir_turn (dk_0 f hs v) { s with tk:=tk,tx:=tx,line:=line,n:=n } ex ver kvs e c1 c2 (by show n ≤ _;(first | lia | omega)) (by show lenL tk ≤ _;(first | lia | omega)) _ _ (fun eo=>?_) (fun eo=>?_)
 ·rw [eo] at q x
  have hl:=putL_len (x:=p') (v:=.str h') (l:=tk)
  have ea:∀ y,(tx ++ dirT h' p' ++ t "\n") ++ y = tx ++ (dirT h' p' ++ (t "\n" ++ y)):=fun y=>by rw [Aa,Aa]
  refine dir_loop s ex ver kvs f v hs Qs X r (put p' (.str h') tk) (tx ++ dirT h' p' ++ t "\n") (line + 1) (n + 1 + 1) h' p' (fun y hy=>hc y (.tail _ hy)) (by (first | lia | omega)) (by (first | lia | omega)) (fun e1 line n' h p hn'=>?_) (fun e1 s' hs'=>?_)
  ·rw [ea]
   exact q e1 line n' h p (by (first | lia | omega))
  ·exact x e1 s' (by rw [hs',ea])
 ·rw [eo] at x
  exact x rfl _ (Ae tx).symm
theorem insS_ne (s:Str) (l:List Str):∃ h r,insS s l = h :: r:=by
 cases l with
 | nil=>exact ⟨_,_,rfl⟩
 | cons u r =>
  show ∃ h r',(match decide (u.cps.toList < s.cps.toList) with | true=>u :: insS s r | false=>s :: u :: r) = h :: r'
  cases decide (u.cps.toList < s.cps.toList) <;> exact ⟨_,_,rfl⟩
theorem sortS_ne (s:Str) (l:List Str):∃ h r,sortS (s :: l) = h :: r:=insS_ne s (sortS l)
theorem ds_fr9:lkN (stLine (nthS 0 e_3.bd)) (tL l3 3).frz = none:=by rfl'
noncomputable def dsEnd (c:Bool) (tx:Str):Str:=match c with | false=>tx ++ t "---" | true=>(tx ++ t "---") ++ t "\n"
theorem dsRv_of {s:Em} {c:Bool} {tx:Str} {ta:Addr} {tk:List (Str × SV)} {line:Int} {n:Nat} {Q:Hp → Prop} (hn:n ≤ 900000) (h:∀ line n',n' ≤ n + 2 → Q (hp (dsO s true c (dsEnd c tx) ta tk line n'))):dsRv s c tx ta tk line n Q:=by
 refine ⟨rfl,rfl,Nl hn (by decide),?_⟩
 cases c with
 | false=>exact h line (n + 1) (Nat.le_succ _)
 | true=>exact ⟨rfl,nb hn 1 rfl,h (line + 1) (n + 1 + 1) (Nat.le_refl _)⟩
theorem ds_frA (Q:QV) (X:XC) (loc:Loc) (H:Hp) (h:Q .none H):dsA Q X .next loc H:=aft_next ds_fr9 h
theorem ds_tail (s:Em) (ex:Bool) (w:Option Int) (q:Str × SV) (r:List (Str × SV)) (a g:SV) (im c f:Bool) (a':Addr) (tx:Str) (line:Int) (n:Nat) (Q:QV) (X:XC) (hr:r.length ≤ 1) (hc:∀ h ∈ sortS ((q :: r).map (·.1)),dirC (q :: r) h) (hl:(sortS ((q :: r).map (·.1))).length ≤ 2) (hn:n ≤ 800000)
  (h1:(dirL (q :: r) (sortS ((q :: r).map (·.1))) tpK).2.1 = true → ∀ line n',n' ≤ n + 10 → Q .none (hp (dsO (dsI s ex (verS w) (.dct (q :: r)) a g im c) true c (dsEnd c (tx ++ (dirL (q :: r) (sortS ((q :: r).map (·.1))) tpK).1)) a' (dirL (q :: r) (sortS ((q :: r).map (·.1))) tpK).2.2 line n')))
  (h0:(dirL (q :: r) (sortS ((q :: r).map (·.1))) tpK).2.1 = false → ∀ s':Em,s'.tx = tx ++ (dirL (q :: r) (sortS ((q :: r).map (·.1))) tpK).1 → X (hp s')) :
  exeL (tL l3 3) (dsX 59) (nthS 3 dsB :: dsB.drop 4) (dsLoc f (vtL (vtS w))) (hp (dsM s ex (verS w) (q :: r) a g im c a' tpK tx line n)) (dsA Q X) X:=by
 have hlen:(q :: r).length ≤ sizeLine:=Nl (Nat.succ_le_succ hr) (by decide)
 have hlb:Nat.ble (q :: r).length 60 = true:=Nat.ble_eq_true_of_le (Nl (Nat.succ_le_succ hr) (by decide))
 show (dsX 59) (nthS 3 dsB) _ _ (dsZ Q X) X
 refine st_if ds_if3 (fun K hK=>(ds_t3 s a g im c f ex q r X (verS w) tx line n (vtL (vtS w)) a' K).mpr (bnd_of hlen hK)) ?_
 rw [ds_lc]
 show (dsX 58) (nthS 0 dsC) _ _ (aft1 (tL l3 3) (dsX 58) (nthS 0 dsC) [nthS 1 dsC] (dsZ Q X) X) X
 refine (ds_c0 s a g (verS w) im c f ex q r _ X a' tpK tx line n (vtS w)).mpr (iff_of hlb (aft_next ds_frc ?_))
 show (dsX 58) (nthS 1 dsC) _ _ (aft1 (tL l3 3) (dsX 58) (nthS 1 dsC) [] (dsZ Q X) X) X
 refine st_for ds_for ds_for1 ds_for2 (fun K hK=>(ds_c1 s a g (verS w) im c f ex q r X a' tpK tx line n K (vtS w)).mpr hK) ?_
 rw [ds_lb]
 obtain ⟨h,l,e⟩:=sortS_ne q.1 (r.map (·.1))
 have e:sortS ((q :: r).map (·.1)) = h :: l:=e
 rw [e] at hc hl h1 h0 ⊢
 have hl:l.length + 1 ≤ 2:=hl
 refine dir_all (dsM s ex (verS w) (q :: r) a g im c a' tpK tx line n) ex (verS w) (q :: r) f (vtS w) (hsV (q :: r)) _ X h l tpK tx line n hc (by (first | lia | omega)) (by have:lenL tpK = 2:=rfl;(first | lia | omega)) (fun e1 line' n' h' p' hn'=>?_) (fun e1 s' hs'=>h0 e1 s' hs')
 have hn2:n' ≤ 900000:=by (first | lia | omega)
 refine aft_next ds_frd ?_
 refine aft_next ds_fr3 ?_
 have fin:dsRv (dsI s ex (verS w) (.dct (q :: r)) a g im c) c (tx ++ (dirL (q :: r) (h :: l) tpK).1) a' (dirL (q :: r) (h :: l) tpK).2.2 line' n' (fun H=>dsA Q X .next (ds1 f (vtL (vtS w)) (hsV (q :: r)) (.str h') (.str p') (.str h') (.str p') ++ [(t "implicit",.bool false)]) H) :=
  dsRv_of hn2 fun line2 n2 hn3=>ds_frA Q X _ _ (h1 e1 line2 n2 (by (first | lia | omega)))
 cases w with
 | none =>
  refine (ds_restN s a g (hsV (q :: r)) (.str h') (.str p') (.str h') (.str p') im q r _ X a' _ _ line' n' f ex c).mpr ?_
  cases and f (and (!ex) (!c)) with
  | true=>exact bnd_of hlen fin
  | false=>exact fin
 | some m=>exact (ds_restT s a g (hsV (q :: r)) (.str h') (.str p') (.str h') (.str p') (.int 1) (.int m) (.str (t "1." ++ Str.ofString (toString m))) im q r _ X a' _ _ line' n' f ex c).mpr fin
theorem ds_x (s:Em) (a g tg:SV) (im:Bool) (Q:QV) (X:XC) (f ex c d:Bool) (h:X (hpD d (dsI s ex (.tup [.int 2,.int 0]) tg a g im c))):dsS d (dsI s ex (.tup [.int 2,.int 0]) tg a g im c) f Q X:=(ver_x s a g tg im Q X f ex c d).mpr fun _=>h
noncomputable abbrev dsVx (s:Em) (w:Option Int):Str:=match w with | none=>s.tx | some m=>verTx s m
noncomputable def skL (kvs:List (Str × SV)):List Str:=sortS (kvs.map (·.1))
theorem ds_tags (s:Em) (ex:Bool) (w:Option Int) (hw:∀ m,w = some m → VerP m) (q:Str × SV) (r:List (Str × SV)) (a g:SV) (im c f d:Bool) (Q:QV) (X:XC) (hr:r.length ≤ 1) (hc:∀ h ∈ skL (q :: r),dirC (q :: r) h) (hl:(skL (q :: r)).length ≤ 2) (hn:s.n ≤ 700000)
  (h1:(dirL (q :: r) (skL (q :: r)) tpK).2.1 = true → ∀ a' line n',n' ≤ s.n + 20 → Q .none (hp (dsO (dsI s ex (verS w) (.dct (q :: r)) a g im c) true c (dsEnd c (dsVx s w ++ (dirL (q :: r) (skL (q :: r)) tpK).1)) a' (dirL (q :: r) (skL (q :: r)) tpK).2.2 line n')))
  (h0:(dirL (q :: r) (skL (q :: r)) tpK).2.1 = false → ∀ s':Em,s'.tx = dsVx s w ++ (dirL (q :: r) (skL (q :: r)) tpK).1 → X (hp s')) :
  dsS d (dsI s ex (verS w) (.dct (q :: r)) a g im c) f Q X:=by
 have hlen:(q :: r).length ≤ sizeLine:=Nl (Nat.succ_le_succ hr) (by decide)
 refine ds_in s a g (verS w) (.dct (q :: r)) im c Q X f ex d ?_
 rw [ds_l]
 cases w with
 | none =>
  refine (ds_s0n s a g im c f ex q r _ X d).mpr (bnd_of hlen (aft_next ds_fr0 ?_))
  refine (ds_s1n s a g im c f ex q r _ X d).mpr (aft_next ds_fr1 ?_)
  refine (ds_s2 s a g im c f ex _ X .none (.dct (q :: r)) s.tx s.line s.n [] d).mpr fun a'=>aft_next ds_fr2 ?_
  exact ds_tail s ex none q r a g im c f a' s.tx s.line s.n Q X hr hc hl (Nl hn (by decide)) (fun e line n' hn'=>h1 e a' line n' (by (first | lia | omega))) h0
 | some m =>
  refine (ds_s0t s a g im c f ex q r _ X (.int 1) (.int m) d).mpr (aft_next ds_fr0 ?_)
  refine (hw m rfl s a g im c f ex q r _ X d).mpr ⟨Nl hn (by decide),nb7b hn 1 rfl,aft_next ds_fr1 ?_⟩
  refine (ds_s2 s a g im c f ex _ X (verV m) (.dct (q :: r)) (verTx s m) (s.line + 1) (s.n + 1 + 1) [(t "version_text",.str (t "1." ++ Str.ofString (toString m)))] d).mpr fun a'=>aft_next ds_fr2 ?_
  exact ds_tail s ex (some m) q r a g im c f a' (verTx s m) (s.line + 1) (s.n + 1 + 1) Q X hr hc hl (nb7 hn 2 rfl) (fun e line n' hn'=>h1 e a' line n' (by (first | lia | omega))) h0
noncomputable def dsTl (mk c:Bool) (tx:Str):Str:=match mk with | false=>tx | true=>dsEnd c tx
theorem dsN_of {s:Em} {mk c:Bool} {tk:List (Str × SV)} {tx:Str} {line:Int} {n:Nat} {Q:QV} (hn:n ≤ 900000) (h:∀ a' line n',n' ≤ n + 2 → Q .none (hp (dsO s mk c (dsTl mk c tx) a' tk line n'))):dsN s mk c tk tx line n Q:=fun a'=>by
 cases mk with
 | false=>exact h a' line n (Nat.le_add_right _ _)
 | true =>
  refine ⟨rfl,rfl,Nl hn (by decide),?_⟩
  cases c with
  | false=>exact h a' line (n + 1) (Nat.le_succ _)
  | true=>exact ⟨rfl,nb hn 1 rfl,h a' (line + 1) (n + 1 + 1) (Nat.le_refl _)⟩
noncomputable def tgS (kvs:List (Str × SV)):SV:=match kvs with | []=>.none | _ :: _=>.dct kvs
noncomputable def verD (w:Option Int):Str:=match w with | none=>Str.empty | some m=>verT m ++ t "\n"
noncomputable def dsTk (kvs:List (Str × SV)):List (Str × SV):=(dirL kvs (skL kvs) tpK).2.2
noncomputable def dsTx (w:Option Int) (kvs:List (Str × SV)):Str:=verD w ++ (dirL kvs (skL kvs) tpK).1
theorem dsVx_eq (s:Em) (w:Option Int) (y:Str):dsVx s w ++ y = s.tx ++ (verD w ++ y):=by
 cases w with
 | none=>show s.tx ++ y = s.tx ++ (Str.empty ++ y);rw [Str.empty_append]
 | some m=>show (s.tx ++ verT m) ++ t "\n" ++ y = s.tx ++ ((verT m ++ t "\n") ++ y);rw [Aa,Aa,Aa]
theorem ds_all (s:Em) (ex:Bool) (w:Option Int) (hw:∀ m,w = some m → VerP m ∧ VerN m) (kvs:List (Str × SV)) (a g:SV) (im c f d:Bool) (Q:QV) (X:XC) (hr:kvs.length ≤ 2) (hc:∀ h ∈ skL kvs,dirC kvs h) (hl:(skL kvs).length ≤ 2) (hn:s.n ≤ 700000)
  (h1:(dirL kvs (skL kvs) tpK).2.1 = true → ∀ a' line n',n' ≤ s.n + 20 → Q .none (hp (dsO (dsI s ex (verS w) (tgS kvs) a g im c) (mkB f ex c (!(isSome? w)) (nil? kvs)) c (dsTl (mkB f ex c (!(isSome? w)) (nil? kvs)) c (s.tx ++ dsTx w kvs)) a' (dsTk kvs) line n')))
  (h0:(dirL kvs (skL kvs) tpK).2.1 = false → ∀ s':Em,s'.tx = s.tx ++ dsTx w kvs → X (hp s')) :
  dsS d (dsI s ex (verS w) (tgS kvs) a g im c) f Q X:=by
 cases kvs with
 | nil =>
  have e:s.tx ++ dsTx w [] = dsVx s w:=by
   show s.tx ++ (verD w ++ Str.empty) = _
   rw [← dsVx_eq,Ae]
  rw [e] at h1
  cases w with
  | none=>exact (dsN_0 s a g im Q X d f ex c).mpr (dsN_of (Nl hn (by decide)) fun a' line n' hn'=>h1 rfl a' line n' (by have:n' ≤ s.n + 2:=hn';(first | lia | omega)))
  | some m =>
   refine ((hw m rfl).2 s a g im Q X d f ex c).mpr ⟨Nl hn (by decide),nb7b hn 1 rfl,dsN_of (Nl (nb7 hn 2 rfl) (by decide)) fun a' line n' hn'=>?_⟩
   have hm:mkB f ex c false true = true:=by cases f <;> cases ex <;> cases c <;> rfl
   have k:=h1 rfl a' line n' (by have:n' ≤ s.n + 1 + 1 + 2:=hn';(first | lia | omega))
   rw [show mkB f ex c (!(isSome? (some m))) (nil? ([]:List (Str × SV))) = true from hm] at k
   exact k
 | cons q r =>
  have hm:mkB f ex c (!(isSome? w)) (nil? (q :: r)) = true:=by cases f <;> cases ex <;> cases c <;> cases w <;> rfl
  rw [hm] at h1
  have e:s.tx ++ dsTx w (q :: r) = dsVx s w ++ (dirL (q :: r) (skL (q :: r)) tpK).1:=(dsVx_eq ..).symm
  rw [e] at h1 h0
  exact ds_tags s ex w (fun m e=>(hw m e).1) q r a g im c f d Q X (Nat.le_of_succ_le_succ hr) hc hl hn h1 h0
noncomputable def finH (x:Str) (H:Hp):Prop:=∃ d s,H = hpD d s ∧ s.tx = x
theorem fin_of {x:Str} {s:Em} (e:s.tx = x):finH x (hp s):=⟨true,s,rfl,e⟩
theorem fin_ofD {x:Str} {s:Em} (e:s.tx = x):∀ d,finH x (hpD d s):=fun d=>⟨d,s,rfl,e⟩
noncomputable def XT (x:Str) (X:XC):Prop:=∀ H,finH x H → X H
theorem xt_hp {x:Str} {X:XC} (h:XT x X) (s:Em) (e:s.tx = x):X (hp s):=h _ (fin_of e)
theorem xt_hpD {x:Str} {X:XC} (h:XT x X) (s:Em) (e:s.tx = x) (d:Bool):X (hpD d s):=h _ (fin_ofD e d)
noncomputable def evD (v:SV):Option (Bool × SV × SV):=match v with
 | .inst c kvs=>(match Nat.beq c 165 with
  | true=>nx "start_mark" isNo kvs fun _ kvs=>nx "end_mark" isNo kvs fun _ kvs=>nx "explicit" isBo kvs fun b kvs=>nx "version" anyV kvs fun w kvs=>nx "tags" anyV kvs fun g kvs=>(match kvs with | []=>some (theB b,w,g) | _ :: _=>none)
  | false=>none)
 | _=>none
theorem evD_ok {v:SV} {e:Bool × SV × SV} (h:evD v = some e):v = dsE e.1 e.2.1 e.2.2:=by
 cases v with
 | inst c kvs =>
  have h:(match Nat.beq c 165 with
   | true=>nx "start_mark" isNo kvs fun _ kvs=>nx "end_mark" isNo kvs fun _ kvs=>nx "explicit" isBo kvs fun b kvs=>nx "version" anyV kvs fun w kvs=>nx "tags" anyV kvs fun g kvs=>(match kvs with | []=>some (theB b,w,g) | _ :: _=>none)
   | false=>none) = some e:=h
  cases q1:Nat.beq c 165 with
  | true =>
   rw [q1] at h
   refine nx_c h fun v1 r1 e1 p1 h=>?_
   refine nx_c h fun v2 r2 e2 p2 h=>?_
   refine nx_c h fun v3 r3 e3 p3 h=>?_
   refine nx_c h fun v4 r4 e4 p4 h=>?_
   refine nx_c h fun v5 r5 e5 p5 h=>?_
   cases r5 with
   | cons _ _=>cases h
   | nil=>cases h;exact inst_eq (Nq q1) (cstep e1 (isNo_is p1) (cstep e2 (isNo_is p2) (cstep e3 (isBo_is p3) (cstep e4 rfl e5))))
  | false=>rw [q1] at h;cases h
 | _=>cases h
noncomputable def sq1 (l:List SV):Option (SV × SV × Bool):=match l with
 | []=>none
 | v :: r=>(match nil? r with | true=>(evV v).bind fun e=>(match e with | .sq a g im=>some (a,g,im) | _=>none) | false=>none)
theorem sq1_ok {l:List SV} {e:SV × SV × Bool} (h:sq1 l = some e):l = [evK (.sq e.1 e.2.1 e.2.2)]:=by
 cases l with
 | nil=>cases h
 | cons v r =>
  have h:(match nil? r with | true=>(evV v).bind fun e=>(match e with | .sq a g im=>some (a,g,im) | _=>none) | false=>none) = some e:=h
  cases q:nil? r with
  | false=>rw [q] at h;cases h
  | true =>
   rw [q] at h
   cases of_nil q
   obtain ⟨u,e1,h⟩:=of_bind h
   cases u with
   | sq a g im=>cases h;rw [evV_ok e1]
   | _=>cases h
noncomputable def verOk (w:Option Int):Prop:=∀ m,w = some m → m = 1 ∨ m = 0 ∨ m = 23 ∨ m = 2
theorem ver_all {w:Option Int} (h:verOk w):∀ m,w = some m → VerP m ∧ VerN m:=fun m e=>by
 rcases h m e with rfl | rfl | rfl | rfl
 ·exact ⟨verP_1,verN_1⟩
 ·exact ⟨verP_0,verN_0⟩
 ·exact ⟨verP_23,verN_23⟩
 ·exact ⟨verP_2,verN_2⟩
noncomputable def dsQb (s:Em):Bool:=and (and (quiet s) (and (and (nil? s.states) (nil? s.indents)) (and (isNo s.indent) (decide (s.flow = 0))))) (and (and s.ws s.ind) (decide (s.col = 0)))
noncomputable def kvP (kvs:List (Str × SV)):Prop:=kvs.length ≤ 2 ∧ (∀ h ∈ skL kvs,dirC kvs h) ∧ (skL kvs).length ≤ 2
noncomputable def dsP (s:Em) (f ex:Bool) (ver tg:SV) (K:Em → Prop) (X:XC):Prop :=
 (∃ w kvs,(ver = verS w ∧ tg = tgS kvs ∧ verOk w ∧ kvP kvs ∧ s.n ≤ 700000) ∧ ((dirL kvs (skL kvs) tpK).2.1 = true → ∀ a' line n',n' ≤ s.n + 20 → K (dsO s (mkB f ex s.canon (!(isSome? w)) (nil? kvs)) s.canon (dsTl (mkB f ex s.canon (!(isSome? w)) (nil? kvs)) s.canon (s.tx ++ dsTx w kvs)) a' (dsTk kvs) line n'))
  ∧ ((dirL kvs (skL kvs) tpK).2.1 = false → XT (s.tx ++ dsTx w kvs) X)) ∨ (ver = .tup [.int 2,.int 0] ∧ XT s.tx X)
noncomputable def dsV (s:Em) (f:Bool) (K:Em → Prop) (X:XC):Prop:=iff_ (dsQb s) (opt (evD s.event) fun e=>opt (sq1 s.events) fun _=>dsP s f e.1 e.2.1 e.2.2 K X)
theorem em_d {P:Em → Prop} (s:Em) (hq:dsQb s = true) {l:List SV} {v:SV} (h1:s.events = l) (h2:s.event = v)
  (k:P { s with states:=[],events:=l,event:=v,indents:=[],indent:=.none,flow:=0,pan:=.none,ptg:=.none,ana:=.none,sty:=.none,oe:=false,ws:=true,ind:=true,col:=0 }):P s:=by
 obtain ⟨hq,hb⟩:=Ba hq
 obtain ⟨hq,hc⟩:=Ba hq
 obtain ⟨hc,hd⟩:=Ba hc
 obtain ⟨c1,c2⟩:=Ba hc
 obtain ⟨c3,c4⟩:=Ba hd
 obtain ⟨hw,hz⟩:=Ba hb
 obtain ⟨w1,w2⟩:=Ba hw
 have c4:=of_decide_eq_true c4
 have hz:=of_decide_eq_true hz
 refine em_q (P:=P) s hq (of_nil c1) (of_nil c2) (isNo_is c3) c4 h2 ?_
 have sub:∀ {z:Int} {b1 b2:Bool},s.col = z → s.ws = b1 → s.ind = b2 → P { s with states:=[],events:=l,event:=v,indents:=[],indent:=.none,flow:=0,pan:=.none,ptg:=.none,ana:=.none,sty:=.none,oe:=false,ws:=b1,ind:=b2,col:=z } → P { s with states:=[],indents:=[],indent:=.none,flow:=0,pan:=.none,ptg:=.none,ana:=.none,sty:=.none,oe:=false,event:=v }:=fun e1 e2 e3 h=>by subst e1 e2 e3 h1;exact h
 exact sub hz w1 w2 k
theorem dsV_of (s:Em) (f d:Bool) (Q:QV) (X:XC) (h:dsV s f (fun s'=>Q .none (hp s')) X):dsS d s f Q X:=by
 obtain ⟨hq,h⟩:=of_iff h
 obtain ⟨e,he,h⟩:=of_opt h
 obtain ⟨u,hu,h⟩:=of_opt h
 revert h
 refine em_d (P:=fun s=>dsP s f e.1 e.2.1 e.2.2 (fun s'=>Q .none (hp s')) X → dsS d s f Q X) s hq (sq1_ok hu) (evD_ok he) fun h=>?_
 obtain ⟨ex,ver,tg⟩:=e
 obtain ⟨a,g,im⟩:=u
 rcases h with ⟨w,kvs,⟨h1,h2,h3,⟨h4,h5,h6⟩,h7⟩,k1,k0⟩ | ⟨h1,h⟩
 ·cases h1
  cases h2
  exact ds_all s ex w (ver_all h3) kvs a g im s.canon f d Q X h4 h5 h6 h7 k1 (fun e s' hs'=>xt_hp (k0 e) s' hs')
 ·cases h1
  exact ds_x s a g tg im Q X f ex s.canon d (xt_hpD h _ rfl d)
noncomputable def dsG (f:Bool) (H:Hp) (Q:QV) (X:XC):Prop:=match emN H with
 | some s=>dsV s f (fun s'=>Q .none (hp s')) X
 | none=>opt (emV H) fun p=>p.1 = p.2.ta ∧ dsV p.2 f (fun s'=>Q .none (hp s')) X
theorem dsG_of {f:Bool} {H:Hp} {Q:QV} {X:XC} (h:dsG f H Q X):eS l3 3 e_3 [me,.bool f] H Q X:=by
 unfold dsG at h
 cases e:emN H with
 | some s =>
  rw [e] at h
  rw [emN_ok e]
  exact dsV_of s f false Q X h
 | none =>
  rw [e] at h
  obtain ⟨p,e1,e2,h⟩:=of_opt h
  rw [emV_ok e1 e2]
  exact dsV_of p.2 f true Q X h
noncomputable def dsWk:Sm:=fun xs H Q X=>two2 xs fun v0 v1=>iff_ (isOb 0 v0) (asB v1 fun f=>dsG f H Q X)
noncomputable def dsW1 (f:Bool):Sm:=fun xs H Q X=>one1 xs fun v0=>iff_ (isOb 0 v0) (dsG f H Q X)
theorem dsk_weak:allN 1 fun vs=>allN 1 fun ws=>∀ H Q X,dsWk (vs ++ ws) H Q X → eS l3 3 e_3 (vs ++ ws) H Q X:=fun v0 v1 H Q X h=>by
 have h:iff_ (isOb 0 v0) (asB v1 fun f=>dsG f H Q X):=h
 obtain ⟨h0,h⟩:=of_iff h
 rw [isOb_ok h0]
 cases v1 with
 | bool f=>exact dsG_of h
 | _=>exact h.elim
theorem ds1_eq (H:Hp) (Q:QV) (X:XC):eS l3 3 e_4 [me] H Q X = eS l3 3 e_3 [me,.bool false] H Q X:=by rfl'
theorem ds1_weak:allN 1 fun vs=>allN 0 fun ws=>∀ H Q X,dsW1 false (vs ++ ws) H Q X → eS l3 3 e_4 (vs ++ ws) H Q X:=fun v0 H Q X h=>by
 have h:iff_ (isOb 0 v0) (dsG false H Q X):=h
 obtain ⟨h0,h⟩:=of_iff h
 rw [isOb_ok h0]
 exact (ds1_eq H Q X).mpr (dsG_of h)
noncomputable def lds:Fns:=[(381,1,[t "first"],dsWk)]
theorem ds0_eq (s:Em) (Q:QV) (X:XC):∀ d,eS lds 0 e_65 [me] (hpD d s) Q X = dsG true (hpD d s) Q X
 | true=>(by rfl')
 | false=>(by rfl')
theorem ds0_of {H:Hp} {Q:QV} {X:XC} (h:dsG true H Q X):eS lds 0 e_65 [me] H Q X:=by
 have h2:=h
 unfold dsG at h2
 cases e:emN H with
 | some s =>
  have eH:=emN_ok e
  subst eH
  exact (ds0_eq s Q X false).mpr h
 | none =>
  rw [e] at h2
  obtain ⟨p,e1,e2,h2⟩:=of_opt h2
  have eH:=emV_ok e1 e2
  subst eH
  exact (ds0_eq p.2 Q X true).mpr h
theorem ds0_weak:allN 1 fun vs=>allN 0 fun ws=>∀ H Q X,dsW1 true (vs ++ ws) H Q X → eS lds 0 e_65 (vs ++ ws) H Q X:=fun v0 H Q X h=>by
 have h:iff_ (isOb 0 v0) (dsG true H Q X):=h
 obtain ⟨h0,h⟩:=of_iff h
 rw [isOb_ok h0]
 exact ds0_of h
noncomputable def l5:Fns:=[(373,1,[],dsW1 true),(381,1,[],dsW1 false),(395,1,[],ssS),(431,1,[],itF),(438,1,[],itS),(658,3,[],wi3),(658,3,[t "whitespace"],wi4),(665,1,[],wnS)]
noncomputable def lb:Fns:=[(395,1,[],ssS),(431,1,[],itF),(658,3,[],wi3),(658,3,[t "whitespace"],wi4),(665,1,[],wnS)]
noncomputable abbrev emA:Sm:=eS l5 4 e_58
noncomputable abbrev emB':Sm:=eS lb 4 e_58
noncomputable def evSS0:SV:=.inst 133 [(t "start_mark",.none),(t "end_mark",.none),(t "encoding",.none)]
noncomputable def evSE0:SV:=.inst 145 [(t "start_mark",.none),(t "end_mark",.none)]
noncomputable def evSE:SV:=.inst 241 [(t "start_mark",.none),(t "end_mark",.none)]
noncomputable def evDE:SV:=.inst 185 [(t "start_mark",.none),(t "end_mark",.none),(t "explicit",.none)]
noncomputable abbrev m359:SV:=.meth 359 me
noncomputable abbrev m373:SV:=.meth 373 me
noncomputable abbrev m381:SV:=.meth 381 me
theorem em_1 (s:Em) (Q:QV) (X:XC):emB' [me,evSS0] (hp0 { s with states:=[],state:=m359,events:=[] } .none) Q X = Q .none (hp0 { s with states:=[],state:=m373,events:=[],event:=.none } .none):=by rfl'
theorem em_2 (s:Em) (ex:Bool) (ver tg:SV) (Q:QV) (X:XC):∀ d,emA [me,dsE ex ver tg] (hpD d { s with events:=[] }) Q X = Q .none (hpD d { s with events:=[dsE ex ver tg] })
 | true=>(by rfl')
 | false=>(by rfl')
theorem em_3 (s:Em) (ex:Bool) (ver tg:SV) (a g:SV) (im:Bool) (Q:QV) (X:XC):∀ d f,emA [me,evK (.sq a g im)] (hpD d { s with state:=(match f with | true=>m373 | false=>m381),events:=[dsE ex ver tg] }) Q X = (match d with
  | true=>s.ta = s.ta ∧ dsV { s with state:=(match f with | true=>m373 | false=>m381),events:=[evK (.sq a g im)],event:=dsE ex ver tg } f (fun s'=>Q .none (hp { s' with event:=.none })) X
  | false=>dsV { s with state:=(match f with | true=>m373 | false=>m381),events:=[evK (.sq a g im)],event:=dsE ex ver tg,ta:=0,tk:=[] } f (fun s'=>Q .none (hp { s' with event:=.none })) X)
 | true,true=>(by rfl')
 | true,false=>(by rfl')
 | false,true=>(by rfl')
 | false,false=>(by rfl')
theorem em_4 (s:Em) (a g:SV) (im:Bool) (e:Ev) (Q:QV) (X:XC) (he:ndP e):emA [me,evK e] (hp { s with events:=[evK (.sq a g im)] }) Q X = Q .none (hp { s with events:=[evK (.sq a g im),evK e] }):=by
 cases e with
 | sq a g im=>exact he.elim
 | al a=>kernel_rfl
 | sc a g b1 b2 w y=>kernel_rfl
noncomputable def seTx (c:Bool) (tx:Str):Str:=match c with | false=>tx ++ t "]" | true=>((tx ++ t ",") ++ t "\n") ++ t "]"
noncomputable abbrev seI (s:Em) (c:Bool) (i:Int):Em:={ s with states:=[m388],state:=m438,events:=[],indents:=[.none],indent:=.int i,flow:=1,sty:=.none,oe:=false,canon:=c }
noncomputable abbrev seO (s:Em) (c:Bool) (tx:Str) (line col:Int) (n:Nat):Em:={ s with states:=[],state:=m388,events:=[],event:=.none,indents:=[],indent:=.none,flow:=0,sty:=.none,oe:=false,canon:=c,tx:=tx,line:=line,col:=col,n:=n,ws:=false,ind:=false }
theorem em_6f (s:Em) (i:Int) (Q:QV) (X:XC):emB' [me,evSE] (hp (seI s false i)) Q X = (s.ta = s.ta ∧ s.n ≤ 1000000 ∧ Q .none (hp (seO s false (seTx false s.tx) s.line (s.col + (t "]").length) (s.n + 1)))):=by rfl'
theorem em_6t (s:Em) (i:Int) (Q:QV) (X:XC):emB' [me,evSE] (hp (seI s true i)) Q X = (s.ta = s.ta ∧ s.n ≤ 1000000 ∧ s.ta = s.ta ∧ s.n + 1 ≤ 1000000 ∧ s.ta = s.ta ∧ s.n + 1 + 1 ≤ 1000000 ∧ Q .none (hp (seO s true (seTx true s.tx) (s.line + 1) (0 + (t "]").length) (s.n + 1 + 1 + 1)))):=by rfl'
noncomputable abbrev deI (s:Em):Em:={ s with states:=[],state:=m388,events:=[],indents:=[],indent:=.none,flow:=0,sty:=.none,ind:=false }
theorem em_7 (s:Em) (Q:QV) (X:XC):emB' [me,evDE] (hp (deI s)) Q X = (s.ta = s.ta ∧ s.n ≤ 1000000 ∧ Q .none (hp { deI s with state:=m381,event:=.none,line:=s.line + 1,col:=0,ws:=true,ind:=true,tx:=s.tx ++ t "\n",n:=s.n + 1 })):=by rfl'
theorem em_8 (s:Em) (Q:QV) (X:XC):emB' [me,evSE0] (hp { s with states:=[],state:=m381,events:=[],oe:=false }) Q X = Q .none (hp { s with states:=[],state:=.meth 366 me,events:=[],event:=.none,oe:=false }):=by rfl'
noncomputable abbrev bI (s:Em) (c:Bool) (ev:List SV):Em:={ s with states:=[],state:=m395,events:=ev,indents:=[],indent:=.none,flow:=0,pan:=.none,ptg:=.none,ana:=.none,sty:=.none,oe:=false,canon:=c }
noncomputable abbrev bS (s:Em) (c:Bool):Em:={ s with root:=false,seq:=true,map:=false,simple:=false,pan:=.none,ptg:=.none,ana:=.none,sty:=.none,oe:=false,canon:=c }
noncomputable def seR (s:Em) (c:Bool) (tx:Str) (line col:Int) (n:Nat) (Q:QV):Prop:=match c with
 | false=>s.ta = s.ta ∧ n ≤ 1000000 ∧ Q .none (hp (seO (bS s false) false (seTx false tx) line (col + (t "]").length) (n + 1)))
 | true=>s.ta = s.ta ∧ n ≤ 1000000 ∧ s.ta = s.ta ∧ n + 1 ≤ 1000000 ∧ s.ta = s.ta ∧ n + 1 + 1 ≤ 1000000 ∧ Q .none (hp (seO (bS s true) true (seTx true tx) (line + 1) (0 + (t "]").length) (n + 1 + 1 + 1)))
noncomputable def ssR (s:Em) (a g:SV) (im c:Bool) (X:XC) (R:Str → Int → Nat → Prop):Prop:=ssH s a g ∧ brn (ssL a g im c s.tk).2 (∀ tx col n,tx = s.tx ++ wr s.ws (ssL a g im c s.tk).1 → col ≤ s.col + 150 → n ≤ s.n + 150 → R tx col n) (∀ s':Em,s'.tx = s.tx ++ wr s.ws (ssL a g im c s.tk).1 → X (hp s'))
noncomputable def itR (s:Em) (e:Ev) (c first:Bool) (tx:Str) (col:Int) (n:Nat) (X:XC) (R:Str → Int → Nat → Int → Bool → Prop):Prop:=itH { s with n:=n,col:=col,canon:=c } e s.bi ∧ brn (ndL e c s.tk).2 (∀ tx2 col2 n2 line ind,tx2 = tx ++ (itPre c first s.bi ++ wr (or c first) (ndL e c s.tk).1) → col2 ≤ colZ c col + 180 → n2 ≤ n + 180 → R tx2 col2 n2 line ind) (∀ s':Em,s'.tx = tx ++ (itPre c first s.bi ++ wr (or c first) (ndL e c s.tk).1) → X (hp s'))
theorem em_5_ (s:Em) (a g:SV) (im:Bool) (e:Ev) (he:ndP e) (Q:QV) (X:XC):∀ c,(s.ta = s.ta ∧ ssR s a g im c X fun tx col n=>s.ta = s.ta ∧ itR s e c true tx col n X fun tx col n line _=>seR s c tx line col n Q) → emB' [me,evSE] (hp (bI s c [evK (.sq a g im),evK e])) Q X:=fun c h=>by
 cases e with
 | sq a g im=>exact he.elim
 | al a=>cases c with
  | false=>exact viaR h (by rfl')
  | true=>exact viaR h (by rfl')
 | sc a g b1 b2 w y=>cases c with
  | false=>exact viaR h (by rfl')
  | true=>exact viaR h (by rfl')
noncomputable abbrev iO (s:Em) (c:Bool) (tx:Str) (line col:Int) (n:Nat) (ind:Bool):Em:={ bS s c with states:=[m388],state:=m438,events:=[],event:=.none,indents:=[.none],indent:=.int s.bi,flow:=1,tx:=tx,line:=line,col:=col,n:=n,ws:=false,ind:=ind }
theorem em_5b_ (s:Em) (a g:SV) (im:Bool) (e1 e2:Ev) (h1:ndP e1) (h2:ndP e2) (Q:QV) (X:XC):∀ c,(s.ta = s.ta ∧ ssR s a g im c X fun tx col n=>s.ta = s.ta ∧ itR s e1 c true tx col n X fun tx col n _ _=>s.ta = s.ta ∧ itR s e2 c false tx col n X fun tx col n line ind=>Q .none (hp (iO s c tx line col n ind))) → emA [me,evK e2] (hp (bI s c [evK (.sq a g im),evK e1])) Q X:=fun c h=>by
 cases e1 with
 | sq a g im=>exact h1.elim
 | al a=>cases e2 with
  | sq a g im=>exact h2.elim
  | al a2=>cases c with
   | false=>exact viaR h (by rfl')
   | true=>exact viaR h (by rfl')
  | sc a2 g2 i1 i2 w2 y2=>cases c with
   | false=>exact viaR h (by rfl')
   | true=>exact viaR h (by rfl')
 | sc a g b1 b2 w y=>cases e2 with
  | sq a g im=>exact h2.elim
  | al a2=>cases c with
   | false=>exact viaR h (by rfl')
   | true=>exact viaR h (by rfl')
  | sc a2 g2 i1 i2 w2 y2=>cases c with
   | false=>exact viaR h (by rfl')
   | true=>exact viaR h (by rfl')
noncomputable def emW:Sm:=fun xs H Q X=>emA xs H Q X ∨ emB' xs H Q X
noncomputable def isEm (H:Hp):Prop:=∃ kvs,fnd 0 H = some (none,.inst 736 kvs) ∧ lk (t "emit") kvs = none
theorem em_hp0 (s:Em) (v:SV):isEm (hp0 s v):=⟨emK s v,by rfl',by rfl'⟩
theorem em_hp (s:Em):isEm (hp s):=⟨emK s (.obj 195032 (some s.ta)),by rfl',by rfl'⟩
theorem em_hpD (d:Bool) (s:Em):isEm (hpD d s):=match d with | true=>em_hp s | false=>em_hp0 s .none
noncomputable def runE:List SV → Hp → (Hp → Prop) → XC → Prop
 | [],H,K,_=>K H
 | e :: r,H,K,X=>isEm H ∧ emW [me,e] H (fun v H=>v = .none ∧ runE r H K X) X
structure Doc where
 ex:Bool
 bad:Bool
 w:Option Int
 kvs:List (Str × SV)
 a:SV
 g:SV
 im:Bool
 e1:Ev
 e2:Option Ev
noncomputable def Doc.ver (D:Doc):SV:=match D.bad with | true=>.tup [.int 2,.int 0] | false=>verS D.w
structure Doc.Ok (D:Doc):Prop where
 ver:verOk D.w
 kv:kvP D.kvs
 a:anP D.a
 g:gP D.g
 e1:ndP D.e1
 e2:∀ e,D.e2 = some e → ndP e
 tk:kOk (dsTk D.kvs) = true
 nd:((dsTk D.kvs).map (·.1)).Nodup
noncomputable def Doc.evs (D:Doc):List SV:=dsE D.ex D.ver (tgS D.kvs) :: evK (.sq D.a D.g D.im) :: evK D.e1 :: (match D.e2 with | none=>[evSE,evDE] | some e=>[evK e,evSE,evDE])
noncomputable def pTx (x:Str) (ok:Bool) (r:Str × Bool):Str × Bool:=match ok with | true=>(x ++ r.1,r.2) | false=>(x,false)
noncomputable def itTx (e:Ev) (c first:Bool) (i:Int) (tk:List (Str × SV)) (r:Str × Bool):Str × Bool:=pTx (itPre c first i ++ wr (or c first) (ndL e c tk).1) (ndL e c tk).2 r
noncomputable def dsMk (f c:Bool) (D:Doc):Bool:=mkB f D.ex c (!(isSome? D.w)) (nil? D.kvs)
noncomputable def dsHd (mk c:Bool):Str:=match mk with | false=>Str.empty | true=>(match c with | false=>t "---" | true=>t "---" ++ t "\n")
noncomputable def seT (c:Bool):Str:=match c with | false=>t "]" | true=>t "," ++ (t "\n" ++ t "]")
noncomputable def docB (f c:Bool) (i:Int) (D:Doc):Str × Bool:=pTx (dsHd (dsMk f c D) c ++ wr (or c (!(dsMk f c D))) (ssL D.a D.g D.im c (dsTk D.kvs)).1) (ssL D.a D.g D.im c (dsTk D.kvs)).2
 (itTx D.e1 c true i (dsTk D.kvs) (match D.e2 with | none=>(seT c ++ t "\n",true) | some e=>itTx e c false i (dsTk D.kvs) (seT c ++ t "\n",true)))
noncomputable def docT (f c:Bool) (i:Int) (D:Doc):Str × Bool:=match D.bad with
 | true=>(Str.empty,false)
 | false=>pTx (dsTx D.w D.kvs) (dirL D.kvs (skL D.kvs) tpK).2.1 (docB f c i D)
noncomputable def Rest (x:Str × Bool) (s:Em) (X:XC) (P:Str → Prop):Prop:=(x.2 = true → P (s.tx ++ x.1)) ∧ (x.2 = false → XT (s.tx ++ x.1) X)
theorem seTx_eq (c:Bool) (tx:Str):seTx c tx = tx ++ seT c:=by
 cases c with
 | false=>rfl
 | true=>show ((tx ++ t ",") ++ t "\n") ++ t "]" = tx ++ (t "," ++ (t "\n" ++ t "]"));rw [Aa,Aa]
theorem dsTl_eq (mk c:Bool) (tx:Str):dsTl mk c tx = tx ++ dsHd mk c:=by
 cases mk with
 | false=>exact (Ae _).symm
 | true=>cases c with
  | false=>rfl
  | true=>exact Aa ..
noncomputable abbrev dA (s:Em) (f c:Bool):Em:={ s with states:=[],state:=(match f with | true=>m373 | false=>m381),events:=[],event:=.none,indents:=[],indent:=.none,flow:=0,pan:=.none,ptg:=.none,ana:=.none,sty:=.none,oe:=false,canon:=c,ws:=true,ind:=true,col:=0 }
noncomputable abbrev dZ (s:Em) (tx:Str) (ta:Addr) (tk:List (Str × SV)) (line:Int) (n:Nat):Em:={ s with root:=false,seq:=true,map:=false,simple:=false,ta:=ta,tk:=tk,tx:=tx,line:=line,n:=n }
theorem seR_of {s:Em} {c:Bool} {tx:Str} {line col:Int} {n:Nat} {Q:QV} (hn:n ≤ 900000) (h:∀ line col n',n' ≤ n + 3 → Q .none (hp (seO (bS s c) c (tx ++ seT c) line col n'))):seR s c tx line col n Q:=by
 rw [← seTx_eq] at h
 cases c with
 | false=>exact ⟨rfl,Nl hn (by decide),h _ _ _ (by (first | lia | omega))⟩
 | true=>exact ⟨rfl,Nl hn (by decide),rfl,nb hn 1 rfl,rfl,nb hn 2 rfl,h _ _ _ (Nat.le_refl _)⟩
theorem pTx_t {x:Str} {ok:Bool} {r:Str × Bool} (e:ok = true):pTx x ok r = (x ++ r.1,r.2):=by subst e;rfl
theorem pTx_f {x:Str} {ok:Bool} {r:Str × Bool} (e:ok = false):pTx x ok r = (x,false):=by subst e;rfl
theorem rest_t {x:Str} {ok:Bool} {r:Str × Bool} {s0:Str} {P:Str → Prop} {X:XC} (e:ok = true) (h1:(pTx x ok r).2 = true → P (s0 ++ (pTx x ok r).1)) (h0:(pTx x ok r).2 = false → XT (s0 ++ (pTx x ok r).1) X):(r.2 = true → P ((s0 ++ x) ++ r.1)) ∧ (r.2 = false → XT ((s0 ++ x) ++ r.1) X):=by
 rw [pTx_t e] at h1 h0
 rw [Aa]
 exact ⟨h1,h0⟩
theorem rest_f {x:Str} {ok:Bool} {r:Str × Bool} {s0:Str} {X:XC} (e:ok = false) (h0:(pTx x ok r).2 = false → XT (s0 ++ (pTx x ok r).1) X):XT (s0 ++ x) X:=by
 rw [pTx_f e] at h0
 exact h0 rfl
theorem itR_of {s:Em} {e:Ev} {c first:Bool} {tx:Str} {col:Int} {n:Nat} {X:XC} {R:Str → Int → Nat → Int → Bool → Prop} {r:Str × Bool} {P:Str → Prop} (he:ndP e) (hn:n ≤ 600000) (hc:colZ c col ≤ 650) (hk:kOk s.tk = true) (hd:(s.tk.map (·.1)).Nodup) (hi:2 ≤ s.bi ∧ s.bi ≤ 9)
  (h1:(itTx e c first s.bi s.tk r).2 = true → P (tx ++ (itTx e c first s.bi s.tk r).1)) (h0:(itTx e c first s.bi s.tk r).2 = false → XT (tx ++ (itTx e c first s.bi s.tk r).1) X)
  (hR:∀ tx2 col2 n2 line ind,col2 ≤ colZ c col + 180 → n2 ≤ n + 180 → (r.2 = true → P (tx2 ++ r.1)) → (r.2 = false → XT (tx2 ++ r.1) X) → R tx2 col2 n2 line ind):itR s e c first tx col n X R:=by
 refine ⟨⟨he,Nl hn (by decide),hc,hk,hd,hi⟩,brn_of (fun e1 tx2 col2 n2 line ind a1 a2 a3=>?_) (fun e1 s' hs'=>xt_hp (rest_f e1 h0) s' hs')⟩
 obtain ⟨k1,k0⟩:=rest_t e1 h1 h0
 rw [← a1] at k1 k0
 exact hR tx2 col2 n2 line ind a2 a3 k1 k0
theorem ssR_of {s:Em} {a g:SV} {im c:Bool} {X:XC} {R:Str → Int → Nat → Prop} {y:Str} {tx0:Str} {r:Str × Bool} {P:Str → Prop} (ha:anP a) (hg:gP g) (hn:s.n ≤ 500000) (hk:kOk s.tk = true) (hd:(s.tk.map (·.1)).Nodup) (htx:s.tx = tx0 ++ y)
  (h1:(pTx (y ++ wr s.ws (ssL a g im c s.tk).1) (ssL a g im c s.tk).2 r).2 = true → P (tx0 ++ (pTx (y ++ wr s.ws (ssL a g im c s.tk).1) (ssL a g im c s.tk).2 r).1)) (h0:(pTx (y ++ wr s.ws (ssL a g im c s.tk).1) (ssL a g im c s.tk).2 r).2 = false → XT (tx0 ++ (pTx (y ++ wr s.ws (ssL a g im c s.tk).1) (ssL a g im c s.tk).2 r).1) X)
  (hR:∀ tx col n,col ≤ s.col + 150 → n ≤ s.n + 150 → (r.2 = true → P (tx ++ r.1)) → (r.2 = false → XT (tx ++ r.1) X) → R tx col n):ssR s a g im c X R:=by
 refine ⟨⟨ha,hg,Nl hn (by decide),hk,hd⟩,brn_of (fun e1 tx col n a1 a2 a3=>?_) (fun e1 s' hs'=>?_)⟩
 ·obtain ⟨k1,k0⟩:=rest_t e1 h1 h0
  rw [← Aa,← htx,← a1] at k1 k0
  exact hR tx col n a2 a3 k1 k0
 ·have k:=rest_f e1 h0
  rw [← Aa,← htx] at k
  exact xt_hp k s' hs'
noncomputable def docQ (s:Em) (c:Bool) (rest:List SV) (K:Hp → Prop) (X:XC) (T:Str):Prop:=∀ line n',n' ≤ s.n + 900 → runE rest (hp (dA (dZ s T s.ta s.tk line n') false c)) K X
theorem doc_b (s:Em) (c:Bool) (D:Doc) (hD:D.Ok) (tx0 y:Str) (ws ind:Bool) (col:Int) (rest:List SV) (K:Hp → Prop) (X:XC) (hi:2 ≤ s.bi ∧ s.bi ≤ 9) (hn:s.n ≤ 400000) (hcol:s.col ≤ 10) (htk:s.tk = dsTk D.kvs) (htx:s.tx = tx0 ++ y) (r:Str × Bool)
  (hr:r = pTx (y ++ wr s.ws (ssL D.a D.g D.im c s.tk).1) (ssL D.a D.g D.im c s.tk).2 (itTx D.e1 c true s.bi s.tk (match D.e2 with | none=>(seT c ++ t "\n",true) | some e=>itTx e c false s.bi s.tk (seT c ++ t "\n",true))))
  (k:r.2 = true → ∀ line n',n' ≤ s.n + 900 → runE rest (hp (dA (dZ s (tx0 ++ r.1) s.ta s.tk line n') false c)) K X) (x:r.2 = false → XT (tx0 ++ r.1) X) :
  runE (evK D.e1 :: (match D.e2 with | none=>[evSE,evDE] | some e=>[evK e,evSE,evDE]) ++ rest) (hp { bI s c [evK (.sq D.a D.g D.im)] with event:=.none }) K X:=by
 subst hr
 have hk:=hD.tk
 have hd:=hD.nd
 rw [← htk] at hk hd
 refine ⟨em_hp _,.inl ((em_4 { bI s c [evK (.sq D.a D.g D.im)] with event:=.none } D.a D.g D.im D.e1 _ X hD.e1).mpr ⟨rfl,?_⟩)⟩
 cases e2:D.e2 with
 | none =>
  rw [e2] at k x
  refine ⟨em_hp _,.inr (em_5_ { s with event:=.none } D.a D.g D.im D.e1 hD.e1 _ X c ⟨rfl,ssR_of (s:={ s with event:=.none }) (tx0:=tx0) (y:=y) (P:=docQ s c rest K X) hD.a hD.g (Nl hn (by decide)) hk hd htx k x fun tx col n hc1 hn1 k1 k0=>⟨rfl,?_⟩⟩)⟩
  have hn1:n ≤ s.n + 150:=hn1
  have hc1:col ≤ s.col + 150:=hc1
  have hz:colZ c col ≤ 200:=by cases c with | true=>exact (show (0:Int) ≤ 200 by decide) | false=>exact (show col ≤ 200 by (first | lia | omega))
  refine itR_of (P:=docQ s c rest K X) (s:={ s with event:=.none }) hD.e1 (by (first | lia | omega)) (Int.le_trans hz (by decide)) hk hd hi k1 k0 fun tx2 col2 n2 line ind hc2 hn2 k1 k0=>?_
  refine seR_of (by (first | lia | omega)) fun line col n' hn'=>⟨rfl,?_⟩
  refine ⟨em_hp _,.inr ((em_7 (seO (bS { s with event:=.none } c) c (tx2 ++ seT c) line col n') _ X).mpr ⟨rfl,by show n' ≤ _;(first | lia | omega),rfl,?_⟩)⟩
  have k2:=k1 rfl (line + 1) (n' + 1) (by (first | lia | omega))
  rw [← Aa] at k2
  exact k2
 | some e =>
  rw [e2] at k x
  refine ⟨em_hp _,.inl (em_5b_ { s with event:=.none } D.a D.g D.im D.e1 e hD.e1 (hD.e2 e e2) _ X c ⟨rfl,ssR_of (s:={ s with event:=.none }) (tx0:=tx0) (y:=y) (P:=docQ s c rest K X) hD.a hD.g (Nl hn (by decide)) hk hd htx k x fun tx col n hc1 hn1 k1 k0=>⟨rfl,?_⟩⟩)⟩
  have hn1:n ≤ s.n + 150:=hn1
  have hc1:col ≤ s.col + 150:=hc1
  have hz:colZ c col ≤ 200:=by cases c with | true=>exact (show (0:Int) ≤ 200 by decide) | false=>exact (show col ≤ 200 by (first | lia | omega))
  refine itR_of (P:=docQ s c rest K X) (s:={ s with event:=.none }) hD.e1 (by (first | lia | omega)) (Int.le_trans hz (by decide)) hk hd hi k1 k0 fun tx2 col2 n2 line ind hc2 hn2 k1 k0=>⟨rfl,?_⟩
  have hz2:colZ c col2 ≤ 650:=by cases c with | true=>exact (show (0:Int) ≤ 650 by decide) | false=>exact Int.le_trans hc2 (Int.le_trans (Int.add_le_add_right hz _) (by decide))
  refine itR_of (P:=docQ s c rest K X) (s:={ s with event:=.none }) (hD.e2 e e2) (by (first | lia | omega)) hz2 hk hd hi k1 k0 fun tx3 col3 n3 line ind hc3 hn3 k1 k0=>⟨rfl,?_⟩
  refine ⟨em_hp _,.inr ?_⟩
  have fin:∀ line col n',n' ≤ n3 + 3 → (fun (v:SV) (H:Hp)=>v = SV.none ∧ runE (evDE :: rest) H K X) SV.none (hp (seO (bS { s with event:=.none } c) c (tx3 ++ seT c) line col n')):=fun line col n' hn'=>⟨rfl,em_hp _,.inr ((em_7 (seO (bS { s with event:=.none } c) c (tx3 ++ seT c) line col n') _ X).mpr ⟨rfl,by show n' ≤ _;(first | lia | omega),rfl,by
   have k2:=k1 rfl (line + 1) (n' + 1) (by (first | lia | omega))
   rw [← Aa] at k2
   exact k2⟩)⟩
  rw [← seTx_eq] at fin
  cases c with
  | false=>exact (em_6f (iO { s with event:=.none } false tx3 line col3 n3 ind) s.bi _ X).mpr ⟨rfl,by show n3 ≤ _;(first | lia | omega),fin line (col3 + (t "]").length) (n3 + 1) (by (first | lia | omega))⟩
  | true=>exact (em_6t (iO { s with event:=.none } true tx3 line col3 n3 ind) s.bi _ X).mpr ⟨rfl,by show n3 ≤ _;(first | lia | omega),rfl,by show n3 + 1 ≤ _;(first | lia | omega),rfl,by show n3 + 1 + 1 ≤ _;(first | lia | omega),fin (line + 1) (0 + (t "]").length) (n3 + 1 + 1 + 1) (by (first | lia | omega))⟩
noncomputable abbrev d1 (s:Em) (f c:Bool) (D:Doc) (ta:Addr) (tk:List (Str × SV)):Em:={ dA s f c with events:=[evK (.sq D.a D.g D.im)],event:=dsE D.ex D.ver (tgS D.kvs),ta:=ta,tk:=tk }
theorem d1_q (s:Em) (f c:Bool) (D:Doc) (ta:Addr) (tk:List (Str × SV)):dsQb (d1 s f c D ta tk) = true:=by rfl'
theorem d1_e (s:Em) (f c:Bool) (D:Doc) (ta:Addr) (tk:List (Str × SV)):evD (d1 s f c D ta tk).event = some (D.ex,D.ver,tgS D.kvs):=by rfl'
theorem d1_s (s:Em) (f c:Bool) (D:Doc) (ta:Addr) (tk:List (Str × SV)):sq1 (d1 s f c D ta tk).events = some (D.a,D.g,D.im):=by rfl'
theorem doc_ds (s:Em) (f c:Bool) (D:Doc) (hD:D.Ok) (rest:List SV) (K:Hp → Prop) (X:XC) (hi:2 ≤ s.bi ∧ s.bi ≤ 9) (hn:s.n ≤ 300000) (ta:Addr) (tk:List (Str × SV))
  (k:(docT f c s.bi D).2 = true → ∀ a' line n',n' ≤ s.n + 1000 → runE rest (hp (dA (dZ s (s.tx ++ (docT f c s.bi D).1) a' (dsTk D.kvs) line n') false c)) K X) (x:(docT f c s.bi D).2 = false → XT (s.tx ++ (docT f c s.bi D).1) X) :
  dsV (d1 s f c D ta tk) f (fun s'=>SV.none = SV.none ∧ runE (evK D.e1 :: (match D.e2 with | none=>[evSE,evDE] | some e=>[evK e,evSE,evDE]) ++ rest) (hp { s' with event:=.none }) K X) X:=by
 refine iff_of (d1_q s f c D ta tk) (opt_of (d1_e s f c D ta tk) (opt_of (d1_s s f c D ta tk) ?_))
 cases hb:D.bad with
 | true =>
  have e:docT f c s.bi D = (Str.empty,false):=by unfold docT;rw [hb]
  rw [e] at x
  have x:=x rfl
  rw [show s.tx ++ (Str.empty,false).1 = s.tx from Ae _] at x
  exact .inr ⟨by show D.ver = _;unfold Doc.ver;rw [hb],x⟩
 | false =>
  have e:docT f c s.bi D = pTx (dsTx D.w D.kvs) (dirL D.kvs (skL D.kvs) tpK).2.1 (docB f c s.bi D):=by unfold docT;rw [hb]
  rw [e] at k x
  refine .inl ⟨D.w,D.kvs,⟨by show D.ver = _;unfold Doc.ver;rw [hb],rfl,hD.ver,hD.kv,Nl hn (by decide)⟩,fun e1 a' line n' hn'=>⟨rfl,?_⟩,fun e1=>rest_f e1 x⟩
  rw [pTx_t e1] at k x
  have hn2:n' ≤ s.n + 20:=hn'
  refine doc_b (dsO (d1 s f c D ta tk) (dsMk f c D) c (dsTl (dsMk f c D) c (s.tx ++ dsTx D.w D.kvs)) a' (dsTk D.kvs) line n') c D hD (s.tx ++ dsTx D.w D.kvs) (dsHd (dsMk f c D) c) true true 0 rest K X hi (by show n' ≤ _;(first | lia | omega)) ?_ rfl (dsTl_eq ..) (docB f c s.bi D) rfl (fun e2 line2 n2 hn3=>?_) (fun e2=>?_)
  ·show (match and (dsMk f c D) (!c) with | true=>(3:Int) | false=>0) ≤ 10
   cases and (dsMk f c D) (!c) <;> decide
  ·have hn3:n2 ≤ n' + 900:=hn3
   have k2:=k e2 a' line2 n2 (by (first | lia | omega))
   rw [← Aa] at k2
   exact k2
  ·have x2:=x e2
   rw [← Aa] at x2
   exact x2
theorem doc_run (s:Em) (f c:Bool) (D:Doc) (hD:D.Ok) (rest:List SV) (K:Hp → Prop) (X:XC) (hi:2 ≤ s.bi ∧ s.bi ≤ 9) (hn:s.n ≤ 300000) (d:Bool)
  (k:(docT f c s.bi D).2 = true → ∀ a' line n',n' ≤ s.n + 1000 → runE rest (hp (dA (dZ s (s.tx ++ (docT f c s.bi D).1) a' (dsTk D.kvs) line n') false c)) K X) (x:(docT f c s.bi D).2 = false → XT (s.tx ++ (docT f c s.bi D).1) X) :
  runE (D.evs ++ rest) (hpD d (dA s f c)) K X:=by
 refine ⟨em_hpD d _,.inl ((em_2 (dA s f c) D.ex D.ver (tgS D.kvs) _ X d).mpr ⟨rfl,?_⟩)⟩
 refine ⟨em_hpD d _,.inl ((em_3 (dA s f c) D.ex D.ver (tgS D.kvs) D.a D.g D.im _ X d f).mpr ?_)⟩
 cases d with
 | true=>exact ⟨rfl,doc_ds s f c D hD rest K X hi hn s.ta s.tk k x⟩
 | false=>exact doc_ds s f c D hD rest K X hi hn 0 [] k x
noncomputable def allT (c:Bool) (i:Int) (D1 D2:Doc):Str × Bool:=pTx (docT true c i D1).1 (docT true c i D1).2 (docT false c i D2)
noncomputable def em0 (c:Bool) (i:Int):Em:={ states:=[],state:=m359,events:=[],event:=.none,indents:=[],indent:=.none,flow:=0,root:=false,seq:=false,map:=false,simple:=false,line:=0,col:=0,ws:=true,ind:=true,oe:=false,canon:=c,bi:=i,ta:=0,tk:=[],pan:=.none,ptg:=.none,ana:=.none,sty:=.none,tx:=Str.empty,n:=0 }
theorem run_all (c:Bool) (i:Int) (D1 D2:Doc) (h1:D1.Ok) (h2:D2.Ok) (hi:2 ≤ i ∧ i ≤ 9) (K:Hp → Prop) (X:XC) (k:(allT c i D1 D2).2 = true → ∀ H,finH (allT c i D1 D2).1 H → K H) (x:(allT c i D1 D2).2 = false → XT (allT c i D1 D2).1 X) :
  runE (evSS0 :: (D1.evs ++ (D2.evs ++ [evSE0]))) (hp0 (em0 c i) .none) K X:=by
 refine ⟨em_hp0 _ _,.inr ((em_1 (em0 c i) _ X).mpr ⟨rfl,?_⟩)⟩
 refine doc_run (em0 c i) true c D1 h1 (D2.evs ++ [evSE0]) K X hi (Nat.zero_le _) false (fun e a' line n' hn'=>?_) (fun e=>?_)
 ·have e:(docT true c i D1).2 = true:=e
  unfold allT at k x
  rw [pTx_t e] at k x
  have hn':n' ≤ 0 + 1000:=hn'
  refine doc_run (dZ (em0 c i) ((em0 c i).tx ++ (docT true c i D1).1) a' (dsTk D1.kvs) line n') false c D2 h2 [evSE0] K X hi (by show n' ≤ _;(first | lia | omega)) true (fun e2 a2 line2 n2 hn2=>?_) (fun e2=>?_)
  ·refine ⟨em_hp _,.inr ((em_8 _ _ X).mpr ⟨rfl,k e2 _ ?_⟩)⟩
   refine fin_of ?_
   show (Str.empty ++ (docT true c i D1).1) ++ (docT false c i D2).1 = _
   rw [Str.empty_append]
  ·have x2:=x e2
   show XT ((Str.empty ++ (docT true c i D1).1) ++ (docT false c i D2).1) X
   rw [Str.empty_append]
   exact x2
 ·have e:(docT true c i D1).2 = false:=e
  unfold allT at x
  rw [pTx_f e] at x
  show XT (Str.empty ++ (docT true c i D1).1) X
  rw [Str.empty_append]
  exact x rfl
noncomputable abbrev pT:Tab:=tL [] 0
noncomputable abbrev pX (n:Nat):WS:=(wp pT e_26.sc n).S
noncomputable def pB:List Stmt:=e_26.bd
noncomputable def pF:List Stmt:=loopB (nthS 5 pB)
noncomputable def pW:List Stmt:=loopB (nthS 8 pB)
noncomputable abbrev pL (g:Str) (hv:SV) (sx:Str) (r:List (Str × SV)):Loc:=(t "self",me) :: (t "tag",.str g) :: (t "handle",hv) :: (t "suffix",.str sx) :: r
noncomputable abbrev pL1 (g:Str) (hv:SV) (sx:Str) (ps:SV) (p:SV):Loc:=pL g hv sx [(t "prefixes",ps),(t "prefix",p)]
theorem pf_t (s:Em) (g sx p:Str) (hv ps:SV) (K:QB) (X:XC):(wp pT e_26.sc 58).B (tstO (nthS 0 pF)) (pL1 g hv sx ps (.str p)) (hp s) K X =
 (brn (Txt.startswith g p)
 (brn (!sbeq p (t "!"))
 (bnd sizeLine (p.length) (bnd sizeLine (g.length) (brn (!decide ((p.length:Int) < (g.length:Int)))
  (K false (hp s))
  (brn (decide ((p.length:Int) < (g.length:Int)))
  (K true (hp s))
  (K (decide ((p.length:Int) < (g.length:Int))) (hp s))))))
 (brn (sbeq p (t "!"))
  (K true (hp s))
  (K (sbeq p (t "!")) (hp s))))
 (K (Txt.startswith g p) (hp s))):=by rfl'
noncomputable def pfB (g p:Str):Bool:=and (Txt.startswith g p) (or (sbeq p (t "!")) (decide ((p.length:Int) < (g.length:Int))))
theorem pf_b {s:Em} {g sx p:Str} {hv ps:SV} {K:QB} {X:XC} (hp1:p.length ≤ sizeLine) (hg:g.length ≤ sizeLine) (h1:pfB g p = true → K true (hp s)) (h0:pfB g p = false → K false (hp s)):(wp pT e_26.sc 58).B (tstO (nthS 0 pF)) (pL1 g hv sx ps (.str p)) (hp s) K X:=by
 rw [pf_t]
 unfold pfB at h1 h0
 cases e1:Txt.startswith g p with
 | false=>rw [e1] at h0;exact h0 rfl
 | true =>
  rw [e1] at h1 h0
  cases e2:sbeq p (t "!") with
  | true=>rw [e2] at h1;exact h1 rfl
  | false =>
   rw [e2] at h1 h0
   refine bnd_of hp1 (bnd_of hg ?_)
   cases e3:decide ((p.length:Int) < (g.length:Int)) with
   | true=>rw [e3] at h1;exact h1 rfl
   | false=>rw [e3] at h0;exact h0 rfl
theorem pf_th (s:Em) (g sx p:Str) (hv ps:SV) (Qv:QS) (X:XC):exeL pT (pX 58) (ifT (nthS 0 pF)) (pL1 g hv sx ps (.str p)) (hp s) Qv X = (s.ta = s.ta ∧ opt (lk p s.tk) fun v=>bnd sizeLine p.length (bnd sizeLine g.length (Qv .next (pL1 g v (Txt.slice g (some (p.length:Int)) none) ps (.str p)) (hp s)))):=by rfl'
theorem pf_el (s:Em) (g sx p:Str) (hv ps:SV) (Qv:QS) (X:XC):exeL pT (pX 58) (ifE (nthS 0 pF)) (pL1 g hv sx ps (.str p)) (hp s) Qv X = Qv .next (pL1 g hv sx ps (.str p)) (hp s):=by rfl'
theorem pf_l:pF = [nthS 0 pF]:=by rfl'
theorem pf_if:nthS 0 pF = .If (tstO (nthS 0 pF)) (ifT (nthS 0 pF)) (ifE (nthS 0 pF)) (posO (nthS 0 pF)):=by rfl'
theorem pf_fr:lkN (stLine (nthS 0 pF)) pT.frz = none:=by rfl'
noncomputable def pkS (g:Str) (tk:List (Str × SV)) (st:SV × Str) (p:Str):SV × Str:=match pfB g p with | true=>((lk p tk).getD .none,Txt.slice g (some (p.length:Int)) none) | false=>st
theorem st_if2 {T:Tab} {sc:Scope} {n:Nat} {s:Stmt} {loc:Loc} {H:Hp} {Q:QS} {X:XC} (hs:s = .If (tstO s) (ifT s) (ifE s) (posO s)) (hB:(wp T sc n).B (tstO s) loc H (fun c H=>brn c (exeL T (wp T sc n).S (ifT s) loc H Q X) (exeL T (wp T sc n).S (ifE s) loc H Q X)) X):(wp T sc (n + 1)).S s loc H Q X:=by
 rw [hs]
 exact hB
theorem pf_turn (s:Em) (g sx p:Str) (hv ps:SV) (Qs:QS) (X:XC) (hp1:p.length ≤ 1000) (hg:g.length ≤ 1000) {v:SV} (e:lk p s.tk = some v) (h:Qs .next (pL1 g (pkS g s.tk (hv,sx) p).1 (pkS g s.tk (hv,sx) p).2 ps (.str p)) (hp s)):exeL pT (pX 59) pF (pL1 g hv sx ps (.str p)) (hp s) Qs X:=by
 have l1:p.length ≤ sizeLine:=Nl hp1 (by decide)
 have l2:g.length ≤ sizeLine:=Nl hg (by decide)
 rw [pf_l]
 show (pX 59) (nthS 0 pF) _ _ (aft1 pT (pX 59) (nthS 0 pF) [] Qs X) X
 refine st_if2 pf_if (pf_b l1 l2 (fun eb=>?_) (fun eb=>?_))
 ·refine (pf_th s g sx p hv ps (aft1 pT (pX 59) (nthS 0 pF) [] Qs X) X).mpr ⟨rfl,opt_of e (bnd_of l1 (bnd_of l2 (aft_next pf_fr ?_)))⟩
  unfold pkS at h
  rw [eb,e] at h
  exact h
 ·refine (pf_el s g sx p hv ps (aft1 pT (pX 59) (nthS 0 pF) [] Qs X) X).mpr (aft_next pf_fr ?_)
  unfold pkS at h
  rw [eb] at h
  exact h
theorem pf_loop (s:Em) (g:Str) (ps:SV) (Qs:QS) (X:XC) (hg:g.length ≤ 1000) (ks:List Str):∀ (st:SV × Str) (p:SV),(∀ p ∈ ks,p.length ≤ 1000 ∧ ∃ v,lk p s.tk = some v) → (∀ p,Qs .next (pL1 g (ks.foldl (pkS g s.tk) st).1 (ks.foldl (pkS g s.tk) st).2 ps p) (hp s)) → forL pT (pX 59) (t "prefix") pF (ks.map .str) (pL1 g st.1 st.2 ps p) (hp s) Qs X:=by
 induction ks with
 | nil=>intro st p _ h;exact h p
 | cons q r ih =>
  intro st p hk h
  obtain ⟨h1,v,e⟩:=hk q (.head _)
  have hput:put (t "prefix") (.str q) (pL1 g st.1 st.2 ps p) = pL1 g st.1 st.2 ps (.str q):=by rfl'
  show exeL pT (pX 59) pF (put (t "prefix") (.str q) (pL1 g st.1 st.2 ps p)) _ (fun fl loc H=>afterV fl loc H Qs fun loc H=>forL pT (pX 59) (t "prefix") pF (r.map .str) loc H Qs X) X
  rw [hput]
  exact pf_turn s g st.2 q st.1 ps _ X h1 hg e (ih (pkS g s.tk st q) (.str q) (fun p hp=>hk p (.tail _ hp)) h)
theorem sl_ij {x:Str} {i j:Nat} (h1:i ≤ j) (h2:j ≤ x.cps.toList.length):Txt.slice x (some (i:Int)) (some (j:Int)) = ⟨⟨(x.cps.toList.drop i).take (j - i)⟩⟩:=by
 have h:=eq_of_beq (slice_closes (x:=x) (i:=i) (j:=j) ⟨Int.natCast_nonneg _,by (first | lia | omega),by (first | lia | omega)⟩)
 rw [h]
 show (⟨(List.take ((j:Int) - i).toNat (List.drop ((i:Int)).toNat x.cps.toList)).toArray⟩:Str) = _
 rw [show ((j:Int) - i).toNat = j - i by (first | lia | omega),show ((i:Int)).toNat = i from rfl]
theorem sl_i {x:Str} {i:Nat} (h2:i ≤ x.cps.toList.length):Txt.slice x (some (i:Int)) none = ⟨⟨x.cps.toList.drop i⟩⟩:=by
 have h:=eq_of_beq (slice_closes_from (x:=x) (i:=i) ⟨Int.natCast_nonneg _,by (first | lia | omega)⟩)
 rw [h,show ((x.cps.toList.length:Int) - i).toNat = x.cps.toList.length - i by (first | lia | omega),show ((i:Int)).toNat = i from rfl,List.take_of_length_le (by rw [List.length_drop];exact Nat.le_refl _)]
theorem sl_to {x:Str} {j:Nat} (h2:j ≤ x.cps.toList.length):Txt.slice x none (some (j:Int)) = ⟨⟨x.cps.toList.take j⟩⟩:=by
 have h:=eq_of_beq (slice_closes_to (x:=x) (j:=j) ⟨Int.natCast_nonneg _,by (first | lia | omega)⟩)
 rw [h,show ((j:Int) - 0).toNat = j by (first | lia | omega)]
 rfl
theorem it_j {x:Str} {j c:Nat} (h:x.cps.toList[j]? = some c):Txt.item x (j:Int) = ⟨⟨[c]⟩⟩:=by
 have hj:j < x.length:=by rw [← slen];exact (List.getElem?_eq_some_iff.mp h).1
 unfold Txt.item Txt.charAt seqIndex?
 have h1:¬ ((j:Int) < 0):=by (first | lia | omega)
 simp only [h1,if_false]
 rw [if_pos (by simp;(first | lia | omega))]
 show (⟨#[((x.cps[((j:Int)).toNat]?)).getD 0]⟩:Str) = _
 rw [show ((j:Int)).toNat = j from rfl,← Array.getElem?_toList,h]
 rfl
theorem sw_iff {x y:Str}:Txt.startswith x y = true ↔ y.cps.toList <+: x.cps.toList:=by
 unfold Txt.startswith
 rw [StrLaws.subAt_eq]
 simp only [Bool.and_eq_true,decide_eq_true_eq,beq_iff_eq,List.drop_zero]
 constructor
 ·rintro ⟨h1,h2⟩
  rw [← h2]
  exact List.take_prefix _ _
 ·intro h
  have hl:=h.length_le
  rw [slen,slen] at hl
  exact ⟨by (first | lia | omega),by rw [← slen];exact (List.prefix_iff_eq_take.mp h).symm⟩
noncomputable abbrev wL (g:Str) (hv:SV) (sx:Str) (ps pv:SV) (a:Addr) (i j:Nat) (tl:List (Str × SV)):Loc:=pL1 g hv sx ps pv ++ ((t "chunks",.obj 557008 (some a)) :: (t "start",.int (Int.ofNat i)) :: (t "end",.int (Int.ofNat j)) :: tl)
noncomputable abbrev wH (s:Em) (a:Addr) (tx:Str) (n:Nat):Hp:=(557008,some a,.acc tx n) :: hp s
noncomputable def wT (o:Option SV) (c:SV):List (Str × SV):=(t "ch",c) :: (match o with | none=>[] | some d=>[(t "data",d)])
noncomputable def octR (a:Addr) (K:Str → Nat → Prop):List Nat → Str → Nat → Prop
 | [],tx,n=>K tx n
 | b :: r,tx,n=>a = a ∧ a = a ∧ n ≤ 1000000 ∧ octR a K r (tx ++ pctN b) (n + 1)
noncomputable def lastI (bs:List Nat):SV:=match bs.getLast? with | some b=>.int (Int.ofNat b) | none=>.none
noncomputable def spR (s:Em) (g:Str) (hv:SV) (sx:Str) (ps pv:SV) (a:Addr) (i j:Nat) (tx:Str) (n:Nat) (bs:List Nat) (Qs:QS):Prop:=brn (decide (Int.ofNat i < Int.ofNat j))
 (a = a ∧ bnd sizeLine sx.length (a = a ∧ n ≤ 1000000 ∧ octR a (fun tx n=>Qs .next (wL g hv sx ps pv a (j + 1) (j + 1) (wT (some (.byt bs)) (lastI bs))) (wH s a tx n)) bs (tx ++ Txt.slice sx (some (Int.ofNat i)) (some (Int.ofNat j))) (n + 1)))
 (octR a (fun tx n=>Qs .next (wL g hv sx ps pv a (j + 1) (j + 1) (wT (some (.byt bs)) (lastI bs))) (wH s a tx n)) bs tx n)
noncomputable def spcL:List (Nat × List Nat):=encTab.filter fun p=>!(Nat.beq p.1 33)
section
variable (s:Em) (g sx tx:Str) (hv ps pv:SV) (a:Addr) (i j n:Nat) (Qs:QS) (X:XC)
theorem w_ok:∀ o:Option SV,(letL.map fun c=>exeL pT (pX 59) (pW.drop 1) (wL g hv sx ps pv a i j (wT o (.str ⟨⟨[c]⟩⟩))) (wH s a tx n) Qs X) = letL.map fun c=>Qs .next (wL g hv sx ps pv a i (j + 1) (wT o (.str ⟨⟨[c]⟩⟩))) (wH s a tx n)
 | none=>(by rfl')
 | some _=>(by rfl')
theorem w_sp:∀ o:Option SV,(spcL.map fun p=>exeL pT (pX 59) (pW.drop 1) (wL g hv sx ps pv a i j (wT o (.str ⟨⟨[p.1]⟩⟩))) (wH s a tx n) Qs X) = spcL.map fun p=>spR s g hv sx ps pv a i j tx n p.2 Qs
 | none=>(by rfl')
 | some _=>(by rfl')
noncomputable abbrev okR (c:Nat) (o:Option SV):Prop:=Qs .next (wL g hv sx ps pv a i (j + 1) (wT o (.str ⟨⟨[c]⟩⟩))) (wH s a tx n)
theorem w_bn:∀ o:Option SV,exeL pT (pX 59) (pW.drop 1) (wL g .none sx ps pv a i j (wT o (.str ⟨⟨[33]⟩⟩))) (wH s a tx n) Qs X = okR s g sx tx .none ps pv a i j n Qs 33 o
 | none=>(by rfl')
 | some _=>(by rfl')
theorem w_bs (h:Str):∀ o:Option SV,exeL pT (pX 59) (pW.drop 1) (wL g (.str h) sx ps pv a i j (wT o (.str ⟨⟨[33]⟩⟩))) (wH s a tx n) Qs X = brn (!(sbeq h (t "!"))) (okR s g sx tx (.str h) ps pv a i j n Qs 33 o)
  (brn (!(!(sbeq h (t "!")))) (spR s g (.str h) sx ps pv a i j tx n [33] Qs) (brn (!(sbeq h (t "!"))) (okR s g sx tx (.str h) ps pv a i j n Qs 33 o) (spR s g (.str h) sx ps pv a i j tx n [33] Qs)))
 | none=>(by rfl')
 | some _=>(by rfl')
noncomputable def wSh (k:Option (Option SV × SV)):List (Str × SV):=match k with | none=>[] | some p=>wT p.1 p.2
noncomputable def wSo (k:Option (Option SV × SV)):Option SV:=match k with | none=>none | some p=>p.1
theorem w_ch:∀ k:Option (Option SV × SV),exeL pT (pX 59) pW (wL g hv sx ps pv a i j (wSh k)) (wH s a tx n) Qs X = iff_ (and (decide (-(sx.length:Int) ≤ Int.ofNat j)) (decide (Int.ofNat j < (sx.length:Int)))) (bnd sizeLine sx.length (exeL pT (pX 59) (pW.drop 1) (wL g hv sx ps pv a i j (wT (wSo k) (.str (Txt.item sx (Int.ofNat j))))) (wH s a tx n) Qs X))
 | none=>(by rfl')
 | some (none,_)=>(by rfl')
 | some (some _,_)=>(by rfl')
theorem w_tst (K:QB):∀ k:Option (Option SV × SV),(wp pT e_26.sc 59).B (tstO (nthS 8 pB)) (wL g hv sx ps pv a i j (wSh k)) (wH s a tx n) K X = bnd sizeLine sx.length (K (decide (Int.ofNat j < (sx.length:Int))) (wH s a tx n))
 | none=>(by rfl')
 | some (none,_)=>(by rfl')
 | some (some _,_)=>(by rfl')
end
noncomputable def hB (hv:SV):Bool:=match hv with | .str h=>!(sbeq h (t "!")) | _=>true
noncomputable def hvP (hv:SV):Prop:=hv = .none ∨ ∃ h,hv = .str h
noncomputable def okC (b:Bool) (c:Nat):Bool:=or (memN c letL) (and b (Nat.beq c 33))
theorem oct_of {a:Addr} {K:Str → Nat → Prop} (bs:List Nat):∀ (tx:Str) (n:Nat),n + bs.length ≤ 1000000 → (∀ n',n' ≤ n + bs.length → K (tx ++ pctL bs) n') → octR a K bs tx n:=by
 induction bs with
 | nil=>intro tx n _ h;have k:=h n (Nat.le_refl _);rw [show tx ++ pctL [] = tx from Ae tx] at k;exact k
 | cons b r ih =>
  intro tx n hn h
  have hn:n + (r.length + 1) ≤ 1000000:=hn
  refine ⟨rfl,rfl,by (first | lia | omega),ih (tx ++ pctN b) (n + 1) (by (first | lia | omega)) fun n' hn'=>?_⟩
  have k:=h n' (by show n' ≤ n + (r.length + 1);(first | lia | omega))
  rw [Aa]
  exact k
theorem sp_of {s:Em} {g sx tx:Str} {hv ps pv:SV} {a:Addr} {i j n:Nat} {bs:List Nat} {Qs:QS} (hs:sx.length ≤ 100000) (hb:bs.length ≤ 4) (hn:n ≤ 900000) (h:∀ n',n' ≤ n + 5 → Qs .next (wL g hv sx ps pv a (j + 1) (j + 1) (wT (some (.byt bs)) (lastI bs))) (wH s a ((match decide (Int.ofNat i < Int.ofNat j) with | true=>tx ++ Txt.slice sx (some (Int.ofNat i)) (some (Int.ofNat j)) | false=>tx) ++ pctL bs) n')):spR s g hv sx ps pv a i j tx n bs Qs:=by
 refine brn_of (fun e=>?_) (fun e=>?_)
 ·rw [e] at h
  exact ⟨rfl,bnd_of (Nl hs (by decide)) ⟨rfl,Nl hn (by decide),oct_of bs _ _ (by (first | lia | omega)) fun n' hn'=>h n' (by (first | lia | omega))⟩⟩
 ·rw [e] at h
  exact oct_of bs _ _ (by (first | lia | omega)) fun n' hn'=>h n' (by (first | lia | omega))
theorem pt_map {α:Type} {l:List α} {f g:α → Prop} (h:l.map f = l.map g) {x:α} (hx:x ∈ l):f x = g x:=List.map_inj_left.mp h x hx
theorem memN_mem {c:Nat} {l:List Nat} (h:memN c l = true):c ∈ l:=by
 induction l with
 | nil=>cases h
 | cons d r ih =>
  have h:(match Nat.beq c d with | true=>true | false=>memN c r) = true:=h
  cases e:Nat.beq c d with
  | true=>rw [Nq e];exact .head _
  | false=>rw [e] at h;exact .tail _ (ih h)
theorem spc_all:(sgnL.map fun c=>or (okC true c) (match lkN c spcL with | some bs=>Nat.ble bs.length 4 | none=>false)) = sgnL.map fun _=>true:=by rfl'
theorem enc_tab:(sgnL.map fun c=>or (memN c letL) (match lkN c encTab with | some bs=>(match lkN c spcL with | some cs=>lbeq bs cs | none=>Nat.beq c 33) | none=>false)) = sgnL.map fun _=>true:=by rfl'
theorem memN_of {c:Nat} {l:List Nat} (h:c ∈ l):memN c l = true:=by
 induction l with
 | nil=>cases h
 | cons d r ih =>
  show (match Nat.beq c d with | true=>true | false=>memN c r) = true
  cases e:Nat.beq c d with
  | true=>rfl
  | false =>
   rcases Mc h with rfl | h
   ·rw [Nat.beq_refl] at e;cases e
   ·exact ih h
theorem spc_of {c:Nat} (hc:memN c sgnL = true) (h1:memN c letL = false) (h2:Nat.beq c 33 = false):∃ bs,(c,bs) ∈ spcL ∧ bs.length ≤ 4 ∧ ∀ b,spell1 b c = pctL bs:=by
 have a:=List.map_inj_left.mp spc_all c (memN_mem hc)
 have b:=List.map_inj_left.mp enc_tab c (memN_mem hc)
 have ho:okC true c = false:=by unfold okC;rw [h1,h2];rfl
 rw [ho] at a
 rw [h1] at b
 cases e:lkN c spcL with
 | none=>rw [e] at a;cases a
 | some cs =>
  rw [e] at a b
  refine ⟨cs,lkN_mem e,Nb a,fun bb=>?_⟩
  cases e2:lkN c encTab with
  | none=>rw [e2] at b;cases b
  | some bs =>
   rw [e2] at b
   have b:lbeq bs cs = true:=b
   unfold spell1
   have ho:or (memN c letL) (and bb (Nat.beq c 33)) = false:=by rw [h1,h2];cases bb <;> rfl
   rw [ho,e2,of_lbeq _ b]
theorem sp33:∀ b,okC b 33 = b:=fun b=>by cases b <;> kernel_rfl
theorem spell33:spell1 false 33 = pctL [33]:=by rfl'
theorem spell_ok {b:Bool} {c:Nat} (h:okC b c = true):spell1 b c = ⟨⟨[c]⟩⟩:=by unfold spell1;rw [show or (memN c letL) (and b (Nat.beq c 33)) = true from h]
noncomputable def flT (sx tx:Str) (i j:Nat):Str:=match decide (Int.ofNat i < Int.ofNat j) with | true=>tx ++ Txt.slice sx (some (Int.ofNat i)) (some (Int.ofNat j)) | false=>tx
theorem w_turn {s:Em} {g sx tx:Str} {hv ps pv:SV} {a:Addr} {i j n c:Nat} {o:Option SV} {Qs:QS} {X:XC} (hc:memN c sgnL = true) (hp1:hvP hv) (hs:sx.length ≤ 100000) (hn:n ≤ 900000)
  (h1:okC (hB hv) c = true → ∀ o x,Qs .next (wL g hv sx ps pv a i (j + 1) (wT o x)) (wH s a tx n))
  (h0:okC (hB hv) c = false → ∀ n' o x,n' ≤ n + 5 → Qs .next (wL g hv sx ps pv a (j + 1) (j + 1) (wT o x)) (wH s a (flT sx tx i j ++ spell1 (hB hv) c) n')) :
  exeL pT (pX 59) (pW.drop 1) (wL g hv sx ps pv a i j (wT o (.str ⟨⟨[c]⟩⟩))) (wH s a tx n) Qs X:=by
 cases e1:memN c letL with
 | true =>
  have ho:okC (hB hv) c = true:=by unfold okC;rw [e1];rfl
  rw [pt_map (w_ok s g sx tx hv ps pv a i j n Qs X o) (memN_mem e1)]
  exact h1 ho o _
 | false =>
  cases e2:Nat.beq c 33 with
  | true =>
   cases Nq e2
   rcases hp1 with rfl | ⟨h,rfl⟩
   ·rw [w_bn s g sx tx ps pv a i j n Qs X o]
    exact h1 (sp33 true) o _
   ·rw [w_bs s g sx tx ps pv a i j n Qs X h o]
    cases e3:sbeq h (t "!") with
    | false=>exact h1 (by show okC (!(sbeq h (t "!"))) 33 = true;rw [e3];exact sp33 true) o _
    | true =>
     have hb:hB (.str h) = false:=by show (!(sbeq h (t "!"))) = false;rw [e3];rfl
     rw [hb] at h0
     exact sp_of hs (by decide) hn fun n' hn'=>by
      have k:=h0 (sp33 false) n' (some (.byt [33])) (lastI [33]) hn'
      rw [spell33] at k
      exact k
  | false =>
   obtain ⟨bs,hm,hl,hsp⟩:=spc_of hc e1 e2
   have hno:okC (hB hv) c = false:=by unfold okC;rw [e1,e2];cases hB hv <;> rfl
   rw [pt_map (w_sp s g sx tx hv ps pv a i j n Qs X o) hm]
   exact sp_of hs hl hn fun n' hn'=>by
    have k:=h0 hno n' (some (.byt bs)) (lastI bs) hn'
    rw [hsp] at k
    exact k
noncomputable abbrev mk (l:List Nat):Str:=⟨⟨l⟩⟩
theorem cps_app (x y:Str):(x ++ y).cps.toList = x.cps.toList ++ y.cps.toList:=by
 show (x.cps ++ y.cps).toList = _
 exact Array.toList_append ..
theorem mk_app (a b:List Nat):mk (a ++ b) = mk a ++ mk b:=sext (by rw [cps_app])
theorem mk_of (x:Str):mk x.cps.toList = x:=sext rfl
theorem flT_eq {sx tx:Str} {i j:Nat} (h1:i ≤ j) (h2:j ≤ sx.cps.toList.length):flT sx tx i j = tx ++ mk ((sx.cps.toList.drop i).take (j - i)):=by
 unfold flT
 cases e:decide (Int.ofNat i < Int.ofNat j) with
 | true =>
  show tx ++ Txt.slice sx (some (i:Int)) (some (j:Int)) = _
  rw [sl_ij h1 h2]
 | false =>
  have h:¬ ((i:Int) < (j:Int)):=of_decide_eq_false e
  have:j - i = 0:=by (first | lia | omega)
  rw [this,List.take_zero]
  exact (Ae tx).symm
theorem w_loop (s:Em) (g sx:Str) (hv ps pv:SV) (a:Addr) (Qs:QS) (X:XC) (hp1:hvP hv) (hs:sx.length ≤ 100000) (hc:∀ c ∈ sx.cps.toList,memN c sgnL = true) (k:Nat):∀ (fuel i j:Nat) (tx:Str) (n:Nat) (sh:Option (Option SV × SV)),j + k = sx.cps.toList.length → k < fuel → i ≤ j → n + 5 * k ≤ 900000 →
  (∀ i' tx' n' sh,i' ≤ sx.cps.toList.length → tx' ++ mk (sx.cps.toList.drop i') = (tx ++ mk ((sx.cps.toList.drop i).take (j - i))) ++ spell (hB hv) (sx.cps.toList.drop j) → n' ≤ n + 5 * k → Qs .next (wL g hv sx ps pv a i' sx.cps.toList.length (wSh sh)) (wH s a tx' n')) →
  whlL pT (wp pT e_26.sc 59) (tstO (nthS 8 pB)) pW fuel (wL g hv sx ps pv a i j (wSh sh)) (wH s a tx n) Qs X:=by
 have hlen:sx.cps.toList.length = sx.length:=slen sx
 have hz:sx.length ≤ sizeLine:=Nl hs (by decide)
 induction k with
 | zero =>
  intro fuel i j tx n sh hj hf hi hn q
  cases fuel with
  | zero=>exact absurd hf (Nat.not_lt_zero _)
  | succ fuel =>
   have hj:j = sx.cps.toList.length:=hj
   show (wp pT e_26.sc 59).B (tstO (nthS 8 pB)) _ _ (fun c H=>brn c (exeL pT (pX 59) pW _ H (fun f loc H=>afterV f loc H Qs fun loc H=>whlL pT (wp pT e_26.sc 59) (tstO (nthS 8 pB)) pW fuel loc H Qs X) X) (Qs .next _ H)) X
   rw [w_tst s g sx tx hv ps pv a i j n X _ sh]
   refine bnd_of hz ?_
   have e:decide (Int.ofNat j < (sx.length:Int)) = false:=decide_eq_false (by show ¬ ((j:Int) < sx.length);(first | lia | omega))
   rw [e]
   have k:=q i tx n sh (by (first | lia | omega)) (by
    rw [hj,List.drop_length,List.take_of_length_le (by rw [List.length_drop];exact Nat.le_refl _)]
    exact (Ae _).symm) (Nat.le_add_right _ _)
   rw [← hj] at k
   exact k
 | succ k ih =>
  intro fuel i j tx n sh hj hf hi hn q
  cases fuel with
  | zero=>exact absurd hf (Nat.not_lt_zero _)
  | succ fuel =>
   have hjl:j < sx.cps.toList.length:=by (first | lia | omega)
   show (wp pT e_26.sc 59).B (tstO (nthS 8 pB)) _ _ (fun c H=>brn c (exeL pT (pX 59) pW _ H (fun f loc H=>afterV f loc H Qs fun loc H=>whlL pT (wp pT e_26.sc 59) (tstO (nthS 8 pB)) pW fuel loc H Qs X) X) (Qs .next _ H)) X
   rw [w_tst s g sx tx hv ps pv a i j n X _ sh]
   refine bnd_of hz ?_
   have e:decide (Int.ofNat j < (sx.length:Int)) = true:=decide_eq_true (by show (j:Int) < sx.length;(first | lia | omega))
   rw [e]
   show exeL pT (pX 59) pW _ _ (fun f loc H=>afterV f loc H Qs fun loc H=>whlL pT (wp pT e_26.sc 59) (tstO (nthS 8 pB)) pW fuel loc H Qs X) X
   rw [w_ch s g sx tx hv ps pv a i j n _ X sh]
   have e2:decide (-(sx.length:Int) ≤ Int.ofNat j) = true:=decide_eq_true (by show -(sx.length:Int) ≤ (j:Int);(first | lia | omega))
   refine iff_of (by rw [e,e2];rfl) (bnd_of hz ?_)
   obtain ⟨c,hcj⟩:∃ c,sx.cps.toList[j]? = some c:=⟨_,List.getElem?_eq_getElem hjl⟩
   have hcm:c ∈ sx.cps.toList:=List.mem_of_getElem? hcj
   have hd:sx.cps.toList.drop j = c :: sx.cps.toList.drop (j + 1):=by
    rw [List.drop_eq_getElem_cons hjl]
    rw [List.getElem?_eq_getElem hjl] at hcj
    cases hcj
    rfl
   rw [show Txt.item sx (Int.ofNat j) = mk [c] from it_j hcj]
   rw [hd] at q
   refine w_turn (hc c hcm) hp1 hs (by (first | lia | omega)) (fun ho o x=>?_) (fun ho n' o x hn'=>?_)
   ·refine ih fuel i (j + 1) tx n (some (o,x)) (by (first | lia | omega)) (by (first | lia | omega)) (by (first | lia | omega)) (by (first | lia | omega)) fun i' tx' n'' sh' h1 h2 h3=>q i' tx' n'' sh' h1 ?_ (by (first | lia | omega))
    rw [h2,show j + 1 - i = (j - i) + 1 by (first | lia | omega),List.take_add_one]
    have hg:(sx.cps.toList.drop i)[j - i]? = some c:=by rw [List.getElem?_drop,show i + (j - i) = j by (first | lia | omega)];exact hcj
    rw [hg]
    show (tx ++ mk (_ ++ [c])) ++ _ = _ ++ (spell1 (hB hv) c ++ _)
    rw [spell_ok ho,mk_app]
    simp only [Aa]
   ·refine ih fuel (j + 1) (j + 1) _ n' (some (o,x)) (by (first | lia | omega)) (by (first | lia | omega)) (Nat.le_refl _) (by (first | lia | omega)) fun i' tx' n'' sh' h1 h2 h3=>q i' tx' n'' sh' h1 ?_ (by (first | lia | omega))
    rw [h2,flT_eq hi (Nat.le_of_lt hjl),Nat.sub_self,List.take_zero]
    show ((_ ++ spell1 (hB hv) c) ++ Str.empty) ++ _ = _ ++ (spell1 (hB hv) c ++ _)
    rw [Ae]
    simp only [Aa]
noncomputable def pEn (a:Addr) (hv:SV) (s:Em) (Q:QV) (tx:Str) (n:Nat):Prop:=a = a ∧ bnd sizeLine tx.length (match hv with
 | .str h=>bnd sizeLine h.length (bnd sizeLine (Str.empty ++ h).length (bnd sizeLine h.length (bnd sizeLine ((Str.empty ++ h) ++ tx).length (bnd sizeLine tx.length (Q (.str ((Str.empty ++ h) ++ tx)) (wH s a tx n))))))
 | _=>bnd 100000 ((t "!<" ++ tx) ++ t ">").length (Q (.str ((t "!<" ++ tx) ++ t ">")) (wH s a tx n)))
noncomputable def pEr (a:Addr) (hv:SV) (s:Em) (Q:QV) (sx tx:Str) (i j n:Nat):Prop:=brn (decide (Int.ofNat i < Int.ofNat j)) (a = a ∧ bnd sizeLine sx.length (a = a ∧ n ≤ 1000000 ∧ pEn a hv s Q (tx ++ Txt.slice sx (some (Int.ofNat i)) (some (Int.ofNat j))) (n + 1))) (pEn a hv s Q tx n)
theorem p_endN (s:Em) (g sx tx:Str) (ps pv:SV) (a:Addr) (i j n:Nat) (Q:QV) (X:XC):∀ sh,exeL pT (pX 60) (pB.drop 9) (wL g .none sx ps pv a i j (wSh sh)) (wH s a tx n) (endQ Q) X = pEr a .none s Q sx tx i j n
 | none=>(by rfl')
 | some (none,_)=>(by rfl')
 | some (some _,_)=>(by rfl')
theorem p_endS (s:Em) (g sx tx:Str) (ps pv:SV) (a:Addr) (i j n c:Nat) (r:List Nat) (Q:QV) (X:XC):∀ sh,exeL pT (pX 60) (pB.drop 9) (wL g (.str ⟨⟨c :: r⟩⟩) sx ps pv a i j (wSh sh)) (wH s a tx n) (endQ Q) X = pEr a (.str ⟨⟨c :: r⟩⟩) s Q sx tx i j n
 | none=>(by rfl')
 | some (none,_)=>(by rfl')
 | some (some _,_)=>(by rfl')
noncomputable abbrev p0L (g:Str):Loc:=[(t "self",me),(t "tag",.str g)]
theorem p_01 (s:Em) (c:Nat) (r:List Nat) (Qv:QS) (X:XC):exeL pT (pX 60) [nthS 0 pB,nthS 1 pB] (p0L ⟨⟨c :: r⟩⟩) (hp s) Qv X = bnd sizeLine (⟨⟨c :: r⟩⟩:Str).length (brn (sbeq ⟨⟨c :: r⟩⟩ (t "!")) (Qv (.ret (.str ⟨⟨c :: r⟩⟩)) (p0L ⟨⟨c :: r⟩⟩) (hp s)) (Qv .next (p0L ⟨⟨c :: r⟩⟩) (hp s))):=by rfl'
theorem p_0e (s:Em) (Q:QV) (X:XC):eS [] 0 e_26 [me,.str ⟨⟨[]⟩⟩] (hp s) Q X = X (hp s):=by rfl'
noncomputable def ksV (s:Em):SV:=.lst ((sortS (s.tk.map (·.1))).map .str)
theorem p_24 (s:Em) (g:Str) (Qv:QS) (X:XC):exeL pT (pX 60) [nthS 2 pB,nthS 3 pB,nthS 4 pB] (p0L g) (hp s) Qv X = (s.ta = s.ta ∧ iff_ (Nat.ble s.tk.length 60) (Qv .next (pL g .none g [(t "prefixes",ksV s)]) (hp s))):=by rfl'
theorem p_5e (s:Em) (g:Str) (K:QV) (X:XC):(wp pT e_26.sc 59).E (tstO (nthS 5 pB)) (pL g .none g [(t "prefixes",ksV s)]) (hp s) K X = K (ksV s) (hp s):=by rfl'
theorem p_67 (s:Em) (g sx:Str) (hv ps pv:SV) (Qv:QS) (X:XC):exeL pT (pX 60) (pB.drop 6) (pL1 g hv sx ps pv) (hp s) Qv X = ∀ a:Addr,exeL pT (pX 60) (pB.drop 8) (wL g hv sx ps pv a 0 0 []) (wH s a Str.empty 0) Qv X:=by rfl'
theorem exeL_app (T:Tab) (S:WS) (B A:List Stmt):∀ (loc:Loc) (H:Hp) (Q:QS) (X:XC),exeL T S (A ++ B) loc H Q X = exeL T S A loc H (fun f loc H=>afterV f loc H Q fun loc H=>exeL T S B loc H Q X) X:=by
 induction A with
 | nil=>intro loc H Q X;rfl
 | cons s A ih =>
  intro loc H Q X
  show S s loc H (fun f loc H=>afterV f loc H Q fun loc H=>frzV T (stLine s) loc H fun loc H=>exeL T S (A ++ B) loc H Q X) X = S s loc H (fun f loc H=>afterV f loc H (fun f loc H=>afterV f loc H Q fun loc H=>exeL T S B loc H Q X) fun loc H=>frzV T (stLine s) loc H fun loc H=>exeL T S A loc H (fun f loc H=>afterV f loc H Q fun loc H=>exeL T S B loc H Q X) X) X
  refine congrArg (fun q=>S s loc H q X) ?_
  funext f loc H
  cases f with
  | next=>exact congrArg (fun q=>frzV T (stLine s) loc H q) (funext fun loc=>funext fun H=>ih loc H Q X)
  | ret v=>rfl
theorem p_list:pB = [nthS 0 pB,nthS 1 pB] ++ ([nthS 2 pB,nthS 3 pB,nthS 4 pB] ++ (nthS 5 pB :: pB.drop 6)):=by rfl'
theorem p_8:pB.drop 8 = nthS 8 pB :: pB.drop 9:=by rfl'
theorem p_w:nthS 8 pB = .While (tstO (nthS 8 pB)) (loopB (nthS 8 pB)) [] (posO (nthS 8 pB)):=by rfl'
theorem p_f:nthS 5 pB = .For (.Name (t "prefix") (tgtP (nthS 5 pB))) (tstO (nthS 5 pB)) (loopB (nthS 5 pB)) [] (posO (nthS 5 pB)):=by rfl'
theorem p_f1:and (noComp (tstO (nthS 5 pB))) (loN e_26.sc (t "prefix")) = true:=by rfl'
theorem p_f2:srcF e_26.sc (tstO (nthS 5 pB)) = .val:=by rfl'
theorem p_fr5:lkN (stLine (nthS 5 pB)) pT.frz = none:=by rfl'
theorem p_fr8:lkN (stLine (nthS 8 pB)) pT.frz = none:=by rfl'
theorem p_wh:pT.wh = 200:=by rfl'
theorem p_ns (g:Str):pickL e_26.ns ([me,.str g] ++ e_26.dfl) = p0L g:=by rfl'
theorem st_while {T:Tab} {sc:Scope} {n:Nat} {s:Stmt} {loc:Loc} {H:Hp} {Q:QS} {X:XC} (hs:s = .While (tstO s) (loopB s) [] (posO s)) (h:whlL T (wp T sc n) (tstO s) (loopB s) T.wh loc H Q X):(wp T sc (n + 1)).S s loc H Q X:=by
 rw [hs]
 exact iff_of (c:=nil? ([]:List Stmt)) rfl h
noncomputable def outT (st:SV × Str):Str:=match st.1 with | .str h=>h ++ spell (hB st.1) st.2.cps.toList | _=>(t "!<" ++ spell true st.2.cps.toList) ++ t ">"
theorem sp_12:(sgnL.map fun c=>and (Nat.ble (spell1 true c).length 12) (Nat.ble (spell1 false c).length 12)) = sgnL.map fun _=>true:=by rfl'
theorem spell_len (b:Bool) (l:List Nat) (h:∀ c ∈ l,memN c sgnL = true):(spell b l).length ≤ 12 * l.length:=by
 induction l with
 | nil=>exact Nat.le_refl _
 | cons c r ih =>
  show (spell1 b c ++ spell b r).length ≤ 12 * (r.length + 1)
  have k:=List.map_inj_left.mp sp_12 c (memN_mem (h c (.head _)))
  obtain ⟨k1,k2⟩:=Ba k
  have h1:(spell1 b c).length ≤ 12:=by cases b with | true=>exact Nb k1 | false=>exact Nb k2
  have h2:=ih fun c hc=>h c (.tail _ hc)
  rw [La]
  (first | lia | omega)
theorem p_end (s:Em) (g sx:Str) (hv ps pv:SV) (a:Addr) (i n:Nat) (tx:Str) (Q:QV) (X:XC) (sh:Option (Option SV × SV)) (hhv:hv = .none ∨ ∃ c r,hv = .str ⟨⟨c :: r⟩⟩ ∧ r.length ≤ 1000) (hs:sx.length ≤ 1000) (hi:i ≤ sx.cps.toList.length) (hn:n ≤ 10000) (hc:∀ c ∈ sx.cps.toList,memN c sgnL = true) (htx:tx ++ mk (sx.cps.toList.drop i) = spell (hB hv) sx.cps.toList)
  (h:∀ n,Q (.str (outT (hv,sx))) (wH s a (spell (hB hv) sx.cps.toList) n)):exeL pT (pX 60) (pB.drop 9) (wL g hv sx ps pv a i sx.cps.toList.length (wSh sh)) (wH s a tx n) (endQ Q) X:=by
 have hlen:sx.cps.toList.length = sx.length:=slen sx
 have hz:sx.length ≤ sizeLine:=Nl hs (by decide)
 have hsl:(spell (hB hv) sx.cps.toList).length ≤ 12000:=Nl (spell_len _ _ hc) (by (first | lia | omega))
 have key:∀ n',n' ≤ 10001 → pEn a hv s Q (spell (hB hv) sx.cps.toList) n':=fun n' hn'=>by
  refine ⟨rfl,bnd_of (Nl (show _ ≤ 700000 by (first | lia | omega)) (by decide)) ?_⟩
  rcases hhv with rfl | ⟨c,r,rfl,hr⟩
  ·refine bnd_of ?_ (h n')
   show ((t "!<" ++ spell _ _) ++ t ">").length ≤ 100000
   rw [La,La]
   have:(t "!<").length = 2:=rfl
   have:(t ">").length = 1:=rfl
   (first | lia | omega)
  ·have hl:(⟨⟨c :: r⟩⟩:Str).length ≤ 1001:=Nat.succ_le_succ hr
   have e:Str.empty ++ (⟨⟨c :: r⟩⟩:Str) = ⟨⟨c :: r⟩⟩:=Str.empty_append _
   have k:=h n'
   show bnd sizeLine (⟨⟨c :: r⟩⟩:Str).length (bnd sizeLine (Str.empty ++ (⟨⟨c :: r⟩⟩:Str)).length (bnd sizeLine (⟨⟨c :: r⟩⟩:Str).length (bnd sizeLine ((Str.empty ++ (⟨⟨c :: r⟩⟩:Str)) ++ _).length (bnd sizeLine (spell _ _).length (Q (.str ((Str.empty ++ (⟨⟨c :: r⟩⟩:Str)) ++ _)) _)))))
   rw [e]
   refine bnd_of (Nl hl (by decide)) (bnd_of (Nl hl (by decide)) (bnd_of (Nl hl (by decide)) (bnd_of ?_ (bnd_of (Nl hsl (by decide)) k))))
   rw [La]
   exact Nl (Nat.add_le_add hl hsl) (by decide)
 have fin:pEr a hv s Q sx tx i sx.cps.toList.length n:=by
  refine brn_of (fun e=>⟨rfl,bnd_of hz ⟨rfl,by (first | lia | omega),?_⟩⟩) (fun e=>?_)
  ·have e2:tx ++ Txt.slice sx (some (Int.ofNat i)) (some (Int.ofNat sx.cps.toList.length)) = spell (hB hv) sx.cps.toList:=by
    rw [← htx]
    show tx ++ Txt.slice sx (some (i:Int)) (some ((sx.cps.toList.length:Nat):Int)) = _
    rw [sl_ij hi (Nat.le_refl _),List.take_of_length_le (by rw [List.length_drop];exact Nat.le_refl _)]
   rw [e2]
   exact key (n + 1) (by (first | lia | omega))
  ·have hi2:¬ ((i:Int) < (sx.cps.toList.length:Nat)):=of_decide_eq_false e
   have e2:tx = spell (hB hv) sx.cps.toList:=by
    rw [← htx,List.drop_of_length_le (by (first | lia | omega))]
    exact (Ae tx).symm
   rw [e2]
   exact key n (by (first | lia | omega))
 rcases hhv with rfl | ⟨c,r,rfl,hr⟩
 ·exact (p_endN s g sx tx ps pv a i _ n Q X sh).mpr fin
 ·exact (p_endS s g sx tx ps pv a i _ n c r Q X sh).mpr fin
theorem p_put (g:Str) (ps p:SV):put (t "prefix") p (pL g .none g [(t "prefixes",ps)]) = pL1 g .none g ps p:=by rfl'
theorem p_eS (s:Em) (g:Str) (Q:QV) (X:XC):eS [] 0 e_26 [me,.str g] (hp s) Q X = exeL pT (pX 60) pB (p0L g) (hp s) (endQ fun v H=>Q v (delL [557008] H)) X:=by rfl'
theorem p_del (s:Em) (a:Addr) (tx:Str) (n:Nat):delL [557008] (wH s a tx n) = hp s:=by rfl'
theorem aft_app {A:List Stmt} {T:Tab} {S:WS} {Q:QS} {X:XC} {loc:Loc} {H:Hp} (h:exeL T S A loc H Q X):afterV .next loc H Q (fun loc H=>exeL T S A loc H Q X):=h
theorem p_tail (s:Em) (g sx:Str) (hv ps pv:SV) (Q:QV) (X:XC) (hhv:hv = .none ∨ ∃ c r,hv = .str ⟨⟨c :: r⟩⟩ ∧ r.length ≤ 1000) (hs:sx.length ≤ 150) (hc:∀ c ∈ sx.cps.toList,memN c sgnL = true) (h:Q (.str (outT (hv,sx))) (hp s)) :
  exeL pT (pX 60) (pB.drop 6) (pL1 g hv sx ps pv) (hp s) (endQ fun v H=>Q v (delL [557008] H)) X:=by
 have hlen:sx.cps.toList.length = sx.length:=slen sx
 have hvp:hvP hv:=by rcases hhv with h | ⟨c,r,h,_⟩;exact .inl h;exact .inr ⟨_,h⟩
 rw [p_67 s g sx hv ps pv _ X]
 intro a
 rw [p_8]
 show (pX 60) (nthS 8 pB) _ _ (aft1 pT (pX 60) (nthS 8 pB) (pB.drop 9) (endQ fun v H=>Q v (delL [557008] H)) X) X
 refine st_while p_w ?_
 rw [p_wh]
 refine w_loop s g sx hv ps pv a _ X hvp (Nl hs (by decide)) hc sx.cps.toList.length 200 0 0 Str.empty 0 none (by (first | lia | omega)) (by (first | lia | omega)) (Nat.le_refl _) (by (first | lia | omega)) fun i' tx' n' sh' h1 h2 h3=>aft_next p_fr8 ?_
 have e2:tx' ++ mk (sx.cps.toList.drop i') = spell (hB hv) sx.cps.toList:=by
  rw [h2,List.take_zero,List.drop_zero]
  show (Str.empty ++ Str.empty) ++ _ = _
  rw [Ae,Str.empty_append]
 refine p_end s g sx hv ps pv a i' n' tx' (fun v H=>Q v (delL [557008] H)) X sh' hhv (Nl hs (by decide)) h1 (by (first | lia | omega)) hc e2 fun n=>?_
 show Q _ (delL [557008] (wH s a _ n))
 rw [p_del]
 exact h
theorem p_run (s:Em) (c:Nat) (r:List Nat) (hv:SV) (sx:Str) (Q:QV) (X:XC) (hg:(⟨⟨c :: r⟩⟩:Str).length ≤ 150) (hb:sbeq ⟨⟨c :: r⟩⟩ (t "!") = false) (hk:s.tk.length ≤ 60) (hne:sortS (s.tk.map (·.1)) ≠ []) (hks:∀ p ∈ sortS (s.tk.map (·.1)),p.length ≤ 1000 ∧ ∃ v,lk p s.tk = some v)
  (hst:(sortS (s.tk.map (·.1))).foldl (pkS ⟨⟨c :: r⟩⟩ s.tk) (.none,⟨⟨c :: r⟩⟩) = (hv,sx)) (hhv:hv = .none ∨ ∃ c r,hv = .str ⟨⟨c :: r⟩⟩ ∧ r.length ≤ 1000) (hs:sx.length ≤ 150) (hc:∀ c ∈ sx.cps.toList,memN c sgnL = true) (h:Q (.str (outT (hv,sx))) (hp s)) :
  eS [] 0 e_26 [me,.str ⟨⟨c :: r⟩⟩] (hp s) Q X:=by
 rw [p_eS,p_list,exeL_app,p_01 s c r _ X,hb]
 refine bnd_of (Nl hg (by decide)) ?_
 show exeL pT (pX 60) ([nthS 2 pB,nthS 3 pB,nthS 4 pB] ++ (nthS 5 pB :: pB.drop 6)) _ _ _ X
 rw [exeL_app,p_24 s ⟨⟨c :: r⟩⟩ _ X]
 refine ⟨rfl,iff_of (Nat.ble_eq_true_of_le hk) ?_⟩
 show (pX 60) (nthS 5 pB) _ _ (aft1 pT (pX 60) (nthS 5 pB) (pB.drop 6) (endQ fun v H=>Q v (delL [557008] H)) X) X
 refine st_for (xs:=(sortS (s.tk.map (fun p:Str × SV=>p.1))).map SV.str) p_f p_f1 p_f2 (fun K hK=>(p_5e s ⟨⟨c :: r⟩⟩ K X).mpr (show K (ksV s) (hp s) from hK)) ?_
 have fin:∀ p,aft1 pT (pX 60) (nthS 5 pB) (pB.drop 6) (endQ fun v H=>Q v (delL [557008] H)) X .next (pL1 ⟨⟨c :: r⟩⟩ hv sx (ksV s) p) (hp s):=fun p=>aft_next p_fr5 (p_tail s ⟨⟨c :: r⟩⟩ sx hv (ksV s) p Q X hhv hs hc h)
 cases ek:sortS (s.tk.map (·.1)) with
 | nil=>exact absurd ek hne
 | cons q ks =>
  rw [ek] at hst hks
  obtain ⟨h1,v,e⟩:=hks q (.head _)
  show exeL pT (pX 59) pF (put (t "prefix") (.str q) (pL ⟨⟨c :: r⟩⟩ .none ⟨⟨c :: r⟩⟩ [(t "prefixes",ksV s)])) _ (fun fl loc H=>afterV fl loc H (aft1 pT (pX 60) (nthS 5 pB) (pB.drop 6) (endQ fun v H=>Q v (delL [557008] H)) X) fun loc H=>forL pT (pX 59) (t "prefix") pF (ks.map .str) loc H (aft1 pT (pX 60) (nthS 5 pB) (pB.drop 6) (endQ fun v H=>Q v (delL [557008] H)) X) X) X
  rw [p_put]
  refine pf_turn s ⟨⟨c :: r⟩⟩ ⟨⟨c :: r⟩⟩ q .none (ksV s) _ X h1 (Nl hg (by decide)) e (pf_loop s ⟨⟨c :: r⟩⟩ (ksV s) _ X (Nl hg (by decide)) ks (pkS ⟨⟨c :: r⟩⟩ s.tk (.none,⟨⟨c :: r⟩⟩) q) (.str q) (fun p hp=>hks p (.tail _ hp)) fun p=>?_)
  have k:=fin p
  rw [show ks.foldl (pkS ⟨⟨c :: r⟩⟩ s.tk) (pkS ⟨⟨c :: r⟩⟩ s.tk (.none,⟨⟨c :: r⟩⟩) q) = (hv,sx) from hst]
  exact k
theorem pf_pre {g p:Str} (hg:g ≠ t "!"):pfB g p = true ↔ p.cps.toList <+: g.cps.toList ∧ p.length < g.length:=by
 unfold pfB
 have e1:(and (Txt.startswith g p) (or (sbeq p (t "!")) (decide ((p.length:Int) < (g.length:Int)))) = true) ↔ (Txt.startswith g p = true ∧ (sbeq p (t "!") = true ∨ p.length < g.length)):=by
  rw [Bool.and_eq_true_iff,Bool.or_eq_true_iff,decide_eq_true_iff,Int.ofNat_lt]
 rw [e1,sw_iff]
 refine ⟨fun ⟨h1,h2⟩=>⟨h1,?_⟩,fun ⟨h1,h2⟩=>⟨h1,.inr h2⟩⟩
 rcases h2 with h2 | h2
 ·have:=of_sbeq h2
  subst this
  have hl:=h1.length_le
  rcases Nat.lt_or_ge (t "!").length g.length with h | h
  ·exact h
  ·refine absurd ?_ hg
   have:(t "!").cps.toList = g.cps.toList:=h1.eq_of_length (by rw [slen,slen] at *;(first | lia | omega))
   exact (sext this).symm
 ·exact h2
theorem lk_ex {α:Type} {x:Str} {l:List (Str × α)} (h:x ∈ l.map (·.1)):∃ v,lk x l = some v:=by
 induction l with
 | nil=>cases h
 | cons p r ih =>
  rw [lk_cons]
  cases e:sbeq x p.1 with
  | true=>exact ⟨_,rfl⟩
  | false =>
   rcases Mc h with h | h
   ·exact absurd h (sbeq_false e)
   ·exact ih h
theorem fold_pk (g:Str) (tk:List (Str × SV)) (l:List Str):∀ st,(l.foldl (pkS g tk) st = st ∧ ∀ p ∈ l,pfB g p = false) ∨ ∃ a m b,l = a ++ m :: b ∧ pfB g m = true ∧ (∀ p ∈ b,pfB g p = false) ∧ l.foldl (pkS g tk) st = ((lk m tk).getD .none,Txt.slice g (some (m.length:Int)) none):=by
 induction l with
 | nil=>intro st;exact .inl ⟨rfl,fun _ h=>nomatch h⟩
 | cons q r ih =>
  intro st
  rcases ih (pkS g tk st q) with ⟨h1,h2⟩ | ⟨a,m,b,h1,h2,h3,h4⟩
  ·cases e:pfB g q with
   | true =>
    refine .inr ⟨[],q,r,rfl,e,h2,?_⟩
    show r.foldl (pkS g tk) (pkS g tk st q) = _
    rw [h1]
    unfold pkS
    rw [e]
   | false =>
    refine .inl ⟨?_,fun p hp=>?_⟩
    ·show r.foldl (pkS g tk) (pkS g tk st q) = _
     rw [h1]
     unfold pkS
     rw [e]
    ·rcases Mc hp with rfl | hp
     ·exact e
     ·exact h2 p hp
  ·exact .inr ⟨q :: a,m,b,by rw [h1];rfl,h2,h3,h4⟩
theorem pre_le {x y:List Nat} (h:x <+: y):¬ y < x:=by
 obtain ⟨z,rfl⟩:=h
 induction x with
 | nil=>exact List.not_lt_nil _
 | cons a r ih =>
  intro h
  rcases List.cons_lt_cons_iff.mp h with h | ⟨_,h⟩
  ·exact Nat.lt_irrefl _ h
  ·exact ih h
theorem cut_none {kvs:List (Str × SV)} {g:Str}:∀ n,(∀ k,1 ≤ k → k ≤ n → lk ⟨⟨g.cps.toList.take k⟩⟩ kvs = none) → cutOf kvs g n = none:=fun n=>by
 induction n with
 | zero=>exact fun _=>rfl
 | succ n ih =>
  intro h
  show (match lk ⟨⟨g.cps.toList.take (n + 1)⟩⟩ kvs with | some v=>some (n + 1,v) | none=>cutOf kvs g n) = none
  rw [h (n + 1) (Nat.succ_le_succ (Nat.zero_le _)) (Nat.le_refl _)]
  exact ih fun k h1 h2=>h k h1 (Nat.le_succ_of_le h2)
theorem cut_some {kvs:List (Str × SV)} {g:Str} {m:Nat} {v:SV} (h0:1 ≤ m) (e:lk ⟨⟨g.cps.toList.take m⟩⟩ kvs = some v):∀ n,m ≤ n → (∀ k,m < k → k ≤ n → lk ⟨⟨g.cps.toList.take k⟩⟩ kvs = none) → cutOf kvs g n = some (m,v):=fun n=>by
 induction n with
 | zero=>exact fun hn=>absurd (Nl h0 hn) (Nat.not_succ_le_zero 0)
 | succ n ih =>
  intro hn h
  show (match lk ⟨⟨g.cps.toList.take (n + 1)⟩⟩ kvs with | some v=>some (n + 1,v) | none=>cutOf kvs g n) = _
  rcases Nat.lt_or_ge m (n + 1) with h1 | h1
  ·rw [h (n + 1) h1 (Nat.le_refl _)]
   exact ih (Nat.le_of_lt_succ h1) fun k h2 h3=>h k h2 (Nat.le_succ_of_le h3)
  ·obtain rfl:=Nat.le_antisymm hn h1
   rw [e]
theorem mk_len (l:List Nat):(mk l).length = l.length:=(slen (mk l)).symm
theorem key_of {x:Str} {kvs:List (Str × SV)} {v:SV} (e:lk x kvs = some v):x ∈ sortS (kvs.map (·.1)):=(sortS_perm _).mem_iff.mpr (List.mem_map.mpr ⟨_,lk_mem e,rfl⟩)
theorem take_fit {g:Str} {k:Nat} (hg:g ≠ t "!") (h:k < g.cps.toList.length):pfB g (mk (g.cps.toList.take k)) = true:=by
 refine (pf_pre hg).mpr ⟨List.take_prefix _ _,?_⟩
 rw [mk_len,List.length_take,← slen]
 (first | lia | omega)
theorem tag_fold (g:Str) (kvs:List (Str × SV)) (hg:g ≠ t "!") (hk:∀ p ∈ kvs,p.1.cps.toList ≠ [] ∧ ∃ h,p.2 = .str h) :
  ((sortS (kvs.map (·.1))).foldl (pkS g kvs) (.none,g) = (.none,g) ∧ tagW g kvs = outT (.none,g)) ∨
  ∃ m h,(m,SV.str h) ∈ kvs ∧ m.length < g.length ∧ (sortS (kvs.map (·.1))).foldl (pkS g kvs) (.none,g) = (.str h,mk (g.cps.toList.drop m.length)) ∧ tagW g kvs = outT (.str h,mk (g.cps.toList.drop m.length)):=by
 have hb:sbeq g (t "!") = false:=by
  cases e:sbeq g (t "!") with
  | true=>exact absurd (of_sbeq e) hg
  | false=>rfl
 rcases fold_pk g kvs (sortS (kvs.map (·.1))) (.none,g) with ⟨h1,h2⟩ | ⟨a,m,b,h1,h2,h3,h4⟩
 ·refine .inl ⟨h1,?_⟩
  have c:cutOf kvs g (g.cps.toList.length - 1) = none:=cut_none _ fun k k1 k2=>by
   cases e:lk ⟨⟨g.cps.toList.take k⟩⟩ kvs with
   | none=>rfl
   | some v =>
    have:=h2 _ (key_of e)
    rw [take_fit hg (by (first | lia | omega))] at this
    cases this
  unfold tagW
  rw [hb,c]
  rfl
 ·have hm:m ∈ sortS (kvs.map (·.1)):=by rw [h1];exact Mr _ (.head _)
  obtain ⟨v,ev⟩:=lk_ex ((sortS_perm _).mem_iff.mp hm)
  obtain ⟨hne,h,rfl⟩:m.cps.toList ≠ [] ∧ ∃ h,v = .str h:=hk _ (lk_mem ev)
  obtain ⟨p1,p2⟩:=(pf_pre hg).mp h2
  have hl:m.cps.toList.length = m.length:=slen m
  have hgl:g.cps.toList.length = g.length:=slen g
  have pos:1 ≤ m.length:=by rw [← hl];exact List.length_pos_iff.mpr hne
  have tk:g.cps.toList.take m.length = m.cps.toList:=by rw [← hl];exact (List.prefix_iff_eq_take.mp p1).symm
  have c:cutOf kvs g (g.cps.toList.length - 1) = some (m.length,.str h):=by
   refine cut_some pos (by rw [tk];exact ev) _ (by (first | lia | omega)) fun k k1 k2=>?_
   cases e:lk ⟨⟨g.cps.toList.take k⟩⟩ kvs with
   | none=>rfl
   | some v =>
    exfalso
    have xin:=key_of e
    have fit:=take_fit (k:=k) hg (by (first | lia | omega))
    have hlx:(g.cps.toList.take k).length = k:=by rw [List.length_take];(first | lia | omega)
    rw [h1] at xin
    have pr:=sortS_pair (kvs.map (·.1))
    rw [h1] at pr
    rcases Ma xin with xa | xb
    ·have l1:leS (mk (g.cps.toList.take k)) m:=(List.pairwise_append.mp pr).2.2 _ xa m (.head _)
     have l2:leS m (mk (g.cps.toList.take k)):=pre_le (by
      show m.cps.toList <+: g.cps.toList.take k
      rw [← tk]
      exact List.take_prefix_take_left (Nat.le_of_lt k1))
     have:=leS_anti l1 l2
     rw [← this,mk_len,hlx] at k1
     exact Nat.lt_irrefl _ k1
    ·rcases Mc xb with xm | xb
     ·rw [← xm] at k1
      have:(mk (g.cps.toList.take k)).length < k:=k1
      rw [mk_len,hlx] at this
      exact Nat.lt_irrefl _ this
     ·have:=h3 _ xb
      rw [fit] at this
      cases this
  refine .inr ⟨m,h,lk_mem ev,p2,?_,?_⟩
  ·rw [h4,ev,sl_i (by (first | lia | omega))]
   rfl
  ·unfold tagW
   rw [hb,c]
   rfl
theorem hanO_len:(hanOk.map fun h=>and (Nat.ble 1 h.length) (Nat.ble h.length 8)) = hanOk.map fun _=>true:=by rfl'
theorem preO_len:(preOk.map fun h=>and (Nat.ble 1 h.length) (Nat.ble h.length 20)) = preOk.map fun _=>true:=by rfl'
theorem str_cons {x:Str} (h:1 ≤ x.length):∃ c r,x = ⟨⟨c :: r⟩⟩ ∧ r.length + 1 = x.length:=by
 have hl:x.cps.toList.length = x.length:=slen x
 cases e:x.cps.toList with
 | nil=>rw [e] at hl;rw [← hl] at h;exact absurd h (by decide)
 | cons c r=>rw [e] at hl;exact ⟨c,r,sext e,hl⟩
theorem gw_spell (b:Bool) (l:List Nat) (h:∀ c ∈ l,memN c sgnL = true):(spell b l).length ≤ gWt l:=by
 induction l with
 | nil=>exact Nat.le_refl _
 | cons c r ih =>
  show (spell1 b c ++ spell b r).length ≤ (match memN c letL with | true=>1 | false=>12) + gWt r
  have h2:=ih fun c hc=>h c (.tail _ hc)
  rw [La]
  cases e:memN c letL with
  | true =>
   have:(spell1 b c).length = 1:=by rw [spell_ok (by unfold okC;rw [e];rfl)];rfl
   show _ ≤ 1 + gWt r
   (first | lia | omega)
  | false =>
   have k:=List.map_inj_left.mp sp_12 c (memN_mem (h c (.head _)))
   obtain ⟨k1,k2⟩:=Ba k
   have h1:(spell1 b c).length ≤ 12:=by cases b with | true=>exact Nb k1 | false=>exact Nb k2
   show _ ≤ 12 + gWt r
   (first | lia | omega)
theorem gw_len (l:List Nat):l.length ≤ gWt l:=by
 induction l with
 | nil=>exact Nat.le_refl _
 | cons c r ih =>
  show r.length + 1 ≤ (match memN c letL with | true=>1 | false=>12) + gWt r
  cases memN c letL with
  | true=>show _ ≤ 1 + gWt r;(first | lia | omega)
  | false=>show _ ≤ 12 + gWt r;(first | lia | omega)
theorem gw_drop (l:List Nat):∀ n,gWt (l.drop n) ≤ gWt l:=by
 induction l with
 | nil=>intro n;rw [List.drop_nil];exact Nat.le_refl _
 | cons c r ih =>
  intro n
  cases n with
  | zero=>exact Nat.le_refl _
  | succ n=>exact Nl (ih n) (Nat.le_add_left _ _)
theorem p_del0 (s:Em):delL [557008] (hp s) = hp s:=by rfl'
theorem hp_all {kvs:List (Str × SV)} (h:kOk kvs = true):1 ≤ kvs.length ∧ kvs.length ≤ 10 ∧ ∀ p ∈ kvs,(1 ≤ p.1.length ∧ p.1.length ≤ 20) ∧ ∃ h,p.2 = .str h ∧ 1 ≤ h.length ∧ h.length ≤ 8:=by
 obtain ⟨h1,h2⟩:=Ba h
 obtain ⟨h3,h4⟩:=Ba h1
 refine ⟨Nb h3,Nb h4,fun p hp=>?_⟩
 have k:=List.all_eq_true.mp h2 p hp
 obtain ⟨k1,k2⟩:=Ba k
 obtain ⟨k3,k4⟩:=Ba k2
 have a:=Ba (List.map_inj_left.mp preO_len p.1 (has_mem k1))
 refine ⟨⟨Nb a.1,Nb a.2⟩,?_⟩
 cases e:p.2 with
 | str h =>
  rw [e] at k4
  have b:=Ba (List.map_inj_left.mp hanO_len h (has_mem k4))
  exact ⟨h,rfl,Nb b.1,Nb b.2⟩
 | _=>rw [e] at k3;cases k3
theorem tg_run (s:Em) (c:Nat) (r:List Nat) (Q:QV) (X:XC) (hg:gOk ⟨⟨c :: r⟩⟩ = true) (hk:kOk s.tk = true) (h:∀ d q,tagW ⟨⟨c :: r⟩⟩ s.tk = ⟨⟨d :: q⟩⟩ → q.length ≤ 120 → Q (.str ⟨⟨d :: q⟩⟩) (hp s)):eS [] 0 e_26 [me,.str ⟨⟨c :: r⟩⟩] (hp s) Q X:=by
 obtain ⟨g1,g2⟩:=Ba hg
 have g1:gWt (c :: r) ≤ 100:=Nb g1
 have g2:∀ x ∈ c :: r,memN x sgnL = true:=List.all_eq_true.mp g2
 have hlen:r.length + 1 ≤ 100:=Nl (gw_len (c :: r)) g1
 have hl:(⟨⟨c :: r⟩⟩:Str).length ≤ 150:=Nl (show r.length + 1 ≤ 100 from hlen) (by decide)
 obtain ⟨k1,k2,k3⟩:=hp_all hk
 cases hb:sbeq ⟨⟨c :: r⟩⟩ (t "!") with
 | true =>
  rw [p_eS,p_list,exeL_app,p_01 s c r _ X,hb]
  refine bnd_of (Nl hl (by decide)) ?_
  show Q (.str ⟨⟨c :: r⟩⟩) (delL [557008] (hp s))
  rw [p_del0]
  refine h c r ?_ (by (first | lia | omega))
  unfold tagW
  rw [hb]
 | false =>
  have hne:sortS (s.tk.map (·.1)) ≠ []:=fun e=>by
   have:=(sortS_perm (s.tk.map (·.1))).length_eq
   rw [e,List.length_map] at this
   rw [← this] at k1
   exact absurd k1 (by decide)
  have hks:∀ p ∈ sortS (s.tk.map (·.1)),p.length ≤ 1000 ∧ ∃ v,lk p s.tk = some v:=fun p hp=>by
   have hp:=(sortS_perm _).mem_iff.mp hp
   obtain ⟨q,hq,rfl⟩:=List.mem_map.mp hp
   exact ⟨Nl (k3 q hq).1.2 (by decide),lk_ex hp⟩
  have out:∀ st,tagW ⟨⟨c :: r⟩⟩ s.tk = outT st → 1 ≤ (outT st).length → (outT st).length ≤ 120 → Q (.str (outT st)) (hp s):=fun st e l1 l2=>by
   obtain ⟨d,q,e2,l3⟩:=str_cons l1
   rw [e2]
   exact h d q (e.trans e2) (by (first | lia | omega))
  rcases tag_fold ⟨⟨c :: r⟩⟩ s.tk (sbeq_false hb) (fun p hp=>by
   obtain ⟨⟨a,_⟩,v,e,_⟩:=k3 p hp
   exact ⟨fun e=>by rw [← slen,e] at a;exact absurd a (by decide),v,e⟩) with ⟨f1,f2⟩ | ⟨m,v,m1,m2,f1,f2⟩
  ·refine p_run s c r .none ⟨⟨c :: r⟩⟩ Q X hl hb (by (first | lia | omega)) hne hks f1 (.inl rfl) hl g2 (out _ f2 ?_ ?_)
   ·show 1 ≤ ((t "!<" ++ spell true (c :: r)) ++ t ">").length
    rw [La]
    exact Nat.le_add_left _ _
   ·show ((t "!<" ++ spell true (c :: r)) ++ t ">").length ≤ 120
    rw [La,La]
    have:=gw_spell true (c :: r) g2
    have:(t "!<").length = 2:=rfl
    have:(t ">").length = 1:=rfl
    (first | lia | omega)
  ·obtain ⟨_,v',ev,v1,v2⟩:=k3 _ m1
   cases ev
   obtain ⟨d,q,e2,l3⟩:=str_cons v1
   have g3:∀ x ∈ (c :: r).drop m.length,memN x sgnL = true:=fun x hx=>g2 x (List.mem_of_mem_drop hx)
   refine p_run s c r (.str v) (mk ((c :: r).drop m.length)) Q X hl hb (by (first | lia | omega)) hne hks f1 (.inr ⟨d,q,by rw [e2],by (first | lia | omega)⟩) ?_ g3 (out _ f2 ?_ ?_)
   ·rw [mk_len,List.length_drop]
    show r.length + 1 - _ ≤ 150
    (first | lia | omega)
   ·show 1 ≤ (v ++ spell (hB (.str v)) ((c :: r).drop m.length)).length
    rw [La]
    (first | lia | omega)
   ·show (v ++ spell (hB (.str v)) ((c :: r).drop m.length)).length ≤ 120
    rw [La]
    have:=gw_spell (hB (.str v)) ((c :: r).drop m.length) g3
    have:=gw_drop (c :: r) m.length
    (first | lia | omega)
theorem tg_weak:allN 2 fun vs=>allN 0 fun ws=>∀ H Q X,tagS (vs ++ ws) H Q X → eS [] 0 e_26 (vs ++ ws) H Q X:=fun v0 v1 H Q X h=>by
 have h:asS v1 fun g=>meV v0 H fun s=>brn (nil? g.cps.toList) (X (hp s)) ((gOk g = true ∧ kOk s.tk = true ∧ (s.tk.map (·.1)).Nodup) ∧ ∀ c r,tagW g s.tk = ⟨⟨c :: r⟩⟩ → r.length ≤ 120 → Q (.str ⟨⟨c :: r⟩⟩) (hp s)):=h
 cases v1 with
 | str g =>
  have h:meV v0 H fun s=>brn (nil? g.cps.toList) (X (hp s)) ((gOk g = true ∧ kOk s.tk = true ∧ (s.tk.map (·.1)).Nodup) ∧ ∀ c r,tagW g s.tk = ⟨⟨c :: r⟩⟩ → r.length ≤ 120 → Q (.str ⟨⟨c :: r⟩⟩) (hp s)):=h
  refine me_el (P:=fun v H=>eS [] 0 e_26 [v,.str g] H Q X) h fun s h=>?_
  obtain ⟨⟨l⟩⟩:=g
  cases l with
  | nil=>rw [p_0e];exact h
  | cons c r=>exact tg_run s c r Q X h.1.1 h.1.2.1 h.2
 | _=>exact h.elim
noncomputable def cBin (op:Operator) (a b:SV) (k:SV → Prop):Prop:=match op with
 | .Add=>(match isI a with
  | true=>asI a fun i=>asI b fun j=>k (.int (i + j))
  | false=>asS a fun s=>asS b fun t=>bnz (s.length + t.length) (k (.str (s ++ t))))
 | .Mult=>asI a fun i=>asI b fun j=>IntMulOk i j ∧ k (.int (i * j))
 | .Mod=>asI a fun i=>asI b fun j=>iff_ (j != 0) (k (.int (i.fmod j)))
 | .FloorDiv=>asI a fun i=>asI b fun j=>iff_ (j != 0) (Builtin.divisionGoesByPylong i j = false ∧ k (.int (i.fdiv j)))
 | _=>False
section
variable {prog:Program} {w:World} {A:Around} {E:Value → Shared → Prop} {s:Shared} {p:PP} {R:Lg}
theorem cBin_ok {op:Operator} {a b:SV} {u v:Value} {k:SV → Prop} {Qc:Value → Shared → Prop} (ra:VR p R a u) (rb:VR p R b v) (t:cBin op a b k) (q:∀ sv x tk,k sv → VR p R sv x → Qc x { s with toks:=tk }):wpAny (model prog w) A (binaryOp op u v) Qc E s:=by
 cases op with
 | Add =>
  revert t
  show (match isI a with | true=>_ | false=>_) → _
  cases isI a with
  | true=>intro t;obtain ⟨i,ti,rfl,t⟩:=asI_ok ra t;obtain ⟨j,tj,rfl,t⟩:=asI_ok rb t;exact add_int (q _ _ _ t (.int _ _))
  | false=>intro t;obtain ⟨i,ti,rfl,t⟩:=asS_ok ra t;obtain ⟨j,tj,rfl,t⟩:=asS_ok rb t;obtain ⟨t1,t2⟩:=of_bnz t;exact SBL.add (fun t' k _=>q _ _ _ t2 (.str _ _)) t1
 | Mult=>obtain ⟨i,ti,rfl,t⟩:=asI_ok ra t;obtain ⟨j,tj,rfl,t⟩:=asI_ok rb t;exact mul_int (q _ _ _ t.2 (.int _ _)) t.1
 | Mod=>obtain ⟨i,ti,rfl,t⟩:=asI_ok ra t;obtain ⟨j,tj,rfl,t⟩:=asI_ok rb t;obtain ⟨e,t⟩:=iff_ne t;exact mod_int' e (q _ _ _ t (.int _ _))
 | FloorDiv=>obtain ⟨i,ti,rfl,t⟩:=asI_ok ra t;obtain ⟨j,tj,rfl,t⟩:=asI_ok rb t;obtain ⟨e,t⟩:=iff_ne t;exact floordiv_int e (q _ _ _ t.2 (.int _ _)) (.inl t.1)
 | _=>exact (t:False).elim
theorem lstC_ok {value slice:Expr} {a:Addr} {xs:List SV} {vs:List Value} {i:SV} {iv:Value} {k:SV → Prop} {Qc:Value → Shared → Prop} (hs:plainSl slice = true) (hl:s.heap.IsList a vs.toArray) (r:VRs p R xs vs) (ri:VR p R i iv)
  (t:asI i fun j=>bnz xs.length (opt (seqG xs j) k)) (q:∀ sv v,k sv → VR p R sv v → Qc v s):wpAny (model prog w) A (subscriptTail value slice (.ref a) iv) Qc E s:=by
 obtain ⟨j,u,rfl,t⟩:=asI_ok ri t
 obtain ⟨t1,t2⟩:=of_bnz t
 obtain ⟨x,e,t3⟩:=of_opt t2
 obtain ⟨n,e1,e2,h1,h2,h3⟩:=seqG_ix t1 e
 obtain ⟨y,hy,ry⟩:=r.get n e2
 have qq:=q _ _ t3 ry
 rw [r.length] at e1
 by_cases h0:0 ≤ j
 ·have:=h3 h0;subst this
  exact item_listR hl h0 h2 (by rw [List.getElem?_toArray];exact hy) qq (sub_plain hs _ _)
 ·exact kde_neg hl (Int.not_le.mp h0) h1 e1 hy qq (sub_plain hs _ _)
theorem strC_ok {value slice:Expr} {x:Str} {tx:Tok} {i:SV} {iv:Value} {k:SV → Prop} {Qc:Value → Shared → Prop} (hs:plainSl slice = true) (ri:VR p R i iv)
  (t:asI i fun j=>iff_ (and (decide (-(x.length:Int) ≤ j)) (decide (j < (x.length:Int)))) (bnz x.length (k (.str (Txt.item x j))))) (q:∀ sv v tk,k sv → VR p R sv v → Qc v { s with toks:=tk }):wpAny (model prog w) A (subscriptTail value slice (.str x tx) iv) Qc E s:=by
 obtain ⟨j,tj,rfl,t⟩:=asI_ok ri t
 obtain ⟨e,t⟩:=of_iff t
 obtain ⟨e1,e2⟩:=Ba e
 have t1:=of_decide_eq_true e1
 have t2:=of_decide_eq_true e2
 obtain ⟨t3,t4⟩:=of_bnz t
 have:sizeLine = 16777216:=rfl
 exact item_str (s:=s) (by simp only [fitsSsize];simp;(first | lia | omega)) t1 t2 (fun _=>q _ _ _ t4 (.str _ _)) (sub_plain hs _ _) (go_str _ _ _)
end
noncomputable def cSub (T:Tab) (a b:SV) (k:SV → Prop):Prop:=match fixL T a with
 | some xs=>asI b fun j=>bnz xs.length (opt (seqG xs j) k)
 | none=>asS a fun x=>asI b fun j=>iff_ (and (decide (-(x.length:Int) ≤ j)) (decide (j < (x.length:Int)))) (bnz x.length (k (.str (Txt.item x j))))
noncomputable def cCmp (op:CmpOp) (a b:SV) (k:SV → Prop):Prop:=match op with
 | .In=>asS a fun s=>asS b fun z=>k (.bool (!(Builtin.Str.occurrences z s 0 z.length 1).isEmpty))
 | _=>False
noncomputable def cCst (c:Const) (k:SV → Prop):Prop:=match c with | .int i=>k (.int i) | .str s=>k (.str s) | _=>False
noncomputable def cev (T:Tab) (nm:Str → Option SV):Nat → Expr → (SV → Prop) → Prop
 | 0,_,_=>False
 | n + 1,e,k=>match e with
  | .Constant c _ _=>cCst c k
  | .Name x _=>opt (nm x) k
  | .BinOp l op r _=>cev T nm n l fun a=>cev T nm n r fun b=>cBin op a b k
  | .Subscript v i _=>iff_ (plainSl i) (cev T nm n v fun a=>cev T nm n i fun b=>cSub T a b k)
  | .Compare l ops rs _=>(match ops with
   | []=>False
   | op :: os=>(match rs with
    | []=>False
    | r :: rr=>iff_ (and (and (nil? os) (nil? rr)) (!(behindInMarks op r))) (cev T nm n l fun a=>cev T nm n r fun b=>cCmp op a b k)))
  | _=>False
theorem cev_ok {prog:Program} {w:World} {A:Around} {E:Value → Shared → Prop} {env:Env} {s:Shared} {p:PP} {R:Lg} {T:Tab} {nm:Str → Option SV}
  (hn:∀ x sv,nm x = some sv → ∀ pos (Q:Value → Shared → Prop) tk,(∀ v tk',VR p R sv v → Q v { s with toks:=tk' }) → wpAny (model prog w) A (eval (.Name x pos) env) Q E { s with toks:=tk })
  (hl:∀ a xs,lkN a T.klist = some xs → ∃ vs:List Value,s.heap.IsList a vs.toArray ∧ VRs p R xs vs) (n:Nat):∀ {e:Expr} {k:SV → Prop} {Q:Value → Shared → Prop} {tk:Nat},cev T nm n e k →
  (∀ sv v tk,k sv → VR p R sv v → Q v { s with toks:=tk }) → wpAny (model prog w) A (eval e env) Q E { s with toks:=tk }:=by
 induction n with
 | zero=>intro e k Q tk t;exact (t:False).elim
 | succ n ih =>
  intro e k Q tk t q
  cases e with
  | Constant c ck pos =>
   cases c with
   | int i=>exact Constant_int' fun t' tk'=>q _ _ _ t (.int _ _)
   | str x=>exact Constant_str (q _ _ _ t (.str _ _))
   | _=>exact (t:False).elim
  | Name x pos =>
   obtain ⟨sv,e1,t⟩:=of_opt t
   exact hn x sv e1 pos Q tk fun v tk' r=>q _ _ _ t r
  | BinOp l op r pos=>exact wpAny_BinOp (ih t fun a u tk1 t1 ra=>ih t1 fun b v tk2 t2 rb=>cBin_ok (s:={ s with toks:=tk2 }) ra rb t2 fun sv x tk3 kk r=>q _ _ _ kk r)
  | Subscript v i pos =>
   obtain ⟨hs,t⟩:=of_iff t
   refine Subscript_ (ih t fun a u tk1 t1 ra=>ih t1 fun b iv tk2 t2 rb=>?_)
   revert t2
   show (match fixL T a with | some xs=>_ | none=>_) → _
   cases e:fixL T a with
   | some xs =>
    intro t2
    obtain ⟨b,rfl,e⟩:=fixL_ok ra e
    obtain ⟨vs,k1,r⟩:=hl _ _ e
    exact lstC_ok (s:={ s with toks:=tk2 }) hs k1 r rb t2 fun sv v kk r=>q _ _ _ kk r
   | none =>
    intro t2
    obtain ⟨x,tx,rfl,t2⟩:=asS_ok ra t2
    exact strC_ok (s:={ s with toks:=tk2 }) hs rb t2 fun sv v tk3 kk r=>q _ _ _ kk r
  | Compare l ops rs pos =>
   cases ops with
   | nil=>exact (t:False).elim
   | cons op os =>
    cases rs with
    | nil=>exact (t:False).elim
    | cons r rr =>
     obtain ⟨hb,t5⟩:=of_iff t
     obtain ⟨h1,h2⟩:=Ba hb
     obtain ⟨h3,h4⟩:=Ba h1
     have e3:=of_nil h3
     have e4:=of_nil h4
     subst e3 e4
     refine wpAny_Compare1 (ih t5 fun a u tk1 t1 ra=>ih t1 fun b v tk2 t2 rb=>?_) (notT h2)
     cases op with
     | In =>
      obtain ⟨x,tx,rfl,t2⟩:=asS_ok ra t2
      obtain ⟨y,ty,rfl,t2⟩:=asS_ok rb t2
      exact in_str (q _ _ _ t2 (.bool _))
     | _=>exact (t2:False).elim
  | _=>exact (t:False).elim
theorem relabel_look (env:Env):∀ (names:List (Str × NameKind)) (x:Str),(names.map fun (n,k)=>if (k == NameKind.free && env.scope.kind == .function && env.kindOf n == some .cell) then (n,NameKind.cell) else (n,k)).lookup x = (names.lookup x).map fun k=>if (k == NameKind.free && env.scope.kind == .function && env.kindOf x == some .cell) then NameKind.cell else k:=by
 intro names x
 induction names with
 | nil=>rfl
 | cons nk r ih =>
  obtain ⟨n,k⟩:=nk
  show List.lookup x ((if (k == NameKind.free && env.scope.kind == .function && env.kindOf n == some .cell) = true then (n,NameKind.cell) else (n,k)) :: _) = _
  cases hx:x == n with
  | true =>
   have e:x = n:=eq_of_beq hx
   subst e
   simp only [List.lookup_cons,hx,Option.map]
   by_cases hc:(k == NameKind.free && env.scope.kind == .function && env.kindOf x == some .cell) = true
   ·rw [if_pos hc,if_pos hc];simp only [List.lookup_cons,beq_self_eq_true]
   ·rw [if_neg hc,if_neg hc];simp only [List.lookup_cons,beq_self_eq_true]
  | false =>
   simp only [List.lookup_cons,hx]
   by_cases hc:(k == NameKind.free && env.scope.kind == .function && env.kindOf n == some .cell) = true
   ·rw [if_pos hc];simp only [List.lookup_cons,hx];exact ih
   ·rw [if_neg hc];simp only [List.lookup_cons,hx];exact ih
noncomputable def cNm (T:Tab) (sc csc:Scope) (x:Str) (v:SV):Str → Option SV:=fun y=>match sbeq y x with
 | true=>some v
 | false=>(match lk y csc.names with
  | some .globalImplicit=>lk y T.glob
  | some .free=>(match lk y sc.names with | some .cell=>lk y T.cells | _=>none)
  | _=>none)
theorem cNm_kind {c:FC} {csc:Scope} {cl:List (Str × Addr)} {C:Addr} {y:Str} {k:NameKind} (h:lk y csc.names = some k):(compEnvC csc cl C c.env).kindOf y = some (if (k == NameKind.free && c.env.scope.kind == .function && c.env.kindOf y == some .cell) then NameKind.cell else k):=by
 rw [lk_lookup] at h
 have e:(compEnvC csc cl C c.env).kindOf y = (csc.names.map fun (n,k)=>if (k == NameKind.free && c.env.scope.kind == .function && c.env.kindOf n == some .cell) then (n,NameKind.cell) else (n,k)).lookup y:=rfl
 rw [e,relabel_look,h]
 rfl
theorem cNm_ok {Z:Cx} {F:Lg} {loc:Loc} {m:Str → Option Value} (M:Mo Z F loc m) (p:Pl Z) {E':Value → Shared → Prop} {csc:Scope} {cl:List (Str × Addr)} {C:Addr} {s₃:Shared} {m₃:Str → Option Value} {x:Str} {v:Value} {sv:SV}
  (hk:csc.kind = .function) (hx:lk x csc.names = some .local) (hdb:lk ("__debug__":Str) csc.names = none) (hns:s₃.heap.Ns C m₃) (hm:m₃ x = some v) (rv:VR Z.G.P M.R sv v) (keep:∀ b o,M.h.get? b = some o → s₃.heap.get? b = some o)
  (hcl:∀ y c,lk y csc.names = some .free → Z.c.cl.lookup y = some c → cl.lookup y = some c) :
  ∀ y sw,cNm Z.T Z.sc csc x sv y = some sw → ∀ pos (Q:Value → Shared → Prop) tk,(∀ v tk',VR Z.G.P M.R sw v → Q v { s₃ with toks:=tk' }) → wpAny Z.G.M Z.c.A (eval (.Name y pos) (compEnvC csc cl C Z.c.env)) Q E' { s₃ with toks:=tk }:=by
 intro y sw e pos Q tk q
 have kd:(compEnvC csc cl C Z.c.env).scope.kind = .function:=hk
 have db:∀ {k},lk y csc.names = some k → (y == ("__debug__":Str)) = false:=fun h=>beq_eq_false_iff_ne.mpr fun q=>by rw [q,hdb] at h;cases h
 unfold cNm at e
 cases e1:sbeq y x with
 | true =>
  rw [e1] at e
  cases e
  cases of_sbeq e1
  exact wpAny_Name (wpAny_loadName_local kd (cNm_kind hx) hns hm (q v tk rv)) (db hx)
 | false =>
  rw [e1] at e
  have e:(match lk y csc.names with
   | some .globalImplicit=>lk y Z.T.glob
   | some .free=>(match lk y Z.sc.names with | some .cell=>lk y Z.T.cells | _=>none)
   | _=>none) = some sw:=e
  cases e2:lk y csc.names with
  | none=>rw [e2] at e;cases e
  | some k =>
   rw [e2] at e
   cases k with
   | globalImplicit =>
    obtain ⟨w,g,h2⟩:=p.tab.glob _ _ e
    have tg:=topRead_of p.ok.top
    exact Name_function_global kd (cNm_kind e2) (loadGlobal_global (env:=compEnvC csc cl C Z.c.env) (tg.g.keeps fun b o h=>keep b o (M.st.fr.keep b o h)) (mg_of p.ok.kin tg.g g.ns) (q w tk (h2.mono (Sub.nil _)))) g.db
   | free =>
    have e:(match lk y Z.sc.names with | some .cell=>lk y Z.T.cells | _=>none) = some sw:=e
    cases e3:lk y Z.sc.names with
    | none=>rw [e3] at e;cases e
    | some k2 =>
     rw [e3] at e
     cases k2 with
     | cell =>
      obtain ⟨c,o,w,h1,h2,h3,h4⟩:=p.cel _ _ e
      have hkk:(compEnvC csc cl C Z.c.env).kindOf y = some .cell:=by
       rw [cNm_kind e2]
       have k1:Z.c.env.kindOf y = some .cell:=(p.kindOf y).trans e3
       have k2:Z.c.env.scope.kind = .function:=p.ok.kind
       rw [k1,k2]
       rfl
      exact wpAny_Name (wpAny_loadName_cell kd hkk (hcl _ _ e2 h1) ⟨o,keep _ _ (M.get (M.inR (M.sub _ h2))),h3⟩ (q w tk (h4.mono M.sub))) (db e2)
     | _=>cases e
   | _=>cases e
noncomputable def closF (cells:List (Str × Addr)):List (Str × NameKind) → List (Str × Addr) → List (Str × Addr)
 | [],acc=>acc
 | (n,k) :: r,acc=>closF cells r (match k with | .free=>(n,(cells.lookup n).getD 0) :: acc | _=>acc)
theorem clos_of {scope:Scope} {env:Env} (h:∀ y ∈ scope.names,y.2 = .free → (env.cells.lookup y.1).isSome = true):closureFor scope env = pure (closF env.cells scope.names []):=by
 unfold closureFor
 generalize scope.names = l at h
 have key:∀ (l:List (Str × NameKind)) (acc:List (Str × Addr)),(∀ y ∈ l,y.2 = .free → (env.cells.lookup y.1).isSome = true) → (forIn l acc fun x r=>match x with
   | (name,kind)=>if (kind == .free) = true then do let a ← cellOf env name;pure (ForInStep.yield ((name,a) :: r)) else pure (ForInStep.yield r):Sem (List (Str × Addr))) = pure (closF env.cells l acc):=by
  intro l
  induction l with
  | nil=>intro acc _;rfl
  | cons x r ih =>
   intro acc hh
   obtain ⟨n,k⟩:=x
   have h2:=fun a=>ih a fun y hy=>hh y (.tail _ hy)
   rw [List.forIn_cons]
   cases k with
   | free =>
    have h1:=hh (n,.free) (.head _) rfl
    cases e:env.cells.lookup n with
    | none=>rw [e] at h1;cases h1
    | some c =>
     have ec:cellOf env n = pure c:=by unfold cellOf;rw [e]
     have e3:closF env.cells ((n,.free) :: r) acc = closF env.cells r ((n,c) :: acc):=by
      show closF env.cells r ((n,(env.cells.lookup n).getD 0) :: acc) = _
      rw [e];rfl
     rw [e3,← h2]
     simp only [ec]
     rfl
   | _=>exact h2 acc
 refine Eq.trans (b:=(bind (pure (closF env.cells l []):Sem (List (Str × Addr))) fun s=>pure s)) ?_ rfl
 rw [← key l [] h]
theorem closF_look {cells:List (Str × Addr)} {y:Str} {c:Addr} (hc:cells.lookup y = some c):∀ (names:List (Str × NameKind)) (acc:List (Str × Addr)),(lk y names = some .free ∨ acc.lookup y = some c) → (closF cells names acc).lookup y = some c:=by
 intro names
 induction names with
 | nil=>exact fun acc h=>h.elim (fun e=>by cases e) id
 | cons nk r ih =>
  intro acc h
  obtain ⟨n,k⟩:=nk
  rw [lk_cons] at h
  cases e:sbeq y n with
  | true =>
   cases of_sbeq e
   rw [e] at h
   cases k with
   | free =>
    refine ih _ (.inr ?_)
    rw [List.lookup_cons,beq_self_eq_true,hc]
    rfl
   | _=>exact ih _ (.inr (h.elim (fun q=>by cases q) id))
  | false =>
   rw [e] at h
   have hne:(y == n) = false:=by rw [← sbeq_eq];exact e
   cases k with
   | free=>exact ih _ (h.imp id fun q=>by rw [List.lookup_cons,hne];exact q)
   | _=>exact ih _ h
noncomputable def valS:Value → Option SV | .int i _=>some (.int i) | .str s _=>some (.str s) | _=>none
noncomputable def plS:SV → Bool | .int _=>true | .str _=>true | _=>false
theorem val_of {p:PP} {R:Lg} {sv:SV} {v:Value} (r:VR p R sv v) (h:plS sv = true):valS v = some sv:=by
 cases sv with
 | int i=>cases r;rfl
 | str s=>cases r;rfl
 | _=>cases h
theorem pairs_of {p:PP} {R:Lg} {g:SV → SV} {vs ys:List Value} (q:Paired (fun v y=>∃ sv,valS v = some sv ∧ VR p R (g sv) y) vs ys):∀ {xs:List SV},vs.length = xs.length → (∀ (i:Nat) v,vs[i]? = some v → ∃ sv,xs[i]? = some sv ∧ valS v = some sv) → VRs p R (xs.map g) ys:=by
 induction q with
 | nil=>intro xs h _;cases xs with | nil=>exact .nil | cons _ _=>cases h
 | cons f t ih =>
  intro xs h hx
  cases xs with
  | nil=>cases h
  | cons x xs =>
   obtain ⟨sv,e,r⟩:=f
   obtain ⟨sw,e1,e2⟩:=hx 0 _ rfl
   cases e1
   rw [e] at e2
   cases e2
   exact .cons r (ih (Nat.succ.inj h) fun i v hv=>hx (i + 1) v hv)
theorem comp_new {Z:Cx} {F:Lg} {loc:Loc} {m:Str → Option Value} (M:Mo Z F loc m) {Q:QV} {Qc:Value → Shared → Prop} (q:PQ M Q Qc) {D:Addr} {h':Heap} {tk:Nat} {ys:Array Value} {zs:List SV} (hD:M.h.get? D = none) (pl:h'.PlainList D ys) (keep:∀ b o,M.h.get? b = some o → h'.get? b = some o) (r:VRs Z.G.P M.R zs ys.toList) (t:Q (.lst zs) M.H):Qc (.ref D) (Z.G.sh h' tk):=by
 obtain ⟨k,e⟩:=pl
 have ne:∀ r ∈ M.L,r.1 ≠ D:=fun r hr e2=>by have:=M.get (show (r.1,r.2) ∈ M.L from hr);rw [e2,hD] at this;cases this
 have hL:D ≠ Z.c.L:=fun e2=>by obtain ⟨o,_,_,ho,_⟩:=M.st.fr.ns;rw [← e2,hD] at ho;cases ho
 have h0:Z.c.h₀.get? D = none:=by
  cases e2:Z.c.h₀.get? D with
  | none=>rfl
  | some o=>rw [M.st.fr.keep _ _ e2] at hD;cases hD
 have nw:News Z.c.h₀ Z.c.L h' ((D,W.listOf ys.toList.toArray k) :: M.L):=fun r hr=>by
  rcases Mc hr with rfl | hr
  ·exact ⟨by rw [Array.toArray_toList];exact e,hL,h0⟩
  ·exact (M.st.nw.grown keep) r hr
 exact q (.lst zs) _ (M.more (D,W.listOf ys.toList.toArray k) h' tk (M.st.fr.keeps keep) nw ne) (Sub.cons _ _) t (.lst _ _ _ _ (.head _) (r.mono (Sub.cons _ _)))
theorem comp_core {Z:Cx} {F:Lg} {loc:Loc} {m:Str → Option Value} (M:Mo Z F loc m) (p:Pl Z) {csc:Scope} {cl:List (Str × Addr)} {x:Str} {elt:Expr}
  (hk:csc.kind = .function) (hx:lk x csc.names = some .local) (hdb:lk ("__debug__":Str) csc.names = none) (hcl:∀ y c,lk y csc.names = some .free → Z.c.cl.lookup y = some c → cl.lookup y = some c)
  (xs:List SV) (g:SV → SV) (hpl:∀ sv ∈ xs,plS sv = true) (hg:∀ sv ∈ xs,cev Z.T (cNm Z.T Z.sc csc x sv) 9 elt fun w=>w = g sv)
  {I:Addr} {fp:List Addr} {n:Nat} {P:Nat → Value → Prop} {St:Nat → Heap → Prop} {h2:Heap} {tk2:Nat} (W:Walks Z.G.prog Z.G.w Z.c.A I fp [I] n P St) (hn:n = xs.length) (hz:xs.length ≤ sizeLine) (hst:St 0 h2) (hfp:∀ b ∈ fp,b < h2.objs.size)
  (keep:∀ b o,M.h.get? b = some o → b ≠ I ∧ h2.get? b = some o) (hP:∀ i v,P i v → ∃ sv,xs[i]? = some sv ∧ VR Z.G.P M.R sv v)
  {Q:QV} {Qc:Value → Shared → Prop} (q:PQ M Q Qc) (t:Q (.lst (xs.map g)) M.H) :
  ∃ I' fp' wr' n' P' St',Value.ref I = .ref I' ∧ Walks Z.G.prog Z.G.w Z.c.A I' fp' wr' n' P' St' ∧ n' ≤ sizeLine ∧ St' 0 (Z.G.sh h2 tk2).heap ∧ (∀ b ∈ fp',b < (Z.G.sh h2 tk2).heap.objs.size) ∧
   QuietOnC Z.G.prog Z.G.w Z.c.A Z.c.env csc cl x [] elt wr' P' (fun _=>true) (fun v y=>∃ sv,valS v = some sv ∧ VR Z.G.P M.R (g sv) y) (Z.G.sh h2 tk2) ∧
   (∀ D h' tk ys (vs:List Value),(Z.G.sh h2 tk2).heap.get? D = none → h'.IsList D ys → h'.PlainList D ys → vs.length = n' → (∀ (j:Nat) v,vs[j]? = some v → P' j v) → Paired (fun v y=>∃ sv,valS v = some sv ∧ VR Z.G.P M.R (g sv) y) (vs.filter fun _=>true) ys.toList →
    (∀ b o,b ∉ wr' → (Z.G.sh h2 tk2).heap.get? b = some o → h'.get? b = some o) → Qc (.ref D) { Z.G.sh h2 tk2 with heap:=h',toks:=tk }):=by
 have notI:∀ {b o},M.h.get? b = some o → b ∉ [I]:=fun e hm=>(keep _ _ e).1 (Ms hm)
 refine ⟨I,fp,[I],n,P,St,rfl,W,hn ▸ hz,hst,hfp,⟨fun C i v s₃ m₃ E' _ _ _ _ _ _=>wpAny_pure ⟨rfl,s₃.heap,s₃.toks,rfl,fun _ _ e=>e⟩,fun C i v s₃ m₃ E' _ hv _ hns hm hkk _=>?_⟩,fun D h' tk ys vs hD _ pl hlen hvs hF hkk=>?_⟩
 ·obtain ⟨sv,e1,rv⟩:=hP i v hv
  have hmem:sv ∈ xs:=List.mem_of_getElem? e1
  have kk:∀ b o,M.h.get? b = some o → s₃.heap.get? b = some o:=fun b o e=>hkk b o (notI e) (keep b o e).2
  exact cev_ok (s:=s₃) (R:=M.R) (p:=Z.G.P) (cNm_ok M p hk hx hdb hns hm rv kk hcl) (fun a xs e=>by
   obtain ⟨vs,dd,n,sl,k1,r⟩:=p.tab.kl _ _ e
   exact ⟨vs,(lstK (M.kin p.ok) k1).at fun o e=>kk _ o e,r.mono (Sub.nil _)⟩) 9 (tk:=s₃.toks) (hg sv hmem) fun sw y tk e r=>⟨⟨sv,val_of rv (hpl sv hmem),e ▸ r⟩,s₃.heap,tk,rfl,fun _ _ e=>e⟩
 ·have keep':∀ b o,M.h.get? b = some o → h'.get? b = some o:=fun b o e=>hkk b o (notI e) (keep b o e).2
  have hD':M.h.get? D = none:=by
   cases e:M.h.get? D with
   | none=>rfl
   | some o=>have:=(keep _ _ e).2;rw [show h2.get? D = none from hD] at this;cases this
  rw [List.filter_eq_self.mpr fun _ _=>rfl] at hF
  exact comp_new M q hD' pl keep' (pairs_of hF (hlen.trans hn) fun i v hv=>by
   obtain ⟨sv,e1,rv⟩:=hP i v (hvs i v hv)
   exact ⟨sv,e1,val_of rv (hpl sv (List.mem_of_getElem? e1))⟩) t
theorem lc_ok {prog:Program} {w:World} {A:Around} {E:Value → Shared → Prop} {env:Env} {s:Shared} {elt iter:Expr} {x:Str} {px:Pos} {csc:Scope} {cl:List (Str × Addr)} {pos:Pos} {Q:Value → Shared → Prop}
  (hclos:closureFor csc env = pure cl) (hcell:∀ y ∈ csc.names,y.2 ≠ .cell) (hk:csc.kind = .function) (hnames:∀ y ∈ csc.names,y.2 = .local → csc.names.lookup y.1 = some .local) (hx:csc.names.lookup x = some .local)
  (h:wpAny (model prog w) A (eval iter env) (fun xv s₁=>wpAny (model prog w) A (pyIter xv) (fun it s₂=>∃ p F I fp wr n P St,it = .ref I ∧ Walks prog w A I fp wr n P St ∧ n ≤ sizeLine ∧ St 0 s₂.heap ∧ (∀ b ∈ fp,b < s₂.heap.objs.size) ∧
   QuietOnC prog w A env csc cl x [] elt wr P p F s₂ ∧
   (∀ D h' tk ys (vs:List Value),s₂.heap.get? D = none → h'.IsList D ys → h'.PlainList D ys → vs.length = n → (∀ (j:Nat) v,vs[j]? = some v → P j v) → Paired F (vs.filter p) ys.toList →
    (∀ b o,b ∉ wr → s₂.heap.get? b = some o → h'.get? b = some o) → Q (.ref D) { s₂ with heap:=h',toks:=tk })) E s₁) E s)
  (hs:∀ x,foldedSetIterable iter env x = pure x):wpAny (model prog w) A (eval (.ListComp elt [⟨.Name x px,iter,[],0⟩] csc pos) env) Q E s:=by
 rw [eval_ListComp]
 refine wpAny_comprehension_free (use:=none) rfl hs hclos hk hnames (wpAny_mono h (fun xv s₁ h₁=>wpAny_mono h₁ (fun it s₂ h₂=>?_) fun _ _ e=>e) fun _ _ e=>e)
 obtain ⟨p,F,I,fp,wr,n,P,St,rfl,W,hsz,hst,hfp,hq,hQ⟩:=h₂
 refine comp_block_walkC (RR:=fun acc C=>compPost (model prog w) A E none Q acc C) W hsz p F hcell hk hx hst hfp hq ?_
 intro D C h' tk m' ys vs hD hC hDC hn hl hpl hlen hP hF hk
 exact ⟨m',hn,fun h'' hs''=>hQ D h'' tk ys vs hD (hl.extBut hs''.extBut hDC) (hpl.extBut hs''.extBut hDC) hlen hP hF fun b o hbf e=>hs''.extBut b o (by rintro rfl;rw [hC] at e;cases e) (hk b o hbf e)⟩
noncomputable def cscOK (T:Tab) (csc:Scope) (x:Str):Bool:=csc.kind == .function && (lk x csc.names == some .local) && (!(isSome? (lk ("__debug__":Str) csc.names))) && csc.names.all fun y=>y.2 != .cell && (y.2 != .local || lk y.1 csc.names == some .local) && (y.2 != .free || isSome? (lk y.1 T.cells))
noncomputable def cSrc (v:SV) (k:List SV → Prop):Prop:=match v with
 | .str s=>k (s.cps.toList.map fun c=>.str ⟨#[c]⟩)
 | .lst xs=>k xs
 | _=>False
noncomputable def cElt (T:Tab) (sc csc:Scope) (x:Str) (elt:Expr) (Q:QV) (xs:List SV) (H:Hp):Prop:=xs.length ≤ sizeLine ∧ ∃ g:SV → SV,(∀ sv ∈ xs,plS sv = true ∧ cev T (cNm T sc csc x sv) 9 elt fun w=>w = g sv) ∧ Q (.lst (xs.map g)) H
noncomputable def gen1 (gs:List Comprehension):Option (Str × Expr):=match gs with
 | []=>none
 | g :: r=>(match and (nil? r) (and (nil? g.ifs) (g.is_async == 0)) with
  | true=>(nameT g.target).bind fun x=>some (x,g.iter)
  | false=>none)
noncomputable def compV (T:Tab) (e:Expr) (sc:Scope) (loc:Loc) (H:Hp) (Q:QV) (X:XC):Prop:=match e with
 | .ListComp elt gs csc _=>opt (gen1 gs) fun p=>iff_ (and (cscOK T csc p.1) (noComp p.2)) (match srcF sc p.2 with
  | .rng as=>argL (wp T sc 20).E as loc H (fun vs H=>one1 vs fun v=>asI v fun a=>a ≤ 1000000 ∧ -1000000 ≤ a ∧ cElt T sc csc p.1 elt Q (rngL 0 1 a.toNat) H) X
  | .val=>(wp T sc 20).E p.2 loc H (fun v H=>cSrc v fun xs=>cElt T sc csc p.1 elt Q xs H) X
  | _=>False)
 | _=>False
theorem gen1_inv {gs:List Comprehension} {p:Str × Expr} (h:gen1 gs = some p):∃ np,gs = [⟨.Name p.1 np,p.2,[],0⟩]:=by
 cases gs with
 | nil=>cases h
 | cons g r =>
  obtain ⟨tg,it,ifs,as⟩:=g
  have h:(match and (nil? r) (and (nil? ifs) (as == 0)) with | true=>(nameT tg).bind fun x=>some (x,it) | false=>none) = some p:=h
  cases e:and (nil? r) (and (nil? ifs) (as == 0)) with
  | false=>rw [e] at h;cases h
  | true =>
   rw [e] at h
   obtain ⟨x,e1,h⟩:=of_bind h
   cases h
   obtain ⟨np,rfl⟩:=nameT_inv e1
   obtain ⟨e2,e3⟩:=Ba e
   obtain ⟨e4,e5⟩:=Ba e3
   rw [of_nil e2,of_nil e4,eq_of_beq e5]
   exact ⟨np,rfl⟩
structure CscOK (T:Tab) (csc:Scope) (x:Str):Prop where
 kd:csc.kind = .function
 lx:lk x csc.names = some .local
 db:lk ("__debug__":Str) csc.names = none
 ce:∀ y ∈ csc.names,y.2 ≠ .cell
 lo:∀ y ∈ csc.names,y.2 = .local → lk y.1 csc.names = some .local
 fr:∀ y ∈ csc.names,y.2 = .free → isSome? (lk y.1 T.cells) = true
theorem cscOK_of {T:Tab} {csc:Scope} {x:Str} (h:cscOK T csc x = true):CscOK T csc x:=by
 unfold cscOK at h
 simp only [Bool.and_eq_true,and_assoc,beq_iff_eq,Bool.not_eq_true',List.all_eq_true,bne_iff_ne,Bool.or_eq_true] at h
 obtain ⟨h1,h2,h3,h4⟩:=h
 refine ⟨h1,h2,?_,fun y hy=>(h4 y hy).1,fun y hy e=>(h4 y hy).2.1.resolve_left fun q=>q e,fun y hy e=>(h4 y hy).2.2.resolve_left fun q=>q e⟩
 cases e:lk ("__debug__":Str) csc.names with
 | none=>rfl
 | some _=>rw [e] at h3;cases h3
noncomputable abbrev GoP (Z:Cx) (csc:Scope) (elt:Expr) (x:Str) (cl:List (Str × Addr)) (Qc:Value → Shared → Prop) (I:Addr) (s:Shared):Prop:=∃ p F I' fp wr n P St,Value.ref I = .ref I' ∧ Walks Z.G.prog Z.G.w Z.c.A I' fp wr n P St ∧ n ≤ sizeLine ∧ St 0 s.heap ∧ (∀ b ∈ fp,b < s.heap.objs.size) ∧ QuietOnC Z.G.prog Z.G.w Z.c.A Z.c.env csc cl x [] elt wr P p F s ∧
 (∀ D h' tk2 ys (vs:List Value),s.heap.get? D = none → h'.IsList D ys → h'.PlainList D ys → vs.length = n → (∀ (j:Nat) v,vs[j]? = some v → P j v) → Paired F (vs.filter p) ys.toList → (∀ b o',b ∉ wr → s.heap.get? b = some o' → h'.get? b = some o') → Qc (.ref D) { s with heap:=h',toks:=tk2 })
theorem comp_ok {G:GC} {lv:Nat} {T:Tab} (tab:TabOK G lv T):CompOK G lv { T with comp:=compV T }:=by
 intro Z F loc m M e Q Qc e1 e2 e3 scp dbg ok room ex cel nc t q
 subst e1 e2
 have hT:T.cells = Z.T.cells:=by rw [e3]
 let Z0:Cx:={ Z with T:=T }
 let M0:Mo Z0 F loc m:=⟨M.H,M.R,M.N,M.h,M.tk,M.st,M.lr,M.sub,M.fs⟩
 have p:Pl Z0:=⟨tab,scp,dbg,ok,room,⟨ex.xo,@fun F loc m M' h e vs tk h1 h2=>ex.xr (⟨M'.H,M'.R,M'.N,M'.h,M'.tk,M'.st,M'.lr,M'.sub,M'.fs⟩:Mo Z _ _ _) h1 h2,ex.po⟩,fun x sv e=>cel x sv (hT ▸ e),fun h=>nc (hT ▸ h)⟩
 have q0:PQ M0 Q Qc:=fun sv v M' s' t' r'=>q sv v (⟨M'.H,M'.R,M'.N,M'.h,M'.tk,M'.st,M'.lr,M'.sub,M'.fs⟩:Mo Z _ _ _) s' t' r'
 have t:compV T e Z.sc loc M.H Q Z.X:=by first | exact t | (rw [e3] at t;exact t)
 show W M0 (eval e Z0.c.env) Qc
 cases e with
 | ListComp elt gs csc pos =>
  obtain ⟨⟨x,it⟩,g1,t2⟩:=of_opt t
  obtain ⟨np,rfl⟩:=gen1_inv g1
  obtain ⟨c1,t3⟩:=of_iff t2
  clear t t2
  obtain ⟨c2,hnc⟩:=Ba c1
  have C:=cscOK_of c2
  have hcl:∀ y c,lk y csc.names = some .free → Z.c.cl.lookup y = some c → (closF Z.c.cl csc.names []).lookup y = some c:=fun y c h1 h2=>closF_look h2 _ _ (.inl h1)
  have hfr:∀ y ∈ csc.names,y.2 = .free → (Z.c.env.cells.lookup y.1).isSome = true:=fun y hy e=>by
   have h:=C.fr y hy e
   cases e2:lk y.1 T.cells with
   | none=>rw [e2] at h;cases h
   | some sv =>
    obtain ⟨c,o,v,h1,_⟩:=p.cel _ _ e2
    show (Z.c.cl.lookup y.1).isSome = true
    rw [h1];rfl
  refine lc_ok (s:=M0.s) (cl:=closF Z.c.cl csc.names []) (clos_of hfr) C.ce C.kd (fun y hy e=>by rw [← lk_lookup];exact C.lo y hy e) (by rw [← lk_lookup];exact C.lx) ?_ (noComp_set hnc _)
  have go:∀ {M1:Mo Z0 F loc m} {xs:List SV} {I:Addr} {fp:List Addr} {P:Nat → Value → Prop} {St:Nat → Heap → Prop} {o:Obj} {tk:Nat},Sub M.R M1.R → cElt T Z.sc csc x elt Q xs M1.H → Walks Z.G.prog Z.G.w Z.c.A I fp [I] xs.length P St → I = M1.h.objs.size → (∀ b ∈ fp,b = I ∨ ∃ o,M1.h.get? b = some o) → St 0 (M1.h.push o) →
    (∀ i v,P i v → ∃ sv,xs[i]? = some sv ∧ VR Z.G.P M1.R sv v) → GoP Z csc elt x (closF Z.c.cl csc.names []) Qc I (Z.G.sh (M1.h.push o) tk):=by
   intro M1 xs I fp P St o tk s1 te Wk hI hfp hst hP
   obtain ⟨hz,g,hg,te⟩:=te
   have lt:∀ {b o'},M1.h.get? b = some o' → b ≠ I:=fun e q=>absurd (Heap.lt_size e) (by rw [q,hI];exact Nat.lt_irrefl _)
   exact ⟨_,_,comp_core M1 p C.kd C.lx C.db hcl xs g (fun sv h=>(hg sv h).1) (fun sv h=>(hg sv h).2) Wk rfl hz hst (fun b hb=>by
    rw [Heap.size_push]
    rcases hfp b hb with rfl | ⟨o',e⟩
    ·rw [hI];exact Nat.lt_succ_self _
    ·exact Nat.lt_succ_of_lt (Heap.lt_size e)) (fun b o' e=>⟨lt e,Heap.get?_push_of_some _ e⟩) hP (q0.sub s1) te⟩
  have hr:=srcF_ok Z.sc it
  revert t3
  show (match srcF Z.sc it with
   | .rng as=>argL (wp T Z.sc 20).E as loc M.H (fun vs H=>one1 vs fun v=>asI v fun a=>a ≤ 1000000 ∧ -1000000 ≤ a ∧ cElt T Z.sc csc x elt Q (rngL 0 1 a.toNat) H) Z.X
   | .val=>(wp T Z.sc 20).E it loc M.H (fun v H=>cSrc v fun xs=>cElt T Z.sc csc x elt Q xs H) Z.X
   | _=>False) → _
  revert hr
  generalize srcF Z.sc it = sr
  intro hr t
  cases hr with
  | rng as np pos e4 ha =>
   refine eval_name_call (blt_ok p p.tab.rng e4 fun tk=>?_)
   refine cw_ok (wp_ok 20).1 p (M:=M0.tick tk) (ks:=[]) ha keep_ty (Q:=fun vs us H=>match us with | []=>one1 vs fun v=>asI v fun a=>a ≤ 1000000 ∧ -1000000 ≤ a ∧ cElt T Z.sc csc x elt Q (rngL 0 1 a.toNat) H | _=>False) t fun xs us vs ws M3 s3 t3 r3 r4 e4=>?_
   cases us with
   | cons _ _=>exact (t3:False).elim
   | nil=>cases ws with
    | cons _ _=>cases e4
    | nil =>
     obtain ⟨v,u,rfl,rv,t3⟩:=one_ok r3 t3
     obtain ⟨a,ta,rfl,t1,t2,te⟩:=asI_ok rv t3
     refine range1_rows (s:=M3.s) M3.st.fr M3.st.nw fun h' tk' t1' u1 v1 hr F' N' hk=>?_
     have hz:Builtin.Range.rangeSize 0 a 1 = (a.toNat:Int):=by
      unfold Builtin.Range.rangeSize
      simp only [show (1:Int) > 0 from by decide,if_true]
      split <;> (first | lia | omega)
     refine wpAny_pyIter_range (s:=Z.G.sh h' tk') hr ?_ (go (M1:=M3.heap h' tk' F' N') s3 te (Walks.range p.hd h'.objs.size 0 1 a.toNat |>.bound |> fun W=>by rw [rngL_len];exact W) rfl (fun b hb=>.inl (Ms hb)) ?_ ?_)
     ·unfold Builtin.Range.small Builtin.Range.rangeFitsLong
      rw [hz]
      simp
      (first | lia | omega)
     ·rw [hz]
      show IsRangeIter _ _ ((0:Int) + (0:Nat) * 1) ((a.toNat:Int) - (0:Nat)) 1
      rw [Int.natCast_zero,Int.zero_mul,Int.add_zero,Int.sub_zero]
      exact Heap.get?_push_size _ rfl
     ·rintro i v ⟨hi,u,rfl⟩
      exact ⟨_,rngL_get _ _ _ _ hi,.int _ _⟩
  | val =>
   refine (wp_ok 20).1 (M:=M0) p t fun sv v M1 s1 t1 r1=>?_
   cases r1 with
   | str z tz =>
    have hv:∀ i v,SignAt z i v → ∃ sv,(z.cps.toList.map fun c=>SV.str ⟨#[c]⟩)[i]? = some sv ∧ VR Z.G.P M1.R sv v:=by
     rintro i v ⟨c',u,h1,rfl⟩
     exact ⟨.str ⟨#[c']⟩,by rw [List.getElem?_map,Array.getElem?_toList,h1];rfl,.str _ _⟩
    have hz:z.cps.size = (z.cps.toList.map fun c=>SV.str ⟨#[c]⟩).length:=by rw [List.length_map,Array.length_toList]
    cases ha:(z.cps.all fun x=>decide (x < 128)) with
    | true=>exact wpAny_pyIter_ascii (s:=M1.s) ha (go s1 t1 (hz ▸ Walks.strAscii p.hd M1.h.objs.size z tz) rfl (fun b hb=>.inl (Ms hb)) ⟨_,Heap.get?_push_size _ rfl,rfl,rfl⟩ hv)
    | false=>exact wpAny_pyIter_wide (s:=M1.s) ha (go s1 t1 (hz ▸ Walks.strWide p.hd M1.h.objs.size z tz) rfl (fun b hb=>.inl (Ms hb)) ⟨_,Heap.get?_push_size _ rfl,rfl,rfl⟩ hv)
   | lst a vs n xs hm rr =>
    have hl:=M1.isList (M1.inR hm)
    have hne:a ≠ M1.h.objs.size:=Nat.ne_of_lt (Heap.lt_size (M1.get (M1.inR hm)))
    have hz:vs.toArray.size = xs.length:=by rw [List.size_toArray,rr.length]
    refine wpAny_pyIter_list (s:=M1.s) hl (go s1 t1 (hz ▸ Walks.list p.hd M1.h.objs.size a hne vs.toArray) rfl (fun b hb=>?_) ⟨⟨_,Heap.get?_push_size _ rfl,rfl,rfl⟩,hl.push _⟩ fun i v hv=>rr.back i (by rw [List.getElem?_toArray] at hv;exact hv))
    rcases Mc hb with rfl | hb
    ·exact .inl rfl
    ·rw [Ms hb];exact .inr ⟨_,M1.get (M1.inR hm)⟩
   | _=>exact (t1:False).elim
  | _=>exact (t:False).elim
 | _=>exact (t:False).elim
theorem noC_ok {G:GC} {lv:Nat} {T:Tab} (h:T.comp = noC):CompOK G lv T:=fun M _ _ _ e1 e2 e3 _ _ _ _ _ _ _ t _=>by
 rw [h] at t
 exact (t:False).elim
theorem TabOK.of {G:GC} {lv:Nat} {T:Tab} (tab:TabOK G lv T) (cs:List (Str × SV)) (c:Expr → Scope → Loc → Hp → QV → XC → Prop) (h:CompOK G lv { T with cells:=cs,comp:=c }):TabOK G lv { T with cells:=cs,comp:=c } :=
 ⟨tab.attr,tab.kl,tab.kd,tab.isa,tab.fmt,tab.glob,tab.bfn,tab.srt,tab.rng,tab.fns,tab.kept,h,tab.exc,tab.own⟩
noncomputable def celT (T:Tab) (x:Str) (u:SV):Tab:={ T with cells:=[(x,u)],comp:=compV { T with cells:=[(x,u)],comp:=noC } }
theorem celT_ok {G:GC} {lv:Nat} {T:Tab} (tab:TabOK G lv T) (x:Str) (u:SV):TabOK G lv (celT T x u):=tab.of _ _ (comp_ok (tab.of [(x,u)] noC (noC_ok rfl)))
noncomputable def inlC (T:Tab) (sc:Scope) (body:List Stmt) (x:Str):Sm:=fun xs H Q _=>one1 xs fun u=>wpF (celT T x u) sc 60 body [] H Q fun _=>False
structure CelR (sc:Scope) (x:Str):Prop where
 kd:sc.kind = .function
 co:sc.isCoroutine = false
 ge:sc.isGenerator = false
 lx:sc.names.lookup x = some .cell
 cf:∀ k,cellsFrom k sc.names [] = [(x,k)]
 db:lk "__debug__" sc.names = none
theorem fn_inlC {G:GC} {k:Nat} {T:Tab} (tab:TabOK G k T) {f:Addr} {name qual:Str} {params:Arguments} {body:List Stmt} {sc:Scope} {dV pm cdv:Value} (D:DefR G.K f name qual params body sc dV pm cdv) {x:Str} (good:CelR sc x)
  (hb:∀ v,runK G.K 9 (bindArgs (fnOf name qual params body sc dV .none .none pm none cdv .none) ⟨[v],[]⟩) = some [(x,v)]):FnOK G (k + 1) f 1 [] (inlC T sc body x):=by
 rintro Z F loc m M A vs ws xs Q X Rr rfl ok room hA rx hn hk t q xo
 cases ws with
 | cons _ _=>cases hk
 | nil =>
 rw [List.append_nil] at rx
 obtain ⟨u,v,rfl,ru,t⟩:=one_ok (M:=M) rx t
 have hbind:=hb v
 refine code_defC (s:=M.s) (news:=M.L) ok.below M.st.fr ok.kin M.st.nw ok.top hA rfl ok.kind D.lo D.cd (Nat.lt_of_le_of_lt (Nl (Nat.le_add_right _ _) room.dp) (by decide))
  (fun _ _ _ _ hq=>runK_ok (M.kin ok) hq _ _ hbind) (by simp only [List.all_cons,List.all_nil,good.lx];rfl) (by rw [good.cf];exact List.nodup_cons.mpr ⟨List.not_mem_nil,.nil⟩) (fun g L' h₁ tk cells FG F' N' CA B' X' T' low=>?_) good.co good.ge good.kd
 have kx:(envOfC qual sc L' f cdv).kindOf x = some .cell:=good.lx
 rw [good.cf] at CA
 obtain ⟨o,rfl,ho⟩:=CA.one
 have ho:o.data = .cell (some v):=by
  rw [ho]
  show Data.cell ((if (envOfC qual sc L' f cdv).kindOf x = some .local then fun _=>none else fun y=>if y = x then some v else none) x) = _
  rw [kx,if_neg (by decide),if_pos rfl]
 have hl:∀ r ∈ M.L,r.1 ≠ L' + 1:=fun r hr=>Nat.ne_of_lt (Nat.lt_succ_of_lt (low r hr))
 let c':FC:=⟨A,Z.c.base,g,Z.c.env :: Z.c.outer,qual,sc,L',f,cdv,[(x,L' + 1)]⟩
 have ec:envOfC qual sc L' f cdv = c'.env:=by show envX qual sc L' f cdv (cellsFrom (L' + 1) sc.names []) = _;rw [good.cf]
 rw [ec] at F' ⊢
 let Z':Cx:=⟨Z.G,k,celT T x u,sc,c',(L' + 1,o) :: M.R,F,fun _=>False,fun e s'=>wpAny Z.G.M c'.A (leaving c'.env e) (fun _ s''=>Rr (.error e) s'') (fun e' s''=>Rr (.error e') s'') s'⟩
 have okc:c'.Ok Z.G:=⟨B',X',T',good.kd⟩
 let M0:Mo Z' F [] (bindL c'.env.kindOf [(x,v)] fun _=>none):=⟨M.H,(L' + 1,o) :: M.R,M.N,h₁,tk,⟨F',fun r hr=>N' r (show r ∈ (L' + 1,o) :: (M.N ++ (M.R ++ F)) from mem_more hr),M.st.led.more hl⟩,(fun _ _ e=>nomatch e),Sub.refl _,Sub.refl _⟩
 have pl:Pl Z':=⟨celT_ok tab x u,rfl,good.db,okc,room.deeper,⟨fun m' e h' tk' r=>r.el fun _ _ _ _ _ _ x1 _ _ _ _ _=>x1.elim,@fun _ _ _ M' h e us tk x1 x2=>x1.elim,PassesOwn.leaving⟩,fun y sv e=>by
  have e:lk y [(x,u)] = some sv:=e
  rw [lk_cons] at e
  cases q:sbeq y x with
  | false=>rw [q] at e;cases e
  | true =>
   rw [q] at e;cases e;cases of_sbeq q
   exact ⟨L' + 1,o,v,by show List.lookup x [(x,L' + 1)] = _;rw [List.lookup_cons,beq_self_eq_true],.head _,ho,ru.mono (Sub.cons _ _)⟩,fun h=>by cases h⟩
 refine exeL_ok (wp_ok 60).2.2 (M:=M0) (Q:=fun f _ H=>match f with | .next=>Q .none H | .ret v=>Q v H) pl t fun fl fv loc' m' M' s' t' f'=>?_
 have s2:Sub M.R M'.R:=(Sub.cons _ _).trans s'
 have fin:∀ sv v,Q sv M'.H → VR Z.G.P M'.R sv v → LeaveK Z.c.h₀ Z.c.L m g Rr v M'.s:=fun sv v tq vr=>leaveK_ M'.st.fr M'.st.nw fun F2 N2 =>
  q sv v (⟨M'.H,M'.R,M'.N,M'.h,M'.tk,⟨F2,N2,M'.st.led⟩,M.lr.mono s2,M.sub.trans s2,M.fs⟩:Mo Z F loc m) s2 tq vr
 cases fl with
 | next=>cases f';exact fin .none .none t' .none
 | ret sv=>obtain ⟨v,rfl,vr⟩:=f';exact fin sv v t' vr
noncomputable abbrev dgB:List Stmt:=Hd.fb 83
noncomputable abbrev dgC:Scope:=Hd.fs 83
theorem dg_def (P:Params):DefR (Hd.kk P) 858 (t "_law_drawn_tag") (t "_law_drawn_tag") (Hd.fa 83) dgB dgC .none Hd.yL (.ref 857):=⟨by rfl',by rfl'⟩
theorem dg_cel:CelR dgC (t "n"):=⟨by rfl',by rfl',by rfl',by rfl',fun k=>by rfl',by rfl'⟩
theorem dg_bind (P:Params) (v:Value):runK (Hd.kk P) 9 (bindArgs (fnOf (t "_law_drawn_tag") (t "_law_drawn_tag") (Hd.fa 83) dgB dgC .none .none .none Hd.yL none (.ref 857) .none) ⟨[v],[]⟩) = some [(t "n",v)]:=by rfl'
noncomputable abbrev tC (l:Fns) (k:Nat):Tab:={ tL l k with comp:=compV (tL l k) }
noncomputable abbrev eC (l:Fns) (n:Nat) (e:Ent):Sm:=inl (tC l n) e.sc e.bd e.ns e.dfl e.dr
noncomputable def retO:Stmt → Expr | .Return (some e) _=>e | .AugAssign _ _ e _=>e | _=>.Constant .none 0 ⟨0,0,0,0⟩
noncomputable def callA:Expr → List Expr | .Call _ as _ _=>as | .BoolOp _ es _=>es | .BinOp _ _ r _=>[r] | _=>[]
noncomputable def nthX (n:Nat) (l:List Expr):Expr:=match nthL n l with | some e=>e | none=>.Constant .none 0 ⟨0,0,0,0⟩
noncomputable def lcE:Expr → Expr | .ListComp e _ _ _=>e | e=>e
noncomputable def lcS:Expr → Scope | .ListComp _ _ s _=>s | _=>Hd.fs 0
noncomputable def nmL:Expr:=nthX 0 (callA (nthX 1 (callA (retO (nthS 0 e_43.bd)))))
noncomputable def namesS:Str:=t "0123456789abcdefghijklmnopqrstuvwxyzABCDEFGHIJKLMNOPQRSTUVWXYZ-_"
noncomputable def nmC (c:Nat):Bool:=!(Builtin.Str.occurrences namesS ⟨#[c]⟩ 0 namesS.length 1).isEmpty
noncomputable def nmA:List Nat → Bool
 | []=>true
 | c :: r=>and (nmC c) (nmA r)
noncomputable def nmB (w:Str):Bool:=and (!(nil? w.cps.toList)) (nmA w.cps.toList)
noncomputable def sgS (c:Nat):SV:=.str ⟨#[c]⟩
theorem nm_eq (c:Nat) (r:List Nat) (H:Hp) (Q:QV) (X:XC):eC [] 0 e_43 [.str ⟨⟨c :: r⟩⟩] H Q X =
 cElt (tL [] 0) e_43.sc (lcS nmL) (t "c") (lcE nmL) (fun v H=>bifV (tC [] 0) .all [v] H Q) ((c :: r).map sgS) H:=by rfl'
theorem nm_e (H:Hp) (Q:QV) (X:XC):eC [] 0 e_43 [.str ⟨⟨[]⟩⟩] H Q X = Q (.bool false) H:=by rfl'
theorem nm_cev (c:Nat) (k:SV → Prop):cev (tL [] 0) (cNm (tL [] 0) e_43.sc (lcS nmL) (t "c") (sgS c)) 9 (lcE nmL) k = k (.bool (nmC c)):=by rfl'
noncomputable def sg1 (f:Nat → SV):SV → SV | .str s=>(match s.cps.toList with | []=>.none | c :: _=>f c) | _=>.none
theorem sg_map (f:Nat → SV) (l:List Nat):(l.map sgS).map (sg1 f) = l.map f:=by rw [List.map_map];rfl
theorem bools_nm (l:List Nat):boolsOf (l.map fun c=>.bool (nmC c)) = some (nmA l):=by
 induction l with
 | nil=>rfl
 | cons c r ih =>
  show (match boolsOf (r.map fun c=>SV.bool (nmC c)) with | some l=>some (nmC c && l) | none=>none) = _
  rw [ih];rfl
theorem nm_run (w:Str) (hw:w.cps.toList.length ≤ 1000) (H:Hp) (Q:QV) (X:XC) (h:Q (.bool (nmB w)) H):eC [] 0 e_43 [.str w] H Q X:=by
 obtain ⟨⟨l⟩⟩:=w
 have hw:l.length ≤ 1000:=hw
 cases l with
 | nil=>rw [nm_e];exact h
 | cons c r =>
  rw [nm_eq]
  refine ⟨by rw [List.length_map];exact Nl hw (by decide),sg1 fun c=>.bool (nmC c),fun sv hm=>?_,?_⟩
  ·obtain ⟨d,_,rfl⟩:=List.mem_map.mp hm
   exact ⟨rfl,by rw [nm_cev];rfl⟩
  ·rw [sg_map]
   show opt (boolsOf ((c :: r).map fun c=>.bool (nmC c))) fun b=>bnz ((c :: r).map fun c=>SV.bool (nmC c)).length (Q (.bool b) H)
   rw [bools_nm]
   exact bnd_of (by rw [List.length_map];exact Nl hw (by decide)) h
noncomputable def nmS:Sm:=fun xs H Q _=>one1 xs fun v=>asS v fun w=>w.cps.toList.length ≤ 1000 ∧ Q (.bool (nmB w)) H
theorem nm_weak:allN 1 fun vs=>allN 0 fun ws=>∀ H Q X,nmS (vs ++ ws) H Q X → eC [] 0 e_43 (vs ++ ws) H Q X:=fun v H Q X h=>by
 cases v with
 | str w=>exact nm_run w h.1 H Q X h.2
 | _=>exact (h:False).elim
theorem anc_nm:(ancL.map fun a=>(nmB a,nil? a.cps.toList,Nat.ble a.cps.toList.length 5)) = ancL.map fun a=>(hasStr a ancOk,sbeq a (t ""),true):=by rfl'
noncomputable def inS (n:Nat):SV:=.int (Int.ofNat n)
noncomputable def ocR (c:Nat) (P:Prop):Prop:=match Nat.blt c 128 with
 | true=>P
 | false=>(match Nat.blt c 2048 with
  | true=>false = false ∧ P
  | false=>(match Nat.blt c 65536 with
   | true=>false = false ∧ false = false ∧ P
   | false=>false = false ∧ false = false ∧ false = false ∧ P))
theorem oc_eq (H:Hp) (Q:QV) (X:XC):(encTab.map fun p=>eS [] 0 e_41 [sgS p.1] H Q X) = encTab.map fun p=>ocR p.1 (Q (.lst (p.2.map inS)) H):=by rfl'
theorem oc_of {c:Nat} {P:Prop} (h:P):ocR c P:=by
 unfold ocR
 cases Nat.blt c 128 <;> cases Nat.blt c 2048 <;> cases Nat.blt c 65536 <;> first | exact h | exact ⟨rfl,h⟩ | exact ⟨rfl,rfl,h⟩ | exact ⟨rfl,rfl,rfl,h⟩
noncomputable def octS:Sm:=fun xs H Q _=>one1 xs fun v=>asS v fun s=>(match s.cps.toList with | []=>False | c :: r=>iff_ (nil? r) (opt (lkN c encTab) fun bs=>Q (.lst (bs.map inS)) H))
theorem oct_weak:allN 1 fun vs=>allN 0 fun ws=>∀ H Q X,octS (vs ++ ws) H Q X → eS [] 0 e_41 (vs ++ ws) H Q X:=fun v H Q X h=>by
 cases v with
 | str s =>
  obtain ⟨⟨l⟩⟩:=s
  cases l with
  | nil=>exact (h:False).elim
  | cons c r =>
   obtain ⟨h1,h2⟩:=of_iff (show iff_ (nil? r) (opt (lkN c encTab) fun bs=>Q (.lst (bs.map inS)) H) from h)
   obtain ⟨bs,e,h3⟩:=of_opt h2
   cases of_nil h1
   exact (pt_map (oc_eq H Q X) (lkN_mem e)).mpr (oc_of h3)
 | _=>exact (h:False).elim
noncomputable def lo:Fns:=[(865,1,[],octS)]
noncomputable def spF:List Stmt:=loopB (nthS 1 e_42.bd)
noncomputable def spL:Expr:=nthX 0 (callA (retO (nthS 0 (ifE (nthS 0 spF)))))
noncomputable abbrev spX:WS:=(wp (tC lo 1) e_42.sc 59).S
noncomputable abbrev spB (w:Str) (b:Bool) (o:Str) (r:Loc):Loc:=(t "rest",.str w) :: (t "bang",.bool b) :: (t "out",.str o) :: r
noncomputable abbrev spO (w:Str) (b:Bool) (o:Str) (x:SV):Loc:=spB w b o [(t "sign",x)]
noncomputable def lsR (w:Str) (b:Bool) (o:Str) (c:Nat) (H:Hp) (Qs:QS):Prop:=match okC b c with
 | true=>bnd sizeLine (o.length + 1) (Qs .next (spO w b (o ++ ⟨⟨[c]⟩⟩) (sgS c)) H)
 | false=>opt (lkN c encTab) fun bs=>cElt (tL lo 1) e_42.sc (lcS spL) (t "n") (lcE spL) (fun v H=>look v H fun u=>joinW (t "") u fun r=>bnd sizeLine (o.length + r.length) (Qs .next (spO w b (o ++ r) (sgS c)) H)) (bs.map inS) H
theorem sp_turn (w o:Str) (H:Hp) (Qs:QS) (X:XC):∀ b,(sgnL.map fun c=>exeL (tC lo 1) spX spF (spO w b o (sgS c)) H Qs X) = sgnL.map fun c=>lsR w b o c H Qs
 | true=>(by rfl')
 | false=>(by rfl')
noncomputable def byL:List Nat:=(encTab.map (·.2)).flatten
theorem sp_cev (k:SV → Prop):(byL.map fun n=>cev (tL lo 1) (cNm (tL lo 1) e_42.sc (lcS spL) (t "n") (inS n)) 9 (lcE spL) k) = byL.map fun n=>(false = false ∧ k (.str (pctN n))):=by rfl'
theorem sp_join:(encTab.map fun p=>(Txt.join (t "") (p.2.map pctN),(Nat.ble p.2.length 4,(Nat.ble (((p.2.map pctN).map (·.length)).sum + (p.2.map pctN).length * 64) 1000,Nat.ble (pctL p.2).length 12)))) = encTab.map fun p=>(pctL p.2,(true,(true,true))):=by rfl'
noncomputable def in1 (f:Nat → SV):SV → SV | .int i=>(match i with | .ofNat n=>f n | .negSucc _=>.none) | _=>.none
theorem in_map (f:Nat → SV) (l:List Nat):(l.map inS).map (in1 f) = l.map f:=by rw [List.map_map];rfl
theorem strs_map (f:Nat → Str) (l:List Nat):strsOf (l.map fun n=>.str (f n)) = some (l.map f):=by
 induction l with
 | nil=>rfl
 | cons c r ih =>
  show (match strsOf (r.map fun n=>SV.str (f n)) with | some l=>some (f c :: l) | none=>none) = _
  rw [ih];rfl
theorem sp_one {w o:Str} {b:Bool} {c:Nat} {H:Hp} {Qs:QS} {X:XC} (hc:memN c sgnL = true) (ho:o.length ≤ 100000) (h:Qs .next (spO w b (o ++ spell1 b c) (sgS c)) H):exeL (tC lo 1) spX spF (spO w b o (sgS c)) H Qs X:=by
 rw [pt_map (sp_turn w o H Qs X b) (memN_mem hc)]
 unfold lsR
 cases e:okC b c with
 | true =>
  rw [spell_ok e] at h
  exact bnd_of (Nl (Nat.succ_le_succ ho) (by decide)) h
 | false =>
  have k:=List.map_inj_left.mp enc_tab c (memN_mem hc)
  have e1:memN c letL = false:=(Bool.or_eq_false_iff.mp e).1
  rw [e1] at k
  cases e2:lkN c encTab with
  | none=>rw [e2] at k;cases k
  | some bs =>
   have hm:=lkN_mem e2
   have j:=Prod.mk.inj (List.map_inj_left.mp sp_join _ hm)
   have j2:=Prod.mk.inj j.2
   have j3:=Prod.mk.inj j2.2
   have es:spell1 b c = pctL bs:=by unfold spell1;rw [show or (memN c letL) (and b (Nat.beq c 33)) = false from e,e2]
   rw [es] at h
   refine ⟨by rw [List.length_map];exact Nl (Nb j2.1) (by decide),in1 fun n=>.str (pctN n),fun sv hs=>?_,?_⟩
   ·obtain ⟨n,hn,rfl⟩:=List.mem_map.mp hs
    exact ⟨rfl,(pt_map (sp_cev _) (List.mem_flatten.mpr ⟨bs,List.mem_map.mpr ⟨_,hm,rfl⟩,hn⟩)).mpr ⟨rfl,rfl⟩⟩
   ·rw [in_map]
    show opt (strsOf (bs.map fun n=>.str (pctN n))) fun l=>iff_ (Nat.ble (t "").length 64) (bnz ((l.map (·.length)).sum + l.length * 64) (bnd sizeLine (o.length + (Txt.join (t "") l).length) (Qs .next (spO w b (o ++ Txt.join (t "") l) (sgS c)) H)))
    rw [strs_map]
    have j1:Txt.join (t "") (bs.map pctN) = pctL bs:=j.1
    refine opt_of rfl ?_
    rw [j1]
    have l12:=Nb j3.2
    exact iff_of rfl (bnd_of (Nl (Nb j3.1) (by decide)) (bnd_of (Nl (Nat.add_le_add ho l12) (by decide)) h))
noncomputable def spSh (sh:Option SV):Loc:=match sh with | none=>[] | some x=>[(t "sign",x)]
theorem sp_loop {w:Str} {b:Bool} {H:Hp} {Qs:QS} {X:XC} (l:List Nat):∀ (o:Str) (sh:Option SV),(∀ c ∈ l,memN c sgnL = true) → o.length + gWt l ≤ 100000 → (∀ sh,Qs .next (spB w b (o ++ spell b l) (spSh sh)) H) → forL (tC lo 1) spX (t "sign") spF (l.map sgS) (spB w b o (spSh sh)) H Qs X:=by
 induction l with
 | nil=>intro o sh _ _ h;have k:=h sh;rw [show o ++ spell b [] = o from Ae o] at k;exact k
 | cons c r ih =>
  intro o sh hc ho h
  show exeL (tC lo 1) spX spF (put (t "sign") (sgS c) (spB w b o (spSh sh))) H (fun fl loc H=>afterV fl loc H Qs fun loc H=>forL (tC lo 1) spX (t "sign") spF (r.map sgS) loc H Qs X) X
  have hp:put (t "sign") (sgS c) (spB w b o (spSh sh)) = spO w b o (sgS c):=by cases sh <;> kernel_rfl
  have hg:(spell1 b c).length + gWt r ≤ gWt (c :: r):=by
   have k:=gw_spell b [c] (fun d hd=>by rw [Ms hd];exact hc c (.head _))
   rw [show spell b [c] = spell1 b c from Ae _] at k
   show _ ≤ (match memN c letL with | true=>1 | false=>12) + gWt r
   exact Nat.add_le_add_right k _
  rw [hp]
  refine sp_one (hc c (.head _)) (by (first | lia | omega)) (ih (o ++ spell1 b c) (some (sgS c)) (fun d hd=>hc d (.tail _ hd)) (by rw [La];(first | lia | omega)) fun sh=>?_)
  have k:=h sh
  rw [show o ++ spell b (c :: r) = (o ++ spell1 b c) ++ spell b r from (Aa ..).symm] at k
  exact k
theorem sp_eq (w:Str) (b:Bool) (H:Hp) (Q:QV) (X:XC):eC lo 1 e_42 [.str w,.bool b] H Q X = forL (tC lo 1) spX (t "sign") spF (w.cps.toList.map sgS) (spB w b (t "") (spSh none)) H (aft1 (tC lo 1) (wp (tC lo 1) e_42.sc 60).S (nthS 1 e_42.bd) (e_42.bd.drop 2) (endQ Q) X) X:=by rfl'
theorem sp_end (w:Str) (b:Bool) (o:Str) (H:Hp) (Q:QV) (X:XC):∀ sh,aft1 (tC lo 1) (wp (tC lo 1) e_42.sc 60).S (nthS 1 e_42.bd) (e_42.bd.drop 2) (endQ Q) X .next (spB w b o (spSh sh)) H = Q (.str o) H
 | none=>(by rfl')
 | some _=>(by rfl')
noncomputable def spS:Sm:=fun xs H Q _=>two2 xs fun v0 v1=>asS v0 fun w=>asB v1 fun b=>((∀ c ∈ w.cps.toList,memN c sgnL = true) ∧ gWt w.cps.toList ≤ 200) ∧ Q (.str (spell b w.cps.toList)) H
theorem sp_weak:allN 2 fun vs=>allN 0 fun ws=>∀ H Q X,spS (vs ++ ws) H Q X → eC lo 1 e_42 (vs ++ ws) H Q X:=fun v0 v1 H Q X h=>by
 cases v0 with
 | str w=>cases v1 with
  | bool b =>
   obtain ⟨⟨h1,h2⟩,h⟩:=(show ((∀ c ∈ w.cps.toList,memN c sgnL = true) ∧ gWt w.cps.toList ≤ 200) ∧ Q (.str (spell b w.cps.toList)) H from h)
   refine (sp_eq w b H Q X).mpr (sp_loop w.cps.toList (t "") none h1 (Nl (Nd h2 _) (by decide)) fun sh=>(sp_end w b _ H Q X sh).mpr ?_)
   rw [show t "" ++ spell b w.cps.toList = spell b w.cps.toList from Str.empty_append _]
   exact h
  | _=>exact (h:False).elim
 | _=>exact (h:False).elim
noncomputable def lt:Fns:=[(870,2,[],spS)]
noncomputable def tlF:List Stmt:=loopB (nthS 1 e_44.bd)
noncomputable abbrev tlX (n:Nat):WS:=(wp (tL lt 0) e_44.sc n).S
noncomputable abbrev rkH (aw:Addr) (ws:List SV) (a:Addr) (kvs:List (Str × SV)):Hp:=[(1041004,some aw,.list ws),(1059008,some a,.dict kvs)]
noncomputable abbrev tbV (a:Addr):SV:=.obj 1059008 (some a)
noncomputable abbrev tlL (g:Str) (a:Addr) (r:Loc):Loc:=(t "tag",.str g) :: (t "table",tbV a) :: r
noncomputable abbrev tlA (Q:QV) (X:XC):QS:=aft1 (tL lt 0) (tlX 60) (nthS 1 e_44.bd) (e_44.bd.drop 2) (endQ Q) X
section
variable (g:Str) (aw:Addr) (ws:List SV) (a:Addr) (kvs:List (Str × SV)) (Q:QV) (Qs:QS) (X:XC)
theorem tl_eq:eS lt 0 e_44 [.str g,tbV a] (rkH aw ws a kvs) Q X = brn (sbeq g (t "!")) (Q (.str g) (rkH aw ws a kvs)) (bnd sizeLine g.length (-1000000 ≤ (g.length:Int) - 1 ∧ (g.length:Int) - 1 ≤ 1000000 ∧ (-1000000:Int) ≤ 0 ∧ (0:Int) ≤ 1000000 ∧
 forL (tL lt 0) (tlX 59) (t "cut") tlF (rngL ((g.length:Int) - 1) (-1) ((g.length:Int) - 1 - 0).toNat) (tlL g a []) (rkH aw ws a kvs) (tlA Q X) X)):=by rfl'
theorem tl_turn (j:Int):exeL (tL lt 0) (tlX 59) tlF (tlL g a [(t "cut",.int j)]) (rkH aw ws a kvs) Qs X = bnd sizeLine g.length (a = a ∧ brn (isSome? (lk (Txt.slice g none (some j)) kvs))
 (bnd sizeLine g.length (a = a ∧ opt (lk (Txt.slice g none (some j)) kvs) fun u=>bnd sizeLine g.length (eqV u (.str (t "!")) fun c=>spS [.str (Txt.slice g (some j) none),.bool (!c)] (rkH aw ws a kvs) (fun v H=>binV (tL lt 0) .Add u v H fun w H=>Qs (.ret w) (tlL g a [(t "cut",.int j),(t "handle",u)]) H) X)))
 (Qs .next (tlL g a [(t "cut",.int j)]) (rkH aw ws a kvs))):=by rfl'
noncomputable def tlSh (sh:Option SV):Loc:=match sh with | none=>[] | some x=>[(t "cut",x)]
theorem tl_end:∀ sh,tlA Q X .next (tlL g a (tlSh sh)) (rkH aw ws a kvs) = spS [.str g,.bool true] (rkH aw ws a kvs) (fun v H=>binV (tL lt 0) .Add (.str (t "!<")) v H fun u H=>binV (tL lt 0) .Add u (.str (t ">")) H fun w H=>Q w H) X
 | none=>(by rfl')
 | some _=>(by rfl')
theorem tl_ret (v:SV) (loc:Loc) (H:Hp):tlA Q X (.ret v) loc H = Q v H:=by rfl'
end
noncomputable def tlR (g:Str) (kvs:List (Str × SV)) (k:Nat):Str:=match cutOf kvs g k with
 | some p=>theS p.2 ++ spell (!(sbeq (theS p.2) (t "!"))) (g.cps.toList.drop p.1)
 | none=>t "!<" ++ spell true g.cps.toList ++ t ">"
theorem tl_loop {g:Str} {aw:Addr} {ws:List SV} {a:Addr} {kvs:List (Str × SV)} {Q:QV} {X:XC} (h1:∀ c ∈ g.cps.toList,memN c sgnL = true) (h2:gWt g.cps.toList ≤ 100) (h3:∀ p ∈ kvs,∃ h,p.2 = .str h ∧ h.length ≤ 8) (k:Nat) :
  ∀ sh,k ≤ g.cps.toList.length → Q (.str (tlR g kvs k)) (rkH aw ws a kvs) → forL (tL lt 0) (tlX 59) (t "cut") tlF (rngL (k:Int) (-1) k) (tlL g a (tlSh sh)) (rkH aw ws a kvs) (tlA Q X) X:=by
 have hl:g.length ≤ 100:=by rw [← slen];exact Nl (gw_len _) h2
 have hl2:g.length ≤ sizeLine:=Nl hl (by decide)
 induction k with
 | zero =>
  intro sh _ h
  have h:Q (.str (t "!<" ++ spell true g.cps.toList ++ t ">")) (rkH aw ws a kvs):=h
  have l1:=gw_spell true g.cps.toList h1
  refine (tl_end g aw ws a kvs Q X sh).mpr ⟨⟨h1,Nl h2 (by decide)⟩,?_⟩
  refine bnd_of ?_ (bnd_of ?_ h)
  ·exact Nl (Nd (Nl l1 h2) _) (by decide)
  ·rw [La]
   exact Nl (Nat.add_le_add_right (Nd (Nl l1 h2) _) _) (by decide)
 | succ k ih =>
  intro sh hk h
  have hp:put (t "cut") (.int ((k + 1:Nat):Int)) (tlL g a (tlSh sh)) = tlL g a [(t "cut",.int ((k + 1:Nat):Int))]:=by cases sh <;> kernel_rfl
  have hi:((k + 1:Nat):Int) + -1 = (k:Int):=by (first | lia | omega)
  show exeL (tL lt 0) (tlX 59) tlF (put (t "cut") (.int ((k + 1:Nat):Int)) (tlL g a (tlSh sh))) (rkH aw ws a kvs) (fun fl loc H=>afterV fl loc H (tlA Q X) fun loc H=>forL (tL lt 0) (tlX 59) (t "cut") tlF (rngL (((k + 1:Nat):Int) + -1) (-1) k) loc H (tlA Q X) X) X
  rw [hp,hi,tl_turn,sl_to hk]
  refine bnd_of hl2 ⟨rfl,?_⟩
  unfold tlR at h
  rw [show cutOf kvs g (k + 1) = (match lk ⟨⟨g.cps.toList.take (k + 1)⟩⟩ kvs with | some v=>some (k + 1,v) | none=>cutOf kvs g k) from rfl] at h
  cases e:lk ⟨⟨g.cps.toList.take (k + 1)⟩⟩ kvs with
  | none =>
   rw [e] at h
   exact ih (some (.int ((k + 1:Nat):Int))) (Nat.le_of_succ_le hk) h
  | some u =>
   rw [e] at h
   obtain ⟨x,rfl,hx⟩:∃ x,u = .str x ∧ x.length ≤ 8:=h3 _ (lk_mem e)
   have h:Q (.str (x ++ spell (!(sbeq x (t "!"))) (g.cps.toList.drop (k + 1)))) (rkH aw ws a kvs):=h
   have hd:∀ c ∈ g.cps.toList.drop (k + 1),memN c sgnL = true:=fun c hc=>h1 c (List.mem_of_mem_drop hc)
   have l1:=gw_spell (!(sbeq x (t "!"))) _ hd
   have l2:=Nl (gw_drop g.cps.toList (k + 1)) h2
   refine bnd_of hl2 ⟨rfl,bnd_of hl2 ?_⟩
   rw [sl_i hk]
   exact ⟨⟨hd,Nl l2 (by decide)⟩,bnd_of (Nl (Nat.add_le_add hx (Nl l1 l2)) (by decide)) h⟩
noncomputable def tlS:Sm:=fun xs H Q _=>∃ g aw ws a kvs,xs = [.str g,tbV a] ∧ H = rkH aw ws a kvs ∧ (gOk g = true ∧ kOk kvs = true ∧ 1 ≤ g.length) ∧ Q (.str (tagW g kvs)) (rkH aw ws a kvs)
theorem tl_weak:allN 2 fun vs=>allN 0 fun ws=>∀ H Q X,tlS (vs ++ ws) H Q X → eS lt 0 e_44 (vs ++ ws) H Q X:=fun v0 v1 H Q X h=>by
 obtain ⟨g,aw,ws,a,kvs,e1,rfl,⟨hg,hk,hn⟩,h⟩:=h
 cases e1
 obtain ⟨g1,g2⟩:=Ba hg
 have g1:gWt g.cps.toList ≤ 100:=Nb g1
 have hl:g.cps.toList.length ≤ 100:=Nl (gw_len _) g1
 rw [slen] at hl
 refine (tl_eq g aw ws a kvs Q X).mpr (brn_of (fun e=>?_) fun e=>bnd_of (Nl hl (by decide)) ⟨by (first | lia | omega),by (first | lia | omega),by decide,by decide,?_⟩)
 ·have:tagW g kvs = g:=by unfold tagW;rw [e]
  rw [this] at h
  exact h
 ·have e2:((g.length:Int) - 1 - 0).toNat = g.length - 1:=by (first | lia | omega)
  have e3:(g.length:Int) - 1 = ((g.length - 1:Nat):Int):=by (first | lia | omega)
  rw [e2,e3]
  refine tl_loop (List.all_eq_true.mp g2) g1 (fun p hp=>?_) (g.length - 1) none (by rw [slen];(first | lia | omega)) ?_
  ·obtain ⟨_,_,k3⟩:=hp_all hk
   obtain ⟨_,x,e,_,k⟩:=k3 p hp
   exact ⟨x,e,k⟩
  ·have:tagW g kvs = tlR g kvs (g.length - 1):=by unfold tagW;rw [e,slen];rfl
   rw [this] at h
   exact h
noncomputable def lp:Fns:=[(882,1,[],nmS),(877,2,[],tlS)]
noncomputable abbrev ppX (n:Nat):WS:=(wp (tL lp 0) e_45.sc n).S
noncomputable abbrev wdV (aw:Addr):SV:=.obj 1041004 (some aw)
noncomputable abbrev ppL0 (a0 g:SV) (sh:Bool) (a:Addr):Loc:=[(t "anchor",a0),(t "tag",g),(t "shown",.bool sh),(t "table",tbV a)]
noncomputable abbrev ppL1 (a0 g:SV) (sh:Bool) (a aw:Addr):Loc:=[(t "anchor",a0),(t "tag",g),(t "shown",.bool sh),(t "table",tbV a),(t "words",wdV aw)]
noncomputable def ppS (n:Nat):List Stmt:=[nthS n e_45.bd]
noncomputable def addW (aw:Addr) (v:SV) (loc:Loc) (H:Hp) (Qs:QS):Prop:=own (wdV aw) H fun l o=>appM o v fun o'=>Qs .next loc (setH l o' H)
section
variable (a0 g:SV) (sh:Bool) (aw:Addr) (ws:List SV) (a:Addr) (kvs:List (Str × SV)) (Q:QV) (Qs:QS) (X:XC)
theorem pp_0:exeL (tL lp 0) (ppX 60) (ppS 0) (ppL0 a0 g sh a) [(1059008,some a,.dict kvs)] Qs X = ∀ aw,Qs .next (ppL1 a0 g sh a aw) (rkH aw [] a kvs):=by rfl'
theorem pp_1n:exeL (tL lp 0) (ppX 60) (ppS 1) (ppL1 .none g sh a aw) (rkH aw ws a kvs) Qs X = Qs .next (ppL1 .none g sh a aw) (rkH aw ws a kvs):=by rfl'
theorem pp_1s (x:Str):exeL (tL lp 0) (ppX 60) (ppS 1) (ppL1 (.str x) g sh a aw) (rkH aw ws a kvs) Qs X = nmS [.str x] (rkH aw ws a kvs) (fun v H=>tru v H fun c=>brn (!c) (Qs (.ret (.tup [wdV aw,.bool false])) (ppL1 (.str x) g sh a aw) H)
 (look (wdV aw) H fun w=>resW (tL lp 0) (wdV aw) (t "append") w fun k=>iff_ (calOK (tL lp 0) k) (bnd sizeLine (1 + x.length) (calV (tL lp 0) k [.str (t "&" ++ x)] [] 0 H (fun v H=>nonV v (Qs .next (ppL1 (.str x) g sh a aw) H)) X)))) X:=by rfl'
theorem pp_2f:exeL (tL lp 0) (ppX 60) (ppS 2) (ppL1 a0 g false a aw) (rkH aw ws a kvs) Qs X = Qs .next (ppL1 a0 g false a aw) (rkH aw ws a kvs):=by rfl'
theorem pp_2n:exeL (tL lp 0) (ppX 60) (ppS 2) (ppL1 a0 .none true a aw) (rkH aw ws a kvs) Qs X = Qs (.ret (.tup [wdV aw,.bool false])) (ppL1 a0 .none true a aw) (rkH aw ws a kvs):=by rfl'
theorem pp_2e:exeL (tL lp 0) (ppX 60) (ppS 2) (ppL1 a0 (.str ⟨⟨[]⟩⟩) true a aw) (rkH aw ws a kvs) Qs X = Qs (.ret (.tup [wdV aw,.bool false])) (ppL1 a0 (.str ⟨⟨[]⟩⟩) true a aw) (rkH aw ws a kvs):=by rfl'
theorem pp_2s (c:Nat) (r:List Nat):exeL (tL lp 0) (ppX 60) (ppS 2) (ppL1 a0 (.str ⟨⟨c :: r⟩⟩) true a aw) (rkH aw ws a kvs) Qs X = (aw = aw ∧ tlS [.str ⟨⟨c :: r⟩⟩,tbV a] (rkH aw ws a kvs) (fun v H=>addW aw v (ppL1 a0 (.str ⟨⟨c :: r⟩⟩) true a aw) H Qs) X):=by rfl'
theorem pp_3:exeL (tL lp 0) (ppX 60) (ppS 3) (ppL1 a0 g sh a aw) (rkH aw ws a kvs) Qs X = Qs (.ret (.tup [wdV aw,.bool true])) (ppL1 a0 g sh a aw) (rkH aw ws a kvs):=by rfl'
theorem pp_1k (x:Str):(look (wdV aw) (rkH aw ws a kvs) fun w=>resW (tL lp 0) (wdV aw) (t "append") w fun k=>iff_ (calOK (tL lp 0) k) (bnd sizeLine (1 + x.length) (calV (tL lp 0) k [.str (t "&" ++ x)] [] 0 (rkH aw ws a kvs) (fun v H=>nonV v (Qs .next (ppL1 (.str x) g sh a aw) H)) X))) =
 (aw = aw ∧ bnd sizeLine (1 + x.length) (aw = aw ∧ bnd sizeLine ws.length (Qs .next (ppL1 (.str x) g sh a aw) (rkH aw (ws ++ [.str (t "&" ++ x)]) a kvs)))):=by rfl'
theorem addW_eq (v:SV) (loc:Loc):addW aw v loc (rkH aw ws a kvs) Qs = (aw = aw ∧ bnd sizeLine ws.length (Qs .next loc (rkH aw (ws ++ [v]) a kvs))):=by rfl'
theorem pp_list:e_45.bd = ppS 0 ++ (ppS 1 ++ (ppS 2 ++ ppS 3)):=by rfl'
theorem pp_eS:eS lp 0 e_45 [a0,g,.bool sh,tbV a] [(1059008,some a,.dict kvs)] Q X = exeL (tL lp 0) (ppX 60) e_45.bd (ppL0 a0 g sh a) [(1059008,some a,.dict kvs)] (endQ Q) X:=by rfl'
end
noncomputable def ppW (a0 g:SV) (sh:Bool) (kvs:List (Str × SV)):List Str × Bool:=match ancB a0 with
 | false=>([],false)
 | true=>(match ptB sh false g with
  | false=>(ancW (t "&") a0,false)
  | true=>(ancW (t "&") a0 ++ ptL sh g kvs,true))
theorem anc_of {x:Str} (h:x ∈ ancL):nmB x = hasStr x ancOk ∧ x.cps.toList.length ≤ 5:=by
 have k:=Prod.mk.inj (List.map_inj_left.mp anc_nm x h)
 exact ⟨k.1,Nb (Prod.mk.inj k.2).2⟩
theorem pp_1of {a0 g:SV} {sh:Bool} {aw a:Addr} {kvs:List (Str × SV)} {Qs:QS} {X:XC} (ha:anP a0) (h0:ancB a0 = false → Qs (.ret (.tup [wdV aw,.bool false])) (ppL1 a0 g sh a aw) (rkH aw [] a kvs)) (h1:ancB a0 = true → Qs .next (ppL1 a0 g sh a aw) (rkH aw ((ancW (t "&") a0).map .str) a kvs)) :
  exeL (tL lp 0) (ppX 60) (ppS 1) (ppL1 a0 g sh a aw) (rkH aw [] a kvs) Qs X:=by
 rcases ha with rfl | ⟨x,rfl,hx⟩
 ·rw [pp_1n]
  exact h1 rfl
 ·obtain ⟨e1,e2⟩:=anc_of hx
  have h0:hasStr x ancOk = false → _:=h0
  have h1:hasStr x ancOk = true → _:=h1
  rw [← e1] at h0 h1
  rw [pp_1s]
  refine ⟨Nl e2 (by decide),?_⟩
  rw [slen] at e2
  show brn (!(nmB x)) _ _
  refine brn_of (fun e=>h0 (notT e)) fun e=>(pp_1k g sh aw [] a kvs Qs X x).mpr ⟨rfl,bnd_of (Nl (Nd e2 _) (by decide)) ⟨rfl,h1 (by cases q:nmB x with | true=>rfl | false=>rw [q] at e;cases e)⟩⟩
noncomputable def ppSm:Sm:=fun xs H Q _=>∃ a0 g sh a kvs,xs = [a0,g,.bool sh,tbV a] ∧ H = [(1059008,some a,.dict kvs)] ∧ (anP a0 ∧ gP g ∧ kOk kvs = true) ∧ ∀ aw,Q (.tup [wdV aw,.bool (ppW a0 g sh kvs).2]) (rkH aw ((ppW a0 g sh kvs).1.map .str) a kvs)
theorem pp_weak:allN 4 fun vs=>allN 0 fun ws=>∀ H Q X,ppSm (vs ++ ws) H Q X → eS lp 0 e_45 (vs ++ ws) H Q X:=fun a0 g v2 v3 H Q X h=>by
 obtain ⟨a0',g',sh,a,kvs,e1,rfl,⟨ha,hg,hk⟩,h⟩:=h
 cases e1
 refine (pp_eS a0 g sh a kvs Q X).mpr ?_
 rw [pp_list,exeL_app,pp_0]
 intro aw
 have h:=h aw
 unfold ppW at h
 show exeL (tL lp 0) (ppX 60) (ppS 1 ++ (ppS 2 ++ ppS 3)) (ppL1 a0 g sh a aw) (rkH aw [] a kvs) (endQ Q) X
 rw [exeL_app]
 refine pp_1of ha (fun e=>?_) (fun e=>?_)
 ·rw [e] at h;exact h
 ·rw [e] at h
  show exeL (tL lp 0) (ppX 60) (ppS 2 ++ ppS 3) (ppL1 a0 g sh a aw) (rkH aw ((ancW (t "&") a0).map .str) a kvs) (endQ Q) X
  rw [exeL_app]
  cases sh with
  | false =>
   rw [pp_2f]
   show exeL (tL lp 0) (ppX 60) (ppS 3) (ppL1 a0 g false a aw) (rkH aw ((ancW (t "&") a0).map .str) a kvs) (endQ Q) X
   rw [pp_3]
   have h:Q (.tup [wdV aw,.bool true]) (rkH aw ((ancW (t "&") a0 ++ []).map .str) a kvs):=h
   rw [List.append_nil] at h
   exact h
  | true =>
   rcases hg with rfl | ⟨x,rfl,hx⟩
   ·rw [pp_2n];exact h
   ·obtain ⟨⟨l⟩⟩:=x
    cases l with
    | nil=>rw [pp_2e];exact h
    | cons c r =>
     have hx:gOk ⟨⟨c :: r⟩⟩ = true:=hx.resolve_left fun q=>by cases q
     have h:Q (.tup [wdV aw,.bool true]) (rkH aw ((ancW (t "&") a0 ++ [tagW ⟨⟨c :: r⟩⟩ kvs]).map .str) a kvs):=h
     rw [List.map_append] at h
     rw [pp_2s]
     refine ⟨rfl,_,_,_,_,_,rfl,rfl,⟨hx,hk,Nat.le_add_left _ _⟩,?_⟩
     refine (addW_eq aw _ a kvs _ _ _).mpr ⟨rfl,bnd_of ?_ ?_⟩
     ·rw [List.length_map]
      rcases ha with rfl | ⟨x,rfl,_⟩
      ·exact Nat.zero_le _
      ·exact (show 1 ≤ sizeLine by decide)
     ·show exeL (tL lp 0) (ppX 60) (ppS 3) (ppL1 a0 (.str ⟨⟨c :: r⟩⟩) true a aw) (rkH aw ((ancW (t "&") a0).map .str ++ [.str (tagW ⟨⟨c :: r⟩⟩ kvs)]) a kvs) (endQ Q) X
      rw [pp_3]
      exact h
noncomputable def lr:Fns:=[(882,1,[],nmS),(889,4,[],ppSm)]
noncomputable abbrev rkX (n:Nat):WS:=(wp (tL lr 0) e_47.sc n).S
noncomputable def rkB:List Stmt:=loopB (nthS 1 e_47.bd)
noncomputable def rkF:List Stmt:=loopB (nthS 3 rkB)
noncomputable def rkJ:List Stmt:=loopB (nthS 11 rkB)
noncomputable abbrev rkO (n:Nat) (s:Stmt) (loc:Loc) (H:Hp) (Qs:QS) (X:XC):Prop:=exeL (tL lr 0) (rkX n) [s] loc H Qs X
noncomputable abbrev rk0 (ds:List SV) (c:Bool) (i:Int) (x:Str) (r:Loc):Loc:=(t "docs",.lst ds) :: (t "canonical",.bool c) :: (t "step",.int i) :: (t "text",.str x) :: r
noncomputable abbrev rk1 (k:Int) (ex:Bool) (ver:SV) (kvs:List (Str × SV)) (a g:SV) (im:Bool) (its:List SV) (r:Loc):Loc:=(t "d",.int k) :: (t "explicit",.bool ex) :: (t "version",ver) :: (t "tags",.dct kvs) :: (t "anchor",a) :: (t "tag",g) :: (t "implicit",.bool im) :: (t "items",.lst its) :: r
noncomputable abbrev dcV (ex:Bool) (ver:SV) (kvs:List (Str × SV)) (a g:SV) (im:Bool) (its:List SV):SV:=.tup [.bool ex,ver,.dct kvs,a,g,.bool im,.lst its]
noncomputable abbrev tbH (a:Addr) (tk:List (Str × SV)):Hp:=[(1059008,some a,.dict tk)]
noncomputable abbrev retF (x:Str):Fl:=.ret (.tup [.str x,.bool false])
section
variable (ds:List SV) (c:Bool) (i:Int) (x:Str) (k:Int) (ex:Bool) (ver:SV) (kvs:List (Str × SV)) (a g:SV) (im:Bool) (its:List SV) (ta aw:Addr) (tk:List (Str × SV)) (ws:List SV) (mk bl:Bool) (v:SV) (Qs:QS) (X:XC)
theorem rk_s0a:rkO 59 (nthS 0 rkB) (rk0 [dcV ex ver kvs a g im its,v] c i x [(t "d",.int 0)]) [] Qs X = Qs .next (rk0 [dcV ex ver kvs a g im its,v] c i x (rk1 0 ex ver kvs a g im its [])) []:=by rfl'
theorem rk_s0b:rkO 59 (nthS 0 rkB) (rk0 [v,dcV ex ver kvs a g im its] c i x [(t "d",.int 1)]) [] Qs X = Qs .next (rk0 [v,dcV ex ver kvs a g im its] c i x (rk1 1 ex ver kvs a g im its [])) []:=by rfl'
theorem rk_s1n:rkO 59 (nthS 1 rkB) (rk0 ds c i x (rk1 k ex .none kvs a g im its [])) [] Qs X = Qs .next (rk0 ds c i x (rk1 k ex .none kvs a g im its [])) []:=by rfl'
theorem rk_s1x:rkO 59 (nthS 1 rkB) (rk0 ds c i x (rk1 k ex (.tup [.int 2,.int 0]) kvs a g im its [])) [] Qs X = Qs (retF x) (rk0 ds c i x (rk1 k ex (.tup [.int 2,.int 0]) kvs a g im its [])) []:=by rfl'
noncomputable def yaT (m:Int):Str:=(t "%YAML 1." ++ Str.ofString (toString m)) ++ t "\n"
theorem rk_s1v (m:Int):rkO 59 (nthS 1 rkB) (rk0 ds c i x (rk1 k ex (verV m) kvs a g im its [])) [] Qs X = iff_ (Nat.blt m.natAbs.log2 1920) (bnd sizeLine ((t "%YAML 1.").length + (Str.ofString (toString m)).length) (bnd sizeLine ((t "%YAML 1." ++ Str.ofString (toString m)).length + (t "\n").length) (bnd sizeLine (x.length + (yaT m).length)
 (Qs .next (rk0 ds c i (x ++ yaT m) (rk1 k ex (verV m) kvs a g im its [])) [])))):=by rfl'
theorem rk_s2:rkO 59 (nthS 2 rkB) (rk0 ds c i x (rk1 k ex ver kvs a g im its [])) [] Qs X = ∀ ta,Qs .next (rk0 ds c i x (rk1 k ex ver kvs a g im its [(t "table",tbV ta)])) (tbH ta tpK):=by rfl'
theorem rk_s4a:rkO 59 (nthS 4 rkB) (rk0 ds c i x (rk1 k true ver kvs a g im its [(t "table",tbV ta)])) (tbH ta tk) Qs X = Qs .next (rk0 ds c i x (rk1 k true ver kvs a g im its [(t "table",tbV ta),(t "marked",.bool true)])) (tbH ta tk):=by rfl'
theorem rk_s4b:rkO 59 (nthS 4 rkB) (rk0 ds c i x (rk1 1 false ver kvs a g im its [(t "table",tbV ta)])) (tbH ta tk) Qs X = Qs .next (rk0 ds c i x (rk1 1 false ver kvs a g im its [(t "table",tbV ta),(t "marked",.bool true)])) (tbH ta tk):=by rfl'
theorem rk_s4c:rkO 59 (nthS 4 rkB) (rk0 ds true i x (rk1 0 false ver kvs a g im its [(t "table",tbV ta)])) (tbH ta tk) Qs X = Qs .next (rk0 ds true i x (rk1 0 false ver kvs a g im its [(t "table",tbV ta),(t "marked",.bool true)])) (tbH ta tk):=by rfl'
theorem rk_s4d (m:Int):rkO 59 (nthS 4 rkB) (rk0 ds false i x (rk1 0 false (verV m) kvs a g im its [(t "table",tbV ta)])) (tbH ta tk) Qs X = Qs .next (rk0 ds false i x (rk1 0 false (verV m) kvs a g im its [(t "table",tbV ta),(t "marked",.bool true)])) (tbH ta tk):=by rfl'
theorem rk_s4e:rkO 59 (nthS 4 rkB) (rk0 ds false i x (rk1 0 false .none kvs a g im its [(t "table",tbV ta)])) (tbH ta tk) Qs X = bnd sizeLine kvs.length (Qs .next (rk0 ds false i x (rk1 0 false .none kvs a g im its [(t "table",tbV ta),(t "marked",.bool (decide ((0:Int) < ((lenL kvs:Nat):Int))))])) (tbH ta tk)):=by rfl'
noncomputable abbrev rk2 (mk:Bool) (r:Loc):Loc:=(t "table",tbV ta) :: (t "marked",.bool mk) :: r
theorem rk_s5f:rkO 59 (nthS 5 rkB) (rk0 ds c i x (rk1 k ex ver kvs a g im its (rk2 ta false []))) (tbH ta tk) Qs X = Qs .next (rk0 ds c i x (rk1 k ex ver kvs a g im its (rk2 ta false []))) (tbH ta tk):=by rfl'
theorem rk_s5t:∀ c,rkO 59 (nthS 5 rkB) (rk0 ds c i x (rk1 k ex ver kvs a g im its (rk2 ta true []))) (tbH ta tk) Qs X = bnd sizeLine (x.length + (dsHd true c).length) (Qs .next (rk0 ds c i (x ++ dsHd true c) (rk1 k ex ver kvs a g im its (rk2 ta true []))) (tbH ta tk))
 | true=>(by rfl')
 | false=>(by rfl')
theorem rk_s6:∀ mk c,rkO 59 (nthS 6 rkB) (rk0 ds c i x (rk1 k ex ver kvs a g im its (rk2 ta mk []))) (tbH ta tk) Qs X = Qs .next (rk0 ds c i x (rk1 k ex ver kvs a g im its (rk2 ta mk [(t "blank",.bool (and mk (!c)))]))) (tbH ta tk):=b2_all (by rfl') (by rfl') (by rfl') (by rfl')
end
noncomputable def tgtE:Stmt → Expr | .Assign ts _ _=>nthX 0 ts | _=>.Constant .none 0 ⟨0,0,0,0⟩
noncomputable abbrev rkU (s:Stmt) (loc:Loc) (Qs:QS) (X:XC):QV:=fun v H=>asgT (tL lr 0) e_47.sc (wp (tL lr 0) e_47.sc 57) (tgtE s) v loc H (fun loc H=>Qs .next loc H) X
noncomputable abbrev rk4 (d:Int) (its:List SV) (ta:Addr) (f:Bool) (r:Loc):Loc:=(t "d",.int d) :: (t "items",.lst its) :: (t "table",tbV ta) :: (t "fine",.bool f) :: r
noncomputable def rkP (aw:Addr) (ws:List SV) (x s:Str) (K:Str → Prop):Prop:=aw = aw ∧ opt (strsOf ws) fun l=>bnd sizeLine ((l.map (·.length)).sum + l.length * 64) (bnd sizeLine (s.length + (Txt.join (t " ") l).length) (bnd sizeLine (x.length + (s ++ Txt.join (t " ") l).length) (K (x ++ (s ++ Txt.join (t " ") l)))))
noncomputable def rkQ (bl:Bool) (aw:Addr) (ws:List SV) (x:Str) (K:Str → Prop):Prop:=match bl with
 | false=>rkP aw ws x (t "") K
 | true=>aw = aw ∧ bnd sizeLine ws.length (brn (!(nil? ws)) (rkP aw ws x (t " ") K) (brn (!(nil? ws)) (rkP aw ws x (t " ") K) (rkP aw ws x (t "") K)))
section
variable (ds:List SV) (c:Bool) (i:Int) (x:Str) (k:Int) (ex:Bool) (ver:SV) (kvs:List (Str × SV)) (a:SV) (im:Bool) (its:List SV) (ta aw:Addr) (tk:List (Str × SV)) (ws:List SV) (mk bl f:Bool) (v v2:SV) (Qs:QS) (X:XC)
noncomputable abbrev rk5 (g:SV) (r:Loc):Loc:=rk0 ds c i x (rk1 k ex ver kvs a g im its (rk2 ta mk ((t "blank",.bool bl) :: r)))
theorem rk_s7n:∀ im c,rkO 59 (nthS 7 rkB) (rk5 ds c i x k ex ver kvs a im its ta mk bl .none []) (tbH ta tk) Qs X = ppSm [a,.none,.bool (shB im c .none),tbV ta] (tbH ta tk) (rkU (nthS 7 rkB) (rk5 ds c i x k ex ver kvs a im its ta mk bl .none []) Qs X) X:=b2_all (by rfl') (by rfl') (by rfl') (by rfl')
theorem rk_s7s (z:Str):∀ im c,rkO 59 (nthS 7 rkB) (rk5 ds c i x k ex ver kvs a im its ta mk bl (.str z) []) (tbH ta tk) Qs X = ppSm [a,.str z,.bool (shB im c (.str z)),tbV ta] (tbH ta tk) (rkU (nthS 7 rkB) (rk5 ds c i x k ex ver kvs a im its ta mk bl (.str z) []) Qs X) X:=b2_all (by rfl') (by rfl') (by rfl') (by rfl')
theorem rk_u7 (g:SV):rkU (nthS 7 rkB) (rk5 ds c i x k ex ver kvs a im its ta mk bl g []) Qs X (.tup [wdV aw,.bool f]) (rkH aw ws ta tk) = Qs .next (rk5 ds c i x k ex ver kvs a im its ta mk bl g [(t "words",wdV aw),(t "fine",.bool f)]) (rkH aw ws ta tk):=by rfl'
theorem rk_s8f (g:SV):rkO 59 (nthS 8 rkB) (rk5 ds c i x k ex ver kvs a im its ta mk bl g [(t "words",wdV aw),(t "fine",.bool false)]) (rkH aw ws ta tk) Qs X = Qs .next (rk5 ds c i x k ex ver kvs a im its ta mk bl g [(t "words",wdV aw),(t "fine",.bool false)]) (rkH aw ws ta tk):=by rfl'
theorem rk_s8t (g:SV):rkO 59 (nthS 8 rkB) (rk5 ds c i x k ex ver kvs a im its ta mk bl g [(t "words",wdV aw),(t "fine",.bool true)]) (rkH aw ws ta tk) Qs X = (aw = aw ∧ aw = aw ∧ bnd sizeLine ws.length (Qs .next (rk5 ds c i x k ex ver kvs a im its ta mk bl g [(t "words",wdV aw),(t "fine",.bool true)]) (rkH aw (ws ++ [.str (t "[")]) ta tk))):=by rfl'
theorem rk_s9 (g:SV):∀ bl,rkO 59 (nthS 9 rkB) (rk5 ds c i x k ex ver kvs a im its ta mk bl g [(t "words",wdV aw),(t "fine",.bool f)]) (rkH aw ws ta tk) Qs X = rkQ bl aw ws x fun y=>Qs .next (rk0 ds c i y (rk4 k its ta f [])) (tbH ta tk)
 | true=>(by rfl')
 | false=>(by rfl')
theorem rk_s10:∀ f,rkO 59 (nthS 10 rkB) (rk0 ds c i x (rk4 k its ta f [])) (tbH ta tk) Qs X = (match f with | true=>Qs .next (rk0 ds c i x (rk4 k its ta f [])) (tbH ta tk) | false=>Qs (retF x) (rk0 ds c i x (rk4 k its ta f [])) (tbH ta tk))
 | true=>(by rfl')
 | false=>(by rfl')
theorem rk_s11a:rkO 59 (nthS 11 rkB) (rk0 ds c i x (rk4 k [v] ta f [])) (tbH ta tk) Qs X = ((1:Int) ≤ 1000000 ∧ (-1000000:Int) ≤ 1 ∧ forL (tL lr 0) (rkX 58) (t "i") rkJ [.int 0] (rk0 ds c i x (rk4 k [v] ta f [])) (tbH ta tk) Qs X):=by rfl'
theorem rk_s11b:rkO 59 (nthS 11 rkB) (rk0 ds c i x (rk4 k [v,v2] ta f [])) (tbH ta tk) Qs X = ((2:Int) ≤ 1000000 ∧ (-1000000:Int) ≤ 2 ∧ forL (tL lr 0) (rkX 58) (t "i") rkJ [.int 0,.int 1] (rk0 ds c i x (rk4 k [v,v2] ta f [])) (tbH ta tk) Qs X):=by rfl'
noncomputable def rkE (c:Bool):Str:=match c with | true=>t ",\n]\n" | false=>t "]\n"
theorem rk_s12 (j:SV):∀ c,rkO 59 (nthS 12 rkB) (rk0 ds c i x (rk4 k its ta f [(t "i",j)])) (tbH ta tk) Qs X = bnd sizeLine (x.length + (rkE c).length) (Qs .next (rk0 ds c i (x ++ rkE c) []) [])
 | true=>(by rfl')
 | false=>(by rfl')
end
noncomputable abbrev itT (al:Bool) (a g:SV) (b1 b2:Bool) (y:SV) (w:Str):SV:=.tup [.bool al,a,g,.tup [.bool b1,.bool b2],y,.str w]
noncomputable abbrev rk6 (al:Bool) (a g:SV) (b1 b2:Bool) (y:SV) (w:Str) (r:Loc):Loc:=(t "alias",.bool al) :: (t "anchor",a) :: (t "tag",g) :: (t "pair",.tup [.bool b1,.bool b2]) :: (t "style",y) :: (t "word",.str w) :: r
noncomputable abbrev rkI' (n:Nat):Stmt:=nthS n rkJ
noncomputable def rkV:List Stmt:=ifE (nthS 4 rkJ)
noncomputable abbrev alH (aw:Addr) (ws:List SV) (ta:Addr) (tk:List (Str × SV)):Hp:=[(1085016,some aw,.list ws),(1059008,some ta,.dict tk)]
noncomputable abbrev alV (aw:Addr):SV:=.obj 1085016 (some aw)
section
variable (ds:List SV) (c:Bool) (i:Int) (x:Str) (k j:Int) (its:List SV) (ta aw:Addr) (tk:List (Str × SV)) (ws:List SV) (f bl sh:Bool) (al:Bool) (a g:SV) (b1 b2:Bool) (y:SV) (w q:Str) (v:SV) (Qs:QS) (X:XC)
noncomputable abbrev rk7 (r:Loc):Loc:=rk0 ds c i x (rk4 k its ta f ((t "i",.int j) :: r))
theorem rk_t0a:rkO 58 (nthS 0 rkJ) (rk7 ds c i x k 0 [itT al a g b1 b2 y w] ta f []) (tbH ta tk) Qs X = Qs .next (rk7 ds c i x k 0 [itT al a g b1 b2 y w] ta f (rk6 al a g b1 b2 y w [])) (tbH ta tk):=by rfl'
theorem rk_t0b:rkO 58 (nthS 0 rkJ) (rk7 ds c i x k 0 [itT al a g b1 b2 y w,v] ta f []) (tbH ta tk) Qs X = Qs .next (rk7 ds c i x k 0 [itT al a g b1 b2 y w,v] ta f (rk6 al a g b1 b2 y w [])) (tbH ta tk):=by rfl'
theorem rk_t0c:rkO 58 (nthS 0 rkJ) (rk7 ds c i x k 1 [v,itT al a g b1 b2 y w] ta f []) (tbH ta tk) Qs X = Qs .next (rk7 ds c i x k 1 [v,itT al a g b1 b2 y w] ta f (rk6 al a g b1 b2 y w [])) (tbH ta tk):=by rfl'
theorem rk_t1a:rkO 58 (nthS 1 rkJ) (rk7 ds c i x k 0 its ta f (rk6 al a g b1 b2 y w [])) (tbH ta tk) Qs X = bnd sizeLine (x.length + (t "").length) (Qs .next (rk7 ds c i (x ++ t "") k 0 its ta f (rk6 al a g b1 b2 y w [])) (tbH ta tk)):=by rfl'
theorem rk_t1b:rkO 58 (nthS 1 rkJ) (rk7 ds c i x k 1 its ta f (rk6 al a g b1 b2 y w [])) (tbH ta tk) Qs X = bnd sizeLine (x.length + (t ",").length) (Qs .next (rk7 ds c i (x ++ t ",") k 1 its ta f (rk6 al a g b1 b2 y w [])) (tbH ta tk)):=by rfl'
theorem rk_t2f:rkO 58 (nthS 2 rkJ) (rk7 ds false i x k j its ta f (rk6 al a g b1 b2 y w [])) (tbH ta tk) Qs X = Qs .next (rk7 ds false i x k j its ta f (rk6 al a g b1 b2 y w [])) (tbH ta tk):=by rfl'
theorem rk_t2t:rkO 58 (nthS 2 rkJ) (rk7 ds true i x k j its ta f (rk6 al a g b1 b2 y w [])) (tbH ta tk) Qs X = (MulOk (t " ") i ∧ bnd sizeLine ((t "\n").length + (Txt.mul (t " ") i).length) (bnd sizeLine (x.length + (t "\n" ++ Txt.mul (t " ") i).length) (Qs .next (rk7 ds true i (x ++ (t "\n" ++ Txt.mul (t " ") i)) k j its ta f (rk6 al a g b1 b2 y w [])) (tbH ta tk)))):=by rfl'
theorem rk_t3a:rkO 58 (nthS 3 rkJ) (rk7 ds c i x k 0 its ta f (rk6 al a g b1 b2 y w [])) (tbH ta tk) Qs X = Qs .next (rk7 ds c i x k 0 its ta f (rk6 al a g b1 b2 y w [(t "blank",.bool false)])) (tbH ta tk):=by rfl'
theorem rk_t3b:rkO 58 (nthS 3 rkJ) (rk7 ds c i x k 1 its ta f (rk6 al a g b1 b2 y w [])) (tbH ta tk) Qs X = Qs .next (rk7 ds c i x k 1 its ta f (rk6 al a g b1 b2 y w [(t "blank",.bool (!c))])) (tbH ta tk):=by rfl'
theorem rk_t4a (z:Str):rkO 58 (nthS 4 rkJ) (rk7 ds c i x k j its ta f (rk6 true (.str z) g b1 b2 y w [(t "blank",.bool bl)])) (tbH ta tk) Qs X = nmS [.str z] (tbH ta tk) (fun v H=>tru v H fun b=>brn (!b) (Qs (retF x) (rk7 ds c i x k j its ta f (rk6 true (.str z) g b1 b2 y w [(t "blank",.bool bl)])) H)
 (bnd sizeLine (1 + z.length) (∀ aw,Qs .next (rk7 ds c i x k j its ta true (rk6 true (.str z) g b1 b2 y w [(t "blank",.bool bl),(t "words",alV aw)])) ((1085016,some aw,.list [.str (t "*" ++ z)]) :: delH 1085016 H)))) X:=by rfl'
theorem rk_t4s:rkO 58 (nthS 4 rkJ) (rk7 ds c i x k j its ta f (rk6 false a g b1 b2 y w [(t "blank",.bool bl)])) (tbH ta tk) Qs X = exeL (tL lr 0) (rkX 57) rkV (rk7 ds c i x k j its ta f (rk6 false a g b1 b2 y w [(t "blank",.bool bl)])) (tbH ta tk) Qs X:=by rfl'
theorem rk_t5a:∀ bl,rkO 58 (nthS 5 rkJ) (rk7 ds c i x k j its ta f (rk6 true a g b1 b2 y w [(t "blank",.bool bl),(t "words",alV aw)])) (alH aw ws ta tk) Qs X = rkQ bl aw ws x fun z=>Qs .next (rk7 ds c i z k j its ta f []) (tbH ta tk)
 | true=>(by rfl')
 | false=>(by rfl')
theorem rk_t5s:∀ bl,rkO 58 (nthS 5 rkJ) (rk7 ds c i x k j its ta f (rk6 false a g b1 b2 y w [(t "blank",.bool bl),(t "quote",.str q),(t "shown",.bool sh),(t "words",wdV aw)])) (rkH aw ws ta tk) Qs X = rkQ bl aw ws x fun z=>Qs .next (rk7 ds c i z k j its ta f []) (tbH ta tk)
 | true=>(by rfl')
 | false=>(by rfl')
theorem rk_t6:∀ f,rkO 58 (nthS 6 rkJ) (rk7 ds c i x k j its ta f []) (tbH ta tk) Qs X = (match f with | true=>Qs .next (rk7 ds c i x k j its ta true []) (tbH ta tk) | false=>Qs (retF x) (rk7 ds c i x k j its ta false []) (tbH ta tk))
 | true=>(by rfl')
 | false=>(by rfl')
noncomputable abbrev rkW (n:Nat) (loc:Loc) (H:Hp) (Qs:QS) (X:XC):Prop:=rkO 57 (nthS n rkV) loc H Qs X
noncomputable abbrev rk8 (g:SV) (r:Loc):Loc:=rk7 ds c i x k j its ta f (rk6 false a g b1 b2 y w ((t "blank",.bool bl) :: r))
theorem rk_u0n:rkW 0 (rk8 ds c i x k j its ta f bl a b1 b2 .none w g []) (tbH ta tk) Qs X = Qs .next (rk8 ds c i x k j its ta f bl a b1 b2 .none w g [(t "quote",.str sq)]) (tbH ta tk):=by rfl'
theorem rk_u0s:rkW 0 (rk8 ds c i x k j its ta f bl a b1 b2 (.str sq) w g []) (tbH ta tk) Qs X = Qs .next (rk8 ds c i x k j its ta f bl a b1 b2 (.str sq) w g [(t "quote",.str sq)]) (tbH ta tk):=by rfl'
theorem rk_u0d:rkW 0 (rk8 ds c i x k j its ta f bl a b1 b2 (.str dq) w g []) (tbH ta tk) Qs X = Qs .next (rk8 ds c i x k j its ta f bl a b1 b2 (.str dq) w g [(t "quote",.str dq)]) (tbH ta tk):=by rfl'
theorem rk_u1c:rkW 1 (rk8 ds true i x k j its ta f bl a b1 b2 y w g [(t "quote",.str q)]) (tbH ta tk) Qs X = Qs .next (rk8 ds true i x k j its ta f bl a b1 b2 y w g [(t "quote",.str dq)]) (tbH ta tk):=by rfl'
theorem rk_u1s (z:Str):rkW 1 (rk8 ds false i x k j its ta f bl a b1 b2 (.str z) w g [(t "quote",.str q)]) (tbH ta tk) Qs X = Qs .next (rk8 ds false i x k j its ta f bl a b1 b2 (.str z) w g [(t "quote",.str q)]) (tbH ta tk):=by rfl'
theorem rk_u1n:∀ b1,rkW 1 (rk8 ds false i x k j its ta f bl a b1 b2 .none w g [(t "quote",.str q)]) (tbH ta tk) Qs X = (match b1 with
  | false=>Qs .next (rk8 ds false i x k j its ta f bl a b1 b2 .none w g [(t "quote",.str q)]) (tbH ta tk)
  | true=>brn (hasStr w plW) (Qs .next (rk8 ds false i x k j its ta f bl a b1 b2 .none w g [(t "quote",.str (t ""))]) (tbH ta tk)) (brn (hasStr w plW) (Qs .next (rk8 ds false i x k j its ta f bl a b1 b2 .none w g [(t "quote",.str (t ""))]) (tbH ta tk)) (Qs .next (rk8 ds false i x k j its ta f bl a b1 b2 .none w g [(t "quote",.str q)]) (tbH ta tk))))
 | true=>(by rfl')
 | false=>(by rfl')
end
section
variable (ds:List SV) (c:Bool) (i:Int) (x:Str) (k j:Int) (its:List SV) (ta aw:Addr) (tk:List (Str × SV)) (ws:List SV) (f bl sh:Bool) (a g:SV) (b1 b2:Bool) (y:SV) (w q z:Str) (v:SV) (Qs:QS) (X:XC)
noncomputable abbrev rk9 (g:SV) (q:Str) (r:Loc):Loc:=rk8 ds c i x k j its ta f bl a b1 b2 y w g ((t "quote",.str q) :: r)
noncomputable def shQ (q:Str) (g:SV) (b c:Bool) (P:SV → Prop):Prop:=P (.bool (shB b c g))
theorem rk_u2en:∀ b1 c,rkW 2 (rk9 ds c i x k j its ta f bl a b1 b2 y w .none (t "") []) (tbH ta tk) Qs X = Qs .next (rk9 ds c i x k j its ta f bl a b1 b2 y w .none (t "") [(t "shown",.bool (shB b1 c .none))]) (tbH ta tk):=b2_all (by rfl') (by rfl') (by rfl') (by rfl')
theorem rk_u2es:∀ b1 c,rkW 2 (rk9 ds c i x k j its ta f bl a b1 b2 y w (.str z) (t "") []) (tbH ta tk) Qs X = Qs .next (rk9 ds c i x k j its ta f bl a b1 b2 y w (.str z) (t "") [(t "shown",.bool (shB b1 c (.str z)))]) (tbH ta tk):=b2_all (by rfl') (by rfl') (by rfl') (by rfl')
theorem rk_u2sn:∀ b2 c,rkW 2 (rk9 ds c i x k j its ta f bl a b1 b2 y w .none sq []) (tbH ta tk) Qs X = Qs .next (rk9 ds c i x k j its ta f bl a b1 b2 y w .none sq [(t "shown",.bool (shB b2 c .none))]) (tbH ta tk):=b2_all (by rfl') (by rfl') (by rfl') (by rfl')
theorem rk_u2ss:∀ b2 c,rkW 2 (rk9 ds c i x k j its ta f bl a b1 b2 y w (.str z) sq []) (tbH ta tk) Qs X = Qs .next (rk9 ds c i x k j its ta f bl a b1 b2 y w (.str z) sq [(t "shown",.bool (shB b2 c (.str z)))]) (tbH ta tk):=b2_all (by rfl') (by rfl') (by rfl') (by rfl')
theorem rk_u2dn:∀ b2 c,rkW 2 (rk9 ds c i x k j its ta f bl a b1 b2 y w .none dq []) (tbH ta tk) Qs X = Qs .next (rk9 ds c i x k j its ta f bl a b1 b2 y w .none dq [(t "shown",.bool (shB b2 c .none))]) (tbH ta tk):=b2_all (by rfl') (by rfl') (by rfl') (by rfl')
theorem rk_u2ds:∀ b2 c,rkW 2 (rk9 ds c i x k j its ta f bl a b1 b2 y w (.str z) dq []) (tbH ta tk) Qs X = Qs .next (rk9 ds c i x k j its ta f bl a b1 b2 y w (.str z) dq [(t "shown",.bool (shB b2 c (.str z)))]) (tbH ta tk):=b2_all (by rfl') (by rfl') (by rfl') (by rfl')
noncomputable def gF (sh b1:Bool) (g:SV):SV:=match and sh b1 with | true=>(match g with | .none=>.str (t "!") | v=>v) | false=>g
theorem rk_u3n:∀ sh b1,rkW 3 (rk9 ds c i x k j its ta f bl a b1 b2 y w .none q [(t "shown",.bool sh)]) (tbH ta tk) Qs X = Qs .next (rk9 ds c i x k j its ta f bl a b1 b2 y w (gF sh b1 .none) q [(t "shown",.bool sh)]) (tbH ta tk):=b2_all (by rfl') (by rfl') (by rfl') (by rfl')
theorem rk_u3s:∀ sh b1,rkW 3 (rk9 ds c i x k j its ta f bl a b1 b2 y w (.str z) q [(t "shown",.bool sh)]) (tbH ta tk) Qs X = Qs .next (rk9 ds c i x k j its ta f bl a b1 b2 y w (gF sh b1 (.str z)) q [(t "shown",.bool sh)]) (tbH ta tk):=b2_all (by rfl') (by rfl') (by rfl') (by rfl')
theorem rk_u4:rkW 4 (rk9 ds c i x k j its ta f bl a b1 b2 y w g q [(t "shown",.bool sh)]) (tbH ta tk) Qs X = ppSm [a,g,.bool sh,tbV ta] (tbH ta tk) (rkU (nthS 4 rkV) (rk9 ds c i x k j its ta f bl a b1 b2 y w g q [(t "shown",.bool sh)]) Qs X) X:=by rfl'
theorem rk_uU (f2:Bool):rkU (nthS 4 rkV) (rk9 ds c i x k j its ta f bl a b1 b2 y w g q [(t "shown",.bool sh)]) Qs X (.tup [wdV aw,.bool f2]) (rkH aw ws ta tk) = Qs .next (rk9 ds c i x k j its ta f2 bl a b1 b2 y w g q [(t "shown",.bool sh),(t "words",wdV aw)]) (rkH aw ws ta tk):=by rfl'
theorem rk_u5:∀ f,rkW 5 (rk9 ds c i x k j its ta f bl a b1 b2 y w g q [(t "shown",.bool sh),(t "words",wdV aw)]) (rkH aw ws ta tk) Qs X = (match f with
  | false=>Qs .next (rk9 ds c i x k j its ta false bl a b1 b2 y w g q [(t "shown",.bool sh),(t "words",wdV aw)]) (rkH aw ws ta tk)
  | true=>aw = aw ∧ bnd sizeLine (q.length + w.length) (bnd sizeLine ((q ++ w).length + q.length) (aw = aw ∧ bnd sizeLine ws.length (Qs .next (rk9 ds c i x k j its ta true bl a b1 b2 y w g q [(t "shown",.bool sh),(t "words",wdV aw)]) (rkH aw (ws ++ [.str ((q ++ w) ++ q)]) ta tk)))))
 | true=>(by rfl')
 | false=>(by rfl')
theorem rkV_list:rkV = [nthS 0 rkV] ++ ([nthS 1 rkV] ++ ([nthS 2 rkV] ++ ([nthS 3 rkV] ++ ([nthS 4 rkV] ++ [nthS 5 rkV])))):=by rfl'
theorem rkJ_list:rkJ = [nthS 0 rkJ] ++ ([nthS 1 rkJ] ++ ([nthS 2 rkJ] ++ ([nthS 3 rkJ] ++ ([nthS 4 rkJ] ++ ([nthS 5 rkJ] ++ [nthS 6 rkJ]))))):=by rfl'
end
theorem glue_wr (r:List Str):∀ x:Str,(⟨r.foldl (fun acc p=>acc ++ (t " ").cps ++ p.cps) x.cps⟩:Str) = x ++ wr false r:=by
 induction r with
 | nil=>intro x;exact (Ae x).symm
 | cons p r ih =>
  intro x
  show (⟨r.foldl (fun acc p=>acc ++ (t " ").cps ++ p.cps) (x.cps ++ (t " ").cps ++ p.cps)⟩:Str) = x ++ ((t " " ++ p) ++ wr false r)
  have k:=ih ((x ++ t " ") ++ p)
  rw [show ((x ++ t " ") ++ p).cps = x.cps ++ (t " ").cps ++ p.cps from rfl] at k
  rw [k,Aa,Aa,Aa]
theorem wr_join (L:List Str):wr true L = Txt.join (t " ") L:=by
 cases L with
 | nil=>rfl
 | cons w r=>exact (glue_wr r w).symm
theorem wr_blank (w:Str) (r:List Str):wr false (w :: r) = t " " ++ Txt.join (t " ") (w :: r):=by
 rw [← wr_join]
 exact Aa ..
noncomputable def WOk (n:Nat) (L:List Str):Prop:=L.length ≤ n ∧ ∀ w ∈ L,w.length ≤ 130
theorem wok_sum {L:List Str} (h:∀ w ∈ L,w.length ≤ 130):(L.map (·.length)).sum ≤ 130 * L.length:=by
 induction L with
 | nil=>exact Nat.le_refl _
 | cons w r ih =>
  have h1:=h w (.head _)
  have h2:=ih fun x hx=>h x (.tail _ hx)
  show w.length + (r.map (·.length)).sum ≤ 130 * (r.length + 1)
  (first | lia | omega)
theorem wr_len {L:List Str} (h:∀ w ∈ L,w.length ≤ 130):∀ b,(wr b L).length ≤ 131 * L.length:=by
 induction L with
 | nil=>intro b;exact Nat.le_refl _
 | cons w r ih =>
  intro b
  have h1:=h w (.head _)
  have h2:=ih (fun x hx=>h x (.tail _ hx)) false
  show (sp b w ++ wr false r).length ≤ 131 * (r.length + 1)
  have h3:(sp b w).length ≤ 1 + w.length:=sp_len b w
  rw [La]
  (first | lia | omega)
theorem strs_id:∀ L:List Str,strsOf (L.map .str) = some L
 | []=>rfl
 | w :: r=>by
  show (match strsOf (r.map SV.str) with | some l=>some (w :: l) | none=>none) = _
  rw [strs_id r]
theorem rkP_of {aw:Addr} {L:List Str} {x s:Str} {K:Str → Prop} (hL:WOk 4 L) (hs:s.length ≤ 1) (hx:x.length ≤ 100000) (h:K (x ++ (s ++ wr true L))):rkP aw (L.map .str) x s K:=by
 obtain ⟨h1,h2⟩:=hL
 have k1:=wok_sum h2
 have k2:=wr_len h2 true
 rw [wr_join] at h k2
 refine ⟨rfl,opt_of (strs_id L) (bnd_of (Nl (show _ ≤ 1000 by (first | lia | omega)) (by decide)) (bnd_of (Nl (show _ ≤ 1000 by (first | lia | omega)) (by decide)) (bnd_of ?_ h)))⟩
 rw [La]
 exact Nl (show _ ≤ 102000 by (first | lia | omega)) (by decide)
theorem rkQ_of {bl:Bool} {aw:Addr} {L:List Str} {x:Str} {K:Str → Prop} (hL:WOk 4 L) (hx:x.length ≤ 100000) (h:K (x ++ wr (!bl) L)):rkQ bl aw (L.map .str) x K:=by
 cases bl with
 | false=>exact rkP_of hL (Nat.zero_le _) hx (by rw [show t "" ++ wr true L = wr true L from Str.empty_append _];exact h)
 | true =>
  refine ⟨rfl,bnd_of (by rw [List.length_map];exact Nl hL.1 (by decide)) ?_⟩
  cases L with
  | nil =>
   show rkP aw [] x (t "") K
   exact rkP_of (L:=[]) hL (Nat.zero_le _) hx h
  | cons w r =>
   show rkP aw ((w :: r).map .str) x (t " ") K
   refine rkP_of hL (Nat.le_refl _) hx ?_
   rw [wr_join,← wr_blank]
   exact h
theorem cut_mem {kvs:List (Str × SV)} {g:Str} {p:Nat × SV}:∀ n,cutOf kvs g n = some p → ∃ key,(key,p.2) ∈ kvs
 | 0,e=>nomatch e
 | n + 1,e=>by
  have e:(match lk ⟨⟨g.cps.toList.take (n + 1)⟩⟩ kvs with | some v=>some (n + 1,v) | none=>cutOf kvs g n) = some p:=e
  cases q:lk ⟨⟨g.cps.toList.take (n + 1)⟩⟩ kvs with
  | none=>rw [q] at e;exact cut_mem n e
  | some v=>rw [q] at e;cases e;exact ⟨_,lk_mem q⟩
theorem tag_len {g:Str} {kvs:List (Str × SV)} (hg:gOk g = true) (hk:kOk kvs = true):(tagW g kvs).length ≤ 120:=by
 obtain ⟨g1,g2⟩:=Ba hg
 have g1:gWt g.cps.toList ≤ 100:=Nb g1
 have g2:∀ x ∈ g.cps.toList,memN x sgnL = true:=List.all_eq_true.mp g2
 have hl:g.length ≤ 100:=by rw [← slen];exact Nl (gw_len _) g1
 unfold tagW
 cases sbeq g (t "!") with
 | true=>exact Nl hl (by decide)
 | false =>
  dsimp only
  cases e:cutOf kvs g (g.cps.toList.length - 1) with
  | none =>
   have l1:=gw_spell true _ g2
   show ((t "!<" ++ spell true g.cps.toList) ++ t ">").length ≤ 120
   rw [La,La]
   have:(t "!<").length = 2:=rfl
   have:(t ">").length = 1:=rfl
   (first | lia | omega)
  | some p =>
   obtain ⟨key,hm⟩:=cut_mem _ e
   obtain ⟨_,_,k3⟩:=hp_all hk
   obtain ⟨_,x,e2,_,hx⟩:=k3 _ hm
   have e2:p.2 = .str x:=e2
   have l1:=gw_spell (!(sbeq (theS p.2) (t "!"))) _ (fun c hc=>g2 c (List.mem_of_mem_drop (i:=p.1) hc))
   have l2:=gw_drop g.cps.toList p.1
   show (theS p.2 ++ spell (!(sbeq (theS p.2) (t "!"))) (g.cps.toList.drop p.1)).length ≤ 120
   rw [La]
   have:(theS p.2).length ≤ 8:=by rw [e2];exact hx
   (first | lia | omega)
theorem anc_wok {i:Str} {a:SV} (ha:anP a) (hi:i.length ≤ 1):WOk 1 (ancW i a):=by
 rcases ha with rfl | ⟨x,rfl,hx⟩
 ·exact ⟨Nat.zero_le _,fun w hw=>nomatch hw⟩
 ·refine ⟨Nat.le_refl _,fun w hw=>?_⟩
  rw [Ms hw,La]
  have:=anc_len x hx
  (first | lia | omega)
theorem ptL_wok {sh:Bool} {g:SV} {kvs:List (Str × SV)} (hg:gP g) (hk:kOk kvs = true):WOk 1 (ptL sh g kvs):=by
 cases sh with
 | false=>exact ⟨Nat.zero_le _,fun w hw=>nomatch hw⟩
 | true =>
  refine ⟨Nat.le_refl _,fun w hw=>?_⟩
  rw [Ms hw]
  rcases hg with rfl | ⟨x,rfl,rfl | hx⟩
  ·show (tagW (t "!") kvs).length ≤ 130
   rw [tag_bang];decide
  ·exact Nl (tag_len (g:=t "") (by rfl') hk) (by decide)
  ·exact Nl (tag_len hx hk) (by decide)
theorem WOk.app {n m:Nat} {L M:List Str} (h1:WOk n L) (h2:WOk m M):WOk (n + m) (L ++ M):=⟨by rw [List.length_append];exact Nat.add_le_add h1.1 h2.1,fun w hw=>(Ma hw).elim (h1.2 w) (h2.2 w)⟩
theorem WOk.up {n m:Nat} {L:List Str} (h:WOk n L) (e:n ≤ m):WOk m L:=⟨Nl h.1 e,h.2⟩
theorem wok_nil (n:Nat):WOk n []:=⟨Nat.zero_le _,fun w hw=>nomatch hw⟩
theorem pp_wok {a g:SV} {sh:Bool} {kvs:List (Str × SV)} (ha:anP a) (hg:gP g) (hk:kOk kvs = true):WOk 2 (ppW a g sh kvs).1:=by
 have h1:=anc_wok (i:=t "&") ha (by decide)
 unfold ppW
 cases ancB a with
 | false=>exact wok_nil _
 | true =>
  dsimp only
  cases ptB sh false g with
  | false=>exact h1.up (by decide)
  | true=>exact h1.app (ptL_wok hg hk)
noncomputable def nilH (H:Hp):Prop:=delL [1059008,1085016] H = []
theorem nil_tb {ta:Addr} {tk:List (Str × SV)}:nilH (tbH ta tk):=by show delL [1059008,1085016] (tbH ta tk) = [];kernel_rfl
noncomputable abbrev rkT (s:List Stmt) (loc:Loc) (H:Hp) (Qs:QS) (X:XC):Prop:=exeL (tL lr 0) (rkX 58) s loc H Qs X
theorem rk_seq {A B:List Stmt} {T:Tab} {S:WS} {loc:Loc} {H:Hp} {Qs:QS} {X:XC} (h:exeL T S A loc H (fun f loc H=>afterV f loc H Qs fun loc H=>exeL T S B loc H Qs X) X):exeL T S (A ++ B) loc H Qs X:=(exeL_app ..).mpr h
section
variable {ds:List SV} {c:Bool} {i:Int} {x:Str} {k j:Int} {its:List SV} {ta:Addr} {tk:List (Str × SV)} {f bl:Bool} {Qs:QS} {X:XC}
theorem it_al {z:Str} (hz:z ∈ ancL) (hx:x.length ≤ 100000) (h1:hasStr z ancOk = true → Qs .next (rk7 ds c i (x ++ wr (!bl) [t "*" ++ z]) k j its ta true []) (tbH ta tk)) (h0:hasStr z ancOk = false → ∀ loc H,nilH H → Qs (retF x) loc H) :
  rkT ([nthS 4 rkJ] ++ ([nthS 5 rkJ] ++ [nthS 6 rkJ])) (rk7 ds c i x k j its ta f (rk6 true (.str z) .none true true .none (t "") [(t "blank",.bool bl)])) (tbH ta tk) Qs X:=by
 obtain ⟨e1,e2⟩:=anc_of hz
 refine rk_seq ((rk_t4a ds c i x k j its ta tk f bl .none true true .none (t "") _ X z).mpr ⟨Nl e2 (by decide),?_⟩)
 rw [slen] at e2
 show brn (!(nmB z)) _ _
 rw [e1]
 refine brn_of (fun e=>h0 (notT e) _ _ nil_tb) fun e=>bnd_of (Nl (Nd e2 _) (by decide)) fun aw=>?_
 have e:hasStr z ancOk = true:=by cases q:hasStr z ancOk with | true=>rfl | false=>rw [q] at e;cases e
 show rkT ([nthS 5 rkJ] ++ [nthS 6 rkJ]) (rk7 ds c i x k j its ta true (rk6 true (.str z) .none true true .none (t "") [(t "blank",.bool bl),(t "words",alV aw)])) (alH aw ([t "*" ++ z].map .str) ta tk) Qs X
 refine rk_seq ((rk_t5a ds c i x k j its ta aw tk _ true (.str z) .none true true .none (t "") _ X bl).mpr (rkQ_of ⟨(show 1 ≤ 4 by decide),fun w hw=>?_⟩ hx ?_))
 ·rw [Ms hw,La]
  exact Nl (Nd e2 _) (by decide)
 ·show rkT [nthS 6 rkJ] (rk7 ds c i (x ++ wr (!bl) [t "*" ++ z]) k j its ta true []) (tbH ta tk) Qs X
  exact (rk_t6 ds c i _ k j its ta tk Qs X true).mpr (h1 e)
theorem words_len:∀ w ∈ words,w.length ≤ 5:=by decide +kernel
theorem qF_three (c:Bool) {y:SV} (b1:Bool) (w:Str) (hy:yP y):qF c y b1 w = dq ∨ qF c y b1 w = sq ∨ qF c y b1 w = t "":=by
 cases c with
 | true=>exact .inl rfl
 | false =>
  rcases hy with rfl | rfl | rfl
  ·show (match and b1 (hasStr w plW) with | true=>t "" | false=>sq) = dq ∨ (match and b1 (hasStr w plW) with | true=>t "" | false=>sq) = sq ∨ (match and b1 (hasStr w plW) with | true=>t "" | false=>sq) = t ""
   cases and b1 (hasStr w plW) with
   | true=>exact .inr (.inr rfl)
   | false=>exact .inr (.inl rfl)
  ·exact .inr (.inl (by rfl'))
  ·exact .inl (by rfl')
theorem rk_u01 {a g y:SV} {b1 b2:Bool} {w:Str} (hy:yP y) {B:List Stmt} (h:exeL (tL lr 0) (rkX 57) B (rk9 ds c i x k j its ta f bl a b1 b2 y w g (qF c y b1 w) []) (tbH ta tk) Qs X) :
  exeL (tL lr 0) (rkX 57) ([nthS 0 rkV] ++ ([nthS 1 rkV] ++ B)) (rk8 ds c i x k j its ta f bl a b1 b2 y w g []) (tbH ta tk) Qs X:=by
 have ec:∀ y,qF true y b1 w = dq:=fun y=>by rfl'
 refine rk_seq ?_
 rcases hy with rfl | rfl | rfl
 ·refine (rk_u0n ds c i x k j its ta tk f bl a g b1 b2 w _ X).mpr (rk_seq ?_)
  cases c with
  | true=>rw [ec] at h;exact (rk_u1c ds i x k j its ta tk f bl a g b1 b2 .none w sq _ X).mpr h
  | false =>
   refine (rk_u1n ds i x k j its ta tk f bl a g b2 w sq _ X b1).mpr ?_
   cases b1 with
   | false =>
    rw [show qF false .none false w = sq from by rfl'] at h
    exact h
   | true =>
    refine brn_of (fun e=>?_) fun e=>brn_of (fun e2=>?_) fun e2=>?_
    ·rw [show qF false .none true w = t "" from by show (match hasStr w plW with | true=>t "" | false=>sq) = _;rw [e]] at h
     exact h
    ·rw [e] at e2;cases e2
    ·rw [show qF false .none true w = sq from by show (match hasStr w plW with | true=>t "" | false=>sq) = _;rw [e]] at h
     exact h
 ·refine (rk_u0s ds c i x k j its ta tk f bl a g b1 b2 w _ X).mpr (rk_seq ?_)
  cases c with
  | true=>rw [ec] at h;exact (rk_u1c ds i x k j its ta tk f bl a g b1 b2 _ w sq _ X).mpr h
  | false=>rw [show qF false (.str sq) b1 w = sq from by rfl'] at h;exact (rk_u1s ds i x k j its ta tk f bl a g b1 b2 w sq _ X sq).mpr h
 ·refine (rk_u0d ds c i x k j its ta tk f bl a g b1 b2 w _ X).mpr (rk_seq ?_)
  cases c with
  | true=>rw [ec] at h;exact (rk_u1c ds i x k j its ta tk f bl a g b1 b2 _ w dq _ X).mpr h
  | false=>rw [show qF false (.str dq) b1 w = dq from by rfl'] at h;exact (rk_u1s ds i x k j its ta tk f bl a g b1 b2 w dq _ X dq).mpr h
theorem rk_u2 {a g y:SV} {b1 b2:Bool} {w q:Str} (hq:q = dq ∨ q = sq ∨ q = t "") (hg:gP g) {B:List Stmt} (h:exeL (tL lr 0) (rkX 57) B (rk9 ds c i x k j its ta f bl a b1 b2 y w g q [(t "shown",.bool (shB (imF q b1 b2) c g))]) (tbH ta tk) Qs X) :
  exeL (tL lr 0) (rkX 57) ([nthS 2 rkV] ++ B) (rk9 ds c i x k j its ta f bl a b1 b2 y w g q []) (tbH ta tk) Qs X:=by
 refine rk_seq ?_
 have e1:imF dq b1 b2 = b2:=by rfl'
 have e2:imF sq b1 b2 = b2:=by rfl'
 have e3:imF (t "") b1 b2 = b1:=by rfl'
 rcases hq with rfl | rfl | rfl
 ·rw [e1] at h
  rcases hg with rfl | ⟨z,rfl,_⟩
  ·exact (rk_u2dn ds i x k j its ta tk f bl a b1 y w _ X b2 c).mpr h
  ·exact (rk_u2ds ds i x k j its ta tk f bl a b1 y w z _ X b2 c).mpr h
 ·rw [e2] at h
  rcases hg with rfl | ⟨z,rfl,_⟩
  ·exact (rk_u2sn ds i x k j its ta tk f bl a b1 y w _ X b2 c).mpr h
  ·exact (rk_u2ss ds i x k j its ta tk f bl a b1 y w z _ X b2 c).mpr h
 ·rw [e3] at h
  rcases hg with rfl | ⟨z,rfl,_⟩
  ·exact (rk_u2en ds i x k j its ta tk f bl a b2 y w _ X b1 c).mpr h
  ·exact (rk_u2es ds i x k j its ta tk f bl a b2 y w z _ X b1 c).mpr h
theorem gF_ok {sh b1:Bool} {g:SV} {kvs:List (Str × SV)} (hg:gP g):gP (gF sh b1 g) ∧ ptB sh false (gF sh b1 g) = ptB sh b1 g ∧ ptL sh (gF sh b1 g) kvs = ptL sh g kvs:=by
 rcases hg with rfl | ⟨z,rfl,hz⟩
 ·cases sh <;> cases b1
  ·exact ⟨.inl rfl,rfl,rfl⟩
  ·exact ⟨.inl rfl,rfl,rfl⟩
  ·exact ⟨.inl rfl,rfl,rfl⟩
  ·exact ⟨.inr ⟨_,rfl,.inr (by rfl')⟩,rfl,rfl⟩
 ·have e:gF sh b1 (.str z) = .str z:=by cases sh <;> cases b1 <;> rfl
  rw [e]
  exact ⟨.inr ⟨z,rfl,hz⟩,rfl,rfl⟩
theorem it_sc {a g y:SV} {b1 b2:Bool} {w:Str} (ha:anP a) (hg:gP g) (hw:hasStr w words = true) (hy:yP y) (hk:kOk tk = true) (hx:x.length ≤ 100000)
  (h1:(ndL (.sc a g b1 b2 w y) c tk).2 = true → Qs .next (rk7 ds c i (x ++ wr (!bl) (ndL (.sc a g b1 b2 w y) c tk).1) k j its ta true []) (tbH ta tk))
  (h0:(ndL (.sc a g b1 b2 w y) c tk).2 = false → ∀ loc H,nilH H → Qs (retF (x ++ wr (!bl) (ndL (.sc a g b1 b2 w y) c tk).1)) loc H) :
  rkT ([nthS 4 rkJ] ++ ([nthS 5 rkJ] ++ [nthS 6 rkJ])) (rk7 ds c i x k j its ta f (rk6 false a g b1 b2 y w [(t "blank",.bool bl)])) (tbH ta tk) Qs X:=by
 have hq:=qF_three c b1 w hy
 generalize hqe:qF c y b1 w = q at hq
 obtain ⟨gp,gb,gl⟩:=gF_ok (sh:=shB (imF q b1 b2) c g) (b1:=b1) (kvs:=tk) hg
 have hn:ndL (.sc a g b1 b2 w y) c tk = ((ppW a (gF (shB (imF q b1 b2) c g) b1 g) (shB (imF q b1 b2) c g) tk).1 ++ (match (ppW a (gF (shB (imF q b1 b2) c g) b1 g) (shB (imF q b1 b2) c g) tk).2 with | true=>[(q ++ w) ++ q] | false=>[]),(ppW a (gF (shB (imF q b1 b2) c g) b1 g) (shB (imF q b1 b2) c g) tk).2):=by
  unfold ndL ppW
  dsimp only
  rw [hqe,gb,gl]
  cases ancB a with
  | false=>rfl
  | true =>
   dsimp only
   cases ptB (shB (imF q b1 b2) c g) b1 g with
   | false=>exact Prod.ext (List.append_nil _).symm rfl
   | true =>
    refine Prod.ext ?_ rfl
    show _ = (_ ++ _) ++ [(q ++ w) ++ q]
    rw [List.append_assoc,Aa]
 have hpw:=pp_wok (sh:=shB (imF q b1 b2) c g) ha gp hk
 rw [hn] at h1 h0
 clear hn
 have hwl:w.length ≤ 5:=words_len w (has_mem hw)
 have hql:q.length ≤ 1:=by rcases hq with rfl | rfl | rfl <;> decide
 refine rk_seq ((rk_t4s ds c i x k j its ta tk f bl a g b1 b2 y w _ X).mpr ?_)
 rw [rkV_list]
 refine rk_u01 hy ?_
 rw [hqe]
 refine rk_u2 hq hg ?_
 generalize shB (imF q b1 b2) c g = sh at *
 have u3:∀ Qs,Qs .next (rk9 ds c i x k j its ta f bl a b1 b2 y w (gF sh b1 g) q [(t "shown",.bool sh)]) (tbH ta tk) → rkW 3 (rk9 ds c i x k j its ta f bl a b1 b2 y w g q [(t "shown",.bool sh)]) (tbH ta tk) Qs X:=fun Qs h=>by
  rcases hg with rfl | ⟨z,rfl,_⟩
  ·exact (rk_u3n ds c i x k j its ta tk f bl a b2 y w q Qs X sh b1).mpr h
  ·exact (rk_u3s ds c i x k j its ta tk f bl a b2 y w q z Qs X sh b1).mpr h
 refine rk_seq (u3 _ (rk_seq ((rk_u4 ds c i x k j its ta tk f bl sh a (gF sh b1 g) b1 b2 y w q _ X).mpr ⟨a,gF sh b1 g,sh,ta,tk,rfl,rfl,⟨ha,gp,hk⟩,fun aw=>?_⟩)))
 refine (rk_uU ds c i x k j its ta aw tk _ f bl sh a (gF sh b1 g) b1 b2 y w q _ X _).mpr ?_
 generalize ppW a (gF sh b1 g) sh tk = P at *
 obtain ⟨L,ok⟩:=P
 refine (rk_u5 ds c i x k j its ta aw tk (L.map .str) bl sh a (gF sh b1 g) b1 b2 y w q _ X ok).mpr ?_
 cases ok with
 | false =>
  have h0:∀ loc H,nilH H → Qs (retF (x ++ wr (!bl) (L ++ []))) loc H:=h0 rfl
  rw [List.append_nil] at h0
  show rkT ([nthS 5 rkJ] ++ [nthS 6 rkJ]) (rk9 ds c i x k j its ta false bl a b1 b2 y w (gF sh b1 g) q [(t "shown",.bool sh),(t "words",wdV aw)]) (rkH aw (L.map .str) ta tk) Qs X
  refine rk_seq ((rk_t5s ds c i x k j its ta aw tk _ false sh a (gF sh b1 g) b1 b2 y w q _ X bl).mpr (rkQ_of (hpw.up (by decide)) hx ?_))
  show rkT [nthS 6 rkJ] (rk7 ds c i (x ++ wr (!bl) L) k j its ta false []) (tbH ta tk) Qs X
  exact (rk_t6 ds c i _ k j its ta tk Qs X false).mpr (h0 _ _ nil_tb)
 | true =>
  have h1:Qs .next (rk7 ds c i (x ++ wr (!bl) (L ++ [(q ++ w) ++ q])) k j its ta true []) (tbH ta tk):=h1 rfl
  have hz:((q ++ w) ++ q).length ≤ 10:=by rw [La,La];(first | lia | omega)
  refine ⟨rfl,bnd_of (Nl (show _ ≤ 10 by (first | lia | omega)) (by decide)) (bnd_of (Nl (show (q ++ w).length + q.length ≤ 10 by rw [← La];exact hz) (by decide)) ⟨rfl,bnd_of (by rw [List.length_map];exact Nl hpw.1 (by decide)) ?_⟩)⟩
  have em:L.map SV.str ++ [.str ((q ++ w) ++ q)] = (L ++ [(q ++ w) ++ q]).map .str:=by rw [List.map_append];rfl
  rw [em]
  show rkT ([nthS 5 rkJ] ++ [nthS 6 rkJ]) (rk9 ds c i x k j its ta true bl a b1 b2 y w (gF sh b1 g) q [(t "shown",.bool sh),(t "words",wdV aw)]) (rkH aw ((L ++ [(q ++ w) ++ q]).map .str) ta tk) Qs X
  refine rk_seq ((rk_t5s ds c i x k j its ta aw tk _ true sh a (gF sh b1 g) b1 b2 y w q _ X bl).mpr (rkQ_of ((hpw.app (m:=1) ⟨Nat.le_refl _,fun v hv=>by rw [Ms hv];exact Nl hz (by decide)⟩).up (by decide)) hx ?_))
  show rkT [nthS 6 rkJ] (rk7 ds c i (x ++ wr (!bl) (L ++ [(q ++ w) ++ q])) k j its ta true []) (tbH ta tk) Qs X
  exact (rk_t6 ds c i _ k j its ta tk Qs X true).mpr h1
end
theorem mul_len {i:Int} (h1:2 ≤ i) (h2:i ≤ 9):(Txt.mul (t " ") i).length ≤ 9:=by
 rcases i_29 h1 h2 with rfl | rfl | rfl | rfl | rfl | rfl | rfl | rfl <;> exact Nb (by rfl')
noncomputable def jI (first:Bool):Int:=match first with | true=>0 | false=>1
noncomputable def itL:Ev → Loc
 | .sc a g b1 b2 w y=>rk6 false a g b1 b2 y w []
 | .al a=>rk6 true a .none true true .none (t "") []
 | .sq _ _ _=>[]
noncomputable def itE:Ev → SV
 | .sc a g b1 b2 w y=>itT false a g b1 b2 y w
 | .al a=>itT true a .none true true .none (t "")
 | .sq _ _ _=>.none
noncomputable def nlT (c:Bool) (i:Int):Str:=match c with | true=>t "\n" ++ Txt.mul (t " ") i | false=>Str.empty
theorem t_empty:t "" = Str.empty:=by rfl'
section
variable {ds:List SV} {c:Bool} {i:Int} {x:Str} {k:Int} {its:List SV} {ta:Addr} {tk:List (Str × SV)} {f bl:Bool} {Qs:QS} {X:XC}
theorem it_pre (al:Bool) (a g:SV) (b1 b2:Bool) (y:SV) (w:Str) (hi:2 ≤ i ∧ i ≤ 9) (hx:x.length ≤ 90000) (first:Bool) {B:List Stmt}
  (h:rkT B (rk7 ds c i (x ++ itPre c first i) k (jI first) its ta f (rk6 al a g b1 b2 y w [(t "blank",.bool (!(or c first)))])) (tbH ta tk) Qs X) :
  rkT ([nthS 1 rkJ] ++ ([nthS 2 rkJ] ++ ([nthS 3 rkJ] ++ B))) (rk7 ds c i x k (jI first) its ta f (rk6 al a g b1 b2 y w [])) (tbH ta tk) Qs X:=by
 have hm:=mul_len hi.1 hi.2
 have l1:(t "\n" ++ Txt.mul (t " ") i).length ≤ 10:=by rw [La];exact Nl (Nd hm _) (by decide)
 have go:∀ pre:Str,pre.length ≤ 1 → (pre ++ nlT c i) = itPre c first i → rkT ([nthS 2 rkJ] ++ ([nthS 3 rkJ] ++ B)) (rk7 ds c i (x ++ pre) k (jI first) its ta f (rk6 al a g b1 b2 y w [])) (tbH ta tk) Qs X:=fun pre hp e=>by
  have t3:rkT ([nthS 3 rkJ] ++ B) (rk7 ds c i (x ++ itPre c first i) k (jI first) its ta f (rk6 al a g b1 b2 y w [])) (tbH ta tk) Qs X:=by
   refine rk_seq ?_
   cases first with
   | true =>
    have e:(!(or c true)) = false:=by cases c <;> rfl
    rw [e] at h
    exact (rk_t3a ds c i _ k its ta tk f al a g b1 b2 y w _ X).mpr h
   | false =>
    have e:(!(or c false)) = !c:=by cases c <;> rfl
    rw [e] at h
    exact (rk_t3b ds c i _ k its ta tk f al a g b1 b2 y w _ X).mpr h
  rw [← e] at t3
  refine rk_seq ?_
  cases c with
  | false =>
   rw [show pre ++ nlT false i = pre from Ae _] at t3
   exact (rk_t2f ds i _ k _ its ta tk f al a g b1 b2 y w _ X).mpr t3
  | true =>
   refine (rk_t2t ds i _ k _ its ta tk f al a g b1 b2 y w _ X).mpr ⟨mulOk_b hi.1 hi.2,bnd_of (Nl (Nl (Nd hm _) (show _ ≤ 10 by decide)) (by decide)) (bnd_of ?_ ?_)⟩
   ·rw [La]
    exact Nl (show _ ≤ 91000 by (first | lia | omega)) (by decide)
   ·rw [Aa]
    exact t3
 refine rk_seq ?_
 cases first with
 | true =>
  refine (rk_t1a ds c i x k its ta tk f al a g b1 b2 y w _ X).mpr (bnd_of (Nl (show x.length + 0 ≤ 91000 by (first | lia | omega)) (by decide)) ?_)
  refine go (t "") (Nat.zero_le _) ?_
  rw [t_empty];rfl
 | false =>
  refine (rk_t1b ds c i x k its ta tk f al a g b1 b2 y w _ X).mpr (bnd_of (Nl (show x.length + 1 ≤ 91000 by (first | lia | omega)) (by decide)) ?_)
  exact go (t ",") (Nat.le_refl _) rfl
theorem pre_len2 (hi:2 ≤ i ∧ i ≤ 9) (first:Bool):(itPre c first i).length ≤ 11:=by
 have hm:=mul_len hi.1 hi.2
 have h2:(nlT c i).length ≤ 10:=by
  cases c with
  | true=>show (t "\n" ++ Txt.mul (t " ") i).length ≤ 10;rw [La];exact Nl (Nd hm _) (by decide)
  | false=>exact Nat.zero_le _
 cases first with
 | true=>show (Str.empty ++ nlT c i).length ≤ 11;rw [Str.empty_append];(first | lia | omega)
 | false=>show (t "," ++ nlT c i).length ≤ 11;rw [La];exact Nl (Nd h2 _) (by decide)
theorem it_turn {e:Ev} (he:ndP e) (hi:2 ≤ i ∧ i ≤ 9) (hk:kOk tk = true) (hx:x.length ≤ 90000) (first:Bool)
  (t0:∀ Qs,rkO 58 (nthS 0 rkJ) (rk7 ds c i x k (jI first) its ta f []) (tbH ta tk) Qs X = Qs .next (rk7 ds c i x k (jI first) its ta f (itL e)) (tbH ta tk))
  (h1:(ndL e c tk).2 = true → Qs .next (rk7 ds c i (x ++ (itPre c first i ++ wr (or c first) (ndL e c tk).1)) k (jI first) its ta true []) (tbH ta tk))
  (h0:(ndL e c tk).2 = false → ∀ loc H,nilH H → Qs (retF (x ++ (itPre c first i ++ wr (or c first) (ndL e c tk).1))) loc H):rkT rkJ (rk7 ds c i x k (jI first) its ta f []) (tbH ta tk) Qs X:=by
 have hp:=pre_len2 (c:=c) hi first
 have hx2:(x ++ itPre c first i).length ≤ 100000:=by rw [La];(first | lia | omega)
 have eb:or c first = !(!(or c first)):=by cases or c first <;> rfl
 rw [rkJ_list]
 refine rk_seq ((t0 _).mpr ?_)
 rw [← Aa,eb] at h1 h0
 cases e with
 | sq a g im=>exact he.elim
 | al a =>
  obtain ⟨z,rfl,hz⟩:=he
  refine it_pre true (.str z) .none true true .none (t "") hi hx first (it_al hz hx2 (fun e=>?_) (fun e=>?_))
  ·have en:ndL (.al (.str z)) c tk = ([t "*" ++ z],true):=by
    show (match hasStr z ancOk with | false=>([],false) | true=>([t "*" ++ z],true)) = _
    rw [e]
   rw [en] at h1
   exact h1 rfl
  ·have en:ndL (.al (.str z)) c tk = ([],false):=by
    show (match hasStr z ancOk with | false=>([],false) | true=>([t "*" ++ z],true)) = _
    rw [e]
   rw [en] at h0
   have h0:=h0 rfl
   rw [show wr (!(!(or c first))) ([],false).1 = Str.empty from rfl,Ae] at h0
   exact h0
 | sc a g b1 b2 w y =>
  obtain ⟨p1,p2,p3,p4⟩:=he
  exact it_pre false a g b1 b2 y w hi hx first (it_sc p1 p2 p3 p4 hk hx2 h1 h0)
theorem nd_len {e:Ev} (he:ndP e) (hk:kOk tk = true) (b:Bool):(wr b (ndL e c tk).1).length ≤ 600:=by
 have key:WOk 4 (ndL e c tk).1:=by
  cases e with
  | sq a g im=>exact he.elim
  | al a =>
   obtain ⟨z,rfl,hz⟩:=he
   show WOk 4 (match hasStr z ancOk with | false=>([],false) | true=>(ancW (t "*") (.str z),true)).1
   cases hasStr z ancOk with
   | false=>exact wok_nil _
   | true=>exact (anc_wok (i:=t "*") (.inr ⟨z,rfl,hz⟩) (by decide)).up (by decide)
  | sc a g b1 b2 w y =>
   obtain ⟨p1,p2,p3,p4⟩:=he
   have h1:=anc_wok (i:=t "&") p1 (by decide)
   unfold ndL
   dsimp only
   cases ancB a with
   | false=>exact wok_nil _
   | true =>
    dsimp only
    cases ptB (shB (imF (qF c y b1 w) b1 b2) c g) b1 g with
    | false=>exact h1.up (by decide)
    | true =>
     refine (h1.app ((ptL_wok p2 hk).app (m:=1) ⟨Nat.le_refl _,fun v hv=>?_⟩)).up (by decide)
     rw [Ms hv,La,La]
     have hql:(qF c y b1 w).length ≤ 1:=by rcases qF_three c b1 w p4 with e | e | e <;> rw [e] <;> decide
     have:=words_len w (has_mem p3)
     (first | lia | omega)
 have:=wr_len key.2 b
 have:=key.1
 (first | lia | omega)
end
section
variable (ds:List SV) (c:Bool) (i:Int) (x:Str) (k:Int) (ex:Bool) (ver:SV) (kvs:List (Str × SV)) (a g:SV) (im:Bool) (its:List SV) (ta:Addr) (tk:List (Str × SV)) (h p:Str) (Qs:QS) (X:XC) (K:QB)
noncomputable abbrev rkD1 (r:Loc):Loc:=rk0 ds c i x (rk1 k ex ver kvs a g im its ((t "table",tbV ta) :: r))
noncomputable abbrev rkD2 (r:Loc):Loc:=rkD1 ds c i x k ex ver kvs a g im its ta ((t "handle",.str h) :: r)
noncomputable def rkQ3 (Qs:QS):QS:=fun f loc H=>afterV f loc H Qs fun loc H=>Qs .next (keepL loc rkD) H
theorem rk_s3:rkO 59 (nthS 3 rkB) (rkD1 ds c i x k ex ver kvs a g im its ta []) (tbH ta tk) Qs X = iff_ (Nat.ble kvs.length 60) (forL (tL lr 0) (rkX 58) (t "handle") rkF ((sortS (kvs.map (·.1))).map .str) (rkD1 ds c i x k ex ver kvs a g im its ta []) (tbH ta tk) (rkQ3 Qs) X):=by rfl'
theorem rk_keep:keepL (rkD1 ds c i x k ex ver kvs a g im its ta []) rkD = rkD1 ds c i x k ex ver kvs a g im its ta []:=by rfl'
theorem rk_f0:rkO 58 (nthS 0 rkF) (rkD2 ds c i x k ex ver kvs a g im its ta h []) (tbH ta tk) Qs X = opt (lk h kvs) fun v=>Qs .next (rkD2 ds c i x k ex ver kvs a g im its ta h [(t "prefix",v)]) (tbH ta tk):=by rfl'
noncomputable def hkK (h:Str):Nat:=match or (sbeq h (t "!")) (sbeq h (t "!!")) with
 | true=>0
 | false=>(match and (sbeq (Txt.slice h none (some 1)) (t "!")) (sbeq (Txt.slice h (some (-1)) none) (t "!")) with | true=>2 | false=>1)
noncomputable def tsB (p:Str) (H:Hp) (K:QB):Prop:=brn (!(sbeq p (t ""))) (K false H) (K (sbeq p (t "")) H)
noncomputable def tsR (h p:Str) (H:Hp) (K:QB) (X:XC):Prop:=match hkK h with
 | 0=>tsB p H K
 | 1=>K true H
 | _=>nmS [.str (Txt.slice h (some 1) (some (-1)))] H (fun v H=>tru v H fun c=>brn c (tsB p H K) (brn (!c) (K true H) (brn (!(!c)) (tsB p H K) (K (!c) H)))) X
theorem rk_tst:(hanL.map fun h=>(wp (tL lr 0) e_47.sc 57).B (tstO (nthS 1 rkF)) (rkD2 ds c i x k ex ver kvs a g im its ta h [(t "prefix",.str p)]) (tbH ta tk) K X) = hanL.map fun h=>tsR h p (tbH ta tk) K X:=by rfl'
noncomputable def tgT (h p:Str):Str:=(((t "%TAG " ++ h) ++ t " ") ++ p) ++ t "\n"
theorem rk_f2:rkO 58 (nthS 2 rkF) (rkD2 ds c i x k ex ver kvs a g im its ta h [(t "prefix",.str p)]) (tbH ta tk) Qs X = bnd sizeLine ((t "%TAG ").length + h.length) (bnd sizeLine ((t "%TAG " ++ h).length + (t " ").length) (bnd sizeLine (((t "%TAG " ++ h) ++ t " ").length + p.length) (bnd sizeLine ((((t "%TAG " ++ h) ++ t " ") ++ p).length + (t "\n").length) (bnd sizeLine (x.length + (tgT h p).length)
 (Qs .next (rkD2 ds c i (x ++ tgT h p) k ex ver kvs a g im its ta h [(t "prefix",.str p)]) (tbH ta tk)))))):=by rfl'
theorem rk_f3:rkO 58 (nthS 3 rkF) (rkD2 ds c i x k ex ver kvs a g im its ta h [(t "prefix",.str p)]) (tbH ta tk) Qs X = (ta = ta ∧ iff_ (Nat.ble (lenL (put p (.str h) tk)) 1000) (Qs .next (rkD1 ds c i x k ex ver kvs a g im its ta []) (tbH ta (put p (.str h) tk)))):=by rfl'
theorem rkF_list:rkF = [nthS 0 rkF] ++ ([nthS 1 rkF] ++ ([nthS 2 rkF] ++ [nthS 3 rkF])):=by rfl'
theorem rk_f1:rkO 58 (nthS 1 rkF) (rkD2 ds c i x k ex ver kvs a g im its ta h [(t "prefix",.str p)]) (tbH ta tk) Qs X = (wp (tL lr 0) e_47.sc 57).B (tstO (nthS 1 rkF)) (rkD2 ds c i x k ex ver kvs a g im its ta h [(t "prefix",.str p)]) (tbH ta tk) (fun b H=>brn b (Qs (retF x) (rkD2 ds c i x k ex ver kvs a g im its ta h [(t "prefix",.str p)]) H) (Qs .next (rkD2 ds c i x k ex ver kvs a g im its ta h [(t "prefix",.str p)]) H)) X:=by rfl'
end
noncomputable def hkB (h:Str):Bool:=match hkK h with | 0=>true | 1=>false | _=>nmB (Txt.slice h (some 1) (some (-1)))
theorem hk_all:(hanL.map fun h=>(hkB h,Nat.ble (Txt.slice h (some 1) (some (-1))).cps.toList.length 10)) = hanL.map fun h=>(hasStr h hanOk,true):=by rfl'
theorem pre_all:(preL.map fun p=>sbeq p (t "")) = preL.map fun p=>!(hasStr p preOk):=by rfl'
theorem ts_of {h p:Str} {H:Hp} {K:QB} {X:XC} (hh:h ∈ hanL) (hp:p ∈ preL) (k:K (!(and (hasStr h hanOk) (hasStr p preOk))) H):tsR h p H K X:=by
 have e:=Prod.mk.inj (List.map_inj_left.mp hk_all h hh)
 have ep:sbeq p (t "") = !(hasStr p preOk):=List.map_inj_left.mp pre_all p hp
 have e1:hkB h = hasStr h hanOk:=e.1
 rw [← e1] at k
 have b2:hkB h = true → tsB p H K:=fun q=>by
  rw [q] at k
  unfold tsB
  rw [ep]
  cases q2:hasStr p preOk with
  | true=>rw [q2] at k;exact k
  | false=>rw [q2] at k;exact k
 unfold tsR
 unfold hkB at k b2
 generalize hkK h = n at *
 cases n with
 | zero=>exact b2 rfl
 | succ n=>cases n with
  | zero=>exact k
  | succ n =>
   refine ⟨Nl (Nb e.2) (by decide),?_⟩
   show brn (nmB (Txt.slice h (some 1) (some (-1)))) _ _
   have b2:nmB (Txt.slice h (some 1) (some (-1))) = true → tsB p H K:=b2
   have k:K (!(and (nmB (Txt.slice h (some 1) (some (-1)))) (hasStr p preOk))) H:=k
   generalize nmB (Txt.slice h (some 1) (some (-1))) = b at *
   cases b with
   | true=>exact b2 rfl
   | false=>exact k
theorem tgT_eq (h p:Str):tgT h p = dirT h p ++ t "\n":=by
 unfold tgT dirT
 rw [Str.empty_append]
theorem yaT_eq (m:Int):yaT m = verT m ++ t "\n":=by
 show (t "%YAML 1." ++ Str.ofString (toString m)) ++ t "\n" = (t "%YAML " ++ (t "1." ++ Str.ofString (toString m))) ++ t "\n"
 rw [← Aa (t "%YAML ")]
 rw [show t "%YAML " ++ t "1." = t "%YAML 1." from by rfl']
section
variable {ds:List SV} {c:Bool} {i:Int} {k:Int} {ex:Bool} {ver:SV} {kvs:List (Str × SV)} {a g:SV} {im:Bool} {its:List SV} {ta:Addr} {Qs:QS} {X:XC}
theorem rk_dturn {x h p:Str} {tk:List (Str × SV)} (e:lk h kvs = some (.str p)) (hh:h ∈ hanL) (hp:p ∈ preL) (hx:x.length ≤ 90000) (hk:lenL tk ≤ 500)
  (h1:and (hasStr h hanOk) (hasStr p preOk) = true → Qs .next (rkD1 ds c i (x ++ (dirT h p ++ t "\n")) k ex ver kvs a g im its ta []) (tbH ta (put p (.str h) tk)))
  (h0:and (hasStr h hanOk) (hasStr p preOk) = false → ∀ loc H,nilH H → Qs (retF x) loc H):rkT rkF (rkD2 ds c i x k ex ver kvs a g im its ta h []) (tbH ta tk) Qs X:=by
 rw [rkF_list]
 refine rk_seq ((rk_f0 ds c i x k ex ver kvs a g im its ta tk h _ X).mpr (opt_of e (rk_seq ((rk_f1 ds c i x k ex ver kvs a g im its ta tk h p _ X).mpr ?_))))
 refine (pt_map (rk_tst ds c i x k ex ver kvs a g im its ta tk p X _) hh).mpr (ts_of hh hp (brn_of (fun q=>h0 (notT q) _ _ nil_tb) fun q=>?_))
 have q:and (hasStr h hanOk) (hasStr p preOk) = true:=by cases q2:and (hasStr h hanOk) (hasStr p preOk) with | true=>rfl | false=>rw [q2] at q;cases q
 have l1:=han_len h hh
 have l2:=pre_len p hp
 have m1:(t "%TAG " ++ h).length ≤ 20:=by rw [La];exact Nl (Nd l1 _) (by decide)
 have m2:((t "%TAG " ++ h) ++ t " ").length ≤ 21:=by rw [La];exact Nat.add_le_add_right m1 _
 have m3:(((t "%TAG " ++ h) ++ t " ") ++ p).length ≤ 41:=by rw [La];exact Nat.add_le_add m2 l2
 have m4:(tgT h p).length ≤ 42:=by unfold tgT;rw [La];exact Nat.add_le_add_right m3 _
 have h1:=h1 q
 rw [← tgT_eq] at h1
 refine rk_seq ((rk_f2 ds c i x k ex ver kvs a g im its ta tk h p _ X).mpr (bnd_of ?_ (bnd_of ?_ (bnd_of ?_ (bnd_of ?_ (bnd_of ?_ ?_))))))
 ·exact Nl (Nd l1 _) (by decide)
 ·exact Nl (Nat.add_le_add_right m1 _) (by decide)
 ·exact Nl (Nat.add_le_add m2 l2) (by decide)
 ·exact Nl (Nat.add_le_add_right m3 _) (by decide)
 ·exact Nl (Nat.add_le_add hx m4) (by decide)
 ·exact (rk_f3 ds c i _ k ex ver kvs a g im its ta tk h p _ X).mpr ⟨rfl,iff_of (Nat.ble_eq_true_of_le (Nl putL_len (Nl (Nat.succ_le_succ hk) (by decide)))) h1⟩
theorem rk_dirs (l:List Str):∀ (x:Str) (tk:List (Str × SV)),(∀ h ∈ l,dirC kvs h) → x.length + 60 * l.length ≤ 90000 → lenL tk + l.length ≤ 500 →
  ((dirL kvs l tk).2.1 = true → Qs .next (rkD1 ds c i (x ++ (dirL kvs l tk).1) k ex ver kvs a g im its ta []) (tbH ta (dirL kvs l tk).2.2)) →
  ((dirL kvs l tk).2.1 = false → ∀ loc H,nilH H → Qs (retF (x ++ (dirL kvs l tk).1)) loc H) →
  forL (tL lr 0) (rkX 58) (t "handle") rkF (l.map .str) (rkD1 ds c i x k ex ver kvs a g im its ta []) (tbH ta tk) Qs X:=by
 induction l with
 | nil =>
  intro x tk _ _ _ q _
  have k:=q rfl
  rw [show x ++ (dirL kvs [] tk).1 = x from Ae x] at k
  exact k
 | cons h r ih =>
  intro x tk hc hn hk q z
  obtain ⟨p,e,c1,c2⟩:=hc h (.head _)
  have hn:x.length + 60 * (r.length + 1) ≤ 90000:=hn
  have hk:lenL tk + (r.length + 1) ≤ 500:=hk
  have hd:dirL kvs (h :: r) tk = (match and (hasStr h hanOk) (hasStr p preOk) with
   | true=>(dirT h p ++ (t "\n" ++ (dirL kvs r (put p (.str h) tk)).1),(dirL kvs r (put p (.str h) tk)).2)
   | false=>(Str.empty,false,tk)):=by
   show (match lk h kvs with | some v=>_ | none=>_) = _
   rw [e];rfl
  rw [hd] at q z
  have hput:put (t "handle") (.str h) (rkD1 ds c i x k ex ver kvs a g im its ta []) = rkD2 ds c i x k ex ver kvs a g im its ta h []:=by rfl'
  show exeL (tL lr 0) (rkX 58) rkF (put (t "handle") (.str h) (rkD1 ds c i x k ex ver kvs a g im its ta [])) (tbH ta tk) (fun fl loc H=>afterV fl loc H Qs fun loc H=>forL (tL lr 0) (rkX 58) (t "handle") rkF (r.map .str) loc H Qs X) X
  rw [hput]
  refine rk_dturn e (has_mem c1) (has_mem c2) (by (first | lia | omega)) (by (first | lia | omega)) (fun eo=>?_) (fun eo=>?_)
  ·rw [eo] at q z
   have l1:=han_len h (has_mem c1)
   have l2:=pre_len p (has_mem c2)
   have ml:(dirT h p ++ t "\n").length ≤ 50:=by
    unfold dirT
    rw [La,La,La,La,La]
    have:(Str.empty).length = 0:=rfl
    have:(t "%TAG ").length = 5:=rfl
    have:(t " ").length = 1:=rfl
    have:(t "\n").length = 1:=rfl
    (first | lia | omega)
   have hl:=putL_len (x:=p) (v:=.str h) (l:=tk)
   have ea:∀ y,(x ++ (dirT h p ++ t "\n")) ++ y = x ++ (dirT h p ++ (t "\n" ++ y)):=fun y=>by rw [Aa,Aa]
   refine ih (x ++ (dirT h p ++ t "\n")) (put p (.str h) tk) (fun y hy=>hc y (.tail _ hy)) (by rw [La];(first | lia | omega)) (by (first | lia | omega)) (fun e1=>?_) (fun e1=>?_)
   ·rw [ea];exact q e1
   ·rw [ea];exact z e1
  ·rw [eo] at z
   have z:=z rfl
   rw [show x ++ (Str.empty,false,tk).1 = x from Ae x] at z
   exact z
end
noncomputable def itsL (e1:Ev) (e2:Option Ev):List SV:=match e2 with | none=>[itE e1] | some e=>[itE e1,itE e]
noncomputable def endT (c:Bool):Str × Bool:=(seT c ++ t "\n",true)
noncomputable def itsT (e1:Ev) (e2:Option Ev) (c:Bool) (i:Int) (tk:List (Str × SV)):Str × Bool:=itTx e1 c true i tk (match e2 with | none=>endT c | some e=>itTx e c false i tk (endT c))
theorem rkE_eq:∀ c,rkE c = seT c ++ t "\n"
 | true=>by rfl'
 | false=>by rfl'
section
variable {ds:List SV} {c:Bool} {i:Int} {k:Int} {ta:Addr} {tk:List (Str × SV)} {Qs:QS} {X:XC}
theorem rk_items {x:Str} {e1:Ev} {e2:Option Ev} (h1:ndP e1) (h2:∀ e,e2 = some e → ndP e) (hi:2 ≤ i ∧ i ≤ 9) (hk:kOk tk = true) (hx:x.length ≤ 80000)
  (q:(itsT e1 e2 c i tk).2 = true → Qs .next (rk0 ds c i (x ++ (itsT e1 e2 c i tk).1) []) []) (z:(itsT e1 e2 c i tk).2 = false → ∀ loc H,nilH H → Qs (retF (x ++ (itsT e1 e2 c i tk).1)) loc H) :
  exeL (tL lr 0) (rkX 59) ([nthS 11 rkB] ++ [nthS 12 rkB]) (rk0 ds c i x (rk4 k (itsL e1 e2) ta true [])) (tbH ta tk) Qs X:=by
 have lp:=pre_len2 (c:=c) hi true
 have lp2:=pre_len2 (c:=c) hi false
 have l1:=nd_len (c:=c) h1 hk (or c true)
 have le:(rkE c).length ≤ 4:=by cases c with | true=>exact Nat.le_refl _ | false=>exact (show 2 ≤ 4 by decide)
 have hm:(itPre c true i ++ wr (or c true) (ndL e1 c tk).1).length ≤ 611:=by rw [La];(first | lia | omega)
 have fin:∀ (y:Str) (its:List SV) (j:SV),y.length ≤ 90000 → Qs .next (rk0 ds c i (y ++ (seT c ++ t "\n")) []) [] → exeL (tL lr 0) (rkX 59) [nthS 12 rkB] (rk0 ds c i y (rk4 k its ta true [(t "i",j)])) (tbH ta tk) Qs X:=fun y its j hy h=>by
  rw [← rkE_eq] at h
  exact (rk_s12 ds i y k its ta tk true Qs X j c).mpr (bnd_of (Nl (Nat.add_le_add hy le) (by decide)) h)
 refine rk_seq ?_
 cases e2 with
 | none =>
  refine (rk_s11a ds c i x k ta tk true (itE e1) _ X).mpr ⟨by decide,by decide,?_⟩
  have hp:put (t "i") (.int 0) (rk0 ds c i x (rk4 k [itE e1] ta true [])) = rk7 ds c i x k (jI true) [itE e1] ta true []:=by rfl'
  show exeL (tL lr 0) (rkX 58) rkJ (put (t "i") (.int 0) (rk0 ds c i x (rk4 k [itE e1] ta true []))) (tbH ta tk) _ X
  rw [hp]
  refine it_turn h1 hi hk (Nl hx (by decide)) true (fun Qs=>?_) (fun e=>?_) (fun e=>?_)
  ·cases e1 with
   | sq _ _ _=>exact h1.elim
   | al a=>exact rk_t0a ds c i x k ta tk true true a .none true true .none (t "") Qs X
   | sc a g b1 b2 w y=>exact rk_t0a ds c i x k ta tk true false a g b1 b2 y w Qs X
  ·have q:(itTx e1 c true i tk (endT c)).2 = true → Qs .next (rk0 ds c i (x ++ (itTx e1 c true i tk (endT c)).1) []) []:=q
   unfold itTx at q
   rw [pTx_t e] at q
   refine fin _ [itE e1] (.int 0) (by rw [La];(first | lia | omega)) ?_
   rw [Aa]
   exact q rfl
  ·have z:(itTx e1 c true i tk (endT c)).2 = false → ∀ loc H,nilH H → Qs (retF (x ++ (itTx e1 c true i tk (endT c)).1)) loc H:=z
   unfold itTx at z
   rw [pTx_f e] at z
   exact z rfl
 | some e2 =>
  have h2:=h2 e2 rfl
  have l2:=nd_len (c:=c) h2 hk (or c false)
  have hm2:(itPre c false i ++ wr (or c false) (ndL e2 c tk).1).length ≤ 611:=by rw [La];(first | lia | omega)
  refine (rk_s11b ds c i x k ta tk true (itE e1) (itE e2) _ X).mpr ⟨by decide,by decide,?_⟩
  have hp:put (t "i") (.int 0) (rk0 ds c i x (rk4 k [itE e1,itE e2] ta true [])) = rk7 ds c i x k (jI true) [itE e1,itE e2] ta true []:=by rfl'
  show exeL (tL lr 0) (rkX 58) rkJ (put (t "i") (.int 0) (rk0 ds c i x (rk4 k [itE e1,itE e2] ta true []))) (tbH ta tk) _ X
  rw [hp]
  have q:(itTx e1 c true i tk (itTx e2 c false i tk (endT c))).2 = true → Qs .next (rk0 ds c i (x ++ (itTx e1 c true i tk (itTx e2 c false i tk (endT c))).1) []) []:=q
  have z:(itTx e1 c true i tk (itTx e2 c false i tk (endT c))).2 = false → ∀ loc H,nilH H → Qs (retF (x ++ (itTx e1 c true i tk (itTx e2 c false i tk (endT c))).1)) loc H:=z
  unfold itTx at q z
  refine it_turn h1 hi hk (Nl hx (by decide)) true (fun Qs=>?_) (fun e=>?_) (fun e=>?_)
  ·cases e1 with
   | sq _ _ _=>exact h1.elim
   | al a=>exact rk_t0b ds c i x k ta tk true true a .none true true .none (t "") (itE e2) Qs X
   | sc a g b1 b2 w y=>exact rk_t0b ds c i x k ta tk true false a g b1 b2 y w (itE e2) Qs X
  ·rw [pTx_t e] at q z
   generalize hw:x ++ (itPre c true i ++ wr (or c true) (ndL e1 c tk).1) = x2
   have hx2:x2.length ≤ 81000:=by rw [← hw,La];(first | lia | omega)
   dsimp only at q z
   rw [← Aa,hw] at q z
   have hp2:put (t "i") (.int 1) (rk7 ds c i x2 k (jI true) [itE e1,itE e2] ta true []) = rk7 ds c i x2 k (jI false) [itE e1,itE e2] ta true []:=by rfl'
   show exeL (tL lr 0) (rkX 58) rkJ (put (t "i") (.int 1) (rk7 ds c i x2 k (jI true) [itE e1,itE e2] ta true [])) (tbH ta tk) _ X
   rw [hp2]
   refine it_turn h2 hi hk (Nl hx2 (by decide)) false (fun Qs=>?_) (fun e=>?_) (fun e=>?_)
   ·cases e2 with
    | sq _ _ _=>exact h2.elim
    | al a=>exact rk_t0c ds c i x2 k ta tk true true a .none true true .none (t "") (itE e1) Qs X
    | sc a g b1 b2 w y=>exact rk_t0c ds c i x2 k ta tk true false a g b1 b2 y w (itE e1) Qs X
   ·rw [pTx_t e] at q
    refine fin _ [itE e1,itE e2] (.int 1) (by rw [La];(first | lia | omega)) ?_
    rw [Aa]
    exact q rfl
   ·rw [pTx_f e] at z
    exact z rfl
  ·rw [pTx_f e] at z
   exact z rfl
end
noncomputable abbrev Doc.its (D:Doc):List SV:=itsL D.e1 D.e2
noncomputable abbrev Doc.val (D:Doc):SV:=dcV D.ex D.ver D.kvs D.a D.g D.im D.its
theorem dir_len {kvs:List (Str × SV)} (l:List Str):∀ tk,(∀ h ∈ l,dirC kvs h) → (dirL kvs l tk).1.length ≤ 60 * l.length:=by
 induction l with
 | nil=>intro tk _;exact Nat.le_refl _
 | cons h r ih =>
  intro tk hc
  obtain ⟨p,e,c1,c2⟩:=hc h (.head _)
  have hd:dirL kvs (h :: r) tk = (match and (hasStr h hanOk) (hasStr p preOk) with
   | true=>(dirT h p ++ (t "\n" ++ (dirL kvs r (put p (.str h) tk)).1),(dirL kvs r (put p (.str h) tk)).2)
   | false=>(Str.empty,false,tk)):=by
   show (match lk h kvs with | some v=>_ | none=>_) = _
   rw [e];rfl
  rw [hd]
  cases and (hasStr h hanOk) (hasStr p preOk) with
  | false=>exact Nat.zero_le _
  | true =>
   have l1:=han_len h (has_mem c1)
   have l2:=pre_len p (has_mem c2)
   have:=ih (put p (.str h) tk) fun y hy=>hc y (.tail _ hy)
   show (dirT h p ++ (t "\n" ++ (dirL kvs r (put p (.str h) tk)).1)).length ≤ 60 * (r.length + 1)
   unfold dirT
   rw [La,La,La,La,La,La]
   have:(Str.empty).length = 0:=rfl
   have:(t "%TAG ").length = 5:=rfl
   have:(t " ").length = 1:=rfl
   have:(t "\n").length = 1:=rfl
   (first | lia | omega)
theorem ver_len {w:Option Int} (h:verOk w):(verD w).length ≤ 20:=by
 cases w with
 | none=>exact Nat.zero_le _
 | some m=>rcases h m rfl with rfl | rfl | rfl | rfl <;> exact Nb (by rfl')
theorem rkB_list:rkB = [nthS 0 rkB] ++ ([nthS 1 rkB] ++ ([nthS 2 rkB] ++ ([nthS 3 rkB] ++ ([nthS 4 rkB] ++ ([nthS 5 rkB] ++ ([nthS 6 rkB] ++ ([nthS 7 rkB] ++ ([nthS 8 rkB] ++ ([nthS 9 rkB] ++ ([nthS 10 rkB] ++ ([nthS 11 rkB] ++ [nthS 12 rkB]))))))))))):=by rfl'
section
variable {ds:List SV} {c:Bool} {i:Int} {x:Str} {ta:Addr} {tk:List (Str × SV)} {Qs:QS} {X:XC}
noncomputable abbrev rkS (s:List Stmt) (loc:Loc) (H:Hp) (Qs:QS) (X:XC):Prop:=exeL (tL lr 0) (rkX 59) s loc H Qs X
theorem rk_ver {first ex:Bool} {kvs:List (Str × SV)} {a g:SV} {im:Bool} {its:List SV} {w:Option Int} (hw:verOk w) (hx:x.length ≤ 90000) {B:List Stmt} (h:rkS B (rk0 ds c i (x ++ verD w) (rk1 (jI first) ex (verS w) kvs a g im its [])) [] Qs X) :
  rkS ([nthS 1 rkB] ++ B) (rk0 ds c i x (rk1 (jI first) ex (verS w) kvs a g im its [])) [] Qs X:=by
 refine rk_seq ?_
 cases w with
 | none =>
  rw [show x ++ verD none = x from Ae x] at h
  exact (rk_s1n ds c i x (jI first) ex kvs a g im its _ X).mpr h
 | some m =>
  have l:=ver_len hw
  rw [show verD (some m) = yaT m from (yaT_eq m).symm] at h l
  have l2:(t "%YAML 1." ++ Str.ofString (toString m)).length + 1 ≤ 20:=by
   unfold yaT at l
   rw [La] at l
   exact l
  have l3:(t "%YAML 1.").length + (Str.ofString (toString m)).length ≤ 20:=by rw [← La];(first | lia | omega)
  refine (rk_s1v ds c i x (jI first) ex kvs a g im its _ X m).mpr (iff_of ?_ (bnd_of (Nl l3 (by decide)) (bnd_of (Nl l2 (by decide)) (bnd_of (Nl (Nat.add_le_add hx l) (by decide)) h))))
  rcases hw m rfl with rfl | rfl | rfl | rfl <;> kernel_rfl
theorem rk_mark {first:Bool} {ex:Bool} {kvs:List (Str × SV)} {a g:SV} {im:Bool} {its:List SV} {w:Option Int} (hk:kvs.length ≤ 2)
  (h:Qs .next (rk0 ds c i x (rk1 (jI first) ex (verS w) kvs a g im its (rk2 ta (mkB first ex c (!(isSome? w)) (nil? kvs)) []))) (tbH ta tk)):rkO 59 (nthS 4 rkB) (rk0 ds c i x (rk1 (jI first) ex (verS w) kvs a g im its [(t "table",tbV ta)])) (tbH ta tk) Qs X:=by
 cases ex with
 | true =>
  rw [show mkB first true c (!(isSome? w)) (nil? kvs) = true from by cases first <;> rfl] at h
  exact (rk_s4a ds c i x (jI first) (verS w) kvs a g im its ta tk Qs X).mpr h
 | false=>cases first with
  | false=>exact (rk_s4b ds c i x (verS w) kvs a g im its ta tk Qs X).mpr h
  | true=>cases c with
   | true=>exact (rk_s4c ds i x (verS w) kvs a g im its ta tk Qs X).mpr h
   | false=>cases w with
    | some m=>exact (rk_s4d ds i x kvs a g im its ta tk Qs X m).mpr h
    | none =>
     refine (rk_s4e ds i x kvs a g im its ta tk Qs X).mpr (bnd_of (Nl hk (by decide)) ?_)
     have e:decide ((0:Int) < ((lenL kvs:Nat):Int)) = mkB true false false (!(isSome? (none:Option Int))) (nil? kvs):=by
      cases kvs with
      | nil=>rfl
      | cons p r=>exact decide_eq_true (by show (0:Int) < ((Nat.succ (lenL r):Nat):Int);(first | lia | omega))
     rw [e]
     exact h
theorem rk_head {first:Bool} {ex:Bool} {kvs:List (Str × SV)} {a g:SV} {im:Bool} {its:List SV} {ver:SV} {mk:Bool} (hx:x.length ≤ 90000) {B:List Stmt} (h:rkS B (rk5 ds c i (x ++ dsHd mk c) (jI first) ex ver kvs a im its ta mk (and mk (!c)) g []) (tbH ta tk) Qs X) :
  rkS ([nthS 5 rkB] ++ ([nthS 6 rkB] ++ B)) (rk0 ds c i x (rk1 (jI first) ex ver kvs a g im its (rk2 ta mk []))) (tbH ta tk) Qs X:=by
 have h6:rkS ([nthS 6 rkB] ++ B) (rk0 ds c i (x ++ dsHd mk c) (rk1 (jI first) ex ver kvs a g im its (rk2 ta mk []))) (tbH ta tk) Qs X:=rk_seq ((rk_s6 ds i (x ++ dsHd mk c) (jI first) ex ver kvs a g im its ta tk _ X mk c).mpr h)
 refine rk_seq ?_
 cases mk with
 | false =>
  rw [show x ++ dsHd false c = x from Ae x] at h6
  exact (rk_s5f ds c i x (jI first) ex ver kvs a g im its ta tk _ X).mpr h6
 | true =>
  have l:(dsHd true c).length ≤ 4:=by cases c with | true=>exact Nb (by rfl') | false=>exact Nb (by rfl')
  exact (rk_s5t ds i x (jI first) ex ver kvs a g im its ta tk _ X c).mpr (bnd_of (Nl (Nat.add_le_add hx l) (by decide)) h6)
theorem rk_words {first:Bool} {ex:Bool} {kvs:List (Str × SV)} {a g:SV} {im:Bool} {its:List SV} {ver:SV} {mk bl:Bool} (ha:anP a) (hg:gP g) (hk:kOk tk = true) (hx:x.length ≤ 90000) {B:List Stmt}
  (h1:(ssL a g im c tk).2 = true → rkS B (rk0 ds c i (x ++ wr (!bl) (ssL a g im c tk).1) (rk4 (jI first) its ta true [])) (tbH ta tk) Qs X)
  (h0:(ssL a g im c tk).2 = false → ∀ loc H,nilH H → Qs (retF (x ++ wr (!bl) (ssL a g im c tk).1)) loc H) :
  rkS ([nthS 7 rkB] ++ ([nthS 8 rkB] ++ ([nthS 9 rkB] ++ ([nthS 10 rkB] ++ B)))) (rk5 ds c i x (jI first) ex ver kvs a im its ta mk bl g []) (tbH ta tk) Qs X:=by
 have hn:ssL a g im c tk = ((ppW a g (shB im c g) tk).1 ++ (match (ppW a g (shB im c g) tk).2 with | true=>[t "["] | false=>[]),(ppW a g (shB im c g) tk).2):=by
  unfold ssL ppW
  cases ancB a with
  | false=>rfl
  | true =>
   dsimp only
   cases ptB (shB im c g) false g with
   | false=>exact Prod.ext (List.append_nil _).symm rfl
   | true=>exact Prod.ext (List.append_assoc ..).symm rfl
 have hpw:=pp_wok (sh:=shB im c g) ha hg hk
 rw [hn] at h1 h0
 have u7:∀ {Qs:QS},ppSm [a,g,.bool (shB im c g),tbV ta] (tbH ta tk) (rkU (nthS 7 rkB) (rk5 ds c i x (jI first) ex ver kvs a im its ta mk bl g []) Qs X) X → rkO 59 (nthS 7 rkB) (rk5 ds c i x (jI first) ex ver kvs a im its ta mk bl g []) (tbH ta tk) Qs X:=fun {Qs} h=>by
  rcases hg with rfl | ⟨z,rfl,_⟩
  ·exact (rk_s7n ds i x (jI first) ex ver kvs a its ta tk mk bl Qs X im c).mpr h
  ·exact (rk_s7s ds i x (jI first) ex ver kvs a its ta tk mk bl Qs X z im c).mpr h
 refine rk_seq (u7 ⟨a,g,shB im c g,ta,tk,rfl,rfl,⟨ha,hg,hk⟩,fun aw=>?_⟩)
 refine (rk_u7 ds c i x (jI first) ex ver kvs a im its ta aw tk _ mk bl _ _ X g).mpr ?_
 generalize ppW a g (shB im c g) tk = P at *
 obtain ⟨L,ok⟩:=P
 have s9:∀ (M:List Str) (f:Bool),WOk 4 M → rkS ([nthS 10 rkB] ++ B) (rk0 ds c i (x ++ wr (!bl) M) (rk4 (jI first) its ta f [])) (tbH ta tk) Qs X → rkS ([nthS 9 rkB] ++ ([nthS 10 rkB] ++ B)) (rk5 ds c i x (jI first) ex ver kvs a im its ta mk bl g [(t "words",wdV aw),(t "fine",.bool f)]) (rkH aw (M.map .str) ta tk) Qs X:=fun M f hM h =>
  rk_seq ((rk_s9 ds c i x (jI first) ex ver kvs a im its ta aw tk _ mk f _ X g bl).mpr (rkQ_of hM (Nl hx (by decide)) h))
 cases ok with
 | false =>
  have h0:∀ loc H,nilH H → Qs (retF (x ++ wr (!bl) (L ++ []))) loc H:=h0 rfl
  rw [List.append_nil] at h0
  refine rk_seq ((rk_s8f ds c i x (jI first) ex ver kvs a im its ta aw tk _ mk bl _ X g).mpr (s9 L false (hpw.up (by decide)) (rk_seq ((rk_s10 ds c i _ (jI first) its ta tk _ X false).mpr (h0 _ _ nil_tb)))))
 | true =>
  have h1:rkS B (rk0 ds c i (x ++ wr (!bl) (L ++ [t "["])) (rk4 (jI first) its ta true [])) (tbH ta tk) Qs X:=h1 rfl
  refine rk_seq ((rk_s8t ds c i x (jI first) ex ver kvs a im its ta aw tk _ mk bl _ X g).mpr ⟨rfl,rfl,bnd_of (by rw [List.length_map];exact Nl hpw.1 (by decide)) ?_⟩)
  have em:L.map SV.str ++ [.str (t "[")] = (L ++ [t "["]).map .str:=by rw [List.map_append];rfl
  rw [em]
  exact s9 (L ++ [t "["]) true ((hpw.app (m:=1) ⟨Nat.le_refl _,fun v hv=>by rw [Ms hv];decide⟩).up (by decide)) (rk_seq ((rk_s10 ds c i _ (jI first) its ta tk _ X true).mpr h1))
end
section
variable {ds:List SV} {c:Bool} {i:Int} {x:Str} {Qs:QS} {X:XC}
theorem rk_doc {D:Doc} (hD:D.Ok) (hi:2 ≤ i ∧ i ≤ 9) (hx:x.length ≤ 40000) (first:Bool)
  (t0:∀ Qs,rkO 59 (nthS 0 rkB) (rk0 ds c i x [(t "d",.int (jI first))]) [] Qs X = Qs .next (rk0 ds c i x (rk1 (jI first) D.ex D.ver D.kvs D.a D.g D.im D.its [])) [])
  (h1:(docT first c i D).2 = true → Qs .next (rk0 ds c i (x ++ (docT first c i D).1) []) []) (h0:(docT first c i D).2 = false → ∀ loc H,nilH H → Qs (retF (x ++ (docT first c i D).1)) loc H):rkS rkB (rk0 ds c i x [(t "d",.int (jI first))]) [] Qs X:=by
 rw [rkB_list]
 refine rk_seq ((t0 _).mpr ?_)
 show rkS ([nthS 1 rkB] ++ _) (rk0 ds c i x (rk1 (jI first) D.ex D.ver D.kvs D.a D.g D.im D.its [])) [] Qs X
 cases hb:D.bad with
 | true =>
  have e:docT first c i D = (Str.empty,false):=by unfold docT;rw [hb]
  have ev:D.ver = .tup [.int 2,.int 0]:=by unfold Doc.ver;rw [hb]
  rw [e] at h0
  have h0:=h0 rfl
  rw [show x ++ (Str.empty,false).1 = x from Ae _] at h0
  rw [ev]
  exact rk_seq ((rk_s1x ds c i x (jI first) D.ex D.kvs D.a D.g D.im D.its _ X).mpr (h0 _ _ rfl))
 | false =>
  have e:docT first c i D = pTx (dsTx D.w D.kvs) (dirL D.kvs (skL D.kvs) tpK).2.1 (docB first c i D):=by unfold docT;rw [hb]
  have ev:D.ver = verS D.w:=by unfold Doc.ver;rw [hb]
  rw [e] at h1 h0
  rw [ev]
  have lv:=ver_len hD.ver
  have ld:=dir_len (kvs:=D.kvs) (skL D.kvs) tpK hD.kv.2.1
  have lk2:=hD.kv.2.2
  refine rk_ver hD.ver (Nl hx (by decide)) ?_
  refine rk_seq ((rk_s2 ds c i (x ++ verD D.w) (jI first) D.ex (verS D.w) D.kvs D.a D.g D.im D.its _ X).mpr fun ta=>?_)
  refine rk_seq ((rk_s3 ds c i (x ++ verD D.w) (jI first) D.ex (verS D.w) D.kvs D.a D.g D.im D.its ta tpK _ X).mpr (iff_of (Nat.ble_eq_true_of_le (Nl hD.kv.1 (by decide))) ?_))
  refine rk_dirs (skL D.kvs) (x ++ verD D.w) tpK hD.kv.2.1 (by rw [La];(first | lia | omega)) (Nl (Nd lk2 _) (by decide)) (fun ed=>?_) (fun ed=>?_)
  ·rw [pTx_t ed] at h1 h0
   show exeL (tL lr 0) (rkX 59) _ (keepL (rkD1 ds c i ((x ++ verD D.w) ++ (dirL D.kvs (skL D.kvs) tpK).1) (jI first) D.ex (verS D.w) D.kvs D.a D.g D.im D.its ta []) rkD) (tbH ta (dsTk D.kvs)) Qs X
   rw [rk_keep,Aa]
   have hx1:(x ++ dsTx D.w D.kvs).length ≤ 41000:=by
    rw [La]
    show x.length + (verD D.w ++ (dirL D.kvs (skL D.kvs) tpK).1).length ≤ 41000
    rw [La]
    (first | lia | omega)
   show rkS _ (rkD1 ds c i (x ++ dsTx D.w D.kvs) (jI first) D.ex (verS D.w) D.kvs D.a D.g D.im D.its ta []) (tbH ta (dsTk D.kvs)) Qs X
   have h1:(docB first c i D).2 = true → Qs .next (rk0 ds c i (x ++ (dsTx D.w D.kvs ++ (docB first c i D).1)) []) []:=h1
   have h0:(docB first c i D).2 = false → ∀ loc H,nilH H → Qs (retF (x ++ (dsTx D.w D.kvs ++ (docB first c i D).1))) loc H:=h0
   rw [← Aa] at h1 h0
   generalize x ++ dsTx D.w D.kvs = x1 at *
   refine rk_seq (rk_mark hD.kv.1 ?_)
   have hb:docB first c i D = pTx (dsHd (dsMk first c D) c ++ wr (or c (!(dsMk first c D))) (ssL D.a D.g D.im c (dsTk D.kvs)).1) (ssL D.a D.g D.im c (dsTk D.kvs)).2 (itsT D.e1 D.e2 c i (dsTk D.kvs)):=rfl
   rw [hb] at h1 h0
   show rkS _ (rk0 ds c i x1 (rk1 (jI first) D.ex (verS D.w) D.kvs D.a D.g D.im D.its (rk2 ta (dsMk first c D) []))) (tbH ta (dsTk D.kvs)) Qs X
   generalize dsMk first c D = mk at *
   have lh:(dsHd mk c).length ≤ 4:=by cases mk <;> cases c <;> exact Nb (by rfl')
   refine rk_head (Nl hx1 (by decide)) ?_
   have eb:or c (!mk) = !(and mk (!c)):=by cases mk <;> cases c <;> rfl
   rw [eb] at h1 h0
   have lw:(wr (!(and mk (!c))) (ssL D.a D.g D.im c (dsTk D.kvs)).1).length ≤ 600:=by
    have w1:=anc_wok (i:=t "&") hD.a (by decide)
    have key:WOk 4 (ssL D.a D.g D.im c (dsTk D.kvs)).1:=by
     unfold ssL
     cases ancB D.a with
     | false=>exact wok_nil _
     | true =>
      dsimp only
      cases ptB (shB D.im c D.g) false D.g with
      | false=>exact w1.up (by decide)
      | true=>exact (w1.app ((ptL_wok hD.g hD.tk).app (m:=1) ⟨Nat.le_refl _,fun v hv=>by rw [Ms hv];decide⟩)).up (by decide)
    have:=wr_len key.2 (!(and mk (!c)))
    have:=key.1
    (first | lia | omega)
   refine rk_words hD.a hD.g hD.tk (by rw [La];(first | lia | omega)) (fun es=>?_) (fun es=>?_)
   ·rw [pTx_t es] at h1 h0
    rw [Aa]
    have h1:(itsT D.e1 D.e2 c i (dsTk D.kvs)).2 = true → Qs .next (rk0 ds c i (x1 ++ ((dsHd mk c ++ wr (!(and mk (!c))) (ssL D.a D.g D.im c (dsTk D.kvs)).1) ++ (itsT D.e1 D.e2 c i (dsTk D.kvs)).1)) []) []:=h1
    have h0:(itsT D.e1 D.e2 c i (dsTk D.kvs)).2 = false → ∀ loc H,nilH H → Qs (retF (x1 ++ ((dsHd mk c ++ wr (!(and mk (!c))) (ssL D.a D.g D.im c (dsTk D.kvs)).1) ++ (itsT D.e1 D.e2 c i (dsTk D.kvs)).1))) loc H:=h0
    rw [← Aa x1] at h1 h0
    exact rk_items hD.e1 hD.e2 hi hD.tk (by rw [La,La];(first | lia | omega)) h1 h0
   ·rw [pTx_f es] at h0
    rw [Aa]
    exact h0 rfl
  ·rw [pTx_f ed] at h0
   intro loc H hH
   rw [Aa]
   exact h0 rfl loc H hH
end
noncomputable abbrev rkZ (Q:QV) (X:XC):QS:=aft1 (tL lr 0) (rkX 60) (nthS 1 e_47.bd) (e_47.bd.drop 2) (endQ fun v H=>Q v (delL [1059008,1085016] H)) X
section
variable (ds:List SV) (v1 v2:SV) (c:Bool) (i:Int) (x:Str) (Q:QV) (X:XC)
theorem rk_eS:eS lr 0 e_47 [.lst [v1,v2],.bool c,.int i] [] Q X = ((2:Int) ≤ 1000000 ∧ (-1000000:Int) ≤ 2 ∧ forL (tL lr 0) (rkX 59) (t "d") rkB [.int 0,.int 1] (rk0 [v1,v2] c i (t "") []) [] (rkZ Q X) X):=by rfl'
theorem rk_fin:rkZ Q X .next (rk0 ds c i x []) [] = Q (.tup [.str x,.bool true]) []:=by rfl'
theorem rk_ret (v:SV) (loc:Loc) (H:Hp):rkZ Q X (.ret v) loc H = Q v (delL [1059008,1085016] H):=by rfl'
end
theorem rk_all {D1 D2:Doc} (h1:D1.Ok) (h2:D2.Ok) {c:Bool} {i:Int} (hi:2 ≤ i ∧ i ≤ 9) {Q:QV} {X:XC} (hl:(docT true c i D1).1.length ≤ 30000) (q:Q (.tup [.str (allT c i D1 D2).1,.bool (allT c i D1 D2).2]) []):eS lr 0 e_47 [.lst [D1.val,D2.val],.bool c,.int i] [] Q X:=by
 refine (rk_eS D1.val D2.val c i Q X).mpr ⟨by decide,by decide,?_⟩
 have hp:put (t "d") (.int 0) (rk0 [D1.val,D2.val] c i (t "") []) = rk0 [D1.val,D2.val] c i (t "") [(t "d",.int (jI true))]:=by rfl'
 show exeL (tL lr 0) (rkX 59) rkB (put (t "d") (.int 0) (rk0 [D1.val,D2.val] c i (t "") [])) [] _ X
 rw [hp]
 have no:∀ (x:Str) (loc:Loc) (H:Hp),nilH H → Q (.tup [.str x,.bool false]) [] → rkZ Q X (retF x) loc H:=fun x loc H hH k=>by
  rw [rk_ret,show delL [1059008,1085016] H = [] from hH]
  exact k
 refine rk_doc h1 hi (Nat.zero_le _) true (fun Qs=>rk_s0a c i (t "") D1.ex D1.ver D1.kvs D1.a D1.g D1.im D1.its D2.val Qs X) (fun e=>?_) (fun e loc H hH=>?_)
 ·unfold allT at q
  rw [pTx_t e] at q
  have hp2:put (t "d") (.int 1) (rk0 [D1.val,D2.val] c i (t "" ++ (docT true c i D1).1) []) = rk0 [D1.val,D2.val] c i (t "" ++ (docT true c i D1).1) [(t "d",.int (jI false))]:=by rfl'
  show exeL (tL lr 0) (rkX 59) rkB (put (t "d") (.int 1) (rk0 [D1.val,D2.val] c i (t "" ++ (docT true c i D1).1) [])) [] _ X
  rw [hp2,show t "" ++ (docT true c i D1).1 = (docT true c i D1).1 from Str.empty_append _]
  refine rk_doc h2 hi (Nl hl (by decide)) false (fun Qs=>rk_s0b c i _ D2.ex D2.ver D2.kvs D2.a D2.g D2.im D2.its D1.val Qs X) (fun e2=>?_) (fun e2 loc H hH=>?_)
  ·have q:Q (.tup [.str ((docT true c i D1).1 ++ (docT false c i D2).1),.bool (docT false c i D2).2]) []:=q
   rw [e2] at q
   exact (rk_fin [D1.val,D2.val] c i _ Q X).mpr q
  ·have q:Q (.tup [.str ((docT true c i D1).1 ++ (docT false c i D2).1),.bool (docT false c i D2).2]) []:=q
   rw [e2] at q
   exact no _ loc H hH q
 ·unfold allT at q
  rw [pTx_f e] at q
  rw [show t "" ++ (docT true c i D1).1 = (docT true c i D1).1 from Str.empty_append _]
  exact no _ loc H hH q
theorem nthL_mem {α:Type}:∀ (n:Nat) (l:List α),n < l.length → ∃ v ∈ l,nthL n l = some v:=fun n l=>by
 induction l generalizing n with
 | nil=>exact fun h=>absurd h (Nat.not_lt_zero _)
 | cons x r ih =>
  cases n with
  | zero=>exact fun _=>⟨x,.head _,rfl⟩
  | succ n=>exact fun h=>let ⟨v,h1,h2⟩:=ih n (Nat.lt_of_succ_lt_succ h);⟨v,.tail _ h1,h2⟩
theorem seq_any {α:Type} {l:List α} {j:Int} (h0:0 ≤ j) (h1:j < l.length) {k:α → Prop} (h:∀ v ∈ l,k v):opt (seqG l j) k:=by
 cases j with
 | negSucc n=>exact absurd h0 (by (first | lia | omega))
 | ofNat n =>
  obtain ⟨v,hv,e⟩:=nthL_mem n l (by have h1:((n:Nat):Int) < l.length:=h1;(first | lia | omega))
  exact opt_of (show seqG l (.ofNat n) = some v from e) (h v hv)
theorem mod_any {l:List SV} {m n:Int} (hm:0 < m) (hl:m = l.length) {k:SV → Prop} (h:∀ v ∈ l,k v):opt (seqG l (n.fmod m)) k:=seq_any (Int.fmod_nonneg_of_pos _ hm) (hl ▸ Int.fmod_lt_of_pos _ hm) h
noncomputable def numP (n:Int):Prop:=0 ≤ n ∧ n < 9660
noncomputable def tapeP (tp:List SV):Prop:=tp.length ≤ 20 ∧ ∀ v ∈ tp,∃ n,v = .int n ∧ numP n
noncomputable abbrev tpV (a:Addr):SV:=.obj 1105004 (some a)
theorem nx_eq (a:Addr) (H:Hp) (Q:QV) (X:XC):eS [] 0 e_46 [tpV a] H Q X = look (tpV a) H fun w=>truW w fun c=>brn c (look (tpV a) H fun w=>resW (tL [] 0) (tpV a) (t "pop") w fun k=>iff_ (calOK (tL [] 0) k) (calV (tL [] 0) k [.int 0] [] 0 H Q X)) (Q (.int 0) H):=by rfl'
theorem setH_self {l:Nat} {a:Option Addr} {o:MO}:∀ {H:Hp},fnd l H = some (a,o) → setH l o H = H:=by
 intro H
 induction H with
 | nil=>exact fun e=>nomatch e
 | cons p H ih =>
  intro e
  have e:(match Nat.beq l p.1 with | true=>some p.2 | false=>fnd l H) = some (a,o):=e
  show (match Nat.beq l p.1 with | true=>(p.1,p.2.1,o) :: H | false=>p :: setH l o H) = p :: H
  cases q:Nat.beq l p.1 with
  | true =>
   rw [q] at e
   obtain ⟨k,b,u⟩:=p
   cases e
   rfl
  | false =>
   rw [q] at e
   exact congrArg (p :: ·) (ih e)
noncomputable def nxS:Sm:=fun xs H Q _=>∃ a tp,xs = [tpV a] ∧ fnd 1105004 H = some (some a,.list tp) ∧ tapeP tp ∧ ∀ n tp',numP n → tapeP tp' → Q (.int n) (setH 1105004 (.list tp') H)
theorem nx_weak:allN 1 fun vs=>allN 0 fun ws=>∀ H Q X,nxS (vs ++ ws) H Q X → eS [] 0 e_46 (vs ++ ws) H Q X:=fun v H Q X h=>by
 obtain ⟨a,tp,e1,e2,⟨h1,h2⟩,h⟩:=h
 cases e1
 refine (nx_eq a H Q X).mpr (opt_of e2 ⟨rfl,?_⟩)
 cases tp with
 | nil =>
  show Q (.int 0) H
  have k:=h 0 [] ⟨by decide,by decide⟩ ⟨by decide,fun v hv=>nomatch hv⟩
  rw [setH_self e2] at k
  exact k
 | cons v r =>
  obtain ⟨n,rfl,hn⟩:=h2 v (.head _)
  refine bnd_of (Nl h1 (by decide)) (opt_of e2 ⟨rfl,?_⟩)
  show own (tpV a) H fun l o=>pop0M o fun o' y=>Q y (setH l o' H)
  exact opt_of e2 ⟨rfl,bnd_of (Nl h1 (by decide)) (h n r hn ⟨Nat.le_of_succ_le h1,fun v hv=>h2 v (.tail _ hv)⟩)⟩
noncomputable abbrev drX (n:Nat):WS:=(wp (tL [] 1) e_53.sc n).S
noncomputable abbrev drO (k:Nat) (loc:Loc) (H:Hp) (Qs:QS) (X:XC):Prop:=exeL (tL [] 1) (drX 60) [nthS k e_53.bd] loc H Qs X
noncomputable def wrL:List Str:=sl ["","e!","!e","!c c!","!é!","e","!e!f!"]
noncomputable def haL:List Str:=sl ["!e!","!f-_9!","!a!","!Z!","!","!!","!e!","!0!","!b!"]
noncomputable def prL:List Str:=sl ["tag:e.org,2026:","!","tag:yaml.org,2002:","tag:e.org,2026:x/","!lo-"]
section
variable (n:Int) (h p:Str) (H:Hp) (Q:QV) (Qs:QS) (X:XC)
theorem dr_0:drO 0 [(t "n",.int n)] H Qs X = brn (n.fmod 11 == 10) (opt (seqG (wrL.map .str) (n.fmod 7)) fun v=>Qs .next [(t "n",.int n),(t "handle",v)] H) (opt (seqG (haL.map .str) (n.fmod 9)) fun v=>Qs .next [(t "n",.int n),(t "handle",v)] H):=by rfl'
theorem dr_1:drO 1 [(t "n",.int n),(t "handle",.str h)] H Qs X = brn (n.fmod 13 == 12) (Qs .next [(t "n",.int n),(t "handle",.str h),(t "prefix",.str (t ""))] H) (opt (seqG (prL.map .str) (n.fmod 5)) fun v=>Qs .next [(t "n",.int n),(t "handle",.str h),(t "prefix",v)] H):=by rfl'
theorem dr_2:drO 2 [(t "n",.int n),(t "handle",.str h),(t "prefix",.str p)] H Qs X = brn (sbeq h (t "!")) (Qs .next [(t "n",.int n),(t "handle",.str h),(t "prefix",.str (t "!"))] H) (Qs .next [(t "n",.int n),(t "handle",.str h),(t "prefix",.str p)] H):=by rfl'
theorem dr_3:drO 3 [(t "n",.int n),(t "handle",.str h),(t "prefix",.str p)] H Qs X = brn (sbeq h (t "!!")) (Qs .next [(t "n",.int n),(t "handle",.str h),(t "prefix",.str (t "tag:yaml.org,2002:"))] H) (Qs .next [(t "n",.int n),(t "handle",.str h),(t "prefix",.str p)] H):=by rfl'
theorem dr_4:drO 4 [(t "n",.int n),(t "handle",.str h),(t "prefix",.str p)] H Qs X = Qs (.ret (.tup [.str h,.str p])) [(t "n",.int n),(t "handle",.str h),(t "prefix",.str p)] H:=by rfl'
theorem dr_list:e_53.bd = [nthS 0 e_53.bd] ++ ([nthS 1 e_53.bd] ++ ([nthS 2 e_53.bd] ++ ([nthS 3 e_53.bd] ++ [nthS 4 e_53.bd]))):=by rfl'
theorem dr_eS:eS [] 1 e_53 [.int n] H Q X = exeL (tL [] 1) (drX 60) e_53.bd [(t "n",.int n)] H (endQ Q) X:=by rfl'
end
theorem wr_in:(wrL.map fun h=>hasStr h hanL) = wrL.map fun _=>true:=by rfl'
theorem ha_in:(haL.map fun h=>hasStr h hanL) = haL.map fun _=>true:=by rfl'
theorem pr_in:(prL.map fun h=>hasStr h preL) = prL.map fun _=>true:=by rfl'
noncomputable def drS:Sm:=fun xs H Q _=>∃ n,xs = [.int n] ∧ ∀ h p,hasStr h hanL = true → hasStr p preL = true → Q (.tup [.str h,.str p]) H
theorem dr_weak:allN 1 fun vs=>allN 0 fun ws=>∀ H Q X,drS (vs ++ ws) H Q X → eS [] 1 e_53 (vs ++ ws) H Q X:=fun v H Q X hh=>by
 obtain ⟨n,e1,k⟩:=hh
 cases e1
 have s2:∀ h p,hasStr h hanL = true → hasStr p preL = true → exeL (tL [] 1) (drX 60) ([nthS 2 e_53.bd] ++ ([nthS 3 e_53.bd] ++ [nthS 4 e_53.bd])) [(t "n",.int n),(t "handle",.str h),(t "prefix",.str p)] H (endQ Q) X:=fun h p c1 c2=>by
  have s3:∀ p,hasStr p preL = true → exeL (tL [] 1) (drX 60) ([nthS 3 e_53.bd] ++ [nthS 4 e_53.bd]) [(t "n",.int n),(t "handle",.str h),(t "prefix",.str p)] H (endQ Q) X:=fun p c2=>by
   have s4:∀ p,hasStr p preL = true → exeL (tL [] 1) (drX 60) [nthS 4 e_53.bd] [(t "n",.int n),(t "handle",.str h),(t "prefix",.str p)] H (endQ Q) X:=fun p c2=>(dr_4 n h p H _ X).mpr (k h p c1 c2)
   exact rk_seq ((dr_3 n h p H _ X).mpr (brn_of (fun _=>s4 _ (by rfl')) fun _=>s4 p c2))
  exact rk_seq ((dr_2 n h p H _ X).mpr (brn_of (fun _=>s3 _ (by rfl')) fun _=>s3 p c2))
 have s1:∀ h,hasStr h hanL = true → exeL (tL [] 1) (drX 60) ([nthS 1 e_53.bd] ++ ([nthS 2 e_53.bd] ++ ([nthS 3 e_53.bd] ++ [nthS 4 e_53.bd]))) [(t "n",.int n),(t "handle",.str h)] H (endQ Q) X:=fun h c1 =>
  rk_seq ((dr_1 n h H _ X).mpr (brn_of (fun _=>s2 h _ c1 (by rfl')) fun _=>mod_any (by decide) rfl fun v hv=>by
   obtain ⟨p,hp,rfl⟩:=List.mem_map.mp hv
   exact s2 h p c1 (List.map_inj_left.mp pr_in p hp)))
 refine (dr_eS n H Q X).mpr ?_
 rw [dr_list]
 refine rk_seq ((dr_0 n H _ X).mpr (brn_of (fun _=>mod_any (by decide) rfl fun v hv=>?_) fun _=>mod_any (by decide) rfl fun v hv=>?_))
 ·obtain ⟨h,hh,rfl⟩:=List.mem_map.mp hv
  exact s1 h (List.map_inj_left.mp wr_in h hh)
 ·obtain ⟨h,hh,rfl⟩:=List.mem_map.mp hv
  exact s1 h (List.map_inj_left.mp ha_in h hh)
noncomputable def dgT (n:Int):Tab:={ tL [] 1 with cells:=[(t "n",.int n)],comp:=noC }
noncomputable def dgE:Expr:=nthX 0 (callA (nthX 0 (callA (retO (nthS 3 dgB)))))
noncomputable def hdL:List Str:=sl ["tag:e.org,2026:","tag:yaml.org,2002:","!","tag:e.org,2026:x/","!lo-","x","tag:e.org"]
section
variable (n i:Int) (H:Hp) (Q:QV) (X:XC)
theorem dg_eq:inlC (tL [] 1) dgC dgB (t "n") [.int n] H Q X = brn (n.fmod 12 == 11) (Q .none H) (brn (n.fmod 12 == 10) (Q (.str (t "")) H) (brn (n.fmod 12 == 9) (Q (.str (t "!")) H) (opt (seqG (hdL.map .str) (n.fmod 7)) fun v=>(4 - n.fmod 5 ≤ 1000000 ∧ -1000000 ≤ 4 - n.fmod 5 ∧
 cElt (dgT n) dgC (lcS dgE) (t "i") (lcE dgE) (fun u H=>look u H fun w=>joinW (t "") w fun r=>binV (celT (tL [] 1) (t "n") (.int n)) .Add v (.str r) H Q) (rngL 0 1 (4 - n.fmod 5).toNat) H)))):=by rfl'
theorem dg_cev (k:SV → Prop):cev (dgT n) (cNm (dgT n) dgC (lcS dgE) (t "i") (.int i)) 9 (lcE dgE) k = (IntMulOk 5 i ∧ opt (seqG sgL ((n + 5 * i).fmod 23)) k):=by rfl'
end
noncomputable def dgN:List Nat:=[97,33,32,233,90,37,8364,47,91,123,128512,39,44,60,48,35,126,92,10,133,94,42,34]
theorem sgL_is:sgL = dgN.map sgS:=by rfl'
theorem dgN_in:(dgN.map fun c=>memN c sgnL) = dgN.map fun _=>true:=by rfl'
noncomputable def dgG (n:Int):SV → SV | .int i=>(match seqG sgL ((n + 5 * i).fmod 23) with | some v=>v | none=>.none) | _=>.none
theorem dg_one (n i:Int):∃ c ∈ dgN,seqG sgL ((n + 5 * i).fmod 23) = some (sgS c) ∧ dgG n (.int i) = sgS c:=by
 have k:opt (seqG sgL ((n + 5 * i).fmod 23)) fun v=>∃ c ∈ dgN,v = sgS c:=mod_any (by decide) rfl fun v hv=>by
  rw [sgL_is] at hv
  obtain ⟨c,hc,rfl⟩:=List.mem_map.mp hv
  exact ⟨c,hc,rfl⟩
 obtain ⟨v,e,c,hc,rfl⟩:=of_opt k
 refine ⟨c,hc,e,?_⟩
 show (match seqG sgL ((n + 5 * i).fmod 23) with | some v=>v | none=>.none) = sgS c
 rw [e]
theorem dg_map (n c:Int) (m:Nat):∀ a,∃ cs:List Nat,(rngL a c m).map (dgG n) = cs.map sgS ∧ cs.length = m ∧ ∀ x ∈ cs,x ∈ dgN:=by
 induction m with
 | zero=>intro a;exact ⟨[],rfl,rfl,fun _ h=>nomatch h⟩
 | succ m ih =>
  intro a
  obtain ⟨cs,e,l,h⟩:=ih (a + c)
  obtain ⟨x,hx,_,e2⟩:=dg_one n a
  refine ⟨x :: cs,?_,congrArg Nat.succ l,fun y hy=>?_⟩
  ·show dgG n (.int a) :: (rngL (a + c) c m).map (dgG n) = sgS x :: cs.map sgS
   rw [e,e2]
  ·rcases Mc hy with rfl | hy
   ·exact hx
   ·exact h y hy
theorem rng_ints (c:Int) (m:Nat):∀ a,∀ v ∈ rngL a c m,∃ i,v = .int i:=by
 induction m with
 | zero=>intro a v hv;cases hv
 | succ m ih =>
  intro a v hv
  rcases Mc hv with rfl | hv
  ·exact ⟨a,rfl⟩
  ·exact ih _ v hv
theorem glue_one (r:List Nat):∀ x:Str,(⟨(r.map fun c=>(⟨#[c]⟩:Str)).foldl (fun acc p=>acc ++ (t "").cps ++ p.cps) x.cps⟩:Str) = x ++ ⟨⟨r⟩⟩:=by
 induction r with
 | nil=>intro x;exact (Ae x).symm
 | cons c r ih =>
  intro x
  have k:=ih ((x ++ t "") ++ ⟨#[c]⟩)
  show (⟨(r.map fun c=>(⟨#[c]⟩:Str)).foldl (fun acc p=>acc ++ (t "").cps ++ p.cps) ((x ++ t "") ++ ⟨#[c]⟩).cps⟩:Str) = _
  rw [k,t_empty,Ae,Aa]
  refine congrArg (x ++ ·) (sext ?_)
  show ((#[c]:Array Nat) ++ (⟨r⟩:Array Nat)).toList = c :: r
  rw [Array.toList_append];rfl
theorem join_one (r:List Nat):Txt.join (t "") (r.map fun c=>⟨#[c]⟩) = ⟨⟨r⟩⟩:=by
 cases r with
 | nil=>rfl
 | cons c r =>
  refine (glue_one r ⟨#[c]⟩).trans (sext ?_)
  show ((#[c]:Array Nat) ++ (⟨r⟩:Array Nat)).toList = c :: r
  rw [Array.toList_append];rfl
theorem hd_in:(hdL.map fun h=>(Nat.ble (gWt h.cps.toList) 40,h.cps.toList.all fun c=>memN c sgnL)) = hdL.map fun _=>(true,true):=by rfl'
theorem gw_app (l m:List Nat):gWt (l ++ m) = gWt l + gWt m:=by
 induction l with
 | nil=>exact (Nat.zero_add _).symm
 | cons c r ih =>
  show (match memN c letL with | true=>1 | false=>12) + gWt (r ++ m) = ((match memN c letL with | true=>1 | false=>12) + gWt r) + gWt m
  rw [ih,Nat.add_assoc]
theorem gw_12 (l:List Nat):gWt l ≤ 12 * l.length:=by
 induction l with
 | nil=>exact Nat.le_refl _
 | cons c r ih =>
  show (match memN c letL with | true=>1 | false=>12) + gWt r ≤ 12 * (r.length + 1)
  have:(match memN c letL with | true=>1 | false=>12) ≤ 12:=by cases memN c letL <;> decide
  (first | lia | omega)
theorem sum_one (cs:List Nat):((cs.map fun c=>(⟨#[c]⟩:Str)).map (·.length)).sum = cs.length:=by
 induction cs with
 | nil=>rfl
 | cons c r ih=>show 1 + ((r.map fun c=>(⟨#[c]⟩:Str)).map (·.length)).sum = r.length + 1;(first | lia | omega)
noncomputable def dgS:Sm:=fun xs H Q _=>∃ n,xs = [.int n] ∧ ∀ g,gP g → Q g H
theorem dg_weak:allN 1 fun vs=>allN 0 fun ws=>∀ H Q X,dgS (vs ++ ws) H Q X → inlC (tL [] 1) dgC dgB (t "n") (vs ++ ws) H Q X:=fun v H Q X h=>by
 obtain ⟨n,e1,k⟩:=h
 cases e1
 have m0:=Int.fmod_nonneg_of_pos n (show (0:Int) < 5 by decide)
 have m1:=Int.fmod_lt_of_pos n (show (0:Int) < 5 by decide)
 refine (dg_eq n H Q X).mpr (brn_of (fun _=>k _ (.inl rfl)) fun _=>brn_of (fun _=>k _ (.inr ⟨_,rfl,.inl rfl⟩)) fun _=>brn_of (fun _=>k _ (.inr ⟨_,rfl,.inr (by rfl')⟩)) fun _=>mod_any (by decide) rfl fun v hv=>⟨by (first | lia | omega),by (first | lia | omega),?_⟩)
 obtain ⟨x,hx,rfl⟩:=List.mem_map.mp hv
 have hq:=Prod.mk.inj (List.map_inj_left.mp hd_in x hx)
 have hw:=Nb hq.1
 obtain ⟨cs,e,l,hc⟩:=dg_map n 1 (4 - n.fmod 5).toNat 0
 have l4:cs.length ≤ 4:=by (first | lia | omega)
 refine ⟨by rw [rngL_len];exact Nl (show _ ≤ 4 by (first | lia | omega)) (by decide),dgG n,fun sv hs=>?_,?_⟩
 ·obtain ⟨i,rfl⟩:=rng_ints _ _ _ sv hs
  obtain ⟨c,_,e1,e2⟩:=dg_one n i
  exact ⟨rfl,(dg_cev n i _).mpr ⟨IntMulOk.of_left (by decide),opt_of e1 e2.symm⟩⟩
 ·rw [e]
  show opt (strsOf (cs.map sgS)) fun l=>iff_ (Nat.ble (t "").length 64) (bnz ((l.map (·.length)).sum + l.length * 64) (binV (celT (tL [] 1) (t "n") (.int n)) .Add (.str x) (.str (Txt.join (t "") l)) H Q))
  refine opt_of (strs_map (fun c=>(⟨#[c]⟩:Str)) cs) (iff_of rfl (bnd_of ?_ ?_))
  ·rw [sum_one,List.length_map]
   exact Nl (show _ ≤ 1000 by (first | lia | omega)) (by decide)
  ·rw [join_one]
   have lx:x.length ≤ 40:=by rw [← slen];exact Nl (gw_len _) hw
   refine bnd_of (Nl (show x.length + cs.length ≤ 100 by (first | lia | omega)) (by decide)) (k _ (.inr ⟨_,rfl,.inr ?_⟩))
   have el:(x ++ (⟨⟨cs⟩⟩:Str)).cps.toList = x.cps.toList ++ cs:=by show (x.cps ++ (⟨cs⟩:Array Nat)).toList = _;rw [Array.toList_append]
   unfold gOk
   rw [el,gw_app]
   have:=gw_12 cs
   refine Bool.and_eq_true_iff.mpr ⟨Nat.ble_eq_true_of_le (by (first | lia | omega)),?_⟩
   rw [List.all_append]
   exact Bool.and_eq_true_iff.mpr ⟨hq.2,List.all_eq_true.mpr fun c h=>List.map_inj_left.mp dgN_in c (hc c h)⟩
noncomputable abbrev lawB:List Stmt:=Hd.fb 90
noncomputable abbrev lawC:Scope:=Hd.fs 90
noncomputable def rcS:Sm:=fun xs H Q _=>∃ D1 D2 c i,xs = [.lst [D1.val,D2.val],.bool c,.int i] ∧ H = [] ∧ (D1.Ok ∧ D2.Ok ∧ 2 ≤ i ∧ i ≤ 9) ∧ Q (.tup [.str (allT c i D1 D2).1,.bool (allT c i D1 D2).2]) []
noncomputable def lw:Fns:=[(846,1,[],nxS),(853,1,[],drS),(858,1,[],dgS),(896,3,[],rcS)]
noncomputable abbrev lwT:Tab:=tL lw 2
noncomputable abbrev lwX (n:Nat):WS:=(wp lwT lawC n).S
noncomputable def lwF:List Stmt:=loopB (nthS 6 lawB)
noncomputable def lwG:List Stmt:=loopB (nthS 3 lwF)
noncomputable def lwJ:List Stmt:=loopB (nthS 10 lwF)
noncomputable abbrev lwO (n:Nat) (s:Stmt) (loc:Loc) (H:Hp) (Qs:QS) (X:XC):Prop:=exeL lwT (lwX n) [s] loc H Qs X
structure LA where
 t:Addr
 d:Addr
 e:Addr
 h:Int
 c:Bool
 i:Int
noncomputable abbrev lw0 (A:LA) (r:Loc):Loc:=(t "tape",tpV A.t) :: (t "h",.int A.h) :: (t "canonical",.bool A.c) :: (t "step",.int A.i) :: (t "docs",.obj 1109004 (some A.d)) :: (t "events",.obj 1110004 (some A.e)) :: r
noncomputable abbrev lwH (A:LA) (ev dc tp:List SV):Hp:=[(1110004,some A.e,.list ev),(1109004,some A.d,.list dc),(1105004,some A.t,.list tp)]
noncomputable def vsL:List SV:=[verV 1,.none,verV 0,.none,verV 23,.tup [.int 2,.int 0],verV 2]
noncomputable def acL:List SV:=[.str (t "a"),.none,.str (t "Z-9_"),.str (t "b"),.none,.str (t "x1"),.str (t "0"),.str (t "-"),.str (t "_"),.none,.str (t "a"),.str (t "k"),.none,.str (t ""),.str (t "a"),.none,.str (t "a b"),.str (t "b"),.none,.str (t "é"),.str (t "c"),.none,.str (t "9")]
section
variable (A:LA) (ev dc tp:List SV) (d n cc:Int) (ver a g:SV) (kvs:List (Str × SV)) (at' ai:Addr) (its:List SV) (Qs:QS) (X:XC)
noncomputable abbrev lw1 (r:Loc):Loc:=lw0 A ((t "d",.int d) :: r)
noncomputable abbrev lw2 (r:Loc):Loc:=lw1 A d ((t "v",.int n) :: (t "version",ver) :: r)
noncomputable abbrev tgV (a:Addr):SV:=.obj 1114008 (some a)
noncomputable abbrev tgH (kvs:List (Str × SV)):Hp:=(1114008,some at',.dict kvs) :: lwH A ev dc tp
theorem lw_s0:lwO 59 (nthS 0 lwF) (lw1 A d []) (lwH A ev dc tp) Qs X = nxS [tpV A.t] (lwH A ev dc tp) (fun v H=>Qs .next (lw1 A d [(t "v",v)]) H) X:=by rfl'
theorem lw_s1:lwO 59 (nthS 1 lwF) (lw1 A d [(t "v",.int n)]) (lwH A ev dc tp) Qs X = opt (seqG vsL ((n + d).fmod 7)) fun v=>Qs .next (lw2 A d n v []) (lwH A ev dc tp):=by rfl'
theorem lw_s2:lwO 59 (nthS 2 lwF) (lw2 A d n ver []) (lwH A ev dc tp) Qs X = ∀ at',Qs .next (lw2 A d n ver [(t "tags",tgV at')]) (tgH A ev dc tp at' []):=by rfl'
noncomputable def lwQ3 (x:Str) (Qs:QS):QS:=fun f loc H=>afterV f loc H Qs fun loc H=>opt (lk x loc) fun v=>own v H fun l o=>frzM o fun u=>Qs .next (put x u loc) (delH l H)
theorem lw_s3:lwO 59 (nthS 3 lwF) (lw2 A d n ver [(t "tags",tgV at')]) (tgH A ev dc tp at' []) Qs X = opt (seqG [.int 1,.int 0,.int 2] ((n + d).fmod 3)) fun u=>asI u fun k=>k ≤ 1000000 ∧ -1000000 ≤ k ∧ forL lwT (lwX 58) (t "_") lwG (rngL 0 1 k.toNat) (lw2 A d n ver [(t "tags",tgV at')]) (tgH A ev dc tp at' []) (lwQ3 (t "tags") Qs) X:=by rfl'
theorem lw_q3:lwQ3 (t "tags") Qs .next (lw2 A d n ver [(t "tags",tgV at')]) (tgH A ev dc tp at' kvs) = (at' = at' ∧ Qs .next (lw2 A d n ver [(t "tags",.dct kvs)]) (lwH A ev dc tp)):=by rfl'
theorem lw_g0 (j:SV):lwO 58 (nthS 0 lwG) (lw2 A d n ver [(t "tags",tgV at'),(t "_",j)]) (tgH A ev dc tp at' kvs) Qs X = nxS [tpV A.t] (tgH A ev dc tp at' kvs) (fun v H=>drS [v] H (fun u H=>asgT lwT lawC (wp lwT lawC 57) (tgtE (nthS 0 lwG)) u (lw2 A d n ver [(t "tags",tgV at'),(t "_",j)]) H (fun loc H=>Qs .next loc H) X) X) X:=by rfl'
theorem lw_gU (j:SV) (h p:Str) (H:Hp):asgT lwT lawC (wp lwT lawC 57) (tgtE (nthS 0 lwG)) (.tup [.str h,.str p]) (lw2 A d n ver [(t "tags",tgV at'),(t "_",j)]) H (fun loc H=>Qs .next loc H) X = Qs .next (lw2 A d n ver [(t "tags",tgV at'),(t "_",j),(t "handle",.str h),(t "prefix",.str p)]) H:=by rfl'
theorem lw_g1 (j:SV) (h p:Str):lwO 58 (nthS 1 lwG) (lw2 A d n ver [(t "tags",tgV at'),(t "_",j),(t "handle",.str h),(t "prefix",.str p)]) (tgH A ev dc tp at' kvs) Qs X = (at' = at' ∧ iff_ (Nat.ble (lenL (put h (.str p) kvs)) 1000) (Qs .next (lw2 A d n ver [(t "tags",tgV at')]) (tgH A ev dc tp at' (put h (.str p) kvs)))):=by rfl'
theorem lw_s4:lwO 59 (nthS 4 lwF) (lw2 A d n ver [(t "tags",.dct kvs)]) (lwH A ev dc tp) Qs X = nxS [tpV A.t] (lwH A ev dc tp) (fun v H=>Qs .next (lw2 A d n ver [(t "tags",.dct kvs),(t "c",v)]) H) X:=by rfl'
theorem lw_s5:lwO 59 (nthS 5 lwF) (lw2 A d n ver [(t "tags",.dct kvs),(t "c",.int cc)]) (lwH A ev dc tp) Qs X = opt (seqG acL (cc.fmod 23)) fun a=>Qs .next (lw2 A d n ver [(t "tags",.dct kvs),(t "c",.int cc),(t "anchor",a)]) (lwH A ev dc tp):=by rfl'
theorem lw_s6:lwO 59 (nthS 6 lwF) (lw2 A d n ver [(t "tags",.dct kvs),(t "c",.int cc),(t "anchor",a)]) (lwH A ev dc tp) Qs X = nxS [tpV A.t] (lwH A ev dc tp) (fun v H=>dgS [v] H (fun g H=>Qs .next (lw2 A d n ver [(t "tags",.dct kvs),(t "c",.int cc),(t "anchor",a),(t "tag",g)]) H) X) X:=by rfl'
noncomputable abbrev lw3 (r:Loc):Loc:=lw2 A d n ver ((t "tags",.dct kvs) :: (t "c",.int cc) :: (t "anchor",a) :: (t "tag",g) :: r)
theorem lw_s7n:lwO 59 (nthS 7 lwF) (lw3 A d n cc ver a g [] []) (lwH A ev dc tp) Qs X = (A.e = A.e ∧ ∀ b:Addr,b = b ∧ b = b ∧ b = b ∧ b = b ∧ b = b ∧ b = b ∧ A.e = A.e ∧ bnd sizeLine ev.length (Qs .next (lw3 A d n cc ver a g [] []) (lwH A (ev ++ [dsE (n.fmod 2 == 1) ver .none]) dc tp))):=by rfl'
theorem lw_s7c (p:Str × SV) (r:List (Str × SV)):lwO 59 (nthS 7 lwF) (lw3 A d n cc ver a g (p :: r) []) (lwH A ev dc tp) Qs X = (A.e = A.e ∧ bnd sizeLine (p :: r).length (∀ b:Addr,b = b ∧ b = b ∧ b = b ∧ b = b ∧ b = b ∧ b = b ∧ A.e = A.e ∧ bnd sizeLine ev.length (Qs .next (lw3 A d n cc ver a g (p :: r) []) (lwH A (ev ++ [dsE (n.fmod 2 == 1) ver (.dct (p :: r))]) dc tp)))):=by rfl'
theorem lw_s8:lwO 59 (nthS 8 lwF) (lw3 A d n cc ver a g kvs []) (lwH A ev dc tp) Qs X = (A.e = A.e ∧ ∀ b:Addr,b = b ∧ b = b ∧ b = b ∧ b = b ∧ b = b ∧ b = b ∧ b = b ∧ A.e = A.e ∧ bnd sizeLine ev.length (Qs .next (lw3 A d n cc ver a g kvs []) (lwH A (ev ++ [evK (.sq a g (cc.fmod 2 == 1))]) dc tp))):=by rfl'
end
noncomputable def b2L:List (Bool × Bool):=[(false,false),(true,false),(false,true),(true,true)]
noncomputable def paV (p:Bool × Bool):SV:=.tup [.bool p.1,.bool p.2]
noncomputable def ysL:List SV:=[.none,.str sq,.str dq]
noncomputable def woL:List Str:=sl ["v","two w","","x, y","v"]
section
variable (A:LA) (ev dc tp:List SV) (d n cc m:Int) (ver a g:SV) (kvs:List (Str × SV)) (ai:Addr) (its:List SV) (j v1 g2:SV) (b1 b2:Bool) (y:SV) (w:Str) (Qs:QS) (X:XC)
noncomputable abbrev itO (a:Addr):SV:=.obj 1123008 (some a)
noncomputable abbrev itH':Hp:=(1123008,some ai,.list its) :: lwH A ev dc tp
theorem lw_s9:lwO 59 (nthS 9 lwF) (lw3 A d n cc ver a g kvs []) (lwH A ev dc tp) Qs X = ∀ ai,Qs .next (lw3 A d n cc ver a g kvs [(t "items",itO ai)]) (itH' A ev dc tp ai []):=by rfl'
theorem lw_s10:lwO 59 (nthS 10 lwF) (lw3 A d n cc ver a g kvs [(t "items",itO ai)]) (itH' A ev dc tp ai []) Qs X = (Builtin.divisionGoesByPylong n 3 = false ∧ 1 + (n.fdiv 3).fmod 2 ≤ 1000000 ∧ -1000000 ≤ 1 + (n.fdiv 3).fmod 2 ∧ forL lwT (lwX 58) (t "_") lwJ (rngL 0 1 (1 + (n.fdiv 3).fmod 2).toNat) (lw3 A d n cc ver a g kvs [(t "items",itO ai)]) (itH' A ev dc tp ai []) (lwQ3 (t "items") Qs) X):=by rfl'
theorem lw_q10:lwQ3 (t "items") Qs .next (lw3 A d n cc ver a g kvs [(t "items",itO ai)]) (itH' A ev dc tp ai its) = (ai = ai ∧ Qs .next (lw3 A d n cc ver a g kvs [(t "items",.lst its)]) (lwH A ev dc tp)):=by rfl'
noncomputable abbrev lw5 (r:Loc):Loc:=lw3 A d n cc ver a g kvs ((t "items",itO ai) :: (t "_",j) :: r)
theorem lw_i0:lwO 58 (nthS 0 lwJ) (lw5 A d n cc ver a g kvs ai j []) (itH' A ev dc tp ai its) Qs X = nxS [tpV A.t] (itH' A ev dc tp ai its) (fun v H=>Qs .next (lw5 A d n cc ver a g kvs ai j [(t "a",v)]) H) X:=by rfl'
theorem lw_i1:lwO 58 (nthS 1 lwJ) (lw5 A d n cc ver a g kvs ai j [(t "a",.int m)]) (itH' A ev dc tp ai its) Qs X = opt (seqG acL (m.fmod 23)) fun v1=>nxS [tpV A.t] (itH' A ev dc tp ai its) (fun v H=>dgS [v] H (fun g2 H=>opt (seqG (b2L.map paV) (m.fmod 4)) fun v2=>opt (seqG ysL (m.fmod 3)) fun v3=>opt (seqG (woL.map .str) (m.fmod 5)) fun v4=>Qs .next (lw5 A d n cc ver a g kvs ai j [(t "a",.int m),(t "item",.tup [.bool (m.fmod 7 == 6),v1,g2,v2,v3,v4])]) H) X) X:=by rfl'
noncomputable abbrev lw6 (it:SV):Loc:=lw5 A d n cc ver a g kvs ai j [(t "a",.int m),(t "item",it)]
noncomputable abbrev alR (z:Str):Prop:=A.e = A.e ∧ ∀ b:Addr,b = b ∧ b = b ∧ b = b ∧ b = b ∧ A.e = A.e ∧ bnd sizeLine ev.length (Qs .next (lw6 A d n cc m ver a g kvs ai j (itE (.al (.str z)))) (itH' A (ev ++ [evK (.al (.str z))]) dc tp ai its))
theorem lw_i2n:lwO 58 (nthS 2 lwJ) (lw6 A d n cc m ver a g kvs ai j (.tup [.bool true,.none,g2,paV (b1,b2),y,.str w])) (itH' A ev dc tp ai its) Qs X = alR A ev dc tp d n cc m ver a g kvs ai its j Qs (t "r"):=by rfl'
theorem lw_i2e:lwO 58 (nthS 2 lwJ) (lw6 A d n cc m ver a g kvs ai j (.tup [.bool true,.str ⟨⟨[]⟩⟩,g2,paV (b1,b2),y,.str w])) (itH' A ev dc tp ai its) Qs X = alR A ev dc tp d n cc m ver a g kvs ai its j Qs (t "r"):=by rfl'
theorem lw_i2c (z:Nat) (r:List Nat):lwO 58 (nthS 2 lwJ) (lw6 A d n cc m ver a g kvs ai j (.tup [.bool true,.str ⟨⟨z :: r⟩⟩,g2,paV (b1,b2),y,.str w])) (itH' A ev dc tp ai its) Qs X = bnd sizeLine (⟨⟨z :: r⟩⟩:Str).length (alR A ev dc tp d n cc m ver a g kvs ai its j Qs ⟨⟨z :: r⟩⟩):=by rfl'
theorem lw_i2s:lwO 58 (nthS 2 lwJ) (lw6 A d n cc m ver a g kvs ai j (.tup [.bool false,v1,g2,paV (b1,b2),y,.str w])) (itH' A ev dc tp ai its) Qs X = (A.e = A.e ∧ ∀ b:Addr,b = b ∧ b = b ∧ b = b ∧ b = b ∧ b = b ∧ b = b ∧ b = b ∧ b = b ∧ A.e = A.e ∧ bnd sizeLine ev.length (Qs .next (lw6 A d n cc m ver a g kvs ai j (itE (.sc v1 g2 b1 b2 w y))) (itH' A (ev ++ [evK (.sc v1 g2 b1 b2 w y)]) dc tp ai its))):=by rfl'
theorem lw_i3 (it:SV):lwO 58 (nthS 3 lwJ) (lw6 A d n cc m ver a g kvs ai j it) (itH' A ev dc tp ai its) Qs X = (ai = ai ∧ ai = ai ∧ bnd sizeLine its.length (Qs .next (lw3 A d n cc ver a g kvs [(t "items",itO ai)]) (itH' A ev dc tp ai (its ++ [it])))):=by rfl'
theorem lw_s11:lwO 59 (nthS 11 lwF) (lw3 A d n cc ver a g kvs [(t "items",.lst its)]) (lwH A ev dc tp) Qs X = (A.d = A.d ∧ A.d = A.d ∧ bnd sizeLine dc.length (Qs .next (lw3 A d n cc ver a g kvs [(t "items",.lst its)]) (lwH A ev (dc ++ [dcV (n.fmod 2 == 1) ver kvs a g (cc.fmod 2 == 1) its]) tp))):=by rfl'
theorem lw_s12:lwO 59 (nthS 12 lwF) (lw3 A d n cc ver a g kvs [(t "items",.lst its)]) (lwH A ev dc tp) Qs X = (A.e = A.e ∧ ∀ b:Addr,b = b ∧ b = b ∧ b = b ∧ A.e = A.e ∧ bnd sizeLine ev.length (Qs .next (lw3 A d n cc ver a g kvs [(t "items",.lst its)]) (lwH A (ev ++ [evSE]) dc tp))):=by rfl'
theorem lw_s13:lwO 59 (nthS 13 lwF) (lw3 A d n cc ver a g kvs [(t "items",.lst its)]) (lwH A ev dc tp) Qs X = (A.e = A.e ∧ ∀ b:Addr,b = b ∧ b = b ∧ b = b ∧ b = b ∧ A.e = A.e ∧ bnd sizeLine ev.length (Qs .next (lw0 A []) (lwH A (ev ++ [evDE]) dc tp))):=by rfl'
theorem lwF_list:lwF = [nthS 0 lwF] ++ ([nthS 1 lwF] ++ ([nthS 2 lwF] ++ ([nthS 3 lwF] ++ ([nthS 4 lwF] ++ ([nthS 5 lwF] ++ ([nthS 6 lwF] ++ ([nthS 7 lwF] ++ ([nthS 8 lwF] ++ ([nthS 9 lwF] ++ ([nthS 10 lwF] ++ ([nthS 11 lwF] ++ ([nthS 12 lwF] ++ [nthS 13 lwF])))))))))))):=by rfl'
theorem lwJ_list:lwJ = [nthS 0 lwJ] ++ ([nthS 1 lwJ] ++ ([nthS 2 lwJ] ++ [nthS 3 lwJ])):=by rfl'
theorem lwG_list:lwG = [nthS 0 lwG] ++ [nthS 1 lwG]:=by rfl'
end
theorem put_mem {x:Str} {v:SV} {q:Str × SV}:∀ {l:List (Str × SV)},q ∈ put x v l → (q.1 = x ∧ q.2 = v) ∨ q ∈ l:=by
 intro l
 induction l with
 | nil=>intro h;rw [Ms h];exact .inl ⟨rfl,rfl⟩
 | cons p r ih =>
  intro h
  rw [put_cons] at h
  cases e:sbeq x p.1 with
  | true =>
   rw [e] at h
   rcases Mc h with rfl | h
   ·exact .inl ⟨(of_sbeq e).symm,rfl⟩
   ·exact .inr (.tail _ h)
  | false =>
   rw [e] at h
   rcases Mc h with rfl | h
   ·exact .inr (.head _)
   ·exact (ih h).imp id fun k=>.tail _ k
theorem put_keys {x:Str} {v:SV} {y:Str}:∀ {l:List (Str × SV)},y ∈ (put x v l).map (·.1) → y = x ∨ y ∈ l.map (·.1):=fun {l} h=>by
  obtain ⟨q,hq,rfl⟩:=List.mem_map.mp h
  exact (put_mem hq).imp (·.1) fun k=>List.mem_map.mpr ⟨q,k,rfl⟩
theorem put_nodup {x:Str} {v:SV}:∀ {l:List (Str × SV)},(l.map (·.1)).Nodup → ((put x v l).map (·.1)).Nodup:=fun {l}=>by
 induction l with
 | nil=>exact fun _=>List.nodup_cons.mpr ⟨List.not_mem_nil,.nil⟩
 | cons p r ih =>
  intro h
  rw [put_cons]
  obtain ⟨h1,h2⟩:=List.nodup_cons.mp h
  cases e:sbeq x p.1 with
  | true=>exact List.nodup_cons.mpr ⟨h1,h2⟩
  | false=>exact List.nodup_cons.mpr ⟨fun k=>(put_keys k).elim (fun q=>by rw [← q,sbeq_self] at e;cases e) h1,ih h2⟩
noncomputable def tgP (k:Nat) (kvs:List (Str × SV)):Prop:=kvs.length ≤ k ∧ ∀ q ∈ kvs,hasStr q.1 hanL = true ∧ ∃ p,q.2 = .str p ∧ hasStr p preL = true
theorem tgP_put {k:Nat} {kvs:List (Str × SV)} {h p:Str} (hk:tgP k kvs) (hh:hasStr h hanL = true) (hp:hasStr p preL = true):tgP (k + 1) (put h (.str p) kvs) :=
 ⟨by have:=putL_len (x:=h) (v:=.str p) (l:=kvs);rw [lenL_eq,lenL_eq] at this;exact Nl this (Nat.succ_le_succ hk.1),fun q hq=>(put_mem hq).elim (fun e=>⟨e.1 ▸ hh,p,e.2,hp⟩) (hk.2 q)⟩
noncomputable def tkP (k:Nat) (tk:List (Str × SV)):Prop:=1 ≤ tk.length ∧ tk.length ≤ k ∧ (tk.map (·.1)).Nodup ∧ ∀ q ∈ tk,hasStr q.1 preOk = true ∧ ∃ h,q.2 = .str h ∧ hasStr h hanOk = true
theorem put_pos {x:Str} {v:SV} {l:List (Str × SV)}:1 ≤ (put x v l).length:=by
 cases l with
 | nil=>exact Nat.le_refl _
 | cons p r=>rw [put_cons];cases sbeq x p.1 <;> exact Nat.le_add_left _ _
theorem tkP_put {k:Nat} {tk:List (Str × SV)} {h p:Str} (hk:tkP k tk) (hh:hasStr h hanOk = true) (hp:hasStr p preOk = true):tkP (k + 1) (put p (.str h) tk) :=
 ⟨put_pos,by have:=putL_len (x:=p) (v:=.str h) (l:=tk);rw [lenL_eq,lenL_eq] at this;exact Nl this (Nat.succ_le_succ hk.2.1),put_nodup hk.2.2.1,fun q hq=>(put_mem hq).elim (fun e=>⟨e.1 ▸ hp,h,e.2,hh⟩) (hk.2.2.2 q)⟩
theorem tkP_dir {kvs:List (Str × SV)} (l:List Str):∀ {k:Nat} {tk:List (Str × SV)},tkP k tk → tkP (k + l.length) (dirL kvs l tk).2.2:=by
 induction l with
 | nil=>intro k tk h;exact h
 | cons x r ih =>
  intro k tk hk
  have up:tkP (k + (r.length + 1)) tk:=⟨hk.1,Nl hk.2.1 (Nat.le_add_right _ _),hk.2.2⟩
  show tkP (k + (r.length + 1)) (match lk x kvs with
   | some v=>(match and (hasStr x hanOk) (hasStr (theS v) preOk) with
    | true=>(dirT x (theS v) ++ (t "\n" ++ (dirL kvs r (put (theS v) (.str x) tk)).1),(dirL kvs r (put (theS v) (.str x) tk)).2)
    | false=>(Str.empty,false,tk))
   | none=>(Str.empty,false,tk)).2.2
  cases lk x kvs with
  | none=>exact up
  | some v =>
   dsimp only
   cases e:and (hasStr x hanOk) (hasStr (theS v) preOk) with
   | false=>exact up
   | true =>
    obtain ⟨e1,e2⟩:=Ba e
    have:=ih (tkP_put hk e1 e2)
    rw [show k + (r.length + 1) = k + 1 + r.length by (first | lia | omega)]
    exact this
theorem tkP_0:tkP 2 tpK:=⟨by decide,by decide,apart_nodup (by rfl'),fun q hq=>by
 rcases Mc hq with rfl | hq
 ·exact ⟨by rfl',_,rfl,by rfl'⟩
 ·rw [Ms hq];exact ⟨by rfl',_,rfl,by rfl'⟩⟩
theorem tkP_ok {k:Nat} {tk:List (Str × SV)} (h:tkP k tk) (hk:k ≤ 10):kOk tk = true:=by
 unfold kOk
 refine Bool.and_eq_true_iff.mpr ⟨Bool.and_eq_true_iff.mpr ⟨Nat.ble_eq_true_of_le h.1,Nat.ble_eq_true_of_le (Nl h.2.1 hk)⟩,List.all_eq_true.mpr fun q hq=>?_⟩
 obtain ⟨e1,x,e2,e3⟩:=h.2.2.2 q hq
 rw [e1,e2]
 exact e3
theorem tgP_doc {kvs:List (Str × SV)} (h:tgP 2 kvs):kvP kvs ∧ kOk (dsTk kvs) = true ∧ ((dsTk kvs).map (·.1)).Nodup:=by
 have hl:(skL kvs).length ≤ 2:=by
  rw [show skL kvs = sortS (kvs.map (·.1)) from rfl,(sortS_perm _).length_eq,List.length_map]
  exact h.1
 have k:=tkP_dir (kvs:=kvs) (skL kvs) tkP_0
 refine ⟨⟨h.1,fun x hx=>?_,hl⟩,tkP_ok k (by (first | lia | omega)),k.2.2.1⟩
 have hx:=(sortS_perm _).mem_iff.mp hx
 obtain ⟨v,e⟩:=lk_ex hx
 obtain ⟨e1,p,e2,e3⟩:=h.2 _ (lk_mem e)
 have e2:v = .str p:=e2
 exact ⟨p,e2 ▸ e,e1,e3⟩
theorem rk_nx {T:Tab} {S:WS} {B:List Stmt} {loc:Loc} {H:Hp} {Qs:QS} {X:XC} (h:exeL T S B loc H Qs X):afterV .next loc H Qs (fun loc H=>exeL T S B loc H Qs X):=h
section
variable {A:LA} {ev dc tp:List SV} {d n cc:Int} {ver a g:SV} {kvs:List (Str × SV)} {at' ai:Addr} {its:List SV} {Qs:QS} {X:XC}
theorem nx_lw {Q:QV} (h2:tapeP tp) (k:∀ n tp',numP n → tapeP tp' → Q (.int n) (lwH A ev dc tp')):nxS [tpV A.t] (lwH A ev dc tp) Q X:=⟨A.t,tp,rfl,by rfl',h2,fun n tp' h3 h4=>by
 rw [show setH 1105004 (.list tp') (lwH A ev dc tp) = lwH A ev dc tp' from by rfl']
 exact k n tp' h3 h4⟩
theorem nx_tg {Q:QV} (h2:tapeP tp) (k:∀ n tp',numP n → tapeP tp' → Q (.int n) (tgH A ev dc tp' at' kvs)):nxS [tpV A.t] (tgH A ev dc tp at' kvs) Q X:=⟨A.t,tp,rfl,by rfl',h2,fun n tp' h3 h4=>by
 rw [show setH 1105004 (.list tp') (tgH A ev dc tp at' kvs) = tgH A ev dc tp' at' kvs from by rfl']
 exact k n tp' h3 h4⟩
theorem nx_it {Q:QV} (h2:tapeP tp) (k:∀ n tp',numP n → tapeP tp' → Q (.int n) (itH' A ev dc tp' ai its)):nxS [tpV A.t] (itH' A ev dc tp ai its) Q X:=⟨A.t,tp,rfl,by rfl',h2,fun n tp' h3 h4=>by
 rw [show setH 1105004 (.list tp') (itH' A ev dc tp ai its) = itH' A ev dc tp' ai its from by rfl']
 exact k n tp' h3 h4⟩
theorem lw_gturn {k:Nat} {j:SV} (h2:tapeP tp) (hk:tgP k kvs) (k9:k ≤ 9) (q:∀ kvs' tp',tgP (k + 1) kvs' → tapeP tp' → Qs .next (lw2 A d n ver [(t "tags",tgV at')]) (tgH A ev dc tp' at' kvs')) :
  exeL lwT (lwX 58) lwG (lw2 A d n ver [(t "tags",tgV at'),(t "_",j)]) (tgH A ev dc tp at' kvs) Qs X:=by
 rw [lwG_list]
 refine rk_seq ((lw_g0 A ev dc tp d n ver kvs at' _ X j).mpr (nx_tg h2 fun m tp' hm ht=>⟨m,rfl,fun h p c1 c2=>?_⟩))
 refine (lw_gU A d n ver at' (fun f loc H=>afterV f loc H Qs fun loc H=>exeL lwT (lwX 58) [nthS 1 lwG] loc H Qs X) X j h p _).mpr ?_
 refine rk_nx ?_
 have kp:=tgP_put hk c1 c2
 refine (lw_g1 A ev dc tp' d n ver kvs at' _ X j h p).mpr ⟨rfl,iff_of (Nat.ble_eq_true_of_le ?_) (q _ _ kp ht)⟩
 rw [lenL_eq]
 exact Nl kp.1 (by (first | lia | omega))
theorem lw_gloop (m:Nat):∀ (i:Int) (k:Nat) (kvs:List (Str × SV)) (tp:List SV),tapeP tp → tgP k kvs → k + m ≤ 9 → (∀ kvs' tp',tgP (k + m) kvs' → tapeP tp' → Qs .next (lw2 A d n ver [(t "tags",tgV at')]) (tgH A ev dc tp' at' kvs')) →
  forL lwT (lwX 58) (t "_") lwG (rngL i 1 m) (lw2 A d n ver [(t "tags",tgV at')]) (tgH A ev dc tp at' kvs) Qs X:=by
 induction m with
 | zero=>intro i k kvs tp h2 hk _ q;exact q kvs tp hk h2
 | succ m ih =>
  intro i k kvs tp h2 hk h9 q
  have hp:put (t "_") (.int i) (lw2 A d n ver [(t "tags",tgV at')]) = lw2 A d n ver [(t "tags",tgV at'),(t "_",.int i)]:=by rfl'
  show exeL lwT (lwX 58) lwG (put (t "_") (.int i) (lw2 A d n ver [(t "tags",tgV at')])) (tgH A ev dc tp at' kvs) _ X
  rw [hp]
  refine lw_gturn h2 hk (by (first | lia | omega)) fun kvs' tp' hk' ht=>ih (i + 1) (k + 1) kvs' tp' ht hk' (by (first | lia | omega)) fun kvs2 tp2 h3 h4=>q kvs2 tp2 (by rw [show k + (m + 1) = k + 1 + m by (first | lia | omega)];exact h3) h4
theorem tgP.up {k m:Nat} (h:tgP k kvs) (e:k ≤ m):tgP m kvs:=⟨Nl h.1 e,h.2⟩
theorem lw_tags (h2:tapeP tp) (q:∀ kvs tp',tgP 2 kvs → tapeP tp' → Qs .next (lw2 A d n ver [(t "tags",.dct kvs)]) (lwH A ev dc tp')):lwO 59 (nthS 3 lwF) (lw2 A d n ver [(t "tags",tgV at')]) (tgH A ev dc tp at' []) Qs X:=by
 refine (lw_s3 A ev dc tp d n ver at' Qs X).mpr (mod_any (by decide) rfl fun v hv=>?_)
 have go:∀ m:Nat,m ≤ 2 → ((m:Nat):Int) ≤ 1000000 ∧ -1000000 ≤ ((m:Nat):Int) ∧ forL lwT (lwX 58) (t "_") lwG (rngL 0 1 m) (lw2 A d n ver [(t "tags",tgV at')]) (tgH A ev dc tp at' []) (lwQ3 (t "tags") Qs) X:=fun m hm =>
  ⟨by (first | lia | omega),by (first | lia | omega),lw_gloop m 0 0 [] tp h2 ⟨Nat.le_refl _,fun q hq=>nomatch hq⟩ (by (first | lia | omega)) fun kvs tp' h3 h4=>(lw_q3 A ev dc tp' d n ver kvs at' Qs).mpr ⟨rfl,q kvs tp' (h3.up (by (first | lia | omega))) h4⟩⟩
 rcases Mc hv with rfl | hv
 ·exact go 1 (by decide)
 ·rcases Mc hv with rfl | hv
  ·exact go 0 (by decide)
  ·rw [Ms hv];exact go 2 (by decide)
theorem ac_in:(acL.map fun v=>(match v with | .none=>true | .str x=>hasStr x ancL | _=>false)) = acL.map fun _=>true:=by rfl'
theorem ac_an {v:SV} (h:v ∈ acL):anP v:=by
 have k:=List.map_inj_left.mp ac_in v h
 cases v with
 | none=>exact .inl rfl
 | str x=>exact .inr ⟨x,rfl,has_mem k⟩
 | _=>cases k
theorem wo_in:(woL.map fun w=>hasStr w words) = woL.map fun _=>true:=by rfl'
theorem r_in:hasStr (t "r") ancL = true:=by rfl'
theorem lw_iturn {j:SV} (h2:tapeP tp) (hev:ev.length ≤ 100) (hit:its.length ≤ 100) (q:∀ e tp',ndP e → tapeP tp' → Qs .next (lw3 A d n cc ver a g kvs [(t "items",itO ai)]) (itH' A (ev ++ [evK e]) dc tp' ai (its ++ [itE e]))) :
  exeL lwT (lwX 58) lwJ (lw5 A d n cc ver a g kvs ai j []) (itH' A ev dc tp ai its) Qs X:=by
 rw [lwJ_list]
 refine rk_seq ((lw_i0 A ev dc tp d n cc ver a g kvs ai its j _ X).mpr (nx_it h2 fun m tp1 hm h3=>?_))
 refine rk_nx ?_
 refine rk_seq ((lw_i1 A ev dc tp1 d n cc m ver a g kvs ai its j _ X).mpr (mod_any (by decide) rfl fun v1 hv1=>nx_it h3 fun m2 tp2 hm2 h4=>⟨m2,rfl,fun g2 hg=>mod_any (by decide) rfl fun v2 hv2=>mod_any (by decide) rfl fun y hy=>mod_any (by decide) rfl fun v4 hv4=>?_⟩))
 obtain ⟨⟨b1,b2⟩,_,rfl⟩:=List.mem_map.mp hv2
 obtain ⟨w,hw,rfl⟩:=List.mem_map.mp hv4
 have hw:=List.map_inj_left.mp wo_in w hw
 have hv1:=ac_an hv1
 have hy:yP y:=by
  rcases Mc hy with rfl | hy
  ·exact .inl rfl
  ·rcases Mc hy with rfl | hy
   ·exact .inr (.inl rfl)
   ·exact .inr (.inr (Ms hy))
 refine rk_nx ?_
 have fin:∀ e,ndP e → exeL lwT (lwX 58) [nthS 3 lwJ] (lw6 A d n cc m ver a g kvs ai j (itE e)) (itH' A (ev ++ [evK e]) dc tp2 ai its) Qs X:=fun e he =>
  (lw_i3 A (ev ++ [evK e]) dc tp2 d n cc m ver a g kvs ai its j Qs X (itE e)).mpr ⟨rfl,rfl,bnd_of (Nl hit (by decide)) (q e tp2 he h4)⟩
 have al:∀ z,z ∈ ancL → alR A ev dc tp2 d n cc m ver a g kvs ai its j (fun f loc H=>afterV f loc H Qs fun loc H=>exeL lwT (lwX 58) [nthS 3 lwJ] loc H Qs X) z:=fun z hz =>
  ⟨rfl,fun b=>⟨rfl,rfl,rfl,rfl,rfl,bnd_of (Nl hev (by decide)) (rk_nx (fin (.al (.str z)) ⟨z,rfl,hz⟩))⟩⟩
 refine rk_seq ?_
 cases m.fmod 7 == 6 with
 | false=>exact (lw_i2s A ev dc tp2 d n cc m ver a g kvs ai its j v1 g2 b1 b2 y w _ X).mpr ⟨rfl,fun b=>⟨rfl,rfl,rfl,rfl,rfl,rfl,rfl,rfl,rfl,bnd_of (Nl hev (by decide)) (rk_nx (fin (.sc v1 g2 b1 b2 w y) ⟨hv1,hg,hw,hy⟩))⟩⟩
 | true =>
  rcases hv1 with rfl | ⟨z,rfl,hz⟩
  ·exact (lw_i2n A ev dc tp2 d n cc m ver a g kvs ai its j g2 b1 b2 y w _ X).mpr (al _ (has_mem r_in))
  ·obtain ⟨⟨l⟩⟩:=z
   cases l with
   | nil=>exact (lw_i2e A ev dc tp2 d n cc m ver a g kvs ai its j g2 b1 b2 y w _ X).mpr (al _ (has_mem r_in))
   | cons c r=>exact (lw_i2c A ev dc tp2 d n cc m ver a g kvs ai its j g2 b1 b2 y w _ X c r).mpr (bnd_of (Nl (anc_len _ hz) (by decide)) (al _ hz))
noncomputable def e2L (e2:Option Ev):List SV:=match e2 with | none=>[] | some e=>[evK e]
theorem lw_items (h2:tapeP tp) (hev:ev.length ≤ 90) (q:∀ e1 e2 tp',ndP e1 → (∀ e,e2 = some e → ndP e) → tapeP tp' → Qs .next (lw3 A d n cc ver a g kvs [(t "items",.lst (itsL e1 e2))]) (lwH A (ev ++ (evK e1 :: e2L e2)) dc tp')) :
  lwO 59 (nthS 10 lwF) (lw3 A d n cc ver a g kvs [(t "items",itO ai)]) (itH' A ev dc tp ai []) Qs X:=by
 have m0:=Int.fmod_nonneg_of_pos (n.fdiv 3) (show (0:Int) < 2 by decide)
 have m1:=Int.fmod_lt_of_pos (n.fdiv 3) (show (0:Int) < 2 by decide)
 refine (lw_s10 A ev dc tp d n cc ver a g kvs ai Qs X).mpr ⟨by rfl',by (first | lia | omega),by (first | lia | omega),?_⟩
 have hp:∀ (i:Int),put (t "_") (.int i) (lw3 A d n cc ver a g kvs [(t "items",itO ai)]) = lw5 A d n cc ver a g kvs ai (.int i) []:=fun i=>by rfl'
 rcases (by (first | lia | omega):(1 + (n.fdiv 3).fmod 2).toNat = 1 ∨ (1 + (n.fdiv 3).fmod 2).toNat = 2) with e | e
 ·rw [e]
  show exeL lwT (lwX 58) lwJ (put (t "_") (.int 0) (lw3 A d n cc ver a g kvs [(t "items",itO ai)])) _ _ X
  rw [hp]
  refine lw_iturn h2 (Nl hev (by decide)) (Nat.zero_le _) fun e1 tp1 he1 h3=>(lw_q10 A (ev ++ [evK e1]) dc tp1 d n cc ver a g kvs ai [itE e1] Qs).mpr ⟨rfl,q e1 none tp1 he1 (fun _ h=>nomatch h) h3⟩
 ·rw [e]
  show exeL lwT (lwX 58) lwJ (put (t "_") (.int 0) (lw3 A d n cc ver a g kvs [(t "items",itO ai)])) _ _ X
  rw [hp]
  refine lw_iturn h2 (Nl hev (by decide)) (Nat.zero_le _) fun e1 tp1 he1 h3=>?_
  show exeL lwT (lwX 58) lwJ (put (t "_") (.int (0 + 1)) (lw3 A d n cc ver a g kvs [(t "items",itO ai)])) _ _ X
  rw [hp]
  refine lw_iturn h3 (by rw [List.length_append];exact Nl (Nat.succ_le_succ hev) (by decide)) (show 1 ≤ 100 by decide) fun e2 tp2 he2 h4=>?_
  refine (lw_q10 A ((ev ++ [evK e1]) ++ [evK e2]) dc tp2 d n cc ver a g kvs ai [itE e1,itE e2] Qs).mpr ⟨rfl,?_⟩
  have k:=q e1 (some e2) tp2 he1 (fun e h=>by cases h;exact he2) h4
  rw [List.append_assoc]
  exact k
end
noncomputable def vrV (bad:Bool) (w:Option Int):SV:=match bad with | true=>.tup [.int 2,.int 0] | false=>verS w
theorem vs_ver {v:SV} (h:v ∈ vsL):∃ bad w,verOk w ∧ v = vrV bad w:=by
 have ok:∀ m:Int,m = 1 ∨ m = 0 ∨ m = 23 ∨ m = 2 → verOk (some m):=fun m h k e=>by cases e;exact h
 have no:verOk none:=fun k e=>nomatch e
 rcases Mc h with rfl | h
 ·exact ⟨false,some 1,ok 1 (by decide),rfl⟩
 rcases Mc h with rfl | h
 ·exact ⟨false,none,no,rfl⟩
 rcases Mc h with rfl | h
 ·exact ⟨false,some 0,ok 0 (by decide),rfl⟩
 rcases Mc h with rfl | h
 ·exact ⟨false,none,no,rfl⟩
 rcases Mc h with rfl | h
 ·exact ⟨false,some 23,ok 23 (by decide),rfl⟩
 rcases Mc h with rfl | h
 ·exact ⟨true,none,no,rfl⟩
 ·rw [Ms h];exact ⟨false,some 2,ok 2 (by decide),rfl⟩
section
variable {A:LA} {ev dc tp:List SV} {d n cc:Int} {ver a g:SV} {kvs:List (Str × SV)} {Qs:QS} {X:XC}
noncomputable abbrev lwS (s:List Stmt) (loc:Loc) (H:Hp) (Qs:QS) (X:XC):Prop:=exeL lwT (lwX 59) s loc H Qs X
theorem lw_s7 (hev:ev.length ≤ 1000) (hk:kvs.length ≤ 1000) (q:Qs .next (lw3 A d n cc ver a g kvs []) (lwH A (ev ++ [dsE (n.fmod 2 == 1) ver (tgS kvs)]) dc tp)):lwO 59 (nthS 7 lwF) (lw3 A d n cc ver a g kvs []) (lwH A ev dc tp) Qs X:=by
 have he:ev.length ≤ sizeLine:=Nl hev (by decide)
 cases kvs with
 | nil=>exact (lw_s7n A ev dc tp d n cc ver a g Qs X).mpr ⟨rfl,fun b=>⟨rfl,rfl,rfl,rfl,rfl,rfl,rfl,bnd_of he q⟩⟩
 | cons p r=>exact (lw_s7c A ev dc tp d n cc ver a g Qs X p r).mpr ⟨rfl,bnd_of (Nl hk (by decide)) fun b=>⟨rfl,rfl,rfl,rfl,rfl,rfl,rfl,bnd_of he q⟩⟩
theorem lw_turn (h2:tapeP tp) (hev:ev.length ≤ 50) (hdc:dc.length ≤ 50) (q:∀ (D:Doc) tp',D.Ok → tapeP tp' → Qs .next (lw0 A []) (lwH A (ev ++ D.evs) (dc ++ [D.val]) tp')):lwS lwF (lw1 A d []) (lwH A ev dc tp) Qs X:=by
 rw [lwF_list]
 refine rk_seq ((lw_s0 A ev dc tp d _ X).mpr (nx_lw h2 fun n tp1 hn h3=>?_))
 refine rk_nx ?_
 refine rk_seq ((lw_s1 A ev dc tp1 d n _ X).mpr (mod_any (by decide) rfl fun ver hver=>?_))
 obtain ⟨bad,w,hw,ev1⟩:=vs_ver hver
 refine rk_nx ?_
 refine rk_seq ((lw_s2 A ev dc tp1 d n ver _ X).mpr fun at'=>?_)
 refine rk_nx ?_
 refine rk_seq (lw_tags h3 fun kvs tp2 hk h4=>?_)
 refine rk_nx ?_
 refine rk_seq ((lw_s4 A ev dc tp2 d n ver kvs _ X).mpr (nx_lw h4 fun cc tp3 hc h5=>?_))
 refine rk_nx ?_
 refine rk_seq ((lw_s5 A ev dc tp3 d n cc ver kvs _ X).mpr (mod_any (by decide) rfl fun a ha=>?_))
 have ha:=ac_an ha
 refine rk_nx ?_
 refine rk_seq ((lw_s6 A ev dc tp3 d n cc ver a kvs _ X).mpr (nx_lw h5 fun m tp4 hm h6=>⟨m,rfl,fun g hg=>?_⟩))
 refine rk_nx ?_
 refine rk_seq (lw_s7 (Nl hev (by decide)) (Nl hk.1 (by decide)) ?_)
 generalize he1:ev ++ [dsE (n.fmod 2 == 1) ver (tgS kvs)] = ev7
 have l7:ev7.length ≤ 51:=by rw [← he1,List.length_append];exact Nat.succ_le_succ hev
 refine rk_nx ?_
 refine rk_seq ((lw_s8 A ev7 dc tp4 d n cc ver a g kvs _ X).mpr ⟨rfl,fun b=>⟨rfl,rfl,rfl,rfl,rfl,rfl,rfl,rfl,bnd_of (Nl l7 (by decide)) ?_⟩⟩)
 generalize he2:ev7 ++ [evK (.sq a g (cc.fmod 2 == 1))] = ev8
 have l8:ev8.length ≤ 52:=by rw [← he2,List.length_append];exact Nat.succ_le_succ l7
 refine rk_nx ?_
 refine rk_seq ((lw_s9 A ev8 dc tp4 d n cc ver a g kvs _ X).mpr fun ai=>?_)
 refine rk_nx ?_
 refine rk_seq (lw_items h6 (Nl l8 (by decide)) fun e1 e2 tp5 p1 p2 h7=>?_)
 obtain ⟨k1,k2,k3⟩:=tgP_doc hk
 have ok:Doc.Ok ⟨n.fmod 2 == 1,bad,w,kvs,a,g,cc.fmod 2 == 1,e1,e2⟩:=⟨hw,k1,ha,hg,p1,p2,k2,k3⟩
 have k:=q ⟨n.fmod 2 == 1,bad,w,kvs,a,g,cc.fmod 2 == 1,e1,e2⟩ tp5 ok h7
 have ev2:Doc.ver ⟨n.fmod 2 == 1,bad,w,kvs,a,g,cc.fmod 2 == 1,e1,e2⟩ = ver:=ev1.symm
 have ee:ev ++ Doc.evs ⟨n.fmod 2 == 1,bad,w,kvs,a,g,cc.fmod 2 == 1,e1,e2⟩ = ((ev8 ++ (evK e1 :: e2L e2)) ++ [evSE]) ++ [evDE]:=by
  unfold Doc.evs
  rw [ev2,← he2,← he1]
  cases e2 <;> simp only [e2L,List.append_assoc,List.cons_append,List.nil_append]
 rw [ee] at k
 have k:Qs .next (lw0 A []) (lwH A (((ev8 ++ (evK e1 :: e2L e2)) ++ [evSE]) ++ [evDE]) (dc ++ [dcV (n.fmod 2 == 1) ver kvs a g (cc.fmod 2 == 1) (itsL e1 e2)]) tp5):=by rw [← ev2];exact k
 generalize he3:ev8 ++ (evK e1 :: e2L e2) = ev10 at *
 have l10:ev10.length ≤ 60:=by
  rw [← he3,List.length_append]
  cases e2 with
  | none=>exact Nl (Nat.add_le_add_right l8 _) (show 52 + 1 ≤ 60 by decide)
  | some e=>exact Nl (Nat.add_le_add_right l8 _) (show 52 + 2 ≤ 60 by decide)
 refine rk_nx ?_
 refine rk_seq ((lw_s11 A ev10 dc tp5 d n cc ver a g kvs (itsL e1 e2) _ X).mpr ⟨rfl,rfl,bnd_of (Nl hdc (by decide)) ?_⟩)
 refine rk_nx ?_
 refine rk_seq ((lw_s12 A ev10 (dc ++ [dcV (n.fmod 2 == 1) ver kvs a g (cc.fmod 2 == 1) (itsL e1 e2)]) tp5 d n cc ver a g kvs (itsL e1 e2) _ X).mpr ⟨rfl,fun b=>⟨rfl,rfl,rfl,rfl,bnd_of (Nl l10 (by decide)) ?_⟩⟩)
 exact rk_nx ((lw_s13 A (ev10 ++ [evSE]) (dc ++ [dcV (n.fmod 2 == 1) ver kvs a g (cc.fmod 2 == 1) (itsL e1 e2)]) tp5 d n cc ver a g kvs (itsL e1 e2) Qs X).mpr ⟨rfl,fun b=>⟨rfl,rfl,rfl,rfl,rfl,bnd_of (by rw [List.length_append];exact Nl (Nat.succ_le_succ l10) (by decide)) k⟩⟩)
end
noncomputable def exP:Expr → Pos | .Name _ p=>p | .Constant _ _ p=>p | .BinOp _ _ _ p=>p | .Subscript _ _ p=>p | .Slice _ _ _ p=>p | .ListComp _ _ _ p=>p | _=>⟨0,0,0,0⟩
noncomputable def exK:Expr → Nat | .Constant _ k _=>k | _=>0
noncomputable def asT:Stmt → Expr | .Assign ts _ _=>nthX 0 ts | _=>.Constant .none 0 ⟨0,0,0,0⟩
noncomputable def asV:Stmt → Expr | .Assign _ v _=>v | _=>.Constant .none 0 ⟨0,0,0,0⟩
noncomputable def asP:Stmt → Pos | .Assign _ _ p=>p | _=>⟨0,0,0,0⟩
noncomputable def lcI:Expr → Expr | .ListComp _ (g :: _) _ _=>g.iter | e=>e
noncomputable def lcT:Expr → Expr | .ListComp _ (g :: _) _ _=>g.target | e=>e
noncomputable def sbV:Expr → Expr | .Subscript v _ _=>v | .BinOp l _ _ _=>l | e=>e
noncomputable def sbI:Expr → Expr | .Subscript _ i _=>i | .BinOp _ _ r _=>r | .Slice _ (some u) _ _=>u | e=>e
noncomputable abbrev s0L:Expr:=asV (nthS 0 lawB)
noncomputable abbrev s0I:Expr:=.Subscript (.Name (t "script") (exP (sbV (lcI s0L)))) (.Slice none (some (.Constant (.int 20) (exK (sbI (sbI (lcI s0L)))) (exP (sbI (sbI (lcI s0L)))))) none (exP (sbI (lcI s0L)))) (exP (lcI s0L))
noncomputable abbrev s0E:Expr:=.BinOp (.Name (t "n") (exP (sbV (lcE s0L)))) .Mod (.Constant (.int 9660) (exK (sbI (lcE s0L))) (exP (sbI (lcE s0L)))) (exP (lcE s0L))
theorem s0_is:nthS 0 lawB = .Assign [.Name (t "tape") (exP (asT (nthS 0 lawB)))] (.ListComp s0E [⟨.Name (t "n") (exP (lcT s0L)),s0I,[],0⟩] (lcS s0L) (exP s0L)) (asP (nthS 0 lawB)):=by rfl'
theorem s0_free:((lcS s0L).names.all fun x=>x.2 != .free && x.2 != .cell && (x.2 != .local || lk x.1 (lcS s0L).names == some .local)) = true:=by rfl'
theorem s0_kind:(lcS s0L).kind = .function:=by rfl'
theorem s0_n:lk (t "n") (lcS s0L).names = some .local:=by rfl'
theorem s0_tape:lk (t "tape") lawC.names = some .local:=by rfl'
theorem s0_script:lk (t "script") lawC.names = some .local:=by rfl'
theorem s0_law:lawC.kind = .function:=by rfl'
theorem s0_sw:((exP (asT (nthS 0 lawB))).line == (exP s0L).line && !((lcS s0L).names.any fun (n,k)=>n == t "tape" && (k == .local || k == .cell))) = true:=by rfl'
noncomputable def isNumV (v:Value):Prop:=∃ n u,v = .int n u ∧ numP n
theorem paired_all {F:Value → Value → Prop} {P:Value → Prop} (h:∀ v y,F v y → P y) {vs ys:List Value} (p:Paired F vs ys):(∀ y ∈ ys,P y) ∧ ys.length = vs.length:=by
 induction p with
 | nil=>exact ⟨(fun _ hy=>nomatch hy),rfl⟩
 | cons f _ ih=>exact ⟨fun y hy=>(Mc hy).elim (fun e=>e ▸ h _ _ f) (ih.1 y),congrArg Nat.succ ih.2⟩
theorem ints_mem {v:Value} {vs:List Value} {ns:List Int} (h:IntsAre vs ns):v ∈ vs → ∃ k u,v = .int k u:=by
 induction h with
 | nil=>exact fun h=>nomatch h
 | cons k u _ ih=>exact fun h=>(Mc h).elim (fun e=>⟨k,u,e⟩) ih
theorem law_0 {prog:Program} {w:World} {A:Around} {E:Value → Shared → Prop} {s:Shared} {h₀:Heap} {name:Str} {L a:Addr} {cd:Value} {m:Str → Option Value} {l:Addr} {vs:List Value} {ns:List Int} {Q:Flow → Shared → Prop}
  (hh:A.handled = none) (F:Fr h₀ L s.heap m) (hm:m (t "script") = some (.ref l)) (hl:s.heap.IsList l vs.toArray) (hi:IntsAre vs ns) (hn:ns.length ≤ 63)
  (q:∀ D h' tk (ys:List Value) k,Fr h₀ L h' (fun z=>if z = t "tape" then some (.ref D) else m z) → News h₀ L h' [(D,W.listOf ys.toArray k)] → (∀ v ∈ ys,isNumV v) → ys.length ≤ 20 → Q .next { s with heap:=h',toks:=tk }) :
  wpAny (model prog w) A (exec (nthS 0 lawB) (envOf name lawC L a cd)) Q E s:=by
 have hk:(envOf name lawC L a cd).scope.kind = .function:=s0_law
 have al:=List.all_eq_true.mp s0_free
 simp only [Bool.and_eq_true,and_assoc,bne_iff_ne,Bool.or_eq_true,beq_iff_eq] at al
 have kt:(envOf name lawC L a cd).kindOf (t "tape") = some .local:=by show List.lookup (t "tape") lawC.names = _;rw [← lk_lookup];exact s0_tape
 have ks:(envOf name lawC L a cd).kindOf (t "script") = some .local:=by show List.lookup (t "script") lawC.names = _;rw [← lk_lookup];exact s0_script
 have hx:(lcS s0L).names.lookup (t "n") = some .local:=by rw [← lk_lookup];exact s0_n
 have hvs:vs.length = ns.length:=hi.length
 rw [s0_is]
 refine wpAny_Assign_ListComp_free (fun _=>true) (fun _ y=>isNumV y) ?_ (closureFor_none fun x hx=>(al x hx).1) (fun y hy=>(al y hy).2.1) s0_kind (fun y hy e=>by rw [← lk_lookup];exact (al y hy).2.2.resolve_left fun q=>q e) hx kt (by rw [hk];rfl) ?_
 ·show (pure ((envOf name lawC L a cd).blockKind == .function && (envOf name lawC L a cd).kindOf (t "tape") == some .local && (exP (asT (nthS 0 lawB))).line == (exP s0L).line && !((lcS s0L).names.any fun (n,k)=>n == t "tape" && (k == .local || k == .cell))):Sem Bool) = pure true
  have hb:=Ba s0_sw
  have bk:(envOf name lawC L a cd).blockKind = .function:=by rfl'
  rw [kt,bk,hb.1,hb.2]
  rfl
 ·refine Subscript_ (wpAny_Name (wpAny_loadName_local hk ks F.ns hm ?_) (by decide +kernel))
  refine wpAny_Slice (wpAny_pure (Constant_int' (k:=exK (sbI (sbI (lcI s0L)))) (pos:=exP (sbI (sbI (lcI s0L)))) fun t' tk'=>wpAny_pure ?_))
  have hsz:vs.toArray.size ≤ sizeLine:=by rw [List.size_toArray,hvs];exact Nl hn (by decide)
  refine slice_list (s:={ s with toks:=tk' }) F News.nil hl (.none) (.int 20 t') (fun h1 F1 N1=>?_) (hsz:=hsz)
  have i1:=kmk_upto hi (y:=20) (by decide)
  generalize slicePick vs.toArray none (some 20) none = items at N1 i1
  have li:items.size ≤ 20:=by
   have:=i1.length
   rw [List.length_take,Array.length_toList] at this
   (first | lia | omega)
  have hl1:h1.IsList (s.heap.objs.size + 1) items:=⟨_,(N1 _ (.head _)).1,rfl,_,rfl⟩
  have lt1:s.heap.objs.size + 1 < h1.objs.size:=Heap.lt_size (N1 _ (.head _)).1
  have hLs:L < h1.objs.size:=by obtain ⟨o,_,_,ho,_⟩:=F1.ns;exact Heap.lt_size ho
  refine wpAny_pyIter_list (s:={ s with heap:=h1,toks:=tk' }) hl1 ⟨h1.objs.size,_,_,_,_,_,m,rfl,Walks.list hh h1.objs.size (s.heap.objs.size + 1) (Nat.ne_of_lt lt1) items,Nl li (by decide),⟨⟨_,Heap.get?_push_size _ rfl,rfl,rfl⟩,hl1.push _⟩,fun b hb=>?_,fun hm=>?_,F1.ns.push _,⟨fun C i v s₃ m₃ E' _ _ _ _ _ _=>wpAny_pure ⟨rfl,s₃.heap,s₃.toks,rfl,fun _ _ e=>e⟩,fun C i v s₃ m₃ E' _ hv _ hns hm3 _ _=>?_⟩,fun D h' tk ys vs2 hD _ pl hlen hvs2 hF hns hkk=>?_⟩
  ·rw [Heap.size_push]
   rcases Mc hb with rfl | hb
   ·exact Nat.lt_succ_self _
   ·rw [Ms hb];exact Nat.lt_succ_of_lt lt1
  ·exact absurd hLs (by rw [show L = h1.objs.size from Ms hm];exact Nat.lt_irrefl _)
  ·obtain ⟨k,u,rfl⟩:∃ k u,v = .int k u:=by
    have hv:items[i]? = some v:=hv
    have hv:items.toList[i]? = some v:=by rw [Array.getElem?_toList];exact hv
    exact ints_mem i1 (List.mem_of_getElem? hv)
   have kc:(compEnvC (lcS s0L) [] C (envOf name lawC L a cd)).kindOf (t "n") = some .local:=lookup_relabel_local hx
   refine wpAny_BinOp (wpAny_Name (wpAny_loadName_local s0_kind kc hns hm3 (Constant_int' fun t2 tk2=>?_)) (by decide +kernel))
   exact mod_int' (by decide) ⟨⟨_,_,rfl,Int.fmod_nonneg_of_pos _ (by decide),Int.fmod_lt_of_pos _ (by decide)⟩,_,_,rfl,fun _ _ e=>e⟩
  ·have pa:=paired_all (P:=isNumV) (fun _ _ h=>h) hF
   rw [List.filter_eq_self.mpr fun _ _=>rfl] at pa
   obtain ⟨k,e⟩:=pl
   have keep:∀ b o,h₀.get? b = some o → h'.get? b = some o:=fun b o e0=>by
    have e1:=F1.keep b o e0
    have lb:=Heap.lt_size e1
    exact hkk b o (Nat.ne_of_lt (Nat.lt_of_lt_of_le (Heap.lt_size e0) F1.above)) (fun hm=>absurd lb (by rw [Ms hm];exact Nat.lt_irrefl _)) (Heap.get?_push_of_some _ e1)
   have hDL:D ≠ L:=fun e2=>by
    obtain ⟨o,_,_,ho,_⟩:=F1.ns
    rw [e2] at hD
    exact absurd (hD.symm.trans (Heap.get?_push_of_some _ ho)) (by intro q;cases q)
   have h0D:h₀.get? D = none:=by
    cases e2:h₀.get? D with
    | none=>rfl
    | some o=>exact absurd (hD.symm.trans (Heap.get?_push_of_some _ (F1.keep _ _ e2))) (by intro q;cases q)
   refine q D h' tk ys.toList k ⟨hns,keep,F1.above⟩ (fun r hr=>?_) pa.1 (by rw [pa.2,hlen];exact li)
   rw [Ms hr]
   exact ⟨by rw [Array.toArray_toList];exact e,hDL,h0D⟩
section
variable (A:LA) (at' ad:Addr) (ev dc tp:List SV) (n:Int) (h:Int) (c:Bool) (i:Int) (Qs:QS) (X:XC)
noncomputable abbrev tpH:Hp:=[(1105004,some at',.list tp)]
theorem la_1:lwO 60 (nthS 1 lawB) [(t "tape",tpV at')] (tpH at' tp) Qs X = nxS [tpV at'] (tpH at' tp) (fun v H=>Qs .next [(t "tape",tpV at'),(t "h",v)] H) X:=by rfl'
theorem la_2:lwO 60 (nthS 2 lawB) [(t "tape",tpV at'),(t "h",.int n)] (tpH at' tp) Qs X = Qs .next [(t "tape",tpV at'),(t "h",.int n),(t "canonical",.bool (n.fmod 3 == 1))] (tpH at' tp):=by rfl'
theorem la_3:lwO 60 (nthS 3 lawB) [(t "tape",tpV at'),(t "h",.int n),(t "canonical",.bool c)] (tpH at' tp) Qs X = Qs .next [(t "tape",tpV at'),(t "h",.int n),(t "canonical",.bool c),(t "step",.int (2 + n.fmod 8))] (tpH at' tp):=by rfl'
theorem la_4:lwO 60 (nthS 4 lawB) [(t "tape",tpV at'),(t "h",.int n),(t "canonical",.bool c),(t "step",.int i)] (tpH at' tp) Qs X = ∀ ad,Qs .next [(t "tape",tpV at'),(t "h",.int n),(t "canonical",.bool c),(t "step",.int i),(t "docs",.obj 1109004 (some ad))] ((1109004,some ad,.list []) :: tpH at' tp):=by rfl'
theorem la_5:lwO 60 (nthS 5 lawB) [(t "tape",tpV at'),(t "h",.int n),(t "canonical",.bool c),(t "step",.int i),(t "docs",.obj 1109004 (some ad))] ((1109004,some ad,.list []) :: tpH at' tp) Qs X = ∀ b:Addr,b = b ∧ b = b ∧ b = b ∧ b = b ∧ ∀ ae,Qs .next (lw0 ⟨at',ad,ae,n,c,i⟩ []) (lwH ⟨at',ad,ae,n,c,i⟩ [evSS0] [] tp):=by rfl'
theorem la_6:lwO 60 (nthS 6 lawB) (lw0 A []) (lwH A ev dc tp) Qs X = ((2:Int) ≤ 1000000 ∧ (-1000000:Int) ≤ 2 ∧ forL lwT (lwX 59) (t "d") lwF [.int 0,.int 1] (lw0 A []) (lwH A ev dc tp) (lwQ3 (t "docs") Qs) X):=by rfl'
noncomputable abbrev lwE (e:SV):Loc:=[(t "tape",tpV A.t),(t "h",.int A.h),(t "canonical",.bool A.c),(t "step",.int A.i),(t "docs",.lst dc),(t "events",e)]
theorem la_q6:lwQ3 (t "docs") Qs .next (lw0 A []) (lwH A ev dc tp) = (A.d = A.d ∧ Qs .next (lwE A dc (.obj 1110004 (some A.e))) [(1110004,some A.e,.list ev),(1105004,some A.t,.list tp)]):=by rfl'
theorem la_7:lwO 60 (nthS 7 lawB) (lwE A dc (.obj 1110004 (some A.e))) [(1110004,some A.e,.list ev),(1105004,some A.t,.list tp)] Qs X = (A.e = A.e ∧ ∀ b:Addr,b = b ∧ b = b ∧ b = b ∧ A.e = A.e ∧ bnd sizeLine ev.length (A.e = A.e ∧ Qs .next (lwE A dc (.lst (ev ++ [evSE0]))) (tpH A.t tp))):=by rfl'
end
theorem rk_fe {T:Tab} {S:WS} {x:Str} {b:List Stmt} {loc:Loc} {H:Hp} {Q:QS} {X:XC} (h:Q .next loc H):afterV .next loc H Q (fun loc H=>forL T S x b [] loc H Q X):=h
noncomputable def lawA:List Stmt:=[nthS 1 lawB] ++ ([nthS 2 lawB] ++ ([nthS 3 lawB] ++ ([nthS 4 lawB] ++ ([nthS 5 lawB] ++ ([nthS 6 lawB] ++ [nthS 7 lawB])))))
theorem nx_tp {at':Addr} {tp:List SV} {Q:QV} {X:XC} (h2:tapeP tp) (k:∀ n tp',numP n → tapeP tp' → Q (.int n) (tpH at' tp')):nxS [tpV at'] (tpH at' tp) Q X:=⟨at',tp,rfl,by rfl',h2,fun n tp' h3 h4=>by
 rw [show setH 1105004 (.list tp') (tpH at' tp) = tpH at' tp' from by rfl']
 exact k n tp' h3 h4⟩
noncomputable def evsL (D1 D2:Doc):List SV:=evSS0 :: (D1.evs ++ (D2.evs ++ [evSE0]))
theorem evs_len (D:Doc):D.evs.length ≤ 6:=by
 unfold Doc.evs
 cases D.e2 with
 | none=>exact (show 5 ≤ 6 by decide)
 | some e=>exact Nat.le_refl _
theorem law_a {at':Addr} {tp:List SV} {Qs:QS} {X:XC} (h2:tapeP tp) (q:∀ (A:LA) D1 D2 tp',D1.Ok → D2.Ok → 2 ≤ A.i ∧ A.i ≤ 9 → Qs .next (lwE A [D1.val,D2.val] (.lst (evsL D1 D2))) (tpH A.t tp')):exeL lwT (lwX 60) lawA [(t "tape",tpV at')] (tpH at' tp) Qs X:=by
 refine rk_seq ((la_1 at' tp _ X).mpr (nx_tp h2 fun n tp1 hn h3=>?_))
 refine rk_nx ?_
 refine rk_seq ((la_2 at' tp1 n _ X).mpr ?_)
 refine rk_nx ?_
 refine rk_seq ((la_3 at' tp1 n _ _ X).mpr ?_)
 refine rk_nx ?_
 have m0:=Int.fmod_nonneg_of_pos n (show (0:Int) < 8 by decide)
 have m1:=Int.fmod_lt_of_pos n (show (0:Int) < 8 by decide)
 refine rk_seq ((la_4 at' tp1 n _ _ _ X).mpr fun ad=>?_)
 refine rk_nx ?_
 refine rk_seq ((la_5 at' ad tp1 n _ _ _ X).mpr fun b=>⟨rfl,rfl,rfl,rfl,fun ae=>?_⟩)
 refine rk_nx ?_
 generalize hA:(⟨at',ad,ae,n,n.fmod 3 == 1,2 + n.fmod 8⟩:LA) = A
 have hi:2 ≤ A.i ∧ A.i ≤ 9:=by rw [← hA];exact ⟨by show (2:Int) ≤ 2 + n.fmod 8;(first | lia | omega),by show 2 + n.fmod 8 ≤ (9:Int);(first | lia | omega)⟩
 refine rk_seq ((la_6 A [evSS0] [] tp1 _ X).mpr ⟨by decide,by decide,?_⟩)
 have hp:put (t "d") (.int 0) (lw0 A []) = lw1 A 0 []:=by rfl'
 have hp1:put (t "d") (.int 1) (lw0 A []) = lw1 A 1 []:=by rfl'
 show exeL lwT (lwX 59) lwF (put (t "d") (.int 0) (lw0 A [])) (lwH A [evSS0] [] tp1) _ X
 rw [hp]
 refine lw_turn h3 (show 1 ≤ 50 by decide) (show 0 ≤ 50 by decide) fun D1 tp2 k1 h4=>?_
 show exeL lwT (lwX 59) lwF (put (t "d") (.int 1) (lw0 A [])) (lwH A ([evSS0] ++ D1.evs) ([] ++ [D1.val]) tp2) _ X
 rw [hp1]
 have l1:=evs_len D1
 refine lw_turn h4 (by rw [List.length_append];exact Nl (Nd l1 _) (show 1 + 6 ≤ 50 by decide)) (show 1 ≤ 50 by decide) fun D2 tp3 k2 h5=>?_
 have l2:=evs_len D2
 refine rk_fe ?_
 refine (la_q6 A _ _ tp3 _).mpr ⟨rfl,?_⟩
 refine rk_nx ?_
 refine (la_7 A (([evSS0] ++ D1.evs) ++ D2.evs) (([] ++ [D1.val]) ++ [D2.val]) tp3 Qs X).mpr ⟨rfl,fun b=>⟨rfl,rfl,rfl,rfl,bnd_of ?_ ⟨rfl,?_⟩⟩⟩
 ·rw [List.length_append,List.length_append]
  exact Nl (Nat.add_le_add (Nd l1 _) l2) (show 1 + 6 + 6 ≤ sizeLine by decide)
 ·have k:=q A D1 D2 tp3 k1 k2 hi
  have e:(([evSS0] ++ D1.evs) ++ D2.evs) ++ [evSE0] = evsL D1 D2:=by simp only [evsL,List.append_assoc,List.cons_append,List.nil_append]
  rw [e]
  exact k
noncomputable def lw9:Fns:=(771,0,[],clsK 771 4 (eS [] 0 e_51)) :: (736,1,[t "canonical",t "indent",t "width"],clsK 736 0 (eS [] 0 e_48)) :: (330,2,[],emW) :: lw
noncomputable abbrev lw9T:Tab:=tL lw9 2
noncomputable abbrev lw9X (n:Nat):WS:=(wp lw9T lawC n).S
noncomputable abbrev lw9O (n:Nat) (s:Stmt) (loc:Loc) (H:Hp) (Qs:QS) (X:XC):Prop:=exeL lw9T (lw9X n) [s] loc H Qs X
noncomputable def repA (a:Addr):Nat → Prop → Prop
 | 0,P=>P
 | n + 1,P=>a = a ∧ repA a n P
theorem rep_of {a:Addr} {P:Prop} (h:P):∀ n,repA a n P
 | 0=>h
 | n + 1=>⟨rfl,rep_of h n⟩
structure EA where
 e:Addr
 st:Addr
 ev:Addr
 ind:Addr
 w:Addr
 r:Addr
noncomputable def emQ (c:Bool) (i:Int) (v0 v1 v2 v3 v4:SV):List (Str × SV):=[(t "stream",v4),(t "encoding",.none),(t "states",v1),(t "state",.meth 359 v0),(t "events",v2),(t "event",.none),(t "indents",v3),(t "indent",.none),(t "flow_level",.int 0),(t "root_context",.bool false),(t "sequence_context",.bool false),(t "mapping_context",.bool false),(t "simple_key_context",.bool false),(t "line",.int 0),(t "column",.int 0),(t "whitespace",.bool true),(t "indention",.bool true),(t "open_ended",.bool false),(t "canonical",.bool c),(t "allow_unicode",.none),(t "best_indent",.int i),(t "best_width",.int 1000),(t "best_line_break",.str (t "\n")),(t "tag_prefixes",.none),(t "prepared_anchor",.none),(t "prepared_tag",.none),(t "analysis",.none),(t "style",.none)]
noncomputable abbrev emH (B:EA) (c:Bool) (i:Int):Hp:=[(99008,some B.ind,.list []),(97008,some B.ev,.list []),(95008,some B.st,.list []),(0,some B.e,.inst 736 (emQ c i (.obj 0 (some B.e)) (.obj 95008 (some B.st)) (.obj 97008 (some B.ev)) (.obj 99008 (some B.ind)) (.obj 4 (some B.w)))),(966008,some B.r,.acc Str.empty 0),(4,some B.w,.inst 771 [(t "rows",.obj 966008 (some B.r))])]
section
variable (c:Bool) (i:Int) (dc es:List SV) (tx:Str) (f:Bool) (H:Hp) (Qs:QS) (X:XC)
noncomputable abbrev lb0 (r:Loc):Loc:=(t "canonical",.bool c) :: (t "step",.int i) :: (t "docs",.lst dc) :: (t "events",.lst es) :: r
noncomputable abbrev lb1 (r:Loc):Loc:=lb0 c i dc es ((t "text",.str tx) :: (t "fine",.bool f) :: r)
theorem lb_8:lw9O 60 (nthS 8 lawB) (lb0 c i dc es []) [] Qs X = rcS [.lst dc,.bool c,.int i] [] (fun v H=>asgT lw9T lawC (wp lw9T lawC 59) (tgtE (nthS 8 lawB)) v (lb0 c i dc es []) H (fun loc H=>Qs .next loc H) X) X:=by rfl'
theorem lb_8u:asgT lw9T lawC (wp lw9T lawC 59) (tgtE (nthS 8 lawB)) (.tup [.str tx,.bool f]) (lb0 c i dc es []) H (fun loc H=>Qs .next loc H) X = Qs .next (lb1 c i dc es tx f []) H:=by rfl'
noncomputable def E9 (i:Int):Prop:=∀ (c:Bool) (dc es:List SV) (tx:Str) (f:Bool) (Qs:QS) (X:XC),lw9O 60 (nthS 9 lawB) (lb1 c i dc es tx f []) [] Qs X = ∀ w r:Addr,repA w 1 (∀ e:Addr,repA e 2 (∀ st:Addr,repA e 3 (∀ ev:Addr,repA e 2 (∀ ind:Addr,repA e 18 (IntMulOk i 2 ∧ repA e 7 (Qs .next (lb1 c i dc es tx f [(t "emitter",.obj 0 (some e))]) (emH ⟨e,st,ev,ind,w,r⟩ c i)))))))
end
theorem e9_2:E9 2:=fun c dc es tx f Qs X=>by rfl'
theorem e9_3:E9 3:=fun c dc es tx f Qs X=>by rfl'
theorem e9_4:E9 4:=fun c dc es tx f Qs X=>by rfl'
theorem e9_5:E9 5:=fun c dc es tx f Qs X=>by rfl'
theorem e9_6:E9 6:=fun c dc es tx f Qs X=>by rfl'
theorem e9_7:E9 7:=fun c dc es tx f Qs X=>by rfl'
theorem e9_8:E9 8:=fun c dc es tx f Qs X=>by rfl'
theorem e9_9:E9 9:=fun c dc es tx f Qs X=>by rfl'
theorem e9_all {i:Int} (h1:2 ≤ i) (h2:i ≤ 9):E9 i:=by
 rcases i_29 h1 h2 with rfl | rfl | rfl | rfl | rfl | rfl | rfl | rfl
 ·exact e9_2
 ·exact e9_3
 ·exact e9_4
 ·exact e9_5
 ·exact e9_6
 ·exact e9_7
 ·exact e9_8
 ·exact e9_9
theorem lb_10 (c:Bool) (i:Int) (dc es:List SV) (tx:Str) (f:Bool) (v:SV) (H:Hp) (Qs:QS) (X:XC):lw9O 60 (nthS 10 lawB) (lb1 c i dc es tx f [(t "emitter",v)]) H Qs X = Qs .next (lb1 c i dc es tx f [(t "emitter",v),(t "refused",.bool false)]) H:=by rfl'
noncomputable def lawD:List Stmt:=[nthS 8 lawB] ++ ([nthS 9 lawB] ++ [nthS 10 lawB])
theorem law_b {c:Bool} {i:Int} {es:List SV} {D1 D2:Doc} {Qs:QS} {X:XC} (h1:D1.Ok) (h2:D2.Ok) (hi:2 ≤ i ∧ i ≤ 9)
  (q:∀ B:EA,Qs .next (lb1 c i [D1.val,D2.val] es (allT c i D1 D2).1 (allT c i D1 D2).2 [(t "emitter",.obj 0 (some B.e)),(t "refused",.bool false)]) (emH B c i)):exeL lw9T (lw9X 60) lawD (lb0 c i [D1.val,D2.val] es []) [] Qs X:=by
 refine rk_seq ((lb_8 c i _ es _ X).mpr ⟨D1,D2,c,i,rfl,rfl,⟨h1,h2,hi.1,hi.2⟩,?_⟩)
 refine (lb_8u c i _ es (allT c i D1 D2).1 (allT c i D1 D2).2 [] (fun f loc H=>afterV f loc H Qs fun loc H=>exeL lw9T (lw9X 60) ([nthS 9 lawB] ++ [nthS 10 lawB]) loc H Qs X) X).mpr ?_
 refine rk_nx ?_
 refine rk_seq ((e9_all hi.1 hi.2 c _ es _ _ _ X).mpr fun w r=>rep_of (fun e=>rep_of (fun st=>rep_of (fun ev=>rep_of (fun ind=>rep_of ⟨?_,rep_of ?_ 7⟩ 18) 2) 3) 2) 1)
 ·exact IntMulOk.of_right (by decide)
 ·refine rk_nx ?_
  exact (lb_10 c i _ es _ _ _ _ Qs X).mpr (q ⟨e,st,ev,ind,w,r⟩)
theorem exeL_then {n:Nat} (so:SOk n) {Z:Cx} {F:Lg} {B:List Stmt} {Q:QS} {Qc:Flow → Shared → Prop} (p:Pl Z) (A:List Stmt):∀ {loc:Loc} {m:Str → Option Value} {M:Mo Z F loc m},exeL Z.T (Z.r n).S A loc M.H Q Z.X →
  (∀ fl fv loc' m' (M':Mo Z F loc' m'),Sub M.R M'.R → Q fl loc' M'.H → FlR Z.G.P M'.R fl fv → (match fv with | .next=>W M' (execs B Z.c.env) Qc | f=>Qc f M'.s)) → W M (execs (A ++ B) Z.c.env) Qc:=by
 induction A with
 | nil=>intro loc m M t q;exact q .next .next loc m M (Sub.refl _) t rfl
 | cons a ss ih =>
  intro loc m M t q
  refine wpAny_execs_cons (so (st:=a) p t fun fl fv loc' m' M' s' t' f'=>?_)
  cases fl with
  | next =>
   cases f'
   have t':frzV Z.T (stLine a) loc' M'.H fun loc H=>exeL Z.T (Z.r n).S ss loc H Q Z.X:=t'
   obtain ⟨loc2,M2,s2,t2,e⟩:=frz_ok t'
   show wpAny Z.G.M Z.c.A (execs (ss ++ B) Z.c.env) Qc Z.Ec M'.s
   rw [← e]
   exact ih (M:=M2) t2 fun fl fv loc3 m3 M3 s3=>q fl fv loc3 m3 M3 ((s'.trans s2).trans s3)
  | ret sv =>
   obtain ⟨v,rfl,rv⟩:=f'
   exact q (.ret sv) _ _ _ M' s' t' ⟨v,rfl,rv⟩
section
variable {Z:Cx} {F:Lg} {loc:Loc} {m:Str → Option Value}
theorem loop_h {M:Mo Z F loc m} {a:Addr} {vs:List Value} {k:Nat} {xs:List SV} {y:Str} {body:List Stmt} {J:List SV → Hp → Prop} {loc0:Loc} {Qc:Flow → Shared → Prop} (hd:Z.c.A.handled = none) (hm:(a,W.listOf vs.toArray k) ∈ M.R) (rr:VRs Z.G.P M.R xs vs) (hy:lk y loc0 = none) (l0:LR Z.G.P M.R loc0 m)
  (turn:∀ {F':Lg} {m':Str → Option Value} (sv:SV) (r:List SV) (M':Mo Z F' (put y sv loc0) m'),Sub F F' → Sub M.R M'.R → J (sv :: r) M'.H → W M' (execs body Z.c.env) (fun f s'=>f = .next ∧ ∃ M2:Mo Z F' (put y sv loc0) m',s' = M2.s ∧ Sub M'.R M2.R ∧ J r M2.H))
  (j0:J xs M.H) (q:∀ (m':Str → Option Value) (M':Mo Z F loc0 m'),Sub M.R M'.R → J [] M'.H → Qc .next M'.s) :
  W M (pyIter (.ref a)) (fun it s₂=>LoopAtV Z.G.prog Z.G.w Z.c.A Z.c.h₀ Z.c.env y body Qc Z.Ec it s₂):=by
 have hl:=M.isList (M.inR hm)
 have hne:a ≠ M.h.objs.size:=Nat.ne_of_lt (Heap.lt_size (M.get (M.inR hm)))
 have hL:Z.c.env.locals = Z.c.L:=rfl
 have hn:vs.toArray.size = xs.length:=by rw [List.size_toArray,rr.length]
 obtain ⟨oL,_,_,hgL,_⟩:=M.st.fr.ns
 have lt:∀ {b o},M.h.get? b = some o → b ≠ M.h.objs.size:=fun e q=>absurd (Heap.lt_size e) (by rw [q];exact Nat.lt_irrefl _)
 have h0I:Z.c.h₀.get? M.h.objs.size = none:=by
  cases e:Z.c.h₀.get? M.h.objs.size with
  | none=>rfl
  | some o=>exact (lt (M.st.fr.keep _ _ e) rfl).elim
 refine wpAny_pyIter_list (s:=M.s) hl ⟨M.h.objs.size,_,_,_,_,_,m,M.L,fun i m' news=>∃ H' R' N',news = N' ++ (R' ++ F) ∧ Led Z.G.P H' N' R' F ∧ Sub M.R R' ∧ LR Z.G.P R' loc0 m' ∧ J (xs.drop i) H',rfl,Walks.list hd M.h.objs.size a hne vs.toArray,fun hm'=>?_,fun b hb=>by rw [Ms hb];exact h0I,fun q hq hm=>lt (M.st.nw q hq).1 (Ms hm),⟨⟨_,Heap.get?_push_size _ rfl,rfl,rfl⟩,hl.push _⟩,M.st.fr.push _,fun q hq=>⟨Heap.get?_push_of_some _ (M.st.nw q hq).1,(M.st.nw q hq).2⟩,
  ⟨M.H,M.R,M.N,rfl,M.st.led,Sub.refl _,l0,j0⟩,?_,?_⟩
 ·rcases Mc hm' with e | hm'
  ·exact lt hgL e
  ·exact (M.st.nw _ (M.inR hm)).2.1 (Ms hm').symm
 ·rintro i v m₁ news₁ s₁ ow ⟨g,tk1,rfl⟩ hi hp ⟨H',R',N',rfl,led,sR,l',t'⟩ hoff hown hget hall hst F₁ N₁
  have hi:i < vs.toArray.size:=hi
  obtain ⟨sv,hx,rv⟩:=rr.back i (v:=v) (by have hp:vs.toArray[i]? = some v:=hp;rw [List.getElem?_toArray] at hp;exact hp)
  obtain ⟨⟨oI',hoI,_⟩,_⟩:=hst
  have hin:(M.h.objs.size,oI') ∈ ow:=hall _ (.head _) h0I oI' hoI
  have nI:∀ r ∈ N' ++ (R' ++ F),r.1 ≠ M.h.objs.size:=fun r hr e=>hoff r hr (List.mem_singleton.mpr e)
  have N₂:News Z.c.h₀ Z.c.L g (N' ++ (R' ++ (M.h.objs.size,oI') :: F)):=fun r hr=>N₁ r ((plus_mem hr).elim (fun e=>Ml _ (e ▸ hin)) fun k=>Mr _ k)
  have ed:xs.drop i = sv :: xs.drop (i + 1):=by
   have hlt:i < xs.length:=hn ▸ hi
   rw [List.getElem?_eq_getElem hlt] at hx
   cases hx
   exact List.drop_eq_getElem_cons hlt
  rw [ed] at t'
  let M1:Mo Z ((M.h.objs.size,oI') :: F) (put y sv loc0) (fun z=>if z = y then some v else m₁ z):=⟨H',R',N',g,tk1,⟨F₁,N₂,led.plus nI⟩,l'.put (rv.mono sR),M.sub.trans sR,M.fs.trans (Sub.cons _ _)⟩
  refine wpAny_mono (turn sv (xs.drop (i + 1)) M1 (Sub.cons _ _) sR t') (fun f s' h=>?_) fun _ _ e=>e
  obtain ⟨rfl,M2,rfl,s2,t2⟩:=h
  have s2:Sub R' M2.R:=s2
  have bk:=loop_back M2 (ow:=ow) (fun r hr=>?_) fun r hr=>nI r (Mr _ (Mr _ hr))
  ·refine ⟨rfl,M2.h,M2.tk,_,M2.N ++ (M2.R ++ F),rfl,M2.st.fr,bk.1,bk.2,⟨M2.H,M2.R,M2.N,rfl,M2.st.led.less (Sub.cons _ _),sR.trans s2,fun z w e=>M2.lr z w ?_,t2⟩⟩
   rw [lk_put]
   cases q:sbeq z y with
   | false=>exact e
   | true=>rw [of_sbeq q,hy] at e;cases e
  ·have e1:=hget r hr
   rcases Mc (hown r hr) with e | e
   ·rw [e] at e1
    exact .inl (Prod.ext e (Option.some.inj (hoI.symm.trans e1)).symm)
   ·have e:=Ms e
    have e2:=(N₂ _ (Mr _ (Ml _ (sR _ hm)))).1
    rw [e] at e1
    have:r = (a,W.listOf vs.toArray k):=Prod.ext e (Option.some.inj (e1.symm.trans e2))
    exact .inr (this ▸ s2 _ (sR _ hm))
 ·rintro h' tk' m' news' F' N2 hoff ⟨H',R',N',rfl,led,sR,l',t'⟩
  have hn2:xs.drop vs.toArray.size = []:=by rw [hn,List.drop_length]
  rw [hn2] at t'
  exact q m' (⟨H',R',N',h',tk',⟨F',N2,led⟩,l',M.sub.trans sR,M.fs⟩:Mo Z F loc0 m') sR t'
end
inductive NN:SV → Prop
 | none:NN .none
 | bool (b:Bool):NN (.bool b)
 | int (i:Int):NN (.int i)
 | str (s:Str):NN (.str s)
 | tup (xs:List SV):(∀ x ∈ xs,NN x) → NN (.tup xs)
 | lst (xs:List SV):(∀ x ∈ xs,NN x) → NN (.lst xs)
 | dct (kvs:List (Str × SV)):((kvs.map (·.1)).Nodup → ∀ q ∈ kvs,NN q.2) → NN (.dct kvs)
 | inst (c:Addr) (kvs:List (Str × SV)):(∀ q ∈ kvs,NN q.2) → NN (.inst c kvs)
section
variable {P:Params} {pa pa':Nat → Addr} {R:Lg}
theorem NN.vr {x:SV} {v:Value} (n:NN x) (r:VR ⟨P,pa⟩ R x v):VR ⟨P,pa'⟩ R x v:=by
 revert n
 refine VR.rec (motive_1:=fun x v _=>NN x → VR ⟨P,pa'⟩ R x v) (motive_2:=fun xs vs _=>(∀ x ∈ xs,NN x) → VRs ⟨P,pa'⟩ R xs vs) (motive_3:=fun kvs es _=>(∀ q ∈ kvs,NN q.2) → DR ⟨P,pa'⟩ R kvs es) (fun _=>.none) (fun b _=>.bool b) (fun i t _=>.int i t) (fun s t _=>.str s t) (fun _ _ _ _ n=>(nomatch n)) (fun _ n=>(nomatch n)) (fun _ _ n=>(nomatch n)) (fun a vs n xs m _ ih nn=>?_)
  (fun a vs n xs m _ ih nn=>?_) (fun a es n kvs m _ d e ih nn=>?_) (fun _ _ _ _ _ _ _ n=>(nomatch n)) (fun a d c es n kvs m m' _ ih nn=>?_) (fun _=>.nil) (fun _ _ ih1 ih2 nn=>?_) (fun _=>.nil) (fun _ _ ih1 ih2 nn=>?_) r
 ·cases nn with | tup _ h=>exact .tup a vs n xs m (ih h)
 ·cases nn with | lst _ h=>exact .lst a vs n xs m (ih h)
 ·cases nn with | dct _ h=>exact .dct a es n kvs m (ih (h d)) d e
 ·cases nn with | inst _ _ h=>exact .inst a d c es n kvs m m' (ih h)
 ·exact .cons (ih1 (nn _ (.head _))) (ih2 fun x hx=>nn x (.tail _ hx))
 ·exact .cons (ih1 (nn _ (.head _))) (ih2 fun x hx=>nn x (.tail _ hx))
theorem dr_step {x y:SV} {kvs kvs':List (Str × SV)} (f:∀ v,VR ⟨P,pa⟩ R x v → VR ⟨P,pa'⟩ R y v) (g:∀ es,DR ⟨P,pa⟩ R kvs es → DR ⟨P,pa'⟩ R kvs' es) (k:Str):∀ es,DR ⟨P,pa⟩ R ((k,x) :: kvs) es → DR ⟨P,pa'⟩ R ((k,y) :: kvs') es:=fun es r=>by
 cases r with | cons a b=>exact .cons (f _ a) (g _ b)
theorem dr_no {kvs kvs':List (Str × SV)} (g:∀ es,DR ⟨P,pa⟩ R kvs es → DR ⟨P,pa'⟩ R kvs' es) (k:Str):∀ es,DR ⟨P,pa⟩ R ((k,.none) :: kvs) es → DR ⟨P,pa'⟩ R ((k,.none) :: kvs') es:=dr_step (fun _ r=>NN.vr .none r) g k
theorem dr_b {b:Bool} {kvs kvs':List (Str × SV)} (g:∀ es,DR ⟨P,pa⟩ R kvs es → DR ⟨P,pa'⟩ R kvs' es) (k:Str):∀ es,DR ⟨P,pa⟩ R ((k,.bool b) :: kvs) es → DR ⟨P,pa'⟩ R ((k,.bool b) :: kvs') es:=dr_step (fun _ r=>NN.vr (.bool _) r) g k
theorem dr_i {i:Int} {kvs kvs':List (Str × SV)} (g:∀ es,DR ⟨P,pa⟩ R kvs es → DR ⟨P,pa'⟩ R kvs' es) (k:Str):∀ es,DR ⟨P,pa⟩ R ((k,.int i) :: kvs) es → DR ⟨P,pa'⟩ R ((k,.int i) :: kvs') es:=dr_step (fun _ r=>NN.vr (.int _) r) g k
theorem obj_re {l l':Nat} {a:Addr} (h:pa' l' = a):∀ v,VR ⟨P,pa⟩ R (.obj l (some a)) v → VR ⟨P,pa'⟩ R (.obj l' none) v:=fun v r=>by
 subst h
 cases r
 exact .obj l' none
theorem meth_re {l l':Nat} {a f:Addr} (h:pa' l' = a):∀ v,VR ⟨P,pa⟩ R (.meth f (.obj l (some a))) v → VR ⟨P,pa'⟩ R (.meth f (.obj l' none)) v:=fun v r=>by
 cases r with | meth a f v x m r=>exact .meth a f v _ m (obj_re h v r)
end
noncomputable def paB (B:EA):Nat → Addr:=fun l=>match l with | 0=>B.e | 1=>B.st | 2=>B.ev | 3=>B.ind | 4=>B.w | _=>B.r
theorem emK_eq (c:Bool) (i:Int):emK (em0 c i) .none = emQ c i me (.obj 1 none) (.obj 2 none) (.obj 3 none) (.obj 4 none):=by rfl'
theorem dr_em {P:Params} {pa:Nat → Addr} {R:Lg} (B:EA) (c:Bool) (i:Int):∀ es,DR ⟨P,pa⟩ R (emQ c i (.obj 0 (some B.e)) (.obj 95008 (some B.st)) (.obj 97008 (some B.ev)) (.obj 99008 (some B.ind)) (.obj 4 (some B.w))) es → DR ⟨P,paB B⟩ R (emK (em0 c i) .none) es:=by
 rw [emK_eq]
 have h0:paB B 0 = B.e:=rfl
 have h1:paB B 1 = B.st:=rfl
 have h2:paB B 2 = B.ev:=rfl
 have h3:paB B 3 = B.ind:=rfl
 have h4:paB B 4 = B.w:=rfl
 exact dr_step (obj_re h4) (dr_no (dr_step (obj_re h1) (dr_step (meth_re h0) (dr_step (obj_re h2) (dr_no (dr_step (obj_re h3) (dr_no (dr_i (dr_b (dr_b (dr_b (dr_b (dr_i (dr_i (dr_b (dr_b (dr_b (dr_b (dr_no (dr_i (dr_i (dr_step (fun _ r=>NN.vr (.str _) r) (dr_no (dr_no (dr_no (dr_no (dr_no (fun es r=>by cases r;exact .nil) _) _) _) _) _) _) _) _) _) _) _) _) _) _) _) _) _) _) _) _) _) _) _) _) _) _) _) _
theorem mr_list {p p':PP} {R n1:Lg} {a:Addr} (h:MR p R a (.list []) n1):MR p' R a (.list []) n1:=by
 cases h with | list _ vs n r=>cases r;exact .list a [] [] n .nil
theorem mr_inst {p p':PP} {R n1:Lg} {a c:Addr} {kvs kvs':List (Str × SV)} (f:∀ es,DR p R kvs es → DR p' R kvs' es) (h:MR p R a (.inst c kvs) n1):MR p' R a (.inst c kvs') n1:=by
 cases h with | inst d _ _ es n r=>exact .inst a d c kvs' es n (f es r)
theorem mr_acc {p p':PP} {R n1:Lg} {a:Addr} {x:Str} {k:Nat} (h:MR p R a (.acc x k) n1):MR p' R a (.acc x k) n1:=by
 cases h with | acc _ _ vs ys n a1 a2 a3=>exact .acc a x k vs ys n a1 a2 a3
theorem hr_cons {p:PP} {R N:Lg} {l:Nat} {a:Option Addr} {o:MO} {H:Hp} (h:HR p R ((l,a,o) :: H) N):∃ n1 n2,N = n1 ++ n2 ∧ MR p R (adr p l a) o n1 ∧ HR p R H n2:=by
 cases h
 exact ⟨_,_,rfl,by assumption,by assumption⟩
theorem hr_nil {p:PP} {R N:Lg} (h:HR p R [] N):N = []:=by cases h;rfl
theorem perm6 (a b c d e f:Lg):(d ++ (c ++ (b ++ (a ++ (f ++ (e ++ [])))))).Perm (a ++ (b ++ (c ++ (d ++ (e ++ (f ++ [])))))):=by
 have sw:∀ (a b l:Lg),(a ++ (b ++ l)).Perm (b ++ (a ++ l)):=List.perm_append_comm_assoc
 have k1:(d ++ (c ++ (b ++ (a ++ (f ++ (e ++ [])))))).Perm (d ++ (c ++ (b ++ (a ++ (e ++ (f ++ [])))))):=((((sw f e []).append_left a).append_left b).append_left c).append_left d
 have k2:(d ++ (c ++ (b ++ (a ++ (e ++ (f ++ [])))))).Perm (d ++ (c ++ (a ++ (b ++ (e ++ (f ++ [])))))):=((sw b a _).append_left c).append_left d
 have k3:(d ++ (c ++ (a ++ (b ++ (e ++ (f ++ [])))))).Perm (d ++ (a ++ (c ++ (b ++ (e ++ (f ++ [])))))):=(sw c a _).append_left d
 have k4:(d ++ (a ++ (c ++ (b ++ (e ++ (f ++ [])))))).Perm (a ++ (d ++ (c ++ (b ++ (e ++ (f ++ [])))))):=sw d a _
 have k5:(a ++ (d ++ (c ++ (b ++ (e ++ (f ++ [])))))).Perm (a ++ (d ++ (b ++ (c ++ (e ++ (f ++ [])))))):=((sw c b _).append_left d).append_left a
 have k6:(a ++ (d ++ (b ++ (c ++ (e ++ (f ++ [])))))).Perm (a ++ (b ++ (d ++ (c ++ (e ++ (f ++ [])))))):=(sw d b _).append_left a
 have k7:(a ++ (b ++ (d ++ (c ++ (e ++ (f ++ [])))))).Perm (a ++ (b ++ (c ++ (d ++ (e ++ (f ++ [])))))):=((sw d c _).append_left b).append_left a
 exact ((((((k1.trans k2).trans k3).trans k4).trans k5).trans k6).trans k7)
theorem hr_em {P:Params} {pa:Nat → Addr} {R N:Lg} (B:EA) (c:Bool) (i:Int) (h:HR ⟨P,pa⟩ R (emH B c i) N):∃ N',HR ⟨P,paB B⟩ R (hp0 (em0 c i) .none) N' ∧ N'.Perm N:=by
 obtain ⟨_,_,e1,mi,h⟩:=hr_cons h
 obtain ⟨_,_,e2,mv,h⟩:=hr_cons h
 obtain ⟨_,_,e3,ms,h⟩:=hr_cons h
 obtain ⟨_,_,e4,me,h⟩:=hr_cons h
 obtain ⟨_,_,e5,mr,h⟩:=hr_cons h
 obtain ⟨_,_,e6,mw,h⟩:=hr_cons h
 have e7:=hr_nil h
 exact ⟨_,HR.cons (p:=⟨P,paB B⟩) (l:=0) (a:=none) (mr_inst (dr_em B c i) me) (HR.cons (p:=⟨P,paB B⟩) (l:=1) (a:=none) (mr_list ms) (HR.cons (p:=⟨P,paB B⟩) (l:=2) (a:=none) (mr_list mv) (HR.cons (p:=⟨P,paB B⟩) (l:=3) (a:=none) (mr_list mi) (HR.cons (p:=⟨P,paB B⟩) (l:=4) (a:=none) (mr_inst (dr_step (obj_re (show paB B 5 = B.r from rfl)) (fun es r=>by cases r;exact .nil) _) mw) (HR.cons (p:=⟨P,paB B⟩) (l:=5) (a:=none) (mr_acc mr) .nil))))),
  by rw [e1,e2,e3,e4,e5,e6,e7];exact perm6 _ _ _ _ _ _⟩
theorem nn_c {x:SV} {xs:List SV} (h:NN x) (k:∀ y ∈ xs,NN y):∀ y ∈ x :: xs,NN y:=List.forall_mem_cons.mpr ⟨h,k⟩
theorem nn_z:∀ y ∈ ([]:List SV),NN y:=fun _ h=>nomatch h
theorem nn_p {k:Str} {x:SV} {kvs:List (Str × SV)} (h:NN x) (r:∀ q ∈ kvs,NN q.2):∀ q ∈ (k,x) :: kvs,NN q.2:=List.forall_mem_cons.mpr ⟨h,r⟩
theorem nn_pz:∀ q ∈ ([]:List (Str × SV)),NN q.2:=fun _ h=>nomatch h
theorem nn_an {a:SV} (h:anP a):NN a:=by rcases h with rfl | ⟨x,rfl,_⟩;exact .none;exact .str x
theorem nn_g {a:SV} (h:gP a):NN a:=by rcases h with rfl | ⟨x,rfl,_⟩;exact .none;exact .str x
theorem nn_y {a:SV} (h:yP a):NN a:=by rcases h with rfl | rfl | rfl;exact .none;exact .str _;exact .str _
theorem nn_sq {a g:SV} {im:Bool} (h:anP a) (k:gP g):NN (evK (.sq a g im)):=.inst 229 _ (nn_p (nn_an h) (nn_p (nn_g k) (nn_p (.bool _) (nn_p .none (nn_p .none (nn_p (.bool _) nn_pz))))))
theorem nn_nd {e:Ev} (h:ndP e):NN (evK e):=match e,h with
 | .al a,⟨x,e,_⟩=>.inst 197 _ (nn_p (e ▸ .str x) (nn_p .none (nn_p .none nn_pz)))
 | .sc a g b1 b2 w y,⟨h1,h2,_,h3⟩=>.inst 217 _ (nn_p (nn_an h1) (nn_p (nn_g h2) (nn_p (.tup _ (nn_c (.bool _) (nn_c (.bool _) nn_z))) (nn_p (.str _) (nn_p .none (nn_p .none (nn_p (nn_y h3) nn_pz)))))))
theorem lk_at {kvs:List (Str × SV)} (nd:(kvs.map (·.1)).Nodup) {q:Str × SV} (hq:q ∈ kvs):lk q.1 kvs = some q.2:=by
 induction kvs with
 | nil=>nomatch hq
 | cons p r ih =>
  obtain ⟨h1,h2⟩:=List.nodup_cons.mp nd
  rw [lk_cons]
  rcases Mc hq with rfl | hq
  ·rw [sbeq_self];rfl
  ·cases e:sbeq q.1 p.1 with
   | false=>exact ih h2 hq
   | true=>exact (h1 (by show p.1 ∈ _;rw [← of_sbeq e];exact List.mem_map_of_mem hq)).elim
theorem nn_tg {kvs:List (Str × SV)} (h:kvP kvs):NN (tgS kvs):=by
 cases kvs with
 | nil=>exact .none
 | cons p r =>
  refine .dct (p :: r) fun nd q hq=>?_
  obtain ⟨x,e,_⟩:=h.2.1 q.1 ((sortS_perm _).mem_iff.mpr (List.mem_map_of_mem hq))
  rw [lk_at nd hq] at e
  cases e':q.2 with
  | str y=>exact .str y
  | _=>rw [e'] at e;cases e
theorem nn_ver {D:Doc} (h:D.Ok):NN D.ver:=by
 unfold Doc.ver
 cases D.bad with
 | true=>exact .tup _ (nn_c (.int _) (nn_c (.int _) nn_z))
 | false =>
  show NN (verS D.w)
  cases D.w with
  | none=>exact .none
  | some m=>exact .tup _ (nn_c (.int _) (nn_c (.int _) nn_z))
theorem nn_se:NN evSE:=.inst _ _ (nn_p .none (nn_p .none nn_pz))
theorem nn_de:NN evDE:=.inst _ _ (nn_p .none (nn_p .none (nn_p .none nn_pz)))
theorem nn_doc {D:Doc} (h:D.Ok):∀ x ∈ D.evs,NN x:=by
 refine nn_c (.inst 165 _ (nn_p .none (nn_p .none (nn_p (.bool _) (nn_p (nn_ver h) (nn_p (nn_tg h.kv) nn_pz)))))) (nn_c (nn_sq h.a h.g) (nn_c (nn_nd h.e1) ?_))
 have k:=h.e2
 cases e:D.e2 with
 | none=>exact nn_c nn_se (nn_c nn_de nn_z)
 | some e'=>exact nn_c (nn_nd (k _ e)) (nn_c nn_se (nn_c nn_de nn_z))
theorem nn_app {xs ys:List SV} (h:∀ x ∈ xs,NN x) (k:∀ x ∈ ys,NN x):∀ x ∈ xs ++ ys,NN x:=fun x hx=>(Ma hx).elim (h x) (k x)
theorem nn_evs {D1 D2:Doc} (h1:D1.Ok) (h2:D2.Ok):NN (.lst (evsL D1 D2)):=.lst _ (nn_c (.inst 133 _ (nn_p .none (nn_p .none (nn_p .none nn_pz)))) (nn_app (nn_doc h1) (nn_app (nn_doc h2) (nn_c (.inst 145 _ (nn_p .none (nn_p .none nn_pz))) nn_z))))
noncomputable abbrev bE:List Stmt:=[.Expr (.Call (.Attribute (.Name (t "emitter") ⟨1142,12,1142,19⟩) (t "emit") ⟨1142,12,1142,24⟩) [.Name (t "event") ⟨1142,25,1142,30⟩] [] ⟨1142,12,1142,31⟩) ⟨1142,12,1142,31⟩]
noncomputable abbrev bR:Stmt:=.Assign [.Name (t "refused") ⟨1144,8,1144,15⟩] (.Constant (.bool true) 0 ⟨1144,18,1144,22⟩) ⟨1144,8,1144,22⟩
noncomputable abbrev bT:Stmt:=.Try [.For (.Name (t "event") ⟨1141,12,1141,17⟩) (.Name (t "events") ⟨1141,21,1141,27⟩) bE [] ⟨1141,8,1142,31⟩] [.ExceptHandler (some (.Name (t "EmitterError") ⟨1143,11,1143,23⟩)) none [bR] ⟨1143,4,1144,22⟩] [] [] ⟨1140,4,1144,22⟩
theorem bT_is:nthS 11 lawB = bT:=by rfl'
theorem em_res {T:Tab} {H:Hp} {k:Cal → Prop} (at':atK T 736 (t "emit") = some (.meth 330)) (h:isEm H) (hk:k (.fn 330 [me])):resM T me (t "emit") H k:=by
 obtain ⟨kvs,e1,e2⟩:=h
 show opt (fnd 0 H) fun p=>sameA p.1 none (resW T me (t "emit") (mvw p.2) k)
 rw [e1]
 show resK (atK T 736 (t "emit")) me (lk (t "emit") kvs) k
 rw [at',e2]
 exact hk
theorem nm_of {T:Tab} {sc:Scope} {x:Str} {loc:Loc} {k:SV → Prop} {sv:SV} (h:loN sc x = true) (e:lk x loc = some sv) (hk:k sv):nmV T sc x loc k:=by
 unfold nmV
 rw [h,e]
 exact hk
section
variable {Z:Cx} {F:Lg} {loc:Loc} {m:Str → Option Value}
structure TrOK (Z:Cx):Prop where
 n1:loN Z.sc (t "emitter") = true
 n2:loN Z.sc (t "event") = true
 n3:loN Z.sc (t "events") = true
 n4:loN Z.sc (t "refused") = true
 n5:glN Z.sc (t "EmitterError") = true
 at':atK Z.T 736 (t "emit") = some (.meth 330)
 fe:FnOK Z.G Z.lv 330 2 [] emW
 ee:nsIn Z.G.K mainGlobals (t "EmitterError") = some (some (.ref Z.G.EE))
theorem emit_turn {M:Mo Z F loc m} {sv:SV} {K:Hp → Prop} {X:XC} {Qc:Flow → Shared → Prop} (p:Pl Z) (tr:TrOK Z) (lem:lk (t "emitter") loc = some me) (lev:lk (t "event") loc = some sv)
  (t1:isEm M.H ∧ emW [me,sv] M.H (fun v H=>v = .none ∧ K H) X) (xo:XOk Z.G Z.c F M.R m X Z.Ec) (q:∀ M':Mo Z F loc m,Sub M.R M'.R → K M'.H → Qc .next M'.s):W M (execs bE Z.c.env) Qc:=by
 refine wpAny_execs_cons (wpAny_Expr (meth_ (by rfl') rfl ?_) (env_inter p.ok.kind) (noComp_swap rfl _ _ _))
 refine name_ok (k:=fun u=>u = me) p (nm_of tr.n1 lem rfl) fun u v tk' hs r=>?_
 subst hs
 refine res_ok (M:=M.tick tk') p.tab.attr p.tab.kd p.ok r (em_res tr.at' t1.1 (k:=fun c=>c = .fn 330 [me]) rfl) fun cal fx tk hc cr=>?_
 subst hc
 obtain ⟨vs1,rfl,r1,hf⟩:=cr
 refine cw_ok (n:=1) (wp_ok 1).1 p (M:=M.tick tk) (ks:=[]) (Q:=fun xs us H=>(xs = [sv] ∧ us = []) ∧ H = M.H) (by rfl') (fun h hk _=>keeps_K (keep_fn hf) h hk) ?_ fun xs us vs ws M3 s3 t3 r3 r4 e4=>?_
 ·show nmV Z.T Z.sc (t "event") loc fun v=>([v] = [sv] ∧ ([]:List (Str × SV)) = []) ∧ M.H = M.H
  exact nm_of tr.n2 lev ⟨⟨rfl,rfl⟩,rfl⟩
 ·obtain ⟨⟨rfl,rfl⟩,e3⟩:=t3
  cases ws with
  | cons _ _=>cases e4
  | nil =>
  have r5:VRs Z.G.P M3.R [me,sv] ((vs1 ++ vs) ++ []):=by
   rw [List.append_nil]
   exact VRs.append r3 (r1.mono s3)
  have ln:(vs1 ++ vs).length = 2:=by
   have:=r5.length
   rw [List.append_nil] at this
   exact this.symm
  refine wpAny_call (tr.fe M3 rfl p.ok p.room p.frames r5 ln rfl (e3 ▸ t1.2) (fun v' u' M4 s4 t4 r4=>?_) (xo.of s3 (Sub.refl _)))
  obtain ⟨rfl,t4⟩:=t4
  cases r4
  exact wpAny_execs_nil (q M4 (s3.trans s4) t4)
end
theorem lst_inv {p:PP} {R:Lg} {xs:List SV} {v:Value} (r:VR p R (.lst xs) v):∃ a vs n,v = .ref a ∧ (a,W.listOf vs.toArray n) ∈ R ∧ VRs p R xs vs:=by
 cases r
 exact ⟨_,_,_,rfl,by assumption,by assumption⟩
section
variable {Z:Cx} {F:Lg} {loc:Loc} {m:Str → Option Value}
noncomputable def tryE (Z:Cx) (Qc:Flow → Shared → Prop) (e:Value) (s₁:Shared):Prop:=wpAny Z.G.M Z.c.A (noteFrame e Z.c.env) (fun _ s₂=>wpAny Z.G.M Z.c.A (setFlight e none) (fun _ s₃=>wpAny Z.G.M Z.c.A (handleBy e Z.c.env [.ExceptHandler (some (.Name (t "EmitterError") ⟨1143,11,1143,23⟩)) none [bR] ⟨1143,4,1144,22⟩]) Qc Z.Ec s₃) Z.Ec s₂) Z.Ec s₁
theorem try_x {M:Mo Z F loc m} {Qc:Flow → Shared → Prop} {X:XC} {sv:SV} {F':Lg} {m':Str → Option Value} (p:Pl Z) (tr:TrOK Z) (eb:Z.c.base = Z.c.h₀) (pA:∀ e,PassesOwnAt Z.G.M (Z.c.A.mark (some (.ref e))) Z.c.A Z.c.env Z.Ec) (hcl:Z.T.cells = [])
  (M':Mo Z F' (put (t "event") sv loc) m') (lev:lk (t "event") loc = none) (sF:Sub F F') (sR:Sub M.R M'.R)
  (q2:∀ m' (M':Mo Z F (put (t "refused") (.bool true) loc) m'),Sub M.R M'.R → X M'.H → Qc .next M'.s):XOk Z.G Z.c F' M'.R m' X (tryE Z Qc):=by
 refine fun e h' tk' r=>r.el fun t0 vs H' R' N' g₂ hx led sR' rk fr up=>?_
 obtain ⟨newId,initId,bm,o1,o2⟩:=p.tab.own
 have ee:Z.c.env = envOf Z.c.name Z.c.scope Z.c.L Z.c.a Z.c.cd:=by show envX _ _ _ _ _ Z.c.cl = _;rw [p.nc (by rw [hcl];rfl)];rfl
 have gl:=p.gl tr.n5
 have lo:=p.lo tr.n4
 have bl:=p.ok.below
 unfold tryE
 rw [eb] at rk bl
 rw [ee] at rk gl lo ⊢
 have pA':=pA e
 have eA:Z.c.A = Z.c.A₀.deeper (envOf Z.c.name Z.c.scope Z.c.L Z.c.a Z.c.cd):=congrArg Z.c.A₀.deeper ee
 rw [eA] at pA' ⊢
 rw [ee] at pA'
 refine caught_O0 (s':=Z.G.sh h' tk') bl fr up rk p.ok.kin (topRead_of p.ok.top) tr.ee o1 o2.hasBase (fun h2 news₂ F2 N2 got N3=>?_) p.ok.kind gl (by rfl') pA'
 refine wpAny_execs_cons (wpAny_Assign_stores (Constant_bool ?_) (noComp_sole rfl _ _ _) (swOK_none (by rfl') _))
 refine PyProof.Rows.assign_Name (x:=t "refused") ?_
 refine storeX_L (s:=Z.G.sh h2 tk') (cl:=[]) F2 N3 (fun h3 F3 N4=>?_) p.ok.kind lo
 refine wpAny_execs_nil ?_
 have l0:LR Z.G.P R' loc m':=fun z w e1=>(M'.lr.mono sR') z w (by
  rw [lk_put]
  cases q:sbeq z (t "event") with
  | false=>exact e1
  | true=>rw [of_sbeq q,lev] at e1;cases e1)
 exact q2 _ (⟨H',R',N',h3,_,⟨F3,fun r hr=>N4 r (less_sub sF r hr),led.less sF⟩,l0.put (.bool true),M.sub.trans (sR.trans sR'),M.fs⟩:Mo Z F (put (t "refused") (.bool true) loc) _) (sR.trans sR') hx
theorem try_ok {M:Mo Z F loc m} {Qc:Flow → Shared → Prop} {X:XC} {K:Hp → Prop} {es:List SV} (p:Pl Z) (tr:TrOK Z) (hX:∀ H,¬ Z.X H) (eb:Z.c.base = Z.c.h₀) (pA:∀ e,PassesOwnAt Z.G.M (Z.c.A.mark (some (.ref e))) Z.c.A Z.c.env Z.Ec) (hcl:Z.T.cells = [])
  (lem:lk (t "emitter") loc = some me) (les:lk (t "events") loc = some (.lst es)) (lev:lk (t "event") loc = none) (run:runE es M.H K X)
  (q1:∀ m' (M':Mo Z F loc m'),Sub M.R M'.R → K M'.H → Qc .next M'.s) (q2:∀ m' (M':Mo Z F (put (t "refused") (.bool true) loc) m'),Sub M.R M'.R → X M'.H → Qc .next M'.s):W M (exec bT Z.c.env) Qc:=by
 refine wpAny_Try_except (s:=M.s) ?_
 let Zt:Cx:={ Z with Ec:=tryE Z Qc }
 let Mt:Mo Zt F loc m:=⟨M.H,M.R,M.N,M.h,M.tk,M.st,M.lr,M.sub,M.fs⟩
 have pt:Pl Zt:=⟨p.tab,p.scp,p.dbg,p.ok,p.room,⟨fun m' e h' tk' r=>r.el fun _ _ H' _ _ _ x1 _ _ _ _ _=>(hX H' x1).elim,@fun _ _ _ M' _ _ _ _ x1 _=>(hX M'.H x1).elim,PassesOwn.looking⟩,p.cel,p.nc⟩
 have trt:TrOK Zt:=⟨tr.n1,tr.n2,tr.n3,tr.n4,tr.n5,tr.at',tr.fe,tr.ee⟩
 show W Mt (execs _ Zt.c.env) _
 have hk:(Z.c.env.scope.kind == ScopeKind.class || Z.c.env.scope.kind == ScopeKind.module && Z.c.env.locals != Z.c.env.globals) = false:=by
  have:Z.c.env.scope.kind = .function:=p.ok.kind
  rw [this];rfl
 refine wpAny_execs_cons (For_invV Z.c.h₀ (p.lo tr.n2) hk ?_ (noComp_set rfl _) pt.ex.po)
 refine name_ok (M:=Mt) (k:=fun u=>u = .lst es) pt (nm_of tr.n3 les rfl) fun u v tk' hs r=>?_
 subst hs
 obtain ⟨a,vs,n,rfl,hm,rr⟩:=lst_inv r
 refine loop_h (M:=Mt.tick tk') (J:=fun r H=>runE r H K X) pt.hd hm rr lev M.lr (fun {F' m'} sv r M' sF sR t1=>?_) run fun m' M' s' k'=>?_
 ·have lem':lk (t "emitter") (put (t "event") sv loc) = some me:=by
   rw [lk_put,show sbeq (t "emitter") (t "event") = false from by rfl']
   exact lem
  have lev':lk (t "event") (put (t "event") sv loc) = some sv:=by rw [lk_put,sbeq_self];rfl
  let M0:Mo Z F' (put (t "event") sv loc) m':=⟨M'.H,M'.R,M'.N,M'.h,M'.tk,M'.st,M'.lr,M'.sub,M'.fs⟩
  exact emit_turn (Z:=Zt) pt trt lem' lev' t1 (try_x (M:=M) (Qc:=Qc) p tr eb pA hcl M0 lev sF sR q2) fun M2 s2 k2=>⟨rfl,M2,rfl,s2,k2⟩
 ·exact wpAny_execs_nil (wpAny_execs_nil (q1 m' (⟨M'.H,M'.R,M'.N,M'.h,M'.tk,M'.st,M'.lr,M'.sub,M'.fs⟩:Mo Z F loc m') s' k'))
end
theorem pTx_len {x:Str} {ok:Bool} {r:Str × Bool}:(pTx x ok r).1.length ≤ x.length + r.1.length:=by
 cases ok with
 | true=>exact Nat.le_of_eq (La ..)
 | false=>exact Nat.le_add_right _ _
theorem it_len {e:Ev} {c first:Bool} {i:Int} {tk:List (Str × SV)} {r:Str × Bool} (he:ndP e) (hk:kOk tk = true) (hi:2 ≤ i ∧ i ≤ 9):(itTx e c first i tk r).1.length ≤ 611 + r.1.length:=by
 unfold itTx
 refine Nl pTx_len (Nat.add_le_add_right ?_ _)
 rw [La]
 exact Nat.add_le_add (pre_len2 hi first) (nd_len he hk _)
theorem ss_wok {a g:SV} {im c:Bool} {tk:List (Str × SV)} (ha:anP a) (hg:gP g) (hk:kOk tk = true):WOk 4 (ssL a g im c tk).1:=by
 have h1:=anc_wok (i:=t "&") ha (by decide)
 unfold ssL
 cases ancB a with
 | false=>exact wok_nil _
 | true =>
  dsimp only
  cases ptB (shB im c g) false g with
  | false=>exact h1.up (by decide)
  | true=>exact (h1.app ((ptL_wok hg hk).app ⟨Nat.le_refl 1,fun w hw=>by rw [Ms hw];decide⟩)).up (by decide)
theorem hd_len (mk c:Bool):(dsHd mk c).length ≤ 4:=by cases mk <;> cases c <;> decide +kernel
theorem seT_len (c:Bool):(seT c ++ t "\n").length ≤ 4:=by cases c <;> decide +kernel
theorem doc_len {f c:Bool} {i:Int} {D:Doc} (h:D.Ok) (hi:2 ≤ i ∧ i ≤ 9):(docT f c i D).1.length ≤ 2000:=by
 unfold docT
 cases D.bad with
 | true=>exact (show 0 ≤ 2000 by decide)
 | false =>
  have k1:=ver_len h.ver
  have k2:=dir_len (kvs:=D.kvs) (skL D.kvs) tpK h.kv.2.1
  have k3:=h.kv.2.2
  have k4:=hd_len (dsMk f c D) c
  have k5:=wr_len (ss_wok (im:=D.im) (c:=c) h.a h.g h.tk).2 (or c (!(dsMk f c D)))
  have k6:=(ss_wok (im:=D.im) (c:=c) h.a h.g h.tk).1
  have k7:(itTx D.e1 c true i (dsTk D.kvs) (match D.e2 with | none=>(seT c ++ t "\n",true) | some e=>itTx e c false i (dsTk D.kvs) (seT c ++ t "\n",true))).1.length ≤ 611 + (611 + 4):=by
   refine Nl (it_len h.e1 h.tk hi) (Nd ?_ _)
   have k:=h.e2
   cases e':D.e2 with
   | none=>exact Nl (seT_len c) (by decide)
   | some e=>exact Nl (it_len (k e e') h.tk hi) (Nd (seT_len c) _)
  have kd:(docB f c i D).1.length ≤ 4 + 131 * 4 + (611 + (611 + 4)):=by
   unfold docB
   refine Nl pTx_len ?_
   rw [La]
   exact Nat.add_le_add (Nat.add_le_add k4 (Nl k5 (Nat.mul_le_mul_left _ k6))) k7
  have kt:(dsTx D.w D.kvs).length ≤ 20 + 60 * 2:=by
   unfold dsTx
   rw [La]
   exact Nat.add_le_add k1 (Nl k2 (Nat.mul_le_mul_left _ k3))
  exact Nl pTx_len (Nl (Nat.add_le_add kt kd) (by decide))
theorem all_len {c:Bool} {i:Int} {D1 D2:Doc} (h1:D1.Ok) (h2:D2.Ok) (hi:2 ≤ i ∧ i ≤ 9):(allT c i D1 D2).1.length ≤ 4000:=by
 unfold allT
 exact Nl pTx_len (Nat.add_le_add (doc_len h1 hi) (doc_len h2 hi))
noncomputable def AllOK (G:GC) (lv:Nat) (l:Fns):Prop:=∀ p ∈ l,FnOK G lv p.1 p.2.1 p.2.2.1 p.2.2.2
theorem cls_c {K:Frag} {c:CEnt} {l:List CEnt} (h:ClsR K c.C c.fI) (r:∀ x ∈ l,ClsR K x.C x.fI):∀ x ∈ c :: l,ClsR K x.C x.fI:=List.forall_mem_cons.mpr ⟨h,r⟩
theorem cls_R (P:Params):∀ c ∈ clsL,ClsR (Hd.kk P) c.C c.fI:=cls_c ⟨by rfl',by rfl',by rfl'⟩ (cls_c ⟨by rfl',by rfl',by rfl'⟩ (cls_c ⟨by rfl',by rfl',by rfl'⟩ (cls_c ⟨by rfl',by rfl',by rfl'⟩ (cls_c ⟨by rfl',by rfl',by rfl'⟩
 (cls_c ⟨by rfl',by rfl',by rfl'⟩ (cls_c ⟨by rfl',by rfl',by rfl'⟩ (cls_c ⟨by rfl',by rfl',by rfl'⟩ (cls_c ⟨by rfl',by rfl',by rfl'⟩ fun _ h=>nomatch h))))))))
theorem cls_771 (P:Params):ClsR (Hd.kk P) 771 754:=⟨by rfl',by rfl',by rfl'⟩
theorem cls_736 (P:Params):ClsR (Hd.kk P) 736 316:=⟨by rfl',by rfl',by rfl'⟩
section
variable {G:GC} {lv:Nat} {l:Fns}
theorem all_z:AllOK G lv []:=fun _ h=>nomatch h
theorem all_c {f:Addr} {n:Nat} {ks:List Str} {S:Sm} {k:Nat} (h:FnOK G k f n ks S) (hk:k ≤ lv) (r:AllOK G lv l):AllOK G lv ((f,n,ks,S) :: l):=List.forall_mem_cons.mpr ⟨h.up hk,r⟩
theorem AllOK.up (h:AllOK G lv l) {k:Nat} (hk:lv ≤ k):AllOK G k l:=fun p hp=>FnOK.up (h p hp) hk
theorem AllOK.app {l':Fns} (h:AllOK G lv l) (k:AllOK G lv l'):AllOK G lv (l ++ l'):=fun p hp=>by
 rcases Ma hp with hp | hp
 ·exact FnOK.up (h p hp) (Nat.le_refl _)
 ·exact FnOK.up (k p hp) (Nat.le_refl _)
theorem fnS_opt (h:AllOK G lv l) (f:Addr) (n:Nat) (ks:List Str):FnOK G lv f n ks fun xs H Q X=>opt (fnS f n ks l) fun S=>S xs H Q X:=by
 intro Z F loc m M A vs ws xs Q X Rr e1 e2 e3 e4 e5 e6 e7 t q xo
 obtain ⟨S,e,t⟩:=of_opt t
 exact fnS_of (P:=FnOK G lv) h f n ks S e M e1 e2 e3 e4 e5 e6 e7 t q xo
variable (hK:G.K = Hd.kk G.w.params) (hE:G.EE = 277)
include hK hE
theorem tab_l (h:AllOK G lv l):TabOK G lv (withT l noC frzT):=tab_ok hK hE h (noC_ok rfl)
theorem up_ok (h:AllOK G lv l):∀ n,AllOK G (lv + n) (upN l n):=fun n=>by
 induction n with
 | zero=>exact h
 | succ n ih =>
  refine AllOK.app (h.up (Nat.le_add_right _ _)) (AllOK.app (fun p hp=>?_) fun p hp=>?_)
  ·obtain ⟨e,he,rfl⟩:=List.mem_map.mp hp
   exact ent_ok (tab_l hK hE ih) rfl (hK ▸ entL_ok _ e he)
  ·obtain ⟨c,hc,rfl⟩:=List.mem_map.mp hp
   have z:FnOK G (lv + n + 1) c.C c.n c.ks (clsF c.C 9 fun xs H Q X=>opt (fnS c.fI (c.n + 1) c.ks (upN l n)) fun S=>S xs H Q X):=(cls_any (hK ▸ cls_R _ c hc) (fnS_opt ih c.fI (c.n + 1) c.ks) 9).2
   exact @z
theorem eS_ok (h:AllOK G lv l) (n:Nat) {e:Ent} (he:∀ P,EntOK (Hd.kk P) e):FnOK G (lv + n + 1) e.f e.n e.ks (eS l n e):=ent_ok (tab_l hK hE (up_ok hK hE h n)) rfl (hK ▸ he _)
theorem eC_ok (h:AllOK G lv l) (n:Nat) {e:Ent} (he:∀ P,EntOK (Hd.kk P) e):FnOK G (lv + n + 1) e.f e.n e.ks (eC l n e) :=
 have tab:=tab_l hK hE (up_ok hK hE h n)
 ent_ok (T:=tC l n) (tab.of [] _ (comp_ok tab)) rfl (hK ▸ he _)
theorem all_e {k:Nat} {l':Fns} (h:AllOK G k l') (n:Nat) {e:Ent} (he:∀ P,EntOK (Hd.kk P) e) {S:Sm} (w:allN e.n fun vs=>allN e.ks.length fun ws=>∀ H Q X,S (vs ++ ws) H Q X → eS l' n e (vs ++ ws) H Q X) (hk:k + n + 1 ≤ lv) (r:AllOK G lv l):AllOK G lv ((e.f,e.n,e.ks,S) :: l) :=
 all_c (FnOK.weak (eS_ok hK hE h n he) w) hk r
theorem all_eC {k:Nat} {l':Fns} (h:AllOK G k l') (n:Nat) {e:Ent} (he:∀ P,EntOK (Hd.kk P) e) {S:Sm} (w:allN e.n fun vs=>allN e.ks.length fun ws=>∀ H Q X,S (vs ++ ws) H Q X → eC l' n e (vs ++ ws) H Q X) (hk:k + n + 1 ≤ lv) (r:AllOK G lv l):AllOK G lv ((e.f,e.n,e.ks,S) :: l) :=
 all_c (FnOK.weak (eC_ok hK hE h n he) w) hk r
omit hK hE in
theorem pr_weak:allN 2 fun vs=>allN 0 fun ws=>∀ H Q X,prS (vs ++ ws) H Q X → eS [] 0 e_12 (vs ++ ws) H Q X:=fun v0 v1 H Q X h=>by
 have h:asS v1 fun a=>meV v0 H fun s=>iff_ (hasStr a preL) (brn (hasStr a preOk) (Q (.str a) (hp s)) (X (hp s))):=h
 cases v1 with
 | str a =>
  have h:meV v0 H fun s=>iff_ (hasStr a preL) (brn (hasStr a preOk) (Q (.str a) (hp s)) (X (hp s))):=h
  obtain ⟨s,rfl,rfl,k⟩:=of_me h
  obtain ⟨h1,k⟩:=of_iff k
  exact pr_all a (has_mem h1) s Q X k
 | _=>exact (h:False).elim
omit hK hE in
theorem sa_weak:allN 2 fun vs=>allN 0 fun ws=>∀ H Q X,saS (vs ++ ws) H Q X → eS [] 2 e_28 (vs ++ ws) H Q X:=fun v0 v1 H Q X h=>by
 have h:asS v1 fun w=>meV v0 H fun s=>iff_ (hasStr w words) (Q (.inst 296 (saK w)) (hp s)):=h
 cases v1 with
 | str a =>
  have h:meV v0 H fun s=>iff_ (hasStr a words) (Q (.inst 296 (saK a)) (hp s)):=h
  obtain ⟨s,rfl,rfl,k⟩:=of_me h
  obtain ⟨h1,k⟩:=of_iff k
  exact sa_all a (has_mem h1) s Q X k
 | _=>exact (h:False).elim
theorem ok_l1:AllOK G 3 l1 :=
 all_e hK hE (k:=0) all_z 2 ok_5 wi3_ok (by decide) (all_e hK hE (k:=0) all_z 2 ok_6 wi4_ok (by decide) (all_e hK hE (k:=0) all_z 2 ok_7 wn_ok (by decide) (all_e hK hE (k:=0) all_z 0 ok_25 (chk_weak pa_all) (by decide)
 (all_e hK hE (k:=0) all_z 0 ok_11 (chk_weak ha_all) (by decide) (all_e hK hE (k:=0) all_z 0 ok_12 pr_weak (by decide) (all_e hK hE (k:=0) all_z 2 ok_28 sa_weak (by decide) (all_e hK hE (k:=0) all_z 0 ok_26 tg_weak (by decide) all_z)))))))
end
theorem rc_weak:allN 3 fun vs=>allN 0 fun ws=>∀ H Q X,rcS (vs ++ ws) H Q X → eS lr 0 e_47 (vs ++ ws) H Q X:=fun v0 v1 v2 H Q X h=>by
 obtain ⟨D1,D2,c,i,e1,e2,⟨k1,k2,k3,k4⟩,q⟩:=h
 cases e1
 cases e2
 exact rk_all k1 k2 ⟨k3,k4⟩ (Nl (doc_len k1 ⟨k3,k4⟩) (by decide)) q
theorem pt_weak:allN 1 fun vs=>allN 0 fun ws=>∀ H Q X,ptS (vs ++ ws) H Q X → ∃ q,eS (l2 q) 0 e_20 (vs ++ ws) H Q X:=pt_any
theorem em_any:allN 2 fun vs=>allN 0 fun ws=>∀ H Q X,emW (vs ++ ws) H Q X → ∃ b:Bool,(match b with | true=>emA | false=>emB') (vs ++ ws) H Q X:=fun v0 v1 H Q X h=>h.elim (fun k=>⟨true,k⟩) fun k=>⟨false,k⟩
section
variable {G:GC} (hK:G.K = Hd.kk G.w.params) (hE:G.EE = 277)
include hK hE
theorem ok_l2 (q:Str):AllOK G 4 (l2 q):=all_e hK hE (ok_l1 hK hE) 0 ok_27 (css_weak q) (by decide) ((ok_l1 hK hE).up (by decide))
theorem ok_l3:AllOK G 7 l3:=all_e hK hE (ok_l1 hK hE) 0 ok_19 pa_weak (by decide) (all_c (f:=573) (n:=1) (ks:=[]) (FnOK.any (fun q=>eS_ok hK hE (ok_l2 hK hE q) 0 (e:=e_20) ok_20) pt_weak) (by decide) (all_e hK hE (ok_l1 hK hE) 3 ok_24 ps_weak (by decide) ((ok_l1 hK hE).up (by decide))))
theorem ok_l4:AllOK G 10 l4:=all_e hK hE (ok_l3 hK hE) 2 ok_17 nd_weak (by decide) ((ok_l3 hK hE).up (by decide))
theorem ok_lds:AllOK G 11 lds:=all_e hK hE (ok_l3 hK hE) 3 ok_3 dsk_weak (by decide) all_z
theorem ok_l5:AllOK G 13 l5:=all_e hK hE (ok_lds hK hE) 0 ok_65 ds0_weak (by decide) (all_e hK hE (ok_l3 hK hE) 3 ok_4 ds1_weak (by decide) (all_e hK hE (ok_l3 hK hE) 3 ok_66 ss_weak (by decide) (all_e hK hE (ok_l4 hK hE) 2 ok_68 itF_weak (by decide) (all_e hK hE (ok_l4 hK hE) 2 ok_69 it_weak (by decide)
 (all_e hK hE (k:=0) all_z 2 ok_5 wi3_ok (by decide) (all_e hK hE (k:=0) all_z 2 ok_6 wi4_ok (by decide) (all_e hK hE (k:=0) all_z 2 ok_7 wn_ok (by decide) all_z)))))))
theorem ok_lb:AllOK G 13 lb:=all_e hK hE (ok_l3 hK hE) 3 ok_66 ss_weak (by decide) (all_e hK hE (ok_l4 hK hE) 2 ok_68 itF_weak (by decide) (all_e hK hE (k:=0) all_z 2 ok_5 wi3_ok (by decide) (all_e hK hE (k:=0) all_z 2 ok_6 wi4_ok (by decide) (all_e hK hE (k:=0) all_z 2 ok_7 wn_ok (by decide) all_z))))
theorem ok_em:FnOK G 18 330 2 [] emW:=FnOK.any (ι:=Bool) (S:=fun b=>match b with | true=>emA | false=>emB') (fun b=>match b with
 | true=>eS_ok hK hE (ok_l5 hK hE) 4 (e:=e_58) ok_58
 | false=>eS_ok hK hE (ok_lb hK hE) 4 (e:=e_58) ok_58) em_any
theorem ok_lo:AllOK G 1 lo:=all_e hK hE (k:=0) all_z 0 ok_41 oct_weak (by decide) all_z
theorem ok_lt:AllOK G 3 lt:=all_eC hK hE (ok_lo hK hE) 1 ok_42 sp_weak (by decide) all_z
theorem ok_lp:AllOK G 4 lp:=all_eC hK hE (k:=0) all_z 0 ok_43 nm_weak (by decide) (all_e hK hE (ok_lt hK hE) 0 ok_44 tl_weak (by decide) all_z)
theorem ok_lr:AllOK G 5 lr:=all_eC hK hE (k:=0) all_z 0 ok_43 nm_weak (by decide) (all_e hK hE (ok_lp hK hE) 0 ok_45 pp_weak (by decide) all_z)
theorem ok_lw:AllOK G 6 lw:=all_e hK hE (k:=0) all_z 0 ok_46 nx_weak (by decide) (all_e hK hE (k:=0) all_z 1 ok_53 dr_weak (by decide) (all_c (f:=858) (n:=1) (ks:=[]) (FnOK.weak (fn_inlC (tab_l hK hE (up_ok hK hE (all_z (lv:=0)) 1)) (hK ▸ dg_def _) dg_cel (fun v=>hK ▸ dg_bind _ v)) dg_weak) (by decide) (all_e hK hE (ok_lr hK hE) 0 ok_47 rc_weak (by decide) all_z)))
theorem ok_lw9:AllOK G 18 lw9:=all_c (f:=771) (n:=0) (ks:=[]) (cls_any (hK ▸ cls_771 _) (eS_ok hK hE (all_z (lv:=0)) 0 (e:=e_51) ok_51) 4).1 (by decide) (all_c (f:=736) (n:=1) (ks:=[t "canonical",t "indent",t "width"]) (cls_any (hK ▸ cls_736 _) (eS_ok hK hE (all_z (lv:=0)) 0 (e:=e_48) ok_48) 0).1 (by decide) (all_c (ok_em hK hE) (by decide) ((ok_lw hK hE).up (by decide))))
theorem ok_T:TabOK G 8 lwT:=tab_l hK hE (up_ok hK hE (ok_lw hK hE) 2)
theorem ok_T9:TabOK G 20 lw9T:=tab_l hK hE (up_ok hK hE (ok_lw9 hK hE) 2)
end
noncomputable abbrev loR (es:List SV) (tx:Str) (f r:Bool):Loc:=[(t "events",.lst es),(t "emitter",me),(t "text",.str tx),(t "fine",.bool f),(t "refused",.bool r)]
theorem lb_12 (s:Em) (es:List SV) (tx:Str) (Qs:QS) (X:XC):∀ d f,lw9O 60 (nthS 12 lawB) (loR es tx f (!f)) (hpD d s) Qs X = bnd sizeLine s.tx.length (Qs (.ret (.bool (sbeq s.tx tx))) (loR es tx f (!f)) (hpD d s)):=b2_all (by rfl') (by rfl') (by rfl') (by rfl')
theorem lr_z {p:PP} {R:Lg} {m:Str → Option Value}:LR p R [] m:=fun _ _ e=>nomatch e
theorem lr_c {p:PP} {R:Lg} {m:Str → Option Value} {x:Str} {sv:SV} {loc:Loc} (h:∃ v,m x = some v ∧ VR p R sv v) (r:LR p R loc m):LR p R ((x,sv) :: loc) m:=fun y w e=>by
 rw [lk_cons] at e
 cases q:sbeq y x with
 | false=>rw [q] at e;exact r y w e
 | true=>rw [q] at e;cases e;rw [of_sbeq q];exact h
theorem body_is:lawB = [nthS 0 lawB] ++ (lawA ++ (lawD ++ (bT :: [nthS 12 lawB]))):=by rfl'
noncomputable abbrev lawF (A₀:Around) (h₀:Heap) (outer:List Env) (name:Str) (L a:Addr) (cd:Value):FC:=⟨A₀,h₀,h₀,outer,name,lawC,L,a,cd,[]⟩
theorem law_dbg:lk ("__debug__":Str) lawC.names = none:=by rfl'
theorem tape_of {p:PP}:∀ {ys:List Value},(∀ v ∈ ys,isNumV v) → ∃ xs,VRs p [] xs ys ∧ ∀ v ∈ xs,∃ n,v = .int n ∧ numP n:=fun {ys}=>by
 induction ys with
 | nil=>exact fun _=>⟨[],.nil,fun _ h=>nomatch h⟩
 | cons v r ih =>
  intro h
  obtain ⟨n,u,rfl,hn⟩:=h v (.head _)
  obtain ⟨xs,h1,h2⟩:=ih fun v hv=>h v (.tail _ hv)
  exact ⟨.int n :: xs,.cons (.int n u) h1,List.forall_mem_cons.mpr ⟨⟨n,rfl,hn⟩,h2⟩⟩
section
variable {G:GC} {A₀:Around} {h₀:Heap} {outer:List Env} {name:Str} {L a:Addr} {cd:Value} {Ec:Value → Shared → Prop}
noncomputable abbrev lawZ (G:GC) (T:Tab) (A₀:Around) (h₀:Heap) (outer:List Env) (name:Str) (L a:Addr) (cd:Value) (Ec:Value → Shared → Prop):Cx:=⟨G,20,T,lawC,lawF A₀ h₀ outer name L a cd,[],[],fun _=>False,Ec⟩
theorem law_pl {T:Tab} (tab:TabOK G 20 T) (hc:T.cells = []) (ok:(lawF A₀ h₀ outer name L a cd).Ok G) (room:Room 20 (lawF A₀ h₀ outer name L a cd).A) (po:PassesOwn G.M (lawF A₀ h₀ outer name L a cd).A (lawF A₀ h₀ outer name L a cd).env Ec):Pl (lawZ G T A₀ h₀ outer name L a cd Ec) :=
 ⟨tab,rfl,law_dbg,ok,room,⟨fun m' e h' tk' r=>r.el fun _ _ _ _ _ _ x1 _ _ _ _ _=>x1.elim,@fun _ _ _ M' _ _ _ _ x1 _=>x1.elim,po⟩,(fun x sv e=>by have e:lk x T.cells = some sv:=e;rw [hc] at e;cases e),fun _=>rfl⟩
theorem law_frame (hK:G.K = Hd.kk G.w.params) (hE:G.EE = 277) (ok:(lawF A₀ h₀ outer name L a cd).Ok G) (room:Room 20 (lawF A₀ h₀ outer name L a cd).A)
  (po:PassesOwn G.M (lawF A₀ h₀ outer name L a cd).A (lawF A₀ h₀ outer name L a cd).env Ec) (pA:∀ e,PassesOwnAt G.M ((lawF A₀ h₀ outer name L a cd).A.mark (some (.ref e))) (lawF A₀ h₀ outer name L a cd).A (lawF A₀ h₀ outer name L a cd).env Ec) (ee:nsIn G.K mainGlobals (t "EmitterError") = some (some (.ref G.EE)))
  {h:Heap} {tk:Nat} {m:Str → Option Value} {l:Addr} {vs:List Value} {ns:List Int} (F:Fr h₀ L h m) (hm:m (t "script") = some (.ref l)) (hl:h.IsList l vs.toArray) (hi:IntsAre vs ns) (hn:ns.length ≤ 63)
  {Qc:Flow → Shared → Prop} (q:∀ h' tk' m',Fr h₀ L h' m' → Qc (.ret (.bool true)) (G.sh h' tk')):wpAny G.M (lawF A₀ h₀ outer name L a cd).A (execs lawB (lawF A₀ h₀ outer name L a cd).env) Qc Ec (G.sh h tk):=by
 rw [body_is]
 refine wpAny_execs_cons (law_0 (s:=G.sh h tk) room.hd F hm hl hi hn fun D h1 tk1 ys k F1 N1 hy hlen=>?_)
 show wpAny G.M (lawF A₀ h₀ outer name L a cd).A (execs (lawA ++ (lawD ++ (bT :: [nthS 12 lawB]))) (lawF A₀ h₀ outer name L a cd).env) Qc Ec (G.sh h1 tk1)
 obtain ⟨xs,rx,tx⟩:=tape_of (p:=G.P) hy
 have p1:=law_pl (Ec:=Ec) (tab_l hK hE (up_ok hK hE ((ok_lw hK hE).up (k:=18) (by decide)) 2)) rfl ok room po
 have p2:=law_pl (Ec:=Ec) (ok_T9 hK hE) rfl ok room po
 let M1:Mo (lawZ G lwT A₀ h₀ outer name L a cd Ec) [] [(t "tape",tpV D)] (fun z=>if z = t "tape" then some (.ref D) else m z) :=
  ⟨[(1105004,some D,.list xs)],[],[(D,W.listOf ys.toArray k)] ++ [],h1,tk1,⟨F1,N1,⟨.cons (.list D xs ys k rx) .nil,List.nodup_cons.mpr ⟨List.not_mem_nil,.nil⟩,(fun _ _ r hr=>nomatch hr),(fun _ h=>nomatch h)⟩⟩,
   lr_c ⟨_,if_pos rfl,.obj _ _⟩ lr_z,Sub.refl _,Sub.refl _⟩
 refine exeL_then (M:=M1) (wp_ok 60).2.2 p1 lawA (Q:=fun fl loc H=>fl = .next ∧ ∃ (A:LA) (D1 D2:Doc) (tp':List SV),(D1.Ok ∧ D2.Ok ∧ 2 ≤ A.i ∧ A.i ≤ 9) ∧ loc = lwE A [D1.val,D2.val] (.lst (evsL D1 D2)) ∧ H = tpH A.t tp')
  (law_a ⟨by rw [rx.length];exact hlen,tx⟩ fun A D1 D2 tp' k1 k2 k3=>⟨rfl,A,D1,D2,tp',⟨k1,k2,k3⟩,rfl,rfl⟩) fun fl fv loc' m' M' s' t' f'=>?_
 obtain ⟨rfl,A,D1,D2,tp',⟨k1,k2,k3⟩,rfl,e1⟩:=t'
 cases f'
 let M2:Mo (lawZ G lw9T A₀ h₀ outer name L a cd Ec) [] (lb0 A.c A.i [D1.val,D2.val] (evsL D1 D2) []) m' :=
  ⟨[],M'.R,[],M'.h,M'.tk,⟨M'.st.fr,fun r hr=>M'.st.nw r (Mr _ hr),⟨.nil,.nil,(fun _ h=>nomatch h),M'.st.led.af⟩⟩,
   lr_c (M'.lr _ _ (by rfl')) (lr_c (M'.lr _ _ (by rfl')) (lr_c (M'.lr _ _ (by rfl')) (lr_c (M'.lr _ _ (by rfl')) lr_z))),M'.sub,M'.fs⟩
 show W M2 (execs (lawD ++ (bT :: [nthS 12 lawB])) _) Qc
 refine exeL_then (M:=M2) (wp_ok 60).2.2 p2 lawD (Q:=fun fl loc H=>fl = .next ∧ ∃ B:EA,loc = lb1 A.c A.i [D1.val,D2.val] (evsL D1 D2) (allT A.c A.i D1 D2).1 (allT A.c A.i D1 D2).2 [(t "emitter",.obj 0 (some B.e)),(t "refused",.bool false)] ∧ H = emH B A.c A.i)
  (law_b k1 k2 k3 fun B=>⟨rfl,B,rfl,rfl⟩) fun fl fv loc' m2 M3 s2 t2 f2=>?_
 obtain ⟨rfl,B,rfl,e2⟩:=t2
 cases f2
 have alen:=all_len (c:=A.c) (i:=A.i) k1 k2 k3
 generalize hT:(allT A.c A.i D1 D2).1 = T at *
 generalize hf:(allT A.c A.i D1 D2).2 = f at *
 have hr0:=M3.st.led.hr
 rw [e2] at hr0
 obtain ⟨N3,hr3,pm⟩:=hr_em B A.c A.i hr0
 have p3:=law_pl (G:={ G with pa:=paB B }) (Ec:=Ec) (ok_T9 (G:={ G with pa:=paB B }) hK hE) rfl ⟨ok.below,ok.kin,ok.top,ok.kind⟩ room po
 have sub:∀ r ∈ N3 ++ (M3.R ++ []),r ∈ M3.N ++ (M3.R ++ []):=fun r hr=>(Ma hr).elim (fun k=>Ml _ (pm.mem_iff.mp k)) (Mr _)
 have fnd3:∀ {x sv},lk x (lb1 A.c A.i [D1.val,D2.val] (evsL D1 D2) T f [(t "emitter",.obj 0 (some B.e)),(t "refused",.bool false)]) = some sv → ∀ {sv'},(∀ v,VR G.P M3.R sv v → VR ⟨G.w.params,paB B⟩ M3.R sv' v) → ∃ v,m2 x = some v ∧ VR ⟨G.w.params,paB B⟩ M3.R sv' v:=fun e _ g=>let ⟨v,h1,h2⟩:=M3.lr _ _ e;⟨v,h1,g v h2⟩
 let M4:Mo (lawZ { G with pa:=paB B } lw9T A₀ h₀ outer name L a cd Ec) [] (loR (evsL D1 D2) T f false) m2 :=
  ⟨hp0 (em0 A.c A.i) .none,M3.R,N3,M3.h,M3.tk,⟨M3.st.fr,fun r hr=>M3.st.nw r (sub r hr),⟨hr3,(pm.map _).nodup_iff.mpr M3.st.led.nd,fun r hr=>M3.st.led.ap r (pm.mem_iff.mp hr),M3.st.led.af⟩⟩,
   lr_c (fnd3 (by rfl') fun _ r=>NN.vr (nn_evs k1 k2) r) (lr_c (fnd3 (sv:=.obj 0 (some B.e)) (by rfl') (obj_re (show paB B 0 = B.e from rfl))) (lr_c (fnd3 (by rfl') fun _ r=>NN.vr (.str _) r) (lr_c (fnd3 (by rfl') fun _ r=>NN.vr (.bool _) r) (lr_c (fnd3 (by rfl') fun _ r=>NN.vr (.bool _) r) lr_z)))),M3.sub,M3.fs⟩
 show W M4 (execs (bT :: [nthS 12 lawB]) _) Qc
 have ret:∀ (f:Bool) (loc:Loc),loc = loR (evsL D1 D2) T f (!f) → ∀ m' (M':Mo (lawZ { G with pa:=paB B } lw9T A₀ h₀ outer name L a cd Ec) [] loc m'),finH T M'.H → W M' (execs [nthS 12 lawB] (lawF A₀ h₀ outer name L a cd).env) Qc:=by
  intro f loc e m' M' fin
  subst e
  obtain ⟨d,s,e3,e4⟩:=fin
  refine exeL_ok (wp_ok 60).2.2 (M:=M') (Q:=fun fl _ _=>fl = .ret (.bool true)) p3 ?_ fun fl fv loc' m' M' s' t' r'=>?_
  ·rw [e3]
   refine (lb_12 s (evsL D1 D2) T _ _ d f).mpr (bnd_of ?_ ?_)
   ·rw [e4];exact Nl alen (by decide)
   ·rw [e4,sbeq_self]
  ·subst t'
   obtain ⟨v,rfl,rv⟩:=r'
   cases rv
   exact q _ _ _ M'.st.fr
 refine wpAny_execs_cons (try_ok (M:=M4) p3 ⟨by rfl',by rfl',by rfl',by rfl',by rfl',by rfl',FnOK.up (ok_em (G:={ G with pa:=paB B }) hK hE) (show 18 ≤ 20 by decide),ee⟩ (fun _ h=>h) rfl pA rfl (by rfl') (by rfl') (by rfl')
  (run_all A.c A.i D1 D2 k1 k2 k3 (fun H=>f = true ∧ finH T H) (fun H=>f = false ∧ finH T H) (by rw [hT,hf];exact fun e H hH=>⟨e,hH⟩) (by rw [hT,hf];exact fun e H hH=>⟨e,hH⟩)) ?_ ?_)
 ·intro m' M' s' k'
  exact ret true _ (by rw [k'.1];rfl) m' M' k'.2
 ·intro m' M' s' k'
  exact ret false _ (by rw [k'.1];kernel_rfl) m' M' k'.2
end
end Yv
namespace Hd
open PySem PySem.W PyProof.Rows PySem.Challenge
theorem ee_in (P:Params):nsIn (kk P) mainGlobals (t "EmitterError") = some (some (.ref 277)):=by rfl'
theorem walk:WalkO vw lse (XL vw []) hk.says rr dL [] fun f vs=>PySem.call f vs:=by
 intro w s₀ s₁ mg mb G Y fa o pm cd doc dV kV ho hd hcd hD hmg hg args vals as hpre hlay hrd hwl hlo
 have KX:=kIn_of Y
 refine Ground.open G ?_
 intro T B D TE TW
 clear D
 obtain ⟨_,_,M⟩:=bmod_of_top T
 have TA:=at_of_top T
 obtain ⟨_,_,he,B0⟩:=based_of_top T rfl hmg ho hd
 have he':cd = _:=he
 subst he'
 clear he hmg
 wrow_args hpre hlay hrd hwl hlo
 refine enter_call ?_
 w_top on
 have K0:=below_caller (Top.heap T)
 w_call any ho hd hcd hD T F
 rename Fr _ _ _ _=>F
 rename IntsAre _ _=>hI
 rename Heap.IsList _ _ _=>hL
 rename ¬ _ < _=>hlen
 obtain ⟨oL,hL1,hL2⟩:=hL
 refine Yv.law_frame (G:=⟨rr.prog,w,kk w.params,vw,looseW vw lse,ExcName.means s₀.heap,mg,mb,277,s₁.gens,s₁.drawn,s₁.os,fun _=>0⟩) (A₀:=callerA) (h₀:=s₁.heap) (outer:=[]) (name:=dL.name) (L:=s₁.heap.objs.size) rfl rfl ⟨K0,KX,T,by rfl'⟩ ⟨rfl,by show (callerA.deeper _).depth + 60 ≤ 900;rw [depth_deeper];decide,show callerA.units + 3 + 400 ≤ 9000 by decide⟩ PassesOwn.leaving (fun _=>PassesOwnAt.leaving) (ee_in _) F ?_ ⟨oL,F.keep _ _ hL1,hL2⟩ hI ?_ fun h' tk' m' F'=>?_
 ·kernel_rfl
 ·(first | lia | omega)
 ·refine GoodW.toG (goodW_bool (s':=⟨h',s₁.gens,s₁.drawn,tk',s₁.os⟩) F' hg ?_ ?_ rfl)
  ·exact raisesW_false (by wrow_none_raised)
  ·kernel_rfl
theorem holds:rw_im0053_01.Holds:=head walk
end Hd
theorem PySem.Challenge.cw_im0053_01_holds : PySem.Challenge.rw_im0053_01.Holds :=
 Hd.holds
