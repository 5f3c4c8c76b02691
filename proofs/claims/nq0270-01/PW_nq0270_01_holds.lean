import PyProof.Rows.All
import Wide.All
import OpenK.AllK
import Wide.FinOn
import PySem.Challenge.RW_nq0270_01
set_option Elab.async false
set_option compiler.extract_closed false
set_option bootstrap.genMatcherCode false
set_option linter.unusedVariables false
set_option linter.unusedSimpArgs false
set_option maxRecDepth 100000
namespace Mine.Internal
open PySem PySem.W PyProof.Rows
set_option maxHeartbeats 0
noncomputable abbrev pX:Program:=PySem.Challenge.rw_nq0270_01.row.prog
noncomputable def stX (i:Nat):Stmt:=(pX.main.body[i]?).getD default
noncomputable def inX (i j:Nat):Stmt:=match stX i with
 | .ClassDef _ _ _ b _ _ _ _ _ _ _=>(b[j]?).getD default
 | s=>s
noncomputable def fnX (s:Stmt) (f:Arguments→List Stmt→Scope→Data):Data:=match s with
 | .FunctionDef _ a b _ _ _ c _ _ _=>f a b c
 | _=>.freed
noncomputable def vsX (s:Str) (t:Nat):Value:=.str s t
noncomputable def deX (P:PySem.Params) (s:Str) (t:Nat) (v:Value):DictEntry:={hash:=PyData.keyHash P s,key:=.str s t,val:=v}
noncomputable def tuX (vs:Array Value):Obj:={cls:=.type "tuple",data:=.seq vs}
noncomputable def hd.heap_39 (P:PySem.Params):Frag:=
 [(2,{cls:=.none,data:=.dict #[]}),
 (3,{cls:=.type "dict",data:=.dict #[(deX P "__name__" 165 (vsX "law_nq0270_01" 484)),(deX P "__doc__" 166 .none),(deX P "__package__" 167 .none),(deX P "__loader__" 168 (.builtin "__main__.__loader__#opaque")),(deX P "__spec__" 169 .none),(deX P "__annotations__" 170 (.ref 6)),(deX P "__builtins__" 171 (.ref 4)),(deX P "__file__" 173 (vsX "/claim/cut.py" 172)),(deX P "__cached__" 174 .none),(deX P "_wall" 193 (.ref 21)),(deX P "heappush" 203 (.ref 28)),(deX P "heappop" 212 (.ref 35)),(deX P "_heapreplace_max" 221 (.ref 42)),(deX P "_heapify_max" 230 (.ref 49)),(deX P "_siftdown" 242 (.ref 56)),(deX P "_siftup" 255 (.ref 63)),(deX P "_siftdown_max" 267 (.ref 70)),(deX P "_siftup_max" 280 (.ref 77)),(deX P "nsmallest" 286 (.ref 83)),(deX P "_initial_missing" 289 (.ref 84)),(deX P "reduce" 301 (.ref 92)),(deX P "_NODE_OUT" 306 (.int (-1) 305)),(deX P "_NODE_DONE" 309 (.int (-2) 308)),(deX P "_NodeInfo" 346 (.ref 111)),(deX P "CycleError" 364 (.ref 126)),(deX P "TopologicalSorter" 483 (.ref 208)),(deX P "_law_recipes" 498 (.ref 219)),(deX P "_law_joined" 511 (.ref 226)),(deX P "_law_least" 517 (.ref 231)),(deX P "_law_totals" 533 (.ref 238)),(deX P "_law_first_three" 542 (.ref 245)),(deX P "law" 548 (.ref 250))] 32}),
 (15,(tuX #[])),
 (17,(tuX #[(vsX "k" 190)])),
 (18,(tuX #[])),
 (20,{cls:=.type "code",data:=.fields #[(vsX "_wall" 187),(vsX "_wall" 188),(vsX "/claim/cut.py" 189),.int 1 0,.int 1 0,.int 0 0,.int 0 0,.int 3 0,.ref 15,.bool true,.int 181 0,.ref 16,.none,.ref 17,.ref 18,.ref 19,.int 191 0,.int 1 0,(vsX "/claim/cut.py" 192)]}),
 (21,{cls:=.type "function",data:=(fnX (stX 0) fun a b c=>.func {name:="_wall",qualname:="_wall",params:=a,body:=.stmts b,scope:=c,globals:=3,closure:=[],defaults:=.none,kwdefaults:=.none,pyModule:=(vsX "__main__" 164),code:=.ref 20})}),
 (22,(tuX #[])),
 (24,(tuX #[(vsX "heap" 199),(vsX "item" 200)])),
 (25,(tuX #[])),
 (27,{cls:=.type "code",data:=.fields #[(vsX "heappush" 196),(vsX "heappush" 197),(vsX "/claim/cut.py" 198),.int 5 0,.int 2 0,.int 0 0,.int 0 0,.int 3 0,.ref 22,.bool true,.int 181 0,.ref 23,.none,.ref 24,.ref 25,.ref 26,.int 201 0,.int 5 0,(vsX "/claim/cut.py" 202)]}),
 (28,{cls:=.type "function",data:=(fnX (stX 2) fun a b c=>.func {name:="heappush",qualname:="heappush",params:=a,body:=.stmts b,scope:=c,globals:=3,closure:=[],defaults:=.none,kwdefaults:=.none,pyModule:=(vsX "cpy313.heapq" 194),code:=.ref 27})}),
 (29,(tuX #[])),
 (31,(tuX #[(vsX "heap" 207),(vsX "lastelt" 208),(vsX "returnitem" 209)])),
 (32,(tuX #[])),
 (34,{cls:=.type "code",data:=.fields #[(vsX "heappop" 204),(vsX "heappop" 205),(vsX "/claim/cut.py" 206),.int 8 0,.int 1 0,.int 0 0,.int 0 0,.int 3 0,.ref 29,.bool true,.int 181 0,.ref 30,.none,.ref 31,.ref 32,.ref 33,.int 210 0,.int 8 0,(vsX "/claim/cut.py" 211)]}),
 (35,{cls:=.type "function",data:=(fnX (stX 3) fun a b c=>.func {name:="heappop",qualname:="heappop",params:=a,body:=.stmts b,scope:=c,globals:=3,closure:=[],defaults:=.none,kwdefaults:=.none,pyModule:=(vsX "cpy313.heapq" 194),code:=.ref 34})}),
 (36,(tuX #[])),
 (38,(tuX #[(vsX "heap" 216),(vsX "item" 217),(vsX "returnitem" 218)])),
 (39,(tuX #[])),
 (41,{cls:=.type "code",data:=.fields #[(vsX "_heapreplace_max" 213),(vsX "_heapreplace_max" 214),(vsX "/claim/cut.py" 215),.int 16 0,.int 2 0,.int 0 0,.int 0 0,.int 3 0,.ref 36,.bool true,.int 181 0,.ref 37,.none,.ref 38,.ref 39,.ref 40,.int 219 0,.int 16 0,(vsX "/claim/cut.py" 220)]}),
 (42,{cls:=.type "function",data:=(fnX (stX 4) fun a b c=>.func {name:="_heapreplace_max",qualname:="_heapreplace_max",params:=a,body:=.stmts b,scope:=c,globals:=3,closure:=[],defaults:=.none,kwdefaults:=.none,pyModule:=(vsX "cpy313.heapq" 194),code:=.ref 41})}),
 (43,(tuX #[])),
 (45,(tuX #[(vsX "x" 225),(vsX "n" 226),(vsX "i" 227)])),
 (46,(tuX #[])),
 (48,{cls:=.type "code",data:=.fields #[(vsX "_heapify_max" 222),(vsX "_heapify_max" 223),(vsX "/claim/cut.py" 224),.int 21 0,.int 1 0,.int 0 0,.int 0 0,.int 3 0,.ref 43,.bool true,.int 181 0,.ref 44,.none,.ref 45,.ref 46,.ref 47,.int 228 0,.int 21 0,(vsX "/claim/cut.py" 229)]}),
 (49,{cls:=.type "function",data:=(fnX (stX 5) fun a b c=>.func {name:="_heapify_max",qualname:="_heapify_max",params:=a,body:=.stmts b,scope:=c,globals:=3,closure:=[],defaults:=.none,kwdefaults:=.none,pyModule:=(vsX "cpy313.heapq" 194),code:=.ref 48})}),
 (50,(tuX #[])),
 (52,(tuX #[(vsX "heap" 234),(vsX "startpos" 235),(vsX "pos" 236),(vsX "newitem" 237),(vsX "parentpos" 238),(vsX "parent" 239)])),
 (53,(tuX #[])),
 (55,{cls:=.type "code",data:=.fields #[(vsX "_siftdown" 231),(vsX "_siftdown" 232),(vsX "/claim/cut.py" 233),.int 25 0,.int 3 0,.int 0 0,.int 0 0,.int 3 0,.ref 50,.bool true,.int 181 0,.ref 51,.none,.ref 52,.ref 53,.ref 54,.int 240 0,.int 25 0,(vsX "/claim/cut.py" 241)]}),
 (56,{cls:=.type "function",data:=(fnX (stX 6) fun a b c=>.func {name:="_siftdown",qualname:="_siftdown",params:=a,body:=.stmts b,scope:=c,globals:=3,closure:=[],defaults:=.none,kwdefaults:=.none,pyModule:=(vsX "cpy313.heapq" 194),code:=.ref 55})}),
 (57,(tuX #[])),
 (59,(tuX #[(vsX "heap" 246),(vsX "pos" 247),(vsX "endpos" 248),(vsX "startpos" 249),(vsX "newitem" 250),(vsX "childpos" 251),(vsX "rightpos" 252)])),
 (60,(tuX #[])),
 (62,{cls:=.type "code",data:=.fields #[(vsX "_siftup" 243),(vsX "_siftup" 244),(vsX "/claim/cut.py" 245),.int 36 0,.int 2 0,.int 0 0,.int 0 0,.int 3 0,.ref 57,.bool true,.int 181 0,.ref 58,.none,.ref 59,.ref 60,.ref 61,.int 253 0,.int 36 0,(vsX "/claim/cut.py" 254)]}),
 (63,{cls:=.type "function",data:=(fnX (stX 7) fun a b c=>.func {name:="_siftup",qualname:="_siftup",params:=a,body:=.stmts b,scope:=c,globals:=3,closure:=[],defaults:=.none,kwdefaults:=.none,pyModule:=(vsX "cpy313.heapq" 194),code:=.ref 62})}),
 (64,(tuX #[])),
 (66,(tuX #[(vsX "heap" 259),(vsX "startpos" 260),(vsX "pos" 261),(vsX "newitem" 262),(vsX "parentpos" 263),(vsX "parent" 264)])),
 (67,(tuX #[])),
 (69,{cls:=.type "code",data:=.fields #[(vsX "_siftdown_max" 256),(vsX "_siftdown_max" 257),(vsX "/claim/cut.py" 258),.int 50 0,.int 3 0,.int 0 0,.int 0 0,.int 3 0,.ref 64,.bool true,.int 181 0,.ref 65,.none,.ref 66,.ref 67,.ref 68,.int 265 0,.int 50 0,(vsX "/claim/cut.py" 266)]}),
 (70,{cls:=.type "function",data:=(fnX (stX 8) fun a b c=>.func {name:="_siftdown_max",qualname:="_siftdown_max",params:=a,body:=.stmts b,scope:=c,globals:=3,closure:=[],defaults:=.none,kwdefaults:=.none,pyModule:=(vsX "cpy313.heapq" 194),code:=.ref 69})}),
 (71,(tuX #[])),
 (73,(tuX #[(vsX "heap" 271),(vsX "pos" 272),(vsX "endpos" 273),(vsX "startpos" 274),(vsX "newitem" 275),(vsX "childpos" 276),(vsX "rightpos" 277)])),
 (74,(tuX #[])),
 (76,{cls:=.type "code",data:=.fields #[(vsX "_siftup_max" 268),(vsX "_siftup_max" 269),(vsX "/claim/cut.py" 270),.int 61 0,.int 2 0,.int 0 0,.int 0 0,.int 3 0,.ref 71,.bool true,.int 181 0,.ref 72,.none,.ref 73,.ref 74,.ref 75,.int 278 0,.int 61 0,(vsX "/claim/cut.py" 279)]}),
 (77,{cls:=.type "function",data:=(fnX (stX 9) fun a b c=>.func {name:="_siftup_max",qualname:="_siftup_max",params:=a,body:=.stmts b,scope:=c,globals:=3,closure:=[],defaults:=.none,kwdefaults:=.none,pyModule:=(vsX "cpy313.heapq" 194),code:=.ref 76})}),
 (78,(tuX #[.none])),
 (79,(tuX #[])),
 (82,{cls:=.type "code",data:=.fields #[(vsX "nsmallest" 281),(vsX "nsmallest" 282),(vsX "/claim/cut.py" 283),.int 75 0,.int 3 0,.int 0 0,.int 0 0,.int 3 0,.ref 79,.bool true,.int 181 0,.ref 80,.none,.none,.none,.ref 81,.int 284 0,.int 75 0,(vsX "/claim/cut.py" 285)]}),
 (83,{cls:=.type "function",data:=(fnX (stX 10) fun a b c=>.func {name:="nsmallest",qualname:="nsmallest",params:=a,body:=.stmts b,scope:=c,globals:=3,closure:=[],defaults:=.ref 78,kwdefaults:=.none,pyModule:=(vsX "cpy313.heapq" 194),code:=.ref 82})}),
 (84,{cls:=.type "object"}),
 (85,(tuX #[.ref 84])),
 (86,(tuX #[])),
 (88,(tuX #[(vsX "function" 293),(vsX "sequence" 294),(vsX "initial" 295),(vsX "it" 296),(vsX "value" 297),(vsX "element" 298)])),
 (89,(tuX #[])),
 (91,{cls:=.type "code",data:=.fields #[(vsX "reduce" 290),(vsX "reduce" 291),(vsX "/claim/cut.py" 292),.int 122 0,.int 3 0,.int 0 0,.int 0 0,.int 3 0,.ref 86,.bool true,.int 181 0,.ref 87,.none,.ref 88,.ref 89,.ref 90,.int 299 0,.int 122 0,(vsX "/claim/cut.py" 300)]}),
 (92,{cls:=.type "function",data:=(fnX (stX 13) fun a b c=>.func {name:="reduce",qualname:="reduce",params:=a,body:=.stmts b,scope:=c,globals:=3,closure:=[],defaults:=.ref 85,kwdefaults:=.none,pyModule:=(vsX "cpy313.functools" 287),code:=.ref 91})}),
 (100,(tuX #[(vsX "node" 322),(vsX "npredecessors" 323),(vsX "successors" 324)])),
 (101,(tuX #[])),
 (103,(tuX #[(vsX "self" 329),(vsX "node" 330)])),
 (104,(tuX #[])),
 (106,{cls:=.type "code",data:=.fields #[(vsX "__init__" 326),(vsX "_NodeInfo.__init__" 327),(vsX "/claim/cut.py" 328),.int 140 0,.int 2 0,.int 0 0,.int 0 0,.int 3 0,.ref 101,.bool true,.int 181 0,.ref 102,.none,.ref 103,.ref 104,.ref 105,.int 331 0,.int 140 0,(vsX "/claim/cut.py" 332)]}),
 (107,{cls:=.type "function",data:=(fnX (inX 17 1) fun a b c=>.func {name:="__init__",qualname:="_NodeInfo.__init__",params:=a,body:=.stmts b,scope:=c,globals:=3,closure:=[],defaults:=.none,kwdefaults:=.none,pyModule:=(vsX "cpy313.graphlib" 302),code:=.ref 106})}),
 (108,(tuX #[(vsX "node" 334),(vsX "npredecessors" 335),(vsX "successors" 336)])),
 (110,{cls:=.type "dict",data:=.dict #[(deX P "__module__" 317 (vsX "cpy313.graphlib" 302)),(deX P "__firstlineno__" 321 (.int 137 320)),(deX P "__slots__" 325 (.ref 100)),(deX P "__init__" 333 (.ref 107)),(deX P "__static_attributes__" 337 (.ref 108)),(deX P "node" 339 (.ref 112)),(deX P "npredecessors" 341 (.ref 113)),(deX P "successors" 343 (.ref 114)),(deX P "__doc__" 344 .none)] 5}),
 (111,{cls:=.type "type",data:=.cls {name:="_NodeInfo",bases:=[.type "object"],mro:=[.ref 111,.type "object"],ns:=110,qualname:="_NodeInfo",hasDict:=false,slotNames:=["node","npredecessors","successors"]},slots:=#[none,none,some ((vsX "_NodeInfo" 310)),some ((vsX "_NodeInfo" 318)),some (.builtin "object.__new__"),some (.bool false)]}),
 (112,{cls:=.type "member_descriptor",data:=.fields #[(vsX "node" 338),.ref 111,.builtin "proto.slot",.builtin "proto.slot#set",.int 2 0]}),
 (113,{cls:=.type "member_descriptor",data:=.fields #[(vsX "npredecessors" 340),.ref 111,.builtin "proto.slot",.builtin "proto.slot#set",.int 1 0]}),
 (114,{cls:=.type "member_descriptor",data:=.fields #[(vsX "successors" 342),.ref 111,.builtin "proto.slot",.builtin "proto.slot#set",.int 0 0]}),
 (117,(tuX #[.type "ValueError"])),
 (124,(tuX #[])),
 (125,{cls:=.type "dict",data:=.dict #[(deX P "__module__" 354 (vsX "cpy313.graphlib" 302)),(deX P "__firstlineno__" 358 (.int 144 357)),(deX P "__static_attributes__" 359 (.ref 124)),(deX P "__weakref__" 361 (.ref 127)),(deX P "__doc__" 362 .none)] 3}),
 (126,{cls:=.type "type",data:=.cls {name:="CycleError",bases:=[.type "ValueError"],mro:=[.ref 126,.type "ValueError",.type "Exception",.type "BaseException",.type "object"],ns:=125,qualname:="CycleError"},slots:=#[some (.ref 117),none,some ((vsX "CycleError" 347)),some ((vsX "CycleError" 355)),some (.builtin "ValueError.__new__"),some (.bool true)]}),
 (127,{cls:=.type "getset_descriptor",data:=.fields #[(vsX "__weakref__" 360),.ref 126,.builtin "ExceptionGroup.__weakref__",.none]}),
 (137,(tuX #[.none])),
 (138,(tuX #[])),
 (140,(tuX #[(vsX "self" 380),(vsX "graph" 381),(vsX "node" 382),(vsX "predecessors" 383)])),
 (141,(tuX #[])),
 (143,{cls:=.type "code",data:=.fields #[(vsX "__init__" 377),(vsX "TopologicalSorter.__init__" 378),(vsX "/claim/cut.py" 379),.int 148 0,.int 2 0,.int 0 0,.int 0 0,.int 3 0,.ref 138,.bool true,.int 181 0,.ref 139,.none,.ref 140,.ref 141,.ref 142,.int 384 0,.int 148 0,(vsX "/claim/cut.py" 385)]}),
 (144,{cls:=.type "function",data:=(fnX (inX 19 0) fun a b c=>.func {name:="__init__",qualname:="TopologicalSorter.__init__",params:=a,body:=.stmts b,scope:=c,globals:=3,closure:=[],defaults:=.ref 137,kwdefaults:=.none,pyModule:=(vsX "cpy313.graphlib" 302),code:=.ref 143})}),
 (145,(tuX #[])),
 (147,(tuX #[(vsX "self" 390),(vsX "node" 391),(vsX "result" 392)])),
 (148,(tuX #[])),
 (150,{cls:=.type "code",data:=.fields #[(vsX "_get_nodeinfo" 387),(vsX "TopologicalSorter._get_nodeinfo" 388),(vsX "/claim/cut.py" 389),.int 157 0,.int 2 0,.int 0 0,.int 0 0,.int 3 0,.ref 145,.bool true,.int 181 0,.ref 146,.none,.ref 147,.ref 148,.ref 149,.int 393 0,.int 157 0,(vsX "/claim/cut.py" 394)]}),
 (151,{cls:=.type "function",data:=(fnX (inX 19 1) fun a b c=>.func {name:="_get_nodeinfo",qualname:="TopologicalSorter._get_nodeinfo",params:=a,body:=.stmts b,scope:=c,globals:=3,closure:=[],defaults:=.none,kwdefaults:=.none,pyModule:=(vsX "cpy313.graphlib" 302),code:=.ref 150})}),
 (152,(tuX #[])),
 (154,(tuX #[(vsX "self" 399),(vsX "node" 400),(vsX "predecessors" 401),(vsX "nodeinfo" 402),(vsX "pred" 403),(vsX "pred_info" 404)])),
 (155,(tuX #[])),
 (157,{cls:=.type "code",data:=.fields #[(vsX "add" 396),(vsX "TopologicalSorter.add" 397),(vsX "/claim/cut.py" 398),.int 162 0,.int 2 0,.int 0 0,.int 0 0,.int 7 0,.ref 152,.bool true,.int 181 0,.ref 153,.none,.ref 154,.ref 155,.ref 156,.int 405 0,.int 162 0,(vsX "/claim/cut.py" 406)]}),
 (158,{cls:=.type "function",data:=(fnX (inX 19 2) fun a b c=>.func {name:="add",qualname:="TopologicalSorter.add",params:=a,body:=.stmts b,scope:=c,globals:=3,closure:=[],defaults:=.none,kwdefaults:=.none,pyModule:=(vsX "cpy313.graphlib" 302),code:=.ref 157})}),
 (159,(tuX #[])),
 (162,{cls:=.type "code",data:=.fields #[(vsX "prepare" 408),(vsX "TopologicalSorter.prepare" 409),(vsX "/claim/cut.py" 410),.int 171 0,.int 1 0,.int 0 0,.int 0 0,.int 3 0,.ref 159,.bool true,.int 181 0,.ref 160,.none,.none,.none,.ref 161,.int 411 0,.int 171 0,(vsX "/claim/cut.py" 412)]}),
 (163,{cls:=.type "function",data:=(fnX (inX 19 3) fun a b c=>.func {name:="prepare",qualname:="TopologicalSorter.prepare",params:=a,body:=.stmts b,scope:=c,globals:=3,closure:=[],defaults:=.none,kwdefaults:=.none,pyModule:=(vsX "cpy313.graphlib" 302),code:=.ref 162})}),
 (164,(tuX #[])),
 (166,(tuX #[(vsX "self" 417),(vsX "result" 418),(vsX "n2i" 419),(vsX "node" 420)])),
 (167,(tuX #[])),
 (169,{cls:=.type "code",data:=.fields #[(vsX "get_ready" 414),(vsX "TopologicalSorter.get_ready" 415),(vsX "/claim/cut.py" 416),.int 179 0,.int 1 0,.int 0 0,.int 0 0,.int 3 0,.ref 164,.bool true,.int 181 0,.ref 165,.none,.ref 166,.ref 167,.ref 168,.int 421 0,.int 179 0,(vsX "/claim/cut.py" 422)]}),
 (170,{cls:=.type "function",data:=(fnX (inX 19 4) fun a b c=>.func {name:="get_ready",qualname:="TopologicalSorter.get_ready",params:=a,body:=.stmts b,scope:=c,globals:=3,closure:=[],defaults:=.none,kwdefaults:=.none,pyModule:=(vsX "cpy313.graphlib" 302),code:=.ref 169})}),
 (171,(tuX #[])),
 (173,(tuX #[(vsX "self" 427)])),
 (174,(tuX #[])),
 (176,{cls:=.type "code",data:=.fields #[(vsX "is_active" 424),(vsX "TopologicalSorter.is_active" 425),(vsX "/claim/cut.py" 426),.int 190 0,.int 1 0,.int 0 0,.int 0 0,.int 3 0,.ref 171,.bool true,.int 181 0,.ref 172,.none,.ref 173,.ref 174,.ref 175,.int 428 0,.int 190 0,(vsX "/claim/cut.py" 429)]}),
 (177,{cls:=.type "function",data:=(fnX (inX 19 5) fun a b c=>.func {name:="is_active",qualname:="TopologicalSorter.is_active",params:=a,body:=.stmts b,scope:=c,globals:=3,closure:=[],defaults:=.none,kwdefaults:=.none,pyModule:=(vsX "cpy313.graphlib" 302),code:=.ref 176})}),
 (178,(tuX #[])),
 (180,(tuX #[(vsX "self" 434)])),
 (181,(tuX #[])),
 (183,{cls:=.type "code",data:=.fields #[(vsX "__bool__" 431),(vsX "TopologicalSorter.__bool__" 432),(vsX "/claim/cut.py" 433),.int 195 0,.int 1 0,.int 0 0,.int 0 0,.int 3 0,.ref 178,.bool true,.int 181 0,.ref 179,.none,.ref 180,.ref 181,.ref 182,.int 435 0,.int 195 0,(vsX "/claim/cut.py" 436)]}),
 (184,{cls:=.type "function",data:=(fnX (inX 19 6) fun a b c=>.func {name:="__bool__",qualname:="TopologicalSorter.__bool__",params:=a,body:=.stmts b,scope:=c,globals:=3,closure:=[],defaults:=.none,kwdefaults:=.none,pyModule:=(vsX "cpy313.graphlib" 302),code:=.ref 183})}),
 (185,(tuX #[])),
 (187,(tuX #[(vsX "self" 441),(vsX "nodes" 442),(vsX "n2i" 443),(vsX "node" 444),(vsX "nodeinfo" 445),(vsX "stat" 446),(vsX "successor" 447),(vsX "successor_info" 448)])),
 (188,(tuX #[])),
 (190,{cls:=.type "code",data:=.fields #[(vsX "done" 438),(vsX "TopologicalSorter.done" 439),(vsX "/claim/cut.py" 440),.int 198 0,.int 1 0,.int 0 0,.int 0 0,.int 7 0,.ref 185,.bool true,.int 181 0,.ref 186,.none,.ref 187,.ref 188,.ref 189,.int 449 0,.int 198 0,(vsX "/claim/cut.py" 450)]}),
 (191,{cls:=.type "function",data:=(fnX (inX 19 7) fun a b c=>.func {name:="done",qualname:="TopologicalSorter.done",params:=a,body:=.stmts b,scope:=c,globals:=3,closure:=[],defaults:=.none,kwdefaults:=.none,pyModule:=(vsX "cpy313.graphlib" 302),code:=.ref 190})}),
 (192,(tuX #[])),
 (194,(tuX #[(vsX "self" 455),(vsX "n2i" 456),(vsX "stack" 457),(vsX "itstack" 458),(vsX "seen" 459),(vsX "node2stacki" 460),(vsX "node" 461)])),
 (195,(tuX #[])),
 (197,{cls:=.type "code",data:=.fields #[(vsX "_find_cycle" 452),(vsX "TopologicalSorter._find_cycle" 453),(vsX "/claim/cut.py" 454),.int 221 0,.int 1 0,.int 0 0,.int 0 0,.int 3 0,.ref 192,.bool true,.int 181 0,.ref 193,.none,.ref 194,.ref 195,.ref 196,.int 462 0,.int 221 0,(vsX "/claim/cut.py" 463)]}),
 (198,{cls:=.type "function",data:=(fnX (inX 19 8) fun a b c=>.func {name:="_find_cycle",qualname:="TopologicalSorter._find_cycle",params:=a,body:=.stmts b,scope:=c,globals:=3,closure:=[],defaults:=.none,kwdefaults:=.none,pyModule:=(vsX "cpy313.graphlib" 302),code:=.ref 197})}),
 (199,(tuX #[])),
 (201,(tuX #[(vsX "self" 468)])),
 (202,(tuX #[])),
 (204,{cls:=.type "code",data:=.fields #[(vsX "static_order" 465),(vsX "TopologicalSorter.static_order" 466),(vsX "/claim/cut.py" 467),.int 250 0,.int 1 0,.int 0 0,.int 0 0,.int 3 0,.ref 199,.bool true,.int 181 0,.ref 200,.none,.ref 201,.ref 202,.ref 203,.int 469 0,.int 250 0,(vsX "/claim/cut.py" 470)]}),
 (205,{cls:=.type "function",data:=(fnX (inX 19 9) fun a b c=>.func {name:="static_order",qualname:="TopologicalSorter.static_order",params:=a,body:=.stmts b,scope:=c,globals:=3,closure:=[],defaults:=.none,kwdefaults:=.none,pyModule:=(vsX "cpy313.graphlib" 302),code:=.ref 204})}),
 (206,(tuX #[(vsX "_nfinished" 472),(vsX "_node2info" 473),(vsX "_npassedout" 474),(vsX "_ready_nodes" 475)])),
 (207,{cls:=.type "dict",data:=.dict #[(deX P "__module__" 372 (vsX "cpy313.graphlib" 302)),(deX P "__firstlineno__" 376 (.int 146 375)),(deX P "__init__" 386 (.ref 144)),(deX P "_get_nodeinfo" 395 (.ref 151)),(deX P "add" 407 (.ref 158)),(deX P "prepare" 413 (.ref 163)),(deX P "get_ready" 423 (.ref 170)),(deX P "is_active" 430 (.ref 177)),(deX P "__bool__" 437 (.ref 184)),(deX P "done" 451 (.ref 191)),(deX P "_find_cycle" 464 (.ref 198)),(deX P "static_order" 471 (.ref 205)),(deX P "__static_attributes__" 476 (.ref 206)),(deX P "__dict__" 478 (.ref 209)),(deX P "__weakref__" 480 (.ref 210)),(deX P "__doc__" 481 .none)] 4}),
 (208,{cls:=.type "type",data:=.cls {name:="TopologicalSorter",bases:=[.type "object"],mro:=[.ref 208,.type "object"],ns:=207,qualname:="TopologicalSorter"},slots:=#[none,none,some ((vsX "TopologicalSorter" 365)),some ((vsX "TopologicalSorter" 373)),some (.builtin "object.__new__"),some (.bool true)]}),
 (209,{cls:=.type "getset_descriptor",data:=.fields #[(vsX "__dict__" 477),.ref 208,.builtin "function.__dict__",.builtin "function.__dict__#set"]}),
 (210,{cls:=.type "getset_descriptor",data:=.fields #[(vsX "__weakref__" 479),.ref 208,.builtin "ExceptionGroup.__weakref__",.none]}),
 (213,(tuX #[])),
 (215,(tuX #[(vsX "wants" 489),(vsX "hidden" 490),(vsX "recipes" 491),(vsX "place" 492),(vsX "number" 493),(vsX "parts" 494),(vsX "second" 495)])),
 (216,(tuX #[])),
 (218,{cls:=.type "code",data:=.fields #[(vsX "_law_recipes" 486),(vsX "_law_recipes" 487),(vsX "/claim/cut.py" 488),.int 253 0,.int 2 0,.int 0 0,.int 0 0,.int 3 0,.ref 213,.bool true,.int 181 0,.ref 214,.none,.ref 215,.ref 216,.ref 217,.int 496 0,.int 253 0,(vsX "/claim/cut.py" 497)]}),
 (219,{cls:=.type "function",data:=(fnX (stX 21) fun a b c=>.func {name:="_law_recipes",qualname:="_law_recipes",params:=a,body:=.stmts b,scope:=c,globals:=3,closure:=[],defaults:=.none,kwdefaults:=.none,pyModule:=(vsX "law_nq0270_01" 484),code:=.ref 218})}),
 (220,(tuX #[])),
 (222,(tuX #[(vsX "prices" 502),(vsX "others" 503),(vsX "heap" 504),(vsX "sums" 505),(vsX "price" 506),(vsX "first" 507),(vsX "second" 508)])),
 (223,(tuX #[])),
 (225,{cls:=.type "code",data:=.fields #[(vsX "_law_joined" 499),(vsX "_law_joined" 500),(vsX "/claim/cut.py" 501),.int 267 0,.int 2 0,.int 0 0,.int 0 0,.int 3 0,.ref 220,.bool true,.int 181 0,.ref 221,.none,.ref 222,.ref 223,.ref 224,.int 509 0,.int 267 0,(vsX "/claim/cut.py" 510)]}),
 (226,{cls:=.type "function",data:=(fnX (stX 22) fun a b c=>.func {name:="_law_joined",qualname:="_law_joined",params:=a,body:=.stmts b,scope:=c,globals:=3,closure:=[],defaults:=.none,kwdefaults:=.none,pyModule:=(vsX "law_nq0270_01" 484),code:=.ref 225})}),
 (227,(tuX #[])),
 (230,{cls:=.type "code",data:=.fields #[(vsX "_law_least" 512),(vsX "_law_least" 513),(vsX "/claim/cut.py" 514),.int 278 0,.int 1 0,.int 0 0,.int 0 0,.int 3 0,.ref 227,.bool true,.int 181 0,.ref 228,.none,.none,.none,.ref 229,.int 515 0,.int 278 0,(vsX "/claim/cut.py" 516)]}),
 (231,{cls:=.type "function",data:=(fnX (stX 23) fun a b c=>.func {name:="_law_least",qualname:="_law_least",params:=a,body:=.stmts b,scope:=c,globals:=3,closure:=[],defaults:=.none,kwdefaults:=.none,pyModule:=(vsX "law_nq0270_01" 484),code:=.ref 230})}),
 (232,(tuX #[])),
 (234,(tuX #[(vsX "recipes" 521),(vsX "totals" 522),(vsX "step" 523),(vsX "fresh" 524),(vsX "thing" 525),(vsX "total" 526),(vsX "price" 527),(vsX "parts" 528),(vsX "ways" 529),(vsX "part" 530)])),
 (235,(tuX #[])),
 (237,{cls:=.type "code",data:=.fields #[(vsX "_law_totals" 518),(vsX "_law_totals" 519),(vsX "/claim/cut.py" 520),.int 293 0,.int 1 0,.int 0 0,.int 0 0,.int 3 0,.ref 232,.bool true,.int 181 0,.ref 233,.none,.ref 234,.ref 235,.ref 236,.int 531 0,.int 293 0,(vsX "/claim/cut.py" 532)]}),
 (238,{cls:=.type "function",data:=(fnX (stX 24) fun a b c=>.func {name:="_law_totals",qualname:="_law_totals",params:=a,body:=.stmts b,scope:=c,globals:=3,closure:=[],defaults:=.none,kwdefaults:=.none,pyModule:=(vsX "law_nq0270_01" 484),code:=.ref 237})}),
 (239,(tuX #[])),
 (241,(tuX #[(vsX "total" 537),(vsX "prices" 538),(vsX "price" 539)])),
 (242,(tuX #[])),
 (244,{cls:=.type "code",data:=.fields #[(vsX "_law_first_three" 534),(vsX "_law_first_three" 535),(vsX "/claim/cut.py" 536),.int 307 0,.int 1 0,.int 0 0,.int 0 0,.int 3 0,.ref 239,.bool true,.int 181 0,.ref 240,.none,.ref 241,.ref 242,.ref 243,.int 540 0,.int 307 0,(vsX "/claim/cut.py" 541)]}),
 (245,{cls:=.type "function",data:=(fnX (stX 25) fun a b c=>.func {name:="_law_first_three",qualname:="_law_first_three",params:=a,body:=.stmts b,scope:=c,globals:=3,closure:=[],defaults:=.none,kwdefaults:=.none,pyModule:=(vsX "law_nq0270_01" 484),code:=.ref 244})}),
 (246,(tuX #[])),
 (249,{cls:=.type "code",data:=.fields #[(vsX "law" 543),(vsX "law" 544),(vsX "/claim/cut.py" 545),.int 314 0,.int 1 0,.int 0 0,.int 0 0,.int 3 0,.ref 246,.bool true,.int 181 0,.ref 247,.none,.none,.none,.ref 248,.int 546 0,.int 314 0,(vsX "/claim/cut.py" 547)]}),
 (250,{cls:=.type "function",data:=(fnX (stX 26) fun a b c=>.func {name:="law",qualname:="law",params:=a,body:=.stmts b,scope:=c,globals:=3,closure:=[],defaults:=.none,kwdefaults:=.none,pyModule:=(vsX "law_nq0270_01" 484),code:=.ref 249})})]
noncomputable def hd.view_39:Program:=view pX [0,2,3,4,5,6,7,8,9,12,15,16,17,18,19,21,22,23,24,25,26]
noncomputable def asX:List Addr:=[2,3,15,17,18,20,21,22,24,25,27,28,29,31,32,34,35,36,38,39,41,42,43,45,46,48,49,50,52,53,55,56,57,59,60,62,63,64,66,67,69,70,71,73,74,76,77,78,79,82,83,84,85,86,88,89,91,92,100,101,103,104,106,107,108,110,111,112,113,114,117,124,125,126,127,137,138,140,141,143,144,145,147,148,150,151,152,154,155,157,158,159,162,163,164,166,167,169,170,171,173,174,176,177,178,180,181,183,184,185,187,188,190,191,192,194,195,197,198,199,201,202,204,205,206,207,208,209,210,213,215,216,218,219,220,222,223,225,226,227,230,231,232,234,235,237,238,239,241,242,244,245,246,249,250]
noncomputable def loX:List Str:=[Str.ofString "nsmallest",Str.ofString "_initial_missing",Str.ofString "reduce",Str.ofString "_NodeInfo"]
theorem as_ok (P):asX=(hd.heap_39 P).map (·.1):=by kernel_rfl
theorem left_of {p q:Program}{loose:List Str}{Xt:Shared→Bool}{α:Type}{Yf:Shared→α}{Ya:World→α}{N:Nat}
  (e:opening p=plainProg p.main.scope.names) (hN:Nat.ble 600 N=true) (f:∀ s,fenceModules? p s=some s)
  (h:∀(w:World) (os:OsState),(topFrom treeTable p w N ⟨boot_heap w.params,Array.mk [],boot_drawn,boot_toks,os⟩).map (fun s=>(openSeen q loose (importedModules p.main.body) Xt true s,Yf s))=some (openGood q loose,Ya w)):
  LeftO p q loose Xt Yf Ya N:=fun w=>by
 obtain⟨⟨h0,gs,d,k,os⟩,e1,e2⟩:=Option.map_eq_some_iff.mp (boot_open e hN f w)
 simp only[Prod.mk.injEq] at e2
 obtain⟨rfl,rfl,rfl,rfl⟩:=e2
 unfold openEnds
 rw[e1]
 exact h w os
theorem open_ok:opening pX=plainProg pX.main.scope.names:=by kernel_rfl
theorem fence_ok (s:Shared):fenceModules? pX s=some s:=by kernel_rfl
noncomputable abbrev xtX:Shared→Bool:=fun s=>xlAt hd.view_39 [] s && recOk (RowW.records PySem.Challenge.rw_nq0270_01.row.toRowW) s
noncomputable abbrev hkX:Hook:=kHook hd.heap_39 asX as_ok
theorem run_ok (w:World) (os:OsState):(topFrom treeTable pX w 3348 ⟨boot_heap w.params,Array.mk [],boot_drawn,boot_toks,os⟩).map (fun s=>(openSeen hd.view_39 loX (importedModules pX.main.body) xtX true s,Hook.obs hkX s))=some (openGood hd.view_39 loX,Hook.val hkX w):=by
 unfold topFrom
 rw[PySem.W.Fast.te14082659384304107361,PySem.W.Fast.te14364793385576792824,PySem.W.Fast.te4187177175401517315]
 kernel_rfl
theorem left_ok:LeftO pX hd.view_39 loX xtX (Hook.obs hkX) (Hook.val hkX) 3348:=left_of open_ok rfl fence_ok run_ok
theorem said_ok:PySem.Challenge.rw_nq0270_01.wellSaid=true:=by kernel_rfl
noncomputable def dX:DefRec:=match stX 26 with
 | .FunctionDef n a b _ _ _ c _ _ pos=>{name:=n,params:=a,body:=b,scope:=c,pos:=pos}
 | _=>{name:="",params:=⟨[],[],none,[],[],none,[]⟩,body:=[],scope:=default,pos:=default}
theorem hd (walk:WalkO hd.view_39 loX (XL hd.view_39 []) hkX.says PySem.Challenge.rw_nq0270_01.row.toRowW dX [] fun f vs=>call f vs):PySem.Challenge.rw_nq0270_01.Holds:=by
 refine holds_law said_ok fun said=>?_
 refine holds_open (q:=hd.view_39) (loose:=loX) (Xt:=xtX) (XP:=XL hd.view_39 []) (Yf:=Hook.obs hkX) (Ya:=Hook.val hkX) (YP:=Hook.says hkX) (N:=3348) left_ok (Hook.of hkX) (Hook.keeps hkX) (fun s e=>xl_of s (Bool.and_eq_true_iff.mp e).1) XL.keeps (by kernel_rfl) (by kernel_rfl) (by kernel_rfl) (fun s e=>recFacts_of (Bool.and_eq_true_iff.mp e).2) (by kernel_rfl) said (by kernel_rfl) ⟨rfl,rfl,rfl,rfl,rfl,by decide+kernel⟩ ?hw walk
 case hw=>w_witness2
end Mine.Internal
namespace Mine.Internal
set_option autoImplicit true
open PySem PySem.W PyProof.Rows PySem.Calls
inductive PV where
 | none
 | bool (b:Bool)
 | int (i:Int)
 | ref (i:Nat)
 | tup (xs:List PV)
 | const (v:Value)
inductive PObj where
 | list (xs:List PV)
 | dict (es:List (Int × PV)) (ep:Nat)
 | set (es:List Int)
 | sorter (fs:List (Option PV))
 | node (fs:List (Option PV))
 | liter (l:PV) (k:Nat)
 | bnext (l:PV) (k:Nat)
 | raw (o:Obj)
 | dead
noncomputable abbrev Ad:=Addr × Addr
noncomputable def away (α:List Ad) (a:Addr):Prop:=∀ p∈α,p.1≠a∧p.2≠a
mutual
inductive VR (α:List Ad) (U:List Addr) (h:Heap):Value→PV→Prop
 | none:VR α U h .none .none
 | bool (b:Bool):VR α U h (.bool b) (.bool b)
 | int (i:Int) (t:Tok):VR α U h (.int i t) (.int i)
 | ref {a b:Addr}{i:Nat}:α[i]?=some (a,b)→VR α U h (.ref a) (.ref i)
 | tup {a:Addr}{vs:List Value}{xs:List PV}:IsTup h a vs.toArray→a ∉ U→away α a→VRs α U h vs xs→VR α U h (.ref a) (.tup xs)
 | const (v:Value):VR α U h v (.const v)
inductive VRs (α:List Ad) (U:List Addr) (h:Heap):List Value→List PV→Prop
 | nil:VRs α U h [] []
 | cons {v:Value}{p:PV}{vs:List Value}{ps:List PV}:VR α U h v p→VRs α U h vs ps→VRs α U h (v::vs) (p::ps)
end
noncomputable def Like (o o':Obj):Prop:=o'.cls=o.cls∧o'.dict=o.dict∧o'.data=o.data
theorem nle {a b:Nat}(h:Nat.ble a b=true):a≤b:=Nat.le_of_ble_eq_true h
theorem nlt {a b:Nat}(h:Nat.ble (a+1) b=true):a<b:=Nat.le_of_ble_eq_true h
noncomputable def tag:PObj→Nat
 | .list _=>0
 | .dict _ _=>1
 | .set _=>2
 | .sorter _=>3
 | .node _=>4
 | .liter _ _=>5
 | .bnext _ _=>6
 | .raw _=>7
 | .dead=>8
theorem tne {a b:PObj}(h:Nat.beq (tag a) (tag b)=false):a≠b:=fun e=>by rw[e,Nat.beq_refl] at h;exact nomatch h
section
variable {τ:Type}{x a b c d e:τ}
theorem m0 {l:List τ}:a∈a::l:=.head _
theorem m1 {l:List τ}:b∈a::b::l:=.tail _ m0
theorem m2 {l:List τ}:c∈a::b::c::l:=.tail _ m1
theorem m3 {l:List τ}:d∈a::b::c::d::l:=.tail _ m2
theorem m4 {l:List τ}:e∈a::b::c::d::e::l:=.tail _ m3
theorem alln {P:τ→Prop}:∀ a∈([]:List τ),P a:=List.forall_mem_nil P
theorem allc {P:τ→Prop}{x:τ}{l:List τ}(h:P x) (t:∀ a∈l,P a):∀ a∈x::l,P a:=List.forall_mem_cons.mpr ⟨h,t⟩
theorem in1 (h:x∈[a]):x=a:=List.mem_singleton.mp h
theorem in2 (h:x∈[a,b]):x=a∨x=b:=(List.mem_cons.mp h).imp id in1
theorem in3 (h:x∈[a,b,c]):x=a∨x=b∨x=c:=(List.mem_cons.mp h).imp id in2
theorem in4 (h:x∈[a,b,c,d]):x=a∨x=b∨x=c∨x=d:=(List.mem_cons.mp h).imp id in3
theorem in5 (h:x∈[a,b,c,d,e]):x=a∨x=b∨x=c∨x=d∨x=e:=(List.mem_cons.mp h).imp id in4
theorem out1 (h:x ∉ [a]):x≠a:=fun q=>h (q▸.head _)
theorem outc {l:List τ}(h:x ∉ a::l):x≠a∧x ∉ l:=⟨fun q=>h (q▸.head _),fun q=>h (.tail _ q)⟩
theorem out2 (h:x ∉ [a,b]):x≠a∧x≠b:=⟨(outc h).1,out1 (outc h).2⟩
theorem out3 (h:x ∉ [a,b,c]):x≠a∧x≠b∧x≠c:=⟨(outc h).1,(outc (outc h).2).1,out1 (outc (outc h).2).2⟩
theorem out4 (h:x ∉ [a,b,c,d]):x≠a∧x≠b∧x≠c∧x≠d:=⟨(outc h).1,out3 (outc h).2⟩
theorem out5 (h:x ∉ [a,b,c,d,e]):x≠a∧x≠b∧x≠c∧x≠d∧x≠e:=⟨(outc h).1,(outc (outc h).2).1,out3 (outc (outc h).2).2⟩
end
theorem nn {τ:Type}{a:τ}{P:Prop}(h:none=some a):P:=nomatch h
theorem sj {τ:Type}{a b:τ}(h:some a=some b):a=b:=Option.some.inj h
theorem sp2 {τ ρ:Type}{a c:τ}{b d:ρ}(h:some (a,b)=some (c,d)):a=c∧b=d:=Prod.mk.inj (Option.some.inj h)
@[elab_as_elim] theorem sp2e {τ ρ:Type}{a c:τ}{b d:ρ}{P:τ→ρ→Prop}(h:some (a,b)=some (c,d)) (k:P a b):P c d:=(sp2 h).1▸(sp2 h).2▸k
theorem ff {P:Prop}(h:false=true):P:=nomatch h
theorem gv {T:Prop}(h:∀ P:Prop,(T→P)→P):T:=h T id
theorem Like.refl (o:Obj):Like o o:=⟨rfl,rfl,rfl⟩
theorem Like.trans {a b c:Obj}(x:Like a b) (y:Like b c):Like a c:=⟨y.1.trans x.1,y.2.1.trans x.2.1,y.2.2.trans x.2.2⟩
structure Step0 (own fr:List Addr) (α:List Ad) (h:Heap) (α':List Ad) (h':Heap):Prop where
 ext:∃ β,α'=α++β∧∀ p∈β,h.get? p.1=none∧h.get? p.2=none
 only:∀ a o,h.get? a=some o→away α a→a ∉ own→a ∉ fr→h'.get? a=some o
 data:∀ a o,h.get? a=some o→away α a→a ∉ own→∃ o',h'.get? a=some o'∧Like o o'
structure Step (own fr:List Addr) (α:List Ad) (h:Heap) (α':List Ad) (h':Heap):Prop where
 ext:∃ β,α'=α++β∧∀ p∈β,h.get? p.1=none∧h.get? p.2=none
 only:∀ a o,h.get? a=some o→away α a→a ∉ own→a ∉ fr→h'.get? a=some o
 data:∀ a o,h.get? a=some o→away α a→a ∉ own→∃ o',h'.get? a=some o'∧Like o o'
 alive:∀ a o,h.get? a=some o→∃ o',h'.get? a=some o'
theorem Step.toStep0 {own fr:List Addr}{α:List Ad}{h:Heap}{α':List Ad}{h':Heap}(S:Step own fr α h α' h'):Step0 own fr α h α' h':=⟨S.ext,S.only,S.data⟩
theorem Step.refl (own fr α h):Step own fr α h α h:=⟨⟨[],by simp,fun _ h=>nomatch h⟩,fun _ _ e _ _ _=>e,fun _ o e _ _=>⟨o,e,.refl o⟩,fun _ o e=>⟨o,e⟩⟩
theorem away_append {α β:List Ad}{a:Addr}(x:away α a) (y:∀ p∈β,p.1≠a∧p.2≠a):away (α++β) a:=fun p hp=>by
 rcases List.mem_append.mp hp with h | h
 ·exact x p h
 ·exact y p h
theorem Step0.awayNew {own fr α h α' h'}(S:Step0 own fr α h α' h') {a:Addr}{o:Obj}(e:h.get? a=some o) (x:away α a):away α' a:=by
 obtain⟨β,rfl,hb⟩:=S.ext
 refine away_append x fun p hp=>⟨fun q=>?_,fun q=>?_⟩
 ·have:=(hb p hp).1;rw[q,e] at this;exact nomatch this
 ·have:=(hb p hp).2;rw[q,e] at this;exact nomatch this
theorem Step.awayNew {own fr α h α' h'}(S:Step own fr α h α' h') {a:Addr}{o:Obj}(e:h.get? a=some o) (x:away α a):away α' a:=S.toStep0.awayNew e x
theorem Step.trans {own fr α h α₁ h₁ α₂ h₂}(S:Step own fr α h α₁ h₁) (T:Step own fr α₁ h₁ α₂ h₂):Step own fr α h α₂ h₂:=by
 refine⟨?_,fun a o e x y z=>T.only a o (S.only a o e x y z) (S.awayNew e x) y z,fun a o e x y=>?_,fun a o e=>?_⟩
 ·obtain⟨β,rfl,hb⟩:=S.ext
  obtain⟨γ,rfl,hc⟩:=T.ext
  refine⟨β++γ,by rw[List.append_assoc],fun p hp=>?_⟩
  have no:∀ a,h₁.get? a=none→h.get? a=none:=fun a e=>by
   cases q:h.get? a with
   | none=>rfl
   | some o=>obtain⟨o',e'⟩:=S.alive a o q;rw[e] at e';exact nn e'
  rcases List.mem_append.mp hp with q | q
  ·exact hb p q
  ·exact⟨no _ (hc p q).1,no _ (hc p q).2⟩
 ·obtain⟨o1,e1,l1⟩:=S.data a o e x y
  obtain⟨o2,e2,l2⟩:=T.data a o1 e1 (S.awayNew e x) y
  exact⟨o2,e2,l1.trans l2⟩
 ·obtain⟨o',e'⟩:=S.alive a o e
  exact T.alive a o' e'
theorem Step.weaken {own fr own' fr' α h α' h'}(S:Step own fr α h α' h') (hs:∀ a∈own,a∈own') (hf:∀ a∈fr,a∈fr'):Step own' fr' α h α' h':=
 ⟨S.ext,fun a o e x y z=>S.only a o e x (fun q=>y (hs a q)) fun q=>z (hf a q),fun a o e x y=>S.data a o e x fun q=>y (hs a q),S.alive⟩
theorem Step.plain {own fr α h α' h'}(S:Step [] [] α h α' h'):Step own fr α h α' h':=S.weaken (fun _ q=>nomatch q) fun _ q=>nomatch q
theorem Step.forget {own fr own' fr' α h α' h'}(S:Step own fr α h α' h') (hs:∀ a∈own,a∈own'∨h.get? a=none) (hf:∀ a∈fr,a∈fr'∨h.get? a=none):Step own' fr' α h α' h':=
 ⟨S.ext,fun a o e x y z=>S.only a o e x (fun q=>(hs a q).elim y fun q=>by(rw[e] at q;exact nomatch q)) fun q=>(hf a q).elim z fun q=>by(rw[e] at q;exact nomatch q),
  fun a o e x y=>S.data a o e x fun q=>(hs a q).elim y fun q=>by(rw[e] at q;exact nomatch q),S.alive⟩
theorem Step0.index {own fr α h α' h'}(S:Step0 own fr α h α' h') {i:Nat}{p:Ad}(e:α[i]?=some p):α'[i]?=some p:=by
 obtain⟨β,rfl,_⟩:=S.ext
 rw[List.getElem?_append_left (List.getElem?_eq_some_iff.mp e).1];exact e
theorem Step.index {own fr α h α' h'}(S:Step own fr α h α' h') {i:Nat}{p:Ad}(e:α[i]?=some p):α'[i]?=some p:=S.toStep0.index e
theorem VR.lift {α α':List Ad}{U U':List Addr}{h h':Heap}(hr:∀(i:Nat) (p:Ad),α[i]?=some p→α'[i]?=some p) (ht:∀ a vs,IsTup h a vs→a ∉ U→away α a→IsTup h' a vs∧a ∉ U'∧away α' a) {v:Value}{p:PV}(x:VR α U h v p):VR α' U' h' v p:=
 VR.rec (motive_1:=fun v p _=>VR α' U' h' v p) (motive_2:=fun vs ps _=>VRs α' U' h' vs ps) .none .bool .int (fun e=>.ref (hr _ _ e)) (fun a b c _ d=>have z:=ht _ _ a b c;.tup z.1 z.2.1 z.2.2 d) .const .nil (fun _ _ a b=>.cons a b) x
theorem VRs.lift {α α':List Ad}{U U':List Addr}{h h':Heap}(hr:∀ v p,VR α U h v p→VR α' U' h' v p) {vs:List Value}{ps:List PV}(x:VRs α U h vs ps):VRs α' U' h' vs ps:=
 VRs.rec (motive_1:=fun _ _ _=>True) (motive_2:=fun vs ps _=>VRs α' U' h' vs ps) trivial (fun _=>trivial) (fun _ _=>trivial) (fun _=>trivial) (fun _ _ _ _ _=>trivial) (fun _=>trivial) .nil (fun a _ _ b=>.cons (hr _ _ a) b) x
theorem VR.mono0 {own fr α U h α' h'}(S:Step0 own fr α h α' h') (hU:∀ a∈own,a∈U) {v p}(x:VR α U h v p):VR α' U h' v p:=
 x.lift (fun _ _=>S.index) fun a _ ⟨o,ho,r⟩ hu ha=>have⟨o',ho',l⟩:=S.data a o ho ha fun q=>hu (hU _ q)
  ⟨⟨o',ho',l.1.trans r.1,r.2.imp fun _ e=>l.2.2.trans e⟩,hu,S.awayNew ho ha⟩
theorem VRs.mono0 {own fr α U h α' h'}(S:Step0 own fr α h α' h') (hU:∀ a∈own,a∈U) {v p}(x:VRs α U h v p):VRs α' U h' v p:=x.lift fun _ _=>VR.mono0 S hU
theorem VR.mono {own fr:List Addr}{α:List Ad}{U:List Addr}{h:Heap}{α':List Ad}{h':Heap}(S:Step own fr α h α' h') (hU:∀ a∈own,a∈U) {v p}(x:VR α U h v p):VR α' U h' v p:=x.mono0 S.toStep0 hU
theorem VRs.mono {own fr:List Addr}{α:List Ad}{U:List Addr}{h:Heap}{α':List Ad}{h':Heap}(S:Step own fr α h α' h') (hU:∀ a∈own,a∈U) {v p}(x:VRs α U h v p):VRs α' U h' v p:=x.mono0 S.toStep0 hU
theorem VR.lock {α U U' h}{v p}(x:VR α U h v p) (hs:∀ a,a∈U'→a∈U∨h.get? a=Option.none):VR α U' h v p:=
 x.lift (fun _ _ e=>e) fun a _ ht hu ha=>⟨ht,fun q=>(hs a q).elim hu fun n=>ht.elim fun o r=>Option.some_ne_none o (r.1.symm.trans n),ha⟩
theorem VRs.lock {α U U' h}{v p}(x:VRs α U h v p) (hs:∀ a,a∈U'→a∈U∨h.get? a=none):VRs α U' h v p:=x.lift fun _ _ y=>y.lock hs
theorem VRs.induct {α U h}{P:List Value→List PV→Prop}(x1:P [] []) (x2:∀ v p vs ps,VR α U h v p→VRs α U h vs ps→P vs ps→P (v::vs) (p::ps)) {vs ps}(x:VRs α U h vs ps):P vs ps:=
 VRs.rec (motive_1:=fun _ _ _=>True) (motive_2:=fun vs ps _=>P vs ps) trivial (fun _=>trivial) (fun _ _=>trivial) (fun _=>trivial) (fun _ _ _ _ _=>trivial) (fun _=>trivial) x1 (fun a b _ c=>x2 _ _ _ _ a b c) x
theorem VRs.length {α U h}{vs ps}(x:VRs α U h vs ps):vs.length=ps.length:=VRs.induct (P:=fun vs ps=>vs.length=ps.length) rfl (fun _ _ _ _ _ _ e=>congrArg (·+1) e) x
theorem VRs.get {α U h}{vs ps}(x:VRs α U h vs ps):∀ {i:Nat}{p:PV},ps[i]?=some p→∃ v,vs[i]?=some v∧VR α U h v p:=
 VRs.induct (P:=fun vs ps=>∀ {i:Nat}{p:PV},ps[i]?=some p→∃ v,vs[i]?=some v∧VR α U h v p) (fun e=>nomatch e) (fun v q vs ps a _ ih i p e=>Nat.casesOn (motive:=fun i=>(q::ps)[i]?=some p→∃ w,(v::vs)[i]?=some w∧VR α U h w p) i (fun e=>have z:q=p:=Option.some.inj e;⟨v,rfl,z▸a⟩) (fun _ e=>ih e) e) x
theorem VRs.append {α U h}{vs ps ws qs}(x:VRs α U h vs ps) (y:VRs α U h ws qs):VRs α U h (vs++ws) (ps++qs):=
 VRs.induct (P:=fun vs ps=>VRs α U h (vs++ws) (ps++qs)) y (fun _ _ _ _ a _ b=>.cons a b) x
theorem VRs.set {α U h}{vs ps}(x:VRs α U h vs ps):∀ {i:Nat}{v p},VR α U h v p→VRs α U h (vs.set i v) (ps.set i p):=
 VRs.induct (P:=fun vs ps=>∀ {i:Nat}{v p},VR α U h v p→VRs α U h (vs.set i v) (ps.set i p)) (fun _=>.nil) (fun _ _ _ _ a b ih i _ _ y=>Nat.casesOn (motive:=fun i=>VRs α U h ((_::_).set i _) ((_::_).set i _)) i (.cons y b) (fun _=>.cons a (ih y))) x
theorem VRs.take {α U h}{vs ps}(x:VRs α U h vs ps):∀(n:Nat),VRs α U h (vs.take n) (ps.take n):=
 VRs.induct (P:=fun vs ps=>∀ n:Nat,VRs α U h (vs.take n) (ps.take n)) (fun n=>by rw[List.take_nil,List.take_nil];exact .nil) (fun _ _ _ _ a _ ih n=>Nat.casesOn (motive:=fun n=>VRs α U h ((_::_).take n) ((_::_).take n)) n .nil (fun m=>.cons a (ih m))) x
theorem VRs.drop {α U h}{vs ps}(x:VRs α U h vs ps):∀(n:Nat),VRs α U h (vs.drop n) (ps.drop n):=
 VRs.induct (P:=fun vs ps=>∀ n:Nat,VRs α U h (vs.drop n) (ps.drop n)) (fun n=>by rw[List.drop_nil,List.drop_nil];exact .nil) (fun _ _ _ _ a b ih n=>Nat.casesOn (motive:=fun n=>VRs α U h ((_::_).drop n) ((_::_).drop n)) n (.cons a b) ih) x
noncomputable abbrev prog:Program:=PySem.Challenge.rw_nq0270_01.row.prog
noncomputable def Flds (α:List Ad) (U:List Addr) (h:Heap) (look:Nat→Option Value) (fs:List (Option PV)):Prop:=∀ i q,fs[i]?=some (some q)→∃ v,look i=some v∧VR α U h v q
theorem Flds.mono0 {own fr:List Addr}{α:List Ad}{U:List Addr}{h:Heap}{α':List Ad}{h':Heap}(S:Step0 own fr α h α' h') (hU:∀ a∈own,a∈U) {look:Nat→Option Value}{fs:List (Option PV)}(x:Flds α U h look fs):Flds α' U h' look fs:=
 fun i q e=>let⟨v,a,b⟩:=x i q e;⟨v,a,b.mono0 S hU⟩
theorem Flds.lock {α:List Ad}{U U':List Addr}{h:Heap}(hs:∀ a,a∈U'→a∈U∨h.get? a=none) {look:Nat→Option Value}{fs:List (Option PV)}(x:Flds α U h look fs):Flds α U' h look fs:=
 fun i q e=>let⟨v,a,b⟩:=x i q e;⟨v,a,b.lock hs⟩
noncomputable def sorterNames:List Str:=["_node2info","_ready_nodes","_npassedout","_nfinished"]
noncomputable def OR (w:World) (α:List Ad) (U:List Addr) (h:Heap) (p:Ad):PObj→Prop
 | .list xs=>p.2=p.1∧∃ vs n,IsL h p.1 (List.toArray vs) n∧VRs α U h vs xs
 | .dict es ep=>p.2=p.1∧∃ kvs,h.DictAt (intKind prog w) p.1 kvs ep∧kvs.map (·.1)=es.map (·.1)∧VRs α U h (kvs.map (·.2)) (es.map (·.2))
 | .set es=>p.2=p.1∧∃ S n,h.SetOf (intKind prog w) p.1 S n∧n≤es.length∧∀ k,S k=es.contains k
 | .sorter fs=>p.2≠p.1∧h.get? p.1=some (instObj 208 p.2)∧∃ m,h.Ns1 p.2 m∧(∀ x,x ∉ sorterNames→m x=none)∧Flds α U h (fun i=>(sorterNames[i]?).bind m) fs
 | .node fs=>p.2≠p.1∧∃ vs:List (Option Value),h.get? p.1=some {cls:=.ref 111,dict:=some p.2,data:=.plain,slots:=vs.toArray}∧h.get? p.2=some emptyDict∧Flds α U h (fun i=>(vs[i]?).join) fs
 | .liter l k=>p.2=p.1∧(∃ i q,l=.ref i∧α[i]?=some q∧h.IsListIter p.1 q.1 k)∧(k=0→∃ o,h.get? p.1=some o∧o.dict=none)
 | .bnext l _=>p.2=p.1∧∃ i q,l=.ref i∧α[i]?=some q∧h.get? p.1=some {cls:=.type "method-wrapper",data:=.fields #[.builtin "list_iterator.__next__",.ref q.1]}
 | .raw o=>p.2=p.1∧h.get? p.1=some o
 | .dead=>True
theorem DictAt.at {w:World}{h h':Heap}{a:Addr}{kvs:List (Int × Value)}{ep:Nat}(x:h.DictAt (intKind prog w) a kvs ep) (e:∀ o,h.get? a=some o→h'.get? a=some o):h'.DictAt (intKind prog w) a kvs ep:=
 let⟨o,es,ho,r⟩:=x;⟨o,es,e _ ho,r⟩
theorem OR.mono0 {w:World}{own fr:List Addr}{α:List Ad}{U:List Addr}{h:Heap}{α':List Ad}{h':Heap}(S:Step0 own fr α h α' h') (hU:∀ a∈own,a∈U) {p:Ad}(h1:∀ o,h.get? p.1=some o→h'.get? p.1=some o) (h2:∀ o,h.get? p.2=some o→h'.get? p.2=some o)
  {o}(x:OR w α U h p o):OR w α' U h' p o:=by
 cases o with
 | list _=>exact And.imp id (Exists.imp fun _=>Exists.imp fun _=>And.imp (h1 _) (VRs.mono0 S hU)) x
 | dict _ _=>exact And.imp id (Exists.imp fun _=>And.imp (DictAt.at · h1) (And.imp id (VRs.mono0 S hU))) x
 | set _=>exact And.imp id (Exists.imp fun _=>Exists.imp fun _=>And.imp (Exists.imp fun _=>Exists.imp fun _=>Exists.imp fun _=>Exists.imp fun _=>And.imp (h1 _) id) id) x
 | sorter _=>exact And.imp id (And.imp (h1 _) (Exists.imp fun _=>And.imp (·.at h2) (And.imp id (Flds.mono0 S hU)))) x
 | node _=>exact And.imp id (Exists.imp fun _=>And.imp (h1 _) (And.imp (h2 _) (Flds.mono0 S hU))) x
 | liter _ _=>exact And.imp id (And.imp (Exists.imp fun _=>Exists.imp fun _=>And.imp id (And.imp S.index (Exists.imp fun _=>And.imp (h1 _) id))) fun z k=>(z k).imp fun _=>And.imp (h1 _) id) x
 | bnext _ _=>exact And.imp id (Exists.imp fun _=>Exists.imp fun _=>And.imp id (And.imp S.index (h1 _))) x
 | raw _=>exact And.imp id (h1 _) x
 | dead=>exact trivial
theorem OR.mono {w:World}{own fr:List Addr}{α:List Ad}{U:List Addr}{h:Heap}{α':List Ad}{h':Heap}(S:Step own fr α h α' h') (hU:∀ a∈own,a∈U) {p:Ad}(h1:∀ o,h.get? p.1=some o→h'.get? p.1=some o) (h2:∀ o,h.get? p.2=some o→h'.get? p.2=some o)
  {o}(x:OR w α U h p o):OR w α' U h' p o:=x.mono0 S.toStep0 hU h1 h2
theorem OR.lock {w:World}{α:List Ad}{U U':List Addr}{h:Heap}(hs:∀ a,a∈U'→a∈U∨h.get? a=none) {p:Ad}{o}(x:OR w α U h p o):OR w α U' h p o:=by
 cases o with
 | list _=>exact And.imp id (Exists.imp fun _=>Exists.imp fun _=>And.imp id (·.lock hs)) x
 | dict _ _=>exact And.imp id (Exists.imp fun _=>And.imp id (And.imp id (·.lock hs))) x
 | sorter _=>exact And.imp id (And.imp id (Exists.imp fun _=>And.imp id (And.imp id (·.lock hs)))) x
 | node _=>exact And.imp id (Exists.imp fun _=>And.imp id (And.imp id (·.lock hs))) x
 | set _=>exact x
 | liter _ _=>exact x
 | bnext _ _=>exact x
 | raw _=>exact x
 | dead=>exact x
theorem no2 {τ:Type}{x:Option τ}{o:τ}(e:x=some o) (n:x=none):False:=by rw[e] at n;cases n
theorem gone {h h':Heap}{a:Addr}(hk:∀ a o,h.get? a=some o→h'.get? a=some o) (n:h'.get? a=none):h.get? a=none:=by
 cases q:h.get? a with
 | none=>rfl
 | some o=>exact(no2 (hk _ _ q) n).elim
theorem Step.gone {own fr:List Addr}{α:List Ad}{h:Heap}{α':List Ad}{h':Heap}(S:Step own fr α h α' h') {a:Addr}(n:h'.get? a=none):h.get? a=none:=by
 cases q:h.get? a with
 | none=>rfl
 | some o=>exact(S.alive a o q).elim fun o' e=>(no2 e n).elim
structure Wf (w:World) (h0:Heap) (α:List Ad) (U:List Addr) (H:List PObj) (h:Heap):Prop where
 len:α.length=H.length
 obj:∀(i:Nat) (p:Ad) (o:PObj),α[i]?=some p→H[i]?=some o→OR w α U h p o
 keep:∀ a o,h0.get? a=some o→h.get? a=some o
 fresh:∀ p∈α,h0.get? p.1=none∧h0.get? p.2=none∧3<p.1
 apart:∀(i j:Nat) (p q:Ad),α[i]?=some p→α[j]?=some q→i≠j→p.1≠q.1∧p.1≠q.2∧p.2≠q.1∧p.2≠q.2
 live:∀ p∈α,(∃ o,h.get? p.1=some o)∧∃ o,h.get? p.2=some o
 lock:∀ a∈U,away α a∧h0.get? a=none∧∃ o,h.get? a=some o
theorem Wf.at {w:World}{h0:Heap}{α:List Ad}{U:List Addr}{H:List PObj}{h:Heap}(W:Wf w h0 α U H h) {i:Nat}{o:PObj}(e:H[i]?=some o):∃ p,α[i]?=some p∧OR w α U h p o:=by
 have hi:i<α.length:=by rw[W.len];exact(List.getElem?_eq_some_iff.mp e).1
 exact⟨α[i],List.getElem?_eq_getElem hi,W.obj _ _ _ (List.getElem?_eq_getElem hi) e⟩
theorem Wf.grow {w:World}{h0:Heap}{α:List Ad}{U:List Addr}{H:List PObj}{h h':Heap}(W:Wf w h0 α U H h) {own fr:List Addr}(hU:∀ a∈own,a∈U) (hF:∀ a∈fr,a∈U) (S:Step own fr α h α h') (hk:∀ p∈α,(∀ o,h.get? p.1=some o→h'.get? p.1=some o)∧∀ o,h.get? p.2=some o→h'.get? p.2=some o):Wf w h0 α U H h' where
 len:=W.len
 obj:=fun i p o e1 e2=>(W.obj i p o e1 e2).mono S hU (hk p (List.mem_of_getElem? e1)).1 (hk p (List.mem_of_getElem? e1)).2
 keep:=fun a o e=>S.only a o (W.keep a o e) (fun p hp=>⟨fun q=>no2 e (q▸(W.fresh p hp).1),fun q=>no2 e (q▸(W.fresh p hp).2.1)⟩)
  (fun q=>no2 e (W.lock a (hU a q)).2.1) fun q=>no2 e (W.lock a (hF a q)).2.1
 fresh:=W.fresh
 apart:=W.apart
 live:=fun p hp=>⟨let⟨o,e⟩:=(W.live p hp).1;⟨o,(hk p hp).1 o e⟩,let⟨o,e⟩:=(W.live p hp).2;⟨o,(hk p hp).2 o e⟩⟩
 lock:=fun a ha=>⟨(W.lock a ha).1,(W.lock a ha).2.1,let⟨o,e⟩:=(W.lock a ha).2.2;S.alive a o e⟩
theorem keep_step {own fr:List Addr}{α:List Ad}{h h':Heap}(hk:∀ a o,h.get? a=some o→h'.get? a=some o):Step own fr α h α h':=
 ⟨⟨[],by simp,fun _ q=>nomatch q⟩,fun a o e _ _ _=>hk a o e,fun a o e _ _=>⟨o,hk a o e,.refl o⟩,fun a o e=>⟨o,hk a o e⟩⟩
theorem but_step {own fr:List Addr}{α:List Ad}{h h':Heap}(hk:∀ a o,away α a→a ∉ own→h.get? a=some o→h'.get? a=some o) (hl:∀ a o,h.get? a=some o→∃ o',h'.get? a=some o'):Step own fr α h α h':=
 ⟨⟨[],by simp,fun _ q=>nomatch q⟩,fun a o e x y _=>hk a o x y e,fun a o e x y=>⟨o,hk a o x y e,.refl o⟩,hl⟩
theorem Wf.keeps {w:World}{h0:Heap}{α:List Ad}{U:List Addr}{H:List PObj}{h h':Heap}(W:Wf w h0 α U H h) (hk:∀ a o,h.get? a=some o→h'.get? a=some o):Wf w h0 α U H h':=
 W.grow (own:=[]) (fr:=[]) (fun _ q=>nomatch q) (fun _ q=>nomatch q) (keep_step hk) fun p _=>⟨hk p.1,hk p.2⟩
theorem Wf.upd {w:World}{h0:Heap}{α:List Ad}{U:List Addr}{H:List PObj}{h h':Heap}{i:Nat}{p:Ad}{o':PObj}(W:Wf w h0 α U H h) (hi:α[i]?=some p) (hk:∀ c o,c≠p.1→c≠p.2→h.get? c=some o→h'.get? c=some o)
  (l1:∃ o,h'.get? p.1=some o) (l2:∃ o,h'.get? p.2=some o) (ho:OR w α U h' p o'):Wf w h0 α U (H.set i o') h'∧Step [] [] α h α h':=by
 have S:Step [] [] α h α h':=by
  refine but_step (fun a o x _ e=>hk a o (x p (List.mem_of_getElem? hi)).1.symm (x p (List.mem_of_getElem? hi)).2.symm e) fun a o e=>?_
  by_cases h1:a=p.1
  ·subst h1;exact l1
  ·by_cases h2:a=p.2
   ·subst h2;exact l2
   ·exact⟨o,hk a o h1 h2 e⟩
 refine⟨⟨by simpa using W.len,fun j q o e1 e2=>?_,fun a o e=>?_,W.fresh,W.apart,fun q hq=>?_,fun a ha=>⟨(W.lock a ha).1,(W.lock a ha).2.1,let⟨o,e⟩:=(W.lock a ha).2.2;S.alive a o e⟩⟩,S⟩
 ·by_cases hj:i=j
  ·subst hj
   rw[hi] at e1;obtain rfl:=sj e1
   have hl:i<H.length:=by have:=(List.getElem?_eq_some_iff.mp hi).1;rw[W.len] at this;exact this
   rw[List.getElem?_set_self hl] at e2
   obtain rfl:=sj e2;exact ho
  ·rw[List.getElem?_set_ne hj] at e2
   have ap:=W.apart i j p q hi e1 hj
   exact(W.obj j q o e1 e2).mono S (fun _ q=>nomatch q) (fun o e=>hk _ o ap.1.symm ap.2.2.1.symm e) fun o e=>hk _ o ap.2.1.symm ap.2.2.2.symm e
 ·refine hk a o (fun q=>?_) (fun q=>?_) (W.keep a o e)
  ·have:=(W.fresh p (List.mem_of_getElem? hi)).1;rw[← q,e] at this;exact nomatch this
  ·have:=(W.fresh p (List.mem_of_getElem? hi)).2.1;rw[← q,e] at this;exact nomatch this
 ·obtain⟨⟨o1,e1⟩,o2,e2⟩:=W.live q hq
  exact⟨S.alive _ _ e1,S.alive _ _ e2⟩
theorem Wf.new {w:World}{h0:Heap}{α:List Ad}{U:List Addr}{H:List PObj}{h h':Heap}{p:Ad}{o:PObj}(W:Wf w h0 α U H h) (hk:∀ a o,h.get? a=some o→h'.get? a=some o) (n1:h.get? p.1=none) (n2:h.get? p.2=none)
  (l1:∃ o,h'.get? p.1=some o) (l2:∃ o,h'.get? p.2=some o) (h3:3<p.1) (ho:OR w (α++[p]) U h' p o):Wf w h0 (α++[p]) U (H++[o]) h'∧Step [] [] α h (α++[p]) h':=by
 have S:Step [] [] α h (α++[p]) h':=⟨⟨[p],rfl,fun q hq=>by have hq:=List.mem_singleton.mp hq;subst hq;exact⟨n1,n2⟩⟩,fun a o e _ _ _=>hk a o e,fun a o e _ _=>⟨o,hk a o e,.refl o⟩,fun a o e=>⟨o,hk a o e⟩⟩
 have hl:∀ a∈U,p.1≠a∧p.2≠a:=fun a ha=>by
  obtain⟨o,e⟩:=(W.lock a ha).2.2
  exact⟨fun z=>no2 e (z▸n1),fun z=>no2 e (z▸n2)⟩
 have nl:∀ q∈α,p.1≠q.1∧p.1≠q.2∧p.2≠q.1∧p.2≠q.2:=fun q hq=>by
  refine gv fun _ gk=>?_
  obtain⟨⟨o1,e1⟩,o2,e2⟩:=W.live q hq
  refine gk ?_
  refine⟨fun z=>?_,fun z=>?_,fun z=>?_,fun z=>?_⟩
  ·rw[z,e1] at n1;exact nomatch n1
  ·rw[z,e2] at n1;exact nomatch n1
  ·rw[z,e1] at n2;exact nomatch n2
  ·rw[z,e2] at n2;exact nomatch n2
 have none0:∀ a,h.get? a=none→h0.get? a=none:=fun a e=>by
  cases q:h0.get? a with
  | none=>rfl
  | some o=>rw[W.keep a o q] at e;exact nomatch e
 refine⟨⟨by simp[W.len],fun j q x e1 e2=>?_,fun a o e=>hk a o (W.keep a o e),fun q hq=>?_,fun i j q r e1 e2 hij=>?_,fun q hq=>?_,fun a ha=>⟨?_,(W.lock a ha).2.1,let⟨o,e⟩:=(W.lock a ha).2.2;S.alive a o e⟩⟩,S⟩
 ·by_cases hj:j<α.length
  ·rw[List.getElem?_append_left hj] at e1
   rw[List.getElem?_append_left (by rw[← W.len];exact hj)] at e2
   exact(W.obj j q x e1 e2).mono S (fun _ q=>nomatch q) (fun o e=>hk _ o e) fun o e=>hk _ o e
  ·have hj':j=α.length:=by
    have:=(List.getElem?_eq_some_iff.mp e1).1
    simp at this;omega
   subst hj'
   rw[List.getElem?_append_right (Nat.le_refl _),Nat.sub_self] at e1
   rw[W.len,List.getElem?_append_right (Nat.le_refl _),Nat.sub_self] at e2
   simp at e1 e2;subst e1 e2;exact ho
 ·rcases List.mem_append.mp hq with hq | hq
  ·exact W.fresh q hq
  ·have hq:=List.mem_singleton.mp hq;subst hq;exact⟨none0 _ n1,none0 _ n2,h3⟩
 ·by_cases hi:i<α.length
  ·rw[List.getElem?_append_left hi] at e1
   by_cases hj:j<α.length
   ·rw[List.getElem?_append_left hj] at e2
    exact W.apart i j q r e1 e2 hij
   ·have:r=p:=by
     rw[List.getElem?_append_right (Nat.le_of_not_lt hj)] at e2
     have:=(List.getElem?_eq_some_iff.mp e2).1
     simp at this
     rw[this] at e2;simpa using e2.symm
    subst this
    have:=nl q (List.mem_of_getElem? e1)
    exact⟨this.1.symm,this.2.2.1.symm,this.2.1.symm,this.2.2.2.symm⟩
  ·have:q=p:=by
    rw[List.getElem?_append_right (Nat.le_of_not_lt hi)] at e1
    have:=(List.getElem?_eq_some_iff.mp e1).1
    simp at this
    rw[this] at e1;simpa using e1.symm
   subst this
   by_cases hj:j<α.length
   ·rw[List.getElem?_append_left hj] at e2
    exact nl r (List.mem_of_getElem? e2)
   ·exfalso
    have a1:=(List.getElem?_eq_some_iff.mp e1).1
    have a2:=(List.getElem?_eq_some_iff.mp e2).1
    simp at a1 a2;omega
 ·rcases List.mem_append.mp hq with hq | hq
  ·refine gv fun _ gk=>?_
   obtain⟨⟨o1,e1⟩,o2,e2⟩:=W.live q hq
   refine gk ?_
   exact⟨⟨o1,hk _ _ e1⟩,o2,hk _ _ e2⟩
  ·have hq:=List.mem_singleton.mp hq;subst hq;exact⟨l1,l2⟩
 ·exact away_append (W.lock a ha).1 fun q hq=>by have hq:=List.mem_singleton.mp hq;subst hq;exact hl a ha
theorem Wf.relock {w:World}{h0:Heap}{α:List Ad}{U U':List Addr}{H:List PObj}{h:Heap}(W:Wf w h0 α U H h) (hs:∀ a∈U',a∈U):Wf w h0 α U' H h where
 len:=W.len
 obj:=fun i p o e1 e2=>(W.obj i p o e1 e2).lock fun a ha=>.inl (hs a ha)
 keep:=W.keep
 fresh:=W.fresh
 apart:=W.apart
 live:=W.live
 lock:=fun a ha=>W.lock a (hs a ha)
theorem Wf.enter {w:World}{h0:Heap}{α:List Ad}{U U':List Addr}{H:List PObj}{h h':Heap}(W:Wf w h0 α U H h) (hk:∀ a o,h.get? a=some o→h'.get? a=some o) (hs:∀ a∈U',a∈U∨(h.get? a=none)) (hl:∀ a∈U',∃ o,h'.get? a=some o):Wf w h0 α U' H h' where
 len:=W.len
 obj:=fun i p o e1 e2=>((W.obj i p o e1 e2).lock hs).mono (own:=[]) (fr:=[]) (keep_step hk) (fun _ q=>nomatch q) (fun o e=>hk _ o e) fun o e=>hk _ o e
 keep:=fun a o e=>hk a o (W.keep a o e)
 fresh:=W.fresh
 apart:=W.apart
 live:=fun p hp=>⟨let⟨o,e⟩:=(W.live p hp).1;⟨o,hk _ o e⟩,let⟨o,e⟩:=(W.live p hp).2;⟨o,hk _ o e⟩⟩
 lock:=fun a ha=>by
  rcases hs a ha with q | q
  ·exact⟨(W.lock a q).1,(W.lock a q).2.1,hl a ha⟩
  ·refine⟨fun p hp=>?_,?_,hl a ha⟩
   ·obtain⟨⟨o1,e1⟩,o2,e2⟩:=W.live p hp
    exact⟨fun z=>no2 e1 (z▸q),fun z=>no2 e2 (z▸q)⟩
   ·cases z:h0.get? a with
    | none=>rfl
    | some o=>rw[W.keep a o z] at q;exact nomatch q
theorem Wf.leave {w:World}{h0:Heap}{α:List Ad}{U U':List Addr}{H:List PObj}{h h':Heap}{wr:List Addr}(W:Wf w h0 α U' H h) (hs:∀ a∈U,a∈U'∧a ∉ wr) (hw:∀ a∈wr,a∈U') (hk:∀ a o,a ∉ wr→h.get? a=some o→h'.get? a=some o):Wf w h0 α U H h':=by
 have S:Step0 wr [] α h α h':=⟨⟨[],by simp,fun _ q=>nomatch q⟩,fun a o e _ hn _=>hk a o hn e,fun a o e _ hn=>⟨o,hk a o hn e,.refl o⟩⟩
 have nw:∀ p∈α,p.1 ∉ wr∧p.2 ∉ wr:=fun p hp=>⟨fun q=>((W.lock _ (hw _ q)).1 p hp).1 rfl,fun q=>((W.lock _ (hw _ q)).1 p hp).2 rfl⟩
 exact {
  len:=W.len
  obj:=fun i p o e1 e2=>((W.obj i p o e1 e2).mono0 S hw (fun o e=>hk _ o (nw p (List.mem_of_getElem? e1)).1 e) (fun o e=>hk _ o (nw p (List.mem_of_getElem? e1)).2 e)).lock fun a ha=>.inl (hs a ha).1
  keep:=fun a o e=>hk a o (fun q=>no2 e (W.lock a (hw a q)).2.1) (W.keep a o e)
  fresh:=W.fresh
  apart:=W.apart
  live:=fun p hp=>⟨let⟨o,e⟩:=(W.live p hp).1;⟨o,hk _ o (nw p hp).1 e⟩,let⟨o,e⟩:=(W.live p hp).2;⟨o,hk _ o (nw p hp).2 e⟩⟩
  lock:=fun a ha=>⟨(W.lock a (hs a ha).1).1,(W.lock a (hs a ha).1).2.1,let⟨o,e⟩:=(W.lock a (hs a ha).1).2.2;⟨o,hk a o (hs a ha).2 e⟩⟩}
end Mine.Internal
namespace Mine.Internal
open PySem PySem.W PyProof.Rows PySem.Calls
structure PS where
 H:List PObj
 V:List (Option PV)
noncomputable abbrev PM (π:Type):=PS→Option (π × PS)
noncomputable def ret {π:Type}(p:π):PM π:=fun σ=>some (p,σ)
noncomputable def seq {π ρ:Type}(f:PM π) (g:π→PM ρ):PM ρ:=fun σ=>match f σ with
 | none=>none
 | some (p,σ')=>g p σ'
theorem seq_some {π ρ:Type}{f:PM π}{g:π→PM ρ}{σ:PS}{r:ρ × PS}(h:seq f g σ=some r):∃ p σ',f σ=some (p,σ')∧g p σ'=some r:=by
 unfold seq at h
 cases e:f σ with
 | none=>rw[e] at h;exact nn h
 | some x=>rw[e] at h;exact⟨x.1,x.2,rfl,h⟩
theorem map_elim {τ ρ:Type}{x:Option τ}{f:τ→ρ}{r:ρ}{P:Prop}(h:x.map f=some r) (k:∀ y,x=some y→f y=r→P):P:=
 let⟨y,a,b⟩:=Option.map_eq_some_iff.mp h;k y a b
theorem seq_elim {π ρ:Type}{f:PM π}{g:π→PM ρ}{σ:PS}{r:ρ × PS}{P:Prop}(h:seq f g σ=some r) (k:∀ p σ',f σ=some (p,σ')→g p σ'=some r→P):P:=
 let⟨p,σ',a,b⟩:=seq_some h;k p σ' a b
structure Base (w:World) (h0:Heap) (mg mb:Str→Option Value):Prop where
 K:(hd.heap_39 w.params).In h0
 g:h0.Ns mainGlobals mg
 b:h0.Ns builtinsNs mb
 blt:∀ x:Str,x≠"__name__"→mb x=bootBuiltins x
 nolimit:h0.NoLimit
noncomputable def ownOf (env:Env):List Addr:=env.locals::env.cells.map (·.2)
structure EnvOK (sc:Scope) (env:Env):Prop where
 scope:env.scope=sc
 kind:sc.kind=.function
 glob:env.globals=mainGlobals
 blt:env.builtins=builtinsNs
 nodup:(ownOf env).Nodup
 more:sc.more.any (fun(n,_)=>n==("interactive":Str))=false
 cellsOK:∀ x,sc.names.lookup x=some .cell→∃ c,env.cells.lookup x=some c
structure AOK (k:Nat) (A:Around) (U:List Addr):Prop where
 handled:0<k→A.handled=none
 depth:A.depth+10*k≤900
 units:A.units+50*k≤9000
 frames:∃ fs,A.frames=some fs∧∀ e∈fs,e.scope.kind≠.module∧∃ L,e.frame=some L∧L∈U
noncomputable def frs (A:Around):List Addr:=(A.frames.getD []).filterMap (·.frame)
theorem AOK.frs {k:Nat}{A:Around}{U:List Addr}(a:AOK k A U):∀ x∈frs A,x∈U:=fun x hx=>by
 obtain⟨fs,e,h⟩:=a.frames
 unfold Mine.Internal.frs at hx
 rw[e] at hx
 obtain⟨y,hy,q⟩:=List.mem_filterMap.mp hx
 obtain⟨_,L,e1,e2⟩:=h y hy
 rw[e1] at q;obtain rfl:=sj q;exact e2
theorem AOK.more {k:Nat}{A:Around}{U U':List Addr}(a:AOK k A U) (h:∀ x∈U,x∈U'):AOK k A U':=
 ⟨a.handled,a.depth,a.units,let⟨fs,e,g⟩:=a.frames;⟨fs,e,fun x hx=>let⟨a,L,b,c⟩:=g x hx;⟨a,L,b,h L c⟩⟩⟩
structure Cx (w:World) (h0:Heap) (mg mb:Str→Option Value) (k:Nat) (A:Around) (sc:Scope) (env:Env) (U:List Addr):Prop where
 base:Base w h0 mg mb
 a:AOK k A U
 e:EnvOK sc env
 own:∀ a∈ownOf env,a∈U
 fr:∃ L,env.frame=some L∧L∈frs A
noncomputable def Slot (env:Env) (α:List Ad) (U:List Addr) (h:Heap) (m:Str→Option Value) (x:Str) (p:PV):Prop:=
 (env.kindOf x=some .local∧∃ v,m x=some v∧VR α U h v p)∨
 (env.kindOf x=some .cell∧∃ c v,env.cells.lookup x=some c∧h.IsCell c (some v)∧VR α U h v p)
structure FR (ns:List Str) (env:Env) (α:List Ad) (U:List Addr) (V:List (Option PV)) (h:Heap):Prop where
 ex:∃ m,h.Ns env.locals m∧∀(i:Nat) x p,ns[i]?=some x→V[i]?=some (some p)→Slot env α U h m x p
 cells:∀ x c,env.cells.lookup x=some c→∃ v,h.IsCell c v
theorem mem_of_lookup' {β:Type}:∀ {l:List (Str × β)}{x:Str}{c:β},l.lookup x=some c→(x,c)∈l
 | [],_,_,h=>by exact nn h
 | (y,d)::l,x,c,h=>by
  rw[List.lookup_cons] at h
  by_cases e:(x==y)=true
  ·rw[e] at h;obtain rfl:=sj h;rw[eq_of_beq e];exact .head _
  ·simp only[e] at h;exact .tail _ (mem_of_lookup' h)
theorem cell_own {env:Env}{x:Str}{c:Addr}(h:env.cells.lookup x=some c):c∈ownOf env:=
 List.mem_cons_of_mem _ (List.mem_map.mpr ⟨(x,c),mem_of_lookup' h,rfl⟩)
theorem FR.mono0 {ns:List Str}{env:Env}{α α':List Ad}{U:List Addr}{V:List (Option PV)}{h h':Heap}{own fr:List Addr}(F:FR ns env α U V h) (S:Step0 own fr α h α' h') (hU:∀ a∈own,a∈U)
  (hk:∀ a∈ownOf env,∀ o,h.get? a=some o→∃ o',h'.get? a=some o'∧Like o o'):FR ns env α' U V h':=by
 obtain⟨⟨m,hn,hs⟩,hc⟩:=F
 have cell:∀ c v,c∈ownOf env→h.IsCell c v→h'.IsCell c v:=fun c v hc ⟨o,ho,r2⟩=>by
  obtain⟨o',ho',l⟩:=hk c hc o ho
  exact⟨o',ho',l.2.2.trans r2⟩
 refine⟨⟨m,?_,fun i x p e1 e2=>?_⟩,fun x c e=>?_⟩
 ·obtain⟨o,es,ep,ho,r1,r2⟩:=hn
  obtain⟨o',ho',l⟩:=hk _ (.head _) o ho
  exact⟨o',es,ep,ho',l.2.2.trans r1,r2⟩
 ·rcases hs i x p e1 e2 with⟨k,v,a,b⟩ | ⟨k,c,v,a,hcell,b⟩
  ·exact .inl ⟨k,v,a,b.mono0 S hU⟩
  ·exact .inr ⟨k,c,v,a,cell c _ (cell_own a) hcell,b.mono0 S hU⟩
 ·obtain⟨v,hv⟩:=hc x c e
  exact⟨v,cell c _ (cell_own e) hv⟩
theorem FR.mono {ns:List Str}{env:Env}{α α':List Ad}{U:List Addr}{V:List (Option PV)}{h h':Heap}{own fr:List Addr}(F:FR ns env α U V h) (S:Step own fr α h α' h') (hU:∀ a∈own,a∈U)
  (hk:∀ a∈ownOf env,∀ o,h.get? a=some o→h'.get? a=some o):FR ns env α' U V h':=F.mono0 S.toStep0 hU fun a ha o e=>⟨o,hk a ha o e,.refl o⟩
theorem FR.over {ns:List Str}{env:Env}{α α':List Ad}{U:List Addr}{V:List (Option PV)}{h h':Heap}{own fr:List Addr}(F:FR ns env α U V h) (S:Step own fr α h α' h') (hU:∀ a∈own,a∈U) (ha:∀ a∈ownOf env,away α a) (hn:∀ a∈ownOf env,a ∉ own):FR ns env α' U V h':=
 F.mono0 S.toStep0 hU fun a h o e=>S.data a o e (ha a h) (hn a h)
structure St (w:World) (h0:Heap) (ns:List Str) (env:Env) (α:List Ad) (U:List Addr) (σ:PS) (h:Heap):Prop where
 wf:Wf w h0 α U σ.H h
 fr:FR ns env α U σ.V h
noncomputable def Rest (s s':Shared):Prop:=s'.gens=s.gens∧s'.drawn=s.drawn∧s'.os=s.os
theorem Rest.refl (s:Shared):Rest s s:=⟨rfl,rfl,rfl⟩
theorem Rest.trans {s s' s'':Shared}(x:Rest s s') (y:Rest s' s''):Rest s s'':=⟨y.1.trans x.1,y.2.1.trans x.2.1,y.2.2.trans x.2.2⟩
noncomputable def Post {τ π:Type}(R:List Ad→List Addr→Heap→τ→π→Prop) (w:World) (h0:Heap) (ns:List Str) (A:Around) (env:Env) (α:List Ad) (U:List Addr) (s:Shared) (p:π) (σ':PS):τ→Shared→Prop:=
 fun v s'=>∃ α',R α' U s'.heap v p∧St w h0 ns env α' U σ' s'.heap∧Step (ownOf env) (frs A) α s.heap α' s'.heap∧Rest s s'
noncomputable abbrev bot:Value→Shared→Prop:=fun _ _=>False
noncomputable def Jd {τ π:Type}(R:List Ad→List Addr→Heap→τ→π→Prop) (k:Nat) (sc:Scope) (ns:List Str) (t:Env→Sem τ) (f:PM π):Prop:=
 ∀(w:World) (h0:Heap) (mg mb:Str→Option Value) (A:Around) (env:Env) (α:List Ad) (U:List Addr) (s:Shared) (σ:PS) (p:π) (σ':PS),
  Cx w h0 mg mb k A sc env U→St w h0 ns env α U σ s.heap→f σ=some (p,σ')→
  wpAny (model prog w) A (t env) (Post R w h0 ns A env α U s p σ') bot s
theorem Jd.of {τ π:Type}{R:List Ad→List Addr→Heap→τ→π→Prop}{k:Nat}{sc:Scope}{ns:List Str}{t:Env→Sem τ}{f:PM π}
  (h:∀ {w:World}{h0:Heap}{mg mb:Str→Option Value}{A:Around}{env:Env}{α:List Ad}{U:List Addr}{s:Shared}{σ:PS}{p:π}{σ':PS},Cx w h0 mg mb k A sc env U→St w h0 ns env α U σ s.heap→f σ=some (p,σ')→∀ Q:τ→Shared→Prop,
   (∀ v s' α',R α' U s'.heap v p→St w h0 ns env α' U σ' s'.heap→Step (ownOf env) (frs A) α s.heap α' s'.heap→Rest s s'→Q v s')→wpAny (model prog w) A (t env) Q bot s):Jd R k sc ns t f:=
 fun w h0 mg mb A env α U s σ p σ' C S hf=>h C S hf _ fun v s' α' a b c d=>⟨α',a,b,c,d⟩
noncomputable def PostQ {τ π:Type}(R:List Ad→List Addr→Heap→τ→π→Prop) (ns:List Str) (w:World) (h0:Heap) (A:Around) (env:Env) (α:List Ad) (U:List Addr) (s:Shared) (Q:τ→Shared→Prop) (p:π) (σ:PS):Prop:=
 ∀ v s' α',R α' U s'.heap v p→St w h0 ns env α' U σ s'.heap→Step (ownOf env) (frs A) α s.heap α' s'.heap→Rest s s'→Q v s'
theorem qhere {τ π:Type}{R:List Ad→List Addr→Heap→τ→π→Prop}{ns:List Str}{w:World}{h0:Heap}{A:Around}{env:Env}{α:List Ad}{U:List Addr}{s:Shared}{σ:PS}{p:π}{Q:τ→Shared→Prop}
  (hQ:∀ v s' α',R α' U s'.heap v p→St w h0 ns env α' U σ s'.heap→Step (ownOf env) (frs A) α s.heap α' s'.heap→Rest s s'→Q v s') (S:St w h0 ns env α U σ s.heap) {v:τ}{tk:Nat}(h:R α U s.heap v p):Q v {s with toks:=tk}:=
 hQ _ _ α h S (Step.refl ..) (Rest.refl _)
theorem qhere' {τ π:Type}{R:List Ad→List Addr→Heap→τ→π→Prop}{ns:List Str}{w:World}{h0:Heap}{A:Around}{env:Env}{α:List Ad}{U:List Addr}{s:Shared}{σ:PS}{p:π}{Q:τ→Shared→Prop}
  (hQ:∀ v s' α',R α' U s'.heap v p→St w h0 ns env α' U σ s'.heap→Step (ownOf env) (frs A) α s.heap α' s'.heap→Rest s s'→Q v s') (S:St w h0 ns env α U σ s.heap) {v:τ}(h:R α U s.heap v p):Q v s:=
 hQ _ _ α h S (Step.refl ..) (Rest.refl _)
theorem no_some {τ:Type}{x:τ}{G:Prop}(h:none=some x):G:=nomatch h
@[elab_as_elim] theorem VR.any {α:List Ad}{U:List Addr}{h:Heap}{v:Value}{a:PV}{P:Value→PV→Prop}(V:VR α U h v a) (hn:P .none .none) (hb:∀ b,P (.bool b) (.bool b)) (hi:∀ i t,P (.int i t) (.int i)) (hr:∀ a b i,α[i]?=some (a,b)→P (.ref a) (.ref i))
  (ht:∀ a vs xs,IsTup h a (List.toArray vs)→a ∉ U→away α a→VRs α U h vs xs→P (.ref a) (.tup xs)) (hc:∀ v,P v (.const v)):P v a:=
 VR.casesOn (motive_1:=fun v a _=>P v a) V hn hb hi (fun {a b i} e=>hr a b i e) (fun {a vs xs} e1 e2 e3 e4=>ht a vs xs e1 e2 e3 e4) hc
@[elab_as_elim] theorem VRs.any {α:List Ad}{U:List Addr}{h:Heap}{vs:List Value}{ps:List PV}{P:List Value→List PV→Prop}(V:VRs α U h vs ps) (hn:P [] []) (hc:∀ v p vs ps,VR α U h v p→VRs α U h vs ps→P (v::vs) (p::ps)):P vs ps:=
 VRs.casesOn (motive_2:=fun vs ps _=>P vs ps) V hn (fun {v p vs ps} a b=>hc v p vs ps a b)
theorem opt_elim {τ υ:Type}{o:Option τ}{f:τ→Option υ}{r:υ}{G:Prop}(e:(match o with | some n=>f n | none=>none)=some r) (k:∀ n,o=some n→f n=some r→G):G:=by
 cases o with
 | none=>exact no_some e
 | some n=>exact k n rfl e
theorem on_list {τ:Type}{H:List PObj}{i:Nat}{f:List PV→Option τ}{r:τ}{G:Prop}(e:(match H[i]? with | some (.list xs)=>f xs | _=>none)=some r) (k:∀ xs,H[i]?=some (.list xs)→f xs=some r→G):G:=by
 cases h:H[i]? with
 | none=>rw[h] at e;exact no_some e
 | some o=>cases o with
  | list xs=>rw[h] at e;exact k xs h e
  | dict=>rw[h] at e;exact no_some e
  | set=>rw[h] at e;exact no_some e
  | sorter=>rw[h] at e;exact no_some e
  | node=>rw[h] at e;exact no_some e
  | liter=>rw[h] at e;exact no_some e
  | bnext=>rw[h] at e;exact no_some e
  | raw=>rw[h] at e;exact no_some e
  | dead=>rw[h] at e;exact no_some e
@[elab_as_elim] theorem VR.int_elim {α:List Ad}{U:List Addr}{h:Heap}{v:Value}{x:Int}{P:Value→Prop}(V:VR α U h v (.int x)) (k:∀ t,P (.int x t)):P v:=by cases V;exact k _
@[elab_as_elim] theorem VR.bool_elim {α:List Ad}{U:List Addr}{h:Heap}{v:Value}{x:Bool}{P:Value→Prop}(V:VR α U h v (.bool x)) (k:P (.bool x)):P v:=by cases V;exact k
@[elab_as_elim] theorem VR.none_elim {α:List Ad}{U:List Addr}{h:Heap}{v:Value}{P:Value→Prop}(V:VR α U h v .none) (k:P .none):P v:=by cases V;exact k
@[elab_as_elim] theorem VR.const_elim {α:List Ad}{U:List Addr}{h:Heap}{v c:Value}{P:Value→Prop}(V:VR α U h v (.const c)) (k:P c):P v:=by cases V;exact k
@[elab_as_elim] theorem VR.ref_elim {α:List Ad}{U:List Addr}{h:Heap}{v:Value}{i:Nat}{P:Value→Prop}(V:VR α U h v (.ref i)) (k:∀ a b,α[i]?=some (a,b)→P (.ref a)):P v:=by cases V;exact k _ _ ‹_›
inductive PFlow where
 | next | brk | cont
 | ret (p:PV)
inductive FlR (α:List Ad) (U:List Addr) (h:Heap):Flow→PFlow→Prop
 | next:FlR α U h .next .next
 | brk:FlR α U h .brk .brk
 | cont:FlR α U h .cont .cont
 | ret {v:Value}{p:PV}:VR α U h v p→FlR α U h (.ret v) (.ret p)
noncomputable def BR (α:List Ad) (U:List Addr) (h:Heap) (b b':Bool):Prop:=b=b'
noncomputable def UR (α:List Ad) (U:List Addr) (h:Heap) (b b':Unit):Prop:=True
noncomputable abbrev SE (k:Nat) (sc:Scope) (ns:List Str) (e:Expr) (f:PM PV):Prop:=Jd VR k sc ns (eval e) f
noncomputable abbrev STest (k:Nat) (sc:Scope) (ns:List Str) (e:Expr) (f:PM Bool):Prop:=Jd BR k sc ns (fun env=>isTrue e env (eval e env)) f
noncomputable abbrev SS (k:Nat) (sc:Scope) (ns:List Str) (st:Stmt) (f:PM PFlow):Prop:=Jd FlR k sc ns (exec st) f
noncomputable abbrev SB (k:Nat) (sc:Scope) (ns:List Str) (ss:List Stmt) (f:PM PFlow):Prop:=Jd FlR k sc ns (execs ss) f
section
variable {w:World}{h0:Heap}{mg mb:Str→Option Value}{k:Nat}{A:Around}{sc:Scope}{ns:List Str}{env:Env}{α:List Ad}{U:List Addr}{s:Shared}{σ:PS}
theorem Post.here {τ π:Type}{R:List Ad→List Addr→Heap→τ→π→Prop}{v:τ}{p:π}{tk:Nat}(S:St w h0 ns env α U σ s.heap) (h:R α U s.heap v p):Post R w h0 ns A env α U s p σ v {s with toks:=tk}:=
 ⟨α,h,S,Step.refl ..,Rest.refl _⟩
theorem own_away (C:Cx w h0 mg mb k A sc env U) (S:St w h0 ns env α U σ s.heap) {a:Addr}(ha:a∈ownOf env):away α a:=(S.wf.lock a (C.own a ha)).1
theorem St.upd (C:Cx w h0 mg mb k A sc env U) (S:St w h0 ns env α U σ s.heap) {h':Heap}{i:Nat}{q:Ad}{o':PObj}(hi:α[i]?=some q) (hk:∀ c o,c≠q.1→c≠q.2→s.heap.get? c=some o→h'.get? c=some o)
  (l1:∃ o,h'.get? q.1=some o) (l2:∃ o,h'.get? q.2=some o) (ho:OR w α U h' q o'):St w h0 ns env α U ⟨σ.H.set i o',σ.V⟩ h'∧Step (ownOf env) (frs A) α s.heap α h':=by
 obtain⟨W,T⟩:=S.wf.upd hi hk l1 l2 ho
 refine⟨⟨W,S.fr.mono T (fun _ q=>nomatch q) fun a ha o e=>?_⟩,T.plain⟩
 have:=own_away C S ha q (List.mem_of_getElem? hi)
 exact hk a o this.1.symm this.2.symm e
theorem low3 {H:List PObj}{h:Heap}(B:Base w h0 mg mb) (W:Wf w h0 α U H h):3<h.objs.size:=by
 obtain⟨o,_,_,ho,_⟩:=B.g
 have:=Heap.lt_size (W.keep _ _ ho)
 exact this
theorem St.keeps (S:St w h0 ns env α U σ s.heap) {h':Heap}(hk:∀ a o,s.heap.get? a=some o→h'.get? a=some o):St w h0 ns env α U σ h'∧Step (ownOf env) (frs A) α s.heap α h':=
 ⟨⟨S.wf.keeps hk,S.fr.mono (own:=[]) (fr:=[]) (keep_step hk) (fun _ q=>nomatch q) fun a _ o e=>hk a o e⟩,keep_step hk⟩
theorem St.new (C:Cx w h0 mg mb k A sc env U) (S:St w h0 ns env α U σ s.heap) {h':Heap}{p:Ad}{o:PObj}(hk:∀ a o,s.heap.get? a=some o→h'.get? a=some o) (n1:s.heap.get? p.1=none) (n2:s.heap.get? p.2=none)
  (l1:∃ o,h'.get? p.1=some o) (l2:∃ o,h'.get? p.2=some o) (h3:3<p.1) (ho:OR w (α++[p]) U h' p o):
  St w h0 ns env (α++[p]) U ⟨σ.H++[o],σ.V⟩ h'∧Step (ownOf env) (frs A) α s.heap (α++[p]) h':=by
 obtain⟨W,T⟩:=S.wf.new hk n1 n2 l1 l2 h3 ho
 exact⟨⟨W,S.fr.mono T (fun _ q=>nomatch q) fun a _ o e=>hk a o e⟩,T.plain⟩
end
theorem Jd.run {τ π:Type}{R:List Ad→List Addr→Heap→τ→π→Prop}{k:Nat}{sc:Scope}{ns:List Str}{t:Env→Sem τ}{f:PM π}(J:Jd R k sc ns t f)
  {w:World}{h0:Heap}{mg mb:Str→Option Value}{A:Around}{env:Env}{α:List Ad}{U:List Addr}{s:Shared}{σ:PS}{p:π}{σ':PS}(C:Cx w h0 mg mb k A sc env U) (S:St w h0 ns env α U σ s.heap)
  (hf:f σ=some (p,σ')) {Q:τ→Shared→Prop}{E:Value→Shared→Prop}
  (hQ:∀ v s' α',R α' U s'.heap v p→St w h0 ns env α' U σ' s'.heap→Step (ownOf env) (frs A) α s.heap α' s'.heap→Rest s s'→Q v s'):wpAny (model prog w) A (t env) Q E s:=
 wpAny_mono (J w h0 mg mb A env α U s σ p σ' C S hf) (fun v s' ⟨α',a,b,c,d⟩=>hQ v s' α' a b c d) fun _ _ q=>q.elim
theorem Cx.vmono {w:World}{h0:Heap}{mg mb:Str→Option Value}{k:Nat}{A:Around}{sc:Scope}{env:Env}{U:List Addr}(C:Cx w h0 mg mb k A sc env U) {α α':List Ad}{h h':Heap}{v:Value}{p:PV}
  (V:VR α U h v p) (T:Step (ownOf env) (frs A) α h α' h'):VR α' U h' v p:=V.mono T C.own
theorem hide {G:Prop}(h:∀ P:Prop,(G→P)→P):G:=h G id
@[elab_as_elim] theorem VR.tup_elim {α:List Ad}{U:List Addr}{h:Heap}{v:Value}{xs:List PV}{P:Value→Prop}(V:VR α U h v (.tup xs)) (k:∀ a vs,IsTup h a (List.toArray vs)→a ∉ U→away α a→VRs α U h vs xs→P (.ref a)):P v:=by cases V;exact k _ _ ‹_› ‹_› ‹_› ‹_›
section
variable {w:World}{h0:Heap}{α:List Ad}{U:List Addr}{H:List PObj}{h:Heap}{v:Value}{i:Nat}{P:Value→Prop}
theorem Wf.or_at (W:Wf w h0 α U H h) {p:Ad}{o:PObj}(hi:α[i]?=some p) (e:H[i]?=some o):OR w α U h p o:=W.obj _ _ _ hi e
@[elab_as_elim] theorem VR.list_elim {xs:List PV}(V:VR α U h v (.ref i)) (W:Wf w h0 α U H h) (e:H[i]?=some (.list xs)) (k:∀ a vs n,α[i]?=some (a,a)→IsL h a (List.toArray vs) n→VRs α U h vs xs→P (.ref a)):P v:=by
 refine VR.ref_elim V fun a b hi=>?_
 obtain⟨hb,vs,n,x,y⟩:=W.or_at hi e
 cases(show b=a from hb)
 exact k _ vs n hi x y
@[elab_as_elim] theorem VR.dict_elim {es:List (Int × PV)}{ep:Nat}(V:VR α U h v (.ref i)) (W:Wf w h0 α U H h) (e:H[i]?=some (.dict es ep)) (k:∀ a kvs,α[i]?=some (a,a)→h.DictAt (intKind prog w) a kvs ep→(kvs.map (·.1)=es.map (·.1)∧VRs α U h (kvs.map (·.2)) (es.map (·.2)))→P (.ref a)):P v:=by
 refine VR.ref_elim V fun a b hi=>?_
 obtain⟨hb,vs,x,y⟩:=W.or_at hi e
 cases(show b=a from hb)
 exact k _ vs hi x y
@[elab_as_elim] theorem VR.liter_elim {m kx:Nat}(V:VR α U h v (.ref i)) (W:Wf w h0 α U H h) (e:H[i]?=some (.liter (.ref m) kx)) (k:∀ I L,α[i]?=some (I,I)→α[m]?=some L→h.IsListIter I L.1 kx→(kx=0→∃ o,h.get? I=some o∧o.dict=Option.none)→P (.ref I)):P v:=by
 refine VR.ref_elim V fun I b hi=>?_
 obtain⟨hb,⟨m',q,er,x,y⟩,z⟩:=W.or_at hi e
 cases(show b=I from hb)
 cases er
 exact k _ q hi x y z
@[elab_as_elim] theorem VR.set_elim {es:List Int}(V:VR α U h v (.ref i)) (W:Wf w h0 α U H h) (e:H[i]?=some (.set es)) (k:∀ a S n,α[i]?=some (a,a)→h.SetOf (intKind prog w) a S n→n≤es.length→(∀ k,S k=es.contains k)→P (.ref a)):P v:=by
 refine VR.ref_elim V fun a b hi=>?_
 obtain⟨hb,S,n,x,y,z⟩:=W.or_at hi e
 cases(show b=a from hb)
 exact k _ S n hi x y z
end
noncomputable def pConst (p:PV):PM PV:=ret p
noncomputable def pLoc (i:Nat):PM PV:=fun σ=>match σ.V[i]? with
 | some (some p)=>some (p,σ)
 | _=>none
section
variable {k:Nat}{sc:Scope}{ns:List Str}
theorem SE_cint {i:Int}{kd pos}:SE k sc ns (.Constant (.int i) kd pos) (pConst (.int i)):=by
 refine Jd.of fun {w h0 mg mb A env α U s σ p σ'} C S hf Q₀ hQ=>?_
 revert hQ;refine sp2e (c:=p) (d:=σ') hf fun hQ=>?_
 exact wpAny_Constant_int (qhere hQ S (.int ..))
theorem SE_none {kd pos}:SE k sc ns (.Constant .none kd pos) (pConst .none):=by
 refine Jd.of fun {w h0 mg mb A env α U s σ p σ'} C S hf Q₀ hQ=>?_
 revert hQ;refine sp2e (c:=p) (d:=σ') hf fun hQ=>?_
 exact wpAny_Constant_none (qhere hQ S .none)
theorem SE_bool {b:Bool}{kd pos}:SE k sc ns (.Constant (.bool b) kd pos) (pConst (.bool b)):=by
 refine Jd.of fun {w h0 mg mb A env α U s σ p σ'} C S hf Q₀ hQ=>?_
 revert hQ;refine sp2e (c:=p) (d:=σ') hf fun hQ=>?_
 exact wpAny_Constant_bool (qhere hQ S (.bool b))
@[elab_as_elim] theorem mapp {τ π:Type}{X:Option τ}{g:τ→π}{z:τ→PS}{p:π}{σ:PS}{P:π→PS→Prop}(e:X.map (fun b=>(g b,z b))=some (p,σ)) (k:∀ b,X=some b→P (g b) (z b)):P p σ:=by
 obtain⟨b,q1,q2⟩:=Option.map_eq_some_iff.mp e
 obtain⟨rfl,rfl⟩:=Prod.mk.inj q2
 exact k b q1
@[elab_as_elim] theorem loc_elim {i:Nat}{p:PV}{σ σ':PS}{P:PS→Prop}(e:pLoc i σ=some (p,σ')) (k:σ.V[i]?=some (some p)→P σ):P σ':=by
 unfold pLoc at e
 split at e
 ·rename_i h
  obtain⟨rfl,rfl⟩:=sp2 e
  exact k h
 ·exact nn e
theorem loc_load {w:World}{h0:Heap}{mg mb:Str→Option Value}{A:Around}{env:Env}{α:List Ad}{U:List Addr}{s:Shared}{σ:PS}{i:Nat}{x:Str}{p:PV}{Q:Value→Shared→Prop}{E:Value→Shared→Prop}
  (C:Cx w h0 mg mb k A sc env U) (S:St w h0 ns env α U σ s.heap) (hx:ns[i]?=some x) (e:σ.V[i]?=some (some p)) (hQ:∀ v,VR α U s.heap v p→Q v s):wpAny (model prog w) A (loadName env x) Q E s:=by
 obtain⟨m,hn,hs⟩:=S.fr.ex
 have hk:env.scope.kind=.function:=by rw[C.e.scope];exact C.e.kind
 rcases hs i x p hx e with⟨k,v,a,b⟩ | ⟨k,c,v,a,hcell,b⟩
 ·exact wpAny_loadName_local hk k hn a (hQ _ b)
 ·exact wpAny_loadName_cell hk k a hcell (hQ _ b)
theorem SE_loc (i:Nat) {x:Str}{pos}(hx:ns[i]?=some x) (hd:(x==("__debug__":Str))=false):SE k sc ns (.Name x pos) (pLoc i):=by
 refine Jd.of fun {w h0 mg mb A env α U s σ p σ'} C S hf Q₀ hQ=>?_
 revert hQ
 refine loc_elim hf fun e hQ=>wpAny_Name (loc_load C S hx e fun v V=>qhere hQ S V) hd
theorem SE_glob {x:Str}{pos}{v:Value}(hx:sc.names.lookup x=some .globalImplicit) (hv:∀ w:World,nsIn (hd.heap_39 w.params) mainGlobals x=some (some v)) (hd':(x==("__debug__":Str))=false):SE k sc ns (.Name x pos) (pConst (.const v)):=by
 refine Jd.of fun {w h0 mg mb A env α U s σ p σ'} C S hf Q₀ hQ=>?_
 revert hQ;refine sp2e (c:=p) (d:=σ') hf fun hQ=>?_
 have hk:env.scope.kind=.function:=by rw[C.e.scope];exact C.e.kind
 have hl:env.kindOf x=some .globalImplicit:=by unfold Env.kindOf;rw[C.e.scope];exact hx
 have G:s.heap.Ns env.globals mg:=by rw[C.e.glob];exact C.base.g.keeps S.wf.keep
 exact Name_function_global hk hl (loadGlobal_global G (mg_of C.base.K C.base.g (hv w)) (qhere hQ S (.const _))) hd'
theorem SE_bltn {x:Str}{pos}{v:Value}(hx:sc.names.lookup x=some .globalImplicit) (hv:∀ w:World,nsIn (hd.heap_39 w.params) mainGlobals x=some none) (hb:bootBuiltins x=some v) (hn:x≠"__name__") (hd':(x==("__debug__":Str))=false):SE k sc ns (.Name x pos) (pConst (.const v)):=by
 refine Jd.of fun {w h0 mg mb A env α U s σ p σ'} C S hf Q₀ hQ=>?_
 revert hQ;refine sp2e (c:=p) (d:=σ') hf fun hQ=>?_
 have hk:env.scope.kind=.function:=by rw[C.e.scope];exact C.e.kind
 have hl:env.kindOf x=some .globalImplicit:=by unfold Env.kindOf;rw[C.e.scope];exact hx
 have G:s.heap.Ns env.globals mg:=by rw[C.e.glob];exact C.base.g.keeps S.wf.keep
 have B:s.heap.Ns env.builtins mb:=by rw[C.e.blt];exact C.base.b.keeps S.wf.keep
 exact Name_function_global hk hl (loadGlobal_builtin G (mg_none_of C.base.K C.base.g (hv w)) B ((C.base.blt x hn).trans hb) (qhere hQ S (.const _))) hd'
end
end Mine.Internal
namespace Mine.Internal
open PySem PySem.W PyProof.Rows PySem.Calls
noncomputable def fail {π:Type}:PM π:=fun _=>none
noncomputable def pOp (op:Int→Int→Option Int) (a b:PV):PM PV:=match a,b with
 | .int x,.int y=>(match op x y with | some z=>ret (.int z) | none=>fail)
 | _,_=>fail
noncomputable def pBin (op:Int→Int→Option Int) (f g:PM PV):PM PV:=seq f fun a=>seq g fun b=>pOp op a b
theorem some_pair' {τ υ:Type}{a c:τ}{b d:υ}{P:τ→υ→Prop}{G:Prop}(h:some (a,b)=some (c,d)) (hP:P c d) (k:P a b→G):G:=k (by obtain⟨rfl,rfl⟩:=sp2 h;exact hP)
theorem some_pair {τ υ:Type}{a c:τ}{b d:υ}{P:τ→υ→Prop}(h:some (a,b)=some (c,d)) (k:P c d):P a b:=by obtain⟨rfl,rfl⟩:=sp2 h;exact k
section
variable {k:Nat}{sc:Scope}{ns:List Str}
noncomputable def OpOK (op:Operator) (fop:Int→Int→Option Int):Prop:=
 ∀(w:World) (A:Around) (s:Shared) (x y z:Int) (t u:Tok) (Q:Value→Shared→Prop) (E:Value→Shared→Prop),fop x y=some z→Q (.int z s.toks) {s with toks:=s.toks+1}→
  wpAny (model prog w) A (binaryOp op (.int x t) (.int y u)) Q E s
theorem bin_ok {op:Operator}{fop:Int→Int→Option Int}(H:OpOK op fop) {w:World}{A:Around}{s:Shared}{α1 α2:List Ad}{U:List Addr}{h1 h2:Heap}{v v2:Value}{a b p:PV}{σ σ':PS}{Q:Value→Shared→Prop}{E:Value→Shared→Prop}{P:PV→PS→Prop}
  (q:pOp fop a b σ=some (p,σ')) (V1:VR α1 U h1 v a) (V2:VR α2 U h2 v2 b) (hP:P p σ') (k:∀ z,P (.int z) σ→Q (.int z s.toks) {s with toks:=s.toks+1}):wpAny (model prog w) A (binaryOp op v v2) Q E s:=by
 revert q
 refine V1.any no_some (fun _=>no_some) (fun x t q=>?_) (fun _ _ _ _=>no_some) (fun _ _ _ _ _ _ _=>no_some) fun _=>no_some
 revert q
 refine V2.any no_some (fun _=>no_some) (fun y u q=>?_) (fun _ _ _ _=>no_some) (fun _ _ _ _ _ _ _=>no_some) fun _=>no_some
 cases e:fop x y with
 | none=>exact no_some ((congrArg (fun o=>(match o with | some z=>ret (.int z) | none=>fail:PM PV) σ) e).symm.trans q)
 | some z=>exact H w A s x y z t u _ _ e (k z (some_pair (P:=fun a b=>P a b→P (.int z) σ) (q.symm.trans (congrArg (fun o=>(match o with | some z=>ret (.int z) | none=>fail:PM PV) σ) e)) id hP))
theorem SE_bin {op:Operator}{fop:Int→Int→Option Int}{l r:Expr}{f g:PM PV}{pos:Pos}(H:OpOK op fop) (hl:SE k sc ns l f) (hr:SE k sc ns r g):SE k sc ns (.BinOp l op r pos) (pBin fop f g):=by
 refine Jd.of fun {w h0 mg mb A env α U s σ p σ'} C S hf Q₀ hQ=>?_
 refine seq_elim hf fun a σ1 h1 hf=>?_
 refine seq_elim hf fun b σ2 h2 hf=>?_
 refine wpAny_BinOp (hl.run C S h1 fun v s1 α1 V1 S1 T1 R1=>hr.run C S1 h2 fun v2 s2 α2 V2 S2 T2 R2=>?_)
 refine bin_ok (P:=PostQ VR ns w h0 A env α U s Q₀) H hf V1 V2 hQ fun z hQ=>?_
 exact hQ _ _ α2 (.int ..) S2 (T1.trans T2) (R1.trans R2)
noncomputable def oAdd (x y:Int):Option Int:=some (x+y)
noncomputable def oSub (x y:Int):Option Int:=some (x - y)
noncomputable def oMul (x y:Int):Option Int:=if x.natAbs<2 ^ 1000∧y.natAbs<2 ^ 1000 then some (x*y) else none
noncomputable def oDiv (x y:Int):Option Int:=if y≠0∧y.natAbs<1073741824 then some (x.fdiv y) else none
noncomputable def oMod (x y:Int):Option Int:=if y=0 then none else some (x.fmod y)
noncomputable def oPow (x y:Int):Option Int:=if 0≤y∧y≤1000000∧x.natAbs<2 ^ 64 then some (x ^ y.toNat) else none
noncomputable def oShr (x y:Int):Option Int:=if 0≤y then some (x.fdiv (2 ^ y.toNat)) else none
theorem ok_add:OpOK .Add oAdd:=fun w A s x y z t u Q E e h=>by obtain rfl:=sj e;exact PyProof.Rows.add_int h
theorem ok_sub:OpOK .Sub oSub:=fun w A s x y z t u Q E e h=>by obtain rfl:=sj e;exact PyProof.Rows.sub_int h
theorem ok_mod:OpOK .Mod oMod:=fun w A s x y z t u Q E e h=>by
 unfold oMod at e;split at e
 ·exact nn e
 ·obtain rfl:=sj e;rename_i hy;exact PyProof.Rows.mod_int' hy h
theorem ok_div:OpOK .FloorDiv oDiv:=fun w A s x y z t u Q E e h=>by
 unfold oDiv at e;split at e
 ·obtain rfl:=sj e;rename_i hy;exact PyProof.Rows.floordiv_int hy.1 h (.inl (PyProof.noPylong_small hy.2))
 ·exact nn e
theorem ok_pow:OpOK .Pow oPow:=fun w A s x y z t u Q E e h=>by
 unfold oPow at e;split at e
 ·obtain rfl:=sj e;rename_i hy;exact PyProof.Rows.pow_int_small hy.1 hy.2.1 hy.2.2 h
 ·exact nn e
theorem ok_shr:OpOK .RShift oShr:=fun w A s x y z t u Q E e h=>by
 unfold oShr at e;split at e
 ·obtain rfl:=sj e;rename_i hy;exact PyProof.Rows.rshift_int hy h
 ·exact nn e
theorem bits_1000 {a:Int}(h:a.natAbs<2 ^ 1000):Builtin.Int.intBits a≤1000:=by
 unfold Builtin.Int.intBits
 split
 ·exact by decide
 ·rename_i h0
  have h1:a.natAbs≠0:=by simpa using h0
  have:=(Nat.log2_lt h1).mpr h
  exact Nat.succ_le_of_lt this
theorem ok_mul:OpOK .Mult oMul:=fun w A s x y z t u Q E e h=>by
 unfold oMul at e;split at e
 ·obtain rfl:=sj e;rename_i hy
  refine PyProof.Rows.mul_int h ?_
  have b1:=bits_1000 hy.1
  have b2:=bits_1000 hy.2
  unfold IntMulOk
  have:Builtin.Int.intTooBig (Builtin.Int.intBits x+Builtin.Int.intBits y)=false:=by
   refine decide_eq_false ?_
   have e:bitsLine=134217728:=rfl
   lia
  rw[this];simp
 ·exact nn e
noncomputable def pCmp (c:Int→Int→Bool) (a b:PV):PM Bool:=match a,b with
 | .int x,.int y=>ret (c x y)
 | _,_=>fail
noncomputable def CmpOK (op:CmpOp) (c:Int→Int→Bool):Prop:=
 ∀(w:World) (A:Around) (s:Shared) (x y:Int) (t u:Tok) (Q:Value→Shared→Prop) (E:Value→Shared→Prop),Q (.bool (c x y)) s→
  wpAny (model prog w) A (compareOp op (.int x t) (.int y u)) Q E s
theorem cok_lt:CmpOK .Lt (fun x y=>decide (x<y)):=fun w A s x y t u Q E h=>PyProof.Rows.lt_int h
theorem cok_gt:CmpOK .Gt (fun x y=>decide (y<x)):=fun w A s x y t u Q E h=>PyProof.Rows.gt_int h
theorem cok_ge:CmpOK .GtE (fun x y=>decide (y≤x)):=fun w A s x y t u Q E h=>PyProof.Rows.ge_int h
theorem cok_eq:CmpOK .Eq (fun x y=>x==y):=fun w A s x y t u Q E h=>PyProof.Rows.eq_int h
theorem cok_ne:CmpOK .NotEq (fun x y=>x !=y):=fun w A s x y t u Q E h=>PyProof.Rows.ne_int h
noncomputable def pTest (c:Int→Int→Bool) (f g:PM PV):PM Bool:=seq f fun a=>seq g fun b=>pCmp c a b
noncomputable def asBool (f:PM Bool):PM PV:=seq f fun b=>ret (.bool b)
theorem cmp_ok {op:CmpOp}{c:Int→Int→Bool}(H:CmpOK op c) {w:World}{A:Around}{s:Shared}{α1 α2:List Ad}{U:List Addr}{h1 h2:Heap}{v v2:Value}{a b:PV}{p:Bool}{σ σ':PS}{Q:Value→Shared→Prop}{E:Value→Shared→Prop}{P:Bool→PS→Prop}
  (q:pCmp c a b σ=some (p,σ')) (V1:VR α1 U h1 v a) (V2:VR α2 U h2 v2 b) (hP:P p σ') (k:∀ z,P z σ→Q (.bool z) s):wpAny (model prog w) A (compareOp op v v2) Q E s:=by
 revert q
 refine V1.any no_some (fun _=>no_some) (fun x t q=>?_) (fun _ _ _ _=>no_some) (fun _ _ _ _ _ _ _=>no_some) fun _=>no_some
 revert q
 refine V2.any no_some (fun _=>no_some) (fun y u q=>?_) (fun _ _ _ _=>no_some) (fun _ _ _ _ _ _ _=>no_some) fun _=>no_some
 exact H w A s x y t u _ _ (k _ (some_pair (P:=fun a b=>P a b→P (c x y) σ) q.symm id hP))
theorem ST_cmp {op:CmpOp}{c:Int→Int→Bool}{l r:Expr}{f g:PM PV}{pos:Pos}(H:CmpOK op c) (hl:SE k sc ns l f) (hr:SE k sc ns r g) (hm:behindInMarks op r=false):STest k sc ns (.Compare l [op] [r] pos) (pTest c f g):=by
 refine Jd.of fun {w h0 mg mb A env α U s σ p σ'} C S hf Q₀ hQ=>?_
 refine seq_elim hf fun a σ1 h1 hf=>?_
 refine seq_elim hf fun b σ2 h2 hf=>?_
 refine wpAny_isTrue_Compare1 (hl.run C S h1 fun v s1 α1 V1 S1 T1 R1=>hr.run C S1 h2 fun v2 s2 α2 V2 S2 T2 R2=>?_) hm
 refine cmp_ok (P:=PostQ BR ns w h0 A env α U s Q₀) H hf V1 V2 hQ fun _ hQ=>?_
 exact wpAny_truthy_bool (hQ _ _ α2 rfl S2 (T1.trans T2) (R1.trans R2))
theorem SE_cmp {op:CmpOp}{c:Int→Int→Bool}{l r:Expr}{f g:PM PV}{pos:Pos}(H:CmpOK op c) (hl:SE k sc ns l f) (hr:SE k sc ns r g) (hm:behindInMarks op r=false):SE k sc ns (.Compare l [op] [r] pos) (asBool (pTest c f g)):=by
 refine Jd.of fun {w h0 mg mb A env α U s σ p σ'} C S hf Q₀ hQ=>?_
 refine seq_elim hf fun b σ3 hf e=>?_
 refine seq_elim hf fun a σ1 h1 hf=>?_
 refine seq_elim hf fun b2 σ2 h2 hf=>?_
 refine some_pair' (P:=PostQ VR ns w h0 A env α U s Q₀) e hQ ?_
 clear hQ;intro hQ
 refine wpAny_Compare1 (hl.run C S h1 fun v s1 α1 V1 S1 T1 R1=>hr.run C S1 h2 fun v2 s2 α2 V2 S2 T2 R2=>?_) hm
 refine cmp_ok (P:=fun b σ'=>PostQ VR ns w h0 A env α U s Q₀ (.bool b) σ') H hf V1 V2 hQ fun _ hQ=>?_
 exact hQ _ _ α2 (.bool _) S2 (T1.trans T2) (R1.trans R2)
end
end Mine.Internal
namespace Mine.Internal
open PySem PySem.W PyProof.Rows PySem.Calls
theorem seq_eq {π ρ:Type}{f:PM π}{g:π→PM ρ}{σ σ':PS}{p:π}(h:f σ=some (p,σ')):seq f g σ=g p σ':=by unfold seq;rw[h]
theorem nodup_idx {τ:Type}:∀ {l:List τ},l.Nodup→∀ {i j:Nat}{x:τ},l[i]?=some x→l[j]?=some x→i=j
 | [],_,i,j,x,e,_=>by exact nn e
 | y::l,h,0,0,x,_,_=>rfl
 | y::l,h,0,j+1,x,e1,e2=>by
  simp at e1 e2;subst e1
  exact absurd (List.mem_of_getElem? e2) (List.nodup_cons.mp h).1
 | y::l,h,i+1,0,x,e1,e2=>by
  simp at e1 e2;subst e2
  exact absurd (List.mem_of_getElem? e1) (List.nodup_cons.mp h).1
 | y::l,h,i+1,j+1,x,e1,e2=>by
  simp at e1 e2
  rw[nodup_idx (List.nodup_cons.mp h).2 e1 e2]
section
variable {k:Nat}{sc:Scope}{ns:List Str}
noncomputable def bNil:PM PFlow:=ret .next
noncomputable def bCons (f g:PM PFlow):PM PFlow:=seq f fun x=>match x with
 | .next=>g
 | x=>ret x
theorem SB_nil:SB k sc ns [] bNil:=by
 refine Jd.of fun {w h0 mg mb A env α U s σ p σ'} C S hf Q₀ hQ=>?_
 revert hQ;refine sp2e (c:=p) (d:=σ') hf fun hQ=>?_
 exact wpAny_execs_nil (qhere hQ S .next)
theorem SB_cons {st:Stmt}{ss:List Stmt}{f g:PM PFlow}(h1:SS k sc ns st f) (h2:SB k sc ns ss g):SB k sc ns (st::ss) (bCons f g):=by
 refine Jd.of fun {w h0 mg mb A env α U s σ p σ'} C S hf Q₀ hQ=>?_
 refine seq_elim hf fun x σ1 e1 hf=>?_
 refine wpAny_execs_cons (h1.run C S e1 fun v s1 α1 V1 S1 T1 R1=>?_)
 cases V1 with
 | next=>exact h2.run C S1 hf fun v s2 α2 V2 S2 T2 R2=>(hQ _ _ α2 V2 S2 (T1.trans T2) (R1.trans R2))
 | brk=>revert hQ;refine sp2e (c:=p) (d:=σ') hf fun hQ=>?_;exact(hQ _ _ α1 .brk S1 T1 R1)
 | cont=>revert hQ;refine sp2e (c:=p) (d:=σ') hf fun hQ=>?_;exact(hQ _ _ α1 .cont S1 T1 R1)
 | ret V=>revert hQ;refine sp2e (c:=p) (d:=σ') hf fun hQ=>?_;exact(hQ _ _ α1 (.ret V) S1 T1 R1)
theorem SS_break {pos}:SS k sc ns (.Break pos) (ret .brk):=by
 refine Jd.of fun {w h0 mg mb A env α U s σ p σ'} C S hf Q₀ hQ=>?_
 revert hQ;refine sp2e (c:=p) (d:=σ') hf fun hQ=>?_;exact wpAny_Break (qhere hQ S .brk)
theorem SS_continue {pos}:SS k sc ns (.Continue pos) (ret .cont):=by
 refine Jd.of fun {w h0 mg mb A env α U s σ p σ'} C S hf Q₀ hQ=>?_
 revert hQ;refine sp2e (c:=p) (d:=σ') hf fun hQ=>?_;exact wpAny_Continue (qhere hQ S .cont)
noncomputable def sRet (f:PM PV):PM PFlow:=seq f fun p=>ret (.ret p)
theorem SS_return {e:Expr}{f:PM PV}{pos}(h:SE k sc ns e f):SS k sc ns (.Return (some e) pos) (sRet f):=by
 refine Jd.of fun {w h0 mg mb A env α U s σ p σ'} C S hf Q₀ hQ=>?_
 refine seq_elim hf fun x σ1 e1 hf=>?_
 revert hQ;refine sp2e (c:=p) (d:=σ') hf fun hQ=>?_
 exact wpAny_Return_some (h.run C S e1 fun v s1 α1 V1 S1 T1 R1=>(hQ _ _ α1 (.ret V1) S1 T1 R1))
noncomputable def setV (i:Nat) (p:PV):PM Unit:=fun σ=>some ((),⟨σ.H,σ.V.set i (some p)⟩)
noncomputable def putV (i:Nat) (p:PV) (σ:PS):PS:=⟨σ.H,σ.V.set i (some p)⟩
theorem same_key {l:List (Str × Addr)}(hn:(l.map (·.2)).Nodup) {x y:Str}{c:Addr}(h1:l.lookup x=some c) (h2:l.lookup y=some c):x=y:=by
 obtain⟨i1,g1⟩:=List.getElem?_of_mem (mem_of_lookup' h1)
 obtain⟨i2,g2⟩:=List.getElem?_of_mem (mem_of_lookup' h2)
 have z:i1=i2:=nodup_idx hn (x:=c) (by rw[List.getElem?_map,g1];rfl) (by rw[List.getElem?_map,g2];rfl)
 exact congrArg Prod.fst (Option.some.inj ((z▸g1).symm.trans g2))
theorem store_name {w:World}{h0:Heap}{mg mb:Str→Option Value}{A:Around}{env:Env}{α:List Ad}{U:List Addr}{s:Shared}{σ:PS}{i:Nat}{x:Str}{v:Value}{p:PV}{Q:Unit→Shared→Prop}{E:Value→Shared→Prop}
  (C:Cx w h0 mg mb k A sc env U) (S:St w h0 ns env α U σ s.heap) (hx:ns[i]?=some x) (hn:ns.Nodup) (hk:(sc.names.lookup x==some .local || sc.names.lookup x==some .cell)=true) (V:VR α U s.heap v p)
  (hQ:∀ h' tk,St w h0 ns env α U (putV i p σ) h'→Step (ownOf env) (frs A) α s.heap α h'→Q () {s with heap:=h',toks:=tk}):wpAny (model prog w) A (storeName env x v) Q E s:=by
 obtain⟨m,hm,hs⟩:=S.fr.ex
 have hkf:env.scope.kind=.function:=by rw[C.e.scope];exact C.e.kind
 have inj:∀ j,ns[j]?=some x→j=i:=fun j e=>nodup_idx hn e hx
 have main:∀(a:Addr),a∈ownOf env→∀ h',Heap.SameBut a s.heap h'→(∃ o,h'.get? a=some o)→Wf w h0 α U σ.H h'∧Step (ownOf env) (frs A) α s.heap α h':=by
  intro a ha h' hb hl
  have T:Step (ownOf env) (frs A) α s.heap α h':=by
   refine but_step (fun b o _ hne e=>(hb.2 b fun q=>hne (q▸ha)).trans e) fun b o e=>?_
   by_cases q:b=a
   ·rw[q];exact hl
   ·exact⟨o,(hb.2 b q).trans e⟩
  refine⟨S.wf.grow C.own C.a.frs T fun q hq=>?_,T⟩
  have:=own_away C S ha q hq
  exact⟨fun o e=>(hb.2 _ this.1).trans e,fun o e=>(hb.2 _ this.2).trans e⟩
 have slots:∀(h':Heap) (m':Str→Option Value),Step (ownOf env) (frs A) α s.heap α h'→(∀ y,y≠x→m' y=m y)→(∀ y c,y≠x→env.cells.lookup y=some c→∀ o,s.heap.get? c=some o→h'.get? c=some o)→Slot env α U h' m' x p→
   ∀(j:Nat) y q,ns[j]?=some y→(putV i p σ).V[j]?=some (some q)→Slot env α U h' m' y q:=by
  intro h' m' T hm' hc' hx' j y q e1 e2
  by_cases hj:i=j
  ·rw[← hj] at e1 e2
   have hl:i<(σ.V.set i (some p)).length:=(List.getElem?_eq_some_iff.mp e2).1
   rw[List.length_set] at hl
   rw[sj (e1.symm.trans hx),← sj (sj ((List.getElem?_set_self hl).symm.trans e2))]
   exact hx'
  ·have e3:σ.V[j]?=some (some q):=by
    have:(σ.V.set i (some p))[j]?=some (some q):=e2
    rwa [List.getElem?_set_ne hj] at this
   have hne:y≠x:=fun z=>hj (inj j (z▸e1)).symm
   rcases hs j y q e1 e3 with⟨a,v',b,c⟩ | ⟨a,c,v',b,⟨o,ho,r⟩,d⟩
   ·exact .inl ⟨a,v',(hm' y hne).trans b,c.mono T C.own⟩
   ·exact .inr ⟨a,c,v',b,⟨o,hc' y c hne b o ho,r⟩,d.mono T C.own⟩
 rcases Bool.or_eq_true_iff.mp hk with hk | hk
 ·have hk:sc.names.lookup x=some .local:=by simpa using hk
  have hl:env.kindOf x=some .local:=by unfold Env.kindOf;rw[C.e.scope];exact hk
  refine wpAny_storeName_local hl hm (fun h' hn' hsb=>?_) (by rw[hkf];rfl)
  obtain⟨o,_,_,ho,_⟩:=id hn'
  obtain⟨W,T⟩:=main env.locals (.head _) h' hsb ⟨o,ho⟩
  have cne:∀ y c,env.cells.lookup y=some c→c≠env.locals:=fun y c e q=>by
   have:=List.nodup_cons.mp C.e.nodup
   exact this.1 (q▸List.mem_map.mpr ⟨(y,c),mem_of_lookup' e,rfl⟩)
  refine hQ h' _ ⟨W,⟨_,hn',slots h' _ T (fun y hy=>if_neg hy) (fun y c _ e o ho=>(hsb.2 c (cne y c e)).trans ho) (.inl ⟨hl,v,if_pos rfl,V.mono T C.own⟩)⟩,fun y c e=>?_⟩ T
  obtain⟨v',o,ho,r⟩:=S.fr.cells y c e
  exact⟨v',o,(hsb.2 c (cne y c e)).trans ho,r⟩
 ·have hk:sc.names.lookup x=some .cell:=by simpa using hk
  obtain⟨c,hc⟩:=C.e.cellsOK x hk
  have hl:env.kindOf x=some .cell:=by unfold Env.kindOf;rw[C.e.scope];exact hk
  obtain⟨v0,hv0⟩:=S.fr.cells x c hc
  refine wpAny_storeName_cell hkf hl hc hv0 fun h' hcell hsb=>?_
  obtain⟨o,ho,r⟩:=id hcell
  obtain⟨W,T⟩:=main c (cell_own hc) h' hsb ⟨o,ho⟩
  have nd:=C.e.nodup
  have lne:env.locals≠c:=fun q=>(List.nodup_cons.mp nd).1 (q▸List.mem_map.mpr ⟨(x,c),mem_of_lookup' hc,rfl⟩)
  have cne:∀ y d,y≠x→env.cells.lookup y=some d→d≠c:=fun y d hy e q=>hy (same_key (List.nodup_cons.mp nd).2 (q▸e) hc)
  refine hQ h' s.toks ⟨W,⟨_,hm.sameBut hsb lne,slots h' _ T (fun _ _=>rfl) (fun y d hy e o ho=>(hsb.2 d (cne y d hy e)).trans ho) (.inr ⟨hl,c,v,hc,hcell,V.mono T C.own⟩)⟩,fun y d e=>?_⟩ T
  by_cases hy:y=x
  ·exact sj (hc.symm.trans (hy▸e))▸⟨_,hcell⟩
  ·obtain⟨v',o',ho',r'⟩:=S.fr.cells y d e
   exact⟨v',o',(hsb.2 d (cne y d hy e)).trans ho',r'⟩
noncomputable def sSet (i:Nat) (f:PM PV):PM PFlow:=seq f fun p=>seq (setV i p) fun _=>ret .next
theorem SS_assign (i:Nat) {x:Str}{px:Pos}{e:Expr}{f:PM PV}{pos:Pos}(h:SE k sc ns e f) (hx:ns[i]?=some x) (hn:ns.Nodup) (hk:(sc.names.lookup x==some .local || sc.names.lookup x==some .cell)=true)
  (hs:∀ env:Env,env.scope=sc→swapsWith e (some (.Name x px)) pos.line env=pure false):SS k sc ns (.Assign [.Name x px] e pos) (sSet i f):=by
 refine Jd.of fun {w h0 mg mb A env α U s σ p σ'} C S hf Q₀ hQ=>?_
 refine seq_elim hf fun q σ1 e1 hf=>?_
 revert hQ;refine sp2e (c:=p) (d:=σ') hf fun hQ=>?_
 refine wpAny_Assign_Name (h.run C S e1 fun v s1 α1 V1 S1 T1 R1=>store_name C S1 hx hn hk V1 fun h' tk S2 T2=>?_) (hs env C.e.scope)
 exact(hQ _ _ α1 .next S2 (T1.trans T2) R1)
noncomputable def sIf (t:PM Bool) (f g:PM PFlow):PM PFlow:=seq t fun b=>match b with
 | true=>f
 | false=>g
theorem SS_if {test:Expr}{body orelse:List Stmt}{t:PM Bool}{f g:PM PFlow}{pos:Pos}(ht:STest k sc ns test t) (hb:SB k sc ns body f) (ho:SB k sc ns orelse g):SS k sc ns (.If test body orelse pos) (sIf t f g):=by
 refine Jd.of fun {w h0 mg mb A env α U s σ p σ'} C S hf Q₀ hQ=>?_
 refine seq_elim hf fun b σ1 e1 hf=>?_
 refine wpAny_If (ht.run C S e1 fun v s1 α1 V1 S1 T1 R1=>?_)
 have hv:v=b:=V1
 subst hv
 cases v with
 | true=>exact hb.run C S1 hf fun v s2 α2 V2 S2 T2 R2=>(hQ _ _ α2 V2 S2 (T1.trans T2) (R1.trans R2))
 | false=>exact ho.run C S1 hf fun v s2 α2 V2 S2 T2 R2=>(hQ _ _ α2 V2 S2 (T1.trans T2) (R1.trans R2))
noncomputable def whileN (t:PM Bool) (f g:PM PFlow):Nat→PM PFlow
 | 0=>fail
 | n+1=>seq t fun b=>match b with
  | false=>g
  | true=>seq f fun x=>match x with
   | .next=>whileN t f g n
   | .cont=>whileN t f g n
   | .brk=>ret .next
   | .ret p=>ret (.ret p)
theorem whileN_mono {t:PM Bool}{f g:PM PFlow}:∀ {n m:Nat}{σ:PS}{r:PFlow × PS},whileN t f g n σ=some r→n≤m→whileN t f g m σ=some r
 | 0,_,_,_,h,_=>by exact nn h
 | n+1,0,_,_,_,hm=>by exact absurd (Nat.lt_of_succ_le hm) (Nat.not_lt_zero _)
 | n+1,m+1,σ,r,h,hm=>by
  refine seq_elim h fun b σ1 e1 h=>?_
  rw[whileN,seq_eq e1]
  cases b with
  | false=>exact h
  | true=>
   refine seq_elim h fun x σ2 e2 h=>?_
   refine(?_:seq f _ σ1=_)
   rw[seq_eq e2]
   cases x with
   | next=>exact whileN_mono (n:=n) h (by exact Nat.le_of_succ_le_succ hm)
   | cont=>exact whileN_mono (n:=n) h (by exact Nat.le_of_succ_le_succ hm)
   | brk=>exact h
   | ret p=>exact h
open Classical in
noncomputable def whileM (t:PM Bool) (f g:PM PFlow):PM PFlow:=fun σ=>if h:∃ n r,whileN t f g n σ=some r then some (Classical.choose (Classical.choose_spec h)) else none
theorem whileM_iff {t:PM Bool}{f g:PM PFlow}{σ:PS}{r:PFlow × PS}:whileM t f g σ=some r↔∃ n,whileN t f g n σ=some r:=by
 constructor
 ·intro h
  unfold whileM at h
  split at h
  ·rename_i e
   obtain rfl:=sj h
   exact⟨_,Classical.choose_spec (Classical.choose_spec e)⟩
  ·exact nn h
 ·rintro⟨n,h⟩
  have e:∃ n r,whileN t f g n σ=some r:=⟨n,r,h⟩
  unfold whileM
  rw[dif_pos e]
  have h1:=Classical.choose_spec (Classical.choose_spec e)
  have a:=whileN_mono h1 (Nat.le_max_left _ n)
  have b:=whileN_mono h (Nat.le_max_right (Classical.choose e) n)
  rw[a] at b;exact b
theorem whileM_step {t:PM Bool}{f g:PM PFlow}{σ:PS}:whileM t f g σ=(seq t fun b=>match b with
  | false=>g
  | true=>seq f fun x=>match x with
   | .next=>whileM t f g
   | .cont=>whileM t f g
   | .brk=>ret .next
   | .ret p=>ret (.ret p)) σ:=by
 apply Option.ext
 intro r
 constructor
 ·intro h
  obtain⟨n,h⟩:=whileM_iff.mp h
  cases n with
  | zero=>exact nn h
  | succ n=>
   refine seq_elim h fun b σ1 e1 h=>?_
   rw[seq_eq e1]
   cases b with
   | false=>exact h
   | true=>
    refine seq_elim h fun x σ2 e2 h=>?_
    refine(?_:seq f _ σ1=_)
    rw[seq_eq e2]
    cases x with
    | next=>exact whileM_iff.mpr ⟨n,h⟩
    | cont=>exact whileM_iff.mpr ⟨n,h⟩
    | brk=>exact h
    | ret p=>exact h
 ·intro h
  refine seq_elim h fun b σ1 e1 h=>?_
  cases b with
  | false=>exact whileM_iff.mpr ⟨1,by rw[whileN,seq_eq e1];exact h⟩
  | true=>
   refine seq_elim h fun x σ2 e2 h=>?_
   cases x with
   | next=>obtain⟨n,h⟩:=whileM_iff.mp h;exact whileM_iff.mpr ⟨n+1,by rw[whileN,seq_eq e1];show seq f _ σ1=_;rw[seq_eq e2];exact h⟩
   | cont=>obtain⟨n,h⟩:=whileM_iff.mp h;exact whileM_iff.mpr ⟨n+1,by rw[whileN,seq_eq e1];show seq f _ σ1=_;rw[seq_eq e2];exact h⟩
   | brk=>exact whileM_iff.mpr ⟨1,by rw[whileN,seq_eq e1];show seq f _ σ1=_;rw[seq_eq e2];exact h⟩
   | ret p=>exact whileM_iff.mpr ⟨1,by rw[whileN,seq_eq e1];show seq f _ σ1=_;rw[seq_eq e2];exact h⟩
@[elab_as_elim] theorem FlR.any {α:List Ad}{U:List Addr}{h:Heap}{v:Flow}{x:PFlow}{P:Flow→PFlow→Prop}(V:FlR α U h v x) (h1:P .next .next) (h2:P .brk .brk) (h3:P .cont .cont) (h4:∀ u q,VR α U h u q→P (.ret u) (.ret q)):P v x:=by
 cases V with
 | next=>exact h1
 | brk=>exact h2
 | cont=>exact h3
 | ret V=>exact h4 _ _ V
noncomputable def WInv (t:PM Bool) (f g:PM PFlow) (ns:List Str) (w:World) (h0:Heap) (A:Around) (env:Env) (α:List Ad) (U:List Addr) (s:Shared) (p:PFlow) (σ':PS) (n:Nat) (s1:Shared):Prop:=
 ∃ α1 σ1,St w h0 ns env α1 U σ1 s1.heap∧Step (ownOf env) (frs A) α s.heap α1 s1.heap∧Rest s s1∧whileN t f g n σ1=some (p,σ')
theorem some_go {τ υ:Type}{a c:τ}{b d:υ}{P:τ→υ→Prop}(e:some (a,b)=some (c,d)) (hP:P c d):P a b:=by obtain⟨rfl,rfl⟩:=sp2 e;exact hP
theorem SS_while {test:Expr}{body orelse:List Stmt}{t:PM Bool}{f g:PM PFlow}{pos:Pos}(ht:STest k sc ns test t) (hb:SB k sc ns body f) (ho:SB k sc ns orelse g):SS k sc ns (.While test body orelse pos) (whileM t f g):=by
 refine Jd.of fun {w h0 mg mb A env α U s σ p σ'} C S hf Q₀ hQ=>?_
 refine(whileM_iff.mp hf).elim fun n hf=>?_
 refine wpAny_While (codeAny_whileLoop (WInv t f g ns w h0 A env α U s p σ') (fun n s1 I=>?_) n ⟨α,σ,S,Step.refl ..,Rest.refl _,hf⟩)
 refine I.elim fun α1 I=>I.elim fun σ1 I=>?_
 cases n with
 | zero=>exact no_some I.2.2.2
 | succ n=>
  refine seq_elim I.2.2.2 fun b σ2 e1 hf=>?_
  refine ht.run C I.1 e1 fun v s2 α2 V2 S2 T2 R2=>?_
  have T2:=I.2.1.trans T2
  have R2:=I.2.2.1.trans R2
  rw[show v=b from V2]
  cases b with
  | false=>exact ho.run C S2 hf fun v s3 α3 V3 S3 T3 R3=>hQ _ _ α3 V3 S3 (T2.trans T3) (R2.trans R3)
  | true=>
   refine seq_elim hf fun x σ3 e2 hf=>?_
   refine hb.run C S2 e2 fun v s3 α3 V3 S3 T3 R3=>?_
   have T3:=T2.trans T3
   have R3:=R2.trans R3
   revert hf
   refine V3.any (fun hf=>?_) (fun hf=>?_) (fun hf=>?_) fun u q V hf=>?_
   ·exact⟨n,Nat.lt_succ_self _,α3,σ3,S3,T3,R3,hf⟩
   ·exact some_go (P:=PostQ FlR ns w h0 A env α U s Q₀) hf hQ _ _ α3 .next S3 T3 R3
   ·exact⟨n,Nat.lt_succ_self _,α3,σ3,S3,T3,R3,hf⟩
   ·exact some_go (P:=PostQ FlR ns w h0 A env α U s Q₀) hf hQ _ _ α3 (.ret V) S3 T3 R3
end
end Mine.Internal
namespace Mine.Internal
open PySem PySem.W PyProof.Rows PySem.Calls
noncomputable def dget (es:List (Int × PV)) (k:Int):Option PV:=(es.find? fun e=>e.1=k).map (·.2)
noncomputable def dput (es:List (Int × PV)) (k:Int) (p:PV):List (Int × PV):=
 if es.any (fun e=>e.1=k) then es.map (fun e=>if e.1=k then(e.1,p) else e) else es++[(k,p)]
noncomputable def dep (es:List (Int × PV)) (k:Int) (ep:Nat):Nat:=if es.any (fun e=>e.1=k) then ep else ep+1
noncomputable def ddel (es:List (Int × PV)) (k:Int):List (Int × PV):=es.filter fun e=>decide (e.1≠k)
noncomputable def KVs (α:List Ad) (U:List Addr) (h:Heap) (kvs:List (Int × Value)) (es:List (Int × PV)):Prop:=kvs.map (·.1)=es.map (·.1)∧VRs α U h (kvs.map (·.2)) (es.map (·.2))
theorem KVs.nil {α U h}:KVs α U h [] []:=⟨rfl,.nil⟩
theorem KVs.cons {α U h}{k:Int}{v:Value}{p:PV}{kvs es}(V:VR α U h v p) (x:KVs α U h kvs es):KVs α U h ((k,v)::kvs) ((k,p)::es):=
 ⟨by simp[x.1],.cons V x.2⟩
theorem KVs.uncons {α U h}{a:Int × Value}{kvs es}(x:KVs α U h (a::kvs) es):∃ p es',es=(a.1,p)::es'∧VR α U h a.2 p∧KVs α U h kvs es':=by
 obtain⟨e,y⟩:=x
 cases es with
 | nil=>simp at e
 | cons b es=>
  simp at e
  cases y with
  | cons V Y=>exact⟨b.2,es,by rw[e.1],V,e.2,Y⟩
theorem KVs.unnil {α U h}{es:List (Int × PV)}(x:KVs α U h [] es):es=[]:=by
 obtain⟨e,y⟩:=x
 cases es with
 | nil=>rfl
 | cons=>simp at e
theorem KVs.get {α U h}:∀ {kvs es},KVs α U h kvs es→∀ {k:Int}{p:PV},dget es k=some p→∃ v,valueAt kvs k=some v∧VR α U h v p
 | [],es,x,k,p,e=>by rw[x.unnil] at e;exact nn e
 | a::kvs,es,x,k,p,e=>by
  obtain⟨q,es',rfl,V,y⟩:=x.uncons
  unfold dget at e
  unfold valueAt
  by_cases hk:a.1=k
  ·simp[List.find?_cons,hk] at e ⊢
   subst e;exact V
  ·simp[List.find?_cons,hk] at e ⊢
   have:=KVs.get y (k:=k) (p:=p) (by unfold dget;simpa using e)
   unfold valueAt at this
   simpa using this
theorem KVs.getNone {α U h}:∀ {kvs es},KVs α U h kvs es→∀ {k:Int},dget es k=none→valueAt kvs k=none
 | [],es,x,k,e=>rfl
 | a::kvs,es,x,k,e=>by
  obtain⟨q,es',rfl,V,y⟩:=x.uncons
  unfold dget at e
  unfold valueAt
  by_cases hk:a.1=k
  ·simp[List.find?_cons,hk] at e
  ·simp[List.find?_cons,hk] at e ⊢
   have:=KVs.getNone y (k:=k) (by unfold dget;simpa using e)
   unfold valueAt at this
   simpa using this
theorem KVs.any {α U h}:∀ {kvs es},KVs α U h kvs es→∀(k:Int),kvs.any (fun kv=>kv.1=k)=es.any (fun e=>e.1=k)
 | [],es,x,k=>by rw[x.unnil];rfl
 | a::kvs,es,x,k=>by
  obtain⟨q,es',rfl,V,y⟩:=x.uncons
  simp[List.any_cons,KVs.any y k]
theorem KVs.map {α U h}:∀ {kvs es},KVs α U h kvs es→∀ {k:Int}{v:Value}{p:PV},VR α U h v p→KVs α U h (kvs.map fun kv=>if kv.1=k then(kv.1,v) else kv) (es.map fun e=>if e.1=k then(e.1,p) else e)
 | [],es,x,k,v,p,V=>by rw[x.unnil];exact .nil
 | a::kvs,es,x,k,v,p,V=>by
  obtain⟨q,es',rfl,V',y⟩:=x.uncons
  rw[List.map_cons,List.map_cons]
  obtain⟨a1,a2⟩:=a
  by_cases hk:a1=k
  ·simp only[hk,if_true];exact .cons V (KVs.map y V)
  ·simp only[hk,if_false];exact .cons V' (KVs.map y V)
theorem KVs.append {α U h}{kvs es kvs' es'}(x:KVs α U h kvs es) (y:KVs α U h kvs' es'):KVs α U h (kvs++kvs') (es++es'):=
 ⟨by rw[List.map_append,List.map_append,x.1,y.1],by rw[List.map_append,List.map_append];exact x.2.append y.2⟩
theorem KVs.put {α U h}{kvs es}(x:KVs α U h kvs es) {k:Int}{v:Value}{p:PV}(V:VR α U h v p):KVs α U h (stored kvs k v) (dput es k p):=by
 unfold stored dput
 rw[x.any k]
 split
 ·exact x.map V
 ·exact x.append (.cons V .nil)
theorem KVs.del {α U h}:∀ {kvs es},KVs α U h kvs es→∀(k:Int),KVs α U h (without kvs k) (ddel es k)
 | [],es,x,k=>by rw[x.unnil];exact .nil
 | a::kvs,es,x,k=>by
  obtain⟨q,es',rfl,V',y⟩:=x.uncons
  unfold without ddel
  obtain⟨a1,a2⟩:=a
  by_cases hk:a1=k
  ·simp only[List.filter_cons,hk,ne_eq,not_true_eq_false,decide_false,Bool.false_eq_true,if_false]
   have:=KVs.del y k;unfold without ddel at this;exact this
  ·simp only[List.filter_cons,hk,ne_eq,not_false_eq_true,decide_true,if_true]
   have:=KVs.del y k;unfold without ddel at this;exact .cons V' this
theorem KVs.length {α U h}{kvs es}(x:KVs α U h kvs es):kvs.length=es.length:=by have:=congrArg List.length x.1;simpa using this
noncomputable def idx (xs:List PV) (k:Int):Option PV:=if 0≤k∧k<2 ^ 62 then xs[k.toNat]? else if k<0∧-1000≤k∧-(xs.length:Int)≤k then xs[(k+xs.length).toNat]? else none
noncomputable def itemOf (H:List PObj) (a b:PV):Option PV:=match a,b with
 | .tup xs,.int k=>if 0≤k∧k<2 ^ 62 then xs[k.toNat]? else none
 | .ref i,.int k=>(match H[i]? with
  | some (.list xs)=>idx xs k
  | some (.dict es _)=>dget es k
  | _=>none)
 | _,_=>none
noncomputable def pItem (a b:PV):PM PV:=fun σ=>(itemOf σ.H a b).map fun p=>(p,σ)
noncomputable def pSub (f g:PM PV):PM PV:=seq f fun a=>seq g fun b=>pItem a b
section
variable {k:Nat}{sc:Scope}{ns:List Str}
theorem itemOf_elim {H:List PObj}{a b p:PV}{P:PV→PV→Prop}(e:itemOf H a b=some p) (k1:∀ xs ks,0≤ks∧ks<2 ^ 62→xs[ks.toNat]?=some p→P (.tup xs) (.int ks)) (k2:∀ i xs ks,H[i]?=some (.list xs)→idx xs ks=some p→P (.ref i) (.int ks))
  (k3:∀ i es ep ks,H[i]?=some (.dict es ep)→dget es ks=some p→P (.ref i) (.int ks)):P a b:=by
 unfold itemOf at e
 split at e
 ·split at e
  ·exact k1 _ _ ‹_› e
  ·exact nn e
 ·split at e
  ·exact k2 _ _ _ ‹_› e
  ·exact k3 _ _ _ _ ‹_› e
  ·exact nn e
 ·exact nn e
theorem idx_elim {xs:List PV}{ks:Int}{p:PV}{P:Prop}(e:idx xs ks=some p) (k1:0≤ks→ks<2 ^ 62→xs[ks.toNat]?=some p→P) (k2:ks<0→-(xs.length:Int)≤ks→-1000≤ks→xs[(ks+xs.length).toNat]?=some p→P):P:=by
 unfold idx at e
 split at e
 ·exact k1 (And.left ‹_›) (And.right ‹_›) e
 ·split at e
  ·rename_i h;exact k2 h.1 h.2.2 h.2.1 e
  ·exact nn e
theorem getItem_ok {w:World}{h0:Heap}{A:Around}{α:List Ad}{U:List Addr}{s:Shared}{H:List PObj}{va vb:Value}{a b p:PV}{Q:Value→Shared→Prop}{E:Value→Shared→Prop}
  (W:Wf w h0 α U H s.heap) (Va:VR α U s.heap va a) (Vb:VR α U s.heap vb b) (e:itemOf H a b=some p) (hQ:∀ v tk,VR α U s.heap v p→Q v {s with toks:=tk}):
  (∃ T id,s.TypeIs va T∧typeLookup (.type T) "__getitem__"=pure (some (.builtin id)))∧wpAny (model prog w) A (getItem va vb) Q E s:=by
 refine itemOf_elim (P:=fun a b=>VR α U s.heap va a→VR α U s.heap vb b→(∃ T id,s.TypeIs va T∧typeLookup (.type T) "__getitem__"=pure (some (.builtin id)))∧wpAny (model prog w) A (getItem va vb) Q E s) e (fun xs ks hk e Va Vb=>?_) (fun i xs ks hH e Va Vb=>?_) (fun i es ep ks hH e Va Vb=>?_) Va Vb
 ·refine VR.int_elim Vb fun t=>VR.tup_elim Va fun a vs ht hu ha hvs=>?_
  obtain⟨v,e1,V⟩:=hvs.get e
  have hl:=(List.getElem?_eq_some_iff.mp e1).1
  exact⟨⟨_,_,ht.typeIs,slot_tuple_getitem.lookup⟩,getItem_tuple (j:=ks.toNat) ht (by lia) (by exact Int.lt_of_lt_of_le hk.2 (by decide)) (by
   unfold seqIndex?
   have z:¬ ks<0:=by exact Int.not_lt_of_ge hk.1
   have y:ks<(vs.length:Int):=by lia
   simp[z,y,hk.1]) (by simpa using e1) (hQ v s.toks V)⟩
 ·refine VR.int_elim Vb fun t=>VR.list_elim Va W hH fun a vs n hi hl hvs=>⟨⟨_,_,(IsL.isList hl).typeIs,slot_list_getitem.lookup⟩,idx_elim e (fun h0 h1 e=>?_) fun h0 h1 h2 e=>?_⟩
  ·obtain⟨v,e1,V⟩:=hvs.get e
   exact wpAny_getItem_list (IsL.isList hl) h0 (by exact Int.lt_of_lt_of_le h1 (by decide)) (by simpa using e1) (hQ v s.toks V)
  ·have hlen:=hvs.length
   obtain⟨v,e1,V⟩:=hvs.get e
   exact wpAny_getItem_list_neg (IsL.isList hl) h0 (by simp only[List.size_toArray];lia) (by lia) (by simp only[List.size_toArray,List.getElem?_toArray,hlen];exact e1) (hQ v s.toks V)
 ·refine VR.int_elim Vb fun t=>VR.dict_elim Va W hH fun a kvs hi hd hkv=>?_
  obtain⟨v,e1,V⟩:=KVs.get hkv e
  exact⟨⟨_,_,hd.dictOf.typeIs,slot_dict_getitem.lookup⟩,wpAny_getItem_of (intKind_is prog w ks t) hd.dictOf.mapOf e1 (hQ v _ V)⟩
theorem SE_sub {value slice:Expr}{f g:PM PV}{pos:Pos}(hv:SE k sc ns value f) (hs:SE k sc ns slice g) (hsub:∀ o i:Value,subscripted slice false o i=operate [o,i] (getItem o i)):SE k sc ns (.Subscript value slice pos) (pSub f g):=by
 refine Jd.of fun {w h0 mg mb A env α U s σ p σ'} C S hf Q₀ hQ=>?_
 refine seq_elim hf fun a σ1 e1 hf=>?_
 refine seq_elim hf fun b σ2 e2 hf=>?_
 revert hQ
 refine mapp (p:=p) (σ:=σ') hf fun q hq hQ=>?_
 refine Subscript_ (hv.run C S e1 fun v s1 α1 V1 S1 T1 R1=>hs.run C S1 e2 fun v2 s2 α2 V2 S2 T2 R2=>?_)
 refine gv fun _ gk=>?_
 obtain⟨⟨T,id,hT,hl⟩,hw⟩:=getItem_ok (A:=A) (E:=bot) (Q:=Q₀) S2.wf (C.vmono V1 T2) V2 hq (fun v tk V=>(hQ _ _ α2 V S2 (T1.trans T2) (R1.trans R2)))
 refine gk ?_
 exact tail_any hT hl hw (hsub _ _)
noncomputable def putItem (H:List PObj) (a b v:PV):Option (List PObj):=match a,b with
 | .ref i,.int k=>(match H[i]? with
  | some (.list xs)=>if 0≤k∧k<xs.length∧k<2 ^ 62 then some (H.set i (.list (xs.set k.toNat v))) else none
  | some (.dict es ep)=>if es.length≤1000 then some (H.set i (.dict (dput es k v) (dep es k ep))) else none
  | _=>none)
 | _,_=>none
theorem set_list_ok {w:World}{A:Around}{s:Shared}{l:Addr}{vs:List Value}{n:Nat}{k:Int}{t:Tok}{v:Value}{Q:Unit→Shared→Prop}{E:Value→Shared→Prop}(hl:IsL s.heap l vs.toArray n) (h0:0≤k) (hfit:k<2 ^ 63) (hn:k<vs.length)
  (hQ:∀ h',IsL h' l (vs.set k.toNat v).toArray n→Heap.SameBut l s.heap h'→Q () {s with heap:=h'}):wpAny (model prog w) A (setItem (.ref l) (.int k t) v) Q E s:=by
 have hli:=IsL.isList hl
 unfold setItem
 try with_reducible refine wpAny_holding ?_
 first | refine wpAny_bind (wpAny_pure ?_) | skip
 refine wpAny_bind (wpAny_sequenceKey hli.typeIs (by decide) ?_)
 refine wpAny_bind (wpAny_callSpecial?_slot (name:=Str.ofString "__setitem__") hli.typeIs slot_list_setitem
  (wpAny_call_entry slot_list_setitem hli.typeIs entry_list_setitem ?_ (args_list_setitem _ _ _)))
 refine(?_:wpAny _ _ (Builtin.List.listSubscript? (.int k t)>>=_) _ _ s)
 refine wpAny_bind (wpAny_listSubscript_int (fitsIndex_of h0 hfit) ?_)
 clear hfit
 obtain⟨j,rfl⟩:=Int.eq_ofNat_of_zero_le h0
 have hj:j<vs.toArray.size:=by simp;exact Int.ofNat_lt.mp hn
 have hx':vs.toArray[j]?=some vs.toArray[j]:=Array.getElem?_eq_getElem hj
 refine(?_:wpAny _ _ ((seqItemAt l j>>=fun r=>pure (r.map (j,·)))>>=_) _ _ s)
 refine wpAny_bind (wpAny_bind (wpAny_seqItemAt hl rfl (wpAny_pure ?_)))
 rw[hx']
 refine(?_:wpAny _ _ (setSeqItemAt l j v>>=_) _ _ s)
 have hfin:IsL (s.heap.update l (Obj.mapSeq (·.setIfInBounds j v))) l (vs.set j v).toArray n:=by
  have:=IsL.update hl (·.setIfInBounds j v)
  simpa using this
 refine wpAny_bind (wpAny_setSeqItemAt hl rfl ?_)
 first
  | exact wpAny_bind (wpAny_pure (wpAny_pure ⟨.none,rfl,wpAny_pure (hQ _ hfin (Heap.SameBut.update ..))⟩))
  | exact wpAny_pure ⟨.none,rfl,wpAny_pure (hQ _ hfin (Heap.SameBut.update ..))⟩
theorem at_modify {w:World}{h:Heap}{d:Addr}{o:Obj}{es:Array DictEntry}{ep i:Nat}{kvs:List (Int × Value)}{ks:Int}{v:Value}(ho:h.get? d=some o) (hc:o.ExactDict) (hd:o.data=.dict es ep) (hk:KeysOf (intKind prog w) es) (hp:Pairs (intKind prog w) es.toList kvs) (hn:(kvs.map (·.1)).Nodup)
  (hi:(es.toList.findIdx? fun e=>(intKind prog w).is ks e.key)=some i):(h.update d (Obj.mapDict (·.modify i fun e=>{e with val:=v}))).DictAt (intKind prog w) d (kvs.map fun kv=>if kv.1=ks then(kv.1,v) else kv) ep:=by
 refine⟨_,_,Heap.get?_update_self _ ho (Obj.isFreed_of_dict (Obj.data_mapDict hd _)),hc.mapDict _,Obj.data_mapDict hd _,hk.modify _ _,?_,by rw[keys_map_store];exact hn⟩
 rw[Array.toList_modify]
 exact hp.modify hn hi v
theorem at_push {w:World}{h:Heap}{d:Addr}{o:Obj}{es:Array DictEntry}{ep:Nat}{kvs:List (Int × Value)}{ks:Int}{key v:Value}(hkey:(intKind prog w).is ks key=true) (ho:h.get? d=some o) (hc:o.ExactDict) (hd:o.data=.dict es ep) (hk:KeysOf (intKind prog w) es) (hp:Pairs (intKind prog w) es.toList kvs) (hn:(kvs.map (·.1)).Nodup)
  (hnot:ks ∉ kvs.map (·.1)):(h.update d (Obj.mapDictKeys (·.push ⟨(intKind prog w).hash ks,key,v⟩))).DictAt (intKind prog w) d (kvs++[(ks,v)]) (ep+1):=by
 refine⟨_,_,Heap.get?_update_self _ ho (Obj.isFreed_of_dict (Obj.data_mapDictKeys hd _)),hc.mapDictKeys _,Obj.data_mapDictKeys hd _,hk.push hkey _,?_,?_⟩
 ·rw[Array.toList_push]
  exact hp.append hkey _ v
 ·rw[List.map_append]
  exact List.nodup_append.mpr ⟨hn,by simp,fun a ha b hb z=>by have hb:=List.mem_singleton.mp hb;subst hb;exact hnot (z▸ha)⟩
theorem put_dict {w:World}{A:Around}{s:Shared}{d:Addr}{kvs:List (Int × Value)}{ep:Nat}{ks:Int}{key v:Value}{Q:Unit→Shared→Prop}{E:Value→Shared→Prop}(hkey:(intKind prog w).is ks key=true) (hm:s.heap.DictAt (intKind prog w) d kvs ep) (hsz:kvs.length≤sizeLine)
  (hQ:∀ h',h'.DictAt (intKind prog w) d (stored kvs ks v) (if kvs.any (fun kv=>kv.1=ks) then ep else ep+1)→Heap.SameBut d s.heap h'→Q () {s with heap:=h',toks:=s.toks+1}):wpAny (model prog w) A (dictSet d key v) Q E s:=by
 refine gv fun _ gk=>?_
 obtain⟨o,es,ho,hc,hd,hk,hp,hn⟩:=hm
 refine gk ?_
 have hidx:=hp.findIdx ks
 have hes:es.size≤sizeLine:=by rw[← Array.length_toList,hp.length];exact hsz
 skip
 refine wpAny_holding (wpAny_bind ((intKind prog w).pyHash hkey ?_))
 skip
 refine wpAny_holding (wpAny_bind (wpAny_dictFind_of (s:={s with toks:=s.toks+1}) hkey ho hd hk ?_))
 have hl:(es.findIdx? fun e=>(intKind prog w).is ks e.key)=(es.toList.findIdx? fun e=>(intKind prog w).is ks e.key):=by
  obtain⟨l⟩:=es;simp
 rw[hl]
 cases hi:es.toList.findIdx? fun e=>(intKind prog w).is ks e.key with
 | some i=>
  have ha:=any_of_findIdx_some (hidx▸hi)
  have hq:=hQ _ (by rw[stored,if_pos ha,if_pos ha];exact at_modify ho hc hd hk hp hn hi) (Heap.SameBut.update ..)
  exact wpAny_bind (wpAny_rule (wpAny_bind (wpAny_updateDict (s:={s with toks:=s.toks+1}) ho hd (wpAny_point hq))))
 | none=>
  have hnot:=not_mem_of_findIdx_none (hidx▸hi)
  have ha:¬ (kvs.any fun kv=>decide (kv.1=ks))=true:=fun z=>by
   refine gv fun _ gk=>?_
   obtain⟨kv,h1,h2⟩:=List.any_eq_true.mp z
   refine gk ?_
   exact hnot (List.mem_map.mpr ⟨kv,h1,of_decide_eq_true h2⟩)
  have hq:=hQ _ (by rw[stored,if_neg ha,if_neg ha];exact at_push hkey ho hc hd hk hp hn hnot) (Heap.SameBut.update ..)
  exact wpAny_bind (wpAny_rule (wpAny_updateDictKeys (hz:=hes) (s:={s with toks:=s.toks+1}) ho hd hq))
theorem setItem_dict {w:World}{A:Around}{s:Shared}{d:Addr}{kvs:List (Int × Value)}{ep:Nat}{ks:Int}{key v:Value}{Q:Unit→Shared→Prop}{E:Value→Shared→Prop}(hkey:(intKind prog w).is ks key=true) (hm:s.heap.DictAt (intKind prog w) d kvs ep) (hsz:kvs.length≤sizeLine)
  (hQ:∀ h',h'.DictAt (intKind prog w) d (stored kvs ks v) (if kvs.any (fun kv=>kv.1=ks) then ep else ep+1)→Heap.SameBut d s.heap h'→Q () {s with heap:=h',toks:=s.toks+1}):wpAny (model prog w) A (setItem (.ref d) key v) Q E s:=by
 have hT:=hm.dictOf.typeIs
 unfold setItem
 try with_reducible refine wpAny_holding ?_
 refine wpAny_bind (wpAny_sequenceKey hT (by decide) (wpAny_bind (wpAny_callSpecial?_slot (name:=Str.ofString "__setitem__") hT slot_dict_setitem (wpAny_call_entry slot_dict_setitem hT entry_dict_setitem ?_ (args_dict_setitem _ _ _)))))
 refine(?_:wpAny _ _ (Builtin.Dict.notOrdered "__setitem__" ⟨[.ref d,key,v],[]⟩>>=_) _ _ s)
 refine wpAny_bind (wpAny_notOrdered_dict hT ?_)
 refine(?_:wpAny _ _ (dictSet d key v>>=_) _ _ s)
 exact wpAny_bind (put_dict hkey hm hsz fun h' hm' hs'=>wpAny_pure ⟨.none,rfl,wpAny_pure (hQ h' hm' hs')⟩)
theorem putItem_elim {H H':List PObj}{a b p:PV}{P:PV→PV→List PObj→Prop}(e:putItem H a b p=some H') (k1:∀ i xs ks,H[i]?=some (.list xs)→0≤ks→ks<xs.length→ks<2 ^ 62→P (.ref i) (.int ks) (H.set i (.list (xs.set ks.toNat p))))
  (k2:∀ i es ep ks,H[i]?=some (.dict es ep)→es.length≤1000→P (.ref i) (.int ks) (H.set i (.dict (dput es ks p) (dep es ks ep)))):P a b H':=by
 unfold putItem at e
 split at e
 ·split at e
  ·split at e
   ·obtain rfl:=sj e;rename_i h;exact k1 _ _ _ ‹_› h.1 h.2.1 h.2.2
   ·exact nn e
  ·split at e
   ·obtain rfl:=sj e;exact k2 _ _ _ _ ‹_› ‹_›
   ·exact nn e
  ·exact nn e
 ·exact nn e
theorem upd_at {w:World}{h0:Heap}{mg mb:Str→Option Value}{A:Around}{env:Env}{α:List Ad}{U:List Addr}{s:Shared}{σ:PS}{i:Nat}{a:Addr}{o:PObj}{h':Heap}{ob:Obj}
  (C:Cx w h0 mg mb k A sc env U) (S:St w h0 ns env α U σ s.heap) (hi:α[i]?=some (a,a)) (hsb:Heap.SameBut a s.heap h') (hl:h'.get? a=some ob) (ho:Step [] [] α s.heap α h'→OR w α U h' (a,a) o):St w h0 ns env α U ⟨σ.H.set i o,σ.V⟩ h'∧Step (ownOf env) (frs A) α s.heap α h':=by
 have T0:Step [] [] α s.heap α h':=by
  refine but_step (fun c o x _ ec=>(hsb.2 c (x _ (List.mem_of_getElem? hi)).1.symm).trans ec) fun c o ec=>?_
  by_cases q:c=a
  ·exact⟨_,q▸hl⟩
  ·exact⟨o,(hsb.2 c q).trans ec⟩
 exact St.upd C S hi (fun c o h1 _ ec=>(hsb.2 c h1).trans ec) ⟨_,hl⟩ ⟨_,hl⟩ (ho T0)
theorem setItem_ok {w:World}{h0:Heap}{mg mb:Str→Option Value}{A:Around}{env:Env}{α:List Ad}{U:List Addr}{s:Shared}{σ:PS}{H':List PObj}{va vb v:Value}{a b p:PV}{Q:Unit→Shared→Prop}{E:Value→Shared→Prop}
  (C:Cx w h0 mg mb k A sc env U) (S:St w h0 ns env α U σ s.heap) (Va:VR α U s.heap va a) (Vb:VR α U s.heap vb b) (V:VR α U s.heap v p) (e:putItem σ.H a b p=some H')
  (hQ:∀ h' tk,St w h0 ns env α U ⟨H',σ.V⟩ h'→Step (ownOf env) (frs A) α s.heap α h'→Q () {s with heap:=h',toks:=tk}):wpAny (model prog w) A (setItem va vb v) Q E s:=by
 refine putItem_elim (P:=fun a b H'=>VR α U s.heap va a→VR α U s.heap vb b→(∀ h' tk,St w h0 ns env α U ⟨H',σ.V⟩ h'→Step (ownOf env) (frs A) α s.heap α h'→Q () {s with heap:=h',toks:=tk})→wpAny (model prog w) A (setItem va vb v) Q E s) e (fun i xs ks hH k0 k1 k2 Va Vb hQ=>?_) (fun i es ep ks hH hk Va Vb hQ=>?_) Va Vb hQ
 ·refine VR.int_elim Vb fun t=>VR.list_elim Va S.wf hH fun a vs n hi hl hvs=>?_
  have hlen:=hvs.length
  refine set_list_ok hl k0 (by exact Int.lt_of_lt_of_le k2 (by decide)) (by lia) fun h' hl' hsb=>?_
  have X:=upd_at C S hi hsb hl' (o:=.list (xs.set ks.toNat p)) fun T0=>⟨rfl,_,n,hl',(hvs.mono T0 fun _ q=>nomatch q).set (V.mono T0 fun _ q=>nomatch q)⟩
  exact hQ h' _ X.1 X.2
 ·refine VR.int_elim Vb fun t=>VR.dict_elim Va S.wf hH fun a kvs hi hd hkv=>?_
  have hlen:=KVs.length hkv
  refine setItem_dict (intKind_is prog w ks t) hd (by have:sizeLine=16777216:=rfl;exact Nat.le_trans (Nat.le_of_eq hlen) (Nat.le_trans hk (by decide))) fun h' hd' hsb=>?_
  rw[KVs.any hkv ks] at hd'
  obtain⟨o1,_,ho1,_⟩:=id hd'
  have X:=upd_at C S hi hsb ho1 (o:=.dict (dput es ks p) (dep es ks ep)) fun T0=>⟨rfl,_,hd',KVs.put ⟨hkv.1,hkv.2.mono T0 fun _ q=>nomatch q⟩ (V.mono T0 fun _ q=>nomatch q)⟩
  exact hQ h' _ X.1 X.2
noncomputable def pPut (a b v:PV):PM Unit:=fun σ=>(putItem σ.H a b v).map fun H'=>((),⟨H',σ.V⟩)
noncomputable def sPut (fv fo fi:PM PV):PM PFlow:=seq fv fun v=>seq fo fun a=>seq fi fun b=>seq (pPut a b v) fun _=>ret .next
theorem SS_put {o i value:Expr}{fo fi fv:PM PV}{pos' pos:Pos}(hv:SE k sc ns value fv) (ho:SE k sc ns o fo) (hi:SE k sc ns i fi)
  (hs:∀ env:Env,env.scope=sc→swapsWith value (some (.Subscript o i pos')) pos.line env=pure false):SS k sc ns (.Assign [.Subscript o i pos'] value pos) (sPut fv fo fi):=by
 refine Jd.of fun {w h0 mg mb A env α U s σ p σ'} C S hf Q₀ hQ=>?_
 refine seq_elim hf fun v σ1 e1 hf=>?_
 refine seq_elim hf fun a σ2 e2 hf=>?_
 refine seq_elim hf fun b σ3 e3 hf=>?_
 refine seq_elim hf fun u σ4 e4 hf=>?_
 revert hQ;refine sp2e (c:=p) (d:=σ') hf fun hQ=>?_
 revert hQ
 refine mapp (p:=u) (σ:=σ4) e4 fun H' hq hQ=>?_
 refine wpAny_Assign_Subscript (hv.run C S e1 fun v1 s1 α1 V1 S1 T1 R1=>ho.run C S1 e2 fun v2 s2 α2 V2 S2 T2 R2=>hi.run C S2 e3 fun v3 s3 α3 V3 S3 T3 R3=>
  setItem_ok C S3 (C.vmono V2 T3) V3 (C.vmono (C.vmono V1 T2) T3) hq fun h' tk S4 T4=>?_) (hs env C.e.scope)
 exact(hQ _ _ α3 .next S4 (((T1.trans T2).trans T3).trans T4) ((R1.trans R2).trans R3))
end
end Mine.Internal
namespace Mine.Internal
open PySem PySem.W PyProof.Rows PySem.Calls
noncomputable abbrev PF:=List PV→List PObj→Option (PV × List PObj)
noncomputable def SFv (fv:Value) (k:Nat) (F:PF):Prop:=
 ∀(w:World) (h0:Heap) (mg mb:Str→Option Value) (A:Around) (α:List Ad) (U:List Addr) (s:Shared) (H:List PObj) (args:List Value) (ps:List PV) (p:PV) (H':List PObj),
  Base w h0 mg mb→AOK k A U→Wf w h0 α U H s.heap→VRs α U s.heap args ps→F ps H=some (p,H')→
  wpAny (model prog w) A (call fv args) (fun v s'=>∃ α',VR α' U s'.heap v p∧Wf w h0 α' U H' s'.heap∧Step [] (frs A) α s.heap α' s'.heap∧Rest s s') bot s
theorem SFv.of {fv:Value}{k:Nat}{F:PF}(h:∀ {w:World}{h0:Heap}{mg mb:Str→Option Value}{A:Around}{α:List Ad}{U:List Addr}{s:Shared}{H:List PObj}{args:List Value}{ps:List PV}{p:PV}{H':List PObj},Base w h0 mg mb→AOK k A U→Wf w h0 α U H s.heap→VRs α U s.heap args ps→F ps H=some (p,H')→∀ Q:Value→Shared→Prop,
  (∀ v s' α',VR α' U s'.heap v p→Wf w h0 α' U H' s'.heap→Step [] (frs A) α s.heap α' s'.heap→Rest s s'→Q v s')→wpAny (model prog w) A (call fv args) Q bot s):SFv fv k F:=
 fun w h0 mg mb A α U s H args ps p H' B a W V e=>h B a W V e _ fun v s' α' a b c d=>⟨α',a,b,c,d⟩
noncomputable def CallPost (w:World) (h0:Heap) (A:Around) (α:List Ad) (U:List Addr) (s:Shared) (Q:Value→Shared→Prop) (p:PV) (H':List PObj):Prop:=
 ∀ v s' α',VR α' U s'.heap v p→Wf w h0 α' U H' s'.heap→Step [] (frs A) α s.heap α' s'.heap→Rest s s'→Q v s'
section
variable {w:World}{h0:Heap}{A:Around}{α:List Ad}{U:List Addr}{s:Shared}{H:List PObj}{Q:Value→Shared→Prop}
theorem CallPost.keep {h':Heap}{tk:Nat}{v:Value}{p:PV}(hQ:CallPost w h0 A α U s Q p H) (W:Wf w h0 α U H s.heap) (hk:∀ a o,s.heap.get? a=some o→h'.get? a=some o) (V:VR α U h' v p):Q v {s with heap:=h',toks:=tk}:=
 hQ v _ α V (W.keeps hk) (keep_step hk) ⟨rfl,rfl,rfl⟩
theorem CallPost.here {tk:Nat}{v:Value}{p:PV}(hQ:CallPost w h0 A α U s Q p H) (W:Wf w h0 α U H s.heap) (V:VR α U s.heap v p):Q v {s with toks:=tk}:=
 hQ v _ α V W (Step.refl ..) ⟨rfl,rfl,rfl⟩
end
theorem SFv.of1 {fv:Value}{k:Nat}{F:PF}(hn:∀ H,F [] H=none) (hm:∀ p q ps H,F (p::q::ps) H=none) (h:∀ {w:World}{h0:Heap}{mg mb:Str→Option Value}{A:Around}{α:List Ad}{U:List Addr}{s:Shared}{H:List PObj}{v:Value}{a p:PV}{H':List PObj},Base w h0 mg mb→AOK k A U→Wf w h0 α U H s.heap→VR α U s.heap v a→F [a] H=some (p,H')→∀ Q:Value→Shared→Prop,
  CallPost w h0 A α U s Q p H'→wpAny (model prog w) A (call fv [v]) Q bot s):SFv fv k F:=SFv.of fun {w h0 mg mb A α U s H args ps p H'} B a W V e Q hQ=>
 VRs.any (P:=fun vs ps=>F ps H=some (p,H')→wpAny (model prog w) A (call fv vs) Q bot s) V (fun e=>no_some ((hn _).symm.trans e))
  (fun v q _ _ V1 V=>VRs.any (P:=fun vs ps=>F (q::ps) H=some (p,H')→wpAny (model prog w) A (call fv (v::vs)) Q bot s) V (fun e=>h B a W V1 e Q hQ) (fun _ _ _ _ _ _ e=>no_some ((hm ..).symm.trans e))) e
theorem SFv.of2 {fv:Value}{k:Nat}{F:PF}(hn:∀ H,F [] H=none) (h1:∀ p H,F [p] H=none) (hm:∀ p q r ps H,F (p::q::r::ps) H=none) (h:∀ {w:World}{h0:Heap}{mg mb:Str→Option Value}{A:Around}{α:List Ad}{U:List Addr}{s:Shared}{H:List PObj}{v u:Value}{a b p:PV}{H':List PObj},Base w h0 mg mb→AOK k A U→Wf w h0 α U H s.heap→VR α U s.heap v a→VR α U s.heap u b→F [a,b] H=some (p,H')→∀ Q:Value→Shared→Prop,
  CallPost w h0 A α U s Q p H'→wpAny (model prog w) A (call fv [v,u]) Q bot s):SFv fv k F:=SFv.of fun {w h0 mg mb A α U s H args ps p H'} B a W V e Q hQ=>
 VRs.any (P:=fun vs ps=>F ps H=some (p,H')→wpAny (model prog w) A (call fv vs) Q bot s) V (fun e=>no_some ((hn _).symm.trans e))
  (fun v q _ _ V1 V=>VRs.any (P:=fun vs ps=>F (q::ps) H=some (p,H')→wpAny (model prog w) A (call fv (v::vs)) Q bot s) V (fun e=>no_some ((h1 ..).symm.trans e))
   (fun v2 q2 _ _ V2 V=>VRs.any (P:=fun vs ps=>F (q::q2::ps) H=some (p,H')→wpAny (model prog w) A (call fv (v::v2::vs)) Q bot s) V (fun e=>h B a W V1 V2 e Q hQ) (fun _ _ _ _ _ _ e=>no_some ((hm ..).symm.trans e)))) e
theorem some_to {τ υ:Type}{a c:τ}{b d:υ}{P:τ→υ→Prop}(e:some (a,b)=some (c,d)) (hP:P c d):P a b:=by obtain⟨rfl,rfl⟩:=sp2 e;exact hP
theorem if_to {τ υ:Type}{x:Prop} [Decidable x] {a c:τ}{b d:υ}{P:τ→υ→Prop}{G:Prop}(e:(if x then some (a,b) else none)=some (c,d)) (hP:P c d) (k:x→P a b→G):G:=by
 by_cases hx:x
 ·rw[if_pos hx] at e;exact k hx (some_to e hP)
 ·rw[if_neg hx] at e;exact no_some e
noncomputable abbrev SF (fa:Addr) (k:Nat) (F:PF):Prop:=SFv (.ref fa) k F
noncomputable def fnIn (K:Frag) (a:Addr):Option FuncData:=match K.lookup a with
 | some ⟨_,_,.func f,_⟩=>some f
 | _=>none
theorem fnIn_get {K:Frag}{a:Addr}{fd:FuncData}{h:Heap}(X:K.In h) (e:fnIn K a=some fd):∃ o,h.get? a=some o∧o.data=.func fd:=by
 unfold fnIn at e
 split at e
 ·rename_i c d f sl q
  obtain rfl:=sj e
  exact⟨_,X _ _ q,rfl⟩
 ·exact nn e
noncomputable def runF (b:List PV→Option (List (Option PV))) (f:PM PFlow):PF:=fun ps H=>match b ps with
 | none=>none
 | some V0=>match f ⟨H,V0⟩ with
  | some (.ret p,σ)=>some (p,σ.H)
  | some (.next,σ)=>some (.none,σ.H)
  | _=>none
theorem runF_some {b:List PV→Option (List (Option PV))}{f:PM PFlow}{ps:List PV}{H H':List PObj}{p:PV}(h:runF b f ps H=some (p,H')):
  ∃ V0 fl σ,b ps=some V0∧f ⟨H,V0⟩=some (fl,σ)∧σ.H=H'∧(fl=.ret p∨(fl=.next∧p=.none)):=by
 unfold runF at h
 split at h
 ·exact nn h
 ·rename_i V0 e
  split at h
  ·rename_i q σ e2;refine sp2e (c:=p) (d:=H') h ?_;exact⟨V0,_,σ,e,e2,rfl,.inl rfl⟩
  ·rename_i σ e2;refine sp2e (c:=p) (d:=H') h ?_;exact⟨V0,_,σ,e,e2,rfl,.inr ⟨rfl,rfl⟩⟩
  ·exact nn h
theorem get_size_none (h:Heap):h.get? h.objs.size=none:=by
 cases q:h.get? h.objs.size with
 | none=>rfl
 | some o=>exact absurd (Heap.lt_size q) (Nat.lt_irrefl _)
theorem frames_deeper {A:Around}{U:List Addr}{env:Env}{L:Addr}(h:∃ fs,A.frames=some fs∧∀ e∈fs,e.scope.kind≠.module∧∃ L,e.frame=some L∧L∈U) (hk:env.scope.kind≠.module) (hL:env.frame=some L):
  ∃ fs,(A.deeper env).frames=some fs∧∀ e∈fs,e.scope.kind≠.module∧∃ L',e.frame=some L'∧L'∈L::U:=by
 obtain⟨fs,e,g⟩:=h
 refine⟨env::fs,by show A.frames.map _=_;rw[e];rfl,fun x hx=>?_⟩
 rcases List.mem_cons.mp hx with q | q
 ·rw[q];exact⟨hk,L,hL,.head _⟩
 ·obtain⟨a,L',b,c⟩:=g x q
  exact⟨a,L',b,.tail _ c⟩
theorem frs_deeper {A:Around}{U:List Addr}{env:Env}{L:Addr}(h:∃ fs,A.frames=some fs∧∀ e∈fs,e.scope.kind≠.module∧∃ L,e.frame=some L∧L∈U) (hL:env.frame=some L):frs (A.deeper env)=L::frs A:=by
 obtain⟨fs,e,g⟩:=h
 unfold frs
 rw[show(A.deeper env).frames=A.frames.map (env::·) from rfl,e]
 simp[hL]
noncomputable def posB (n m:Nat):List PV→Option (List (Option PV)):=fun ps=>if ps.length=n then some (ps.map some++List.replicate (m - n) none) else none
theorem posB_some {n m:Nat}{ps:List PV}{V0:List (Option PV)}(h:posB n m ps=some V0):ps.length=n∧V0=ps.map some++List.replicate (m - n) none:=by
 unfold posB at h
 split at h
 ·obtain rfl:=sj h;exact⟨by assumption,rfl⟩
 ·exact nn h
theorem lookup_zip {α U h}:∀ {xs:List Str}{args:List Value}{ps:List PV}{i:Nat}{x:Str}{p:PV},VRs α U h args ps→xs.Nodup→xs.length=args.length→xs[i]?=some x→ps[i]?=some p→∃ v,(xs.zip args).lookup x=some v∧VR α U h v p
 | [],_,_,i,_,_,_,_,_,e,_=>by exact nn e
 | y::xs,[],_,_,_,_,_,_,hl,_,_=>by simp at hl
 | y::xs,a::args,_,i,x,p,.cons V Vs,hn,hl,e1,e2=>by
  cases i with
  | zero=>
   simp at e1 e2;subst e1 e2
   exact⟨a,by simp[List.lookup_cons],V⟩
  | succ i=>
   simp at e1 e2 hl
   obtain⟨v,q1,q2⟩:=lookup_zip Vs (List.nodup_cons.mp hn).2 hl e1 e2
   refine⟨v,?_,q2⟩
   have hne:(x==y)=false:=by
    have:x≠y:=fun q=>(List.nodup_cons.mp hn).1 (q▸List.mem_of_getElem? e1)
    simpa using this
   simp only[List.zip_cons_cons,List.lookup_cons,hne]
   exact q1
noncomputable abbrev SArgs (k:Nat) (sc:Scope) (ns:List Str) (pos:Pos) (es:List Expr) (f:PM (List PV)):Prop:=Jd VRs k sc ns (fun env=>spliced (backTo pos (starEach es env))) f
noncomputable def aNil:PM (List PV):=ret []
noncomputable def aCons (f:PM PV) (g:PM (List PV)):PM (List PV):=seq f fun p=>seq g fun ps=>ret (p::ps)
section
variable {k:Nat}{sc:Scope}{ns:List Str}
theorem SA_nil {pos:Pos}:SArgs k sc ns pos [] aNil:=by
 refine Jd.of fun {w h0 mg mb A env α U s σ p σ'} C S hf Q₀ hQ=>?_
 revert hQ;refine sp2e (c:=p) (d:=σ') hf fun hQ=>?_
 exact spliced_nil (qhere hQ S .nil)
theorem SA_cons {pos:Pos}{e:Expr}{es:List Expr}{f:PM PV}{g:PM (List PV)}(h1:SE k sc ns e f) (h2:SArgs k sc ns pos es g) (hs:∀ env,starEach (e::es) env=(false,eval e env)::starEach es env):SArgs k sc ns pos (e::es) (aCons f g):=by
 refine Jd.of fun {w h0 mg mb A env α U s σ p σ'} C S hf Q₀ hQ=>?_
 refine seq_elim hf fun a σ1 e1 hf=>?_
 refine seq_elim hf fun b σ2 e2 hf=>?_
 revert hQ;refine sp2e (c:=p) (d:=σ') hf fun hQ=>?_
 show wpAny _ _ (spliced (backTo pos (starEach (e::es) env))) _ _ _
 rw[hs env]
 refine spliced_cons (h1.run C S e1 fun v s1 α1 V1 S1 T1 R1=>?_)
 exact h2.run C S1 e2 fun vs s2 α2 V2 S2 T2 R2=>(hQ _ _ α2 (.cons (C.vmono V1 T2) V2) S2 (T1.trans T2) (R1.trans R2))
noncomputable def ArR (α:List Ad) (U:List Addr) (h:Heap) (a:Args) (ps:List PV):Prop:=a.kw=[]∧VRs α U h a.pos ps
noncomputable abbrev SAr (k:Nat) (sc:Scope) (ns:List Str) (pos:Pos) (es:List Expr) (f:PM (List PV)):Prop:=∀ fv:Value,Jd ArR k sc ns (fun env=>evalArgs fv true (backTo pos (starEach es env)) []) f
theorem SAr_nil {pos:Pos}:SAr k sc ns pos [] aNil:=by
 intro fv w h0 mg mb A env α U s σ p σ' C S hf
 refine sp2e (c:=p) (d:=σ') hf ?_
 exact PySem.evalArgs_none (Post.here S ⟨rfl,.nil⟩)
theorem SAr_cons {pos:Pos}{e:Expr}{es:List Expr}{g:PM (List PV)}(h2:SArgs k sc ns pos (e::es) g) (hs:∀ env,starEach (e::es) env=(false,eval e env)::starEach es env):SAr k sc ns pos (e::es) g:=by
 intro fv w h0 mg mb A env α U s σ p σ' C S hf
 refine(?_:wpAny _ _ (evalArgs fv true (backTo pos (starEach (e::es) env)) []) _ _ _)
 have:=h2.run C S hf (Q:=fun vs s'=>Post ArR w h0 ns A env α U s p σ' ⟨vs,[]⟩ s') (E:=bot) fun vs s' α' V S T R=>⟨α',⟨rfl,V⟩,S,T,R⟩
 have this:wpAny (model prog w) A (spliced (backTo pos (starEach (e::es) env))) (fun vs s'=>Post ArR w h0 ns A env α U s p σ' ⟨vs,[]⟩ s') bot s:=this
 rw[hs env] at this ⊢
 exact evalArgs_plain this
theorem callee_ok {w:World}{h0:Heap}{mg mb:Str→Option Value}{A:Around}{env:Env}{α:List Ad}{U:List Addr}{s:Shared}{σ:PS}{fv:Value}{F:PF}{args:List Value}{ps:List PV}{p:PV}{H':List PObj}{Q:Value→Shared→Prop}{E:Value→Shared→Prop}
  (hF:SFv fv k F) (C:Cx w h0 mg mb k A sc env U) (S:St w h0 ns env α U σ s.heap) (V:VRs α U s.heap args ps) (e:F ps σ.H=some (p,H'))
  (hQ:∀ v s' α',VR α' U s'.heap v p→St w h0 ns env α' U ⟨H',σ.V⟩ s'.heap→Step (ownOf env) (frs A) α s.heap α' s'.heap→Rest s s'→Q v s'):wpAny (model prog w) A (call fv args) Q E s:=by
 refine wpAny_mono (hF w h0 mg mb A α U s σ.H args ps p H' C.base C.a S.wf V e) ?_ fun _ _ q=>q.elim
 rintro v s' ⟨α',V',W',T',R'⟩
 refine hQ v s' α' V' ⟨W',S.fr.over T' (fun _ q=>nomatch q) (fun a ha=>own_away C S ha) fun a ha q=>nomatch q⟩ (T'.weaken (fun _ q=>nomatch q) fun _ q=>q) R'
noncomputable def pCallF (F:PF) (ps:List PV):PM PV:=fun σ=>(F ps σ.H).map fun r=>(r.1,⟨r.2,σ.V⟩)
noncomputable def pCall (fv:Value) (F:PF) (f:PM PV) (g:PM (List PV)):PM PV:=seq f fun c=>match c with
 | .const v=>if v=fv then seq g (pCallF F) else fail
 | _=>fail
@[elab_as_elim] theorem callF_elim {F:PF}{ps:List PV}{σ σ':PS}{p:PV}{P:PS→Prop}(e:pCallF F ps σ=some (p,σ')) (k:∀ H',F ps σ.H=some (p,H')→P ⟨H',σ.V⟩):P σ':=by
 obtain⟨⟨p',H'⟩,q1,q2⟩:=Option.map_eq_some_iff.mp e
 obtain⟨rfl,rfl⟩:=Prod.mk.inj q2
 exact k H' q1
theorem callee_of {τ:Type}{c:PV}{fv:Value}{m:PM τ}{σ:PS}{r:τ × PS}(h:(match c with
  | .const v=>if v=fv then m else fail
  | _=>fail) σ=some r):c=.const fv∧m σ=some r:=by
 split at h
 ·split at h
  ·rename_i q;exact⟨congrArg PV.const q,h⟩
  ·exact nn h
 ·exact nn h
@[elab_as_elim] theorem pCall_elim {fv:Value}{F:PF}{f:PM PV}{g:PM (List PV)}{σ σ':PS}{p:PV}{P:PS→Prop}(h:pCall fv F f g σ=some (p,σ')) (k:∀ σ1 ps σ2 H',f σ=some (.const fv,σ1)→g σ1=some (ps,σ2)→F ps σ2.H=some (p,H')→P ⟨H',σ2.V⟩):P σ':=
 seq_elim h fun c σ1 e1 h2=>seq_elim (callee_of h2).2 fun ps σ2 e2 h4=>callF_elim h4 fun H' q=>k σ1 ps σ2 H' ((callee_of h2).1▸e1) e2 q
@[elab_as_elim] theorem args_elim {α:List Ad}{U:List Addr}{h:Heap}{a:Args}{ps:List PV}{P:Args→Prop}(V:ArR α U h a ps) (k:∀ pos,VRs α U h pos ps→P ⟨pos,[]⟩):P a:=by
 obtain⟨pos,kw⟩:=a
 obtain⟨hk,V⟩:=V
 cases(show kw=[] from hk)
 exact k pos V
theorem SE_call {fa:Addr}{F:PF}{x:Str}{px pos:Pos}{es:List Expr}{f:PM PV}{g:PM (List PV)}(hF:SF fa k F) (hx:∀ w:World,(fnIn (hd.heap_39 w.params) fa).isSome=true) (hf:SE k sc ns (.Name x px) f) (hg:SAr k sc ns pos es g):
  SE k sc ns (.Call (.Name x px) es [] pos) (pCall (.ref fa) F f g):=by
 refine Jd.of fun {w h0 mg mb A env α U s σ p σ'} C S e Q₀ hQ=>?_
 revert hQ
 refine pCall_elim e fun σ1 ps σ2 H' e1 e2 e3 hQ=>?_
 refine wpAny_Call_NameR (hf.run C S e1 fun v s1 α1 V1 S1 T1 R1=>VR.const_elim V1 ?_)
 refine(Option.isSome_iff_exists.mp (hx w)).elim fun fd hfd=>(fnIn_get C.base.K hfd).elim fun o ho=>?_
 refine callWith_function (o:=o) (fd:=fd) ((hg (.ref fa)).run C S1 e2 fun a s2 α2 V2 S2 T2 R2=>⟨⟨S2.wf.keep _ _ ho.1,ho.2⟩,?_⟩)
 refine args_elim V2 fun pos' V2=>?_
 refine(?_:wpAny _ _ (call (.ref fa) ([]++pos') []) _ _ _)
 skip
 exact callee_ok hF C S2 V2 e3 fun v s3 α3 V3 S3 T3 R3=>hQ _ _ α3 V3 S3 ((T1.trans T2).trans T3) ((R1.trans R2).trans R3)
end
end Mine.Internal
namespace Mine.Internal
open PySem PySem.W PyProof.Rows PySem.Calls
noncomputable def lexLt:List Int→List Int→Bool
 | [],[]=>false
 | [],_::_=>true
 | _::_,[]=>false
 | x::xs,y::ys=>if x=y then lexLt xs ys else decide (x<y)
theorem ints_cons {vs:List Value}{n:Int}{ns:List Int}(h:IntsAre vs (n::ns)):∃ t vs',vs=.int n t::vs'∧IntsAre vs' ns:=by
 cases h with
 | cons _ t h=>exact⟨t,_,rfl,h⟩
theorem ints_nil {vs:List Value}(h:IntsAre vs []):vs=[]:=by cases h;rfl
inductive ZI (p:Value × Value) (rest:List (Value × Value)) (vs ws:List Value) (xs ys:List Int):Prop
 | mk (x y:Int) (t1 t2:Tok) (vs' ws':List Value) (xs' ys':List Int) (hp:p=(.int x t1,.int y t2)) (hr:rest=List.zip vs' ws') (hx:IntsAre vs' xs') (hy:IntsAre ws' ys') (ex:xs=x::xs') (ey:ys=y::ys') (lv:vs.length=vs'.length+1) (lw:ws.length=ws'.length+1)
theorem zip_ints {p:Value × Value}{rest:List (Value × Value)}{vs ws:List Value}{xs ys:List Int}(hz:p::rest=List.zip vs ws) (hx:IntsAre vs xs) (hy:IntsAre ws ys):ZI p rest vs ws xs ys:=by
 cases hx with
 | nil=>exact nomatch hz
 | cons x t1 hx=>cases hy with
  | nil=>exact nomatch hz
  | cons y t2 hy=>
   have h:=List.cons.inj hz
   exact⟨x,y,t1,t2,_,_,_,_,h.1,h.2,hx,hy,rfl,rfl,rfl,rfl⟩
theorem ints_end {vs ws:List Value}{xs ys:List Int}(hz:[]=List.zip vs ws) (hx:IntsAre vs xs) (hy:IntsAre ws ys):decide (vs.length<ws.length)=lexLt xs ys:=by
 cases hx with
 | nil=>cases hy<;>rfl
 | cons x t1 hx=>cases hy with
  | nil=>rfl
  | cons y t2 hy=>exact nomatch hz
inductive LtInv (b c:Bool) (s:Shared) (rest:List (Value × Value)) (r:Prop) (s':Shared):Prop
 | mk (xs' ys':List Int) (vs' ws':List Value) (hr:r) (hs:s'=s) (hz:rest=List.zip vs' ws') (hx:IntsAre vs' xs') (hy:IntsAre ws' ys') (hd:lexLt xs' ys'=b) (hl:decide (vs'.length<ws'.length)=c)
theorem lt_tree {w:World}{A:Around}{s:Shared}{a b:Addr}{vs ws:List Value}{xs ys:List Int}{P:Fin→Shared→Prop}{E:Value→Shared→Prop}(ha:IsTup s.heap a vs.toArray) (hb:IsTup s.heap b ws.toArray) (ia:IntsAre vs xs) (ib:IntsAre ws ys)
  (h:P (.done (.ret (.bool (lexLt xs ys)))) s):wpAny (model prog w) A (Builtin.«tuple.__lt__» ⟨[.ref a,.ref b],[]⟩) P E s:=by
 refine gv fun _ gk=>?_
 have hTb:=hb.typeIs
 obtain⟨oa,hoa,_,na,hda⟩:=ha
 obtain⟨ob,hob,_,nb,hdb⟩:=hb
 refine gk ?_
 refine(?_:wpAny _ _ (isInstance (.ref b) (.type "tuple")>>=_) _ _ s)
 refine wpAny_bind (wpAny_isInstance hTb isSubtype_tuple_tuple ?_)
 refine wpAny_bind (wpAny_tupleItemsOf hoa hda (wpAny_bind (wpAny_tupleItemsOf hob hdb (wpAny_bind ?_))))
 refine wpAny_forIn_list _ (fun rest r s'=>LtInv (lexLt xs ys) (decide (vs.toArray.size<ws.toArray.size)) s rest (r.1=none) s')
  _ ?_ ?_ _ _ ⟨xs,ys,vs,ws,rfl,rfl,rfl,ia,ib,rfl,rfl⟩
 ·intro p rest r s' inv
  refine gv fun _ gk=>?_
  obtain⟨xs',ys',vs',ws',hr,hs,hz,hx,hy,hd,hl⟩:=inv
  obtain⟨x,y,t1,t2,vs2,ws2,xs2,ys2,hp,hr2,hx2,hy2,e1,e2,l1,l2⟩:=zip_ints hz hx hy
  subst hs hp hr2
  refine gk (wpAny_bind (wpAny_eqBool_int ?_))
  rw[e1,e2] at hd
  by_cases hk:x=y
  ·rw[show(x==y)=true from beq_iff_eq.mpr hk]
   refine wpAny_pure ⟨xs2,ys2,vs2,ws2,rfl,rfl,rfl,hx2,hy2,(if_pos hk).symm.trans hd,?_⟩
   rw[← hl,l1,l2];exact decide_eq_decide.mpr Nat.succ_lt_succ_iff.symm
  ·rw[show(x==y)=false from beq_eq_false_iff_ne.mpr hk]
   have hf:decide (x<y)=lexLt xs ys:=(if_neg hk).symm.trans hd
   rw[← hf] at h
   refine wpAny_bind (wpAny_rule ?_)
   refine wpAny_bind (show wpAny _ _ (richCompare .Lt _ _) _ _ _ from PyProof.Rows.lt_int (w:=w) ?_)
   exact wpAny_bind (wpAny_pure (wpAny_pure (wpAny_pure h)))
 ·intro r s' inv
  refine gv fun _ gk=>?_
  obtain⟨xs',ys',vs',ws',hr,hs,hz,hx,hy,hd,hl⟩:=inv
  have e:=(ints_end hz hx hy).symm.trans hl
  rw[hd] at e
  obtain⟨r1,r2⟩:=r
  subst hs hr
  refine gk (wpAny_pure ?_)
  rw[e] at h
  exact h
noncomputable def intsOf:List PV→Option (List Int)
 | []=>some []
 | .int x::ps=>(intsOf ps).map (x::·)
 | _::_=>none
theorem intsOf_ok {α U h}{vs:List Value}{ps:List PV}{xs:List Int}(V:VRs α U h vs ps) (e:intsOf ps=some xs):IntsAre vs xs:=
 VRs.induct (P:=fun vs ps=>∀ xs,intsOf ps=some xs→IntsAre vs xs) (fun xs e=>Option.some.inj e▸.nil)
  (fun v p vs ps V _ ih xs=>V.any (P:=fun v p=>intsOf (p::ps)=some xs→IntsAre (v::vs) xs) no_some (fun _=>no_some) (fun i t e=>(Option.map_eq_some_iff.mp (show(intsOf ps).map (i::·)=some xs from e)).elim fun ys z=>z.2▸.cons _ _ (ih _ z.1)) (fun _ _ _ _=>no_some) (fun _ _ _ _ _ _ _=>no_some) fun _=>no_some) V xs e
noncomputable def less (a b:PV):Option Bool:=match a,b with
 | .int x,.int y=>some (decide (x<y))
 | .tup xs,.tup ys=>(match intsOf xs,intsOf ys with
  | some m,some n=>some (lexLt m n)
  | _,_=>none)
 | _,_=>none
noncomputable def pLess (a b:PV):PM Bool:=fun σ=>(less a b).map fun c=>(c,σ)
noncomputable def pLt (f g:PM PV):PM Bool:=seq f fun a=>seq g fun b=>pLess a b
section
variable {k:Nat}{sc:Scope}{ns:List Str}
theorem opt2_elim {τ υ ζ:Type}{o:Option τ}{o2:Option υ}{f:τ→υ→Option ζ}{r:ζ}{G:Prop}(e:(match o,o2 with | some m,some n=>f m n | _,_=>none)=some r) (k:∀ m n,o=some m→o2=some n→f m n=some r→G):G:=by
 cases o with
 | none=>exact no_some e
 | some m=>cases o2 with
  | none=>exact no_some e
  | some n=>exact k m n rfl rfl e
set_option smartUnfolding false in
theorem less_ok {w:World}{A:Around}{α:List Ad}{U:List Addr}{s:Shared}{va vb:Value}{a b:PV}{c:Bool}{Q:Value→Shared→Prop}{E:Value→Shared→Prop}(Va:VR α U s.heap va a) (Vb:VR α U s.heap vb b) (e:less a b=some c) (hA:A.units<cLine) (h:Q (.bool c) s):
  wpAny (model prog w) A (compareOp .Lt va vb) Q E s:=by
 revert e
 refine Va.any no_some (fun _=>no_some) (fun x t=>?_) (fun _ _ _ _=>no_some) (fun a vs xs ht _ _ hvs=>?_) fun _=>no_some
 ·refine Vb.any no_some (fun _=>no_some) (fun y u e=>?_) (fun _ _ _ _=>no_some) (fun _ _ _ _ _ _ _=>no_some) fun _=>no_some
  exact PyProof.Rows.lt_int (Option.some.inj e▸h)
 ·refine Vb.any no_some (fun _=>no_some) (fun _ _=>no_some) (fun _ _ _ _=>no_some) (fun b ws ys ht2 _ _ hws e=>?_) fun _=>no_some
  refine opt2_elim (o:=intsOf xs) (o2:=intsOf ys) (f:=fun m n=>some (lexLt m n)) e fun m n e1 e2 e=>?_
  refine(?_:wpAny _ _ (richCompare .Lt _ _) _ _ _)
  exact wpAny_richCompare_same_room ht.typeIs ht2.typeIs F.slot_tuple_lt (wpAny_call_entry F.slot_tuple_lt ht.typeIs F.entry_tuple_lt
     (lt_tree ht ht2 (intsOf_ok hvs e1) (intsOf_ok hws e2) ⟨_,rfl,by simp,Option.some.inj e▸h⟩) (F.args_tuple_lt_2 _ _)) hA
theorem AOK.room {k:Nat}{A:Around}{U:List Addr}(a:AOK k A U):A.units<cLine:=by have:=a.units;have:cLine=9900:=rfl;lia
theorem ST_lt {l r:Expr}{f g:PM PV}{pos:Pos}(hl:SE k sc ns l f) (hr:SE k sc ns r g) (hm:behindInMarks .Lt r=false):STest k sc ns (.Compare l [.Lt] [r] pos) (pLt f g):=by
 refine Jd.of fun {w h0 mg mb A env α U s σ p σ'} C S hf Q₀ hQ=>?_
 refine seq_elim hf fun a σ1 h1 hf=>?_
 refine seq_elim hf fun b σ2 h2 hf=>?_
 revert hQ
 refine mapp (p:=p) (σ:=σ') hf fun c q hQ=>?_
 refine wpAny_isTrue_Compare1 (hl.run C S h1 fun v s1 α1 V1 S1 T1 R1=>hr.run C S1 h2 fun v2 s2 α2 V2 S2 T2 R2=>?_) hm
 exact less_ok (C.vmono V1 T2) V2 q C.a.room (wpAny_truthy_bool (hQ _ _ α2 rfl S2 (T1.trans T2) (R1.trans R2)))
noncomputable def pNot (t:PM Bool):PM Bool:=seq t fun b=>ret (!b)
theorem ST_not {e:Expr}{t:PM Bool}{pos:Pos}(h:STest k sc ns e t):STest k sc ns (.UnaryOp .Not e pos) (pNot t):=by
 refine Jd.of fun {w h0 mg mb A env α U s σ p σ'} C S hf Q₀ hQ=>?_
 refine seq_elim hf fun b σ1 e1 hf=>?_
 revert hQ;refine sp2e (c:=p) (d:=σ') hf fun hQ=>?_
 refine wpAny_isTrue_Not (h.run C S e1 fun v s1 α1 V1 S1 T1 R1=>(hQ _ _ α1 (?_) S1 T1 R1))
 have:v=b:=V1
 rw[this];rfl
noncomputable def pAnd (t u:PM Bool):PM Bool:=seq t fun b=>match b with
 | true=>u
 | false=>ret false
theorem ST_and {e1 e2:Expr}{t u:PM Bool}{pos:Pos}(h1:STest k sc ns e1 t) (h2:STest k sc ns e2 u):STest k sc ns (.BoolOp .And [e1,e2] pos) (pAnd t u):=by
 refine Jd.of fun {w h0 mg mb A env α U s σ p σ'} C S hf Q₀ hQ=>?_
 refine seq_elim hf fun b σ1 q1 hf=>?_
 refine wpAny_isTrue_BoolOp (wpAny_allTrue_And_cons (h1.run C S q1 fun v s1 α1 V1 S1 T1 R1=>?_))
 have:v=b:=V1
 subst this
 cases v with
 | false=>revert hQ;refine sp2e (c:=p) (d:=σ') hf fun hQ=>?_;exact(hQ _ _ α1 rfl S1 T1 R1)
 | true=>
  refine wpAny_allTrue_And_cons (h2.run C S1 hf fun v s2 α2 V2 S2 T2 R2=>?_)
  have:v=p:=V2
  subst this
  cases v with
  | false=>exact(hQ _ _ α2 rfl S2 (T1.trans T2) (R1.trans R2))
  | true=>exact wpAny_allTrue_And_nil (hQ _ _ α2 rfl S2 (T1.trans T2) (R1.trans R2))
end
end Mine.Internal
namespace Mine.Internal
open PySem PySem.W PyProof.Rows PySem.Calls
section
variable {k:Nat}{sc:Scope}{ns:List Str}
theorem starPlain {es:List Expr}{env:Env}{pos:Pos}(h:(starEach es env).any (·.1)=false):(backTo pos (starEach es env)).any (·.1)=false:=by
 unfold backTo
 rw[List.any_map]
 exact h
theorem SE_callB {id:String}{F:PF}{x:Str}{px pos:Pos}{es:List Expr}{f:PM PV}{g:PM (List PV)}(hF:SFv (.builtin id) k F) (hf:SE k sc ns (.Name x px) f) (hg:SAr k sc ns pos es g) (hp:∀ env,(starEach es env).any (·.1)=false):
  SE k sc ns (.Call (.Name x px) es [] pos) (pCall (.builtin id) F f g):=by
 refine Jd.of fun {w h0 mg mb A env α U s σ p σ'} C S e Q₀ hQ=>?_
 revert hQ
 refine pCall_elim e fun σ1 ps σ2 H' e1 e2 e3 hQ=>?_
 refine wpAny_Call_NameR (hf.run C S e1 fun v s1 α1 V1 S1 T1 R1=>VR.const_elim V1 ?_)
 refine callWith_builtin (starPlain (hp env)) ((hg (.builtin id)).run C S1 e2 fun a s2 α2 V2 S2 T2 R2=>?_)
 refine args_elim V2 fun pos' V2=>?_
 refine(?_:wpAny _ _ (call (.builtin id) ([]++pos') []) _ _ _)
 skip
 exact callee_ok hF C S2 V2 e3 fun v s3 α3 V3 S3 T3 R3=>hQ _ _ α3 V3 S3 ((T1.trans T2).trans T3) ((R1.trans R2).trans R3)
theorem SE_callT {id:String}{F:PF}{x:Str}{px pos:Pos}{es:List Expr}{f:PM PV}{g:PM (List PV)}(hF:SFv (.type id) k F) (hf:SE k sc ns (.Name x px) f) (hg:SAr k sc ns pos es g) (hp:∀ env,(starEach es env).any (·.1)=false):
  SE k sc ns (.Call (.Name x px) es [] pos) (pCall (.type id) F f g):=by
 refine Jd.of fun {w h0 mg mb A env α U s σ p σ'} C S e Q₀ hQ=>?_
 revert hQ
 refine pCall_elim e fun σ1 ps σ2 H' e1 e2 e3 hQ=>?_
 refine wpAny_Call_NameR (hf.run C S e1 fun v s1 α1 V1 S1 T1 R1=>VR.const_elim V1 ?_)
 refine PyProof.Rows.callWith_type (starPlain (hp env)) ((hg (.type id)).run C S1 e2 fun a s2 α2 V2 S2 T2 R2=>?_)
 refine args_elim V2 fun pos' V2=>?_
 refine(?_:wpAny _ _ (call (.type id) ([]++pos') []) _ _ _)
 skip
 exact callee_ok hF C S2 V2 e3 fun v s3 α3 V3 S3 T3 R3=>hQ _ _ α3 V3 S3 ((T1.trans T2).trans T3) ((R1.trans R2).trans R3)
theorem ret_keep {fr:List Addr}{w:World}{h0:Heap}{α:List Ad}{U:List Addr}{s:Shared}{H:List PObj}{h':Heap}{tk:Nat}{v:Value}{p:PV}(W:Wf w h0 α U H s.heap) (hk:∀ a o,s.heap.get? a=some o→h'.get? a=some o) (V:VR α U h' v p):
  ∃ α',VR α' U h' v p∧Wf w h0 α' U H h'∧Step [] fr α s.heap α' h'∧Rest s {s with heap:=h',toks:=tk}:=⟨α,V,W.keeps hk,keep_step hk,rfl,rfl,rfl⟩
noncomputable def lenOf (H:List PObj) (p:PV):Option Nat:=match p with
 | .tup xs=>some xs.length
 | .ref i=>(match H[i]? with
  | some (.list xs)=>some xs.length
  | _=>none)
 | _=>none
noncomputable def F_len:PF:=fun ps H=>match ps with
 | [p]=>(match lenOf H p with
  | some n=>if n<2 ^ 40 then some (.int n,H) else none
  | none=>none)
 | _=>none
set_option smartUnfolding false in
@[elab_as_elim] theorem lenOf_elim {w:World}{h0:Heap}{α:List Ad}{U:List Addr}{h:Heap}{H:List PObj}{v:Value}{a:PV}{n:Nat}{P:Value→Prop}(W:Wf w h0 α U H h) (V:VR α U h v a) (e:lenOf H a=some n)
  (k1:∀ a vs m,IsL h a (List.toArray vs) m→vs.length=n→P (.ref a)) (k2:∀ a vs,IsTup h a (List.toArray vs)→vs.length=n→P (.ref a)):P v:=by
 revert e
 refine V.any no_some (fun _=>no_some) (fun _ _=>no_some) (fun a b i hi e=>?_) (fun a vs xs ht _ _ hvs e=>?_) fun _=>no_some
 ·refine on_list e fun xs hH e=>?_
  obtain⟨r,hr,hb,vs,m,hl,hvs⟩:=W.at hH
  rw[hi] at hr;obtain rfl:=sj hr
  exact k1 _ _ _ hl (hvs.length.trans (Option.some.inj e))
 ·exact k2 _ _ ht (hvs.length.trans (Option.some.inj e))
theorem size_lt {vs:List Value}{n:Nat}(e:vs.length=n) (hn:n<2 ^ 40):((List.toArray vs).size:Int)<9223372036854775808:=by simp;lia
theorem size_int {α:List Ad}{U:List Addr}{h:Heap}{vs:List Value}{n:Nat}(e:vs.length=n) (t:Tok):VR α U h (.int ((List.toArray vs).size:Int) t) (.int n):=by subst e;exact .int ..
set_option smartUnfolding false in
theorem sf_len:SFv (.builtin "len") k F_len:=by
 refine SFv.of1 (fun _=>rfl) (fun _ _ _ _=>rfl) fun {w h0 mg mb A α U s H v q p H'} B a W V e Q hQ=>?_
 refine opt_elim (o:=lenOf H q) (f:=fun n=>if n<2 ^ 40 then some (PV.int n,H) else none) e fun n e1 e=>?_
 refine if_to (P:=CallPost w h0 A α U s Q) e hQ fun hn hQ=>?_
 refine lenOf_elim W V e1 (fun a vs m hl e=>?_) fun a vs ht e=>?_
 ·exact len_list (IsL.isList hl) (size_lt e hn) (hQ.here W (size_int e _))
 ·exact len_tuple ht (size_lt e hn) (hQ.here W (size_int e _))
noncomputable def minOf (a b:PV) (H:List PObj):Option (PV × List PObj):=match a,b with
 | .int a,.int b=>some (.int (if b<a then b else a),H)
 | _,_=>none
noncomputable def F_min:PF:=fun ps H=>match ps with
 | [a,b]=>minOf a b H
 | _=>none
theorem vrs2 {α U h}{args:List Value}{p q:PV}(V:VRs α U h args [p,q]):∃ u v,args=[u,v]∧VR α U h u p∧VR α U h v q:=by
 cases V with
 | cons a Vs=>cases Vs with
  | cons b Vs=>cases Vs;exact⟨_,_,rfl,a,b⟩
theorem vrs1 {α U h}{args:List Value}{p:PV}(V:VRs α U h args [p]):∃ u,args=[u]∧VR α U h u p:=by
 cases V with
 | cons a Vs=>cases Vs;exact⟨_,rfl,a⟩
@[elab_as_elim] theorem vrs1_elim {α U h}{args:List Value}{p:PV}{P:List Value→Prop}(V:VRs α U h args [p]) (k:∀ u,VR α U h u p→P [u]):P args:=by
 obtain⟨u,rfl,a⟩:=vrs1 V;exact k u a
@[elab_as_elim] theorem vrs2_elim {α U h}{args:List Value}{p q:PV}{P:List Value→Prop}(V:VRs α U h args [p,q]) (k:∀ u v,VR α U h u p→VR α U h v q→P [u,v]):P args:=by
 obtain⟨u,v,rfl,a,b⟩:=vrs2 V;exact k u v a b
theorem sf_min:SFv (.builtin "min") (k+1) F_min:=by
 refine SFv.of2 (fun _=>rfl) (fun _ _=>rfl) (fun _ _ _ _ _=>rfl) fun {w h0 mg mb A α U s H v u a b p H'} B a W V1 V2 e Q hQ=>?_
 revert e
 refine V1.any no_some (fun _=>no_some) (fun x t=>?_) (fun _ _ _ _=>no_some) (fun _ _ _ _ _ _ _=>no_some) fun _=>no_some
 refine V2.any no_some (fun _=>no_some) (fun y t2 e=>?_) (fun _ _ _ _=>no_some) (fun _ _ _ _ _ _ _=>no_some) fun _=>no_some
 have hQ:=some_to (P:=CallPost w h0 A α U s Q) e hQ
 refine min_two_ints (a.handled (Nat.succ_pos _)) fun h' tk hk=>?_
 refine hQ.keep W hk ?_
 split
 ·exact .int ..
 ·exact .int ..
noncomputable def F_int:PF:=fun ps H=>match ps with
 | [a]=>(match a with | .int a=>some (.int a,H) | _=>none)
 | _=>none
theorem sf_int:SFv (.type "int") k F_int:=by
 refine SFv.of1 (fun _=>rfl) (fun _ _ _ _=>rfl) fun {w h0 mg mb A α U s H v q p H'} B a W V e Q hQ=>?_
 revert e
 refine V.any no_some (fun _=>no_some) (fun x t e=>?_) (fun _ _ _ _=>no_some) (fun _ _ _ _ _ _ _=>no_some) fun _=>no_some
 exact call_int_int ((some_to (P:=CallPost w h0 A α U s Q) e hQ).here (tk:=s.toks) W (.int ..))
end
end Mine.Internal
namespace Mine.Internal
open PySem PySem.W PyProof.Rows PySem.Calls
section
variable {k:Nat}{sc:Scope}{ns:List Str}
noncomputable def sExpr (f:PM PV):PM PFlow:=seq f fun _=>ret .next
theorem SS_expr {e:Expr}{f:PM PV}{pos:Pos}(h:SE k sc ns e f) (hs:∀ env:Env,env.scope=sc→swapsWith e none pos.line env=pure false):SS k sc ns (.Expr e pos) (sExpr f):=by
 refine Jd.of fun {w h0 mg mb A env α U s σ p σ'} C S hf Q₀ hQ=>?_
 refine seq_elim hf fun q σ1 e1 hf=>?_
 revert hQ;refine sp2e (c:=p) (d:=σ') hf fun hQ=>?_
 refine wpAny_Expr_any (h.run C S e1 fun v s1 α1 V1 S1 T1 R1=>(hQ _ _ α1 .next S1 T1 R1)) ?_ (hs env C.e.scope)
 unfold interactive
 rw[C.e.scope,C.e.kind];rfl
noncomputable def kindOfP (H:List PObj) (p:PV):Option String:=match p with
 | .ref i=>(match H[i]? with
  | some (.list _)=>some "list"
  | some (.dict _ _)=>some "dict"
  | some (.set _)=>some "set"
  | _=>none)
 | _=>none
theorem on_kind {H:List PObj}{p:PV}{T:String}{P:PV→String→Prop}(e:kindOfP H p=some T) (k1:∀ i xs,H[i]?=some (.list xs)→P (.ref i) "list") (k2:∀ i es ep,H[i]?=some (.dict es ep)→P (.ref i) "dict") (k3:∀ i es,H[i]?=some (.set es)→P (.ref i) "set"):P p T:=by
 cases p with
 | ref i=>
  simp only[kindOfP] at e
  cases h:H[i]? with
  | none=>rw[h] at e;exact no_some e
  | some o=>cases o with
   | list xs=>rw[h] at e;exact Option.some.inj e▸k1 i xs h
   | dict es ep=>rw[h] at e;exact Option.some.inj e▸k2 i es ep h
   | set es=>rw[h] at e;exact Option.some.inj e▸k3 i es h
   | sorter=>rw[h] at e;exact no_some e
   | node=>rw[h] at e;exact no_some e
   | liter=>rw[h] at e;exact no_some e
   | bnext=>rw[h] at e;exact no_some e
   | raw=>rw[h] at e;exact no_some e
   | dead=>rw[h] at e;exact no_some e
 | none=>exact no_some e
 | bool=>exact no_some e
 | int=>exact no_some e
 | const=>exact no_some e
 | tup=>exact no_some e
theorem kind_ok {w:World}{h0:Heap}{α:List Ad}{U:List Addr}{s:Shared}{H:List PObj}{v:Value}{p:PV}{T:String}(W:Wf w h0 α U H s.heap) (V:VR α U s.heap v p) (e:kindOfP H p=some T):
  s.TypeIs v T∧∀ a,v=.ref a→∃ ob,s.heap.get? a=some ob∧ob.dict=none:=by
 revert V
 refine on_kind (P:=fun p T=>VR α U s.heap v p→s.TypeIs v T∧∀ a,v=.ref a→∃ ob,s.heap.get? a=some ob∧ob.dict=none) e (fun i xs hH V=>?_) (fun i es ep hH V=>?_) fun i es hH V=>?_
 ·exact V.list_elim (P:=fun v=>s.TypeIs v "list"∧∀ a,v=.ref a→∃ ob,s.heap.get? a=some ob∧ob.dict=none) W hH fun a vs n _ hl _=>⟨(IsL.isList hl).typeIs,fun a e=>Value.ref.inj e▸⟨_,hl,rfl⟩⟩
 ·exact V.dict_elim (P:=fun v=>s.TypeIs v "dict"∧∀ a,v=.ref a→∃ ob,s.heap.get? a=some ob∧ob.dict=none) W hH fun a kvs _ hd _=>⟨hd.dictOf.typeIs,fun a e=>Value.ref.inj e▸hd.dictOf.mapOf.noDict _ rfl⟩
 ·exact V.set_elim (P:=fun v=>s.TypeIs v "set"∧∀ a,v=.ref a→∃ ob,s.heap.get? a=some ob∧ob.dict=none) W hH fun a S n _ hS _ _=>hS.elim fun o z=>z.elim fun _ z=>z.elim fun _ z=>z.elim fun _ z=>⟨⟨o,z.1,z.2.1.1⟩,fun a e=>Value.ref.inj e▸⟨o,z.1,z.2.1.2.1⟩⟩
noncomputable def pIs (T:String) (p:PV):PM Unit:=fun σ=>if kindOfP σ.H p=some T then some ((),σ) else none
noncomputable def pMeth (T:String) (F:PF) (f:PM PV) (g:PM (List PV)):PM PV:=seq f fun o=>seq (pIs T o) fun _=>seq g fun ps=>pCallF F (o::ps)
@[elab_as_elim] theorem pIs_elim {T:String}{q:PV}{u:Unit}{σ σ':PS}{P:PS→Prop}(e:pIs T q σ=some (u,σ')) (k:kindOfP σ.H q=some T→P σ):P σ':=by
 unfold pIs at e
 split at e
 ·rename_i hk
  obtain⟨-,rfl⟩:=sp2 e
  exact k hk
 ·exact nn e
theorem SE_meth {T id:String}{name:Str}{F:PF}{o:Expr}{apos pos:Pos}{es:List Expr}{f:PM PV}{g:PM (List PV)}(pa:PlainAttrs T) (slot:PySem.Slot T name id) (hty:typeOf (.builtin id)=pure (.type "method_descriptor"))
  (hF:SFv (.builtin id) k F) (hf:SE k sc ns o f) (hg:SAr k sc ns pos es g) (hp:∀ env,(starEach es env).any (·.1)=false) (hbase:∀ env,attributeBase o name env (eval o env)=eval o env) (hlen:es.length<20) (hline:(apos.endLine==pos.line)=true):
  SE k sc ns (.Call (.Attribute o name apos) es [] pos) (pMeth T F f g):=by
 refine Jd.of fun {w h0 mg mb A env α U s σ p σ'} C S e Q₀ hQ=>?_
 refine seq_elim e fun q σ1 e1 e=>?_
 refine seq_elim e fun u σ2 e2 e=>?_
 refine seq_elim e fun ps σ3 e3 e=>?_
 revert e3
 refine pIs_elim e2 fun hk e3=>?_
 clear e2
 revert hQ
 refine callF_elim e fun H' q1 hQ=>?_
 refine wpAny_Call_method (hbase env) ?_ hline pa slot hty (hf.run C S e1 fun v s1 α1 V1 S1 T1 R1=>?_)
 ·have hz:=starPlain (pos:=pos) (hp env)
  have:(backTo pos (starEach es env)).all (fun x=>!x.1)=true:=by
   rw[List.all_eq_true]
   intro x hx
   have:=List.any_eq_false.mp hz x hx
   simpa using this
  rw[this]
  have:(backToKw pos (keywordEach [] env)).all (fun x=>x.1.isSome)=true:=rfl
  rw[this]
  simp only[Bool.and_self,Bool.true_and,decide_eq_true_eq,List.length_nil,List.isEmpty_nil,if_true]
  exact Nat.lt_of_lt_of_le hlen (by decide)
 ·have hT:=kind_ok S1.wf V1 hk
  refine⟨hT.1,hT.2,callWith_builtin (starPlain (hp env)) ((hg (.builtin id)).run C S1 e3 fun a s2 α2 V2 S2 T2 R2=>args_elim V2 fun pos' V2=>?_)⟩
  refine(?_:wpAny _ _ (call (.builtin id) ([v]++pos') []) _ _ _)
  exact callee_ok hF C S2 (.cons (C.vmono V1 T2) V2) q1 fun v s3 α3 V3 S3 T3 R3=>hQ _ _ α3 V3 S3 ((T1.trans T2).trans T3) ((R1.trans R2).trans R3)
theorem list_upd {w:World}{h0:Heap}{α:List Ad}{U:List Addr}{s:Shared}{H:List PObj}{i:Nat}{a:Addr}{vs vs':List Value}{ps:List PV}{n:Nat}(W:Wf w h0 α U H s.heap) (hi:α[i]?=some (a,a)) (hl:IsL s.heap a vs.toArray n) (f:Array Value→Array Value)
  (hf:f vs.toArray=vs'.toArray) (V:VRs α U s.heap vs' ps):Wf w h0 α U (H.set i (.list ps)) (s.heap.update a (Obj.mapSeq f))∧Step [] [] α s.heap α (s.heap.update a (Obj.mapSeq f)):=by
 have hsb:Heap.SameBut a s.heap (s.heap.update a (Obj.mapSeq f)):=Heap.SameBut.update ..
 have hl':=IsL.update hl f
 have T0:Step [] [] α s.heap α (s.heap.update a (Obj.mapSeq f)):=by
  refine but_step (fun c o x _ ec=>(hsb.2 c (x _ (List.mem_of_getElem? hi)).1.symm).trans ec) fun c o ec=>?_
  by_cases q:c=a
  ·rw[q];exact⟨_,hl'⟩
  ·exact⟨o,(hsb.2 c q).trans ec⟩
 rw[hf] at hl'
 exact W.upd hi (fun c o h1 _ ec=>(hsb.2 c h1).trans ec) ⟨_,hl'⟩ ⟨_,hl'⟩ ⟨rfl,vs',_,hl',V.mono T0 fun _ q=>nomatch q⟩
theorem list_at {w:World}{h0:Heap}{α:List Ad}{U:List Addr}{h:Heap}{H:List PObj}{i:Nat}{a b:Addr}{xs:List PV}(W:Wf w h0 α U H h) (hH:H[i]?=some (.list xs)) (hi:α[i]?=some (a,b)):b=a∧∃ vs n,IsL h a (List.toArray vs) n∧VRs α U h vs xs:=by
 refine gv fun _ gk=>?_
 obtain⟨r,hr,hb,vs,m,hl,hvs⟩:=W.at hH
 refine gk ?_
 rw[hi] at hr;obtain rfl:=sj hr
 exact⟨hb,vs,m,hl,hvs⟩
noncomputable def onL (f:Nat→List PV→List PObj→Option (PV × List PObj)):PF:=fun ps H=>match ps with
 | [a]=>(match a with
  | .ref i=>(match H[i]? with
   | some (.list xs)=>f i xs H
   | _=>none)
  | _=>none)
 | _=>none
set_option smartUnfolding false in
theorem SFv.ofL {fv:Value}{f:Nat→List PV→List PObj→Option (PV × List PObj)}(h:∀ {w:World}{h0:Heap}{mg mb:Str→Option Value}{A:Around}{α:List Ad}{U:List Addr}{s:Shared}{H:List PObj}{i:Nat}{b:Addr}{vs:List Value}{n:Nat}{xs:List PV}{p:PV}{H':List PObj},
  Base w h0 mg mb→AOK k A U→Wf w h0 α U H s.heap→α[i]?=some (b,b)→IsL s.heap b (List.toArray vs) n→VRs α U s.heap vs xs→f i xs H=some (p,H')→∀ Q:Value→Shared→Prop,CallPost w h0 A α U s Q p H'→wpAny (model prog w) A (call fv [.ref b]) Q bot s):SFv fv k (onL f):=
 SFv.of1 (fun _=>rfl) (fun _ _ _ _=>rfl) fun {w h0 mg mb A α U s H v q p H'} B a W V e Q hQ=>
  VR.any (P:=fun v q=>onL f [q] H=some (p,H')→VR α U s.heap v q→wpAny (model prog w) A (call fv [v]) Q bot s) V (fun e _=>no_some e) (fun _ e _=>no_some e) (fun _ _ e _=>no_some e) (fun c d i hi e V=>on_list (f:=fun xs=>f i xs H) e fun xs hH e=>
   V.list_elim (P:=fun v=>wpAny (model prog w) A (call fv [v]) Q bot s) W hH fun b vs n hi hl hvs=>h B a W hi hl hvs e Q hQ) (fun _ _ _ _ _ _ _ e _=>no_some e) (fun _ e _=>no_some e) e V
theorem empty_same {vs:List Value}{xs:List PV}(h:vs.length=xs.length):(!(List.toArray vs).isEmpty)=!xs.isEmpty:=by
 cases vs<;>cases xs<;>simp_all
theorem size_lt2 {vs:List Value}{n:Nat}(e:vs.length=n) (hn:n<2 ^ 40):((List.toArray vs).size:Int)<2 ^ 62:=by simp;lia
theorem size_line {vs:List Value}{n:Nat}(e:vs.length=n) (hn:n≤1000000):(List.toArray vs).size≤sizeLine:=by have:sizeLine=16777216:=rfl;simp;exact Nat.le_trans (Nat.le_of_eq e) (Nat.le_trans hn (by decide))
theorem CallPost.updL {w:World}{h0:Heap}{A:Around}{α:List Ad}{U:List Addr}{s:Shared}{H:List PObj}{Q:Value→Shared→Prop}{i:Nat}{a:Addr}{vs vs':List Value}{ps:List PV}{n:Nat}{v:Value}{p:PV}{tk:Nat}(W:Wf w h0 α U H s.heap) (hi:α[i]?=some (a,a)) (hl:IsL s.heap a vs.toArray n) (f:Array Value→Array Value)
  (hf:f vs.toArray=vs'.toArray) (V:VRs α U s.heap vs' ps) (hQ:CallPost w h0 A α U s Q p (H.set i (.list ps))) (Vp:VR α U s.heap v p):Q v {s with heap:=s.heap.update a (Obj.mapSeq f),toks:=tk}:=
 have Z:=list_upd W hi hl f hf V
 hQ _ _ α (Vp.mono Z.2 fun _ q=>nomatch q) Z.1 Z.2.plain ⟨rfl,rfl,rfl⟩
noncomputable def appIn (i:Nat) (x:PV) (H:List PObj):Option (PV × List PObj):=match H[i]? with
 | some (.list xs)=>if xs.length≤1000000 then some (.none,H.set i (.list (xs++[x]))) else none
 | _=>none
noncomputable def F_append:PF:=fun ps H=>match ps with
 | [a,x]=>(match a with | .ref i=>appIn i x H | _=>none)
 | _=>none
set_option smartUnfolding false in
theorem sf_append:SFv (.builtin "list.append") k F_append:=by
 refine SFv.of2 (fun _=>rfl) (fun _ _=>rfl) (fun _ _ _ _ _=>rfl) fun {w h0 mg mb A α U s H v u c x p H'} B a W V1 V2 e Q hQ=>?_
 refine V1.any (P:=fun v c=>F_append [c,x] H=some (p,H')→VR α U s.heap v c→wpAny (model prog w) A (call (.builtin "list.append") [v,u]) Q bot s) (fun e _=>no_some e) (fun _ e _=>no_some e) (fun _ _ e _=>no_some e) (fun c d i _ e V=>?_) (fun _ _ _ _ _ _ _ e _=>no_some e) (fun _ e _=>no_some e) e V1
 refine on_list (H:=H) (i:=i) (f:=fun xs=>if xs.length≤1000000 then some (PV.none,H.set i (PObj.list (xs++[x]))) else none) e fun xs hH e=>?_
 refine if_to (P:=CallPost w h0 A α U s Q) e hQ fun hn hQ=>?_
 refine V.list_elim W hH fun b vs n hi hl hvs=>?_
 exact call_meets F.slot_list_append (IsL.isList hl).typeIs F.entry_list_append (F.args_list_append_2 _ _) (PySem.list_append _ vs.toArray n u (size_line hvs.length hn)) ⟨hl,CallPost.updL W hi hl (fun x_1=>x_1.push u) (vs':=vs++[u]) (List.push_toArray ..) (hvs.append (.cons V2 .nil)) hQ .none⟩
theorem eraseLast {τ:Type}:∀(l:List τ),l.eraseIdx (l.length - 1)=l.dropLast
 | []=>rfl
 | [a]=>rfl
 | a::b::l=>by
  have:=eraseLast (b::l)
  simp only[List.length_cons,Nat.add_sub_cancel] at this ⊢
  rw[List.eraseIdx_cons_succ,this];rfl
noncomputable def F_pop:PF:=onL fun i xs H=>match xs.getLast? with
 | some x=>if xs.length≤1000000 then some (x,H.set i (.list xs.dropLast)) else none
 | none=>none
theorem VRs.dropLast {α U h}{vs:List Value}{ps:List PV}(V:VRs α U h vs ps):VRs α U h vs.dropLast ps.dropLast:=by
 rw[List.dropLast_eq_take,List.dropLast_eq_take,V.length];exact V.take _
theorem last_at {vs:List Value}{n:Nat}{v:Value}(e:vs.length=n) (h:vs[n - 1]?=some v):(List.toArray vs)[(List.toArray vs).size - 1]?=some v:=by subst e;simpa using h
set_option smartUnfolding false in
theorem sf_pop:SFv (.builtin "list.pop") k F_pop:=by
 refine SFv.ofL fun {w h0 mg mb A α U s H i b vs n xs p H'} B a W hi hl hvs e Q hQ=>?_
 refine opt_elim (o:=xs.getLast?) (f:=fun x=>if xs.length≤1000000 then some (x,H.set i (PObj.list xs.dropLast)) else none) e fun x hx e=>?_
 refine if_to (P:=CallPost w h0 A α U s Q) e hQ fun hn hQ=>?_
 refine(hvs.get (List.getLast?_eq_getElem?.symm.trans hx)).elim fun v z=>?_
 exact call_meets F.slot_list_pop (IsL.isList hl).typeIs F.entry_list_pop (F.args_list_pop_1 _) (MeetsSeq.list_pop_last _ vs.toArray n v (last_at hvs.length z.1) (size_line hvs.length hn))
  ⟨hl,CallPost.updL W hi hl (fun xs=>xs.eraseIdxIfInBounds (vs.toArray.size - 1)) (vs':=vs.dropLast) (by simp[eraseLast]) hvs.dropLast hQ z.2⟩
noncomputable def F_clear:PF:=onL fun i xs H=>if xs.length≤1000000 then some (.none,H.set i (.list [])) else none
theorem sf_clear:SFv (.builtin "list.clear") k F_clear:=by
 refine SFv.ofL fun {w h0 mg mb A α U s H i b vs n xs p H'} B a W hi hl hvs e Q hQ=>?_
 refine if_to (P:=CallPost w h0 A α U s Q) e hQ fun hn hQ=>?_
 exact call_meets F.slot_list_clear (IsL.isList hl).typeIs F.entry_list_clear (F.args_list_clear_1 _) (AutoSeq1.list_clear_list_0 _ vs.toArray n (size_line hvs.length hn)) ⟨hl,CallPost.updL W hi hl (fun _=>#[]) (vs':=[]) rfl .nil hQ .none⟩
noncomputable def truthOf (H:List PObj) (p:PV):Option Bool:=match p with
 | .none=>some false
 | .bool b=>some b
 | .ref i=>(match H[i]? with
  | some (.list xs)=>if xs.length<2 ^ 40 then some (!xs.isEmpty) else none
  | _=>none)
 | _=>none
noncomputable def pTruth (f:PM PV):PM Bool:=seq f fun p=>fun σ=>(truthOf σ.H p).map fun b=>(b,σ)
set_option smartUnfolding false in
theorem truth_ok {w:World}{h0:Heap}{A:Around}{α:List Ad}{U:List Addr}{s:Shared}{H:List PObj}{v:Value}{p:PV}{b:Bool}{Q:Bool→Shared→Prop}{E:Value→Shared→Prop}(W:Wf w h0 α U H s.heap) (V:VR α U s.heap v p) (e:truthOf H p=some b) (h:∀ tk,Q b {s with toks:=tk}):
  wpAny (model prog w) A (truthy v) Q E s:=by
 refine V.any (P:=fun v p=>truthOf H p=some b→VR α U s.heap v p→wpAny (model prog w) A (truthy v) Q E s) (fun e _=>?_) (fun c e _=>?_) (fun _ _ e _=>no_some e) (fun c d i _ e V=>?_) (fun _ _ _ _ _ _ _ e _=>no_some e) (fun _ e _=>no_some e) e V
 ·exact fun _ _ _=>(congrArg (fun b=>Q b s) (Option.some.inj e)).mpr (h s.toks)
 ·exact wpAny_truthy_bool (Option.some.inj e▸h s.toks)
 ·refine on_list (H:=H) (i:=i) (f:=fun xs=>if xs.length<2 ^ 40 then some (!xs.isEmpty) else none) e fun xs hH e=>?_
  refine V.list_elim W hH fun b vs n hi hl hvs=>?_
  by_cases hn:xs.length<2 ^ 40
  ·rw[if_pos hn] at e
   exact wpAny_truthy_list (IsL.isList hl) (size_lt hvs.length hn) ((empty_same hvs.length).trans (Option.some.inj e)▸h _)
  ·rw[if_neg hn] at e;exact no_some e
theorem ST_truth {e:Expr}{f:PM PV}(h:SE k sc ns e f) (he:∀(env:Env) (whole:Sem Value),isTrue e env whole=(do let v ← whole;standAt e.pos;holding [v] (truthy v))):STest k sc ns e (pTruth f):=by
 refine Jd.of fun {w h0 mg mb A env α U s σ p σ'} C S hf Q₀ hQ=>?_
 refine seq_elim hf fun q σ1 e1 hf=>?_
 revert hQ
 refine mapp (p:=p) (σ:=σ') hf fun b q1 hQ=>?_
 refine wpAny_isTrue_value (h.run C S e1 fun v s1 α1 V1 S1 T1 R1=>truth_ok S1.wf V1 q1 fun tk=>(hQ _ _ α1 rfl S1 T1 R1)) (he env _)
end
end Mine.Internal
namespace Mine.Internal
open PySem PySem.W PyProof.Rows PySem.Calls
section
variable {k:Nat}{sc:Scope}{ns:List Str}
theorem fresh_away {w:World}{h0:Heap}{α:List Ad}{U:List Addr}{H:List PObj}{h:Heap}(W:Wf w h0 α U H h) {a:Addr}(e:h.get? a=none):away α a∧a ∉ U:=
 ⟨fun p hp=>⟨fun q=>by obtain⟨⟨o,e1⟩,_⟩:=W.live p hp;exact no2 e1 (q▸e),fun q=>by obtain⟨_,o,e1⟩:=W.live p hp;exact no2 e1 (q▸e)⟩,
  fun q=>by obtain⟨o,e1⟩:=(W.lock a q).2.2;exact no2 e1 e⟩
noncomputable def mkTup (ps:List PV):PM PV:=fun σ=>if ps.length≤1000000 then some (.tup ps,σ) else none
noncomputable def pTup (g:PM (List PV)):PM PV:=seq g mkTup
theorem SE_tuple {es:List Expr}{kk:Nat}{pos:Pos}{g:PM (List PV)}(hg:SArgs k sc ns pos es g):SE k sc ns (.Tuple es kk pos) (pTup g):=by
 refine Jd.of fun {w h0 mg mb A env α U s σ p σ'} C S hf Q₀ hQ=>?_
 refine seq_elim hf fun ps σ1 e1 hf=>?_
 unfold mkTup at hf
 split at hf
 ·rename_i hn
  revert hQ;refine sp2e (c:=p) (d:=σ') hf fun hQ=>?_
  refine Tuple_ (hg.run C S e1 fun vs s1 α1 V1 S1 T1 R1=>?_)
  have hl:=V1.length
  have sz:sizeLine=16777216:=rfl
  have hk:∀ a o,s1.heap.get? a=some o→(s1.heap.push {cls:=.type "tuple",data:=.seq vs.toArray}).get? a=some o:=fun a o e=>Heap.get?_push_of_some _ e
  refine wpAny_newTuple ?_ (by exact Nat.le_trans (Nat.le_of_eq hl) (Nat.le_trans hn (by decide)))
  obtain⟨S2,T2⟩:=St.keeps S1 hk
  have fr:=fresh_away S1.wf (get_size_none s1.heap)
  exact(hQ _ _ α1 (.tup ⟨_,Heap.get?_push_size _ rfl,rfl,0,rfl⟩ fr.2 fr.1 (V1.mono T2 C.own)) S2 (T1.trans T2) R1)
 ·exact nn hf
noncomputable def mkList (ps:List PV):PM PV:=fun σ=>if ps.length≤1000000 then some (.ref σ.H.length,⟨σ.H++[.list ps],σ.V⟩) else none
noncomputable def pList (g:PM (List PV)):PM PV:=seq g mkList
theorem new_list {w:World}{h0:Heap}{α:List Ad}{U:List Addr}{H:List PObj}{h:Heap}{mg mb:Str→Option Value}{vs:List Value}{ps:List PV}(B:Base w h0 mg mb) (W:Wf w h0 α U H h) (V:VRs α U h vs ps):
  Wf w h0 (α++[(h.objs.size,h.objs.size)]) U (H++[.list ps]) (h.push {cls:=.type "list",data:=.seq vs.toArray})∧Step [] [] α h (α++[(h.objs.size,h.objs.size)]) (h.push {cls:=.type "list",data:=.seq vs.toArray})∧
  VR (α++[(h.objs.size,h.objs.size)]) U (h.push {cls:=.type "list",data:=.seq vs.toArray}) (.ref h.objs.size) (.ref H.length):=by
 have hk:∀ a o,h.get? a=some o→(h.push {cls:=.type "list",data:=.seq vs.toArray}).get? a=some o:=fun a o e=>Heap.get?_push_of_some _ e
 have hn:=get_size_none h
 have hl:(h.push {cls:=.type "list",data:=.seq vs.toArray}).get? h.objs.size=some {cls:=.type "list",data:=.seq vs.toArray}:=Heap.get?_push_size _ rfl
 have T0:Step [] [] α h (α++[(h.objs.size,h.objs.size)]) (h.push {cls:=.type "list",data:=.seq vs.toArray}):=
  ⟨⟨[(h.objs.size,h.objs.size)],rfl,fun q hq=>by have hq:=List.mem_singleton.mp hq;subst hq;exact⟨hn,hn⟩⟩,fun a o e _ _ _=>hk a o e,fun a o e _ _=>⟨o,hk a o e,.refl o⟩,fun a o e=>⟨o,hk a o e⟩⟩
 obtain⟨W',T'⟩:=W.new hk hn hn ⟨_,hl⟩ ⟨_,hl⟩ (low3 B W) (o:=.list ps) ⟨rfl,vs,0,hl,V.mono T0 fun _ q=>nomatch q⟩
 refine⟨W',T',.ref (b:=h.objs.size) ?_⟩
 rw[← W.len,List.getElem?_append_right (Nat.le_refl _),Nat.sub_self];rfl
theorem St.ofWf {w:World}{h0:Heap}{mg mb:Str→Option Value}{A:Around}{env:Env}{α α':List Ad}{U:List Addr}{σ:PS}{H':List PObj}{h h':Heap}(C:Cx w h0 mg mb k A sc env U) (S:St w h0 ns env α U σ h) (W':Wf w h0 α' U H' h') (T':Step [] [] α h α' h'):
  St w h0 ns env α' U ⟨H',σ.V⟩ h'∧Step (ownOf env) (frs A) α h α' h':=
 ⟨⟨W',S.fr.mono T' (fun _ q=>nomatch q) fun a ha o e=>T'.only a o e (S.wf.lock a (C.own a ha)).1 (fun q=>nomatch q) fun q=>nomatch q⟩,T'.plain⟩
theorem SE_list {es:List Expr}{pos:Pos}{g:PM (List PV)}(hg:SArgs k sc ns pos es g):SE k sc ns (.List es pos) (pList g):=by
 refine Jd.of fun {w h0 mg mb A env α U s σ p σ'} C S hf Q₀ hQ=>?_
 refine seq_elim hf fun ps σ1 e1 hf=>?_
 unfold mkList at hf
 split at hf
 ·rename_i hn
  revert hQ;refine sp2e (c:=p) (d:=σ') hf fun hQ=>?_
  refine List_ (hg.run C S e1 fun vs s1 α1 V1 S1 T1 R1=>?_)
  have hl:=V1.length
  have sz:sizeLine=16777216:=rfl
  refine wpAny_newList ?_ (by exact Nat.le_trans (Nat.le_of_eq hl) (Nat.le_trans hn (by decide)))
  obtain⟨W',T',V'⟩:=new_list C.base S1.wf V1
  obtain⟨S2,T2⟩:=St.ofWf C S1 W' T'
  exact(hQ _ _ _ V' S2 (T1.trans T2) R1)
 ·exact nn hf
noncomputable def pDict0:PM PV:=fun σ=>some (.ref σ.H.length,⟨σ.H++[.dict [] 0],σ.V⟩)
theorem new_dict {w:World}{h0:Heap}{α:List Ad}{U:List Addr}{H:List PObj}{h:Heap}{mg mb:Str→Option Value}(B:Base w h0 mg mb) (W:Wf w h0 α U H h):
  Wf w h0 (α++[(h.objs.size,h.objs.size)]) U (H++[.dict [] 0]) (h.push {cls:=.type "dict",data:=.dict #[]})∧Step [] [] α h (α++[(h.objs.size,h.objs.size)]) (h.push {cls:=.type "dict",data:=.dict #[]})∧
  VR (α++[(h.objs.size,h.objs.size)]) U (h.push {cls:=.type "dict",data:=.dict #[]}) (.ref h.objs.size) (.ref H.length):=by
 have hk:∀ a o,h.get? a=some o→(h.push {cls:=.type "dict",data:=.dict #[]}).get? a=some o:=fun a o e=>Heap.get?_push_of_some _ e
 have hn:=get_size_none h
 have hl:(h.push {cls:=.type "dict",data:=.dict #[]}).get? h.objs.size=some {cls:=.type "dict",data:=.dict #[]}:=Heap.get?_push_size _ rfl
 obtain⟨W',T'⟩:=W.new (p:=(h.objs.size,h.objs.size)) hk hn hn ⟨_,hl⟩ ⟨_,hl⟩ (low3 B W) (o:=.dict [] 0) ⟨rfl,[],⟨_,#[],hl,⟨rfl,rfl,rfl⟩,rfl,fun e he=>by simp at he,.nil,by decide⟩,rfl,.nil⟩
 refine⟨W',T',.ref (b:=h.objs.size) ?_⟩
 rw[← W.len,List.getElem?_append_right (Nat.le_refl _),Nat.sub_self];rfl
theorem SE_dict0 {pos:Pos}:SE k sc ns (.Dict [] [] pos) pDict0:=by
 refine Jd.of fun {w h0 mg mb A env α U s σ p σ'} C S hf Q₀ hQ=>?_
 revert hQ;refine sp2e (c:=p) (d:=σ') hf fun hQ=>?_
 refine wpAny_Dict_empty ?_
 obtain⟨W',T',V'⟩:=new_dict C.base S.wf
 obtain⟨S2,T2⟩:=St.ofWf C S W' T'
 exact(hQ _ _ _ V' S2 T2 (Rest.refl _))
noncomputable def SAs (k:Nat) (sc:Scope) (ns:List Str) (t:Expr) (g:PV→PM Unit):Prop:=
 ∀(w:World) (h0:Heap) (mg mb:Str→Option Value) (A:Around) (env:Env) (α:List Ad) (U:List Addr) (s:Shared) (σ:PS) (v:Value) (p:PV) (σ':PS),
  Cx w h0 mg mb k A sc env U→St w h0 ns env α U σ s.heap→VR α U s.heap v p→g p σ=some ((),σ')→
  wpAny (model prog w) A (assign t env v) (Post UR w h0 ns A env α U s () σ') bot s
theorem SAs.run {t:Expr}{g:PV→PM Unit}(J:SAs k sc ns t g)
  {w:World}{h0:Heap}{mg mb:Str→Option Value}{A:Around}{env:Env}{α:List Ad}{U:List Addr}{s:Shared}{σ:PS}{v:Value}{p:PV}{σ':PS}(C:Cx w h0 mg mb k A sc env U) (S:St w h0 ns env α U σ s.heap) (V:VR α U s.heap v p)
  (hf:g p σ=some ((),σ')) {Q:Unit→Shared→Prop}{E:Value→Shared→Prop}
  (hQ:∀ s' α',St w h0 ns env α' U σ' s'.heap→Step (ownOf env) (frs A) α s.heap α' s'.heap→Rest s s'→Q () s'):wpAny (model prog w) A (assign t env v) Q E s:=
 wpAny_mono (J w h0 mg mb A env α U s σ v p σ' C S V hf) (fun v s' ⟨α',a,b,c,d⟩=>hQ s' α' b c d) fun _ _ q=>q.elim
theorem SAs_name (i:Nat) {x:Str}{px:Pos}(hx:ns[i]?=some x) (hn:ns.Nodup) (hk:(sc.names.lookup x==some .local || sc.names.lookup x==some .cell)=true):SAs k sc ns (.Name x px) (setV i):=by
 intro w h0 mg mb A env α U s σ v p σ' C S V hf
 obtain⟨-,rfl⟩:=sp2 hf
 exact wpAny_assign_Name (store_name C S hx hn hk V fun h' tk S2 T2=>⟨α,trivial,S2,T2,rfl,rfl,rfl⟩)
noncomputable def setAll:List (PV→PM Unit)→List PV→PM Unit
 | [],[]=>ret ()
 | g::gs,p::ps=>seq (g p) fun _=>setAll gs ps
 | _,_=>fail
noncomputable def tupT (gs:List (PV→PM Unit)) (p:PV):PM Unit:=match p with
 | .tup ps=>setAll gs ps
 | _=>fail
noncomputable def SAsE (k:Nat) (sc:Scope) (ns:List Str) (ts:List Expr) (gs:List (PV→PM Unit)):Prop:=(∀ env,(assignEach ts env).findIdx? (·.1)=none∧(assignEach ts env).length=gs.length)∧
 ∀(w:World) (h0:Heap) (mg mb:Str→Option Value) (A:Around) (env:Env) (α:List Ad) (U:List Addr) (s:Shared) (σ:PS) (vs:List Value) (ps:List PV) (σ':PS),
  Cx w h0 mg mb k A sc env U→St w h0 ns env α U σ s.heap→VRs α U s.heap vs ps→setAll gs ps σ=some ((),σ')→
  wpAny (model prog w) A (assignInOrder ((assignEach ts env).map (·.2)) vs) (Post UR w h0 ns A env α U s () σ') bot s
theorem SAsE_nil:SAsE k sc ns [] []:=by
 refine⟨fun _=>⟨rfl,rfl⟩,?_⟩
 intro w h0 mg mb A env α U s σ vs ps σ' C S V hf
 cases V with
 | nil=>obtain⟨-,rfl⟩:=sp2 hf;exact wpAny_pure (Post.here S trivial)
 | cons=>exact nn hf
theorem SAsE_cons {t:Expr}{ts:List Expr}{g:PV→PM Unit}{gs:List (PV→PM Unit)}(h1:SAs k sc ns t g) (h2:SAsE k sc ns ts gs) (hs:∀ env,assignEach (t::ts) env=(false,assign t env)::assignEach ts env):SAsE k sc ns (t::ts) (g::gs):=by
 refine⟨fun env=>?_,?_⟩
 ·rw[hs env]
  refine⟨?_,by simp[(h2.1 env).2]⟩
  rw[List.findIdx?_cons]
  simp[(h2.1 env).1]
 ·intro w h0 mg mb A env α U s σ vs ps σ' C S V hf
  cases V with
  | nil=>exact nn hf
  | cons V Vs=>
   refine seq_elim hf fun u σ1 e1 hf=>?_
   rw[hs env]
   refine wpAny_assignInOrder_more (h1.run C S V e1 fun s1 α1 S1 T1 R1=>?_)
   refine wpAny_mono (h2.2 w h0 mg mb A env α1 U s1 σ1 _ _ σ' C S1 (Vs.mono T1 C.own) hf) ?_ fun _ _ q=>q
   rintro u s2 ⟨α2,_,S2,T2,R2⟩
   exact⟨α2,trivial,S2,T1.trans T2,R1.trans R2⟩
theorem setAll_len:∀ {gs:List (PV→PM Unit)}{xs:List PV}{σ σ':PS},setAll gs xs σ=some ((),σ')→gs.length=xs.length
 | [],[],_,_,_=>rfl
 | _::_,_::_,_,_,h=>seq_elim h fun _ _ _ h=>congrArg (·+1) (setAll_len h)
 | [],_::_,_,_,h=>nn h
 | _::_,[],_,_,h=>nn h
@[elab_as_elim] theorem tupT_elim {gs:List (PV→PM Unit)}{p:PV}{σ σ':PS}{P:PV→Prop}(hf:tupT gs p σ=some ((),σ')) (k:∀ xs,setAll gs xs σ=some ((),σ')→P (.tup xs)):P p:=by
 cases p with
 | tup xs=>exact k xs hf
 | _=>exact nn hf
theorem SAs_tuple {ts:List Expr}{gs:List (PV→PM Unit)}{x1:Nat}{pos:Pos}(h:SAsE (k+1) sc ns ts gs):SAs (k+1) sc ns (.Tuple ts x1 pos) (tupT gs):=by
 intro w h0 mg mb A env α U s σ v p σ' C S V hf
 revert V
 refine tupT_elim hf fun xs hf V=>VR.tup_elim V fun a vs ht _ _ hvs=>?_
 refine assign_Tuple_tuple (C.a.handled (Nat.succ_pos _)) ht (by rw[(h.1 env).2,List.size_toArray];exact Eq.trans (setAll_len hf) (Eq.symm hvs.length)) (h.1 env).1 fun h' he=>?_
 have X:=St.keeps (A:=A) S (h':=h') fun a o e=>he a o (Nat.ne_of_lt (Heap.lt_size e)) e
 exact wpAny_mono (h.2 w h0 mg mb A env α U {s with heap:=h'} σ vs xs σ' C X.1 (hvs.mono X.2 C.own) hf) (fun u s3 q=>q.elim fun α3 q=>⟨α3,trivial,q.2.1,X.2.trans q.2.2.1,q.2.2.2⟩) fun _ _ q=>q
noncomputable def sSetT (g:PV→PM Unit) (f:PM PV):PM PFlow:=seq f fun p=>seq (g p) fun _=>ret .next
theorem SS_unpack {ts:List Expr}{kk:Nat}{tpos pos:Pos}{value:Expr}{f:PM PV}{g:PV→PM Unit}(hv:SE k sc ns value f) (ht:SAs k sc ns (.Tuple ts kk tpos) g)
  (hs:∀ env:Env,env.scope=sc→swapsWithSole [.Tuple ts kk tpos] value pos.line env=pure false∧swappedStores [.Tuple ts kk tpos] value env=pure none):SS k sc ns (.Assign [.Tuple ts kk tpos] value pos) (sSetT g f):=by
 refine Jd.of fun {w h0 mg mb A env α U s σ p σ'} C S hf Q₀ hQ=>?_
 refine seq_elim hf fun q σ1 e1 hf=>?_
 refine seq_elim hf fun u σ2 e2 hf=>?_
 revert hQ;refine sp2e (c:=p) (d:=σ') hf fun hQ=>?_
 refine Assign_Tuple (hv.run C S e1 fun v s1 α1 V1 S1 T1 R1=>ht.run C S1 V1 e2 fun s2 α2 S2 T2 R2=>(hQ _ _ α2 .next S2 (T1.trans T2) (R1.trans R2))) (hs env C.e.scope).1 (hs env C.e.scope).2
noncomputable def AugOK (op:Operator) (fop:Int→Int→Option Int):Prop:=
 ∀(w:World) (A:Around) (s:Shared) (x y z:Int) (t u:Tok) (Q:Value→Shared→Prop) (E:Value→Shared→Prop),fop x y=some z→Q (.int z s.toks) {s with toks:=s.toks+1}→
  wpAny (model prog w) A (inplaceOp op (.int x t) (.int y u)) Q E s
theorem aok_add:AugOK .Add oAdd:=fun w A s x y z t u Q E e h=>by obtain rfl:=sj e;exact wpAny_iadd_int h
end
end Mine.Internal
namespace Mine.Internal
open PySem PySem.W PyProof.Rows PySem.Calls
structure It where
 xs:List PV
 chk:Nat→List PObj→Prop
 stp:Nat→List PObj→List PObj
noncomputable def It.still (xs:List PV) (chk:List PObj→Prop):It:=⟨xs,fun _=>chk,fun _ H=>H⟩
open Classical in
noncomputable def forL (it:It) (g:PV→PM Unit) (f:PM PFlow):Nat→List PV→PM PFlow
 | i,[]=>fun σ=>if it.chk i σ.H then some (.next,⟨it.stp i σ.H,σ.V⟩) else none
 | i,p::ps=>fun σ=>if it.chk i σ.H then(seq (g p) fun _=>seq f fun x=>match x with
  | .next=>forL it g f (i+1) ps
  | .cont=>forL it g f (i+1) ps
  | .brk=>ret .next
  | .ret q=>ret (.ret q)) ⟨it.stp i σ.H,σ.V⟩ else none
structure Iter (w:World) (h0:Heap) (A:Around) (α0:List Ad) (h1:Heap) (fr U:List Addr) (target:Expr) (I:Addr) (wr:List Addr) (it:It) (T:Nat→Heap→Prop):Prop where
 lockd:∀ b∈wr,b∈U
 frame:∀ i h h',T i h→(∀ b∈wr,∀ o,h.get? b=some o→h'.get? b=some o)→T i h'
 self:∀(α:List Ad) (H:List PObj) (s:Shared) (Q:Value→Shared→Prop) (E:Value→Shared→Prop),Step0 U fr α0 h1 α s.heap→it.chk 0 H→Wf w h0 α U H s.heap→T 0 s.heap→Q (.ref I) s→wpAny (model prog w) A (pyIter (.ref I)) Q E s
 next:∀(i:Nat) (p:PV) (α:List Ad) (H:List PObj) (s:Shared),Step0 U fr α0 h1 α s.heap→it.xs[i]?=some p→it.chk i H→Wf w h0 α U H s.heap→T i s.heap→
  wpAny (model prog w) A (pyNext (.ref I)) (fun r s1=>∃ v,r=some v∧wpAny (model prog w) A (letOwnedTupleGo target (.ref I) v) (fun _ s2=>VR α U s2.heap v p∧T (i+1) s2.heap∧
   Wf w h0 α U (it.stp i H) s2.heap∧Step wr [] α s.heap α s2.heap∧Rest s s2) bot s1) bot s
 done:∀(α:List Ad) (H:List PObj) (s:Shared) (U0:List Addr),Step0 U fr α0 h1 α s.heap→it.chk it.xs.length H→Wf w h0 α U H s.heap→T it.xs.length s.heap→(∀ a∈U0,a∈U∧a ∉ wr)→
  wpAny (model prog w) A (pyNext (.ref I)) (fun r s1=>r=none∧Wf w h0 α U0 (it.stp it.xs.length H) s1.heap∧Step0 wr [] α s.heap α s1.heap∧(∀ b o,b ∉ wr→s.heap.get? b=some o→∃ o',s1.heap.get? b=some o')∧Rest s s1) bot s
theorem still_next {w:World}{h0:Heap}{α:List Ad}{U:List Addr}{H:List PObj}{h h':Heap}{wr:List Addr}(W:Wf w h0 α U H h) (hw:∀ b∈wr,b∈U) (hk:∀ b o,b ∉ wr→h.get? b=some o→h'.get? b=some o) (hl:∀ b∈wr,∃ o,h'.get? b=some o):
  Wf w h0 α U H h'∧Step wr [] α h α h':=by
 have T:Step wr [] α h α h':=by
  refine but_step (fun a o _ hn e=>hk a o hn e) fun a o e=>?_
  by_cases q:a∈wr
  ·exact hl a q
  ·exact⟨o,hk a o q e⟩
 have nw:∀ p∈α,p.1 ∉ wr∧p.2 ∉ wr:=fun p hp=>⟨fun q=>((W.lock _ (hw _ q)).1 p hp).1 rfl,fun q=>((W.lock _ (hw _ q)).1 p hp).2 rfl⟩
 exact⟨W.grow (fr:=[]) hw (fun _ q=>nomatch q) T fun p hp=>⟨fun o e=>hk _ o (nw p hp).1 e,fun o e=>hk _ o (nw p hp).2 e⟩,T⟩
theorem still_done {w:World}{h0:Heap}{α:List Ad}{U U0:List Addr}{H:List PObj}{h h':Heap}{wr:List Addr}(W:Wf w h0 α U H h) (hw:∀ b∈wr,b∈U) (hU0:∀ a∈U0,a∈U∧a ∉ wr) (hk:∀ b o,b ∉ wr→h.get? b=some o→h'.get? b=some o):
  Wf w h0 α U0 H h'∧Step0 wr [] α h α h'∧(∀ b o,b ∉ wr→h.get? b=some o→∃ o',h'.get? b=some o'):=
 ⟨W.leave hU0 hw hk,⟨⟨[],by simp,fun _ q=>nomatch q⟩,fun a o e _ hn _=>hk a o hn e,fun a o e _ hn=>⟨o,hk a o hn e,.refl o⟩⟩,fun b o hb e=>⟨o,hk b o hb e⟩⟩
section
variable {k:Nat}{sc:Scope}{ns:List Str}
theorem FR.relock {env:Env}{α:List Ad}{U U':List Addr}{V:List (Option PV)}{h:Heap}(F:FR ns env α U V h) (hs:∀ a,a∈U'→a∈U∨h.get? a=none):FR ns env α U' V h:=by
 obtain⟨⟨m,hn,hsl⟩,hc⟩:=F
 refine⟨⟨m,hn,fun j x q e1 e2=>?_⟩,hc⟩
 rcases hsl j x q e1 e2 with⟨a,v,b,c⟩ | ⟨a,c,v,b,d,e⟩
 ·exact .inl ⟨a,v,b,c.lock hs⟩
 ·exact .inr ⟨a,c,v,b,d,e.lock hs⟩
@[elab_as_elim] theorem FlR.elim {α:List Ad}{U:List Addr}{h:Heap}{fl:Flow}{x:PFlow}{P:Flow→PFlow→Prop}(V:FlR α U h fl x) (k1:P .next .next) (k2:P .cont .cont) (k3:P .brk .brk) (k4:∀ v p,VR α U h v p→P (.ret v) (.ret p)):P fl x:=by
 cases V
 ·exact k1
 ·exact k3
 ·exact k2
 ·exact k4 _ _ ‹_›
section
variable {w:World}{h0:Heap}{mg mb:Str→Option Value}{A:Around}{env:Env}{α0 α α1 α5:List Ad}{U U0:List Addr}{h1:Heap}{s s1 s3 s5:Shared}{σ σ' σ1:PS}{target:Expr}{I:Addr}{wr fr:List Addr}{it:It}{T:Nat→Heap→Prop}{i n:Nat}{p:PV}{H:List PObj}
theorem Iter.turn (It:Iter w h0 A α0 h1 fr U target I wr it T) (TU:Step0 U fr α0 h1 α s.heap) (hx:it.xs[i]?=some p) (hc:it.chk i H) (W:Wf w h0 α U H s.heap) (hT:T i s.heap) {K:Option Value→Shared→Prop}{E:Value→Shared→Prop}
  (k:∀ v s2,(∀ {K2:Unit→Shared→Prop}{E2:Value→Shared→Prop},(∀ s3,VR α U s3.heap v p→T (i+1) s3.heap→Wf w h0 α U (it.stp i H) s3.heap→Step wr [] α s.heap α s3.heap→Rest s s3→K2 () s3)→wpAny (model prog w) A (letOwnedTupleGo target (.ref I) v) K2 E2 s2)→K (some v) s2):wpAny (model prog w) A (pyNext (.ref I)) K E s:=by
 refine wpAny_mono (It.next i p α H s TU hx hc W hT) ?_ fun _ _ q=>q.elim
 rintro r s2 ⟨v,rfl,hw⟩
 refine k v s2 fun {K2 E2} k2=>wpAny_mono hw ?_ fun _ _ q=>q.elim
 rintro _ s3 ⟨a,b,c,d,e⟩
 exact k2 s3 a b c d e
theorem Iter.fin (It:Iter w h0 A α0 h1 fr U target I wr it T) (TU:Step0 U fr α0 h1 α s.heap) (hc:it.chk it.xs.length H) (W:Wf w h0 α U H s.heap) (hT:T it.xs.length s.heap) (hU0:∀ a∈U0,a∈U∧a ∉ wr) {K:Option Value→Shared→Prop}{E:Value→Shared→Prop}
  (k:∀ s2,Wf w h0 α U0 (it.stp it.xs.length H) s2.heap→Step0 wr [] α s.heap α s2.heap→(∀ b o,b ∉ wr→s.heap.get? b=some o→∃ o',s2.heap.get? b=some o')→Rest s s2→K none s2):wpAny (model prog w) A (pyNext (.ref I)) K E s:=by
 refine wpAny_mono (It.done α H s U0 TU hc W hT hU0) ?_ fun _ _ q=>q.elim
 rintro r s2 ⟨rfl,a,b,c,d⟩
 exact k s2 a b c d
noncomputable def LoopAt (w:World) (h0:Heap) (ns:List Str) (A:Around) (env:Env) (α:List Ad) (U wr:List Addr) (T:Nat→Heap→Prop) (N:Nat) (s:Shared) (run:Nat→PS→Prop) (n:Nat) (s1:Shared):Prop:=
 ∃ i α1 σ1,St w h0 ns env α1 U σ1 s1.heap∧T i s1.heap∧Step (wr++ownOf env) (frs A) α s.heap α1 s1.heap∧Rest s s1∧run i σ1∧i≤N∧n=N+1 - i
theorem LoopAt.elim {N:Nat}{run:Nat→PS→Prop}{P:Prop}(X:LoopAt w h0 ns A env α U wr T N s run n s1) (k:∀ i α1 σ1,St w h0 ns env α1 U σ1 s1.heap→T i s1.heap→Step (wr++ownOf env) (frs A) α s.heap α1 s1.heap→Rest s s1→run i σ1→i≤N→n=N+1 - i→P):P:=by
 obtain⟨i,α1,σ1,a,b,c,d,e,f,g⟩:=X
 exact k i α1 σ1 a b c d e f g
theorem LoopAt.mk {N:Nat}{run:Nat→PS→Prop}(i:Nat) (S:St w h0 ns env α1 U σ1 s1.heap) (hT:T i s1.heap) (T1:Step (wr++ownOf env) (frs A) α s.heap α1 s1.heap) (R:Rest s s1) (hr:run i σ1) (hi:i≤N):LoopAt w h0 ns A env α U wr T N s run (N+1 - i) s1:=⟨i,α1,σ1,S,hT,T1,R,hr,hi,rfl⟩
theorem loop_facts (It:Iter w h0 A α0 h1 fr U target I wr it T) (C:Cx w h0 mg mb k A sc env U) (hU0:∀ a∈U0,a∈U∧a ∉ wr) (hown:∀ a∈ownOf env,a∈U0) (hfr:∀ a∈frs A,a∈U0) (T1:Step (wr++ownOf env) (frs A) α s.heap α1 s1.heap) (W3:Wf w h0 α1 U H s3.heap) (hT3:T (i+1) s3.heap)
  (T3:Step wr [] α1 s1.heap α1 s3.heap) (T5:Step (ownOf env) (frs A) α1 s3.heap α5 s5.heap):T (i+1) s5.heap∧Step (wr++ownOf env) (frs A) α s.heap α5 s5.heap:=
 ⟨It.frame _ _ _ hT3 fun b hb o e=>T5.only b o e (W3.lock b (It.lockd b hb)).1 (fun q=>(hU0 b (hown b q)).2 hb) fun q=>(hU0 b (hfr b q)).2 hb,
  (T1.trans (T3.weaken (fun a ha=>List.mem_append_left _ ha) fun _ q=>nomatch q)).trans (T5.weaken (fun a ha=>List.mem_append_right _ ha) fun _ q=>q)⟩
theorem loop_st (It:Iter w h0 A α0 h1 fr U target I wr it T) (C:Cx w h0 mg mb k A sc env U) (hU0:∀ a∈U0,a∈U∧a ∉ wr) (hown:∀ a∈ownOf env,a∈U0) (S1:St w h0 ns env α1 U σ1 s1.heap) (W3:Wf w h0 α1 U H s3.heap) (T3:Step wr [] α1 s1.heap α1 s3.heap):St w h0 ns env α1 U ⟨H,σ1.V⟩ s3.heap:=
 ⟨W3,S1.fr.over T3 It.lockd (fun a ha=>(S1.wf.lock a (C.own a ha)).1) fun a ha q=>(hU0 a (hown a ha)).2 q⟩
theorem loop_end (It:Iter w h0 A α0 h1 fr U target I wr it T) (C:Cx w h0 mg mb k A sc env U) (hU0:∀ a∈U0,a∈U∧a ∉ wr) (hown:∀ a∈ownOf env,a∈U0) (S1:St w h0 ns env α1 U σ1 s1.heap) (T1:Step (wr++ownOf env) (frs A) α s.heap α1 s1.heap) (W2:Wf w h0 α1 U0 H s3.heap) (T2:Step0 wr [] α1 s1.heap α1 s3.heap)
  (al:∀ b o,b ∉ wr→s1.heap.get? b=some o→∃ o',s3.heap.get? b=some o'):St w h0 ns env α1 U0 ⟨H,σ1.V⟩ s3.heap∧Step0 (wr++ownOf env) (frs A) α s.heap α1 s3.heap∧∀ b o,b ∉ wr→s.heap.get? b=some o→∃ o',s3.heap.get? b=some o':=by
 refine⟨⟨W2,(S1.fr.mono0 T2 It.lockd fun a ha o e=>T2.data a o e (S1.wf.lock a (C.own a ha)).1 (hU0 a (hown a ha)).2).relock fun a ha=>.inl (hU0 a ha).1⟩,⟨T1.ext,fun a o e x y z=>T2.only a o (T1.only a o e x y z) (T1.awayNew e x) (fun q=>y (List.mem_append_left _ q)) (fun q=>nomatch q),fun a o e x y=>?_⟩,fun b o hb e=>?_⟩
 ·obtain⟨o1,e1,l1⟩:=T1.data a o e x y
  obtain⟨o2,e2,l2⟩:=T2.data a o1 e1 (T1.awayNew e x) fun q=>y (List.mem_append_left _ q)
  exact⟨o2,e2,l1.trans l2⟩
 ·obtain⟨o',e'⟩:=T1.alive b o e
  exact al b o' hb e'
theorem forL_elim {g:PV→PM Unit}{f:PM PFlow}{fl:PFlow}{P:Prop}(hi:i<it.xs.length) (h:forL it g f i (it.xs.drop i) σ=some (fl,σ')) (k:it.chk i σ.H→∀ σ2 x σ3,g it.xs[i] ⟨it.stp i σ.H,σ.V⟩=some ((),σ2)→f σ2=some (x,σ3)→(match x with
  | .next=>forL it g f (i+1) (it.xs.drop (i+1)) | .cont=>forL it g f (i+1) (it.xs.drop (i+1)) | .brk=>ret .next | .ret q=>ret (.ret q)) σ3=some (fl,σ')→P):P:=by
 rw[List.drop_eq_getElem_cons hi] at h
 unfold forL at h
 split at h
 ·exact seq_elim h fun _ σ2 e2 h=>seq_elim h fun x σ3 e3 h=>k ‹_› σ2 x σ3 e2 e3 h
 ·exact nn h
theorem forL_end {g:PV→PM Unit}{f:PM PFlow}{fl:PFlow}{P:Prop}(hi:i=it.xs.length) (h:forL it g f i (it.xs.drop i) σ=some (fl,σ')) (k:it.chk it.xs.length σ.H→fl=.next→σ'=⟨it.stp it.xs.length σ.H,σ.V⟩→P):P:=by
 subst hi
 rw[List.drop_length] at h
 unfold forL at h
 split at h
 ·obtain⟨rfl,rfl⟩:=sp2 h;exact k ‹_› rfl rfl
 ·exact nn h
end
theorem for_loop {w:World}{h0:Heap}{mg mb:Str→Option Value}{A:Around}{env:Env}{α:List Ad}{U U0:List Addr}{s:Shared}{σ σ':PS}{target:Expr}{body:List Stmt}{I:Addr}{wr:List Addr}{it:It}{T:Nat→Heap→Prop}{g:PV→PM Unit}{f:PM PFlow}{p:PFlow}{R:Result→Shared→Prop}
  (It:Iter w h0 A α s.heap (frs A) U target I wr it T) (C:Cx w h0 mg mb k A sc env U) (hU0:∀ a∈U0,a∈U∧a ∉ wr) (hown:∀ a∈ownOf env,a∈U0) (hfr:∀ a∈frs A,a∈U0) (hT:SAs k sc ns target g) (hB:SB k sc ns body f) (S:St w h0 ns env α U σ s.heap) (h0T:T 0 s.heap) (hf:forL it g f 0 it.xs σ=some (p,σ'))
  (hR:∀ fl s' α',FlR α' U0 s'.heap fl p→St w h0 ns env α' U0 σ' s'.heap→Step0 (wr++ownOf env) (frs A) α s.heap α' s'.heap→(∀ b o,b ∉ wr→s.heap.get? b=some o→∃ o',s'.heap.get? b=some o')→Rest s s'→R (.ok fl) s'):
  codeAny (model prog w) A (.forLoop target (.ref I) body [] env) R s:=by
 refine codeAny_forLoop_any (LoopAt w h0 ns A env α U wr T it.xs.length s fun i σ1=>forL it g f i (it.xs.drop i) σ1=some (p,σ')) ?_ (it.xs.length+1) (LoopAt.mk 0 S h0T (Step.refl ..) (Rest.refl _) hf (Nat.zero_le _))
 refine fun n s1 X=>X.elim fun i α1 σ1 S1 hT1 T1 R1 hf1 hi hn=>?_
 have TU:=(T1.weaken (fun b hb=>(List.mem_append.mp hb).elim (It.lockd b) (C.own b)) fun _ q=>q).toStep0
 rcases Nat.lt_or_ge i it.xs.length with hlt | hge
 ·refine forL_elim hlt hf1 fun hchk σ2 fl σ3 e2 e3 hf3=>It.turn TU (List.getElem?_eq_getElem hlt) hchk S1.wf hT1 fun v s2 own=>own fun s3 V3 hT3 W3 T3 R3=>?_
  refine hT.run C (loop_st It C hU0 hown S1 W3 T3) V3 e2 fun s4 α4 S4 T4 R4=>hB.run C S4 e3 fun fl' s5 α5 V5 S5 T5 R5=>?_
  have Y:=loop_facts It C hU0 hown hfr T1 W3 hT3 T3 (T4.trans T5)
  have R05:Rest s s5:=R1.trans (R3.trans (R4.trans R5))
  have wf0:St w h0 ns env α5 U0 σ3 s5.heap:=⟨S5.wf.relock fun a ha=>(hU0 a ha).1,S5.fr.relock fun a ha=>.inl (hU0 a ha).1⟩
  have hm:it.xs.length+1 - (i+1)<n:=by lia
  revert hf3
  refine FlR.elim V5 (fun hf3=>?_) (fun hf3=>?_) (fun hf3=>?_) fun v q V hf3=>?_
  ·exact⟨_,hm,LoopAt.mk (i+1) S5 Y.1 Y.2 R05 hf3 hlt⟩
  ·exact⟨_,hm,LoopAt.mk (i+1) S5 Y.1 Y.2 R05 hf3 hlt⟩
  ·obtain⟨rfl,rfl⟩:=sp2 hf3;exact hR _ _ _ .next wf0 Y.2.toStep0 (fun b o _ e=>Y.2.alive b o e) R05
  ·obtain⟨rfl,rfl⟩:=sp2 hf3;exact hR _ _ _ (.ret (V.lock fun a ha=>.inl (hU0 a ha).1)) wf0 Y.2.toStep0 (fun b o _ e=>Y.2.alive b o e) R05
 ·refine forL_end (Nat.le_antisymm hi hge) hf1 fun hchk e1 e2=>It.fin TU hchk S1.wf (Nat.le_antisymm hi hge▸hT1) hU0 fun s2 W2 T2 al2 R2=>wpAny_execs_nil ?_
  have Z:=loop_end It C hU0 hown S1 T1 W2 T2 al2
  exact hR _ _ α1 (e1▸.next) (e2▸Z.1) Z.2.1 Z.2.2 (R1.trans R2)
noncomputable def ItPost (w:World) (h0:Heap) (ns:List Str) (A:Around) (env:Env) (α:List Ad) (U:List Addr) (s:Shared) (target:Expr) (it:It) (σ':PS):Value→Shared→Prop:=fun r s2=>∃ I wr α1 T,r=.ref I∧St w h0 ns env α1 (wr++U) σ' s2.heap∧Step (ownOf env) (frs A) α s.heap α1 s2.heap∧Rest s s2∧
   (∀ b∈wr,s.heap.get? b=none)∧T 0 s2.heap∧∀ U',(∀ a∈wr++U,a∈U')→(∀ a∈U',a∈wr++U∨s2.heap.get? a=none)→∀ h3,(∀ a o,s2.heap.get? a=some o→h3.get? a=some o)→Iter w h0 A α1 h3 (frs A) U' target I wr it T
noncomputable def SIter (k:Nat) (sc:Scope) (ns:List Str) (e target:Expr) (fi:PM It):Prop:=
 ∀(w:World) (h0:Heap) (mg mb:Str→Option Value) (A:Around) (env:Env) (α:List Ad) (U:List Addr) (s:Shared) (σ:PS) (it:It) (σ':PS),
  Cx w h0 mg mb k A sc env U→St w h0 ns env α U σ s.heap→fi σ=some (it,σ')→
  wpAny (model prog w) A (eval e env) (fun v s1=>wpAny (model prog w) A (pyIter v) (ItPost w h0 ns A env α U s target it σ') bot s1) bot s
theorem SIter.of {e target:Expr}{fi:PM It}(h:∀ {w:World}{h0:Heap}{mg mb:Str→Option Value}{A:Around}{env:Env}{α:List Ad}{U:List Addr}{s:Shared}{σ:PS}{it:It}{σ':PS},Cx w h0 mg mb k A sc env U→St w h0 ns env α U σ s.heap→fi σ=some (it,σ')→∀ Q:Value→Shared→Prop,
  (∀ r s2,ItPost w h0 ns A env α U s target it σ' r s2→Q r s2)→wpAny (model prog w) A (eval e env) (fun v s1=>wpAny (model prog w) A (pyIter v) Q bot s1) bot s):SIter k sc ns e target fi:=
 fun w h0 mg mb A env α U s σ it σ' C S hf=>h C S hf _ fun _ _ x=>x
noncomputable def sFor (fi:PM It) (g:PV→PM Unit) (f:PM PFlow):PM PFlow:=seq fi fun it=>forL it g f 0 it.xs
theorem step_close {own own' fr wr:List Addr}{α α1 α':List Ad}{h h2 h':Heap}(T:Step own fr α h α1 h2) (T':Step0 own' fr α1 h2 α' h') (al:∀ b o,b ∉ wr→h2.get? b=some o→∃ o',h'.get? b=some o') (hw:∀ b∈wr,h.get? b=none) (ho:∀ b∈own',b∈own∨h.get? b=none):Step own fr α h α' h':=by
 have hn:∀ {a o},h.get? a=some o→a ∉ own→a ∉ own':=fun e y q=>(ho _ q).elim y (no2 e)
 refine⟨?_,fun a o e x y z=>T'.only a o (T.only a o e x y z) (T.awayNew e x) (hn e y) z,fun a o e x y=>?_,fun a o e=>(T.alive a o e).elim fun o' e'=>al a o' (fun q=>no2 e (hw a q)) e'⟩
 ·refine gv fun _ gk=>?_
  obtain⟨β,rfl,hb⟩:=T.ext
  obtain⟨γ,hg,hc⟩:=T'.ext
  refine gk ?_
  have no:∀ a,h2.get? a=none→h.get? a=none:=fun a e=>by
   cases q:h.get? a with
   | none=>rfl
   | some o=>obtain⟨o',e'⟩:=T.alive a o q;exact(no2 e' e).elim
  exact⟨β++γ,by rw[hg,List.append_assoc],fun p hp=>(List.mem_append.mp hp).elim (hb p) fun q=>⟨no _ (hc p q).1,no _ (hc p q).2⟩⟩
 ·refine gv fun _ gk=>?_
  obtain⟨o1,e1,l1⟩:=T.data a o e x y
  obtain⟨o2,e2,l2⟩:=T'.data a o1 e1 (T.awayNew e x) (hn e y)
  refine gk ?_
  exact⟨o2,e2,l1.trans l2⟩
@[elab_as_elim] theorem ItPost.elim {w:World}{h0:Heap}{A:Around}{env:Env}{α:List Ad}{U:List Addr}{s:Shared}{target:Expr}{it:It}{σ':PS}{P:Value→Prop}{r:Value}{s2:Shared}(h:ItPost w h0 ns A env α U s target it σ' r s2)
  (k:∀ I wr α1 T,St w h0 ns env α1 (wr++U) σ' s2.heap→Step (ownOf env) (frs A) α s.heap α1 s2.heap→Rest s s2→(∀ b∈wr,s.heap.get? b=none)→T 0 s2.heap→(∀ U',(∀ a∈wr++U,a∈U')→(∀ a∈U',a∈wr++U∨s2.heap.get? a=none)→∀ h3,(∀ a o,s2.heap.get? a=some o→h3.get? a=some o)→Iter w h0 A α1 h3 (frs A) U' target I wr it T)→P (.ref I)):P r:=
 Exists.elim h fun I h=>h.elim fun wr h=>h.elim fun α1 h=>h.elim fun T h=>h.1▸k I wr α1 T h.2.1 h.2.2.1 h.2.2.2.1 h.2.2.2.2.1 h.2.2.2.2.2.1 h.2.2.2.2.2.2
theorem SS_for {target iter:Expr}{body:List Stmt}{pos:Pos}{fi:PM It}{g:PV→PM Unit}{f:PM PFlow}(hi:SIter k sc ns iter target fi) (hT:SAs k sc ns target g) (hB:SB k sc ns body f)
  (hs:∀(env:Env) x,foldedSetIterable iter env x=pure x):SS k sc ns (.For target iter body [] pos) (sFor fi g f):=by
 refine Jd.of fun {w h0 mg mb A env α U s σ p σ'} C S hf Q₀ hQ=>?_
 refine seq_elim hf fun it σ1 e1 hf=>?_
 refine wpAny_For (wpAny_mono (hi w h0 mg mb A env α U s σ it σ1 C S e1) (fun v s1 h1=>wpAny_mono h1 ?_ fun _ _ q=>q.elim) fun _ _ q=>q.elim) (hs env)
 refine fun r s2 h=>ItPost.elim h fun I wr α1 T S2 T2 R2 hn hT0 hI=>?_
 have C2:Cx w h0 mg mb k A sc env (wr++U):=⟨C.base,C.a.more fun _ h=>List.mem_append_right _ h,C.e,fun a ha=>List.mem_append_right _ (C.own a ha),C.fr⟩
 have hU0:∀ a∈U,a∈wr++U∧a ∉ wr:=fun a ha=>⟨List.mem_append_right _ ha,fun q=>(S.wf.lock a ha).2.2.elim fun o e=>no2 e (hn a q)⟩
 refine for_loop (U0:=U) (hI (wr++U) (fun _ h=>h) (fun _ h=>.inl h) _ fun _ _ e=>e) C2 hU0 C.own C.a.frs hT hB S2 hT0 hf fun fl s' α' F' S' T' al R'=>?_
 exact hQ _ _ α' F' S' (step_close T2 T' al hn fun a q=>(List.mem_append.mp q).symm.imp id (hn a)) (R2.trans R')
theorem iter_new {w:World}{h0:Heap}{mg mb:Str→Option Value}{A:Around}{env:Env}{α α1:List Ad}{U:List Addr}{s s1 s2:Shared}{σ1:PS}{target:Expr}{I:Addr}{wr:List Addr}{it:It}{T:Nat→Heap→Prop}
  (C:Cx w h0 mg mb k A sc env U) (S1:St w h0 ns env α1 U σ1 s1.heap) (T1:Step (ownOf env) (frs A) α s.heap α1 s1.heap) (R1:Rest s s1) (hk:∀ a o,s1.heap.get? a=some o→s2.heap.get? a=some o) (hR2:Rest s1 s2) (hnew:∀ b∈wr,s1.heap.get? b=none) (hlive:∀ b∈wr,∃ o,s2.heap.get? b=some o)
  (h0T:T 0 s2.heap) (hI:∀ U',(∀ a∈wr++U,a∈U')→(∀ a∈U',a∈wr++U∨s2.heap.get? a=none)→∀ h3,(∀ a o,s2.heap.get? a=some o→h3.get? a=some o)→Iter w h0 A α1 h3 (frs A) U' target I wr it T):
  ItPost w h0 ns A env α U s target it σ1 (.ref I) s2:=by
 have lk:∀ a∈wr++U,a∈U∨s1.heap.get? a=none:=fun a ha=>(List.mem_append.mp ha).symm.imp id (hnew a)
 have lv:∀ a∈wr++U,∃ o,s2.heap.get? a=some o:=fun a ha=>by
  rcases List.mem_append.mp ha with q | q
  ·exact hlive a q
  ·obtain⟨o,e⟩:=(S1.wf.lock a q).2.2;exact⟨o,hk _ _ e⟩
 have T02:Step [] [] α1 s1.heap α1 s2.heap:=keep_step hk
 refine⟨I,wr,α1,T,rfl,⟨S1.wf.enter hk lk lv,(S1.fr.relock lk).mono T02 (fun _ q=>nomatch q) fun a _ o e=>hk a o e⟩,T1.trans T02.plain,R1.trans hR2,fun b hb=>?_,h0T,hI⟩
 cases q:s.heap.get? b with
 | none=>rfl
 | some o=>obtain⟨o',e'⟩:=T1.alive b o q;exact(no2 e' (hnew b hb)).elim
noncomputable def GoOK (target:Expr):Prop:=∀(w:World) (A:Around) (s:Shared) (Q:Unit→Shared→Prop) (E:Value→Shared→Prop) (I:Addr) (v:Value) (T:String),s.TypeIs (.ref I) T→(["enumerate","zip","dict_itemiterator","dict_reverseitemiterator","odict_iterator","itertools.zip_longest","itertools.pairwise"].contains T)=false→Q () s→
 wpAny (model prog w) A (letOwnedTupleGo target (.ref I) v) Q E s
theorem go_name {x:Str}{px:Pos}:GoOK (.Name x px):=fun w A s Q E I v T _ _ h=>wpAny_pure h
theorem go_tuple {es:List Expr}{kk:Nat}{px:Pos}:GoOK (.Tuple es kk px):=fun w A s Q E I v T hT hn h=>by
 skip
 cases v with
 | ref a=>
  obtain⟨o,ho,hc⟩:=hT
  refine wpAny_bind (wpAny_load ho ?_)
  rw[hc]
  cases hd:o.data with
  | fields vs=>
   simp only
   rw[hn]
   skip
   exact wpAny_pure h
  | _=>exact wpAny_pure h
 | _=>exact wpAny_pure h
theorem next_one {w:World}{h0:Heap}{α:List Ad}{U:List Addr}{H:List PObj}{h h':Heap}{I:Addr}(W:Wf w h0 α U H h) (hI:I∈U) (hs:Heap.SameBut I h h') (hl:∃ o,h'.get? I=some o):Wf w h0 α U H h'∧Step [I] [] α h α h':=
 still_next (wr:=[I]) W (fun b hb=>by have hb:=List.mem_singleton.mp hb;rw[hb];exact hI) (fun b o hb e=>hs.extBut b o (fun q=>hb (by simp[q])) e) fun b hb=>by have hb:=List.mem_singleton.mp hb;rw[hb];exact hl
theorem done_one {w:World}{h0:Heap}{α:List Ad}{U U0:List Addr}{H:List PObj}{h h':Heap}{I:Addr}(W:Wf w h0 α U H h) (hI:I∈U) (hU0:∀ a∈U0,a∈U∧a ∉ [I]) (he:Heap.ExtBut I h h'):Wf w h0 α U0 H h'∧Step0 [I] [] α h α h'∧(∀ b o,b ∉ [I]→h.get? b=some o→∃ o',h'.get? b=some o'):=
 still_done (wr:=[I]) W (fun b hb=>by have hb:=List.mem_singleton.mp hb;rw[hb];exact hI) hU0 fun b o hb e=>he b o (fun q=>hb (by simp[q])) e
theorem one_in {I:Addr}{U:List Addr}(hI:I∈U):∀ b∈[I],b∈U:=fun b hb=>by have hb:=List.mem_singleton.mp hb;subst hb;exact hI
theorem iter_list {w:World}{h0:Heap}{A:Around}{α0:List Ad}{h1:Heap}{fr U:List Addr}{target:Expr}{I a b:Addr}{l:Nat}{xs:List PV}(hh:A.handled=none) (hI:I∈U) (hal:α0[l]?=some (a,b)) (ht:GoOK target):
  Iter w h0 A α0 h1 fr U target I [I] (.still xs fun H=>H[l]?=some (.list xs)) (fun i h=>h.IsListIter I a i) where
 lockd:=fun b hb=>by have hb:=List.mem_singleton.mp hb;rw[hb];exact hI
 frame:=fun i h h' hi hk=>let⟨o,ho,r⟩:=hi;⟨o,hk I (.head _) o ho,r⟩
 self:=fun α H s Q E hα hc W hi hQ=>wpAny_pyIter_listiter hi hQ
 next:=fun i p α H s hα hx hc W hi=>hide fun G hG=>by
  obtain⟨_,vs,n,hl,hvs⟩:=list_at W hc (hα.index hal)
  obtain⟨v,e1,V⟩:=hvs.get hx
  refine hG (wpAny_pyNext_list_item hi (IsL.isList hl) (by simpa using e1) fun h' hi' hs'=>⟨v,rfl,ht _ _ _ _ _ _ _ "list_iterator" (Heap.IsListIter.typeIs (s:={s with heap:=h'}) hi') (by decide) ?_⟩)
  have X:=next_one (h':=h') W hI hs' (hi'.elim fun o ho=>⟨o,ho.1⟩)
  exact⟨V.mono X.2 (one_in hI),hi',X.1,X.2,rfl,rfl,rfl⟩
 done:=fun α H s U0 hα hc W hi hU0=>hide fun G hG=>by
  obtain⟨_,vs,n,hl,hvs⟩:=list_at W hc (hα.index hal)
  refine hG (wpAny_pyNext_list_end hh hi (IsL.isList hl) (by have:=hvs.length;simp[It.still,this]) fun h' he=>?_)
  have X:=done_one (h':=h') W hI hU0 he
  exact⟨rfl,X.1,X.2.1,X.2.2,rfl,rfl,rfl⟩
theorem tup_inv {α:List Ad}{U:List Addr}{h:Heap}{v:Value}{xs:List PV}(V:VR α U h v (.tup xs)):∃ a vs,v=.ref a∧IsTup h a (List.toArray vs)∧VRs α U h vs xs:=by cases V;exact⟨_,_,rfl,‹_›,‹_›⟩
theorem iter_tuple' {w:World}{h0:Heap}{A:Around}{α0:List Ad}{h1:Heap}{fr U:List Addr}{target:Expr}{I t:Addr}{xs:List PV}(hh:A.handled=none) (hI:I∈U) (ht:VR α0 U h1 (.ref t) (.tup xs)) (hg:GoOK target):
  Iter w h0 A α0 h1 fr U target I [I] (.still xs fun _=>True) (fun i h=>IsTupIter h I t i) where
 lockd:=fun b hb=>by have hb:=List.mem_singleton.mp hb;rw[hb];exact hI
 frame:=fun i h h' hi hk=>let⟨o,ho,r⟩:=hi;⟨o,hk I (.head _) o ho,r⟩
 self:=fun α H s Q E hα hc W hi hQ=>wpAny_pyIter_tupleiter hi hQ
 next:=fun i p α H s hα hx hc W hi=>by
  refine gv fun _ gk=>?_
  obtain⟨a,vs,e,ht2,hvs⟩:=tup_inv (ht.mono0 hα fun _ h=>h)
  refine gk ?_
  cases e
  refine gv fun _ gk=>?_
  obtain⟨v,e1,V⟩:=hvs.get hx
  refine gk ?_
  refine next_tuple_item hi ht2 (by simpa using e1) fun h' hi' hs'=>⟨v,rfl,hg _ _ _ _ _ _ _ "tuple_iterator" (let⟨o,ho,hc,_⟩:=hi';⟨o,ho,hc⟩) (by decide) ?_⟩
  have X:=next_one (h':=h') W hI hs' (hi'.elim fun o ho=>⟨o,ho.1⟩)
  exact⟨V.mono X.2 (one_in hI),hi',X.1,X.2,rfl,rfl,rfl⟩
 done:=fun α H s U0 hα hc W hi hU0=>by
  refine gv fun _ gk=>?_
  obtain⟨a,vs,e,ht2,hvs⟩:=tup_inv (ht.mono0 hα fun _ h=>h)
  refine gk ?_
  cases e
  refine next_tuple_end hh hi ht2 (by have:=hvs.length;simp[It.still,this]) fun h' he=>?_
  have X:=done_one (h':=h') W hI hU0 he
  exact⟨rfl,X.1,X.2.1,X.2.2,rfl,rfl,rfl⟩
theorem key_int {w:World}{α:List Ad}{U:List Addr}{h:Heap}{k:Int}{key:Value}(hk:(intKind prog w).is k key=true):VR α U h key (.int k):=by
 cases key with
 | int n t=>
  have:n=k:=by simpa[intKind,Value.isInt] using hk
  exact this▸.int ..
 | _=>exact ff hk
theorem iter_keys {w:World}{h0:Heap}{A:Around}{α0:List Ad}{h1:Heap}{fr U:List Addr}{target:Expr}{I a b:Addr}{l:Nat}{es:List (Int × PV)}{ep:Nat}(hh:A.handled=none) (hI:I∈U) (hal:α0[l]?=some (a,b)) (ht:GoOK target):
  Iter w h0 A α0 h1 fr U target I [I] (.still (es.map fun e=>.int e.1) fun H=>H[l]?=some (.dict es ep)) (fun i h=>h.IsKeyIter I a i es.length ep) where
 lockd:=fun b hb=>by have hb:=List.mem_singleton.mp hb;rw[hb];exact hI
 frame:=fun i h h' hi hk=>let⟨o,ho,r⟩:=hi;⟨o,hk I (.head _) o ho,r⟩
 self:=fun α H s Q E hα hc W hi hQ=>wpAny_pyIter_keyiter hi hQ
 next:=fun i p α H s hα hx hc W hi=>hide fun G hG=>by
  obtain⟨_,kvs,hd,hkv⟩:=W.or_at (hα.index hal) hc
  have hlen:=KVs.length hkv
  have hx':es[i]?.map (fun e=>PV.int e.1)=some p:=by simpa[It.still] using hx
  obtain⟨e,he,hp⟩:=Option.map_eq_some_iff.mp hx'
  have hkk:kvs[i]?.map (·.1)=some e.1:=by
   have:=congrArg (fun l=>l[i]?) hkv.1
   simp only[List.getElem?_map,he] at this
   exact this
  obtain⟨kv,hkv1,hkv2⟩:=Option.map_eq_some_iff.mp hkk
  refine hG (wpAny_pyNext_dict_item (k:=kv.1) (v:=kv.2) (by rw[hlen];exact hi) hd hkv1 fun key h' hkey hi' hs'=>⟨key,rfl,ht _ _ _ _ _ _ _ "dict_keyiterator" (Heap.IsKeyIter.typeIs (s:={s with heap:=h'}) hi') (by decide) ?_⟩)
  have X:=next_one (h':=h') W hI hs' (hi'.elim fun o ho=>⟨o,ho.1⟩)
  exact⟨by rw[← hp,← hkv2];exact key_int hkey,by rw[hlen] at hi';exact hi',X.1,X.2,rfl,rfl,rfl⟩
 done:=fun α H s U0 hα hc W hi hU0=>hide fun G hG=>by
  obtain⟨_,kvs,hd,hkv⟩:=W.or_at (hα.index hal) hc
  have hlen:=KVs.length hkv
  have hi2:s.heap.IsKeyIter I a es.length es.length ep:=by simpa[It.still] using hi
  refine hG (wpAny_pyNext_dict_end hh (by rw[hlen];exact hi2) hd (by simp[hlen]) fun h' he=>?_)
  have X:=done_one (h':=h') W hI hU0 he
  exact⟨rfl,X.1,X.2.1,X.2.2,rfl,rfl,rfl⟩
theorem lnext_end {w:World}{A:Around}{s:Shared}{it l:Addr}{i:Nat}{items:Array Value}{Q:Fin→Shared→Prop}{E:Value→Shared→Prop}(hh:A.handled=none) (hit:s.heap.IsListIter it l i) (hl:s.heap.IsList l items) (hx:items[i]?=none)
  (hE:∀ h' e tt,Heap.ExtBut it s.heap h'→(∃ o,h'.get? it=some o)→s.heap.get? e=none→h'.get? e=some {cls:=.type "StopIteration",data:=.fields #[tt,.none,.none,.none,.bool false,.none]}→E (.ref e) {s with heap:=h'}):
  wpAny (model prog w) A (Builtin.«list_iterator.__next__» ⟨[.ref it],[]⟩) Q E s:=by
 refine gv fun _ gk=>?_
 obtain⟨o,ho,hc,hd⟩:=id hit
 obtain⟨ol,hol,_,nl,hdl⟩:=hl
 refine gk ?_
 refine(?_:wpAny _ _ (field (.ref it) 0>>=_) _ _ s)
 refine wpAny_bind (wpAny_field ho hd (x:=.ref l) rfl ?_)
 refine(?_:wpAny _ _ (if(Value.ref l==Value.none)=true then _ else _) _ _ s)
 rw[if_neg (show ¬ ((Value.ref l==Value.none)=true) from Bool.false_ne_true)]
 refine wpAny_bind (wpAny_field ho hd (x:=.int i 0) rfl ?_)
 refine wpAny_bind (wpAny_seqItems hol hdl ?_)
 simp only[Int.toNat_natCast,hx]
 refine wpAny_bind (wpAny_rule (wpAny_bind (wpAny_setField ho hd (by exact nle rfl) ?_)))
 refine(?_:wpAny _ _ (newExc (.type "StopIteration") []>>=_) _ _ _)
 refine wpAny_bind ?_
 skip
 refine wpAny_bind (wpAny_newObj_type ?_ (by size_fits))
 refine wpAny_bind (m:=firstArgMember _ _) (wpAny_of_eq (a:=Value.none) (by first | rfl | (skip;rfl)) ?_)
 refine wpAny_newObj_type ?_ (by size_fits)
 skip
 refine wpAny_bind (wpAny_handled ?_)
 rw[hh]
 refine wpAny_bind (wpAny_pure (wpAny_throw ?_))
 refine hE _ _ _ (((Heap.SameBut.update ..).extBut.push _).push _) ⟨_,Heap.get?_push_of_some _ (Heap.get?_push_of_some _ (Heap.get?_update_self _ ho (Obj.isFreed_of_fields (Obj.data_mapFields hd _))))⟩ ?_ (Heap.get?_push_size _ rfl)
 refine Heap.get?_none_of_le ?_
 rw[Heap.size_push]
 have:(s.heap.update it (Obj.mapFields (·.setIfInBounds 0 .none))).objs.size=s.heap.objs.size:=Heap.size_after_update ..
 lia
theorem pyNext_end {w:World}{A:Around}{s:Shared}{it l:Addr}{i:Nat}{items:Array Value}{Q:Option Value→Shared→Prop}{E:Value→Shared→Prop}(hh:A.handled=none) (hit:s.heap.IsListIter it l i) (hl:s.heap.IsList l items) (hx:items[i]?=none)
  (hQ:∀ h',Heap.ExtBut it s.heap h'→(∃ o,h'.get? it=some o)→Q none {s with heap:=h'}):wpAny (model prog w) A (pyNext (.ref it)) Q E s:=by
 skip
 refine wpAny_bind (wpAny_attempt (wpAny_callSpecial?_slot (name:=Str.ofString "__next__") hit.typeIs slot_listiter_next (wpAny_call_entry slot_listiter_next hit.typeIs entry_listiter_next ?_ (args_listiter_next _))))
 refine lnext_end hh hit hl hx fun h' e tt h1 h2 _ h3=>?_
 refine wpAny_bind (wpAny_isInstance (T:="StopIteration") (b:=true) ⟨_,h3,rfl⟩ isSubtype_stop ?_)
 exact wpAny_pure (hQ h' h1 h2)
theorem liter_at {w:World}{h0:Heap}{α:List Ad}{U:List Addr}{H:List PObj}{h:Heap}{t l kx:Nat}{I:Addr}{L:Ad}(W:Wf w h0 α U H h) (hi:α[t]?=some (I,I)) (hl:α[l]?=some L) (e:H[t]?=some (.liter (.ref l) kx)):h.IsListIter I L.1 kx:=by
 refine gv fun _ gk=>?_
 obtain⟨_,⟨i2,q2,e2,e3,hit⟩,_⟩:=W.or_at hi e
 refine gk ?_
 cases e2
 rw[hl] at e3;obtain rfl:=sj e3
 exact hit
theorem iter_liter {w:World}{h0:Heap}{A:Around}{α0:List Ad}{h1:Heap}{fr U:List Addr}{target:Expr}{I:Addr}{L:Ad}{t l k0:Nat}{xs:List PV}(hh:A.handled=none) (hat:α0[t]?=some (I,I)) (hal:α0[l]?=some L) (hlt:l≠t) (hg:GoOK target):
  Iter w h0 A α0 h1 fr U target I [] ⟨xs.drop k0,fun i H=>H[l]?=some (.list xs)∧H[t]?=some (.liter (.ref l) (k0+i)),fun i H=>if i<(xs.drop k0).length then H.set t (.liter (.ref l) (k0+i+1)) else H.set t .dead⟩ (fun _ _=>True) where
 lockd:=fun b hb=>nomatch hb
 frame:=fun i h h' hi hk=>trivial
 self:=fun α H s Q E hα hc W hi hQ=>wpAny_pyIter_listiter (liter_at W (hα.index hat) (hα.index hal) hc.2) hQ
 next:=fun i p α H s hα hx hc W hi=>hide fun G hG=>by
  have hit:=liter_at W (hα.index hat) (hα.index hal) hc.2
  obtain⟨_,vs,n,hl,hvs⟩:=list_at W hc.1 (hα.index hal)
  have hx':(xs.drop k0)[i]?=some p:=hx
  have hlt':=(List.getElem?_eq_some_iff.mp hx').1
  rw[List.getElem?_drop] at hx'
  obtain⟨v,e4,V⟩:=hvs.get hx'
  refine hG (wpAny_pyNext_list_item hit (IsL.isList hl) (by simpa using e4) fun h' hi' hs'=>⟨v,rfl,hg _ _ _ _ _ _ _ "list_iterator" (Heap.IsListIter.typeIs (s:={s with heap:=h'}) hi') (by decide) ?_⟩)
  have hlv:∃ o,h'.get? I=some o:=hi'.elim fun o ho=>⟨o,ho.1⟩
  have X:=W.upd (o':=.liter (.ref l) (k0+i+1)) (hα.index hat) (h':=h') (fun c o h1 h2 e=>(hs'.2 c h1).trans e) hlv hlv ⟨rfl,⟨l,_,rfl,hα.index hal,hi'⟩,fun z=>by lia⟩
  simp only[hlt',if_true]
  exact⟨V.mono X.2 (fun b hb=>nomatch hb),trivial,X.1,X.2.plain,rfl,rfl,rfl⟩
 done:=fun α H s U0 hα hc W hi hU0=>hide fun G hG=>by
  have hit:=liter_at W (hα.index hat) (hα.index hal) hc.2
  obtain⟨_,vs,n,hl,hvs⟩:=list_at W hc.1 (hα.index hal)
  have:=hvs.length
  refine hG (pyNext_end hh hit (IsL.isList hl) (by simp;lia) fun h' he hlv=>⟨rfl,?_⟩)
  have X:=W.upd (o':=.dead) (hα.index hat) (h':=h') (fun c o h1 h2 e=>he c o h1 e) hlv hlv trivial
  simp only[Nat.lt_irrefl,if_false]
  exact⟨X.1.relock fun a ha=>(hU0 a ha).1,X.2.toStep0,fun b o hb e=>X.2.alive b o e,rfl,rfl,rfl⟩
end
end Mine.Internal
namespace Mine.Internal
open PySem PySem.W PyProof.Rows PySem.Calls
section
variable {k:Nat}{sc:Scope}{ns:List Str}
noncomputable def itOf (H:List PObj) (p:PV):Option It:=match p with
 | .tup xs=>some (.still xs fun _=>True)
 | .ref l=>(match H[l]? with
  | some (.list xs)=>some (.still xs fun H=>H[l]?=some (.list xs))
  | some (.dict es ep)=>some (.still (es.map fun e=>.int e.1) fun H=>H[l]?=some (.dict es ep))
  | some (.liter (.ref m) k0)=>(match H[m]? with
   | some (.list xs)=>some ⟨xs.drop k0,fun i H=>H[m]?=some (.list xs)∧H[l]?=some (.liter (.ref m) (k0+i)),fun i H=>if i<(xs.drop k0).length then H.set l (.liter (.ref m) (k0+i+1)) else H.set l .dead⟩
   | _=>none)
  | _=>none)
 | _=>none
noncomputable def pIter (f:PM PV):PM It:=seq f fun p=>fun σ=>(itOf σ.H p).map fun it=>(it,σ)
theorem itOf_elim {H:List PObj}{p:PV}{it:It}{P:PV→It→Prop}(e:itOf H p=some it) (k1:∀ xs,P (.tup xs) (.still xs fun _=>True)) (k2:∀ l xs,H[l]?=some (.list xs)→P (.ref l) (.still xs fun H=>H[l]?=some (.list xs)))
  (k3:∀ l es ep,H[l]?=some (.dict es ep)→P (.ref l) (.still (es.map fun e=>.int e.1) fun H=>H[l]?=some (.dict es ep)))
  (k4:∀ l m k0 xs,H[l]?=some (.liter (.ref m) k0)→H[m]?=some (.list xs)→P (.ref l) ⟨xs.drop k0,fun i H=>H[m]?=some (.list xs)∧H[l]?=some (.liter (.ref m) (k0+i)),fun i H=>if i<(xs.drop k0).length then H.set l (.liter (.ref m) (k0+i+1)) else H.set l .dead⟩):P p it:=by
 unfold itOf at e
 split at e
 ·obtain rfl:=sj e;exact k1 _
 ·split at e
  ·obtain rfl:=sj e;exact k2 _ _ ‹_›
  ·obtain rfl:=sj e;exact k3 _ _ _ ‹_›
  ·split at e
   ·obtain rfl:=sj e;exact k4 _ _ _ _ ‹_› ‹_›
   ·exact nn e
  ·exact nn e
 ·exact nn e
theorem SIt_seq {e target:Expr}{f:PM PV}(h:SE (k+1) sc ns e f) (hg:GoOK target):SIter (k+1) sc ns e target (pIter f):=by
 refine SIter.of fun {w h0 mg mb A env α U s σ it σ'} C S hf Q₀ hQ=>seq_elim hf fun q σ1 e1 hf=>map_elim hf fun it' e2 e3=>?_
 cases e3
 refine h.run C S e1 fun v s1 α1 V1 S1 T1 R1=>?_
 have hn:=get_size_none s1.heap
 refine itOf_elim (P:=fun q it=>VR α1 U s1.heap v q→(∀ r s2,ItPost w h0 ns A env α U s target it σ' r s2→Q₀ r s2)→wpAny (model prog w) A (pyIter v) Q₀ bot s1) e2 (fun xs V1 hQ=>?_) (fun l xs hH V1 hQ=>?_) (fun l es ep hH V1 hQ=>?_) (fun l m k0 xs hH hm V1 hQ=>?_) V1 hQ
 ·refine VR.tup_elim V1 fun t vs ht hu ha hvs=>iter_tuple ht (hQ _ _ ?_)
  have hp:(s1.heap.push {cls:=.type "tuple_iterator",data:=.fields #[.ref t,.int 0 0]}).get? s1.heap.objs.size=some {cls:=.type "tuple_iterator",data:=.fields #[.ref t,.int 0 0]}:=Heap.get?_push_size _ rfl
  refine iter_new (wr:=[s1.heap.objs.size]) C S1 T1 R1 (fun a o e=>Heap.get?_push_of_some _ e) (Rest.refl _) (fun b hb=>by have hb:=List.mem_singleton.mp hb;subst hb;exact hn) (fun b hb=>by have hb:=List.mem_singleton.mp hb;subst hb;exact⟨_,hp⟩) ⟨_,hp,rfl,rfl⟩
   fun U' h1 h2 h3 h4=>iter_tuple' (C.a.handled (Nat.succ_pos _)) (h1 _ (by exact .head _)) ?_ hg
  have kp:∀ a o,s1.heap.get? a=some o→h3.get? a=some o:=fun a o e=>h4 a o (Heap.get?_push_of_some _ e)
  refine((VR.tup ht hu ha hvs).lock fun a ha=>?_).mono (own:=[]) (fr:=[]) (keep_step kp) fun _ q=>nomatch q
  rcases h2 a ha with q | q
  ·rcases List.mem_append.mp q with q | q
   ·have q:=List.mem_singleton.mp q;subst q;exact .inr hn
   ·exact .inl q
  ·refine .inr ?_
   cases z:s1.heap.get? a with
   | none=>rfl
   | some o=>exact(no2 (Heap.get?_push_of_some _ z) q).elim
 ·refine VR.list_elim V1 S1.wf hH fun b vs n hl hli hvs=>wpAny_pyIter_list (IsL.isList hli) (hQ _ _ ?_)
  have hp:(s1.heap.push {cls:=.type "list_iterator",data:=.fields #[.ref b,.int 0 0]}).get? s1.heap.objs.size=some {cls:=.type "list_iterator",data:=.fields #[.ref b,.int 0 0]}:=Heap.get?_push_size _ rfl
  exact iter_new (wr:=[s1.heap.objs.size]) C S1 T1 R1 (fun a o e=>Heap.get?_push_of_some _ e) (Rest.refl _) (fun b hb=>by have hb:=List.mem_singleton.mp hb;subst hb;exact hn) (fun b hb=>by have hb:=List.mem_singleton.mp hb;subst hb;exact⟨_,hp⟩) ⟨_,hp,rfl,rfl⟩
   fun U' h1 h2 h3 h4=>iter_list (C.a.handled (Nat.succ_pos _)) (h1 _ (by exact .head _)) hl hg
 ·refine VR.dict_elim V1 S1.wf hH fun a kvs hl hd hkv=>?_
  have h3:3<a:=(S1.wf.fresh _ (List.mem_of_getElem? hl)).2.2
  have hlen:=KVs.length hkv
  refine wpAny_pyIter_dict (by
   have:sysModules≠a:=fun q=>by rw[← q] at h3;exact absurd h3 (by decide)
   simpa using this.symm) hd (hQ _ _ ?_)
  have hp:(s1.heap.push {cls:=.type "dict_keyiterator",data:=.fields #[.ref a,.int 0 0,.int kvs.length 0,.int ep 0]}).get? s1.heap.objs.size=some {cls:=.type "dict_keyiterator",data:=.fields #[.ref a,.int 0 0,.int kvs.length 0,.int ep 0]}:=Heap.get?_push_size _ rfl
  exact iter_new (wr:=[s1.heap.objs.size]) C S1 T1 R1 (fun a o e=>Heap.get?_push_of_some _ e) (Rest.refl _) (fun b hb=>by have hb:=List.mem_singleton.mp hb;subst hb;exact hn) (fun b hb=>by have hb:=List.mem_singleton.mp hb;subst hb;exact⟨_,hp⟩) ⟨_,hp,rfl,by rw[hlen];rfl⟩
   fun U' h1 h2 h3 h4=>iter_keys (C.a.handled (Nat.succ_pos _)) (h1 _ (by exact .head _)) hl hg
 ·refine VR.liter_elim V1 S1.wf hH fun I L hI hL hit _=>wpAny_pyIter_listiter hit (hQ _ _ ?_)
  exact iter_new (wr:=[]) (T:=fun _ _=>True) C S1 T1 R1 (fun a o e=>e) (Rest.refl _) (fun b hb=>nomatch hb) (fun b hb=>nomatch hb) trivial
   fun U' h1 h2 h3 h4=>iter_liter (C.a.handled (Nat.succ_pos _)) hI hL (fun q=>by subst q;rw[hH] at hm;cases hm) hg
noncomputable def upto (n:Nat):List PV:=(List.range n).map fun(i:Nat)=>PV.int (i:Int)
noncomputable def ramp (a d:Int) (n:Nat):List PV:=(List.range n).map fun(i:Nat)=>PV.int (a+d*(i:Int))
theorem iter_range {w:World}{h0:Heap}{A:Around}{α0:List Ad}{h1:Heap}{fr U:List Addr}{target:Expr}{I:Addr}{a d:Int}{n:Nat}(hh:A.handled=none) (hI:I∈U) (hg:GoOK target):
  Iter w h0 A α0 h1 fr U target I [I] (.still (ramp a d n) fun _=>True) (fun i h=>IsRangeIter h I (a+d*(i:Int)) ((n:Int) - (i:Int)) d) where
 lockd:=fun b hb=>by have hb:=List.mem_singleton.mp hb;rw[hb];exact hI
 frame:=fun i h h' hi hk=>hk I (.head _) _ hi
 self:=fun α H s Q E hα hc W hi hQ=>wpAny_pyIter_rangeiter hi hQ
 next:=fun i p α H s hα hx hc W hi=>by
  have hlt:i<n:=by have:=(List.getElem?_eq_some_iff.mp hx).1;simpa[ramp,It.still] using this
  have hp:p=.int (a+d*(i:Int)):=by
   have:(ramp a d n)[i]?=some (PV.int (a+d*(i:Int))):=by simp[ramp,hlt]
   have hx:(ramp a d n)[i]?=some p:=hx
   rw[this] at hx;exact(Option.some.inj hx).symm
  rw[hp]
  refine wpAny_pyNext_range_item hi (by lia) fun h' hi' hs'=>⟨_,rfl,hg _ _ _ _ _ _ _ "range_iterator" ⟨_,hi',rfl⟩ (by decide) ?_⟩
  obtain⟨W',T'⟩:=still_next (wr:=[I]) (h':=h') W (fun b hb=>by have hb:=List.mem_singleton.mp hb;rw[hb];exact hI) (fun b o hb e=>hs'.extBut b o (fun q=>hb (by simp[q])) e) fun b hb=>by have hb:=List.mem_singleton.mp hb;rw[hb];exact⟨_,hi'⟩
  refine⟨.int ..,?_,W',T',rfl,rfl,rfl⟩
  have e1:a+d*(i:Int)+d=a+d*((i+1:Nat):Int):=by rw[Int.natCast_add,Int.mul_add];lia
  have e2:(n:Int) - (i:Int) - 1=(n:Int) - ((i+1:Nat):Int):=by lia
  rw[e1,e2] at hi';exact hi'
 done:=fun α H s U0 hα hc W hi hU0=>by
  refine wpAny_pyNext_range_end hh hi (by simp[ramp,It.still]) fun h' he=>?_
  obtain⟨W',T',al⟩:=still_done (wr:=[I]) (h':=h') W (fun b hb=>by have hb:=List.mem_singleton.mp hb;rw[hb];exact hI) hU0 fun b o hb e=>he b o (fun q=>hb (by simp[q])) e
  exact⟨rfl,W',T',al,rfl,rfl,rfl⟩
theorem upto_ramp (n:Nat):upto n=ramp 0 1 n:=by unfold upto ramp;simp
noncomputable def rangeIt (n:Int):Option It:=if -1000000<n∧n<1000000 then some (.still (upto n.toNat) fun _=>True) else none
noncomputable def pRangeIt (fn:PM PV):PM It:=seq fn fun p=>match p with
 | .int n=>fun σ=>(rangeIt n).map fun it=>(it,σ)
 | _=>fail
theorem range_size0 (n:Int):Builtin.Range.rangeSize 0 n 1=(n.toNat:Int):=by
 unfold Builtin.Range.rangeSize
 simp only[show(1:Int)>0 from by decide,if_true]
 split
 ·rw[Int.ediv_one];lia
 ·lia
theorem pRange_elim {fn:PM PV}{σ σ':PS}{it:It}{P:Prop}(h:pRangeIt fn σ=some (it,σ')) (k:∀ n,fn σ=some (.int n,σ')→-1000000<n∧n<1000000→it=.still (upto n.toNat) (fun _=>True)→P):P:=by
 refine seq_elim h fun p σ1 q1 h=>?_
 split at h
 ·refine map_elim h fun it' e2 e3=>?_
  cases e3
  unfold rangeIt at e2
  split at e2
  ·exact k _ q1 ‹_› (Option.some.inj e2).symm
  ·exact nn e2
 ·exact nn h
theorem SIt_range {target e:Expr}{x:Str}{px cpos:Pos}{fn:PM PV}(hr:SE (k+1) sc ns (.Name x px) (pConst (.const (.type "range")))) (hi:SE (k+1) sc ns e fn) (hg:GoOK target)
  (hst:∀ env,starEach [e] env=(false,eval e env)::starEach [] env):SIter (k+1) sc ns (.Call (.Name x px) [e] [] cpos) target (pRangeIt fn):=by
 refine SIter.of fun {w h0 mg mb A env α U s σ it σ'} C S hf Q₀ hQ=>pRange_elim hf fun n e1 hlt hit=>?_
 subst hit
 refine wpAny_Call_NameR (hr.run C S rfl fun v s1 α1 V1 S1 T1 R1=>VR.const_elim V1 ?_)
 refine callWith_type1 ?_ (hst env)
 refine(?_:wpAny _ _ (spliced (backTo cpos (starEach [e] env))) _ _ _)
 rw[hst env]
 refine spliced_cons (hi.run C S1 e1 fun v s2 α2 V2 S2 T2 R2=>spliced_nil (VR.int_elim V2 fun t=>call_range_1 ?_))
 refine wpAny_pyIter_range (a:=0) (b:=n) (c:=1) (IsRange.new ..) (small_one (by decide) (by decide) (by lia) (by exact Int.lt_of_lt_of_le hlt.2 (by decide))) (hQ _ _ ?_)
 rw[range_size0]
 have kk:∀(o1 o2:Obj) (a:Addr) (o:Obj),s2.heap.get? a=some o→((s2.heap.push o1).push o2).get? a=some o:=fun o1 o2 a o e=>Heap.get?_push_of_some _ (Heap.get?_push_of_some _ e)
 have hn:s2.heap.get? (s2.heap.objs.size+1)=none:=Heap.get?_none_of_le (Nat.le_add_right _ _)
 have szp:∀ o1:Obj,(s2.heap.push o1).objs.size=s2.heap.objs.size+1:=fun o1=>Heap.size_push ..
 have hp:∀(o1 o2:Obj),o2.isFreed=false→((s2.heap.push o1).push o2).get? (s2.heap.objs.size+1)=some o2:=fun o1 o2 hf=>by
  have:=Heap.get?_push_size (s2.heap.push o1) (o:=o2) hf
  rw[szp] at this;exact this
 rw[szp,upto_ramp]
 refine iter_new (wr:=[s2.heap.objs.size+1]) (T:=fun i h=>IsRangeIter h (s2.heap.objs.size+1) (0+1*(i:Int)) ((n.toNat:Int) - (i:Int)) 1) C S2 (T1.trans T2) (R1.trans R2) (kk _ _) ⟨rfl,rfl,rfl⟩ (fun b hb=>by have hb:=List.mem_singleton.mp hb;subst hb;exact hn) (fun b hb=>by have hb:=List.mem_singleton.mp hb;subst hb;exact⟨_,hp _ _ rfl⟩) ?_
  fun U' h1 h2 h3 h4=>iter_range (C.a.handled (Nat.succ_pos _)) (h1 _ (by exact .head _)) hg
 have:=hp {cls:=.type "range",data:=.fields #[.int 0 s2.toks,.int n t,.int 1 (s2.toks+1)]} {cls:=.type "range_iterator",data:=.fields #[rawInt 0,rawInt (n.toNat:Int),rawInt 1]} rfl
 refine(?_:IsRangeIter _ (s2.heap.objs.size+1) (0+1*((0:Nat):Int)) ((n.toNat:Int) - ((0:Nat):Int)) 1)
 exact this
end
end Mine.Internal
namespace Mine.Internal
open PySem PySem.W PyProof.Rows PySem.Calls
section
variable {k:Nat}{sc:Scope}{ns:List Str}
theorem aok_sub:AugOK .Sub oSub:=fun w A s x y z t u Q E e h=>by obtain rfl:=sj e;exact PyProof.Rows.isub_int h
theorem iadd_list_ok {M:Model}{A:Around}{E:Value→Shared→Prop}{s:Shared}{a b:Value}{Q:Value→Shared→Prop}(ha:s.TypeIs a "list") (hb:s.TypeIs b "list") (hc:wpAny M A (call (.builtin "list.__iadd__") [a,b]) Q E s):wpAny M A (inplaceOp .Add a b) Q E s:=by
 skip
 refine wpAny_holding ?_
 have hl:typeLookup (.type "list") (dunderI "add")=pure (some (.builtin "list.__iadd__")):=F.slot_list_iadd.lookup
 have hfi:fillsInplaceSlot (.type "list") "add" (Operator.Add==.Add)=pure false:=by
  skip
  refine(?_:(typeLookup (.type "list") (dunderI "add")>>=fun fi=>pure (fi.isSome && !isSeqSlot fi))=pure false)
  skip;kernel_rfl
 have hsi:seqSlot? (.type "list") (dunderI "add")=pure (some (.builtin "list.__iadd__")):=by
  unfold seqSlot?
  skip;kernel_rfl
 refine wpAny_bind (wpAny_typeOf ha (wpAny_bind (wpAny_of_eq hfi ?_)))
 refine(?_:wpAny M A (if false=true then _ else _) Q E s)
 skip
 refine wpAny_bind (wpAny_binaryOp1_none (nm:="add") ha hb noFill_list_add ?_)
 refine wpAny_bind (wpAny_of_eq hsi ?_)
 exact wpAny_bind (wpAny_rule hc)
noncomputable def augOf (fop:Int→Int→Option Int) (isAdd:Bool) (H:List PObj) (a b:PV):Option (PV × List PObj):=match a,b with
 | .int x,.int y=>(fop x y).map fun z=>(.int z,H)
 | .ref i,.ref j=>if isAdd then(match H[i]?,H[j]? with
  | some (.list xs),some (.list ys)=>if xs.length+ys.length≤1000000 then some (.ref i,H.set i (.list (xs++ys))) else none
  | _,_=>none) else none
 | _,_=>none
theorem if_elim {υ:Type}{x:Prop} [Decidable x] {o:Option υ}{r:υ}{G:Prop}(e:(if x then o else none)=some r) (k:x→o=some r→G):G:=by
 by_cases hx:x
 ·rw[if_pos hx] at e;exact k hx e
 ·rw[if_neg hx] at e;exact no_some e
theorem on_list2 {τ:Type}{H:List PObj}{i j:Nat}{f:List PV→List PV→Option τ}{r:τ}{G:Prop}(e:(match H[i]?,H[j]? with | some (.list xs),some (.list ys)=>f xs ys | _,_=>none)=some r) (k:∀ xs ys,H[i]?=some (.list xs)→H[j]?=some (.list ys)→f xs ys=some r→G):G:=by
 split at e
 ·exact k _ _ ‹_› ‹_› e
 ·exact no_some e
theorem sizes {vs ws:List Value}{n m:Nat}(l1:vs.length=n) (l2:ws.length=m) (hn:n+m≤1000000):(¬ (!(List.toArray vs).isEmpty && Builtin.List.listTooLong ((List.toArray vs).size+(List.toArray ws).size))=true)∧(List.toArray vs).size≤sizeLine∧(List.toArray vs).size+(List.toArray ws).size≤sizeLine+1:=by
 have sz:sizeLine=16777216:=rfl
 refine⟨?_,by simp;lia,by simp;lia⟩
 simp only[Bool.and_eq_true,Builtin.List.listTooLong,decide_eq_true_eq,List.size_toArray];lia
set_option smartUnfolding false in
theorem aug_ok {w:World}{h0:Heap}{A:Around}{α:List Ad}{U:List Addr}{s:Shared}{H H':List PObj}{va vb:Value}{a b p:PV}{op:Operator}{fop:Int→Int→Option Int}{Q:Value→Shared→Prop}{E:Value→Shared→Prop}(hop:AugOK op fop)
  (W:Wf w h0 α U H s.heap) (Va:VR α U s.heap va a) (Vb:VR α U s.heap vb b) (e:augOf fop (op==.Add) H a b=some (p,H'))
  (hQ:∀ v h' tk,VR α U h' v p→Wf w h0 α U H' h'→Step [] [] α s.heap α h'→Q v {s with heap:=h',toks:=tk}):wpAny (model prog w) A (inplaceOp op va vb) Q E s:=by
 refine Va.any (P:=fun va a=>augOf fop (op==.Add) H a b=some (p,H')→VR α U s.heap va a→wpAny (model prog w) A (inplaceOp op va vb) Q E s) (fun e _=>no_some e) (fun _ e _=>no_some e) (fun x t=>?_) (fun a1 b1 i hi1 e Va=>?_) (fun _ _ _ _ _ _ _ e _=>no_some e) (fun _ e _=>no_some e) e Va
 ·refine Vb.any (P:=fun vb b=>augOf fop (op==.Add) H (.int x) b=some (p,H')→VR α U s.heap (.int x t) (.int x)→wpAny (model prog w) A (inplaceOp op (.int x t) vb) Q E s) (fun e _=>no_some e) (fun _ e _=>no_some e) (fun y u e _=>?_) (fun _ _ _ _ e _=>no_some e) (fun _ _ _ _ _ _ _ e _=>no_some e) (fun _ e _=>no_some e)
  refine map_elim (x:=fop x y) (f:=fun z=>(PV.int z,H)) e fun z e1 e2=>?_
  exact hop w A s x y z t u Q E e1 (some_to (P:=fun p H'=>∀ v h' tk,VR α U h' v p→Wf w h0 α U H' h'→Step [] [] α s.heap α h'→Q v {s with heap:=h',toks:=tk}) (congrArg some e2) hQ _ s.heap _ (.int ..) W (Step.refl ..))
 ·refine Vb.any (P:=fun vb b=>augOf fop (op==.Add) H (.ref i) b=some (p,H')→VR α U s.heap (.ref a1) (.ref i)→VR α U s.heap vb b→wpAny (model prog w) A (inplaceOp op (.ref a1) vb) Q E s) (fun e _ _=>no_some e) (fun _ e _ _=>no_some e) (fun _ _ e _ _=>no_some e) (fun _ _ j _ e Va Vb=>?_) (fun _ _ _ _ _ _ _ e _ _=>no_some e) (fun _ e _ _=>no_some e) e Va Vb
  refine if_elim (x:=(op==.Add)=true) (o:=match H[i]?,H[j]? with
  | some (.list xs),some (.list ys)=>if xs.length+ys.length≤1000000 then some (PV.ref i,H.set i (.list (xs++ys))) else none
  | _,_=>none) e fun hadd e=>?_
  refine on_list2 (H:=H) (i:=i) (j:=j) (f:=fun xs ys=>if xs.length+ys.length≤1000000 then some (PV.ref i,H.set i (PObj.list (xs++ys))) else none) e fun xs ys h1 h2 e=>?_
  refine if_to (P:=fun p H'=>∀ v h' tk,VR α U h' v p→Wf w h0 α U H' h'→Step [] [] α s.heap α h'→Q v {s with heap:=h',toks:=tk}) e hQ fun hn hQ=>?_
  rw[show op=.Add by simpa using hadd]
  refine Va.list_elim W h1 fun a vs n hi hl hvs=>Vb.list_elim W h2 fun c ws m _ hm hws=>?_
  have Z:=list_upd W hi hl (fun x=>x++ws.toArray) (vs':=vs++ws) (by simp) (hvs.append hws)
  have sz:=sizes hvs.length hws.length hn
  exact iadd_list_ok (IsL.isList hl).typeIs (IsL.isList hm).typeIs (call_meets F.slot_list_iadd (IsL.isList hl).typeIs F.entry_list_iadd (F.args_list_iadd_2 _ _)
   (AutoSeq1.list___iadd___list_list_0 _ vs.toArray n _ ws.toArray m sz.1 sz.2.1 sz.2.2) ⟨hl,hm,hQ _ _ _ (.ref hi) Z.1 Z.2⟩)
noncomputable def sAug (i:Nat) (fop:Int→Int→Option Int) (isAdd:Bool) (f:PM PV):PM PFlow:=seq (pLoc i) fun a=>seq f fun b=>fun σ=>match augOf fop isAdd σ.H a b with
 | some (p,H')=>some (.next,⟨H',σ.V.set i (some p)⟩)
 | none=>none
theorem SS_aug (i:Nat) {x:Str}{px pos:Pos}{op:Operator}{fop:Int→Int→Option Int}{e:Expr}{f:PM PV}(hop:AugOK op fop) (h:SE k sc ns e f) (hx:ns[i]?=some x) (hn:ns.Nodup) (hk:(sc.names.lookup x==some .local || sc.names.lookup x==some .cell)=true) (hd':(x==("__debug__":Str))=false):
  SS k sc ns (.AugAssign (.Name x px) op e pos) (sAug i fop (op==.Add) f):=by
 refine Jd.of fun {w h0 mg mb A env α U s σ p σ'} C S hf0 Q₀ hQ=>?_
 refine seq_elim hf0 fun a σ1 e1 hf1=>?_
 refine seq_elim hf1 fun b σ2 e2 hf=>?_
 clear hf0 hf1
 revert e2
 refine loc_elim e1 fun e e2=>?_
 refine wpAny_AugAssign_Name (loc_load C S hx e fun v V0=>h.run C S e2 fun v2 s2 α2 V2 S2 T2 R2=>?_)
 split at hf
 ·rename_i q H' ha
  revert hQ;refine sp2e (c:=p) (d:=σ') hf fun hQ=>?_
  refine aug_ok hop S2.wf (C.vmono V0 T2) V2 ha fun v3 h3 tk V3 W3 T3=>?_
  obtain⟨S3,T3'⟩:=St.ofWf C S2 W3 T3
  exact store_name C (s:={s2 with heap:=h3,toks:=tk}) S3 hx hn hk V3 fun h4 tk4 S4 T4=>(hQ _ _ α2 .next S4 ((T2.trans T3').trans T4) R2)
 ·exact nn hf
noncomputable def isNoneOf (p:PV):Option Bool:=match p with
 | .none=>some true
 | .ref _=>some false
 | .tup _=>some false
 | .int _=>some false
 | _=>none
noncomputable def pIsNone (neg:Bool) (f:PM PV):PM Bool:=seq f fun p=>fun σ=>(isNoneOf p).map fun b=>(b !=neg,σ)
theorem isNone_ok {w:World}{A:Around}{α:List Ad}{U:List Addr}{s:Shared}{v:Value}{p:PV}{b:Bool}{Q:Value→Shared→Prop}{E:Value→Shared→Prop}(V:VR α U s.heap v p) (e:isNoneOf p=some b) (h:Q (.bool b) s):wpAny (model prog w) A (compareOp .Is v .none) Q E s:=by
 revert e
 refine V.any (P:=fun v p=>isNoneOf p=some b→wpAny (model prog w) A (compareOp .Is v .none) Q E s) (fun e=>?_) (fun _=>no_some) (fun i t e=>?_) (fun a b i hi e=>?_) (fun a vs xs _ _ _ _ e=>?_) fun _=>no_some
 ·exact wpAny_is_self rfl ((congrArg (fun b=>Q (.bool b) s) (Option.some.inj e)).mpr h)
 ·exact wpAny_is_other rfl Value.noConfusion ((congrArg (fun b=>Q (.bool b) s) (Option.some.inj e)).mpr h)
 ·exact wpAny_is_other rfl Value.noConfusion ((congrArg (fun b=>Q (.bool b) s) (Option.some.inj e)).mpr h)
 ·exact wpAny_is_other rfl Value.noConfusion ((congrArg (fun b=>Q (.bool b) s) (Option.some.inj e)).mpr h)
theorem isNotNone_ok {w:World}{A:Around}{α:List Ad}{U:List Addr}{s:Shared}{v:Value}{p:PV}{b:Bool}{Q:Value→Shared→Prop}{E:Value→Shared→Prop}(V:VR α U s.heap v p) (e:isNoneOf p=some b) (h:Q (.bool (!b)) s):wpAny (model prog w) A (compareOp .IsNot v .none) Q E s:=by
 revert e
 refine V.any (P:=fun v p=>isNoneOf p=some b→wpAny (model prog w) A (compareOp .IsNot v .none) Q E s) (fun e=>?_) (fun _=>no_some) (fun i t e=>?_) (fun a b i hi e=>?_) (fun a vs xs _ _ _ _ e=>?_) fun _=>no_some
 ·exact wpAny_isNot_self rfl ((congrArg (fun b=>Q (.bool (!b)) s) (Option.some.inj e)).mpr h)
 ·exact wpAny_isNot_other rfl Value.noConfusion ((congrArg (fun b=>Q (.bool (!b)) s) (Option.some.inj e)).mpr h)
 ·exact wpAny_isNot_other rfl Value.noConfusion ((congrArg (fun b=>Q (.bool (!b)) s) (Option.some.inj e)).mpr h)
 ·exact wpAny_isNot_other rfl Value.noConfusion ((congrArg (fun b=>Q (.bool (!b)) s) (Option.some.inj e)).mpr h)
theorem ST_isNone {l:Expr}{f:PM PV}{kd:Nat}{cp pos:Pos}(hl:SE k sc ns l f):STest k sc ns (.Compare l [.Is] [.Constant .none kd cp] pos) (pIsNone false f):=by
 refine Jd.of fun {w h0 mg mb A env α U s σ p σ'} C S hf Q₀ hQ=>?_
 refine seq_elim hf fun a σ1 h1 hf=>?_
 revert hQ
 refine mapp (p:=p) (σ:=σ') hf fun b q1 hQ=>?_
 refine wpAny_isTrue_Compare1 (hl.run C S h1 fun v s1 α1 V1 S1 T1 R1=>wpAny_Constant_none (isNone_ok V1 q1 (wpAny_truthy_bool (hQ _ _ α1 (?_) S1 T1 R1)))) rfl
 show b=(b !=false);simp
theorem ST_isNotNone {l:Expr}{f:PM PV}{kd:Nat}{cp pos:Pos}(hl:SE k sc ns l f):STest k sc ns (.Compare l [.IsNot] [.Constant .none kd cp] pos) (pIsNone true f):=by
 refine Jd.of fun {w h0 mg mb A env α U s σ p σ'} C S hf Q₀ hQ=>?_
 refine seq_elim hf fun a σ1 h1 hf=>?_
 revert hQ
 refine mapp (p:=p) (σ:=σ') hf fun b q1 hQ=>?_
 refine wpAny_isTrue_Compare1 (hl.run C S h1 fun v s1 α1 V1 S1 T1 R1=>wpAny_Constant_none (isNotNone_ok V1 q1 (wpAny_truthy_bool (hQ _ _ α1 (?_) S1 T1 R1)))) rfl
 show(!b)=(b !=true);cases b<;>rfl
end
end Mine.Internal
namespace Mine.Internal
open PySem PySem.W PyProof.Rows PySem.Calls
noncomputable def relab (scope sc:Scope):Scope:=
 {scope with names:=scope.names.map fun(n,k)=>if(k==.free && sc.kind==.function && sc.names.lookup n==some .cell) then(n,.cell) else(n,k)}
noncomputable def turnOf (e:Expr) (target:Expr) (ipos:Pos) (ifs:List Expr) (it acc:Value) (env:Env) (emit:Sem Unit):Sem Fin:=do
 standAt ipos
 match ← pyNext it with
 | none=>pure (.done .next)
 | some v=>
  letOwnedTupleGo target it v
  assign target env v
  let mut ok:=true
  for c in ifs do
   if ok then ok ← isTrue c env (eval c env)
  if ok then emit
  again (.compLoop e 0 it acc env)
open Classical in
noncomputable def compL (it:It) (g:PV→PM Unit) (t:PM Bool) (em:PM Unit):Nat→List PV→PM Unit
 | i,[]=>fun σ=>if it.chk i σ.H then some ((),⟨it.stp i σ.H,σ.V⟩) else none
 | i,p::ps=>fun σ=>if it.chk i σ.H then(seq (g p) fun _=>seq t fun b=>match b with
  | true=>seq em fun _=>compL it g t em (i+1) ps
  | false=>compL it g t em (i+1) ps) ⟨it.stp i σ.H,σ.V⟩ else none
section
variable {k:Nat}{sc:Scope}{ns:List Str}
noncomputable def STs (k:Nat) (sc:Scope) (ns:List Str) (ifs:List Expr) (t:PM Bool):Prop:=
 Jd BR k sc ns (fun env=>forIn ifs true fun c r=>if r=true then do let ok ← isTrue c env (eval c env);pure (ForInStep.yield ok) else pure (ForInStep.yield r)) t
theorem STs_nil:STs k sc ns [] (ret true):=by
 refine Jd.of fun {w h0 mg mb A env α U s σ p σ'} C S hf Q₀ hQ=>?_
 revert hQ;refine sp2e (c:=p) (d:=σ') hf fun hQ=>?_
 exact wpAny_tests_nil (qhere hQ S rfl)
theorem STs_one {c:Expr}{t:PM Bool}(h:STest k sc ns c t):STs k sc ns [c] t:=by
 refine Jd.of fun {w h0 mg mb A env α U s σ p σ'} C S hf Q₀ hQ=>?_
 exact wpAny_tests_one (h.run C S hf hQ)
noncomputable def SEm (k:Nat) (sc:Scope) (ns:List Str) (emit:Value→Env→Sem Unit) (em:Nat→PM Unit):Prop:=
 ∀(w:World) (h0:Heap) (mg mb:Str→Option Value) (A:Around) (env:Env) (α:List Ad) (U:List Addr) (s:Shared) (σ σ':PS) (d:Nat) (D:Addr),
  Cx w h0 mg mb k A sc env U→St w h0 ns env α U σ s.heap→α[d]?=some (D,D)→em d σ=some ((),σ')→
  wpAny (model prog w) A (emit (.ref D) env) (Post UR w h0 ns A env α U s () σ') bot s
theorem compL_elim {it:It}{g:PV→PM Unit}{t:PM Bool}{em:PM Unit}{i:Nat}{σ σ':PS}{P:Prop}(hi:i<it.xs.length) (h:compL it g t em i (it.xs.drop i) σ=some ((),σ')) (k:it.chk i σ.H→∀ σ2 b σ3,g it.xs[i] ⟨it.stp i σ.H,σ.V⟩=some ((),σ2)→t σ2=some (b,σ3)→(match b with
  | true=>seq em fun _=>compL it g t em (i+1) (it.xs.drop (i+1))
  | false=>compL it g t em (i+1) (it.xs.drop (i+1))) σ3=some ((),σ')→P):P:=by
 rw[List.drop_eq_getElem_cons hi] at h
 unfold compL at h
 split at h
 ·exact seq_elim h fun _ σ2 e2 h=>seq_elim h fun x σ3 e3 h=>k ‹_› σ2 x σ3 e2 e3 h
 ·exact nn h
theorem compL_end {it:It}{g:PV→PM Unit}{t:PM Bool}{em:PM Unit}{i:Nat}{σ σ':PS}{P:Prop}(hi:i=it.xs.length) (h:compL it g t em i (it.xs.drop i) σ=some ((),σ')) (k:it.chk it.xs.length σ.H→σ'=⟨it.stp it.xs.length σ.H,σ.V⟩→P):P:=by
 subst hi
 rw[List.drop_length] at h
 unfold compL at h
 split at h
 ·obtain⟨-,rfl⟩:=sp2 h;exact k ‹_› rfl
 ·exact nn h
theorem step0_over {w:World}{h0:Heap}{α0 α α1:List Ad}{U fr own:List Addr}{H:List PObj}{h h1 h2:Heap}(W:Wf w h0 α U H h) (T0:Step0 U fr α0 h1 α h) (T1:Step own fr α h α1 h2) (ho:∀ b∈own,b∈U):Step0 U fr α0 h1 α1 h2:=by
 have T1':=T1.weaken ho fun _ q=>q
 refine⟨?_,fun a o e x y z=>T1'.only a o (T0.only a o e x y z) (T0.awayNew e x) y z,fun a o e x y=>?_⟩
 ·obtain⟨β,rfl,hb⟩:=T0.ext
  obtain⟨γ,rfl,hc⟩:=T1'.ext
  refine⟨β++γ,by rw[List.append_assoc],fun p hp=>?_⟩
  rcases List.mem_append.mp hp with q | q
  ·exact hb p q
  ·have no:∀ a,h.get? a=none→away α0 a→a ∉ U→h1.get? a=none:=fun a e x y=>by
    cases z:h1.get? a with
    | none=>rfl
    | some o=>obtain⟨o',e',_⟩:=T0.data a o z x y;exact(no2 e' e).elim
   have ap:=hc p q
   have aw:away (α0++β) p.1∧p.1 ∉ U:=fresh_away W ap.1
   have aw2:away (α0++β) p.2∧p.2 ∉ U:=fresh_away W ap.2
   exact⟨no _ ap.1 (fun r hr=>aw.1 r (List.mem_append_left _ hr)) aw.2,no _ ap.2 (fun r hr=>aw2.1 r (List.mem_append_left _ hr)) aw2.2⟩
 ·obtain⟨o1,e1,l1⟩:=T0.data a o e x y
  obtain⟨o2,e2,l2⟩:=T1'.data a o1 e1 (T0.awayNew e x) y
  exact⟨o2,e2,l1.trans l2⟩
theorem SEm.run {emit:Value→Env→Sem Unit}{em:Nat→PM Unit}(J:SEm k sc ns emit em) {w:World}{h0:Heap}{mg mb:Str→Option Value}{A:Around}{env:Env}{α:List Ad}{U:List Addr}{s:Shared}{σ σ':PS}{d:Nat}{D:Addr}(C:Cx w h0 mg mb k A sc env U) (S:St w h0 ns env α U σ s.heap) (hD:α[d]?=some (D,D)) (hf:em d σ=some ((),σ')) {Q:Unit→Shared→Prop}{E:Value→Shared→Prop}
  (hQ:∀ s' α',St w h0 ns env α' U σ' s'.heap→Step (ownOf env) (frs A) α s.heap α' s'.heap→Rest s s'→Q () s'):wpAny (model prog w) A (emit (.ref D) env) Q E s:=by
 refine wpAny_mono (J w h0 mg mb A env α U s σ σ' d D C S hD hf) ?_ fun _ _ q=>q.elim
 rintro _ s' ⟨α',_,b,c,e⟩
 exact hQ s' α' b c e
theorem comp_loop {w:World}{h0:Heap}{mg mb:Str→Option Value}{A:Around}{env:Env}{α:List Ad}{U U0:List Addr}{s:Shared}{σ σ':PS}{e target:Expr}{ipos:Pos}{ifs:List Expr}{I D:Addr}{d:Nat}{wr:List Addr}{it:It}{T:Nat→Heap→Prop}{g:PV→PM Unit}{t:PM Bool}{emit:Value→Env→Sem Unit}{em:Nat→PM Unit}{R:Result→Shared→Prop}
  (hund:A.under (.compLoop e 0 (.ref I) (.ref D) env)=A) (hturn:(model prog w).den (.compLoop e 0 (.ref I) (.ref D) env)=(turnOf e target ipos ifs (.ref I) (.ref D) env (emit (.ref D) env)).onRaise (fun x=>do noteFrame x env;theTreesLotGoes x)) (α0:List Ad) (h1:Heap) (T0:Step0 U (frs A) α0 h1 α s.heap) (It:Iter w h0 A α0 h1 (frs A) U target I wr it T) (C:Cx w h0 mg mb k A sc env U) (hU0:∀ a∈U0,a∈U∧a ∉ wr) (hown:∀ a∈ownOf env,a∈U0) (hfr:∀ a∈frs A,a∈U0)
  (hT:SAs k sc ns target g) (ht:STs k sc ns ifs t) (hE:SEm k sc ns emit em) (hD:α[d]?=some (D,D)) (S:St w h0 ns env α U σ s.heap) (h0T:T 0 s.heap) (hf:compL it g t (em d) 0 it.xs σ=some ((),σ'))
  (hR:∀ s' α',St w h0 ns env α' U0 σ' s'.heap→Step0 (wr++ownOf env) (frs A) α s.heap α' s'.heap→(∀ b o,b ∉ wr→s.heap.get? b=some o→∃ o',s'.heap.get? b=some o')→Rest s s'→R (.ok .next) s'):
  codeAny (model prog w) A (.compLoop e 0 (.ref I) (.ref D) env) R s:=by
 refine codeAny_loop rfl (LoopAt w h0 ns A env α U wr T it.xs.length s fun i σ1=>compL it g t (em d) i (it.xs.drop i) σ1=some ((),σ')) ?_ (it.xs.length+1) (LoopAt.mk 0 S h0T (Step.refl ..) (Rest.refl _) hf (Nat.zero_le _))
 refine fun n s1 X=>X.elim fun i α1 σ1 S1 hT1 T1 R1 hf1 hi hn=>?_
 rw[hund,hturn]
 refine wpAny_noted ?_
 skip
 have TU:=step0_over S.wf T0 T1 fun b hb=>(List.mem_append.mp hb).elim (It.lockd b) (C.own b)
 rcases Nat.lt_or_ge i it.xs.length with hlt | hge
 ·refine compL_elim hlt hf1 fun hchk σ2 b σ3 e2 e3 hf3=>wpAny_bind (wpAny_standAt (wpAny_bind (It.turn TU (List.getElem?_eq_getElem hlt) hchk S1.wf hT1 fun v s2 own=>wpAny_bind (own fun s3 V3 hT3 W3 T3 R3=>?_))))
  have S3:=loop_st It C hU0 hown S1 W3 T3
  refine wpAny_bind (hT.run C S3 V3 e2 fun s4 α4 S4 T4 R4=>wpAny_bind (ht.run C S4 e3 fun b' s5 α5 V5 S5 T5 R5=>?_))
  have hm:it.xs.length+1 - (i+1)<n:=by lia
  rw[show b'=b from V5]
  cases b with
  | false=>
   have Y:=loop_facts It C hU0 hown hfr T1 W3 hT3 T3 (T4.trans T5)
   exact wpAny_pure ⟨rfl,_,hm,LoopAt.mk (i+1) S5 Y.1 Y.2 (R1.trans (R3.trans (R4.trans R5))) hf3 hlt⟩
  | true=>
   refine seq_elim hf3 fun u' σ4 e4 hf4=>?_
   have Y5:=loop_facts It C hU0 hown hfr T1 W3 hT3 T3 (T4.trans T5)
   refine wpAny_bind (hE.run C S5 (Y5.2.index hD) e4 fun s6 α6 S6 T6 R6=>?_)
   have Y:=loop_facts It C hU0 hown hfr T1 W3 hT3 T3 ((T4.trans T5).trans T6)
   exact wpAny_pure ⟨rfl,_,hm,LoopAt.mk (i+1) S6 Y.1 Y.2 (R1.trans (R3.trans ((R4.trans R5).trans R6))) hf4 hlt⟩
 ·refine compL_end (Nat.le_antisymm hi hge) hf1 fun hchk e2=>wpAny_bind (wpAny_standAt (wpAny_bind (It.fin TU hchk S1.wf (Nat.le_antisymm hi hge▸hT1) hU0 fun s2 W2 T2 al2 R2=>wpAny_pure ?_)))
  have Z:=loop_end It C hU0 hown S1 T1 W2 T2 al2
  exact hR _ α1 (e2▸Z.1) Z.2.1 Z.2.2 (R1.trans R2)
end
end Mine.Internal
namespace Mine.Internal
open PySem PySem.W PyProof.Rows PySem.Calls
structure CompOK (scope sc:Scope) (ns ns':List Str) (fz:List (Nat × Str)) (nl:Nat):Prop where
 clos:∀ env:Env,env.scope=sc→(∀ y∈fz,∃ c,env.cells.lookup y.2=some c)→∃ cl,closureFor scope env=pure cl∧cl.map (·.1)=fz.map (·.2)∧∀ y∈cl,env.cells.lookup y.1=some y.2
 outer:∀ y∈fz,ns[y.1]?=some y.2∧sc.names.lookup y.2=some .cell∧(relab scope sc).names.lookup y.2=some .cell
 one:fz.length≤1
 cell:∀ x∈scope.names,x.2≠.cell
 kind:scope.kind=.function
 names:∀ x∈scope.names,x.2=.local→scope.names.lookup x.1=some .local
 cov:∀ x,(relab scope sc).names.lookup x=some .cell→x∈fz.map (·.2)
 more:scope.more.any (fun(n,_)=>n==("interactive":Str))=false
 nodup:ns.Nodup
 lay:∃ xs,ns'=xs++fz.map (·.2)∧xs.length=nl
noncomputable def inV (nl:Nat) (fz:List (Nat × Str)) (V:List (Option PV)):List (Option PV):=List.replicate nl none++fz.map fun y=>(V[y.1]?).join
open Classical in
noncomputable def pComp (nl:Nat) (fz:List (Nat × Str)) (fi:PM It) (new:PObj) (g:PV→PM Unit) (t:PM Bool) (em:Nat→PM Unit):PM PV:=seq fi fun it=>fun σ=>
 match compL it g t (em σ.H.length) 0 it.xs ⟨σ.H++[new],inV nl fz σ.V⟩ with
 | some (_,σ2)=>if σ2.V.drop nl=(inV nl fz σ.V).drop nl then some (.ref σ.H.length,⟨σ2.H,σ.V⟩) else none
 | none=>none
@[elab_as_elim] theorem pComp_elim {nl:Nat}{fz:List (Nat × Str)}{fi:PM It}{new:PObj}{g:PV→PM Unit}{t:PM Bool}{em:Nat→PM Unit}{σ σ':PS}{p:PV}{P:PV→PS→Prop}(hf:pComp nl fz fi new g t em σ=some (p,σ'))
  (k:∀ it σ1 σ2,fi σ=some (it,σ1)→compL it g t (em σ1.H.length) 0 it.xs ⟨σ1.H++[new],inV nl fz σ1.V⟩=some ((),σ2)→σ2.V.drop nl=(inV nl fz σ1.V).drop nl→P (.ref σ1.H.length) ⟨σ2.H,σ1.V⟩):P p σ':=by
 obtain⟨it,σ1,e1,hf⟩:=seq_some hf
 cases hL:compL it g t (em σ1.H.length) 0 it.xs ⟨σ1.H++[new],inV nl fz σ1.V⟩ with
 | none=>rw[hL] at hf;exact nn hf
 | some r=>
  rw[hL] at hf
  by_cases h:r.2.V.drop nl=(inV nl fz σ1.V).drop nl
  ·exact sp2e ((if_pos h).symm.trans hf) (k it σ1 r.2 e1 hL h)
  ·exact nn ((if_neg h).symm.trans hf)
theorem compL_chk {it:It}{g:PV→PM Unit}{t:PM Bool}{em:PM Unit}{i:Nat}{xs:List PV}{σ:PS}{r:Unit × PS}(h:compL it g t em i xs σ=some r):it.chk i σ.H:=by
 cases xs with
 | nil=>
  unfold compL at h
  split at h
  ·assumption
  ·exact nn h
 | cons=>
  unfold compL at h
  split at h
  ·assumption
  ·exact nn h
theorem lookup_of_mem {β:Type}:∀ {l:List (Str × β)}{x:Str},x∈l.map (·.1)→∃ c,l.lookup x=some c
 | [],_,h=>by simp at h
 | (y,d)::l,x,h=>by
  by_cases e:x=y
  ·rw[e];exact⟨d,by simp⟩
  ·have hne:(x==y)=false:=by simpa using e
   rw[List.lookup_cons,hne]
   exact lookup_of_mem (by simpa[e] using h)
structure CellsOf (env cenv:Env) (cl:List (Str × Addr)) (fz:List (Nat × Str)) (sc scope:Scope):Prop where
 inner:cenv.scope=relab scope sc
 outer:env.scope=sc
 cells:cenv.cells=cl
 names:cl.map (·.1)=fz.map (·.2)
 found:∀ y∈cl,env.cells.lookup y.1=some y.2
theorem CellsOf.back {env cenv:Env}{cl:List (Str × Addr)}{fz:List (Nat × Str)}{sc scope:Scope}(B:CellsOf env cenv cl fz sc scope) {x:Str}{c:Addr}(h:cl.lookup x=some c):env.cells.lookup x=some c:=B.found (x,c) (mem_of_lookup' h)
theorem CellsOf.of {env cenv:Env}{cl:List (Str × Addr)}{fz:List (Nat × Str)}{sc scope:Scope}(B:CellsOf env cenv cl fz sc scope) {x:Str}{c:Addr}(h:env.cells.lookup x=some c) (hx:x∈fz.map (·.2)):cl.lookup x=some c:=
 Exists.elim (lookup_of_mem (l:=cl) (B.names▸hx)) fun _ q=>Option.some.inj ((B.back q).symm.trans h)▸q
theorem inV_at {nl:Nat}{fz:List (Nat × Str)}{V:List (Option PV)}{i:Nat}{q:PV}(h:(inV nl fz V)[i]?=some (some q)):∃(j:Nat) (y:Nat × Str),i=nl+j∧fz[j]?=some y∧V[y.1]?=some (some q):=by
 unfold inV at h
 rcases Nat.lt_or_ge i nl with hin | hin
 ·rw[List.getElem?_append_left (by rw[List.length_replicate];exact hin),List.getElem?_replicate,if_pos hin] at h
  exact nomatch h
 ·rw[List.getElem?_append_right (by rw[List.length_replicate];exact hin),List.length_replicate,List.getElem?_map] at h
  obtain⟨y,hy,e⟩:=Option.map_eq_some_iff.mp h
  refine⟨_,y,(Nat.add_sub_of_le hin).symm,hy,?_⟩
  cases z:V[y.1]? with
  | none=>rw[z] at e;exact nn e
  | some o=>rw[z] at e;exact congrArg some e
theorem fr_inner {scope sc:Scope}{ns ns':List Str}{fz:List (Nat × Str)}{nl:Nat}{env cenv:Env}{cl:List (Str × Addr)}{α:List Ad}{U:List Addr}{V:List (Option PV)}{h:Heap}{m0:Str→Option Value}
  (K:CompOK scope sc ns ns' fz nl) (B:CellsOf env cenv cl fz sc scope) (F:FR ns env α U V h) (hm0:h.Ns cenv.locals m0):FR ns' cenv α U (inV nl fz V) h:=by
 refine⟨⟨m0,hm0,fun i x q e2 e3=>?_⟩,fun x c e2=>F.cells x c (B.back (B.cells▸e2))⟩
 refine gv fun _ gk=>?_
 obtain⟨j,y,rfl,hy,hV⟩:=inV_at e3
 obtain⟨xs,hlay,hxl⟩:=K.lay
 refine gk ?_
 rw[hlay,List.getElem?_append_right (Nat.le_trans (Nat.le_of_eq hxl) (Nat.le_add_right _ _)),hxl,Nat.add_sub_cancel_left,List.getElem?_map,hy] at e2
 obtain rfl:=sj e2
 have hyf:=List.mem_of_getElem? hy
 refine gv fun _ gk=>?_
 obtain⟨h1,h2,h3⟩:=K.outer y hyf
 obtain⟨m,hm,hsl⟩:=F.ex
 refine gk ?_
 rcases hsl y.1 y.2 q h1 hV with⟨a,_⟩ | ⟨_,c,v,b1,b2,b3⟩
 ·unfold Env.kindOf at a;rw[B.outer,h2] at a;exact nomatch a
 ·exact .inr ⟨by unfold Env.kindOf;rw[B.inner];exact h3,c,v,by rw[B.cells];exact B.of b1 (List.mem_map.mpr ⟨y,hyf,rfl⟩),b2,b3⟩
theorem fr_outer {scope sc:Scope}{ns ns':List Str}{fz:List (Nat × Str)}{nl:Nat}{env cenv:Env}{cl:List (Str × Addr)}{α α':List Ad}{U U':List Addr}{V V2:List (Option PV)}{h h':Heap}
  (K:CompOK scope sc ns ns' fz nl) (B:CellsOf env cenv cl fz sc scope) (hnd:(ownOf env).Nodup) (F:FR ns env α U V h) (G:FR ns' cenv α' U' V2 h') (hV2:V2.drop nl=(inV nl fz V).drop nl)
  (hN:∀ m,h.Ns env.locals m→h'.Ns env.locals m) (hC:∀ c v,c∈ownOf env→c ∉ cl.map (·.2)→h.IsCell c v→h'.IsCell c v) (hR:∀ v p,VR α U h v p→VR α' U' h' v p):FR ns env α' U' V h':=by
 have hnd:=(List.nodup_cons.mp hnd).2
 obtain⟨m,hm,hsl⟩:=F.ex
 have key:∀ {x:Str}{c:Addr},env.cells.lookup x=some c→c∈cl.map (·.2)→cl.lookup x=some c∧x∈fz.map (·.2):=fun {x c} e hcc=>by
  obtain⟨y,hy,rfl⟩:=List.mem_map.mp hcc
  have hx:=same_key hnd (B.found y hy) e
  have:x∈fz.map (·.2):=B.names▸hx▸List.mem_map.mpr ⟨y,hy,rfl⟩
  exact⟨B.of e this,this⟩
 refine⟨⟨m,hN m hm,fun j x q e2 e3=>?_⟩,fun x c e2=>?_⟩
 ·rcases hsl j x q e2 e3 with⟨a,v,b1,b2⟩ | ⟨a,c,v,b1,b2,b3⟩
  ·exact .inl ⟨a,v,b1,hR _ _ b2⟩
  ·by_cases hcc:c∈cl.map (·.2)
   ·obtain⟨e5,e6⟩:=key b1 hcc
    obtain⟨f,hff,rfl⟩:=List.mem_map.mp e6
    obtain⟨i1,g1⟩:=List.getElem?_of_mem hff
    obtain⟨h1,h2,h3⟩:=K.outer f hff
    obtain⟨xs,hlay,hxl⟩:=K.lay
    have hjf:f.1=j:=nodup_idx K.nodup h1 e2
    have inn:ns'[nl+i1]?=some f.2:=by rw[hlay,List.getElem?_append_right (Nat.le_trans (Nat.le_of_eq hxl) (Nat.le_add_right _ _)),hxl,Nat.add_sub_cancel_left,List.getElem?_map,g1];rfl
    have vv:V2[nl+i1]?=some (some q):=by
     rw[← List.getElem?_drop,hV2,List.getElem?_drop]
     unfold inV
     rw[List.getElem?_append_right (by rw[List.length_replicate];exact Nat.le_add_right _ _),List.length_replicate,Nat.add_sub_cancel_left,List.getElem?_map,g1]
     exact congrArg (fun o=>some (Option.join o)) (hjf▸e3)
    obtain⟨mi,hmi,hsi⟩:=G.ex
    rcases hsi _ f.2 q inn vv with⟨a',_⟩ | ⟨_,c',v',b1',b2',b3'⟩
    ·unfold Env.kindOf at a';rw[B.inner,h3] at a';exact nomatch a'
    ·rw[B.cells,e5] at b1'
     obtain rfl:=sj b1'
     exact .inr ⟨a,c,v',b1,b2',b3'⟩
   ·exact .inr ⟨a,c,v,b1,hC c _ (cell_own b1) hcc b2,hR _ _ b3⟩
 ·by_cases hcc:c∈cl.map (·.2)
  ·exact G.cells x c (by rw[B.cells];exact(key e2 hcc).1)
  ·exact(F.cells x c e2).elim fun v hv=>⟨v,hC c v (cell_own e2) hcc hv⟩
section
variable {k:Nat}{sc:Scope}{ns:List Str}
theorem comp_cx {w:World}{h0:Heap}{mg mb:Str→Option Value}{A:Around}{scope:Scope}{ns ns':List Str}{fz:List (Nat × Str)}{nl:Nat}{env cenv:Env}{U U':List Addr}{cl:List (Str × Addr)}
  (K:CompOK scope sc ns ns' fz nl) (C:Cx w h0 mg mb k A sc env U) (B:CellsOf env cenv cl fz sc scope) (hU:∀ a∈U,a∈U') (hL:cenv.locals∈U') (hn:cenv.locals ∉ U) (hg:cenv.globals=env.globals) (hb:cenv.builtins=builtinsNs) (hf:cenv.frame=env.frame):Cx w h0 mg mb k A (relab scope sc) cenv U':=by
 have clown:∀ a∈cl.map (·.2),a∈U:=fun a ha=>by
  obtain⟨y,hy,rfl⟩:=List.mem_map.mp ha
  exact C.own _ (cell_own (B.found y hy))
 have hcown:ownOf cenv=cenv.locals::cl.map (·.2):=by unfold ownOf;rw[B.cells]
 refine⟨C.base,C.a.more hU,⟨B.inner,K.kind,hg.trans C.e.glob,hb,?_,K.more,fun x hx=>?_⟩,fun a ha=>?_,hf.symm▸C.fr⟩
 ·rw[hcown]
  refine List.nodup_cons.mpr ⟨fun q=>hn (clown _ q),?_⟩
  have hl:cl.length≤1:=by have:=congrArg List.length B.names;rw[List.length_map,List.length_map] at this;rw[this];exact K.one
  match cl,hl with
  | [],_=>exact List.Pairwise.nil
  | [y],_=>exact List.nodup_cons.mpr ⟨List.not_mem_nil,List.Pairwise.nil⟩
 ·rw[B.cells];exact lookup_of_mem (by rw[B.names];exact K.cov x hx)
 ·rw[hcown] at ha
  exact(List.mem_cons.mp ha).elim (fun q=>q▸hL) fun q=>hU _ (clown a q)
theorem comp_out {w:World}{h0:Heap}{scope:Scope}{ns ns':List Str}{fz:List (Nat × Str)}{nl:Nat}{env cenv:Env}{cl:List (Str × Addr)}{α α':List Ad}{U U0 own fr:List Addr}{V:List (Option PV)}{h h':Heap}{H2:List PObj}{V2:List (Option PV)}
  (K:CompOK scope sc ns ns' fz nl) (B:CellsOf env cenv cl fz sc scope) (hnd:(ownOf env).Nodup) (F:FR ns env α U V h) (S:St w h0 ns' cenv α' U0 ⟨H2,V2⟩ h') (hV2:V2.drop nl=(inV nl fz V).drop nl) (T:Step0 own fr α h α' h') (ho:∀ a∈own,a∈U) (hU0:∀ a∈U0,a∈U)
  (aw:∀ a∈ownOf env,away α a) (hn:∀ a∈ownOf env,a ∉ cl.map (·.2)→a ∉ own):St w h0 ns env α' U0 ⟨H2,V⟩ h':=by
 refine⟨S.wf,fr_outer K B hnd F S.fr hV2 (fun m hm=>?_) (fun c v hc hn' ⟨o,ho,r2⟩=>?_) fun v p x=>(x.mono0 T ho).lock fun a ha=>.inl (hU0 a ha)⟩
 ·have locn:env.locals ∉ cl.map (·.2):=fun q=>by
   obtain⟨y,hy,q⟩:=List.mem_map.mp q
   exact(List.nodup_cons.mp hnd).1 (q▸List.mem_map.mpr ⟨(y.1,y.2),mem_of_lookup' (B.found y hy),rfl⟩)
  obtain⟨o,es,ep,ho,r1,r2⟩:=hm
  obtain⟨o',ho',l⟩:=T.data _ o ho (aw _ (.head _)) (hn _ (.head _) locn)
  exact⟨o',es,ep,ho',l.2.2.trans r1,r2⟩
 ·obtain⟨o',ho',l⟩:=T.data c o ho (aw c hc) (hn c hc hn')
  exact⟨o',ho',l.2.2.trans r2⟩
theorem comp_main {scope:Scope}{ns':List Str}{fz:List (Nat × Str)}{nl:Nat}{e iter target:Expr}{ipos:Pos}{ifs:List Expr}{newAcc:Sem Value}{ob:Obj}{new:PObj}{fi:PM It}{g:PV→PM Unit}{t:PM Bool}{emit:Value→Env→Sem Unit}{em:Nat→PM Unit}
  (K:CompOK scope sc ns ns' fz nl) (hi:SIter k sc ns iter target fi) (hT:SAs k (relab scope sc) ns' target g) (ht:STs k (relab scope sc) ns' ifs t) (hE:SEm k (relab scope sc) ns' emit em)
  (hacc:∀(w:World) (A:Around) (s:Shared) (Q:Value→Shared→Prop) (E:Value→Shared→Prop),Q (.ref s.heap.objs.size) {s with heap:=s.heap.push ob}→wpAny (model prog w) A newAcc Q E s)
  (hob:ob.isFreed=false) (hor:∀(w:World) (α:List Ad) (U:List Addr) (h:Heap) (D:Addr),h.get? D=some ob→OR w α U h (D,D) new)
  (hstart:∀(w:World) (A:Around) (R:Result→Shared→Prop) (s:Shared) (it acc:Value) (env:Env),codeAny (model prog w) A (.compLoop e 0 it acc env) R s→wpAny (model prog w) A (pyIter it) (fun it' s'=>codeAny (model prog w) A (.compLoop e 0 it' acc env) R s') (notedBy (model prog w) A env fun x s'=>R (.error x) s') s→
   codeAny (model prog w) A (.compStart e 0 it acc env) R s)
  (hund:∀(A:Around) (I D:Addr) (env:Env),A.under (.compLoop e 0 (.ref I) (.ref D) env)=A)
  (hturn:∀(w:World) (I D:Addr) (env:Env),(model prog w).den (.compLoop e 0 (.ref I) (.ref D) env)=(turnOf e target ipos ifs (.ref I) (.ref D) env (emit (.ref D) env)).onRaise (fun x=>do noteFrame x env;theTreesLotGoes x))
  {w:World}{h0:Heap}{mg mb:Str→Option Value}{A:Around}{env:Env}{α:List Ad}{U:List Addr}{s:Shared}{σ σ':PS}{p:PV}{cl:List (Str × Addr)}{E:Value→Shared→Prop}{RR:Value→Addr→Result→Shared→Prop}
  (C:Cx w h0 mg mb k A sc env U) (S:St w h0 ns env α U σ s.heap) (hf:pComp nl fz fi new g t em σ=some (p,σ')) (hcl1:cl.map (·.1)=fz.map (·.2)) (hcl2:∀ y∈cl,env.cells.lookup y.1=some y.2)
  (hRR:∀ D Ca s' α',s.heap.get? Ca=none→(∃ m,s'.heap.Ns Ca m)→St w h0 ns env α' (Ca::U) σ' s'.heap→VR α' (Ca::U) s'.heap (.ref D) p→Step (Ca::ownOf env) (frs A) α s.heap α' s'.heap→Rest s s'→RR (.ref D) Ca (.ok .next) s'):
  wpAny (model prog w) A (eval iter env) (fun x s₁=>wpAny (model prog w) A (pyIter x) (fun it s₂=>wpAny (model prog w) A newAcc (fun acc s₃=>
   wpAny (model prog w) A (newFunctionEnv scope env.globals cl [] env.qual none .none (some env)) (fun cenv s₄=>
    codeAny (model prog w) A (.compStart e 0 it acc {cenv with scope:=relabel scope env}) (RR acc cenv.locals) s₄) E s₃) E s₂) E s₁) E s:=by
 revert hRR
 refine pComp_elim hf fun it σ1 σ2 e1 hL hV2 hRR=>?_
 refine wpAny_mono (hi w h0 mg mb A env α U s σ it σ1 C S e1) (fun v s1 hh1=>wpAny_mono hh1 ?_ fun _ _ q=>q.elim) fun _ _ q=>q.elim
 refine fun r s2 h=>ItPost.elim h fun I wr α1 T S2 T2 R2 hn hT0 hI=>hacc w A s2 _ _ (wpAny_newFunctionEnv K.cell (fun y hy=>nomatch hy) (fun h4 hns hsb=>?_) K.kind)
 skip
 refine hide fun G hG=>?_
 generalize hH3:s2.heap.push ob=h3 at hns hsb hG
 generalize hDe:s2.heap.objs.size=D at hns hsb hG
 generalize hCa:h3.objs.size=Ca at hns hsb hG
 have hDn:s2.heap.get? D=none:=hDe▸get_size_none s2.heap
 have hCn3:h3.get? Ca=none:=hCa▸get_size_none h3
 have k23:∀ a o,s2.heap.get? a=some o→h3.get? a=some o:=fun a o q=>hH3▸Heap.get?_push_of_some _ q
 have hCn:s2.heap.get? Ca=none:=gone k23 hCn3
 have k34:∀ a o,h3.get? a=some o→h4.get? a=some o:=fun a o q=>hsb.extBut a o (fun z=>no2 q (z▸hCn3)) (Heap.get?_push_of_some _ q)
 have k24:∀ a o,s2.heap.get? a=some o→h4.get? a=some o:=fun a o q=>k34 a o (k23 a o q)
 have hD3:h3.get? D=some ob:=by rw[← hH3,← hDe];exact Heap.get?_push_size _ hob
 have hC4:∃ o,h4.get? Ca=some o:=hns.elim fun o q=>q.elim fun _ q=>q.elim fun _ q=>⟨o,q.1⟩
 have hCs:s.heap.get? Ca=none:=T2.gone hCn
 -- the accumulator
 obtain⟨W3,T3⟩:=S2.wf.new (p:=(D,D)) (h':=h3) k23 hDn hDn ⟨_,hD3⟩ ⟨_,hD3⟩ (hDe▸low3 C.base S2.wf) (o:=new) (hor w _ _ _ _ hD3)
 have lk3:∀ a∈Ca::(wr++U),a∈wr++U∨h3.get? a=none:=fun a ha=>(List.mem_cons.mp ha).symm.imp id fun(q:a=Ca)=>q▸hCn3
 have W4:Wf w h0 (α1++[(D,D)]) (Ca::(wr++U)) (σ1.H++[new]) h4:=W3.enter k34 lk3 fun a ha=>(List.mem_cons.mp ha).elim (fun q=>q▸hC4) fun q=>(W3.lock a q).2.2.elim fun o ho=>⟨o,k34 _ _ ho⟩
 have T34:Step [] [] (α1++[(D,D)]) h3 (α1++[(D,D)]) h4:=keep_step k34
 have T24:Step [] [] α1 s2.heap (α1++[(D,D)]) h4:=T3.trans T34
 have F4:FR ns env (α1++[(D,D)]) (Ca::(wr++U)) σ1.V h4:=((S2.fr.mono T3 (fun _ q=>nomatch q) fun a _ o q=>k23 a o q).relock lk3).mono T34 (fun _ q=>nomatch q) fun a _ o q=>k34 a o q
 -- the inner frame
 have uC:∀ a∈U,a≠Ca:=fun a ha q=>(S2.wf.lock a (List.mem_append_right _ ha)).2.2.elim fun o ho=>no2 ho (q▸hCn)
 generalize hce:({newEnv scope Ca env.globals cl env.qual none .none (some env) builtinsNs with scope:=relabel scope env}:Env)=cenv at hG
 have hloc:cenv.locals=Ca:=by rw[← hce];rfl
 have B:CellsOf env cenv cl fz sc scope:=⟨by rw[← hce,← C.e.scope];rfl,C.e.scope,by rw[← hce];rfl,hcl1,hcl2⟩
 have hcown:∀ {a},a∈ownOf cenv→a=Ca∨a∈cl.map (·.2):=fun {a} ha=>by unfold ownOf at ha;rw[hloc,B.cells] at ha;exact List.mem_cons.mp ha
 have clown:∀ {a},a∈cl.map (·.2)→a∈ownOf env:=fun {a} q=>(List.mem_map.mp q).elim fun y q=>q.2▸cell_own (hcl2 y q.1)
 have C4:Cx w h0 mg mb k A (relab scope sc) cenv (Ca::(wr++U)):=comp_cx K C B (fun a ha=>.tail _ (List.mem_append_right _ ha)) (hloc▸.head _) (fun q=>uC _ q hloc) (by rw[← hce];rfl) (by rw[← hce];exact C.e.blt) (by rw[← hce];rfl)
 have hDa:(α1++[(D,D)])[σ1.H.length]?=some (D,D):=by rw[← S2.wf.len,List.getElem?_append_right (Nat.le_refl _),Nat.sub_self];rfl
 -- the loop
 have T0:Step0 (Ca::(wr++U)) (frs A) α1 s2.heap (α1++[(D,D)]) h4:=(T24.plain (own:=Ca::(wr++U)) (fr:=frs A)).toStep0
 have hU0:∀ a∈Ca::U,a∈Ca::(wr++U)∧a ∉ wr:=fun a ha=>(List.mem_cons.mp ha).elim
  (fun q=>⟨q▸.head _,fun z=>(S2.wf.lock a (List.mem_append_left _ z)).2.2.elim fun o ho=>no2 ho (q▸hCn)⟩)
  fun q=>⟨.tail _ (List.mem_append_right _ q),fun z=>(S.wf.lock a q).2.2.elim fun o ho=>no2 ho (hn a z)⟩
 have hcU:∀ a∈ownOf cenv,a∈Ca::U:=fun a ha=>(hcown ha).elim (fun q=>q▸.head _) fun q=>.tail _ (C.own _ (clown q))
 have It:=hI (Ca::(wr++U)) (fun a ha=>.tail _ ha) (fun a ha=>(List.mem_cons.mp ha).symm.imp id fun(q:a=Ca)=>q▸hCn) s2.heap fun _ _ q=>q
 have loop:codeAny (model prog w) A (.compLoop e 0 (.ref I) (.ref D) cenv) (RR (.ref D) Ca) {s2 with heap:=h4,toks:=s2.toks+0}:=by
  refine comp_loop (U0:=Ca::U) (hund A I D cenv) (hturn w I D cenv) α1 s2.heap T0 It C4 hU0 hcU (fun a ha=>.tail _ (C.a.frs a ha)) hT ht hE hDa (s:={s2 with heap:=h4,toks:=s2.toks+0}) ⟨W4,fr_inner K B F4 (hloc▸hns)⟩
   (It.frame _ _ _ hT0 fun b hb o q=>k24 b o q) hL fun s' α' S5 T5 al R5=>?_
  have hl:∃ m,s'.heap.Ns Ca m:=S5.fr.ex.elim fun m hm=>⟨m,hloc▸hm.1⟩
  refine hRR D Ca s' α' hCs hl (comp_out K B C.e.nodup F4 S5 hV2 T5 (fun a ha=>(List.mem_append.mp ha).elim (fun q=>.tail _ (List.mem_append_left _ q)) fun q=>(hU0 a (hcU a q)).1) (fun a ha=>(hU0 a ha).1)
   (fun a ha=>(W4.lock a (.tail _ (List.mem_append_right _ (C.own a ha)))).1) fun a ha hc q=>(List.mem_append.mp q).elim (hU0 a (.tail _ (C.own a ha))).2 fun q=>(hcown q).elim (uC a (C.own a ha)) hc) (.ref (T5.index hDa))
   (step_close ((T2.weaken (fun a q=>.tail _ q) fun a q=>q).trans T24.plain) T5 al hn fun a q=>(List.mem_append.mp q).symm.imp (fun q=>(hcown q).elim (fun q=>q▸.head _) fun q=>.tail _ (clown q)) (hn a)) (R2.trans R5)
 refine hG (hstart w A _ _ _ _ _ loop ?_)
 exact It.self (α1++[(D,D)]) (σ1.H++[new]) _ _ _ T0 (compL_chk hL) W4 (It.frame _ _ _ hT0 fun b hb o q=>k24 b o q) loop
end
end Mine.Internal
namespace Mine.Internal
open PySem PySem.W PyProof.Rows PySem.Calls
section
variable {k:Nat}{sc:Scope}{ns:List Str}
theorem St.unlock {w:World}{h0:Heap}{env:Env}{α:List Ad}{U:List Addr}{σ:PS}{h h':Heap}{Ca:Addr}(S:St w h0 ns env α (Ca::U) σ h) (hCU:Ca ∉ U) (hown:∀ a∈ownOf env,a∈U) (hsb:Heap.SameBut Ca h h'):St w h0 ns env α U σ h'∧Step0 [Ca] [] α h α h':=by
 have T:Step0 [Ca] [] α h α h':=⟨⟨[],by simp,fun _ q=>nomatch q⟩,fun a o e _ hn _=>hsb.extBut a o (fun q=>hn (by simp[q])) e,fun a o e _ hn=>⟨o,hsb.extBut a o (fun q=>hn (by simp[q])) e,.refl o⟩⟩
 refine⟨⟨S.wf.leave (wr:=[Ca]) (fun a ha=>⟨.tail _ ha,fun q=>by have q:=List.mem_singleton.mp q;subst q;exact hCU ha⟩) (fun a ha=>by have ha:=List.mem_singleton.mp ha;subst ha;exact .head _) fun a o hn e=>hsb.extBut a o (fun q=>hn (by simp[q])) e,?_⟩,T⟩
 refine(S.fr.mono0 T (fun a ha=>by have ha:=List.mem_singleton.mp ha;subst ha;exact .head _) fun a ha o e=>⟨o,hsb.extBut a o (fun q=>hCU (q▸hown a ha)) e,.refl o⟩).relock fun a ha=>.inl (.tail _ ha)
theorem comp_end {w:World}{h0:Heap}{mg mb:Str→Option Value}{A:Around}{env:Env}{α α':List Ad}{U:List Addr}{σ':PS}{h h1 h':Heap}{Ca:Addr}(C:Cx w h0 mg mb k A sc env U) (hW:∀ a∈U,∃ o,h.get? a=some o) (hn:h.get? Ca=none) (S:St w h0 ns env α' (Ca::U) σ' h1) (T:Step (Ca::ownOf env) (frs A) α h α' h1) (hsb:Heap.SameBut Ca h1 h'):
  St w h0 ns env α' U σ' h'∧Step (ownOf env) (frs A) α h α' h'∧Step0 [Ca] [] α' h1 α' h':=by
 have hCU:Ca ∉ U:=fun q=>by obtain⟨o,e⟩:=hW _ q;exact no2 e hn
 obtain⟨S',T'⟩:=S.unlock hCU C.own hsb
 refine⟨S',⟨T.ext,fun a o e x y z=>?_,fun a o e x y=>?_,fun a o e=>?_⟩,T'⟩
 ·have hne:a≠Ca:=fun q=>no2 e (q▸hn)
  exact hsb.extBut a o hne (T.only a o e x (fun q=>by rcases List.mem_cons.mp q with q | q;exact hne q;exact y q) z)
 ·have hne:a≠Ca:=fun q=>no2 e (q▸hn)
  obtain⟨o',e',l⟩:=T.data a o e x (fun q=>by rcases List.mem_cons.mp q with q | q;exact hne q;exact y q)
  exact⟨o',hsb.extBut a o' hne e',l⟩
 ·obtain⟨o',e'⟩:=T.alive a o e
  exact⟨o',hsb.extBut a o' (fun q=>no2 e (q▸hn)) e'⟩
noncomputable def emL (f:PM PV) (d:Nat):PM Unit:=seq f fun x=>seq (pCallF F_append [.ref d,x]) fun _=>ret ()
theorem SEm_list {elt:Expr}{f:PM PV}(h:SE k sc ns elt f):SEm k sc ns (fun acc env=>do let _ ← call (.builtin "list.append") [acc,← eval elt env]) (emL f):=by
 intro w h0 mg mb A env α U s σ σ' d D C S hD hf
 refine seq_elim hf fun x σ1 e1 hf=>?_
 refine seq_elim hf fun y σ2 e2 hf=>?_
 obtain⟨r,q1,q2⟩:=Option.map_eq_some_iff.mp e2
 cases q2;cases hf
 refine wpAny_bind (h.run C S e1 fun v s1 α1 V1 S1 T1 R1=>wpAny_bind (callee_ok (sf_append (k:=k)) C S1 (.cons (.ref (T1.index hD)) (.cons V1 .nil)) q1 fun v2 s2 α2 V2 S2 T2 R2=>wpAny_pure ⟨α2,trivial,S2,T1.trans T2,R1.trans R2⟩))
noncomputable def pListComp (nl:Nat) (fz:List (Nat × Str)) (fi:PM It) (g:PV→PM Unit) (t:PM Bool) (f:PM PV):PM PV:=pComp nl fz fi (.list []) g t (emL f)
theorem cells_of {w:World}{h0:Heap}{mg mb:Str→Option Value}{A:Around}{env:Env}{U:List Addr}{scope:Scope}{ns':List Str}{fz:List (Nat × Str)}{nl:Nat}(C:Cx w h0 mg mb k A sc env U) (K:CompOK scope sc ns ns' fz nl):∃ cl,closureFor scope env=pure cl∧cl.map (·.1)=fz.map (·.2)∧∀ y∈cl,env.cells.lookup y.1=some y.2:=
 K.clos env C.e.scope fun y hy=>C.e.cellsOK y.2 (K.outer y hy).2.1
theorem SE_listcomp {scope:Scope}{ns':List Str}{fz:List (Nat × Str)}{nl:Nat}{elt iter target:Expr}{ifs:List Expr}{pos:Pos}{fi:PM It}{g:PV→PM Unit}{t:PM Bool}{f:PM PV}
  (K:CompOK scope sc ns ns' fz nl) (hi:SIter k sc ns iter target fi) (hT:SAs k (relab scope sc) ns' target g) (ht:STs k (relab scope sc) ns' ifs t) (he:SE k (relab scope sc) ns' elt f) (hs:∀(env:Env) x,foldedSetIterable iter env x=pure x):
  SE k sc ns (.ListComp elt [⟨target,iter,ifs,0⟩] scope pos) (pListComp nl fz fi g t f):=by
 refine Jd.of fun {w h0 mg mb A env α U s σ p σ'} C S hf Q₀ hQ=>?_
 refine gv fun _ gk=>?_
 obtain⟨cl,hcl,h1,h2⟩:=cells_of C K
 refine gk ?_
 show wpAny _ _ (eval _ env) _ _ _
 skip
 refine wpAny_comprehension_free (use:=none) rfl (hs env) hcl K.kind K.names ?_
 refine comp_main (new:=.list []) K hi hT ht (SEm_list he) (fun w A s Q E h=>wpAny_newList h (by simp)) rfl (fun w α U h D e=>⟨rfl,[],0,e,.nil⟩) (fun w A R s it acc env h h'=>codeAny_compStart_list h h') (fun _ _ _ _=>rfl) (fun _ _ _ _=>rfl) C S hf h1 h2 fun D Ca s' α' hn ⟨m,hm⟩ S' V' T' R'=>?_
 refine⟨m,hm,fun h' hsb=>?_⟩
 refine gv fun _ gk=>?_
 obtain⟨S2,T2,T3⟩:=comp_end C (fun a ha=>(S.wf.lock a ha).2.2) hn S' T' hsb
 refine gk ?_
 exact(hQ _ _ α' ((V'.mono0 T3 fun a ha=>by have ha:=List.mem_singleton.mp ha;rw[ha];exact .head _).lock fun a ha=>.inl (.tail _ ha)) S2 T2 R')
theorem SS_assign_listcomp (i:Nat) {x:Str}{px:Pos}{spos:Pos}{scope:Scope}{ns':List Str}{fz:List (Nat × Str)}{nl:Nat}{elt iter target:Expr}{ifs:List Expr}{pos:Pos}{fi:PM It}{g:PV→PM Unit}{t:PM Bool}{f:PM PV}
  (K:CompOK scope sc ns ns' fz nl) (hi:SIter k sc ns iter target fi) (hT:SAs k (relab scope sc) ns' target g) (ht:STs k (relab scope sc) ns' ifs t) (he:SE k (relab scope sc) ns' elt f) (hs:∀(env:Env) x,foldedSetIterable iter env x=pure x)
  (hx:ns[i]?=some x) (hn:ns.Nodup) (hk:(sc.names.lookup x==some .local || sc.names.lookup x==some .cell)=true)
  (hsw:∀ env:Env,env.scope=sc→swapsWith (.ListComp elt [⟨target,iter,ifs,0⟩] scope pos) (some (.Name x px)) spos.line env=pure true):
  SS k sc ns (.Assign [.Name x px] (.ListComp elt [⟨target,iter,ifs,0⟩] scope pos) spos) (sSet i (pListComp nl fz fi g t f)):=by
 refine Jd.of fun {w h0 mg mb A env α U s σ p σ'} C S hf Q₀ hQ=>?_
 refine seq_elim hf fun q σ1 e1 hf=>?_
 revert hQ;refine sp2e (c:=p) (d:=σ') hf fun hQ=>?_
 refine gv fun _ gk=>?_
 obtain⟨cl,hcl,h1,h2⟩:=cells_of C K
 refine gk ?_
 refine(?_:wpAny _ _ (exec _ env) _ _ _)
 rw[exec_Assign_Name_used _ _ _ _ (hsw env C.e.scope)]
 refine wpAny_bind (wpAny_standAt (wpAny_bind ?_))
 refine(?_:wpAny _ A (do let _ ← comprehension (.ListComp elt [⟨target,iter,ifs,0⟩] scope pos) scope env _ (newList []) false (eval iter env) (some (assign (.Name x px) env))) _ _ s)
 refine wpAny_bind (wpAny_mono (wpAny_comprehension_free (use:=some (assign (.Name x px) env)) (Q:=fun _ s'=>Q₀ .next s') (E:=bot) rfl (hs env) hcl K.kind K.names ?_) (fun _ s' hq=>wpAny_pure (wpAny_pure hq)) fun _ _ e=>e.elim)
 refine comp_main (new:=.list []) K hi hT ht (SEm_list he) (fun w A s Q E h=>wpAny_newList h (by simp)) rfl (fun w α U h D e=>⟨rfl,[],0,e,.nil⟩) (fun w A R s it acc env h h'=>codeAny_compStart_list h h') (fun _ _ _ _=>rfl) (fun _ _ _ _=>rfl) C S e1 h1 h2 fun D Ca s' α' hnC ⟨m,hm⟩ S' V' T' R'=>?_
 have C':Cx w h0 mg mb k A sc env (Ca::U):=⟨C.base,C.a.more fun a ha=>.tail _ ha,C.e,fun a ha=>.tail _ (C.own a ha),C.fr⟩
 refine(?_:wpAny _ A (assign (.Name x px) env (.ref D)) _ _ _)
 refine wpAny_assign_Name (store_name C' S' hx hn hk V' fun h3 tk S3 T3=>?_)
 have hCo:Ca ∉ ownOf env:=fun z=>by obtain⟨o,e⟩:=(S.wf.lock _ (C.own _ z)).2.2;exact no2 e hnC
 have T':Step (Ca::ownOf env) (frs A) α s.heap α' s'.heap:=T'
 refine gv fun _ gk=>?_
 obtain⟨oC,es,ep,hoC,r1,r2⟩:=hm
 obtain⟨oC',hoC',l⟩:=T3.data Ca oC hoC (S'.wf.lock Ca (.head _)).1 hCo
 refine gk ?_
 refine⟨m,⟨oC',es,ep,hoC',l.2.2.trans r1,r2⟩,fun h' hsb=>?_⟩
 refine gv fun _ gk=>?_
 obtain⟨S2,T2,_⟩:=comp_end C (fun a ha=>(S.wf.lock a ha).2.2) hnC S3 (T'.trans (T3.weaken (fun a ha=>.tail _ ha) fun _ q=>q)) hsb
 refine gk ?_
 exact(hQ _ _ α' .next S2 T2 R')
noncomputable def pPutD (d:Nat) (a b:PV):PM Unit:=fun σ=>match σ.H[d]?,a with
 | some (.dict es ep),.int kk=>if es.length≤1000 then some ((),⟨σ.H.set d (.dict (dput es kk b) (dep es kk ep)),σ.V⟩) else none
 | _,_=>none
noncomputable def emD (fk fv:PM PV) (d:Nat):PM Unit:=seq fk fun a=>seq fv fun b=>pPutD d a b
noncomputable def pDictComp (nl:Nat) (fz:List (Nat × Str)) (fi:PM It) (g:PV→PM Unit) (t:PM Bool) (fk fv:PM PV):PM PV:=pComp nl fz fi (.dict [] 0) g t (emD fk fv)
noncomputable def emitD (kx vx:Expr) (acc:Value) (env:Env):Sem Unit:=do
 let kv ← eval kx env
 let vv ← holding [kv] (eval vx env)
 match acc with
 | .ref D=>do
  standAt {kx.pos with endLine:=vx.pos.endLine,endCol:=vx.pos.endCol}
  holding [kv,vv] (dictSet D kv vv)
 | _=>unsupported ""
@[elab_as_elim] theorem pPutD_elim {d:Nat}{a b:PV}{σ σ':PS}{P:PV→PS→Prop}(hf:pPutD d a b σ=some ((),σ'))
  (k:∀ es ep ks,σ.H[d]?=some (.dict es ep)→es.length≤1000→P (.int ks) ⟨σ.H.set d (.dict (dput es ks b) (dep es ks ep)),σ.V⟩):P a σ':=by
 unfold pPutD at hf
 split at hf
 ·rename_i es ep ks hH
  split at hf
  ·rename_i hlen0
   obtain⟨-,rfl⟩:=sp2 hf
   exact k es ep ks hH hlen0
  ·exact nn hf
 ·exact nn hf
theorem SEm_dict {kx vx:Expr}{fk fv:PM PV}(hk:SE k sc ns kx fk) (hv:SE k sc ns vx fv):SEm k sc ns (emitD kx vx) (emD fk fv):=by
 intro w h0 mg mb A env α U s σ σ' d D C S hD hf0
 refine seq_elim hf0 fun a σ1 e1 hf1=>?_
 refine seq_elim hf1 fun b σ2 e2 hf=>?_
 clear hf0 hf1
 skip
 refine wpAny_bind (hk.run C S e1 fun v1 s1 α1 V1 S1 T1 R1=>wpAny_bind (wpAny_holding (hv.run C S1 e2 fun v2 s2 α2 V2 S2 T2 R2=>?_)))
 refine wpAny_bind (wpAny_standAt (wpAny_holding ?_))
 refine hide fun G hG=>?_
 revert V1 hG
 refine pPutD_elim hf fun es ep ks hH hlen0 V1=>?_
 refine VR.int_elim V1 fun t hG=>?_
 have hD2:=T2.index (T1.index hD)
 obtain⟨q,hq,hb,kvs,hd,hkv⟩:=S2.wf.at hH
 rw[hD2] at hq;obtain rfl:=sj hq
 have hlen:=KVs.length hkv
 refine hG (put_dict (intKind_is prog w ks t) hd (Nat.le_trans (Nat.le_of_eq hlen) (Nat.le_trans hlen0 (show 1000≤sizeLine by decide))) fun h' hd' hsb=>?_)
 rw[KVs.any hkv ks] at hd'
 have ho1:∃ o,h'.get? D=some o:=hd'.elim fun o x=>x.elim fun _ x=>⟨o,x.1⟩
 have T0:Step [] [] α2 s2.heap α2 h':=by
  refine but_step (fun c o x _ ec=>(hsb.2 c (x _ (List.mem_of_getElem? hD2)).1.symm).trans ec) fun c o ec=>?_
  by_cases q:c=D
  ·rw[q];exact ho1
  ·exact⟨o,(hsb.2 c q).trans ec⟩
 have X:=St.upd C S2 hD2 (fun c o h1 _ ec=>(hsb.2 c h1).trans ec) ho1 ho1 (o':=.dict (dput es ks b) (dep es ks ep))
  ⟨rfl,_,hd',KVs.put ⟨hkv.1,hkv.2.mono T0 fun _ q=>nomatch q⟩ (V2.mono T0 fun _ q=>nomatch q)⟩
 exact⟨α2,trivial,X.1,(T1.trans T2).trans X.2,R1.trans R2⟩
theorem SE_dictcomp {scope:Scope}{ns':List Str}{fz:List (Nat × Str)}{nl:Nat}{kx vx iter target:Expr}{ifs:List Expr}{pos:Pos}{fi:PM It}{g:PV→PM Unit}{t:PM Bool}{fk fv:PM PV}
  (K:CompOK scope sc ns ns' fz nl) (hi:SIter k sc ns iter target fi) (hT:SAs k (relab scope sc) ns' target g) (ht:STs k (relab scope sc) ns' ifs t) (hk:SE k (relab scope sc) ns' kx fk) (hv:SE k (relab scope sc) ns' vx fv) (hs:∀(env:Env) x,foldedSetIterable iter env x=pure x):
  SE k sc ns (.DictComp kx vx [⟨target,iter,ifs,0⟩] scope pos) (pDictComp nl fz fi g t fk fv):=by
 refine Jd.of fun {w h0 mg mb A env α U s σ p σ'} C S hf Q₀ hQ=>?_
 refine gv fun _ gk=>?_
 obtain⟨cl,hcl,h1,h2⟩:=cells_of C K
 refine gk ?_
 show wpAny _ _ (eval _ env) _ _ _
 skip
 refine wpAny_comprehension_free (use:=none) rfl (hs env) hcl K.kind K.names ?_
 refine comp_main (new:=.dict [] 0) (ob:={cls:=.type "dict",data:=.dict #[]}) K hi hT ht (SEm_dict hk hv) (fun w A s Q E h=>wpAny_newObj_type h) rfl (fun w α U h D e=>⟨rfl,[],⟨_,#[],e,⟨rfl,rfl,rfl⟩,rfl,fun e he=>by simp at he,.nil,by decide⟩,rfl,.nil⟩) (fun w A R s it acc env h h'=>codeAny_compStart_dict h h') (fun _ _ _ _=>rfl) (fun _ _ _ _=>rfl) C S hf h1 h2 fun D Ca s' α' hn ⟨m,hm⟩ S' V' T' R'=>?_
 refine⟨m,hm,fun h' hsb=>?_⟩
 refine gv fun _ gk=>?_
 obtain⟨S2,T2,T3⟩:=comp_end C (fun a ha=>(S.wf.lock a ha).2.2) hn S' T' hsb
 refine gk ?_
 exact(hQ _ _ α' ((V'.mono0 T3 fun a ha=>by have ha:=List.mem_singleton.mp ha;rw[ha];exact .head _).lock fun a ha=>.inl (.tail _ ha)) S2 T2 R')
end
end Mine.Internal
namespace Mine.Internal
open PySem PySem.W PyProof.Rows PySem.Calls
theorem lenA1 {τ:Type}{P:List τ→Prop}(k:∀ a,P [a]):∀ l:List τ,l.length=1→P l
 | [a],_=>k a
theorem lenA2 {τ:Type}{P:List τ→Prop}(k:∀ a b,P [a,b]):∀ l:List τ,l.length=2→P l
 | [a,b],_=>k a b
theorem lenA3 {τ:Type}{P:List τ→Prop}(k:∀ a b c,P [a,b,c]):∀ l:List τ,l.length=3→P l
 | [a,b,c],_=>k a b c
theorem lenA4 {τ:Type}{P:List τ→Prop}(k:∀ a b c d,P [a,b,c,d]):∀ l:List τ,l.length=4→P l
 | [a,b,c,d],_=>k a b c d
theorem lenV1 {τ:Type}{P:List τ→Prop}(k1:∀ a,P [a]) (k2:∀ a b,P [a,b]) (k3:∀ a b c,P [a,b,c]) (l:List τ) (h1:1≤l.length) (h2:l.length≤3):P l:=
 (show l.length=1∨l.length=2∨l.length=3 by lia).elim (lenA1 k1 l) fun h=>h.elim (lenA2 k2 l) (lenA3 k3 l)
theorem lenV2 {τ:Type}{P:List τ→Prop}(k2:∀ a b,P [a,b]) (k3:∀ a b c,P [a,b,c]) (k4:∀ a b c d,P [a,b,c,d]) (l:List τ) (h1:2≤l.length) (h2:l.length≤4):P l:=
 (show l.length=2∨l.length=3∨l.length=4 by lia).elim (lenA2 k2 l) fun h=>h.elim (lenA3 k3 l) (lenA4 k4 l)
noncomputable def BindOK2 (fd:FuncData) (ns:List Str) (b:List PV→Option (List (Option PV))):Prop:=
 ∀(w:World) (h0:Heap) (mg mb:Str→Option Value) (A:Around) (α:List Ad) (U:List Addr) (H:List PObj) (s:Shared) (args:List Value) (ps:List PV) (V0:List (Option PV)) (Q:List (Str × Value)→Shared→Prop) (E:Value→Shared→Prop),Base w h0 mg mb→Wf w h0 α U H s.heap→
  VRs α U s.heap args ps→b ps=some V0→
  (∀ binds h1 tk,(∀ a o,s.heap.get? a=some o→h1.get? a=some o)→(binds.map (·.1)).Nodup→(∀ x∈binds,fd.scope.names.lookup x.1=some .local∨fd.scope.names.lookup x.1=some .cell)→
   (∀(i:Nat) x p,ns[i]?=some x→V0[i]?=some (some p)→∃ v,(x,v)∈binds∧VR α U h1 v p)→Q binds {s with heap:=h1,toks:=tk})→
  wpAny (model prog w) A (bindArgs fd ⟨args,[]⟩) Q E s
theorem bindL_keep {kindOf:Str→Option NameKind}{x:Str}:∀ {binds:List (Str × Value)}{m:Str→Option Value},x ∉ binds.map (·.1)→bindL kindOf binds m x=m x
 | [],_,_=>rfl
 | (y,v)::r,m,h=>by
  simp only[List.map_cons,List.mem_cons,not_or] at h
  rw[bindL,bindL_keep h.2]
  split
  ·simp[h.1]
  ·rfl
theorem bindC_keep {kindOf:Str→Option NameKind}{x:Str}:∀ {binds:List (Str × Value)}{m:Str→Option Value},x ∉ binds.map (·.1)→bindC kindOf binds m x=m x
 | [],_,_=>rfl
 | (y,v)::r,m,h=>by
  simp only[List.map_cons,List.mem_cons,not_or] at h
  rw[bindC,bindC_keep h.2]
  split
  ·rfl
  ·simp[h.1]
theorem bindL_at {kindOf:Str→Option NameKind}{x:Str}{v:Value}:∀ {binds:List (Str × Value)}{m:Str→Option Value},(binds.map (·.1)).Nodup→(x,v)∈binds→kindOf x=some .local→bindL kindOf binds m x=some v
 | (y,u)::r,m,hn,hm,hk=>by
  have hn2:=List.nodup_cons.mp hn
  rw[bindL]
  rcases List.mem_cons.mp hm with q | q
  ·cases q
   rw[bindL_keep hn2.1,if_pos hk];simp
  ·exact bindL_at hn2.2 q hk
theorem bindC_at {kindOf:Str→Option NameKind}{x:Str}{v:Value}:∀ {binds:List (Str × Value)}{m:Str→Option Value},(binds.map (·.1)).Nodup→(x,v)∈binds→kindOf x=some .cell→bindC kindOf binds m x=some v
 | (y,u)::r,m,hn,hm,hk=>by
  have hn2:=List.nodup_cons.mp hn
  rw[bindC]
  rcases List.mem_cons.mp hm with q | q
  ·cases q
   rw[bindC_keep hn2.1,if_neg (by rw[hk];decide)];simp
  ·exact bindC_at hn2.2 q hk
noncomputable def SFc (fv:Value) (k:Nat) (F:PF):Prop:=
 ∀(w:World) (h0:Heap) (mg mb:Str→Option Value) (A:Around) (α:List Ad) (U:List Addr) (s:Shared) (H:List PObj) (args:List Value) (ps:List PV) (p:PV) (H':List PObj) (R:Result→Shared→Prop),
  Base w h0 mg mb→AOK k A U→Wf w h0 α U H s.heap→VRs α U s.heap args ps→F ps H=some (p,H')→
  (∀ v s',(∃ α',VR α' U s'.heap v p∧Wf w h0 α' U H' s'.heap∧Step [] (frs A) α s.heap α' s'.heap∧Rest s s')→R (.ok (.ret v)) s')→codeAny (model prog w) A (.call fv ⟨args,[]⟩) R s
theorem SFc.toSFv {fv:Value}{k:Nat}{F:PF}(h:SFc fv k F):SFv fv k F:=by
 intro w h0 mg mb A α U s H args ps p H' B a W V e
 exact wpAny_call (h w h0 mg mb A α U s H args ps p H' _ B a W V e fun v s' x=>x)
theorem SF_defG {fa:Addr}{fd:FuncData}{body:List Stmt}{ns:List Str}{b:List PV→Option (List (Option PV))}{f:PM PFlow}{k:Nat}(hl:∀ w:World,fnIn (hd.heap_39 w.params) fa=some fd) (hbody:fd.body=.stmts body)
  (hcode:∀ w:World,codeIn (hd.heap_39 w.params) fd.code fd.qualname=true) (hst:fd.globals=mainGlobals∧fd.builtins=builtinsNs∧fd.closure=[]) (hsc:fd.scope.isCoroutine=false∧fd.scope.isGenerator=false∧fd.scope.kind=.function)
  (hmore:fd.scope.more.any (fun(n,_)=>n==("interactive":Str))=false) (hnd:((cellsFrom 0 fd.scope.names []).map (·.1)).Nodup) (hb:BindOK2 fd ns b) (hB:SB k fd.scope ns body f):SFc (.ref fa) (k+1) (runF b f):=by
 intro w h0 mg mb A α U s H args ps p H' R B a W V e hR
 obtain⟨V0,fl,σ,e1,e2,rfl,e3⟩:=runF_some e
 obtain⟨o,ho,hdat⟩:=fnIn_get B.K (hl w)
 refine(codeAny_call_function (by have:=a.depth;have:recursionLimit=1000:=rfl;lia) (W.keep _ _ ho) hdat hsc.1 hsc.2.1 hbody ((codeRec_of B.K (hcode w)).keeps W.keep)
  (hb w h0 mg mb _ α U H s args ps V0 _ _ B W V e1 fun binds h1 tk hk1 hnb hkb hvs=>?_))
 rw[hst.2.2]
 refine wpAny_newFunctionEnv_cells hsc.2.2 (fun x hx=>(hkb x hx).imp id fun q=>⟨q,cellsFrom_some _ _ _ (.inl q)⟩) fun env he s' X=>?_
 dsimp only at he X
 generalize hL:h1.objs.size=L at he X
 have hloc:env.locals=L:=by rw[he];rfl
 have hcel:env.cells=cellsFrom (L+1) fd.scope.names []:=by rw[he];rfl
 have hscp:env.scope=fd.scope:=by rw[he];rfl
 have hfrm:env.frame=some L:=by rw[he];rfl
 have W1:Wf w h0 α U H h1:=W.keeps hk1
 have ab:∀ n c,(n,c)∈env.cells→L<c:=fun n c q=>by have:=X.above n c q;rw[hloc] at this;exact this
 have fresh:∀ c,L≤c→h1.get? c=none:=fun c q=>Heap.get?_none_of_le (by rw[hL];exact q)
 have ownF:∀ x∈ownOf env,h1.get? x=none:=fun x hx=>by
  rcases List.mem_cons.mp hx with q | q
  ·rw[q,hloc];exact fresh _ (Nat.le_refl _)
  ·obtain⟨y,hy,rfl⟩:=List.mem_map.mp q
   exact fresh _ (Nat.le_of_lt (ab y.1 y.2 hy))
 have hk2:∀ x o,h1.get? x=some o→s'.heap.get? x=some o:=X.toInCall.keep
 have nmE:(env.cells.map (·.1)).Nodup:=by rw[hcel,cellsFrom_names fd.scope.names (L+1) 0 [] [] rfl];exact hnd
 have ownL:∀ x∈ownOf env,∃ o,s'.heap.get? x=some o:=fun x hx=>by
  rcases List.mem_cons.mp hx with q | q
  ·obtain⟨o,_,_,ho,_⟩:=X.toInCall.ns;exact⟨o,q▸ho⟩
  ·obtain⟨y,hy,rfl⟩:=List.mem_map.mp q
   obtain⟨o,ho,_⟩:=X.cell y.1 y.2 (lookup_of_mem_nodup nmE hy)
   exact⟨o,ho⟩
 obtain⟨h2,tk2,hs'⟩:=X.toInCall.same
 refine⟨(B.nolimit.keeps W.keep).keeps fun b o q=>hk2 b o (hk1 b o q),codeAny_func ?_⟩
 have C:Cx w h0 mg mb k (A.deeper env) fd.scope env (ownOf env++U):=by
  refine⟨B,⟨fun _=>a.handled (Nat.succ_pos _),?_,?_,?_⟩,⟨hscp,hsc.2.2,by rw[he];exact hst.1,by rw[he];exact hst.2.1,?_,hmore,fun x hx=>?_⟩,fun x hx=>List.mem_append_left _ hx,⟨L,hfrm,by rw[frs_deeper a.frames hfrm];exact .head _⟩⟩
  ·refine(?_:A.depth+1+10*k≤900)
   have:=a.depth;lia
  ·refine(?_:A.units+3+50*k≤9000)
   have:=a.units;lia
  ·obtain⟨fs,q1,q2⟩:=frames_deeper (env:=env) (L:=L) a.frames (by rw[hscp,hsc.2.2];decide) hfrm
   refine⟨fs,q1,fun x hx=>?_⟩
   obtain⟨q3,L',q4,q5⟩:=q2 x hx
   refine⟨q3,L',q4,?_⟩
   rcases List.mem_cons.mp q5 with q | q
   ·exact List.mem_append_left _ (by rw[q,← hloc];exact .head _)
   ·exact List.mem_append_right _ q
  ·refine List.nodup_cons.mpr ⟨fun q=>?_,?_⟩
   ·obtain⟨y,hy,q⟩:=List.mem_map.mp q
    have:=ab y.1 y.2 hy
    rw[q,hloc] at this
    exact Nat.lt_irrefl _ this
   ·exact List.pairwise_map.mpr X.apart
  ·obtain⟨c,hc⟩:=Option.isSome_iff_exists.mp (cellsFrom_some (x:=x) fd.scope.names (L+1) [] (.inl hx))
   exact⟨c,by rw[hcel];exact hc⟩
 have lk:∀ x,x∈ownOf env++U→x∈U∨h1.get? x=none:=fun x hx=>(List.mem_append.mp hx).symm.imp id (ownF x)
 have T1:Step [] [] α h1 α s'.heap:=keep_step hk2
 have S:St w h0 ns env α (ownOf env++U) ⟨H,V0⟩ s'.heap:=by
  refine⟨W1.enter hk2 lk (fun x hx=>?_),⟨_,X.toInCall.ns,fun i x p q1 q2=>?_⟩,fun x c q=>⟨_,X.cell x c q⟩⟩
  ·rcases List.mem_append.mp hx with q | q
   ·exact ownL x q
   ·obtain⟨o,ho⟩:=(W1.lock x q).2.2;exact⟨o,hk2 _ _ ho⟩
  ·obtain⟨v,q3,q4⟩:=hvs i x p q1 q2
   have q5:=(q4.lock lk).mono T1 fun _ q=>nomatch q
   have ke:env.kindOf x=fd.scope.names.lookup x:=by unfold Env.kindOf;rw[hscp]
   rcases hkb _ q3 with q | q
   ·exact .inl ⟨ke.trans q,v,bindL_at hnb q3 (ke.trans q),q5⟩
   ·obtain⟨c,hc⟩:=C.e.cellsOK x q
    refine .inr ⟨ke.trans q,c,v,hc,?_,q5⟩
    have:=X.cell x c hc
    rw[bindC_at hnb q3 (ke.trans q)] at this
    exact this
 have T0:Step [] [] α s.heap α s'.heap:=keep_step fun b o q=>hk2 b o (hk1 b o q)
 have ownF0:∀ x∈ownOf env,s.heap.get? x=none:=fun x hx=>by
  cases z:s.heap.get? x with
  | none=>rfl
  | some o=>exact(no2 (hk1 _ _ z) (ownF x hx)).elim
 refine hB.run C S e2 fun fv s2 α2 V2 S2 T2 R2=>?_
 have un:∀ x,x∈U→x∈(ownOf env++U)∨s2.heap.get? x=none:=fun x hx=>.inl (List.mem_append_right _ hx)
 have TT:Step [] (frs A) α s.heap α2 s2.heap:=by
  refine((T0.plain (own:=ownOf env)).trans T2).forget (fun x hx=>.inr (ownF0 x hx)) fun x hx=>?_
  rw[frs_deeper a.frames hfrm] at hx
  rcases List.mem_cons.mp hx with q | q
  ·exact .inr (ownF0 x (by rw[q,← hloc];exact .head _))
  ·exact .inl q
 have RR:Rest s s2:=by
  have:Rest s s':=by rw[hs'];exact⟨rfl,rfl,rfl⟩
  exact this.trans R2
 rcases e3 with rfl | ⟨rfl,rfl⟩
 ·cases V2 with
  | ret V=>exact hR _ _ ⟨α2,V.lock un,S2.wf.relock (fun x hx=>List.mem_append_right _ hx),TT,RR⟩
 ·cases V2 with
  | next=>exact hR _ _ ⟨α2,.none,S2.wf.relock (fun x hx=>List.mem_append_right _ hx),TT,RR⟩
theorem bind_pos2 {fd:FuncData}{ns xs:List Str}{n m:Nat}(hxs:ns.take n=xs) (hlen:xs.length=n) (hb:∀ args:List Value,args.length=n→bindArgs fd ⟨args,[]⟩=pure (xs.zip args)) (hnd:ns.Nodup)
  (hl:xs.all (fun x=>fd.scope.names.lookup x==some .local || fd.scope.names.lookup x==some .cell)=true):BindOK2 fd ns (posB n m):=by
 intro w h0 mg mb A α U H s args ps V0 Q E B W V e hQ
 obtain⟨h1,rfl⟩:=posB_some e
 have hla:args.length=n:=by rw[V.length,h1]
 have hxn:xs.Nodup:=hxs▸hnd.sublist (List.take_sublist ..)
 have hz:(xs.zip args).map (·.1)=xs:=by
  rw[List.map_fst_zip];lia
 rw[hb args hla]
 refine wpAny_pure (hQ (xs.zip args) s.heap s.toks (fun _ _ q=>q) (by rw[hz];exact hxn) (fun x hx=>?_) fun i x p e1 e2=>?_)
 ·have:x.1∈xs:=hz▸List.mem_map.mpr ⟨x,hx,rfl⟩
  have:=List.all_eq_true.mp hl _ this
  simpa using this
 ·have hi:i<n:=by
   by_cases q:i<n
   ·exact q
   ·exfalso
    rw[List.getElem?_append_right (by simp;exact Nat.le_trans (Nat.le_of_eq h1) (Nat.le_of_not_lt q))] at e2
    have:=List.mem_of_getElem? e2
    simp at this
  have e3:ps[i]?=some p:=by
   rw[List.getElem?_append_left (by simp;exact Nat.lt_of_lt_of_eq hi (Eq.symm h1))] at e2
   simpa using e2
  have e4:xs[i]?=some x:=by rw[← hxs,List.getElem?_take,if_pos hi];exact e1
  obtain⟨v,q1,q2⟩:=lookup_zip V hxn (by exact Eq.trans hlen (Eq.symm hla)) e4 e3
  exact⟨v,mem_of_lookup' q1,q2⟩
noncomputable def seqIn (K:Frag) (a:Addr):Option (Array Value):=match K.lookup a with
 | some ⟨_,_,.seq xs _,_⟩=>some xs
 | _=>none
theorem seqIn_get {K:Frag}{a:Addr}{xs:Array Value}{h:Heap}(X:K.In h) (e:seqIn K a=some xs):∃ o n,h.get? a=some o∧o.data=.seq xs n:=by
 unfold seqIn at e
 split at e
 ·rename_i c d f n sl q
  obtain rfl:=sj e
  exact⟨_,_,X _ _ q,rfl⟩
 ·exact nn e
theorem vrs_append_some {m:Nat}{α U h}{vs:List Value}{ps:List PV}(V:VRs α U h vs ps) {i:Nat}{p:PV}(e:(ps.map some++List.replicate m none)[i]?=some (some p)):ps[i]?=some p:=by
 by_cases hi:i<ps.length
 ·rw[List.getElem?_append_left (by simpa using hi)] at e
  simpa using e
 ·rw[List.getElem?_append_right (by simp;exact Nat.le_of_not_lt hi)] at e
  have:=List.mem_of_getElem? e
  simp at this
noncomputable def dfltB (n m:Nat) (dp:List PV):List PV→Option (List (Option PV)):=fun ps=>if ps.length=n then some ((ps++dp).map some++List.replicate m none) else none
theorem bind_dflt {fd:FuncData}{ns xs:List Str}{n m:Nat}{T:Addr}{items:Array Value}{dv:List Value}{dp:List PV}{kont:List Value→Option (Array Value)→Sem (List (Str × Value))}(hxs:ns.take xs.length=xs) (hlen:xs.length=n+dv.length) (hdef:fd.defaults=.ref T) (hT:∀ w:World,seqIn (hd.heap_39 w.params) T=some items)
  (hb1:∀ args:List Value,args.length=n→bindArgs fd ⟨args,[]⟩=seqItems? fd.defaults>>=kont args) (hb2:∀ args:List Value,args.length=n→kont args (some items)=pure (xs.zip (args++dv))) (hdv:∀ α U h,VRs α U h dv dp) (hnd:ns.Nodup)
  (hl:xs.all (fun x=>fd.scope.names.lookup x==some .local || fd.scope.names.lookup x==some .cell)=true):BindOK2 fd ns (dfltB n m dp):=by
 intro w h0 mg mb A α U H s args ps V0 Q E B W V e hQ
 unfold dfltB at e
 split at e
 ·rename_i h1
  obtain rfl:=sj e
  have hla:args.length=n:=by rw[V.length,h1]
  have hxn:xs.Nodup:=hxs▸hnd.sublist (List.take_sublist ..)
  have VV:VRs α U s.heap (args++dv) (ps++dp):=V.append (hdv _ _ _)
  have hll:xs.length=(args++dv).length:=by simp;lia
  have hz:(xs.zip (args++dv)).map (·.1)=xs:=by
   rw[List.map_fst_zip];exact Nat.le_of_eq hll
  obtain⟨o,nn,ho,hs⟩:=seqIn_get B.K (hT w)
  refine BindsTo.of_defaults hdef (W.keep _ _ ho) hs (hb1 args hla) (hb2 args hla) _ _ _ _ ?_
  refine hQ (xs.zip (args++dv)) s.heap s.toks (fun _ _ q=>q) (by rw[hz];exact hxn) (fun x hx=>?_) fun i x p e1 e2=>?_
  ·have:x.1∈xs:=hz▸List.mem_map.mpr ⟨x,hx,rfl⟩
   have:=List.all_eq_true.mp hl _ this
   simpa using this
  ·have e3:=vrs_append_some VV e2
   have hi:i<xs.length:=by have:=(List.getElem?_eq_some_iff.mp e3).1;rw[← VV.length] at this;exact Nat.lt_of_lt_of_eq this (Eq.symm hll)
   have e4:xs[i]?=some x:=by rw[← hxs,List.getElem?_take,if_pos hi];exact e1
   obtain⟨v,q1,q2⟩:=lookup_zip VV hxn hll e4 e3
   exact⟨v,mem_of_lookup' q1,q2⟩
 ·exact nn e
noncomputable def varB (n m:Nat):List PV→Option (List (Option PV)):=fun ps=>if n≤ps.length∧ps.length≤n+2 then some ((ps.take n++[PV.tup (ps.drop n)]).map some++List.replicate m none) else none
theorem bind_var {fd:FuncData}{ns xs:List Str}{va:Str}{n m:Nat}(hxs:ns.take (xs.length+1)=xs++[va]) (hlen:xs.length=n)
  (hb:∀ args:List Value,n≤args.length→args.length≤n+2→bindArgs fd ⟨args,[]⟩=newTuple (args.drop n)>>=fun t=>pure (xs.zip (args.take n)++[(va,t)])) (hnd:ns.Nodup)
  (hl:(xs++[va]).all (fun x=>fd.scope.names.lookup x==some .local || fd.scope.names.lookup x==some .cell)=true):BindOK2 fd ns (varB n m):=by
 intro w h0 mg mb A α U H s args ps V0 Q E B W V e hQ
 unfold varB at e
 split at e
 ·rename_i h1
  obtain rfl:=sj e
  have hla:=V.length
  rw[hb args (by lia) (by exact Nat.le_trans (Nat.le_of_eq hla) h1.2)]
  have hk:∀ a o,s.heap.get? a=some o→(s.heap.push {cls:=.type "tuple",data:=.seq (args.drop n).toArray}).get? a=some o:=fun a o e=>Heap.get?_push_of_some _ e
  refine wpAny_bind (wpAny_newTuple (wpAny_pure ?_) (by have:sizeLine=16777216:=rfl;simp;lia))
  have hxn:(xs++[va]).Nodup:=hxs▸hnd.sublist (List.take_sublist ..)
  have fr:=fresh_away W (get_size_none s.heap)
  have T0:Step [] [] α s.heap α (s.heap.push {cls:=.type "tuple",data:=.seq (args.drop n).toArray}):=keep_step hk
  have V1:=V.mono T0 fun _ q=>nomatch q
  have VV:VRs α U (s.heap.push {cls:=.type "tuple",data:=.seq (args.drop n).toArray}) (args.take n++[.ref s.heap.objs.size]) (ps.take n++[.tup (ps.drop n)]):=
   (V1.take n).append (.cons (.tup ⟨_,Heap.get?_push_size _ rfl,rfl,0,rfl⟩ fr.2 fr.1 (V1.drop n)) .nil)
  have ez:xs.zip (args.take n)++[(va,.ref s.heap.objs.size)]=(xs++[va]).zip (args.take n++[.ref s.heap.objs.size]):=by
   rw[List.zip_append (by simp;lia)];rfl
  have hll:(xs++[va]).length=(args.take n++[Value.ref s.heap.objs.size]).length:=by simp;lia
  have hz:((xs++[va]).zip (args.take n++[Value.ref s.heap.objs.size])).map (·.1)=xs++[va]:=by
   rw[List.map_fst_zip];exact Nat.le_of_eq hll
  rw[ez]
  refine hQ _ _ s.toks hk (by rw[hz];exact hxn) (fun x hx=>?_) fun i x p e1 e2=>?_
  ·have:x.1∈xs++[va]:=hz▸List.mem_map.mpr ⟨x,hx,rfl⟩
   have:=List.all_eq_true.mp hl _ this
   simpa using this
  ·have e3:=vrs_append_some VV e2
   have hi:i<(xs++[va]).length:=by have:=(List.getElem?_eq_some_iff.mp e3).1;rw[← VV.length] at this;exact Nat.lt_of_lt_of_eq this (Eq.symm hll)
   have e4:(xs++[va])[i]?=some x:=by rw[← hxs,List.getElem?_take,if_pos (by simpa using hi)];exact e1
   obtain⟨v,q1,q2⟩:=lookup_zip VV hxn hll e4 e3
   exact⟨v,mem_of_lookup' q1,q2⟩
 ·exact nn e
end Mine.Internal
namespace Mine.Internal
open PySem PySem.W PyProof.Rows PySem.Calls
noncomputable def dictIn (K:Frag) (a:Addr):Array DictEntry:=match K.lookup a with
 | some ⟨_,_,.dict es _,_⟩=>es
 | _=>#[]
noncomputable def strKeyB (e:DictEntry):Bool:=match e.key with
 | .str _ _=>true
 | _=>false
noncomputable def isDictIn (K:Frag) (a:Addr):Bool:=match K.lookup a with
 | some ⟨_,_,.dict es _,_⟩=>es.toList.all strKeyB
 | _=>false
theorem ns_in {K:Frag}{a:Addr}{h:Heap}(X:K.In h) (e:isDictIn K a=true):h.Ns a (nsFind (dictIn K a)):=by
 unfold isDictIn at e
 unfold dictIn
 split at e
 ·rename_i c d es ep sl q
  refine⟨_,es,ep,X _ _ q,rfl,fun y hy=>?_,fun _=>rfl⟩
  have:=List.all_eq_true.mp e y (by simpa using hy)
  unfold strKeyB at this
  split at this
  ·rename_i n t hk;exact⟨n,t,hk⟩
  ·exact nomatch this
 ·exact nomatch e
noncomputable abbrev mN208 (p:PySem.Params):Str→Option Value:=nsFind (dictIn (hd.heap_39 p) 207)
theorem is208 (p:PySem.Params):isDictIn (hd.heap_39 p) 207=true:=by kernel_rfl
theorem obj208 (p:PySem.Params):∃ nm q bs sn sub ab col dd k0 k1 k2 k3 k5 newId,(hd.heap_39 p).lookup 208=some (excClassObj nm q 208 207 bs [.type "object"] true sn sub ab col dd k0 k1 k2 k3 k5 newId):=⟨_,_,_,_,_,_,_,_,_,_,_,_,_,_,rfl⟩
section
variable {k:Nat}{sc:Scope}{ns:List Str}
noncomputable def PV.plain:PV→Bool
 | .const _=>false
 | _=>true
theorem handed_ok {α U h}{v:Value}{q:PV}(V:VR α U h v q) (hq:q.plain=true):handedOut v=pure v:=by
 cases V<;>first | rfl | cases hq
theorem Base.Kin {w:World}{h0:Heap}{mg mb:Str→Option Value}{α:List Ad}{U:List Addr}{H:List PObj}{h:Heap}(B:Base w h0 mg mb) (W:Wf w h0 α U H h):(hd.heap_39 w.params).In h:=B.K.keeps W.keep
theorem sorter_inst {w:World}{α:List Ad}{U:List Addr}{h:Heap}{p:Ad}{fs:List (Option PV)}(o:OR w α U h p (.sorter fs)):∃ m,h.Inst p.1 208 m∧Within m sorterNames∧Flds α U h (fun i=>(sorterNames[i]?).bind m) fs:=by
 refine gv fun _ gk=>?_
 obtain⟨hne,hx,m,hn,hw,hf⟩:=o
 refine gk ?_
 exact⟨m,⟨_,hx,rfl,(fun c q=>by cases q),.inr ⟨p.2,rfl,hne,hn⟩⟩,fun y hy=>by
  by_cases q:y∈sorterNames
  ·exact q
  ·exact absurd (hw y q) hy,hf⟩
noncomputable def sorterFld (j:Nat) (p:PV):PM PV:=fun σ=>match p with
 | .ref i=>(match σ.H[i]? with
  | some (.sorter fs)=>(match fs[j]? with
   | some (some q)=>if q.plain then some (q,σ) else none
   | _=>none)
  | _=>none)
 | _=>none
theorem sorterFld_elim {j:Nat}{p q:PV}{σ σ':PS}{P:PV→PS→Prop}(e:sorterFld j p σ=some (q,σ')) (k:∀ i fs,σ.H[i]?=some (.sorter fs)→fs[j]?=some (some q)→q.plain=true→P (.ref i) σ):P p σ':=by
 unfold sorterFld at e
 split at e
 ·split at e
  ·split at e
   ·split at e
    ·obtain⟨rfl,rfl⟩:=sp2 e;exact k _ _ ‹_› ‹_› ‹_›
    ·exact nn e
   ·exact nn e
  ·exact nn e
 ·exact nn e
theorem getS_ok {w:World}{h0:Heap}{mg mb:Str→Option Value}{A:Around}{α:List Ad}{U:List Addr}{s:Shared}{σ σ':PS}{j:Nat}{x:Str}{v:Value}{p q:PV}{expr:Bool}{Q:Value→Shared→Prop}{E:Value→Shared→Prop}(B:Base w h0 mg mb) (W:Wf w h0 α U σ.H s.heap) (V:VR α U s.heap v p) (e:sorterFld j p σ=some (q,σ'))
  (hx:sorterNames[j]?=some x) (hna:∀ p:PySem.Params,mN208 p x=none) (hB:typeLookup (.type "object") x=pure none) (hng:∀ p:PySem.Params,mN208 p "__getattribute__"=none) (hQ:∀ v',VR α U s.heap v' q→σ'=σ→Q v' {s with toks:=s.toks+1}):wpAny (model prog w) A (getAttr v x expr) Q E s:=by
 refine sorterFld_elim (P:=fun p σ'=>VR α U s.heap v p→(∀ v',VR α U s.heap v' q→σ'=σ→Q v' {s with toks:=s.toks+1})→wpAny (model prog w) A (getAttr v x expr) Q E s) e (fun i fs hH hj hp V hQ=>?_) V hQ
 refine VR.ref_elim V fun a b hi=>?_
 have hor:=W.or_at hi hH
 refine gv fun _ gk=>?_
 obtain⟨m,I,hw,hf⟩:=sorter_inst hor
 obtain⟨v',h1,V'⟩:=hf j q hj
 refine gk ?_
 have h1:(sorterNames[j]?).bind m=some v':=h1
 rw[hx] at h1
 have h1:m x=some v':=h1
 refine gv fun _ gk=>?_
 obtain⟨nm,qq,bs,sn,sub,ab,col,dd,k0,k1,k2,k3,k5,newId,hC⟩:=obj208 w.params
 obtain⟨hh,g,d,t,os⟩:=s
 refine gk ?_
 exact load_attr (B.Kin W _ _ hC) (ns_in (B.Kin W) (is208 _)) (hng _) (hna _) hB I h1 (handed_ok V' hp) (hQ v' V' rfl)
noncomputable def sorterPut (j:Nat) (p v:PV) (H:List PObj):Option (List PObj):=match p with
 | .ref i=>(match H[i]? with
  | some (.sorter fs)=>if j<fs.length then some (H.set i (.sorter (fs.set j (some v)))) else none
  | _=>none)
 | _=>none
theorem sorterPut_elim {j:Nat}{p v:PV}{H H':List PObj}{P:PV→List PObj→Prop}(e:sorterPut j p v H=some H') (k:∀ i fs,H[i]?=some (.sorter fs)→j<fs.length→P (.ref i) (H.set i (.sorter (fs.set j (some v))))):P p H':=by
 unfold sorterPut at e
 split at e
 ·split at e
  ·split at e
   ·obtain rfl:=sj e;exact k _ _ ‹_› ‹_›
   ·exact nn e
  ·exact nn e
 ·exact nn e
theorem inst_same {o:Obj}{b:Addr}(c:o.cls=(instObj 208 b).cls) (d:o.data=(instObj 208 b).data) (e:o.slots=(instObj 208 b).slots) (f:o.dict=some b):o=instObj 208 b:=by
 obtain⟨oc,od,oda,osl⟩:=o
 simp only at c d e f
 subst c d e f
 rfl
theorem inst_ns {h:Heap}{a b:Addr}{m:Str→Option Value}(g:h.get? a=some (instObj 208 b)) (I:h.Inst a 208 m):h.Ns1 b m:=by
 obtain⟨o,g1,_,_,hd⟩:=I
 rw[g] at g1;obtain rfl:=sj g1
 rcases hd with⟨n,_⟩ | ⟨d,hd,_,hn⟩
 ·cases n
 ·obtain rfl:=sj hd;exact hn
theorem set208 {w:World}{h0:Heap}{mg mb:Str→Option Value}{A:Around}{α:List Ad}{U:List Addr}{s:Shared}{H:List PObj}{a b:Addr}{x:Str}{u:Value}{m:Str→Option Value}{Q:Unit→Shared→Prop}{E:Value→Shared→Prop}(B:Base w h0 mg mb) (W:Wf w h0 α U H s.heap) (hxo:s.heap.get? a=some (instObj 208 b)) (I:s.heap.Inst a 208 m) (hw:Within m sorterNames)
  (hna:∀ p:PySem.Params,mN208 p x=none) (hB:typeLookup (.type "object") x=pure none) (hns:∀ p:PySem.Params,mN208 p "__setattr__"=none)
  (k:∀ h' tk,h'.get? a=some (instObj 208 b)→h'.Ns1 b (fun y=>if y=x then some u else m y)→(∀ c o,c≠a→c≠b→s.heap.get? c=some o→h'.get? c=some o)→Q () {s with heap:=h',toks:=tk}):wpAny (model prog w) A (setAttr (.ref a) x u) Q E s:=by
 refine hide fun G hG=>?_
 obtain⟨nm,qq,bs,sn,sub,ab,col,dd,k0,k1,k2,k3,k5,newId,hC⟩:=obj208 w.params
 have hC':=B.Kin W _ _ hC
 have hxC:a≠208:=fun z=>by
  rw[z] at hxo;rw[hxo] at hC';cases hC'
 refine hG (store_attr (h:=s.heap) (g:=s.gens) (d:=s.drawn) (t:=s.toks) (os:=s.os) PySem.F.store_object hC' (ns_in (B.Kin W) (is208 _)) (hns _) (hna _) hB hxC I (fun h' tk' I' hk hsame=>?_) hw (by have:sizeLine=16777216:=rfl;simp[sorterNames];exact by decide))
 refine(hsame _ hxo).elim fun o1 z=>?_
 have g1:=inst_same z.2.1 z.2.2.1 z.2.2.2.1 (z.2.2.2.2 b rfl)▸z.1
 exact k h' tk' g1 (inst_ns g1 I') fun c o h1 h2 q=>hk c o h1 (fun o₀ dx q1 q2=>Option.some.inj (q2.symm.trans (congrArg Obj.dict (Option.some.inj (q1.symm.trans hxo))))▸h2) q
theorem two_step {α:List Ad}{h h':Heap}{a b:Addr}{i:Nat}(hi:α[i]?=some (a,b)) (hk:∀ c o,c≠a→c≠b→h.get? c=some o→h'.get? c=some o) (la:∃ o,h'.get? a=some o) (lb:∃ o,h'.get? b=some o):Step [] [] α h α h':=by
 refine but_step (fun c o x _ ec=>hk c o (x _ (List.mem_of_getElem? hi)).1.symm (x _ (List.mem_of_getElem? hi)).2.symm ec) fun c o ec=>?_
 by_cases z1:c=a
 ·exact z1▸la
 ·by_cases z2:c=b
  ·exact z2▸lb
  ·exact⟨o,hk c o z1 z2 ec⟩
theorem sorter_put {w:World}{α:List Ad}{U:List Addr}{h h':Heap}{a b:Addr}{fs:List (Option PV)}{j:Nat}{x:Str}{u:Value}{q:PV}{m:Str→Option Value}(T0:Step [] [] α h α h') (hne:b≠a) (g1:h'.get? a=some (instObj 208 b)) (hns:h'.Ns1 b (fun y=>if y=x then some u else m y)) (hw:Within m sorterNames)
  (hf:Flds α U h (fun i=>(sorterNames[i]?).bind m) fs) (hj:j<fs.length) (hx:sorterNames[j]?=some x) (hnd:sorterNames.Nodup) (Vu:VR α U h u q):OR w α U h' (a,b) (.sorter (fs.set j (some q))):=by
 refine⟨hne,g1,_,hns,fun y hy=>?_,fun i2 q2 e2=>?_⟩
 ·have hyx:y≠x:=fun z=>hy (z▸List.mem_of_getElem? hx)
  simp only[hyx,if_false]
  by_cases z:m y=none
  ·exact z
  ·exact absurd (hw y z) hy
 ·by_cases z:j=i2
  ·subst z
   rw[List.getElem?_set_self hj] at e2
   cases e2
   exact⟨u,by simp[hx],Vu.mono T0 fun _ q=>nomatch q⟩
  ·rw[List.getElem?_set_ne z] at e2
   obtain⟨v',h1,V'⟩:=hf i2 q2 e2
   refine⟨v',?_,V'.mono T0 fun _ q=>nomatch q⟩
   obtain⟨y,hy,h1⟩:=Option.bind_eq_some_iff.mp h1
   have hyx:y≠x:=fun z'=>z (nodup_idx hnd hx (by rw[hy,z']))
   refine Option.bind_eq_some_iff.mpr ⟨y,hy,?_⟩
   rw[if_neg hyx];exact h1
theorem setS_ok {w:World}{h0:Heap}{mg mb:Str→Option Value}{A:Around}{α:List Ad}{U:List Addr}{s:Shared}{H H':List PObj}{j:Nat}{x:Str}{v u:Value}{p q:PV}{Q:Unit→Shared→Prop}{E:Value→Shared→Prop}(B:Base w h0 mg mb) (W:Wf w h0 α U H s.heap) (V:VR α U s.heap v p) (Vu:VR α U s.heap u q) (e:sorterPut j p q H=some H')
  (hx:sorterNames[j]?=some x) (hnd:sorterNames.Nodup) (hna:∀ p:PySem.Params,mN208 p x=none) (hB:typeLookup (.type "object") x=pure none) (hns:∀ p:PySem.Params,mN208 p "__setattr__"=none)
  (hQ:∀ h' tk,Wf w h0 α U H' h'→Step [] [] α s.heap α h'→Q () {s with heap:=h',toks:=tk}):wpAny (model prog w) A (setAttr v x u) Q E s:=by
 refine sorterPut_elim (P:=fun p H'=>VR α U s.heap v p→(∀ h' tk,Wf w h0 α U H' h'→Step [] [] α s.heap α h'→Q () {s with heap:=h',toks:=tk})→wpAny (model prog w) A (setAttr v x u) Q E s) e (fun i fs hH hj V hQ=>?_) V hQ
 refine VR.ref_elim V fun a b hi=>?_
 have hor:=W.or_at hi hH
 refine(sorter_inst hor).elim fun m z=>?_
 refine set208 B W hor.2.1 z.1 z.2.1 hna hB hns fun h' tk g1 hn hk=>?_
 have lb:∃ o,h'.get? b=some o:=hn.imp fun o z=>z.elim fun _ z=>z.elim fun _ z=>z.1
 have Z:=W.upd hi hk ⟨_,g1⟩ lb (sorter_put (two_step hi hk ⟨_,g1⟩ lb) hor.1 g1 hn z.2.1 z.2.2 hj hx hnd Vu)
 exact hQ h' tk Z.1 Z.2
end
end Mine.Internal
namespace Mine.Internal
open PySem PySem.W PyProof.Rows PySem.Calls Builtin Builtin.ObjectAttr Builtin.Getset_descriptor
section
variable {k:Nat}{sc:Scope}{ns:List Str}
noncomputable def nodeFld (j:Nat) (p:PV):PM PV:=fun σ=>match p with
 | .ref i=>(match σ.H[i]? with
  | some (.node fs)=>(match fs[j]? with
   | some (some q)=>if q.plain then some (q,σ) else none
   | _=>none)
  | _=>none)
 | _=>none
noncomputable def nodePut (j:Nat) (p v:PV) (H:List PObj):Option (List PObj):=match p with
 | .ref i=>(match H[i]? with
  | some (.node fs)=>if j<fs.length∧j<3 then some (H.set i (.node (fs.set j (some v)))) else none
  | _=>none)
 | _=>none
structure SlotOK (j:Nat) (x:Str) (pa:Addr):Prop where
 find:∀ p:PySem.Params,findObj (hd.heap_39 p) 111 (some emptyDict) x=some (.bind (.builtin "member_descriptor.__get__") (.ref pa))
 slot:∀ p:PySem.Params,slotIn (hd.heap_39 p) pa 111=some j
 taker:∀ p:PySem.Params,takerIn (hd.heap_39 p) 111 x=some (some (.ref pa))
 typ:∀ p:PySem.Params,typeIn (hd.heap_39 p) (.ref pa)=some (.type "member_descriptor")
theorem slot_node:SlotOK 0 "node" 112:=⟨fun _=>by kernel_rfl,fun _=>by kernel_rfl,fun _=>by kernel_rfl,fun _=>by kernel_rfl⟩
theorem slot_npred:SlotOK 1 "npredecessors" 113:=⟨fun _=>by kernel_rfl,fun _=>by kernel_rfl,fun _=>by kernel_rfl,fun _=>by kernel_rfl⟩
theorem slot_succ:SlotOK 2 "successors" 114:=⟨fun _=>by kernel_rfl,fun _=>by kernel_rfl,fun _=>by kernel_rfl,fun _=>by kernel_rfl⟩
theorem ga111 (p:PySem.Params):findIn (hd.heap_39 p) (.ref 111) "__getattribute__"=some (some (.builtin "object.__getattribute__")):=by kernel_rfl
theorem gh111 (p:PySem.Params):findIn (hd.heap_39 p) (.ref 111) "__getattr__"=some none:=by kernel_rfl
theorem sa111 (p:PySem.Params):findIn (hd.heap_39 p) (.ref 111) "__setattr__"=some (some (.builtin "object.__setattr__")):=by kernel_rfl
theorem po111 (p:PySem.Params):plainOver (hd.heap_39 p) 111=true:=by kernel_rfl
theorem node_inst {w:World}{α:List Ad}{U:List Addr}{h:Heap}{p:Ad}{fs:List (Option PV)}(o:OR w α U h p (.node fs)):∃ vs:List (Option Value),W.InstAt h p.1 {cls:=.ref 111,dict:=some p.2,data:=.plain,slots:=vs.toArray} 111 (some emptyDict)∧Flds α U h (fun i=>(vs[i]?).join) fs:=by
 obtain⟨hne,vs,h1,h2,hf⟩:=o
 exact⟨vs,⟨h1,rfl,rfl,h2⟩,hf⟩
theorem nodeFld_elim {j:Nat}{p q:PV}{σ σ':PS}{P:PV→PS→Prop}(e:nodeFld j p σ=some (q,σ')) (k:∀ i fs,σ.H[i]?=some (.node fs)→fs[j]?=some (some q)→q.plain=true→P (.ref i) σ):P p σ':=by
 unfold nodeFld at e
 split at e
 ·split at e
  ·split at e
   ·split at e
    ·obtain⟨rfl,rfl⟩:=sp2 e;exact k _ _ ‹_› ‹_› ‹_›
    ·exact nn e
   ·exact nn e
  ·exact nn e
 ·exact nn e
theorem nodePut_elim {j:Nat}{p v:PV}{H H':List PObj}{P:PV→List PObj→Prop}(e:nodePut j p v H=some H') (k:∀ i fs,H[i]?=some (.node fs)→j<fs.length∧j<3→P (.ref i) (H.set i (.node (fs.set j (some v))))):P p H':=by
 unfold nodePut at e
 split at e
 ·split at e
  ·split at e
   ·obtain rfl:=sj e;exact k _ _ ‹_› ‹_›
   ·exact nn e
  ·exact nn e
 ·exact nn e
theorem getN_ok {w:World}{h0:Heap}{mg mb:Str→Option Value}{A:Around}{α:List Ad}{U:List Addr}{s:Shared}{σ σ':PS}{j:Nat}{x:Str}{pa:Addr}{v:Value}{p q:PV}{expr:Bool}{Q:Value→Shared→Prop}{E:Value→Shared→Prop}(B:Base w h0 mg mb) (W:Wf w h0 α U σ.H s.heap) (V:VR α U s.heap v p) (e:nodeFld j p σ=some (q,σ'))
  (K:SlotOK j x pa) (hQ:∀ v',VR α U s.heap v' q→σ'=σ→Q v' {s with toks:=s.toks+1}):wpAny (model prog w) A (getAttr v x expr) Q E s:=by
 refine nodeFld_elim (P:=fun p σ'=>VR α U s.heap v p→(∀ v',VR α U s.heap v' q→σ'=σ→Q v' {s with toks:=s.toks+1})→wpAny (model prog w) A (getAttr v x expr) Q E s) e (fun i fs hH hj hp V hQ=>?_) V hQ
 refine VR.ref_elim V fun a b hi=>?_
 have hor:=W.or_at hi hH
 refine gv fun _ gk=>?_
 obtain⟨vs,I,hf⟩:=node_inst hor
 obtain⟨v',h1,V'⟩:=hf j q hj
 refine gk ?_
 have X:=B.Kin W
 refine get_bind X I (ga111 _) (K.find _) (gh111 _) (wpAny_call (slot_get (s:={s with toks:=s.toks+1}) X I (K.slot _) (v:=v') (by simpa using h1) ?_))
 refine(?_:wpAny _ _ (handedOut v') _ _ _)
 rw[handed_ok V' hp]
 exact wpAny_pure (hQ v' V' rfl)
theorem slot_put {w:World}{A:Around}{s:Shared}{K:Frag}{x C p:Addr}{R:Result→Shared→Prop}{ox:Obj}{od:Option Obj}{v:Value}{i:Nat}(X:K.In s.heap) (I:W.InstAt s.heap x ox C od) (hp:slotIn K p C=some i) (hi:i<1000)
  (h:R (.ok (.ret .none)) {s with heap:=s.heap.update x fun o=>{o with slots:=(o.slots++Array.replicate (i+1 - o.slots.size) none).setIfInBounds i (some v)}}):
  codeAny (model prog w) A (.call (.builtin "member_descriptor.__set__") ⟨[.ref p,.ref x,v],[]⟩) R s:=by
 refine gv fun _ gk=>?_
 obtain⟨n,tn,owner,behind,tb,d,sl,cd,ho,hc,hm,hb,rfl⟩:=slot_of X hp
 obtain⟨hh,g,dr,t,os⟩:=s
 refine gk ?_
 have L0:=I.type (M:=model prog w)
 have L1:=looks_mroIn (M:=model prog w) X hm
 have L2:Looks (model prog w) hh (Slots.slotNamesOf (.ref C)) cd.slotNames:=(looks_clsIn X hc).andThen .now
 have hx:=I.at_
 dsimp only at ho hx L0 L1
 have f0:=looks_field (M:=model prog w) ho 0 (v:=.str n tn) rfl
 have f1:=looks_field (M:=model prog w) ho 1 (v:=owner) rfl
 have f3:=looks_field (M:=model prog w) ho 3 (v:=.builtin "proto.slot#set") rfl
 have f4:=looks_field (M:=model prog w) ho 4 (v:=.int behind tb) rfl
 have f5:Looks (model prog w) hh (descrItself (.ref p)) [.ref p]:=((Looks.ld (part:=none) ho).andThen .now).andThen (Looks.of_pure (by kernel_rfl))
 refine codeAny_call_builtin KF.slot_mset.plain KF.entry_mset (KF.slot_mset.check _ _ _ _ _ _ _ _ ⟨_,ho,rfl⟩ (KF.args_mset _ _ _) ?_)
 unfold Builtin.«member_descriptor.__set__» descrSet descrStoreThrough descrCheckInstance descrNameAndClass isInstance
 repeat lk
 refine⟨Code.quiet_builtin _ (by decide+kernel),codeAny_builtin KF.entry_slotset ?_⟩
 unfold Builtin.«proto.slot#set» Slots.target
 repeat lk
 rw[if_neg hb]
 refine wpAny_pure (wpAny_bind ?_)
 unfold setSlotAt
 dsimp only
 rw[if_neg (by have:sizeLine=16777216:=rfl;exact Nat.not_le_of_gt (Nat.lt_of_lt_of_le hi (by decide)))]
 exact wpAny_updatePart hx (wpAny_pure h)
theorem slots_after {vs:List (Option Value)}{j:Nat}{v:Value}(i2:Nat):(((vs.toArray++Array.replicate (j+1 - vs.toArray.size) none).setIfInBounds j (some v)).toList[i2]?).join=if i2=j then some v else(vs[i2]?).join:=by
 simp only[Array.toList_setIfInBounds,Array.toList_append,Array.toList_replicate]
 by_cases h:i2=j
 ·rw[h]
  rw[if_pos rfl,List.getElem?_set_self (by simp;lia)];rfl
 ·rw[if_neg h,List.getElem?_set_ne (Ne.symm h)]
  by_cases h2:i2<vs.length
  ·rw[List.getElem?_append_left h2]
  ·rw[List.getElem?_append_right (by exact Nat.le_of_not_lt h2),List.getElem?_eq_none (l:=vs) (by exact Nat.le_of_not_lt h2)]
   cases h3:(List.replicate (j+1 - vs.toArray.size) (none:Option Value))[i2 - vs.length]? with
   | none=>rfl
   | some o=>
    have:=List.mem_of_getElem? h3
    simp at this
    rw[this.2];rfl
theorem setN_ok {w:World}{h0:Heap}{mg mb:Str→Option Value}{A:Around}{α:List Ad}{U:List Addr}{s:Shared}{H H':List PObj}{j:Nat}{x:Str}{pa:Addr}{v u:Value}{p q:PV}{Q:Unit→Shared→Prop}{E:Value→Shared→Prop}(B:Base w h0 mg mb) (W:Wf w h0 α U H s.heap) (V:VR α U s.heap v p) (Vu:VR α U s.heap u q) (e:nodePut j p q H=some H')
  (K:SlotOK j x pa) (hQ:∀ h' tk,Wf w h0 α U H' h'→Step [] [] α s.heap α h'→Q () {s with heap:=h',toks:=tk}):wpAny (model prog w) A (setAttr v x u) Q E s:=by
 refine nodePut_elim (P:=fun p H'=>VR α U s.heap v p→(∀ h' tk,Wf w h0 α U H' h'→Step [] [] α s.heap α h'→Q () {s with heap:=h',toks:=tk})→wpAny (model prog w) A (setAttr v x u) Q E s) e (fun i fs hH hj V hQ=>?_) V hQ
 refine VR.ref_elim V fun a b hi=>?_
 have hor:=W.or_at hi hH
 obtain⟨vs,I,hf⟩:=node_inst hor
 obtain⟨hne,_,_,hemp,_⟩:=id hor
 have X:=B.Kin W
 have hx:=I.at_
 simp only at hx hne hemp
 refine set_plain X I (sa111 _) (osa_descr (s:={s with toks:=s.toks+1}) KF.slot_mset X I (po111 _) (K.taker _) (K.typ _) (slot_put (s:={s with toks:=s.toks+1}) X I (K.slot _) (by exact Nat.lt_of_lt_of_le hj.2 (by decide)) ?_))
 have g1:(s.heap.update a fun o=>{o with slots:=(o.slots++Array.replicate (j+1 - o.slots.size) none).setIfInBounds j (some u)}).get? a=some {cls:=.ref 111,dict:=some b,data:=.plain,slots:=(vs.toArray++Array.replicate (j+1 - vs.toArray.size) none).setIfInBounds j (some u)}:=Heap.get?_update_self _ hx rfl
 generalize hh':(s.heap.update a fun o=>{o with slots:=(o.slots++Array.replicate (j+1 - o.slots.size) none).setIfInBounds j (some u)})=h' at g1 ⊢
 have hsb:Heap.SameBut a s.heap h':=hh'▸Heap.SameBut.update ..
 have gb:h'.get? b=some emptyDict:=(hsb.2 b hne).trans hemp
 have T0:Step [] [] α s.heap α h':=by
  refine but_step (fun c o x _ ec=>(hsb.2 c (x _ (List.mem_of_getElem? hi)).1.symm).trans ec) fun c o ec=>?_
  by_cases z1:c=a
  ·rw[z1];exact⟨_,g1⟩
  ·exact⟨o,(hsb.2 c z1).trans ec⟩
 have hOR:OR w α U h' (a,b) (.node (fs.set j (some q))):=by
  refine⟨hne,((vs.toArray++Array.replicate (j+1 - vs.toArray.size) none).setIfInBounds j (some u)).toList,by skip;exact g1,gb,fun i2 q2 e2=>?_⟩
  simp only[slots_after]
  by_cases z:i2=j
  ·subst z
   rw[List.getElem?_set_self hj.1] at e2
   cases e2
   exact⟨u,by simp,Vu.mono T0 fun _ q=>nomatch q⟩
  ·rw[List.getElem?_set_ne (Ne.symm z)] at e2
   obtain⟨v',h1,V'⟩:=hf i2 q2 e2
   exact⟨v',by rw[if_neg z];exact h1,V'.mono T0 fun _ q=>nomatch q⟩
 obtain⟨W',T'⟩:=W.upd hi (h':=h') (fun c o h1 _ ec=>(hsb.2 c h1).trans ec) ⟨_,g1⟩ ⟨_,gb⟩ hOR
 exact hQ h' _ W' T'
end
end Mine.Internal
namespace Mine.Internal
open PySem PySem.W PyProof.Rows PySem.Calls
structure AttrOK (x:Str) (get:PV→PM PV) (put:PV→PV→List PObj→Option (List PObj)):Prop where
 get:∀(w:World) (h0:Heap) (mg mb:Str→Option Value) (A:Around) (α:List Ad) (U:List Addr) (s:Shared) (σ σ':PS) (v:Value) (p q:PV) (expr:Bool) (Q:Value→Shared→Prop) (E:Value→Shared→Prop),Base w h0 mg mb→Wf w h0 α U σ.H s.heap→VR α U s.heap v p→get p σ=some (q,σ')→
  (∀ v',VR α U s.heap v' q→σ'=σ→Q v' {s with toks:=s.toks+1})→wpAny (model prog w) A (getAttr v x expr) Q E s
 put:∀(w:World) (h0:Heap) (mg mb:Str→Option Value) (A:Around) (α:List Ad) (U:List Addr) (s:Shared) (H H':List PObj) (v u:Value) (p q:PV) (Q:Unit→Shared→Prop) (E:Value→Shared→Prop),Base w h0 mg mb→Wf w h0 α U H s.heap→VR α U s.heap v p→VR α U s.heap u q→put p q H=some H'→
  (∀ h' tk,Wf w h0 α U H' h'→Step [] [] α s.heap α h'→Q () {s with heap:=h',toks:=tk})→wpAny (model prog w) A (setAttr v x u) Q E s
theorem attrN {j:Nat}{x:Str}{pa:Addr}(K:SlotOK j x pa):AttrOK x (nodeFld j) (nodePut j):=
 ⟨fun _ _ _ _ _ _ _ _ _ _ _ _ _ _ _ _ B W V e h=>getN_ok B W V e K h,fun _ _ _ _ _ _ _ _ _ _ _ _ _ _ _ _ B W V Vu e h=>setN_ok B W V Vu e K h⟩
theorem ng208 (p:PySem.Params):mN208 p "__getattribute__"=none:=by kernel_rfl
theorem ns208 (p:PySem.Params):mN208 p "__setattr__"=none:=by kernel_rfl
theorem nh208 (p:PySem.Params):mN208 p "__getattr__"=none:=by kernel_rfl
theorem attrS {j:Nat}{x:Str}(hx:sorterNames[j]?=some x) (hna:∀ p:PySem.Params,mN208 p x=none) (hB:typeLookup (.type "object") x=pure none):AttrOK x (sorterFld j) (sorterPut j):=
 ⟨fun _ _ _ _ _ _ _ _ _ _ _ _ _ _ _ _ B W V e h=>getS_ok B W V e hx hna hB ng208 h,fun _ _ _ _ _ _ _ _ _ _ _ _ _ _ _ _ B W V Vu e h=>setS_ok B W V Vu e hx (by decide+kernel) hna hB ns208 h⟩
theorem at_node:AttrOK "node" (nodeFld 0) (nodePut 0):=attrN slot_node
theorem at_npred:AttrOK "npredecessors" (nodeFld 1) (nodePut 1):=attrN slot_npred
theorem at_succ:AttrOK "successors" (nodeFld 2) (nodePut 2):=attrN slot_succ
theorem at_n2i:AttrOK "_node2info" (sorterFld 0) (sorterPut 0):=attrS rfl (fun _=>by kernel_rfl) (by skip;kernel_rfl)
theorem at_ready:AttrOK "_ready_nodes" (sorterFld 1) (sorterPut 1):=attrS rfl (fun _=>by kernel_rfl) (by skip;kernel_rfl)
theorem at_passed:AttrOK "_npassedout" (sorterFld 2) (sorterPut 2):=attrS rfl (fun _=>by kernel_rfl) (by skip;kernel_rfl)
theorem at_fin:AttrOK "_nfinished" (sorterFld 3) (sorterPut 3):=attrS rfl (fun _=>by kernel_rfl) (by skip;kernel_rfl)
section
variable {k:Nat}{sc:Scope}{ns:List Str}
noncomputable def pAttr (get:PV→PM PV) (f:PM PV):PM PV:=seq f get
theorem SE_attr {get put}{o:Expr}{x:Str}{pos:Pos}{f:PM PV}(K:AttrOK x get put) (h:SE k sc ns o f) (hbase:∀ env,attributeBase o x env (eval o env)=eval o env):SE k sc ns (.Attribute o x pos) (pAttr get f):=by
 refine Jd.of fun {w h0 mg mb A env α U s σ p σ'} C S hf Q₀ hQ=>?_
 refine seq_elim hf fun a σ1 e1 hf=>?_
 show wpAny _ _ (eval _ env) _ _ _
 rw[arm_eval_Attribute,hbase env]
 refine wpAny_bind (h.run C S e1 fun v s1 α1 V1 S1 T1 R1=>wpAny_bind (wpAny_standAt (wpAny_bind (wpAny_holding (K.get _ _ _ _ _ _ _ _ _ _ _ _ _ _ _ _ C.base S1.wf V1 hf fun v' V' hσ=>?_)))))
 subst hσ
 exact wpAny_bind (wpAny_letTemporaryGo (wpAny_pure (hQ _ _ α1 V' S1 T1 R1)))
noncomputable def pPutA (put:PV→PV→List PObj→Option (List PObj)) (a v:PV):PM Unit:=fun σ=>(put a v σ.H).map fun H'=>((),⟨H',σ.V⟩)
noncomputable def sSetA (put:PV→PV→List PObj→Option (List PObj)) (fv fo:PM PV):PM PFlow:=seq fv fun v=>seq fo fun a=>seq (pPutA put a v) fun _=>ret .next
theorem SS_setattr {get put}{o value:Expr}{x:Str}{pos' pos:Pos}{fo fv:PM PV}(K:AttrOK x get put) (hv:SE k sc ns value fv) (ho:SE k sc ns o fo) (hs:∀ env:Env,env.scope=sc→swapsWith value (some (.Attribute o x pos')) pos.line env=pure false):
  SS k sc ns (.Assign [.Attribute o x pos'] value pos) (sSetA put fv fo):=by
 refine Jd.of fun {w h0 mg mb A env α U s σ p σ'} C S hf Q₀ hQ=>?_
 refine seq_elim hf fun v σ1 e1 hf=>?_
 refine seq_elim hf fun a σ2 e2 hf=>?_
 refine seq_elim hf fun u σ3 e3 hf=>?_
 revert hQ;refine sp2e (c:=p) (d:=σ') hf fun hQ=>?_
 revert hQ
 refine mapp (p:=u) (σ:=σ3) e3 fun H' q1 hQ=>?_
 refine plainObj_wpAny_Assign_Attribute (hv.run C S e1 fun v1 s1 α1 V1 S1 T1 R1=>ho.run C S1 e2 fun v2 s2 α2 V2 S2 T2 R2=>?_) (hs env C.e.scope)
 refine K.put _ _ _ _ _ _ _ _ _ _ _ _ _ _ _ _ C.base S2.wf V2 (C.vmono V1 T2) q1 fun h' tk W' T'=>?_
 have X:=St.ofWf C S2 W' T'
 exact(hQ _ _ α2 .next X.1 ((T1.trans T2).trans X.2) (R1.trans R2))
noncomputable def sAugA (get:PV→PM PV) (put:PV→PV→List PObj→Option (List PObj)) (fop:Int→Int→Option Int) (isAdd:Bool) (fo fv:PM PV):PM PFlow:=seq fo fun a=>seq (get a) fun old=>seq fv fun b=>fun σ=>match augOf fop isAdd σ.H old b with
 | some (p,H')=>(put a p H').map fun H''=>(.next,⟨H'',σ.V⟩)
 | none=>none
theorem SS_augattr {get put}{op:Operator}{fop:Int→Int→Option Int}{o value:Expr}{x:Str}{pos' pos:Pos}{fo fv:PM PV}(hop:AugOK op fop) (K:AttrOK x get put) (ho:SE k sc ns o fo) (hv:SE k sc ns value fv):
  SS k sc ns (.AugAssign (.Attribute o x pos') op value pos) (sAugA get put fop (op==.Add) fo fv):=by
 refine Jd.of fun {w h0 mg mb A env α U s σ p σ'} C S hf0 Q₀ hQ=>?_
 refine seq_elim hf0 fun a σ1 e1 hf1=>?_
 refine seq_elim hf1 fun old σ2 e2 hf2=>?_
 refine seq_elim hf2 fun b σ3 e3 hf=>?_
 clear hf0 hf1 hf2
 split at hf
 ·rename_i q H' ha
  revert hQ
  refine mapp (p:=p) (σ:=σ') hf fun H'' q1 hQ=>?_
  refine wpAny_AugAssign_AttributeAny (ho.run C S e1 fun v1 s1 α1 V1 S1 T1 R1=>K.get _ _ _ _ _ _ _ _ _ _ _ _ _ _ _ _ C.base S1.wf V1 e2 fun vo Vo hσ=>?_)
  subst hσ
  refine hv.run C (s:={s1 with toks:=s1.toks+1}) S1 e3 fun v3 s3 α3 V3 S3 T3 R3=>?_
  refine aug_ok hop S3.wf (C.vmono Vo T3) V3 ha fun v4 h4 tk4 V4 W4 T4=>?_
  have V14:VR α3 U h4 v1 a:=(C.vmono V1 T3).mono T4 fun _ q=>nomatch q
  refine K.put _ _ _ _ _ _ _ {s3 with heap:=h4,toks:=tk4} _ _ _ _ _ _ _ _ C.base W4 V14 V4 q1 fun h' tk W' T'=>?_
  have X:=St.ofWf C S3 W' (T4.trans T')
  exact(hQ _ _ α3 .next X.1 ((T1.trans T3).trans X.2) (R1.trans R3))
 ·exact nn hf
noncomputable def isSorter (p:PV):PM Unit:=fun σ=>match p with
 | .ref i=>(match σ.H[i]? with
  | some (.sorter _)=>some ((),σ)
  | _=>none)
 | _=>none
noncomputable def pMethS (F:PF) (f:PM PV) (g:PM (List PV)):PM PV:=seq f fun o=>seq (isSorter o) fun _=>seq g fun ps=>pCallF F (o::ps)
structure MethOK (name:Str) (fa:Addr):Prop where
 at_:∀ p:PySem.Params,mN208 p name=some (.ref fa)
 fn:∀ p:PySem.Params,(Mine.Internal.fnIn (hd.heap_39 p) fa).isSome=true
 cls:∀ p:PySem.Params,typeIn (hd.heap_39 p) (.ref fa)=some (.type "function")
 out:name ∉ sorterNames
 obj:∃ y,typeLookup (.type "object") name=pure y
theorem pMethS_elim {F:PF}{f:PM PV}{g:PM (List PV)}{σ σ':PS}{p:PV}{P:Prop}(h:pMethS F f g σ=some (p,σ')) (k:∀ i fs σ1 ps σ3 H',f σ=some (.ref i,σ1)→σ1.H[i]?=some (.sorter fs)→g σ1=some (ps,σ3)→F (.ref i::ps) σ3.H=some (p,H')→σ'=⟨H',σ3.V⟩→P):P:=by
 refine seq_elim h fun q σ1 e1 h=>seq_elim h fun u σ2 e2 h=>seq_elim h fun ps σ3 e3 h=>map_elim h fun r q1 q2=>?_
 unfold isSorter at e2
 split at e2
 ·split at e2
  ·cases e2;cases q2;exact k _ _ _ _ _ _ e1 ‹_› e3 q1 rfl
  ·exact nn e2
 ·exact nn e2
theorem SE_mcall {name:Str}{fa:Addr}{F:PF}{o:Expr}{apos pos:Pos}{es:List Expr}{f:PM PV}{g:PM (List PV)}(M:MethOK name fa) (hF:SF fa k F) (hf:SE k sc ns o f) (hg:SAr k sc ns pos es g) (hp:∀ env,(starEach es env).any (·.1)=false) (hbase:∀ env,attributeBase o name env (eval o env)=eval o env) (hlen:es.length<20) (hline:(apos.endLine==pos.line)=true):
  SE k sc ns (.Call (.Attribute o name apos) es [] pos) (pMethS F f g):=by
 refine Jd.of fun {w h0 mg mb A env α U s σ p σ'} C S e Q₀ hQ=>pMethS_elim e fun i fs σ1 ps σ3 H' e1 hH e3 q1 hs=>?_
 subst hs
 refine(?_:wpAny _ _ (eval _ env) _ _ _)
 rw[arm_eval_Call,hbase env]
 refine wpAny_bind (hf.run C S e1 fun v s1 α1 V1 S1 T1 R1=>wpAny_bind (wpAny_standAt ?_))
 have hform:methodCallForm (es.length+([]:List Keyword).length) (backTo pos (starEach es env)) (backToKw pos (keywordEach [] env))=true:=by
  unfold methodCallForm
  have hz:=starPlain (pos:=pos) (hp env)
  have:(backTo pos (starEach es env)).all (fun x=>!x.1)=true:=by
   rw[List.all_eq_true]
   intro x hx
   have:=List.any_eq_false.mp hz x hx
   simpa using this
  rw[this]
  have:(backToKw pos (keywordEach [] env)).all (fun x=>x.1.isSome)=true:=rfl
  rw[this]
  have:(backToKw pos (keywordEach [] env)).isEmpty=true:=rfl
  simp only[this,Bool.and_self,Bool.true_and,decide_eq_true_eq,List.length_nil,if_true]
  exact Nat.lt_of_lt_of_le hlen (by decide)
 have hpos:methodCallPos true o env apos pos=pure pos:=by unfold methodCallPos;simp[hline]
 unfold methodCall
 rw[hform]
 refine VR.ref_elim V1 fun a b hi=>hide fun G hG=>?_
 have hor:=S1.wf.or_at hi hH
 obtain⟨m,I,hw,hfl⟩:=sorter_inst hor
 obtain⟨nm,qq,bs,sn,sub,ab,col,dd,k0,k1,k2,k3,k5,newId,hC⟩:=obj208 w.params
 have X:=C.base.Kin S1.wf
 obtain⟨fd,hfd⟩:=Option.isSome_iff_exists.mp (M.fn w.params)
 obtain⟨ofn,hofn,hdat⟩:=fnIn_get C.base.K hfd
 obtain⟨oc,hoc,hcc⟩:=Option.map_eq_some_iff.mp (M.cls w.params)
 have hfn':=S1.wf.keep _ _ hofn
 have hoc':ofn=oc:=by have:=X _ _ hoc;rw[hfn'] at this;exact Option.some.inj this
 obtain⟨y,hy⟩:=M.obj
 have hsh:m name=none:=by
  by_cases z:m name=none
  ·exact z
  ·exact absurd (hw name z) M.out
 refine hG (wpAny_bind (wpAny_holding (?_:wpAny _ _ (calleeOf true o env (.ref a) name) _ _ s1)))
 unfold calleeOf
 skip
 obtain⟨hh,gg,dd',tt,os⟩:=s1
 refine method_of (X _ _ hC) (ns_in X (is208 _)) (ng208 _) (nh208 _) (M.at_ _) hfn' (by rw[hoc'];exact hcc) hy I hsh ?_
 refine wpAny_bind (wpAny_of_eq hpos ?_)
 refine(?_:wpAny _ _ (callWith pos (.ref fa) [.ref a] (backTo pos (starEach es env)) []) _ _ _)
 refine callWith_function (o:=ofn) (fd:=fd) ((hg (.ref fa)).run C S1 e3 fun a2 s2 α2 V2 S2 T2 R2=>⟨⟨S2.wf.keep _ _ hofn,hdat⟩,?_⟩)
 refine args_elim V2 fun pos' V2=>?_
 exact callee_ok hF C S2 (.cons (.ref (T2.index hi)) V2) q1 fun v s3 α3 V3 S3 T3 R3=>hQ _ _ α3 V3 S3 ((T1.trans T2).trans T3) ((R1.trans R2).trans R3)
end
end Mine.Internal
namespace Mine.Internal
open PySem PySem.W PyProof.Rows PySem.Calls
section
variable {k:Nat}{sc:Scope}{ns:List Str}
structure MakeOK (C fI:Addr):Prop where
 makes:∀ p:PySem.Params,makesIn (hd.heap_39 p) C=true
 init:∀ p:PySem.Params,findIn (hd.heap_39 p) (.ref C) "__init__"=some (some (.ref fI))
 fn:∀ p:PySem.Params,typeIn (hd.heap_39 p) (.ref fI)=some (.type "function")
theorem make208:MakeOK 208 144:=⟨fun _=>by kernel_rfl,fun _=>by kernel_rfl,fun _=>by kernel_rfl⟩
theorem make111:MakeOK 111 107:=⟨fun _=>by kernel_rfl,fun _=>by kernel_rfl,fun _=>by kernel_rfl⟩
noncomputable def F_make (new:PObj) (F:PF):PF:=fun ps H=>match F (.ref H.length::ps) (H++[new]) with
 | some (.none,H')=>some (.ref H.length,H')
 | _=>none
theorem frs_type {A:Around}{args:Args}:frs (A.under (.builtin "type.__call__" args))=frs A:=by
 unfold frs
 refine(?_:((pushEnvs [] A.frames).getD []).filterMap _=_)
 cases h:A.frames<;>simp[pushEnvs]
theorem frames_type {A:Around}{args:Args}:(A.under (.builtin "type.__call__" args)).frames=A.frames:=by
 show pushEnvs [] A.frames=_
 cases h:A.frames<;>simp[pushEnvs]
theorem SFc_make {C fI:Addr}{new:PObj}{F:PF}(M:MakeOK C fI) (hor:∀(w:World) (α:List Ad) (U:List Addr) (h:Heap) (x dx:Addr),dx≠x→h.get? x=some (instObj C dx)→h.get? dx=some emptyDict→OR w α U h (x,dx) new) (hF:SFc (.ref fI) k F):SFc (.ref C) (k+1) (F_make new F):=by
 intro w h0 mg mb A α U s H args ps p H' R B a W V e hR
 unfold F_make at e
 split at e
 ·rename_i H1 e1
  cases e
  have X:=B.Kin W
  obtain⟨h,g,d,t,os⟩:=s
  dsimp only at W V X hR
  refine make_core (makes_of X (M.makes _)) (looks_findIn X (M.init _)) (fun self=>bind_fn X self (M.fn _)) (.inl rfl) ?_
  have hsz:(h.push emptyDict).objs.size=h.objs.size+1:=Heap.size_push ..
  have k1:∀ b o,h.get? b=some o→(h.push emptyDict).get? b=some o:=fun b o q=>Heap.get?_push_of_some _ q
  have k2:∀ b o,(h.push emptyDict).get? b=some o→((h.push emptyDict).push (instObj C h.objs.size)).get? b=some o:=fun b o q=>Heap.get?_push_of_some _ q
  have gx:((h.push emptyDict).push (instObj C h.objs.size)).get? (h.objs.size+1)=some (instObj C h.objs.size):=by
   have:=Heap.get?_push_size (h.push emptyDict) (o:=instObj C h.objs.size) rfl
   rw[hsz] at this;exact this
  have gd:((h.push emptyDict).push (instObj C h.objs.size)).get? h.objs.size=some emptyDict:=k2 _ _ (Heap.get?_push_size _ rfl)
  have n1:h.get? (h.objs.size+1)=none:=Heap.get?_none_of_le (Nat.le_succ _)
  have hne:h.objs.size≠h.objs.size+1:=Nat.ne_of_lt (Nat.lt_succ_self _)
  obtain⟨W',T'⟩:=W.new (p:=(h.objs.size+1,h.objs.size)) (h':=(h.push emptyDict).push (instObj C h.objs.size)) (fun b o q=>k2 b o (k1 b o q)) n1 (get_size_none h) ⟨_,gx⟩ ⟨_,gd⟩ (Nat.lt_succ_of_lt (low3 B W)) (o:=new) (hor w _ _ _ _ _ hne gx gd)
  have idx:(α++[((h.objs.size+1,h.objs.size):Ad)])[H.length]?=some (h.objs.size+1,h.objs.size):=by
   rw[← W.len,List.getElem?_append_right (Nat.le_refl _),Nat.sub_self];rfl
  have a':AOK k (A.under (.builtin "type.__call__" ⟨.ref C::args,[]⟩)) U:=by
   refine⟨fun _=>a.handled (Nat.succ_pos _),?_,?_,?_⟩
   ·have:(A.under (.builtin "type.__call__" ⟨.ref C::args,[]⟩)).depth=A.depth+1:=rfl
    have:=a.depth;lia
   ·have:(A.under (.builtin "type.__call__" ⟨.ref C::args,[]⟩)).units≤A.units+10:=by
     show A.units+(Code.builtin "type.__call__" ⟨.ref C::args,[]⟩).cUnits≤A.units+10
     exact Nat.add_le_add_left (show(Code.builtin "type.__call__" ⟨.ref C::args,[]⟩).cUnits≤10 by first | exact Nat.le_of_ble_eq_true rfl | (unfold Code.cUnits;simp)) _
    have:=a.units;lia
   ·skip;exact a.frames
  refine hF w h0 mg mb _ _ U ⟨(h.push emptyDict).push (instObj C h.objs.size),g,d,t,os⟩ (H++[new]) (.ref (h.objs.size+1)::args) (.ref H.length::ps) .none H' _ B a' W' (.cons (.ref idx) (V.mono T' fun _ q=>nomatch q)) e1 ?_
  rintro v s' ⟨α',V',W2,T2,R2⟩
  have hv:v=.none:=by cases V';rfl
  subst hv
  rw[frs_type] at T2
  refine⟨rfl,hR _ _ ⟨α',.ref (T2.index idx),W2,(T'.plain (own:=[]) (fr:=frs A)).trans T2,R2⟩⟩
 ·exact nn e
theorem or208 (w:World) (α:List Ad) (U:List Addr) (h:Heap) (x dx:Addr) (hne:dx≠x) (hx:h.get? x=some (instObj 208 dx)) (hd:h.get? dx=some emptyDict):OR w α U h (x,dx) (.sorter [none,none,none,none]):=by
 refine⟨hne,hx,fun _=>none,⟨_,#[],0,hd,rfl,fun e he=>by simp at he,?_,fun n=>rfl⟩,fun _ _=>rfl,fun i q e=>?_⟩
 ·unfold UniqKeys;simp
 ·have:=List.mem_of_getElem? e
  simp at this
theorem or111 (w:World) (α:List Ad) (U:List Addr) (h:Heap) (x dx:Addr) (hne:dx≠x) (hx:h.get? x=some (instObj 111 dx)) (hd:h.get? dx=some emptyDict):OR w α U h (x,dx) (.node [none,none,none]):=by
 refine⟨hne,[],hx,hd,fun i q e=>?_⟩
 have:=List.mem_of_getElem? e
 simp at this
theorem SE_callK {fv:Value}{F:PF}{x:Str}{px pos:Pos}{es:List Expr}{f:PM PV}{g:PM (List PV)}(hF:SFv fv k F) (hk:∀ p:PySem.Params,keepIn (hd.heap_39 p) fv=true) (hf:SE k sc ns (.Name x px) f) (hg:SAr k sc ns pos es g) (hp:∀ env,(starEach es env).any (·.1)=false):
  SE k sc ns (.Call (.Name x px) es [] pos) (pCall fv F f g):=by
 refine Jd.of fun {w h0 mg mb A env α U s σ p σ'} C S e Q₀ hQ=>?_
 revert hQ
 refine pCall_elim e fun σ1 ps σ2 H' e1 e2 e3 hQ=>?_
 refine wpAny_Call_NameR (hf.run C S e1 fun v s1 α1 V1 S1 T1 R1=>VR.const_elim V1 ?_)
 refine callWith_of (P:=fun h=>(hd.heap_39 w.params).In h) (by rw[starPlain (hp env)];rfl) (keeps_K (hk _)) ((hg fv).run C S1 e2 fun a s2 α2 V2 S2 T2 R2=>⟨C.base.Kin S2.wf,?_⟩)
 refine args_elim V2 fun pos' V2=>?_
 refine(?_:wpAny _ _ (call fv ([]++pos') []) _ _ _)
 skip
 exact callee_ok hF C S2 V2 e3 fun v s3 α3 V3 S3 T3 R3=>hQ _ _ α3 V3 S3 ((T1.trans T2).trans T3) ((R1.trans R2).trans R3)
end
end Mine.Internal
namespace Mine.Internal
open PySem PySem.W PyProof.Rows PySem.Calls
section
variable {k:Nat}{sc:Scope}{ns:List Str}
noncomputable def itemsOf (p:PV):PM (List PV):=fun σ=>match p with
 | .ref i=>(match σ.H[i]? with
  | some (.list xs)=>if xs.length≤1000000 then some (xs,σ) else none
  | _=>none)
 | _=>none
noncomputable def aStar (f:PM PV) (g:PM (List PV)):PM (List PV):=seq f fun p=>seq (itemsOf p) fun xs=>seq g fun ys=>ret (xs++ys)
@[elab_as_elim] theorem items_elim {p:PV}{xs:List PV}{σ σ':PS}{P:PV→List PV→PS→Prop}(e:itemsOf p σ=some (xs,σ')) (k:∀ i xs,σ.H[i]?=some (.list xs)→xs.length≤1000000→P (.ref i) xs σ):P p xs σ':=by
 unfold itemsOf at e
 split at e
 ·split at e
  ·rename_i hH
   split at e
   ·rename_i hn
    refine sp2e e ?_
    exact k _ _ hH hn
   ·exact nn e
  ·exact nn e
 ·exact nn e
theorem SA_star {pos sp:Pos}{e:Expr}{es:List Expr}{f:PM PV}{g:PM (List PV)}(h1:SE k sc ns e f) (h2:SArgs k sc ns pos es g) (hs:∀ env,starEach (.Starred e sp::es) env=(true,eval e env)::starEach es env):SArgs k sc ns pos (.Starred e sp::es) (aStar f g):=by
 refine Jd.of fun {w h0 mg mb A env α U s σ p σ'} C S hf Q₀ hQ=>?_
 refine seq_elim hf fun a σ1 e1 hf=>?_
 refine seq_elim hf fun xs σ2 e2 hf=>?_
 refine seq_elim hf fun ys σ3 e3 hf=>?_
 revert hQ;refine sp2e (c:=p) (d:=σ') hf fun hQ=>?_
 refine items_star (h1.run C S e1 fun v s1 α1 V1 S1 T1 R1=>?_) (hs env)
 clear e1
 revert V1 hQ e3
 refine items_elim e2 fun i xs hH hn e3 hQ V1=>?_
 refine VR.list_elim V1 S1.wf hH fun a vs n hi hl hvs=>?_
 skip
 refine wpAny_bind (wpAny_specialOf (IsL.isList hl).typeIs PySem.F.slot_list_iter.lookup (wpAny_pure ⟨rfl,?_⟩))
 refine wpAny_collect_seq a (.inl rfl) hl rfl rfl (fun h' hk=>?_) (by skip;exact Nat.le_trans (Nat.le_of_eq hvs.length) (Nat.le_trans hn (show 1000000≤sizeLine by decide)))
 have X:=St.keeps (A:=A) S1 hk
 refine h2.run C (s:={s1 with heap:=h'}) X.1 e3 fun ws s3 α3 V3 S3 T3 R3=>?_
 exact(hQ _ _ α3 (((hvs.mono X.2 C.own).mono T3 C.own).append V3) S3 ((T1.trans X.2).trans T3) (R1.trans R3))
theorem lookIn_ns {h:Heap}{a:Addr}{m:Str→Option Value}{od:Obj}(hn:h.Ns a m) (ho:h.get? a=some od) (name:Str):lookIn name od=some (m name):=by
 refine gv fun _ gk=>?_
 obtain⟨o,es,ep,ho',hd,hk,hm⟩:=hn
 refine gk ?_
 rw[ho] at ho';obtain rfl:=sj ho'
 unfold lookIn
 rw[hd]
 have h1:=hm name
 unfold nsFind findBy at h1
 rw[← Array.find?_toList] at h1
 simp only
 cases q:es.toList.find? (·.key.isStr name) with
 | some e=>rw[q] at h1;simp at h1 ⊢;exact h1
 | none=>
  rw[q] at h1
  have:(es.toList.any (·.refKey))=false:=by
   rw[List.any_eq_false]
   intro e he
   refine gv fun _ gk=>?_
   obtain⟨n,t,hkey⟩:=hk e (by simpa using he)
   refine gk ?_
   simp[DictEntry.refKey,hkey]
  simp[this] at h1 ⊢
  exact h1
theorem findObj_meth {K:Frag}{C f:Addr}{name:Str}{od:Obj}{g:Value}(hh:∃ cd,clsIn K C=some cd∧cd.hasDict=true) (ha:findIn K (.ref C) name=some (some (.ref f))) (hg:specialIn K (.ref f) "__get__"=some (some g)) (ht:takesIn K (.ref f)=some false) (hc:copiedNames.contains name=false) (hl:lookIn name od=some none):
  findObj K C (some od) name=some (.bind g (.ref f)):=by
 obtain⟨cd,hc',hd⟩:=hh
 have ho:W.ownOf cd (some od) name=some none:=by unfold W.ownOf;rw[if_pos hd];exact hl
 unfold findObj
 simp only[hc',ha,hg,ht,ho,hc,Option.bind_some,Bool.false_and,Bool.false_eq_true,if_false]
structure BoundOK (name:Str) (fa:Addr):Prop where
 find:∀ p:PySem.Params,findIn (hd.heap_39 p) (.ref 208) name=some (some (.ref fa))
 get:∀ p:PySem.Params,specialIn (hd.heap_39 p) (.ref fa) "__get__"=some (some (.builtin "function.__get__"))
 takes:∀ p:PySem.Params,takesIn (hd.heap_39 p) (.ref fa)=some false
 copied:copiedNames.contains name=false
 cls:∀ p:PySem.Params,typeIn (hd.heap_39 p) (.ref fa)=some (.type "function")
 fn:∀ p:PySem.Params,W.fnIn (hd.heap_39 p) fa=true
 out:name ∉ sorterNames
theorem cd208 (p:PySem.Params):∃ cd,clsIn (hd.heap_39 p) 208=some cd∧cd.hasDict=true:=⟨_,rfl,rfl⟩
theorem ga208 (p:PySem.Params):findIn (hd.heap_39 p) (.ref 208) "__getattribute__"=some (some (.builtin "object.__getattribute__")):=by kernel_rfl
theorem gh208 (p:PySem.Params):findIn (hd.heap_39 p) (.ref 208) "__getattr__"=some none:=by kernel_rfl
theorem SE_mstar {name:Str}{fa:Addr}{F:PF}{o:Expr}{apos pos:Pos}{es:List Expr}{f:PM PV}{g:PM (List PV)}(M:BoundOK name fa) (hF:SFc (.ref fa) k F) (hf:SE k sc ns o f) (hg:SAr k sc ns pos es g) (hform:∀ env,methodCallForm (es.length+([]:List Keyword).length) (backTo pos (starEach es env)) (backToKw pos (keywordEach [] env))=false)
  (hst:∀ env,(backTo pos (starEach es env)).any (·.1)=true) (hbase:∀ env,attributeBase o name env (eval o env)=eval o env):
  SE k sc ns (.Call (.Attribute o name apos) es [] pos) (pMethS F f g):=by
 refine Jd.of fun {w h0 mg mb A env α U s σ p σ'} C S e Q₀ hQ=>pMethS_elim e fun i fs σ1 ps σ3 H' e1 hH e3 q1 hs=>?_
 subst hs
 refine(?_:wpAny _ _ (eval _ env) _ _ _)
 rw[arm_eval_Call,hbase env]
 refine wpAny_bind (hf.run C S e1 fun v s1 α1 V1 S1 T1 R1=>wpAny_bind (wpAny_standAt ?_))
 have hpos:methodCallPos false o env apos pos=pure pos:=by unfold methodCallPos;simp
 unfold methodCall
 rw[hform env]
 refine VR.ref_elim V1 fun a b hi=>hide fun G hG=>?_
 have hor:=S1.wf.or_at hi hH
 obtain⟨hne,hxo,m,hns,hw,hfl⟩:=hor
 simp only at hne hxo hns
 obtain⟨od,es',ep',hod,_⟩:=id hns
 have X:=C.base.Kin S1.wf
 have I:W.InstAt s1.heap a (instObj 208 b) 208 (some od):=⟨hxo,rfl,rfl,hod⟩
 refine hG (wpAny_bind (wpAny_holding (?_:wpAny _ _ (calleeOf false o env (.ref a) name) _ _ s1)))
 unfold calleeOf
 skip
 refine wpAny_bind ?_
 have hfo:=findObj_meth (name:=name) (cd208 w.params) (M.find _) (M.get _) (M.takes _) M.copied (od:=od) (by rw[lookIn_ns hns.ns hod,hw name M.out])
 refine get_bind X I (ga208 _) hfo (gh208 _) (wpAny_call (fn_get (s:={s1 with toks:=s1.toks+1}) X (M.cls _) (handed_on rfl (wpAny_pure ?_))))
 refine wpAny_bind (wpAny_of_eq hpos ?_)
 dsimp only
 have hkp:∀ b o,s1.heap.get? b=some o→(s1.heap.push (methodObj (.ref fa) (.ref a))).get? b=some o:=fun b o q=>Heap.get?_push_of_some _ q
 have gq:(s1.heap.push (methodObj (.ref fa) (.ref a))).get? s1.heap.objs.size=some (methodObj (.ref fa) (.ref a)):=Heap.get?_push_size _ rfl
 obtain⟨S2,T2⟩:=St.keeps (A:=A) S1 hkp
 have fa1:=fresh_away S1.wf (get_size_none s1.heap)
 refine(?_:wpAny _ _ (callWith pos (.ref s1.heap.objs.size) [] (backTo pos (starEach es env)) []) _ _ _)
 refine ks_call (P:=MethP (hd.heap_39 w.params) s1.heap.objs.size fa (.ref a)) (hst env) (keeps_M (M.fn _)) ((hg _).run C (s:={s1 with heap:=s1.heap.push (methodObj (.ref fa) (.ref a)),toks:=s1.toks+1}) S2 e3 fun a2 s3 α3 V3 S3 T3 R3=>?_)
 have gq3:=T3.only _ _ gq fa1.1 (fun z=>fa1.2 (C.own _ z)) fun z=>fa1.2 (C.a.frs _ z)
 refine⟨⟨gq3,C.base.Kin S3.wf⟩,?_⟩
 refine args_elim V3 fun pos' V3=>?_
 refine(?_:wpAny _ _ (call (.ref s1.heap.objs.size) ([]++pos') []) _ _ _)
 skip
 refine wpAny_call (method_call gq3 (hF w h0 mg mb A α3 U s3 σ3.H (.ref a::pos') (_::ps) p H' _ C.base C.a S3.wf (.cons (.ref (T3.index (T2.index hi))) V3) q1 ?_))
 rintro v4 s4 ⟨α4,V4,W4,T4,R4⟩
 exact hQ _ _ α4 V4 ⟨W4,S3.fr.over T4 (fun _ q=>nomatch q) (fun a ha=>own_away C S3 ha) fun a ha q=>nomatch q⟩ (((T1.trans T2).trans T3).trans (T4.weaken (fun _ q=>nomatch q) fun _ q=>q)) ((R1.trans R3).trans R4)
end
end Mine.Internal
namespace Mine.Internal
open PySem PySem.W PyProof.Rows PySem.Calls
section
variable {k:Nat}{sc:Scope}{ns:List Str}
noncomputable def F_sum:PF:=onL fun _ xs H=>match intsOf xs with
 | some ns=>some (.int ns.sum,H)
 | none=>none
theorem sum_nums {vs:List Value}{ys:Array (Int × Tok)}{nn:List Int}(hI:IntsAre vs nn) (hys:List.toArray vs=intItems ys):preSum (numAt ys) ys.size=nn.sum:=by
 rw[preSum_eq,List.take_of_length_le (by simp),← nums_intItems,← hys]
 show(numsOf vs).sum=_
 rw[hI.numsOf]
set_option smartUnfolding false in
theorem sf_sum:SFv (.builtin "sum") (k+1) F_sum:=by
 refine SFv.ofL fun {w h0 mg mb A α U s H i b vs n xs p H'} B a W hi hl hvs e Q hQ=>?_
 refine opt_elim (o:=intsOf xs) (f:=fun ns=>some (PV.int ns.sum,H)) e fun nn hns e=>?_
 have hI:=intsOf_ok hvs hns
 refine hI.allInts.items.elim fun ys hys=>?_
 refine sum_intListG (a.handled (Nat.succ_pos _)) (hys▸IsL.isList hl) fun h' tk t' hk=>?_
 exact(some_to (P:=CallPost w h0 A α U s Q) e hQ).keep W hk ((sum_nums hI hys).symm▸.int ..)
noncomputable def F_iter:PF:=onL fun i _ H=>some (.ref H.length,H++[.liter (.ref i) 0])
theorem CallPost.new {w:World}{h0:Heap}{mg mb:Str→Option Value}{A:Around}{α:List Ad}{U:List Addr}{s:Shared}{H:List PObj}{Q:Value→Shared→Prop}{o:PObj}{x:Obj}{tk:Nat}(B:Base w h0 mg mb) (W:Wf w h0 α U H s.heap) (hQ:CallPost w h0 A α U s Q (.ref H.length) (H++[o])) (hx:x.isFreed=false)
  (ho:(s.heap.push x).get? s.heap.objs.size=some x→OR w (α++[(s.heap.objs.size,s.heap.objs.size)]) U (s.heap.push x) (s.heap.objs.size,s.heap.objs.size) o):Q (.ref s.heap.objs.size) {s with heap:=s.heap.push x,toks:=tk}:=by
 have hp:(s.heap.push x).get? s.heap.objs.size=some x:=Heap.get?_push_size _ hx
 have hn:=get_size_none s.heap
 have Z:=W.new (p:=(s.heap.objs.size,s.heap.objs.size)) (fun a o q=>Heap.get?_push_of_some _ q) hn hn ⟨_,hp⟩ ⟨_,hp⟩ (low3 B W) (ho hp)
 refine hQ _ _ _ (.ref (b:=s.heap.objs.size) ?_) Z.1 Z.2.plain ⟨rfl,rfl,rfl⟩
 rw[← W.len,List.getElem?_append_right (Nat.le_refl _),Nat.sub_self];rfl
theorem sf_iter:SFv (.builtin "iter") k F_iter:=by
 refine SFv.ofL fun {w h0 mg mb A α U s H i b vs n xs p H'} B a W hi hl hvs e Q hQ=>?_
 have hQ:=some_to (P:=CallPost w h0 A α U s Q) e hQ
 refine call_function_entry (by decide+kernel) (by decide+kernel) (entryFor_of_fast (b:=Builtin.«iter») (by kernel_rfl)) (by skip;kernel_rfl) ?_
 refine wpAny_bind (m:=someArgs "iter" 1 2 _) (wpAny_of_eq (a:=[Value.ref b]) (by first | rfl | kernel_rfl!) ?_)
 refine(wpAny_bind (wpAny_pyIter_list (IsL.isList hl) ?_):wpAny _ _ (pyIter (.ref b)>>=_) _ _ _)
 refine wpAny_pure ⟨_,rfl,CallPost.new (tk:=s.toks) B W hQ rfl fun hp=>?_⟩
 exact⟨rfl,⟨i,(b,b),rfl,by rw[List.getElem?_append_left (List.getElem?_eq_some_iff.mp hi).1];exact hi,_,hp,rfl,rfl⟩,fun _=>⟨_,hp,rfl⟩⟩
noncomputable def F_tuple:PF:=onL fun _ xs H=>if xs.length≤1000000 then some (.tup xs,H) else none
theorem sf_tuple:SFv (.type "tuple") k F_tuple:=by
 refine SFv.ofL fun {w h0 mg mb A α U s H i b vs n xs p H'} B a W hi hl hvs e Q hQ=>?_
 refine if_to (P:=CallPost w h0 A α U s Q) e hQ fun hn hQ=>?_
 have hlen:=hvs.length
 refine call_tuple_list (IsL.isList hl) (fun h' hk=>?_) (by have:sizeLine=16777216:=rfl;simp;exact Nat.le_trans (Nat.le_of_eq hlen) (Nat.le_trans hn (by decide)))
 have hk2:∀ a o,s.heap.get? a=some o→(h'.push {cls:=.type "tuple",data:=.seq vs.toArray}).get? a=some o:=fun a o q=>Heap.get?_push_of_some _ (hk a o q)
 have fr:=fresh_away (W.keeps hk) (get_size_none h')
 have T0:Step [] [] α s.heap α (h'.push {cls:=.type "tuple",data:=.seq vs.toArray}):=keep_step hk2
 exact hQ.keep W hk2 (.tup ⟨_,Heap.get?_push_size _ rfl,rfl,0,rfl⟩ fr.2 fr.1 (hvs.mono T0 fun _ q=>nomatch q))
noncomputable def F_bool:PF:=onL fun _ xs H=>if xs.length<2 ^ 40 then some (.bool (!xs.isEmpty),H) else none
theorem meets_bool_new_list (l:Addr) (items:Array Value) (hsz:(items.size:Int)<2 ^ 62):Meets (Builtin.«bool.__new__» ⟨[.type "bool",.ref l],[]⟩) (fun _ R s=>s.heap.IsList l items∧∀ tk,R (.ok (.ret (.bool (!items.isEmpty)))) {s with toks:=tk}):=
 Meets.of_wp fun prog w A R s hs=>by
  obtain⟨hl,hs⟩:=hs
  have f1:=F.conv_sub_bool
  have hl':=hl
  obtain⟨hp,g,d,tk,os⟩:=s
  repeat (any_goals (first | assumption | (with_reducible refine wpAny_truthy_list hl' (by lia) ?_) | wp_step))
  all_goals first | exact⟨_,rfl,hs _⟩ | exact hs _ | skip
theorem sf_bool:SFv (.type "bool") k F_bool:=by
 refine SFv.ofL fun {w h0 mg mb A α U s H i b vs n xs p H'} B a W hi hl hvs e Q hQ=>?_
 refine if_to (P:=CallPost w h0 A α U s Q) e hQ fun hn hQ=>?_
 refine call_bool_1 (meets_bool_new_list b vs.toArray (size_lt2 hvs.length hn)) ⟨IsL.isList hl,fun tk=>⟨rfl,?_⟩⟩
 exact hQ.here W (empty_same hvs.length▸.bool _)
noncomputable def getIn (i:Nat) (b:PV) (H:List PObj):Option (PV × List PObj):=match b with
 | .int kk=>(match H[i]? with
  | some (.dict es _)=>some ((dget es kk).getD .none,H)
  | _=>none)
 | _=>none
noncomputable def F_get:PF:=fun ps H=>match ps with
 | [a,b]=>(match a with | .ref i=>getIn i b H | _=>none)
 | _=>none
theorem on_dict {τ:Type}{H:List PObj}{i:Nat}{f:List (Int × PV)→Nat→Option τ}{r:τ}{G:Prop}(e:(match H[i]? with | some (.dict es ep)=>f es ep | _=>none)=some r) (k:∀ es ep,H[i]?=some (.dict es ep)→f es ep=some r→G):G:=by
 cases h:H[i]? with
 | none=>rw[h] at e;exact no_some e
 | some o=>cases o with
  | dict es ep=>rw[h] at e;exact k es ep h e
  | list=>rw[h] at e;exact no_some e
  | set=>rw[h] at e;exact no_some e
  | sorter=>rw[h] at e;exact no_some e
  | node=>rw[h] at e;exact no_some e
  | liter=>rw[h] at e;exact no_some e
  | bnext=>rw[h] at e;exact no_some e
  | raw=>rw[h] at e;exact no_some e
  | dead=>rw[h] at e;exact no_some e
theorem not_mods {w:World}{h0:Heap}{α:List Ad}{U:List Addr}{H:List PObj}{h:Heap}(W:Wf w h0 α U H h) {i:Nat}{a b:Addr}(hi:α[i]?=some (a,b)):(a==sysModules)=false:=by
 have h3:3<a:=(W.fresh _ (List.mem_of_getElem? hi)).2.2
 have:a≠sysModules:=fun q=>by
  rw[q] at h3;exact absurd h3 (by decide)
 simpa using this
set_option smartUnfolding false in
theorem sf_get:SFv (.builtin "dict.get") k F_get:=by
 refine SFv.of2 (fun _=>rfl) (fun _ _=>rfl) (fun _ _ _ _ _=>rfl) fun {w h0 mg mb A α U s H v u c d p H'} B a W V1 V2 e Q hQ=>?_
 revert e
 refine V1.any no_some (fun _=>no_some) (fun _ _=>no_some) (fun a' b i hi=>?_) (fun _ _ _ _ _ _ _=>no_some) fun _=>no_some
 refine V2.any no_some (fun _=>no_some) (fun kk t e=>?_) (fun _ _ _ _=>no_some) (fun _ _ _ _ _ _ _=>no_some) fun _=>no_some
 refine on_dict (f:=fun es _=>some ((dget es kk).getD .none,H)) e fun es ep hH e=>?_
 have hQ:=some_to (P:=CallPost w h0 A α U s Q) e hQ
 refine gv fun _ gk=>?_
 obtain⟨r,hr,hb,kvs,hd,hkv⟩:=W.at hH
 refine gk ?_
 rw[hi] at hr;obtain rfl:=sj hr
 refine call_meetsIn PySem.F.slot_dict_get hd.dictOf.typeIs PySem.F.entry_dict_get (PySem.F.args_dict_get_2 _ _) (meets_dict_get (intKind prog w) a' (intKind_is prog w kk t) (not_mods W hi)) ⟨_,hd.dictOf.mapOf,?_⟩
 cases q:dget es kk with
 | none=>
  rw[KVs.getNone hkv q]
  rw[q] at hQ
  exact hQ.here W .none
 | some p=>
  rw[q] at hQ
  refine(KVs.get hkv q).elim fun v z=>?_
  rw[z.1]
  exact hQ.here W z.2
noncomputable def F_set0:PF:=fun ps H=>match ps with
 | []=>some (.ref H.length,H++[.set []])
 | _=>none
theorem sf_set0:SFv (.type "set") k F_set0:=by
 refine SFv.of fun {w h0 mg mb A α U s H args ps p H'} B a W V e Q hQ=>?_
 revert e
 refine V.any (fun e=>?_) fun _ _ _ _ _ _=>no_some
 refine call_set_0 fun led=>?_
 refine CallPost.new B W (some_to (P:=CallPost w h0 A α U s Q) e hQ) rfl fun hp=>?_
 exact⟨rfl,fun _=>false,0,⟨_,#[],0,_,hp,⟨rfl,rfl,rfl⟩,rfl,(fun e he=>by simp at he),(fun k=>by simp),by decide,rfl,rfl⟩,Nat.le_refl _,fun _=>rfl⟩
end
end Mine.Internal
namespace Mine.Internal
open PySem PySem.W PyProof.Rows PySem.Calls
section
variable {k:Nat}{sc:Scope}{ns:List Str}
noncomputable def inOf (H:List PObj) (a b:PV):Option Bool:=match a,b with
 | .int kk,.ref i=>(match H[i]? with
  | some (.set es)=>some (es.contains kk)
  | some (.dict es _)=>some (dget es kk).isSome
  | _=>none)
 | _,_=>none
noncomputable def pIn (f g:PM PV):PM Bool:=seq f fun a=>seq g fun b=>fun σ=>(inOf σ.H a b).map fun r=>(r,σ)
theorem on_sd {τ:Type}{H:List PObj}{i:Nat}{f:List Int→Option τ}{g:List (Int × PV)→Nat→Option τ}{r:τ}{G:Prop}(e:(match H[i]? with | some (.set es)=>f es | some (.dict es ep)=>g es ep | _=>none)=some r) (k1:∀ es,H[i]?=some (.set es)→f es=some r→G) (k2:∀ es ep,H[i]?=some (.dict es ep)→g es ep=some r→G):G:=by
 cases h:H[i]? with
 | none=>rw[h] at e;exact no_some e
 | some o=>cases o with
  | dict es ep=>rw[h] at e;exact k2 es ep h e
  | set es=>rw[h] at e;exact k1 es h e
  | list=>rw[h] at e;exact no_some e
  | sorter=>rw[h] at e;exact no_some e
  | node=>rw[h] at e;exact no_some e
  | liter=>rw[h] at e;exact no_some e
  | bnext=>rw[h] at e;exact no_some e
  | raw=>rw[h] at e;exact no_some e
  | dead=>rw[h] at e;exact no_some e
set_option smartUnfolding false in
theorem in_ok {w:World}{h0:Heap}{A:Around}{α:List Ad}{U:List Addr}{s:Shared}{H:List PObj}{va vb:Value}{a b:PV}{r:Bool}{Q:Value→Shared→Prop}{E:Value→Shared→Prop}(W:Wf w h0 α U H s.heap) (Va:VR α U s.heap va a) (Vb:VR α U s.heap vb b) (e:inOf H a b=some r) (h:Q (.bool r) {s with toks:=s.toks+1}):
  wpAny (model prog w) A (compareOp .In va vb) Q E s:=by
 revert e
 refine Va.any no_some (fun _=>no_some) (fun kk t=>?_) (fun _ _ _ _=>no_some) (fun _ _ _ _ _ _ _=>no_some) fun _=>no_some
 refine Vb.any no_some (fun _=>no_some) (fun _ _=>no_some) (fun a' b i hi e=>?_) (fun _ _ _ _ _ _ _=>no_some) fun _=>no_some
 refine on_sd (f:=fun es=>some (es.contains kk)) (g:=fun es _=>some (dget es kk).isSome) e (fun es hH e=>?_) fun es ep hH e=>?_
 ·refine gv fun _ gk=>?_
  obtain⟨r,hr,hb,S,n,hS,hn,hc⟩:=W.at hH
  refine gk ?_
  rw[hi] at hr;obtain rfl:=sj hr
  refine wpAny_inSet_of (intKind_is prog w kk t) rfl hS ?_
  rw[hc kk,Option.some.inj e];exact h
 ·refine gv fun _ gk=>?_
  obtain⟨r,hr,hb,kvs,hd,hkv⟩:=W.at hH
  refine gk ?_
  rw[hi] at hr;obtain rfl:=sj hr
  refine wpAny_in_of (intKind_is prog w kk t) (not_mods W hi) hd.dictOf.mapOf ?_
  rw[← Option.some.inj e] at h
  cases q:dget es kk with
  | none=>rw[KVs.getNone hkv q];rw[q] at h;exact h
  | some p=>refine(KVs.get hkv q).elim fun v z=>?_;rw[z.1];rw[q] at h;exact h
theorem ST_in {l r:Expr}{f g:PM PV}{pos:Pos}(hl:SE k sc ns l f) (hr:SE k sc ns r g) (hm:behindInMarks .In r=false):STest k sc ns (.Compare l [.In] [r] pos) (pIn f g):=by
 refine Jd.of fun {w h0 mg mb A env α U s σ p σ'} C S hf Q₀ hQ=>?_
 refine seq_elim hf fun a σ1 e1 hf=>?_
 refine seq_elim hf fun b σ2 e2 hf=>?_
 revert hQ
 refine mapp (p:=p) (σ:=σ') hf fun b' q1 hQ=>?_
 exact wpAny_isTrue_Compare1 (hl.run C S e1 fun v s1 α1 V1 S1 T1 R1=>hr.run C S1 e2 fun v2 s2 α2 V2 S2 T2 R2=>in_ok S2.wf (C.vmono V1 T2) V2 q1 (wpAny_truthy_bool (hQ _ _ α2 rfl S2 (T1.trans T2) (R1.trans R2)))) hm
noncomputable def addIn (i:Nat) (b:PV) (H:List PObj):Option (PV × List PObj):=match b with
 | .int kk=>(match H[i]? with
  | some (.set es)=>if es.length≤1000 then some (.none,H.set i (.set (es++[kk]))) else none
  | _=>none)
 | _=>none
noncomputable def F_add:PF:=fun ps H=>match ps with
 | [a,b]=>(match a with | .ref i=>addIn i b H | _=>none)
 | _=>none
theorem on_set {τ:Type}{H:List PObj}{i:Nat}{f:List Int→Option τ}{r:τ}{G:Prop}(e:(match H[i]? with | some (.set es)=>f es | _=>none)=some r) (k:∀ es,H[i]?=some (.set es)→f es=some r→G):G:=by
 cases h:H[i]? with
 | none=>rw[h] at e;exact no_some e
 | some o=>cases o with
  | set es=>rw[h] at e;exact k es h e
  | list=>rw[h] at e;exact no_some e
  | dict=>rw[h] at e;exact no_some e
  | sorter=>rw[h] at e;exact no_some e
  | node=>rw[h] at e;exact no_some e
  | liter=>rw[h] at e;exact no_some e
  | bnext=>rw[h] at e;exact no_some e
  | raw=>rw[h] at e;exact no_some e
  | dead=>rw[h] at e;exact no_some e
theorem set_put {w:World}{α:List Ad}{U:List Addr}{h:Heap}{a:Addr}{es:List Int}{kk:Int}{S:Int→Bool}{n:Nat}(hc:∀ k,S k=es.contains k) (hn:n≤es.length) (hS:h.SetOf (intKind prog w) a (fun k=>S k || decide (k=kk)) (if S kk then n else n+1)):OR w α U h (a,a) (.set (es++[kk])):=
 ⟨rfl,_,_,hS,by simp;split<;>lia,fun k'=>by
      rw[hc k']
      simp only[List.contains_eq_mem,List.mem_append,List.mem_singleton,Bool.decide_or]⟩
set_option smartUnfolding false in
theorem sf_add:SFv (.builtin "set.add") k F_add:=by
 refine SFv.of2 (fun _=>rfl) (fun _ _=>rfl) (fun _ _ _ _ _=>rfl) fun {w h0 mg mb A α U s H v u c d p H'} B a W V1 V2 e Q hQ=>?_
 revert e
 refine V1.any no_some (fun _=>no_some) (fun _ _=>no_some) (fun a' b i hi=>?_) (fun _ _ _ _ _ _ _=>no_some) fun _=>no_some
 refine V2.any no_some (fun _=>no_some) (fun kk t e=>?_) (fun _ _ _ _=>no_some) (fun _ _ _ _ _ _ _=>no_some) fun _=>no_some
 refine on_set (H:=H) (i:=i) (f:=fun es=>if es.length≤1000 then some (PV.none,H.set i (.set (es++[kk]))) else none) e fun es hH e=>?_
 refine if_to (P:=CallPost w h0 A α U s Q) e hQ fun hlen hQ=>?_
 refine gv fun _ gk=>?_
 obtain⟨r,hr,hb,S,n,hS,hn,hc⟩:=W.at hH
 refine gk ?_
 rw[hi] at hr;obtain rfl:=sj hr
 cases hb
 refine call_set_add (intKind_is prog w kk t) rfl hS (by have:scanBound=4096:=rfl;lia) fun h' hsb hS'=>?_
 have hl:∃ o,h'.get? a'=some o:=hS'.imp fun o z=>z.elim fun _ z=>z.elim fun _ z=>z.elim fun _ z=>z.1
 have Z:=W.upd (o':=.set (es++[kk])) hi (h':=h') (fun c o h1 _ ec=>(hsb.2 c h1).trans ec) hl hl (set_put hc hn hS')
 exact hQ _ _ _ .none Z.1 Z.2.plain ⟨rfl,rfl,rfl⟩
noncomputable def partOf:PV→Option (Option Int)
 | .none=>some none
 | .int i=>some (some i)
 | _=>none
noncomputable def pickL (xs:List PV) (lo hi st:Option Int):List PV:=(sliceRange (sliceBounds lo hi st xs.length).1 (sliceBounds lo hi st xs.length).2.1 (sliceBounds lo hi st xs.length).2.2).filterMap (xs[·]?)
theorem VRs.picks {α U h}{vs:List Value}{ps:List PV}(V:VRs α U h vs ps):∀(l:List Nat),VRs α U h (l.filterMap (vs[·]?)) (l.filterMap (ps[·]?))
 | []=>.nil
 | i::l=>by
  have ih:=VRs.picks V l
  cases q:ps[i]? with
  | none=>
   have:vs[i]?=none:=by rw[List.getElem?_eq_none_iff] at q ⊢;rw[V.length];exact q
   simpa[q,this] using ih
  | some p=>
   obtain⟨v,e,V'⟩:=V.get q
   simpa[q,e] using VRs.cons V' ih
theorem VRs.pick {α U h}{vs:List Value}{ps:List PV}(V:VRs α U h vs ps) (lo hi st:Option Int):VRs α U h (slicePick vs.toArray lo hi st).toList (pickL ps lo hi st):=by
 have e:(slicePick vs.toArray lo hi st).toList=(sliceRange (sliceBounds lo hi st ps.length).1 (sliceBounds lo hi st ps.length).2.1 (sliceBounds lo hi st ps.length).2.2).filterMap (vs[·]?):=by
  simp[slicePick,V.length]
 rw[e]
 exact V.picks _
theorem part_ok {α U h}{v:Value}{p:PV}{k:Option Int}(V:VR α U h v p) (e:partOf p=some k):IsPart v k:=by
 cases V<;>cases e
 ·exact .none
 ·exact .int ..
noncomputable def SPart (k:Nat) (sc:Scope) (ns:List Str) (e:Option Expr) (f:PM PV):Prop:=Jd VR k sc ns (evalPart e) f
theorem SP_none:SPart k sc ns none (pConst .none):=by
 refine Jd.of fun {w h0 mg mb A env α U s σ p σ'} C S hf Q₀ hQ=>?_
 revert hQ;refine sp2e (c:=p) (d:=σ') hf fun hQ=>?_
 show wpAny _ _ (evalPart none env) _ _ _
 skip
 exact wpAny_pure (qhere hQ S .none)
theorem SP_some {e:Expr}{f:PM PV}(h:SE k sc ns e f):SPart k sc ns (some e) f:=by
 refine Jd.of fun {w h0 mg mb A env α U s σ p σ'} C S hf Q₀ hQ=>?_
 show wpAny _ _ (evalPart (some e) env) _ _ _
 skip
 exact h.run C S hf hQ
noncomputable def sliceOf (a:PV) (lo hi st:Option Int):PM PV:=fun σ=>match a with
 | .ref i=>(match σ.H[i]? with
  | some (.list xs)=>if xs.length≤1000000∧st≠some 0 then some (.ref σ.H.length,⟨σ.H++[.list (pickL xs lo hi st)],σ.V⟩) else none
  | _=>none)
 | _=>none
noncomputable def partsOf (l u t:PV):Option (Option Int × Option Int × Option Int):=(partOf l).bind fun lo=>(partOf u).bind fun hi=>(partOf t).map fun st=>(lo,hi,st)
theorem partsOf_some {l u t:PV}{r:Option Int × Option Int × Option Int}(h:partsOf l u t=some r):partOf l=some r.1∧partOf u=some r.2.1∧partOf t=some r.2.2:=by
 refine gv fun _ gk=>?_
 obtain⟨lo,h1,h⟩:=Option.bind_eq_some_iff.mp h
 obtain⟨hi,h2,h⟩:=Option.bind_eq_some_iff.mp h
 obtain⟨st,h3,h⟩:=Option.map_eq_some_iff.mp h
 refine gk ?_
 rw[← h]
 exact⟨h1,h2,h3⟩
noncomputable def pSlice (f fl fu fs:PM PV):PM PV:=seq f fun a=>seq fl fun l=>seq fu fun u=>seq fs fun t=>match partsOf l u t with
 | some r=>sliceOf a r.1 r.2.1 r.2.2
 | none=>fail
set_option smartUnfolding false in
theorem slice_ok {w:World}{h0:Heap}{mg mb:Str→Option Value}{A:Around}{env:Env}{α:List Ad}{U:List Addr}{s:Shared}{σ σ':PS}{v vl vu vs:Value}{a p:PV}{lo hi st:Option Int}{Q:Value→Shared→Prop}{E:Value→Shared→Prop}(C:Cx w h0 mg mb k A sc env U) (S:St w h0 ns env α U σ s.heap) (V:VR α U s.heap v a)
  (pl:IsPart vl lo) (pu:IsPart vu hi) (ps:IsPart vs st) (e:sliceOf a lo hi st σ=some (p,σ'))
  (hQ:∀ v' h' α',VR α' U h' v' p→St w h0 ns env α' U σ' h'→Step (ownOf env) (frs A) α s.heap α' h'→Q v' {s with heap:=h'}):
  ({s with heap:=s.heap.push {cls:=.type "slice",data:=.fields #[vl,vu,vs]}}:Shared).TypeIs v "list"∧wpAny (model prog w) A (getItem v (.ref s.heap.objs.size)) Q E {s with heap:=s.heap.push {cls:=.type "slice",data:=.fields #[vl,vu,vs]}}:=by
 revert e
 refine V.any no_some (fun _=>no_some) (fun _ _=>no_some) (fun a' b i hii e=>?_) (fun _ _ _ _ _ _ _=>no_some) fun _=>no_some
 refine on_list (H:=σ.H) (i:=i) (f:=fun xs=>if xs.length≤1000000∧st≠some 0 then some (PV.ref σ.H.length,(⟨σ.H++[PObj.list (pickL xs lo hi st)],σ.V⟩:PS)) else none) e fun xs hH e=>?_
 refine if_to (P:=fun p σ'=>∀ v' h' α',VR α' U h' v' p→St w h0 ns env α' U σ' h'→Step (ownOf env) (frs A) α s.heap α' h'→Q v' {s with heap:=h'}) e hQ fun hn hQ=>?_
 obtain⟨rfl,ws,n,hl,hvs⟩:=list_at S.wf hH hii
 have hk:∀ a o,s.heap.get? a=some o→(s.heap.push {cls:=.type "slice",data:=.fields #[vl,vu,vs]}).get? a=some o:=fun a o q=>Heap.get?_push_of_some _ q
 have Z:=St.keeps (A:=A) S hk
 refine⟨Heap.IsList.typeIs (s:={s with heap:=s.heap.push {cls:=.type "slice",data:=.fields #[vl,vu,vs]}}) ((IsL.isList hl).push _),wpAny_getItem_list_slice ((IsL.isList hl).push _) (Heap.IsSliceOf.new ..) pl pu ps hn.2 ?_ (size_line hvs.length hn.1)⟩
 have Y:=new_list C.base Z.1.wf ((hvs.mono Z.2 C.own).pick lo hi st)
 rw[Array.toArray_toList] at Y
 have X:=St.ofWf C Z.1 Y.1 Y.2.1
 exact hQ _ _ _ Y.2.2 X.1 (Z.2.trans X.2)
theorem SE_slice {value:Expr}{lo up:Option Expr}{f fl fu:PM PV}{p pos:Pos}(hv:SE k sc ns value f) (hl:SPart k sc ns lo fl) (hu:SPart k sc ns up fu) (ht:∀ o r,letTemporaryGo value o r=pure ()):SE k sc ns (.Subscript value (.Slice lo up none p) pos) (pSlice f fl fu (pConst .none)):=by
 intro w h0 mg mb A env α U s σ q σ' C S hf
 refine seq_elim hf fun a σ1 e1 hf=>?_
 refine seq_elim hf fun b σ2 e2 hf=>?_
 refine seq_elim hf fun c σ3 e3 hf=>?_
 refine seq_elim hf fun d σ4 e4 hf=>?_
 refine gv fun _ gk=>?_
 obtain⟨rfl,rfl⟩:=sp2 e4
 refine gk ?_
 cases hp:partsOf b c .none with
 | none=>rw[hp] at hf;cases hf
 | some r=>
  rw[hp] at hf
  refine gv fun _ gk=>?_
  obtain⟨p1,p2,p3⟩:=partsOf_some hp
  refine gk ?_
  refine wpAny_Subscript_Slice (T:="list") list_getitem_lookup (hv.run C S e1 fun v1 s1 α1 V1 S1 T1 R1=>wpAny_Slice (hl.run C S1 e2 fun v2 s2 α2 V2 S2 T2 R2=>hu.run C S2 e3 fun v3 s3 α3 V3 S3 T3 R3=>?_)) ht
  skip
  exact wpAny_pure (slice_ok C S3 (C.vmono V1 (T2.trans T3)) (part_ok (C.vmono V2 T3) p1) (part_ok V3 p2) (by have:none=r.2.2:=Option.some.inj p3;rw[← this];exact .none) hf fun v' h' α' V' S' T'=>⟨α',V',S',((T1.trans T2).trans T3).trans T',(R1.trans R2).trans R3⟩)
theorem SE_slice_step {value st:Expr}{lo up:Option Expr}{f fl fu fs:PM PV}{p pos:Pos}(hv:SE k sc ns value f) (hl:SPart k sc ns lo fl) (hu:SPart k sc ns up fu) (hst:SE k sc ns st fs) (ht:∀ o r,letTemporaryGo value o r=pure ()):SE k sc ns (.Subscript value (.Slice lo up (some st) p) pos) (pSlice f fl fu fs):=by
 intro w h0 mg mb A env α U s σ q σ' C S hf
 refine seq_elim hf fun a σ1 e1 hf=>?_
 refine seq_elim hf fun b σ2 e2 hf=>?_
 refine seq_elim hf fun c σ3 e3 hf=>?_
 refine seq_elim hf fun d σ4 e4 hf=>?_
 cases hp:partsOf b c d with
 | none=>rw[hp] at hf;exact nn hf
 | some r=>
  rw[hp] at hf
  refine gv fun _ gk=>?_
  obtain⟨p1,p2,p3⟩:=partsOf_some hp
  refine gk ?_
  refine wpAny_Subscript_Slice_step (T:="list") list_getitem_lookup (hv.run C S e1 fun v1 s1 α1 V1 S1 T1 R1=>wpAny_Slice (hl.run C S1 e2 fun v2 s2 α2 V2 S2 T2 R2=>hu.run C S2 e3 fun v3 s3 α3 V3 S3 T3 R3=>?_)) ht
  skip
  exact hst.run C S3 e4 fun v4 s4 α4 V4 S4 T4 R4=>slice_ok C S4 (C.vmono V1 ((T2.trans T3).trans T4)) (part_ok (C.vmono V2 (T3.trans T4)) p1) (part_ok (C.vmono V3 T4) p2) (part_ok V4 p3) hf fun v' h' α' V' S' T'=>⟨α',V',S',(((T1.trans T2).trans T3).trans T4).trans T',((R1.trans R2).trans R3).trans R4⟩
end
end Mine.Internal
namespace Mine.Internal
open PySem PySem.W PyProof.Rows PySem.Calls
section
variable {k:Nat}{sc:Scope}{ns:List Str}
theorem SB_fail {ss:List Stmt}:SB k sc ns ss fail:=fun _ _ _ _ _ _ _ _ _ _ _ _ _ _ h=>nomatch h
theorem at_erase {w:World}{h:Heap}{d:Addr}{o:Obj}{es:Array DictEntry}{ep i:Nat}{kvs:List (Int × Value)}{ks:Int}(ho:h.get? d=some o) (hc:o.ExactDict) (hd:o.data=.dict es ep) (hk:KeysOf (intKind prog w) es) (hp:Pairs (intKind prog w) es.toList kvs) (hn:(kvs.map (·.1)).Nodup)
  (hi:(es.toList.findIdx? fun e=>(intKind prog w).is ks e.key)=some i):(h.update d (Obj.mapDictKeys (·.eraseIdxIfInBounds i))).DictAt (intKind prog w) d (without kvs ks) (ep+1):=by
 refine⟨_,_,Heap.get?_update_self _ ho (Obj.isFreed_of_dict (Obj.data_mapDictKeys hd _)),hc.mapDictKeys _,Obj.data_mapDictKeys hd _,hk.erase _,?_,nodup_without hn ks⟩
 have:=hp.erase hn hi
 obtain⟨l⟩:=es
 simpa using this
theorem del_dict {w:World}{A:Around}{s:Shared}{d:Addr}{kvs:List (Int × Value)}{ep:Nat}{ks:Int}{key:Value}{Q:Unit→Shared→Prop}{E:Value→Shared→Prop}(hkey:(intKind prog w).is ks key=true) (hm:s.heap.DictAt (intKind prog w) d kvs ep) (hsz:kvs.length≤sizeLine) (hv:(valueAt kvs ks).isSome=true)
  (hQ:∀ h',h'.DictAt (intKind prog w) d (without kvs ks) (ep+1)→Heap.SameBut d s.heap h'→Q () {s with heap:=h',toks:=s.toks+1}):wpAny (model prog w) A (delItem (.ref d) key) Q E s:=by
 have hT:=hm.dictOf.typeIs
 refine gv fun _ gk=>?_
 obtain⟨o,es,ho,hc,hd,hk,hp,hn⟩:=hm
 refine gk ?_
 refine wpAny_delItem_slot hT (by decide) PySem.F.slot_dict_delitem (wpAny_call_entry PySem.F.slot_dict_delitem hT PySem.F.entry_dict_delitem ?_ (PySem.F.args_dict_delitem_2 _ _))
 unfold Builtin.«dict.__delitem__»
 refine wpAny_bind ?_
 skip
 refine wpAny_bind (wpAny_notOrdered_dict hT ?_)
 refine(?_:wpAny _ _ (pure (Value.ref d,key)) _ _ s)
 refine wpAny_pure ?_
 refine(?_:wpAny _ _ (Builtin.Dict.takeOut d key>>=_) _ _ s)
 refine wpAny_bind ?_
 unfold Builtin.Dict.takeOut
 try with_reducible refine wpAny_holding ?_
 refine wpAny_bind ((intKind prog w).pyHash hkey (wpAny_bind (wpAny_dictFind_of (s:={s with toks:=s.toks+1}) hkey ho hd hk ?_)))
 have hl:(es.findIdx? fun e=>(intKind prog w).is ks e.key)=(es.toList.findIdx? fun e=>(intKind prog w).is ks e.key):=by
  obtain⟨l⟩:=es;simp
 rw[hl]
 cases hi:es.toList.findIdx? fun e=>(intKind prog w).is ks e.key with
 | none=>
  exfalso
  have hnot:=not_mem_of_findIdx_none ((hp.findIdx ks)▸hi)
  obtain⟨v,hv⟩:=Option.isSome_iff_exists.mp hv
  unfold valueAt at hv
  refine gv fun _ gk=>?_
  obtain⟨kv,h1,_⟩:=Option.map_eq_some_iff.mp hv
  refine gk ?_
  exact hnot (List.mem_map.mpr ⟨kv,List.mem_of_find?_eq_some h1,by simpa using List.find?_some h1⟩)
 | some i=>
  refine gv fun _ gk=>?_
  obtain⟨e,he,_,_⟩:=hp.at hi
  refine gk ?_
  have he':es[i]?=some e:=by rw[← he];obtain⟨l⟩:=es;simp
  refine wpAny_bind (wpAny_dictEntries (s:={s with toks:=s.toks+1}) ho hd ?_)
  rw[he']
  refine wpAny_bind (wpAny_updateDictKeys (hz:=by rw[← Array.length_toList,hp.length];exact hsz) (s:={s with toks:=s.toks+1}) ho hd (wpAny_pure ?_))
  exact wpAny_bind (wpAny_letGo (wpAny_pure ⟨.none,rfl,hQ _ (at_erase ho hc hd hk hp hn hi) (Heap.SameBut.update ..)⟩))
noncomputable def pDel (a b:PV):PM Unit:=fun σ=>match a,b with
 | .ref i,.int kk=>(match σ.H[i]? with
  | some (.dict es ep)=>if es.length≤1000∧(dget es kk).isSome=true then some ((),⟨σ.H.set i (.dict (ddel es kk) (ep+1)),σ.V⟩) else none
  | _=>none)
 | _,_=>none
noncomputable def sDel (f g:PM PV):PM PFlow:=seq f fun a=>seq g fun b=>seq (pDel a b) fun _=>ret .next
theorem isSome_kv {α:List Ad}{U:List Addr}{h:Heap}{kvs:List (Int × Value)}{es:List (Int × PV)}(hkv:KVs α U h kvs es) {kk:Int}(e:(dget es kk).isSome=true):(valueAt kvs kk).isSome=true:=by
 obtain⟨q,hq⟩:=Option.isSome_iff_exists.mp e
 obtain⟨v,e1,_⟩:=KVs.get hkv hq
 rw[e1];rfl
theorem one_step {α:List Ad}{h h':Heap}{a:Addr}{i:Nat}{o1:Obj}(hii:α[i]?=some (a,a)) (hsb:Heap.SameBut a h h') (ho1:h'.get? a=some o1):Step [] [] α h α h':=by
 refine but_step (fun c o x _ ec=>(hsb.2 c (x _ (List.mem_of_getElem? hii)).1.symm).trans ec) fun c o ec=>?_
 by_cases q:c=a
 ·rw[q];exact⟨_,ho1⟩
 ·exact⟨o,(hsb.2 c q).trans ec⟩
theorem line_at {m n:Nat}(e:m=n) (hn:n≤1000):m≤sizeLine:=by have:sizeLine=16777216:=rfl;exact Nat.le_trans (Nat.le_of_eq e) (Nat.le_trans hn (by decide))
set_option smartUnfolding false in
theorem del_ok {w:World}{h0:Heap}{mg mb:Str→Option Value}{A:Around}{env:Env}{α:List Ad}{U:List Addr}{s:Shared}{σ σ':PS}{v u:Value}{a b:PV}{p:Unit}{Q:Unit→Shared→Prop}{E:Value→Shared→Prop}(C:Cx w h0 mg mb k A sc env U) (S:St w h0 ns env α U σ s.heap) (V1:VR α U s.heap v a) (V2:VR α U s.heap u b) (e:pDel a b σ=some (p,σ'))
  (hQ:∀ s',St w h0 ns env α U σ' s'.heap→Step (ownOf env) (frs A) α s.heap α s'.heap→Rest s s'→Q () s'):wpAny (model prog w) A (delItem v u) Q E s:=by
 refine V1.any (P:=fun v a=>pDel a b σ=some (p,σ')→VR α U s.heap v a→wpAny (model prog w) A (delItem v u) Q E s) (fun e _=>no_some e) (fun _ e _=>no_some e) (fun _ _ e _=>no_some e) (fun a1 _ i _ e V1=>?_) (fun _ _ _ _ _ _ _ e _=>no_some e) (fun _ e _=>no_some e) e V1
 refine V2.any (P:=fun u b=>pDel (.ref i) b σ=some (p,σ')→wpAny (model prog w) A (delItem (.ref a1) u) Q E s) (fun e=>no_some e) (fun _ e=>no_some e) (fun kk t e=>?_) (fun _ _ _ _ e=>no_some e) (fun _ _ _ _ _ _ _ e=>no_some e) (fun _ e=>no_some e) e
 refine on_dict (H:=σ.H) (i:=i) (f:=fun es ep=>if es.length≤1000∧(dget es kk).isSome=true then some ((),(⟨σ.H.set i (PObj.dict (ddel es kk) (ep+1)),σ.V⟩:PS)) else none) e fun es ep hH e=>?_
 refine if_to (P:=fun _ σ'=>∀ s',St w h0 ns env α U σ' s'.heap→Step (ownOf env) (frs A) α s.heap α s'.heap→Rest s s'→Q () s') e hQ fun hn hQ=>?_
 refine V1.dict_elim S.wf hH fun a kvs hii hd hkv=>?_
 refine del_dict (intKind_is prog w kk t) hd (line_at (KVs.length hkv) hn.1) (isSome_kv hkv hn.2) fun h' hd' hsb=>?_
 refine hd'.elim fun o1 z=>z.elim fun _ z=>?_
 have X:=St.upd C S hii (fun c o h1 _ ec=>(hsb.2 c h1).trans ec) ⟨_,z.1⟩ ⟨_,z.1⟩ (o':=.dict (ddel es kk) (ep+1))
  ⟨rfl,_,hd',KVs.del ⟨hkv.1,hkv.2.mono (one_step hii hsb z.1) fun _ q=>nomatch q⟩ kk⟩
 exact hQ _ X.1 X.2 ⟨rfl,rfl,rfl⟩
theorem SS_del {o i:Expr}{f g:PM PV}{tpos pos:Pos}(ho:SE k sc ns o f) (hi:SE k sc ns i g) (he:∀ env,deleteEach [.Subscript o i tpos] env=(do delete (.Subscript o i tpos) env;deleteEach [] env)):SS k sc ns (.Delete [.Subscript o i tpos] pos) (sDel f g):=by
 refine Jd.of fun {w h0 mg mb A env α U s σ p σ'} C S hf Q₀ hQ=>?_
 refine seq_elim hf fun a σ1 e1 hf=>?_
 refine seq_elim hf fun b σ2 e2 hf=>?_
 refine seq_elim hf fun u σ3 e3 hf=>?_
 have hQ:=some_to (P:=PostQ FlR ns w h0 A env α U s Q₀) hf hQ
 refine wpAny_Delete ?_
 skip
 refine wpAny_bind (wpAny_delete_Subscript (ho.run C S e1 fun v1 s1 α1 V1 S1 T1 R1=>hi.run C S1 e2 fun v2 s2 α2 V2 S2 T2 R2=>?_))
 exact del_ok C S2 (C.vmono V1 T2) V2 e3 fun s' S T R=>wpAny_deleteEach_nil (hQ _ s' α2 .next S ((T1.trans T2).trans T) ((R1.trans R2).trans R))
noncomputable def pOr (f g:PM PV):PM PV:=seq f fun a=>match a with
 | .bool true=>ret (.bool true)
 | .bool false=>g
 | _=>fail
@[elab_as_elim] theorem or_elim {g:PM PV}{q p:PV}{σ σ':PS}{P:PV→PV→PS→Prop}(hf:(match q with
  | .bool true=>ret (PV.bool true)
  | .bool false=>g
  | _=>(fail:PM PV)) σ=some (p,σ')) (k1:P (.bool true) (.bool true) σ) (k2:g σ=some (p,σ')→P (.bool false) p σ'):P q p σ':=by
 split at hf
 ·refine sp2e (c:=p) (d:=σ') hf ?_;exact k1
 ·exact k2 hf
 ·exact nn hf
theorem SE_or {a b:Expr}{f g:PM PV}{pos:Pos}(ha:SE k sc ns a f) (hb:SE k sc ns b g) (hlast:∀ env,eval (.BoolOp .Or [b] pos) env=eval b env):SE k sc ns (.BoolOp .Or [a,b] pos) (pOr f g):=by
 refine Jd.of fun {w h0 mg mb A env α U s σ p σ'} C S hf Q₀ hQ=>?_
 refine seq_elim hf fun q σ1 e1 hf=>?_
 refine BoolOp_or (ha.run C S e1 fun v s1 α1 V1 S1 T1 R1=>?_)
 clear e1
 revert V1 hQ
 refine or_elim hf (fun hQ V1=>VR.bool_elim V1 (wpAny_truthy_bool (hQ _ _ α1 (.bool _) S1 T1 R1))) fun hf hQ V1=>VR.bool_elim V1 (wpAny_truthy_bool ?_)
 refine(?_:wpAny _ _ (eval (.BoolOp .Or [b] pos) env) _ _ _)
 skip
 exact hb.run C S1 hf fun v2 s2 α2 V2 S2 T2 R2=>(hQ _ _ α2 V2 S2 (T1.trans T2) (R1.trans R2))
noncomputable def pNamed (gt:PV→PM Unit) (f:PM PV):PM PV:=seq f fun p=>seq (gt p) fun _=>ret p
theorem SE_named {t e:Expr}{gt:PV→PM Unit}{f:PM PV}{pos:Pos}(h:SE k sc ns e f) (ht:SAs k sc ns t gt):SE k sc ns (.NamedExpr t e pos) (pNamed gt f):=by
 refine Jd.of fun {w h0 mg mb A env α U s σ p σ'} C S hf Q₀ hQ=>?_
 refine seq_elim hf fun q σ1 e1 hf=>?_
 refine seq_elim hf fun u σ2 e2 hf=>?_
 revert hQ;refine sp2e (c:=p) (d:=σ') hf fun hQ=>?_
 exact wpAny_NamedExpr (h.run C S e1 fun v s1 α1 V1 S1 T1 R1=>ht.run C S1 V1 e2 fun s2 α2 S2 T2 R2=>(hQ _ _ α2 (C.vmono V1 T2) S2 (T1.trans T2) (R1.trans R2)))
noncomputable def sSet2 (g1 g2:PV→PM Unit) (f:PM PV):PM PFlow:=seq f fun p=>seq (g1 p) fun _=>seq (g2 p) fun _=>ret .next
theorem SS_assign2 {t1 t2 e:Expr}{g1 g2:PV→PM Unit}{f:PM PV}{pos:Pos}(h:SE k sc ns e f) (h1:SAs k sc ns t1 g1) (h2:SAs k sc ns t2 g2) (he:∀ env,(assignEach [t1,t2] env).map (·.2)=[assign t1 env,assign t2 env]) (hw:∀ env:Env,env.scope=sc→swappedStores [t1,t2] e env=pure none):SS k sc ns (.Assign [t1,t2] e pos) (sSet2 g1 g2 f):=by
 refine Jd.of fun {w h0 mg mb A env α U s σ p σ'} C S hf Q₀ hQ=>?_
 refine seq_elim hf fun q σ1 e1 hf=>?_
 refine seq_elim hf fun u σ2 e2 hf=>?_
 refine seq_elim hf fun u' σ3 e3 hf=>?_
 revert hQ;refine sp2e (c:=p) (d:=σ') hf fun hQ=>?_
 exact wpAny_Assign_two (h.run C S e1 fun v s1 α1 V1 S1 T1 R1=>h1.run C S1 V1 e2 fun s2 α2 S2 T2 R2=>h2.run C S2 (C.vmono V1 T2) e3 fun s3 α3 S3 T3 R3=>(hQ _ _ α3 .next S3 ((T1.trans T2).trans T3) ((R1.trans R2).trans R3))) (he env) (hw env C.e.scope)
theorem SAs_sub {o i:Expr}{fo fi:PM PV}{pos:Pos}(ho:SE k sc ns o fo) (hi:SE k sc ns i fi) (ha:∀ env v,assign (.Subscript o i pos) env v=(do let ov ← holding [v] (eval o env);let iv ← holding [v,ov] (eval i env);standAt pos;holding [v,ov,iv] (setItem ov iv v);release [v,ov,iv] [])):SAs k sc ns (.Subscript o i pos) (fun p=>seq fo fun a=>seq fi fun b=>pPut a b p):=by
 intro w h0 mg mb A env α U s σ v p σ' C S V hf
 refine seq_elim hf fun a σ1 e1 hf=>?_
 refine seq_elim hf fun b σ2 e2 hf=>?_
 refine mapp (p:=()) (σ:=σ') hf fun H' hq=>?_
 rw[ha env v]
 refine wpAny_bind (wpAny_holding (ho.run C S e1 fun v1 s1 α1 V1 S1 T1 R1=>wpAny_bind (wpAny_holding (hi.run C S1 e2 fun v2 s2 α2 V2 S2 T2 R2=>wpAny_bind (wpAny_standAt (wpAny_bind (wpAny_holding ?_)))))))
 exact setItem_ok C S2 (C.vmono V1 T2) V2 (C.vmono V (T1.trans T2)) hq fun h' tk S4 T4=>wpAny_release ⟨α2,trivial,S4,(T1.trans T2).trans T4,R1.trans R2⟩
noncomputable def mulL (a b:PV):PM PV:=fun σ=>match a,b with
 | .ref i,.int n=>(match σ.H[i]? with
  | some (.list [x])=>if 0≤n∧n≤1000 then some (.ref σ.H.length,⟨σ.H++[.list (List.replicate n.toNat x)],σ.V⟩) else none
  | _=>none)
 | _,_=>none
noncomputable def pMulLL (f g:PM PV):PM PV:=seq f fun a=>seq g fun b=>mulL a b
theorem foldl_rep (v:Value):∀(n:Nat) (acc:Array Value),List.foldl (fun x1 x2=>x1++x2) acc (List.replicate n #[v])=acc++(List.replicate n v).toArray
 | 0,acc=>by rfl
 | n+1,acc=>by
  rw[List.replicate_succ,List.foldl_cons,foldl_rep v n,List.replicate_succ]
  apply Array.toList_inj.mp
  simp
theorem VRs.rep {α U h}{v:Value}{p:PV}(V:VR α U h v p):∀ n,VRs α U h (List.replicate n v) (List.replicate n p)
 | 0=>.nil
 | n+1=>.cons V (VRs.rep V n)
theorem rep_eq (vx:Value) (n:Nat):(List.foldl (fun x1 x2=>x1++x2) #[] (List.replicate (if(List.toArray [vx]).isEmpty=true then 0 else n) (List.toArray [vx])))=(List.replicate n vx).toArray:=by
 rw[if_neg (by simp)]
 have:=foldl_rep vx n #[]
 simpa using this
theorem on_list1 {τ:Type}{H:List PObj}{i:Nat}{f:PV→Option τ}{r:τ}{G:Prop}(e:(match H[i]? with | some (.list [x])=>f x | _=>none)=some r) (k:∀ x,H[i]?=some (.list [x])→f x=some r→G):G:=by
 split at e
 ·exact k _ ‹_› e
 ·exact no_some e
set_option smartUnfolding false in
theorem mulL_ok {w:World}{h0:Heap}{mg mb:Str→Option Value}{A:Around}{env:Env}{α:List Ad}{U:List Addr}{s:Shared}{σ σ':PS}{v u:Value}{a b p:PV}{Q:Value→Shared→Prop}{E:Value→Shared→Prop}(C:Cx w h0 mg mb k A sc env U) (S:St w h0 ns env α U σ s.heap) (V1:VR α U s.heap v a) (V2:VR α U s.heap u b) (e:mulL a b σ=some (p,σ'))
  (hQ:PostQ VR ns w h0 A env α U s Q p σ'):wpAny (model prog w) A (binaryOp .Mult v u) Q E s:=by
 refine V1.any (P:=fun v a=>mulL a b σ=some (p,σ')→VR α U s.heap v a→wpAny (model prog w) A (binaryOp .Mult v u) Q E s) (fun e _=>no_some e) (fun _ e _=>no_some e) (fun _ _ e _=>no_some e) (fun a1 _ i _ e V1=>?_) (fun _ _ _ _ _ _ _ e _=>no_some e) (fun _ e _=>no_some e) e V1
 refine V2.any (P:=fun u b=>mulL (.ref i) b σ=some (p,σ')→wpAny (model prog w) A (binaryOp .Mult (.ref a1) u) Q E s) (fun e=>no_some e) (fun _ e=>no_some e) (fun n t e=>?_) (fun _ _ _ _ e=>no_some e) (fun _ _ _ _ _ _ _ e=>no_some e) (fun _ e=>no_some e) e
 refine on_list1 (H:=σ.H) (i:=i) (f:=fun x=>if 0≤n∧n≤1000 then some (PV.ref σ.H.length,(⟨σ.H++[PObj.list (List.replicate n.toNat x)],σ.V⟩:PS)) else none) e fun x hH e=>?_
 refine if_to (P:=PostQ VR ns w h0 A env α U s Q) e hQ fun hn hQ=>?_
 refine V1.list_elim S.wf hH fun b' vs nn hii hl' hvs=>?_
 refine vrs1_elim (P:=fun vs=>IsL s.heap b' (List.toArray vs) nn→wpAny (model prog w) A (binaryOp .Mult (.ref b') (.int n t)) Q E s) hvs (fun vx Vx hl'=>?_) hl'
 refine wpAny_binaryOp_repeat_ref (T:="list") (U:="int") (by decide) ⟨_,hl',rfl⟩ (fun s'=>typeIs_int s' n t) noFill_list_mul PySem.F.fills_int_mul PySem.F.slot_int_rmul repeat_list PySem.F.slot_int_index.lookup
       (call_meets PySem.F.slot_int_rmul (typeIs_int s n t) PySem.F.entry_int_rmul (PySem.F.args_int_rmul_2 _ _) (int___rmul___int_list n t b' _ nn)
        ⟨hl',rfl,⟨_,hl',rfl⟩,call_meets PySem.F.slot_list_mul ⟨_,hl',rfl⟩ PySem.F.entry_list_mul (PySem.F.args_list_mul_2 _ _)
         (AutoListH.list___mul___list_int_3 b' _ nn n t (by simp[Builtin.List.listFitsIndex];lia) (by have:(List.toArray [vx]).size=1:=rfl;rw[this];lia) (by have:(List.toArray [vx]).size=1:=rfl;simp[Builtin.List.listTooLong,sizeLine];exact Int.le_trans hn.2 (by decide))) ⟨hl',?_⟩⟩)
 rw[rep_eq]
 have Y:=new_list C.base S.wf (VRs.rep Vx n.toNat)
 have X:=St.ofWf C S Y.1 Y.2.1
 exact hQ _ _ _ Y.2.2 X.1 X.2 ⟨rfl,rfl,rfl⟩
theorem SE_mulL {l r:Expr}{f g:PM PV}{pos:Pos}(hl:SE k sc ns l f) (hr:SE k sc ns r g):SE k sc ns (.BinOp l .Mult r pos) (pMulLL f g):=by
 refine Jd.of fun {w h0 mg mb A env α U s σ p σ'} C S hf Q₀ hQ=>?_
 refine seq_elim hf fun a σ1 e1 hf=>?_
 refine seq_elim hf fun b σ2 e2 hf=>?_
 refine wpAny_BinOp (hl.run C S e1 fun v1 s1 α1 V1 S1 T1 R1=>hr.run C S1 e2 fun v2 s2 α2 V2 S2 T2 R2=>?_)
 exact mulL_ok C S2 (C.vmono V1 T2) V2 hf fun v s' α' V S T R=>hQ v s' α' V S ((T1.trans T2).trans T) ((R1.trans R2).trans R)
end
end Mine.Internal
namespace Mine.Internal
open PySem PySem.W PyProof.Rows PySem.Calls
section
variable {k:Nat}{sc:Scope}{ns:List Str}
noncomputable def zipT (ps qs:List PV):List PV:=List.zipWith (fun a b=>PV.tup [a,b]) ps qs
theorem zipT_get {ps qs:List PV}{i:Nat}{p:PV}(h:(zipT ps qs)[i]?=some p):∃ a b,ps[i]?=some a∧qs[i]?=some b∧p=.tup [a,b]:=by
 unfold zipT at h
 rw[List.getElem?_zipWith] at h
 cases h1:ps[i]?<;>cases h2:qs[i]?<;>rw[h1,h2] at h<;>simp at h
 exact⟨_,_,rfl,rfl,h.symm⟩
theorem zip_apart {w:World}{h0:Heap}{α:List Ad}{U:List Addr}{H:List PObj}{h:Heap}{z TI TO i1 i2 a1 b1 a2 b2:Addr}{l1 l2:Nat}(W:Wf w h0 α U H h) (hU:∀ b∈[z,TI,TO,i1,i2],b∈U) (hal1:α[l1]?=some (a1,b1)) (hal2:α[l2]?=some (a2,b2))
  (d1:TI≠z) (d2:TO≠z) (d3:i1≠z) (d4:i2≠z) (d5:TI≠TO) (d6:TI≠i1) (d7:TI≠i2) (d8:TO≠i1) (d9:TO≠i2) (d10:i1≠i2):ZipApart z TI TO i1 i2 a1 a2:=by
 have a1':∀ c∈[z,TI,TO,i1,i2],a1≠c:=fun c hcc=>((W.lock c (hU c hcc)).1 _ (List.mem_of_getElem? hal1)).1
 have a2':∀ c∈[z,TI,TO,i1,i2],a2≠c:=fun c hcc=>((W.lock c (hU c hcc)).1 _ (List.mem_of_getElem? hal2)).1
 exact⟨d1,d2,d3,d4,d5,d6,d7,d8,d9,d10,a1' z m0,a1' TO m2,a1' i1 m3,a1' i2 m4,a2' z m0,a2' TO m2,a2' i1 m3,a2' i2 m4⟩
theorem iter_zip {w:World}{h0:Heap}{A:Around}{α0:List Ad}{h1:Heap}{fr U:List Addr}{es:List Expr}{kk:Nat}{px:Pos}{z TI TO i1 i2 a1 b1 a2 b2:Addr}{l1 l2:Nat}{ps qs:List PV}(hh:A.handled=none) (hU:∀ b∈[z,TI,TO,i1,i2],b∈U) (hal1:α0[l1]?=some (a1,b1)) (hal2:α0[l2]?=some (a2,b2))
  (d1:TI≠z) (d2:TO≠z) (d3:i1≠z) (d4:i2≠z) (d5:TI≠TO) (d6:TI≠i1) (d7:TI≠i2) (d8:TO≠i1) (d9:TO≠i2) (d10:i1≠i2):
  Iter w h0 A α0 h1 fr U (.Tuple es kk px) z [z,TI,TO,i1,i2] (.still (zipT ps qs) fun H=>H[l1]?=some (.list ps)∧H[l2]?=some (.list qs))
   (fun i h=>IsZip h z TI TO .none∧IsPair h TI (.ref i1) (.ref i2)∧(∃ a b,IsPair h TO a b)∧h.IsListIter i1 a1 i∧h.IsListIter i2 a2 i) where
 lockd:=hU
 frame:=fun i h h' ⟨hz,hTI,⟨a,b,hTO⟩,⟨o1,g1,r1⟩,⟨o2,g2,r2⟩⟩ hk=>⟨hk z m0 _ hz,hk TI m1 _ hTI,⟨a,b,hk TO m2 _ hTO⟩,⟨o1,hk i1 m3 _ g1,r1⟩,⟨o2,hk i2 m4 _ g2,r2⟩⟩
 self:=fun α H s Q E hα hc W hi hQ=>wpAny_pyIter_zip hi.1 hQ
 next:=fun i p α H s hα hx hc W hi=>hide fun G hG=>by
  obtain⟨hz,hTI,⟨a,b,hTO⟩,hi1,hi2⟩:=hi
  obtain⟨_,vs,n,hl,hvs⟩:=list_at W hc.1 (hα.index hal1)
  obtain⟨_,ws,m,hm,hws⟩:=list_at W hc.2 (hα.index hal2)
  obtain⟨pa,pb,g1,g2,hp⟩:=zipT_get hx
  obtain⟨va,e1,Va⟩:=hvs.get g1
  obtain⟨vb,e2,Vb⟩:=hws.get g2
  refine hG (wpAny_pyNext_zip_item (zip_apart W hU (hα.index hal1) (hα.index hal2) d1 d2 d3 d4 d5 d6 d7 d8 d9 d10) hz hTI hTO hi1 hi2 (IsL.isList hl) (IsL.isList hm) (by simpa using e1) (by simpa using e2) fun h' z1 z2 z3 z4 z5 z6 hk=>⟨_,rfl,wpAny_letOwnedTupleGo_zip z1 fun h2 y1 hs2=>?_⟩)
  have fr1:=fresh_away W (get_size_none s.heap)
  have ltz:s.heap.objs.size≠z:=fun q=>by have:=Heap.lt_size hz;rw[← q] at this;exact Nat.lt_irrefl _ this
  have gTI:IsPair h2 TI (.ref i1) (.ref i2):=hs2.extBut _ _ d1 (hk _ _ d1 d5 d6 d7 hTI)
  have gTO:IsPair h2 TO va vb:=hs2.extBut _ _ d2 z2
  have gi1:h2.IsListIter i1 a1 (i+1):=z3.extBut hs2.extBut d3
  have gi2:h2.IsListIter i2 a2 (i+1):=z4.extBut hs2.extBut d4
  have X:=still_next (wr:=[z,TI,TO,i1,i2]) (h':=h2) W hU (fun c o hc e=>by
   have hc:=out5 hc
   exact hs2.extBut c o hc.1 (hk c o hc.1 hc.2.2.1 hc.2.2.2.1 hc.2.2.2.2 e)) (allc ⟨_,y1⟩ (allc ⟨_,gTI⟩ (allc ⟨_,gTO⟩ (allc (gi1.elim fun o ho=>⟨o,ho.1⟩) (allc (gi2.elim fun o ho=>⟨o,ho.1⟩) alln)))))
  exact⟨by rw[hp];exact .tup ⟨_,hs2.extBut _ _ ltz z5,rfl,0,rfl⟩ fr1.2 fr1.1 (.cons (Va.mono X.2 hU) (.cons (Vb.mono X.2 hU) .nil)),⟨y1,gTI,⟨_,_,gTO⟩,gi1,gi2⟩,X.1,X.2,rfl,rfl,rfl⟩
 done:=fun α H s U0 hα hc W hi hU0=>hide fun G hG=>by
  obtain⟨hz,hTI,⟨a,b,hTO⟩,hi1,hi2⟩:=hi
  obtain⟨_,vs,n,hl,hvs⟩:=list_at W hc.1 (hα.index hal1)
  obtain⟨_,ws,m,hm,hws⟩:=list_at W hc.2 (hα.index hal2)
  have hl1:=hvs.length
  have hl2:=hws.length
  refine hG (wpAny_pyNext_zip_end hh (zip_apart W hU (hα.index hal1) (hα.index hal2) d1 d2 d3 d4 d5 d6 d7 d8 d9 d10) hz hTI hTO hi1 hi2 (IsL.isList hl) (IsL.isList hm) ?_ fun h' hk=>?_)
  ·simp only[It.still,zipT,List.length_zipWith]
   rcases Nat.le_total ps.length qs.length with q | q
   ·left;rw[Nat.min_eq_left q];simp[hl1]
   ·right;rw[Nat.min_eq_right q];simp[hl2]
  ·have X:=still_done (wr:=[z,TI,TO,i1,i2]) (h':=h') W hU hU0 fun c o hc e=>by
    have hc:=out5 hc
    exact hk c o hc.1 hc.2.2.1 hc.2.2.2.1 hc.2.2.2.2 e
   exact⟨rfl,X.1,X.2.1,X.2.2,rfl,rfl,rfl⟩
noncomputable def zipIt (p q:PV):PM It:=fun σ=>match p,q with
 | .ref l1,.ref l2=>(match σ.H[l1]?,σ.H[l2]? with
  | some (.list ps),some (.list qs)=>some (.still (zipT ps qs) fun H=>H[l1]?=some (.list ps)∧H[l2]?=some (.list qs),σ)
  | _,_=>none)
 | _,_=>none
theorem zipIt_elim {p q:PV}{σ σ':PS}{it:It}{P:PV→PV→It→PS→Prop}(h:zipIt p q σ=some (it,σ')) (k:∀ l1 l2 ps qs,σ.H[l1]?=some (.list ps)→σ.H[l2]?=some (.list qs)→P (.ref l1) (.ref l2) (.still (zipT ps qs) fun H=>H[l1]?=some (.list ps)∧H[l2]?=some (.list qs)) σ):P p q it σ':=by
 unfold zipIt at h
 split at h
 ·split at h
  ·refine sp2e h ?_;exact k _ _ _ _ ‹_› ‹_›
  ·exact nn h
 ·exact nn h
noncomputable def pZipIt (f g:PM PV):PM It:=seq f fun p=>seq g fun q=>zipIt p q
theorem zip_post {w:World}{h0:Heap}{mg mb:Str→Option Value}{A:Around}{env:Env}{α α2:List Ad}{U:List Addr}{s s2:Shared}{σ:PS}{es:List Expr}{kk:Nat}{tp:Pos}{a1 a2:Addr}{l1 l2:Nat}{ps qs:List PV}{h':Heap}(C:Cx w h0 mg mb (k+1) A sc env U) (S2:St w h0 ns env α2 U σ s2.heap) (T:Step (ownOf env) (frs A) α s.heap α2 s2.heap) (R:Rest s s2)
  (hi1:α2[l1]?=some (a1,a1)) (hi2:α2[l2]?=some (a2,a2)) (z1:IsZip h' (s2.heap.objs.size+4) (s2.heap.objs.size+2) (s2.heap.objs.size+3) .none) (z2:IsPair h' (s2.heap.objs.size+2) (.ref s2.heap.objs.size) (.ref (s2.heap.objs.size+1))) (z3:IsPair h' (s2.heap.objs.size+3) .none .none)
  (z4:h'.IsListIter s2.heap.objs.size a1 0) (z5:h'.IsListIter (s2.heap.objs.size+1) a2 0) (hk:∀ c o,s2.heap.get? c=some o→h'.get? c=some o):
  ItPost w h0 ns A env α U s (.Tuple es kk tp) (.still (zipT ps qs) fun H=>H[l1]?=some (.list ps)∧H[l2]?=some (.list qs)) σ (.ref (s2.heap.objs.size+4)) {s2 with heap:=h'}:=by
 have ne:∀ j,s2.heap.get? (s2.heap.objs.size+j)=none:=fun j=>Heap.get?_none_of_le (Nat.le_add_right _ _)
 have nz:∀ i j:Nat,i≠j→s2.heap.objs.size+i≠s2.heap.objs.size+j:=fun i j h q=>h (Nat.add_left_cancel q)
 refine iter_new (s1:=s2) (wr:=[s2.heap.objs.size+4,s2.heap.objs.size+2,s2.heap.objs.size+3,s2.heap.objs.size,s2.heap.objs.size+1])
  (T:=fun i h=>IsZip h (s2.heap.objs.size+4) (s2.heap.objs.size+2) (s2.heap.objs.size+3) .none∧IsPair h (s2.heap.objs.size+2) (.ref s2.heap.objs.size) (.ref (s2.heap.objs.size+1))∧(∃ a b,IsPair h (s2.heap.objs.size+3) a b)∧h.IsListIter s2.heap.objs.size a1 i∧h.IsListIter (s2.heap.objs.size+1) a2 i)
  C S2 T R hk ⟨rfl,rfl,rfl⟩ (fun b hb=>?_) (fun b hb=>?_) ⟨z1,z2,⟨_,_,z3⟩,z4,z5⟩ fun U' h1 h2 h3 h4=>?_
 ·exact allc (P:=fun c=>s2.heap.get? c=none) (ne 4) (allc (ne 2) (allc (ne 3) (allc (ne 0) (allc (ne 1) alln)))) _ hb
 ·exact allc (P:=fun c=>∃ o,h'.get? c=some o) ⟨_,z1⟩ (allc ⟨_,z2⟩ (allc ⟨_,z3⟩ (allc (z4.elim fun o ho=>⟨o,ho.1⟩) (allc (z5.elim fun o ho=>⟨o,ho.1⟩) alln)))) _ hb
 ·exact iter_zip (C.a.handled (Nat.succ_pos _)) (fun b hb=>h1 b (List.mem_append_left _ hb)) hi1 hi2 (nz 2 4 (by decide)) (nz 3 4 (by decide)) (nz 0 4 (by decide)) (nz 1 4 (by decide)) (nz 2 3 (by decide)) (nz 2 0 (by decide)) (nz 2 1 (by decide)) (nz 3 0 (by decide)) (nz 3 1 (by decide)) (nz 0 1 (by decide))
theorem SIt_zip {es:List Expr}{kk:Nat}{tp:Pos}{e1 e2:Expr}{x:Str}{px cpos:Pos}{f g:PM PV}(hz:SE (k+1) sc ns (.Name x px) (pConst (.const (.type "zip")))) (h1:SE (k+1) sc ns e1 f) (h2:SE (k+1) sc ns e2 g)
  (hg:SArgs (k+1) sc ns cpos [e1,e2] (aCons f (aCons g aNil))) (hp:∀ env,(starEach [e1,e2] env).any (·.1)=false) (hst:∀ env,starEach [e1,e2] env=(false,eval e1 env)::starEach [e2] env):
  SIter (k+1) sc ns (.Call (.Name x px) [e1,e2] [] cpos) (.Tuple es kk tp) (pZipIt f g):=by
 refine SIter.of fun {w h0 mg mb A env α U s σ it σ'} C S hf0 Q₀ hQ=>seq_elim hf0 fun p σ1 q1 hf1=>seq_elim hf1 fun q σ2 q2 hf=>?_
 refine zipIt_elim (P:=fun p q it σ'=>f σ=some (p,σ1)→g σ1=some (q,σ2)→(∀ r s2,ItPost w h0 ns A env α U s (.Tuple es kk tp) it σ' r s2→Q₀ r s2)→wpAny (model prog w) A (eval (.Call (.Name x px) [e1,e2] [] cpos) env) (fun v s1=>wpAny (model prog w) A (pyIter v) Q₀ bot s1) bot s) hf (fun l1 l2 ps qs hH1 hH2 q1 q2 hQ=>?_) q1 q2 hQ
 refine wpAny_Call_NameR (hz.run C S rfl fun v s1 α1 V1 S1 T1 R1=>VR.const_elim V1 ?_)
 refine PyProof.Rows.callWith_type (starPlain (hp env)) (((SAr_cons hg hst) (.type "zip")).run C S1 (σ':=σ2) (p:=[.ref l1,.ref l2]) (by unfold aCons aNil seq ret;rw[q1];simp only;rw[q2]) fun a s2 α2 V2 S2 T2 R2=>?_)
 obtain⟨pos',kw⟩:=a
 obtain⟨hkw,V2⟩:=V2
 cases(show kw=[] from hkw)
 refine vrs2_elim V2 fun u v Vu Vv=>?_
 refine(?_:wpAny _ _ (call (.type "zip") [u,v] []) _ _ _)
 refine VR.list_elim Vu S2.wf hH1 fun a1 vs n hi1 hl hvs=>VR.list_elim Vv S2.wf hH2 fun a2 ws m hi2 hm hws=>?_
 exact call_zip_2 (IsL.isList hl) (IsL.isList hm) fun h' z1 z2 z3 z4 z5 z6 hk=>wpAny_pyIter_zip z1 (hQ _ _ (zip_post C S2 (T1.trans T2) (R1.trans R2) hi1 hi2 z1 z2 z3 z4 z5 hk))
end
end Mine.Internal
namespace Mine.Internal
open PySem PySem.W PyProof.Rows PySem.Calls
section
variable {k:Nat}{sc:Scope}{ns:List Str}
noncomputable def enumT:Nat→List PV→List PV
 | _,[]=>[]
 | i,p::ps=>.tup [.int (i:Int),p]::enumT (i+1) ps
theorem enumT_get:∀ {ps:List PV}{j i:Nat}{p:PV},(enumT j ps)[i]?=some p→∃ a,ps[i]?=some a∧p=.tup [.int ((j+i:Nat):Int),a]
 | [],_,_,_,h=>by simp[enumT] at h
 | q::ps,j,0,p,h=>by simp[enumT] at h;exact⟨q,rfl,by rw[← h];simp⟩
 | q::ps,j,i+1,p,h=>by
  have h:(enumT (j+1) ps)[i]?=some p:=by simpa[enumT] using h
  obtain⟨a,h1,h2⟩:=enumT_get h
  exact⟨a,by simpa using h1,by rw[h2];congr 4;lia⟩
theorem enumT_len:∀(ps:List PV) (j:Nat),(enumT j ps).length=ps.length
 | [],_=>rfl
 | _::ps,j=>by simp[enumT,enumT_len ps]
theorem iter_enum {w:World}{h0:Heap}{A:Around}{α0:List Ad}{h1:Heap}{fr U:List Addr}{es:List Expr}{kk:Nat}{px:Pos}{e it a1 b1:Addr}{l1:Nat}{ps:List PV}(hh:A.handled=none) (hU:∀ b∈[e,it],b∈U) (hal1:α0[l1]?=some (a1,b1)) (hne:e≠it):
  Iter w h0 A α0 h1 fr U (.Tuple es kk px) e [e,it] (.still (enumT 0 ps) fun H=>H[l1]?=some (.list ps)) (fun i h=>(∃ old,IsEnum h e it (i:Int) old)∧h.IsListIter it a1 i) where
 lockd:=hU
 frame:=fun i h h' ⟨⟨old,hz⟩,⟨o1,g1,r1⟩⟩ hk=>⟨⟨old,hk e (by simp) _ hz⟩,⟨o1,hk it (by simp) _ g1,r1⟩⟩
 self:=fun α H s Q E hα hc W hi hQ=>by obtain⟨⟨old,hz⟩,_⟩:=hi;exact wpAny_pyIter_enum hz hQ
 next:=fun i p α H s hα hx hc W hi=>hide fun G hG=>by
  obtain⟨⟨old,hz⟩,hi1⟩:=hi
  obtain⟨_,vs,n,hl,hvs⟩:=list_at W hc (hα.index hal1)
  obtain⟨pa,g1,hp⟩:=enumT_get hx
  obtain⟨va,e1,Va⟩:=hvs.get g1
  refine hG (wpAny_pyNext_enum_item hz hi1 (IsL.isList hl) (by simpa using e1) hne fun h' z1 z2 z3 z4 hk=>⟨_,rfl,wpAny_letOwnedTupleGo_enum z1 fun h2 y1 hs2=>?_⟩)
  have fr1:=fresh_away W (get_size_none s.heap)
  have ltz:s.heap.objs.size≠e:=fun q=>by have:=Heap.lt_size hz;rw[← q] at this;exact Nat.lt_irrefl _ this
  have gi1:h2.IsListIter it a1 (i+1):=z2.extBut hs2.extBut (Ne.symm hne)
  have X:=still_next (wr:=[e,it]) (h':=h2) W hU (fun c o hc ee=>by
   have hc:=out2 hc
   exact hs2.extBut c o hc.1 (hk c o hc.1 hc.2 ee)) (allc ⟨_,y1⟩ (allc (gi1.elim fun o ho=>⟨o,ho.1⟩) alln))
  exact⟨by rw[hp,Nat.zero_add];exact .tup ⟨_,hs2.extBut _ _ ltz z3,rfl,0,rfl⟩ fr1.2 fr1.1 (.cons (.int ..) (.cons (Va.mono X.2 hU) .nil)),⟨⟨_,by simpa using y1⟩,gi1⟩,X.1,X.2,rfl,rfl,rfl⟩
 done:=fun α H s U0 hα hc W hi hU0=>hide fun G hG=>by
  obtain⟨⟨old,hz⟩,hi1⟩:=hi
  obtain⟨_,vs,n,hl,hvs⟩:=list_at W hc (hα.index hal1)
  have hl1:=hvs.length
  refine hG (wpAny_pyNext_enum_end hh hz hi1 (IsL.isList hl) (by simp[It.still,enumT_len,hl1]) fun h' hk=>?_)
  have X:=still_done (wr:=[e,it]) (h':=h') W hU hU0 fun c o hc ee=>by
   have hc:=out2 hc
   exact hk c o hc.2 ee
  exact⟨rfl,X.1,X.2.1,X.2.2,rfl,rfl,rfl⟩
noncomputable def enumIt (p:PV):PM It:=fun σ=>match p with
 | .ref l1=>(match σ.H[l1]? with
  | some (.list ps)=>some (.still (enumT 0 ps) fun H=>H[l1]?=some (.list ps),σ)
  | _=>none)
 | _=>none
noncomputable def pEnumIt (f:PM PV):PM It:=seq f enumIt
theorem enumIt_elim {p:PV}{σ σ':PS}{it:It}{P:PV→It→PS→Prop}(h:enumIt p σ=some (it,σ')) (k:∀ l ps,σ.H[l]?=some (.list ps)→P (.ref l) (.still (enumT 0 ps) fun H=>H[l]?=some (.list ps)) σ):P p it σ':=by
 unfold enumIt at h
 split at h
 ·split at h
  ·refine sp2e h ?_;exact k _ _ ‹_›
  ·exact nn h
 ·exact nn h
theorem SIt_enum {es:List Expr}{kk:Nat}{tp:Pos}{e1:Expr}{x:Str}{px cpos:Pos}{f:PM PV}(hz:SE (k+1) sc ns (.Name x px) (pConst (.const (.type "enumerate")))) (h1:SE (k+1) sc ns e1 f) (hst:∀ env,starEach [e1] env=(false,eval e1 env)::starEach [] env):
  SIter (k+1) sc ns (.Call (.Name x px) [e1] [] cpos) (.Tuple es kk tp) (pEnumIt f):=by
 refine SIter.of fun {w h0 mg mb A env α U s σ it σ'} C S hf0 Q₀ hQ=>seq_elim hf0 fun p σ1 q1 hf=>?_
 refine wpAny_Call_NameR (hz.run C S rfl fun v s1 α1 V1 S1 T1 R1=>VR.const_elim V1 ?_)
 refine callWith_type1 ?_ (hst env)
 refine(?_:wpAny _ _ (spliced (backTo cpos (starEach [e1] env))) _ _ _)
 rw[hst env]
 refine spliced_cons (h1.run C S1 q1 fun v s2 α2 V2 S2 T2 R2=>spliced_nil ?_)
 refine enumIt_elim (P:=fun p it σ'=>VR α2 U s2.heap v p→(∀ r s2,ItPost w h0 ns A env α U s (.Tuple es kk tp) it σ' r s2→Q₀ r s2)→wpAny (model prog w) A (call (.type "enumerate") [v] []) (fun v s1=>wpAny (model prog w) A (pyIter v) Q₀ bot s1) bot s2) hf (fun l1 ps hH1 V2 hQ=>?_) V2 hQ
 refine VR.list_elim V2 S2.wf hH1 fun b1 vs n hi1 hl hvs=>call_enumerate_list (IsL.isList hl) fun h' z1 z2 z3 hk=>wpAny_pyIter_enum z1 (hQ _ _ ?_)
 refine iter_new (wr:=[s2.heap.objs.size+1,s2.heap.objs.size]) (T:=fun i h=>(∃ old,IsEnum h (s2.heap.objs.size+1) s2.heap.objs.size (i:Int) old)∧h.IsListIter s2.heap.objs.size b1 i)
  C S2 (T1.trans T2) (R1.trans R2) hk ⟨rfl,rfl,rfl⟩ (fun b hb=>?_) (fun b hb=>?_) ⟨⟨_,z1⟩,z2⟩ fun U' h1 h2 h3 h4=>iter_enum (C.a.handled (Nat.succ_pos _)) (fun b hb=>h1 b (List.mem_append_left _ hb)) hi1 (Nat.ne_of_gt (Nat.lt_succ_self _))
 ·exact(allc (P:=fun c=>s2.heap.get? c=none) (Heap.get?_none_of_le (Nat.le_succ _)) (allc (Heap.get?_none_of_le (Nat.le_refl _)) alln)) _ hb
 ·exact(allc (P:=fun c=>∃ o,h'.get? c=some o) ⟨_,z1⟩ (allc (z2.elim fun o ho=>⟨o,ho.1⟩) alln)) _ hb
theorem iter_vals {w:World}{h0:Heap}{A:Around}{α0:List Ad}{h1:Heap}{fr U:List Addr}{target:Expr}{I a b:Addr}{l:Nat}{es:List (Int × PV)}{ep:Nat}(hh:A.handled=none) (hI:I∈U) (hal:α0[l]?=some (a,b)) (ht:GoOK target):
  Iter w h0 A α0 h1 fr U target I [I] (.still (es.map (·.2)) fun H=>H[l]?=some (.dict es ep)) (fun i h=>h.IsValIter I a i es.length ep) where
 lockd:=fun b hb=>by have hb:=List.mem_singleton.mp hb;rw[hb];exact hI
 frame:=fun i h h' hi hk=>let⟨o,ho,r⟩:=hi;⟨o,hk I (.head _) o ho,r⟩
 self:=fun α H s Q E hα hc W hi hQ=>wpAny_pyIter_valiter hi hQ
 next:=fun i p α H s hα hx hc W hi=>hide fun G hG=>by
  obtain⟨_,kvs,hd,hkv⟩:=W.or_at (hα.index hal) hc
  have hlen:=KVs.length hkv
  obtain⟨v,e1,V⟩:=hkv.2.get hx
  rw[List.getElem?_map] at e1
  obtain⟨kv,hkv1,hv⟩:=Option.map_eq_some_iff.mp e1
  refine hG (wpAny_pyNext_values_item (k:=kv.1) (v:=kv.2) (by rw[hlen];exact hi) hd hkv1 fun h' hi' hs'=>⟨kv.2,rfl,ht _ _ _ _ _ _ _ "dict_valueiterator" (Heap.IsValIter.typeIs (s:={s with heap:=h'}) hi') (by decide) ?_⟩)
  have X:=still_next (wr:=[I]) (h':=h') W (fun b hb=>by have hb:=List.mem_singleton.mp hb;rw[hb];exact hI) (fun b o hb e=>hs'.extBut b o (fun q=>hb (by simp[q])) e) fun b hb=>by have hb:=List.mem_singleton.mp hb;rw[hb];exact hi'.elim fun o ho=>⟨o,ho.1⟩
  exact⟨hv▸V.mono X.2 (fun b hb=>by have hb:=List.mem_singleton.mp hb;rw[hb];exact hI),by rw[hlen] at hi';exact hi',X.1,X.2,rfl,rfl,rfl⟩
 done:=fun α H s U0 hα hc W hi hU0=>hide fun G hG=>by
  obtain⟨_,kvs,hd,hkv⟩:=W.or_at (hα.index hal) hc
  have hlen:=KVs.length hkv
  have hi2:s.heap.IsValIter I a es.length es.length ep:=by simpa[It.still] using hi
  refine hG (wpAny_pyNext_values_end hh (by rw[hlen];exact hi2) hd (by simp[hlen]) fun h' he=>?_)
  have X:=still_done (wr:=[I]) (h':=h') W (fun b hb=>by have hb:=List.mem_singleton.mp hb;rw[hb];exact hI) hU0 fun b o hb e=>he b o (fun q=>hb (by simp[q])) e
  exact⟨rfl,X.1,X.2.1,X.2.2,rfl,rfl,rfl⟩
noncomputable def valsIt (p:PV):PM It:=fun σ=>match p with
 | .ref l=>(match σ.H[l]? with
  | some (.dict es ep)=>some (.still (es.map (·.2)) fun H=>H[l]?=some (.dict es ep),σ)
  | _=>none)
 | _=>none
noncomputable def pValsIt (f:PM PV):PM It:=seq f valsIt
theorem valsIt_elim {p:PV}{σ σ':PS}{it:It}{P:PV→It→PS→Prop}(h:valsIt p σ=some (it,σ')) (k:∀ l es ep,σ.H[l]?=some (.dict es ep)→P (.ref l) (.still (es.map (·.2)) fun H=>H[l]?=some (.dict es ep)) σ):P p it σ':=by
 unfold valsIt at h
 split at h
 ·split at h
  ·refine sp2e h ?_;exact k _ _ _ ‹_›
  ·exact nn h
 ·exact nn h
theorem SIt_vals {target o:Expr}{apos pos:Pos}{f:PM PV}(h:SE (k+1) sc ns o f) (hg:GoOK target) (hbase:∀ env,attributeBase o "values" env (eval o env)=eval o env) (hline:(apos.endLine==pos.line)=true):
  SIter (k+1) sc ns (.Call (.Attribute o "values" apos) [] [] pos) target (pValsIt f):=by
 refine SIter.of fun {w h0 mg mb A env α U s σ it σ'} C S hf0 Q₀ hQ=>seq_elim hf0 fun p σ1 q1 hf=>?_
 refine valsIt_elim (P:=fun p it σ'=>f σ=some (p,σ1)→(∀ r s2,ItPost w h0 ns A env α U s target it σ' r s2→Q₀ r s2)→wpAny (model prog w) A (eval (.Call (.Attribute o "values" apos) [] [] pos) env) (fun v s1=>wpAny (model prog w) A (pyIter v) Q₀ bot s1) bot s) hf (fun l es ep hH q1 hQ=>?_) q1 hQ
 refine wpAny_Call_method (T:="dict") (hbase env) rfl hline PySem.F.plainAttrs_dict PySem.F.slot_dict_values PySem.F.type_dict_values (h.run C S q1 fun v s1 α1 V1 S1 T1 R1=>?_)
 refine VR.dict_elim V1 S1.wf hH fun a kvs hi hd hkv=>⟨hd.dictOf.typeIs,fun a e=>by cases e;exact hd.dictOf.mapOf.noDict _ rfl,callWith_builtin rfl (PySem.evalArgs_none ?_)⟩
 have hlen:=KVs.length hkv
 refine(?_:wpAny _ _ (call (.builtin "dict.values") [.ref a] []) _ _ _)
 refine call_meetsIn PySem.F.slot_dict_values hd.dictOf.typeIs PySem.F.entry_dict_values (PySem.F.args_dict_values_1 _) (meets_dict_values (intKind prog w) a (not_mods S1.wf hi)) ⟨⟨kvs,hd.dictOf⟩,?_⟩
 have hk1:∀ b o,s1.heap.get? b=some o→(s1.heap.push {cls:=.type "dict_values",data:=.fields #[.ref a]}).get? b=some o:=fun b o q=>Heap.get?_push_of_some _ q
 refine wpAny_pyIter_values (s:={s1 with heap:=s1.heap.push {cls:=.type "dict_values",data:=.fields #[.ref a]}}) ⟨_,Heap.get?_push_size _ rfl,rfl,rfl⟩ (hd.keep hk1) (hQ _ _ ?_)
 have hp:=Heap.get?_push_size (s1.heap.push {cls:=.type "dict_values",data:=.fields #[.ref a]}) (o:={cls:=.type "dict_valueiterator",data:=.fields #[.ref a,.int 0 0,.int kvs.length 0,.int ep 0]}) rfl
 have szp:(s1.heap.push {cls:=.type "dict_values",data:=.fields #[.ref a]}).objs.size=s1.heap.objs.size+1:=Heap.size_push ..
 rw[szp] at hp
 refine(?_:ItPost w h0 ns A env α U s target _ _ (.ref (s1.heap.push {cls:=.type "dict_values",data:=.fields #[.ref a]}).objs.size) _)
 rw[szp]
 exact iter_new (wr:=[s1.heap.objs.size+1]) (T:=fun i h=>h.IsValIter (s1.heap.objs.size+1) a i es.length ep) C S1 T1 R1 (fun b o q=>Heap.get?_push_of_some _ (hk1 b o q)) ⟨rfl,rfl,rfl⟩ (fun b hb=>by simp at hb;subst hb;exact Heap.get?_none_of_le (Nat.le_succ _)) (fun b hb=>by simp at hb;subst hb;exact⟨_,hp⟩) ⟨_,hp,rfl,by rw[hlen];rfl⟩
  fun U' h1 h2 h3 h4=>iter_vals (C.a.handled (Nat.succ_pos _)) (h1 _ (by exact .head _)) hi hg
end
end Mine.Internal
namespace Mine.Internal
open PySem PySem.W PyProof.Rows PySem.Calls Builtin Builtin.ObjectAttr
theorem sp_get {K:Frag}:specialIn K (.builtin "list_iterator.__next__") "__get__"=some (some (.builtin "wrapper_descriptor.__get__")):=by kernel_rfl
theorem tk_get {K:Frag}:takesIn K (.builtin "list_iterator.__next__")=some false:=by kernel_rfl
theorem li_ga:typeLookup (.type "list_iterator") "__getattribute__"=pure (some (.builtin "object.__getattribute__")):=by skip;kernel_rfl
theorem li_gh:typeLookup (.type "list_iterator") "__getattr__"=pure none:=by skip;kernel_rfl
theorem next_find {w:World}{h:Heap}{it:Addr}{sl:Array (Option Value)}{vs:Array Value}(ho:h.get? it=some {cls:=.type "list_iterator",dict:=none,data:=.fields vs,slots:=sl}) (X:(hd.heap_39 w.params).In h):
  Looks (model prog w) h (find (.ref it) (.type "list_iterator") "__next__") (.bind (.builtin "wrapper_descriptor.__get__") (.builtin "list_iterator.__next__")):=by
 intro A Q E s k q
 have ho':=k _ _ ho
 have X':(hd.heap_39 w.params).In s.heap:=X.keeps k
 obtain⟨hh,g,d,tk,os⟩:=s
 dsimp only at ho' X'
 have f1:Looks (model prog w) hh (typeLookup (.type "list_iterator") "__next__") (some (.builtin "list_iterator.__next__")):=Looks.of_pure slot_listiter_next.lookup
 have f2:Looks (model prog w) hh (getOf (some (.builtin "list_iterator.__next__"))) (some (.builtin "wrapper_descriptor.__get__")):=looks_specialIn X' sp_get
 have f3:Looks (model prog w) hh (takesStores (.builtin "list_iterator.__next__")) false:=looks_takesIn X' tk_get
 unfold find
 repeat lk
 exact q
theorem slot_wd:PySem.Slot "wrapper_descriptor" "__get__" "wrapper_descriptor.__get__":=
 .of (owner:="wrapper_descriptor") (n:="__get__") (by skip;kernel_rfl) (by decide+kernel) (by decide+kernel) (by decide+kernel)
  (by first | exact .inl (by decide+kernel) | exact .inr (by decide+kernel)) (by skip;kernel_rfl)
theorem entry_wd:entryFor table "wrapper_descriptor.__get__"=some Builtin.«wrapper_descriptor.__get__»:=entryFor_of_tree (by kernel_rfl)
theorem args_wd (a b c:Value):argsOk "wrapper_descriptor.__get__" ⟨[a,b,c],[]⟩:=by skip;kernel_rfl
theorem sub_li:isSubtype (.type "list_iterator") (.type "list_iterator")=pure true:=by skip;kernel_rfl
noncomputable abbrev wrapObj (it:Addr):Obj:={cls:=.type "method-wrapper",data:=.fields #[.builtin "list_iterator.__next__",.ref it]}
theorem next_bound {w:World}{A:Around}{s:Shared}{it:Addr}{sl:Array (Option Value)}{vs:Array Value}{tp:Value}{R:Result→Shared→Prop}(ho:s.heap.get? it=some {cls:=.type "list_iterator",dict:=none,data:=.fields vs,slots:=sl})
  (h:R (.ok (.ret (.ref s.heap.objs.size))) {s with heap:=s.heap.push (wrapObj it)}):codeAny (model prog w) A (.call (.builtin "wrapper_descriptor.__get__") ⟨[.builtin "list_iterator.__next__",.ref it,tp],[]⟩) R s:=by
 have hT:s.TypeIs (.builtin "list_iterator.__next__") "wrapper_descriptor":=by show typeOf _=_;show builtinType _=_;skip;kernel_rfl
 refine codeAny_call_builtin slot_wd.plain entry_wd (slot_wd.check _ _ _ _ _ _ _ _ hT (args_wd _ _ _) ?_)
 obtain⟨hh,g,d,tk,os⟩:=s
 dsimp only at ho
 have f1:Looks (model prog w) hh (isSubtype (.type "list_iterator") (.type "list_iterator")) true:=Looks.of_pure sub_li
 unfold Builtin.«wrapper_descriptor.__get__»
 repeat lk
 exact h
theorem slot_liga:PySem.Slot "list_iterator" "__getattribute__" "object.__getattribute__":=
 .of (owner:="object") (n:="__getattribute__") (by skip;kernel_rfl) (by decide+kernel) (by decide+kernel) (by decide+kernel)
  (by first | exact .inl (by decide+kernel) | exact .inr (by decide+kernel)) (by skip;kernel_rfl)
theorem entry_oga:entryFor table "object.__getattribute__"=some Builtin.«object.__getattribute__»:=entryFor_of_tree (by kernel_rfl)
theorem args_oga (a b:Value):argsOk "object.__getattribute__" ⟨[a,b],[]⟩:=by skip;kernel_rfl
theorem next_attr {w:World}{A:Around}{s:Shared}{it:Addr}{sl:Array (Option Value)}{vs:Array Value}{expr:Bool}{Q:Value→Shared→Prop}{E:Value→Shared→Prop}(ho:s.heap.get? it=some {cls:=.type "list_iterator",dict:=none,data:=.fields vs,slots:=sl}) (X:(hd.heap_39 w.params).In s.heap)
  (h:Q (.ref s.heap.objs.size) {s with heap:=s.heap.push (wrapObj it),toks:=s.toks+1}):wpAny (model prog w) A (getAttr (.ref it) "__next__" expr) Q E s:=by
 obtain⟨hh,g,d,t,os⟩:=s
 dsimp only at ho X
 have L0:Looks (model prog w) hh (typeOf (.ref it)) (.type "list_iterator"):=(Looks.ld ho).andThen .now
 have L1:Looks (model prog w) hh (typeLookup (.type "list_iterator") "__getattribute__") (some (.builtin "object.__getattribute__")):=Looks.of_pure li_ga
 have L2:Looks (model prog w) hh (typeLookup (.type "list_iterator") "__getattr__") none:=Looks.of_pure li_gh
 have Lf:=next_find (w:=w) ho X
 skip
 refine wpAny_bind (wpAny_mkText (wpAny_holding (wpAny_bind (L0.at (wpAny_bind (L1.at ?_))))))
 refine(?_:wpAny _ _ (getAttrByItsOwn (.ref it) (.str "__next__" t) (.type "list_iterator") (.builtin "object.__getattribute__") true expr) _ _ _)
 unfold getAttrByItsOwn hookBefore callGetattribute boundAndCalled
 refine wpAny_bind (wpAny_pure (wpAny_bind (wpAny_attempt (wpAny_holding ?_))))
 have hif:(expr && onTheHeap (Value.builtin "object.__getattribute__"))=false:=by cases expr<;>rfl
 rw[hif]
 skip
 refine wpAny_bind (wpAny_pure ?_)
 have hT:({heap:=hh,gens:=g,drawn:=d,toks:=t+1,os:=os}:Shared).TypeIs (.ref it) "list_iterator":=⟨_,ho,rfl⟩
 refine wpAny_call (codeAny_call_builtin slot_liga.plain entry_oga (slot_liga.check _ _ _ _ _ _ _ _ hT (args_oga _ _) ?_))
 unfold Builtin.«object.__getattribute__»
 refine wpAny_bind (wpAny_of_eq (a:=(Value.ref it,[Value.str "__next__" t])) (by first | rfl | kernel_rfl) (wpAny_bind (wpAny_pure (wpAny_bind (L0.at (wpAny_bind (Lf.at ?_)))))))
 refine(?_:wpAny _ _ (holding [.builtin "list_iterator.__next__"] (call (.builtin "wrapper_descriptor.__get__") [.builtin "list_iterator.__next__",.ref it,.type "list_iterator"])>>=PySem.ret) _ _ _)
 refine wpAny_bind (wpAny_holding (wpAny_call (next_bound ho (wpAny_pure ?_))))
 refine(?_:wpAny _ _ (handedOut (.ref hh.objs.size)) _ _ _)
 exact wpAny_pure h
section
variable {k:Nat}{sc:Scope}{ns:List Str}
noncomputable def nextOfP (p:PV):PM PV:=fun σ=>match p with
 | .ref i=>(match σ.H[i]? with
  | some (.liter _ 0)=>some (.ref σ.H.length,⟨σ.H++[.bnext (.ref i) 0],σ.V⟩)
  | _=>none)
 | _=>none
noncomputable def pNextOf (f:PM PV):PM PV:=seq f nextOfP
@[elab_as_elim] theorem nextOf_elim {a p:PV}{σ σ':PS}{P:PV→PV→PS→Prop}(hf:nextOfP a σ=some (p,σ')) (k:∀ i l,σ.H[i]?=some (.liter l 0)→P (.ref i) (.ref σ.H.length) ⟨σ.H++[.bnext (.ref i) 0],σ.V⟩):P a p σ':=by
 unfold nextOfP at hf
 split at hf
 ·split at hf
  ·rename_i hH
   refine sp2e (c:=p) (d:=σ') hf ?_
   exact k _ _ hH
  ·exact nn hf
 ·exact nn hf
theorem liter_obj {w:World}{α:List Ad}{U:List Addr}{h:Heap}{p:Ad}{l:PV}(x:OR w α U h p (.liter l 0)):∃ q osl,h.get? p.1=some ⟨.type "list_iterator",none,.fields #[.ref q,.int 0 0],osl⟩:=by
 refine gv fun _ gk=>?_
 obtain⟨_,⟨_,q,_,_,o,ho,hc,hd⟩,hz⟩:=x
 obtain⟨o',ho',hdn⟩:=hz rfl
 refine gk ?_
 rw[ho] at ho';obtain rfl:=sj ho'
 refine gv fun _ gk=>?_
 obtain⟨oc,od,oda,osl⟩:=o
 refine gk ?_
 simp only at hc hd hdn
 subst hc hd hdn
 exact⟨_,_,ho⟩
theorem SE_next {o:Expr}{pos:Pos}{f:PM PV}(h:SE k sc ns o f) (hbase:∀ env,attributeBase o "__next__" env (eval o env)=eval o env):SE k sc ns (.Attribute o "__next__" pos) (pNextOf f):=by
 refine Jd.of fun {w h0 mg mb A env α U s σ p σ'} C S hf0 Q₀ hQ=>?_
 refine seq_elim hf0 fun a σ1 e1 hf=>?_
 clear hf0
 refine(?_:wpAny _ _ (eval _ env) _ _ _)
 rw[arm_eval_Attribute,hbase env]
 refine wpAny_bind (h.run C S e1 fun v s1 α1 V1 S1 T1 R1=>wpAny_bind (wpAny_standAt (wpAny_bind (wpAny_holding ?_))))
 clear e1
 revert V1 hQ
 refine nextOf_elim hf fun i l hH hQ V1=>?_
 refine VR.ref_elim V1 fun a b hi=>?_
 refine(liter_obj (S1.wf.or_at hi hH)).elim fun q x=>x.elim fun osl ho=>?_
 refine next_attr ho (C.base.Kin S1.wf) ?_
 have hn:=get_size_none s1.heap
 have hp:(s1.heap.push (wrapObj a)).get? s1.heap.objs.size=some (wrapObj a):=Heap.get?_push_size _ rfl
 have X:=S1.wf.new (p:=(s1.heap.objs.size,s1.heap.objs.size)) (h':=s1.heap.push (wrapObj a)) (fun a o q=>Heap.get?_push_of_some _ q) hn hn ⟨_,hp⟩ ⟨_,hp⟩ (low3 C.base S1.wf) (o:=.bnext (.ref i) 0)
  ⟨rfl,i,(a,b),rfl,by rw[List.getElem?_append_left (List.getElem?_eq_some_iff.mp hi).1];exact hi,hp⟩
 have Y:=St.ofWf C S1 X.1 X.2
 refine wpAny_bind (wpAny_letTemporaryGo (wpAny_pure (hQ _ _ _ (.ref (b:=s1.heap.objs.size) ?_) Y.1 (T1.trans Y.2) R1)))
 rw[← S1.wf.len,List.getElem?_append_right (Nat.le_refl _),Nat.sub_self];rfl
end
end Mine.Internal
namespace Mine.Internal
open PySem PySem.W PyProof.Rows PySem.Calls
theorem lnext_item {w:World}{A:Around}{s:Shared}{it l:Addr}{i:Nat}{items:Array Value}{x:Value}{Q:Fin→Shared→Prop}{E:Value→Shared→Prop}(hit:s.heap.IsListIter it l i) (hl:s.heap.IsList l items) (hx:items[i]?=some x)
  (hQ:∀ h',h'.IsListIter it l (i+1)→Heap.SameBut it s.heap h'→Q (.done (.ret x)) {s with heap:=h'}):wpAny (model prog w) A (Builtin.«list_iterator.__next__» ⟨[.ref it],[]⟩) Q E s:=by
 refine gv fun _ gk=>?_
 obtain⟨o,ho,hc,hd⟩:=id hit
 obtain⟨ol,hol,_,nl,hdl⟩:=hl
 refine gk ?_
 refine(?_:wpAny _ _ (field (.ref it) 0>>=_) _ _ s)
 refine wpAny_bind (wpAny_field ho hd (x:=.ref l) rfl ?_)
 refine(?_:wpAny _ _ (if(Value.ref l==Value.none)=true then _ else _) _ _ s)
 skip
 refine wpAny_bind (wpAny_field ho hd (x:=.int i 0) rfl ?_)
 refine wpAny_bind (wpAny_seqItems hol hdl ?_)
 simp only[Int.toNat_natCast,hx]
 refine wpAny_bind (wpAny_setField ho hd (by exact nle rfl) (wpAny_pure (hQ _ ?_ (Heap.SameBut.update ..))))
 exact⟨_,Heap.get?_update_self _ ho (Obj.isFreed_of_fields (Obj.data_mapFields hd _)),(Obj.cls_mapFields ..).trans hc,by rw[Obj.data_mapFields hd];simp[rawInt]⟩
theorem bound_check (a:Value):checkBoundCall "list_iterator.__next__" ⟨[a],[]⟩=pure ():=by kernel_rfl
theorem bound_call {w:World}{A:Around}{s:Shared}{q it:Addr}{R:Result→Shared→Prop}(ho:s.heap.get? q=some (wrapObj it)) (h:codeAny (model prog w) A (.builtin "list_iterator.__next__" ⟨[.ref it],[]⟩) R s):codeAny (model prog w) A (.call (.ref q) ⟨[],[]⟩) R s:=by
 obtain⟨hh,g,dr,t,os⟩:=s
 refine codeAny_of_tree ?_
 refine(?_:wpAny _ _ (callAny (.ref q) _) _ _ _)
 dsimp only at ho
 refine nd_load ho ?_
 have:=bound_check (.ref it)
 repeat (first | rw[this] | lk)
 exact⟨Code.quiet_builtin _ (by decide+kernel),h⟩
end Mine.Internal
namespace Mine.Internal
open PySem PySem.W PyProof.Rows PySem.Calls
theorem ready_ok {M:Model}{A:Around}{E:Value→Shared→Prop}:∀(fs:List Env) {s:Shared}{Q:Unit→Shared→Prop},(∀ e∈fs,e.scope.kind≠.module∧∃ L,e.frame=some L∧∃ o,s.heap.get? L=some o)→
  (∀ h',Heap.SlotsOnly (fs.filterMap (·.frame)) s.heap h'→Q () {s with heap:=h'})→wpAny M A (readyFrames fs) Q E s
 | [],s,Q,_,h=>by skip;exact wpAny_pure (h _ (.refl ..))
 | env::outer,s,Q,hl,h=>by
  refine gv fun _ gk=>?_
  obtain⟨hk,L,hf,o,ho⟩:=hl env (.head _)
  refine gk ?_
  rw[List.filterMap_cons,hf] at h
  simp only[readyFrames,hf]
  refine wpAny_bind (wpAny_load ho ?_)
  by_cases hrd:((o.slots.getD 3 none).isSome)=true
  ·rw[if_pos hrd];exact wpAny_pure (h _ (.refl ..))
  ·rw[if_neg hrd]
   refine wpAny_bind (wpAny_of_eq (a:=false) (by simp[behindIsImport,hk]) ?_)
   refine wpAny_bind (wpAny_keptBack_false fun back=>?_)
   refine wpAny_bind (wpAny_update ho ?_)
   have hu:=Heap.SlotsOnly.update ho fun o=>#[some env.code,some (.ref env.globals),o.slots.getD 2 none,some back,o.slots.getD 4 none,env.func.map Value.ref,some (.ref env.builtins)]
    ++(env.cells.map fun c=>some (.ref c.2)).toArray
   refine ready_ok outer (fun e he=>?_) fun h' hs'=>?_
   ·refine gv fun _ gk=>?_
    obtain⟨a,L',b,o',c⟩:=hl e (.tail _ he)
    obtain⟨sl,e'⟩:=hu.2.2 L' o' c
    refine gk ?_
    exact⟨a,L',b,_,e'⟩
   ·exact h h' ((hu.mono fun b hb=>List.mem_cons.mpr (Or.inl (List.mem_singleton.mp hb))).trans (hs'.mono fun b hb=>List.mem_cons_of_mem _ hb))
theorem dw_split:∀(fs:List Env) (f:Option Addr),(∃ y∈fs,y.frame=f)→∃ g rest,(fs.dropWhile fun x=>x.frame !=f)=g::rest∧g.frame=f∧∀ x∈g::rest,x∈fs
 | [],_,⟨_,hy,_⟩=>nomatch hy
 | z::fs,f,⟨y,hy,e⟩=>by
  by_cases hz:z.frame=f
  ·exact⟨z,fs,by simp[List.dropWhile,hz],hz,fun x hx=>hx⟩
  ·have hy':y∈fs:=by
    rcases List.mem_cons.mp hy with q | q
    ·subst q;exact absurd e hz
    ·exact q
   refine gv fun _ gk=>?_
   obtain⟨g,rest,q1,q2,q3⟩:=dw_split fs f ⟨y,hy',e⟩
   refine gk ?_
   have hb:(z.frame !=f)=true:=by simpa using hz
   exact⟨g,rest,by rw[List.dropWhile_cons,if_pos hb,q1],q2,fun x hx=>.tail _ (q3 x hx)⟩
theorem note_new {M:Model}{A:Around}{E:Value→Shared→Prop}{s:Shared}{fs:List Env}{env:Env}{L e:Addr}{oe:Obj}{vs:Array Value}{Q:Unit→Shared→Prop}(hfr:A.frames=some fs) (hl:∀ e∈fs,e.scope.kind≠.module∧∃ L,e.frame=some L∧∃ o,s.heap.get? L=some o) (hf:env.frame=some L) (hL:L∈fs.filterMap (·.frame))
  (he:s.heap.get? e=some oe) (hne:e ∉ fs.filterMap (·.frame)) (hd:oe.data=.fields vs) (h1:vs[1]?=some .none)
  (h:∀ h' tb otb tvs,(∀ b o,b ∉ fs.filterMap (·.frame)→b≠e→s.heap.get? b=some o→h'.get? b=some o)→(∀ b o,b≠e→s.heap.get? b=some o→∃ o',h'.get? b=some o'∧Like o o')→s.heap.get? tb=none→
   h'.get? e=some (oe.mapFields (·.setIfInBounds 1 (.ref tb)))→h'.get? tb=some otb→otb.data=.fields tvs→3<tvs.size→Q () {s with heap:=h'}):wpAny M A (noteFrame (.ref e) env) Q E s:=by
 have hsz:1<vs.size:=(Array.getElem?_eq_some_iff.mp h1).1
 unfold noteFrame
 simp only[hf]
 refine wpAny_bind (wpAny_field he hd h1 ?_)
 rw[if_neg (by decide)]
 skip
 refine wpAny_bind (wpAny_bind (wpAny_frameEnvs hfr ?_))
 obtain⟨g,rest,hdw,hgf,hsub⟩:∃ g rest,(fs.dropWhile fun x=>x.frame !=env.frame)=g::rest∧g.frame=some L∧∀ x∈g::rest,x∈fs:=by
  refine gv fun _ gk=>?_
  obtain⟨y,hy,hyL⟩:=List.mem_filterMap.mp hL
  obtain⟨g,rest,q1,q2,q3⟩:=dw_split fs env.frame ⟨y,hy,hyL.trans hf.symm⟩
  refine gk ?_
  exact⟨g,rest,q1,q2.trans hf,q3⟩
 rw[hdw]
 skip
 refine wpAny_bind (wpAny_bind (ready_ok (g::rest) (fun x hx=>hl x (hsub x hx)) fun h₁ hs₁=>wpAny_pure ?_))
 rw[hgf]
 refine wpAny_pure ?_
 refine wpAny_bind (wpAny_entryPlaceOf fun pl hpl=>?_)
 skip
 refine wpAny_bind (wpAny_newObj_type ?_ (hpl.sizeOk5 _ _ _ _ _))
 have sub2:∀ b∈(g::rest).filterMap (·.frame),b∈fs.filterMap (·.frame):=fun b hb=>by
  refine gv fun _ gk=>?_
  obtain⟨y,hy,hyb⟩:=List.mem_filterMap.mp hb
  refine gk ?_
  exact List.mem_filterMap.mpr ⟨y,hsub y hy,hyb⟩
 have he₁:h₁.get? e=some oe:=(hs₁.2.1 e fun q=>hne (sub2 e q)).trans he
 have he₂:=Heap.get?_push_of_some (h:=h₁) {cls:=.type "traceback",dict:=none,data:=.fields ([Value.none,.ref L,.none,rawInt L,.none]++(if pl.isEmpty then List.replicate 6 Value.none else pl)).toArray} he₁
 refine wpAny_setField he₂ hd hsz ?_
 have hTe:h₁.objs.size≠e:=Nat.ne_of_gt (Heap.lt_size he₁)
 have hd₃:=Obj.data_mapFields hd (·.setIfInBounds 1 (Value.ref h₁.objs.size))
 refine h _ h₁.objs.size {cls:=.type "traceback",dict:=none,data:=.fields ([Value.none,.ref L,.none,rawInt L,.none]++(if pl.isEmpty then List.replicate 6 Value.none else pl)).toArray} _ (fun b o hb hbe hbo=>?_) (fun b o hbe hbo=>?_) (Heap.get?_none_of_le (by rw[hs₁.1];exact Nat.le_refl _)) (Heap.get?_update_self _ he₂ (Obj.isFreed_of_fields hd₃)) ?_ rfl ?_
 ·rw[Heap.get?_update_other _ _ (Ne.symm hbe)]
  exact Heap.get?_push_of_some _ ((hs₁.2.1 b fun q=>hb (sub2 b q)).trans hbo)
 ·obtain⟨sl,hs⟩:=hs₁.2.2 b o hbo
  refine⟨_,?_,(⟨rfl,rfl,rfl⟩:Like o {o with slots:=sl})⟩
  rw[Heap.get?_update_other _ _ (Ne.symm hbe)]
  exact Heap.get?_push_of_some _ hs
 ·rw[Heap.get?_update_other _ _ (Ne.symm hTe)]
  exact Heap.get?_push_size h₁ rfl
 ·simp only[List.size_toArray,List.length_append,List.length_cons,List.length_nil];exact Nat.lt_add_right _ (by decide)
end Mine.Internal
namespace Mine.Internal
open PySem PySem.W PyProof.Rows PySem.Calls
section
variable {k:Nat}{sc:Scope}{ns:List Str}
theorem St.dead {w:World}{h0:Heap}{mg mb:Str→Option Value}{A:Around}{env:Env}{α:List Ad}{U:List Addr}{h hF:Heap}{σ:PS}{i:Nat}{I:Addr}(C:Cx w h0 mg mb k A sc env U) (S:St w h0 ns env α U σ h) (hi:α[i]?=some (I,I))
  (f1:∀ b o,b≠I→b ∉ frs A→h.get? b=some o→hF.get? b=some o) (f2:∀ b o,b≠I→h.get? b=some o→∃ o',hF.get? b=some o'∧Like o o') (f3:∃ o,hF.get? I=some o):
  St w h0 ns env α U ⟨σ.H.set i .dead,σ.V⟩ hF∧Step (ownOf env) (frs A) α h α hF:=by
 have mI:=List.mem_of_getElem? hi
 have T:Step [] (frs A) α h α hF:=⟨⟨[],by simp,fun _ q=>nomatch q⟩,fun a o e x _ z=>f1 a o (x _ mI).1.symm z e,fun a o e x _=>f2 a o (x _ mI).1.symm e,fun a o e=>by
  by_cases q:a=I
  ·rw[q];exact f3
  ·obtain⟨o',e',_⟩:=f2 a o q e;exact⟨o',e'⟩⟩
 have nf:∀ p∈α,p.1 ∉ frs A∧p.2 ∉ frs A:=fun p hp=>⟨fun q=>((S.wf.lock _ (C.a.frs _ q)).1 p hp).1 rfl,fun q=>((S.wf.lock _ (C.a.frs _ q)).1 p hp).2 rfl⟩
 have W:=S.wf
 refine⟨⟨⟨by simpa using W.len,fun j p o e1 e2=>?_,fun a o e=>?_,W.fresh,W.apart,fun p hp=>?_,fun a ha=>⟨(W.lock a ha).1,(W.lock a ha).2.1,let⟨o,e⟩:=(W.lock a ha).2.2;T.alive a o e⟩⟩,S.fr.over T (fun _ q=>nomatch q) (fun a ha=>(S.wf.lock a (C.own a ha)).1) fun a ha q=>nomatch q⟩,T.weaken (fun _ q=>nomatch q) fun _ q=>q⟩
 ·by_cases hj:i=j
  ·subst hj
   have hl:i<σ.H.length:=by have:=(List.getElem?_eq_some_iff.mp hi).1;rw[W.len] at this;exact this
   have e2:(σ.H.set i PObj.dead)[i]?=some o:=e2
   rw[List.getElem?_set_self hl] at e2
   obtain rfl:=sj e2;trivial
  ·have e2:(σ.H.set i PObj.dead)[j]?=some o:=e2
   rw[List.getElem?_set_ne hj] at e2
   have ap:=W.apart i j _ p hi e1 hj
   have mp:=List.mem_of_getElem? e1
   exact(W.obj j p o e1 e2).mono T (fun _ q=>nomatch q) (fun o e=>f1 _ o ap.1.symm (nf p mp).1 e) fun o e=>f1 _ o ap.2.1.symm (nf p mp).2 e
 ·refine f1 a o (fun q=>no2 e (q▸(W.fresh _ mI).1)) (fun q=>no2 e (W.lock a (C.a.frs a q)).2.1) (W.keep a o e)
 ·obtain⟨⟨o1,e1⟩,o2,e2⟩:=W.live p hp
  exact⟨T.alive _ _ e1,T.alive _ _ e2⟩
end
end Mine.Internal
namespace Mine.Internal
open PySem PySem.W PyProof.Rows PySem.Calls
noncomputable def nextP (p:PV) (σ:PS):Option (Option PV × PS):=match p with
 | .ref b=>(match σ.H[b]? with
  | some (.bnext (.ref i) _)=>(match σ.H[i]? with
   | some (.liter (.ref m) k)=>(match σ.H[m]? with
    | some (.list xs)=>(match xs[k]? with
     | some x=>some (some x,⟨σ.H.set i (.liter (.ref m) (k+1)),σ.V⟩)
     | none=>some (none,⟨σ.H.set i .dead,σ.V⟩))
    | _=>none)
   | _=>none)
  | _=>none)
 | _=>none
noncomputable def sTryNext (j:Nat) (f:PM PV) (hb:PM PFlow):PM PFlow:=seq f fun p=>fun σ=>match nextP p σ with
 | some (some x,σ')=>some (.brk,putV j x σ')
 | some (none,σ')=>hb σ'
 | none=>none
theorem stop_exc:isSubtype (.type "StopIteration") (.type "BaseException")=pure true:=by skip;kernel_rfl
theorem stop_meta:isSubtype (.type ((Manifest.find? "StopIteration").elim "type" fun x=>x.metatype)) (.type "tuple")=pure false:=by
 have:((Manifest.find? "StopIteration").elim "type" fun x=>x.metatype)="type":=by kernel_rfl
 skip;kernel_rfl
theorem stop_self:isSubtype (.type "StopIteration") (.type "StopIteration")=pure true:=by skip;kernel_rfl
theorem keep_wrap {M:Model}{h:Heap}{q it:Addr}(ho:h.get? q=some (wrapObj it)):∃ k,(k=Keeper.frame∨k=Keeper.machine∨k=Keeper.boundFrame)∧Looks M h (keeperOf (.ref q)) k:=
 ⟨.machine,.inr (.inl rfl),(Looks.ld (part:=none) ho).andThen .now⟩
section
variable {k:Nat}{sc:Scope}{ns:List Str}
theorem nextP_elim {p:PV}{σ σ':PS}{r:Option PV}{P:PV→PS→Prop}(e:nextP p σ=some (r,σ')) (k1:∀ b kb i m kx xs y,σ.H[b]?=some (.bnext (.ref i) kb)→σ.H[i]?=some (.liter (.ref m) kx)→σ.H[m]?=some (.list xs)→xs[kx]?=some y→r=some y→P (.ref b) ⟨σ.H.set i (.liter (.ref m) (kx+1)),σ.V⟩)
  (k2:∀ b kb i m kx xs,σ.H[b]?=some (.bnext (.ref i) kb)→σ.H[i]?=some (.liter (.ref m) kx)→σ.H[m]?=some (.list xs)→xs[kx]?=none→r=none→P (.ref b) ⟨σ.H.set i .dead,σ.V⟩):P p σ':=by
 unfold nextP at e
 split at e
 ·split at e
  ·split at e
   ·split at e
    ·split at e
     ·obtain⟨rfl,rfl⟩:=sp2 e;exact k1 _ _ _ _ _ _ _ ‹_› ‹_› ‹_› ‹_› rfl
     ·obtain⟨rfl,rfl⟩:=sp2 e;exact k2 _ _ _ _ _ _ ‹_› ‹_› ‹_› ‹_› rfl
    ·exact nn e
   ·exact nn e
  ·exact nn e
 ·exact nn e
theorem tryNext_elim {j:Nat}{f:PM PV}{hb:PM PFlow}{σ σ':PS}{p:PFlow}{P:Prop}(h:sTryNext j f hb σ=some (p,σ')) (k:∀ pv σ1 r σ2,f σ=some (pv,σ1)→nextP pv σ1=some (r,σ2)→(∀ x,r=some x→p=.brk∧σ'=putV j x σ2)→(r=none→hb σ2=some (p,σ'))→P):P:=by
 refine seq_elim h fun pv σ1 e1 hf=>?_
 split at hf
 ·rename_i x s2 heq;cases hf;exact k _ _ (some x) s2 e1 heq (fun y hy=>by cases hy;exact⟨rfl,rfl⟩) fun z=>nomatch z
 ·rename_i s2 heq;exact k _ _ none s2 e1 heq (fun x hx=>nomatch hx) fun _=>hf
 ·exact nn hf
noncomputable abbrev stopObj (tt:Value):Obj:={cls:=.type "StopIteration",data:=.fields #[tt,.none,.none,.none,.bool false,.none]}
structure StopOK (w:World) (h0:Heap) (ns:List Str) (A:Around) (env:Env) (α:List Ad) (U:List Addr) (σ:PS) (h h1:Heap) (e:Addr):Prop where
 he:∃ tt,h1.get? e=some (stopObj tt)
 ene:e ∉ frs A
 live:∀ a∈U,∃ o,h1.get? a=some o
 fin:∀(h2:Heap) (tb:Addr),(∀ b o,b ∉ frs A→b≠e→h1.get? b=some o→h2.get? b=some o)→(∀ b o,b≠e→h1.get? b=some o→∃ o',h2.get? b=some o'∧Like o o')→h1.get? tb=none→
  ∀ hF:Heap,(∀ b,b≠tb→hF.get? b=h2.get? b)→St w h0 ns env α U σ hF∧Step (ownOf env) (frs A) α h α hF
theorem stop_ok {w:World}{h0:Heap}{mg mb:Str→Option Value}{A:Around}{env:Env}{α:List Ad}{U:List Addr}{h h1:Heap}{σ:PS}{i:Nat}{I e l:Addr}{kx:Nat}{tt:Value}(C:Cx w h0 mg mb k A sc env U) (S:St w h0 ns env α U σ h) (hi:α[i]?=some (I,I)) (hit:h.IsListIter I l kx)
  (hext:Heap.ExtBut I h h1) (hlive:∃ o,h1.get? I=some o) (hfresh:h.get? e=none) (he:h1.get? e=some (stopObj tt)):StopOK w h0 ns A env α U ⟨σ.H.set i .dead,σ.V⟩ h h1 e where
 he:=⟨tt,he⟩
 ene z:=by
  obtain⟨o,ho⟩:=(S.wf.lock e (C.a.frs e z)).2.2
  exact no2 ho hfresh
 live a ha:=by
  obtain⟨o,ho⟩:=(S.wf.lock a ha).2.2
  exact⟨o,hext a o (fun z=>((S.wf.lock a ha).1 _ (List.mem_of_getElem? hi)).1 z.symm) ho⟩
 fin h2 tb k1 k2 htb hF hFe:=by
  have bne:∀ b o,b≠I→h.get? b=some o→b≠e∧b≠tb:=fun b o hbI hb=>⟨fun z=>no2 hb (z▸hfresh),fun z=>no2 (hext b o hbI hb) (z▸htb)⟩
  have tI:tb≠I:=fun z=>by obtain⟨o,ho⟩:=hlive;exact no2 ho (z▸htb)
  have eI:e≠I:=fun z=>by obtain⟨o,ho,_⟩:=hit;exact no2 ho (z▸hfresh)
  refine St.dead C S hi (fun b o hbI hbf hb=>?_) (fun b o hbI hb=>?_) ?_
  ·rw[hFe b (bne b o hbI hb).2]
   exact k1 b o hbf (bne b o hbI hb).1 (hext b o hbI hb)
  ·rw[hFe b (bne b o hbI hb).2]
   exact k2 b o (bne b o hbI hb).1 (hext b o hbI hb)
  ·obtain⟨o,ho⟩:=hlive
   obtain⟨o',ho',_⟩:=k2 I o (Ne.symm eI) ho
   exact⟨o',by rw[hFe I (Ne.symm tI)];exact ho'⟩
@[elab_as_elim] theorem VR.bnext_elim {w:World}{h0:Heap}{α:List Ad}{U:List Addr}{H:List PObj}{h:Heap}{v:Value}{b i m kb kx:Nat}{P:Value→Prop}(V:VR α U h v (.ref b)) (W:Wf w h0 α U H h) (e:H[b]?=some (.bnext (.ref i) kb)) (e2:H[i]?=some (.liter (.ref m) kx))
  (k:∀ q I L,α[i]?=some (I,I)→h.get? q=some (wrapObj I)→α[m]?=some (L,L)∨(∃ Lb,α[m]?=some (L,Lb))→h.IsListIter I L kx→P (.ref q)):P v:=by
 refine VR.ref_elim V fun q q' hq=>?_
 obtain⟨_,i',qi,er,hqi,hwrap⟩:=W.or_at hq e
 cases er
 obtain⟨hb2,⟨m',qm,er,hqm,hit⟩,_⟩:=W.or_at hqi e2
 cases er
 obtain⟨I0,I⟩:=qi
 cases(show I=I0 from hb2)
 exact k q _ qm.1 hqi hwrap (.inr ⟨qm.2,hqm⟩) hit
theorem next_run {cpos:Pos}{w:World}{h0:Heap}{mg mb:Str→Option Value}{A:Around}{env:Env}{α:List Ad}{U:List Addr}{s:Shared}{σ σ':PS}{pv:PV}{v:Value}{r:Option PV}{Q:Value→Shared→Prop}{E:Value→Shared→Prop}(C:Cx w h0 mg mb (k+1) A sc env U) (S:St w h0 ns env α U σ s.heap) (V:VR α U s.heap v pv) (hf:nextP pv σ=some (r,σ'))
  (hI:∀ y vy h',r=some y→VR α U h' vy y→St w h0 ns env α U σ' h'→Step (ownOf env) (frs A) α s.heap α h'→Q vy {s with heap:=h'})
  (hS:∀ h1 e,r=none→StopOK w h0 ns A env α U σ' s.heap h1 e→E (.ref e) {s with heap:=h1}):
  wpAny (model prog w) A (callWith cpos v [] (backTo cpos (starEach [] env)) (backToKw cpos (keywordEach [] env))) Q E s:=by
 refine nextP_elim (P:=fun pv σ'=>VR α U s.heap v pv→(∀ y vy h',r=some y→VR α U h' vy y→St w h0 ns env α U σ' h'→Step (ownOf env) (frs A) α s.heap α h'→Q vy {s with heap:=h'})→(∀ h1 e,r=none→StopOK w h0 ns A env α U σ' s.heap h1 e→E (.ref e) {s with heap:=h1})→
  wpAny (model prog w) A (callWith cpos v [] (backTo cpos (starEach [] env)) (backToKw cpos (keywordEach [] env))) Q E s) hf (fun b kb i m kx xs y hHb hHi hHm hxk hr V hI _=>?_) (fun b kb i m kx xs hHb hHi hHm hxk hr V _ hS=>?_) V hI hS
 ·refine VR.bnext_elim V S.wf hHb hHi fun q I L hqi hwrap hqm hit=>?_
  have hqm:∃ Lb,α[m]?=some (L,Lb):=hqm.elim (fun z=>⟨_,z⟩) id
  refine gv fun _ gk=>?_
  obtain⟨Lb,hqm⟩:=hqm
  obtain⟨hLb,vs,n,hl,hvs⟩:=list_at S.wf hHm hqm
  obtain⟨vy,ey,Vy⟩:=hvs.get hxk
  refine gk ?_
  refine callWith_of (P:=fun h=>h.get? q=some (wrapObj I)) rfl (fun h P=>keep_wrap P) (evalArgs_nil3 ⟨hwrap,?_⟩)
  refine wpAny_call (bound_call hwrap (codeAny_builtin entry_listiter_next ?_))
  skip
  refine lnext_item hit (IsL.isList hl) (by simpa using ey) fun h' hi' hsb=>?_
  have hlv:∃ o,h'.get? I=some o:=by obtain⟨o',ho',_⟩:=hi';exact⟨o',ho'⟩
  have X:=S.wf.upd (o':=.liter (.ref m) (kx+1)) hqi (h':=h') (fun c o h1 _ e=>(hsb.2 c h1).trans e) hlv hlv ⟨rfl,⟨m,_,rfl,hqm,hi'⟩,fun z=>by lia⟩
  have Y:=St.ofWf C S X.1 X.2
  exact hI y vy h' hr (Vy.mono X.2 fun _ q=>nomatch q) Y.1 Y.2
 ·refine VR.bnext_elim V S.wf hHb hHi fun q I L hqi hwrap hqm hit=>?_
  have hqm:∃ Lb,α[m]?=some (L,Lb):=hqm.elim (fun z=>⟨_,z⟩) id
  refine gv fun _ gk=>?_
  obtain⟨Lb,hqm⟩:=hqm
  obtain⟨hLb,vs,n,hl,hvs⟩:=list_at S.wf hHm hqm
  refine gk ?_
  refine callWith_of (P:=fun h=>h.get? q=some (wrapObj I)) rfl (fun h P=>keep_wrap P) (evalArgs_nil3 ⟨hwrap,?_⟩)
  refine wpAny_call (bound_call hwrap (codeAny_builtin entry_listiter_next ?_))
  skip
  have hlen:=hvs.length
  exact lnext_end (C.a.handled (Nat.succ_pos _)) hit (IsL.isList hl) (by
   have:=List.getElem?_eq_none_iff.mp hxk
   simp;exact Nat.le_trans (Nat.le_of_eq hlen) this) fun h1 e tt hext hlive hfresh he=>hS h1 e hr (stop_ok C S hqi hit hext hlive hfresh he)
theorem SS_tryNext (j:Nat) {x sname:Str}{px cpos apos bpos spos hpos tpos:Pos}{callee:Expr}{b0:Stmt}{suite:List Stmt}{f:PM PV}{hb:PM PFlow}(hc:SE (k+1) sc ns callee f) (hx:ns[j]?=some x) (hn:ns.Nodup) (hk:(sc.names.lookup x==some .local || sc.names.lookup x==some .cell)=true)
  (hs:∀ env:Env,env.scope=sc→swapsWith (.Call callee [] [] cpos) (some (.Name x px)) apos.line env=pure false) (hcall:∀ env,eval (.Call callee [] [] cpos) env=(do callWith cpos (← eval callee env) [] (backTo cpos (starEach [] env)) (backToKw cpos (keywordEach [] env))))
  (hS1:sc.names.lookup sname=some .globalImplicit) (hS2:∀ w:World,nsIn (hd.heap_39 w.params) mainGlobals sname=some none) (hS3:bootBuiltins sname=some (.type "StopIteration")) (hS4:sname≠"__name__") (hS5:(sname==("__debug__":Str))=false) (hB:SB 0 sc ns (b0::suite) hb):
  SS (k+1) sc ns (.Try [.Assign [.Name x px] (.Call callee [] [] cpos) apos,.Break bpos] [.ExceptHandler (some (.Name sname spos)) none (b0::suite) hpos] [] [] tpos) (sTryNext j f hb):=by
 refine Jd.of fun {w h0 mg mb A env α U s σ p σ'} C S hf0 Q₀ hQ=>tryNext_elim hf0 fun pv σ1 r σ2 e1 hf k1 k2=>?_
 refine wpAny_Try_except (wpAny_execs_cons (wpAny_Assign_Name ?_ (hs env C.e.scope)))
 rw[hcall env]
 refine wpAny_bind (hc.run C S e1 fun v s1 α1 V1 S1 T1 R1=>next_run C S1 V1 hf (fun y vy h' hr Vy S2 T2=>?_) fun h1 e hr X=>?_)
 ·refine store_name C (s:={s1 with heap:=h'}) S2 hx hn hk Vy fun h3 tk3 S3 T3=>?_
  have z:=k1 y hr
  exact wpAny_execs_cons (wpAny_Break (hQ _ _ α1 (z.1▸.brk) (z.2▸S3) ((T1.trans T2).trans T3) R1))
 ·have k2:=k2 hr
  refine X.he.elim fun tt he=>C.a.frames.elim fun fs hfs=>C.fr.elim fun L hL=>?_
  have frsE:frs A=fs.filterMap (·.frame):=by unfold frs;rw[hfs.1];rfl
  refine note_new (s:={s1 with heap:=h1}) hfs.1 (fun y hy=>⟨(hfs.2 y hy).1,(hfs.2 y hy).2.elim fun L' a=>⟨L',a.1,X.live L' a.2⟩⟩) hL.1 (frsE▸hL.2) he (frsE▸X.ene) rfl rfl fun h2 tb otb tvs k1 k3 htb he2 htb2 hdt hsz=>?_
  have te:tb≠e:=fun z=>no2 he (z▸htb)
  have stD:=X.fin h2 tb (frsE▸k1) k3 htb
  refine wpAny_setFlight_none (s:={s1 with heap:=h2}) he2 rfl (show((#[tt,.none,.none,.none,.bool false,.none]:Array Value).setIfInBounds 1 (.ref tb))[1]?=some (.ref tb) from rfl) htb2 hdt hsz ?_
  have u3:∀ b,b≠tb→(h2.update tb (Obj.mapFields (·.setIfInBounds 3 .none))).get? b=h2.get? b:=fun b hb=>Heap.get?_update_other _ _ (Ne.symm hb)
  have g3:(h2.update tb (Obj.mapFields (·.setIfInBounds 3 .none))).get? tb=some (Obj.mapFields (·.setIfInBounds 3 .none) otb):=Heap.get?_update_self _ htb2 (Obj.isFreed_of_fields (Obj.data_mapFields hdt _))
  have Y5:=stD ((h2.update tb (Obj.mapFields (·.setIfInBounds 3 .none))).update tb (Obj.mapFields (·.setIfInBounds 3 .none))) fun b hb=>(Heap.get?_update_other _ _ (Ne.symm hb)).trans (u3 b hb)
  have Y3:=stD _ u3
  have he3:=(u3 e (Ne.symm te)).trans he2
  have hd3:(Obj.mapFields (·.setIfInBounds 3 .none) otb).data=.fields (tvs.setIfInBounds 3 .none):=Obj.data_mapFields hdt _
  generalize h2.update tb (Obj.mapFields (·.setIfInBounds 3 .none))=h3 at*
  have G:h3.Ns env.globals mg:=by rw[C.e.glob];exact C.base.g.keeps Y3.1.wf.keep
  have Bn:h3.Ns env.builtins mb:=by rw[C.e.blt];exact C.base.b.keeps Y3.1.wf.keep
  refine wpAny_handleBy_builtin (X:="StopIteration") (T:="StopIteration") (b:=true) stop_exc stop_meta stop_self (Name_function_global (by rw[C.e.scope];exact C.e.kind) (by unfold Env.kindOf;rw[C.e.scope];exact hS1) (loadGlobal_builtin (s:={s1 with heap:=h3}) G (mg_none_of C.base.K C.base.g (hS2 w)) Bn ((C.base.blt sname hS4).trans hS3) ⟨rfl,⟨_,he3,rfl⟩,?_⟩) hS5)
  skip
  refine wpAny_setFlight_none (s:={s1 with heap:=h3}) he3 rfl (show((#[tt,.none,.none,.none,.bool false,.none]:Array Value).setIfInBounds 1 (.ref tb))[1]?=some (.ref tb) from rfl) g3 hd3 (by simpa using hsz) ?_
  have C0:Cx w h0 mg mb 0 (A.mark (some (.ref e))) sc env U:=⟨C.base,⟨fun z=>absurd z (Nat.lt_irrefl _),by have:=C.a.depth;show A.depth+10*0≤900;exact Nat.le_trans (Nat.le_add_right _ _) this,by have:=C.a.units;show A.units+50*0≤9000;exact Nat.le_trans (Nat.le_add_right _ _) this,C.a.frames⟩,C.e,C.own,C.fr⟩
  exact hB.run C0 (s:={s1 with heap:=h3.update tb (Obj.mapFields (·.setIfInBounds 3 .none))}) Y5.1 k2 fun fl s6 α6 V6 S6 T6 R6=>hQ _ _ α6 V6 S6 ((T1.trans Y5.2).trans T6) (R1.trans R6)
end
end Mine.Internal
namespace Mine.Internal
open PySem PySem.W PyProof.Rows PySem.Calls
noncomputable def kasRun {τ:Type}(c:Nat→Nat→Bool):KasT τ→τ
 | .ret a=>a
 | .ask i j k=>kasRun c (k (c i j))
noncomputable def kasIn {τ:Type}(n:Nat):KasT τ→Bool
 | .ret _=>true
 | .ask i j k=>decide (i<n) && decide (j<n) && kasIn n (k true) && kasIn n (k false)
theorem kasWp_of {τ:Type}{cmp:Nat→Nat→(Bool→Shared→Prop)→Shared→Prop}{c:Nat→Nat→Bool}{n:Nat}{Q:τ→Shared→Prop}{s:Shared}(hc:∀ i j C,i<n→j<n→C (c i j) s→cmp i j C s):∀(t:KasT τ),kasIn n t=true→Q (kasRun c t) s→t.kasWp cmp Q s
 | .ret _,_,h=>h
 | .ask i j k,hn,h=>by
  simp only[kasIn,Bool.and_eq_true,decide_eq_true_eq] at hn
  refine hc i j _ hn.1.1.1 hn.1.1.2 (kasWp_of hc (k (c i j)) ?_ h)
  cases c i j
  ·exact hn.2
  ·exact hn.1.2
theorem kasIn3:kasIn 3 (kas_sort 3)=true:=by decide+kernel
theorem lexLt_cons (x y:Int) (xs ys:List Int):lexLt (x::xs) (y::ys)=if x=y then lexLt xs ys else decide (x<y):=rfl
theorem katlex_ints {w:World}{A:Around}{b:Bool}{Q:Bool→Shared→Prop}{s:Shared}{vs:List Value}{xs:List Int}(hx:IntsAre vs xs):∀ {ws:List Value}{ys:List Int}{fin:Bool}(i:Nat),IntsAre ws ys→decide (vs.length<ws.length)=fin→Q (lexLt xs ys) s→KatLex prog w A b fin Q (vs.zip ws) i s:=
 IntsAre.rec (motive:=fun vs xs _=>∀ {ws:List Value}{ys:List Int}{fin:Bool}(i:Nat),IntsAre ws ys→decide (vs.length<ws.length)=fin→Q (lexLt xs ys) s→KatLex prog w A b fin Q (vs.zip ws) i s)
  (fun {ws ys fin} i hy=>IntsAre.casesOn (motive:=fun ws ys _=>decide (List.length []<ws.length)=fin→Q (lexLt [] ys) s→KatLex prog w A b fin Q (List.zip [] ws) i s) hy (fun hf h=>kat_nil (hf▸h)) fun _ _ {_ _} _ hf h=>kat_nil (hf▸h))
  (fun x t {vs xs} _ ih {ws ys fin} i hy=>IntsAre.casesOn (motive:=fun ws ys _=>decide ((Value.int x t::vs).length<ws.length)=fin→Q (lexLt (x::xs) ys) s→KatLex prog w A b fin Q (List.zip (Value.int x t::vs) ws) i s) hy (fun hf h=>kat_nil (hf▸h)) fun y u {ws ys} hy hf h=>by
   rw[lexLt_cons] at h
   refine kat_cons (wpAny_eqBool_int (kat_go (fun e=>?_) fun e=>?_))
   ·have hxy:x=y:=by simpa using e
    rw[if_pos hxy] at h
    exact kat_yes (ih (i+1) hy (by simpa using hf) h)
   ·have hxy:x≠y:=by simpa using e
    rw[if_neg hxy] at h
    refine kat_no ?_
    cases hb:(b && i==0)
    ·exact kat_one _ _ (PyProof.Rows.lt_int h)
    ·exact oneLt_int h) hx
section
variable {k:Nat}{sc:Scope}{ns:List Str}
theorem sort_core {w:World}{A:Around}{s:Shared}{a:Addr}{vs:List Value}{n:Nat}{κ:SortKind}{c:Nat→Nat→Bool}{P:Fin→Shared→Prop}{E:Value→Shared→Prop}(ho:IsL s.heap a vs.toArray n) (h3:vs.length=3)
  (hk:∀(h':Heap) (Q:SortKind→Shared→Prop) (E:Value→Shared→Prop),(∀ b o,b≠a→s.heap.get? b=some o→h'.get? b=some o)→Q κ {s with heap:=h'}→wpAny (model prog w) A (keyKind' vs.toArray) Q E {s with heap:=h'})
  (hc:∀(h':Heap) (i j:Nat) (C:Bool→Shared→Prop),(∀ b o,b≠a→s.heap.get? b=some o→h'.get? b=some o)→i<3→j<3→C (c i j) {s with heap:=h'}→kas_ask prog w A κ vs i j C {s with heap:=h'})
  (hQ:∀ h' n',(∀ b o,b≠a→s.heap.get? b=some o→h'.get? b=some o)→IsL h' a (List.toArray ((kasRun c (kas_sort 3)).toList.map fun i=>vs.getD i Value.none)) n'→P (.done (.ret .none)) {s with heap:=h'}):
  wpAny (model prog w) A (Builtin.«list.sort» ⟨[.ref a],[]⟩) P E s:=by
 have ha:a<s.heap.objs.size:=Heap.lt_size ho
 have s1:=Heap.SameBut.update s.heap a (Obj.mapSeq fun _=>(#[]:Array Value))
 obtain⟨e1,ho1⟩:∃ e1,(s.heap.update a (Obj.mapSeq fun _=>(#[]:Array Value))).get? a=some (seqObj "list" #[] e1):=⟨_,get?_update_seq ho fun _=>#[]⟩
 have sz:sizeLine=16777216:=rfl
 rw[list_sort_plain]
 refine wpAny_bind (listItems_at ho rfl ?_)
 refine wpAny_bind (listUpdate_at ho rfl ?_ (by rw[List.size_toArray];exact Nat.le_trans (Nat.le_of_eq h3) (by decide)) (Nat.zero_le _))
 refine wpAny_bind (seqEpoch_at ho1 rfl ?_)
 refine wpAny_bind (wpAny_newTuple ?_ (by show vs.length≤_;exact Nat.le_trans (Nat.le_of_eq h3) (by decide)))
 refine wpAny_bind (wpAny_newList ?_ (Nat.zero_le _))
 refine wpAny_holding ?_
 generalize hH:((s.heap.update a (Obj.mapSeq fun _=>(#[]:Array Value))).push (seqObj "tuple" vs.toArray 0)).push (seqObj "list" #[] 0)=h3'
 have hkeep:∀ b o,b≠a→s.heap.get? b=some o→h3'.get? b=some o:=fun b o hb e=>by
  rw[← hH];exact Heap.get?_push_of_some _ (Heap.get?_push_of_some _ ((s1.2 b hb).trans e))
 have ha3:h3'.get? a=some (seqObj "list" #[] e1):=by rw[← hH];exact Heap.get?_push_of_some _ (Heap.get?_push_of_some _ ho1)
 refine(?_:wpAny (model prog w) A _ P E {s with heap:=h3'})
 dsimp only
 have hn2:¬ vs.toArray.size<2:=by rw[List.size_toArray];lia
 rw[if_neg hn2,if_neg hn2]
 refine wpAny_bind (hk h3' _ _ hkeep ?_)
 have run:=kasWp_of (n:=3) (Q:=fun(p:Array Nat) s'=>p=kasRun c (kas_sort 3)∧s'={s with heap:=h3'}) (s:={s with heap:=h3'}) (fun i j C h1 h2=>hc h3' i j C hkeep h1 h2) (kas_sort 3) kasIn3 ⟨rfl,rfl⟩
 rw[← h3] at run
 refine wpAny_bind (wpAny_mono (kat_run (E:=E) (Q:=fun st' s'=>∃ p:Array Nat,p.size=vs.length∧arrOf st'=p.map (kas_item (vs.toArray.zip vs.toArray))∧failedOf st'=none∧p=kasRun c (kas_sort vs.length)∧s'={s with heap:=h3'})
  rfl (by exact Nat.le_of_not_lt hn2) (by exact Nat.lt_of_le_of_lt (Nat.le_of_eq h3) (by decide)) (fun p' st' s' a1 a2 a3 a4=>⟨p',a1,a2,a3,a4⟩) run) ?_ fun _ _ e=>e)
 rintro⟨⟨⟩,st'⟩ s' ⟨p,hp,har,hf,hpe,rfl⟩
 dsimp only
 have hout:=kat_snds rfl har
 rw[hout]
 have hsz:(List.toArray (p.toList.map fun i=>vs.getD i Value.none)).size=vs.length:=by rw[List.size_toArray,List.length_map,Array.length_toList,hp]
 have s2:=Heap.SameBut.update h3' a (Obj.mapSeq fun _=>List.toArray (p.toList.map fun i=>vs.getD i Value.none))
 obtain⟨c2,hc2⟩:∃ c2,(h3'.update a (Obj.mapSeq fun _=>List.toArray (p.toList.map fun i=>vs.getD i Value.none))).get? a=some (seqObj "list" (List.toArray (p.toList.map fun i=>vs.getD i Value.none)) c2):=⟨_,get?_update_seq ha3 fun _=>List.toArray (p.toList.map fun i=>vs.getD i Value.none)⟩
 refine wpAny_bind (seqEpoch_at ha3 rfl ?_)
 refine wpAny_bind (listUpdate_at ha3 rfl ?_ (Nat.zero_le _) (by rw[hsz];exact Nat.le_trans (Nat.le_of_eq h3) (by decide)))
 rw[hf]
 simp only[bne_self_eq_false,Bool.false_eq_true,if_false]
 refine wpAny_pure (hQ _ c2 (fun b o hb e=>(s2.2 b hb).trans (hkeep b o hb e)) ?_)
 rw[hpe,h3] at hc2
 rw[hpe,h3]
 exact hc2
noncomputable def tupInts:PV→Option (List Int)
 | .tup xs=>intsOf xs
 | _=>none
noncomputable def sort3 (p0 p1 p2:PV) (k0 k1 k2:List Int):List PV:=(kasRun (fun i j=>lexLt ([k0,k1,k2].getD i []) ([k0,k1,k2].getD j [])) (kas_sort 3)).toList.map fun i=>[p0,p1,p2].getD i .none
noncomputable def F_lsort:PF:=fun ps H=>match ps with
 | [.ref i]=>(match H[i]? with
  | some (.list [p0,p1,p2])=>(match tupInts p0,tupInts p1,tupInts p2 with
   | some (x::k0),some (y::k1),some (z::k2)=>some (.none,H.set i (.list (sort3 p0 p1 p2 (x::k0) (y::k1) (z::k2))))
   | _,_,_=>none)
  | _=>none)
 | _=>none
theorem tup_at {α:List Ad}{U:List Addr}{h:Heap}{v:Value}{p:PV}{ks:List Int}(V:VR α U h v p) (e:tupInts p=some ks):∃ a vs,v=.ref a∧IsTup h a (List.toArray vs)∧IntsAre vs ks∧away α a:=by
 cases V with
 | @tup a vs xs ht hu ha hvs=>exact⟨a,vs,rfl,ht,intsOf_ok hvs e,ha⟩
 | none=>exact nn e
 | bool=>exact nn e
 | int=>exact nn e
 | ref=>exact nn e
 | const=>exact nn e
theorem VRs.pickD {α U h}{vs:List Value}{ps:List PV}(V:VRs α U h vs ps) (i:Nat):VR α U h (vs.getD i Value.none) (ps.getD i .none):=by
 cases e:ps[i]? with
 | some p=>
  obtain⟨v,e1,V1⟩:=V.get e
  simpa[List.getD,e,e1] using V1
 | none=>
  have:vs[i]?=none:=by
   rw[List.getElem?_eq_none_iff] at e ⊢
   have:=V.length;exact Nat.le_trans (Nat.le_of_eq this) e
  simpa[List.getD,e,this] using VR.none
theorem VRs.picksD {α U h}{vs:List Value}{ps:List PV}(V:VRs α U h vs ps):∀(l:List Nat),VRs α U h (l.map fun i=>vs.getD i Value.none) (l.map fun i=>ps.getD i .none)
 | []=>.nil
 | i::l=>.cons (V.pickD i) (VRs.picksD V l)
noncomputable def KeyAt (h:Heap) (b:Addr) (v:Value) (ks:List Int):Prop:=∃ a vs,v=.ref a∧IsTup h a (List.toArray vs)∧IntsAre vs ks∧a≠b
theorem key_at {α:List Ad}{U:List Addr}{h:Heap}{v:Value}{p:PV}{ks:List Int}{i:Nat}{b:Addr}(V:VR α U h v p) (e:tupInts p=some ks) (hi:α[i]?=some (b,b)):KeyAt h b v ks:=
 (tup_at V e).elim fun a z=>z.elim fun vs z=>⟨a,vs,z.1,z.2.1,z.2.2.1,(z.2.2.2 _ (List.mem_of_getElem? hi)).1.symm⟩
theorem key_tup {h h':Heap}{b:Addr}{v:Value}{x:Int}{ks:List Int}{vs fs:List Value}(K:KeyAt h b v (x::ks)) (hk:∀ c o,c≠b→h.get? c=some o→h'.get? c=some o) (R:KatTups h' vs fs):∃ t,KatTups h' (v::vs) (.int x t::fs):=by
 refine gv fun _ gk=>?_
 obtain⟨a0,t0,rfl,⟨o0,g0,c0,m0,d0⟩,I0,n0⟩:=K
 obtain⟨t,t0',rfl,_⟩:=ints_cons I0
 refine gk ?_
 exact⟨t,KatTups.cons (hk _ _ n0 g0) c0 d0 rfl R⟩
theorem key_lt {w:World}{A:Around}{s:Shared}{h':Heap}{b:Addr}{v u:Value}{ks ks':List Int}{C:Bool→Shared→Prop}(K:KeyAt s.heap b v ks) (K':KeyAt s.heap b u ks') (hk:∀ c o,c≠b→s.heap.get? c=some o→h'.get? c=some o) (hC:C (lexLt ks ks') {s with heap:=h'}):
  wpAny (model prog w) A (keyLt' (tuples' true) v u) C (fun _ _=>False) {s with heap:=h'}:=by
 refine gv fun _ gk=>?_
 obtain⟨q,us,rfl,⟨oq,gq,cq,mq,dq⟩,Iq,nq⟩:=K
 obtain⟨r,us',rfl,⟨orr,gr,cr,mr,dr⟩,Ir,nr⟩:=K'
 refine gk ?_
 exact kat_lt (s:={s with heap:=h'}) (hk _ _ nq gq) dq (hk _ _ nr gr) dr (by exact katlex_ints Iq 0 Ir (by rfl) hC)
theorem below3 {P:Nat→Prop}(h0:P 0) (h1:P 1) (h2:P 2):∀ i,i<3→P i
 | 0,_=>h0
 | 1,_=>h1
 | 2,_=>h2
 | n+3,h=>absurd h (by exact Nat.not_lt_of_ge (Nat.le_add_left _ _))
theorem lsort_elim {a p:PV}{H H':List PObj}{P:PV→PV→List PObj→Prop}(e:F_lsort [a] H=some (p,H'))
  (k:∀ i p0 p1 p2 x k0 y k1 z k2,H[i]?=some (.list [p0,p1,p2])→tupInts p0=some (x::k0)→tupInts p1=some (y::k1)→tupInts p2=some (z::k2)→P (.ref i) .none (H.set i (.list (sort3 p0 p1 p2 (x::k0) (y::k1) (z::k2))))):P a p H':=by
 unfold F_lsort at e
 split at e
 ·rename_i i hi
  obtain rfl:=(List.cons.inj hi).1
  split at e
  ·rename_i p0 p1 p2 hH
   cases e0:tupInts p0 with
   | none=>rw[e0] at e;exact nn e
   | some l0=>cases l0 with
    | nil=>rw[e0] at e;exact nn e
    | cons x k0=>cases e1:tupInts p1 with
     | none=>rw[e0,e1] at e;exact nn e
     | some l1=>cases l1 with
      | nil=>rw[e0,e1] at e;exact nn e
      | cons y k1=>cases e2:tupInts p2 with
       | none=>rw[e0,e1,e2] at e;exact nn e
       | some l2=>cases l2 with
        | nil=>rw[e0,e1,e2] at e;exact nn e
        | cons z k2=>
         rw[e0,e1,e2] at e
         refine sp2e (c:=p) (d:=H') e ?_
         exact k _ _ _ _ _ _ _ _ _ _ hH e0 e1 e2
  ·exact nn e
 ·exact nn e
@[elab_as_elim] theorem vrs3_elim {α U h}{vs:List Value}{p q r:PV}{P:List Value→Prop}(V:VRs α U h vs [p,q,r]) (k:∀ u v x,VR α U h u p→VR α U h v q→VR α U h x r→P [u,v,x]):P vs:=by
 cases V with
 | cons a V=>exact vrs2_elim V fun u v x y=>k _ u v a x y
theorem sf_lsort:SFv (.builtin "list.sort") k F_lsort:=by
 refine SFv.of1 (fun _=>rfl) (fun p _ _ _=>by cases p<;>rfl) fun {w h0 mg mb A α U s H v a p H'} _ _ W V e Q hQ=>?_
 refine lsort_elim (P:=fun a p H'=>VR α U s.heap v a→CallPost w h0 A α U s Q p H'→wpAny (model prog w) A (call (.builtin "list.sort") [v]) Q bot s) e (fun i p0 p1 p2 x k0 y k1 z k2 hH e0 e1 e2 V hQ=>?_) V hQ
 refine VR.list_elim V W hH fun b vs n hi hl hvs=>?_
 revert hl
 refine vrs3_elim hvs fun v0 v1 v2 V0 V1 V2 hl=>?_
 have K0:=key_at V0 e0 hi
 have K1:=key_at V1 e1 hi
 have K2:=key_at V2 e2 hi
 refine wpAny_call_entry slot_list_sort (IsL.isList hl).typeIs entry_list_sort (sort_core (κ:=tuples' true) (c:=fun i j=>lexLt ([x::k0,y::k1,z::k2].getD i []) ([x::k0,y::k1,z::k2].getD j [])) hl rfl ?_ ?_ ?_) (args_list_sort _)
 ·intro h' Q E hk hQ
  refine(key_tup K2 hk .nil).elim fun t2 R2=>(key_tup K1 hk R2).elim fun t1 R1=>(key_tup K0 hk R1).elim fun t0 R0=>?_
  refine kat_kind (T:=.type "int") (s:={s with heap:=h'}) R0 (by exact nle rfl) (allc .now (allc .now (allc .now alln))) rfl hQ
 ·intro h' i j C hk hi hj hC
  have KK:=below3 (P:=fun i=>KeyAt s.heap b ([v0,v1,v2].getD i Value.none) ([x::k0,y::k1,z::k2].getD i [])) K0 K1 K2
  exact key_lt (KK i hi) (KK j hj) hk hC
 ·intro h' n' hk hl'
  have T:Step [] [] α s.heap α h':=by
   refine but_step (fun c o x _ ec=>hk c o (x _ (List.mem_of_getElem? hi)).1.symm ec) fun c o ec=>?_
   by_cases q:c=b
   ·exact⟨_,q▸hl'⟩
   ·exact⟨o,hk c o q ec⟩
  have X:=W.upd (o':=.list (sort3 p0 p1 p2 (x::k0) (y::k1) (z::k2))) hi (fun c o h1 _ ec=>hk c o h1 ec) ⟨_,hl'⟩ ⟨_,hl'⟩ ⟨rfl,_,n',hl',(VRs.cons V0 (.cons V1 (.cons V2 .nil))).picksD _ |>.mono T fun _ q=>nomatch q⟩
  exact⟨.none,rfl,hQ _ _ _ .none X.1 X.2.plain ⟨rfl,rfl,rfl⟩⟩
end
end Mine.Internal
namespace Mine.Internal
open PySem PySem.W PyProof.Rows PySem.Calls
section
variable {k:Nat}{sc:Scope}{ns:List Str}
theorem SE_sliceT {value:Expr}{lo up:Option Expr}{f fl fu:PM PV}{p pos:Pos}(hv:SE k sc ns value f) (hl:SPart k sc ns lo fl) (hu:SPart k sc ns up fu) (hsub:∀ o i:Value,subscripted (.Slice lo up none p) false o i=operate [i,o] (getItem o i)):SE k sc ns (.Subscript value (.Slice lo up none p) pos) (pSlice f fl fu (pConst .none)):=by
 intro w h0 mg mb A env α U s σ q σ' C S hf
 refine seq_elim hf fun a σ1 e1 hf=>?_
 refine seq_elim hf fun b σ2 e2 hf=>?_
 refine seq_elim hf fun c σ3 e3 hf=>?_
 refine seq_elim hf fun d σ4 e4 hf=>?_
 obtain⟨rfl,rfl⟩:=sp2 e4
 cases hp:partsOf b c .none with
 | none=>rw[hp] at hf;cases hf
 | some r=>
  rw[hp] at hf
  obtain⟨p1,p2,p3⟩:=partsOf_some hp
  refine Subscript_ (hv.run C S e1 fun v1 s1 α1 V1 S1 T1 R1=>wpAny_Slice (hl.run C S1 e2 fun v2 s2 α2 V2 S2 T2 R2=>hu.run C S2 e3 fun v3 s3 α3 V3 S3 T3 R3=>?_))
  skip
  obtain⟨hT,hw⟩:=slice_ok (A:=A) (E:=bot) (Q:=Post VR w h0 ns A env α U s q σ') C S3 (C.vmono V1 (T2.trans T3)) (part_ok (C.vmono V2 T3) p1) (part_ok V3 p2) (by have:none=r.2.2:=Option.some.inj p3;rw[← this];exact .none) hf fun v' h' α' V' S' T'=>⟨α',V',S',((T1.trans T2).trans T3).trans T',(R1.trans R2).trans R3⟩
  exact wpAny_pure (tail_any hT list_getitem_lookup hw (hsub _ _))
noncomputable def sortedOf (a:PV):PM PV:=fun σ=>match a with
 | .ref i=>(match σ.H[i]? with
  | some (.list [.int x,.int y])=>some (.ref σ.H.length,⟨σ.H++[.list (if y<x then[.int y,.int x] else[.int x,.int y])],σ.V⟩)
  | _=>none)
 | _=>none
noncomputable def pSorted (f g kf:PM PV):PM PV:=seq f fun c=>match c with
 | .const (.builtin "sorted")=>seq g fun a=>seq kf fun kv=>match kv with
  | .none=>sortedOf a
  | _=>fail
 | _=>fail
theorem sort_key_none (a:Addr):Builtin.«list.sort» ⟨[.ref a],[(Str.ofString "key",.none)]⟩=Builtin.«list.sort» ⟨[.ref a],[]⟩:=rfl
theorem args_sorted_none (a:Value):argsOk "sorted" ⟨[a],[(Str.ofString "key",.none)]⟩:=by skip;kernel_rfl
theorem args_sort_none (a:Value):argsOk "list.sort" ⟨[a],[(Str.ofString "key",.none)]⟩:=by skip;kernel_rfl
theorem call_sorted {w:World}{A:Around}{E:Value→Shared→Prop}{s:Shared}{l:Addr}{vs:List Value}{ns:List Int}{Q:Value→Shared→Prop}(hl:s.heap.IsList l vs.toArray) (hI:IntsAre vs ns) (h64:vs.length<64)
  (h:∀(out:Array Value) (ns':List Int) (h':Heap) (n:Nat),IntsAre out.toList ns'→ns'.Perm ns→ns'.Pairwise (·≤·)→(∀ b o,s.heap.get? b=some o→h'.get? b=some o)→IsL h' (s.heap.objs.size+1) out n→Q (.ref (s.heap.objs.size+1)) {s with heap:=h'}):
  wpAny (model prog w) A (call (.builtin "sorted") [.ref l] [(Str.ofString "key",.none)]) Q E s:=by
 refine call_function_entry_kw kind_sorted plain_sorted entry_sorted (args_sorted_none _) ?_
 unfold Builtin.«sorted»
 refine wpAny_bind (m:=checkCount "sorted" 1 1 _) (wpAny_pure ?_)
 refine wpAny_bind (collect_list hl ?_ (by rw[sizeLine_eq];exact Nat.le_of_lt (Nat.lt_of_lt_of_le h64 (by decide))))
 refine wpAny_bind (wpAny_newList ?_ (by rw[sizeLine_eq];exact Nat.le_of_lt (Nat.lt_of_lt_of_le h64 (by decide))))
 have hsz:((s.heap.push (seqObj "list" #[] 0)).update s.heap.objs.size (Obj.mapSeq (·++vs.toArray))).objs.size=s.heap.objs.size+1:=by
  rw[Heap.size_update,size_push']
 have hoL:(((s.heap.push (seqObj "list" #[] 0)).update s.heap.objs.size (Obj.mapSeq (·++vs.toArray))).push (seqObj "list" vs.toArray 0)).get? (s.heap.objs.size+1)=some (seqObj "list" vs.toArray 0):=by
  rw[← hsz];exact Heap.get?_push_size _ rfl
 have keep:∀ b o,s.heap.get? b=some o→(((s.heap.push (seqObj "list" #[] 0)).update s.heap.objs.size (Obj.mapSeq (·++vs.toArray))).push (seqObj "list" vs.toArray 0)).get? b=some o:=fun b o q=>by
  have hlt:b<s.heap.objs.size:=Heap.lt_size q
  rw[Heap.get?_push_ne _ _ _ (by rw[hsz];exact Nat.ne_of_lt (Nat.lt_succ_of_lt hlt)),Heap.get?_update_ne _ _ _ _ (Nat.ne_of_lt hlt),Heap.get?_push_ne _ _ _ (Nat.ne_of_lt hlt)]
  exact q
 refine(?_:wpAny _ _ _ _ _ {s with heap:=((s.heap.push (seqObj "list" #[] 0)).update s.heap.objs.size (Obj.mapSeq (·++vs.toArray))).push (seqObj "list" vs.toArray 0)})
 rw[hsz]
 generalize ((s.heap.push (seqObj "list" #[] 0)).update s.heap.objs.size (Obj.mapSeq (·++vs.toArray))).push (seqObj "list" vs.toArray 0)=h1 at hoL keep
 refine wpAny_bind (wpAny_holding (wpAny_call_entry_kw slot_list_sort ⟨_,hoL,rfl⟩ entry_list_sort ?_ (args_sort_none _)))
 rw[sort_key_none]
 refine list_sort_tree (s:={s with heap:=h1}) hoL hI h64 fun out ns' a1 a2 a3=>⟨_,rfl,?_⟩
 refine wpAny_pure ⟨_,rfl,?_⟩
 unfold sortedHeap
 have hne:∀ b o,s.heap.get? b=some o→b≠s.heap.objs.size+1:=fun b o q=>Nat.ne_of_lt (Nat.lt_succ_of_lt (Heap.lt_size q))
 have e1:=get?_update_seq hoL fun _=>(#[]:Array Value)
 have e2:=get?_update_seq (Heap.get?_push_of_some (seqObj "list" #[] 0) (Heap.get?_push_of_some (seqObj "tuple" vs.toArray 0) e1)) fun _=>out
 refine h out ns' _ _ a1 a2 a3 (fun b o q=>?_) e2
 rw[Heap.get?_update_ne _ _ _ _ (hne b o q)]
 refine Heap.get?_push_of_some _ (Heap.get?_push_of_some _ ?_)
 rw[Heap.get?_update_ne _ _ _ _ (hne b o q)]
 exact keep b o q
theorem ints2 {α U h}{a b:Int}{vs:List Value}(h1:IntsAre vs [a,b]):VRs α U h vs [.int a,.int b]:=by
 refine gv fun _ gk=>?_
 obtain⟨t,v1,e1,h2⟩:=ints_cons h1
 obtain⟨u,v2,e2,h3⟩:=ints_cons h2
 refine gk ?_
 have e3:v2=[]:=by cases h3;rfl
 rw[e1,e2,e3]
 exact .cons (.int _ t) (.cons (.int _ u) .nil)
theorem two_sorted {x y:Int}{ns:List Int}(h:ns.Perm [x,y]) (hs:ns.Pairwise (·≤·)):ns=if y<x then[y,x] else[x,y]:=by
 rcases ksk_perm2 h with rfl | rfl
 ·simp at hs;split<;>first | rfl | lia
 ·simp at hs
  split
  ·rfl
  ·have:x=y:=by lia
   subst this;rfl
theorem two_ints {α U h}{x y:Int}{vs:List Value}{ns:List Int}(hI:IntsAre vs ns) (e:ns=if y<x then[y,x] else[x,y]):VRs α U h vs (if y<x then[.int y,.int x] else[.int x,.int y]):=by
 rw[e] at hI
 by_cases hlt:y<x
 ·rw[if_pos hlt] at hI ⊢;exact ints2 hI
 ·rw[if_neg hlt] at hI ⊢;exact ints2 hI
theorem sortedOf_elim {a p:PV}{σ σ':PS}{P:PV→PV→PS→Prop}(h:sortedOf a σ=some (p,σ')) (k:∀ i x y,σ.H[i]?=some (.list [.int x,.int y])→P (.ref i) (.ref σ.H.length) ⟨σ.H++[.list (if y<x then[.int y,.int x] else[.int x,.int y])],σ.V⟩):P a p σ':=by
 unfold sortedOf at h
 split at h
 ·split at h
  ·refine sp2e (c:=p) (d:=σ') h ?_;exact k _ _ _ ‹_›
  ·exact nn h
 ·exact nn h
theorem pSorted_elim {f g kf:PM PV}{σ σ':PS}{p:PV}{P:Prop}(h:pSorted f g kf σ=some (p,σ')) (k:∀ σ1 a σ2 σ3,f σ=some (.const (.builtin "sorted"),σ1)→g σ1=some (a,σ2)→kf σ2=some (.none,σ3)→sortedOf a σ3=some (p,σ')→P):P:=by
 refine seq_elim h fun c σ1 e1 h=>?_
 split at h
 ·refine seq_elim h fun a σ2 e2 h=>seq_elim h fun kv σ3 e3 h=>?_
  split at h
  ·exact k _ _ _ _ e1 e2 e3 h
  ·exact nn h
 ·exact nn h
theorem SE_sorted {x:Str}{px pos kp:Pos}{e ke:Expr}{f g kf:PM PV}(hf:SE k sc ns (.Name x px) f) (hg:SE k sc ns e g) (hk:SE k sc ns ke kf) (hst:∀ env,starEach [e] env=(false,eval e env)::starEach [] env):
  SE k sc ns (.Call (.Name x px) [e] [⟨some "key",ke,kp⟩] pos) (pSorted f g kf):=by
 refine Jd.of fun {w h0 mg mb A env α U s σ p σ'} C S hq Q₀ hQ=>pSorted_elim hq fun σ1 a σ2 σ3 e1 e2 e3 hq3=>?_
 refine(?_:wpAny _ A (do callWith pos (← eval (.Name x px) env) [] (backTo pos (starEach [e] env)) (backToKw pos (keywordEach [⟨some "key",ke,kp⟩] env))) _ _ _)
 refine wpAny_bind (hf.run C S e1 fun v s1 α1 V1 S1 T1 R1=>VR.const_elim V1 ?_)
 refine callWith_kw ?_ (by rw[hst env];rfl) (by rw[hst env];rfl)
 refine(?_:wpAny _ _ (spliced (backTo pos (starEach [e] env))) _ _ _)
 rw[hst env]
 refine spliced_cons (hg.run C S1 e2 fun v2 s2 α2 V2 S2 T2 R2=>spliced_nil (kwAll_cons (hk.run C S2 e3 fun v3 s3 α3 V3 S3 T3 R3=>kwAll_nil (VR.none_elim V3 ?_))))
 refine(?_:wpAny _ _ (call (.builtin "sorted") [v2] [(Str.ofString "key",.none)]) _ _ _)
 refine sortedOf_elim (P:=fun a p σ'=>VR α3 U s3.heap v2 a→(∀ v s' α',VR α' U s'.heap v p→St w h0 ns env α' U σ' s'.heap→Step (ownOf env) (frs A) α s.heap α' s'.heap→Rest s s'→Q₀ v s')→wpAny (model prog w) A (call (.builtin "sorted") [v2] [(Str.ofString "key",.none)]) Q₀ bot s3) hq3 (fun i x y hH V2 hQ=>?_) (C.vmono V2 T3) hQ
 refine VR.list_elim V2 S3.wf hH fun b vs n hi hl hvs=>?_
 have hlen:=hvs.length
 refine call_sorted (ns:=[x,y]) (IsL.isList hl) (intsOf_ok hvs rfl) (by simp at hlen;exact Nat.lt_of_le_of_lt (Nat.le_of_eq hlen) (by decide)) fun out ns' h' n' i1 i2 i3 hk2 hl2=>?_
 have hn1:s3.heap.get? (s3.heap.objs.size+1)=none:=Heap.get?_none_of_le (Nat.le_succ _)
 have X:=St.new (p:=(s3.heap.objs.size+1,s3.heap.objs.size+1)) (A:=A) C S3 hk2 hn1 hn1 ⟨_,hl2⟩ ⟨_,hl2⟩ (Nat.lt_succ_of_lt (low3 C.base S3.wf)) (o:=.list (if y<x then[.int y,.int x] else[.int x,.int y])) ⟨rfl,out.toList,n',hl2,two_ints i1 (two_sorted i2 i3)⟩
 exact hQ _ _ _ (.ref (b:=s3.heap.objs.size+1) (by rw[← S3.wf.len,List.getElem?_append_right (Nat.le_refl _),Nat.sub_self];rfl)) X.1 (((T1.trans T2).trans T3).trans X.2) ((R1.trans R2).trans R3)
end
end Mine.Internal
namespace Mine.Internal
open PySem PySem.W PyProof.Rows PySem.Calls
theorem rev_meets (r:Addr) (n:Int) (t u v:Tok) (hs:(Builtin.Range.rangeFitsLong 0 && Builtin.Range.rangeFitsLong n && Builtin.Range.rangeFitsLong 1 && Builtin.Range.rangeFitsLong (-1) && Builtin.Range.rangeFitsLong (0 - 1) && Builtin.Range.rangeFitsLong (Builtin.Range.rangeSize 0 n 1))=true):
  Meets (Builtin.«range.__reversed__» ⟨[.ref r],[]⟩) (fun _ R s=>s.heap.get? r=some {cls:=.type "range",dict:=none,data:=.fields #[.int 0 t,.int n u,.int 1 v],slots:=#[]}∧
   R (.ok (.ret (Value.ref s.heap.objs.size))) {s with heap:=s.heap.push {cls:=.type "range_iterator",data:=.fields #[rawInt (0+(Builtin.Range.rangeSize 0 n 1 - 1)*1),rawInt (Builtin.Range.rangeSize 0 n 1),rawInt (-1)]}}):=
 .of_wp fun prog w A R s h=>by
  obtain⟨hp,g,d,tk,os⟩:=s
  obtain⟨hl,h⟩:=h
  unfold Builtin.«range.__reversed__»
  refine wpAny_bind (wpAny_of_eq (a:=Value.ref r) rfl ?_)
  skip
  refine wpAny_bind (wpAny_bind (wpAny_field hl rfl (x:=.int 0 t) rfl ?_))
  refine wpAny_bind (wpAny_of_eq (a:=some (0:Int)) rfl ?_)
  refine wpAny_bind (wpAny_field hl rfl (x:=.int n u) rfl ?_)
  refine wpAny_bind (wpAny_of_eq (a:=some n) rfl ?_)
  refine wpAny_bind (wpAny_field hl rfl (x:=.int 1 v) rfl ?_)
  refine wpAny_bind (wpAny_of_eq (a:=some (1:Int)) rfl (wpAny_pure ?_))
  dsimp only
  rw[hs]
  skip
  exact wpAny_bind (wpAny_newObj_type (wpAny_pure ⟨_,rfl,h⟩))
section
variable {k:Nat}{sc:Scope}{ns:List Str}
theorem code_rev_new {w:World}{A:Around}{E:Value→Shared→Prop}{s:Shared}{r:Addr}{n:Int}{t u v:Tok}{Q₁:Value→Shared→Prop}(hr:IsRange s.heap r 0 n 1 t u v) (hs:(Builtin.Range.rangeFitsLong 0 && Builtin.Range.rangeFitsLong n && Builtin.Range.rangeFitsLong 1 && Builtin.Range.rangeFitsLong (-1) && Builtin.Range.rangeFitsLong (0 - 1) && Builtin.Range.rangeFitsLong (Builtin.Range.rangeSize 0 n 1))=true)
  (h:Q₁ (.ref s.heap.objs.size) {s with heap:=s.heap.push {cls:=.type "range_iterator",data:=.fields #[rawInt (0+(Builtin.Range.rangeSize 0 n 1 - 1)*1),rawInt (Builtin.Range.rangeSize 0 n 1),rawInt (-1)]}}):
  codeAny (model prog w) A (.call (.builtin "reversed.__new__") ⟨[.type "reversed",.ref r],[]⟩) (wants Q₁ E) s:=by
 have hT:s.TypeIs (.ref r) "range":=⟨_,hr,rfl⟩
 refine codeAny_of_tree ?_
 show wpAny _ A.in1 (do checkBuiltinCall "reversed.__new__" ⟨[.type "reversed",.ref r],[]⟩;again (.builtin "reversed.__new__" ⟨[.type "reversed",.ref r],[]⟩)) _ _ s
 refine wpAny_bind (wpAny_of_eq (F.newCall_reversed_1 _) (wpAny_pure ⟨plainId_quiet F.plain_reversed_new _,codeAny_builtin F.entry_reversed_new ?_⟩))
 skip
 unfold Builtin.«reversed.__new__»
 refine wpAny_bind (wpAny_of_eq (newClass_reversed _) ?_)
 try dsimp only
 refine wpAny_bind (wpAny_of_eq (a:=()) (by first | rfl | kernel_rfl) ?_)
 refine wpAny_bind (wpAny_of_eq (a:=()) (by first | rfl | kernel_rfl) ?_)
 try dsimp only
 refine wpAny_bind (wpAny_specialOf hT F.slot_range_reversed.lookup ?_)
 try dsimp only
 refine wpAny_bind (wpAny_of_eq (F.slot_range_reversed.bind _) ?_)
 try dsimp only
 first
 | skip
 | (show wpAny _ _ (if(Value.builtin "range.__reversed__"==Value.none)=true then _ else _) _ _ _;rw[if_neg (show ¬ ((Value.builtin "range.__reversed__"==Value.none)=true) from Bool.false_ne_true)])
 refine wpAny_bind (wpAny_rule ?_)
 refine wpAny_bind (m:=runValue (.call (.builtin "range.__reversed__") ⟨[.ref r],[]⟩)) (show wpAny _ _ (call (.builtin "range.__reversed__") [.ref r]) _ _ _ from call_meets F.slot_range_reversed hT F.entry_range_reversed (F.args_range_reversed_1 _) (rev_meets r n t u v hs) ⟨hr,?_⟩)
 first
 | exact wpAny_pure h
 | exact wpAny_bind (wpAny_pure (wpAny_pure h))
theorem sub_ri_reversed:isSubtype (.type "range_iterator") (.type "reversed")=pure false:=by skip;kernel_rfl
theorem call_rev {w:World}{A:Around}{E:Value→Shared→Prop}{s:Shared}{r:Addr}{n:Int}{t u v:Tok}{Q:Value→Shared→Prop}(hr:IsRange s.heap r 0 n 1 t u v) (hs:(Builtin.Range.rangeFitsLong 0 && Builtin.Range.rangeFitsLong n && Builtin.Range.rangeFitsLong 1 && Builtin.Range.rangeFitsLong (-1) && Builtin.Range.rangeFitsLong (0 - 1) && Builtin.Range.rangeFitsLong (Builtin.Range.rangeSize 0 n 1))=true)
  (h:Q (.ref s.heap.objs.size) {s with heap:=s.heap.push {cls:=.type "range_iterator",data:=.fields #[rawInt (0+(Builtin.Range.rangeSize 0 n 1 - 1)*1),rawInt (Builtin.Range.rangeSize 0 n 1),rawInt (-1)]}}):wpAny (model prog w) A (call (.type "reversed") [.ref r]) Q E s:=by
 refine callType_other (U:="range_iterator") (Q₁:=fun obj s₁=>obj=.ref s.heap.objs.size∧s₁={s with heap:=s.heap.push {cls:=.type "range_iterator",data:=.fields #[rawInt (0+(Builtin.Range.rangeSize 0 n 1 - 1)*1),rawInt (Builtin.Range.rangeSize 0 n 1),rawInt (-1)]}}) (by decide+kernel) F.create_reversed ⟨_,_,F.mro_reversed⟩ F.made_reversed sub_ri_reversed (F.typeCall_reversed_1 _) (code_rev_new hr hs ⟨rfl,rfl⟩) ?_
 rintro obj s₁ ⟨rfl,rfl⟩
 exact⟨⟨_,Heap.get?_push_size _ rfl,rfl⟩,h⟩
noncomputable def downto (n:Nat):List PV:=ramp ((n:Int) - 1) (-1) n
noncomputable def revIt (n:Int):Option It:=if 0≤n∧n<1000000 then some (.still (downto n.toNat) fun _=>True) else none
noncomputable def pRevIt (fn:PM PV):PM It:=seq fn fun p=>match p with
 | .int n=>fun σ=>(revIt n).map fun it=>(it,σ)
 | _=>fail
theorem pRev_elim {fn:PM PV}{σ σ':PS}{it:It}{P:Prop}(h:pRevIt fn σ=some (it,σ')) (k:∀ n,fn σ=some (.int n,σ')→0≤n∧n<1000000→it=.still (downto n.toNat) (fun _=>True)→P):P:=by
 refine seq_elim h fun p σ1 q1 h=>?_
 split at h
 ·refine map_elim h fun it' e2 e3=>?_
  cases e3
  unfold revIt at e2
  split at e2
  ·exact k _ q1 ‹_› (Option.some.inj e2).symm
  ·exact nn e2
 ·exact nn h
theorem SIt_rev {target e:Expr}{x y:Str}{px py cpos rpos:Pos}{fn:PM PV}(hr:SE (k+1) sc ns (.Name x px) (pConst (.const (.type "reversed")))) (hr2:SE (k+1) sc ns (.Name y py) (pConst (.const (.type "range")))) (hi:SE (k+1) sc ns e fn) (hg:GoOK target)
  (hst:∀ env,starEach [e] env=(false,eval e env)::starEach [] env) (hst2:∀ env,starEach [.Call (.Name y py) [e] [] rpos] env=(false,eval (.Call (.Name y py) [e] [] rpos) env)::starEach [] env):SIter (k+1) sc ns (.Call (.Name x px) [.Call (.Name y py) [e] [] rpos] [] cpos) target (pRevIt fn):=by
 refine SIter.of fun {w h0 mg mb A env α U s σ it σ'} C S hf Q₀ hQ=>pRev_elim hf fun n e1 hlt hit=>?_
 subst hit
 refine wpAny_Call_NameR (hr.run C S rfl fun v s1 α1 V1 S1 T1 R1=>VR.const_elim V1 ?_)
 refine callWith_type1 ?_ (hst2 env)
 refine(?_:wpAny _ _ (spliced (backTo cpos (starEach [.Call (.Name y py) [e] [] rpos] env))) _ _ _)
 rw[hst2 env]
 refine spliced_cons (wpAny_Call_NameR (hr2.run C S1 rfl fun v s2 α2 V2 S2 T2 R2=>VR.const_elim V2 ?_))
 refine callWith_type1 ?_ (hst env)
 refine(?_:wpAny _ _ (spliced (backTo rpos (starEach [e] env))) _ _ _)
 rw[hst env]
 refine spliced_cons (hi.run C S2 e1 fun v s3 α3 V3 S3 T3 R3=>spliced_nil (VR.int_elim V3 fun t=>call_range_1 (spliced_nil ?_)))
 have hsz:Builtin.Range.rangeSize 0 n 1=n:=by rw[rangeSize_one];split<;>lia
 refine call_rev (n:=n) (t:=s3.toks) (u:=t) (v:=s3.toks+1) (IsRange.new ..) (by
  rw[hsz]
  simp only[Builtin.Range.rangeFitsLong,Bool.and_eq_true,decide_eq_true_eq]
  lia) ?_
 rw[hsz]
 have hp:∀(o1 o2:Obj),o2.isFreed=false→((s3.heap.push o1).push o2).get? (s3.heap.objs.size+1)=some o2:=fun o1 o2 hf=>by
  have:=Heap.get?_push_size (s3.heap.push o1) (o:=o2) hf
  rw[Heap.size_push] at this;exact this
 rw[Heap.size_push]
 have hit:=hp {cls:=.type "range",data:=.fields #[.int 0 s3.toks,.int n t,.int 1 (s3.toks+1)]} {cls:=.type "range_iterator",data:=.fields #[rawInt (0+(n - 1)*1),rawInt n,rawInt (-1)]} rfl
 refine wpAny_pyIter_rangeiter (x:=0+(n - 1)*1) (left:=n) (step:=-1) hit (hQ _ _ ?_)
 have e1:((n.toNat:Int) - 1)+(-1)*((0:Nat):Int)=0+(n - 1)*1:=by lia
 have e2:(n.toNat:Int) - ((0:Nat):Int)=n:=by lia
 skip
 exact iter_new (wr:=[s3.heap.objs.size+1]) (T:=fun i h=>IsRangeIter h (s3.heap.objs.size+1) (((n.toNat:Int) - 1)+(-1)*(i:Int)) ((n.toNat:Int) - (i:Int)) (-1)) C S3 ((T1.trans T2).trans T3) ((R1.trans R2).trans R3) (fun a o e=>Heap.get?_push_of_some _ (Heap.get?_push_of_some _ e)) ⟨rfl,rfl,rfl⟩ (fun b hb=>by simp at hb;subst hb;exact Heap.get?_none_of_le (Nat.le_succ _)) (fun b hb=>by simp at hb;subst hb;exact⟨_,hp _ _ rfl⟩) (by rw[e1,e2];exact hit)
  fun U' h1 h2 h3 h4=>iter_range (C.a.handled (Nat.succ_pos _)) (h1 _ (by exact .head _)) hg
end
end Mine.Internal
namespace Mine.Internal
open PySem PySem.W PyProof.Rows PySem.Calls
theorem nextOf_range {w:World}{A:Around}{E:Value→Shared→Prop}{s:Shared}{it:Addr}{x left step:Int}{Q:Value→Shared→Prop}(hit:IsRangeIter s.heap it x left step) (hleft:0<left)
  (hQ:∀ h',IsRangeIter h' it (x+step) (left - 1) step→Heap.SameBut it s.heap h'→Q (.int x s.toks) {s with heap:=h',toks:=s.toks+1}):wpAny (model prog w) A (Builtin.SmallTypes.nextOf (.ref it)) Q E s:=by
 have hT:s.TypeIs (.ref it) "range_iterator":=⟨_,hit,rfl⟩
 skip
 refine wpAny_bind (wpAny_callSpecial?_slot (name:=Str.ofString "__next__") hT F.slot_range_iterator_next
  (call_meets F.slot_range_iterator_next hT F.entry_range_iterator_next (F.args_range_iterator_next_1 _) (AutoRange.range_iterator___next___range_iterator_1 it x left step (by exact Int.not_le_of_gt hleft)) ⟨hit,?_⟩))
 exact wpAny_pure (hQ _ (Heap.get?_update_self _ (Heap.get?_update_self _ hit rfl) rfl) ((Heap.SameBut.update ..).trans (Heap.SameBut.update ..)))
theorem nextOf_range_end {w:World}{A:Around}{E:Value→Shared→Prop}{s:Shared}{it:Addr}{x left step:Int}{Q:Value→Shared→Prop}(hh:A.handled=none) (hit:IsRangeIter s.heap it x left step) (hleft:left≤0)
  (hE:∀ h' e,Heap.ExtBut it s.heap h'→IsRangeIter h' it x left step→(∃ o,h'.get? e=some o∧o.cls=.type "StopIteration")→E (.ref e) {s with heap:=h'}):wpAny (model prog w) A (Builtin.SmallTypes.nextOf (.ref it)) Q E s:=by
 have hT:s.TypeIs (.ref it) "range_iterator":=⟨_,hit,rfl⟩
 skip
 refine wpAny_bind (wpAny_callSpecial?_slot (name:=Str.ofString "__next__") hT F.slot_range_iterator_next
  (wpAny_call_entry F.slot_range_iterator_next hT F.entry_range_iterator_next ?_ (F.args_range_iterator_next_1 _)))
 refine(?_:wpAny _ _ (field (.ref it) 0>>=_) _ _ s)
 refine wpAny_bind (wpAny_field hit rfl (x:=rawInt x) rfl ?_)
 refine(?_:wpAny _ _ (field (.ref it) 1>>=_) _ _ s)
 refine wpAny_bind (wpAny_field hit rfl (x:=rawInt left) rfl ?_)
 refine(?_:wpAny _ _ (field (.ref it) 2>>=_) _ _ s)
 refine wpAny_bind (wpAny_field hit rfl (x:=rawInt step) rfl ?_)
 refine(?_:wpAny _ _ (if left≤0 then _ else _) _ _ s)
 rw[if_pos hleft]
 refine wpAny_bind (wpAny_rule ?_)
 refine wpAny_bind ?_
 refine(?_:wpAny _ _ (newExc (.type "StopIteration") []>>=_) _ _ _)
 refine wpAny_bind ?_
 skip
 refine wpAny_bind (wpAny_newObj_type ?_ (by size_fits))
 refine wpAny_bind (m:=firstArgMember _ _) (wpAny_of_eq (a:=Value.none) (by first | rfl | (skip;rfl)) ?_)
 refine wpAny_newObj_type ?_ (by size_fits)
 skip
 refine wpAny_bind (wpAny_handled ?_)
 first | rw[show A.in1.handled=none from hh] | rw[hh]
 refine wpAny_bind (wpAny_pure (wpAny_throw ?_))
 exact hE _ _ (((Heap.ExtBut.refl it s.heap).push _).push _) (Heap.get?_push_of_some _ (Heap.get?_push_of_some _ hit)) ⟨_,Heap.get?_push_size _ rfl,rfl⟩
theorem zipR_item {w:World}{A:Around}{E:Value→Shared→Prop}{s:Shared}{z TI TO i1 i2 l2:Addr}{n left:Int}{k2:Nat}{ys:Array Value}{y a b:Value}{Q:Value→Shared→Prop}(D:ZipApart z TI TO i1 i2 l2 l2)
  (hz:IsZip s.heap z TI TO .none) (hTI:IsPair s.heap TI (.ref i1) (.ref i2)) (hTO:IsPair s.heap TO a b)
  (h1:IsRangeIter s.heap i1 n left 1) (hleft:0<left) (h2:s.heap.IsListIter i2 l2 k2) (hl2:s.heap.IsList l2 ys) (hy:ys[k2]?=some y)
  (hQ:∀ h' tk t,IsZip h' z TI TO (rawInt s.heap.objs.size)→IsPair h' TO (.int n t) y→IsRangeIter h' i1 (n+1) (left - 1) 1→h'.IsListIter i2 l2 (k2+1)→IsPair h' s.heap.objs.size (.int n t) y→
   (∀ c o,c≠z→c≠TO→c≠i1→c≠i2→s.heap.get? c=some o→h'.get? c=some o)→Q (.ref s.heap.objs.size) {s with heap:=h',toks:=tk}):
  wpAny (model prog w) A (Builtin.«zip.__next__» ⟨[.ref z],[]⟩) (fun fin s'=>∃ v,fin=.done (.ret v)∧Q v s') E s:=by
 refine(?_:wpAny _ _ (field (.ref z) 2>>=_) _ _ _)
 refine wpAny_bind (wpAny_field hz rfl (x:=.bool false) rfl ?_)
 refine(?_:wpAny _ _ (field (.ref z) 3>>=_) _ _ _)
 refine wpAny_bind (wpAny_field hz rfl (x:=.ref TI) rfl ?_)
 refine wpAny_bind (wpAny_seqItems hTI rfl ?_)
 refine(?_:wpAny _ _ (Builtin.SmallTypes.ownedTupleIsFree (.ref z)>>=_) _ _ _)
 refine wpAny_bind ?_
 skip
 refine wpAny_bind (wpAny_field hz rfl (x:=.none) rfl (wpAny_pure ?_))
 simp only[if_true]
 refine wpAny_bind (wpAny_rule ?_)
 refine wpAny_bind (wpAny_field hz rfl (x:=.ref TO) rfl ?_)
 refine wpAny_bind (wpAny_setField_rec hz (by exact nle rfl) fun h₁ hz₁ hs₁=>?_)
 replace hz₁:IsZip h₁ z TI TO .ellipsis:=hz₁
 refine wpAny_bind ?_
 simp only[List.zipIdx_cons,List.zipIdx_nil,List.forIn_cons,List.forIn_nil]
 refine wpAny_bind (wpAny_bind (wpAny_onRaise ?_))
 refine(?_:wpAny _ _ (Builtin.SmallTypes.nextOf (.ref i1)>>=_) _ _ _)
 refine wpAny_bind (nextOf_range (s:={s with heap:=h₁}) (hs₁.extBut _ _ D.i1z h1) hleft fun h₂ h1₂ hs₂=>wpAny_pure ?_)
 have hTO₂:IsPair h₂ TO a b:=hs₂.extBut _ _ D.TOi1 (hs₁.extBut _ _ D.TOz hTO)
 refine wpAny_bind (wpAny_seqItems hTO₂ rfl ?_)
 refine wpAny_bind (wpAny_updateSeq_pair hTO₂ fun h₃ hTO₃ hs₃=>?_)
 replace hTO₃:IsPair h₃ TO (.int n s.toks) b:=hTO₃
 refine wpAny_bind (wpAny_letGo (wpAny_pure ?_))
 refine wpAny_bind (wpAny_bind (wpAny_onRaise ?_))
 refine(?_:wpAny _ _ (Builtin.SmallTypes.nextOf (.ref i2)>>=_) _ _ _)
 refine wpAny_bind (wpAny_nextOf_list_item (((h2.extBut hs₁.extBut D.i2z).extBut hs₂.extBut D.i12.symm).extBut hs₃.extBut D.TOi2.symm)
  (((hl2.extBut hs₁.extBut D.l2z).extBut hs₂.extBut D.l2i1).extBut hs₃.extBut D.l2TO) hy fun h₄ h2₄ hs₄=>wpAny_pure ?_)
 have hTO₄:IsPair h₄ TO (.int n s.toks) b:=hs₄.extBut _ _ D.TOi2 hTO₃
 refine wpAny_bind (wpAny_seqItems hTO₄ rfl ?_)
 refine wpAny_bind (wpAny_updateSeq_pair hTO₄ fun h₅ hTO₅ hs₅=>?_)
 replace hTO₅:IsPair h₅ TO (.int n s.toks) y:=hTO₅
 refine wpAny_bind (wpAny_letGo (wpAny_pure (wpAny_pure ?_)))
 refine wpAny_bind (wpAny_seqItems hTO₅ rfl ?_)
 refine wpAny_bind (wpAny_newTuple ?_)
 have hsz:h₅.objs.size=s.heap.objs.size:=by rw[hs₅.1,hs₄.1,hs₃.1,hs₂.1,hs₁.1]
 have hz₅:IsZip h₅ z TI TO .ellipsis:=hs₅.extBut _ _ D.TOz.symm (hs₄.extBut _ _ D.i2z.symm (hs₃.extBut _ _ D.TOz.symm (hs₂.extBut _ _ D.i1z.symm hz₁)))
 have hk₅:∀ c o,c≠z→c≠TO→c≠i1→c≠i2→s.heap.get? c=some o→h₅.get? c=some o:=fun c o c1 c2 c3 c4 e=>
  hs₅.extBut _ _ c2 (hs₄.extBut _ _ c4 (hs₃.extBut _ _ c2 (hs₂.extBut _ _ c3 (hs₁.extBut _ _ c1 e))))
 have h1₅:IsRangeIter h₅ i1 (n+1) (left - 1) 1:=hs₅.extBut _ _ D.TOi1.symm (hs₄.extBut _ _ D.i12 (hs₃.extBut _ _ D.TOi1.symm h1₂))
 have h2₅:h₅.IsListIter i2 l2 (k2+1):=h2₄.extBut hs₅.extBut D.TOi2.symm
 have hzlt:z<h₅.objs.size:=Heap.lt_size hz₅
 refine(?_:wpAny _ _ (Builtin.SmallTypes.ownedTupleHandOut (.ref z) (.ref h₅.objs.size)>>=_) _ _ _)
 refine wpAny_bind ?_
 skip
 have hz₆:IsZip (h₅.push {cls:=.type "tuple",data:=.seq #[.int n s.toks,y]}) z TI TO .ellipsis:=Heap.get?_push_of_some _ hz₅
 refine wpAny_bind (wpAny_setField_rec hz₆ (by exact nle rfl) fun h₇ hz₇ hs₇=>?_)
 replace hz₇:IsZip h₇ z TI TO (rawInt h₅.objs.size):=hz₇
 refine wpAny_setField_rec hz₇ (by exact nle rfl) fun h₈ hz₈ hs₈=>?_
 replace hz₈:IsZip h₈ z TI TO (rawInt h₅.objs.size):=hz₈
 have up:∀ c o,c≠z→h₅.get? c=some o→h₈.get? c=some o:=fun c o c1 e=>hs₈.extBut _ _ c1 (hs₇.extBut _ _ c1 (Heap.get?_push_of_some _ e))
 have hT₈:IsPair h₈ h₅.objs.size (.int n s.toks) y:=hs₈.extBut _ _ (Nat.ne_of_gt hzlt) (hs₇.extBut _ _ (Nat.ne_of_gt hzlt) (Heap.get?_push_size _ rfl))
 rw[hsz] at hz₈ hT₈
 refine wpAny_pure ⟨_,rfl,?_⟩
 refine(?_:Q (.ref h₅.objs.size) _)
 rw[hsz]
 exact hQ h₈ _ s.toks hz₈ (up _ _ D.TOz hTO₅) (up _ _ D.i1z h1₅) (h2₅.at fun o e=>up _ o D.i2z e) hT₈ fun c o c1 c2 c3 c4 e=>up c o c1 (hk₅ c o c1 c2 c3 c4 e)
theorem zipR_end {w:World}{A:Around}{E:Value→Shared→Prop}{s:Shared}{z TI TO i1 i2:Addr}{n left:Int}{a b:Value}{Q:Fin→Shared→Prop}(hh:A.handled=none) (d3:i1≠z)
  (hz:IsZip s.heap z TI TO .none) (hTI:IsPair s.heap TI (.ref i1) (.ref i2)) (h1:IsRangeIter s.heap i1 n left 1) (hleft:left≤0)
  (hE:∀ h' e,(∀ c o,c≠z→c≠i1→s.heap.get? c=some o→h'.get? c=some o)→(∃ o,h'.get? e=some o∧o.cls=.type "StopIteration")→E (.ref e) {s with heap:=h'}):
  wpAny (model prog w) A (Builtin.«zip.__next__» ⟨[.ref z],[]⟩) Q E s:=by
 refine(?_:wpAny _ _ (field (.ref z) 2>>=_) _ _ _)
 refine wpAny_bind (wpAny_field hz rfl (x:=.bool false) rfl ?_)
 refine(?_:wpAny _ _ (field (.ref z) 3>>=_) _ _ _)
 refine wpAny_bind (wpAny_field hz rfl (x:=.ref TI) rfl ?_)
 refine wpAny_bind (wpAny_seqItems hTI rfl ?_)
 refine(?_:wpAny _ _ (Builtin.SmallTypes.ownedTupleIsFree (.ref z)>>=_) _ _ _)
 refine wpAny_bind ?_
 skip
 refine wpAny_bind (wpAny_field hz rfl (x:=.none) rfl (wpAny_pure ?_))
 skip
 refine wpAny_bind (wpAny_rule ?_)
 refine wpAny_bind (wpAny_field hz rfl (x:=.ref TO) rfl ?_)
 refine wpAny_bind (wpAny_setField_rec hz (by exact nle rfl) fun h₁ hz₁ hs₁=>?_)
 replace hz₁:IsZip h₁ z TI TO .ellipsis:=hz₁
 refine wpAny_bind ?_
 skip
 refine wpAny_bind (wpAny_bind (wpAny_onRaise ?_))
 refine(?_:wpAny _ _ (Builtin.SmallTypes.nextOf (.ref i1)>>=_) _ _ _)
 refine wpAny_bind (nextOf_range_end (s:={s with heap:=h₁}) hh (hs₁.extBut _ _ d3 h1) hleft fun h₂ e hs₂ _ he=>?_)
 obtain⟨oe,hoe,hce⟩:=he
 have hz₂:IsZip h₂ z TI TO .ellipsis:=hs₂ _ _ d3.symm hz₁
 have hez:e≠z:=fun x=>by subst x;rw[hz₂] at hoe;obtain rfl:=sj hoe;simp at hce
 refine wpAny_setField_rec hz₂ (by exact nle rfl) fun h₃ _ hs₃=>hE h₃ e (fun c o c1 c3 x=>hs₃.extBut _ _ c1 (hs₂ _ _ c3 (hs₁.extBut _ _ c1 x))) ⟨oe,hs₃.extBut _ _ hez hoe,hce⟩
theorem pyNext_zipR {w:World}{A:Around}{E:Value→Shared→Prop}{s:Shared}{z TI TO i1 i2 l2:Addr}{n left:Int}{k2:Nat}{ys:Array Value}{y a b:Value}{Q:Option Value→Shared→Prop}(D:ZipApart z TI TO i1 i2 l2 l2)
  (hz:IsZip s.heap z TI TO .none) (hTI:IsPair s.heap TI (.ref i1) (.ref i2)) (hTO:IsPair s.heap TO a b)
  (h1:IsRangeIter s.heap i1 n left 1) (hleft:0<left) (h2:s.heap.IsListIter i2 l2 k2) (hl2:s.heap.IsList l2 ys) (hy:ys[k2]?=some y)
  (hQ:∀ h' tk t,IsZip h' z TI TO (rawInt s.heap.objs.size)→IsPair h' TO (.int n t) y→IsRangeIter h' i1 (n+1) (left - 1) 1→h'.IsListIter i2 l2 (k2+1)→IsPair h' s.heap.objs.size (.int n t) y→
   (∀ c o,c≠z→c≠TO→c≠i1→c≠i2→s.heap.get? c=some o→h'.get? c=some o)→Q (some (.ref s.heap.objs.size)) {s with heap:=h',toks:=tk}):
  wpAny (model prog w) A (pyNext (.ref z)) Q E s:=by
 have hT:s.TypeIs (.ref z) "zip":=⟨_,hz,rfl⟩
 skip
 exact wpAny_bind (wpAny_attempt (wpAny_callSpecial?_slot (name:=Str.ofString "__next__") hT F.slot_zip_next
  (wpAny_call_entry F.slot_zip_next hT F.entry_zip_next
   (zipR_item D hz hTI hTO h1 hleft h2 hl2 hy fun h' tk t a1 a2 a3 a4 a5 a7=>wpAny_pure (hQ h' tk t a1 a2 a3 a4 a5 a7)) (F.args_zip_next_1 _))))
theorem pyNext_zipR_end {w:World}{A:Around}{E:Value→Shared→Prop}{s:Shared}{z TI TO i1 i2:Addr}{n left:Int}{Q:Option Value→Shared→Prop}(hh:A.handled=none) (d3:i1≠z)
  (hz:IsZip s.heap z TI TO .none) (hTI:IsPair s.heap TI (.ref i1) (.ref i2)) (h1:IsRangeIter s.heap i1 n left 1) (hleft:left≤0)
  (hQ:∀ h',(∀ c o,c≠z→c≠i1→s.heap.get? c=some o→h'.get? c=some o)→Q none {s with heap:=h'}):wpAny (model prog w) A (pyNext (.ref z)) Q E s:=by
 have hT:s.TypeIs (.ref z) "zip":=⟨_,hz,rfl⟩
 skip
 refine wpAny_bind (wpAny_attempt (wpAny_callSpecial?_slot (name:=Str.ofString "__next__") hT F.slot_zip_next
  (wpAny_call_entry F.slot_zip_next hT F.entry_zip_next (zipR_end (a:=.none) (b:=.none) hh d3 hz hTI h1 hleft fun h' e hk he=>?_) (F.args_zip_next_1 _))))
 obtain⟨o,ho,hc⟩:=he
 refine wpAny_bind (wpAny_isInstance (T:="StopIteration") (b:=true) ⟨o,ho,hc⟩ isSubtype_stop ?_)
 exact wpAny_pure (hQ _ hk)
theorem Wf.updL {w:World}{h0:Heap}{α:List Ad}{U:List Addr}{H:List PObj}{h h':Heap}{wr:List Addr}{i:Nat}{a:Addr}{o':PObj}(W:Wf w h0 α U H h) (hw:∀ b∈wr,b∈U) (hi:α[i]?=some (a,a)) (hk:∀ c o,c≠a→c ∉ wr→h.get? c=some o→h'.get? c=some o)
  (hl:∀ b∈wr,∃ o,h'.get? b=some o) (l1:∃ o,h'.get? a=some o) (ho:OR w α U h' (a,a) o'):Wf w h0 α U (H.set i o') h'∧Step wr [] α h α h':=by
 have mi:=List.mem_of_getElem? hi
 have S:Step wr [] α h α h':=by
  refine but_step (fun c o x y e=>hk c o (x _ mi).1.symm y e) fun c o e=>?_
  by_cases h1:c=a
  ·rw[h1];exact l1
  ·by_cases h2:c∈wr
   ·exact hl c h2
   ·exact⟨o,hk c o h1 h2 e⟩
 have nw:∀ p∈α,p.1 ∉ wr∧p.2 ∉ wr:=fun p hp=>⟨fun q=>((W.lock _ (hw _ q)).1 p hp).1 rfl,fun q=>((W.lock _ (hw _ q)).1 p hp).2 rfl⟩
 refine⟨⟨by simpa using W.len,fun j q o e1 e2=>?_,fun c o e=>?_,W.fresh,W.apart,fun q hq=>?_,fun c hc=>⟨(W.lock c hc).1,(W.lock c hc).2.1,let⟨o,e⟩:=(W.lock c hc).2.2;S.alive c o e⟩⟩,S⟩
 ·by_cases hj:i=j
  ·subst hj
   rw[hi] at e1;obtain rfl:=sj e1
   have hl:i<H.length:=by have:=(List.getElem?_eq_some_iff.mp hi).1;rw[W.len] at this;exact this
   rw[List.getElem?_set_self hl] at e2
   obtain rfl:=sj e2;exact ho
  ·rw[List.getElem?_set_ne hj] at e2
   have ap:=W.apart i j _ q hi e1 hj
   have nq:=nw q (List.mem_of_getElem? e1)
   exact(W.obj j q o e1 e2).mono S hw (fun o e=>hk _ o ap.1.symm nq.1 e) fun o e=>hk _ o ap.2.1.symm nq.2 e
 ·refine hk c o (fun q=>?_) (fun q=>?_) (W.keep c o e)
  ·have:=(W.fresh _ mi).1;rw[← q,e] at this;exact nomatch this
  ·exact no2 e (W.lock c (hw c q)).2.1
 ·obtain⟨⟨o1,e1⟩,o2,e2⟩:=W.live q hq
  exact⟨S.alive _ _ e1,S.alive _ _ e2⟩
end Mine.Internal
namespace Mine.Internal
open PySem PySem.W PyProof.Rows PySem.Calls
noncomputable abbrev zrH1 (h:Heap) (n:Int):Heap:=h.push {cls:=.type "range_iterator",data:=.fields #[rawInt 0,rawInt (Builtin.Range.rangeSize 0 n 1),rawInt 1]}
noncomputable abbrev zrH3 (h:Heap) (n:Int) (i2:Addr):Heap:=(zrH1 h n).push {cls:=.type "tuple",data:=.seq #[.ref h.objs.size,.ref i2]}
noncomputable abbrev zrH4 (h:Heap) (n:Int) (i2:Addr):Heap:=(zrH3 h n i2).push {cls:=.type "tuple",data:=.seq #[.none,.none]}
noncomputable abbrev zrH5 (h:Heap) (n:Int) (i2:Addr):Heap:=(zrH4 h n i2).push {cls:=.type "zip",data:=.fields #[.none,.bool false,.bool false,.ref (zrH1 h n).objs.size,.ref (zrH3 h n i2).objs.size]}
theorem meets_zipR (r i2 l2:Addr) (n:Int) (k2:Nat) (t u v:Tok) (hs:Builtin.Range.small 0 n 1=true):
  Meets (Builtin.«zip.__new__» ⟨[.type "zip",.ref r,.ref i2],[]⟩) (fun _ R s=>IsRange s.heap r 0 n 1 t u v∧s.heap.IsListIter i2 l2 k2∧
   R (.ok (.ret (.ref (zrH4 s.heap n i2).objs.size))) {s with heap:=zrH5 s.heap n i2}):=
 .of_wp fun prog w A R s h=>by
  obtain⟨hp,g,d,tk,os⟩:=s;obtain⟨hr,hi,h⟩:=h
  have hsub:=sub_zip
  have hR:IsRange (Shared.heap ⟨hp,g,d,tk,os⟩) r 0 n 1 t u v:=hr
  have hL2:Heap.IsListIter (Shared.heap ⟨hp.push {cls:=.type "range_iterator",data:=.fields #[rawInt 0,rawInt (Builtin.Range.rangeSize 0 n 1),rawInt 1]},g,d,tk,os⟩) i2 l2 k2:=hi.at fun o e=>Heap.get?_push_of_some _ e
  wp_walk using wpAny_pyIter_range hR hs,wpAny_pyIter_listiter hL2
  exact⟨_,rfl,h⟩
theorem call_zipR {w:World}{A:Around}{E:Value→Shared→Prop}{s:Shared}{r i2 l2:Addr}{n:Int}{k2:Nat}{t u v:Tok}{Q:Value→Shared→Prop}(hr:IsRange s.heap r 0 n 1 t u v) (hs:Builtin.Range.small 0 n 1=true) (hi:s.heap.IsListIter i2 l2 k2)
  (h:∀ h',IsZip h' (s.heap.objs.size+3) (s.heap.objs.size+1) (s.heap.objs.size+2) .none→IsPair h' (s.heap.objs.size+1) (.ref s.heap.objs.size) (.ref i2)→
   IsPair h' (s.heap.objs.size+2) .none .none→IsRangeIter h' s.heap.objs.size 0 (Builtin.Range.rangeSize 0 n 1) 1→
   (∀ c o,s.heap.get? c=some o→h'.get? c=some o)→Q (.ref (s.heap.objs.size+3)) {s with heap:=h'}):
  wpAny (model prog w) A (call (.type "zip") [.ref r,.ref i2]) Q E s:=by
 refine callType_new F.called_zip (by decide) (F.typeCall_zip_2 _ _) (F.newCall_zip_2 _ _) (fun obj=>F.args_object_init_3 obj _ _) F.entry_zip_new
  (meets_zipR r i2 l2 n k2 t u v hs) ⟨hr,hi,?_⟩
 have z1:(zrH1 s.heap n).objs.size=s.heap.objs.size+1:=Heap.size_push ..
 have z3:(zrH3 s.heap n i2).objs.size=s.heap.objs.size+2:=by rw[Heap.size_push,z1]
 have z4:(zrH4 s.heap n i2).objs.size=s.heap.objs.size+3:=by rw[Heap.size_push,z3]
 have g5:(zrH5 s.heap n i2).get? (zrH4 s.heap n i2).objs.size=some _:=Heap.get?_push_size _ rfl
 have g4:(zrH5 s.heap n i2).get? (zrH3 s.heap n i2).objs.size=some _:=Heap.get?_push_of_some _ (Heap.get?_push_size _ rfl)
 have g3:(zrH5 s.heap n i2).get? (zrH1 s.heap n).objs.size=some _:=Heap.get?_push_of_some _ (Heap.get?_push_of_some _ (Heap.get?_push_size _ rfl))
 have g1:(zrH5 s.heap n i2).get? s.heap.objs.size=some _:=Heap.get?_push_of_some _ (Heap.get?_push_of_some _ (Heap.get?_push_of_some _ (Heap.get?_push_size _ rfl)))
 refine(?_:_∧_)
 rw[z1,z3,z4] at g5
 rw[z1] at g3
 rw[z3] at g4
 rw[z4]
 exact⟨⟨_,g5,rfl⟩,h _ g5 g3 g4 g1 fun c o x=>Heap.get?_push_of_some _ (Heap.get?_push_of_some _ (Heap.get?_push_of_some _ (Heap.get?_push_of_some _ x)))⟩
noncomputable def zrIt (n t m k0:Nat) (xs:List PV):It:=⟨zipT (upto n) (xs.drop k0),fun i H=>H[m]?=some (.list xs)∧H[t]?=some (.liter (.ref m) (k0+i)),fun i H=>if i<n then H.set t (.liter (.ref m) (k0+i+1)) else H⟩
noncomputable def zipRIt (n:Int) (t:Nat):PM It:=fun σ=>match σ.H[t]? with
 | some (.liter (.ref m) k0)=>(match σ.H[m]? with
  | some (.list xs)=>if 0≤n∧n<1000000∧n.toNat≤(xs.drop k0).length then some (zrIt n.toNat t m k0 xs,σ) else none
  | _=>none)
 | _=>none
theorem zipRIt_elim {n:Int}{t:Nat}{σ σ':PS}{it:It}{P:It→PS→Prop}(h:zipRIt n t σ=some (it,σ')) (k:∀ m k0 xs,σ.H[t]?=some (.liter (.ref m) k0)→σ.H[m]?=some (.list xs)→0≤n∧n<1000000∧n.toNat≤(xs.drop k0).length→P (zrIt n.toNat t m k0 xs) σ):P it σ':=by
 unfold zipRIt at h
 split at h
 ·split at h
  ·split at h
   ·refine sp2e h ?_;exact k _ _ _ ‹_› ‹_› ‹_›
   ·exact nn h
  ·exact nn h
 ·exact nn h
theorem iter_zipR {w:World}{h0:Heap}{A:Around}{α0:List Ad}{h1:Heap}{fr U:List Addr}{es:List Expr}{kk:Nat}{px:Pos}{z TI TO i1 I:Addr}{b:Ad}{t m k0 n:Nat}{xs:List PV}(hh:A.handled=none) (hU:∀ b∈[z,TI,TO,i1],b∈U) (hat:α0[t]?=some (I,I)) (ham:α0[m]?=some b) (hmt:m≠t)
  (hn:n≤(xs.drop k0).length) (d1:TI≠z) (d2:TO≠z) (d3:i1≠z) (d5:TI≠TO) (d6:TI≠i1) (d8:TO≠i1):
  Iter w h0 A α0 h1 fr U (.Tuple es kk px) z [z,TI,TO,i1] (zrIt n t m k0 xs)
   (fun i h=>IsZip h z TI TO .none∧IsPair h TI (.ref i1) (.ref I)∧(∃ a b,IsPair h TO a b)∧IsRangeIter h i1 (i:Int) ((n:Int) - (i:Int)) 1) where
 lockd:=hU
 frame:=fun i h h' ⟨hz,hTI,⟨a,b,hTO⟩,g1⟩ hk=>⟨hk z (by simp) _ hz,hk TI (by simp) _ hTI,⟨a,b,hk TO (by simp) _ hTO⟩,hk i1 (by simp) _ g1⟩
 self:=fun α H s Q E hα hc W hi hQ=>wpAny_pyIter_zip hi.1 hQ
 next:=fun i p α H s hα hx hc W hi=>hide fun G hG=>by
  obtain⟨hz,hTI,⟨a',b',hTO⟩,hr⟩:=hi
  obtain⟨_,⟨i2,q2,e2,e3,hit⟩,_⟩:=W.or_at (hα.index hat) hc.2
  cases e2
  rw[hα.index ham] at e3;obtain rfl:=sj e3
  obtain⟨hb2,vs,nn,hl,hvs⟩:=list_at W hc.1 (hα.index ham)
  obtain⟨pa,pb,g1,g2,hp⟩:=zipT_get hx
  have hin:i<n:=by have:=(List.getElem?_eq_some_iff.mp g1).1;simpa[upto] using this
  have hpa:pa=.int (i:Int):=by
   have:(upto n)[i]?=some (PV.int (i:Int)):=by simp[upto,hin]
   rw[this] at g1;exact(Option.some.inj g1).symm
  rw[List.getElem?_drop] at g2
  obtain⟨vb,e2,Vb⟩:=hvs.get g2
  have aw:∀ c∈[z,TI,TO,i1],b.1≠c∧I≠c:=fun c hcc=>⟨((W.lock c (hU c hcc)).1 _ (List.mem_of_getElem? (hα.index ham))).1,((W.lock c (hU c hcc)).1 _ (List.mem_of_getElem? (hα.index hat))).1⟩
  have az:=aw z (by simp)
  have aTI:=aw TI (by simp)
  have aTO:=aw TO (by simp)
  have ai1:=aw i1 (by simp)
  have ap:=(W.apart m t _ _ (hα.index ham) (hα.index hat) hmt).1
  have D:ZipApart z TI TO i1 I b.1 b.1:=⟨d1,d2,d3,az.2,d5,d6,aTI.2.symm,d8,aTO.2.symm,ai1.2.symm,az.1,aTO.1,ai1.1,ap,az.1,aTO.1,ai1.1,ap⟩
  refine hG (pyNext_zipR D hz hTI hTO hr (by lia) hit (IsL.isList hl) (by simpa using e2) fun h' tk tt z1 z2 z3 z4 z5 hk=>⟨_,rfl,wpAny_letOwnedTupleGo_zip z1 fun h2 y1 hs2=>?_⟩)
  have fr1:=fresh_away W (get_size_none s.heap)
  have ltz:s.heap.objs.size≠z:=fun q=>by have:=Heap.lt_size hz;rw[← q] at this;exact Nat.lt_irrefl _ this
  have gTI:IsPair h2 TI (.ref i1) (.ref I):=hs2.extBut _ _ d1 (hk _ _ d1 d5 d6 aTI.2.symm hTI)
  have gTO:IsPair h2 TO (.int i tt) vb:=hs2.extBut _ _ d2 z2
  have gi1:IsRangeIter h2 i1 ((i:Int)+1) ((n:Int) - (i:Int) - 1) 1:=hs2.extBut _ _ d3 z3
  have gi2:h2.IsListIter I b.1 (k0+i+1):=z4.extBut hs2.extBut az.2
  have X:=Wf.updL (o':=.liter (.ref m) (k0+i+1)) (wr:=[z,TI,TO,i1]) (h':=h2) W hU (hα.index hat) (fun c o hJ hc e=>by
   have hc:=out4 hc
   exact hs2.extBut c o hc.1 (hk c o hc.1 hc.2.2.1 hc.2.2.2 hJ e)) (allc ⟨_,y1⟩ (allc ⟨_,gTI⟩ (allc ⟨_,gTO⟩ (allc ⟨_,gi1⟩ alln)))) (gi2.elim fun o ho=>⟨o,ho.1⟩) ⟨rfl,⟨m,_,rfl,hα.index ham,gi2⟩,fun z=>by lia⟩
  have e1:(i:Int)+1=((i+1:Nat):Int):=by lia
  have e2:(n:Int) - (i:Int) - 1=(n:Int) - ((i+1:Nat):Int):=by lia
  rw[e1,e2] at gi1
  refine⟨by rw[hp,hpa];exact .tup ⟨_,hs2.extBut _ _ ltz z5,rfl,0,rfl⟩ fr1.2 fr1.1 (.cons (.int ..) (.cons (Vb.mono X.2 hU) .nil)),⟨y1,gTI,⟨_,_,gTO⟩,gi1⟩,?_,X.2,rfl,rfl,rfl⟩
  simp only[zrIt,hin,if_true]
  exact X.1
 done:=fun α H s U0 hα hc W hi hU0=>hide fun G hG=>by
  obtain⟨hz,hTI,⟨a',b',hTO⟩,hr⟩:=hi
  have hlen:(zrIt n t m k0 xs).xs.length=n:=by
   simp only[zrIt,zipT,List.length_zipWith,upto,List.length_map,List.length_range];lia
  rw[hlen] at hr hc hG
  refine hG (pyNext_zipR_end hh d3 hz hTI hr (by lia) fun h' hk=>?_)
  have X:=still_done (wr:=[z,TI,TO,i1]) (h':=h') W hU hU0 fun c o hc e=>by
   have hc:=out4 hc
   exact hk c o hc.1 hc.2.2.2 e
  refine⟨rfl,?_,X.2.1,X.2.2,rfl,rfl,rfl⟩
  simp only[zrIt,Nat.lt_irrefl,if_false]
  exact X.1
noncomputable def pZipRIt (fn f:PM PV):PM It:=seq fn fun p=>match p with
 | .int n=>seq f fun q=>match q with
  | .ref t=>zipRIt n t
  | _=>fail
 | _=>fail
theorem pZipRIt_elim {fn f:PM PV}{σ σ':PS}{it:It}{P:Prop}(h:pZipRIt fn f σ=some (it,σ')) (k:∀ n σ1 t σ2,fn σ=some (.int n,σ1)→f σ1=some (.ref t,σ2)→zipRIt n t σ2=some (it,σ')→P):P:=by
 refine seq_elim h fun p σ1 q1 h=>?_
 split at h
 ·refine seq_elim h fun q σ2 q2 h=>?_
  split at h
  ·exact k _ _ _ _ q1 q2 h
  ·exact nn h
 ·exact nn h
section
variable {k:Nat}{sc:Scope}{ns:List Str}
theorem zipR_post {w:World}{h0:Heap}{mg mb:Str→Option Value}{A:Around}{env:Env}{α α4:List Ad}{U:List Addr}{s s4:Shared}{σ:PS}{es:List Expr}{kk:Nat}{tp:Pos}{I:Addr}{L:Ad}{n:Int}{t m k0:Nat}{xs:List PV}{h':Heap}(C:Cx w h0 mg mb (k+1) A sc env U) (S4:St w h0 ns env α4 U σ s4.heap) (T:Step (ownOf env) (frs A) α s.heap α4 s4.heap) (R:Rest s s4)
  (hI:α4[t]?=some (I,I)) (hL:α4[m]?=some L) (hmt:m≠t) (hn:0≤n∧n<1000000∧n.toNat≤(xs.drop k0).length) (z1:IsZip h' (s4.heap.objs.size+3) (s4.heap.objs.size+1) (s4.heap.objs.size+2) .none) (z2:IsPair h' (s4.heap.objs.size+1) (.ref s4.heap.objs.size) (.ref I))
  (z3:IsPair h' (s4.heap.objs.size+2) .none .none) (z4:IsRangeIter h' s4.heap.objs.size 0 (Builtin.Range.rangeSize 0 n 1) 1) (hk:∀ c o,s4.heap.get? c=some o→h'.get? c=some o):
  ItPost w h0 ns A env α U s (.Tuple es kk tp) (zrIt n.toNat t m k0 xs) σ (.ref (s4.heap.objs.size+3)) {s4 with heap:=h'}:=by
 have hsz:Builtin.Range.rangeSize 0 n 1=(n.toNat:Int):=by rw[rangeSize_one];split<;>lia
 have ne:∀ j,s4.heap.get? (s4.heap.objs.size+j)=none:=fun j=>Heap.get?_none_of_le (Nat.le_add_right _ _)
 have nz:∀ i j:Nat,i≠j→s4.heap.objs.size+i≠s4.heap.objs.size+j:=fun i j h q=>h (Nat.add_left_cancel q)
 refine iter_new (s1:=s4) (wr:=[s4.heap.objs.size+3,s4.heap.objs.size+1,s4.heap.objs.size+2,s4.heap.objs.size])
  (T:=fun i h=>IsZip h (s4.heap.objs.size+3) (s4.heap.objs.size+1) (s4.heap.objs.size+2) .none∧IsPair h (s4.heap.objs.size+1) (.ref s4.heap.objs.size) (.ref I)∧(∃ a b,IsPair h (s4.heap.objs.size+2) a b)∧IsRangeIter h s4.heap.objs.size (i:Int) ((n.toNat:Int) - (i:Int)) 1)
  C S4 T R hk ⟨rfl,rfl,rfl⟩ (fun b hb=>?_) (fun b hb=>?_) ⟨z1,z2,⟨_,_,z3⟩,?_⟩ fun U' h1 h2 h3 h4=>?_
 ·exact allc (P:=fun c=>s4.heap.get? c=none) (ne 3) (allc (ne 1) (allc (ne 2) (allc (ne 0) alln))) _ hb
 ·exact(allc (P:=fun c=>∃ o,h'.get? c=some o) ⟨_,z1⟩ (allc ⟨_,z2⟩ (allc ⟨_,z3⟩ (allc ⟨_,z4⟩ alln)))) _ hb
 ·rw[hsz] at z4;exact z4
 ·exact iter_zipR (C.a.handled (Nat.succ_pos _)) (fun b hb=>h1 b (List.mem_append_left _ hb)) hI hL hmt hn.2.2 (nz 1 3 (by decide)) (nz 2 3 (by decide)) (nz 0 3 (by decide)) (nz 1 2 (by decide)) (nz 1 0 (by decide)) (nz 2 0 (by decide))
theorem SIt_zipR {es:List Expr}{kk:Nat}{tp:Pos}{e e2:Expr}{x y:Str}{px py rpos cpos:Pos}{fn f:PM PV}(hz:SE (k+1) sc ns (.Name x px) (pConst (.const (.type "zip")))) (hr2:SE (k+1) sc ns (.Name y py) (pConst (.const (.type "range")))) (h1:SE (k+1) sc ns e fn) (h2:SE (k+1) sc ns e2 f)
  (hst:∀ env,starEach [e] env=(false,eval e env)::starEach [] env) (hst2:∀ env,starEach [.Call (.Name y py) [e] [] rpos,e2] env=[(false,eval (.Call (.Name y py) [e] [] rpos) env),(false,eval e2 env)]):
  SIter (k+1) sc ns (.Call (.Name x px) [.Call (.Name y py) [e] [] rpos,e2] [] cpos) (.Tuple es kk tp) (pZipRIt fn f):=by
 refine SIter.of fun {w h0 mg mb A env α U s σ it σ'} C S hf0 Q₀ hQ=>pZipRIt_elim hf0 fun n σ1 t σ2 q1 q2 hf=>?_
 refine zipRIt_elim (P:=fun it σ'=>(∀ r s2,ItPost w h0 ns A env α U s (.Tuple es kk tp) it σ' r s2→Q₀ r s2)→wpAny (model prog w) A (eval (.Call (.Name x px) [.Call (.Name y py) [e] [] rpos,e2] [] cpos) env) (fun v s1=>wpAny (model prog w) A (pyIter v) Q₀ bot s1) bot s) hf (fun m k0 xs hH1 hH2 hn hQ=>?_) hQ
 refine wpAny_Call_NameR (hz.run C S rfl fun v s1 α1 V1 S1 T1 R1=>VR.const_elim V1 ?_)
 refine PyProof.Rows.callWith_type (starPlain (by rw[hst2];rfl)) ?_
 rw[hst2]
 refine evalArgs_plain ?_
 refine spliced_cons (wpAny_Call_NameR (hr2.run C S1 rfl fun v s2 α2 V2 S2 T2 R2=>VR.const_elim V2 ?_))
 refine callWith_type1 ?_ (hst env)
 refine(?_:wpAny _ _ (spliced (backTo rpos (starEach [e] env))) _ _ _)
 rw[hst env]
 refine spliced_cons (h1.run C S2 q1 fun v s3 α3 V3 S3 T3 R3=>spliced_nil (VR.int_elim V3 fun tt=>call_range_1 ?_))
 have hr:=IsRange.new s3.heap 0 n 1 s3.toks tt (s3.toks+1)
 generalize hrs:s3.heap.objs.size=r at hr ⊢
 have hkr:∀ a o,s3.heap.get? a=some o→(s3.heap.push {cls:=.type "range",data:=.fields #[.int 0 s3.toks,.int n tt,.int 1 (s3.toks+1)]}).get? a=some o:=fun a o e=>Heap.get?_push_of_some _ e
 generalize s3.heap.push {cls:=.type "range",data:=.fields #[.int 0 s3.toks,.int n tt,.int 1 (s3.toks+1)]}=h3 at hr hkr ⊢
 have Y:=St.keeps (A:=A) S3 hkr
 have rfr:=fresh_away S3.wf (hrs▸get_size_none s3.heap)
 refine spliced_cons (h2.run (s:={s3 with heap:=h3,toks:=s3.toks+1+1}) C Y.1 q2 fun v s4 α4 V4 S4 T4 R4=>spliced_nil ?_)
 refine(?_:wpAny _ _ (call (.type "zip") [.ref r,v] []) _ _ _)
 refine VR.liter_elim V4 S4.wf hH1 fun I L hI hL hit _=>?_
 exact call_zipR (T4.only r _ hr rfr.1 (fun q=>rfr.2 (C.own r q)) fun q=>rfr.2 (C.a.frs r q)) (small_one (by decide) (by decide) (by lia) (by exact Int.lt_of_lt_of_le hn.2.1 (by decide))) hit fun h' z1 z2 z3 z4 hk=>
  wpAny_pyIter_zip z1 (hQ _ _ (zipR_post C S4 (((T1.trans T2).trans T3).trans (Y.2.trans T4)) (((R1.trans R2).trans R3).trans R4) hI hL (fun q=>by subst q;rw[hH1] at hH2;cases hH2) hn z1 z2 z3 z4 hk))
end
end Mine.Internal
namespace Mine.Internal
open PySem PySem.W PyProof.Rows PySem.Calls
noncomputable def listInts (H:List PObj) (p:PV):Option (List Int):=match p with
 | .ref i=>(match H[i]? with
  | some (.list xs)=>intsOf xs
  | _=>none)
 | _=>none
noncomputable def eqRow (H:List PObj) (es2:List (Int × PV)) (e:Int × PV):Bool:=match listInts H e.2,(dget es2 e.1).bind (listInts H) with
 | some m,some n=>decide (m=n)
 | _,_=>false
noncomputable def eqDict (H:List PObj) (a b:PV):Bool:=match a,b with
 | .ref i,.ref j=>(match H[i]?,H[j]? with
  | some (.dict es1 _),some (.dict es2 _)=>decide (es1.length=es2.length) && es1.all (eqRow H es2)
  | _,_=>false)
 | _,_=>false
noncomputable def pEqD (f g:PM PV):PM PV:=seq f fun a=>seq g fun b=>fun σ=>if eqDict σ.H a b then some (.bool true,σ) else none
section
variable {k:Nat}{sc:Scope}{ns:List Str}
set_option smartUnfolding false in
theorem listInts_ok {w:World}{h0:Heap}{α:List Ad}{U:List Addr}{h:Heap}{H:List PObj}{v:Value}{p:PV}{m:List Int}(W:Wf w h0 α U H h) (V:VR α U h v p) (e:listInts H p=some m):∃ a vs,v=.ref a∧h.IsList a (List.toArray vs)∧IntsAre vs m:=by
 refine V.any (P:=fun v p=>listInts H p=some m→VR α U h v p→∃ a vs,v=.ref a∧h.IsList a (List.toArray vs)∧IntsAre vs m) (fun e _=>no_some e) (fun _ e _=>no_some e) (fun _ _ e _=>no_some e) (fun a b i _ e V=>?_) (fun _ _ _ _ _ _ _ e _=>no_some e) (fun _ e _=>no_some e) e V
 refine on_list (H:=H) (i:=i) (f:=intsOf) e fun xs hH e=>?_
 exact V.list_elim (P:=fun v=>∃ a vs,v=.ref a∧h.IsList a (List.toArray vs)∧IntsAre vs m) W hH fun a vs n _ hl hvs=>⟨a,vs,rfl,IsL.isList hl,intsOf_ok hvs e⟩
theorem hits_ok {w:World}{h0:Heap}{A:Around}{α:List Ad}{U:List Addr}{s:Shared}{H:List PObj}{kb:List (Int × Value)}{es2:List (Int × PV)}(W:Wf w h0 α U H s.heap) (hb:KVs α U s.heap kb es2) (hu:A.in1.units+64<cLine):
  ∀ {ka:List (Int × Value)}{es1:List (Int × PV)},KVs α U s.heap ka es1→es1.all (eqRow H es2)=true→KeqHits A.in1 s kb ka true
 | [],es1,x,_=>.nil
 | a::ka,es1,x,e=>by
  obtain⟨q,es',rfl,V,y⟩:=x.uncons
  simp only[List.all_cons,Bool.and_eq_true] at e
  obtain⟨e1,e2⟩:=e
  unfold eqRow at e1
  split at e1
  ·rename_i m n q1 q2
   obtain⟨p2,q3,q4⟩:=Option.bind_eq_some_iff.mp q2
   obtain⟨v2,g1,V2⟩:=hb.get q3
   obtain⟨a1,vs1,r1,l1,i1⟩:=listInts_ok W V q1
   obtain⟨a2,vs2,r2,l2,i2⟩:=listInts_ok W V2 q4
   obtain⟨k1,v1⟩:=a
   simp only at r1 g1
   subst r1 r2
   have:=keq_ints (A:=A) l1 i1 l2 i2 hu
   rw[e1] at this
   exact KeqHits.hit (e:=true) (b:=true) g1 this (hits_ok W hb hu y e2)
  ·exact ff e1
theorem no_true {G:Prop}(h:false=true):G:=nomatch h
theorem on_dict2 {H:List PObj}{i j:Nat}{f:List (Int × PV)→List (Int × PV)→Bool}{G:Prop}(e:(match H[i]?,H[j]? with | some (.dict es1 _),some (.dict es2 _)=>f es1 es2 | _,_=>false)=true) (k:∀ es1 ep1 es2 ep2,H[i]?=some (.dict es1 ep1)→H[j]?=some (.dict es2 ep2)→f es1 es2=true→G):G:=by
 split at e
 ·exact k _ _ _ _ ‹_› ‹_› e
 ·exact no_true e
set_option smartUnfolding false in
theorem eqD_ok {w:World}{h0:Heap}{A:Around}{α:List Ad}{U:List Addr}{s:Shared}{H:List PObj}{v u:Value}{a b:PV}{Q:Value→Shared→Prop}{E:Value→Shared→Prop}(W:Wf w h0 α U H s.heap) (ha:AOK k A U) (V1:VR α U s.heap v a) (V2:VR α U s.heap u b) (he:eqDict H a b=true) (h:∀ tk,Q (.bool true) {s with toks:=tk}):wpAny (model prog w) A (compareOp .Eq v u) Q E s:=by
 refine V1.any (P:=fun v a=>eqDict H a b=true→VR α U s.heap v a→wpAny (model prog w) A (compareOp .Eq v u) Q E s) (fun e _=>no_true e) (fun _ e _=>no_true e) (fun _ _ e _=>no_true e) (fun a1 _ i _ e V1=>?_) (fun _ _ _ _ _ _ _ e _=>no_true e) (fun _ e _=>no_true e) he V1
 refine V2.any (P:=fun u b=>eqDict H (.ref i) b=true→VR α U s.heap u b→wpAny (model prog w) A (compareOp .Eq (.ref a1) u) Q E s) (fun e _=>no_true e) (fun _ e _=>no_true e) (fun _ _ e _=>no_true e) (fun a2 _ j _ e V2=>?_) (fun _ _ _ _ _ _ _ e _=>no_true e) (fun _ e _=>no_true e) e V2
 refine on_dict2 (H:=H) (i:=i) (j:=j) (f:=fun es1 es2=>decide (es1.length=es2.length) && es1.all (eqRow H es2)) e fun es1 ep1 es2 ep2 H1 H2 he=>?_
 refine V1.dict_elim W H1 fun a1 kvs hi hd hkv=>V2.dict_elim W H2 fun a2 kvs2 hj hd2 hkv2=>?_
 have he:=(Bool.and_eq_true _ _).mp he
 have e0:=of_decide_eq_true he.1
 have e1:=KVs.length hkv
 have e2:=KVs.length hkv2
 have hu:=ha.units
 have hc:cLine=9900:=rfl
 refine keq_eq (r:=true) (not_mods W hi) (not_mods W hj) hd.dictOf hd2.dictOf ha.room (fun _=>hits_ok W hkv2 (by show A.units+1+64<cLine;lia) hkv he.2) ?_
 rw[show(kvs.length==kvs2.length && true)=true from by simp;exact Eq.trans (Eq.trans e1 e0) (Eq.symm e2)]
 exact h _
theorem SE_eqD {l r:Expr}{f g:PM PV}{pos:Pos}(hl:SE k sc ns l f) (hr:SE k sc ns r g) (hm:behindInMarks .Eq r=false):SE k sc ns (.Compare l [.Eq] [r] pos) (pEqD f g):=by
 refine Jd.of fun {w h0 mg mb A env α U s σ p σ'} C S hf Q₀ hQ=>?_
 refine seq_elim hf fun a σ1 h1 hf=>?_
 refine seq_elim hf fun b σ2 h2 hf=>?_
 refine if_to (P:=PostQ VR ns w h0 A env α U s Q₀) hf hQ fun he hQ=>?_
 refine wpAny_Compare1 (hl.run C S h1 fun v s1 α1 V1 S1 T1 R1=>hr.run C S1 h2 fun v2 s2 α2 V2 S2 T2 R2=>?_) hm
 exact eqD_ok S2.wf C.a (C.vmono V1 T2) V2 he fun tk=>hQ _ _ α2 (.bool true) S2 (T1.trans T2) (R1.trans R2)
end
end Mine.Internal
namespace Mine.Internal
open PySem PySem.W PyProof.Rows PySem.Calls
section
variable {k:Nat}{sc:Scope}{ns:List Str}
noncomputable def isG (c:Addr) (a b:PV):PM Bool:=fun σ=>match a,b with
 | .ref i,.const (.ref d)=>(match σ.H[i]? with
  | some (.list _)=>if d=c then some (false,σ) else none
  | _=>none)
 | _,_=>none
noncomputable def pIsG (c:Addr) (f g:PM PV):PM Bool:=seq f fun a=>seq g fun b=>isG c a b
@[elab_as_elim] theorem isG_elim {c:Addr}{a b:PV}{p:Bool}{σ σ':PS}{P:PV→PV→Bool→PS→Prop}(hf:isG c a b σ=some (p,σ')) (k:∀ i xs,σ.H[i]?=some (.list xs)→P (.ref i) (.const (.ref c)) false σ):P a b p σ':=by
 unfold isG at hf
 split at hf
 ·split at hf
  ·rename_i hH
   split at hf
   ·rename_i hd
    refine sp2e (c:=p) (d:=σ') hf ?_
    exact hd▸k _ _ hH
   ·exact nn hf
  ·exact nn hf
 ·exact nn hf
theorem ST_isG {c:Addr}{l r:Expr}{f g:PM PV}{pos:Pos}(hl:SE k sc ns l f) (hr:SE k sc ns r g) (hc:∀ w:World,((hd.heap_39 w.params).lookup c).isSome=true) (hm:behindInMarks .Is r=false):STest k sc ns (.Compare l [.Is] [r] pos) (pIsG c f g):=by
 refine Jd.of fun {w h0 mg mb A env α U s σ p σ'} C S hf Q₀ hQ=>?_
 refine seq_elim hf fun a σ1 h1 hf1=>?_
 clear hf
 refine seq_elim hf1 fun b σ2 h2 hf=>?_
 clear hf1
 refine wpAny_isTrue_Compare1 (hl.run C S h1 fun v s1 α1 V1 S1 T1 R1=>hr.run C S1 h2 fun v2 s2 α2 V2 S2 T2 R2=>?_) hm
 have V1:=C.vmono V1 T2
 clear h1 h2
 revert V1 V2 hQ
 refine isG_elim hf fun i xs hH hQ V2 V1=>?_
 refine VR.const_elim V2 (VR.list_elim V1 S2.wf hH fun b' vs n hi hl' hvs=>?_)
 refine(Option.isSome_iff_exists.mp (hc w)).elim fun o ho=>?_
 have hK:=C.base.K _ _ ho
 exact wpAny_is_ref_other (fun q=>no2 hK (q▸(S2.wf.fresh _ (List.mem_of_getElem? hi)).1)) hl' (S2.wf.keep _ _ hK) (by simp) (wpAny_truthy_bool (hQ _ _ α2 rfl S2 (T1.trans T2) (R1.trans R2)))
noncomputable def sSwap (i j:Nat) (f:PM PV):PM PFlow:=seq f fun p=>match p with
 | .tup [a,b]=>seq (setV j b) fun _=>seq (setV i a) fun _=>ret .next
 | _=>fail
@[elab_as_elim] theorem swap_elim {i j:Nat}{q:PV}{p:PFlow}{σ σ':PS}{P:PV→PFlow→PS→Prop}(hf:(match q with
  | .tup [a,b]=>seq (setV j b) fun _=>seq (setV i a) fun _=>ret PFlow.next
  | _=>(fail:PM PFlow)) σ=some (p,σ')) (k:∀ a b,P (.tup [a,b]) .next ⟨σ.H,(σ.V.set j (some b)).set i (some a)⟩):P q p σ':=by
 split at hf
 ·refine sp2e (c:=p) (d:=σ') hf ?_
  exact k _ _
 ·exact nn hf
theorem SS_swap (i j:Nat) {x y:Str}{px py tpos pos:Pos}{kk:Nat}{value:Expr}{f:PM PV}(h:SE (k+1) sc ns value f) (hx:ns[i]?=some x) (hy:ns[j]?=some y) (hn:ns.Nodup) (hkx:(sc.names.lookup x==some .local || sc.names.lookup x==some .cell)=true) (hky:(sc.names.lookup y==some .local || sc.names.lookup y==some .cell)=true)
  (hs:∀ env:Env,env.scope=sc→swapsWithSole [.Tuple [.Name x px,.Name y py] kk tpos] value pos.line env=pure false∧swappedStores [.Tuple [.Name x px,.Name y py] kk tpos] value env=pure (some [x,y])):
  SS (k+1) sc ns (.Assign [.Tuple [.Name x px,.Name y py] kk tpos] value pos) (sSwap i j f):=by
 refine Jd.of fun {w h0 mg mb A env α U s σ p σ'} C S hf Q₀ hQ=>?_
 refine seq_elim hf fun q σ1 e1 hf=>?_
 refine Assign_Tuple_swapped (h.run C S e1 fun v s1 α1 V1 S1 T1 R1=>?_) (hs env C.e.scope).1 (hs env C.e.scope).2
 clear e1
 revert V1 hQ
 refine swap_elim hf fun a b hQ V1=>?_
 refine VR.tup_elim V1 fun t vs ht _ _ hvs=>?_
 revert ht
 refine vrs2_elim hvs fun va vb Va Vb ht=>?_
 refine unpackItems_tuple (items:=[va,vb].toArray) (C.a.handled (Nat.succ_pos _)) ht fun h' he=>?_
 have X:=St.keeps (A:=A) S1 (h':=h') fun a o e=>he a o (Nat.ne_of_lt (Heap.lt_size e)) e
 refine(?_:wpAny _ _ (assignInOrder [fun v=>bindName env y v,fun v=>bindName env x v] [vb,va]) _ _ _)
 refine wpAny_assignInOrder_more (wpAny_bindName (store_name C (s:={s1 with heap:=h'}) X.1 hy hn hky (C.vmono Vb X.2) fun h3 tk S3 T3=>?_))
 refine wpAny_assignInOrder_more (wpAny_bindName (store_name C (s:={s1 with heap:=h3,toks:=tk}) S3 hx hn hkx (C.vmono (C.vmono Va X.2) T3) fun h4 tk4 S4 T4=>wpAny_pure ?_))
 exact(hQ _ _ α1 .next S4 (((T1.trans X.2).trans T3).trans T4) R1)
theorem SS_tryElse {body orelse:List Stmt}{h₀:ExceptHandler}{hs:List ExceptHandler}{pos:Pos}{f g:PM PFlow}(hb:SB k sc ns body f) (ho:SB k sc ns orelse g):SS k sc ns (.Try body (h₀::hs) orelse [] pos) (bCons f g):=by
 refine Jd.of fun {w h0 mg mb A env α U s σ p σ'} C S hf Q₀ hQ=>?_
 refine seq_elim hf fun x σ1 e1 hf=>?_
 refine wpAny_Try_except (hb.run C S e1 fun v s1 α1 V1 S1 T1 R1=>?_)
 cases V1 with
 | next=>exact ho.run C S1 hf fun v s2 α2 V2 S2 T2 R2=>(hQ _ _ α2 V2 S2 (T1.trans T2) (R1.trans R2))
 | brk=>revert hQ;refine sp2e (c:=p) (d:=σ') hf fun hQ=>?_;exact(hQ _ _ α1 .brk S1 T1 R1)
 | cont=>revert hQ;refine sp2e (c:=p) (d:=σ') hf fun hQ=>?_;exact(hQ _ _ α1 .cont S1 T1 R1)
 | ret V=>revert hQ;refine sp2e (c:=p) (d:=σ') hf fun hQ=>?_;exact(hQ _ _ α1 (.ret V) S1 T1 R1)
theorem SE_neg {i:Int}{kd:Nat}{p1 pos:Pos}:SE k sc ns (.UnaryOp .USub (.Constant (.int i) kd p1) pos) (pConst (.int (-i))):=by
 refine Jd.of fun {w h0 mg mb A env α U s σ p σ'} C S hf Q₀ hQ=>?_
 revert hQ;refine sp2e (c:=p) (d:=σ') hf fun hQ=>?_
 exact wpAny_UnaryOp (wpAny_Constant_int (PyProof.Rows.neg_int (qhere hQ S (.int ..))))
end
end Mine.Internal
namespace Mine.Internal
open PySem PySem.W PyProof.Rows PySem.Calls
noncomputable def valsInts:List Value→Option (List Int)
 | []=>some []
 | .int i _::vs=>(valsInts vs).map (i::·)
 | _::_=>none
theorem valsInts_ok {α U h}:∀ {vs:List Value}{ns:List Int},valsInts vs=some ns→VRs α U h vs (ns.map .int)
 | [],_,e=>by obtain rfl:=sj e;exact .nil
 | v::vs,ns,e=>by
  cases v with
  | int i t=>
   skip
   obtain⟨ms,e1,e2⟩:=Option.map_eq_some_iff.mp e
   subst e2
   exact .cons (.int i t) (valsInts_ok e1)
  | _=>exact nn e
theorem valsInts_of:∀ {vs:List Value}{ns:List Int},IntsAre vs ns→valsInts vs=some ns
 | _,_,.nil=>rfl
 | _,_,.cons i t h=>by simp[valsInts,valsInts_of h]
noncomputable def rawInts (o:Obj):Option (List Int):=match o.data with
 | .seq vs _=>if o.cls==.type "list" then(if vs.size≤1000000 then valsInts vs.toList else none) else none
 | _=>none
theorem rawInts_ok {o:Obj}{ns:List Int}(h:rawInts o=some ns):∃ vs n,o.cls=.type "list"∧o.data=.seq (List.toArray vs) n∧valsInts vs=some ns∧vs.length≤1000000:=by
 unfold rawInts at h
 split at h
 ·rename_i vs n e
  split at h
  ·rename_i hc
   split at h
   ·rename_i hz
    exact⟨vs.toList,n,eq_of_beq hc,by exact e,h,by exact hz⟩
   ·exact nn h
  ·exact nn h
 ·exact nn h
noncomputable def sliceRaw (a:PV) (lo hi st:Option Int):PM PV:=fun σ=>match a with
 | .ref i=>(match σ.H[i]? with
  | some (.raw o)=>(match rawInts o with
   | some ns=>if st≠some 0 then some (.ref σ.H.length,⟨σ.H++[.list (pickL (ns.map .int) lo hi st)],σ.V⟩) else none
   | none=>none)
  | _=>none)
 | _=>none
noncomputable def pSliceRaw (f fl fu fs:PM PV):PM PV:=seq f fun a=>seq fl fun l=>seq fu fun u=>seq fs fun t=>match partsOf l u t with
 | some r=>sliceRaw a r.1 r.2.1 r.2.2
 | none=>fail
section
variable {k:Nat}{sc:Scope}{ns:List Str}
@[elab_as_elim] theorem sliceRaw_elim {a p:PV}{lo hi st:Option Int}{σ σ':PS}{P:PV→PV→PS→Prop}(e:sliceRaw a lo hi st σ=some (p,σ'))
  (k:∀ i o ms,σ.H[i]?=some (.raw o)→rawInts o=some ms→st≠some 0→P (.ref i) (.ref σ.H.length) ⟨σ.H++[.list (pickL (ms.map .int) lo hi st)],σ.V⟩):P a p σ':=by
 unfold sliceRaw at e
 split at e
 ·split at e
  ·rename_i hH
   split at e
   ·rename_i hr
    split at e
    ·rename_i hst
     refine sp2e (c:=p) (d:=σ') e ?_
     exact k _ _ _ hH hr hst
    ·exact nn e
   ·exact nn e
  ·exact nn e
 ·exact nn e
theorem sliceRaw_ok {w:World}{h0:Heap}{mg mb:Str→Option Value}{A:Around}{env:Env}{α:List Ad}{U:List Addr}{s:Shared}{σ σ':PS}{v vl vu vs:Value}{a p:PV}{lo hi st:Option Int}{Q:Value→Shared→Prop}{E:Value→Shared→Prop}(C:Cx w h0 mg mb k A sc env U) (S:St w h0 ns env α U σ s.heap) (V:VR α U s.heap v a)
  (pl:IsPart vl lo) (pu:IsPart vu hi) (ps:IsPart vs st) (e:sliceRaw a lo hi st σ=some (p,σ'))
  (hQ:∀ v' h' α',VR α' U h' v' p→St w h0 ns env α' U σ' h'→Step (ownOf env) (frs A) α s.heap α' h'→Q v' {s with heap:=h'}):
  ({s with heap:=s.heap.push {cls:=.type "slice",data:=.fields #[vl,vu,vs]}}:Shared).TypeIs v "list"∧wpAny (model prog w) A (getItem v (.ref s.heap.objs.size)) Q E {s with heap:=s.heap.push {cls:=.type "slice",data:=.fields #[vl,vu,vs]}}:=by
 revert V hQ
 refine sliceRaw_elim e fun i o ms hH hr hst V hQ=>?_
 refine VR.ref_elim V fun a' b hii=>?_
 have hg:=(S.wf.or_at hii hH).2
 refine gv fun _ gk=>?_
 obtain⟨ws,n,hc,hd,hv,hlen⟩:=rawInts_ok hr
 have hl:s.heap.IsList a' ws.toArray:=⟨o,hg,hc,n,hd⟩
 have X:=St.keeps (A:=A) S (h':=s.heap.push {cls:=.type "slice",data:=.fields #[vl,vu,vs]}) fun a o q=>Heap.get?_push_of_some _ q
 obtain⟨W',T',V'⟩:=new_list C.base X.1.wf ((valsInts_ok (α:=α) (U:=U) (h:=s.heap.push {cls:=.type "slice",data:=.fields #[vl,vu,vs]}) hv).pick lo hi st)
 refine gk ?_
 refine⟨Heap.IsList.typeIs (s:={s with heap:=s.heap.push {cls:=.type "slice",data:=.fields #[vl,vu,vs]}}) (hl.push _),wpAny_getItem_list_slice (hl.push _) (Heap.IsSliceOf.new ..) pl pu ps hst ?_ (by skip;exact Nat.le_trans hlen (show 1000000≤sizeLine by decide))⟩
 rw[Array.toArray_toList] at W' T' V'
 have Y:=St.ofWf C X.1 W' T'
 exact hQ _ _ _ V' Y.1 (X.2.trans Y.2)
theorem SE_sliceRaw {value:Expr}{lo up:Option Expr}{f fl fu:PM PV}{p pos:Pos}(hv:SE k sc ns value f) (hl:SPart k sc ns lo fl) (hu:SPart k sc ns up fu) (ht:∀ o r,letTemporaryGo value o r=pure ()):SE k sc ns (.Subscript value (.Slice lo up none p) pos) (pSliceRaw f fl fu (pConst .none)):=by
 intro w h0 mg mb A env α U s σ q σ' C S hf
 refine seq_elim hf fun a σ1 e1 hf=>?_
 refine seq_elim hf fun b σ2 e2 hf=>?_
 refine seq_elim hf fun c σ3 e3 hf=>?_
 refine seq_elim hf fun d σ4 e4 hf=>?_
 refine gv fun _ gk=>?_
 obtain⟨rfl,rfl⟩:=sp2 e4
 refine gk ?_
 cases hp:partsOf b c .none with
 | none=>rw[hp] at hf;cases hf
 | some r=>
  rw[hp] at hf
  refine gv fun _ gk=>?_
  obtain⟨p1,p2,p3⟩:=partsOf_some hp
  refine gk ?_
  refine wpAny_Subscript_Slice (T:="list") list_getitem_lookup (hv.run C S e1 fun v1 s1 α1 V1 S1 T1 R1=>wpAny_Slice (hl.run C S1 e2 fun v2 s2 α2 V2 S2 T2 R2=>hu.run C S2 e3 fun v3 s3 α3 V3 S3 T3 R3=>?_)) ht
  skip
  exact wpAny_pure (sliceRaw_ok C S3 (C.vmono V1 (T2.trans T3)) (part_ok (C.vmono V2 T3) p1) (part_ok V3 p2) (by have:none=r.2.2:=Option.some.inj p3;rw[← this];exact .none) hf fun v' h' α' V' S' T'=>⟨α',V',S',((T1.trans T2).trans T3).trans T',(R1.trans R2).trans R3⟩)
end
end Mine.Internal
namespace Mine.Internal
open PySem PySem.W PyProof.Rows PySem.Calls
noncomputable def lack (h:Heap) (l:Addr):Heap:=h.update l fun o=>{o with data:=.freed}
theorem lack_at (h:Heap) (l:Addr):(lack h l).get? l=none:=by
 cases e:(lack h l).get? l with
 | none=>rfl
 | some o=>
  obtain⟨e1,e2⟩:=(Heap.get?_eq_some _ _ _).mp e
  unfold lack at e1
  rw[Heap.objs_update_self] at e1
  cases q:h.objs[l]? with
  | none=>rw[q] at e1;exact nn e1
  | some x=>rw[q] at e1;cases e1;cases e2
theorem lack_ne {h:Heap}{l a:Addr}(hn:a≠l):(lack h l).get? a=h.get? a:=Heap.get?_update_ne _ _ _ _ hn
theorem ns_lack {h:Heap}{l a:Addr}{m:Str→Option Value}{items:Array Value}(hl:h.IsList l items) (x:h.Ns a m):(lack h l).Ns a m:=by
 obtain⟨o,es,ep,ho,hd,r⟩:=x
 refine⟨o,es,ep,?_,hd,r⟩
 rw[lack_ne];exact ho
 intro q;subst q
 obtain⟨o2,h2,_,n,d2⟩:=hl
 rw[ho] at h2;obtain rfl:=sj h2
 rw[hd] at d2;cases d2
noncomputable def noList (K:Frag):Bool:=K.all fun x=>match x.2.cls with
 | .type "list"=>false
 | _=>true
theorem noList_ok {K:Frag}{a:Addr}{o:Obj}(hk:noList K=true) (e:K.lookup a=some o):o.cls≠.type "list":=fun q=>by
 have:=List.all_eq_true.mp hk (a,o) (mem_of_lookup'' e)
 simp only[q] at this
 exact absurd this (by decide)
where
 mem_of_lookup'':∀ {l:Frag}{x:Addr}{c:Obj},l.lookup x=some c→(x,c)∈l
  | [],_,_,h=>by exact nomatch h
  | (y,d)::l,x,c,h=>by
   rw[List.lookup_cons] at h
   by_cases e:(x==y)=true
   ·rw[e] at h;obtain rfl:=sj h;rw[eq_of_beq e];exact .head _
   ·simp only[e] at h;exact .tail _ (mem_of_lookup'' h)
theorem k_noList (p:PySem.Params):noList (hd.heap_39 p)=true:=by kernel_rfl
theorem ints_len {vs:List Value}{ns:List Int}(h:IntsAre vs ns):vs.length=ns.length:=by
 induction h with
 | nil=>rfl
 | cons _ _ _ ih=>exact congrArg (·+1) ih
theorem post_ok (args:List WData):PySem.Challenge.rw_nq0270_01.row.claim.post args (.bool true) args=true:=by
 wrow_post
theorem reads_head {h:Heap}{l:Addr}{xs:List PyData}{rs:List Addr}(r:Reads h (.ref l) (.list xs) rs):l∈rs:=by cases r;exact .head _
section
variable {w:World}{h:Heap}{mg mb:Str→Option Value}{l:Addr}{ol:Obj}{vs:List Value}{n:Bool}{lo}{me}
theorem list_not {a:Addr}{m:Str→Option Value}(hL:h.IsList l vs.toArray) (x:h.Ns a m):l≠a:=fun q=>by
 obtain⟨o,es,ep,ho,hd,r⟩:=x
 obtain⟨o2,h2,_,n,d2⟩:=hL
 rw[q,ho] at h2
 rw[← sj h2,hd] at d2
 exact nomatch d2
theorem base_of (K:(hd.heap_39 w.params).In h) (T:Top hd.view_39 lo me mg mb h) (hL:h.IsList l vs.toArray) (hol:h.get? l=some ol) (hcl:ol.cls=.type "list"):Base w (lack h l) mg mb:=by
 refine⟨fun a o e=>?_,ns_lack hL T.g,ns_lack hL T.b,T.builtins,T.nolimit.elim fun mc q=>⟨mc,ns_lack hL q.1,q.2⟩⟩
 have:=K a o e
 rw[lack_ne];exact this
 intro q
 rw[q,hol] at this
 exact noList_ok (k_noList _) e (sj this▸hcl)
theorem one_pair {i:Nat}{x y:Ad}(e:[y][i]?=some x):i=0∧y=x:=by
 cases i with
 | zero=>exact⟨rfl,sj e⟩
 | succ i=>exact nn e
theorem wf_of (T:Top hd.view_39 lo me mg mb h) (hL:h.IsList l vs.toArray) (hol:h.get? l=some ol) (h1:l≠1):Wf w (lack h l) [(l,l)] [] [.raw ol] h:=by
 have hgl:3<l:=(show ∀ n:Nat,n≠0→n≠1→n≠2→n≠3→3<n by lia) l (list_not hL T.b) h1 (T.nolimit.elim fun mc q=>list_not hL q.1) (list_not hL T.g)
 refine⟨rfl,fun i p o e1 e2=>?_,fun a o e=>?_,fun p hp=>?_,fun i j p q e1 e2 hij=>absurd ((one_pair e1).1.trans (one_pair e2).1.symm) hij,fun p hp=>?_,fun a ha=>nomatch ha⟩
 ·obtain⟨rfl,rfl⟩:=one_pair e1
  obtain rfl:=sj e2
  exact⟨rfl,hol⟩
 ·by_cases q:a=l
  ·rw[q,lack_at] at e;exact nn e
  ·rw[← lack_ne q];exact e
 ·rw[in1 hp];exact⟨lack_at ..,lack_at ..,hgl⟩
 ·rw[in1 hp];exact⟨⟨_,hol⟩,_,hol⟩
end
theorem fin_of {F:PF}{k:Nat}(hk:k≤50) (hF:SFv (.ref 250) k F) (hv:∀(ns:List Int) (o:Obj),rawInts o=some ns→∃ H',F [.ref 0] [.raw o]=some (.bool true,H')∧H'[0]?=some (.raw o)):PySem.Challenge.rw_nq0270_01.Holds:=by
 refine hd ?_
 intro w s₀ s₁ mg mb G Y fa o pm cd doc dV kV ho hd' hcd hD hmg hg args vals as hpre hlay hrd hwl hlo
 have KX:=kIn_of Y
 have T:=G.T
 clear hd' hcd hD
 have hlo':=hlo
 wrow_args hpre hlay hrd hwl hlo
 rename_i ns _ _ _ _ _ _ _ l vs _ hL _ _ r0 hI _ hlen _
 have hfa:fa=250:=by
  have:=mg_of (n:="law") (v:=.ref 250) KX T.g (by kernel_rfl)
  have hmg:mg "law"=some (.ref fa):=hmg
  rw[this] at hmg
  cases hmg;rfl
 subst hfa
 obtain⟨ol,hol,hcl,nl,hdl⟩:=id hL
 have hraw:rawInts ol=some ns:=by
  unfold rawInts
  rw[hdl]
  have hz:vs.length=ns.length:=ints_len hI
  simp only[hcl,List.size_toArray,valsInts_of hI]
  have:vs.length≤1000000:=by lia
  simp[this]
 obtain⟨H',hFe,hH'⟩:=hv ns ol hraw
 have h1:l≠1:=fun q=>by
  have:=hlo' l (List.mem_append_left _ (reads_head r0))
  rw[q] at this
  exact absurd this (by decide)
 have B:Base w (lack s₁.heap l) mg mb:=base_of KX T hL hol hcl
 have W:Wf w (lack s₁.heap l) [(l,l)] [] [.raw ol] s₁.heap:=wf_of T hL hol h1
 have AA:AOK k callerA []:=⟨fun _=>rfl,by show 1+300+10*k≤900;lia,by show 4+50*k≤9000;lia,⟨[],rfl,fun e he=>nomatch he⟩⟩
 refine wpAny_mono (hF w _ mg mb callerA _ [] s₁ _ [.ref l] [.ref 0] (.bool true) H' B AA W (.cons (.ref (b:=l) rfl) .nil) hFe) ?_ fun _ _ e=>e.elim
 rintro v s' ⟨α',V',W',T',R'⟩
 have hv:v=.bool true:=by cases V';rfl
 subst hv
 refine GoodW.toG ⟨.inl ⟨.bool true,.bool true,[],rfl,fun _=>rfl,.bool true,?_,fun _=>⟨by simp,fun a ha=>nomatch ha⟩⟩,fun b o e=>?_,R'.2.2,R'.1.trans hg⟩
 ·exact post_ok _
 ·by_cases q:b=l
  ·subst q
   rw[hol] at e;obtain rfl:=sj e
   have hi:α'[0]?=some (b,b):=T'.index rfl
   exact(W'.obj 0 _ _ hi hH').2
  ·exact T'.only b o e (fun p hp=>by have hp:=List.mem_singleton.mp hp;subst hp;exact⟨fun z=>q z.symm,fun z=>q z.symm⟩) (fun z=>nomatch z) fun z=>nomatch z
end Mine.Internal
namespace Mine.Internal
open PySem PySem.W PyProof.Rows PySem.Calls
theorem g_heappush (w:World):nsIn (hd.heap_39 w.params) mainGlobals "heappush"=some (some (.ref 28)):=by kernel_rfl
theorem g_heappop (w:World):nsIn (hd.heap_39 w.params) mainGlobals "heappop"=some (some (.ref 35)):=by kernel_rfl
theorem g_heapreplace_max (w:World):nsIn (hd.heap_39 w.params) mainGlobals "_heapreplace_max"=some (some (.ref 42)):=by kernel_rfl
theorem g_heapify_max (w:World):nsIn (hd.heap_39 w.params) mainGlobals "_heapify_max"=some (some (.ref 49)):=by kernel_rfl
theorem g_siftdown (w:World):nsIn (hd.heap_39 w.params) mainGlobals "_siftdown"=some (some (.ref 56)):=by kernel_rfl
theorem g_siftup (w:World):nsIn (hd.heap_39 w.params) mainGlobals "_siftup"=some (some (.ref 63)):=by kernel_rfl
theorem g_siftdown_max (w:World):nsIn (hd.heap_39 w.params) mainGlobals "_siftdown_max"=some (some (.ref 70)):=by kernel_rfl
theorem g_siftup_max (w:World):nsIn (hd.heap_39 w.params) mainGlobals "_siftup_max"=some (some (.ref 77)):=by kernel_rfl
theorem g_nsmallest (w:World):nsIn (hd.heap_39 w.params) mainGlobals "nsmallest"=some (some (.ref 83)):=by kernel_rfl
theorem g_initial_missing (w:World):nsIn (hd.heap_39 w.params) mainGlobals "_initial_missing"=some (some (.ref 84)):=by kernel_rfl
theorem g_reduce (w:World):nsIn (hd.heap_39 w.params) mainGlobals "reduce"=some (some (.ref 92)):=by kernel_rfl
theorem g_NodeInfo (w:World):nsIn (hd.heap_39 w.params) mainGlobals "_NodeInfo"=some (some (.ref 111)):=by kernel_rfl
theorem g_TopologicalSorter (w:World):nsIn (hd.heap_39 w.params) mainGlobals "TopologicalSorter"=some (some (.ref 208)):=by kernel_rfl
theorem g_law_recipes (w:World):nsIn (hd.heap_39 w.params) mainGlobals "_law_recipes"=some (some (.ref 219)):=by kernel_rfl
theorem g_law_joined (w:World):nsIn (hd.heap_39 w.params) mainGlobals "_law_joined"=some (some (.ref 226)):=by kernel_rfl
theorem g_law_least (w:World):nsIn (hd.heap_39 w.params) mainGlobals "_law_least"=some (some (.ref 231)):=by kernel_rfl
theorem g_law_totals (w:World):nsIn (hd.heap_39 w.params) mainGlobals "_law_totals"=some (some (.ref 238)):=by kernel_rfl
theorem g_law_first_three (w:World):nsIn (hd.heap_39 w.params) mainGlobals "_law_first_three"=some (some (.ref 245)):=by kernel_rfl
theorem g_len (w:World):nsIn (hd.heap_39 w.params) mainGlobals "len"=some none:=by kernel_rfl
theorem g_sum (w:World):nsIn (hd.heap_39 w.params) mainGlobals "sum"=some none:=by kernel_rfl
theorem g_min (w:World):nsIn (hd.heap_39 w.params) mainGlobals "min"=some none:=by kernel_rfl
theorem g_iter (w:World):nsIn (hd.heap_39 w.params) mainGlobals "iter"=some none:=by kernel_rfl
theorem g_sorted (w:World):nsIn (hd.heap_39 w.params) mainGlobals "sorted"=some none:=by kernel_rfl
theorem g_int (w:World):nsIn (hd.heap_39 w.params) mainGlobals "int"=some none:=by kernel_rfl
theorem g_tuple (w:World):nsIn (hd.heap_39 w.params) mainGlobals "tuple"=some none:=by kernel_rfl
theorem g_bool (w:World):nsIn (hd.heap_39 w.params) mainGlobals "bool"=some none:=by kernel_rfl
theorem g_set (w:World):nsIn (hd.heap_39 w.params) mainGlobals "set"=some none:=by kernel_rfl
theorem g_range (w:World):nsIn (hd.heap_39 w.params) mainGlobals "range"=some none:=by kernel_rfl
theorem g_reversed (w:World):nsIn (hd.heap_39 w.params) mainGlobals "reversed"=some none:=by kernel_rfl
theorem g_zip (w:World):nsIn (hd.heap_39 w.params) mainGlobals "zip"=some none:=by kernel_rfl
theorem g_enumerate (w:World):nsIn (hd.heap_39 w.params) mainGlobals "enumerate"=some none:=by kernel_rfl
theorem g_StopIteration (w:World):nsIn (hd.heap_39 w.params) mainGlobals "StopIteration"=some none:=by kernel_rfl
theorem g_NODE_OUT (w:World):∃ t,nsIn (hd.heap_39 w.params) mainGlobals "_NODE_OUT"=some (some (.int (-1) t)):=⟨_,rfl⟩
theorem g_NODE_DONE (w:World):∃ t,nsIn (hd.heap_39 w.params) mainGlobals "_NODE_DONE"=some (some (.int (-2) t)):=⟨_,rfl⟩
theorem compOK0 {scope sc:Scope}{ns xs:List Str}{nl:Nat}(h1:∀ env:Env,closureFor scope env=pure []) (h2:scope.names.all (fun x=>!(x.2==.cell))=true) (h3:scope.kind=.function) (h4:scope.names.all (fun x=>!(x.2==.local) || scope.names.lookup x.1==some .local)=true)
  (h5:(relab scope sc).names.all (fun x=>!(x.2==.cell))=true) (h6:scope.more.any (fun(n,_)=>n==("interactive":Str))=false) (h7:ns.Nodup) (h8:xs.length=nl):CompOK scope sc ns xs [] nl where
 clos:=fun env _ _=>⟨[],h1 env,rfl,fun y hy=>nomatch hy⟩
 outer:=fun y hy=>nomatch hy
 one:=by exact nle rfl
 cell:=fun x hx q=>by have:=List.all_eq_true.mp h2 x hx;rw[q] at this;exact absurd this (by decide)
 kind:=h3
 names:=fun x hx q=>by have:=List.all_eq_true.mp h4 x hx;rw[q] at this;simpa using this
 cov:=fun x hx=>by have:=List.all_eq_true.mp h5 _ (mem_of_lookup' hx);exact absurd (show(!(NameKind.cell==NameKind.cell))=true from this) (by decide)
 more:=h6
 nodup:=h7
 lay:=⟨xs,by simp,h8⟩
theorem compOK1 {scope sc:Scope}{ns xs:List Str}{nl i:Nat}{x:Str}(h1:∀(env:Env) (c:Addr),env.cells.lookup x=some c→closureFor scope env=pure [(x,c)]) (a1:ns[i]?=some x) (a2:sc.names.lookup x=some .cell) (a3:(relab scope sc).names.lookup x=some .cell) (h2:scope.names.all (fun x=>!(x.2==.cell))=true) (h3:scope.kind=.function) (h4:scope.names.all (fun x=>!(x.2==.local) || scope.names.lookup x.1==some .local)=true)
  (h5:(relab scope sc).names.all (fun y=>!(y.2==.cell) || y.1==x)=true) (h6:scope.more.any (fun(n,_)=>n==("interactive":Str))=false) (h7:ns.Nodup) (h8:xs.length=nl):CompOK scope sc ns (xs++[x]) [(i,x)] nl where
 clos:=fun env _ h=>by
  obtain⟨c,hc⟩:=h (i,x) (by exact .head _)
  exact⟨[(x,c)],h1 env c hc,rfl,fun y hy=>by have hy:=List.mem_singleton.mp hy;rw[hy];exact hc⟩
 outer:=fun y hy=>by have hy:=List.mem_singleton.mp hy;rw[hy];exact⟨a1,a2,a3⟩
 one:=by exact nle rfl
 cell:=fun x hx q=>by have:=List.all_eq_true.mp h2 x hx;rw[q] at this;exact absurd this (by decide)
 kind:=h3
 names:=fun x hx q=>by have:=List.all_eq_true.mp h4 x hx;rw[q] at this;simpa using this
 cov:=fun y hy=>by
  have:=List.all_eq_true.mp h5 _ (mem_of_lookup' hy)
  have:(!(NameKind.cell==NameKind.cell) || y==x)=true:=this
  have:y=x:=by simpa using this
  rw[this];simp
 more:=h6
 nodup:=h7
 lay:=⟨xs,rfl,h8⟩
theorem SE_globN {k:Nat}{sc:Scope}{ns:List Str}{x:Str}{pos}{i:Int}(hx:sc.names.lookup x=some .globalImplicit) (hv:∀ w:World,∃ t,nsIn (hd.heap_39 w.params) mainGlobals x=some (some (.int i t))) (hd':(x==("__debug__":Str))=false):SE k sc ns (.Name x pos) (pConst (.int i)):=by
 refine Jd.of fun {w h0 mg mb A env α U s σ p σ'} C S hf Q₀ hQ=>?_
 revert hQ;refine sp2e (c:=p) (d:=σ') hf fun hQ=>?_
 obtain⟨t,ht⟩:=hv w
 have hk:env.scope.kind=.function:=by rw[C.e.scope];exact C.e.kind
 have hl:env.kindOf x=some .globalImplicit:=by unfold Env.kindOf;rw[C.e.scope];exact hx
 have G:s.heap.Ns env.globals mg:=by rw[C.e.glob];exact C.base.g.keeps S.wf.keep
 exact Name_function_global hk hl (loadGlobal_global G (mg_of C.base.K C.base.g ht) (qhere hQ S (.int ..))) hd'
theorem m_get_nodeinfo:MethOK "_get_nodeinfo" 151:=⟨fun _=>by kernel_rfl,fun _=>rfl,fun _=>by kernel_rfl,by decide,⟨none,by skip;kernel_rfl⟩⟩
theorem m_prepare:MethOK "prepare" 163:=⟨fun _=>by kernel_rfl,fun _=>rfl,fun _=>by kernel_rfl,by decide,⟨none,by skip;kernel_rfl⟩⟩
theorem m_get_ready:MethOK "get_ready" 170:=⟨fun _=>by kernel_rfl,fun _=>rfl,fun _=>by kernel_rfl,by decide,⟨none,by skip;kernel_rfl⟩⟩
theorem m_is_active:MethOK "is_active" 177:=⟨fun _=>by kernel_rfl,fun _=>rfl,fun _=>by kernel_rfl,by decide,⟨none,by skip;kernel_rfl⟩⟩
theorem m_done:MethOK "done" 191:=⟨fun _=>by kernel_rfl,fun _=>rfl,fun _=>by kernel_rfl,by decide,⟨none,by skip;kernel_rfl⟩⟩
theorem m_find_cycle:MethOK "_find_cycle" 198:=⟨fun _=>by kernel_rfl,fun _=>rfl,fun _=>by kernel_rfl,by decide,⟨none,by skip;kernel_rfl⟩⟩
theorem m_add:BoundOK "add" 158:=⟨fun _=>by kernel_rfl,fun _=>by kernel_rfl,fun _=>by kernel_rfl,by decide,fun _=>by kernel_rfl,fun _=>by kernel_rfl,by decide⟩
theorem clos_post {env:Env}:∀ {post:List (Str × NameKind)}{acc:List (Str × Addr)},post.all (fun y=>!(y.2==.free))=true→
  (forIn post acc fun(x:Str × NameKind) (r:List (Str × Addr))=>(if(x.2==NameKind.free)=true then do let a ← cellOf env x.1;pure (ForInStep.yield ((x.1,a)::r)) else pure (ForInStep.yield r):Sem (ForInStep (List (Str × Addr)))))=pure acc
 | [],acc,_=>rfl
 | y::post,acc,hp=>by
  simp only[List.all_cons,Bool.and_eq_true] at hp
  have hy:(y.2==NameKind.free)=false:=by simpa using hp.1
  simp only[List.forIn_cons,hy,Bool.false_eq_true,if_false,pure_bind]
  exact clos_post hp.2
theorem clos1 {scope:Scope}{env:Env}{x:Str}{c:Addr}(pre post:List (Str × NameKind)) (hn:scope.names=pre++(x,.free)::post) (hp:pre.all (fun y=>!(y.2==.free))=true) (hq:post.all (fun y=>!(y.2==.free))=true) (h:env.cells.lookup x=some c):closureFor scope env=pure [(x,c)]:=by
 have h2:cellOf env x=pure c:=by unfold cellOf;rw[h]
 unfold closureFor
 rw[hn]
 clear hn
 induction pre with
 | nil=>
  have:=clos_post (env:=env) (acc:=[(x,c)]) hq
  simp only[List.nil_append,List.forIn_cons,h2,pure_bind]
  show(forIn post [(x,c)] _>>=pure)=_
  rw[bind_pure]
  exact this
 | cons y pre ih=>
  simp only[List.all_cons,Bool.and_eq_true] at hp
  obtain⟨y1,y2⟩:=y
  have hy:(y2==NameKind.free)=false:=by simpa using hp.1
  have:=ih hp.2
  simp only[List.cons_append,List.forIn_cons,hy,Bool.false_eq_true,if_false,pure_bind] at this ⊢
  exact this
theorem filter_one {τ:Type}{p:τ→Bool}{a:τ}:∀ {l:List τ},l.filter p=[a]→∃ pre post,l=pre++a::post∧pre.all (fun y=>!p y)=true∧post.all (fun y=>!p y)=true
 | [],h=>by cases h
 | y::l,h=>by
  by_cases hy:p y=true
  ·rw[List.filter_cons_of_pos hy] at h
   obtain⟨rfl,h'⟩:=List.cons.inj h
   refine⟨[],l,rfl,rfl,?_⟩
   rw[List.all_eq_true]
   intro z hz
   have:=List.filter_eq_nil_iff.mp h' z hz
   simpa using this
  ·rw[List.filter_cons_of_neg hy] at h
   refine gv fun _ gk=>?_
   obtain⟨pre,post,e,h1,h2⟩:=filter_one h
   refine gk ?_
   exact⟨y::pre,post,by rw[e];rfl,by simp[hy,h1],h2⟩
theorem clos2 {scope:Scope}{env:Env}{x:Str}{c:Addr}(hn:(scope.names.filter fun y=>y.2==.free)=[(x,.free)]) (h:env.cells.lookup x=some c):closureFor scope env=pure [(x,c)]:=by
 refine gv fun _ gk=>?_
 obtain⟨pre,post,e,h1,h2⟩:=filter_one hn
 refine gk ?_
 exact clos1 pre post e h1 h2 h
noncomputable def isStarred:Expr→Bool
 | .Starred ..=>true
 | _=>false
theorem star_plain {e:Expr}{es:List Expr}(h:isStarred e=false) (env:Env):starEach (e::es) env=(false,eval e env)::starEach es env:=by
 cases e<;>first | rfl | cases h
theorem assign_plain {e:Expr}{es:List Expr}(h:isStarred e=false) (env:Env):assignEach (e::es) env=(false,assign e env)::assignEach es env:=by
 cases e<;>first | rfl | cases h
theorem any_plain:∀ {es:List Expr},es.all (fun e=>!isStarred e)=true→∀ env:Env,(starEach es env).any (·.1)=false
 | [],_,env=>rfl
 | e::es,h,env=>by
  simp only[List.all_cons,Bool.and_eq_true] at h
  rw[star_plain (by simpa using h.1) env]
  exact any_plain h.2 env
open Classical in
theorem bind_dflt2 {fd:FuncData}{ns xs:List Str}{n m:Nat}{T:Addr}{items:Array Value}{dv:List Value}{dp:List PV}(hxs:ns.take xs.length=xs) (hlen:xs.length=n+dv.length) (hdef:fd.defaults=.ref T) (hT:∀ w:World,seqIn (hd.heap_39 w.params) T=some items)
  (hb:∀ args:List Value,args.length=n→∃ kt:Option (Array Value)→Sem (List (Str × Value)),bindArgs fd ⟨args,[]⟩=seqItems? fd.defaults>>=kt∧kt (some items)=pure (xs.zip (args++dv))) (hdv:∀ α U h,VRs α U h dv dp) (hnd:ns.Nodup)
  (hl:xs.all (fun x=>fd.scope.names.lookup x==some .local || fd.scope.names.lookup x==some .cell)=true):BindOK2 fd ns (dfltB n m dp):=
 bind_dflt (kont:=fun args=>if h:args.length=n then Classical.choose (hb args h) else fun _=>pure []) hxs hlen hdef hT
  (fun args h=>by rw[dif_pos h];exact(Classical.choose_spec (hb args h)).1) (fun args h=>by rw[dif_pos h];exact(Classical.choose_spec (hb args h)).2) hdv hnd hl
end Mine.Internal
namespace Mine.Internal
open PySem PySem.W PyProof.Rows PySem.Calls
noncomputable def B_siftdown:PM PFlow:=(bCons (sSet 3 (pSub (pLoc 0) (pLoc 2)))
 (bCons (whileM (pTest (fun x y=>decide (y<x)) (pLoc 2) (pLoc 1)) (bCons (sSet 4 (pBin oShr (pBin oSub (pLoc 2) (pConst (.int 1))) (pConst (.int 1))))
 (bCons (sSet 5 (pSub (pLoc 0) (pLoc 4)))
 (bCons (sIf (pLt (pLoc 3) (pLoc 5)) (bCons (sPut (pLoc 5) (pLoc 0) (pLoc 2))
 (bCons (sSet 2 (pLoc 4))
 (bCons (ret .cont)
 bNil))) bNil)
 (bCons (ret .brk)
 bNil)))) bNil)
 (bCons (sPut (pLoc 3) (pLoc 0) (pLoc 2))
 bNil)))
noncomputable def F_siftdown:PF:=runF (posB 3 6) B_siftdown
theorem sfc_siftdown (k:Nat):SFc (.ref 56) (k+0+1) F_siftdown:=
 SF_defG (k:=k+0) (ns:=["heap","startpos","pos","newitem","parentpos","parent"]) (fun _=>rfl) rfl (fun _=>by kernel_rfl) ⟨rfl,rfl,rfl⟩ ⟨rfl,rfl,rfl⟩ (by kernel_rfl) (by decide+kernel)
  (bind_pos2 (xs:=["heap","startpos","pos"]) rfl rfl (lenA3 fun a b c=>by kernel_rfl) (by decide+kernel) (by kernel_rfl))
  ((SB_cons (SS_assign 3 (SE_sub (SE_loc 0 rfl (by kernel_rfl)) (SE_loc 2 rfl (by kernel_rfl)) (fun _ _=>rfl)) rfl (by decide+kernel) (by kernel_rfl) (fun _ _=>rfl))
 (SB_cons (SS_while (ST_cmp cok_gt (SE_loc 2 rfl (by kernel_rfl)) (SE_loc 1 rfl (by kernel_rfl)) rfl) (SB_cons (SS_assign 4 (SE_bin ok_shr (SE_bin ok_sub (SE_loc 2 rfl (by kernel_rfl)) SE_cint) SE_cint) rfl (by decide+kernel) (by kernel_rfl) (fun _ _=>rfl))
 (SB_cons (SS_assign 5 (SE_sub (SE_loc 0 rfl (by kernel_rfl)) (SE_loc 4 rfl (by kernel_rfl)) (fun _ _=>rfl)) rfl (by decide+kernel) (by kernel_rfl) (fun _ _=>rfl))
 (SB_cons (SS_if (ST_lt (SE_loc 3 rfl (by kernel_rfl)) (SE_loc 5 rfl (by kernel_rfl)) rfl) (SB_cons (SS_put (SE_loc 5 rfl (by kernel_rfl)) (SE_loc 0 rfl (by kernel_rfl)) (SE_loc 2 rfl (by kernel_rfl)) (fun _ _=>rfl))
 (SB_cons (SS_assign 2 (SE_loc 4 rfl (by kernel_rfl)) rfl (by decide+kernel) (by kernel_rfl) (fun _ _=>rfl))
 (SB_cons SS_continue
 SB_nil))) SB_nil)
 (SB_cons SS_break
 SB_nil)))) SB_nil)
 (SB_cons (SS_put (SE_loc 3 rfl (by kernel_rfl)) (SE_loc 0 rfl (by kernel_rfl)) (SE_loc 2 rfl (by kernel_rfl)) (fun _ _=>rfl))
 SB_nil))))
theorem sf_siftdown (k:Nat):SFv (.ref 56) (k+0+1) F_siftdown:=(sfc_siftdown k).toSFv
noncomputable def B_siftup:PM PFlow:=(bCons (sSet 2 (pCall (.builtin "len") F_len (pConst (.const (.builtin "len"))) (aCons (pLoc 0) aNil)))
 (bCons (sSet 3 (pLoc 1))
 (bCons (sSet 4 (pSub (pLoc 0) (pLoc 1)))
 (bCons (sSet 5 (pBin oAdd (pBin oMul (pConst (.int 2)) (pLoc 1)) (pConst (.int 1))))
 (bCons (whileM (pLt (pLoc 5) (pLoc 2)) (bCons (sSet 6 (pBin oAdd (pLoc 5) (pConst (.int 1))))
 (bCons (sIf (pAnd (pLt (pLoc 6) (pLoc 2)) (pNot (pLt (pSub (pLoc 0) (pLoc 5)) (pSub (pLoc 0) (pLoc 6))))) (bCons (sSet 5 (pLoc 6))
 bNil) bNil)
 (bCons (sPut (pSub (pLoc 0) (pLoc 5)) (pLoc 0) (pLoc 1))
 (bCons (sSet 1 (pLoc 5))
 (bCons (sSet 5 (pBin oAdd (pBin oMul (pConst (.int 2)) (pLoc 1)) (pConst (.int 1))))
 bNil))))) bNil)
 (bCons (sPut (pLoc 4) (pLoc 0) (pLoc 1))
 (bCons (sExpr (pCall (.ref 56) F_siftdown (pConst (.const (.ref 56))) (aCons (pLoc 0) (aCons (pLoc 3) (aCons (pLoc 1) aNil)))))
 bNil)))))))
noncomputable def F_siftup:PF:=runF (posB 2 7) B_siftup
theorem sfc_siftup (k:Nat):SFc (.ref 63) (k+1+1) F_siftup:=
 SF_defG (k:=k+1) (ns:=["heap","pos","endpos","startpos","newitem","childpos","rightpos"]) (fun _=>rfl) rfl (fun _=>by kernel_rfl) ⟨rfl,rfl,rfl⟩ ⟨rfl,rfl,rfl⟩ (by kernel_rfl) (by decide+kernel)
  (bind_pos2 (xs:=["heap","pos"]) rfl rfl (lenA2 fun a b=>by kernel_rfl) (by decide+kernel) (by kernel_rfl))
  ((SB_cons (SS_assign 2 (SE_callB sf_len (SE_bltn (by kernel_rfl) g_len (by kernel_rfl) (by decide) (by kernel_rfl)) (SAr_cons (SA_cons (SE_loc 0 rfl (by kernel_rfl)) SA_nil (star_plain rfl)) (star_plain rfl)) (any_plain rfl)) rfl (by decide+kernel) (by kernel_rfl) (fun _ _=>rfl))
 (SB_cons (SS_assign 3 (SE_loc 1 rfl (by kernel_rfl)) rfl (by decide+kernel) (by kernel_rfl) (fun _ _=>rfl))
 (SB_cons (SS_assign 4 (SE_sub (SE_loc 0 rfl (by kernel_rfl)) (SE_loc 1 rfl (by kernel_rfl)) (fun _ _=>rfl)) rfl (by decide+kernel) (by kernel_rfl) (fun _ _=>rfl))
 (SB_cons (SS_assign 5 (SE_bin ok_add (SE_bin ok_mul SE_cint (SE_loc 1 rfl (by kernel_rfl))) SE_cint) rfl (by decide+kernel) (by kernel_rfl) (fun _ _=>rfl))
 (SB_cons (SS_while (ST_lt (SE_loc 5 rfl (by kernel_rfl)) (SE_loc 2 rfl (by kernel_rfl)) rfl) (SB_cons (SS_assign 6 (SE_bin ok_add (SE_loc 5 rfl (by kernel_rfl)) SE_cint) rfl (by decide+kernel) (by kernel_rfl) (fun _ _=>rfl))
 (SB_cons (SS_if (ST_and (ST_lt (SE_loc 6 rfl (by kernel_rfl)) (SE_loc 2 rfl (by kernel_rfl)) rfl) (ST_not (ST_lt (SE_sub (SE_loc 0 rfl (by kernel_rfl)) (SE_loc 5 rfl (by kernel_rfl)) (fun _ _=>rfl)) (SE_sub (SE_loc 0 rfl (by kernel_rfl)) (SE_loc 6 rfl (by kernel_rfl)) (fun _ _=>rfl)) rfl))) (SB_cons (SS_assign 5 (SE_loc 6 rfl (by kernel_rfl)) rfl (by decide+kernel) (by kernel_rfl) (fun _ _=>rfl))
 SB_nil) SB_nil)
 (SB_cons (SS_put (SE_sub (SE_loc 0 rfl (by kernel_rfl)) (SE_loc 5 rfl (by kernel_rfl)) (fun _ _=>rfl)) (SE_loc 0 rfl (by kernel_rfl)) (SE_loc 1 rfl (by kernel_rfl)) (fun _ _=>rfl))
 (SB_cons (SS_assign 1 (SE_loc 5 rfl (by kernel_rfl)) rfl (by decide+kernel) (by kernel_rfl) (fun _ _=>rfl))
 (SB_cons (SS_assign 5 (SE_bin ok_add (SE_bin ok_mul SE_cint (SE_loc 1 rfl (by kernel_rfl))) SE_cint) rfl (by decide+kernel) (by kernel_rfl) (fun _ _=>rfl))
 SB_nil))))) SB_nil)
 (SB_cons (SS_put (SE_loc 4 rfl (by kernel_rfl)) (SE_loc 0 rfl (by kernel_rfl)) (SE_loc 1 rfl (by kernel_rfl)) (fun _ _=>rfl))
 (SB_cons (SS_expr (SE_call (sf_siftdown _) (fun _=>rfl) (SE_glob (by kernel_rfl) g_siftdown (by kernel_rfl)) (SAr_cons (SA_cons (SE_loc 0 rfl (by kernel_rfl)) (SA_cons (SE_loc 3 rfl (by kernel_rfl)) (SA_cons (SE_loc 1 rfl (by kernel_rfl)) SA_nil (star_plain rfl)) (star_plain rfl)) (star_plain rfl)) (star_plain rfl))) (fun _ _=>rfl))
 SB_nil))))))))
theorem sf_siftup (k:Nat):SFv (.ref 63) (k+1+1) F_siftup:=(sfc_siftup k).toSFv
noncomputable def B_siftdown_max:PM PFlow:=(bCons (sSet 3 (pSub (pLoc 0) (pLoc 2)))
 (bCons (whileM (pTest (fun x y=>decide (y<x)) (pLoc 2) (pLoc 1)) (bCons (sSet 4 (pBin oShr (pBin oSub (pLoc 2) (pConst (.int 1))) (pConst (.int 1))))
 (bCons (sSet 5 (pSub (pLoc 0) (pLoc 4)))
 (bCons (sIf (pLt (pLoc 5) (pLoc 3)) (bCons (sPut (pLoc 5) (pLoc 0) (pLoc 2))
 (bCons (sSet 2 (pLoc 4))
 (bCons (ret .cont)
 bNil))) bNil)
 (bCons (ret .brk)
 bNil)))) bNil)
 (bCons (sPut (pLoc 3) (pLoc 0) (pLoc 2))
 bNil)))
noncomputable def F_siftdown_max:PF:=runF (posB 3 6) B_siftdown_max
theorem sfc_siftdown_max (k:Nat):SFc (.ref 70) (k+0+1) F_siftdown_max:=
 SF_defG (k:=k+0) (ns:=["heap","startpos","pos","newitem","parentpos","parent"]) (fun _=>rfl) rfl (fun _=>by kernel_rfl) ⟨rfl,rfl,rfl⟩ ⟨rfl,rfl,rfl⟩ (by kernel_rfl) (by decide+kernel)
  (bind_pos2 (xs:=["heap","startpos","pos"]) rfl rfl (lenA3 fun a b c=>by kernel_rfl) (by decide+kernel) (by kernel_rfl))
  ((SB_cons (SS_assign 3 (SE_sub (SE_loc 0 rfl (by kernel_rfl)) (SE_loc 2 rfl (by kernel_rfl)) (fun _ _=>rfl)) rfl (by decide+kernel) (by kernel_rfl) (fun _ _=>rfl))
 (SB_cons (SS_while (ST_cmp cok_gt (SE_loc 2 rfl (by kernel_rfl)) (SE_loc 1 rfl (by kernel_rfl)) rfl) (SB_cons (SS_assign 4 (SE_bin ok_shr (SE_bin ok_sub (SE_loc 2 rfl (by kernel_rfl)) SE_cint) SE_cint) rfl (by decide+kernel) (by kernel_rfl) (fun _ _=>rfl))
 (SB_cons (SS_assign 5 (SE_sub (SE_loc 0 rfl (by kernel_rfl)) (SE_loc 4 rfl (by kernel_rfl)) (fun _ _=>rfl)) rfl (by decide+kernel) (by kernel_rfl) (fun _ _=>rfl))
 (SB_cons (SS_if (ST_lt (SE_loc 5 rfl (by kernel_rfl)) (SE_loc 3 rfl (by kernel_rfl)) rfl) (SB_cons (SS_put (SE_loc 5 rfl (by kernel_rfl)) (SE_loc 0 rfl (by kernel_rfl)) (SE_loc 2 rfl (by kernel_rfl)) (fun _ _=>rfl))
 (SB_cons (SS_assign 2 (SE_loc 4 rfl (by kernel_rfl)) rfl (by decide+kernel) (by kernel_rfl) (fun _ _=>rfl))
 (SB_cons SS_continue
 SB_nil))) SB_nil)
 (SB_cons SS_break
 SB_nil)))) SB_nil)
 (SB_cons (SS_put (SE_loc 3 rfl (by kernel_rfl)) (SE_loc 0 rfl (by kernel_rfl)) (SE_loc 2 rfl (by kernel_rfl)) (fun _ _=>rfl))
 SB_nil))))
theorem sf_siftdown_max (k:Nat):SFv (.ref 70) (k+0+1) F_siftdown_max:=(sfc_siftdown_max k).toSFv
noncomputable def B_siftup_max:PM PFlow:=(bCons (sSet 2 (pCall (.builtin "len") F_len (pConst (.const (.builtin "len"))) (aCons (pLoc 0) aNil)))
 (bCons (sSet 3 (pLoc 1))
 (bCons (sSet 4 (pSub (pLoc 0) (pLoc 1)))
 (bCons (sSet 5 (pBin oAdd (pBin oMul (pConst (.int 2)) (pLoc 1)) (pConst (.int 1))))
 (bCons (whileM (pLt (pLoc 5) (pLoc 2)) (bCons (sSet 6 (pBin oAdd (pLoc 5) (pConst (.int 1))))
 (bCons (sIf (pAnd (pLt (pLoc 6) (pLoc 2)) (pNot (pLt (pSub (pLoc 0) (pLoc 6)) (pSub (pLoc 0) (pLoc 5))))) (bCons (sSet 5 (pLoc 6))
 bNil) bNil)
 (bCons (sPut (pSub (pLoc 0) (pLoc 5)) (pLoc 0) (pLoc 1))
 (bCons (sSet 1 (pLoc 5))
 (bCons (sSet 5 (pBin oAdd (pBin oMul (pConst (.int 2)) (pLoc 1)) (pConst (.int 1))))
 bNil))))) bNil)
 (bCons (sPut (pLoc 4) (pLoc 0) (pLoc 1))
 (bCons (sExpr (pCall (.ref 70) F_siftdown_max (pConst (.const (.ref 70))) (aCons (pLoc 0) (aCons (pLoc 3) (aCons (pLoc 1) aNil)))))
 bNil)))))))
noncomputable def F_siftup_max:PF:=runF (posB 2 7) B_siftup_max
theorem sfc_siftup_max (k:Nat):SFc (.ref 77) (k+1+1) F_siftup_max:=
 SF_defG (k:=k+1) (ns:=["heap","pos","endpos","startpos","newitem","childpos","rightpos"]) (fun _=>rfl) rfl (fun _=>by kernel_rfl) ⟨rfl,rfl,rfl⟩ ⟨rfl,rfl,rfl⟩ (by kernel_rfl) (by decide+kernel)
  (bind_pos2 (xs:=["heap","pos"]) rfl rfl (lenA2 fun a b=>by kernel_rfl) (by decide+kernel) (by kernel_rfl))
  ((SB_cons (SS_assign 2 (SE_callB sf_len (SE_bltn (by kernel_rfl) g_len (by kernel_rfl) (by decide) (by kernel_rfl)) (SAr_cons (SA_cons (SE_loc 0 rfl (by kernel_rfl)) SA_nil (star_plain rfl)) (star_plain rfl)) (any_plain rfl)) rfl (by decide+kernel) (by kernel_rfl) (fun _ _=>rfl))
 (SB_cons (SS_assign 3 (SE_loc 1 rfl (by kernel_rfl)) rfl (by decide+kernel) (by kernel_rfl) (fun _ _=>rfl))
 (SB_cons (SS_assign 4 (SE_sub (SE_loc 0 rfl (by kernel_rfl)) (SE_loc 1 rfl (by kernel_rfl)) (fun _ _=>rfl)) rfl (by decide+kernel) (by kernel_rfl) (fun _ _=>rfl))
 (SB_cons (SS_assign 5 (SE_bin ok_add (SE_bin ok_mul SE_cint (SE_loc 1 rfl (by kernel_rfl))) SE_cint) rfl (by decide+kernel) (by kernel_rfl) (fun _ _=>rfl))
 (SB_cons (SS_while (ST_lt (SE_loc 5 rfl (by kernel_rfl)) (SE_loc 2 rfl (by kernel_rfl)) rfl) (SB_cons (SS_assign 6 (SE_bin ok_add (SE_loc 5 rfl (by kernel_rfl)) SE_cint) rfl (by decide+kernel) (by kernel_rfl) (fun _ _=>rfl))
 (SB_cons (SS_if (ST_and (ST_lt (SE_loc 6 rfl (by kernel_rfl)) (SE_loc 2 rfl (by kernel_rfl)) rfl) (ST_not (ST_lt (SE_sub (SE_loc 0 rfl (by kernel_rfl)) (SE_loc 6 rfl (by kernel_rfl)) (fun _ _=>rfl)) (SE_sub (SE_loc 0 rfl (by kernel_rfl)) (SE_loc 5 rfl (by kernel_rfl)) (fun _ _=>rfl)) rfl))) (SB_cons (SS_assign 5 (SE_loc 6 rfl (by kernel_rfl)) rfl (by decide+kernel) (by kernel_rfl) (fun _ _=>rfl))
 SB_nil) SB_nil)
 (SB_cons (SS_put (SE_sub (SE_loc 0 rfl (by kernel_rfl)) (SE_loc 5 rfl (by kernel_rfl)) (fun _ _=>rfl)) (SE_loc 0 rfl (by kernel_rfl)) (SE_loc 1 rfl (by kernel_rfl)) (fun _ _=>rfl))
 (SB_cons (SS_assign 1 (SE_loc 5 rfl (by kernel_rfl)) rfl (by decide+kernel) (by kernel_rfl) (fun _ _=>rfl))
 (SB_cons (SS_assign 5 (SE_bin ok_add (SE_bin ok_mul SE_cint (SE_loc 1 rfl (by kernel_rfl))) SE_cint) rfl (by decide+kernel) (by kernel_rfl) (fun _ _=>rfl))
 SB_nil))))) SB_nil)
 (SB_cons (SS_put (SE_loc 4 rfl (by kernel_rfl)) (SE_loc 0 rfl (by kernel_rfl)) (SE_loc 1 rfl (by kernel_rfl)) (fun _ _=>rfl))
 (SB_cons (SS_expr (SE_call (sf_siftdown_max _) (fun _=>rfl) (SE_glob (by kernel_rfl) g_siftdown_max (by kernel_rfl)) (SAr_cons (SA_cons (SE_loc 0 rfl (by kernel_rfl)) (SA_cons (SE_loc 3 rfl (by kernel_rfl)) (SA_cons (SE_loc 1 rfl (by kernel_rfl)) SA_nil (star_plain rfl)) (star_plain rfl)) (star_plain rfl)) (star_plain rfl))) (fun _ _=>rfl))
 SB_nil))))))))
theorem sf_siftup_max (k:Nat):SFv (.ref 77) (k+1+1) F_siftup_max:=(sfc_siftup_max k).toSFv
noncomputable def B_heappush:PM PFlow:=(bCons (sExpr (pMeth "list" F_append (pLoc 0) (aCons (pLoc 1) aNil)))
 (bCons (sExpr (pCall (.ref 56) F_siftdown (pConst (.const (.ref 56))) (aCons (pLoc 0) (aCons (pConst (.int 0)) (aCons (pBin oSub (pCall (.builtin "len") F_len (pConst (.const (.builtin "len"))) (aCons (pLoc 0) aNil)) (pConst (.int 1))) aNil)))))
 bNil))
noncomputable def F_heappush:PF:=runF (posB 2 2) B_heappush
theorem sfc_heappush (k:Nat):SFc (.ref 28) (k+1+1) F_heappush:=
 SF_defG (k:=k+1) (ns:=["heap","item"]) (fun _=>rfl) rfl (fun _=>by kernel_rfl) ⟨rfl,rfl,rfl⟩ ⟨rfl,rfl,rfl⟩ (by kernel_rfl) (by decide+kernel)
  (bind_pos2 (xs:=["heap","item"]) rfl rfl (lenA2 fun a b=>by kernel_rfl) (by decide+kernel) (by kernel_rfl))
  ((SB_cons (SS_expr (SE_meth F.plainAttrs_list F.slot_list_append F.type_list_append sf_append (SE_loc 0 rfl (by kernel_rfl)) (SAr_cons (SA_cons (SE_loc 1 rfl (by kernel_rfl)) SA_nil (star_plain rfl)) (star_plain rfl)) (any_plain rfl) (fun _=>rfl) (by decide) rfl) (fun _ _=>rfl))
 (SB_cons (SS_expr (SE_call (sf_siftdown _) (fun _=>rfl) (SE_glob (by kernel_rfl) g_siftdown (by kernel_rfl)) (SAr_cons (SA_cons (SE_loc 0 rfl (by kernel_rfl)) (SA_cons SE_cint (SA_cons (SE_bin ok_sub (SE_callB sf_len (SE_bltn (by kernel_rfl) g_len (by kernel_rfl) (by decide) (by kernel_rfl)) (SAr_cons (SA_cons (SE_loc 0 rfl (by kernel_rfl)) SA_nil (star_plain rfl)) (star_plain rfl)) (any_plain rfl)) SE_cint) SA_nil (star_plain rfl)) (star_plain rfl)) (star_plain rfl)) (star_plain rfl))) (fun _ _=>rfl))
 SB_nil)))
theorem sf_heappush (k:Nat):SFv (.ref 28) (k+1+1) F_heappush:=(sfc_heappush k).toSFv
noncomputable def B_heappop:PM PFlow:=(bCons (sSet 1 (pMeth "list" F_pop (pLoc 0) aNil))
 (bCons (sIf (pTruth (pLoc 0)) (bCons (sSet 2 (pSub (pLoc 0) (pConst (.int 0))))
 (bCons (sPut (pLoc 1) (pLoc 0) (pConst (.int 0)))
 (bCons (sExpr (pCall (.ref 63) F_siftup (pConst (.const (.ref 63))) (aCons (pLoc 0) (aCons (pConst (.int 0)) aNil))))
 (bCons (sRet (pLoc 2))
 bNil)))) bNil)
 (bCons (sRet (pLoc 1))
 bNil)))
noncomputable def F_heappop:PF:=runF (posB 1 3) B_heappop
theorem sfc_heappop (k:Nat):SFc (.ref 35) (k+2+1) F_heappop:=
 SF_defG (k:=k+2) (ns:=["heap","lastelt","returnitem"]) (fun _=>rfl) rfl (fun _=>by kernel_rfl) ⟨rfl,rfl,rfl⟩ ⟨rfl,rfl,rfl⟩ (by kernel_rfl) (by decide+kernel)
  (bind_pos2 (xs:=["heap"]) rfl rfl (lenA1 fun a=>by kernel_rfl) (by decide+kernel) (by kernel_rfl))
  ((SB_cons (SS_assign 1 (SE_meth F.plainAttrs_list F.slot_list_pop F.type_list_pop sf_pop (SE_loc 0 rfl (by kernel_rfl)) SAr_nil (any_plain rfl) (fun _=>rfl) (by decide) rfl) rfl (by decide+kernel) (by kernel_rfl) (fun _ _=>rfl))
 (SB_cons (SS_if (ST_truth (SE_loc 0 rfl (by kernel_rfl)) (fun _ _=>rfl)) (SB_cons (SS_assign 2 (SE_sub (SE_loc 0 rfl (by kernel_rfl)) SE_cint (fun _ _=>rfl)) rfl (by decide+kernel) (by kernel_rfl) (fun _ _=>rfl))
 (SB_cons (SS_put (SE_loc 1 rfl (by kernel_rfl)) (SE_loc 0 rfl (by kernel_rfl)) SE_cint (fun _ _=>rfl))
 (SB_cons (SS_expr (SE_call (sf_siftup _) (fun _=>rfl) (SE_glob (by kernel_rfl) g_siftup (by kernel_rfl)) (SAr_cons (SA_cons (SE_loc 0 rfl (by kernel_rfl)) (SA_cons SE_cint SA_nil (star_plain rfl)) (star_plain rfl)) (star_plain rfl))) (fun _ _=>rfl))
 (SB_cons (SS_return (SE_loc 2 rfl (by kernel_rfl)))
 SB_nil)))) SB_nil)
 (SB_cons (SS_return (SE_loc 1 rfl (by kernel_rfl)))
 SB_nil))))
theorem sf_heappop (k:Nat):SFv (.ref 35) (k+2+1) F_heappop:=(sfc_heappop k).toSFv
noncomputable def B_heapreplace_max:PM PFlow:=(bCons (sSet 2 (pSub (pLoc 0) (pConst (.int 0))))
 (bCons (sPut (pLoc 1) (pLoc 0) (pConst (.int 0)))
 (bCons (sExpr (pCall (.ref 77) F_siftup_max (pConst (.const (.ref 77))) (aCons (pLoc 0) (aCons (pConst (.int 0)) aNil))))
 (bCons (sRet (pLoc 2))
 bNil))))
noncomputable def F_heapreplace_max:PF:=runF (posB 2 3) B_heapreplace_max
theorem sfc_heapreplace_max (k:Nat):SFc (.ref 42) (k+2+1) F_heapreplace_max:=
 SF_defG (k:=k+2) (ns:=["heap","item","returnitem"]) (fun _=>rfl) rfl (fun _=>by kernel_rfl) ⟨rfl,rfl,rfl⟩ ⟨rfl,rfl,rfl⟩ (by kernel_rfl) (by decide+kernel)
  (bind_pos2 (xs:=["heap","item"]) rfl rfl (lenA2 fun a b=>by kernel_rfl) (by decide+kernel) (by kernel_rfl))
  ((SB_cons (SS_assign 2 (SE_sub (SE_loc 0 rfl (by kernel_rfl)) SE_cint (fun _ _=>rfl)) rfl (by decide+kernel) (by kernel_rfl) (fun _ _=>rfl))
 (SB_cons (SS_put (SE_loc 1 rfl (by kernel_rfl)) (SE_loc 0 rfl (by kernel_rfl)) SE_cint (fun _ _=>rfl))
 (SB_cons (SS_expr (SE_call (sf_siftup_max _) (fun _=>rfl) (SE_glob (by kernel_rfl) g_siftup_max (by kernel_rfl)) (SAr_cons (SA_cons (SE_loc 0 rfl (by kernel_rfl)) (SA_cons SE_cint SA_nil (star_plain rfl)) (star_plain rfl)) (star_plain rfl))) (fun _ _=>rfl))
 (SB_cons (SS_return (SE_loc 2 rfl (by kernel_rfl)))
 SB_nil)))))
theorem sf_heapreplace_max (k:Nat):SFv (.ref 42) (k+2+1) F_heapreplace_max:=(sfc_heapreplace_max k).toSFv
noncomputable def B_heapify_max:PM PFlow:=(bCons (sSet 1 (pCall (.builtin "len") F_len (pConst (.const (.builtin "len"))) (aCons (pLoc 0) aNil)))
 (bCons (sFor (pRevIt (pBin oDiv (pLoc 1) (pConst (.int 2)))) (setV 2) (bCons (sExpr (pCall (.ref 77) F_siftup_max (pConst (.const (.ref 77))) (aCons (pLoc 0) (aCons (pLoc 2) aNil))))
 bNil))
 bNil))
noncomputable def F_heapify_max:PF:=runF (posB 1 3) B_heapify_max
theorem sfc_heapify_max (k:Nat):SFc (.ref 49) (k+2+1) F_heapify_max:=
 SF_defG (k:=k+2) (ns:=["x","n","i"]) (fun _=>rfl) rfl (fun _=>by kernel_rfl) ⟨rfl,rfl,rfl⟩ ⟨rfl,rfl,rfl⟩ (by kernel_rfl) (by decide+kernel)
  (bind_pos2 (xs:=["x"]) rfl rfl (lenA1 fun a=>by kernel_rfl) (by decide+kernel) (by kernel_rfl))
  ((SB_cons (SS_assign 1 (SE_callB sf_len (SE_bltn (by kernel_rfl) g_len (by kernel_rfl) (by decide) (by kernel_rfl)) (SAr_cons (SA_cons (SE_loc 0 rfl (by kernel_rfl)) SA_nil (star_plain rfl)) (star_plain rfl)) (any_plain rfl)) rfl (by decide+kernel) (by kernel_rfl) (fun _ _=>rfl))
 (SB_cons (SS_for (SIt_rev (SE_bltn (by kernel_rfl) g_reversed (by kernel_rfl) (by decide) (by kernel_rfl)) (SE_bltn (by kernel_rfl) g_range (by kernel_rfl) (by decide) (by kernel_rfl)) (SE_bin ok_div (SE_loc 1 rfl (by kernel_rfl)) SE_cint) go_name (fun _=>rfl) (fun _=>rfl)) (SAs_name 2 rfl (by decide+kernel) (by kernel_rfl)) (SB_cons (SS_expr (SE_call (sf_siftup_max _) (fun _=>rfl) (SE_glob (by kernel_rfl) g_siftup_max (by kernel_rfl)) (SAr_cons (SA_cons (SE_loc 0 rfl (by kernel_rfl)) (SA_cons (SE_loc 2 rfl (by kernel_rfl)) SA_nil (star_plain rfl)) (star_plain rfl)) (star_plain rfl))) (fun _ _=>rfl))
 SB_nil) (fun _ _=>rfl))
 SB_nil)))
theorem sf_heapify_max (k:Nat):SFv (.ref 49) (k+2+1) F_heapify_max:=(sfc_heapify_max k).toSFv
end Mine.Internal
namespace Mine.Internal
open PySem PySem.W PyProof.Rows PySem.Calls
noncomputable def B_nsmallest:PM PFlow:=(bCons (sIf (pTest (fun x y=>x==y) (pLoc 0) (pConst (.int 1))) fail bNil)
 (bCons (bCons (bCons (sSet 6 (pCall (.builtin "len") F_len (pConst (.const (.builtin "len"))) (aCons (pLoc 1) aNil)))
 bNil) (bCons (sIf (pTest (fun x y=>decide (y≤x)) (pLoc 0) (pLoc 6)) (bCons (sRet (pSlice (pSorted (pConst (.const (.builtin "sorted"))) (pLoc 1) (pLoc 2)) (pConst .none) (pLoc 0) (pConst .none)))
 bNil) bNil)
 bNil))
 (bCons (sIf (pIsNone false (pLoc 2)) (bCons (sSet 3 (pCall (.builtin "iter") F_iter (pConst (.const (.builtin "iter"))) (aCons (pLoc 1) aNil)))
 (bCons (sSet 5 (pListComp 2 [] (pZipRIt (pLoc 0) (pLoc 3)) (tupT [(setV 0),(setV 1)]) (ret true) (pTup (aCons (pLoc 1) (aCons (pLoc 0) aNil)))))
 (bCons (sIf (pNot (pTruth (pLoc 5))) (bCons (sRet (pLoc 5))
 bNil) bNil)
 (bCons (sExpr (pCall (.ref 49) F_heapify_max (pConst (.const (.ref 49))) (aCons (pLoc 5) aNil)))
 (bCons (sSet 7 (pSub (pSub (pLoc 5) (pConst (.int 0))) (pConst (.int 0))))
 (bCons (sSet 8 (pLoc 0))
 (bCons (sSet 9 (pConst (.const (.ref 42))))
 (bCons (sFor (pIter (pLoc 3)) (setV 10) (bCons (sIf (pLt (pLoc 10) (pLoc 7)) (bCons (sExpr (pCall (.ref 42) F_heapreplace_max (pLoc 9) (aCons (pLoc 5) (aCons (pTup (aCons (pLoc 10) (aCons (pLoc 8) aNil))) aNil))))
 (bCons (sSetT (tupT [(setV 7),(setV 11)]) (pSub (pLoc 5) (pConst (.int 0))))
 (bCons (sAug 8 oAdd true (pConst (.int 1)))
 bNil))) bNil)
 bNil))
 (bCons (sExpr (pMeth "list" F_lsort (pLoc 5) aNil))
 (bCons (sRet (pListComp 2 [] (pIter (pLoc 5)) (tupT [(setV 0),(setV 1)]) (ret true) (pLoc 0)))
 bNil)))))))))) bNil)
 fail)))
noncomputable def F_nsmallest:PF:=runF (dfltB 2 11 [.none]) B_nsmallest
theorem sfc_nsmallest (k:Nat):SFc (.ref 83) (k+3+1) F_nsmallest:=
 SF_defG (k:=k+3) (ns:=["n","iterable","key","it","sentinel","result","size","top","order","_heapreplace","elem","_order","k","_elem"]) (fun _=>rfl) rfl (fun _=>by kernel_rfl) ⟨rfl,rfl,rfl⟩ ⟨rfl,rfl,rfl⟩ (by kernel_rfl) (by decide+kernel)
  (bind_dflt2 (T:=78) (items:=#[.none]) (dv:=[.none]) (xs:=["n","iterable","key"]) rfl rfl rfl (fun _=>rfl) (lenA2 fun a b=>⟨_,rfl,rfl⟩) (fun _ _ _=>.cons .none .nil) (by decide+kernel) (by kernel_rfl))
  ((SB_cons (SS_if (ST_cmp cok_eq (SE_loc 0 rfl (by kernel_rfl)) SE_cint rfl) SB_fail SB_nil)
 (SB_cons (SS_tryElse (SB_cons (SS_assign 6 (SE_callB sf_len (SE_bltn (by kernel_rfl) g_len (by kernel_rfl) (by decide) (by kernel_rfl)) (SAr_cons (SA_cons (SE_loc 1 rfl (by kernel_rfl)) SA_nil (star_plain rfl)) (star_plain rfl)) (any_plain rfl)) rfl (by decide+kernel) (by kernel_rfl) (fun _ _=>rfl))
 SB_nil) (SB_cons (SS_if (ST_cmp cok_ge (SE_loc 0 rfl (by kernel_rfl)) (SE_loc 6 rfl (by kernel_rfl)) rfl) (SB_cons (SS_return (SE_sliceT (SE_sorted (SE_bltn (by kernel_rfl) g_sorted (by kernel_rfl) (by decide) (by kernel_rfl)) (SE_loc 1 rfl (by kernel_rfl)) (SE_loc 2 rfl (by kernel_rfl)) (fun _=>rfl)) SP_none (SP_some (SE_loc 0 rfl (by kernel_rfl))) (fun _ _=>rfl)))
 SB_nil) SB_nil)
 SB_nil))
 (SB_cons (SS_if (ST_isNone (SE_loc 2 rfl (by kernel_rfl))) (SB_cons (SS_assign 3 (SE_callB sf_iter (SE_bltn (by kernel_rfl) g_iter (by kernel_rfl) (by decide) (by kernel_rfl)) (SAr_cons (SA_cons (SE_loc 1 rfl (by kernel_rfl)) SA_nil (star_plain rfl)) (star_plain rfl)) (any_plain rfl)) rfl (by decide+kernel) (by kernel_rfl) (fun _ _=>rfl))
 (SB_cons (SS_assign_listcomp 5 (compOK0 (xs:=["i","elem"]) (fun _=>rfl) (by kernel_rfl) rfl (by kernel_rfl) (by kernel_rfl) (by kernel_rfl) (by decide+kernel) rfl) (SIt_zipR (SE_bltn (by kernel_rfl) g_zip (by kernel_rfl) (by decide) (by kernel_rfl)) (SE_bltn (by kernel_rfl) g_range (by kernel_rfl) (by decide) (by kernel_rfl)) (SE_loc 0 rfl (by kernel_rfl)) (SE_loc 3 rfl (by kernel_rfl)) (fun _=>rfl) (fun _=>rfl)) (SAs_tuple (SAsE_cons (SAs_name 0 rfl (by decide+kernel) (by kernel_rfl)) (SAsE_cons (SAs_name 1 rfl (by decide+kernel) (by kernel_rfl)) SAsE_nil (assign_plain rfl)) (assign_plain rfl))) STs_nil (SE_tuple (SA_cons (SE_loc 1 rfl (by kernel_rfl)) (SA_cons (SE_loc 0 rfl (by kernel_rfl)) SA_nil (star_plain rfl)) (star_plain rfl))) (fun _ _=>rfl) rfl (by decide+kernel) (by kernel_rfl) (fun env h=>by unfold swapsWith Env.blockKind Env.kindOf;rw[h];rfl))
 (SB_cons (SS_if (ST_not (ST_truth (SE_loc 5 rfl (by kernel_rfl)) (fun _ _=>rfl))) (SB_cons (SS_return (SE_loc 5 rfl (by kernel_rfl)))
 SB_nil) SB_nil)
 (SB_cons (SS_expr (SE_call (sf_heapify_max _) (fun _=>rfl) (SE_glob (by kernel_rfl) g_heapify_max (by kernel_rfl)) (SAr_cons (SA_cons (SE_loc 5 rfl (by kernel_rfl)) SA_nil (star_plain rfl)) (star_plain rfl))) (fun _ _=>rfl))
 (SB_cons (SS_assign 7 (SE_sub (SE_sub (SE_loc 5 rfl (by kernel_rfl)) SE_cint (fun _ _=>rfl)) SE_cint (fun _ _=>rfl)) rfl (by decide+kernel) (by kernel_rfl) (fun _ _=>rfl))
 (SB_cons (SS_assign 8 (SE_loc 0 rfl (by kernel_rfl)) rfl (by decide+kernel) (by kernel_rfl) (fun _ _=>rfl))
 (SB_cons (SS_assign 9 (SE_glob (by kernel_rfl) g_heapreplace_max (by kernel_rfl)) rfl (by decide+kernel) (by kernel_rfl) (fun _ _=>rfl))
 (SB_cons (SS_for (SIt_seq (SE_loc 3 rfl (by kernel_rfl)) go_name) (SAs_name 10 rfl (by decide+kernel) (by kernel_rfl)) (SB_cons (SS_if (ST_lt (SE_loc 10 rfl (by kernel_rfl)) (SE_loc 7 rfl (by kernel_rfl)) rfl) (SB_cons (SS_expr (SE_call (sf_heapreplace_max _) (fun _=>rfl) (SE_loc 9 rfl (by kernel_rfl)) (SAr_cons (SA_cons (SE_loc 5 rfl (by kernel_rfl)) (SA_cons (SE_tuple (SA_cons (SE_loc 10 rfl (by kernel_rfl)) (SA_cons (SE_loc 8 rfl (by kernel_rfl)) SA_nil (star_plain rfl)) (star_plain rfl))) SA_nil (star_plain rfl)) (star_plain rfl)) (star_plain rfl))) (fun _ _=>rfl))
 (SB_cons (SS_unpack (SE_sub (SE_loc 5 rfl (by kernel_rfl)) SE_cint (fun _ _=>rfl)) (SAs_tuple (SAsE_cons (SAs_name 7 rfl (by decide+kernel) (by kernel_rfl)) (SAsE_cons (SAs_name 11 rfl (by decide+kernel) (by kernel_rfl)) SAsE_nil (assign_plain rfl)) (assign_plain rfl))) (fun _ _=>⟨rfl,rfl⟩))
 (SB_cons (SS_aug 8 aok_add SE_cint rfl (by decide+kernel) (by kernel_rfl) (by kernel_rfl))
 SB_nil))) SB_nil)
 SB_nil) (fun _ _=>rfl))
 (SB_cons (SS_expr (SE_meth F.plainAttrs_list slot_list_sort F.type_list_sort sf_lsort (SE_loc 5 rfl (by kernel_rfl)) SAr_nil (any_plain rfl) (fun _=>rfl) (by decide) rfl) (fun _ _=>rfl))
 (SB_cons (SS_return (SE_listcomp (compOK0 (xs:=["elem","order"]) (fun _=>rfl) (by kernel_rfl) rfl (by kernel_rfl) (by kernel_rfl) (by kernel_rfl) (by decide+kernel) rfl) (SIt_seq (SE_loc 5 rfl (by kernel_rfl)) go_tuple) (SAs_tuple (SAsE_cons (SAs_name 0 rfl (by decide+kernel) (by kernel_rfl)) (SAsE_cons (SAs_name 1 rfl (by decide+kernel) (by kernel_rfl)) SAsE_nil (assign_plain rfl)) (assign_plain rfl))) STs_nil (SE_loc 0 rfl (by kernel_rfl)) (fun _ _=>rfl)))
 SB_nil)))))))))) SB_nil)
 SB_fail))))
theorem sf_nsmallest (k:Nat):SFv (.ref 83) (k+3+1) F_nsmallest:=(sfc_nsmallest k).toSFv
noncomputable def B_law_joined:PM PFlow:=(bCons (sSet 2 (pList (aCons (pTup (aCons (pBin oAdd (pSub (pLoc 0) (pConst (.int 0))) (pSub (pLoc 1) (pConst (.int 0)))) (aCons (pConst (.int 0)) (aCons (pConst (.int 0)) aNil)))) aNil)))
 (bCons (sSet 3 (pList aNil))
 (bCons (whileM (pAnd (pTruth (pLoc 2)) (pLt (pCall (.builtin "len") F_len (pConst (.const (.builtin "len"))) (aCons (pLoc 3) aNil)) (pConst (.int 3)))) (bCons (sSetT (tupT [(setV 4),(setV 5),(setV 6)]) (pCall (.ref 35) F_heappop (pConst (.const (.ref 35))) (aCons (pLoc 2) aNil)))
 (bCons (sExpr (pMeth "list" F_append (pLoc 3) (aCons (pLoc 4) aNil)))
 (bCons (sIf (pLt (pBin oAdd (pLoc 6) (pConst (.int 1))) (pCall (.builtin "len") F_len (pConst (.const (.builtin "len"))) (aCons (pLoc 1) aNil))) (bCons (sExpr (pCall (.ref 28) F_heappush (pConst (.const (.ref 28))) (aCons (pLoc 2) (aCons (pTup (aCons (pBin oAdd (pSub (pLoc 0) (pLoc 5)) (pSub (pLoc 1) (pBin oAdd (pLoc 6) (pConst (.int 1))))) (aCons (pLoc 5) (aCons (pBin oAdd (pLoc 6) (pConst (.int 1))) aNil)))) aNil))))
 bNil) bNil)
 (bCons (sIf (pAnd (pTest (fun x y=>x==y) (pLoc 6) (pConst (.int 0))) (pLt (pBin oAdd (pLoc 5) (pConst (.int 1))) (pCall (.builtin "len") F_len (pConst (.const (.builtin "len"))) (aCons (pLoc 0) aNil)))) (bCons (sExpr (pCall (.ref 28) F_heappush (pConst (.const (.ref 28))) (aCons (pLoc 2) (aCons (pTup (aCons (pBin oAdd (pSub (pLoc 0) (pBin oAdd (pLoc 5) (pConst (.int 1)))) (pSub (pLoc 1) (pConst (.int 0)))) (aCons (pBin oAdd (pLoc 5) (pConst (.int 1))) (aCons (pConst (.int 0)) aNil)))) aNil))))
 bNil) bNil)
 bNil)))) bNil)
 (bCons (sRet (pLoc 3))
 bNil))))
noncomputable def F_law_joined:PF:=runF (posB 2 7) B_law_joined
theorem sfc_law_joined (k:Nat):SFc (.ref 226) (k+3+1) F_law_joined:=
 SF_defG (k:=k+3) (ns:=["prices","others","heap","sums","price","first","second"]) (fun _=>rfl) rfl (fun _=>by kernel_rfl) ⟨rfl,rfl,rfl⟩ ⟨rfl,rfl,rfl⟩ (by kernel_rfl) (by decide+kernel)
  (bind_pos2 (xs:=["prices","others"]) rfl rfl (lenA2 fun a b=>by kernel_rfl) (by decide+kernel) (by kernel_rfl))
  ((SB_cons (SS_assign 2 (SE_list (SA_cons (SE_tuple (SA_cons (SE_bin ok_add (SE_sub (SE_loc 0 rfl (by kernel_rfl)) SE_cint (fun _ _=>rfl)) (SE_sub (SE_loc 1 rfl (by kernel_rfl)) SE_cint (fun _ _=>rfl))) (SA_cons SE_cint (SA_cons SE_cint SA_nil (star_plain rfl)) (star_plain rfl)) (star_plain rfl))) SA_nil (star_plain rfl))) rfl (by decide+kernel) (by kernel_rfl) (fun _ _=>rfl))
 (SB_cons (SS_assign 3 (SE_list SA_nil) rfl (by decide+kernel) (by kernel_rfl) (fun _ _=>rfl))
 (SB_cons (SS_while (ST_and (ST_truth (SE_loc 2 rfl (by kernel_rfl)) (fun _ _=>rfl)) (ST_lt (SE_callB sf_len (SE_bltn (by kernel_rfl) g_len (by kernel_rfl) (by decide) (by kernel_rfl)) (SAr_cons (SA_cons (SE_loc 3 rfl (by kernel_rfl)) SA_nil (star_plain rfl)) (star_plain rfl)) (any_plain rfl)) SE_cint rfl)) (SB_cons (SS_unpack (SE_call (sf_heappop _) (fun _=>rfl) (SE_glob (by kernel_rfl) g_heappop (by kernel_rfl)) (SAr_cons (SA_cons (SE_loc 2 rfl (by kernel_rfl)) SA_nil (star_plain rfl)) (star_plain rfl))) (SAs_tuple (SAsE_cons (SAs_name 4 rfl (by decide+kernel) (by kernel_rfl)) (SAsE_cons (SAs_name 5 rfl (by decide+kernel) (by kernel_rfl)) (SAsE_cons (SAs_name 6 rfl (by decide+kernel) (by kernel_rfl)) SAsE_nil (assign_plain rfl)) (assign_plain rfl)) (assign_plain rfl))) (fun _ _=>⟨rfl,rfl⟩))
 (SB_cons (SS_expr (SE_meth F.plainAttrs_list F.slot_list_append F.type_list_append sf_append (SE_loc 3 rfl (by kernel_rfl)) (SAr_cons (SA_cons (SE_loc 4 rfl (by kernel_rfl)) SA_nil (star_plain rfl)) (star_plain rfl)) (any_plain rfl) (fun _=>rfl) (by decide) rfl) (fun _ _=>rfl))
 (SB_cons (SS_if (ST_lt (SE_bin ok_add (SE_loc 6 rfl (by kernel_rfl)) SE_cint) (SE_callB sf_len (SE_bltn (by kernel_rfl) g_len (by kernel_rfl) (by decide) (by kernel_rfl)) (SAr_cons (SA_cons (SE_loc 1 rfl (by kernel_rfl)) SA_nil (star_plain rfl)) (star_plain rfl)) (any_plain rfl)) rfl) (SB_cons (SS_expr (SE_call (sf_heappush _) (fun _=>rfl) (SE_glob (by kernel_rfl) g_heappush (by kernel_rfl)) (SAr_cons (SA_cons (SE_loc 2 rfl (by kernel_rfl)) (SA_cons (SE_tuple (SA_cons (SE_bin ok_add (SE_sub (SE_loc 0 rfl (by kernel_rfl)) (SE_loc 5 rfl (by kernel_rfl)) (fun _ _=>rfl)) (SE_sub (SE_loc 1 rfl (by kernel_rfl)) (SE_bin ok_add (SE_loc 6 rfl (by kernel_rfl)) SE_cint) (fun _ _=>rfl))) (SA_cons (SE_loc 5 rfl (by kernel_rfl)) (SA_cons (SE_bin ok_add (SE_loc 6 rfl (by kernel_rfl)) SE_cint) SA_nil (star_plain rfl)) (star_plain rfl)) (star_plain rfl))) SA_nil (star_plain rfl)) (star_plain rfl)) (star_plain rfl))) (fun _ _=>rfl))
 SB_nil) SB_nil)
 (SB_cons (SS_if (ST_and (ST_cmp cok_eq (SE_loc 6 rfl (by kernel_rfl)) SE_cint rfl) (ST_lt (SE_bin ok_add (SE_loc 5 rfl (by kernel_rfl)) SE_cint) (SE_callB sf_len (SE_bltn (by kernel_rfl) g_len (by kernel_rfl) (by decide) (by kernel_rfl)) (SAr_cons (SA_cons (SE_loc 0 rfl (by kernel_rfl)) SA_nil (star_plain rfl)) (star_plain rfl)) (any_plain rfl)) rfl)) (SB_cons (SS_expr (SE_call (sf_heappush _) (fun _=>rfl) (SE_glob (by kernel_rfl) g_heappush (by kernel_rfl)) (SAr_cons (SA_cons (SE_loc 2 rfl (by kernel_rfl)) (SA_cons (SE_tuple (SA_cons (SE_bin ok_add (SE_sub (SE_loc 0 rfl (by kernel_rfl)) (SE_bin ok_add (SE_loc 5 rfl (by kernel_rfl)) SE_cint) (fun _ _=>rfl)) (SE_sub (SE_loc 1 rfl (by kernel_rfl)) SE_cint (fun _ _=>rfl))) (SA_cons (SE_bin ok_add (SE_loc 5 rfl (by kernel_rfl)) SE_cint) (SA_cons SE_cint SA_nil (star_plain rfl)) (star_plain rfl)) (star_plain rfl))) SA_nil (star_plain rfl)) (star_plain rfl)) (star_plain rfl))) (fun _ _=>rfl))
 SB_nil) SB_nil)
 SB_nil)))) SB_nil)
 (SB_cons (SS_return (SE_loc 3 rfl (by kernel_rfl)))
 SB_nil)))))
theorem sf_law_joined (k:Nat):SFv (.ref 226) (k+3+1) F_law_joined:=(sfc_law_joined k).toSFv
noncomputable def B_reduce:PM PFlow:=(bCons (sSet 3 (pCall (.builtin "iter") F_iter (pConst (.const (.builtin "iter"))) (aCons (pLoc 1) aNil)))
 (bCons (sIf (pIsG 84 (pLoc 2) (pConst (.const (.ref 84)))) fail (bCons (sSet 4 (pLoc 2))
 bNil))
 (bCons (sFor (pIter (pLoc 3)) (setV 5) (bCons (sSet 4 (pCall (.ref 226) F_law_joined (pLoc 0) (aCons (pLoc 4) (aCons (pLoc 5) aNil))))
 bNil))
 (bCons (sRet (pLoc 4))
 bNil))))
noncomputable def F_reduce:PF:=runF (dfltB 3 3 []) B_reduce
theorem sfc_reduce (k:Nat):SFc (.ref 92) (k+4+1) F_reduce:=
 SF_defG (k:=k+4) (ns:=["function","sequence","initial","it","value","element"]) (fun _=>rfl) rfl (fun _=>by kernel_rfl) ⟨rfl,rfl,rfl⟩ ⟨rfl,rfl,rfl⟩ (by kernel_rfl) (by decide+kernel)
  (bind_dflt2 (T:=85) (items:=#[.ref 84]) (dv:=[]) (xs:=["function","sequence","initial"]) rfl rfl rfl (fun _=>rfl) (lenA3 fun a b c=>⟨_,rfl,rfl⟩) (fun _ _ _=>.nil) (by decide+kernel) (by kernel_rfl))
  ((SB_cons (SS_assign 3 (SE_callB sf_iter (SE_bltn (by kernel_rfl) g_iter (by kernel_rfl) (by decide) (by kernel_rfl)) (SAr_cons (SA_cons (SE_loc 1 rfl (by kernel_rfl)) SA_nil (star_plain rfl)) (star_plain rfl)) (any_plain rfl)) rfl (by decide+kernel) (by kernel_rfl) (fun _ _=>rfl))
 (SB_cons (SS_if (ST_isG (SE_loc 2 rfl (by kernel_rfl)) (SE_glob (by kernel_rfl) g_initial_missing (by kernel_rfl)) (fun _=>rfl) rfl) SB_fail (SB_cons (SS_assign 4 (SE_loc 2 rfl (by kernel_rfl)) rfl (by decide+kernel) (by kernel_rfl) (fun _ _=>rfl))
 SB_nil))
 (SB_cons (SS_for (SIt_seq (SE_loc 3 rfl (by kernel_rfl)) go_name) (SAs_name 5 rfl (by decide+kernel) (by kernel_rfl)) (SB_cons (SS_assign 4 (SE_call (sf_law_joined _) (fun _=>rfl) (SE_loc 0 rfl (by kernel_rfl)) (SAr_cons (SA_cons (SE_loc 4 rfl (by kernel_rfl)) (SA_cons (SE_loc 5 rfl (by kernel_rfl)) SA_nil (star_plain rfl)) (star_plain rfl)) (star_plain rfl))) rfl (by decide+kernel) (by kernel_rfl) (fun _ _=>rfl))
 SB_nil) (fun _ _=>rfl))
 (SB_cons (SS_return (SE_loc 4 rfl (by kernel_rfl)))
 SB_nil)))))
theorem sf_reduce (k:Nat):SFv (.ref 92) (k+4+1) F_reduce:=(sfc_reduce k).toSFv
end Mine.Internal
namespace Mine.Internal
open PySem PySem.W PyProof.Rows PySem.Calls
noncomputable def B_node_init:PM PFlow:=(bCons (sSetA (nodePut 0) (pLoc 1) (pLoc 0))
 (bCons (sSetA (nodePut 1) (pConst (.int 0)) (pLoc 0))
 (bCons (sSetA (nodePut 2) (pList aNil) (pLoc 0))
 bNil)))
noncomputable def F_node_init:PF:=runF (posB 2 2) B_node_init
theorem sfc_node_init (k:Nat):SFc (.ref 107) (k+0+1) F_node_init:=
 SF_defG (k:=k+0) (ns:=["self","node"]) (fun _=>rfl) rfl (fun _=>by kernel_rfl) ⟨rfl,rfl,rfl⟩ ⟨rfl,rfl,rfl⟩ (by kernel_rfl) (by decide+kernel)
  (bind_pos2 (xs:=["self","node"]) rfl rfl (lenA2 fun a b=>by kernel_rfl) (by decide+kernel) (by kernel_rfl))
  ((SB_cons (SS_setattr at_node (SE_loc 1 rfl (by kernel_rfl)) (SE_loc 0 rfl (by kernel_rfl)) (fun _ _=>rfl))
 (SB_cons (SS_setattr at_npred SE_cint (SE_loc 0 rfl (by kernel_rfl)) (fun _ _=>rfl))
 (SB_cons (SS_setattr at_succ (SE_list SA_nil) (SE_loc 0 rfl (by kernel_rfl)) (fun _ _=>rfl))
 SB_nil))))
theorem sf_node_init (k:Nat):SFv (.ref 107) (k+0+1) F_node_init:=(sfc_node_init k).toSFv
noncomputable def F_NodeInfo:PF:=F_make (.node [none,none,none]) F_node_init
theorem sf_NodeInfo (k:Nat):SFv (.ref 111) (k+2) F_NodeInfo:=(SFc_make make111 or111 (sfc_node_init k)).toSFv
noncomputable def B_sorter_init:PM PFlow:=(bCons (sSetA (sorterPut 0) pDict0 (pLoc 0))
 (bCons (sSetA (sorterPut 1) (pConst .none) (pLoc 0))
 (bCons (sSetA (sorterPut 2) (pConst (.int 0)) (pLoc 0))
 (bCons (sSetA (sorterPut 3) (pConst (.int 0)) (pLoc 0))
 (bCons (sIf (pIsNone true (pLoc 1)) fail bNil)
 bNil)))))
noncomputable def F_sorter_init:PF:=runF (dfltB 1 2 [.none]) B_sorter_init
theorem sfc_sorter_init (k:Nat):SFc (.ref 144) (k+0+1) F_sorter_init:=
 SF_defG (k:=k+0) (ns:=["self","graph","node","predecessors"]) (fun _=>rfl) rfl (fun _=>by kernel_rfl) ⟨rfl,rfl,rfl⟩ ⟨rfl,rfl,rfl⟩ (by kernel_rfl) (by decide+kernel)
  (bind_dflt2 (T:=137) (items:=#[.none]) (dv:=[.none]) (xs:=["self","graph"]) rfl rfl rfl (fun _=>rfl) (lenA1 fun a=>⟨_,rfl,rfl⟩) (fun _ _ _=>.cons .none .nil) (by decide+kernel) (by kernel_rfl))
  ((SB_cons (SS_setattr at_n2i SE_dict0 (SE_loc 0 rfl (by kernel_rfl)) (fun _ _=>rfl))
 (SB_cons (SS_setattr at_ready SE_none (SE_loc 0 rfl (by kernel_rfl)) (fun _ _=>rfl))
 (SB_cons (SS_setattr at_passed SE_cint (SE_loc 0 rfl (by kernel_rfl)) (fun _ _=>rfl))
 (SB_cons (SS_setattr at_fin SE_cint (SE_loc 0 rfl (by kernel_rfl)) (fun _ _=>rfl))
 (SB_cons (SS_if (ST_isNotNone (SE_loc 1 rfl (by kernel_rfl))) SB_fail SB_nil)
 SB_nil))))))
theorem sf_sorter_init (k:Nat):SFv (.ref 144) (k+0+1) F_sorter_init:=(sfc_sorter_init k).toSFv
noncomputable def F_TopologicalSorter:PF:=F_make (.sorter [none,none,none,none]) F_sorter_init
theorem sf_TopologicalSorter (k:Nat):SFv (.ref 208) (k+2) F_TopologicalSorter:=(SFc_make make208 or208 (sfc_sorter_init k)).toSFv
noncomputable def B_get_nodeinfo:PM PFlow:=(bCons (sIf (pIsNone false (pNamed (setV 2) (pMeth "dict" F_get (pAttr (sorterFld 0) (pLoc 0)) (aCons (pLoc 1) aNil)))) (bCons (sSet2 (fun p=>seq (pAttr (sorterFld 0) (pLoc 0)) fun a=>seq (pLoc 1) fun b=>pPut a b p) (setV 2) (pCall (.ref 111) F_NodeInfo (pConst (.const (.ref 111))) (aCons (pLoc 1) aNil)))
 bNil) bNil)
 (bCons (sRet (pLoc 2))
 bNil))
noncomputable def F_get_nodeinfo:PF:=runF (posB 2 3) B_get_nodeinfo
theorem sfc_get_nodeinfo (k:Nat):SFc (.ref 151) (k+2+1) F_get_nodeinfo:=
 SF_defG (k:=k+2) (ns:=["self","node","result"]) (fun _=>rfl) rfl (fun _=>by kernel_rfl) ⟨rfl,rfl,rfl⟩ ⟨rfl,rfl,rfl⟩ (by kernel_rfl) (by decide+kernel)
  (bind_pos2 (xs:=["self","node"]) rfl rfl (lenA2 fun a b=>by kernel_rfl) (by decide+kernel) (by kernel_rfl))
  ((SB_cons (SS_if (ST_isNone (SE_named (SE_meth F.plainAttrs_dict F.slot_dict_get F.type_dict_get sf_get (SE_attr at_n2i (SE_loc 0 rfl (by kernel_rfl)) (fun _=>rfl)) (SAr_cons (SA_cons (SE_loc 1 rfl (by kernel_rfl)) SA_nil (star_plain rfl)) (star_plain rfl)) (any_plain rfl) (fun _=>rfl) (by decide) rfl) (SAs_name 2 rfl (by decide+kernel) (by kernel_rfl)))) (SB_cons (SS_assign2 (SE_callK (sf_NodeInfo _) (fun _=>by kernel_rfl) (SE_glob (by kernel_rfl) g_NodeInfo (by kernel_rfl)) (SAr_cons (SA_cons (SE_loc 1 rfl (by kernel_rfl)) SA_nil (star_plain rfl)) (star_plain rfl)) (any_plain rfl)) (SAs_sub (SE_attr at_n2i (SE_loc 0 rfl (by kernel_rfl)) (fun _=>rfl)) (SE_loc 1 rfl (by kernel_rfl)) (fun _ _=>rfl)) (SAs_name 2 rfl (by decide+kernel) (by kernel_rfl)) (fun _=>rfl) (fun _ _=>rfl))
 SB_nil) SB_nil)
 (SB_cons (SS_return (SE_loc 2 rfl (by kernel_rfl)))
 SB_nil)))
theorem sf_get_nodeinfo (k:Nat):SFv (.ref 151) (k+2+1) F_get_nodeinfo:=(sfc_get_nodeinfo k).toSFv
noncomputable def B_add_:PM PFlow:=(bCons (sIf (pIsNone true (pAttr (sorterFld 1) (pLoc 0))) fail bNil)
 (bCons (sSet 3 (pMethS F_get_nodeinfo (pLoc 0) (aCons (pLoc 1) aNil)))
 (bCons (sAugA (nodeFld 1) (nodePut 1) oAdd true (pLoc 3) (pCall (.builtin "len") F_len (pConst (.const (.builtin "len"))) (aCons (pLoc 2) aNil)))
 (bCons (sFor (pIter (pLoc 2)) (setV 4) (bCons (sSet 5 (pMethS F_get_nodeinfo (pLoc 0) (aCons (pLoc 4) aNil)))
 (bCons (sExpr (pMeth "list" F_append (pAttr (nodeFld 2) (pLoc 5)) (aCons (pLoc 1) aNil)))
 bNil)))
 bNil))))
noncomputable def F_add_:PF:=runF (varB 2 3) B_add_
theorem sfc_add_ (k:Nat):SFc (.ref 158) (k+3+1) F_add_:=
 SF_defG (k:=k+3) (ns:=["self","node","predecessors","nodeinfo","pred","pred_info"]) (fun _=>rfl) rfl (fun _=>by kernel_rfl) ⟨rfl,rfl,rfl⟩ ⟨rfl,rfl,rfl⟩ (by kernel_rfl) (by decide+kernel)
  (bind_var (xs:=["self","node"]) (va:="predecessors") rfl rfl (lenV2 (fun a b=>by kernel_rfl) (fun a b c=>by kernel_rfl) fun a b c d=>by kernel_rfl) (by decide+kernel) (by kernel_rfl))
  ((SB_cons (SS_if (ST_isNotNone (SE_attr at_ready (SE_loc 0 rfl (by kernel_rfl)) (fun _=>rfl))) SB_fail SB_nil)
 (SB_cons (SS_assign 3 (SE_mcall m_get_nodeinfo (sf_get_nodeinfo _) (SE_loc 0 rfl (by kernel_rfl)) (SAr_cons (SA_cons (SE_loc 1 rfl (by kernel_rfl)) SA_nil (star_plain rfl)) (star_plain rfl)) (any_plain rfl) (fun _=>rfl) (by decide) rfl) rfl (by decide+kernel) (by kernel_rfl) (fun _ _=>rfl))
 (SB_cons (SS_augattr aok_add at_npred (SE_loc 3 rfl (by kernel_rfl)) (SE_callB sf_len (SE_bltn (by kernel_rfl) g_len (by kernel_rfl) (by decide) (by kernel_rfl)) (SAr_cons (SA_cons (SE_loc 2 rfl (by kernel_rfl)) SA_nil (star_plain rfl)) (star_plain rfl)) (any_plain rfl)))
 (SB_cons (SS_for (SIt_seq (SE_loc 2 rfl (by kernel_rfl)) go_name) (SAs_name 4 rfl (by decide+kernel) (by kernel_rfl)) (SB_cons (SS_assign 5 (SE_mcall m_get_nodeinfo (sf_get_nodeinfo _) (SE_loc 0 rfl (by kernel_rfl)) (SAr_cons (SA_cons (SE_loc 4 rfl (by kernel_rfl)) SA_nil (star_plain rfl)) (star_plain rfl)) (any_plain rfl) (fun _=>rfl) (by decide) rfl) rfl (by decide+kernel) (by kernel_rfl) (fun _ _=>rfl))
 (SB_cons (SS_expr (SE_meth F.plainAttrs_list F.slot_list_append F.type_list_append sf_append (SE_attr at_succ (SE_loc 5 rfl (by kernel_rfl)) (fun _=>rfl)) (SAr_cons (SA_cons (SE_loc 1 rfl (by kernel_rfl)) SA_nil (star_plain rfl)) (star_plain rfl)) (any_plain rfl) (fun _=>rfl) (by decide) rfl) (fun _ _=>rfl))
 SB_nil)) (fun _ _=>rfl))
 SB_nil)))))
theorem sf_add_ (k:Nat):SFv (.ref 158) (k+3+1) F_add_:=(sfc_add_ k).toSFv
noncomputable def B_find_cycle:PM PFlow:=(bCons (sSet 1 (pAttr (sorterFld 0) (pLoc 0)))
 (bCons (sSet 2 (pList aNil))
 (bCons (sSet 3 (pList aNil))
 (bCons (sSet 4 (pCall (.type "set") F_set0 (pConst (.const (.type "set"))) aNil))
 (bCons (sSet 5 pDict0)
 (bCons (sFor (pIter (pLoc 1)) (setV 6) (bCons (sIf (pIn (pLoc 6) (pLoc 4)) (bCons (ret .cont)
 bNil) bNil)
 (bCons (whileM (pTruth (pConst (.bool true))) (bCons (sIf (pIn (pLoc 6) (pLoc 4)) (bCons (sIf (pIn (pLoc 6) (pLoc 5)) fail bNil)
 bNil) (bCons (sExpr (pMeth "set" F_add (pLoc 4) (aCons (pLoc 6) aNil)))
 (bCons (sExpr (pMeth "list" F_append (pLoc 3) (aCons (pNextOf (pCall (.builtin "iter") F_iter (pConst (.const (.builtin "iter"))) (aCons (pAttr (nodeFld 2) (pSub (pLoc 1) (pLoc 6))) aNil))) aNil)))
 (bCons (sPut (pCall (.builtin "len") F_len (pConst (.const (.builtin "len"))) (aCons (pLoc 2) aNil)) (pLoc 5) (pLoc 6))
 (bCons (sExpr (pMeth "list" F_append (pLoc 2) (aCons (pLoc 6) aNil)))
 bNil)))))
 (bCons (whileM (pTruth (pLoc 2)) (bCons (sTryNext 6 (pSub (pLoc 3) (pConst (.int (-1)))) (bCons (sDel (pLoc 5) (pMeth "list" F_pop (pLoc 2) aNil))
 (bCons (sExpr (pMeth "list" F_pop (pLoc 3) aNil))
 bNil)))
 bNil) (bCons (ret .brk)
 bNil))
 bNil)) bNil)
 bNil)))
 (bCons (sRet (pConst .none))
 bNil)))))))
noncomputable def F_find_cycle:PF:=runF (posB 1 7) B_find_cycle
theorem sfc_find_cycle (k:Nat):SFc (.ref 198) (k+1+1) F_find_cycle:=
 SF_defG (k:=k+1) (ns:=["self","n2i","stack","itstack","seen","node2stacki","node"]) (fun _=>rfl) rfl (fun _=>by kernel_rfl) ⟨rfl,rfl,rfl⟩ ⟨rfl,rfl,rfl⟩ (by kernel_rfl) (by decide+kernel)
  (bind_pos2 (xs:=["self"]) rfl rfl (lenA1 fun a=>by kernel_rfl) (by decide+kernel) (by kernel_rfl))
  ((SB_cons (SS_assign 1 (SE_attr at_n2i (SE_loc 0 rfl (by kernel_rfl)) (fun _=>rfl)) rfl (by decide+kernel) (by kernel_rfl) (fun _ _=>rfl))
 (SB_cons (SS_assign 2 (SE_list SA_nil) rfl (by decide+kernel) (by kernel_rfl) (fun _ _=>rfl))
 (SB_cons (SS_assign 3 (SE_list SA_nil) rfl (by decide+kernel) (by kernel_rfl) (fun _ _=>rfl))
 (SB_cons (SS_assign 4 (SE_callT sf_set0 (SE_bltn (by kernel_rfl) g_set (by kernel_rfl) (by decide) (by kernel_rfl)) SAr_nil (any_plain rfl)) rfl (by decide+kernel) (by kernel_rfl) (fun _ _=>rfl))
 (SB_cons (SS_assign 5 SE_dict0 rfl (by decide+kernel) (by kernel_rfl) (fun _ _=>rfl))
 (SB_cons (SS_for (SIt_seq (SE_loc 1 rfl (by kernel_rfl)) go_name) (SAs_name 6 rfl (by decide+kernel) (by kernel_rfl)) (SB_cons (SS_if (ST_in (SE_loc 6 rfl (by kernel_rfl)) (SE_loc 4 rfl (by kernel_rfl)) rfl) (SB_cons SS_continue
 SB_nil) SB_nil)
 (SB_cons (SS_while (ST_truth SE_bool (fun _ _=>rfl)) (SB_cons (SS_if (ST_in (SE_loc 6 rfl (by kernel_rfl)) (SE_loc 4 rfl (by kernel_rfl)) rfl) (SB_cons (SS_if (ST_in (SE_loc 6 rfl (by kernel_rfl)) (SE_loc 5 rfl (by kernel_rfl)) rfl) SB_fail SB_nil)
 SB_nil) (SB_cons (SS_expr (SE_meth F.plainAttrs_set F.slot_set_add F.type_set_add sf_add (SE_loc 4 rfl (by kernel_rfl)) (SAr_cons (SA_cons (SE_loc 6 rfl (by kernel_rfl)) SA_nil (star_plain rfl)) (star_plain rfl)) (any_plain rfl) (fun _=>rfl) (by decide) rfl) (fun _ _=>rfl))
 (SB_cons (SS_expr (SE_meth F.plainAttrs_list F.slot_list_append F.type_list_append sf_append (SE_loc 3 rfl (by kernel_rfl)) (SAr_cons (SA_cons (SE_next (SE_callB sf_iter (SE_bltn (by kernel_rfl) g_iter (by kernel_rfl) (by decide) (by kernel_rfl)) (SAr_cons (SA_cons (SE_attr at_succ (SE_sub (SE_loc 1 rfl (by kernel_rfl)) (SE_loc 6 rfl (by kernel_rfl)) (fun _ _=>rfl)) (fun _=>rfl)) SA_nil (star_plain rfl)) (star_plain rfl)) (any_plain rfl)) (fun _=>rfl)) SA_nil (star_plain rfl)) (star_plain rfl)) (any_plain rfl) (fun _=>rfl) (by decide) rfl) (fun _ _=>rfl))
 (SB_cons (SS_put (SE_callB sf_len (SE_bltn (by kernel_rfl) g_len (by kernel_rfl) (by decide) (by kernel_rfl)) (SAr_cons (SA_cons (SE_loc 2 rfl (by kernel_rfl)) SA_nil (star_plain rfl)) (star_plain rfl)) (any_plain rfl)) (SE_loc 5 rfl (by kernel_rfl)) (SE_loc 6 rfl (by kernel_rfl)) (fun _ _=>rfl))
 (SB_cons (SS_expr (SE_meth F.plainAttrs_list F.slot_list_append F.type_list_append sf_append (SE_loc 2 rfl (by kernel_rfl)) (SAr_cons (SA_cons (SE_loc 6 rfl (by kernel_rfl)) SA_nil (star_plain rfl)) (star_plain rfl)) (any_plain rfl) (fun _=>rfl) (by decide) rfl) (fun _ _=>rfl))
 SB_nil)))))
 (SB_cons (SS_while (ST_truth (SE_loc 2 rfl (by kernel_rfl)) (fun _ _=>rfl)) (SB_cons (SS_tryNext 6 (SE_sub (SE_loc 3 rfl (by kernel_rfl)) SE_neg (fun _ _=>rfl)) rfl (by decide+kernel) (by kernel_rfl) (fun _ _=>rfl) (fun _=>rfl) (by kernel_rfl) g_StopIteration (by kernel_rfl) (by decide) (by kernel_rfl) (SB_cons (SS_del (SE_loc 5 rfl (by kernel_rfl)) (SE_meth F.plainAttrs_list F.slot_list_pop F.type_list_pop sf_pop (SE_loc 2 rfl (by kernel_rfl)) SAr_nil (any_plain rfl) (fun _=>rfl) (by decide) rfl) (fun _=>rfl))
 (SB_cons (SS_expr (SE_meth F.plainAttrs_list F.slot_list_pop F.type_list_pop sf_pop (SE_loc 3 rfl (by kernel_rfl)) SAr_nil (any_plain rfl) (fun _=>rfl) (by decide) rfl) (fun _ _=>rfl))
 SB_nil)))
 SB_nil) (SB_cons SS_break
 SB_nil))
 SB_nil)) SB_nil)
 SB_nil)) (fun _ _=>rfl))
 (SB_cons (SS_return SE_none)
 SB_nil))))))))
theorem sf_find_cycle (k:Nat):SFv (.ref 198) (k+1+1) F_find_cycle:=(sfc_find_cycle k).toSFv
noncomputable def B_prepare:PM PFlow:=(bCons (sIf (pIsNone true (pAttr (sorterFld 1) (pLoc 0))) fail bNil)
 (bCons (sSetA (sorterPut 1) (pListComp 1 [] (pValsIt (pAttr (sorterFld 0) (pLoc 0))) (setV 0) (pTest (fun x y=>x==y) (pAttr (nodeFld 1) (pLoc 0)) (pConst (.int 0))) (pAttr (nodeFld 0) (pLoc 0))) (pLoc 0))
 (bCons (sSet 1 (pMethS F_find_cycle (pLoc 0) aNil))
 (bCons (sIf (pTruth (pLoc 1)) fail bNil)
 bNil))))
noncomputable def F_prepare:PF:=runF (posB 1 2) B_prepare
theorem sfc_prepare (k:Nat):SFc (.ref 163) (k+2+1) F_prepare:=
 SF_defG (k:=k+2) (ns:=["self","cycle"]) (fun _=>rfl) rfl (fun _=>by kernel_rfl) ⟨rfl,rfl,rfl⟩ ⟨rfl,rfl,rfl⟩ (by kernel_rfl) (by decide+kernel)
  (bind_pos2 (xs:=["self"]) rfl rfl (lenA1 fun a=>by kernel_rfl) (by decide+kernel) (by kernel_rfl))
  ((SB_cons (SS_if (ST_isNotNone (SE_attr at_ready (SE_loc 0 rfl (by kernel_rfl)) (fun _=>rfl))) SB_fail SB_nil)
 (SB_cons (SS_setattr at_ready (SE_listcomp (compOK0 (xs:=["i"]) (fun _=>rfl) (by kernel_rfl) rfl (by kernel_rfl) (by kernel_rfl) (by kernel_rfl) (by decide+kernel) rfl) (SIt_vals (SE_attr at_n2i (SE_loc 0 rfl (by kernel_rfl)) (fun _=>rfl)) go_name (fun _=>rfl) rfl) (SAs_name 0 rfl (by decide+kernel) (by kernel_rfl)) (STs_one (ST_cmp cok_eq (SE_attr at_npred (SE_loc 0 rfl (by kernel_rfl)) (fun _=>rfl)) SE_cint rfl)) (SE_attr at_node (SE_loc 0 rfl (by kernel_rfl)) (fun _=>rfl)) (fun _ _=>rfl)) (SE_loc 0 rfl (by kernel_rfl)) (fun _ _=>rfl))
 (SB_cons (SS_assign 1 (SE_mcall m_find_cycle (sf_find_cycle _) (SE_loc 0 rfl (by kernel_rfl)) SAr_nil (any_plain rfl) (fun _=>rfl) (by decide) rfl) rfl (by decide+kernel) (by kernel_rfl) (fun _ _=>rfl))
 (SB_cons (SS_if (ST_truth (SE_loc 1 rfl (by kernel_rfl)) (fun _ _=>rfl)) SB_fail SB_nil)
 SB_nil)))))
theorem sf_prepare (k:Nat):SFv (.ref 163) (k+2+1) F_prepare:=(sfc_prepare k).toSFv
noncomputable def B_get_ready:PM PFlow:=(bCons (sIf (pIsNone false (pAttr (sorterFld 1) (pLoc 0))) fail bNil)
 (bCons (sSet 1 (pCall (.type "tuple") F_tuple (pConst (.const (.type "tuple"))) (aCons (pAttr (sorterFld 1) (pLoc 0)) aNil)))
 (bCons (sSet 2 (pAttr (sorterFld 0) (pLoc 0)))
 (bCons (sFor (pIter (pLoc 1)) (setV 3) (bCons (sSetA (nodePut 1) (pConst (.int (-1))) (pSub (pLoc 2) (pLoc 3)))
 bNil))
 (bCons (sExpr (pMeth "list" F_clear (pAttr (sorterFld 1) (pLoc 0)) aNil))
 (bCons (sAugA (sorterFld 2) (sorterPut 2) oAdd true (pLoc 0) (pCall (.builtin "len") F_len (pConst (.const (.builtin "len"))) (aCons (pLoc 1) aNil)))
 (bCons (sRet (pLoc 1))
 bNil)))))))
noncomputable def F_get_ready:PF:=runF (posB 1 4) B_get_ready
theorem sfc_get_ready (k:Nat):SFc (.ref 170) (k+1+1) F_get_ready:=
 SF_defG (k:=k+1) (ns:=["self","result","n2i","node"]) (fun _=>rfl) rfl (fun _=>by kernel_rfl) ⟨rfl,rfl,rfl⟩ ⟨rfl,rfl,rfl⟩ (by kernel_rfl) (by decide+kernel)
  (bind_pos2 (xs:=["self"]) rfl rfl (lenA1 fun a=>by kernel_rfl) (by decide+kernel) (by kernel_rfl))
  ((SB_cons (SS_if (ST_isNone (SE_attr at_ready (SE_loc 0 rfl (by kernel_rfl)) (fun _=>rfl))) SB_fail SB_nil)
 (SB_cons (SS_assign 1 (SE_callT sf_tuple (SE_bltn (by kernel_rfl) g_tuple (by kernel_rfl) (by decide) (by kernel_rfl)) (SAr_cons (SA_cons (SE_attr at_ready (SE_loc 0 rfl (by kernel_rfl)) (fun _=>rfl)) SA_nil (star_plain rfl)) (star_plain rfl)) (any_plain rfl)) rfl (by decide+kernel) (by kernel_rfl) (fun _ _=>rfl))
 (SB_cons (SS_assign 2 (SE_attr at_n2i (SE_loc 0 rfl (by kernel_rfl)) (fun _=>rfl)) rfl (by decide+kernel) (by kernel_rfl) (fun _ _=>rfl))
 (SB_cons (SS_for (SIt_seq (SE_loc 1 rfl (by kernel_rfl)) go_name) (SAs_name 3 rfl (by decide+kernel) (by kernel_rfl)) (SB_cons (SS_setattr at_npred (SE_globN (by kernel_rfl) g_NODE_OUT (by kernel_rfl)) (SE_sub (SE_loc 2 rfl (by kernel_rfl)) (SE_loc 3 rfl (by kernel_rfl)) (fun _ _=>rfl)) (fun _ _=>rfl))
 SB_nil) (fun _ _=>rfl))
 (SB_cons (SS_expr (SE_meth F.plainAttrs_list F.slot_list_clear F.type_list_clear sf_clear (SE_attr at_ready (SE_loc 0 rfl (by kernel_rfl)) (fun _=>rfl)) SAr_nil (any_plain rfl) (fun _=>rfl) (by decide) rfl) (fun _ _=>rfl))
 (SB_cons (SS_augattr aok_add at_passed (SE_loc 0 rfl (by kernel_rfl)) (SE_callB sf_len (SE_bltn (by kernel_rfl) g_len (by kernel_rfl) (by decide) (by kernel_rfl)) (SAr_cons (SA_cons (SE_loc 1 rfl (by kernel_rfl)) SA_nil (star_plain rfl)) (star_plain rfl)) (any_plain rfl)))
 (SB_cons (SS_return (SE_loc 1 rfl (by kernel_rfl)))
 SB_nil))))))))
theorem sf_get_ready (k:Nat):SFv (.ref 170) (k+1+1) F_get_ready:=(sfc_get_ready k).toSFv
noncomputable def B_is_active:PM PFlow:=(bCons (sIf (pIsNone false (pAttr (sorterFld 1) (pLoc 0))) fail bNil)
 (bCons (sRet (pOr (asBool (pTest (fun x y=>decide (x<y)) (pAttr (sorterFld 3) (pLoc 0)) (pAttr (sorterFld 2) (pLoc 0)))) (pCall (.type "bool") F_bool (pConst (.const (.type "bool"))) (aCons (pAttr (sorterFld 1) (pLoc 0)) aNil))))
 bNil))
noncomputable def F_is_active:PF:=runF (posB 1 1) B_is_active
theorem sfc_is_active (k:Nat):SFc (.ref 177) (k+0+1) F_is_active:=
 SF_defG (k:=k+0) (ns:=["self"]) (fun _=>rfl) rfl (fun _=>by kernel_rfl) ⟨rfl,rfl,rfl⟩ ⟨rfl,rfl,rfl⟩ (by kernel_rfl) (by decide+kernel)
  (bind_pos2 (xs:=["self"]) rfl rfl (lenA1 fun a=>by kernel_rfl) (by decide+kernel) (by kernel_rfl))
  ((SB_cons (SS_if (ST_isNone (SE_attr at_ready (SE_loc 0 rfl (by kernel_rfl)) (fun _=>rfl))) SB_fail SB_nil)
 (SB_cons (SS_return (SE_or (SE_cmp cok_lt (SE_attr at_fin (SE_loc 0 rfl (by kernel_rfl)) (fun _=>rfl)) (SE_attr at_passed (SE_loc 0 rfl (by kernel_rfl)) (fun _=>rfl)) rfl) (SE_callT sf_bool (SE_bltn (by kernel_rfl) g_bool (by kernel_rfl) (by decide) (by kernel_rfl)) (SAr_cons (SA_cons (SE_attr at_ready (SE_loc 0 rfl (by kernel_rfl)) (fun _=>rfl)) SA_nil (star_plain rfl)) (star_plain rfl)) (any_plain rfl)) (fun _=>rfl)))
 SB_nil)))
theorem sf_is_active (k:Nat):SFv (.ref 177) (k+0+1) F_is_active:=(sfc_is_active k).toSFv
noncomputable def B_done:PM PFlow:=(bCons (sIf (pIsNone false (pAttr (sorterFld 1) (pLoc 0))) fail bNil)
 (bCons (sSet 2 (pAttr (sorterFld 0) (pLoc 0)))
 (bCons (sFor (pIter (pLoc 1)) (setV 3) (bCons (sIf (pIsNone false (pNamed (setV 4) (pMeth "dict" F_get (pLoc 2) (aCons (pLoc 3) aNil)))) fail bNil)
 (bCons (sSet 5 (pAttr (nodeFld 1) (pLoc 4)))
 (bCons (sIf (pTest (fun x y=>x !=y) (pLoc 5) (pConst (.int (-1)))) fail bNil)
 (bCons (sSetA (nodePut 1) (pConst (.int (-2))) (pLoc 4))
 (bCons (sFor (pIter (pAttr (nodeFld 2) (pLoc 4))) (setV 6) (bCons (sSet 7 (pSub (pLoc 2) (pLoc 6)))
 (bCons (sAugA (nodeFld 1) (nodePut 1) oSub false (pLoc 7) (pConst (.int 1)))
 (bCons (sIf (pTest (fun x y=>x==y) (pAttr (nodeFld 1) (pLoc 7)) (pConst (.int 0))) (bCons (sExpr (pMeth "list" F_append (pAttr (sorterFld 1) (pLoc 0)) (aCons (pLoc 6) aNil)))
 bNil) bNil)
 bNil))))
 (bCons (sAugA (sorterFld 3) (sorterPut 3) oAdd true (pLoc 0) (pConst (.int 1)))
 bNil)))))))
 bNil)))
noncomputable def F_done:PF:=runF (varB 1 6) B_done
theorem sfc_done (k:Nat):SFc (.ref 191) (k+1+1) F_done:=
 SF_defG (k:=k+1) (ns:=["self","nodes","n2i","node","nodeinfo","stat","successor","successor_info"]) (fun _=>rfl) rfl (fun _=>by kernel_rfl) ⟨rfl,rfl,rfl⟩ ⟨rfl,rfl,rfl⟩ (by kernel_rfl) (by decide+kernel)
  (bind_var (xs:=["self"]) (va:="nodes") rfl rfl (lenV1 (fun a=>by kernel_rfl) (fun a b=>by kernel_rfl) fun a b c=>by kernel_rfl) (by decide+kernel) (by kernel_rfl))
  ((SB_cons (SS_if (ST_isNone (SE_attr at_ready (SE_loc 0 rfl (by kernel_rfl)) (fun _=>rfl))) SB_fail SB_nil)
 (SB_cons (SS_assign 2 (SE_attr at_n2i (SE_loc 0 rfl (by kernel_rfl)) (fun _=>rfl)) rfl (by decide+kernel) (by kernel_rfl) (fun _ _=>rfl))
 (SB_cons (SS_for (SIt_seq (SE_loc 1 rfl (by kernel_rfl)) go_name) (SAs_name 3 rfl (by decide+kernel) (by kernel_rfl)) (SB_cons (SS_if (ST_isNone (SE_named (SE_meth F.plainAttrs_dict F.slot_dict_get F.type_dict_get sf_get (SE_loc 2 rfl (by kernel_rfl)) (SAr_cons (SA_cons (SE_loc 3 rfl (by kernel_rfl)) SA_nil (star_plain rfl)) (star_plain rfl)) (any_plain rfl) (fun _=>rfl) (by decide) rfl) (SAs_name 4 rfl (by decide+kernel) (by kernel_rfl)))) SB_fail SB_nil)
 (SB_cons (SS_assign 5 (SE_attr at_npred (SE_loc 4 rfl (by kernel_rfl)) (fun _=>rfl)) rfl (by decide+kernel) (by kernel_rfl) (fun _ _=>rfl))
 (SB_cons (SS_if (ST_cmp cok_ne (SE_loc 5 rfl (by kernel_rfl)) (SE_globN (by kernel_rfl) g_NODE_OUT (by kernel_rfl)) rfl) SB_fail SB_nil)
 (SB_cons (SS_setattr at_npred (SE_globN (by kernel_rfl) g_NODE_DONE (by kernel_rfl)) (SE_loc 4 rfl (by kernel_rfl)) (fun _ _=>rfl))
 (SB_cons (SS_for (SIt_seq (SE_attr at_succ (SE_loc 4 rfl (by kernel_rfl)) (fun _=>rfl)) go_name) (SAs_name 6 rfl (by decide+kernel) (by kernel_rfl)) (SB_cons (SS_assign 7 (SE_sub (SE_loc 2 rfl (by kernel_rfl)) (SE_loc 6 rfl (by kernel_rfl)) (fun _ _=>rfl)) rfl (by decide+kernel) (by kernel_rfl) (fun _ _=>rfl))
 (SB_cons (SS_augattr aok_sub at_npred (SE_loc 7 rfl (by kernel_rfl)) SE_cint)
 (SB_cons (SS_if (ST_cmp cok_eq (SE_attr at_npred (SE_loc 7 rfl (by kernel_rfl)) (fun _=>rfl)) SE_cint rfl) (SB_cons (SS_expr (SE_meth F.plainAttrs_list F.slot_list_append F.type_list_append sf_append (SE_attr at_ready (SE_loc 0 rfl (by kernel_rfl)) (fun _=>rfl)) (SAr_cons (SA_cons (SE_loc 6 rfl (by kernel_rfl)) SA_nil (star_plain rfl)) (star_plain rfl)) (any_plain rfl) (fun _=>rfl) (by decide) rfl) (fun _ _=>rfl))
 SB_nil) SB_nil)
 SB_nil))) (fun _ _=>rfl))
 (SB_cons (SS_augattr aok_add at_fin (SE_loc 0 rfl (by kernel_rfl)) SE_cint)
 SB_nil)))))) (fun _ _=>rfl))
 SB_nil))))
theorem sf_done (k:Nat):SFv (.ref 191) (k+1+1) F_done:=(sfc_done k).toSFv
end Mine.Internal
namespace Mine.Internal
open PySem PySem.W PyProof.Rows PySem.Calls
noncomputable def B_law_recipes:PM PFlow:=(bCons (sSet 2 pDict0)
 (bCons (sFor (pRangeIt (pConst (.int 5))) (setV 3) (bCons (sPut (pList aNil) (pLoc 2) (pSub (pLoc 1) (pLoc 3)))
 bNil))
 (bCons (sFor (pZipIt (pLoc 0) (pList (aCons (pConst (.int 0)) (aCons (pConst (.int 1)) (aCons (pConst (.int 2)) (aCons (pConst (.int 2)) (aCons (pConst (.int 3)) (aCons (pConst (.int 3)) (aCons (pConst (.int 4)) (aCons (pConst (.int 4)) aNil)))))))))) (tupT [(setV 4),(setV 3)]) (bCons (sIf (pLt (pLoc 3) (pConst (.int 2))) (bCons (sPut (pList (aCons (pTup (aCons (pBin oMod (pLoc 4) (pConst (.int 4))) (aCons (pList aNil) aNil))) (aCons (pTup (aCons (pBin oMod (pBin oDiv (pLoc 4) (pConst (.int 4))) (pConst (.int 4))) (aCons (pList aNil) aNil))) aNil))) (pLoc 2) (pSub (pLoc 1) (pLoc 3)))
 bNil) (bCons (sSet 5 (pList (aCons (pSub (pLoc 1) (pBin oMod (pBin oDiv (pLoc 4) (pConst (.int 4))) (pLoc 3))) aNil)))
 (bCons (sSet 6 (pBin oMod (pBin oDiv (pLoc 4) (pBin oMul (pConst (.int 4)) (pLoc 3))) (pBin oAdd (pLoc 3) (pConst (.int 1)))))
 (bCons (sIf (pLt (pLoc 6) (pLoc 3)) (bCons (sExpr (pMeth "list" F_append (pLoc 5) (aCons (pSub (pLoc 1) (pLoc 6)) aNil)))
 bNil) bNil)
 (bCons (sExpr (pMeth "list" F_append (pSub (pLoc 2) (pSub (pLoc 1) (pLoc 3))) (aCons (pTup (aCons (pBin oMod (pLoc 4) (pConst (.int 4))) (aCons (pLoc 5) aNil))) aNil)))
 bNil)))))
 bNil))
 (bCons (sRet (pLoc 2))
 bNil))))
noncomputable def F_law_recipes:PF:=runF (posB 2 7) B_law_recipes
set_option maxHeartbeats 4000000 in
theorem sfc_law_recipes (k:Nat):SFc (.ref 219) (k+1+1) F_law_recipes:=
 SF_defG (k:=k+1) (ns:=["wants","hidden","recipes","place","number","parts","second"]) (fun _=>rfl) rfl (fun _=>by kernel_rfl) ⟨rfl,rfl,rfl⟩ ⟨rfl,rfl,rfl⟩ (by kernel_rfl) (by decide+kernel)
  (bind_pos2 (xs:=["wants","hidden"]) rfl rfl (lenA2 fun a b=>by kernel_rfl) (by decide+kernel) (by kernel_rfl))
  ((SB_cons (SS_assign 2 SE_dict0 rfl (by decide+kernel) (by kernel_rfl) (fun _ _=>rfl))
 (SB_cons (SS_for (SIt_range (SE_bltn (by kernel_rfl) g_range (by kernel_rfl) (by decide) (by kernel_rfl)) SE_cint go_name (fun _=>rfl)) (SAs_name 3 rfl (by decide+kernel) (by kernel_rfl)) (SB_cons (SS_put (SE_list SA_nil) (SE_loc 2 rfl (by kernel_rfl)) (SE_sub (SE_loc 1 rfl (by kernel_rfl)) (SE_loc 3 rfl (by kernel_rfl)) (fun _ _=>rfl)) (fun _ _=>rfl))
 SB_nil) (fun _ _=>rfl))
 (SB_cons (SS_for (SIt_zip (SE_bltn (by kernel_rfl) g_zip (by kernel_rfl) (by decide) (by kernel_rfl)) (SE_loc 0 rfl (by kernel_rfl)) (SE_list (SA_cons SE_cint (SA_cons SE_cint (SA_cons SE_cint (SA_cons SE_cint (SA_cons SE_cint (SA_cons SE_cint (SA_cons SE_cint (SA_cons SE_cint SA_nil (star_plain rfl)) (star_plain rfl)) (star_plain rfl)) (star_plain rfl)) (star_plain rfl)) (star_plain rfl)) (star_plain rfl)) (star_plain rfl))) (SA_cons (SE_loc 0 rfl (by kernel_rfl)) (SA_cons (SE_list (SA_cons SE_cint (SA_cons SE_cint (SA_cons SE_cint (SA_cons SE_cint (SA_cons SE_cint (SA_cons SE_cint (SA_cons SE_cint (SA_cons SE_cint SA_nil (star_plain rfl)) (star_plain rfl)) (star_plain rfl)) (star_plain rfl)) (star_plain rfl)) (star_plain rfl)) (star_plain rfl)) (star_plain rfl))) SA_nil (star_plain rfl)) (star_plain rfl)) (fun _=>rfl) (fun _=>rfl)) (SAs_tuple (SAsE_cons (SAs_name 4 rfl (by decide+kernel) (by kernel_rfl)) (SAsE_cons (SAs_name 3 rfl (by decide+kernel) (by kernel_rfl)) SAsE_nil (assign_plain rfl)) (assign_plain rfl))) (SB_cons (SS_if (ST_lt (SE_loc 3 rfl (by kernel_rfl)) SE_cint rfl) (SB_cons (SS_put (SE_list (SA_cons (SE_tuple (SA_cons (SE_bin ok_mod (SE_loc 4 rfl (by kernel_rfl)) SE_cint) (SA_cons (SE_list SA_nil) SA_nil (star_plain rfl)) (star_plain rfl))) (SA_cons (SE_tuple (SA_cons (SE_bin ok_mod (SE_bin ok_div (SE_loc 4 rfl (by kernel_rfl)) SE_cint) SE_cint) (SA_cons (SE_list SA_nil) SA_nil (star_plain rfl)) (star_plain rfl))) SA_nil (star_plain rfl)) (star_plain rfl))) (SE_loc 2 rfl (by kernel_rfl)) (SE_sub (SE_loc 1 rfl (by kernel_rfl)) (SE_loc 3 rfl (by kernel_rfl)) (fun _ _=>rfl)) (fun _ _=>rfl))
 SB_nil) (SB_cons (SS_assign 5 (SE_list (SA_cons (SE_sub (SE_loc 1 rfl (by kernel_rfl)) (SE_bin ok_mod (SE_bin ok_div (SE_loc 4 rfl (by kernel_rfl)) SE_cint) (SE_loc 3 rfl (by kernel_rfl))) (fun _ _=>rfl)) SA_nil (star_plain rfl))) rfl (by decide+kernel) (by kernel_rfl) (fun _ _=>rfl))
 (SB_cons (SS_assign 6 (SE_bin ok_mod (SE_bin ok_div (SE_loc 4 rfl (by kernel_rfl)) (SE_bin ok_mul SE_cint (SE_loc 3 rfl (by kernel_rfl)))) (SE_bin ok_add (SE_loc 3 rfl (by kernel_rfl)) SE_cint)) rfl (by decide+kernel) (by kernel_rfl) (fun _ _=>rfl))
 (SB_cons (SS_if (ST_lt (SE_loc 6 rfl (by kernel_rfl)) (SE_loc 3 rfl (by kernel_rfl)) rfl) (SB_cons (SS_expr (SE_meth F.plainAttrs_list F.slot_list_append F.type_list_append sf_append (SE_loc 5 rfl (by kernel_rfl)) (SAr_cons (SA_cons (SE_sub (SE_loc 1 rfl (by kernel_rfl)) (SE_loc 6 rfl (by kernel_rfl)) (fun _ _=>rfl)) SA_nil (star_plain rfl)) (star_plain rfl)) (any_plain rfl) (fun _=>rfl) (by decide) rfl) (fun _ _=>rfl))
 SB_nil) SB_nil)
 (SB_cons (SS_expr (SE_meth F.plainAttrs_list F.slot_list_append F.type_list_append sf_append (SE_sub (SE_loc 2 rfl (by kernel_rfl)) (SE_sub (SE_loc 1 rfl (by kernel_rfl)) (SE_loc 3 rfl (by kernel_rfl)) (fun _ _=>rfl)) (fun _ _=>rfl)) (SAr_cons (SA_cons (SE_tuple (SA_cons (SE_bin ok_mod (SE_loc 4 rfl (by kernel_rfl)) SE_cint) (SA_cons (SE_loc 5 rfl (by kernel_rfl)) SA_nil (star_plain rfl)) (star_plain rfl))) SA_nil (star_plain rfl)) (star_plain rfl)) (any_plain rfl) (fun _=>rfl) (by decide) rfl) (fun _ _=>rfl))
 SB_nil)))))
 SB_nil) (fun _ _=>rfl))
 (SB_cons (SS_return (SE_loc 2 rfl (by kernel_rfl)))
 SB_nil)))))
theorem sf_law_recipes (k:Nat):SFv (.ref 219) (k+1+1) F_law_recipes:=(sfc_law_recipes k).toSFv
noncomputable def B_law_totals:PM PFlow:=(bCons (sSet 1 (pList (aCons (pConst (.int 0)) (aCons (pConst (.int 0)) (aCons (pConst (.int 0)) (aCons (pConst (.int 0)) (aCons (pConst (.int 0)) aNil)))))))
 (bCons (sFor (pRangeIt (pConst (.int 5))) (setV 2) (bCons (sSet 3 (pList aNil))
 (bCons (sFor (pRangeIt (pConst (.int 5))) (setV 4) (bCons (sSet 5 (pConst (.int 0)))
 (bCons (sFor (pIter (pSub (pLoc 0) (pLoc 4))) (tupT [(setV 6),(setV 7)]) (bCons (sSet 8 (pBin oPow (pConst (.int 2)) (pBin oMul (pConst (.int 16)) (pLoc 6))))
 (bCons (sFor (pIter (pLoc 7)) (setV 9) (bCons (sSet 8 (pBin oMul (pLoc 8) (pSub (pLoc 1) (pLoc 9))))
 bNil))
 (bCons (sAug 5 oAdd true (pLoc 8))
 bNil))))
 (bCons (sExpr (pMeth "list" F_append (pLoc 3) (aCons (pLoc 5) aNil)))
 bNil))))
 (bCons (sSet 1 (pLoc 3))
 bNil))))
 (bCons (sRet (pLoc 1))
 bNil)))
noncomputable def F_law_totals:PF:=runF (posB 1 10) B_law_totals
theorem sfc_law_totals (k:Nat):SFc (.ref 238) (k+1+1) F_law_totals:=
 SF_defG (k:=k+1) (ns:=["recipes","totals","step","fresh","thing","total","price","parts","ways","part"]) (fun _=>rfl) rfl (fun _=>by kernel_rfl) ⟨rfl,rfl,rfl⟩ ⟨rfl,rfl,rfl⟩ (by kernel_rfl) (by decide+kernel)
  (bind_pos2 (xs:=["recipes"]) rfl rfl (lenA1 fun a=>by kernel_rfl) (by decide+kernel) (by kernel_rfl))
  ((SB_cons (SS_assign 1 (SE_list (SA_cons SE_cint (SA_cons SE_cint (SA_cons SE_cint (SA_cons SE_cint (SA_cons SE_cint SA_nil (star_plain rfl)) (star_plain rfl)) (star_plain rfl)) (star_plain rfl)) (star_plain rfl))) rfl (by decide+kernel) (by kernel_rfl) (fun _ _=>rfl))
 (SB_cons (SS_for (SIt_range (SE_bltn (by kernel_rfl) g_range (by kernel_rfl) (by decide) (by kernel_rfl)) SE_cint go_name (fun _=>rfl)) (SAs_name 2 rfl (by decide+kernel) (by kernel_rfl)) (SB_cons (SS_assign 3 (SE_list SA_nil) rfl (by decide+kernel) (by kernel_rfl) (fun _ _=>rfl))
 (SB_cons (SS_for (SIt_range (SE_bltn (by kernel_rfl) g_range (by kernel_rfl) (by decide) (by kernel_rfl)) SE_cint go_name (fun _=>rfl)) (SAs_name 4 rfl (by decide+kernel) (by kernel_rfl)) (SB_cons (SS_assign 5 SE_cint rfl (by decide+kernel) (by kernel_rfl) (fun _ _=>rfl))
 (SB_cons (SS_for (SIt_seq (SE_sub (SE_loc 0 rfl (by kernel_rfl)) (SE_loc 4 rfl (by kernel_rfl)) (fun _ _=>rfl)) go_tuple) (SAs_tuple (SAsE_cons (SAs_name 6 rfl (by decide+kernel) (by kernel_rfl)) (SAsE_cons (SAs_name 7 rfl (by decide+kernel) (by kernel_rfl)) SAsE_nil (assign_plain rfl)) (assign_plain rfl))) (SB_cons (SS_assign 8 (SE_bin ok_pow SE_cint (SE_bin ok_mul SE_cint (SE_loc 6 rfl (by kernel_rfl)))) rfl (by decide+kernel) (by kernel_rfl) (fun _ _=>rfl))
 (SB_cons (SS_for (SIt_seq (SE_loc 7 rfl (by kernel_rfl)) go_name) (SAs_name 9 rfl (by decide+kernel) (by kernel_rfl)) (SB_cons (SS_assign 8 (SE_bin ok_mul (SE_loc 8 rfl (by kernel_rfl)) (SE_sub (SE_loc 1 rfl (by kernel_rfl)) (SE_loc 9 rfl (by kernel_rfl)) (fun _ _=>rfl))) rfl (by decide+kernel) (by kernel_rfl) (fun _ _=>rfl))
 SB_nil) (fun _ _=>rfl))
 (SB_cons (SS_aug 5 aok_add (SE_loc 8 rfl (by kernel_rfl)) rfl (by decide+kernel) (by kernel_rfl) (by kernel_rfl))
 SB_nil))) (fun _ _=>rfl))
 (SB_cons (SS_expr (SE_meth F.plainAttrs_list F.slot_list_append F.type_list_append sf_append (SE_loc 3 rfl (by kernel_rfl)) (SAr_cons (SA_cons (SE_loc 5 rfl (by kernel_rfl)) SA_nil (star_plain rfl)) (star_plain rfl)) (any_plain rfl) (fun _=>rfl) (by decide) rfl) (fun _ _=>rfl))
 SB_nil))) (fun _ _=>rfl))
 (SB_cons (SS_assign 1 (SE_loc 3 rfl (by kernel_rfl)) rfl (by decide+kernel) (by kernel_rfl) (fun _ _=>rfl))
 SB_nil))) (fun _ _=>rfl))
 (SB_cons (SS_return (SE_loc 1 rfl (by kernel_rfl)))
 SB_nil))))
theorem sf_law_totals (k:Nat):SFv (.ref 238) (k+1+1) F_law_totals:=(sfc_law_totals k).toSFv
noncomputable def B_law_first_three:PM PFlow:=(bCons (sSwap 1 2 (pTup (aCons (pList aNil) (aCons (pConst (.int 0)) aNil))))
 (bCons (whileM (pAnd (pTest (fun x y=>decide (y<x)) (pLoc 0) (pConst (.int 0))) (pLt (pCall (.builtin "len") F_len (pConst (.const (.builtin "len"))) (aCons (pLoc 1) aNil)) (pConst (.int 3)))) (bCons (sAug 1 oAdd true (pMulLL (pList (aCons (pLoc 2) aNil)) (pCall (.builtin "min") F_min (pConst (.const (.builtin "min"))) (aCons (pConst (.int 3)) (aCons (pBin oMod (pLoc 0) (pConst (.int 65536))) aNil)))))
 (bCons (sSet 0 (pBin oDiv (pLoc 0) (pConst (.int 65536))))
 (bCons (sAug 2 oAdd true (pConst (.int 1)))
 bNil))) bNil)
 (bCons (sRet (pSlice (pLoc 1) (pConst .none) (pConst (.int 3)) (pConst .none)))
 bNil)))
noncomputable def F_law_first_three:PF:=runF (posB 1 3) B_law_first_three
theorem sfc_law_first_three (k:Nat):SFc (.ref 245) (k+1+1) F_law_first_three:=
 SF_defG (k:=k+1) (ns:=["total","prices","price"]) (fun _=>rfl) rfl (fun _=>by kernel_rfl) ⟨rfl,rfl,rfl⟩ ⟨rfl,rfl,rfl⟩ (by kernel_rfl) (by decide+kernel)
  (bind_pos2 (xs:=["total"]) rfl rfl (lenA1 fun a=>by kernel_rfl) (by decide+kernel) (by kernel_rfl))
  ((SB_cons (SS_swap 1 2 (SE_tuple (SA_cons (SE_list SA_nil) (SA_cons SE_cint SA_nil (star_plain rfl)) (star_plain rfl))) rfl rfl (by decide+kernel) (by kernel_rfl) (by kernel_rfl) (fun env h=>⟨rfl,by unfold swappedStores Env.blockKind Env.kindOf;rw[h];rfl⟩))
 (SB_cons (SS_while (ST_and (ST_cmp cok_gt (SE_loc 0 rfl (by kernel_rfl)) SE_cint rfl) (ST_lt (SE_callB sf_len (SE_bltn (by kernel_rfl) g_len (by kernel_rfl) (by decide) (by kernel_rfl)) (SAr_cons (SA_cons (SE_loc 1 rfl (by kernel_rfl)) SA_nil (star_plain rfl)) (star_plain rfl)) (any_plain rfl)) SE_cint rfl)) (SB_cons (SS_aug 1 aok_add (SE_mulL (SE_list (SA_cons (SE_loc 2 rfl (by kernel_rfl)) SA_nil (star_plain rfl))) (SE_callB sf_min (SE_bltn (by kernel_rfl) g_min (by kernel_rfl) (by decide) (by kernel_rfl)) (SAr_cons (SA_cons SE_cint (SA_cons (SE_bin ok_mod (SE_loc 0 rfl (by kernel_rfl)) SE_cint) SA_nil (star_plain rfl)) (star_plain rfl)) (star_plain rfl)) (any_plain rfl))) rfl (by decide+kernel) (by kernel_rfl) (by kernel_rfl))
 (SB_cons (SS_assign 0 (SE_bin ok_div (SE_loc 0 rfl (by kernel_rfl)) SE_cint) rfl (by decide+kernel) (by kernel_rfl) (fun _ _=>rfl))
 (SB_cons (SS_aug 2 aok_add SE_cint rfl (by decide+kernel) (by kernel_rfl) (by kernel_rfl))
 SB_nil))) SB_nil)
 (SB_cons (SS_return (SE_slice (SE_loc 1 rfl (by kernel_rfl)) SP_none (SP_some SE_cint) (fun _ _=>rfl)))
 SB_nil))))
theorem sf_law_first_three (k:Nat):SFv (.ref 245) (k+1+1) F_law_first_three:=(sfc_law_first_three k).toSFv
noncomputable def B_law_least:PM PFlow:=(bCons (sSet 1 (pCall (.ref 208) F_TopologicalSorter (pConst (.const (.ref 208))) aNil))
 (bCons (sFor (pRangeIt (pConst (.int 5))) (setV 2) (bCons (sFor (pIter (pSub (pLoc 0) (pLoc 2))) (tupT [(setV 3),(setV 4)]) (bCons (sExpr (pMethS F_add_ (pLoc 1) (aCons (pLoc 2) (aStar (pLoc 4) aNil))))
 bNil))
 bNil))
 (bCons (sExpr (pMethS F_prepare (pLoc 1) aNil))
 (bCons (sSet 5 pDict0)
 (bCons (whileM (pTruth (pMethS F_is_active (pLoc 1) aNil)) (bCons (sFor (pIter (pMethS F_get_ready (pLoc 1) aNil)) (setV 2) (bCons (sSet 6 (pList aNil))
 (bCons (sFor (pIter (pSub (pLoc 0) (pLoc 2))) (tupT [(setV 3),(setV 4)]) (bCons (sAug 6 oAdd true (pCall (.ref 92) F_reduce (pConst (.const (.ref 92))) (aCons (pConst (.const (.ref 226))) (aCons (pListComp 1 [(5,"least")] (pIter (pLoc 4)) (setV 0) (ret true) (pSub (pLoc 1) (pLoc 0))) (aCons (pList (aCons (pLoc 3) aNil)) aNil)))))
 bNil))
 (bCons (sPut (pCall (.ref 83) F_nsmallest (pConst (.const (.ref 83))) (aCons (pConst (.int 3)) (aCons (pLoc 6) aNil))) (pLoc 5) (pLoc 2))
 (bCons (sExpr (pMethS F_done (pLoc 1) (aCons (pLoc 2) aNil)))
 bNil)))))
 bNil) bNil)
 (bCons (sRet (pLoc 5))
 bNil))))))
noncomputable def F_law_least:PF:=runF (posB 1 7) B_law_least
theorem sfc_law_least (k:Nat):SFc (.ref 231) (k+5+1) F_law_least:=
 SF_defG (k:=k+5) (ns:=["recipes","sorter","thing","price","parts","least","sums"]) (fun _=>rfl) rfl (fun _=>by kernel_rfl) ⟨rfl,rfl,rfl⟩ ⟨rfl,rfl,rfl⟩ (by kernel_rfl) (by decide+kernel)
  (bind_pos2 (xs:=["recipes"]) rfl rfl (lenA1 fun a=>by kernel_rfl) (by decide+kernel) (by kernel_rfl))
  ((SB_cons (SS_assign 1 (SE_callK (sf_TopologicalSorter _) (fun _=>by kernel_rfl) (SE_glob (by kernel_rfl) g_TopologicalSorter (by kernel_rfl)) SAr_nil (any_plain rfl)) rfl (by decide+kernel) (by kernel_rfl) (fun _ _=>rfl))
 (SB_cons (SS_for (SIt_range (SE_bltn (by kernel_rfl) g_range (by kernel_rfl) (by decide) (by kernel_rfl)) SE_cint go_name (fun _=>rfl)) (SAs_name 2 rfl (by decide+kernel) (by kernel_rfl)) (SB_cons (SS_for (SIt_seq (SE_sub (SE_loc 0 rfl (by kernel_rfl)) (SE_loc 2 rfl (by kernel_rfl)) (fun _ _=>rfl)) go_tuple) (SAs_tuple (SAsE_cons (SAs_name 3 rfl (by decide+kernel) (by kernel_rfl)) (SAsE_cons (SAs_name 4 rfl (by decide+kernel) (by kernel_rfl)) SAsE_nil (assign_plain rfl)) (assign_plain rfl))) (SB_cons (SS_expr (SE_mstar m_add (sfc_add_ _) (SE_loc 1 rfl (by kernel_rfl)) (SAr_cons (SA_cons (SE_loc 2 rfl (by kernel_rfl)) (SA_star (SE_loc 4 rfl (by kernel_rfl)) SA_nil (fun _=>rfl)) (star_plain rfl)) (star_plain rfl)) (fun _=>rfl) (fun _=>rfl) (fun _=>rfl)) (fun _ _=>rfl))
 SB_nil) (fun _ _=>rfl))
 SB_nil) (fun _ _=>rfl))
 (SB_cons (SS_expr (SE_mcall m_prepare (sf_prepare _) (SE_loc 1 rfl (by kernel_rfl)) SAr_nil (any_plain rfl) (fun _=>rfl) (by decide) rfl) (fun _ _=>rfl))
 (SB_cons (SS_assign 5 SE_dict0 rfl (by decide+kernel) (by kernel_rfl) (fun _ _=>rfl))
 (SB_cons (SS_while (ST_truth (SE_mcall m_is_active (sf_is_active _) (SE_loc 1 rfl (by kernel_rfl)) SAr_nil (any_plain rfl) (fun _=>rfl) (by decide) rfl) (fun _ _=>rfl)) (SB_cons (SS_for (SIt_seq (SE_mcall m_get_ready (sf_get_ready _) (SE_loc 1 rfl (by kernel_rfl)) SAr_nil (any_plain rfl) (fun _=>rfl) (by decide) rfl) go_name) (SAs_name 2 rfl (by decide+kernel) (by kernel_rfl)) (SB_cons (SS_assign 6 (SE_list SA_nil) rfl (by decide+kernel) (by kernel_rfl) (fun _ _=>rfl))
 (SB_cons (SS_for (SIt_seq (SE_sub (SE_loc 0 rfl (by kernel_rfl)) (SE_loc 2 rfl (by kernel_rfl)) (fun _ _=>rfl)) go_tuple) (SAs_tuple (SAsE_cons (SAs_name 3 rfl (by decide+kernel) (by kernel_rfl)) (SAsE_cons (SAs_name 4 rfl (by decide+kernel) (by kernel_rfl)) SAsE_nil (assign_plain rfl)) (assign_plain rfl))) (SB_cons (SS_aug 6 aok_add (SE_call (sf_reduce _) (fun _=>rfl) (SE_glob (by kernel_rfl) g_reduce (by kernel_rfl)) (SAr_cons (SA_cons (SE_glob (by kernel_rfl) g_law_joined (by kernel_rfl)) (SA_cons (SE_listcomp (compOK1 (x:="least") (i:=5) (xs:=["part"]) (fun env c h=>clos2 (by kernel_rfl) h) rfl (by kernel_rfl) (by kernel_rfl) (by kernel_rfl) rfl (by kernel_rfl) (by kernel_rfl) (by kernel_rfl) (by decide+kernel) rfl) (SIt_seq (SE_loc 4 rfl (by kernel_rfl)) go_name) (SAs_name 0 rfl (by decide+kernel) (by kernel_rfl)) STs_nil (SE_sub (SE_loc 1 rfl (by kernel_rfl)) (SE_loc 0 rfl (by kernel_rfl)) (fun _ _=>rfl)) (fun _ _=>rfl)) (SA_cons (SE_list (SA_cons (SE_loc 3 rfl (by kernel_rfl)) SA_nil (star_plain rfl))) SA_nil (star_plain rfl)) (star_plain rfl)) (star_plain rfl)) (star_plain rfl))) rfl (by decide+kernel) (by kernel_rfl) (by kernel_rfl))
 SB_nil) (fun _ _=>rfl))
 (SB_cons (SS_put (SE_call (sf_nsmallest _) (fun _=>rfl) (SE_glob (by kernel_rfl) g_nsmallest (by kernel_rfl)) (SAr_cons (SA_cons SE_cint (SA_cons (SE_loc 6 rfl (by kernel_rfl)) SA_nil (star_plain rfl)) (star_plain rfl)) (star_plain rfl))) (SE_loc 5 rfl (by kernel_rfl)) (SE_loc 2 rfl (by kernel_rfl)) (fun _ _=>rfl))
 (SB_cons (SS_expr (SE_mcall m_done (sf_done _) (SE_loc 1 rfl (by kernel_rfl)) (SAr_cons (SA_cons (SE_loc 2 rfl (by kernel_rfl)) SA_nil (star_plain rfl)) (star_plain rfl)) (any_plain rfl) (fun _=>rfl) (by decide) rfl) (fun _ _=>rfl))
 SB_nil)))) (fun _ _=>rfl))
 SB_nil) SB_nil)
 (SB_cons (SS_return (SE_loc 5 rfl (by kernel_rfl)))
 SB_nil)))))))
theorem sf_law_least (k:Nat):SFv (.ref 231) (k+5+1) F_law_least:=(sfc_law_least k).toSFv
noncomputable def B_law:PM PFlow:=(bCons (sSet 1 (pListComp 1 [] (pIter (pSliceRaw (pLoc 0) (pConst .none) (pConst (.int 16)) (pConst .none))) (setV 0) (ret true) (pBin oMod (pCall (.type "int") F_int (pConst (.const (.type "int"))) (aCons (pLoc 0) aNil)) (pBin oPow (pConst (.int 10)) (pConst (.int 6))))))
 (bCons (sSet 2 (pListComp 2 [(1,"cells")] (pEnumIt (pList (aCons (pConst (.int 9)) (aCons (pConst (.int 12)) (aCons (pConst (.int 9)) (aCons (pConst (.int 12)) (aCons (pConst (.int 46)) (aCons (pConst (.int 9)) (aCons (pConst (.int 60)) (aCons (pConst (.int 75)) aNil)))))))))) (tupT [(setV 0),(setV 1)]) (ret true) (pBin oAdd (pLoc 1) (pCall (.builtin "sum") F_sum (pConst (.const (.builtin "sum"))) (aCons (pSlice (pLoc 2) (pLoc 0) (pConst .none) (pConst (.int 8))) aNil)))))
 (bCons (sSet 3 (pListComp 1 [(1,"cells")] (pRangeIt (pConst (.int 5))) (setV 0) (ret true) (pBin oMod (pBin oAdd (pCall (.builtin "sum") F_sum (pConst (.const (.builtin "sum"))) (aCons (pLoc 1) aNil)) (pBin oMul (pConst (.int 2)) (pLoc 0))) (pConst (.int 5)))))
 (bCons (sSet 4 (pCall (.ref 219) F_law_recipes (pConst (.const (.ref 219))) (aCons (pLoc 2) (aCons (pLoc 3) aNil))))
 (bCons (sSet 5 (pCall (.ref 238) F_law_totals (pConst (.const (.ref 238))) (aCons (pLoc 4) aNil)))
 (bCons (sRet (pEqD (pCall (.ref 231) F_law_least (pConst (.const (.ref 231))) (aCons (pLoc 4) aNil)) (pDictComp 1 [(5,"totals")] (pRangeIt (pConst (.int 5))) (setV 0) (ret true) (pLoc 0) (pCall (.ref 245) F_law_first_three (pConst (.const (.ref 245))) (aCons (pSub (pLoc 1) (pLoc 0)) aNil)))))
 bNil))))))
noncomputable def F_law:PF:=runF (posB 1 6) B_law
theorem sfc_law (k:Nat):SFc (.ref 250) (k+6+1) F_law:=
 SF_defG (k:=k+6) (ns:=["script","cells","wants","hidden","recipes","totals"]) (fun _=>rfl) rfl (fun _=>by kernel_rfl) ⟨rfl,rfl,rfl⟩ ⟨rfl,rfl,rfl⟩ (by kernel_rfl) (by decide+kernel)
  (bind_pos2 (xs:=["script"]) rfl rfl (lenA1 fun a=>by kernel_rfl) (by decide+kernel) (by kernel_rfl))
  ((SB_cons (SS_assign 1 (SE_listcomp (compOK0 (xs:=["cell"]) (fun _=>rfl) (by kernel_rfl) rfl (by kernel_rfl) (by kernel_rfl) (by kernel_rfl) (by decide+kernel) rfl) (SIt_seq (SE_sliceRaw (SE_loc 0 rfl (by kernel_rfl)) SP_none (SP_some SE_cint) (fun _ _=>rfl)) go_name) (SAs_name 0 rfl (by decide+kernel) (by kernel_rfl)) STs_nil (SE_bin ok_mod (SE_callT sf_int (SE_bltn (by kernel_rfl) g_int (by kernel_rfl) (by decide) (by kernel_rfl)) (SAr_cons (SA_cons (SE_loc 0 rfl (by kernel_rfl)) SA_nil (star_plain rfl)) (star_plain rfl)) (any_plain rfl)) (SE_bin ok_pow SE_cint SE_cint)) (fun _ _=>rfl)) rfl (by decide+kernel) (by kernel_rfl) (fun env h=>by unfold swapsWith Env.blockKind Env.kindOf;rw[h];rfl))
 (SB_cons (SS_assign_listcomp 2 (compOK1 (x:="cells") (i:=1) (xs:=["place","first"]) (fun env c h=>clos2 (by kernel_rfl) h) rfl (by kernel_rfl) (by kernel_rfl) (by kernel_rfl) rfl (by kernel_rfl) (by kernel_rfl) (by kernel_rfl) (by decide+kernel) rfl) (SIt_enum (SE_bltn (by kernel_rfl) g_enumerate (by kernel_rfl) (by decide) (by kernel_rfl)) (SE_list (SA_cons SE_cint (SA_cons SE_cint (SA_cons SE_cint (SA_cons SE_cint (SA_cons SE_cint (SA_cons SE_cint (SA_cons SE_cint (SA_cons SE_cint SA_nil (star_plain rfl)) (star_plain rfl)) (star_plain rfl)) (star_plain rfl)) (star_plain rfl)) (star_plain rfl)) (star_plain rfl)) (star_plain rfl))) (fun _=>rfl)) (SAs_tuple (SAsE_cons (SAs_name 0 rfl (by decide+kernel) (by kernel_rfl)) (SAsE_cons (SAs_name 1 rfl (by decide+kernel) (by kernel_rfl)) SAsE_nil (assign_plain rfl)) (assign_plain rfl))) STs_nil (SE_bin ok_add (SE_loc 1 rfl (by kernel_rfl)) (SE_callB sf_sum (SE_bltn (by kernel_rfl) g_sum (by kernel_rfl) (by decide) (by kernel_rfl)) (SAr_cons (SA_cons (SE_slice_step (SE_loc 2 rfl (by kernel_rfl)) (SP_some (SE_loc 0 rfl (by kernel_rfl))) SP_none SE_cint (fun _ _=>rfl)) SA_nil (star_plain rfl)) (star_plain rfl)) (any_plain rfl))) (fun _ _=>rfl) rfl (by decide+kernel) (by kernel_rfl) (fun env h=>by unfold swapsWith Env.blockKind Env.kindOf;rw[h];rfl))
 (SB_cons (SS_assign_listcomp 3 (compOK1 (x:="cells") (i:=1) (xs:=["place"]) (fun env c h=>clos2 (by kernel_rfl) h) rfl (by kernel_rfl) (by kernel_rfl) (by kernel_rfl) rfl (by kernel_rfl) (by kernel_rfl) (by kernel_rfl) (by decide+kernel) rfl) (SIt_range (SE_bltn (by kernel_rfl) g_range (by kernel_rfl) (by decide) (by kernel_rfl)) SE_cint go_name (fun _=>rfl)) (SAs_name 0 rfl (by decide+kernel) (by kernel_rfl)) STs_nil (SE_bin ok_mod (SE_bin ok_add (SE_callB sf_sum (SE_bltn (by kernel_rfl) g_sum (by kernel_rfl) (by decide) (by kernel_rfl)) (SAr_cons (SA_cons (SE_loc 1 rfl (by kernel_rfl)) SA_nil (star_plain rfl)) (star_plain rfl)) (any_plain rfl)) (SE_bin ok_mul SE_cint (SE_loc 0 rfl (by kernel_rfl)))) SE_cint) (fun _ _=>rfl) rfl (by decide+kernel) (by kernel_rfl) (fun env h=>by unfold swapsWith Env.blockKind Env.kindOf;rw[h];rfl))
 (SB_cons (SS_assign 4 (SE_call (sf_law_recipes _) (fun _=>rfl) (SE_glob (by kernel_rfl) g_law_recipes (by kernel_rfl)) (SAr_cons (SA_cons (SE_loc 2 rfl (by kernel_rfl)) (SA_cons (SE_loc 3 rfl (by kernel_rfl)) SA_nil (star_plain rfl)) (star_plain rfl)) (star_plain rfl))) rfl (by decide+kernel) (by kernel_rfl) (fun _ _=>rfl))
 (SB_cons (SS_assign 5 (SE_call (sf_law_totals _) (fun _=>rfl) (SE_glob (by kernel_rfl) g_law_totals (by kernel_rfl)) (SAr_cons (SA_cons (SE_loc 4 rfl (by kernel_rfl)) SA_nil (star_plain rfl)) (star_plain rfl))) rfl (by decide+kernel) (by kernel_rfl) (fun _ _=>rfl))
 (SB_cons (SS_return (SE_eqD (SE_call (sf_law_least _) (fun _=>rfl) (SE_glob (by kernel_rfl) g_law_least (by kernel_rfl)) (SAr_cons (SA_cons (SE_loc 4 rfl (by kernel_rfl)) SA_nil (star_plain rfl)) (star_plain rfl))) (SE_dictcomp (compOK1 (x:="totals") (i:=5) (xs:=["thing"]) (fun env c h=>clos2 (by kernel_rfl) h) rfl (by kernel_rfl) (by kernel_rfl) (by kernel_rfl) rfl (by kernel_rfl) (by kernel_rfl) (by kernel_rfl) (by decide+kernel) rfl) (SIt_range (SE_bltn (by kernel_rfl) g_range (by kernel_rfl) (by decide) (by kernel_rfl)) SE_cint go_name (fun _=>rfl)) (SAs_name 0 rfl (by decide+kernel) (by kernel_rfl)) STs_nil (SE_loc 0 rfl (by kernel_rfl)) (SE_call (sf_law_first_three _) (fun _=>rfl) (SE_glob (by kernel_rfl) g_law_first_three (by kernel_rfl)) (SAr_cons (SA_cons (SE_sub (SE_loc 1 rfl (by kernel_rfl)) (SE_loc 0 rfl (by kernel_rfl)) (fun _ _=>rfl)) SA_nil (star_plain rfl)) (star_plain rfl))) (fun _ _=>rfl)) rfl))
 SB_nil)))))))
theorem sf_law (k:Nat):SFv (.ref 250) (k+6+1) F_law:=(sfc_law k).toSFv
end Mine.Internal
namespace Mine.Internal
set_option maxHeartbeats 4000000
noncomputable def Wp {π:Type}(f:PM π) (σ:PS) (Q:π→PS→Prop):Prop:=∃ p σ',f σ=some (p,σ')∧Q p σ'
noncomputable def Fw (F:PF) (ps:List PV) (H:List PObj) (R:PV→List PObj→Prop):Prop:=∃ p H',F ps H=some (p,H')∧R p H'
noncomputable def Is {τ:Type}(x:Option τ) (Q:τ→Prop):Prop:=∃ p,x=some p∧Q p
noncomputable def Is2 (a b:PV) (P:Int→Int→Prop):Prop:=∃ x y,a=.int x∧b=.int y∧P x y
theorem Is.mk {τ:Type}{x:Option τ}{p:τ}{Q:τ→Prop}(e:x=some p) (h:Q p):Is x Q:=⟨p,e,h⟩
theorem Is2.mk {x y:Int}{P:Int→Int→Prop}(h:P x y):Is2 (.int x) (.int y) P:=⟨x,y,rfl,rfl,h⟩
inductive A3 (a b c:Prop):Prop
 | mk (h0:a) (h1:b) (h2:c)
inductive A4 (a b c d:Prop):Prop
 | mk (h0:a) (h1:b) (h2:c) (h3:d)
inductive A5 (a b c d e:Prop):Prop
 | mk (h0:a) (h1:b) (h2:c) (h3:d) (h4:e)
inductive A6 (a b c d e f:Prop):Prop
 | mk (h0:a) (h1:b) (h2:c) (h3:d) (h4:e) (h5:f)
inductive A7 (a b c d e f g:Prop):Prop
 | mk (h0:a) (h1:b) (h2:c) (h3:d) (h4:e) (h5:f) (h6:g)
inductive Ex2 {τ0 τ1:Type}(P:τ0→τ1→Prop):Prop
 | intro(a0:τ0) (a1:τ1) (h:P a0 a1):Ex2 P
inductive Ex3 {τ0 τ1 τ2:Type}(P:τ0→τ1→τ2→Prop):Prop
 | intro(a0:τ0) (a1:τ1) (a2:τ2) (h:P a0 a1 a2):Ex3 P
inductive Ex4 {τ0 τ1 τ2 τ3:Type}(P:τ0→τ1→τ2→τ3→Prop):Prop
 | intro(a0:τ0) (a1:τ1) (a2:τ2) (a3:τ3) (h:P a0 a1 a2 a3):Ex4 P
inductive Ex5 {τ0 τ1 τ2 τ3 τ4:Type}(P:τ0→τ1→τ2→τ3→τ4→Prop):Prop
 | intro(a0:τ0) (a1:τ1) (a2:τ2) (a3:τ3) (a4:τ4) (h:P a0 a1 a2 a3 a4):Ex5 P
inductive Ex6 {τ0 τ1 τ2 τ3 τ4 τ5:Type}(P:τ0→τ1→τ2→τ3→τ4→τ5→Prop):Prop
 | intro(a0:τ0) (a1:τ1) (a2:τ2) (a3:τ3) (a4:τ4) (a5:τ5) (h:P a0 a1 a2 a3 a4 a5):Ex6 P
inductive Ex8 {τ0 τ1 τ2 τ3 τ4 τ5 τ6 τ7:Type}(P:τ0→τ1→τ2→τ3→τ4→τ5→τ6→τ7→Prop):Prop
 | intro(a0:τ0) (a1:τ1) (a2:τ2) (a3:τ3) (a4:τ4) (a5:τ5) (a6:τ6) (a7:τ7) (h:P a0 a1 a2 a3 a4 a5 a6 a7):Ex8 P
inductive Ex9 {τ0 τ1 τ2 τ3 τ4 τ5 τ6 τ7 τ8:Type}(P:τ0→τ1→τ2→τ3→τ4→τ5→τ6→τ7→τ8→Prop):Prop
 | intro(a0:τ0) (a1:τ1) (a2:τ2) (a3:τ3) (a4:τ4) (a5:τ5) (a6:τ6) (a7:τ7) (a8:τ8) (h:P a0 a1 a2 a3 a4 a5 a6 a7 a8):Ex9 P
inductive Ex10 {τ0 τ1 τ2 τ3 τ4 τ5 τ6 τ7 τ8 τ9:Type}(P:τ0→τ1→τ2→τ3→τ4→τ5→τ6→τ7→τ8→τ9→Prop):Prop
 | intro(a0:τ0) (a1:τ1) (a2:τ2) (a3:τ3) (a4:τ4) (a5:τ5) (a6:τ6) (a7:τ7) (a8:τ8) (a9:τ9) (h:P a0 a1 a2 a3 a4 a5 a6 a7 a8 a9):Ex10 P
theorem Ex2.elim {τ0 τ1:Type}{P:τ0→τ1→Prop}{G:Prop}(h:Ex2 P) (k:∀ a0 a1,P a0 a1→G):G:=let⟨a0,a1,x⟩:=h;k a0 a1 x
theorem Ex4.elim {τ0 τ1 τ2 τ3:Type}{P:τ0→τ1→τ2→τ3→Prop}{G:Prop}(h:Ex4 P) (k:∀ a0 a1 a2 a3,P a0 a1 a2 a3→G):G:=let⟨a0,a1,a2,a3,x⟩:=h;k a0 a1 a2 a3 x
section
variable {π ρ:Type}{σ:PS}{H:List PObj}{V:List (Option PV)}
theorem Wp.mono {f:PM π}{Q Q':π→PS→Prop}(h:Wp f σ Q) (hq:∀ p σ',Q p σ'→Q' p σ'):Wp f σ Q':=let⟨p,σ',e,q⟩:=h;⟨p,σ',e,hq _ _ q⟩
theorem Fw.mono {F:PF}{ps:List PV}{R R':PV→List PObj→Prop}(h:Fw F ps H R) (hq:∀ p H',R p H'→R' p H'):Fw F ps H R':=let⟨p,H',e,q⟩:=h;⟨p,H',e,hq _ _ q⟩
theorem Wp.ret {p:π}{Q:π→PS→Prop}(h:Q p σ):Wp (ret p) σ Q:=⟨p,σ,rfl,h⟩
theorem Wp.seq {f:PM π}{g:π→PM ρ}{Q:ρ→PS→Prop}(h:Wp f σ fun p σ'=>Wp (g p) σ' Q):Wp (seq f g) σ Q:=by
 refine gv fun _ gk=>?_
 obtain⟨p,σ',e,p2,σ2,e2,q⟩:=h
 refine gk ?_
 exact⟨p2,σ2,by rw[seq_eq e];exact e2,q⟩
theorem Wp.of {f:PM π}{Q:π→PS→Prop}{p:π}{σ':PS}(e:f σ=some (p,σ')) (h:Q p σ'):Wp f σ Q:=⟨p,σ',e,h⟩
theorem wp_loc {i:Nat}{p:PV}{Q:PV→PS→Prop}(e:V[i]?=some (some p)) (h:Q p ⟨H,V⟩):Wp (pLoc i) ⟨H,V⟩ Q:=⟨p,⟨H,V⟩,by simp only[pLoc,e],h⟩
theorem wp_const {p:PV}{Q:PV→PS→Prop}(h:Q p σ):Wp (pConst p) σ Q:=⟨p,σ,rfl,h⟩
theorem wp_setV {i:Nat}{p:PV}{Q:Unit→PS→Prop}(h:Q () ⟨H,V.set i (some p)⟩):Wp (setV i p) ⟨H,V⟩ Q:=⟨(),_,rfl,h⟩
theorem wp_bin {op:Int→Int→Option Int}{f g:PM PV}{Q:PV→PS→Prop}(h:Wp f σ fun a σ1=>Wp g σ1 fun b σ2=>∃ x y z,a=.int x∧b=.int y∧op x y=some z∧Q (.int z) σ2):Wp (pBin op f g) σ Q:=by
 refine Wp.seq (h.mono fun a σ1 h1=>Wp.seq (h1.mono fun b σ2 h2=>?_))
 obtain⟨x,y,z,rfl,rfl,e,q⟩:=h2
 exact⟨_,σ2,by simp only[pOp,e];rfl,q⟩
theorem wp_test {c:Int→Int→Bool}{f g:PM PV}{Q:Bool→PS→Prop}(h:Wp f σ fun a σ1=>Wp g σ1 fun b σ2=>Is2 a b fun x y=>Q (c x y) σ2):Wp (pTest c f g) σ Q:=by
 refine Wp.seq (h.mono fun a σ1 h1=>Wp.seq (h1.mono fun b σ2 h2=>?_))
 obtain⟨x,y,rfl,rfl,q⟩:=h2
 exact⟨_,σ2,rfl,q⟩
theorem wp_asBool {f:PM Bool}{Q:PV→PS→Prop}(h:Wp f σ fun b σ1=>Q (.bool b) σ1):Wp (asBool f) σ Q:=Wp.seq (h.mono fun b σ1 h1=>Wp.ret h1)
theorem wp_lt {f g:PM PV}{Q:Bool→PS→Prop}(h:Wp f σ fun a σ1=>Wp g σ1 fun b σ2=>Is (less a b) fun c=>Q c σ2):Wp (pLt f g) σ Q:=by
 refine Wp.seq (h.mono fun a σ1 h1=>Wp.seq (h1.mono fun b σ2 h2=>?_))
 obtain⟨c,e,q⟩:=h2
 exact⟨c,σ2,by simp only[pLess,e];rfl,q⟩
theorem wp_not {f:PM Bool}{Q:Bool→PS→Prop}(h:Wp f σ fun b σ1=>Q (!b) σ1):Wp (pNot f) σ Q:=Wp.seq (h.mono fun b σ1 h1=>Wp.ret h1)
theorem wp_and {f g:PM Bool}{Q:Bool→PS→Prop}(h:Wp f σ fun b σ1=>(b=true→Wp g σ1 Q)∧(b=false→Q false σ1)):Wp (pAnd f g) σ Q:=Wp.seq (h.mono fun b σ1 h1=>by cases b;exact Wp.ret (h1.2 rfl);exact h1.1 rfl)
theorem wp_truth {f:PM PV}{Q:Bool→PS→Prop}(h:Wp f σ fun p σ1=>Is (truthOf σ1.H p) fun b=>Q b σ1):Wp (pTruth f) σ Q:=by
 refine Wp.seq (h.mono fun p σ1 h1=>?_)
 obtain⟨b,e,q⟩:=h1
 exact⟨b,σ1,by simp only[e];rfl,q⟩
theorem wp_isNone {n:Bool}{f:PM PV}{Q:Bool→PS→Prop}(h:Wp f σ fun p σ1=>Is (isNoneOf p) fun b=>Q (b !=n) σ1):Wp (pIsNone n f) σ Q:=by
 refine Wp.seq (h.mono fun p σ1 h1=>?_)
 obtain⟨b,e,q⟩:=h1
 exact⟨_,σ1,by simp only[e];rfl,q⟩
theorem wp_in {f g:PM PV}{Q:Bool→PS→Prop}(h:Wp f σ fun a σ1=>Wp g σ1 fun b σ2=>Is (inOf σ2.H a b) fun c=>Q c σ2):Wp (pIn f g) σ Q:=by
 refine Wp.seq (h.mono fun a σ1 h1=>Wp.seq (h1.mono fun b σ2 h2=>?_))
 obtain⟨c,e,q⟩:=h2
 exact⟨c,σ2,by simp only[e];rfl,q⟩
theorem wp_sub {f g:PM PV}{Q:PV→PS→Prop}(h:Wp f σ fun a σ1=>Wp g σ1 fun b σ2=>Is (itemOf σ2.H a b) fun p=>Q p σ2):Wp (pSub f g) σ Q:=by
 refine Wp.seq (h.mono fun a σ1 h1=>Wp.seq (h1.mono fun b σ2 h2=>?_))
 obtain⟨c,e,q⟩:=h2
 exact⟨c,σ2,by simp only[pItem,e];rfl,q⟩
theorem wp_aNil {Q:List PV→PS→Prop}(h:Q [] σ):Wp aNil σ Q:=⟨_,_,rfl,h⟩
theorem wp_aCons {f:PM PV}{g:PM (List PV)}{Q:List PV→PS→Prop}(h:Wp f σ fun p σ1=>Wp g σ1 fun ps σ2=>Q (p::ps) σ2):Wp (aCons f g) σ Q:=
 Wp.seq (h.mono fun p σ1 h1=>Wp.seq (h1.mono fun ps σ2 h2=>Wp.ret h2))
theorem wp_aStar {f:PM PV}{g:PM (List PV)}{Q:List PV→PS→Prop}(h:Wp f σ fun p σ1=>∃ xs,itemsOf p σ1=some (xs,σ1)∧Wp g σ1 fun ps σ2=>Q (xs++ps) σ2):Wp (aStar f g) σ Q:=by
 refine Wp.seq (h.mono fun p σ1 h1=>?_)
 obtain⟨xs,e,h2⟩:=h1
 exact Wp.seq (.of e (Wp.seq (h2.mono fun ps σ2 h3=>Wp.ret h3)))
theorem wp_tup {g:PM (List PV)}{Q:PV→PS→Prop}(h:Wp g σ fun ps σ1=>ps.length≤1000000∧Q (.tup ps) σ1):Wp (pTup g) σ Q:=Wp.seq (h.mono fun ps σ1 h1=>⟨_,σ1,by simp only[mkTup,h1.1,if_true],h1.2⟩)
theorem wp_list {g:PM (List PV)}{Q:PV→PS→Prop}(h:Wp g σ fun ps σ1=>ps.length≤1000000∧Q (.ref σ1.H.length) ⟨σ1.H++[.list ps],σ1.V⟩):Wp (pList g) σ Q:=Wp.seq (h.mono fun ps σ1 h1=>⟨_,_,by simp only[mkList,h1.1,if_true],h1.2⟩)
theorem wp_dict0 {Q:PV→PS→Prop}(h:Q (.ref H.length) ⟨H++[.dict [] 0],V⟩):Wp pDict0 ⟨H,V⟩ Q:=⟨_,_,rfl,h⟩
theorem wp_callF {F:PF}{ps:List PV}{Q:PV→PS→Prop}(h:Fw F ps H fun p H'=>Q p ⟨H',V⟩):Wp (pCallF F ps) ⟨H,V⟩ Q:=by
 obtain⟨p,H',e,q⟩:=h
 exact⟨p,⟨H',V⟩,by simp only[pCallF,e];rfl,q⟩
theorem wp_call {fv:PySem.Value}{F:PF}{f:PM PV}{g:PM (List PV)}{Q:PV→PS→Prop}(h:Wp f σ fun c σ1=>c=.const fv∧Wp g σ1 fun ps σ2=>Fw F ps σ2.H fun p H'=>Q p ⟨H',σ2.V⟩):Wp (pCall fv F f g) σ Q:=by
 refine Wp.seq (h.mono fun c σ1 h1=>?_)
 obtain⟨rfl,h2⟩:=h1
 simp only[if_true]
 exact Wp.seq (h2.mono fun ps σ2 h3=>wp_callF h3)
theorem wp_meth {T:String}{F:PF}{f:PM PV}{g:PM (List PV)}{Q:PV→PS→Prop}(h:Wp f σ fun o σ1=>kindOfP σ1.H o=some T∧Wp g σ1 fun ps σ2=>Fw F (o::ps) σ2.H fun p H'=>Q p ⟨H',σ2.V⟩):Wp (pMeth T F f g) σ Q:=by
 refine Wp.seq (h.mono fun o σ1 h1=>Wp.seq (.of (p:=()) (σ':=σ1) (by simp only[pIs,h1.1,if_true]) (Wp.seq (h1.2.mono fun ps σ2 h3=>wp_callF h3))))
theorem wp_methS {F:PF}{f:PM PV}{g:PM (List PV)}{Q:PV→PS→Prop}(h:Wp f σ fun o σ1=>isSorter o σ1=some ((),σ1)∧Wp g σ1 fun ps σ2=>Fw F (o::ps) σ2.H fun p H'=>Q p ⟨H',σ2.V⟩):Wp (pMethS F f g) σ Q:=
 Wp.seq (h.mono fun o σ1 h1=>Wp.seq (.of h1.1 (Wp.seq (h1.2.mono fun ps σ2 h3=>wp_callF h3))))
theorem wp_attr {get:PV→PM PV}{f:PM PV}{Q:PV→PS→Prop}(h:Wp f σ fun o σ1=>Wp (get o) σ1 Q):Wp (pAttr get f) σ Q:=Wp.seq h
theorem wp_named {gt:PV→PM Unit}{f:PM PV}{Q:PV→PS→Prop}(h:Wp f σ fun p σ1=>Wp (gt p) σ1 fun _ σ2=>Q p σ2):Wp (pNamed gt f) σ Q:=Wp.seq (h.mono fun p σ1 h1=>Wp.seq (h1.mono fun _ σ2 h2=>Wp.ret h2))
theorem wp_or {f g:PM PV}{Q:PV→PS→Prop}(h:Wp f σ fun a σ1=>∃ b,a=.bool b∧(b=true→Q (.bool true) σ1)∧(b=false→Wp g σ1 Q)):Wp (pOr f g) σ Q:=by
 refine Wp.seq (h.mono fun a σ1 h1=>?_)
 obtain⟨b,rfl,h2,h3⟩:=h1
 cases b
 ·exact h3 rfl
 ·exact Wp.ret (h2 rfl)
theorem wp_bNil {Q:PFlow→PS→Prop}(h:Q .next σ):Wp bNil σ Q:=⟨_,_,rfl,h⟩
theorem wp_bCons {f g:PM PFlow}{Q:PFlow→PS→Prop}(h:Wp f σ fun x σ1=>match x with | .next=>Wp g σ1 Q | x=>Q x σ1):Wp (bCons f g) σ Q:=Wp.seq (h.mono fun x σ1 h1=>by
 cases x with
 | next=>exact h1
 | brk=>exact Wp.ret h1
 | cont=>exact Wp.ret h1
 | ret p=>exact Wp.ret h1)
theorem wp_sSet {i:Nat}{f:PM PV}{Q:PFlow→PS→Prop}(h:Wp f σ fun p σ1=>Q .next ⟨σ1.H,σ1.V.set i (some p)⟩):Wp (sSet i f) σ Q:=Wp.seq (h.mono fun p σ1 h1=>⟨_,_,rfl,h1⟩)
theorem wp_sSetT {g:PV→PM Unit}{f:PM PV}{Q:PFlow→PS→Prop}(h:Wp f σ fun p σ1=>Wp (g p) σ1 fun _ σ2=>Q .next σ2):Wp (sSetT g f) σ Q:=Wp.seq (h.mono fun p σ1 h1=>Wp.seq (h1.mono fun _ σ2 h2=>Wp.ret h2))
theorem wp_sSet2 {g1 g2:PV→PM Unit}{f:PM PV}{Q:PFlow→PS→Prop}(h:Wp f σ fun p σ1=>Wp (g1 p) σ1 fun _ σ2=>Wp (g2 p) σ2 fun _ σ3=>Q .next σ3):Wp (sSet2 g1 g2 f) σ Q:=Wp.seq (h.mono fun p σ1 h1=>Wp.seq (h1.mono fun _ σ2 h2=>Wp.seq (h2.mono fun _ σ3 h3=>Wp.ret h3)))
theorem wp_sRet {f:PM PV}{Q:PFlow→PS→Prop}(h:Wp f σ fun p σ1=>Q (.ret p) σ1):Wp (sRet f) σ Q:=Wp.seq (h.mono fun p σ1 h1=>Wp.ret h1)
theorem wp_sExpr {f:PM PV}{Q:PFlow→PS→Prop}(h:Wp f σ fun p σ1=>Q .next σ1):Wp (sExpr f) σ Q:=Wp.seq (h.mono fun p σ1 h1=>Wp.ret h1)
theorem wp_sIf {t:PM Bool}{f g:PM PFlow}{Q:PFlow→PS→Prop}(h:Wp t σ fun b σ1=>(b=true→Wp f σ1 Q)∧(b=false→Wp g σ1 Q)):Wp (sIf t f g) σ Q:=Wp.seq (h.mono fun b σ1 h1=>by cases b;exact h1.2 rfl;exact h1.1 rfl)
theorem wp_pPut {a b v:PV}{Q:Unit→PS→Prop}(h:Is (putItem H a b v) fun H'=>Q () ⟨H',V⟩):Wp (pPut a b v) ⟨H,V⟩ Q:=let⟨H',e,q⟩:=h;⟨(),⟨H',V⟩,by simp only[pPut,e];rfl,q⟩
theorem wp_sPut {fv fo fi:PM PV}{Q:PFlow→PS→Prop}(h:Wp fv σ fun v σ1=>Wp fo σ1 fun a σ2=>Wp fi σ2 fun b σ3=>Is (putItem σ3.H a b v) fun H'=>Q .next ⟨H',σ3.V⟩):Wp (sPut fv fo fi) σ Q:=
 Wp.seq (h.mono fun v σ1 h1=>Wp.seq (h1.mono fun a σ2 h2=>Wp.seq (h2.mono fun b σ3 h3=>Wp.seq ((wp_pPut (H:=σ3.H) (V:=σ3.V) h3).mono fun _ σ4 h4=>Wp.ret h4))))
theorem wp_sSetA {put:PV→PV→List PObj→Option (List PObj)}{fv fo:PM PV}{Q:PFlow→PS→Prop}(h:Wp fv σ fun v σ1=>Wp fo σ1 fun a σ2=>Is (put a v σ2.H) fun H'=>Q .next ⟨H',σ2.V⟩):Wp (sSetA put fv fo) σ Q:=
 Wp.seq (h.mono fun v σ1 h1=>Wp.seq (h1.mono fun a σ2 h2=>by
  obtain⟨H',e,q⟩:=h2
  exact Wp.seq (.of (p:=()) (σ':=⟨H',σ2.V⟩) (by simp only[pPutA,e];rfl) (Wp.ret q))))
theorem wp_pPutA {put:PV→PV→List PObj→Option (List PObj)}{a v:PV}{Q:Unit→PS→Prop}(h:Is (put a v σ.H) fun H'=>Q () ⟨H',σ.V⟩):Wp (pPutA put a v) σ Q:=let⟨H',e,q⟩:=h;⟨(),⟨H',σ.V⟩,by simp only[pPutA,e];rfl,q⟩
theorem wp_sAug {i:Nat}{fop:Int→Int→Option Int}{ad:Bool}{f:PM PV}{Q:PFlow→PS→Prop}(h:Wp (pLoc i) σ fun a σ1=>Wp f σ1 fun b σ2=>∃ p H',augOf fop ad σ2.H a b=some (p,H')∧Q .next ⟨H',σ2.V.set i (some p)⟩):Wp (sAug i fop ad f) σ Q:=
 Wp.seq (h.mono fun a σ1 h1=>Wp.seq (h1.mono fun b σ2 h2=>by
  obtain⟨p,H',e,q⟩:=h2
  exact⟨_,_,by simp only[e],q⟩))
theorem wp_sAugA {get:PV→PM PV}{put:PV→PV→List PObj→Option (List PObj)}{fop:Int→Int→Option Int}{ad:Bool}{fo fv:PM PV}{Q:PFlow→PS→Prop}(h:Wp fo σ fun a σ1=>Wp (get a) σ1 fun old σ2=>Wp fv σ2 fun b σ3=>∃ p H' H'',augOf fop ad σ3.H old b=some (p,H')∧put a p H'=some H''∧Q .next ⟨H'',σ3.V⟩):Wp (sAugA get put fop ad fo fv) σ Q:=
 Wp.seq (h.mono fun a σ1 h1=>Wp.seq (h1.mono fun old σ2 h2=>Wp.seq (h2.mono fun b σ3 h3=>by
  refine gv fun _ gk=>?_
  obtain⟨p,H',H'',e1,e2,q⟩:=h3
  refine gk ?_
  exact⟨_,⟨H'',σ3.V⟩,by simp only[e1,e2];rfl,q⟩)))
theorem wp_while {t:PM Bool}{f g:PM PFlow}{Q:PFlow→PS→Prop}(h:Wp t σ fun b σ1=>(b=false→Wp g σ1 Q)∧(b=true→Wp f σ1 fun x σ2=>match x with | .next=>Wp (whileM t f g) σ2 Q | .cont=>Wp (whileM t f g) σ2 Q | .brk=>Q .next σ2 | .ret p=>Q (.ret p) σ2)):Wp (whileM t f g) σ Q:=by
 unfold Wp
 rw[whileM_step]
 refine Wp.seq (h.mono fun b σ1 h1=>?_)
 cases b with
 | false=>exact h1.1 rfl
 | true=>
  refine Wp.seq ((h1.2 rfl).mono fun x σ2 h2=>?_)
  cases x with
  | next=>exact h2
  | cont=>exact h2
  | brk=>exact Wp.ret h2
  | ret p=>exact Wp.ret h2
theorem wp_tupT {gs:List (PV→PM Unit)}{ps:List PV}{Q:Unit→PS→Prop}(h:Wp (setAll gs ps) σ Q):Wp (tupT gs (.tup ps)) σ Q:=h
theorem wp_setAll_cons {g:PV→PM Unit}{gs:List (PV→PM Unit)}{p:PV}{ps:List PV}{Q:Unit→PS→Prop}(h:Wp (g p) σ fun _ σ1=>Wp (setAll gs ps) σ1 Q):Wp (setAll (g::gs) (p::ps)) σ Q:=Wp.seq h
theorem wp_setAll_nil {Q:Unit→PS→Prop}(h:Q () σ):Wp (setAll [] []) σ Q:=⟨_,_,rfl,h⟩
theorem fw_run {b:List PV→Option (List (Option PV))}{f:PM PFlow}{ps:List PV}{V0:List (Option PV)}{R:PV→List PObj→Prop}(e:b ps=some V0) (h:Wp f ⟨H,V0⟩ fun fl σ'=>match fl with | .ret p=>R p σ'.H | .next=>R .none σ'.H | _=>False):Fw (runF b f) ps H R:=by
 obtain⟨fl,σ',e2,q⟩:=h
 cases fl with
 | next=>exact⟨.none,σ'.H,by simp only[runF,e,e2],q⟩
 | ret p=>exact⟨p,σ'.H,by simp only[runF,e,e2],q⟩
 | brk=>exact q.elim
 | cont=>exact q.elim
end
section
variable {σ:PS}{H:List PObj}{V:List (Option PV)}{f g:PM PV}{Q:PV→PS→Prop}
theorem wp_add (h:Wp f σ fun a σ1=>Wp g σ1 fun b σ2=>Is2 a b fun x y=>Q (.int (x+y)) σ2):Wp (pBin oAdd f g) σ Q:=
 wp_bin (h.mono fun _ _ h1=>h1.mono fun _ _ h2=>let⟨x,y,e1,e2,q⟩:=h2;⟨x,y,_,e1,e2,rfl,q⟩)
theorem wp_subi (h:Wp f σ fun a σ1=>Wp g σ1 fun b σ2=>Is2 a b fun x y=>Q (.int (x - y)) σ2):Wp (pBin oSub f g) σ Q:=
 wp_bin (h.mono fun _ _ h1=>h1.mono fun _ _ h2=>let⟨x,y,e1,e2,q⟩:=h2;⟨x,y,_,e1,e2,rfl,q⟩)
theorem wp_mul (h:Wp f σ fun a σ1=>Wp g σ1 fun b σ2=>Is2 a b fun x y=>(x.natAbs<2 ^ 1000∧y.natAbs<2 ^ 1000)∧Q (.int (x*y)) σ2):Wp (pBin oMul f g) σ Q:=
 wp_bin (h.mono fun _ _ h1=>h1.mono fun _ _ h2=>let⟨x,y,e1,e2,c,q⟩:=h2;⟨x,y,_,e1,e2,if_pos c,q⟩)
theorem wp_div (h:Wp f σ fun a σ1=>Wp g σ1 fun b σ2=>Is2 a b fun x y=>(y≠0∧y.natAbs<1073741824)∧Q (.int (x.fdiv y)) σ2):Wp (pBin oDiv f g) σ Q:=
 wp_bin (h.mono fun _ _ h1=>h1.mono fun _ _ h2=>let⟨x,y,e1,e2,c,q⟩:=h2;⟨x,y,_,e1,e2,if_pos c,q⟩)
theorem wp_mod (h:Wp f σ fun a σ1=>Wp g σ1 fun b σ2=>Is2 a b fun x y=>y≠0∧Q (.int (x.fmod y)) σ2):Wp (pBin oMod f g) σ Q:=
 wp_bin (h.mono fun _ _ h1=>h1.mono fun _ _ h2=>let⟨x,y,e1,e2,c,q⟩:=h2;⟨x,y,_,e1,e2,if_neg c,q⟩)
theorem wp_pow (h:Wp f σ fun a σ1=>Wp g σ1 fun b σ2=>Is2 a b fun x y=>(0≤y∧y≤1000000∧x.natAbs<2 ^ 64)∧Q (.int (x ^ y.toNat)) σ2):Wp (pBin oPow f g) σ Q:=
 wp_bin (h.mono fun _ _ h1=>h1.mono fun _ _ h2=>let⟨x,y,e1,e2,c,q⟩:=h2;⟨x,y,_,e1,e2,if_pos c,q⟩)
theorem wp_shr (h:Wp f σ fun a σ1=>Wp g σ1 fun b σ2=>Is2 a b fun x y=>0≤y∧Q (.int (x.fdiv (2 ^ y.toNat))) σ2):Wp (pBin oShr f g) σ Q:=
 wp_bin (h.mono fun _ _ h1=>h1.mono fun _ _ h2=>let⟨x,y,e1,e2,c,q⟩:=h2;⟨x,y,_,e1,e2,if_pos c,q⟩)
end
section
variable {σ:PS}{H:List PObj}{V:List (Option PV)}{i j:Nat}{a b p:PV}
theorem wp_aLoc {g:PM (List PV)}{Q:List PV→PS→Prop}(e:V[i]?=some (some p)) (h:Wp g ⟨H,V⟩ fun ps σ2=>Q (p::ps) σ2):Wp (aCons (pLoc i) g) ⟨H,V⟩ Q:=wp_aCons (wp_loc e h)
theorem wp_a1 {Q:List PV→PS→Prop}(e:V[i]?=some (some p)) (h:Q [p] ⟨H,V⟩):Wp (aCons (pLoc i) aNil) ⟨H,V⟩ Q:=wp_aCons (wp_loc e (wp_aNil h))
theorem wp_aConst {g:PM (List PV)}{Q:List PV→PS→Prop}(h:Wp g σ fun ps σ2=>Q (p::ps) σ2):Wp (aCons (pConst p) g) σ Q:=wp_aCons (wp_const h)
theorem wp_subLL {Q:PV→PS→Prop}(e:V[i]?=some (some a)) (e2:V[j]?=some (some b)) (h:Is (itemOf H a b) fun p=>Q p ⟨H,V⟩):Wp (pSub (pLoc i) (pLoc j)) ⟨H,V⟩ Q:=wp_sub (wp_loc e (wp_loc e2 h))
theorem wp_subLC {Q:PV→PS→Prop}(e:V[i]?=some (some a)) (h:Is (itemOf H a b) fun p=>Q p ⟨H,V⟩):Wp (pSub (pLoc i) (pConst b)) ⟨H,V⟩ Q:=wp_sub (wp_loc e (wp_const h))
theorem wp_setL {Q:PFlow→PS→Prop}(e:V[j]?=some (some p)) (h:Q .next ⟨H,V.set i (some p)⟩):Wp (sSet i (pLoc j)) ⟨H,V⟩ Q:=wp_sSet (wp_loc e h)
theorem wp_retL {Q:PFlow→PS→Prop}(e:V[j]?=some (some p)) (h:Q (.ret p) ⟨H,V⟩):Wp (sRet (pLoc j)) ⟨H,V⟩ Q:=wp_sRet (wp_loc e h)
theorem wp_callC {fv:PySem.Value}{F:PF}{g:PM (List PV)}{Q:PV→PS→Prop}(h:Wp g σ fun ps σ2=>Fw F ps σ2.H fun p H'=>Q p ⟨H',σ2.V⟩):Wp (pCall fv F (pConst (.const fv)) g) σ Q:=wp_call (wp_const ⟨rfl,h⟩)
end
section
variable {σ:PS}{H:List PObj}{V:List (Option PV)}
theorem wp_forL_nil {it:It}{g:PV→PM Unit}{f:PM PFlow}{i:Nat}{Q:PFlow→PS→Prop}(hc:it.chk i σ.H) (h:Q .next ⟨it.stp i σ.H,σ.V⟩):Wp (forL it g f i []) σ Q:=⟨_,_,by unfold forL;rw[if_pos hc],h⟩
theorem wp_forL_cons {it:It}{g:PV→PM Unit}{f:PM PFlow}{i:Nat}{p:PV}{ps:List PV}{Q:PFlow→PS→Prop}(hc:it.chk i σ.H)
  (h:Wp (g p) ⟨it.stp i σ.H,σ.V⟩ fun _ σ1=>Wp f σ1 fun x σ2=>match x with | .next=>Wp (forL it g f (i+1) ps) σ2 Q | .cont=>Wp (forL it g f (i+1) ps) σ2 Q | .brk=>Q .next σ2 | .ret q=>Q (.ret q) σ2):Wp (forL it g f i (p::ps)) σ Q:=by
 have h2:Wp (seq (g p) fun _=>seq f fun x=>match x with
  | .next=>forL it g f (i+1) ps
  | .cont=>forL it g f (i+1) ps
  | .brk=>ret .next
  | .ret q=>ret (.ret q)) ⟨it.stp i σ.H,σ.V⟩ Q:=Wp.seq (h.mono fun _ σ1 h1=>Wp.seq (h1.mono fun x σ2 h2=>by
   cases x with
   | next=>exact h2
   | cont=>exact h2
   | brk=>exact Wp.ret h2
   | ret p=>exact Wp.ret h2))
 obtain⟨a,b,e,q⟩:=h2
 exact⟨a,b,by unfold forL;rw[if_pos hc];exact e,q⟩
theorem wp_sFor {fi:PM It}{g:PV→PM Unit}{f:PM PFlow}{Q:PFlow→PS→Prop}(h:Wp fi σ fun it σ1=>Wp (forL it g f 0 it.xs) σ1 Q):Wp (sFor fi g f) σ Q:=Wp.seq h
theorem wp_forL_inv {it:It}{g:PV→PM Unit}{f:PM PFlow}{Q:PFlow→PS→Prop}(I:Nat→PS→Prop) (xs:List PV) (hchk:∀ i σ,I i σ→it.chk i σ.H) (hturn:∀(i:Nat) p σ,xs[i]?=some p→I i σ→Wp (g p) ⟨it.stp i σ.H,σ.V⟩ fun _ σ1=>Wp f σ1 fun x σ2=>(x=.next∨x=.cont)∧I (i+1) σ2)
  (hend:∀ σ,I xs.length σ→Q .next ⟨it.stp xs.length σ.H,σ.V⟩):∀(n:Nat) (σ:PS),n≤xs.length→I n σ→Wp (forL it g f n (xs.drop n)) σ Q:=by
 intro n
 induction hk:xs.length - n generalizing n with
 | zero=>
  intro σ hn hI
  have:n=xs.length:=by lia
  subst this
  rw[List.drop_length]
  exact wp_forL_nil (hchk _ _ hI) (hend _ hI)
 | succ m ih=>
  intro σ hn hI
  have hlt:n<xs.length:=by lia
  rw[List.drop_eq_getElem_cons hlt]
  refine wp_forL_cons (hchk _ _ hI) ((hturn n _ σ (List.getElem?_eq_getElem hlt) hI).mono fun _ σ1 h1=>h1.mono fun x σ2 h2=>?_)
  rcases h2 with⟨rfl | rfl,h3⟩
  ·exact ih (n+1) (by lia) σ2 (by exact Nat.succ_le_of_lt hlt) h3
  ·exact ih (n+1) (by lia) σ2 (by exact Nat.succ_le_of_lt hlt) h3
theorem wp_rangeIt {fn:PM PV}{Q:It→PS→Prop}(h:Wp fn σ fun p σ1=>∃ n,p=.int n∧(-1000000<n∧n<1000000)∧Q (.still (upto n.toNat) fun _=>True) σ1):Wp (pRangeIt fn) σ Q:=by
 refine Wp.seq (h.mono fun p σ1 h1=>?_)
 obtain⟨n,rfl,hn,q⟩:=h1
 exact⟨_,σ1,by simp only[rangeIt,hn,and_self,if_true];rfl,q⟩
theorem wp_revIt {fn:PM PV}{Q:It→PS→Prop}(h:Wp fn σ fun p σ1=>∃ n,p=.int n∧(0≤n∧n<1000000)∧Q (.still (downto n.toNat) fun _=>True) σ1):Wp (pRevIt fn) σ Q:=by
 refine Wp.seq (h.mono fun p σ1 h1=>?_)
 obtain⟨n,rfl,hn,q⟩:=h1
 exact⟨_,σ1,by simp only[revIt,hn,and_self,if_true];rfl,q⟩
theorem wp_iter {f:PM PV}{Q:It→PS→Prop}(h:Wp f σ fun p σ1=>Is (itOf σ1.H p) fun it=>Q it σ1):Wp (pIter f) σ Q:=by
 refine Wp.seq (h.mono fun p σ1 h1=>?_)
 obtain⟨it,e,q⟩:=h1
 exact⟨it,σ1,by simp only[e];rfl,q⟩
theorem wp_zipIt {f g:PM PV}{Q:It→PS→Prop}(h:Wp f σ fun p σ1=>Wp g σ1 fun q σ2=>Wp (zipIt p q) σ2 Q):Wp (pZipIt f g) σ Q:=Wp.seq (h.mono fun p σ1 h1=>Wp.seq h1)
theorem wp_enumIt {f:PM PV}{Q:It→PS→Prop}(h:Wp f σ fun p σ1=>Wp (enumIt p) σ1 Q):Wp (pEnumIt f) σ Q:=Wp.seq h
theorem wp_valsIt {f:PM PV}{Q:It→PS→Prop}(h:Wp f σ fun p σ1=>Wp (valsIt p) σ1 Q):Wp (pValsIt f) σ Q:=Wp.seq h
theorem wp_zipRIt {fn f:PM PV}{Q:It→PS→Prop}(h:Wp fn σ fun p σ1=>∃ n,p=.int n∧Wp f σ1 fun q σ2=>∃ t,q=.ref t∧Wp (zipRIt n t) σ2 Q):Wp (pZipRIt fn f) σ Q:=by
 refine Wp.seq (h.mono fun p σ1 h1=>?_)
 obtain⟨n,rfl,h2⟩:=h1
 refine Wp.seq (h2.mono fun q σ2 h3=>?_)
 obtain⟨t,rfl,h4⟩:=h3
 exact h4
theorem wp_compL_nil {it:It}{g:PV→PM Unit}{t:PM Bool}{em:PM Unit}{i:Nat}{Q:Unit→PS→Prop}(hc:it.chk i σ.H) (h:Q () ⟨it.stp i σ.H,σ.V⟩):Wp (compL it g t em i []) σ Q:=⟨_,_,by unfold compL;rw[if_pos hc],h⟩
theorem wp_compL_cons {it:It}{g:PV→PM Unit}{t:PM Bool}{em:PM Unit}{i:Nat}{p:PV}{ps:List PV}{Q:Unit→PS→Prop}(hc:it.chk i σ.H)
  (h:Wp (g p) ⟨it.stp i σ.H,σ.V⟩ fun _ σ1=>Wp t σ1 fun b σ2=>(b=true→Wp em σ2 fun _ σ3=>Wp (compL it g t em (i+1) ps) σ3 Q)∧(b=false→Wp (compL it g t em (i+1) ps) σ2 Q)):Wp (compL it g t em i (p::ps)) σ Q:=by
 have h2:Wp (seq (g p) fun _=>seq t fun b=>match b with
  | true=>seq em fun _=>compL it g t em (i+1) ps
  | false=>compL it g t em (i+1) ps) ⟨it.stp i σ.H,σ.V⟩ Q:=Wp.seq (h.mono fun _ σ1 h1=>Wp.seq (h1.mono fun b σ2 h2=>by
   cases b with
   | true=>exact Wp.seq (h2.1 rfl)
   | false=>exact h2.2 rfl))
 obtain⟨a,b,e,q⟩:=h2
 exact⟨a,b,by unfold compL;rw[if_pos hc];exact e,q⟩
theorem wp_compL_inv {it:It}{g:PV→PM Unit}{t:PM Bool}{em:PM Unit}{Q:Unit→PS→Prop}(I:Nat→PS→Prop) (xs:List PV) (hchk:∀ i σ,I i σ→it.chk i σ.H) (hturn:∀(i:Nat) p σ,xs[i]?=some p→I i σ→Wp (g p) ⟨it.stp i σ.H,σ.V⟩ fun _ σ1=>Wp t σ1 fun b σ2=>(b=true→Wp em σ2 fun _ σ3=>I (i+1) σ3)∧(b=false→I (i+1) σ2))
  (hend:∀ σ,I xs.length σ→Q () ⟨it.stp xs.length σ.H,σ.V⟩):∀(n:Nat) (σ:PS),n≤xs.length→I n σ→Wp (compL it g t em n (xs.drop n)) σ Q:=by
 intro n
 induction hk:xs.length - n generalizing n with
 | zero=>
  intro σ hn hI
  have:n=xs.length:=by lia
  subst this
  rw[List.drop_length]
  exact wp_compL_nil (hchk _ _ hI) (hend _ hI)
 | succ m ih=>
  intro σ hn hI
  have hlt:n<xs.length:=by lia
  rw[List.drop_eq_getElem_cons hlt]
  refine wp_compL_cons (hchk _ _ hI) ((hturn n _ σ (List.getElem?_eq_getElem hlt) hI).mono fun _ σ1 h1=>h1.mono fun b σ2 h2=>⟨fun hb=>(h2.1 hb).mono fun _ σ3 h3=>?_,fun hb=>?_⟩)
  ·exact ih (n+1) (by lia) σ3 (by exact Nat.succ_le_of_lt hlt) h3
  ·exact ih (n+1) (by lia) σ2 (by exact Nat.succ_le_of_lt hlt) (h2.2 hb)
theorem wp_comp {nl:Nat}{fz:List (Nat × PySem.Str)}{fi:PM It}{new:PObj}{g:PV→PM Unit}{t:PM Bool}{em:Nat→PM Unit}{Q:PV→PS→Prop}
  (h:Wp fi σ fun it σ1=>Wp (compL it g t (em σ1.H.length) 0 it.xs) ⟨σ1.H++[new],inV nl fz σ1.V⟩ fun _ σ2=>σ2.V.drop nl=(inV nl fz σ1.V).drop nl∧Q (.ref σ1.H.length) ⟨σ2.H,σ1.V⟩):Wp (pComp nl fz fi new g t em) σ Q:=by
 refine Wp.seq (h.mono fun it σ1 h1=>?_)
 refine gv fun _ gk=>?_
 obtain⟨_,σ2,e,hv,q⟩:=h1
 refine gk ?_
 exact⟨_,_,by simp only[e,hv,if_true],q⟩
theorem wp_emL {f:PM PV}{d:Nat}{Q:Unit→PS→Prop}(h:Wp f σ fun x σ1=>Fw F_append [.ref d,x] σ1.H fun _ H'=>Q () ⟨H',σ1.V⟩):Wp (emL f d) σ Q:=
 Wp.seq (h.mono fun x σ1 h1=>Wp.seq ((wp_callF (H:=σ1.H) (V:=σ1.V) (Q:=fun _ σ2=>Q () σ2) h1).mono fun _ σ2 h2=>Wp.ret h2))
end
theorem len_ok {xs:List PV}(h:xs.length≤1000000):xs.length≤1000000:=h
open PySem PySem.W
section
variable {σ:PS}{H:List PObj}{V:List (Option PV)}{Q:PV→PS→Prop}
theorem wp_sorted {f g kf:PM PV}(h:Wp f σ fun c σ1=>c=.const (.builtin "sorted")∧Wp g σ1 fun a σ2=>Wp kf σ2 fun kv σ3=>kv=.none∧Wp (sortedOf a) σ3 Q):Wp (pSorted f g kf) σ Q:=by
 refine Wp.seq (h.mono fun c σ1 h1=>?_)
 obtain⟨rfl,h2⟩:=h1
 refine Wp.seq (h2.mono fun a σ2 h3=>Wp.seq (h3.mono fun kv σ3 h4=>?_))
 obtain⟨rfl,h5⟩:=h4
 exact h5
theorem wp_slice {f fl fu fs:PM PV}(h:Wp f σ fun a σ1=>Wp fl σ1 fun l σ2=>Wp fu σ2 fun u σ3=>Wp fs σ3 fun t σ4=>Is (partsOf l u t) fun r=>Wp (sliceOf a r.1 r.2.1 r.2.2) σ4 Q):Wp (pSlice f fl fu fs) σ Q:=by
 refine Wp.seq (h.mono fun a σ1 h1=>Wp.seq (h1.mono fun l σ2 h2=>Wp.seq (h2.mono fun u σ3 h3=>Wp.seq (h3.mono fun t σ4 h4=>?_))))
 obtain⟨r,e,h5⟩:=h4
 rw[e];exact h5
theorem wp_sliceRaw {f fl fu fs:PM PV}(h:Wp f σ fun a σ1=>Wp fl σ1 fun l σ2=>Wp fu σ2 fun u σ3=>Wp fs σ3 fun t σ4=>Is (partsOf l u t) fun r=>Wp (sliceRaw a r.1 r.2.1 r.2.2) σ4 Q):Wp (pSliceRaw f fl fu fs) σ Q:=by
 refine Wp.seq (h.mono fun a σ1 h1=>Wp.seq (h1.mono fun l σ2 h2=>Wp.seq (h2.mono fun u σ3 h3=>Wp.seq (h3.mono fun t σ4 h4=>?_))))
 obtain⟨r,e,h5⟩:=h4
 rw[e];exact h5
theorem wp_sliceOf {i:Nat}{xs:List PV}{lo hi st:Option Int}(h:H[i]?=some (.list xs)) (hl:xs.length≤1000000) (hst:st≠some 0) (hq:Q (.ref H.length) ⟨H++[.list (pickL xs lo hi st)],V⟩):Wp (sliceOf (.ref i) lo hi st) ⟨H,V⟩ Q:=
 ⟨_,_,by simp only[sliceOf,h,hl,hst,ne_eq,not_false_eq_true,and_self,if_true],hq⟩
theorem range_take {τ:Type}(xs:List τ):∀ m,(List.range m).filterMap (xs[·]?)=xs.take m
 | 0=>by rfl
 | m+1=>by
  rw[List.range_succ,List.filterMap_append,range_take xs m,List.take_succ]
  cases e:xs[m]?<;>simp[e]
theorem pick_upto (xs:List PV) (n:Nat):pickL xs none (some (n:Int)) none=xs.take n:=by
 unfold pickL
 rw[sliceBounds_plain]
 simp only[Option.elim]
 rw[show((0:Nat):Int)=((0:Nat):Int) from rfl,sliceRange_one]
 have e:(fun x=>0+x:Nat→Nat)=id:=by funext x;simp
 rw[e,List.map_id,range_take]
 unfold clipAt
 have:¬ ((n:Int)<0):=by exact Int.not_lt_of_ge (Int.natCast_nonneg _)
 skip
 rcases Nat.le_total n xs.length with q | q
 ·congr 1;simp;lia
 ·rw[List.take_of_length_le q,List.take_of_length_le]
  simp;lia
theorem wp_listcomp {nl:Nat}{fz:List (Nat × PySem.Str)}{fi:PM It}{g:PV→PM Unit}{t:PM Bool}{f:PM PV}
  (h:Wp fi σ fun it σ1=>Wp (compL it g t (emL f σ1.H.length) 0 it.xs) ⟨σ1.H++[.list []],inV nl fz σ1.V⟩ fun _ σ2=>σ2.V.drop nl=(inV nl fz σ1.V).drop nl∧Q (.ref σ1.H.length) ⟨σ2.H,σ1.V⟩):Wp (pListComp nl fz fi g t f) σ Q:=wp_comp h
end
open PySem PySem.W
noncomputable def tv (t:List Int):PV:=.tup (t.map .int)
theorem intsOf_map:∀(t:List Int),intsOf (t.map .int)=some t
 | []=>rfl
 | x::t=>by simp[intsOf,intsOf_map t]
theorem less_tv (a b:List Int):less (tv a) (tv b)=some (lexLt a b):=by
 simp[less,tv,intsOf_map]
noncomputable abbrev hs (H:List PObj) (i:Nat) (xs:List PV):List PObj:=H.set i (.list xs)
section
variable {H:List PObj}{i:Nat}
theorem hs_at (hi:i<H.length) (xs:List PV):(hs H i xs)[i]?=some (.list xs):=List.getElem?_set_self hi
theorem hs_hs (xs ys:List PV):(hs H i xs).set i (.list ys)=hs H i ys:=by simp[hs]
theorem hs_id {xs:List PV}(h:H[i]?=some (.list xs)):hs H i xs=H:=by
 have hi:=(List.getElem?_eq_some_iff.mp h).1
 skip
 apply List.ext_getElem?
 intro j
 by_cases hj:i=j
 ·subst hj;rw[List.getElem?_set_self hi,h]
 ·rw[List.getElem?_set_ne hj]
theorem item_hs (hi:i<H.length) {xs:List PV}{k:Int}{p:PV}(h:0≤k∧k<2 ^ 62) (hx:xs[k.toNat]?=some p):itemOf (hs H i xs) (.ref i) (.int k)=some p:=by
 simp only[itemOf,hs_at hi,idx,h,and_self,if_true,hx]
theorem put_hs (hi:i<H.length) {xs:List PV}{k:Int}{v:PV}(h:0≤k∧k<xs.length∧k<2 ^ 62):putItem (hs H i xs) (.ref i) (.int k) v=some (hs H i (xs.set k.toNat v)):=by
 simp only[putItem,hs_at hi,h,and_self,if_true,hs_hs]
theorem fw_len_hs (hi:i<H.length) {xs:List PV}(hx:xs.length<2 ^ 40) {R:PV→List PObj→Prop}(h:R (.int xs.length) (hs H i xs)):Fw F_len [.ref i] (hs H i xs) R:=
 ⟨_,_,by simp only[F_len,lenOf,hs_at hi,hx,if_true],h⟩
theorem fw_append_hs (hi:i<H.length) {xs:List PV}{x:PV}(hx:xs.length≤1000000) {R:PV→List PObj→Prop}(h:R .none (hs H i (xs++[x]))):Fw F_append [.ref i,x] (hs H i xs) R:=
 ⟨_,_,by simp only[F_append,appIn,hs_at hi,hx,if_true,hs_hs],h⟩
theorem fw_pop_hs (hi:i<H.length) {xs:List PV}{x:PV}(hl:xs.getLast?=some x) (hx:xs.length≤1000000) {R:PV→List PObj→Prop}(h:R x (hs H i xs.dropLast)):Fw F_pop [.ref i] (hs H i xs) R:=
 ⟨_,_,by simp only[F_pop,onL,hs_at hi,hl,hx,if_true,hs_hs],h⟩
theorem truth_hs (hi:i<H.length) {xs:List PV}(hx:xs.length<2 ^ 40):truthOf (hs H i xs) (.ref i)=some (!xs.isEmpty):=by simp only[truthOf,hs_at hi,hx,if_true]
theorem kind_hs (hi:i<H.length) {xs:List PV}:kindOfP (hs H i xs) (.ref i)=some "list":=by simp only[kindOfP,hs_at hi]
end
set_option hygiene false in
local macro_rules | `(tactic| walk_at "p")=>`(tactic| (first
 | with_reducible (first
  | refine wp_a1 (by with_unfolding_all exact rfl) ?_ | refine wp_aLoc (by with_unfolding_all exact rfl) ?_ | refine wp_aConst ?_ | refine wp_callC ?_ | refine wp_subLL (by with_unfolding_all exact rfl) (by with_unfolding_all exact rfl) ?_ | refine wp_subLC (by with_unfolding_all exact rfl) ?_ | refine wp_setL (by with_unfolding_all exact rfl) ?_ | refine wp_retL (by with_unfolding_all exact rfl) ?_
  | refine wp_bCons ?_ | refine wp_bNil ?_ | refine wp_sSet ?_ | refine wp_sRet ?_ | refine wp_sExpr ?_ | refine wp_sIf ?_
  | refine wp_sPut ?_ | refine wp_sSetA ?_ | refine wp_sAug ?_ | refine wp_sAugA ?_ | refine wp_sSetT ?_ | refine wp_sSet2 ?_
  | refine wp_const ?_ | refine wp_add ?_ | refine wp_subi ?_ | refine wp_mul ?_ | refine wp_div ?_ | refine wp_mod ?_ | refine wp_pow ?_ | refine wp_shr ?_
  | refine wp_test ?_ | refine wp_asBool ?_ | refine wp_lt ?_ | refine wp_not ?_ | refine wp_and ?_ | refine wp_truth ?_ | refine wp_isNone ?_ | refine wp_in ?_
  | refine wp_sub ?_ | refine wp_aNil ?_ | refine wp_aCons ?_ | refine wp_aStar ?_ | refine wp_tup ?_ | refine wp_list ?_ | refine wp_dict0 ?_
  | refine wp_call ?_ | refine wp_meth ?_ | refine wp_methS ?_ | refine wp_attr ?_ | refine wp_named ?_ | refine wp_or ?_
  | refine wp_setV ?_ | refine wp_tupT ?_ | refine wp_setAll_cons ?_ | refine wp_setAll_nil ?_ | refine Wp.ret ?_ | refine Wp.seq ?_
  | refine wp_sFor ?_ | refine wp_rangeIt ?_ | refine wp_revIt ?_ | refine wp_iter ?_ | refine wp_zipIt ?_ | refine wp_zipRIt ?_ | refine wp_enumIt ?_ | refine wp_valsIt ?_
  | refine wp_slice ?_ | refine wp_sorted ?_ | refine wp_listcomp ?_ | refine wp_emL ?_)
 | refine wp_loc rfl ?_)<;>try dsimp only[List.set_cons_succ,List.set_cons_zero])
set_option hygiene false in
local macro_rules | `(tactic| walk_at "q")=>`(tactic| (first
 | with_reducible refine fw_len_hs (by assumption) (by simp) ?_
 | with_reducible refine fw_append_hs (by assumption) (by simp) ?_
 | with_reducible refine fw_pop_hs (by assumption) rfl (by simp) ?_
 | with_reducible refine Is.mk (truth_hs (by assumption) (by simp)) ?_
 | with_reducible refine And.intro (kind_hs (by assumption)) ?_
 | with_reducible refine And.intro (len_ok (by simp)) ?_
 | with_reducible refine And.intro rfl ?_
 | refine Is.mk (item_hs (by assumption) (by decide) rfl) ?_
 | refine Is.mk (put_hs (by assumption) (by refine⟨by decide,?_,by decide⟩;simp)) ?_
 | refine Is2.mk (And.intro (by decide) ?_)
 | refine Is2.mk ?_
 | refine Is.mk (less_tv _ _) ?_
 | refine Is.mk rfl ?_
 | refine Exists.intro _ (And.intro rfl ?_)
 | ((with_reducible refine And.intro ?_ ?_);(focus (intro hb;exfalso;revert hb;first | decide | (simp;done)));intro _)
 | ((with_reducible refine And.intro ?_ ?_);rotate_left;(focus (intro hb;exfalso;revert hb;first | decide | (simp;done)));intro _))<;>try dsimp only[List.set_cons_succ,List.set_cons_zero])
set_option hygiene false in
local macro_rules | `(tactic| walk_at "r")=>`(tactic| repeat' (first | walk_at "p" | walk_at "q" | with_reducible refine wp_while ?_ | ((with_reducible refine And.intro ?_ ?_)<;>intro _)))
set_option hygiene false in
local macro_rules | `(tactic| walk_at "s")=>`(tactic| repeat' (first | walk_at "p" | walk_at "q" | ((with_reducible refine And.intro ?_ ?_)<;>intro _)))
section
variable {H:List PObj}{i:Nat}
noncomputable def sdP (x:List Int):Nat→List (List Int)→Nat→List (List Int)
 | 0,xs,p=>xs.set p x
 | n+1,xs,p=>if p=0 then xs.set p x else if lexLt x (xs.getD ((p - 1) / 2) []) then sdP x n (xs.set p (xs.getD ((p - 1) / 2) [])) ((p - 1) / 2) else xs.set p x
theorem half_cast {p:Nat}(h:p≠0):((p:Int) - 1).fdiv (2 ^ (1:Int).toNat)=(((p - 1) / 2:Nat):Int):=by
 obtain⟨q,rfl⟩:=Nat.exists_eq_succ_of_ne_zero h
 rw[Int.fdiv_eq_ediv_of_nonneg _ (by decide)]
 rw[show((q.succ:Nat):Int) - 1=(q:Int) from Int.add_sub_cancel (q:Int) 1];rfl
theorem tv_at {xs:List (List Int)}{p:Nat}(h:p<xs.length):(xs.map tv)[((p:Nat):Int).toNat]?=some (tv (xs.getD p [])):=by
 rw[Int.toNat_natCast,List.getElem?_map,List.getD_eq_getElem?_getD,List.getElem?_eq_getElem h];rfl
theorem small_ix {p l:Nat}(h:p<l) (hl:l≤1000):0≤(p:Int)∧(p:Int)<2 ^ 62:=⟨Int.natCast_nonneg _,Int.lt_of_lt_of_le (Int.ofNat_lt.mpr (Nat.lt_of_lt_of_le h hl)) (by decide)⟩
theorem item_tv (hi:i<H.length) {xs:List (List Int)}{p:Nat}(h:p<xs.length) (hl:xs.length≤1000):itemOf (hs H i (xs.map tv)) (.ref i) (.int (p:Int))=some (tv (xs.getD p [])):=item_hs hi (small_ix h hl) (tv_at h)
theorem put_tv (hi:i<H.length) {xs:List (List Int)}{p:Nat}{v:List Int}(h:p<xs.length) (hl:xs.length≤1000):putItem (hs H i (xs.map tv)) (.ref i) (.int (p:Int)) (tv v)=some (hs H i ((xs.set p v).map tv)):=by
 rw[put_hs hi ⟨(small_ix h hl).1,by rw[List.length_map];exact Int.ofNat_lt.mpr h,(small_ix h hl).2⟩,Int.toNat_natCast,List.map_set]
noncomputable def LB_siftdown:PM PFlow:=(bCons (sSet 4 (pBin oShr (pBin oSub (pLoc 2) (pConst (.int 1))) (pConst (.int 1))))
 (bCons (sSet 5 (pSub (pLoc 0) (pLoc 4)))
 (bCons (sIf (pLt (pLoc 3) (pLoc 5)) (bCons (sPut (pLoc 5) (pLoc 0) (pLoc 2))
 (bCons (sSet 2 (pLoc 4))
 (bCons (ret .cont)
 bNil))) bNil)
 (bCons (ret .brk)
 bNil))))
theorem sd_turn (hi:i<H.length) {xs:List (List Int)}{p:Nat}{x:List Int}{v4 v5:Option PV}{Q:PFlow→PS→Prop}(hp:p<xs.length) (hl:xs.length≤1000) (h0:p≠0)
  (h1:lexLt x (xs.getD ((p - 1) / 2) [])=true→∀ v5,Q .cont ⟨hs H i ((xs.set p (xs.getD ((p - 1) / 2) [])).map tv),[some (.ref i),some (.int 0),some (.int (((p - 1) / 2:Nat):Int)),some (tv x),some (.int (((p - 1) / 2:Nat):Int)),v5]⟩)
  (h2:lexLt x (xs.getD ((p - 1) / 2) [])=false→∀ v4 v5,Q .brk ⟨hs H i (xs.map tv),[some (.ref i),some (.int 0),some (.int (p:Int)),some (tv x),v4,v5]⟩):
  Wp LB_siftdown ⟨hs H i (xs.map tv),[some (.ref i),some (.int 0),some (.int (p:Int)),some (tv x),v4,v5]⟩ Q:=by
 have hpp:(p - 1) / 2<xs.length:=Nat.lt_of_le_of_lt (Nat.le_trans (Nat.div_le_self _ _) (Nat.sub_le _ _)) hp
 have e:=half_cast h0
 generalize (p - 1) / 2=pp at*
 refine wp_bCons ?_
 walk_at "s"
 rw[e]
 refine Is.mk (item_tv hi hpp hl) ?_
 walk_at "s"
 ·refine Is.mk (put_tv hi hp hl) ?_
  walk_at "s"
  rename_i hb
  exact h1 hb _
 ·rename_i hb
  exact h2 hb _ _
theorem sd_loop (hi:i<H.length) {x:List Int}{Q:PFlow→PS→Prop}:∀(n:Nat) {xs:List (List Int)}{p:Nat}{v4 v5:Option PV},p≤n→p<xs.length→xs.length≤1000→
  (∀ {xs':List (List Int)}{p':Nat} v4 v5,p'<xs'.length→xs'.length≤1000→xs'.set p' x=sdP x n xs p→Q .next ⟨hs H i (xs'.map tv),[some (.ref i),some (.int 0),some (.int (p':Int)),some (tv x),v4,v5]⟩)→
  Wp (whileM (pTest (fun x y=>decide (y<x)) (pLoc 2) (pLoc 1)) LB_siftdown bNil) ⟨hs H i (xs.map tv),[some (.ref i),some (.int 0),some (.int (p:Int)),some (tv x),v4,v5]⟩ Q
 | n,xs,0,v4,v5,_,hp,hl,h=>by
  refine wp_while (wp_test (wp_loc rfl (wp_loc rfl (Is2.mk ⟨fun _=>wp_bNil (h _ _ hp hl ?_),nofun⟩))))
  cases n<;>rfl
 | n+1,xs,p+1,v4,v5,hn,hp,hl,h=>by
  refine wp_while (wp_test (wp_loc rfl (wp_loc rfl (Is2.mk ⟨fun hb=>?_,fun _=>sd_turn hi hp hl (Nat.succ_ne_zero _) (fun e v5=>?_) fun e v4 v5=>?_⟩))))
  ·exact absurd (Int.natCast_pos.mpr (Nat.succ_pos p)) (of_decide_eq_false hb)
  ·refine sd_loop hi n (Nat.le_trans (Nat.div_le_self _ _) (Nat.le_of_succ_le_succ hn)) ?_ ?_ fun v4 v5 a b c=>h v4 v5 a b ?_
   ·rw[List.length_set];exact Nat.lt_of_le_of_lt (Nat.div_le_self _ _) (Nat.lt_of_succ_lt hp)
   ·rw[List.length_set];exact hl
   ·rw[c];exact((if_neg (Nat.succ_ne_zero _)).trans (if_pos e)).symm
  ·exact h v4 v5 hp hl ((if_neg (Nat.succ_ne_zero _)).trans (if_neg (by rw[e];decide))).symm
theorem fw_siftdown {R:PV→List PObj→Prop}(hi:i<H.length) {xs:List (List Int)}{p:Nat}(hp:p<xs.length) (hl:xs.length≤1000) (h:R .none (hs H i ((sdP (xs.getD p []) p xs p).map tv))):Fw F_siftdown [.ref i,.int 0,.int (p:Int)] (hs H i (xs.map tv)) R:=by
 refine fw_run (V0:=[some (.ref i),some (.int 0),some (.int (p:Int)),none,none,none]) rfl ?_
 refine wp_bCons ?_
 repeat walk_at "p"
 refine Is.mk (item_tv hi hp hl) ?_
 walk_at "p"
 refine sd_loop hi p (Nat.le_refl _) hp hl fun v4 v5 a b c=>?_
 repeat walk_at "p"
 refine Is.mk (put_tv hi a b) ?_
 rw[c]
 walk_at "s"
 exact h
theorem su1 {R:PV→List PObj→Prop}(hi:i<H.length) {a:List Int}(h:R .none (hs H i [tv a])):Fw F_siftup [.ref i,.int 0] (hs H i [tv a]) R:=by
 refine fw_run (V0:=[some (.ref i),some (.int 0),none,none,none,none,none]) rfl (wp_bCons ?_)
 walk_at "r"
 refine fw_siftdown (xs:=[a]) (p:=0) hi (show 0<1 by decide) (show 1≤1000 by decide) ?_
 walk_at "r"
 exact h
theorem su2 {R:PV→List PObj→Prop}(hi:i<H.length) {c b:List Int}(h:R .none (hs H i ((if lexLt c b then[c,b] else[b,c]).map tv))):Fw F_siftup [.ref i,.int 0] (hs H i [tv c,tv b]) R:=by
 refine fw_run (V0:=[some (.ref i),some (.int 0),none,none,none,none,none]) rfl (wp_bCons ?_)
 walk_at "r"
 refine fw_siftdown (xs:=[b,c]) (p:=1) hi (show 1<2 by decide) (show 2≤1000 by decide) ?_
 walk_at "r"
 exact h
theorem pop1 {R:PV→List PObj→Prop}(hi:i<H.length) {a:PV}(h:R a (hs H i [])):Fw F_heappop [.ref i] (hs H i [a]) R:=by
 refine fw_run (V0:=[some (.ref i),none,none]) rfl (wp_bCons ?_)
 walk_at "r"
 exact h
theorem pop2 {R:PV→List PObj→Prop}(hi:i<H.length) {a:PV}{b:List Int}(h:R a (hs H i [tv b])):Fw F_heappop [.ref i] (hs H i [a,tv b]) R:=by
 refine fw_run (V0:=[some (.ref i),none,none]) rfl (wp_bCons ?_)
 walk_at "r"
 refine su1 hi ?_
 walk_at "r"
 exact h
theorem pop3 {R:PV→List PObj→Prop}(hi:i<H.length) {a:PV}{b c:List Int}(h:R a (hs H i ((if lexLt c b then[c,b] else[b,c]).map tv))):Fw F_heappop [.ref i] (hs H i [a,tv b,tv c]) R:=by
 refine fw_run (V0:=[some (.ref i),none,none]) rfl (wp_bCons ?_)
 walk_at "r"
 refine su2 hi ?_
 walk_at "r"
 exact h
theorem fw_push {R:PV→List PObj→Prop}(hi:i<H.length) {xs:List (List Int)}{x:List Int}(hl:xs.length≤999) (h:R .none (hs H i ((sdP x xs.length (xs++[x]) xs.length).map tv))):Fw F_heappush [.ref i,tv x] (hs H i (xs.map tv)) R:=by
 have hc:(((xs.map tv)++[tv x]).length:Int) - 1=(xs.length:Int):=by rw[List.length_append,List.length_map];exact Int.add_sub_cancel (xs.length:Int) 1
 have hm:(xs.map tv)++[tv x]=(xs++[x]).map tv:=by rw[List.map_append];rfl
 have hg:(xs++[x]).getD xs.length []=x:=by rw[List.getD_eq_getElem?_getD,List.getElem?_append_right (Nat.le_refl _),Nat.sub_self];rfl
 have hn:(xs++[x]).length=xs.length+1:=by rw[List.length_append];rfl
 refine fw_run (V0:=[some (.ref i),some (tv x)]) rfl (wp_bCons ?_)
 repeat walk_at "p"
 refine⟨kind_hs hi,?_⟩
 repeat walk_at "p"
 refine fw_append_hs hi (by rw[List.length_map];exact Nat.le_trans hl (by decide)) ?_
 repeat walk_at "p"
 refine fw_len_hs hi (by rw[hm,List.length_map,hn];exact Nat.lt_of_le_of_lt (Nat.succ_le_succ hl) (by decide)) ?_
 walk_at "p"
 refine Is2.mk ?_
 rw[hc,hm]
 walk_at "p"
 refine fw_siftdown hi (by rw[hn];exact Nat.lt_succ_self _) (by rw[hn];exact Nat.succ_le_succ hl) ?_
 rw[hg]
 walk_at "s"
 exact h
end
open PySem PySem.W
section
variable {H:List PObj}{i:Nat}
theorem not_t {b:Bool}(h:(!b)=true):b=false:=by cases b;rfl;cases h
theorem not_f {b:Bool}(h:(!b)=false):b=true:=by cases b;cases h;rfl
theorem sm_p {R:PV→List PObj→Prop}(hi:i<H.length) {xs:List (List Int)}{p:Nat}{x:List Int}(hp:p<xs.length) (hl:xs.length≤1000) (h0:p≠0) (hh:(p - 1) / 2=0) (hx:xs.getD p []=x)
  (h1:lexLt (xs.getD 0 []) x=true→R .none (hs H i (((xs.set p (xs.getD 0 [])).set 0 x).map tv)))
  (h2:lexLt (xs.getD 0 []) x=false→R .none (hs H i ((xs.set p x).map tv))):Fw F_siftdown_max [.ref i,.int 0,.int (p:Int)] (hs H i (xs.map tv)) R:=by
 have e:=half_cast h0
 rw[hh] at e
 have hz:0<xs.length:=Nat.lt_of_le_of_lt (Nat.zero_le _) hp
 refine fw_run (V0:=[some (.ref i),some (.int 0),some (.int (p:Int)),none,none,none]) rfl (wp_bCons ?_)
 walk_at "s"
 refine Is.mk (item_tv hi hp hl) ?_
 rw[hx]
 walk_at "s"
 refine wp_while (wp_test (wp_loc rfl (wp_loc rfl (Is2.mk ⟨fun hb=>absurd (Int.natCast_pos.mpr (Nat.pos_of_ne_zero h0)) (of_decide_eq_false hb),fun _=>?_⟩))))
 walk_at "s"
 rw[e]
 refine Is.mk (item_tv hi hz hl) ?_
 walk_at "s"
 ·refine Is.mk (put_tv hi hp hl) ?_
  walk_at "s"
  refine wp_while (wp_test (wp_loc rfl (wp_loc rfl (Is2.mk ⟨fun _=>?_,nofun⟩))))
  repeat walk_at "p"
  rename_i hb _
  refine Is.mk (put_tv hi (xs:=xs.set p (xs.getD 0 [])) (p:=0) (by rw[List.length_set];exact hz) (by rw[List.length_set];exact hl)) ?_
  repeat walk_at "p"
  exact h1 hb
 ·refine Is.mk (put_tv hi hp hl) ?_
  walk_at "s"
  rename_i hb
  exact h2 hb
noncomputable def sm3 (x b c:List Int):List (List Int):=if lexLt c b then(if lexLt b x then[x,b,c] else[b,x,c]) else(if lexLt c x then[x,b,c] else[c,b,x])
theorem sm3_tt {x b c:List Int}(h:lexLt c b=true) (k:lexLt b x=true):sm3 x b c=[x,b,c]:=by unfold sm3;rw[if_pos h,if_pos k]
theorem sm3_tf {x b c:List Int}(h:lexLt c b=true) (k:lexLt b x=false):sm3 x b c=[b,x,c]:=by unfold sm3;rw[if_pos h,if_neg (Bool.eq_false_iff.mp k)]
theorem sm3_ft {x b c:List Int}(h:lexLt c b=false) (k:lexLt c x=true):sm3 x b c=[x,b,c]:=by unfold sm3;rw[if_neg (Bool.eq_false_iff.mp h),if_pos k]
theorem sm3_ff {x b c:List Int}(h:lexLt c b=false) (k:lexLt c x=false):sm3 x b c=[c,b,x]:=by unfold sm3;rw[if_neg (Bool.eq_false_iff.mp h),if_neg (Bool.eq_false_iff.mp k)]
theorem um3 {R:PV→List PObj→Prop}(hi:i<H.length) {x b c:List Int}(h:R .none (hs H i ((sm3 x b c).map tv))):Fw F_siftup_max [.ref i,.int 0] (hs H i [tv x,tv b,tv c]) R:=by
 refine fw_run (V0:=[some (.ref i),some (.int 0),none,none,none,none,none]) rfl (wp_bCons ?_)
 walk_at "r"
 ·rename_i hcb _
  refine sm_p (x:=x) (xs:=[c,b,x]) (p:=2) hi (show 2<3 by decide) (show 3≤1000 by decide) (by decide) (by decide) rfl (fun hb=>?_) fun hb=>?_
  ·walk_at "r"
   rw[sm3_ft (x:=x) (not_t hcb) hb] at h
   exact h
  ·walk_at "r"
   rw[sm3_ff (x:=x) (not_t hcb) hb] at h
   exact h
 ·rename_i hcb _
  refine sm_p (x:=x) (xs:=[b,x,c]) (p:=1) hi (show 1<3 by decide) (show 3≤1000 by decide) (by decide) (by decide) rfl (fun hb=>?_) fun hb=>?_
  ·walk_at "r"
   rw[sm3_tt (x:=x) (not_f hcb) hb] at h
   exact h
  ·walk_at "r"
   rw[sm3_tf (x:=x) (not_f hcb) hb] at h
   exact h
theorem hm3 {R:PV→List PObj→Prop}(hi:i<H.length) {x b c:List Int}(h:R .none (hs H i ((sm3 x b c).map tv))):Fw F_heapify_max [.ref i] (hs H i [tv x,tv b,tv c]) R:=by
 refine fw_run (V0:=[some (.ref i),none,none]) rfl ?_
 unfold B_heapify_max
 walk_at "r"
 have e:Int.fdiv ((([tv x,tv b,tv c]:List PV).length:Nat):Int) 2=1:=by
  have:(([tv x,tv b,tv c]:List PV).length:Int)=3:=rfl
  rw[this];decide
 rw[e]
 refine⟨by decide,?_⟩
 show Wp (forL _ _ _ 0 [.int 0]) _ _
 refine wp_forL_cons trivial ?_
 walk_at "r"
 refine um3 hi ?_
 walk_at "r"
 refine wp_forL_nil trivial ?_
 walk_at "r"
 exact h
theorem rm3 {R:PV→List PObj→Prop}(hi:i<H.length) {x a b c:List Int}(h:R (tv a) (hs H i ((sm3 x b c).map tv))):Fw F_heapreplace_max [.ref i,tv x] (hs H i [tv a,tv b,tv c]) R:=by
 refine fw_run (V0:=[some (.ref i),some (tv x),none]) rfl ?_
 unfold B_heapreplace_max
 walk_at "r"
 refine um3 hi ?_
 walk_at "r"
 exact h
end
open PySem PySem.W
noncomputable def popP:List (List Int)→List Int × List (List Int)
 | [a]=>(a,[])
 | [a,b]=>(a,[b])
 | [a,b,c]=>(a,if lexLt c b then[c,b] else[b,c])
 | _=>([],[])
noncomputable def pushP:List (List Int)→List Int→List (List Int)
 | [],x=>[x]
 | [a],x=>if lexLt x a then[x,a] else[a,x]
 | [a,b],x=>if lexLt x a then[x,b,a] else[a,b,x]
 | [a,b,c],x=>if lexLt x b then(if lexLt x a then[x,a,c,b] else[a,x,c,b]) else[a,b,c,x]
 | l,_=>l
section
variable {H:List PObj}{i:Nat}{R:PV→List PObj→Prop}
@[elab_as_elim] theorem len3 {τ:Type}{P:List τ→Prop}{l:List τ}(h:l.length≤3) (h0:P []) (h1:∀ a,P [a]) (h2:∀ a b,P [a,b]) (h3:∀ a b c,P [a,b,c]):P l:=by
 cases l with
 | nil=>exact h0
 | cons a l=>cases l with
  | nil=>exact h1 a
  | cons b l=>cases l with
   | nil=>exact h2 a b
   | cons c l=>cases l with
    | nil=>exact h3 a b c
    | cons=>exact absurd h (Nat.not_le_of_gt (Nat.le_add_left _ _))
theorem ite_or {τ:Type}{c:Prop} [Decidable c] (x y:τ):ite c x y=x∨ite c x y=y:=if h:c then .inl (if_pos h) else .inr (if_neg h)
theorem fw_heappop (hi:i<H.length) {xs:List (List Int)}(h1:0<xs.length) (h2:xs.length≤3) (h:R (tv (popP xs).1) (hs H i ((popP xs).2.map tv))):Fw F_heappop [.ref i] (hs H i (xs.map tv)) R:=by
 revert h1 h
 exact len3 h2 (fun h1 _=>absurd h1 (Nat.lt_irrefl _)) (fun _ _ h=>pop1 hi h) (fun _ _ _ h=>pop2 hi h) fun _ _ _ _ h=>pop3 hi h
theorem push_sd {xs:List (List Int)}(x:List Int) (h2:xs.length≤3):pushP xs x=sdP x xs.length (xs++[x]) xs.length:=len3 h2 (by kernel_rfl) (fun _=>by kernel_rfl) (fun _ _=>by kernel_rfl) fun _ _ _=>by kernel_rfl
theorem fw_heappush (hi:i<H.length) {xs:List (List Int)}{x:List Int}(h2:xs.length≤3) (h:R .none (hs H i ((pushP xs x).map tv))):Fw F_heappush [.ref i,tv x] (hs H i (xs.map tv)) R:=
 fw_push hi (Nat.le_trans h2 (by decide)) (push_sd x h2▸h)
theorem item_of {K:List PObj}{xs:List PV}{k:Int}{p:PV}(h:K[i]?=some (.list xs)) (hk:0≤k∧k<2 ^ 62) (hx:xs[k.toNat]?=some p):itemOf K (.ref i) (.int k)=some p:=by
 simp only[itemOf,h,idx,hk,and_self,if_true,hx]
theorem app2a (X Y Z:PObj):(H++[X,Y]).set H.length Z=H++[Z,Y]:=by simp
theorem app2b (X Y Z:PObj):(H++[X,Y]).set (H.length+1) Z=H++[X,Z]:=by
 skip
 simp
theorem at2a (X Y:PObj):(H++[X,Y])[H.length]?=some X:=by simp
theorem at2b (X Y:PObj):(H++[X,Y])[H.length+1]?=some Y:=by
 rw[List.getElem?_append_right (by exact Nat.le_succ _)];simp
theorem at2 {X Y o:PObj}{j:Nat}(h:H[j]?=some o):(H++[X,Y])[j]?=some o:=by
 rw[List.getElem?_append_left (List.getElem?_eq_some_iff.mp h).1];exact h
end
open PySem PySem.W
noncomputable def LT_law_joined0:PM Bool:=(pAnd (pTruth (pLoc 2)) (pLt (pCall (.builtin "len") F_len (pConst (.const (.builtin "len"))) (aCons (pLoc 3) aNil)) (pConst (.int 3))))
noncomputable def LB_law_joined0:PM PFlow:=(bCons (sSetT (tupT [(setV 4),(setV 5),(setV 6)]) (pCall (.ref 35) F_heappop (pConst (.const (.ref 35))) (aCons (pLoc 2) aNil)))
 (bCons (sExpr (pMeth "list" F_append (pLoc 3) (aCons (pLoc 4) aNil)))
 (bCons (sIf (pLt (pBin oAdd (pLoc 6) (pConst (.int 1))) (pCall (.builtin "len") F_len (pConst (.const (.builtin "len"))) (aCons (pLoc 1) aNil))) (bCons (sExpr (pCall (.ref 28) F_heappush (pConst (.const (.ref 28))) (aCons (pLoc 2) (aCons (pTup (aCons (pBin oAdd (pSub (pLoc 0) (pLoc 5)) (pSub (pLoc 1) (pBin oAdd (pLoc 6) (pConst (.int 1))))) (aCons (pLoc 5) (aCons (pBin oAdd (pLoc 6) (pConst (.int 1))) aNil)))) aNil))))
 bNil) bNil)
 (bCons (sIf (pAnd (pTest (fun x y=>x==y) (pLoc 6) (pConst (.int 0))) (pLt (pBin oAdd (pLoc 5) (pConst (.int 1))) (pCall (.builtin "len") F_len (pConst (.const (.builtin "len"))) (aCons (pLoc 0) aNil)))) (bCons (sExpr (pCall (.ref 28) F_heappush (pConst (.const (.ref 28))) (aCons (pLoc 2) (aCons (pTup (aCons (pBin oAdd (pSub (pLoc 0) (pBin oAdd (pLoc 5) (pConst (.int 1)))) (pSub (pLoc 1) (pConst (.int 0)))) (aCons (pBin oAdd (pLoc 5) (pConst (.int 1))) (aCons (pConst (.int 0)) aNil)))) aNil))))
 bNil) bNil)
 bNil))))
section
variable {H:List PObj}{R:PV→List PObj→Prop}
noncomputable def joinPush (ps os:List Int) (rest:List (List Int)) (f s:Nat):List (List Int):=
 let r1:=if s+1<os.length then pushP rest [ps.getD f 0+os.getD (s+1) 0,(f:Int),((s+1:Nat):Int)] else rest
 if s=0∧f+1<ps.length then pushP r1 [ps.getD (f+1) 0+os.getD 0 0,((f+1:Nat):Int),0] else r1
theorem hs2a (Y:PObj) (xs:List PV):H++[.list xs,Y]=hs (H++[.list [],Y]) H.length xs:=(app2a _ _ _).symm
theorem hs2b (X:PObj) (xs:List PV):H++[X,.list xs]=hs (H++[X,.list []]) (H.length+1) xs:=(app2b _ _ _).symm
theorem len2 (X Y:PObj):H.length<(H++[X,Y]).length:=by simp
theorem len2' (X Y:PObj):H.length+1<(H++[X,Y]).length:=by simp
theorem fw_len_at {K:List PObj}{i:Nat}{xs:List PV}{R:PV→List PObj→Prop}(h:K[i]?=some (.list xs)) (hx:xs.length<2 ^ 40) (hR:R (.int xs.length) K):Fw F_len [.ref i] K R:=⟨_,_,by simp only[F_len,lenOf,h,hx,if_true],hR⟩
theorem kind_at {K:List PObj}{i:Nat}{xs:List PV}(h:K[i]?=some (.list xs)):kindOfP K (.ref i)=some "list":=by simp only[kindOfP,h]
theorem fw_append_at {K:List PObj}{i:Nat}{xs:List PV}{x:PV}{R:PV→List PObj→Prop}(h:K[i]?=some (.list xs)) (hx:xs.length≤1000000) (hR:R .none (K.set i (.list (xs++[x])))):Fw F_append [.ref i,x] K R:=⟨_,_,by simp only[F_append,appIn,h,hx,if_true],hR⟩
theorem item_int {K:List PObj}{i:Nat}{ps:List Int}{k:Int}(h:K[i]?=some (.list (ps.map .int))) (hk:0≤k∧k<2 ^ 62) (hl:k.toNat<ps.length):itemOf K (.ref i) (.int k)=some (.int (ps.getD k.toNat 0)):=
 item_of h hk (by simp[hl])
noncomputable def LB_joinC:PM PFlow:=(bCons (sIf (pAnd (pTest (fun x y=>x==y) (pLoc 6) (pConst (.int 0))) (pLt (pBin oAdd (pLoc 5) (pConst (.int 1))) (pCall (.builtin "len") F_len (pConst (.const (.builtin "len"))) (aCons (pLoc 0) aNil)))) (bCons (sExpr (pCall (.ref 28) F_heappush (pConst (.const (.ref 28))) (aCons (pLoc 2) (aCons (pTup (aCons (pBin oAdd (pSub (pLoc 0) (pBin oAdd (pLoc 5) (pConst (.int 1)))) (pSub (pLoc 1) (pConst (.int 0)))) (aCons (pBin oAdd (pLoc 5) (pConst (.int 1))) (aCons (pConst (.int 0)) aNil)))) aNil)))) bNil) bNil) bNil)
theorem jb2 {ip io:Nat}{ps os:List Int}{sums:List PV}{f s:Nat}{rest:List (List Int)}{v4:Option PV}{Q:PFlow→PS→Prop}(hp:H[ip]?=some (.list (ps.map .int))) (ho:H[io]?=some (.list (os.map .int)))
  (hr:rest.length≤3) (hf:f<ps.length) (hsn:s<os.length) (hl:ps.length≤1000) (hl2:os.length≤1000)
  (h:∀ v4 v5 v6,Q .next ⟨H++[.list ((if s=0∧f+1<ps.length then pushP rest [ps.getD (f+1) 0+os.getD 0 0,((f+1:Nat):Int),0] else rest).map tv),.list sums],[some (.ref ip),some (.ref io),some (.ref H.length),some (.ref (H.length+1)),v4,v5,v6]⟩):
  Wp LB_joinC
   ⟨H++[.list (rest.map tv),.list sums],[some (.ref ip),some (.ref io),some (.ref H.length),some (.ref (H.length+1)),v4,some (.int f),some (.int s)]⟩ Q:=by
 unfold LB_joinC
 walk_at "r"
 ·rename_i hs0
  refine fw_len_at (at2 hp) (by simp;exact Nat.lt_of_le_of_lt hl (by decide)) ?_
  walk_at "r"
  ·rename_i hlt
   have hlt:f+1<ps.length:=by simp at hlt;lia
   have hs0:s=0:=by simpa using hs0
   refine Is.mk (item_int (at2 hp) (by lia) (by lia)) ?_
   walk_at "r"
   refine Is.mk (item_int (at2 ho) (by exact by decide) (by simp;exact Nat.lt_of_lt_of_le (Nat.succ_pos _) (Nat.succ_le_of_lt hsn))) ?_
   walk_at "r"
   have e:((f:Int)+1).toNat=f+1:=by lia
   rw[e]
   show Fw F_heappush [_,tv [ps.getD (f+1) 0+os.getD 0 0,(f:Int)+1,0]] _ _
   rw[hs2a]
   refine fw_heappush (len2 _ _) (by exact hr) ?_
   rw[← hs2a]
   walk_at "r"
   have:=h v4 (some (.int f)) (some (.int s))
   rw[if_pos ⟨hs0,hlt⟩] at this
   exact this
  ·rename_i hlt
   have hlt:¬ (f+1<ps.length):=by simp at hlt;lia
   have:=h v4 (some (.int f)) (some (.int s))
   rw[if_neg (fun q=>hlt q.2)] at this
   exact this
 ·rename_i hs0 _
  have hs0:s≠0:=by simpa using hs0
  have:=h v4 (some (.int f)) (some (.int s))
  rw[if_neg (fun q=>hs0 q.1)] at this
  exact this
theorem push_len {xs:List (List Int)}{x:List Int}(h:xs.length≤3):(pushP xs x).length=xs.length+1:=by
 refine len3 h rfl (fun a=>?_) (fun a b=>?_) fun a b c=>?_
 ·exact(show pushP [a] x=[x,a]∨pushP [a] x=[a,x] from ite_or _ _).elim (congrArg List.length) (congrArg List.length)
 ·exact(show pushP [a,b] x=[x,b,a]∨pushP [a,b] x=[a,b,x] from ite_or _ _).elim (congrArg List.length) (congrArg List.length)
 ·refine(show pushP [a,b,c] x=(if lexLt x a then[x,a,c,b] else[a,x,c,b])∨pushP [a,b,c] x=[a,b,c,x] from ite_or _ _).elim (fun e=>?_) (congrArg List.length)
  rw[e]
  exact(ite_or (c:=lexLt x a=true) [x,a,c,b] [a,x,c,b]).elim (congrArg List.length) (congrArg List.length)
theorem jb {ip io:Nat}{ps os:List Int}{heap:List (List Int)}{sums:List PV}{pr:Int}{f s:Nat}{rest:List (List Int)}{v4 v5 v6:Option PV}{Q:PFlow→PS→Prop}(hp:H[ip]?=some (.list (ps.map .int))) (ho:H[io]?=some (.list (os.map .int)))
  (h1:0<heap.length) (h3:heap.length≤3) (hr:rest.length≤2) (hpop:popP heap=([pr,(f:Int),(s:Int)],rest)) (hf:f<ps.length) (hsn:s<os.length) (hl:ps.length≤1000) (hl2:os.length≤1000) (hsum:sums.length≤1000)
  (h:∀ v4 v5 v6,Q .next ⟨H++[.list ((joinPush ps os rest f s).map tv),.list (sums++[.int pr])],[some (.ref ip),some (.ref io),some (.ref H.length),some (.ref (H.length+1)),v4,v5,v6]⟩):
  Wp LB_law_joined0 ⟨H++[.list (heap.map tv),.list sums],[some (.ref ip),some (.ref io),some (.ref H.length),some (.ref (H.length+1)),v4,v5,v6]⟩ Q:=by
 show Wp (bCons _ (bCons _ (bCons _ LB_joinC))) _ _
 walk_at "r"
 rw[hs2a]
 refine fw_heappop (len2 _ _) h1 h3 ?_
 rw[← hs2a,hpop]
 show Wp (tupT _ (.tup [.int pr,.int f,.int s])) _ _
 walk_at "r"
 refine⟨kind_at (at2b _ _),?_⟩
 walk_at "r"
 refine fw_append_at (at2b _ _) (by exact Nat.le_trans hsum (by decide)) ?_
 rw[app2b]
 walk_at "r"
 refine fw_len_at (at2 ho) (by simp;exact Nat.lt_of_le_of_lt hl2 (by decide)) ?_
 walk_at "r"
 ·rename_i hlt
  have hlt:s+1<os.length:=by simp at hlt;lia
  refine Is.mk (item_int (at2 hp) (by lia) (by lia)) ?_
  walk_at "r"
  refine Is.mk (item_int (at2 ho) (by lia) (by lia)) ?_
  walk_at "r"
  have e:((s:Int)+1).toNat=s+1:=by lia
  rw[e]
  show Fw F_heappush [_,tv [ps.getD f 0+os.getD (s+1) 0,(f:Int),(s:Int)+1]] _ _
  rw[hs2a]
  refine fw_heappush (len2 _ _) (by exact Nat.le_succ_of_le hr) ?_
  rw[← hs2a]
  walk_at "r"
  refine jb2 hp ho (by rw[push_len (by exact Nat.le_succ_of_le hr)];exact Nat.succ_le_succ hr) hf hsn hl hl2 fun v4 v5 v6=>?_
  have:=h v4 v5 v6
  unfold joinPush at this
  simp only[hlt,if_true] at this
  exact this
 ·rename_i hlt
  have hlt:¬ (s+1<os.length):=by simp at hlt;lia
  refine jb2 hp ho (by exact Nat.le_succ_of_le hr) hf hsn hl hl2 fun v4 v5 v6=>?_
  have:=h v4 v5 v6
  unfold joinPush at this
  simp only[hlt,if_false] at this
  exact this
end
open PySem PySem.W
noncomputable def joinL (ps os:List Int):Nat→List (List Int)→List Int→List Int
 | 0,_,sums=>sums
 | n+1,heap,sums=>match heap with
  | []=>sums
  | _=>match popP heap with
   | ([pr,f,s],rest)=>joinL ps os n (joinPush ps os rest f.toNat s.toNat) (sums++[pr])
   | _=>sums
noncomputable def joinedP (ps os:List Int):List Int:=joinL ps os 3 [[ps.getD 0 0+os.getD 0 0,0,0]] []
noncomputable def HInv (ps os:List Int) (heap:List (List Int)):Prop:=∀ t∈heap,∃(pr:Int) (f s:Nat),t=[pr,(f:Int),(s:Int)]∧f<ps.length∧s<os.length
theorem pop_mem {heap:List (List Int)}(h1:0<heap.length) (h3:heap.length≤3):(popP heap).1∈heap∧(∀ t∈(popP heap).2,t∈heap)∧(popP heap).2.length+1=heap.length:=by
 revert h1
 refine len3 h3 (fun h=>absurd h (Nat.lt_irrefl _)) (fun _ _=>⟨m0,alln,rfl⟩) (fun _ _ _=>⟨m0,allc m1 alln,rfl⟩) fun a b c _=>⟨m0,?_⟩
 have e:(popP [a,b,c]).2=[c,b]∨(popP [a,b,c]).2=[b,c]:=ite_or _ _
 rcases e with e | e
 ·rw[e];exact⟨allc m2 (allc m1 alln),rfl⟩
 ·rw[e];exact⟨allc m1 (allc m2 alln),rfl⟩
theorem push_mem {xs:List (List Int)}{x:List Int}(hl:xs.length≤3):∀ t∈pushP xs x,t=x∨t∈xs:=by
 refine len3 hl (allc (.inl rfl) alln) (fun a=>?_) (fun a b=>?_) fun a b c=>?_
 ·have e:pushP [a] x=[x,a]∨pushP [a] x=[a,x]:=ite_or _ _
  rcases e with e | e<;>rw[e]
  ·exact allc (.inl rfl) (allc (.inr m0) alln)
  ·exact allc (.inr m0) (allc (.inl rfl) alln)
 ·have e:pushP [a,b] x=[x,b,a]∨pushP [a,b] x=[a,b,x]:=ite_or _ _
  rcases e with e | e<;>rw[e]
  ·exact allc (.inl rfl) (allc (.inr m1) (allc (.inr m0) alln))
  ·exact allc (.inr m0) (allc (.inr m1) (allc (.inl rfl) alln))
 ·have e:pushP [a,b,c] x=(if lexLt x a then[x,a,c,b] else[a,x,c,b])∨pushP [a,b,c] x=[a,b,c,x]:=ite_or _ _
  rcases e with e | e<;>rw[e]
  ·rcases ite_or (c:=lexLt x a=true) [x,a,c,b] [a,x,c,b] with e | e<;>rw[e]
   ·exact allc (.inl rfl) (allc (.inr m0) (allc (.inr m2) (allc (.inr m1) alln)))
   ·exact allc (.inr m0) (allc (.inl rfl) (allc (.inr m2) (allc (.inr m1) alln)))
  ·exact allc (.inr m0) (allc (.inr m1) (allc (.inr m2) (allc (.inl rfl) alln)))
section
variable {H:List PObj}{R:PV→List PObj→Prop}
theorem truth_at {K:List PObj}{i:Nat}{xs:List PV}(h:K[i]?=some (.list xs)) (hx:xs.length<2 ^ 40):truthOf K (.ref i)=some (!xs.isEmpty):=by simp only[truthOf,h,hx,if_true]
theorem jp_inv {ps os:List Int}{rest:List (List Int)}{f s:Nat}(hf:f<ps.length) (hs:s<os.length) (hr:rest.length≤2) (h:HInv ps os rest):HInv ps os (joinPush ps os rest f s)∧(joinPush ps os rest f s).length≤rest.length+2:=by
 unfold joinPush
 have one:∀(xs:List (List Int)) (x:List Int),xs.length≤3→HInv ps os xs→(∃(pr:Int) (f s:Nat),x=[pr,(f:Int),(s:Int)]∧f<ps.length∧s<os.length)→HInv ps os (pushP xs x)∧(pushP xs x).length=xs.length+1:=fun xs x hl hi hx=>by
  refine⟨fun t ht=>?_,push_len hl⟩
  rcases push_mem hl _ ht with rfl | q
  ·exact hx
  ·exact hi t q
 have two:∀(xs:List (List Int)),xs.length≤3→HInv ps os xs→HInv ps os (if s=0∧f+1<ps.length then pushP xs [ps.getD (f+1) 0+os.getD 0 0,((f+1:Nat):Int),0] else xs)∧(if s=0∧f+1<ps.length then pushP xs [ps.getD (f+1) 0+os.getD 0 0,((f+1:Nat):Int),0] else xs).length≤xs.length+1:=fun xs hl hi=>by
  split
  ·rename_i hc
   have:=one xs [ps.getD (f+1) 0+os.getD 0 0,((f+1:Nat):Int),0] hl hi ⟨_,f+1,0,rfl,hc.2,by exact Nat.lt_of_lt_of_le (Nat.succ_pos _) (Nat.succ_le_of_lt hs)⟩
   exact⟨this.1,by exact Nat.le_of_eq this.2⟩
  ·exact⟨hi,by exact Nat.le_succ _⟩
 dsimp only
 by_cases hc:s+1<os.length
 ·simp only[hc,if_true]
  have a:=one rest [ps.getD f 0+os.getD (s+1) 0,(f:Int),((s+1:Nat):Int)] (by exact Nat.le_succ_of_le hr) h ⟨_,f,s+1,rfl,hf,hc⟩
  have b:=two _ (by rw[a.2];exact Nat.succ_le_succ hr) a.1
  exact⟨b.1,by have:=b.2;rw[a.2] at this;exact this⟩
 ·simp only[hc,if_false]
  have b:=two rest (by exact Nat.le_succ_of_le hr) h
  exact⟨b.1,by exact Nat.le_succ_of_le b.2⟩
theorem jl {ip io:Nat}{ps os:List Int}{Q:PFlow→PS→Prop}(hp:H[ip]?=some (.list (ps.map .int))) (ho:H[io]?=some (.list (os.map .int))) (hl:ps.length≤1000) (hl2:os.length≤1000):
  ∀(n:Nat) (heap:List (List Int)) (sums:List Int) (v4 v5 v6:Option PV),sums.length+n=3→heap.length≤sums.length+1→HInv ps os heap→
   (∀ heap' v4 v5 v6,Q .next ⟨H++[.list (List.map tv heap'),.list ((joinL ps os n heap sums).map .int)],[some (.ref ip),some (.ref io),some (.ref H.length),some (.ref (H.length+1)),v4,v5,v6]⟩)→
   Wp (whileM LT_law_joined0 LB_law_joined0 bNil) ⟨H++[.list (heap.map tv),.list (sums.map .int)],[some (.ref ip),some (.ref io),some (.ref H.length),some (.ref (H.length+1)),v4,v5,v6]⟩ Q:=by
 intro n
 induction n with
 | zero=>
  intro heap sums v4 v5 v6 hn hh hI h
  refine wp_while ?_
  unfold LT_law_joined0
  repeat walk_at "p"
  refine Is.mk (truth_at (at2a _ _) (by simp;lia)) ?_
  refine⟨fun hb=>?_,fun hb=>⟨fun _=>?_,fun hb=>absurd hb (by decide)⟩⟩
  ·walk_at "r"
   refine fw_len_at (at2b _ _) (by simp;exact Nat.lt_of_le_of_lt (Nat.le_of_eq hn) (by decide)) ?_
   walk_at "p"
   have e:less (.int ((sums.map PV.int).length:Nat)) (.int 3)=some false:=by simp[less];lia
   refine⟨false,e,fun _=>?_,fun hb=>absurd hb (by decide)⟩
   walk_at "p"
   exact h _ _ _ _
  ·walk_at "p"
   exact h _ _ _ _
 | succ n ih=>
  intro heap sums v4 v5 v6 hn hh hI h
  refine wp_while ?_
  have hT:∀(P:Bool→PS→Prop),P (!heap.isEmpty) ⟨H++[.list (heap.map tv),.list (sums.map .int)],[some (.ref ip),some (.ref io),some (.ref H.length),some (.ref (H.length+1)),v4,v5,v6]⟩→Wp LT_law_joined0 ⟨H++[.list (heap.map tv),.list (sums.map .int)],[some (.ref ip),some (.ref io),some (.ref H.length),some (.ref (H.length+1)),v4,v5,v6]⟩ P:=by
   intro P hP
   unfold LT_law_joined0
   repeat walk_at "p"
   refine Is.mk (truth_at (at2a _ _) (by simp;lia)) ?_
   refine⟨fun hb=>?_,fun hb=>?_⟩
   ·walk_at "r"
    refine fw_len_at (at2b _ _) (by simp;lia) ?_
    walk_at "p"
    have e:less (.int ((sums.map PV.int).length:Nat)) (.int 3)=some true:=by simp[less];lia
    refine⟨true,e,?_⟩
    have:(!heap.isEmpty)=true:=by simpa using hb
    rw[this] at hP;exact hP
   ·have:(!heap.isEmpty)=false:=by simpa using hb
    rw[this] at hP;exact hP
  refine hT _ ⟨fun hb=>?_,fun hb=>?_⟩
  ·have hn:heap=[]:=by simpa using hb
   subst hn
   walk_at "p"
   exact h _ _ _ _
  ·have h1:0<heap.length:=by
    cases heap with
    | nil=>simp at hb
    | cons=>simp
   have h3:heap.length≤3:=by lia
   refine gv fun _ gk=>?_
   obtain⟨m1,m2,m3⟩:=pop_mem h1 h3
   obtain⟨pr,f,s,e,hf,hs⟩:=hI _ m1
   refine gk ?_
   have hpop:popP heap=([pr,(f:Int),(s:Int)],(popP heap).2):=by rw[← e]
   have hIr:HInv ps os (popP heap).2:=fun t ht=>hI t (m2 t ht)
   refine jb hp ho h1 h3 (by lia) hpop hf hs hl hl2 (by simp;lia) fun v4 v5 v6=>?_
   obtain⟨i1,i2⟩:=jp_inv hf hs (by lia) hIr
   have es:sums.map PV.int++[.int pr]=(sums++[pr]).map .int:=by simp
   rw[es]
   refine ih _ (sums++[pr]) v4 v5 v6 (by simp;lia) (by simp;lia) i1 fun heap' v4 v5 v6=>?_
   have:=h heap' v4 v5 v6
   have ej:joinL ps os (n+1) heap sums=joinL ps os n (joinPush ps os (popP heap).2 f s) (sums++[pr]):=by
    cases heap with
    | nil=>simp at h1
    | cons a r=>
     have e1:joinL ps os (n+1) (a::r) sums=(match popP (a::r) with
      | ([pr,f,s],rest)=>joinL ps os n (joinPush ps os rest f.toNat s.toNat) (sums++[pr])
      | _=>sums):=rfl
     rw[e1,hpop]
     simp
   rw[ej] at this
   exact this
theorem fw_joined {ip io:Nat}{ps os:List Int}(hp:H[ip]?=some (.list (ps.map .int))) (ho:H[io]?=some (.list (os.map .int))) (hl:ps.length≤1000) (hl2:os.length≤1000) (h0:0<ps.length) (h02:0<os.length)
  (h:∀ X,R (.ref (H.length+1)) (H++[X,.list ((joinedP ps os).map .int)])):Fw F_law_joined [.ref ip,.ref io] H R:=by
 refine fw_run (V0:=[some (.ref ip),some (.ref io),none,none,none,none,none]) rfl ?_
 show Wp (bCons _ (bCons _ (bCons (whileM LT_law_joined0 LB_law_joined0 bNil) _))) _ _
 walk_at "s"
 refine Is.mk (item_int hp (by decide) h0) ?_
 walk_at "s"
 refine Is.mk (item_int ho (by decide) h02) ?_
 walk_at "s"
 rw[List.append_assoc,show(H++[PObj.list [PV.tup [PV.int (ps.getD (Int.toNat 0) 0+os.getD (Int.toNat 0) 0),PV.int 0,PV.int 0]]]).length=H.length+1 by simp]
 refine jl (heap:=[[ps.getD 0 0+os.getD 0 0,0,0]]) (sums:=[]) hp ho hl hl2 3 _ _ _ (by rfl) (by exact nle rfl) (fun t ht=>?_) fun heap' v4 v5 v6=>?_
 ·have ht:=List.mem_singleton.mp ht;subst ht;exact⟨_,0,0,rfl,h0,h02⟩
 ·walk_at "s"
  exact h _
end
open PySem PySem.W
noncomputable def LB_nsmallest0:PM PFlow:=(bCons (sIf (pLt (pLoc 10) (pLoc 7)) (bCons (sExpr (pCall (.ref 42) F_heapreplace_max (pLoc 9) (aCons (pLoc 5) (aCons (pTup (aCons (pLoc 10) (aCons (pLoc 8) aNil))) aNil))))
 (bCons (sSetT (tupT [(setV 7),(setV 11)]) (pSub (pLoc 5) (pConst (.int 0))))
 (bCons (sAug 8 oAdd true (pConst (.int 1)))
 bNil))) bNil)
 bNil)
section
variable {H:List PObj}{R:PV→List PObj→Prop}
theorem fw_ns2 {i:Nat}{x y:Int}(hi:H[i]?=some (.list [.int x,.int y])) (h:R (.ref (H.length+1)) (H++[.list (if y<x then[.int y,.int x] else[.int x,.int y]),.list (if y<x then[.int y,.int x] else[.int x,.int y])])):Fw F_nsmallest [.int 3,.ref i] H R:=by
 refine fw_run (V0:=[some (.int 3),some (.ref i),some .none,none,none,none,none,none,none,none,none,none,none,none]) rfl ?_
 unfold B_nsmallest
 walk_at "s"
 refine fw_len_at hi (by exact nle rfl) ?_
 walk_at "s"
 refine .of (p:=.ref H.length) (σ':=⟨H++[.list (if y<x then[.int y,.int x] else[.int x,.int y])],_⟩) (by simp only[sortedOf,hi];rfl) ?_
 walk_at "s"
 refine wp_sliceOf (i:=H.length) (xs:=if y<x then[.int y,.int x] else[.int x,.int y]) (by simp) (by split<;>simp) (by simp[partsOf,partOf]) ?_
 have e:pickL (if y<x then[PV.int y,PV.int x] else[.int x,.int y]) none (some 3) none=(if y<x then[PV.int y,PV.int x] else[.int x,.int y]):=by
  rw[show(3:Int)=((3:Nat):Int) from rfl,pick_upto]
  split<;>rfl
 show R _ ((H++[_])++[PObj.list (pickL _ none (some 3) none)])
 rw[e,List.append_assoc]
 simpa using h
theorem wp_zipRIt_at {K:List PObj}{V:List (Option PV)}{t m k0:Nat}{n:Int}{xs:List PV}{Q:It→PS→Prop}(ht:K[t]?=some (.liter (.ref m) k0)) (hm:K[m]?=some (.list xs)) (hn:0≤n∧n<1000000∧n.toNat≤(xs.drop k0).length)
  (h:Q ⟨zipT (upto n.toNat) (xs.drop k0),fun i H=>H[m]?=some (.list xs)∧H[t]?=some (.liter (.ref m) (k0+i)),fun i H=>if i<n.toNat then H.set t (.liter (.ref m) (k0+i+1)) else H⟩ ⟨K,V⟩):Wp (zipRIt n t) ⟨K,V⟩ Q:=
 ⟨zrIt n.toNat t m k0 xs,_,by simp only[zipRIt,ht,hm];rw[if_pos hn],h⟩
theorem fw_iter_at {K:List PObj}{i:Nat}{xs:List PV}{R:PV→List PObj→Prop}(h:K[i]?=some (.list xs)) (hR:R (.ref K.length) (K++[.liter (.ref i) 0])):Fw F_iter [.ref i] K R:=⟨_,_,by simp only[F_iter,onL,h],hR⟩
noncomputable def LB_ns1:PM PFlow:=(bCons (sIf (pNot (pTruth (pLoc 5))) (bCons (sRet (pLoc 5))
 bNil) bNil)
 (bCons (sExpr (pCall (.ref 49) F_heapify_max (pConst (.const (.ref 49))) (aCons (pLoc 5) aNil)))
 (bCons (sSet 7 (pSub (pSub (pLoc 5) (pConst (.int 0))) (pConst (.int 0))))
 (bCons (sSet 8 (pLoc 0))
 (bCons (sSet 9 (pConst (.const (.ref 42))))
 (bCons (sFor (pIter (pLoc 3)) (setV 10) LB_nsmallest0)
 (bCons (sExpr (pMeth "list" F_lsort (pLoc 5) aNil))
 (bCons (sRet (pListComp 2 [] (pIter (pLoc 5)) (tupT [(setV 0),(setV 1)]) (ret true) (pLoc 0)))
 bNil))))))))
theorem ns_head {i:Nat}{e0 e1 e2:Int}{rest:List Int}(hi:H[i]?=some (.list ((e0::e1::e2::rest).map .int))) (hr:0<rest.length) (hr2:rest.length≤1000)
  (h:Wp LB_ns1 ⟨H++[.liter (.ref i) 3,.list [tv [e0,0],tv [e1,1],tv [e2,2]]],[some (.int 3),some (.ref i),some .none,some (.ref H.length),none,some (.ref (H.length+1)),some (.int ((e0::e1::e2::rest).map PV.int).length),none,none,none,none,none,none,none]⟩
   fun fl σ'=>match fl with | .ret p=>R p σ'.H | .next=>False | _=>False):Fw F_nsmallest [.int 3,.ref i] H R:=by
 refine fw_run (V0:=[some (.int 3),some (.ref i),some .none,none,none,none,none,none,none,none,none,none,none,none]) rfl ?_
 show Wp (bCons _ (bCons (bCons (bCons _ _) (bCons (sIf _ _ _) _)) (bCons (sIf _ (bCons _ (bCons _ LB_ns1)) _) _))) _ _
 walk_at "s"
 refine fw_len_at hi (by simp;lia) ?_
 walk_at "s"
 ·rename_i hb
  exfalso
  simp at hb
  lia
 ·refine fw_iter_at hi ?_
  walk_at "s"
  have at1:∀(X o:PObj) (j:Nat),H[j]?=some o→(H++[X])[j]?=some o:=fun X o j q=>by
   rw[List.getElem?_append_left (List.getElem?_eq_some_iff.mp q).1];exact q
  refine wp_zipRIt_at (m:=i) (k0:=0) (xs:=(e0::e1::e2::rest).map .int) (by simp) (at1 _ _ _ hi) ⟨by decide,by decide,by simp⟩ ?_
  dsimp only
  rw[List.append_assoc,show(H++[PObj.liter (PV.ref i) 0]).length=H.length+1 by simp]
  show Wp (compL _ _ _ _ 0 [.tup [.int 0,.int e0],.tup [.int 1,.int e1],.tup [.int 2,.int e2]]) ⟨H++[.liter (.ref i) 0,.list []],[none,none]⟩ _
  refine wp_compL_cons ⟨at2 hi,at2a _ _⟩ ?_
  dsimp only
  rw[if_pos (by decide),app2a]
  walk_at "s"
  refine fw_append_at (at2b _ _) (by exact nle rfl) ?_
  rw[app2b]
  refine wp_compL_cons ⟨at2 hi,at2a _ _⟩ ?_
  dsimp only
  rw[if_pos (by decide),app2a]
  walk_at "s"
  refine fw_append_at (at2b _ _) (by exact nle rfl) ?_
  rw[app2b]
  refine wp_compL_cons ⟨at2 hi,at2a _ _⟩ ?_
  dsimp only
  rw[if_pos (by decide),app2a]
  walk_at "s"
  refine fw_append_at (at2b _ _) (by exact nle rfl) ?_
  rw[app2b]
  refine wp_compL_nil ⟨at2 hi,at2a _ _⟩ ?_
  dsimp only
  skip
  refine⟨rfl,?_⟩
  refine Wp.mono h fun fl σ' q=>?_
  cases fl with
  | ret p=>exact q
  | next=>exact q.elim
  | brk=>exact q.elim
  | cont=>exact q.elim
end
open PySem PySem.W
noncomputable def nsStep (st:List (List Int) × Int) (e:Int):List (List Int) × Int:=match st.1 with
 | [[p,o],b,c]=>if e<p then(sm3 [e,st.2] b c,st.2+1) else st
 | _=>st
noncomputable def nsInit (e0 e1 e2:Int):List (List Int) × Int:=(sm3 [e0,0] [e1,1] [e2,2],3)
noncomputable def Three (l:List (List Int)):Prop:=∃ p o b1 b2 c1 c2,l=[[p,o],[b1,b2],[c1,c2]]
theorem sm3_three (x1 x2 b1 b2 c1 c2:Int):Three (sm3 [x1,x2] [b1,b2] [c1,c2]):=by
 unfold sm3 Three
 (repeat' split)<;>exact⟨_,_,_,_,_,_,rfl⟩
theorem nsStep_three {st:List (List Int) × Int}{e:Int}(h:Three st.1):Three (nsStep st e).1:=by
 refine gv fun _ gk=>?_
 obtain⟨p,o,b1,b2,c1,c2,e1⟩:=h
 refine gk ?_
 unfold nsStep
 rw[e1]
 dsimp only
 split
 ·exact sm3_three ..
 ·rw[e1];exact⟨_,_,_,_,_,_,rfl⟩
theorem foldl_three:∀(l:List Int) (st:List (List Int) × Int),Three st.1→Three (l.foldl nsStep st).1
 | [],_,h=>h
 | e::l,st,h=>foldl_three l _ (nsStep_three h)
theorem it_liter {K:List PObj}{l m k0:Nat}{xs:List PV}(h1:K[l]?=some (.liter (.ref m) k0)) (h2:K[m]?=some (.list xs)):itOf K (.ref l)=some ⟨xs.drop k0,fun i H=>H[m]?=some (.list xs)∧H[l]?=some (.liter (.ref m) (k0+i)),fun i H=>if i<(xs.drop k0).length then H.set l (.liter (.ref m) (k0+i+1)) else H.set l .dead⟩:=by
 simp only[itOf,h1,h2]
section
variable {H:List PObj}{R:PV→List PObj→Prop}
theorem ns_turn {i:Nat}{X:PObj}{st:List (List Int) × Int}{e:Int}{v6 v10 v11:Option PV}{Q:PFlow→PS→Prop}{p o b1 b2 c1 c2:Int}(hst:st.1=[[p,o],[b1,b2],[c1,c2]])
  (h:∀ v11 p' o' b c,(nsStep st e).1=[[p',o'],b,c]→Q .next ⟨H++[X,.list ((nsStep st e).1.map tv)],[some (.int 3),some (.ref i),some .none,some (.ref H.length),none,some (.ref (H.length+1)),v6,some (.int p'),some (.int (nsStep st e).2),some (.const (.ref 42)),some (.int e),v11,none,none]⟩):
  Wp LB_nsmallest0 ⟨H++[X,.list (st.1.map tv)],[some (.int 3),some (.ref i),some .none,some (.ref H.length),none,some (.ref (H.length+1)),v6,some (.int p),some (.int st.2),some (.const (.ref 42)),some (.int e),v11,none,none]⟩ Q:=by
 unfold LB_nsmallest0
 walk_at "s"
 ·rename_i hb
  have hlt:e<p:=by simpa using hb
  have es:nsStep st e=(sm3 [e,st.2] [b1,b2] [c1,c2],st.2+1):=by
   unfold nsStep;rw[hst];simp[hlt]
  rw[hst]
  show Fw F_heapreplace_max [_,tv [e,st.2]] (H++[X,.list [tv [p,o],tv [b1,b2],tv [c1,c2]]]) _
  rw[hs2b]
  refine rm3 (len2' _ _) ?_
  rw[← hs2b]
  refine gv fun _ gk=>?_
  obtain⟨p',o',q1,q2,r1,r2,e3⟩:=sm3_three e st.2 b1 b2 c1 c2
  refine gk ?_
  walk_at "s"
  refine Is.mk (item_of (xs:=(sm3 [e,st.2] [b1,b2] [c1,c2]).map tv) (p:=tv [p',o']) (at2b _ _) (by decide) (by rw[e3];rfl)) ?_
  show Wp (tupT _ (.tup [.int p',.int o'])) _ _
  walk_at "s"
  refine⟨_,_,rfl,?_⟩
  walk_at "s"
  have:=h (some (.int o')) p' o' [q1,q2] [r1,r2] (by rw[es];exact e3)
  rw[es] at this
  exact this
 ·rename_i hb
  have hlt:¬ e<p:=by simpa using hb
  have es:nsStep st e=st:=by unfold nsStep;rw[hst];simp[hlt]
  have:=h v11 p o [b1,b2] [c1,c2] (by rw[es];exact hst)
  rw[es] at this
  exact this
end
open PySem PySem.W
section
variable {H:List PObj}{R:PV→List PObj→Prop}
theorem ns_loop {i:Nat}{e0 e1 e2:Int}{rest:List Int}{st0:List (List Int) × Int}{p0 o0:Int}{b0 c0:List Int}{v6:Option PV}{Q:PFlow→PS→Prop}(hi:H[i]?=some (.list ((e0::e1::e2::rest).map .int))) (h3:Three st0.1) (hs0:st0.1=[[p0,o0],b0,c0])
  (h:∀ v7 v8 v10 v11,Q .next ⟨H++[.dead,.list ((rest.foldl nsStep st0).1.map tv)],[some (.int 3),some (.ref i),some .none,some (.ref H.length),none,some (.ref (H.length+1)),v6,v7,v8,some (.const (.ref 42)),v10,v11,none,none]⟩):
  Wp (sFor (pIter (pLoc 3)) (setV 10) LB_nsmallest0) ⟨H++[.liter (.ref i) 3,.list (st0.1.map tv)],[some (.int 3),some (.ref i),some .none,some (.ref H.length),none,some (.ref (H.length+1)),v6,some (.int p0),some (.int st0.2),some (.const (.ref 42)),none,none,none,none]⟩ Q:=by
 refine wp_sFor (wp_iter (wp_loc rfl ⟨_,it_liter (at2a _ _) (at2 hi),?_⟩))
 dsimp only
 have hd:((e0::e1::e2::rest).map PV.int).drop 3=rest.map PV.int:=by rfl
 rw[hd]
 refine wp_forL_inv (fun j σ=>Ex6 fun p o b c v10 v11=>(((rest.take j).foldl nsStep st0).1=[[p,o],b,c])∧σ=⟨H++[.liter (.ref i) (3+j),.list (((rest.take j).foldl nsStep st0).1.map tv)],[some (.int 3),some (.ref i),some .none,some (.ref H.length),none,some (.ref (H.length+1)),v6,some (.int p),some (.int ((rest.take j).foldl nsStep st0).2),some (.const (.ref 42)),v10,v11,none,none]⟩)
  (rest.map PV.int) ?_ ?_ ?_ 0 _ (Nat.zero_le _) ⟨p0,o0,b0,c0,none,none,hs0,rfl⟩
 ·rintro j σ ⟨p,o,b,c,v10,v11,e,rfl⟩
  exact⟨at2 hi,at2a _ _⟩
 ·rintro j q σ hq ⟨p,o,b,c,v10,v11,e,rfl⟩
  have hj:j<rest.length:=by have:=(List.getElem?_eq_some_iff.mp hq).1;simpa using this
  have hq':q=.int rest[j]:=by
   rw[List.getElem?_map,List.getElem?_eq_getElem hj] at hq
   exact(Option.some.inj hq).symm
  subst hq'
  dsimp only
  rw[if_pos (by simpa using hj),app2a]
  refine wp_setV ?_
  dsimp only[List.set_cons_succ,List.set_cons_zero]
  refine gv fun _ gk=>?_
  obtain⟨p',o',b1,b2,c1,c2,e3⟩:=foldl_three (rest.take j) st0 h3
  refine gk ?_
  rw[e3] at e
  cases e
  refine ns_turn (v10:=none) e3 fun v11 p' o' b c e4=>⟨.inl rfl,?_⟩
  have et:(rest.take (j+1)).foldl nsStep st0=nsStep ((rest.take j).foldl nsStep st0) rest[j]:=by
   rw[List.take_succ_eq_append_getElem hj,List.foldl_append];rfl
  rw[et]
  exact⟨p',o',b,c,_,_,e4,rfl⟩
 ·rintro σ ⟨p,o,b,c,v10,v11,e,rfl⟩
  dsimp only
  rw[if_neg (by simp),app2a]
  have:rest.take (rest.map PV.int).length=rest:=by simp
  rw[this]
  exact h _ _ _ _
end
open PySem PySem.W
theorem kasRun_congr {τ:Type}{c c':Nat→Nat→Bool}{n:Nat}(h:∀ i j,i<n→j<n→c i j=c' i j):∀(t:KasT τ),kasIn n t=true→kasRun c t=kasRun c' t
 | .ret _,_=>rfl
 | .ask i j k,hn=>by
  simp only[kasIn,Bool.and_eq_true,decide_eq_true_eq] at hn
  simp only[kasRun,h i j hn.1.1.1 hn.1.1.2]
  refine kasRun_congr h _ ?_
  cases c' i j
  ·exact hn.2
  ·exact hn.1.2
noncomputable def tab (b10 b20 b21:Bool):Nat→Nat→Bool
 | 1,0=>b10
 | 0,1=>!b10
 | 2,0=>b20
 | 0,2=>!b20
 | 2,1=>b21
 | 1,2=>!b21
 | _,_=>false
noncomputable def perm3:Bool→Bool→Bool→List Nat
 | false,false,false=>[0,1,2]
 | false,false,true=>[0,2,1]
 | false,true,true=>[2,0,1]
 | true,false,false=>[1,0,2]
 | true,true,false=>[1,2,0]
 | true,true,true=>[2,1,0]
 | _,_,_=>[0,1,2]
theorem kas_tab:∀ b10 b20 b21:Bool,¬ (b10=false∧b20=true∧b21=false)→¬ (b10=true∧b20=false∧b21=true)→(kasRun (tab b10 b20 b21) (kas_sort 3)).toList=perm3 b10 b20 b21:=by decide+kernel
theorem lexLt_self:∀ a:List Int,lexLt a a=false
 | []=>rfl
 | x::a=>by simp[lexLt,lexLt_self a]
theorem lexLt_pair (a b c d:Int):lexLt [a,b] [c,d]=true↔a<c∨(a=c∧b<d):=by
 simp only[lexLt]
 split
 ·rename_i h
  subst h
  split
  ·rename_i h;subst h;simp
  ·simp
 ·rename_i h;simp;lia
theorem lexLt_pairF (a b c d:Int):lexLt [a,b] [c,d]=false↔c<a∨(a=c∧d≤b):=by
 have:=lexLt_pair a b c d
 cases h:lexLt [a,b] [c,d] with
 | true=>have:=this.mp h;simp;lia
 | false=>
  simp
  have:¬ (a<c∨(a=c∧b<d)):=fun q=>by rw[this.mpr q] at h;exact nomatch h
  lia
noncomputable def sortT (a b c:List Int):List (List Int):=(perm3 (lexLt b a) (lexLt c a) (lexLt c b)).map fun i=>[a,b,c].getD i []
theorem sort3_eq {a1 a2 b1 b2 c1 c2:Int}(h1:a2≠b2) (h2:a2≠c2) (h3:b2≠c2):sort3 (tv [a1,a2]) (tv [b1,b2]) (tv [c1,c2]) [a1,a2] [b1,b2] [c1,c2]=(sortT [a1,a2] [b1,b2] [c1,c2]).map tv:=by
 have flip:∀ x1 x2 y1 y2:Int,x2≠y2→lexLt [x1,x2] [y1,y2]=!lexLt [y1,y2] [x1,x2]:=fun x1 x2 y1 y2 hn=>by
  cases h:lexLt [y1,y2] [x1,x2] with
  | true=>rw[lexLt_pair] at h;simp;rw[lexLt_pairF];lia
  | false=>rw[lexLt_pairF] at h;simp;rw[lexLt_pair];lia
 unfold sort3 sortT
 rw[kasRun_congr (n:=3) (c':=tab (lexLt [b1,b2] [a1,a2]) (lexLt [c1,c2] [a1,a2]) (lexLt [c1,c2] [b1,b2])) ?_ _ kasIn3,kas_tab]
 ·cases h10:lexLt [b1,b2] [a1,a2]<;>cases h20:lexLt [c1,c2] [a1,a2]<;>cases h21:lexLt [c1,c2] [b1,b2]<;>rfl
 ·rintro⟨q1,q2,q3⟩
  rw[lexLt_pairF] at q1 q3;rw[lexLt_pair] at q2;lia
 ·rintro⟨q1,q2,q3⟩
  rw[lexLt_pair] at q1 q3;rw[lexLt_pairF] at q2;lia
 ·intro i j hi hj
  match i,j,hi,hj with
  | 0,0,_,_=>exact lexLt_self _
  | 1,1,_,_=>exact lexLt_self _
  | 2,2,_,_=>exact lexLt_self _
  | 1,0,_,_=>rfl
  | 2,0,_,_=>rfl
  | 2,1,_,_=>rfl
  | 0,1,_,_=>exact flip _ _ _ _ h1
  | 0,2,_,_=>exact flip _ _ _ _ h2
  | 1,2,_,_=>exact flip _ _ _ _ h3
open PySem PySem.W
noncomputable def Ord (st:List (List Int) × Int):Prop:=∃ p o b1 b2 c1 c2,st.1=[[p,o],[b1,b2],[c1,c2]]∧o≠b2∧o≠c2∧b2≠c2∧o<st.2∧b2<st.2∧c2<st.2
theorem sm3_ord {x1 x2 b1 b2 c1 c2 n:Int}(h1:x2≠b2) (h2:x2≠c2) (h3:b2≠c2) (l1:x2<n) (l2:b2<n) (l3:c2<n):Ord (sm3 [x1,x2] [b1,b2] [c1,c2],n):=by
 unfold sm3 Ord
 (repeat' split)<;>exact⟨_,_,_,_,_,_,rfl,by lia,by lia,by lia,by lia,by lia,by lia⟩
theorem nsStep_ord {st:List (List Int) × Int}{e:Int}(h:Ord st):Ord (nsStep st e):=by
 refine gv fun _ gk=>?_
 obtain⟨p,o,b1,b2,c1,c2,e1,d1,d2,d3,l1,l2,l3⟩:=id h
 refine gk ?_
 unfold nsStep
 rw[e1]
 dsimp only
 split
 ·exact sm3_ord (by exact Int.ne_of_gt l2) (by exact Int.ne_of_gt l3) d3 (by exact Int.lt_add_one_of_le (Int.le_refl _)) (by exact Int.lt_add_one_of_le (Int.le_of_lt l2)) (by exact Int.lt_add_one_of_le (Int.le_of_lt l3))
 ·exact h
theorem foldl_ord:∀(l:List Int) (st:List (List Int) × Int),Ord st→Ord (l.foldl nsStep st)
 | [],_,h=>h
 | e::l,st,h=>foldl_ord l _ (nsStep_ord h)
theorem init_ord (e0 e1 e2:Int):Ord (nsInit e0 e1 e2):=sm3_ord (by decide) (by decide) (by decide) (by decide) (by decide) (by decide)
theorem sortT_three (a1 a2 b1 b2 c1 c2:Int):Three (sortT [a1,a2] [b1,b2] [c1,c2]):=by
 unfold sortT Three
 cases lexLt [b1,b2] [a1,a2]<;>cases lexLt [c1,c2] [a1,a2]<;>cases lexLt [c1,c2] [b1,b2]<;>exact⟨_,_,_,_,_,_,rfl⟩
noncomputable def nsP (e0 e1 e2:Int) (rest:List Int):List Int:=match(rest.foldl nsStep (nsInit e0 e1 e2)).1 with
 | [a,b,c]=>(sortT a b c).map (·.getD 0 0)
 | _=>[]
section
variable {H:List PObj}{R:PV→List PObj→Prop}
theorem it_list {K:List PObj}{l:Nat}{xs:List PV}(h:K[l]?=some (.list xs)):itOf K (.ref l)=some (.still xs fun H=>H[l]?=some (.list xs)):=by simp only[itOf,h]
theorem app1 {K:List PObj}(X Y:PObj):(K++[X]).set K.length Y=K++[Y]:=by simp
theorem at1a {K:List PObj}(X:PObj):(K++[X])[K.length]?=some X:=by simp
theorem at1 {K:List PObj}{X o:PObj}{j:Nat}(h:K[j]?=some o):(K++[X])[j]?=some o:=by
 rw[List.getElem?_append_left (List.getElem?_eq_some_iff.mp h).1];exact h
theorem fw_lsort_at {K:List PObj}{i:Nat}{a1 a2 b1 b2 c1 c2:Int}(h:K[i]?=some (.list [tv [a1,a2],tv [b1,b2],tv [c1,c2]])) (d1:a2≠b2) (d2:a2≠c2) (d3:b2≠c2) (hR:R .none (K.set i (.list ((sortT [a1,a2] [b1,b2] [c1,c2]).map tv)))):Fw F_lsort [.ref i] K R:=by
 refine⟨.none,_,?_,hR⟩
 rw[← sort3_eq d1 d2 d3]
 unfold F_lsort;dsimp only
 rw[h]
 rfl
theorem ns_tail {i:Nat}{e0 e1 e2:Int}{rest:List Int}{v6:Option PV}(hi:H[i]?=some (.list ((e0::e1::e2::rest).map .int)))
  (h:∀ X Y,R (.ref (H.length+2)) (H++[X,Y,.list ((nsP e0 e1 e2 rest).map .int)])):
  Wp LB_ns1 ⟨H++[.liter (.ref i) 3,.list [tv [e0,0],tv [e1,1],tv [e2,2]]],[some (.int 3),some (.ref i),some .none,some (.ref H.length),none,some (.ref (H.length+1)),v6,none,none,none,none,none,none,none]⟩
   fun fl σ'=>match fl with | .ret p=>R p σ'.H | .next=>False | _=>False:=by
 unfold LB_ns1
 repeat walk_at "p"
 refine Is.mk (truth_at (at2b _ _) (by exact nle rfl)) ?_
 refine⟨fun hb=>absurd hb (by simp),fun _=>?_⟩
 repeat walk_at "p"
 rw[hs2b]
 refine hm3 (len2' _ _) ?_
 rw[← hs2b]
 refine gv fun _ gk=>?_
 obtain⟨p0,o0,b1,b2,c1,c2,e3⟩:=sm3_three e0 0 e1 1 e2 2
 refine gk ?_
 repeat walk_at "p"
 refine Is.mk (item_of (xs:=(sm3 [e0,0] [e1,1] [e2,2]).map tv) (p:=tv [p0,o0]) (at2b _ _) (by decide) (by rw[e3];rfl)) ?_
 walk_at "p"
 refine⟨.int p0,rfl,?_⟩
 walk_at "p"
 walk_at "p"
 walk_at "p"
 walk_at "p"
 walk_at "p"
 walk_at "p"
 refine ns_loop (st0:=nsInit e0 e1 e2) hi (sm3_three ..) e3 fun v7 v8 v10 v11=>?_
 refine gv fun _ gk=>?_
 obtain⟨p,o,b1,b2,c1,c2,e4,d1,d2,d3,_⟩:=foldl_ord rest _ (init_ord e0 e1 e2)
 refine gk ?_
 have hnp:nsP e0 e1 e2 rest=(sortT [p,o] [b1,b2] [c1,c2]).map (·.getD 0 0):=by unfold nsP;rw[e4]
 rw[e4]
 refine gv fun _ gk=>?_
 obtain⟨x1,x2,y1,y2,z1,z2,e5⟩:=sortT_three p o b1 b2 c1 c2
 refine gk ?_
 rw[hnp,e5] at h
 repeat walk_at "p"
 refine⟨kind_at (at2b _ _),?_⟩
 walk_at "p"
 refine fw_lsort_at (at2b _ _) d1 d2 d3 ?_
 rw[app2b,e5]
 repeat walk_at "p"
 refine Is.mk (it_list (at2b _ _)) ?_
 generalize hK:H++[PObj.dead,PObj.list (List.map tv [[x1,x2],[y1,y2],[z1,z2]])]=K
 have hat:K[H.length+1]?=some (.list (List.map tv [[x1,x2],[y1,y2],[z1,z2]])):=by rw[← hK];exact at2b _ _
 refine(?_:Wp (compL _ _ _ _ 0 [.tup [.int x1,.int x2],.tup [.int y1,.int y2],.tup [.int z1,.int z2]]) ⟨K++[.list []],[none,none]⟩ _)
 refine wp_compL_cons (at1 hat) ?_
 dsimp only[It.still]
 walk_at "s"
 refine fw_append_at (at1a _) (by exact nle rfl) ?_
 rw[app1]
 refine wp_compL_cons (at1 hat) ?_
 dsimp only[It.still]
 walk_at "s"
 refine fw_append_at (at1a _) (by exact nle rfl) ?_
 rw[app1]
 refine wp_compL_cons (at1 hat) ?_
 dsimp only[It.still]
 walk_at "s"
 refine fw_append_at (at1a _) (by exact nle rfl) ?_
 rw[app1]
 refine wp_compL_nil (at1 hat) ?_
 refine⟨rfl,?_⟩
 have hl:K.length=H.length+2:=by rw[← hK];simp
 rw[hl,← hK]
 have:=h .dead (.list (List.map tv [[x1,x2],[y1,y2],[z1,z2]]))
 simpa using this
theorem fw_nsm {i:Nat}{e0 e1 e2:Int}{rest:List Int}(hi:H[i]?=some (.list ((e0::e1::e2::rest).map .int))) (hr:0<rest.length) (hr2:rest.length≤1000)
  (h:∀ X Y,R (.ref (H.length+2)) (H++[X,Y,.list ((nsP e0 e1 e2 rest).map .int)])):Fw F_nsmallest [.int 3,.ref i] H R:=ns_head hi hr hr2 (ns_tail hi h)
end
open PySem PySem.W
noncomputable def LB_reduce0:PM PFlow:=(bCons (sSet 4 (pCall (.ref 226) F_law_joined (pLoc 0) (aCons (pLoc 4) (aCons (pLoc 5) aNil))))
 bNil)
theorem joinL_len (ps os:List Int):∀(n:Nat) (heap:List (List Int)) (sums:List Int),sums.length≤(joinL ps os n heap sums).length∧(joinL ps os n heap sums).length≤sums.length+n
 | 0,_,sums=>by simp[joinL]
 | n+1,[],sums=>by simp[joinL]
 | n+1,a::r,sums=>by
  have e1:joinL ps os (n+1) (a::r) sums=(match popP (a::r) with
   | ([pr,f,s],rest)=>joinL ps os n (joinPush ps os rest f.toNat s.toNat) (sums++[pr])
   | _=>sums):=rfl
  rw[e1]
  split
  ·rename_i pr f s rest _
   have:=joinL_len ps os n (joinPush ps os rest f.toNat s.toNat) (sums++[pr])
   simp at this
   lia
  ·exact And.intro (Nat.le_refl _) (Nat.le_add_right _ _)
theorem joinedP_len (ps os:List Int):0<(joinedP ps os).length∧(joinedP ps os).length≤3:=by
 have e:joinedP ps os=joinL ps os 2 (joinPush ps os [] 0 0) [ps.getD 0 0+os.getD 0 0]:=rfl
 skip
 have:=joinL_len ps os 2 (joinPush ps os [] 0 0) [ps.getD 0 0+os.getD 0 0]
 simp at this ⊢
 exact And.intro (Nat.lt_of_succ_le this.1) this.2
theorem fold_len (oss:List (List Int)):∀ ps:List Int,0<ps.length∧ps.length≤1000→0<(oss.foldl joinedP ps).length∧(oss.foldl joinedP ps).length≤1000:=by
 induction oss with
 | nil=>exact fun ps h=>h
 | cons os oss ih=>exact fun ps h=>ih _ (by have:=joinedP_len ps os;exact And.intro this.1 (Nat.le_trans this.2 (by decide)))
section
variable {σ:PS}{H:List PObj}{R:PV→List PObj→Prop}
theorem wp_isG {c:PySem.Addr}{f g:PM PV}{Q:Bool→PS→Prop}(h:Wp f σ fun a σ1=>Wp g σ1 fun b σ2=>Wp (isG c a b) σ2 Q):Wp (pIsG c f g) σ Q:=Wp.seq (h.mono fun a σ1 h1=>Wp.seq h1)
theorem appc (X Y:PObj) (ext:List PObj):(H++X::ext).set H.length Y=H++Y::ext:=by simp
theorem atc (X:PObj) (ext:List PObj):(H++X::ext)[H.length]?=some X:=by simp
theorem atl {o:PObj}{j:Nat}{ext:List PObj}(h:H[j]?=some o):(H++ext)[j]?=some o:=by
 rw[List.getElem?_append_left (List.getElem?_eq_some_iff.mp h).1];exact h
theorem fw_reduce {sq ini:Nat}{ls:List Nat}{oss:List (List Int)}{ps:List Int}(hsq:H[sq]?=some (.list (ls.map .ref))) (hll:ls.length=oss.length) (hel:∀(j l:Nat) os,ls[j]?=some l→oss[j]?=some os→H[l]?=some (.list (os.map .int))∧0<os.length∧os.length≤1000)
  (hini:H[ini]?=some (.list (ps.map .int))) (hp0:0<ps.length) (hp1:ps.length≤1000) (h:∀ ext r,(H++ext)[r]?=some (.list ((oss.foldl joinedP ps).map .int))→R (.ref r) (H++ext)):Fw F_reduce [.const (.ref 226),.ref sq,.ref ini] H R:=by
 refine fw_run (V0:=[some (.const (.ref 226)),some (.ref sq),some (.ref ini),none,none,none]) rfl ?_
 show Wp (bCons _ (bCons _ (bCons (sFor _ _ LB_reduce0) _))) _ _
 repeat walk_at "p"
 refine fw_iter_at hsq ?_
 repeat walk_at "p"
 refine wp_isG ?_
 repeat walk_at "p"
 refine .of (p:=false) (σ':=⟨H++[.liter (.ref sq) 0],_⟩) (by simp only[isG,atl hini];rfl) ?_
 refine⟨fun hb=>absurd hb (by decide),fun _=>?_⟩
 walk_at "p"
 walk_at "p"
 walk_at "p"
 walk_at "p"
 refine wp_sFor (wp_iter (wp_loc rfl ⟨_,it_liter (at1a _) (atl hsq),?_⟩))
 dsimp only[List.drop_zero]
 refine wp_forL_inv (fun j σ=>Ex3 fun ext r v5=>σ=⟨H++.liter (.ref sq) (0+j)::ext,[some (.const (.ref 226)),some (.ref sq),some (.ref ini),some (.ref H.length),some (.ref r),v5]⟩∧(H++.liter (.ref sq) (0+j)::ext)[r]?=some (.list (((oss.take j).foldl joinedP ps).map .int)))
  (ls.map PV.ref) ?_ ?_ ?_ 0 _ (Nat.zero_le _) ⟨[],ini,none,rfl,by exact atl hini⟩
 ·rintro j σ ⟨ext,r,v5,rfl,hr⟩
  exact⟨atl hsq,atc _ _⟩
 ·rintro j q σ hq ⟨ext,r,v5,rfl,hr⟩
  have hj:j<ls.length:=by have:=(List.getElem?_eq_some_iff.mp hq).1;simpa using this
  have hq':q=.ref ls[j]:=by
   rw[List.getElem?_map,List.getElem?_eq_getElem hj] at hq
   exact(Option.some.inj hq).symm
  subst hq'
  have hjo:j<oss.length:=by exact Nat.lt_of_lt_of_eq hj hll
  refine gv fun _ gk=>?_
  obtain⟨g1,g2,g3⟩:=hel j ls[j] oss[j] (List.getElem?_eq_getElem hj) (List.getElem?_eq_getElem hjo)
  refine gk ?_
  dsimp only
  rw[if_pos (by simpa using hj),appc]
  refine wp_setV ?_
  dsimp only[List.set_cons_succ,List.set_cons_zero]
  have hne:r≠H.length:=fun z=>by rw[z,atc] at hr;cases hr
  have hr':(H++.liter (.ref sq) (0+j+1)::ext)[r]?=some (.list (((oss.take j).foldl joinedP ps).map .int)):=by
   rw[← appc (.liter (.ref sq) (0+j)),List.getElem?_set_ne (Ne.symm hne)];exact hr
  obtain⟨f1,f2⟩:=fold_len (oss.take j) ps ⟨hp0,hp1⟩
  unfold LB_reduce0
  repeat walk_at "p"
  refine⟨rfl,?_⟩
  repeat walk_at "p"
  refine fw_joined hr' (atl g1) f2 g3 f1 g2 fun X=>?_
  walk_at "p"
  refine⟨.inl rfl,?_⟩
  have et:(oss.take (j+1)).foldl joinedP ps=joinedP ((oss.take j).foldl joinedP ps) oss[j]:=by
   rw[List.take_succ_eq_append_getElem hjo,List.foldl_append];rfl
  rw[et,List.append_assoc]
  refine⟨ext++[X,.list ((joinedP ((oss.take j).foldl joinedP ps) oss[j]).map .int)],_,_,rfl,?_⟩
  have:=at2b (H:=H++.liter (.ref sq) (0+j+1)::ext) X (.list ((joinedP ((oss.take j).foldl joinedP ps) oss[j]).map .int))
  rw[List.append_assoc] at this
  exact this
 ·rintro σ ⟨ext,r,v5,rfl,hr⟩
  dsimp only
  rw[if_neg (by simp),appc]
  have hne:r≠H.length:=fun z=>by rw[z,atc] at hr;cases hr
  have et:oss.take (ls.map PV.ref).length=oss:=by simp[hll]
  rw[et] at hr
  have hr':(H++.dead::ext)[r]?=some (.list ((oss.foldl joinedP ps).map .int)):=by
   rw[← appc (.liter (.ref sq) (0+(ls.map PV.ref).length)),List.getElem?_set_ne (Ne.symm hne)];exact hr
  walk_at "s"
  exact h _ _ hr'
end
open PySem PySem.W
noncomputable def LT_law_first_three0:PM Bool:=(pAnd (pTest (fun x y=>decide (y<x)) (pLoc 0) (pConst (.int 0))) (pLt (pCall (.builtin "len") F_len (pConst (.const (.builtin "len"))) (aCons (pLoc 1) aNil)) (pConst (.int 3))))
noncomputable def LB_law_first_three0:PM PFlow:=(bCons (sAug 1 oAdd true (pMulLL (pList (aCons (pLoc 2) aNil)) (pCall (.builtin "min") F_min (pConst (.const (.builtin "min"))) (aCons (pConst (.int 3)) (aCons (pBin oMod (pLoc 0) (pConst (.int 65536))) aNil)))))
 (bCons (sSet 0 (pBin oDiv (pLoc 0) (pConst (.int 65536))))
 (bCons (sAug 2 oAdd true (pConst (.int 1)))
 bNil)))
noncomputable def ftL (t:Nat) (prices:List Int) (price:Int):List Int:=
 if h:0<t∧prices.length<3 then ftL (t / 65536) (prices++List.replicate (min 3 (t % 65536)) price) (price+1) else prices
termination_by t
decreasing_by lia
theorem ftL_len:∀(n t:Nat) (prices:List Int) (price:Int),t≤n→prices.length≤5→(ftL t prices price).length≤5:=by
 intro n
 induction n with
 | zero=>
  intro t prices price ht hp
  rw[ftL,dif_neg (by lia)];exact hp
 | succ n ih=>
  intro t prices price ht hp
  rw[ftL]
  split
  ·exact ih _ _ _ (by lia) (by simp;lia)
  ·exact hp
section
variable {σ:PS}{H:List PObj}{V:List (Option PV)}{R:PV→List PObj→Prop}
theorem wp_sSwap {i j:Nat}{f:PM PV}{Q:PFlow→PS→Prop}(h:Wp f σ fun p σ1=>∃ a b,p=.tup [a,b]∧Q .next ⟨σ1.H,(σ1.V.set j (some b)).set i (some a)⟩):Wp (sSwap i j f) σ Q:=by
 refine Wp.seq (h.mono fun p σ1 h1=>?_)
 obtain⟨a,b,rfl,q⟩:=h1
 exact⟨_,_,rfl,q⟩
theorem wp_mulLL {f g:PM PV}{Q:PV→PS→Prop}(h:Wp f σ fun a σ1=>Wp g σ1 fun b σ2=>Wp (mulL a b) σ2 Q):Wp (pMulLL f g) σ Q:=Wp.seq (h.mono fun a σ1 h1=>Wp.seq h1)
theorem wp_mulL {i:Nat}{x:PV}{n:Int}{Q:PV→PS→Prop}(hi:H[i]?=some (.list [x])) (hn:0≤n∧n≤1000) (h:Q (.ref H.length) ⟨H++[.list (List.replicate n.toNat x)],V⟩):Wp (mulL (.ref i) (.int n)) ⟨H,V⟩ Q:=
 ⟨_,_,by simp only[mulL,hi,hn,and_self,if_true],h⟩
theorem fw_min {a b:Int}(h:R (.int (if b<a then b else a)) H):Fw F_min [.int a,.int b] H R:=⟨_,_,rfl,h⟩
theorem ft_loop {Q:PFlow→PS→Prop}:∀(n t:Nat) (prices:List Int) (price:Int) (ext:List PObj),t≤n→prices.length≤5→
  (∀ v0 v2 ext',Q .next ⟨H++.list ((ftL t prices price).map .int)::ext',[v0,some (.ref H.length),v2]⟩)→
  Wp (whileM LT_law_first_three0 LB_law_first_three0 bNil) ⟨H++.list (prices.map .int)::ext,[some (.int t),some (.ref H.length),some (.int price)]⟩ Q:=by
 intro n
 induction n with
 | zero=>
  intro t prices price ext ht hp h
  have:t=0:=by exact Nat.le_antisymm ht (Nat.zero_le _)
  subst this
  refine wp_while ?_
  unfold LT_law_first_three0
  repeat walk_at "p"
  refine Is2.mk ?_
  refine⟨fun hb=>absurd hb (by decide),fun _=>⟨fun _=>?_,fun hb=>absurd hb (by decide)⟩⟩
  walk_at "p"
  have:=h (some (.int (0:Nat))) (some (.int price)) ext
  rw[ftL,dif_neg (by lia)] at this
  exact this
 | succ n ih=>
  intro t prices price ext ht hp h
  refine wp_while ?_
  unfold LT_law_first_three0
  repeat walk_at "p"
  refine Is2.mk ?_
  refine⟨fun hb=>?_,fun hb=>⟨fun _=>?_,fun hb=>absurd hb (by decide)⟩⟩
  ·have h0:0<t:=by simp at hb;exact hb
   repeat walk_at "p"
   refine fw_len_at (atc _ _) (by simp;exact Nat.lt_of_le_of_lt hp (by decide)) ?_
   walk_at "p"
   refine⟨decide ((prices.length:Int)<3),by simp[less],?_⟩
   refine⟨fun hb2=>?_,fun hb2=>?_⟩
   ·walk_at "p"
    have:=h (some (.int t)) (some (.int price)) ext
    rw[ftL,dif_neg (by simp at hb2;lia)] at this
    exact this
   ·have hlt:prices.length<3:=by simp at hb2;exact Int.ofNat_lt.mp hb2
    unfold LB_law_first_three0
    walk_at "s"
    refine wp_mulLL ?_
    walk_at "s"
    refine fw_min ?_
    have em:Int.fmod (t:Int) 65536=((t % 65536:Nat):Int):=by
     rw[Int.fmod_eq_emod_of_nonneg _ (by decide)];lia
    have ed:Int.fdiv (t:Int) 65536=((t / 65536:Nat):Int):=by
     rw[Int.fdiv_eq_ediv_of_nonneg _ (by decide)];lia
    rw[em]
    have emin:(if((t % 65536:Nat):Int)<3 then((t % 65536:Nat):Int) else 3)=((min 3 (t % 65536):Nat):Int):=by split<;>lia
    rw[emin]
    refine wp_mulL (at1a _) (by lia) ?_
    rw[List.append_assoc,List.append_assoc]
    have emn:(((min 3 (t % 65536):Nat):Int)).toNat=min 3 (t % 65536):=by lia
    rw[emn]
    have hlen:(H++(PObj.list (prices.map PV.int)::ext++[PObj.list [PV.int price]])).length=H.length+(ext.length+2):=by simp
    refine⟨.ref H.length,H++.list ((prices++List.replicate (min 3 (t % 65536)) price).map .int)::(ext++[.list [.int price],.list (List.replicate (min 3 (t % 65536)) (.int price))]),?_,?_⟩
    ·have e1:(H++(PObj.list (prices.map PV.int)::ext++([PObj.list [PV.int price]]++[PObj.list (List.replicate (min 3 (t % 65536)) (PV.int price))])))[H.length]?=some (.list (prices.map PV.int)):=by simp
     have e2:(H++(PObj.list (prices.map PV.int)::ext++([PObj.list [PV.int price]]++[PObj.list (List.replicate (min 3 (t % 65536)) (PV.int price))])))[(H++PObj.list (prices.map PV.int)::ext++[PObj.list [PV.int price]]).length]?=some (.list (List.replicate (min 3 (t % 65536)) (PV.int price))):=by
      rw[← List.append_assoc,← List.append_assoc]
      exact at1a _
     simp only[augOf,if_true,e1,e2]
     rw[if_pos (by simp;lia)]
     simp
    ·walk_at "s"
     refine⟨_,_,rfl,?_⟩
     walk_at "s"
     rw[ed]
     refine ih _ _ _ _ (by lia) (by simp;lia) fun v0 v2 ext'=>?_
     have:=h v0 v2 ext'
     rw[ftL,dif_pos ⟨h0,hlt⟩] at this
     exact this
  ·have h0:t=0:=by simp at hb;exact hb
   subst h0
   walk_at "p"
   have:=h (some (.int (0:Nat))) (some (.int price)) ext
   rw[ftL,dif_neg (by lia)] at this
   exact this
theorem fw_ft {t:Nat}(h:∀ ext r,(H++ext)[r]?=some (.list (((ftL t [] 0).take 3).map .int))→R (.ref r) (H++ext)):Fw F_law_first_three [.int t] H R:=by
 refine fw_run (V0:=[some (.int t),none,none]) rfl ?_
 refine(?_:Wp (bCons _ (bCons (whileM LT_law_first_three0 LB_law_first_three0 bNil) _)) _ _)
 walk_at "p"
 refine wp_sSwap ?_
 walk_at "s"
 refine⟨_,_,rfl,?_⟩
 walk_at "p"
 refine ft_loop t t [] 0 [] (Nat.le_refl _) (by exact nle rfl) fun v0 v2 ext'=>?_
 walk_at "s"
 have hl:=ftL_len t t [] 0 (Nat.le_refl _) (by exact nle rfl)
 refine wp_sliceOf (atc _ _) (by simp;exact Nat.le_trans hl (by decide)) (by decide) ?_
 dsimp only
 have e:=pick_upto ((ftL t [] 0).map PV.int) 3
 refine(?_:R _ ((H++_::ext')++[PObj.list (pickL _ none (some ((3:Nat):Int)) none)]))
 rw[e,← List.map_take,List.append_assoc]
 refine h _ _ ?_
 rw[← List.append_assoc]
 exact at1a _
end
open PySem PySem.W
noncomputable def LB_law_totals0:PM PFlow:=(bCons (sSet 8 (pBin oMul (pLoc 8) (pSub (pLoc 1) (pLoc 9))))
 bNil)
noncomputable def LB_law_totals1:PM PFlow:=(bCons (sSet 8 (pBin oPow (pConst (.int 2)) (pBin oMul (pConst (.int 16)) (pLoc 6))))
 (bCons (sFor (pIter (pLoc 7)) (setV 9) (bCons (sSet 8 (pBin oMul (pLoc 8) (pSub (pLoc 1) (pLoc 9))))
 bNil))
 (bCons (sAug 5 oAdd true (pLoc 8))
 bNil)))
noncomputable def LB_law_totals2:PM PFlow:=(bCons (sSet 5 (pConst (.int 0)))
 (bCons (sFor (pIter (pSub (pLoc 0) (pLoc 4))) (tupT [(setV 6),(setV 7)]) (bCons (sSet 8 (pBin oPow (pConst (.int 2)) (pBin oMul (pConst (.int 16)) (pLoc 6))))
 (bCons (sFor (pIter (pLoc 7)) (setV 9) (bCons (sSet 8 (pBin oMul (pLoc 8) (pSub (pLoc 1) (pLoc 9))))
 bNil))
 (bCons (sAug 5 oAdd true (pLoc 8))
 bNil))))
 (bCons (sExpr (pMeth "list" F_append (pLoc 3) (aCons (pLoc 5) aNil)))
 bNil)))
noncomputable def LB_law_totals3:PM PFlow:=(bCons (sSet 3 (pList aNil))
 (bCons (sFor (pRangeIt (pConst (.int 5))) (setV 4) (bCons (sSet 5 (pConst (.int 0)))
 (bCons (sFor (pIter (pSub (pLoc 0) (pLoc 4))) (tupT [(setV 6),(setV 7)]) (bCons (sSet 8 (pBin oPow (pConst (.int 2)) (pBin oMul (pConst (.int 16)) (pLoc 6))))
 (bCons (sFor (pIter (pLoc 7)) (setV 9) (bCons (sSet 8 (pBin oMul (pLoc 8) (pSub (pLoc 1) (pLoc 9))))
 bNil))
 (bCons (sAug 5 oAdd true (pLoc 8))
 bNil))))
 (bCons (sExpr (pMeth "list" F_append (pLoc 3) (aCons (pLoc 5) aNil)))
 bNil))))
 (bCons (sSet 1 (pLoc 3))
 bNil)))
noncomputable def partsV (ps:List Nat):List PV:=ps.map fun(p:Nat)=>PV.int (p:Int)
noncomputable def Rcp (H:List PObj) (rc:Nat) (rec:Nat→List (Nat × List Nat)):Prop:=
 ∃ es ep,H[rc]?=some (.dict es ep)∧∀ k:Nat,k<5→∃(l:Nat) (pls:List Nat),dget es (k:Int)=some (.ref l)∧pls.length=(rec k).length∧H[l]?=some (.list (List.zipWith (fun(r:Nat × List Nat) (pl:Nat)=>PV.tup [.int (r.1:Int),.ref pl]) (rec k) pls))∧
  ∀(j:Nat) r pl,(rec k)[j]?=some r→pls[j]?=some pl→H[pl]?=some (.list (partsV r.2))
theorem Rcp.app {H:List PObj}{rc:Nat}{rec:Nat→List (Nat × List Nat)}(h:Rcp H rc rec) (ext:List PObj):Rcp (H++ext) rc rec:=by
 refine gv fun _ gk=>?_
 obtain⟨es,ep,h1,h2⟩:=h
 refine gk ?_
 refine⟨es,ep,atl h1,fun k hk=>?_⟩
 refine gv fun _ gk=>?_
 obtain⟨l,pls,a,b,c,d⟩:=h2 k hk
 refine gk ?_
 exact⟨l,pls,a,b,atl c,fun j r pl q1 q2=>atl (d j r pl q1 q2)⟩
noncomputable def waysP (tt:List Nat) (r:Nat × List Nat):Nat:=r.2.foldl (fun w p=>w*tt.getD p 0) (2 ^ (16*r.1))
noncomputable def totP (rec:Nat→List (Nat × List Nat)) (tt:List Nat) (k:Nat):Nat:=((rec k).map (waysP tt)).sum
noncomputable def totN (rec:Nat→List (Nat × List Nat)):Nat→List Nat
 | 0=>[0,0,0,0,0]
 | n+1=>(List.range 5).map (totP rec (totN rec n))
noncomputable def natsV (xs:List Nat):List PV:=xs.map fun(x:Nat)=>PV.int (x:Int)
section
variable {H:List PObj}{R:PV→List PObj→Prop}
theorem item_nat {K:List PObj}{i p:Nat}{xs:List Nat}(h:K[i]?=some (.list (natsV xs))) (hp:p<xs.length) (hl:xs.length≤1000):itemOf K (.ref i) (.int (p:Int))=some (.int ((xs.getD p 0:Nat):Int)):=
 item_of h (by lia) (by simp[natsV,hp])
theorem tot_parts {tl pl:Nat}{tt:List Nat}{ps:List Nat}{w0:Nat}{v0 v2 v3 v4 v5 v6 v9:Option PV}{Q:PFlow→PS→Prop}(ht:H[tl]?=some (.list (natsV tt))) (hp:H[pl]?=some (.list (partsV ps))) (hin:∀ p∈ps,p<tt.length) (htl:tt.length≤1000)
  (hb:∀ p,tt.getD p 0<2 ^ 1000) (hb2:∀ j,j<ps.length→(ps.take j).foldl (fun w p=>w*tt.getD p 0) w0<2 ^ 1000)
  (h:∀ v9,Q .next ⟨H,[v0,some (.ref tl),v2,v3,v4,v5,v6,some (.ref pl),some (.int ((ps.foldl (fun w p=>w*tt.getD p 0) w0:Nat):Int)),v9]⟩):
  Wp (sFor (pIter (pLoc 7)) (setV 9) LB_law_totals0) ⟨H,[v0,some (.ref tl),v2,v3,v4,v5,v6,some (.ref pl),some (.int (w0:Int)),v9]⟩ Q:=by
 refine wp_sFor (wp_iter (wp_loc rfl ⟨_,it_list hp,?_⟩))
 refine wp_forL_inv (fun j σ=>∃ v9,σ=⟨H,[v0,some (.ref tl),v2,v3,v4,v5,v6,some (.ref pl),some (.int (((ps.take j).foldl (fun w p=>w*tt.getD p 0) w0:Nat):Int)),v9]⟩)
  (partsV ps) ?_ ?_ ?_ 0 _ (Nat.zero_le _) ⟨v9,by rfl⟩
 ·rintro j σ ⟨v9,rfl⟩
  exact hp
 ·rintro j q σ hq ⟨v9,rfl⟩
  have hj:j<ps.length:=by have:=(List.getElem?_eq_some_iff.mp hq).1;simpa[partsV] using this
  have hq':q=.int ((ps[j]:Nat):Int):=by
   unfold partsV at hq
   rw[List.getElem?_map,List.getElem?_eq_getElem hj] at hq
   exact(Option.some.inj hq).symm
  subst hq'
  dsimp only[It.still]
  refine wp_setV ?_
  dsimp only[List.set_cons_succ,List.set_cons_zero]
  unfold LB_law_totals0
  walk_at "s"
  refine Is.mk (item_nat ht (hin _ (List.getElem_mem hj)) htl) ?_
  refine Is2.mk ⟨⟨?_,?_⟩,?_⟩
  ·rw[Int.natAbs_natCast];exact hb2 j hj
  ·rw[Int.natAbs_natCast];exact hb ps[j]
  ·walk_at "s"
   refine⟨.inl rfl,some (.int ((ps[j]:Nat):Int)),?_⟩
   have et:(ps.take (j+1)).foldl (fun w p=>w*tt.getD p 0) w0=(ps.take j).foldl (fun w p=>w*tt.getD p 0) w0*tt.getD ps[j] 0:=by
    rw[List.take_succ_eq_append_getElem hj,List.foldl_append];rfl
   rw[et,Int.natCast_mul]
 ·rintro σ ⟨v9,rfl⟩
  have:ps.take (partsV ps).length=ps:=by simp[partsV]
  rw[this]
  exact h _
end
open PySem PySem.W
noncomputable def RecOK (rec:Nat→List (Nat × List Nat)):Prop:=∀ k,k<5→(rec k).length≤1000∧∀ r∈rec k,r.1≤3∧r.2.length≤2∧∀ p∈r.2,p<5
section
variable {H:List PObj}{R:PV→List PObj→Prop}
theorem pow_ways (n:Nat):(2:Int) ^ ((16:Int)*(n:Int)).toNat=((2 ^ (16*n):Nat):Int):=by
 have:((16:Int)*(n:Int)).toNat=16*n:=by lia
 rw[this];simp
theorem part_bound {tt:List Nat}{r:Nat × List Nat}(h1:r.1≤3) (h2:r.2.length≤2) (hb:∀ p,tt.getD p 0<2 ^ 900) (j:Nat) (hj:j<r.2.length):(r.2.take j).foldl (fun w p=>w*tt.getD p 0) (2 ^ (16*r.1))<2 ^ 1000:=by
 have hw:2 ^ (16*r.1)≤2 ^ 48:=Nat.pow_le_pow_right (by decide) (by lia)
 obtain⟨a,ps⟩:=r
 dsimp only at*
 have hj2:j=0∨j=1:=by lia
 rcases hj2 with rfl | rfl
 ·skip
  exact Nat.lt_of_le_of_lt hw (Nat.pow_lt_pow_right (by decide) (by decide))
 ·cases ps with
  | nil=>simp at hj
  | cons p ps=>
   skip
   have:=hb p
   have h3:2 ^ (16*a)*tt.getD p 0≤2 ^ 48*2 ^ 900:=Nat.mul_le_mul hw (Nat.le_of_lt this)
   rw[← Nat.pow_add] at h3
   exact Nat.lt_of_le_of_lt h3 (Nat.pow_lt_pow_right (by decide) (by decide))
theorem tot_recipes {rc tl k:Nat}{tt:List Nat}{rec:Nat→List (Nat × List Nat)}{v2 v3 v6 v7 v8 v9:Option PV}{Q:PFlow→PS→Prop}(hR:Rcp H rc rec) (hO:RecOK rec) (hk:k<5) (ht:H[tl]?=some (.list (natsV tt))) (htl:tt.length=5) (hb:∀ p,tt.getD p 0<2 ^ 900)
  (h:∀ v6 v7 v8 v9,Q .next ⟨H,[some (.ref rc),some (.ref tl),v2,v3,some (.int (k:Int)),some (.int ((totP rec tt k:Nat):Int)),v6,v7,v8,v9]⟩):
  Wp (sFor (pIter (pSub (pLoc 0) (pLoc 4))) (tupT [(setV 6),(setV 7)]) LB_law_totals1) ⟨H,[some (.ref rc),some (.ref tl),v2,v3,some (.int (k:Int)),some (.int 0),v6,v7,v8,v9]⟩ Q:=by
 refine gv fun _ gk=>?_
 obtain⟨es,ep,h1,h2⟩:=hR
 obtain⟨l,pls,a,b,c,d⟩:=h2 k hk
 refine gk ?_
 refine wp_sFor (wp_iter (wp_sub (wp_loc rfl (wp_loc rfl ⟨.ref l,by simp only[itemOf,h1,a],⟨_,it_list c,?_⟩⟩))))
 refine wp_forL_inv (fun j σ=>Ex4 fun v6 v7 v8 v9=>σ=⟨H,[some (.ref rc),some (.ref tl),v2,v3,some (.int (k:Int)),some (.int (((((rec k).take j).map (waysP tt)).sum:Nat):Int)),v6,v7,v8,v9]⟩)
  (List.zipWith (fun(r:Nat × List Nat) (pl:Nat)=>PV.tup [.int (r.1:Int),.ref pl]) (rec k) pls) ?_ ?_ ?_ 0 _ (Nat.zero_le _) ⟨v6,v7,v8,v9,by rfl⟩
 ·rintro j σ ⟨v6,v7,v8,v9,rfl⟩
  exact c
 ·rintro j q σ hq ⟨v6,v7,v8,v9,rfl⟩
  rw[List.getElem?_zipWith] at hq
  have hj:j<(rec k).length:=by
   cases e:(rec k)[j]? with
   | none=>rw[e] at hq;exact nn hq
   | some r=>exact(List.getElem?_eq_some_iff.mp e).1
  have hjp:j<pls.length:=by exact Nat.lt_of_lt_of_eq hj (Eq.symm b)
  rw[List.getElem?_eq_getElem hj,List.getElem?_eq_getElem hjp] at hq
  have hq':q=.tup [.int ((rec k)[j].1:Int),.ref pls[j]]:=(Option.some.inj hq).symm
  subst hq'
  have hp:=d j (rec k)[j] pls[j] (List.getElem?_eq_getElem hj) (List.getElem?_eq_getElem hjp)
  refine gv fun _ gk=>?_
  obtain⟨o1,o2,o3⟩:=(hO k hk).2 (rec k)[j] (List.getElem_mem hj)
  refine gk ?_
  dsimp only[It.still]
  walk_at "s"
  show Wp (bCons _ (bCons (sFor (pIter (pLoc 7)) (setV 9) LB_law_totals0) _)) _ _
  repeat walk_at "p"
  refine Is2.mk ⟨⟨?_,?_⟩,?_⟩
  ·exact Nat.lt_of_le_of_lt (show Int.natAbs 16≤2 ^ 4 by decide) (Nat.pow_lt_pow_right (by decide) (by decide))
  ·rw[Int.natAbs_natCast]
   exact Nat.lt_of_le_of_lt (show(rec k)[j].1≤2 ^ 4 by exact Nat.le_trans o1 (by decide)) (Nat.pow_lt_pow_right (by decide) (by decide))
  refine Is2.mk ⟨⟨by lia,by lia,by decide⟩,?_⟩
  rw[pow_ways]
  walk_at "p"
  refine tot_parts ht hp (by rw[htl];exact o3) (by exact Nat.le_trans (Nat.le_of_eq htl) (by decide)) (fun p=>Nat.lt_trans (hb p) (Nat.pow_lt_pow_right (by decide) (by decide))) (part_bound o1 o2 hb) fun v9=>?_
  walk_at "s"
  refine⟨_,_,rfl,?_⟩
  walk_at "s"
  have et:(((rec k).take (j+1)).map (waysP tt)).sum=(((rec k).take j).map (waysP tt)).sum+waysP tt (rec k)[j]:=by
   rw[List.take_succ_eq_append_getElem hj,List.map_append,List.sum_append];simp
  rw[et,Int.natCast_add]
  exact⟨.inl rfl,_,_,_,_,rfl⟩
 ·rintro σ ⟨v6,v7,v8,v9,rfl⟩
  have:(rec k).take (List.zipWith (fun(r:Nat × List Nat) (pl:Nat)=>PV.tup [.int (r.1:Int),.ref pl]) (rec k) pls).length=rec k:=by
   rw[List.length_zipWith,b,Nat.min_self,List.take_length]
  rw[this]
  exact h _ _ _ _
end
open PySem PySem.W
section
variable {H:List PObj}{R:PV→List PObj→Prop}
theorem upto_get {n j:Nat}{q:PV}(h:(upto n)[j]?=some q):j<n∧q=.int (j:Int):=by
 have hj:j<n:=by have:=(List.getElem?_eq_some_iff.mp h).1;simpa[upto] using this
 refine⟨hj,?_⟩
 have:(upto n)[j]?=some (PV.int (j:Int)):=by simp[upto,hj]
 rw[this] at h;exact(Option.some.inj h).symm
theorem upto_len (n:Nat):(upto n).length=n:=by simp[upto]
theorem tot_things {rc tl:Nat}{tt:List Nat}{rec:Nat→List (Nat × List Nat)}{v2 v4 v5 v6 v7 v8 v9:Option PV}{Q:PFlow→PS→Prop}(hR:Rcp H rc rec) (hO:RecOK rec) (ht:H[tl]?=some (.list (natsV tt))) (htl:tt.length=5) (hb:∀ p,tt.getD p 0<2 ^ 900)
  (h:∀ v4 v5 v6 v7 v8 v9,Q .next ⟨H++[.list (natsV ((List.range 5).map (totP rec tt)))],[some (.ref rc),some (.ref tl),v2,some (.ref H.length),v4,v5,v6,v7,v8,v9]⟩):
  Wp (sFor (pRangeIt (pConst (.int 5))) (setV 4) LB_law_totals2) ⟨H++[.list []],[some (.ref rc),some (.ref tl),v2,some (.ref H.length),v4,v5,v6,v7,v8,v9]⟩ Q:=by
 refine wp_sFor (wp_rangeIt (wp_const ⟨5,rfl,by decide,?_⟩))
 refine wp_forL_inv (fun j σ=>Ex6 fun v4 v5 v6 v7 v8 v9=>σ=⟨H++[.list (natsV ((List.range j).map (totP rec tt)))],[some (.ref rc),some (.ref tl),v2,some (.ref H.length),v4,v5,v6,v7,v8,v9]⟩)
  (upto 5) (fun _ _ _=>trivial) ?_ ?_ 0 _ (Nat.zero_le _) ⟨v4,v5,v6,v7,v8,v9,rfl⟩
 ·rintro j q σ hq ⟨v4,v5,v6,v7,v8,v9,rfl⟩
  obtain⟨hj,rfl⟩:=upto_get hq
  dsimp only[It.still]
  refine wp_setV ?_
  dsimp only[List.set_cons_succ,List.set_cons_zero]
  show Wp (bCons _ (bCons (sFor (pIter (pSub (pLoc 0) (pLoc 4))) (tupT [(setV 6),(setV 7)]) LB_law_totals1) _)) _ _
  walk_at "p"
  walk_at "p"
  walk_at "p"
  walk_at "p"
  refine tot_recipes (hR.app _) hO hj (atl ht) htl hb fun v6 v7 v8 v9=>?_
  walk_at "s"
  refine⟨kind_at (at1a _),?_⟩
  walk_at "s"
  refine fw_append_at (at1a _) (by simp[natsV];exact Nat.le_of_lt (Nat.lt_of_lt_of_le hj (by decide))) ?_
  rw[app1]
  walk_at "s"
  have et:natsV ((List.range (j+1)).map (totP rec tt))=natsV ((List.range j).map (totP rec tt))++[.int ((totP rec tt j:Nat):Int)]:=by
   rw[List.range_succ,List.map_append];simp[natsV]
  rw[et]
  exact⟨.inl rfl,_,_,_,_,_,_,rfl⟩
 ·rintro σ ⟨v4,v5,v6,v7,v8,v9,rfl⟩
  rw[upto_len]
  exact h _ _ _ _ _ _
theorem fw_totals {rc:Nat}{rec:Nat→List (Nat × List Nat)}(hR:Rcp H rc rec) (hO:RecOK rec) (hb:∀ n p,(totN rec n).getD p 0<2 ^ 900) (h:∀ ext r,(H++ext)[r]?=some (.list (natsV (totN rec 5)))→R (.ref r) (H++ext)):Fw F_law_totals [.ref rc] H R:=by
 refine fw_run (V0:=[some (.ref rc),none,none,none,none,none,none,none,none,none]) rfl ?_
 refine(?_:Wp (bCons _ (bCons (sFor (pRangeIt (pConst (.int 5))) (setV 2) LB_law_totals3) _)) _ _)
 refine wp_bCons (wp_sSet (wp_list ?_))
 repeat (first | (with_reducible refine wp_aCons ?_) | (with_reducible refine wp_const ?_) | (with_reducible refine wp_aNil ?_))
 refine⟨by exact nle rfl,?_⟩
 dsimp only[List.set_cons_succ,List.set_cons_zero]
 refine wp_bCons (wp_sFor (wp_rangeIt (wp_const ⟨5,rfl,by decide,?_⟩)))
 refine wp_forL_inv (fun n σ=>Ex10 fun ext r v2 v3 v4 v5 v6 v7 v8 v9=>σ=⟨H++ext,[some (.ref rc),some (.ref r),v2,v3,v4,v5,v6,v7,v8,v9]⟩∧(H++ext)[r]?=some (.list (natsV (totN rec n))))
  (upto 5) (fun _ _ _=>trivial) ?_ ?_ 0 _ (Nat.zero_le _) ⟨_,_,_,_,_,_,_,_,_,_,rfl,by simp[totN,natsV]⟩
 ·rintro n q σ hq ⟨ext,r,v2,v3,v4,v5,v6,v7,v8,v9,rfl,hr⟩
  obtain⟨hn,rfl⟩:=upto_get hq
  dsimp only[It.still]
  refine wp_setV ?_
  dsimp only[List.set_cons_succ,List.set_cons_zero]
  refine(?_:Wp (bCons _ (bCons (sFor (pRangeIt (pConst (.int 5))) (setV 4) LB_law_totals2) _)) _ _)
  refine wp_bCons (wp_sSet (wp_list (wp_aNil ⟨by exact nle rfl,?_⟩)))
  dsimp only[List.set_cons_succ,List.set_cons_zero]
  refine wp_bCons ?_
  refine tot_things (hR.app ext) hO hr (by cases n<;>simp[totN]) (hb n) fun v4 v5 v6 v7 v8 v9=>?_
  walk_at "s"
  rw[List.append_assoc]
  refine⟨.inl rfl,_,_,_,_,_,_,_,_,_,_,rfl,?_⟩
  rw[← List.append_assoc]
  exact at1a _
 ·rintro σ ⟨ext,r,v2,v3,v4,v5,v6,v7,v8,v9,rfl,hr⟩
  rw[upto_len] at hr
  walk_at "s"
  exact h _ _ hr
end
open PySem PySem.W
theorem dget_cons (e:Int × PV) (es:List (Int × PV)) (k:Int):dget (e::es) k=if e.1=k then some e.2 else dget es k:=by
 unfold dget
 skip
 by_cases h:e.1=k<;>simp[h]
theorem dget_map:∀(es:List (Int × PV)) (k k':Int) (p:PV),dget (es.map fun e=>if e.1=k then(e.1,p) else e) k'=if k'=k then(dget es k).map fun _=>p else dget es k'
 | [],k,k',p=>by simp[dget]
 | e::es,k,k',p=>by
  rw[List.map_cons,dget_cons,dget_map es k k' p,dget_cons,dget_cons]
  by_cases h:e.1=k
  ·subst h
   by_cases h2:k'=e.1
   ·subst h2;simp
   ·simp[h2,Ne.symm h2]
  ·simp only[h,if_false]
   by_cases h2:e.1=k'
   ·subst h2;simp[h]
   ·simp only[h2,if_false]
theorem dget_append (es:List (Int × PV)) (k k':Int) (p:PV):dget (es++[(k,p)]) k'=(dget es k').or (if k'=k then some p else none):=by
 induction es with
 | nil=>simp[dget_cons,dget,eq_comm]
 | cons e es ih=>
  rw[List.cons_append,dget_cons,dget_cons,ih]
  by_cases h:e.1=k'<;>simp[h]
theorem dget_none {es:List (Int × PV)}{k:Int}(h:¬ (es.any fun e=>decide (e.1=k))=true):dget es k=none:=by
 unfold dget
 rw[List.find?_eq_none.mpr]
 ·rfl
 ·intro e he q
  exact h (List.any_eq_true.mpr ⟨e,he,by exact q⟩)
theorem dget_isSome {es:List (Int × PV)}{k:Int}(h:(es.any fun e=>decide (e.1=k))=true):∃ p,dget es k=some p:=by
 obtain⟨e,he,q⟩:=List.any_eq_true.mp h
 have:(es.find? fun e=>decide (e.1=k)).isSome=true:=List.find?_isSome.mpr ⟨e,he,q⟩
 obtain⟨e2,h2⟩:=Option.isSome_iff_exists.mp this
 exact⟨e2.2,by unfold dget;rw[h2];rfl⟩
theorem dget_dput (es:List (Int × PV)) (k k':Int) (p:PV):dget (dput es k p) k'=if k'=k then some p else dget es k':=by
 unfold dput
 split
 ·rename_i h
  rw[dget_map]
  obtain⟨q,hq⟩:=dget_isSome h
  rw[hq];rfl
 ·rename_i h
  rw[dget_append]
  by_cases h2:k'=k
  ·rw[h2];rw[dget_none h];simp
  ·simp[h2]
theorem dput_len (es:List (Int × PV)) (k:Int) (p:PV):(dput es k p).length≤es.length+1:=by
 unfold dput
 split<;>simp
open PySem PySem.W
noncomputable def recV (rs:List (Nat × List Nat)) (pls:List Nat):List PV:=List.zipWith (fun(r:Nat × List Nat) (pl:Nat)=>PV.tup [.int (r.1:Int),.ref pl]) rs pls
noncomputable def upd {τ:Type}(f:Nat→τ) (k:Nat) (v:τ):Nat→τ:=fun j=>if j=k then v else f j
section
variable {τ:Type}{f:Nat→τ}{k j:Nat}{v:τ}
theorem upd_same:upd f k v k=v:=if_pos rfl
theorem upd_ne (h:j≠k):upd f k v j=f j:=if_neg h
theorem upd_ind {P:τ→Prop}(h1:j=k→P v) (h2:j≠k→P (f j)):P (upd f k v j):=by
 unfold upd
 by_cases h:j=k
 ·rw[if_pos h];exact h1 h
 ·rw[if_neg h];exact h2 h
end
structure RE (K:List PObj) (es:List (Int × PV)) (d:Nat) (lf:Nat→Nat) (pf:Nat→List Nat) (L:Nat→Prop) (rec:Nat→List (Nat × List Nat)) (k:Nat):Prop where
 get:dget es (k:Int)=some (.ref (lf k))
 len:(pf k).length=(rec k).length
 lst:K[lf k]?=some (.list (recV (rec k) (pf k)))
 prt:∀(j:Nat) r pl,(rec k)[j]?=some r→(pf k)[j]?=some pl→K[pl]?=some (.list (partsV r.2))
 ne:∀ k',L k'→k'≠k→lf k'≠lf k
 nep:∀ k',L k'→∀ pl∈pf k',pl≠lf k
 lt:d<lf k
section
variable {K K':List PObj}{es es':List (Int × PV)}{d:Nat}{lf:Nat→Nat}{pf:Nat→List Nat}{L L':Nat→Prop}{rec:Nat→List (Nat × List Nat)}{k:Nat}
theorem low {o:PObj}{i:Nat}(h:K[i]?=some o):i<K.length:=(List.getElem?_eq_some_iff.mp h).1
theorem RE.pbelow (x:RE K es d lf pf L rec k):∀ pl∈pf k,pl<K.length:=fun pl h=>by
 obtain⟨i,hi⟩:=List.getElem?_of_mem h
 exact low (x.prt i _ pl (List.getElem?_eq_getElem (x.len▸(List.getElem?_eq_some_iff.mp hi).1)) hi)
theorem RE.mk' (l:Nat) (ps:List Nat) (rs:List (Nat × List Nat)) (e1:lf k=l) (e2:pf k=ps) (e3:rec k=rs) (get:dget es (k:Int)=some (.ref l)) (len:ps.length=rs.length) (lst:K[l]?=some (.list (recV rs ps)))
  (prt:∀(j:Nat) r pl,rs[j]?=some r→ps[j]?=some pl→K[pl]?=some (.list (partsV r.2))) (ne:∀ k',L k'→k'≠k→lf k'≠l) (nep:∀ k',L k'→∀ pl∈pf k',pl≠l) (lt:d<l):RE K es d lf pf L rec k:=by
 subst e1 e2 e3
 exact⟨get,len,lst,prt,ne,nep,lt⟩
theorem RE.keep (x:RE K es d lf pf L rec k) (hK:∀ i xs,(i=lf k∨i∈pf k)→K[i]?=some (.list xs)→K'[i]?=some (.list xs)) (hL:∀ k,L' k→L k):RE K' es d lf pf L' rec k:=
 ⟨x.get,x.len,hK _ _ (.inl rfl) x.lst,fun j r pl q1 q2=>hK _ _ (.inr (List.mem_of_getElem? q2)) (x.prt j r pl q1 q2),fun k' h=>x.ne k' (hL k' h),fun k' h=>x.nep k' (hL k' h),x.lt⟩
end
structure RX (K:List PObj) (d z:Nat) (X:PObj) (L:Nat→Prop) (rec:Nat→List (Nat × List Nat)) (es:List (Int × PV)) (ep:Nat) (lf:Nat→Nat) (pf:Nat→List Nat):Prop where
 dict:K[d]?=some (.dict es ep)
 zat:K[z]?=some X
 zd:z≠d
 lz:∀ k,L k→lf k≠z
 ent:∀ k,L k→RE K es d lf pf L rec k
noncomputable def RB (K:List PObj) (d z:Nat) (X:PObj) (L:Nat→Prop) (rec:Nat→List (Nat × List Nat)):Prop:=Ex4 fun es ep lf pf=>RX K d z X L rec es ep lf pf
section
variable {K:List PObj}{d z:Nat}{X:PObj}{L L':Nat→Prop}{rec:Nat→List (Nat × List Nat)}
theorem RB.dict (h:RB K d z X L rec):Ex2 fun es ep=>K[d]?=some (.dict es ep):=h.elim fun es ep _ _ x=>⟨es,ep,x.dict⟩
theorem RB.zat (h:RB K d z X L rec):K[z]?=some X:=h.elim fun _ _ _ _ x=>x.zat
theorem RB.app (h:RB K d z X L rec) (ext:List PObj):RB (K++ext) d z X L rec:=h.elim fun es ep lf pf x=>
 ⟨es,ep,lf,pf,atl x.dict,atl x.zat,x.zd,x.lz,fun k hk=>(x.ent k hk).keep (fun _ _ _=>atl) fun _=>id⟩
theorem RB.rcp (h:RB K d z X L rec) (hL:∀ k,k<5→L k):Rcp K d rec:=h.elim fun es ep lf pf x=>
 ⟨es,ep,x.dict,fun k hk=>⟨lf k,pf k,(x.ent k (hL k hk)).get,(x.ent k (hL k hk)).len,(x.ent k (hL k hk)).lst,(x.ent k (hL k hk)).prt⟩⟩
theorem RB.congr {rec':Nat→List (Nat × List Nat)}(h:RB K d z X L rec) (hL:∀ k,L' k→L k) (hr:∀ k,rec' k=rec k):RB K d z X L' rec':=by
 have:rec'=rec:=funext hr
 rw[this]
 exact h.elim fun es ep lf pf x=>⟨es,ep,lf,pf,x.dict,x.zat,x.zd,fun k hk=>x.lz k (hL k hk),fun k hk=>(x.ent k (hL k hk)).keep (fun _ _ _=>id) hL⟩
theorem set_keep {es:List (Int × PV)}{ep y:Nat}{o:PObj}{xs:List PV}(hd:K[d]?=some (.dict es ep)) (h:K[y]?=some (.list xs)):(K.set d o)[y]?=some (.list xs):=by
 rw[List.getElem?_set_ne (fun z=>by rw[z,h] at hd;exact nomatch hd)];exact h
theorem set_at {o:PObj}{i:Nat}(h:i<K.length):(K.set i o)[i]?=some o:=List.getElem?_set_self h
theorem low_app {ext:List PObj}{i:Nat}(h:i<K.length):i<(K++ext).length:=by rw[List.length_append];exact Nat.lt_add_right _ h
theorem RB.lay (h:RB K d z X L rec) {ext:List PObj}{k l:Nat}{rs:List (Nat × List Nat)}{pls:List Nat}{es:List (Int × PV)}{ep:Nat}(hd:K[d]?=some (.dict es ep)) (hl:K.length≤l) (hlen:pls.length=rs.length)
  (h1:(K++ext)[l]?=some (.list (recV rs pls))) (h2:∀(j:Nat) r pl,rs[j]?=some r→pls[j]?=some pl→(K++ext)[pl]?=some (.list (partsV r.2))) (h3:∀ pl∈pls,K.length≤pl∧pl≠l) (ep':Nat):
  RB ((K++ext).set d (.dict (dput es (k:Int) (.ref l)) ep')) d z X (fun j=>L j∨j=k) (upd rec k rs):=by
 obtain⟨es',ep0,lf,pf,x⟩:=h
 obtain rfl:es'=es:=(PObj.dict.inj (Option.some.inj (x.dict.symm.trans hd))).1
 have hdl:=low hd
 have hd':=atl (ext:=ext) hd
 have off:∀ k',L k'→lf k'<l∧∀ pl∈pf k',pl<l:=fun k' hk'=>⟨Nat.lt_of_lt_of_le (low (x.ent k' hk').lst) hl,fun pl q=>Nat.lt_of_lt_of_le ((x.ent k' hk').pbelow pl q) hl⟩
 refine⟨_,ep',upd lf k l,upd pf k pls,set_at (low_app hdl),?_,x.zd,fun j hj=>upd_ind (P:=fun a=>a≠z) (fun _=>Nat.ne_of_gt (Nat.lt_of_lt_of_le (low x.zat) hl)) fun q=>x.lz j (hj.resolve_right q),fun j hj=>?_⟩
 ·rw[List.getElem?_set_ne (Ne.symm x.zd)];exact atl x.zat
 by_cases hjk:j=k
 ·subst hjk
  exact RE.mk' l pls rs upd_same upd_same upd_same (by rw[dget_dput,if_pos rfl]) hlen (set_keep hd' h1) (fun i r pl q1 q2=>set_keep hd' (h2 i r pl q1 q2))
   (fun k' hk' hne=>upd_ne (f:=lf) (v:=l) hne▸Nat.ne_of_lt (off k' (hk'.resolve_right hne)).1)
   (fun k' hk'=>upd_ind (P:=fun ps=>∀ pl∈ps,pl≠l) (fun _ pl q=>(h3 pl q).2) fun hne pl q=>Nat.ne_of_lt ((off k' (hk'.resolve_right hne)).2 pl q)) (Nat.lt_of_lt_of_le hdl hl)
 ·have e:=x.ent j (hj.resolve_right hjk)
  refine RE.mk' (lf j) (pf j) (rec j) (upd_ne hjk) (upd_ne hjk) (upd_ne hjk) ?_ e.len (set_keep hd' (atl e.lst)) (fun i r pl q1 q2=>set_keep hd' (atl (e.prt i r pl q1 q2)))
   (fun k' hk' hne=>upd_ind (P:=fun a=>a≠lf j) (fun _=>Nat.ne_of_gt (off j (hj.resolve_right hjk)).1) fun q=>e.ne k' (hk'.resolve_right q) hne)
   (fun k' hk'=>upd_ind (P:=fun ps=>∀ pl∈ps,pl≠lf j) (fun _ pl q=>Nat.ne_of_gt (Nat.lt_of_lt_of_le (low e.lst) (h3 pl q).1)) fun q=>e.nep k' (hk'.resolve_right q)) e.lt
  rw[dget_dput,if_neg (show ¬ ((j:Int)=(k:Int)) from fun q=>hjk (Int.ofNat.inj q))];exact e.get
theorem recV_snoc {rs:List (Nat × List Nat)}{ps:List Nat}{r:Nat × List Nat}{p:Nat}(h:ps.length=rs.length):recV rs ps++[.tup [.int (r.1:Int),.ref p]]=recV (rs++[r]) (ps++[p]):=by
 unfold recV;rw[List.zipWith_append h.symm];rfl
theorem snoc_at {τ:Type}{xs:List τ}{a y:τ}{i:Nat}(h:(xs++[a])[i]?=some y):xs[i]?=some y∨(i=xs.length∧a=y):=by
 rcases Nat.lt_or_ge i xs.length with hi | hi
 ·rw[List.getElem?_append_left hi] at h;exact .inl h
 ·have:=(List.getElem?_eq_some_iff.mp h).1
  rw[List.length_append] at this
  have e:i=xs.length:=Nat.le_antisymm (Nat.le_of_lt_succ this) hi
  rw[e,List.getElem?_append_right (Nat.le_refl _),Nat.sub_self] at h
  exact .inr ⟨e,sj h⟩
theorem RB.add (h:RB K d z X L rec) {k:Nat}(hk:L k):∃ l xs es ep,K[d]?=some (.dict es ep)∧dget es (k:Int)=some (.ref l)∧K[l]?=some (.list xs)∧xs.length=(rec k).length∧d<l∧
  ∀(ext:List PObj) (price:Nat) (ps:List Nat) (pl:Nat),K.length≤pl→(K++ext)[pl]?=some (.list (partsV ps))→RB ((K++ext).set l (.list (xs++[.tup [.int (price:Int),.ref pl]]))) d z X L (upd rec k (rec k++[(price,ps)])):=by
 obtain⟨es,ep,lf,pf,x⟩:=h
 have e:=x.ent k hk
 have hlk:=low e.lst
 refine⟨lf k,_,es,ep,x.dict,e.get,e.lst,by unfold recV;rw[List.length_zipWith,e.len,Nat.min_self],e.lt,fun ext price ps pl hpl hp=>?_⟩
 rw[recV_snoc (r:=(price,ps)) e.len]
 generalize hK':(K++ext).set (lf k) (.list (recV (rec k++[(price,ps)]) (pf k++[pl])))=K'
 have keep:∀(i:Nat) o,(K++ext)[i]?=some o→i≠lf k→K'[i]?=some o:=fun i o q hn=>by
  rw[← hK',List.getElem?_set_ne (Ne.symm hn)];exact q
 have plne:∀ j,L j→∀ k',L k'→∀ i∈upd pf k (pf k++[pl]) k',i≠lf j:=fun j hj k' hk'=>upd_ind (P:=fun ps=>∀ i∈ps,i≠lf j) (fun _ i q=>(List.mem_append.mp q).elim ((x.ent j hj).nep k hk i) fun q=>by
  rw[List.mem_singleton.mp q];exact Nat.ne_of_gt (Nat.lt_of_lt_of_le (low (x.ent j hj).lst) hpl)) fun _=>(x.ent j hj).nep k' hk'
 refine⟨es,ep,lf,upd pf k (pf k++[pl]),keep _ _ (atl x.dict) (Nat.ne_of_lt e.lt),keep _ _ (atl x.zat) (Ne.symm (x.lz k hk)),x.zd,x.lz,fun j hj=>?_⟩
 have ej:=x.ent j hj
 by_cases hjk:j=k
 ·subst hjk
  refine RE.mk' (lf j) _ _ rfl upd_same upd_same e.get (by rw[List.length_append,List.length_append,e.len];rfl) (by rw[← hK'];exact set_at (low_app hlk)) (fun i r y q1 q2=>?_) ej.ne (plne j hj) e.lt
  have hy:y≠lf j:=plne j hj j hj y (by rw[upd_same];exact List.mem_of_getElem? q2)
  rcases snoc_at q1 with q1 | ⟨i1,rfl⟩
  ·rcases snoc_at q2 with q2 | ⟨i2,_⟩
   ·exact keep _ _ (atl (e.prt i r y q1 q2)) hy
   ·exact absurd (List.getElem?_eq_some_iff.mp q1).1 (by rw[i2,e.len];exact Nat.lt_irrefl _)
  ·rcases snoc_at q2 with q2 | ⟨_,rfl⟩
   ·exact absurd (List.getElem?_eq_some_iff.mp q2).1 (by rw[i1,e.len];exact Nat.lt_irrefl _)
   ·exact keep _ _ hp hy
 ·exact RE.mk' (lf j) _ _ rfl (upd_ne hjk) (upd_ne hjk) ej.get ej.len (keep _ _ (atl ej.lst) (e.ne j hj hjk)) (fun i r y q1 q2=>keep _ _ (atl (ej.prt i r y q1 q2)) (e.nep j hj y (List.mem_of_getElem? q2))) ej.ne (plne j hj) ej.lt
theorem RB.watch (h:RB K d z X L rec) (Y:PObj):RB (K++[Y]) d K.length Y L rec:=h.elim fun es ep lf pf x=>
 ⟨es,ep,lf,pf,atl x.dict,at1a Y,Nat.ne_of_gt (low x.dict),fun k hk=>Nat.ne_of_lt (low (x.ent k hk).lst),fun k hk=>(x.ent k hk).keep (fun _ _ _=>atl) fun _=>id⟩
end
open PySem PySem.W
noncomputable def LB_law_recipes0:PM PFlow:=(bCons (sPut (pList aNil) (pLoc 2) (pSub (pLoc 1) (pLoc 3)))
 bNil)
noncomputable def LB_law_recipes1:PM PFlow:=(bCons (sIf (pLt (pLoc 3) (pConst (.int 2))) (bCons (sPut (pList (aCons (pTup (aCons (pBin oMod (pLoc 4) (pConst (.int 4))) (aCons (pList aNil) aNil))) (aCons (pTup (aCons (pBin oMod (pBin oDiv (pLoc 4) (pConst (.int 4))) (pConst (.int 4))) (aCons (pList aNil) aNil))) aNil))) (pLoc 2) (pSub (pLoc 1) (pLoc 3)))
 bNil) (bCons (sSet 5 (pList (aCons (pSub (pLoc 1) (pBin oMod (pBin oDiv (pLoc 4) (pConst (.int 4))) (pLoc 3))) aNil)))
 (bCons (sSet 6 (pBin oMod (pBin oDiv (pLoc 4) (pBin oMul (pConst (.int 4)) (pLoc 3))) (pBin oAdd (pLoc 3) (pConst (.int 1)))))
 (bCons (sIf (pLt (pLoc 6) (pLoc 3)) (bCons (sExpr (pMeth "list" F_append (pLoc 5) (aCons (pSub (pLoc 1) (pLoc 6)) aNil)))
 bNil) bNil)
 (bCons (sExpr (pMeth "list" F_append (pSub (pLoc 2) (pSub (pLoc 1) (pLoc 3))) (aCons (pTup (aCons (pBin oMod (pLoc 4) (pConst (.int 4))) (aCons (pLoc 5) aNil))) aNil)))
 bNil)))))
 bNil)
section
variable {H:List PObj}{R:PV→List PObj→Prop}
theorem rec_loop1 {wn hid:Nat}{hd:List Nat}{v3 v4 v5 v6:Option PV}{Q:PFlow→PS→Prop}(hh:H[hid]?=some (.list (natsV hd))) (hl:hd.length=5)
  (h:∀ ext v3,RB (H++ext) H.length hid (.list (natsV hd)) (fun k=>k∈hd) (fun _=>[])→(∀ es ep,(H++ext)[H.length]?=some (.dict es ep)→es.length≤5)→Q .next ⟨H++ext,[some (.ref wn),some (.ref hid),some (.ref H.length),v3,v4,v5,v6]⟩):
  Wp (sFor (pRangeIt (pConst (.int 5))) (setV 3) LB_law_recipes0) ⟨H++[.dict [] 0],[some (.ref wn),some (.ref hid),some (.ref H.length),v3,v4,v5,v6]⟩ Q:=by
 refine wp_sFor (wp_rangeIt (wp_const ⟨5,rfl,by decide,?_⟩))
 refine wp_forL_inv (fun n σ=>Ex2 fun ext v3=>A3 (σ=⟨H++ext,[some (.ref wn),some (.ref hid),some (.ref H.length),v3,v4,v5,v6]⟩) (RB (H++ext) H.length hid (.list (natsV hd)) (fun k=>k∈hd.take n) (fun _=>[])) (∀ es ep,(H++ext)[H.length]?=some (.dict es ep)→es.length≤n))
  (upto 5) (fun _ _ _=>trivial) ?_ ?_ 0 _ (Nat.zero_le _) ⟨[.dict [] 0],v3,rfl,⟨[],0,fun _=>0,fun _=>[],⟨at1a _,atl hh,Nat.ne_of_lt (low hh),fun k hk=>by simp at hk,fun k hk=>by simp at hk⟩⟩,fun es ep q=>by simp at q;simp[← q.1]⟩
 ·rintro n q σ hq ⟨ext,v3,rfl,hRB,hlen⟩
  obtain⟨hn,rfl⟩:=upto_get hq
  dsimp only[It.still]
  refine wp_setV ?_
  dsimp only[List.set_cons_succ,List.set_cons_zero]
  unfold LB_law_recipes0
  walk_at "s"
  rw[List.append_assoc]
  refine⟨_,item_nat (atl hh) (by exact Nat.lt_of_lt_of_eq hn (Eq.symm hl)) (by exact Nat.le_trans (Nat.le_of_eq hl) (by decide)),?_⟩
  refine gv fun _ gk=>?_
  obtain⟨es,ep,g1⟩:=hRB.dict
  refine gk ?_
  have hle:=hlen es ep g1
  have g1':(H++(ext++[PObj.list []]))[H.length]?=some (.dict es ep):=by rw[← List.append_assoc];exact atl g1
  refine⟨(H++(ext++[PObj.list []])).set H.length (.dict (dput es ((hd.getD n 0:Nat):Int) (.ref (H++ext).length)) (dep es ((hd.getD n 0:Nat):Int) ep)),?_,?_⟩
  ·simp only[putItem,g1']
   rw[if_pos (by lia)]
  walk_at "s"
  have lay:=RB.lay (ext:=[.list []]) (k:=hd.getD n 0) (l:=(H++ext).length) (rs:=[]) (pls:=[]) hRB g1 (Nat.le_refl _) rfl (at1a _) (fun j r pl q=>by simp at q) (fun pl q=>by simp at q) (dep es ((hd.getD n 0:Nat):Int) ep)
  have hset:(H++(ext++[PObj.list []])).set H.length (.dict (dput es ((hd.getD n 0:Nat):Int) (.ref (H++ext).length)) (dep es ((hd.getD n 0:Nat):Int) ep))=H++(ext++[PObj.list []]).set 0 (.dict (dput es ((hd.getD n 0:Nat):Int) (.ref (H++ext).length)) (dep es ((hd.getD n 0:Nat):Int) ep)):=by
   rw[List.set_append_right _ _ (Nat.le_refl _),Nat.sub_self]
  rw[List.append_assoc,hset] at lay
  rw[hset]
  refine⟨.inl rfl,_,_,rfl,lay.congr (fun k hk=>?_) (fun k=>by simp[upd]),fun es2 ep2 q2=>?_⟩
  ·rw[List.take_succ_eq_append_getElem (by exact Nat.lt_of_lt_of_eq hn (Eq.symm hl))] at hk
   rcases List.mem_append.mp hk with q | q
   ·exact .inl q
   ·simp at q;right;rw[q];simp[List.getD,List.getElem?_eq_getElem (show n<hd.length by exact Nat.lt_of_lt_of_eq hn (Eq.symm hl))]
  ·rw[← hset,List.getElem?_set_self (by simp)] at q2
   cases q2
   have:=dput_len es ((hd.getD n 0:Nat):Int) (.ref (H++ext).length)
   exact Nat.le_trans this (Nat.succ_le_succ hle)
 ·rintro σ ⟨ext,v3,rfl,hRB,hlen⟩
  rw[upto_len] at hRB hlen
  exact h _ _ (hRB.congr (fun k hk=>by rw[List.take_of_length_le (by exact Nat.le_of_eq hl)];exact hk) fun _=>rfl) hlen
end
open PySem PySem.W
noncomputable def price1 (n:Int):Nat:=(n.fmod 4).toNat
noncomputable def price2 (n:Int):Nat:=((n.fdiv 4).fmod 4).toNat
theorem price1_cast (n:Int):n.fmod 4=(price1 n:Int):=by
 unfold price1;rw[Int.fmod_eq_emod_of_nonneg _ (by decide)];lia
theorem price2_cast (n:Int):(n.fdiv 4).fmod 4=(price2 n:Int):=by
 unfold price2;rw[Int.fmod_eq_emod_of_nonneg _ (by decide)];lia
section
variable {H:List PObj}{R:PV→List PObj→Prop}
theorem rec_small {wn hid pl:Nat}{hd:List Nat}{z:Nat}{X:PObj}{L:Nat→Prop}{rec:Nat→List (Nat × List Nat)}{num:Int}{ext:List PObj}{v5 v6:Option PV}{Q:PFlow→PS→Prop}(hh:H[hid]?=some (.list (natsV hd))) (hl:hd.length=5) (hp:pl<2) (hRB:RB (H++ext) H.length z X L rec)
  (hlen:∀ es ep,(H++ext)[H.length]?=some (.dict es ep)→es.length≤100)
  (h:∀ ext',RB (H++ext') H.length z X L (upd rec (hd.getD pl 0) [(price1 num,[]),(price2 num,[])])→(∀ es ep,(H++ext')[H.length]?=some (.dict es ep)→∃ es0 ep0,(H++ext)[H.length]?=some (.dict es0 ep0)∧es.length≤es0.length+1)→Q .next ⟨H++ext',[some (.ref wn),some (.ref hid),some (.ref H.length),some (.int (pl:Int)),some (.int num),v5,v6]⟩):
  Wp LB_law_recipes1 ⟨H++ext,[some (.ref wn),some (.ref hid),some (.ref H.length),some (.int (pl:Int)),some (.int num),v5,v6]⟩ Q:=by
 unfold LB_law_recipes1
 repeat walk_at "p"
 refine⟨true,by simp[less];exact Int.ofNat_lt.mpr hp,fun _=>?_,fun hb=>absurd hb (by decide)⟩
 walk_at "s"
 rw[price1_cast,price2_cast]
 generalize hK:H++ext=K at*
 have l1:(K++[PObj.list []]).length=K.length+1:=by simp
 have l2:(K++[PObj.list []]++[PObj.list []]).length=K.length+2:=by simp
 rw[l1,l2]
 have e3:K++[PObj.list []]++[PObj.list []]++[PObj.list [PV.tup [PV.int (price1 num:Int),PV.ref K.length],PV.tup [PV.int (price2 num:Int),PV.ref (K.length+1)]]]=K++[PObj.list [],PObj.list [],PObj.list (recV [(price1 num,[]),(price2 num,[])] [K.length,K.length+1])]:=by simp[recV]
 rw[e3]
 have hh':K[hid]?=some (.list (natsV hd)):=by rw[← hK];exact atl hh
 refine Is.mk (item_nat (atl hh') (by exact Nat.lt_of_lt_of_eq (Nat.lt_add_left _ hp) (Eq.symm hl)) (by exact Nat.le_trans (Nat.le_of_eq hl) (by decide))) ?_
 refine gv fun _ gk=>?_
 obtain⟨es,ep,g1⟩:=hRB.dict
 refine gk ?_
 have hle:=hlen es ep g1
 have lay:=RB.lay (ext:=[PObj.list [],PObj.list [],PObj.list (recV [(price1 num,[]),(price2 num,[])] [K.length,K.length+1])]) (k:=hd.getD pl 0) (l:=K.length+2) (rs:=[(price1 num,[]),(price2 num,[])]) (pls:=[K.length,K.length+1]) hRB g1 (by exact Nat.le_add_right _ _) rfl (by simp) (fun j r p q1 q2=>by
  match j with
  | 0=>simp at q1 q2;subst q1 q2;simp[partsV]
  | 1=>simp at q1 q2;subst q1 q2;simp[partsV]
  | j+2=>simp at q1) (fun p q=>by simp at q;lia) (dep es ((hd.getD pl 0:Nat):Int) ep)
 refine⟨(K++[PObj.list [],PObj.list [],PObj.list (recV [(price1 num,[]),(price2 num,[])] [K.length,K.length+1])]).set H.length (.dict (dput es ((hd.getD pl 0:Nat):Int) (.ref (K.length+2))) (dep es ((hd.getD pl 0:Nat):Int) ep)),?_,?_⟩
 ·simp only[putItem,atl g1]
  rw[if_pos (by exact Nat.le_trans hle (by decide))]
 walk_at "s"
 have hset:∀ Z:PObj,(K++[PObj.list [],PObj.list [],PObj.list (recV [(price1 num,[]),(price2 num,[])] [K.length,K.length+1])]).set H.length Z=H++(ext++[PObj.list [],PObj.list [],PObj.list (recV [(price1 num,[]),(price2 num,[])] [K.length,K.length+1])]).set 0 Z:=fun Z=>by
  rw[← hK,List.append_assoc,List.set_append_right _ _ (Nat.le_refl _),Nat.sub_self]
 have hHK:H.length<K.length:=(List.getElem?_eq_some_iff.mp g1).1
 rw[hset] at lay
 rw[hset]
 refine h _ (lay.congr (fun k q=>.inl q) fun _=>rfl) fun es2 ep2 q2=>?_
 rw[← hset,List.getElem?_set_self (by simp;exact Nat.lt_add_right _ hHK)] at q2
 cases q2
 exact⟨es,ep,g1,dput_len ..⟩
end
open PySem PySem.W
noncomputable def partA (n:Int) (pl:Nat):Nat:=((n.fdiv 4).fmod (pl:Int)).toNat
noncomputable def partB (n:Int) (pl:Nat):Nat:=((n.fdiv (4*(pl:Int))).fmod ((pl:Int)+1)).toNat
noncomputable def partsN (hd:List Nat) (n:Int) (pl:Nat):List Nat:=hd.getD (partA n pl) 0::(if partB n pl<pl then[hd.getD (partB n pl) 0] else[])
theorem partA_cast (n:Int) {pl:Nat}(h:0<pl):(n.fdiv 4).fmod (pl:Int)=(partA n pl:Int)∧partA n pl<pl:=by
 unfold partA
 rw[Int.fmod_eq_emod_of_nonneg _ (by exact Int.natCast_nonneg _)]
 have:=Int.emod_nonneg (n.fdiv 4) (show(pl:Int)≠0 by exact Int.ne_of_gt (Int.ofNat_lt.mpr h))
 have:=Int.emod_lt_of_pos (n.fdiv 4) (show(0:Int)<pl by exact Int.ofNat_lt.mpr h)
 lia
theorem partB_cast (n:Int) (pl:Nat):(n.fdiv (4*(pl:Int))).fmod ((pl:Int)+1)=(partB n pl:Int)∧partB n pl≤pl:=by
 unfold partB
 rw[Int.fmod_eq_emod_of_nonneg _ (by lia)]
 have:=Int.emod_nonneg (n.fdiv (4*(pl:Int))) (show((pl:Int)+1)≠0 by lia)
 have:=Int.emod_lt_of_pos (n.fdiv (4*(pl:Int))) (show(0:Int)<(pl:Int)+1 by exact Int.lt_add_one_of_le (Int.natCast_nonneg _))
 lia
section
variable {H:List PObj}{R:PV→List PObj→Prop}
noncomputable def LB_recC:PM PFlow:=(bCons (sExpr (pMeth "list" F_append (pSub (pLoc 2) (pSub (pLoc 1) (pLoc 3))) (aCons (pTup (aCons (pBin oMod (pLoc 4) (pConst (.int 4))) (aCons (pLoc 5) aNil))) aNil))) bNil)
theorem rec_last {wn hid pl p5:Nat}{hd ps:List Nat}{z:Nat}{X:PObj}{L:Nat→Prop}{rec:Nat→List (Nat × List Nat)}{num:Int}{ext e2:List PObj}{v6:Option PV}{Q:PFlow→PS→Prop}(hh:H[hid]?=some (.list (natsV hd))) (hl:hd.length=5) (hp5:pl<5) (hRB:RB (H++ext) H.length z X L rec) (hL:L (hd.getD pl 0)) (hrl:(rec (hd.getD pl 0)).length≤100)
  (hge:(H++ext).length≤p5) (hps:(H++ext++e2)[p5]?=some (.list (partsV ps)))
  (h:∀ ext',RB (H++ext') H.length z X L (upd rec (hd.getD pl 0) (rec (hd.getD pl 0)++[(price1 num,ps)]))→(∀ es ep,(H++ext')[H.length]?=some (.dict es ep)→(H++ext)[H.length]?=some (.dict es ep))→Q .next ⟨H++ext',[some (.ref wn),some (.ref hid),some (.ref H.length),some (.int (pl:Int)),some (.int num),some (.ref p5),v6]⟩):
  Wp LB_recC ⟨H++ext++e2,[some (.ref wn),some (.ref hid),some (.ref H.length),some (.int (pl:Int)),some (.int num),some (.ref p5),v6]⟩ Q:=by
 refine gv fun _ gk=>?_
 obtain⟨l,xs,es,ep,g1,g2,g3,g4,gd,g5⟩:=hRB.add hL
 refine gk ?_
 unfold LB_recC
 walk_at "s"
 refine Is.mk (item_nat (atl (atl hh)) (by exact Nat.lt_of_lt_of_eq hp5 (Eq.symm hl)) (by exact Nat.le_trans (Nat.le_of_eq hl) (by decide))) ?_
 refine⟨.ref l,by simp only[itemOf,atl g1,g2],?_⟩
 refine⟨kind_at (atl g3),?_⟩
 walk_at "s"
 refine fw_append_at (atl g3) (by exact Nat.le_trans (Nat.le_of_eq g4) (Nat.le_trans hrl (by decide))) ?_
 rw[price1_cast]
 walk_at "s"
 have hb:=g5 e2 (price1 num) ps p5 hge hps
 have hne:l≠H.length:=fun z=>by rw[z,g1] at g3;exact nomatch g3
 have hlt:H.length<(H++ext).length:=(List.getElem?_eq_some_iff.mp g1).1
 by_cases hlH:l<H.length
 ·exact absurd (Nat.le_of_lt hlH) (Nat.not_le_of_gt gd)
 ·have hset:∀ Z:PObj,(H++ext++e2).set l Z=H++(ext++e2).set (l - H.length) Z:=fun Z=>by
   rw[List.append_assoc,List.set_append_right _ _ (by exact Nat.le_of_lt gd)]
  rw[hset] at hb ⊢
  refine h _ hb fun es2 ep2 q=>?_
  rw[← hset,List.getElem?_set_ne hne,atl g1] at q
  rw[g1];exact q
theorem rec_big {wn hid pl:Nat}{hd:List Nat}{z:Nat}{X:PObj}{L:Nat→Prop}{rec:Nat→List (Nat × List Nat)}{num:Int}{ext:List PObj}{v5 v6:Option PV}{Q:PFlow→PS→Prop}(hh:H[hid]?=some (.list (natsV hd))) (hl:hd.length=5) (hp:2≤pl) (hp5:pl<5) (hRB:RB (H++ext) H.length z X L rec) (hL:L (hd.getD pl 0)) (hrl:(rec (hd.getD pl 0)).length≤100)
  (h:∀ ext' v5 v6,RB (H++ext') H.length z X L (upd rec (hd.getD pl 0) (rec (hd.getD pl 0)++[(price1 num,partsN hd num pl)]))→(∀ es ep,(H++ext')[H.length]?=some (.dict es ep)→(H++ext)[H.length]?=some (.dict es ep))→Q .next ⟨H++ext',[some (.ref wn),some (.ref hid),some (.ref H.length),some (.int (pl:Int)),some (.int num),v5,v6]⟩):
  Wp LB_law_recipes1 ⟨H++ext,[some (.ref wn),some (.ref hid),some (.ref H.length),some (.int (pl:Int)),some (.int num),v5,v6]⟩ Q:=by
 show Wp (bCons (sIf _ _ (bCons _ (bCons _ (bCons _ LB_recC)))) _) _ _
 repeat walk_at "p"
 refine⟨false,by simp[less];exact Int.ofNat_le.mpr hp,fun hb=>absurd hb (by decide),fun _=>?_⟩
 obtain⟨ea,la⟩:=partA_cast num (pl:=pl) (by exact Nat.lt_of_lt_of_le (Nat.succ_pos _) hp)
 obtain⟨eb,lb⟩:=partB_cast num pl
 walk_at "s"
 refine⟨by lia,?_⟩
 rw[ea]
 refine Is.mk (item_nat (atl hh) (by exact Nat.lt_of_lt_of_eq (Nat.lt_trans la hp5) (Eq.symm hl)) (by exact Nat.le_trans (Nat.le_of_eq hl) (by decide))) ?_
 walk_at "s"
 refine⟨⟨by decide,?_⟩,?_⟩
 ·rw[Int.natAbs_natCast]
  exact Nat.lt_of_le_of_lt (show pl≤2 ^ 4 by exact Nat.le_of_lt (Nat.lt_of_lt_of_le hp5 (by decide))) (Nat.pow_lt_pow_right (by decide) (by decide))
 walk_at "s"
 refine⟨⟨by lia,by lia⟩,?_⟩
 walk_at "s"
 refine⟨by lia,?_⟩
 rw[eb]
 repeat walk_at "p"
 refine⟨decide (partB num pl<pl),by simp[less],fun hb=>?_,fun hb=>?_⟩
 ·have hlt:partB num pl<pl:=by simpa using hb
  walk_at "s"
  refine⟨kind_at (at1a _),?_⟩
  walk_at "s"
  refine Is.mk (item_nat (atl (atl hh)) (by exact Nat.lt_of_lt_of_eq (Nat.lt_of_le_of_lt lb hp5) (Eq.symm hl)) (by exact Nat.le_trans (Nat.le_of_eq hl) (by decide))) ?_
  walk_at "s"
  refine fw_append_at (at1a _) (by exact nle rfl) ?_
  rw[app1]
  walk_at "s"
  have ep:partsN hd num pl=[hd.getD (partA num pl) 0,hd.getD (partB num pl) 0]:=by simp[partsN,hlt]
  refine rec_last (ps:=partsN hd num pl) hh hl hp5 hRB hL hrl (Nat.le_refl _) (by rw[ep];exact at1a _) fun ext' a b=>?_
  walk_at "s"
  exact h ext' _ _ a b
 ·have hlt:¬ partB num pl<pl:=by simpa using hb
  walk_at "s"
  have ep:partsN hd num pl=[hd.getD (partA num pl) 0]:=by simp[partsN,hlt]
  refine rec_last (ps:=partsN hd num pl) hh hl hp5 hRB hL hrl (Nat.le_refl _) (by rw[ep];exact at1a _) fun ext' a b=>?_
  walk_at "s"
  exact h ext' _ _ a b
end
open PySem PySem.W
noncomputable def recStep (hd:List Nat) (rec:Nat→List (Nat × List Nat)) (x:Int × Nat):Nat→List (Nat × List Nat):=
 if x.2<2 then upd rec (hd.getD x.2 0) [(price1 x.1,[]),(price2 x.1,[])] else upd rec (hd.getD x.2 0) (rec (hd.getD x.2 0)++[(price1 x.1,partsN hd x.1 x.2)])
noncomputable def places:List Nat:=[0,1,2,2,3,3,4,4]
noncomputable def recsN (hd:List Nat) (xs:List (Int × Nat)):Nat→List (Nat × List Nat):=xs.foldl (recStep hd) fun _=>[]
theorem recs_len (hd:List Nat):∀(xs:List (Int × Nat)) (rec:Nat→List (Nat × List Nat)) (b:Nat),2≤b→(∀ k,(rec k).length≤b)→∀ k,(xs.foldl (recStep hd) rec k).length≤b+xs.length
 | [],rec,b,hb,h,k=>by exact h k
 | x::xs,rec,b,hb,h,k=>by
  have:=recs_len hd xs (recStep hd rec x) (b+1) (by exact Nat.le_succ_of_le hb) (fun j=>by
   have:=h j
   have:=h (hd.getD x.2 0)
   unfold recStep upd
   split
   ·dsimp only;split
    ·simp;exact Nat.le_of_lt (Nat.lt_of_succ_le hb)
    ·lia
   ·dsimp only;split
    ·simp only[List.length_append,List.length_singleton];exact Nat.succ_le_succ this
    ·lia) k
  simp only[List.foldl_cons,List.length_cons]
  lia
section
variable {H:List PObj}{R:PV→List PObj→Prop}
theorem zip_pl {ws:List Int}{i:Nat}{q:PV}(h:(zipT (ws.map .int) (natsV places))[i]?=some q):∃ n pl,(ws.zip places)[i]?=some (n,pl)∧q=.tup [.int n,.int ((pl:Nat):Int)]:=by
 obtain⟨a,b,h1,h2,rfl⟩:=zipT_get h
 rw[List.getElem?_map] at h1
 unfold natsV at h2
 rw[List.getElem?_map] at h2
 obtain⟨n,e1,rfl⟩:=Option.map_eq_some_iff.mp h1
 obtain⟨pl,e2,rfl⟩:=Option.map_eq_some_iff.mp h2
 exact⟨n,pl,by rw[List.getElem?_zip_eq_some];exact⟨e1,e2⟩,rfl⟩
theorem fw_recipes {wn hid:Nat}{ws:List Int}{hd:List Nat}(hw:H[wn]?=some (.list (ws.map .int))) (hwl:ws.length=8) (hh:H[hid]?=some (.list (natsV hd))) (hl:hd.length=5) (h5:∀ k,k<5→k∈hd)
  (h:∀ ext rc,Rcp (H++ext) rc (recsN hd (ws.zip places))→R (.ref rc) (H++ext)):Fw F_law_recipes [.ref wn,.ref hid] H R:=by
 refine fw_run (V0:=[some (.ref wn),some (.ref hid),none,none,none,none,none]) rfl ?_
 show Wp (bCons _ (bCons (sFor (pRangeIt (pConst (.int 5))) (setV 3) LB_law_recipes0) (bCons (sFor (pZipIt _ _) _ LB_law_recipes1) _))) _ _
 refine wp_bCons (wp_sSet (wp_dict0 ?_))
 dsimp only[List.set_cons_succ,List.set_cons_zero]
 refine wp_bCons (rec_loop1 hh hl fun ext v3 hRB hlen=>?_)
 refine wp_bCons (wp_sFor (wp_zipIt (wp_loc rfl (wp_list ?_))))
 repeat (first | (with_reducible refine wp_aCons ?_) | (with_reducible refine wp_const ?_) | (with_reducible refine wp_aNil ?_))
 refine⟨by exact nle rfl,?_⟩
 have hd0:H.length<(H++ext).length:=by obtain⟨es,ep,g1⟩:=hRB.dict;exact(List.getElem?_eq_some_iff.mp g1).1
 refine .of (p:=.still (zipT (ws.map .int) (natsV places)) fun K=>K[wn]?=some (.list (ws.map .int))∧K[(H++ext).length]?=some (.list (natsV places))) (σ':=⟨H++ext++[.list (natsV places)],_⟩) (by
  simp only[zipIt,atl (atl hw)]
  have:(H++ext++[PObj.list (natsV places)])[(H++ext).length]?=some (.list (natsV places)):=at1a _
  have e2:natsV places=[.int 0,.int 1,.int 2,.int 2,.int 3,.int 3,.int 4,.int 4]:=rfl
  rw[e2] at this ⊢
  rw[this]) ?_
 have hz:(zipT (ws.map .int) (natsV places)).length=8:=by simp[zipT,natsV,places,hwl]
 have hzz:(ws.zip places).length=8:=by simp[places,hwl]
 refine wp_forL_inv (fun n σ=>Ex5 fun ext' v3 v4 v5 v6=>A3 (σ=⟨H++ext',[some (.ref wn),some (.ref hid),some (.ref H.length),v3,v4,v5,v6]⟩) (RB (H++ext') H.length (H++ext).length (.list (natsV places)) (fun k=>k∈hd) (recsN hd ((ws.zip places).take n))) (∀ es ep,(H++ext')[H.length]?=some (.dict es ep)→es.length≤5+n))
  (zipT (ws.map .int) (natsV places)) ?_ ?_ ?_ 0 _ (Nat.zero_le _) ⟨ext++[.list (natsV places)],v3,_,_,_,by rw[List.append_assoc],?_,?_⟩
 ·intro n σ inv
  refine gv fun _ gk=>?_
  obtain⟨ext',v3,v4,v5,v6,hσ,hR,_⟩:=inv
  subst hσ
  refine gk ?_
  refine⟨atl hw,?_⟩
  exact hR.zat
 ·intro n q σ hq inv
  refine gv fun _ gk=>?_
  obtain⟨ext',v3,v4,v5,v6,hσ,hR,hle⟩:=inv
  subst hσ
  obtain⟨num,pl,hi,rfl⟩:=zip_pl hq
  have hn:n<8:=by have:=(List.getElem?_eq_some_iff.mp hi).1;exact Nat.lt_of_lt_of_eq this hzz
  have hpl:pl<5:=by
   have h2:=(List.getElem?_zip_eq_some.mp hi).2
   have:∀ x∈places,x<5:=by decide
   exact this _ (List.mem_of_getElem? h2)
  have et:recsN hd ((ws.zip places).take (n+1))=recStep hd (recsN hd ((ws.zip places).take n)) (num,pl):=by
   obtain⟨hh1,hh2⟩:=List.getElem?_eq_some_iff.mp hi
   unfold recsN
   rw[List.take_succ_eq_append_getElem hh1,List.foldl_append,hh2];rfl
  refine gk ?_
  dsimp only[It.still]
  refine wp_tupT (wp_setAll_cons (wp_setV (wp_setAll_cons (wp_setV (wp_setAll_nil ?_)))))
  dsimp only[List.set_cons_succ,List.set_cons_zero]
  rw[et]
  by_cases h2:pl<2
  ·refine rec_small hh hl h2 hR (fun es ep q=>Nat.le_trans (hle es ep q) (by lia)) fun ext2 a b=>⟨.inl rfl,ext2,_,_,_,_,rfl,?_,fun es ep q=>?_⟩
   ·simpa only[recStep,h2,if_true] using a
   ·obtain⟨es0,ep0,q0,q1⟩:=b es ep q
    have:=hle es0 ep0 q0
    exact Nat.le_trans q1 (Nat.succ_le_succ this)
  ·have hmem:hd.getD pl 0∈hd:=by simp[List.getD,List.getElem?_eq_getElem (show pl<hd.length by exact Nat.lt_of_lt_of_eq hpl (Eq.symm hl))]
   have hrl:=recs_len hd ((ws.zip places).take n) (fun _=>[]) 2 (by exact by decide) (fun _=>by exact nle rfl) (hd.getD pl 0)
   refine rec_big hh hl (by exact Nat.le_of_not_lt h2) hpl hR hmem (by unfold recsN;simp only[List.length_take] at hrl;lia) fun ext2 v5 v6 a b=>⟨.inl rfl,ext2,_,_,_,_,rfl,?_,fun es ep q=>?_⟩
   ·simpa only[recStep,h2,if_false] using a
   ·have:=hle es ep (b es ep q)
    exact Nat.le_succ_of_le this
 ·intro σ inv
  refine gv fun _ gk=>?_
  obtain⟨ext',v3,v4,v5,v6,hσ,hR,_⟩:=inv
  subst hσ
  rw[hz,List.take_of_length_le (by exact Nat.le_of_eq hzz)] at hR
  refine gk ?_
  refine wp_bCons (wp_sRet (wp_loc rfl ?_))
  exact h _ _ (hR.rcp h5)
 ·have:=hRB.watch (.list (natsV places))
  rw[List.append_assoc] at this
  exact this
 ·intro es ep q
  rw[← List.append_assoc,List.getElem?_append_left hd0] at q
  exact hlen es ep q
end
open PySem PySem.W
noncomputable def ins (ks:List Nat) (k:Nat):List Nat:=if k∈ks then ks else ks++[k]
theorem mem_ins {ks:List Nat}{k j:Nat}:j∈ins ks k↔j∈ks∨j=k:=by
 unfold ins
 split
 ·exact⟨.inl,fun h=>h.elim id fun e=>e▸‹_›⟩
 ·simp
theorem ins_len (ks:List Nat) (k:Nat):(ins ks k).length≤ks.length+1:=by unfold ins;split<;>simp
theorem ins_nodup {ks:List Nat}(h:ks.Nodup) (k:Nat):(ins ks k).Nodup:=by
 unfold ins
 split
 ·exact h
 ·rename_i hk
  exact List.nodup_append.mpr ⟨h,by simp,fun a ha b hb=>by have hb:=List.mem_singleton.mp hb;rw[hb];exact fun e=>hk (e▸ha)⟩
noncomputable def keyV (ks:List Nat) (nf:Nat→Nat):List (Int × PV):=ks.map fun(k:Nat)=>((k:Int),PV.ref (nf k))
theorem dget_key (nf:Nat→Nat) (k:Nat):∀ ks:List Nat,dget (keyV ks nf) (k:Int)=if k∈ks then some (.ref (nf k)) else none
 | []=>by rfl
 | j::ks=>by
  have ih:=dget_key nf k ks
  unfold keyV at ih ⊢
  rw[List.map_cons,dget_cons,ih]
  by_cases h:j=k
  ·rw[h];simp
  ·have h1:¬ ((j:Int)=(k:Int)):=by lia
   simp only[h1,if_false,List.mem_cons,Ne.symm h,false_or]
theorem dput_key {nf:Nat→Nat}{k n:Nat}{ks:List Nat}(h:k ∉ ks):dput (keyV ks nf) (k:Int) (.ref n)=keyV (ks++[k]) (upd nf k n):=by
 have e:keyV (ks++[k]) (upd nf k n)=keyV ks nf++[((k:Int),.ref n)]:=by
  unfold keyV
  rw[List.map_append]
  congr 1
  ·refine List.map_congr_left fun j hj=>?_
   have:j≠k:=fun z=>h (z▸hj)
   simp[upd,this]
  ·simp[upd]
 unfold dput
 rw[if_neg,e]
 intro q
 obtain⟨p,hp⟩:=dget_isSome q
 rw[dget_key,if_neg h] at hp
 exact nn hp
structure SG (K:List PObj) (s d:Nat) (r:PV) (pa fi:Int) (ks:List Nat) (nf sf:Nat→Nat) (np:Nat→Int) (sc:Nat→List Nat):Prop where
 hs:K[s]?=some (.sorter [some (.ref d),some r,some (.int pa),some (.int fi)])
 hd:∃ ep,K[d]?=some (.dict (keyV ks nf) ep)
 nd:ks.Nodup
 hn:∀ k∈ks,K[nf k]?=some (.node [some (.int (k:Int)),some (.int (np k)),some (.ref (sf k))])
 hl:∀ k∈ks,K[sf k]?=some (.list (natsV (sc k)))
 inj:∀ k∈ks,∀ k'∈ks,sf k=sf k'→k=k'
 lo:s<d∧∀ k∈ks,s<nf k∧s<sf k
 z:∀ k,k ∉ ks→np k=0∧sc k=[]
section
variable {K:List PObj}{s d:Nat}{r:PV}{pa fi:Int}{ks:List Nat}{nf sf:Nat→Nat}{np:Nat→Int}{sc:Nat→List Nat}
theorem SG.keeps {K':List PObj}(g:SG K s d r pa fi ks nf sf np sc) (h:∀ i o,K[i]?=some o→(i=s∨i=d∨∃ k∈ks,i=nf k∨i=sf k)→K'[i]?=some o):SG K' s d r pa fi ks nf sf np sc:=
 ⟨h _ _ g.hs (.inl rfl),let⟨ep,e⟩:=g.hd;⟨ep,h _ _ e (.inr (.inl rfl))⟩,g.nd,fun k hk=>h _ _ (g.hn k hk) (.inr (.inr ⟨k,hk,.inl rfl⟩)),fun k hk=>h _ _ (g.hl k hk) (.inr (.inr ⟨k,hk,.inr rfl⟩)),g.inj,g.lo,g.z⟩
theorem SG.app (g:SG K s d r pa fi ks nf sf np sc) (ext:List PObj):SG (K++ext) s d r pa fi ks nf sf np sc:=g.keeps fun i o e _=>atl e
theorem set_ne {i j:Nat}{o X:PObj}(h:K[j]?=some o) (hn:i≠j):(K.set i X)[j]?=some o:=by rw[List.getElem?_set_ne hn];exact h
theorem set_eq {i:Nat}{o X:PObj}(h:K[i]?=some o):(K.set i X)[i]?=some X:=List.getElem?_set_self (List.getElem?_eq_some_iff.mp h).1
theorem kind_ne {i j:Nat}{o o':PObj}(h:K[i]?=some o) (h':K[j]?=some o') (hn:o≠o'):i≠j:=fun e=>by subst e;rw[h] at h';obtain rfl:=sj h';exact hn rfl
theorem SG.nf_inj (g:SG K s d r pa fi ks nf sf np sc) {k k':Nat}(hk:k∈ks) (hk':k'∈ks) (h:nf k=nf k'):k=k':=by
 have a:=g.hn k hk
 rw[h,g.hn k' hk'] at a
 have a:=sj a
 lia
theorem SG.setnp (g:SG K s d r pa fi ks nf sf np sc) {k:Nat}(hk:k∈ks) (v:Int):SG (K.set (nf k) (.node [some (.int (k:Int)),some (.int v),some (.ref (sf k))])) s d r pa fi ks nf sf (upd np k v) sc:=by
 obtain⟨ep,e⟩:=g.hd
 refine⟨set_ne g.hs (kind_ne (g.hn k hk) g.hs (by simp)),⟨ep,set_ne e (kind_ne (g.hn k hk) e (by simp))⟩,g.nd,fun j hj=>?_,fun j hj=>set_ne (g.hl j hj) (kind_ne (g.hn k hk) (g.hl j hj) (by simp)),g.inj,g.lo,fun j hj=>?_⟩
 ·by_cases hjk:j=k
  ·rw[← hjk];simp only[upd,if_true];exact set_eq (g.hn j hj)
  ·simp only[upd,hjk,if_false]
   exact set_ne (g.hn j hj) fun q=>hjk (g.nf_inj hk hj q).symm
 ·have hjk:j≠k:=fun q=>hj (q▸hk)
  simp only[upd,hjk,if_false];exact g.z j hj
theorem SG.addsc (g:SG K s d r pa fi ks nf sf np sc) {k:Nat}(hk:k∈ks) (xs:List Nat):SG (K.set (sf k) (.list (natsV xs))) s d r pa fi ks nf sf np (upd sc k xs):=by
 obtain⟨ep,e⟩:=g.hd
 refine⟨set_ne g.hs (kind_ne (g.hl k hk) g.hs (by simp)),⟨ep,set_ne e (kind_ne (g.hl k hk) e (by simp))⟩,g.nd,fun j hj=>set_ne (g.hn j hj) (kind_ne (g.hl k hk) (g.hn j hj) (by simp)),fun j hj=>?_,g.inj,g.lo,fun j hj=>?_⟩
 ·by_cases hjk:j=k
  ·rw[← hjk];simp only[upd,if_true];exact set_eq (g.hl j hj)
  ·simp only[upd,hjk,if_false]
   exact set_ne (g.hl j hj) fun q=>hjk (g.inj k hk j hj q).symm
 ·have hjk:j≠k:=fun q=>hj (q▸hk)
  simp only[upd,hjk,if_false];exact g.z j hj
theorem SG.addk (g:SG K s d r pa fi ks nf sf np sc) {k:Nat}(hk:k ∉ ks) (ep:Nat):SG ((K++[PObj.node [some (.int (k:Int)),some (.int 0),some (.ref (K.length+1))],PObj.list []]).set d (.dict (keyV (ks++[k]) (upd nf k K.length)) ep)) s d r pa fi (ks++[k]) (upd nf k K.length) (upd sf k (K.length+1)) np sc:=by
 obtain⟨ep0,e⟩:=g.hd
 have hdl:=(List.getElem?_eq_some_iff.mp e).1
 have hsl:=(List.getElem?_eq_some_iff.mp g.hs).1
 have mem:∀ j,j∈ks++[k]→j=k∨(j≠k∧j∈ks):=fun j hj=>by
  by_cases q:j=k
  ·exact .inl q
  ·exact .inr ⟨q,by simpa[q] using hj⟩
 refine⟨set_ne (atl g.hs) (kind_ne e g.hs (by simp)),⟨ep,set_eq (atl e)⟩,?_,fun j hj=>?_,fun j hj=>?_,fun j hj j' hj'=>?_,⟨g.lo.1,fun j hj=>?_⟩,fun j hj=>g.z j fun q=>hj (List.mem_append_left _ q)⟩
 ·have:=ins_nodup g.nd k
  rwa [ins,if_neg hk] at this
 ·rcases mem j hj with rfl | ⟨q,hj⟩
  ·simp only[upd,if_true,(g.z j hk).1]
   exact set_ne (by simp) (by exact Nat.ne_of_lt hdl)
  ·simp only[upd,q,if_false]
   exact set_ne (atl (g.hn j hj)) (kind_ne e (g.hn j hj) (by simp))
 ·rcases mem j hj with rfl | ⟨q,hj⟩
  ·simp only[upd,if_true,(g.z j hk).2]
   exact set_ne (by simp[natsV]) (by exact Nat.ne_of_lt (Nat.lt_succ_of_lt hdl))
  ·simp only[upd,q,if_false]
   exact set_ne (atl (g.hl j hj)) (kind_ne e (g.hl j hj) (by simp))
 ·rcases mem j hj with rfl | ⟨q,hj2⟩<;>rcases mem j' hj' with rfl | ⟨q',hj2'⟩
  ·exact fun _=>rfl
  ·simp only[upd,if_true,q',if_false]
   have:=(List.getElem?_eq_some_iff.mp (g.hl j' hj2')).1
   lia
  ·simp only[upd,if_true,q,if_false]
   have:=(List.getElem?_eq_some_iff.mp (g.hl j hj2)).1
   exact Nat.ne_of_lt (Nat.lt_succ_of_lt this)
  ·simp only[upd,q,q',if_false]
   exact g.inj j hj2 j' hj2'
 ·rcases mem j hj with rfl | ⟨q,hj⟩
  ·simp only[upd,if_true];exact And.intro hsl (Nat.lt_succ_of_lt hsl)
  ·simp only[upd,q,if_false];exact g.lo.2 j hj
end
section
variable {K:List PObj}{V:List (Option PV)}{s d:Nat}{r:PV}{pa fi:Int}{ks:List Nat}{nf sf:Nat→Nat}{np:Nat→Int}{sc:Nat→List Nat}{R:PV→List PObj→Prop}
theorem wp_sfld {j i:Nat}{fs:List (Option PV)}{q:PV}{Q:PV→PS→Prop}(h:K[i]?=some (.sorter fs)) (hj:fs[j]?=some (some q)) (hp:q.plain=true) (hQ:Q q ⟨K,V⟩):Wp (sorterFld j (.ref i)) ⟨K,V⟩ Q:=⟨q,⟨K,V⟩,by simp only[sorterFld,h,hj,hp,if_true],hQ⟩
theorem wp_nfld {j i:Nat}{fs:List (Option PV)}{q:PV}{Q:PV→PS→Prop}(h:K[i]?=some (.node fs)) (hj:fs[j]?=some (some q)) (hp:q.plain=true) (hQ:Q q ⟨K,V⟩):Wp (nodeFld j (.ref i)) ⟨K,V⟩ Q:=⟨q,⟨K,V⟩,by simp only[nodeFld,h,hj,hp,if_true],hQ⟩
theorem sput_at {j i:Nat}{fs:List (Option PV)}{v:PV}(h:K[i]?=some (.sorter fs)) (hj:j<fs.length):sorterPut j (.ref i) v K=some (K.set i (.sorter (fs.set j (some v)))):=by simp only[sorterPut,h,hj,if_true]
theorem nput_at {j i:Nat}{fs:List (Option PV)}{v:PV}(h:K[i]?=some (.node fs)) (hj:j<fs.length∧j<3):nodePut j (.ref i) v K=some (K.set i (.node (fs.set j (some v)))):=by simp only[nodePut,h,hj.1,hj.2,and_self,if_true]
theorem isS_at {i:Nat}{fs:List (Option PV)}(h:K[i]?=some (.sorter fs)):isSorter (.ref i) ⟨K,V⟩=some ((),⟨K,V⟩):=by simp only[isSorter,h]
theorem fw_get {i:Nat}{k:Int}{es:List (Int × PV)}{ep:Nat}(h:K[i]?=some (.dict es ep)) (hR:R ((dget es k).getD .none) K):Fw F_get [.ref i,.int k] K R:=⟨_,_,by simp only[F_get,getIn,h],hR⟩
theorem kind_at_dict {i:Nat}{es:List (Int × PV)}{ep:Nat}(h:K[i]?=some (.dict es ep)):kindOfP K (.ref i)=some "dict":=by simp only[kindOfP,h]
theorem fw_make {new:PObj}{F:PF}{ps:List PV}(h:Fw F (.ref K.length::ps) (K++[new]) fun p K'=>p=.none∧R (.ref K.length) K'):Fw (F_make new F) ps K R:=by
 refine gv fun _ gk=>?_
 obtain⟨p,K',e,rfl,q⟩:=h
 refine gk ?_
 exact⟨_,_,by simp only[F_make,e],q⟩
theorem fw_nodeinit {k:Int}(h:R .none (K++[PObj.node [some (.int k),some (.int 0),some (.ref (K.length+1))],PObj.list []])):Fw F_node_init [.ref K.length,.int k] (K++[PObj.node [none,none,none]]) R:=by
 refine fw_run (V0:=[some (.ref K.length),some (.int k)]) rfl ?_
 unfold B_node_init
 walk_at "s"
 refine Is.mk (nput_at (at1a _) (by exact⟨nlt rfl,nlt rfl⟩)) ?_
 dsimp only[List.set_cons_succ,List.set_cons_zero]
 rw[app1]
 walk_at "s"
 refine Is.mk (nput_at (at1a _) (by exact⟨nlt rfl,nlt rfl⟩)) ?_
 dsimp only[List.set_cons_succ,List.set_cons_zero]
 rw[app1]
 walk_at "s"
 refine Is.mk (nput_at (atl (at1a _)) (by exact⟨nlt rfl,nlt rfl⟩)) ?_
 dsimp only[List.set_cons_succ,List.set_cons_zero]
 walk_at "s"
 simpa using h
end
open PySem PySem.W
section
variable {K:List PObj}{V:List (Option PV)}{s d:Nat}{r:PV}{pa fi:Int}{ks:List Nat}{nf sf:Nat→Nat}{np:Nat→Int}{sc:Nat→List Nat}{R:PV→List PObj→Prop}
theorem set_lt {i j:Nat}{X:PObj}(h:j<i):(K.set i X)[j]?=K[j]?:=List.getElem?_set_ne (by exact Nat.ne_of_gt h)
theorem app_lt {i:Nat}{ext:List PObj}(h:i<K.length):(K++ext)[i]?=K[i]?:=List.getElem?_append_left h
theorem SG.sl (g:SG K s d r pa fi ks nf sf np sc):s<K.length:=(List.getElem?_eq_some_iff.mp g.hs).1
theorem fw_gni {k:Nat}(g:SG K s d r pa fi ks nf sf np sc) (hks:ks.length≤900) (h:∀ K' nf' sf',SG K' s d r pa fi (ins ks k) nf' sf' np sc→(∀ i,i<s→K'[i]?=K[i]?)→R (.ref (nf' k)) K'):Fw F_get_nodeinfo [.ref s,.int (k:Int)] K R:=by
 refine fw_run (V0:=[some (.ref s),some (.int k),none]) rfl ?_
 obtain⟨ep,e⟩:=g.hd
 unfold B_get_nodeinfo
 repeat walk_at "p"
 refine wp_sfld g.hs rfl rfl ?_
 refine⟨kind_at_dict e,?_⟩
 repeat walk_at "p"
 refine fw_get e ?_
 rw[dget_key]
 by_cases hk:k∈ks
 ·rw[if_pos hk]
  walk_at "s"
  have:=h K nf sf (by rw[ins,if_pos hk];exact g) fun _ _=>rfl
  exact this
 ·rw[if_neg hk]
  walk_at "s"
  refine fw_make (fw_nodeinit ⟨rfl,?_⟩)
  repeat walk_at "p"
  refine wp_sfld (atl g.hs) rfl rfl ?_
  repeat walk_at "p"
  refine wp_pPut ⟨_,by simp only[putItem,atl e];rw[if_pos (by simp[keyV];exact Nat.le_trans hks (by decide)),dput_key hk],?_⟩
  walk_at "s"
  have g':=g.addk hk (dep (keyV ks nf) (k:Int) ep)
  have:=h _ (upd nf k K.length) (upd sf k (K.length+1)) (by rw[ins,if_neg hk];exact g') fun i hi=>by
   have:=g.lo.1
   have:=g.sl
   rw[set_lt (by lia),app_lt (by exact Nat.lt_trans hi this)]
  simpa[upd] using this
end
open PySem PySem.W
noncomputable def LB_add_0:PM PFlow:=(bCons (sSet 5 (pMethS F_get_nodeinfo (pLoc 0) (aCons (pLoc 4) aNil)))
 (bCons (sExpr (pMeth "list" F_append (pAttr (nodeFld 2) (pLoc 5)) (aCons (pLoc 1) aNil)))
 bNil))
noncomputable def addsc (k:Nat) (sc:Nat→List Nat) (p:Nat):Nat→List Nat:=upd sc p (sc p++[k])
theorem addsc_len (k:Nat):∀(ps:List Nat) (sc:Nat→List Nat) (p:Nat),(ps.foldl (addsc k) sc p).length≤(sc p).length+ps.length
 | [],sc,p=>by simp
 | q::ps,sc,p=>by
  have:=addsc_len k ps (addsc k sc q) p
  have h2:(addsc k sc q p).length≤(sc p).length+1:=by unfold addsc upd;split<;>simp_all
  simp only[List.foldl_cons,List.length_cons]
  lia
theorem ins_fold_len:∀(ps ks:List Nat),(ps.foldl ins ks).length≤ks.length+ps.length
 | [],ks=>by simp
 | p::ps,ks=>by
  have:=ins_fold_len ps (ins ks p)
  have:=ins_len ks p
  simp only[List.foldl_cons,List.length_cons]
  lia
theorem mem_ins_fold {j:Nat}:∀ {ps ks:List Nat},j∈ps.foldl ins ks↔j∈ks∨j∈ps
 | [],ks=>by simp
 | p::ps,ks=>by
  rw[List.foldl_cons,mem_ins_fold,mem_ins,List.mem_cons,or_assoc]
section
variable {K:List PObj}{V:List (Option PV)}{s d:Nat}{r:PV}{pa fi:Int}{ks:List Nat}{nf sf:Nat→Nat}{np:Nat→Int}{sc:Nat→List Nat}{R:PV→List PObj→Prop}
theorem it_tup (K:List PObj) (xs:List PV):itOf K (.tup xs)=some (.still xs fun _=>True):=rfl
theorem partsV_get {ps:List Nat}{n:Nat}{q:PV}(h:(partsV ps)[n]?=some q):∃ hn:n<ps.length,q=.int ((ps[n]:Nat):Int):=by
 have hn:n<ps.length:=by have:=(List.getElem?_eq_some_iff.mp h).1;simpa[partsV] using this
 refine⟨hn,?_⟩
 unfold partsV at h
 rw[List.getElem?_map,List.getElem?_eq_getElem hn] at h
 exact(Option.some.inj h).symm
theorem fw_add_ {k:Nat}{ps:List Nat}(g:SG K s d .none 0 0 ks nf sf np sc) (hps:ps.length≤2) (hks:ks.length≤800) (hsc:∀ p,(sc p).length≤900)
  (h:∀ K' nf' sf',SG K' s d .none 0 0 (ps.foldl ins (ins ks k)) nf' sf' (upd np k (np k+(ps.length:Int))) (ps.foldl (addsc k) sc)→(∀ i,i<s→K'[i]?=K[i]?)→R .none K'):Fw F_add_ (.ref s::.int (k:Int)::partsV ps) K R:=by
 have hpl:(partsV ps).length=ps.length:=by simp[partsV]
 refine fw_run (V0:=[some (.ref s),some (.int k),some (.tup (partsV ps)),none,none,none]) (by
  unfold varB
  rw[if_pos (by simp only[List.length_cons];lia)];rfl) ?_
 show Wp (bCons _ (bCons _ (bCons _ (bCons (sFor _ _ LB_add_0) _)))) _ _
 repeat walk_at "p"
 refine wp_sfld g.hs rfl rfl ?_
 refine⟨true,rfl,fun hb=>absurd hb (by decide),fun _=>?_⟩
 repeat walk_at "p"
 refine⟨isS_at g.hs,?_⟩
 repeat walk_at "p"
 refine fw_gni g (by exact Nat.le_trans hks (by decide)) fun K1 nf1 sf1 g1 low1=>?_
 have hk1:k∈ins ks k:=mem_ins.mpr (.inr rfl)
 try dsimp only[List.set_cons_succ,List.set_cons_zero]
 repeat walk_at "p"
 refine wp_nfld (g1.hn k hk1) rfl rfl ?_
 repeat walk_at "p"
 refine⟨_,_,by simp only[F_len,lenOf];rw[if_pos (by exact Nat.lt_of_le_of_lt (Nat.le_of_eq hpl) (Nat.lt_of_le_of_lt hps (by decide)))],?_⟩
 refine⟨.int (np k+(ps.length:Int)),K1,_,by simp[augOf,oAdd,hpl],nput_at (g1.hn k hk1) (by exact⟨nlt rfl,nlt rfl⟩),?_⟩
 dsimp only[List.set_cons_succ,List.set_cons_zero]
 have g2:=g1.setnp hk1 (np k+(ps.length:Int))
 generalize hK2:K1.set (nf1 k) (.node [some (.int (k:Int)),some (.int (np k+(ps.length:Int))),some (.ref (sf1 k))])=K2 at g2
 have hlo:=g1.lo.2 k hk1
 have low2:∀ i,i<s→K2[i]?=K[i]?:=fun i hi=>by rw[← hK2,set_lt (by exact Nat.lt_trans hi hlo.1)];exact low1 i hi
 clear hK2
 refine wp_bCons (wp_sFor (wp_iter (wp_loc rfl ⟨_,it_tup _ _,?_⟩)))
 refine wp_forL_inv (fun n σ=>Ex5 fun K' nf' sf' v4 v5=>σ=⟨K',[some (.ref s),some (.int k),some (.tup (partsV ps)),some (.ref (nf1 k)),v4,v5]⟩∧
   SG K' s d .none 0 0 ((ps.take n).foldl ins (ins ks k)) nf' sf' (upd np k (np k+(ps.length:Int))) ((ps.take n).foldl (addsc k) sc)∧(∀ i,i<s→K'[i]?=K[i]?))
  (partsV ps) (fun _ _ _=>trivial) ?_ ?_ 0 _ (Nat.zero_le _) ⟨_,_,_,_,_,rfl,g2,low2⟩
 ·rintro n q σ hq ⟨K',nf',sf',v4,v5,rfl,g3,low3⟩
  obtain⟨hn,rfl⟩:=partsV_get hq
  have et:ps.take (n+1)=ps.take n++[ps[n]]:=List.take_succ_eq_append_getElem hn
  dsimp only[It.still]
  refine wp_setV ?_
  dsimp only[List.set_cons_succ,List.set_cons_zero]
  unfold LB_add_0
  repeat walk_at "p"
  refine⟨isS_at g3.hs,?_⟩
  repeat walk_at "p"
  have l1:=ins_fold_len (ps.take n) (ins ks k)
  have l2:=ins_len ks k
  have l3:=addsc_len k (ps.take n) sc ps[n]
  have l4:=hsc ps[n]
  rw[List.length_take] at l1 l3
  refine fw_gni g3 (by lia) fun K4 nf4 sf4 g4 low4=>?_
  try dsimp only[List.set_cons_succ,List.set_cons_zero]
  have hk4:ps[n]∈ins ((ps.take n).foldl ins (ins ks k)) ps[n]:=mem_ins.mpr (.inr rfl)
  repeat walk_at "p"
  refine wp_nfld (g4.hn _ hk4) rfl rfl ?_
  refine⟨kind_at (g4.hl _ hk4),?_⟩
  repeat walk_at "p"
  refine fw_append_at (g4.hl _ hk4) (by simp only[natsV,List.length_map];lia) ?_
  walk_at "p"
  have g5:=g4.addsc hk4 ((ps.take n).foldl (addsc k) sc ps[n]++[k])
  refine⟨.inl rfl,_,nf4,sf4,_,_,rfl,?_,fun i hi=>?_⟩
  ·rw[et,List.foldl_append,List.foldl_append]
   have:natsV ((ps.take n).foldl (addsc k) sc ps[n])++[PV.int (k:Int)]=natsV ((ps.take n).foldl (addsc k) sc ps[n]++[k]):=by simp[natsV]
   rw[this]
   exact g5
  ·rw[set_lt (by have:=g4.lo.2 _ hk4;exact Nat.lt_trans hi this.2),low4 i hi]
   exact low3 i hi
 ·rintro σ ⟨K',nf',sf',v4,v5,rfl,g3,low3⟩
  rw[hpl,List.take_length] at g3
  walk_at "s"
  exact h _ _ _ g3 low3
end
open PySem PySem.W
noncomputable def LB_law_least0:PM PFlow:=(bCons (sExpr (pMethS F_add_ (pLoc 1) (aCons (pLoc 2) (aStar (pLoc 4) aNil))))
 bNil)
noncomputable def LB_law_least1:PM PFlow:=(bCons (sFor (pIter (pSub (pLoc 0) (pLoc 2))) (tupT [(setV 3),(setV 4)]) LB_law_least0)
 bNil)
structure SL (L:List (Nat × List Nat)) (ks:List Nat) (np:Nat→Int) (sc:Nat→List Nat):Prop where
 mem:∀ j,j∈ks↔∃ x∈L,j=x.1∨j∈x.2
 npe:∀ j,np j=(((L.map fun x=>if x.1=j then x.2.length else 0).sum:Nat):Int)
 sce:∀ p,sc p=L.flatMap fun x=>List.replicate (x.2.count p) x.1
 len:ks.length≤3*L.length
 scl:∀ p,(sc p).length≤2*L.length
theorem addsc_fold (k:Nat):∀(ps:List Nat) (sc:Nat→List Nat) (p:Nat),ps.foldl (addsc k) sc p=sc p++List.replicate (ps.count p) k
 | [],sc,p=>by simp
 | q::ps,sc,p=>by
  rw[List.foldl_cons,addsc_fold k ps,List.count_cons]
  unfold addsc upd
  by_cases h:p=q
  ·subst h
   simp[List.replicate_succ]
  ·have:(q==p)=false:=by simpa using Ne.symm h
   simp[h,this]
theorem SL.add {L:List (Nat × List Nat)}{ks:List Nat}{np:Nat→Int}{sc:Nat→List Nat}(h:SL L ks np sc) (k:Nat) {ps:List Nat}(hps:ps.length≤2):SL (L++[(k,ps)]) (ps.foldl ins (ins ks k)) (upd np k (np k+(ps.length:Int))) (ps.foldl (addsc k) sc) where
 mem j:=by
  rw[mem_ins_fold,mem_ins,h.mem]
  constructor
  ·rintro((⟨x,hx,q⟩ | q) | q)
   ·exact⟨x,List.mem_append_left _ hx,q⟩
   ·exact⟨(k,ps),by simp,.inl q⟩
   ·exact⟨(k,ps),by simp,.inr q⟩
  ·rintro⟨x,hx,q⟩
   rcases List.mem_append.mp hx with hx | hx
   ·exact .inl (.inl ⟨x,hx,q⟩)
   ·have hx:=List.mem_singleton.mp hx;subst hx
    rcases q with q | q
    ·exact .inl (.inr q)
    ·exact .inr q
 npe j:=by
  rw[List.map_append,List.sum_append]
  unfold upd
  have:=h.npe j
  by_cases q:j=k
  ·subst q;simp;exact this
  ·have q2:¬ k=j:=fun z=>q z.symm
   simp[q,q2];exact this
 sce p:=by
  rw[addsc_fold,List.flatMap_append,h.sce];simp
 len:=by
  have:=ins_fold_len ps (ins ks k)
  have:=ins_len ks k
  have:=h.len
  simp;lia
 scl p:=by
  have:=addsc_len k ps sc p
  have:=h.scl p
  simp;lia
theorem SL.nil:SL [] [] (fun _=>0) (fun _=>[]):=⟨fun j=>by simp,fun j=>by simp,fun p=>by simp,by simp,fun p=>by simp⟩
noncomputable def addsOf (rec:Nat→List (Nat × List Nat)) (n:Nat):List (Nat × List Nat):=(List.range n).flatMap fun k=>(rec k).map fun r=>(k,r.2)
theorem adds_len {rec:Nat→List (Nat × List Nat)}(h:∀ k,k<5→(rec k).length≤2):∀ n,n≤5→(addsOf rec n).length≤2*n
 | 0,_=>by exact nle rfl
 | n+1,hn=>by
  have:=adds_len h n (by exact Nat.le_of_lt (Nat.lt_of_succ_le hn))
  have h2:=h n (by exact Nat.lt_of_succ_le hn)
  have:addsOf rec (n+1)=addsOf rec n++(rec n).map fun r=>(n,r.2):=by simp[addsOf,List.range_succ]
  rw[this];simp;lia
theorem Rcp.low {H K:List PObj}{rc:Nat}{rec:Nat→List (Nat × List Nat)}(h:Rcp H rc rec) (hl:∀ i,i<H.length→K[i]?=H[i]?):Rcp K rc rec:=by
 refine gv fun _ gk=>?_
 obtain⟨es,ep,h1,h2⟩:=h
 refine gk ?_
 have up:∀ {i o},H[i]?=some o→K[i]?=some o:=fun {i o} e=>by rw[hl _ (List.getElem?_eq_some_iff.mp e).1];exact e
 refine⟨es,ep,up h1,fun k hk=>?_⟩
 refine gv fun _ gk=>?_
 obtain⟨l,pls,a,b,c,d⟩:=h2 k hk
 refine gk ?_
 exact⟨l,pls,a,b,up c,fun j r pl q1 q2=>up (d j r pl q1 q2)⟩
section
variable {H:List PObj}{V:List (Option PV)}{R:PV→List PObj→Prop}
theorem recs_at {K:List PObj}{rc:Nat}{rec:Nat→List (Nat × List Nat)}(h:Rcp K rc rec) {k:Nat}(hk:k<5):∃ l pls,itemOf K (.ref rc) (.int (k:Int))=some (.ref l)∧pls.length=(rec k).length∧K[l]?=some (.list (recV (rec k) pls))∧∀(j:Nat) (hj:j<(rec k).length) q,(recV (rec k) pls)[j]?=some q→∃ pl,q=.tup [.int ((rec k)[j].1:Int),.ref pl]∧K[pl]?=some (.list (partsV (rec k)[j].2)):=by
 refine gv fun _ gk=>?_
 obtain⟨es,ep,h1,h2⟩:=h
 obtain⟨l,pls,a,b,c,d⟩:=h2 k hk
 refine gk ?_
 refine⟨l,pls,by simp only[itemOf,h1,a],b,c,fun j hj q hq=>?_⟩
 have hjp:j<pls.length:=by exact Nat.lt_of_lt_of_eq hj (Eq.symm b)
 unfold recV at hq
 rw[List.getElem?_zipWith,List.getElem?_eq_getElem hj,List.getElem?_eq_getElem hjp] at hq
 exact⟨pls[j],(Option.some.inj hq).symm,d j _ _ (List.getElem?_eq_getElem hj) (List.getElem?_eq_getElem hjp)⟩
theorem recV_len {rs:List (Nat × List Nat)}{pls:List Nat}(h:pls.length=rs.length):(recV rs pls).length=rs.length:=by unfold recV;rw[List.length_zipWith];lia
theorem Rcp.lt {rc:Nat}{rec:Nat→List (Nat × List Nat)}(hR:Rcp H rc rec):rc<H.length:=hR.elim fun _ q=>q.elim fun _ q=>Mine.Internal.low q.1
theorem item_low {K:List PObj}{i:Nat}{x:Int}(h:K[i]?=H[i]?):itemOf K (.ref i) (.int x)=itemOf H (.ref i) (.int x):=by simp only[itemOf,h]
theorem least_adds1 {rc d k:Nat}{rec:Nat→List (Nat × List Nat)}(hR:Rcp H rc rec) (hk:k<5) (h2:∀ k,k<5→(rec k).length≤2) (hO:RecOK rec) {K:List PObj}{L:List (Nat × List Nat)}(hL:L.length≤50) {ks:List Nat}{nf sf:Nat→Nat}{np:Nat→Int}{sc:Nat→List Nat}
  (g:SG K H.length d .none 0 0 ks nf sf np sc) (gl:SL L ks np sc) (low:∀ i,i<H.length→K[i]?=H[i]?) {v3 v4 v5 v6:Option PV}{Q:PFlow→PS→Prop}
  (h:∀ K' ks' nf' sf' np' sc' v3 v4,SG K' H.length d .none 0 0 ks' nf' sf' np' sc'→SL (L++(rec k).map fun r=>(k,r.2)) ks' np' sc'→(∀ i,i<H.length→K'[i]?=H[i]?)→Q .next ⟨K',[some (.ref rc),some (.ref H.length),some (.int (k:Int)),v3,v4,v5,v6]⟩):
  Wp (sFor (pIter (pSub (pLoc 0) (pLoc 2))) (tupT [(setV 3),(setV 4)]) LB_law_least0) ⟨K,[some (.ref rc),some (.ref H.length),some (.int (k:Int)),v3,v4,v5,v6]⟩ Q:=by
 obtain⟨l,pls,i1,i2,i3,i4⟩:=recs_at hR hk
 have hlen:=recV_len (rs:=rec k) i2
 have hl:=Mine.Internal.low i3
 refine wp_sFor (wp_iter (wp_sub (wp_loc rfl (wp_loc rfl (Is.mk ((item_low (low _ hR.lt)).trans i1) (Is.mk (it_list ((low l hl).trans i3)) ?_))))))
 refine wp_forL_inv (fun j σ=>Ex8 fun K' ks' nf' sf' np' sc' v3 v4=>A4 (σ=⟨K',[some (.ref rc),some (.ref H.length),some (.int (k:Int)),v3,v4,v5,v6]⟩) (SG K' H.length d .none 0 0 ks' nf' sf' np' sc') (SL (L++((rec k).take j).map fun r=>(k,r.2)) ks' np' sc') (∀ i,i<H.length→K'[i]?=H[i]?))
  (recV (rec k) pls) ?_ ?_ ?_ 0 _ (Nat.zero_le _) ⟨_,_,_,_,_,_,_,_,rfl,g,by simpa using gl,low⟩
 ·intro j σ inv
  refine gv fun _ gk=>?_
  obtain⟨K',ks',nf',sf',np',sc',v3,v4,hσ,g',gl',low'⟩:=inv
  subst hσ
  refine gk ?_
  exact(low' l hl).trans i3
 ·intro j q σ hq inv
  refine gv fun _ gk=>?_
  obtain⟨K',ks',nf',sf',np',sc',v3,v4,hσ,g',gl',low'⟩:=inv
  subst hσ
  have hj:j<(rec k).length:=by have:=(List.getElem?_eq_some_iff.mp hq).1;exact Nat.lt_of_lt_of_eq this hlen
  obtain⟨pl,rfl,hp⟩:=i4 j hj q hq
  obtain⟨o1,o2,o3⟩:=(hO k hk).2 (rec k)[j] (List.getElem_mem hj)
  have hp':=(low' pl (Mine.Internal.low hp)).trans hp
  refine gk ?_
  dsimp only[It.still]
  refine wp_tupT (wp_setAll_cons (wp_setV (wp_setAll_cons (wp_setV (wp_setAll_nil ?_)))))
  dsimp only[List.set_cons_succ,List.set_cons_zero]
  unfold LB_law_least0
  repeat walk_at "p"
  refine⟨isS_at g'.hs,?_⟩
  repeat walk_at "p"
  refine⟨_,by simp only[itemsOf,hp'];rw[if_pos (by simp only[partsV,List.length_map];exact Nat.le_trans o2 (by decide))],?_⟩
  walk_at "p"
  rw[List.append_nil]
  have hk2:=h2 k hk
  have l1:=gl'.len
  have l2:=gl'.scl
  simp only[List.length_append,List.length_map,List.length_take] at l1 l2
  refine fw_add_ g' o2 (by lia) (fun p=>by have:=l2 p;lia) fun K2 nf2 sf2 g2 low2=>?_
  walk_at "p"
  refine⟨.inl rfl,K2,_,nf2,sf2,_,_,_,_,rfl,g2,?_,fun i hi=>by rw[low2 i hi];exact low' i hi⟩
  rw[List.take_succ_eq_append_getElem hj,List.map_append,← List.append_assoc]
  exact gl'.add k o2
 ·intro σ inv
  refine gv fun _ gk=>?_
  obtain⟨K',ks',nf',sf',np',sc',v3,v4,hσ,g',gl',low'⟩:=inv
  subst hσ
  rw[hlen,List.take_length] at gl'
  refine gk ?_
  exact h _ _ _ _ _ _ _ _ g' gl' low'
theorem least_adds {rc d:Nat}{rec:Nat→List (Nat × List Nat)}(hR:Rcp H rc rec) (h2:∀ k,k<5→(rec k).length≤2) (hO:RecOK rec) {K:List PObj}{nf sf:Nat→Nat}
  (g:SG K H.length d .none 0 0 [] nf sf (fun _=>0) (fun _=>[])) (low:∀ i,i<H.length→K[i]?=H[i]?) {v2 v3 v4 v5 v6:Option PV}{Q:PFlow→PS→Prop}
  (h:∀ K' ks' nf' sf' np' sc' v2 v3 v4,SG K' H.length d .none 0 0 ks' nf' sf' np' sc'→SL (addsOf rec 5) ks' np' sc'→(∀ i,i<H.length→K'[i]?=H[i]?)→Q .next ⟨K',[some (.ref rc),some (.ref H.length),v2,v3,v4,v5,v6]⟩):
  Wp (sFor (pRangeIt (pConst (.int 5))) (setV 2) LB_law_least1) ⟨K,[some (.ref rc),some (.ref H.length),v2,v3,v4,v5,v6]⟩ Q:=by
 refine wp_sFor (wp_rangeIt (wp_const ⟨5,rfl,by decide,?_⟩))
 refine wp_forL_inv (fun n σ=>Ex9 fun K' ks' nf' sf' np' sc' v2 v3 v4=>A4 (σ=⟨K',[some (.ref rc),some (.ref H.length),v2,v3,v4,v5,v6]⟩) (SG K' H.length d .none 0 0 ks' nf' sf' np' sc') (SL (addsOf rec n) ks' np' sc') (∀ i,i<H.length→K'[i]?=H[i]?))
  (upto 5) (fun _ _ _=>trivial) ?_ ?_ 0 _ (Nat.zero_le _) ⟨_,_,_,_,_,_,_,_,_,rfl,g,SL.nil,low⟩
 ·intro n q σ hq inv
  refine gv fun _ gk=>?_
  obtain⟨K',ks',nf',sf',np',sc',v2,v3,v4,hσ,g',gl',low'⟩:=inv
  subst hσ
  obtain⟨hn,rfl⟩:=upto_get hq
  refine gk ?_
  dsimp only[It.still]
  refine wp_setV ?_
  dsimp only[List.set_cons_succ,List.set_cons_zero]
  have:=adds_len h2 n (by exact Nat.le_of_lt hn)
  refine wp_bCons (least_adds1 hR hn h2 hO (by lia) g' gl' low' fun K2 ks2 nf2 sf2 np2 sc2 v3 v4 g2 gl2 low2=>?_)
  walk_at "p"
  refine⟨.inl rfl,K2,ks2,nf2,sf2,np2,sc2,_,_,_,rfl,g2,?_,low2⟩
  have e:addsOf rec (n+1)=addsOf rec n++(rec n).map fun r=>(n,r.2):=by simp[addsOf,List.range_succ]
  rw[e];exact gl2
 ·intro σ inv
  refine gv fun _ gk=>?_
  obtain⟨K',ks',nf',sf',np',sc',v2,v3,v4,hσ,g',gl',low'⟩:=inv
  subst hσ
  rw[upto_len] at gl'
  refine gk ?_
  exact h _ _ _ _ _ _ _ _ _ g' gl' low'
theorem fw_sorter {K:List PObj}(h:R (.ref K.length) (K++[PObj.sorter [some (.ref (K.length+1)),some .none,some (.int 0),some (.int 0)],PObj.dict [] 0])):Fw F_TopologicalSorter [] K R:=by
 refine fw_make ?_
 refine fw_run (V0:=[some (.ref K.length),some .none,none,none]) rfl ?_
 unfold B_sorter_init
 walk_at "s"
 refine Is.mk (sput_at (atl (at1a _)) (by exact nle rfl)) ?_
 dsimp only[List.set_cons_succ,List.set_cons_zero]
 have e1:∀ X Y Z:PObj,(K++[X]++[Y]).set K.length Z=K++[Z,Y]:=fun X Y Z=>by simp
 have e2:∀ X Y Z:PObj,(K++[X,Y]).set K.length Z=K++[Z,Y]:=fun X Y Z=>by simp
 have l1:∀ X:PObj,(K++[X]).length=K.length+1:=fun X=>by simp
 rw[e1,l1]
 walk_at "s"
 refine Is.mk (sput_at (at2a _ _) (by exact nle rfl)) ?_
 dsimp only[List.set_cons_succ,List.set_cons_zero]
 rw[e2]
 walk_at "s"
 refine Is.mk (sput_at (at2a _ _) (by exact nle rfl)) ?_
 dsimp only[List.set_cons_succ,List.set_cons_zero]
 rw[e2]
 walk_at "s"
 refine Is.mk (sput_at (at2a _ _) (by exact nle rfl)) ?_
 dsimp only[List.set_cons_succ,List.set_cons_zero]
 rw[e2]
 walk_at "s"
 exact h
end
open PySem PySem.W
noncomputable def LT_find_cycle0:PM Bool:=(pTruth (pLoc 2))
noncomputable def LB_find_cycle0:PM PFlow:=(bCons (sTryNext 6 (pSub (pLoc 3) (pConst (.int (-1)))) (bCons (sDel (pLoc 5) (pMeth "list" F_pop (pLoc 2) aNil))
 (bCons (sExpr (pMeth "list" F_pop (pLoc 3) aNil))
 bNil)))
 bNil)
noncomputable def LT_find_cycle1:PM Bool:=(pTruth (pConst (.bool true)))
noncomputable def LC_find_cycle1:PM PFlow:=(bCons (whileM LT_find_cycle0 LB_find_cycle0 (bCons (ret .brk) bNil)) bNil)
noncomputable def LB_find_cycle1:PM PFlow:=(bCons (sIf (pIn (pLoc 6) (pLoc 4)) (bCons (sIf (pIn (pLoc 6) (pLoc 5)) fail bNil)
 bNil) (bCons (sExpr (pMeth "set" F_add (pLoc 4) (aCons (pLoc 6) aNil)))
 (bCons (sExpr (pMeth "list" F_append (pLoc 3) (aCons (pNextOf (pCall (.builtin "iter") F_iter (pConst (.const (.builtin "iter"))) (aCons (pAttr (nodeFld 2) (pSub (pLoc 1) (pLoc 6))) aNil))) aNil)))
 (bCons (sPut (pCall (.builtin "len") F_len (pConst (.const (.builtin "len"))) (aCons (pLoc 2) aNil)) (pLoc 5) (pLoc 6))
 (bCons (sExpr (pMeth "list" F_append (pLoc 2) (aCons (pLoc 6) aNil)))
 bNil)))))
 LC_find_cycle1)
structure Fr where
 v:Nat
 w:Nat
 it:Nat
 pos:Nat
noncomputable abbrev stV (stk:List Fr):List PV:=stk.map fun x=>.int (x.v:Int)
noncomputable abbrev stW (stk:List Fr):List PV:=stk.map fun x=>.ref x.w
structure FC (K0 K:List PObj) (ks:List Nat) (sf:Nat→Nat) (pl:Nat→Nat) (stk:List Fr) (seen:List Nat) (es:List (Int × PV)) (ep:Nat):Prop where
 low:∀ i,i<K0.length→K[i]?=K0[i]?
 ha:K[K0.length]?=some (.list (stV stk))
 hb:K[K0.length+1]?=some (.list (stW stk))
 hc:K[K0.length+2]?=some (.set (seen.map fun(k:Nat)=>(k:Int)))
 he:K[K0.length+3]?=some (.dict es ep)
 key:∀ k:Nat,(dget es (k:Int)).isSome=true↔∃ x∈stk,x.v=k
 esl:es.length≤seen.length
 stl:stk.length≤seen.length
 sl:seen.length+(ks.filter fun k=>decide (k ∉ seen)).length=ks.length
 fr:∀ x∈stk,K[x.w]?=some (.bnext (.ref x.it) 0)∧K[x.it]?=some (.liter (.ref (sf x.v)) x.pos)∧x.v∈ks∧K0.length≤x.it
 nd:(stk.map (·.it)).Nodup
 path:stk.Pairwise fun x y=>pl x.v<pl y.v
theorem dget_ddel (es:List (Int × PV)) (k k':Int):dget (ddel es k) k'=if k'=k then none else dget es k':=by
 induction es with
 | nil=>simp[ddel,dget]
 | cons e es ih=>
  unfold ddel at ih ⊢
  rw[List.filter_cons]
  by_cases h:e.1=k
  ·subst h
   have:decide (e.1≠e.1)=false:=by simp
   rw[this,if_neg (by decide),ih,dget_cons]
   by_cases h2:k'=e.1
   ·simp[h2]
   ·simp[h2,Ne.symm h2]
  ·have:decide (e.1≠k)=true:=by simp[h]
   rw[this,if_pos rfl,dget_cons,dget_cons,ih]
   by_cases h2:e.1=k'
   ·rw[← h2];simp[h]
   ·simp[h2]
theorem filt_less {ks seen:List Nat}{k:Nat}(hn:ks.Nodup) (hk:k∈ks) (hs:k ∉ seen):(ks.filter fun j=>decide (j ∉ seen++[k])).length+1=(ks.filter fun j=>decide (j ∉ seen)).length:=by
 have e:(ks.filter fun j=>decide (j ∉ seen++[k]))=(ks.filter fun j=>decide (j ∉ seen)).erase k:=by
  rw[List.Nodup.erase_eq_filter (hn.filter _),List.filter_filter]
  refine List.filter_congr fun i _=>?_
  by_cases h:i=k<;>simp[h]
 rw[e]
 have hm:k∈ks.filter fun j=>decide (j ∉ seen):=List.mem_filter.mpr ⟨hk,decide_eq_true hs⟩
 rw[List.length_erase_of_mem hm]
 exact Nat.sub_add_cancel (List.length_pos_of_mem hm)
section
variable {K0 K:List PObj}{V:List (Option PV)}{s d:Nat}{r:PV}{pa fi:Int}{ks:List Nat}{nf sf:Nat→Nat}{np:Nat→Int}{sc:Nat→List Nat}{pl:Nat→Nat}{R:PV→List PObj→Prop}
theorem FC.len {stk:List Fr}{seen:List Nat}{es:List (Int × PV)}{ep:Nat}(f:FC K0 K ks sf pl stk seen es ep):K0.length+3<K.length:=(List.getElem?_eq_some_iff.mp f.he).1
noncomputable abbrev fcPush (K:List PObj) (n l:Nat) (A B C E:PObj):List PObj:=((((K.set (n+2) C++[PObj.liter (.ref l) 0])++[PObj.bnext (.ref K.length) 0]).set (n+1) B).set (n+3) E).set n A
section
variable {n l i:Nat}{A B C E:PObj}
theorem lt_set {X:PObj}(h:i<K.length):i<(K.set n X).length:=by rw[List.length_set];exact h
theorem fcPush_old (h:i<K.length) (h0:i≠n) (h1:i≠n+1) (h2:i≠n+2) (h3:i≠n+3):(fcPush K n l A B C E)[i]?=K[i]?:=
 (List.getElem?_set_ne (Ne.symm h0)).trans ((List.getElem?_set_ne (Ne.symm h3)).trans ((List.getElem?_set_ne (Ne.symm h1)).trans ((app_lt (low_app (lt_set h))).trans ((app_lt (lt_set h)).trans (List.getElem?_set_ne (Ne.symm h2))))))
theorem fcPush_len (h:n+3<K.length):n+3<(K.set (n+2) C++[PObj.liter (.ref l) 0]++[PObj.bnext (.ref K.length) 0]).length:=low_app (low_app (lt_set h))
theorem fcPush_0 (h:n+3<K.length):(fcPush K n l A B C E)[n]?=some A:=set_at (lt_set (lt_set (Nat.lt_of_le_of_lt (Nat.le_add_right _ _) (fcPush_len h))))
theorem fcPush_3 (h:n+3<K.length):(fcPush K n l A B C E)[n+3]?=some E:=(List.getElem?_set_ne (Nat.ne_of_lt (Nat.lt_add_of_pos_right (by decide)))).trans (set_at (lt_set (fcPush_len h)))
theorem fcPush_1 (h:n+3<K.length):(fcPush K n l A B C E)[n+1]?=some B:=(List.getElem?_set_ne (Nat.ne_of_lt (Nat.lt_succ_self _))).trans ((List.getElem?_set_ne (Nat.ne_of_gt (Nat.add_lt_add_left (by decide) _))).trans (set_at (Nat.lt_of_le_of_lt (Nat.add_le_add_left (by decide) _) (fcPush_len h))))
theorem fcPush_2 (h:n+3<K.length):(fcPush K n l A B C E)[n+2]?=some C:=
 have h2:n+2<K.length:=Nat.lt_of_succ_lt h
 (List.getElem?_set_ne (Nat.ne_of_lt (Nat.lt_add_of_pos_right (by decide)))).trans ((List.getElem?_set_ne (Nat.ne_of_gt (Nat.lt_succ_self _))).trans ((List.getElem?_set_ne (Nat.ne_of_lt (Nat.lt_succ_self _))).trans ((app_lt (low_app (lt_set h2))).trans ((app_lt (lt_set h2)).trans (set_at h2)))))
theorem fcPush_far (h:n+3<i):(fcPush K n l A B C E)[i]?=(K.set (n+2) C++[PObj.liter (.ref l) 0]++[PObj.bnext (.ref K.length) 0])[i]?:=
 (List.getElem?_set_ne (Nat.ne_of_lt (Nat.lt_of_le_of_lt (Nat.le_add_right _ _) h))).trans ((List.getElem?_set_ne (Nat.ne_of_lt h)).trans (List.getElem?_set_ne (Nat.ne_of_lt (Nat.lt_of_le_of_lt (Nat.add_le_add_left (by decide) _) h))))
theorem fcPush_it (h:n+3<K.length):(fcPush K n l A B C E)[K.length]?=some (.liter (.ref l) 0):=by
 rw[fcPush_far h]
 have:=at1a (K:=K.set (n+2) C) (.liter (.ref l) 0)
 rw[List.length_set] at this
 exact atl this
theorem fcPush_w (h:n+3<K.length):(fcPush K n l A B C E)[K.length+1]?=some (.bnext (.ref K.length) 0):=by
 rw[fcPush_far (Nat.lt_succ_of_lt h)]
 have:=at1a (K:=K.set (n+2) C++[.liter (.ref l) 0]) (.bnext (.ref K.length) 0)
 rw[List.length_append,List.length_set] at this
 exact this
end
theorem last_mem {τ:Type}{x:τ}{xs:List τ}:x∈xs++[x]:=List.mem_append_right _ m0
theorem FC.push {stk:List Fr}{seen:List Nat}{es:List (Int × PV)}{ep:Nat}(f:FC K0 K ks sf pl stk seen es ep) (hnd:ks.Nodup) {k:Nat}(hk:k∈ks) (hs:k ∉ seen) (hp:∀ x∈stk,pl x.v<pl k) (q:PV) (ep':Nat):
  FC K0 (fcPush K K0.length (sf k) (.list (stV (stk++[⟨k,K.length+1,K.length,0⟩]))) (.list (stW (stk++[⟨k,K.length+1,K.length,0⟩]))) (.set ((seen++[k]).map fun(k:Nat)=>(k:Int))) (.dict (dput es (k:Int) q) ep')) ks sf pl (stk++[⟨k,K.length+1,K.length,0⟩]) (seen++[k]) (dput es (k:Int) q) ep':=by
 have hl:=f.len
 refine⟨fun i hi=>(fcPush_old (Nat.lt_of_lt_of_le (Nat.lt_add_right _ hi) (Nat.le_of_lt hl)) (Nat.ne_of_lt hi) (Nat.ne_of_lt (Nat.lt_succ_of_lt hi)) (Nat.ne_of_lt (Nat.lt_add_right _ hi)) (Nat.ne_of_lt (Nat.lt_add_right _ hi))).trans (f.low i hi),fcPush_0 hl,fcPush_1 hl,fcPush_2 hl,fcPush_3 hl,fun j=>?_,?_,?_,?_,fun x hx=>?_,?_,?_⟩
 ·rw[dget_dput]
  by_cases h:j=k
  ·rw[h];rw[if_pos rfl];exact⟨fun _=>⟨_,last_mem,rfl⟩,fun _=>rfl⟩
  ·rw[if_neg (show ¬ ((j:Int)=(k:Int)) from fun q=>h (Int.ofNat.inj q)),f.key]
   constructor
   ·rintro⟨x,hx,e⟩;exact⟨x,List.mem_append_left _ hx,e⟩
   ·rintro⟨x,hx,e⟩
    rcases List.mem_append.mp hx with hx | hx
    ·exact⟨x,hx,e⟩
    ·rw[in1 hx] at e;exact absurd e.symm h
 ·rw[List.length_append];exact Nat.le_trans (dput_len es (k:Int) q) (Nat.succ_le_succ f.esl)
 ·rw[List.length_append,List.length_append];exact Nat.succ_le_succ f.stl
 ·have:=f.sl
  have:=filt_less hnd hk hs
  simp only[List.length_append,List.length_singleton]
  lia
 ·rcases List.mem_append.mp hx with hx | hx
  ·refine gv fun _ gk=>?_
   obtain⟨a,b,c,e⟩:=f.fr x hx
   refine gk ?_
   exact⟨(fcPush_old (Mine.Internal.low a) (kind_ne a f.ha (tne rfl)) (kind_ne a f.hb (tne rfl)) (kind_ne a f.hc (tne rfl)) (kind_ne a f.he (tne rfl))).trans a,
    (fcPush_old (Mine.Internal.low b) (kind_ne b f.ha (tne rfl)) (kind_ne b f.hb (tne rfl)) (kind_ne b f.hc (tne rfl)) (kind_ne b f.he (tne rfl))).trans b,c,e⟩
  ·have hx:=in1 hx;rw[hx]
   exact⟨fcPush_w hl,fcPush_it hl,hk,Nat.le_trans (Nat.le_add_right _ _) (Nat.le_of_lt hl)⟩
 ·rw[List.map_append]
  refine List.nodup_append.mpr ⟨f.nd,.cons alln .nil,fun a ha b hb=>?_⟩
  have hb:=in1 hb;rw[hb]
  refine gv fun _ gk=>?_
  obtain⟨x,hx,rfl⟩:=List.mem_map.mp ha
  refine gk ?_
  have:=(List.getElem?_eq_some_iff.mp (f.fr x hx).2.1).1
  exact Nat.ne_of_lt this
 ·exact List.pairwise_append.mpr ⟨f.path,.cons alln .nil,fun x hx y hy=>in1 hy▸hp x hx⟩
theorem FC.step {stk:List Fr}{x:Fr}{seen:List Nat}{es:List (Int × PV)}{ep:Nat}(f:FC K0 K ks sf pl (stk++[x]) seen es ep):FC K0 (K.set x.it (.liter (.ref (sf x.v)) (x.pos+1))) ks sf pl (stk++[{x with pos:=x.pos+1}]) seen es ep:=by
 refine gv fun _ gk=>?_
 obtain⟨a,b,c,e⟩:=f.fr x last_mem
 refine gk ?_
 have lb:=(List.getElem?_eq_some_iff.mp b).1
 have nm:∀ y∈stk,y.it≠x.it:=fun y hy q=>by
  have:=f.nd
  rw[List.map_append,List.nodup_append] at this
  exact this.2.2 y.it (List.mem_map_of_mem hy) x.it m0 q
 refine⟨fun i hi=>by rw[List.getElem?_set_ne (by exact Nat.ne_of_gt (Nat.lt_of_lt_of_le hi e))];exact f.low i hi,?_,?_,set_ne f.hc (kind_ne b f.hc (by exact tne rfl)),set_ne f.he (kind_ne b f.he (by exact tne rfl)),fun k=>?_,f.esl,by have:=f.stl;simpa using this,f.sl,fun y hy=>?_,?_,?_⟩
 ·have:=set_ne (X:=.liter (.ref (sf x.v)) (x.pos+1)) f.ha (kind_ne b f.ha (by exact tne rfl))
  simpa using this
 ·have:=set_ne (X:=.liter (.ref (sf x.v)) (x.pos+1)) f.hb (kind_ne b f.hb (by exact tne rfl))
  simpa using this
 ·rw[f.key];simp
 ·rcases List.mem_append.mp hy with hy | hy
  ·refine gv fun _ gk=>?_
   obtain⟨a',b',c',e'⟩:=f.fr y (List.mem_append_left _ hy)
   refine gk ?_
   exact⟨set_ne a' (kind_ne b a' (by exact tne rfl)),set_ne b' (Ne.symm (nm y hy)),c',e'⟩
  ·have hy:=in1 hy;rw[hy]
   exact⟨set_ne a (kind_ne b a (by exact tne rfl)),List.getElem?_set_self lb,c,e⟩
 ·have:=f.nd
  simpa using this
 ·have:=f.path
  rw[List.pairwise_append] at this ⊢
  exact⟨this.1,.cons alln .nil,fun y hy z hz=>by rw[in1 hz];exact this.2.2 y hy x m0⟩
theorem FC.pop {stk:List Fr}{x:Fr}{seen:List Nat}{es:List (Int × PV)}{ep:Nat}(f:FC K0 K ks sf pl (stk++[x]) seen es ep) (ep':Nat):
  FC K0 ((((K.set x.it .dead).set K0.length (.list (stV stk))).set (K0.length+3) (.dict (ddel es (x.v:Int)) ep')).set (K0.length+1) (.list (stW stk))) ks sf pl stk seen (ddel es (x.v:Int)) ep':=by
 have hl:=f.len
 obtain⟨a,b,c,e⟩:=f.fr x last_mem
 have lb:=(List.getElem?_eq_some_iff.mp b).1
 have i0:=kind_ne b f.ha (by exact tne rfl)
 have i1:=kind_ne b f.hb (by exact tne rfl)
 have i2:=kind_ne b f.hc (by exact tne rfl)
 have i3:=kind_ne b f.he (by exact tne rfl)
 have nm:∀ y∈stk,y.it≠x.it:=fun y hy q=>by
  have:=f.nd
  rw[List.map_append,List.nodup_append] at this
  exact this.2.2 y.it (List.mem_map_of_mem hy) x.it m0 q
 have nv:∀ y∈stk,y.v≠x.v:=fun y hy q=>by
  have:=(List.pairwise_append.mp f.path).2.2 y hy x m0
  rw[q] at this;exact absurd this (Nat.lt_irrefl _)
 have old:∀(A B E:PObj) (i:Nat),i≠x.it→i≠K0.length→i≠K0.length+1→i≠K0.length+3→((((K.set x.it .dead).set K0.length A).set (K0.length+3) E).set (K0.length+1) B)[i]?=K[i]?:=fun A B E i h h0 h1 h3=>by
  rw[List.getElem?_set_ne (Ne.symm h1),List.getElem?_set_ne (Ne.symm h3),List.getElem?_set_ne (Ne.symm h0),List.getElem?_set_ne (Ne.symm h)]
 refine⟨fun i hi=>by rw[old _ _ _ i (by exact Nat.ne_of_lt (Nat.lt_of_lt_of_le hi e)) (by exact Nat.ne_of_lt hi) (by exact Nat.ne_of_lt (Nat.lt_succ_of_lt hi)) (by exact Nat.ne_of_lt (Nat.lt_add_right _ hi))];exact f.low i hi,?_,List.getElem?_set_self (by simp;lia),by rw[old _ _ _ _ (Ne.symm i2) (by lia) (by exact Nat.ne_of_gt (Nat.lt_succ_self _)) (by exact Nat.ne_of_lt (Nat.lt_succ_self _))];exact f.hc,?_,fun k=>?_,?_,?_,f.sl,fun y hy=>?_,?_,(List.pairwise_append.mp f.path).1⟩
 ·rw[List.getElem?_set_ne (by exact Nat.ne_of_gt (Nat.lt_succ_self _)),List.getElem?_set_ne (by lia)];exact List.getElem?_set_self (by simp;exact Nat.lt_of_le_of_lt e lb)
 ·rw[List.getElem?_set_ne (by exact Nat.ne_of_lt (Nat.add_lt_add_left (by decide) _))];exact List.getElem?_set_self (by simp;exact hl)
 ·rw[dget_ddel]
  by_cases h:k=x.v
  ·subst h
   simp only[if_true,Option.isSome_none,Bool.false_eq_true,false_iff]
   rintro⟨y,hy,q⟩
   exact nv y hy q
  ·have h':¬ ((k:Int)=(x.v:Int)):=fun q=>h (Int.ofNat.inj q)
   rw[if_neg h',f.key]
   constructor
   ·rintro⟨y,hy,q⟩
    rcases List.mem_append.mp hy with hy | hy
    ·exact⟨y,hy,q⟩
    ·have hy:=List.mem_singleton.mp hy;subst hy;exact absurd q.symm h
   ·rintro⟨y,hy,q⟩;exact⟨y,List.mem_append_left _ hy,q⟩
 ·exact Nat.le_trans (List.length_filter_le ..) f.esl
 ·have:=f.stl
  simp at this;exact Nat.le_of_lt (Nat.lt_of_succ_le this)
 ·obtain⟨a',b',c',e'⟩:=f.fr y (List.mem_append_left _ hy)
  exact⟨by rw[old _ _ _ _ (kind_ne a' b (by exact tne rfl)) (kind_ne a' f.ha (by exact tne rfl)) (kind_ne a' f.hb (by exact tne rfl)) (kind_ne a' f.he (by exact tne rfl))];exact a',
   by rw[old _ _ _ _ (nm y hy) (kind_ne b' f.ha (by exact tne rfl)) (kind_ne b' f.hb (by exact tne rfl)) (kind_ne b' f.he (by exact tne rfl))];exact b',c',e'⟩
 ·have:=f.nd
  rw[List.map_append,List.nodup_append] at this
  exact this.1
end
open PySem PySem.W
noncomputable def fm (sc:Nat→List Nat) (stk:List Fr):Nat:=(stk.map fun x=>(sc x.v).length - x.pos+1).sum
noncomputable abbrev fcV (s d n:Nat) (v6:Option PV):List (Option PV):=[some (.ref s),some (.ref d),some (.ref n),some (.ref (n+1)),some (.ref (n+2)),some (.ref (n+3)),v6]
section
variable {K0 K:List PObj}{V:List (Option PV)}{σ:PS}{s d:Nat}{r:PV}{pa fi:Int}{ks:List Nat}{nf sf:Nat→Nat}{np:Nat→Int}{sc:Nat→List Nat}{pl:Nat→Nat}{R:PV→List PObj→Prop}
theorem wp_tryNext {j:Nat}{f:PM PV}{hb:PM PFlow}{Q:PFlow→PS→Prop}(h:Wp f σ fun p σ1=>(∃ x σ',nextP p σ1=some (some x,σ')∧Q .brk (putV j x σ'))∨∃ σ',nextP p σ1=some (none,σ')∧Wp hb σ' Q):Wp (sTryNext j f hb) σ Q:=by
 refine Wp.seq (h.mono fun p σ1 h1=>?_)
 rcases h1 with⟨x,σ',e,q⟩ | ⟨σ',e,p2,σ2,e2,q⟩
 ·exact⟨_,_,by simp only[e],q⟩
 ·exact⟨_,_,by simp only[e];exact e2,q⟩
theorem wp_sDel {f g:PM PV}{Q:PFlow→PS→Prop}(h:Wp f σ fun a σ1=>Wp g σ1 fun b σ2=>Wp (pDel a b) σ2 fun _ σ3=>Q .next σ3):Wp (sDel f g) σ Q:=
 Wp.seq (h.mono fun a σ1 h1=>Wp.seq (h1.mono fun b σ2 h2=>Wp.seq (h2.mono fun _ σ3 h3=>Wp.ret h3)))
theorem wp_pDel {i:Nat}{k:Int}{es:List (Int × PV)}{ep:Nat}{Q:Unit→PS→Prop}(h:K[i]?=some (.dict es ep)) (hl:es.length≤1000) (hd:(dget es k).isSome=true) (hQ:Q () ⟨K.set i (.dict (ddel es k) (ep+1)),V⟩):Wp (pDel (.ref i) (.int k)) ⟨K,V⟩ Q:=
 ⟨(),_,by simp only[pDel,h,hl,hd,and_self,if_true],hQ⟩
theorem fw_pop_at {i:Nat}{xs:List PV}{x:PV}(h:K[i]?=some (.list (xs++[x]))) (hl:xs.length≤1000) (hR:R x (K.set i (.list xs))):Fw F_pop [.ref i] K R:=by
 refine⟨x,_,?_,hR⟩
 simp only[F_pop,onL,h,List.getLast?_concat,List.dropLast_concat]
 rw[if_pos (by rw[List.length_append,List.length_singleton];exact Nat.succ_le_of_lt (Nat.lt_of_le_of_lt hl (by decide)))]
theorem fw_sadd {i:Nat}{k:Int}{es:List Int}(h:K[i]?=some (.set es)) (hl:es.length≤1000) (hR:R .none (K.set i (.set (es++[k])))):Fw F_add [.ref i,.int k] K R:=⟨_,_,by simp only[F_add,addIn,h,hl,if_true],hR⟩
theorem kind_at_set {i:Nat}{es:List Int}(h:K[i]?=some (.set es)):kindOfP K (.ref i)=some "set":=by simp only[kindOfP,h]
theorem seen_in (seen:List Nat) (k:Nat):(seen.map fun(k:Nat)=>(k:Int)).contains (k:Int)=decide (k∈seen):=by
 induction seen with
 | nil=>rfl
 | cons j seen ih=>
  rw[List.map_cons,List.contains_cons,ih]
  by_cases h:k=j
  ·subst h;simp
  ·have:((k:Int)==(j:Int))=false:=beq_eq_false_iff_ne.mpr (by lia)
   rw[this];simp[h]
theorem last_item {i:Nat}{xs:List PV}{x:PV}(h:K[i]?=some (.list (xs++[x]))):itemOf K (.ref i) (.int (-1))=some x:=by
 simp only[itemOf,h,idx]
 rw[if_neg (by exact by decide),if_pos ⟨by exact by decide,by exact by decide,by simp;lia⟩]
 have:((-1:Int)+((xs++[x]).length:Int)).toNat=xs.length:=by rw[List.length_append,List.length_singleton];lia
 rw[this];simp
theorem fc_in (g:SG K0 s d r pa fi ks nf sf np sc) (hedge:∀ p∈ks,∀ k∈sc p,k∈ks∧pl p<pl k) (hks:ks.length≤900) {seen:List Nat}{Q2:PFlow→PS→Prop}:∀(n:Nat) (stk:List Fr) (K:List PObj) (es:List (Int × PV)) (ep:Nat) (v6:Option PV),stk.length=n→FC K0 K ks sf pl stk seen es ep→
  (∀ K' stk' es' ep' (k':Nat),FC K0 K' ks sf pl stk' seen es' ep'→k'∈ks→(∀ x∈stk',pl x.v<pl k')→stk'≠[]→fm sc stk'<fm sc stk→Q2 .next ⟨K',fcV s d K0.length (some (.int (k':Int)))⟩)→
  (∀ K' es' ep' v6,FC K0 K' ks sf pl [] seen es' ep'→Q2 .brk ⟨K',fcV s d K0.length v6⟩)→
  Wp (whileM LT_find_cycle0 LB_find_cycle0 (bCons (ret .brk) bNil)) ⟨K,fcV s d K0.length v6⟩ Q2:=by
 intro n
 induction n with
 | zero=>
  intro stk K es ep v6 hn f hnext hbrk
  obtain rfl:stk=[]:=List.length_eq_zero_iff.mp hn
  refine wp_while ?_
  unfold LT_find_cycle0
  repeat walk_at "p"
  refine Is.mk (truth_at f.ha (by decide)) ⟨fun _=>?_,fun hb=>absurd hb (by decide)⟩
  walk_at "s"
  exact hbrk _ _ _ _ f
 | succ n ih=>
  intro stk K es ep v6 hn f hnext hbrk
  obtain⟨stk,x,rfl⟩:∃ a b,stk=a++[b]:=by
   rcases List.eq_nil_or_concat stk with h | ⟨a,b,h⟩
   ·subst h;cases hn
   ·exact⟨a,b,by rw[h,List.concat_eq_append]⟩
  have hsl:=f.stl
  have hsl2:=f.sl
  simp only[List.length_append,List.length_singleton] at hsl hn
  obtain⟨a,b,c,e⟩:=f.fr x (by simp)
  have hm:K[sf x.v]?=some (.list (natsV (sc x.v))):=by
   have:=g.hl x.v c
   rw[f.low _ (List.getElem?_eq_some_iff.mp this).1];exact this
  have hfm:∀ p,fm sc (stk++[{x with pos:=p}])=fm sc stk+((sc x.v).length - p+1):=fun p=>by simp[fm]
  have ha:K[K0.length]?=some (.list (stV stk++[.int (x.v:Int)])):=by have:=f.ha;simpa[stV] using this
  have hb:K[K0.length+1]?=some (.list (stW stk++[.ref x.w])):=by have:=f.hb;simpa[stW] using this
  refine wp_while ?_
  show Wp (pTruth (pLoc 2)) _ _
  repeat walk_at "p"
  refine Is.mk (truth_at f.ha (by simp;lia)) ⟨fun hb=>absurd hb (by simp),fun _=>?_⟩
  show Wp (bCons (sTryNext 6 _ _) _) _ _
  refine wp_bCons (wp_tryNext ?_)
  repeat walk_at "p"
  refine Is.mk (last_item hb) ?_
  by_cases hpos:x.pos<(sc x.v).length
  ·left
   refine⟨.int ((sc x.v)[x.pos]:Nat),⟨K.set x.it (.liter (.ref (sf x.v)) (x.pos+1)),fcV s d K0.length v6⟩,?_,?_⟩
   ·simp only[nextP,a,b,hm]
    have:(natsV (sc x.v))[x.pos]?=some (.int ((sc x.v)[x.pos]:Nat)):=by simp[natsV,hpos]
    rw[this]
   obtain⟨k1,k2⟩:=hedge x.v c _ (List.getElem_mem hpos)
   have f2:=f.step
   refine hnext _ _ _ _ _ f2 k1 (fun y hy=>?_) (by simp) ?_
   ·rcases List.mem_append.mp hy with hy | hy
    ·exact Nat.lt_trans ((List.pairwise_append.mp f.path).2.2 y hy x (by exact .head _)) k2
    ·simp at hy;rw[hy];exact k2
   ·have h1:=hfm (x.pos+1)
    have h2:fm sc (stk++[x])=_:=hfm x.pos
    lia
  ·right
   refine⟨⟨K.set x.it .dead,fcV s d K0.length v6⟩,?_,?_⟩
   ·simp only[nextP,a,b,hm]
    have:(natsV (sc x.v))[x.pos]?=none:=by simp[natsV];exact Nat.le_of_not_lt hpos
    rw[this]
   have i0:=kind_ne b f.ha (by exact tne rfl)
   have i1:=kind_ne b f.hb (by exact tne rfl)
   have i3:=kind_ne b f.he (by exact tne rfl)
   refine wp_bCons (wp_sDel ?_)
   repeat walk_at "p"
   refine⟨kind_at (set_ne f.ha i0),?_⟩
   walk_at "p"
   have hstl:stk.length≤900:=by lia
   refine fw_pop_at (set_ne ha i0) (by simp[stV];exact Nat.le_trans hstl (by decide)) ?_
   refine wp_pDel (set_ne (set_ne f.he i3) (by lia)) (by have:=f.esl;lia) ((f.key _).mpr ⟨x,by simp,rfl⟩) ?_
   repeat walk_at "p"
   refine⟨kind_at (set_ne (set_ne (set_ne f.hb i1) (by exact Nat.ne_of_lt (Nat.lt_succ_self _))) (by exact Nat.ne_of_gt (Nat.add_lt_add_left (by decide) _))),?_⟩
   walk_at "p"
   refine fw_pop_at (set_ne (set_ne (set_ne hb i1) (by exact Nat.ne_of_lt (Nat.lt_succ_self _))) (by exact Nat.ne_of_gt (Nat.add_lt_add_left (by decide) _))) (by simp[stW];exact Nat.le_trans hstl (by decide)) ?_
   repeat walk_at "p"
   refine ih stk _ _ _ v6 (by lia) (f.pop _) (fun K' stk' es' ep' k' a1 a2 a3 a4 a5=>hnext K' stk' es' ep' k' a1 a2 a3 a4 ?_) hbrk
   have h2:fm sc (stk++[x])=_:=hfm x.pos
   exact Nat.lt_of_lt_of_eq (Nat.lt_add_right _ a5) (Eq.symm h2)
theorem fc_out (g:SG K0 s d r pa fi ks nf sf np sc) (hedge:∀ p∈ks,∀ k∈sc p,k∈ks∧pl p<pl k) (hks:ks.length≤900) (hsc:∀ p,(sc p).length≤900) {Q:PFlow→PS→Prop}(hQ:∀ K' seen' es' ep' v6,FC K0 K' ks sf pl [] seen' es' ep'→Q .next ⟨K',fcV s d K0.length v6⟩):∀(n:Nat) (K:List PObj) (stk:List Fr) (seen:List Nat) (es:List (Int × PV)) (ep k:Nat),
  1000*(ks.filter fun j=>decide (j ∉ seen)).length+fm sc stk<n→FC K0 K ks sf pl stk seen es ep→k∈ks→(∀ x∈stk,pl x.v<pl k)→(stk=[]→k ∉ seen)→
  Wp (whileM LT_find_cycle1 LB_find_cycle1 bNil) ⟨K,fcV s d K0.length (some (.int (k:Int)))⟩ Q:=by
 intro n
 induction n with
 | zero=>intro K stk seen es ep k h;exact absurd h (Nat.not_lt_zero _)
 | succ n ih=>
  intro K stk seen es ep k hm f hk hp hne
  have hsl:=f.sl
  have hesl:=f.esl
  have hstl:=f.stl
  refine wp_while ?_
  unfold LT_find_cycle1
  repeat walk_at "p"
  refine⟨true,rfl,fun hb=>absurd hb (by decide),fun _=>?_⟩
  unfold LB_find_cycle1
  repeat walk_at "p"
  refine⟨decide (k∈seen),by simp only[inOf,f.hc,seen_in],fun hb=>?_,fun hb=>?_⟩
  ·have hks2:k∈seen:=of_decide_eq_true hb
   repeat walk_at "p"
   have hno:(dget es (k:Int)).isSome=false:=by
    rw[Bool.eq_false_iff]
    intro q
    obtain⟨x,hx,e⟩:=(f.key k).mp q
    have:=hp x hx
    rw[e] at this;exact absurd this (Nat.lt_irrefl _)
   refine⟨false,by simp only[inOf,f.he,hno],fun hb=>absurd hb (by decide),fun _=>?_⟩
   repeat walk_at "p"
   skip
   refine wp_bCons (fc_in g hedge hks stk.length stk K es ep _ rfl f (fun K' stk' es' ep' k' a1 a2 a3 a4 a5=>?_) fun K' es' ep' v6 a1=>?_)
   ·walk_at "p"
    exact ih K' stk' seen es' ep' k' (by exact Nat.lt_of_lt_of_le (Nat.add_lt_add_left a5 _) (Nat.le_of_lt_succ hm)) a1 a2 a3 fun q=>absurd q a4
   ·exact hQ _ _ _ _ _ a1
  ·have hks2:k ∉ seen:=of_decide_eq_false hb
   have hl:=f.len
   have hd:∃ ep,K[d]?=some (.dict (keyV ks nf) ep):=by
    obtain⟨ep,e⟩:=g.hd
    exact⟨ep,by rw[f.low _ (List.getElem?_eq_some_iff.mp e).1];exact e⟩
   obtain⟨epd,hd⟩:=hd
   have hdl:d<K0.length:=by obtain⟨ep,e⟩:=g.hd;exact(List.getElem?_eq_some_iff.mp e).1
   have hnode:=g.hn k hk
   have hnl:=(List.getElem?_eq_some_iff.mp hnode).1
   rw[← f.low _ hnl] at hnode
   have hsuc:=g.hl k hk
   have hsul:=(List.getElem?_eq_some_iff.mp hsuc).1
   rw[← f.low _ hsul] at hsuc
   repeat walk_at "p"
   refine⟨kind_at_set f.hc,?_⟩
   repeat walk_at "p"
   refine fw_sadd f.hc (by simp;lia) ?_
   repeat walk_at "p"
   refine⟨kind_at (set_ne f.hb (by exact Nat.ne_of_gt (Nat.lt_succ_self _))),?_⟩
   walk_at "p"
   show Wp (seq _ _) _ _
   repeat walk_at "p"
   refine⟨.ref (nf k),by simp only[itemOf,set_ne hd (show K0.length+2≠d by exact Nat.ne_of_gt (Nat.lt_add_right _ hdl)),dget_key,hk,if_true],?_⟩
   refine wp_nfld (set_ne hnode (by exact Nat.ne_of_gt (Nat.lt_add_right _ hnl))) rfl rfl ?_
   walk_at "p"
   refine fw_iter_at (set_ne hsuc (by exact Nat.ne_of_gt (Nat.lt_add_right _ hsul))) ?_
   refine .of (p:=.ref ((K.set (K0.length+2) (.set (seen.map (fun(k:Nat)=>(k:Int))++[(k:Int)]))).length+1)) (σ':=⟨_++[.bnext (.ref (K.set (K0.length+2) (.set (seen.map (fun(k:Nat)=>(k:Int))++[(k:Int)]))).length) 0],_⟩) (by
    simp only[nextOfP,at1a]
    rw[List.length_append];rfl) ?_
   walk_at "p"
   rw[List.length_set]
   refine fw_append_at (atl (atl (set_ne f.hb (by exact Nat.ne_of_gt (Nat.lt_succ_self _))))) (by simp[stW];lia) ?_
   repeat walk_at "p"
   refine fw_len_at (set_ne (atl (atl (set_ne f.ha (by lia)))) (by exact Nat.ne_of_gt (Nat.lt_succ_self _))) (by simp[stV];lia) ?_
   repeat walk_at "p"
   refine Is.mk (by simp only[putItem,set_ne (atl (atl (set_ne f.he (show K0.length+2≠K0.length+3 by exact Nat.ne_of_lt (Nat.lt_succ_self _))))) (show K0.length+1≠K0.length+3 by exact Nat.ne_of_lt (Nat.add_lt_add_left (by decide) _))];rw[if_pos (by lia)]) ?_
   repeat walk_at "p"
   refine⟨kind_at (set_ne (set_ne (atl (atl (set_ne f.ha (by lia)))) (by exact Nat.ne_of_gt (Nat.lt_succ_self _))) (by lia)),?_⟩
   repeat walk_at "p"
   refine fw_append_at (set_ne (set_ne (atl (atl (set_ne f.ha (by lia)))) (by exact Nat.ne_of_gt (Nat.lt_succ_self _))) (by lia)) (by simp[stV];lia) ?_
   walk_at "p"
   have f2:=f.push g.nd hk hks2 hp (.int ((stV stk).length:Nat)) (dep es (k:Int) ep)
   have hfm:fm sc (stk++[⟨k,K.length+1,K.length,0⟩])=fm sc stk+((sc k).length+1):=by simp[fm]
   have hfl:=filt_less g.nd hk hks2
   have:=hsc k
   skip
   refine wp_bCons (fc_in g hedge hks _ (stk++[⟨k,K.length+1,K.length,0⟩]) _ _ _ _ rfl (by simpa[fcPush,stV,stW] using f2) (fun K' stk' es' ep' k' a1 a2 a3 a4 a5=>?_) fun K' es' ep' v6 a1=>?_)
   ·walk_at "p"
    exact ih K' stk' (seen++[k]) es' ep' k' (by lia) a1 a2 a3 fun q=>absurd q a4
   ·exact hQ _ _ _ _ _ a1
end
open PySem PySem.W
noncomputable def LB_find_cycle2:PM PFlow:=(bCons (sIf (pIn (pLoc 6) (pLoc 4)) (bCons (ret .cont)
 bNil) bNil)
 (bCons (whileM LT_find_cycle1 LB_find_cycle1 bNil)
 bNil))
section
variable {K0 K:List PObj}{V:List (Option PV)}{σ:PS}{s d:Nat}{r:PV}{pa fi:Int}{ks:List Nat}{nf sf:Nat→Nat}{np:Nat→Int}{sc:Nat→List Nat}{pl:Nat→Nat}{R:PV→List PObj→Prop}
theorem it_dict {l ep:Nat}{es:List (Int × PV)}(h:K[l]?=some (.dict es ep)):itOf K (.ref l)=some (.still (es.map fun e=>.int e.1) fun H=>H[l]?=some (.dict es ep)):=by simp only[itOf,h]
theorem fw_set0 (h:R (.ref K.length) (K++[PObj.set []])):Fw F_set0 [] K R:=⟨_,_,rfl,h⟩
theorem filt_all (ks:List Nat):(ks.filter fun k=>decide (k ∉ ([]:List Nat))).length=ks.length:=by
 skip;simp
theorem fw_find (g:SG K0 s d r pa fi ks nf sf np sc) (hedge:∀ p∈ks,∀ k∈sc p,k∈ks∧pl p<pl k) (hks:ks.length≤900) (hsc:∀ p,(sc p).length≤900) (h:∀ K',(∀ i,i<K0.length→K'[i]?=K0[i]?)→K0.length<K'.length→R .none K'):Fw F_find_cycle [.ref s] K0 R:=by
 refine fw_run (V0:=[some (.ref s),none,none,none,none,none,none]) rfl ?_
 refine(?_:Wp (bCons _ (bCons _ (bCons _ (bCons _ (bCons _ (bCons (sFor _ _ LB_find_cycle2) _)))))) _ _)
 obtain⟨ep,e⟩:=g.hd
 repeat walk_at "p"
 refine wp_sfld g.hs rfl rfl ?_
 try dsimp only[List.set_cons_succ,List.set_cons_zero]
 repeat walk_at "p"
 refine⟨by simp,?_⟩
 repeat walk_at "p"
 refine⟨by simp,?_⟩
 repeat walk_at "p"
 refine fw_set0 ?_
 try dsimp only[List.set_cons_succ,List.set_cons_zero]
 walk_at "p"
 walk_at "p"
 walk_at "p"
 have el:∀ X Y Z:PObj,(K0++[X]).length=K0.length+1∧(K0++[X]++[Y]).length=K0.length+2∧(K0++[X]++[Y]++[Z]).length=K0.length+3:=fun X Y Z=>by simp
 rw[(el _ (.list []) (.set [])).1,(el _ _ (.set [])).2.1,(el _ _ _).2.2]
 refine wp_bCons (wp_sFor (wp_iter (wp_loc rfl ⟨_,it_dict (atl (atl (atl (atl e)))),?_⟩)))
 refine wp_forL_inv (fun n σ=>Ex5 fun K' seen es ep v6=>σ=⟨K',fcV s d K0.length v6⟩∧FC K0 K' ks sf pl [] seen es ep)
  ((keyV ks nf).map fun e=>.int e.1) ?_ ?_ ?_ 0 _ (Nat.zero_le _) ⟨_,[],[],0,none,rfl,⟨fun i hi=>?_,?_,?_,?_,?_,fun k=>by simp[dget],by simp,by simp,by rw[filt_all];simp,by simp,by simp,by simp⟩⟩
 ·rintro n σ ⟨K',seen,es,ep',v6,rfl,f⟩
  refine(?_:K'[d]?=_)
  rw[f.low _ (List.getElem?_eq_some_iff.mp e).1];exact e
 ·rintro n q σ hq ⟨K',seen,es,ep',v6,rfl,f⟩
  have hn:n<ks.length:=by have:=(List.getElem?_eq_some_iff.mp hq).1;simpa[keyV] using this
  have hq':q=.int ((ks[n]:Nat):Int):=by
   unfold keyV at hq
   rw[List.getElem?_map,List.getElem?_map,List.getElem?_eq_getElem hn] at hq
   exact(Option.some.inj hq).symm
  subst hq'
  dsimp only[It.still]
  refine wp_setV ?_
  dsimp only[List.set_cons_succ,List.set_cons_zero]
  unfold LB_find_cycle2
  repeat walk_at "p"
  refine⟨decide (ks[n]∈seen),by simp only[inOf,f.hc,seen_in],fun hb=>?_,fun hb=>?_⟩
  ·repeat walk_at "p"
   exact⟨.inr rfl,_,_,_,_,_,rfl,f⟩
  ·walk_at "p"
   refine wp_bCons (fc_out g hedge hks hsc (fun K2 seen2 es2 ep2 v6 f2=>?_) _ K' [] seen es ep' ks[n] (Nat.lt_succ_self _) f (List.getElem_mem hn) (by simp) fun _=>of_decide_eq_false hb)
   walk_at "p"
   exact⟨.inl rfl,_,_,_,_,_,rfl,f2⟩
 ·rintro σ ⟨K',seen,es,ep',v6,rfl,f⟩
  walk_at "s"
  have hl:=f.len
  exact h K' f.low (by exact Nat.lt_of_le_of_lt (Nat.le_add_right _ _) hl)
 ·rw[app_lt (by simp;exact Nat.lt_add_right _ hi),app_lt (by simp;exact Nat.lt_add_right _ hi),app_lt (by simp;exact Nat.lt_succ_of_lt hi),app_lt (by exact hi)]
 ·simp
 ·simp
 ·simp
 ·simp
theorem SG.setr (g:SG K s d r pa fi ks nf sf np sc) (r':PV) (pa' fi':Int):SG (K.set s (.sorter [some (.ref d),some r',some (.int pa'),some (.int fi')])) s d r' pa' fi' ks nf sf np sc:=by
 obtain⟨ep,e⟩:=g.hd
 exact⟨set_eq g.hs,⟨ep,set_ne e (kind_ne g.hs e (by exact tne rfl))⟩,g.nd,fun k hk=>set_ne (g.hn k hk) (kind_ne g.hs (g.hn k hk) (by exact tne rfl)),fun k hk=>set_ne (g.hl k hk) (kind_ne g.hs (g.hl k hk) (by exact tne rfl)),g.inj,g.lo,g.z⟩
theorem fw_prepare (g:SG K s d .none 0 0 ks nf sf np sc) (hedge:∀ p∈ks,∀ k∈sc p,k∈ks∧pl p<pl k) (hks:ks.length≤900) (hsc:∀ p,(sc p).length≤900)
  (h:∀ K',SG K' s d (.ref K.length) 0 0 ks nf sf np sc→K'[K.length]?=some (.list (natsV (ks.filter fun k=>decide (np k=0))))→(∀ i,i<s→K'[i]?=K[i]?)→K.length<K'.length→R .none K'):Fw F_prepare [.ref s] K R:=by
 refine fw_run (V0:=[some (.ref s),none]) rfl ?_
 obtain⟨ep,e⟩:=g.hd
 have hsl:=g.sl
 unfold B_prepare
 repeat walk_at "p"
 refine wp_sfld g.hs rfl rfl ?_
 refine⟨true,rfl,fun hb=>absurd hb (by decide),fun _=>?_⟩
 walk_at "p"
 walk_at "p"
 walk_at "p"
 walk_at "p"
 refine wp_valsIt ?_
 repeat walk_at "p"
 refine wp_sfld g.hs rfl rfl ?_
 refine .of (p:=.still ((keyV ks nf).map (·.2)) fun H=>H[d]?=some (.dict (keyV ks nf) ep)) (σ':=⟨K,[some (.ref s),none]⟩) (by simp only[valsIt,e]) ?_
 have hkl:((keyV ks nf).map (·.2)).length=ks.length:=by simp[keyV]
 refine wp_compL_inv (fun n σ=>∃ v0,σ=⟨K++[.list (natsV ((ks.take n).filter fun k=>decide (np k=0)))],[v0]⟩) ((keyV ks nf).map (·.2)) ?_ ?_ ?_ 0 _ (Nat.zero_le _) ⟨_,rfl⟩
 ·rintro n σ ⟨v0,rfl⟩
  exact atl e
 ·rintro n q σ hq ⟨v0,rfl⟩
  have hn:n<ks.length:=by have:=(List.getElem?_eq_some_iff.mp hq).1;exact Nat.lt_of_lt_of_eq this hkl
  have hq':q=.ref (nf ks[n]):=by
   unfold keyV at hq
   rw[List.getElem?_map,List.getElem?_map,List.getElem?_eq_getElem hn] at hq
   exact(Option.some.inj hq).symm
  subst hq'
  have hnode:=g.hn ks[n] (List.getElem_mem hn)
  have et:ks.take (n+1)=ks.take n++[ks[n]]:=List.take_succ_eq_append_getElem hn
  dsimp only[It.still]
  refine wp_setV ?_
  dsimp only[List.set_cons_succ,List.set_cons_zero]
  repeat walk_at "p"
  refine wp_nfld (atl hnode) rfl rfl ?_
  walk_at "p"
  refine Is2.mk ⟨fun hb=>?_,fun hb=>?_⟩
  ·have h0:np ks[n]=0:=by simpa using hb
   repeat walk_at "p"
   refine wp_nfld (atl hnode) rfl rfl ?_
   refine fw_append_at (at1a _) ?_ ?_
   ·have:=List.length_filter_le (fun k=>decide (np k=0)) (ks.take n)
    have:(ks.take n).length≤ks.length:=by rw[List.length_take];lia
    simp only[natsV,List.length_map];lia
   rw[app1]
   refine⟨some (.ref (nf ks[n])),?_⟩
   rw[et,List.filter_append]
   simp[h0,natsV]
  ·have h0:¬ np ks[n]=0:=by simpa using hb
   refine⟨some (.ref (nf ks[n])),?_⟩
   rw[et,List.filter_append]
   simp[h0]
 ·rintro σ ⟨v0,rfl⟩
  rw[hkl,List.take_length]
  dsimp only[It.still]
  refine⟨rfl,?_⟩
  walk_at "p"
  refine Is.mk (sput_at (atl g.hs) (by exact nle rfl)) ?_
  dsimp only[List.set_cons_succ,List.set_cons_zero]
  have g2:=(g.app [.list (natsV (ks.filter fun k=>decide (np k=0)))]).setr (.ref K.length) 0 0
  repeat walk_at "p"
  refine⟨isS_at g2.hs,?_⟩
  walk_at "p"
  refine fw_find g2 hedge hks hsc fun K2 low2 len2=>?_
  walk_at "s"
  simp only[List.length_set,List.length_append,List.length_singleton] at low2 len2
  refine h _ (g2.keeps fun i o eo _=>?_) ?_ (fun i hi=>?_) (by exact Nat.lt_of_succ_le (Nat.le_of_lt len2))
  ·have:=(List.getElem?_eq_some_iff.mp eo).1
   simp only[List.length_set,List.length_append,List.length_singleton] at this
   rw[low2 i this];exact eo
  ·rw[low2 _ (by exact Nat.lt_succ_self _),List.getElem?_set_ne (by exact Nat.ne_of_lt hsl)];exact at1a _
  ·rw[low2 i (by exact Nat.lt_succ_of_lt (Nat.lt_trans hi hsl)),set_lt hi,app_lt (by exact Nat.lt_trans hi hsl)]
end
open PySem PySem.W
noncomputable def LB_get_ready0:PM PFlow:=(bCons (sSetA (nodePut 1) (pConst (.int (-1))) (pSub (pLoc 2) (pLoc 3))) bNil)
section
variable {K:List PObj}{V:List (Option PV)}{σ:PS}{s d rl:Nat}{r:PV}{pa fi:Int}{ks rdy:List Nat}{nf sf:Nat→Nat}{np:Nat→Int}{sc:Nat→List Nat}{R:PV→List PObj→Prop}
theorem fw_tuple_at {i:Nat}{xs:List PV}(h:K[i]?=some (.list xs)) (hl:xs.length≤1000000) (hR:R (.tup xs) K):Fw F_tuple [.ref i] K R:=⟨_,_,by simp only[F_tuple,onL,h,hl,if_true],hR⟩
theorem fw_clear_at {i:Nat}{xs:List PV}(h:K[i]?=some (.list xs)) (hl:xs.length≤1000000) (hR:R .none (K.set i (.list []))):Fw F_clear [.ref i] K R:=⟨_,_,by simp only[F_clear,onL,h,hl,if_true],hR⟩
theorem fw_bool_at {i:Nat}{xs:List PV}(h:K[i]?=some (.list xs)) (hl:xs.length<2 ^ 40) (hR:R (.bool (!xs.isEmpty)) K):Fw F_bool [.ref i] K R:=⟨_,_,by simp only[F_bool,onL,h,hl,if_true],hR⟩
theorem natsV_get {xs:List Nat}{n:Nat}{q:PV}(h:(natsV xs)[n]?=some q):∃ hn:n<xs.length,q=.int ((xs[n]:Nat):Int):=partsV_get h
noncomputable def Aside (s rl:Nat) (ks:List Nat) (nf:Nat→Nat) (K K':List PObj):Prop:=K'.length=K.length∧∀ i,i≠s→i≠rl→(∀ k∈ks,i≠nf k)→K'[i]?=K[i]?
theorem Aside.refl:Aside s rl ks nf K K:=⟨rfl,fun _ _ _ _=>rfl⟩
theorem Aside.set {K':List PObj}(h:Aside s rl ks nf K K') {j:Nat}{X:PObj}(hj:j=s∨j=rl∨∃ k∈ks,j=nf k):Aside s rl ks nf K (K'.set j X):=by
 refine⟨by rw[List.length_set];exact h.1,fun i h1 h2 h3=>?_⟩
 have:j≠i:=by
  rintro rfl
  rcases hj with q | q | ⟨k,hk,q⟩
  ·exact h1 q
  ·exact h2 q
  ·exact h3 k hk q
 rw[List.getElem?_set_ne this];exact h.2 i h1 h2 h3
theorem SG.setl (g:SG K s d r pa fi ks nf sf np sc) {xs:List PV}(h:K[rl]?=some (.list xs)) (hrl:∀ k∈ks,sf k≠rl) (Y:PObj):SG (K.set rl Y) s d r pa fi ks nf sf np sc:=by
 refine g.keeps fun i o e hi=>set_ne e ?_
 rcases hi with rfl | rfl | ⟨k,hk,rfl | rfl⟩
 ·exact kind_ne h g.hs (by exact tne rfl)
 ·obtain⟨ep,e⟩:=g.hd
  exact kind_ne h e (by exact tne rfl)
 ·exact kind_ne h (g.hn k hk) (by exact tne rfl)
 ·exact Ne.symm (hrl k hk)
noncomputable def outNp (np:Nat→Int) (xs:List Nat):Nat→Int:=fun k=>if k∈xs then -1 else np k
theorem outNp_nil (np:Nat→Int):outNp np []=np:=by funext k;simp[outNp]
theorem fw_get_ready (g:SG K s d (.ref rl) pa fi ks nf sf np sc) (hr:K[rl]?=some (.list (natsV rdy))) (hrl:∀ k∈ks,sf k≠rl) (hin:∀ k∈rdy,k∈ks) (hl:rdy.length≤900)
  (h:∀ K',SG K' s d (.ref rl) (pa+(rdy.length:Int)) fi ks nf sf (outNp np rdy) sc→K'[rl]?=some (.list [])→Aside s rl ks nf K K'→R (.tup (natsV rdy)) K'):Fw F_get_ready [.ref s] K R:=by
 refine fw_run (V0:=[some (.ref s),none,none,none]) rfl ?_
 refine(?_:Wp (bCons _ (bCons _ (bCons _ (bCons (sFor _ _ LB_get_ready0) _)))) _ _)
 have hnl:(natsV rdy).length=rdy.length:=by simp[natsV]
 repeat walk_at "p"
 refine wp_sfld g.hs rfl rfl ?_
 refine⟨false,rfl,fun hb=>absurd hb (by decide),fun _=>?_⟩
 repeat walk_at "p"
 refine wp_sfld g.hs rfl rfl ?_
 walk_at "p"
 refine fw_tuple_at hr (by exact Nat.le_trans (Nat.le_of_eq hnl) (Nat.le_trans hl (by decide))) ?_
 repeat walk_at "p"
 refine wp_sfld g.hs rfl rfl ?_
 try dsimp only[List.set_cons_succ,List.set_cons_zero]
 refine wp_bCons (wp_sFor (wp_iter (wp_loc rfl ⟨_,it_tup _ _,?_⟩)))
 refine wp_forL_inv (fun n σ=>Ex2 fun K' v3=>A4 (σ=⟨K',[some (.ref s),some (.tup (natsV rdy)),some (.ref d),v3]⟩) (SG K' s d (.ref rl) pa fi ks nf sf (outNp np (rdy.take n)) sc) (K'[rl]?=some (.list (natsV rdy))) (Aside s rl ks nf K K'))
  (natsV rdy) (fun _ _ _=>trivial) ?_ ?_ 0 _ (Nat.zero_le _) ⟨K,none,rfl,by skip;exact g,hr,.refl⟩
 ·intro n q σ hq inv
  refine gv fun _ gk=>?_
  obtain⟨K',v3,hσ,g2,hr2,a2⟩:=inv
  subst hσ
  obtain⟨hn,rfl⟩:=natsV_get hq
  have hk:rdy[n]∈ks:=hin _ (List.getElem_mem hn)
  obtain⟨ep,e⟩:=g2.hd
  refine gk ?_
  dsimp only[It.still]
  refine wp_setV ?_
  dsimp only[List.set_cons_succ,List.set_cons_zero]
  unfold LB_get_ready0
  repeat walk_at "p"
  refine⟨.ref (nf rdy[n]),by simp only[itemOf,e,dget_key,hk,if_true],?_⟩
  refine Is.mk (nput_at (g2.hn _ hk) (by simp)) ?_
  dsimp only[List.set_cons_succ,List.set_cons_zero]
  walk_at "p"
  refine⟨.inl rfl,_,_,rfl,?_,?_,a2.set (.inr (.inr ⟨_,hk,rfl⟩))⟩
  ·have g3:=g2.setnp hk (-1)
   have:upd (outNp np (rdy.take n)) rdy[n] (-1)=outNp np (rdy.take (n+1)):=by
    funext j
    rw[List.take_succ_eq_append_getElem hn]
    unfold upd outNp
    by_cases hj:j=rdy[n]
    ·rw[if_pos hj,if_pos (List.mem_append.mpr (.inr (List.mem_singleton.mpr hj)))]
    ·rw[if_neg hj]
     simp only[List.mem_append,List.mem_singleton,hj,or_false]
   rw[this] at g3
   exact g3
  ·exact set_ne hr2 (kind_ne (g2.hn _ hk) hr2 (by exact tne rfl))
 ·intro σ inv
  refine gv fun _ gk=>?_
  obtain⟨K',v3,hσ,g2,hr2,a2⟩:=inv
  subst hσ
  rw[hnl,List.take_length] at g2
  refine gk ?_
  repeat walk_at "p"
  refine wp_sfld g2.hs rfl rfl ?_
  refine⟨kind_at hr2,?_⟩
  walk_at "p"
  refine fw_clear_at hr2 (by exact Nat.le_trans (Nat.le_of_eq hnl) (Nat.le_trans hl (by decide))) ?_
  have g3:=g2.setl hr2 hrl (.list [])
  repeat walk_at "p"
  refine wp_sfld g3.hs rfl rfl ?_
  repeat walk_at "p"
  refine⟨_,_,by simp only[F_len,lenOf];rw[if_pos (by exact Nat.lt_of_le_of_lt (Nat.le_of_eq hnl) (Nat.lt_of_le_of_lt hl (by decide)))],?_⟩
  refine⟨.int (pa+(rdy.length:Int)),K'.set rl (.list []),_,by rw[hnl];rfl,sput_at g3.hs (by exact nle rfl),?_⟩
  dsimp only[List.set_cons_succ,List.set_cons_zero]
  walk_at "s"
  refine h _ (g3.setr (.ref rl) (pa+(rdy.length:Int)) fi) ?_ ((a2.set (.inr (.inl rfl))).set (.inl rfl))
  exact set_ne (set_eq hr2) (kind_ne g2.hs hr2 (by exact tne rfl))
theorem fw_is_active (g:SG K s d (.ref rl) pa fi ks nf sf np sc) (hr:K[rl]?=some (.list (natsV rdy))) (hl:rdy.length≤900) (hpf:pa=fi) (h:R (.bool (!rdy.isEmpty)) K):Fw F_is_active [.ref s] K R:=by
 refine fw_run (V0:=[some (.ref s)]) rfl ?_
 have hnl:(natsV rdy).length=rdy.length:=by simp[natsV]
 have hne:(natsV rdy).isEmpty=rdy.isEmpty:=by cases rdy<;>rfl
 unfold B_is_active
 repeat walk_at "p"
 refine wp_sfld g.hs rfl rfl ?_
 refine⟨false,rfl,fun hb=>absurd hb (by decide),fun _=>?_⟩
 repeat walk_at "p"
 refine wp_sfld g.hs rfl rfl ?_
 repeat walk_at "p"
 refine wp_sfld g.hs rfl rfl ?_
 refine Is2.mk ⟨_,rfl,fun hb=>?_,fun _=>?_⟩
 ·exfalso
  have:=of_decide_eq_true hb
  exact absurd hpf (Int.ne_of_gt this)
 repeat walk_at "p"
 refine wp_sfld g.hs rfl rfl ?_
 walk_at "p"
 refine fw_bool_at hr (by exact Nat.lt_of_le_of_lt (Nat.le_of_eq hnl) (Nat.lt_of_le_of_lt hl (by decide))) ?_
 rw[hne]
 exact h
end
open PySem PySem.W
noncomputable def LB_done0:PM PFlow:=(bCons (sSet 7 (pSub (pLoc 2) (pLoc 6)))
 (bCons (sAugA (nodeFld 1) (nodePut 1) oSub false (pLoc 7) (pConst (.int 1)))
 (bCons (sIf (pTest (fun x y=>x==y) (pAttr (nodeFld 1) (pLoc 7)) (pConst (.int 0))) (bCons (sExpr (pMeth "list" F_append (pAttr (sorterFld 1) (pLoc 0)) (aCons (pLoc 6) aNil)))
 bNil) bNil)
 bNil)))
noncomputable def LB_done1:PM PFlow:=(bCons (sIf (pIsNone false (pNamed (setV 4) (pMeth "dict" F_get (pLoc 2) (aCons (pLoc 3) aNil)))) fail bNil)
 (bCons (sSet 5 (pAttr (nodeFld 1) (pLoc 4)))
 (bCons (sIf (pTest (fun x y=>x !=y) (pLoc 5) (pConst (.int (-1)))) fail bNil)
 (bCons (sSetA (nodePut 1) (pConst (.int (-2))) (pLoc 4))
 (bCons (sFor (pIter (pAttr (nodeFld 2) (pLoc 4))) (setV 6) LB_done0)
 (bCons (sAugA (sorterFld 3) (sorterPut 3) oAdd true (pLoc 0) (pConst (.int 1)))
 bNil))))))
noncomputable def doneStep (st:(Nat→Int) × List Nat) (j:Nat):(Nat→Int) × List Nat:=(upd st.1 j (st.1 j - 1),if st.1 j - 1=0 then st.2++[j] else st.2)
theorem done_len:∀(l:List Nat) (st:(Nat→Int) × List Nat),(l.foldl doneStep st).2.length≤st.2.length+l.length
 | [],st=>by simp
 | j::l,st=>by
  have:=done_len l (doneStep st j)
  have h2:(doneStep st j).2.length≤st.2.length+1:=by unfold doneStep;dsimp only;split<;>simp
  simp only[List.foldl_cons,List.length_cons]
  lia
section
variable {K:List PObj}{V:List (Option PV)}{σ:PS}{s d rl:Nat}{r:PV}{pa fi:Int}{ks rdy:List Nat}{nf sf:Nat→Nat}{np:Nat→Int}{sc:Nat→List Nat}{R:PV→List PObj→Prop}
theorem done_succ (g:SG K s d (.ref rl) pa fi ks nf sf np sc) (hr:K[rl]?=some (.list (natsV rdy))) (hrl:∀ k∈ks,sf k≠rl) {k:Nat}(hk:k∈ks) (hsuc:∀ j∈sc k,j∈ks) (hl:rdy.length+(sc k).length≤900) {v1 v3 v5 v6 v7:Option PV}{Q:PFlow→PS→Prop}
  (h:∀ K' v6 v7,SG K' s d (.ref rl) pa fi ks nf sf ((sc k).foldl doneStep (np,rdy)).1 sc→K'[rl]?=some (.list (natsV ((sc k).foldl doneStep (np,rdy)).2))→Aside s rl ks nf K K'→Q .next ⟨K',[some (.ref s),v1,some (.ref d),v3,some (.ref (nf k)),v5,v6,v7]⟩):
  Wp (sFor (pIter (pAttr (nodeFld 2) (pLoc 4))) (setV 6) LB_done0) ⟨K,[some (.ref s),v1,some (.ref d),v3,some (.ref (nf k)),v5,v6,v7]⟩ Q:=by
 have hnl:(natsV (sc k)).length=(sc k).length:=by simp[natsV]
 refine wp_sFor (wp_iter (wp_attr (wp_loc rfl (wp_nfld (g.hn k hk) rfl rfl ⟨_,it_list (g.hl k hk),?_⟩))))
 refine wp_forL_inv (fun n σ=>Ex3 fun K' v6 v7=>A4 (σ=⟨K',[some (.ref s),v1,some (.ref d),v3,some (.ref (nf k)),v5,v6,v7]⟩) (SG K' s d (.ref rl) pa fi ks nf sf (((sc k).take n).foldl doneStep (np,rdy)).1 sc) (K'[rl]?=some (.list (natsV (((sc k).take n).foldl doneStep (np,rdy)).2))) (Aside s rl ks nf K K'))
  (natsV (sc k)) ?_ ?_ ?_ 0 _ (Nat.zero_le _) ⟨K,_,_,rfl,by exact g,by exact hr,.refl⟩
 ·intro n σ inv
  refine gv fun _ gk=>?_
  obtain⟨K',v6,v7,hσ,g2,hr2,a2⟩:=inv
  subst hσ
  refine gk ?_
  exact g2.hl k hk
 ·intro n q σ hq inv
  refine gv fun _ gk=>?_
  obtain⟨K',v6,v7,hσ,g2,hr2,a2⟩:=inv
  subst hσ
  obtain⟨hn,rfl⟩:=natsV_get hq
  have hj:(sc k)[n]∈ks:=hsuc _ (List.getElem_mem hn)
  obtain⟨ep,e⟩:=g2.hd
  have et:((sc k).take (n+1)).foldl doneStep (np,rdy)=doneStep (((sc k).take n).foldl doneStep (np,rdy)) (sc k)[n]:=by
   rw[List.take_succ_eq_append_getElem hn,List.foldl_append];rfl
  have hdl:_≤rdy.length+((sc k).take n).length:=done_len ((sc k).take n) (np,rdy)
  rw[List.length_take] at hdl
  refine gk ?_
  rw[et]
  generalize ((sc k).take n).foldl doneStep (np,rdy)=st at*
  generalize (sc k)[n]=j at*
  dsimp only[It.still]
  refine wp_setV ?_
  dsimp only[List.set_cons_succ,List.set_cons_zero]
  unfold LB_done0
  repeat walk_at "p"
  refine⟨.ref (nf j),by simp only[itemOf,e,dget_key,hj,if_true],?_⟩
  try dsimp only[List.set_cons_succ,List.set_cons_zero]
  repeat walk_at "p"
  refine wp_nfld (g2.hn j hj) rfl rfl ?_
  walk_at "p"
  refine⟨.int (st.1 j - 1),_,_,rfl,nput_at (g2.hn j hj) (by exact⟨nlt rfl,nlt rfl⟩),?_⟩
  dsimp only[List.set_cons_succ,List.set_cons_zero]
  have g3:=g2.setnp hj (st.1 j - 1)
  have a3:=a2.set (X:=.node [some (.int (j:Int)),some (.int (st.1 j - 1)),some (.ref (sf j))]) (.inr (.inr ⟨j,hj,rfl⟩))
  have hr3:=set_ne (X:=.node [some (.int (j:Int)),some (.int (st.1 j - 1)),some (.ref (sf j))]) hr2 (kind_ne (g2.hn j hj) hr2 (by simp))
  repeat walk_at "p"
  refine wp_nfld (g3.hn j hj) rfl rfl ?_
  walk_at "p"
  refine Is2.mk ⟨fun hb=>?_,fun hb=>?_⟩
  ·have h0:st.1 j - 1=0:=by simpa[upd] using hb
   repeat walk_at "p"
   refine wp_sfld g3.hs rfl rfl ?_
   refine⟨kind_at hr3,?_⟩
   repeat walk_at "p"
   refine fw_append_at hr3 (by simp only[natsV,List.length_map];lia) ?_
   repeat walk_at "p"
   refine⟨.inl rfl,_,_,_,rfl,?_,?_,a3.set (.inr (.inl rfl))⟩
   ·exact g3.setl hr3 hrl _
   ·rw[set_eq hr3]
    simp[doneStep,h0,natsV]
  ·have h0:¬ st.1 j - 1=0:=by simpa[upd] using hb
   repeat walk_at "p"
   refine⟨.inl rfl,_,_,_,rfl,g3,?_,a3⟩
   rw[hr3]
   simp only[doneStep,h0,if_false]
 ·intro σ inv
  refine gv fun _ gk=>?_
  obtain⟨K',v6,v7,hσ,g2,hr2,a2⟩:=inv
  subst hσ
  rw[hnl,List.take_length] at g2 hr2
  refine gk ?_
  exact h _ _ _ g2 hr2 a2
theorem fw_done (g:SG K s d (.ref rl) pa fi ks nf sf np sc) (hr:K[rl]?=some (.list (natsV rdy))) (hrl:∀ k∈ks,sf k≠rl) {k:Nat}(hk:k∈ks) (h1:np k=-1) (hsuc:∀ j∈sc k,j∈ks) (hl:rdy.length+(sc k).length≤900)
  (h:∀ K',SG K' s d (.ref rl) pa (fi+1) ks nf sf ((sc k).foldl doneStep (upd np k (-2),rdy)).1 sc→K'[rl]?=some (.list (natsV ((sc k).foldl doneStep (upd np k (-2),rdy)).2))→Aside s rl ks nf K K'→R .none K'):Fw F_done [.ref s,.int (k:Int)] K R:=by
 refine fw_run (V0:=[some (.ref s),some (.tup [.int (k:Int)]),none,none,none,none,none,none]) rfl ?_
 refine(?_:Wp (bCons _ (bCons _ (bCons (sFor _ _ LB_done1) _))) _ _)
 obtain⟨ep,e⟩:=g.hd
 repeat walk_at "p"
 refine wp_sfld g.hs rfl rfl ?_
 refine⟨false,rfl,fun hb=>absurd hb (by decide),fun _=>?_⟩
 repeat walk_at "p"
 refine wp_sfld g.hs rfl rfl ?_
 try dsimp only[List.set_cons_succ,List.set_cons_zero]
 refine wp_bCons (wp_sFor (wp_iter (wp_loc rfl ⟨_,it_tup _ _,?_⟩)))
 refine wp_forL_cons trivial (wp_setV ?_)
 dsimp only[List.set_cons_succ,List.set_cons_zero,It.still]
 refine(?_:Wp (bCons _ (bCons _ (bCons _ (bCons _ (bCons (sFor _ _ LB_done0) _))))) _ _)
 repeat walk_at "p"
 refine⟨kind_at_dict e,?_⟩
 repeat walk_at "p"
 refine fw_get e ?_
 rw[dget_key,if_pos hk]
 walk_at "p"
 refine⟨false,rfl,fun hb=>absurd hb (by decide),fun _=>?_⟩
 repeat walk_at "p"
 refine wp_nfld (g.hn k hk) rfl rfl ?_
 try dsimp only[List.set_cons_succ,List.set_cons_zero]
 repeat walk_at "p"
 rw[h1]
 refine Is2.mk ⟨fun hb=>absurd hb (by decide),fun _=>?_⟩
 repeat walk_at "p"
 refine Is.mk (nput_at (g.hn k hk) (by exact⟨nlt rfl,nlt rfl⟩)) ?_
 dsimp only[List.set_cons_succ,List.set_cons_zero]
 have g2:=g.setnp hk (-2)
 have hr2:=set_ne (X:=.node [some (.int (k:Int)),some (.int (-2)),some (.ref (sf k))]) hr (kind_ne (g.hn k hk) hr (by simp))
 have a2:Aside s rl ks nf K _:=Aside.refl.set (X:=.node [some (.int (k:Int)),some (.int (-2)),some (.ref (sf k))]) (.inr (.inr ⟨k,hk,rfl⟩))
 walk_at "p"
 refine done_succ g2 hr2 hrl hk hsuc hl fun K3 v6 v7 g3 hr3 a3=>?_
 repeat walk_at "p"
 refine wp_sfld g3.hs rfl rfl ?_
 walk_at "p"
 refine⟨.int (fi+1),_,_,rfl,sput_at g3.hs (by exact nle rfl),?_⟩
 dsimp only[List.set_cons_succ,List.set_cons_zero]
 walk_at "p"
 refine wp_forL_nil trivial ?_
 walk_at "p"
 have a4:Aside s rl ks nf K K3:=⟨by rw[a3.1,List.length_set],fun i h1 h2 h3=>by rw[a3.2 i h1 h2 h3,a2.2 i h1 h2 h3]⟩
 refine h _ (g3.setr (.ref rl) pa (fi+1)) (set_ne hr3 (kind_ne g3.hs hr3 (by simp))) (a4.set (.inl rfl))
end
open PySem PySem.W
noncomputable def need (sc:Nat→List Nat) (D:List Nat) (j:Nat):Nat:=((List.range 5).map fun p=>if p∈D then 0 else(sc p).count j).sum
theorem sum_add {D:List Nat}{f:Nat→Nat}{t:Nat}(hD:t ∉ D):∀ {l:List Nat},l.Nodup→t∈l→(l.map fun p=>if p∈D then 0 else f p).sum=(l.map fun p=>if p∈D++[t] then 0 else f p).sum+f t
 | [],_,h=>by cases h
 | p::l,hn,h=>by
  obtain⟨n1,n2⟩:=List.nodup_cons.mp hn
  simp only[List.map_cons,List.sum_cons,List.mem_append,List.mem_singleton]
  by_cases q:p=t
  ·subst q
   have e:(l.map fun x=>if x∈D∨x=p then 0 else f x)=l.map fun x=>if x∈D then 0 else f x:=List.map_congr_left fun x hx=>by
    have:x≠p:=fun z=>n1 (z▸hx)
    simp[this]
   rw[e];simp[hD];lia
  ·have ih:=sum_add (f:=f) hD n2 ((List.mem_cons.mp h).resolve_left (Ne.symm q))
   simp only[List.mem_append,List.mem_singleton] at ih
   simp only[q,or_false]
   lia
theorem need_add {sc:Nat→List Nat}{D:List Nat}{t:Nat}(ht:t<5) (hD:t ∉ D) (j:Nat):need sc D j=need sc (D++[t]) j+(sc t).count j:=sum_add hD List.nodup_range (List.mem_range.mpr ht)
theorem need_zero {sc:Nat→List Nat}{D:List Nat}{p j:Nat}(h:need sc D j=0) (hp:p<5) (hD:p ∉ D):j ∉ sc p:=fun q=>by
 have:=need_add (sc:=sc) hp hD j
 have:=List.count_pos_iff.mpr q
 lia
theorem need_pos {sc:Nat→List Nat}{D:List Nat}{j:Nat}(h:need sc D j≠0):∃ p,p<5∧p ∉ D∧j∈sc p:=by
 false_or_by_contra
 rename_i q
 apply h
 unfold need
 have:((List.range 5).map fun p=>if p∈D then 0 else(sc p).count j)=(List.range 5).map fun _=>0:=List.map_congr_left fun p hp=>by
  by_cases hD:p∈D
  ·simp[hD]
  ·rw[if_neg hD]
   refine List.count_eq_zero.mpr fun z=>q ⟨p,List.mem_range.mp hp,hD,z⟩
 rw[this];rfl
theorem sum5:∀ {ps:List Nat},(∀ p∈ps,p<5)→ps.count 0+(ps.count 1+(ps.count 2+(ps.count 3+ps.count 4)))=ps.length
 | [],_=>rfl
 | p::ps,h=>by
  have ih:=sum5 fun x hx=>h x (List.mem_cons_of_mem _ hx)
  have hp:=h p (by exact .head _)
  skip
  rcases(show p=0∨p=1∨p=2∨p=3∨p=4 by lia) with rfl | rfl | rfl | rfl | rfl<;>simp<;>lia
theorem SL.need0 {L:List (Nat × List Nat)}{ks:List Nat}{np:Nat→Int}{sc:Nat→List Nat}(h:SL L ks np sc) (h5:∀ x∈L,∀ p∈x.2,p<5) (j:Nat):np j=(need sc [] j:Int):=by
 have key:∀ L:List (Nat × List Nat),(∀ x∈L,∀ p∈x.2,p<5)→((List.range 5).map fun p=>(L.flatMap fun x=>List.replicate (x.2.count p) x.1).count j).sum=(L.map fun x=>if x.1=j then x.2.length else 0).sum:=fun L=>by
  induction L with
  | nil=>intro _;rfl
  | cons x L ih=>
   intro hx
   have i2:=ih fun y hy=>hx y (List.mem_cons_of_mem _ hy)
   have i3:=sum5 (hx x (by exact .head _))
   have er:List.range 5=[0,1,2,3,4]:=rfl
   simp only[er,List.map_cons,List.map_nil,List.sum_cons,List.sum_nil,List.flatMap_cons,List.count_append,List.count_replicate,beq_iff_eq] at i2 ⊢
   by_cases q:x.1=j
   ·simp only[q,if_true];lia
   ·simp only[q,if_false];lia
 rw[h.npe,← key L h5]
 unfold need
 simp only[h.sce,List.not_mem_nil,if_false]
theorem done_fold:∀(l:List Nat) (np:Nat→Int) (rdy:List Nat),(∀ j∈l,(l.count j:Int)≤np j)→
  (∀ j,(l.foldl doneStep (np,rdy)).1 j=np j - (l.count j:Int))∧∃ new:List Nat,(l.foldl doneStep (np,rdy)).2=rdy++new∧new.Nodup∧∀ j,j∈new↔j∈l∧np j=(l.count j:Int)
 | [],np,rdy,_=>⟨fun j=>by simp,[],by simp⟩
 | i::l,np,rdy,h=>by
  have hi:((i::l).count i:Int)≤np i:=h i (by exact .head _)
  rw[List.count_cons_self] at hi
  have ci:∀ j,j≠i→(i::l).count j=l.count j:=fun j hj=>List.count_cons_of_ne (Ne.symm hj)
  obtain⟨a,new,b,c,e⟩:=done_fold l (upd np i (np i - 1)) (if np i - 1=0 then rdy++[i] else rdy) fun j hj=>by
   unfold upd
   by_cases q:j=i
   ·subst q;simp;lia
   ·rw[if_neg q,← ci j q];exact h j (List.mem_cons_of_mem _ hj)
  have hf:(i::l).foldl doneStep (np,rdy)=l.foldl doneStep (upd np i (np i - 1),if np i - 1=0 then rdy++[i] else rdy):=rfl
  rw[hf]
  refine⟨fun j=>?_,?_⟩
  ·rw[a]
   unfold upd
   by_cases q:j=i
   ·subst q;rw[if_pos rfl,List.count_cons_self];lia
   ·rw[if_neg q,ci j q]
  ·have ei:i∈new↔i∈l∧np i - 1=(l.count i:Int):=by rw[e];simp[upd]
   have ej:∀ j,j≠i→(j∈new↔j∈i::l∧np j=((i::l).count j:Int)):=fun j q=>by rw[e,ci j q];simp[upd,q]
   by_cases h0:np i - 1=0
   ·have c0:l.count i=0:=by lia
    have nil:i ∉ l:=List.count_eq_zero.mp c0
    refine⟨i::new,by rw[b,if_pos h0,List.append_assoc];rfl,List.nodup_cons.mpr ⟨fun q=>nil (ei.mp q).1,c⟩,fun j=>?_⟩
    by_cases q:j=i
    ·subst q;rw[List.count_cons_self];simp;lia
    ·rw[← ej j q];simp[q]
   ·refine⟨new,by rw[b,if_neg h0],c,fun j=>?_⟩
    by_cases q:j=i
    ·subst q
     rw[ei,List.count_cons_self]
     constructor
     ·rintro⟨x,y⟩;exact⟨by exact .head _,by lia⟩
     ·rintro⟨x,y⟩
      have:0<l.count j:=by lia
      exact⟨List.count_pos_iff.mp this,by lia⟩
    ·exact ej j q
structure GI (sc:Nat→List Nat) (np:Nat→Int) (D out rdy:List Nat):Prop where
 d5:∀ k∈D,k<5
 o5:∀ k∈out,k<5∧k ∉ D
 dnd:D.Nodup
 ond:out.Nodup
 rnd:rdy.Nodup
 dn:∀ k∈D,np k=-2
 ot:∀ k∈out,np k=-1
 z:∀ k,k∈D∨k∈out→need sc D k=0
 nn:∀ k,k<5→k ∉ D→k ∉ out→np k=(need sc D k:Int)
 rd:∀ k,k∈rdy↔k<5∧k ∉ D∧k ∉ out∧need sc D k=0
section
variable {sc:Nat→List Nat}{np:Nat→Int}{D out rdy:List Nat}{pl:Nat→Nat}
theorem GI.pass (h:GI sc np D [] rdy):GI sc (outNp np rdy) D rdy [] where
 d5:=h.d5
 o5 k hk:=⟨((h.rd k).mp hk).1,((h.rd k).mp hk).2.1⟩
 dnd:=h.dnd
 ond:=h.rnd
 rnd:=.nil
 dn k hk:=by
  unfold outNp
  rw[if_neg fun q=>((h.rd k).mp q).2.1 hk];exact h.dn k hk
 ot k hk:=by unfold outNp;rw[if_pos hk]
 z k hk:=hk.elim (fun q=>h.z k (.inl q)) fun q=>((h.rd k).mp q).2.2.2
 nn k h5 hD ho:=by unfold outNp;rw[if_neg ho];exact h.nn k h5 hD (by simp)
 rd k:=by
  constructor
  ·intro q;cases q
  ·rintro⟨a,b,c,e⟩
   exact absurd ((h.rd k).mpr ⟨a,b,by simp,e⟩) c
theorem GI.turn {t:Nat}(h:GI sc np D (t::out) rdy) (hedge:∀ p k,p<5→k∈sc p→k<5∧pl p<pl k):GI sc ((sc t).foldl doneStep (upd np t (-2),rdy)).1 (D++[t]) out ((sc t).foldl doneStep (upd np t (-2),rdy)).2:=by
 obtain⟨t5,tD⟩:=h.o5 t (by exact .head _)
 have to:=(List.nodup_cons.mp h.ond).1
 have add:=need_add (sc:=sc) t5 tD
 have old:∀ k,k∈D∨k∈t::out→k ∉ sc t:=fun k hk=>need_zero (h.z k hk) t5 tD
 have tt:t ∉ sc t:=old t (.inr (by exact .head _))
 have suc:∀ j∈sc t,j<5∧j≠t∧j ∉ D∧j ∉ out:=fun j hj=>⟨(hedge t j t5 hj).1,fun q=>tt (q▸hj),fun q=>old j (.inl q) hj,fun q=>old j (.inr (List.mem_cons_of_mem _ q)) hj⟩
 obtain⟨a,new,b,c,e⟩:=done_fold (sc t) (upd np t (-2)) rdy fun j hj=>by
  refine gv fun _ gk=>?_
  obtain⟨j5,jt,jD,jo⟩:=suc j hj
  refine gk ?_
  unfold upd
  rw[if_neg jt,h.nn j j5 jD (by simp[jt,jo]),add j];exact Int.ofNat_le.mpr (Nat.le_add_left _ _)
 rw[b]
 have np':∀ k,k ∉ sc t→((sc t).foldl doneStep (upd np t (-2),rdy)).1 k=upd np t (-2) k:=fun k hk=>by rw[a,List.count_eq_zero.mpr hk];simp
 refine⟨fun k hk=>?_,fun k hk=>?_,?_,(List.nodup_cons.mp h.ond).2,?_,fun k hk=>?_,fun k hk=>?_,fun k hk=>?_,fun k k5 kD ko=>?_,fun k=>?_⟩
 ·rcases List.mem_append.mp hk with q | q
  ·exact h.d5 k q
  ·simp at q;rw[q];exact t5
 ·obtain⟨x,y⟩:=h.o5 k (List.mem_cons_of_mem _ hk)
  exact⟨x,by simp[y];exact fun q=>to (q▸hk)⟩
 ·exact List.nodup_append.mpr ⟨h.dnd,by simp,fun x hx y hy=>by simp at hy;rw[hy];exact fun q=>tD (q▸hx)⟩
 ·refine List.nodup_append.mpr ⟨h.rnd,c,fun x hx y hy q=>?_⟩
  subst q
  have:=((h.rd x).mp hx).2.2.2
  exact need_zero this t5 tD ((e x).mp hy).1
 ·rcases List.mem_append.mp hk with q | q
  ·have:k≠t:=fun z=>tD (z▸q)
   rw[np' k (old k (.inl q))];simp only[upd,this,if_false];exact h.dn k q
  ·simp at q;subst q
   rw[np' k tt];simp[upd]
 ·have:k≠t:=fun z=>to (z▸hk)
  rw[np' k (old k (.inr (List.mem_cons_of_mem _ hk)))];simp only[upd,this,if_false];exact h.ot k (List.mem_cons_of_mem _ hk)
 ·have h2:k∈D∨k∈t::out:=by
   rcases hk with q | q
   ·rcases List.mem_append.mp q with q | q
    ·exact .inl q
    ·simp at q;rw[q];exact .inr (by exact .head _)
   ·exact .inr (List.mem_cons_of_mem _ q)
  have:=h.z k h2
  have:=add k
  lia
 ·have kt:k≠t:=fun q=>kD (by simp[q])
  have kD':k ∉ D:=fun q=>kD (List.mem_append_left _ q)
  rw[a]
  simp only[upd,kt,if_false]
  rw[h.nn k k5 kD' (by simp[kt,ko]),add k];lia
 ·rw[List.mem_append,e,h.rd]
  have:=add k
  constructor
  ·rintro(⟨k5,kD,ko,k0⟩ | ⟨ks,k0⟩)
   ·have kt:k≠t:=fun q=>ko (by simp[q])
    exact⟨k5,by simp[kD,kt],fun q=>ko (List.mem_cons_of_mem _ q),by lia⟩
   ·refine gv fun _ gk=>?_
    obtain⟨j5,jt,jD,jo⟩:=suc k ks
    refine gk ?_
    simp only[upd,jt,if_false] at k0
    rw[h.nn k j5 jD (by simp[jt,jo])] at k0
    exact⟨j5,by simp[jD,jt],jo,by lia⟩
  ·rintro⟨k5,kD,ko,k0⟩
   have kt:k≠t:=fun q=>kD (by simp[q])
   have kD':k ∉ D:=fun q=>kD (List.mem_append_left _ q)
   have hn:=h.nn k k5 kD' (by simp[kt,ko])
   by_cases q:k∈sc t
   ·right
    refine⟨q,?_⟩
    simp only[upd,kt,if_false]
    rw[hn];lia
   ·left
    have:=List.count_eq_zero.mpr q
    exact⟨k5,kD',by simp[kt,ko],by lia⟩
theorem GI.all (h:GI sc np D [] []) (hedge:∀ p k,p<5→k∈sc p→k<5∧pl p<pl k):∀ n k,k<5→pl k<n→k∈D:=by
 intro n
 induction n with
 | zero=>intro k _ q;exact absurd q (Nat.not_lt_zero _)
 | succ n ih=>
  intro k hk hn
  false_or_by_contra
  rename_i hD
  have hz:need sc D k≠0:=fun q=>by
   have:=(h.rd k).mpr ⟨hk,hD,by simp,q⟩
   cases this
  obtain⟨p,p5,pD,ps⟩:=need_pos hz
  have:=(hedge p k p5 ps).2
  exact pD (ih p p5 (by exact Nat.lt_of_lt_of_le this (Nat.le_of_lt_succ hn)))
end
open PySem PySem.W
noncomputable def LB_law_least2:PM PFlow:=(bCons (sAug 6 oAdd true (pCall (.ref 92) F_reduce (pConst (.const (.ref 92))) (aCons (pConst (.const (.ref 226))) (aCons (pListComp 1 [(5,"least")] (pIter (pLoc 4)) (setV 0) (ret true) (pSub (pLoc 1) (pLoc 0))) (aCons (pList (aCons (pLoc 3) aNil)) aNil)))))
 bNil)
noncomputable def sumsR (LV:Nat→List Int) (rs:List (Nat × List Nat)):List Int:=rs.flatMap fun r=>(r.2.map LV).foldl joinedP [(r.1:Int)]
noncomputable def ns3:List Int→List Int
 | [x,y]=>if y<x then[y,x] else[x,y]
 | e0::e1::e2::rest=>nsP e0 e1 e2 rest
 | l=>l
theorem flat_len {τ:Type}{f:τ→List Int}:∀ {l:List τ},(∀ x∈l,(f x).length≤1000)→(l.flatMap f).length≤1000*l.length
 | [],_=>by exact nle rfl
 | x::l,h=>by
  have:=flat_len fun y hy=>h y (List.mem_cons_of_mem _ hy)
  have:=h x (by exact .head _)
  rw[List.flatMap_cons,List.length_append,List.length_cons];lia
section
variable {H K:List PObj}{V:List (Option PV)}{R:PV→List PObj→Prop}
theorem fw_ns3 {i:Nat}{xs:List Int}(hi:K[i]?=some (.list (xs.map .int))) (hx:xs.length=2∨4≤xs.length∧xs.length≤1000) (h:∀ ext r,(K++ext)[r]?=some (.list ((ns3 xs).map .int))→K.length≤r→R (.ref r) (K++ext)):Fw F_nsmallest [.int 3,.ref i] K R:=by
 match xs,hx with
 | [x,y],_=>
  refine fw_ns2 hi ?_
  have e:(if y<x then[PV.int y,.int x] else[.int x,.int y])=(ns3 [x,y]).map .int:=by
   by_cases hc:y<x<;>simp[ns3,hc]
  rw[e]
  exact h _ _ (at2b _ _) (by exact Nat.le_succ _)
 | e0::e1::e2::rest,hx=>
  refine fw_nsm hi (by simp at hx;exact Nat.lt_of_succ_le hx.1) (by simp at hx;exact Nat.le_trans hx.2 (by decide)) fun X Y=>?_
  refine h [X,Y,.list ((nsP e0 e1 e2 rest).map .int)] _ ?_ (by exact Nat.le_add_right _ _)
  rw[List.getElem?_append_right (by exact Nat.le_add_right _ _)]
  have:K.length+2 - K.length=2:=by lia
  rw[this];rfl
 | [],hx=>simp at hx
 | [x],hx=>simp at hx
theorem least_comp {q ep pl:Nat}{D ps:List Nat}{lf:Nat→Nat}{v0 v1 v2 v3 v6:Option PV}{Q:PV→PS→Prop}(hq:K[q]?=some (.dict (keyV D lf) ep)) (hp:K[pl]?=some (.list (partsV ps))) (hin:∀ p∈ps,p∈D) (hl:ps.length≤900)
  (h:Q (.ref K.length) ⟨K++[.list ((ps.map lf).map .ref)],[v0,v1,v2,v3,some (.ref pl),some (.ref q),v6]⟩):
  Wp (pListComp 1 [(5,"least")] (pIter (pLoc 4)) (setV 0) (ret true) (pSub (pLoc 1) (pLoc 0))) ⟨K,[v0,v1,v2,v3,some (.ref pl),some (.ref q),v6]⟩ Q:=by
 refine wp_listcomp (wp_iter (wp_loc rfl ⟨_,it_list hp,?_⟩))
 have hpl:(partsV ps).length=ps.length:=by simp[partsV]
 refine wp_compL_inv (fun n σ=>∃ v,σ=⟨K++[.list (((ps.take n).map lf).map .ref)],[v,some (.ref q)]⟩) (partsV ps) ?_ ?_ ?_ 0 _ (Nat.zero_le _) ⟨none,rfl⟩
 ·rintro n σ ⟨v,rfl⟩
  exact atl hp
 ·rintro n p σ hpn ⟨v,rfl⟩
  obtain⟨hn,rfl⟩:=partsV_get hpn
  dsimp only[It.still]
  refine wp_setV ?_
  dsimp only[List.set_cons_succ,List.set_cons_zero]
  refine Wp.ret ⟨fun _=>?_,fun hb=>absurd hb (by decide)⟩
  repeat walk_at "p"
  refine⟨.ref (lf ps[n]),by simp only[itemOf,atl hq,dget_key,hin _ (List.getElem_mem hn),if_true],?_⟩
  refine fw_append_at (at1a _) (by simp;lia) ?_
  rw[app1]
  refine⟨some (.int (ps[n]:Nat)),?_⟩
  rw[List.take_succ_eq_append_getElem hn,List.map_append,List.map_append];rfl
 ·rintro σ ⟨v,rfl⟩
  rw[hpl,List.take_length]
  exact⟨rfl,h⟩
theorem least_sums {rc q ep t:Nat}{rec:Nat→List (Nat × List Nat)}{D:List Nat}{lf:Nat→Nat}{LV:Nat→List Int}{v1 v3 v4:Option PV}{Q:PFlow→PS→Prop}(hR:Rcp K rc rec) (hO:RecOK rec) (ht:t<5) (h2:(rec t).length≤2) (hq:K[q]?=some (.dict (keyV D lf) ep)) (hlf:∀ k∈D,K[lf k]?=some (.list ((LV k).map .int)))
  (hparts:∀ r∈rec t,∀ p∈r.2,p∈D) (hLV:∀ k,k<5→0<(LV k).length∧(LV k).length≤1000)
  (h:∀ ext v3 v4,Q .next ⟨K++.list ((sumsR LV (rec t)).map .int)::ext,[some (.ref rc),v1,some (.int (t:Int)),v3,v4,some (.ref q),some (.ref K.length)]⟩):
  Wp (sFor (pIter (pSub (pLoc 0) (pLoc 2))) (tupT [(setV 3),(setV 4)]) LB_law_least2) ⟨K++[.list []],[some (.ref rc),v1,some (.int (t:Int)),v3,v4,some (.ref q),some (.ref K.length)]⟩ Q:=by
 refine gv fun _ gk=>?_
 obtain⟨l,pls,i1,i2,i3,i4⟩:=recs_at hR ht
 refine gk ?_
 have hlen:=recV_len (rs:=rec t) i2
 refine wp_sFor (wp_iter (wp_sub (wp_loc rfl (wp_loc rfl ⟨.ref l,?_,⟨_,it_list (atl i3),?_⟩⟩))))
 ·refine gv fun _ gk=>?_
  obtain⟨l2,pls2,j1,j2,j3,j4⟩:=recs_at (hR.app [.list []]) ht
  obtain⟨es,ep,e1,e2⟩:=hR
  refine gk ?_
  simp only[itemOf,e1] at i1
  simp only[itemOf,atl e1,i1]
 refine wp_forL_inv (fun j σ=>Ex3 fun ext v3 v4=>σ=⟨K++.list ((sumsR LV ((rec t).take j)).map .int)::ext,[some (.ref rc),v1,some (.int (t:Int)),v3,v4,some (.ref q),some (.ref K.length)]⟩)
  (recV (rec t) pls) ?_ ?_ ?_ 0 _ (Nat.zero_le _) ⟨[],_,_,rfl⟩
 ·rintro j σ ⟨ext,v3,v4,rfl⟩
  exact atl i3
 ·rintro j p σ hp ⟨ext,v3,v4,rfl⟩
  have hj:j<(rec t).length:=by have:=(List.getElem?_eq_some_iff.mp hp).1;exact Nat.lt_of_lt_of_eq this hlen
  refine gv fun _ gk=>?_
  obtain⟨pl,rfl,hpl⟩:=i4 j hj p hp
  obtain⟨o1,o2,o3⟩:=(hO t ht).2 (rec t)[j] (List.getElem_mem hj)
  refine gk ?_
  have hin:=hparts _ (List.getElem_mem hj)
  have et:sumsR LV ((rec t).take (j+1))=sumsR LV ((rec t).take j)++((rec t)[j].2.map LV).foldl joinedP [((rec t)[j].1:Int)]:=by
   unfold sumsR
   rw[List.take_succ_eq_append_getElem hj,List.flatMap_append];simp
  have len1:∀ r∈rec t,((r.2.map LV).foldl joinedP [(r.1:Int)]).length≤1000:=fun r hr=>(fold_len _ _ ⟨by exact nle rfl,by exact nle rfl⟩).2
  have len2:(sumsR LV ((rec t).take j)).length≤2000:=by
   have:=flat_len (l:=(rec t).take j) (f:=fun r=>(r.2.map LV).foldl joinedP [(r.1:Int)]) fun r hr=>len1 r (List.mem_of_mem_take hr)
   unfold sumsR
   rw[List.length_take] at this
   lia
  have len3:=len1 _ (List.getElem_mem hj)
  rw[et]
  generalize sumsR LV ((rec t).take j)=S at*
  generalize (rec t)[j]=rj at*
  dsimp only[It.still]
  refine wp_tupT (wp_setAll_cons (wp_setV (wp_setAll_cons (wp_setV (wp_setAll_nil ?_)))))
  dsimp only[List.set_cons_succ,List.set_cons_zero]
  unfold LB_law_least2
  walk_at "p"
  walk_at "p"
  walk_at "p"
  walk_at "p"
  walk_at "p"
  walk_at "p"
  refine least_comp (atl hq) (atl hpl) hin (by exact Nat.le_trans o2 (by decide)) ?_
  repeat walk_at "p"
  refine⟨by exact nle rfl,?_⟩
  walk_at "p"
  refine fw_reduce (ls:=rj.2.map lf) (oss:=rj.2.map LV) (ps:=[(rj.1:Int)]) (atl (at1a _)) (by simp) (fun a l os e1 e2=>?_) (at1a _) (by simp) (by simp) fun ext2 r hr=>?_
  ·rw[List.getElem?_map] at e1 e2
   refine gv fun _ gk=>?_
   obtain⟨p,q1,q2⟩:=Option.map_eq_some_iff.mp e1
   obtain⟨p',q3,q4⟩:=Option.map_eq_some_iff.mp e2
   refine gk ?_
   rw[q1] at q3;obtain rfl:=sj q3
   subst q2 q4
   have pm:=List.mem_of_getElem? q1
   exact⟨atl (atl (atl (hlf p (hin p pm)))),hLV p (o3 p pm)⟩
  ·refine⟨.ref K.length,_,by
    simp only[augOf,if_true]
    rw[hr]
    simp only[atl (atl (atl (atc _ _)))]
    rw[if_pos (by simp only[List.length_map];exact Nat.le_trans (Nat.add_le_add len2 len3) (by decide))],?_⟩
   try dsimp only[List.set_cons_succ,List.set_cons_zero]
   walk_at "p"
   refine⟨.inl rfl,ext++[.list ((rj.2.map lf).map .ref)]++[.list [.int (rj.1:Int)]]++ext2,some (.int (rj.1:Int)),some (.ref pl),?_⟩
   have e1:K++PObj.list (S.map .int)::ext++[PObj.list ((rj.2.map lf).map .ref)]++[PObj.list [.int (rj.1:Int)]]++ext2=K++PObj.list (S.map .int)::(ext++[PObj.list ((rj.2.map lf).map .ref)]++[PObj.list [.int (rj.1:Int)]]++ext2):=by simp
   rw[e1,appc,List.map_append]
 ·rintro σ ⟨ext,v3,v4,rfl⟩
  rw[hlen,List.take_length]
  exact h _ _ _
end
open PySem PySem.W
noncomputable def LB_law_least3:PM PFlow:=(bCons (sSet 6 (pList aNil))
 (bCons (sFor (pIter (pSub (pLoc 0) (pLoc 2))) (tupT [(setV 3),(setV 4)]) LB_law_least2)
 (bCons (sPut (pCall (.ref 83) F_nsmallest (pConst (.const (.ref 83))) (aCons (pConst (.int 3)) (aCons (pLoc 6) aNil))) (pLoc 5) (pLoc 2))
 (bCons (sExpr (pMethS F_done (pLoc 1) (aCons (pLoc 2) aNil)))
 bNil))))
noncomputable def LT_law_least4:PM Bool:=(pTruth (pMethS F_is_active (pLoc 1) aNil))
noncomputable def LB_law_least4:PM PFlow:=(bCons (sFor (pIter (pMethS F_get_ready (pLoc 1) aNil)) (setV 2) LB_law_least3)
 bNil)
structure Stt (H:List PObj) (rc d rl q:Nat) (ks:List Nat) (sf:Nat→Nat) (sc:Nat→List Nat) (rec:Nat→List (Nat × List Nat)) (pl:Nat→Nat) (LV:Nat→List Int):Prop where
 hR:Rcp H rc rec
 hO:RecOK rec
 h2:∀ k,k<5→(rec k).length≤2
 ks5:∀ k,k∈ks↔k<5
 edge:∀ p k,p<5→k∈sc p→k<5∧pl p<pl k
 part:∀ t,t<5→∀ r∈rec t,∀ p∈r.2,t∈sc p
 scl:∀ p,(sc p).length≤100
 hLV:∀ k,k<5→LV k=ns3 (sumsR LV (rec k))
 lenS:∀ k,k<5→(sumsR LV (rec k)).length=2∨4≤(sumsR LV (rec k)).length∧(sumsR LV (rec k)).length≤1000
 lenL:∀ k,k<5→0<(LV k).length∧(LV k).length≤1000
 hrl:∀ k∈ks,sf k≠rl
 rls:H.length<rl
 qs:H.length<q
 dq:d≠q
structure LH (H K:List PObj) (d rl q:Nat) (ks:List Nat) (nf sf:Nat→Nat) (sc:Nat→List Nat) (LV:Nat→List Int) (np:Nat→Int) (D rdy:List Nat) (pa fi:Int) (lf:Nat→Nat):Prop where
 g:SG K H.length d (.ref rl) pa fi ks nf sf np sc
 hr:K[rl]?=some (.list (natsV rdy))
 low:∀ i,i<H.length→K[i]?=H[i]?
 hq:∃ ep,K[q]?=some (.dict (keyV D lf) ep)
 hl:∀ k∈D,K[lf k]?=some (.list ((LV k).map .int))∧lf k≠rl
theorem len5 {l:List Nat}(h:l.Nodup) (h5:∀ k∈l,k<5):l.length≤5:=by
 have:=h.length_le_of_subset (l₂:=List.range 5) fun k hk=>List.mem_range.mpr (h5 k hk)
 exact this
section
variable {H K:List PObj}{rc d rl q:Nat}{ks:List Nat}{nf sf:Nat→Nat}{sc:Nat→List Nat}{rec:Nat→List (Nat × List Nat)}{pl:Nat→Nat}{LV:Nat→List Int}{np:Nat→Int}{D out rdy:List Nat}{pa fi:Int}{lf:Nat→Nat}{R:PV→List PObj→Prop}
theorem least_turn {t:Nat}(S:Stt H rc d rl q ks sf sc rec pl LV) (L:LH H K d rl q ks nf sf sc LV np D rdy pa fi lf) (G:GI sc np D (t::out) rdy) {v3 v4 v6:Option PV}{Q:PFlow→PS→Prop}
  (h:∀ K' lf' v3 v4 v6,LH H K' d rl q ks nf sf sc LV ((sc t).foldl doneStep (upd np t (-2),rdy)).1 (D++[t]) ((sc t).foldl doneStep (upd np t (-2),rdy)).2 pa (fi+1) lf'→Q .next ⟨K',[some (.ref rc),some (.ref H.length),some (.int (t:Int)),v3,v4,some (.ref q),v6]⟩):
  Wp LB_law_least3 ⟨K,[some (.ref rc),some (.ref H.length),some (.int (t:Int)),v3,v4,some (.ref q),v6]⟩ Q:=by
 refine gv fun _ gk=>?_
 obtain⟨t5,tD⟩:=G.o5 t (by exact .head _)
 obtain⟨ep,hq⟩:=L.hq
 refine gk ?_
 have hparts:∀ r∈rec t,∀ p∈r.2,p∈D:=fun r hr p hp=>by
  false_or_by_contra
  rename_i hD
  exact need_zero (G.z t (.inr (by exact .head _))) (((S.hO t t5).2 r hr).2.2 p hp) hD (S.part t t5 r hr p hp)
 have hDl:=len5 G.dnd G.d5
 have hRl:=len5 G.rnd fun k hk=>((G.rd k).mp hk).1
 unfold LB_law_least3
 repeat walk_at "p"
 refine⟨by simp,?_⟩
 try dsimp only[List.set_cons_succ,List.set_cons_zero]
 refine wp_bCons (least_sums (S.hR.low L.low) S.hO t5 (S.h2 t t5) hq (fun k hk=>(L.hl k hk).1) hparts S.lenL fun ext v3 v4=>?_)
 repeat walk_at "p"
 refine fw_ns3 (atc _ _) (S.lenS t t5) fun ext2 r hr hge=>?_
 rw[← S.hLV t t5] at hr
 have hge2:K.length≤r:=by rw[List.length_append] at hge;exact Nat.le_trans (Nat.le_add_right _ _) hge
 have keep:∀ i,i<K.length→(K++PObj.list ((sumsR LV (rec t)).map .int)::ext++ext2)[i]?=K[i]?:=fun i hi=>by rw[app_lt (by simp;exact Nat.lt_add_right _ hi),app_lt hi]
 generalize K++PObj.list ((sumsR LV (rec t)).map .int)::ext++ext2=K1 at*
 have up:∀ {i o},K[i]?=some o→K1[i]?=some o:=fun {i o} e=>by rw[keep _ (List.getElem?_eq_some_iff.mp e).1];exact e
 have g1:SG K1 H.length d (.ref rl) pa fi ks nf sf np sc:=L.g.keeps fun i o e _=>up e
 have hr1:=up L.hr
 have hq1:=up hq
 repeat walk_at "p"
 refine⟨_,by
  simp only[putItem,hq1]
  rw[if_pos (by simp only[keyV,List.length_map];exact Nat.le_trans hDl (by decide)),dput_key tD],?_⟩
 have g2:SG (K1.set q (.dict (keyV (D++[t]) (upd lf t r)) (dep (keyV D lf) (t:Int) ep))) H.length d (.ref rl) pa fi ks nf sf np sc:=g1.keeps fun i o e hi=>set_ne e (by
  rcases hi with rfl | rfl | ⟨k,hk,rfl | rfl⟩
  ·exact kind_ne hq1 g1.hs (by exact tne rfl)
  ·exact Ne.symm S.dq
  ·exact kind_ne hq1 (g1.hn k hk) (by exact tne rfl)
  ·exact kind_ne hq1 (g1.hl k hk) (by exact tne rfl))
 have hr2:=set_ne (X:=.dict (keyV (D++[t]) (upd lf t r)) (dep (keyV D lf) (t:Int) ep)) hr1 (kind_ne hq1 hr1 (by exact tne rfl))
 have hq2:=set_eq (X:=.dict (keyV (D++[t]) (upd lf t r)) (dep (keyV D lf) (t:Int) ep)) hq1
 have hv2:=set_ne (X:=.dict (keyV (D++[t]) (upd lf t r)) (dep (keyV D lf) (t:Int) ep)) hr (kind_ne hq1 hr (by exact tne rfl))
 have ho2:∀ k∈D,_:=fun k hk=>set_ne (X:=.dict (keyV (D++[t]) (upd lf t r)) (dep (keyV D lf) (t:Int) ep)) (up (L.hl k hk).1) (kind_ne hq1 (up (L.hl k hk).1) (by exact tne rfl))
 have low2:∀ i,i<H.length→(K1.set q (.dict (keyV (D++[t]) (upd lf t r)) (dep (keyV D lf) (t:Int) ep)))[i]?=H[i]?:=fun i hi=>by
  have:=S.qs
  have:=L.g.sl
  rw[set_lt (by lia),keep i (by exact Nat.lt_trans hi this)];exact L.low i hi
 generalize K1.set q (.dict (keyV (D++[t]) (upd lf t r)) (dep (keyV D lf) (t:Int) ep))=K2 at*
 repeat walk_at "p"
 refine⟨isS_at g2.hs,?_⟩
 repeat walk_at "p"
 have hsl:=S.scl t
 refine fw_done g2 hr2 S.hrl ((S.ks5 t).mpr t5) (G.ot t (by exact .head _)) (fun j hj=>(S.ks5 j).mpr (S.edge t j t5 hj).1) (by exact Nat.le_trans (Nat.add_le_add hRl hsl) (by decide)) fun K3 g3 hr3 a3=>?_
 walk_at "p"
 have hrlK:rl<K.length:=(List.getElem?_eq_some_iff.mp L.hr).1
 refine h K3 (upd lf t r) _ _ _ ⟨g3,hr3,fun i hi=>?_,⟨dep (keyV D lf) (t:Int) ep,?_⟩,fun k hk=>?_⟩
 ·have:=S.rls
  rw[a3.2 i (by exact Nat.ne_of_lt hi) (by exact Nat.ne_of_lt (Nat.lt_trans hi this)) fun k hk=>by have:=(g2.lo.2 k hk).1;exact Nat.ne_of_lt (Nat.lt_trans hi this)]
  exact low2 i hi
 ·rw[a3.2 q (kind_ne hq2 g2.hs (by exact tne rfl)) (kind_ne hq2 hr2 (by exact tne rfl)) fun k hk=>kind_ne hq2 (g2.hn k hk) (by exact tne rfl)]
  exact hq2
 ·by_cases hkt:k=t
  ·rw[hkt]
   simp only[upd,if_true]
   exact⟨by rw[a3.2 r (kind_ne hv2 g2.hs (by exact tne rfl)) (by exact Nat.ne_of_gt (Nat.lt_of_lt_of_le hrlK hge2)) fun j hj=>kind_ne hv2 (g2.hn j hj) (by exact tne rfl)];exact hv2,by exact Nat.ne_of_gt (Nat.lt_of_lt_of_le hrlK hge2)⟩
  ·have hkD:k∈D:=by simpa[hkt] using hk
   simp only[upd,hkt,if_false]
   exact⟨by rw[a3.2 _ (kind_ne (ho2 k hkD) g2.hs (by exact tne rfl)) (L.hl k hkD).2 fun j hj=>kind_ne (ho2 k hkD) (g2.hn j hj) (by exact tne rfl)];exact ho2 k hkD,(L.hl k hkD).2⟩
theorem least_loop (S:Stt H rc d rl q ks sf sc rec pl LV) {Q:PFlow→PS→Prop}(h:∀ K' D np pa lf v2 v3 v4 v6,LH H K' d rl q ks nf sf sc LV np D [] pa pa lf→GI sc np D [] []→Q .next ⟨K',[some (.ref rc),some (.ref H.length),v2,v3,v4,some (.ref q),v6]⟩):
  ∀(n:Nat) (K:List PObj) (D rdy:List Nat) (np:Nat→Int) (pa:Int) (lf:Nat→Nat) (v2 v3 v4 v6:Option PV),5 - D.length<n→LH H K d rl q ks nf sf sc LV np D rdy pa pa lf→GI sc np D [] rdy→
   Wp (whileM LT_law_least4 LB_law_least4 bNil) ⟨K,[some (.ref rc),some (.ref H.length),v2,v3,v4,some (.ref q),v6]⟩ Q:=by
 intro n
 induction n with
 | zero=>intro K D rdy np pa lf v2 v3 v4 v6 hn;exact absurd hn (Nat.not_lt_zero _)
 | succ n ih=>
  intro K D rdy np pa lf v2 v3 v4 v6 hn L G
  have hRl:=len5 G.rnd fun k hk=>((G.rd k).mp hk).1
  have hnl:(natsV rdy).length=rdy.length:=by simp[natsV]
  refine wp_while ?_
  unfold LT_law_least4
  repeat walk_at "p"
  refine⟨isS_at L.g.hs,?_⟩
  walk_at "p"
  refine fw_is_active L.g L.hr (by exact Nat.le_trans hRl (by decide)) rfl ?_
  refine⟨_,rfl,fun hb=>?_,fun hb=>?_⟩
  ·have:rdy=[]:=by simpa using hb
   subst this
   walk_at "p"
   exact h _ _ _ _ _ _ _ _ _ L G
  ·have hne:0<rdy.length:=by
    cases rdy with
    | nil=>simp at hb
    | cons a b=>simp
   skip
   refine wp_bCons (wp_sFor (wp_iter ?_))
   repeat walk_at "p"
   refine⟨isS_at L.g.hs,?_⟩
   walk_at "p"
   refine fw_get_ready L.g L.hr S.hrl (fun k hk=>(S.ks5 k).mpr ((G.rd k).mp hk).1) (by exact Nat.le_trans hRl (by decide)) fun K1 g1 hr1 a1=>?_
   refine Is.mk (it_tup _ _) ?_
   obtain⟨ep,hq⟩:=L.hq
   have hq1:K1[q]?=some (.dict (keyV D lf) ep):=by
    rw[a1.2 q (kind_ne hq L.g.hs (by exact tne rfl)) (kind_ne hq L.hr (by exact tne rfl)) fun k hk=>kind_ne hq (L.g.hn k hk) (by exact tne rfl)];exact hq
   have L1:LH H K1 d rl q ks nf sf sc LV (outNp np rdy) D [] (pa+(rdy.length:Int)) pa lf:=⟨g1,hr1,fun i hi=>by
     have:=S.rls
     rw[a1.2 i (by exact Nat.ne_of_lt hi) (by exact Nat.ne_of_lt (Nat.lt_trans hi this)) fun k hk=>by have:=(L.g.lo.2 k hk).1;exact Nat.ne_of_lt (Nat.lt_trans hi this)]
     exact L.low i hi,⟨ep,hq1⟩,fun k hk=>by
     obtain⟨x,y⟩:=L.hl k hk
     exact⟨by rw[a1.2 _ (kind_ne x L.g.hs (by exact tne rfl)) y fun j hj=>kind_ne x (L.g.hn j hj) (by exact tne rfl)];exact x,y⟩⟩
   refine wp_forL_inv (fun j σ=>Ex8 fun K' np' rdy' lf' v2 v3 v4 v6=>A3 (σ=⟨K',[some (.ref rc),some (.ref H.length),v2,v3,v4,some (.ref q),v6]⟩) (LH H K' d rl q ks nf sf sc LV np' (D++rdy.take j) rdy' (pa+(rdy.length:Int)) (pa+(j:Int)) lf') (GI sc np' (D++rdy.take j) (rdy.drop j) rdy'))
    (natsV rdy) (fun _ _ _=>trivial) ?_ ?_ 0 _ (Nat.zero_le _) ⟨K1,outNp np rdy,[],lf,v2,v3,v4,v6,rfl,by simpa using L1,by simpa using G.pass⟩
   ·rintro j p σ hp ⟨K',np',rdy',lf',v2,v3,v4,v6,rfl,L2,G2⟩
    obtain⟨hj,rfl⟩:=natsV_get hp
    dsimp only[It.still]
    refine wp_setV ?_
    dsimp only[List.set_cons_succ,List.set_cons_zero]
    rw[List.drop_eq_getElem_cons hj] at G2
    refine least_turn S L2 G2 fun K3 lf3 v3 v4 v6 L3=>⟨.inl rfl,K3,((sc rdy[j]).foldl doneStep (upd np' rdy[j] (-2),rdy')).1,((sc rdy[j]).foldl doneStep (upd np' rdy[j] (-2),rdy')).2,lf3,_,_,_,_,rfl,?_,?_⟩
    ·have e:pa+((j+1:Nat):Int)=pa+(j:Int)+1:=by lia
     rw[List.take_succ_eq_append_getElem hj,← List.append_assoc,e]
     exact L3
    ·rw[List.take_succ_eq_append_getElem hj,← List.append_assoc]
     exact G2.turn S.edge
   ·rintro σ ⟨K',np',rdy',lf',v2,v3,v4,v6,rfl,L2,G2⟩
    rw[hnl] at L2 G2
    rw[List.take_length] at L2 G2
    rw[List.drop_length] at G2
    have:=len5 G2.dnd G2.d5
    rw[List.length_append] at this
    walk_at "p"
    exact ih K' (D++rdy) rdy' np' _ lf' v2 v3 v4 v6 (by rw[List.length_append];lia) L2 G2
theorem fw_least (hR:Rcp H rc rec) (hO:RecOK rec) (h2:∀ k,k<5→(rec k).length=2) (hpl:∀ k,k<5→∀ r∈rec k,∀ p∈r.2,pl p<pl k)
  (hLV:∀ k,k<5→LV k=ns3 (sumsR LV (rec k))) (lenS:∀ k,k<5→(sumsR LV (rec k)).length=2∨4≤(sumsR LV (rec k)).length∧(sumsR LV (rec k)).length≤1000) (lenL:∀ k,k<5→0<(LV k).length∧(LV k).length≤1000)
  (h:∀ K' q D lf ep,(∀ i,i<H.length→K'[i]?=H[i]?)→K'[q]?=some (.dict (keyV D lf) ep)→D.length=5→(∀ k∈D,k<5∧K'[lf k]?=some (.list ((LV k).map .int)))→R (.ref q) K'):Fw F_law_least [.ref rc] H R:=by
 refine fw_run (V0:=[some (.ref rc),none,none,none,none,none,none]) rfl ?_
 refine(?_:Wp (bCons _ (bCons (sFor _ _ LB_law_least1) (bCons _ (bCons _ (bCons (whileM LT_law_least4 LB_law_least4 _) _))))) _ _)
 repeat walk_at "p"
 refine fw_sorter ?_
 try dsimp only[List.set_cons_succ,List.set_cons_zero]
 have h2':∀ k,k<5→(rec k).length≤2:=fun k hk=>by have:=h2 k hk;exact Nat.le_of_eq this
 have g0:SG (H++[PObj.sorter [some (.ref (H.length+1)),some .none,some (.int 0),some (.int 0)],PObj.dict [] 0]) H.length (H.length+1) .none 0 0 [] id id (fun _=>0) (fun _=>[]):=
  ⟨at2a _ _,⟨0,at2b _ _⟩,.nil,fun k hk=>absurd hk (by simp),fun k hk=>absurd hk (by simp),fun k hk=>absurd hk (by simp),⟨by exact Nat.lt_succ_self _,fun k hk=>absurd hk (by simp)⟩,fun k _=>⟨rfl,rfl⟩⟩
 refine wp_bCons (least_adds hR h2' hO g0 (fun i hi=>app_lt hi) fun K1 ks nf sf np sc v2 v3 v4 g1 sl low1=>?_)
 have memA:∀ x,x∈addsOf rec 5↔∃ k,k<5∧∃ r∈rec k,x=(k,r.2):=fun x=>by
  simp only[addsOf,List.mem_flatMap,List.mem_range,List.mem_map]
  exact⟨fun⟨k,a,r,b,c⟩=>⟨k,a,r,b,c.symm⟩,fun⟨k,a,r,b,c⟩=>⟨k,a,r,b,c.symm⟩⟩
 have p5:∀ x∈addsOf rec 5,x.1<5∧∀ p∈x.2,p<5:=fun x hx=>by
  obtain⟨k,hk,r,hr,rfl⟩:=(memA x).mp hx
  exact⟨hk,((hO k hk).2 r hr).2.2⟩
 have memS:∀ p k,k∈sc p↔k<5∧∃ r∈rec k,p∈r.2:=fun p k=>by
  rw[sl.sce,List.mem_flatMap]
  constructor
  ·rintro⟨x,hx,hk⟩
   obtain⟨j,hj,r,hr,rfl⟩:=(memA x).mp hx
   obtain⟨c0,rfl⟩:=List.mem_replicate.mp hk
   exact⟨hj,r,hr,List.count_pos_iff.mp (Nat.pos_iff_ne_zero.mpr c0)⟩
  ·rintro⟨hk,r,hr,hp⟩
   refine⟨(k,r.2),(memA _).mpr ⟨k,hk,r,hr,rfl⟩,List.mem_replicate.mpr ⟨?_,rfl⟩⟩
   have:=List.count_pos_iff.mpr hp
   refine(?_:r.2.count p≠0)
   exact Nat.pos_iff_ne_zero.mp this
 have ks5:∀ k,k∈ks↔k<5:=fun k=>by
  rw[sl.mem]
  constructor
  ·rintro⟨x,hx,rfl | q⟩
   ·exact(p5 x hx).1
   ·exact(p5 x hx).2 k q
  ·intro hk
   have:0<(rec k).length:=by rw[h2 k hk];exact by decide
   exact⟨_,(memA _).mpr ⟨k,hk,(rec k)[0],List.getElem_mem this,rfl⟩,.inl rfl⟩
 have edge:∀ p k,p<5→k∈sc p→k<5∧pl p<pl k:=fun p k _ hk=>by
  obtain⟨k5,r,hr,hp⟩:=(memS p k).mp hk
  exact⟨k5,hpl k k5 r hr p hp⟩
 have al:=adds_len h2' 5 (by exact by decide)
 have scl:∀ p,(sc p).length≤100:=fun p=>by have:=sl.scl p;lia
 have ksl:=len5 g1.nd fun k hk=>(ks5 k).mp hk
 repeat walk_at "p"
 refine⟨isS_at g1.hs,?_⟩
 walk_at "p"
 refine fw_prepare (pl:=pl) g1 (fun p hp k hk=>⟨(ks5 k).mpr (edge p k ((ks5 p).mp hp) hk).1,(edge p k ((ks5 p).mp hp) hk).2⟩) (by exact Nat.le_trans ksl (by decide)) (fun p=>by have:=scl p;exact Nat.le_trans this (by decide)) fun K2 g2 hr2 low2 len2=>?_
 walk_at "p"
 walk_at "p"
 walk_at "p"
 try dsimp only[List.set_cons_succ,List.set_cons_zero]
 have hs1:=g1.sl
 have hd2:=g2.hd
 have S:Stt H rc (H.length+1) K1.length K2.length ks sf sc rec pl LV:=⟨hR,hO,h2',ks5,edge,fun t t5 r hr p hp=>(memS p t).mpr ⟨t5,r,hr,hp⟩,scl,hLV,lenS,lenL,
  fun k hk=>by have:=(List.getElem?_eq_some_iff.mp (g1.hl k hk)).1;exact Nat.ne_of_lt this,hs1,by exact Nat.lt_trans hs1 len2,by
   obtain⟨ep,e⟩:=hd2
   have:=(List.getElem?_eq_some_iff.mp e).1
   exact Nat.ne_of_lt this⟩
 have G:GI sc np [] [] (ks.filter fun k=>decide (np k=0)):=⟨by simp,by simp,.nil,.nil,g1.nd.filter _,by simp,by simp,by simp,fun k _ _ _=>sl.need0 (fun x hx=>(p5 x hx).2) k,fun k=>by
  have:=sl.need0 (fun x hx=>(p5 x hx).2) k
  simp only[List.mem_filter,ks5,decide_eq_true_eq,List.not_mem_nil,not_false_eq_true,true_and,this]
  lia⟩
 have L:LH H (K2++[.dict [] 0]) (H.length+1) K1.length K2.length ks nf sf sc LV np [] (ks.filter fun k=>decide (np k=0)) 0 0 id:=⟨g2.app _,atl hr2,fun i hi=>by rw[app_lt (by exact Nat.lt_of_lt_of_le (Nat.lt_trans hi hs1) (Nat.le_of_lt len2)),low2 i hi];exact low1 i hi,⟨0,at1a _⟩,fun k hk=>absurd hk (by simp)⟩
 refine wp_bCons (least_loop S (fun K3 D np' pa lf v2 v3 v4 v6 L3 G3=>?_) 6 _ _ _ _ _ _ _ _ _ _ (by simp) L G)
 walk_at "s"
 obtain⟨ep,hq3⟩:=L3.hq
 refine h K3 _ D lf ep L3.low hq3 ?_ fun k hk=>⟨G3.d5 k hk,(L3.hl k hk).1⟩
 have:List.Perm D (List.range 5):=(List.perm_ext_iff_of_nodup G3.dnd List.nodup_range).mpr fun k=>⟨fun hk=>List.mem_range.mpr (G3.d5 k hk),fun hk=>G3.all edge _ k (List.mem_range.mp hk) (Nat.lt_succ_self _)⟩
 have:=this.length_eq
 exact this
end
open PySem PySem.W
noncomputable def srt (l:List Int):List Int:=l.mergeSort
noncomputable def lo3 (l:List Int):List Int:=(srt l).take 3
noncomputable abbrev Srtd (l:List Int):Prop:=l.Pairwise (·≤·)
theorem srt_perm (l:List Int):(srt l).Perm l:=List.mergeSort_perm l _
theorem srt_sorted (l:List Int):Srtd (srt l):=by
 have:=List.pairwise_mergeSort (le:=fun a b:Int=>decide (a≤b)) (fun a b c h1 h2=>by simp at*;exact Int.le_trans h1 h2) (fun a b=>by simp;lia) l
 exact this.imp fun h=>of_decide_eq_true h
theorem srt_eq {s l:List Int}(h:s.Perm l) (hs:Srtd s):srt l=s:=
 List.Perm.eq_of_pairwise (fun a b _ _ h1 h2=>by exact Int.le_antisymm h1 h2) (srt_sorted l) hs ((srt_perm l).trans h.symm)
theorem srt_congr {l l':List Int}(h:l.Perm l'):srt l=srt l':=srt_eq ((srt_perm l').trans h.symm) (srt_sorted l')
noncomputable def IsLow (s l:List Int):Prop:=Srtd s∧∃ r,(s++r).Perm l∧(∀ a∈s,∀ b∈r,a≤b)∧s.length≤3∧(s.length=3∨r=[])
theorem IsLow.eq {s l:List Int}(h:IsLow s l):lo3 l=s:=by
 obtain⟨hs,r,hp,hr,h3,h4⟩:=h
 have e:srt l=s++srt r:=srt_eq (((srt_perm r).append_left s).trans hp) (List.pairwise_append.mpr ⟨hs,srt_sorted r,fun a ha b hb=>hr a ha b ((srt_perm r).mem_iff.mp hb)⟩)
 unfold lo3
 rw[e]
 rcases h4 with q | rfl
 ·rw[← q,List.take_left'];rfl
 ·have:srt []=[]:=(srt_perm []).eq_nil
  rw[this,List.append_nil,List.take_of_length_le h3]
theorem isLow (l:List Int):IsLow (lo3 l) l:=by
 have hs:=srt_sorted l
 have e:(srt l).take 3++(srt l).drop 3=srt l:=List.take_append_drop 3 _
 have hs2:=hs
 rw[← e] at hs2
 have hs2:=List.pairwise_append.mp hs2
 refine⟨hs2.1,(srt l).drop 3,by unfold lo3;rw[e];exact srt_perm l,hs2.2.2,by unfold lo3;simp;lia,?_⟩
 by_cases h:3≤(srt l).length
 ·left;unfold lo3;simp;lia
 ·right;exact List.drop_eq_nil_of_le (by exact Nat.le_of_lt (Nat.lt_of_not_le h))
theorem lo3_congr {l l':List Int}(h:l.Perm l'):lo3 l=lo3 l':=by unfold lo3;rw[srt_congr h]
theorem IsLow.cnt {s l:List Int}(h:IsLow s l) {a:Int}(ha:a∈s):l.countP (fun x=>decide (x<a))≤2:=by
 refine gv fun _ gk=>?_
 obtain⟨hs,r,hp,hr,h3,h4⟩:=h
 refine gk ?_
 rw[← hp.countP_eq,List.countP_append]
 have h1:r.countP (fun x=>decide (x<a))=0:=List.countP_eq_zero.mpr fun b hb=>by
  have:=hr a ha b hb
  simp;exact this
 have h2:s.countP (fun x=>decide (x<a))<s.length:=by
  have:=List.countP_le_length (p:=fun x=>decide (x<a)) (l:=s)
  rcases Nat.lt_or_eq_of_le this with q | q
  ·exact q
  ·have:=List.countP_eq_length.mp q a ha
   simp at this
 lia
theorem cnt_all {l:List Int}{a:Int}(h:∀ x∈l,x<a):l.countP (fun x=>decide (x<a))=l.length:=List.countP_eq_length.mpr fun x hx=>decide_eq_true (h x hx)
theorem lo3_app (A B:List Int):lo3 (lo3 A++lo3 B)=lo3 (A++B):=by
 refine gv fun _ gk=>?_
 obtain⟨_,ra,pa,da,la,ea⟩:=isLow A
 obtain⟨_,rb,pb,db,lb,eb⟩:=isLow B
 have hL:=isLow (lo3 A++lo3 B)
 have cnt:∀ a∈lo3 (lo3 A++lo3 B),_:=fun a ha=>hL.cnt ha
 obtain⟨hs,r,hp,hr,h3,h4⟩:=hL
 refine gk ?_
 symm
 refine IsLow.eq ⟨hs,r++(ra++rb),?_,fun a ha b hb=>?_,h3,?_⟩
 ·rw[← List.append_assoc]
  refine(hp.append_right _).trans ?_
  refine List.Perm.trans ?_ (pa.append pb)
  simp only[List.append_assoc]
  refine List.Perm.append_left _ ?_
  rw[← List.append_assoc,← List.append_assoc]
  exact List.Perm.append_right _ List.perm_append_comm
 ·have c:=cnt a ha
  rw[List.countP_append] at c
  rcases List.mem_append.mp hb with q | q
  ·exact hr a ha b q
  ·false_or_by_contra
   rename_i hlt
   rcases List.mem_append.mp q with q | q
   ·rcases ea with e | rfl
    ·rw[cnt_all (l:=lo3 A) (a:=a) fun x hx=>by have:=da x hx b q;exact Int.lt_of_le_of_lt this (Int.lt_of_not_ge hlt)] at c;lia
    ·cases q
   ·rcases eb with e | rfl
    ·rw[cnt_all (l:=lo3 B) (a:=a) fun x hx=>by have:=db x hx b q;exact Int.lt_of_le_of_lt this (Int.lt_of_not_ge hlt)] at c;lia
    ·cases q
 ·rcases h4 with q | rfl
  ·exact .inl q
  ·by_cases q:(lo3 (lo3 A++lo3 B)).length=3
   ·exact .inl q
   ·right
    have:=hp.length_eq
    simp only[List.append_nil,List.length_append] at this
    rcases ea with e | rfl
    ·lia
    ·rcases eb with e | rfl
     ·lia
     ·rfl
noncomputable def sums (A B:List Int):List Int:=A.flatMap fun a=>B.map (a+·)
theorem mem_sums {A B:List Int}{x:Int}:x∈sums A B↔∃ a∈A,∃ b∈B,a+b=x:=by simp[sums]
theorem cnt_row {A B:List Int}{p:Int→Bool}{a:Int}(ha:a∈A):(B.map (a+·)).countP p≤(sums A B).countP p:=by
 induction A with
 | nil=>cases ha
 | cons x A ih=>
  have e:sums (x::A) B=B.map (x+·)++sums A B:=rfl
  rw[e,List.countP_append]
  rcases List.mem_cons.mp ha with rfl | q
  ·exact Nat.le_add_right _ _
  ·have:=ih q;exact Nat.le_add_left_of_le this
theorem cnt_col {A B:List Int}{p:Int→Bool}{b:Int}(hb:b∈B):(A.map (·+b)).countP p≤(sums A B).countP p:=by
 induction A with
 | nil=>simp
 | cons x A ih=>
  have e:sums (x::A) B=B.map (x+·)++sums A B:=rfl
  rw[e,List.countP_append,List.map_cons,List.countP_cons]
  by_cases h:p (x+b)=true
  ·have:0<(B.map (x+·)).countP p:=List.countP_pos_iff.mpr ⟨x+b,List.mem_map.mpr ⟨b,hb,rfl⟩,h⟩
   rw[if_pos h];lia
  ·rw[if_neg h];exact Nat.le_add_left_of_le ih
theorem sums_perm {A A' B B':List Int}(h1:A.Perm A') (h2:B.Perm B'):(sums A B).Perm (sums A' B'):=by
 refine(show(sums A B).Perm (sums A' B) from List.Perm.flatMap_right _ h1).trans ?_
 clear h1
 induction A' with
 | nil=>exact .nil
 | cons x A' ih=>exact(h2.map _).append ih
theorem sums_len (A B:List Int):(sums A B).length=A.length*B.length:=by
 induction A with
 | nil=>simp[sums]
 | cons x A ih=>
  have e:sums (x::A) B=B.map (x+·)++sums A B:=rfl
  rw[e,List.length_append,List.length_map,ih,List.length_cons,Nat.succ_mul];lia
theorem sums_app_left (A A' B:List Int):sums (A++A') B=sums A B++sums A' B:=List.flatMap_append
theorem sums_app_right (A B B':List Int):(sums A (B++B')).Perm (sums A B++sums A B'):=by
 induction A with
 | nil=>exact .nil
 | cons x A ih=>
  have e:∀ B,sums (x::A) B=B.map (x+·)++sums A B:=fun B=>rfl
  rw[e,e,e,List.map_append]
  simp only[List.append_assoc]
  refine List.Perm.append_left _ ?_
  refine(List.Perm.append_left _ ih).trans ?_
  rw[← List.append_assoc,← List.append_assoc]
  exact List.Perm.append_right _ List.perm_append_comm
theorem lo3_ne {A:List Int}(h:A≠[]):0<(lo3 A).length:=by
 have:=(srt_perm A).length_eq
 have:0<A.length:=List.length_pos_iff.mpr h
 unfold lo3;rw[List.length_take];lia
theorem lo3_sums {A B:List Int}(hA:A≠[]) (hB:B≠[]):lo3 (sums (lo3 A) (lo3 B))=lo3 (sums A B):=by
 have nA:=lo3_ne hA
 have nB:=lo3_ne hB
 refine gv fun _ gk=>?_
 obtain⟨_,ra,pa,da,la,ea⟩:=isLow A
 obtain⟨_,rb,pb,db,lb,eb⟩:=isLow B
 have hL:=isLow (sums (lo3 A) (lo3 B))
 have cnt:∀ a∈lo3 (sums (lo3 A) (lo3 B)),_:=fun a ha=>hL.cnt ha
 obtain⟨hs,r,hp,hr,h3,h4⟩:=hL
 refine gk ?_
 have full:(sums (lo3 A) (lo3 B)++(sums (lo3 A) rb++sums ra B)).Perm (sums A B):=by
  refine List.Perm.trans ?_ (sums_perm pa (List.Perm.refl B))
  rw[sums_app_left,← List.append_assoc]
  refine List.Perm.append_right _ ?_
  exact(sums_app_right _ _ _).symm.trans (sums_perm (.refl _) pb)
 symm
 refine IsLow.eq ⟨hs,r++(sums (lo3 A) rb++sums ra B),?_,fun a ha b hb=>?_,h3,?_⟩
 ·rw[← List.append_assoc]
  exact(hp.append_right _).trans full
 ·have c:=cnt a ha
  rcases List.mem_append.mp hb with q | q
  ·exact hr a ha b q
  ·false_or_by_contra
   rename_i hlt
   rcases List.mem_append.mp q with q | q
   ·refine gv fun _ gk=>?_
    obtain⟨x,hx,y,hy,rfl⟩:=mem_sums.mp q
    refine gk ?_
    rcases eb with e | rfl
    ·have h1:=cnt_row (B:=lo3 B) (p:=fun x=>decide (x<a)) hx
     rw[cnt_all fun z hz=>by
      refine gv fun _ gk=>?_
      obtain⟨w,hw,rfl⟩:=List.mem_map.mp hz
      refine gk ?_
      have:=db w hw y hy
      lia,List.length_map] at h1
     lia
    ·exact nomatch hy
   ·refine gv fun _ gk=>?_
    obtain⟨x,hx,y,hy,rfl⟩:=mem_sums.mp q
    refine gk ?_
    rcases ea with e | rfl
    ·have hy2:∃ z∈lo3 B,z≤y:=by
      rcases List.mem_append.mp (pb.mem_iff.mpr hy) with q | q
      ·exact⟨y,q,by exact Int.le_refl _⟩
      ·exact⟨(lo3 B)[0],List.getElem_mem nB,db _ (List.getElem_mem nB) y q⟩
     refine gv fun _ gk=>?_
     obtain⟨z,hz,hzy⟩:=hy2
     refine gk ?_
     have h1:=cnt_col (A:=lo3 A) (p:=fun x=>decide (x<a)) hz
     rw[cnt_all fun u hu=>by
      refine gv fun _ gk=>?_
      obtain⟨w,hw,rfl⟩:=List.mem_map.mp hu
      refine gk ?_
      have:=da w hw x hx
      exact Int.lt_of_le_of_lt (Int.add_le_add this hzy) (Int.lt_of_not_ge hlt),List.length_map] at h1
     lia
    ·exact nomatch hx
 ·rcases h4 with q | rfl
  ·exact .inl q
  ·by_cases q:(lo3 (sums (lo3 A) (lo3 B))).length=3
   ·exact .inl q
   ·right
    have hl:=hp.length_eq
    rw[List.append_nil,sums_len] at hl
    rcases ea with e | rfl
    ·have:=Nat.mul_le_mul (Nat.le_of_eq e.symm) nB
     lia
    ·rcases eb with e | rfl
     ·have:=Nat.mul_le_mul nA (Nat.le_of_eq e.symm)
      lia
     ·simp[sums]
theorem low_sel (l:List Int) (c rest:List Nat) (hp:(c++rest).Perm (List.range l.length)) (hs:Srtd (c.map fun i=>l.getD i 0)) (hd:∀ j∈c,∀ i∈rest,l.getD j 0≤l.getD i 0) (h3:c.length≤3) (h4:c.length=3∨rest=[]):lo3 l=c.map fun i=>l.getD i 0:=by
 refine IsLow.eq ⟨hs,rest.map fun i=>l.getD i 0,?_,fun a ha b hb=>?_,by simpa using h3,by simpa using h4⟩
 ·have e:l=(List.range l.length).map fun i=>l.getD i 0:=by
   apply List.ext_getElem
   ·simp
   ·intro i h1 h2
    simp[List.getD,List.getElem?_eq_getElem h1]
  rw[← List.map_append]
  have:=hp.map fun i=>l.getD i 0
  rw[← e] at this
  exact this
 ·obtain⟨j,hj,rfl⟩:=List.mem_map.mp ha
  obtain⟨i,hi,rfl⟩:=List.mem_map.mp hb
  exact hd j hj i hi
open PySem PySem.W
noncomputable def HD (z:Int) (l:List Int):List Nat→Prop
 | []=>True
 | m::ms=>z≤l.getD m 0∧HD z l ms
theorem HD.mem {z:Int}{l:List Int}:∀ {ms:List Nat},HD z l ms→∀ m∈ms,z≤l.getD m 0
 | [],_=>alln
 | _::_,h=>allc h.1 (HD.mem h.2)
theorem sel3 {l:List Int}(n i j k:Nat) (rest:List Nat) {x y z:Int}(hl:l.length=n) (hp:([i,j,k]++rest).Perm (List.range n)) (h:l.getD i 0=x∧l.getD j 0=y∧l.getD k 0=z) (h1:x≤y) (h2:y≤z) (hd:HD z l rest):lo3 l=[x,y,z]:=by
 obtain⟨rfl,rfl,rfl⟩:=h
 subst hl
 exact low_sel l [i,j,k] rest hp (.cons (allc h1 (allc (Int.le_trans h1 h2) alln)) (.cons (allc h2 alln) (.cons alln .nil)))
  (allc (fun m hm=>Int.le_trans h1 (Int.le_trans h2 (hd.mem m hm))) (allc (fun m hm=>Int.le_trans h2 (hd.mem m hm)) (allc hd.mem alln))) (Nat.le_refl _) (.inl rfl)
section
variable {x y a b:List Int}{s t:Int}{xs ys:List Int}
theorem push1_t (h:lexLt x a=true):pushP [a] x=[x,a]:=if_pos h
theorem push1_f (h:lexLt x a=false):pushP [a] x=[a,x]:=if_neg (Bool.eq_false_iff.mp h)
theorem push2_t (h:lexLt y a=false) (k:lexLt x a=true):pushP (pushP [a] y) x=[x,y,a]:=by rw[push1_f h];exact if_pos k
theorem push2_f (h:lexLt y a=false) (k:lexLt x a=false):pushP (pushP [a] y) x=[a,y,x]:=by rw[push1_f h];exact if_neg (Bool.eq_false_iff.mp k)
theorem lx_t (h:s<t):lexLt (s::xs) (t::ys)=true:=(if_neg (Int.ne_of_lt h)).trans (decide_eq_true h)
theorem lx_n (h:t≤s) (k:lexLt xs ys=false):lexLt (s::xs) (t::ys)=false:=by
 by_cases e:s=t
 ·exact(if_pos e).trans k
 ·exact(if_neg e).trans (decide_eq_false (Int.not_lt.mpr h))
theorem lx_f (h:t<s):lexLt (s::xs) (t::ys)=false:=(if_neg (Int.ne_of_gt h)).trans (decide_eq_false (Int.not_lt.mpr (Int.le_of_lt h)))
theorem lx_e (h:s≤t) (k:lexLt xs ys=true):lexLt (s::xs) (t::ys)=true:=by
 by_cases e:s=t
 ·exact(if_pos e).trans k
 ·exact(if_neg e).trans (decide_eq_true (Int.lt_iff_le_and_ne.mpr ⟨h,e⟩))
end
theorem le2 {a b c d:Int}(h:a≤b) (g:c≤d):a+c≤b+d:=Int.add_le_add h g
theorem rf {a:Int}:a≤a:=Int.le_refl a
theorem join_step {ps os:List Int}{n:Nat}{heap rest:List (List Int)}{S:List Int}{pr:Int}{f s:Nat}(h:popP heap=([pr,(f:Int),(s:Int)],rest)) (hne:heap≠[]):joinL ps os (n+1) heap S=joinL ps os n (joinPush ps os rest f s) (S++[pr]):=by
 cases heap with
 | nil=>exact absurd rfl hne
 | cons a r=>
  have e1:joinL ps os (n+1) (a::r) S=(match popP (a::r) with
   | ([pr,f,s],rest)=>joinL ps os n (joinPush ps os rest f.toNat s.toNat) (S++[pr])
   | _=>S):=rfl
  rw[e1,h];rfl
theorem sel1 (x:Int):lo3 [x]=[x]:=low_sel [x] [0] [] (.refl _) (.cons alln .nil) (allc alln alln) (by decide) (.inr rfl)
theorem sel2 {x y:Int}(h:x≤y):lo3 [x,y]=[x,y]:=low_sel [x,y] [0,1] [] (.refl _) (.cons (allc h alln) (.cons alln .nil)) (allc alln (allc alln alln)) (by decide) (.inr rfl)
section
variable {ps os:List Int}{H1 H2 r1 r2:List (List Int)}{p1 p2:Int}{f1 s1 f2 s2:Nat}
theorem jc1 (e1:joinPush ps os [] 0 0=[]):joinedP ps os=[ps.getD 0 0+os.getD 0 0]:=by
 unfold joinedP
 rw[join_step (f:=0) (s:=0) rfl (List.cons_ne_nil _ _),e1];rfl
theorem jc2 (e1:joinPush ps os [] 0 0=H1) (q1:popP H1=([p1,(f1:Int),(s1:Int)],r1)) (n1:H1≠[]) (e2:joinPush ps os r1 f1 s1=[]):joinedP ps os=[ps.getD 0 0+os.getD 0 0,p1]:=by
 unfold joinedP
 rw[join_step (f:=0) (s:=0) rfl (List.cons_ne_nil _ _),e1,join_step q1 n1,e2];rfl
theorem jc3 (e1:joinPush ps os [] 0 0=H1) (q1:popP H1=([p1,(f1:Int),(s1:Int)],r1)) (n1:H1≠[]) (e2:joinPush ps os r1 f1 s1=H2) (q2:popP H2=([p2,(f2:Int),(s2:Int)],r2)) (n2:H2≠[]):joinedP ps os=[ps.getD 0 0+os.getD 0 0,p1,p2]:=by
 unfold joinedP
 rw[join_step (f:=0) (s:=0) rfl (List.cons_ne_nil _ _),e1,join_step q1 n1,e2,join_step q2 n2];rfl
end
theorem j11 {a0 b0:Int}:joinedP [a0] [b0]=lo3 (sums [a0] [b0]):=(jc1 (ps:=[a0]) (os:=[b0]) rfl).trans (sel1 _).symm
theorem j12 {a0 b0 b1:Int}(g1:b0≤b1):joinedP [a0] [b0,b1]=lo3 (sums [a0] [b0,b1]):=(jc2 (ps:=[a0]) (os:=[b0,b1]) (H1:=[[a0+b1,0,1]]) (f1:=0) (s1:=1) rfl rfl (List.cons_ne_nil _ _) rfl).trans (sel2 (le2 rf g1)).symm
theorem j13 {a0 b0 b1 b2:Int}(g1:b0≤b1) (g2:b1≤b2):joinedP [a0] [b0,b1,b2]=lo3 (sums [a0] [b0,b1,b2]):=(jc3 (ps:=[a0]) (os:=[b0,b1,b2]) (H1:=[[a0+b1,0,1]]) (f1:=0) (s1:=1) (H2:=[[a0+b2,0,2]]) (f2:=0) (s2:=2) rfl rfl (List.cons_ne_nil _ _) rfl rfl (List.cons_ne_nil _ _)).trans (Eq.symm (sel3 3 0 1 2 [] rfl (by decide) ⟨rfl,rfl,rfl⟩ (le2 rf g1) (le2 rf g2) trivial))
theorem j21 {a0 a1 b0:Int}(h1:a0≤a1):joinedP [a0,a1] [b0]=lo3 (sums [a0,a1] [b0]):=(jc2 (ps:=[a0,a1]) (os:=[b0]) (H1:=[[a1+b0,1,0]]) (f1:=1) (s1:=0) rfl rfl (List.cons_ne_nil _ _) rfl).trans (sel2 (le2 h1 rf)).symm
theorem j22 {a0 a1 b0 b1:Int}(h1:a0≤a1) (g1:b0≤b1):joinedP [a0,a1] [b0,b1]=lo3 (sums [a0,a1] [b0,b1]):=by
 by_cases h:a1+b0<a0+b1
 ·exact(jc3 (ps:=[a0,a1]) (os:=[b0,b1]) (H1:=[[a1+b0,1,0],[a0+b1,0,1]]) (f1:=1) (s1:=0) (H2:=[[a0+b1,0,1],[a1+b1,1,1]]) (f2:=0) (s2:=1) (push1_t (lx_t h)) rfl (List.cons_ne_nil _ _) (push1_f (lx_n (le2 h1 rf) rfl)) rfl (List.cons_ne_nil _ _)).trans (Eq.symm (sel3 4 0 2 1 [3] rfl (by decide) ⟨rfl,rfl,rfl⟩ (le2 h1 rf) (Int.le_of_lt h) ⟨(le2 h1 rf),trivial⟩))
 ·exact(jc3 (ps:=[a0,a1]) (os:=[b0,b1]) (H1:=[[a0+b1,0,1],[a1+b0,1,0]]) (f1:=0) (s1:=1) (H2:=[[a1+b0,1,0]]) (f2:=1) (s2:=0) (push1_f (lx_n (Int.not_lt.mp h) rfl)) rfl (List.cons_ne_nil _ _) rfl rfl (List.cons_ne_nil _ _)).trans (Eq.symm (sel3 4 0 1 2 [3] rfl (by decide) ⟨rfl,rfl,rfl⟩ (le2 rf g1) (Int.not_lt.mp h) ⟨(le2 rf g1),trivial⟩))
theorem j23 {a0 a1 b0 b1 b2:Int}(h1:a0≤a1) (g1:b0≤b1) (g2:b1≤b2):joinedP [a0,a1] [b0,b1,b2]=lo3 (sums [a0,a1] [b0,b1,b2]):=by
 by_cases h:a1+b0<a0+b1
 ·exact(jc3 (ps:=[a0,a1]) (os:=[b0,b1,b2]) (H1:=[[a1+b0,1,0],[a0+b1,0,1]]) (f1:=1) (s1:=0) (H2:=[[a0+b1,0,1],[a1+b1,1,1]]) (f2:=0) (s2:=1) (push1_t (lx_t h)) rfl (List.cons_ne_nil _ _) (push1_f (lx_n (le2 h1 rf) rfl)) rfl (List.cons_ne_nil _ _)).trans (Eq.symm (sel3 6 0 3 1 [2,4,5] rfl (by decide) ⟨rfl,rfl,rfl⟩ (le2 h1 rf) (Int.le_of_lt h) ⟨(le2 rf g2),(le2 h1 rf),(le2 h1 g2),trivial⟩))
 ·by_cases h3:a1+b0<a0+b2
  ·exact(jc3 (ps:=[a0,a1]) (os:=[b0,b1,b2]) (H1:=[[a0+b1,0,1],[a1+b0,1,0]]) (f1:=0) (s1:=1) (H2:=[[a1+b0,1,0],[a0+b2,0,2]]) (f2:=1) (s2:=0) (push1_f (lx_n (Int.not_lt.mp h) rfl)) rfl (List.cons_ne_nil _ _) (push1_f (lx_f h3)) rfl (List.cons_ne_nil _ _)).trans (Eq.symm (sel3 6 0 1 3 [2,4,5] rfl (by decide) ⟨rfl,rfl,rfl⟩ (le2 rf g1) (Int.not_lt.mp h) ⟨(Int.le_of_lt h3),(le2 rf g1),(le2 rf (Int.le_trans g1 g2)),trivial⟩))
  ·exact(jc3 (ps:=[a0,a1]) (os:=[b0,b1,b2]) (H1:=[[a0+b1,0,1],[a1+b0,1,0]]) (f1:=0) (s1:=1) (H2:=[[a0+b2,0,2],[a1+b0,1,0]]) (f2:=0) (s2:=2) (push1_f (lx_n (Int.not_lt.mp h) rfl)) rfl (List.cons_ne_nil _ _) (push1_t (lx_e (Int.not_lt.mp h3) rfl)) rfl (List.cons_ne_nil _ _)).trans (Eq.symm (sel3 6 0 1 2 [3,4,5] rfl (by decide) ⟨rfl,rfl,rfl⟩ (le2 rf g1) (le2 rf g2) ⟨(Int.not_lt.mp h3),(Int.le_trans (Int.not_lt.mp h3) (le2 rf g1)),(le2 h1 rf),trivial⟩))
theorem j31 {a0 a1 a2 b0:Int}(h1:a0≤a1) (h2:a1≤a2):joinedP [a0,a1,a2] [b0]=lo3 (sums [a0,a1,a2] [b0]):=(jc3 (ps:=[a0,a1,a2]) (os:=[b0]) (H1:=[[a1+b0,1,0]]) (f1:=1) (s1:=0) (H2:=[[a2+b0,2,0]]) (f2:=2) (s2:=0) rfl rfl (List.cons_ne_nil _ _) rfl rfl (List.cons_ne_nil _ _)).trans (Eq.symm (sel3 3 0 1 2 [] rfl (by decide) ⟨rfl,rfl,rfl⟩ (le2 h1 rf) (le2 h2 rf) trivial))
theorem j32 {a0 a1 a2 b0 b1:Int}(h1:a0≤a1) (h2:a1≤a2) (g1:b0≤b1):joinedP [a0,a1,a2] [b0,b1]=lo3 (sums [a0,a1,a2] [b0,b1]):=by
 by_cases h:a1+b0<a0+b1
 ·by_cases h3:a2+b0<a0+b1
  ·exact(jc3 (ps:=[a0,a1,a2]) (os:=[b0,b1]) (H1:=[[a1+b0,1,0],[a0+b1,0,1]]) (f1:=1) (s1:=0) (H2:=[[a2+b0,2,0],[a1+b1,1,1],[a0+b1,0,1]]) (f2:=2) (s2:=0) (push1_t (lx_t h)) rfl (List.cons_ne_nil _ _) (push2_t (lx_n (le2 h1 rf) rfl) (lx_t h3)) rfl (List.cons_ne_nil _ _)).trans (Eq.symm (sel3 6 0 2 4 [1,3,5] rfl (by decide) ⟨rfl,rfl,rfl⟩ (le2 h1 rf) (le2 h2 rf) ⟨(Int.le_of_lt h3),(Int.le_trans (Int.le_of_lt h3) (le2 h1 rf)),(le2 rf g1),trivial⟩))
  ·exact(jc3 (ps:=[a0,a1,a2]) (os:=[b0,b1]) (H1:=[[a1+b0,1,0],[a0+b1,0,1]]) (f1:=1) (s1:=0) (H2:=[[a0+b1,0,1],[a1+b1,1,1],[a2+b0,2,0]]) (f2:=0) (s2:=1) (push1_t (lx_t h)) rfl (List.cons_ne_nil _ _) (push2_f (lx_n (le2 h1 rf) rfl) (lx_n (Int.not_lt.mp h3) rfl)) rfl (List.cons_ne_nil _ _)).trans (Eq.symm (sel3 6 0 2 1 [3,4,5] rfl (by decide) ⟨rfl,rfl,rfl⟩ (le2 h1 rf) (Int.le_of_lt h) ⟨(le2 h1 rf),(Int.not_lt.mp h3),(le2 (Int.le_trans h1 h2) rf),trivial⟩))
 ·exact(jc3 (ps:=[a0,a1,a2]) (os:=[b0,b1]) (H1:=[[a0+b1,0,1],[a1+b0,1,0]]) (f1:=0) (s1:=1) (H2:=[[a1+b0,1,0]]) (f2:=1) (s2:=0) (push1_f (lx_n (Int.not_lt.mp h) rfl)) rfl (List.cons_ne_nil _ _) rfl rfl (List.cons_ne_nil _ _)).trans (Eq.symm (sel3 6 0 1 2 [3,4,5] rfl (by decide) ⟨rfl,rfl,rfl⟩ (le2 rf g1) (Int.not_lt.mp h) ⟨(le2 rf g1),(le2 h2 rf),(le2 h2 g1),trivial⟩))
theorem j33 {a0 a1 a2 b0 b1 b2:Int}(h1:a0≤a1) (h2:a1≤a2) (g1:b0≤b1) (g2:b1≤b2):joinedP [a0,a1,a2] [b0,b1,b2]=lo3 (sums [a0,a1,a2] [b0,b1,b2]):=by
 by_cases h:a1+b0<a0+b1
 ·by_cases h3:a2+b0<a0+b1
  ·exact(jc3 (ps:=[a0,a1,a2]) (os:=[b0,b1,b2]) (H1:=[[a1+b0,1,0],[a0+b1,0,1]]) (f1:=1) (s1:=0) (H2:=[[a2+b0,2,0],[a1+b1,1,1],[a0+b1,0,1]]) (f2:=2) (s2:=0) (push1_t (lx_t h)) rfl (List.cons_ne_nil _ _) (push2_t (lx_n (le2 h1 rf) rfl) (lx_t h3)) rfl (List.cons_ne_nil _ _)).trans (Eq.symm (sel3 9 0 3 6 [1,2,4,5,7,8] rfl (by decide) ⟨rfl,rfl,rfl⟩ (le2 h1 rf) (le2 h2 rf) ⟨(Int.le_of_lt h3),(Int.le_trans (Int.le_of_lt h3) (le2 rf g2)),(Int.le_trans (Int.le_of_lt h3) (le2 h1 rf)),(Int.le_trans (Int.le_of_lt h3) (le2 h1 g2)),(le2 rf g1),(le2 rf (Int.le_trans g1 g2)),trivial⟩))
  ·exact(jc3 (ps:=[a0,a1,a2]) (os:=[b0,b1,b2]) (H1:=[[a1+b0,1,0],[a0+b1,0,1]]) (f1:=1) (s1:=0) (H2:=[[a0+b1,0,1],[a1+b1,1,1],[a2+b0,2,0]]) (f2:=0) (s2:=1) (push1_t (lx_t h)) rfl (List.cons_ne_nil _ _) (push2_f (lx_n (le2 h1 rf) rfl) (lx_n (Int.not_lt.mp h3) rfl)) rfl (List.cons_ne_nil _ _)).trans (Eq.symm (sel3 9 0 3 1 [2,4,5,6,7,8] rfl (by decide) ⟨rfl,rfl,rfl⟩ (le2 h1 rf) (Int.le_of_lt h) ⟨(le2 rf g2),(le2 h1 rf),(le2 h1 g2),(Int.not_lt.mp h3),(le2 (Int.le_trans h1 h2) rf),(le2 (Int.le_trans h1 h2) g2),trivial⟩))
 ·by_cases h3:a1+b0<a0+b2
  ·exact(jc3 (ps:=[a0,a1,a2]) (os:=[b0,b1,b2]) (H1:=[[a0+b1,0,1],[a1+b0,1,0]]) (f1:=0) (s1:=1) (H2:=[[a1+b0,1,0],[a0+b2,0,2]]) (f2:=1) (s2:=0) (push1_f (lx_n (Int.not_lt.mp h) rfl)) rfl (List.cons_ne_nil _ _) (push1_f (lx_f h3)) rfl (List.cons_ne_nil _ _)).trans (Eq.symm (sel3 9 0 1 3 [2,4,5,6,7,8] rfl (by decide) ⟨rfl,rfl,rfl⟩ (le2 rf g1) (Int.not_lt.mp h) ⟨(Int.le_of_lt h3),(le2 rf g1),(le2 rf (Int.le_trans g1 g2)),(le2 h2 rf),(le2 h2 g1),(le2 h2 (Int.le_trans g1 g2)),trivial⟩))
  ·exact(jc3 (ps:=[a0,a1,a2]) (os:=[b0,b1,b2]) (H1:=[[a0+b1,0,1],[a1+b0,1,0]]) (f1:=0) (s1:=1) (H2:=[[a0+b2,0,2],[a1+b0,1,0]]) (f2:=0) (s2:=2) (push1_f (lx_n (Int.not_lt.mp h) rfl)) rfl (List.cons_ne_nil _ _) (push1_t (lx_e (Int.not_lt.mp h3) rfl)) rfl (List.cons_ne_nil _ _)).trans (Eq.symm (sel3 9 0 1 2 [3,4,5,6,7,8] rfl (by decide) ⟨rfl,rfl,rfl⟩ (le2 rf g1) (le2 rf g2) ⟨(Int.not_lt.mp h3),(Int.le_trans (Int.not_lt.mp h3) (le2 rf g1)),(le2 h1 rf),(Int.le_trans (Int.not_lt.mp h3) (le2 h2 rf)),(Int.le_trans (Int.not_lt.mp h3) (le2 h2 g1)),(le2 (Int.le_trans h1 h2) rf),trivial⟩))
theorem srt3 {l:List Int}(hs:Srtd l) (p0:0<l.length) (p3:l.length≤3) {P:List Int→Prop}(h1:∀ a,P [a]) (h2:∀ a b,a≤b→P [a,b]) (h3:∀ a b c,a≤b→b≤c→P [a,b,c]):P l:=by
 cases hs with
 | nil=>exact absurd p0 (Nat.lt_irrefl _)
 | cons ha hs=>cases hs with
  | nil=>exact h1 _
  | cons hb hs=>cases hs with
   | nil=>exact h2 _ _ (ha _ (.head _))
   | cons hc hs=>cases hs with
    | nil=>exact h3 _ _ _ (ha _ (.head _)) (hb _ (.head _))
    | cons=>exact absurd p3 (by simp)
theorem joined_lo {ps os:List Int}(hp:Srtd ps) (ho:Srtd os) (p0:0<ps.length) (p3:ps.length≤3) (o0:0<os.length) (o3:os.length≤3):joinedP ps os=lo3 (sums ps os):=
 srt3 (P:=fun ps=>joinedP ps os=lo3 (sums ps os)) hp p0 p3
  (fun a0=>srt3 (P:=fun os=>joinedP [a0] os=lo3 (sums [a0] os)) ho o0 o3 (fun _=>j11) (fun _ _=>j12) fun _ _ _=>j13)
  (fun a0 a1 h=>srt3 (P:=fun os=>joinedP [a0,a1] os=lo3 (sums [a0,a1] os)) ho o0 o3 (fun _=>j21 h) (fun _ _=>j22 h) fun _ _ _=>j23 h)
  fun a0 a1 a2 h1 h2=>srt3 (P:=fun os=>joinedP [a0,a1,a2] os=lo3 (sums [a0,a1,a2] os)) ho o0 o3 (fun _=>j31 h1 h2) (fun _ _=>j32 h1 h2) fun _ _ _=>j33 h1 h2
open PySem PySem.W
theorem sm3_top (x1 x2 b1 b2 c1 c2:Int):∃ p o q q2 r r2,sm3 [x1,x2] [b1,b2] [c1,c2]=[[p,o],[q,q2],[r,r2]]∧q≤p∧r≤p∧[p,q,r].Perm [x1,b1,c1]:=by
 have sw:∀ u v w:Int,[v,u,w].Perm [u,v,w]:=fun u v w=>List.Perm.swap ..
 have sw2:∀ u v w:Int,[w,v,u].Perm [u,v,w]:=fun u v w=>((List.Perm.swap v w [u]).trans ((List.Perm.swap u w []).cons v)).trans (List.Perm.swap u v [w])
 unfold sm3
 cases h1:lexLt [c1,c2] [b1,b2] with
 | true=>
  rw[lexLt_pair] at h1
  skip
  cases h2:lexLt [b1,b2] [x1,x2] with
  | true=>rw[lexLt_pair] at h2;exact⟨_,_,_,_,_,_,rfl,by lia,by lia,.refl _⟩
  | false=>rw[lexLt_pairF] at h2;exact⟨_,_,_,_,_,_,rfl,by lia,by lia,sw ..⟩
 | false=>
  rw[lexLt_pairF] at h1
  skip
  cases h2:lexLt [c1,c2] [x1,x2] with
  | true=>rw[lexLt_pair] at h2;exact⟨_,_,_,_,_,_,rfl,by lia,by lia,.refl _⟩
  | false=>rw[lexLt_pairF] at h2;exact⟨_,_,_,_,_,_,rfl,by lia,by lia,sw2 ..⟩
noncomputable def NI (heap:List (List Int)) (seen:List Int):Prop:=∃ p o b1 b2 c1 c2,heap=[[p,o],[b1,b2],[c1,c2]]∧b1≤p∧c1≤p∧∃ out,([p,b1,c1]++out).Perm seen∧∀ x∈out,p≤x
theorem NI.step {st:List (List Int) × Int}{seen:List Int}(h:NI st.1 seen) (e:Int):NI (nsStep st e).1 (seen++[e]):=by
 refine gv fun _ gk=>?_
 obtain⟨p,o,b1,b2,c1,c2,e1,h1,h2,out,hp,ho⟩:=h
 refine gk ?_
 unfold nsStep
 rw[e1]
 dsimp only
 by_cases hlt:e<p
 ·rw[if_pos hlt]
  refine gv fun _ gk=>?_
  obtain⟨p',o',q,q2,r,r2,e2,g1,g2,g3⟩:=sm3_top e st.2 b1 b2 c1 c2
  refine gk ?_
  refine⟨p',o',q,q2,r,r2,e2,g1,g2,p::out,?_,?_⟩
  ·have a1:([p',q,r]++p::out).Perm ([e,b1,c1]++p::out):=g3.append_right _
   refine a1.trans ?_
   have a2:([e,b1,c1]++p::out).Perm (e::([p,b1,c1]++out)):=by
    show(e::([b1,c1]++p::out)).Perm _
    exact List.Perm.cons _ List.perm_middle
   refine a2.trans ?_
   refine(List.Perm.cons _ hp).trans ?_
   exact List.perm_append_comm (l₁:=[e])
  ·intro x hx
   have hm:p'∈[e,b1,c1]:=g3.mem_iff.mp (by exact .head _)
   simp only[List.mem_cons,List.not_mem_nil,or_false] at hm hx
   rcases hx with rfl | hx
   ·lia
   ·have:=ho x hx;lia
 ·rw[if_neg hlt]
  refine⟨p,o,b1,b2,c1,c2,e1,h1,h2,out++[e],?_,?_⟩
  ·skip;exact hp.append_right _
  ·intro x hx
   rcases List.mem_append.mp hx with q | q
   ·exact ho x q
   ·have q:=List.mem_singleton.mp q;lia
theorem NI.fold:∀(rest:List Int) {st:List (List Int) × Int}{seen:List Int},NI st.1 seen→NI (rest.foldl nsStep st).1 (seen++rest)
 | [],st,seen,h=>by simpa using h
 | e::rest,st,seen,h=>by
  have:=NI.fold rest (h.step e)
  rw[List.append_assoc] at this
  exact this
theorem sortT_vals (a1 a2 b1 b2 c1 c2:Int):∃ x y z,(sortT [a1,a2] [b1,b2] [c1,c2]).map (·.getD 0 0)=[x,y,z]∧x≤y∧y≤z∧[x,y,z].Perm [a1,b1,c1]:=by
 unfold sortT
 have p1:[b1,a1,c1].Perm [a1,b1,c1]:=List.Perm.swap ..
 have p2:[a1,c1,b1].Perm [a1,b1,c1]:=(List.Perm.swap ..).cons a1
 have p3:[c1,a1,b1].Perm [a1,b1,c1]:=(List.Perm.swap a1 c1 [b1]).trans p2
 have p4:[b1,c1,a1].Perm [a1,b1,c1]:=((List.Perm.swap a1 c1 []).cons b1).trans p1
 have p5:[c1,b1,a1].Perm [a1,b1,c1]:=(List.Perm.swap b1 c1 [a1]).trans p4
 cases h1:lexLt [b1,b2] [a1,a2]<;>cases h2:lexLt [c1,c2] [a1,a2]<;>cases h3:lexLt [c1,c2] [b1,b2]<;>simp only[lexLt_pair,lexLt_pairF] at h1 h2 h3
 ·exact⟨a1,b1,c1,rfl,by lia,by lia,.refl _⟩
 ·exact⟨a1,c1,b1,rfl,by lia,by lia,p2⟩
 ·exact⟨a1,b1,c1,rfl,by lia,by lia,.refl _⟩
 ·exact⟨c1,a1,b1,rfl,by lia,by lia,p3⟩
 ·exact⟨b1,a1,c1,rfl,by lia,by lia,p1⟩
 ·exact⟨a1,b1,c1,rfl,by lia,by lia,.refl _⟩
 ·exact⟨b1,c1,a1,rfl,by lia,by lia,p4⟩
 ·exact⟨c1,b1,a1,rfl,by lia,by lia,p5⟩
theorem nsP_lo (e0 e1 e2:Int) (rest:List Int):nsP e0 e1 e2 rest=lo3 (e0::e1::e2::rest):=by
 have h0:NI (nsInit e0 e1 e2).1 [e0,e1,e2]:=by
  refine gv fun _ gk=>?_
  obtain⟨p,o,q,q2,r,r2,a,b,c,d⟩:=sm3_top e0 0 e1 1 e2 2
  refine gk ?_
  exact⟨p,o,q,q2,r,r2,a,b,c,[],by exact d,by simp⟩
 refine gv fun _ gk=>?_
 obtain⟨p,o,b1,b2,c1,c2,a,b,c,out,hp,ho⟩:=NI.fold rest h0
 refine gk ?_
 unfold nsP
 rw[a]
 dsimp only
 refine gv fun _ gk=>?_
 obtain⟨x,y,z,g1,g2,g3,g4⟩:=sortT_vals p o b1 b2 c1 c2
 refine gk ?_
 rw[g1]
 symm
 refine IsLow.eq ⟨?_,out,(g4.append_right _).trans hp,fun u hu v hv=>?_,by exact nle rfl,.inl rfl⟩
 ·simp;lia
 ·have hm:=g4.mem_iff.mp hu
  have:=ho v hv
  have hm:=in3 hm
  lia
theorem ns3_lo {xs:List Int}(h:2≤xs.length):ns3 xs=lo3 xs:=by
 match xs,h with
 | [x,y],_=>
  refine(?_:(if y<x then[y,x] else[x,y])=_)
  by_cases hc:y<x
  ·rw[if_pos hc,← sel2 (x:=y) (y:=x) (by exact Int.le_of_lt hc)];exact lo3_congr (List.Perm.swap ..)
  ·rw[if_neg hc];exact(sel2 (by exact Int.le_of_not_gt hc)).symm
 | e0::e1::e2::rest,_=>
  refine(?_:nsP e0 e1 e2 rest=_)
  exact nsP_lo ..
 | [x],h=>simp at h
 | [],h=>simp at h
open PySem PySem.W
noncomputable def sumsN (A B:List Nat):List Nat:=A.flatMap fun a=>B.map (a+·)
noncomputable def wayR (W:Nat→List Nat) (r:Nat × List Nat):List Nat:=r.2.foldl (fun acc p=>sumsN acc (W p)) [r.1]
noncomputable def Wn (rec:Nat→List (Nat × List Nat)):Nat→Nat→List Nat
 | 0,_=>[]
 | n+1,k=>(rec k).flatMap (wayR (Wn rec n))
noncomputable def zs (l:List Nat):List Int:=l.map fun(n:Nat)=>(n:Int)
theorem zs_app (A B:List Nat):zs (A++B)=zs A++zs B:=List.map_append
theorem zs_sums (A B:List Nat):zs (sumsN A B)=sums (zs A) (zs B):=by
 induction A with
 | nil=>rfl
 | cons a A ih=>
  have e1:sumsN (a::A) B=B.map (a+·)++sumsN A B:=rfl
  have e2:sums (zs (a::A)) (zs B)=(zs B).map ((a:Int)+·)++sums (zs A) (zs B):=rfl
  rw[e1,e2,zs_app,ih]
  congr 1
  simp[zs]
theorem sumsN_len (A B:List Nat):(sumsN A B).length=A.length*B.length:=by
 have:=sums_len (zs A) (zs B)
 rw[← zs_sums] at this
 simpa[zs] using this
theorem mem_sumsN {A B:List Nat}{x:Nat}:x∈sumsN A B↔∃ a∈A,∃ b∈B,a+b=x:=by simp[sumsN]
theorem lo3_len (l:List Int):(lo3 l).length=min 3 l.length:=by
 unfold lo3;rw[List.length_take,(srt_perm l).length_eq]
theorem ways_fold (W:Nat→List Nat):∀(ps acc:List Nat),acc≠[]→(∀ p∈ps,W p≠[])→(ps.map fun p=>lo3 (zs (W p))).foldl joinedP (lo3 (zs acc))=lo3 (zs (ps.foldl (fun acc p=>sumsN acc (W p)) acc))∧ps.foldl (fun acc p=>sumsN acc (W p)) acc≠[]
 | [],acc,h,_=>⟨rfl,h⟩
 | p::ps,acc,h,hp=>by
  have hW:=hp p (by exact .head _)
  have n1:zs acc≠[]:=by simpa[zs] using h
  have n2:zs (W p)≠[]:=by simpa[zs] using hW
  have l1:=lo3_len (zs acc)
  have l2:=lo3_len (zs (W p))
  have e:joinedP (lo3 (zs acc)) (lo3 (zs (W p)))=lo3 (zs (sumsN acc (W p))):=by
   rw[joined_lo (isLow _).1 (isLow _).1 (lo3_ne n1) (by lia) (lo3_ne n2) (by lia),lo3_sums n1 n2,zs_sums]
  have n3:sumsN acc (W p)≠[]:=by
   have a1:=List.length_pos_iff.mpr h
   have a2:=List.length_pos_iff.mpr hW
   have:=Nat.mul_pos a1 a2
   rw[← sumsN_len] at this
   exact List.length_pos_iff.mp this
  rw[List.map_cons,List.foldl_cons,List.foldl_cons,e]
  exact ways_fold W ps _ n3 fun q hq=>hp q (List.mem_cons_of_mem _ hq)
theorem wayR_lo {W:Nat→List Nat}{r:Nat × List Nat}(h:∀ p∈r.2,W p≠[]):(r.2.map fun p=>lo3 (zs (W p))).foldl joinedP [(r.1:Int)]=lo3 (zs (wayR W r))∧wayR W r≠[]:=by
 have:=ways_fold W r.2 [r.1] (by simp) h
 have e:lo3 (zs [r.1])=[(r.1:Int)]:=sel1 _
 rw[e] at this
 exact this
structure RS (rec:Nat→List (Nat × List Nat)) (pl:Nat→Nat):Prop where
 two:∀ k,k<5→(rec k).length=2
 pr:∀ k,k<5→∀ r∈rec k,r.1≤3∧r.2.length≤2∧∀ p∈r.2,p<5∧pl p<pl k
 low:∀ k,k<5→pl k<2→∀ r∈rec k,r.2=[]
 up:∀ k,k<5→2≤pl k→∀ r∈rec k,r.2≠[]
 pl5:∀ k,k<5→pl k<5
noncomputable def Lb (i:Nat):Nat:=[2,2,8,128,32768].getD i 0
noncomputable def Mb (i:Nat):Nat:=[3,3,9,21,45].getD i 0
theorem LbMb:∀ i,2≤i→i<5→2*(Lb (i - 1)*Lb (i - 1))≤Lb i∧3+2*Mb (i - 1)≤Mb i∧1≤Lb (i - 1):=fun i h1 h2=>by
 rcases(show i=2∨i=3∨i=4 by lia) with rfl | rfl | rfl<;>decide
theorem Lb_mono:∀ i j,i≤j→j<5→Lb i≤Lb j∧Mb i≤Mb j:=by
 have:∀ j,j<5→∀ i,i<5→i≤j→Lb i≤Lb j∧Mb i≤Mb j:=by decide
 exact fun i j h1 h2=>this j h2 i (by exact Nat.lt_of_le_of_lt h1 h2) h1
theorem wayR_bound {W:Nat→List Nat}{r:Nat × List Nat}{L M:Nat}(h1:r.1≤3) (h2:r.2.length≤2) (hL:1≤L) (h:∀ p∈r.2,(W p).length≤L∧∀ w∈W p,w≤M):(wayR W r).length≤L*L∧∀ w∈wayR W r,w≤3+2*M:=by
 obtain⟨a,ps⟩:=r
 have LL:L≤L*L:=Nat.le_mul_of_pos_left L hL
 match ps,h2 with
 | [],_=>exact⟨by simp[wayR];exact Nat.le_trans hL LL,fun w hw=>by simp[wayR] at hw;exact Nat.le_trans (Nat.le_of_eq hw) (Nat.le_add_right_of_le h1)⟩
 | [p],_=>
  obtain⟨x,y⟩:=h p (by exact .head _)
  refine⟨?_,fun w hw=>?_⟩
  ·show(sumsN [a] (W p)).length≤_
   rw[sumsN_len];simp;exact Nat.le_trans x LL
  ·obtain⟨u,hu,v,hv,rfl⟩:=mem_sumsN.mp (show w∈sumsN [a] (W p) from hw)
   have:=y v hv
   have hu:=List.mem_singleton.mp hu
   lia
 | [p,q],_=>
  obtain⟨x,y⟩:=h p (by exact .head _)
  obtain⟨x',y'⟩:=h q (by simp)
  refine⟨?_,fun w hw=>?_⟩
  ·show(sumsN (sumsN [a] (W p)) (W q)).length≤_
   rw[sumsN_len,sumsN_len]
   simp only[List.length_singleton,Nat.one_mul]
   exact Nat.mul_le_mul x x'
  ·obtain⟨u,hu,v,hv,rfl⟩:=mem_sumsN.mp (show w∈sumsN (sumsN [a] (W p)) (W q) from hw)
   obtain⟨u1,hu1,u2,hu2,rfl⟩:=mem_sumsN.mp hu
   have:=y u2 hu2
   have:=y' v hv
   have hu1:=List.mem_singleton.mp hu1
   lia
 | _::_::_::_,h2=>simp at h2
theorem flat2 {τ:Type}{rs:List (Nat × List Nat)}(h:rs.length=2) (f:Nat × List Nat→List τ):∃ r1 r2,rs=[r1,r2]∧rs.flatMap f=f r1++f r2:=by
 match rs,h with
 | [r1,r2],_=>exact⟨r1,r2,rfl,by simp⟩
section
variable {rec:Nat→List (Nat × List Nat)}{pl:Nat→Nat}
theorem Wn_bound (S:RS rec pl):∀ n k,k<5→(Wn rec n k).length≤Lb (pl k)∧∀ w∈Wn rec n k,w≤Mb (pl k)
 | 0,k,_=>⟨by simp[Wn],fun w hw=>by simp[Wn] at hw⟩
 | n+1,k,hk=>by
  have ih:=Wn_bound S n
  refine gv fun _ gk=>?_
  obtain⟨r1,r2,e,e2⟩:=flat2 (S.two k hk) (wayR (Wn rec n))
  have e3:Wn rec (n+1) k=wayR (Wn rec n) r1++wayR (Wn rec n) r2:=e2
  have m1:r1∈rec k:=by rw[e];simp
  have m2:r2∈rec k:=by rw[e];simp
  obtain⟨a1,b1,c1⟩:=S.pr k hk r1 m1
  obtain⟨a2,b2,c2⟩:=S.pr k hk r2 m2
  refine gk ?_
  have p5:=S.pl5 k hk
  rw[e3,List.length_append]
  by_cases h2:pl k<2
  ·have z1:=S.low k hk h2 r1 m1
   have z2:=S.low k hk h2 r2 m2
   have hb:2≤Lb (pl k)∧3≤Mb (pl k):=by
    rcases(show pl k=0∨pl k=1 by lia) with q | q<;>rw[q]<;>decide
   unfold wayR
   rw[z1,z2]
   refine⟨hb.1,fun w hw=>?_⟩
   simp at hw
   lia
  ·refine gv fun _ gk=>?_
   obtain⟨f1,f2,f3⟩:=LbMb (pl k) (by exact Nat.le_of_not_lt h2) p5
   refine gk ?_
   have step:∀ r,r∈rec k→(wayR (Wn rec n) r).length≤Lb (pl k - 1)*Lb (pl k - 1)∧∀ w∈wayR (Wn rec n) r,w≤3+2*Mb (pl k - 1):=fun r hr=>by
    refine gv fun _ gk=>?_
    obtain⟨a,b,c⟩:=S.pr k hk r hr
    refine gk ?_
    refine wayR_bound a b f3 fun p hp=>?_
    refine gv fun _ gk=>?_
    obtain⟨q5,ql⟩:=c p hp
    obtain⟨x,y⟩:=ih p q5
    obtain⟨m1,m2⟩:=Lb_mono (pl p) (pl k - 1) (by exact Nat.le_sub_one_of_lt ql) (by exact Nat.sub_lt_of_lt p5)
    refine gk ?_
    exact⟨by exact Nat.le_trans x m1,fun w hw=>by have:=y w hw;exact Nat.le_trans this m2⟩
   have s1:=step r1 m1
   have s2:=step r2 m2
   refine⟨by lia,fun w hw=>?_⟩
   rcases List.mem_append.mp hw with q | q
   ·have:=s1.2 w q;exact Nat.le_trans this f2
   ·have:=s2.2 w q;exact Nat.le_trans this f2
theorem wayR_congr {W W':Nat→List Nat}{r:Nat × List Nat}(h:∀ p∈r.2,W p=W' p):wayR W r=wayR W' r:=by
 unfold wayR
 generalize [r.1]=acc
 generalize r.2=ps at h
 induction ps generalizing acc with
 | nil=>rfl
 | cons p ps ih=>
  rw[List.foldl_cons,List.foldl_cons,h p (by exact .head _)]
  exact ih _ (fun q hq=>h q (List.mem_cons_of_mem _ hq))
theorem Wn_stable (S:RS rec pl):∀ n m k,k<5→pl k<n→pl k<m→Wn rec n k=Wn rec m k
 | 0,_,_,_,h,_=>by exact absurd h (Nat.not_lt_zero _)
 | _+1,0,_,_,_,h=>by exact absurd h (Nat.not_lt_zero _)
 | n+1,m+1,k,hk,h1,h2=>by
  unfold Wn
  rw[List.flatMap_def,List.flatMap_def]
  congr 1
  refine List.map_congr_left fun r hr=>wayR_congr fun p hp=>?_
  obtain⟨q5,ql⟩:=(S.pr k hk r hr).2.2 p hp
  exact Wn_stable S n m p q5 (by exact Nat.lt_of_lt_of_le ql (Nat.le_of_lt_succ h1)) (by exact Nat.lt_of_lt_of_le ql (Nat.le_of_lt_succ h2))
theorem Wn_two (S:RS rec pl):∀ n k,k<5→pl k<n→2≤(Wn rec n k).length
 | 0,_,_,h=>by exact absurd h (Nat.not_lt_zero _)
 | n+1,k,hk,h=>by
  obtain⟨r1,r2,e,e2⟩:=flat2 (S.two k hk) (wayR (Wn rec n))
  have e3:Wn rec (n+1) k=wayR (Wn rec n) r1++wayR (Wn rec n) r2:=e2
  have ne:∀ r∈rec k,wayR (Wn rec n) r≠[]:=fun r hr=>(wayR_lo fun p hp=>by
   obtain⟨q5,ql⟩:=(S.pr k hk r hr).2.2 p hp
   have:=Wn_two S n p q5 (by exact Nat.lt_of_lt_of_le ql (Nat.le_of_lt_succ h))
   intro q
   rw[q] at this
   simp at this).2
  have a1:=List.length_pos_iff.mpr (ne r1 (by rw[e];simp))
  have a2:=List.length_pos_iff.mpr (ne r2 (by rw[e];simp))
  rw[e3,List.length_append];lia
noncomputable def LVn (rec:Nat→List (Nat × List Nat)) (k:Nat):List Int:=lo3 (zs (Wn rec 5 k))
theorem LV_ok (S:RS rec pl) {k:Nat}(hk:k<5):LVn rec k=ns3 (sumsR (LVn rec) (rec k))∧((sumsR (LVn rec) (rec k)).length=2∨4≤(sumsR (LVn rec) (rec k)).length∧(sumsR (LVn rec) (rec k)).length≤1000)∧0<(LVn rec k).length∧(LVn rec k).length≤1000:=by
 have p5:=S.pl5 k hk
 refine gv fun _ gk=>?_
 obtain⟨r1,r2,e,e2⟩:=flat2 (S.two k hk) (fun r=>(r.2.map (LVn rec)).foldl joinedP [(r.1:Int)])
 refine gk ?_
 have e2':sumsR (LVn rec) (rec k)=_:=e2
 have m1:r1∈rec k:=by rw[e];simp
 have m2:r2∈rec k:=by rw[e];simp
 have two:∀ r∈rec k,∀ p∈r.2,2≤(Wn rec 5 p).length:=fun r hr p hp=>by
  obtain⟨q5,ql⟩:=(S.pr k hk r hr).2.2 p hp
  exact Wn_two S 5 p q5 (by exact Nat.lt_trans ql p5)
 have w:∀ r∈rec k,(r.2.map (LVn rec)).foldl joinedP [(r.1:Int)]=lo3 (zs (wayR (Wn rec 5) r))∧wayR (Wn rec 5) r≠[]:=fun r hr=>wayR_lo fun p hp q=>by
  have:=two r hr p hp
  rw[q] at this
  simp at this
 have eW:Wn rec 5 k=wayR (Wn rec 5) r1++wayR (Wn rec 5) r2:=by
  rw[Wn_stable S 5 6 k hk p5 (by exact Nat.lt_succ_of_lt p5)]
  refine(?_:(rec k).flatMap _=_)
  rw[e];simp
 rw[e2',(w r1 m1).1,(w r2 m2).1]
 have il:∀ l:List Nat,(zs l).length=l.length:=fun l=>by simp[zs]
 have n1:=List.length_pos_iff.mpr (w r1 m1).2
 have n2:=List.length_pos_iff.mpr (w r2 m2).2
 have l1:=lo3_len (zs (wayR (Wn rec 5) r1))
 have l2:=lo3_len (zs (wayR (Wn rec 5) r2))
 have l3:=lo3_len (zs (Wn rec 5 k))
 rw[il] at l1 l2 l3
 have l4:=Wn_two S 5 k hk p5
 refine⟨?_,?_,?_,?_⟩
 ·rw[ns3_lo (by rw[List.length_append];lia),lo3_app,← zs_app,← eW];rfl
 ·rw[List.length_append,l1,l2]
  by_cases h2:pl k<2
  ·left
   have z1:=S.low k hk h2 r1 m1
   have z2:=S.low k hk h2 r2 m2
   unfold wayR
   rw[z1,z2]
   simp
  ·right
   have big:∀ r∈rec k,2≤(wayR (Wn rec 5) r).length:=fun r hr=>by
    have hne:=S.up k hk (by exact Nat.le_of_not_lt h2) r hr
    have h2:=(S.pr k hk r hr).2.1
    have tw:=two r hr
    obtain⟨a,ps⟩:=r
    match ps,h2 with
    | [],_=>exact absurd rfl hne
    | [p],_=>
     have:=tw p (by exact .head _)
     refine(?_:2≤(sumsN [a] (Wn rec 5 p)).length)
     rw[sumsN_len];simp;exact this
    | [p,q],_=>
     have t1:=tw p (by exact .head _)
     have t2:=tw q (by simp)
     refine(?_:2≤(sumsN (sumsN [a] (Wn rec 5 p)) (Wn rec 5 q)).length)
     rw[sumsN_len,sumsN_len]
     simp only[List.length_singleton,Nat.one_mul]
     have:=Nat.mul_le_mul t1 t2
     exact Nat.le_trans (Nat.le_add_right _ _) this
    | _::_::_::_,h2=>simp at h2
   have:=big r1 m1
   have:=big r2 m2
   lia
 ·unfold LVn;lia
 ·unfold LVn;lia
end
open PySem PySem.W
noncomputable def val (l:List Nat):Nat:=(l.map fun w=>65536 ^ w).sum
theorem val_app (A B:List Nat):val (A++B)=val A+val B:=by simp[val]
theorem val_cons (a:Nat) (l:List Nat):val (a::l)=65536 ^ a+val l:=by rfl
theorem val_row (a:Nat) (B:List Nat):val (B.map (a+·))=65536 ^ a*val B:=by
 induction B with
 | nil=>rfl
 | cons b B ih=>rw[List.map_cons,val_cons,val_cons,ih,Nat.mul_add,Nat.pow_add]
theorem val_sums (A B:List Nat):val (sumsN A B)=val A*val B:=by
 induction A with
 | nil=>simp[sumsN,val]
 | cons a A ih=>
  have e:sumsN (a::A) B=B.map (a+·)++sumsN A B:=rfl
  rw[e,val_app,val_row,ih,val_cons,Nat.add_mul]
theorem ways_val {W:Nat→List Nat}{tt:List Nat}{r:Nat × List Nat}(h:∀ p∈r.2,tt.getD p 0=val (W p)):waysP tt r=val (wayR W r):=by
 have e:2 ^ (16*r.1)=val [r.1]:=by rw[val_cons,Nat.pow_mul];simp[val]
 unfold waysP wayR
 rw[e]
 generalize [r.1]=acc
 generalize r.2=ps at h
 induction ps generalizing acc with
 | nil=>rfl
 | cons p ps ih=>
  rw[List.foldl_cons,List.foldl_cons,h p (by exact .head _),← val_sums]
  exact ih _ fun q hq=>h q (List.mem_cons_of_mem _ hq)
theorem val_flat {τ:Type}(f:τ→List Nat):∀ l:List τ,val (l.flatMap f)=(l.map fun x=>val (f x)).sum
 | []=>rfl
 | x::l=>by rw[List.flatMap_cons,val_app,val_flat f l];simp
theorem val_le {M:Nat}:∀ {l:List Nat},(∀ w∈l,w≤M)→val l≤l.length*65536 ^ M
 | [],_=>by exact nle rfl
 | w::l,h=>by
  have:=val_le fun x hx=>h x (List.mem_cons_of_mem _ hx)
  have h2:65536 ^ w≤65536 ^ M:=Nat.pow_le_pow_right (by decide) (h w (by exact .head _))
  rw[val_cons,List.length_cons,Nat.add_mul,Nat.one_mul]
  lia
section
variable {rec:Nat→List (Nat × List Nat)}{pl:Nat→Nat}
theorem tot_val (S:RS rec pl):∀ n k,k<5→(totN rec n).getD k 0=val (Wn rec n k)
 | 0,k,hk=>by
  rcases(show k=0∨k=1∨k=2∨k=3∨k=4 by lia) with rfl | rfl | rfl | rfl | rfl<;>rfl
 | n+1,k,hk=>by
  have e:(totN rec (n+1)).getD k 0=totP rec (totN rec n) k:=by
   show((List.range 5).map (totP rec (totN rec n))).getD k 0=_
   simp[List.getD,hk]
  rw[e]
  unfold totP
  have e2:Wn rec (n+1) k=(rec k).flatMap (wayR (Wn rec n)):=rfl
  rw[e2,val_flat]
  congr 1
  refine List.map_congr_left fun r hr=>ways_val fun p hp=>?_
  exact tot_val S n p ((S.pr k hk r hr).2.2 p hp).1
theorem big_bound:32768*65536 ^ 45<2 ^ 900:=by decide+kernel
theorem tot_bound (S:RS rec pl) (n p:Nat):(totN rec n).getD p 0<2 ^ 900:=by
 by_cases hp:p<5
 ·rw[tot_val S n p hp]
  obtain⟨a,b⟩:=Wn_bound S n p hp
  have p5:=S.pl5 p hp
  obtain⟨c,d⟩:=Lb_mono (pl p) 4 (by exact Nat.le_of_lt_succ p5) (by decide)
  have e1:Lb 4=32768:=rfl
  have e2:Mb 4=45:=rfl
  have h1:=val_le (M:=45) fun w hw=>by have:=b w hw;exact Nat.le_trans this (Nat.le_trans d (by decide))
  exact Nat.lt_of_le_of_lt h1 (Nat.lt_of_le_of_lt (Nat.mul_le_mul (show(Wn rec n p).length≤32768 by exact Nat.le_trans a (Nat.le_trans c (by decide))) (Nat.le_refl _)) big_bound)
 ·have hl:(totN rec n).length=5:=by cases n<;>simp[totN]
  have:(totN rec n).getD p 0=0:=by
   unfold List.getD
   rw[List.getElem?_eq_none (by exact Nat.le_trans (Nat.le_of_eq hl) (Nat.le_of_not_lt hp))];rfl
  rw[this]
  exact Nat.pow_pos (by decide)
end
noncomputable def down (l:List Nat):List Nat:=(l.filter fun w=>decide (0<w)).map (· - 1)
theorem down_cons (a:Nat) (l:List Nat):down (a::l)=if 0<a then(a - 1)::down l else down l:=by
 unfold down
 skip
 by_cases h:0<a<;>simp[h]
theorem val_split:∀ l:List Nat,val l=l.count 0+65536*val (down l)
 | []=>rfl
 | a::l=>by
  rw[val_cons,down_cons,val_split l,List.count_cons]
  cases a with
  | zero=>simp;lia
  | succ a=>
   have:((a+1==0):Bool)=false:=rfl
   rw[if_pos (Nat.succ_pos a),val_cons,this,Nat.pow_succ]
   simp only[Nat.add_sub_cancel,Bool.false_eq_true,if_false]
   rw[Nat.mul_add,Nat.mul_comm (65536 ^ a)]
   lia
theorem down_len:∀ l:List Nat,(down l).length≤l.length:=fun l=>by
 unfold down;rw[List.length_map];exact List.length_filter_le ..
theorem split_perm (z:Int):∀ l:List Nat,(List.replicate (l.count 0) z++(down l).map fun(w:Nat)=>z+1+(w:Int)).Perm (l.map fun(w:Nat)=>z+(w:Int))
 | []=>.refl _
 | a::l=>by
  have ih:=split_perm z l
  rw[down_cons,List.count_cons,List.map_cons]
  cases a with
  | zero=>
   have e:z+((0:Nat):Int)=z:=by lia
   rw[e]
   simp only[Nat.lt_irrefl,if_false,beq_self_eq_true,if_true,List.replicate_succ,List.cons_append]
   exact ih.cons z
  | succ a=>
   have:((a+1==0):Bool)=false:=rfl
   rw[if_pos (Nat.succ_pos a),this]
   simp only[Bool.false_eq_true,if_false,Nat.add_zero,List.map_cons,Nat.add_sub_cancel]
   have e:z+1+(a:Int)=z+((a+1:Nat):Int):=by lia
   rw[e]
   exact List.perm_middle.trans (ih.cons _)
theorem srt_split (z:Int) (l:List Nat):srt (l.map fun(w:Nat)=>z+(w:Int))=List.replicate (l.count 0) z++srt ((down l).map fun(w:Nat)=>z+1+(w:Int)):=by
 refine srt_eq (((srt_perm _).append_left _).trans (split_perm z l)) (List.pairwise_append.mpr ⟨?_,srt_sorted _,fun a ha b hb=>?_⟩)
 ·rw[List.pairwise_replicate];right;exact Int.le_refl _
 ·obtain⟨_,rfl⟩:=List.mem_replicate.mp ha
  obtain⟨w,_,rfl⟩:=List.mem_map.mp ((srt_perm _).mem_iff.mp hb)
  lia
theorem take_rep (P B:List Int) (c:Nat) (x:Int):(P++List.replicate (min 3 c) x++B).take 3=(P++(List.replicate c x++B)).take 3:=by
 rw[← List.append_assoc]
 by_cases h:c≤3
 ·rw[Nat.min_eq_right h]
 ·have e:List.replicate c x=List.replicate 3 x++List.replicate (c - 3) x:=by
   rw[List.replicate_append_replicate];congr 1;lia
  rw[Nat.min_eq_left (by exact Nat.le_of_lt (Nat.lt_of_not_le h)),e,← List.append_assoc]
  have h3:3≤(P++List.replicate 3 x).length:=by simp
  rw[List.take_append_of_le_length h3,List.append_assoc,List.take_append_of_le_length h3]
theorem ft_val:∀(t:Nat) (l:List Nat) (prices:List Int) (price:Int),val l=t→l.length<65536→(ftL t prices price).take 3=(prices++srt (l.map fun(w:Nat)=>price+(w:Int))).take 3:=by
 intro t
 induction t using Nat.strongRecOn with
 | _ t ih=>
  intro l prices price hv hl
  rw[ftL]
  have hs:=val_split l
  have hc:l.count 0≤l.length:=List.count_le_length
  split
  ·rename_i h
   have e1:t % 65536=l.count 0:=by lia
   have e2:t / 65536=val (down l):=by lia
   have hd:=down_len l
   rw[e1,e2,ih (val (down l)) (by lia) (down l) _ _ rfl (by exact Nat.lt_of_le_of_lt hd hl),srt_split price l,take_rep]
  ·rename_i h
   by_cases h3:prices.length<3
   ·have ht:t=0:=by
     false_or_by_contra
     exact h ⟨by lia,h3⟩
    have:l=[]:=by
     cases l with
     | nil=>rfl
     | cons a l=>
      rw[val_cons] at hv
      have:0<65536 ^ a:=Nat.pow_pos (by decide)
      lia
    rw[this]
    have:srt (([]:List Nat).map fun(w:Nat)=>price+(w:Int))=[]:=(srt_perm []).eq_nil
    rw[this,List.append_nil]
   ·rw[List.take_append_of_le_length (by exact Nat.le_of_not_lt h3)]
theorem ft_lo {l:List Nat}(h:l.length<65536):(ftL (val l) [] 0).take 3=lo3 (zs l):=by
 rw[ft_val _ l [] 0 rfl h]
 unfold lo3 zs
 simp
open PySem PySem.W
theorem price1_le (n:Int):price1 n≤3:=by
 unfold price1;rw[Int.fmod_eq_emod_of_nonneg _ (by decide)];lia
theorem price2_le (n:Int):price2 n≤3:=by
 unfold price2;skip;lia
theorem parts_from {hd:List Nat}{n:Int}{pl:Nat}(h:0<pl):((partsN hd n pl).length≤2∧partsN hd n pl≠[])∧∀ p∈partsN hd n pl,∃ i,i<pl∧p=hd.getD i 0:=by
 have ha:=(partA_cast n h).2
 unfold partsN
 split
 ·rename_i hb
  exact⟨by simp,fun p hp=>by
   simp only[List.mem_cons,List.not_mem_nil,or_false] at hp
   rcases hp with rfl | rfl
   ·exact⟨_,ha,rfl⟩
   ·exact⟨_,hb,rfl⟩⟩
 ·exact⟨by simp,fun p hp=>by
   simp only[List.mem_cons,List.not_mem_nil,or_false] at hp
   exact⟨_,ha,hp⟩⟩
structure Fine (rec:Nat→List (Nat × List Nat)) (pl:Nat→Nat) (k:Nat):Prop where
 two:(rec k).length=2
 pr:∀ r∈rec k,r.1≤3∧r.2.length≤2∧∀ p∈r.2,p<5∧pl p<pl k
 low:pl k<2→∀ r∈rec k,r.2=[]
 up:2≤pl k→∀ r∈rec k,r.2≠[]
 pl5:pl k<5
theorem all2 {τ:Type}{a b:τ}{P:τ→Prop}(x:P a) (y:P b):∀ r∈[a,b],P r:=fun r hr=>by
 cases hr with
 | head=>exact x
 | tail _ h=>cases h with
  | head=>exact y
  | tail _ h=>cases h
theorem fine_small {rec:Nat→List (Nat × List Nat)}{pl:Nat→Nat}{k:Nat}(u:Int) (hk:pl k<2) (he:rec k=[(price1 u,[]),(price2 u,[])]):Fine rec pl k where
 two:=he▸rfl
 pr:=he▸all2 ⟨price1_le u,Nat.zero_le _,fun _ q=>nomatch q⟩ ⟨price2_le u,Nat.zero_le _,fun _ q=>nomatch q⟩
 low _:=he▸all2 rfl rfl
 up q:=absurd (Nat.lt_of_lt_of_le hk q) (Nat.lt_irrefl _)
 pl5:=Nat.lt_trans hk (by decide)
theorem fine_part {hd:List Nat}{pl:Nat→Nat}{m k:Nat}(w:Int) (hk:pl k=m) (h2:2≤m) (hp:∀ i,i<m→pl (hd.getD i 0)=i∧hd.getD i 0<5):price1 w≤3∧(partsN hd w m).length≤2∧∀ p∈partsN hd w m,p<5∧pl p<pl k:=by
 obtain⟨x,y⟩:=parts_from (hd:=hd) (n:=w) (Nat.lt_of_lt_of_le (by decide) h2)
 refine⟨price1_le w,x.1,fun p q=>?_⟩
 obtain⟨i,hi,rfl⟩:=y p q
 exact⟨(hp i hi).2,by rw[(hp i hi).1,hk];exact hi⟩
theorem fine_big {rec:Nat→List (Nat × List Nat)}{hd:List Nat}{pl:Nat→Nat}{m k:Nat}(u v:Int) (hk:pl k=m) (h2:2≤m) (h5:m<5) (hp:∀ i,i<m→pl (hd.getD i 0)=i∧hd.getD i 0<5)
  (he:rec k=[(price1 u,partsN hd u m),(price1 v,partsN hd v m)]):Fine rec pl k where
 two:=he▸rfl
 pr:=he▸all2 (fine_part u hk h2 hp) (fine_part v hk h2 hp)
 low q:=absurd (Nat.lt_of_lt_of_le q (hk▸h2)) (Nat.lt_irrefl _)
 up _:=he▸all2 (parts_from (Nat.lt_of_lt_of_le (by decide) h2)).1.2 (parts_from (Nat.lt_of_lt_of_le (by decide) h2)).1.2
 pl5:=hk▸h5
theorem below5 {P:Nat→Prop}(h0:P 0) (h1:P 1) (h2:P 2) (h3:P 3) (h4:P 4):∀ k,k<5→P k:=fun k h=>
 Nat.lt_succ_iff_lt_or_eq.mp h |>.elim (fun h=>Nat.lt_succ_iff_lt_or_eq.mp h |>.elim (fun h=>Nat.lt_succ_iff_lt_or_eq.mp h |>.elim (fun h=>Nat.lt_succ_iff_lt_or_eq.mp h |>.elim (fun h=>Nat.lt_one_iff.mp h▸h0) (·▸h1)) (·▸h2)) (·▸h3)) (·▸h4)
theorem rs_hd {w0 w1 w2 w3 w4 w5 w6 w7:Int}{hd:List Nat}{rec:Nat→List (Nat × List Nat)}{pl:Nat→Nat}(hp:∀ i,i<5→pl (hd.getD i 0)=i∧hd.getD i 0<5) (hm:∀ k,k<5→pl k<5∧hd.getD (pl k) 0=k)
  (e0:rec (hd.getD 0 0)=[(price1 w0,[]),(price2 w0,[])]) (e1:rec (hd.getD 1 0)=[(price1 w1,[]),(price2 w1,[])])
  (e2:rec (hd.getD 2 0)=[(price1 w2,partsN hd w2 2),(price1 w3,partsN hd w3 2)]) (e3:rec (hd.getD 3 0)=[(price1 w4,partsN hd w4 3),(price1 w5,partsN hd w5 3)])
  (e4:rec (hd.getD 4 0)=[(price1 w6,partsN hd w6 4),(price1 w7,partsN hd w7 4)]):∃ pl,RS rec pl:=
 have sm {i:Nat}(h:i<2):pl (hd.getD i 0)<2:=Nat.lt_of_le_of_lt (Nat.le_of_eq (hp i (Nat.lt_trans h (by decide))).1) h
 have up {i:Nat}(h:i<5):∀ j,j<i→pl (hd.getD j 0)=j∧hd.getD j 0<5:=fun j q=>hp j (Nat.lt_trans q h)
 have al:∀ i,i<5→Fine rec pl (hd.getD i 0):=below5 (fine_small w0 (sm (by decide)) e0) (fine_small w1 (sm (by decide)) e1)
  (fine_big w2 w3 (hp 2 (by decide)).1 (by decide) (by decide) (up (by decide)) e2) (fine_big w4 w5 (hp 3 (by decide)).1 (by decide) (by decide) (up (by decide)) e3)
  (fine_big w6 w7 (hp 4 (by decide)).1 (by decide) (by decide) (up (by decide)) e4)
 have all:∀ k,k<5→Fine rec pl k:=fun k hk=>(hm k hk).2▸al _ (hm k hk).1
 ⟨pl,fun k hk=>(all k hk).two,fun k hk=>(all k hk).pr,fun k hk=>(all k hk).low,fun k hk=>(all k hk).up,fun k hk=>(all k hk).pl5⟩
noncomputable def hidN (S:Int):List Nat:=(List.range 5).map fun(i:Nat)=>((S+2*(i:Int)).fmod 5).toNat
theorem hid_five (S:Int) {P:List Nat→Prop}(h0:P [0,2,4,1,3]) (h1:P [1,3,0,2,4]) (h2:P [2,4,1,3,0]) (h3:P [3,0,2,4,1]) (h4:P [4,1,3,0,2]):P (hidN S):=by
 have e:hidN S=hidN (S % 5):=by
  unfold hidN
  refine List.map_congr_left fun i _=>?_
  rw[Int.fmod_eq_emod_of_nonneg _ (by decide),Int.fmod_eq_emod_of_nonneg _ (by decide)]
  congr 1
  lia
 rw[e]
 have h1:=Int.emod_nonneg S (show(5:Int)≠0 by decide)
 have h2:=Int.emod_lt_of_pos S (show(0:Int)<5 by decide)
 generalize S % 5=s at*
 rcases(show s=0∨s=1∨s=2∨s=3∨s=4 by lia) with rfl | rfl | rfl | rfl | rfl<;>assumption
theorem hid_ok (S:Int):(hidN S).length=5∧∀ k,k<5→k∈hidN S:=
 hid_five S (P:=fun l=>l.length=5∧∀ k,k<5→k∈l) (by decide) (by decide) (by decide) (by decide) (by decide)
@[elab_as_elim] theorem of_succ {n:Nat}{ws:List Int}(hw:ws.length=n+1) {P:List Int→Prop}(h:∀ w (t:List Int),t.length=n→P (w::t)):P ws:=by
 cases ws with
 | nil=>cases hw
 | cons w t=>exact h w t (Nat.succ.inj hw)
@[elab_as_elim] theorem of_zero {ws:List Int}(hw:ws.length=0) {P:List Int→Prop}(h:P []):P ws:=List.eq_nil_of_length_eq_zero hw▸h
theorem rs_ok (S:Int) {ws:List Int}(hw:ws.length=8):∃ pl,RS (recsN (hidN S) (ws.zip places)) pl:=
 of_succ hw fun w0 _ h=>of_succ h fun w1 _ h=>of_succ h fun w2 _ h=>of_succ h fun w3 _ h=>of_succ h fun w4 _ h=>of_succ h fun w5 _ h=>of_succ h fun w6 _ h=>of_succ h fun w7 _ h=>of_zero h<| hid_five S (P:=fun hd=>∃ pl,RS (recsN hd ([w0,w1,w2,w3,w4,w5,w6,w7].zip places)) pl)
  (rs_hd (hd:=[0,2,4,1,3]) (pl:=fun k=>[0,3,1,4,2].getD k 0) (by decide) (by decide) rfl rfl rfl rfl rfl)
  (rs_hd (hd:=[1,3,0,2,4]) (pl:=fun k=>[2,0,3,1,4].getD k 0) (by decide) (by decide) rfl rfl rfl rfl rfl)
  (rs_hd (hd:=[2,4,1,3,0]) (pl:=fun k=>[4,2,0,3,1].getD k 0) (by decide) (by decide) rfl rfl rfl rfl rfl)
  (rs_hd (hd:=[3,0,2,4,1]) (pl:=fun k=>[1,4,2,0,3].getD k 0) (by decide) (by decide) rfl rfl rfl rfl rfl)
  (rs_hd (hd:=[4,1,3,0,2]) (pl:=fun k=>[3,1,4,2,0].getD k 0) (by decide) (by decide) rfl rfl rfl rfl rfl)
open PySem PySem.W
section
variable {H K:List PObj}{V:List (Option PV)}{R:PV→List PObj→Prop}
theorem pick_ints (xs:List Int) (lo hi st:Option Int):∃ ys:List Int,pickL (xs.map .int) lo hi st=ys.map .int:=by
 unfold pickL
 rw[List.length_map]
 refine⟨(sliceRange (sliceBounds lo hi st xs.length).1 (sliceBounds lo hi st xs.length).2.1 (sliceBounds lo hi st xs.length).2.2).filterMap (xs[·]?),?_⟩
 rw[List.map_filterMap]
 congr 1
 funext i
 rw[List.getElem?_map]
theorem fw_sum {i:Nat}{xs:List Int}(h:K[i]?=some (.list (xs.map .int))) (hR:R (.int xs.sum) K):Fw F_sum [.ref i] K R:=⟨_,_,by simp only[F_sum,onL,h,intsOf_map],hR⟩
theorem fw_int {x:Int}(hR:R (.int x) K):Fw F_int [.int x] K R:=⟨_,_,rfl,hR⟩
theorem law_cells {i:Nat}{o:PySem.Obj}{ns:List Int}{v1 v2 v3 v4 v5:Option PV}{Q:PV→PS→Prop}(hi:K[i]?=some (.raw o)) (ho:rawInts o=some ns)
  (h:∀(cs:List Int) X,cs.length≤1000→Q (.ref (K.length+1)) ⟨K++[X,.list (cs.map .int)],[some (.ref i),v1,v2,v3,v4,v5]⟩):
  Wp (pListComp 1 [] (pIter (pSliceRaw (pLoc 0) (pConst .none) (pConst (.int 16)) (pConst .none))) (setV 0) (ret true) (pBin oMod (pCall (.type "int") F_int (pConst (.const (.type "int"))) (aCons (pLoc 0) aNil)) (pBin oPow (pConst (.int 10)) (pConst (.int 6))))) ⟨K,[some (.ref i),v1,v2,v3,v4,v5]⟩ Q:=by
 refine wp_listcomp (wp_iter (wp_sliceRaw ?_))
 repeat walk_at "p"
 refine⟨(none,some 16,none),rfl,?_⟩
 refine .of (p:=.ref K.length) (σ':=⟨K++[.list ((ns.take 16).map .int)],[some (.ref i),v1,v2,v3,v4,v5]⟩) (by
  simp only[sliceRaw,hi,ho]
  rw[if_pos (by simp)]
  have:=pick_upto (ns.map PV.int) 16
  rw[show((16:Nat):Int)=16 from rfl] at this
  rw[this,List.map_take]) ?_
 refine Is.mk (it_list (at1a _)) ?_
 have hl:((ns.take 16).map PV.int).length=(ns.take 16).length:=by simp
 refine wp_compL_inv (fun n σ=>∃ cs:List Int,∃ v,σ=⟨K++[.list ((ns.take 16).map .int)]++[.list (cs.map .int)],[v]⟩∧cs.length=n) ((ns.take 16).map PV.int) ?_ ?_ ?_ 0 _ (Nat.zero_le _) ⟨[],none,rfl,rfl⟩
 ·rintro n σ ⟨cs,v,rfl,hc⟩
  exact atl (at1a _)
 ·rintro n q σ hq ⟨cs,v,rfl,hc⟩
  rw[List.getElem?_map] at hq
  obtain⟨x,hx,rfl⟩:=Option.map_eq_some_iff.mp hq
  have hn:n<16:=by have:=(List.getElem?_eq_some_iff.mp hx).1;rw[List.length_take] at this;lia
  dsimp only[It.still]
  refine wp_setV ?_
  dsimp only[List.set_cons_succ,List.set_cons_zero]
  refine Wp.ret ⟨fun _=>?_,fun hb=>absurd hb (by decide)⟩
  repeat walk_at "p"
  refine fw_int ?_
  repeat walk_at "p"
  refine Is2.mk ⟨⟨by decide,by decide,by decide⟩,?_⟩
  refine Is2.mk ⟨by decide,?_⟩
  refine fw_append_at (at1a _) (by simp;lia) ?_
  rw[app1]
  exact⟨cs++[x.fmod (10 ^ (6:Int).toNat)],some (.int x),by rw[List.map_append];rfl,by simp[hc]⟩
 ·rintro σ ⟨cs,v,rfl,hc⟩
  have:cs.length≤16:=by rw[hc,hl,List.length_take];lia
  refine⟨rfl,?_⟩
  have e:K++[PObj.list ((ns.take 16).map .int)]++[PObj.list (cs.map .int)]=K++[.list ((ns.take 16).map .int),.list (cs.map .int)]:=by simp
  rw[List.length_append]
  dsimp only[It.still]
  rw[e]
  exact h cs _ (by exact Nat.le_trans this (by decide))
theorem law_wants {c:Nat}{cs:List Int}{v0 v2 v3 v4 v5:Option PV}{Q:PV→PS→Prop}(hc:K[c]?=some (.list (cs.map .int))) (hcl:cs.length≤1000)
  (h:∀(ws:List Int) ext r,ws.length=8→(K++ext)[r]?=some (.list (ws.map .int))→Q (.ref r) ⟨K++ext,[v0,some (.ref c),v2,v3,v4,v5]⟩):
  Wp (pListComp 2 [(1,"cells")] (pEnumIt (pList (aCons (pConst (.int 9)) (aCons (pConst (.int 12)) (aCons (pConst (.int 9)) (aCons (pConst (.int 12)) (aCons (pConst (.int 46)) (aCons (pConst (.int 9)) (aCons (pConst (.int 60)) (aCons (pConst (.int 75)) aNil)))))))))) (tupT [(setV 0),(setV 1)]) (ret true) (pBin oAdd (pLoc 1) (pCall (.builtin "sum") F_sum (pConst (.const (.builtin "sum"))) (aCons (pSlice (pLoc 2) (pLoc 0) (pConst .none) (pConst (.int 8))) aNil)))) ⟨K,[v0,some (.ref c),v2,v3,v4,v5]⟩ Q:=by
 refine wp_listcomp (wp_enumIt (wp_list ?_))
 repeat (first | (with_reducible refine wp_aCons ?_) | (with_reducible refine wp_const ?_) | (with_reducible refine wp_aNil ?_))
 refine⟨by exact nle rfl,?_⟩
 have e0:([PV.int 9,.int 12,.int 9,.int 12,.int 46,.int 9,.int 60,.int 75]:List PV)=([9,12,9,12,46,9,60,75]:List Int).map .int:=rfl
 rw[e0]
 generalize hW:([9,12,9,12,46,9,60,75]:List Int)=W
 have hWl:W.length=8:=by rw[← hW];rfl
 refine .of (p:=.still (enumT 0 (W.map .int)) fun H=>H[K.length]?=some (.list (W.map .int))) (σ':=⟨K++[.list (W.map .int)],[v0,some (.ref c),v2,v3,v4,v5]⟩) (by simp only[enumIt,at1a]) ?_
 have hel:(enumT 0 (W.map PV.int)).length=8:=by rw[enumT_len,List.length_map,hWl]
 refine wp_compL_inv (fun n σ=>∃ ws:List Int,∃ ext u0 u1,σ=⟨K++[.list (W.map .int)]++.list (ws.map .int)::ext,[u0,u1,some (.ref c)]⟩∧ws.length=n) (enumT 0 (W.map PV.int)) ?_ ?_ ?_ 0 _ (Nat.zero_le _) ⟨[],[],none,none,rfl,rfl⟩
 ·intro n σ inv
  refine gv fun _ gk=>?_
  obtain⟨ws,ext,u0,u1,hσ,hn⟩:=inv
  subst hσ
  refine gk ?_
  exact atl (at1a _)
 ·intro n q σ hq inv
  refine gv fun _ gk=>?_
  obtain⟨ws,ext,u0,u1,hσ,hn⟩:=inv
  subst hσ
  obtain⟨a,ha,rfl⟩:=enumT_get hq
  rw[List.getElem?_map] at ha
  obtain⟨x,hx,rfl⟩:=Option.map_eq_some_iff.mp ha
  have hn8:n<8:=by have:=(List.getElem?_eq_some_iff.mp hx).1;exact Nat.lt_of_lt_of_eq this hWl
  refine gk ?_
  dsimp only[It.still]
  refine wp_tupT (wp_setAll_cons (wp_setV (wp_setAll_cons (wp_setV (wp_setAll_nil ?_)))))
  dsimp only[List.set_cons_succ,List.set_cons_zero]
  refine Wp.ret ⟨fun _=>?_,fun hb=>absurd hb (by decide)⟩
  repeat walk_at "p"
  refine⟨(some ((0+n:Nat):Int),none,some 8),rfl,?_⟩
  refine wp_sliceOf (atl (atl hc)) (by simp;exact Nat.le_trans hcl (by decide)) (by simp) ?_
  obtain⟨ys,hy⟩:=pick_ints cs (some ((0+n:Nat):Int)) none (some 8)
  dsimp only
  rw[hy]
  walk_at "p"
  refine fw_sum (at1a _) ?_
  refine Is2.mk ?_
  have e1:K++[PObj.list (W.map .int)]++PObj.list (ws.map .int)::ext++[PObj.list (ys.map .int)]=K++[PObj.list (W.map .int)]++PObj.list (ws.map .int)::(ext++[PObj.list (ys.map .int)]):=by simp
  rw[e1]
  refine fw_append_at (atc _ _) (by simp;lia) ?_
  rw[appc]
  exact⟨ws++[x+ys.sum],_,_,_,by rw[List.map_append];rfl,by simp[hn]⟩
 ·intro σ inv
  refine gv fun _ gk=>?_
  obtain⟨ws,ext,u0,u1,hσ,hn⟩:=inv
  subst hσ
  refine gk ?_
  refine⟨rfl,?_⟩
  have e1:K++[PObj.list (W.map .int)]++PObj.list (ws.map .int)::ext=K++([PObj.list (W.map .int)]++PObj.list (ws.map .int)::ext):=List.append_assoc ..
  have e2:=atc (H:=K++[PObj.list (W.map .int)]) (.list (ws.map .int)) ext
  dsimp only[It.still]
  rw[e1] at e2 ⊢
  exact h ws _ _ (by exact Eq.trans hn hel) e2
theorem law_hidden {c:Nat}{cs:List Int}{v0 v2 v3 v4 v5:Option PV}{Q:PV→PS→Prop}(hc:K[c]?=some (.list (cs.map .int)))
  (h:Q (.ref K.length) ⟨K++[.list (natsV (hidN cs.sum))],[v0,some (.ref c),v2,v3,v4,v5]⟩):
  Wp (pListComp 1 [(1,"cells")] (pRangeIt (pConst (.int 5))) (setV 0) (ret true) (pBin oMod (pBin oAdd (pCall (.builtin "sum") F_sum (pConst (.const (.builtin "sum"))) (aCons (pLoc 1) aNil)) (pBin oMul (pConst (.int 2)) (pLoc 0))) (pConst (.int 5)))) ⟨K,[v0,some (.ref c),v2,v3,v4,v5]⟩ Q:=by
 refine wp_listcomp (wp_rangeIt (wp_const ⟨5,rfl,by decide,?_⟩))
 refine wp_compL_inv (fun n σ=>∃ u0,σ=⟨K++[.list (natsV ((List.range n).map fun(i:Nat)=>((cs.sum+2*(i:Int)).fmod 5).toNat))],[u0,some (.ref c)]⟩) (upto 5) (fun _ _ _=>trivial) ?_ ?_ 0 _ (Nat.zero_le _) ⟨none,rfl⟩
 ·rintro n q σ hq ⟨u0,rfl⟩
  obtain⟨hn,rfl⟩:=upto_get hq
  dsimp only[It.still]
  refine wp_setV ?_
  dsimp only[List.set_cons_succ,List.set_cons_zero]
  refine Wp.ret ⟨fun _=>?_,fun hb=>absurd hb (by decide)⟩
  repeat walk_at "p"
  refine fw_sum (atl hc) ?_
  repeat walk_at "p"
  refine Is2.mk ⟨⟨Nat.lt_of_le_of_lt (show Int.natAbs 2≤2 ^ 4 by decide) (Nat.pow_lt_pow_right (by decide) (by decide)),?_⟩,?_⟩
  ·rw[Int.natAbs_natCast]
   exact Nat.lt_of_le_of_lt (show n≤2 ^ 4 by exact Nat.le_of_lt (Nat.lt_of_lt_of_le hn (by decide))) (Nat.pow_lt_pow_right (by decide) (by decide))
  refine Is2.mk ?_
  walk_at "p"
  refine Is2.mk ⟨by decide,?_⟩
  refine fw_append_at (at1a _) (by simp[natsV];exact Nat.le_of_lt (Nat.lt_of_lt_of_le hn (by decide))) ?_
  rw[app1]
  refine⟨some (.int (n:Int)),?_⟩
  have e:(cs.sum+2*(n:Int)).fmod 5=(((cs.sum+2*(n:Int)).fmod 5).toNat:Int):=by
   rw[Int.fmod_eq_emod_of_nonneg _ (by decide)];lia
  rw[List.range_succ,List.map_append]
  unfold natsV
  rw[List.map_append,e]
  simp
 ·rintro σ ⟨u0,rfl⟩
  rw[upto_len]
  exact⟨rfl,h⟩
end
open PySem PySem.W
section
variable {H K:List PObj}{V:List (Option PV)}{R:PV→List PObj→Prop}
theorem law_dict {tl:Nat}{tt:List Nat}{v0 v1 v2 v3 v4:Option PV}{Q:PV→PS→Prop}(ht:K[tl]?=some (.list (natsV tt))) (htl:tt.length=5)
  (h:∀ ext lf ep,(K++ext)[K.length]?=some (.dict (keyV (List.range 5) lf) ep)→(∀ k,k<5→(K++ext)[lf k]?=some (.list (((ftL (tt.getD k 0) [] 0).take 3).map .int)))→Q (.ref K.length) ⟨K++ext,[v0,v1,v2,v3,v4,some (.ref tl)]⟩):
  Wp (pDictComp 1 [(5,"totals")] (pRangeIt (pConst (.int 5))) (setV 0) (ret true) (pLoc 0) (pCall (.ref 245) F_law_first_three (pConst (.const (.ref 245))) (aCons (pSub (pLoc 1) (pLoc 0)) aNil))) ⟨K,[v0,v1,v2,v3,v4,some (.ref tl)]⟩ Q:=by
 refine wp_comp (wp_rangeIt (wp_const ⟨5,rfl,by decide,?_⟩))
 refine wp_compL_inv (fun n σ=>Ex4 fun ext lf ep u0=>σ=⟨K++.dict (keyV (List.range n) lf) ep::ext,[u0,some (.ref tl)]⟩∧∀ k,k<n→(K++.dict (keyV (List.range n) lf) ep::ext)[lf k]?=some (.list (((ftL (tt.getD k 0) [] 0).take 3).map .int)))
  (upto 5) (fun _ _ _=>trivial) ?_ ?_ 0 _ (Nat.zero_le _) ⟨[],fun _=>0,0,none,rfl,fun k hk=>by exact absurd hk (Nat.not_lt_zero _)⟩
 ·rintro n q σ hq ⟨ext,lf,ep,u0,rfl,hk⟩
  obtain⟨hn,rfl⟩:=upto_get hq
  dsimp only[It.still]
  refine wp_setV ?_
  dsimp only[List.set_cons_succ,List.set_cons_zero]
  refine Wp.ret ⟨fun _=>?_,fun hb=>absurd hb (by decide)⟩
  refine Wp.seq (wp_loc rfl (Wp.seq ?_))
  repeat walk_at "p"
  refine Is.mk (item_nat (atl ht) (by exact Nat.lt_of_lt_of_eq hn (Eq.symm htl)) (by exact Nat.le_trans (Nat.le_of_eq htl) (by decide))) ?_
  walk_at "p"
  refine fw_ft fun ext2 r hr=>?_
  have hd:=atl (ext:=ext2) (atc (H:=K) (.dict (keyV (List.range n) lf) ep) ext)
  have hnr:n ∉ List.range n:=by simp
  refine .of (p:=()) (σ':=⟨(K++PObj.dict (keyV (List.range n) lf) ep::ext++ext2).set K.length (.dict (keyV (List.range n++[n]) (upd lf n r)) (dep (keyV (List.range n) lf) (n:Int) ep)),[some (.int (n:Int)),some (.ref tl)]⟩) (by
   simp only[pPutD,hd]
   rw[if_pos (by simp[keyV];exact Nat.le_of_lt (Nat.lt_of_lt_of_le hn (by decide))),dput_key hnr]) ?_
  have e1:K++PObj.dict (keyV (List.range n) lf) ep::ext++ext2=K++PObj.dict (keyV (List.range n) lf) ep::(ext++ext2):=by simp
  refine⟨ext++ext2,upd lf n r,dep (keyV (List.range n) lf) (n:Int) ep,some (.int (n:Int)),by rw[e1,appc,List.range_succ],fun k hk2=>?_⟩
  rw[List.range_succ,← appc (.dict (keyV (List.range n) lf) ep),← e1]
  by_cases q:k=n
  ·rw[q]
   simp only[upd,if_true]
   exact set_ne hr (kind_ne hd hr (by exact tne rfl))
  ·simp only[upd,q,if_false]
   have:=atl (ext:=ext2) (hk k (by exact Nat.lt_of_le_of_ne (Nat.le_of_lt_succ hk2) q))
   exact set_ne this (kind_ne hd this (by exact tne rfl))
 ·rintro σ ⟨ext,lf,ep,u0,rfl,hk⟩
  rw[upto_len] at hk ⊢
  exact⟨rfl,h _ lf ep (atc _ _) hk⟩
theorem law_plain {ns:List Int}{o:PySem.Obj}(ho:rawInts o=some ns):Fw F_law [.ref 0] [.raw o] fun p H'=>p=.bool true∧H'[0]?=some (.raw o):=by
 refine fw_run (V0:=[some (.ref 0),none,none,none,none,none]) rfl ?_
 skip
 refine wp_bCons (wp_sSet (law_cells (K:=[.raw o]) rfl ho fun cs X hcl=>?_))
 have h0:∀ ext:List PObj,([PObj.raw o]++ext)[0]?=some (.raw o):=fun ext=>rfl
 have hc:=at2b (H:=[PObj.raw o]) X (.list (cs.map .int))
 have k0:=h0 [X,.list (cs.map .int)]
 generalize [PObj.raw o]++[X,.list (cs.map .int)]=K1 at*
 generalize [PObj.raw o].length+1=c at*
 dsimp only[List.set_cons_succ,List.set_cons_zero]
 refine wp_bCons (wp_sSet (law_wants hc hcl fun ws ext r hwl hw=>?_))
 have hc2:=atl (ext:=ext) hc
 have k2:=atl (ext:=ext) k0
 generalize K1++ext=K2 at*
 dsimp only[List.set_cons_succ,List.set_cons_zero]
 refine wp_bCons (wp_sSet (law_hidden hc2 ?_))
 have hh:=at1a (K:=K2) (.list (natsV (hidN cs.sum)))
 have hw3:=atl (ext:=[.list (natsV (hidN cs.sum))]) hw
 have k3:=atl (ext:=[.list (natsV (hidN cs.sum))]) k2
 generalize K2++[.list (natsV (hidN cs.sum))]=K3 at*
 generalize K2.length=hid at*
 dsimp only[List.set_cons_succ,List.set_cons_zero]
 refine gv fun _ gk=>?_
 obtain⟨d1,d3⟩:=hid_ok cs.sum
 obtain⟨pl,S⟩:=rs_ok cs.sum hwl
 refine gk ?_
 repeat walk_at "p"
 refine fw_recipes hw3 hwl hh d1 d3 fun ext4 rc hR=>?_
 have k4:=atl (ext:=ext4) k3
 generalize recsN (hidN cs.sum) (ws.zip places)=rec at*
 generalize K3++ext4=K4 at*
 try dsimp only[List.set_cons_succ,List.set_cons_zero]
 have hO:RecOK rec:=fun k hk=>⟨by rw[S.two k hk];exact by decide,fun r hr=>by
  refine gv fun _ gk=>?_
  obtain⟨x,y,z⟩:=S.pr k hk r hr
  refine gk ?_
  exact⟨x,y,fun p hp=>(z p hp).1⟩⟩
 repeat walk_at "p"
 refine fw_totals hR hO (tot_bound S) fun ext5 tl htl=>?_
 have k5:=atl (ext:=ext5) k4
 have hR5:=hR.app ext5
 generalize K4++ext5=K5 at*
 try dsimp only[List.set_cons_succ,List.set_cons_zero]
 repeat walk_at "p"
 refine Wp.seq ?_
 repeat walk_at "p"
 refine fw_least hR5 hO S.two (fun k hk r hr p hp=>((S.pr k hk r hr).2.2 p hp).2) (fun k hk=>(LV_ok S hk).1) (fun k hk=>(LV_ok S hk).2.1) (fun k hk=>(LV_ok S hk).2.2) fun K6 q D lf ep low6 hq hD hl=>?_
 have up6:∀ {i ob},K5[i]?=some ob→K6[i]?=some ob:=fun {i ob} e=>by rw[low6 _ (List.getElem?_eq_some_iff.mp e).1];exact e
 refine Wp.seq (law_dict (up6 htl) (by rfl) fun ext7 lf2 ep2 hq2 hl2=>?_)
 have he:eqDict (K6++ext7) (.ref q) (.ref K6.length)=true:=by
  unfold eqDict
  simp only[atl hq,hq2]
  rw[Bool.and_eq_true]
  refine⟨by simp[keyV,hD],List.all_eq_true.mpr fun e he=>?_⟩
  refine gv fun _ gk=>?_
  obtain⟨k,hk,rfl⟩:=List.mem_map.mp he
  obtain⟨k5',hlk⟩:=hl k hk
  refine gk ?_
  have hl2k:=hl2 k k5'
  have p5:=S.pl5 k k5'
  unfold eqRow
  have g1:listInts (K6++ext7) (.ref (lf k))=some (LVn rec k):=by simp only[listInts,atl hlk,intsOf_map]
  have g2:(dget (keyV (List.range 5) lf2) (k:Int)).bind (listInts (K6++ext7))=some (LVn rec k):=by
   rw[dget_key,if_pos (List.mem_range.mpr k5')]
   simp only[Option.bind_some,listInts,hl2k,intsOf_map]
   rw[tot_val S 5 k k5',ft_lo]
   ·rfl
   ·refine gv fun _ gk=>?_
    obtain⟨a,b⟩:=Wn_bound S 5 k k5'
    obtain⟨c,d⟩:=Lb_mono (pl k) 4 (by exact Nat.le_of_lt_succ p5) (by decide)
    refine gk ?_
    have e1:Lb 4=32768:=rfl
    exact Nat.lt_of_le_of_lt a (Nat.lt_of_le_of_lt c (by decide))
  rw[g2]
  dsimp only
  rw[g1]
  simp
 exact⟨.bool true,⟨K6++ext7,_⟩,if_pos he,rfl,atl (up6 k5)⟩
end
theorem law_true:PySem.Challenge.rw_nq0270_01.Holds:=fin_of (k:=0+6+1) (by decide) (sf_law 0) fun ns o ho=>by
 obtain⟨p,H',e,rfl,q⟩:=law_plain ho
 exact⟨H',e,q⟩
end Mine.Internal
theorem PySem.Challenge.cw_nq0270_01_holds : PySem.Challenge.rw_nq0270_01.Holds :=
 Mine.Internal.law_true
