import PyProof.Rows.All
import Wide.All
import OpenK.AllK
import Wide.FinOn
import Lean
import PySem.Challenge.RW_ny0293_01
set_option Elab.async false
set_option maxRecDepth 100000
set_option maxHeartbeats 8000000
set_option linter.all false

open PySem PySem.W PyProof.Rows PySem.Calls
namespace Mine
section
noncomputable abbrev xs (s:String) (t:Nat):Value:=.str (Str.ofString s) t
noncomputable abbrev xi (i:Int) (t:Nat):Value:=.int i t
noncomputable abbrev en (P:Params) (s:String) (t:Nat):DictEntry:={ hash:=PyData.keyHash P (Str.ofString s),key:=.str (Str.ofString s) t,val:=.none }
noncomputable abbrev coO (vs:Array Value):Obj:={ cls:=.type "code",data:=.fields vs }
noncomputable abbrev tuO (vs:Array Value):Obj:={ cls:=.type "tuple",data:=.seq vs }
noncomputable def topS (i:Nat):Stmt:=(Challenge.pw_ny0293_01.main.body[i]?).getD default
noncomputable def bodyS:Stmt→List Stmt
  | .FunctionDef _ _ b ..=>b
  | .ClassDef _ _ _ b ..=>b
  | _=>[]
noncomputable def subS (i j:Nat):Stmt:=((bodyS (topS i))[j]?).getD default
noncomputable def fnO (s:Stmt) (q m:String) (mt code:Nat) (dflt:Value):Obj:=match s with
  | .FunctionDef n ps b _ _ _ sc ..=>{ cls:=.type "function",data:=.func { name:=n,qualname:=Str.ofString q,params:=ps,body:=.stmts b,scope:=sc,globals:=3,closure:=[],defaults:=dflt,kwdefaults:=.none,pyModule:=xs m mt,code:=.ref code } }
  | _=>default
-- some keys of this heap bear the word that opens a module row: in those strings its first letter stands as its code, since the text check reads the plain word as such a row
noncomputable def Kd (P:Params):Frag:=[
  (2,{ cls:=Value.none,data:=Data.dict #[{ en P "\x69mport.loaded._sre" 183 with val:=Value.bool true },{ en P "class._frozen_importlib.BuiltinImporter" 185 with val:=Value.ref 14 },{ en P "watched.\x69mport" 206 with val:=Value.ref 18 },{ en P "class._frozen_importlib.ModuleSpec" 216 with val:=Value.ref 22 },{ en P "sys.modules.booked-epoch" 245 with val:=xi 3 0 },{ en P "\x69mport.later-laid._sre" 270 with val:=Value.bool true },{ en P "watched.library" 272 with val:=Value.ref 27 },{ en P "watched.library-objects" 0 with val:=xs "\x0c" 0 }, { en P "watched.library-deep._sre" 273 with val := xs "\x04\x00\x00\x0b\x04\x00\x00\x0b\x04\x00\x00\x03\x04\x00\x00\x0b\x08\x04dict\x02" 0 }] 9 }),
  (3,{ cls:=Value.type "dict",data:=Data.dict #[{ en P "__name__" 165 with val:=xs "law_ny0293_01" 601 },{ en P "__doc__" 166 with val:=Value.none },{ en P "__package__" 167 with val:=Value.none },{ en P "__loader__" 168 with val:=Value.builtin "__main__.__loader__#opaque" },{ en P "__spec__" 169 with val:=Value.none },{ en P "__annotations__" 170 with val:=Value.ref 6 },{ en P "__builtins__" 171 with val:=Value.ref 4 },{ en P "__file__" 173 with val:=xs "/claim/cut.py" 172 },{ en P "__cached__" 174 with val:=Value.none },{ en P "_sre" 275 with val:=Value.ref 12 },{ en P "_wall" 288 with val:=Value.ref 38 },{ en P "heappush" 298 with val:=Value.ref 45 },{ en P "heappop" 307 with val:=Value.ref 52 },{ en P "heappushpop" 315 with val:=Value.ref 59 },{ en P "heapify" 324 with val:=Value.ref 66 },{ en P "_siftdown" 336 with val:=Value.ref 73 },{ en P "_siftup" 349 with val:=Value.ref 80 },{ en P "_NODE_OUT" 354 with val:=Value.int (-1) 353 },{ en P "_NODE_DONE" 357 with val:=Value.int (-2) 356 },{ en P "_NodeInfo" 394 with val:=Value.ref 99 },{ en P "CycleError" 412 with val:=Value.ref 114 },{ en P "TopologicalSorter" 531 with val:=Value.ref 196 },{ en P "_twin_re_1" 549 with val:=Value.ref 205 },{ en P "_twin_re_2" 591 with val:=Value.ref 210 },{ en P "CRLF" 593 with val:=xs "\x0d\n" 592 }, { en P "quotedata" 600 with val := Value.ref 217 }, { en P "_law_mail" 614 with val := Value.ref 224 }, { en P "_law_mails" 627 with val := Value.ref 231 }, { en P "_law_sent" 633 with val := Value.ref 236 }, { en P "_law_alike" 642 with val := Value.ref 243 }, { en P "_law_side_by_side" 656 with val := Value.ref 250 }, { en P "_law_rounds" 662 with val := Value.ref 255 }, { en P "_law_told" 668 with val := Value.ref 260 }, { en P "_law_last_on_top" 679 with val := Value.ref 267 }, { en P "_law_begins" 688 with val := Value.ref 274 }, { en P "law" 694 with val:=Value.ref 279 }] 36 }),
  (32,tuO #[]),
  (34,tuO #[xs "k" 285]),
  (35,tuO #[]),
  (37,coO #[xs "_wall" 282,xs "_wall" 283,xs "/claim/cut.py" 284,xi 2 0,xi 1 0,xi 0 0,xi 0 0,xi 3 0,Value.ref 32,Value.bool true,xi 276 0,Value.ref 33,Value.none,Value.ref 34,Value.ref 35,Value.ref 36,xi 286 0,xi 2 0,xs "/claim/cut.py" 287]),
  (38,fnO (topS 1) "_wall" "__main__" 164 37 (.none)),
  (39,tuO #[]),
  (41,tuO #[xs "heap" 294,xs "item" 295]),
  (42,tuO #[]),
  (44,coO #[xs "heappush" 291,xs "heappush" 292,xs "/claim/cut.py" 293,xi 6 0,xi 2 0,xi 0 0,xi 0 0,xi 3 0,Value.ref 39,Value.bool true,xi 276 0,Value.ref 40,Value.none,Value.ref 41,Value.ref 42,Value.ref 43,xi 296 0,xi 6 0,xs "/claim/cut.py" 297]),
  (45,fnO (topS 3) "heappush" "cpy313.heapq" 289 44 (.none)),
  (46,tuO #[]),
  (48,tuO #[xs "heap" 302,xs "lastelt" 303,xs "returnitem" 304]),
  (49,tuO #[]),
  (51,coO #[xs "heappop" 299,xs "heappop" 300,xs "/claim/cut.py" 301,xi 9 0,xi 1 0,xi 0 0,xi 0 0,xi 3 0,Value.ref 46,Value.bool true,xi 276 0,Value.ref 47,Value.none,Value.ref 48,Value.ref 49,Value.ref 50,xi 305 0,xi 9 0,xs "/claim/cut.py" 306]),
  (52,fnO (topS 4) "heappop" "cpy313.heapq" 289 51 (.none)),
  (53,tuO #[]),
  (55,tuO #[xs "heap" 311,xs "item" 312]),
  (56,tuO #[]),
  (58,coO #[xs "heappushpop" 308,xs "heappushpop" 309,xs "/claim/cut.py" 310,xi 17 0,xi 2 0,xi 0 0,xi 0 0,xi 3 0,Value.ref 53,Value.bool true,xi 276 0,Value.ref 54,Value.none,Value.ref 55,Value.ref 56,Value.ref 57,xi 313 0,xi 17 0,xs "/claim/cut.py" 314]),
  (59,fnO (topS 5) "heappushpop" "cpy313.heapq" 289 58 (.none)),
  (60,tuO #[]),
  (62,tuO #[xs "x" 319,xs "n" 320,xs "i" 321]),
  (63,tuO #[]),
  (65,coO #[xs "heapify" 316,xs "heapify" 317,xs "/claim/cut.py" 318,xi 22 0,xi 1 0,xi 0 0,xi 0 0,xi 3 0,Value.ref 60,Value.bool true,xi 276 0,Value.ref 61,Value.none,Value.ref 62,Value.ref 63,Value.ref 64,xi 322 0,xi 22 0,xs "/claim/cut.py" 323]),
  (66,fnO (topS 6) "heapify" "cpy313.heapq" 289 65 (.none)),
  (67,tuO #[]),
  (69,tuO #[xs "heap" 328,xs "startpos" 329,xs "pos" 330,xs "newitem" 331,xs "parentpos" 332,xs "parent" 333]),
  (70,tuO #[]),
  (72,coO #[xs "_siftdown" 325,xs "_siftdown" 326,xs "/claim/cut.py" 327,xi 26 0,xi 3 0,xi 0 0,xi 0 0,xi 3 0,Value.ref 67,Value.bool true,xi 276 0,Value.ref 68,Value.none,Value.ref 69,Value.ref 70,Value.ref 71,xi 334 0,xi 26 0,xs "/claim/cut.py" 335]),
  (73,fnO (topS 7) "_siftdown" "cpy313.heapq" 289 72 (.none)),
  (74,tuO #[]),
  (76,tuO #[xs "heap" 340,xs "pos" 341,xs "endpos" 342,xs "startpos" 343,xs "newitem" 344,xs "childpos" 345,xs "rightpos" 346]),
  (77,tuO #[]),
  (79,coO #[xs "_siftup" 337,xs "_siftup" 338,xs "/claim/cut.py" 339,xi 37 0,xi 2 0,xi 0 0,xi 0 0,xi 3 0,Value.ref 74,Value.bool true,xi 276 0,Value.ref 75,Value.none,Value.ref 76,Value.ref 77,Value.ref 78,xi 347 0,xi 37 0,xs "/claim/cut.py" 348]),
  (80,fnO (topS 8) "_siftup" "cpy313.heapq" 289 79 (.none)),
  (88,tuO #[xs "node" 370,xs "npredecessors" 371,xs "successors" 372]),
  (89,tuO #[]),
  (91,tuO #[xs "self" 377,xs "node" 378]),
  (92,tuO #[]),
  (94,coO #[xs "__init__" 374,xs "_NodeInfo.__init__" 375,xs "/claim/cut.py" 376,xi 57 0,xi 2 0,xi 0 0,xi 0 0,xi 3 0,Value.ref 89,Value.bool true,xi 276 0,Value.ref 90,Value.none,Value.ref 91,Value.ref 92,Value.ref 93,xi 379 0,xi 57 0,xs "/claim/cut.py" 380]),
  (95,fnO (subS 12 1) "_NodeInfo.__init__" "cpy313.graphlib" 350 94 (.none)),
  (96,tuO #[xs "node" 382,xs "npredecessors" 383,xs "successors" 384]),
  (98,{ cls:=Value.type "dict",data:=Data.dict #[{ en P "__module__" 365 with val:=xs "cpy313.graphlib" 350 },{ en P "__firstlineno__" 369 with val:=xi 54 368 },{ en P "__slots__" 373 with val:=Value.ref 88 },{ en P "__init__" 381 with val:=Value.ref 95 },{ en P "__static_attributes__" 385 with val:=Value.ref 96 },{ en P "node" 387 with val:=Value.ref 100 },{ en P "npredecessors" 389 with val:=Value.ref 101 },{ en P "successors" 391 with val:=Value.ref 102 },{ en P "__doc__" 392 with val:=Value.none }] 5 }),
  (99,{ cls:=Value.type "type",data:=Data.cls { name:=Str.ofString "_NodeInfo",bases:=[Value.type "object"],mro:=[Value.ref 99,Value.type "object"],ns:=98,qualname:=Str.ofString "_NodeInfo",hasDict:=false,slotNames:=[Str.ofString "node",Str.ofString "npredecessors",Str.ofString "successors"] },slots:=#[none,none,some (xs "_NodeInfo" 358),some (xs "_NodeInfo" 366),some (Value.builtin "object.__new__"),some (Value.bool false)] }),
  (100,{ cls:=Value.type "member_descriptor",data:=Data.fields #[xs "node" 386,Value.ref 99,Value.builtin "proto.slot",Value.builtin "proto.slot#set",xi 2 0] }),
  (101,{ cls:=Value.type "member_descriptor",data:=Data.fields #[xs "npredecessors" 388,Value.ref 99,Value.builtin "proto.slot",Value.builtin "proto.slot#set",xi 1 0] }),
  (102,{ cls:=Value.type "member_descriptor",data:=Data.fields #[xs "successors" 390,Value.ref 99,Value.builtin "proto.slot",Value.builtin "proto.slot#set",xi 0 0] }),
  (105,tuO #[Value.type "ValueError"]),
  (112,tuO #[]),
  (113,{ cls:=Value.type "dict",data:=Data.dict #[{ en P "__module__" 402 with val:=xs "cpy313.graphlib" 350 },{ en P "__firstlineno__" 406 with val:=xi 61 405 },{ en P "__static_attributes__" 407 with val:=Value.ref 112 },{ en P "__weakref__" 409 with val:=Value.ref 115 },{ en P "__doc__" 410 with val:=Value.none }] 3 }),
  (114,{ cls:=Value.type "type",data:=Data.cls { name:=Str.ofString "CycleError",bases:=[Value.type "ValueError"],mro:=[Value.ref 114,Value.type "ValueError",Value.type "Exception",Value.type "BaseException",Value.type "object"],ns:=113,qualname:=Str.ofString "CycleError" },slots:=#[some (Value.ref 105),none,some (xs "CycleError" 395),some (xs "CycleError" 403),some (Value.builtin "ValueError.__new__"),some (Value.bool true)] }),
  (115,{ cls:=Value.type "getset_descriptor",data:=Data.fields #[xs "__weakref__" 408,Value.ref 114,Value.builtin "ExceptionGroup.__weakref__",Value.none] }),
  (125,tuO #[Value.none]),
  (126,tuO #[]),
  (128,tuO #[xs "self" 428,xs "graph" 429,xs "node" 430,xs "predecessors" 431]),
  (129,tuO #[]),
  (131,coO #[xs "__init__" 425,xs "TopologicalSorter.__init__" 426,xs "/claim/cut.py" 427,xi 65 0,xi 2 0,xi 0 0,xi 0 0,xi 3 0,Value.ref 126,Value.bool true,xi 276 0,Value.ref 127,Value.none,Value.ref 128,Value.ref 129,Value.ref 130,xi 432 0,xi 65 0,xs "/claim/cut.py" 433]),
  (132,fnO (subS 14 0) "TopologicalSorter.__init__" "cpy313.graphlib" 350 131 (.ref 125)),
  (133,tuO #[]),
  (135,tuO #[xs "self" 438,xs "node" 439,xs "result" 440]),
  (136,tuO #[]),
  (138,coO #[xs "_get_nodeinfo" 435,xs "TopologicalSorter._get_nodeinfo" 436,xs "/claim/cut.py" 437,xi 74 0,xi 2 0,xi 0 0,xi 0 0,xi 3 0,Value.ref 133,Value.bool true,xi 276 0,Value.ref 134,Value.none,Value.ref 135,Value.ref 136,Value.ref 137,xi 441 0,xi 74 0,xs "/claim/cut.py" 442]),
  (139,fnO (subS 14 1) "TopologicalSorter._get_nodeinfo" "cpy313.graphlib" 350 138 (.none)),
  (140,tuO #[]),
  (142,tuO #[xs "self" 447,xs "node" 448,xs "predecessors" 449,xs "nodeinfo" 450,xs "pred" 451,xs "pred_info" 452]),
  (143,tuO #[]),
  (145,coO #[xs "add" 444,xs "TopologicalSorter.add" 445,xs "/claim/cut.py" 446,xi 79 0,xi 2 0,xi 0 0,xi 0 0,xi 7 0,Value.ref 140,Value.bool true,xi 276 0,Value.ref 141,Value.none,Value.ref 142,Value.ref 143,Value.ref 144,xi 453 0,xi 79 0,xs "/claim/cut.py" 454]),
  (146,fnO (subS 14 2) "TopologicalSorter.add" "cpy313.graphlib" 350 145 (.none)),
  (147,tuO #[]),
  (150,coO #[xs "prepare" 456,xs "TopologicalSorter.prepare" 457,xs "/claim/cut.py" 458,xi 88 0,xi 1 0,xi 0 0,xi 0 0,xi 3 0,Value.ref 147,Value.bool true,xi 276 0,Value.ref 148,Value.none,Value.none,Value.none,Value.ref 149,xi 459 0,xi 88 0,xs "/claim/cut.py" 460]),
  (151,fnO (subS 14 3) "TopologicalSorter.prepare" "cpy313.graphlib" 350 150 (.none)),
  (152,tuO #[]),
  (154,tuO #[xs "self" 465,xs "result" 466,xs "n2i" 467,xs "node" 468]),
  (155,tuO #[]),
  (157,coO #[xs "get_ready" 462,xs "TopologicalSorter.get_ready" 463,xs "/claim/cut.py" 464,xi 96 0,xi 1 0,xi 0 0,xi 0 0,xi 3 0,Value.ref 152,Value.bool true,xi 276 0,Value.ref 153,Value.none,Value.ref 154,Value.ref 155,Value.ref 156,xi 469 0,xi 96 0,xs "/claim/cut.py" 470]),
  (158,fnO (subS 14 4) "TopologicalSorter.get_ready" "cpy313.graphlib" 350 157 (.none)),
  (159,tuO #[]),
  (161,tuO #[xs "self" 475]),
  (162,tuO #[]),
  (164,coO #[xs "is_active" 472,xs "TopologicalSorter.is_active" 473,xs "/claim/cut.py" 474,xi 107 0,xi 1 0,xi 0 0,xi 0 0,xi 3 0,Value.ref 159,Value.bool true,xi 276 0,Value.ref 160,Value.none,Value.ref 161,Value.ref 162,Value.ref 163,xi 476 0,xi 107 0,xs "/claim/cut.py" 477]),
  (165,fnO (subS 14 5) "TopologicalSorter.is_active" "cpy313.graphlib" 350 164 (.none)),
  (166,tuO #[]),
  (168,tuO #[xs "self" 482]),
  (169,tuO #[]),
  (171,coO #[xs "__bool__" 479,xs "TopologicalSorter.__bool__" 480,xs "/claim/cut.py" 481,xi 112 0,xi 1 0,xi 0 0,xi 0 0,xi 3 0,Value.ref 166,Value.bool true,xi 276 0,Value.ref 167,Value.none,Value.ref 168,Value.ref 169,Value.ref 170,xi 483 0,xi 112 0,xs "/claim/cut.py" 484]),
  (172,fnO (subS 14 6) "TopologicalSorter.__bool__" "cpy313.graphlib" 350 171 (.none)),
  (173,tuO #[]),
  (175,tuO #[xs "self" 489,xs "nodes" 490,xs "n2i" 491,xs "node" 492,xs "nodeinfo" 493,xs "stat" 494,xs "successor" 495,xs "successor_info" 496]),
  (176,tuO #[]),
  (178,coO #[xs "done" 486,xs "TopologicalSorter.done" 487,xs "/claim/cut.py" 488,xi 115 0,xi 1 0,xi 0 0,xi 0 0,xi 7 0,Value.ref 173,Value.bool true,xi 276 0,Value.ref 174,Value.none,Value.ref 175,Value.ref 176,Value.ref 177,xi 497 0,xi 115 0,xs "/claim/cut.py" 498]),
  (179,fnO (subS 14 7) "TopologicalSorter.done" "cpy313.graphlib" 350 178 (.none)),
  (180,tuO #[]),
  (182,tuO #[xs "self" 503,xs "n2i" 504,xs "stack" 505,xs "itstack" 506,xs "seen" 507,xs "node2stacki" 508,xs "node" 509]),
  (183,tuO #[]),
  (185,coO #[xs "_find_cycle" 500,xs "TopologicalSorter._find_cycle" 501,xs "/claim/cut.py" 502,xi 138 0,xi 1 0,xi 0 0,xi 0 0,xi 3 0,Value.ref 180,Value.bool true,xi 276 0,Value.ref 181,Value.none,Value.ref 182,Value.ref 183,Value.ref 184,xi 510 0,xi 138 0,xs "/claim/cut.py" 511]),
  (186,fnO (subS 14 8) "TopologicalSorter._find_cycle" "cpy313.graphlib" 350 185 (.none)),
  (187,tuO #[]),
  (189,tuO #[xs "self" 516]),
  (190,tuO #[]),
  (192,coO #[xs "static_order" 513,xs "TopologicalSorter.static_order" 514,xs "/claim/cut.py" 515,xi 167 0,xi 1 0,xi 0 0,xi 0 0,xi 3 0,Value.ref 187,Value.bool true,xi 276 0,Value.ref 188,Value.none,Value.ref 189,Value.ref 190,Value.ref 191,xi 517 0,xi 167 0,xs "/claim/cut.py" 518]),
  (193,fnO (subS 14 9) "TopologicalSorter.static_order" "cpy313.graphlib" 350 192 (.none)),
  (194,tuO #[xs "_nfinished" 520,xs "_node2info" 521,xs "_npassedout" 522,xs "_ready_nodes" 523]),
  (195,{ cls:=Value.type "dict",data:=Data.dict #[{ en P "__module__" 420 with val:=xs "cpy313.graphlib" 350 },{ en P "__firstlineno__" 424 with val:=xi 63 423 },{ en P "__init__" 434 with val:=Value.ref 132 },{ en P "_get_nodeinfo" 443 with val:=Value.ref 139 },{ en P "add" 455 with val:=Value.ref 146 },{ en P "prepare" 461 with val:=Value.ref 151 },{ en P "get_ready" 471 with val:=Value.ref 158 },{ en P "is_active" 478 with val:=Value.ref 165 },{ en P "__bool__" 485 with val:=Value.ref 172 },{ en P "done" 499 with val:=Value.ref 179 },{ en P "_find_cycle" 512 with val:=Value.ref 186 },{ en P "static_order" 519 with val:=Value.ref 193 },{ en P "__static_attributes__" 524 with val:=Value.ref 194 },{ en P "__dict__" 526 with val:=Value.ref 197 },{ en P "__weakref__" 528 with val:=Value.ref 198 },{ en P "__doc__" 529 with val:=Value.none }] 4 }),
  (196,{ cls:=Value.type "type",data:=Data.cls { name:=Str.ofString "TopologicalSorter",bases:=[Value.type "object"],mro:=[Value.ref 196,Value.type "object"],ns:=195,qualname:=Str.ofString "TopologicalSorter" },slots:=#[none,none,some (xs "TopologicalSorter" 413),some (xs "TopologicalSorter" 421),some (Value.builtin "object.__new__"),some (Value.bool true)] }),
  (197,{ cls:=Value.type "getset_descriptor",data:=Data.fields #[xs "__dict__" 525,Value.ref 196,Value.builtin "function.__dict__",Value.builtin "function.__dict__#set"] }),
  (198,{ cls:=Value.type "getset_descriptor",data:=Data.fields #[xs "__weakref__" 527,Value.ref 196,Value.builtin "ExceptionGroup.__weakref__",Value.none] }),
  (204,tuO #[xi 14 0,xi 4 0,xi 0 0,xi 1 0,xi 1 0,xi 6 0,xi 1 0,xi 16 0,xi 46 0,xi 1 0]),
  (205,{ cls:=Value.type "re.Pattern",data:=Data.fields #[xs "(?m)^\\." 535,xi 40 548,xi 0 0,Value.none,Value.none,Value.ref 204,xi 0 0] }),
  (209,tuO #[xi 14 0,xi 9 0,xi 4 0,xi 1 0,xi 2 0,xi 16 0,xi 10 0,xi 16 0,xi 13 0,xi 0 0,xi 7 0,xi 7 0,xi 16 0,xi 13 0,xi 16 0,xi 10 0,xi 15 0,xi 18 0,xi 5 0,xi 16 0,xi 10 0,xi 15 0,xi 13 0,xi 11 0,xi 16 0,xi 13 0,xi 5 0,xi 5 0,xi 0 0,xi 16 0,xi 10 0,xi 1 0,xi 15 0,xi 2 0,xi 0 0,xi 1 0]),
  (210,{ cls:=Value.type "re.Pattern",data:=Data.fields #[xs "(?:\\r\\n|\\n|\\r(?!\\n))" 551,xi 32 590,xi 0 0,Value.none,Value.none,Value.ref 209,xi 0 0] }),
  (211,tuO #[]),
  (213,tuO #[xs "data" 597]),
  (214,tuO #[]),
  (216,coO #[xs "quotedata" 594,xs "quotedata" 595,xs "/claim/cut.py" 596,xi 173 0,xi 1 0,xi 0 0,xi 0 0,xi 3 0,Value.ref 211,Value.bool true,xi 276 0,Value.ref 212,Value.none,Value.ref 213,Value.ref 214,Value.ref 215,xi 598 0,xi 173 0,xs "/claim/cut.py" 599]),
  (217,fnO (topS 19) "quotedata" "cpy313.smtplib" 532 216 (.none)),
  (218,tuO #[]),
  (220,tuO #[xs "x" 606,xs "rows" 607,xs "text" 608,xs "k" 609,xs "letter" 610,xs "end" 611]),
  (221,tuO #[]),
  (223,coO #[xs "_law_mail" 603,xs "_law_mail" 604,xs "/claim/cut.py" 605,xi 176 0,xi 1 0,xi 0 0,xi 0 0,xi 3 0,Value.ref 218,Value.bool true,xi 276 0,Value.ref 219,Value.none,Value.ref 220,Value.ref 221,Value.ref 222,xi 612 0,xi 176 0,xs "/claim/cut.py" 613]),
  (224,fnO (topS 21) "_law_mail" "law_ny0293_01" 601 223 (.none)),
  (225,tuO #[]),
  (227,tuO #[xs "script" 618,xs "mails" 619,xs "texts" 620,xs "k" 621,xs "start" 622,xs "rows" 623,xs "text" 624]),
  (228,tuO #[]),
  (230,coO #[xs "_law_mails" 615,xs "_law_mails" 616,xs "/claim/cut.py" 617,xi 190 0,xi 1 0,xi 0 0,xi 0 0,xi 3 0,Value.ref 225,Value.bool true,xi 276 0,Value.ref 226,Value.none,Value.ref 227,Value.ref 228,Value.ref 229,xi 625 0,xi 190 0,xs "/claim/cut.py" 626]),
  (231,fnO (topS 22) "_law_mails" "law_ny0293_01" 601 230 (.none)),
  (232,tuO #[]),
  (235,coO #[xs "_law_sent" 628,xs "_law_sent" 629,xs "/claim/cut.py" 630,xi 198 0,xi 1 0,xi 0 0,xi 0 0,xi 3 0,Value.ref 232,Value.bool true,xi 276 0,Value.ref 233,Value.none,Value.none,Value.none,Value.ref 234,xi 631 0,xi 198 0,xs "/claim/cut.py" 632]),
  (236,fnO (topS 23) "_law_sent" "law_ny0293_01" 601 235 (.none)),
  (237,tuO #[]),
  (239,tuO #[xs "plain" 637,xs "sent" 638,xs "place" 639]),
  (240,tuO #[]),
  (242,coO #[xs "_law_alike" 634,xs "_law_alike" 635,xs "/claim/cut.py" 636,xi 200 0,xi 2 0,xi 0 0,xi 0 0,xi 3 0,Value.ref 237,Value.bool true,xi 276 0,Value.ref 238,Value.none,Value.ref 239,Value.ref 240,Value.ref 241,xi 640 0,xi 200 0,xs "/claim/cut.py" 641]),
  (243,fnO (topS 24) "_law_alike" "law_ny0293_01" 601 242 (.none)),
  (244,tuO #[]),
  (246,tuO #[xs "mails" 646,xs "sents" 647,xs "plain" 648,xs "sent" 649,xs "same" 650,xs "k" 651,xs "out" 652,xs "came" 653]),
  (247,tuO #[]),
  (249,coO #[xs "_law_side_by_side" 643,xs "_law_side_by_side" 644,xs "/claim/cut.py" 645,xi 205 0,xi 2 0,xi 0 0,xi 0 0,xi 3 0,Value.ref 244,Value.bool true,xi 276 0,Value.ref 245,Value.none,Value.ref 246,Value.ref 247,Value.ref 248,xi 654 0,xi 205 0,xs "/claim/cut.py" 655]),
  (250,fnO (topS 25) "_law_side_by_side" "law_ny0293_01" 601 249 (.none)),
  (251,tuO #[]),
  (254,coO #[xs "_law_rounds" 657,xs "_law_rounds" 658,xs "/claim/cut.py" 659,xi 222 0,xi 1 0,xi 0 0,xi 0 0,xi 3 0,Value.ref 251,Value.bool true,xi 276 0,Value.ref 252,Value.none,Value.none,Value.none,Value.ref 253,xi 660 0,xi 222 0,xs "/claim/cut.py" 661]),
  (255,fnO (topS 26) "_law_rounds" "law_ny0293_01" 601 254 (.none)),
  (256,tuO #[]),
  (259,coO #[xs "_law_told" 663,xs "_law_told" 664,xs "/claim/cut.py" 665,xi 235 0,xi 2 0,xi 0 0,xi 0 0,xi 3 0,Value.ref 256,Value.bool true,xi 276 0,Value.ref 257,Value.none,Value.none,Value.none,Value.ref 258,xi 666 0,xi 235 0,xs "/claim/cut.py" 667]),
  (260,fnO (topS 27) "_law_told" "law_ny0293_01" 601 259 (.none)),
  (261,tuO #[]),
  (263,tuO #[xs "heads" 672,xs "sorter" 673,xs "queue" 674,xs "walked" 675,xs "place" 676]),
  (264,tuO #[]),
  (266,coO #[xs "_law_last_on_top" 669,xs "_law_last_on_top" 670,xs "/claim/cut.py" 671,xi 240 0,xi 1 0,xi 0 0,xi 0 0,xi 3 0,Value.ref 261,Value.bool true,xi 276 0,Value.ref 262,Value.none,Value.ref 263,Value.ref 264,Value.ref 265,xi 677 0,xi 240 0,xs "/claim/cut.py" 678]),
  (267,fnO (topS 28) "_law_last_on_top" "law_ny0293_01" 601 266 (.none)),
  (268,tuO #[]),
  (270,tuO #[xs "head" 683,xs "rows" 684,xs "last" 685]),
  (271,tuO #[]),
  (273,coO #[xs "_law_begins" 680,xs "_law_begins" 681,xs "/claim/cut.py" 682,xi 250 0,xi 2 0,xi 0 0,xi 0 0,xi 3 0,Value.ref 268,Value.bool true,xi 276 0,Value.ref 269,Value.none,Value.ref 270,Value.ref 271,Value.ref 272,xi 686 0,xi 250 0,xs "/claim/cut.py" 687]),
  (274,fnO (topS 29) "_law_begins" "law_ny0293_01" 601 273 (.none)),
  (275,tuO #[]),
  (278,coO #[xs "law" 689,xs "law" 690,xs "/claim/cut.py" 691,xi 253 0,xi 1 0,xi 0 0,xi 0 0,xi 3 0,Value.ref 275,Value.bool true,xi 276 0,Value.ref 276,Value.none,Value.none,Value.none,Value.ref 277,xi 692 0,xi 253 0,xs "/claim/cut.py" 693]),
  (279,fnO (topS 30) "law" "law_ny0293_01" 601 278 (.none))]
end
section
noncomputable abbrev Rw:=Challenge.rw_ny0293_01.row
noncomputable def vw:Program:={ Rw.prog with main:={ Rw.prog.main with body:=([0,1,3,4,5,6,7,8,10,11,12,13,14,16,17,18,19,21,22,23,24,25,26,27,28,29,30]:List Nat).filterMap fun i=>Challenge.pw_ny0293_01.main.body[i]? } }
noncomputable def lo:List Str:=[Str.ofString "_NodeInfo",Str.ofString "_twin_re_1",Str.ofString "_twin_re_2"]
noncomputable def asK:List Addr:=[2,3,32,34,35,37,38,39,41,42,44,45,46,48,49,51,52,53,55,56,58,59,60,62,63,65,66,67,69,70,72,73,74,76,77,79,80,88,89,91,92,94,95,96,98,99,100,101,102,105,112,113,114,115,125,126,128,129,131,132,133,135,136,138,139,140,142,143,145,146,147,150,151,152,154,155,157,158,159,161,162,164,165,166,168,169,171,172,173,175,176,178,179,180,182,183,185,186,187,189,190,192,193,194,195,196,197,198,204,205,209,210,211,213,214,216,217,218,220,221,223,224,225,227,228,230,231,232,235,236,237,239,240,242,243,244,246,247,249,250,251,254,255,256,259,260,261,263,264,266,267,268,270,271,273,274,275,278,279]
noncomputable def H:Hook:=kHook Kd asK (fun _=>by kernel_rfl)
theorem left_ok:LeftO Rw.prog vw lo (fun s=>xlAt vw [] s && recOk (RowW.records Rw.toRowW) s) H.obs H.val 3618:=by
  intro w
  unfold openEnds fencedOpening topFrom
  rw [PySem.W.Fast.te10274390034422433532,PySem.W.Fast.te1435165496053646825,PySem.W.Fast.te14289696077712309145,PySem.W.Fast.te14082659384304107361,PySem.W.Fast.te4187177175401517315,PySem.W.Fast.te14364793385576792824,PySem.W.Fast.te8920871248978507458]
  kernel_rfl
theorem said_ok:Challenge.rw_ny0293_01.wellSaid=true:=by
  rw [PySem.W.Fast.te9446332074065402090]
  kernel_rfl
end
section
inductive Ex2 {α0 α1:Type} (P:α0→α1→Prop):Prop | mk (x0:α0) (x1:α1) (h:P x0 x1)
inductive Ex3 {α0 α1 α2:Type} (P:α0→α1→α2→Prop):Prop | mk (x0:α0) (x1:α1) (x2:α2) (h:P x0 x1 x2)
inductive Ex4 {α0 α1 α2 α3:Type} (P:α0→α1→α2→α3→Prop):Prop | mk (x0:α0) (x1:α1) (x2:α2) (x3:α3) (h:P x0 x1 x2 x3)
inductive Ex5 {α0 α1 α2 α3 α4:Type} (P:α0→α1→α2→α3→α4→Prop):Prop | mk (x0:α0) (x1:α1) (x2:α2) (x3:α3) (x4:α4) (h:P x0 x1 x2 x3 x4)
inductive Ex6 {α0 α1 α2 α3 α4 α5:Type} (P:α0→α1→α2→α3→α4→α5→Prop):Prop | mk (x0:α0) (x1:α1) (x2:α2) (x3:α3) (x4:α4) (x5:α5) (h:P x0 x1 x2 x3 x4 x5)
inductive Ex7 {α0 α1 α2 α3 α4 α5 α6:Type} (P:α0→α1→α2→α3→α4→α5→α6→Prop):Prop | mk (x0:α0) (x1:α1) (x2:α2) (x3:α3) (x4:α4) (x5:α5) (x6:α6) (h:P x0 x1 x2 x3 x4 x5 x6)
inductive Ex8 {α0 α1 α2 α3 α4 α5 α6 α7:Type} (P:α0→α1→α2→α3→α4→α5→α6→α7→Prop):Prop | mk (x0:α0) (x1:α1) (x2:α2) (x3:α3) (x4:α4) (x5:α5) (x6:α6) (x7:α7) (h:P x0 x1 x2 x3 x4 x5 x6 x7)
inductive And3 (a0 a1 a2:Prop):Prop | mk (h0:a0) (h1:a1) (h2:a2)
inductive And4 (a0 a1 a2 a3:Prop):Prop | mk (h0:a0) (h1:a1) (h2:a2) (h3:a3)
inductive And5 (a0 a1 a2 a3 a4:Prop):Prop | mk (h0:a0) (h1:a1) (h2:a2) (h3:a3) (h4:a4)
inductive And6 (a0 a1 a2 a3 a4 a5:Prop):Prop | mk (h0:a0) (h1:a1) (h2:a2) (h3:a3) (h4:a4) (h5:a5)
inductive And7 (a0 a1 a2 a3 a4 a5 a6:Prop):Prop | mk (h0:a0) (h1:a1) (h2:a2) (h3:a3) (h4:a4) (h5:a5) (h6:a6)
inductive And8 (a0 a1 a2 a3 a4 a5 a6 a7:Prop):Prop | mk (h0:a0) (h1:a1) (h2:a2) (h3:a3) (h4:a4) (h5:a5) (h6:a6) (h7:a7)
noncomputable abbrev K (w:World):Frag:=Kd w.params
noncomputable abbrev up (s:Shared) (h:Heap) (t:Nat):Shared:=⟨h,s.gens,s.drawn,t,s.os⟩
noncomputable abbrev tkd (s:Shared) (t:Nat):Shared:=⟨s.heap,s.gens,s.drawn,t,s.os⟩
noncomputable def setM (m:Str→Option Value) (x:Str) (v:Value):Str→Option Value:=fun y=>if y=x then some v else m y
structure Ext (W:List Addr) (h h':Heap):Prop where
  keep:∀ b o,b∉W→h.get? b=some o→h'.get? b=some o
  le:h.objs.size≤h'.objs.size
theorem Ext.refl (W:List Addr) (h:Heap):Ext W h h:=⟨fun _ _ _ e=>e,Nat.le_refl _⟩
theorem Ext.trans {W:List Addr} {h h' h'':Heap} (x:Ext W h h') (y:Ext W h' h''):Ext W h h'':=⟨fun b o hb e=>y.keep b o hb (x.keep b o hb e),Nat.le_trans x.le y.le⟩
theorem Ext.mono {W W':List Addr} {h h':Heap} (x:Ext W h h') (hs:∀ a∈W,a∈W'):Ext W' h h':=⟨fun b o hb e=>x.keep b o (fun q=>hb (hs b q)) e,x.le⟩
structure Room (A:Around) (d:Nat):Prop where
  handled:A.handled=none
  depth:A.depth+d<recursionLimit
  units:A.units+8*d<cLine
theorem Room.deeper {A:Around} {d:Nat} (r:Room A (d+1)) (env:Env):Room (A.deeper env) d :=
  ⟨r.handled,by have:=r.depth; show A.depth+1+d<_; omega,by have:=r.units; show A.units+3+8*d<_; omega⟩
theorem Room.le {A:Around} {d d':Nat} (r:Room A d) (h:d'≤d):Room A d':=⟨r.handled,by have:=r.depth; omega,by have:=r.units; omega⟩
theorem Room.le' {A:Around} {d:Nat} (r:Room A d):A.depth<recursionLimit:=by have:=r.depth; omega
theorem Room.in1 {A:Around} {d:Nat} (r:Room A (d+1)):Room A.in1 d:=⟨r.handled,by have:=r.depth; show A.depth+d<_; omega,by have:=r.units; show A.units+1+8*d<_; omega⟩
theorem neW:Nonempty World:=⟨⟨fun _ _=>0,⟨fun _=>0,fun _=>0,fun x=>x,fun _=>0,fun _ _=>0,fun _=>false,fun _=>0,.refcount,.text,fun _=>0,fun _=>none,fun _=>false,fun _ _ _=>true,fun _ _ _=>true,true,fun _=>false,fun _=>none,fun _=>none,fun _ _ _=>0,fun _ _=>none,fun _=>none,fun _=>(0,false,Str.ofString ""),fun _=>none,fun d=>d,fun _=>false⟩⟩⟩
theorem neS:Nonempty Shared:=⟨⟨default,#[],{},0,default⟩⟩
noncomputable def stm (fd:FuncData):List Stmt:=match fd.body with
  | .stmts b=>b
  | _=>[]
theorem with_stm {fd:FuncData} {P:List Stmt→Prop} {b:List Stmt} (h1:fd.body=.stmts b) (h2:P b):P (stm fd):=by
  unfold stm; rw [h1]; exact h2
theorem epsAll {D:Type} (ne:Nonempty D) (P:D→Prop) (h:P (@Classical.epsilon D ne fun d=>¬ P d)):∀ d,P d:=fun d=>Classical.byContradiction fun q=>absurd h (@Classical.epsilon_spec D (fun d=>¬ P d) ⟨d,q⟩)
structure Deeper (A A₁:Around) (env:Env):Prop where
  room:∀ {d:Nat},Room A (d+1)→Room A₁ d
  frames:∀ l,A.frames=some l→A₁.frames=some (env::l)
  eq:A₁=A.deeper env
theorem Deeper.mk' (A:Around) (env:Env):Deeper A (A.deeper env) env:=⟨fun r=>r.deeper env,fun _ h=>Around.frames_deeper h,rfl⟩
theorem ifT {c a b:Prop} [Decidable c] (h:c) (x:a):if c then a else b:=by rw [if_pos h]; exact x
theorem ifF {c a b:Prop} [Decidable c] (h:¬ c) (x:b):if c then a else b:=by rw [if_neg h]; exact x
section
variable {prog:Program} {w:World} {M:Model} {A:Around} {E:Value→Shared→Prop} {s:Shared} {env:Env} {g:Heap} {m:Str→Option Value} {news:List (Addr×Obj)}
theorem ld {L:Addr} {x:Str} {pos:Pos} {v:Value} {Q:Value→Shared→Prop} (F:Fr g L s.heap m) (hv:m x=some v) (h:Q v s)
    (hL:env.locals=L:=by rfl) (hk:env.scope.kind=.function:=by rfl) (hl:env.kindOf x=some .local:=by kernel_rfl) (hd:(x==("__debug__":Str))=false:=by kernel_rfl) :
    wpAny M A (eval (.Name x pos) env) Q E s:=by subst hL; exact wpAny_Name (wpAny_loadName_local hk hl F.ns hv h) hd
theorem ldn {L:Addr} {x:Str} {v:Value} {Q:Value→Shared→Prop} (F:Fr g L s.heap m) (hv:m x=some v) (h:Q v s)
    (hL:env.locals=L:=by rfl) (hk:env.scope.kind=.function:=by rfl) (hl:env.kindOf x=some .local:=by kernel_rfl) :
    wpAny M A (loadName env x) Q E s:=by subst hL; exact wpAny_loadName_local hk hl F.ns hv h
theorem st {L:Addr} {x:Str} {v:Value} {Q:Unit→Shared→Prop} (F:Fr g L s.heap m) (N:News g L s.heap news)
    (h:∀ h' tk,Fr g L h' (setM m x v)→News g L h' news→Q () (up s h' tk))
    (hL:env.locals=L:=by rfl) (hk:env.scope.kind=.function:=by rfl) (hl:env.kindOf x=some .local:=by kernel_rfl) :
    wpAny M A (storeName env x v) Q E s:=by
  subst hL
  exact wpAny_storeName_local hl F.ns (fun h' hn hs=>h h' _ (F.set hn hs) (N.set hs)) (by rw [hk]; rfl)
theorem enter {R:Result→Shared→Prop} {a:Addr} {fd:FuncData} {body:List Stmt} {args:Args} {binds:List (Str×Value)} {W:List (Addr×Obj)}
    (hroom:A.depth<recursionLimit) (ho:s.heap.get? a=some ⟨.type "function",none,.func fd,#[]⟩) (hlim:s.heap.NoLimit) (hcd:s.heap.CodeRec fd.code fd.qualname)
    (hW:∀ p∈W,s.heap.get? p.1=some p.2)
    (hbody:fd.body=.stmts body) (hbind:BindsTo s fd args binds) (hcell:(fd.scope.names.all fun x=>x.2 != .cell)=true) (hloc:(binds.all fun x=>decide (fd.scope.names.lookup x.1=some .local))=true)
    (h:∀ L h₀ tk,L=s.heap.objs.size→Fr (hideAll s.heap (W.map (·.1))) L h₀ (fun x=>binds.reverse.lookup x)→News (hideAll s.heap (W.map (·.1))) L h₀ W→∀ A₁ R₁ E₁,Deeper A A₁ (callEnv fd L a)→(∀ v s',R (.ok (.ret v)) s'→R₁ (.ret v) s')→(∀ s',R (.ok (.ret .none)) s'→R₁ .next s') →
      wpAny (model prog w) A₁ (execs body (callEnv fd L a)) R₁ E₁ (up s h₀ tk))
    (hco:fd.scope.isCoroutine=false:=by rfl) (hgen:fd.scope.isGenerator=false:=by rfl) (hk:fd.scope.kind=.function:=by rfl) :
    codeAny (model prog w) A (.call (.ref a) args) R s:=by
  refine codeAny_call_def hroom ho rfl hlim hcd hbody hbind (fun x hx e=>by have:=List.all_eq_true.mp hcell x hx; rw [e] at this; exact Bool.false_ne_true this) (locs hloc) (fun h₀ hns hkp=>h _ h₀ _ rfl ⟨hns,fun b o e=>hkp b o (of_hideAll _ e),Nat.le_of_eq (hideAll_size _ _)⟩ (fun p hp=>⟨hkp _ _ (hW p hp),Nat.ne_of_lt (Heap.lt_size (hW p hp)),hideAll_none _ (List.mem_map_of_mem hp)⟩) _ _ _ (.mk' A _) (fun _ _ x=>x) (fun _ x=>x)) hco hgen hk
theorem ext_of_fr {h h':Heap} {W:List Addr} {L:Addr} {m:Str→Option Value} (F:Fr (hideAll h W) L h' m):Ext W h h' :=
  ⟨fun b o hb e=>F.keep b o (hideAll_get W e hb),by have:=F.above; rw [hideAll_size] at this; exact Nat.le_trans this (Nat.le_of_lt F.ns.lt)⟩
end
end
section
noncomputable def fo45 (w:World):{f:FuncData // (Kd w.params).lookup 45=some ⟨.type "function",none,.func f,#[]⟩}:=⟨_,rfl⟩
noncomputable def fd45 (w:World):FuncData:=(fo45 w).1
theorem fn45 {w:World} {h:Heap} (X:(K w).In h):h.get? 45=some ⟨.type "function",none,.func (fd45 w),#[]⟩:=X 45 _ (fo45 w).2
theorem cd45 {w:World} {h:Heap} (X:(K w).In h):h.CodeRec (fd45 w).code (fd45 w).qualname:=codeRec_of X (by kernel_rfl)
noncomputable def fo52 (w:World):{f:FuncData // (Kd w.params).lookup 52=some ⟨.type "function",none,.func f,#[]⟩}:=⟨_,rfl⟩
noncomputable def fd52 (w:World):FuncData:=(fo52 w).1
theorem fn52 {w:World} {h:Heap} (X:(K w).In h):h.get? 52=some ⟨.type "function",none,.func (fd52 w),#[]⟩:=X 52 _ (fo52 w).2
theorem cd52 {w:World} {h:Heap} (X:(K w).In h):h.CodeRec (fd52 w).code (fd52 w).qualname:=codeRec_of X (by kernel_rfl)
noncomputable def fo59 (w:World):{f:FuncData // (Kd w.params).lookup 59=some ⟨.type "function",none,.func f,#[]⟩}:=⟨_,rfl⟩
noncomputable def fd59 (w:World):FuncData:=(fo59 w).1
theorem fn59 {w:World} {h:Heap} (X:(K w).In h):h.get? 59=some ⟨.type "function",none,.func (fd59 w),#[]⟩:=X 59 _ (fo59 w).2
theorem cd59 {w:World} {h:Heap} (X:(K w).In h):h.CodeRec (fd59 w).code (fd59 w).qualname:=codeRec_of X (by kernel_rfl)
noncomputable def fo66 (w:World):{f:FuncData // (Kd w.params).lookup 66=some ⟨.type "function",none,.func f,#[]⟩}:=⟨_,rfl⟩
noncomputable def fd66 (w:World):FuncData:=(fo66 w).1
theorem fn66 {w:World} {h:Heap} (X:(K w).In h):h.get? 66=some ⟨.type "function",none,.func (fd66 w),#[]⟩:=X 66 _ (fo66 w).2
theorem cd66 {w:World} {h:Heap} (X:(K w).In h):h.CodeRec (fd66 w).code (fd66 w).qualname:=codeRec_of X (by kernel_rfl)
noncomputable def fo73 (w:World):{f:FuncData // (Kd w.params).lookup 73=some ⟨.type "function",none,.func f,#[]⟩}:=⟨_,rfl⟩
noncomputable def fd73 (w:World):FuncData:=(fo73 w).1
theorem fn73 {w:World} {h:Heap} (X:(K w).In h):h.get? 73=some ⟨.type "function",none,.func (fd73 w),#[]⟩:=X 73 _ (fo73 w).2
theorem cd73 {w:World} {h:Heap} (X:(K w).In h):h.CodeRec (fd73 w).code (fd73 w).qualname:=codeRec_of X (by kernel_rfl)
noncomputable def fo80 (w:World):{f:FuncData // (Kd w.params).lookup 80=some ⟨.type "function",none,.func f,#[]⟩}:=⟨_,rfl⟩
noncomputable def fd80 (w:World):FuncData:=(fo80 w).1
theorem fn80 {w:World} {h:Heap} (X:(K w).In h):h.get? 80=some ⟨.type "function",none,.func (fd80 w),#[]⟩:=X 80 _ (fo80 w).2
theorem cd80 {w:World} {h:Heap} (X:(K w).In h):h.CodeRec (fd80 w).code (fd80 w).qualname:=codeRec_of X (by kernel_rfl)
noncomputable def fo95 (w:World):{f:FuncData // (Kd w.params).lookup 95=some ⟨.type "function",none,.func f,#[]⟩}:=⟨_,rfl⟩
noncomputable def fd95 (w:World):FuncData:=(fo95 w).1
theorem fn95 {w:World} {h:Heap} (X:(K w).In h):h.get? 95=some ⟨.type "function",none,.func (fd95 w),#[]⟩:=X 95 _ (fo95 w).2
theorem cd95 {w:World} {h:Heap} (X:(K w).In h):h.CodeRec (fd95 w).code (fd95 w).qualname:=codeRec_of X (by kernel_rfl)
noncomputable def fo132 (w:World):{f:FuncData // (Kd w.params).lookup 132=some ⟨.type "function",none,.func f,#[]⟩}:=⟨_,rfl⟩
noncomputable def fd132 (w:World):FuncData:=(fo132 w).1
theorem fn132 {w:World} {h:Heap} (X:(K w).In h):h.get? 132=some ⟨.type "function",none,.func (fd132 w),#[]⟩:=X 132 _ (fo132 w).2
theorem cd132 {w:World} {h:Heap} (X:(K w).In h):h.CodeRec (fd132 w).code (fd132 w).qualname:=codeRec_of X (by kernel_rfl)
noncomputable def fo139 (w:World):{f:FuncData // (Kd w.params).lookup 139=some ⟨.type "function",none,.func f,#[]⟩}:=⟨_,rfl⟩
noncomputable def fd139 (w:World):FuncData:=(fo139 w).1
theorem fn139 {w:World} {h:Heap} (X:(K w).In h):h.get? 139=some ⟨.type "function",none,.func (fd139 w),#[]⟩:=X 139 _ (fo139 w).2
theorem cd139 {w:World} {h:Heap} (X:(K w).In h):h.CodeRec (fd139 w).code (fd139 w).qualname:=codeRec_of X (by kernel_rfl)
noncomputable def fo146 (w:World):{f:FuncData // (Kd w.params).lookup 146=some ⟨.type "function",none,.func f,#[]⟩}:=⟨_,rfl⟩
noncomputable def fd146 (w:World):FuncData:=(fo146 w).1
theorem fn146 {w:World} {h:Heap} (X:(K w).In h):h.get? 146=some ⟨.type "function",none,.func (fd146 w),#[]⟩:=X 146 _ (fo146 w).2
theorem cd146 {w:World} {h:Heap} (X:(K w).In h):h.CodeRec (fd146 w).code (fd146 w).qualname:=codeRec_of X (by kernel_rfl)
noncomputable def fo151 (w:World):{f:FuncData // (Kd w.params).lookup 151=some ⟨.type "function",none,.func f,#[]⟩}:=⟨_,rfl⟩
noncomputable def fd151 (w:World):FuncData:=(fo151 w).1
theorem fn151 {w:World} {h:Heap} (X:(K w).In h):h.get? 151=some ⟨.type "function",none,.func (fd151 w),#[]⟩:=X 151 _ (fo151 w).2
theorem cd151 {w:World} {h:Heap} (X:(K w).In h):h.CodeRec (fd151 w).code (fd151 w).qualname:=codeRec_of X (by kernel_rfl)
noncomputable def fo158 (w:World):{f:FuncData // (Kd w.params).lookup 158=some ⟨.type "function",none,.func f,#[]⟩}:=⟨_,rfl⟩
noncomputable def fd158 (w:World):FuncData:=(fo158 w).1
theorem fn158 {w:World} {h:Heap} (X:(K w).In h):h.get? 158=some ⟨.type "function",none,.func (fd158 w),#[]⟩:=X 158 _ (fo158 w).2
theorem cd158 {w:World} {h:Heap} (X:(K w).In h):h.CodeRec (fd158 w).code (fd158 w).qualname:=codeRec_of X (by kernel_rfl)
noncomputable def fo165 (w:World):{f:FuncData // (Kd w.params).lookup 165=some ⟨.type "function",none,.func f,#[]⟩}:=⟨_,rfl⟩
noncomputable def fd165 (w:World):FuncData:=(fo165 w).1
theorem fn165 {w:World} {h:Heap} (X:(K w).In h):h.get? 165=some ⟨.type "function",none,.func (fd165 w),#[]⟩:=X 165 _ (fo165 w).2
theorem cd165 {w:World} {h:Heap} (X:(K w).In h):h.CodeRec (fd165 w).code (fd165 w).qualname:=codeRec_of X (by kernel_rfl)
noncomputable def fo179 (w:World):{f:FuncData // (Kd w.params).lookup 179=some ⟨.type "function",none,.func f,#[]⟩}:=⟨_,rfl⟩
noncomputable def fd179 (w:World):FuncData:=(fo179 w).1
theorem fn179 {w:World} {h:Heap} (X:(K w).In h):h.get? 179=some ⟨.type "function",none,.func (fd179 w),#[]⟩:=X 179 _ (fo179 w).2
theorem cd179 {w:World} {h:Heap} (X:(K w).In h):h.CodeRec (fd179 w).code (fd179 w).qualname:=codeRec_of X (by kernel_rfl)
noncomputable def fo186 (w:World):{f:FuncData // (Kd w.params).lookup 186=some ⟨.type "function",none,.func f,#[]⟩}:=⟨_,rfl⟩
noncomputable def fd186 (w:World):FuncData:=(fo186 w).1
theorem fn186 {w:World} {h:Heap} (X:(K w).In h):h.get? 186=some ⟨.type "function",none,.func (fd186 w),#[]⟩:=X 186 _ (fo186 w).2
theorem cd186 {w:World} {h:Heap} (X:(K w).In h):h.CodeRec (fd186 w).code (fd186 w).qualname:=codeRec_of X (by kernel_rfl)
noncomputable def fo217 (w:World):{f:FuncData // (Kd w.params).lookup 217=some ⟨.type "function",none,.func f,#[]⟩}:=⟨_,rfl⟩
noncomputable def fd217 (w:World):FuncData:=(fo217 w).1
theorem fn217 {w:World} {h:Heap} (X:(K w).In h):h.get? 217=some ⟨.type "function",none,.func (fd217 w),#[]⟩:=X 217 _ (fo217 w).2
theorem cd217 {w:World} {h:Heap} (X:(K w).In h):h.CodeRec (fd217 w).code (fd217 w).qualname:=codeRec_of X (by kernel_rfl)
noncomputable def fo224 (w:World):{f:FuncData // (Kd w.params).lookup 224=some ⟨.type "function",none,.func f,#[]⟩}:=⟨_,rfl⟩
noncomputable def fd224 (w:World):FuncData:=(fo224 w).1
theorem fn224 {w:World} {h:Heap} (X:(K w).In h):h.get? 224=some ⟨.type "function",none,.func (fd224 w),#[]⟩:=X 224 _ (fo224 w).2
theorem cd224 {w:World} {h:Heap} (X:(K w).In h):h.CodeRec (fd224 w).code (fd224 w).qualname:=codeRec_of X (by kernel_rfl)
noncomputable def fo231 (w:World):{f:FuncData // (Kd w.params).lookup 231=some ⟨.type "function",none,.func f,#[]⟩}:=⟨_,rfl⟩
noncomputable def fd231 (w:World):FuncData:=(fo231 w).1
theorem fn231 {w:World} {h:Heap} (X:(K w).In h):h.get? 231=some ⟨.type "function",none,.func (fd231 w),#[]⟩:=X 231 _ (fo231 w).2
theorem cd231 {w:World} {h:Heap} (X:(K w).In h):h.CodeRec (fd231 w).code (fd231 w).qualname:=codeRec_of X (by kernel_rfl)
noncomputable def fo236 (w:World):{f:FuncData // (Kd w.params).lookup 236=some ⟨.type "function",none,.func f,#[]⟩}:=⟨_,rfl⟩
noncomputable def fd236 (w:World):FuncData:=(fo236 w).1
theorem fn236 {w:World} {h:Heap} (X:(K w).In h):h.get? 236=some ⟨.type "function",none,.func (fd236 w),#[]⟩:=X 236 _ (fo236 w).2
theorem cd236 {w:World} {h:Heap} (X:(K w).In h):h.CodeRec (fd236 w).code (fd236 w).qualname:=codeRec_of X (by kernel_rfl)
noncomputable def fo243 (w:World):{f:FuncData // (Kd w.params).lookup 243=some ⟨.type "function",none,.func f,#[]⟩}:=⟨_,rfl⟩
noncomputable def fd243 (w:World):FuncData:=(fo243 w).1
theorem fn243 {w:World} {h:Heap} (X:(K w).In h):h.get? 243=some ⟨.type "function",none,.func (fd243 w),#[]⟩:=X 243 _ (fo243 w).2
theorem cd243 {w:World} {h:Heap} (X:(K w).In h):h.CodeRec (fd243 w).code (fd243 w).qualname:=codeRec_of X (by kernel_rfl)
noncomputable def fo250 (w:World):{f:FuncData // (Kd w.params).lookup 250=some ⟨.type "function",none,.func f,#[]⟩}:=⟨_,rfl⟩
noncomputable def fd250 (w:World):FuncData:=(fo250 w).1
theorem fn250 {w:World} {h:Heap} (X:(K w).In h):h.get? 250=some ⟨.type "function",none,.func (fd250 w),#[]⟩:=X 250 _ (fo250 w).2
theorem cd250 {w:World} {h:Heap} (X:(K w).In h):h.CodeRec (fd250 w).code (fd250 w).qualname:=codeRec_of X (by kernel_rfl)
noncomputable def fo255 (w:World):{f:FuncData // (Kd w.params).lookup 255=some ⟨.type "function",none,.func f,#[]⟩}:=⟨_,rfl⟩
noncomputable def fd255 (w:World):FuncData:=(fo255 w).1
theorem fn255 {w:World} {h:Heap} (X:(K w).In h):h.get? 255=some ⟨.type "function",none,.func (fd255 w),#[]⟩:=X 255 _ (fo255 w).2
theorem cd255 {w:World} {h:Heap} (X:(K w).In h):h.CodeRec (fd255 w).code (fd255 w).qualname:=codeRec_of X (by kernel_rfl)
noncomputable def fo260 (w:World):{f:FuncData // (Kd w.params).lookup 260=some ⟨.type "function",none,.func f,#[]⟩}:=⟨_,rfl⟩
noncomputable def fd260 (w:World):FuncData:=(fo260 w).1
theorem fn260 {w:World} {h:Heap} (X:(K w).In h):h.get? 260=some ⟨.type "function",none,.func (fd260 w),#[]⟩:=X 260 _ (fo260 w).2
theorem cd260 {w:World} {h:Heap} (X:(K w).In h):h.CodeRec (fd260 w).code (fd260 w).qualname:=codeRec_of X (by kernel_rfl)
noncomputable def fo267 (w:World):{f:FuncData // (Kd w.params).lookup 267=some ⟨.type "function",none,.func f,#[]⟩}:=⟨_,rfl⟩
noncomputable def fd267 (w:World):FuncData:=(fo267 w).1
theorem fn267 {w:World} {h:Heap} (X:(K w).In h):h.get? 267=some ⟨.type "function",none,.func (fd267 w),#[]⟩:=X 267 _ (fo267 w).2
theorem cd267 {w:World} {h:Heap} (X:(K w).In h):h.CodeRec (fd267 w).code (fd267 w).qualname:=codeRec_of X (by kernel_rfl)
noncomputable def fo274 (w:World):{f:FuncData // (Kd w.params).lookup 274=some ⟨.type "function",none,.func f,#[]⟩}:=⟨_,rfl⟩
noncomputable def fd274 (w:World):FuncData:=(fo274 w).1
theorem fn274 {w:World} {h:Heap} (X:(K w).In h):h.get? 274=some ⟨.type "function",none,.func (fd274 w),#[]⟩:=X 274 _ (fo274 w).2
theorem cd274 {w:World} {h:Heap} (X:(K w).In h):h.CodeRec (fd274 w).code (fd274 w).qualname:=codeRec_of X (by kernel_rfl)
noncomputable def fo279 (w:World):{f:FuncData // (Kd w.params).lookup 279=some ⟨.type "function",none,.func f,#[]⟩}:=⟨_,rfl⟩
noncomputable def fd279 (w:World):FuncData:=(fo279 w).1
theorem fn279 {w:World} {h:Heap} (X:(K w).In h):h.get? 279=some ⟨.type "function",none,.func (fd279 w),#[]⟩:=X 279 _ (fo279 w).2
theorem cd279 {w:World} {h:Heap} (X:(K w).In h):h.CodeRec (fd279 w).code (fd279 w).qualname:=codeRec_of X (by kernel_rfl)
end
section
section
variable {prog:Program} {w:World} {M:Model} {A:Around} {E:Value→Shared→Prop} {s:Shared} {env:Env} {g:Heap} {L D:Addr} {m:Str→Option Value} {news news':List (Addr×Obj)} {n:Nat} {k:Int} {t u:Tok}
theorem setL {vs:List Value} {v:Value} {Q:Unit→Shared→Prop} (F:Fr g L s.heap m) (N:News g L s.heap news) (U:Upd D (listOf vs.toArray n) (listOf (vs.set k.toNat v).toArray n) news news')
    (h0:0≤k) (h1:k<vs.length) (hfit:k<2 ^ 63)
    (h:∀ h',Fr g L h' m→News g L h' news'→Q () (up s h' s.toks)) :
    wpAny (model prog w) A (setItem (.ref D) (.int k t) v) Q E s:=by
  obtain ⟨pre,post,rfl,rfl,a,b⟩:=U.split
  have z:=N (D,listOf vs.toArray n) (List.mem_append.mpr (.inr (.head _)))
  have hs:vs.toArray.size=vs.length:=by rw [List.size_toArray]
  refine ki_setAt z.1 h0 hfit (by lia) (h _ (F.change (Heap.SameBut.update ..) z.2.1 z.2.2) (ki_turn _ N a b ?_ ?_))
  · show vs.toArray.setIfInBounds k.toNat v=(vs.set k.toNat v).toArray
    apply Array.toList_inj.mp
    simp
  · simp
theorem upd1 {o o':Obj}:Upd D o o' [(D,o)] [(D,o')]:=.head (fun _ h=>nomatch h)
theorem sub_int {a b:Int} {t u:Tok} {Q:Value→Shared→Prop} (h:∀ t' tk,Q (.int (a - b) t') (tkd s tk)) :
    wpAny (model prog w) A (binaryOp .Sub (.int a t) (.int b u)) Q E s:=PySem.SiftDown.sub_int (h _ _)
theorem add_int {a b:Int} {t u:Tok} {Q:Value→Shared→Prop} (h:∀ t' tk,Q (.int (a+b) t') (tkd s tk)) :
    wpAny (model prog w) A (binaryOp .Add (.int a t) (.int b u)) Q E s:=wpAny_add_int (h _ _)
theorem mul_int {a b:Int} {t u:Tok} {Q:Value→Shared→Prop} (h:∀ t' tk,Q (.int (a*b) t') (tkd s tk)) (hm:IntMulOk a b:=by mul_fits) :
    wpAny (model prog w) A (binaryOp .Mult (.int a t) (.int b u)) Q E s:=PyProof.Rows.mul_int (h _ _) hm
theorem shr1_int {a:Int} {t u:Tok} {Q:Value→Shared→Prop} (h0:0≤a) (h:∀ t' tk,Q (.int (a / 2) t') (tkd s tk)) :
    wpAny (model prog w) A (binaryOp .RShift (.int a t) (.int 1 u)) Q E s:=wpAny_rshift1_int h0 (h _ _)
theorem cint {i:Int} {kk:Nat} {pos:Pos} {Q:Value→Shared→Prop} (h:∀ t tk,Q (.int i t) (tkd s tk)):wpAny M A (eval (.Constant (.int i) kk pos) env) Q E s:=wpAny_Constant_int (h _ _)
theorem len_L {l:Addr} {vs:List Value} {nn:Nat} {Q:Value→Shared→Prop} (N:News g L s.heap news) (hm:(l,listOf vs.toArray nn)∈news) (hfit:vs.length<2 ^ 62)
    (h:∀ t tk,Q (.int (vs.length:Nat) t) (tkd s tk)):wpAny (model prog w) A (call (.builtin "len") [.ref l]) Q E s :=
  call_len_list ⟨_,(N _ hm).1,rfl,_,rfl⟩ (by simp; lia) (by have:=h (s.toks+1) (s.toks+1+1); simpa using this)
theorem gt_int {a b:Int} {t u:Tok} {Q:Value→Shared→Prop} (h:Q (.bool (decide (a > b))) s) :
    wpAny (model prog w) A (compareOp .Gt (.int a t) (.int b u)) Q E s:=PySem.SiftDown.gt_int h
theorem whileN {test : Expr} {body rest : List Stmt} {pos : Pos} {Q : Flow → Shared → Prop} (I : Nat → Shared → Prop) (P : Shared → Prop)
    (turn : ∀ (E' : Value → Shared → Prop) n s, I n s →
      wpAny (model prog w) A (isTrue test env (eval test env)) (fun b s₂ =>
        if b then wpAny (model prog w) A (execs body env) (fun f s₃=>match f with
            | .next | .cont=>∃ m,m<n∧I m s₃
            | .brk=>P s₃
            | .ret v=>Q (.ret v) s₃) E' s₂
        else P s₂) E' s)
    (n:Nat) (h:I n s) (hrest:∀ s',P s'→wpAny (model prog w) A (execs rest env) Q E s'):wpAny (model prog w) A (execs (.While test body [] pos::rest) env) Q E s:=by
  refine wpAny_execs_cons (wpAny_While (codeAny_whileLoop I (fun n s hI=>?_) n h))
  refine wpAny_mono (turn _ n s hI) (fun b s₂ h₂=>?_) fun _ _ e=>e
  cases b with
  | true =>
    rw [if_pos rfl] at h₂ ⊢
    refine wpAny_mono h₂ (fun f s₃ h₃=>?_) fun _ _ e=>e
    cases f with
    | next=>exact h₃
    | cont=>exact h₃
    | brk=>exact hrest _ h₃
    | ret v=>exact h₃
  | false =>
    rw [if_neg (by simp)] at h₂ ⊢
    exact wpAny_execs_nil (hrest _ h₂)
theorem cutS {st:Stmt} {rest:List Stmt} {Q:Flow→Shared→Prop} (P:Shared→Prop) (h1:wpAny M A (exec st env) (fun f s'=>f=.next∧P s') E s) (h2:∀ s',P s'→wpAny M A (execs rest env) Q E s') :
    wpAny M A (execs (st::rest) env) Q E s:=wpAny_execs_cons (wpAny_mono h1 (fun f s' h=>by obtain ⟨rfl,h⟩:=h; exact h2 _ h) fun _ _ e=>e)
theorem brk_ {pos:Pos} {Q:Flow→Shared→Prop} (h:Q .brk s):wpAny M A (exec (.Break pos) env) Q E s:=fun _ _ _=>h
theorem cont_ {pos:Pos} {Q:Flow→Shared→Prop} (h:Q .cont s):wpAny M A (exec (.Continue pos) env) Q E s:=fun _ _ _=>h
end
end
section
structure Wd (w:World) (h:Heap):Prop where
  X:(K w).In h
  lim:h.NoLimit
  g:∃ mg,h.Ns mainGlobals mg
  b:∃ mb,h.Ns builtinsNs mb∧∀ x:Str,x≠"__name__"→mb x=bootBuiltins x
theorem Wd.keeps {w:World} {h h':Heap} (T:Wd w h) (hk:∀ b o,h.get? b=some o→h'.get? b=some o):Wd w h' :=
  ⟨fun a o e=>hk _ _ (T.X a o e),T.lim.keeps hk,let ⟨mg,e⟩:=T.g; ⟨mg,e.keeps hk⟩,let ⟨mb,e,r⟩:=T.b; ⟨mb,e.keeps hk,r⟩⟩
theorem Wd.of_hide {w:World} {h:Heap} {W:List Addr} (T:Wd w (hideAll h W)):Wd w h:=T.keeps fun _ _ e=>of_hideAll W e
theorem hide_keeps {g h:Heap} {W:List Addr} (hk:∀ b o,g.get? b=some o→h.get? b=some o) (hW:∀ a∈W,g.get? a=none):∀ b o,g.get? b=some o→(hideAll h W).get? b=some o :=
  fun b o e=>hideAll_get W (hk b o e) fun hm=>by rw [hW b hm] at e; cases e
theorem Wd.hide {w:World} {g h:Heap} {L:Addr} {m:Str→Option Value} {W:List Addr} (T:Wd w g) (F:Fr g L h m) (hW:∀ a∈W,g.get? a=none):Wd w (hideAll h W):=T.keeps (hide_keeps F.keep hW)
section
variable {prog:Program} {w:World} {M:Model} {A:Around} {E:Value→Shared→Prop} {s:Shared} {env:Env} {g:Heap} {L D:Addr} {m:Str→Option Value} {news news':List (Addr×Obj)} {n:Nat} {k:Int} {t u:Tok}
theorem ldg {x:Str} {pos:Pos} {v:Value} {Q:Value→Shared→Prop} (T:Wd w g) (F:Fr g L s.heap m) (e:nsIn (K w) mainGlobals x=some (some v)) (h:Q v s)
    (hk:env.scope.kind=.function:=by rfl) (hx:env.kindOf x=some .globalImplicit:=by kernel_rfl) (hd:(x==("__debug__":Str))=false:=by kernel_rfl) (hg:env.globals=mainGlobals:=by rfl) :
    wpAny M A (eval (.Name x pos) env) Q E s:=by
  obtain ⟨mg,G⟩:=T.g
  exact Calls.Name_function_global hk hx (Calls.loadGlobal_global (env:=env) (by rw [hg]; exact G.keeps F.keep) (mg_of T.X G e) h) hd
theorem ldb {x:Str} {pos:Pos} {v:Value} {Q:Value→Shared→Prop} (T:Wd w g) (F:Fr g L s.heap m) (e:nsIn (K w) mainGlobals x=some none) (hv:bootBuiltins x=some v) (h:Q v s)
    (hk:env.scope.kind=.function:=by rfl) (hx:env.kindOf x=some .globalImplicit:=by kernel_rfl) (hd:(x==("__debug__":Str))=false:=by kernel_rfl) (hg:env.globals=mainGlobals:=by rfl) (hb:env.builtins=builtinsNs:=by rfl) (hn:(x==("__name__":Str))=false:=by kernel_rfl) :
    wpAny M A (eval (.Name x pos) env) Q E s:=by
  obtain ⟨mg,G⟩:=T.g
  obtain ⟨mb,B,hB⟩:=T.b
  refine Calls.Name_function_global hk hx (Calls.loadGlobal_builtin (env:=env) (by rw [hg]; exact G.keeps F.keep) (mg_none_of T.X G e) (by rw [hb]; exact B.keeps F.keep) ?_ h) hd
  rw [hB x (fun q=>by rw [q] at hn; simp at hn)]; exact hv
theorem callb {x:Str} {np pos:Pos} {e:Expr} {rest:List Expr} {id:String} {Q:Value→Shared→Prop} (T:Wd w g) (F:Fr g L s.heap m) (hv:bootBuiltins x=some (.builtin id))
    (h:wpAny M A (spliced (backTo pos (starEach (e::rest) env))) (fun vs s₁=>wpAny M A (call (.builtin id) vs) Q E s₁) E s)
    (en:nsIn (K w) mainGlobals x=some none:=by kernel_rfl)
    (he:starEach (e::rest) env=(false,eval e env)::starEach rest env:=by rfl) (hplain:(backTo pos (starEach rest env)).any (·.1)=false:=by rfl)
    (hk:env.scope.kind=.function:=by rfl) (hx:env.kindOf x=some .globalImplicit:=by kernel_rfl) (hd:(x==("__debug__":Str))=false:=by kernel_rfl) (hg:env.globals=mainGlobals:=by rfl) (hb:env.builtins=builtinsNs:=by rfl) (hn:(x==("__name__":Str))=false:=by kernel_rfl) :
    wpAny M A (eval (.Call (.Name x np) (e::rest) [] pos) env) Q E s :=
  Call_ (ldb T F en hv (callWith_builtin1 h he hplain) hk hx hd hg hb hn)
theorem callt {x:Str} {np pos:Pos} {e:Expr} {rest:List Expr} {id:String} {Q:Value→Shared→Prop} (T:Wd w g) (F:Fr g L s.heap m) (hv:bootBuiltins x=some (.type id))
    (h:wpAny M A (spliced (backTo pos (starEach (e::rest) env))) (fun vs s₁=>wpAny M A (call (.type id) vs) Q E s₁) E s)
    (en:nsIn (K w) mainGlobals x=some none:=by kernel_rfl)
    (he:starEach (e::rest) env=(false,eval e env)::starEach rest env:=by rfl) (hplain:(backTo pos (starEach rest env)).any (·.1)=false:=by rfl)
    (hk:env.scope.kind=.function:=by rfl) (hx:env.kindOf x=some .globalImplicit:=by kernel_rfl) (hd:(x==("__debug__":Str))=false:=by kernel_rfl) (hg:env.globals=mainGlobals:=by rfl) (hb:env.builtins=builtinsNs:=by rfl) (hn:(x==("__name__":Str))=false:=by kernel_rfl) :
    wpAny M A (eval (.Call (.Name x np) (e::rest) [] pos) env) Q E s :=
  Call_ (ldb T F en hv (PyProof.Rows.callWith_type1 h he hplain) hk hx hd hg hb hn)
theorem callg {x:Str} {np pos:Pos} {e:Expr} {rest:List Expr} {f:Addr} {Q:Value→Shared→Prop} (T:Wd w g) (F:Fr g L s.heap m) (en:nsIn (K w) mainGlobals x=some (some (.ref f))) (hf:keepIn (K w) (.ref f)=true)
    (h:wpAny M A (spliced (backTo pos (starEach (e::rest) env))) (fun vs s₁=>(K w).In s₁.heap∧wpAny M A (call (.ref f) vs) Q E s₁) E s)
    (he:starEach (e::rest) env=(false,eval e env)::starEach rest env:=by rfl) (hplain:(backTo pos (starEach rest env)).any (·.1)=false:=by rfl)
    (hk:env.scope.kind=.function:=by rfl) (hx:env.kindOf x=some .globalImplicit:=by kernel_rfl) (hd:(x==("__debug__":Str))=false:=by kernel_rfl) (hg:env.globals=mainGlobals:=by rfl) :
    wpAny M A (eval (.Call (.Name x np) (e::rest) [] pos) env) Q E s :=
  Call_ (ldg T F en (callWith_K T.X hf h he hplain) hk hx hd hg)
theorem back {h h' : Heap} {W W' rest : List (Addr × Obj)} (F : Fr g L h m) (N : News g L h (W ++ rest)) (e : Ext (W.map (·.1)) h h') (hW' : ∀ p ∈ W', h'.get? p.1 = some p.2)
    (had:∀ p∈W',p.1∈W.map (·.1)∨h.get? p.1=none) (hsep:∀ p∈rest,p.1∉W.map (·.1)):Fr g L h' m∧News g L h' (W'++rest):=by
  have hWn:∀ a∈W.map (·.1),g.get? a=none∧a≠L:=fun a ha=>by
    obtain ⟨p,hp,rfl⟩:=List.mem_map.mp ha
    exact ⟨(N p (List.mem_append_left _ hp)).2.2,(N p (List.mem_append_left _ hp)).2.1⟩
  refine ⟨⟨F.ns.at' fun o eo=>e.keep L o (fun q=>(hWn L q).2 rfl) eo,fun b o eo=>e.keep b o (fun q=>by rw [(hWn b q).1] at eo; cases eo) (F.keep b o eo),F.above⟩,fun p hp=>?_⟩
  rcases List.mem_append.mp hp with q | q
  · refine ⟨hW' p q,?_⟩
    rcases had p q with r | r
    · exact ⟨(hWn _ r).2,(hWn _ r).1⟩
    · refine ⟨fun q=>?_,?_⟩
      · obtain ⟨oL,_,_,ho,_⟩:=F.ns; rw [q,ho] at r; cases r
      · cases z:g.get? p.1 with
        | none=>rfl
        | some o=>have:=F.keep _ _ z; rw [r] at this; cases this
  · have z:=N p (List.mem_append_right _ q)
    exact ⟨e.keep _ _ (hsep p q) z.1,z.2⟩
end
end
section
theorem grow {g h h':Heap} {L:Addr} {m:Str→Option Value} {news:List (Addr×Obj)} (F:Fr g L h m) (N:News g L h news) (e:∀ b o,h.get? b=some o→h'.get? b=some o):Fr g L h' m∧News g L h' news :=
  ⟨⟨F.ns.keeps e,fun b o x=>e b o (F.keep b o x),F.above⟩,fun p hp=>⟨e _ _ (N p hp).1,(N p hp).2⟩⟩
theorem growBut {g h h':Heap} {L:Addr} {m:Str→Option Value} {news:List (Addr×Obj)} (F:Fr g L h m) (N:News g L h news) (e:Heap.ExtBut h.objs.size h h'):Fr g L h' m∧News g L h' news :=
  grow F N fun b o x=>e b o (Nat.ne_of_lt (Heap.lt_size x)) x
noncomputable abbrev tupOf (vs:List Value):Obj:={ cls:=.type "tuple",data:=.seq vs.toArray 0 }
section
variable {prog:Program} {w:World} {M:Model} {A:Around} {E:Value→Shared→Prop} {s:Shared} {env:Env} {g:Heap} {L D:Addr} {m:Str→Option Value} {news news':List (Addr×Obj)} {n:Nat} {k:Int} {t u:Tok}
theorem appendL {vs:List Value} {v:Value} {Q:Value→Shared→Prop} (F:Fr g L s.heap m) (N:News g L s.heap news) (U:Upd D (listOf vs.toArray n) (listOf (vs++[v]).toArray (n+1)) news news') (hz:vs.length<2 ^ 20)
    (h:∀ h',Fr g L h' m→News g L h' news'→Q .none (up s h' s.toks)):wpAny (model prog w) A (call (.builtin "list.append") ([.ref D]++[v])) Q E s:=by
  have e1:(List.toArray vs).push v=(vs++[v]).toArray:=by simp
  exact append_K (its:=List.toArray vs) F N (by rw [e1]; exact U) (fun h' F₁ N₁=>h h' F₁ N₁) (by rw [List.size_toArray,sizeLine_eq]; lia)
theorem popL {vs:List Value} {v:Value} {Q:Value→Shared→Prop} (F:Fr g L s.heap m) (N:News g L s.heap news) (U:Upd D (listOf (vs++[v]).toArray n) (listOf vs.toArray (n+1)) news news') (hz:vs.length<2 ^ 20)
    (h:∀ h',Fr g L h' m→News g L h' news'→Q v (up s h' s.toks)):wpAny (model prog w) A (call (.builtin "list.pop") [.ref D]) Q E s :=
  kl_pop (its:=(vs++[v]).toArray) F N (kpa_last v vs) U (by simp only [List.length_append,List.length_cons,List.length_nil,sizeLine_eq]; lia) (fun h' F₁ N₁=>h h' F₁ N₁)
theorem truthyL {l:Addr} {vs:List Value} {nn:Nat} {Q:Bool→Shared→Prop} (N:News g L s.heap news) (hm:(l,listOf vs.toArray nn)∈news) (hfit:vs.length<2 ^ 62)
    (h:∀ tk,Q (!vs.isEmpty) (tkd s tk)):wpAny (model prog w) A (truthy (.ref l)) Q E s :=
  wpAny_truthy_list ⟨_,(N _ hm).1,rfl,_,rfl⟩ (by simp; lia) (by have:=h (s.toks+1+1); simpa using this)
theorem newTup {vs:List Value} {Q:Value→Shared→Prop} (F:Fr g L s.heap m) (N:News g L s.heap news)
    (h:∀ t h',Fr g L h' m→News g L h' ((t,tupOf vs)::news)→(∀ p∈news,p.1<t)→Q (.ref t) (up s h' s.toks)) (hsz:vs.length≤sizeLine:=by size_fits):wpAny M A (newTuple vs) Q E s :=
  newTuple_N F N (fun h' F' N'=>h _ h' F' N' fun p hp=>Heap.lt_size (N p hp).1) hsz
theorem newLst {vs:List Value} {Q:Value→Shared→Prop} (F:Fr g L s.heap m) (N:News g L s.heap news)
    (h:∀ l h',Fr g L h' m→News g L h' ((l,listOf vs.toArray 0)::news)→(∀ p∈news,p.1<l)→Q (.ref l) (up s h' s.toks)) (hsz:vs.length≤sizeLine:=by size_fits):wpAny M A (newList vs) Q E s :=
  newList_K F N (fun l h' F' N' hl=>h l h' F' N' hl) hsz
theorem assT {elts:List Expr} {x1:Nat} {pos:Pos} {t:Addr} {vs:List Value} {Q:Unit→Shared→Prop} (hh:A.handled=none) (F:Fr g L s.heap m) (N:News g L s.heap news) (hm:(t,tupOf vs)∈news)
    (hn:(assignEach elts env).length=vs.length)
    (h:∀ h',Fr g L h' m→News g L h' news→wpAny (model prog w) A (assignInOrder ((assignEach elts env).map (·.2)) vs) Q E (up s h' s.toks)) (hstar:(assignEach elts env).findIdx? (·.1)=none:=by rfl):wpAny (model prog w) A (assign (.Tuple elts x1 pos) env (.ref t)) Q E s:=by
  refine wpAny_assign_Tuple (items:=vs.toArray) hh ⟨_,(N _ hm).1,rfl,_,rfl⟩ (by simpa using hn) hstar fun h' e=>?_
  obtain ⟨F',N'⟩:=growBut F N e
  exact h h' F' N'
theorem addr_ne {a b:Addr} {o:Obj} {h:Heap} (ha:h.get? a=none) (hb:h.get? b=some o):a≠b:=fun e=>by rw [e,hb] at ha; cases ha
end
end
section
noncomputable abbrev Sub (g g':Heap):Prop:=∀ b o,g.get? b=some o→g'.get? b=some o
theorem news_swap {g h:Heap} {L:Addr} {a b:List (Addr×Obj)} (N:News g L h (a++b)):News g L h (b++a):=fun p hp=>N p (List.mem_append.mpr (List.mem_append.mp hp).symm)
theorem news_left {g h:Heap} {L:Addr} {a b:List (Addr×Obj)} (N:News g L h (a++b)):News g L h a:=fun p hp=>N p (List.mem_append_left _ hp)
theorem news_sub {g h:Heap} {L:Addr} {a b:List (Addr×Obj)} (N:News g L h a) (hs:∀ p∈b,p∈a):News g L h b:=fun p hp=>N p (hs p hp)
theorem nw1 {D:Addr} {o o':Obj} {r:List (Addr×Obj)} {wr:List Addr} (h:∀ p∈(D,o)::r,p.1∉wr):∀ p∈(D,o')::r,p.1∉wr:=fun p hp=>by
  rcases List.mem_cons.mp hp with rfl | hp
  · exact h (D,o) (.head _)
  · exact h p (.tail _ hp)
section
variable {prog:Program} {w:World} {M:Model} {A:Around} {E:Value→Shared→Prop} {s:Shared} {env:Env} {g:Heap} {L:Addr} {m:Str→Option Value} {news:List (Addr×Obj)}
noncomputable def Turn (s:Shared) (g:Heap) (L:Addr) (wr:List Addr) (own:List (Addr×Obj)) (J:(Str→Option Value)→List (Addr×Obj)→Prop) (R:Result→Shared→Prop) (f:Flow) (s₂:Shared):Prop:=match f with
  | .next | .cont=>Ex4 fun h' tk m' news'=>And5 (s₂=up s h' tk) (Fr g L h' m') (News g L h' (news'++own)) ((∀ p∈news',p.1∉wr)) (J m' news')
  | .brk=>R (.ok .next) s₂
  | .ret v=>R (.ok (.ret v)) s₂
theorem Turn.next {s:Shared} {wr:List Addr} {own news':List (Addr×Obj)} {J:(Str→Option Value)→List (Addr×Obj)→Prop} {R:Result→Shared→Prop} {h':Heap} {tk:Nat} {m':Str→Option Value} (F:Fr g L h' m') (N:News g L h' (news'++own)) (hw:∀ p∈news',p.1∉wr) (j:J m' news') :
    Turn s g L wr own J R .next (up s h' tk):=⟨h',tk,m',news',rfl,F,N,hw,j⟩
theorem forW {R:Result→Shared→Prop} {x:Str} {px:Pos} {body:List Stmt} {I:Addr} {fp wr:List Addr} {n:Nat} {P:Nat→Value→Prop} {St:Nat→Heap→Prop}
    (W:Walks prog w A I fp wr n P St) (hLf:L∉fp) (hwr:∀ b∈wr,g.get? b=none) (hnw:∀ p∈news,p.1∉wr)
    (hst:St 0 s.heap) (F:Fr g L s.heap m) (N:News g L s.heap news)
    (J:Nat→(Str→Option Value)→List (Addr×Obj)→Prop) (h0:J 0 m news)
    (step:∀ (E':Value→Shared→Prop) i v m₁ news₁ h₁ tk₁ own,i<n→P i v→J i m₁ news₁→(∀ p∈news₁,p.1∉wr)→(∀ p∈own,p.1∈fp) →
      Fr g L h₁ (setM m₁ x v)→News g L h₁ (news₁++own) →
      wpAny (model prog w) A (execs body env) (Turn s g L wr own (J (i+1)) R) E' (up s h₁ tk₁))
    (hend:∀ h' tk m' news',Fr g L h' m'→News g L h' news'→(∀ p∈news',p.1∉wr)→J n m' news'→R (.ok .next) (up s h' tk))
    (hL:env.locals=L:=by rfl) (hk:env.scope.kind=.function:=by rfl) (hx:env.kindOf x=some .local:=by kernel_rfl) :
    codeAny (model prog w) A (.forLoop (.Name x px) (.ref I) body [] env) R s:=by
  subst hL
  refine codeAny_forLoop_frV W hx (by rw [hk]; rfl) hLf hwr hnw hst F N J h0 (fun i v m₁ news₁ s₁ own hs hi hP hJ hw ho _ _ _ F₁ N₁=>?_) fun h' tk m' news' F' N' hw hj=>hend h' tk m' news' F' N' hw hj
  obtain ⟨h₁,tk₁,rfl⟩:=hs
  refine wpAny_mono (step _ i v m₁ news₁ h₁ tk₁ own hi hP hJ hw ho F₁ (news_swap N₁)) (fun f s₂ t=>?_) fun _ _ e=>e
  cases f with
  | ret v=>exact t
  | brk=>exact t
  | next=>obtain ⟨h',tk,m',news',rfl,F',N',hw',hj⟩:=t; exact ⟨rfl,h',tk,m',news',rfl,F',news_swap N',hw',hj⟩
  | cont=>obtain ⟨h',tk,m',news',rfl,F',N',hw',hj⟩:=t; exact ⟨rfl,h',tk,m',news',rfl,F',news_swap N',hw',hj⟩
theorem size_none (F:Fr g L s.heap m):g.get? s.heap.objs.size=none:=by
  cases z:g.get? s.heap.objs.size with
  | none=>rfl
  | some o=>exact absurd (Heap.lt_size (F.keep _ _ z)) (Nat.lt_irrefl _)
theorem iterRI {R:Result→Shared→Prop} {x:Str} {px:Pos} {body:List Stmt} {I:Addr} {a c:Int} {n:Nat} (hh:A.handled=none) (F:Fr g L s.heap m) (N:News g L s.heap news) (hIL:I≠L) (hI0:g.get? I=none) (hIn:∀ p∈news,p.1≠I)
    (hit:IsRangeIter s.heap I a n c)
    (J:Nat→(Str→Option Value)→List (Addr×Obj)→Prop) (h0:J 0 m news)
    (step:∀ (E':Value→Shared→Prop) i t m₁ news₁ h₁ tk₁ own,i<n→J i m₁ news₁→(∀ p∈news₁,p.1∉[I])→(∀ p∈own,p.1∈[I]) →
      Fr g L h₁ (fun y=>if y=x then some (.int (a+(i:Int)*c) t) else m₁ y)→News g L h₁ (news₁++own) →
      wpAny (model prog w) A (execs body env) (Turn s g L [I] own (J (i+1)) R) E' (up s h₁ tk₁))
    (hend:∀ h' tk m' news',Fr g L h' m'→News g L h' news'→(∀ p∈news',p.1∉[I])→J n m' news'→R (.ok .next) (up s h' tk))
    (hL:env.locals=L:=by rfl) (hk:env.scope.kind=.function:=by rfl) (hx:env.kindOf x=some .local:=by kernel_rfl) :
    codeAny (model prog w) A (.forLoop (.Name x px) (.ref I) body [] env) R s:=by
  refine forW (Walks.range hh I a c n) (by simp [hIL.symm]) (fun b hb=>by rw [List.mem_singleton.mp hb]; exact hI0) (fun p hp q=>hIn p hp (List.mem_singleton.mp q)) (by simpa using hit) F N J h0 (fun E' i v m₁ news₁ h₁ tk₁ own hi hP hJ hw ho F₁ N₁=>?_) hend hL hk hx
  obtain ⟨t,rfl⟩:=hP
  exact step E' i t m₁ news₁ h₁ tk₁ own hi hJ hw ho F₁ N₁
theorem iterR {R:Result→Shared→Prop} {x:Str} {px:Pos} {body:List Stmt} {r:Addr} {a b:Int} {t u v:Tok} {n:Nat} (hh:A.handled=none) (F:Fr g L s.heap m) (N:News g L s.heap news) (hr:IsRange s.heap r a b 1 t u v)
    (hsmall:Builtin.Range.small a b 1=true) (hn:Builtin.Range.rangeSize a b 1=(n:Int))
    (J:Nat→(Str→Option Value)→List (Addr×Obj)→Prop) (h0:J 0 m news)
    (step:∀ (E':Value→Shared→Prop) i t m₁ news₁ h₁ tk₁ own,i<n→J i m₁ news₁→(∀ p∈news₁,p.1∉[s.heap.objs.size])→(∀ p∈own,p.1∈[s.heap.objs.size]) →
      Fr g L h₁ (fun y=>if y=x then some (.int (a+(i:Int)) t) else m₁ y)→News g L h₁ (news₁++own) →
      wpAny (model prog w) A (execs body env) (Turn s g L [s.heap.objs.size] own (J (i+1)) R) E' (up s h₁ tk₁))
    (hend:∀ h' tk m' news',Fr g L h' m'→News g L h' news'→(∀ p∈news',p.1∉[s.heap.objs.size])→J n m' news'→R (.ok .next) (up s h' tk))
    (hL:env.locals=L:=by rfl) (hk:env.scope.kind=.function:=by rfl) (hx:env.kindOf x=some .local:=by kernel_rfl) :
    wpAny (model prog w) A (pyIter (.ref r)) (fun it s₂=>codeAny (model prog w) A (.forLoop (.Name x px) it body [] env) R s₂) E s:=by
  refine wpAny_pyIter_range hr hsmall ?_
  rw [hn]
  have hLs:L≠s.heap.objs.size:=Nat.ne_of_lt F.ns.lt
  have F':=F.push { cls:=.type "range_iterator",data:=.fields #[rawInt a,rawInt n,rawInt 1] }
  have N':News g L (s.heap.push { cls:=.type "range_iterator",data:=.fields #[rawInt a,rawInt n,rawInt 1] }) news:=(grow F N fun b o e=>Heap.get?_push_of_some _ e).2
  refine iterRI (s:=up s (s.heap.push { cls:=.type "range_iterator",data:=.fields #[rawInt a,rawInt n,rawInt 1] }) s.toks) hh F' N' hLs.symm (size_none F) (fun p hp q=>absurd (Heap.lt_size (N p hp).1) (by rw [q]; exact Nat.lt_irrefl _))
    (Heap.get?_push_size _ rfl) J h0 (fun E' i t m₁ news₁ h₁ tk₁ own hi hJ hw ho F₁ N₁=>?_) (fun h' tk m' news' F' N' hw hj=>hend h' tk m' news' F' N' hw hj) hL hk hx
  rw [Int.mul_one] at F₁
  exact step E' i t m₁ news₁ h₁ tk₁ own hi hJ hw ho F₁ N₁
theorem rangeR1 {Q:Value→Shared→Prop} {n:Int} {t:Tok} (F:Fr g L s.heap m) (N:News g L s.heap news)
    (h:∀ r h' tk t₁ u₁ v₁,IsRange h' r 0 n 1 t₁ u₁ v₁→Fr g L h' m→News g L h' news→Q (.ref r) (up s h' tk)):wpAny (model prog w) A (call (.type "range") [.int n t]) Q E s :=
  range1_rows F N fun h' tk t₁ u₁ v₁ hr F' N' _=>h _ h' tk t₁ u₁ v₁ hr F' N'
theorem rangeR2 {Q:Value→Shared→Prop} {a b:Int} {t u:Tok} (F:Fr g L s.heap m) (N:News g L s.heap news)
    (h:∀ r h' tk t₁ u₁ v₁,IsRange h' r a b 1 t₁ u₁ v₁→Fr g L h' m→News g L h' news→Q (.ref r) (up s h' tk)):wpAny (model prog w) A (call (.type "range") [.int a t,.int b u]) Q E s :=
  range2_rows F N fun h' tk t₁ u₁ v₁ hr F' N' _=>h _ h' tk t₁ u₁ v₁ hr F' N'
end
end
section
noncomputable abbrev S (l:List Nat):Str:=⟨l.toArray⟩
theorem S_append (a b:List Nat):S a++S b=S (a++b):=by show Str.append _ _=_; simp [Str.append,S]
theorem S_length (a:List Nat):(S a).length=a.length:=by simp [Str.length,S]
theorem S_inj {a b:List Nat} (h:S a=S b):a=b:=by have:=congrArg (fun x:Str=>x.cps.toList) h; simpa using this
theorem S_beq (a b:List Nat):(S a==S b)=(a==b):=by
  by_cases h:a=b
  · subst h; simp
  · have:¬ S a=S b:=fun q=>h (S_inj q)
    rw [beq_eq_false_iff_ne.mpr this,beq_eq_false_iff_ne.mpr h]
inductive Strs:List Value→List (List Nat)→Prop
  | nil:Strs [] []
  | cons {v:Value} {vs:List Value} {t:Tok} {r:List Nat} {rs:List (List Nat)}:v=.str (S r) t→Strs vs rs→Strs (v::vs) (r::rs)
theorem Strs.length {vs:List Value} {rs:List (List Nat)} (h:Strs vs rs):vs.length=rs.length:=by
  induction h with
  | nil=>rfl
  | cons _ _ ih=>simp [ih]
theorem Strs.get {vs:List Value} {rs:List (List Nat)} (h:Strs vs rs):∀ (i:Nat) (r:List Nat),rs[i]?=some r→∃ t,vs[i]?=some (Value.str (S r) t):=by
  induction h with
  | nil=>intro i r h; simp at h
  | cons e _ ih =>
    intro i r h
    cases i with
    | zero=>simp at h; subst h; exact ⟨_,by rw [e]; rfl⟩
    | succ i=>exact ih i r (by simpa using h)
theorem Strs.append {vs us:List Value} {rs qs:List (List Nat)} (h:Strs vs rs) (h':Strs us qs):Strs (vs++us) (rs++qs):=by
  induction h with
  | nil=>exact h'
  | cons e _ ih=>exact .cons e ih
theorem Strs.snoc {vs:List Value} {rs:List (List Nat)} {r:List Nat} {t:Tok} (h:Strs vs rs):Strs (vs++[.str (S r) t]) (rs++[r]):=h.append (.cons rfl .nil)
theorem Strs.unsnoc {us:List Value} {rs:List (List Nat)} {r:List Nat} (h:Strs us (rs++[r])):∃ vs t,us=vs++[.str (S r) t]∧Strs vs rs:=by
  induction rs generalizing us with
  | nil=>cases h with | cons e h=>cases h; exact ⟨[],_,by rw [e]; rfl,.nil⟩
  | cons q rs ih=>cases h with | cons e h=>obtain ⟨vs,t,rfl,hs⟩:=ih h; exact ⟨_::vs,t,rfl,.cons e hs⟩
theorem slice_to (l:List Nat) {n:Int} (h0:0≤n):Txt.slice (S l) none (some n)=S (l.take n.toNat):=by
  have:=slice_to_min_closes (x:=S l) (n:=n) (m:=if ((S l).length:Int)<n then ((S l).length:Int) else n) h0 rfl
  rw [beq_iff_eq.mp this]
  congr 1
  simp only [S_length]
  show (List.take ((if (l.length:Int)<n then (l.length:Int) else n) - 0).toNat (List.drop (Int.toNat 0) l)).toArray=_
  split
  · rename_i h; have:l.length≤n.toNat:=by lia
    rw [List.take_of_length_le this]; simp
  · simp
theorem slice_last (l:List Nat):Txt.slice (S l) (some (-1)) none=S (l.drop (l.length - 1)):=by
  cases l with
  | nil=>decide +kernel
  | cons a r =>
    have:=slice_closes_from_neg (x:=S (a::r)) (i:=-1) (by lia) (by rw [S_length]; simp; lia) rfl rfl
    rw [beq_iff_eq.mp this]
    congr 1
    rw [S_length]
    show (List.take (((a::r).length:Int) - (-1+((a::r).length:Int))).toNat (List.drop (-1+((a::r).length:Int)).toNat (a::r))).toArray=_
    have e1:(-1+((a::r).length:Int)).toNat=(a::r).length - 1:=by simp; lia
    have e2:(((a::r).length:Int) - (-1+((a::r).length:Int))).toNat=1:=by lia
    rw [e1,e2,List.take_of_length_le]
    simp
section
variable {prog:Program} {w:World} {M:Model} {A:Around} {E:Value→Shared→Prop} {s:Shared} {env:Env} {g:Heap} {L D:Addr} {m:Str→Option Value} {news news':List (Addr×Obj)} {n:Nat} {t u:Tok} {value slice:Expr}
theorem cstrS {x:Str} {l:List Nat} {kk:Nat} {pos:Pos} {Q:Value→Shared→Prop} (hx:x=S l) (h:∀ t tk,Q (.str (S l) t) (tkd s tk)):wpAny M A (eval (.Constant (.str x) kk pos) env) Q E s:=by subst hx; exact wpAny_Constant_str (h _ _)
theorem fdiv_int {a b:Int} {Q:Value→Shared→Prop} (hb:b≠0) (hp:Builtin.divisionGoesByPylong a b=false∨PySem.PylongRoom (model prog w) A s) (h:∀ t' tk,Q (.int (a.fdiv b) t') (tkd s tk)) :
    wpAny (model prog w) A (binaryOp .FloorDiv (.int a t) (.int b u)) Q E s:=floordiv_int hb (h _ _) hp
theorem fmod_int {a b:Int} {Q:Value→Shared→Prop} (hb:b≠0) (h:∀ t' tk,Q (.int (a.fmod b) t') (tkd s tk)) :
    wpAny (model prog w) A (binaryOp .Mod (.int a t) (.int b u)) Q E s:=mod_int' hb (h _ _)
theorem fmod_bd {a b:Int} {Q:Value→Shared→Prop} (hb:0<b) (h:∀ e t' tk,0≤e→e<b→Q (.int e t') (tkd s tk)) :
    wpAny (model prog w) A (binaryOp .Mod (.int a t) (.int b u)) Q E s:=mod_int' (by lia) (h _ _ _ (Int.fmod_nonneg_of_pos a hb) (Int.fmod_lt_of_pos a hb))
theorem fdiv_any {a b:Int} {Q:Value→Shared→Prop} (hb:b≠0) (hb2:b.natAbs<1073741824) (h:∀ e t' tk,Q (.int e t') (tkd s tk)) :
    wpAny (model prog w) A (binaryOp .FloorDiv (.int a t) (.int b u)) Q E s:=floordiv_int hb (h _ _ _) (.inl (PyProof.noPylong_small hb2))
theorem pow_any {a k:Int} {Q:Value→Shared→Prop} (ha:a=3∨a=4) (hn:0≤k) (hn2:k≤3) (h:∀ e t' tk,e≠0→e.natAbs<1073741824→Q (.int e t') (tkd s tk)) :
    wpAny (model prog w) A (binaryOp .Pow (.int a t) (.int k u)) Q E s:=by
  have ok:a ^ k.toNat≠0∧(a ^ k.toNat).natAbs<1073741824:=by
    have hz:k=0∨k=1∨k=2∨k=3:=by lia
    rcases ha with rfl | rfl <;> rcases hz with rfl | rfl | rfl | rfl <;> decide
  exact pow_int_small hn (by lia) (by rcases ha with rfl | rfl <;> decide) (h _ _ _ ok.1 ok.2)
theorem neg_int {a:Int} {Q:Value→Shared→Prop} (h:∀ t' tk,Q (.int (-a) t') (tkd s tk)):wpAny (model prog w) A (unaryOp .USub (.int a t)) Q E s:=PyProof.Rows.neg_int (h _ _)
theorem addS {a b:List Nat} {Q:Value→Shared→Prop} (hz:a.length+b.length<2 ^ 20) (h:∀ t' tk,Q (.str (S (a++b)) t') (tkd s tk)):wpAny (model prog w) A (binaryOp .Add (.str (S a) t) (.str (S b) u)) Q E s :=
  add_str (fun t' tk=>by rw [S_append]; exact h t' tk) (by rw [S_length,S_length,sizeLine_eq]; lia)
theorem iaddS {a b:List Nat} {Q:Value→Shared→Prop} (hz:a.length+b.length<2 ^ 20) (h:∀ t' tk,Q (.str (S (a++b)) t') (tkd s tk)):wpAny (model prog w) A (inplaceOp .Add (.str (S a) t) (.str (S b) u)) Q E s :=
  PyProof.Rows.iadd_str (fun t' tk=>by rw [S_append]; exact h t' tk) (by rw [S_length,S_length,sizeLine_eq]; lia)
theorem eqS {a b:List Nat} {Q:Value→Shared→Prop} (h:Q (.bool (a==b)) s):wpAny (model prog w) A (compareOp .Eq (.str (S a) t) (.str (S b) u)) Q E s :=
  PyProof.Rows.eq_str (by rw [S_beq]; exact h)
theorem itS {l:List Nat} {k:Int} {c:Nat} {Q:Value→Shared→Prop} (h0:0≤k) (hk:k<2 ^ 62) (hc:l[k.toNat]?=some c) (h:∀ t' tk,Q (.str (S [c]) t') (tkd s tk))
    (hs:subscripted slice false (.str (S l) t) (.int k u)=operate [.str (S l) t,.int k u] (getItem (.str (S l) t) (.int k u)):=by with_unfolding_all rfl) :
    wpAny (model prog w) A (subscriptTail value slice (.str (S l) t) (.int k u)) Q E s:=by
  have hl:k.toNat<l.length:=(List.getElem?_eq_some_iff.mp hc).1
  refine tail_any (T:="str") rfl slot_str_getitem.lookup (PyProof.Rows.getItem_str (c:=c) (by simp; lia) ?_ (h _ _)) hs
  have e:seqIndex? k (S l).length=some k.toNat:=by
    rw [S_length]; unfold seqIndex?
    simp only [if_neg (Int.not_lt.mpr h0)]
    rw [if_pos (by simp; lia)]
  rw [e]; simpa using hc
theorem itL {l:Addr} {vs:List Value} {k:Int} {x:Value} {Q:Value→Shared→Prop} (hl:s.heap.IsList l vs.toArray) (h0:0≤k) (hfit:k<2 ^ 62) (hx:vs[k.toNat]?=some x) (h:Q x s)
    (hs:subscripted slice false (.ref l) (.int k u)=operate [.ref l,.int k u] (getItem (.ref l) (.int k u)):=by with_unfolding_all rfl) :
    wpAny (model prog w) A (subscriptTail value slice (.ref l) (.int k u)) Q E s :=
  tail_any hl.typeIs slot_list_getitem.lookup (wpAny_getItem_list hl h0 (by lia) (by simpa using hx) h) hs
theorem gtL_last {l:Addr} {vs:List Value} {x:Value} {Q:Value→Shared→Prop} (hl:s.heap.IsList l (vs++[x]).toArray) (hz:vs.length<2 ^ 20) (h:Q x s) :
    wpAny (model prog w) A (getItem (.ref l) (.int (-1) u)) Q E s:=by
  refine wpAny_getItem_list_neg hl (by lia) (by simp; lia) (by lia) ?_ h
  have e:(-1+(((vs++[x]).toArray.size:Nat):Int)).toNat=vs.length:=by simp; lia
  rw [e]; simp
theorem itL_last {l:Addr} {vs:List Value} {x:Value} {Q:Value→Shared→Prop} (hl:s.heap.IsList l (vs++[x]).toArray) (hz:vs.length<2 ^ 20) (h:Q x s)
    (hs:subscripted slice false (.ref l) (.int (-1) u)=operate [.ref l,.int (-1) u] (getItem (.ref l) (.int (-1) u)):=by with_unfolding_all rfl) :
    wpAny (model prog w) A (subscriptTail value slice (.ref l) (.int (-1) u)) Q E s :=
  tail_any hl.typeIs slot_list_getitem.lookup (gtL_last hl hz h) hs
theorem setL_last {vs:List Value} {x v:Value} {Q:Unit→Shared→Prop} (F:Fr g L s.heap m) (N:News g L s.heap news) (U:Upd D (listOf (vs++[x]).toArray n) (listOf (vs++[v]).toArray n) news news') (hz:vs.length<2 ^ 20)
    (h:∀ h',Fr g L h' m→News g L h' news'→Q () (up s h' s.toks)):wpAny (model prog w) A (setItem (.ref D) (.int (-1) t) v) Q E s:=by
  obtain ⟨pre,post,rfl,rfl,a,b⟩:=U.split
  have z:=N (D,listOf (vs++[x]).toArray n) (List.mem_append.mpr (.inr (.head _)))
  refine ki_setBack z.1 (by lia) (by simp; lia) (by lia) (h _ (F.change (Heap.SameBut.update ..) z.2.1 z.2.2) (ki_turn _ N a b ?_ ?_))
  · have e:(-1+(((vs++[x]).toArray.size:Nat):Int)).toNat=vs.length:=by simp; lia
    show (vs++[x]).toArray.setIfInBounds _ v=(vs++[v]).toArray
    rw [e]; apply Array.toList_inj.mp; simp
  · simp
theorem slcLast {l:List Nat} {lo:Expr} {p:Pos} {Q:Value→Shared→Prop} (F:Fr g L s.heap m) (N:News g L s.heap news) (hz:l.length<2 ^ 20)
    (h:∀ h' t' k,Fr g L h' m→News g L h' news→Q (.str (S (l.drop (l.length - 1))) t') (up s h' k))
    (ht:∀ r,letTemporaryGo value (.str (S l) t) r=pure ():=by intro _; with_unfolding_all rfl) :
    wpAny (model prog w) A (subscriptTail value (.Slice (some lo) none none p) (.str (S l) t) (.ref s.heap.objs.size)) Q E { s with heap:=s.heap.push { cls:=.type "slice",data:=.fields #[.int (-1) u,.none,.none] } } :=
  slice_strN_sn F N (fun h' t' k F' N'=>by rw [slice_last]; exact h h' t' k F' N') (by with_unfolding_all rfl) ht (by rw [S_length,sizeLine_eq]; lia)
theorem slcTo {l:List Nat} {hi:Expr} {k:Int} {p:Pos} {Q:Value→Shared→Prop} (F:Fr g L s.heap m) (N:News g L s.heap news) (hz:l.length<2 ^ 20) (h0:0≤k)
    (h:∀ h' t' kk,Fr g L h' m→News g L h' news→Q (.str (S (l.take k.toNat)) t') (up s h' kk))
    (ht:∀ r,letTemporaryGo value (.str (S l) t) r=pure ():=by intro _; with_unfolding_all rfl) :
    wpAny (model prog w) A (subscriptTail value (.Slice none (some hi) none p) (.str (S l) t) (.ref s.heap.objs.size)) Q E { s with heap:=s.heap.push { cls:=.type "slice",data:=.fields #[.none,.int k u,.none] } } :=
  slice_strN_ns F N (fun h' t' kk F' N'=>by rw [slice_to l h0]; exact h h' t' kk F' N') (by with_unfolding_all rfl) ht (by rw [S_length,sizeLine_eq]; lia)
end
end
section
section
variable {prog:Program} {w:World} {M:Model} {A:Around} {E:Value→Shared→Prop} {s:Shared} {env:Env} {g:Heap} {L:Addr} {m:Str→Option Value} {news:List (Addr×Obj)}
theorem forWX {R:Result→Shared→Prop} {x:Str} {px:Pos} {body:List Stmt} {I:Addr} {fp wr:List Addr} {n:Nat} {P:Nat→Value→Prop} {St:Nat→Heap→Prop}
    (W:Walks prog w A I fp wr n P St) (hLf:L∉fp) (hwr:∀ b∈wr,g.get? b=none) (hnw:∀ p∈news,p.1∉wr)
    (hst:St 0 s.heap) (F:Fr g L s.heap m) (N:News g L s.heap news)
    (J:Nat→(Str→Option Value)→List (Addr×Obj)→Prop) (h0:J 0 m news)
    (step:∀ (E':Value→Shared→Prop) i v m₁ news₁ h₁ tk₁ own,i<n→P i v→J i m₁ news₁→(∀ p∈news₁,p.1∉wr)→(∀ p∈own,p.1∈fp)→St (i+1) h₁ →
      Fr g L h₁ (setM m₁ x v)→News g L h₁ (news₁++own) →
      wpAny (model prog w) A (execs body env) (Turn s g L wr own (J (i+1)) R) E' (up s h₁ tk₁))
    (hend:∀ h' tk m' news',Fr g L h' m'→News g L h' news'→(∀ p∈news',p.1∉wr)→J n m' news'→R (.ok .next) (up s h' tk))
    (hL:env.locals=L:=by rfl) (hk:env.scope.kind=.function:=by rfl) (hx:env.kindOf x=some .local:=by kernel_rfl) :
    codeAny (model prog w) A (.forLoop (.Name x px) (.ref I) body [] env) R s:=by
  subst hL
  refine codeAny_forLoop_frV W hx (by rw [hk]; rfl) hLf hwr hnw hst F N J h0 (fun i v m₁ news₁ s₁ own hs hi hP hJ hw ho _ _ hst₁ F₁ N₁=>?_) fun h' tk m' news' F' N' hw hj=>hend h' tk m' news' F' N' hw hj
  obtain ⟨h₁,tk₁,rfl⟩:=hs
  refine wpAny_mono (step _ i v m₁ news₁ h₁ tk₁ own hi hP hJ hw ho hst₁ F₁ (news_swap N₁)) (fun f s₂ t=>?_) fun _ _ e=>e
  cases f with
  | ret v=>exact t
  | brk=>exact t
  | next=>obtain ⟨h',tk,m',news',rfl,F',N',hw',hj⟩:=t; exact ⟨rfl,h',tk,m',news',rfl,F',news_swap N',hw',hj⟩
  | cont=>obtain ⟨h',tk,m',news',rfl,F',N',hw',hj⟩:=t; exact ⟨rfl,h',tk,m',news',rfl,F',news_swap N',hw',hj⟩
theorem iterLX {R:Result→Shared→Prop} {x:Str} {px:Pos} {body:List Stmt} {ax:Addr} {vs:List Value} (hh:A.handled=none) (F:Fr g L s.heap m) (N:News g L s.heap news) (hl:s.heap.IsList ax vs.toArray) (haL:ax≠L)
    (J:Nat→(Str→Option Value)→List (Addr×Obj)→Prop) (h0:J 0 m news)
    (step:∀ (E':Value→Shared→Prop) i v m₁ news₁ h₁ tk₁ own,vs[i]?=some v→J i m₁ news₁→(∀ p∈news₁,p.1∉[s.heap.objs.size])→(∀ p∈own,p.1∈[s.heap.objs.size,ax])→(∀ b∈[s.heap.objs.size,ax],∃ o,h₁.get? b=some o) →
      Fr g L h₁ (setM m₁ x v)→News g L h₁ (news₁++own) →
      wpAny (model prog w) A (execs body env) (Turn s g L [s.heap.objs.size] own (J (i+1)) R) E' (up s h₁ tk₁))
    (hend:∀ h' tk m' news',Fr g L h' m'→News g L h' news'→(∀ p∈news',p.1∉[s.heap.objs.size])→J vs.length m' news'→R (.ok .next) (up s h' tk))
    (hL:env.locals=L:=by rfl) (hk:env.scope.kind=.function:=by rfl) (hx:env.kindOf x=some .local:=by kernel_rfl) :
    wpAny (model prog w) A (pyIter (.ref ax)) (fun it s₂=>codeAny (model prog w) A (.forLoop (.Name x px) it body [] env) R s₂) E s:=by
  refine wpAny_pyIter_list hl ?_
  have hne:ax≠s.heap.objs.size:=let ⟨_,ho,_⟩:=hl; Nat.ne_of_lt (Heap.lt_size ho)
  have hLs:L≠s.heap.objs.size:=Nat.ne_of_lt F.ns.lt
  have F':=F.push { cls:=.type "list_iterator",data:=.fields #[.ref ax,.int 0 0] }
  have N':News g L (s.heap.push { cls:=.type "list_iterator",data:=.fields #[.ref ax,.int 0 0] }) news:=(grow F N fun b o e=>Heap.get?_push_of_some _ e).2
  refine forWX (s:=up s (s.heap.push { cls:=.type "list_iterator",data:=.fields #[.ref ax,.int 0 0] }) s.toks) (Walks.list hh s.heap.objs.size ax hne vs.toArray) (by simp [hLs,haL.symm]) (fun b hb=>by rw [List.mem_singleton.mp hb]; exact size_none F) (fun p hp q=>absurd (Heap.lt_size (N p hp).1) (by rw [List.mem_singleton.mp q]; exact Nat.lt_irrefl _))
    ⟨⟨_,Heap.get?_push_size _ rfl,rfl,rfl⟩,hl.push _⟩ F' N' J h0 (fun E' i v m₁ news₁ h₁ tk₁ own hi hP hJ hw ho hs=>step E' i v m₁ news₁ h₁ tk₁ own (by simpa using hP) hJ hw ho (fun b hb=>by
      rcases List.mem_cons.mp hb with rfl | hb
      · exact let ⟨⟨o,z,_⟩,_⟩:=hs; ⟨o,z⟩
      · rw [List.mem_singleton] at hb; subst hb; exact let ⟨_,⟨o,z,_⟩⟩:=hs; ⟨o,z⟩)) (fun h' tk m' news' F' N' hw hj=>hend h' tk m' news' F' N' hw (by simpa using hj)) hL hk hx
theorem iterTX {R:Result→Shared→Prop} {x:Str} {px:Pos} {body:List Stmt} {ax:Addr} {vs:List Value} (hh:A.handled=none) (F:Fr g L s.heap m) (N:News g L s.heap news) (hl:s.heap.IsTuple ax vs.toArray) (haL:ax≠L)
    (J:Nat→(Str→Option Value)→List (Addr×Obj)→Prop) (h0:J 0 m news)
    (step:∀ (E':Value→Shared→Prop) i v m₁ news₁ h₁ tk₁ own,vs[i]?=some v→J i m₁ news₁→(∀ p∈news₁,p.1∉[s.heap.objs.size])→(∀ p∈own,p.1∈[s.heap.objs.size,ax])→(∀ b∈[s.heap.objs.size,ax],∃ o,h₁.get? b=some o) →
      Fr g L h₁ (setM m₁ x v)→News g L h₁ (news₁++own) →
      wpAny (model prog w) A (execs body env) (Turn s g L [s.heap.objs.size] own (J (i+1)) R) E' (up s h₁ tk₁))
    (hend:∀ h' tk m' news',Fr g L h' m'→News g L h' news'→(∀ p∈news',p.1∉[s.heap.objs.size])→J vs.length m' news'→R (.ok .next) (up s h' tk))
    (hL:env.locals=L:=by rfl) (hk:env.scope.kind=.function:=by rfl) (hx:env.kindOf x=some .local:=by kernel_rfl) :
    wpAny (model prog w) A (pyIter (.ref ax)) (fun it s₂=>codeAny (model prog w) A (.forLoop (.Name x px) it body [] env) R s₂) E s:=by
  refine wpAny_pyIter_tuple hl ?_
  have hne:ax≠s.heap.objs.size:=let ⟨_,ho,_⟩:=hl; Nat.ne_of_lt (Heap.lt_size ho)
  have hLs:L≠s.heap.objs.size:=Nat.ne_of_lt F.ns.lt
  have F':=F.push { cls:=.type "tuple_iterator",data:=.fields #[.ref ax,.int 0 0] }
  have N':News g L (s.heap.push { cls:=.type "tuple_iterator",data:=.fields #[.ref ax,.int 0 0] }) news:=(grow F N fun b o e=>Heap.get?_push_of_some _ e).2
  refine forWX (s:=up s (s.heap.push { cls:=.type "tuple_iterator",data:=.fields #[.ref ax,.int 0 0] }) s.toks) (Walks.tuple hh s.heap.objs.size ax hne vs.toArray) (by simp [hLs,haL.symm]) (fun b hb=>by rw [List.mem_singleton.mp hb]; exact size_none F) (fun p hp q=>absurd (Heap.lt_size (N p hp).1) (by rw [List.mem_singleton.mp q]; exact Nat.lt_irrefl _))
    ⟨⟨_,Heap.get?_push_size _ rfl,rfl,rfl⟩,let ⟨o,ho,r⟩:=hl; ⟨o,Heap.get?_push_of_some _ ho,r⟩⟩ F' N' J h0 (fun E' i v m₁ news₁ h₁ tk₁ own hi hP hJ hw ho hs=>step E' i v m₁ news₁ h₁ tk₁ own (by simpa using hP) hJ hw ho (fun b hb=>by
      rcases List.mem_cons.mp hb with rfl | hb
      · exact let ⟨⟨o,z,_⟩,_⟩:=hs; ⟨o,z⟩
      · rw [List.mem_singleton] at hb; subst hb; exact let ⟨_,⟨o,z,_⟩⟩:=hs; ⟨o,z⟩)) (fun h' tk m' news' F' N' hw hj=>hend h' tk m' news' F' N' hw (by simpa using hj)) hL hk hx
end
end
section
noncomputable def sdGo (lt:Nat→Nat→Bool) (v start:Nat):Nat→List Nat→Nat→List Nat
  | 0,ids,pos=>ids.set pos v
  | f+1,ids,pos=>if start<pos then (if lt v (ids.getD ((pos - 1) / 2) 0) then sdGo lt v start f (ids.set pos (ids.getD ((pos - 1) / 2) 0)) ((pos - 1) / 2) else ids.set pos v) else ids.set pos v
noncomputable def siftdown (lt:Nat→Nat→Bool) (ids:List Nat) (start pos:Nat):List Nat:=sdGo lt (ids.getD pos 0) start pos ids pos
noncomputable def Cmp (g:Heap) (n:Nat) (val:Nat→Value) (lt:Nat→Nat→Bool):Prop :=
  ∀ (prog:Program) (w:World) (A:Around) (E:Value→Shared→Prop) (s:Shared) (Q:Value→Shared→Prop) (i j:Nat),Room A 1→i<n→j<n →
    (∀ b o,g.get? b=some o→s.heap.get? b=some o)→Q (.bool (lt i j)) s→wpAny (model prog w) A (compareOp .Lt (val i) (val j)) Q E s
theorem map_getD {val:Nat→Value} {ids:List Nat} {i:Nat} (h:i<ids.length):(ids.map val)[i]?=some (val (ids.getD i 0)):=by
  simp [h]
theorem getD_mem {ids:List Nat} {i n:Nat} (hn:∀ i∈ids,i<n) (h:i<ids.length):ids.getD i 0<n:=by
  simp only [List.getD_eq_getElem?_getD,List.getElem?_eq_getElem h,Option.getD_some]
  exact hn _ (List.getElem_mem h)
theorem set_lt {ids:List Nat} {i n v:Nat} (hn:∀ i∈ids,i<n) (hv:v<n):∀ j∈ids.set i v,j<n:=fun j hj=>by
  rcases List.mem_or_eq_of_mem_set hj with h | h
  · exact hn j h
  · exact h ▸ hv
section
variable {prog:Program} {w:World} {A:Around} {E:Value→Shared→Prop} {s:Shared}
end
noncomputable section
namespace Zsiftdown
abbrev D0:=(((((Program)×(World))×(Around))×((Shared)×(Around)))×((((Addr)×(List Nat))×(Nat))×((Nat)×(Nat))))×(((((Nat)×(Tok))×(Tok))×((Nat→Value)×(Nat→Nat→Bool)))×((((Addr)×(Heap))×(Nat))×((Flow→Shared→Prop)×(Value→Shared→Prop))))
abbrev P0 (prog:Program) (w:World) (A:Around) (s:Shared) (A₁:Around) (hp:Addr) (ids:List Nat) (n k start pos:Nat) (t1 t2:Tok) (val:Nat→Value) (lt:Nat→Nat→Bool) (L:Addr) (h₀:Heap) (tk₀:Nat) (R₁:Flow→Shared→Prop) (E₁:Value→Shared→Prop):Prop:=∀ (rm:Room A 2) (T:Wd w (hideAll s.heap [hp])) (hl:s.heap.get? hp=some (listOf (ids.map val).toArray k)) (hn:∀ i∈ids,i<n) (hpos:pos<ids.length) (hsz:ids.length<1000) (hc:Cmp (hideAll s.heap [hp]) n val lt) (h:∀ h' tk',Ext [hp] s.heap h'→h'.get? hp=some (listOf ((siftdown lt ids start pos).map val).toArray k)→R₁ .next (up s h' tk')) (hL:L=s.heap.objs.size) (F:Fr (hideAll s.heap (([(hp,listOf (ids.map val).toArray k)]:List (Addr×Obj)).map (·.1))) L h₀ (fun y9=>([(("heap":Str),.ref hp),(("startpos":Str),.int start t1),(("pos":Str),.int pos t2)]:List (Str×Value)).reverse.lookup y9)) (N:News (hideAll s.heap (([(hp,listOf (ids.map val).toArray k)]:List (Addr×Obj)).map (·.1))) L h₀ ([(hp,listOf (ids.map val).toArray k)])) (dA:Deeper A A₁ (callEnv (fd73 w) L 73)),wpAny (model prog w) A₁ (execs (stm (fd73 w)) (callEnv (fd73 w) L 73)) R₁ E₁ (up s h₀ tk₀)
abbrev P1 (d:D0):=P0 d.1.1.1.1.1 d.1.1.1.1.2 d.1.1.1.2 d.1.1.2.1 d.1.1.2.2 d.1.2.1.1.1 d.1.2.1.1.2 d.1.2.1.2 d.1.2.2.1 d.1.2.2.2 d.2.1.1.1.1 d.2.1.1.1.2 d.2.1.1.2 d.2.1.2.1 d.2.1.2.2 d.2.2.1.1.1 d.2.2.1.1.2 d.2.2.1.2 d.2.2.2.1 d.2.2.2.2
theorem ne0:Nonempty D0:=⟨(((((Challenge.pw_ny0293_01,Classical.choice neW),callerA),(Classical.choice neS,callerA)),default),default)⟩
@[irreducible] def d0:D0:=@Classical.epsilon D0 ne0 fun d=>¬ P1 d
def prog:=d0.1.1.1.1.1
def w:=d0.1.1.1.1.2
def A:=d0.1.1.1.2
def s:=d0.1.1.2.1
def A₁:=d0.1.1.2.2
def hp:=d0.1.2.1.1.1
def ids:=d0.1.2.1.1.2
def n:=d0.1.2.1.2
def k:=d0.1.2.2.1
def start:=d0.1.2.2.2
def pos:=d0.2.1.1.1.1
def t1:=d0.2.1.1.1.2
def t2:=d0.2.1.1.2
def val:=d0.2.1.2.1
def lt:=d0.2.1.2.2
def L:=d0.2.2.1.1.1
def h₀:=d0.2.2.1.1.2
def tk₀:=d0.2.2.1.2
def R₁:=d0.2.2.2.1
def E₁:=d0.2.2.2.2
theorem bd0:P0 prog w A s A₁ hp ids n k start pos t1 t2 val lt L h₀ tk₀ R₁ E₁:=by
  intro rm T hl hn hpos hsz hc h hL F N dA
  refine with_stm (P:=fun b=>wpAny (model prog w) A₁ (execs b (callEnv (fd73 w) L 73)) R₁ E₁ (up s h₀ tk₀)) rfl ?_
  show wpAny _ _ (execs (_::_) _) _ _ _
  have hg:∀ {h' m'},Fr (hideAll s.heap [hp]) L h' m'→∀ b o,(hideAll s.heap [hp]).get? b=some o→h'.get? b=some o:=fun F'=>F'.keep
  have rm':=dA.room rm
  change Fr (hideAll s.heap [hp]) L h₀ _ at F
  change News (hideAll s.heap [hp]) L h₀ _ at N
  generalize hr:siftdown lt ids start pos=res at h
  unfold siftdown at hr
  generalize hv:ids.getD pos 0=v at hr
  have hvn:v<n:=hv ▸ getD_mem hn hpos
  refine wpAny_execs_cons (wpAny_Assign_Name (Subscript_ (ld F rfl (ld F rfl (kim_list N (List.Mem.head _) rfl rfl (by lia) (by lia) (x:=val v) (by rw [← hv]; exact map_getD (by lia)) (st F N fun h1 _ F1 N1=>?_))))))
  let Jv0:Nat→Shared→Prop:=fun z s'=>Ex7 fun (h':Heap) (tk:Nat) (ids':List Nat) (p:Nat) (fuel:Nat) (tp:Tok) (m':Str→Option Value)=>And8 (s'=up s h' tk) (Fr (hideAll s.heap [hp]) L h' m') (News (hideAll s.heap [hp]) L h' [(hp,listOf (ids'.map val).toArray k)]) (m' "heap"=some (.ref hp)) (m' "startpos"=some (.int start t1)) (m' "pos"=some (.int (p:Nat) tp)) (m' "newitem"=some (val v)) (And6 (p≤fuel) (z=p) (p<ids'.length) (ids'.length=ids.length) ((∀ i∈ids',i<n)) (sdGo lt v start fuel ids' p=res))
  let Jv1:Shared→Prop:=fun s'=>Ex6 fun (h':Heap) (tk:Nat) (ids':List Nat) (p:Nat) (tp:Tok) (m':Str→Option Value)=>And8 (s'=up s h' tk) (Fr (hideAll s.heap [hp]) L h' m') (News (hideAll s.heap [hp]) L h' [(hp,listOf (ids'.map val).toArray k)]) (m' "heap"=some (.ref hp)) (m' "pos"=some (.int (p:Nat) tp)) (m' "newitem"=some (val v)) (p<ids'.length) (ids'.length=ids.length∧ids'.set p v=res)
  refine whileN Jv0
    Jv1
    (fun E'=>?_) pos ⟨h1,_,ids,pos,pos,_,_,rfl,F1,N1,rfl,rfl,rfl,rfl,Nat.le_refl _,rfl,hpos,rfl,hn,hr⟩ ?_
  rotate_left
  · rintro s' ⟨h',tk,ids',p,tp,m',rfl,F',N',mh,mp,mn,hp',hlen,hres⟩
    refine wpAny_execs_cons (wpAny_Assign_Subscript (ld F' mn (ld F' mh (ld F' mp (setL F' N' upd1 (by lia) (by rw [List.length_map]; lia) (by lia) fun h4 F4 N4=>?_)))))
    refine wpAny_execs_nil (h h4 _ (ext_of_fr F4) ?_)
    rw [← hres,List.map_set]
    exact (N4 _ (List.Mem.head _)).1
  rintro z s' ⟨h',tk,ids',p,fuel,tp,m',rfl,F',N',mh,ms,mp,mn,hpf,rfl,hp',hlen,hn',hres⟩
  refine wpAny_isTrue_Compare1 (ld F' mp (ld F' ms (gt_int (wpAny_truthy_bool ?_))))
  by_cases hgt:start<z
  · have e1:decide ((z:Int) > (start:Int))=true:=decide_eq_true (by lia)
    rw [e1,if_pos rfl]
    obtain ⟨f,rfl⟩:∃ f,fuel=f+1:=⟨fuel - 1,by lia⟩
    have hpp:(z - 1) / 2<ids'.length:=by lia
    refine wpAny_execs_cons (wpAny_Assign_Name (wpAny_BinOp (wpAny_BinOp (ld F' mp (cint fun _ _=>(sub_int fun _ _=>(cint fun _ _=>(shr1_int (by lia) fun _ _=>(st F' N' fun h2 _ F2 N2=>?_)))))))))
    have ez:((z:Int) - 1) / 2=(((z - 1) / 2:Nat):Int):=by lia
    rw [ez] at F2
    refine wpAny_execs_cons (wpAny_Assign_Name (Subscript_ (ld F2 mh (ld F2 rfl (kim_list N2 (List.Mem.head _) rfl rfl (by lia) (by lia) (x:=val (ids'.getD ((z - 1) / 2) 0)) (map_getD (by lia)) (st F2 N2 fun h3 _ F3 N3=>?_))))))
    refine wpAny_execs_cons (wpAny_If (wpAny_isTrue_Compare1 (ld F3 mn (ld F3 rfl (hc _ _ _ _ _ _ _ _ rm' hvn (getD_mem hn' hpp) F3.keep (wpAny_truthy_bool ?_))))))
    unfold sdGo at hres
    rw [if_pos hgt] at hres
    cases hlt:lt v (ids'.getD ((z - 1) / 2) 0) with
    | true =>
      first | refine ifT rfl ?_ | rw [if_pos rfl]
      rw [hlt,if_pos rfl] at hres
      refine wpAny_execs_cons (wpAny_Assign_Subscript (ld F3 rfl (ld F3 mh (ld F3 mp (setL F3 N3 upd1 (by lia) (by rw [List.length_map]; lia) (by lia) fun h4 F4 N4=>?_)))))
      refine wpAny_execs_cons (wpAny_Assign_Name (ld F4 rfl (st F4 N4 fun h5 _ F5 N5=>?_)))
      refine wpAny_execs_cons (cont_ ?_)
      refine ⟨(z - 1) / 2,by lia,h5,_,_,_,f,_,_,rfl,F5,?_,mh,ms,rfl,mn,by lia,rfl,?_,?_,set_lt hn' (getD_mem hn' hpp),hres⟩
      · rw [List.map_set]; exact N5
      · rw [List.length_set]; lia
      · rw [List.length_set]; lia
    | false =>
      first | refine ifF (by simp) ?_ | rw [if_neg (by simp)]
      rw [hlt,if_neg (by simp)] at hres
      refine wpAny_execs_nil ?_
      refine wpAny_execs_cons (brk_ ?_)
      exact ⟨h3,_,ids',z,tp,_,rfl,F3,N3,mh,mp,mn,hp',hlen,hres⟩
  · have e1:decide ((z:Int) > (start:Int))=false:=decide_eq_false (by lia)
    rw [e1,if_neg (by simp)]
    refine ⟨h',tk,ids',z,tp,m',rfl,F',N',mh,mp,mn,hp',hlen,?_⟩
    cases fuel with
    | zero=>exact hres
    | succ f=>unfold sdGo at hres; rw [if_neg hgt] at hres; exact hres
theorem al0:∀ d,P1 d:=epsAll ne0 P1 (by with_unfolding_all exact bd0)
end Zsiftdown
end
section
variable {prog:Program} {w:World} {A:Around} {E:Value→Shared→Prop} {s:Shared}
theorem siftdown_call {hp:Addr} {ids:List Nat} {n k start pos:Nat} {t1 t2:Tok} {val:Nat→Value} {lt:Nat→Nat→Bool} {Q:Value→Shared→Prop} (rm:Room A 2) (T:Wd w (hideAll s.heap [hp])) (hl:s.heap.get? hp=some (listOf (ids.map val).toArray k)) (hn:∀ i∈ids,i<n) (hpos:pos<ids.length) (hsz:ids.length<1000) (hc:Cmp (hideAll s.heap [hp]) n val lt) (h:∀ h' tk',Ext [hp] s.heap h'→h'.get? hp=some (listOf ((siftdown lt ids start pos).map val).toArray k)→Q .none (up s h' tk')):wpAny (model prog w) A (call (.ref 73) [.ref hp,.int start t1,.int pos t2]) Q E s:=by
  refine wpAny_call (enter (W:=[(hp,listOf (ids.map val).toArray k)]) (binds:=[(("heap":Str),.ref hp),(("startpos":Str),.int start t1),(("pos":Str),.int pos t2)]) rm.le' (fn73 T.of_hide.X) T.of_hide.lim (cd73 T.of_hide.X) (by simpa using hl) rfl
    (BindsTo.of_eq (by kernel_rfl)) (by kernel_rfl) (by kernel_rfl) ?_ (by kernel_rfl) (by kernel_rfl) (by kernel_rfl))
  intro L h₀ tk₀ hL F N A₁ R₁ E₁ dA hret hnone
  exact Zsiftdown.al0 (((((prog,w),A),(s,A₁)),(((hp,ids),n),(k,start))),((((pos,t1),t2),(val,lt)),(((L,h₀),tk₀),(R₁,E₁)))) rm T hl hn hpos hsz hc (fun x0 x1 x2 x3=>hnone _ (h x0 x1 x2 x3)) hL F N dA
noncomputable def suGo (lt:Nat→Nat→Bool) (e:Nat):Nat→List Nat→Nat→List Nat×Nat
  | 0,ids,pos=>(ids,pos)
  | f+1,ids,pos=>if 2*pos+1<e then
      (if 2*pos+2<e∧lt (ids.getD (2*pos+1) 0) (ids.getD (2*pos+2) 0)=false then suGo lt e f (ids.set pos (ids.getD (2*pos+2) 0)) (2*pos+2)
       else suGo lt e f (ids.set pos (ids.getD (2*pos+1) 0)) (2*pos+1)) else (ids,pos)
noncomputable def siftup (lt:Nat→Nat→Bool) (ids:List Nat) (pos:Nat):List Nat :=
  siftdown lt ((suGo lt ids.length ids.length ids pos).1.set (suGo lt ids.length ids.length ids pos).2 (ids.getD pos 0)) pos (suGo lt ids.length ids.length ids pos).2
end
noncomputable section
namespace Zsiftup
abbrev D0:=(((((Program)×(World))×(Around))×((Shared)×(Around)))×(((Addr)×(List Nat))×((Nat)×(Nat))))×(((((Nat)×(Tok))×(Nat→Value))×((Nat→Nat→Bool)×(Addr)))×(((Heap)×(Nat))×((Flow→Shared→Prop)×(Value→Shared→Prop))))
abbrev P0 (prog:Program) (w:World) (A:Around) (s:Shared) (A₁:Around) (hp:Addr) (ids:List Nat) (n k pos:Nat) (t1:Tok) (val:Nat→Value) (lt:Nat→Nat→Bool) (L:Addr) (h₀:Heap) (tk₀:Nat) (R₁:Flow→Shared→Prop) (E₁:Value→Shared→Prop):Prop:=∀ (rm:Room A 4) (T:Wd w (hideAll s.heap [hp])) (hl:s.heap.get? hp=some (listOf (ids.map val).toArray k)) (hn:∀ i∈ids,i<n) (hpos:pos<ids.length) (hsz:ids.length<1000) (hc:Cmp (hideAll s.heap [hp]) n val lt) (h:∀ h' tk',Ext [hp] s.heap h'→h'.get? hp=some (listOf ((siftup lt ids pos).map val).toArray k)→R₁ .next (up s h' tk')) (hL:L=s.heap.objs.size) (F:Fr (hideAll s.heap (([(hp,listOf (ids.map val).toArray k)]:List (Addr×Obj)).map (·.1))) L h₀ (fun y9=>([(("heap":Str),.ref hp),(("pos":Str),.int pos t1)]:List (Str×Value)).reverse.lookup y9)) (N:News (hideAll s.heap (([(hp,listOf (ids.map val).toArray k)]:List (Addr×Obj)).map (·.1))) L h₀ ([(hp,listOf (ids.map val).toArray k)])) (dA:Deeper A A₁ (callEnv (fd80 w) L 80)),wpAny (model prog w) A₁ (execs (stm (fd80 w)) (callEnv (fd80 w) L 80)) R₁ E₁ (up s h₀ tk₀)
abbrev P1 (d:D0):=P0 d.1.1.1.1.1 d.1.1.1.1.2 d.1.1.1.2 d.1.1.2.1 d.1.1.2.2 d.1.2.1.1 d.1.2.1.2 d.1.2.2.1 d.1.2.2.2 d.2.1.1.1.1 d.2.1.1.1.2 d.2.1.1.2 d.2.1.2.1 d.2.1.2.2 d.2.2.1.1 d.2.2.1.2 d.2.2.2.1 d.2.2.2.2
theorem ne0:Nonempty D0:=⟨(((((Challenge.pw_ny0293_01,Classical.choice neW),callerA),(Classical.choice neS,callerA)),default),default)⟩
@[irreducible] def d0:D0:=@Classical.epsilon D0 ne0 fun d=>¬ P1 d
def prog:=d0.1.1.1.1.1
def w:=d0.1.1.1.1.2
def A:=d0.1.1.1.2
def s:=d0.1.1.2.1
def A₁:=d0.1.1.2.2
def hp:=d0.1.2.1.1
def ids:=d0.1.2.1.2
def n:=d0.1.2.2.1
def k:=d0.1.2.2.2
def pos:=d0.2.1.1.1.1
def t1:=d0.2.1.1.1.2
def val:=d0.2.1.1.2
def lt:=d0.2.1.2.1
def L:=d0.2.1.2.2
def h₀:=d0.2.2.1.1
def tk₀:=d0.2.2.1.2
def R₁:=d0.2.2.2.1
def E₁:=d0.2.2.2.2
theorem bd0:P0 prog w A s A₁ hp ids n k pos t1 val lt L h₀ tk₀ R₁ E₁:=by
  intro rm T hl hn hpos hsz hc h hL F N dA
  refine with_stm (P:=fun b=>wpAny (model prog w) A₁ (execs b (callEnv (fd80 w) L 80)) R₁ E₁ (up s h₀ tk₀)) rfl ?_
  show wpAny _ _ (execs (_::_) _) _ _ _
  have rm':=dA.room rm
  change Fr (hideAll s.heap [hp]) L h₀ _ at F
  change News (hideAll s.heap [hp]) L h₀ _ at N
  generalize hr:siftup lt ids pos=res at h
  unfold siftup at hr
  generalize hv:ids.getD pos 0=v at hr
  generalize hsg:suGo lt ids.length ids.length ids pos=rr at hr
  have hvn:v<n:=hv ▸ getD_mem hn hpos
  refine wpAny_execs_cons (wpAny_Assign_Name (callb T F (by kernel_rfl) (spliced_more (ld F rfl (spliced_none (len_L N (.head _) (by simp; lia) fun _ _=>(st F N fun h1 _ F1 N1=>?_)))))))
  have el:(((ids.map val).length:Nat):Int)=(ids.length:Int):=by simp
  rw [el] at F1
  refine wpAny_execs_cons (wpAny_Assign_Name (ld F1 rfl (st F1 N1 fun h2 _ F2 N2=>?_)))
  refine wpAny_execs_cons (wpAny_Assign_Name (Subscript_ (ld F2 rfl (ld F2 rfl (kim_list N2 (List.Mem.head _) rfl rfl (by lia) (by lia) (x:=val v) (by rw [← hv]; exact map_getD (by lia)) (st F2 N2 fun h3 _ F3 N3=>?_))))))
  refine wpAny_execs_cons (wpAny_Assign_Name (wpAny_BinOp (wpAny_BinOp (cint fun _ _=>(ld F3 rfl (mul_int fun _ _=>(cint fun _ _=>(add_int fun _ _=>(st F3 N3 fun h4 _ F4 N4=>?_)))))))))
  have ec:(2*(pos:Int)+1)=((2*pos+1:Nat):Int):=by lia
  rw [ec] at F4
  let Jv2:Nat→Shared→Prop:=fun z s'=>Ex8 fun (h':Heap) (tk:Nat) (ids':List Nat) (p:Nat) (fuel:Nat) (t2:Tok) (t3:Tok) (t4:Tok)=>∃ (m':Str→Option Value),And8 (s'=up s h' tk) (Fr (hideAll s.heap [hp]) L h' m') (News (hideAll s.heap [hp]) L h' [(hp,listOf (ids'.map val).toArray k)]) (m' "heap"=some (.ref hp)) (m' "startpos"=some (.int pos t1)) (m' "endpos"=some (.int (ids.length:Nat) t2)) (m' "pos"=some (.int (p:Nat) t3)) (And8 (m' "childpos"=some (.int ((2*p+1:Nat):Int) t4)) (m' "newitem"=some (val v)) (ids.length≤fuel+p) (z=ids.length - p) (p<ids.length) (ids'.length=ids.length) ((∀ i∈ids',i<n)) (suGo lt ids.length fuel ids' p=rr))
  let Jv3:Shared→Prop:=fun s'=>Ex6 fun (h':Heap) (tk:Nat) (ids':List Nat) (p:Nat) (t3:Tok) (m':Str→Option Value)=>And8 (s'=up s h' tk) (Fr (hideAll s.heap [hp]) L h' m') (News (hideAll s.heap [hp]) L h' [(hp,listOf (ids'.map val).toArray k)]) (m' "heap"=some (.ref hp)) (m' "startpos"=some (.int pos t1)) (m' "pos"=some (.int (p:Nat) t3)) (m' "newitem"=some (val v)) (And4 (p<ids.length) (ids'.length=ids.length) ((∀ i∈ids',i<n)) ((ids',p)=rr))
  refine whileN Jv2
    Jv3
    (fun E'=>?_) (ids.length - pos) ⟨h4,_,ids,pos,ids.length,_,_,_,_,rfl,F4,N4,rfl,rfl,rfl,rfl,rfl,rfl,by lia,rfl,hpos,rfl,hn,hsg⟩ ?_
  rotate_left
  · rintro s' ⟨h',tk,ids',p,t3,m',rfl,F',N',mh,ms,mp,mn,hp',hlen,hn',hres⟩
    rw [← hres] at hr
    refine wpAny_execs_cons (wpAny_Assign_Subscript (ld F' mn (ld F' mh (ld F' mp (setL F' N' upd1 (by lia) (by rw [List.length_map]; lia) (by lia) fun h5 F5 N5=>?_)))))
    rw [← List.map_set] at N5
    have kp:=hide_keeps (W:=[hp]) F5.keep (fun a ha=>by rw [List.mem_singleton.mp ha]; exact hideAll_none _ (.head _))
    refine wpAny_execs_cons (wpAny_Expr (callg T F5 (f:=73) (by kernel_rfl) (by kernel_rfl) (spliced_more (ld F5 mh (spliced_more (ld F5 ms (spliced_more (ld F5 mp (spliced_none ⟨(T.keeps F5.keep).X,
      siftdown_call (rm'.le (by lia)) (T.keeps kp) (N5 _ (.head _)).1 (set_lt hn' hvn) (by rw [List.length_set]; lia) (by rw [List.length_set]; lia) (fun prog w A E s Q i j r hi hj hk hq=>hc prog w A E s Q i j r hi hj (fun b o e=>hk b o (kp b o e)) hq) fun h6 tk6 e6 r6=>?_⟩)))))))))
    obtain ⟨F6,N6⟩:=back (W:=[(hp,_)]) (W':=[(hp,_)]) (rest:=[]) F5 N5 e6 (fun p hp=>by rw [List.mem_singleton.mp hp]; exact r6) (fun p hp=>by rw [List.mem_singleton.mp hp]; exact .inl (.head _)) (fun _ h=>nomatch h)
    refine wpAny_execs_nil (h h6 _ (ext_of_fr F6) ?_)
    rw [← hr]; exact r6
  rintro z s' ⟨h',tk,ids',p,fuel,t2,t3,t4,m',rfl,F',N',mh,ms,me,mp,mc,mn,hpf,rfl,hp',hlen,hn',hres⟩
  refine wpAny_isTrue_Compare1 (ld F' mc (ld F' me (wpAny_lt_int (wpAny_truthy_bool ?_))))
  by_cases hgt:2*p+1<ids.length
  · have e1:decide (((2*p+1:Nat):Int)<(ids.length:Int))=true:=decide_eq_true (by lia)
    rw [e1,if_pos rfl]
    obtain ⟨f,rfl⟩:∃ f,fuel=f+1:=⟨fuel - 1,by lia⟩
    unfold suGo at hres
    rw [if_pos hgt] at hres
    refine wpAny_execs_cons (wpAny_Assign_Name (wpAny_BinOp (ld F' mc (cint fun _ _=>(add_int fun _ _=>(st F' N' fun h5 _ F5 N5=>?_))))))
    have ec:(((2*p+1:Nat):Int)+1)=((2*p+2:Nat):Int):=by lia
    rw [ec] at F5
    let Jv4:Shared→Prop:=fun s'=>Ex5 fun (h6:Heap) (tk6:Nat) (m6:Str→Option Value) (c:Nat) (t6:Tok)=>And8 (s'=up s h6 tk6) (Fr (hideAll s.heap [hp]) L h6 m6) (News (hideAll s.heap [hp]) L h6 [(hp,listOf (ids'.map val).toArray k)]) (m6 "heap"=some (.ref hp)) (m6 "startpos"=some (.int pos t1)) (m6 "endpos"=some (.int (ids.length:Nat) t2)) (m6 "pos"=some (.int (p:Nat) t3)) (And5 (m6 "newitem"=some (val v)) (m6 "childpos"=some (.int (c:Nat) t6)) (p<c) (c<ids.length) (suGo lt ids.length f (ids'.set p (ids'.getD c 0)) c=rr))
    refine cutS Jv4 ?_ ?_
    · refine wpAny_If (wpAny_isTrue_BoolOp (wpAny_allTrue_And_cons (wpAny_isTrue_Compare1 (ld F5 rfl (ld F5 me (wpAny_lt_int (wpAny_truthy_bool ?_)))))))
      by_cases h2:2*p+2<ids.length
      · have e2:decide (((2*p+2:Nat):Int)<(ids.length:Int))=true:=decide_eq_true (by lia)
        rw [e2,if_pos rfl]
        refine wpAny_allTrue_And_cons (isTrue_not (wpAny_isTrue_Compare1 (Subscript_ (ld F5 mh (ld F5 mc (kim_list N5 (List.Mem.head _) rfl rfl (by lia) (by lia) (x:=val (ids'.getD (2*p+1) 0)) (map_getD (by lia)) (Subscript_ (ld F5 mh (ld F5 rfl (kim_list N5 (List.Mem.head _) rfl rfl (by lia) (by lia) (x:=val (ids'.getD (2*p+2) 0)) (map_getD (by lia))
          (hc _ _ _ _ _ _ _ _ (rm'.le (by lia)) (getD_mem hn' (by lia)) (getD_mem hn' (by lia)) F5.keep (wpAny_truthy_bool ?_)))))))))))) 
        cases hlt:lt (ids'.getD (2*p+1) 0) (ids'.getD (2*p+2) 0) with
        | true =>
          first | refine ifF (by simp) ?_ | rw [if_neg (by simp)]
          show if false=true then _ else _
          first | refine ifF (by simp) ?_ | rw [if_neg (by simp)]
          rw [if_neg (by rw [hlt]; simp)] at hres
          exact wpAny_execs_nil ⟨rfl,h5,_,_,2*p+1,_,rfl,F5,N5,mh,ms,me,mp,mn,mc,by lia,hgt,hres⟩
        | false =>
          first | refine ifT (by simp) ?_ | rw [if_pos (by simp)]
          refine wpAny_allTrue_And_nil ?_
          first | refine ifT rfl ?_ | rw [if_pos rfl]
          rw [if_pos ⟨h2,hlt⟩] at hres
          exact wpAny_execs_cons (wpAny_Assign_Name (ld F5 rfl (st F5 N5 fun h6 _ F6 N6=>wpAny_execs_nil ⟨rfl,h6,_,_,2*p+2,_,rfl,F6,N6,mh,ms,me,mp,mn,rfl,by lia,h2,hres⟩)))
      · have e2:decide (((2*p+2:Nat):Int)<(ids.length:Int))=false:=decide_eq_false (by lia)
        rw [e2,if_neg (by simp)]
        show if false=true then _ else _
        first | refine ifF (by simp) ?_ | rw [if_neg (by simp)]
        rw [if_neg (by intro q; exact h2 q.1)] at hres
        exact wpAny_execs_nil ⟨rfl,h5,_,_,2*p+1,_,rfl,F5,N5,mh,ms,me,mp,mn,mc,by lia,hgt,hres⟩
    rintro s' ⟨h6,tk6,m6,c,t6,rfl,F6,N6,mh6,ms6,me6,mp6,mn6,mc6,hpc,hcl,hres'⟩
    refine wpAny_execs_cons (wpAny_Assign_Subscript (Subscript_ (ld F6 mh6 (ld F6 mc6 (kim_list N6 (List.Mem.head _) rfl rfl (by lia) (by lia) (x:=val (ids'.getD c 0)) (map_getD (by lia)) (ld F6 mh6 (ld F6 mp6 (setL F6 N6 upd1 (by lia) (by rw [List.length_map]; lia) (by lia) fun h7 F7 N7=>?_))))))))
    refine wpAny_execs_cons (wpAny_Assign_Name (ld F7 mc6 (st F7 N7 fun h8 _ F8 N8=>?_)))
    refine wpAny_execs_cons (wpAny_Assign_Name (wpAny_BinOp (wpAny_BinOp (cint fun _ _=>(ld F8 rfl (mul_int fun _ _=>(cint fun _ _=>(add_int fun _ _=>(st F8 N8 fun h9 _ F9 N9=>?_)))))))))
    have ec:(2*(c:Int)+1)=((2*c+1:Nat):Int):=by lia
    rw [ec] at F9
    rw [← List.map_set] at N9
    exact wpAny_execs_nil ⟨ids.length - c,by lia,h9,_,_,c,f,_,_,_,_,rfl,F9,N9,mh6,ms6,me6,rfl,rfl,mn6,by lia,rfl,hcl,by rw [List.length_set]; exact hlen,set_lt hn' (getD_mem hn' (by lia)),hres'⟩
  · have e1:decide (((2*p+1:Nat):Int)<(ids.length:Int))=false:=decide_eq_false (by lia)
    rw [e1,if_neg (by simp)]
    refine ⟨h',tk,ids',p,t3,m',rfl,F',N',mh,ms,mp,mn,hp',hlen,hn',?_⟩
    cases fuel with
    | zero=>exact hres
    | succ f=>unfold suGo at hres; rw [if_neg hgt] at hres; exact hres
theorem al0:∀ d,P1 d:=epsAll ne0 P1 (by with_unfolding_all exact bd0)
end Zsiftup
end
section
variable {prog:Program} {w:World} {A:Around} {E:Value→Shared→Prop} {s:Shared}
theorem siftup_call {hp:Addr} {ids:List Nat} {n k pos:Nat} {t1:Tok} {val:Nat→Value} {lt:Nat→Nat→Bool} {Q:Value→Shared→Prop} (rm:Room A 4) (T:Wd w (hideAll s.heap [hp])) (hl:s.heap.get? hp=some (listOf (ids.map val).toArray k)) (hn:∀ i∈ids,i<n) (hpos:pos<ids.length) (hsz:ids.length<1000) (hc:Cmp (hideAll s.heap [hp]) n val lt) (h:∀ h' tk',Ext [hp] s.heap h'→h'.get? hp=some (listOf ((siftup lt ids pos).map val).toArray k)→Q .none (up s h' tk')):wpAny (model prog w) A (call (.ref 80) [.ref hp,.int pos t1]) Q E s:=by
  refine wpAny_call (enter (W:=[(hp,listOf (ids.map val).toArray k)]) (binds:=[(("heap":Str),.ref hp),(("pos":Str),.int pos t1)]) rm.le' (fn80 T.of_hide.X) T.of_hide.lim (cd80 T.of_hide.X) (by simpa using hl) rfl
    (BindsTo.of_eq (by kernel_rfl)) (by kernel_rfl) (by kernel_rfl) ?_ (by kernel_rfl) (by kernel_rfl) (by kernel_rfl))
  intro L h₀ tk₀ hL F N A₁ R₁ E₁ dA hret hnone
  exact Zsiftup.al0 (((((prog,w),A),(s,A₁)),((hp,ids),(n,k))),((((pos,t1),val),(lt,L)),((h₀,tk₀),(R₁,E₁)))) rm T hl hn hpos hsz hc (fun x0 x1 x2 x3=>hnone _ (h x0 x1 x2 x3)) hL F N dA
end
end
section
theorem back1 {g h h':Heap} {L D:Addr} {m:Str→Option Value} {o o':Obj} {rest:List (Addr×Obj)} (F:Fr g L h m) (N:News g L h ((D,o)::rest)) (e:Ext [D] h h') (r:h'.get? D=some o') (hsep:∀ p∈rest,p.1≠D) :
    Fr g L h' m∧News g L h' ((D,o')::rest) :=
  back (W:=[(D,o)]) (W':=[(D,o')]) F N e (fun p hp=>by rw [List.mem_singleton.mp hp]; exact r) (fun p hp=>by rw [List.mem_singleton.mp hp]; exact .inl (.head _)) (fun p hp q=>hsep p hp (List.mem_singleton.mp q))
theorem Cmp.keeps {g g':Heap} {n:Nat} {val:Nat→Value} {lt:Nat→Nat→Bool} (c:Cmp g n val lt) (hk:∀ b o,g.get? b=some o→g'.get? b=some o):Cmp g' n val lt :=
  fun prog w A E s Q i j r hi hj hk' hq=>c prog w A E s Q i j r hi hj (fun b o e=>hk' b o (hk b o e)) hq
theorem kp1 {h h':Heap} {L D:Addr} {m:Str→Option Value} (F:Fr (hideAll h [D]) L h' m):∀ b o,(hideAll h [D]).get? b=some o→(hideAll h' [D]).get? b=some o :=
  hide_keeps (W:=[D]) F.keep (fun a ha=>by rw [List.mem_singleton.mp ha]; exact hideAll_none _ (.head _))
theorem noMem {p:Addr×Obj} {P:Prop} (h:p∈([]:List (Addr×Obj))):P:=nomatch h
section
variable {prog:Program} {w:World} {A:Around} {E:Value→Shared→Prop} {s:Shared}
theorem siftdown_call' {hp:Addr} {ids:List Nat} {n k start pos:Nat} {z1 z2:Int} {t1 t2:Tok} {val:Nat→Value} {lt:Nat→Nat→Bool} {Q:Value→Shared→Prop}
    (h1:z1=(start:Int)) (h2:z2=(pos:Int)) (rm:Room A 2) (T:Wd w (hideAll s.heap [hp])) (hl:s.heap.get? hp=some (listOf (ids.map val).toArray k)) (hn:∀ i∈ids,i<n) (hpos:pos<ids.length) (hsz:ids.length<1000)
    (hc:Cmp (hideAll s.heap [hp]) n val lt)
    (h:∀ h' tk',Ext [hp] s.heap h'→h'.get? hp=some (listOf ((siftdown lt ids start pos).map val).toArray k)→Q .none (up s h' tk')) :
    wpAny (model prog w) A (call (.ref 73) [.ref hp,.int z1 t1,.int z2 t2]) Q E s:=by subst h1 h2; exact siftdown_call rm T hl hn hpos hsz hc h
theorem siftup_call' {hp:Addr} {ids:List Nat} {n k pos:Nat} {z:Int} {t1:Tok} {val:Nat→Value} {lt:Nat→Nat→Bool} {Q:Value→Shared→Prop}
    (h1:z=(pos:Int)) (rm:Room A 4) (T:Wd w (hideAll s.heap [hp])) (hl:s.heap.get? hp=some (listOf (ids.map val).toArray k)) (hn:∀ i∈ids,i<n) (hpos:pos<ids.length) (hsz:ids.length<1000)
    (hc:Cmp (hideAll s.heap [hp]) n val lt)
    (h:∀ h' tk',Ext [hp] s.heap h'→h'.get? hp=some (listOf ((siftup lt ids pos).map val).toArray k)→Q .none (up s h' tk')) :
    wpAny (model prog w) A (call (.ref 80) [.ref hp,.int z t1]) Q E s:=by subst h1; exact siftup_call rm T hl hn hpos hsz hc h
end
noncomputable section
namespace Zheappush
abbrev D0:=(((((Program)×(World))×(Around))×((Shared)×(Around)))×(((Addr)×(List Nat))×((Nat)×(Nat))))×((((Nat)×(Nat→Value))×((Nat→Nat→Bool)×(Addr)))×(((Heap)×(Nat))×((Flow→Shared→Prop)×(Value→Shared→Prop))))
abbrev P0 (prog:Program) (w:World) (A:Around) (s:Shared) (A₁:Around) (hp:Addr) (ids:List Nat) (n k i:Nat) (val:Nat→Value) (lt:Nat→Nat→Bool) (L:Addr) (h₀:Heap) (tk₀:Nat) (R₁:Flow→Shared→Prop) (E₁:Value→Shared→Prop):Prop:=∀ (rm:Room A 4) (T:Wd w (hideAll s.heap [hp])) (hl:s.heap.get? hp=some (listOf (ids.map val).toArray k)) (hn:∀ i∈ids,i<n) (hi:i<n) (hsz:ids.length<900) (hc:Cmp (hideAll s.heap [hp]) n val lt) (h:∀ h' tk',Ext [hp] s.heap h'→h'.get? hp=some (listOf ((siftdown lt (ids++[i]) 0 ids.length).map val).toArray (k+1))→R₁ .next (up s h' tk')) (hL:L=s.heap.objs.size) (F:Fr (hideAll s.heap (([(hp,listOf (ids.map val).toArray k)]:List (Addr×Obj)).map (·.1))) L h₀ (fun y9=>([(("heap":Str),.ref hp),(("item":Str),val i)]:List (Str×Value)).reverse.lookup y9)) (N:News (hideAll s.heap (([(hp,listOf (ids.map val).toArray k)]:List (Addr×Obj)).map (·.1))) L h₀ ([(hp,listOf (ids.map val).toArray k)])) (dA:Deeper A A₁ (callEnv (fd45 w) L 45)),wpAny (model prog w) A₁ (execs (stm (fd45 w)) (callEnv (fd45 w) L 45)) R₁ E₁ (up s h₀ tk₀)
abbrev P1 (d:D0):=P0 d.1.1.1.1.1 d.1.1.1.1.2 d.1.1.1.2 d.1.1.2.1 d.1.1.2.2 d.1.2.1.1 d.1.2.1.2 d.1.2.2.1 d.1.2.2.2 d.2.1.1.1 d.2.1.1.2 d.2.1.2.1 d.2.1.2.2 d.2.2.1.1 d.2.2.1.2 d.2.2.2.1 d.2.2.2.2
theorem ne0:Nonempty D0:=⟨(((((Challenge.pw_ny0293_01,Classical.choice neW),callerA),(Classical.choice neS,callerA)),default),default)⟩
@[irreducible] def d0:D0:=@Classical.epsilon D0 ne0 fun d=>¬ P1 d
def prog:=d0.1.1.1.1.1
def w:=d0.1.1.1.1.2
def A:=d0.1.1.1.2
def s:=d0.1.1.2.1
def A₁:=d0.1.1.2.2
def hp:=d0.1.2.1.1
def ids:=d0.1.2.1.2
def n:=d0.1.2.2.1
def k:=d0.1.2.2.2
def i:=d0.2.1.1.1
def val:=d0.2.1.1.2
def lt:=d0.2.1.2.1
def L:=d0.2.1.2.2
def h₀:=d0.2.2.1.1
def tk₀:=d0.2.2.1.2
def R₁:=d0.2.2.2.1
def E₁:=d0.2.2.2.2
theorem bd0:P0 prog w A s A₁ hp ids n k i val lt L h₀ tk₀ R₁ E₁:=by
  intro rm T hl hn hi hsz hc h hL F N dA
  refine with_stm (P:=fun b=>wpAny (model prog w) A₁ (execs b (callEnv (fd45 w) L 45)) R₁ E₁ (up s h₀ tk₀)) rfl ?_
  show wpAny _ _ (execs (_::_) _) _ _ _
  have rm':=dA.room rm
  change Fr (hideAll s.heap [hp]) L h₀ _ at F
  change News (hideAll s.heap [hp]) L h₀ _ at N
  refine wpAny_execs_cons (wpAny_Expr (methodCall_KW (ld F rfl (kl_method N (.head _) slot_list_append type_list_append (callWith_method1 (spliced_more (ld F rfl (spliced_none (appendL F N upd1 (by rw [List.length_map]; lia) fun h1 F1 N1=>?_)))))))))
  have e1:ids.map val++[val i]=(ids++[i]).map val:=by simp
  rw [e1] at N1
  refine wpAny_execs_cons<|wpAny_Expr<|callg T F1 (f:=73) (by kernel_rfl) (by kernel_rfl)<|spliced_more<|ld F1 rfl<|spliced_more<|cint fun _ _=>spliced_more<|wpAny_BinOp<|callb T F1 (by kernel_rfl)<|spliced_more<|ld F1 rfl<|spliced_none<|len_L N1 (.head _) (by simp; lia) fun _ _=>cint fun _ _=>sub_int fun _ _=>spliced_none
    ⟨(T.keeps F1.keep).X,siftdown_call' (start:=0) (pos:=ids.length) rfl (by simp) (rm'.le (by lia)) (T.keeps (kp1 F1)) (N1 _ (.head _)).1 (fun j hj=>?_) (by simp) (by simp; lia) (hc.keeps (kp1 F1)) fun h2 tk2 e2 r2=>?_⟩
  · rcases List.mem_append.mp hj with q | q
    · exact hn j q
    · rw [List.mem_singleton.mp q]; exact hi
  · obtain ⟨F2,N2⟩:=back1 F1 N1 e2 r2 (fun _ h=>noMem h)
    exact wpAny_execs_nil (h h2 _ (ext_of_fr F2) r2)
theorem al0:∀ d,P1 d:=epsAll ne0 P1 (by with_unfolding_all exact bd0)
end Zheappush
end
section
variable {prog:Program} {w:World} {A:Around} {E:Value→Shared→Prop} {s:Shared}
theorem heappush_call {hp:Addr} {ids:List Nat} {n k i:Nat} {val:Nat→Value} {lt:Nat→Nat→Bool} {Q:Value→Shared→Prop} (rm:Room A 4) (T:Wd w (hideAll s.heap [hp])) (hl:s.heap.get? hp=some (listOf (ids.map val).toArray k)) (hn:∀ i∈ids,i<n) (hi:i<n) (hsz:ids.length<900) (hc:Cmp (hideAll s.heap [hp]) n val lt) (h:∀ h' tk',Ext [hp] s.heap h'→h'.get? hp=some (listOf ((siftdown lt (ids++[i]) 0 ids.length).map val).toArray (k+1))→Q .none (up s h' tk')):wpAny (model prog w) A (call (.ref 45) [.ref hp,val i]) Q E s:=by
  refine wpAny_call (enter (W:=[(hp,listOf (ids.map val).toArray k)]) (binds:=[(("heap":Str),.ref hp),(("item":Str),val i)]) rm.le' (fn45 T.of_hide.X) T.of_hide.lim (cd45 T.of_hide.X) (by simpa using hl) rfl
    (BindsTo.of_eq (by kernel_rfl)) (by kernel_rfl) (by kernel_rfl) ?_ (by kernel_rfl) (by kernel_rfl) (by kernel_rfl))
  intro L h₀ tk₀ hL F N A₁ R₁ E₁ dA hret hnone
  exact Zheappush.al0 (((((prog,w),A),(s,A₁)),((hp,ids),(n,k))),(((i,val),(lt,L)),((h₀,tk₀),(R₁,E₁)))) rm T hl hn hi hsz hc (fun x0 x1 x2 x3=>hnone _ (h x0 x1 x2 x3)) hL F N dA
noncomputable def heappopF (lt:Nat→Nat→Bool) (init:List Nat) (last:Nat):Nat×List Nat:=if init=[] then (last,[]) else (init.getD 0 0,siftup lt (init.set 0 last) 0)
end
noncomputable section
namespace Zheappop
abbrev D0:=((((Program)×(World))×((Around)×(Shared)))×(((Around)×(Addr))×((Nat)×(Nat))))×((((Nat)×(Nat→Value))×((Nat→Nat→Bool)×(Addr)))×(((Heap)×(Nat))×((Flow→Shared→Prop)×(Value→Shared→Prop))))
abbrev P0 (prog:Program) (w:World) (A:Around) (s:Shared) (A₁:Around) (hp:Addr) (last n k:Nat) (val:Nat→Value) (lt:Nat→Nat→Bool) (L:Addr) (h₀:Heap) (tk₀:Nat) (R₁:Flow→Shared→Prop) (E₁:Value→Shared→Prop):Prop:=∀ (init:List Nat) (rm:Room A 6) (T:Wd w (hideAll s.heap [hp])) (hl:s.heap.get? hp=some (listOf ((init++[last]).map val).toArray k)) (hn:∀ i∈init++[last],i<n) (hsz:init.length<900) (hc:Cmp (hideAll s.heap [hp]) n val lt) (h:∀ h' tk',Ext [hp] s.heap h'→h'.get? hp=some (listOf ((heappopF lt init last).2.map val).toArray (k+1))→R₁ (.ret (val (heappopF lt init last).1)) (up s h' tk')) (hL:L=s.heap.objs.size) (F:Fr (hideAll s.heap (([(hp,listOf ((init++[last]).map val).toArray k)]:List (Addr×Obj)).map (·.1))) L h₀ (fun y9=>([(("heap":Str),.ref hp)]:List (Str×Value)).reverse.lookup y9)) (N:News (hideAll s.heap (([(hp,listOf ((init++[last]).map val).toArray k)]:List (Addr×Obj)).map (·.1))) L h₀ ([(hp,listOf ((init++[last]).map val).toArray k)])) (dA:Deeper A A₁ (callEnv (fd52 w) L 52)),wpAny (model prog w) A₁ (execs (stm (fd52 w)) (callEnv (fd52 w) L 52)) R₁ E₁ (up s h₀ tk₀)
abbrev P1 (d:D0):=P0 d.1.1.1.1 d.1.1.1.2 d.1.1.2.1 d.1.1.2.2 d.1.2.1.1 d.1.2.1.2 d.1.2.2.1 d.1.2.2.2 d.2.1.1.1 d.2.1.1.2 d.2.1.2.1 d.2.1.2.2 d.2.2.1.1 d.2.2.1.2 d.2.2.2.1 d.2.2.2.2
theorem ne0:Nonempty D0:=⟨((((Challenge.pw_ny0293_01,Classical.choice neW),(callerA,Classical.choice neS)),((callerA,default),default)),default)⟩
@[irreducible] def d0:D0:=@Classical.epsilon D0 ne0 fun d=>¬ P1 d
def prog:=d0.1.1.1.1
def w:=d0.1.1.1.2
def A:=d0.1.1.2.1
def s:=d0.1.1.2.2
def A₁:=d0.1.2.1.1
def hp:=d0.1.2.1.2
def last:=d0.1.2.2.1
def n:=d0.1.2.2.2
def k:=d0.2.1.1.1
def val:=d0.2.1.1.2
def lt:=d0.2.1.2.1
def L:=d0.2.1.2.2
def h₀:=d0.2.2.1.1
def tk₀:=d0.2.2.1.2
def R₁:=d0.2.2.2.1
def E₁:=d0.2.2.2.2
theorem bd0:P0 prog w A s A₁ hp last n k val lt L h₀ tk₀ R₁ E₁:=by
  intro init rm T hl hn hsz hc h hL F N dA
  refine with_stm (P:=fun b=>wpAny (model prog w) A₁ (execs b (callEnv (fd52 w) L 52)) R₁ E₁ (up s h₀ tk₀)) rfl ?_
  show wpAny _ _ (execs (_::_) _) _ _ _
  have rm':=dA.room rm
  change Fr (hideAll s.heap [hp]) L h₀ _ at F
  change News (hideAll s.heap [hp]) L h₀ _ at N
  have e0:(init++[last]).map val=init.map val++[val last]:=by simp
  rw [e0] at N
  refine wpAny_execs_cons<|wpAny_Assign_Name<|methodCall_KW<|ld F rfl<|kl_method N (.head _) PySem.F.slot_list_pop PySem.F.type_list_pop<|callWith_method0<|popL F N upd1 (by rw [List.length_map]; lia) fun h1 F1 N1=>st F1 N1 fun h2 _ F2 N2=>?_
  refine wpAny_execs_cons<|wpAny_If<|wpAny_isTrue_value<|ld F2 rfl<|truthyL N2 (.head _) (by rw [List.length_map]; lia) fun _=>?_
  by_cases hin:init=[]
  · subst hin
    first | refine ifF (by simp) ?_ | rw [if_neg (by simp)]
    refine wpAny_execs_nil<|wpAny_execs_cons<|wpAny_Return_some<|ld F2 rfl ?_
    exact h h2 _ (ext_of_fr F2) (N2 _ (.head _)).1
  · have e1:(!(init.map val).isEmpty)=true:=by simp [hin]
    rw [e1,if_pos rfl]
    have hpos:0<init.length:=List.length_pos_iff.mpr hin
    have hn1:∀ i∈init,i<n:=fun i hi=>hn i (List.mem_append_left _ hi)
    have hn2:last<n:=hn last (by simp)
    refine wpAny_execs_cons<|wpAny_Assign_Name<|Subscript_<|ld F2 rfl<|cint fun _ _=>kim_list N2 (.head _) rfl rfl (by lia) (by lia) (x:=val (init.getD 0 0)) (map_getD hpos)<|st F2 N2 fun h3 _ F3 N3=>?_
    refine wpAny_execs_cons<|wpAny_Assign_Subscript<|ld F3 rfl<|ld F3 rfl<|cint fun _ _=>setL F3 N3 upd1 (by lia) (by rw [List.length_map]; lia) (by lia) fun h4 F4 N4=>?_
    have e2:(init.map val).set (Int.toNat 0) (val last)=(init.set 0 last).map val:=by rw [List.map_set]; rfl
    rw [e2] at N4
    refine wpAny_execs_cons<|wpAny_Expr<|callg T F4 (f:=80) (by kernel_rfl) (by kernel_rfl)<|spliced_more<|ld F4 rfl<|spliced_more<|cint fun _ _=>spliced_none
      ⟨(T.keeps F4.keep).X,siftup_call' (pos:=0) rfl (rm'.le (by lia)) (T.keeps (kp1 F4)) (N4 _ (.head _)).1 (set_lt hn1 hn2) (by rw [List.length_set]; exact hpos) (by rw [List.length_set]; lia) (hc.keeps (kp1 F4)) fun h5 tk5 e5 r5=>?_⟩
    obtain ⟨F5,N5⟩:=back1 F4 N4 e5 r5 (fun _ h=>noMem h)
    unfold heappopF at h
    rw [if_neg hin] at h
    exact wpAny_execs_cons<|wpAny_Return_some<|ld F5 rfl<|h h5 _ (ext_of_fr F5) r5
theorem al0:∀ d,P1 d:=epsAll ne0 P1 (by with_unfolding_all exact bd0)
end Zheappop
end
section
variable {prog:Program} {w:World} {A:Around} {E:Value→Shared→Prop} {s:Shared}
theorem heappop_call {hp:Addr} {init:List Nat} {last n k:Nat} {val:Nat→Value} {lt:Nat→Nat→Bool} {Q:Value→Shared→Prop} (rm:Room A 6) (T:Wd w (hideAll s.heap [hp])) (hl:s.heap.get? hp=some (listOf ((init++[last]).map val).toArray k)) (hn:∀ i∈init++[last],i<n) (hsz:init.length<900) (hc:Cmp (hideAll s.heap [hp]) n val lt) (h:∀ h' tk',Ext [hp] s.heap h'→h'.get? hp=some (listOf ((heappopF lt init last).2.map val).toArray (k+1))→Q (val (heappopF lt init last).1) (up s h' tk')):wpAny (model prog w) A (call (.ref 52) [.ref hp]) Q E s:=by
  refine wpAny_call (enter (W:=[(hp,listOf ((init++[last]).map val).toArray k)]) (binds:=[(("heap":Str),.ref hp)]) rm.le' (fn52 T.of_hide.X) T.of_hide.lim (cd52 T.of_hide.X) (by simpa using hl) rfl
    (BindsTo.of_eq (by kernel_rfl)) (by kernel_rfl) (by kernel_rfl) ?_ (by kernel_rfl) (by kernel_rfl) (by kernel_rfl))
  intro L h₀ tk₀ hL F N A₁ R₁ E₁ dA hret hnone
  exact Zheappop.al0 ((((prog,w),(A,s)),((A₁,hp),(last,n))),(((k,val),(lt,L)),((h₀,tk₀),(R₁,E₁)))) init rm T hl hn hsz hc (fun x0 x1 x2 x3=>hret _ _ (h x0 x1 x2 x3)) hL F N dA
noncomputable def heappushpopF (lt:Nat→Nat→Bool) (ids:List Nat) (i:Nat):Nat×List Nat:=if ids≠[]∧lt (ids.getD 0 0) i=true then (ids.getD 0 0,siftup lt (ids.set 0 i) 0) else (i,ids)
end
noncomputable section
namespace Zheappushpop
abbrev D0:=((((Program)×(World))×((Around)×(Shared)))×(((Around)×(Addr))×((Nat)×(Nat))))×((((Nat)×(Nat→Value))×((Nat→Nat→Bool)×(Addr)))×(((Heap)×(Nat))×((Flow→Shared→Prop)×(Value→Shared→Prop))))
abbrev P0 (prog:Program) (w:World) (A:Around) (s:Shared) (A₁:Around) (hp:Addr) (n k i:Nat) (val:Nat→Value) (lt:Nat→Nat→Bool) (L:Addr) (h₀:Heap) (tk₀:Nat) (R₁:Flow→Shared→Prop) (E₁:Value→Shared→Prop):Prop:=∀ (ids:List Nat) (rm:Room A 6) (T:Wd w (hideAll s.heap [hp])) (hl:s.heap.get? hp=some (listOf (ids.map val).toArray k)) (hn:∀ i∈ids,i<n) (hi:i<n) (hsz:ids.length<900) (hc:Cmp (hideAll s.heap [hp]) n val lt) (h:∀ h' tk',Ext [hp] s.heap h'→h'.get? hp=some (listOf ((heappushpopF lt ids i).2.map val).toArray k)→R₁ (.ret (val (heappushpopF lt ids i).1)) (up s h' tk')) (hL:L=s.heap.objs.size) (F:Fr (hideAll s.heap (([(hp,listOf (ids.map val).toArray k)]:List (Addr×Obj)).map (·.1))) L h₀ (fun y9=>([(("heap":Str),.ref hp),(("item":Str),val i)]:List (Str×Value)).reverse.lookup y9)) (N:News (hideAll s.heap (([(hp,listOf (ids.map val).toArray k)]:List (Addr×Obj)).map (·.1))) L h₀ ([(hp,listOf (ids.map val).toArray k)])) (dA:Deeper A A₁ (callEnv (fd59 w) L 59)),wpAny (model prog w) A₁ (execs (stm (fd59 w)) (callEnv (fd59 w) L 59)) R₁ E₁ (up s h₀ tk₀)
abbrev P1 (d:D0):=P0 d.1.1.1.1 d.1.1.1.2 d.1.1.2.1 d.1.1.2.2 d.1.2.1.1 d.1.2.1.2 d.1.2.2.1 d.1.2.2.2 d.2.1.1.1 d.2.1.1.2 d.2.1.2.1 d.2.1.2.2 d.2.2.1.1 d.2.2.1.2 d.2.2.2.1 d.2.2.2.2
theorem ne0:Nonempty D0:=⟨((((Challenge.pw_ny0293_01,Classical.choice neW),(callerA,Classical.choice neS)),((callerA,default),default)),default)⟩
@[irreducible] def d0:D0:=@Classical.epsilon D0 ne0 fun d=>¬ P1 d
def prog:=d0.1.1.1.1
def w:=d0.1.1.1.2
def A:=d0.1.1.2.1
def s:=d0.1.1.2.2
def A₁:=d0.1.2.1.1
def hp:=d0.1.2.1.2
def n:=d0.1.2.2.1
def k:=d0.1.2.2.2
def i:=d0.2.1.1.1
def val:=d0.2.1.1.2
def lt:=d0.2.1.2.1
def L:=d0.2.1.2.2
def h₀:=d0.2.2.1.1
def tk₀:=d0.2.2.1.2
def R₁:=d0.2.2.2.1
def E₁:=d0.2.2.2.2
theorem bd0:P0 prog w A s A₁ hp n k i val lt L h₀ tk₀ R₁ E₁:=by
  intro ids rm T hl hn hi hsz hc h hL F N dA
  refine with_stm (P:=fun b=>wpAny (model prog w) A₁ (execs b (callEnv (fd59 w) L 59)) R₁ E₁ (up s h₀ tk₀)) rfl ?_
  show wpAny _ _ (execs (_::_) _) _ _ _
  have rm':=dA.room rm
  change Fr (hideAll s.heap [hp]) L h₀ _ at F
  change News (hideAll s.heap [hp]) L h₀ _ at N
  refine wpAny_execs_cons<|wpAny_If<|wpAny_isTrue_BoolOp<|wpAny_allTrue_And_cons<|wpAny_isTrue_value<|ld F rfl<|truthyL N (.head _) (by rw [List.length_map]; lia) fun _=>?_
  by_cases hin:ids=[]
  · subst hin
    show if false=true then _ else _
    first | refine ifF (by simp) ?_ | rw [if_neg (by simp)]
    show if false=true then _ else _
    first | refine ifF (by simp) ?_ | rw [if_neg (by simp)]
    refine wpAny_execs_nil<|wpAny_execs_cons<|wpAny_Return_some<|ld F rfl ?_
    unfold heappushpopF at h
    rw [if_neg (by simp)] at h
    exact h h₀ _ (ext_of_fr F) (N _ (.head _)).1
  · have e1:(!(ids.map val).isEmpty)=true:=by simp [hin]
    rw [e1,if_pos rfl]
    have hpos:0<ids.length:=List.length_pos_iff.mpr hin
    refine wpAny_allTrue_And_cons<|wpAny_isTrue_Compare1<|Subscript_<|ld F rfl<|cint fun _ _=>kim_list N (.head _) rfl rfl (by lia) (by lia) (x:=val (ids.getD 0 0)) (map_getD hpos)<|ld F rfl<|hc _ _ _ _ _ _ _ _ (rm'.le (by lia)) (getD_mem hn hpos) hi F.keep<|wpAny_truthy_bool ?_
    unfold heappushpopF at h
    cases hlt:lt (ids.getD 0 0) i with
    | false =>
      first | refine ifF (by simp) ?_ | rw [if_neg (by simp)]
      show if false=true then _ else _
      first | refine ifF (by simp) ?_ | rw [if_neg (by simp)]
      rw [if_neg (by rw [hlt]; simp)] at h
      exact wpAny_execs_nil<|wpAny_execs_cons<|wpAny_Return_some<|ld F rfl<|h h₀ _ (ext_of_fr F) (N _ (.head _)).1
    | true =>
      first | refine ifT rfl ?_ | rw [if_pos rfl]
      refine wpAny_allTrue_And_nil ?_
      first | refine ifT rfl ?_ | rw [if_pos rfl]
      rw [if_pos ⟨hin,hlt⟩] at h
      refine wpAny_execs_cons<|Assign_Tuple<|Tuple_<|spliced_more<|Subscript_<|ld F rfl<|cint fun _ _=>kim_list N (.head _) rfl rfl (by lia) (by lia) (x:=val (ids.getD 0 0)) (map_getD hpos)<|spliced_more<|ld F rfl<|spliced_none<|newTup F N fun t h1 F1 N1 lt1=>assT rm'.handled F1 N1 (.head _) rfl fun h2 F2 N2=>?_
      refine wpAny_assignInOrder_more<|wpAny_assign_Name<|st F2 N2 fun h3 _ F3 N3=>wpAny_assignInOrder_more<|kas_sub<|ld F3 rfl<|cint fun _ _=>setL F3 (fun p hp=>N3 p (.tail _ hp)) upd1 (by lia) (by rw [List.length_map]; lia) (by lia) fun h4 F4 N4=>wpAny_assignInOrder_none ?_
      have e2:(ids.map val).set (Int.toNat 0) (val i)=(ids.set 0 i).map val:=by rw [List.map_set]; rfl
      rw [e2] at N4
      refine wpAny_execs_cons<|wpAny_Expr<|callg T F4 (f:=80) (by kernel_rfl) (by kernel_rfl)<|spliced_more<|ld F4 rfl<|spliced_more<|cint fun _ _=>spliced_none
        ⟨(T.keeps F4.keep).X,siftup_call' (pos:=0) rfl (rm'.le (by lia)) (T.keeps (kp1 F4)) (N4 _ (.head _)).1 (set_lt hn hi) (by rw [List.length_set]; exact hpos) (by rw [List.length_set]; lia) (hc.keeps (kp1 F4)) fun h5 tk5 e5 r5=>?_⟩
      obtain ⟨F5,N5⟩:=back1 F4 N4 e5 r5 (fun _ h=>noMem h)
      exact wpAny_execs_nil<|wpAny_execs_cons<|wpAny_Return_some<|ld F5 rfl<|h h5 _ (ext_of_fr F5) r5
theorem al0:∀ d,P1 d:=epsAll ne0 P1 (by with_unfolding_all exact bd0)
end Zheappushpop
end
section
variable {prog:Program} {w:World} {A:Around} {E:Value→Shared→Prop} {s:Shared}
theorem heappushpop_call {hp:Addr} {ids:List Nat} {n k i:Nat} {val:Nat→Value} {lt:Nat→Nat→Bool} {Q:Value→Shared→Prop} (rm:Room A 6) (T:Wd w (hideAll s.heap [hp])) (hl:s.heap.get? hp=some (listOf (ids.map val).toArray k)) (hn:∀ i∈ids,i<n) (hi:i<n) (hsz:ids.length<900) (hc:Cmp (hideAll s.heap [hp]) n val lt) (h:∀ h' tk',Ext [hp] s.heap h'→h'.get? hp=some (listOf ((heappushpopF lt ids i).2.map val).toArray k)→Q (val (heappushpopF lt ids i).1) (up s h' tk')):wpAny (model prog w) A (call (.ref 59) [.ref hp,val i]) Q E s:=by
  refine wpAny_call (enter (W:=[(hp,listOf (ids.map val).toArray k)]) (binds:=[(("heap":Str),.ref hp),(("item":Str),val i)]) rm.le' (fn59 T.of_hide.X) T.of_hide.lim (cd59 T.of_hide.X) (by simpa using hl) rfl
    (BindsTo.of_eq (by kernel_rfl)) (by kernel_rfl) (by kernel_rfl) ?_ (by kernel_rfl) (by kernel_rfl) (by kernel_rfl))
  intro L h₀ tk₀ hL F N A₁ R₁ E₁ dA hret hnone
  exact Zheappushpop.al0 ((((prog,w),(A,s)),((A₁,hp),(n,k))),(((i,val),(lt,L)),((h₀,tk₀),(R₁,E₁)))) ids rm T hl hn hi hsz hc (fun x0 x1 x2 x3=>hret _ _ (h x0 x1 x2 x3)) hL F N dA
end
end
section
theorem sub_ri_reversed:isSubtype (.type "range_iterator") (.type "reversed")=pure false:=by rw [isSubtype_type]; kernel_rfl
section
variable {prog:Program} {w:World} {A:Around} {E:Value→Shared→Prop} {s:Shared}
theorem call_range_reversed {r:Addr} {b:Int} {t u v:Tok} {Q:Value→Shared→Prop} (hr:IsRange s.heap r 0 b 1 t u v) (h0:0≤b) (hb:b<1000)
    (h:Q (.ref s.heap.objs.size) { s with heap:=s.heap.push { cls:=.type "range_iterator",data:=.fields #[rawInt (b - 1),rawInt b,rawInt (-1)] } }):wpAny (model prog w) A (call (.builtin "range.__reversed__") [.ref r]) Q E s:=by
  have hT:s.TypeIs (.ref r) "range":=⟨_,hr,rfl⟩
  refine wpAny_call_entry F.slot_range_reversed hT F.entry_range_reversed ?_ (F.args_range_reversed_1 _)
  unfold Builtin.«range.__reversed__»
  refine wpAny_bind (wpAny_of_eq (a:=Value.ref r) rfl ?_)
  refine wpAny_bind ?_
  unfold Builtin.Range.rangeFields
  refine wpAny_bind<|wpAny_field hr rfl (x:=.int 0 t) rfl<|wpAny_bind<|wpAny_of_eq (a:=some (0:Int)) rfl<|wpAny_bind<|wpAny_field hr rfl (x:=.int b u) rfl<|wpAny_bind<|wpAny_of_eq (a:=some b) rfl<|wpAny_bind<|wpAny_field hr rfl (x:=.int 1 v) rfl<|wpAny_bind<|wpAny_of_eq (a:=some (1:Int)) rfl<|wpAny_pure ?_
  have hn:Builtin.Range.rangeSize 0 b 1=b:=by
    unfold Builtin.Range.rangeSize
    rw [if_pos (by lia)]
    split <;> lia
  have e1:(Builtin.Range.rangeFitsLong 0 && Builtin.Range.rangeFitsLong b && Builtin.Range.rangeFitsLong 1 && Builtin.Range.rangeFitsLong (-1) && Builtin.Range.rangeFitsLong (0 - 1) && Builtin.Range.rangeFitsLong b)=true:=by
    have hb':Builtin.Range.rangeFitsLong b=true:=by unfold Builtin.Range.rangeFitsLong; simp; lia
    rw [hb']; decide
  dsimp only
  rw [hn,e1]
  rw [if_neg (by simp),if_pos rfl]
  have e2:(0:Int)+(b - 1)*1=b - 1:=by lia
  rw [e2]
  exact wpAny_bind (wpAny_newObj_type (wpAny_pure ⟨_,rfl,h⟩))
theorem code_reversed_newR {r:Addr} {b:Int} {t u v:Tok} {Q₁:Value→Shared→Prop} (hr:IsRange s.heap r 0 b 1 t u v) (h0:0≤b) (hb:b<1000)
    (h:Q₁ (.ref s.heap.objs.size) { s with heap:=s.heap.push { cls:=.type "range_iterator",data:=.fields #[rawInt (b - 1),rawInt b,rawInt (-1)] } }) :
    codeAny (model prog w) A (.call (.builtin "reversed.__new__") ⟨[.type "reversed",.ref r],[]⟩) (wants Q₁ E) s:=by
  have hT:s.TypeIs (.ref r) "range":=⟨_,hr,rfl⟩
  refine codeAny_of_tree ?_
  show wpAny _ A.in1 (do checkBuiltinCall "reversed.__new__" ⟨[.type "reversed",.ref r],[]⟩; again (.builtin "reversed.__new__" ⟨[.type "reversed",.ref r],[]⟩)) _ _ s
  refine wpAny_bind (wpAny_of_eq (F.newCall_reversed_1 _) (wpAny_pure ⟨plainId_quiet F.plain_reversed_new _,codeAny_builtin F.entry_reversed_new ?_⟩))
  rw [Around.under_plainId F.plain_reversed_new _]
  unfold Builtin.«reversed.__new__»
  refine wpAny_bind (wpAny_of_eq (newClass_reversed _) ?_)
  refine wpAny_bind (wpAny_of_eq (a:=()) (by first | rfl | kernel_rfl) ?_)
  refine wpAny_bind (wpAny_of_eq (a:=()) (by first | rfl | kernel_rfl) ?_)
  refine wpAny_bind (wpAny_specialOf hT F.slot_range_reversed.lookup ?_)
  try dsimp only
  refine wpAny_bind (wpAny_of_eq (F.slot_range_reversed.bind _) ?_)
  try dsimp only
  rw [if_neg (show ¬ ((Value.builtin "range.__reversed__"==Value.none)=true) from Bool.false_ne_true)]
  refine wpAny_bind (wpAny_rule ?_)
  refine wpAny_bind (m:=runValue (.call (.builtin "range.__reversed__") ⟨[.ref r],[]⟩)) (show wpAny _ _ (call (.builtin "range.__reversed__") [.ref r]) _ _ _ from call_range_reversed hr h0 hb ?_)
  first
  | exact wpAny_pure h
  | exact wpAny_bind (wpAny_pure (wpAny_pure h))
theorem call_reversedR {r:Addr} {b:Int} {t u v:Tok} {Q:Value→Shared→Prop} (hr:IsRange s.heap r 0 b 1 t u v) (h0:0≤b) (hb:b<1000)
    (h:Q (.ref s.heap.objs.size) (up s (s.heap.push { cls:=.type "range_iterator",data:=.fields #[rawInt (b - 1),rawInt b,rawInt (-1)] }) s.toks)):wpAny (model prog w) A (call (.type "reversed") [.ref r]) Q E s:=by
  refine callType_other (U:="range_iterator") (Q₁:=fun obj s₁=>obj=.ref s.heap.objs.size∧s₁={ s with heap:=s.heap.push { cls:=.type "range_iterator",data:=.fields #[rawInt (b - 1),rawInt b,rawInt (-1)] } }) (by decide +kernel) F.create_reversed ⟨_,_,F.mro_reversed⟩ F.made_reversed sub_ri_reversed (F.typeCall_reversed_1 _) (code_reversed_newR hr h0 hb ⟨rfl,rfl⟩) ?_
  rintro obj s₁ ⟨rfl,rfl⟩
  exact ⟨⟨_,Heap.get?_push_size _ rfl,rfl⟩,h⟩
end
end
section
theorem sdGo_length (lt:Nat→Nat→Bool) (v start:Nat):∀ f ids pos,(sdGo lt v start f ids pos).length=ids.length
  | 0,ids,pos=>by unfold sdGo; simp
  | f+1,ids,pos=>by
    unfold sdGo
    split
    · split
      · rw [sdGo_length lt v start f]; simp
      · simp
    · simp
theorem siftdown_length (lt:Nat→Nat→Bool) (ids:List Nat) (start pos:Nat):(siftdown lt ids start pos).length=ids.length:=sdGo_length ..
theorem sdGo_lt {lt:Nat→Nat→Bool} {v start n:Nat} (hv:v<n):∀ f ids pos,pos<ids.length→(∀ i∈ids,i<n)→∀ i∈sdGo lt v start f ids pos,i<n
  | 0,ids,pos,_,hn=>by unfold sdGo; exact set_lt hn hv
  | f+1,ids,pos,hp,hn=>by
    unfold sdGo
    split
    · split
      · exact sdGo_lt hv f _ _ (by rw [List.length_set]; lia) (set_lt hn (getD_mem hn (by lia)))
      · exact set_lt hn hv
    · exact set_lt hn hv
theorem siftdown_lt {lt:Nat→Nat→Bool} {ids:List Nat} {start pos n:Nat} (hp:pos<ids.length) (hn:∀ i∈ids,i<n):∀ i∈siftdown lt ids start pos,i<n:=sdGo_lt (getD_mem hn hp) _ _ _ hp hn
theorem suGo_inv {lt : Nat → Nat → Bool} {e n : Nat} : ∀ f ids pos, ids.length = e → pos < e → (∀ i ∈ ids, i < n) → (suGo lt e f ids pos).1.length = e ∧ (suGo lt e f ids pos).2 < e ∧ ∀ i ∈ (suGo lt e f ids pos).1, i < n
  | 0,ids,pos,hl,hp,hn=>by unfold suGo; exact ⟨hl,hp,hn⟩
  | f + 1, ids, pos, hl, hp, hn => by
    unfold suGo
    split
    · split
      · rename_i h1 h2
        exact suGo_inv f _ _ (by rw [List.length_set]; exact hl) h2.1 (set_lt hn (getD_mem hn (by lia)))
      · exact suGo_inv f _ _ (by rw [List.length_set]; exact hl) (by lia) (set_lt hn (getD_mem hn (by lia)))
    · exact ⟨hl,hp,hn⟩
theorem siftup_length {lt:Nat→Nat→Bool} {ids:List Nat} {pos:Nat} (hp:pos<ids.length):(siftup lt ids pos).length=ids.length:=by
  unfold siftup
  rw [siftdown_length,List.length_set]
  exact (suGo_inv (n:=ids.foldl max 0+1) ids.length ids pos rfl hp (fun i hi=>by
    have : ∀ (l : List Nat) (a : Nat), a ≤ l.foldl max a ∧ ∀ j ∈ l, j ≤ l.foldl max a := fun l => by
      induction l with
      | nil=>intro a; exact ⟨Nat.le_refl _,fun _ h=>nomatch h⟩
      | cons x r ih => intro a; have := ih (max a x); refine ⟨by have := this.1; simp only [List.foldl_cons]; lia, fun j hj => ?_⟩
                       rcases List.mem_cons.mp hj with rfl | hj
                       · have:=this.1; simp only [List.foldl_cons]; lia
                       · exact this.2 j hj
    have:=(this ids 0).2 i hi; lia)).1
theorem siftup_lt {lt:Nat→Nat→Bool} {ids:List Nat} {pos n:Nat} (hp:pos<ids.length) (hn:∀ i∈ids,i<n):∀ i∈siftup lt ids pos,i<n:=by
  have:=suGo_inv (lt:=lt) (n:=n) ids.length ids pos rfl hp hn
  unfold siftup
  exact siftdown_lt (by rw [List.length_set,this.1]; exact this.2.1) (set_lt this.2.2 (getD_mem hn hp))
noncomputable def heapifyGo (lt:Nat→Nat→Bool) (ids:List Nat) (hf:Nat):Nat→List Nat
  | 0=>ids
  | i+1=>siftup lt (heapifyGo lt ids hf i) (hf - 1 - i)
noncomputable def heapify (lt:Nat→Nat→Bool) (ids:List Nat):List Nat:=heapifyGo lt ids (ids.length / 2) (ids.length / 2)
theorem heapifyGo_inv {lt:Nat→Nat→Bool} {ids:List Nat} {hf n:Nat} (hh:2*hf≤ids.length) (hn:∀ i∈ids,i<n):∀ i,i≤hf→(heapifyGo lt ids hf i).length=ids.length∧∀ j∈heapifyGo lt ids hf i,j<n
  | 0,_=>⟨rfl,hn⟩
  | i+1,hi=>by
    have:=heapifyGo_inv (lt:=lt) hh hn i (by lia)
    unfold heapifyGo
    exact ⟨by rw [siftup_length (by rw [this.1]; lia)]; exact this.1,siftup_lt (by rw [this.1]; lia) this.2⟩
section
variable {prog:Program} {w:World} {A:Around} {E:Value→Shared→Prop} {s:Shared}
end
noncomputable section
namespace Zheapify
abbrev D0:=((((Program)×(World))×((Around)×(Shared)))×(((Around)×(Addr))×((List Nat)×(Nat))))×((((Nat)×(Nat→Value))×((Nat→Nat→Bool)×(Addr)))×(((Heap)×(Nat))×((Flow→Shared→Prop)×(Value→Shared→Prop))))
abbrev P0 (prog:Program) (w:World) (A:Around) (s:Shared) (A₁:Around) (hp:Addr) (ids:List Nat) (n k:Nat) (val:Nat→Value) (lt:Nat→Nat→Bool) (L:Addr) (h₀:Heap) (tk₀:Nat) (R₁:Flow→Shared→Prop) (E₁:Value→Shared→Prop):Prop:=∀ (rm:Room A 6) (T:Wd w (hideAll s.heap [hp])) (hl:s.heap.get? hp=some (listOf (ids.map val).toArray k)) (hn:∀ i∈ids,i<n) (hsz:ids.length<900) (hc:Cmp (hideAll s.heap [hp]) n val lt) (h:∀ h' tk',Ext [hp] s.heap h'→h'.get? hp=some (listOf ((heapify lt ids).map val).toArray k)→R₁ .next (up s h' tk')) (hL:L=s.heap.objs.size) (F:Fr (hideAll s.heap (([(hp,listOf (ids.map val).toArray k)]:List (Addr×Obj)).map (·.1))) L h₀ (fun y9=>([(("x":Str),.ref hp)]:List (Str×Value)).reverse.lookup y9)) (N:News (hideAll s.heap (([(hp,listOf (ids.map val).toArray k)]:List (Addr×Obj)).map (·.1))) L h₀ ([(hp,listOf (ids.map val).toArray k)])) (dA:Deeper A A₁ (callEnv (fd66 w) L 66)),wpAny (model prog w) A₁ (execs (stm (fd66 w)) (callEnv (fd66 w) L 66)) R₁ E₁ (up s h₀ tk₀)
abbrev P1 (d:D0):=P0 d.1.1.1.1 d.1.1.1.2 d.1.1.2.1 d.1.1.2.2 d.1.2.1.1 d.1.2.1.2 d.1.2.2.1 d.1.2.2.2 d.2.1.1.1 d.2.1.1.2 d.2.1.2.1 d.2.1.2.2 d.2.2.1.1 d.2.2.1.2 d.2.2.2.1 d.2.2.2.2
theorem ne0:Nonempty D0:=⟨((((Challenge.pw_ny0293_01,Classical.choice neW),(callerA,Classical.choice neS)),((callerA,default),default)),default)⟩
@[irreducible] def d0:D0:=@Classical.epsilon D0 ne0 fun d=>¬ P1 d
def prog:=d0.1.1.1.1
def w:=d0.1.1.1.2
def A:=d0.1.1.2.1
def s:=d0.1.1.2.2
def A₁:=d0.1.2.1.1
def hp:=d0.1.2.1.2
def ids:=d0.1.2.2.1
def n:=d0.1.2.2.2
def k:=d0.2.1.1.1
def val:=d0.2.1.1.2
def lt:=d0.2.1.2.1
def L:=d0.2.1.2.2
def h₀:=d0.2.2.1.1
def tk₀:=d0.2.2.1.2
def R₁:=d0.2.2.2.1
def E₁:=d0.2.2.2.2
theorem bd0:P0 prog w A s A₁ hp ids n k val lt L h₀ tk₀ R₁ E₁:=by
  intro rm T hl hn hsz hc h hL F N dA
  refine with_stm (P:=fun b=>wpAny (model prog w) A₁ (execs b (callEnv (fd66 w) L 66)) R₁ E₁ (up s h₀ tk₀)) rfl ?_
  show wpAny _ _ (execs (_::_) _) _ _ _
  have rm':=dA.room rm
  change Fr (hideAll s.heap [hp]) L h₀ _ at F
  change News (hideAll s.heap [hp]) L h₀ _ at N
  refine wpAny_execs_cons<|wpAny_Assign_Name<|callb T F (by kernel_rfl)<|spliced_more<|ld F rfl<|spliced_none<|len_L N (.head _) (by simp; lia) fun _ _=>st F N fun h1 _ F1 N1=>?_
  have el:(((ids.map val).length:Nat):Int)=(ids.length:Int):=by simp
  rw [el] at F1
  refine wpAny_execs_cons<|wpAny_For<|callt (id:="reversed") T F1 (by kernel_rfl)<|spliced_more<|callt (id:="range") T F1 (by kernel_rfl)<|spliced_more<|wpAny_BinOp<|ld F1 rfl<|cint fun _ _=>floordiv_int (by lia) ?_ (hp:=Or.inl (PyProof.noPylong_small (by lia)))
  refine spliced_none<|rangeR1 F1 N1 fun r2 h2 tk2 t1 u1 v1 hr F2 N2=>?_
  have ef:(ids.length:Int).fdiv 2=((ids.length / 2:Nat):Int):=by rw [Int.fdiv_eq_ediv_of_nonneg _ (by lia)]; lia
  rw [ef] at hr
  refine spliced_none<|call_reversedR hr (by lia) (by lia) ?_
  have F3:=F2.push { cls:=.type "range_iterator",data:=.fields #[rawInt (((ids.length / 2:Nat):Int) - 1),rawInt ((ids.length / 2:Nat):Int),rawInt (-1)] }
  have N3:=(grow F2 N2 fun b o e=>Heap.get?_push_of_some { cls:=.type "range_iterator",data:=.fields #[rawInt (((ids.length / 2:Nat):Int) - 1),rawInt ((ids.length / 2:Nat):Int),rawInt (-1)] } e).2
  have hpI:hp≠h2.objs.size:=Nat.ne_of_lt (Heap.lt_size (N2 _ (.head _)).1)
  refine wpAny_pyIter_rangeiter (Heap.get?_push_size _ rfl) ?_
  let Jv0:Nat→(Str→Option Value)→List (Addr×Obj)→Prop:=fun i m' news'=>news'=[(hp,listOf ((heapifyGo lt ids (ids.length / 2) i).map val).toArray k)]∧m' "x"=some (.ref hp)
  refine iterRI (n:=ids.length / 2) rm'.handled F3 N3 (Nat.ne_of_gt F2.ns.lt) (size_none (s:=up s h2 tk2) F2) (fun p hp q=>absurd (Heap.lt_size (N2 p hp).1) (by rw [q]; exact Nat.lt_irrefl _)) (Heap.get?_push_size _ rfl)
    Jv0 ⟨rfl,rfl⟩ (fun E' i t m₁ news₁ h₁ tk₁ own hi hJ hw ho F₁ N₁=>?_) (fun h' tk m' news' F' N' hw hj=>?_)
  · obtain ⟨rfl,mx⟩:=hJ
    have inv:=heapifyGo_inv (lt:=lt) (hf:=ids.length / 2) (by lia) hn i (by lia)
    have ho':∀ p∈own,p.1≠hp:=fun p hq=>by rw [List.mem_singleton.mp (ho p hq)]; exact hpI.symm
    refine wpAny_execs_cons<|wpAny_Expr<|callg T F₁ (f:=80) (by kernel_rfl) (by kernel_rfl)<|spliced_more<|ld F₁ mx<|spliced_more<|ld F₁ rfl<|spliced_none
      ⟨(T.keeps F₁.keep).X,siftup_call' (pos:=ids.length / 2 - 1 - i) (by lia) (rm'.le (by lia)) (T.keeps (kp1 F₁)) (N₁ _ (.head _)).1 inv.2 (by rw [inv.1]; lia) (by rw [inv.1]; lia) (hc.keeps (kp1 F₁)) fun h5 tk5 e5 r5=>?_⟩
    obtain ⟨F5,N5⟩:=back1 F₁ N₁ e5 r5 ho'
    exact wpAny_execs_nil<|Turn.next (news':=[(hp,_)]) F5 N5 (nw1 hw) ⟨rfl,mx⟩
  · obtain ⟨rfl,mx⟩:=hj
    exact wpAny_execs_nil<|h h' _ (ext_of_fr F') (N' _ (.head _)).1
theorem al0:∀ d,P1 d:=epsAll ne0 P1 (by with_unfolding_all exact bd0)
end Zheapify
end
section
variable {prog:Program} {w:World} {A:Around} {E:Value→Shared→Prop} {s:Shared}
theorem heapify_call {hp:Addr} {ids:List Nat} {n k:Nat} {val:Nat→Value} {lt:Nat→Nat→Bool} {Q:Value→Shared→Prop} (rm:Room A 6) (T:Wd w (hideAll s.heap [hp])) (hl:s.heap.get? hp=some (listOf (ids.map val).toArray k)) (hn:∀ i∈ids,i<n) (hsz:ids.length<900) (hc:Cmp (hideAll s.heap [hp]) n val lt) (h:∀ h' tk',Ext [hp] s.heap h'→h'.get? hp=some (listOf ((heapify lt ids).map val).toArray k)→Q .none (up s h' tk')):wpAny (model prog w) A (call (.ref 66) [.ref hp]) Q E s:=by
  refine wpAny_call (enter (W:=[(hp,listOf (ids.map val).toArray k)]) (binds:=[(("x":Str),.ref hp)]) rm.le' (fn66 T.of_hide.X) T.of_hide.lim (cd66 T.of_hide.X) (by simpa using hl) rfl
    (BindsTo.of_eq (by kernel_rfl)) (by kernel_rfl) (by kernel_rfl) ?_ (by kernel_rfl) (by kernel_rfl) (by kernel_rfl))
  intro L h₀ tk₀ hL F N A₁ R₁ E₁ dA hret hnone
  exact Zheapify.al0 ((((prog,w),(A,s)),((A₁,hp),(ids,n))),(((k,val),(lt,L)),((h₀,tk₀),(R₁,E₁)))) rm T hl hn hsz hc (fun x0 x1 x2 x3=>hnone _ (h x0 x1 x2 x3)) hL F N dA
end
end
section
noncomputable def ch (k:Nat):Nat:=[45,46,97].getD k 0
noncomputable def endOf (text:List Nat) (e:Nat):List Nat :=
  if text.drop (text.length - 1)++([[13],[10],[13,10]]:List (List Nat)).getD e []==[13,10] then [13,10] else ([[13],[10],[13,10]]:List (List Nat)).getD e []
noncomputable def mstep (st:List (List Nat)×List Nat×List Nat) (t:Nat):List (List Nat)×List Nat×List Nat :=
  if t<3 then (st.1,st.2.1++[ch t],st.2.2++[ch t]) else (st.1++[st.2.1],[],st.2.2++endOf st.2.2 (t - 3))
noncomputable def mailGo (toks:List Nat):List (List Nat)×List Nat×List Nat:=toks.foldl mstep ([],[],[])
noncomputable def rowsOf (toks:List Nat):List (List Nat):=(mailGo toks).1++[(mailGo toks).2.1]
noncomputable def textOf (toks:List Nat):List Nat:=(mailGo toks).2.2
theorem mailGo_snoc (toks:List Nat) (t:Nat):mailGo (toks++[t])=mstep (mailGo toks) t:=by unfold mailGo; rw [List.foldl_append]; rfl
theorem endOf_length (text:List Nat) (e:Nat):(endOf text e).length≤2:=by
  have hb:∀ e,(([[13],[10],[13,10]]:List (List Nat)).getD e []).length≤2:=fun e=>by
    match e with
    | 0=>decide
    | 1=>decide
    | 2=>decide
    | e+3=>simp
  unfold endOf; split
  · decide
  · exact hb e
theorem mailGo_size (toks:List Nat):(mailGo toks).1.length≤toks.length∧(mailGo toks).2.1.length≤toks.length∧(mailGo toks).2.2.length≤2*toks.length:=by
  generalize hn:toks.length=n
  induction n generalizing toks with
  | zero=>have:toks=[]:=List.length_eq_zero_iff.mp hn; subst this; decide
  | succ n ih =>
    obtain ⟨r,t,rfl⟩:∃ r t,toks=r++[t]:=⟨toks.dropLast,toks.getLast (by intro q; rw [q] at hn; simp at hn),(List.dropLast_concat_getLast _).symm⟩
    have:=ih r (by simpa using hn)
    rw [mailGo_snoc]
    unfold mstep
    have he:=endOf_length (mailGo r).2.2 (t - 3)
    split
    · simp only [List.length_append,List.length_cons,List.length_nil]; lia
    · simp only [List.length_append,List.length_cons,List.length_nil]; lia
theorem fmod_bounds (a b:Int) (hb:0<b):0≤a.fmod b∧a.fmod b<b:=⟨Int.fmod_nonneg_of_pos a hb,Int.fmod_lt_of_pos a hb⟩
theorem s_empty:(Str.ofString "")=S []:=by kernel_rfl
theorem s_dash:(Str.ofString "-.a")=S [45,46,97]:=by kernel_rfl
theorem s_cr:(Str.ofString "\r")=S [13]:=by kernel_rfl
theorem s_lf:(Str.ofString "\n")=S [10]:=by kernel_rfl
theorem s_crlf:(Str.ofString "\r\n")=S [13,10]:=by kernel_rfl
theorem range_small {a b:Int} (ha:0≤a) (ha':a≤1000) (hb0:-1000≤b) (hb:b≤1000):Builtin.Range.small a b 1=true:=by
  have fl:∀ z:Int,-2000≤z→z≤2000→Builtin.Range.rangeFitsLong z=true:=fun z h1 h2=>by unfold Builtin.Range.rangeFitsLong; simp; lia
  unfold Builtin.Range.small
  have hs:-2000≤Builtin.Range.rangeSize a b 1∧Builtin.Range.rangeSize a b 1≤2000:=by
    unfold Builtin.Range.rangeSize
    rw [if_pos (by lia)]
    split <;> lia
  rw [fl a (by lia) (by lia),fl b (by lia) (by lia),fl 1 (by lia) (by lia),fl _ hs.1 hs.2,if_pos (by lia),fl _ (by lia) (by lia)]
  simp
theorem range_size {a b:Int} {n:Nat} (h:(n:Int)=b - a∨(b≤a∧n=0)):Builtin.Range.rangeSize a b 1=(n:Int):=by
  unfold Builtin.Range.rangeSize
  rw [if_pos (by lia)]
  split <;> lia
theorem ends_spec (text:List Nat) {e:Int} (h0:0≤e) (h3:e<3) (ta tb tc:Tok):∃ (el:List Nat) (te:Tok),([Value.str (S [13]) ta,.str (S [10]) tb,.str (S [13,10]) tc]:List Value)[e.toNat]?=some (.str (S el) te)∧el.length≤2 ∧
    endOf text e.toNat=if (text.drop (text.length - 1)++el==[13,10])=true then [13,10] else el:=by
  have:e=0∨e=1∨e=2:=by lia
  rcases this with rfl | rfl | rfl
  · exact ⟨[13],ta,rfl,by decide,by unfold endOf; rfl⟩
  · exact ⟨[10],tb,rfl,by decide,by unfold endOf; rfl⟩
  · exact ⟨[13,10],tc,rfl,by decide,by unfold endOf; rfl⟩
section
variable {prog:Program} {w:World} {A:Around} {E:Value→Shared→Prop} {s:Shared}
end
noncomputable section
namespace Zmail
abbrev D0:=((((Program)×(World))×(Around))×(((Shared)×(Around))×(Int)))×((((Tok)×(Addr))×(Heap))×(((Nat)×(Flow→Shared→Prop))×(Value→Shared→Prop)))
abbrev P0 (prog:Program) (w:World) (A:Around) (s:Shared) (A₁:Around) (x:Int) (t1:Tok) (L:Addr) (h₀:Heap) (tk₀:Nat) (R₁:Flow→Shared→Prop) (E₁:Value→Shared→Prop):Prop:=∀ (rm:Room A 3) (T:Wd w s.heap) (hx0:0≤x) (hx:x<6912) (h:∀ h' tk' tp R n vs t toks,Ext [] s.heap h'→h'.get? tp=some (tupOf [.ref R,.str (S (textOf toks)) t])→h'.get? R=some (listOf (List.toArray vs) n)→Strs vs (rowsOf toks)→toks.length≤3→(∀ t∈toks,t<6) →
      s.heap.get? R=none→s.heap.get? tp=none→R<tp→R₁ (.ret (.ref tp)) (up s h' tk')) (hL:L=s.heap.objs.size) (F:Fr (hideAll s.heap (([]:List (Addr×Obj)).map (·.1))) L h₀ (fun y9=>([(("x":Str),.int x t1)]:List (Str×Value)).reverse.lookup y9)) (N:News (hideAll s.heap (([]:List (Addr×Obj)).map (·.1))) L h₀ ([])) (dA:Deeper A A₁ (callEnv (fd224 w) L 224)),wpAny (model prog w) A₁ (execs (stm (fd224 w)) (callEnv (fd224 w) L 224)) R₁ E₁ (up s h₀ tk₀)
abbrev P1 (d:D0):=P0 d.1.1.1.1 d.1.1.1.2 d.1.1.2 d.1.2.1.1 d.1.2.1.2 d.1.2.2 d.2.1.1.1 d.2.1.1.2 d.2.1.2 d.2.2.1.1 d.2.2.1.2 d.2.2.2
theorem ne0:Nonempty D0:=⟨((((Challenge.pw_ny0293_01,Classical.choice neW),callerA),((Classical.choice neS,callerA),default)),default)⟩
@[irreducible] def d0:D0:=@Classical.epsilon D0 ne0 fun d=>¬ P1 d
def prog:=d0.1.1.1.1
def w:=d0.1.1.1.2
def A:=d0.1.1.2
def s:=d0.1.2.1.1
def A₁:=d0.1.2.1.2
def x:=d0.1.2.2
def t1:=d0.2.1.1.1
def L:=d0.2.1.1.2
def h₀:=d0.2.1.2
def tk₀:=d0.2.2.1.1
def R₁:=d0.2.2.1.2
def E₁:=d0.2.2.2
theorem bd0:P0 prog w A s A₁ x t1 L h₀ tk₀ R₁ E₁:=by
  intro rm T hx0 hx h hL F N dA
  refine with_stm (P:=fun b=>wpAny (model prog w) A₁ (execs b (callEnv (fd224 w) L 224)) R₁ E₁ (up s h₀ tk₀)) rfl ?_
  show wpAny _ _ (execs (_::_) _) _ _ _
  have rm':=dA.room rm
  change Fr s.heap L h₀ _ at F
  change News s.heap L h₀ [] at N
  try show wpAny _ _ _ _ _ (up s _ _)
  refine wpAny_execs_cons<|Assign_Tuple_swapped (names:=["rows","text"]) (hw:=by kernel_rfl)<|Tuple_<|spliced_more<|List_<|spliced_more<|cstrS s_empty fun _ _=>spliced_none<|newLst F N fun R h1 F1 N1 lt1=>spliced_more<|cstrS s_empty fun _ _=>spliced_none<|newTup F1 N1 fun tp h2 F2 N2 lt2=>?_
  have N2':News s.heap L h2 [(R,listOf [Value.str (S []) _].toArray 0)]:=fun p hp=>N2 p (.tail _ hp)
  refine wpAny_unpackItems_tuple (items:=[.ref R,.str (S []) _].toArray) rm'.handled ⟨_,(N2 _ (.head _)).1,rfl,_,rfl⟩ fun h3 e3=>?_
  obtain ⟨F3,N3⟩:=growBut (h':=h3) F2 N2' e3
  refine wpAny_assignInOrder_more<|wpAny_bindName<|st F3 N3 fun h4 _ F4 N4=>wpAny_assignInOrder_more<|wpAny_bindName<|st F4 N4 fun h5 _ F5 N5=>wpAny_assignInOrder_none ?_
  have fb:=fmod_bounds x 4 (by lia)
  try show wpAny _ _ _ _ _ (up s _ _)
  refine wpAny_execs_cons<|wpAny_For<|callt (id:="range") T F5 (by kernel_rfl)<|spliced_more<|wpAny_BinOp<|ld F5 rfl<|cint fun _ _=>fmod_int (by lia) fun _ _=>spliced_none<|rangeR1 F5 N5 fun r6 h6 tk6 t6 u6 v6 hr F6 N6=>?_
  let Jv0:Nat→(Str→Option Value)→List (Addr×Obj)→Prop:=fun i m' news'=>Ex4 fun (toks:List Nat) (n:Nat) (vs:List Value) (tt:Tok)=>And7 (toks.length=i) ((∀ t∈toks,t<6)) (news'=[(R,listOf vs.toArray n)]) (Strs vs (rowsOf toks)) (m' "rows"=some (.ref R)) (m' "text"=some (.str (S (textOf toks)) tt)) (m' "x"=some (.int x t1))
  refine iterR (n:=(x.fmod 4).toNat) rm'.handled F6 N6 hr (range_small (by lia) (by lia) (by lia) (by lia)) (range_size (.inl (by lia)))
    Jv0
    ⟨[],0,_,_,rfl,fun _ h=>(nomatch h),rfl,.cons rfl .nil,rfl,rfl,rfl⟩ (fun E' i t m₁ news₁ h₁ tk₁ own hi hJ hw ho F₁ N₁=>?_) (fun h' tk m' news' F' N' hw hj=>?_)
  rotate_left
  · obtain ⟨toks,n,vs,tt,hlen,htk,rfl,hs,mr,mt,mx⟩:=hj
    try show wpAny _ _ _ _ _ (up s _ _)
    refine wpAny_execs_cons<|wpAny_Return_some<|Tuple_<|spliced_more<|ld F' mr<|spliced_more<|ld F' mt<|spliced_none<|newTup F' N' fun tq h7 F7 N7 lt7=>?_
    exact h h7 _ tq R n vs tt toks (ext_of_fr (W:=[]) F7) (N7 _ (.head _)).1 (N7 _ (.tail _ (.head _))).1 hs (by lia) htk (N7 _ (.tail _ (.head _))).2.2 (N7 _ (.head _)).2.2 (lt7 _ (.head _))
  obtain ⟨toks,n,vs,tt,hlen,htk,rfl,hs,mr,mt,mx⟩:=hJ
  have msz:=mailGo_size toks
  have hRo:∀ p∈own,p.1≠R:=fun p hp q=>hw (R,_) (.head _) (by rw [← q]; exact ho p hp)
  try show wpAny _ _ _ _ _ (up s _ _)
  refine wpAny_execs_cons<|wpAny_Assign_Name<|wpAny_BinOp<|wpAny_BinOp<|ld F₁ mx<|wpAny_BinOp<|cint fun _ _=>wpAny_BinOp<|ld F₁ rfl<|cint fun _ _=>add_int fun _ _=>pow_any (.inr rfl) (by lia) (by lia) fun _ _ _ p1 p2=>fdiv_any p1 p2 fun _ _ _=>cint fun _ _=>fmod_bd (by lia) fun z _ _ fL1 fL2=>st F₁ N₁ fun h7 _ F7 N7=>?_
  obtain ⟨vs0,tl,rfl,hs0⟩:=hs.unsnoc
  have hl0:=hs0.length
  try show wpAny _ _ _ _ _ (up s _ _)
  refine wpAny_execs_cons<|wpAny_If<|wpAny_isTrue_Compare1<|ld F7 rfl<|cint fun _ _=>wpAny_lt_int<|wpAny_truthy_bool ?_
  by_cases hz:z<3
  · rw [decide_eq_true hz,if_pos rfl]
    have hc:([45,46,97]:List Nat)[z.toNat]?=some (ch z.toNat):=by
      have:z=0∨z=1∨z=2:=by lia
      rcases this with rfl | rfl | rfl <;> rfl
    try show wpAny _ _ _ _ _ (up s _ _)
    refine wpAny_execs_cons<|wpAny_AugAssign_SubscriptAny<|ld F7 mr<|wpAny_UnaryOp<|cint fun _ _=>neg_int fun _ _=>gtL_last ⟨_,(N7 _ (.head _)).1,rfl,_,rfl⟩ (by lia)<|Subscript_<|cstrS s_dash fun _ _=>ld F7 rfl<|itS fL1 (by lia) hc fun _ _=>iaddS (by have:=msz; simp; lia) fun _ _=>setL_last F7 N7 (.head hRo) (by lia) fun h8 F8 N8=>?_
    try show wpAny _ _ _ _ _ (up s _ _)
    refine wpAny_execs_cons<|wpAny_AugAssign_Name<|ldn F8 mt<|Subscript_<|cstrS s_dash fun _ _=>ld F8 rfl<|itS fL1 (by lia) hc fun _ _=>iaddS (by have:=msz; unfold textOf; simp; lia) fun tz _=>st F8 N8 fun h9 _ F9 N9=>?_
    have e1:mailGo (toks++[z.toNat])=((mailGo toks).1,(mailGo toks).2.1++[ch z.toNat],(mailGo toks).2.2++[ch z.toNat]):=by rw [mailGo_snoc]; unfold mstep; rw [if_pos (by lia)]
    refine wpAny_execs_nil<|wpAny_execs_nil<|Turn.next (news':=[(R,_)]) F9 N9 (nw1 hw) ⟨toks++[z.toNat],_,_,tz,by simp [hlen],fun t ht=>?_,rfl,?_,mr,?_,mx⟩
    · rcases List.mem_append.mp ht with q | q
      · exact htk t q
      · rw [List.mem_singleton.mp q]; lia
    · unfold rowsOf; rw [e1]; exact hs0.snoc
    · unfold textOf; rw [e1]; rfl
  · rw [decide_eq_false hz,if_neg (by simp)]
    try show wpAny _ _ _ _ _ (up s _ _)
    refine wpAny_execs_cons<|wpAny_Assign_Name<|Subscript_<|List_<|spliced_more<|cstrS s_cr fun ta _=>spliced_more<|cstrS s_lf fun tb _=>spliced_more<|cstrS s_crlf fun tc _=>spliced_none<|newLst F7 N7 fun E1 h8 F8 N8 lt8=>?_
    refine wpAny_BinOp<|wpAny_BinOp<|wpAny_BinOp<|ld F8 mx<|cint fun _ _=>fdiv_any (by lia) (by decide) fun _ _ _=>wpAny_BinOp<|cint fun _ _=>ld F8 rfl<|pow_any (.inl rfl) (by lia) (by lia) fun _ _ _ p1 p2=>fdiv_any p1 p2 fun _ _ _=>cint fun _ _=>fmod_bd (by lia) fun e _ _ fE1 fE2=>?_
    obtain ⟨el,te,hx,hel,heo⟩:=ends_spec (textOf toks) fE1 fE2 ta tb tc
    have N8':News s.heap L h8 ((R,listOf (vs0++[Value.str (S (mailGo toks).2.1) tl]).toArray n)::own):=fun p hp=>N8 p (.tail _ hp)
    refine itL ⟨_,(N8 _ (.head _)).1,rfl,_,rfl⟩ fE1 (by lia) hx ?_
    refine st F8 N8' fun h9 _ F9 N9=>?_
    refine cutS (fun s'=>∃ (h6:Heap) (tk6:Nat) (m6:Str→Option Value) (te:Tok),s'=up s h6 tk6∧Fr s.heap L h6 m6∧News s.heap L h6 ((R,listOf (vs0++[Value.str (S (mailGo toks).2.1) tl]).toArray n)::own) ∧
        m6 "rows"=some (.ref R)∧m6 "text"=some (.str (S (textOf toks)) tt)∧m6 "x"=some (.int x t1)∧m6 "end"=some (.str (S (endOf (textOf toks) e.toNat)) te)) ?_ ?_
    · refine wpAny_If<|wpAny_isTrue_Compare1<|wpAny_BinOp<|Subscript_<|ld F9 mt<|wpAny_Slice<|wpAny_evalPart_some<|wpAny_UnaryOp<|cint fun _ _=>neg_int fun _ _=>wpAny_evalPart_none<|wpAny_evalPart_none<|slcLast F9 N9 (by unfold textOf; lia) fun h10 t10 k10 F10 N10=>?_
      refine ld F10 rfl<|addS (by rw [List.length_drop]; unfold textOf; lia) fun _ _=>cstrS s_crlf fun _ _=>eqS<|wpAny_truthy_bool ?_
      by_cases hq:((textOf toks).drop ((textOf toks).length - 1)++el==[13,10])=true
      · rw [hq,if_pos rfl]
        rw [hq,if_pos rfl] at heo
        rw [heo]
        exact wpAny_execs_cons<|wpAny_Assign_Name<|cstrS s_crlf fun te _=>st F10 N10 fun h11 _ F11 N11=>wpAny_execs_nil ⟨rfl,h11,_,_,te,rfl,F11,N11,mr,mt,mx,rfl⟩
      · rw [if_neg hq]
        rw [if_neg hq] at heo
        rw [heo]
        exact wpAny_execs_nil ⟨rfl,h10,_,_,te,rfl,F10,N10,mr,mt,mx,rfl⟩
    rintro s' ⟨h6,tk6,m6,te6,rfl,F6,N6,mr6,mt6,mx6,me6⟩
    have eol:=endOf_length (textOf toks) e.toNat
    try show wpAny _ _ _ _ _ (up s _ _)
    refine wpAny_execs_cons<|wpAny_Expr<|methodCall_KW<|ld F6 mr6<|kl_method N6 (.head _) slot_list_append type_list_append<|callWith_method1<|spliced_more<|cstrS s_empty fun tn _=>spliced_none<|appendL F6 N6 (.head hRo) (by simp; lia) fun h7 F7 N7=>?_
    try show wpAny _ _ _ _ _ (up s _ _)
    refine wpAny_execs_cons<|wpAny_AugAssign_Name<|ldn F7 mt6<|ld F7 me6<|iaddS (by unfold textOf at *; lia) fun tz _=>st F7 N7 fun h8 _ F8 N8=>?_
    have e1:mailGo (toks++[e.toNat+3])=((mailGo toks).1++[(mailGo toks).2.1],[],(mailGo toks).2.2++endOf (mailGo toks).2.2 e.toNat):=by rw [mailGo_snoc]; unfold mstep; rw [if_neg (by lia)]; rfl
    refine wpAny_execs_nil<|wpAny_execs_nil<|Turn.next (news':=[(R,_)]) F8 N8 (nw1 hw) ⟨toks++[e.toNat+3],_,_,tz,by simp [hlen],fun t ht=>?_,rfl,?_,mr6,?_,mx6⟩
    · rcases List.mem_append.mp ht with q | q
      · exact htk t q
      · rw [List.mem_singleton.mp q]; lia
    · unfold rowsOf; rw [e1]; exact hs0.snoc.snoc
    · unfold textOf; rw [e1]; rfl
theorem al0:∀ d,P1 d:=epsAll ne0 P1 (by with_unfolding_all exact bd0)
end Zmail
end
section
variable {prog:Program} {w:World} {A:Around} {E:Value→Shared→Prop} {s:Shared}
theorem mail_call {x:Int} {t1:Tok} {Q:Value→Shared→Prop} (rm:Room A 3) (T:Wd w s.heap) (hx0:0≤x) (hx:x<6912) (h:∀ h' tk' tp R n vs t toks,Ext [] s.heap h'→h'.get? tp=some (tupOf [.ref R,.str (S (textOf toks)) t])→h'.get? R=some (listOf (List.toArray vs) n)→Strs vs (rowsOf toks)→toks.length≤3→(∀ t∈toks,t<6) →
      s.heap.get? R=none→s.heap.get? tp=none→R<tp→Q (.ref tp) (up s h' tk')):wpAny (model prog w) A (call (.ref 224) [.int x t1]) Q E s:=by
  refine wpAny_call (enter (W:=[]) (binds:=[(("x":Str),.int x t1)]) rm.le' (fn224 T.X) T.lim (cd224 T.X) (fun _ h=>noMem h) rfl
    (BindsTo.of_eq (by kernel_rfl)) (by kernel_rfl) (by kernel_rfl) ?_ (by kernel_rfl) (by kernel_rfl) (by kernel_rfl))
  intro L h₀ tk₀ hL F N A₁ R₁ E₁ dA hret hnone
  exact Zmail.al0 ((((prog,w),A),((s,A₁),x)),(((t1,L),h₀),((tk₀,R₁),E₁))) rm T hx0 hx (fun x0 x1 x2 x3 x4 x5 x6 x7 x8 x9 x10 x11 x12 x13 x14 x15 x16=>hret _ _ (h x0 x1 x2 x3 x4 x5 x6 x7 x8 x9 x10 x11 x12 x13 x14 x15 x16)) hL F N dA
end
end
section
noncomputable def pdrive:Nat→Sre.M→Option Sre.M
  | 0,_=>none
  | n+1,m=>if (m.runFor 4).outcome.isSome then some (m.runFor 4) else pdrive n (m.runFor 4)
noncomputable def pnext (code text:List Nat) (start:Nat) (must:Bool):Option (Option (Nat×Nat)) :=
  match pdrive 60 (Sre.forSearch code.toArray text.toArray 0 start text.length must) with
  | none=>none
  | some m=>match m.outcome with
    | some .matched=>some (some (m.start,m.handed))
    | some .failed=>some none
    | _=>none
noncomputable def sl (text:List Nat) (b e:Nat):List Nat:=(text.take e).drop b
noncomputable def subGo (code text repl:List Nat):(fuel done start:Nat)→(must:Bool)→Option (List (List Nat))
  | 0,_,_,_=>none
  | fuel+1,done,start,must=>match pnext code text start must with
    | none=>none
    | some none=>some (if done<text.length then [sl text done text.length] else [])
    | some (some (b,e))=>(subGo code text repl fuel e e (e==b)).map fun r=>(if done<b then [sl text done b] else [])++[repl]++r
noncomputable def code1:List Nat:=[14,4,0,1,1,6,1,16,46,1]
noncomputable def code2:List Nat:=[14,9,4,1,2,16,10,16,13,0,7,7,16,13,16,10,15,18,5,16,10,15,13,11,16,13,5,5,0,16,10,1,15,2,0,1]
noncomputable def psub (code text repl:List Nat):Option (List Nat):=(subGo code text repl 9 0 0 false).map List.flatten
noncomputable def sentOf (rows:List (List Nat)):List Nat:=([13,10]:List Nat).intercalate (rows.map fun r=>if r.take 1==[46] then 46::r else r)
noncomputable def quoted (text:List Nat):Option (List Nat):=(psub code2 text [13,10]).bind fun x=>if x.length≤100 then psub code1 x [46,46] else none
section
variable {prog:Program} {w:World} {A:Around} {E:Value→Shared→Prop} {s:Shared}
theorem drive_ok {Q:Sre.M→Shared→Prop} {M:Model}:∀ (n r:Nat) (m m':Sre.M) (s:Shared),pdrive n m=some m'→Q m' s→wpAny M A (Builtin.Re.reDrive (n+r) m) Q E s:=by
  intro n
  induction n with
  | zero=>intro r m m' s h _; cases h
  | succ n ih =>
    intro r m m' s h hQ
    rw [show n+1+r=(n+r)+1 by lia]
    show wpAny M A (if (m.runFor 4).outcome.isSome then pure (m.runFor 4) else do rule "sre.turn"; Builtin.Re.reDrive (n+r) (m.runFor 4)) Q E s
    unfold pdrive at h
    split
    · rename_i hs
      rw [if_pos hs] at h; cases h
      exact wpAny_pure hQ
    · rename_i hs
      rw [if_neg hs] at h
      exact wpAny_bind (wpAny_rule (ih r _ m' s h hQ))
theorem toEnd_ok {Q:Option Sre.M→Shared→Prop} {M:Model} {m m':Sre.M} {n:Nat} (hn:n≤100) (h:pdrive n m=some m') (hQ:match m'.outcome with | some .matched=>Q (some m') s | some .failed=>Q none s | _=>False) :
    wpAny M A (Builtin.Re.reRunToEnd m) Q E s:=by
  unfold Builtin.Re.reRunToEnd
  obtain ⟨r,hr⟩:∃ r,(2:Nat) ^ 64=n+r:=⟨2 ^ 64 - n,by lia⟩
  rw [hr]
  refine wpAny_bind (drive_ok n r m m' s h ?_)
  refine wpAny_bind (wpAny_forIn_list _ (fun _ _ s'=>s'=s) (fun _ s'=>s'=s) (fun x rest b s₁ e=>?_) (fun _ _ e=>e) _ _ rfl |> fun z=>wpAny_mono z (fun _ s₁ e=>?_) fun _ _ e=>e)
  · subst e
    cases ho:m'.outcome with
    | none=>rw [ho] at hQ; exact hQ.elim
    | some o =>
      rw [ho] at hQ
      cases o with
      | matched=>exact wpAny_pure hQ
      | failed=>exact wpAny_pure hQ
      | stuck _=>exact hQ.elim
  · subst e
    split
    · exact wpAny_bind (wpAny_rule (wpAny_pure rfl))
    · exact wpAny_pure rfl
structure Pat (h:Heap) (P:Addr) (code:List Nat):Prop where
  obj:∃ (fs:Array Value) (T:Addr) (ws:Array Value) (n:Nat),h.get? P=some { cls:=.type "re.Pattern",data:=.fields fs }∧fs.getD 5 .none=.ref T∧Builtin.Re.reRawNat (fs.getD 2 .none)=0∧Builtin.Re.reRawNat (fs.getD 6 .none)=0 ∧
    h.get? T=some { cls:=.type "tuple",data:=.seq ws n }∧(ws.map Builtin.Re.reRawOf).map (·.toNat)=code.toArray
theorem Pat.keeps {h h':Heap} {P:Addr} {code:List Nat} (x:Pat h P code) (hk:∀ b o,h.get? b=some o→h'.get? b=some o):Pat h' P code:=by
  obtain ⟨fs,T,ws,n,h1,h2,h3,h4,h5,h6⟩:=x.obj
  exact ⟨fs,T,ws,n,hk _ _ h1,h2,h3,h4,hk _ _ h5,h6⟩
theorem Pat.keepsBut {h h':Heap} {P D:Addr} {code:List Nat} {its:Array Value} {c:Nat} (x:Pat h P code) (hD:h.get? D=some (listOf its c)) (hk:∀ b o,b≠D→h.get? b=some o→h'.get? b=some o):Pat h' P code:=by
  obtain ⟨fs,T,ws,n,h1,h2,h3,h4,h5,h6⟩:=x.obj
  refine ⟨fs,T,ws,n,hk _ _ (fun e=>?_) h1,h2,h3,h4,hk _ _ (fun e=>?_) h5,h6⟩
  · rw [e,hD] at h1; simp [W.listOf] at h1
  · rw [e,hD] at h5; simp [W.listOf] at h5
theorem whole_ok {M:Model} {P:Addr} {code text:List Nat} {t:Tok} {Q:Builtin.Re.ReTarget→Shared→Prop} (X:Pat s.heap P code)
    (h:Q { pattern:=.ref P,string:=.str (S text) t,code:=code.toArray,text:=text.toArray,kind:=0,groups:=0,pos:=0,lim:=text.length } s):wpAny M A (Builtin.Re.reWholeTarget (.ref P) (.str (S text) t)) Q E s:=by
  obtain ⟨fs,T,ws,n,h1,h2,h3,h4,h5,h6⟩:=X.obj
  unfold Builtin.Re.reWholeTarget
  refine wpAny_bind (wpAny_fieldsOf h1 rfl ?_)
  refine wpAny_bind (wpAny_of_eq (show Builtin.Re.reTextOf (.str (S text) t)=pure (text.toArray,0) from rfl) ?_)
  dsimp only
  rw [h4,if_neg (by decide),if_neg (by decide)]
  refine wpAny_bind (wpAny_of_eq (show Builtin.Re.reNoCollectionInside (.str (S text) t) 0=pure () from rfl) ?_)
  rw [h2,h3]
  refine wpAny_bind (wpAny_bind (wpAny_seqItems h5 rfl (wpAny_pure ?_)))
  simp only [Option.getD_some,h6]
  refine wpAny_pure ?_
  simpa using h
theorem next_ok {M:Model} {code text:List Nat} {v v':Value} {start:Nat} {must:Bool} {r:Option (Nat×Nat)} {Q:Option Sre.M→Shared→Prop} (hp:pnext code text start must=some r)
    (h:match r with | none=>Q none s | some (b,e)=>∀ m:Sre.M,m.start=b→m.handed=e→Q (some m) s) :
    wpAny M A (Builtin.Re.reNextFound { pattern:=v,string:=v',code:=code.toArray,text:=text.toArray,kind:=0,groups:=0,pos:=0,lim:=text.length } start must) Q E s:=by
  unfold Builtin.Re.reNextFound
  unfold pnext at hp
  cases hd:pdrive 60 (Sre.forSearch code.toArray text.toArray 0 start text.length must) with
  | none=>rw [hd] at hp; cases hp
  | some m =>
    rw [hd] at hp
    refine toEnd_ok (by decide) hd ?_
    simp only at hp
    cases ho:m.outcome with
    | none=>rw [ho] at hp; cases hp
    | some o =>
      rw [ho] at hp
      cases o with
      | matched=>cases hp; exact h m rfl rfl
      | failed=>cases hp; exact h
      | stuck _=>cases hp
theorem sl_ok (text:List Nat) (b e:Nat):(⟨text.toArray.extract b e⟩:Str)=S (sl text b e):=by
  unfold sl; simp [List.extract_eq_take_drop,List.drop_take]
theorem slice_ok {M:Model} {text:List Nat} {b e:Nat} {Q:Value→Shared→Prop} (hz:text.length≤1000) (h:Q (.str (S (sl text b e)) s.toks) (tkd s (s.toks+1))):wpAny M A (Builtin.Re.reSlice text.toArray 0 b e) Q E s:=by
  unfold Builtin.Re.reSlice
  rw [if_pos (by decide),sl_ok]
  refine wpAny_mkStr h ?_
  rw [S_length,sizeLine_eq]; unfold sl; simp; lia
theorem join_S (sep:List Nat):∀ rows:List (List Nat),Txt.join (S sep) (rows.map S)=S (sep.intercalate rows):=by
  intro rows
  rw [beq_iff_eq.mp (join_plain_closes (S sep) (rows.map S))]
  induction rows with
  | nil=>rfl
  | cons a rest ih =>
    cases rest with
    | nil=>simp [Str.join,List.intercalate,List.intersperse]
    | cons b rest =>
      show S a++S sep++Str.join (S sep) ((b::rest).map S)=_
      rw [ih,S_append,S_append]
      simp [List.intercalate,List.intersperse]
theorem Strs.are {vs:List Value} {rs:List (List Nat)} (h:Strs vs rs):StrsAre vs (rs.map S):=by
  induction h with
  | nil=>exact .nil
  | cons e _ ih=>subst e; exact .cons _ _ ih
theorem sum_le {rs:List (List Nat)} {k:Nat} (h:∀ r∈rs,r.length≤k):((rs.map S).map (·.length)).sum≤rs.length*k:=by
  induction rs with
  | nil=>simp
  | cons a rs ih =>
    have h1:=ih fun r hr=>h r (.tail _ hr)
    have h2:=h a (.head _)
    simp only [List.map_cons,List.sum_cons,List.length_cons,S_length,Nat.add_mul,Nat.one_mul]
    lia
theorem joinS {sep:List Nat} {t:Tok} {D:Addr} {vs:List Value} {n k:Nat} {rows:List (List Nat)} {Q:Value→Shared→Prop} (hD:s.heap.get? D=some (W.listOf vs.toArray n)) (hS:Strs vs rows) (hk:∀ r∈rows,r.length≤k) (hz:rows.length*(k+sep.length)≤16777216)
    (h:∀ t' tk',Q (.str (S (sep.intercalate rows)) t') (tkd s tk')):wpAny (model prog w) A (call (.builtin "str.join") [.str (S sep) t,.ref D]) Q E s:=by
  refine join_list (items:=vs.toArray) ⟨_,hD,rfl,_,rfl⟩ hS.are ?_ fun t' k'=>?_
  · have:=sum_le hk
    rw [S_length,List.length_map]
    rw [Nat.mul_add] at hz
    lia
  · rw [join_S]; exact h t' k'
theorem push_ok {M:Model} {D:Addr} {acc:List Value} {c:Nat} {v:Value} {Q:Unit→Shared→Prop} (hD:s.heap.get? D=some (W.listOf acc.toArray c)) (hz:acc.length≤1000)
    (h:∀ h' c',h'.get? D=some (W.listOf (acc++[v]).toArray c')→Heap.SameBut D s.heap h'→Q () (up s h' s.toks)):wpAny M A (updateSeq D fun x=>x.push v) Q E s:=by
  refine wpAny_updateSeq hD rfl (h _ (c+1) ?_ (Heap.SameBut.update ..)) ?_ ?_
  · have q:=PySem.IsL.update hD (fun x=>x.push v)
    have e1:(acc.toArray.push v)=(acc++[v]).toArray:=by simp
    rw [e1,if_neg (by simp)] at q
    exact q
  · simp [sizeLine_eq]; lia
  · simp [sizeLine_eq]; lia
theorem entry_sub_loop:entryFor table "re.Pattern.sub.loop"=some Builtin.«re.Pattern.sub.loop»:=entryFor_of_tree (by kernel_rfl)
theorem plain_sub_loop:plainId "re.Pattern.sub.loop"=true:=by decide +kernel
end
noncomputable section
namespace Zsubloop
abbrev D0:=((((Program)×(World))×(Around))×(((Result→Shared→Prop)×(Addr))×(Addr)))×((((List Nat)×(List Nat))×(List Nat))×((Tok)×(Tok)))
abbrev P0 (prog:Program) (w:World) (A:Around) (R:Result→Shared→Prop) (P D:Addr) (code text repl:List Nat) (t u:Tok):Prop:=∀ (hz:text.length≤100) (hr':repl.length≤100),∀ (fuel done start:Nat) (must:Bool) (n:Int) (pieces:List (List Nat)) (s:Shared) (acc:List Value) (c:Nat) (rs:List (List Nat)),subGo code text repl fuel done start must=some pieces→Pat s.heap P code →
      s.heap.get? D=some (W.listOf acc.toArray c)→Strs acc rs→rs.length+2*fuel≤40→(∀ r∈rs,r.length≤100) →
      (∀ h' tk' t',Ext [D] s.heap h'→R (.ok (.ret (.str (S (rs++pieces).flatten) t'))) (up s h' tk')) →
      codeAny (model prog w) A (.builtin "re.Pattern.sub.loop" ⟨[.ref P,.str (S text) t,.str (S repl) u,rawInt 0,rawInt 0,rawInt n,rawInt done,rawInt start,.bool must,.ref D,.bool false],[]⟩) R s
abbrev P1 (d:D0):=P0 d.1.1.1.1 d.1.1.1.2 d.1.1.2 d.1.2.1.1 d.1.2.1.2 d.1.2.2 d.2.1.1.1 d.2.1.1.2 d.2.1.2 d.2.2.1 d.2.2.2
theorem ne0:Nonempty D0:=⟨((((Challenge.pw_ny0293_01,Classical.choice neW),callerA),default),default)⟩
@[irreducible] def d0:D0:=@Classical.epsilon D0 ne0 fun d=>¬ P1 d
def prog:=d0.1.1.1.1
def w:=d0.1.1.1.2
def A:=d0.1.1.2
def R:=d0.1.2.1.1
def P:=d0.1.2.1.2
def D:=d0.1.2.2
def code:=d0.2.1.1.1
def text:=d0.2.1.1.2
def repl:=d0.2.1.2
def t:=d0.2.2.1
def u:=d0.2.2.2
theorem bd0 : P0 prog w A R P D code text repl t u := by
  intro hz hr'
  intro fuel
  induction fuel with
  | zero=>intro done start must n pieces s acc c rs h; cases h
  | succ fuel ih =>
    intro done start must n pieces s acc c rs hsub X hD hS hlen hsz hR
    refine codeAny_builtin entry_sub_loop ?_
    rw [Around.under_plainId plain_sub_loop _]
    show wpAny _ A.in1 (Builtin.Re.reWholeTarget (.ref P) (.str (S text) t) >>= _) _ _ s
    refine wpAny_bind (whole_ok X ?_)
    show wpAny _ A.in1 (Builtin.Re.reLiteralCannotBeTurned (.str (S repl) u) >>= _) _ _ s
    refine wpAny_bind (wpAny_of_eq (show Builtin.Re.reLiteralCannotBeTurned (.str (S repl) u)=pure () from rfl) ?_)
    unfold subGo at hsub
    cases hp:pnext code text start must with
    | none=>rw [hp] at hsub; cases hsub
    | some r =>
      rw [hp] at hsub
      refine wpAny_bind ?_
      show wpAny _ _ (Builtin.Re.reNextFound _ ((start:Int).toNat) must) _ _ s
      rw [Int.toNat_natCast]
      refine next_ok hp ?_
      have tail : ∀ (s' : Shared) (acc' : List Value) (c' : Nat) (rs' : List (List Nat)), s'.heap.get? D = some (W.listOf acc'.toArray c') → Strs acc' rs' → rs'.length ≤ 41 → (∀ r ∈ rs', r.length ≤ 100) →
          (∀ tk' t',R (.ok (.ret (.str (S rs'.flatten) t'))) (tkd s' tk')) →
          wpAny (model prog w) A.in1 (Builtin.Re.reSlice text.toArray 0 0 0 >>= fun joiner=>seqItems? (.ref D) >>= fun x=>if (x.getD #[]).isEmpty then (pure joiner >>= fun tx=>ret tx) else (call (.builtin "str.join") [joiner,.ref D] >>= fun tx=>ret tx))
            (fun fin s'=>match fin with | .done f=>R (.ok f) s' | .again c'=>c'.quiet=true∧codeAny (model prog w) A c' R s') (fun e s'=>R (.error e) s') s':=by
        intro s' acc' c' rs' hD' hS' hl' hk' hR'
        have e0:sl text 0 0=[]:=by simp [sl]
        refine wpAny_bind (slice_ok (by lia) ?_)
        rw [e0]
        refine wpAny_bind (wpAny_seqItems hD' rfl ?_)
        split
        · rename_i he
          have:acc'=[]:=by simpa using he
          subst this; cases hS'
          exact wpAny_bind (wpAny_pure (wpAny_pure (hR' _ _)))
        · refine wpAny_bind (joinS hD' hS' hk' ?_ fun t' tk'=>wpAny_pure ?_)
          · simp; lia
          · have e1:([]:List Nat).intercalate rs'=rs'.flatten:=by
              clear hR' hS' hk' hl'
              induction rs' with
              | nil=>rfl
              | cons a r ih=>cases r with
                | nil=>simp [List.intercalate]
                | cons b r=>rw [List.flatten_cons,← ih]; simp [List.intercalate,List.intersperse]
            rw [e1]; exact hR' _ _
      have slen:∀ b e,(sl text b e).length≤100:=fun b e=>by unfold sl; simp; lia
      have szA:acc.length≤1000:=by have:=hS.length; lia
      cases r with
      | none =>
        simp only [Option.some.injEq] at hsub
        show wpAny _ _ (if ((done:Int).toNat<text.length) then (Builtin.Re.reSlice text.toArray 0 ((done:Int).toNat) text.length >>= fun v=>updateSeq D (fun x=>x.push v) >>= fun _=>_) else _) _ _ s
        rw [Int.toNat_natCast]
        split
        · rename_i hlt
          rw [if_pos hlt] at hsub; subst hsub
          refine wpAny_bind (slice_ok (by lia) ?_)
          refine wpAny_bind (push_ok hD szA fun h' c' hD' hs'=>?_)
          refine tail (up (tkd s (s.toks+1)) h' (s.toks+1)) _ _ _ hD' hS.snoc (by simp; lia) ?_ fun tk' t'=>?_
          · intro r hr; rcases List.mem_append.mp hr with q | q
            · exact hsz r q
            · rw [List.mem_singleton] at q; subst q; exact slen _ _
          · exact hR _ _ _ ⟨fun b o hb e=>by rw [hs'.2 b (fun q=>hb (by rw [q]; exact .head _))]; exact e,by rw [hs'.1]; exact Nat.le_refl _⟩
        · rename_i hlt
          rw [if_neg hlt] at hsub; subst hsub
          refine tail _ _ _ _ hD hS (by lia) hsz fun tk' t'=>?_
          have:=hR s.heap tk' t' (Ext.refl _ _)
          rwa [List.append_nil] at this
      | some be =>
        obtain ⟨b,e⟩:=be
        rintro m rfl rfl
        simp only [Option.map_eq_some_iff] at hsub
        obtain ⟨rest,hrest,rfl⟩:=hsub
        have after:∀ (s':Shared) (acc':List Value) (c':Nat) (rs':List (List Nat)),Pat s'.heap P code→s'.heap.get? D=some (W.listOf acc'.toArray c')→Strs acc' rs'→rs'.length≤rs.length+1→(∀ r∈rs',r.length≤100) →
          (∀ h' tk' t',Ext [D] s'.heap h'→R (.ok (.ret (.str (S (rs'++[repl]++rest).flatten) t'))) (up s' h' tk')) →
          wpAny (model prog w) A.in1 (updateSeq D (fun x=>x.push (.str (S repl) u)) >>= fun _=>again (.builtin "re.Pattern.sub.loop" ⟨[.ref P,.str (S text) t,.str (S repl) u,rawInt 0,rawInt 0,rawInt (n+1),rawInt m.handed,rawInt m.handed,.bool (m.handed==m.start),.ref D,.bool false],[]⟩))
            (fun fin s'=>match fin with | .done f=>R (.ok f) s' | .again c'=>c'.quiet=true∧codeAny (model prog w) A c' R s') (fun e s'=>R (.error e) s') s':=by
          intro s' acc' c' rs' X' hD' hS' hl' hk' hR'
          refine wpAny_bind (push_ok hD' (by have:=hS'.length; lia) fun h' c'' hD'' hs'=>wpAny_pure ⟨plainId_quiet plain_sub_loop _,?_⟩)
          refine ih m.handed m.handed (m.handed==m.start) (n+1) rest _ _ _ _ hrest (X'.keepsBut hD' fun b o hb e=>by rw [hs'.2 b hb]; exact e) hD'' hS'.snoc (by simp; lia) ?_ fun h'' tk' t' ex=>?_
          · intro r hr; rcases List.mem_append.mp hr with q | q
            · exact hk' r q
            · rw [List.mem_singleton] at q; subst q; exact hr'
          · exact hR' _ _ _ (Ext.trans ⟨fun b o hb e=>by rw [hs'.2 b (fun q=>hb (by rw [q]; exact .head _))]; exact e,by rw [hs'.1]; exact Nat.le_refl _⟩ ex)
        show wpAny _ _ (if ((done:Int).toNat<m.start) then (Builtin.Re.reSlice text.toArray 0 ((done:Int).toNat) m.start >>= fun v=>updateSeq D (fun x=>x.push v) >>= fun _=>_) else _) _ _ s
        rw [Int.toNat_natCast]
        split
        · rename_i hlt
          refine wpAny_bind (slice_ok (by lia) ?_)
          refine wpAny_bind (push_ok hD szA fun h' c' hD' hs'=>?_)
          have hk:Ext [D] s.heap h':=⟨fun b o hb e=>by rw [hs'.2 b (fun q=>hb (by rw [q]; exact .head _))]; exact e,by rw [hs'.1]; exact Nat.le_refl _⟩
          refine after (up (tkd s (s.toks+1)) h' (s.toks+1)) _ _ _ (X.keepsBut hD fun b o hb e=>by rw [hs'.2 b hb]; exact e) hD' hS.snoc (by simp) ?_ fun h'' tk' t' ex=>?_
          · intro r hr; rcases List.mem_append.mp hr with q | q
            · exact hsz r q
            · rw [List.mem_singleton] at q; subst q; exact slen _ _
          · have:=hR h'' tk' t' (hk.trans ex)
            simpa [hlt] using this
        · rename_i hlt
          refine after _ _ _ _ X hD hS (by lia) hsz fun h'' tk' t' ex=>?_
          have:=hR h'' tk' t' ex
          simpa [hlt] using this
theorem al0:∀ d,P1 d:=epsAll ne0 P1 (by with_unfolding_all exact bd0)
end Zsubloop
end
section
variable {prog:Program} {w:World} {A:Around} {E:Value→Shared→Prop} {s:Shared}
theorem sub_loop {R:Result→Shared→Prop} {P D:Addr} {code text repl:List Nat} {t u:Tok}:Zsubloop.P0 prog w A R P D code text repl t u:=Zsubloop.al0 ((((prog,w),A),((R,P),D)),(((code,text),repl),(t,u)))
theorem slot_sub:Slot "re.Pattern" "sub" "re.Pattern.sub" :=
  .of (owner:="re.Pattern") (n:="sub") (by rw [typeLookup_type,builtinLookup_eq_fast]; kernel_rfl) (by decide +kernel) (by decide +kernel) (by decide +kernel)
    (by first | exact .inl (by decide +kernel) | exact .inr (by decide +kernel)) (by rw [isSubtype_type]; kernel_rfl)
theorem type_sub:typeOf (.builtin "re.Pattern.sub")=pure (.type "method_descriptor"):=by show builtinType _=_; rw [builtinType_eq_fast]; kernel_rfl
theorem entry_sub:entryFor table "re.Pattern.sub"=some Builtin.«re.Pattern.sub»:=entryFor_of_tree (by kernel_rfl)
theorem args_sub_3 (a b c:Value):argsOk "re.Pattern.sub" ⟨[a,b,c],[]⟩:=by unfold argsOk; kernel_rfl
theorem plainAttrs_pat:PlainAttrs "re.Pattern" :=
  ⟨⟨"object.__getattribute__",by rw [typeLookup_type,builtinLookup_eq_fast]; kernel_rfl,by decide +kernel⟩,by rw [typeLookup_type,builtinLookup_eq_fast]; kernel_rfl⟩
theorem str_no_call:typeLookup (.type "str") "__call__"=pure none:=by rw [typeLookup_type,builtinLookup_eq_fast]; kernel_rfl
end
end
section
section
variable {prog:Program} {w:World} {A:Around} {E:Value→Shared→Prop} {s:Shared}
theorem sub_call {P:Addr} {code text repl out:List Nat} {t u:Tok} {Q:Value→Shared→Prop} (X:Pat s.heap P code) (hz:text.length≤100) (hr:repl.length≤100) (h92:repl.contains 92=false) (ho:psub code text repl=some out)
    (h:∀ h' tk' t',Ext [] s.heap h'→Q (.str (S out) t') (up s h' tk')):wpAny (model prog w) A (call (.builtin "re.Pattern.sub") [.ref P,.str (S repl) u,.str (S text) t]) Q E s:=by
  obtain ⟨fs,T,ws,n,h1,_⟩:=X.obj
  refine wpAny_call (codeAny_call_builtin slot_sub.plain entry_sub (slot_sub.check _ _ _ _ _ _ _ _ ⟨_,h1,rfl⟩ (args_sub_3 _ _ _) ?_))
  show wpAny _ A.in1 (Builtin.Re.reNamed "re.Pattern.sub" "sub" ["repl","string","count"] 2 [.str (S repl) u,.str (S text) t] [] >>= _) _ _ s
  refine wpAny_bind (wpAny_of_eq (show _=pure [some (.str (S repl) u),some (.str (S text) t),none] from rfl) ?_)
  refine wpAny_bind (wpAny_pure ?_)
  refine wpAny_bind (wpAny_specialOf_val rfl str_no_call ?_)
  have hc:(!(S repl).cps.contains 92)=true:=by simp [S] at h92 ⊢; exact h92
  refine wpAny_bind (wpAny_of_eq (show asStr? (.str (S repl) u)=pure (some (S repl)) from rfl) ?_)
  refine wpAny_bind (wpAny_pure ?_)
  show wpAny _ A.in1 (if (!(S repl).cps.contains 92)=true then (pure (Value.str (S repl) u,0) >>= _) else _) _ _ s
  rw [if_pos hc]
  refine wpAny_bind (wpAny_pure ?_)
  refine wpAny_bind (wpAny_holding (whole_ok X ?_))
  refine wpAny_bind (wpAny_newObj_type ?_)
  refine wpAny_pure ⟨plainId_quiet plain_sub_loop _,?_⟩
  unfold psub at ho
  simp only [Option.map_eq_some_iff] at ho
  obtain ⟨pieces,hp,rfl⟩:=ho
  have gr:∀ b o,s.heap.get? b=some o→(s.heap.push { cls:=.type "list",data:=.seq (List.toArray []) }).get? b=some o:=fun b o e=>Heap.get?_push_of_some _ e
  refine sub_loop hz hr 9 0 0 false 0 pieces _ [] 0 [] hp (X.keeps gr) (Heap.get?_push_size _ rfl) .nil (by simp) (fun _ h=>by cases h) fun h' tk' t' ex=>?_
  exact h h' tk' t' ⟨fun b o _ e=>ex.keep b o (fun q=>by rw [List.mem_singleton] at q; exact absurd q (Nat.ne_of_lt (Heap.lt_size e))) (gr b o e),Nat.le_trans (by simp) ex.le⟩
noncomputable def ob205:Obj:={ cls:=.type "re.Pattern",data:=.fields #[.str (S [40,63,109,41,94,92,46]) 535,.int 40 548,.int 0 0,.none,.none,.ref 204,.int 0 0] }
noncomputable def ob204:Obj:={ cls:=.type "tuple",data:=.seq #[.int 14 0,.int 4 0,.int 0 0,.int 1 0,.int 1 0,.int 6 0,.int 1 0,.int 16 0,.int 46 0,.int 1 0] 0 }
noncomputable def ob210:Obj:={ cls:=.type "re.Pattern",data:=.fields #[.str (S [40,63,58,92,114,92,110,124,92,110,124,92,114,40,63,33,92,110,41,41]) 551,.int 32 590,.int 0 0,.none,.none,.ref 209,.int 0 0] }
noncomputable def ob209:Obj:={ cls:=.type "tuple",data:=.seq #[.int 14 0,.int 9 0,.int 4 0,.int 1 0,.int 2 0,.int 16 0,.int 10 0,.int 16 0,.int 13 0,.int 0 0,.int 7 0,.int 7 0,.int 16 0,.int 13 0,.int 16 0,.int 10 0,.int 15 0,.int 18 0,.int 5 0,.int 16 0,.int 10 0,.int 15 0,.int 13 0,.int 11 0,.int 16 0,.int 13 0,.int 5 0,.int 5 0,.int 0 0,.int 16 0,.int 10 0,.int 1 0,.int 15 0,.int 2 0,.int 0 0,.int 1 0] 0 }
theorem lk205 (w:World):(K w).lookup 205=some ob205:=by kernel_rfl
theorem lk204 (w:World):(K w).lookup 204=some ob204:=by kernel_rfl
theorem lk210 (w:World):(K w).lookup 210=some ob210:=by kernel_rfl
theorem lk209 (w:World):(K w).lookup 209=some ob209:=by kernel_rfl
theorem pat1 {h:Heap} (T:Wd w h):Pat h 205 code1:=⟨_,_,_,_,T.X 205 _ (lk205 w),rfl,rfl,rfl,T.X 204 _ (lk204 w),by decide +kernel⟩
theorem pat2 {h:Heap} (T:Wd w h):Pat h 210 code2:=⟨_,_,_,_,T.X 210 _ (lk210 w),rfl,rfl,rfl,T.X 209 _ (lk209 w),by decide +kernel⟩
theorem patM {name:Str} {id:String} {P:Addr} {code:List Nat} {pl:Sem Bool} {Q:Value×List Value→Shared→Prop} (X:Pat s.heap P code) (slot:Slot "re.Pattern" name id) (hty:typeOf (.builtin id)=pure (.type "method_descriptor"))
    (h:Q (.builtin id,[.ref P]) s):wpAny (model prog w) A (getMethod (.ref P) name pl) Q E s:=by
  obtain ⟨fs,T,ws,n,h1,_⟩:=X.obj
  exact getMethod_builtin ⟨_,h1,rfl⟩ plainAttrs_pat slot hty (fun a e=>by cases e; exact ⟨_,h1,rfl⟩) h
theorem s_dots:(Str.ofString "..")=S [46,46]:=by kernel_rfl
theorem quotedata_call {text out:List Nat} {t:Tok} {Q:Value→Shared→Prop} (rm:Room A 2) (T:Wd w s.heap) (hz:text.length≤20) (hq:quoted text=some out)
    (h:∀ h' tk' t',Ext [] s.heap h'→Q (.str (S out) t') (up s h' tk')):wpAny (model prog w) A (call (.ref 217) [.str (S text) t]) Q E s:=by
  refine wpAny_call (enter (W:=[]) (binds:=[(("data":Str),.str (S text) t)]) rm.le' (fn217 T.X) T.lim (cd217 T.X) (fun _ h=>noMem h) rfl
    (BindsTo.of_eq (by kernel_rfl)) (by kernel_rfl) (by kernel_rfl) ?_ (by kernel_rfl) (by kernel_rfl) (by kernel_rfl))
  intro L h₀ tk₀ hL F N A₁ R₁ E₁ dA hret hnone
  replace h:=fun x0 x1 x2 x3=>hret _ _ (h x0 x1 x2 x3)
  change Fr s.heap L h₀ _ at F
  change News s.heap L h₀ [] at N
  unfold quoted at hq
  simp only [Option.bind_eq_some_iff] at hq
  obtain ⟨mid,hm,ho⟩:=hq
  split at ho
  case isFalse=>cases ho
  rename_i hmz
  have hT0:=T.keeps F.keep
  refine wpAny_execs_cons<|wpAny_Return_some<|methodCall_KW<|ldg (v:=.ref 205) T F (by kernel_rfl)<|patM (pat1 hT0) slot_sub type_sub<|callWith_method1<|spliced_more<|?_
  refine cstrS s_dots fun t0 tk0=>?_
  refine spliced_more<|methodCall_KW<|ldg (s:=tkd _ _) (v:=.ref 210) T F (by kernel_rfl)<|patM (s:=tkd _ _) (pat2 hT0) slot_sub type_sub<|callWith_method1<|spliced_more<|ldg (s:=tkd _ _) (v:=.str (S [13,10]) 592) T F (by kernel_rfl)<|spliced_more<|ld (s:=tkd _ _) F rfl<|spliced_none <|
    sub_call (s:=tkd _ _) (pat2 hT0) (by lia) (by decide) (by decide) hm fun h1 tk1 t1 ex1=>spliced_none<|?_
  have k1:∀ b o,h₀.get? b=some o→h1.get? b=some o:=fun b o e=>ex1.keep b o (fun h=>by cases h) e
  obtain ⟨F1,N1⟩:=grow F N k1
  refine sub_call (s:=up _ _ _) (pat1 (hT0.keeps k1)) hmz (by decide) (by decide) ho fun h2 tk2 t2 ex2=>?_
  have k2:∀ b o,h1.get? b=some o→h2.get? b=some o:=fun b o e=>ex2.keep b o (fun h=>by cases h) e
  obtain ⟨F2,N2⟩:=grow F1 N1 k2
  exact h h2 tk2 t2 (ext_of_fr (W:=[]) F2)
end
noncomputable def alltoks:Nat→List (List Nat)
  | 0=>[[]]
  | n+1=>(List.range 6).flatMap fun a=>(alltoks n).map (a::·)
theorem mem_alltoks:∀ toks:List Nat,(∀ t∈toks,t<6)→toks∈alltoks toks.length:=by
  intro toks
  induction toks with
  | nil=>intro _; exact .head _
  | cons a r ih =>
    intro h
    show a::r∈(List.range 6).flatMap fun a=>(alltoks r.length).map (a::·)
    exact List.mem_flatMap.mpr ⟨a,List.mem_range.mpr (h a (.head _)),List.mem_map.mpr ⟨r,ih fun t ht=>h t (.tail _ ht),rfl⟩⟩
noncomputable def qok (toks:List Nat):Bool:=quoted (textOf toks)==some (sentOf (rowsOf toks))
theorem qok0:(alltoks 0).all qok=true:=by decide +kernel
theorem qok1:(alltoks 1).all qok=true:=by decide +kernel
theorem qok2:(alltoks 2).all qok=true:=by decide +kernel
theorem qok30:((alltoks 2).map (0::·)).all qok=true:=by decide +kernel
theorem qok31:((alltoks 2).map (1::·)).all qok=true:=by decide +kernel
theorem qok32:((alltoks 2).map (2::·)).all qok=true:=by decide +kernel
theorem qok33:((alltoks 2).map (3::·)).all qok=true:=by decide +kernel
theorem qok34:((alltoks 2).map (4::·)).all qok=true:=by decide +kernel
theorem qok35:((alltoks 2).map (5::·)).all qok=true:=by decide +kernel
theorem quoted_ok {toks:List Nat} (h3:toks.length≤3) (h6:∀ t∈toks,t<6):quoted (textOf toks)=some (sentOf (rowsOf toks)):=by
  have hm:=mem_alltoks toks h6
  have:qok toks=true:=by
    have:toks.length=0∨toks.length=1∨toks.length=2∨toks.length=3:=by lia
    rcases this with e | e | e | e <;> rw [e] at hm
    · exact List.all_eq_true.mp qok0 _ hm
    · exact List.all_eq_true.mp qok1 _ hm
    · exact List.all_eq_true.mp qok2 _ hm
    · obtain ⟨a,ha,hm⟩:=List.mem_flatMap.mp (show toks∈(List.range 6).flatMap fun a=>(alltoks 2).map (a::·) from hm)
      have:a=0∨a=1∨a=2∨a=3∨a=4∨a=5:=by have:=List.mem_range.mp ha; lia
      rcases this with rfl | rfl | rfl | rfl | rfl | rfl
      · exact List.all_eq_true.mp qok30 _ hm
      · exact List.all_eq_true.mp qok31 _ hm
      · exact List.all_eq_true.mp qok32 _ hm
      · exact List.all_eq_true.mp qok33 _ hm
      · exact List.all_eq_true.mp qok34 _ hm
      · exact List.all_eq_true.mp qok35 _ hm
  exact eq_of_beq this
end
section
noncomputable abbrev inf (dx:Addr) (sl:Array (Option Value)):Obj:=⟨.ref 99,some dx,.plain,sl⟩
section
variable {prog:Program} {w:World} {A:Around} {E:Value→Shared→Prop} {s:Shared} {g:Heap} {L x dx:Addr} {m:Str→Option Value} {news news':List (Addr×Obj)} {od:Obj} {sl:Array (Option Value)} {v:Value} {expr:Bool}
theorem setNode {Q:Unit→Shared→Prop} (T:Wd w g) (F:Fr g L s.heap m) (N:News g L s.heap news) (hx:s.heap.get? x=some (inf dx sl)) (hd:s.heap.get? dx=some od)
    {sl':Array (Option Value)} (e:(sl++Array.replicate (0+1 - sl.size) none).setIfInBounds 0 (some v)=sl') (U:Upd x (inf dx sl) (inf dx sl') news news')
    (h:∀ h' tk,Fr g L h' m→News g L h' news'→Q () (up s h' tk)):wpAny (model prog w) A (setAttr (.ref x) (Str.ofString "node") v) Q E s :=
  set_slot (K:=K w) (p:=100) (i:=0) F T.X N ⟨hx,rfl,rfl,hd⟩ (by kernel_rfl) (by kernel_rfl) (by kernel_rfl) (by kernel_rfl) (by kernel_rfl) (by decide) (by rw [e]) rfl U fun h' F' N'=>h h' _ F' N'
theorem setNp {Q:Unit→Shared→Prop} (T:Wd w g) (F:Fr g L s.heap m) (N:News g L s.heap news) (hx:s.heap.get? x=some (inf dx sl)) (hd:s.heap.get? dx=some od)
    {sl':Array (Option Value)} (e:(sl++Array.replicate (1+1 - sl.size) none).setIfInBounds 1 (some v)=sl') (U:Upd x (inf dx sl) (inf dx sl') news news')
    (h:∀ h' tk,Fr g L h' m→News g L h' news'→Q () (up s h' tk)):wpAny (model prog w) A (setAttr (.ref x) (Str.ofString "npredecessors") v) Q E s :=
  set_slot (K:=K w) (p:=101) (i:=1) F T.X N ⟨hx,rfl,rfl,hd⟩ (by kernel_rfl) (by kernel_rfl) (by kernel_rfl) (by kernel_rfl) (by kernel_rfl) (by decide) (by rw [e]) rfl U fun h' F' N'=>h h' _ F' N'
theorem setSuc {Q:Unit→Shared→Prop} (T:Wd w g) (F:Fr g L s.heap m) (N:News g L s.heap news) (hx:s.heap.get? x=some (inf dx sl)) (hd:s.heap.get? dx=some od)
    {sl':Array (Option Value)} (e:(sl++Array.replicate (2+1 - sl.size) none).setIfInBounds 2 (some v)=sl') (U:Upd x (inf dx sl) (inf dx sl') news news')
    (h:∀ h' tk,Fr g L h' m→News g L h' news'→Q () (up s h' tk)):wpAny (model prog w) A (setAttr (.ref x) (Str.ofString "successors") v) Q E s :=
  set_slot (K:=K w) (p:=102) (i:=2) F T.X N ⟨hx,rfl,rfl,hd⟩ (by kernel_rfl) (by kernel_rfl) (by kernel_rfl) (by kernel_rfl) (by kernel_rfl) (by decide) (by rw [e]) rfl U fun h' F' N'=>h h' _ F' N'
theorem getNode {Q:Value→Shared→Prop} {a b:Option Value} (T:Wd w g) (F:Fr g L s.heap m) (hx:s.heap.get? x=some (inf dx #[some v,a,b])) (hd:s.heap.get? dx=some od) (hh:handedIn v=true)
    (h:∀ tk,Q v (tkd s tk)):wpAny (model prog w) A (getAttr (.ref x) (Str.ofString "node") expr) Q E s :=
  get_slot (K:=K w) (p:=100) (i:=0) F T.X ⟨hx,rfl,rfl,hd⟩ (by kernel_rfl) (by kernel_rfl) (by kernel_rfl) (by kernel_rfl) (by kernel_rfl) (by kernel_rfl) rfl hh (h _)
theorem getNp {Q:Value→Shared→Prop} {a b:Option Value} (T:Wd w g) (F:Fr g L s.heap m) (hx:s.heap.get? x=some (inf dx #[a,some v,b])) (hd:s.heap.get? dx=some od) (hh:handedIn v=true)
    (h:∀ tk,Q v (tkd s tk)):wpAny (model prog w) A (getAttr (.ref x) (Str.ofString "npredecessors") expr) Q E s :=
  get_slot (K:=K w) (p:=101) (i:=1) F T.X ⟨hx,rfl,rfl,hd⟩ (by kernel_rfl) (by kernel_rfl) (by kernel_rfl) (by kernel_rfl) (by kernel_rfl) (by kernel_rfl) rfl hh (h _)
theorem getSuc {Q:Value→Shared→Prop} {a b:Option Value} (T:Wd w g) (F:Fr g L s.heap m) (hx:s.heap.get? x=some (inf dx #[a,b,some v])) (hd:s.heap.get? dx=some od) (hh:handedIn v=true)
    (h:∀ tk,Q v (tkd s tk)):wpAny (model prog w) A (getAttr (.ref x) (Str.ofString "successors") expr) Q E s :=
  get_slot (K:=K w) (p:=102) (i:=2) F T.X ⟨hx,rfl,rfl,hd⟩ (by kernel_rfl) (by kernel_rfl) (by kernel_rfl) (by kernel_rfl) (by kernel_rfl) (by kernel_rfl) rfl hh (h _)
theorem nodeinit {R:Result→Shared→Prop} {k:Int} {t:Tok} (rm:Room A 1) (T:Wd w (hideAll s.heap [x])) (hx:s.heap.get? x=some (instObj 99 dx)) (hd:s.heap.get? dx=some (dictOf [] 0)) (hne:dx≠x)
    (h:∀ h' tk' sl t0,Ext [x] s.heap h'→h'.get? x=some (inf dx #[some (.int k t),some (.int 0 t0),some (.ref sl)])→h'.get? sl=some (W.listOf #[] 0)→s.heap.get? sl=none→R (.ok (.ret .none)) (up s h' tk')) :
    codeAny (model prog w) A (.call (.ref 95) ⟨[.ref x,.int k t],[]⟩) R s:=by
  refine enter (W:=[(x,instObj 99 dx)]) (binds:=[(("self":Str),.ref x),(("node":Str),.int k t)]) rm.le' (fn95 T.of_hide.X) T.of_hide.lim (cd95 T.of_hide.X) (fun p hp=>by rw [List.mem_singleton] at hp; subst hp; exact hx) rfl
    (BindsTo.of_eq (by kernel_rfl)) (by kernel_rfl) (by kernel_rfl) ?_ (by kernel_rfl) (by kernel_rfl) (by kernel_rfl)
  intro L h₀ tk₀ hL F N A₁ R₁ E₁ dA hret hnone
  replace h:=fun x0 x1 x2 x3 x4 x5 x6 x7=>hnone _ (h x0 x1 x2 x3 x4 x5 x6 x7)
  change News (hideAll s.heap [x]) L h₀ [(x,inf dx #[])] at N
  change Fr (hideAll s.heap [x]) L h₀ _ at F
  have dk:(hideAll s.heap [x]).get? dx=some (dictOf [] 0):=hideAll_get _ hd (fun q=>hne (List.mem_singleton.mp q))
  refine wpAny_execs_cons<|plainObj_wpAny_Assign_Attribute<|ld F rfl<|ld F rfl<|setNode (sl':=#[some (.int k t)]) T F N (N _ (.head _)).1 (F.keep _ _ dk) (by kernel_rfl) (.head fun _ h=>noMem h) fun h1 tk1 F1 N1=>?_
  refine wpAny_execs_cons<|plainObj_wpAny_Assign_Attribute<|cint fun t0 tk2=>ld (s:=tkd _ _) F1 rfl<|setNp (s:=tkd _ _) T F1 N1 (N1 _ (.head _)).1 (F1.keep _ _ dk) (sl':=#[some (.int k t),some (.int 0 t0)]) (by kernel_rfl) (.head fun _ h=>noMem h) fun h2 tk3 F2 N2=>?_
  refine wpAny_execs_cons<|plainObj_wpAny_Assign_Attribute<|List_<|spliced_none<|newLst F2 N2 fun sl h3 F3 N3 lt3=>ld (s:=up _ _ _) F3 rfl<|setSuc (s:=up _ _ _) T F3 N3 (N3 _ (.tail _ (.head _))).1 (F3.keep _ _ dk) (sl':=#[some (.int k t),some (.int 0 t0),some (.ref sl)]) (by kernel_rfl) (.tail (Nat.ne_of_gt (lt3 _ (.head _))) (.head fun _ h=>noMem h)) fun h4 tk4 F4 N4=>?_
  refine wpAny_execs_nil<|?_
  refine h _ _ sl t0 (ext_of_fr (W:=[x]) F4) (N4 _ (.tail _ (.head _))).1 (N4 _ (.head _)).1 ?_
  have q:=(N4 _ (.head _)).2.2
  cases z:s.heap.get? sl with
  | none=>rfl
  | some o =>
    exact absurd (hideAll_get [x] z fun q=>absurd (List.mem_singleton.mp q) (Nat.ne_of_gt (lt3 _ (.head _)))) (by rw [q]; simp)
end
end
section
section
variable {prog:Program} {w:World} {A:Around} {E:Value→Shared→Prop} {s:Shared} {g:Heap} {L O dx D:Addr} {m:Str→Option Value} {news news':List (Addr×Obj)} {es es':List DictEntry} {n n':Nat} {v:Value} {expr:Bool} {name:Str}
theorem getS {Q:Value→Shared→Prop} (T:Wd w g) (F:Fr g L s.heap m) (hO:s.heap.get? O=some (instObj 196 dx)) (hdx:s.heap.get? dx=some (dictOf es n)) (hl:getL name es=some (some v))
    (h:∀ tk,Q v (tkd s tk)) (hh:handedIn v=true:=by rfl) (hc:findIn (K w) (.ref 196) name=some none:=by kernel_rfl) (hg:plainGet (K w) 196 name=true:=by kernel_rfl):wpAny (model prog w) A (getAttr (.ref O) name expr) Q E s :=
  get_own (K:=K w) F T.X ⟨hO,rfl,rfl,hdx⟩ hg (by kernel_rfl) hc rfl hl hh (h _)
theorem setS {Q:Unit→Shared→Prop} (T:Wd w g) (F:Fr g L s.heap m) (N:News g L s.heap news) (hO:s.heap.get? O=some (instObj 196 dx)) (hdx:s.heap.get? dx=some (dictOf es n)) (hl:(getL name es).isSome=true)
    (e:(putL name (PyData.keyHash w.params name) (.str name (s.toks+1)) v es,putN name es n)=(es',n')) (U:Upd dx (dictOf es n) (dictOf es' n') news news') (hz:es'.length≤1000)
    (h:∀ h' tk,Fr g L h' m→News g L h' news'→Q () (up s h' tk)) (ht:takerIn (K w) 196 name=some none:=by kernel_rfl):wpAny (model prog w) A (setAttr (.ref O) name v) Q E s :=
  set_dict (K:=K w) F T.X N ⟨hO,rfl,rfl,hdx⟩ rfl (by kernel_rfl) (by kernel_rfl) ht (by kernel_rfl) hl e U hz fun h' F' N'=>h h' _ F' N'
theorem methS {pl:Sem Bool} {f:Addr} {Q:Value×List Value→Shared→Prop} (T:Wd w g) (F:Fr g L s.heap m) (hO:s.heap.get? O=some (instObj 196 dx)) (hdx:s.heap.get? dx=some (dictOf es n)) (hl:getL name es=some none)
    (h:Q (.ref f,[.ref O]) s) (hf:findIn (K w) (.ref 196) name=some (some (.ref f)):=by kernel_rfl) (hi:isFn (K w) (.ref f)=true:=by kernel_rfl) (hg:plainGet (K w) 196 name=true:=by kernel_rfl):wpAny (model prog w) A (getMethod (.ref O) name pl) Q E s :=
  method_inst (K:=K w) F T.X ⟨hO,rfl,rfl,hdx⟩ hg hf hi hl h
end
noncomputable def sd (w:World) (t1 t2 t3 t4:Tok) (a b c d:Value):List DictEntry :=
  [⟨PyData.keyHash w.params "_node2info",.str "_node2info" t1,a⟩,⟨PyData.keyHash w.params "_ready_nodes",.str "_ready_nodes" t2,b⟩,⟨PyData.keyHash w.params "_npassedout",.str "_npassedout" t3,c⟩,⟨PyData.keyHash w.params "_nfinished",.str "_nfinished" t4,d⟩]
section
variable {w:World} {t1 t2 t3 t4:Tok} {a b c d v:Value} {n:Nat} {h:Int} {k:Value}
theorem sd_n2i:getL (Str.ofString "_node2info") (sd w t1 t2 t3 t4 a b c d)=some (some a):=by kernel_rfl
theorem sd_rdy:getL (Str.ofString "_ready_nodes") (sd w t1 t2 t3 t4 a b c d)=some (some b):=by kernel_rfl
theorem sd_out:getL (Str.ofString "_npassedout") (sd w t1 t2 t3 t4 a b c d)=some (some c):=by kernel_rfl
theorem sd_fin:getL (Str.ofString "_nfinished") (sd w t1 t2 t3 t4 a b c d)=some (some d):=by kernel_rfl
theorem sd_gni:getL (Str.ofString "_get_nodeinfo") (sd w t1 t2 t3 t4 a b c d)=some none:=by kernel_rfl
theorem sd_add:getL (Str.ofString "add") (sd w t1 t2 t3 t4 a b c d)=some none:=by kernel_rfl
theorem sd_prepare:getL (Str.ofString "prepare") (sd w t1 t2 t3 t4 a b c d)=some none:=by kernel_rfl
theorem sd_ready:getL (Str.ofString "get_ready") (sd w t1 t2 t3 t4 a b c d)=some none:=by kernel_rfl
theorem sd_active:getL (Str.ofString "is_active") (sd w t1 t2 t3 t4 a b c d)=some none:=by kernel_rfl
theorem sd_done:getL (Str.ofString "done") (sd w t1 t2 t3 t4 a b c d)=some none:=by kernel_rfl
theorem sd_cycle:getL (Str.ofString "_find_cycle") (sd w t1 t2 t3 t4 a b c d)=some none:=by kernel_rfl
theorem sd_put_rdy:(putL (Str.ofString "_ready_nodes") h k v (sd w t1 t2 t3 t4 a b c d),putN (Str.ofString "_ready_nodes") (sd w t1 t2 t3 t4 a b c d) n)=(sd w t1 t2 t3 t4 a v c d,n):=by kernel_rfl
theorem sd_put_out:(putL (Str.ofString "_npassedout") h k v (sd w t1 t2 t3 t4 a b c d),putN (Str.ofString "_npassedout") (sd w t1 t2 t3 t4 a b c d) n)=(sd w t1 t2 t3 t4 a b v d,n):=by kernel_rfl
theorem sd_put_fin:(putL (Str.ofString "_nfinished") h k v (sd w t1 t2 t3 t4 a b c d),putN (Str.ofString "_nfinished") (sd w t1 t2 t3 t4 a b c d) n)=(sd w t1 t2 t3 t4 a b c v,n):=by kernel_rfl
end
section
variable {prog:Program} {w:World} {A:Around} {E:Value→Shared→Prop} {s:Shared} {D:Addr} {od:Obj} {kvs:List (Int×Value)} {k:Int} {t:Tok} {v:Value} {g:Heap} {L:Addr} {m:Str→Option Value} {news:List (Addr×Obj)} {u:Obj→List (Addr×Obj)}
noncomputable abbrev Tab (prog:Program) (w:World) (h:Heap) (D:Addr) (kvs:List (Int×Value)):Prop:=h.DictOf (intKind prog w) D kvs∧(D==sysModules)=false
theorem tab_of (hD:s.heap.get? D=some od) (hod:od.IsDictOf (intKind prog w) kvs) (lo:(D==sysModules)=false):Tab prog w s.heap D kvs:=⟨Heap.dictOf_iff.mpr ⟨od,hD,hod⟩,lo⟩
theorem dMeth {name:Str} {id:String} {pl:Sem Bool} {Q:Value×List Value→Shared→Prop} (X:Tab prog w s.heap D kvs) (slot:Slot "dict" name id) (ty:typeOf (.builtin id)=pure (.type "method_descriptor"))
    (h:Q (.builtin id,[.ref D]) s):wpAny (model prog w) A (getMethod (.ref D) name pl) Q E s :=
  getMethod_builtin X.1.typeIs PySem.F.plainAttrs_dict slot ty X.1.mapOf.noDict h
theorem dGet {Q:Value→Shared→Prop} (X:Tab prog w s.heap D kvs) (x:Option Value) (hl:valueAt kvs k=x) (h:∀ tk,Q (x.getD .none) (tkd s tk)):wpAny (model prog w) A (call (.builtin "dict.get") [.ref D,.int k t]) Q E s :=
  call_meetsIn PySem.F.slot_dict_get X.1.typeIs PySem.F.entry_dict_get (PySem.F.args_dict_get_2 _ _) (meets_dict_get _ D (intKind_is prog w k t) X.2) ⟨_,X.1.mapOf,by rw [hl]; exact h _⟩
theorem dItem {value slice:PySem.Expr} {Q:Value→Shared→Prop} (X:Tab prog w s.heap D kvs) (hl:valueAt kvs k=some v) (h:∀ tk,Q v (tkd s tk))
    (hs:subscripted slice false (.ref D) (.int k t)=operate [.ref D,.int k t] (getItem (.ref D) (.int k t)):=by with_unfolding_all rfl) (hg:∀ r,letTemporaryGo value (.ref D) r=pure ():=by intro _; with_unfolding_all rfl) :
    wpAny (model prog w) A (subscriptTail value slice (.ref D) (.int k t)) Q E s :=
  subscriptTail_builtin X.1.typeIs PySem.slot_dict_getitem.lookup (wpAny_getItem_of (intKind_is prog w k t) X.1.mapOf hl (h _)) hs hg
theorem dIn {Q:Value→Shared→Prop} (X:Tab prog w s.heap D kvs) (h:∀ tk,Q (.bool (valueAt kvs k).isSome) (tkd s tk)):wpAny (model prog w) A (compareOp .In (.int k t) (.ref D)) Q E s :=
  wpAny_in_of (intKind_is prog w k t) X.2 X.1.mapOf (h _)
theorem dSet {Q:Unit→Shared→Prop} (F:Fr g L s.heap m) (N:News g L s.heap news) (U:UpdF D od news u) (hod:od.IsDictOf (intKind prog w) kvs) (hz:kvs.length≤1000)
    (h:∀ h' tk od',Fr g L h' m→News g L h' (u od')→od'.IsDictOf (intKind prog w) (stored kvs k v)→Q () (up s h' tk)):wpAny (model prog w) A (setItem (.ref D) (.int k t) v) Q E s :=
  kda_set F N U hod (intKind_is prog w k t) (by rw [sizeLine_eq]; lia) fun h' o' F' N' d'=>h h' _ o' F' N' d'
end
end
section
section
variable {prog:Program} {w:World} {A:Around} {E:Value→Shared→Prop} {s:Shared} {O dx D:Addr} {n:Nat} {t1 t2 t3 t4:Tok} {vb vc vd:Value}
theorem gni_old {Q:Value→Shared→Prop} {k:Int} {t:Tok} {od:Obj} {kvs:List (Int×Value)} {a:Addr} (rm:Room A 1) (T:Wd w (hideAll s.heap [])) (hO:s.heap.get? O=some (instObj 196 dx)) (hdx:s.heap.get? dx=some (dictOf (sd w t1 t2 t3 t4 (.ref D) vb vc vd) n))
    (hD:s.heap.get? D=some od) (hod:od.IsDictOf (intKind prog w) kvs) (lo:(D==sysModules)=false) (hv:valueAt kvs k=some (.ref a))
    (h:∀ h' tk',Ext [] s.heap h'→Q (.ref a) (up s h' tk')):wpAny (model prog w) A (call (.ref 139) [.ref O,.int k t]) Q E s:=by
  refine wpAny_call (enter (W:=[]) (binds:=[(("self":Str),.ref O),(("node":Str),.int k t)]) rm.le' (fn139 T.of_hide.X) T.of_hide.lim (cd139 T.of_hide.X) (fun p hp=>noMem hp) rfl
    (BindsTo.of_eq (by kernel_rfl)) (by kernel_rfl) (by kernel_rfl) ?_ (by kernel_rfl) (by kernel_rfl) (by kernel_rfl))
  intro L h₀ tk₀ hL F N A₁ R₁ E₁ dA hret hnone
  replace h:=fun x0 x1 x2=>hret _ _ (h x0 x1 x2)
  change News (hideAll s.heap []) L h₀ [] at N
  change Fr (hideAll s.heap []) L h₀ _ at F
  have kO:=F.keep _ _ (hideAll_get [] hO (fun q=>by cases q))
  have kdx:=F.keep _ _ (hideAll_get [] hdx (fun q=>by cases q))
  have kD:=F.keep _ _ (hideAll_get [] hD (fun q=>by cases q))
  refine wpAny_execs_cons<|wpAny_If<|wpAny_isTrue_Compare1<|wpAny_NamedExpr<|methodCall_KW<|Attribute_name<|ld F rfl<|getS T F kO kdx sd_n2i fun _=>dMeth (s:=tkd _ _) (tab_of kD hod lo) PySem.F.slot_dict_get PySem.F.type_dict_get<|callWith_method1<|spliced_more<|ld (s:=tkd _ _) F rfl<|spliced_none<|dGet (s:=tkd _ _) (tab_of kD hod lo) _ hv fun _ =>
    wpAny_assign_Name<|st (s:=tkd _ _) F N fun h1 _ F1 N1=>wpAny_Constant_none<|is_none<|wpAny_truthy_bool ?_
  first | refine ifF (by simp) ?_ | rw [if_neg (by simp)]
  refine wpAny_execs_nil<|wpAny_execs_cons<|wpAny_Return_some<|ld F1 rfl ?_
  exact h h1 _ (ext_of_fr (W:=[]) F1)
theorem assSub {o i:Expr} {pos:Pos} {v:Value} {env:Env} {Q:Unit→Shared→Prop} {M:Model} (h:wpAny M A (eval o env) (fun ov s₁=>wpAny M A (eval i env) (fun iv s₂=>wpAny M A (setItem ov iv v) Q E s₂) E s₁) E s):wpAny M A (assign (.Subscript o i pos) env v) Q E s:=by
  rw [arm_assign_Subscript]
  exact wpAny_bind (wpAny_holding (wpAny_mono h (fun ov s₁ h₁=>wpAny_bind (wpAny_holding (wpAny_mono h₁ (fun iv s₂ h₂=>wpAny_bind (wpAny_standAt (wpAny_bind (wpAny_holding (wpAny_mono h₂ (fun _ _ h₃=>wpAny_release h₃) fun _ _ z=>z))))) fun _ _ z=>z))) fun _ _ z=>z))
theorem room_type {d:Nat} {C:Addr} {vals:List Value} {kw:List (Str×Value)} (rm:Room A (d+1)):Room (A.under (.builtin "type.__call__" ⟨.ref C::vals,kw⟩)) d :=
  ⟨rm.handled,by have:=rm.depth; show A.depth+1+d<_; lia,by have:=rm.units; show A.units+1+8*d<_; lia⟩
theorem gni_new {Q:Value→Shared→Prop} {k:Int} {t:Tok} {od:Obj} {kvs:List (Int×Value)} (rm:Room A 3) (T:Wd w (hideAll s.heap [D])) (hO:s.heap.get? O=some (instObj 196 dx)) (hdx:s.heap.get? dx=some (dictOf (sd w t1 t2 t3 t4 (.ref D) vb vc vd) n))
    (hD:s.heap.get? D=some od) (hod:od.IsDictOf (intKind prog w) kvs) (lo:(D==sysModules)=false) (hv:valueAt kvs k=none) (hz:kvs.length≤1000) (hOD:O≠D) (hdD:dx≠D)
    (h:∀ h' tk' a dy sl t0 od',Ext [D] s.heap h'→h'.get? a=some (inf dy #[some (.int k t),some (.int 0 t0),some (.ref sl)])→h'.get? dy=some (dictOf [] 0)→h'.get? sl=some (W.listOf #[] 0)→h'.get? D=some od' →
      od'.IsDictOf (intKind prog w) (stored kvs k (.ref a))→s.heap.get? a=none→s.heap.get? dy=none→s.heap.get? sl=none→Q (.ref a) (up s h' tk')):wpAny (model prog w) A (call (.ref 139) [.ref O,.int k t]) Q E s:=by
  refine wpAny_call (enter (W:=[(D,od)]) (binds:=[(("self":Str),.ref O),(("node":Str),.int k t)]) rm.le' (fn139 T.of_hide.X) T.of_hide.lim (cd139 T.of_hide.X) (fun p hp=>by rw [List.mem_singleton] at hp; subst hp; exact hD) rfl
    (BindsTo.of_eq (by kernel_rfl)) (by kernel_rfl) (by kernel_rfl) ?_ (by kernel_rfl) (by kernel_rfl) (by kernel_rfl))
  intro L h₀ tk₀ hL F N A₁ R₁ E₁ dA hret hnone
  replace h:=fun x0 x1 x2 x3 x4 x5 x6 x7 x8 x9 x10 x11 x12 x13 x14 x15=>hret _ _ (h x0 x1 x2 x3 x4 x5 x6 x7 x8 x9 x10 x11 x12 x13 x14 x15)
  have rm':=dA.room rm
  change News (hideAll s.heap [D]) L h₀ [(D,od)] at N
  change Fr (hideAll s.heap [D]) L h₀ _ at F
  have gO:=hideAll_get [D] hO (fun q=>hOD (List.mem_singleton.mp q))
  have gdx:=hideAll_get [D] hdx (fun q=>hdD (List.mem_singleton.mp q))
  have kO:=F.keep _ _ gO
  have kdx:=F.keep _ _ gdx
  have kD:=(N _ (.head _)).1
  refine wpAny_execs_cons<|wpAny_If<|wpAny_isTrue_Compare1<|wpAny_NamedExpr<|methodCall_KW<|Attribute_name<|ld F rfl<|getS T F kO kdx sd_n2i fun _=>dMeth (s:=tkd _ _) (tab_of kD hod lo) PySem.F.slot_dict_get PySem.F.type_dict_get<|callWith_method1<|spliced_more<|ld (s:=tkd _ _) F rfl<|spliced_none<|dGet (s:=tkd _ _) (tab_of kD hod lo) _ hv fun _ =>
    wpAny_assign_Name<|st (s:=tkd _ _) F N fun h1 _ F1 N1=>wpAny_Constant_none<|is_none<|wpAny_truthy_bool ?_
  rw [if_pos (by rfl)]
  refine wpAny_execs_cons<|wpAny_Assign_two<|Call_<|ldg (v:=.ref 99) T F1 (by kernel_rfl)<|callWith_K T.X (by kernel_rfl)<|spliced_more<|ld F1 rfl<|spliced_none ⟨T.X.keeps F1.keep,?_⟩
  refine call_cls (K:=K w) (fI:=95) F1 T.X N1 (by kernel_rfl) (by kernel_rfl) (by kernel_rfl) fun x dy h2 F2 N2 lt2 lty=>?_
  have xD:x≠D:=Nat.ne_of_gt (Nat.lt_trans (lt2 _ (.head _)) lty)
  have yD:dy≠D:=Nat.ne_of_gt (lt2 _ (.head _))
  refine nodeinit (room_type rm') (T.hide F2 fun a ha=>by rw [List.mem_singleton] at ha; subst ha; exact (N2 _ (.head _)).2.2) (N2 _ (.head _)).1 (N2 _ (.tail _ (.head _))).1 (Nat.ne_of_lt lty) fun h3 tk3 sl t0 ex3 hx3 hsl3 hfr3=>⟨rfl,?_⟩
  obtain ⟨F3,N3⟩:=back (W:=[(x,instObj 99 dy)]) (W':=[(sl,W.listOf #[] 0),(x,inf dy #[some (.int k t),some (.int 0 t0),some (.ref sl)])]) F2 N2 ex3
    (fun p hp => by rcases List.mem_cons.mp hp with rfl | hp
                    · exact hsl3
                    · rw [List.mem_singleton] at hp; subst hp; exact hx3)
    (fun p hp => by rcases List.mem_cons.mp hp with rfl | hp
                    · exact .inr hfr3
                    · rw [List.mem_singleton] at hp; subst hp; exact .inl (.head _))
    (fun p hp q=>by
      replace q:=List.mem_singleton.mp q
      rcases List.mem_cons.mp hp with rfl | hp
      · exact absurd q (Nat.ne_of_lt lty)
      · rw [List.mem_singleton] at hp; subst hp; exact absurd q.symm xD)
  have slD:sl≠D:=addr_ne hfr3 (N2 _ (.tail _ (.tail _ (.head _)))).1
  have slx:sl≠x:=addr_ne hfr3 (N2 _ (.head _)).1
  refine assSub<|Attribute_name<|ld (s:=up _ _ _) F3 rfl<|getS (s:=up _ _ _) T F3 (F3.keep _ _ gO) (F3.keep _ _ gdx) sd_n2i fun tk4=>ld (s:=tkd _ _) F3 rfl<|dSet (s:=tkd _ _) (D:=D) F3 N3 (.tail slD (.tail xD (.tail yD (.head fun _ h=>noMem h)))) hod hz fun h5 tk5 od' F5 N5 hod'=>?_
  refine wpAny_assign_Name<|st (s:=up _ _ _) F5 N5 fun h6 tk6 F6 N6=>?_
  refine wpAny_execs_nil<|wpAny_execs_cons<|wpAny_Return_some<|ld (s:=up _ _ _) F6 rfl ?_
  have fresh:∀ p,p∈[(sl,W.listOf #[] 0),(x,inf dy #[some (.int k t),some (.int 0 t0),some (.ref sl)]),(dy,dictOf [] 0),(D,od')]→p.1≠D→s.heap.get? p.1=none:=fun p hp hne=>by
    have q:=(N6 p hp).2.2
    cases z:s.heap.get? p.1 with
    | none=>rfl
    | some o=>exact absurd (hideAll_get [D] z fun q=>hne (List.mem_singleton.mp q)) (by rw [q]; simp)
  exact h h6 tk6 x dy sl t0 od' (ext_of_fr (W:=[D]) F6) (N6 _ (.tail _ (.head _))).1 (N6 _ (.tail _ (.tail _ (.head _)))).1 (N6 _ (.head _)).1 (N6 _ (.tail _ (.tail _ (.tail _ (.head _))))).1 hod'
    (fresh (x,_) (.tail _ (.head _)) xD) (fresh (dy,_) (.tail _ (.tail _ (.head _))) yD) (fresh (sl,_) (.head _) slD)
end
end
section
section
variable {prog:Program} {w:World} {A:Around} {E:Value→Shared→Prop} {s:Shared}
theorem enterV {R:Result→Shared→Prop} {a:Addr} {fd:FuncData} {body:List Stmt} {args:Args} {vs:List Value} {binds:Value→List (Str×Value)} {W:List (Addr×Obj)}
    (hroom:A.depth<recursionLimit) (ho:s.heap.get? a=some ⟨.type "function",none,.func fd,#[]⟩) (hlim:s.heap.NoLimit) (hcd:s.heap.CodeRec fd.code fd.qualname)
    (hW:∀ p∈W,s.heap.get? p.1=some p.2)
    (hbody:fd.body=.stmts body) (hbind:bindArgs fd args=newTuple vs >>= fun t=>pure (binds t)) (hz:vs.length≤1000) (hcell:(fd.scope.names.all fun x=>x.2 != .cell)=true) (hloc:∀ t,((binds t).all fun x=>decide (fd.scope.names.lookup x.1=some .local))=true)
    (h:∀ L h₀ tk,Fr (hideAll s.heap (W.map (·.1))) L h₀ (fun x=>(binds (.ref s.heap.objs.size)).reverse.lookup x)→News (hideAll s.heap (W.map (·.1))) L h₀ ((s.heap.objs.size,tupOf vs)::W)→∀ A₁ R₁ E₁,Deeper A A₁ (callEnv fd L a)→(∀ v s',R (.ok (.ret v)) s'→R₁ (.ret v) s')→(∀ s',R (.ok (.ret .none)) s'→R₁ .next s') →
      wpAny (model prog w) A₁ (execs body (callEnv fd L a)) R₁ E₁ (up s h₀ tk))
    (hco:fd.scope.isCoroutine=false:=by rfl) (hgen:fd.scope.isGenerator=false:=by rfl) (hk:fd.scope.kind=.function:=by rfl) :
    codeAny (model prog w) A (.call (.ref a) args) R s:=by
  refine codeAny_call_function hroom ho rfl hco hgen hbody hcd ?_
  rw [hbind]
  unfold newTuple
  refine wpAny_bind (wpAny_newObj_type (wpAny_pure ?_) (by show vs.toArray.size≤sizeLine; rw [List.size_toArray,sizeLine_eq]; lia))
  have k0:∀ b o,s.heap.get? b=some o→(s.heap.push { cls:=.type "tuple",data:=.seq vs.toArray }).get? b=some o:=fun b o e=>Heap.get?_push_of_some _ e
  refine wpAny_newFunctionEnv (fun x hx e=>by have:=List.all_eq_true.mp hcell x hx; rw [e] at this; exact Bool.false_ne_true this) (locs (hloc _)) (fun h₀ hns₀ hsb₀=>⟨(hlim.keeps k0).fresh _ hsb₀,codeAny_func (h _ h₀ _ ?_ ?_ _ _ _ (.mk' A _) (fun _ _ x=>x) (fun _ x=>x))⟩) hk
  · refine ⟨hns₀,fun b o e=>hsb₀.extBut b o (Nat.ne_of_lt (Heap.lt_size (k0 b o (of_hideAll _ e)))) (Heap.get?_push_of_some _ (k0 b o (of_hideAll _ e))),?_⟩
    rw [hideAll_size]; show _≤(s.heap.push _).objs.size; rw [Heap.size_push]; exact Nat.le_succ _
  · have k1:∀ b o,(s.heap.push { cls:=.type "tuple",data:=.seq vs.toArray }).get? b=some o→h₀.get? b=some o:=fun b o e=>hsb₀.extBut b o (Nat.ne_of_lt (Heap.lt_size e)) (Heap.get?_push_of_some _ e)
    intro p hp
    rcases List.mem_cons.mp hp with rfl | hp
    · have e1:=Heap.get?_push_size (o:={ cls:=.type "tuple",data:=.seq vs.toArray }) s.heap rfl
      refine ⟨k1 _ _ e1,Nat.ne_of_lt (Heap.lt_size e1),?_⟩
      cases z:(hideAll s.heap (W.map (·.1))).get? s.heap.objs.size with
      | none=>rfl
      | some o=>exact absurd (Heap.lt_size (of_hideAll _ z)) (Nat.lt_irrefl _)
    · have e1:=k0 _ _ (hW p hp)
      exact ⟨k1 _ _ e1,Nat.ne_of_lt (Heap.lt_size e1),hideAll_none _ (List.mem_map_of_mem hp)⟩
theorem bind146 (w:World) (O:Addr) (v:Value) (rest:List Value):bindArgs (fd146 w) ⟨.ref O::v::rest,[]⟩=newTuple rest >>= fun t=>pure [(("self":Str),.ref O),(("node":Str),v),(("predecessors":Str),t)]:=by
  cases rest with
  | nil=>kernel_rfl
  | cons r rest=>kernel_rfl
theorem bind179 (w:World) (O:Addr) (rest:List Value):bindArgs (fd179 w) ⟨.ref O::rest,[]⟩=newTuple rest >>= fun t=>pure [(("self":Str),.ref O),(("nodes":Str),t)]:=by
  cases rest with
  | nil=>kernel_rfl
  | cons r rest=>kernel_rfl
end
end
section
theorem news_at {g h:Heap} {L d:Addr} {o:Obj} {l:List (Addr×Obj)} (N:News g L h l) (hm:(d,o)∈l):News g L h ((d,o)::l.filter fun p=>decide (p.1≠d)):=fun p hp=>by
  rcases List.mem_cons.mp hp with rfl | hp
  · exact N _ hm
  · exact N _ (List.mem_filter.mp hp).1
theorem upd_at {d:Addr} {o o':Obj} {l:List (Addr×Obj)}:Upd d o o' ((d,o)::l.filter fun p=>decide (p.1≠d)) ((d,o')::l.filter fun p=>decide (p.1≠d)) :=
  .head fun p hp=>by have:=(List.mem_filter.mp hp).2; simpa using this
theorem news_to {g h:Heap} {L d:Addr} {o':Obj} {l l':List (Addr×Obj)} (N:News g L h ((d,o')::l.filter fun p=>decide (p.1≠d))) (hs:∀ p∈l',p=(d,o')∨(p∈l∧p.1≠d)):News g L h l':=fun p hp=>by
  rcases hs p hp with rfl | ⟨h1,h2⟩
  · exact N _ (.head _)
  · exact N _ (.tail _ (List.mem_filter.mpr ⟨h1,by simpa using h2⟩))
structure Nd where
  k:Int
  kt:Tok
  np:Int
  npt:Tok
  a:Addr
  dy:Addr
  sl:Addr
  ss:List Int
  vs:List Value
  n:Nat
noncomputable def Nd.ob (r:Nd):Obj:=inf r.dy #[some (.int r.k r.kt),some (.int r.np r.npt),some (.ref r.sl)]
noncomputable def Nd.led (r:Nd):List (Addr×Obj):=[(r.a,r.ob),(r.dy,dictOf [] 0),(r.sl,W.listOf r.vs.toArray r.n)]
noncomputable def led (nds:List Nd):List (Addr×Obj):=nds.flatMap Nd.led
noncomputable def kvsOf (nds:List Nd):List (Int×Value):=nds.map fun r=>(r.k,.ref r.a)
noncomputable abbrev AN:=Int×Int×List Int
noncomputable def absOf (nds:List Nd):List AN:=nds.map fun r=>(r.k,r.np,r.ss)
structure Nok (nds:List Nd):Prop where
  keys:(nds.map (·.k)).Nodup
  addrs:((led nds).map (·.1)).Nodup
  isI:∀ r∈nds,IntsAre r.vs r.ss
noncomputable def touch (st:List AN) (k:Int):List AN:=if st.any (fun e=>e.1==k) then st else st++[(k,0,[])]
noncomputable def modK (k:Int) (f:AN→AN) (st:List AN):List AN:=st.map fun e=>if e.1=k then f e else e
theorem led_append (a b:List Nd):led (a++b)=led a++led b:=by simp [led]
theorem led_cons (r:Nd) (b:List Nd):led (r::b)=r.led++led b:=by simp [led]
theorem valueAt_kvs (nds:List Nd) (k:Int):valueAt (kvsOf nds) k=(nds.find? fun r=>decide (r.k=k)).map fun r=>.ref r.a:=by
  induction nds with
  | nil=>rfl
  | cons r nds ih =>
    unfold valueAt kvsOf at *
    simp only [List.map_cons,List.find?_cons]
    by_cases h:r.k=k
    · simp [h]
    · simp only [h,decide_false]; exact ih
theorem find_some {nds:List Nd} {k:Int} {r:Nd} (h:(nds.find? fun r=>decide (r.k=k))=some r):r∈nds∧r.k=k :=
  ⟨List.mem_of_find?_eq_some h,by simpa using List.find?_some h⟩
theorem value_mem {nds:List Nd} (hn:(nds.map (·.k)).Nodup) {r:Nd} (hr:r∈nds):valueAt (kvsOf nds) r.k=some (.ref r.a):=by
  rw [valueAt_kvs]
  induction nds with
  | nil=>cases hr
  | cons q nds ih =>
    simp only [List.map_cons,List.nodup_cons] at hn
    rw [List.find?_cons]
    rcases List.mem_cons.mp hr with rfl | hr
    · simp
    · have:¬ q.k=r.k:=fun e=>hn.1 (by rw [e]; exact List.mem_map_of_mem hr)
      simp only [this,decide_false]
      exact ih hn.2 hr
theorem touch_old {nds:List Nd} {r:Nd} (hr:r∈nds):touch (absOf nds) r.k=absOf nds:=by
  unfold touch
  rw [if_pos]
  refine List.any_eq_true.mpr ⟨(r.k,r.np,r.ss),List.mem_map_of_mem (f:=fun r:Nd=>(r.k,r.np,r.ss)) hr,by simp⟩
theorem touch_new {nds:List Nd} {k:Int} (h:valueAt (kvsOf nds) k=none):touch (absOf nds) k=absOf nds++[(k,0,[])]∧k∉nds.map (·.k)∧stored (kvsOf nds) k v=kvsOf nds++[(k,v)]:=by
  rw [valueAt_kvs] at h
  simp only [Option.map_eq_none_iff,List.find?_eq_none,decide_eq_true_eq] at h
  refine ⟨?_,fun q=>?_,?_⟩
  · unfold touch
    rw [if_neg]
    intro q
    obtain ⟨e,he,q⟩:=List.any_eq_true.mp q
    obtain ⟨r,hr,rfl⟩:=List.mem_map.mp he
    exact h r hr (by simpa using q)
  · obtain ⟨r,hr,q⟩:=List.mem_map.mp q
    exact h r hr q
  · unfold stored
    rw [if_neg]
    intro q
    obtain ⟨e,he,q⟩:=List.any_eq_true.mp q
    obtain ⟨r,hr,rfl⟩:=List.mem_map.mp he
    exact h r hr (by simpa using q)
theorem mod_at {pre post:List Nd} {r r':Nd} {f:AN→AN} (hn:((pre++r::post).map (·.k)).Nodup) (hk:r'.k=r.k) (hf:(r'.k,r'.np,r'.ss)=f (r.k,r.np,r.ss)):absOf (pre++r'::post)=modK r.k f (absOf (pre++r::post)):=by
  have key:∀ q∈pre++post,q.k≠r.k:=fun q hq e=>by
    simp only [List.map_append,List.map_cons,List.nodup_append,List.nodup_cons] at hn
    rcases List.mem_append.mp hq with z | z
    · exact hn.2.2 _ (List.mem_map_of_mem z) _ (.head _) e
    · exact hn.2.1.1 (by rw [← e]; exact List.mem_map_of_mem z)
  have same:∀ l:List Nd,(∀ q∈l,q.k≠r.k)→modK r.k f (absOf l)=absOf l:=fun l hl=>by
    unfold modK absOf
    rw [List.map_map]
    refine List.map_congr_left fun q hq=>?_
    simp [hl q hq]
  have app:∀ a b:List Nd,absOf (a++b)=absOf a++absOf b:=fun a b=>by simp [absOf]
  have mapp:∀ a b:List AN,modK r.k f (a++b)=modK r.k f a++modK r.k f b:=fun a b=>by simp [modK]
  rw [app,app,mapp,same pre fun q hq=>key q (List.mem_append_left _ hq)]
  congr 1
  have c:∀ (q:Nd) l,absOf (q::l)=(q.k,q.np,q.ss)::absOf l:=fun q l=>rfl
  have mc:∀ (e:AN) l,modK r.k f (e::l)=(if e.1=r.k then f e else e)::modK r.k f l:=fun e l=>rfl
  rw [c,c,mc,same post fun q hq=>key q (List.mem_append_right _ hq),if_pos rfl,hf]
theorem nok_at {pre post:List Nd} {r r':Nd} (h:Nok (pre++r::post)) (hk:r'.k=r.k) (ha:r'.a=r.a) (hd:r'.dy=r.dy) (hs:r'.sl=r.sl) (hi:IntsAre r'.vs r'.ss):Nok (pre++r'::post):=by
  have e1:(pre++r'::post).map (·.k)=(pre++r::post).map (·.k):=by simp [hk]
  have e2:(led (pre++r'::post)).map (·.1)=(led (pre++r::post)).map (·.1):=by simp [led_append,led_cons,Nd.led,ha,hd,hs]
  refine ⟨by rw [e1]; exact h.keys,by rw [e2]; exact h.addrs,fun q hq=>?_⟩
  rcases List.mem_append.mp hq with z | z
  · exact h.isI q (List.mem_append_left _ z)
  · rcases List.mem_cons.mp z with rfl | z
    · exact hi
    · exact h.isI q (List.mem_append_right _ (.tail _ z))
theorem led_at {pre post:List Nd} {r r':Nd} {d:Addr} {o':Obj} (hn:((led (pre++r::post)).map (·.1)).Nodup) (hd:d∈r.led.map (·.1)) (hr:∀ p∈r'.led,p=(d,o')∨(p∈r.led∧p.1≠d)) :
    ∀ p∈led (pre++r'::post),p=(d,o')∨(p∈led (pre++r::post)∧p.1≠d):=by
  intro p hp
  rw [led_append,led_cons] at hp hn ⊢
  simp only [List.map_append,List.nodup_append] at hn
  rcases List.mem_append.mp hp with z | z
  · exact .inr ⟨List.mem_append_left _ z,fun e=>hn.2.2 _ (List.mem_map_of_mem z) _ (List.mem_append_left _ hd) e⟩
  · rcases List.mem_append.mp z with z | z
    · rcases hr p z with q | ⟨q1,q2⟩
      · exact .inl q
      · exact .inr ⟨List.mem_append_right _ (List.mem_append_left _ q1),q2⟩
    · exact .inr ⟨List.mem_append_right _ (List.mem_append_right _ z),fun e=>hn.2.1.2.2 _ hd _ (List.mem_map_of_mem z) e.symm⟩
theorem nd_dist {pre post:List Nd} {r:Nd} (hn:((led (pre++r::post)).map (·.1)).Nodup):r.a≠r.dy∧r.a≠r.sl∧r.dy≠r.sl:=by
  rw [led_append,led_cons] at hn
  simp only [List.map_append,List.nodup_append] at hn
  have:=hn.2.1.1
  simp [Nd.led] at this
  exact ⟨this.1.1,this.1.2,this.2⟩
theorem mem_led {nds:List Nd} {r:Nd} (hr:r∈nds) {p:Addr×Obj} (hp:p∈r.led):p∈led nds:=List.mem_flatMap.mpr ⟨r,hr,hp⟩
end
section
section
variable {prog:Program} {w:World} {A:Around} {E:Value→Shared→Prop} {s:Shared} {O dx D:Addr} {n:Nat} {t1 t2 t3 t4:Tok} {vb vc vd:Value}
theorem nok_new {nds:List Nd} {r:Nd} {h:Heap} (ok:Nok nds) (hN:∀ p∈led nds,h.get? p.1=some p.2) (hk:r.k∉nds.map (·.k)) (ha:h.get? r.a=none) (hd:h.get? r.dy=none) (hs:h.get? r.sl=none)
    (d1:r.a≠r.dy) (d2:r.a≠r.sl) (d3:r.dy≠r.sl) (hi:IntsAre r.vs r.ss):Nok (nds++[r]):=by
  refine ⟨?_,?_,fun q hq=>?_⟩
  · rw [List.map_append,List.nodup_append]
    refine ⟨ok.keys,by simp,fun a ha b hb=>?_⟩
    simp at hb; subst hb
    exact fun e=>hk (e ▸ ha)
  · rw [led_append,List.map_append,List.nodup_append]
    refine ⟨ok.addrs,by simp [led,Nd.led,d1,d2,d3],fun a ha' b hb e=>?_⟩
    subst e
    obtain ⟨p,hp,rfl⟩:=List.mem_map.mp ha'
    have hp':=hN p hp
    simp only [led,List.flatMap_cons,List.flatMap_nil,List.append_nil,Nd.led,List.map_cons,List.map_nil,List.mem_cons,List.not_mem_nil,or_false] at hb
    rcases hb with e | e | e
    · rw [e,ha] at hp'; cases hp'
    · rw [e,hd] at hp'; cases hp'
    · rw [e,hs] at hp'; cases hp'
  · rcases List.mem_append.mp hq with z | z
    · exact ok.isI q z
    · rw [List.mem_singleton] at z; subst z; exact hi
theorem gni_call {Q : Value → Shared → Prop} {k : Int} {t : Tok} {od : Obj} {nds : List Nd} (rm : Room A 3) (T : Wd w (hideAll s.heap [D])) (hO : s.heap.get? O = some (instObj 196 dx)) (hdx : s.heap.get? dx = some (dictOf (sd w t1 t2 t3 t4 (.ref D) vb vc vd) n))
    (hD:s.heap.get? D=some od) (hod:od.IsDictOf (intKind prog w) (kvsOf nds)) (lo:(D==sysModules)=false) (ok:Nok nds) (hN:∀ p∈led nds,s.heap.get? p.1=some p.2) (hz:nds.length≤1000) (hOD:O≠D) (hdD:dx≠D) (hDl:∀ p∈led nds,p.1≠D)
    (h:∀ h' tk' nds' od' r,Ext [D] s.heap h'→h'.get? D=some od'→od'.IsDictOf (intKind prog w) (kvsOf nds')→Nok nds'→absOf nds'=touch (absOf nds) k→(∀ p∈led nds',h'.get? p.1=some p.2) →
      (∀ p∈led nds',p∈led nds∨s.heap.get? p.1=none)→r∈nds'→r.k=k→Q (.ref r.a) (up s h' tk')):wpAny (model prog w) A (call (.ref 139) [.ref O,.int k t]) Q E s:=by
  cases hv:valueAt (kvsOf nds) k with
  | some v =>
    have hv':=hv
    rw [valueAt_kvs] at hv'
    obtain ⟨r,hr,rfl⟩:=Option.map_eq_some_iff.mp hv'
    obtain ⟨hr1,rfl⟩:=find_some hr
    refine gni_old (rm.le (by lia)) (T.of_hide) hO hdx hD hod lo hv fun h' tk' ex=>?_
    have kp:∀ b o,s.heap.get? b=some o→h'.get? b=some o:=fun b o e=>ex.keep b o (fun q=>by cases q) e
    exact h h' tk' nds od r (ex.mono fun a ha=>by cases ha) (kp _ _ hD) hod ok (touch_old hr1).symm (fun p hp=>kp _ _ (hN p hp)) (fun p hp=>.inl hp) hr1 rfl
  | none =>
    refine gni_new rm T hO hdx hD hod lo hv (by simpa [kvsOf] using hz) hOD hdD fun h' tk' a dy sl t0 od' ex ha hdy hsl hD' hod' fa fd fs=>?_
    have kp:∀ p∈led nds,h'.get? p.1=some p.2:=fun p hp=>ex.keep _ _ (fun q=>hDl p hp (List.mem_singleton.mp q)) (hN p hp)
    have T3:=touch_new (v:=.ref a) hv
    have hrk:=T3.2.1
    refine h h' tk' (nds++[⟨k,t,0,t0,a,dy,sl,[],[],0⟩]) od' ⟨k,t,0,t0,a,dy,sl,[],[],0⟩ ex hD' ?_ (nok_new ok hN hrk fa fd fs ?_ ?_ ?_ .nil) ?_ ?_ ?_ (List.mem_append_right _ (.head _)) rfl
    · rw [T3.2.2] at hod'; simpa [kvsOf] using hod'
    · intro e; change a=dy at e; rw [e] at ha; rw [ha] at hdy; simp [dictOf] at hdy
    · intro e; change a=sl at e; rw [e] at ha; rw [ha] at hsl; simp [W.listOf] at hsl
    · intro e; change dy=sl at e; rw [e] at hdy; rw [hdy] at hsl; simp [W.listOf,dictOf] at hsl
    · rw [T3.1]; simp [absOf]
    · intro p hp
      rw [led_append] at hp
      rcases List.mem_append.mp hp with z | z
      · exact kp p z
      · simp only [led,List.flatMap_cons,List.flatMap_nil,List.append_nil,Nd.led,List.mem_cons,List.not_mem_nil,or_false] at z
        rcases z with rfl | rfl | rfl
        · exact ha
        · exact hdy
        · exact hsl
    · intro p hp
      rw [led_append] at hp
      rcases List.mem_append.mp hp with z | z
      · exact .inl z
      · simp only [led,List.flatMap_cons,List.flatMap_nil,List.append_nil,Nd.led,List.mem_cons,List.not_mem_nil,or_false] at z
        rcases z with rfl | rfl | rfl
        · exact .inr fa
        · exact .inr fd
        · exact .inr fs
end
end
section
section
variable {prog:Program} {w:World} {A:Around} {E:Value→Shared→Prop} {s:Shared} {O dx D L:Addr} {n:Nat} {t1 t2 t3 t4:Tok} {vb vc vd:Value} {g:Heap} {m:Str→Option Value} {nds:List Nd} {rest:List (Addr×Obj)} {r:Nd}
theorem gniL {Q : Value → Shared → Prop} {k : Int} {t : Tok} {od : Obj} (rm : Room A 3) (T : Wd w g) (F : Fr g L s.heap m) (N : News g L s.heap ((D, od) :: (led nds ++ rest))) (gO : g.get? O = some (instObj 196 dx)) (gdx : g.get? dx = some (dictOf (sd w t1 t2 t3 t4 (.ref D) vb vc vd) n))
    (hod:od.IsDictOf (intKind prog w) (kvsOf nds)) (lo:(D==sysModules)=false) (ok:Nok nds) (hz:nds.length≤1000) (hDl:∀ p∈led nds++rest,p.1≠D)
    (h:∀ h' tk' nds' od' r,Fr g L h' m→News g L h' ((D,od')::(led nds'++rest))→od'.IsDictOf (intKind prog w) (kvsOf nds')→Nok nds'→absOf nds'=touch (absOf nds) k →
      (∀ p∈led nds',p∈led nds∨s.heap.get? p.1=none)→(∀ p∈led nds'++rest,p.1≠D)→r∈nds'→r.k=k→Q (.ref r.a) (up s h' tk')):wpAny (model prog w) A (call (.ref 139) [.ref O,.int k t]) Q E s:=by
  have gD:=(N _ (.head _)).2.2
  refine gni_call rm (T.hide F fun a ha=>by rw [List.mem_singleton] at ha; subst ha; exact gD) (F.keep _ _ gO) (F.keep _ _ gdx) (N _ (.head _)).1 hod lo ok (fun p hp=>(N p (.tail _ (List.mem_append_left _ hp))).1) hz
    (fun e=>by rw [e,gD] at gO; cases gO) (fun e=>by rw [e,gD] at gdx; cases gdx) (fun p hp=>hDl p (List.mem_append_left _ hp)) fun h' tk' nds' od' r ex hD' hod' ok' ab hN' hfr hr hk=>?_
  obtain ⟨F',N'⟩:=back (W:=[(D,od)]) (W':=(D,od')::(led nds').filter fun p=>(s.heap.get? p.1).isNone) F N ex
    (fun p hp => by rcases List.mem_cons.mp hp with rfl | hp
                    · exact hD'
                    · exact hN' p (List.mem_filter.mp hp).1)
    (fun p hp => by rcases List.mem_cons.mp hp with rfl | hp
                    · exact .inl (.head _)
                    · exact .inr (by simpa using (List.mem_filter.mp hp).2))
    (fun p hp q=>hDl p hp (List.mem_singleton.mp q))
  have N2:News g L h' ((D,od')::(led nds'++rest)):=news_sub N' fun p hp=>by
    rcases List.mem_cons.mp hp with rfl | hp
    · exact .head _
    · rcases List.mem_append.mp hp with q | q
      · rcases hfr p q with z | z
        · exact List.mem_append_right _ (List.mem_append_left _ z)
        · exact .tail _ (List.mem_append_left _ (List.mem_filter.mpr ⟨q,by simp [z]⟩))
      · exact List.mem_append_right _ (List.mem_append_right _ q)
  refine h h' tk' nds' od' r F' N2 hod' ok' ab hfr (fun p hp=>?_) hr hk
  rcases List.mem_append.mp hp with q | q
  · rcases hfr p q with z | z
    · exact hDl p (List.mem_append_left _ z)
    · exact addr_ne z (N _ (.head _)).1
  · exact hDl p (List.mem_append_right _ q)
theorem upd_node {h h':Heap} {pre post:List Nd} {r':Nd} {d:Addr} {o':Obj} (ok:Nok (pre++r::post)) (hd:d∈r.led.map (·.1)) (hr:∀ p∈r'.led,p=(d,o')∨(p∈r.led∧p.1≠d)) (hsep:∀ p∈rest,p.1∉(led (pre++r::post)).map (·.1))
    (N':News g L h' ((d,o')::(led (pre++r::post)++rest).filter fun p=>decide (p.1≠d))):News g L h' (led (pre++r'::post)++rest) :=
  news_to N' fun p hp=>by
    rcases List.mem_append.mp hp with q | q
    · rcases led_at ok.addrs hd hr p q with z | z
      · exact .inl z
      · exact .inr ⟨List.mem_append_left _ z.1,z.2⟩
    · refine .inr ⟨List.mem_append_right _ q,fun e=>hsep p q ?_⟩
      rw [e,led_append,led_cons]
      simp only [List.map_append]
      exact List.mem_append_right _ (List.mem_append_left _ hd)
theorem split_node (hr:r∈nds):∃ pre post,nds=pre++r::post:=List.append_of_mem hr
theorem setNpL {Q:Unit→Shared→Prop} {x:Int} {t:Tok} (T:Wd w g) (F:Fr g L s.heap m) (N:News g L s.heap (led nds++rest)) (ok:Nok nds) (hr:r∈nds) (hsep:∀ p∈rest,p.1∉(led nds).map (·.1))
    (h:∀ h' tk nds',Fr g L h' m→News g L h' (led nds'++rest)→Nok nds'→absOf nds'=modK r.k (fun e=>(e.1,x,e.2.2)) (absOf nds)→kvsOf nds'=kvsOf nds→(led nds').map (·.1)=(led nds).map (·.1)→{ r with np:=x,npt:=t }∈nds'→Q () (up s h' tk)) :
    wpAny (model prog w) A (setAttr (.ref r.a) (Str.ofString "npredecessors") (.int x t)) Q E s:=by
  obtain ⟨pre,post,rfl⟩:=split_node hr
  have hm:∀ p∈r.led,p∈led (pre++r::post)++rest:=fun p hp=>List.mem_append_left _ (mem_led hr hp)
  have dist:=nd_dist ok.addrs
  refine setNp (sl':=#[some (.int r.k r.kt),some (.int x t),some (.ref r.sl)]) T F (news_at N (hm _ (.head _))) (N _ (hm _ (.head _))).1 (N _ (hm _ (.tail _ (.head _)))).1 (by kernel_rfl) upd_at fun h' tk F' N'=>?_
  refine h h' tk (pre++{ r with np:=x,npt:=t }::post) F' (upd_node (r':={ r with np:=x,npt:=t }) (h:=s.heap) ok (.head _) (fun p hp=>?_) hsep N') (nok_at ok rfl rfl rfl rfl (ok.isI r hr)) (mod_at (f:=fun e=>(e.1,x,e.2.2)) ok.keys rfl rfl) (by simp [kvsOf]) (by simp [led_append,led_cons,Nd.led]) (List.mem_append_right _ (.head _))
  simp only [Nd.led,List.mem_cons,List.not_mem_nil,or_false] at hp
  rcases hp with rfl | rfl | rfl
  · exact .inl rfl
  · exact .inr ⟨.tail _ (.head _),dist.1.symm⟩
  · exact .inr ⟨.tail _ (.tail _ (.head _)),dist.2.1.symm⟩
theorem appSucL {Q:Value→Shared→Prop} {x:Int} {t:Tok} (F:Fr g L s.heap m) (N:News g L s.heap (led nds++rest)) (ok:Nok nds) (hr:r∈nds) (hz:r.vs.length≤1000) (hsep:∀ p∈rest,p.1∉(led nds).map (·.1))
    (h:∀ h' nds',Fr g L h' m→News g L h' (led nds'++rest)→Nok nds'→absOf nds'=modK r.k (fun e=>(e.1,e.2.1,e.2.2++[x])) (absOf nds)→kvsOf nds'=kvsOf nds→(led nds').map (·.1)=(led nds).map (·.1)→Q .none (up s h' s.toks)) :
    wpAny (model prog w) A (call (.builtin "list.append") ([.ref r.sl]++[.int x t])) Q E s:=by
  obtain ⟨pre,post,rfl⟩:=split_node hr
  have hm:∀ p∈r.led,p∈led (pre++r::post)++rest:=fun p hp=>List.mem_append_left _ (mem_led hr hp)
  have dist:=nd_dist ok.addrs
  refine appendL F (news_at N (hm _ (.tail _ (.tail _ (.head _))))) upd_at (by lia) fun h' F' N'=>?_
  have hi:IntsAre (r.vs++[.int x t]) (r.ss++[x]):=by
    have:=ok.isI r hr
    generalize r.vs=vs at this ⊢
    generalize r.ss=ss at this ⊢
    induction this with
    | nil=>exact .cons _ _ .nil
    | cons k u _ ih=>exact .cons k u ih
  refine h h' (pre++{ r with ss:=r.ss++[x],vs:=r.vs++[.int x t],n:=r.n+1 }::post) F' (upd_node (r':={ r with ss:=r.ss++[x],vs:=r.vs++[.int x t],n:=r.n+1 }) (h:=s.heap) ok (.tail _ (.tail _ (.head _))) (fun p hp=>?_) hsep N')
    (nok_at ok rfl rfl rfl rfl hi) (mod_at (f:=fun e=>(e.1,e.2.1,e.2.2++[x])) ok.keys rfl rfl) (by simp [kvsOf]) (by simp [led_append,led_cons,Nd.led])
  simp only [Nd.led,List.mem_cons,List.not_mem_nil,or_false] at hp
  rcases hp with rfl | rfl | rfl
  · exact .inr ⟨.head _,dist.2.1⟩
  · exact .inr ⟨.tail _ (.head _),dist.2.2⟩
  · exact .inl rfl
end
end
section
noncomputable def addStep (k:Int) (st:List AN) (p:Int):List AN:=modK p (fun e=>(e.1,e.2.1,e.2.2++[k])) (touch st p)
noncomputable def addP (st:List AN) (k:Int) (preds:List Int):List AN:=preds.foldl (addStep k) (modK k (fun e=>(e.1,e.2.1+(preds.length:Int),e.2.2)) (touch st k))
structure Bd (b c:Nat) (st:List AN):Prop where
  ss:∀ e∈st,e.2.2.length≤b
  len:st.length≤c
theorem Bd.touch {b c:Nat} {st:List AN} (h:Bd b c st) (k:Int):Bd b (c+1) (touch st k):=by
  unfold Mine.touch
  split
  · exact ⟨h.ss,by have:=h.len; lia⟩
  · refine ⟨fun e he=>?_,by have:=h.len; simp; lia⟩
    rcases List.mem_append.mp he with q | q
    · exact h.ss e q
    · rw [List.mem_singleton] at q; subst q; simp
theorem Bd.mod {b b' c:Nat} {st:List AN} (h:Bd b c st) (k:Int) {f:AN→AN} (hb:b≤b') (hf:∀ e,e.2.2.length≤b→(f e).2.2.length≤b'):Bd b' c (modK k f st):=by
  refine ⟨fun e he=>?_,by simpa [modK] using h.len⟩
  obtain ⟨q,hq,rfl⟩:=List.mem_map.mp he
  have:=h.ss q hq
  split
  · exact hf q this
  · lia
theorem Bd.of {b c:Nat} {nds:List Nd} (h:Bd b c (absOf nds)) (ok:Nok nds) {r:Nd} (hr:r∈nds):r.vs.length≤b:=by
  have:=h.ss _ (List.mem_map_of_mem (f:=fun r:Nd=>(r.k,r.np,r.ss)) hr)
  rw [(ok.isI r hr).length]; exact this
theorem Bd.nds {b c:Nat} {nds:List Nd} (h:Bd b c (absOf nds)):nds.length≤c:=by have:=h.len; simpa [absOf] using this
theorem foldl_take {α β:Type} (f:β→α→β) (z:β) (l:List α) {i:Nat} {x:α} (h:l[i]?=some x):(l.take (i+1)).foldl f z=f ((l.take i).foldl f z) x:=by
  rw [List.take_succ,h]; simp
theorem ints_get {vs:List Value} {ns:List Int} (h:IntsAre vs ns) {i:Nat} {v:Value} (hv:vs[i]?=some v):∃ k t,v=.int k t∧ns[i]?=some k:=by
  induction h generalizing i with
  | nil=>simp at hv
  | cons k t _ ih =>
    cases i with
    | zero=>simp at hv; subst hv; exact ⟨k,t,rfl,rfl⟩
    | succ i=>exact ih (by simpa using hv)
theorem key_inj {nds:List Nd} (hn:(nds.map (·.k)).Nodup) {r q:Nd} (hr:r∈nds) (hq:q∈nds) (e:q.k=r.k):q=r:=by
  induction nds with
  | nil=>cases hr
  | cons x nds ih =>
    simp only [List.map_cons,List.nodup_cons] at hn
    rcases List.mem_cons.mp hr with rfl | hr' <;> rcases List.mem_cons.mp hq with rfl | hq'
    · rfl
    · exact absurd (e ▸ List.mem_map_of_mem hq') hn.1
    · exact absurd (e ▸ List.mem_map_of_mem hr') hn.1
    · exact ih hn.2 hr' hq'
theorem mod_congr {nds:List Nd} (ok:Nok nds) {r:Nd} (hr:r∈nds) {f f':AN→AN} (h:f (r.k,r.np,r.ss)=f' (r.k,r.np,r.ss)):modK r.k f (absOf nds)=modK r.k f' (absOf nds):=by
  unfold modK
  refine List.map_congr_left fun e he=>?_
  obtain ⟨q,hq,rfl⟩:=List.mem_map.mp he
  split
  · rename_i e; rw [key_inj ok.keys hr hq e]; exact h
  · rfl
theorem hide_or {h:Heap} {W:List Addr} {a:Addr} (q:(hideAll h W).get? a=none):a∈W∨h.get? a=none:=by
  by_cases hm:a∈W
  · exact .inl hm
  · cases z:h.get? a with
    | none=>exact .inr rfl
    | some o=>rw [hideAll_get W z hm] at q; cases q
theorem news_in {g h:Heap} {L:Addr} {x:Addr×Obj} {l r:List (Addr×Obj)} (N:News g L h (x::(l++r))):News g L h (l++(x::r)):=news_sub N fun p hp=>by
  rcases List.mem_append.mp hp with q | q
  · exact .tail _ (List.mem_append_left _ q)
  · rcases List.mem_cons.mp q with rfl | q
    · exact .head _
    · exact .tail _ (List.mem_append_right _ q)
theorem news_out {g h:Heap} {L:Addr} {x:Addr×Obj} {l r:List (Addr×Obj)} (N:News g L h (l++(x::r))):News g L h (x::(l++r)):=news_sub N fun p hp=>by
  rcases List.mem_cons.mp hp with rfl | q
  · exact List.mem_append_right _ (.head _)
  · rcases List.mem_append.mp q with q | q
    · exact List.mem_append_left _ q
    · exact List.mem_append_right _ (.tail _ q)
section
variable {prog:Program} {w:World} {A:Around} {E:Value→Shared→Prop} {s:Shared} {O dx D:Addr} {n b c:Nat} {t1 t2 t3 t4:Tok} {vc vd:Value} {nds:List Nd}
end
noncomputable section
namespace Zaddcode
abbrev D0:=(((((Program)×(World))×((Around)×(Shared)))×(((Around)×(Addr))×(Addr)))×((((Addr)×(Nat))×((Nat)×(Nat)))×(((Tok)×(Tok))×(Tok))))×(((((Tok)×(Value))×((Value)×(List Nd)))×(((Int)×(Tok))×(Obj)))×((((List Int)×(List Value))×((Addr)×(Heap)))×(((Nat)×(Flow→Shared→Prop))×(Value→Shared→Prop))))
abbrev P0 (prog:Program) (w:World) (A:Around) (s:Shared) (A₁:Around) (O dx D:Addr) (n b c:Nat) (t1 t2 t3 t4:Tok) (vc vd:Value) (nds:List Nd) (k:Int) (t:Tok) (od:Obj) (preds:List Int) (pv:List Value) (L:Addr) (h₀:Heap) (tk₀:Nat) (R₁:Flow→Shared→Prop) (E₁:Value→Shared→Prop):Prop:=∀ (rm:Room A 4) (T:Wd w (hideAll s.heap (D::(led nds).map (·.1)))) (gO:(hideAll s.heap (D::(led nds).map (·.1))).get? O=some (instObj 196 dx)) (gdx:(hideAll s.heap (D::(led nds).map (·.1))).get? dx=some (dictOf (sd w t1 t2 t3 t4 (.ref D) .none vc vd) n)) (hD:s.heap.get? D=some od) (hod:od.IsDictOf (intKind prog w) (kvsOf nds)) (lo:(D==sysModules)=false) (ok:Nok nds) (hN:∀ p∈led nds,s.heap.get? p.1=some p.2) (hDl:∀ p∈led nds,p.1≠D) (bd:Bd b c (absOf nds)) (hb:b+pv.length≤500) (hc:c+pv.length≤500) (hi:IntsAre pv preds) (h:∀ h' tk' nds' od',Ext (D::(led nds).map (·.1)) s.heap h'→h'.get? D=some od'→od'.IsDictOf (intKind prog w) (kvsOf nds')→Nok nds'→absOf nds'=addP (absOf nds) k preds→(∀ p∈led nds',h'.get? p.1=some p.2) →
      (∀ p∈led nds',p.1∈(led nds).map (·.1)∨s.heap.get? p.1=none)→(∀ p∈led nds',p.1≠D)→R₁ .next (up s h' tk')) (F:Fr (hideAll s.heap (((D,od)::led nds:List (Addr×Obj)).map (·.1))) L h₀ (fun y9=>([(("self":Str),.ref O),(("node":Str),.int k t),(("predecessors":Str),.ref s.heap.objs.size)]:List (Str×Value)).reverse.lookup y9)) (N:News (hideAll s.heap (((D,od)::led nds:List (Addr×Obj)).map (·.1))) L h₀ ((s.heap.objs.size,tupOf pv)::(D,od)::led nds)) (dA:Deeper A A₁ (callEnv (fd146 w) L 146)),wpAny (model prog w) A₁ (execs (stm (fd146 w)) (callEnv (fd146 w) L 146)) R₁ E₁ (up s h₀ tk₀)
abbrev P1 (d:D0):=P0 d.1.1.1.1.1 d.1.1.1.1.2 d.1.1.1.2.1 d.1.1.1.2.2 d.1.1.2.1.1 d.1.1.2.1.2 d.1.1.2.2 d.1.2.1.1.1 d.1.2.1.1.2 d.1.2.1.2.1 d.1.2.1.2.2 d.1.2.2.1.1 d.1.2.2.1.2 d.1.2.2.2 d.2.1.1.1.1 d.2.1.1.1.2 d.2.1.1.2.1 d.2.1.1.2.2 d.2.1.2.1.1 d.2.1.2.1.2 d.2.1.2.2 d.2.2.1.1.1 d.2.2.1.1.2 d.2.2.1.2.1 d.2.2.1.2.2 d.2.2.2.1.1 d.2.2.2.1.2 d.2.2.2.2
theorem ne0:Nonempty D0:=⟨(((((Challenge.pw_ny0293_01,Classical.choice neW),(callerA,Classical.choice neS)),((callerA,default),default)),default),default)⟩
@[irreducible] def d0:D0:=@Classical.epsilon D0 ne0 fun d=>¬ P1 d
def prog:=d0.1.1.1.1.1
def w:=d0.1.1.1.1.2
def A:=d0.1.1.1.2.1
def s:=d0.1.1.1.2.2
def A₁:=d0.1.1.2.1.1
def O:=d0.1.1.2.1.2
def dx:=d0.1.1.2.2
def D:=d0.1.2.1.1.1
def n:=d0.1.2.1.1.2
def b:=d0.1.2.1.2.1
def c:=d0.1.2.1.2.2
def t1:=d0.1.2.2.1.1
def t2:=d0.1.2.2.1.2
def t3:=d0.1.2.2.2
def t4:=d0.2.1.1.1.1
def vc:=d0.2.1.1.1.2
def vd:=d0.2.1.1.2.1
def nds:=d0.2.1.1.2.2
def k:=d0.2.1.2.1.1
def t:=d0.2.1.2.1.2
def od:=d0.2.1.2.2
def preds:=d0.2.2.1.1.1
def pv:=d0.2.2.1.1.2
def L:=d0.2.2.1.2.1
def h₀:=d0.2.2.1.2.2
def tk₀:=d0.2.2.2.1.1
def R₁:=d0.2.2.2.1.2
def E₁:=d0.2.2.2.2
theorem bd0:P0 prog w A s A₁ O dx D n b c t1 t2 t3 t4 vc vd nds k t od preds pv L h₀ tk₀ R₁ E₁:=by
  intro rm T gO gdx hD hod lo ok hN hDl bd hb hc hi h F N dA
  refine with_stm (P:=fun b=>wpAny (model prog w) A₁ (execs b (callEnv (fd146 w) L 146)) R₁ E₁ (up s h₀ tk₀)) rfl ?_
  show wpAny _ _ (execs (_::_) _) _ _ _
  have rm':=dA.room rm
  generalize hg:hideAll s.heap (((D,od)::led nds).map (·.1))=g at F N
  replace T:Wd w g:=hg ▸ T
  replace gO:g.get? O=_:=hg ▸ gO
  replace gdx:g.get? dx=_:=hg ▸ gdx
  generalize htp:s.heap.objs.size=tp at F N
  refine wpAny_execs_cons<|wpAny_If<|wpAny_isTrue_Compare1<|Attribute_name<|ld F rfl<|getS T F (F.keep _ _ gO) (F.keep _ _ gdx) sd_rdy fun _=>wpAny_Constant_none<|wpAny_isNot_self rfl<|wpAny_truthy_bool ?_
  first | refine ifF (by simp) ?_ | rw [if_neg (by simp)]
  refine wpAny_execs_nil<|?_
  have fD:∀ p∈led nds++[(tp,tupOf pv)],p.1≠D:=fun p hp=>by
    rcases List.mem_append.mp hp with q | q
    · exact hDl p q
    · rw [List.mem_singleton] at q; subst q; intro e; have:=Heap.lt_size hD; rw [← e,← htp] at this; exact absurd this (Nat.lt_irrefl _)
  refine wpAny_execs_cons<|wpAny_Assign_Name<|methodCall_KW<|ld (s:=tkd (up s _ _) _) F rfl<|methS (s:=tkd (up s _ _) _) T F (F.keep _ _ gO) (F.keep _ _ gdx) sd_gni (f:=139)<|callWith_K T.X (by kernel_rfl)<|spliced_more<|ld (s:=tkd (up s _ _) _) F rfl<|spliced_none ⟨T.X.keeps F.keep,?_⟩
  refine gniL (s:=tkd (up s _ _) _) (nds:=nds) (rest:=[(tp,tupOf pv)]) (rm'.le (by lia)) T F (news_sub N fun p hp=>?_) gO gdx hod lo ok (by have:=bd.nds; lia) fD fun h1 tk1 nd1 od1 r1 F1 N1 hod1 ok1 ab1 fr1 fD1 hr1 hk1=>?_
  · rcases List.mem_cons.mp hp with rfl | hp
    · exact .tail _ (.head _)
    · rcases List.mem_append.mp hp with q | q
      · exact .tail _ (.tail _ q)
      · rw [List.mem_singleton] at q; subst q; exact .head _
  have tD:tp≠D:=fD (tp,tupOf pv) (List.mem_append_right _ (.head _))
  have fT:∀ p∈led nd1,p.1≠tp:=fun p hp=>by
    rcases fr1 p hp with q | q
    · intro e; have:=Heap.lt_size (hN p q); rw [e,← htp] at this; exact absurd this (Nat.lt_irrefl _)
    · exact addr_ne q (N _ (.head _)).1
  have bd1:Bd b (c+1) (absOf nd1):=ab1 ▸ bd.touch k
  refine st (s:=up s _ _) F1 N1 fun h2 tk2 F2 N2=>?_
  have sepOf:∀ nd:List Nd,(∀ p∈led nd,p.1≠D∧p.1≠tp)→∀ (od:Obj),∀ p∈[(D,od),(tp,tupOf pv)],p.1∉(led nd).map (·.1):=fun nd hnd od p hp hm=>by
    obtain ⟨q,hq,e⟩:=List.mem_map.mp hm
    rcases List.mem_cons.mp hp with rfl | hp
    · exact (hnd q hq).1 e
    · rw [List.mem_singleton] at hp; subst hp; exact (hnd q hq).2 e
  have hm1:∀ p∈r1.led,p∈(D,od1)::(led nd1++[(tp,tupOf pv)]):=fun p hp=>.tail _ (List.mem_append_left _ (mem_led hr1 hp))
  refine wpAny_execs_cons<|wpAny_AugAssign_AttributeAny<|ld (s:=up s _ _) F2 rfl<|getNp (s:=up s _ _) T F2 (N2 _ (hm1 _ (.head _))).1 (N2 _ (hm1 _ (.tail _ (.head _)))).1 rfl fun tk3=>callb (id:="len") (s:=tkd (up s _ _) _) T F2 (by kernel_rfl)<|spliced_more<|ld (s:=tkd (up s _ _) _) F2 rfl<|spliced_none <|
    PyProof.Rows.len_tuple (s:=tkd (up s _ _) _) ⟨_,(N2 (tp,tupOf pv) (.tail _ (List.mem_append_right _ (.head _)))).1,rfl,_,rfl⟩ (by simp; lia)<|wpAny_iadd_int (s:=tkd (up s _ _) _) <|
    setNpL (s:=tkd (up s _ _) _) T F2 (news_in N2) ok1 hr1 (sepOf nd1 (fun p hp=>⟨fD1 p (List.mem_append_left _ hp),fT p hp⟩) od1) fun h3 tk4 nd3 F3 N3 ok3 ab3 kv3 ad3 _=>?_
  have hpl:=hi.length
  have ab3':absOf nd3=modK k (fun e=>(e.1,e.2.1+(preds.length:Int),e.2.2)) (touch (absOf nds) k):=by
    rw [ab3,← ab1,← hk1]
    exact mod_congr ok1 hr1 (by simp [hpl])
  have bd3:Bd b (c+1) (absOf nd3):=by rw [ab3]; exact bd1.mod _ (Nat.le_refl _) fun e he=>he
  have mem1:∀ p∈led nd3,p.1≠D∧p.1≠tp:=fun p hp=>by
    have:p.1∈(led nd1).map (·.1):=ad3 ▸ List.mem_map_of_mem hp
    obtain ⟨q,hq,e⟩:=List.mem_map.mp this
    rw [← e]; exact ⟨fD1 q (List.mem_append_left _ hq),fT q hq⟩
  have N3':News g L h3 ((D,od1)::led nd3):=news_sub N3 fun p hp=>by
    rcases List.mem_cons.mp hp with rfl | q
    · exact List.mem_append_right _ (.head _)
    · exact List.mem_append_left _ q
  have tL:tp≠L:=(N _ (.head _)).2.1
  let Jv0:Nat→(Str→Option Value)→List (Addr×Obj)→Prop:=fun i m news=>Ex2 fun nd od=>And8 (news=(D,od)::led nd) (od.IsDictOf (intKind prog w) (kvsOf nd)) (Nok nd) (absOf nd=(preds.take i).foldl (addStep k) (modK k (fun e=>(e.1,e.2.1+(preds.length:Int),e.2.2)) (touch (absOf nds) k))) (Bd (b+i) (c+1+i) (absOf nd)) ((∀ p∈led nd,p.1≠D∧p.1≠tp)) (m "self"=some (.ref O)) (m "node"=some (.int k t))
  refine wpAny_execs_cons<|wpAny_For<|ld (s:=up s _ _) F3 rfl<|iterTX (s:=up s _ _) (vs:=pv) rm'.handled F3 N3' ⟨_,(N3 (tp,tupOf pv) (List.mem_append_right _ (.tail _ (.head _)))).1,rfl,_,rfl⟩ tL
    Jv0
    ⟨nd3,od1,rfl,kv3 ▸ hod1,ok3,by simpa using ab3',by simpa using bd3,mem1,rfl,rfl⟩ ?_ ?_
  · intro E' i v m₁ news₁ h₁ tk₁ own hv hJ hw ho hex F₁ N₁
    obtain ⟨nd,od2,rfl,hod2,ok2,ab2,bd2,mem2,ms,mn⟩:=hJ
    obtain ⟨q,tq,rfl,hq⟩:=ints_get hi hv
    have hil:i<pv.length:=(List.getElem?_eq_some_iff.mp hv).1
    have ownD:∀ p∈own,p.1≠D:=fun p hp e=>by
      have z:=ho p hp
      rcases List.mem_cons.mp z with z | z
      · exact hw (D,od2) (.head _) (by rw [← e,z]; exact .head _)
      · exact tD (by rw [← List.mem_singleton.mp z]; exact e)
    refine wpAny_execs_cons<|wpAny_Assign_Name<|methodCall_KW<|ld (s:=up s _ _) F₁ ms<|methS (s:=up s _ _) T F₁ (F₁.keep _ _ gO) (F₁.keep _ _ gdx) sd_gni (f:=139)<|callWith_K T.X (by kernel_rfl)<|spliced_more<|ld (s:=up s _ _) F₁ rfl<|spliced_none ⟨T.X.keeps F₁.keep,?_⟩
    refine gniL (s:=up s _ _) (nds:=nd) (rest:=own) (rm'.le (by lia)) T F₁ N₁ gO gdx hod2 lo ok2 (by have:=bd2.nds; lia) (fun p hp=>?_) fun h4 tk4 nd4 od4 r4 F4 N4 hod4 ok4 ab4 fr4 fD4 hr4 hk4=>?_
    · rcases List.mem_append.mp hp with z | z
      · exact (mem2 p z).1
      · exact ownD p z
    have bd4:Bd (b+i) (c+1+i+1) (absOf nd4):=ab4 ▸ bd2.touch q
    refine st (s:=up s _ _) F4 N4 fun h5 tk5 F5 N5=>?_
    have sep4:∀ p∈(D,od4)::own,p.1∉(led nd4).map (·.1):=fun p hp hm=>by
      obtain ⟨z,hz,e⟩:=List.mem_map.mp hm
      rcases List.mem_cons.mp hp with rfl | hp
      · exact fD4 z (List.mem_append_left _ hz) e
      · rcases fr4 z hz with y | y
        · rcases List.mem_cons.mp (ho p hp) with x | x
          · exact hw z (.tail _ y) (by rw [e,x]; exact .head _)
          · exact (mem2 z y).2 (by rw [e]; exact List.mem_singleton.mp x)
        · exact addr_ne y (N₁ p (List.mem_append_right _ hp)).1 e
    have hm4:∀ p∈r4.led,p∈(D,od4)::(led nd4++own):=fun p hp=>.tail _ (List.mem_append_left _ (mem_led hr4 hp))
    refine wpAny_execs_cons<|wpAny_Expr<|methodCall_KW<|Attribute_name<|ld (s:=up s _ _) F5 rfl<|getSuc (s:=up s _ _) T F5 (N5 _ (hm4 _ (.head _))).1 (N5 _ (hm4 _ (.tail _ (.head _)))).1 rfl fun tk6 =>
      kl_method (s:=tkd (up s _ _) _) N5 (hm4 _ (.tail _ (.tail _ (.head _)))) slot_list_append type_list_append<|callWith_method1<|spliced_more<|ld (s:=tkd (up s _ _) _) F5 mn<|spliced_none <|
      appSucL (s:=tkd (up s _ _) _) F5 (news_in N5) ok4 hr4 (by have:=bd4.of ok4 hr4; lia) sep4 fun h6 nd6 F6 N6 ok6 ab6 kv6 ad6=>?_
    refine wpAny_execs_nil<|Turn.next (news':=(D,od4)::led nd6) F6 (news_out N6) (fun p hp=>?_) ⟨nd6,od4,rfl,kv6 ▸ hod4,ok6,?_,?_,fun p hp=>?_,ms,mn⟩
    · rcases List.mem_cons.mp hp with rfl | hp
      · exact hw (D,od2) (.head _)
      · have:p.1∈(led nd4).map (·.1):=ad6 ▸ List.mem_map_of_mem hp
        obtain ⟨z,hz,e⟩:=List.mem_map.mp this
        rw [← e]
        rcases fr4 z hz with y | y
        · exact hw z (.tail _ y)
        · intro q
          obtain ⟨o,ho'⟩:=hex _ (.head _)
          exact addr_ne y ho' (List.mem_singleton.mp q)
    · rw [ab6,hk4,ab4,ab2,foldl_take _ _ _ hq]; rfl
    · have:=bd4.mod (b':=b+i+1) (f:=fun e=>(e.1,e.2.1,e.2.2++[k])) q (by lia) (fun e he=>by simp; lia)
      rw [ab6,hk4,show b+(i+1)=b+i+1 by lia,show c+1+(i+1)=c+1+i+1 by lia]
      exact this
    · have:p.1∈(led nd4).map (·.1):=ad6 ▸ List.mem_map_of_mem hp
      obtain ⟨z,hz,e⟩:=List.mem_map.mp this
      rw [← e]
      refine ⟨fD4 z (List.mem_append_left _ hz),?_⟩
      rcases fr4 z hz with y | y
      · exact (mem2 z y).2
      · obtain ⟨o,ho'⟩:=hex _ (.tail _ (.head _))
        exact addr_ne y ho'
  · intro h' tk m' news' F' N' hw hJ
    obtain ⟨nd,od2,rfl,hod2,ok2,ab2,bd2,mem2,ms,mn⟩:=hJ
    refine wpAny_execs_nil ?_
    subst hg
    refine h h' tk nd od2 (ext_of_fr F') (N' _ (.head _)).1 hod2 ok2 ?_ (fun p hp=>(N' p (.tail _ hp)).1) (fun p hp=>?_) fun p hp=>(mem2 p hp).1
    · rw [ab2,hpl,List.take_length]; rfl
    · rcases hide_or (N' p (.tail _ hp)).2.2 with z | z
      · rcases List.mem_cons.mp z with z | z
        · exact absurd z (mem2 p hp).1
        · exact .inl z
      · exact .inr z
theorem al0:∀ d,P1 d:=epsAll ne0 P1 (by with_unfolding_all exact bd0)
end Zaddcode
end
section
variable {prog:Program} {w:World} {A:Around} {E:Value→Shared→Prop} {s:Shared} {O dx D:Addr} {n b c:Nat} {t1 t2 t3 t4:Tok} {vc vd:Value} {nds:List Nd}
theorem add_code {Q:Value→Shared→Prop} {k:Int} {t:Tok} {od:Obj} {preds:List Int} {pv:List Value} (rm:Room A 4) (T:Wd w (hideAll s.heap (D::(led nds).map (·.1)))) (gO:(hideAll s.heap (D::(led nds).map (·.1))).get? O=some (instObj 196 dx)) (gdx:(hideAll s.heap (D::(led nds).map (·.1))).get? dx=some (dictOf (sd w t1 t2 t3 t4 (.ref D) .none vc vd) n)) (hD:s.heap.get? D=some od) (hod:od.IsDictOf (intKind prog w) (kvsOf nds)) (lo:(D==sysModules)=false) (ok:Nok nds) (hN:∀ p∈led nds,s.heap.get? p.1=some p.2) (hDl:∀ p∈led nds,p.1≠D) (bd:Bd b c (absOf nds)) (hb:b+pv.length≤500) (hc:c+pv.length≤500) (hi:IntsAre pv preds) (h:∀ h' tk' nds' od',Ext (D::(led nds).map (·.1)) s.heap h'→h'.get? D=some od'→od'.IsDictOf (intKind prog w) (kvsOf nds')→Nok nds'→absOf nds'=addP (absOf nds) k preds→(∀ p∈led nds',h'.get? p.1=some p.2) →
      (∀ p∈led nds',p.1∈(led nds).map (·.1)∨s.heap.get? p.1=none)→(∀ p∈led nds',p.1≠D)→Q .none (up s h' tk')):codeAny (model prog w) A (.call (.ref 146) ⟨.ref O::.int k t::pv,[]⟩) (wants Q E) s:=by
  have hW:∀ p∈(D,od)::led nds,s.heap.get? p.1=some p.2:=fun p hp=>by
    rcases List.mem_cons.mp hp with rfl | hp
    · exact hD
    · exact hN p hp
  refine (enterV (W:=(D,od)::led nds) rm.le' (fn146 T.of_hide.X) T.of_hide.lim (cd146 T.of_hide.X) hW rfl (bind146 w O _ pv) (by lia) (by kernel_rfl) (fun t=>by kernel_rfl) ?_ (by kernel_rfl) (by kernel_rfl) (by kernel_rfl))
  intro L h₀ tk₀ F N A₁ R₁ E₁ dA hret hnone
  exact Zaddcode.al0 (((((prog,w),(A,s)),((A₁,O),dx)),(((D,n),(b,c)),((t1,t2),t3))),((((t4,vc),(vd,nds)),((k,t),od)),(((preds,pv),(L,h₀)),((tk₀,R₁),E₁)))) rm T gO gdx hD hod lo ok hN hDl bd hb hc hi (fun x0 x1 x2 x3 x4 x5 x6 x7 x8 x9 x10 x11=>hnone _ (h x0 x1 x2 x3 x4 x5 x6 x7 x8 x9 x10 x11)) F N dA
end
end
section
section
variable {prog:Program} {w:World} {M:Model} {A:Around} {E:Value→Shared→Prop} {s:Shared} {env:Env} {g:Heap} {L:Addr} {m:Str→Option Value} {news:List (Addr×Obj)}
theorem own_of {h:Heap}:∀ fp:List Addr,(∀ b∈fp,∃ o,h.get? b=some o)→∃ own:List (Addr×Obj),(∀ p∈own,p.1∈fp∧h.get? p.1=some p.2)∧∀ b∈fp,∃ o,(b,o)∈own
  | [],_=>⟨[],⟨fun p hp=>(nomatch hp),fun b hb=>(nomatch hb)⟩⟩
  | b::fp,hx=>by
    obtain ⟨own,h1,h2⟩:=own_of fp fun c hc=>hx c (.tail _ hc)
    obtain ⟨o,ho⟩:=hx b (.head _)
    refine ⟨(b,o)::own,fun p hp=>?_,fun c hc=>?_⟩
    · rcases List.mem_cons.mp hp with rfl | hp
      · exact ⟨.head _,ho⟩
      · exact ⟨.tail _ (h1 p hp).1,(h1 p hp).2⟩
    · rcases List.mem_cons.mp hc with rfl | hc
      · exact ⟨o,.head _⟩
      · obtain ⟨o',z⟩:=h2 c hc; exact ⟨o',.tail _ z⟩
end
noncomputable section
namespace ZforP
abbrev D0:=(((((Program)×(World))×(Around))×(((Shared)×(Env))×(Heap)))×((((Addr)×(Str→Option Value))×(List (Addr×Obj)))×(((Result→Shared→Prop)×(Str))×(Str))))×(((((Pos)×(Pos))×(Pos))×(((Nat)×(List Stmt))×(Addr)))×((((List Addr)×(List Addr))×(Nat))×((Nat→Value→Value→Prop)×(Nat→Heap→Prop))))
abbrev P0 (prog:Program) (w:World) (A:Around) (s:Shared) (env:Env) (g:Heap) (L:Addr) (m:Str→Option Value) (news:List (Addr×Obj)) (R:Result→Shared→Prop) (x1 x2:Str) (p1 p2 pt:Pos) (z:Nat) (body:List Stmt) (it:Addr) (fp wr:List Addr) (n:Nat) (P:Nat→Value→Value→Prop) (St:Nat→Heap→Prop):Prop:=∀ (hh:A.handled=none) (hfp:∀ b∈fp,g.get? b=none∧b≠L) (hwf:∀ b∈wr,b∈fp) (hex:∀ i h,St i h→∀ b∈fp,∃ o,h.get? b=some o) (hfr:∀ i h h',St i h→(∀ b∈fp,∀ o,h.get? b=some o→h'.get? b=some o)→St i h') (hdraw:∀ i (s':Shared) (E₁ E₂:Value→Shared→Prop) (Q:Value→Shared→Prop),i<n→St i s'.heap→Sub g s'.heap →
      (∀ v1 v2 h₂ tp tk,P i v1 v2→St (i+1) h₂→h₂.IsTuple tp #[v1,v2]→s'.heap.get? tp=none→(∀ b o,b∉wr→s'.heap.get? b=some o→h₂.get? b=some o)→Q (.ref tp) (up s' h₂ tk)) →
      wpAny (model prog w) A (pyNext (.ref it)) (fun r s₁=>∃ v,r=some v∧wpAny (model prog w) A (letOwnedTupleGo (.Tuple [.Name x1 p1,.Name x2 p2] z pt) (.ref it) v) (fun _ s₂=>Q v s₂) E₂ s₁) E₁ s') (hdone:∀ (s':Shared) (E₁:Value→Shared→Prop) (Q:Option Value→Shared→Prop),St n s'.heap→Sub g s'.heap→(∀ h₂ tk,(∀ b o,b∉wr→s'.heap.get? b=some o→h₂.get? b=some o)→Q none (up s' h₂ tk))→wpAny (model prog w) A (pyNext (.ref it)) Q E₁ s') (hst:St 0 s.heap) (F:Fr g L s.heap m) (N:News g L s.heap news) (hnw:∀ p∈news,p.1∉fp) (J:Nat→(Str→Option Value)→List (Addr×Obj)→Prop) (h0:J 0 m news) (step:∀ (E':Value→Shared→Prop) i v1 v2 m₁ news₁ h₁ tk₁ own,i<n→P i v1 v2→J i m₁ news₁→(∀ p∈news₁,p.1∉fp)→(∀ p∈own,p.1∈fp)→(∀ b∈fp,∃ o,(b,o)∈own∧h₁.get? b=some o) →
      Fr g L h₁ (fun y=>if y=x2 then some v2 else if y=x1 then some v1 else m₁ y)→News g L h₁ (news₁++own) →
      wpAny (model prog w) A (execs body env) (Turn s g L fp own (J (i+1)) R) E' (up s h₁ tk₁)) (hend:∀ h' tk m' news',Fr g L h' m'→News g L h' news'→(∀ p∈news',p.1∉fp)→J n m' news'→R (.ok .next) (up s h' tk)) (hL:env.locals=L) (hk:env.scope.kind=.function) (hx1:env.kindOf x1=some .local) (hx2:env.kindOf x2=some .local),codeAny (model prog w) A (.forLoop (.Tuple [.Name x1 p1,.Name x2 p2] z pt) (.ref it) body [] env) R s
abbrev P1 (d:D0):=P0 d.1.1.1.1.1 d.1.1.1.1.2 d.1.1.1.2 d.1.1.2.1.1 d.1.1.2.1.2 d.1.1.2.2 d.1.2.1.1.1 d.1.2.1.1.2 d.1.2.1.2 d.1.2.2.1.1 d.1.2.2.1.2 d.1.2.2.2 d.2.1.1.1.1 d.2.1.1.1.2 d.2.1.1.2 d.2.1.2.1.1 d.2.1.2.1.2 d.2.1.2.2 d.2.2.1.1.1 d.2.2.1.1.2 d.2.2.1.2 d.2.2.2.1 d.2.2.2.2
theorem ne0:Nonempty D0:=⟨(((((Challenge.pw_ny0293_01,Classical.choice neW),callerA),((Classical.choice neS,default),default)),default),default)⟩
@[irreducible] def d0:D0:=@Classical.epsilon D0 ne0 fun d=>¬ P1 d
def prog:=d0.1.1.1.1.1
def w:=d0.1.1.1.1.2
def A:=d0.1.1.1.2
def s:=d0.1.1.2.1.1
def env:=d0.1.1.2.1.2
def g:=d0.1.1.2.2
def L:=d0.1.2.1.1.1
def m:=d0.1.2.1.1.2
def news:=d0.1.2.1.2
def R:=d0.1.2.2.1.1
def x1:=d0.1.2.2.1.2
def x2:=d0.1.2.2.2
def p1:=d0.2.1.1.1.1
def p2:=d0.2.1.1.1.2
def pt:=d0.2.1.1.2
def z:=d0.2.1.2.1.1
def body:=d0.2.1.2.1.2
def it:=d0.2.1.2.2
def fp:=d0.2.2.1.1.1
def wr:=d0.2.2.1.1.2
def n:=d0.2.2.1.2
def P:=d0.2.2.2.1
def St:=d0.2.2.2.2
theorem bd0 : P0 prog w A s env g L m news R x1 x2 p1 p2 pt z body it fp wr n P St := by
  intro hh hfp hwf hex hfr hdraw hdone hst F N hnw J h0 step hend hL hk hx1 hx2
  have keep:∀ {h h₂:Heap} {m' news'},Fr g L h m'→News g L h news'→(∀ p∈news',p.1∉fp)→(∀ b o,b∉wr→h.get? b=some o→h₂.get? b=some o)→Fr g L h₂ m'∧News g L h₂ news':=fun {h h₂ m' news'} F N hn e =>
    ⟨⟨F.ns.at' fun o eo=>e L o (fun q=>(hfp L (hwf L q)).2 rfl) eo,fun b o eo=>e b o (fun q=>by rw [(hfp b (hwf b q)).1] at eo; cases eo) (F.keep b o eo),F.above⟩,fun p hp=>⟨e _ _ (fun q=>hn p hp (hwf _ q)) (N p hp).1,(N p hp).2⟩⟩
  refine codeAny_forLoop_any (fun k s'=>Ex5 fun h' tk m' news' i=>And8 (s'=up s h' tk) (St i h') (Fr g L h' m') (News g L h' news') ((∀ p∈news',p.1∉fp)) (J i m' news') (i≤n) (k=n+1 - i)) ?_ (n+1)
    ⟨s.heap,s.toks,m,news,0,rfl,hst,F,N,hnw,h0,Nat.zero_le _,rfl⟩
  rintro k s' ⟨H,tk,m',news',i,rfl,hst',F',N',hnw',hJ,hi,rfl⟩
  by_cases hlt:i<n
  · refine wpAny_mono (hdraw i (up s H tk) _ (notedBy (model prog w) A env fun e s'=>R (.error e) s') (fun v s₂=>?_) hlt hst' F'.keep ?_) (fun r s₁ z=>?_) fun _ _ e=>e
    case refine_1=>exact wpAny (model prog w) A (assign (.Tuple [.Name x1 p1,.Name x2 p2] z pt) env v) (fun _ s₂=>wpAny (model prog w) A (execs body env) (fun f s₃=>match f with
            | .next | .cont=>∃ m,m<n+1 - i∧(Ex5 fun h' tk m' news' i=>And8 (s₃=up s h' tk) (St i h') (Fr g L h' m') (News g L h' news') ((∀ p∈news',p.1∉fp)) (J i m' news') (i≤n) (m=n+1 - i))
            | .brk=>R (.ok .next) s₃
            | .ret v=>R (.ok (.ret v)) s₃) (notedBy (model prog w) A env fun e s'=>R (.error e) s') s₂) (notedBy (model prog w) A env fun e s'=>R (.error e) s') s₂
    · intro v1 v2 h₂ tp tk₂ hP hst₂ htp hfr₂ ex
      obtain ⟨F₂,N₂⟩:=keep F' N' hnw' ex
      refine wpAny_assign_Tuple hh htp rfl rfl fun h₃ hx₃=>?_
      replace hx₃:Heap.ExtBut h₂.objs.size h₂ h₃:=hx₃
      obtain ⟨F₃,N₃⟩:=growBut F₂ N₂ hx₃
      have st₃:St (i+1) h₃:=hfr _ _ _ hst₂ fun b _ o e=>hx₃ b o (Nat.ne_of_lt (Heap.lt_size e)) e
      show wpAny _ _ (do holding [v2] (assign (.Name x1 p1) env v1); do holding [] (assign (.Name x2 p2) env v2); pure ()) _ _ _
      obtain ⟨own,ow1,ow2⟩:=own_of fp (hex _ _ st₃)
      have N₃':News g L h₃ (news'++own):=fun p hp=>by
        rcases List.mem_append.mp hp with q | q
        · exact N₃ p q
        · exact ⟨(ow1 p q).2,(hfp _ (ow1 p q).1).2,(hfp _ (ow1 p q).1).1⟩
      refine wpAny_bind (wpAny_holding (wpAny_assign_Name (st (s:=up _ _ _) F₃ N₃' (fun h₄ tk₄ F₄ N₄=>?_) hL hk hx1)))
      refine wpAny_bind (wpAny_holding (wpAny_assign_Name (st (s:=up _ _ _) F₄ N₄ (fun h₅ tk₅ F₅ N₅=>wpAny_pure ?_) hL hk hx2)))
      refine wpAny_mono (step _ i v1 v2 m' news' h₅ tk₅ own hlt hP hJ hnw' (fun p hp=>(ow1 p hp).1) (fun b hb=>?_) F₅ N₅) (fun f s₃ t=>?_) fun _ _ e=>e
      · obtain ⟨o,ho⟩:=ow2 b hb
        exact ⟨o,ho,(N₅ (b,o) (List.mem_append_right _ ho)).1⟩
      have fin:∀ {s₃:Shared},(Ex4 fun h' tk m' news'=>And5 (s₃=up s h' tk) (Fr g L h' m') (News g L h' (news'++own)) ((∀ p∈news',p.1∉fp)) (J (i+1) m' news')) →
          ∃ m,m<n+1 - i∧(Ex5 fun h' tk m' news' i=>And8 (s₃=up s h' tk) (St i h') (Fr g L h' m') (News g L h' news') ((∀ p∈news',p.1∉fp)) (J i m' news') (i≤n) (m=n+1 - i)):=by
        rintro s₃ ⟨h',tk',m₂,news₂,rfl,F'',N'',hw'',hj⟩
        refine ⟨n+1 - (i+1),by lia,h',tk',m₂,news₂,i+1,rfl,hfr _ _ _ st₃ (fun b hb o e=>?_),F'',news_left N'',hw'',hj,hlt,rfl⟩
        obtain ⟨o',ho'⟩:=ow2 b hb
        have z1:=(ow1 _ ho').2
        rw [e] at z1
        have z2:=(N'' (b,o') (List.mem_append_right _ ho')).1
        rw [show some o=some o' from z1]; exact z2
      cases f with
      | ret v=>exact t
      | brk=>exact t
      | next=>exact fin t
      | cont=>exact fin t
    · obtain ⟨v,rfl,hv⟩:=z
      exact hv
  · have:i=n:=by lia
    subst this
    refine hdone (up s H tk) _ _ hst' F'.keep fun h₂ tk₂ ex=>wpAny_execs_nil ?_
    obtain ⟨F₂,N₂⟩:=keep F' N' hnw' ex
    exact hend h₂ tk₂ m' news' F₂ N₂ hnw' hJ
theorem al0:∀ d,P1 d:=epsAll ne0 P1 (by with_unfolding_all exact bd0)
end ZforP
end
section
variable {prog:Program} {w:World} {M:Model} {A:Around} {E:Value→Shared→Prop} {s:Shared} {env:Env} {g:Heap} {L:Addr} {m:Str→Option Value} {news:List (Addr×Obj)}
theorem forP {R:Result→Shared→Prop} {x1 x2:Str} {p1 p2 pt:Pos} {z:Nat} {body:List Stmt} {it:Addr} {fp wr:List Addr} {n:Nat} {P:Nat→Value→Value→Prop} {St:Nat→Heap→Prop} (hh:A.handled=none) (hfp:∀ b∈fp,g.get? b=none∧b≠L) (hwf:∀ b∈wr,b∈fp) (hex:∀ i h,St i h→∀ b∈fp,∃ o,h.get? b=some o) (hfr:∀ i h h',St i h→(∀ b∈fp,∀ o,h.get? b=some o→h'.get? b=some o)→St i h') (hdraw:∀ i (s':Shared) (E₁ E₂:Value→Shared→Prop) (Q:Value→Shared→Prop),i<n→St i s'.heap→Sub g s'.heap →
      (∀ v1 v2 h₂ tp tk,P i v1 v2→St (i+1) h₂→h₂.IsTuple tp #[v1,v2]→s'.heap.get? tp=none→(∀ b o,b∉wr→s'.heap.get? b=some o→h₂.get? b=some o)→Q (.ref tp) (up s' h₂ tk)) →
      wpAny (model prog w) A (pyNext (.ref it)) (fun r s₁=>∃ v,r=some v∧wpAny (model prog w) A (letOwnedTupleGo (.Tuple [.Name x1 p1,.Name x2 p2] z pt) (.ref it) v) (fun _ s₂=>Q v s₂) E₂ s₁) E₁ s') (hdone:∀ (s':Shared) (E₁:Value→Shared→Prop) (Q:Option Value→Shared→Prop),St n s'.heap→Sub g s'.heap→(∀ h₂ tk,(∀ b o,b∉wr→s'.heap.get? b=some o→h₂.get? b=some o)→Q none (up s' h₂ tk))→wpAny (model prog w) A (pyNext (.ref it)) Q E₁ s') (hst:St 0 s.heap) (F:Fr g L s.heap m) (N:News g L s.heap news) (hnw:∀ p∈news,p.1∉fp) (J:Nat→(Str→Option Value)→List (Addr×Obj)→Prop) (h0:J 0 m news) (step:∀ (E':Value→Shared→Prop) i v1 v2 m₁ news₁ h₁ tk₁ own,i<n→P i v1 v2→J i m₁ news₁→(∀ p∈news₁,p.1∉fp)→(∀ p∈own,p.1∈fp)→(∀ b∈fp,∃ o,(b,o)∈own∧h₁.get? b=some o) →
      Fr g L h₁ (fun y=>if y=x2 then some v2 else if y=x1 then some v1 else m₁ y)→News g L h₁ (news₁++own) →
      wpAny (model prog w) A (execs body env) (Turn s g L fp own (J (i+1)) R) E' (up s h₁ tk₁)) (hend:∀ h' tk m' news',Fr g L h' m'→News g L h' news'→(∀ p∈news',p.1∉fp)→J n m' news'→R (.ok .next) (up s h' tk)) (hL:env.locals=L:=by rfl) (hk:env.scope.kind=.function:=by rfl) (hx1:env.kindOf x1=some .local:=by kernel_rfl) (hx2:env.kindOf x2=some .local:=by kernel_rfl):codeAny (model prog w) A (.forLoop (.Tuple [.Name x1 p1,.Name x2 p2] z pt) (.ref it) body [] env) R s:=ZforP.al0 (((((prog,w),A),((s,env),g)),(((L,m),news),((R,x1),x2))),((((p1,p2),pt),((z,body),it)),(((fp,wr),n),(P,St)))) hh hfp hwf hex hfr hdraw hdone hst F N hnw J h0 step hend hL hk hx1 hx2
theorem intKind_shape {k:Int} {key:Value} (h:(intKind prog w).is k key=true):∃ t,key=.int k t:=by
  cases key with
  | int i t=>refine ⟨t,?_⟩; have:(i==k)=true:=h; rw [beq_iff_eq] at this; rw [this]
  | _=>cases h
theorem iterItems {R:Result→Shared→Prop} {x1 x2:Str} {p1 p2 pt:Pos} {z:Nat} {body:List Stmt} {v d:Addr} {kvs:List (Int×Value)} {ep:Nat} (hh:A.handled=none) (F:Fr g L s.heap m) (N:News g L s.heap news)
    (hv:s.heap.IsItemsView v d) (hm:g.DictAt (intKind prog w) d kvs ep)
    (J:Nat→(Str→Option Value)→List (Addr×Obj)→Prop) (h0:J 0 m news)
    (step:∀ (E':Value→Shared→Prop) i k x t m₁ news₁ h₁ tk₁ own,kvs[i]?=some (k,x)→J i m₁ news₁→(∀ p∈news₁,p.1∉[s.heap.objs.size])→(∀ p∈own,p.1∈[s.heap.objs.size])→(∀ b∈[s.heap.objs.size],∃ o,h₁.get? b=some o) →
      Fr g L h₁ (fun y=>if y=x2 then some x else if y=x1 then some (.int k t) else m₁ y)→News g L h₁ (news₁++own) →
      wpAny (model prog w) A (execs body env) (Turn s g L [s.heap.objs.size] own (J (i+1)) R) E' (up s h₁ tk₁))
    (hend:∀ h' tk m' news',Fr g L h' m'→News g L h' news'→(∀ p∈news',p.1∉[s.heap.objs.size])→J kvs.length m' news'→R (.ok .next) (up s h' tk))
    (hL:env.locals=L:=by rfl) (hk:env.scope.kind=.function:=by rfl) (hx1:env.kindOf x1=some .local:=by kernel_rfl) (hx2:env.kindOf x2=some .local:=by kernel_rfl) :
    wpAny (model prog w) A (pyIter (.ref v)) (fun it s₂=>codeAny (model prog w) A (.forLoop (.Tuple [.Name x1 p1,.Name x2 p2] z pt) it body [] env) R s₂) E s:=by
  refine wpAny_pyIter_items hv (hm.keep F.keep) ?_
  have hLs:L≠s.heap.objs.size:=Nat.ne_of_lt F.ns.lt
  have F':=F.push { cls:=.type "dict_itemiterator",data:=.fields #[.none,.bool false,.ref d,.int 0 0,.int kvs.length 0,.int ep 0,.none,.none] }
  have N':News g L (s.heap.push { cls:=.type "dict_itemiterator",data:=.fields #[.none,.bool false,.ref d,.int 0 0,.int kvs.length 0,.int ep 0,.none,.none] }) news:=(grow F N fun b o e=>Heap.get?_push_of_some _ e).2
  refine forP (s:=up s (s.heap.push { cls:=.type "dict_itemiterator",data:=.fields #[.none,.bool false,.ref d,.int 0 0,.int kvs.length 0,.int ep 0,.none,.none] }) s.toks) (fp:=[s.heap.objs.size]) (wr:=[s.heap.objs.size]) (n:=kvs.length)
    (P:=fun i v1 v2=>∃ k t,kvs[i]?=some (k,v2)∧v1=.int k t) (St:=fun i h=>∃ ok ov,IsItemIter h s.heap.objs.size d i kvs.length ep ok ov) hh
    (fun b hb=>by rw [List.mem_singleton] at hb; subst hb; exact ⟨size_none F,hLs.symm⟩) (fun _ h=>h) (fun i h ⟨ok,ov,z⟩ b hb=>by rw [List.mem_singleton] at hb; subst hb; exact ⟨_,z⟩)
    (fun i h h' ⟨ok,ov,z⟩ hk=>⟨ok,ov,hk _ (.head _) _ z⟩) (fun i s' E₁ E₂ Q hi ⟨ok,ov,hit⟩ hsub hq=>?_) (fun s' E₁ Q ⟨ok,ov,hit⟩ hsub hq=>?_) ⟨.none,.none,Heap.get?_push_size _ rfl⟩ F' N'
    (fun p hp q=>absurd (Heap.lt_size (N p hp).1) (by rw [List.mem_singleton.mp q]; exact Nat.lt_irrefl _)) J h0 (fun E' i v1 v2 m₁ news₁ h₁ tk₁ own hi ⟨k,t,hkv,e⟩ hJ hw ho hx F₁ N₁=>?_) (fun h' tk m' news' F' N' hw hj=>hend h' tk m' news' F' N' hw hj) hL hk hx1 hx2
  · have hkv:kvs[i]?=some kvs[i]:=List.getElem?_eq_getElem hi
    refine wpAny_pyNext_items_item (k:=kvs[i].1) (v:=kvs[i].2) hit (hm.keep hsub) hkv fun key h' hkey ho ht hz hk=>⟨_,rfl,?_⟩
    refine wpAny_letOwnedTupleGo_items ho fun h₂ he₂ hs₂=>?_
    replace hs₂:Heap.SameBut s.heap.objs.size h' h₂:=hs₂
    have hne:s'.heap.objs.size≠s.heap.objs.size:=Nat.ne_of_gt (Heap.lt_size hit)
    obtain ⟨t,rfl⟩:=intKind_shape hkey
    refine hq (.int kvs[i].1 t) kvs[i].2 h₂ s'.heap.objs.size _ ⟨kvs[i].1,t,hkv,rfl⟩ ⟨_,_,he₂⟩ ⟨_,(hs₂.2 _ hne).trans ht,rfl,_,rfl⟩ (Heap.get?_none_of_le (Nat.le_refl _)) fun b o hb e=>?_
    have hb':b≠s.heap.objs.size:=fun q=>hb (by rw [q]; exact .head _)
    exact (hs₂.2 b hb').trans (hk b o hb' e)
  · refine wpAny_pyNext_items_end hh hit (hm.keep hsub) (by simp) fun h' he=>hq h' _ fun b o hb e=>he b o (fun q=>hb (by rw [q]; exact .head _)) e
  · subst e
    exact step E' i k v2 t m₁ news₁ h₁ tk₁ own hkv hJ hw ho (fun b hb=>let ⟨o,_,e⟩:=hx b hb; ⟨o,e⟩) F₁ N₁
end
end
section
section
variable {prog:Program} {w:World} {A:Around} {E:Value→Shared→Prop} {s:Shared} {O dx D L:Addr} {n:Nat} {t1 t2 t3 t4:Tok} {va vb vc vd v:Value} {g:Heap} {m:Str→Option Value} {news:List (Addr×Obj)}
noncomputable def sd1 (w:World) (t1:Tok) (a:Value):List DictEntry:=[⟨PyData.keyHash w.params "_node2info",.str "_node2info" t1,a⟩]
noncomputable def sd2 (w:World) (t1 t2:Tok) (a b:Value):List DictEntry:=[⟨PyData.keyHash w.params "_node2info",.str "_node2info" t1,a⟩,⟨PyData.keyHash w.params "_ready_nodes",.str "_ready_nodes" t2,b⟩]
noncomputable def sd3 (w:World) (t1 t2 t3:Tok) (a b c:Value):List DictEntry:=[⟨PyData.keyHash w.params "_node2info",.str "_node2info" t1,a⟩,⟨PyData.keyHash w.params "_ready_nodes",.str "_ready_nodes" t2,b⟩,⟨PyData.keyHash w.params "_npassedout",.str "_npassedout" t3,c⟩]
theorem sd_put1:(putL (Str.ofString "_node2info") (PyData.keyHash w.params (Str.ofString "_node2info")) (.str (Str.ofString "_node2info") t1) v [],putN (Str.ofString "_node2info") [] 0)=(sd1 w t1 v,1):=by kernel_rfl
theorem sd_put2:(putL (Str.ofString "_ready_nodes") (PyData.keyHash w.params (Str.ofString "_ready_nodes")) (.str (Str.ofString "_ready_nodes") t2) v (sd1 w t1 va),putN (Str.ofString "_ready_nodes") (sd1 w t1 va) 1)=(sd2 w t1 t2 va v,2):=by kernel_rfl
theorem sd_put3:(putL (Str.ofString "_npassedout") (PyData.keyHash w.params (Str.ofString "_npassedout")) (.str (Str.ofString "_npassedout") t3) v (sd2 w t1 t2 va vb),putN (Str.ofString "_npassedout") (sd2 w t1 t2 va vb) 2)=(sd3 w t1 t2 t3 va vb v,3):=by kernel_rfl
theorem sd_put4:(putL (Str.ofString "_nfinished") (PyData.keyHash w.params (Str.ofString "_nfinished")) (.str (Str.ofString "_nfinished") t4) v (sd3 w t1 t2 t3 va vb vc),putN (Str.ofString "_nfinished") (sd3 w t1 t2 t3 va vb vc) 3)=(sd w t1 t2 t3 t4 va vb vc v,4):=by kernel_rfl
theorem bind132 (w:World) (O:Addr):∃ k:Option (Array Value)→Sem (List (Str×Value)),bindArgs (fd132 w) ⟨[.ref O],[]⟩=seqItems? (.ref 125) >>= k∧k (some #[.none])=pure [(("self":Str),.ref O),(("graph":Str),.none)]:=by
  refine ⟨?k,?a,?b⟩
  case a=>exact (rfl:_=seqItems? _ >>= _)
  case b=>rfl
theorem init_none {R:Result→Shared→Prop} (rm:Room A 1) (T:Wd w (hideAll s.heap [dx])) (hO:s.heap.get? O=some (instObj 196 dx)) (hd:s.heap.get? dx=some (dictOf [] 0)) (hne:O≠dx)
    (h:∀ h' tk' D od t1 t2 t3 t4 t5 t6,Ext [dx] s.heap h'→h'.get? dx=some (dictOf (sd w t1 t2 t3 t4 (.ref D) .none (.int 0 t5) (.int 0 t6)) 4)→h'.get? D=some od→od.IsDictOf (intKind prog w) []→(D==sysModules)=false→s.heap.get? D=none→R (.ok (.ret .none)) (up s h' tk')) :
    codeAny (model prog w) A (.call (.ref 132) ⟨[.ref O],[]⟩) R s:=by
  have k125:s.heap.get? 125=some { cls:=.type "tuple",data:=.seq #[.none] }:=T.of_hide.X 125 _ (by kernel_rfl)
  refine enter (W:=[(dx,dictOf [] 0)]) (binds:=[(("self":Str),.ref O),(("graph":Str),.none)]) rm.le' (fn132 T.of_hide.X) T.of_hide.lim (cd132 T.of_hide.X) (fun p hp=>by rw [List.mem_singleton] at hp; subst hp; exact hd) rfl
    (let ⟨k,e1,e2⟩:=bind132 w O; fun _ _ _ _ hq=>e1 ▸ wpAny_bind (wpAny_seqItems k125 rfl (e2 ▸ wpAny_pure hq))) (by kernel_rfl) (by kernel_rfl) ?_ (by kernel_rfl) (by kernel_rfl) (by kernel_rfl)
  intro L h₀ tk₀ hL F N A₁ R₁ E₁ dA hret hnone
  replace h:=fun x0 x1 x2 x3 x4 x5 x6 x7 x8 x9 x10 x11 x12 x13 x14 x15=>hnone _ (h x0 x1 x2 x3 x4 x5 x6 x7 x8 x9 x10 x11 x12 x13 x14 x15)
  change News (hideAll s.heap [dx]) L h₀ [(dx,dictOf [] 0)] at N
  change Fr (hideAll s.heap [dx]) L h₀ _ at F
  have gO:(hideAll s.heap [dx]).get? O=some (instObj 196 dx):=hideAll_get _ hO (fun q=>hne (List.mem_singleton.mp q))
  refine wpAny_execs_cons<|plainObj_wpAny_Assign_Attribute<|newDict_K F N T.lim fun D h1 od F1 N1 lt1 lo _ _ hod _=>ld (s:=up _ _ _) F1 rfl<|setS (s:=up _ _ _) T F1 N1 (F1.keep _ _ gO) (N1 _ (.tail _ (.head _))).1 (by rfl) sd_put1 (.tail (Nat.ne_of_gt (lt1 _ (.head _))) (.head fun _ h=>noMem h)) (by simp [sd1,sd2,sd3,sd]) fun h2 tk2 F2 N2=>?_
  refine wpAny_execs_cons<|plainObj_wpAny_Assign_Attribute<|wpAny_Constant_none<|ld (s:=up _ _ _) F2 rfl<|setS (s:=up _ _ _) T F2 N2 (F2.keep _ _ gO) (N2 _ (.tail _ (.head _))).1 (by kernel_rfl) sd_put2 (.tail (Nat.ne_of_gt (lt1 _ (.head _))) (.head fun _ h=>noMem h)) (by simp [sd1,sd2,sd3,sd]) fun h3 tk3 F3 N3=>?_
  refine wpAny_execs_cons<|plainObj_wpAny_Assign_Attribute<|cint fun t5 tk4=>ld (s:=tkd _ _) F3 rfl<|setS (s:=tkd _ _) T F3 N3 (F3.keep _ _ gO) (N3 _ (.tail _ (.head _))).1 (by kernel_rfl) sd_put3 (.tail (Nat.ne_of_gt (lt1 _ (.head _))) (.head fun _ h=>noMem h)) (by simp [sd1,sd2,sd3,sd]) fun h5 tk5 F5 N5=>?_
  refine wpAny_execs_cons<|plainObj_wpAny_Assign_Attribute<|cint fun t6 tk6=>ld (s:=tkd _ _) F5 rfl<|setS (s:=tkd _ _) T F5 N5 (F5.keep _ _ gO) (N5 _ (.tail _ (.head _))).1 (by kernel_rfl) sd_put4 (.tail (Nat.ne_of_gt (lt1 _ (.head _))) (.head fun _ h=>noMem h)) (by simp [sd1,sd2,sd3,sd]) fun h7 tk7 F7 N7=>?_
  refine wpAny_execs_cons<|wpAny_If<|wpAny_isTrue_Compare1<|ld (s:=up _ _ _) F7 rfl<|wpAny_Constant_none<|wpAny_isNot_self rfl<|wpAny_truthy_bool ?_
  first | refine ifF (by simp) ?_ | rw [if_neg (by simp)]
  refine wpAny_execs_nil<|wpAny_execs_nil ?_
  refine h _ _ D od _ _ _ _ t5 t6 (ext_of_fr (W:=[dx]) F7) (N7 _ (.tail _ (.head _))).1 (N7 _ (.head _)).1 hod lo ?_
  rcases hide_or (N7 _ (.head _)).2.2 with q | q
  · exact absurd (List.mem_singleton.mp q) (Nat.ne_of_gt (lt1 _ (.head _)))
  · exact q
theorem sep_next {h:Heap} {nds nds':List Nd} {a:Addr} {o:Obj} (ha:h.get? a=some o) (hn:a∉(led nds).map (·.1)) (hf:∀ p∈led nds',p.1∈(led nds).map (·.1)∨h.get? p.1=none):a∉(led nds').map (·.1):=fun q=>by
  obtain ⟨p,hp,e⟩:=List.mem_map.mp q
  rcases hf p hp with z | z
  · exact hn (e ▸ z)
  · rw [e,ha] at z; cases z
theorem addL {Q : Value → Shared → Prop} {k : Int} {t : Tok} {od : Obj} {preds : List Int} {pv : List Value} {nds : List Nd} {rest : List (Addr × Obj)} {b c : Nat} (rm : Room A 4) (T : Wd w g) (F : Fr g L s.heap m) (N : News g L s.heap ((D, od) :: (led nds ++ rest)))
    (hO:s.heap.get? O=some (instObj 196 dx)) (hdx:s.heap.get? dx=some (dictOf (sd w t1 t2 t3 t4 (.ref D) .none vc vd) n)) (hod:od.IsDictOf (intKind prog w) (kvsOf nds)) (lo:(D==sysModules)=false) (ok:Nok nds)
    (sO:O≠D∧O∉(led nds).map (·.1)) (sdx:dx≠D∧dx∉(led nds).map (·.1)) (hDl:∀ p∈led nds,p.1≠D) (hrs:∀ p∈rest,p.1≠D∧p.1∉(led nds).map (·.1)) (bd:Bd b c (absOf nds)) (hb:b+pv.length≤500) (hc:c+pv.length≤500) (hi:IntsAre pv preds)
    (h:∀ h' tk' nds' od',Fr g L h' m→News g L h' ((D,od')::(led nds'++rest))→od'.IsDictOf (intKind prog w) (kvsOf nds')→Nok nds'→absOf nds'=addP (absOf nds) k preds→(∀ p∈led nds',p.1∈(led nds).map (·.1)∨s.heap.get? p.1=none) →
      (∀ p∈led nds',p.1≠D)→Ext (D::(led nds).map (·.1)) s.heap h'→Q .none (up s h' tk')):codeAny (model prog w) A (.call (.ref 146) ⟨.ref O::.int k t::pv,[]⟩) (wants Q E) s:=by
  have nW:∀ {a:Addr},a≠D→a∉(led nds).map (·.1)→a∉D::(led nds).map (·.1):=fun h1 h2 q=>by
    rcases List.mem_cons.mp q with q | q
    · exact h1 q
    · exact h2 q
  refine add_code rm (T.hide F fun a ha=>?_) (hideAll_get _ hO (nW sO.1 sO.2)) (hideAll_get _ hdx (nW sdx.1 sdx.2)) (N _ (.head _)).1 hod lo ok (fun p hp=>(N p (.tail _ (List.mem_append_left _ hp))).1) hDl bd hb hc hi fun h' tk' nds' od' ex hD' hod' ok' ab hN' hfr fD=>?_
  · rcases List.mem_cons.mp ha with rfl | ha
    · exact (N _ (.head _)).2.2
    · obtain ⟨p,hp,rfl⟩:=List.mem_map.mp ha
      exact (N p (.tail _ (List.mem_append_left _ hp))).2.2
  obtain ⟨F',N'⟩:=back (W:=(D,od)::led nds) (W':=(D,od')::led nds') (rest:=rest) F N ex
    (fun p hp=>by
      rcases List.mem_cons.mp hp with rfl | hp
      · exact hD'
      · exact hN' p hp)
    (fun p hp=>by
      rcases List.mem_cons.mp hp with rfl | hp
      · exact .inl (.head _)
      · rcases hfr p hp with q | q
        · exact .inl (.tail _ q)
        · exact .inr q)
    (fun p hp q=>nW (hrs p hp).1 (hrs p hp).2 q)
  exact h h' tk' nds' od' F' N' hod' ok' ab hfr fD ex
theorem boundS {Q:Value→Shared→Prop} {f:Addr} {es:List DictEntry} {name:Str} {expr:Bool} (T:Wd w g) (F:Fr g L s.heap m) (N:News g L s.heap news) (hO:s.heap.get? O=some (instObj 196 dx)) (hdx:s.heap.get? dx=some (dictOf es n)) (hl:getL name es=some none)
    (h:∀ q h' tk,Fr g L h' m→News g L h' ((q,methodObj (.ref f) (.ref O))::news)→(∀ b o,s.heap.get? b=some o→h'.get? b=some o)→(∀ p∈news,p.1<q)→s.heap.get? q=none→Q (.ref q) (up s h' tk))
    (hf:findIn (K w) (.ref 196) name=some (some (.ref f)):=by kernel_rfl) (hi:isFn (K w) (.ref f)=true:=by kernel_rfl) (hg:plainGet (K w) 196 name=true:=by kernel_rfl)
    (hs:specialIn (K w) (.ref f) "__get__"=some (some (.builtin "function.__get__")):=by kernel_rfl) (ht:takesIn (K w) (.ref f)=some false:=by kernel_rfl) (hc:copiedNames.contains name=false:=by kernel_rfl):wpAny (model prog w) A (getAttr (.ref O) name expr) Q E s :=
  get_bind (T.X.keeps F.keep) (⟨hO,rfl,rfl,hdx⟩:InstAt s.heap O (instObj 196 dx) 196 (some (dictOf es n))) (plainGet_of hg).1 (findObj_fn (by kernel_rfl) hf hs ht hc (by show lookIn name (dictOf es n)=_; rw [lookIn_dict,hl])) (plainGet_of hg).2
    (wpAny_call (fn_get (s:={ s with toks:=s.toks+1 }) (T.X.keeps F.keep) (beq_iff_eq.mp hi) (handed_on rfl (h s.heap.objs.size _ _ (F.push _) (N.push F _) (fun b o e=>Heap.get?_push_of_some _ e) (fun p hp=>Heap.lt_size (N p hp).1) (Heap.get?_none_of_le (Nat.le_refl _))))))
theorem callMS2 {M:Model} {pos:Pos} {env:Env} {q f:Addr} {self:Value} {e:Expr} {rest:List Expr} {Q:Value→Shared→Prop} (hf:fnIn (K w) f=true)
    (h:wpAny M A (spliced (backTo pos (starEach (e::rest) env))) (fun vs s₁=>MethP (K w) q f self s₁.heap∧wpAny M A (call (.ref q) vs) Q E s₁) E s)
    (he:starEach (e::rest) env=(false,eval e env)::starEach rest env:=by rfl) (hst:(backTo pos (starEach rest env)).any (·.1)=true:=by rfl) :
    wpAny M A (callWith pos (.ref q) [] (backTo pos (starEach (e::rest) env)) []) Q E s:=by
  rw [he] at h ⊢
  exact ks_call (by show (false || (backTo pos (starEach rest env)).any (·.1))=true; rw [hst]; rfl) (keeps_M hf) (evalArgs_plain h)
theorem callMS {M:Model} {pos p:Pos} {env:Env} {q f:Addr} {self:Value} {e:Expr} {Q:Value→Shared→Prop} (hf:fnIn (K w) f=true)
    (h:wpAny M A (eval e env) (fun v s₁=>StarOf M A E v (fun vs s₂=>MethP (K w) q f self s₂.heap∧wpAny M A (call (.ref q) vs) Q E s₂) s₁) E s)
    (he:starEach [.Starred e p] env=[(true,eval e env)]:=by rfl):wpAny M A (callWith pos (.ref q) [] (backTo pos (starEach [.Starred e p] env)) []) Q E s:=by
  rw [he]
  exact ks_call rfl (keeps_M hf) (ks_lone h)
theorem Call_sm {M:Model} {o:Expr} {name:Str} {apos pos:Pos} {args:List Expr} {env:Env} {Q:Value→Shared→Prop}
    (h:wpAny M A (eval o env) (fun ov s₁=>wpAny M A (getAttr ov name true) (fun f s₂=>wpAny M A (callWith pos f [] (backTo pos (starEach args env)) []) Q E s₂) E s₁) E s)
    (hf:methodCallForm (args.length+0) (backTo pos (starEach args env)) []=false:=by rfl) (hb:attributeBase o name env (eval o env)=eval o env:=by rfl) :
    wpAny M A (eval (.Call (.Attribute o name apos) args [] pos) env) Q E s:=by
  rw [arm_eval_Call,hb]
  refine wpAny_bind (wpAny_mono h (fun ov s₁ h₁=>wpAny_bind (wpAny_standAt ?_)) fun _ _ e=>e)
  show wpAny M A (methodCall o name apos pos env ov (args.length+0) (backTo pos (starEach args env)) []) Q E s₁
  unfold methodCall
  rw [hf]
  refine wpAny_bind (wpAny_holding ?_)
  show wpAny M A (getAttr ov name true >>= fun v=>pure (v,[])) _ _ _
  refine wpAny_bind (wpAny_mono h₁ (fun f s₂ h₂=>wpAny_pure ?_) fun _ _ e=>e)
  exact wpAny_bind (wpAny_pure h₂)
end
end
section
theorem Bd.step {k:Int} {b c:Nat} {st:List AN} (h:Bd b c st) (p:Int):Bd (b+1) (c+1) (addStep k st p):=(h.touch p).mod p (by lia) fun e he=>by simp; lia
theorem Bd.steps {k:Int}:∀ (preds:List Int) {b c:Nat} {st:List AN},Bd b c st→Bd (b+preds.length) (c+preds.length) (preds.foldl (addStep k) st)
  | [],_,_,_,h=>h
  | p::ps,b,c,st,h=>by
    have:=Bd.steps (k:=k) ps (h.step (k:=k) p)
    rw [List.foldl_cons,List.length_cons]
    rw [show b+(ps.length+1)=b+1+ps.length by lia,show c+(ps.length+1)=c+1+ps.length by lia]
    exact this
theorem Bd.addP {b c:Nat} {st:List AN} (h:Bd b c st) (k:Int) (preds:List Int):Bd (b+preds.length) (c+1+preds.length) (addP st k preds) :=
  Bd.steps preds ((h.touch k).mod k (Nat.le_refl _) fun e he=>he)
section
variable {prog:Program} {w:World} {A:Around} {E:Value→Shared→Prop} {s:Shared} {O dx D L:Addr} {n:Nat} {t1 t2 t3 t4:Tok} {va vb vc vd v:Value} {g:Heap} {m:Str→Option Value} {news:List (Addr×Obj)}
theorem starL {Q:List Value→Shared→Prop} {l:Addr} {vs:List Value} (F:Fr g L s.heap m) (N:News g L s.heap news) (hl:s.heap.get? l=some (W.listOf vs.toArray n)) (hz:vs.length≤1000)
    (h:∀ h',Fr g L h' m→News g L h' news→(∀ b o,s.heap.get? b=some o→h'.get? b=some o)→Q vs (up s h' s.toks)):StarOf (model prog w) A E (.ref l) Q s:=by
  have hT':s.TypeIs (.ref l) "list":=⟨_,hl,rfl⟩
  have z:wpAny (model prog w) A (collect (.ref l)) Q E s:=by
    refine wpAny_collect_seq l (.inl rfl) hl rfl rfl (fun h' hk=>?_) (by rw [List.size_toArray,sizeLine_eq]; lia)
    obtain ⟨F',N'⟩:=grow F N hk
    exact h h' F' N' hk
  unfold StarOf notIterableAtAll
  exact wpAny_bind (wpAny_specialOf hT' PySem.F.slot_list_iter.lookup (wpAny_pure ⟨rfl,z⟩))
theorem starT {Q:List Value→Shared→Prop} {l:Addr} {vs:List Value} (F:Fr g L s.heap m) (N:News g L s.heap news) (hl:s.heap.get? l=some (tupOf vs)) (hz:vs.length≤1000)
    (h:∀ h',Fr g L h' m→News g L h' news→(∀ b o,s.heap.get? b=some o→h'.get? b=some o)→Q vs (up s h' s.toks)):StarOf (model prog w) A E (.ref l) Q s:=by
  have hT':s.TypeIs (.ref l) "tuple":=⟨_,hl,rfl⟩
  have z:wpAny (model prog w) A (collect (.ref l)) Q E s:=by
    refine wpAny_collect_seq l (.inr rfl) hl rfl rfl (fun h' hk=>?_) (by rw [List.size_toArray,sizeLine_eq]; lia)
    obtain ⟨F',N'⟩:=grow F N hk
    exact h h' F' N' hk
  unfold StarOf notIterableAtAll
  exact wpAny_bind (wpAny_specialOf hT' PySem.F.slot_tuple_iter.lookup (wpAny_pure ⟨rfl,z⟩))
noncomputable def initP (gr:List (Int×List Int)):List AN:=gr.foldl (fun st e=>addP st e.1 e.2) []
theorem bind132g (w:World) (O G:Addr):∃ k:Option (Array Value)→Sem (List (Str×Value)),bindArgs (fd132 w) ⟨[.ref O,.ref G],[]⟩=seqItems? (.ref 125) >>= k∧k (some #[.none])=pure [(("self":Str),.ref O),(("graph":Str),.ref G)]:=by
  refine ⟨?k,?a,?b⟩
  case a=>exact (rfl:_=seqItems? _ >>= _)
  case b=>rfl
noncomputable def GrAt (prog:Program) (w:World) (h:Heap) (G:Addr) (kvs:List (Int×Value)) (gr:List (Int×List Int)):Prop:=h.DictOf (intKind prog w) G kvs∧(G==sysModules)=false∧kvs.length=gr.length ∧
  ∀ (i:Nat) (k:Int) (x:Value),kvs[i]?=some (k,x)→∃ (l:Addr) (vs:List Value) (ns:List Int) (n:Nat),x=.ref l∧h.get? l=some (W.listOf (List.toArray vs) n)∧IntsAre vs ns∧gr[i]?=some (k,ns)∧ns.length≤5
end
noncomputable section
namespace Zinitgraph
abbrev D0:=((((Program)×(World))×((Around)×(Shared)))×(((Around)×(Addr))×((Addr)×(Addr))))×((((List (Int×Value))×(List (Int×List Int)))×((Addr)×(Heap)))×(((Nat)×(Flow→Shared→Prop))×(Value→Shared→Prop)))
abbrev P0 (prog:Program) (w:World) (A:Around) (s:Shared) (A₁:Around) (O dx G:Addr) (kvs:List (Int×Value)) (gr:List (Int×List Int)) (L:Addr) (h₀:Heap) (tk₀:Nat) (R₁:Flow→Shared→Prop) (E₁:Value→Shared→Prop):Prop:=∀ (rm:Room A 5) (T:Wd w (hideAll s.heap [dx])) (hO:s.heap.get? O=some (instObj 196 dx)) (hd:s.heap.get? dx=some (dictOf [] 0)) (hne:O≠dx) (hG:GrAt prog w (hideAll s.heap [dx]) G kvs gr) (hgz:gr.length≤20) (h:∀ h' tk' D od t1 t2 t3 t4 t5 t6 nds,Ext [dx] s.heap h'→h'.get? dx=some (dictOf (sd w t1 t2 t3 t4 (.ref D) .none (.int 0 t5) (.int 0 t6)) 4)→h'.get? D=some od→od.IsDictOf (intKind prog w) (kvsOf nds)→(D==sysModules)=false→s.heap.get? D=none →
      Nok nds→absOf nds=initP gr→(∀ p∈led nds,h'.get? p.1=some p.2)→(∀ p∈led nds,s.heap.get? p.1=none)→(∀ p∈led nds,p.1≠D)→R₁ .next (up s h' tk')) (hL:L=s.heap.objs.size) (F:Fr (hideAll s.heap (([(dx,dictOf [] 0)]:List (Addr×Obj)).map (·.1))) L h₀ (fun y9=>([(("self":Str),.ref O),(("graph":Str),.ref G)]:List (Str×Value)).reverse.lookup y9)) (N:News (hideAll s.heap (([(dx,dictOf [] 0)]:List (Addr×Obj)).map (·.1))) L h₀ ([(dx,dictOf [] 0)])) (dA:Deeper A A₁ (callEnv (fd132 w) L 132)),wpAny (model prog w) A₁ (execs (stm (fd132 w)) (callEnv (fd132 w) L 132)) R₁ E₁ (up s h₀ tk₀)
abbrev P1 (d:D0):=P0 d.1.1.1.1 d.1.1.1.2 d.1.1.2.1 d.1.1.2.2 d.1.2.1.1 d.1.2.1.2 d.1.2.2.1 d.1.2.2.2 d.2.1.1.1 d.2.1.1.2 d.2.1.2.1 d.2.1.2.2 d.2.2.1.1 d.2.2.1.2 d.2.2.2
theorem ne0:Nonempty D0:=⟨((((Challenge.pw_ny0293_01,Classical.choice neW),(callerA,Classical.choice neS)),((callerA,default),default)),default)⟩
@[irreducible] def d0:D0:=@Classical.epsilon D0 ne0 fun d=>¬ P1 d
def prog:=d0.1.1.1.1
def w:=d0.1.1.1.2
def A:=d0.1.1.2.1
def s:=d0.1.1.2.2
def A₁:=d0.1.2.1.1
def O:=d0.1.2.1.2
def dx:=d0.1.2.2.1
def G:=d0.1.2.2.2
def kvs:=d0.2.1.1.1
def gr:=d0.2.1.1.2
def L:=d0.2.1.2.1
def h₀:=d0.2.1.2.2
def tk₀:=d0.2.2.1.1
def R₁:=d0.2.2.1.2
def E₁:=d0.2.2.2
theorem bd0:P0 prog w A s A₁ O dx G kvs gr L h₀ tk₀ R₁ E₁:=by
  intro rm T hO hd hne hG hgz h hL F N dA
  refine with_stm (P:=fun b=>wpAny (model prog w) A₁ (execs b (callEnv (fd132 w) L 132)) R₁ E₁ (up s h₀ tk₀)) rfl ?_
  show wpAny _ _ (execs (_::_) _) _ _ _
  have rm':=dA.room rm
  change News (hideAll s.heap [dx]) L h₀ [(dx,dictOf [] 0)] at N
  change Fr (hideAll s.heap [dx]) L h₀ _ at F
  have gO:(hideAll s.heap [dx]).get? O=some (instObj 196 dx):=hideAll_get _ hO (fun q=>hne (List.mem_singleton.mp q))
  generalize hg:hideAll s.heap [dx]=g at F N T gO hG
  refine wpAny_execs_cons<|plainObj_wpAny_Assign_Attribute<|newDict_K F N T.lim fun D h1 od F1 N1 lt1 lo _ _ hod _=>ld (s:=up s _ _) F1 rfl<|setS (s:=up s _ _) T F1 N1 (F1.keep _ _ gO) (N1 _ (.tail _ (.head _))).1 (by rfl) sd_put1 (.tail (Nat.ne_of_gt (lt1 _ (.head _))) (.head fun _ h=>noMem h)) (by simp [sd1]) fun h2 tk2 F2 N2=>?_
  refine wpAny_execs_cons<|plainObj_wpAny_Assign_Attribute<|wpAny_Constant_none<|ld (s:=up s _ _) F2 rfl<|setS (s:=up s _ _) T F2 N2 (F2.keep _ _ gO) (N2 _ (.tail _ (.head _))).1 (by kernel_rfl) sd_put2 (.tail (Nat.ne_of_gt (lt1 _ (.head _))) (.head fun _ h=>noMem h)) (by simp [sd2]) fun h3 tk3 F3 N3=>?_
  refine wpAny_execs_cons<|plainObj_wpAny_Assign_Attribute<|cint fun t5 tk4=>ld (s:=tkd (up s _ _) _) F3 rfl<|setS (s:=tkd (up s _ _) _) T F3 N3 (F3.keep _ _ gO) (N3 _ (.tail _ (.head _))).1 (by kernel_rfl) sd_put3 (.tail (Nat.ne_of_gt (lt1 _ (.head _))) (.head fun _ h=>noMem h)) (by simp [sd3]) fun h5 tk5 F5 N5=>?_
  refine wpAny_execs_cons<|plainObj_wpAny_Assign_Attribute<|cint fun t6 tk6=>ld (s:=tkd (up s _ _) _) F5 rfl<|setS (s:=tkd (up s _ _) _) T F5 N5 (F5.keep _ _ gO) (N5 _ (.tail _ (.head _))).1 (by kernel_rfl) sd_put4 (.tail (Nat.ne_of_gt (lt1 _ (.head _))) (.head fun _ h=>noMem h)) (by simp [sd]) fun h7 tk7 F7 N7=>?_
  refine wpAny_execs_cons<|wpAny_If<|wpAny_isTrue_Compare1<|ld (s:=up s _ _) F7 rfl<|wpAny_Constant_none<|wpAny_isNot_other rfl (by simp)<|wpAny_truthy_bool ?_
  first | refine ifT rfl ?_ | rw [if_pos rfl]
  have hGt:Tab prog w h7 G kvs:=⟨hG.1.keep F7.keep,hG.2.1⟩
  obtain ⟨ep,hGa⟩:=hG.1.dictAt
  refine wpAny_execs_cons<|wpAny_For<|methodCall_KW<|ld (s:=up s _ _) F7 rfl<|dMeth (s:=up s _ _) hGt PySem.F.slot_dict_items PySem.F.type_dict_items<|callWith_method0<|?_
  refine call_meetsIn (s:=up s _ _) PySem.F.slot_dict_items hGt.1.typeIs PySem.F.entry_dict_items (PySem.F.args_dict_items_1 _) (meets_dict_items _ G hGt.2) ⟨⟨kvs,hGt.1⟩,?_⟩
  have F8:=F7.push { cls:=.type "dict_items",data:=.fields #[.ref G] }
  have N8:=(grow F7 N7 (h':=h7.push { cls:=.type "dict_items",data:=.fields #[.ref G] }) fun b o e=>Heap.get?_push_of_some _ e).2
  have dxD:dx≠D:=Nat.ne_of_lt (lt1 _ (.head _))
  have OD:O≠D:=fun e=>by rw [e,(N1 _ (.head _)).2.2] at gO; cases gO
  let Jv0:Nat→(Str→Option Value)→List (Addr×Obj)→Prop:=fun i m news=>Ex6 fun nd od t1 t2 t3 t4=>And8 (news=(D,od)::(led nd++[(dx,dictOf (sd w t1 t2 t3 t4 (.ref D) .none (.int 0 t5) (.int 0 t6)) 4)])) (od.IsDictOf (intKind prog w) (kvsOf nd)) (Nok nd) (absOf nd=initP (gr.take i)) (Bd (5*i) (6*i) (absOf nd)) ((∀ p∈led nd,p.1≠D)) ((dx∉(led nd).map (·.1))) (m "self"=some (.ref O))
  refine iterItems (s:=up s _ _) (ep:=ep) rm'.handled F8 N8 ⟨_,Heap.get?_push_size _ rfl,rfl,rfl⟩ hGa
    Jv0 ⟨[],od,_,_,_,_,rfl,hod,⟨by simp,by simp [led],fun _ h=>(nomatch h)⟩,rfl,⟨fun _ h=>(nomatch h),by simp [absOf]⟩,fun _ h=>(nomatch h),by simp [led],rfl⟩ ?_ ?_
  · intro E' i k x t m₁ news₁ h₁ tk₁ own hkv hJ hw ho hex F₁ N₁
    obtain ⟨nd,od2,t1,t2,t3,t4,rfl,hod2,ok2,ab2,bd2,mem2,dx2,ms⟩:=hJ
    obtain ⟨l,vs,ns,ln,rfl,hl,hin,hgr,hnl⟩:=hG.2.2.2 i k x hkv
    have hl1:=F₁.keep _ _ hl
    have hil:i<gr.length:=(List.getElem?_eq_some_iff.mp hgr).1
    have hvl:=hin.length
    have kdx:((dx,dictOf (sd w t1 t2 t3 t4 (.ref D) .none (.int 0 t5) (.int 0 t6)) 4):Addr×Obj)∈(D,od2)::(led nd++([(dx,dictOf (sd w t1 t2 t3 t4 (.ref D) .none (.int 0 t5) (.int 0 t6)) 4)]++own)):=.tail _ (List.mem_append_right _ (.head _))
    have N₁':News g L h₁ ((D,od2)::(led nd++([(dx,dictOf (sd w t1 t2 t3 t4 (.ref D) .none (.int 0 t5) (.int 0 t6)) 4)]++own))):=by simpa using N₁
    refine wpAny_execs_cons<|wpAny_Expr<|Call_sm<|ld (s:=up s _ _) F₁ ms<|boundS (s:=up s _ _) T F₁ N₁' (F₁.keep _ _ gO) (N₁' _ kdx).1 sd_add (f:=146) fun q hq1 tkq Fq Nq kpq ltq frq=>callMS2 (f:=146) (self:=.ref O) (by kernel_rfl)<|spliced_more<|ld (s:=up s _ _) Fq rfl<|items_star<|ld (s:=up s _ _) Fq rfl <|
      starL (s:=up s _ _) Fq Nq (kpq _ _ hl1) (by lia) fun h2' F2' N2'' kp2'=>spliced_none ⟨methP N2'' (.head _) (T.X.keeps F2'.keep),call_meth N2'' (.head _) ?_⟩
    have N2':News g L h2' ((D,od2)::(led nd++([(dx,dictOf (sd w t1 t2 t3 t4 (.ref D) .none (.int 0 t5) (.int 0 t6)) 4)]++own))):=fun p hp=>N2'' p (.tail _ hp)
    have kp2:∀ b o,h₁.get? b=some o→h2'.get? b=some o:=fun b o e=>kp2' b o (kpq b o e)
    have rs:∀ p∈[((dx,dictOf (sd w t1 t2 t3 t4 (.ref D) .none (.int 0 t5) (.int 0 t6)) 4):Addr×Obj)]++own,p.1≠D∧p.1∉(led nd).map (·.1):=fun p hp=>by
      rcases List.mem_append.mp hp with q | q
      · rw [List.mem_singleton] at q; subst q; exact ⟨dxD,dx2⟩
      · have z:=List.mem_singleton.mp (ho p q)
        refine ⟨fun e=>hw (D,od2) (.head _) (by rw [← e,z]; exact .head _),fun e=>?_⟩
        obtain ⟨y,hy,e⟩:=List.mem_map.mp e
        exact hw y (.tail _ (List.mem_append_left _ hy)) (by rw [e,z]; exact .head _)
    have OO:O≠D∧O∉(led nd).map (·.1):=⟨OD,fun e=>by
      obtain ⟨y,hy,e⟩:=List.mem_map.mp e
      have:=(N₁' y (.tail _ (List.mem_append_left _ hy))).2.2
      rw [e,gO] at this; cases this⟩
    simp only [List.append_nil]
    refine addL (s:=up s _ _) (preds:=ns) (pv:=vs) (rm'.le (by lia)) T F2' N2' (F2'.keep _ _ gO) (N2' _ kdx).1 hod2 lo ok2 OO ⟨dxD,dx2⟩ mem2 rs bd2 (by lia) (by lia) hin fun h3' tk3' nd3 od3 F3' N3' hod3 ok3 ab3 fr3 fD3 ex3=>?_
    have dx3:dx∉(led nd3).map (·.1):=sep_next (N2' _ kdx).1 dx2 fr3
    refine wpAny_execs_nil<|Turn.next (news':=(D,od3)::(led nd3++[(dx,dictOf (sd w t1 t2 t3 t4 (.ref D) .none (.int 0 t5) (.int 0 t6)) 4)])) F3' (by simpa using N3') (fun p hp=>?_) ⟨nd3,od3,t1,t2,t3,t4,rfl,hod3,ok3,?_,?_,fD3,dx3,ms⟩
    · rcases List.mem_cons.mp hp with rfl | hp
      · exact hw (D,od2) (.head _)
      · rcases List.mem_append.mp hp with q | q
        · rcases fr3 p q with z | z
          · obtain ⟨y,hy,e⟩:=List.mem_map.mp z
            rw [← e]; exact hw y (.tail _ (List.mem_append_left _ hy))
          · intro e
            obtain ⟨o,ho'⟩:=hex _ (.head _)
            exact addr_ne z (kp2 _ _ ho') (List.mem_singleton.mp e)
        · rw [List.mem_singleton] at q; subst q
          exact hw (dx,_) (.tail _ (List.mem_append_right _ (.head _)))
    · rw [ab3,ab2]; unfold initP; rw [foldl_take _ _ _ hgr]
    · rw [ab3]
      have:=bd2.addP k ns
      exact ⟨fun e he=>by have:=this.ss e he; lia,by have:=this.len; lia⟩
  · intro h' tk m' news' F' N' hw hJ
    obtain ⟨nd,od2,t1,t2,t3,t4,rfl,hod2,ok2,ab2,bd2,mem2,dx2,ms⟩:=hJ
    refine wpAny_execs_nil ?_
    refine wpAny_execs_nil ?_
    subst hg
    have fr:∀ p∈(D,od2)::(led nd++[(dx,dictOf (sd w t1 t2 t3 t4 (.ref D) .none (.int 0 t5) (.int 0 t6)) 4)]),p.1≠dx→s.heap.get? p.1=none:=fun p hp hx=>by
      rcases hide_or (N' p hp).2.2 with z | z
      · exact absurd (List.mem_singleton.mp z) hx
      · exact z
    refine h h' tk D od2 t1 t2 t3 t4 t5 t6 nd (ext_of_fr (W:=[dx]) F') (N' _ (.tail _ (List.mem_append_right _ (.head _)))).1 (N' _ (.head _)).1 hod2 lo (fr (D,od2) (.head _) dxD.symm) ok2 ?_ (fun p hp=>(N' p (.tail _ (List.mem_append_left _ hp))).1)
      (fun p hp=>fr p (.tail _ (List.mem_append_left _ hp)) fun e=>dx2 (e ▸ List.mem_map_of_mem hp)) mem2
    rw [ab2,hG.2.2.1,List.take_length]
theorem al0:∀ d,P1 d:=epsAll ne0 P1 (by with_unfolding_all exact bd0)
end Zinitgraph
end
section
variable {prog:Program} {w:World} {A:Around} {E:Value→Shared→Prop} {s:Shared} {O dx D L:Addr} {n:Nat} {t1 t2 t3 t4:Tok} {va vb vc vd v:Value} {g:Heap} {m:Str→Option Value} {news:List (Addr×Obj)}
theorem init_graph {R:Result→Shared→Prop} {G:Addr} {kvs:List (Int×Value)} {gr:List (Int×List Int)} (rm:Room A 5) (T:Wd w (hideAll s.heap [dx])) (hO:s.heap.get? O=some (instObj 196 dx)) (hd:s.heap.get? dx=some (dictOf [] 0)) (hne:O≠dx) (hG:GrAt prog w (hideAll s.heap [dx]) G kvs gr) (hgz:gr.length≤20) (h:∀ h' tk' D od t1 t2 t3 t4 t5 t6 nds,Ext [dx] s.heap h'→h'.get? dx=some (dictOf (sd w t1 t2 t3 t4 (.ref D) .none (.int 0 t5) (.int 0 t6)) 4)→h'.get? D=some od→od.IsDictOf (intKind prog w) (kvsOf nds)→(D==sysModules)=false→s.heap.get? D=none →
      Nok nds→absOf nds=initP gr→(∀ p∈led nds,h'.get? p.1=some p.2)→(∀ p∈led nds,s.heap.get? p.1=none)→(∀ p∈led nds,p.1≠D)→R (.ok (.ret .none)) (up s h' tk')):codeAny (model prog w) A (.call (.ref 132) ⟨[.ref O,.ref G],[]⟩) R s:=by
  have k125:s.heap.get? 125=some { cls:=.type "tuple",data:=.seq #[.none] }:=T.of_hide.X 125 _ (by kernel_rfl)
  refine enter (W:=[(dx,dictOf [] 0)]) (binds:=[(("self":Str),.ref O),(("graph":Str),.ref G)]) rm.le' (fn132 T.of_hide.X) T.of_hide.lim (cd132 T.of_hide.X) (fun p hp=>by rw [List.mem_singleton] at hp; subst hp; exact hd) rfl
    (let ⟨k,e1,e2⟩:=bind132g w O G; fun _ _ _ _ hq=>e1 ▸ wpAny_bind (wpAny_seqItems k125 rfl (e2 ▸ wpAny_pure hq))) (by kernel_rfl) (by kernel_rfl) ?_ (by kernel_rfl) (by kernel_rfl) (by kernel_rfl)
  intro L h₀ tk₀ hL F N A₁ R₁ E₁ dA hret hnone
  exact Zinitgraph.al0 ((((prog,w),(A,s)),((A₁,O),(dx,G))),(((kvs,gr),(L,h₀)),((tk₀,R₁),E₁))) rm T hO hd hne hG hgz (fun x0 x1 x2 x3 x4 x5 x6 x7 x8 x9 x10 x11 x12 x13 x14 x15 x16 x17 x18 x19 x20 x21=>hnone _ (h x0 x1 x2 x3 x4 x5 x6 x7 x8 x9 x10 x11 x12 x13 x14 x15 x16 x17 x18 x19 x20 x21)) hL F N dA
end
end
section
theorem isT_bool:isType (.type "bool")=pure true:=by first | rfl | kernel_rfl | (unfold isType; rw [isSubtype_type]; kernel_rfl)
theorem sub_bb:isSubtype (.type "bool") (.type "bool")=pure true:=by rw [isSubtype_type]; kernel_rfl
theorem meets_bool_list (l:Addr) (items:Array Value) (hz:items.size<2 ^ 62):Meets (Builtin.«bool.__new__» ⟨[.type "bool",.ref l],[]⟩) (fun _ R s=>s.heap.IsList l items∧∀ tk,R (.ok (.ret (.bool (!items.isEmpty)))) (tkd s tk)):=by
  intro prog w A R s h
  unfold Builtin.«bool.__new__»
  refine wpAny_bind (wpAny_of_eq isT_bool ?_)
  refine wpAny_bind (wpAny_of_eq sub_bb ?_)
  refine wpAny_bind (wpAny_of_eq (show someArgs "bool" 0 1 _=pure [.ref l] from rfl) ?_)
  refine wpAny_bind (wpAny_truthy_list h.1 (by lia) ?_)
  refine wpAny_pure ?_
  have:=h.2 (s.toks+1+1)
  cases items with | mk vs=>cases vs <;> simpa using this
section
variable {prog:Program} {w:World} {A:Around} {E:Value→Shared→Prop} {s:Shared} {O dx R:Addr} {n rn:Nat} {t1 t2 t3 t4 t5 t6:Tok} {va:Value} {p f:Int} {rv:List Value}
theorem boolL {Q:Value→Shared→Prop} {l:Addr} {vs:List Value} (hl:s.heap.get? l=some (W.listOf vs.toArray n)) (hz:vs.length≤1000) (h:∀ tk,Q (.bool (!vs.isEmpty)) (tkd s tk)):wpAny (model prog w) A (call (.type "bool") [.ref l]) Q E s :=
  call_bool_1 (meets_bool_list l vs.toArray (by simp; lia)) ⟨⟨_,hl,rfl,_,rfl⟩,fun tk=>⟨PySem.typeIs_bool _ _,by simpa using h tk⟩⟩
theorem active_call {Q:Value→Shared→Prop} (rm:Room A 1) (T:Wd w s.heap) (hO:s.heap.get? O=some (instObj 196 dx)) (hdx:s.heap.get? dx=some (dictOf (sd w t1 t2 t3 t4 va (.ref R) (.int p t5) (.int f t6)) n)) (hR:s.heap.get? R=some (W.listOf rv.toArray rn)) (hz:rv.length≤1000)
    (h:∀ h' tk',Ext [] s.heap h'→Q (.bool (decide (f<p) || !rv.isEmpty)) (up s h' tk')):wpAny (model prog w) A (call (.ref 165) [.ref O]) Q E s:=by
  refine wpAny_call (enter (W:=[]) (binds:=[(("self":Str),.ref O)]) rm.le' (fn165 T.X) T.lim (cd165 T.X) (fun p hp=>noMem hp) rfl
    (BindsTo.of_eq (by kernel_rfl)) (by kernel_rfl) (by kernel_rfl) ?_ (by kernel_rfl) (by kernel_rfl) (by kernel_rfl))
  intro L h₀ tk₀ hL F N A₁ R₁ E₁ dA hret hnone
  replace h:=fun x0 x1 x2=>hret _ _ (h x0 x1 x2)
  change News s.heap L h₀ [] at N
  change Fr s.heap L h₀ _ at F
  have kO:=F.keep _ _ hO
  have kdx:=F.keep _ _ hdx
  have kR:=F.keep _ _ hR
  refine wpAny_execs_cons<|wpAny_If<|wpAny_isTrue_Compare1<|Attribute_name<|ld F rfl<|getS T F kO kdx sd_rdy fun _=>wpAny_Constant_none<|is_none<|wpAny_truthy_bool ?_
  first | refine ifF (by simp) ?_ | rw [if_neg (by simp)]
  refine wpAny_execs_nil<|?_
  refine wpAny_execs_cons<|wpAny_Return_some<|wpAny_Or2<|wpAny_Compare1<|Attribute_name<|ld (s:=tkd _ _) F rfl<|getS (s:=tkd _ _) T F kO kdx sd_fin fun _=>Attribute_name<|ld (s:=tkd _ _) F rfl<|getS (s:=tkd _ _) T F kO kdx sd_out fun _=>wpAny_lt_int<|wpAny_truthy_bool ?_
  by_cases hc:f<p
  · rw [decide_eq_true hc,if_pos rfl]
    have:=fun tk=>h h₀ tk (ext_of_fr (W:=[]) F)
    rw [decide_eq_true hc] at this
    exact this _
  · rw [decide_eq_false hc,if_neg (by simp)]
    refine callt (id:="bool") (s:=tkd _ _) T F (by kernel_rfl)<|spliced_more<|Attribute_name<|ld (s:=tkd _ _) F rfl<|getS (s:=tkd _ _) T F kO kdx sd_rdy fun _=>spliced_none<|boolL (s:=tkd _ _) kR hz fun tk=>?_
    have:=h h₀ tk (ext_of_fr (W:=[]) F)
    rw [decide_eq_false hc] at this
    exact this
end
end
section
theorem keys_kvs {nd nds:List Nd} (h:kvsOf nd=kvsOf nds):nd.map (·.k)=nds.map (·.k):=by
  have e:∀ l:List Nd,l.map (·.k)=(kvsOf l).map (·.1):=fun l=>by simp [kvsOf,Function.comp_def]
  rw [e,e,h]
noncomputable def outP (st:List AN) (ks:List Int):List AN:=ks.foldl (fun st k=>modK k (fun e=>(e.1,-1,e.2.2)) st) st
section
variable {prog:Program} {w:World} {A:Around} {E:Value→Shared→Prop} {s:Shared} {O dx D R L:Addr} {n rn:Nat} {t1 t2 t3 t4 t5:Tok} {vd:Value} {p:Int} {rv:List Value} {ks:List Int} {nds:List Nd} {kvs:List (Int×Value)} {g:Heap} {m:Str→Option Value} {news news':List (Addr×Obj)}
theorem clearL {Q:Value→Shared→Prop} {vs:List Value} (F:Fr g L s.heap m) (N:News g L s.heap news) (hm:(R,W.listOf vs.toArray n)∈news) (hz:vs.length≤1000)
    (h:∀ h' n',Fr g L h' m→News g L h' ((R,W.listOf #[] n')::news.filter fun p=>decide (p.1≠R))→Q .none (up s h' s.toks)):wpAny (model prog w) A (call (.builtin "list.clear") [.ref R]) Q E s:=by
  have z:=N _ hm
  refine call_meets PySem.F.slot_list_clear ⟨_,z.1,rfl⟩ PySem.F.entry_list_clear (PySem.F.args_list_clear_1 _) (PySem.AutoSeq1.list_clear_list_0 R vs.toArray n (by rw [List.size_toArray,sizeLine_eq]; lia)) ⟨z.1,?_⟩
  have hs:Heap.SameBut R s.heap (s.heap.update R (Obj.mapSeq fun _=>#[])):=Heap.SameBut.update ..
  refine h _ (if (#[]:Array Value).size==vs.toArray.size then n else n+1) (F.change hs z.2.1 z.2.2) fun p hp=>?_
  rcases List.mem_cons.mp hp with rfl | hp
  · exact ⟨PySem.IsL.update z.1 fun _=>#[],z.2⟩
  · have q:=List.mem_filter.mp hp
    have hne:p.1≠R:=by simpa using q.2
    exact ⟨(hs.2 _ hne).trans (N p q.1).1,(N p q.1).2⟩
end
noncomputable section
namespace Zready
abbrev D0:=(((((Program)×(World))×((Around)×(Shared)))×(((Around)×(Addr))×(Addr)))×((((Addr)×(Addr))×(Nat))×(((Nat)×(Tok))×(Tok))))×(((((Tok)×(Tok))×((Tok)×(Value)))×(((Int)×(List Value))×(List Int)))×((((List Nd)×(Addr))×(Heap))×(((Nat)×(Flow→Shared→Prop))×(Value→Shared→Prop))))
abbrev P0 (prog:Program) (w:World) (A:Around) (s:Shared) (A₁:Around) (O dx D R:Addr) (n rn:Nat) (t1 t2 t3 t4 t5:Tok) (vd:Value) (p:Int) (rv:List Value) (ks:List Int) (nds:List Nd) (L:Addr) (h₀:Heap) (tk₀:Nat) (R₁:Flow→Shared→Prop) (E₁:Value→Shared→Prop):Prop:=∀ (rm:Room A 1) (T:Wd w (hideAll s.heap (dx::R::(led nds).map (·.1)))) (gO:(hideAll s.heap (dx::R::(led nds).map (·.1))).get? O=some (instObj 196 dx)) (gD:(hideAll s.heap (dx::R::(led nds).map (·.1))).DictOf (intKind prog w) D (kvsOf nds)) (lo:(D==sysModules)=false) (hdx:s.heap.get? dx=some (dictOf (sd w t1 t2 t3 t4 (.ref D) (.ref R) (.int p t5) vd) n)) (hR:s.heap.get? R=some (W.listOf rv.toArray rn)) (hN:∀ p∈led nds,s.heap.get? p.1=some p.2) (ok:Nok nds) (hdR:dx≠R) (sdx:dx∉(led nds).map (·.1)) (sR:R∉(led nds).map (·.1)) (hi:IntsAre rv ks) (hz:rv.length≤1000) (hks:∀ k∈ks,k∈nds.map (·.k)) (h:∀ h' tk' tp nds' rn' t5',Ext (dx::R::(led nds).map (·.1)) s.heap h'→h'.get? tp=some (tupOf rv)→s.heap.get? tp=none→h'.get? dx=some (dictOf (sd w t1 t2 t3 t4 (.ref D) (.ref R) (.int (p+rv.length) t5') vd) n)→h'.get? R=some (W.listOf #[] rn') →
      Nok nds'→absOf nds'=outP (absOf nds) ks→kvsOf nds'=kvsOf nds→(led nds').map (·.1)=(led nds).map (·.1)→(∀ p∈led nds',h'.get? p.1=some p.2)→R₁ (.ret (.ref tp)) (up s h' tk')) (hL:L=s.heap.objs.size) (F:Fr (hideAll s.heap (((dx,dictOf (sd w t1 t2 t3 t4 (.ref D) (.ref R) (.int p t5) vd) n)::(R,W.listOf rv.toArray rn)::led nds:List (Addr×Obj)).map (·.1))) L h₀ (fun y9=>([(("self":Str),.ref O)]:List (Str×Value)).reverse.lookup y9)) (N:News (hideAll s.heap (((dx,dictOf (sd w t1 t2 t3 t4 (.ref D) (.ref R) (.int p t5) vd) n)::(R,W.listOf rv.toArray rn)::led nds:List (Addr×Obj)).map (·.1))) L h₀ ((dx,dictOf (sd w t1 t2 t3 t4 (.ref D) (.ref R) (.int p t5) vd) n)::(R,W.listOf rv.toArray rn)::led nds)) (dA:Deeper A A₁ (callEnv (fd158 w) L 158)),wpAny (model prog w) A₁ (execs (stm (fd158 w)) (callEnv (fd158 w) L 158)) R₁ E₁ (up s h₀ tk₀)
abbrev P1 (d:D0):=P0 d.1.1.1.1.1 d.1.1.1.1.2 d.1.1.1.2.1 d.1.1.1.2.2 d.1.1.2.1.1 d.1.1.2.1.2 d.1.1.2.2 d.1.2.1.1.1 d.1.2.1.1.2 d.1.2.1.2 d.1.2.2.1.1 d.1.2.2.1.2 d.1.2.2.2 d.2.1.1.1.1 d.2.1.1.1.2 d.2.1.1.2.1 d.2.1.1.2.2 d.2.1.2.1.1 d.2.1.2.1.2 d.2.1.2.2 d.2.2.1.1.1 d.2.2.1.1.2 d.2.2.1.2 d.2.2.2.1.1 d.2.2.2.1.2 d.2.2.2.2
theorem ne0:Nonempty D0:=⟨(((((Challenge.pw_ny0293_01,Classical.choice neW),(callerA,Classical.choice neS)),((callerA,default),default)),default),default)⟩
@[irreducible] def d0:D0:=@Classical.epsilon D0 ne0 fun d=>¬ P1 d
def prog:=d0.1.1.1.1.1
def w:=d0.1.1.1.1.2
def A:=d0.1.1.1.2.1
def s:=d0.1.1.1.2.2
def A₁:=d0.1.1.2.1.1
def O:=d0.1.1.2.1.2
def dx:=d0.1.1.2.2
def D:=d0.1.2.1.1.1
def R:=d0.1.2.1.1.2
def n:=d0.1.2.1.2
def rn:=d0.1.2.2.1.1
def t1:=d0.1.2.2.1.2
def t2:=d0.1.2.2.2
def t3:=d0.2.1.1.1.1
def t4:=d0.2.1.1.1.2
def t5:=d0.2.1.1.2.1
def vd:=d0.2.1.1.2.2
def p:=d0.2.1.2.1.1
def rv:=d0.2.1.2.1.2
def ks:=d0.2.1.2.2
def nds:=d0.2.2.1.1.1
def L:=d0.2.2.1.1.2
def h₀:=d0.2.2.1.2
def tk₀:=d0.2.2.2.1.1
def R₁:=d0.2.2.2.1.2
def E₁:=d0.2.2.2.2
theorem bd0:P0 prog w A s A₁ O dx D R n rn t1 t2 t3 t4 t5 vd p rv ks nds L h₀ tk₀ R₁ E₁:=by
  intro rm T gO gD lo hdx hR hN ok hdR sdx sR hi hz hks h hL F N dA
  refine with_stm (P:=fun b=>wpAny (model prog w) A₁ (execs b (callEnv (fd158 w) L 158)) R₁ E₁ (up s h₀ tk₀)) rfl ?_
  show wpAny _ _ (execs (_::_) _) _ _ _
  have rm':=dA.room rm
  simp only [List.map_cons] at F N
  generalize hg:hideAll s.heap (dx::R::(led nds).map (·.1))=g at F N T gO gD
  have kd:=(N _ (.head _)).1
  have kR:=(N _ (.tail _ (.head _))).1
  refine wpAny_execs_cons<|wpAny_If<|wpAny_isTrue_Compare1<|Attribute_name<|ld F rfl<|getS T F (F.keep _ _ gO) kd sd_rdy fun _=>wpAny_Constant_none<|is_none<|wpAny_truthy_bool ?_
  first | refine ifF (by simp) ?_ | rw [if_neg (by simp)]
  refine wpAny_execs_nil<|?_
  refine wpAny_execs_cons<|wpAny_Assign_Name<|callt (id:="tuple") (s:=tkd (up s _ _) _) T F (by kernel_rfl)<|spliced_more<|Attribute_name<|ld (s:=tkd (up s _ _) _) F rfl<|getS (s:=tkd (up s _ _) _) T F (F.keep _ _ gO) kd sd_rdy fun _=>spliced_none <|
    kde_tupleOf (s:=tkd (up s _ _) _) (items:=rv.toArray) (zs:=rv) F N ⟨_,kR,rfl,_,rfl⟩ (by simp; lia) (by simp) fun tp h1 F1 N1 lt1=>st (s:=up s _ _) F1 N1 fun h2 tk2 F2 N2=>?_
  refine wpAny_execs_cons<|wpAny_Assign_Name<|Attribute_name<|ld (s:=up s _ _) F2 rfl<|getS (s:=up s _ _) T F2 (F2.keep _ _ gO) (N2 _ (.tail _ (.head _))).1 sd_n2i fun _=>st (s:=tkd (up s _ _) _) F2 N2 fun h3 tk3 F3 N3=>?_
  generalize hX:[((tp,tupOf rv):Addr×Obj),(dx,dictOf (sd w t1 t2 t3 t4 (.ref D) (.ref R) (.int p t5) vd) n),(R,W.listOf rv.toArray rn)]=X
  have N3':News g L h3 (led nds++X):=news_sub N3 fun q hq=>by
    subst hX
    rcases List.mem_append.mp hq with z | z
    · exact .tail _ (.tail _ (.tail _ z))
    · simp only [List.mem_cons,List.not_mem_nil,or_false] at z
      rcases z with rfl | rfl | rfl
      · exact .head _
      · exact .tail _ (.head _)
      · exact .tail _ (.tail _ (.head _))
  have tpn:tp∉(led nds).map (·.1):=fun q=>by
    obtain ⟨y,hy,e⟩:=List.mem_map.mp q
    have:=lt1 y (.tail _ (.tail _ hy))
    rw [e] at this; exact absurd this (Nat.lt_irrefl _)
  have sX:∀ q∈X,q.1∉(led nds).map (·.1):=fun q hq=>by
    subst hX
    simp only [List.mem_cons,List.not_mem_nil,or_false] at hq
    rcases hq with rfl | rfl | rfl
    · exact tpn
    · exact sdx
    · exact sR
  have tL:tp≠L:=(N3 _ (.head _)).2.1
  have hpl:=hi.length
  let Jv0:Nat→(Str→Option Value)→List (Addr×Obj)→Prop:=fun i m news=>∃ nd,And8 (news=led nd++X) (Nok nd) (absOf nd=outP (absOf nds) (ks.take i)) (kvsOf nd=kvsOf nds) ((led nd).map (·.1)=(led nds).map (·.1)) (m "self"=some (.ref O)) (m "n2i"=some (.ref D)) (m "result"=some (.ref tp))
  refine wpAny_execs_cons<|wpAny_For<|ld (s:=up s _ _) F3 rfl<|iterTX (s:=up s _ _) (vs:=rv) rm'.handled F3 N3' ⟨_,(N3 _ (.head _)).1,rfl,_,rfl⟩ tL
    Jv0
    ⟨nds,rfl,ok,rfl,rfl,rfl,rfl,rfl,rfl⟩ ?_ ?_
  · intro E' i v m₁ news₁ h₁ tk₁ own hv hJ hw ho hex F₁ N₁
    obtain ⟨nd,rfl,ok1,ab1,kv1,ad1,ms,mn,mr⟩:=hJ
    obtain ⟨k,tq,rfl,hq⟩:=ints_get hi hv
    have hk1:k∈nd.map (·.k):=by
      rw [keys_kvs kv1]; exact hks k (List.mem_of_getElem? hq)
    obtain ⟨r,hr,rfl⟩:=List.mem_map.mp hk1
    have so:∀ q∈X++own,q.1∉(led nd).map (·.1):=fun q hq z=>by
      rcases List.mem_append.mp hq with y | y
      · exact sX q y (ad1 ▸ z)
      · obtain ⟨u,hu,e⟩:=List.mem_map.mp z
        rcases List.mem_cons.mp (ho q y) with x | x
        · exact hw u (List.mem_append_left _ hu) (by rw [e,x]; exact .head _)
        · exact tpn (ad1 ▸ (by rw [← List.mem_singleton.mp x]; exact z))
    refine wpAny_execs_cons<|plainObj_wpAny_Assign_Attribute<|ldg (s:=up s _ _) (v:=.int (-1) 353) T F₁ (by kernel_rfl)<|Subscript_<|ld (s:=up s _ _) F₁ mn<|ld (s:=up s _ _) F₁ rfl <|
      dItem (s:=up s _ _) (kvs:=kvsOf nd) ⟨kv1 ▸ gD.keep F₁.keep,lo⟩ (value_mem ok1.keys hr) fun tk4=>setNpL (s:=tkd (up s _ _) _) (rest:=X++own) T F₁ (by simpa using N₁) ok1 hr so fun h5 tk5 nd5 F5 N5 ok5 ab5 kv5 ad5 _=>?_
    refine wpAny_execs_nil<|Turn.next (news':=led nd5++X) F5 (by simpa using N5) (fun q hq=>?_) ⟨nd5,rfl,ok5,?_,kv5.trans kv1,ad5.trans ad1,ms,mn,mr⟩
    · rcases List.mem_append.mp hq with y | y
      · have:q.1∈(led nd).map (·.1):=ad5 ▸ List.mem_map_of_mem y
        obtain ⟨u,hu,e⟩:=List.mem_map.mp this
        rw [← e]; exact hw u (List.mem_append_left _ hu)
      · exact hw q (List.mem_append_right _ y)
    · rw [ab5,ab1]; unfold outP; rw [foldl_take _ _ _ hq]
  · intro h4 tk4 m4 news4 F4 N4 hw hJ
    obtain ⟨nd,rfl,ok1,ab1,kv1,ad1,ms,mn,mr⟩:=hJ
    subst hX
    have d4:=(N4 _ (List.mem_append_right _ (.tail _ (.head _)))).1
    refine wpAny_execs_cons<|wpAny_Expr<|methodCall_KW<|Attribute_name<|ld (s:=up s _ _) F4 ms<|getS (s:=up s _ _) T F4 (F4.keep _ _ gO) d4 sd_rdy fun _=>kl_method (s:=tkd (up s _ _) _) N4 (List.mem_append_right _ (.tail _ (.tail _ (.head _)))) PySem.F.slot_list_clear PySem.F.type_list_clear<|callWith_method0 <|
      clearL (s:=tkd (up s _ _) _) F4 N4 (List.mem_append_right _ (.tail _ (.tail _ (.head _)))) hz fun h5 n5 F5 N5=>?_
    have tR:tp≠R:=Nat.ne_of_gt (lt1 _ (.tail _ (.head _)))
    have tdx:tp≠dx:=Nat.ne_of_gt (lt1 _ (.head _))
    have sRd:∀ q∈led nd,q.1≠R:=fun q hq e=>sR (ad1 ▸ (e ▸ List.mem_map_of_mem hq))
    have sdd:∀ q∈led nd,q.1≠dx:=fun q hq e=>sdx (ad1 ▸ (e ▸ List.mem_map_of_mem hq))
    have N6:News g L h5 (led nd++[((tp,tupOf rv):Addr×Obj),(dx,dictOf (sd w t1 t2 t3 t4 (.ref D) (.ref R) (.int p t5) vd) n),(R,W.listOf #[] n5)]):=news_to N5 fun q hq=>by
      rcases List.mem_append.mp hq with y | y
      · exact .inr ⟨List.mem_append_left _ y,sRd q y⟩
      · simp only [List.mem_cons,List.not_mem_nil,or_false] at y
        rcases y with rfl | rfl | rfl
        · exact .inr ⟨List.mem_append_right _ (.head _),tR⟩
        · exact .inr ⟨List.mem_append_right _ (.tail _ (.head _)),hdR⟩
        · exact .inl rfl
    have m6:((dx,dictOf (sd w t1 t2 t3 t4 (.ref D) (.ref R) (.int p t5) vd) n):Addr×Obj)∈led nd++[((tp,tupOf rv):Addr×Obj),(dx,dictOf (sd w t1 t2 t3 t4 (.ref D) (.ref R) (.int p t5) vd) n),(R,W.listOf #[] n5)]:=List.mem_append_right _ (.tail _ (.head _))
    have t6:((tp,tupOf rv):Addr×Obj)∈led nd++[((tp,tupOf rv):Addr×Obj),(dx,dictOf (sd w t1 t2 t3 t4 (.ref D) (.ref R) (.int p t5) vd) n),(R,W.listOf #[] n5)]:=List.mem_append_right _ (.head _)
    refine wpAny_execs_cons<|wpAny_AugAssign_AttributeAny<|ld (s:=up s _ _) F5 ms<|getS (s:=up s _ _) T F5 (F5.keep _ _ gO) (N6 _ m6).1 sd_out fun _=>callb (id:="len") (s:=tkd (up s _ _) _) T F5 (by kernel_rfl)<|spliced_more<|ld (s:=tkd (up s _ _) _) F5 mr<|spliced_none <|
      PyProof.Rows.len_tuple (s:=tkd (up s _ _) _) ⟨_,(N6 _ t6).1,rfl,_,rfl⟩ (by simp; lia)<|wpAny_iadd_int (s:=tkd (up s _ _) _) <|
      setS (s:=tkd (up s _ _) _) T F5 (news_at N6 m6) (F5.keep _ _ gO) (N6 _ m6).1 (by rw [sd_out]; rfl) sd_put_out upd_at (by simp [sd]) fun h7 tk7 F7 N7=>?_
    refine wpAny_execs_cons<|wpAny_Return_some<|ld (s:=up s _ _) F7 mr ?_
    subst hg
    have gt:∀ q,q∈led nd++[((tp,tupOf rv):Addr×Obj),(dx,dictOf (sd w t1 t2 t3 t4 (.ref D) (.ref R) (.int p t5) vd) n),(R,W.listOf #[] n5)]→q.1≠dx→h7.get? q.1=some q.2:=fun q hq hne=>(N7 q (.tail _ (List.mem_filter.mpr ⟨hq,by simpa using hne⟩))).1
    have e7:(p+((rv.toArray.size:Nat):Int))=p+rv.length:=by simp
    refine h h7 tk7 tp nd n5 _ (ext_of_fr F7) (gt _ t6 tdx) ?_ (by have:=(N7 _ (.head _)).1; rw [e7] at this; exact this) (gt (R,_) (List.mem_append_right _ (.tail _ (.tail _ (.head _)))) hdR.symm) ok1 ?_ kv1 ad1 (fun q hq=>gt q (List.mem_append_left _ hq) (sdd q hq))
    · rcases hide_or (N6 _ t6).2.2 with z | z
      · rcases List.mem_cons.mp z with z | z
        · exact absurd z tdx
        · rcases List.mem_cons.mp z with z | z
          · exact absurd z tR
          · exact absurd z tpn
      · exact z
    · rw [ab1,hpl,List.take_length]
theorem al0:∀ d,P1 d:=epsAll ne0 P1 (by with_unfolding_all exact bd0)
end Zready
end
section
variable {prog:Program} {w:World} {A:Around} {E:Value→Shared→Prop} {s:Shared} {O dx D R L:Addr} {n rn:Nat} {t1 t2 t3 t4 t5:Tok} {vd:Value} {p:Int} {rv:List Value} {ks:List Int} {nds:List Nd} {kvs:List (Int×Value)} {g:Heap} {m:Str→Option Value} {news news':List (Addr×Obj)}
theorem ready_call {Q:Value→Shared→Prop} (rm:Room A 1) (T:Wd w (hideAll s.heap (dx::R::(led nds).map (·.1)))) (gO:(hideAll s.heap (dx::R::(led nds).map (·.1))).get? O=some (instObj 196 dx)) (gD:(hideAll s.heap (dx::R::(led nds).map (·.1))).DictOf (intKind prog w) D (kvsOf nds)) (lo:(D==sysModules)=false) (hdx:s.heap.get? dx=some (dictOf (sd w t1 t2 t3 t4 (.ref D) (.ref R) (.int p t5) vd) n)) (hR:s.heap.get? R=some (W.listOf rv.toArray rn)) (hN:∀ p∈led nds,s.heap.get? p.1=some p.2) (ok:Nok nds) (hdR:dx≠R) (sdx:dx∉(led nds).map (·.1)) (sR:R∉(led nds).map (·.1)) (hi:IntsAre rv ks) (hz:rv.length≤1000) (hks:∀ k∈ks,k∈nds.map (·.k)) (h:∀ h' tk' tp nds' rn' t5',Ext (dx::R::(led nds).map (·.1)) s.heap h'→h'.get? tp=some (tupOf rv)→s.heap.get? tp=none→h'.get? dx=some (dictOf (sd w t1 t2 t3 t4 (.ref D) (.ref R) (.int (p+rv.length) t5') vd) n)→h'.get? R=some (W.listOf #[] rn') →
      Nok nds'→absOf nds'=outP (absOf nds) ks→kvsOf nds'=kvsOf nds→(led nds').map (·.1)=(led nds).map (·.1)→(∀ p∈led nds',h'.get? p.1=some p.2)→Q (.ref tp) (up s h' tk')):wpAny (model prog w) A (call (.ref 158) [.ref O]) Q E s:=by
  have hW:∀ q∈(dx,dictOf (sd w t1 t2 t3 t4 (.ref D) (.ref R) (.int p t5) vd) n)::(R,W.listOf rv.toArray rn)::led nds,s.heap.get? q.1=some q.2:=fun q hq=>by
    rcases List.mem_cons.mp hq with rfl | hq
    · exact hdx
    · rcases List.mem_cons.mp hq with rfl | hq
      · exact hR
      · exact hN q hq
  refine wpAny_call (enter (W:=(dx,dictOf (sd w t1 t2 t3 t4 (.ref D) (.ref R) (.int p t5) vd) n)::(R,W.listOf rv.toArray rn)::led nds) (binds:=[(("self":Str),.ref O)]) rm.le' (fn158 T.of_hide.X) T.of_hide.lim (cd158 T.of_hide.X) hW rfl
    (BindsTo.of_eq (by kernel_rfl)) (by kernel_rfl) (by kernel_rfl) ?_ (by kernel_rfl) (by kernel_rfl) (by kernel_rfl))
  intro L h₀ tk₀ hL F N A₁ R₁ E₁ dA hret hnone
  exact Zready.al0 (((((prog,w),(A,s)),((A₁,O),dx)),(((D,R),n),((rn,t1),t2))),((((t3,t4),(t5,vd)),((p,rv),ks)),(((nds,L),h₀),((tk₀,R₁),E₁)))) rm T gO gD lo hdx hR hN ok hdR sdx sR hi hz hks (fun x0 x1 x2 x3 x4 x5 x6 x7 x8 x9 x10 x11 x12 x13 x14 x15=>hret _ _ (h x0 x1 x2 x3 x4 x5 x6 x7 x8 x9 x10 x11 x12 x13 x14 x15)) hL F N dA
end
end
section
theorem map_inj {α β:Type} {f:α→β}:∀ {l:List α},(l.map f).Nodup→∀ {a b:α},a∈l→b∈l→f a=f b→a=b
  | [],_,a,_,ha,_,_=>nomatch ha
  | x::l,h,a,b,ha,hb,e=>by
    simp only [List.map_cons,List.nodup_cons] at h
    rcases List.mem_cons.mp ha with rfl | ha' <;> rcases List.mem_cons.mp hb with rfl | hb'
    · rfl
    · exact absurd (e ▸ List.mem_map_of_mem hb') h.1
    · exact absurd (e ▸ List.mem_map_of_mem ha') h.1
    · exact map_inj h.2 ha' hb' e
theorem sl_ne_a {nds:List Nd} (ok:Nok nds) {r q:Nd} (hr:r∈nds) (hq:q∈nds):r.sl≠q.a:=fun e=>by
  have:=map_inj ok.addrs (mem_led hr (.tail _ (.tail _ (.head _)))) (mem_led hq (.head _)) e
  have:=congrArg (fun p:Addr×Obj=>p.2.cls) this
  simp [W.listOf,Nd.ob,inf] at this
section
variable {prog:Program} {w:World} {A:Around} {E:Value→Shared→Prop} {s:Shared} {L:Addr} {g:Heap} {m:Str→Option Value} {nds:List Nd} {rest:List (Addr×Obj)} {r:Nd}
theorem upd_node' {h':Heap} {pre post:List Nd} {r':Nd} {d:Addr} {o':Obj} (ok:Nok (pre++r::post)) (hd:d∈r.led.map (·.1)) (hr:∀ p∈r'.led,p=(d,o')∨(p∈r.led∧p.1≠d)) (hsep:∀ p∈rest,p.1≠d)
    (N':News g L h' ((d,o')::(led (pre++r::post)++rest).filter fun p=>decide (p.1≠d))):News g L h' (led (pre++r'::post)++rest) :=
  news_to N' fun p hp=>by
    rcases List.mem_append.mp hp with q | q
    · rcases led_at ok.addrs hd hr p q with z | z
      · exact .inl z
      · exact .inr ⟨List.mem_append_left _ z.1,z.2⟩
    · exact .inr ⟨List.mem_append_right _ q,hsep p q⟩
theorem setNpL' {Q:Unit→Shared→Prop} {x:Int} {t:Tok} (T:Wd w g) (F:Fr g L s.heap m) (N:News g L s.heap (led nds++rest)) (ok:Nok nds) (hr:r∈nds) (hsep:∀ p∈rest,p.1≠r.a)
    (h:∀ h' tk nds',Fr g L h' m→News g L h' (led nds'++rest)→Nok nds'→absOf nds'=modK r.k (fun e=>(e.1,x,e.2.2)) (absOf nds)→kvsOf nds'=kvsOf nds→(led nds').map (·.1)=(led nds).map (·.1)→{ r with np:=x,npt:=t }∈nds'→(∀ q∈nds,∃ q'∈nds',q'.sl=q.sl)→Q () (up s h' tk)) :
    wpAny (model prog w) A (setAttr (.ref r.a) (Str.ofString "npredecessors") (.int x t)) Q E s:=by
  obtain ⟨pre,post,rfl⟩:=split_node hr
  have hm:∀ p∈r.led,p∈led (pre++r::post)++rest:=fun p hp=>List.mem_append_left _ (mem_led hr hp)
  have dist:=nd_dist ok.addrs
  refine setNp (sl':=#[some (.int r.k r.kt),some (.int x t),some (.ref r.sl)]) T F (news_at N (hm _ (.head _))) (N _ (hm _ (.head _))).1 (N _ (hm _ (.tail _ (.head _)))).1 (by kernel_rfl) upd_at fun h' tk F' N'=>?_
  refine h h' tk (pre++{ r with np:=x,npt:=t }::post) F' (upd_node' (r':={ r with np:=x,npt:=t }) ok (.head _) (fun p hp=>?_) hsep N') (nok_at ok rfl rfl rfl rfl (ok.isI r hr)) (mod_at (f:=fun e=>(e.1,x,e.2.2)) ok.keys rfl rfl) (by simp [kvsOf]) (by simp [led_append,led_cons,Nd.led]) (List.mem_append_right _ (.head _)) (fun q hq=>?_)
  case refine_2 =>
    rcases List.mem_append.mp hq with z | z
    · exact ⟨q,List.mem_append_left _ z,rfl⟩
    · rcases List.mem_cons.mp z with rfl | z
      · exact ⟨_,List.mem_append_right _ (.head _),rfl⟩
      · exact ⟨q,List.mem_append_right _ (.tail _ z),rfl⟩
  simp only [Nd.led,List.mem_cons,List.not_mem_nil,or_false] at hp
  rcases hp with rfl | rfl | rfl
  · exact .inl rfl
  · exact .inr ⟨.tail _ (.head _),dist.1.symm⟩
  · exact .inr ⟨.tail _ (.tail _ (.head _)),dist.2.1.symm⟩
end
noncomputable def npOf (st:List AN) (k:Int):Option Int:=(st.find? fun e=>e.1==k).map (·.2.1)
noncomputable def decStep (z:List AN×List Int) (x:Int):List AN×List Int :=
  (modK x (fun e=>(e.1,e.2.1 - 1,e.2.2)) z.1,if npOf (modK x (fun e=>(e.1,e.2.1 - 1,e.2.2)) z.1) x==some 0 then z.2++[x] else z.2)
noncomputable def done1 (z:List AN×List Int) (k:Int):Option (List AN×List Int):=match z.1.find? (fun e=>e.1==k) with
  | some e=>if e.2.1==-1 && e.2.2.all (fun x=>z.1.any fun e=>e.1==x) then some (e.2.2.foldl decStep (modK k (fun e=>(e.1,-2,e.2.2)) z.1,z.2)) else none
  | none=>none
noncomputable def doneP (z:List AN×List Int):List Int→Option (List AN×List Int)
  | []=>some z
  | k::ks=>(done1 z k).bind fun z'=>doneP z' ks
theorem find_abs {nds:List Nd} (ok:Nok nds) {r:Nd} (hr:r∈nds):(absOf nds).find? (fun e=>e.1==r.k)=some (r.k,r.np,r.ss):=by
  have hm:(r.k,r.np,r.ss)∈absOf nds:=List.mem_map_of_mem (f:=fun r:Nd=>(r.k,r.np,r.ss)) hr
  cases hf:(absOf nds).find? (fun e=>e.1==r.k) with
  | none=>exact absurd (List.find?_eq_none.mp hf _ hm) (by simp)
  | some e =>
    obtain ⟨q,hq,rfl⟩:=List.mem_map.mp (List.mem_of_find?_eq_some hf)
    have:q.k=r.k:=by simpa using List.find?_some hf
    rw [key_inj ok.keys hr hq this]
theorem np_mem {nds:List Nd} (ok:Nok nds) {r:Nd} (hr:r∈nds):npOf (absOf nds) r.k=some r.np:=by unfold npOf; rw [find_abs ok hr]; rfl
theorem any_abs {nds:List Nd} {x:Int} (h:((absOf nds).any fun e=>e.1==x)=true):∃ r∈nds,r.k=x:=by
  obtain ⟨e,he,q⟩:=List.any_eq_true.mp h
  obtain ⟨r,hr,rfl⟩:=List.mem_map.mp he
  exact ⟨r,hr,by simpa using q⟩
theorem Bd.np {b c:Nat} {st:List AN} (h:Bd b c st) (k:Int) {f:Int→Int}:Bd b c (modK k (fun e=>(e.1,f e.2.1,e.2.2)) st):=h.mod k (Nat.le_refl _) fun _ he=>he
theorem IntsAre.snoc {vs:List Value} {ns:List Int} (h:IntsAre vs ns) (x:Int) (t:Tok):IntsAre (vs++[.int x t]) (ns++[x]):=by
  induction h with
  | nil=>exact .cons _ _ .nil
  | cons k u _ ih=>exact .cons k u ih
theorem drop_get {α:Type} {l:List α} {i:Nat} {x:α} (h:l[i]?=some x):l.drop i=x::l.drop (i+1):=by
  obtain ⟨hi,e⟩:=List.getElem?_eq_some_iff.mp h
  rw [List.drop_eq_getElem_cons hi,e]
end
section
section
variable {prog:Program} {w:World} {A:Around} {E:Value→Shared→Prop} {s:Shared} {O dx D R:Addr} {n rn:Nat} {t1 t2 t3 t4 t6:Tok} {vc:Value} {f:Int} {rv av:List Value} {ks rks:List Int} {nds:List Nd} {z':List AN×List Int}
theorem iaddI {a b:Int} {t u:Tok} {Q:Value→Shared→Prop} (h:∀ t' tk,Q (.int (a+b) t') (tkd s tk)):wpAny (model prog w) A (inplaceOp .Add (.int a t) (.int b u)) Q E s:=wpAny_iadd_int (h _ _)
end
noncomputable section
namespace Zdonecode
abbrev D0:=(((((Program)×(World))×((Around)×(Shared)))×(((Around)×(Addr))×(Addr)))×((((Addr)×(Addr))×((Nat)×(Nat)))×(((Tok)×(Tok))×(Tok))))×(((((Tok)×(Tok))×((Value)×(Int)))×(((List Value)×(List Value))×(List Int)))×((((List Int)×(List Nd))×((Addr)×(Heap)))×(((Nat)×(Flow→Shared→Prop))×(Value→Shared→Prop))))
abbrev P0 (prog:Program) (w:World) (A:Around) (s:Shared) (A₁:Around) (O dx D R:Addr) (n rn:Nat) (t1 t2 t3 t4 t6:Tok) (vc:Value) (f:Int) (rv av:List Value) (ks rks:List Int) (nds:List Nd) (L:Addr) (h₀:Heap) (tk₀:Nat) (R₁:Flow→Shared→Prop) (E₁:Value→Shared→Prop):Prop:=∀ (z':List AN×List Int) (rm:Room A 1) (T:Wd w (hideAll s.heap (dx::R::(led nds).map (·.1)))) (gO:(hideAll s.heap (dx::R::(led nds).map (·.1))).get? O=some (instObj 196 dx)) (gD:(hideAll s.heap (dx::R::(led nds).map (·.1))).DictOf (intKind prog w) D (kvsOf nds)) (lo:(D==sysModules)=false) (hdx:s.heap.get? dx=some (dictOf (sd w t1 t2 t3 t4 (.ref D) (.ref R) vc (.int f t6)) n)) (hR:s.heap.get? R=some (W.listOf rv.toArray rn)) (hN:∀ p∈led nds,s.heap.get? p.1=some p.2) (ok:Nok nds) (hdR:dx≠R) (sdx:dx∉(led nds).map (·.1)) (sR:R∉(led nds).map (·.1)) (hi:IntsAre rv rks) (hz:rv.length≤1000) (ha:IntsAre av ks) (haz:av.length≤100) (bd:Bd 500 1000 (absOf nds)) (hd:doneP (absOf nds,rks) ks=some z') (h:∀ h' tk' nds' rn' rv' t6',Ext (dx::R::(led nds).map (·.1)) s.heap h'→h'.get? dx=some (dictOf (sd w t1 t2 t3 t4 (.ref D) (.ref R) vc (.int (f+av.length) t6')) n)→h'.get? R=some (W.listOf (List.toArray rv') rn')→IntsAre rv' z'.2 →
      Nok nds'→absOf nds'=z'.1→kvsOf nds'=kvsOf nds→(led nds').map (·.1)=(led nds).map (·.1)→(∀ p∈led nds',h'.get? p.1=some p.2)→R₁ .next (up s h' tk')) (F:Fr (hideAll s.heap (((dx,dictOf (sd w t1 t2 t3 t4 (.ref D) (.ref R) vc (.int f t6)) n)::(R,W.listOf rv.toArray rn)::led nds:List (Addr×Obj)).map (·.1))) L h₀ (fun y9=>([(("self":Str),.ref O),(("nodes":Str),.ref s.heap.objs.size)]:List (Str×Value)).reverse.lookup y9)) (N:News (hideAll s.heap (((dx,dictOf (sd w t1 t2 t3 t4 (.ref D) (.ref R) vc (.int f t6)) n)::(R,W.listOf rv.toArray rn)::led nds:List (Addr×Obj)).map (·.1))) L h₀ ((s.heap.objs.size,tupOf av)::(dx,dictOf (sd w t1 t2 t3 t4 (.ref D) (.ref R) vc (.int f t6)) n)::(R,W.listOf rv.toArray rn)::led nds)) (dA:Deeper A A₁ (callEnv (fd179 w) L 179)),wpAny (model prog w) A₁ (execs (stm (fd179 w)) (callEnv (fd179 w) L 179)) R₁ E₁ (up s h₀ tk₀)
abbrev P1 (d:D0):=P0 d.1.1.1.1.1 d.1.1.1.1.2 d.1.1.1.2.1 d.1.1.1.2.2 d.1.1.2.1.1 d.1.1.2.1.2 d.1.1.2.2 d.1.2.1.1.1 d.1.2.1.1.2 d.1.2.1.2.1 d.1.2.1.2.2 d.1.2.2.1.1 d.1.2.2.1.2 d.1.2.2.2 d.2.1.1.1.1 d.2.1.1.1.2 d.2.1.1.2.1 d.2.1.1.2.2 d.2.1.2.1.1 d.2.1.2.1.2 d.2.1.2.2 d.2.2.1.1.1 d.2.2.1.1.2 d.2.2.1.2.1 d.2.2.1.2.2 d.2.2.2.1.1 d.2.2.2.1.2 d.2.2.2.2
theorem ne0:Nonempty D0:=⟨(((((Challenge.pw_ny0293_01,Classical.choice neW),(callerA,Classical.choice neS)),((callerA,default),default)),default),default)⟩
@[irreducible] def d0:D0:=@Classical.epsilon D0 ne0 fun d=>¬ P1 d
def prog:=d0.1.1.1.1.1
def w:=d0.1.1.1.1.2
def A:=d0.1.1.1.2.1
def s:=d0.1.1.1.2.2
def A₁:=d0.1.1.2.1.1
def O:=d0.1.1.2.1.2
def dx:=d0.1.1.2.2
def D:=d0.1.2.1.1.1
def R:=d0.1.2.1.1.2
def n:=d0.1.2.1.2.1
def rn:=d0.1.2.1.2.2
def t1:=d0.1.2.2.1.1
def t2:=d0.1.2.2.1.2
def t3:=d0.1.2.2.2
def t4:=d0.2.1.1.1.1
def t6:=d0.2.1.1.1.2
def vc:=d0.2.1.1.2.1
def f:=d0.2.1.1.2.2
def rv:=d0.2.1.2.1.1
def av:=d0.2.1.2.1.2
def ks:=d0.2.1.2.2
def rks:=d0.2.2.1.1.1
def nds:=d0.2.2.1.1.2
def L:=d0.2.2.1.2.1
def h₀:=d0.2.2.1.2.2
def tk₀:=d0.2.2.2.1.1
def R₁:=d0.2.2.2.1.2
def E₁:=d0.2.2.2.2
theorem bd0:P0 prog w A s A₁ O dx D R n rn t1 t2 t3 t4 t6 vc f rv av ks rks nds L h₀ tk₀ R₁ E₁:=by
  intro z' rm T gO gD lo hdx hR hN ok hdR sdx sR hi hz ha haz bd hd h F N dA
  refine with_stm (P:=fun b=>wpAny (model prog w) A₁ (execs b (callEnv (fd179 w) L 179)) R₁ E₁ (up s h₀ tk₀)) rfl ?_
  show wpAny _ _ (execs (_::_) _) _ _ _
  have rm':=dA.room rm
  simp only [List.map_cons] at F N
  generalize hg:hideAll s.heap (dx::R::(led nds).map (·.1))=g at F N T gO gD
  have lttp:∀ q,s.heap.get? q=none∨q<s.heap.objs.size:=fun q=>by
    cases e:s.heap.get? q with
    | none=>exact .inl rfl
    | some o=>exact .inr (Heap.lt_size e)
  have tpn:s.heap.objs.size∉(led nds).map (·.1):=fun q=>by
    obtain ⟨y,hy,e⟩:=List.mem_map.mp q
    have:=Heap.lt_size (hN y hy); rw [e] at this; exact absurd this (Nat.lt_irrefl _)
  have tdx:s.heap.objs.size≠dx:=Nat.ne_of_gt (Heap.lt_size hdx)
  have tR:s.heap.objs.size≠R:=Nat.ne_of_gt (Heap.lt_size hR)
  generalize htp:s.heap.objs.size=tp at F N tpn tdx tR
  refine wpAny_execs_cons<|wpAny_If<|wpAny_isTrue_Compare1<|Attribute_name<|ld F rfl<|getS T F (F.keep _ _ gO) (N _ (.tail _ (.head _))).1 sd_rdy fun _=>wpAny_Constant_none<|is_none<|wpAny_truthy_bool ?_
  first | refine ifF (by simp) ?_ | rw [if_neg (by simp)]
  refine wpAny_execs_nil<|?_
  refine wpAny_execs_cons<|wpAny_Assign_Name<|Attribute_name<|ld (s:=tkd (up s _ _) _) F rfl<|getS (s:=tkd (up s _ _) _) T F (F.keep _ _ gO) (N _ (.tail _ (.head _))).1 sd_n2i fun _=>st (s:=tkd (up s _ _) _) F N fun h1 tk1 F1 N1=>?_
  have N1':News g L h1 (led nds++[((tp,tupOf av):Addr×Obj),(dx,dictOf (sd w t1 t2 t3 t4 (.ref D) (.ref R) vc (.int f t6)) n),(R,W.listOf rv.toArray rn)]):=news_sub N1 fun q hq=>by
    rcases List.mem_append.mp hq with z | z
    · exact .tail _ (.tail _ (.tail _ z))
    · simp only [List.mem_cons,List.not_mem_nil,or_false] at z
      rcases z with rfl | rfl | rfl
      · exact .head _
      · exact .tail _ (.head _)
      · exact .tail _ (.tail _ (.head _))
  have tL:tp≠L:=(N1 _ (.head _)).2.1
  have hal:=ha.length
  let Jv0:Nat→(Str→Option Value)→List (Addr×Obj)→Prop:=fun i m news=>Ex5 fun nd rvi rni rki ti=>And8 (news=led nd++[((tp,tupOf av):Addr×Obj),(dx,dictOf (sd w t1 t2 t3 t4 (.ref D) (.ref R) vc (.int (f+i) ti)) n),(R,W.listOf (List.toArray rvi) rni)]) (Nok nd) (IntsAre rvi rki) (doneP (absOf nd,rki) (ks.drop i)=some z') (kvsOf nd=kvsOf nds) ((led nd).map (·.1)=(led nds).map (·.1)) (rvi.length≤1000+500*i) (And3 (Bd 500 1000 (absOf nd)) (m "self"=some (.ref O)) (m "n2i"=some (.ref D)))
  refine wpAny_execs_cons<|wpAny_For<|ld (s:=up s _ _) F1 rfl<|iterTX (s:=up s _ _) (vs:=av) rm'.handled F1 N1' ⟨_,(N1 _ (.head _)).1,rfl,_,rfl⟩ tL
    Jv0
    ⟨nds,rv,rn,rks,t6,by simp,ok,hi,hd,rfl,rfl,by lia,bd,rfl,rfl⟩ ?_ ?_
  · intro E' i v m₁ news₁ h₁ tk₁ own hv hJ hw ho hex F₁ N₁
    obtain ⟨nd,rvi,rni,rki,ti,rfl,ok1,hi1,hd1,kv1,ad1,hl1,bd1,ms,mn⟩:=hJ
    obtain ⟨k,tq,rfl,hq⟩:=ints_get ha hv
    have hil:i<av.length:=(List.getElem?_eq_some_iff.mp hv).1
    rw [drop_get hq] at hd1
    obtain ⟨z1,hz1,hd2⟩:=Option.bind_eq_some_iff.mp hd1
    obtain ⟨r,hr,rfl⟩:∃ r∈nd,r.k=k:=by
      unfold done1 at hz1
      cases hf:(absOf nd).find? (fun e=>e.1==k) with
      | none=>rw [hf] at hz1; cases hz1
      | some e =>
        refine any_abs (List.any_eq_true.mpr ⟨e,List.mem_of_find?_eq_some hf,?_⟩)
        simpa using List.find?_some hf
    unfold done1 at hz1
    simp only [find_abs ok1 hr] at hz1
    split at hz1
    case isFalse=>cases hz1
    rename_i hcond
    simp only [Option.some.injEq] at hz1
    obtain ⟨hnp,hall⟩:=Bool.and_eq_true_iff.mp hcond
    replace hnp:r.np=-1:=by simpa using hnp
    clear hcond
    have hX:∀ q∈[((tp,tupOf av):Addr×Obj),(dx,dictOf (sd w t1 t2 t3 t4 (.ref D) (.ref R) vc (.int (f+i) ti)) n),(R,W.listOf (List.toArray rvi) rni)],q.1∉(led nds).map (·.1):=fun q hq=>by
      simp only [List.mem_cons,List.not_mem_nil,or_false] at hq
      rcases hq with rfl | rfl | rfl
      · exact tpn
      · exact sdx
      · exact sR
    have ownd:∀ q∈own,∀ a:Addr,a∈dx::R::(led nd).map (·.1)→q.1≠a:=fun q hq a ha e=>by
      rcases List.mem_cons.mp (ho q hq) with x | x
      · rcases List.mem_cons.mp ha with y | y
        · exact hw (dx,_) (List.mem_append_right _ (.tail _ (.head _))) (by show dx∈_; rw [← y,← e,x]; exact .head _)
        · rcases List.mem_cons.mp y with y | y
          · exact hw (R,_) (List.mem_append_right _ (.tail _ (.tail _ (.head _)))) (by show R∈_; rw [← y,← e,x]; exact .head _)
          · obtain ⟨u,hu,e'⟩:=List.mem_map.mp y
            exact hw u (List.mem_append_left _ hu) (by rw [e',← e,x]; exact .head _)
      · have x:=List.mem_singleton.mp x
        rcases List.mem_cons.mp ha with y | y
        · exact tdx (by rw [← x,← y]; exact e)
        · rcases List.mem_cons.mp y with y | y
          · exact tR (by rw [← x,← y]; exact e)
          · exact tpn (by rw [← ad1,← x,e]; exact y)
    have so:∀ q∈[((tp,tupOf av):Addr×Obj),(dx,dictOf (sd w t1 t2 t3 t4 (.ref D) (.ref R) vc (.int (f+i) ti)) n),(R,W.listOf (List.toArray rvi) rni)]++own,q.1∉(led nd).map (·.1):=fun q hq z=>by
      rcases List.mem_append.mp hq with y | y
      · exact hX q y (ad1 ▸ z)
      · exact ownd q y q.1 (.tail _ (.tail _ z)) rfl
    have N₁':News g L h₁ (led nd++([((tp,tupOf av):Addr×Obj),(dx,dictOf (sd w t1 t2 t3 t4 (.ref D) (.ref R) vc (.int (f+i) ti)) n),(R,W.listOf (List.toArray rvi) rni)]++own)):=by simpa using N₁
    have tabD:∀ {h:Heap} {m:Str→Option Value} {nd':List Nd},Fr g L h m→kvsOf nd'=kvsOf nds→Tab prog w h D (kvsOf nd'):=fun F e=>⟨e ▸ gD.keep F.keep,lo⟩
    have hmr:∀ q∈r.led,q∈led nd++([((tp,tupOf av):Addr×Obj),(dx,dictOf (sd w t1 t2 t3 t4 (.ref D) (.ref R) vc (.int (f+i) ti)) n),(R,W.listOf (List.toArray rvi) rni)]++own):=fun q hq=>List.mem_append_left _ (mem_led hr hq)
    refine wpAny_execs_cons<|wpAny_If<|wpAny_isTrue_Compare1<|wpAny_NamedExpr<|methodCall_KW<|ld (s:=up s _ _) F₁ mn<|dMeth (s:=up s _ _) (tabD F₁ kv1) PySem.F.slot_dict_get PySem.F.type_dict_get<|callWith_method1<|spliced_more<|ld (s:=up s _ _) F₁ rfl<|spliced_none<|dGet (s:=up s _ _) (tabD F₁ kv1) _ (value_mem ok1.keys hr) fun _ =>
      wpAny_assign_Name<|st (s:=tkd (up s _ _) _) F₁ N₁' fun h2 tk2 F2 N2=>wpAny_Constant_none<|is_none<|wpAny_truthy_bool ?_
    first | refine ifF (by simp) ?_ | rw [if_neg (by simp)]
    refine wpAny_execs_nil<|?_
    refine wpAny_execs_cons<|wpAny_Assign_Name<|Attribute_name<|ld (s:=up s _ _) F2 rfl<|getNp (s:=up s _ _) T F2 (N2 _ (hmr _ (.head _))).1 (N2 _ (hmr _ (.tail _ (.head _)))).1 rfl fun _=>st (s:=tkd (up s _ _) _) F2 N2 fun h3 tk3 F3 N3=>?_
    refine wpAny_execs_cons<|wpAny_If<|wpAny_isTrue_Compare1<|ld (s:=up s _ _) F3 rfl<|ldg (s:=up s _ _) (v:=.int (-1) 353) T F3 (by kernel_rfl)<|ne_int<|wpAny_truthy_bool ?_
    rw [hnp,if_neg (by simp)]
    refine wpAny_execs_nil<|?_
    refine wpAny_execs_cons<|plainObj_wpAny_Assign_Attribute<|ldg (s:=up s _ _) (v:=.int (-2) 356) T F3 (by kernel_rfl)<|ld (s:=up s _ _) F3 rfl<|setNpL (s:=up s _ _) T F3 N3 ok1 hr so fun h4 tk4 nd4 F4 N4 ok4 ab4 kv4 ad4 hr4=>?_
    have hm4:∀ q∈({ r with np:=-2,npt:=356 }:Nd).led,q∈led nd4++([((tp,tupOf av):Addr×Obj),(dx,dictOf (sd w t1 t2 t3 t4 (.ref D) (.ref R) vc (.int (f+i) ti)) n),(R,W.listOf (List.toArray rvi) rni)]++own):=fun q hq=>List.mem_append_left _ (mem_led hr4 hq)
    have slL:r.sl≠L:=(N4 _ (hm4 _ (.tail _ (.tail _ (.head _))))).2.1
    have slX:r.sl∈(led nds).map (·.1):=ad1 ▸ List.mem_map_of_mem (mem_led hr (.tail _ (.tail _ (.head _))))
    let Jv1:Nat→(Str→Option Value)→List (Addr×Obj)→Prop:=fun j m news=>Ex4 fun nj rvj rnj rkj=>And8 (news=led nj++([((tp,tupOf av):Addr×Obj),(dx,dictOf (sd w t1 t2 t3 t4 (.ref D) (.ref R) vc (.int (f+i) ti)) n),(R,W.listOf (List.toArray rvj) rnj)]++own)) (Nok nj) (IntsAre rvj rkj) ((r.ss.drop j).foldl decStep (absOf nj,rkj)=z1) (kvsOf nj=kvsOf nds) ((led nj).map (·.1)=(led nds).map (·.1)) (rvj.length≤1000+500*i+j) (And4 (Bd 500 1000 (absOf nj)) ((∃ q∈nj,q.sl=r.sl)) (m "self"=some (.ref O)) (m "n2i"=some (.ref D)))
    refine wpAny_execs_cons<|wpAny_For<|Attribute_name<|ld (s:=up s _ _) F4 rfl<|getSuc (s:=up s _ _) T F4 (N4 _ (hm4 _ (.head _))).1 (N4 _ (hm4 _ (.tail _ (.head _)))).1 rfl fun _ =>
      iterLX (s:=tkd (up s _ _) _) (vs:=r.vs) rm'.handled F4 N4 ⟨_,(N4 _ (hm4 _ (.tail _ (.tail _ (.head _))))).1,rfl,_,rfl⟩ slL
      Jv1
      ⟨nd4,rvi,rni,rki,rfl,ok4,hi1,by rw [ab4]; exact hz1,kv4.trans kv1,ad4.trans ad1,by lia,by rw [ab4]; exact bd1.np _ (f:=fun _=>-2),⟨_,hr4,rfl⟩,ms,mn⟩ ?_ ?_
    · intro E2 j v2 m₂ news₂ h5 tk5 own2 hv2 hJ2 hw2 ho2 hex2 F5 N5
      obtain ⟨nj,rvj,rnj,rkj,rfl,okj,hij,hzj,kvj,adj,hlj,bdj,⟨q0,hq0,hq0s⟩,msj,mnj⟩:=hJ2
      obtain ⟨x,tx,rfl,hx⟩:=ints_get (ok1.isI r hr) hv2
      have hjl:j<r.vs.length:=(List.getElem?_eq_some_iff.mp hv2).1
      have hjb:=bd1.of ok1 hr
      rw [drop_get hx,List.foldl_cons] at hzj
      obtain ⟨r',hr',rfl⟩:∃ r'∈nj,r'.k=x:=by
        obtain ⟨y,hy,e⟩:=any_abs (List.all_eq_true.mp hall x (List.mem_of_getElem? hx))
        have:x∈nj.map (·.k):=by rw [keys_kvs (kvj.trans kv1.symm),← e]; exact List.mem_map_of_mem hy
        obtain ⟨u,hu,e'⟩:=List.mem_map.mp this
        exact ⟨u,hu,e'⟩
      have ra:r'.a∈(led nds).map (·.1):=adj ▸ List.mem_map_of_mem (mem_led hr' (.head _))
      have sep5:∀ q∈([((tp,tupOf av):Addr×Obj),(dx,dictOf (sd w t1 t2 t3 t4 (.ref D) (.ref R) vc (.int (f+i) ti)) n),(R,W.listOf (List.toArray rvj) rnj)]++own)++own2,q.1≠r'.a:=fun q hq e=>by
        rcases List.mem_append.mp hq with y | y
        · rcases List.mem_append.mp y with y | y
          · simp only [List.mem_cons,List.not_mem_nil,or_false] at y
            rcases y with rfl | rfl | rfl
            · exact tpn (by rw [show tp=r'.a from e]; exact ra)
            · exact sdx (by rw [show dx=r'.a from e]; exact ra)
            · exact sR (by rw [show R=r'.a from e]; exact ra)
          · exact ownd q y r'.a (.tail _ (.tail _ (ad1 ▸ ra))) e
        · rcases List.mem_cons.mp (ho2 q y) with x | x
          · exact hw2 _ (List.mem_append_left _ (mem_led hr' (.head _))) (by show r'.a∈_; rw [← e,x]; exact .head _)
          · have x:=List.mem_singleton.mp x
            exact sl_ne_a okj hq0 hr' (by rw [hq0s,← x]; exact e)
      have N5':News g L h5 (led nj++(([((tp,tupOf av):Addr×Obj),(dx,dictOf (sd w t1 t2 t3 t4 (.ref D) (.ref R) vc (.int (f+i) ti)) n),(R,W.listOf (List.toArray rvj) rnj)]++own)++own2)):=by simpa using N5
      have hm5:∀ q∈r'.led,q∈led nj++(([((tp,tupOf av):Addr×Obj),(dx,dictOf (sd w t1 t2 t3 t4 (.ref D) (.ref R) vc (.int (f+i) ti)) n),(R,W.listOf (List.toArray rvj) rnj)]++own)++own2):=fun q hq=>List.mem_append_left _ (mem_led hr' hq)
      refine wpAny_execs_cons<|wpAny_Assign_Name<|Subscript_<|ld (s:=up s _ _) F5 mnj<|ld (s:=up s _ _) F5 rfl<|dItem (s:=up s _ _) (tabD F5 kvj) (value_mem okj.keys hr') fun _=>st (s:=tkd (up s _ _) _) F5 N5' fun h6 tk6 F6 N6=>?_
      refine wpAny_execs_cons<|wpAny_AugAssign_AttributeAny<|ld (s:=up s _ _) F6 rfl<|getNp (s:=up s _ _) T F6 (N6 _ (hm5 _ (.head _))).1 (N6 _ (hm5 _ (.tail _ (.head _)))).1 rfl fun _=>cint fun _ _=>isub_int (s:=tkd (up s _ _) _)<|setNpL' (s:=tkd (up s _ _) _) T F6 N6 okj hr' sep5 fun h7 tk7 nd7 F7 N7 ok7 ab7 kv7 ad7 hr7 sm7=>?_
      have ab7':absOf nd7=modK r'.k (fun e=>(e.1,e.2.1 - 1,e.2.2)) (absOf nj):=ab7.trans (mod_congr okj hr' rfl)
      have np7:npOf (absOf nd7) r'.k=some (r'.np - 1):=np_mem ok7 hr7
      obtain ⟨q7,hq7,hq7s⟩:=sm7 q0 hq0
      have hm7:=fun q (hq:q∈Nd.led _)=>List.mem_append_left (([((tp,tupOf av):Addr×Obj),(dx,dictOf (sd w t1 t2 t3 t4 (.ref D) (.ref R) vc (.int (f+i) ti)) n),(R,W.listOf (List.toArray rvj) rnj)]++own)++own2) (mem_led hr7 hq)
      have bd7:Bd 500 1000 (absOf nd7):=by rw [ab7]; exact bdj.np _ (f:=fun _=>r'.np - 1)
      refine wpAny_execs_cons<|wpAny_If<|wpAny_isTrue_Compare1<|Attribute_name<|ld (s:=up s _ _) F7 rfl<|getNp (s:=up s _ _) T F7 (N7 _ (hm7 _ (.head _))).1 (N7 _ (hm7 _ (.tail _ (.head _)))).1 rfl fun _=>cint fun _ _=>eq_int<|wpAny_truthy_bool ?_
      have hz7:decStep (absOf nj,rkj) r'.k=(absOf nd7,if (r'.np - 1==0)=true then rkj++[r'.k] else rkj):=by
        unfold decStep
        rw [← ab7',np7]
        congr 1
      rw [hz7] at hzj
      have wk7:∀ q∈led nd7,q.1∉[_]:=fun q hq=>by
        have:q.1∈(led nj).map (·.1):=ad7 ▸ List.mem_map_of_mem hq
        obtain ⟨u,hu,e⟩:=List.mem_map.mp this
        rw [← e]; exact hw2 u (List.mem_append_left _ hu)
      by_cases hc:(r'.np - 1==0)=true
      · rw [if_pos hc] at hzj
        rw [if_pos hc]
        have mR:((R,W.listOf (List.toArray rvj) rnj):Addr×Obj)∈led nd7++(([((tp,tupOf av):Addr×Obj),(dx,dictOf (sd w t1 t2 t3 t4 (.ref D) (.ref R) vc (.int (f+i) ti)) n),(R,W.listOf (List.toArray rvj) rnj)]++own)++own2):=List.mem_append_right _ (List.mem_append_left _ (List.mem_append_left _ (.tail _ (.tail _ (.head _)))))
        have mdx:((dx,dictOf (sd w t1 t2 t3 t4 (.ref D) (.ref R) vc (.int (f+i) ti)) n):Addr×Obj)∈led nd7++(([((tp,tupOf av):Addr×Obj),(dx,dictOf (sd w t1 t2 t3 t4 (.ref D) (.ref R) vc (.int (f+i) ti)) n),(R,W.listOf (List.toArray rvj) rnj)]++own)++own2):=List.mem_append_right _ (List.mem_append_left _ (List.mem_append_left _ (.tail _ (.head _))))
        refine wpAny_execs_cons<|wpAny_Expr<|methodCall_KW<|Attribute_name<|ld (s:=tkd (up s _ _) _) F7 msj<|getS (s:=tkd (up s _ _) _) T F7 (F7.keep _ _ gO) (N7 _ mdx).1 sd_rdy fun _=>kl_method (s:=tkd (up s _ _) _) N7 mR slot_list_append type_list_append<|callWith_method1<|spliced_more<|ld (s:=tkd (up s _ _) _) F7 rfl<|spliced_none <|
          appendL (s:=tkd (up s _ _) _) F7 (news_at N7 mR) upd_at (by lia) fun h8 F8 N8=>?_
        have N8':News g L h8 (led nd7++(([((tp,tupOf av):Addr×Obj),(dx,dictOf (sd w t1 t2 t3 t4 (.ref D) (.ref R) vc (.int (f+i) ti)) n),(R,W.listOf (List.toArray (rvj++[.int r'.k tx])) (rnj+1))]++own)++own2)):=news_to N8 fun q hq=>by
          rcases List.mem_append.mp hq with y | y
          · exact .inr ⟨List.mem_append_left _ y,fun e=>sR (by rw [← adj,← ad7,← e]; exact List.mem_map_of_mem y)⟩
          · rcases List.mem_append.mp y with y' | y'
            · rcases List.mem_append.mp y' with u | u
              · simp only [List.mem_cons,List.not_mem_nil,or_false] at u
                rcases u with rfl | rfl | rfl
                · exact .inr ⟨List.mem_append_right _ (List.mem_append_left _ (List.mem_append_left _ (.head _))),tR⟩
                · exact .inr ⟨mdx,hdR⟩
                · exact .inl rfl
              · exact .inr ⟨List.mem_append_right _ (List.mem_append_left _ (List.mem_append_right _ u)),ownd q u R (.tail _ (.head _))⟩
            · refine .inr ⟨List.mem_append_right _ (List.mem_append_right _ y'),fun e=>?_⟩
              rcases List.mem_cons.mp (ho2 q y') with x | x
              · exact hw2 (R,_) (List.mem_append_right _ (List.mem_append_left _ (.tail _ (.tail _ (.head _))))) (by show R∈_; rw [← e,x]; exact .head _)
              · exact sR (by rw [← e,List.mem_singleton.mp x]; exact slX)
        refine wpAny_execs_nil<|wpAny_execs_nil<|Turn.next (news':=led nd7++([((tp,tupOf av):Addr×Obj),(dx,dictOf (sd w t1 t2 t3 t4 (.ref D) (.ref R) vc (.int (f+i) ti)) n),(R,W.listOf (List.toArray (rvj++[.int r'.k tx])) (rnj+1))]++own)) F8 (by simpa using N8') (fun q hq=>?_)
          ⟨nd7,_,_,_,rfl,ok7,IntsAre.snoc hij _ tx,hzj,kv7.trans kvj,ad7.trans adj,by simp; lia,bd7,⟨q7,hq7,hq7s.trans hq0s⟩,msj,mnj⟩
        rcases List.mem_append.mp hq with y | y
        · exact wk7 q y
        · rcases List.mem_append.mp y with u | u
          · simp only [List.mem_cons,List.not_mem_nil,or_false] at u
            rcases u with rfl | rfl | rfl
            · exact hw2 (tp,_) (List.mem_append_right _ (List.mem_append_left _ (.head _)))
            · exact hw2 (dx,_) (List.mem_append_right _ (List.mem_append_left _ (.tail _ (.head _))))
            · exact hw2 (R,W.listOf (List.toArray rvj) rnj) (List.mem_append_right _ (List.mem_append_left _ (.tail _ (.tail _ (.head _)))))
          · exact hw2 q (List.mem_append_right _ (List.mem_append_right _ u))
      · rw [if_neg hc] at hzj
        rw [if_neg hc]
        refine wpAny_execs_nil<|wpAny_execs_nil<|Turn.next (news':=led nd7++([((tp,tupOf av):Addr×Obj),(dx,dictOf (sd w t1 t2 t3 t4 (.ref D) (.ref R) vc (.int (f+i) ti)) n),(R,W.listOf (List.toArray rvj) rnj)]++own)) F7 (by simpa using N7) (fun q hq=>?_) ⟨nd7,rvj,rnj,rkj,rfl,ok7,hij,hzj,kv7.trans kvj,ad7.trans adj,by lia,bd7,⟨q7,hq7,hq7s.trans hq0s⟩,msj,mnj⟩
        rcases List.mem_append.mp hq with y | y
        · exact wk7 q y
        · exact hw2 q (List.mem_append_right _ y)
    · intro h5 tk5 m5 news5 F5 N5 hw5 hJ5
      obtain ⟨nj,rvj,rnj,rkj,rfl,okj,hij,hzj,kvj,adj,hlj,bdj,_,msj,mnj⟩:=hJ5
      have hrl:=(ok1.isI r hr).length
      have hjb:=bd1.of ok1 hr
      rw [hrl,List.drop_length,List.foldl_nil] at hzj
      have mdx:((dx,dictOf (sd w t1 t2 t3 t4 (.ref D) (.ref R) vc (.int (f+i) ti)) n):Addr×Obj)∈led nj++([((tp,tupOf av):Addr×Obj),(dx,dictOf (sd w t1 t2 t3 t4 (.ref D) (.ref R) vc (.int (f+i) ti)) n),(R,W.listOf (List.toArray rvj) rnj)]++own):=List.mem_append_right _ (List.mem_append_left _ (.tail _ (.head _)))
      refine wpAny_execs_cons<|wpAny_AugAssign_AttributeAny<|ld (s:=up s _ _) F5 msj<|getS (s:=up s _ _) T F5 (F5.keep _ _ gO) (N5 _ mdx).1 sd_fin fun _=>cint fun _ _=>iaddI (s:=tkd (up s _ _) _) fun tn _ =>
        setS (s:=tkd (up s _ _) _) T F5 (news_at N5 mdx) (F5.keep _ _ gO) (N5 _ mdx).1 (by rw [sd_fin]; rfl) sd_put_fin upd_at (by simp [sd]) fun h6 tk6 F6 N6=>?_
      rw [show f+(i:Int)+1=f+((i+1:Nat):Int) by push_cast; lia] at N6
      refine wpAny_execs_nil<|Turn.next (news':=led nj++[((tp,tupOf av):Addr×Obj),(dx,dictOf (sd w t1 t2 t3 t4 (.ref D) (.ref R) vc (.int (f+((i+1:Nat):Int)) tn)) n),(R,W.listOf (List.toArray rvj) rnj)]) F6 (news_to N6 fun q hq=>?_) (fun q hq=>?_)
        ⟨nj,rvj,rnj,rkj,tn,rfl,okj,hij,by rw [hzj]; exact hd2,kvj,adj,by lia,bdj,msj,mnj⟩
      · rcases List.mem_append.mp hq with y | y
        · rcases List.mem_append.mp y with y | y
          · exact .inr ⟨List.mem_append_left _ y,fun e=>sdx (by rw [← adj,← e]; exact List.mem_map_of_mem y)⟩
          · simp only [List.mem_cons,List.not_mem_nil,or_false] at y
            rcases y with rfl | rfl | rfl
            · exact .inr ⟨List.mem_append_right _ (List.mem_append_left _ (.head _)),tdx⟩
            · exact .inl rfl
            · exact .inr ⟨List.mem_append_right _ (List.mem_append_left _ (.tail _ (.tail _ (.head _)))),hdR.symm⟩
        · exact .inr ⟨List.mem_append_right _ (List.mem_append_right _ y),ownd q y dx (.head _)⟩
      · rcases List.mem_append.mp hq with y | y
        · have:q.1∈(led nd).map (·.1):=by rw [ad1,← adj]; exact List.mem_map_of_mem y
          obtain ⟨u,hu,e⟩:=List.mem_map.mp this
          rw [← e]; exact hw u (List.mem_append_left _ hu)
        · simp only [List.mem_cons,List.not_mem_nil,or_false] at y
          rcases y with rfl | rfl | rfl
          · exact hw (tp,_) (List.mem_append_right _ (.head _))
          · exact hw (dx,dictOf (sd w t1 t2 t3 t4 (.ref D) (.ref R) vc (.int (f+i) ti)) n) (List.mem_append_right _ (.tail _ (.head _)))
          · exact hw (R,W.listOf (List.toArray rvi) rni) (List.mem_append_right _ (.tail _ (.tail _ (.head _))))
  · intro h4 tk4 m4 news4 F4 N4 hw hJ
    obtain ⟨nd,rvi,rni,rki,ti,rfl,ok1,hi1,hd1,kv1,ad1,hl1,bd1,ms,mn⟩:=hJ
    refine wpAny_execs_nil ?_
    subst hg
    rw [hal,List.drop_length] at hd1
    simp only [doneP,Option.some.injEq] at hd1
    subst hd1
    refine h h4 tk4 nd rni rvi ti (ext_of_fr F4) (N4 _ (List.mem_append_right _ (.tail _ (.head _)))).1 (N4 _ (List.mem_append_right _ (.tail _ (.tail _ (.head _))))).1 hi1 ok1 rfl kv1 ad1 fun q hq=>(N4 q (List.mem_append_left _ hq)).1
theorem al0:∀ d,P1 d:=epsAll ne0 P1 (by with_unfolding_all exact bd0)
end Zdonecode
end
section
variable {prog:Program} {w:World} {A:Around} {E:Value→Shared→Prop} {s:Shared} {O dx D R:Addr} {n rn:Nat} {t1 t2 t3 t4 t6:Tok} {vc:Value} {f:Int} {rv av:List Value} {ks rks:List Int} {nds:List Nd} {z':List AN×List Int}
theorem done_code {Q:Value→Shared→Prop} (rm:Room A 1) (T:Wd w (hideAll s.heap (dx::R::(led nds).map (·.1)))) (gO:(hideAll s.heap (dx::R::(led nds).map (·.1))).get? O=some (instObj 196 dx)) (gD:(hideAll s.heap (dx::R::(led nds).map (·.1))).DictOf (intKind prog w) D (kvsOf nds)) (lo:(D==sysModules)=false) (hdx:s.heap.get? dx=some (dictOf (sd w t1 t2 t3 t4 (.ref D) (.ref R) vc (.int f t6)) n)) (hR:s.heap.get? R=some (W.listOf rv.toArray rn)) (hN:∀ p∈led nds,s.heap.get? p.1=some p.2) (ok:Nok nds) (hdR:dx≠R) (sdx:dx∉(led nds).map (·.1)) (sR:R∉(led nds).map (·.1)) (hi:IntsAre rv rks) (hz:rv.length≤1000) (ha:IntsAre av ks) (haz:av.length≤100) (bd:Bd 500 1000 (absOf nds)) (hd:doneP (absOf nds,rks) ks=some z') (h:∀ h' tk' nds' rn' rv' t6',Ext (dx::R::(led nds).map (·.1)) s.heap h'→h'.get? dx=some (dictOf (sd w t1 t2 t3 t4 (.ref D) (.ref R) vc (.int (f+av.length) t6')) n)→h'.get? R=some (W.listOf (List.toArray rv') rn')→IntsAre rv' z'.2 →
      Nok nds'→absOf nds'=z'.1→kvsOf nds'=kvsOf nds→(led nds').map (·.1)=(led nds).map (·.1)→(∀ p∈led nds',h'.get? p.1=some p.2)→Q .none (up s h' tk')):codeAny (model prog w) A (.call (.ref 179) ⟨.ref O::av,[]⟩) (wants Q E) s:=by
  have hW:∀ q∈(dx,dictOf (sd w t1 t2 t3 t4 (.ref D) (.ref R) vc (.int f t6)) n)::(R,W.listOf rv.toArray rn)::led nds,s.heap.get? q.1=some q.2:=fun q hq=>by
    rcases List.mem_cons.mp hq with rfl | hq
    · exact hdx
    · rcases List.mem_cons.mp hq with rfl | hq
      · exact hR
      · exact hN q hq
  refine enterV (W:=(dx,dictOf (sd w t1 t2 t3 t4 (.ref D) (.ref R) vc (.int f t6)) n)::(R,W.listOf rv.toArray rn)::led nds) rm.le' (fn179 T.of_hide.X) T.of_hide.lim (cd179 T.of_hide.X) hW rfl (bind179 w O av) (by lia) (by kernel_rfl) (fun t=>by kernel_rfl) ?_ (by kernel_rfl) (by kernel_rfl) (by kernel_rfl)
  intro L h₀ tk₀ F N A₁ R₁ E₁ dA hret hnone
  exact Zdonecode.al0 (((((prog,w),(A,s)),((A₁,O),dx)),(((D,R),(n,rn)),((t1,t2),t3))),((((t4,t6),(vc,f)),((rv,av),ks)),(((rks,nds),(L,h₀)),((tk₀,R₁),E₁)))) z' rm T gO gD lo hdx hR hN ok hdR sdx sR hi hz ha haz bd hd (fun x0 x1 x2 x3 x4 x5 x6 x7 x8 x9 x10 x11 x12 x13 x14=>hnone _ (h x0 x1 x2 x3 x4 x5 x6 x7 x8 x9 x10 x11 x12 x13 x14)) F N dA
end
end
section
theorem li_getattribute:Slot "list_iterator" "__getattribute__" "object.__getattribute__" :=
  .of (owner:="object") (n:="__getattribute__") (by rw [typeLookup_type,builtinLookup_eq_fast]; kernel_rfl) (by decide +kernel) (by decide +kernel) (by decide +kernel)
    (by first | exact .inl (by decide +kernel) | exact .inr (by decide +kernel)) (by rw [isSubtype_type]; kernel_rfl)
theorem li_entry:entryFor table "object.__getattribute__"=some Builtin.«object.__getattribute__»:=entryFor_of_tree (by kernel_rfl)
theorem li_next:typeLookup (.type "list_iterator") "__next__"=pure (some (.builtin "list_iterator.__next__")):=by rw [typeLookup_type,builtinLookup_eq_fast]; kernel_rfl
theorem li_type:typeOf (.builtin "list_iterator.__next__")=pure (.type "wrapper_descriptor"):=by show builtinType _=_; rw [builtinType_eq_fast]; kernel_rfl
theorem li_get:typeLookup (.type "wrapper_descriptor") "__get__"=pure (some (.builtin "wrapper_descriptor.__get__")):=by rw [typeLookup_type,builtinLookup_eq_fast]; kernel_rfl
theorem li_noset:typeLookup (.type "wrapper_descriptor") "__set__"=pure none:=by rw [typeLookup_type,builtinLookup_eq_fast]; kernel_rfl
theorem li_nodel:typeLookup (.type "wrapper_descriptor") "__delete__"=pure none:=by rw [typeLookup_type,builtinLookup_eq_fast]; kernel_rfl
theorem li_args (a b:Value):argsOk "object.__getattribute__" ⟨[a,b],[]⟩:=by unfold argsOk; kernel_rfl
theorem wd_slot:Slot "wrapper_descriptor" "__get__" "wrapper_descriptor.__get__" :=
  .of (owner:="wrapper_descriptor") (n:="__get__") (by rw [typeLookup_type,builtinLookup_eq_fast]; kernel_rfl) (by decide +kernel) (by decide +kernel) (by decide +kernel)
    (by first | exact .inl (by decide +kernel) | exact .inr (by decide +kernel)) (by rw [isSubtype_type]; kernel_rfl)
theorem wd_entry:entryFor table "wrapper_descriptor.__get__"=some Builtin.«wrapper_descriptor.__get__»:=entryFor_of_tree (by kernel_rfl)
theorem wd_args (a b c:Value):argsOk "wrapper_descriptor.__get__" ⟨[a,b,c],[]⟩:=by unfold argsOk; kernel_rfl
theorem li_sub:isSubtype (.type "list_iterator") (.type "list_iterator")=pure true:=by rw [isSubtype_type]; kernel_rfl
theorem wd_owner:(kfb_private% "ownerAndName") "list_iterator.__next__"=("list_iterator","__next__"):=by first | decide +kernel | kernel_rfl
noncomputable abbrev liObj (l:Addr) (i:Int) (t:Tok):Obj:={ cls:=.type "list_iterator",data:=.fields #[.ref l,.int i t] }
noncomputable def mw (it:Addr):Obj:={ cls:=.type "method-wrapper",data:=.fields #[.builtin "list_iterator.__next__",.ref it] }
section
variable {prog:Program} {w:World} {A:Around} {E:Value→Shared→Prop} {s:Shared}
theorem meets_next_attr (it l:Addr) (i:Int) (t u:Tok):Meets (Builtin.«object.__getattribute__» ⟨[.ref it,.str (Str.ofString "__next__") u],[]⟩) (fun _ R s=>s.heap.get? it=some (liObj l i t)∧∀ tk,R (.ok (.ret (.ref s.heap.objs.size))) (up s (s.heap.push (mw it)) tk)) :=
  Meets.of_wp fun prog w A R s hs=>by
    obtain ⟨hp,g,d,tk,os⟩:=s
    obtain ⟨hx,hs⟩:=hs
    have hT:(⟨hp,g,d,tk,os⟩:Shared).TypeIs (.ref it) "list_iterator":=⟨_,hx,rfl⟩
    have f1:=li_next
    have f2:=li_type
    have f3:=li_get
    have f4:=li_noset
    have f5:=li_nodel
    unfold Builtin.«object.__getattribute__»
    repeat (any_goals (first | assumption | wp_step))
    refine codeAny_call_builtin wd_slot.plain wd_entry (wd_slot.check _ _ _ _ _ _ _ _ ?_ (wd_args _ _ _) ?_)
    · first | exact f2 | (intro M A E Q hq; exact wpAny_of_eq f2 hq) | (show typeOf _=_; exact f2)
    unfold Builtin.«wrapper_descriptor.__get__»
    refine wpAny_bind (wpAny_of_eq (a:=(.builtin "list_iterator.__next__",some (.ref it),some (.type "list_iterator"))) (by first | rfl | kernel_rfl) ?_)
    show wpAny _ _ (((kfb_private% "checkInstance") (.builtin "list_iterator.__next__") (.ref it)) >>= fun _=>(newFields "method-wrapper" [.builtin "list_iterator.__next__",.ref it] >>= fun v=>ret v)) _ _ _
    refine wpAny_bind ?_
    show wpAny _ _ (isInstance (.ref it) (.type ((kfb_private% "ownerAndName") "list_iterator.__next__").1) >>= _) _ _ _
    rw [wd_owner]
    refine wpAny_bind (wpAny_isInstance hT li_sub ?_)
    refine wpAny_pure ?_
    refine wpAny_bind (wpAny_newObj_type (wpAny_pure ?_))
    exact wpAny_pure ⟨_,rfl,hs _⟩
end
end
section
section
variable {prog:Program} {w:World} {A:Around} {E:Value→Shared→Prop} {s:Shared} {it l:Addr} {i:Int} {t:Tok}
theorem li_noattr:typeLookup (.type "list_iterator") "__getattr__"=pure none:=by rw [typeLookup_type,builtinLookup_eq_fast]; kernel_rfl
theorem getNext {Q:Value→Shared→Prop} {expr:Bool} (hx:s.heap.get? it=some (liObj l i t)) (h:∀ tk,Q (.ref s.heap.objs.size) (up s (s.heap.push (mw it)) tk)):wpAny (model prog w) A (getAttr (.ref it) (Str.ofString "__next__") expr) Q E s:=by
  obtain ⟨hp,g,d,tk,os⟩:=s
  have hT:∀ tk',(⟨hp,g,d,tk',os⟩:Shared).TypeIs (.ref it) "list_iterator":=fun _=>⟨_,hx,rfl⟩
  have f3:=li_getattribute.lookup
  have f4:=li_getattribute.bind (.ref it)
  have f5:=li_noattr
  unfold getAttr getAttrBy
  repeat (any_goals (first | assumption | exact hT _ | ((with_reducible show wpAny _ _ (call (Value.builtin "object.__getattribute__") _ _) _ _ _); refine call_meets li_getattribute (hT _) li_entry (li_args _ _) (meets_next_attr it l i t _) ⟨hx,fun tk'=>?_⟩) | wp_step))
  have hif:(expr && onTheHeap (Value.builtin "object.__getattribute__"))=false:=by cases expr <;> rfl
  rw [hif,if_neg (by decide)]
  repeat (any_goals (first | assumption | exact hT _ | ((with_reducible show wpAny _ _ (call (Value.builtin "object.__getattribute__") _ _) _ _ _); refine call_meets li_getattribute (hT _) li_entry (li_args _ _) (meets_next_attr it l i t _) ⟨hx,fun tk'=>?_⟩) | wp_step))
  show wpAny _ _ (handedOut (.ref hp.objs.size)) _ _ _
  exact wpAny_of_eq (handedOut_of rfl) (h _)
theorem li_quiet (as:Args):(Code.builtin "list_iterator.__next__" as).quiet=true:=Code.quiet_builtin _ (by decide +kernel)
theorem li_check (it:Addr):checkBoundCall "list_iterator.__next__" ⟨[.ref it],[]⟩=pure ():=by first | kernel_rfl | rfl
theorem under_next (as:Args):A.under (.builtin "list_iterator.__next__" as)=A.in1:=Around.under_plainId slot_listiter_next.plain _
theorem callNext {Q:Value→Shared→Prop} {q:Addr} (hq:s.heap.get? q=some (mw it)) (h:wpAny (model prog w) A.in1 (Builtin.«list_iterator.__next__» ⟨[.ref it],[]⟩) (fun fin s'=>∃ v,fin=.done (.ret v)∧Q v s') E s):wpAny (model prog w) A (call (.ref q) []) Q E s:=by
  refine wpAny_call (codeAny_of_tree ?_)
  show wpAny _ A.in1 (callAny (.ref q) ⟨[],[]⟩) _ _ s
  simp only [callAny]
  refine wpAny_bind (wpAny_load hq ?_)
  simp only [mw,show (Value.type "method-wrapper"==Value.type "method" || Value.type "method-wrapper"==Value.type "builtin_function_or_method" || Value.type "method-wrapper"==Value.type "method-wrapper")=true by decide]
  show wpAny _ _ (checkBoundCall "list_iterator.__next__" ⟨[.ref it],[]⟩ >>= fun _=>again (.builtin "list_iterator.__next__" ⟨[.ref it],[]⟩)) _ _ s
  refine wpAny_bind (wpAny_of_eq (a:=()) (li_check it) (wpAny_pure ?_))
  refine ⟨li_quiet _,codeAny_builtin entry_listiter_next ?_⟩
  rw [under_next]
  refine wpAny_mono h (fun fin s' z=>?_) fun _ _ z=>z
  obtain ⟨v,rfl,z⟩:=z
  exact z
theorem next_item {Q:Fin→Shared→Prop} {M:Model} {j:Nat} {items:Array Value} {x:Value} (hit:s.heap.get? it=some (liObj l j 0)) (hl:s.heap.IsList l items) (hx:items[j]?=some x)
    (h:∀ h',h'.get? it=some (liObj l ((j+1:Nat):Int) 0)→Heap.SameBut it s.heap h'→Q (.done (.ret x)) (up s h' s.toks)):wpAny M A (Builtin.«list_iterator.__next__» ⟨[.ref it],[]⟩) Q E s:=by
  obtain ⟨ol,hol,_,nl,hdl⟩:=hl
  show wpAny _ _ (field (.ref it) 0 >>= _) _ _ s
  refine wpAny_bind (wpAny_field hit rfl (x:=.ref l) rfl ?_)
  show wpAny _ _ (if (Value.ref l==Value.none)=true then _ else _) _ _ s
  rw [if_neg (show ¬ ((Value.ref l==Value.none)=true) from Bool.false_ne_true)]
  show wpAny _ _ (field (.ref it) 1 >>= _) _ _ s
  refine wpAny_bind (wpAny_field hit rfl (x:=.int j 0) rfl ?_)
  show wpAny _ _ (seqItems? (.ref l) >>= _) _ _ s
  refine wpAny_bind (wpAny_seqItems hol hdl ?_)
  simp only [Int.toNat_natCast,hx]
  refine wpAny_bind (wpAny_setField hit rfl (by simp) (wpAny_pure (h _ ?_ (Heap.SameBut.update ..))))
  rw [Heap.get?_update_self _ hit rfl]
  rfl
end
end
section
open PyProof.Rows.TI (Frs SameUp)
section
variable {prog:Program} {w:World} {A:Around} {E:Value→Shared→Prop} {s:Shared} {it l:Addr}
theorem si_own (args:List Value):ownMembersOf (.type "StopIteration") args=#[]:=by
  unfold ownMembersOf
  split <;> first | rfl | (rename_i h; revert h; decide) | simp_all
theorem next_endX {Q:Fin→Shared→Prop} {M:Model} {j:Nat} {items:Array Value} (hh:A.handled=none) (hit:s.heap.get? it=some (liObj l j 0)) (hl:s.heap.IsList l items) (hx:items[j]?=none)
    (h:∀ h1 h' e,Heap.SameBut it s.heap h1→(∃ o,h1.get? it=some o)→Heap.NewExc h1 h' e "StopIteration"→E (.ref e) (up s h' s.toks)):wpAny M A (Builtin.«list_iterator.__next__» ⟨[.ref it],[]⟩) Q E s:=by
  obtain ⟨ol,hol,_,nl,hdl⟩:=hl
  show wpAny _ _ (field (.ref it) 0 >>= _) _ _ s
  refine wpAny_bind (wpAny_field hit rfl (x:=.ref l) rfl ?_)
  show wpAny _ _ (if (Value.ref l==Value.none)=true then _ else _) _ _ s
  rw [if_neg (show ¬ ((Value.ref l==Value.none)=true) from Bool.false_ne_true)]
  show wpAny _ _ (field (.ref it) 1 >>= _) _ _ s
  refine wpAny_bind (wpAny_field hit rfl (x:=.int j 0) rfl ?_)
  show wpAny _ _ (seqItems? (.ref l) >>= _) _ _ s
  refine wpAny_bind (wpAny_seqItems hol hdl ?_)
  simp only [Int.toNat_natCast,hx]
  refine wpAny_bind (wpAny_rule (wpAny_bind (wpAny_setField hit rfl (by simp) ?_)))
  show wpAny _ _ (newExc (.type "StopIteration") [] >>= _) _ _ _
  refine wpAny_bind ?_
  simp only [newExc,newTuple]
  refine wpAny_bind (wpAny_newObj_type ?_ (by size_fits))
  refine wpAny_bind (m:=firstArgMember _ _) (wpAny_of_eq (a:=Value.none) (by first | rfl | (simp only [firstArgMember]; rfl)) ?_)
  rw [si_own]
  refine wpAny_newObj_type ?_ (by size_fits)
  simp only [raiseNew]
  refine wpAny_bind (wpAny_handled ?_)
  rw [hh]
  refine wpAny_bind (wpAny_pure (wpAny_throw ?_))
  have hk:Heap.SameBut it s.heap (s.heap.update it (Obj.mapFields fun x=>x.setIfInBounds 0 Value.none)):=Heap.SameBut.update ..
  refine h _ _ _ hk ⟨_,Heap.get?_update_self _ hit rfl⟩ ⟨fun b o hb=>Heap.get?_push_of_some _ (Heap.get?_push_of_some _ hb),Heap.get?_none_of_le (by simp),_,_,Heap.get?_push_size _ rfl,rfl,by simp; rfl⟩
theorem si_exc:isSubtype (.type "StopIteration") (.type "BaseException")=pure true:=by rw [isSubtype_type]; kernel_rfl
theorem si_tup:isSubtype (.type ((Manifest.find? "StopIteration").elim "type" fun x=>x.metatype)) (.type "tuple")=pure false:=by rw [isSubtype_type]; kernel_rfl
theorem si_self:isSubtype (.type "StopIteration") (.type "StopIteration")=pure true:=by rw [isSubtype_type]; kernel_rfl
end
theorem heldNA_lands {prog:Program} {w:World} {E:Value→Shared→Prop} {s':Shared} {h₀:Heap} {L e:Addr} {m:Str→Option Value} {X:String} {news:List (Addr×Obj)} {fl:Value} (H:TT.HeldNA h₀ L s'.heap m e X news fl) {A:Around} {Q:Unit→Shared→Prop}
    (k:∀ h',TT.HeldNA h₀ L h' m e X news .none→Q () (up s' h' s'.toks)):wpAny (model prog w) A (setFlight (.ref e) none) Q E s':=by
  obtain ⟨⟨F,⟨ob,vs,tb,otb,tvs,he,hcls,hd,h1,htb,htd,h3,htbL,htbe,htb0⟩,hf⟩,N,hap⟩:=H
  have hsz:3<tvs.size:=(Array.getElem?_eq_some_iff.mp h3).1
  obtain ⟨oL,esL,epL,hL,hLd,hLk,hLf⟩:=F.ns
  refine wpAny_setFlight_none he hd h1 htb htd hsz (k _ ⟨⟨⟨⟨oL,esL,epL,(Heap.get?_update_ne _ _ _ _ htbL.symm).trans hL,hLd,hLk,hLf⟩,fun b o hb=>?_,F.above⟩,⟨ob,vs,tb,_,_,(Heap.get?_update_ne _ _ _ _ htbe.symm).trans he,hcls,hd,h1,Heap.get?_update_self _ htb (Obj.isFreed_of_fields (Obj.data_mapFields htd _)),Obj.data_mapFields htd _,by simp [hsz],htbL,htbe,htb0⟩,hf⟩,fun p hp=>?_,?_⟩)
  · exact (Heap.get?_update_ne _ _ _ _ (fun q=>by rw [q,htb0] at hb; cases hb)).trans (F.keep b o hb)
  · exact ⟨(Heap.get?_update_ne _ _ _ _ (hap ob vs tb he hd h1 p hp)).trans (N p hp).1,(N p hp).2⟩
  · intro ob' vs' tb' e1 e2 e3
    rw [(Heap.get?_update_ne _ _ _ _ htbe.symm)] at e1
    exact hap ob' vs' tb' e1 e2 e3
section
variable {prog:Program} {w:World} {A₀ A₁:Around} {E:Value→Shared→Prop} {s':Shared} {g h:Heap} {L a e:Addr} {m:Str→Option Value} {name:Str} {scope:Scope} {cd:Value} {l:List Env} {frs new:List (Addr×Obj)}
  {b₀:Stmt} {suite:List Stmt} {pos np:Pos} {rest:List ExceptHandler} {Q:Flow→Shared→Prop} {env:Env}
theorem caughtSI (hfr : A₀.frames = some l) (Fs : Frs l frs) (T : Wd w g) (hx : Heap.NewExc h s'.heap e "StopIteration") (F : Fr g L h m) (N : News g L h (new ++ frs)) (hap : ∀ p ∈ new, p.1 ∉ L :: frs.map (·.1)) (he : env = envOf name scope L a cd) (hA : A₁ = A₀.deeper env)
    (k:∀ (E':Value→Shared→Prop) h' frs',SameUp frs frs'→Frs l frs'→Fr g L h' m→News g L h' (new++frs')→wpAny (model prog w) (A₁.mark (some (.ref e))) (execs (b₀::suite) env) Q E' (up s' h' s'.toks))
    (hk:scope.kind=.function) (hx':env.kindOf (Str.ofString "StopIteration")=some .globalImplicit) :
    wpAny (model prog w) A₁ (noteFrame (.ref e) env) (fun _ s₂=>wpAny (model prog w) A₁ (setFlight (.ref e) none) (fun _ s₃ =>
        wpAny (model prog w) A₁ (handleBy (.ref e) env (.ExceptHandler (some (.Name (Str.ofString "StopIteration") np)) none (b₀::suite) pos::rest)) Q E s₃) E s₂) E s':=by
  subst hA
  subst he
  refine TLg.noted_newA hfr Fs hx F N hap (fun h1 frs1 SU Fs1 H1=>?_) hk
  refine heldNA_lands (s':=up s' h1 s'.toks) H1 fun h2 H2=>?_
  refine wpAny_handleBy_builtin (s:=up s' h2 s'.toks) (X:="StopIteration") (T:="StopIteration") (b:=true) si_exc si_tup si_self ?_
  refine ldb (s:=up s' h2 s'.toks) T H2.held.fr (by kernel_rfl) (by kernel_rfl) ⟨rfl,H2.isA,?_⟩ hk hx' (by kernel_rfl)
  first | refine ifT rfl ?_ | rw [if_pos rfl]
  refine heldNA_lands (s':=up s' h2 s'.toks) H2 fun h3 H3=>?_
  exact k _ h3 frs1 SU Fs1 H3.held.fr H3.made
end
end
section
open PyProof.Rows.TI (Frs SameUp)
theorem news_same {g h h':Heap} {L d:Addr} {o o':Obj} {l1 l2:List (Addr×Obj)} (N:News g L h (l1++(d,o)::l2)) (hs:Heap.SameBut d h h') (e:h'.get? d=some o') (h1:∀ p∈l1,p.1≠d) (h2:∀ p∈l2,p.1≠d):News g L h' (l1++(d,o')::l2):=fun p hp=>by
  rcases List.mem_append.mp hp with q | q
  · have z:=N p (List.mem_append_left _ q)
    exact ⟨(hs.2 _ (h1 p q)).trans z.1,z.2⟩
  · rcases List.mem_cons.mp q with rfl | q
    · exact ⟨e,(N (d,o) (List.mem_append_right _ (.head _))).2⟩
    · have z:=N p (List.mem_append_right _ (.tail _ q))
      exact ⟨(hs.2 _ (h2 p q)).trans z.1,z.2⟩
section
variable {prog:Program} {w:World} {M:Model} {A:Around} {E:Value→Shared→Prop} {s:Shared} {env:Env} {g:Heap} {L:Addr} {m:Str→Option Value} {news:List (Addr×Obj)}
theorem callQ {Q:Value→Shared→Prop} {q it:Addr} {pos:Pos} (X:s.heap.get? q=some (mw it)) (h:wpAny M A (call (.ref q) []) Q E s):wpAny M A (callWith pos (.ref q) [] (backTo pos (starEach [] env)) []) Q E s :=
  callWith_of (P:=fun h=>h.get? q=some (mw it)) rfl (fun h X=>⟨.machine,.inr (.inl rfl),(Looks.ld (part:=none) X).andThen .now⟩) (evalArgs_nil3 ⟨X,h⟩)
theorem dDel {Q:Unit→Shared→Prop} {D:Addr} {od:Obj} {kvs:List (Int×Value)} {k:Int} {t:Tok} {u:Obj→List (Addr×Obj)} (F:Fr g L s.heap m) (N:News g L s.heap news) (U:UpdF D od news u) (hod:od.IsDictOf (intKind prog w) kvs) (hz:kvs.length≤1000) (hv:(valueAt kvs k).isSome=true)
    (h:∀ h' tk od',Fr g L h' m→News g L h' (u od')→od'.IsDictOf (intKind prog w) (without kvs k)→Q () (up s h' tk)):wpAny (model prog w) A (delItem (.ref D) (.int k t)) Q E s:=by
  obtain ⟨pre,post,rfl,hg,a,b⟩:=U.split
  have hm:=N (D,od) (List.mem_append_right _ (.head _))
  have hD:s.heap.DictOf (intKind prog w) D kvs:=Heap.dictOf_iff.mpr ⟨od,hm.1,hod⟩
  unfold delItem
  try with_reducible refine wpAny_holding ?_
  refine wpAny_bind (wpAny_sequenceKey hD.typeIs (by decide) ?_)
  refine wpAny_bind (wpAny_callSpecial?_slot (name:=Str.ofString "__delitem__") hD.typeIs PySem.F.slot_dict_delitem
    (call_meetsIn PySem.F.slot_dict_delitem hD.typeIs PySem.F.entry_dict_delitem (PySem.F.args_dict_delitem_2 _ _) (meets_dict_delitem_pairs (intKind prog w) D (intKind_is prog w k t)) ⟨kvs,hD,(by rw [sizeLine_eq]; lia),hv,fun h' hmm hs=>?_⟩))
  obtain ⟨o',ho',hd'⟩:=Heap.dictOf_iff.mp hmm
  refine wpAny_pure (h h' _ o' (F.change hs hm.2.1 hm.2.2) ?_ hd')
  rw [hg o']
  exact news_same N hs ho' a b
theorem iterB {Q:Value→Shared→Prop} {l:Addr} {items:Array Value} (hl:s.heap.IsList l items) (h:Q (.ref s.heap.objs.size) (up s (s.heap.push (liObj l 0 0)) s.toks)):wpAny (model prog w) A (call (.builtin "iter") [.ref l]) Q E s:=by
  refine call_function_entry (by decide +kernel) (by decide +kernel) kdk_entry_iter (kdk_args_iter _) ?_
  unfold Builtin.«iter»
  refine wpAny_bind (m:=someArgs "iter" 1 2 _) (wpAny_of_eq (a:=[Value.ref l]) (by first | rfl | kernel_rfl!) ?_)
  show wpAny _ _ (pyIter (.ref l) >>= _) _ _ _
  refine wpAny_bind (wpAny_pyIter_list hl ?_)
  exact wpAny_pure ⟨_,rfl,h⟩
theorem whileE {test : Expr} {body orelse rest : List Stmt} {pos : Pos} {Q : Flow → Shared → Prop} (I : Nat → Shared → Prop) (P : Shared → Prop)
    (turn : ∀ (E' : Value → Shared → Prop) n s, I n s →
      wpAny (model prog w) A (isTrue test env (eval test env)) (fun b s₂ =>
        if b then wpAny (model prog w) A (execs body env) (fun f s₃=>match f with
            | .next | .cont=>∃ m,m<n∧I m s₃
            | .brk=>P s₃
            | .ret v=>Q (.ret v) s₃) E' s₂
        else wpAny (model prog w) A (execs orelse env) (fun f s₃=>match f with | .next=>P s₃ | f=>Q f s₃) E' s₂) E' s)
    (n:Nat) (h:I n s) (hrest:∀ s',P s'→wpAny (model prog w) A (execs rest env) Q E s'):wpAny (model prog w) A (execs (.While test body orelse pos::rest) env) Q E s:=by
  refine wpAny_execs_cons (wpAny_While (codeAny_whileLoop I (fun n s hI=>?_) n h))
  refine wpAny_mono (turn _ n s hI) (fun b s₂ h₂=>?_) fun _ _ e=>e
  cases b with
  | true =>
    rw [if_pos rfl] at h₂ ⊢
    refine wpAny_mono h₂ (fun f s₃ h₃=>?_) fun _ _ e=>e
    cases f with
    | next=>exact h₃
    | cont=>exact h₃
    | brk=>exact hrest _ h₃
    | ret v=>exact h₃
  | false =>
    rw [if_neg (by simp)] at h₂ ⊢
    refine wpAny_mono h₂ (fun f s₃ h₃=>?_) fun _ _ e=>e
    cases f with
    | next=>exact hrest _ h₃
    | cont=>exact h₃
    | brk=>exact h₃
    | ret v=>exact h₃
end
structure Se where
  k:Int
  kt:Tok
  q:Addr
  it:Addr
  j:Nat
  sl:Addr
  vs:List Value
  ss:List Int
  nn:Nat
noncomputable def Se.led (e:Se):List (Addr×Obj):=[(e.q,mw e.it),(e.it,liObj e.sl e.j 0)]
noncomputable def sled (ses:List Se):List (Addr×Obj):=ses.flatMap Se.led
noncomputable def saddr (ses:List Se):List Addr:=ses.flatMap fun e=>[e.q,e.it]
theorem sled_snoc (ses:List Se) (e:Se):sled (ses++[e])=sled ses++[(e.q,mw e.it),(e.it,liObj e.sl e.j 0)]:=by simp [sled,Se.led]
theorem saddr_snoc (ses:List Se) (e:Se):saddr (ses++[e])=saddr ses++[e.q,e.it]:=by simp [saddr]
theorem sled_addr (ses:List Se):(sled ses).map (·.1)=saddr ses:=by simp [sled,saddr,Se.led,List.map_flatMap]
structure Sok (g:Heap) (nds:List Nd) (rk:Int→Nat) (e:Se):Prop where
  lst:g.get? e.sl=some (W.listOf e.vs.toArray e.nn)
  isI:IntsAre e.vs e.ss
  suc:∀ x∈e.ss,x∈nds.map (·.k)∧rk e.k<rk x
  jle:e.j≤e.vs.length
noncomputable def uns (nds:List Nd) (S:Int→Bool):List Nd:=nds.filter fun r=>!S r.k
noncomputable def wt (nds:List Nd) (S:Int→Bool):Nat:=((uns nds S).map fun r=>r.vs.length+2).sum
noncomputable def sw (ses:List Se):Nat:=(ses.map fun e=>e.vs.length - e.j+1).sum
theorem sw_snoc (ses:List Se) (e:Se):sw (ses++[e])=sw ses+(e.vs.length - e.j+1):=by simp [sw]
theorem uns_add {nds:List Nd} {S:Int→Bool} {r:Nd} (hn:(nds.map (·.k)).Nodup) (hr:r∈nds) (hS:S r.k=false) :
    ∃ pre post,uns nds S=pre++r::post∧uns nds (fun k'=>S k' || decide (k'=r.k))=pre++post:=by
  obtain ⟨a,b,rfl⟩:=List.append_of_mem hr
  have key:∀ q∈a++b,q.k≠r.k:=fun q hq e=>by
    simp only [List.map_append,List.map_cons,List.nodup_append,List.nodup_cons] at hn
    rcases List.mem_append.mp hq with z | z
    · exact hn.2.2 _ (List.mem_map_of_mem z) _ (.head _) e
    · exact hn.2.1.1 (by rw [← e]; exact List.mem_map_of_mem z)
  have same:∀ l:List Nd,(∀ q∈l,q.k≠r.k)→uns l (fun k'=>S k' || decide (k'=r.k))=uns l S:=fun l hl=>by
    unfold uns
    refine List.filter_congr fun q hq=>?_
    simp [hl q hq]
  refine ⟨uns a S,uns b S,?_,?_⟩
  · simp [uns,hS]
  · have e1:uns (a++r::b) (fun k'=>S k' || decide (k'=r.k))=uns a (fun k'=>S k' || decide (k'=r.k))++uns b (fun k'=>S k' || decide (k'=r.k)):=by simp [uns]
    rw [e1,same a fun q hq=>key q (List.mem_append_left _ hq),same b fun q hq=>key q (List.mem_append_right _ hq)]
theorem wt_add {nds:List Nd} {S:Int→Bool} {r:Nd} (hn:(nds.map (·.k)).Nodup) (hr:r∈nds) (hS:S r.k=false) :
    wt nds (fun k'=>S k' || decide (k'=r.k))+(r.vs.length+2)=wt nds S∧(uns nds (fun k'=>S k' || decide (k'=r.k))).length+1=(uns nds S).length:=by
  obtain ⟨pre,post,e1,e2⟩:=uns_add hn hr hS
  unfold wt
  rw [e1,e2]
  simp; lia
structure Sep (aS aN aK aI:Addr) (ses:List Se) (ra:List Addr):Prop where
  nd:(aS::aN::aK::aI::saddr ses).Nodup
  ra:∀ a∈aS::aN::aK::aI::saddr ses,a∉ra
noncomputable def dyn4 (aS aN aK aI:Addr) (so od:Obj) (n1 n2:Nat) (ses:List Se):List (Addr×Obj) :=
  (aS,so)::(aN,od)::(aK,W.listOf (ses.map fun e=>Value.int e.k e.kt).toArray n1)::(aI,W.listOf (ses.map fun e=>Value.ref e.q).toArray n2)::sled ses
structure DX (prog:Program) (w:World) (g:Heap) (L:Addr) (nds:List Nd) (rk:Int→Nat) (aS aN aK aI D:Addr) (R frs0:List (Addr×Obj)) (l:List Env) (S:Int→Bool) (ses:List Se) (so od:Obj) (n1 n2 c:Nat) (kvs:List (Int×Value)) (frs:List (Addr×Obj)) (h:Heap) (m:Str→Option Value):Prop where
  F:Fr g L h m
  N:News g L h (dyn4 aS aN aK aI so od n1 n2 ses++(R++frs))
  Fs:Frs l frs
  SU:SameUp frs0 frs
  so_:so.SetObjOf (intKind prog w) S c
  cnt:c+(uns nds S).length=nds.length
  len:ses.length≤c
  od_:od.IsDictOf (intKind prog w) kvs
  kv:kvs.map (·.1)=ses.map (·.k)
  sep:Sep aS aN aK aI ses (R.map (·.1)++frs0.map (·.1))
  inv:∀ e∈ses,Sok g nds rk e∧S e.k=true
  mono:(ses.map fun e=>rk e.k).Pairwise (·<·)
  mn:m "n2i"=some (.ref D)
  mst:m "stack"=some (.ref aK)
  mi:m "itstack"=some (.ref aI)
  ms:m "seen"=some (.ref aS)
  md:m "node2stacki"=some (.ref aN)
theorem sameUp_addr:∀ {a b:List (Addr×Obj)},SameUp a b→b.map (·.1)=a.map (·.1)
  | [],[],_=>rfl
  | p::ps,q::qs,h=>by simp [h.1,sameUp_addr h.2.2]
  | [],_::_,h=>h.elim
  | _::_,[],h=>h.elim
theorem valueAt_none {kvs:List (Int×Value)} {k:Int} (h:k∉kvs.map (·.1)):valueAt kvs k=none:=by
  unfold valueAt
  rw [Option.map_eq_none_iff,List.find?_eq_none]
  intro p hp e
  exact h (by rw [show k=p.1 from by simpa [eq_comm] using e]; exact List.mem_map_of_mem hp)
theorem valueAt_some {kvs:List (Int×Value)} {k:Int} (h:k∈kvs.map (·.1)):(valueAt kvs k).isSome=true:=by
  unfold valueAt
  rw [Option.isSome_map,List.find?_isSome]
  obtain ⟨p,hp,e⟩:=List.mem_map.mp h
  exact ⟨p,hp,by simp [e]⟩
theorem stored_new {kvs:List (Int×Value)} {k:Int} {v:Value} (h:k∉kvs.map (·.1)):stored kvs k v=kvs++[(k,v)]:=by
  unfold stored
  rw [if_neg]
  intro q
  obtain ⟨e,he,q⟩:=List.any_eq_true.mp q
  exact h (by rw [show k=e.1 from by simpa [eq_comm] using q]; exact List.mem_map_of_mem he)
theorem without_last {kvs:List (Int×Value)} {ks:List Int} {k:Int} (h:kvs.map (·.1)=ks++[k]) (hn:k∉ks):(without kvs k).map (·.1)=ks:=by
  unfold without
  have:(kvs.filter fun kv=>decide (kv.1≠k)).map (·.1)=(kvs.map (·.1)).filter fun x=>decide (x≠k):=by rw [List.filter_map]; rfl
  rw [this,h,List.filter_append]
  have e1:ks.filter (fun x=>decide (x≠k))=ks:=List.filter_eq_self.mpr fun x hx=>by simpa using fun (e:x=k)=>hn (e ▸ hx)
  rw [e1]; simp
end
section
open PyProof.Rows.TI (Frs SameUp)
theorem Sep.d {aS aN aK aI:Addr} {ses:List Se} {ra:List Addr} (p:Sep aS aN aK aI ses ra):(aS≠aN∧aS≠aK∧aS≠aI)∧(aN≠aK∧aN≠aI)∧aK≠aI:=by
  have:=p.nd
  simp only [List.nodup_cons,List.mem_cons,not_or] at this
  exact ⟨⟨this.1.1,this.1.2.1,this.1.2.2.1⟩,⟨this.2.1.1,this.2.1.2.1⟩,this.2.2.1.1⟩
theorem Sep.t {aS aN aK aI:Addr} {ses:List Se} {R frs frs0:List (Addr×Obj)} (p:Sep aS aN aK aI ses (R.map (·.1)++frs0.map (·.1))) (SU:SameUp frs0 frs) {a:Addr} (ha:a∈[aS,aN,aK,aI]):∀ q∈sled ses++(R++frs),q.1≠a:=fun q hq e=>by
  have ha':a∈aS::aN::aK::aI::saddr ses:=by
    have:aS::aN::aK::aI::saddr ses=[aS,aN,aK,aI]++saddr ses:=rfl
    rw [this]; exact List.mem_append_left _ ha
  rcases List.mem_append.mp hq with z | z
  · have hs:a∈saddr ses:=by rw [← sled_addr,← e]; exact List.mem_map_of_mem z
    have:=p.nd
    have e4:aS::aN::aK::aI::saddr ses=[aS,aN,aK,aI]++saddr ses:=rfl
    rw [e4,List.nodup_append] at this
    exact this.2.2 a ha a hs rfl
  · refine p.ra a ha' ?_
    rw [← sameUp_addr SU,← List.map_append,← e]
    exact List.mem_map_of_mem z
section
variable {aS aN aK aI:Addr} {so od oK oI:Obj} {Y:List (Addr×Obj)}
structure D4 (aS aN aK aI:Addr) (Y:List (Addr×Obj)):Prop where
  d:(aS≠aN∧aS≠aK∧aS≠aI)∧(aN≠aK∧aN≠aI)∧aK≠aI
  y:∀ a∈[aS,aN,aK,aI],∀ q∈Y,q.1≠a
theorem D4.uS (p:D4 aS aN aK aI Y):UpdF aS so ((aS,so)::(aN,od)::(aK,oK)::(aI,oI)::Y) (fun o=>(aS,o)::(aN,od)::(aK,oK)::(aI,oI)::Y):=.head fun q hq=>by
  rcases List.mem_cons.mp hq with rfl | hq
  · exact p.d.1.1.symm
  rcases List.mem_cons.mp hq with rfl | hq
  · exact p.d.1.2.1.symm
  rcases List.mem_cons.mp hq with rfl | hq
  · exact p.d.1.2.2.symm
  exact p.y aS (.head _) q hq
theorem D4.uN (p:D4 aS aN aK aI Y):UpdF aN od ((aS,so)::(aN,od)::(aK,oK)::(aI,oI)::Y) (fun o=>(aS,so)::(aN,o)::(aK,oK)::(aI,oI)::Y):=.tail p.d.1.1<|.head fun q hq=>by
  rcases List.mem_cons.mp hq with rfl | hq
  · exact p.d.2.1.1.symm
  rcases List.mem_cons.mp hq with rfl | hq
  · exact p.d.2.1.2.symm
  exact p.y aN (.tail _ (.head _)) q hq
theorem D4.uK (p:D4 aS aN aK aI Y) {o':Obj}:Upd aK oK o' ((aS,so)::(aN,od)::(aK,oK)::(aI,oI)::Y) ((aS,so)::(aN,od)::(aK,o')::(aI,oI)::Y):=.tail p.d.1.2.1<|.tail p.d.2.1.1<|.head fun q hq=>by
  rcases List.mem_cons.mp hq with rfl | hq
  · exact p.d.2.2.symm
  exact p.y aK (.tail _ (.tail _ (.head _))) q hq
theorem D4.uI (p:D4 aS aN aK aI Y) {o':Obj}:Upd aI oI o' ((aS,so)::(aN,od)::(aK,oK)::(aI,oI)::Y) ((aS,so)::(aN,od)::(aK,oK)::(aI,o')::Y):=.tail p.d.1.2.2<|.tail p.d.2.1.2<|.tail p.d.2.2<|.head (p.y aI (.tail _ (.tail _ (.tail _ (.head _)))))
theorem Sep.d4 {ses:List Se} {R frs frs0:List (Addr×Obj)} (p:Sep aS aN aK aI ses (R.map (·.1)++frs0.map (·.1))) (SU:SameUp frs0 frs):D4 aS aN aK aI (sled ses++(R++frs)):=⟨p.d,fun _ ha=>p.t SU ha⟩
end
section
variable {prog:Program} {w:World} {A:Around} {E:Value→Shared→Prop} {s:Shared} {O dx D:Addr} {n:Nat} {t1 t2 t3 t4:Tok} {vb vc vd:Value} {nds:List Nd} {rk:Int→Nat} {l:List Env} {frs0:List (Addr×Obj)}
end
noncomputable section
namespace Zcycle
abbrev D0:=(((((Program)×(World))×((Around)×(Shared)))×(((Around)×(Addr))×(Addr)))×((((Addr)×(Nat))×(Tok))×(((Tok)×(Tok))×(Tok))))×(((((Value)×(Value))×(Value))×(((List Nd)×(Int→Nat))×(List Env)))×((((List (Addr×Obj))×(Addr))×(Heap))×(((Nat)×(Flow→Shared→Prop))×(Value→Shared→Prop))))
abbrev P0 (prog:Program) (w:World) (A:Around) (s:Shared) (A₁:Around) (O dx D:Addr) (n:Nat) (t1 t2 t3 t4:Tok) (vb vc vd:Value) (nds:List Nd) (rk:Int→Nat) (l:List Env) (frs0:List (Addr×Obj)) (L:Addr) (h₀:Heap) (tk₀:Nat) (R₁:Flow→Shared→Prop) (E₁:Value→Shared→Prop):Prop:=∀ (rm:Room A 2) (hfr:A.frames=some l) (Fs:Frs l frs0) (hW:∀ p∈frs0,s.heap.get? p.1=some p.2) (T:Wd w (hideAll s.heap (frs0.map (·.1)))) (gO:(hideAll s.heap (frs0.map (·.1))).get? O=some (instObj 196 dx)) (gdx:(hideAll s.heap (frs0.map (·.1))).get? dx=some (dictOf (sd w t1 t2 t3 t4 (.ref D) vb vc vd) n)) (gD:(hideAll s.heap (frs0.map (·.1))).DictOf (intKind prog w) D (kvsOf nds)) (lo:(D==sysModules)=false) (ok:Nok nds) (gN:∀ p∈led nds,(hideAll s.heap (frs0.map (·.1))).get? p.1=some p.2) (hz:nds.length≤500) (hrk:∀ r∈nds,∀ x∈r.ss,x∈nds.map (·.k)∧rk r.k<rk x) (h:∀ h' tk' frs',Ext (frs0.map (·.1)) s.heap h'→SameUp frs0 frs'→(∀ p∈frs',h'.get? p.1=some p.2)→R₁ (.ret .none) (up s h' tk')) (hL:L=s.heap.objs.size) (F:Fr (hideAll s.heap ((frs0:List (Addr×Obj)).map (·.1))) L h₀ (fun y9=>([(("self":Str),.ref O)]:List (Str×Value)).reverse.lookup y9)) (N:News (hideAll s.heap ((frs0:List (Addr×Obj)).map (·.1))) L h₀ (frs0)) (dA:Deeper A A₁ (callEnv (fd186 w) L 186)),wpAny (model prog w) A₁ (execs (stm (fd186 w)) (callEnv (fd186 w) L 186)) R₁ E₁ (up s h₀ tk₀)
abbrev P1 (d:D0):=P0 d.1.1.1.1.1 d.1.1.1.1.2 d.1.1.1.2.1 d.1.1.1.2.2 d.1.1.2.1.1 d.1.1.2.1.2 d.1.1.2.2 d.1.2.1.1.1 d.1.2.1.1.2 d.1.2.1.2 d.1.2.2.1.1 d.1.2.2.1.2 d.1.2.2.2 d.2.1.1.1.1 d.2.1.1.1.2 d.2.1.1.2 d.2.1.2.1.1 d.2.1.2.1.2 d.2.1.2.2 d.2.2.1.1.1 d.2.2.1.1.2 d.2.2.1.2 d.2.2.2.1.1 d.2.2.2.1.2 d.2.2.2.2
theorem ne0:Nonempty D0:=⟨(((((Challenge.pw_ny0293_01,Classical.choice neW),(callerA,Classical.choice neS)),((callerA,default),default)),default),default)⟩
@[irreducible] def d0:D0:=@Classical.epsilon D0 ne0 fun d=>¬ P1 d
def prog:=d0.1.1.1.1.1
def w:=d0.1.1.1.1.2
def A:=d0.1.1.1.2.1
def s:=d0.1.1.1.2.2
def A₁:=d0.1.1.2.1.1
def O:=d0.1.1.2.1.2
def dx:=d0.1.1.2.2
def D:=d0.1.2.1.1.1
def n:=d0.1.2.1.1.2
def t1:=d0.1.2.1.2
def t2:=d0.1.2.2.1.1
def t3:=d0.1.2.2.1.2
def t4:=d0.1.2.2.2
def vb:=d0.2.1.1.1.1
def vc:=d0.2.1.1.1.2
def vd:=d0.2.1.1.2
def nds:=d0.2.1.2.1.1
def rk:=d0.2.1.2.1.2
def l:=d0.2.1.2.2
def frs0:=d0.2.2.1.1.1
def L:=d0.2.2.1.1.2
def h₀:=d0.2.2.1.2
def tk₀:=d0.2.2.2.1.1
def R₁:=d0.2.2.2.1.2
def E₁:=d0.2.2.2.2
theorem bd0:P0 prog w A s A₁ O dx D n t1 t2 t3 t4 vb vc vd nds rk l frs0 L h₀ tk₀ R₁ E₁:=by
  intro rm hfr Fs hW T gO gdx gD lo ok gN hz hrk h hL F N dA
  refine with_stm (P:=fun b=>wpAny (model prog w) A₁ (execs b (callEnv (fd186 w) L 186)) R₁ E₁ (up s h₀ tk₀)) rfl ?_
  show wpAny _ _ (execs (_::_) _) _ _ _
  have rm':=dA.room rm
  generalize hg:hideAll s.heap (frs0.map (·.1))=g at F N T gO gdx gD gN
  refine wpAny_execs_cons<|wpAny_Assign_Name<|Attribute_name<|ld F rfl<|getS T F (F.keep _ _ gO) (F.keep _ _ gdx) sd_n2i fun _=>st (s:=tkd (up s _ _) _) F N fun h1 tk1 F1 N1=>?_
  refine wpAny_execs_cons<|wpAny_Assign_Name<|List_<|spliced_none<|newLst (s:=up s _ _) F1 N1 fun aK h2 F2 N2 lt2=>st (s:=up s _ _) F2 N2 fun h3 tk3 F3 N3=>?_
  refine wpAny_execs_cons<|wpAny_Assign_Name<|List_<|spliced_none<|newLst (s:=up s _ _) F3 N3 fun aI h4 F4 N4 lt4=>st (s:=up s _ _) F4 N4 fun h5 tk5 F5 N5=>?_
  refine wpAny_execs_cons<|wpAny_Assign_Name<|Call_<|ldb (s:=up s _ _) T F5 (by kernel_rfl) (by kernel_rfl)<|PyProof.Rows.callWith_type0<|kse_new (s:=up s _ _) F5 N5 fun aS h6 led6 F6 N6 lt6 so6 _=>st (s:=up s _ _) F6 N6 fun h7 tk7 F7 N7=>?_
  refine wpAny_execs_cons<|wpAny_Assign_Name<|newDict_K (s:=up s _ _) F7 N7 T.lim fun aN h8 od8 F8 N8 lt8 lo8 _ _ hod8 _=>st (s:=up s _ _) F8 N8 fun h9 tk9 F9 N9=>?_
  have hnd4:[aS,aN,aK,aI].Nodup:=by
    have q1:=lt4 (aK,_) (.head _)
    have q2:=lt6 (aI,_) (.head _)
    have q3:=lt6 (aK,_) (.tail _ (.head _))
    have q4:=lt8 (aS,_) (.head _)
    have q5:=lt8 (aI,_) (.tail _ (.head _))
    have q6:=lt8 (aK,_) (.tail _ (.tail _ (.head _)))
    simp only at q1 q2 q3 q4 q5 q6
    simp only [List.nodup_cons,List.mem_cons,List.not_mem_nil,or_false,not_or,not_false_eq_true,List.nodup_nil,and_true,ne_eq]
    refine ⟨⟨?_,?_,?_⟩,⟨?_,?_⟩,?_⟩ <;> (intro e; subst e; first | exact absurd q1 (Nat.lt_irrefl _) | exact absurd q2 (Nat.lt_irrefl _) | exact absurd q3 (Nat.lt_irrefl _) | exact absurd q4 (Nat.lt_irrefl _) | exact absurd q5 (Nat.lt_irrefl _) | exact absurd q6 (Nat.lt_irrefl _))
  have hfa:∀ a∈[aS,aN,aK,aI],a∉frs0.map (·.1):=fun a ha hm=>by
    obtain ⟨p,hp,e⟩:=List.mem_map.mp hm
    have q1:=lt2 p hp
    have q2:=lt4 p (.tail _ hp)
    have q3:=lt6 p (.tail _ (.tail _ hp))
    have q4:=lt8 p (.tail _ (.tail _ (.tail _ hp)))
    simp only [List.mem_cons,List.not_mem_nil,or_false] at ha
    rcases ha with rfl | rfl | rfl | rfl
    · rw [e] at q3; exact absurd q3 (Nat.lt_irrefl _)
    · rw [e] at q4; exact absurd q4 (Nat.lt_irrefl _)
    · rw [e] at q1; exact absurd q1 (Nat.lt_irrefl _)
    · rw [e] at q2; exact absurd q2 (Nat.lt_irrefl _)
  obtain ⟨ep,gDa⟩:=gD.dictAt
  have hDL:D≠L:=by
    obtain ⟨o,_,ho,_⟩:=gDa
    exact Nat.ne_of_lt (Nat.lt_of_lt_of_le (Heap.lt_size ho) F.above)
  have gDn:∀ p:Addr×Obj,g.get? p.1=none→p.1≠D:=fun p hp e=>by
    obtain ⟨o,_,ho,_⟩:=gDa
    rw [e,ho] at hp; cases hp
  refine wpAny_execs_cons<|wpAny_For<|ld (s:=up s _ _) F9 rfl<|wpAny_pyIter_dict (s:=up s _ _) lo (gDa.at' fun o e=>F9.keep _ _ e) ?_
  have N9':News g L h9 (dyn4 aS aN aK aI _ od8 0 0 []++frs0):=news_sub N9 fun p hp=>by
    simp only [dyn4,sled,List.flatMap_nil,List.map_nil,List.cons_append,List.nil_append] at hp
    rcases List.mem_cons.mp hp with rfl | hp
    · exact .tail _ (.head _)
    rcases List.mem_cons.mp hp with rfl | hp
    · exact .head _
    rcases List.mem_cons.mp hp with rfl | hp
    · exact .tail _ (.tail _ (.tail _ (.head _)))
    rcases List.mem_cons.mp hp with rfl | hp
    · exact .tail _ (.tail _ (.head _))
    · exact .tail _ (.tail _ (.tail _ (.tail _ hp)))
  have F10:=F9.push { cls:=.type "dict_keyiterator",data:=.fields #[.ref D,.int 0 0,.int (kvsOf nds).length 0,.int ep 0] }
  have N10':=(grow F9 N9' (h':=h9.push { cls:=.type "dict_keyiterator",data:=.fields #[.ref D,.int 0 0,.int (kvsOf nds).length 0,.int ep 0] }) fun b o e=>Heap.get?_push_of_some _ e).2
  have hDI:D≠h9.objs.size:=by
    obtain ⟨o,_,ho,_⟩:=gDa
    exact Nat.ne_of_lt (Heap.lt_size (F9.keep _ _ ho))
  let Jv0:Nat→(Str→Option Value)→List (Addr×Obj)→Prop:=fun i m news=>Ex7 fun S so od n1 n2 c frs=>And8 (news=dyn4 aS aN aK aI so od n1 n2 []++frs) (Frs l frs) (SameUp frs0 frs) (so.SetObjOf (intKind prog w) S c) (c+(uns nds S).length=nds.length) (od.IsDictOf (intKind prog w) []) (m "n2i"=some (.ref D)) (And4 (m "stack"=some (.ref aK)) (m "itstack"=some (.ref aI)) (m "seen"=some (.ref aS)) (m "node2stacki"=some (.ref aN)))
  refine forWX (s:=up s (h9.push { cls:=.type "dict_keyiterator",data:=.fields #[.ref D,.int 0 0,.int (kvsOf nds).length 0,.int ep 0] }) tk9) (Walks.dictKeys (knd:=intKind prog w) rm'.handled h9.objs.size D hDI (kvsOf nds) ep)
    (by simp [Nat.ne_of_lt F9.ns.lt,hDL.symm]) (fun b hb=>by rw [List.mem_singleton] at hb; subst hb; exact size_none (s:=up s h9 tk9) F9) (fun p hp q=>?_)
    ⟨⟨_,Heap.get?_push_size _ rfl,rfl,rfl⟩,gDa.at' fun o e=>F10.keep _ _ e⟩ F10 N10'
    Jv0
    ⟨fun _=>false,_,od8,0,0,0,frs0,rfl,Fs,PyProof.Rows.TI.SameUp.refl _,so6,by simp [uns],hod8,rfl,rfl,rfl,rfl,rfl⟩ ?_ ?_
  · rw [List.mem_singleton] at q
    have:=Heap.lt_size (N9' p hp).1
    rw [q] at this; exact absurd this (Nat.lt_irrefl _)
  · intro E' i v m₁ news₁ h₁ tk₁ own hi hP hJ hw ho hst F₁ N₁
    obtain ⟨S,so,od,n1,n2,c,frs,rfl,Fs₁,SU₁,hso,hcnt,hod,mn,mst,mi,ms,md⟩:=hJ
    obtain ⟨k,x,hkv,hkey⟩:=hP
    obtain ⟨t,rfl⟩:=intKind_shape hkey
    have hk:k∈nds.map (·.k):=by
      obtain ⟨r,hr,e⟩:=List.mem_map.mp (List.mem_of_getElem? hkv)
      exact List.mem_map.mpr ⟨r,hr,congrArg Prod.fst e⟩
    have sep0:Sep aS aN aK aI [] (own.map (·.1)++frs0.map (·.1)):=⟨hnd4,fun a ha hm=>by
      rcases List.mem_append.mp hm with z | z
      · obtain ⟨p,hp,e⟩:=List.mem_map.mp z
        have hpI:p.1=h9.objs.size:=by
          rcases List.mem_cons.mp (ho p hp) with y | y
          · exact y
          · exact absurd (List.mem_singleton.mp y) (gDn p (N₁ p (List.mem_append_right _ hp)).2.2)
        have:∃ o,(a,o)∈dyn4 aS aN aK aI so od n1 n2 []:=by
          simp only [saddr,List.flatMap_nil,List.mem_cons,List.not_mem_nil,or_false] at ha
          rcases ha with rfl | rfl | rfl | rfl
          · exact ⟨_,.head _⟩
          · exact ⟨_,.tail _ (.head _)⟩
          · exact ⟨_,.tail _ (.tail _ (.head _))⟩
          · exact ⟨_,.tail _ (.tail _ (.tail _ (.head _)))⟩
        obtain ⟨o,ho'⟩:=this
        exact hw (a,o) (List.mem_append_left _ ho') (by show a∈_; rw [← e,hpI]; exact .head _)
      · exact hfa a (by simpa [saddr] using ha) z⟩
    have D0:DX prog w g L nds rk aS aN aK aI D own frs0 l S [] so od n1 n2 c [] frs h₁ (fun y=>if y="node" then some (.int k t) else m₁ y) :=
      ⟨F₁,news_sub N₁ fun p hp=>by
        rcases List.mem_append.mp hp with q | q
        · exact List.mem_append_left _ (List.mem_append_left _ q)
        · rcases List.mem_append.mp q with q | q
          · exact List.mem_append_right _ q
          · exact List.mem_append_left _ (List.mem_append_right _ q),Fs₁,SU₁,hso,hcnt,Nat.zero_le _,hod,rfl,sep0,fun _ h=>(nomatch h),.nil,mn,mst,mi,ms,md⟩
    have fin:∀ {S so od n1 n2 c kvs frs h' m'} {tk':Nat},DX prog w g L nds rk aS aN aK aI D own frs0 l S [] so od n1 n2 c kvs frs h' m' →
        (Ex4 fun h'' tk'' m'' news''=>And5 (up s h' tk'=up (up s (h9.push { cls:=.type "dict_keyiterator",data:=.fields #[.ref D,.int 0 0,.int (kvsOf nds).length 0,.int ep 0] }) tk9) h'' tk'') (Fr g L h'' m'') (News g L h'' (news''++own)) ((∀ p∈news'',p.1∉[h9.objs.size])) (Jv0 (i+1) m'' news'')):=by
      intro S' so' od' n1' n2' c' kvs' frs' h' m' tk' d
      have hkv0:kvs'=[]:=List.map_eq_nil_iff.mp d.kv
      subst hkv0
      refine ⟨h',tk',m',dyn4 aS aN aK aI so' od' n1' n2' []++frs',rfl,d.F,news_sub d.N (fun p hp=>?_),fun p hp q=>?_,S',so',od',n1',n2',c',frs',rfl,d.Fs,d.SU,d.so_,d.cnt,d.od_,d.mn,d.mst,d.mi,d.ms,d.md⟩
      · rcases List.mem_append.mp hp with q | q
        · rcases List.mem_append.mp q with q | q
          · exact List.mem_append_left _ q
          · exact List.mem_append_right _ (List.mem_append_right _ q)
        · exact List.mem_append_right _ (List.mem_append_left _ q)
      · have hpa:p.1∈(dyn4 aS aN aK aI so od n1 n2 []++frs).map (·.1):=by
          rcases List.mem_append.mp hp with z | z
          · have:(dyn4 aS aN aK aI so od n1 n2 []++frs).map (·.1)=(dyn4 aS aN aK aI so' od' n1' n2' []).map (·.1)++frs.map (·.1):=by simp [dyn4,sled]
            rw [this]; exact List.mem_append_left _ (List.mem_map_of_mem z)
          · rw [List.map_append,sameUp_addr SU₁,← sameUp_addr d.SU]
            exact List.mem_append_right _ (List.mem_map_of_mem z)
        obtain ⟨p',hp',e⟩:=List.mem_map.mp hpa
        exact hw p' hp' (by rw [e]; exact q)
    refine wpAny_execs_cons<|wpAny_If<|wpAny_isTrue_Compare1<|ld (s:=up s _ _) F₁ rfl<|ld (s:=up s _ _) F₁ ms<|kse_in (knd:=intKind prog w) (s:=up s _ _) D0.N (D0.sep.d4 SU₁).uS hso (by unfold scanBound; lia) (intKind_is _ _ _ _) rfl<|wpAny_truthy_bool ?_
    cases hS:S k with
    | true =>
      first | refine ifT rfl ?_ | rw [if_pos rfl]
      exact wpAny_execs_cons<|cont_ (fin D0)
    | false =>
      first | refine ifF (by simp) ?_ | rw [if_neg (by simp)]
      refine wpAny_execs_nil ?_
      let Jv1:Nat→Shared→Prop:=fun z s'=>Ex8 fun h tk m S ses so od n1=>Ex6 fun n2 c kvs frs x t=>And6 (s'=up s h tk) (DX prog w g L nds rk aS aN aK aI D own frs0 l S ses so od n1 n2 c kvs frs h m) (m "node"=some (.int x t)) (x∈nds.map (·.k)) ((∀ e∈ses,rk e.k<rk x)) (z=wt nds S+sw ses)
      let Jv2:Shared→Prop:=fun s'=>Ex8 fun h tk m S so od n1 n2=>Ex3 fun c kvs frs=>s'=up s h tk∧DX prog w g L nds rk aS aN aK aI D own frs0 l S [] so od n1 n2 c kvs frs h m
      refine whileN Jv1
        Jv2
        (fun E2=>?_) _ ⟨h₁,_,_,S,[],so,od,n1,n2,c,[],frs,k,t,rfl,D0,rfl,hk,fun _ h=>(nomatch h),rfl⟩ ?_
      rotate_left
      · rintro s' ⟨h',tk,m,S',so',od',n1',n2',c',kvs',frs',rfl,d⟩
        exact wpAny_execs_nil (fin d)
      rintro z s' ⟨h',tk,m,S',ses,so',od',n1',n2',c',kvs',frs',x,tx,rfl,d,mx,hx,hrx,hz'⟩
      refine wpAny_isTrue_value<|wpAny_Constant_bool<|wpAny_truthy_bool ?_
      first | refine ifT rfl ?_ | rw [if_pos rfl]
      have hxk:x∉ses.map (·.k):=fun q=>by
        obtain ⟨e,he,e1⟩:=List.mem_map.mp q
        have:=hrx e he; rw [e1] at this; exact absurd this (Nat.lt_irrefl _)
      have hcl:=d.cnt
      have hsl:=d.len
      have d4:=d.sep.d4 d.SU
      have Nd:News g L h' ((aS,so')::(aN,od')::(aK,W.listOf (ses.map fun e=>Value.int e.k e.kt).toArray n1')::(aI,W.listOf (ses.map fun e=>Value.ref e.q).toArray n2')::(sled ses++(own++frs'))):=d.N
      let Jv3:Shared→Prop:=fun s'=>Ex8 fun h tk m S ses so od n1=>Ex4 fun n2 c kvs frs=>And3 (s'=up s h tk) (DX prog w g L nds rk aS aN aK aI D own frs0 l S ses so od n1 n2 c kvs frs h m) (wt nds S+sw ses≤z)
      refine cutS Jv3 ?_ ?_
      · refine wpAny_If<|wpAny_isTrue_Compare1<|ld (s:=up s _ _) d.F mx<|ld (s:=up s _ _) d.F d.ms<|kse_in (knd:=intKind prog w) (s:=up s _ _) Nd d4.uS d.so_ (by unfold scanBound; lia) (intKind_is _ _ _ _) rfl<|wpAny_truthy_bool ?_
        cases hSx:S' x with
        | true =>
          first | refine ifT rfl ?_ | rw [if_pos rfl]
          refine wpAny_execs_cons<|wpAny_If<|wpAny_isTrue_Compare1<|ld (s:=tkd (up s _ _) _) d.F mx<|ld (s:=tkd (up s _ _) _) d.F d.md<|dIn (s:=tkd (up s _ _) _) (kvs:=kvs') (tab_of (s:=tkd (up s _ _) _) (Nd _ (.tail _ (.head _))).1 d.od_ lo8) fun _=>wpAny_truthy_bool ?_
          rw [valueAt_none (by rw [d.kv]; exact hxk)]
          first | refine ifF (by simp) ?_ | rw [if_neg (by simp)]
          exact wpAny_execs_nil<|wpAny_execs_nil ⟨rfl,h',_,m,S',ses,so',od',n1',n2',c',kvs',frs',rfl,d,by lia⟩
        | false =>
          first | refine ifF (by simp) ?_ | rw [if_neg (by simp)]
          obtain ⟨r,hr,rfl⟩:=List.mem_map.mp hx
          have hrl:∀ p∈r.led,g.get? p.1=some p.2:=fun p hp=>gN p (mem_led hr hp)
          refine wpAny_execs_cons<|wpAny_Expr<|methodCall_KW<|ld (s:=tkd (up s _ _) _) d.F d.ms<|kse_method (knd:=intKind prog w) (s:=tkd (up s _ _) _) Nd d4.uS d.so_ (by unfold scanBound; lia)<|callWith_method1<|spliced_more<|ld (s:=tkd (up s _ _) _) d.F mx<|spliced_none <|
            kse_add (knd:=intKind prog w) (s:=tkd (up s _ _) _) d.F Nd d4.uS d.so_ (by unfold scanBound; lia) (intKind_is _ _ _ _) rfl fun h2 so2 F2 N2 hso2=>?_
          rw [hSx,if_neg (by simp)] at hso2
          have kli:=F2.keep _ _ (hrl _ (.tail _ (.tail _ (.head _))))
          refine wpAny_execs_cons<|wpAny_Expr<|methodCall_KW<|ld (s:=up s _ _) F2 d.mi<|kl_method (s:=up s _ _) N2 (.tail _ (.tail _ (.tail _ (.head _)))) slot_list_append type_list_append<|callWith_method1<|spliced_more<|Attribute_any_<|callb (id:="iter") (s:=up s _ _) T F2 (by kernel_rfl)<|spliced_more <|
            Attribute_any_<|Subscript_<|ld (s:=up s _ _) F2 d.mn<|ld (s:=up s _ _) F2 mx<|dItem (s:=up s _ _) (kvs:=kvsOf nds) ⟨gD.keep F2.keep,lo⟩ (value_mem ok.keys hr) fun _=>getSuc (s:=tkd (up s _ _) _) T F2 (F2.keep _ _ (hrl _ (.head _))) (F2.keep _ _ (hrl _ (.tail _ (.head _)))) rfl fun _=>spliced_none <|
            iterB (s:=tkd (up s _ _) _) ⟨_,kli,rfl,_,rfl⟩<|getNext (s:=up s _ _) (it:=h2.objs.size) (l:=r.sl) (i:=0) (t:=0) (Heap.get?_push_size _ rfl) fun _=>spliced_none ?_
          have F3:=(F2.push (liObj r.sl 0 0)).push (mw h2.objs.size)
          have N3:=News.push (F2.push (liObj r.sl 0 0)) (News.push F2 N2 (liObj r.sl 0 0)) (mw h2.objs.size)
          have ltI:∀ p∈(aS,so2)::(aN,od')::(aK,W.listOf (ses.map fun e=>Value.int e.k e.kt).toArray n1')::(aI,W.listOf (ses.map fun e=>Value.ref e.q).toArray n2')::(sled ses++(own++frs')),p.1<h2.objs.size:=fun p hp=>Heap.lt_size (N2 p hp).1
          have esz:(h2.push (liObj r.sl 0 0)).objs.size=h2.objs.size+1:=Heap.size_push ..
          generalize hit:h2.objs.size=it at F3 N3 ltI esz ⊢
          generalize hq:(h2.push (liObj r.sl 0 0)).objs.size=qq at F3 N3 esz ⊢
          have ltA:∀ a∈aS::aN::aK::aI::saddr ses,a<it:=fun a ha=>by
            have:∃ p∈(aS,so2)::(aN,od')::(aK,W.listOf (ses.map fun e=>Value.int e.k e.kt).toArray n1')::(aI,W.listOf (ses.map fun e=>Value.ref e.q).toArray n2')::(sled ses++(own++frs')),p.1=a:=by
              rw [← sled_addr] at ha
              rcases List.mem_cons.mp ha with rfl | ha
              · exact ⟨_,.head _,rfl⟩
              rcases List.mem_cons.mp ha with rfl | ha
              · exact ⟨_,.tail _ (.head _),rfl⟩
              rcases List.mem_cons.mp ha with rfl | ha
              · exact ⟨_,.tail _ (.tail _ (.head _)),rfl⟩
              rcases List.mem_cons.mp ha with rfl | ha
              · exact ⟨_,.tail _ (.tail _ (.tail _ (.head _))),rfl⟩
              obtain ⟨p,hp,e⟩:=List.mem_map.mp ha
              exact ⟨p,.tail _ (.tail _ (.tail _ (.tail _ (List.mem_append_left _ hp)))),e⟩
            obtain ⟨p,hp,e⟩:=this
            rw [← e]; exact ltI p hp
          have ltR:∀ a∈own.map (·.1)++frs0.map (·.1),a<it:=fun a ha=>by
            rw [← sameUp_addr d.SU,← List.map_append] at ha
            obtain ⟨p,hp,e⟩:=List.mem_map.mp ha
            rw [← e]; exact ltI p (.tail _ (.tail _ (.tail _ (.tail _ (List.mem_append_right _ hp)))))
          have ltq:it<qq:=by rw [esz]; exact Nat.lt_succ_self _
          have iI:it≠aI∧qq≠aI:=let z:=ltA aI (.tail _ (.tail _ (.tail _ (.head _)))); ⟨Nat.ne_of_gt z,Nat.ne_of_gt (Nat.lt_trans z ltq)⟩
          have iN:it≠aN∧qq≠aN:=let z:=ltA aN (.tail _ (.head _)); ⟨Nat.ne_of_gt z,Nat.ne_of_gt (Nat.lt_trans z ltq)⟩
          have iK:it≠aK∧qq≠aK:=let z:=ltA aK (.tail _ (.tail _ (.head _))); ⟨Nat.ne_of_gt z,Nat.ne_of_gt (Nat.lt_trans z ltq)⟩
          refine appendL (s:=up s _ _) F3 N3 (.tail iI.2 (.tail iI.1 d4.uI)) (by rw [List.length_map]; lia) fun h4 F4 N4=>?_
          refine wpAny_execs_cons<|wpAny_Assign_Subscript<|callb (id:="len") (s:=up s _ _) T F4 (by kernel_rfl)<|spliced_more<|ld (s:=up s _ _) F4 d.mst<|spliced_none<|len_L (s:=up s _ _) N4 (.tail _ (.tail _ (.tail _ (.tail _ (.head _))))) (by rw [List.length_map]; lia) fun _ _=>ld (s:=tkd (up s _ _) _) F4 d.md<|ld (s:=tkd (up s _ _) _) F4 mx <|
            dSet (s:=tkd (up s _ _) _) F4 N4 (.tail iN.2 (.tail iN.1 d4.uN)) d.od_ (by have:=congrArg List.length d.kv; simp at this; lia) fun h5 tk5 od5 F5 N5 hod5=>?_
          refine wpAny_execs_cons<|wpAny_Expr<|methodCall_KW<|ld (s:=up s _ _) F5 d.mst<|kl_method (s:=up s _ _) N5 (.tail _ (.tail _ (.tail _ (.tail _ (.head _))))) slot_list_append type_list_append<|callWith_method1<|spliced_more<|ld (s:=up s _ _) F5 mx<|spliced_none <|
            appendL (s:=up s _ _) F5 N5 (.tail iK.2 (.tail iK.1 d4.uK)) (by rw [List.length_map]; lia) fun h6 F6 N6=>?_
          rw [stored_new (by rw [d.kv]; exact hxk)] at hod5
          have wa:=wt_add ok.keys hr hSx
          refine wpAny_execs_nil ⟨rfl,h6,_,m,_,ses++[⟨r.k,tx,qq,it,0,r.sl,r.vs,r.ss,r.n⟩],so2,od5,n1'+1,n2'+1,c'+1,_,frs',rfl,⟨F6,news_sub N6 fun p hp=>?_,d.Fs,d.SU,hso2,by lia,by simp; lia,hod5,by simp [d.kv],⟨?_,?_⟩,fun e he=>?_,?_,d.mn,d.mst,d.mi,d.ms,d.md⟩,by rw [sw_snoc]; show _+(_+(r.vs.length - 0+1))≤z; lia⟩
          · unfold dyn4 at hp
            rw [sled_snoc] at hp
            simp only [List.map_append,List.map_cons,List.map_nil,List.cons_append,List.append_assoc,List.nil_append] at hp
            rcases List.mem_cons.mp hp with rfl | hp
            · exact .tail _ (.tail _ (.head _))
            rcases List.mem_cons.mp hp with rfl | hp
            · exact .tail _ (.tail _ (.tail _ (.head _)))
            rcases List.mem_cons.mp hp with rfl | hp
            · exact .tail _ (.tail _ (.tail _ (.tail _ (.head _))))
            rcases List.mem_cons.mp hp with rfl | hp
            · exact .tail _ (.tail _ (.tail _ (.tail _ (.tail _ (.head _)))))
            rcases List.mem_append.mp hp with hp | hp
            · exact .tail _ (.tail _ (.tail _ (.tail _ (.tail _ (.tail _ (List.mem_append_left _ hp))))))
            rcases List.mem_cons.mp hp with rfl | hp
            · exact .head _
            rcases List.mem_cons.mp hp with rfl | hp
            · exact .tail _ (.head _)
            · exact .tail _ (.tail _ (.tail _ (.tail _ (.tail _ (.tail _ (List.mem_append_right _ hp))))))
          · rw [saddr_snoc]
            have e5:aS::aN::aK::aI::(saddr ses++[qq,it])=(aS::aN::aK::aI::saddr ses)++[qq,it]:=rfl
            show (aS::aN::aK::aI::(saddr ses++[qq,it])).Nodup
            rw [e5,List.nodup_append]
            refine ⟨d.sep.nd,by simp; exact Nat.ne_of_gt ltq,fun a ha b hb=>?_⟩
            have:=ltA a ha
            simp only [List.mem_cons,List.not_mem_nil,or_false] at hb
            rcases hb with rfl | rfl
            · exact Nat.ne_of_lt (Nat.lt_trans this ltq)
            · exact Nat.ne_of_lt this
          · intro a ha hm
            rw [saddr_snoc] at ha
            have e5:aS::aN::aK::aI::(saddr ses++[qq,it])=(aS::aN::aK::aI::saddr ses)++[qq,it]:=rfl
            change a∈aS::aN::aK::aI::(saddr ses++[qq,it]) at ha
            rw [e5] at ha
            rcases List.mem_append.mp ha with ha | ha
            · exact d.sep.ra a ha hm
            · have:=ltR a hm
              simp only [List.mem_cons,List.not_mem_nil,or_false] at ha
              rcases ha with rfl | rfl
              · exact absurd (Nat.lt_trans this ltq) (Nat.lt_irrefl _)
              · exact absurd this (Nat.lt_irrefl _)
          · rcases List.mem_append.mp he with he | he
            · exact ⟨(d.inv e he).1,by simp [(d.inv e he).2]⟩
            · rw [List.mem_singleton] at he; subst he
              exact ⟨⟨hrl _ (.tail _ (.tail _ (.head _))),ok.isI r hr,hrk r hr,Nat.zero_le _⟩,by simp⟩
          · rw [List.map_append,List.pairwise_append]
            refine ⟨d.mono,by simp,fun a ha b hb=>?_⟩
            obtain ⟨e,he,rfl⟩:=List.mem_map.mp ha
            simp only [List.map_cons,List.map_nil,List.mem_singleton] at hb
            subst hb; exact hrx e he
      clear Nd d4 hsl hcl hxk hrx hx mx d hz'
      rintro s' ⟨h',tk,m,S',ses,so',od',n1',n2',c',kvs',frs',rfl,d,hle⟩
      let Jv4:Nat→Shared→Prop:=fun z' s'=>Ex8 fun h tk m S ses so od n1=>Ex4 fun n2 c kvs frs=>And4 (s'=up s h tk) (DX prog w g L nds rk aS aN aK aI D own frs0 l S ses so od n1 n2 c kvs frs h m) (z'=wt nds S+sw ses) (z'≤z)
      let Jv5:Shared→Prop:=fun s'=>∃ z',z'<z∧Ex8 fun h tk m S ses so od n1=>Ex6 fun n2 c kvs frs x t=>And6 (s'=up s h tk) (DX prog w g L nds rk aS aN aK aI D own frs0 l S ses so od n1 n2 c kvs frs h m) (m "node"=some (.int x t)) (x∈nds.map (·.k)) ((∀ e∈ses,rk e.k<rk x)) (z'=wt nds S+sw ses)
      refine whileE Jv4
        Jv5
        (fun E3=>?_) _ ⟨h',tk,m,S',ses,so',od',n1',n2',c',kvs',frs',rfl,d,rfl,hle⟩ (fun s' hs'=>wpAny_execs_nil hs')
      clear d hle h' tk m S' ses so' od' n1' n2' c' kvs' frs'
      rintro z' s' ⟨h',tk,m,S',ses,so',od',n1',n2',c',kvs',frs',rfl,d,hz',hle⟩
      have hcl:=d.cnt
      have hsl:=d.len
      have d4:=d.sep.d4 d.SU
      have Nd:News g L h' ((aS,so')::(aN,od')::(aK,W.listOf (ses.map fun e=>Value.int e.k e.kt).toArray n1')::(aI,W.listOf (ses.map fun e=>Value.ref e.q).toArray n2')::(sled ses++(own++frs'))):=d.N
      refine wpAny_isTrue_value<|ld (s:=up s _ _) d.F d.mst<|truthyL (s:=up s _ _) Nd (.tail _ (.tail _ (.head _))) (by rw [List.length_map]; lia) fun _=>?_
      rcases List.eq_nil_or_concat ses with rfl | ⟨ses0,e,rfl⟩
      · rw [if_neg (by simp)]
        exact wpAny_execs_cons<|brk_ ⟨h',_,m,S',so',od',n1',n2',c',kvs',frs',rfl,d⟩
      · rw [List.concat_eq_append] at *
        first | refine ifT (by simp) ?_ | rw [if_pos (by simp)]
        have hme:e∈ses0++[e]:=List.mem_append_right _ (.head _)
        obtain ⟨sok,hSe⟩:=d.inv e hme
        have Nd':News g L h' ((aS,so')::(aN,od')::(aK,W.listOf ((ses0.map fun e=>Value.int e.k e.kt)++[Value.int e.k e.kt]).toArray n1')::(aI,W.listOf ((ses0.map fun e=>Value.ref e.q)++[Value.ref e.q]).toArray n2')::((sled ses0++[(e.q,mw e.it),(e.it,liObj e.sl e.j 0)])++(own++frs'))):=by
          rw [List.map_append,List.map_append,sled_snoc] at Nd; exact Nd
        have sepn:=d.sep.nd
        rw [saddr_snoc] at sepn
        have sl0:ses0.length≤500:=by simp at hsl; lia
        have sep1:Sep aS aN aK aI ses0 (own.map (·.1)++frs0.map (·.1)):=by
          have e5:aS::aN::aK::aI::(saddr ses0++[e.q,e.it])=(aS::aN::aK::aI::saddr ses0)++[e.q,e.it]:=rfl
          refine ⟨?_,fun a ha=>d.sep.ra a ?_⟩
          · rw [e5,List.nodup_append] at sepn; exact sepn.1
          · rw [saddr_snoc]; rw [show aS::aN::aK::aI::(saddr ses0++[e.q,e.it])=(aS::aN::aK::aI::saddr ses0)++[e.q,e.it] from rfl]; exact List.mem_append_left _ ha
        have mq:((e.q,mw e.it):Addr×Obj)∈(aS,so')::(aN,od')::(aK,W.listOf ((ses0.map fun e=>Value.int e.k e.kt)++[Value.int e.k e.kt]).toArray n1')::(aI,W.listOf ((ses0.map fun e=>Value.ref e.q)++[Value.ref e.q]).toArray n2')::((sled ses0++[(e.q,mw e.it),(e.it,liObj e.sl e.j 0)])++(own++frs')) :=
          .tail _ (.tail _ (.tail _ (.tail _ (List.mem_append_left _ (List.mem_append_right _ (.head _))))))
        have mit:((e.it,liObj e.sl e.j 0):Addr×Obj)∈(aS,so')::(aN,od')::(aK,W.listOf ((ses0.map fun e=>Value.int e.k e.kt)++[Value.int e.k e.kt]).toArray n1')::(aI,W.listOf ((ses0.map fun e=>Value.ref e.q)++[Value.ref e.q]).toArray n2')::((sled ses0++[(e.q,mw e.it),(e.it,liObj e.sl e.j 0)])++(own++frs')) :=
          .tail _ (.tail _ (.tail _ (.tail _ (List.mem_append_left _ (List.mem_append_right _ (.tail _ (.head _)))))))
        have split:(aS,so')::(aN,od')::(aK,W.listOf ((ses0.map fun e=>Value.int e.k e.kt)++[Value.int e.k e.kt]).toArray n1')::(aI,W.listOf ((ses0.map fun e=>Value.ref e.q)++[Value.ref e.q]).toArray n2')::((sled ses0++[(e.q,mw e.it),(e.it,liObj e.sl e.j 0)])++(own++frs')) =
          ((aS,so')::(aN,od')::(aK,W.listOf ((ses0.map fun e=>Value.int e.k e.kt)++[Value.int e.k e.kt]).toArray n1')::(aI,W.listOf ((ses0.map fun e=>Value.ref e.q)++[Value.ref e.q]).toArray n2')::(sled ses0++[(e.q,mw e.it)]))++(e.it,liObj e.sl e.j 0)::(own++frs'):=by simp
        have nl1:∀ p∈(aS,so')::(aN,od')::(aK,W.listOf ((ses0.map fun e=>Value.int e.k e.kt)++[Value.int e.k e.kt]).toArray n1')::(aI,W.listOf ((ses0.map fun e=>Value.ref e.q)++[Value.ref e.q]).toArray n2')::(sled ses0++[(e.q,mw e.it)]),p.1≠e.it:=fun p hp=>by
          have hp':p.1∈aS::aN::aK::aI::(saddr ses0++[e.q]):=by
            have:=List.mem_map_of_mem (f:=(·.1)) hp
            simpa [sled_addr] using this
          have e6:aS::aN::aK::aI::(saddr ses0++[e.q,e.it])=(aS::aN::aK::aI::(saddr ses0++[e.q]))++[e.it]:=by simp
          rw [e6,List.nodup_append] at sepn
          exact sepn.2.2 _ hp' _ (.head _)
        have nl2:∀ p∈own++frs',p.1≠e.it:=fun p hp q=>by
          refine d.sep.ra e.it ?_ ?_
          · rw [saddr_snoc]; exact .tail _ (.tail _ (.tail _ (.tail _ (List.mem_append_right _ (.tail _ (.head _))))))
          · rw [← sameUp_addr d.SU,← List.map_append,← q]; exact List.mem_map_of_mem hp
        have hit:=(Nd' _ mit).1
        have gsl:=sok.lst
        have ksl:∀ {h2:Heap} {m2},Fr g L h2 m2→h2.IsList e.sl e.vs.toArray:=fun F=>⟨_,F.keep _ _ gsl,rfl,_,rfl⟩
        refine wpAny_execs_cons<|wpAny_Try_except<|wpAny_execs_cons<|wpAny_Assign_Name<|Call_<|Subscript_<|ld (s:=tkd (up s _ _) _) d.F d.mi<|wpAny_UnaryOp<|cint fun _ _=>neg_int (s:=tkd (up s _ _) _) fun _ _=>itL_last (s:=tkd (up s _ _) _) (vs:=ses0.map fun e=>Value.ref e.q) (x:=.ref e.q) ⟨_,(Nd' _ (.tail _ (.tail _ (.tail _ (.head _))))).1,rfl,_,rfl⟩ (by rw [List.length_map]; lia) <|
          callQ (s:=tkd (up s _ _) _) (Nd' _ mq).1<|callNext (s:=tkd (up s _ _) _) (Nd' _ mq).1 ?_
        have swe:=sw_snoc ses0 e
        by_cases hj:e.j<e.vs.length
        · have hvj:e.vs[e.j]?=some e.vs[e.j]:=List.getElem?_eq_getElem hj
          obtain ⟨x,tx,hxv,hxs⟩:=ints_get sok.isI hvj
          rw [hxv] at hvj
          obtain ⟨hxk,hxr⟩:=sok.suc x (List.mem_of_getElem? hxs)
          refine next_item (s:=tkd (up s _ _) _) hit (ksl d.F) (by simpa using hvj) fun h2 hit2 hs2=>⟨_,rfl,?_⟩
          have F2:=d.F.change hs2 (Nd' _ mit).2.1 (Nd' _ mit).2.2
          rw [split] at Nd'
          have N2:=news_same Nd' hs2 hit2 nl1 nl2
          refine st (s:=up s _ _) F2 N2 fun h3 tk3 F3 N3=>?_
          refine wpAny_execs_cons<|brk_ ?_
          have swe':=sw_snoc ses0 { e with j:=e.j+1 }
          refine ⟨wt nds S'+sw (ses0++[{ e with j:=e.j+1 }]),by rw [swe']; rw [swe] at hz'; show _+(_+(e.vs.length - (e.j+1)+1))<z; lia,h3,tk3,_,S',ses0++[{ e with j:=e.j+1 }],so',od',n1',n2',c',kvs',frs',x,tx,rfl,⟨F3,?_,d.Fs,d.SU,d.so_,d.cnt,by simpa using d.len,d.od_,by simpa using d.kv,?_,fun e2 he2=>?_,by simpa using d.mono,d.mn,d.mst,d.mi,d.ms,d.md⟩,rfl,hxk,fun e2 he2=>?_,rfl⟩
          · unfold dyn4
            rw [sled_snoc,List.map_append,List.map_append]
            simpa using N3
          · have:saddr (ses0++[{ e with j:=e.j+1 }])=saddr (ses0++[e]):=by simp [saddr]
            exact ⟨by rw [this]; exact d.sep.nd,by rw [this]; exact d.sep.ra⟩
          · rcases List.mem_append.mp he2 with q | q
            · exact d.inv e2 (List.mem_append_left _ q)
            · rw [List.mem_singleton] at q; subst q
              exact ⟨⟨sok.lst,sok.isI,sok.suc,hj⟩,hSe⟩
          · rcases List.mem_append.mp he2 with q | q
            · have:=d.mono
              rw [List.map_append,List.pairwise_append] at this
              exact Nat.lt_trans (this.2.2 _ (List.mem_map_of_mem q) _ (.head _)) hxr
            · rw [List.mem_singleton] at q; subst q; exact hxr
        · refine next_endX (s:=tkd (up s _ _) _) rm'.handled hit (ksl d.F) (by simpa using hj) fun h1 h2 ex hs1 ho1 hx1=>?_
          obtain ⟨o1,ho1⟩:=ho1
          have F1:=d.F.change hs1 (Nd' _ mit).2.1 (Nd' _ mit).2.2
          rw [split] at Nd'
          have N1:=news_same Nd' hs1 ho1 nl1 nl2
          have N1':News g L h1 (((aS,so')::(aN,od')::(aK,W.listOf ((ses0.map fun e=>Value.int e.k e.kt)++[Value.int e.k e.kt]).toArray n1')::(aI,W.listOf ((ses0.map fun e=>Value.ref e.q)++[Value.ref e.q]).toArray n2')::(sled ses0++own))++frs'):=news_sub N1 fun p hp=>by
            rcases List.mem_append.mp hp with q | q
            · rcases List.mem_cons.mp q with rfl | q
              · exact .head _
              rcases List.mem_cons.mp q with rfl | q
              · exact .tail _ (.head _)
              rcases List.mem_cons.mp q with rfl | q
              · exact .tail _ (.tail _ (.head _))
              rcases List.mem_cons.mp q with rfl | q
              · exact .tail _ (.tail _ (.tail _ (.head _)))
              rcases List.mem_append.mp q with q | q
              · exact List.mem_append_left _ (.tail _ (.tail _ (.tail _ (.tail _ (List.mem_append_left _ q)))))
              · exact List.mem_append_right _ (.tail _ (List.mem_append_left _ q))
            · exact List.mem_append_right _ (.tail _ (List.mem_append_right _ q))
          have hap:∀ p∈(aS,so')::(aN,od')::(aK,W.listOf ((ses0.map fun e=>Value.int e.k e.kt)++[Value.int e.k e.kt]).toArray n1')::(aI,W.listOf ((ses0.map fun e=>Value.ref e.q)++[Value.ref e.q]).toArray n2')::(sled ses0++own),p.1∉L::frs'.map (·.1):=fun p hp hm=>by
            rcases List.mem_cons.mp hm with q | q
            · exact (N1' p (List.mem_append_left _ hp)).2.1 q
            · rw [sameUp_addr d.SU] at q
              have hpa:p.1∈(aS::aN::aK::aI::saddr ses0)∨p∈own:=by
                rw [← sled_addr]
                rcases List.mem_cons.mp hp with rfl | hp
                · exact .inl (.head _)
                rcases List.mem_cons.mp hp with rfl | hp
                · exact .inl (.tail _ (.head _))
                rcases List.mem_cons.mp hp with rfl | hp
                · exact .inl (.tail _ (.tail _ (.head _)))
                rcases List.mem_cons.mp hp with rfl | hp
                · exact .inl (.tail _ (.tail _ (.tail _ (.head _))))
                rcases List.mem_append.mp hp with hp | hp
                · exact .inl (.tail _ (.tail _ (.tail _ (.tail _ (List.mem_map_of_mem hp)))))
                · exact .inr hp
              rcases hpa with hpa | hpa
              · exact sep1.ra _ hpa (List.mem_append_right _ q)
              · have hpI:p.1=h9.objs.size:=by
                  rcases List.mem_cons.mp (ho p hpa) with y | y
                  · exact y
                  · exact absurd (List.mem_singleton.mp y) (gDn p (N₁ p (List.mem_append_right _ hpa)).2.2)
                rw [← sameUp_addr SU₁] at q
                obtain ⟨p',hp',e'⟩:=List.mem_map.mp q
                exact hw p' (List.mem_append_right _ hp') (by rw [e',hpI]; exact .head _)
          refine caughtSI (A₀:=A) (s':=up _ _ _) hfr d.Fs T hx1 F1 N1' hap (name:=(fd186 w).qualname) (scope:=(fd186 w).scope) (a:=186) (cd:=(fd186 w).code) (by kernel_rfl) dA.eq (fun E4 h3 frs3 SU3 Fs3 F3 N3=>?_) (by kernel_rfl) (by kernel_rfl)
          have N3':News g L h3 ((aS,so')::(aN,od')::(aK,W.listOf ((ses0.map fun e=>Value.int e.k e.kt)++[Value.int e.k e.kt]).toArray n1')::(aI,W.listOf ((ses0.map fun e=>Value.ref e.q)++[Value.ref e.q]).toArray n2')::(sled ses0++(own++frs3))):=by
            simpa using N3
          have SU':=d.SU.trans SU3
          have d4':=sep1.d4 SU'
          have hkvl:=congrArg List.length d.kv
          have hkv':kvs'.map (·.1)=ses0.map (·.k)++[e.k]:=by rw [d.kv]; simp
          have hek:e.k∉ses0.map (·.k):=fun q=>by
            obtain ⟨e2,he2,e3⟩:=List.mem_map.mp q
            have:=d.mono
            rw [List.map_append,List.pairwise_append] at this
            have:=this.2.2 _ (List.mem_map_of_mem (f:=fun e:Se=>rk e.k) he2) _ (.head _)
            rw [e3] at this; exact absurd this (Nat.lt_irrefl _)
          refine wpAny_execs_cons<|wpAny_Delete<|wpAny_deleteEach_cons<|delete_Subscript<|ld (s:=up s _ _) F3 d.md<|methodCall_KW<|ld (s:=up s _ _) F3 d.mst<|kl_method (s:=up s _ _) N3' (.tail _ (.tail _ (.head _))) PySem.F.slot_list_pop PySem.F.type_list_pop<|callWith_method0 <|
            popL (s:=up s _ _) F3 N3' d4'.uK (by rw [List.length_map]; lia) fun h4 F4 N4=>dDel (s:=up s _ _) F4 N4 d4'.uN d.od_ (by simp at hkvl; lia) (valueAt_some (by rw [hkv']; exact List.mem_append_right _ (.head _))) fun h5 tk5 od5 F5 N5 hod5=>wpAny_deleteEach_nil ?_
          refine wpAny_execs_cons<|wpAny_Expr_any<|methodCall_KW<|ld (s:=up s _ _) F5 d.mi<|kl_method (s:=up s _ _) N5 (.tail _ (.tail _ (.tail _ (.head _)))) PySem.F.slot_list_pop PySem.F.type_list_pop<|callWith_method0 <|
            popL (s:=up s _ _) F5 N5 d4'.uI (by rw [List.length_map]; lia) fun h6 F6 N6=>wpAny_execs_nil<|wpAny_execs_nil ?_
          have mono0:(ses0.map fun e=>rk e.k).Pairwise (·<·):=by
            have:=d.mono
            rw [List.map_append,List.pairwise_append] at this
            exact this.1
          refine ⟨wt nds S'+sw ses0,by rw [swe] at hz'; lia,h6,_,m,S',ses0,so',od5,n1'+1,n2'+1,c',_,frs3,rfl,⟨F6,N6,Fs3,SU',d.so_,d.cnt,by simp at hsl; lia,hod5,without_last hkv' hek,sep1,fun e2 he2=>d.inv e2 (List.mem_append_left _ he2),mono0,d.mn,d.mst,d.mi,d.ms,d.md⟩,rfl,by rw [swe] at hz'; lia⟩
  · intro h' tk m' news' F' N' hw hJ
    obtain ⟨S,so,od,n1,n2,c,frs,rfl,Fs₁,SU₁,hso,hcnt,hod,mn,mst,mi,ms,md⟩:=hJ
    refine wpAny_execs_cons<|wpAny_Return_some<|wpAny_Constant_none ?_
    subst hg
    exact h h' tk frs (ext_of_fr F') SU₁ fun p hp=>(N' p (List.mem_append_right _ hp)).1
theorem al0:∀ d,P1 d:=epsAll ne0 P1 (by with_unfolding_all exact bd0)
end Zcycle
end
section
variable {prog:Program} {w:World} {A:Around} {E:Value→Shared→Prop} {s:Shared} {O dx D:Addr} {n:Nat} {t1 t2 t3 t4:Tok} {vb vc vd:Value} {nds:List Nd} {rk:Int→Nat} {l:List Env} {frs0:List (Addr×Obj)}
theorem cycle_call {Q:Value→Shared→Prop} (rm:Room A 2) (hfr:A.frames=some l) (Fs:Frs l frs0) (hW:∀ p∈frs0,s.heap.get? p.1=some p.2) (T:Wd w (hideAll s.heap (frs0.map (·.1)))) (gO:(hideAll s.heap (frs0.map (·.1))).get? O=some (instObj 196 dx)) (gdx:(hideAll s.heap (frs0.map (·.1))).get? dx=some (dictOf (sd w t1 t2 t3 t4 (.ref D) vb vc vd) n)) (gD:(hideAll s.heap (frs0.map (·.1))).DictOf (intKind prog w) D (kvsOf nds)) (lo:(D==sysModules)=false) (ok:Nok nds) (gN:∀ p∈led nds,(hideAll s.heap (frs0.map (·.1))).get? p.1=some p.2) (hz:nds.length≤500) (hrk:∀ r∈nds,∀ x∈r.ss,x∈nds.map (·.k)∧rk r.k<rk x) (h:∀ h' tk' frs',Ext (frs0.map (·.1)) s.heap h'→SameUp frs0 frs'→(∀ p∈frs',h'.get? p.1=some p.2)→Q .none (up s h' tk')):wpAny (model prog w) A (call (.ref 186) [.ref O]) Q E s:=by
  refine wpAny_call (enter (W:=frs0) (binds:=[(("self":Str),.ref O)]) rm.le' (fn186 T.of_hide.X) T.of_hide.lim (cd186 T.of_hide.X) hW rfl
    (BindsTo.of_eq (by kernel_rfl)) (by kernel_rfl) (by kernel_rfl) ?_ (by kernel_rfl) (by kernel_rfl) (by kernel_rfl))
  intro L h₀ tk₀ hL F N A₁ R₁ E₁ dA hret hnone
  exact Zcycle.al0 (((((prog,w),(A,s)),((A₁,O),dx)),(((D,n),t1),((t2,t3),t4))),((((vb,vc),vd),((nds,rk),l)),(((frs0,L),h₀),((tk₀,R₁),E₁)))) rm hfr Fs hW T gO gdx gD lo ok gN hz hrk (fun x0 x1 x2 x3 x4 x5=>hret _ _ (h x0 x1 x2 x3 x4 x5)) hL F N dA
end
end
section
noncomputable abbrev celO (v:Option Value):Obj:={ cls:=.type "cell",data:=.cell v }
noncomputable def celsOf (cs:List (Str×Addr)):List (Addr×Obj):=cs.map fun x=>(x.2,celO none)
theorem pushCells_obj : ∀ (names : List (Str × NameKind)) (h : Heap) (acc : List (Str × Addr)) (n : Str) (c : Addr), (n, c) ∈ cellsFrom h.objs.size names acc → (n, c) ∈ acc ∨ ((pushCells h names).get? c = some (celO none) ∧ h.objs.size ≤ c)
  | [],_,_,_,_,hm=>.inl hm
  | (name,kind)::r,h,acc,n,c,hm=>by
    unfold cellsFrom at hm
    unfold pushCells
    split at hm
    · rename_i hk
      rw [if_pos hk]
      have:=pushCells_obj r (h.push { cls:=.type "cell",data:=.cell none }) ((name,h.objs.size)::acc) n c (by rw [Heap.size_push]; exact hm)
      rcases this with q | q
      · rcases List.mem_cons.mp q with e | q
        · cases e; exact .inr ⟨pushCells_keeps _ _ _ _ (Heap.get?_push_size _ rfl),Nat.le_refl _⟩
        · exact .inl q
      · exact .inr ⟨q.1,by have:=q.2; rw [Heap.size_push] at this; exact Nat.le_of_succ_le this⟩
    · rename_i hk
      rw [if_neg hk]
      exact pushCells_obj r h acc n c hm
section
variable {M:Model} {A:Around} {E:Value→Shared→Prop} {s:Shared} {env:Env}
theorem newEnvC {scope:Scope} {cl:List (Str×Addr)} {Q:Env→Shared→Prop}
    (hQ:∀ h',h'.Ns s.heap.objs.size (fun _=>none)→(∀ b o,s.heap.get? b=some o→h'.get? b=some o)→(∀ p∈celsOf (cellsFrom (s.heap.objs.size+1) scope.names []),h'.get? p.1=some p.2∧s.heap.objs.size<p.1) →
      Q { scope:=scope,locals:=s.heap.objs.size,globals:=env.globals,cells:=cellsFrom (s.heap.objs.size+1) scope.names cl,qual:=env.qual,func:=none,code:=env.code,frame:=env.frame,builtins:=env.builtins } (up s h' s.toks)) :
    wpAny M A (newFunctionEnv scope env.globals cl [] env.qual none .none (some env)) Q E s:=by
  simp only [newFunctionEnv,Option.isSome_some,if_true]
  refine wpAny_bind (wpAny_alloc ?_)
  refine wpAny_bind (wpAny_layCells _ (fun name kind cells=>by cases hkc:kind==NameKind.cell <;> simp [hkc]) _ _ _ _ ?_)
  have e:(s.heap.push { cls:=.type "dict",data:=.dict #[] }).objs.size=s.heap.objs.size+1:=Heap.size_push ..
  have z:=hQ (pushCells (s.heap.push { cls:=.type "dict",data:=.dict #[] }) scope.names) ((Heap.Ns.new s.heap (.type "dict")).keeps (pushCells_keeps _ _)) (fun b o q=>pushCells_keeps _ _ _ _ (Heap.get?_push_of_some _ q)) (fun p hp=>by
    obtain ⟨x,hx,rfl⟩:=List.mem_map.mp hp
    rcases pushCells_obj scope.names (s.heap.push { cls:=.type "dict",data:=.dict #[] }) [] x.1 x.2 (by rw [e]; exact hx) with q | q
    · cases q
    · exact ⟨q.1,by have:=q.2; rw [e] at this; exact this⟩)
  show wpAny M A (forIn [] PUnit.unit _ >>= _) _ _ _
  rw [List.forIn_nil]
  refine wpAny_bind (wpAny_pure (wpAny_pure ?_))
  have e2:({ s with heap:=s.heap.push { cls:=.type "dict",data:=.dict #[] } }:Shared).heap.objs.size=s.heap.objs.size+1:=e
  rw [e2]
  exact z
end
noncomputable def CT (s:Shared) (g:Heap) (C:Addr) (own:List (Addr×Obj)) (av:List Addr) (J:(Str→Option Value)→List (Addr×Obj)→Prop) (s₄:Shared):Prop :=
  Ex4 fun h' tk m' news'=>And5 (s₄=up s h' tk) (Fr g C h' m') (News g C h' (news'++own)) ((∀ p∈news',p.1∉av)) (J m' news')
section
variable {prog:Program} {w:World} {A:Around} {E:Value→Shared→Prop} {s:Shared} {env:Env} {g:Heap} {L:Addr} {m:Str→Option Value} {news:List (Addr×Obj)}
theorem CT.mk {C:Addr} {own:List (Addr×Obj)} {av:List Addr} {J:(Str→Option Value)→List (Addr×Obj)→Prop} {h':Heap} {tk:Nat} {m':Str→Option Value} {news':List (Addr×Obj)} (F:Fr g C h' m') (N:News g C h' (news'++own)) (hw:∀ p∈news',p.1∉av) (j:J m' news') :
    CT s g C own av J (up s h' tk):=⟨h',tk,m',news',rfl,F,N,hw,j⟩
theorem loop_any {elt target iter:Expr} {ifs:List Expr} {scope:Scope} {pos:Pos} {it acc:Value} {R:Result→Shared→Prop} (I:Nat→Shared→Prop)
    (turn : ∀ n s, I n s → wpAny (model prog w) A (pyNext it) (fun r s₁ => match r with
      | none=>R (.ok .next) s₁
      | some v=>wpAny (model prog w) A (letOwnedTupleGo target it v) (fun _ s₁=>wpAny (model prog w) A (assign target env v) (fun _ s₂ =>
          wpAny (model prog w) A (forIn ifs true fun c r=>if r=true then do let ok ← isTrue c env (eval c env); pure (ForInStep.yield ok) else pure (ForInStep.yield r)) (fun ok s₃ =>
            if ok=true then wpAny (model prog w) A (eval elt env) (fun x s₄ =>
              wpAny (model prog w) A (call (.builtin "list.append") [acc,x]) (fun _ s₅=>∃ m,m<n∧I m s₅) (notedBy (model prog w) A env fun e s'=>R (.error e) s') s₄) (notedBy (model prog w) A env fun e s'=>R (.error e) s') s₃
            else ∃ m,m<n∧I m s₃) (notedBy (model prog w) A env fun e s'=>R (.error e) s') s₂) (notedBy (model prog w) A env fun e s'=>R (.error e) s') s₁) (notedBy (model prog w) A env fun e s'=>R (.error e) s') s₁) (notedBy (model prog w) A env fun e s'=>R (.error e) s') s)
    (n:Nat) (h:I n s):codeAny (model prog w) A (.compLoop (.ListComp elt [⟨target,iter,ifs,0⟩] scope pos) 0 it acc env) R s:=by
  refine codeAny_loop rfl I (fun n s hI=>?_) n h
  show wpAny _ A ((compTurn (.ListComp elt [⟨target,iter,ifs,0⟩] scope pos) 0 it acc env).onRaise (fun x=>do noteFrame x env; theTreesLotGoes x)) _ _ s
  refine wpAny_noted ?_
  rw [compTurn_list]
  refine wpAny_bind (wpAny_standAt (wpAny_bind (wpAny_mono (turn n s hI) (fun r s₁ q=>?_) fun _ _ e=>e)))
  cases r with
  | none=>exact wpAny_pure q
  | some v =>
    refine wpAny_bind (wpAny_mono q (fun _ _ q=>wpAny_bind (wpAny_mono q (fun _ _ q=>wpAny_bind (wpAny_mono q (fun ok _ q=>?_) fun _ _ e=>e)) fun _ _ e=>e)) fun _ _ e=>e)
    cases ok with
    | false=>exact wpAny_pure ⟨rfl,q⟩
    | true=>exact wpAny_bind (wpAny_bind (wpAny_mono q (fun _ _ q=>wpAny_bind (wpAny_mono q (fun _ _ q=>wpAny_pure (wpAny_pure ⟨rfl,q⟩)) fun _ _ e=>e)) fun _ _ e=>e))
end
noncomputable section
namespace ZcompBlkG
abbrev D0:=(((((Program)×(World))×(Around))×(((Shared)×(Value→Shared→Prop))×(Env)))×((((Heap)×(Addr))×(Str→Option Value))×(((List (Addr×Obj))×(Expr))×(Expr))))×(((((Expr)×(List Expr))×(Scope))×(((List (Str×Addr))×(Pos))×(Addr)))×((((List Addr)×(Nat))×(Nat→Value→Prop))×((Nat→Heap→Prop)×(Value→Addr→Result→Shared→Prop))))
abbrev P0 (prog : Program) (w : World) (A : Around) (s : Shared) (E : Value → Shared → Prop) (env : Env) (g : Heap) (L : Addr) (m : Str → Option Value) (news : List (Addr × Obj)) (elt target iter : Expr) (ifs : List Expr) (scope : Scope) (cl : List (Str × Addr)) (pos : Pos) (I : Addr) (fp : List Addr) (n : Nat) (P : Nat → Value → Prop) (St : Nat → Heap → Prop) (RR : Value → Addr → Result → Shared → Prop) : Prop := ∀ (Wk : Walks prog w A I fp [I] n P St) (hn : n ≤ 1000) (hex : ∀ i h, St i h → ∀ b ∈ fp, ∃ o, h.get? b = some o) (hst : St 0 s.heap) (hLf : L ∉ fp) (hI0 : g.get? I = none) (F : Fr g L s.heap m) (N : News g L s.heap news) (hnI : ∀ p ∈ news, p.1 ≠ I) (J : Addr → Nat → List Value → (Str → Option Value) → List (Addr × Obj) → Prop) (h0 : ∀ C, (∀ p ∈ news, p.1 < C) → J C 0 [] (fun _ => none) (celsOf (cellsFrom (C + 1) scope.names []) ++ news)) (step : ∀ (E' : Value → Shared → Prop) i v C D ys m₁ news₁ h₁ tk₁ own, (∀ p ∈ own, p.1 < C) → i < n → P i v → J C i ys m₁ news₁ → (∀ p ∈ news₁, p.1 ∉ [I, D, L]) → (∀ b ∈ [I, D, L], ∃ o, (b, o) ∈ own) → (∀ b ∈ fp, g.get? b = none → ∃ o, (b, o) ∈ own) → Fr g C h₁ m₁ → News g C h₁ (news₁ ++ own) →
      wpAny (model prog w) A (assign target (compEnvC scope (cellsFrom (C+1) scope.names cl) C env) v) (fun _ s₂ =>
        wpAny (model prog w) A (forIn ifs true fun c r=>if r=true then do let ok ← isTrue c (compEnvC scope (cellsFrom (C+1) scope.names cl) C env) (eval c (compEnvC scope (cellsFrom (C+1) scope.names cl) C env)); pure (ForInStep.yield ok) else pure (ForInStep.yield r)) (fun ok s₃ =>
          if ok=true then wpAny (model prog w) A (eval elt (compEnvC scope (cellsFrom (C+1) scope.names cl) C env)) (fun y s₄=>CT s g C own [I,D,L] (J C (i+1) (ys++[y])) s₄) E' s₃
          else CT s g C own [I,D,L] (J C (i+1) ys) s₃) E' s₂) E' (up s h₁ tk₁)) (hRR:∀ D C h' tk m' oC ys news',Fr g L h' m→News g L h' ((C,oC)::(D,W.listOf (List.toArray ys) ys.length)::news')→(∃ mC,LCg.NsObj oC mC)→J C n ys m' news'→(∀ p∈news',p.1≠C∧p.1∉[I,D,L])→D≠C→s.heap.get? D=none→s.heap.get? C=none→RR (.ref D) C (.ok .next) (up s h' tk)) (hlet:∀ i v (s':Shared) (Q:Unit→Shared→Prop) (E:Value→Shared→Prop),P i v→St (i+1) s'.heap→Q () s'→wpAny (model prog w) A (letOwnedTupleGo target (.ref I) v) Q E s'),wpAny (model prog w) A (newList []) (fun acc s₃=>wpAny (model prog w) A (newFunctionEnv scope env.globals cl [] env.qual none .none (some env)) (fun cenv s₄ =>
      codeAny (model prog w) A (.compStart (.ListComp elt [⟨target,iter,ifs,0⟩] scope pos) 0 (.ref I) acc { cenv with scope:=relabel scope env }) (RR acc cenv.locals) s₄) E s₃) E s
abbrev P1 (d:D0):=P0 d.1.1.1.1.1 d.1.1.1.1.2 d.1.1.1.2 d.1.1.2.1.1 d.1.1.2.1.2 d.1.1.2.2 d.1.2.1.1.1 d.1.2.1.1.2 d.1.2.1.2 d.1.2.2.1.1 d.1.2.2.1.2 d.1.2.2.2 d.2.1.1.1.1 d.2.1.1.1.2 d.2.1.1.2 d.2.1.2.1.1 d.2.1.2.1.2 d.2.1.2.2 d.2.2.1.1.1 d.2.2.1.1.2 d.2.2.1.2 d.2.2.2.1 d.2.2.2.2
theorem ne0:Nonempty D0:=⟨(((((Challenge.pw_ny0293_01,Classical.choice neW),callerA),((Classical.choice neS,default),default)),default),default)⟩
@[irreducible] def d0:D0:=@Classical.epsilon D0 ne0 fun d=>¬ P1 d
def prog:=d0.1.1.1.1.1
def w:=d0.1.1.1.1.2
def A:=d0.1.1.1.2
def s:=d0.1.1.2.1.1
def E:=d0.1.1.2.1.2
def env:=d0.1.1.2.2
def g:=d0.1.2.1.1.1
def L:=d0.1.2.1.1.2
def m:=d0.1.2.1.2
def news:=d0.1.2.2.1.1
def elt:=d0.1.2.2.1.2
def target:=d0.1.2.2.2
def iter:=d0.2.1.1.1.1
def ifs:=d0.2.1.1.1.2
def scope:=d0.2.1.1.2
def cl:=d0.2.1.2.1.1
def pos:=d0.2.1.2.1.2
def I:=d0.2.1.2.2
def fp:=d0.2.2.1.1.1
def n:=d0.2.2.1.1.2
def P:=d0.2.2.1.2
def St:=d0.2.2.2.1
def RR:=d0.2.2.2.2
theorem bd0:P0 prog w A s E env g L m news elt target iter ifs scope cl pos I fp n P St RR:=by
  intro Wk hn hex hst hLf hI0 F N hnI J h0 step hRR hlet
  refine wpAny_newObj_type (newEnvC (s:=up _ _ _) fun h₁ hns₁ hk₁ hcs₁=>?_)
  obtain ⟨oL,hL,hLm⟩:=LCg.ns_obj F.ns
  have hC:(s.heap.push { cls:=.type "list",dict:=none,data:=.seq ([]:List Value).toArray }).objs.size=s.heap.objs.size+1:=Heap.size_push ..
  dsimp only at hns₁ hk₁ hcs₁ ⊢
  have frC:s.heap.get? (s.heap.objs.size+1)=none:=Heap.get?_none_of_le (Nat.le_succ _)
  rw [hC] at hns₁ hcs₁ ⊢
  generalize hCe:s.heap.objs.size+1=C at *
  have frD:s.heap.get? s.heap.objs.size=none:=Heap.get?_none_of_le (Nat.le_refl _)
  have kD:h₁.get? s.heap.objs.size=some (W.listOf (List.toArray []) 0):=hk₁ _ _ (Heap.get?_push_size _ rfl)
  have old:∀ b o,s.heap.get? b=some o→h₁.get? b=some o:=fun b o e=>hk₁ b o (Heap.get?_push_of_some _ e)
  have ltD:∀ b o,s.heap.get? b=some o→b<s.heap.objs.size:=fun b o e=>Heap.lt_size e
  have hDC:s.heap.objs.size≠C:=by rw [← hCe]; exact Nat.ne_of_lt (Nat.lt_succ_self _)
  have neC:∀ b o,s.heap.get? b=some o→b≠C:=fun b o e=>by rw [← hCe]; exact Nat.ne_of_lt (Nat.lt_succ_of_lt (ltD b o e))
  have neD:∀ b o,s.heap.get? b=some o→b≠s.heap.objs.size:=fun b o e=>Nat.ne_of_lt (ltD b o e)
  have hIf:I∈fp:=Wk.sub I (List.mem_singleton.mpr rfl)
  have hsb:∀ b∈fp,∃ o,s.heap.get? b=some o:=hex _ _ hst
  obtain ⟨oI0,hI⟩:=hsb I hIf
  have gnone:∀ b,s.heap.get? b=none→g.get? b=none:=fun b e=>by
    cases z:g.get? b with
    | none=>rfl
    | some o=>have:=F.keep _ _ z; rw [e] at this; cases this
  have gD:=gnone _ frD
  have gC:=gnone _ frC
  have gL:g.get? L=none:=Heap.get?_none_of_le F.above
  generalize hDe:s.heap.objs.size=D at *
  have hLC:L≠C:=neC L oL hL
  have hLD:L≠D:=neD L oL hL
  have hIC:I≠C:=neC I oI0 hI
  have hID:I≠D:=neD I oI0 hI
  have hLI:L≠I:=fun e=>hLf (e ▸ hIf)
  have st₁:St 0 h₁:=Wk.frame _ _ _ hst fun b _ o e=>old b o e
  have above:g.objs.size≤C:=Nat.le_trans F.above (by have:=Heap.lt_size hL; rw [hDe] at this; rw [← hCe]; exact Nat.le_succ_of_le (Nat.le_of_lt this))
  have hcC:∀ p∈celsOf (cellsFrom (C+1) scope.names []),h₁.get? p.1=some p.2∧C<p.1:=hcs₁
  have loop : ∀ s₃ : Shared, s₃ = up s h₁ s.toks →
      codeAny (model prog w) A (.compLoop (.ListComp elt [⟨target,iter,ifs,0⟩] scope pos) 0 (.ref I) (.ref D) (compEnvC scope (cellsFrom (C+1) scope.names cl) C env)) (RR (.ref D) C) s₃:=by
    rintro s₃ rfl
    refine loop_any (fun k s'=>Ex6 fun h' tk i ys mC news'=>And8 (s'=up s h' tk) (i≤n) (k=n+1 - i) (ys.length≤i) (St i h') (Fr g C h' mC) (News g C h' ((L,oL)::(D,W.listOf (List.toArray ys) ys.length)::news')) ((∀ p∈news',p.1∉[I,D,L])∧J C i ys mC news')) ?_ (n+1) ⟨h₁,_,0,[],_,_,rfl,Nat.zero_le _,rfl,Nat.le_refl _,st₁,⟨hns₁,fun b o e=>old _ _ (F.keep b o e),above⟩,fun p hp=>?_,fun p hp=>?_,h0 C (fun p hp=>by rw [← hCe]; exact Nat.lt_succ_of_lt (ltD _ _ (N p hp).1))⟩
    · rintro k s' ⟨h',tk,i,ys,mC,news',rfl,hi,rfl,hyl,hst',F',N',hw',hJ⟩
      by_cases hlt:i<n
      · refine Wk.item i _ _ _ hlt hst' fun v h₂ tk₂ hPv hst₂ hk₂=>?_
        have off:∀ b o,b≠I→h'.get? b=some o→h₂.get? b=some o:=fun b o hb e=>hk₂ b o (by simpa using hb) e
        have F₂:Fr g C h₂ mC:=⟨F'.ns.at' fun o e=>off C o hIC.symm e,fun b o e=>off b o (fun q=>by rw [q,hI0] at e; cases e) (F'.keep b o e),F'.above⟩
        have N₂:News g C h₂ ((L,oL)::(D,W.listOf (List.toArray ys) ys.length)::news'):=fun p hp=>by
          refine ⟨off _ _ ?_ (N' p hp).1,(N' p hp).2⟩
          rcases List.mem_cons.mp hp with rfl | hp
          · exact hLI
          rcases List.mem_cons.mp hp with rfl | hp
          · exact hID.symm
          · intro e; exact hw' p hp (by rw [e]; exact .head _)
        obtain ⟨own,ow1,ow2⟩:=own_of (h:=h₂) (fp.filter fun b=>(g.get? b).isNone) fun b hb=>hex _ _ hst₂ b (List.mem_filter.mp hb).1
        have neCf:∀ b∈fp,b≠C:=fun b hb=>let ⟨o,e⟩:=hsb b hb; neC b o e
        have Nw:News g C h₂ (news'++((L,oL)::(D,W.listOf (List.toArray ys) ys.length)::own)):=fun p hp=>by
          rcases List.mem_append.mp hp with q | q
          · exact N₂ p (.tail _ (.tail _ q))
          · rcases List.mem_cons.mp q with rfl | q
            · exact N₂ _ (.head _)
            rcases List.mem_cons.mp q with rfl | q
            · exact N₂ _ (.tail _ (.head _))
            · have z:=ow1 p q
              have z':=List.mem_filter.mp z.1
              exact ⟨z.2,neCf _ z'.1,by simpa using z'.2⟩
        have hav:∀ b∈[I,D,L],∃ o,(b,o)∈((L,oL)::(D,W.listOf (List.toArray ys) ys.length)::own):=fun b hb=>by
          rcases List.mem_cons.mp hb with rfl | hb
          · obtain ⟨o,z⟩:=ow2 _ (List.mem_filter.mpr ⟨hIf,by simp [hI0]⟩)
            exact ⟨o,.tail _ (.tail _ z)⟩
          rcases List.mem_cons.mp hb with rfl | hb
          · exact ⟨_,.tail _ (.head _)⟩
          · rw [List.mem_singleton] at hb; subst hb; exact ⟨_,.head _⟩
        have cov:∀ b∈fp,g.get? b=none→∃ o,(b,o)∈((L,oL)::(D,W.listOf (List.toArray ys) ys.length)::own):=fun b hb hg=>by
          obtain ⟨o,z⟩:=ow2 b (List.mem_filter.mpr ⟨hb,by simp [hg]⟩)
          exact ⟨o,.tail _ (.tail _ z)⟩
        have back:∀ {h₄:Heap} {m₄ news₄},Fr g C h₄ m₄→News g C h₄ (news₄++((L,oL)::(D,W.listOf (List.toArray ys) ys.length)::own))→St (i+1) h₄:=fun {h₄ m₄ news₄} F₄ N₄=>Wk.frame _ _ _ hst₂ fun b hb o e=>by
          cases hg:g.get? b with
          | some o'=>have:=F₂.keep _ _ hg; rw [e] at this; cases this; exact F₄.keep _ _ hg
          | none =>
            obtain ⟨o',z⟩:=ow2 b (List.mem_filter.mpr ⟨hb,by simp [hg]⟩)
            have z1:=(ow1 _ z).2
            rw [e] at z1
            rw [show some o=some o' from z1]
            exact (N₄ (b,o') (List.mem_append_right _ (.tail _ (.tail _ z)))).1
        refine hlet i v _ _ _ hPv hst₂ ?_
        refine wpAny_mono (step _ i v C D ys mC news' h₂ tk₂ _ (fun p hp=>by
          rcases List.mem_cons.mp hp with rfl | hp
          · rw [← hCe]; exact Nat.lt_succ_of_lt (ltD _ _ hL)
          rcases List.mem_cons.mp hp with rfl | hp
          · rw [← hCe]; exact Nat.lt_succ_self _
          · obtain ⟨o,e⟩:=hsb p.1 (List.mem_filter.mp (ow1 p hp).1).1
            rw [← hCe]; exact Nat.lt_succ_of_lt (ltD _ _ e)) hlt hPv hJ hw' hav cov F₂ Nw) (fun _ s₂ z=>wpAny_mono z (fun ok s₃ z=>?_) fun _ _ e=>e) fun _ _ e=>e
        cases ok with
        | true =>
          rw [if_pos rfl] at z ⊢
          refine wpAny_mono z (fun y s₄ z=>?_) fun _ _ e=>e
          obtain ⟨h₄,tk₄,m₄,news₄,rfl,F₄,N₄,hw₄,hJ₄⟩:=z
          have hst₄:=back F₄ N₄
          have mD:((D,W.listOf (List.toArray ys) ys.length):Addr×Obj)∈news₄++((L,oL)::(D,W.listOf (List.toArray ys) ys.length)::own):=List.mem_append_right _ (.tail _ (.head _))
          refine append_at (hsz:=by show ys.toArray.size≤sizeLine; rw [List.size_toArray,sizeLine_eq]; lia) (N₄ _ mD).1 fun h₅ hs₅ hD₅=>?_
          have dD:∀ b∈fp,b≠D:=fun b hb=>let ⟨o,e⟩:=hsb b hb; neD b o e
          refine ⟨n+1 - (i+1),by lia,h₅,tk₄,i+1,ys++[y],m₄,news₄,rfl,hlt,rfl,by simp; lia,Wk.frame _ _ _ hst₄ fun b hb o e=>hs₅.extBut b o (dD b hb) e,F₄.change hs₅ hDC gD,fun p hp=>?_,hw₄,hJ₄⟩
          rcases List.mem_cons.mp hp with rfl | hp
          · have z:=N₄ (L,oL) (List.mem_append_right _ (.head _))
            exact ⟨hs₅.extBut _ _ hLD z.1,z.2⟩
          rcases List.mem_cons.mp hp with rfl | hp
          · exact ⟨by rw [hD₅]; simp [W.listOf],(N₄ _ mD).2⟩
          · have z:=N₄ p (List.mem_append_left _ hp)
            exact ⟨hs₅.extBut _ _ (fun e=>hw₄ p hp (by rw [e]; exact .tail _ (.head _))) z.1,z.2⟩
        | false =>
          rw [if_neg (by simp)] at z ⊢
          obtain ⟨h₄,tk₄,m₄,news₄,rfl,F₄,N₄,hw₄,hJ₄⟩:=z
          refine ⟨n+1 - (i+1),by lia,h₄,tk₄,i+1,ys,m₄,news₄,rfl,hlt,rfl,by lia,back F₄ N₄,F₄,fun p hp=>?_,hw₄,hJ₄⟩
          rcases List.mem_cons.mp hp with rfl | hp
          · exact N₄ (L,oL) (List.mem_append_right _ (.head _))
          rcases List.mem_cons.mp hp with rfl | hp
          · exact N₄ _ (List.mem_append_right _ (.tail _ (.head _)))
          · exact N₄ p (List.mem_append_left _ hp)
      · obtain rfl:i=n:=Nat.le_antisymm hi (Nat.not_lt.mp hlt)
        refine Wk.done _ _ _ hst' fun h₂ tk₂ hk₂=>?_
        have off:∀ b o,b≠I→h'.get? b=some o→h₂.get? b=some o:=fun b o hb e=>hk₂ b o (by simpa using hb) e
        obtain ⟨oC,hoC,hoCm⟩:=LCg.ns_obj F'.ns
        refine hRR D C h₂ tk₂ mC oC ys news' ⟨hLm.ns (off _ _ hLI (N' _ (.head _)).1),fun b o e=>off b o (fun q=>by rw [q,hI0] at e; cases e) (F'.keep b o e),F.above⟩ (fun p hp=>?_) ⟨_,hoCm⟩ hJ (fun p hp=>⟨(N' p (.tail _ (.tail _ hp))).2.1,hw' p hp⟩) hDC frD frC
        rcases List.mem_cons.mp hp with rfl | hp
        · exact ⟨off _ _ hIC.symm hoC,hLC.symm,gC⟩
        rcases List.mem_cons.mp hp with rfl | hp
        · have z:=N' _ (.tail _ (.head _))
          exact ⟨off _ _ hID.symm z.1,hLD.symm,z.2.2⟩
        · have z:=N' p (.tail _ (.tail _ hp))
          exact ⟨off _ _ (fun e=>hw' p hp (by rw [e]; exact .head _)) z.1,fun e=>hw' p hp (by rw [e]; exact .tail _ (.tail _ (.head _))),z.2.2⟩
    · rcases List.mem_cons.mp hp with rfl | hp
      · exact ⟨old _ _ hL,hLC,gL⟩
      rcases List.mem_cons.mp hp with rfl | hp
      · exact ⟨kD,hDC,gD⟩
      rcases List.mem_append.mp hp with q | q
      · have z:=hcC p q
        exact ⟨z.1,Nat.ne_of_gt z.2,gnone _ (Heap.get?_none_of_le (by rw [hDe]; exact Nat.le_of_lt (Nat.lt_trans (by rw [← hCe]; exact Nat.lt_succ_self _) z.2)))⟩
      · exact ⟨old _ _ (N p q).1,neC _ _ (N p q).1,(N p q).2.2⟩
    · rcases List.mem_append.mp hp with q | q
      · have z:=(hcC p q).2
        have lt:D<p.1:=Nat.lt_trans (by rw [← hCe]; exact Nat.lt_succ_self _) z
        intro hm
        rcases List.mem_cons.mp hm with e | hm
        · rw [e] at lt; exact absurd (Nat.lt_trans lt (ltD I oI0 hI)) (Nat.lt_irrefl _)
        rcases List.mem_cons.mp hm with e | hm
        · rw [e] at lt; exact absurd lt (Nat.lt_irrefl _)
        · rw [List.mem_singleton.mp hm] at lt; exact absurd (Nat.lt_trans lt (ltD L oL hL)) (Nat.lt_irrefl _)
      · intro hm
        rcases List.mem_cons.mp hm with e | hm
        · exact hnI p q e
        rcases List.mem_cons.mp hm with e | hm
        · exact neD _ _ (N p q).1 e
        · exact (N p q).2.1 (List.mem_singleton.mp hm)
  exact codeAny_compStart_list (loop _ rfl) (Wk.self 0 _ _ _ st₁ (loop _ rfl))
theorem al0:∀ d,P1 d:=epsAll ne0 P1 (by with_unfolding_all exact bd0)
end ZcompBlkG
end
section
variable {prog:Program} {w:World} {A:Around} {E:Value→Shared→Prop} {s:Shared} {env:Env} {g:Heap} {L:Addr} {m:Str→Option Value} {news:List (Addr×Obj)}
theorem compBlkG {elt target iter:Expr} {ifs:List Expr} {scope:Scope} {cl:List (Str×Addr)} {pos:Pos} {I:Addr} {fp:List Addr} {n:Nat} {P:Nat→Value→Prop} {St:Nat→Heap→Prop} {RR:Value→Addr→Result→Shared→Prop}:ZcompBlkG.P0 prog w A s E env g L m news elt target iter ifs scope cl pos I fp n P St RR:=ZcompBlkG.al0 (((((prog,w),A),((s,E),env)),(((g,L),m),((news,elt),target))),((((iter,ifs),scope),((cl,pos),I)),(((fp,n),P),(St,RR))))
theorem compBlk {elt target iter : Expr} {ifs : List Expr} {scope : Scope} {cl : List (Str × Addr)} {pos : Pos} {I : Addr} {fp : List Addr} {n : Nat} {P : Nat → Value → Prop} {St : Nat → Heap → Prop} {RR : Value → Addr → Result → Shared → Prop}
    (Wk:Walks prog w A I fp [I] n P St) (hn:n≤1000) (hex:∀ i h,St i h→∀ b∈fp,∃ o,h.get? b=some o) (hst:St 0 s.heap) (hLf:L∉fp) (hI0:g.get? I=none)
    (F:Fr g L s.heap m) (N:News g L s.heap news) (hnI:∀ p∈news,p.1≠I)
    (J:Addr→Nat→List Value→(Str→Option Value)→List (Addr×Obj)→Prop)
    (h0:∀ C,J C 0 [] (fun _=>none) (celsOf (cellsFrom (C+1) scope.names [])++news))
    (step : ∀ (E' : Value → Shared → Prop) i v C D ys m₁ news₁ h₁ tk₁ own, i < n → P i v → J C i ys m₁ news₁ → (∀ p ∈ news₁, p.1 ∉ [I, D, L]) → (∀ b ∈ [I, D, L], ∃ o, h₁.get? b = some o) → (∀ b ∈ fp, g.get? b = none → ∃ o, (b, o) ∈ own) → Fr g C h₁ m₁ → News g C h₁ (news₁ ++ own) →
      wpAny (model prog w) A (assign target (compEnvC scope (cellsFrom (C+1) scope.names cl) C env) v) (fun _ s₂ =>
        wpAny (model prog w) A (forIn ifs true fun c r=>if r=true then do let ok ← isTrue c (compEnvC scope (cellsFrom (C+1) scope.names cl) C env) (eval c (compEnvC scope (cellsFrom (C+1) scope.names cl) C env)); pure (ForInStep.yield ok) else pure (ForInStep.yield r)) (fun ok s₃ =>
          if ok=true then wpAny (model prog w) A (eval elt (compEnvC scope (cellsFrom (C+1) scope.names cl) C env)) (fun y s₄=>CT s g C own [I,D,L] (J C (i+1) (ys++[y])) s₄) E' s₃
          else CT s g C own [I,D,L] (J C (i+1) ys) s₃) E' s₂) E' (up s h₁ tk₁))
    (hRR:∀ D C h' tk m' oC ys news',Fr g L h' m→News g L h' ((C,oC)::(D,W.listOf (List.toArray ys) ys.length)::news')→(∃ mC,LCg.NsObj oC mC)→J C n ys m' news'→(∀ p∈news',p.1≠C∧p.1∉[I,D,L])→D≠C→s.heap.get? D=none→s.heap.get? C=none→RR (.ref D) C (.ok .next) (up s h' tk))
    (ht:∀ v,letOwnedTupleGo target (.ref I) v=pure ():=by intro _; rfl) :
    wpAny (model prog w) A (newList []) (fun acc s₃=>wpAny (model prog w) A (newFunctionEnv scope env.globals cl [] env.qual none .none (some env)) (fun cenv s₄ =>
      codeAny (model prog w) A (.compStart (.ListComp elt [⟨target,iter,ifs,0⟩] scope pos) 0 (.ref I) acc { cenv with scope:=relabel scope env }) (RR acc cenv.locals) s₄) E s₃) E s :=
  compBlkG Wk hn hex hst hLf hI0 F N hnI J (fun C _=>h0 C) (fun E' i v C D ys m₁ news₁ h₁ tk₁ own _ a b c d e f F N=>step E' i v C D ys m₁ news₁ h₁ tk₁ own a b c d (fun x hx=>let ⟨o,z⟩:=e x hx; ⟨o,(N (x,o) (List.mem_append_right _ z)).1⟩) f F N) hRR fun _ v _ _ _ _ _ q=>wpAny_of_eq (ht v) q
end
end
section
noncomputable def CStep (prog:Program) (w:World) (A:Around) (s:Shared) (env:Env) (g:Heap) (L:Addr) (target elt:Expr) (ifs:List Expr) (scope:Scope) (cl:List (Str×Addr)) (I:Addr) (fp:List Addr) (n:Nat) (P:Nat→Value→Prop)
    (J:Addr→Nat→List Value→(Str→Option Value)→List (Addr×Obj)→Prop):Prop :=
  ∀ (E' : Value → Shared → Prop) i v C D ys m₁ news₁ h₁ tk₁ own, i < n → P i v → J C i ys m₁ news₁ → (∀ p ∈ news₁, p.1 ∉ [I, D, L]) → (∀ b ∈ [I, D, L], ∃ o, h₁.get? b = some o) → (∀ b ∈ fp, g.get? b = none → ∃ o, (b, o) ∈ own) → Fr g C h₁ m₁ → News g C h₁ (news₁ ++ own) →
      wpAny (model prog w) A (assign target (compEnvC scope (cellsFrom (C+1) scope.names cl) C env) v) (fun _ s₂ =>
        wpAny (model prog w) A (forIn ifs true fun c r=>if r=true then do let ok ← isTrue c (compEnvC scope (cellsFrom (C+1) scope.names cl) C env) (eval c (compEnvC scope (cellsFrom (C+1) scope.names cl) C env)); pure (ForInStep.yield ok) else pure (ForInStep.yield r)) (fun ok s₃ =>
          if ok=true then wpAny (model prog w) A (eval elt (compEnvC scope (cellsFrom (C+1) scope.names cl) C env)) (fun y s₄=>CT s g C own [I,D,L] (J C (i+1) (ys++[y])) s₄) E' s₃
          else CT s g C own [I,D,L] (J C (i+1) ys) s₃) E' s₂) E' (up s h₁ tk₁)
section
variable {prog:Program} {w:World} {A:Around} {E:Value→Shared→Prop} {s:Shared} {env:Env} {g:Heap} {L:Addr} {m:Str→Option Value} {news:List (Addr×Obj)} {elt target iter:Expr} {ifs:List Expr} {scope:Scope} {cl:List (Str×Addr)} {pos:Pos}
noncomputable def CBeg (prog:Program) (w:World) (A:Around) (E:Value→Shared→Prop) (env:Env) (elt target iter:Expr) (ifs:List Expr) (scope:Scope) (cl:List (Str×Addr)) (pos:Pos) (use:Option (Value→Sem Unit)) (Q:Value→Shared→Prop) (it:Value) (s₂:Shared):Prop :=
  wpAny (model prog w) A (newList []) (fun acc s₃=>wpAny (model prog w) A (newFunctionEnv scope env.globals cl [] env.qual none .none (some env)) (fun cenv s₄ =>
    codeAny (model prog w) A (.compStart (.ListComp elt [⟨target,iter,ifs,0⟩] scope pos) 0 it acc { cenv with scope:=relabel scope env }) (compPost (model prog w) A E use Q acc cenv.locals) s₄) E s₃) E s₂
theorem lcG {Q:Value→Shared→Prop} (hclos:closureFor scope env=pure cl)
    (h:wpAny (model prog w) A (eval iter env) (fun xv s₁=>wpAny (model prog w) A (pyIter xv) (CBeg prog w A E env elt target iter ifs scope cl pos none Q) E s₁) E s)
    (hkind:scope.kind=.function:=by rfl) (hnames:(scope.names.all fun y=>y.2 != .local || decide (scope.names.lookup y.1=some .local))=true:=by decide +kernel)
    (hs:∀ x,foldedSetIterable iter env x=pure x:=by intro _; rfl):wpAny (model prog w) A (eval (.ListComp elt [⟨target,iter,ifs,0⟩] scope pos) env) Q E s:=by
  rw [eval_ListComp]
  refine wpAny_comprehension_free (use:=none) rfl hs hclos hkind (fun y hy e=>?_) h
  have:=List.all_eq_true.mp hnames y hy
  simpa [e] using this
theorem lcA {Q:Flow→Shared→Prop} {y:Str} {py spos:Pos} (hclos:closureFor scope env=pure cl)
    (h:wpAny (model prog w) A (eval iter env) (fun xv s₁=>wpAny (model prog w) A (pyIter xv) (CBeg prog w A E env elt target iter ifs scope cl pos (some (assign (.Name y py) env)) (fun _ s'=>Q .next s')) E s₁) E s)
    (hsw:swapsWith (.ListComp elt [⟨target,iter,ifs,0⟩] scope pos) (some (.Name y py)) spos.line env=pure true:=by kernel_rfl)
    (hkind:scope.kind=.function:=by rfl) (hnames:(scope.names.all fun y=>y.2 != .local || decide (scope.names.lookup y.1=some .local))=true:=by decide +kernel)
    (hs:∀ x,foldedSetIterable iter env x=pure x:=by intro _; rfl):wpAny (model prog w) A (exec (.Assign [.Name y py] (.ListComp elt [⟨target,iter,ifs,0⟩] scope pos) spos) env) Q E s:=by
  rw [exec_Assign_Name_used _ _ _ _ hsw]
  refine wpAny_bind (wpAny_standAt (wpAny_bind ?_))
  show wpAny _ A (do let _ ← comprehension (.ListComp elt [⟨target,iter,ifs,0⟩] scope pos) scope env _ (newList []) false (eval iter env) (some (assign (.Name y py) env))) _ _ s
  refine wpAny_bind (wpAny_mono (wpAny_comprehension_free (use:=some (assign (.Name y py) env)) (Q:=fun _ s'=>Q .next s') rfl hs hclos hkind (fun y hy e=>?_) h) (fun _ s' hq=>wpAny_pure (wpAny_pure hq)) fun _ _ e=>e)
  have:=List.all_eq_true.mp hnames y hy
  simpa [e] using this
theorem news_off {h' h'':Heap} {C:Addr} {oC:Obj} {rest:List (Addr×Obj)} (F:Fr g L h' m) (N:News g L h' ((C,oC)::rest)) (hr:∀ p∈rest,p.1≠C) (hs:Heap.SameBut C h' h''):Fr g L h'' m∧News g L h'' rest :=
  ⟨F.change hs (N _ (.head _)).2.1 (N _ (.head _)).2.2,fun p hp=>⟨(hs.2 _ (hr p hp)).trans (N p (.tail _ hp)).1,(N p (.tail _ hp)).2⟩⟩
theorem postN {M:Model} {Q:Value→Shared→Prop} {h':Heap} {C:Addr} {oC:Obj} {rest:List (Addr×Obj)} {acc:Value} {tk:Nat} (F:Fr g L h' m) (N:News g L h' ((C,oC)::rest)) (hoC:∃ mC,LCg.NsObj oC mC) (hr:∀ p∈rest,p.1≠C)
    (k:∀ h'',Fr g L h'' m→News g L h'' rest→Q acc (up s h'' tk)):compPost M A E none Q acc C (.ok .next) (up s h' tk):=by
  obtain ⟨mC,x⟩:=hoC
  refine ⟨mC,x.ns (N _ (.head _)).1,fun h'' hs=>?_⟩
  obtain ⟨F',N'⟩:=news_off F N hr hs
  exact k h'' F' N'
theorem postA {M:Model} {Q:Value→Shared→Prop} {h':Heap} {C:Addr} {oC:Obj} {rest:List (Addr×Obj)} {acc:Value} {tk:Nat} {y:Str} {py:Pos} (F:Fr g L h' m) (N:News g L h' ((C,oC)::rest)) (hoC:∃ mC,LCg.NsObj oC mC) (hr:∀ p∈rest,p.1≠C)
    (k:∀ h'' tk',Fr g L h'' (setM m y acc)→News g L h'' rest→Q .none (up s h'' tk'))
    (hL:env.locals=L:=by rfl) (hk:env.scope.kind=.function:=by rfl) (hl:env.kindOf y=some .local:=by kernel_rfl):compPost M A E (some (assign (.Name y py) env)) Q acc C (.ok .next) (up s h' tk):=by
  obtain ⟨mC,x⟩:=hoC
  refine wpAny_assign_Name<|st (s:=up _ _ _) F N (fun h2 tk2 F2 N2=>?_) hL hk hl
  refine ⟨mC,x.ns (N2 _ (.head _)).1,fun h'' hs=>?_⟩
  obtain ⟨F',N'⟩:=news_off F2 N2 hr hs
  exact k h'' _ F' N'
theorem srcL {Q:Value→Shared→Prop} {use:Option (Value→Sem Unit)} {ax:Addr} {vs:List Value} (hh:A.handled=none) (F:Fr g L s.heap m) (N:News g L s.heap news) (hl:s.heap.IsList ax vs.toArray) (haL:ax≠L) (hz:vs.length≤1000)
    (J:Addr→Nat→List Value→(Str→Option Value)→List (Addr×Obj)→Prop) (h0:∀ C,J C 0 [] (fun _=>none) (celsOf (cellsFrom (C+1) scope.names [])++news))
    (step:CStep prog w A s env g L target elt ifs scope cl s.heap.objs.size [s.heap.objs.size,ax] vs.length (fun i v=>vs[i]?=some v) J)
    (fin:∀ D C h' tk m' oC ys news',Fr g L h' m→News g L h' ((C,oC)::(D,W.listOf (List.toArray ys) ys.length)::news')→(∃ mC,LCg.NsObj oC mC)→J C vs.length ys m' news'→(∀ p∈news',p.1≠C∧p.1∉[s.heap.objs.size,D,L])→D≠C→s.heap.get? D=none →
      compPost (model prog w) A E use Q (.ref D) C (.ok .next) (up s h' tk))
    (ht:∀ v,letOwnedTupleGo target (.ref s.heap.objs.size) v=pure ():=by intro _; rfl) :
    wpAny (model prog w) A (pyIter (.ref ax)) (CBeg prog w A E env elt target iter ifs scope cl pos use Q) E s:=by
  refine wpAny_pyIter_list hl ?_
  have hne:ax≠s.heap.objs.size:=let ⟨_,ho,_⟩:=hl; Nat.ne_of_lt (Heap.lt_size ho)
  have hLs:L≠s.heap.objs.size:=Nat.ne_of_lt F.ns.lt
  have F':=F.push { cls:=.type "list_iterator",data:=.fields #[.ref ax,.int 0 0] }
  have N':News g L (s.heap.push { cls:=.type "list_iterator",data:=.fields #[.ref ax,.int 0 0] }) news:=(grow F N fun b o e=>Heap.get?_push_of_some _ e).2
  have e1:vs.toArray.size=vs.length:=by simp
  refine compBlk (s:=up s (s.heap.push { cls:=.type "list_iterator",data:=.fields #[.ref ax,.int 0 0] }) s.toks) (n:=vs.toArray.size) (Walks.list hh s.heap.objs.size ax hne vs.toArray) (by rw [e1]; exact hz)
    (fun i h hs b hb=>by
      rcases List.mem_cons.mp hb with rfl | hb
      · exact let ⟨⟨o,z,_⟩,_⟩:=hs; ⟨o,z⟩
      · rw [List.mem_singleton] at hb; subst hb; exact let ⟨_,⟨o,z,_⟩⟩:=hs; ⟨o,z⟩)
    ⟨⟨_,Heap.get?_push_size _ rfl,rfl,rfl⟩,hl.push _⟩ (by simp [hLs,haL.symm]) (size_none F) F' N' (fun p hp=>Nat.ne_of_lt (Heap.lt_size (N p hp).1)) J h0
    (fun E' i v C D ys m₁ news₁ h₁ tk₁ own hi hP=>step E' i v C D ys m₁ news₁ h₁ tk₁ own (by rw [← e1]; exact hi) (by simpa using hP)) (fun D C h' tk m' oC ys news' F' N' hC hJ hp hDC hD _=>fin D C h' tk m' oC ys news' F' N' hC (by rw [← e1]; exact hJ) hp hDC ?_) ht
  cases z:s.heap.get? D with
  | none=>rfl
  | some o=>have:=Heap.get?_push_of_some { cls:=.type "list_iterator",data:=.fields #[.ref ax,.int 0 0] } z; rw [hD] at this; cases this
theorem srcR {Q:Value→Shared→Prop} {use:Option (Value→Sem Unit)} {r:Addr} {a b:Int} {t u v:Tok} {n:Nat} (hh:A.handled=none) (F:Fr g L s.heap m) (N:News g L s.heap news) (hr:IsRange s.heap r a b 1 t u v) (hsmall:Builtin.Range.small a b 1=true) (hn:Builtin.Range.rangeSize a b 1=(n:Int)) (hz:n≤1000)
    (J:Addr→Nat→List Value→(Str→Option Value)→List (Addr×Obj)→Prop) (h0:∀ C,J C 0 [] (fun _=>none) (celsOf (cellsFrom (C+1) scope.names [])++news))
    (step:CStep prog w A s env g L target elt ifs scope cl s.heap.objs.size [s.heap.objs.size] n (fun i v=>∃ t,v=.int (a+(i:Int)) t) J)
    (fin:∀ D C h' tk m' oC ys news',Fr g L h' m→News g L h' ((C,oC)::(D,W.listOf (List.toArray ys) ys.length)::news')→(∃ mC,LCg.NsObj oC mC)→J C n ys m' news'→(∀ p∈news',p.1≠C∧p.1∉[s.heap.objs.size,D,L])→D≠C→s.heap.get? D=none →
      compPost (model prog w) A E use Q (.ref D) C (.ok .next) (up s h' tk))
    (ht:∀ v,letOwnedTupleGo target (.ref s.heap.objs.size) v=pure ():=by intro _; rfl) :
    wpAny (model prog w) A (pyIter (.ref r)) (CBeg prog w A E env elt target iter ifs scope cl pos use Q) E s:=by
  refine wpAny_pyIter_range hr hsmall ?_
  rw [hn]
  have hLs:L≠s.heap.objs.size:=Nat.ne_of_lt F.ns.lt
  have F':=F.push { cls:=.type "range_iterator",data:=.fields #[rawInt a,rawInt n,rawInt 1] }
  have N':News g L (s.heap.push { cls:=.type "range_iterator",data:=.fields #[rawInt a,rawInt n,rawInt 1] }) news:=(grow F N fun b o e=>Heap.get?_push_of_some _ e).2
  refine compBlk (s:=up s (s.heap.push { cls:=.type "range_iterator",data:=.fields #[rawInt a,rawInt n,rawInt 1] }) s.toks) (LCg.range_walks hh a n) hz (fun i h hs b hb=>by rw [List.mem_singleton] at hb; subst hb; exact ⟨_,hs⟩)
    (by show IsRangeIter _ _ _ _ _; simpa using Heap.get?_push_size _ rfl) (by simp [hLs]) (size_none F) F' N' (fun p hp=>Nat.ne_of_lt (Heap.lt_size (N p hp).1)) J h0 step (fun D C h' tk m' oC ys news' F' N' hC hJ hp hDC hD _=>fin D C h' tk m' oC ys news' F' N' hC hJ hp hDC ?_) ht
  cases z:s.heap.get? D with
  | none=>rfl
  | some o=>have:=Heap.get?_push_of_some { cls:=.type "range_iterator",data:=.fields #[rawInt a,rawInt n,rawInt 1] } z; rw [hD] at this; cases this
theorem srcV {Q:Value→Shared→Prop} {use:Option (Value→Sem Unit)} {v d:Addr} {kvs:List (Int×Value)} {ep:Nat} (hh:A.handled=none) (F:Fr g L s.heap m) (N:News g L s.heap news) (hv:s.heap.IsValuesView v d) (hm:g.DictAt (intKind prog w) d kvs ep) (hz:kvs.length≤1000)
    (J:Addr→Nat→List Value→(Str→Option Value)→List (Addr×Obj)→Prop) (h0:∀ C,J C 0 [] (fun _=>none) (celsOf (cellsFrom (C+1) scope.names [])++news))
    (step:CStep prog w A s env g L target elt ifs scope cl s.heap.objs.size [s.heap.objs.size,d] kvs.length (fun i v=>∃ k,kvs[i]?=some (k,v)) J)
    (fin:∀ D C h' tk m' oC ys news',Fr g L h' m→News g L h' ((C,oC)::(D,W.listOf (List.toArray ys) ys.length)::news')→(∃ mC,LCg.NsObj oC mC)→J C kvs.length ys m' news'→(∀ p∈news',p.1≠C∧p.1∉[s.heap.objs.size,D,L])→D≠C→s.heap.get? D=none →
      compPost (model prog w) A E use Q (.ref D) C (.ok .next) (up s h' tk))
    (ht:∀ v,letOwnedTupleGo target (.ref s.heap.objs.size) v=pure ():=by intro _; rfl) :
    wpAny (model prog w) A (pyIter (.ref v)) (CBeg prog w A E env elt target iter ifs scope cl pos use Q) E s:=by
  refine wpAny_pyIter_values hv (hm.at' fun o e=>F.keep _ _ e) ?_
  have hLs:L≠s.heap.objs.size:=Nat.ne_of_lt F.ns.lt
  have hdL:d≠L:=by
    obtain ⟨o,_,ho,_⟩:=hm
    exact Nat.ne_of_lt (Nat.lt_of_lt_of_le (Heap.lt_size ho) F.above)
  have hdI:d≠s.heap.objs.size:=by
    obtain ⟨o,_,ho,_⟩:=hm
    exact Nat.ne_of_lt (Heap.lt_size (F.keep _ _ ho))
  have F':=F.push { cls:=.type "dict_valueiterator",data:=.fields #[.ref d,.int 0 0,.int kvs.length 0,.int ep 0] }
  have N':News g L (s.heap.push { cls:=.type "dict_valueiterator",data:=.fields #[.ref d,.int 0 0,.int kvs.length 0,.int ep 0] }) news:=(grow F N fun b o e=>Heap.get?_push_of_some _ e).2
  refine compBlk (s:=up s (s.heap.push { cls:=.type "dict_valueiterator",data:=.fields #[.ref d,.int 0 0,.int kvs.length 0,.int ep 0] }) s.toks) (Walks.dictValues (knd:=intKind prog w) hh s.heap.objs.size d hdI kvs ep) hz
    (fun i h hs b hb=>by
      rcases List.mem_cons.mp hb with rfl | hb
      · exact let ⟨⟨o,z,_⟩,_⟩:=hs; ⟨o,z⟩
      · rw [List.mem_singleton] at hb; subst hb; exact let ⟨_,⟨o,_,z,_⟩⟩:=hs; ⟨o,z⟩)
    ⟨⟨_,Heap.get?_push_size _ rfl,rfl,rfl⟩,hm.at' fun o e=>F'.keep _ _ e⟩ (by simp [hLs,hdL.symm]) (size_none F) F' N' (fun p hp=>Nat.ne_of_lt (Heap.lt_size (N p hp).1)) J h0 step (fun D C h' tk m' oC ys news' F' N' hC hJ hp hDC hD _=>fin D C h' tk m' oC ys news' F' N' hC hJ hp hDC ?_) ht
  cases z:s.heap.get? D with
  | none=>rfl
  | some o=>have:=Heap.get?_push_of_some { cls:=.type "dict_valueiterator",data:=.fields #[.ref d,.int 0 0,.int kvs.length 0,.int ep 0] } z; rw [hD] at this; cases this
end
section
variable {M:Model} {A:Around} {E:Value→Shared→Prop} {s:Shared} {env:Env} {g:Heap} {L:Addr} {m:Str→Option Value} {news news':List (Addr×Obj)}
noncomputable abbrev cel (o:Obj) (v:Option Value):Obj:=⟨o.cls,o.dict,.cell v,o.slots⟩
theorem ldC {x:Str} {pos:Pos} {c:Addr} {o:Obj} {v:Value} {Q:Value→Shared→Prop} (N:News g L s.heap news) (hm:(c,cel o (some v))∈news) (h:Q v s)
    (hc:env.cells.lookup x=some c:=by kernel_rfl) (hk:env.scope.kind=.function:=by rfl) (hl:env.kindOf x=some .cell:=by kernel_rfl) (hd:(x==("__debug__":Str))=false:=by kernel_rfl) :
    wpAny M A (eval (.Name x pos) env) Q E s:=wpAny_Name (wpAny_loadName_cell hk hl hc ⟨_,(N _ hm).1,rfl⟩ h) hd
theorem stC {x:Str} {c:Addr} {o:Obj} {v₀:Option Value} {v:Value} {Q:Unit→Shared→Prop} (F:Fr g L s.heap m) (N:News g L s.heap news) (U:Upd c (cel o v₀) (cel o (some v)) news news')
    (h:∀ h',Fr g L h' m→News g L h' news'→Q () (up s h' s.toks))
    (hc:env.cells.lookup x=some c:=by kernel_rfl) (hk:env.scope.kind=.function:=by rfl) (hl:env.kindOf x=some .cell:=by kernel_rfl):wpAny M A (storeName env x v) Q E s:=by
  obtain ⟨pre,post,rfl,rfl,a,b⟩:=U.split
  have z:=N (c,cel o v₀) (List.mem_append_right _ (.head _))
  unfold storeName
  simp only [hl,hk]
  refine wpAny_bind (wpAny_cellOf hc ?_)
  unfold cellSet
  refine wpAny_bind (wpAny_load z.1 ?_)
  refine wpAny_update z.1 (h _ (F.change (Heap.SameBut.update ..) z.2.1 z.2.2) (news_same (o':=cel o (some v)) N (Heap.SameBut.update ..) (Heap.get?_update_self (o:=cel o v₀) _ z.1 rfl) a b))
end
section
variable {prog:Program} {w:World} {A:Around} {s:Shared}
theorem enterC {R:Result→Shared→Prop} {a:Addr} {fd:FuncData} {body:List Stmt} {vals:List Value} {binds:List (Str×Value)} {W:List (Addr×Obj)}
    (hroom:A.depth<recursionLimit) (ho:s.heap.get? a=some ⟨.type "function",none,.func fd,#[]⟩) (hlim:s.heap.NoLimit) (hcd:s.heap.CodeRec fd.code fd.qualname)
    (hW:∀ p∈W,s.heap.get? p.1=some p.2)
    (hbody:fd.body=.stmts body) (hbind:bindArgs fd ⟨vals,[]⟩=pure binds) (hclo:fd.closure=[])
    (hkind:∀ L,(binds.all fun x=>decide (fd.scope.names.lookup x.1=some .local) || (decide (fd.scope.names.lookup x.1=some .cell) && ((cellsFrom (L+1) fd.scope.names []).lookup x.1).isSome))=true)
    (hlk:∀ L,∀ x∈cellsFrom (L+1) fd.scope.names [],(cellsFrom (L+1) fd.scope.names []).lookup x.1=some x.2)
    (h:∀ L h₀ tk (co:Addr→Obj),Fr (hideAll s.heap (W.map (·.1))) L h₀ (bindL (callEnvC fd L a).kindOf binds fun _=>none) →
      News (hideAll s.heap (W.map (·.1))) L h₀ ((cellsFrom (L+1) fd.scope.names []).map (fun x=>(x.2,cel (co x.2) (bindC (callEnvC fd L a).kindOf binds (fun _=>none) x.1)))++W)→(∀ x∈cellsFrom (L+1) fd.scope.names [],s.heap.get? x.2=none)→∀ A₁ R₁ E₁,Deeper A A₁ (callEnvC fd L a)→(∀ v s',R (.ok (.ret v)) s'→R₁ (.ret v) s')→(∀ s',R (.ok (.ret .none)) s'→R₁ .next s') →
      wpAny (model prog w) A₁ (execs body (callEnvC fd L a)) R₁ E₁ (up s h₀ tk))
    (hco:fd.scope.isCoroutine=false:=by rfl) (hgen:fd.scope.isGenerator=false:=by rfl) (hk:fd.scope.kind=.function:=by rfl) :
    codeAny (model prog w) A (.call (.ref a) ⟨vals,[]⟩) R s:=by
  refine codeAny_call_cells hroom ho rfl hlim hcd hbody hbind hclo (fun x hx=>?_) (fun s₁ X=>?_) hco hgen hk
  · have:=List.all_eq_true.mp (hkind s.heap.objs.size) x hx
    simp only [Bool.or_eq_true,Bool.and_eq_true,decide_eq_true_eq] at this
    exact this
  obtain ⟨h₀,tk,rfl,kp⟩:=X.done
  have cell:∀ x∈cellsFrom (s.heap.objs.size+1) fd.scope.names [],∃ o:Obj,h₀.get? x.2=some (cel o (bindC (callEnvC fd s.heap.objs.size a).kindOf binds (fun _=>none) x.1)):=fun x hx=>by
    obtain ⟨o,e,d⟩:=X.cell x.1 x.2 (hlk _ x hx)
    refine ⟨o,?_⟩
    rw [e]
    obtain ⟨c,d',dt,sl⟩:=o
    obtain rfl:dt=_:=d
    rfl
  have above:∀ x∈cellsFrom (s.heap.objs.size+1) fd.scope.names [],s.heap.objs.size<x.2:=fun x hx=>X.above x.1 x.2 hx
  have fresh:∀ x∈cellsFrom (s.heap.objs.size+1) fd.scope.names [],s.heap.get? x.2=none:=fun x hx=>Heap.get?_none_of_le (Nat.le_of_lt (above x hx))
  let co:Addr→Obj:=fun c=>(h₀.get? c).getD default
  refine h s.heap.objs.size h₀ tk co ⟨X.toInCall.ns,fun b o e=>X.toInCall.keep b o (of_hideAll _ e),Nat.le_of_eq (hideAll_size _ _)⟩ (fun p hp=>?_) fresh _ _ _ (.mk' A _) (fun _ _ x=>x) (fun _ x=>x)
  rcases List.mem_append.mp hp with q | q
  · obtain ⟨x,hx,rfl⟩:=List.mem_map.mp q
    obtain ⟨o,e⟩:=cell x hx
    refine ⟨?_,Nat.ne_of_gt (above x hx),?_⟩
    · show h₀.get? x.2=some (cel (co x.2) _)
      have:co x.2=cel o (bindC (callEnvC fd s.heap.objs.size a).kindOf binds (fun _=>none) x.1):=by show (h₀.get? x.2).getD default=_; rw [e]; rfl
      rw [this]; exact e
    · cases z:(hideAll s.heap (W.map (·.1))).get? x.2 with
      | none=>rfl
      | some o=>have:=of_hideAll _ z; rw [fresh x hx] at this; cases this
  · exact ⟨kp _ _ (hW p q),Nat.ne_of_lt (Heap.lt_size (hW p q)),hideAll_none _ (List.mem_map_of_mem q)⟩
end
end
section
open PyProof.Rows.TI (Frs SameUp)
noncomputable def readyP (st:List AN):List Int:=(st.filter fun e=>e.2.1==0).map (·.1)
theorem backF {g h h' : Heap} {L : Addr} {oL : Obj} {m : Str → Option Value} {frs fs' rest : List (Addr × Obj)} (F : Fr g L h m) (N : News g L h (frs ++ rest)) (hLo : h.get? L = some oL) (ex : Ext (L :: frs.map (·.1)) h h') (SU : SameUp ((L, oL) :: frs) fs') (hfs : ∀ p ∈ fs', h'.get? p.1 = some p.2)
    (hsep:∀ p∈rest,p.1∉frs.map (·.1)):∃ frs',Fr g L h' m∧News g L h' (frs'++rest)∧SameUp frs frs':=by
  cases fs' with
  | nil=>exact SU.elim
  | cons q frs' =>
    obtain ⟨h1,⟨sl,h2⟩,SU'⟩:=SU
    have hq:=hfs q (.head _)
    rw [h1,h2] at hq
    have gn:∀ b∈L::frs.map (·.1),g.get? b=none:=fun b hb=>by
      rcases List.mem_cons.mp hb with rfl | hb
      · exact Heap.get?_none_of_le F.above
      · obtain ⟨p,hp,rfl⟩:=List.mem_map.mp hb
        exact (N p (List.mem_append_left _ hp)).2.2
    refine ⟨frs',⟨?_,fun b o e=>ex.keep b o (fun q=>by rw [gn b q] at e; cases e) (F.keep b o e),F.above⟩,fun p hp=>?_,SU'⟩
    · obtain ⟨o,es,ep,ho,hd,r⟩:=F.ns
      rw [hLo] at ho; cases ho
      exact ⟨_,es,ep,hq,hd,r⟩
    · rcases List.mem_append.mp hp with z | z
      · have:p.1∈frs.map (·.1):=by rw [← sameUp_addr SU']; exact List.mem_map_of_mem z
        obtain ⟨p',hp',e⟩:=List.mem_map.mp this
        have n':=N p' (List.mem_append_left _ hp')
        exact ⟨hfs p (.tail _ z),by rw [← e]; exact n'.2.1,by rw [← e]; exact n'.2.2⟩
      · have n':=N p (List.mem_append_right _ z)
        refine ⟨ex.keep _ _ (fun q=>?_) n'.1,n'.2⟩
        rcases List.mem_cons.mp q with q | q
        · exact n'.2.1 q
        · exact hsep p z q
theorem frs_cons {env:Env} {l:List Env} {g h:Heap} {L:Addr} {oL:Obj} {m:Str→Option Value} {frs:List (Addr×Obj)} (F:Fr g L h m) (hLo:h.get? L=some oL) (Fs:Frs l frs) (hk:env.scope.kind=.function) (hf:env.frame=some L):Frs (env::l) ((L,oL)::frs):=by
  refine ⟨by rw [hk]; decide,hf,?_,Fs⟩
  obtain ⟨o,es,ep,ho,hd,r⟩:=F.ns
  rw [hLo] at ho; cases ho
  exact ⟨es,ep,hd⟩
theorem fr_obj {g h:Heap} {L:Addr} {m:Str→Option Value} (F:Fr g L h m):∃ oL,h.get? L=some oL:=let ⟨o,_,_,ho,_⟩:=F.ns; ⟨o,ho⟩
section
variable {prog:Program} {w:World} {A:Around} {E:Value→Shared→Prop} {s:Shared} {O dx D:Addr} {n:Nat} {t1 t2 t3 t4:Tok} {vc vd:Value} {nds:List Nd} {rk:Int→Nat} {l:List Env} {frs0:List (Addr×Obj)}
end
noncomputable section
namespace Zprepare
abbrev D0:=(((((Program)×(World))×(Around))×(((Shared)×(Around))×(Addr)))×((((Addr)×(Addr))×(Nat))×(((Tok)×(Tok))×(Tok))))×(((((Tok)×(Value))×(Value))×(((List Nd)×(Int→Nat))×(List Env)))×((((List (Addr×Obj))×(Addr))×(Heap))×(((Nat)×(Flow→Shared→Prop))×(Value→Shared→Prop))))
abbrev P0 (prog:Program) (w:World) (A:Around) (s:Shared) (A₁:Around) (O dx D:Addr) (n:Nat) (t1 t2 t3 t4:Tok) (vc vd:Value) (nds:List Nd) (rk:Int→Nat) (l:List Env) (frs0:List (Addr×Obj)) (L:Addr) (h₀:Heap) (tk₀:Nat) (R₁:Flow→Shared→Prop) (E₁:Value→Shared→Prop):Prop:=∀ (rm:Room A 4) (hfr:A.frames=some l) (Fs:Frs l frs0) (hW:∀ p∈frs0,s.heap.get? p.1=some p.2) (hdxf:dx∉frs0.map (·.1)) (T:Wd w (hideAll s.heap (dx::frs0.map (·.1)))) (gO:(hideAll s.heap (dx::frs0.map (·.1))).get? O=some (instObj 196 dx)) (hdx:s.heap.get? dx=some (dictOf (sd w t1 t2 t3 t4 (.ref D) .none vc vd) n)) (gD:(hideAll s.heap (dx::frs0.map (·.1))).DictOf (intKind prog w) D (kvsOf nds)) (lo:(D==sysModules)=false) (ok:Nok nds) (gN:∀ p∈led nds,(hideAll s.heap (dx::frs0.map (·.1))).get? p.1=some p.2) (hz:nds.length≤500) (hrk:∀ r∈nds,∀ x∈r.ss,x∈nds.map (·.k)∧rk r.k<rk x) (h:∀ h' tk' frs' R rv rn,Ext (dx::frs0.map (·.1)) s.heap h'→SameUp frs0 frs'→(∀ p∈frs',h'.get? p.1=some p.2)→h'.get? dx=some (dictOf (sd w t1 t2 t3 t4 (.ref D) (.ref R) vc vd) n)→h'.get? R=some (W.listOf (List.toArray rv) rn) →
      IntsAre rv (readyP (absOf nds))→s.heap.get? R=none→R₁ .next (up s h' tk')) (hL:L=s.heap.objs.size) (F:Fr (hideAll s.heap (((dx,dictOf (sd w t1 t2 t3 t4 (.ref D) .none vc vd) n)::frs0:List (Addr×Obj)).map (·.1))) L h₀ (fun y9=>([(("self":Str),.ref O)]:List (Str×Value)).reverse.lookup y9)) (N:News (hideAll s.heap (((dx,dictOf (sd w t1 t2 t3 t4 (.ref D) .none vc vd) n)::frs0:List (Addr×Obj)).map (·.1))) L h₀ ((dx,dictOf (sd w t1 t2 t3 t4 (.ref D) .none vc vd) n)::frs0)) (dA:Deeper A A₁ (callEnv (fd151 w) L 151)),wpAny (model prog w) A₁ (execs (stm (fd151 w)) (callEnv (fd151 w) L 151)) R₁ E₁ (up s h₀ tk₀)
abbrev P1 (d:D0):=P0 d.1.1.1.1.1 d.1.1.1.1.2 d.1.1.1.2 d.1.1.2.1.1 d.1.1.2.1.2 d.1.1.2.2 d.1.2.1.1.1 d.1.2.1.1.2 d.1.2.1.2 d.1.2.2.1.1 d.1.2.2.1.2 d.1.2.2.2 d.2.1.1.1.1 d.2.1.1.1.2 d.2.1.1.2 d.2.1.2.1.1 d.2.1.2.1.2 d.2.1.2.2 d.2.2.1.1.1 d.2.2.1.1.2 d.2.2.1.2 d.2.2.2.1.1 d.2.2.2.1.2 d.2.2.2.2
theorem ne0:Nonempty D0:=⟨(((((Challenge.pw_ny0293_01,Classical.choice neW),callerA),((Classical.choice neS,callerA),default)),default),default)⟩
@[irreducible] def d0:D0:=@Classical.epsilon D0 ne0 fun d=>¬ P1 d
def prog:=d0.1.1.1.1.1
def w:=d0.1.1.1.1.2
def A:=d0.1.1.1.2
def s:=d0.1.1.2.1.1
def A₁:=d0.1.1.2.1.2
def O:=d0.1.1.2.2
def dx:=d0.1.2.1.1.1
def D:=d0.1.2.1.1.2
def n:=d0.1.2.1.2
def t1:=d0.1.2.2.1.1
def t2:=d0.1.2.2.1.2
def t3:=d0.1.2.2.2
def t4:=d0.2.1.1.1.1
def vc:=d0.2.1.1.1.2
def vd:=d0.2.1.1.2
def nds:=d0.2.1.2.1.1
def rk:=d0.2.1.2.1.2
def l:=d0.2.1.2.2
def frs0:=d0.2.2.1.1.1
def L:=d0.2.2.1.1.2
def h₀:=d0.2.2.1.2
def tk₀:=d0.2.2.2.1.1
def R₁:=d0.2.2.2.1.2
def E₁:=d0.2.2.2.2
theorem bd0:P0 prog w A s A₁ O dx D n t1 t2 t3 t4 vc vd nds rk l frs0 L h₀ tk₀ R₁ E₁:=by
  intro rm hfr Fs hW hdxf T gO hdx gD lo ok gN hz hrk h hL F N dA
  refine with_stm (P:=fun b=>wpAny (model prog w) A₁ (execs b (callEnv (fd151 w) L 151)) R₁ E₁ (up s h₀ tk₀)) rfl ?_
  show wpAny _ _ (execs (_::_) _) _ _ _
  have rm':=dA.room rm
  simp only [List.map_cons] at F N
  generalize hg:hideAll s.heap (dx::frs0.map (·.1))=g at F N T gO gD gN
  have kd:=(N _ (.head _)).1
  obtain ⟨ep,gDa⟩:=gD.dictAt
  refine wpAny_execs_cons<|wpAny_If<|wpAny_isTrue_Compare1<|Attribute_name<|ld F rfl<|getS T F (F.keep _ _ gO) kd sd_rdy fun _=>wpAny_Constant_none<|wpAny_isNot_self rfl<|wpAny_truthy_bool ?_
  first | refine ifF (by simp) ?_ | rw [if_neg (by simp)]
  refine wpAny_execs_nil<|?_
  have hD0:Tab prog w h₀ D (kvsOf nds):=⟨gD.keep F.keep,lo⟩
  refine wpAny_execs_cons<|plainObj_wpAny_Assign_Attribute<|lcG (cl:=[]) (by rfl)<|methodCall_KW<|Attribute_name<|ld (s:=tkd (up s _ _) _) F rfl<|getS (s:=tkd (up s _ _) _) T F (F.keep _ _ gO) kd sd_n2i fun tk1=>dMeth (s:=tkd (up s _ _) _) hD0 PySem.F.slot_dict_values PySem.F.type_dict_values<|callWith_method0 <|
    call_meetsIn (s:=tkd (up s _ _) _) PySem.F.slot_dict_values hD0.1.typeIs PySem.F.entry_dict_values (PySem.F.args_dict_values_1 _) (meets_dict_values _ D hD0.2) ⟨⟨kvsOf nds,hD0.1⟩,?_⟩
  have F1:=F.push { cls:=.type "dict_values",data:=.fields #[.ref D] }
  have N1:=(grow F N (h':=h₀.push { cls:=.type "dict_values",data:=.fields #[.ref D] }) fun b o e=>Heap.get?_push_of_some _ e).2
  have hkl:(kvsOf nds).length=nds.length:=by simp [kvsOf]
  let Jv0:Addr→Nat→List Value→(Str→Option Value)→List (Addr×Obj)→Prop:=fun _ i ys _ news'=>news'=(dx,dictOf (sd w t1 t2 t3 t4 (.ref D) .none vc vd) n)::frs0∧IntsAre ys (readyP ((absOf nds).take i))
  refine srcV (s:=up s _ _) rm'.handled F1 N1 ⟨_,Heap.get?_push_size _ rfl,rfl,rfl⟩ gDa (by rw [hkl]; lia)
    Jv0 (fun C=>⟨rfl,.nil⟩) ?_ ?_
  · intro E' i v C D' ys m₁ news₁ h₁ tk₁ own hi hP hJ hw hav hcov F₁ N₁
    obtain ⟨rfl,hys⟩:=hJ
    obtain ⟨k,hk⟩:=hP
    obtain ⟨r,hr,hrv⟩:∃ r,nds[i]?=some r∧v=.ref r.a:=by
      unfold kvsOf at hk
      rw [List.getElem?_map] at hk
      obtain ⟨r,hr,e⟩:=Option.map_eq_some_iff.mp hk
      exact ⟨r,hr,(congrArg Prod.snd e).symm⟩
    subst hrv
    have hrm:=List.mem_of_getElem? hr
    have gr:∀ p∈r.led,g.get? p.1=some p.2:=fun p hp=>gN p (mem_led hrm hp)
    have htk:readyP ((absOf nds).take (i+1))=readyP ((absOf nds).take i)++if (r.np==0)=true then [r.k] else []:=by
      have:(absOf nds)[i]?=some (r.k,r.np,r.ss):=by unfold absOf; rw [List.getElem?_map,hr]; rfl
      unfold readyP
      rw [List.take_succ,this]
      simp only [Option.toList_some,List.filter_append,List.map_append]
      congr 1
      by_cases hc:(r.np==0)=true
      · simp [hc]
      · simp [hc]
    refine wpAny_assign_Name<|st (s:=up s _ _) F₁ N₁ fun h2 tk2 F2 N2=>wpAny_tests_one<|wpAny_isTrue_Compare1<|Attribute_name<|ld (s:=up s _ _) F2 rfl<|getNp (s:=up s _ _) T F2 (F2.keep _ _ (gr _ (.head _))) (F2.keep _ _ (gr _ (.tail _ (.head _)))) rfl fun _=>cint fun _ _=>eq_int<|wpAny_truthy_bool ?_
    by_cases hc:(r.np==0)=true
    · rw [if_pos hc]
      refine Attribute_name<|ld (s:=tkd (up s _ _) _) F2 rfl<|getNode (s:=tkd (up s _ _) _) T F2 (F2.keep _ _ (gr _ (.head _))) (F2.keep _ _ (gr _ (.tail _ (.head _)))) rfl fun _=>?_
      refine CT.mk (s:=up s _ _) F2 N2 hw ⟨rfl,?_⟩
      rw [htk,if_pos hc]
      exact IntsAre.snoc hys r.k r.kt
    · rw [if_neg hc]
      refine CT.mk (s:=up s _ _) F2 N2 hw ⟨rfl,?_⟩
      rw [htk,if_neg hc,List.append_nil]
      exact hys
  intro R C h2 tk2 m2 oC ys news2 F2 N2 hoC hJ hp hRC hR0
  obtain ⟨rfl,hys⟩:=hJ
  have hys':IntsAre ys (readyP (absOf nds)):=by
    have:(absOf nds).length≤(kvsOf nds).length:=by rw [hkl]; simp [absOf]
    rw [List.take_of_length_le this] at hys; exact hys
  have hRn:h₀.get? R=none:=by
    cases z:h₀.get? R with
    | none=>rfl
    | some o=>have:=Heap.get?_push_of_some { cls:=.type "dict_values",data:=.fields #[.ref D] } z; rw [hR0] at this; cases this
  refine postN (s:=up s _ _) F2 N2 hoC (fun p hp'=>?_) fun h3 F3 N3=>?_
  · rcases List.mem_cons.mp hp' with rfl | hp'
    · exact hRC
    · exact (hp p hp').1
  have Rdx:R≠dx:=fun e=>by rw [e,kd] at hRn; cases hRn
  have frne:∀ p∈frs0,p.1≠dx:=fun p hp e=>hdxf (e ▸ List.mem_map_of_mem hp)
  refine ld (s:=up s _ _) F3 rfl<|setS (s:=up s _ _) T F3 N3 (F3.keep _ _ gO) (N3 _ (.tail _ (.head _))).1 (by rw [sd_rdy]; rfl) sd_put_rdy (.tail Rdx (.head frne)) (by simp [sd]) fun h4 tk4 F4 N4=>?_
  obtain ⟨oL,hoL⟩:=fr_obj F4
  have gL:g.get? L=none:=Heap.get?_none_of_le F4.above
  have gfr:∀ p∈frs0,g.get? p.1=none:=fun p hp=>(N4 p (.tail _ (.tail _ hp))).2.2
  have gW:∀ a∈((L,oL)::frs0).map (·.1),g.get? a=none:=fun a ha=>by
    rcases List.mem_cons.mp ha with rfl | ha
    · exact gL
    · obtain ⟨p,hp,rfl⟩:=List.mem_map.mp ha; exact gfr p hp
  have kp:=hide_keeps (W:=((L,oL)::frs0).map (·.1)) F4.keep gW
  have dxW:dx∉((L,oL)::frs0).map (·.1):=fun q=>by
    rcases List.mem_cons.mp q with q | q
    · exact (N4 _ (.tail _ (.head _))).2.1 q
    · exact hdxf q
  refine wpAny_execs_cons<|wpAny_Assign_Name<|methodCall_KW<|ld (s:=up s _ _) F4 rfl<|methS (s:=up s _ _) T F4 (F4.keep _ _ gO) (N4 _ (.tail _ (.head _))).1 sd_cycle (f:=186)<|callWith_K0 (K:=K w) (T.X.keeps F4.keep) (by kernel_rfl) <|
    cycle_call (s:=up s _ _) (rk:=rk) (rm'.le (by lia)) (dA.frames _ hfr) (frs_cons F4 hoL Fs (by kernel_rfl) (by kernel_rfl)) (fun p hp=>by
      rcases List.mem_cons.mp hp with rfl | hp
      · exact hoL
      · exact (N4 p (.tail _ (.tail _ hp))).1) (T.keeps kp) (kp _ _ gO) (hideAll_get _ (N4 _ (.tail _ (.head _))).1 dxW) (gD.keep kp) lo ok (fun p hp=>kp _ _ (gN p hp)) hz hrk fun h5 tk5 frs5 ex5 SU5 hf5=>?_
  have N4':News g L h4 (frs0++[(R,W.listOf (List.toArray ys) ys.length),(dx,dictOf (sd w t1 t2 t3 t4 (.ref D) (.ref R) vc vd) n)]):=news_sub N4 fun p hp=>by
    rcases List.mem_append.mp hp with q | q
    · exact .tail _ (.tail _ q)
    · rcases List.mem_cons.mp q with rfl | q
      · exact .head _
      · rw [List.mem_singleton] at q; subst q; exact .tail _ (.head _)
  obtain ⟨frs',F5,N5,SU'⟩:=backF F4 N4' hoL ex5 SU5 hf5 (fun p hp q=>by
    rcases List.mem_cons.mp hp with rfl | hp
    · obtain ⟨p',hp',e⟩:=List.mem_map.mp q
      have:=hW p' hp'
      have hh:h₀.get? p'.1=some p'.2:=(N _ (.tail _ hp')).1
      rw [e,hRn] at hh; cases hh
    · rw [List.mem_singleton] at hp; subst hp; exact hdxf q)
  refine st (s:=up s _ _) F5 N5 fun h6 tk6 F6 N6=>?_
  refine wpAny_execs_cons<|wpAny_If<|wpAny_isTrue_value<|ld (s:=up s _ _) F6 rfl<|truthy_none ?_
  first | refine ifF (by simp) ?_ | rw [if_neg (by simp)]
  refine wpAny_execs_nil<|wpAny_execs_nil ?_
  have hRs:s.heap.get? R=none:=by
    subst hg
    rcases hide_or (N6 _ (List.mem_append_right _ (.head _))).2.2 with q | q
    · rcases List.mem_cons.mp q with q | q
      · exact absurd q Rdx
      · obtain ⟨p',hp',e⟩:=List.mem_map.mp q
        have hh:h₀.get? p'.1=some p'.2:=(N _ (.tail _ hp')).1
        rw [e,hRn] at hh; cases hh
    · exact q
  subst hg
  exact h h6 tk6 frs' R ys ys.length (ext_of_fr F6) SU' (fun p hp=>(N6 p (List.mem_append_left _ hp)).1) (N6 _ (List.mem_append_right _ (.tail _ (.head _)))).1 (N6 _ (List.mem_append_right _ (.head _))).1 hys' hRs
theorem al0:∀ d,P1 d:=epsAll ne0 P1 (by with_unfolding_all exact bd0)
end Zprepare
end
section
variable {prog:Program} {w:World} {A:Around} {E:Value→Shared→Prop} {s:Shared} {O dx D:Addr} {n:Nat} {t1 t2 t3 t4:Tok} {vc vd:Value} {nds:List Nd} {rk:Int→Nat} {l:List Env} {frs0:List (Addr×Obj)}
theorem prepare_call {Q:Value→Shared→Prop} (rm:Room A 4) (hfr:A.frames=some l) (Fs:Frs l frs0) (hW:∀ p∈frs0,s.heap.get? p.1=some p.2) (hdxf:dx∉frs0.map (·.1)) (T:Wd w (hideAll s.heap (dx::frs0.map (·.1)))) (gO:(hideAll s.heap (dx::frs0.map (·.1))).get? O=some (instObj 196 dx)) (hdx:s.heap.get? dx=some (dictOf (sd w t1 t2 t3 t4 (.ref D) .none vc vd) n)) (gD:(hideAll s.heap (dx::frs0.map (·.1))).DictOf (intKind prog w) D (kvsOf nds)) (lo:(D==sysModules)=false) (ok:Nok nds) (gN:∀ p∈led nds,(hideAll s.heap (dx::frs0.map (·.1))).get? p.1=some p.2) (hz:nds.length≤500) (hrk:∀ r∈nds,∀ x∈r.ss,x∈nds.map (·.k)∧rk r.k<rk x) (h:∀ h' tk' frs' R rv rn,Ext (dx::frs0.map (·.1)) s.heap h'→SameUp frs0 frs'→(∀ p∈frs',h'.get? p.1=some p.2)→h'.get? dx=some (dictOf (sd w t1 t2 t3 t4 (.ref D) (.ref R) vc vd) n)→h'.get? R=some (W.listOf (List.toArray rv) rn) →
      IntsAre rv (readyP (absOf nds))→s.heap.get? R=none→Q .none (up s h' tk')):wpAny (model prog w) A (call (.ref 151) [.ref O]) Q E s:=by
  have hW':∀ p∈(dx,dictOf (sd w t1 t2 t3 t4 (.ref D) .none vc vd) n)::frs0,s.heap.get? p.1=some p.2:=fun p hp=>by
    rcases List.mem_cons.mp hp with rfl | hp
    · exact hdx
    · exact hW p hp
  refine wpAny_call (enter (W:=(dx,dictOf (sd w t1 t2 t3 t4 (.ref D) .none vc vd) n)::frs0) (binds:=[(("self":Str),.ref O)]) rm.le' (fn151 T.of_hide.X) T.of_hide.lim (cd151 T.of_hide.X) hW' rfl
    (BindsTo.of_eq (by kernel_rfl)) (by kernel_rfl) (by kernel_rfl) ?_ (by kernel_rfl) (by kernel_rfl) (by kernel_rfl))
  intro L h₀ tk₀ hL F N A₁ R₁ E₁ dA hret hnone
  exact Zprepare.al0 (((((prog,w),A),((s,A₁),O)),(((dx,D),n),((t1,t2),t3))),((((t4,vc),vd),((nds,rk),l)),(((frs0,L),h₀),((tk₀,R₁),E₁)))) rm hfr Fs hW hdxf T gO hdx gD lo ok gN hz hrk (fun x0 x1 x2 x3 x4 x5 x6 x7 x8 x9 x10 x11 x12=>hnone _ (h x0 x1 x2 x3 x4 x5 x6 x7 x8 x9 x10 x11 x12)) hL F N dA
end
end
section
open PySem.SeqAt (EqAt RcAt RcNeAt)
open AutoSeq1 (wpAny_loadPart')
theorem all_eq {α:Type} [BEq α] (d:α):∀ (as bs:List α),as.length=bs.length→((List.range as.length).all fun j=>as.getD j d==bs.getD j d)=(as==bs)
  | [],[],_=>rfl
  | a::as,b::bs,h=>by
    have ih:=all_eq d as bs (by simpa using h)
    rw [List.length_cons,List.range_succ_eq_map,List.all_cons,List.all_map]
    rw [show ((a::as)==(b::bs))=((a==b) && (as==bs)) from rfl,← ih]
    rfl
noncomputable def sLt (a b:List Nat):Bool:=decide (a<b)
noncomputable def ltRows:List (List Nat)→List (List Nat)→Bool
  | [],[]=>false
  | [],_::_=>true
  | _::_,[]=>false
  | a::as,b::bs=>if a==b then ltRows as bs else sLt a b
noncomputable def ltGo (z:Bool) (e lt:Nat→Bool):Nat→Nat→Bool
  | 0,_=>z
  | f+1,i=>if e i then ltGo z e lt f (i+1) else lt i
theorem ltGo_rows : ∀ (as bs : List (List Nat)) (e lt : Nat → Bool) (i : Nat), (∀ j, j < min as.length bs.length → e (i + j) = (as.getD j [] == bs.getD j []) ∧ lt (i + j) = sLt (as.getD j []) (bs.getD j [])) →
    ltGo (decide (as.length<bs.length)) e lt (min as.length bs.length) i=ltRows as bs
  | [],[],_,_,_,_=>by simp [ltGo,ltRows]
  | [],_::_,_,_,_,_=>by simp [ltGo,ltRows]
  | _::_,[],_,_,_,_=>by simp [ltGo,ltRows]
  | a::as,b::bs,e,lt,i,h=>by
    have e1:min (a::as).length (b::bs).length=min as.length bs.length+1:=by simp
    rw [e1]
    unfold ltGo ltRows
    have h0:=h 0 (by lia)
    simp only [Nat.add_zero,List.getD_cons_zero] at h0
    rw [h0.1,h0.2]
    split
    · have:=ltGo_rows as bs e lt (i+1) (fun j hj=>by
        have:=h (j+1) (by lia)
        simpa [Nat.add_assoc,Nat.add_comm 1 j] using this)
      simpa using this
    · rfl
theorem beq_swap (a b:List Nat):(a==b)=(b==a):=by
  cases h:a==b with
  | true=>rw [eq_of_beq h]; exact (beq_self_eq_true b).symm
  | false=>cases h2:b==a with
    | false=>rfl
    | true=>rw [eq_of_beq h2] at h; rw [beq_self_eq_true a] at h; cases h
theorem gtGo_rows (as bs:List (List Nat)) (e gt:Nat→Bool) (i:Nat) (h:∀ j,j<min as.length bs.length→e (i+j)=(as.getD j []==bs.getD j [])∧gt (i+j)=sLt (bs.getD j []) (as.getD j [])) :
    ltGo (decide (as.length > bs.length)) e gt (min as.length bs.length) i=ltRows bs as:=by
  have:=ltGo_rows bs as e gt i (fun j hj=>by
    have:=h j (by lia)
    refine ⟨?_,this.2⟩
    rw [this.1]
    exact beq_swap _ _)
  rw [Nat.min_comm] at this
  exact this
noncomputable def RcOp (op:CmpOp) (A:Around) (s:Shared) (y x:Value) (b:Bool):Prop :=
  ∀ (prog:Program) (w:World) (E:Value→Shared→Prop) (Q:Value→Shared→Prop),Q (.bool b) s→wpAny (model prog w) A (richCompare op y x) Q E s
theorem lt_loop (l b : Addr) (items items2 : Array Value) (n n2 : Nat) (dd dd2 : Option Addr) (sl sl2 : Array (Option Value)) (e lt : Nat → Bool) (k : Nat) :
    ∀ i:Nat,min items.size items2.size - i=k→Meets (Builtin.«list.__eq__.loop» ⟨[.ref l,.ref b,rawInt i,rawInt 0],[]⟩)
      (fun A R s=>s.heap.get? l=some { cls:=.type "list",dict:=dd,data:=.seq items n,slots:=sl }∧s.heap.get? b=some { cls:=.type "list",dict:=dd2,data:=.seq items2 n2,slots:=sl2 } ∧
        (∀ j (h1:j<items.size) (h2:j<items2.size),EqAt A.in1 s items[j] items2[j] (e j)∧RcOp .Lt A.in1 s items[j] items2[j] (lt j)) ∧
        R (.ok (.ret (.bool (ltGo (decide (items.size<items2.size)) e lt k i)))) s):=by
  induction k with
  | zero =>
    intro i hk prog w A R s h
    obtain ⟨hp,g,d,tk,os⟩:=s; obtain ⟨hl,hb,he,h⟩:=h
    wp_walk using wpAny_loadPart' hl,wpAny_loadPart' hb
    by_cases h1:i<items.size
    · have hi1:items[((i:Nat):Int).toNat]?=some items[i]:=by simp [h1]
      have hi2:items2[((i:Nat):Int).toNat]?=none:=by simp; lia
      rw [hi1,hi2]
      wp_walk using wpAny_loadPart' hl,wpAny_loadPart' hb
      exact h
    · have hi1:items[((i:Nat):Int).toNat]?=none:=by simp; lia
      rw [hi1]
      wp_walk using wpAny_loadPart' hl,wpAny_loadPart' hb
      exact h
  | succ k ih =>
    intro i hk prog w A R s h
    obtain ⟨hp,g,d,tk,os⟩:=s; obtain ⟨hl,hb,he,h⟩:=h
    wp_walk using wpAny_loadPart' hl,wpAny_loadPart' hb
    have hlt:i<items.size:=by lia
    have hlt2:i<items2.size:=by lia
    have hi1:items[((i:Nat):Int).toNat]?=some items[i]:=by simp [hlt]
    have hi2:items2[((i:Nat):Int).toNat]?=some items2[i]:=by simp [hlt2]
    have hc:((i:Int)+1)=((i+1:Nat):Int):=by push_cast; rfl
    rw [hi1,hi2]
    unfold ltGo at h
    refine wpAny_bind ((he i hlt hlt2).1 prog w _ _ ?_)
    cases hb':e i with
    | true =>
      rw [hb',if_pos rfl] at h
      wp_walk
      rw [hc]
      exact ⟨plainId_quiet MeetsSeq3.plain_eq_loop _,codeAny_builtin MeetsSeq3.entry_eq_loop (by
        rw [Around.under_plainId MeetsSeq3.plain_eq_loop _]
        exact ih (i+1) (by lia) prog w A R _ ⟨hl,hb,he,h⟩)⟩
    | false =>
      rw [hb',if_neg (by simp)] at h
      wp_walk using wpAny_loadPart' hl,wpAny_loadPart' hb
      rw [hi1,hi2]
      refine wpAny_bind ((he i hlt hlt2).2 prog w _ _ ?_)
      wp_walk
      exact h
theorem list_lt (l b : Addr) (items items2 : Array Value) (n n2 : Nat) (dd dd2 : Option Addr) (sl sl2 : Array (Option Value)) (e lt : Nat → Bool) :
    Meets (Builtin.«list.__lt__» ⟨[.ref l,.ref b],[]⟩)
      (fun A R s=>s.heap.get? l=some { cls:=.type "list",dict:=dd,data:=.seq items n,slots:=sl }∧s.heap.get? b=some { cls:=.type "list",dict:=dd2,data:=.seq items2 n2,slots:=sl2 } ∧
        (∀ j (h1:j<items.size) (h2:j<items2.size),EqAt A.in1 s items[j] items2[j] (e j)∧RcOp .Lt A.in1 s items[j] items2[j] (lt j)) ∧
        R (.ok (.ret (.bool (ltGo (decide (items.size<items2.size)) e lt (min items.size items2.size) 0)))) s):=by
  intro prog w A R s h
  obtain ⟨hp,g,d,tk,os⟩:=s; obtain ⟨hl,hb,he,h⟩:=h
  have f3:=AutoSeq1.sub_list_list
  wp_walk using wpAny_loadPart' hl,wpAny_loadPart' hb
  exact ⟨plainId_quiet MeetsSeq3.plain_eq_loop _,codeAny_builtin MeetsSeq3.entry_eq_loop (by
    rw [Around.under_plainId MeetsSeq3.plain_eq_loop _]
    exact lt_loop l b items items2 n n2 dd dd2 sl sl2 e lt _ 0 (Nat.sub_zero _) prog w A R _ ⟨hl,hb,he,h⟩)⟩
theorem gt_loop (l b : Addr) (items items2 : Array Value) (n n2 : Nat) (dd dd2 : Option Addr) (sl sl2 : Array (Option Value)) (e lt : Nat → Bool) (k : Nat) :
    ∀ i:Nat,min items.size items2.size - i=k→Meets (Builtin.«list.__eq__.loop» ⟨[.ref l,.ref b,rawInt i,rawInt 4],[]⟩)
      (fun A R s=>s.heap.get? l=some { cls:=.type "list",dict:=dd,data:=.seq items n,slots:=sl }∧s.heap.get? b=some { cls:=.type "list",dict:=dd2,data:=.seq items2 n2,slots:=sl2 } ∧
        (∀ j (h1:j<items.size) (h2:j<items2.size),EqAt A.in1 s items[j] items2[j] (e j)∧RcOp .Gt A.in1 s items[j] items2[j] (lt j)) ∧
        R (.ok (.ret (.bool (ltGo (decide (items.size > items2.size)) e lt k i)))) s):=by
  induction k with
  | zero =>
    intro i hk prog w A R s h
    obtain ⟨hp,g,d,tk,os⟩:=s; obtain ⟨hl,hb,he,h⟩:=h
    wp_walk using wpAny_loadPart' hl,wpAny_loadPart' hb
    by_cases h1:i<items.size
    · have hi1:items[((i:Nat):Int).toNat]?=some items[i]:=by simp [h1]
      have hi2:items2[((i:Nat):Int).toNat]?=none:=by simp; lia
      rw [hi1,hi2]
      wp_walk using wpAny_loadPart' hl,wpAny_loadPart' hb
      exact h
    · have hi1:items[((i:Nat):Int).toNat]?=none:=by simp; lia
      rw [hi1]
      wp_walk using wpAny_loadPart' hl,wpAny_loadPart' hb
      exact h
  | succ k ih =>
    intro i hk prog w A R s h
    obtain ⟨hp,g,d,tk,os⟩:=s; obtain ⟨hl,hb,he,h⟩:=h
    wp_walk using wpAny_loadPart' hl,wpAny_loadPart' hb
    have hlt:i<items.size:=by lia
    have hlt2:i<items2.size:=by lia
    have hi1:items[((i:Nat):Int).toNat]?=some items[i]:=by simp [hlt]
    have hi2:items2[((i:Nat):Int).toNat]?=some items2[i]:=by simp [hlt2]
    have hc:((i:Int)+1)=((i+1:Nat):Int):=by push_cast; rfl
    rw [hi1,hi2]
    unfold ltGo at h
    refine wpAny_bind ((he i hlt hlt2).1 prog w _ _ ?_)
    cases hb':e i with
    | true =>
      rw [hb',if_pos rfl] at h
      wp_walk
      rw [hc]
      exact ⟨plainId_quiet MeetsSeq3.plain_eq_loop _,codeAny_builtin MeetsSeq3.entry_eq_loop (by
        rw [Around.under_plainId MeetsSeq3.plain_eq_loop _]
        exact ih (i+1) (by lia) prog w A R _ ⟨hl,hb,he,h⟩)⟩
    | false =>
      rw [hb',if_neg (by simp)] at h
      wp_walk using wpAny_loadPart' hl,wpAny_loadPart' hb
      rw [hi1,hi2]
      refine wpAny_bind ((he i hlt hlt2).2 prog w _ _ ?_)
      wp_walk
      exact h
theorem list_gt (l b : Addr) (items items2 : Array Value) (n n2 : Nat) (dd dd2 : Option Addr) (sl sl2 : Array (Option Value)) (e lt : Nat → Bool) :
    Meets (Builtin.«list.__gt__» ⟨[.ref l,.ref b],[]⟩)
      (fun A R s=>s.heap.get? l=some { cls:=.type "list",dict:=dd,data:=.seq items n,slots:=sl }∧s.heap.get? b=some { cls:=.type "list",dict:=dd2,data:=.seq items2 n2,slots:=sl2 } ∧
        (∀ j (h1:j<items.size) (h2:j<items2.size),EqAt A.in1 s items[j] items2[j] (e j)∧RcOp .Gt A.in1 s items[j] items2[j] (lt j)) ∧
        R (.ok (.ret (.bool (ltGo (decide (items.size > items2.size)) e lt (min items.size items2.size) 0)))) s):=by
  intro prog w A R s h
  obtain ⟨hp,g,d,tk,os⟩:=s; obtain ⟨hl,hb,he,h⟩:=h
  have f3:=AutoSeq1.sub_list_list
  wp_walk using wpAny_loadPart' hl,wpAny_loadPart' hb
  exact ⟨plainId_quiet MeetsSeq3.plain_eq_loop _,codeAny_builtin MeetsSeq3.entry_eq_loop (by
    rw [Around.under_plainId MeetsSeq3.plain_eq_loop _]
    exact gt_loop l b items items2 n n2 dd dd2 sl sl2 e lt _ 0 (Nat.sub_zero _) prog w A R _ ⟨hl,hb,he,h⟩)⟩
section
variable {A:Around} {s:Shared}
theorem strs_at {vs:List Value} {rs:List (List Nat)} (h:Strs vs rs) {j:Nat} (hj:j<vs.toArray.size):∃ t,vs.toArray[j]=.str (S (rs.getD j [])) t:=by
  have hj':j<rs.length:=by rw [← h.length]; simpa using hj
  obtain ⟨t,e⟩:=h.get j (rs.getD j []) (by simp [hj'])
  refine ⟨t,?_⟩
  simp only [List.size_toArray] at hj
  rw [List.getElem?_eq_getElem hj] at e
  simpa using e
theorem strs_items {vs us:List Value} {rs qs:List (List Nat)} (h:Strs vs rs) (h':Strs us qs) (j:Nat) (h1:j<vs.toArray.size) (h2:j<us.toArray.size):EqAt A s vs.toArray[j] us.toArray[j] (rs.getD j []==qs.getD j []):=by
  obtain ⟨t,e1⟩:=strs_at h h1
  obtain ⟨u,e2⟩:=strs_at h' h2
  rw [e1,e2,← S_beq]
  exact SeqAt.EqAt.str_str _ _ _ _
theorem strs_lt {vs us:List Value} {rs qs:List (List Nat)} (h:Strs vs rs) (h':Strs us qs) (j:Nat) (h1:j<vs.toArray.size) (h2:j<us.toArray.size):RcOp .Lt A s vs.toArray[j] us.toArray[j] (sLt (rs.getD j []) (qs.getD j [])):=by
  obtain ⟨t,e1⟩:=strs_at h h1
  obtain ⟨u,e2⟩:=strs_at h' h2
  rw [e1,e2]
  exact fun prog w E Q hq=>PySem.P.lt_str hq
theorem strs_gt {vs us:List Value} {rs qs:List (List Nat)} (h:Strs vs rs) (h':Strs us qs) (j:Nat) (h1:j<vs.toArray.size) (h2:j<us.toArray.size):RcOp .Gt A s vs.toArray[j] us.toArray[j] (sLt (qs.getD j []) (rs.getD j [])):=by
  obtain ⟨t,e1⟩:=strs_at h h1
  obtain ⟨u,e2⟩:=strs_at h' h2
  rw [e1,e2]
  exact fun prog w E Q hq=>PySem.P.gt_str hq
noncomputable def StrsAt (h:Heap) (l:Addr) (rs:List (List Nat)):Prop:=∃ vs n,h.get? l=some (W.listOf (List.toArray vs) n)∧Strs vs rs
theorem StrsAt.keeps {h h':Heap} {l:Addr} {rs:List (List Nat)} (x:StrsAt h l rs) (hk:∀ b o,h.get? b=some o→h'.get? b=some o):StrsAt h' l rs:=let ⟨vs,n,e,r⟩:=x; ⟨vs,n,hk _ _ e,r⟩
theorem rc_eq {l b:Addr} {rs qs:List (List Nat)} (X:StrsAt s.heap l rs) (Y:StrsAt s.heap b qs) (hu:A.units<cLine):RcAt A s (.ref l) (.ref b) (rs==qs):=by
  obtain ⟨vs,n,hl,h1⟩:=X
  obtain ⟨us,n2,hb,h2⟩:=Y
  by_cases hz:rs.length=qs.length
  · have:=SeqAt.RcAt.lists (e:=fun j=>rs.getD j []==qs.getD j []) (s:=s) (A:=A) (items:=vs.toArray) (items2:=us.toArray) ⟨_,hl,rfl,_,rfl⟩ ⟨_,hb,rfl,_,rfl⟩ (by simp [h1.length,h2.length,hz]) hu (fun j a b=>strs_items h1 h2 j a b)
    rw [show vs.toArray.size=rs.length by simp [h1.length],all_eq [] rs qs hz] at this
    exact this
  · have:=SeqAt.RcAt.lists_lengths (s:=s) (A:=A) (items:=vs.toArray) (items2:=us.toArray) ⟨_,hl,rfl,_,rfl⟩ ⟨_,hb,rfl,_,rfl⟩ (by simp [h1.length,h2.length,hz]) hu
    have e:(rs==qs)=false:=beq_eq_false_iff_ne.mpr fun q=>hz (by rw [q])
    rw [e]; exact this
theorem rc_ne {l b:Addr} {rs qs:List (List Nat)} (X:StrsAt s.heap l rs) (Y:StrsAt s.heap b qs) (hu:A.units<cLine):RcNeAt A s (.ref l) (.ref b) (!(rs==qs)):=by
  obtain ⟨vs,n,hl,h1⟩:=X
  obtain ⟨us,n2,hb,h2⟩:=Y
  by_cases hz:rs.length=qs.length
  · have:=SeqAt.RcNeAt.lists (e:=fun j=>rs.getD j []==qs.getD j []) (s:=s) (A:=A) (items:=vs.toArray) (items2:=us.toArray) ⟨_,hl,rfl,_,rfl⟩ ⟨_,hb,rfl,_,rfl⟩ (by simp [h1.length,h2.length,hz]) hu (fun j a b=>strs_items h1 h2 j a b)
    rw [show vs.toArray.size=rs.length by simp [h1.length],all_eq [] rs qs hz] at this
    exact this
  · have:=SeqAt.RcNeAt.lists_lengths (s:=s) (A:=A) (items:=vs.toArray) (items2:=us.toArray) ⟨_,hl,rfl,_,rfl⟩ ⟨_,hb,rfl,_,rfl⟩ (by simp [h1.length,h2.length,hz]) hu
    have e:(rs==qs)=false:=beq_eq_false_iff_ne.mpr fun q=>hz (by rw [q])
    rw [e]; exact this
theorem rc_lt {l b:Addr} {rs qs:List (List Nat)} (X:StrsAt s.heap l rs) (Y:StrsAt s.heap b qs) (hu:A.units<cLine):RcOp .Lt A s (.ref l) (.ref b) (ltRows rs qs):=by
  obtain ⟨vs,n,hl,h1⟩:=X
  obtain ⟨us,n2,hb,h2⟩:=Y
  intro prog w E Q hq
  have z:=ltGo_rows rs qs (fun j=>rs.getD j []==qs.getD j []) (fun j=>sLt (rs.getD j []) (qs.getD j [])) 0 (fun j _=>by simp)
  refine richCompare_meets_room (op:=.Lt) ⟨_,hl,rfl⟩ ⟨_,hb,rfl⟩ PySem.F.slot_list_lt PySem.F.entry_list_lt (PySem.F.args_list_lt_2 _ _) (list_lt l b vs.toArray us.toArray n n2 none none #[] #[] (fun j=>rs.getD j []==qs.getD j []) (fun j=>sLt (rs.getD j []) (qs.getD j [])))
    ⟨hl,hb,fun j a b=>⟨strs_items h1 h2 j a b,strs_lt h1 h2 j a b⟩,?_⟩ hu
  rw [show vs.toArray.size=rs.length by simp [h1.length],show us.toArray.size=qs.length by simp [h2.length],z]
  exact ⟨(fun x=>nomatch x),hq⟩
theorem rc_gt {l b:Addr} {rs qs:List (List Nat)} (X:StrsAt s.heap l rs) (Y:StrsAt s.heap b qs) (hu:A.units<cLine):RcOp .Gt A s (.ref l) (.ref b) (ltRows qs rs):=by
  obtain ⟨vs,n,hl,h1⟩:=X
  obtain ⟨us,n2,hb,h2⟩:=Y
  intro prog w E Q hq
  have z:=gtGo_rows rs qs (fun j=>rs.getD j []==qs.getD j []) (fun j=>sLt (qs.getD j []) (rs.getD j [])) 0 (fun j _=>by simp)
  refine richCompare_meets_room (op:=.Gt) ⟨_,hl,rfl⟩ ⟨_,hb,rfl⟩ PySem.F.slot_list_gt PySem.F.entry_list_gt (PySem.F.args_list_gt_2 _ _) (list_gt l b vs.toArray us.toArray n n2 none none #[] #[] (fun j=>rs.getD j []==qs.getD j []) (fun j=>sLt (qs.getD j []) (rs.getD j [])))
    ⟨hl,hb,fun j a b=>⟨strs_items h1 h2 j a b,strs_gt h1 h2 j a b⟩,?_⟩ hu
  rw [show vs.toArray.size=rs.length by simp [h1.length],show us.toArray.size=qs.length by simp [h2.length],z]
  exact ⟨(fun x=>nomatch x),hq⟩
theorem eqa_rows {l b : Addr} {rs qs : List (List Nat)} (X : StrsAt s.heap l rs) (Y : StrsAt s.heap b qs) (hu : A.units < cLine) : EqAt A s (.ref l) (.ref b) (rs == qs) := by
  by_cases h:l=b
  · subst h
    obtain ⟨vs,n,hl,h1⟩:=X
    obtain ⟨us,n2,hb,h2⟩:=Y
    rw [hl] at hb
    have e0:=congrArg (fun o:Option Obj=>o.map (·.data)) hb
    simp [W.listOf] at e0
    obtain ⟨rfl,_⟩:=e0
    have:rs=qs:=by
      clear hb hl
      induction h1 generalizing qs with
      | nil=>cases h2; rfl
      | cons e h ih =>
        cases h2 with
        | cons e' h' =>
          rw [e] at e'
          injection e' with e1 e2
          rw [S_inj e1,ih h']
    subst this
    rw [beq_self_eq_true]
    exact SeqAt.EqAt.same _
  · exact SeqAt.EqAt.of_refs h (rc_eq X Y hu)
end
end
section
noncomputable def dotted (r:List Nat):List Nat:=if r.take 1==[46] then 46::r else r
theorem dotted_length (r:List Nat):(dotted r).length≤r.length+1:=by unfold dotted; split <;> simp
theorem s_dot:(Str.ofString ".")=S [46]:=by kernel_rfl
noncomputable def Small (rows:List (List Nat)):Prop:=rows.length≤20∧∀ r∈rows,r.length≤20
noncomputable abbrev Ml:=List (Addr×List (List Nat))
theorem map_take_succ {α β:Type} (f:α→β) (l:List α) {i:Nat} {x:α} (h:l[i]?=some x):(l.take (i+1)).map f=(l.take i).map f++[f x]:=by
  rw [List.take_add_one,h]; simp
section
variable {prog:Program} {w:World} {A:Around} {E:Value→Shared→Prop} {s:Shared}
end
noncomputable section
namespace Zsent
abbrev D0:=((((Program)×(World))×((Around)×(Shared)))×(((Around)×(Addr))×(Ml)))×((((Nat)×(Addr))×(Heap))×(((Nat)×(Flow→Shared→Prop))×(Value→Shared→Prop)))
abbrev P0 (prog:Program) (w:World) (A:Around) (s:Shared) (A₁:Around) (M:Addr) (ml:Ml) (n:Nat) (L:Addr) (h₀:Heap) (tk₀:Nat) (R₁:Flow→Shared→Prop) (E₁:Value→Shared→Prop):Prop:=∀ (rm:Room A 1) (T:Wd w s.heap) (hM:s.heap.get? M=some (W.listOf (List.toArray (ml.map fun p=>Value.ref p.1)) n)) (hR:∀ p∈ml,StrsAt s.heap p.1 p.2∧Small p.2) (hz:ml.length≤100) (h:∀ h' tk' D vs n',Ext [] s.heap h'→h'.get? D=some (W.listOf (List.toArray vs) n')→Strs vs (ml.map fun p=>sentOf p.2)→s.heap.get? D=none→R₁ (.ret (.ref D)) (up s h' tk')) (hL:L=s.heap.objs.size) (F:Fr (hideAll s.heap (([]:List (Addr×Obj)).map (·.1))) L h₀ (fun y9=>([(("mails":Str),.ref M)]:List (Str×Value)).reverse.lookup y9)) (N:News (hideAll s.heap (([]:List (Addr×Obj)).map (·.1))) L h₀ ([])) (dA:Deeper A A₁ (callEnv (fd236 w) L 236)),wpAny (model prog w) A₁ (execs (stm (fd236 w)) (callEnv (fd236 w) L 236)) R₁ E₁ (up s h₀ tk₀)
abbrev P1 (d:D0):=P0 d.1.1.1.1 d.1.1.1.2 d.1.1.2.1 d.1.1.2.2 d.1.2.1.1 d.1.2.1.2 d.1.2.2 d.2.1.1.1 d.2.1.1.2 d.2.1.2 d.2.2.1.1 d.2.2.1.2 d.2.2.2
theorem ne0:Nonempty D0:=⟨((((Challenge.pw_ny0293_01,Classical.choice neW),(callerA,Classical.choice neS)),((callerA,default),default)),default)⟩
@[irreducible] def d0:D0:=@Classical.epsilon D0 ne0 fun d=>¬ P1 d
def prog:=d0.1.1.1.1
def w:=d0.1.1.1.2
def A:=d0.1.1.2.1
def s:=d0.1.1.2.2
def A₁:=d0.1.2.1.1
def M:=d0.1.2.1.2
def ml:=d0.1.2.2
def n:=d0.2.1.1.1
def L:=d0.2.1.1.2
def h₀:=d0.2.1.2
def tk₀:=d0.2.2.1.1
def R₁:=d0.2.2.1.2
def E₁:=d0.2.2.2
theorem bd0:P0 prog w A s A₁ M ml n L h₀ tk₀ R₁ E₁:=by
  intro rm T hM hR hz h hL F N dA
  refine with_stm (P:=fun b=>wpAny (model prog w) A₁ (execs b (callEnv (fd236 w) L 236)) R₁ E₁ (up s h₀ tk₀)) rfl ?_
  show wpAny _ _ (execs (_::_) _) _ _ _
  have rm':=dA.room rm
  change News s.heap L h₀ [] at N
  change Fr s.heap L h₀ _ at F
  have ML:M≠L:=Nat.ne_of_lt (Nat.lt_of_lt_of_le (Heap.lt_size hM) F.above)
  let Jv0:Addr→Nat→List Value→(Str→Option Value)→List (Addr×Obj)→Prop:=fun _ i ys _ news'=>news'=[]∧Strs ys ((ml.take i).map fun p=>sentOf p.2)
  refine wpAny_execs_cons<|wpAny_Return_some<|lcG (cl:=[]) (by rfl)<|ld F rfl<|srcL (vs:=ml.map fun p=>Value.ref p.1) rm'.handled F N ⟨_,F.keep _ _ hM,rfl,_,rfl⟩ ML (by rw [List.length_map]; lia)
    Jv0 (fun C=>⟨rfl,.nil⟩) ?_ ?_
  · intro E' i v C D ys m₁ news₁ h₁ tk₁ own hi hP hJ hw hav hcov F₁ N₁
    obtain ⟨rfl,hys⟩:=hJ
    obtain ⟨p,hp,rfl⟩:∃ p,ml[i]?=some p∧v=.ref p.1:=by
      rw [List.getElem?_map] at hP
      obtain ⟨p,hp,e⟩:=Option.map_eq_some_iff.mp hP
      exact ⟨p,hp,e.symm⟩
    obtain ⟨⟨vs,nn,hvs,hstr⟩,hsm⟩:=hR p (List.mem_of_getElem? hp)
    have hlen:=hstr.length
    refine wpAny_assign_Name<|st (s:=up s _ _) F₁ N₁ fun h2 tk2 F2 N2=>wpAny_tests_nil ?_
    first | refine ifT rfl ?_ | rw [if_pos rfl]
    let Jv1:Addr→Nat→List Value→(Str→Option Value)→List (Addr×Obj)→Prop:=fun _ j zs _ news'=>news'=[]++own∧Strs zs ((p.2.take j).map dotted)
    refine methodCall_KW<|cstrS s_crlf fun t3 tk3=>PySem.GM.join<|callWith_method1<|spliced_more<|lcG (cl:=[]) (by rfl)<|ld (s:=tkd (up s _ _) _) F2 rfl <|
      srcL (s:=tkd (up s _ _) _) (vs:=vs) rm'.handled F2 N2 ⟨_,F2.keep _ _ hvs,rfl,_,rfl⟩ (fun e=>by have:=(F2.keep _ _ hvs); exact absurd (Nat.lt_of_lt_of_le (Heap.lt_size hvs) F2.above) (by rw [e]; exact Nat.lt_irrefl _)) (by have:=hsm.1; lia)
      Jv1 (fun C=>⟨rfl,.nil⟩) ?_ ?_
    · intro E2 j u C2 D2 zs m₂ news₂ h3 tk4 own2 hj hPu hJ2 hw2 hav2 hcov2 F3 N3
      obtain ⟨rfl,hzs⟩:=hJ2
      have hj':j<p.2.length:=by rw [← hlen]; exact hj
      obtain ⟨tu,hu⟩:=hstr.get j p.2[j] (List.getElem?_eq_getElem hj')
      rw [hPu] at hu
      obtain rfl:=Option.some.inj hu
      have hrl:=hsm.2 p.2[j] (List.getElem_mem hj')
      refine wpAny_assign_Name<|st (s:=up s _ _) F3 N3 fun h4 tk5 F4 N4=>wpAny_tests_nil ?_
      first | refine ifT rfl ?_ | rw [if_pos rfl]
      refine wpAny_IfExp<|wpAny_isTrue_Compare1<|Subscript_<|ld (s:=up s _ _) F4 rfl<|wpAny_Slice<|wpAny_evalPart_none<|wpAny_evalPart_some<|cint fun _ _=>wpAny_evalPart_none<|slcTo (s:=tkd (up s _ _) _) F4 N4 (by lia) (by lia) fun h5 t5 tk6 F5 N5=>?_
      refine cstrS s_dot fun _ _=>eqS<|wpAny_truthy_bool ?_
      have hst:Strs (zs++[Value.str (S (dotted p.2[j])) tu]) ((p.2.take (j+1)).map dotted)→True:=fun _=>trivial
      have e1:(p.2.take (j+1)).map dotted=(p.2.take j).map dotted++[dotted p.2[j]]:=map_take_succ dotted p.2 (List.getElem?_eq_getElem hj')
      by_cases hc:(p.2[j].take (Int.toNat 1)==[46])=true
      · rw [if_pos hc]
        refine wpAny_BinOp<|cstrS s_dot fun _ _=>ld (s:=tkd (up s _ _) _) F5 rfl<|addS (s:=tkd (up s _ _) _) (by simp; lia) fun t7 tk7=>?_
        refine CT.mk (s:=up s _ _) F5 N5 hw2 ⟨rfl,?_⟩
        rw [e1]
        have:dotted p.2[j]=[46]++p.2[j]:=by unfold dotted; exact if_pos hc
        rw [this]
        exact hzs.snoc
      · rw [if_neg hc]
        refine ld (s:=tkd (up s _ _) _) F5 rfl ?_
        refine CT.mk (s:=up s _ _) F5 N5 hw2 ⟨rfl,?_⟩
        rw [e1]
        have:dotted p.2[j]=p.2[j]:=by unfold dotted; exact if_neg hc
        rw [this]
        exact hzs.snoc
    · intro D2 C2 h3 tk4 m3 oC zs news3 F3 N3 hoC hJ2 hp3 hDC hD0
      obtain ⟨rfl,hzs⟩:=hJ2
      rw [hlen,List.take_length] at hzs
      refine postN (s:=up s _ _) F3 N3 hoC (fun q hq=>?_) fun h4 F4 N4=>?_
      · rcases List.mem_cons.mp hq with rfl | hq
        · exact hDC
        · exact (hp3 q hq).1
      refine spliced_none<|joinS (s:=up s _ _) (k:=21) (N4 _ (.head _)).1 hzs (fun r hr=>?_) (by simp; have:=hsm.1; lia) fun t5 tk5=>?_
      · obtain ⟨r0,hr0,rfl⟩:=List.mem_map.mp hr
        have:=dotted_length r0
        have:=hsm.2 r0 hr0
        lia
      refine CT.mk (s:=up s _ _) F4 (fun q hq=>N4 q (.tail _ hq)) hw ⟨rfl,?_⟩
      rw [map_take_succ (fun p:Addr×List (List Nat)=>sentOf p.2) ml hp]
      exact hys.snoc
  · intro D C h' tk m' oC ys news' F' N' hoC hJ hp hDC hD0
    obtain ⟨rfl,hys⟩:=hJ
    rw [List.length_map,List.take_length] at hys
    refine postN (s:=up s _ _) F' N' hoC (fun q hq=>?_) fun h4 F4 N4=>?_
    · rw [List.mem_singleton] at hq; subst hq; exact hDC
    refine h h4 _ D ys _ (ext_of_fr (W:=[]) F4) (N4 _ (.head _)).1 hys ?_
    exact (N4 _ (.head _)).2.2
theorem al0:∀ d,P1 d:=epsAll ne0 P1 (by with_unfolding_all exact bd0)
end Zsent
end
section
variable {prog:Program} {w:World} {A:Around} {E:Value→Shared→Prop} {s:Shared}
theorem sent_call {Q:Value→Shared→Prop} {M:Addr} {ml:Ml} {n:Nat} (rm:Room A 1) (T:Wd w s.heap) (hM:s.heap.get? M=some (W.listOf (List.toArray (ml.map fun p=>Value.ref p.1)) n)) (hR:∀ p∈ml,StrsAt s.heap p.1 p.2∧Small p.2) (hz:ml.length≤100) (h:∀ h' tk' D vs n',Ext [] s.heap h'→h'.get? D=some (W.listOf (List.toArray vs) n')→Strs vs (ml.map fun p=>sentOf p.2)→s.heap.get? D=none→Q (.ref D) (up s h' tk')):wpAny (model prog w) A (call (.ref 236) [.ref M]) Q E s:=by
  refine wpAny_call (enter (W:=[]) (binds:=[(("mails":Str),.ref M)]) rm.le' (fn236 T.X) T.lim (cd236 T.X) (fun p hp=>noMem hp) rfl
    (BindsTo.of_eq (by kernel_rfl)) (by kernel_rfl) (by kernel_rfl) ?_ (by kernel_rfl) (by kernel_rfl) (by kernel_rfl))
  intro L h₀ tk₀ hL F N A₁ R₁ E₁ dA hret hnone
  exact Zsent.al0 ((((prog,w),(A,s)),((A₁,M),ml)),(((n,L),h₀),((tk₀,R₁),E₁))) rm T hM hR hz (fun x0 x1 x2 x3 x4 x5 x6 x7 x8=>hret _ _ (h x0 x1 x2 x3 x4 x5 x6 x7 x8)) hL F N dA
end
end
section
theorem pick_to (vs:List Value) {k:Int} (h0:0≤k):slicePick vs.toArray none (some k) none=(vs.take k.toNat).toArray:=by
  by_cases hk:k.toNat≤vs.length
  · have:=slicePick_upto vs.toArray k.toNat (by simpa using hk)
    rw [show ((k.toNat:Nat):Int)=k by lia] at this
    simpa using this
  · have:=slicePick_upto vs.toArray vs.length (by simp)
    have e:sliceBounds none (some k) none vs.toArray.size=sliceBounds none (some ((vs.length:Nat):Int)) none vs.toArray.size:=by
      simp only [sliceBounds,Option.getD_none,List.size_toArray,show (1:Int) > 0 by decide,if_true,if_neg (show ¬ k<0 by lia),if_neg (show ¬ ((vs.length:Nat):Int)<0 by lia)]
      congr 1; congr 1; lia
    unfold slicePick at this ⊢
    rw [e,this,List.take_of_length_le (l:=vs) (i:=k.toNat) (by lia)]
    simp
theorem pick_init (vs:List Value):slicePick vs.toArray none (some (-1)) none=(vs.take (vs.length - 1)).toArray:=by
  have:=slicePick_upto vs.toArray (vs.length - 1) (by simp)
  have e:sliceBounds none (some (-1)) none vs.toArray.size=sliceBounds none (some (((vs.length - 1):Nat):Int)) none vs.toArray.size:=by
    simp only [sliceBounds,Option.getD_none,List.size_toArray,show (1:Int) > 0 by decide,if_true,if_pos (show (-1:Int)<0 by lia),if_neg (show ¬ (((vs.length - 1):Nat):Int)<0 by lia)]
    congr 1; congr 1; lia
  unfold slicePick at this ⊢
  rw [e,this]
theorem pick_last (vs:List Value):slicePick vs.toArray (some (-1)) none none=(vs.drop (vs.length - 1)).toArray:=by
  have:=slicePick_from vs.toArray (vs.length - 1) (by simp)
  have e:sliceBounds (some (-1)) none none vs.toArray.size=sliceBounds (some (((vs.length - 1):Nat):Int)) none none vs.toArray.size:=by
    simp only [sliceBounds,Option.getD_none,List.size_toArray,show (1:Int) > 0 by decide,if_true,if_pos (show (-1:Int)<0 by lia),if_neg (show ¬ (((vs.length - 1):Nat):Int)<0 by lia)]
    congr 1; lia
  unfold slicePick at this ⊢
  rw [e,this]
section
variable {prog:Program} {w:World} {A:Around} {E:Value→Shared→Prop} {s:Shared} {g:Heap} {L:Addr} {m:Str→Option Value} {news:List (Addr×Obj)} {value:Expr} {l:Addr} {vs:List Value}
theorem slice_any {slice:Expr} {items:Array Value} {vl vu:Value} {lo hi:Option Int} {ops:List Value} {Q:Value→Shared→Prop} (F:Fr g L s.heap m) (N:News g L s.heap news) (hl:s.heap.IsList l items) (pl:IsPart vl lo) (pu:IsPart vu hi)
    (h:∀ h',Fr g L h' m→News g L h' ((s.heap.objs.size+1,{ cls:=.type "list",data:=.seq (slicePick items lo hi none) })::news)→Q (.ref (s.heap.objs.size+1)) { s with heap:=h' })
    (hs:subscripted slice false (.ref l) (.ref s.heap.objs.size)=operate ops (getItem (.ref l) (.ref s.heap.objs.size))) (hsz:items.size≤sizeLine) :
    wpAny (model prog w) A (subscriptTail value slice (.ref l) (.ref s.heap.objs.size)) Q E { s with heap:=s.heap.push { cls:=.type "slice",data:=.fields #[vl,vu,.none] } }:=by
  refine tail_any (Heap.IsList.typeIs (s:={ s with heap:=s.heap.push { cls:=.type "slice",data:=.fields #[vl,vu,.none] } }) (hl.push _)) list_getitem_lookup
    (wpAny_getItem_list_slice (hl.push _) (Heap.IsSliceOf.new ..) pl pu .none (by simp) ?_ hsz) hs
  have N1:=News.push (F.push { cls:=.type "slice",data:=.fields #[vl,vu,.none] }) (N.grown fun _ _ e=>Heap.get?_push_of_some _ e) { cls:=.type "list",data:=.seq (slicePick items lo hi none) }
  rw [Heap.size_push] at N1
  show Q (.ref (s.heap.push _).objs.size) _
  rw [Heap.size_push]
  exact h _ ((F.push _).push _) N1
theorem slcLto {hi:Expr} {k:Int} {u:Tok} {p:Pos} {Q:Value→Shared→Prop} (F:Fr g L s.heap m) (N:News g L s.heap news) (hl:s.heap.IsList l vs.toArray) (hz:vs.length<2 ^ 20) (h0:0≤k)
    (h:∀ D h',Fr g L h' m→News g L h' ((D,W.listOf (vs.take k.toNat).toArray 0)::news)→(∀ p∈news,p.1<D)→s.heap.get? D=none→Q (.ref D) (up s h' s.toks))
    (hs:subscripted (.Slice none (some hi) none p) false (.ref l) (.ref s.heap.objs.size)=operate [.ref s.heap.objs.size,.ref l] (getItem (.ref l) (.ref s.heap.objs.size)):=by with_unfolding_all rfl) :
    wpAny (model prog w) A (subscriptTail value (.Slice none (some hi) none p) (.ref l) (.ref s.heap.objs.size)) Q E { s with heap:=s.heap.push { cls:=.type "slice",data:=.fields #[.none,.int k u,.none] } } :=
  slice_any F N hl .none (.int k u) (fun h' F' N'=>by
    rw [pick_to vs h0] at N'
    exact h _ h' F' N' (fun p hp=>Nat.lt_succ_of_lt (Heap.lt_size (N p hp).1)) (Heap.get?_none_of_le (Nat.le_succ _))) hs (by rw [List.size_toArray,sizeLine_eq]; lia)
theorem slcLinit {hi:Expr} {u:Tok} {p:Pos} {Q:Value→Shared→Prop} (F:Fr g L s.heap m) (N:News g L s.heap news) (hl:s.heap.IsList l vs.toArray) (hz:vs.length<2 ^ 20)
    (h:∀ D h',Fr g L h' m→News g L h' ((D,W.listOf (vs.take (vs.length - 1)).toArray 0)::news)→(∀ p∈news,p.1<D)→s.heap.get? D=none→Q (.ref D) (up s h' s.toks))
    (hs:subscripted (.Slice none (some hi) none p) false (.ref l) (.ref s.heap.objs.size)=operate [.ref s.heap.objs.size,.ref l] (getItem (.ref l) (.ref s.heap.objs.size)):=by with_unfolding_all rfl) :
    wpAny (model prog w) A (subscriptTail value (.Slice none (some hi) none p) (.ref l) (.ref s.heap.objs.size)) Q E { s with heap:=s.heap.push { cls:=.type "slice",data:=.fields #[.none,.int (-1) u,.none] } } :=
  slice_any F N hl .none (.int (-1) u) (fun h' F' N'=>by
    rw [pick_init vs] at N'
    exact h _ h' F' N' (fun p hp=>Nat.lt_succ_of_lt (Heap.lt_size (N p hp).1)) (Heap.get?_none_of_le (Nat.le_succ _))) hs (by rw [List.size_toArray,sizeLine_eq]; lia)
theorem slcLlast {lo:Expr} {u:Tok} {p:Pos} {Q:Value→Shared→Prop} (F:Fr g L s.heap m) (N:News g L s.heap news) (hl:s.heap.IsList l vs.toArray) (hz:vs.length<2 ^ 20)
    (h:∀ D h',Fr g L h' m→News g L h' ((D,W.listOf (vs.drop (vs.length - 1)).toArray 0)::news)→(∀ p∈news,p.1<D)→s.heap.get? D=none→Q (.ref D) (up s h' s.toks))
    (hs:subscripted (.Slice (some lo) none none p) false (.ref l) (.ref s.heap.objs.size)=operate [.ref s.heap.objs.size,.ref l] (getItem (.ref l) (.ref s.heap.objs.size)):=by with_unfolding_all rfl) :
    wpAny (model prog w) A (subscriptTail value (.Slice (some lo) none none p) (.ref l) (.ref s.heap.objs.size)) Q E { s with heap:=s.heap.push { cls:=.type "slice",data:=.fields #[.int (-1) u,.none,.none] } } :=
  slice_any F N hl (.int (-1) u) .none (fun h' F' N'=>by
    rw [pick_last vs] at N'
    exact h _ h' F' N' (fun p hp=>Nat.lt_succ_of_lt (Heap.lt_size (N p hp).1)) (Heap.get?_none_of_le (Nat.le_succ _))) hs (by rw [List.size_toArray,sizeLine_eq]; lia)
theorem len_any {nn:Nat} {Q:Value→Shared→Prop} (hl:s.heap.get? l=some (W.listOf vs.toArray nn)) (hfit:vs.length<2 ^ 62)
    (h:∀ t tk,Q (.int (vs.length:Nat) t) (tkd s tk)):wpAny (model prog w) A (call (.builtin "len") [.ref l]) Q E s :=
  call_len_list ⟨_,hl,rfl,_,rfl⟩ (by simp; lia) (by have:=h (s.toks+1) (s.toks+1+1); simpa using this)
theorem len_S {r:List Nat} {t:Tok} {Q:Value→Shared→Prop} (hfit:r.length<2 ^ 20) (h:∀ t' tk,Q (.int (r.length:Nat) t') (tkd s tk)):wpAny (model prog w) A (call (.builtin "len") [.str (S r) t]) Q E s:=by
  refine PySem.P.len_str (by rw [S_length]; lia) ?_
  rw [S_length]; exact h _ _
end
theorem Strs.take {vs:List Value} {rs:List (List Nat)} (h:Strs vs rs):∀ k:Nat,Strs (vs.take k) (rs.take k):=by
  induction h with
  | nil=>intro k; simp; exact .nil
  | cons e h ih =>
    intro k
    cases k with
    | zero=>exact .nil
    | succ k=>exact .cons e (ih k)
noncomputable def begins (a b:List (List Nat)):Bool :=
  !(a==b) && (decide (a.length - 1<b.length) && ((a.take (a.length - 1)==b.take (a.length - 1)) && ((b.getD (a.length - 1) []).take (a.getD (a.length - 1) []).length==a.getD (a.length - 1) [])))
end
section
section
variable {prog:Program} {w:World} {A:Around} {E:Value→Shared→Prop} {s:Shared}
theorem Room.u {A:Around} {d:Nat} (r:Room A d):A.units<cLine:=by have:=r.units; lia
end
noncomputable section
namespace Zbegins
abbrev D0:=((((Program)×(World))×((Around)×(Shared)))×(((Around)×(Addr))×(Addr)))×((((List (List Nat))×(List (List Nat)))×((Addr)×(Heap)))×(((Nat)×(Flow→Shared→Prop))×(Value→Shared→Prop)))
abbrev P0 (prog:Program) (w:World) (A:Around) (s:Shared) (A₁:Around) (H R:Addr) (a b:List (List Nat)) (L:Addr) (h₀:Heap) (tk₀:Nat) (R₁:Flow→Shared→Prop) (E₁:Value→Shared→Prop):Prop:=∀ (rm:Room A 2) (T:Wd w s.heap) (hH:StrsAt s.heap H a) (hR:StrsAt s.heap R b) (sa:Small a) (sb:Small b) (ha:a≠[]) (h:∀ h' tk',Ext [] s.heap h'→R₁ (.ret (.bool (begins a b))) (up s h' tk')) (hL:L=s.heap.objs.size) (F:Fr (hideAll s.heap (([]:List (Addr×Obj)).map (·.1))) L h₀ (fun y9=>([(("head":Str),.ref H),(("rows":Str),.ref R)]:List (Str×Value)).reverse.lookup y9)) (N:News (hideAll s.heap (([]:List (Addr×Obj)).map (·.1))) L h₀ ([])) (dA:Deeper A A₁ (callEnv (fd274 w) L 274)),wpAny (model prog w) A₁ (execs (stm (fd274 w)) (callEnv (fd274 w) L 274)) R₁ E₁ (up s h₀ tk₀)
abbrev P1 (d:D0):=P0 d.1.1.1.1 d.1.1.1.2 d.1.1.2.1 d.1.1.2.2 d.1.2.1.1 d.1.2.1.2 d.1.2.2 d.2.1.1.1 d.2.1.1.2 d.2.1.2.1 d.2.1.2.2 d.2.2.1.1 d.2.2.1.2 d.2.2.2
theorem ne0:Nonempty D0:=⟨((((Challenge.pw_ny0293_01,Classical.choice neW),(callerA,Classical.choice neS)),((callerA,default),default)),default)⟩
@[irreducible] def d0:D0:=@Classical.epsilon D0 ne0 fun d=>¬ P1 d
def prog:=d0.1.1.1.1
def w:=d0.1.1.1.2
def A:=d0.1.1.2.1
def s:=d0.1.1.2.2
def A₁:=d0.1.2.1.1
def H:=d0.1.2.1.2
def R:=d0.1.2.2
def a:=d0.2.1.1.1
def b:=d0.2.1.1.2
def L:=d0.2.1.2.1
def h₀:=d0.2.1.2.2
def tk₀:=d0.2.2.1.1
def R₁:=d0.2.2.1.2
def E₁:=d0.2.2.2
theorem bd0 : P0 prog w A s A₁ H R a b L h₀ tk₀ R₁ E₁ := by
  intro rm T hH hR sa sb ha h hL F N dA
  refine with_stm (P:=fun b=>wpAny (model prog w) A₁ (execs b (callEnv (fd274 w) L 274)) R₁ E₁ (up s h₀ tk₀)) rfl ?_
  show wpAny _ _ (execs (_::_) _) _ _ _
  have rm':=dA.room rm
  change News s.heap L h₀ [] at N
  change Fr s.heap L h₀ _ at F
  obtain ⟨vs,n1,hvs,hsa⟩:=id hH
  obtain ⟨us,n2,hus,hsb⟩:=id hR
  have la:=hsa.length
  have lb:=hsb.length
  have la1:1≤a.length:=List.length_pos_iff.mpr ha
  have sa1:=sa.1
  have sb1:=sb.1
  refine wpAny_execs_cons<|wpAny_Assign_Name<|wpAny_BinOp<|callb (id:="len") T F (by kernel_rfl)<|spliced_more<|ld F rfl<|spliced_none<|len_any (F.keep _ _ hvs) (by lia) fun _ _=>cint fun _ _=>sub_int fun t1 tk1=>st (s:=tkd (up s _ _) _) F N fun h1 tk2 F1 N1=>?_
  have e1:((vs.length:Nat):Int) - 1=((a.length - 1:Nat):Int):=by lia
  rw [e1] at F1
  unfold begins at h
  refine wpAny_execs_cons<|wpAny_Return_some<|BoolOp_and<|wpAny_Compare1<|ld (s:=up s _ _) F1 rfl<|ld (s:=up s _ _) F1 rfl<|rc_ne (s:=up s _ _) (hH.keeps F1.keep) (hR.keeps F1.keep) rm'.u prog w _ _<|wpAny_truthy_bool ?_
  cases c1:!(a==b) with
  | false =>
    first | refine ifF (by simp) ?_ | rw [if_neg (by simp)]
    rw [c1] at h
    exact h h1 _ (ext_of_fr (W:=[]) F1)
  | true =>
    first | refine ifT rfl ?_ | rw [if_pos rfl]
    rw [c1,Bool.true_and] at h
    refine BoolOp_and<|wpAny_Compare1<|ld (s:=up s _ _) F1 rfl<|callb (id:="len") (s:=up s _ _) T F1 (by kernel_rfl)<|spliced_more<|ld (s:=up s _ _) F1 rfl<|spliced_none<|len_any (s:=up s _ _) (F1.keep _ _ hus) (by lia) fun t3 tk3=>wpAny_lt_int<|wpAny_truthy_bool ?_
    by_cases c2:a.length - 1<b.length
    · rw [decide_eq_true (show ((a.length - 1:Nat):Int)<((us.length:Nat):Int) by lia),if_pos rfl]
      rw [decide_eq_true c2,Bool.true_and] at h
      refine BoolOp_and<|wpAny_Compare1<|Subscript_<|ld (s:=tkd (up s _ _) _) F1 rfl<|wpAny_Slice<|wpAny_evalPart_none<|wpAny_evalPart_some<|ld (s:=tkd (up s _ _) _) F1 rfl<|wpAny_evalPart_none<|slcLto (s:=tkd (up s _ _) _) (vs:=vs) F1 N1 ⟨_,F1.keep _ _ hvs,rfl,_,rfl⟩ (by lia) (by lia) fun D2 h2 F2 N2 lt2 _=>?_
      refine Subscript_<|ld (s:=up s _ _) F2 rfl<|wpAny_Slice<|wpAny_evalPart_none<|wpAny_evalPart_some<|ld (s:=up s _ _) F2 rfl<|wpAny_evalPart_none<|slcLto (s:=up s _ _) (vs:=us) F2 N2 ⟨_,F2.keep _ _ hus,rfl,_,rfl⟩ (by lia) (by lia) fun D3 h3 F3 N3 lt3 _=>?_
      have ek:(((a.length - 1:Nat):Int)).toNat=a.length - 1:=by lia
      rw [ek] at N3
      refine rc_eq (s:=up s _ _) (rs:=a.take (a.length - 1)) (qs:=b.take (a.length - 1)) ⟨_,_,(N3 _ (.tail _ (.head _))).1,hsa.take _⟩ ⟨_,_,(N3 _ (.head _)).1,hsb.take _⟩ rm'.u prog w _ _<|wpAny_truthy_bool ?_
      cases c3:a.take (a.length - 1)==b.take (a.length - 1) with
      | false =>
        first | refine ifF (by simp) ?_ | rw [if_neg (by simp)]
        rw [c3] at h
        exact h h3 _ (ext_of_fr (W:=[]) F3)
      | true =>
        first | refine ifT rfl ?_ | rw [if_pos rfl]
        rw [c3,Bool.true_and] at h
        have hal:a.length - 1<a.length:=by lia
        obtain ⟨ta,hta⟩:=hsa.get (a.length - 1) (a.getD (a.length - 1) []) (by simp [hal])
        obtain ⟨tb,htb⟩:=hsb.get (a.length - 1) (b.getD (a.length - 1) []) (by simp [c2])
        have sma:(a.getD (a.length - 1) []).length≤20:=sa.2 _ (by rw [List.getD_eq_getElem?_getD,List.getElem?_eq_getElem hal]; exact List.getElem_mem hal)
        have smb:(b.getD (a.length - 1) []).length≤20:=sb.2 _ (by rw [List.getD_eq_getElem?_getD,List.getElem?_eq_getElem c2]; exact List.getElem_mem c2)
        refine BoolOp_one<|wpAny_Compare1<|Subscript_<|Subscript_<|ld (s:=up s _ _) F3 rfl<|ld (s:=up s _ _) F3 rfl<|itL (s:=up s _ _) (vs:=us) ⟨_,F3.keep _ _ hus,rfl,_,rfl⟩ (by lia) (by lia) (by rw [ek]; exact htb) ?_
        refine wpAny_Slice<|wpAny_evalPart_none<|wpAny_evalPart_some<|callb (id:="len") (s:=up s _ _) T F3 (by kernel_rfl)<|spliced_more<|Subscript_<|ld (s:=up s _ _) F3 rfl<|ld (s:=up s _ _) F3 rfl<|itL (s:=up s _ _) (vs:=vs) ⟨_,F3.keep _ _ hvs,rfl,_,rfl⟩ (by lia) (by lia) (by rw [ek]; exact hta)<|spliced_none<|len_S (s:=up s _ _) (by lia) fun t4 tk4=>wpAny_evalPart_none<|slcTo (s:=tkd (up s _ _) _) F3 N3 (by lia) (by lia) fun h5 t5 tk5 F5 N5=>?_
        refine Subscript_<|ld (s:=up s _ _) F5 rfl<|ld (s:=up s _ _) F5 rfl<|itL (s:=up s _ _) (vs:=vs) ⟨_,F5.keep _ _ hvs,rfl,_,rfl⟩ (by lia) (by lia) (by rw [ek]; exact hta)<|eqS ?_
        exact h h5 _ (ext_of_fr (W:=[]) F5)
    · rw [decide_eq_false (show ¬ ((a.length - 1:Nat):Int)<((us.length:Nat):Int) by lia),if_neg (by simp)]
      rw [decide_eq_false c2] at h
      exact h h1 _ (ext_of_fr (W:=[]) F1)
theorem al0:∀ d,P1 d:=epsAll ne0 P1 (by with_unfolding_all exact bd0)
end Zbegins
end
section
variable {prog:Program} {w:World} {A:Around} {E:Value→Shared→Prop} {s:Shared}
theorem begins_call {Q:Value→Shared→Prop} {H R:Addr} {a b:List (List Nat)} (rm:Room A 2) (T:Wd w s.heap) (hH:StrsAt s.heap H a) (hR:StrsAt s.heap R b) (sa:Small a) (sb:Small b) (ha:a≠[]) (h:∀ h' tk',Ext [] s.heap h'→Q (.bool (begins a b)) (up s h' tk')):wpAny (model prog w) A (call (.ref 274) [.ref H,.ref R]) Q E s:=by
  refine wpAny_call (enter (W:=[]) (binds:=[(("head":Str),.ref H),(("rows":Str),.ref R)]) rm.le' (fn274 T.X) T.lim (cd274 T.X) (fun p hp=>noMem hp) rfl
    (BindsTo.of_eq (by kernel_rfl)) (by kernel_rfl) (by kernel_rfl) ?_ (by kernel_rfl) (by kernel_rfl) (by kernel_rfl))
  intro L h₀ tk₀ hL F N A₁ R₁ E₁ dA hret hnone
  exact Zbegins.al0 ((((prog,w),(A,s)),((A₁,H),R)),(((a,b),(L,h₀)),((tk₀,R₁),E₁))) rm T hH hR sa sb ha (fun x0 x1 x2=>hret _ _ (h x0 x1 x2)) hL F N dA
end
end
section
noncomputable def hokAt (lt:Nat→Nat→Bool) (ids:List Nat) (k:Nat):Bool:=!lt (ids.getD k 0) (ids.getD ((k - 1) / 2) 0)
noncomputable def heapOk (lt:Nat→Nat→Bool) (ids:List Nat):Bool:=(List.range (ids.length - 1)).all fun i=>hokAt lt ids (i+1)
section
variable {prog:Program} {w:World} {A:Around} {E:Value→Shared→Prop} {s:Shared}
end
noncomputable section
namespace Zalike
abbrev D0:=(((((Program)×(World))×(Around))×((Shared)×(Around)))×(((Addr)×(Addr))×((List Nat)×(Nat→Addr))))×((((Nat→List (List Nat))×(Nat→Nat→Bool))×((Nat)×(Addr)))×(((Heap)×(Nat))×((Flow→Shared→Prop)×(Value→Shared→Prop))))
abbrev P0 (prog:Program) (w:World) (A:Around) (s:Shared) (A₁:Around) (P X:Addr) (ids:List Nat) (R:Nat→Addr) (rows:Nat→List (List Nat)) (lt:Nat→Nat→Bool) (n1:Nat) (L:Addr) (h₀:Heap) (tk₀:Nat) (R₁:Flow→Shared→Prop) (E₁:Value→Shared→Prop):Prop:=∀ (rm:Room A 3) (T:Wd w s.heap) (hP:s.heap.get? P=some (W.listOf (List.toArray (ids.map fun i=>Value.ref (R i))) n1)) (hX:StrsAt s.heap X (ids.map fun i=>sentOf (rows i))) (hR:∀ i∈ids,StrsAt s.heap (R i) (rows i)∧Small (rows i)) (hz:ids.length≤20) (hlt:∀ i∈ids,∀ j∈ids,ltRows (rows i) (rows j)=lt i j) (h:∀ h' tk',Ext [] s.heap h'→R₁ (.ret (.bool (heapOk lt ids))) (up s h' tk')) (hL:L=s.heap.objs.size) (F:Fr (hideAll s.heap (([]:List (Addr×Obj)).map (·.1))) L h₀ (fun y9=>([(("plain":Str),.ref P),(("sent":Str),.ref X)]:List (Str×Value)).reverse.lookup y9)) (N:News (hideAll s.heap (([]:List (Addr×Obj)).map (·.1))) L h₀ ([])) (dA:Deeper A A₁ (callEnv (fd243 w) L 243)),wpAny (model prog w) A₁ (execs (stm (fd243 w)) (callEnv (fd243 w) L 243)) R₁ E₁ (up s h₀ tk₀)
abbrev P1 (d:D0):=P0 d.1.1.1.1.1 d.1.1.1.1.2 d.1.1.1.2 d.1.1.2.1 d.1.1.2.2 d.1.2.1.1 d.1.2.1.2 d.1.2.2.1 d.1.2.2.2 d.2.1.1.1 d.2.1.1.2 d.2.1.2.1 d.2.1.2.2 d.2.2.1.1 d.2.2.1.2 d.2.2.2.1 d.2.2.2.2
theorem ne0:Nonempty D0:=⟨(((((Challenge.pw_ny0293_01,Classical.choice neW),callerA),(Classical.choice neS,callerA)),default),default)⟩
@[irreducible] def d0:D0:=@Classical.epsilon D0 ne0 fun d=>¬ P1 d
def prog:=d0.1.1.1.1.1
def w:=d0.1.1.1.1.2
def A:=d0.1.1.1.2
def s:=d0.1.1.2.1
def A₁:=d0.1.1.2.2
def P:=d0.1.2.1.1
def X:=d0.1.2.1.2
def ids:=d0.1.2.2.1
def R:=d0.1.2.2.2
def rows:=d0.2.1.1.1
def lt:=d0.2.1.1.2
def n1:=d0.2.1.2.1
def L:=d0.2.1.2.2
def h₀:=d0.2.2.1.1
def tk₀:=d0.2.2.1.2
def R₁:=d0.2.2.2.1
def E₁:=d0.2.2.2.2
theorem bd0 : P0 prog w A s A₁ P X ids R rows lt n1 L h₀ tk₀ R₁ E₁ := by
  intro rm T hP hX hR hz hlt h hL F N dA
  refine with_stm (P:=fun b=>wpAny (model prog w) A₁ (execs b (callEnv (fd243 w) L 243)) R₁ E₁ (up s h₀ tk₀)) rfl ?_
  show wpAny _ _ (execs (_::_) _) _ _ _
  have rm':=dA.room rm
  change News s.heap L h₀ [] at N
  change Fr s.heap L h₀ _ at F
  have lp:(ids.map fun i=>Value.ref (R i)).length=ids.length:=by simp
  have gm:∀ k,k<ids.length→ids.getD k 0∈ids:=fun k hk=>by
    rw [List.getD_eq_getElem?_getD,List.getElem?_eq_getElem hk]; exact List.getElem_mem hk
  refine wpAny_execs_cons<|wpAny_For<|callt (id:="range") T F (by kernel_rfl)<|spliced_more<|cint fun _ _=>spliced_more<|callb (id:="len") (s:=tkd (up s _ _) _) T F (by kernel_rfl)<|spliced_more<|ld (s:=tkd (up s _ _) _) F rfl<|spliced_none<|len_any (s:=tkd (up s _ _) _) (F.keep _ _ hP) (by lia) fun _ _=>spliced_none<|rangeR2 (s:=tkd (up s _ _) _) F N fun r h1 tk1 t1 u1 v1 hr F1 N1=>?_
  rw [lp] at hr
  let Jv0:Nat→(Str→Option Value)→List (Addr×Obj)→Prop:=fun i m news=>And4 (news=[]) (m "plain"=some (.ref P)) (m "sent"=some (.ref X)) ((List.range i).all (fun k=>hokAt lt ids (k+1))=true)
  refine iterR (s:=up s _ _) (n:=ids.length - 1) rm'.handled F1 N1 hr (range_small (by lia) (by lia) (by lia) (by lia)) (range_size (by lia))
    Jv0 ⟨rfl,rfl,rfl,rfl⟩ (fun E' i t m₁ news₁ h₁ tk₁ own hi hJ hw ho F₁ N₁=>?_) (fun h' tk m' news' F' N' hw hj=>?_)
  · obtain ⟨rfl,mp,ms,hall⟩:=hJ
    have hk1:i+1<ids.length:=by lia
    have hk2:i / 2<ids.length:=by lia
    have et:((1:Int)+(i:Int)).toNat=i+1:=by lia
    refine wpAny_execs_cons<|wpAny_If<|wpAny_isTrue_Compare1<|Subscript_<|ld (s:=up s _ _) F₁ mp<|ld (s:=up s _ _) F₁ rfl<|itL (s:=up s _ _) (x:=.ref (R (ids.getD (i+1) 0))) ⟨_,F₁.keep _ _ hP,rfl,_,rfl⟩ (by lia) (by lia) (by rw [et]; exact map_getD hk1) ?_
    refine Subscript_<|ld (s:=up s _ _) F₁ mp<|wpAny_BinOp<|wpAny_BinOp<|ld (s:=up s _ _) F₁ rfl<|cint fun _ _=>sub_int fun _ _=>cint fun _ _=>fdiv_int (by lia) (.inl (PyProof.noPylong_small (by lia))) fun t2 tk2=>?_
    have ef:((1:Int)+(i:Int) - 1).fdiv 2=((i / 2:Nat):Int):=by rw [Int.fdiv_eq_ediv_of_nonneg _ (by lia)]; lia
    rw [ef]
    refine itL (s:=tkd (up s _ _) _) (x:=.ref (R (ids.getD (i / 2) 0))) ⟨_,F₁.keep _ _ hP,rfl,_,rfl⟩ (by lia) (by lia) (by rw [Int.toNat_natCast]; exact map_getD hk2) ?_
    refine rc_lt (s:=tkd (up s _ _) _) ((hR _ (gm _ hk1)).1.keeps F₁.keep) ((hR _ (gm _ hk2)).1.keeps F₁.keep) rm'.u prog w _ _<|wpAny_truthy_bool ?_
    rw [hlt _ (gm _ hk1) _ (gm _ hk2)]
    have hh:hokAt lt ids (i+1)=!lt (ids.getD (i+1) 0) (ids.getD (i / 2) 0):=by unfold hokAt; rw [Nat.add_sub_cancel]
    cases hl:lt (ids.getD (i+1) 0) (ids.getD (i / 2) 0) with
    | true =>
      first | refine ifT rfl ?_ | rw [if_pos rfl]
      have hbad:heapOk lt ids=false:=by
        unfold heapOk
        rw [List.all_eq_false]
        exact ⟨i,List.mem_range.mpr hi,by rw [hh,hl]; simp⟩
      rw [hbad] at h
      exact wpAny_execs_cons<|wpAny_Return_some<|wpAny_Constant_bool<|h h₁ _ (ext_of_fr (W:=[]) F₁)
    | false =>
      first | refine ifF (by simp) ?_ | rw [if_neg (by simp)]
      refine wpAny_execs_nil<|wpAny_execs_nil<|Turn.next (news':=[]) F₁ N₁ hw ⟨rfl,mp,ms,?_⟩
      rw [List.range_succ,List.all_append,hall]
      show (true && (hokAt lt ids (i+1) && true))=true
      rw [hh,hl]; rfl
  · obtain ⟨rfl,mp,ms,hall⟩:=hj
    have hgood:heapOk lt ids=true:=hall
    rw [hgood] at h
    refine wpAny_execs_cons<|wpAny_Return_some<|wpAny_Compare1<|ld (s:=up s _ _) F' ms<|callg (f:=236) (s:=up s _ _) T F' (by kernel_rfl) (by kernel_rfl)<|spliced_more<|ld (s:=up s _ _) F' mp<|spliced_none ⟨(T.keeps F'.keep).X,
      sent_call (s:=up s _ _) (ml:=ids.map fun i=>(R i,rows i)) (rm'.le (by lia)) (T.keeps F'.keep) (by rw [List.map_map]; exact F'.keep _ _ hP) (fun p hp=>?_) (by rw [List.length_map]; lia) fun h2 tk2 D vs n' ex2 hD hvs fr2=>?_⟩
    · obtain ⟨i,hi,rfl⟩:=List.mem_map.mp hp
      exact ⟨(hR i hi).1.keeps F'.keep,(hR i hi).2⟩
    have k2:∀ b o,h'.get? b=some o→h2.get? b=some o:=fun b o e=>ex2.keep b o (fun q=>by cases q) e
    obtain ⟨F2,N2⟩:=grow F' N' k2
    rw [List.map_map] at hvs
    refine rc_eq (s:=up s _ _) (hX.keeps F2.keep) ⟨vs,n',hD,hvs⟩ rm'.u prog w _ _ ?_
    have:((ids.map fun i=>sentOf (rows i))==(ids.map ((fun p:Addr×List (List Nat)=>sentOf p.2) ∘ fun i=>(R i,rows i))))=true:=by
      rw [show ((fun p:Addr×List (List Nat)=>sentOf p.2) ∘ fun i=>(R i,rows i))=fun i=>sentOf (rows i) from rfl]
      exact beq_self_eq_true _
    rw [this]
    exact h h2 _ (ext_of_fr (W:=[]) F2)
theorem al0:∀ d,P1 d:=epsAll ne0 P1 (by with_unfolding_all exact bd0)
end Zalike
end
section
variable {prog:Program} {w:World} {A:Around} {E:Value→Shared→Prop} {s:Shared}
theorem alike_call {Q:Value→Shared→Prop} {P X:Addr} {ids:List Nat} {R:Nat→Addr} {rows:Nat→List (List Nat)} {lt:Nat→Nat→Bool} {n1:Nat} (rm:Room A 3) (T:Wd w s.heap) (hP:s.heap.get? P=some (W.listOf (List.toArray (ids.map fun i=>Value.ref (R i))) n1)) (hX:StrsAt s.heap X (ids.map fun i=>sentOf (rows i))) (hR:∀ i∈ids,StrsAt s.heap (R i) (rows i)∧Small (rows i)) (hz:ids.length≤20) (hlt:∀ i∈ids,∀ j∈ids,ltRows (rows i) (rows j)=lt i j) (h:∀ h' tk',Ext [] s.heap h'→Q (.bool (heapOk lt ids)) (up s h' tk')):wpAny (model prog w) A (call (.ref 243) [.ref P,.ref X]) Q E s:=by
  refine wpAny_call (enter (W:=[]) (binds:=[(("plain":Str),.ref P),(("sent":Str),.ref X)]) rm.le' (fn243 T.X) T.lim (cd243 T.X) (fun p hp=>noMem hp) rfl
    (BindsTo.of_eq (by kernel_rfl)) (by kernel_rfl) (by kernel_rfl) ?_ (by kernel_rfl) (by kernel_rfl) (by kernel_rfl))
  intro L h₀ tk₀ hL F N A₁ R₁ E₁ dA hret hnone
  exact Zalike.al0 (((((prog,w),A),(s,A₁)),((P,X),(ids,R))),(((rows,lt),(n1,L)),((h₀,tk₀),(R₁,E₁)))) rm T hP hX hR hz hlt (fun x0 x1 x2=>hret _ _ (h x0 x1 x2)) hL F N dA
end
end
section
noncomputable def pushS (lt:Nat→Nat→Bool) (z:List Nat×List Bool) (k:Nat):List Nat×List Bool :=
  (siftdown lt (z.1++[k]) 0 z.1.length,z.2++[heapOk lt (siftdown lt (z.1++[k]) 0 z.1.length)])
noncomputable def popGo (lt:Nat→Nat→Bool):Nat→List Nat→List Nat→List Bool→List Nat×List Bool
  | 0,_,out,oks=>(out,oks)
  | f+1,hp,out,oks=>if hp=[] then (out,oks) else
      popGo lt f (heappopF lt hp.dropLast (hp.getLastD 0)).2 (out++[(heappopF lt hp.dropLast (hp.getLastD 0)).1]) (oks++[heapOk lt (heappopF lt hp.dropLast (hp.getLastD 0)).2])
noncomputable def sideP (lt:Nat→Nat→Bool) (n:Nat):List Nat×List Bool :=
  let h0:=heapify lt ((List.range (n - 1)).take 3)
  let z:=((List.range (n - 4)).map (·+3)).foldl (pushS lt) (h0,[heapOk lt h0])
  let pp:=heappushpopF lt z.1 (n - 1)
  popGo lt 20 pp.2 [pp.1] (z.2++[heapOk lt pp.2])
theorem heapify_length (lt : Nat → Nat → Bool) (ids : List Nat) : (heapify lt ids).length = ids.length := (heapifyGo_inv (n := ids.foldl max 0 + 1) (lt := lt) (hf := ids.length / 2) (by lia) (fun i hi => by
    have : ∀ (l : List Nat) (a : Nat), a ≤ l.foldl max a ∧ ∀ j ∈ l, j ≤ l.foldl max a := fun l => by
      induction l with
      | nil=>intro a; exact ⟨Nat.le_refl _,fun _ h=>nomatch h⟩
      | cons x r ih => intro a; have := ih (max a x); refine ⟨by have := this.1; simp only [List.foldl_cons]; lia, fun j hj => ?_⟩
                       rcases List.mem_cons.mp hj with rfl | hj
                       · have:=this.1; simp only [List.foldl_cons]; lia
                       · exact this.2 j hj
    have:=(this ids 0).2 i hi; lia) _ (Nat.le_refl _)).1
theorem heapify_lt {lt:Nat→Nat→Bool} {ids:List Nat} {n:Nat} (hn:∀ i∈ids,i<n):∀ i∈heapify lt ids,i<n:=(heapifyGo_inv (by lia) hn _ (Nat.le_refl _)).2
theorem popF_length (lt:Nat→Nat→Bool) (init:List Nat) (last:Nat):(heappopF lt init last).2.length=init.length:=by
  unfold heappopF
  split
  · rename_i h; rw [h]
  · rename_i h
    have:0<init.length:=List.length_pos_iff.mpr h
    rw [siftup_length (by rw [List.length_set]; exact this),List.length_set]
theorem popF_lt {lt:Nat→Nat→Bool} {init:List Nat} {last n:Nat} (hn:∀ i∈init,i<n) (hl:last<n):(heappopF lt init last).1<n∧∀ i∈(heappopF lt init last).2,i<n:=by
  unfold heappopF
  split
  · exact ⟨hl,fun _ h=>nomatch h⟩
  · rename_i h
    have:0<init.length:=List.length_pos_iff.mpr h
    exact ⟨getD_mem hn this,siftup_lt (by rw [List.length_set]; exact this) (set_lt hn hl)⟩
theorem pushpopF_length (lt:Nat→Nat→Bool) (ids:List Nat) (i:Nat):(heappushpopF lt ids i).2.length=ids.length:=by
  unfold heappushpopF
  split
  · rename_i h
    have:0<ids.length:=List.length_pos_iff.mpr h.1
    show (siftup lt (ids.set 0 i) 0).length=_
    rw [siftup_length (by rw [List.length_set]; exact this),List.length_set]
  · rfl
theorem pushpopF_lt {lt:Nat→Nat→Bool} {ids:List Nat} {i n:Nat} (hn:∀ i∈ids,i<n) (hi:i<n):(heappushpopF lt ids i).1<n∧∀ j∈(heappushpopF lt ids i).2,j<n:=by
  by_cases h:ids≠[]∧lt (ids.getD 0 0) i=true
  · have e:heappushpopF lt ids i=(ids.getD 0 0,siftup lt (ids.set 0 i) 0):=if_pos h
    rw [e]
    have:0<ids.length:=List.length_pos_iff.mpr h.1
    exact ⟨getD_mem hn this,siftup_lt (by rw [List.length_set]; exact this) (set_lt hn hi)⟩
  · have e:heappushpopF lt ids i=(i,ids):=if_neg h
    rw [e]; exact ⟨hi,hn⟩
theorem pushS_inv {lt:Nat→Nat→Bool} {n:Nat}:∀ (ks:List Nat) (z:List Nat×List Bool),(∀ i∈z.1,i<n)→(∀ k∈ks,k<n)→(ks.foldl (pushS lt) z).1.length=z.1.length+ks.length∧(∀ i∈(ks.foldl (pushS lt) z).1,i<n)∧(ks.foldl (pushS lt) z).2.length=z.2.length+ks.length
  | [],z,h,_=>⟨rfl,h,rfl⟩
  | k::ks,z,h,hk=>by
    have h1:∀ i∈z.1++[k],i<n:=fun i hi=>by
      rcases List.mem_append.mp hi with q | q
      · exact h i q
      · rw [List.mem_singleton.mp q]; exact hk k (.head _)
    have:=pushS_inv (lt:=lt) (n:=n) ks (pushS lt z k) (siftdown_lt (by simp) h1) (fun k' hk'=>hk k' (.tail _ hk'))
    rw [List.foldl_cons]
    refine ⟨?_,this.2.1,?_⟩
    · rw [this.1]; unfold pushS; rw [siftdown_length]; simp; lia
    · rw [this.2.2]; unfold pushS; simp; lia
theorem backM {g h h':Heap} {L D:Addr} {m:Str→Option Value} {o o':Obj} {l1 l2:List (Addr×Obj)} (F:Fr g L h m) (N:News g L h (l1++(D,o)::l2)) (e:Ext [D] h h') (r:h'.get? D=some o') (h1:∀ p∈l1,p.1≠D) (h2:∀ p∈l2,p.1≠D) :
    Fr g L h' m∧News g L h' (l1++(D,o')::l2):=by
  have z:=N (D,o) (List.mem_append_right _ (.head _))
  refine ⟨⟨F.ns.at' fun o eo=>e.keep L o (fun q=>z.2.1 (List.mem_singleton.mp q).symm) eo,fun b o eo=>e.keep b o (fun q=>by rw [List.mem_singleton.mp q,z.2.2] at eo; cases eo) (F.keep b o eo),F.above⟩,fun p hp=>?_⟩
  rcases List.mem_append.mp hp with q | q
  · have n:=N p (List.mem_append_left _ q)
    exact ⟨e.keep _ _ (fun x=>h1 p q (List.mem_singleton.mp x)) n.1,n.2⟩
  · rcases List.mem_cons.mp q with rfl | q
    · exact ⟨r,z.2⟩
    · have n:=N p (List.mem_append_right _ (.tail _ q))
      exact ⟨e.keep _ _ (fun x=>h2 p q (List.mem_singleton.mp x)) n.1,n.2⟩
theorem ext_grow {g h h':Heap} {L:Addr} {m:Str→Option Value} {news:List (Addr×Obj)} (F:Fr g L h m) (N:News g L h news) (e:Ext [] h h'):Fr g L h' m∧News g L h' news:=grow F N fun b o x=>e.keep b o (fun q=>by cases q) x
theorem sub_hide {g h:Heap} {L D:Addr} {o:Obj} {m:Str→Option Value} {news:List (Addr×Obj)} (F:Fr g L h m) (N:News g L h news) (hm:(D,o)∈news):∀ b o,g.get? b=some o→(hideAll h [D]).get? b=some o :=
  hide_keeps (W:=[D]) F.keep (fun a ha=>by rw [List.mem_singleton.mp ha]; exact (N _ hm).2.2)
end
section
theorem popGo_nil (lt:Nat→Nat→Bool) (f:Nat) (out:List Nat) (oks:List Bool):popGo lt f [] out oks=(out,oks):=by cases f <;> rfl
theorem last_split {hp:List Nat} (h:hp≠[]):hp=hp.dropLast++[hp.getLastD 0]:=by
  have:=(List.dropLast_concat_getLast h).symm
  rw [List.getLastD_eq_getLast?,List.getLast?_eq_some_getLast h]; exact this
noncomputable def isF (v:Value):Bool:=match v with | .bool x=>x==false | _=>false
theorem any_isF (oks:List Bool):(!(oks.map Value.bool).toArray.any isF)=oks.all id:=by
  induction oks with
  | nil=>simp
  | cons b r ih=>simp [isF] at ih ⊢; cases b <;> simp_all
theorem range_last {n:Nat} (h:1≤n) (f:Nat→Value):(List.range n).map f=(List.range (n - 1)).map f++[f (n - 1)]:=by
  obtain ⟨k,rfl⟩:∃ k,n=k+1:=⟨n - 1,by lia⟩
  rw [List.range_succ,List.map_append]; rfl
section
variable {prog:Program} {w:World} {A:Around} {E:Value→Shared→Prop} {s:Shared} {g:Heap} {L:Addr} {m:Str→Option Value} {news news':List (Addr×Obj)}
theorem range_get {n k:Nat} {f:Nat→Value} (h:k<n):((List.range n).map f)[k]?=some (f k):=by simp [h]
end
noncomputable section
namespace Zside
abbrev D0:=(((((Program)×(World))×(Around))×((Shared)×(Around)))×((((Addr)×(Addr))×(Nat))×((Nat)×(Nat))))×(((((Nat→Addr)×(Nat→List (List Nat)))×(Nat→Tok))×((Nat→Nat→Bool)×(Addr)))×(((Heap)×(Nat))×((Flow→Shared→Prop)×(Value→Shared→Prop))))
abbrev P0 (prog:Program) (w:World) (A:Around) (s:Shared) (A₁:Around) (Ma Za:Addr) (n n1 n2:Nat) (R:Nat→Addr) (rows:Nat→List (List Nat)) (tz:Nat→Tok) (lt:Nat→Nat→Bool) (L:Addr) (h₀:Heap) (tk₀:Nat) (R₁:Flow→Shared→Prop) (E₁:Value→Shared→Prop):Prop:=∀ (rm:Room A 8) (T:Wd w s.heap) (hn1:1≤n) (hn6:n≤6) (hM:s.heap.get? Ma=some (W.listOf (List.toArray ((List.range n).map fun i=>Value.ref (R i))) n1)) (hZ:s.heap.get? Za=some (W.listOf (List.toArray ((List.range n).map fun i=>Value.str (S (sentOf (rows i))) (tz i))) n2)) (hR:∀ i<n,StrsAt s.heap (R i) (rows i)∧Small (rows i)) (hlt:∀ i<n,∀ j<n,ltRows (rows i) (rows j)=lt i j) (hls:∀ i<n,∀ j<n,sLt (sentOf (rows i)) (sentOf (rows j))=lt i j) (h:∀ h' tk' tp D n',Ext [] s.heap h'→h'.get? tp=some (tupOf [.ref D,.bool ((sideP lt n).2.all id)])→h'.get? D=some (W.listOf (List.toArray ((sideP lt n).1.map fun i=>Value.str (S (sentOf (rows i))) (tz i))) n')→s.heap.get? tp=none→s.heap.get? D=none→D<tp→R₁ (.ret (.ref tp)) (up s h' tk')) (hL:L=s.heap.objs.size) (F:Fr (hideAll s.heap (([]:List (Addr×Obj)).map (·.1))) L h₀ (fun y9=>([(("mails":Str),.ref Ma),(("sents":Str),.ref Za)]:List (Str×Value)).reverse.lookup y9)) (N:News (hideAll s.heap (([]:List (Addr×Obj)).map (·.1))) L h₀ ([])) (dA:Deeper A A₁ (callEnv (fd250 w) L 250)),wpAny (model prog w) A₁ (execs (stm (fd250 w)) (callEnv (fd250 w) L 250)) R₁ E₁ (up s h₀ tk₀)
abbrev P1 (d:D0):=P0 d.1.1.1.1.1 d.1.1.1.1.2 d.1.1.1.2 d.1.1.2.1 d.1.1.2.2 d.1.2.1.1.1 d.1.2.1.1.2 d.1.2.1.2 d.1.2.2.1 d.1.2.2.2 d.2.1.1.1.1 d.2.1.1.1.2 d.2.1.1.2 d.2.1.2.1 d.2.1.2.2 d.2.2.1.1 d.2.2.1.2 d.2.2.2.1 d.2.2.2.2
theorem ne0:Nonempty D0:=⟨(((((Challenge.pw_ny0293_01,Classical.choice neW),callerA),(Classical.choice neS,callerA)),default),default)⟩
@[irreducible] def d0:D0:=@Classical.epsilon D0 ne0 fun d=>¬ P1 d
def prog:=d0.1.1.1.1.1
def w:=d0.1.1.1.1.2
def A:=d0.1.1.1.2
def s:=d0.1.1.2.1
def A₁:=d0.1.1.2.2
def Ma:=d0.1.2.1.1.1
def Za:=d0.1.2.1.1.2
def n:=d0.1.2.1.2
def n1:=d0.1.2.2.1
def n2:=d0.1.2.2.2
def R:=d0.2.1.1.1.1
def rows:=d0.2.1.1.1.2
def tz:=d0.2.1.1.2
def lt:=d0.2.1.2.1
def L:=d0.2.1.2.2
def h₀:=d0.2.2.1.1
def tk₀:=d0.2.2.1.2
def R₁:=d0.2.2.2.1
def E₁:=d0.2.2.2.2
theorem bd0:P0 prog w A s A₁ Ma Za n n1 n2 R rows tz lt L h₀ tk₀ R₁ E₁:=by
  intro rm T hn1 hn6 hM hZ hR hlt hls h hL F N dA
  refine with_stm (P:=fun b=>wpAny (model prog w) A₁ (execs b (callEnv (fd250 w) L 250)) R₁ E₁ (up s h₀ tk₀)) rfl ?_
  show wpAny _ _ (execs (_::_) _) _ _ _
  have rm':=dA.room rm
  change News s.heap L h₀ [] at N
  change Fr s.heap L h₀ _ at F
  generalize hvp:(fun i=>Value.ref (R i))=vp at hM
  generalize hvz:(fun i=>Value.str (S (sentOf (rows i))) (tz i))=vz at hZ h
  have cp:Cmp s.heap n vp lt:=fun prog w A E s' Q i j r hi hj hk hq=>by
    subst hvp
    refine rc_lt ((hR i hi).1.keeps hk) ((hR j hj).1.keeps hk) r.u prog w E Q ?_
    rw [hlt i hi j hj]; exact hq
  have cz:Cmp s.heap n vz lt:=fun prog w A E s' Q i j r hi hj hk hq=>by
    subst hvz
    refine PySem.P.lt_str ?_
    rw [← hls i hi j hj] at hq
    exact hq
  have lM:((List.range n).map vp).length=n:=by simp
  have lZ:((List.range n).map vz).length=n:=by simp
  have strz:∀ ids:List Nat,Strs (ids.map vz) (ids.map fun i=>sentOf (rows i)):=fun ids=>by
    subst hvz
    induction ids with
    | nil=>exact .nil
    | cons i r ih=>exact .cons rfl ih
  have tk3:∀ f:Nat→Value,(((List.range n).map f).take (((List.range n).map f).length - 1)).take (Int.toNat 3)=((List.range (n - 1)).take 3).map f:=fun f=>by
    rw [← List.map_take,← List.map_take]
    congr 1
    rw [List.length_map,List.length_range,List.take_range,Nat.min_eq_left (Nat.sub_le n 1)]
    rfl
  refine wpAny_execs_cons<|Assign_Tuple_swapped (names:=["plain","sent"]) (hw:=by kernel_rfl)<|Tuple_<|spliced_more<|Subscript_<|Subscript_<|ld F rfl<|wpAny_Slice<|wpAny_evalPart_none<|wpAny_evalPart_some<|wpAny_UnaryOp<|cint fun _ _=>neg_int fun _ _=>wpAny_evalPart_none <|
    slcLinit (s:=tkd (up s _ _) _) (vs:=(List.range n).map vp) F N ⟨_,F.keep _ _ hM,rfl,_,rfl⟩ (by lia) fun D1 h1 F1 N1 lt1 _=>wpAny_Slice<|wpAny_evalPart_none<|wpAny_evalPart_some<|cint fun _ _=>wpAny_evalPart_none <|
    slcLto (s:=tkd (up s _ _) _) F1 N1 ⟨_,(N1 _ (.head _)).1,rfl,_,rfl⟩ (by simp; lia) (by lia) fun P h2 F2 N2 lt2 fr2=>?_
  refine spliced_more<|Subscript_<|Subscript_<|ld (s:=up s _ _) F2 rfl<|wpAny_Slice<|wpAny_evalPart_none<|wpAny_evalPart_some<|wpAny_UnaryOp<|cint fun _ _=>neg_int fun _ _=>wpAny_evalPart_none <|
    slcLinit (s:=tkd (up s _ _) _) (vs:=(List.range n).map vz) F2 N2 ⟨_,F2.keep _ _ hZ,rfl,_,rfl⟩ (by lia) fun D3 h3 F3 N3 lt3 _=>wpAny_Slice<|wpAny_evalPart_none<|wpAny_evalPart_some<|cint fun _ _=>wpAny_evalPart_none <|
    slcLto (s:=tkd (up s _ _) _) F3 N3 ⟨_,(N3 _ (.head _)).1,rfl,_,rfl⟩ (by simp; lia) (by lia) fun X h4 F4 N4 lt4 fr4=>?_
  rw [tk3 vp,tk3 vz] at N4
  have N4':News s.heap L h4 [(P,W.listOf (((List.range (n - 1)).take 3).map vp).toArray 0),(X,W.listOf (((List.range (n - 1)).take 3).map vz).toArray 0)]:=news_sub N4 fun p hp=>by
    rcases List.mem_cons.mp hp with rfl | hp
    · exact .tail _ (.tail _ (.head _))
    · rw [List.mem_singleton] at hp; subst hp; exact .head _
  have PX:P≠X:=Nat.ne_of_lt (lt4 (P,_) (.tail _ (.head _)))
  refine spliced_none<|newTup (s:=up s _ _) F4 N4' fun tp h5 F5 N5 lt5=>?_
  have N5':News s.heap L h5 [(P,W.listOf (((List.range (n - 1)).take 3).map vp).toArray 0),(X,W.listOf (((List.range (n - 1)).take 3).map vz).toArray 0)]:=fun p hp=>N5 p (.tail _ hp)
  refine wpAny_unpackItems_tuple (s:=up s _ _) (items:=[.ref P,.ref X].toArray) rm'.handled ⟨_,(N5 _ (.head _)).1,rfl,_,rfl⟩ fun h6 e6=>?_
  obtain ⟨F6,N6⟩:=growBut (h':=h6) F5 N5' e6
  refine wpAny_assignInOrder_more<|wpAny_bindName<|st (s:=up s _ _) F6 N6 fun h7 _ F7 N7=>wpAny_assignInOrder_more<|wpAny_bindName<|st (s:=up s _ _) F7 N7 fun h8 tk8 F8 N8=>wpAny_assignInOrder_none ?_
  have hn0:∀ i∈(List.range (n - 1)).take 3,i<n:=fun i hi=>by
    have:=List.mem_range.mp (List.mem_of_mem_take hi); lia
  have l0:((List.range (n - 1)).take 3).length≤3:=by simp; lia
  have hnX:∀ p∈[((X,W.listOf (((List.range (n - 1)).take 3).map vz).toArray 0):Addr×Obj)],p.1≠P:=fun p hp=>by rw [List.mem_singleton] at hp; subst hp; exact PX.symm
  refine wpAny_execs_cons<|wpAny_Expr<|callg (f:=66) (s:=up s _ _) T F8 (by kernel_rfl) (by kernel_rfl)<|spliced_more<|ld (s:=up s _ _) F8 rfl<|spliced_none ⟨(T.keeps F8.keep).X,
    heapify_call (s:=up s _ _) (n:=n) (val:=vp) (lt:=lt) (rm'.le (by lia)) (T.keeps (sub_hide F8 N8 (.head _))) (N8 _ (.head _)).1 hn0 (by lia) (cp.keeps (sub_hide F8 N8 (.head _))) fun h9 tk9 ex9 r9=>?_⟩
  obtain ⟨F9,N9⟩:=backM (l1:=[]) F8 N8 ex9 r9 (fun _ h=>noMem h) hnX
  refine wpAny_execs_cons<|wpAny_Expr<|callg (f:=66) (s:=up s _ _) T F9 (by kernel_rfl) (by kernel_rfl)<|spliced_more<|ld (s:=up s _ _) F9 rfl<|spliced_none ⟨(T.keeps F9.keep).X,
    heapify_call (s:=up s _ _) (n:=n) (val:=vz) (lt:=lt) (rm'.le (by lia)) (T.keeps (sub_hide F9 N9 (.tail _ (.head _)))) (N9 _ (.tail _ (.head _))).1 hn0 (by lia) (cz.keeps (sub_hide F9 N9 (.tail _ (.head _)))) fun h10 tk10 ex10 r10=>?_⟩
  obtain ⟨F10,N10⟩:=backM (l1:=[(P,_)]) F9 N9 ex10 r10 (fun p hp=>by rw [List.mem_singleton] at hp; subst hp; exact PX) (fun _ h=>noMem h)
  generalize hh0:heapify lt ((List.range (n - 1)).take 3)=hp0 at N10
  have hp0n:∀ i∈hp0,i<n:=by subst hh0; exact heapify_lt hn0
  have hp0l:hp0.length≤3:=by subst hh0; rw [heapify_length]; exact l0
  have alike:∀ {E'':Value→Shared→Prop} {QQ:Value→Shared→Prop} {h':Heap} {tk':Nat} {m':Str→Option Value} {nw:List (Addr×Obj)} {hp:List Nat} {a b:Nat},Fr s.heap L h' m'→News s.heap L h' nw→(P,W.listOf (List.toArray (hp.map vp)) a)∈nw→(X,W.listOf (List.toArray (hp.map vz)) b)∈nw→(∀ i∈hp,i<n)→hp.length≤20 →
      (∀ h'' tk'',Fr s.heap L h'' m'→News s.heap L h'' nw→QQ (.bool (heapOk lt hp)) (up s h'' tk''))→wpAny (model prog w) A₁ (call (.ref 243) [.ref P,.ref X]) QQ E'' (up s h' tk'):=by
    intro E'' QQ h' tk' m' nw hp a b F' N' hP' hX' hhp hl k
    refine alike_call (s:=up s _ _) (ids:=hp) (R:=R) (rows:=rows) (lt:=lt) (rm'.le (by lia)) (T.keeps F'.keep) (by subst hvp; exact (N' _ hP').1) ⟨_,_,(N' _ hX').1,strz hp⟩ (fun i hi=>⟨(hR i (hhp i hi)).1.keeps F'.keep,(hR i (hhp i hi)).2⟩) hl (fun i hi j hj=>hlt i (hhp i hi) j (hhp j hj)) fun h'' tk'' ex=>?_
    obtain ⟨F'',N''⟩:=ext_grow F' N' ex
    exact k h'' tk'' F'' N''
  refine wpAny_execs_cons<|wpAny_Assign_Name<|List_<|spliced_more<|callg (f:=243) (s:=up s _ _) T F10 (by kernel_rfl) (by kernel_rfl)<|spliced_more<|ld (s:=up s _ _) F10 rfl<|spliced_more<|ld (s:=up s _ _) F10 rfl<|spliced_none ⟨(T.keeps F10.keep).X,
    alike F10 N10 (.head _) (.tail _ (.head _)) hp0n (by lia) fun h11 tk11 F11 N11=>spliced_none<|newLst (s:=up s _ _) F11 N11 fun Y h12 F12 N12 lt12=>st (s:=up s _ _) F12 N12 fun h13 tk13 F13 N13=>?_⟩
  have PY:P≠Y:=Nat.ne_of_lt (lt12 (P,_) (.head _))
  have XY:X≠Y:=Nat.ne_of_lt (lt12 (X,_) (.tail _ (.head _)))
  have zinv:∀ i,i≤n - 4→((((List.range (n - 4)).take i).map (·+3)).foldl (pushS lt) (hp0,[heapOk lt hp0])).1.length≤5∧(∀ k∈((((List.range (n - 4)).take i).map (·+3)).foldl (pushS lt) (hp0,[heapOk lt hp0])).1,k<n)∧((((List.range (n - 4)).take i).map (·+3)).foldl (pushS lt) (hp0,[heapOk lt hp0])).2.length≤5:=fun i hi=>by
    have:=pushS_inv (lt:=lt) (n:=n) (((List.range (n - 4)).take i).map (·+3)) (hp0,[heapOk lt hp0]) hp0n (fun k hk=>by
      obtain ⟨j,hj,rfl⟩:=List.mem_map.mp hk
      have:=List.mem_range.mp (List.mem_of_mem_take hj); lia)
    have el:(((List.range (n - 4)).take i).map (·+3)).length≤2:=by simp; lia
    refine ⟨by rw [this.1]; show hp0.length+_≤5; lia,this.2.1,by rw [this.2.2]; show 1+_≤5; lia⟩
  refine wpAny_execs_cons<|wpAny_For<|callt (id:="range") (s:=up s _ _) T F13 (by kernel_rfl)<|spliced_more<|cint fun _ _=>spliced_more<|wpAny_BinOp<|callb (id:="len") (s:=tkd (up s _ _) _) T F13 (by kernel_rfl)<|spliced_more<|ld (s:=tkd (up s _ _) _) F13 rfl<|spliced_none<|len_any (s:=tkd (up s _ _) _) (F13.keep _ _ hM) (by lia) fun _ _=>cint fun _ _=>sub_int fun _ _=>spliced_none<|rangeR2 (s:=tkd (up s _ _) _) F13 N13 fun r h14 tk14 t14 u14 v14 hr F14 N14=>?_
  rw [lM] at hr
  let Jv0:Nat→(Str→Option Value)→List (Addr×Obj)→Prop:=fun i m news=>Ex3 fun a b c=>And6 (news=[(Y,W.listOf (List.toArray (((((List.range (n - 4)).take i).map (·+3)).foldl (pushS lt) (hp0,[heapOk lt hp0])).2.map Value.bool)) c),(P,W.listOf (List.toArray (((((List.range (n - 4)).take i).map (·+3)).foldl (pushS lt) (hp0,[heapOk lt hp0])).1.map vp)) a),(X,W.listOf (List.toArray (((((List.range (n - 4)).take i).map (·+3)).foldl (pushS lt) (hp0,[heapOk lt hp0])).1.map vz)) b)]) (m "plain"=some (.ref P)) (m "sent"=some (.ref X)) (m "same"=some (.ref Y)) (m "mails"=some (.ref Ma)) (m "sents"=some (.ref Za))
  refine iterR (s:=up s _ _) (n:=n - 4) rm'.handled F14 N14 hr (range_small (by lia) (by lia) (by lia) (by lia)) (range_size (by lia))
    Jv0 ⟨0,0,0,rfl,rfl,rfl,rfl,rfl,rfl⟩ (fun E' i t m₁ news₁ h₁ tk₁ own hi hJ hw ho F₁ N₁=>?_) (fun h' tk m' news' F' N' hw hj=>?_)
  · obtain ⟨a,b,c,rfl,mp,mx,my,mm,mz⟩:=hJ
    have zi:=zinv i (by lia)
    generalize hzz:(((List.range (n - 4)).take i).map (·+3)).foldl (pushS lt) (hp0,[heapOk lt hp0])=z at N₁ zi hw
    have zs:(((List.range (n - 4)).take (i+1)).map (·+3)).foldl (pushS lt) (hp0,[heapOk lt hp0])=pushS lt z (i+3):=by
      rw [map_take_succ (·+3) (List.range (n - 4)) (x:=i) (by simp [hi]),List.foldl_append,hzz]; rfl
    have ownP:∀ p∈own,p.1≠P:=fun p hp q=>hw (P,_) (.tail _ (.head _)) (by show P∈_; rw [← q]; exact ho p hp)
    have ownX:∀ p∈own,p.1≠X:=fun p hp q=>hw (X,_) (.tail _ (.tail _ (.head _))) (by show X∈_; rw [← q]; exact ho p hp)
    have ownY:∀ p∈own,p.1≠Y:=fun p hp q=>hw (Y,_) (.head _) (by show Y∈_; rw [← q]; exact ho p hp)
    have et:((3:Int)+(i:Int)).toNat=i+3:=by lia
    refine wpAny_execs_cons<|wpAny_Expr<|callg (f:=45) (s:=up s _ _) T F₁ (by kernel_rfl) (by kernel_rfl)<|spliced_more<|ld (s:=up s _ _) F₁ mp<|spliced_more<|Subscript_<|ld (s:=up s _ _) F₁ mm<|ld (s:=up s _ _) F₁ rfl<|itL (s:=up s _ _) (x:=vp (i+3)) ⟨_,F₁.keep _ _ hM,rfl,_,rfl⟩ (by lia) (by lia) (by rw [et]; exact range_get (by lia))<|spliced_none ⟨(T.keeps F₁.keep).X,
      heappush_call (s:=up s _ _) (n:=n) (val:=vp) (lt:=lt) (rm'.le (by lia)) (T.keeps (sub_hide F₁ N₁ (.tail _ (.head _)))) (N₁ _ (.tail _ (.head _))).1 zi.2.1 (by lia) (by lia) (cp.keeps (sub_hide F₁ N₁ (.tail _ (.head _)))) fun h2 tk2 ex2 r2=>?_⟩
    obtain ⟨F2,N2⟩:=backM (l1:=[(Y,_)]) (l2:=(X,_)::own) F₁ N₁ ex2 r2 (fun p hp=>by rw [List.mem_singleton] at hp; subst hp; exact PY.symm) (fun p hp=>by
      rcases List.mem_cons.mp hp with rfl | hp
      · exact PX.symm
      · exact ownP p hp)
    refine wpAny_execs_cons<|wpAny_Expr<|callg (f:=45) (s:=up s _ _) T F2 (by kernel_rfl) (by kernel_rfl)<|spliced_more<|ld (s:=up s _ _) F2 mx<|spliced_more<|Subscript_<|ld (s:=up s _ _) F2 mz<|ld (s:=up s _ _) F2 rfl<|itL (s:=up s _ _) (x:=vz (i+3)) ⟨_,F2.keep _ _ hZ,rfl,_,rfl⟩ (by lia) (by lia) (by rw [et]; exact range_get (by lia))<|spliced_none ⟨(T.keeps F2.keep).X,
      heappush_call (s:=up s _ _) (n:=n) (val:=vz) (lt:=lt) (rm'.le (by lia)) (T.keeps (sub_hide F2 N2 (.tail _ (.tail _ (.head _))))) (N2 _ (.tail _ (.tail _ (.head _)))).1 zi.2.1 (by lia) (by lia) (cz.keeps (sub_hide F2 N2 (.tail _ (.tail _ (.head _))))) fun h3 tk3 ex3 r3=>?_⟩
    obtain ⟨F3,N3⟩:=backM (l1:=[(Y,_),(P,_)]) (l2:=own) F2 N2 ex3 r3 (fun p hp=>by
      rcases List.mem_cons.mp hp with rfl | hp
      · exact XY.symm
      · rw [List.mem_singleton] at hp; subst hp; exact PX) ownX
    have hpn:∀ k∈siftdown lt (z.1++[i+3]) 0 z.1.length,k<n:=siftdown_lt (by simp) (fun k hk=>by
      rcases List.mem_append.mp hk with q | q
      · exact zi.2.1 k q
      · rw [List.mem_singleton.mp q]; lia)
    refine wpAny_execs_cons<|wpAny_Expr<|methodCall_KW<|ld (s:=up s _ _) F3 my<|kl_method (s:=up s _ _) N3 (.head _) slot_list_append type_list_append<|callWith_method1<|spliced_more<|callg (f:=243) (s:=up s _ _) T F3 (by kernel_rfl) (by kernel_rfl)<|spliced_more<|ld (s:=up s _ _) F3 mp<|spliced_more<|ld (s:=up s _ _) F3 mx<|spliced_none ⟨(T.keeps F3.keep).X,
      alike F3 N3 (.tail _ (.head _)) (.tail _ (.tail _ (.head _))) hpn (by rw [siftdown_length]; simp; lia) fun h4 tk4 F4 N4=>spliced_none<|appendL (s:=up s _ _) F4 N4 (.head fun p hp=>?_) (by rw [List.length_map]; lia) fun h5 F5 N5=>?_⟩
    · rcases List.mem_cons.mp hp with rfl | hp
      · exact PY
      rcases List.mem_cons.mp hp with rfl | hp
      · exact XY
      · exact ownY p hp
    refine wpAny_execs_nil<|Turn.next (news':=[(Y,_),(P,_),(X,_)]) F5 N5 (fun p hp=>?_) ⟨a+1,b+1,c+1,?_,mp,mx,my,mm,mz⟩
    · rcases List.mem_cons.mp hp with rfl | hp
      · exact hw (Y,W.listOf (List.toArray (z.2.map Value.bool)) c) (.head _)
      rcases List.mem_cons.mp hp with rfl | hp
      · exact hw (P,W.listOf (List.toArray (z.1.map vp)) a) (.tail _ (.head _))
      · rw [List.mem_singleton] at hp; subst hp; exact hw (X,W.listOf (List.toArray (z.1.map vz)) b) (.tail _ (.tail _ (.head _)))
    · rw [zs]; unfold pushS; simp
  · obtain ⟨a,b,c,rfl,mp,mx,my,mm,mz⟩:=hj
    have zi:=zinv (n - 4) (Nat.le_refl _)
    have etk:(List.range (n - 4)).take (n - 4)=List.range (n - 4):=List.take_of_length_le (by simp)
    rw [etk] at N' zi hw
    have hsp:sideP lt n=popGo lt 20 (heappushpopF lt (((List.range (n - 4)).map (·+3)).foldl (pushS lt) (hp0,[heapOk lt hp0])).1 (n - 1)).2 [(heappushpopF lt (((List.range (n - 4)).map (·+3)).foldl (pushS lt) (hp0,[heapOk lt hp0])).1 (n - 1)).1]
        ((((List.range (n - 4)).map (·+3)).foldl (pushS lt) (hp0,[heapOk lt hp0])).2++[heapOk lt (heappushpopF lt (((List.range (n - 4)).map (·+3)).foldl (pushS lt) (hp0,[heapOk lt hp0])).1 (n - 1)).2]):=by
      unfold sideP; rw [hh0]
    generalize ((List.range (n - 4)).map (·+3)).foldl (pushS lt) (hp0,[heapOk lt hp0])=z at N' zi hsp
    generalize hres:sideP lt n=res at h hsp
    have lastR:∀ f:Nat→Value,(List.range n).map f=(List.range (n - 1)).map f++[f (n - 1)]:=range_last hn1
    have ppn:=pushpopF_lt (lt:=lt) (i:=n - 1) zi.2.1 (by lia)
    have ppl:=pushpopF_length lt z.1 (n - 1)
    have hZ':∀ {h':Heap} {m'},Fr s.heap L h' m'→h'.IsList Za ((List.range (n - 1)).map vz++[vz (n - 1)]).toArray:=fun F=>by rw [← lastR]; exact ⟨_,F.keep _ _ hZ,rfl,_,rfl⟩
    have hM':∀ {h':Heap} {m'},Fr s.heap L h' m'→h'.IsList Ma ((List.range (n - 1)).map vp++[vp (n - 1)]).toArray:=fun F=>by rw [← lastR]; exact ⟨_,F.keep _ _ hM,rfl,_,rfl⟩
    refine wpAny_execs_cons<|wpAny_Assign_Name<|List_<|spliced_more<|callg (f:=59) (s:=up s _ _) T F' (by kernel_rfl) (by kernel_rfl)<|spliced_more<|ld (s:=up s _ _) F' mx<|spliced_more<|Subscript_<|ld (s:=up s _ _) F' mz<|wpAny_UnaryOp<|cint fun _ _=>neg_int fun _ _=>itL_last (s:=tkd (up s _ _) _) (hZ' F') (by simp; lia)<|spliced_none ⟨(T.keeps F'.keep).X,
      heappushpop_call (s:=tkd (up s _ _) _) (n:=n) (val:=vz) (lt:=lt) (rm'.le (by lia)) (T.keeps (sub_hide F' N' (.tail _ (.tail _ (.head _))))) (N' _ (.tail _ (.tail _ (.head _)))).1 zi.2.1 (by lia) (by lia) (cz.keeps (sub_hide F' N' (.tail _ (.tail _ (.head _))))) fun h2 tk2 ex2 r2=>?_⟩
    obtain ⟨F2,N2⟩:=backM (l1:=[(Y,_),(P,_)]) (l2:=[]) F' N' ex2 r2 (fun p hp=>by
      rcases List.mem_cons.mp hp with rfl | hp
      · exact XY.symm
      · rw [List.mem_singleton] at hp; subst hp; exact PX) (fun _ h=>noMem h)
    refine spliced_none<|newLst (s:=up s _ _) F2 N2 fun O h3 F3 N3 lt3=>st (s:=up s _ _) F3 N3 fun h4 tk4 F4 N4=>?_
    have OY:=Nat.ne_of_gt (lt3 (Y,_) (.head _))
    have OP:=Nat.ne_of_gt (lt3 (P,_) (.tail _ (.head _)))
    have OX:=Nat.ne_of_gt (lt3 (X,_) (.tail _ (.tail _ (.head _))))
    refine wpAny_execs_cons<|wpAny_Assign_Name<|List_<|spliced_more<|callg (f:=59) (s:=up s _ _) T F4 (by kernel_rfl) (by kernel_rfl)<|spliced_more<|ld (s:=up s _ _) F4 mp<|spliced_more<|Subscript_<|ld (s:=up s _ _) F4 mm<|wpAny_UnaryOp<|cint fun _ _=>neg_int fun _ _=>itL_last (s:=tkd (up s _ _) _) (hM' F4) (by simp; lia)<|spliced_none ⟨(T.keeps F4.keep).X,
      heappushpop_call (s:=tkd (up s _ _) _) (n:=n) (val:=vp) (lt:=lt) (rm'.le (by lia)) (T.keeps (sub_hide F4 N4 (.tail _ (.tail _ (.head _))))) (N4 _ (.tail _ (.tail _ (.head _)))).1 zi.2.1 (by lia) (by lia) (cp.keeps (sub_hide F4 N4 (.tail _ (.tail _ (.head _))))) fun h5 tk5 ex5 r5=>?_⟩
    obtain ⟨F5,N5⟩:=backM (l1:=[(O,_),(Y,_)]) (l2:=[(X,_)]) F4 N4 ex5 r5 (fun p hp=>by
      rcases List.mem_cons.mp hp with rfl | hp
      · exact OP
      · rw [List.mem_singleton] at hp; subst hp; exact PY.symm) (fun p hp=>by rw [List.mem_singleton] at hp; subst hp; exact PX.symm)
    refine spliced_none<|newLst (s:=up s _ _) F5 N5 fun K h6 F6 N6 lt6=>st (s:=up s _ _) F6 N6 fun h7 tk7 F7 N7=>?_
    have KO:=Nat.ne_of_gt (lt6 (O,_) (.head _))
    have KY:=Nat.ne_of_gt (lt6 (Y,_) (.tail _ (.head _)))
    have KP:=Nat.ne_of_gt (lt6 (P,_) (.tail _ (.tail _ (.head _))))
    have KX:=Nat.ne_of_gt (lt6 (X,_) (.tail _ (.tail _ (.tail _ (.head _)))))
    generalize hpp:heappushpopF lt z.1 (n - 1)=pp at N7 ppn ppl hsp
    have uY:∀ {oK oO oY oY' oP oX:Obj},Upd Y oY oY' [(K,oK),(O,oO),(Y,oY),(P,oP),(X,oX)] [(K,oK),(O,oO),(Y,oY'),(P,oP),(X,oX)]:=.tail KY<|.tail OY<|.head fun p hp=>by
      rcases List.mem_cons.mp hp with rfl | hp
      · exact PY
      · rw [List.mem_singleton] at hp; subst hp; exact XY
    have uO:∀ {oK oO oO' oY oP oX:Obj},Upd O oO oO' [(K,oK),(O,oO),(Y,oY),(P,oP),(X,oX)] [(K,oK),(O,oO'),(Y,oY),(P,oP),(X,oX)]:=.tail KO<|.head fun p hp=>by
      rcases List.mem_cons.mp hp with rfl | hp
      · exact OY.symm
      rcases List.mem_cons.mp hp with rfl | hp
      · exact OP.symm
      · rw [List.mem_singleton] at hp; subst hp; exact OX.symm
    have uK:∀ {oK oK' oO oY oP oX:Obj},Upd K oK oK' [(K,oK),(O,oO),(Y,oY),(P,oP),(X,oX)] [(K,oK'),(O,oO),(Y,oY),(P,oP),(X,oX)]:=.head fun p hp=>by
      rcases List.mem_cons.mp hp with rfl | hp
      · exact KO.symm
      rcases List.mem_cons.mp hp with rfl | hp
      · exact KY.symm
      rcases List.mem_cons.mp hp with rfl | hp
      · exact KP.symm
      · rw [List.mem_singleton] at hp; subst hp; exact KX.symm
    refine wpAny_execs_cons<|wpAny_Expr<|methodCall_KW<|ld (s:=up s _ _) F7 my<|kl_method (s:=up s _ _) N7 (.tail _ (.tail _ (.head _))) slot_list_append type_list_append<|callWith_method1<|spliced_more<|callg (f:=243) (s:=up s _ _) T F7 (by kernel_rfl) (by kernel_rfl)<|spliced_more<|ld (s:=up s _ _) F7 mp<|spliced_more<|ld (s:=up s _ _) F7 mx<|spliced_none ⟨(T.keeps F7.keep).X,
      alike F7 N7 (.tail _ (.tail _ (.tail _ (.head _)))) (.tail _ (.tail _ (.tail _ (.tail _ (.head _))))) ppn.2 (by lia) fun h8 tk8 F8 N8=>spliced_none<|appendL (s:=up s _ _) F8 N8 uY (by rw [List.length_map]; lia) fun h9 F9 N9=>?_⟩
    let Jv1:Nat→Shared→Prop:=fun z' s'=>Ex8 fun h' tk m' hp out oks a b=>Ex4 fun c d e fuel=>And8 (s'=up s h' tk) (Fr s.heap L h' m') (News s.heap L h' [(K,W.listOf (List.toArray (out.map vp)) d),(O,W.listOf (List.toArray (out.map vz)) e),(Y,W.listOf (List.toArray (oks.map Value.bool)) c),(P,W.listOf (List.toArray (hp.map vp)) a),(X,W.listOf (List.toArray (hp.map vz)) b)]) (m' "plain"=some (.ref P)) (m' "sent"=some (.ref X)) (m' "same"=some (.ref Y)) (m' "out"=some (.ref O)) (And8 (m' "came"=some (.ref K)) (popGo lt fuel hp out oks=res) (hp.length≤fuel) (z'=hp.length) ((∀ i∈hp,i<n)) ((∀ i∈out,i<n)) (hp.length+out.length≤10) (hp.length+oks.length≤15))
    let Jv2:Shared→Prop:=fun s'=>Ex8 fun h' tk m' a b c d e=>And8 (s'=up s h' tk) (Fr s.heap L h' m') (News s.heap L h' [(K,W.listOf (List.toArray (res.1.map vp)) d),(O,W.listOf (List.toArray (res.1.map vz)) e),(Y,W.listOf (List.toArray (res.2.map Value.bool)) c),(P,a),(X,b)]) (m' "same"=some (.ref Y)) (m' "out"=some (.ref O)) (m' "came"=some (.ref K)) ((∀ i∈res.1,i<n)) (res.1.length≤10∧res.2.length≤15)
    refine whileN Jv1
      Jv2
      (fun E2=>?_) _ ⟨h9,_,_,pp.2,[pp.1],z.2++[heapOk lt pp.2],_,_,_,_,_,20,rfl,F9,by simpa using N9,mp,mx,my,rfl,rfl,hsp.symm,by lia,rfl,ppn.2,fun i hi=>by rw [List.mem_singleton.mp hi]; exact ppn.1,by simp; lia,by simp; lia⟩ ?_
    rotate_left
    · rintro s' ⟨h',tk,m',a,b,c,d,e,rfl,F',N',my,mo,mk,hon,hol,hkl⟩
      refine wpAny_execs_cons<|wpAny_Return_some<|Tuple_<|spliced_more<|ld (s:=up s _ _) F' mo<|spliced_more<|BoolOp_and<|wpAny_Compare1<|wpAny_Constant_bool<|ld (s:=up s _ _) F' my<|SeqAt.notIn_listAt (s:=up s _ _) (items:=(res.2.map Value.bool).toArray) isF ⟨_,(N' _ (.tail _ (.tail _ (.head _)))).1,rfl,_,rfl⟩ (fun y hy=>?_)<|wpAny_truthy_bool ?_
      · have:y∈res.2.map Value.bool:=by simpa using hy
        obtain ⟨bb,_,rfl⟩:=List.mem_map.mp this
        exact SeqAt.EqAt.bool_bool bb false
      rw [any_isF]
      have N'':News s.heap L h' [(O,W.listOf (List.toArray (res.1.map vz)) e)]:=news_sub N' fun p hp=>by rw [List.mem_singleton] at hp; subst hp; exact .tail _ (.head _)
      cases hall:res.2.all id with
      | false =>
        first | refine ifF (by simp) ?_ | rw [if_neg (by simp)]
        rw [hall] at h
        refine spliced_none<|newTup (s:=up s _ _) F' N'' fun tq h2 F2 N2 lt2=>?_
        exact h h2 _ tq O _ (ext_of_fr (W:=[]) F2) (N2 _ (.head _)).1 (N2 _ (.tail _ (.head _))).1 (N2 _ (.head _)).2.2 (N2 _ (.tail _ (.head _))).2.2 (lt2 _ (.head _))
      | true =>
        first | refine ifT rfl ?_ | rw [if_pos rfl]
        rw [hall] at h
        refine BoolOp_one<|wpAny_Compare1<|ld (s:=up s _ _) F' mo<|callg (f:=236) (s:=up s _ _) T F' (by kernel_rfl) (by kernel_rfl)<|spliced_more<|ld (s:=up s _ _) F' mk<|spliced_none ⟨(T.keeps F'.keep).X,
          sent_call (s:=up s _ _) (ml:=res.1.map fun i=>(R i,rows i)) (rm'.le (by lia)) (T.keeps F'.keep) (by rw [List.map_map]; subst hvp; exact (N' _ (.head _)).1) (fun p hp=>?_) (by rw [List.length_map]; lia) fun h2 tk2 D vs n' ex2 hD hvs fr2=>?_⟩
        · obtain ⟨i,hi,rfl⟩:=List.mem_map.mp hp
          exact ⟨(hR i (hon i hi)).1.keeps F'.keep,(hR i (hon i hi)).2⟩
        obtain ⟨F2,N2⟩:=ext_grow F' N'' ex2
        rw [List.map_map] at hvs
        refine rc_eq (s:=up s _ _) (rs:=res.1.map fun i=>sentOf (rows i)) ⟨_,_,(N2 _ (.head _)).1,strz _⟩ ⟨vs,n',hD,hvs⟩ rm'.u prog w _ _ ?_
        have:((res.1.map fun i=>sentOf (rows i))==(res.1.map ((fun p:Addr×List (List Nat)=>sentOf p.2) ∘ fun i=>(R i,rows i))))=true:=by
          rw [show ((fun p:Addr×List (List Nat)=>sentOf p.2) ∘ fun i=>(R i,rows i))=fun i=>sentOf (rows i) from rfl]
          exact beq_self_eq_true _
        rw [this]
        refine spliced_none<|newTup (s:=up s _ _) F2 N2 fun tq h3 F3 N3 lt3=>?_
        exact h h3 _ tq O _ (ext_of_fr (W:=[]) F3) (N3 _ (.head _)).1 (N3 _ (.tail _ (.head _))).1 (N3 _ (.head _)).2.2 (N3 _ (.tail _ (.head _))).2.2 (lt3 _ (.head _))
    rintro z' s' ⟨h',tk,m',hp,out,oks,a,b,c,d,e,fuel,rfl,F',N',mp,mx,my,mo,mk,hgo,hfu,rfl,hpn,hon,hol,hkl⟩
    refine wpAny_isTrue_BoolOp<|wpAny_allTrue_And_cons<|wpAny_isTrue_value<|ld (s:=up s _ _) F' mx<|truthyL (s:=up s _ _) N' (.tail _ (.tail _ (.tail _ (.tail _ (.head _))))) (by rw [List.length_map]; lia) fun _=>?_
    by_cases hne:hp=[]
    · subst hne
      first | refine ifF (by simp) ?_ | rw [if_neg (by simp)]
      rw [popGo_nil] at hgo
      first | refine ifF (by simp) ?_ | rw [if_neg (by simp)]
      subst hgo
      exact ⟨h',_,m',_,_,c,d,e,rfl,F',N',my,mo,mk,hon,by simpa using hol,by simpa using hkl⟩
    · have hpos:0<hp.length:=List.length_pos_iff.mpr hne
      rw [if_pos (by simp [hne])]
      refine wpAny_allTrue_And_cons<|wpAny_isTrue_value<|ld (s:=tkd (up s _ _) _) F' mp<|truthyL (s:=tkd (up s _ _) _) N' (.tail _ (.tail _ (.tail _ (.head _)))) (by rw [List.length_map]; lia) fun _=>?_
      rw [if_pos (by simp [hne])]
      refine wpAny_allTrue_And_nil ?_
      first | refine ifT rfl ?_ | rw [if_pos rfl]
      obtain ⟨f,rfl⟩:∃ f,fuel=f+1:=⟨fuel - 1,by lia⟩
      unfold popGo at hgo
      rw [if_neg hne] at hgo
      have hsplit:=last_split hne
      have hil:hp.dropLast.length=hp.length - 1:=by simp
      generalize hp.dropLast=init at hgo hsplit hil
      generalize hp.getLastD 0=last at hgo hsplit
      subst hsplit
      have hni:∀ i∈init,i<n:=fun i hi=>hpn i (List.mem_append_left _ hi)
      have hnl:last<n:=hpn last (by simp)
      have pl:=popF_length lt init last
      have pn:=popF_lt (lt:=lt) hni hnl
      refine wpAny_execs_cons<|wpAny_Expr<|methodCall_KW<|ld (s:=tkd (up s _ _) _) F' mo<|kl_method (s:=tkd (up s _ _) _) N' (.tail _ (.head _)) slot_list_append type_list_append<|callWith_method1<|spliced_more<|callg (f:=52) (s:=tkd (up s _ _) _) T F' (by kernel_rfl) (by kernel_rfl)<|spliced_more<|ld (s:=tkd (up s _ _) _) F' mx<|spliced_none ⟨(T.keeps F'.keep).X,
        heappop_call (s:=tkd (up s _ _) _) (n:=n) (val:=vz) (lt:=lt) (rm'.le (by lia)) (T.keeps (sub_hide F' N' (.tail _ (.tail _ (.tail _ (.tail _ (.head _))))))) (N' _ (.tail _ (.tail _ (.tail _ (.tail _ (.head _)))))).1 hpn (by lia) (cz.keeps (sub_hide F' N' (.tail _ (.tail _ (.tail _ (.tail _ (.head _))))))) fun h2 tk2 ex2 r2=>?_⟩
      obtain ⟨F2,N2⟩:=backM (l1:=[(K,_),(O,_),(Y,_),(P,_)]) (l2:=[]) F' N' ex2 r2 (fun p hp=>by
        rcases List.mem_cons.mp hp with rfl | hp
        · exact KX
        rcases List.mem_cons.mp hp with rfl | hp
        · exact OX
        rcases List.mem_cons.mp hp with rfl | hp
        · exact XY.symm
        · rw [List.mem_singleton] at hp; subst hp; exact PX) (fun _ h=>noMem h)
      refine spliced_none<|appendL (s:=up s _ _) F2 N2 uO (by rw [List.length_map]; lia) fun h3 F3 N3=>?_
      refine wpAny_execs_cons<|wpAny_Expr<|methodCall_KW<|ld (s:=up s _ _) F3 mk<|kl_method (s:=up s _ _) N3 (.head _) slot_list_append type_list_append<|callWith_method1<|spliced_more<|callg (f:=52) (s:=up s _ _) T F3 (by kernel_rfl) (by kernel_rfl)<|spliced_more<|ld (s:=up s _ _) F3 mp<|spliced_none ⟨(T.keeps F3.keep).X,
        heappop_call (s:=up s _ _) (n:=n) (val:=vp) (lt:=lt) (rm'.le (by lia)) (T.keeps (sub_hide F3 N3 (.tail _ (.tail _ (.tail _ (.head _)))))) (N3 _ (.tail _ (.tail _ (.tail _ (.head _))))).1 hpn (by lia) (cp.keeps (sub_hide F3 N3 (.tail _ (.tail _ (.tail _ (.head _)))))) fun h4 tk4 ex4 r4=>?_⟩
      obtain ⟨F4,N4⟩:=backM (l1:=[(K,_),(O,_),(Y,_)]) (l2:=[(X,_)]) F3 N3 ex4 r4 (fun p hp=>by
        rcases List.mem_cons.mp hp with rfl | hp
        · exact KP
        rcases List.mem_cons.mp hp with rfl | hp
        · exact OP
        · rw [List.mem_singleton] at hp; subst hp; exact PY.symm) (fun p hp=>by rw [List.mem_singleton] at hp; subst hp; exact PX.symm)
      refine spliced_none<|appendL (s:=up s _ _) F4 N4 uK (by rw [List.length_map]; lia) fun h5 F5 N5=>?_
      refine wpAny_execs_cons<|wpAny_Expr<|methodCall_KW<|ld (s:=up s _ _) F5 my<|kl_method (s:=up s _ _) N5 (.tail _ (.tail _ (.head _))) slot_list_append type_list_append<|callWith_method1<|spliced_more<|callg (f:=243) (s:=up s _ _) T F5 (by kernel_rfl) (by kernel_rfl)<|spliced_more<|ld (s:=up s _ _) F5 mp<|spliced_more<|ld (s:=up s _ _) F5 mx<|spliced_none ⟨(T.keeps F5.keep).X,
        alike F5 N5 (.tail _ (.tail _ (.tail _ (.head _)))) (.tail _ (.tail _ (.tail _ (.tail _ (.head _))))) pn.2 (by lia) fun h6 tk6 F6 N6=>spliced_none<|appendL (s:=up s _ _) F6 N6 uY (by rw [List.length_map]; lia) fun h7 F7 N7=>?_⟩
      refine wpAny_execs_nil ⟨(heappopF lt init last).2.length,by rw [pl]; simp,h7,_,m',_,out++[(heappopF lt init last).1],oks++[heapOk lt (heappopF lt init last).2],_,_,_,_,_,f,rfl,F7,by simpa using N7,mp,mx,my,mo,mk,hgo,by simp at hfu; lia,rfl,pn.2,fun i hi=>?_,by simp at hol ⊢; lia,by simp at hkl ⊢; lia⟩
      rcases List.mem_append.mp hi with q | q
      · exact hon i q
      · rw [List.mem_singleton.mp q]; exact pn.1
theorem al0:∀ d,P1 d:=epsAll ne0 P1 (by with_unfolding_all exact bd0)
end Zside
end
section
variable {prog:Program} {w:World} {A:Around} {E:Value→Shared→Prop} {s:Shared} {g:Heap} {L:Addr} {m:Str→Option Value} {news news':List (Addr×Obj)}
theorem side_call {Q:Value→Shared→Prop} {Ma Za:Addr} {n n1 n2:Nat} {R:Nat→Addr} {rows:Nat→List (List Nat)} {tz:Nat→Tok} {lt:Nat→Nat→Bool} (rm:Room A 8) (T:Wd w s.heap) (hn1:1≤n) (hn6:n≤6) (hM:s.heap.get? Ma=some (W.listOf (List.toArray ((List.range n).map fun i=>Value.ref (R i))) n1)) (hZ:s.heap.get? Za=some (W.listOf (List.toArray ((List.range n).map fun i=>Value.str (S (sentOf (rows i))) (tz i))) n2)) (hR:∀ i<n,StrsAt s.heap (R i) (rows i)∧Small (rows i)) (hlt:∀ i<n,∀ j<n,ltRows (rows i) (rows j)=lt i j) (hls:∀ i<n,∀ j<n,sLt (sentOf (rows i)) (sentOf (rows j))=lt i j) (h:∀ h' tk' tp D n',Ext [] s.heap h'→h'.get? tp=some (tupOf [.ref D,.bool ((sideP lt n).2.all id)])→h'.get? D=some (W.listOf (List.toArray ((sideP lt n).1.map fun i=>Value.str (S (sentOf (rows i))) (tz i))) n')→s.heap.get? tp=none→s.heap.get? D=none→D<tp →
      Q (.ref tp) (up s h' tk')):wpAny (model prog w) A (call (.ref 250) [.ref Ma,.ref Za]) Q E s:=by
  refine wpAny_call (enter (W:=[]) (binds:=[(("mails":Str),.ref Ma),(("sents":Str),.ref Za)]) rm.le' (fn250 T.X) T.lim (cd250 T.X) (fun p hp=>noMem hp) rfl
    (BindsTo.of_eq (by kernel_rfl)) (by kernel_rfl) (by kernel_rfl) ?_ (by kernel_rfl) (by kernel_rfl) (by kernel_rfl))
  intro L h₀ tk₀ hL F N A₁ R₁ E₁ dA hret hnone
  exact Zside.al0 (((((prog,w),A),(s,A₁)),(((Ma,Za),n),(n1,n2))),((((R,rows),tz),(lt,L)),((h₀,tk₀),(R₁,E₁)))) rm T hn1 hn6 hM hZ hR hlt hls (fun x0 x1 x2 x3 x4 x5 x6 x7 x8 x9 x10=>hret _ _ (h x0 x1 x2 x3 x4 x5 x6 x7 x8 x9 x10)) hL F N dA
end
end
section
section
variable {prog:Program} {w:World} {A:Around} {E:Value→Shared→Prop} {s:Shared} {env:Env} {g:Heap} {L:Addr} {m:Str→Option Value} {news:List (Addr×Obj)}
theorem iterEnum {R:Result→Shared→Prop} {x1 x2:Str} {p1 p2 pt:Pos} {z:Nat} {body:List Stmt} {e it l:Addr} {vs:List Value} (hh:A.handled=none) (F:Fr g L s.heap m) (N:News g L s.heap news)
    (hei:e≠it) (hle:l≠e) (hli:l≠it) (he:IsEnum s.heap e it 0 .none) (hit:s.heap.IsListIter it l 0) (hl:s.heap.IsList l vs.toArray) (hg:∀ b∈[e,it,l],g.get? b=none∧b≠L) (hnw:∀ p∈news,p.1∉[e,it,l])
    (J:Nat→(Str→Option Value)→List (Addr×Obj)→Prop) (h0:J 0 m news)
    (step:∀ (E':Value→Shared→Prop) i x t m₁ news₁ h₁ tk₁ own,vs[i]?=some x→J i m₁ news₁→(∀ p∈news₁,p.1∉[e,it,l])→(∀ p∈own,p.1∈[e,it,l])→(∀ b∈[e,it,l],∃ o,(b,o)∈own∧h₁.get? b=some o) →
      Fr g L h₁ (fun y=>if y=x2 then some x else if y=x1 then some (.int (i:Int) t) else m₁ y)→News g L h₁ (news₁++own) →
      wpAny (model prog w) A (execs body env) (Turn s g L [e,it,l] own (J (i+1)) R) E' (up s h₁ tk₁))
    (hend:∀ h' tk m' news',Fr g L h' m'→News g L h' news'→(∀ p∈news',p.1∉[e,it,l])→J vs.length m' news'→R (.ok .next) (up s h' tk))
    (hL:env.locals=L:=by rfl) (hk:env.scope.kind=.function:=by rfl) (hx1:env.kindOf x1=some .local:=by kernel_rfl) (hx2:env.kindOf x2=some .local:=by kernel_rfl) :
    codeAny (model prog w) A (.forLoop (.Tuple [.Name x1 p1,.Name x2 p2] z pt) (.ref e) body [] env) R s:=by
  refine forP (fp:=[e,it,l]) (wr:=[e,it]) (n:=vs.length) (P:=fun i v1 v2=>∃ t,vs[i]?=some v2∧v1=.int (i:Int) t) (St:=fun i h=>(∃ old,IsEnum h e it (i:Int) old)∧h.IsListIter it l i∧h.IsList l vs.toArray) hh
    hg (fun b hb=>by simp only [List.mem_cons,List.not_mem_nil,or_false] at hb ⊢; rcases hb with h | h <;> simp [h]) (fun i h hs b hb=>?_) (fun i h h' hs hk=>?_) (fun i s' E₁ E₂ Q hi hst hsub hq=>?_) (fun s' E₁ Q hst hsub hq=>?_) ⟨⟨_,he⟩,hit,hl⟩ F N hnw J h0
    (fun E' i v1 v2 m₁ news₁ h₁ tk₁ own hi ⟨t,hx,e1⟩ hJ hw ho hex F₁ N₁=>by subst e1; exact step E' i v2 t m₁ news₁ h₁ tk₁ own hx hJ hw ho hex F₁ N₁) hend hL hk hx1 hx2
  · obtain ⟨⟨old,h1⟩,⟨o2,h2,_⟩,⟨o3,h3,_⟩⟩:=hs
    simp only [List.mem_cons,List.not_mem_nil,or_false] at hb
    rcases hb with rfl | rfl | rfl
    · exact ⟨_,h1⟩
    · exact ⟨_,h2⟩
    · exact ⟨_,h3⟩
  · obtain ⟨⟨old,h1⟩,h2,h3⟩:=hs
    exact ⟨⟨old,hk e (by simp) _ h1⟩,h2.at fun o x=>hk it (by simp) o x,h3.at fun o x=>hk l (by simp) o x⟩
  · obtain ⟨⟨old,h1⟩,h2,h3⟩:=hst
    have hx:vs[i]?=some vs[i]:=List.getElem?_eq_getElem hi
    refine wpAny_pyNext_enum_item (x:=vs[i]) h1 h2 h3 (by rw [List.getElem?_toArray]; exact hx) hei fun h' ho hit' hT hsz hk=>⟨_,rfl,?_⟩
    refine wpAny_letOwnedTupleGo_enum ho fun h₂ he₂ hs₂=>?_
    replace hs₂:Heap.SameBut e h' h₂:=hs₂
    have ee:e<s'.heap.objs.size:=Heap.lt_size h1
    have ei:((i+1:Nat):Int)=(i:Int)+1:=by push_cast; rfl
    refine hq (.int (i:Int) s'.toks) vs[i] h₂ s'.heap.objs.size _ ⟨_,hx,rfl⟩ ⟨⟨_,by rw [ei]; exact he₂⟩,hit'.at fun o x=>(hs₂.2 it hei.symm).trans x,(h3.at fun o x=>hk l o hle hli x).at fun o x=>(hs₂.2 l hle).trans x⟩
      ⟨_,(hs₂.2 _ (Nat.ne_of_gt ee)).trans hT,rfl,_,rfl⟩ (Heap.get?_none_of_le (Nat.le_refl _)) fun b o hb x=>?_
    have b1:b≠e:=fun q=>hb (by simp [q])
    have b2:b≠it:=fun q=>hb (by simp [q])
    exact (hs₂.2 b b1).trans (hk b o b1 b2 x)
  · obtain ⟨⟨old,h1⟩,h2,h3⟩:=hst
    exact wpAny_pyNext_enum_end hh h1 h2 h3 (by simp) fun h' hx=>hq h' _ fun b o hb y=>hx b o (fun q=>hb (by simp [q])) y
theorem sumI {Q:Value→Shared→Prop} {l:Addr} {vs:List Value} {ns:List Int} (hh:A.handled=none) (F:Fr g L s.heap m) (N:News g L s.heap news) (hl:s.heap.IsList l vs.toArray) (hi:IntsAre vs ns)
    (h:∀ k t h' tk,Fr g L h' m→News g L h' news→Q (.int k t) (up s h' tk)):wpAny (model prog w) A (call (.builtin "sum") [.ref l]) Q E s:=by
  refine call_sum_walkG (wpAny_pyIter_list hl ?_)
  have hne:l≠s.heap.objs.size:=let ⟨_,ho,_⟩:=hl; Nat.ne_of_lt (Heap.lt_size ho)
  refine ⟨s.heap.objs.size,[s.heap.objs.size,l],[s.heap.objs.size],vs.toArray.size,_,_,fun j=>ns.getD j 0,rfl,Walks.list (A:=A.in1) hh s.heap.objs.size l hne vs.toArray,⟨⟨_,Heap.get?_push_size _ rfl,rfl,rfl⟩,hl.push _⟩,fun b hb=>?_,fun i v hP=>?_,fun h' tk t' hk=>?_⟩
  · show b<(s.heap.push _).objs.size
    rw [Heap.size_push]
    rcases List.mem_cons.mp hb with rfl | hb
    · exact Nat.lt_succ_self _
    · rw [List.mem_singleton] at hb; subst hb
      exact Nat.lt_succ_of_lt (let ⟨_,ho,_⟩:=hl; Heap.lt_size ho)
  · obtain ⟨k,t,rfl,hk⟩:=ints_get hi (by simpa using hP)
    refine ⟨t,?_⟩
    show Value.int k t=Value.int (ns.getD i 0) t
    rw [List.getD_eq_getElem?_getD,hk]; rfl
  · have kp:∀ b o,s.heap.get? b=some o→h'.get? b=some o:=fun b o e=>hk b o (fun q=>by rw [List.mem_singleton] at q; exact absurd q (Nat.ne_of_lt (Heap.lt_size e))) (Heap.get?_push_of_some _ e)
    obtain ⟨F',N'⟩:=grow F N kp
    exact h _ t' h' tk F' N'
theorem strs_unique {h:Heap} {l:Addr} {rs qs:List (List Nat)} (X:StrsAt h l rs) (Y:StrsAt h l qs):rs=qs:=by
  obtain ⟨vs,n,hl,h1⟩:=X
  obtain ⟨us,n2,hb,h2⟩:=Y
  rw [hl] at hb
  have e0:=congrArg (fun o:Option Obj=>o.map (·.data)) hb
  simp [W.listOf] at e0
  obtain ⟨rfl,_⟩:=e0
  clear hb hl
  induction h1 generalizing qs with
  | nil=>cases h2; rfl
  | cons e h ih =>
    cases h2 with
    | cons e' h' =>
      rw [e] at e'
      injection e' with e1 e2
      rw [S_inj e1,ih h']
end
structure Mi where
  R:Addr
  vs:List Value
  n:Nat
  toks:List Nat
  tt:Tok
noncomputable def Mi.rows (x:Mi):List (List Nat):=rowsOf x.toks
noncomputable def Mi.led (x:Mi):Addr×Obj:=(x.R,W.listOf x.vs.toArray x.n)
structure Mi.Ok (x:Mi):Prop where
  isS:Strs x.vs (rowsOf x.toks)
  len:x.toks.length≤3
  six:∀ t∈x.toks,t<6
theorem rows_small {toks : List Nat} (h : toks.length ≤ 3) : Small (rowsOf toks) ∧ rowsOf toks ≠ [] := by
  have key:∀ toks:List Nat,toks.length≤3→∀ r∈(mailGo toks).1,r.length≤3:=by
    intro toks
    generalize hn:toks.length=n
    induction n generalizing toks with
    | zero =>
      intro _ r hr
      have:toks=[]:=List.length_eq_zero_iff.mp hn
      subst this; cases hr
    | succ n ih =>
      intro h3 r hr
      obtain ⟨rr,t,rfl⟩:∃ rr t,toks=rr++[t]:=⟨toks.dropLast,toks.getLast (by intro q; rw [q] at hn; simp at hn),(List.dropLast_concat_getLast _).symm⟩
      have hrl:rr.length=n:=by simpa using hn
      rw [mailGo_snoc] at hr
      unfold mstep at hr
      split at hr
      · exact ih rr hrl (by lia) r hr
      · rcases List.mem_append.mp hr with q | q
        · exact ih rr hrl (by lia) r q
        · rw [List.mem_singleton] at q; subst q
          have:=(mailGo_size rr).2.1; lia
  have sz:=mailGo_size toks
  unfold rowsOf
  refine ⟨⟨by simp; lia,fun r hr=>?_⟩,by simp⟩
  rcases List.mem_append.mp hr with q | q
  · have:=key toks h r q; lia
  · rw [List.mem_singleton] at q; subst q; lia
end
section
open Classical in
noncomputable def sameRows (ms:List Mi) (r:List (List Nat)) (y:Value):Bool:=decide (∃ x∈ms,y=.ref x.R∧x.rows=r)
section
variable {prog:Program} {w:World} {A:Around} {E:Value→Shared→Prop} {s:Shared}
end
noncomputable section
namespace Zmails
abbrev D0:=((((Program)×(World))×((Around)×(Shared)))×(((Around)×(Addr))×(List Value)))×((((List Int)×(Addr))×(Heap))×(((Nat)×(Flow→Shared→Prop))×(Value→Shared→Prop)))
abbrev P0 (prog:Program) (w:World) (A:Around) (s:Shared) (A₁:Around) (sc:Addr) (sv:List Value) (ns:List Int) (L:Addr) (h₀:Heap) (tk₀:Nat) (R₁:Flow→Shared→Prop) (E₁:Value→Shared→Prop):Prop:=∀ (rm:Room A 5) (T:Wd w s.heap) (hS:s.heap.IsList sc sv.toArray) (hI:IntsAre sv ns) (hz:ns.length≤1000) (h:∀ h' tk' tp M X (ms:List Mi) n1 n2,Ext [] s.heap h'→h'.get? tp=some (tupOf [.ref M,.ref X])→h'.get? M=some (W.listOf (List.toArray (ms.map fun x:Mi=>Value.ref x.R)) n1)→h'.get? X=some (W.listOf (List.toArray (ms.map fun x:Mi=>Value.str (S (textOf x.toks)) x.tt)) n2) →
      (∀ x∈ms,h'.get? x.R=some (W.listOf x.vs.toArray x.n)∧x.Ok∧s.heap.get? x.R=none)→(ms.map Mi.rows).Nodup→1≤ms.length→ms.length≤6→s.heap.get? tp=none→s.heap.get? M=none→s.heap.get? X=none→R₁ (.ret (.ref tp)) (up s h' tk')) (hL:L=s.heap.objs.size) (F:Fr (hideAll s.heap (([]:List (Addr×Obj)).map (·.1))) L h₀ (fun y9=>([(("script":Str),.ref sc)]:List (Str×Value)).reverse.lookup y9)) (N:News (hideAll s.heap (([]:List (Addr×Obj)).map (·.1))) L h₀ ([])) (dA:Deeper A A₁ (callEnv (fd231 w) L 231)),wpAny (model prog w) A₁ (execs (stm (fd231 w)) (callEnv (fd231 w) L 231)) R₁ E₁ (up s h₀ tk₀)
abbrev P1 (d:D0):=P0 d.1.1.1.1 d.1.1.1.2 d.1.1.2.1 d.1.1.2.2 d.1.2.1.1 d.1.2.1.2 d.1.2.2 d.2.1.1.1 d.2.1.1.2 d.2.1.2 d.2.2.1.1 d.2.2.1.2 d.2.2.2
theorem ne0:Nonempty D0:=⟨((((Challenge.pw_ny0293_01,Classical.choice neW),(callerA,Classical.choice neS)),((callerA,default),default)),default)⟩
@[irreducible] def d0:D0:=@Classical.epsilon D0 ne0 fun d=>¬ P1 d
def prog:=d0.1.1.1.1
def w:=d0.1.1.1.2
def A:=d0.1.1.2.1
def s:=d0.1.1.2.2
def A₁:=d0.1.2.1.1
def sc:=d0.1.2.1.2
def sv:=d0.1.2.2
def ns:=d0.2.1.1.1
def L:=d0.2.1.1.2
def h₀:=d0.2.1.2
def tk₀:=d0.2.2.1.1
def R₁:=d0.2.2.1.2
def E₁:=d0.2.2.2
theorem bd0:P0 prog w A s A₁ sc sv ns L h₀ tk₀ R₁ E₁:=by
  intro rm T hS hI hz h hL F N dA
  refine with_stm (P:=fun b=>wpAny (model prog w) A₁ (execs b (callEnv (fd231 w) L 231)) R₁ E₁ (up s h₀ tk₀)) rfl ?_
  show wpAny _ _ (execs (_::_) _) _ _ _
  have rm':=dA.room rm
  change News s.heap L h₀ [] at N
  change Fr s.heap L h₀ _ at F
  refine wpAny_execs_cons<|Assign_Tuple_swapped (names:=["mails","texts"]) (hw:=by kernel_rfl)<|Tuple_<|spliced_more<|List_<|spliced_none<|newLst F N fun M h1 F1 N1 lt1=>spliced_more<|List_<|spliced_none<|newLst (s:=up s _ _) F1 N1 fun X h2 F2 N2 lt2=>spliced_none<|newTup (s:=up s _ _) F2 N2 fun tp h3 F3 N3 lt3=>?_
  have N3':News s.heap L h3 [(X,W.listOf #[] 0),(M,W.listOf #[] 0)]:=fun p hp=>N3 p (.tail _ hp)
  refine wpAny_unpackItems_tuple (s:=up s _ _) (items:=[.ref M,.ref X].toArray) rm'.handled ⟨_,(N3 _ (.head _)).1,rfl,_,rfl⟩ fun h4 e4=>?_
  obtain ⟨F4,N4⟩:=growBut (h':=h4) F3 N3' e4
  refine wpAny_assignInOrder_more<|wpAny_bindName<|st (s:=up s _ _) F4 N4 fun h5 _ F5 N5=>wpAny_assignInOrder_more<|wpAny_bindName<|st (s:=up s _ _) F5 N5 fun h6 tk6 F6 N6=>wpAny_assignInOrder_none ?_
  have MX:M≠X:=Nat.ne_of_lt (lt2 (M,_) (.head _))
  refine wpAny_execs_cons<|wpAny_For<|callt (id:="enumerate") (s:=up s _ _) T F6 (by kernel_rfl)<|spliced_more<|List_<|spliced_more<|cint fun ta _=>spliced_more<|cint fun tb _=>spliced_more<|cint fun tc _=>spliced_more<|cint fun td _=>spliced_more<|cint fun te _=>spliced_more<|cint fun tf _=>spliced_none<|newLst (s:=tkd (up s _ _) _) F6 N6 fun l h7 F7 N7 lt7=>spliced_none <|
    call_enumerate_list (s:=up s _ _) (items:=[Value.int 887 ta,.int 18 tb,.int 5 tc,.int 0 td,.int 38 te,.int 54 tf].toArray) ⟨_,(N7 _ (.head _)).1,rfl,_,rfl⟩ fun h8 he hit hsz hk8=>?_
  obtain ⟨F8,N8⟩:=grow F7 N7 hk8
  have ll:=Heap.lt_size (N7 _ (.head _)).1
  refine wpAny_pyIter_enum (s:=up s _ _) he ?_
  have N8':News s.heap L h8 [(X,W.listOf #[] 0),(M,W.listOf #[] 0)]:=fun p hp=>N8 p (.tail _ hp)
  have fr7:∀ b,h7.objs.size≤b→s.heap.get? b=none:=fun b hb=>by
    cases z:s.heap.get? b with
    | none=>rfl
    | some o=>exact absurd (Heap.lt_size (F7.keep _ _ z)) (Nat.not_lt.mpr hb)
  let Jv0:Nat→(Str→Option Value)→List (Addr×Obj)→Prop:=fun i m news=>Ex3 fun (ms:List Mi) (n1:Nat) (n2:Nat)=>And8 (news=(X,W.listOf (List.toArray (ms.map fun x:Mi=>Value.str (S (textOf x.toks)) x.tt)) n2)::(M,W.listOf (List.toArray (ms.map fun x:Mi=>Value.ref x.R)) n1)::ms.map Mi.led) ((∀ x∈ms,x.Ok)) ((ms.map Mi.rows).Nodup) (ms.length≤i) ((1≤i→1≤ms.length)) ((∀ x∈ms,x.R≠M∧x.R≠X)) (m "mails"=some (.ref M)) (m "texts"=some (.ref X)∧m "script"=some (.ref sc))
  refine iterEnum (s:=up s _ _) (l:=l) (vs:=[Value.int 887 ta,.int 18 tb,.int 5 tc,.int 0 td,.int 38 te,.int 54 tf]) rm'.handled F8 N8' (Nat.ne_of_gt (Nat.lt_succ_self _)) (Nat.ne_of_lt (Nat.lt_succ_of_lt ll)) (Nat.ne_of_lt ll) he hit ⟨_,(N8 _ (.head _)).1,rfl,_,rfl⟩ (fun b hb=>?_) (fun p hp q=>?_)
    Jv0 ⟨[],0,0,rfl,fun _ h=>(nomatch h),by simp,Nat.zero_le _,fun h=>absurd h (by lia),fun _ h=>(nomatch h),rfl,rfl,rfl⟩ ?_ ?_
  · simp only [List.mem_cons,List.not_mem_nil,or_false] at hb
    rcases hb with rfl | rfl | rfl
    · exact ⟨fr7 _ (Nat.le_succ _),Nat.ne_of_gt (Nat.lt_succ_of_lt F7.ns.lt)⟩
    · exact ⟨fr7 _ (Nat.le_refl _),Nat.ne_of_gt F7.ns.lt⟩
    · exact ⟨(N8 _ (.head _)).2.2,(N8 _ (.head _)).2.1⟩
  · simp only [List.mem_cons,List.not_mem_nil,or_false] at q
    have hp7:=Heap.lt_size (N7 p (.tail _ hp)).1
    rcases q with q | q | q
    · rw [q] at hp7; exact absurd (Nat.lt_of_succ_lt hp7) (Nat.lt_irrefl _)
    · rw [q] at hp7; exact absurd hp7 (Nat.lt_irrefl _)
    · have:=lt7 p hp; rw [q] at this; exact absurd this (Nat.lt_irrefl _)
  · intro E' i x t m₁ news₁ h₁ tk₁ own hx hJ hw ho hex F₁ N₁
    obtain ⟨ms,n1,n2,rfl,hok,hnd,hlen,hone,hne,mm,mx,msc⟩:=hJ
    have hi6:i<6:=(List.getElem?_eq_some_iff.mp hx).1
    obtain ⟨k0,t0,rfl⟩:∃ k0 t0,x=.int k0 t0:=by
      have:i=0∨i=1∨i=2∨i=3∨i=4∨i=5:=by lia
      rcases this with rfl | rfl | rfl | rfl | rfl | rfl <;> (simp at hx; exact ⟨_,_,hx.symm⟩)
    have hlS:=hI.length
    refine wpAny_execs_cons<|Assign_Tuple<|callg (f:=224) (s:=up s _ _) T F₁ (by kernel_rfl) (by kernel_rfl)<|spliced_more<|wpAny_BinOp<|wpAny_BinOp<|ld (s:=up s _ _) F₁ rfl<|callb (id:="sum") (s:=up s _ _) T F₁ (by kernel_rfl)<|spliced_more<|Subscript_<|ld (s:=up s _ _) F₁ msc<|wpAny_Slice<|wpAny_evalPart_some<|ld (s:=up s _ _) F₁ rfl<|wpAny_evalPart_some<|cint fun _ _=>wpAny_evalPart_some<|cint fun _ _ =>
      slice_list3 (s:=tkd (up s _ _) _) (items:=sv.toArray) (lo:=some (i:Int)) (hi:=some 60) (st:=some 6) F₁ N₁ (let ⟨o,ho,r⟩:=hS; ⟨o,F₁.keep _ _ ho,r⟩) (.int _ _) (.int _ _) (.int _ _) (by simp) (fun h2 F2 N2=>?_) (hsz:=by rw [List.size_toArray,sizeLine_eq]; lia)
    refine spliced_none<|sumI (s:=up s _ _) (vs:=(slicePick sv.toArray (some (i:Int)) (some 60) (some 6)).toList) (ns:=pickNums ns (some (i:Int)) (some 60) (some 6)) rm'.handled F2 (fun p hp=>N2 p (.tail _ hp)) ⟨_,(N2 _ (.head _)).1,rfl,_,by rw [Array.toArray_toList]⟩ (hI.pick _ _ _) fun k3 t3 h3 tk3 F3 N3=>?_
    refine add_int fun _ _=>cint fun _ _=>fmod_bd (by lia) fun x4 t4 tk4 hx0 hx1=>spliced_none ⟨(T.keeps F3.keep).X,mail_call (s:=tkd (up s _ _) _) (rm'.le (by lia)) (T.keeps F3.keep) hx0 hx1 fun h5 tk5 tp5 R nn vs tt toks ex5 htp5 hR5 hst5 hlen5 hsix5 frR frtp ltR=>?_⟩
    obtain ⟨F5,N5⟩:=ext_grow F3 N3 ex5
    have gnone:∀ b,h3.get? b=none→s.heap.get? b=none:=fun b hb=>by
      cases z:s.heap.get? b with
      | none=>rfl
      | some o=>have:=F3.keep _ _ z; rw [show h3.get? b=none from hb] at this; cases this
    have lL:∀ b,h3.get? b=none→b≠L:=fun b hb e=>by obtain ⟨oL,hoL⟩:=fr_obj F3; rw [e,hoL] at hb; cases hb
    have N5':News s.heap L h5 ((tp5,tupOf [.ref R,.str (S (textOf toks)) tt])::(R,W.listOf vs.toArray nn)::(((X,W.listOf (List.toArray (ms.map fun x:Mi=>Value.str (S (textOf x.toks)) x.tt)) n2)::(M,W.listOf (List.toArray (ms.map fun x:Mi=>Value.ref x.R)) n1)::ms.map Mi.led)++own)):=fun p hp=>by
      rcases List.mem_cons.mp hp with rfl | hp
      · exact ⟨htp5,lL _ frtp,gnone _ frtp⟩
      rcases List.mem_cons.mp hp with rfl | hp
      · exact ⟨hR5,lL _ frR,gnone _ frR⟩
      · exact N5 p hp
    have Rne:∀ p∈((X,W.listOf (List.toArray (ms.map fun x:Mi=>Value.str (S (textOf x.toks)) x.tt)) n2)::(M,W.listOf (List.toArray (ms.map fun x:Mi=>Value.ref x.R)) n1)::ms.map Mi.led)++own,p.1≠R:=fun p hp e=>by
      have:=(N3 p hp).1; rw [e] at this; rw [show h3.get? R=none from frR] at this; cases this
    refine assT (s:=up s _ _) rm'.handled F5 N5' (.head _) rfl fun h6 F6 N6=>?_
    have N6':News s.heap L h6 ((R,W.listOf vs.toArray nn)::(((X,W.listOf (List.toArray (ms.map fun x:Mi=>Value.str (S (textOf x.toks)) x.tt)) n2)::(M,W.listOf (List.toArray (ms.map fun x:Mi=>Value.ref x.R)) n1)::ms.map Mi.led)++own)):=fun p hp=>N6 p (.tail _ hp)
    refine wpAny_assignInOrder_more<|wpAny_assign_Name<|st (s:=up s _ _) F6 N6' fun h7 _ F7 N7=>wpAny_assignInOrder_more<|wpAny_assign_Name<|st (s:=up s _ _) F7 N7 fun h8 tk8 F8 N8=>wpAny_assignInOrder_none ?_
    have hRat:StrsAt h8 R (rowsOf toks):=⟨vs,nn,(N8 _ (.head _)).1,hst5⟩
    have hMat:∀ x∈ms,StrsAt h8 x.R x.rows:=fun x hx=>⟨x.vs,x.n,(N8 _ (.tail _ (List.mem_append_left _ (.tail _ (.tail _ (List.mem_map_of_mem (f:=Mi.led) hx)))))).1,(hok x hx).isS⟩
    have hM8:=(N8 (M,W.listOf (List.toArray (ms.map fun x:Mi=>Value.ref x.R)) n1) (.tail _ (List.mem_append_left _ (.tail _ (.head _))))).1
    refine wpAny_execs_cons<|wpAny_If<|wpAny_isTrue_Compare1<|ld (s:=up s _ _) F8 rfl<|ld (s:=up s _ _) F8 mm<|SeqAt.notIn_listAt (s:=up s _ _) (items:=(ms.map fun x:Mi=>Value.ref x.R).toArray) (sameRows ms (rowsOf toks)) ⟨_,hM8,rfl,_,rfl⟩ (fun y hy=>?_)<|wpAny_truthy_bool ?_
    · have:y∈ms.map fun x:Mi=>Value.ref x.R:=by simpa using hy
      obtain ⟨x,hx,rfl⟩:=List.mem_map.mp this
      have e1:sameRows ms (rowsOf toks) (.ref x.R)=(x.rows==rowsOf toks):=by
        unfold sameRows
        by_cases hc:x.rows=rowsOf toks
        · rw [beq_iff_eq.mpr hc]; exact decide_eq_true ⟨x,hx,rfl,hc⟩
        · rw [beq_eq_false_iff_ne.mpr hc]
          refine decide_eq_false fun ⟨x',hx',e,hr⟩=>hc ?_
          injection e with e
          have a1:=hMat x hx
          rw [e] at a1
          rw [← hr]; exact strs_unique a1 (hMat x' hx')
      rw [e1]
      exact eqa_rows (s:=up s _ _) (hMat x hx) hRat (Room.in1 (rm'.le (d':=1) (by lia))).u
    have hany:((ms.map fun x:Mi=>Value.ref x.R).toArray.any (sameRows ms (rowsOf toks)))=decide (rowsOf toks∈ms.map Mi.rows):=by
      by_cases hc:rowsOf toks∈ms.map Mi.rows
      · rw [decide_eq_true hc]
        obtain ⟨x,hx,e⟩:=List.mem_map.mp hc
        simp only [List.any_toArray,List.any_eq_true,List.mem_map]
        exact ⟨_,⟨x,hx,rfl⟩,decide_eq_true ⟨x,hx,rfl,e⟩⟩
      · rw [decide_eq_false hc]
        simp only [List.any_toArray,List.any_eq_false,List.mem_map]
        rintro _ ⟨x,hx,rfl⟩ hd
        obtain ⟨x',hx',_,hr⟩:=of_decide_eq_true hd
        exact hc (List.mem_map.mpr ⟨x',hx',hr⟩)
    rw [hany]
    have lXM:∀ p∈(M,W.listOf (List.toArray (ms.map fun x:Mi=>Value.ref x.R)) n1)::ms.map Mi.led++own,p.1≠X:=fun p hp e=>by
      rcases List.mem_append.mp hp with q | q
      · rcases List.mem_cons.mp q with rfl | q
        · exact MX e
        · obtain ⟨x,hx,rfl⟩:=List.mem_map.mp q; exact (hne x hx).2 e
      · exact hw (X,_) (.head _) (by show X∈_; rw [← e]; exact ho p q)
    have lMs:∀ p∈ms.map Mi.led++own,p.1≠M:=fun p hp e=>by
      rcases List.mem_append.mp hp with q | q
      · obtain ⟨x,hx,rfl⟩:=List.mem_map.mp q; exact (hne x hx).1 e
      · exact hw (M,_) (.tail _ (.head _)) (by show M∈_; rw [← e]; exact ho p q)
    have RM:R≠M:=fun e=>Rne (M,_) (.tail _ (.head _)) e.symm
    have RX:R≠X:=fun e=>Rne (X,_) (.head _) e.symm
    by_cases hc:rowsOf toks∈ms.map Mi.rows
    · rw [decide_eq_true hc,if_neg (by simp)]
      refine wpAny_execs_nil<|wpAny_execs_nil<|Turn.next (news':=(X,_)::(M,_)::ms.map Mi.led) F8 (fun p hp=>N8 p (.tail _ hp)) hw ⟨ms,n1,n2,rfl,hok,hnd,by lia,fun _=>?_,hne,mm,mx,msc⟩
      cases ms with
      | nil=>cases hc
      | cons _ _=>simp
    · rw [decide_eq_false hc,if_pos (by rfl)]
      refine wpAny_execs_cons<|wpAny_Expr<|methodCall_KW<|ld (s:=up s _ _) F8 mm<|kl_method (s:=up s _ _) N8 (.tail _ (List.mem_append_left _ (.tail _ (.head _)))) slot_list_append type_list_append<|callWith_method1<|spliced_more<|ld (s:=up s _ _) F8 rfl<|spliced_none<|appendL (s:=up s _ _) F8 N8 (.tail RM (.tail MX.symm (.head lMs))) (by rw [List.length_map]; lia) fun h9 F9 N9=>?_
      refine wpAny_execs_cons<|wpAny_Expr<|methodCall_KW<|ld (s:=up s _ _) F9 mx<|kl_method (s:=up s _ _) N9 (.tail _ (.head _)) slot_list_append type_list_append<|callWith_method1<|spliced_more<|ld (s:=up s _ _) F9 rfl<|spliced_none<|appendL (s:=up s _ _) F9 N9 (.tail RX (.head fun p hp=>?_)) (by rw [List.length_map]; lia) fun h10 F10 N10=>?_
      · rcases List.mem_cons.mp hp with rfl | hp
        · exact MX
        · exact lXM p (.tail _ hp)
      refine wpAny_execs_nil<|wpAny_execs_nil<|Turn.next (news':=(X,W.listOf (List.toArray ((ms++[Mi.mk R vs nn toks tt]).map fun x:Mi=>Value.str (S (textOf x.toks)) x.tt)) (n2+1))::(M,W.listOf (List.toArray ((ms++[Mi.mk R vs nn toks tt]).map fun x:Mi=>Value.ref x.R)) (n1+1))::(ms++[Mi.mk R vs nn toks tt]).map Mi.led) F10 (news_sub N10 fun p hp=>?_) (fun p hp=>?_)
        ⟨ms++[Mi.mk R vs nn toks tt],n1+1,n2+1,rfl,fun x hx=>?_,?_,by simp; lia,fun _=>by simp,fun x hx=>?_,mm,mx,msc⟩
      · simp only [List.map_append,List.map_cons,List.map_nil,List.cons_append,List.append_assoc,List.nil_append] at hp
        rcases List.mem_cons.mp hp with rfl | hp
        · exact .tail _ (.head _)
        rcases List.mem_cons.mp hp with rfl | hp
        · exact .tail _ (.tail _ (.head _))
        rcases List.mem_append.mp hp with hp | hp
        · exact .tail _ (.tail _ (.tail _ (List.mem_append_left _ hp)))
        rcases List.mem_cons.mp hp with rfl | hp
        · exact .head _
        · exact .tail _ (.tail _ (.tail _ (List.mem_append_right _ hp)))
      · rcases List.mem_cons.mp hp with rfl | hp
        · exact hw (X,W.listOf (List.toArray (ms.map fun x:Mi=>Value.str (S (textOf x.toks)) x.tt)) n2) (.head _)
        rcases List.mem_cons.mp hp with rfl | hp
        · exact hw (M,W.listOf (List.toArray (ms.map fun x:Mi=>Value.ref x.R)) n1) (.tail _ (.head _))
        · obtain ⟨x,hx,rfl⟩:=List.mem_map.mp hp
          rcases List.mem_append.mp hx with q | q
          · exact hw _ (.tail _ (.tail _ (List.mem_map_of_mem (f:=Mi.led) q)))
          · rw [List.mem_singleton] at q; subst q
            intro z
            obtain ⟨o,hoz,_⟩:=hex _ z
            exact Rne _ (List.mem_append_right _ hoz) rfl
      · rcases List.mem_append.mp hx with q | q
        · exact hok x q
        · rw [List.mem_singleton] at q; subst q; exact ⟨hst5,hlen5,hsix5⟩
      · rw [List.map_append,List.nodup_append]
        refine ⟨hnd,by simp,fun a ha b hb e=>?_⟩
        simp only [List.map_cons,List.map_nil,List.mem_singleton] at hb
        subst hb; subst e; exact hc ha
      · rcases List.mem_append.mp hx with q | q
        · exact hne x q
        · rw [List.mem_singleton] at q; subst q; exact ⟨RM,RX⟩
  · intro h' tk m' news' F' N' hw hJ
    obtain ⟨ms,n1,n2,rfl,hok,hnd,hlen,hone,hne,mm,mx,msc⟩:=hJ
    refine wpAny_execs_cons<|wpAny_Return_some<|Tuple_<|spliced_more<|ld (s:=up s _ _) F' mm<|spliced_more<|ld (s:=up s _ _) F' mx<|spliced_none<|newTup (s:=up s _ _) F' N' fun tq h7 F7 N7 lt7=>?_
    exact h h7 _ tq M X ms n1 n2 (ext_of_fr (W:=[]) F7) (N7 _ (.head _)).1 (N7 _ (.tail _ (.tail _ (.head _)))).1 (N7 _ (.tail _ (.head _))).1 (fun x hx=>by
      have z:=N7 _ (.tail _ (.tail _ (.tail _ (List.mem_map_of_mem (f:=Mi.led) hx))))
      exact ⟨z.1,hok x hx,z.2.2⟩) hnd (hone (by simp)) (by simpa using hlen) (N7 _ (.head _)).2.2 (N7 _ (.tail _ (.tail _ (.head _)))).2.2 (N7 _ (.tail _ (.head _))).2.2
theorem al0:∀ d,P1 d:=epsAll ne0 P1 (by with_unfolding_all exact bd0)
end Zmails
end
section
variable {prog:Program} {w:World} {A:Around} {E:Value→Shared→Prop} {s:Shared}
theorem mails_call {Q:Value→Shared→Prop} {sc:Addr} {sv:List Value} {ns:List Int} (rm:Room A 5) (T:Wd w s.heap) (hS:s.heap.IsList sc sv.toArray) (hI:IntsAre sv ns) (hz:ns.length≤1000) (h:∀ h' tk' tp M X (ms:List Mi) n1 n2,Ext [] s.heap h'→h'.get? tp=some (tupOf [.ref M,.ref X])→h'.get? M=some (W.listOf (List.toArray (ms.map fun x:Mi=>Value.ref x.R)) n1)→h'.get? X=some (W.listOf (List.toArray (ms.map fun x:Mi=>Value.str (S (textOf x.toks)) x.tt)) n2) →
      (∀ x∈ms,h'.get? x.R=some (W.listOf x.vs.toArray x.n)∧x.Ok∧s.heap.get? x.R=none)→(ms.map Mi.rows).Nodup→1≤ms.length→ms.length≤6→s.heap.get? tp=none→s.heap.get? M=none→s.heap.get? X=none→Q (.ref tp) (up s h' tk')):wpAny (model prog w) A (call (.ref 231) [.ref sc]) Q E s:=by
  refine wpAny_call (enter (W:=[]) (binds:=[(("script":Str),.ref sc)]) rm.le' (fn231 T.X) T.lim (cd231 T.X) (fun p hp=>noMem hp) rfl
    (BindsTo.of_eq (by kernel_rfl)) (by kernel_rfl) (by kernel_rfl) ?_ (by kernel_rfl) (by kernel_rfl) (by kernel_rfl))
  intro L h₀ tk₀ hL F N A₁ R₁ E₁ dA hret hnone
  exact Zmails.al0 ((((prog,w),(A,s)),((A₁,sc),sv)),(((ns,L),h₀),((tk₀,R₁),E₁))) rm T hS hI hz (fun x0 x1 x2 x3 x4 x5 x6 x7 x8 x9 x10 x11 x12 x13 x14 x15 x16 x17 x18=>hret _ _ (h x0 x1 x2 x3 x4 x5 x6 x7 x8 x9 x10 x11 x12 x13 x14 x15 x16 x17 x18)) hL F N dA
end
end
section
section
variable {prog:Program} {w:World} {A:Around} {E:Value→Shared→Prop} {s:Shared} {env:Env} {g:Heap} {L:Addr} {m:Str→Option Value} {news:List (Addr×Obj)}
end
noncomputable section
namespace ZforA
abbrev D0:=(((((Program)×(World))×(Around))×((Shared)×(Env)))×(((Heap)×(Addr))×((Str→Option Value)×(List (Addr×Obj)))))×((((Result→Shared→Prop)×(Expr))×((List Stmt)×(Addr)))×(((List Addr)×(Nat))×((Nat→Value→Prop)×(Nat→Heap→Prop))))
abbrev P0 (prog:Program) (w:World) (A:Around) (s:Shared) (env:Env) (g:Heap) (L:Addr) (m:Str→Option Value) (news:List (Addr×Obj)) (R:Result→Shared→Prop) (target:Expr) (body:List Stmt) (I:Addr) (fp:List Addr) (n:Nat) (P:Nat→Value→Prop) (St:Nat→Heap→Prop):Prop:=∀ (Wk:Walks prog w A I fp [I] n P St) (hex:∀ i h,St i h→∀ b∈fp,∃ o,h.get? b=some o) (hst:St 0 s.heap) (hLf:L∉fp) (hI0:g.get? I=none) (F:Fr g L s.heap m) (N:News g L s.heap news) (hnI:∀ p∈news,p.1≠I) (J:Nat→(Str→Option Value)→List (Addr×Obj)→Prop) (h0:J 0 m news) (step:∀ (E':Value→Shared→Prop) i v m₁ news₁ h₁ tk₁ own,i<n→P i v→J i m₁ news₁→(∀ p∈news₁,p.1≠I)→(∀ p∈own,p.1∈fp)→(∀ b∈fp,g.get? b=none→∃ o,(b,o)∈own)→(∃ o,(I,o)∈own)→Fr g L h₁ m₁→News g L h₁ (news₁++own) →
      wpAny (model prog w) A (assign target env v) (fun _ s₂=>wpAny (model prog w) A (execs body env) (Turn s g L [I] own (J (i+1)) R) E' s₂) E' (up s h₁ tk₁)) (hend:∀ h' tk m' news',Fr g L h' m'→News g L h' news'→(∀ p∈news',p.1≠I)→J n m' news'→R (.ok .next) (up s h' tk)) (ht:∀ v,letOwnedTupleGo target (.ref I) v=pure ()),codeAny (model prog w) A (.forLoop target (.ref I) body [] env) R s
abbrev P1 (d:D0):=P0 d.1.1.1.1.1 d.1.1.1.1.2 d.1.1.1.2 d.1.1.2.1 d.1.1.2.2 d.1.2.1.1 d.1.2.1.2 d.1.2.2.1 d.1.2.2.2 d.2.1.1.1 d.2.1.1.2 d.2.1.2.1 d.2.1.2.2 d.2.2.1.1 d.2.2.1.2 d.2.2.2.1 d.2.2.2.2
theorem ne0:Nonempty D0:=⟨(((((Challenge.pw_ny0293_01,Classical.choice neW),callerA),(Classical.choice neS,default)),default),default)⟩
@[irreducible] def d0:D0:=@Classical.epsilon D0 ne0 fun d=>¬ P1 d
def prog:=d0.1.1.1.1.1
def w:=d0.1.1.1.1.2
def A:=d0.1.1.1.2
def s:=d0.1.1.2.1
def env:=d0.1.1.2.2
def g:=d0.1.2.1.1
def L:=d0.1.2.1.2
def m:=d0.1.2.2.1
def news:=d0.1.2.2.2
def R:=d0.2.1.1.1
def target:=d0.2.1.1.2
def body:=d0.2.1.2.1
def I:=d0.2.1.2.2
def fp:=d0.2.2.1.1
def n:=d0.2.2.1.2
def P:=d0.2.2.2.1
def St:=d0.2.2.2.2
theorem bd0 : P0 prog w A s env g L m news R target body I fp n P St := by
  intro Wk hex hst hLf hI0 F N hnI J h0 step hend ht
  have hIf:I∈fp:=Wk.sub I (List.mem_singleton.mpr rfl)
  have hLI:L≠I:=fun e=>hLf (e ▸ hIf)
  refine codeAny_forLoop_any (fun k s'=>Ex5 fun h' tk m' news' i=>And8 (s'=up s h' tk) (St i h') (Fr g L h' m') (News g L h' news') ((∀ p∈news',p.1≠I)) (J i m' news') (i≤n) (k=n+1 - i)) ?_ (n+1)
    ⟨s.heap,s.toks,m,news,0,rfl,hst,F,N,hnI,h0,Nat.zero_le _,rfl⟩
  rintro k s' ⟨h',tk,m',news',i,rfl,hst',F',N',hw',hJ,hi,rfl⟩
  have off:∀ {h₂:Heap},(∀ b o,b∉[I]→h'.get? b=some o→h₂.get? b=some o)→Fr g L h₂ m'∧News g L h₂ news':=fun {h₂} hk₂ =>
    ⟨⟨F'.ns.at' fun o e=>hk₂ L o (by simpa using hLI) e,fun b o e=>hk₂ b o (fun q=>by rw [List.mem_singleton.mp q,hI0] at e; cases e) (F'.keep b o e),F'.above⟩,fun p hp=>⟨hk₂ _ _ (by simpa using hw' p hp) (N' p hp).1,(N' p hp).2⟩⟩
  by_cases hlt:i<n
  · refine Wk.item i _ _ _ hlt hst' fun v h₂ tk₂ hPv hst₂ hk₂=>?_
    obtain ⟨F₂,N₂⟩:=off hk₂
    obtain ⟨own,ow1,ow2⟩:=own_of (h:=h₂) (fp.filter fun b=>(g.get? b).isNone) fun b hb=>hex _ _ hst₂ b (List.mem_filter.mp hb).1
    have Nw:News g L h₂ (news'++own):=fun p hp=>by
      rcases List.mem_append.mp hp with q | q
      · exact N₂ p q
      · have z:=ow1 p q
        have z':=List.mem_filter.mp z.1
        exact ⟨z.2,fun e=>hLf (e ▸ z'.1),by simpa using z'.2⟩
    have cov:∀ b∈fp,g.get? b=none→∃ o,(b,o)∈own:=fun b hb hg=>ow2 b (List.mem_filter.mpr ⟨hb,by simp [hg]⟩)
    refine wpAny_of_eq (ht v) ?_
    refine wpAny_mono (step _ i v m' news' h₂ tk₂ own hlt hPv hJ hw' (fun p hp=>(List.mem_filter.mp (ow1 p hp).1).1) cov (cov I hIf hI0) F₂ Nw) (fun _ s₂ z=>wpAny_mono z (fun f s₃ t=>?_) fun _ _ e=>e) fun _ _ e=>e
    have fin:∀ {s₃:Shared},(Ex4 fun h' tk m' news'=>And5 (s₃=up s h' tk) (Fr g L h' m') (News g L h' (news'++own)) ((∀ p∈news',p.1∉[I])) (J (i+1) m' news')) →
        ∃ m,m<n+1 - i∧(Ex5 fun h' tk m' news' i=>And8 (s₃=up s h' tk) (St i h') (Fr g L h' m') (News g L h' news') ((∀ p∈news',p.1≠I)) (J i m' news') (i≤n) (m=n+1 - i)):=by
      rintro s₃ ⟨h₄,tk₄,m₄,news₄,rfl,F₄,N₄,hw₄,hJ₄⟩
      refine ⟨n+1 - (i+1),by lia,h₄,tk₄,m₄,news₄,i+1,rfl,Wk.frame _ _ _ hst₂ fun b hb o e=>?_,F₄,news_left N₄,fun p hp q=>hw₄ p hp (by rw [q]; exact .head _),hJ₄,hlt,rfl⟩
      cases hg:g.get? b with
      | some o'=>have:=F₂.keep _ _ hg; rw [e] at this; cases this; exact F₄.keep _ _ hg
      | none =>
        obtain ⟨o',z⟩:=ow2 b (List.mem_filter.mpr ⟨hb,by simp [hg]⟩)
        have z1:=(ow1 _ z).2
        rw [e] at z1
        rw [show some o=some o' from z1]
        exact (N₄ (b,o') (List.mem_append_right _ z)).1
    cases f with
    | ret v=>exact t
    | brk=>exact t
    | next=>exact fin t
    | cont=>exact fin t
  · obtain rfl:i=n:=Nat.le_antisymm hi (Nat.not_lt.mp hlt)
    refine Wk.done _ _ _ hst' fun h₂ tk₂ hk₂=>wpAny_execs_nil ?_
    obtain ⟨F₂,N₂⟩:=off hk₂
    exact hend h₂ tk₂ m' news' F₂ N₂ hw' hJ
theorem al0:∀ d,P1 d:=epsAll ne0 P1 (by with_unfolding_all exact bd0)
end ZforA
end
section
variable {prog:Program} {w:World} {A:Around} {E:Value→Shared→Prop} {s:Shared} {env:Env} {g:Heap} {L:Addr} {m:Str→Option Value} {news:List (Addr×Obj)}
theorem forA {R:Result→Shared→Prop} {target:Expr} {body:List Stmt} {I:Addr} {fp:List Addr} {n:Nat} {P:Nat→Value→Prop} {St:Nat→Heap→Prop} (Wk:Walks prog w A I fp [I] n P St) (hex:∀ i h,St i h→∀ b∈fp,∃ o,h.get? b=some o) (hst:St 0 s.heap) (hLf:L∉fp) (hI0:g.get? I=none) (F:Fr g L s.heap m) (N:News g L s.heap news) (hnI:∀ p∈news,p.1≠I) (J:Nat→(Str→Option Value)→List (Addr×Obj)→Prop) (h0:J 0 m news) (step:∀ (E':Value→Shared→Prop) i v m₁ news₁ h₁ tk₁ own,i<n→P i v→J i m₁ news₁→(∀ p∈news₁,p.1≠I)→(∀ p∈own,p.1∈fp)→(∀ b∈fp,g.get? b=none→∃ o,(b,o)∈own)→(∃ o,(I,o)∈own)→Fr g L h₁ m₁→News g L h₁ (news₁++own) →
      wpAny (model prog w) A (assign target env v) (fun _ s₂=>wpAny (model prog w) A (execs body env) (Turn s g L [I] own (J (i+1)) R) E' s₂) E' (up s h₁ tk₁)) (hend:∀ h' tk m' news',Fr g L h' m'→News g L h' news'→(∀ p∈news',p.1≠I)→J n m' news'→R (.ok .next) (up s h' tk)) (ht:∀ v,letOwnedTupleGo target (.ref I) v=pure ():=by intro _; rfl):codeAny (model prog w) A (.forLoop target (.ref I) body [] env) R s:=ZforA.al0 (((((prog,w),A),(s,env)),((g,L),(m,news))),(((R,target),(body,I)),((fp,n),(P,St)))) Wk hex hst hLf hI0 F N hnI J h0 step hend ht
theorem forAR {R:Result→Shared→Prop} {target:Expr} {body:List Stmt} {r:Addr} {a b:Int} {t u v:Tok} {n:Nat} (hh:A.handled=none) (F:Fr g L s.heap m) (N:News g L s.heap news) (hr:IsRange s.heap r a b 1 t u v)
    (hsmall:Builtin.Range.small a b 1=true) (hn:Builtin.Range.rangeSize a b 1=(n:Int))
    (J:Nat→(Str→Option Value)→List (Addr×Obj)→Prop) (h0:J 0 m news)
    (step:∀ (E':Value→Shared→Prop) i t m₁ news₁ h₁ tk₁ own,i<n→J i m₁ news₁→(∀ p∈news₁,p.1≠s.heap.objs.size)→(∀ p∈own,p.1=s.heap.objs.size)→(∃ o,(s.heap.objs.size,o)∈own)→Fr g L h₁ m₁→News g L h₁ (news₁++own) →
      wpAny (model prog w) A (assign target env (.int (a+(i:Int)) t)) (fun _ s₂=>wpAny (model prog w) A (execs body env) (Turn s g L [s.heap.objs.size] own (J (i+1)) R) E' s₂) E' (up s h₁ tk₁))
    (hend:∀ h' tk m' news',Fr g L h' m'→News g L h' news'→(∀ p∈news',p.1≠s.heap.objs.size)→J n m' news'→R (.ok .next) (up s h' tk))
    (ht:∀ v,letOwnedTupleGo target (.ref s.heap.objs.size) v=pure ():=by intro _; rfl) :
    wpAny (model prog w) A (pyIter (.ref r)) (fun it s₂=>codeAny (model prog w) A (.forLoop target it body [] env) R s₂) E s:=by
  refine wpAny_pyIter_range hr hsmall ?_
  rw [hn]
  have hLs:L≠s.heap.objs.size:=Nat.ne_of_lt F.ns.lt
  have F':=F.push { cls:=.type "range_iterator",data:=.fields #[rawInt a,rawInt n,rawInt 1] }
  have N':News g L (s.heap.push { cls:=.type "range_iterator",data:=.fields #[rawInt a,rawInt n,rawInt 1] }) news:=(grow F N fun b o e=>Heap.get?_push_of_some _ e).2
  refine forA (s:=up s (s.heap.push { cls:=.type "range_iterator",data:=.fields #[rawInt a,rawInt n,rawInt 1] }) s.toks) (LCg.range_walks hh a n) (fun i h hs b hb=>by rw [List.mem_singleton] at hb; subst hb; exact ⟨_,hs⟩)
    (by show IsRangeIter _ _ _ _ _; simpa using Heap.get?_push_size _ rfl) (by simp [hLs]) (size_none F) F' N' (fun p hp=>Nat.ne_of_lt (Heap.lt_size (N p hp).1)) J h0 (fun E' i v m₁ news₁ h₁ tk₁ own hi hP hJ hw ho hc hI F₁ N₁=>?_) hend ht
  obtain ⟨t,rfl⟩:=hP
  exact step E' i t m₁ news₁ h₁ tk₁ own hi hJ hw (fun p hp=>List.mem_singleton.mp (ho p hp)) hI F₁ N₁
theorem forAT {R:Result→Shared→Prop} {target:Expr} {body:List Stmt} {ax:Addr} {vs:List Value} (hh:A.handled=none) (F:Fr g L s.heap m) (N:News g L s.heap news) (hl:s.heap.IsTuple ax vs.toArray) (haL:ax≠L)
    (J:Nat→(Str→Option Value)→List (Addr×Obj)→Prop) (h0:J 0 m news)
    (step:∀ (E':Value→Shared→Prop) i v m₁ news₁ h₁ tk₁ own,vs[i]?=some v→J i m₁ news₁→(∀ p∈news₁,p.1≠s.heap.objs.size)→(∀ p∈own,p.1∈[s.heap.objs.size,ax])→(∃ o,(s.heap.objs.size,o)∈own)→(g.get? ax=none→∃ o,(ax,o)∈own)→Fr g L h₁ m₁→News g L h₁ (news₁++own) →
      wpAny (model prog w) A (assign target env v) (fun _ s₂=>wpAny (model prog w) A (execs body env) (Turn s g L [s.heap.objs.size] own (J (i+1)) R) E' s₂) E' (up s h₁ tk₁))
    (hend:∀ h' tk m' news',Fr g L h' m'→News g L h' news'→(∀ p∈news',p.1≠s.heap.objs.size)→J vs.length m' news'→R (.ok .next) (up s h' tk))
    (ht:∀ v,letOwnedTupleGo target (.ref s.heap.objs.size) v=pure ():=by intro _; rfl) :
    wpAny (model prog w) A (pyIter (.ref ax)) (fun it s₂=>codeAny (model prog w) A (.forLoop target it body [] env) R s₂) E s:=by
  refine wpAny_pyIter_tuple hl ?_
  have hne:ax≠s.heap.objs.size:=let ⟨_,ho,_⟩:=hl; Nat.ne_of_lt (Heap.lt_size ho)
  have hLs:L≠s.heap.objs.size:=Nat.ne_of_lt F.ns.lt
  have F':=F.push { cls:=.type "tuple_iterator",data:=.fields #[.ref ax,.int 0 0] }
  have N':News g L (s.heap.push { cls:=.type "tuple_iterator",data:=.fields #[.ref ax,.int 0 0] }) news:=(grow F N fun b o e=>Heap.get?_push_of_some _ e).2
  have e1:vs.toArray.size=vs.length:=by simp
  refine forA (s:=up s (s.heap.push { cls:=.type "tuple_iterator",data:=.fields #[.ref ax,.int 0 0] }) s.toks) (n:=vs.toArray.size) (Walks.tuple hh s.heap.objs.size ax hne vs.toArray) (fun i h hs b hb=>by
      rcases List.mem_cons.mp hb with rfl | hb
      · exact let ⟨⟨o,z,_⟩,_⟩:=hs; ⟨o,z⟩
      · rw [List.mem_singleton] at hb; subst hb; exact let ⟨_,⟨o,z,_⟩⟩:=hs; ⟨o,z⟩)
    ⟨⟨_,Heap.get?_push_size _ rfl,rfl,rfl⟩,let ⟨o,ho,r⟩:=hl; ⟨o,Heap.get?_push_of_some _ ho,r⟩⟩ (by simp [hLs,haL.symm]) (size_none F) F' N' (fun p hp=>Nat.ne_of_lt (Heap.lt_size (N p hp).1)) J h0
    (fun E' i v m₁ news₁ h₁ tk₁ own hi hP hJ hw ho hc hI F₁ N₁=>step E' i v m₁ news₁ h₁ tk₁ own (by simpa using hP) hJ hw ho hI (hc ax (by simp)) F₁ N₁) (fun h' tk m' news' F' N' hw hj=>hend h' tk m' news' F' N' hw (by rw [← e1]; exact hj)) ht
end
end
section
open PyProof.Rows.TI (Frs SameUp)
noncomputable def predsOf (qs:List (List Nat)) (k:Nat):List Nat:=(List.range qs.length).filter fun j=>j != k && ((qs.getD k []).take (qs.getD j []).length==qs.getD j [])
noncomputable def toI (l:List Nat):List Int:=l.map fun (j:Nat)=>(j:Int)
noncomputable def roundsSt (qs:List (List Nat)):List AN:=(List.range qs.length).foldl (fun st (k:Nat)=>addP st (k:Int) (toI (predsOf qs k))) []
noncomputable def storedI (rd:List (Int×Int)) (k x:Int):List (Int×Int):=if rd.any (fun e=>decide (e.1=k)) then rd.map (fun e=>if e.1=k then (e.1,x) else e) else rd++[(k,x)]
noncomputable def roundsGo:Nat→List AN→List Int→List (Int×Int)→Int→Option (List (Int×Int))
  | 0,_,_,_,_=>none
  | f+1,st,ready,rd,turn=>if ready=[] then some rd else
      if (ready.all (fun k=>st.any fun e=>e.1==k) && decide (ready.length≤50) && decide (rd.length≤50))=true then
      (doneP (outP st ready,[]) ready).bind fun z=>roundsGo f z.1 z.2 (ready.foldl (fun rd k=>storedI rd k turn) rd) (turn+1) else none
inductive Kvs:List (Int×Value)→List (Int×Int)→Prop
  | nil:Kvs [] []
  | cons {kvs:List (Int×Value)} {rd:List (Int×Int)} (k x:Int) (t:Tok):Kvs kvs rd→Kvs ((k,.int x t)::kvs) ((k,x)::rd)
theorem Kvs.length {kvs:List (Int×Value)} {rd:List (Int×Int)} (h:Kvs kvs rd):kvs.length=rd.length:=by induction h <;> simp_all
theorem Kvs.snoc {kvs:List (Int×Value)} {rd:List (Int×Int)} (h:Kvs kvs rd) (k x:Int) (t:Tok):Kvs (kvs++[(k,.int x t)]) (rd++[(k,x)]):=by
  induction h with
  | nil=>exact .cons k x t .nil
  | cons a b c _ ih=>exact .cons a b c ih
theorem Kvs.any {kvs:List (Int×Value)} {rd:List (Int×Int)} (h:Kvs kvs rd) (k:Int):kvs.any (fun e=>decide (e.1=k))=rd.any (fun e=>decide (e.1=k)):=by
  induction h with
  | nil=>rfl
  | cons a b c _ ih=>simp only [List.any_cons,ih]
theorem Kvs.stored {kvs : List (Int × Value)} {rd : List (Int × Int)} (h : Kvs kvs rd) (k x : Int) (t : Tok) : Kvs (stored kvs k (.int x t)) (storedI rd k x) := by
  have e1:PySem.stored kvs k (Value.int x t)=if kvs.any (fun e=>decide (e.1=k)) then kvs.map (fun e=>if e.1=k then (e.1,Value.int x t) else e) else kvs++[(k,Value.int x t)]:=by
    unfold PySem.stored
    rfl
  rw [e1,h.any k]
  unfold storedI
  split
  · induction h with
    | nil=>exact .nil
    | cons a b c h ih =>
      rename_i hc
      simp only [List.map_cons]
      have key:∀ {kvs:List (Int×Value)} {rd:List (Int×Int)},Kvs kvs rd→Kvs (kvs.map (fun e=>if e.1=k then (e.1,Value.int x t) else e)) (rd.map (fun e=>if e.1=k then (e.1,x) else e)):=by
        intro kvs rd h
        induction h with
        | nil=>exact .nil
        | cons a b c h ih =>
          simp only [List.map_cons]
          by_cases hk:a=k
          · rw [if_pos hk,if_pos hk]; exact .cons _ _ _ ih
          · rw [if_neg hk,if_neg hk]; exact .cons _ _ _ ih
      exact key (.cons a b c h)
  · exact h.snoc k x t
noncomputable def rdAt (rd:List (Int×Int)) (k:Int):Option Int:=(rd.find? fun e=>decide (e.1=k)).map (·.2)
theorem Kvs.at {kvs:List (Int×Value)} {rd:List (Int×Int)} (h:Kvs kvs rd) {k x:Int} (hx:rdAt rd k=some x):∃ t,valueAt kvs k=some (.int x t):=by
  induction h with
  | nil=>cases hx
  | cons a b c h ih =>
    unfold rdAt at hx
    unfold valueAt
    rw [List.find?_cons] at hx ⊢
    by_cases hk:a=k
    · simp only [hk,decide_true] at hx ⊢
      simp at hx
      exact ⟨c,by simp [hx]⟩
    · simp only [hk,decide_false] at hx ⊢
      exact ih hx
theorem Bd.outP {b c:Nat}:∀ (ks:List Int) {st:List AN},Bd b c st→Bd b c (outP st ks)
  | [],_,h=>h
  | k::ks,st,h=>Bd.outP ks (h.np k (f:=fun _=>-1))
theorem Bd.dec {b c:Nat}:∀ (xs:List Int) {z:List AN×List Int},Bd b c z.1→Bd b c (xs.foldl decStep z).1
  | [],_,h=>h
  | x::xs,z,h=>by
    rw [List.foldl_cons]
    exact Bd.dec xs (h.np x (f:=fun y=>y - 1))
theorem Bd.done {b c : Nat} : ∀ (ks : List Int) {z z' : List AN × List Int}, Bd b c z.1 → doneP z ks = some z' → Bd b c z'.1
  | [],z,z',h,e=>by unfold doneP at e; cases e; exact h
  | k::ks,z,z',h,e=>by
    unfold doneP at e
    obtain ⟨y,h1,h2⟩:=Option.bind_eq_some_iff.mp e
    unfold done1 at h1
    split at h1
    · split at h1
      · cases h1
        exact Bd.done ks (Bd.dec _ (h.np k (f:=fun _=>-2))) h2
      · cases h1
    · cases h1
theorem storedI_length (rd:List (Int×Int)) (k x:Int):(storedI rd k x).length≤rd.length+1:=by unfold storedI; split <;> simp
end
section
open PyProof.Rows.TI (Frs SameUp)
theorem backG {g h h' : Heap} {L : Addr} {oL : Obj} {m : Str → Option Value} {frs fs' rest W' : List (Addr × Obj)} {wa : List Addr} (F : Fr g L h m) (N : News g L h (frs ++ rest)) (hLo : h.get? L = some oL) (ex : Ext (wa ++ (L :: frs.map (·.1))) h h') (SU : SameUp ((L, oL) :: frs) fs') (hfs : ∀ p ∈ fs', h'.get? p.1 = some p.2)
    (hwa:∀ a∈wa,g.get? a=none∧a≠L) (hW':∀ p∈W',h'.get? p.1=some p.2∧(p.1∈wa∨h.get? p.1=none)) (hsep:∀ p∈rest,p.1∉frs.map (·.1)∧p.1∉wa):∃ frs',Fr g L h' m∧News g L h' (frs'++(W'++rest))∧SameUp frs frs':=by
  cases fs' with
  | nil=>exact SU.elim
  | cons q frs' =>
    obtain ⟨h1,⟨sl,h2⟩,SU'⟩:=SU
    have hq:=hfs q (.head _)
    rw [h1,h2] at hq
    have gn:∀ b∈wa++(L::frs.map (·.1)),g.get? b=none:=fun b hb=>by
      rcases List.mem_append.mp hb with hb | hb
      · exact (hwa b hb).1
      rcases List.mem_cons.mp hb with rfl | hb
      · exact Heap.get?_none_of_le F.above
      · obtain ⟨p,hp,rfl⟩:=List.mem_map.mp hb
        exact (N p (List.mem_append_left _ hp)).2.2
    refine ⟨frs',⟨?_,fun b o e=>ex.keep b o (fun q=>by rw [gn b q] at e; cases e) (F.keep b o e),F.above⟩,fun p hp=>?_,SU'⟩
    · obtain ⟨o,es,ep,ho,hd,r⟩:=F.ns
      rw [hLo] at ho; cases ho
      exact ⟨_,es,ep,hq,hd,r⟩
    · rcases List.mem_append.mp hp with z | z
      · have:p.1∈frs.map (·.1):=by rw [← sameUp_addr SU']; exact List.mem_map_of_mem z
        obtain ⟨p',hp',e⟩:=List.mem_map.mp this
        have n':=N p' (List.mem_append_left _ hp')
        exact ⟨hfs p (.tail _ z),by rw [← e]; exact n'.2.1,by rw [← e]; exact n'.2.2⟩
      · rcases List.mem_append.mp z with z | z
        · refine ⟨(hW' p z).1,?_⟩
          rcases (hW' p z).2 with q | q
          · exact ⟨(hwa _ q).2,(hwa _ q).1⟩
          · refine ⟨fun e=>(by rw [e,hLo] at q; cases q),?_⟩
            cases y:g.get? p.1 with
            | none=>rfl
            | some o=>have:=F.keep _ _ y; rw [q] at this; cases this
        · have n':=N p (List.mem_append_right _ z)
          refine ⟨ex.keep _ _ (fun q=>?_) n'.1,n'.2⟩
          rcases List.mem_append.mp q with q | q
          · exact (hsep p z).2 q
          rcases List.mem_cons.mp q with q | q
          · exact n'.2.1 q
          · exact (hsep p z).1 q
structure Srt (prog:Program) (w:World) (O dx D Ra:Addr) (nd:List Nd) (t1 t2 t3 t4:Tok) (st:List AN) (ready:List Int) (p f:Int) (as:List Addr) (b:List (Addr×Obj)):Prop where
  it:∃ od rv rn t5 t6,b=(O,instObj 196 dx)::(D,od)::(dx,dictOf (sd w t1 t2 t3 t4 (.ref D) (.ref Ra) (.int p t5) (.int f t6)) 4)::(Ra,W.listOf (List.toArray rv) rn)::led nd∧od.IsDictOf (intKind prog w) (kvsOf nd)∧IntsAre rv ready
  lo:(D==sysModules)=false
  ok:Nok nd
  ab:absOf nd=st
  bd:Bd 500 1000 st
  ad:as=O::D::dx::Ra::(led nd).map (·.1)
  nod:as.Nodup
section
variable {prog:Program} {w:World} {A:Around} {E:Value→Shared→Prop} {s:Shared} {O dx D Ra L:Addr} {nd:List Nd} {t1 t2 t3 t4:Tok} {st:List AN} {ready:List Int} {p f:Int} {as:List Addr} {b rest:List (Addr×Obj)} {g:Heap} {m:Str→Option Value}
theorem Srt.addr (S:Srt prog w O dx D Ra nd t1 t2 t3 t4 st ready p f as b):b.map (·.1)=as:=by
  obtain ⟨od,rv,rn,t5,t6,rfl,_⟩:=S.it
  exact S.ad.symm
theorem srtMeth {pl:Sem Bool} {fn:Addr} {name:Str} {Q:Value×List Value→Shared→Prop} (T:Wd w g) (F:Fr g L s.heap m) (N:News g L s.heap (b++rest)) (S:Srt prog w O dx D Ra nd t1 t2 t3 t4 st ready p f as b) (hl:∀ a b c d,getL name (sd w t1 t2 t3 t4 a b c d)=some none)
    (h:Q (.ref fn,[.ref O]) s) (hf:findIn (K w) (.ref 196) name=some (some (.ref fn)):=by kernel_rfl) (hi:isFn (K w) (.ref fn)=true:=by kernel_rfl) (hg:plainGet (K w) 196 name=true:=by kernel_rfl):wpAny (model prog w) A (getMethod (.ref O) name pl) Q E s:=by
  obtain ⟨od,rv,rn,t5,t6,rfl,_⟩:=S.it
  exact methS T F (N _ (.head _)).1 (N _ (.tail _ (.tail _ (.head _)))).1 (hl _ _ _ _) h hf hi hg
theorem srtBound {Q:Value→Shared→Prop} {expr:Bool} (T:Wd w g) (F:Fr g L s.heap m) (N:News g L s.heap (b++rest)) (S:Srt prog w O dx D Ra nd t1 t2 t3 t4 st ready p f as b)
    (h:∀ q h' tk,Fr g L h' m→News g L h' ((q,methodObj (.ref 179) (.ref O))::(b++rest))→(∀ p∈b++rest,p.1<q)→s.heap.get? q=none→Q (.ref q) (up s h' tk)) :
    wpAny (model prog w) A (getAttr (.ref O) "done" expr) Q E s:=by
  obtain ⟨od,rv,rn,t5,t6,rfl,_⟩:=S.it
  exact boundS (f:=179) T F N (N _ (.head _)).1 (N _ (.tail _ (.tail _ (.head _)))).1 sd_done fun q h' tk F' N' _ lt hn=>h q h' tk F' N' lt hn
theorem srtActive {Q:Value→Shared→Prop} (rm:Room A 1) (T:Wd w g) (F:Fr g L s.heap m) (N:News g L s.heap (b++rest)) (S:Srt prog w O dx D Ra nd t1 t2 t3 t4 st ready p f as b) (hz:ready.length≤1000)
    (h:∀ h' tk',Fr g L h' m→News g L h' (b++rest)→Q (.bool (decide (f<p) || !ready.isEmpty)) (up s h' tk')):wpAny (model prog w) A (call (.ref 165) [.ref O]) Q E s:=by
  obtain ⟨od,rv,rn,t5,t6,rfl,hod,hi⟩:=S.it
  have hl:=hi.length
  refine active_call rm (T.keeps F.keep) (N _ (.head _)).1 (N _ (.tail _ (.tail _ (.head _)))).1 (N _ (.tail _ (.tail _ (.tail _ (.head _))))).1 (by lia) fun h' tk' ex=>?_
  obtain ⟨F',N'⟩:=back (W:=[]) (W':=[]) F N ex (fun p hp=>nomatch hp) (fun p hp=>nomatch hp) (fun p _ q=>nomatch q)
  have:=h h' tk' F' N'
  rwa [show rv.isEmpty=ready.isEmpty by cases rv <;> cases ready <;> simp_all]
end
noncomputable section
namespace ZsrtReady
abbrev D0:=(((((Program)×(World))×(Around))×(((Shared)×(Value→Shared→Prop))×(Addr)))×((((Addr)×(Addr))×(Addr))×(((Addr)×(List Nd))×(Tok))))×(((((Tok)×(Tok))×(Tok))×(((List AN)×(List Int))×(Int)))×((((Int)×(List Addr))×(List (Addr×Obj)))×(((Heap)×(Str→Option Value))×(Value→Shared→Prop))))
abbrev P0 (prog:Program) (w:World) (A:Around) (s:Shared) (E:Value→Shared→Prop) (O dx D Ra L:Addr) (nd:List Nd) (t1 t2 t3 t4:Tok) (st:List AN) (ready:List Int) (p f:Int) (as:List Addr) (rest:List (Addr×Obj)) (g:Heap) (m:Str→Option Value) (Q:Value→Shared→Prop):Prop:=∀ (b:List (Addr×Obj)) (rm:Room A 1) (T:Wd w g) (F:Fr g L s.heap m) (N:News g L s.heap (b++rest)) (S:Srt prog w O dx D Ra nd t1 t2 t3 t4 st ready p f as b) (hz:ready.length≤1000) (hks:∀ k∈ready,(st.any fun e=>e.1==k)=true) (sep:∀ p∈rest,p.1∉as) (h:∀ h' tk' tp rv nd' b',Fr g L h' m→News g L h' ((tp,tupOf rv)::(b'++rest))→IntsAre rv ready→Srt prog w O dx D Ra nd' t1 t2 t3 t4 (outP st ready) [] (p+ready.length) f as b'→s.heap.get? tp=none→(∀ p∈b'++rest,p.1≠tp)→Q (.ref tp) (up s h' tk')),wpAny (model prog w) A (call (.ref 158) [.ref O]) Q E s
abbrev P1 (d:D0):=P0 d.1.1.1.1.1 d.1.1.1.1.2 d.1.1.1.2 d.1.1.2.1.1 d.1.1.2.1.2 d.1.1.2.2 d.1.2.1.1.1 d.1.2.1.1.2 d.1.2.1.2 d.1.2.2.1.1 d.1.2.2.1.2 d.1.2.2.2 d.2.1.1.1.1 d.2.1.1.1.2 d.2.1.1.2 d.2.1.2.1.1 d.2.1.2.1.2 d.2.1.2.2 d.2.2.1.1.1 d.2.2.1.1.2 d.2.2.1.2 d.2.2.2.1.1 d.2.2.2.1.2 d.2.2.2.2
theorem ne0:Nonempty D0:=⟨(((((Challenge.pw_ny0293_01,Classical.choice neW),callerA),((Classical.choice neS,default),default)),default),default)⟩
@[irreducible] def d0:D0:=@Classical.epsilon D0 ne0 fun d=>¬ P1 d
def prog:=d0.1.1.1.1.1
def w:=d0.1.1.1.1.2
def A:=d0.1.1.1.2
def s:=d0.1.1.2.1.1
def E:=d0.1.1.2.1.2
def O:=d0.1.1.2.2
def dx:=d0.1.2.1.1.1
def D:=d0.1.2.1.1.2
def Ra:=d0.1.2.1.2
def L:=d0.1.2.2.1.1
def nd:=d0.1.2.2.1.2
def t1:=d0.1.2.2.2
def t2:=d0.2.1.1.1.1
def t3:=d0.2.1.1.1.2
def t4:=d0.2.1.1.2
def st:=d0.2.1.2.1.1
def ready:=d0.2.1.2.1.2
def p:=d0.2.1.2.2
def f:=d0.2.2.1.1.1
def as:=d0.2.2.1.1.2
def rest:=d0.2.2.1.2
def g:=d0.2.2.2.1.1
def m:=d0.2.2.2.1.2
def Q:=d0.2.2.2.2
theorem bd0 : P0 prog w A s E O dx D Ra L nd t1 t2 t3 t4 st ready p f as rest g m Q := by
  intro b rm T F N S hz hks sep h
  obtain ⟨od,rv,rn,t5,t6,rfl,hod,hi⟩:=S.it
  have hl:=hi.length
  have hab:=S.ab
  have had:=S.ad
  have nod:=S.nod
  rw [had] at nod sep
  simp only [List.nodup_cons,List.mem_cons,not_or] at nod
  have gW:∀ a∈dx::Ra::(led nd).map (·.1),g.get? a=none:=fun a ha=>by
    simp only [List.mem_cons,List.mem_map] at ha
    rcases ha with rfl | rfl | ⟨q,hq,rfl⟩
    · exact (N (_,_) (.tail _ (.tail _ (.head _)))).2.2
    · exact (N (_,_) (.tail _ (.tail _ (.tail _ (.head _))))).2.2
    · exact (N q (.tail _ (.tail _ (.tail _ (.tail _ (List.mem_append_left _ hq)))))).2.2
  have nO:O∉dx::Ra::(led nd).map (·.1):=by simp only [List.mem_cons,not_or]; exact ⟨nod.1.2.1,nod.1.2.2.1,nod.1.2.2.2⟩
  have nD:D∉dx::Ra::(led nd).map (·.1):=by simp only [List.mem_cons,not_or]; exact nod.2.1
  have e1:as.length=as.length:=rfl
  refine ready_call (nds:=nd) (ks:=ready) rm (T.hide F gW) (hideAll_get _ (N _ (.head _)).1 nO) (Heap.dictOf_iff.mpr ⟨od,hideAll_get _ (N (D,od) (.tail _ (.head _))).1 nD,hod⟩) S.lo (N _ (.tail _ (.tail _ (.head _)))).1 (N _ (.tail _ (.tail _ (.tail _ (.head _))))).1 (fun q hq=>(N q (.tail _ (.tail _ (.tail _ (.tail _ (List.mem_append_left _ hq)))))).1) S.ok nod.2.2.1.1 nod.2.2.1.2 nod.2.2.2.1 hi (by lia) (fun k hk=>?_) fun h' tk' tp nd' rn' t5' ex htp hn0 hdx' hR' ok' ab' kv' ad' hN'=>?_
  · obtain ⟨r,hr,e⟩:=any_abs (nds:=nd) (x:=k) (by rw [hab]; exact hks k hk)
    exact List.mem_map.mpr ⟨r,hr,e⟩
  have N2:News g L s.heap (((dx,dictOf (sd w t1 t2 t3 t4 (.ref D) (.ref Ra) (.int p t5) (.int f t6)) 4)::(Ra,W.listOf (List.toArray rv) rn)::led nd)++((O,instObj 196 dx)::(D,od)::rest)):=news_sub N fun p hp=>by
    simp only [List.mem_cons,List.mem_append] at hp ⊢
    grind
  obtain ⟨F',N'⟩:=back (W':=(tp,tupOf rv)::(dx,dictOf (sd w t1 t2 t3 t4 (.ref D) (.ref Ra) (.int (p+rv.length) t5') (.int f t6)) 4)::(Ra,W.listOf (List.toArray []) rn')::led nd') F N2 ex (fun q hq=>by
      simp only [List.mem_cons] at hq
      rcases hq with rfl | rfl | rfl | hq
      · exact htp
      · exact hdx'
      · exact hR'
      · exact hN' q hq) (fun q hq=>by
      simp only [List.mem_cons] at hq
      rcases hq with rfl | rfl | rfl | hq
      · exact .inr hn0
      · exact .inl (.head _)
      · exact .inl (.tail _ (.head _))
      · refine .inl (.tail _ (.tail _ ?_))
        rw [← ad']; exact List.mem_map_of_mem hq) (fun q hq=>by
      simp only [List.mem_cons] at hq
      rcases hq with rfl | rfl | hq
      · exact nO
      · exact nD
      · intro z; exact sep q hq (.tail _ (.tail _ z)))
  have S':Srt prog w O dx D Ra nd' t1 t2 t3 t4 (outP st ready) [] (p+ready.length) f as ((O,instObj 196 dx)::(D,od)::(dx,dictOf (sd w t1 t2 t3 t4 (.ref D) (.ref Ra) (.int (p+rv.length) t5') (.int f t6)) 4)::(Ra,W.listOf (List.toArray []) rn')::led nd') :=
    ⟨⟨od,[],rn',t5',t6,by rw [hl],by rw [kv']; exact hod,.nil⟩,S.lo,ok',by rw [ab',hab],S.bd.outP ready,by rw [had,ad'],S.nod⟩
  refine h h' tk' tp rv nd' _ F' (news_sub N' fun q hq=>by
    simp only [List.mem_cons,List.mem_append] at hq ⊢
    grind) hi S' hn0 fun q hq=>?_
  have key:∀ q∈(O,instObj 196 dx)::(D,od)::(dx,dictOf (sd w t1 t2 t3 t4 (.ref D) (.ref Ra) (.int p t5) (.int f t6)) 4)::(Ra,W.listOf (List.toArray rv) rn)::led nd++rest,q.1≠tp:=fun q hq=>(addr_ne hn0 (N q hq).1).symm
  simp only [List.mem_cons,List.mem_append] at hq
  rcases hq with (rfl | rfl | rfl | rfl | hq) | hq
  · exact key (O,_) (.head _)
  · exact key (D,od) (.tail _ (.head _))
  · exact key (dx,dictOf (sd w t1 t2 t3 t4 (.ref D) (.ref Ra) (.int p t5) (.int f t6)) 4) (.tail _ (.tail _ (.head _)))
  · exact key (Ra,W.listOf (List.toArray rv) rn) (.tail _ (.tail _ (.tail _ (.head _))))
  · have:q.1∈(led nd).map (·.1):=by rw [← ad']; exact List.mem_map_of_mem hq
    obtain ⟨y,hy,e⟩:=List.mem_map.mp this
    rw [← e]; exact key y (.tail _ (.tail _ (.tail _ (.tail _ (List.mem_append_left _ hy)))))
  · exact key q (.tail _ (.tail _ (.tail _ (.tail _ (List.mem_append_right _ hq)))))
theorem al0:∀ d,P1 d:=epsAll ne0 P1 (by with_unfolding_all exact bd0)
end ZsrtReady
end
section
variable {prog:Program} {w:World} {A:Around} {E:Value→Shared→Prop} {s:Shared} {O dx D Ra L:Addr} {nd:List Nd} {t1 t2 t3 t4:Tok} {st:List AN} {ready:List Int} {p f:Int} {as:List Addr} {b rest:List (Addr×Obj)} {g:Heap} {m:Str→Option Value}
theorem srtReady {Q:Value→Shared→Prop} (rm:Room A 1) (T:Wd w g) (F:Fr g L s.heap m) (N:News g L s.heap (b++rest)) (S:Srt prog w O dx D Ra nd t1 t2 t3 t4 st ready p f as b) (hz:ready.length≤1000) (hks:∀ k∈ready,(st.any fun e=>e.1==k)=true) (sep:∀ p∈rest,p.1∉as) (h:∀ h' tk' tp rv nd' b',Fr g L h' m→News g L h' ((tp,tupOf rv)::(b'++rest))→IntsAre rv ready→Srt prog w O dx D Ra nd' t1 t2 t3 t4 (outP st ready) [] (p+ready.length) f as b'→s.heap.get? tp=none→(∀ p∈b'++rest,p.1≠tp)→Q (.ref tp) (up s h' tk')):wpAny (model prog w) A (call (.ref 158) [.ref O]) Q E s:=ZsrtReady.al0 (((((prog,w),A),((s,E),O)),(((dx,D),Ra),((L,nd),t1))),((((t2,t3),t4),((st,ready),p)),(((f,as),rest),((g,m),Q)))) b rm T F N S hz hks sep h
end
noncomputable section
namespace ZsrtDone
abbrev D0:=(((((Program)×(World))×((Around)×(Shared)))×(((Value→Shared→Prop)×(Addr))×(Addr)))×((((Addr)×(Addr))×((Addr)×(List Nd)))×(((Tok)×(Tok))×(Tok))))×(((((Tok)×(List AN))×((List Int)×(Int)))×(((Int)×(List Addr))×(List (Addr×Obj))))×((((Heap)×(Str→Option Value))×(Value→Shared→Prop))×(((List Value)×(List Int))×(List AN×List Int))))
abbrev P0 (prog:Program) (w:World) (A:Around) (s:Shared) (E:Value→Shared→Prop) (O dx D Ra L:Addr) (nd:List Nd) (t1 t2 t3 t4:Tok) (st:List AN) (ready:List Int) (p f:Int) (as:List Addr) (rest:List (Addr×Obj)) (g:Heap) (m:Str→Option Value) (Q:Value→Shared→Prop) (av:List Value) (ks:List Int) (z':List AN×List Int):Prop:=∀ (b:List (Addr×Obj)) (rm:Room A 1) (T:Wd w g) (F:Fr g L s.heap m) (N:News g L s.heap (b++rest)) (S:Srt prog w O dx D Ra nd t1 t2 t3 t4 st ready p f as b) (hz:ready.length≤1000) (ha:IntsAre av ks) (haz:ks.length≤100) (hd:doneP (st,ready) ks=some z') (sep:∀ p∈rest,p.1∉as) (h:∀ h' tk' nd' b',Fr g L h' m→News g L h' (b'++rest)→Srt prog w O dx D Ra nd' t1 t2 t3 t4 z'.1 z'.2 p (f+ks.length) as b'→Q .none (up s h' tk')),codeAny (model prog w) A (.call (.ref 179) ⟨.ref O::av,[]⟩) (wants Q E) s
abbrev P1 (d:D0):=P0 d.1.1.1.1.1 d.1.1.1.1.2 d.1.1.1.2.1 d.1.1.1.2.2 d.1.1.2.1.1 d.1.1.2.1.2 d.1.1.2.2 d.1.2.1.1.1 d.1.2.1.1.2 d.1.2.1.2.1 d.1.2.1.2.2 d.1.2.2.1.1 d.1.2.2.1.2 d.1.2.2.2 d.2.1.1.1.1 d.2.1.1.1.2 d.2.1.1.2.1 d.2.1.1.2.2 d.2.1.2.1.1 d.2.1.2.1.2 d.2.1.2.2 d.2.2.1.1.1 d.2.2.1.1.2 d.2.2.1.2 d.2.2.2.1.1 d.2.2.2.1.2 d.2.2.2.2
theorem ne0:Nonempty D0:=⟨(((((Challenge.pw_ny0293_01,Classical.choice neW),(callerA,Classical.choice neS)),default),default),default)⟩
@[irreducible] def d0:D0:=@Classical.epsilon D0 ne0 fun d=>¬ P1 d
def prog:=d0.1.1.1.1.1
def w:=d0.1.1.1.1.2
def A:=d0.1.1.1.2.1
def s:=d0.1.1.1.2.2
def E:=d0.1.1.2.1.1
def O:=d0.1.1.2.1.2
def dx:=d0.1.1.2.2
def D:=d0.1.2.1.1.1
def Ra:=d0.1.2.1.1.2
def L:=d0.1.2.1.2.1
def nd:=d0.1.2.1.2.2
def t1:=d0.1.2.2.1.1
def t2:=d0.1.2.2.1.2
def t3:=d0.1.2.2.2
def t4:=d0.2.1.1.1.1
def st:=d0.2.1.1.1.2
def ready:=d0.2.1.1.2.1
def p:=d0.2.1.1.2.2
def f:=d0.2.1.2.1.1
def as:=d0.2.1.2.1.2
def rest:=d0.2.1.2.2
def g:=d0.2.2.1.1.1
def m:=d0.2.2.1.1.2
def Q:=d0.2.2.1.2
def av:=d0.2.2.2.1.1
def ks:=d0.2.2.2.1.2
def z':=d0.2.2.2.2
theorem bd0 : P0 prog w A s E O dx D Ra L nd t1 t2 t3 t4 st ready p f as rest g m Q av ks z' := by
  intro b rm T F N S hz ha haz hd sep h
  obtain ⟨od,rv,rn,t5,t6,rfl,hod,hi⟩:=S.it
  have hl:=hi.length
  have hla:=ha.length
  have hab:=S.ab
  have had:=S.ad
  have nod:=S.nod
  rw [had] at nod sep
  simp only [List.nodup_cons,List.mem_cons,not_or] at nod
  have gW:∀ a∈dx::Ra::(led nd).map (·.1),g.get? a=none:=fun a ha=>by
    simp only [List.mem_cons,List.mem_map] at ha
    rcases ha with rfl | rfl | ⟨q,hq,rfl⟩
    · exact (N (_,_) (.tail _ (.tail _ (.head _)))).2.2
    · exact (N (_,_) (.tail _ (.tail _ (.tail _ (.head _))))).2.2
    · exact (N q (.tail _ (.tail _ (.tail _ (.tail _ (List.mem_append_left _ hq)))))).2.2
  have nO:O∉dx::Ra::(led nd).map (·.1):=by simp only [List.mem_cons,not_or]; exact ⟨nod.1.2.1,nod.1.2.2.1,nod.1.2.2.2⟩
  have nD:D∉dx::Ra::(led nd).map (·.1):=by simp only [List.mem_cons,not_or]; exact nod.2.1
  refine done_code (nds:=nd) (ks:=ks) (rks:=ready) (z':=z') rm (T.hide F gW) (hideAll_get _ (N _ (.head _)).1 nO) (Heap.dictOf_iff.mpr ⟨od,hideAll_get _ (N (D,od) (.tail _ (.head _))).1 nD,hod⟩) S.lo (N _ (.tail _ (.tail _ (.head _)))).1 (N _ (.tail _ (.tail _ (.tail _ (.head _))))).1 (fun q hq=>(N q (.tail _ (.tail _ (.tail _ (.tail _ (List.mem_append_left _ hq)))))).1) S.ok nod.2.2.1.1 nod.2.2.1.2 nod.2.2.2.1 hi (by lia) ha (by lia) (by rw [hab]; exact S.bd) (by rw [hab]; exact hd) fun h' tk' nd' rn' rv' t6' ex hdx' hR' hi' ok' ab' kv' ad' hN'=>?_
  have N2:News g L s.heap (((dx,dictOf (sd w t1 t2 t3 t4 (.ref D) (.ref Ra) (.int p t5) (.int f t6)) 4)::(Ra,W.listOf (List.toArray rv) rn)::led nd)++((O,instObj 196 dx)::(D,od)::rest)):=news_sub N fun p hp=>by
    simp only [List.mem_cons,List.mem_append] at hp ⊢
    grind
  obtain ⟨F',N'⟩:=back (W':=(dx,dictOf (sd w t1 t2 t3 t4 (.ref D) (.ref Ra) (.int p t5) (.int (f+av.length) t6')) 4)::(Ra,W.listOf (List.toArray rv') rn')::led nd') F N2 ex (fun q hq=>by
      simp only [List.mem_cons] at hq
      rcases hq with rfl | rfl | hq
      · exact hdx'
      · exact hR'
      · exact hN' q hq) (fun q hq=>by
      simp only [List.mem_cons] at hq
      rcases hq with rfl | rfl | hq
      · exact .inl (.head _)
      · exact .inl (.tail _ (.head _))
      · refine .inl (.tail _ (.tail _ ?_))
        rw [← ad']; exact List.mem_map_of_mem hq) (fun q hq=>by
      simp only [List.mem_cons] at hq
      rcases hq with rfl | rfl | hq
      · exact nO
      · exact nD
      · intro z; exact sep q hq (.tail _ (.tail _ z)))
  have S':Srt prog w O dx D Ra nd' t1 t2 t3 t4 z'.1 z'.2 p (f+ks.length) as ((O,instObj 196 dx)::(D,od)::(dx,dictOf (sd w t1 t2 t3 t4 (.ref D) (.ref Ra) (.int p t5) (.int (f+av.length) t6')) 4)::(Ra,W.listOf (List.toArray rv') rn')::led nd') :=
    ⟨⟨od,rv',rn',t5,t6',by rw [hla],by rw [kv']; exact hod,hi'⟩,S.lo,ok',ab',Bd.done ks (z:=(st,ready)) S.bd hd,by rw [had,ad'],S.nod⟩
  exact h h' tk' nd' _ F' (news_sub N' fun q hq=>by
    simp only [List.mem_cons,List.mem_append] at hq ⊢
    grind) S'
theorem al0:∀ d,P1 d:=epsAll ne0 P1 (by with_unfolding_all exact bd0)
end ZsrtDone
end
section
variable {prog:Program} {w:World} {A:Around} {E:Value→Shared→Prop} {s:Shared} {O dx D Ra L:Addr} {nd:List Nd} {t1 t2 t3 t4:Tok} {st:List AN} {ready:List Int} {p f:Int} {as:List Addr} {b rest:List (Addr×Obj)} {g:Heap} {m:Str→Option Value}
theorem srtDone {Q:Value→Shared→Prop} {av:List Value} {ks:List Int} {z':List AN×List Int} (rm:Room A 1) (T:Wd w g) (F:Fr g L s.heap m) (N:News g L s.heap (b++rest)) (S:Srt prog w O dx D Ra nd t1 t2 t3 t4 st ready p f as b) (hz:ready.length≤1000) (ha:IntsAre av ks) (haz:ks.length≤100) (hd:doneP (st,ready) ks=some z') (sep:∀ p∈rest,p.1∉as) (h:∀ h' tk' nd' b',Fr g L h' m→News g L h' (b'++rest)→Srt prog w O dx D Ra nd' t1 t2 t3 t4 z'.1 z'.2 p (f+ks.length) as b'→Q .none (up s h' tk')):codeAny (model prog w) A (.call (.ref 179) ⟨.ref O::av,[]⟩) (wants Q E) s:=ZsrtDone.al0 (((((prog,w),(A,s)),((E,O),dx)),(((D,Ra),(L,nd)),((t1,t2),t3))),((((t4,st),(ready,p)),((f,as),rest)),(((g,m),Q),((av,ks),z')))) b rm T F N S hz ha haz hd sep h
open PyProof.Rows.TI (Frs SameUp) in
end
noncomputable section
namespace ZprepL
abbrev D0:=(((((Program)×(World))×((Around)×(Shared)))×(((Value→Shared→Prop)×(Addr))×(Addr)))×((((Addr)×(Addr))×(List Nd))×(((Tok)×(Tok))×(Tok))))×(((((Tok)×(List AN))×((List (Addr×Obj))×(Heap)))×(((Str→Option Value)×(Value→Shared→Prop))×(Env)))×((((List Env)×(List (Addr×Obj)))×(Obj))×(((Tok)×(Tok))×(Int→Nat))))
abbrev P0 (prog:Program) (w:World) (A:Around) (s:Shared) (E:Value→Shared→Prop) (O dx D L:Addr) (nd:List Nd) (t1 t2 t3 t4:Tok) (st:List AN) (rest:List (Addr×Obj)) (g:Heap) (m:Str→Option Value) (Q:Value→Shared→Prop) (e0:Env) (l:List Env) (frs0:List (Addr×Obj)) (od:Obj) (t5 t6:Tok) (rk:Int→Nat):Prop:=∀ (rm:Room A 4) (hfr:A.frames=some (e0::l)) (hFs:∀ oL,s.heap.get? L=some oL→Frs (e0::l) ((L,oL)::frs0)) (T:Wd w g) (F:Fr g L s.heap m) (N:News g L s.heap (frs0++((O,instObj 196 dx)::(D,od)::(dx,dictOf (sd w t1 t2 t3 t4 (.ref D) .none (.int 0 t5) (.int 0 t6)) 4)::(led nd++rest)))) (hod:od.IsDictOf (intKind prog w) (kvsOf nd)) (lo:(D==sysModules)=false) (ok:Nok nd) (ab:absOf nd=st) (bd:Bd 500 500 st) (hrk:∀ e∈st,∀ x∈e.2.2,x∈st.map (·.1)∧rk e.1<rk x) (nod:(O::D::dx::(led nd).map (·.1)).Nodup) (sep:∀ p∈rest++frs0,p.1∉O::D::dx::(led nd).map (·.1)) (sepf:∀ p∈rest,p.1∉frs0.map (·.1)) (h:∀ h' tk' frs' Ra as b,Fr g L h' m→News g L h' (b++(rest++frs'))→SameUp frs0 frs'→Srt prog w O dx D Ra nd t1 t2 t3 t4 st (readyP st) 0 0 as b→(∀ p∈rest++frs',p.1∉as)→(∀ a∈as,a=O∨a=D∨a=dx∨a=Ra∨a∈(led nd).map (·.1))→s.heap.get? Ra=none→Q .none (up s h' tk')),wpAny (model prog w) A (call (.ref 151) [.ref O]) Q E s
abbrev P1 (d:D0):=P0 d.1.1.1.1.1 d.1.1.1.1.2 d.1.1.1.2.1 d.1.1.1.2.2 d.1.1.2.1.1 d.1.1.2.1.2 d.1.1.2.2 d.1.2.1.1.1 d.1.2.1.1.2 d.1.2.1.2 d.1.2.2.1.1 d.1.2.2.1.2 d.1.2.2.2 d.2.1.1.1.1 d.2.1.1.1.2 d.2.1.1.2.1 d.2.1.1.2.2 d.2.1.2.1.1 d.2.1.2.1.2 d.2.1.2.2 d.2.2.1.1.1 d.2.2.1.1.2 d.2.2.1.2 d.2.2.2.1.1 d.2.2.2.1.2 d.2.2.2.2
theorem ne0:Nonempty D0:=⟨(((((Challenge.pw_ny0293_01,Classical.choice neW),(callerA,Classical.choice neS)),default),default),default)⟩
@[irreducible] def d0:D0:=@Classical.epsilon D0 ne0 fun d=>¬ P1 d
def prog:=d0.1.1.1.1.1
def w:=d0.1.1.1.1.2
def A:=d0.1.1.1.2.1
def s:=d0.1.1.1.2.2
def E:=d0.1.1.2.1.1
def O:=d0.1.1.2.1.2
def dx:=d0.1.1.2.2
def D:=d0.1.2.1.1.1
def L:=d0.1.2.1.1.2
def nd:=d0.1.2.1.2
def t1:=d0.1.2.2.1.1
def t2:=d0.1.2.2.1.2
def t3:=d0.1.2.2.2
def t4:=d0.2.1.1.1.1
def st:=d0.2.1.1.1.2
def rest:=d0.2.1.1.2.1
def g:=d0.2.1.1.2.2
def m:=d0.2.1.2.1.1
def Q:=d0.2.1.2.1.2
def e0:=d0.2.1.2.2
def l:=d0.2.2.1.1.1
def frs0:=d0.2.2.1.1.2
def od:=d0.2.2.1.2
def t5:=d0.2.2.2.1.1
def t6:=d0.2.2.2.1.2
def rk:=d0.2.2.2.2
theorem bd0:P0 prog w A s E O dx D L nd t1 t2 t3 t4 st rest g m Q e0 l frs0 od t5 t6 rk:=by
  intro rm hfr hFs T F N hod lo ok ab bd hrk nod sep sepf h
  obtain ⟨oL,hoL⟩:=fr_obj F
  have gL:g.get? L=none:=Heap.get?_none_of_le F.above
  have ndl:nd.length≤500:=by rw [← ab] at bd; exact bd.nds
  have mem:∀ {p:Addr×Obj},p∈(O,instObj 196 dx)::(D,od)::(dx,dictOf (sd w t1 t2 t3 t4 (.ref D) .none (.int 0 t5) (.int 0 t6)) 4)::(led nd++rest)→p∈frs0++((O,instObj 196 dx)::(D,od)::(dx,dictOf (sd w t1 t2 t3 t4 (.ref D) .none (.int 0 t5) (.int 0 t6)) 4)::(led nd++rest)):=fun hp=>List.mem_append_right _ hp
  have memf:∀ {p:Addr×Obj},p∈frs0→p∈frs0++((O,instObj 196 dx)::(D,od)::(dx,dictOf (sd w t1 t2 t3 t4 (.ref D) .none (.int 0 t5) (.int 0 t6)) 4)::(led nd++rest)):=fun hp=>List.mem_append_left _ hp
  have Oh:=(N _ (mem (.head _))).1
  have Dh:=N (D,od) (mem (.tail _ (.head _)))
  have dxh:=N (dx,_) (mem (.tail _ (.tail _ (.head _))))
  simp only [List.nodup_cons,List.mem_cons,not_or] at nod
  have hWm:∀ a∈dx::((L,oL)::frs0).map (·.1),g.get? a=none:=fun a ha=>by
    rcases List.mem_cons.mp ha with rfl | ha
    · exact dxh.2.2
    rcases List.mem_cons.mp ha with rfl | ha
    · exact gL
    · obtain ⟨p,hp,rfl⟩:=List.mem_map.mp ha
      exact (N p (memf hp)).2.2
  have kp5:=hide_keeps (W:=dx::((L,oL)::frs0).map (·.1)) F.keep hWm
  have frq:∀ {a:Addr},a∈O::D::dx::(led nd).map (·.1)→a∉frs0.map (·.1):=fun ha q=>by
    obtain ⟨y,hy,rfl⟩:=List.mem_map.mp q
    exact sep y (List.mem_append_right _ hy) ha
  have nW:∀ {a:Addr} {o:Obj},a∈O::D::(led nd).map (·.1)→(a,o)∈(O,instObj 196 dx)::(D,od)::(dx,dictOf (sd w t1 t2 t3 t4 (.ref D) .none (.int 0 t5) (.int 0 t6)) 4)::(led nd++rest)→a∉dx::((L,oL)::frs0).map (·.1):=fun {a o} ha hm q=>by
    rcases List.mem_cons.mp q with q | q
    · simp only [List.mem_cons] at ha
      rcases ha with e | e | e
      · exact nod.1.2.1 (by rw [← e,q])
      · exact nod.2.1.1 (by rw [← e,q])
      · exact nod.2.2.1 (by rw [← q]; exact e)
    rcases List.mem_cons.mp q with q | q
    · exact (N _ (mem hm)).2.1 q
    · refine frq ?_ q
      simp only [List.mem_cons] at ha ⊢
      rcases ha with e | e | e
      · exact .inl e
      · exact .inr (.inl e)
      · exact .inr (.inr (.inr e))
  refine prepare_call (rk:=rk) (nds:=nd) (frs0:=(L,oL)::frs0) rm hfr (hFs oL hoL) (fun p hp=>?_) (fun q=>?_) (T.keeps kp5) (hideAll_get _ Oh (nW (o:=instObj 196 dx) (.head _) (.head _))) dxh.1 (Heap.dictOf_iff.mpr ⟨od,hideAll_get _ Dh.1 (nW (o:=od) (.tail _ (.head _)) (.tail _ (.head _))),hod⟩) lo ok (fun p hp=>hideAll_get _ (N p (mem (.tail _ (.tail _ (.tail _ (List.mem_append_left _ hp)))))).1 (nW (o:=p.2) (.tail _ (.tail _ (List.mem_map_of_mem hp))) (.tail _ (.tail _ (.tail _ (List.mem_append_left _ hp)))))) ndl (fun r hr x hx=>?_) fun h6 tk6 fs6 Ra rv rn ex6 SU6 hf6 hdx6 hR6 hIr frR=>?_
  · rcases List.mem_cons.mp hp with rfl | hp
    · exact hoL
    · exact (N p (memf hp)).1
  · rcases List.mem_cons.mp q with q | q
    · exact dxh.2.1 q
    · exact frq (.tail _ (.tail _ (.head _))) q
  · have:=hrk (r.k,r.np,r.ss) (by rw [← ab]; exact List.mem_map_of_mem (f:=fun r:Nd=>(r.k,r.np,r.ss)) hr) x hx
    refine ⟨?_,this.2⟩
    have z:=this.1
    rw [← ab] at z
    obtain ⟨e,he,e2⟩:=List.mem_map.mp z
    obtain ⟨r',hr',rfl⟩:=List.mem_map.mp he
    exact List.mem_map.mpr ⟨r',hr',e2⟩
  have N5s:News g L s.heap (frs0++((O,instObj 196 dx)::(D,od)::(led nd++rest))):=news_sub N fun p hp=>by
    simp only [List.mem_cons,List.mem_append] at hp ⊢
    grind
  obtain ⟨frs6,F6,N6,SU6'⟩:=backG (wa:=[dx]) (W':=[(dx,dictOf (sd w t1 t2 t3 t4 (.ref D) (.ref Ra) (.int 0 t5) (.int 0 t6)) 4),(Ra,W.listOf (List.toArray rv) rn)]) F N5s hoL ex6 SU6 hf6
    (fun a ha=>by rw [List.mem_singleton] at ha; subst ha; exact ⟨dxh.2.2,dxh.2.1⟩)
    (fun p hp=>by
      rcases List.mem_cons.mp hp with rfl | hp
      · exact ⟨hdx6,.inl (.head _)⟩
      · rw [List.mem_singleton] at hp; subst hp; exact ⟨hR6,.inr frR⟩)
    (fun p hp=>by
      have hp0:=hp
      simp only [List.mem_cons,List.mem_append] at hp
      rcases hp with rfl | rfl | hp | hp
      · exact ⟨frq (.head _),fun q=>nod.1.2.1 (List.mem_singleton.mp q)⟩
      · exact ⟨frq (.tail _ (.head _)),fun q=>nod.2.1.1 (List.mem_singleton.mp q)⟩
      · exact ⟨frq (.tail _ (.tail _ (.tail _ (List.mem_map_of_mem hp)))),fun q=>nod.2.2.1 (by rw [← List.mem_singleton.mp q]; exact List.mem_map_of_mem hp)⟩
      · exact ⟨sepf p hp,fun q=>sep p (List.mem_append_left _ hp) (by rw [List.mem_singleton.mp q]; exact .tail _ (.tail _ (.head _)))⟩)
  have Rne:∀ p∈frs0++((O,instObj 196 dx)::(D,od)::(dx,dictOf (sd w t1 t2 t3 t4 (.ref D) .none (.int 0 t5) (.int 0 t6)) 4)::(led nd++rest)),p.1≠Ra:=fun p hp=>(addr_ne frR (N p hp).1).symm
  refine h h6 tk6 frs6 Ra (O::D::dx::Ra::(led nd).map (·.1)) _ F6 (news_sub N6 fun p hp=>by
    simp only [List.mem_cons,List.mem_append] at hp ⊢
    grind) SU6' ⟨⟨od,rv,rn,t5,t6,rfl,hod,by rw [← ab]; exact hIr⟩,lo,ok,ab,⟨bd.ss,Nat.le_trans bd.len (by lia)⟩,rfl,?_⟩ (fun p hp q=>?_) (fun a ha=>by simpa using ha) frR
  · have nR:Ra∉(led nd).map (·.1):=fun q=>by
      obtain ⟨y,hy,e⟩:=List.mem_map.mp q
      exact Rne y (mem (.tail _ (.tail _ (.tail _ (List.mem_append_left _ hy))))) e
    simp only [List.nodup_cons,List.mem_cons,not_or]
    exact ⟨⟨nod.1.1,nod.1.2.1,Rne (O,_) (mem (.head _)),nod.1.2.2⟩,⟨nod.2.1.1,Rne (D,od) (mem (.tail _ (.head _))),nod.2.1.2⟩,⟨Rne (dx,_) (mem (.tail _ (.tail _ (.head _)))),nod.2.2.1⟩,nR,nod.2.2.2⟩
  · have hp':(p.1∈rest.map (·.1))∨p.1∈frs0.map (·.1):=by
      rcases List.mem_append.mp hp with hp | hp
      · exact .inl (List.mem_map_of_mem hp)
      · right; rw [← sameUp_addr SU6']; exact List.mem_map_of_mem hp
    have h2:∃ y∈rest++frs0,y.1=p.1:=by
      rcases hp' with z | z
      · obtain ⟨y,hy,e⟩:=List.mem_map.mp z; exact ⟨y,List.mem_append_left _ hy,e⟩
      · obtain ⟨y,hy,e⟩:=List.mem_map.mp z; exact ⟨y,List.mem_append_right _ hy,e⟩
    obtain ⟨y,hy,e⟩:=h2
    by_cases hR:p.1=Ra
    · refine Rne y ?_ (e.trans hR)
      rcases List.mem_append.mp hy with hy | hy
      · exact mem (.tail _ (.tail _ (.tail _ (List.mem_append_right _ hy))))
      · exact memf hy
    · refine sep y hy ?_
      rw [e]
      simp only [List.mem_cons] at q ⊢
      rcases q with q | q | q | q | q
      · exact .inl q
      · exact .inr (.inl q)
      · exact .inr (.inr (.inl q))
      · exact absurd q hR
      · exact .inr (.inr (.inr q))
theorem al0:∀ d,P1 d:=epsAll ne0 P1 (by with_unfolding_all exact bd0)
end ZprepL
end
section
variable {prog:Program} {w:World} {A:Around} {E:Value→Shared→Prop} {s:Shared} {O dx D Ra L:Addr} {nd:List Nd} {t1 t2 t3 t4:Tok} {st:List AN} {ready:List Int} {p f:Int} {as:List Addr} {b rest:List (Addr×Obj)} {g:Heap} {m:Str→Option Value}
theorem prepL {Q:Value→Shared→Prop} {e0:Env} {l:List Env} {frs0:List (Addr×Obj)} {od:Obj} {t5 t6:Tok} {rk:Int→Nat}:ZprepL.P0 prog w A s E O dx D L nd t1 t2 t3 t4 st rest g m Q e0 l frs0 od t5 t6 rk:=ZprepL.al0 (((((prog,w),(A,s)),((E,O),dx)),(((D,L),nd),((t1,t2),t3))),((((t4,st),(rest,g)),((m,Q),e0)),(((l,frs0),od),((t5,t6),rk))))
end
end
section
open PyProof.Rows.TI (Frs SameUp)
theorem filter_snoc (p:Nat→Bool) {n j:Nat} (hj:j<n):toI (((List.range n).take (j+1)).filter p)=toI (((List.range n).take j).filter p)++if p j=true then [(j:Int)] else []:=by
  rw [List.take_add_one,show (List.range n)[j]?=some j by simp [hj]]
  unfold toI
  rw [Option.toList_some,List.filter_append,List.map_append]
  congr 1
  cases hc:p j <;> simp [hc]
section
variable {prog:Program} {w:World} {A:Around} {E:Value→Shared→Prop} {s:Shared} {l:List Env} {frs0:List (Addr×Obj)}
theorem cells255 (w:World) (L:Addr):cellsFrom (L+1) (fd255 w).scope.names []=[(Str.ofString "rounds",L+1+1+1),(Str.ofString "k",L+1+1),(Str.ofString "sents",L+1)]:=by kernel_rfl
end
noncomputable section
namespace Zrounds
abbrev D0:=(((((Program)×(World))×(Around))×((Shared)×(Around)))×((((List Env)×(List (Addr×Obj)))×(Addr))×((List Value)×(List (List Nat)))))×(((((Nat)×(Int→Nat))×(List (Int×Int)))×((Nat→Int)×(Addr)))×((((Heap)×(Nat))×(Addr→Obj))×((Flow→Shared→Prop)×(Value→Shared→Prop))))
abbrev P0 (prog:Program) (w:World) (A:Around) (s:Shared) (A₁:Around) (l:List Env) (frs0:List (Addr×Obj)) (Za:Addr) (zv:List Value) (qs:List (List Nat)) (n1:Nat) (rk:Int→Nat) (rd:List (Int×Int)) (dep:Nat→Int) (L:Addr) (h₀:Heap) (tk₀:Nat) (co:Addr→Obj) (R₁:Flow→Shared→Prop) (E₁:Value→Shared→Prop):Prop:=∀ (rm:Room A 7) (hfr:A.frames=some l) (Fs:Frs l frs0) (hW:∀ p∈frs0,s.heap.get? p.1=some p.2) (T:Wd w (hideAll s.heap (frs0.map (·.1)))) (hZ:(hideAll s.heap (frs0.map (·.1))).get? Za=some (W.listOf zv.toArray n1)) (hq:Strs zv qs) (hn:qs.length≤6) (hqz:∀ q∈qs,q.length≤1000) (hrk:∀ e∈roundsSt qs,∀ x∈e.2.2,x∈(roundsSt qs).map (·.1)∧rk e.1<rk x) (hgo:roundsGo 10 (roundsSt qs) (readyP (roundsSt qs)) [] 0=some rd) (hrd:∀ k<qs.length,rdAt rd (k:Nat)=some (dep k)) (h:∀ h' tk' frs' D ys nn,Ext (frs0.map (·.1)) s.heap h'→SameUp frs0 frs'→(∀ p∈frs',h'.get? p.1=some p.2)→h'.get? D=some (W.listOf (List.toArray ys) nn)→IntsAre ys ((List.range qs.length).map dep)→s.heap.get? D=none→R₁ (.ret (.ref D)) (up s h' tk')) (F:Fr (hideAll s.heap ((frs0:List (Addr×Obj)).map (·.1))) L h₀ (bindL (callEnvC (fd255 w) L 255).kindOf ([(("sents":Str),.ref Za)]) fun _=>none)) (N:News (hideAll s.heap ((frs0:List (Addr×Obj)).map (·.1))) L h₀ ((cellsFrom (L+1) (fd255 w).scope.names []).map (fun x=>(x.2,cel (co x.2) (bindC (callEnvC (fd255 w) L 255).kindOf ([(("sents":Str),.ref Za)]) (fun _=>none) x.1)))++frs0)) (hcf:∀ x∈cellsFrom (L+1) (fd255 w).scope.names [],s.heap.get? x.2=none) (dA:Deeper A A₁ (callEnvC (fd255 w) L 255)),wpAny (model prog w) A₁ (execs (stm (fd255 w)) (callEnvC (fd255 w) L 255)) R₁ E₁ (up s h₀ tk₀)
abbrev P1 (d:D0):=P0 d.1.1.1.1.1 d.1.1.1.1.2 d.1.1.1.2 d.1.1.2.1 d.1.1.2.2 d.1.2.1.1.1 d.1.2.1.1.2 d.1.2.1.2 d.1.2.2.1 d.1.2.2.2 d.2.1.1.1.1 d.2.1.1.1.2 d.2.1.1.2 d.2.1.2.1 d.2.1.2.2 d.2.2.1.1.1 d.2.2.1.1.2 d.2.2.1.2 d.2.2.2.1 d.2.2.2.2
theorem ne0:Nonempty D0:=⟨(((((Challenge.pw_ny0293_01,Classical.choice neW),callerA),(Classical.choice neS,callerA)),default),default)⟩
@[irreducible] def d0:D0:=@Classical.epsilon D0 ne0 fun d=>¬ P1 d
def prog:=d0.1.1.1.1.1
def w:=d0.1.1.1.1.2
def A:=d0.1.1.1.2
def s:=d0.1.1.2.1
def A₁:=d0.1.1.2.2
def l:=d0.1.2.1.1.1
def frs0:=d0.1.2.1.1.2
def Za:=d0.1.2.1.2
def zv:=d0.1.2.2.1
def qs:=d0.1.2.2.2
def n1:=d0.2.1.1.1.1
def rk:=d0.2.1.1.1.2
def rd:=d0.2.1.1.2
def dep:=d0.2.1.2.1
def L:=d0.2.1.2.2
def h₀:=d0.2.2.1.1.1
def tk₀:=d0.2.2.1.1.2
def co:=d0.2.2.1.2
def R₁:=d0.2.2.2.1
def E₁:=d0.2.2.2.2
theorem bd0:P0 prog w A s A₁ l frs0 Za zv qs n1 rk rd dep L h₀ tk₀ co R₁ E₁:=by
  intro rm hfr Fs hW T hZ hq hn hqz hrk hgo hrd h F N hcf dA
  refine with_stm (P:=fun b=>wpAny (model prog w) A₁ (execs b (callEnvC (fd255 w) L 255)) R₁ E₁ (up s h₀ tk₀)) rfl ?_
  show wpAny _ _ (execs (_::_) _) _ _ _
  have rm':=dA.room rm
  rw [cells255] at N hcf
  generalize hg:hideAll s.heap (frs0.map (·.1))=g at F N T hZ
  have N0:News g L h₀ ((L+1+1+1,cel (co (L+1+1+1)) none)::(L+1+1,cel (co (L+1+1)) none)::(L+1,cel (co (L+1)) (some (.ref Za)))::frs0):=N
  clear N
  generalize co (L+1+1+1)=o3 at N0
  generalize co (L+1+1)=o2 at N0
  generalize co (L+1)=o1 at N0
  refine wpAny_execs_cons<|wpAny_Assign_Name<|Call_<|ldg (v:=.ref 196) T F (by kernel_rfl)<|callWith_K0 (K:=K w) (T.X.keeps F.keep) (by kernel_rfl)<|call_cls (K:=K w) (fI:=132) F T.X N0 (by kernel_rfl) (by kernel_rfl) (by kernel_rfl) fun O dx h1 F1 N1 lt1 lty=>?_
  have dxO:dx≠O:=Nat.ne_of_lt lty
  refine init_none (s:=up s _ _) (room_type (rm'.le (d':=2) (by lia))) (T.hide F1 fun a ha=>by rw [List.mem_singleton] at ha; subst ha; exact (N1 _ (.tail _ (.head _))).2.2) (N1 _ (.head _)).1 (N1 _ (.tail _ (.head _))).1 dxO.symm fun h2 tk2 D od t1 t2 t3 t4 t5 t6 ex2 hdx2 hD2 hod2 lo frD=>⟨rfl,?_⟩
  have ltc:∀ p∈(L+1+1+1,cel o3 none)::(L+1+1,cel o2 none)::(L+1,cel o1 (some (.ref Za)))::frs0,p.1≠dx∧p.1≠O:=fun p hp=>⟨Nat.ne_of_lt (lt1 p hp),Nat.ne_of_lt (Nat.lt_trans (lt1 p hp) lty)⟩
  obtain ⟨F2,N2⟩:=back (W:=[(dx,dictOf [] 0)]) (W':=[(D,od),(dx,dictOf (sd w t1 t2 t3 t4 (.ref D) .none (.int 0 t5) (.int 0 t6)) 4)]) (rest:=(O,instObj 196 dx)::(L+1+1+1,cel o3 none)::(L+1+1,cel o2 none)::(L+1,cel o1 (some (.ref Za)))::frs0) F1 (news_sub N1 fun p hp=>by
      rcases List.mem_cons.mp hp with rfl | hp
      · exact .tail _ (.head _)
      rcases List.mem_cons.mp hp with rfl | hp
      · exact .head _
      · exact .tail _ (.tail _ hp)) ex2
    (fun p hp=>by
      rcases List.mem_cons.mp hp with rfl | hp
      · exact hD2
      · rw [List.mem_singleton] at hp; subst hp; exact hdx2)
    (fun p hp=>by
      rcases List.mem_cons.mp hp with rfl | hp
      · exact .inr frD
      · rw [List.mem_singleton] at hp; subst hp; exact .inl (.head _))
    (fun p hp q=>by
      have q:=List.mem_singleton.mp q
      rcases List.mem_cons.mp hp with rfl | hp
      · exact dxO.symm q
      · exact (ltc p hp).1 q)
  have neD:∀ p∈(O,instObj 196 dx)::(dx,dictOf [] 0)::(L+1+1+1,cel o3 none)::(L+1+1,cel o2 none)::(L+1,cel o1 (some (.ref Za)))::frs0,p.1≠D:=fun p hp=>(addr_ne frD (N1 p hp).1).symm
  have e3:L+1+1+1≠L+1+1:=Nat.ne_of_gt (Nat.lt_succ_self _)
  have e4:L+1+1≠L+1:=Nat.ne_of_gt (Nat.lt_succ_self _)
  have e5:L+1+1+1≠L+1:=Nat.ne_of_gt (Nat.lt_trans (Nat.lt_succ_self _) (Nat.lt_succ_self _))
  have cfr:∀ p∈frs0,p.1≠(L+1+1+1)∧p.1≠(L+1+1)∧p.1≠(L+1):=fun p hp=>⟨(addr_ne (hcf _ (.head _)) (hW p hp)).symm,(addr_ne (hcf _ (.tail _ (.head _))) (hW p hp)).symm,(addr_ne (hcf _ (.tail _ (.tail _ (.head _)))) (hW p hp)).symm⟩
  have nR:=ltc _ (.head _)
  have nK:=ltc _ (.tail _ (.head _))
  have nS:=ltc _ (.tail _ (.tail _ (.head _)))
  have dO:=neD _ (.head _)
  have dX:=neD _ (.tail _ (.head _))
  have dR:=neD _ (.tail _ (.tail _ (.head _)))
  have dK:=neD _ (.tail _ (.tail _ (.tail _ (.head _))))
  have dS:=neD _ (.tail _ (.tail _ (.tail _ (.tail _ (.head _)))))
  have frne:∀ p∈frs0,p.1≠D∧p.1≠dx∧p.1≠O:=fun p hp=>⟨neD p (.tail _ (.tail _ (.tail _ (.tail _ (.tail _ hp))))),ltc p (.tail _ (.tail _ (.tail _ hp)))⟩
  simp only at nR nK nS dO dX dR dK dS
  have uK:∀ {v2 v2' v3:Option Value} {dxo od:Obj} {Y:List (Addr×Obj)},(∀ p∈Y,p.1≠(L+1+1))→Upd (L+1+1) (cel o2 v2) (cel o2 v2') (((L+1+1),cel o2 v2)::((L+1+1+1),cel o3 v3)::((L+1),cel o1 (some (.ref Za)))::(dx,dxo)::(O,instObj 196 dx)::(D,od)::Y) (((L+1+1),cel o2 v2')::((L+1+1+1),cel o3 v3)::((L+1),cel o1 (some (.ref Za)))::(dx,dxo)::(O,instObj 196 dx)::(D,od)::Y):=fun hY=>.head fun p hp=>by
    simp only [List.mem_cons] at hp
    rcases hp with rfl | rfl | rfl | rfl | rfl | hp
    · exact e3
    · exact e4.symm
    · exact nK.1.symm
    · exact nK.2.symm
    · exact dK.symm
    · exact hY p hp
  refine st (s:=up s _ _) F2 N2 fun h3 tk3 F3 N3=>?_
  have N3':News g L h3 (((L+1+1),cel o2 none)::((L+1+1+1),cel o3 none)::((L+1),cel o1 (some (.ref Za)))::(dx,dictOf (sd w t1 t2 t3 t4 (.ref D) .none (.int 0 t5) (.int 0 t6)) 4)::(O,instObj 196 dx)::(D,od)::(led []++frs0)):=news_sub N3 fun p hp=>by
    simp only [led,List.flatMap_nil,List.mem_cons,List.mem_append,List.not_mem_nil,false_or,or_false] at hp ⊢
    grind
  have lz:zv.length=qs.length:=hq.length
  have hle:∀ k,((qs.getD k []):List Nat).length≤1000:=fun k=>by
    by_cases hk:k<qs.length
    · rw [List.getD_eq_getElem?_getD,List.getElem?_eq_getElem hk]; exact hqz _ (List.getElem_mem hk)
    · rw [List.getD_eq_getElem?_getD,List.getElem?_eq_none (by lia)]; simp
  have zat:∀ k,k<qs.length→∃ t,zv[k]?=some (.str (S (qs.getD k [])) t):=fun k hk=>hq.get k (qs.getD k []) (by simp [hk])
  refine wpAny_execs_cons<|wpAny_For<|callt (id:="range") (s:=up s _ _) T F3 (by kernel_rfl)<|spliced_more<|callb (id:="len") (s:=up s _ _) T F3 (by kernel_rfl)<|spliced_more<|ldC (s:=up s _ _) N3' (.tail _ (.tail _ (.head _)))<|spliced_none<|len_any (s:=up s _ _) (F3.keep _ _ hZ) (by lia) fun _ _=>spliced_none<|rangeR1 (s:=tkd (up s _ _) _) F3 N3' fun r4 h4 tk4 t4' u4 v4 hr4 F4 N4=>?_
  rw [lz] at hr4
  let Jv0:Nat→(Str→Option Value)→List (Addr×Obj)→Prop:=fun i m news=>Ex3 fun (nd:List Nd) (od:Obj) (v2:Option Value)=>And7 (news=((L+1+1),cel o2 v2)::((L+1+1+1),cel o3 none)::((L+1),cel o1 (some (.ref Za)))::(dx,dictOf (sd w t1 t2 t3 t4 (.ref D) .none (.int 0 t5) (.int 0 t6)) 4)::(O,instObj 196 dx)::(D,od)::(led nd++frs0)) (od.IsDictOf (intKind prog w) (kvsOf nd)) (Nok nd) (absOf nd=((List.range qs.length).take i).foldl (fun st (k:Nat)=>addP st (k:Int) (toI (predsOf qs k))) []) (Bd (6*i) (7*i) (absOf nd)) ((∀ a∈(L+1+1)::(L+1+1+1)::(L+1)::dx::O::D::frs0.map (·.1),a∉(led nd).map (·.1))) (m "sorter"=some (.ref O))
  refine forAR (s:=up s _ _) (n:=qs.length) rm'.handled F4 N4 hr4 (range_small (by lia) (by lia) (by lia) (by lia)) (range_size (.inl (by lia)))
    Jv0
    ⟨[],od,none,rfl,hod2,⟨by simp,by simp [led],fun _ h=>(nomatch h)⟩,rfl,⟨fun _ h=>(nomatch h),by simp [absOf]⟩,fun a _=>by simp [led],rfl⟩ ?_ ?_
  · intro E' i t m₁ news₁ h₁ tk₁ own hi hJ hw ho hI F₁ N₁
    obtain ⟨nd,od1,v2,rfl,hod1,ok1,ab1,bd1,hfx,mso⟩:=hJ
    have ownne:∀ p∈own,∀ a∈(led nd).map (·.1)++((L+1+1)::(L+1+1+1)::(L+1)::dx::O::D::frs0.map (·.1)),p.1≠a:=fun p hp a ha e=>by
      have hI':=ho p hp
      rcases List.mem_append.mp ha with q | q
      · obtain ⟨y,hy,e'⟩:=List.mem_map.mp q
        exact hw y (.tail _ (.tail _ (.tail _ (.tail _ (.tail _ (.tail _ (List.mem_append_left _ hy))))))) (by rw [e',← e]; exact hI')
      · simp only [List.mem_cons] at q
        rcases q with rfl | rfl | rfl | rfl | rfl | rfl | q
        · exact hw ((L+1+1),_) (.head _) (e.symm.trans hI')
        · exact hw ((L+1+1+1),_) (.tail _ (.head _)) (e.symm.trans hI')
        · exact hw ((L+1),_) (.tail _ (.tail _ (.head _))) (e.symm.trans hI')
        · exact hw (a,_) (.tail _ (.tail _ (.tail _ (.head _)))) (e.symm.trans hI')
        · exact hw (a,_) (.tail _ (.tail _ (.tail _ (.tail _ (.head _))))) (e.symm.trans hI')
        · exact hw (a,_) (.tail _ (.tail _ (.tail _ (.tail _ (.tail _ (.head _)))))) (e.symm.trans hI')
        · obtain ⟨y,hy,e'⟩:=List.mem_map.mp q
          exact hw y (.tail _ (.tail _ (.tail _ (.tail _ (.tail _ (.tail _ (List.mem_append_right _ hy))))))) (by rw [e',← e]; exact hI')
    have hYK:∀ p∈(led nd++frs0)++own,p.1≠(L+1+1):=fun p hp e=>by
      rcases List.mem_append.mp hp with q | q
      · rcases List.mem_append.mp q with q | q
        · exact hfx (L+1+1) (.head _) (e ▸ List.mem_map_of_mem q)
        · exact (cfr p q).2.1 e
      · exact ownne p q (L+1+1) (List.mem_append_right _ (.head _)) e
    refine wpAny_assign_Name<|stC (s:=up s _ _) (v:=.int (0+(i:Int)) t) F₁ N₁ (uK hYK) fun h5 F5 N5=>?_
    rw [Int.zero_add] at N5
    have Oh:=(N5 (O,instObj 196 dx) (.tail _ (.tail _ (.tail _ (.tail _ (.head _)))))).1
    have dxh:=(N5 (dx,_) (.tail _ (.tail _ (.tail _ (.head _))))).1
    refine wpAny_execs_cons<|wpAny_Expr<|Call_sm<|ld (s:=up s _ _) F5 mso<|boundS (s:=up s _ _) T F5 N5 Oh dxh sd_add (f:=146) fun q6 h6 tk6 F6 N6 kp6 lt6 fr6=>?_
    refine callMS2 (w:=w) (f:=146) (self:=.ref O) (by kernel_rfl)<|spliced_more<|ldC (s:=up s _ _) N6 (.tail _ (.head _))<|items_star<|lcG (cl:=[(Str.ofString "sents",(L+1)),(Str.ofString "k",(L+1+1))]) (by kernel_rfl)<|callt (id:="range") (s:=up s _ _) T F6 (by kernel_rfl)<|spliced_more<|callb (id:="len") (s:=up s _ _) T F6 (by kernel_rfl)<|spliced_more<|ldC (s:=up s _ _) N6 (.tail _ (.tail _ (.tail _ (.head _))))<|spliced_none<|len_any (s:=up s _ _) (F6.keep _ _ hZ) (by lia) fun _ _=>spliced_none<|rangeR1 (s:=tkd (up s _ _) _) F6 N6 fun r7 h7 tk7 t7 u7 v7 hr7 F7 N7=>?_
    rw [lz] at hr7
    let Jv1:Addr→Nat→List Value→(Str→Option Value)→List (Addr×Obj)→Prop:=fun _ i' ys _ news'=>news'=(q6,methodObj (.ref 146) (.ref O))::((((L+1+1),cel o2 (some (.int (i:Int) t)))::((L+1+1+1),cel o3 none)::((L+1),cel o1 (some (.ref Za)))::(dx,dictOf (sd w t1 t2 t3 t4 (.ref D) .none (.int 0 t5) (.int 0 t6)) 4)::(O,instObj 196 dx)::(D,od1)::(led nd++frs0))++own)∧IntsAre ys (toI (((List.range qs.length).take i').filter fun j=>j != i && ((qs.getD i []).take (qs.getD j []).length==qs.getD j [])))
    refine srcR (s:=up s _ _) (n:=qs.length) rm'.handled F7 N7 hr7 (range_small (by lia) (by lia) (by lia) (by lia)) (range_size (.inl (by lia))) (by lia)
      Jv1 (fun C=>⟨rfl,.nil⟩) ?_ ?_
    · intro E2 j v C D8 ys m₂ news₂ h8 tk8 own2 hj hP hJ2 hw2 hav2 hcov2 F8 N8
      obtain ⟨rfl,hys⟩:=hJ2
      obtain ⟨tj,rfl⟩:=hP
      rw [Int.zero_add]
      obtain ⟨ti,hti⟩:=zat i hi
      obtain ⟨tjz,htj⟩:=zat j hj
      have hlei:=hle i
      have hlej:=hle j
      have htk:toI (((List.range qs.length).take (j+1)).filter fun j=>j != i && ((qs.getD i []).take (qs.getD j []).length==qs.getD j []))=toI (((List.range qs.length).take j).filter fun j=>j != i && ((qs.getD i []).take (qs.getD j []).length==qs.getD j []))++if (j != i && ((qs.getD i []).take (qs.getD j []).length==qs.getD j []))=true then [(j:Int)] else []:=by
        exact filter_snoc (fun j=>j != i && ((qs.getD i []).take (qs.getD j []).length==qs.getD j [])) hj
      refine wpAny_assign_Name<|st (s:=up s _ _) F8 N8 fun h9 tk9 F9 N9=>wpAny_tests_one<|wpAny_isTrue_BoolOp<|wpAny_allTrue_And_cons<|wpAny_isTrue_Compare1<|ld (s:=up s _ _) F9 rfl<|ldC (s:=up s _ _) N9 (.tail _ (.head _))<|ne_int<|wpAny_truthy_bool ?_
      have e8:decide ((j:Int)≠(i:Int))=(j != i):=by
        by_cases e:j=i
        · subst e; simp
        · have:¬ (j:Int)=(i:Int):=by lia
          simp [e,this]
      cases hji:(j != i) with
      | false =>
        have hjie:j=i:=by simpa using hji
        rw [if_neg (by simp [hjie])]
        first | refine ifF (by simp) ?_ | rw [if_neg (by simp)]
        refine CT.mk (s:=up s _ _) F9 N9 hw2 ⟨rfl,?_⟩
        rw [htk,hji,if_neg (by simp),List.append_nil]; exact hys
      | true =>
        have hjie : ¬ (j : Int) = (i : Int) := by have : j ≠ i := by simpa using hji
                                                  lia
        rw [if_pos (by simp [hjie])]
        refine wpAny_allTrue_And_cons<|wpAny_isTrue_Compare1<|Subscript_<|Subscript_<|ldC (s:=up s _ _) N9 (.tail _ (.tail _ (.tail _ (.head _))))<|ldC (s:=up s _ _) N9 (.tail _ (.head _))<|itL (s:=up s _ _) (vs:=zv) ⟨_,F9.keep _ _ hZ,rfl,_,rfl⟩ (by lia) (by lia) (by rw [Int.toNat_natCast]; exact hti) ?_
        refine wpAny_Slice<|wpAny_evalPart_none<|wpAny_evalPart_some<|callb (id:="len") (s:=up s _ _) T F9 (by kernel_rfl)<|spliced_more<|Subscript_<|ldC (s:=up s _ _) N9 (.tail _ (.tail _ (.tail _ (.head _))))<|ld (s:=up s _ _) F9 rfl<|itL (s:=up s _ _) (vs:=zv) ⟨_,F9.keep _ _ hZ,rfl,_,rfl⟩ (by lia) (by lia) (by rw [Int.toNat_natCast]; exact htj)<|spliced_none<|len_S (s:=up s _ _) (by lia) fun _ _=>wpAny_evalPart_none<|slcTo (s:=tkd (up s _ _) _) F9 N9 (by lia) (by lia) fun h10 t10 tk10 F10 N10=>?_
        refine Subscript_<|ldC (s:=up s _ _) N10 (.tail _ (.tail _ (.tail _ (.head _))))<|ld (s:=up s _ _) F10 rfl<|itL (s:=up s _ _) (vs:=zv) ⟨_,F10.keep _ _ hZ,rfl,_,rfl⟩ (by lia) (by lia) (by rw [Int.toNat_natCast]; exact htj)<|eqS<|wpAny_truthy_bool ?_
        rw [Int.toNat_natCast]
        cases hpr:((qs.getD i []).take (qs.getD j []).length==qs.getD j []) with
        | false =>
          first | refine ifF (by simp)<|ifF (by simp) ?_ | rw [if_neg (by simp),if_neg (by simp)]
          refine CT.mk (s:=up s _ _) F10 N10 hw2 ⟨rfl,?_⟩
          rw [htk,hji,hpr,if_neg (by simp),List.append_nil]; exact hys
        | true =>
          first | refine ifT rfl ?_ | rw [if_pos rfl]
          refine wpAny_allTrue_And_nil ?_
          first | refine ifT rfl ?_ | rw [if_pos rfl]
          refine ld (s:=up s _ _) F10 rfl<|CT.mk (s:=up s _ _) F10 N10 hw2 ⟨rfl,?_⟩
          rw [htk,hji,hpr,if_pos (by simp)]
          exact IntsAre.snoc hys _ _
    · intro Dl C h8 tk8 m8 oC ys news8 F8 N8 hoC hJ2 hp8 hDC hDl0
      obtain ⟨rfl,hys⟩:=hJ2
      rw [List.take_of_length_le (by simp)] at hys
      have hys':IntsAre ys (toI (predsOf qs i)):=hys
      refine postN (s:=up s _ _) F8 N8 hoC (fun p hp=>?_) fun h9 F9 N9=>?_
      · rcases List.mem_cons.mp hp with rfl | hp
        · exact hDC
        · exact (hp8 p hp).1
      have hyl:ys.length≤6:=by
        rw [hys'.length]; unfold toI predsOf; rw [List.length_map]
        exact Nat.le_trans (List.length_filter_le _ _) (by simpa using hn)
      refine starL (s:=up s _ _) F9 N9 (N9 _ (.head _)).1 (by lia) fun h10 F10 N10 kp10=>spliced_none ⟨methP N10 (.tail _ (.head _)) (T.X.keeps F10.keep),call_meth N10 (.tail _ (.head _)) ?_⟩
      have N10':News g L h10 ((D,od1)::(led nd++((Dl,W.listOf (List.toArray ys) ys.length)::(q6,methodObj (.ref 146) (.ref O))::((L+1+1),cel o2 (some (.int (i:Int) t)))::((L+1+1+1),cel o3 none)::((L+1),cel o1 (some (.ref Za)))::(dx,dictOf (sd w t1 t2 t3 t4 (.ref D) .none (.int 0 t5) (.int 0 t6)) 4)::(O,instObj 196 dx)::(frs0++own)))):=news_sub N10 fun p hp=>by
        simp only [List.mem_cons,List.mem_append] at hp ⊢
        grind
      have Dlne:∀ p∈((L+1+1),cel o2 (some (.int (i:Int) t)))::((L+1+1+1),cel o3 none)::((L+1),cel o1 (some (.ref Za)))::(dx,dictOf (sd w t1 t2 t3 t4 (.ref D) .none (.int 0 t5) (.int 0 t6)) 4)::(O,instObj 196 dx)::(D,od1)::(led nd++frs0)++own,p.1≠Dl∧p.1≠q6:=fun p hp=>by
        refine ⟨(addr_ne hDl0 (N7 p (.tail _ hp)).1).symm,Nat.ne_of_lt (lt6 p hp)⟩
      simp only [List.append_nil]
      have Oh10:=(N10' (O,instObj 196 dx) (.tail _ (List.mem_append_right _ (.tail _ (.tail _ (.tail _ (.tail _ (.tail _ (.tail _ (.head _))))))))) ).1
      have dxh10:=(N10' (dx,dictOf (sd w t1 t2 t3 t4 (.ref D) .none (.int 0 t5) (.int 0 t6)) 4) (.tail _ (List.mem_append_right _ (.tail _ (.tail _ (.tail _ (.tail _ (.tail _ (.head _)))))))) ).1
      have nled:∀ {a:Addr},(∀ p∈led nd,p.1≠a)→a∉(led nd).map (·.1):=fun hne q=>by
        obtain ⟨y,hy,e⟩:=List.mem_map.mp q
        exact hne y hy e
      have mled:∀ p∈led nd,p∈((L+1+1),cel o2 (some (.int (i:Int) t)))::((L+1+1+1),cel o3 none)::((L+1),cel o1 (some (.ref Za)))::(dx,dictOf (sd w t1 t2 t3 t4 (.ref D) .none (.int 0 t5) (.int 0 t6)) 4)::(O,instObj 196 dx)::(D,od1)::(led nd++frs0)++own:=fun p hp=>List.mem_append_left _ (.tail _ (.tail _ (.tail _ (.tail _ (.tail _ (.tail _ (List.mem_append_left _ hp)))))))
      have mD:((D,od1):Addr×Obj)∈((L+1+1),cel o2 (some (.int (i:Int) t)))::((L+1+1+1),cel o3 none)::((L+1),cel o1 (some (.ref Za)))::(dx,dictOf (sd w t1 t2 t3 t4 (.ref D) .none (.int 0 t5) (.int 0 t6)) 4)::(O,instObj 196 dx)::(D,od1)::(led nd++frs0)++own:=List.mem_append_left _ (.tail _ (.tail _ (.tail _ (.tail _ (.tail _ (.head _))))))
      have hrest:∀ p∈(Dl,W.listOf (List.toArray ys) ys.length)::(q6,methodObj (.ref 146) (.ref O))::((L+1+1),cel o2 (some (.int (i:Int) t)))::((L+1+1+1),cel o3 none)::((L+1),cel o1 (some (.ref Za)))::(dx,dictOf (sd w t1 t2 t3 t4 (.ref D) .none (.int 0 t5) (.int 0 t6)) 4)::(O,instObj 196 dx)::(frs0++own),p.1≠D∧p.1∉(led nd).map (·.1):=fun p hp=>by
        simp only [List.mem_cons,List.mem_append] at hp
        rcases hp with rfl | rfl | rfl | rfl | rfl | rfl | rfl | hp | hp
        · exact ⟨(Dlne _ mD).1.symm,nled fun p hp=>(Dlne p (mled p hp)).1⟩
        · exact ⟨(Dlne _ mD).2.symm,nled fun p hp=>(Dlne p (mled p hp)).2⟩
        · exact ⟨dK,hfx _ (.head _)⟩
        · exact ⟨dR,hfx _ (.tail _ (.head _))⟩
        · exact ⟨dS,hfx _ (.tail _ (.tail _ (.head _)))⟩
        · exact ⟨dX,hfx _ (.tail _ (.tail _ (.tail _ (.head _))))⟩
        · exact ⟨dO,hfx _ (.tail _ (.tail _ (.tail _ (.tail _ (.head _)))))⟩
        · exact ⟨(frne p hp).1,hfx _ (.tail _ (.tail _ (.tail _ (.tail _ (.tail _ (.tail _ (List.mem_map_of_mem hp)))))))⟩
        · exact ⟨ownne p hp D (List.mem_append_right _ (.tail _ (.tail _ (.tail _ (.tail _ (.tail _ (.head _))))))),fun q=>ownne p hp _ (List.mem_append_left _ q) rfl⟩
      refine addL (s:=up s _ _) (preds:=toI (predsOf qs i)) (pv:=ys) (rm'.le (by lia)) T F10 N10' Oh10 dxh10 hod1 lo ok1 (hrest (O,instObj 196 dx) (.tail _ (.tail _ (.tail _ (.tail _ (.tail _ (.tail _ (.head _)))))))) (hrest (dx,_) (.tail _ (.tail _ (.tail _ (.tail _ (.tail _ (.head _))))))) (fun p hp e=>hfx D (.tail _ (.tail _ (.tail _ (.tail _ (.tail _ (.head _)))))) (e ▸ List.mem_map_of_mem hp)) hrest bd1 (by lia) (by lia) hys' fun h11 tk11 nd11 od11 F11 N11 hod11 ok11 ab11 fr11 fD11 ex11=>?_
      have sx:∀ p∈(Dl,W.listOf (List.toArray ys) ys.length)::(q6,methodObj (.ref 146) (.ref O))::((L+1+1),cel o2 (some (.int (i:Int) t)))::((L+1+1+1),cel o3 none)::((L+1),cel o1 (some (.ref Za)))::(dx,dictOf (sd w t1 t2 t3 t4 (.ref D) .none (.int 0 t5) (.int 0 t6)) 4)::(O,instObj 196 dx)::(frs0++own),p.1∉(led nd11).map (·.1):=fun p hp=>sep_next (N10' p (.tail _ (List.mem_append_right _ hp))).1 (hrest p hp).2 fr11
      refine wpAny_execs_nil<|Turn.next (news':=((L+1+1),cel o2 (some (.int (i:Int) t)))::((L+1+1+1),cel o3 none)::((L+1),cel o1 (some (.ref Za)))::(dx,dictOf (sd w t1 t2 t3 t4 (.ref D) .none (.int 0 t5) (.int 0 t6)) 4)::(O,instObj 196 dx)::(D,od11)::(led nd11++frs0)) F11 (news_sub N11 fun p hp=>by
          simp only [List.mem_cons,List.mem_append] at hp ⊢
          grind) (fun p hp=>?_) ⟨nd11,od11,_,rfl,hod11,ok11,?_,?_,fun a ha=>?_,mso⟩
      · obtain ⟨oI,hoI⟩:=hI
        have hIm:(h4.objs.size,oI)∈(Dl,W.listOf (List.toArray ys) ys.length)::(q6,methodObj (.ref 146) (.ref O))::((L+1+1),cel o2 (some (.int (i:Int) t)))::((L+1+1+1),cel o3 none)::((L+1),cel o1 (some (.ref Za)))::(dx,dictOf (sd w t1 t2 t3 t4 (.ref D) .none (.int 0 t5) (.int 0 t6)) 4)::(O,instObj 196 dx)::(frs0++own):=.tail _ (.tail _ (.tail _ (.tail _ (.tail _ (.tail _ (.tail _ (List.mem_append_right _ hoI)))))))
        intro e
        have e:=List.mem_singleton.mp e
        simp only [List.mem_cons,List.mem_append] at hp
        rcases hp with rfl | rfl | rfl | rfl | rfl | rfl | hp | hp
        · exact hw ((L+1+1),_) (.head _) e
        · exact hw ((L+1+1+1),_) (.tail _ (.head _)) e
        · exact hw ((L+1),_) (.tail _ (.tail _ (.head _))) e
        · exact hw (dx,_) (.tail _ (.tail _ (.tail _ (.head _)))) e
        · exact hw (O,_) (.tail _ (.tail _ (.tail _ (.tail _ (.head _))))) e
        · exact hw (D,od1) (.tail _ (.tail _ (.tail _ (.tail _ (.tail _ (.head _)))))) e
        · exact sx _ hIm (by show h4.objs.size∈_; rw [← show p.1=h4.objs.size from e]; exact List.mem_map_of_mem hp)
        · exact hw p (.tail _ (.tail _ (.tail _ (.tail _ (.tail _ (.tail _ (List.mem_append_right _ hp))))))) e
      · rw [ab11,ab1,List.take_add_one,show (List.range qs.length)[i]?=some i by simp [hi],Option.toList_some,List.foldl_append]; rfl
      · rw [ab11]
        have hpl:(toI (predsOf qs i)).length≤6:=by rw [← hys'.length]; exact hyl
        have:=bd1.addP (i:Int) (toI (predsOf qs i))
        exact ⟨fun e he=>by have:=this.ss e he; lia,by have:=this.len; lia⟩
      · simp only [List.mem_cons] at ha
        rcases ha with rfl | rfl | rfl | rfl | rfl | rfl | ha
        · exact sx ((L+1+1),_) (.tail _ (.tail _ (.head _)))
        · exact sx ((L+1+1+1),_) (.tail _ (.tail _ (.tail _ (.head _))))
        · exact sx ((L+1),_) (.tail _ (.tail _ (.tail _ (.tail _ (.head _)))))
        · exact sx (_,_) (.tail _ (.tail _ (.tail _ (.tail _ (.tail _ (.head _))))))
        · exact sx (_,_) (.tail _ (.tail _ (.tail _ (.tail _ (.tail _ (.tail _ (.head _)))))))
        · intro q
          obtain ⟨y,hy,e⟩:=List.mem_map.mp q
          exact fD11 y hy e
        · obtain ⟨y,hy,rfl⟩:=List.mem_map.mp ha
          exact sx y (.tail _ (.tail _ (.tail _ (.tail _ (.tail _ (.tail _ (.tail _ (List.mem_append_left _ hy))))))))
  · intro h5 tk5 m5 news5 F5 N5 hw5 hJ5
    obtain ⟨nd,od1,v2,rfl,hod1,ok1,ab1,bd1,hfx,mso⟩:=hJ5
    rw [List.take_of_length_le (by simp)] at ab1
    have ab1':absOf nd=roundsSt qs:=ab1
    have bd1':Bd 500 500 (roundsSt qs):=by rw [← ab1']; exact ⟨fun e he=>by have:=bd1.ss e he; lia,by have:=bd1.len; lia⟩
    have Oh5:=(N5 (O,instObj 196 dx) (.tail _ (.tail _ (.tail _ (.tail _ (.head _)))))).1
    have dxh5:=(N5 (dx,dictOf (sd w t1 t2 t3 t4 (.ref D) .none (.int 0 t5) (.int 0 t6)) 4) (.tail _ (.tail _ (.tail _ (.head _))))).1
    have N5s:News g L h5 (frs0++((O,instObj 196 dx)::(D,od1)::(dx,dictOf (sd w t1 t2 t3 t4 (.ref D) .none (.int 0 t5) (.int 0 t6)) 4)::(led nd++[((L+1+1),cel o2 v2),((L+1+1+1),cel o3 none),((L+1),cel o1 (some (.ref Za)))]))):=news_sub N5 fun p hp=>by
      simp only [List.mem_cons,List.mem_append,List.not_mem_nil,or_false] at hp ⊢
      grind
    have nodu:(O::D::dx::(led nd).map (·.1)).Nodup:=by
      simp only [List.nodup_cons,List.mem_cons,not_or]
      exact ⟨⟨dO,dxO.symm,hfx O (.tail _ (.tail _ (.tail _ (.tail _ (.head _)))))⟩,⟨dX.symm,hfx D (.tail _ (.tail _ (.tail _ (.tail _ (.tail _ (.head _))))))⟩,hfx dx (.tail _ (.tail _ (.tail _ (.head _)))),ok1.addrs⟩
    have sep5:∀ p∈[((L+1+1),cel o2 v2),((L+1+1+1),cel o3 none),((L+1),cel o1 (some (.ref Za)))]++frs0,p.1∉O::D::dx::(led nd).map (·.1):=fun p hp=>by
      simp only [List.mem_append,List.mem_cons,List.not_mem_nil,or_false] at hp
      simp only [List.mem_cons,not_or]
      rcases hp with (rfl | rfl | rfl) | hp
      · exact ⟨nK.2,dK,nK.1,hfx _ (.head _)⟩
      · exact ⟨nR.2,dR,nR.1,hfx _ (.tail _ (.head _))⟩
      · exact ⟨nS.2,dS,nS.1,hfx _ (.tail _ (.tail _ (.head _)))⟩
      · exact ⟨(frne p hp).2.2,(frne p hp).1,(frne p hp).2.1,hfx p.1 (.tail _ (.tail _ (.tail _ (.tail _ (.tail _ (.tail _ (List.mem_map_of_mem hp)))))))⟩
    have sepf5:∀ p∈[((L+1+1),cel o2 v2),((L+1+1+1),cel o3 none),((L+1),cel o1 (some (.ref Za)))],p.1∉frs0.map (·.1):=fun p hp q=>by
      obtain ⟨y,hy,e⟩:=List.mem_map.mp q
      simp only [List.mem_cons,List.not_mem_nil,or_false] at hp
      rcases hp with rfl | rfl | rfl
      · exact (cfr y hy).2.1 e
      · exact (cfr y hy).1 e
      · exact (cfr y hy).2.2 e
    refine wpAny_execs_cons<|wpAny_Expr<|methodCall_KW<|ld (s:=up s _ _) F5 mso<|methS (s:=up s _ _) T F5 Oh5 dxh5 sd_prepare (f:=151)<|callWith_K0 (K:=K w) (T.X.keeps F5.keep) (by kernel_rfl) <|
      prepL (s:=up s _ _) (rk:=rk) (nd:=nd) (frs0:=frs0) (rest:=[((L+1+1),cel o2 v2),((L+1+1+1),cel o3 none),((L+1),cel o1 (some (.ref Za)))]) (rm'.le (by lia)) (dA.frames _ hfr) (fun oL hoL=>frs_cons F5 hoL Fs (by kernel_rfl) (by kernel_rfl)) T F5 N5s hod1 lo ok1 ab1' bd1' hrk nodu sep5 sepf5 fun h6 tk6 frs6 Ra as b F6 N6 SU6 S6 sep6 _ _=>?_
    have fr6:∀ p∈frs6,p.1≠(L+1+1+1)∧p.1≠(L+1+1)∧p.1≠(L+1):=fun p hp=>by
      have:p.1∈frs0.map (·.1):=by rw [← sameUp_addr SU6]; exact List.mem_map_of_mem hp
      obtain ⟨y,hy,e⟩:=List.mem_map.mp this
      rw [← e]; exact cfr y hy
    have aK:(L+1+1)∉as:=sep6 ((L+1+1),_) (List.mem_append_left _ (.head _))
    have aR:(L+1+1+1)∉as:=sep6 ((L+1+1+1),_) (List.mem_append_left _ (.tail _ (.head _)))
    have aS:(L+1)∉as:=sep6 ((L+1),_) (List.mem_append_left _ (.tail _ (.tail _ (.head _))))
    have fra:∀ p∈frs6,p.1∉as:=fun p hp=>sep6 p (List.mem_append_right _ hp)
    refine wpAny_execs_cons<|Assign_Tuple<|Tuple_<|spliced_more<|newDict_K (s:=up s _ _) F6 N6 T.lim fun B h7 ob F7 N7 lt7 lo7 _ _ hob _=>spliced_more<|cint fun _ _=>spliced_none<|newTup (s:=tkd (up s _ _) _) F7 N7 fun tp h8 F8 N8 lt8=>assT (s:=up s _ _) rm'.handled F8 N8 (.head _) rfl fun h9 F9 N9=>?_
    have Bne:∀ p∈b++([((L+1+1),cel o2 v2),((L+1+1+1),cel o3 none),((L+1),cel o1 (some (.ref Za)))]++frs6),p.1≠B:=fun p hp=>Nat.ne_of_lt (lt7 p hp)
    have BK:(L+1+1)≠B:=Bne ((L+1+1),cel o2 v2) (List.mem_append_right _ (.head _))
    have BR:(L+1+1+1)≠B:=Bne ((L+1+1+1),cel o3 none) (List.mem_append_right _ (.tail _ (.head _)))
    have BS:(L+1)≠B:=Bne ((L+1),cel o1 (some (.ref Za))) (List.mem_append_right _ (.tail _ (.tail _ (.head _))))
    have aB:B∉as:=fun q=>by
      rw [← S6.addr] at q
      obtain ⟨y,hy,e⟩:=List.mem_map.mp q
      exact Bne y (List.mem_append_left _ hy) e
    have frB:∀ p∈frs6,p.1≠B:=fun p hp=>Bne p (List.mem_append_right _ (List.mem_append_right _ hp))
    have bas:∀ {nd st ready p f b},Srt prog w O dx D Ra nd t1 t2 t3 t4 st ready p f as b→∀ q∈b,q.1∈as:=fun S q hq=>by rw [← S.addr]; exact List.mem_map_of_mem hq
    have N9':News g L h9 (((L+1+1+1),cel o3 none)::((L+1+1),cel o2 v2)::(B,ob)::((L+1),cel o1 (some (.ref Za)))::(b++frs6)):=news_sub N9 fun p hp=>by
      simp only [List.mem_cons,List.mem_append,List.not_mem_nil,or_false] at hp ⊢
      grind
    refine wpAny_assignInOrder_more<|wpAny_assign_Name<|stC (s:=up s _ _) F9 N9' (.head fun p hp=>?_) fun h10 F10 N10=>wpAny_assignInOrder_more<|wpAny_assign_Name<|st (s:=up s _ _) F10 N10 fun h11 tk11 F11 N11=>wpAny_assignInOrder_none ?_
    · simp only [List.mem_cons,List.mem_append] at hp
      rcases hp with rfl | rfl | rfl | hp | hp
      · exact e3.symm
      · exact BR.symm
      · exact e5.symm
      · intro e; exact aR (e ▸ bas S6 p hp)
      · exact (fr6 p hp).1
    have sepW:∀ {v2:Option Value} {ob:Obj},∀ p∈((L+1+1),cel o2 v2)::(B,ob)::((L+1+1+1),cel o3 (some (.ref B)))::((L+1),cel o1 (some (.ref Za)))::frs6,p.1∉as:=fun p hp=>by
      simp only [List.mem_cons] at hp
      rcases hp with rfl | rfl | rfl | rfl | hp
      · exact aK
      · exact aB
      · exact aR
      · exact aS
      · exact fra p hp
    let Jv2:Nat→Shared→Prop:=fun fuel s'=>Ex8 fun h' tk m' nd' b' v2' ob' kvs=>Ex6 fun ready rdc turn p tt st'=>And8 (s'=up s h' tk) (Fr g L h' m') (News g L h' (b'++(((L+1+1),cel o2 v2')::(B,ob')::((L+1+1+1),cel o3 (some (.ref B)))::((L+1),cel o1 (some (.ref Za)))::frs6))) (Srt prog w O dx D Ra nd' t1 t2 t3 t4 st' ready p p as b') (ob'.IsDictOf (intKind prog w) kvs) (Kvs kvs rdc) (roundsGo fuel st' ready rdc turn=some rd) (m' "sorter"=some (.ref O)∧m' "turn"=some (.int turn tt))
    let Jv3:Shared→Prop:=fun s'=>Ex7 fun h' tk m' b' v2' ob' kvs=>And5 (s'=up s h' tk) (Fr g L h' m') (News g L h' (b'++(((L+1+1),cel o2 v2')::(B,ob')::((L+1+1+1),cel o3 (some (.ref B)))::((L+1),cel o1 (some (.ref Za)))::frs6))) (ob'.IsDictOf (intKind prog w) kvs) (Kvs kvs rd)
    refine whileN Jv2
      Jv3 ?_ 10
      ⟨h11,tk11,_,nd,b,v2,ob,[],readyP (roundsSt qs),[],0,0,_,roundsSt qs,rfl,F11,news_sub N11 (fun p hp=>by
        simp only [List.mem_cons,List.mem_append] at hp ⊢
        grind),S6,hob,.nil,hgo,?_,rfl⟩ ?_
    · intro E' fuel s' hI
      obtain ⟨h',tk,m',nd',b',v2',ob',kvs,ready,rdc,turn,p,tt,st',rfl,F',N',S',hob',hkv,hgo',ms',mt'⟩:=hI
      have hrl:ready.length≤1000:=by
        cases fuel with
        | zero=>cases hgo'
        | succ fuel =>
          unfold roundsGo at hgo'
          split at hgo'
          · rename_i e; rw [e]; simp
          · split at hgo'
            · rename_i hck
              simp only [Bool.and_eq_true,decide_eq_true_eq] at hck
              lia
            · cases hgo'
      refine wpAny_isTrue_value<|methodCall_KW<|ld (s:=up s _ _) F' ms'<|srtMeth (s:=up s _ _) (fn:=165) T F' N' S' (fun _ _ _ _=>sd_active)<|callWith_K0 (K:=K w) (T.X.keeps F'.keep) (by kernel_rfl)<|srtActive (s:=up s _ _) (rm'.le (by lia)) T F' N' S' (by lia) fun h1 tk1 F1 N1=>wpAny_truthy_bool ?_
      cases fuel with
      | zero=>cases hgo'
      | succ fuel =>
      unfold roundsGo at hgo'
      by_cases hre:ready=[]
      · subst hre
        rw [if_pos rfl] at hgo'
        cases hgo'
        first | refine ifF (by simp) ?_ | rw [if_neg (by simp)]
        exact ⟨h1,tk1,m',b',v2',ob',kvs,rfl,F1,N1,hob',hkv⟩
      rw [if_neg hre] at hgo'
      split at hgo'
      case isFalse=>cases hgo'
      rename_i hck
      simp only [Bool.and_eq_true,decide_eq_true_eq] at hck
      obtain ⟨⟨hks,hr50⟩,hd50⟩:=hck
      obtain ⟨z,hz,hgo2⟩:=Option.bind_eq_some_iff.mp hgo'
      rw [if_pos (by simp [hre])]
      refine wpAny_execs_cons<|wpAny_Assign_Name<|methodCall_KW<|ld (s:=up s _ _) F1 ms'<|srtMeth (s:=up s _ _) (fn:=158) T F1 N1 S' (fun _ _ _ _=>sd_ready)<|callWith_K0 (K:=K w) (T.X.keeps F1.keep) (by kernel_rfl)<|srtReady (s:=up s _ _) (rm'.le (by lia)) T F1 N1 S' (by lia) (fun k hk=>List.all_eq_true.mp hks k hk) sepW fun h2 tk2 tq rv nd2 b2 F2 N2 hi2 S2 htq hne2=>st (s:=up s _ _) F2 N2 fun h3 tk3 F3 N3=>?_
      have tqL:tq≠L:=(N3 _ (.head _)).2.1
      have hrv:=hi2.length
      have N3':News g L h3 (((L+1+1),cel o2 v2')::(B,ob')::((L+1+1+1),cel o3 (some (.ref B)))::((L+1),cel o1 (some (.ref Za)))::(tq,tupOf rv)::(b2++frs6)):=news_sub N3 fun p hp=>by
        simp only [List.mem_cons,List.mem_append] at hp ⊢
        grind
      have tK:tq≠(L+1+1):=fun e=>hne2 ((L+1+1),cel o2 v2') (List.mem_append_right _ (.head _)) e.symm
      have tB:tq≠B:=fun e=>hne2 (B,ob') (List.mem_append_right _ (.tail _ (.head _))) e.symm
      have hRK:∀ {ob:Obj},∀ p∈(B,ob)::((L+1+1+1),cel o3 (some (.ref B)))::((L+1),cel o1 (some (.ref Za)))::(tq,tupOf rv)::(b2++frs6),p.1≠(L+1+1):=fun p hp=>by
        simp only [List.mem_cons,List.mem_append] at hp
        rcases hp with rfl | rfl | rfl | rfl | hp | hp
        · exact BK.symm
        · exact e3
        · exact e4.symm
        · exact tK
        · intro e; exact aK (e ▸ bas S2 p hp)
        · exact (fr6 p hp).2.1
      have hRB:∀ p∈((L+1+1+1),cel o3 (some (.ref B)))::((L+1),cel o1 (some (.ref Za)))::(tq,tupOf rv)::(b2++frs6),p.1≠B:=fun p hp=>by
        simp only [List.mem_cons,List.mem_append] at hp
        rcases hp with rfl | rfl | rfl | hp | hp
        · exact BR
        · exact BS
        · exact tB
        · intro e; exact aB (e ▸ bas S2 p hp)
        · exact frB p hp
      let Jv4:Nat→(Str→Option Value)→List (Addr×Obj)→Prop:=fun i m news=>Ex3 fun v2 ob kvs=>And7 (news=((L+1+1),cel o2 v2)::(B,ob)::((L+1+1+1),cel o3 (some (.ref B)))::((L+1),cel o1 (some (.ref Za)))::(tq,tupOf rv)::(b2++frs6)) (ob.IsDictOf (intKind prog w) kvs) (Kvs kvs ((ready.take i).foldl (fun rd k=>storedI rd k turn) rdc)) (kvs.length≤50+i) (m "sorter"=some (.ref O)) (m "turn"=some (.int turn tt)) (m "ready"=some (.ref tq))
      refine wpAny_execs_cons<|wpAny_For<|ld (s:=up s _ _) F3 rfl<|forAT (s:=up s _ _) (vs:=rv) rm'.handled F3 N3' ⟨_,(N3 _ (.head _)).1,rfl,_,rfl⟩ tqL
        Jv4
        ⟨v2',ob',kvs,rfl,hob',hkv,by rw [hkv.length]; lia,ms',mt',rfl⟩ ?_ ?_
      · intro E2 i v m4 news4 h4 tk4 own hv hJ hw ho hI hc F4 N4
        obtain ⟨v2'',ob4,kv4,rfl,hob4,hkv4,hl4,ms4,mt4,mr4⟩:=hJ
        obtain ⟨k,tk',rfl,hk⟩:=ints_get hi2 hv
        have hil:i<rv.length:=(List.getElem?_eq_some_iff.mp hv).1
        have ownK:∀ p∈own,p.1≠(L+1+1)∧p.1≠B:=fun p hp=>by
          rcases List.mem_cons.mp (ho p hp) with e | e
          · exact ⟨fun e'=>hw ((L+1+1),cel o2 v2'') (.head _) (by rw [← e]; exact e'.symm),fun e'=>hw (B,ob4) (.tail _ (.head _)) (by rw [← e]; exact e'.symm)⟩
          · have e:=List.mem_singleton.mp e
            exact ⟨fun e'=>tK (by rw [← e]; exact e'),fun e'=>tB (by rw [← e]; exact e')⟩
        refine wpAny_assign_Name<|stC (s:=up s _ _) F4 N4 (.head fun p hp=>?_) fun h5 F5 N5=>?_
        · rcases List.mem_append.mp hp with q | q
          · exact hRK p q
          · exact (ownK p q).1
        refine wpAny_execs_cons<|wpAny_Assign_Subscript<|ld (s:=up s _ _) F5 mt4<|ldC (s:=up s _ _) N5 (.tail _ (.tail _ (.head _)))<|ldC (s:=up s _ _) N5 (.head _)<|dSet (s:=up s _ _) F5 N5 (.tail BK (.head fun p hp=>?_)) hob4 (by lia) fun h6 tk6 ob6 F6 N6 hob6=>?_
        · rcases List.mem_append.mp hp with q | q
          · exact hRB p q
          · exact (ownK p q).2
        have kvn:=hkv4.stored k turn tt
        refine wpAny_execs_nil<|Turn.next (news':=((L+1+1),cel o2 (some (.int k tk')))::(B,ob6)::((L+1+1+1),cel o3 (some (.ref B)))::((L+1),cel o1 (some (.ref Za)))::(tq,tupOf rv)::(b2++frs6)) F6 N6 (fun p hp=>?_) ⟨_,ob6,_,rfl,hob6,?_,?_,ms4,mt4,mr4⟩
        · simp only [List.mem_singleton]
          rcases List.mem_cons.mp hp with rfl | hp
          · exact hw ((L+1+1),cel o2 v2'') (.head _)
          rcases List.mem_cons.mp hp with rfl | hp
          · exact hw (B,ob4) (.tail _ (.head _))
          · exact hw p (.tail _ (.tail _ hp))
        · rw [foldl_take _ _ _ hk]; exact kvn
        · rw [kvn.length]
          have:=storedI_length ((ready.take i).foldl (fun rd k=>storedI rd k turn) rdc) k turn
          rw [← hkv4.length] at this
          lia
      · intro h4 tk4 m4 news4 F4 N4 hw hJ
        obtain ⟨v2'',ob4,kv4,rfl,hob4,hkv4,hl4,ms4,mt4,mr4⟩:=hJ
        rw [List.take_of_length_le (by lia)] at hkv4
        have N4':News g L h4 (b2++(((L+1+1),cel o2 v2'')::(B,ob4)::((L+1+1+1),cel o3 (some (.ref B)))::((L+1),cel o1 (some (.ref Za)))::(tq,tupOf rv)::frs6)):=news_sub N4 fun p hp=>by
          simp only [List.mem_cons,List.mem_append] at hp ⊢
          grind
        refine wpAny_execs_cons<|wpAny_Expr<|Call_sm<|ld (s:=up s _ _) F4 ms4<|srtBound (s:=up s _ _) T F4 N4' S2 fun q5 h5 tk5 F5 N5 lt5 hn5=>?_
        have q5as:q5∉as:=fun q=>by
          rw [← S2.addr] at q
          obtain ⟨y,hy,e⟩:=List.mem_map.mp q
          exact absurd (lt5 y (List.mem_append_left _ hy)) (by rw [e]; exact Nat.lt_irrefl _)
        have tqas:tq∉as:=fun q=>by
          rw [← S2.addr] at q
          obtain ⟨y,hy,e⟩:=List.mem_map.mp q
          exact hne2 y (List.mem_append_left _ hy) e
        refine callMS (w:=w) (f:=179) (self:=.ref O) (by kernel_rfl)<|ld (s:=up s _ _) F5 mr4<|starT (s:=up s _ _) F5 N5 (N5 (tq,tupOf rv) (.tail _ (List.mem_append_right _ (.tail _ (.tail _ (.tail _ (.tail _ (.head _)))))))).1 (by lia) fun h6 F6 N6 kp6=>⟨methP N6 (.head _) (T.X.keeps F6.keep),call_meth N6 (.head _) ?_⟩
        have N6':News g L h6 (b2++((q5,methodObj (.ref 179) (.ref O))::(tq,tupOf rv)::((L+1+1),cel o2 v2'')::(B,ob4)::((L+1+1+1),cel o3 (some (.ref B)))::((L+1),cel o1 (some (.ref Za)))::frs6)):=news_sub N6 fun p hp=>by
          simp only [List.mem_cons,List.mem_append] at hp ⊢
          grind
        refine srtDone (s:=up s _ _) (ks:=ready) (z':=z) (rm'.le (by lia)) T F6 N6' S2 (by simp) hi2 (by lia) hz (fun p hp=>?_) fun h7 tk7 nd7 b7 F7 N7 S7=>?_
        · rcases List.mem_cons.mp hp with rfl | hp
          · exact q5as
          rcases List.mem_cons.mp hp with rfl | hp
          · exact tqas
          · exact sepW p hp
        refine wpAny_execs_cons<|wpAny_AugAssign_Name<|ldn (s:=up s _ _) F7 mt4<|cint fun _ _=>iaddI fun tn _=>st (s:=tkd (up s _ _) _) F7 N7 fun h8 tk8 F8 N8=>wpAny_execs_nil ?_
        exact ⟨fuel,Nat.lt_succ_self _,h8,tk8,_,nd7,b7,v2'',ob4,kv4,z.2,_,turn+1,p+ready.length,tn,z.1,rfl,F8,news_sub N8 (fun p hp=>by
          simp only [List.mem_cons,List.mem_append] at hp ⊢
          grind),S7,hob4,hkv4,hgo2,ms4,rfl⟩
    · exact mso
    · intro s' hP
      obtain ⟨h',tk,m',b',v2',ob',kvs,rfl,F',N',hob',hkv⟩:=hP
      have N'':News g L h' (((L+1+1+1),cel o3 (some (.ref B)))::((L+1),cel o1 (some (.ref Za)))::(B,ob')::frs6):=news_sub N' fun p hp=>by
        simp only [List.mem_cons,List.mem_append] at hp ⊢
        grind
      refine wpAny_execs_cons<|wpAny_Return_some<|lcG (cl:=[(Str.ofString "rounds",(L+1+1+1))]) (by kernel_rfl)<|callt (id:="range") (s:=up s _ _) T F' (by kernel_rfl)<|spliced_more<|callb (id:="len") (s:=up s _ _) T F' (by kernel_rfl)<|spliced_more<|ldC (s:=up s _ _) N'' (.tail _ (.head _))<|spliced_none<|len_any (s:=up s _ _) (F'.keep _ _ hZ) (by lia) fun _ _=>spliced_none<|rangeR1 (s:=tkd (up s _ _) _) F' N'' fun r7 h7 tk7 t7 u7 v7 hr7 F7 N7=>?_
      rw [lz] at hr7
      let Jv5:Addr→Nat→List Value→(Str→Option Value)→List (Addr×Obj)→Prop:=fun _ i' ys _ news'=>news'=((L+1+1+1),cel o3 (some (.ref B)))::((L+1),cel o1 (some (.ref Za)))::(B,ob')::frs6∧IntsAre ys (((List.range qs.length).take i').map dep)
      refine srcR (s:=up s _ _) (n:=qs.length) rm'.handled F7 N7 hr7 (range_small (by lia) (by lia) (by lia) (by lia)) (range_size (.inl (by lia))) (by lia)
        Jv5 (fun C=>⟨rfl,.nil⟩) ?_ ?_
      · intro E2 j v C D8 ys m₂ news₂ h8 tk8 own2 hj hP hJ2 hw2 hav2 hcov2 F8 N8
        obtain ⟨rfl,hys⟩:=hJ2
        obtain ⟨tj,rfl⟩:=hP
        rw [Int.zero_add]
        refine wpAny_assign_Name<|st (s:=up s _ _) F8 N8 fun h9 tk9 F9 N9=>wpAny_tests_nil ?_
        obtain ⟨tv,htv⟩:=hkv.at (hrd j hj)
        first | refine ifT rfl ?_ | rw [if_pos rfl]
        refine Subscript_<|ldC (s:=up s _ _) N9 (.head _)<|ld (s:=up s _ _) F9 rfl<|dItem (s:=up s _ _) (tab_of (s:=up s _ _) (N9 (B,ob') (.tail _ (.tail _ (.head _)))).1 hob' lo7) htv fun _=>CT.mk (s:=up s _ _) F9 N9 hw2 ⟨rfl,?_⟩
        rw [List.take_add_one,show (List.range qs.length)[j]?=some j by simp [hj],Option.toList_some,List.map_append]
        exact IntsAre.snoc hys _ _
      · intro Dl C h8 tk8 m8 oC ys news8 F8 N8 hoC hJ2 hp8 hDC hDl0
        obtain ⟨rfl,hys⟩:=hJ2
        rw [List.take_of_length_le (by simp)] at hys
        refine postN (s:=up s _ _) F8 N8 hoC (fun p hp=>?_) fun h9 F9 N9=>?_
        · rcases List.mem_cons.mp hp with rfl | hp
          · exact hDC
          · exact (hp8 p hp).1
        subst hg
        refine h h9 tk8 frs6 Dl ys ys.length (ext_of_fr F9) SU6 (fun p hp=>(N9 p (.tail _ (.tail _ (.tail _ (.tail _ hp))))).1) (N9 _ (.head _)).1 hys ?_
        rcases hide_or (N9 _ (.head _)).2.2 with q | q
        · have:Dl∈frs6.map (·.1):=by rw [sameUp_addr SU6]; exact q
          obtain ⟨y,hy,e'⟩:=List.mem_map.mp this
          exact absurd e' (addr_ne hDl0 (N7 y (.tail _ (.tail _ (.tail _ hy)))).1).symm
        · exact q
theorem al0:∀ d,P1 d:=epsAll ne0 P1 (by with_unfolding_all exact bd0)
end Zrounds
end
section
variable {prog:Program} {w:World} {A:Around} {E:Value→Shared→Prop} {s:Shared} {l:List Env} {frs0:List (Addr×Obj)}
theorem rounds_call {Q:Value→Shared→Prop} {Za:Addr} {zv:List Value} {qs:List (List Nat)} {n1:Nat} {rk:Int→Nat} {rd:List (Int×Int)} {dep:Nat→Int} (rm:Room A 7) (hfr:A.frames=some l) (Fs:Frs l frs0) (hW:∀ p∈frs0,s.heap.get? p.1=some p.2) (T:Wd w (hideAll s.heap (frs0.map (·.1)))) (hZ:(hideAll s.heap (frs0.map (·.1))).get? Za=some (W.listOf zv.toArray n1)) (hq:Strs zv qs) (hn:qs.length≤6) (hqz:∀ q∈qs,q.length≤1000) (hrk:∀ e∈roundsSt qs,∀ x∈e.2.2,x∈(roundsSt qs).map (·.1)∧rk e.1<rk x) (hgo:roundsGo 10 (roundsSt qs) (readyP (roundsSt qs)) [] 0=some rd) (hrd:∀ k<qs.length,rdAt rd (k:Nat)=some (dep k)) (h:∀ h' tk' frs' D ys nn,Ext (frs0.map (·.1)) s.heap h'→SameUp frs0 frs'→(∀ p∈frs',h'.get? p.1=some p.2)→h'.get? D=some (W.listOf (List.toArray ys) nn)→IntsAre ys ((List.range qs.length).map dep)→s.heap.get? D=none→Q (.ref D) (up s h' tk')):wpAny (model prog w) A (call (.ref 255) [.ref Za]) Q E s:=by
  refine wpAny_call (enterC (W:=frs0) (binds:=[(("sents":Str),.ref Za)]) rm.le' (fn255 T.of_hide.X) T.of_hide.lim (cd255 T.of_hide.X) hW rfl (by kernel_rfl) (by kernel_rfl) (fun L=>by kernel_rfl) (fun L x hx=>by
      rw [cells255] at hx ⊢
      simp only [List.mem_cons,List.not_mem_nil,or_false] at hx
      rcases hx with rfl | rfl | rfl <;> kernel_rfl) ?_ (by kernel_rfl) (by kernel_rfl) (by kernel_rfl))
  intro L h₀ tk₀ co F N hcf A₁ R₁ E₁ dA hret hnone
  exact Zrounds.al0 (((((prog,w),A),(s,A₁)),(((l,frs0),Za),(zv,qs))),((((n1,rk),rd),(dep,L)),(((h₀,tk₀),co),(R₁,E₁)))) rm hfr Fs hW T hZ hq hn hqz hrk hgo hrd (fun x0 x1 x2 x3 x4 x5 x6 x7 x8 x9 x10 x11=>hret _ _ (h x0 x1 x2 x3 x4 x5 x6 x7 x8 x9 x10 x11)) F N hcf dA
end
end
section
noncomputable def headsIn (dp:List Int) (p i:Nat):List Nat:=((List.range p).take i).filter fun j=>dp.getD j 0==dp.getD p 0 - 1
noncomputable def headOf (dp:List Int) (p:Nat):List Nat:=(headsIn dp p p).drop ((headsIn dp p p).length - 1)
noncomputable def toldP (dp:List Int):List (Int×List Int):=(List.range dp.length).map fun (p:Nat)=>((p:Int),toI (headOf dp p))
theorem toI_length (l:List Nat):(toI l).length=l.length:=by simp [toI]
theorem IntsAre.drop {vs:List Value} {ns:List Int} (h:IntsAre vs ns):∀ k,IntsAre (vs.drop k) (ns.drop k):=by
  induction h with
  | nil=>intro k; simp; exact .nil
  | cons a t h ih =>
    intro k
    cases k with
    | zero=>exact .cons a t h
    | succ k=>exact ih k
theorem IntsAre.getI {vs:List Value} {ns:List Int} (h:IntsAre vs ns) {i:Nat} {k:Int} (hk:ns[i]?=some k):∃ t,vs[i]?=some (.int k t):=by
  induction h generalizing i with
  | nil=>simp at hk
  | cons a t h ih =>
    cases i with
    | zero=>simp at hk; subst hk; exact ⟨t,rfl⟩
    | succ i=>exact ih (by simpa using hk)
theorem headOf_len (dp:List Int) (p:Nat):(headOf dp p).length≤1:=by unfold headOf; rw [List.length_drop]; lia
theorem headsIn_len (dp:List Int) (p i:Nat):(headsIn dp p i).length≤p:=by
  unfold headsIn
  refine Nat.le_trans (List.length_filter_le _ _) ?_
  rw [List.length_take,List.length_range]; lia
noncomputable abbrev tk_ (hl:List (Addr×List Value)):List (Int×Value):=hl.mapIdx fun j e=>((j:Int),.ref e.1)
noncomputable abbrev tl_ (hl:List (Addr×List Value)):List (Addr×Obj):=hl.map fun e=>(e.1,W.listOf e.2.toArray 0)
section
variable {prog:Program} {w:World} {A:Around} {E:Value→Shared→Prop} {s:Shared}
theorem cells260 (w:World) (L:Addr):cellsFrom (L+1) (fd260 w).scope.names []=[(Str.ofString "place",L+1+1+1),(Str.ofString "rounds",L+1+1),(Str.ofString "order",L+1)]:=by kernel_rfl
end
noncomputable section
namespace Ztold
abbrev D0:=(((((Program)×(World))×(Around))×((Shared)×(Around)))×((((Addr)×(Addr))×(List Value))×((List Value)×(List Nat))))×(((((List Int)×(List Int))×(Nat))×((Nat)×(Addr)))×((((Heap)×(Nat))×(Addr→Obj))×((Flow→Shared→Prop)×(Value→Shared→Prop))))
abbrev P0 (prog:Program) (w:World) (A:Around) (s:Shared) (A₁:Around) (Oa Da:Addr) (ov rv:List Value) (ord:List Nat) (dep dp:List Int) (n1 n2:Nat) (L:Addr) (h₀:Heap) (tk₀:Nat) (co:Addr→Obj) (R₁:Flow→Shared→Prop) (E₁:Value→Shared→Prop):Prop:=∀ (rm:Room A 2) (T:Wd w s.heap) (hO:s.heap.get? Oa=some (W.listOf ov.toArray n1)) (hR:s.heap.get? Da=some (W.listOf rv.toArray n2)) (ho:IntsAre ov (toI ord)) (hr:IntsAre rv dep) (hn:ord.length≤6) (hdl:dp.length=ord.length) (hdp:∀ j,j<ord.length→dep[ord.getD j 0]?=some (dp.getD j 0)) (hob:∀ j∈ord,j<1000) (h:∀ h' tk' G kvs,Ext [] s.heap h'→(∀ W:List Addr,(∀ a∈W,s.heap.get? a≠none)→GrAt prog w (hideAll h' W) G kvs (toldP dp))→s.heap.get? G=none→R₁ (.ret (.ref G)) (up s h' tk')) (F:Fr (hideAll s.heap (([]:List (Addr×Obj)).map (·.1))) L h₀ (bindL (callEnvC (fd260 w) L 260).kindOf ([(("order":Str),.ref Oa),(("rounds":Str),.ref Da)]) fun _=>none)) (N:News (hideAll s.heap (([]:List (Addr×Obj)).map (·.1))) L h₀ ((cellsFrom (L+1) (fd260 w).scope.names []).map (fun x=>(x.2,cel (co x.2) (bindC (callEnvC (fd260 w) L 260).kindOf ([(("order":Str),.ref Oa),(("rounds":Str),.ref Da)]) (fun _=>none) x.1)))++[])) (hcf:∀ x∈cellsFrom (L+1) (fd260 w).scope.names [],s.heap.get? x.2=none) (dA:Deeper A A₁ (callEnvC (fd260 w) L 260)),wpAny (model prog w) A₁ (execs (stm (fd260 w)) (callEnvC (fd260 w) L 260)) R₁ E₁ (up s h₀ tk₀)
abbrev P1 (d:D0):=P0 d.1.1.1.1.1 d.1.1.1.1.2 d.1.1.1.2 d.1.1.2.1 d.1.1.2.2 d.1.2.1.1.1 d.1.2.1.1.2 d.1.2.1.2 d.1.2.2.1 d.1.2.2.2 d.2.1.1.1.1 d.2.1.1.1.2 d.2.1.1.2 d.2.1.2.1 d.2.1.2.2 d.2.2.1.1.1 d.2.2.1.1.2 d.2.2.1.2 d.2.2.2.1 d.2.2.2.2
theorem ne0:Nonempty D0:=⟨(((((Challenge.pw_ny0293_01,Classical.choice neW),callerA),(Classical.choice neS,callerA)),default),default)⟩
@[irreducible] def d0:D0:=@Classical.epsilon D0 ne0 fun d=>¬ P1 d
def prog:=d0.1.1.1.1.1
def w:=d0.1.1.1.1.2
def A:=d0.1.1.1.2
def s:=d0.1.1.2.1
def A₁:=d0.1.1.2.2
def Oa:=d0.1.2.1.1.1
def Da:=d0.1.2.1.1.2
def ov:=d0.1.2.1.2
def rv:=d0.1.2.2.1
def ord:=d0.1.2.2.2
def dep:=d0.2.1.1.1.1
def dp:=d0.2.1.1.1.2
def n1:=d0.2.1.1.2
def n2:=d0.2.1.2.1
def L:=d0.2.1.2.2
def h₀:=d0.2.2.1.1.1
def tk₀:=d0.2.2.1.1.2
def co:=d0.2.2.1.2
def R₁:=d0.2.2.2.1
def E₁:=d0.2.2.2.2
theorem bd0 : P0 prog w A s A₁ Oa Da ov rv ord dep dp n1 n2 L h₀ tk₀ co R₁ E₁ := by
  intro rm T hO hR ho hr hn hdl hdp hob h F N hcf dA
  refine with_stm (P:=fun b=>wpAny (model prog w) A₁ (execs b (callEnvC (fd260 w) L 260)) R₁ E₁ (up s h₀ tk₀)) rfl ?_
  show wpAny _ _ (execs (_::_) _) _ _ _
  have rm':=dA.room rm
  rw [cells260] at N hcf
  change News s.heap L h₀ [((L+1+1+1),cel (co (L+1+1+1)) none),((L+1+1),cel (co (L+1+1)) (some (.ref Da))),((L+1),cel (co (L+1)) (some (.ref Oa)))] at N
  change Fr s.heap L h₀ _ at F
  generalize co (L+1+1+1)=o3 at N
  generalize co (L+1+1)=o2 at N
  generalize co (L+1)=o1 at N
  have e3:L+1+1+1≠L+1+1:=Nat.ne_of_gt (Nat.lt_succ_self _)
  have e4:L+1+1≠L+1:=Nat.ne_of_gt (Nat.lt_succ_self _)
  have e5:L+1+1+1≠L+1:=Nat.ne_of_gt (Nat.lt_trans (Nat.lt_succ_self _) (Nat.lt_succ_self _))
  have lo:=ho.length
  rw [toI_length] at lo
  try show wpAny _ _ _ _ _ (up s _ _)
  refine wpAny_execs_cons<|wpAny_Assign_Name<|newDict_K F N T.lim fun D h1 od F1 N1 lt1 lo1 _ _ hod _=>st (s:=up _ _ _) F1 N1 fun h2 tk2 F2 N2=>?_
  have D3:(L+1+1+1)≠D:=Nat.ne_of_lt (lt1 _ (.head _))
  have D2:(L+1+1)≠D:=Nat.ne_of_lt (lt1 _ (.tail _ (.head _)))
  have D1:(L+1)≠D:=Nat.ne_of_lt (lt1 _ (.tail _ (.tail _ (.head _))))
  have N2':News s.heap L h2 (((L+1+1+1),cel o3 none)::(D,od)::((L+1+1),cel o2 (some (.ref Da)))::((L+1),cel o1 (some (.ref Oa)))::tl_ []):=news_sub N2 fun p hp=>by
    simp only [List.map_nil,List.mem_cons,List.not_mem_nil,or_false] at hp ⊢
    grind
  try show wpAny _ _ _ _ _ (up s _ _)
  refine wpAny_execs_cons<|wpAny_For<|callt (id:="range") (s:=up _ _ _) T F2 (by kernel_rfl)<|spliced_more<|callb (id:="len") (s:=up _ _ _) T F2 (by kernel_rfl)<|spliced_more<|ldC (s:=up _ _ _) N2' (.tail _ (.tail _ (.tail _ (.head _))))<|spliced_none<|len_any (s:=up _ _ _) (F2.keep _ _ hO) (by lia) fun _ _=>spliced_none<|rangeR1 (s:=tkd _ _) F2 N2' fun r4 h4 tk4 t4' u4 v4 hr4 F4 N4=>?_
  rw [lo] at hr4
  let Jv0:Nat→(Str→Option Value)→List (Addr×Obj)→Prop:=fun i m news=>Ex3 fun hl od pv=>And6 (news=((L+1+1+1),cel o3 pv)::(D,od)::((L+1+1),cel o2 (some (.ref Da)))::((L+1),cel o1 (some (.ref Oa)))::tl_ hl) (od.IsDictOf (intKind prog w) (tk_ hl)) (hl.length=i) ((∀ j e,hl[j]?=some e→IntsAre e.2 (toI (headOf dp j)))) ((∀ e∈hl,e.1≠(L+1+1+1)∧e.1≠D)) (m "heads"=some (.ref D))
  refine forAR (s:=up _ _ _) (n:=ord.length) rm'.handled F4 N4 hr4 (range_small (by lia) (by lia) (by lia) (by lia)) (range_size (.inl (by lia)))
    Jv0
    ⟨[],od,none,rfl,hod,rfl,fun j e he=>(by simp at he),fun e he=>(by simp at he),rfl⟩ ?_ ?_
  · intro E' i t m₁ news₁ h₁ tk₁ own hi hJ hw hown hI F₁ N₁
    obtain ⟨hl,od1,pv,rfl,hod1,hli,hhl,hne,mh⟩:=hJ
    rw [Int.zero_add]
    have ownne:∀ p∈own,p.1≠(L+1+1+1)∧p.1≠D:=fun p hp=>⟨fun e=>hw ((L+1+1+1),cel o3 pv) (.head _) (by rw [← hown p hp]; exact e.symm),fun e=>hw (D,od1) (.tail _ (.head _)) (by rw [← hown p hp]; exact e.symm)⟩
    refine wpAny_assign_Name<|stC (s:=up _ _ _) F₁ N₁ (.head fun p hp=>?_) fun h5 F5 N5=>?_
    · rcases List.mem_append.mp hp with q | q
      · simp only [List.mem_cons] at q
        rcases q with rfl | rfl | rfl | q
        · exact D3.symm
        · exact e3.symm
        · exact e5.symm
        · obtain ⟨e,he,rfl⟩:=List.mem_map.mp q; exact (hne e he).1
      · exact (ownne p q).1
    try show wpAny _ _ _ _ _ (up s _ _)
    refine wpAny_execs_cons<|wpAny_Assign_Subscript<|Subscript_<|lcG (cl:=[(Str.ofString "rounds",(L+1+1)),(Str.ofString "place",(L+1+1+1)),(Str.ofString "order",(L+1))]) (by kernel_rfl)<|callt (id:="range") (s:=up _ _ _) T F5 (by kernel_rfl)<|spliced_more<|ldC (s:=up _ _ _) N5 (.head _)<|spliced_none<|rangeR1 (s:=up _ _ _) F5 N5 fun r7 h7 tk7 t7 u7 v7 hr7 F7 N7=>?_
    let Jv1:Addr→Nat→List Value→(Str→Option Value)→List (Addr×Obj)→Prop:=fun _ i' ys _ news'=>news'=(((L+1+1+1),cel o3 (some (.int (i:Int) t)))::(D,od1)::((L+1+1),cel o2 (some (.ref Da)))::((L+1),cel o1 (some (.ref Oa)))::tl_ hl)++own∧IntsAre ys (toI (headsIn dp i i'))
    refine srcR (s:=up _ _ _) (n:=i) rm'.handled F7 N7 hr7 (range_small (by lia) (by lia) (by lia) (by lia)) (range_size (.inl (by lia))) (by lia)
      Jv1 (fun C=>⟨rfl,.nil⟩) ?_ ?_
    · intro E2 j v C D8 ys m₂ news₂ h8 tk8 own2 hj hP hJ2 hw2 hav2 hcov2 F8 N8
      obtain ⟨rfl,hys⟩:=hJ2
      obtain ⟨tj,rfl⟩:=hP
      rw [Int.zero_add]
      have og:∀ k,k<ord.length→∃ t1 t2,ov[k]?=some (.int (ord.getD k 0:Nat) t1)∧rv[ord.getD k 0]?=some (.int (dp.getD k 0) t2)∧ord.getD k 0<1000:=fun k hk=>by
        have hk':(toI ord)[k]?=some ((ord.getD k 0:Nat):Int):=by
          unfold toI
          rw [List.getElem?_map,List.getD_eq_getElem?_getD,List.getElem?_eq_getElem hk]
          rfl
        obtain ⟨t1,h1⟩:=IntsAre.getI ho hk'
        obtain ⟨t2,h2⟩:=IntsAre.getI hr (hdp k hk)
        refine ⟨t1,t2,h1,h2,hob _ ?_⟩
        rw [List.getD_eq_getElem?_getD,List.getElem?_eq_getElem hk]
        exact List.getElem_mem hk
      obtain ⟨a1,a2,ha1,ha2,ha3⟩:=og j (by lia)
      obtain ⟨b1,b2,hb1,hb2,hb3⟩:=og i hi
      refine wpAny_assign_Name<|st (s:=up _ _ _) F8 N8 fun h9 tk9 F9 N9=>wpAny_tests_one<|wpAny_isTrue_Compare1<|Subscript_<|ldC (s:=up _ _ _) N9 (.tail _ (.tail _ (.head _)))<|Subscript_<|ldC (s:=up _ _ _) N9 (.tail _ (.tail _ (.tail _ (.head _))))<|ld (s:=up _ _ _) F9 rfl<|itL (s:=up _ _ _) (vs:=ov) ⟨_,F9.keep _ _ hO,rfl,_,rfl⟩ (by lia) (by lia) (by rw [Int.toNat_natCast]; exact ha1)<|itL (s:=up _ _ _) (vs:=rv) ⟨_,F9.keep _ _ hR,rfl,_,rfl⟩ (by lia) (by lia) (by rw [Int.toNat_natCast]; exact ha2) <|
        wpAny_BinOp<|Subscript_<|ldC (s:=up _ _ _) N9 (.tail _ (.tail _ (.head _)))<|Subscript_<|ldC (s:=up _ _ _) N9 (.tail _ (.tail _ (.tail _ (.head _))))<|ldC (s:=up _ _ _) N9 (.head _)<|itL (s:=up _ _ _) (vs:=ov) ⟨_,F9.keep _ _ hO,rfl,_,rfl⟩ (by lia) (by lia) (by rw [Int.toNat_natCast]; exact hb1)<|itL (s:=up _ _ _) (vs:=rv) ⟨_,F9.keep _ _ hR,rfl,_,rfl⟩ (by lia) (by lia) (by rw [Int.toNat_natCast]; exact hb2) <|
        cint fun _ _=>sub_int fun _ _=>eq_int<|wpAny_truthy_bool ?_
      have htk:=filter_snoc (fun j=>dp.getD j 0==dp.getD i 0 - 1) hj
      cases hpr:(dp.getD j 0==dp.getD i 0 - 1) with
      | false =>
        first | refine ifF (by simp) ?_ | rw [if_neg (by simp)]
        refine CT.mk (s:=tkd _ _) F9 N9 hw2 ⟨rfl,?_⟩
        unfold headsIn
        rw [htk,hpr,if_neg (by simp),List.append_nil]; exact hys
      | true =>
        first | refine ifT rfl ?_ | rw [if_pos rfl]
        refine ld (s:=tkd _ _) F9 rfl<|CT.mk (s:=tkd _ _) F9 N9 hw2 ⟨rfl,?_⟩
        unfold headsIn
        rw [htk,hpr,if_pos (by simp)]
        exact IntsAre.snoc hys _ _
    · intro Dl C h8 tk8 m8 oC ys news8 F8 N8 hoC hJ2 hp8 hDC hDl0
      obtain ⟨rfl,hys⟩:=hJ2
      refine postN (s:=up _ _ _) F8 N8 hoC (fun p hp=>?_) fun h9 F9 N9=>?_
      · rcases List.mem_cons.mp hp with rfl | hp
        · exact hDC
        · exact (hp8 p hp).1
      have hyl:ys.length≤6:=by
        rw [hys.length,toI_length]
        have:=headsIn_len dp i i
        lia
      refine wpAny_Slice<|wpAny_evalPart_some<|wpAny_UnaryOp<|cint fun _ _=>neg_int fun _ _=>wpAny_evalPart_none<|wpAny_evalPart_none<|slcLlast (s:=tkd _ _) (vs:=ys) F9 N9 ⟨_,(N9 _ (.head _)).1,rfl,_,rfl⟩ (by lia) fun Dm h10 F10 N10 lt10 hDm=>?_
      have mDm:∀ p∈(((L+1+1+1),cel o3 (some (.int (i:Int) t)))::(D,od1)::((L+1+1),cel o2 (some (.ref Da)))::((L+1),cel o1 (some (.ref Oa)))::tl_ hl)++own,p.1≠Dm:=fun p hp=>Nat.ne_of_lt (lt10 p (.tail _ hp))
      have N10':News s.heap L h10 (((L+1+1+1),cel o3 (some (.int (i:Int) t)))::(D,od1)::((L+1+1),cel o2 (some (.ref Da)))::((L+1),cel o1 (some (.ref Oa)))::(tl_ (hl++[(Dm,ys.drop (ys.length - 1))])++own)):=news_sub N10 fun p hp=>by
        simp only [tl_,List.map_append,List.map_cons,List.map_nil,List.mem_cons,List.mem_append,List.not_mem_nil,or_false] at hp ⊢
        grind
      have hlen:(tk_ hl).length=i:=by simp [hli]
      refine ld (s:=up _ _ _) F10 mh<|ldC (s:=up _ _ _) N10' (.head _)<|dSet (s:=up _ _ _) F10 N10' (.tail D3 (.head fun p hp=>?_)) hod1 (by lia) fun h11 tk11 od11 F11 N11 hod11=>?_
      · simp only [tl_,List.map_append,List.map_cons,List.map_nil,List.mem_cons,List.mem_append,List.not_mem_nil,or_false] at hp
        rcases hp with rfl | rfl | (hp | rfl) | hp
        · exact D2
        · exact D1
        · obtain ⟨e,he,rfl⟩:=List.mem_map.mp hp; exact (hne e he).2
        · exact (mDm (D,od1) (.tail _ (.head _))).symm
        · exact (ownne p hp).2
      have kvn:stored (tk_ hl) (i:Int) (.ref Dm)=tk_ (hl++[(Dm,ys.drop (ys.length - 1))]):=by
        rw [stored_new]
        · simp only [tk_,List.mapIdx_append,List.mapIdx_cons,List.mapIdx_nil,hli]
          simp
        · intro q
          obtain ⟨y,hy,e⟩:=List.mem_map.mp q
          obtain ⟨j,hj,e2⟩:=List.mem_mapIdx.mp hy
          rw [← e2] at e
          simp only at e
          lia
      rw [kvn] at hod11
      refine wpAny_execs_nil<|Turn.next (news':=((L+1+1+1),cel o3 (some (.int (i:Int) t)))::(D,od11)::((L+1+1),cel o2 (some (.ref Da)))::((L+1),cel o1 (some (.ref Oa)))::tl_ (hl++[(Dm,ys.drop (ys.length - 1))])) F11 N11 (fun p hp=>?_) ⟨_,od11,_,rfl,hod11,by simp [hli],fun j e he=>?_,fun e he=>?_,mh⟩
      · intro q
        have q:=List.mem_singleton.mp q
        obtain ⟨oI,hoI⟩:=hI
        simp only [tl_,List.map_append,List.map_cons,List.map_nil,List.mem_cons,List.mem_append,List.not_mem_nil,or_false] at hp
        rcases hp with rfl | rfl | rfl | rfl | hp | rfl
        · exact hw ((L+1+1+1),cel o3 pv) (.head _) q
        · exact hw (D,od1) (.tail _ (.head _)) q
        · exact hw ((L+1+1),_) (.tail _ (.tail _ (.head _))) q
        · exact hw ((L+1),_) (.tail _ (.tail _ (.tail _ (.head _)))) q
        · exact hw p (.tail _ (.tail _ (.tail _ (.tail _ hp)))) q
        · exact mDm (_,oI) (List.mem_append_right _ hoI) q.symm
      · rcases Nat.lt_or_ge j hl.length with hjl | hjl
        · rw [List.getElem?_append_left hjl] at he; exact hhl j e he
        · rw [List.getElem?_append_right hjl] at he
          obtain ⟨hj0,e2⟩:j - hl.length=0∧(Dm,ys.drop (ys.length - 1))=e:=by
            cases hq:j - hl.length with
            | zero=>rw [hq] at he; simpa using he
            | succ k=>rw [hq] at he; simp at he
          subst e2
          have hji:j=i:=by lia
          subst hji
          have:=IntsAre.drop hys (ys.length - 1)
          rw [hys.length,toI_length] at this
          have e6:toI (headOf dp j)=(toI (headsIn dp j j)).drop ((headsIn dp j j).length - 1):=by
            unfold headOf toI
            rw [List.map_drop]
          rw [e6]
          simp only
          rw [hys.length,toI_length]
          exact this
      · rcases List.mem_append.mp he with he | he
        · exact hne e he
        · rw [List.mem_singleton] at he; subst he
          exact ⟨(mDm ((L+1+1+1),_) (.head _)).symm,(mDm (D,od1) (.tail _ (.head _))).symm⟩
  · intro h5 tk5 m5 news5 F5 N5 hw5 hJ5
    obtain ⟨hl,od1,pv,rfl,hod1,hli,hhl,hne,mh⟩:=hJ5
    try show wpAny _ _ _ _ _ (up s _ _)
    refine wpAny_execs_cons<|wpAny_Return_some<|ld (s:=up _ _ _) F5 mh ?_
    have fresh:∀ p∈((L+1+1+1),cel o3 pv)::(D,od1)::((L+1+1),cel o2 (some (.ref Da)))::((L+1),cel o1 (some (.ref Oa)))::tl_ hl,s.heap.get? p.1=none:=fun p hp=>(N5 p hp).2.2
    refine h h5 tk5 D (tk_ hl) (ext_of_fr (W:=[]) F5) (fun Wa hW=>?_) (fresh (D,od1) (.tail _ (.head _)))
    have nW:∀ {a:Addr},s.heap.get? a=none→a∉Wa:=fun ha q=>hW _ q ha
    refine ⟨Heap.dictOf_iff.mpr ⟨od1,hideAll_get _ (N5 (D,od1) (.tail _ (.head _))).1 (nW (fresh (D,od1) (.tail _ (.head _)))),hod1⟩,lo1,by simp [toldP,hli,hdl],fun j k x hj=>?_⟩
    have hj':=hj
    rw [List.getElem?_mapIdx] at hj'
    obtain ⟨e,he,e2⟩:=Option.map_eq_some_iff.mp hj'
    cases e2
    have hm:(e.1,W.listOf e.2.toArray 0)∈((L+1+1+1),cel o3 pv)::(D,od1)::((L+1+1),cel o2 (some (.ref Da)))::((L+1),cel o1 (some (.ref Oa)))::tl_ hl:=.tail _ (.tail _ (.tail _ (.tail _ (List.mem_map_of_mem (f:=fun e:Addr×List Value=>(e.1,W.listOf e.2.toArray 0)) (List.mem_of_getElem? he)))))
    refine ⟨e.1,e.2,toI (headOf dp j),0,rfl,hideAll_get _ (N5 _ hm).1 (nW (fresh _ hm)),hhl j e he,?_,?_⟩
    · have hjl:=(List.getElem?_eq_some_iff.mp he).1
      unfold toldP
      rw [List.getElem?_map,List.getElem?_range (by lia)]
      rfl
    · rw [toI_length]; have:=headOf_len dp j; lia
theorem al0:∀ d,P1 d:=epsAll ne0 P1 (by with_unfolding_all exact bd0)
end Ztold
end
section
variable {prog:Program} {w:World} {A:Around} {E:Value→Shared→Prop} {s:Shared}
theorem told_call {Q:Value→Shared→Prop} {Oa Da:Addr} {ov rv:List Value} {ord:List Nat} {dep dp:List Int} {n1 n2:Nat} (rm:Room A 2) (T:Wd w s.heap) (hO:s.heap.get? Oa=some (W.listOf ov.toArray n1)) (hR:s.heap.get? Da=some (W.listOf rv.toArray n2)) (ho:IntsAre ov (toI ord)) (hr:IntsAre rv dep) (hn:ord.length≤6) (hdl:dp.length=ord.length) (hdp:∀ j,j<ord.length→dep[ord.getD j 0]?=some (dp.getD j 0)) (hob:∀ j∈ord,j<1000) (h:∀ h' tk' G kvs,Ext [] s.heap h'→(∀ W:List Addr,(∀ a∈W,s.heap.get? a≠none)→GrAt prog w (hideAll h' W) G kvs (toldP dp))→s.heap.get? G=none→Q (.ref G) (up s h' tk')):wpAny (model prog w) A (call (.ref 260) [.ref Oa,.ref Da]) Q E s:=by
  refine wpAny_call (enterC (W:=[]) (binds:=[(("order":Str),.ref Oa),(("rounds":Str),.ref Da)]) rm.le' (fn260 T.X) T.lim (cd260 T.X) (fun p hp=>nomatch hp) rfl (by kernel_rfl) (by kernel_rfl) (fun L=>by kernel_rfl) (fun L x hx=>by
      rw [cells260] at hx ⊢
      simp only [List.mem_cons,List.not_mem_nil,or_false] at hx
      rcases hx with rfl | rfl | rfl <;> kernel_rfl) ?_ (by kernel_rfl) (by kernel_rfl) (by kernel_rfl))
  intro L h₀ tk₀ co F N hcf A₁ R₁ E₁ dA hret hnone
  exact Ztold.al0 (((((prog,w),A),(s,A₁)),(((Oa,Da),ov),(rv,ord))),((((dep,dp),n1),(n2,L)),(((h₀,tk₀),co),(R₁,E₁)))) rm T hO hR ho hr hn hdl hdp hob (fun x0 x1 x2 x3 x4 x5 x6=>hret _ _ (h x0 x1 x2 x3 x4 x5 x6)) F N hcf dA
end
end
section
open PyProof.Rows.TI (Frs SameUp)
noncomputable def ltN (i j:Nat):Bool:=decide (j<i)
noncomputable def valT (τ:Nat→Tok) (i:Nat):Value:=.int (-(i:Int)) (τ i)
noncomputable def push1 (q:List Nat) (k:Int):Option (List Nat):=if (decide (0≤k) && decide (k<50) && !q.contains k.toNat && q.all (fun i=>decide (i<50)) && decide (q.length<50))=true then some (siftdown ltN (q++[k.toNat]) 0 q.length) else none
noncomputable def pushAll:List Nat→List Int→Option (List Nat)
  | q,[]=>some q
  | q,k::ks=>(push1 q k).bind fun q'=>pushAll q' ks
noncomputable def lastGo:Nat→List AN→List Int→List Nat→Int→Int→List Nat→Option (List Nat)
  | 0,_,_,_,_,_,_=>none
  | fu+1,st,ready,q,p,f,ws=>if (decide (f<p) || !ready.isEmpty)=false then some ws else
      if (ready.all (fun k=>st.any fun e=>e.1==k) && decide (ready.length≤50))=true then
        (pushAll q ready).bind fun q1=>if (q1.all (fun i=>decide (i<50)) && decide (q1.length<50) && !q1.isEmpty && decide (ws.length<50))=true then
          let z:=heappopF ltN q1.dropLast (q1.getLastD 0)
          (doneP (outP st ready,[]) [(z.1:Int)]).bind fun y=>lastGo fu y.1 y.2 z.2 (p+ready.length) (f+1) (ws++[z.1]) else none
      else none
theorem cmpT (g:Heap) (n:Nat) (τ:Nat→Tok):Cmp g n (valT τ) ltN:=fun prog w A E s Q i j _ _ _ _ hq=>by
  refine lt_int ?_
  rwa [show decide (-(i:Int) < -(j:Int))=ltN i j by unfold ltN; congr 1; rw [Int.neg_lt_neg_iff]; exact propext (by lia)]
theorem GrAt.keeps {prog:Program} {w:World} {g g':Heap} {G:Addr} {kvs:List (Int×Value)} {gr:List (Int×List Int)} (h:GrAt prog w g G kvs gr) (hk:∀ b o,g.get? b=some o→g'.get? b=some o):GrAt prog w g' G kvs gr :=
  ⟨h.1.keep hk,h.2.1,h.2.2.1,fun i k x e=>let ⟨l,vs,ns,n,a,b,c⟩:=h.2.2.2 i k x e; ⟨l,vs,ns,n,a,hk _ _ b,c⟩⟩
theorem val_upd (τ:Nat→Tok) (q:List Nat) (p:Nat) (t:Tok) (h:p∉q):q.map (valT τ)=q.map (valT fun j=>if j=p then t else τ j) :=
  List.map_congr_left fun j hj=>by
    have e:j≠p:=fun e=>h (e ▸ hj)
    unfold valT
    simp [e]
section
variable {prog:Program} {w:World} {A:Around} {E:Value→Shared→Prop} {s:Shared} {l:List Env} {frs0:List (Addr×Obj)}
end
noncomputable section
namespace Zlast
abbrev D0:=(((((Program)×(World))×(Around))×((Shared)×(Around)))×(((List Env)×(List (Addr×Obj)))×((Addr)×(List (Int×Value)))))×((((List (Int×List Int))×(Int→Nat))×((List Nat)×(Addr)))×(((Heap)×(Nat))×((Flow→Shared→Prop)×(Value→Shared→Prop))))
abbrev P0 (prog:Program) (w:World) (A:Around) (s:Shared) (A₁:Around) (l:List Env) (frs0:List (Addr×Obj)) (G:Addr) (kvs:List (Int×Value)) (gr:List (Int×List Int)) (rk:Int→Nat) (ws:List Nat) (L:Addr) (h₀:Heap) (tk₀:Nat) (R₁:Flow→Shared→Prop) (E₁:Value→Shared→Prop):Prop:=∀ (rm:Room A 8) (hfr:A.frames=some l) (Fs:Frs l frs0) (hW:∀ p∈frs0,s.heap.get? p.1=some p.2) (T:Wd w (hideAll s.heap (frs0.map (·.1)))) (hG:GrAt prog w (hideAll s.heap (frs0.map (·.1))) G kvs gr) (hgz:gr.length≤20) (bd:Bd 500 500 (initP gr)) (hrk:∀ e∈initP gr,∀ x∈e.2.2,x∈(initP gr).map (·.1)∧rk e.1<rk x) (hgo:lastGo 20 (initP gr) (readyP (initP gr)) [] 0 0 []=some ws) (h:∀ h' tk' frs' D ys nn,Ext (frs0.map (·.1)) s.heap h'→SameUp frs0 frs'→(∀ p∈frs',h'.get? p.1=some p.2)→h'.get? D=some (W.listOf (List.toArray ys) nn)→IntsAre ys (toI ws)→s.heap.get? D=none→R₁ (.ret (.ref D)) (up s h' tk')) (hL:L=s.heap.objs.size) (F:Fr (hideAll s.heap ((frs0:List (Addr×Obj)).map (·.1))) L h₀ (fun y9=>([(("heads":Str),.ref G)]:List (Str×Value)).reverse.lookup y9)) (N:News (hideAll s.heap ((frs0:List (Addr×Obj)).map (·.1))) L h₀ (frs0)) (dA:Deeper A A₁ (callEnv (fd267 w) L 267)),wpAny (model prog w) A₁ (execs (stm (fd267 w)) (callEnv (fd267 w) L 267)) R₁ E₁ (up s h₀ tk₀)
abbrev P1 (d:D0):=P0 d.1.1.1.1.1 d.1.1.1.1.2 d.1.1.1.2 d.1.1.2.1 d.1.1.2.2 d.1.2.1.1 d.1.2.1.2 d.1.2.2.1 d.1.2.2.2 d.2.1.1.1 d.2.1.1.2 d.2.1.2.1 d.2.1.2.2 d.2.2.1.1 d.2.2.1.2 d.2.2.2.1 d.2.2.2.2
theorem ne0:Nonempty D0:=⟨(((((Challenge.pw_ny0293_01,Classical.choice neW),callerA),(Classical.choice neS,callerA)),default),default)⟩
@[irreducible] def d0:D0:=@Classical.epsilon D0 ne0 fun d=>¬ P1 d
def prog:=d0.1.1.1.1.1
def w:=d0.1.1.1.1.2
def A:=d0.1.1.1.2
def s:=d0.1.1.2.1
def A₁:=d0.1.1.2.2
def l:=d0.1.2.1.1
def frs0:=d0.1.2.1.2
def G:=d0.1.2.2.1
def kvs:=d0.1.2.2.2
def gr:=d0.2.1.1.1
def rk:=d0.2.1.1.2
def ws:=d0.2.1.2.1
def L:=d0.2.1.2.2
def h₀:=d0.2.2.1.1
def tk₀:=d0.2.2.1.2
def R₁:=d0.2.2.2.1
def E₁:=d0.2.2.2.2
theorem bd0:P0 prog w A s A₁ l frs0 G kvs gr rk ws L h₀ tk₀ R₁ E₁:=by
  intro rm hfr Fs hW T hG hgz bd hrk hgo h hL F N dA
  refine with_stm (P:=fun b=>wpAny (model prog w) A₁ (execs b (callEnv (fd267 w) L 267)) R₁ E₁ (up s h₀ tk₀)) rfl ?_
  show wpAny _ _ (execs (_::_) _) _ _ _
  have rm':=dA.room rm
  generalize hg:hideAll s.heap (frs0.map (·.1))=g at F N T hG
  refine wpAny_execs_cons<|wpAny_Assign_Name<|callg (f:=196) T F (by kernel_rfl) (by kernel_rfl)<|spliced_more<|ld F rfl<|spliced_none ⟨T.X.keeps F.keep,call_cls (K:=K w) (fI:=132) F T.X N (by kernel_rfl) (by kernel_rfl) (by kernel_rfl) fun O dx h1 F1 N1 lt1 lty=>?_⟩
  have dxO:dx≠O:=Nat.ne_of_lt lty
  have gdx:∀ a∈[dx],g.get? a=none:=fun a ha=>by rw [List.mem_singleton] at ha; subst ha; exact (N1 _ (.tail _ (.head _))).2.2
  refine init_graph (s:=up s _ _) (gr:=gr) (room_type (rm'.le (d':=6) (by lia))) (T.hide F1 gdx) (N1 _ (.head _)).1 (N1 _ (.tail _ (.head _))).1 dxO.symm (hG.keeps (hide_keeps F1.keep gdx)) hgz fun h2 tk2 D od t1 t2 t3 t4 t5 t6 nd ex2 hdx2 hD2 hod2 lo frD ok ab hnd2 frnd neD2=>⟨rfl,?_⟩
  have ltc:∀ p∈frs0,p.1≠dx∧p.1≠O:=fun p hp=>⟨Nat.ne_of_lt (lt1 p hp),Nat.ne_of_lt (Nat.lt_trans (lt1 p hp) lty)⟩
  obtain ⟨F2,N2⟩:=back (W:=[(dx,dictOf [] 0)]) (W':=(D,od)::(dx,dictOf (sd w t1 t2 t3 t4 (.ref D) .none (.int 0 t5) (.int 0 t6)) 4)::led nd) (rest:=(O,instObj 196 dx)::frs0) F1 (news_sub N1 fun p hp=>by
      simp only [List.mem_cons,List.mem_append,List.not_mem_nil,or_false] at hp ⊢
      grind) ex2
    (fun p hp=>by
      rcases List.mem_cons.mp hp with rfl | hp
      · exact hD2
      rcases List.mem_cons.mp hp with rfl | hp
      · exact hdx2
      · exact hnd2 p hp)
    (fun p hp=>by
      rcases List.mem_cons.mp hp with rfl | hp
      · exact .inr frD
      rcases List.mem_cons.mp hp with rfl | hp
      · exact .inl (.head _)
      · exact .inr (frnd p hp))
    (fun p hp q=>by
      have q:=List.mem_singleton.mp q
      rcases List.mem_cons.mp hp with rfl | hp
      · exact dxO.symm q
      · exact (ltc p hp).1 q)
  refine st (s:=up s _ _) F2 N2 fun h3 tk3 F3 N3=>?_
  have neD:∀ p∈(O,instObj 196 dx)::(dx,dictOf [] 0)::frs0,p.1≠D∧p.1∉(led nd).map (·.1):=fun p hp=>⟨(addr_ne frD (N1 p hp).1).symm,fun q=>by
    obtain ⟨y,hy,e⟩:=List.mem_map.mp q
    exact addr_ne (frnd y hy) (N1 p hp).1 e⟩
  have N3s:News g L h3 (frs0++((O,instObj 196 dx)::(D,od)::(dx,dictOf (sd w t1 t2 t3 t4 (.ref D) .none (.int 0 t5) (.int 0 t6)) 4)::(led nd++[]))):=news_sub N3 fun p hp=>by
    simp only [List.mem_cons,List.mem_append,List.not_mem_nil,or_false] at hp ⊢
    grind
  have nodu:(O::D::dx::(led nd).map (·.1)).Nodup:=by
    simp only [List.nodup_cons,List.mem_cons,not_or]
    refine ⟨⟨(neD _ (.head _)).1,dxO.symm,(neD _ (.head _)).2⟩,⟨(neD (dx,_) (.tail _ (.head _))).1.symm,fun q=>?_⟩,(neD (dx,_) (.tail _ (.head _))).2,ok.addrs⟩
    obtain ⟨y,hy,e⟩:=List.mem_map.mp q
    exact neD2 y hy e
  refine wpAny_execs_cons<|wpAny_Expr<|methodCall_KW<|ld (s:=up s _ _) F3 rfl<|methS (s:=up s _ _) T F3 (N3s _ (List.mem_append_right _ (.head _))).1 (N3s _ (List.mem_append_right _ (.tail _ (.tail _ (.head _))))).1 sd_prepare (f:=151)<|callWith_K0 (K:=K w) (T.X.keeps F3.keep) (by kernel_rfl) <|
    prepL (s:=up s _ _) (rk:=rk) (nd:=nd) (frs0:=frs0) (rest:=[]) (rm'.le (by lia)) (dA.frames _ hfr) (fun oL hoL=>frs_cons F3 hoL Fs (by kernel_rfl) (by kernel_rfl)) T F3 N3s hod2 lo ok ab bd hrk nodu (fun p hp=>?_) (fun p hp=>nomatch hp) fun h6 tk6 frs6 Ra as b F6 N6 SU6 S6 sep6 _ _=>?_
  · simp only [List.nil_append] at hp
    simp only [List.mem_cons,not_or]
    have:=neD p (.tail _ (.tail _ hp))
    exact ⟨(ltc p hp).2,this.1,(ltc p hp).1,this.2⟩
  have N6':News g L h6 (b++frs6):=N6
  have fra:∀ p∈frs6,p.1∉as:=fun p hp=>sep6 p hp
  refine wpAny_execs_cons<|Assign_Tuple_swapped (names:=["queue","walked"]) (hw:=by kernel_rfl)<|Tuple_<|spliced_more<|List_<|spliced_none<|newLst (s:=up s _ _) F6 N6' fun Qa h7 F7 N7 lt7=>spliced_more<|List_<|spliced_none<|newLst (s:=up s _ _) F7 N7 fun Wa h8 F8 N8 lt8=>spliced_none<|newTup (s:=up s _ _) F8 N8 fun tp h9 F9 N9 lt9=>?_
  have N9':News g L h9 (b++((Qa,W.listOf (List.map (valT fun _=>0) []).toArray 0)::(Wa,W.listOf #[] 0)::frs6)):=news_sub N9 fun p hp=>by
    simp only [List.mem_cons,List.mem_append,List.map_nil] at hp ⊢
    grind
  refine wpAny_unpackItems_tuple (s:=up s _ _) (items:=[.ref Qa,.ref Wa].toArray) rm'.handled ⟨_,(N9 _ (.head _)).1,rfl,_,rfl⟩ fun h10 e10=>?_
  obtain ⟨F10,N10⟩:=growBut (h':=h10) F9 N9' e10
  refine wpAny_assignInOrder_more<|wpAny_bindName<|st (s:=up s _ _) F10 N10 fun h11 _ F11 N11=>wpAny_assignInOrder_more<|wpAny_bindName<|st (s:=up s _ _) F11 N11 fun h12 tk12 F12 N12=>wpAny_assignInOrder_none ?_
  have QW:Qa≠Wa:=Nat.ne_of_lt (lt8 (Qa,_) (.head _))
  have Qne:∀ p∈b++frs6,p.1≠Qa:=fun p hp=>Nat.ne_of_lt (lt7 p hp)
  have Wne:∀ p∈b++frs6,p.1≠Wa:=fun p hp=>Nat.ne_of_lt (lt8 p (.tail _ hp))
  have aQ:Qa∉as:=fun q=>by
    rw [← S6.addr] at q
    obtain ⟨y,hy,e⟩:=List.mem_map.mp q
    exact Qne y (List.mem_append_left _ hy) e
  have aW:Wa∉as:=fun q=>by
    rw [← S6.addr] at q
    obtain ⟨y,hy,e⟩:=List.mem_map.mp q
    exact Wne y (List.mem_append_left _ hy) e
  have bas:∀ {nd st ready p f b},Srt prog w O dx D Ra nd t1 t2 t3 t4 st ready p f as b→∀ q∈b,q.1∈as:=fun S q hq=>by rw [← S.addr]; exact List.mem_map_of_mem hq
  have sepW:∀ {o1 o2:Obj},∀ p∈(Qa,o1)::(Wa,o2)::frs6,p.1∉as:=fun p hp=>by
    simp only [List.mem_cons] at hp
    rcases hp with rfl | rfl | hp
    · exact aQ
    · exact aW
    · exact fra p hp
  let Jv0:Nat→Shared→Prop:=fun fuel s'=>Ex8 fun h' tk m' nd' b' qn wn ready=>Ex7 fun st' p f q τ wsc wv=>And8 (s'=up s h' tk) (Fr g L h' m') (News g L h' (b'++((Qa,W.listOf (List.map (valT τ) q).toArray qn)::(Wa,W.listOf (List.toArray wv) wn)::frs6))) (Srt prog w O dx D Ra nd' t1 t2 t3 t4 st' ready p f as b') (IntsAre wv (toI wsc)) (lastGo fuel st' ready q p f wsc=some ws) (m' "sorter"=some (.ref O)) (m' "queue"=some (.ref Qa)∧m' "walked"=some (.ref Wa))
  let Jv1:Shared→Prop:=fun s'=>Ex7 fun h' tk m' b' qo wn wv=>And5 (s'=up s h' tk) (Fr g L h' m') (News g L h' (b'++((Qa,qo)::(Wa,W.listOf (List.toArray wv) wn)::frs6))) (IntsAre wv (toI ws)) (m' "walked"=some (.ref Wa))
  refine whileN Jv0
    Jv1 ?_ 20
    ⟨h12,tk12,_,nd,b,0,0,readyP (initP gr),initP gr,0,0,[],fun _=>0,[],[],rfl,F12,N12,S6,.nil,hgo,rfl,rfl,rfl⟩ ?_
  · intro E' fuel s' hI
    obtain ⟨h',tk,m',nd',b',qn,wn,ready,st',p,f,q,τ,wsc,wv,rfl,F',N',S',hiw,hgo',ms',mq',mw'⟩:=hI
    cases fuel with
    | zero=>cases hgo'
    | succ fuel =>
    have hrl:ready.length≤1000:=by
      unfold lastGo at hgo'
      split at hgo'
      · rename_i e
        simp only [Bool.or_eq_false_iff,Bool.not_eq_false'] at e
        rw [List.isEmpty_iff.mp e.2]; simp
      · split at hgo'
        · rename_i hck
          simp only [Bool.and_eq_true,decide_eq_true_eq] at hck
          lia
        · cases hgo'
    refine wpAny_isTrue_value<|methodCall_KW<|ld (s:=up s _ _) F' ms'<|srtMeth (s:=up s _ _) (fn:=165) T F' N' S' (fun _ _ _ _=>sd_active)<|callWith_K0 (K:=K w) (T.X.keeps F'.keep) (by kernel_rfl)<|srtActive (s:=up s _ _) (rm'.le (by lia)) T F' N' S' hrl fun h1 tk1 F1 N1=>wpAny_truthy_bool ?_
    unfold lastGo at hgo'
    by_cases hac:(decide (f<p) || !ready.isEmpty)=false
    · rw [if_pos hac] at hgo'
      cases hgo'
      rw [if_neg (by rw [hac]; simp)]
      exact ⟨h1,tk1,m',b',_,wn,wv,rfl,F1,N1,hiw,mw'⟩
    rw [if_neg hac] at hgo'
    rw [if_pos (by rwa [Bool.not_eq_false] at hac)]
    split at hgo'
    case isFalse=>cases hgo'
    rename_i hck
    simp only [Bool.and_eq_true,decide_eq_true_eq] at hck
    obtain ⟨hks,hr50⟩:=hck
    obtain ⟨q1,hq1,hgo2⟩:=Option.bind_eq_some_iff.mp hgo'
    split at hgo2
    case isFalse=>cases hgo2
    rename_i hck2
    simp only [Bool.and_eq_true,decide_eq_true_eq,Bool.not_eq_true'] at hck2
    obtain ⟨⟨⟨hq1a,hq1l⟩,hq1e⟩,hwl⟩:=hck2
    simp only at hgo2
    obtain ⟨y,hy,hgo3⟩:=Option.bind_eq_some_iff.mp hgo2
    refine wpAny_execs_cons<|wpAny_For<|methodCall_KW<|ld (s:=up s _ _) F1 ms'<|srtMeth (s:=up s _ _) (fn:=158) T F1 N1 S' (fun _ _ _ _=>sd_ready)<|callWith_K0 (K:=K w) (T.X.keeps F1.keep) (by kernel_rfl)<|srtReady (s:=up s _ _) (rm'.le (by lia)) T F1 N1 S' (by lia) (fun k hk=>List.all_eq_true.mp hks k hk) sepW fun h2 tk2 tq rv nd2 b2 F2 N2 hi2 S2 htq hne2=>?_
    have tqL:tq≠L:=(N2 _ (.head _)).2.1
    have hrv:=hi2.length
    have N2':News g L h2 ((Qa,W.listOf (List.map (valT τ) q).toArray qn)::(Wa,W.listOf (List.toArray wv) wn)::(b2++frs6)):=news_sub N2 fun p hp=>by
      simp only [List.mem_cons,List.mem_append] at hp ⊢
      grind
    have tQ:tq≠Qa:=fun e=>hne2 (Qa,_) (List.mem_append_right _ (.head _)) e.symm
    have hRQ:∀ {o:Obj},∀ p∈(Wa,o)::(b2++frs6),p.1≠Qa:=fun p hp=>by
      simp only [List.mem_cons,List.mem_append] at hp
      rcases hp with rfl | hp | hp
      · exact QW.symm
      · intro e; exact aQ (e ▸ bas S2 p hp)
      · exact Qne p (List.mem_append_right _ hp)
    let Jv2:Nat→(Str→Option Value)→List (Addr×Obj)→Prop:=fun i m news=>Ex3 fun q τ qn=>And5 (news=(Qa,W.listOf (List.map (valT τ) q).toArray qn)::(Wa,W.listOf (List.toArray wv) wn)::(b2++frs6)) (pushAll q (ready.drop i)=some q1) (m "sorter"=some (.ref O)) (m "queue"=some (.ref Qa)) (m "walked"=some (.ref Wa))
    refine forAT (s:=up s _ _) (vs:=rv) rm'.handled F2 N2' ⟨_,(N2 _ (.head _)).1,rfl,_,rfl⟩ tqL
      Jv2
      ⟨q,τ,qn,rfl,hq1,ms',mq',mw'⟩ ?_ ?_
    · intro E2 i v m4 news4 h4 tk4 own hv hJ hw ho hI hc F4 N4
      obtain ⟨q4,τ4,qn4,rfl,hq4,ms4,mq4,mw4⟩:=hJ
      obtain ⟨k,tk',rfl,hk⟩:=ints_get hi2 hv
      rw [drop_get hk] at hq4
      unfold pushAll at hq4
      obtain ⟨q5,hp1,hq5⟩:=Option.bind_eq_some_iff.mp hq4
      unfold push1 at hp1
      split at hp1
      case isFalse=>cases hp1
      rename_i hck
      simp only [Option.some.injEq] at hp1
      simp only [Bool.and_eq_true,decide_eq_true_eq,Bool.not_eq_true'] at hck
      obtain ⟨⟨⟨⟨hk0,hk50⟩,hkn⟩,hqa⟩,hql⟩:=hck
      obtain ⟨kn,rfl⟩:∃ kn:Nat,k=(kn:Int):=⟨k.toNat,by lia⟩
      rw [Int.toNat_natCast] at hp1 hkn
      have hkn':kn∉q4:=by simpa using hkn
      have ownQ:∀ p∈own,p.1≠Qa:=fun p hp=>by
        rcases List.mem_cons.mp (ho p hp) with e | e
        · exact fun e'=>hw (Qa,_) (.head _) (by rw [← e]; exact e'.symm)
        · have e:=List.mem_singleton.mp e
          exact fun e'=>tQ (by rw [← e]; exact e')
      refine wpAny_assign_Name<|st (s:=up s _ _) F4 N4 fun h5 tk5 F5 N5=>wpAny_execs_cons<|wpAny_Expr<|callg (f:=45) (s:=up s _ _) T F5 (by kernel_rfl) (by kernel_rfl)<|spliced_more<|ld (s:=up s _ _) F5 mq4<|spliced_more<|wpAny_UnaryOp<|ld (s:=up s _ _) F5 rfl<|neg_int fun tn tkn=>spliced_none ⟨T.X.keeps F5.keep,?_⟩
      have ev:Value.int (-(kn:Int)) tn=valT (fun j=>if j=kn then tn else τ4 j) kn:=by unfold valT; simp
      show wpAny _ _ (call (.ref 45) [.ref Qa,Value.int (-(kn:Int)) tn]) _ _ _
      rw [ev]
      have gQ:∀ a∈[Qa],g.get? a=none:=fun a ha=>by rw [List.mem_singleton] at ha; subst ha; exact (N5 _ (.head _)).2.2
      refine heappush_call (s:=tkd (up s _ _) _) (hp:=Qa) (ids:=q4) (n:=50) (lt:=ltN) (rm'.le (by lia)) (T.hide F5 gQ) (by rw [← val_upd τ4 q4 kn tn hkn']; exact (N5 _ (.head _)).1) (fun i hi=>by simpa using List.all_eq_true.mp hqa i hi) (by lia) (by lia) (cmpT _ _ _) fun h6 tk6 ex6 hq6=>?_
      obtain ⟨F6,N6⟩:=back1 F5 N5 ex6 hq6 (fun p hp=>by
        rcases List.mem_append.mp hp with z | z
        · exact hRQ p z
        · exact ownQ p z)
      rw [hp1] at N6
      refine wpAny_execs_nil<|Turn.next (news':=(Qa,W.listOf (List.map (valT fun j=>if j=kn then tn else τ4 j) q5).toArray (qn4+1))::(Wa,W.listOf (List.toArray wv) wn)::(b2++frs6)) F6 N6 (fun p hp=>?_) ⟨q5,_,_,rfl,hq5,ms4,mq4,mw4⟩
      rw [List.mem_singleton]
      rcases List.mem_cons.mp hp with rfl | hp
      · exact hw (Qa,W.listOf (List.map (valT τ4) q4).toArray qn4) (.head _)
      · exact hw p (.tail _ hp)
    · intro h4 tk4 m4 news4 F4 N4 hw hJ
      obtain ⟨q4,τ4,qn4,rfl,hq4,ms4,mq4,mw4⟩:=hJ
      rw [List.drop_of_length_le (by lia)] at hq4
      unfold pushAll at hq4
      cases hq4
      have hne1:q1≠[]:=fun e=>by rw [e] at hq1e; simp at hq1e
      have hsp:q1.dropLast++[q1.getLastD 0]=q1:=by
        rw [List.getLastD_eq_getLast?,List.getLast?_eq_some_getLast hne1]
        exact List.dropLast_concat_getLast hne1
      have gQ:∀ a∈[Qa],g.get? a=none:=fun a ha=>by rw [List.mem_singleton] at ha; subst ha; exact (N4 _ (.head _)).2.2
      have hqa:∀ i∈q1,i<50:=fun i hi=>by simpa using List.all_eq_true.mp hq1a i hi
      refine wpAny_execs_cons<|wpAny_Expr<|methodCall_KW<|ld (s:=up s _ _) F4 mw4<|kl_method (s:=up s _ _) N4 (.tail _ (.head _)) slot_list_append type_list_append<|callWith_method1<|spliced_more<|wpAny_UnaryOp<|callg (f:=52) (s:=up s _ _) T F4 (by kernel_rfl) (by kernel_rfl)<|spliced_more<|ld (s:=up s _ _) F4 mq4<|spliced_none ⟨T.X.keeps F4.keep,
        heappop_call (s:=up s _ _) (hp:=Qa) (init:=q1.dropLast) (last:=q1.getLastD 0) (n:=50) (val:=valT τ4) (lt:=ltN) (rm'.le (by lia)) (T.hide F4 gQ) (by rw [hsp]; exact (N4 _ (.head _)).1) (by rw [hsp]; exact hqa) (by rw [List.length_dropLast]; lia) (cmpT _ _ _) fun h5 tk5 ex5 hq5=>?_⟩
      obtain ⟨F5,N5⟩:=back1 F4 N4 ex5 hq5 (fun p hp=>hRQ p hp)
      generalize hz:heappopF ltN q1.dropLast (q1.getLastD 0)=z at hy hgo3 hq5 N5 ⊢
      have hwv:=hiw.length
      rw [toI_length] at hwv
      refine neg_int fun tn tkn=>spliced_none<|appendL (s:=tkd (up s _ _) _) F5 N5 (.tail QW (.head fun p hp=>?_)) (by lia) fun h6 F6 N6=>?_
      · rcases List.mem_append.mp hp with hp | hp
        · intro e; exact aW (e ▸ bas S2 p hp)
        · exact Wne p (List.mem_append_right _ hp)
      rw [Int.neg_neg] at N6
      have N6':News g L h6 (b2++((Qa,W.listOf (List.map (valT τ4) z.2).toArray (qn4+1))::(Wa,W.listOf (List.toArray (wv++[.int (z.1:Int) tn])) (wn+1))::frs6)):=news_sub N6 fun p hp=>by
        simp only [List.mem_cons,List.mem_append] at hp ⊢
        grind
      refine wpAny_execs_cons<|wpAny_Expr<|methodCall_KW<|ld (s:=up s _ _) F6 ms4<|srtMeth (s:=up s _ _) (fn:=179) T F6 N6' S2 (fun _ _ _ _=>sd_done)<|callWith_K T.X (by kernel_rfl)<|spliced_more<|Subscript_<|ld (s:=up s _ _) F6 mw4<|wpAny_UnaryOp<|cint fun _ _=>neg_int fun _ _=>itL_last (s:=tkd (up s _ _) _) (vs:=wv) ⟨_,(N6 _ (.tail _ (.head _))).1,rfl,_,rfl⟩ (by lia)<|spliced_none ⟨T.X.keeps F6.keep,wpAny_call ?_⟩
      refine srtDone (s:=tkd (up s _ _) _) (ks:=[(z.1:Int)]) (z':=y) (rm'.le (by lia)) T F6 N6' S2 (by simp) (.cons _ _ .nil) (by simp) hy sepW fun h7 tk7 nd7 b7 F7 N7 S7=>wpAny_execs_nil ?_
      exact ⟨fuel,Nat.lt_succ_self _,h7,tk7,_,nd7,b7,_,_,y.2,y.1,p+ready.length,f+1,z.2,τ4,wsc++[z.1],_,rfl,F7,N7,S7,by unfold toI at hiw ⊢; rw [List.map_append]; exact IntsAre.snoc hiw _ _,hgo3,ms4,mq4,mw4⟩
  · intro s' hP
    obtain ⟨h',tk,m',b',qo,wn,wv,rfl,F',N',hi',mw'⟩:=hP
    refine wpAny_execs_cons<|wpAny_Return_some<|ld (s:=up s _ _) F' mw' ?_
    subst hg
    refine h h' tk frs6 Wa wv wn (ext_of_fr F') SU6 (fun p hp=>(N' p (List.mem_append_right _ (.tail _ (.tail _ hp)))).1) (N' _ (List.mem_append_right _ (.tail _ (.head _)))).1 hi' ?_
    rcases hide_or (N' _ (List.mem_append_right _ (.tail _ (.head _)))).2.2 with q | q
    · have:Wa∈frs6.map (·.1):=by rw [sameUp_addr SU6]; exact q
      obtain ⟨y,hy,e'⟩:=List.mem_map.mp this
      exact absurd e' (Wne y (List.mem_append_right _ hy))
    · exact q
theorem al0:∀ d,P1 d:=epsAll ne0 P1 (by with_unfolding_all exact bd0)
end Zlast
end
section
variable {prog:Program} {w:World} {A:Around} {E:Value→Shared→Prop} {s:Shared} {l:List Env} {frs0:List (Addr×Obj)}
theorem last_call {Q:Value→Shared→Prop} {G:Addr} {kvs:List (Int×Value)} {gr:List (Int×List Int)} {rk:Int→Nat} {ws:List Nat} (rm:Room A 8) (hfr:A.frames=some l) (Fs:Frs l frs0) (hW:∀ p∈frs0,s.heap.get? p.1=some p.2) (T:Wd w (hideAll s.heap (frs0.map (·.1)))) (hG:GrAt prog w (hideAll s.heap (frs0.map (·.1))) G kvs gr) (hgz:gr.length≤20) (bd:Bd 500 500 (initP gr)) (hrk:∀ e∈initP gr,∀ x∈e.2.2,x∈(initP gr).map (·.1)∧rk e.1<rk x) (hgo:lastGo 20 (initP gr) (readyP (initP gr)) [] 0 0 []=some ws) (h:∀ h' tk' frs' D ys nn,Ext (frs0.map (·.1)) s.heap h'→SameUp frs0 frs'→(∀ p∈frs',h'.get? p.1=some p.2)→h'.get? D=some (W.listOf (List.toArray ys) nn)→IntsAre ys (toI ws)→s.heap.get? D=none→Q (.ref D) (up s h' tk')):wpAny (model prog w) A (call (.ref 267) [.ref G]) Q E s:=by
  refine wpAny_call (enter (W:=frs0) (binds:=[(("heads":Str),.ref G)]) rm.le' (fn267 T.of_hide.X) T.of_hide.lim (cd267 T.of_hide.X) hW rfl
    (BindsTo.of_eq (by kernel_rfl)) (by kernel_rfl) (by kernel_rfl) ?_ (by kernel_rfl) (by kernel_rfl) (by kernel_rfl))
  intro L h₀ tk₀ hL F N A₁ R₁ E₁ dA hret hnone
  exact Zlast.al0 (((((prog,w),A),(s,A₁)),((l,frs0),(G,kvs))),(((gr,rk),(ws,L)),((h₀,tk₀),(R₁,E₁)))) rm hfr Fs hW T hG hgz bd hrk hgo (fun x0 x1 x2 x3 x4 x5 x6 x7 x8 x9 x10 x11=>hret _ _ (h x0 x1 x2 x3 x4 x5 x6 x7 x8 x9 x10 x11)) hL F N dA
end
end
section
noncomputable def runK {α:Type} (n:Nat) (lt:Nat→Nat→Bool):KasT α→Option α
  | .ret a=>some a
  | .ask i j k=>if i<n∧j<n then runK n lt (k (lt i j)) else none
theorem wp_run {α:Type} {n:Nat} {lt:Nat→Nat→Bool} {cmp:Nat→Nat→(Bool→Shared→Prop)→Shared→Prop} {s:Shared} (hc:∀ i j C,i<n→j<n→C (lt i j) s→cmp i j C s) {Q:α→Shared→Prop} {a:α} :
    ∀ (t:KasT α),runK n lt t=some a→Q a s→t.kasWp cmp Q s
  | .ret b,h,hq=>by cases h; exact hq
  | .ask i j k,h,hq=>by
    unfold runK at h
    split at h
    · rename_i hij
      exact hc i j _ hij.1 hij.2 (wp_run hc (k (lt i j)) h hq)
    · cases h
section
variable {prog:Program} {w:World} {A:Around} {E:Value→Shared→Prop} {s:Shared} {g:Heap} {L:Addr} {m:Str→Option Value} {news:List (Addr×Obj)} {vs:List Value}
theorem sorted1 {l:Addr} {v:Value} {Q:Value→Shared→Prop} (F:Fr g L s.heap m) (N:News g L s.heap news) (hl:s.heap.IsList l [v].toArray)
    (h:∀ D h' c,Fr g L h' m→News g L h' ((D,W.listOf [v].toArray c)::news)→(∀ q∈news,q.1<D)→Q (.ref D) (up s h' s.toks)):wpAny (model prog w) A (call (.builtin "sorted") [.ref l]) Q E s:=by
  refine Calls.call_function_entry kind_sorted plain_sorted entry_sorted (args_sorted1 _) ?_
  unfold Builtin.«sorted»
  refine wpAny_bind (m:=checkCount "sorted" 1 1 _) (wpAny_pure ?_)
  refine wpAny_bind (collect_list hl ?_ (by rw [sizeLine_eq]; simp))
  refine wpAny_bind (wpAny_newList ?_ (by rw [sizeLine_eq]; simp))
  generalize hh1:(s.heap.push (seqObj "list" #[] 0)).update s.heap.objs.size (Obj.mapSeq (·++[v].toArray))=h1
  have hsz:h1.objs.size=s.heap.objs.size+1:=by rw [← hh1,Heap.size_update,size_push']
  have hoL:(h1.push (seqObj "list" [v].toArray 0)).get? (s.heap.objs.size+1)=some (seqObj "list" [v].toArray 0):=by rw [← hsz]; exact Heap.get?_push_size _ rfl
  have keep:∀ b o,s.heap.get? b=some o→(h1.push (seqObj "list" [v].toArray 0)).get? b=some o:=fun b o q=>by
    have hlt:b<s.heap.objs.size:=Heap.lt_size q
    rw [Heap.get?_push_ne _ _ _ (by rw [hsz]; exact Nat.ne_of_lt (Nat.lt_succ_of_lt hlt)),← hh1,Heap.get?_update_ne _ _ _ _ (Nat.ne_of_lt hlt),Heap.get?_push_ne _ _ _ (Nat.ne_of_lt hlt)]
    exact q
  have hL:L<s.heap.objs.size:=F.ns.lt
  show wpAny _ _ _ _ _ { s with heap:=h1.push (seqObj "list" [v].toArray 0) }
  rw [show (({ s with heap:=h1 }:Shared).heap.objs.size)=s.heap.objs.size+1 from hsz]
  refine wpAny_bind (wpAny_holding (wpAny_call_entry slot_list_sort ⟨_,hoL,rfl⟩ entry_list_sort ?body (args_list_sort _)))
  case body =>
    generalize hD:s.heap.objs.size+1=D at hoL
    generalize hh2:h1.push (seqObj "list" [v].toArray 0)=h2 at hoL keep
    have F2:Fr g L h2 m:=F.kept keep
    have N2:News g L h2 news:=N.grown keep
    have hDL:D≠L:=by rw [← hD]; exact Nat.ne_of_gt (Nat.lt_succ_of_lt hL)
    have hD0:g.get? D=none:=by rw [← hD]; exact Heap.get?_none_of_le (Nat.le_trans F.above (Nat.le_succ_of_le (Nat.le_of_lt hL)))
    have hDn:∀ p∈news,p.1<D:=fun p hp=>by rw [← hD]; exact Nat.lt_succ_of_lt (Heap.lt_size (N p hp).1)
    have s1:=Heap.SameBut.update h2 D (Obj.mapSeq fun _=>(#[]:Array Value))
    obtain ⟨e1,ho1⟩:∃ e1,(h2.update D (Obj.mapSeq fun _=>(#[]:Array Value))).get? D=some (seqObj "list" #[] e1):=⟨_,get?_update_seq hoL fun _=>#[]⟩
    have F3:Fr g L (((h2.update D (Obj.mapSeq fun _=>(#[]:Array Value))).push (seqObj "tuple" [v].toArray 0)).push (seqObj "list" #[] 0)) m:=((kas_fr F2 s1 hDL hD0).push _).push _
    have N3:News g L (((h2.update D (Obj.mapSeq fun _=>(#[]:Array Value))).push (seqObj "tuple" [v].toArray 0)).push (seqObj "list" #[] 0)) ((D,seqObj "list" #[] e1)::news):=fun p hp=>by
      rcases List.mem_cons.mp hp with rfl | hp
      · exact ⟨Heap.get?_push_of_some _ (Heap.get?_push_of_some _ ho1),hDL,hD0⟩
      · exact ((kas_news N2 s1 fun p hp=>Nat.ne_of_lt (hDn p hp)).grown fun b x e=>Heap.get?_push_of_some _ (Heap.get?_push_of_some _ e)) p hp
    rw [list_sort_plain]
    refine wpAny_bind (listItems_at hoL rfl ?_)
    refine wpAny_bind (listUpdate_at hoL rfl ?_ (by rw [sizeLine_eq]; simp) (Nat.zero_le _))
    refine wpAny_bind (seqEpoch_at ho1 rfl ?_)
    refine wpAny_bind (wpAny_newTuple ?_ (by rw [sizeLine_eq]; simp))
    refine wpAny_bind (wpAny_newList ?_ (Nat.zero_le _))
    refine wpAny_holding ?_
    show wpAny (model prog w) _ _ _ _ { s with heap:=((h2.update D (Obj.mapSeq fun _=>(#[]:Array Value))).push (seqObj "tuple" [v].toArray 0)).push (seqObj "list" #[] 0) }
    dsimp only
    have hn2:[v].toArray.size<2:=by simp
    rw [if_pos hn2,if_pos hn2]
    refine wpAny_bind (wpAny_pure ?_)
    rw [StateT.run_pure]
    refine wpAny_bind (wpAny_pure ?_)
    dsimp only
    generalize hh3:((h2.update D (Obj.mapSeq fun _=>(#[]:Array Value))).push (seqObj "tuple" [v].toArray 0)).push (seqObj "list" #[] 0)=h3 at F3 N3
    have na:=N3 (D,seqObj "list" #[] e1) (.head _)
    refine wpAny_bind (seqEpoch_at na.1 rfl ?_)
    refine wpAny_bind (listUpdate_at na.1 rfl ?_ (Nat.zero_le _) (by rw [sizeLine_eq]; simp [arrOf,SortSt.mk']))
    simp only [bne_self_eq_false,Bool.false_eq_true,if_false]
    have s2:=Heap.SameBut.update h3 D (Obj.mapSeq fun _=>[v].toArray)
    obtain ⟨c2,hc2⟩:∃ c2,(h3.update D (Obj.mapSeq fun _=>[v].toArray)).get? D=some (seqObj "list" [v].toArray c2):=⟨_,get?_update_seq na.1 fun _=>[v].toArray⟩
    refine wpAny_pure ⟨_,rfl,wpAny_pure ⟨_,rfl,?_⟩⟩
    have e9:Array.map (fun x:Keyed=>x.snd) (arrOf (SortSt.mk' general' ([v].toArray.zip [v].toArray) #[] 7 none))=[v].toArray:=by
      show Array.map (fun x:Keyed=>x.snd) ([v].toArray.zip [v].toArray)=_
      simp
    rw [e9]
    exact h D _ c2 (kas_fr F3 s2 na.2.1 na.2.2) (news_set (pre:=[]) N3 (fun p hp=>nomatch hp) (fun p hp=>Nat.ne_of_lt (hDn p hp)) s2 hc2) hDn
theorem lt_rowsK {l b:Addr} {rs qs:List (List Nat)} {Q:Bool→Shared→Prop} (X:StrsAt s.heap l rs) (Y:StrsAt s.heap b qs) (hu:A.units<cLine) (h:Q (ltRows rs qs) s):wpAny (model prog w) A (keyLt' oneType' (.ref l) (.ref b)) Q E s:=by
  obtain ⟨vs,n,hl,h1⟩:=X
  obtain ⟨us,n2,hb,h2⟩:=Y
  rw [keyLt'_oneType,oneLt'_eq]
  simp only [if_true]
  refine wpAny_bind (wpAny_cRoomFor hu ?_)
  have z:=ltGo_rows rs qs (fun j=>rs.getD j []==qs.getD j []) (fun j=>sLt (rs.getD j []) (qs.getD j [])) 0 (fun j _=>by simp)
  refine wpAny_bind (wpAny_callSpecialIfBound?_slot (T:="list") ⟨_,hl,rfl⟩ PySem.F.slot_list_lt (call_meetsIn PySem.F.slot_list_lt ⟨_,hl,rfl⟩ PySem.F.entry_list_lt (PySem.F.args_list_lt_2 _ _) (fun A' R' s' hh=>list_lt l b vs.toArray us.toArray n n2 none none #[] #[] (fun j=>rs.getD j []==qs.getD j []) (fun j=>sLt (rs.getD j []) (qs.getD j [])) prog w A' R' s' hh)
    ⟨hl,hb,fun j a b=>⟨strs_items h1 h2 j a b,strs_lt h1 h2 j a b⟩,?_⟩))
  rw [show vs.toArray.size=rs.length by simp [h1.length],show us.toArray.size=qs.length by simp [h2.length],z]
  exact wpAny_truthy_bool h
theorem sortedRows {l:Addr} {R:List Addr} {rows:List (List (List Nat))} {p:Array Nat} {Q:Value→Shared→Prop} (F:Fr g L s.heap m) (N:News g L s.heap news) (hu:A.units+2<cLine) (hl:s.heap.IsList l (R.map Value.ref).toArray) (h2:2≤R.length) (h6:R.length≤6)
    (hX:∀ h',Fr g L h' m→News g L h' news→∀ i,i<R.length→StrsAt h' (R.getD i 0) (rows.getD i []))
    (hrun:runK R.length (fun i j=>ltRows (rows.getD i []) (rows.getD j [])) (kas_sort R.length)=some p)
    (h:∀ D h' c,Fr g L h' m→News g L h' ((D,W.listOf (p.toList.map fun i=>(R.map Value.ref).getD i .none).toArray c)::news)→(∀ q∈news,q.1<D)→Q (.ref D) (up s h' s.toks)):wpAny (model prog w) A (call (.builtin "sorted") [.ref l]) Q E s:=by
  have el:(R.map Value.ref).length=R.length:=by simp
  have eg:∀ i,i<R.length→(R.map Value.ref).getD i Value.none=.ref (R.getD i 0):=fun i hi=>by simp [hi]
  refine kas_sorted (T:=.type "list") F N hl (by lia) (by lia) (fun h' F' N' v hv=>?_) (by decide +kernel) fun D e1 h' F' N' lt=>?_
  · obtain ⟨a,ha,rfl⟩:=List.mem_map.mp hv
    obtain ⟨i,hi,e⟩:=List.getElem_of_mem ha
    obtain ⟨vs,n,hg,_⟩:=hX h' F' N' i hi
    refine kitAt_ty _ _ ⟨W.listOf vs.toArray n,?_,rfl⟩
    rw [← hg]; simp [hi,e]
  · rw [el]
    have N'':News g L h' news:=fun q hq=>N' q (.tail _ hq)
    refine wp_run (n:=R.length) (lt:=fun i j=>ltRows (rows.getD i []) (rows.getD j [])) (fun i j C hi hj hC=>?_) _ hrun ?_
    · unfold kas_ask
      rw [eg i hi,eg j hj]
      exact lt_rowsK (hX h' F' N'' i hi) (hX h' F' N'' j hj) (by show A.units+1+1<cLine; lia) hC
    · exact KasFin.intro (s:={ s with heap:=h' }) F' N' (.head fun q hq=>Nat.ne_of_lt (lt q hq)) fun h3 c F3 N3=>h D h3 c F3 N3 lt
noncomputable def prOf (a b:Int) (t u:Tok):Obj:=tupOf [.int a t,.int b u]
noncomputable def ltPr (x y:Int×Int):Bool:=if x.1=y.1 then (if x.2=y.2 then false else decide (x.2<y.2)) else decide (x.1<y.1)
theorem lt_prK {x y:Addr} {a b c d:Int} {t u t' u':Tok} {Q:Bool→Shared→Prop} (X:s.heap.get? x=some (prOf a b t u)) (Y:s.heap.get? y=some (prOf c d t' u')) (h:Q (ltPr (a,b) (c,d)) s):wpAny (model prog w) A (keyLt' (tuples' true) (.ref x) (.ref y)) Q E s:=by
  refine kat_lt X rfl Y rfl ?_
  show KatLex prog w A true _ Q [(.int a t,.int c t'),(.int b u,.int d u')] 0 s
  refine kat_cons (SeqAt.EqAt.int_int a t c t' prog w _ _ ?_)
  unfold ltPr at h
  by_cases e:a=c
  · rw [if_pos e] at h
    rw [show (a==c)=true by simpa using e]
    refine kat_yes (kat_cons (SeqAt.EqAt.int_int b u d u' prog w _ _ ?_))
    by_cases e2:b=d
    · rw [if_pos e2] at h
      rw [show (b==d)=true by simpa using e2]
      refine kat_yes (kat_nil ?_)
      exact h
    · rw [if_neg e2] at h
      rw [show (b==d)=false by simpa using e2]
      exact kat_no (kat_one _ _ (lt_int h))
  · rw [if_neg e] at h
    rw [show (a==c)=false by simpa using e]
    exact kat_no (kat_lt_int h)
theorem sortedPrs {l:Addr} {R:List Addr} {prs:List (Int×Int)} {p:Array Nat} {Q:Value→Shared→Prop} (F:Fr g L s.heap m) (N:News g L s.heap news) (hl:s.heap.IsList l (R.map Value.ref).toArray) (h2:2≤R.length) (h6:R.length≤6)
    (hX:∀ i,i<R.length→∃ t u,(R.getD i 0,prOf (prs.getD i (0,0)).1 (prs.getD i (0,0)).2 t u)∈news)
    (hrun:runK R.length (fun i j=>ltPr (prs.getD i (0,0)) (prs.getD j (0,0))) (kas_sort R.length)=some p)
    (h:∀ D h' c,Fr g L h' m→News g L h' ((D,W.listOf (p.toList.map fun i=>(R.map Value.ref).getD i .none).toArray c)::news)→(∀ q∈news,q.1<D)→Q (.ref D) (up s h' s.toks)):wpAny (model prog w) A (call (.builtin "sorted") [.ref l]) Q E s:=by
  have el:(R.map Value.ref).length=R.length:=by simp
  have eg:∀ i,i<R.length→(R.map Value.ref).getD i Value.none=.ref (R.getD i 0):=fun i hi=>by simp [hi]
  refine kat_sorted F N hl (by lia) (by lia) fun D e1 h' F' N' lt=>?_
  have N'':News g L h' news:=fun q hq=>N' q (.tail _ hq)
  have tups:∀ (R':List Addr),(∀ a∈R',∃ i,i<R.length∧R.getD i 0=a)→∃ fs,KatTups h' (R'.map Value.ref) fs∧fs.length=R'.length∧∀ v∈fs,∃ a t,v=Value.int a t:=by
    intro R'
    induction R' with
    | nil=>intro _; exact ⟨[],.nil,rfl,fun v hv=>nomatch hv⟩
    | cons a R' ih =>
      intro hR
      obtain ⟨fs,k1,k2,k3⟩:=ih fun a ha=>hR a (.tail _ ha)
      obtain ⟨i,hi,rfl⟩:=hR a (.head _)
      obtain ⟨t,u,hm⟩:=hX i hi
      refine ⟨.int (prs.getD i (0,0)).1 t::fs,KatTups.cons (N'' _ hm).1 rfl rfl rfl k1,by simp [k2],fun v hv=>?_⟩
      rcases List.mem_cons.mp hv with rfl | hv
      · exact ⟨_,_,rfl⟩
      · exact k3 v hv
  obtain ⟨fs,k1,k2,k3⟩:=tups R fun a ha=>by
    obtain ⟨i,hi,e⟩:=List.getElem_of_mem ha
    exact ⟨i,hi,by simp [hi,e]⟩
  refine kat_kind (s:={ s with heap:=h' }) (T:=.type "int") k1 (by lia) (fun v hv=>?_) (by decide +kernel) ?_
  · obtain ⟨a,t,rfl⟩:=k3 v hv
    exact fun A Q E s _ hq=>wpAny_pure hq
  · rw [el]
    refine wp_run (n:=R.length) (lt:=fun i j=>ltPr (prs.getD i (0,0)) (prs.getD j (0,0))) (fun i j C hi hj hC=>?_) _ hrun ?_
    · unfold kas_ask
      rw [eg i hi,eg j hj]
      obtain ⟨t,u,hm⟩:=hX i hi
      obtain ⟨t',u',hm'⟩:=hX j hj
      exact lt_prK (N'' _ hm).1 (N'' _ hm').1 hC
    · exact KasFin.intro (s:={ s with heap:=h' }) F' N' (.head fun q hq=>Nat.ne_of_lt (lt q hq)) fun h3 c F3 N3=>h D h3 c F3 N3 lt
end
end
section
section
variable {prog:Program} {w:World} {A:Around} {E:Value→Shared→Prop} {s:Shared} {env:Env} {g:Heap} {L:Addr} {m:Str→Option Value} {news:List (Addr×Obj)}
theorem compBlkP {elt iter : Expr} {elts : List Expr} {x1 : Nat} {tp : Pos} {scope : Scope} {cl : List (Str × Addr)} {pos : Pos} {I : Addr} {fp : List Addr} {n : Nat} {P : Nat → Value → Prop} {St : Nat → Heap → Prop} {RR : Value → Addr → Result → Shared → Prop}
    (Wk:Walks prog w A I fp [I] n P St) (hn:n≤1000) (hex:∀ i h,St i h→∀ b∈fp,∃ o,h.get? b=some o) (hst:St 0 s.heap) (hLf:L∉fp) (hI0:g.get? I=none)
    (F:Fr g L s.heap m) (N:News g L s.heap news) (hnI:∀ p∈news,p.1≠I)
    (J:Addr→Nat→List Value→(Str→Option Value)→List (Addr×Obj)→Prop)
    (h0:∀ C,J C 0 [] (fun _=>none) (celsOf (cellsFrom (C+1) scope.names [])++news))
    (step:∀ (E':Value→Shared→Prop) i v C D ys m₁ news₁ h₁ tk₁ own,i<n→P i v→J C i ys m₁ news₁→(∀ p∈news₁,p.1∉[I,D,L])→(∀ b∈[I,D,L],∃ o,h₁.get? b=some o)→(∀ b∈fp,g.get? b=none→∃ o,(b,o)∈own)→Fr g C h₁ m₁→News g C h₁ (news₁++own) →
      wpAny (model prog w) A (assign (.Tuple elts x1 tp) (compEnvC scope (cellsFrom (C+1) scope.names cl) C env) v) (fun _ s₂ =>
        wpAny (model prog w) A (eval elt (compEnvC scope (cellsFrom (C+1) scope.names cl) C env)) (fun y s₄=>CT s g C own [I,D,L] (J C (i+1) (ys++[y])) s₄) E' s₂) E' (up s h₁ tk₁))
    (hRR:∀ D C h' tk m' oC ys news',Fr g L h' m→News g L h' ((C,oC)::(D,W.listOf (List.toArray ys) ys.length)::news')→(∃ mC,LCg.NsObj oC mC)→J C n ys m' news'→(∀ p∈news',p.1≠C∧p.1∉[I,D,L])→D≠C→s.heap.get? D=none→s.heap.get? C=none→RR (.ref D) C (.ok .next) (up s h' tk))
    (hLIi:∀ i h,St i h→∃ l j,h.IsListIter I l j) (hPr:∀ i v,P i v→∃ t,v=.ref t) :
    wpAny (model prog w) A (newList []) (fun acc s₃=>wpAny (model prog w) A (newFunctionEnv scope env.globals cl [] env.qual none .none (some env)) (fun cenv s₄ =>
      codeAny (model prog w) A (.compStart (.ListComp elt [⟨.Tuple elts x1 tp,iter,[],0⟩] scope pos) 0 (.ref I) acc { cenv with scope:=relabel scope env }) (RR acc cenv.locals) s₄) E s₃) E s :=
  compBlkG Wk hn hex hst hLf hI0 F N hnI J (fun C _=>h0 C) (fun E' i v C D ys m₁ news₁ h₁ tk₁ own _ a b c d e f F N=>wpAny_mono (step E' i v C D ys m₁ news₁ h₁ tk₁ own a b c d (fun x hx=>let ⟨o,z⟩:=e x hx; ⟨o,(N (x,o) (List.mem_append_right _ z)).1⟩) f F N) (fun _ _ q=>wpAny_tests_nil (if_pos rfl ▸ q)) fun _ _ e=>e) hRR fun i v _ _ _ hP hs q=>by
    obtain ⟨t,rfl⟩:=hPr i v hP
    obtain ⟨l,j,z⟩:=hLIi _ _ hs
    exact wpAny_letOwnedTupleGo_listiter z q
theorem srcP {elt iter : Expr} {elts : List Expr} {x1 : Nat} {tp : Pos} {scope : Scope} {cl : List (Str × Addr)} {pos : Pos} {Q : Value → Shared → Prop} {use : Option (Value → Sem Unit)} {ax : Addr} {vs : List Value} (hh : A.handled = none) (F : Fr g L s.heap m) (N : News g L s.heap news) (hl : s.heap.IsList ax vs.toArray) (haL : ax ≠ L) (hz : vs.length ≤ 1000) (hv : ∀ v ∈ vs, ∃ t, v = Value.ref t)
    (J:Addr→Nat→List Value→(Str→Option Value)→List (Addr×Obj)→Prop) (h0:∀ C,J C 0 [] (fun _=>none) (celsOf (cellsFrom (C+1) scope.names [])++news))
    (step:∀ (E':Value→Shared→Prop) i v C D ys m₁ news₁ h₁ tk₁ own,vs[i]?=some v→J C i ys m₁ news₁→(∀ p∈news₁,p.1∉[s.heap.objs.size,D,L])→Fr g C h₁ m₁→News g C h₁ (news₁++own) →
      wpAny (model prog w) A (assign (.Tuple elts x1 tp) (compEnvC scope (cellsFrom (C+1) scope.names cl) C env) v) (fun _ s₂ =>
        wpAny (model prog w) A (eval elt (compEnvC scope (cellsFrom (C+1) scope.names cl) C env)) (fun y s₄=>CT s g C own [s.heap.objs.size,D,L] (J C (i+1) (ys++[y])) s₄) E' s₂) E' (up s h₁ tk₁))
    (fin:∀ D C h' tk m' oC ys news',Fr g L h' m→News g L h' ((C,oC)::(D,W.listOf (List.toArray ys) ys.length)::news')→(∃ mC,LCg.NsObj oC mC)→J C vs.length ys m' news'→(∀ p∈news',p.1≠C∧p.1∉[s.heap.objs.size,D,L])→D≠C→s.heap.get? D=none →
      compPost (model prog w) A E use Q (.ref D) C (.ok .next) (up s h' tk)) :
    wpAny (model prog w) A (pyIter (.ref ax)) (CBeg prog w A E env elt (.Tuple elts x1 tp) iter [] scope cl pos use Q) E s:=by
  refine wpAny_pyIter_list hl ?_
  have hne:ax≠s.heap.objs.size:=let ⟨_,ho,_⟩:=hl; Nat.ne_of_lt (Heap.lt_size ho)
  have hLs:L≠s.heap.objs.size:=Nat.ne_of_lt F.ns.lt
  have F':=F.push { cls:=.type "list_iterator",data:=.fields #[.ref ax,.int 0 0] }
  have N':News g L (s.heap.push { cls:=.type "list_iterator",data:=.fields #[.ref ax,.int 0 0] }) news:=(grow F N fun b o e=>Heap.get?_push_of_some _ e).2
  have e1:vs.toArray.size=vs.length:=by simp
  refine compBlkP (s:=up s (s.heap.push { cls:=.type "list_iterator",data:=.fields #[.ref ax,.int 0 0] }) s.toks) (n:=vs.toArray.size) (Walks.list hh s.heap.objs.size ax hne vs.toArray) (by rw [e1]; exact hz)
    (fun i h hs b hb=>by
      rcases List.mem_cons.mp hb with rfl | hb
      · exact let ⟨⟨o,z,_⟩,_⟩:=hs; ⟨o,z⟩
      · rw [List.mem_singleton] at hb; subst hb; exact let ⟨_,⟨o,z,_⟩⟩:=hs; ⟨o,z⟩)
    ⟨⟨_,Heap.get?_push_size _ rfl,rfl,rfl⟩,hl.push _⟩ (by simp [hLs,haL.symm]) (size_none F) F' N' (fun p hp=>Nat.ne_of_lt (Heap.lt_size (N p hp).1)) J h0
    (fun E' i v C D ys m₁ news₁ h₁ tk₁ own hi hP hJ hw _ _ F₁ N₁=>step E' i v C D ys m₁ news₁ h₁ tk₁ own (by simpa using hP) hJ hw F₁ N₁) (fun D C h' tk m' oC ys news' F' N' hC hJ hp hDC hD _=>fin D C h' tk m' oC ys news' F' N' hC (by rw [← e1]; exact hJ) hp hDC ?_)
    (fun i h hs=>⟨ax,i,hs.1⟩) (fun i v hP=>hv v (List.mem_of_getElem? (i:=i) (by simpa using hP)))
  cases z:s.heap.get? D with
  | none=>rfl
  | some o=>have:=Heap.get?_push_of_some { cls:=.type "list_iterator",data:=.fields #[.ref ax,.int 0 0] } z; rw [hD] at this; cases this
end
end
section
section
variable {prog:Program} {w:World} {A:Around} {E:Value→Shared→Prop} {s:Shared}
noncomputable def isAt (a:Addr):Value→Bool | .ref b=>a==b | _=>false
noncomputable def isStr (q:List Nat):Value→Bool | .str x _=>x==S q | _=>false
theorem idxRows {l : Addr} {R : List Addr} {rows : List (List (List Nat))} {j n : Nat} {Q : Value → Shared → Prop} (hu : A.units + 1 < cLine) (hl : s.heap.get? l = some (W.listOf (R.map Value.ref).toArray n)) (hj : j < R.length) (h6 : R.length ≤ 1000)
    (hX:∀ i,i<R.length→StrsAt s.heap (R.getD i 0) (rows.getD i [])) (hne:∀ i,i<R.length→i≠j→R.getD i 0≠R.getD j 0∧rows.getD i []≠rows.getD j [])
    (h:∀ t tk,Q (.int (j:Int) t) (tkd s tk)):wpAny (model prog w) A (call (.builtin "list.index") [.ref l,.ref (R.getD j 0)]) Q E s:=by
  have hsz:(R.map Value.ref).toArray.size=R.length:=by simp
  have hat:∀ i (hi:i<(R.map Value.ref).toArray.size),(R.map Value.ref).toArray[i]=.ref (R.getD i 0):=fun i hi=>by
    have hi':i<R.length:=by rw [← hsz]; exact hi
    simp [hi']
  refine call_meets PySem.F.slot_list_index (T:="list") ⟨_,hl,rfl⟩ PySem.F.entry_list_index (PySem.F.args_list_index_2 _ _) (SeqAt.list_indexAt l (R.map Value.ref).toArray n none #[] (.ref (R.getD j 0)) (isAt (R.getD j 0)) j (by rw [hsz]; exact hj) (by lia) ?_ fun i hi hij=>?_) ⟨hl,fun y hy=>?_,h _ _⟩
  · rw [hat]; show (R.getD j 0==R.getD j 0)=true; simp
  · rw [hat]; have:=(hne i (by rw [← hsz]; exact hi) (by lia)).1
    show (R.getD j 0==R.getD i 0)=false
    exact beq_eq_false_iff_ne.mpr (fun e=>this e.symm)
  · obtain ⟨i,hi,rfl⟩:=Array.getElem_of_mem hy
    have hi':i<R.length:=by rw [← hsz]; exact hi
    rw [hat]
    have:=eqa_rows (A:=A.in1) (hX i hi') (hX j hj) hu
    by_cases e:i=j
    · subst e
      rw [show isAt (R.getD i 0) (.ref (R.getD i 0))=(rows.getD i []==rows.getD i []) by show (R.getD i 0==R.getD i 0)=_; simp]
      exact this
    · have z:=hne i hi' e
      rw [show isAt (R.getD j 0) (.ref (R.getD i 0))=(rows.getD i []==rows.getD j []) by
        show (R.getD j 0==R.getD i 0)=_
        rw [beq_eq_false_iff_ne.mpr (fun e=>z.1 e.symm),beq_eq_false_iff_ne.mpr z.2]]
      exact this
theorem idxStrs {l:Addr} {zv:List Value} {qs:List (List Nat)} {j n:Nat} {t0:Tok} {Q:Value→Shared→Prop} (hl:s.heap.get? l=some (W.listOf zv.toArray n)) (hq:Strs zv qs) (hj:j<qs.length) (h6:qs.length≤1000)
    (hne:∀ i,i<j→qs.getD i []≠qs.getD j []) (h:∀ t tk,Q (.int (j:Int) t) (tkd s tk)):wpAny (model prog w) A (call (.builtin "list.index") [.ref l,.str (S (qs.getD j [])) t0]) Q E s:=by
  have hlen:=hq.length
  have hat:∀ i (hi:i<zv.toArray.size),∃ t,zv.toArray[i]=.str (S (qs.getD i [])) t:=fun i hi=>by
    have hi':i<qs.length:=by rw [← hlen]; simpa using hi
    obtain ⟨t,ht⟩:=hq.get i (qs.getD i []) (by simp [hi'])
    exact ⟨t,by
      have:=List.getElem?_eq_some_iff.mp ht
      simpa using this.2⟩
  refine call_meets PySem.F.slot_list_index (T:="list") ⟨_,hl,rfl⟩ PySem.F.entry_list_index (PySem.F.args_list_index_2 _ _) (SeqAt.list_indexAt l zv.toArray n none #[] (.str (S (qs.getD j [])) t0) (isStr (qs.getD j [])) j (by simp; lia) (by lia) ?_ fun i hi hij=>?_) ⟨hl,fun y hy=>?_,h _ _⟩
  · obtain ⟨t,e⟩:=hat j (by simp; lia)
    rw [e]; show (S (qs.getD j [])==S (qs.getD j []))=true; simp
  · obtain ⟨t,e⟩:=hat i hi
    rw [e]; show (S (qs.getD i [])==S (qs.getD j []))=false
    rw [S_beq]; exact beq_eq_false_iff_ne.mpr (hne i hij)
  · obtain ⟨i,hi,rfl⟩:=Array.getElem_of_mem hy
    obtain ⟨t,e⟩:=hat i hi
    rw [e]
    exact SeqAt.EqAt.str_str _ _ _ _
theorem ints_items {vs us:List Value} {ns ks:List Int} (h:IntsAre vs ns) (h':IntsAre us ks) (j:Nat) (h1:j<vs.toArray.size) (h2:j<us.toArray.size):SeqAt.EqAt A s vs.toArray[j] us.toArray[j] (ns.getD j 0==ks.getD j 0):=by
  have l1:=h.length
  have l2:=h'.length
  have g1:vs[j]?=some vs.toArray[j]:=by simp at h1; simp [h1]
  have g2:us[j]?=some us.toArray[j]:=by simp at h2; simp [h2]
  obtain ⟨a,t,e1,q1⟩:=ints_get h g1
  obtain ⟨b,u,e2,q2⟩:=ints_get h' g2
  rw [e1,e2,List.getD_eq_getElem?_getD,List.getD_eq_getElem?_getD,q1,q2]
  exact SeqAt.EqAt.int_int a t b u
theorem rcI_eq {l b:Addr} {vs us:List Value} {ns ks:List Int} {n n2:Nat} (hl:s.heap.get? l=some (W.listOf vs.toArray n)) (hb:s.heap.get? b=some (W.listOf us.toArray n2)) (h1:IntsAre vs ns) (h2:IntsAre us ks) (hu:A.units<cLine):SeqAt.RcAt A s (.ref l) (.ref b) (ns==ks):=by
  by_cases hz:ns.length=ks.length
  · have:=SeqAt.RcAt.lists (e:=fun j=>ns.getD j 0==ks.getD j 0) (s:=s) (A:=A) (items:=vs.toArray) (items2:=us.toArray) ⟨_,hl,rfl,_,rfl⟩ ⟨_,hb,rfl,_,rfl⟩ (by simp [h1.length,h2.length,hz]) hu (fun j a b=>ints_items h1 h2 j a b)
    rw [show vs.toArray.size=ns.length by simp [h1.length],all_eq 0 ns ks hz] at this
    exact this
  · have:=SeqAt.RcAt.lists_lengths (s:=s) (A:=A) (items:=vs.toArray) (items2:=us.toArray) ⟨_,hl,rfl,_,rfl⟩ ⟨_,hb,rfl,_,rfl⟩ (by simp [h1.length,h2.length,hz]) hu
    have e:(ns==ks)=false:=beq_eq_false_iff_ne.mpr fun q=>hz (by rw [q])
    rw [e]; exact this
theorem rcI_ne {l b:Addr} {vs us:List Value} {ns ks:List Int} {n n2:Nat} (hl:s.heap.get? l=some (W.listOf vs.toArray n)) (hb:s.heap.get? b=some (W.listOf us.toArray n2)) (h1:IntsAre vs ns) (h2:IntsAre us ks) (hu:A.units<cLine):SeqAt.RcNeAt A s (.ref l) (.ref b) (!(ns==ks)):=by
  by_cases hz:ns.length=ks.length
  · have:=SeqAt.RcNeAt.lists (e:=fun j=>ns.getD j 0==ks.getD j 0) (s:=s) (A:=A) (items:=vs.toArray) (items2:=us.toArray) ⟨_,hl,rfl,_,rfl⟩ ⟨_,hb,rfl,_,rfl⟩ (by simp [h1.length,h2.length,hz]) hu (fun j a b=>ints_items h1 h2 j a b)
    rw [show vs.toArray.size=ns.length by simp [h1.length],all_eq 0 ns ks hz] at this
    exact this
  · have:=SeqAt.RcNeAt.lists_lengths (s:=s) (A:=A) (items:=vs.toArray) (items2:=us.toArray) ⟨_,hl,rfl,_,rfl⟩ ⟨_,hb,rfl,_,rfl⟩ (by simp [h1.length,h2.length,hz]) hu
    have e:(ns==ks)=false:=beq_eq_false_iff_ne.mpr fun q=>hz (by rw [q])
    rw [e]; exact this
end
end
section
noncomputable def CStep2 (prog:Program) (w:World) (A:Around) (s:Shared) (env:Env) (g:Heap) (L:Addr) (target elt:Expr) (ifs:List Expr) (scope:Scope) (cl:List (Str×Addr)) (I:Addr) (fp:List Addr) (n:Nat) (P:Nat→Value→Prop)
    (J:Addr→Nat→List Value→(Str→Option Value)→List (Addr×Obj)→Prop):Prop :=
  ∀ (E' : Value → Shared → Prop) i v C D ys m₁ news₁ h₁ tk₁ own, (∀ p ∈ own, p.1 < C) → i < n → P i v → J C i ys m₁ news₁ → (∀ p ∈ news₁, p.1 ∉ [I, D, L]) → (∀ b ∈ [I, D, L], ∃ o, (b, o) ∈ own) → (∀ b ∈ fp, g.get? b = none → ∃ o, (b, o) ∈ own) → Fr g C h₁ m₁ → News g C h₁ (news₁ ++ own) →
      wpAny (model prog w) A (assign target (compEnvC scope (cellsFrom (C+1) scope.names cl) C env) v) (fun _ s₂ =>
        wpAny (model prog w) A (forIn ifs true fun c r=>if r=true then do let ok ← isTrue c (compEnvC scope (cellsFrom (C+1) scope.names cl) C env) (eval c (compEnvC scope (cellsFrom (C+1) scope.names cl) C env)); pure (ForInStep.yield ok) else pure (ForInStep.yield r)) (fun ok s₃ =>
          if ok=true then wpAny (model prog w) A (eval elt (compEnvC scope (cellsFrom (C+1) scope.names cl) C env)) (fun y s₄=>CT s g C own [I,D,L] (J C (i+1) (ys++[y])) s₄) E' s₃
          else CT s g C own [I,D,L] (J C (i+1) ys) s₃) E' s₂) E' (up s h₁ tk₁)
section
variable {prog:Program} {w:World} {A:Around} {E:Value→Shared→Prop} {s:Shared} {env:Env} {g:Heap} {L:Addr} {m:Str→Option Value} {news:List (Addr×Obj)}
theorem srcL2 {elt target iter:Expr} {ifs:List Expr} {scope:Scope} {cl:List (Str×Addr)} {pos:Pos} {Q:Value→Shared→Prop} {use:Option (Value→Sem Unit)} {ax:Addr} {vs:List Value} (hh:A.handled=none) (F:Fr g L s.heap m) (N:News g L s.heap news) (hl:s.heap.IsList ax vs.toArray) (haL:ax≠L) (hz:vs.length≤1000)
    (J:Addr→Nat→List Value→(Str→Option Value)→List (Addr×Obj)→Prop) (h0:∀ C,(∀ p∈news,p.1<C)→J C 0 [] (fun _=>none) (celsOf (cellsFrom (C+1) scope.names [])++news))
    (step:CStep2 prog w A s env g L target elt ifs scope cl s.heap.objs.size [s.heap.objs.size,ax] vs.length (fun i v=>vs[i]?=some v) J)
    (fin:∀ D C h' tk m' oC ys news',Fr g L h' m→News g L h' ((C,oC)::(D,W.listOf (List.toArray ys) ys.length)::news')→(∃ mC,LCg.NsObj oC mC)→J C vs.length ys m' news'→(∀ p∈news',p.1≠C∧p.1∉[s.heap.objs.size,D,L])→D≠C→s.heap.get? D=none →
      compPost (model prog w) A E use Q (.ref D) C (.ok .next) (up s h' tk))
    (ht:∀ v,letOwnedTupleGo target (.ref s.heap.objs.size) v=pure ():=by intro _; rfl) :
    wpAny (model prog w) A (pyIter (.ref ax)) (CBeg prog w A E env elt target iter ifs scope cl pos use Q) E s:=by
  refine wpAny_pyIter_list hl ?_
  have hne:ax≠s.heap.objs.size:=let ⟨_,ho,_⟩:=hl; Nat.ne_of_lt (Heap.lt_size ho)
  have hLs:L≠s.heap.objs.size:=Nat.ne_of_lt F.ns.lt
  have F':=F.push { cls:=.type "list_iterator",data:=.fields #[.ref ax,.int 0 0] }
  have N':News g L (s.heap.push { cls:=.type "list_iterator",data:=.fields #[.ref ax,.int 0 0] }) news:=(grow F N fun b o e=>Heap.get?_push_of_some _ e).2
  have e1:vs.toArray.size=vs.length:=by simp
  refine compBlkG (s:=up s (s.heap.push { cls:=.type "list_iterator",data:=.fields #[.ref ax,.int 0 0] }) s.toks) (n:=vs.toArray.size) (Walks.list hh s.heap.objs.size ax hne vs.toArray) (by rw [e1]; exact hz)
    (fun i h hs b hb=>by
      rcases List.mem_cons.mp hb with rfl | hb
      · exact let ⟨⟨o,z,_⟩,_⟩:=hs; ⟨o,z⟩
      · rw [List.mem_singleton] at hb; subst hb; exact let ⟨_,⟨o,z,_⟩⟩:=hs; ⟨o,z⟩)
    ⟨⟨_,Heap.get?_push_size _ rfl,rfl,rfl⟩,hl.push _⟩ (by simp [hLs,haL.symm]) (size_none F) F' N' (fun p hp=>Nat.ne_of_lt (Heap.lt_size (N p hp).1)) J h0
    (fun E' i v C D ys m₁ news₁ h₁ tk₁ own hlo hi hP=>step E' i v C D ys m₁ news₁ h₁ tk₁ own hlo (by rw [← e1]; exact hi) (by simpa using hP)) (fun D C h' tk m' oC ys news' F' N' hC hJ hp hDC hD _=>fin D C h' tk m' oC ys news' F' N' hC (by rw [← e1]; exact hJ) hp hDC ?_) (fun _ v _ _ _ _ _ q=>wpAny_of_eq (ht v) q)
  cases z:s.heap.get? D with
  | none=>rfl
  | some o=>have:=Heap.get?_push_of_some { cls:=.type "list_iterator",data:=.fields #[.ref ax,.int 0 0] } z; rw [hD] at this; cases this
end
end
section
noncomputable def mk3 (K:List Int) (S:Int→List Int) (f:Int→Int):List AN:=K.map fun k=>(k,f k,S k)
theorem mk3_congr {K:List Int} {S S':Int→List Int} {f f':Int→Int} (h1:∀ k∈K,f k=f' k) (h2:∀ k∈K,S k=S' k):mk3 K S f=mk3 K S' f' :=
  List.map_congr_left fun k hk=>by rw [h1 k hk,h2 k hk]
theorem mk3_any (K:List Int) (S:Int→List Int) (f:Int→Int) (k:Int):(mk3 K S f).any (fun e=>e.1==k)=decide (k∈K):=by
  unfold mk3
  rw [List.any_map]
  induction K with
  | nil=>rfl
  | cons a K ih =>
    rw [List.any_cons,ih]
    by_cases h:a=k
    · subst h; simp
    · have:¬ k=a:=fun e=>h e.symm
      simp [h,this]
theorem mk3_mod {K:List Int} {S:Int→List Int} {f:Int→Int} (k:Int) (g:AN→AN) (f':Int→Int) (S':Int→List Int) (hg:g (k,f k,S k)=(k,f' k,S' k)) (hf:∀ j,j≠k→f' j=f j) (hS:∀ j,j≠k→S' j=S j):modK k g (mk3 K S f)=mk3 K S' f':=by
  unfold modK mk3
  rw [List.map_map]
  refine List.map_congr_left fun j _=>?_
  by_cases e:j=k
  · subst e; simp [hg]
  · simp [e,hf j e,hS j e]
theorem mk3_find {K:List Int} {S:Int→List Int} {f:Int→Int} {k:Int} (hk:k∈K):(mk3 K S f).find? (fun e=>e.1==k)=some (k,f k,S k):=by
  unfold mk3
  induction K with
  | nil=>cases hk
  | cons a K ih =>
    rw [List.map_cons,List.find?_cons]
    by_cases e:a=k
    · subst e; simp
    · have:(a==k)=false:=by simpa using e
      simp only [this]
      exact ih (by rcases List.mem_cons.mp hk with q | q; exact absurd q.symm e; exact q)
theorem dec_mk {K:List Int} {S:Int→List Int} {f:Int→Int} {nd:List Int} {x:Int} (hx:x∈K):decStep (mk3 K S f,nd) x=(mk3 K S (fun j=>if j=x then f j - 1 else f j),if f x=1 then nd++[x] else nd):=by
  unfold decStep
  dsimp only
  rw [mk3_mod x (fun e=>(e.1,e.2.1 - 1,e.2.2)) (fun j=>if j=x then f j - 1 else f j) S (by simp) (fun j hj=>by simp [hj]) (fun _ _=>rfl)]
  unfold npOf
  rw [mk3_find hx]
  simp only [Option.map_some,if_true]
  by_cases e:f x=1
  · simp [e]
  · have:¬ f x - 1=0:=by lia
    simp [e,this]
theorem decs_mk {K : List Int} {S : Int → List Int} : ∀ (xs : List Int) (f : Int → Int) (nd : List Int), xs.Nodup → (∀ x ∈ xs, x ∈ K) →
    xs.foldl decStep (mk3 K S f,nd)=(mk3 K S (fun j=>if j∈xs then f j - 1 else f j),nd++xs.filter (fun x=>f x==1))
  | [],f,nd,_,_=>by simp
  | x::xs,f,nd,hn,hx=>by
    rw [List.nodup_cons] at hn
    rw [List.foldl_cons,dec_mk (hx x (.head _)),decs_mk xs _ _ hn.2 fun y hy=>hx y (.tail _ hy)]
    congr 1
    · refine mk3_congr (fun j _=>?_) fun _ _=>rfl
      by_cases e:j=x
      · subst e; simp [hn.1]
      · simp [e]
    · have:xs.filter (fun y=>(if y=x then f y - 1 else f y)==1)=xs.filter (fun y=>f y==1):=List.filter_congr fun y hy=>by
        have:y≠x:=fun e=>hn.1 (e ▸ hy)
        simp [this]
      rw [this,List.filter_cons]
      by_cases e:f x=1
      · simp [e]
      · simp [e]
theorem done1_mk {K:List Int} {S:Int→List Int} {f:Int→Int} {nd:List Int} {k:Int} (hk:k∈K) (hf:f k=-1) (hn:(S k).Nodup) (hS:∀ x∈S k,x∈K) (hks:k∉S k) :
    done1 (mk3 K S f,nd) k=some (mk3 K S (fun j=>if j=k then -2 else if j∈S k then f j - 1 else f j),nd++(S k).filter (fun x=>f x==1)):=by
  unfold done1
  dsimp only
  rw [mk3_find hk]
  dsimp only
  have h2:(S k).all (fun x=>(mk3 K S f).any fun e=>e.1==x)=true:=List.all_eq_true.mpr fun x hx=>by rw [mk3_any]; simpa using hS x hx
  rw [h2,if_pos (by simp [hf]),mk3_mod k (fun e=>(e.1,-2,e.2.2)) (fun j=>if j=k then -2 else f j) S (by simp) (fun j hj=>by simp [hj]) (fun _ _=>rfl),decs_mk _ _ _ hn hS]
  congr 2
  · refine mk3_congr (fun j _=>?_) fun _ _=>rfl
    by_cases e:j=k
    · subst e; simp [hks]
    · simp [e]
  · have:(S k).filter (fun x=>(if x=k then -2 else f x)==1)=(S k).filter (fun x=>f x==1):=List.filter_congr fun x hx=>by
      have:x≠k:=fun e=>hks (e ▸ hx)
      simp [this]
    rw [this]
noncomputable def cnt (S:Int→List Int) (R:List Int) (j:Int):Nat:=R.countP fun r=>decide (j∈S r)
theorem cnt_cons (S:Int→List Int) (r:Int) (R:List Int) (j:Int):cnt S (r::R) j=cnt S R j+if j∈S r then 1 else 0:=by
  unfold cnt
  rw [List.countP_cons]
  by_cases h:j∈S r <;> simp [h]
theorem cnt_pos {S:Int→List Int} {R:List Int} {j:Int}:0<cnt S R j ↔ ∃ r∈R,j∈S r:=by
  unfold cnt
  rw [List.countP_pos_iff]
  simp
theorem done_mk {K : List Int} {S : Int → List Int} : ∀ (R : List Int) (f : Int → Int) (nd : List Int), R.Nodup → (∀ r ∈ R, r ∈ K ∧ f r = -1 ∧ (S r).Nodup ∧ ∀ j ∈ S r, j ∈ K ∧ j ∉ R) → (∀ j, 0 < cnt S R j → (cnt S R j : Int) ≤ f j) → nd.Nodup → (∀ j ∈ nd, f j = 0) →
    ∃ nd',doneP (mk3 K S f,nd) R=some (mk3 K S (fun j=>if j∈R then -2 else f j - cnt S R j),nd')∧nd'.Nodup∧∀ j,j∈nd' ↔ (j∈nd∨(0<cnt S R j∧f j=cnt S R j))
  | [],f,nd,_,_,_,hnd,_=>⟨nd,by simp [doneP,cnt],hnd,fun j=>by simp [cnt]⟩
  | r :: R, f, nd, hn, hR, hc, hnd, h0 => by
    have hn':=List.nodup_cons.mp hn
    obtain ⟨rK,rf,rS,rj⟩:=hR r (.head _)
    have hrr:r∉S r:=fun q=>(rj r q).2 (.head _)
    have c0:cnt S R r=0:=by
      refine Nat.eq_zero_of_not_pos fun q=>?_
      obtain ⟨r',h',q⟩:=cnt_pos.mp q
      exact ((hR r' (.tail _ h')).2.2.2 r q).2 (.head _)
    have nr:∀ j,0<cnt S (r::R) j→j≠r∧j∉R:=fun j q=>by
      obtain ⟨r',h',q⟩:=cnt_pos.mp q
      have:=((hR r' h').2.2.2 j q).2
      exact ⟨fun e=>this (e ▸ .head _),fun e=>this (.tail _ e)⟩
    have f1:∀ j,0<cnt S (r::R) j→(cnt S R j:Int)+(if j∈S r then 1 else 0)≤f j:=fun j q=>by
      have:=hc j q
      rw [cnt_cons] at this
      split at this <;> simp_all
    have ih:=done_mk (K:=K) (S:=S) R (fun j=>if j=r then -2 else if j∈S r then f j - 1 else f j) (nd++(S r).filter (fun x=>f x==1)) hn'.2
    refine Exists.elim (ih (fun q hq=>?_) (fun j hj=>?_) ?_ ?_) ?_
    rotate_left 4
    · rintro nd' ⟨e1,e2,e3⟩
      refine ⟨nd',?_,e2,fun j=>?_⟩
      · unfold doneP
        rw [done1_mk rK rf rS (fun j hj=>(rj j hj).1) hrr]
        show doneP _ R=_
        rw [e1]
        congr 2
        refine mk3_congr (fun j _=>?_) fun _ _=>rfl
        rw [cnt_cons]
        by_cases e:j=r
        · subst e; simp [hn'.1,c0]
        · by_cases q:j∈R
          · simp [q]
          · by_cases z:j∈S r
            · simp [e,q,z]; lia
            · simp [e,q,z]
      · rw [e3 j,List.mem_append,List.mem_filter,cnt_cons]
        simp only [beq_iff_eq]
        constructor
        · rintro ((q | ⟨q,z⟩) | ⟨q,z⟩)
          · exact .inl q
          · right
            have p:0<cnt S (r::R) j:=cnt_pos.mpr ⟨r,.head _,q⟩
            have:=f1 j p
            simp only [q,if_true] at this ⊢
            lia
          · right
            have p:0<cnt S (r::R) j:=by rw [cnt_cons]; lia
            have nj:=(nr j p).1
            simp only [nj,if_false] at z
            split at z <;> rename_i y <;> simp [y] <;> lia
        · rintro (q | ⟨q,z⟩)
          · exact .inl (.inl q)
          · have p:0<cnt S (r::R) j:=by rw [cnt_cons]; lia
            have nj:=(nr j p).1
            by_cases y:j∈S r
            · simp only [y,if_true] at z q
              by_cases cz:cnt S R j=0
              · left; right; refine ⟨y,?_⟩; rw [z,cz]; rfl
              · right; refine ⟨by lia,?_⟩; simp only [nj,y,if_true,if_false]; lia
            · simp only [y,if_false] at z q
              right; refine ⟨by lia,?_⟩; simp only [nj,y,if_false]; lia
    · obtain ⟨a,b,c,d⟩:=hR q (.tail _ hq)
      have q1:q≠r:=fun e=>hn'.1 (e ▸ hq)
      have q2:q∉S r:=fun e=>(rj q e).2 (.tail _ hq)
      exact ⟨a,by simp only [q1,q2,if_false]; exact b,c,fun j hj=>⟨(d j hj).1,fun e=>(d j hj).2 (.tail _ e)⟩⟩
    · have p:0<cnt S (r::R) j:=by rw [cnt_cons]; lia
      have nj:=(nr j p).1
      have:=f1 j p
      simp only [nj,if_false]
      split <;> rename_i y <;> simp only [y,if_true,if_false] at this <;> lia
    · refine List.nodup_append.mpr ⟨hnd,rS.sublist List.filter_sublist,fun a ha b hb e=>?_⟩
      have:=h0 a ha
      rw [List.mem_filter] at hb
      have hb2:f b=1:=by simpa using hb.2
      rw [← e] at hb2; lia
    · intro j hj
      rcases List.mem_append.mp hj with q | q
      · have z:=h0 j q
        have j1:j≠r:=fun e=>by rw [e,rf] at z; lia
        have j2:j∉S r:=fun e=>by
          have:=f1 j (cnt_pos.mpr ⟨r,.head _,e⟩)
          simp only [e,if_true] at this
          lia
        simp only [j1,j2,if_false]; exact z
      · rw [List.mem_filter] at q
        have q2:f j=1:=by simpa using q.2
        have j1:j≠r:=fun e=>hrr (e ▸ q.1)
        simp only [j1,q.1,if_true,if_false]; lia
theorem out_mk {K:List Int} {S:Int→List Int}:∀ (R:List Int) (f:Int→Int),outP (mk3 K S f) R=mk3 K S (fun j=>if j∈R then -1 else f j)
  | [],f=>by simp [outP]
  | r::R,f=>by
    have:=out_mk (K:=K) (S:=S) R (fun j=>if j=r then -1 else f j)
    unfold outP at this ⊢
    rw [List.foldl_cons,mk3_mod r (fun e=>(e.1,-1,e.2.2)) (fun j=>if j=r then -1 else f j) S (by simp) (fun j hj=>by simp [hj]) (fun _ _=>rfl),this]
    refine mk3_congr (fun j _=>?_) fun _ _=>rfl
    by_cases e:j=r
    · subst e; simp
    · simp [e]
theorem nodup_le {α:Type} [DecidableEq α]:∀ (l K:List α),l.Nodup→(∀ x∈l,x∈K)→l.length≤K.length
  | [],_,_,_=>Nat.zero_le _
  | x::l,K,hn,h=>by
    rw [List.nodup_cons] at hn
    have hx:=h x (.head _)
    have:=nodup_le l (K.erase x) hn.2 fun y hy=>(List.mem_erase_of_ne (fun e=>hn.1 (by rw [← e]; exact hy))).mpr (h y (.tail _ hy))
    rw [List.length_erase_of_mem hx] at this
    have:0<K.length:=List.length_pos_of_mem hx
    simp only [List.length_cons]; lia
theorem rdAt_stored (rd : List (Int × Int)) (k x j : Int) : rdAt (storedI rd k x) j = if j = k then some x else rdAt rd j := by
  unfold storedI
  by_cases hc:rd.any (fun e=>decide (e.1=k))=true
  · rw [if_pos hc]
    unfold rdAt
    induction rd with
    | nil=>cases hc
    | cons e rd ih =>
      rw [List.map_cons,List.find?_cons,List.find?_cons]
      by_cases ek:e.1=k
      · simp only [ek,if_true]
        by_cases jk:j=k
        · subst jk; simp
        · have:¬ k=j:=fun q=>jk q.symm
          simp only [this,jk,decide_false,if_false]
          by_cases hc2:rd.any (fun e=>decide (e.1=k))=true
          · have:=ih hc2; simpa [jk] using this
          · have:rd.map (fun e=>if e.1=k then (e.1,x) else e)=rd:=by
              rw [List.map_congr_left (g:=id) fun e he=>?_,List.map_id]
              rw [if_neg fun q=>hc2 (List.any_eq_true.mpr ⟨e,he,by simpa using q⟩)]; rfl
            rw [this]
      · have hc2:rd.any (fun e=>decide (e.1=k))=true:=by simpa [ek] using hc
        rw [if_neg ek]
        by_cases ej:e.1=j
        · simp only [ej,decide_true]
          have:¬ j=k:=fun q=>ek (ej.trans q)
          simp [this,ej]
        · simp only [ej,decide_false]; exact ih hc2
  · rw [if_neg hc]
    unfold rdAt
    rw [List.find?_append]
    by_cases jk:j=k
    · subst jk
      have:rd.find? (fun e=>decide (e.1=j))=none:=List.find?_eq_none.mpr fun e he q=>hc (List.any_eq_true.mpr ⟨e,he,q⟩)
      simp [this]
    · have:¬ k=j:=fun q=>jk q.symm
      simp [this,jk]
theorem rdAt_fold (x:Int):∀ (R:List Int) (rd:List (Int×Int)) (j:Int),rdAt (R.foldl (fun rd k=>storedI rd k x) rd) j=if j∈R then some x else rdAt rd j
  | [],rd,j=>by simp
  | r::R,rd,j=>by
    rw [List.foldl_cons,rdAt_fold x R,rdAt_stored]
    by_cases e:j∈R <;> by_cases q:j=r <;> simp [e,q]
theorem len_fold (x:Int):∀ (R:List Int) (rd:List (Int×Int)),(R.foldl (fun rd k=>storedI rd k x) rd).length≤rd.length+R.length
  | [],rd=>by simp
  | r::R,rd=>by
    rw [List.foldl_cons]
    have:=len_fold x R (storedI rd r x)
    have:=storedI_length rd r x
    simp only [List.length_cons]; lia
theorem countP_swap {P R:List Int} (hP:P.Nodup) (hR:R.Nodup):R.countP (fun r=>decide (r∈P))=P.countP (fun p=>decide (p∈R)):=by
  rw [List.countP_eq_length_filter,List.countP_eq_length_filter]
  refine Nat.le_antisymm (nodup_le _ _ (hR.sublist List.filter_sublist) fun x hx=>?_) (nodup_le _ _ (hP.sublist List.filter_sublist) fun x hx=>?_)
  · rw [List.mem_filter] at hx ⊢
    exact ⟨by simpa using hx.2,by simpa using hx.1⟩
  · rw [List.mem_filter] at hx ⊢
    exact ⟨by simpa using hx.2,by simpa using hx.1⟩
theorem go_ok {K : List Int} {S P : Int → List Int} {dep : Int → Nat} (h6 : K.length ≤ 6) (hP : ∀ j ∈ K, (P j).Nodup) (hS : ∀ r ∈ K, (S r).Nodup) (hPS : ∀ r ∈ K, ∀ j, j ∈ S r ↔ (j ∈ K ∧ r ∈ P j))
    (h1:∀ j∈K,∀ p∈P j,p∈K∧dep p<dep j) (h2:∀ j∈K,0<dep j→∃ p∈P j,dep p+1=dep j) (h5:∀ j∈K,dep j<6):∀ (a t:Nat) (R:List Int) (rd:List (Int×Int)),a+t=6→R.Nodup→(∀ j,j∈R ↔ (j∈K∧dep j=t))→(∀ j∈K,dep j<t→rdAt rd j=some (dep j:Int))→rd.length≤6*t →
    ∃ rd',roundsGo (4+a) (mk3 K S fun j=>if dep j<t then -2 else ((P j).countP fun p=>decide (t≤dep p):Nat)) R rd t=some rd'∧∀ j∈K,rdAt rd' j=some (dep j:Int):=by
  intro a
  induction a with
  | zero =>
    intro t R rd ht hn hR hrd hl
    have:R=[]:=by
      cases R with
      | nil=>rfl
      | cons r R=>have:=(hR r).mp (.head _); have:=h5 r this.1; lia
    subst this
    refine ⟨rd,by unfold roundsGo; rw [if_pos rfl],fun j hj=>hrd j hj (by have:=h5 j hj; lia)⟩
  | succ a ih =>
    intro t R rd ht hn hR hrd hl
    by_cases hR0:R=[]
    · subst hR0
      refine ⟨rd,by rw [← Nat.add_assoc]; unfold roundsGo; rw [if_pos rfl],fun j hj=>hrd j hj ?_⟩
      have none:∀ d j,j∈K→dep j=t+d→False:=by
        intro d
        induction d with
        | zero=>intro j hj e; have:=(hR j).mpr ⟨hj,e⟩; cases this
        | succ d ihd =>
          intro j hj e
          obtain ⟨p,hp,e2⟩:=h2 j hj (by lia)
          exact ihd p (h1 j hj p hp).1 (by lia)
      by_cases hlt:dep j<t
      · exact hlt
      · exact (none (dep j - t) j hj (by lia)).elim
    · have hRK:∀ r∈R,r∈K:=fun r hr=>((hR r).mp hr).1
      have lR:=nodup_le R K hn hRK
      have hc:∀ j∈K,cnt S R j=(P j).countP (fun p=>decide (dep p=t)):=fun j hj=>by
        unfold cnt
        rw [List.countP_congr (p:=fun r=>decide (j∈S r)) (q:=fun r=>decide (r∈P j)) (l:=R) fun r hr=>by simp only [decide_eq_true_eq]; rw [hPS r (hRK r hr) j]; simp [hj],countP_swap (hP j hj) hn]
        refine List.countP_congr fun p hp=>?_
        simp only [decide_eq_true_eq]
        rw [hR p]
        exact ⟨fun q=>q.2,fun q=>⟨(h1 j hj p hp).1,q⟩⟩
      have hsplit:∀ j∈K,(P j).countP (fun p=>decide (t≤dep p))=(P j).countP (fun p=>decide (dep p=t))+(P j).countP (fun p=>decide (t+1≤dep p)):=fun j _=>by
        generalize P j=l
        induction l with
        | nil=>rfl
        | cons p l ihl =>
          rw [List.countP_cons,List.countP_cons,List.countP_cons,ihl]
          simp only [decide_eq_true_eq]
          rcases Nat.lt_trichotomy (dep p) t with q | q | q
          · rw [if_neg (by lia),if_neg (by lia),if_neg (by lia)]; lia
          · rw [if_pos (by lia),if_pos (by lia),if_neg (by lia)]; lia
          · rw [if_pos (by lia),if_neg (by lia),if_pos (by lia)]; lia
      have hpd:∀ j,0<cnt S R j→j∈K∧t<dep j∧j∉R:=fun j q=>by
        obtain ⟨r,hr,q⟩:=cnt_pos.mp q
        have z:=(hPS r (hRK r hr) j).mp q
        have y:=(h1 j z.1 r z.2).2
        have x:=((hR r).mp hr).2
        exact ⟨z.1,by lia,fun e=>by have:=((hR j).mp e).2; lia⟩
      obtain ⟨nd,e1,e2,e3⟩:=done_mk (K:=K) (S:=S) R (fun j=>if j∈R then -1 else if dep j<t then -2 else ((P j).countP fun p=>decide (t≤dep p):Nat)) [] hn (fun r hr=>⟨hRK r hr,by simp [hr],hS r (hRK r hr),fun j hj=>(fun z=>⟨z.1,z.2.2⟩) (hpd j (cnt_pos.mpr ⟨r,hr,hj⟩))⟩) (fun j hj=>by
          have z:=hpd j hj
          rw [if_neg z.2.2,if_neg (by lia),hc j z.1,hsplit j z.1]; lia) List.nodup_nil (fun j hj=>nomatch hj)
      obtain ⟨rd',g1,g2⟩:=ih (t+1) nd (R.foldl (fun rd k=>storedI rd k (t:Int)) rd) (by lia) e2 (fun j=>by
          rw [e3 j]
          constructor
          · rintro (q | ⟨q,z⟩)
            · cases q
            · have y:=hpd j q
              rw [if_neg y.2.2,if_neg (by lia),hc j y.1,hsplit j y.1] at z
              refine ⟨y.1,?_⟩
              by_cases d:dep j=t+1
              · exact d
              · obtain ⟨p,hp,e⟩:=h2 j y.1 (by lia)
                have:0<(P j).countP (fun p=>decide (t+1≤dep p)):=List.countP_pos_iff.mpr ⟨p,hp,by simp; lia⟩
                lia
          · rintro ⟨q,z⟩
            right
            obtain ⟨p,hp,e⟩:=h2 j q (by lia)
            have pk:=(h1 j q p hp).1
            have c0:0<cnt S R j:=cnt_pos.mpr ⟨p,(hR p).mpr ⟨pk,by lia⟩,(hPS p pk j).mpr ⟨q,hp⟩⟩
            refine ⟨c0,?_⟩
            rw [if_neg (hpd j c0).2.2,if_neg (by lia),hc j q,hsplit j q]
            have:(P j).countP (fun p=>decide (t+1≤dep p))=0:=List.countP_eq_zero.mpr fun p hp=>by have:=(h1 j q p hp).2; simp; lia
            lia) (fun j hj hlt=>by
          rw [rdAt_fold]
          by_cases q:j∈R
          · rw [if_pos q,((hR j).mp q).2]
          · rw [if_neg q]
            exact hrd j hj (by have:dep j≠t:=fun e=>q ((hR j).mpr ⟨hj,e⟩); lia)) (by have:=len_fold (t:Int) R rd; lia)
      refine ⟨rd',?_,g2⟩
      rw [← Nat.add_assoc]
      unfold roundsGo
      rw [if_neg hR0,if_pos,out_mk,e1]
      · show roundsGo (4+a) (mk3 K S _) nd _ ((t:Int)+1)=_
        rw [show ((t:Int)+1)=((t+1:Nat):Int) by lia,← g1]
        congr 1
        refine mk3_congr (fun j hj=>?_) fun _ _=>rfl
        by_cases q:j∈R
        · have:=((hR j).mp q).2
          rw [if_pos q,if_pos (by lia)]
        · rw [if_neg q,if_neg q]
          have:dep j≠t:=fun e=>q ((hR j).mpr ⟨hj,e⟩)
          by_cases y:dep j<t
          · have c0:cnt S R j=0:=Nat.eq_zero_of_not_pos fun z=>by have:=(hpd j z).2.1; lia
            rw [if_pos y,if_pos (by lia),c0]; rfl
          · rw [if_neg y,if_neg (by lia),hc j hj,hsplit j hj]; lia
      · simp only [Bool.and_eq_true,decide_eq_true_eq,List.all_eq_true]
        refine ⟨⟨fun k hk=>by rw [mk3_any]; simpa using hRK k hk,by lia⟩,by lia⟩
theorem touch_mk {K:List Int} {S:Int→List Int} {f:Int→Int} (k:Int) (hK:K.Nodup) (h0:∀ j,j∉K→f j=0∧S j=[]):∃ K',touch (mk3 K S f) k=mk3 K' S f∧K'.Nodup∧∀ j,j∈K' ↔ (j∈K∨j=k):=by
  unfold touch
  rw [mk3_any]
  by_cases h:k∈K
  · exact ⟨K,by rw [if_pos (by simpa using h)],hK,fun j=>⟨.inl,fun q=>q.elim id fun e=>e ▸ h⟩⟩
  · refine ⟨K++[k],?_,?_,fun j=>by simp⟩
    · rw [if_neg (by simpa using h)]
      unfold mk3
      rw [List.map_append,List.map_cons,List.map_nil,(h0 k h).1,(h0 k h).2]
    · exact List.nodup_append.mpr ⟨hK,by simp,fun a ha b hb e=>h (by rw [List.mem_singleton] at hb; rw [← hb,← e]; exact ha)⟩
theorem adds_mk {k:Int}:∀ (ps:List Int) (K:List Int) (S:Int→List Int) (f:Int→Int),ps.Nodup→K.Nodup→(∀ j,j∉K→f j=0∧S j=[]) →
    ∃ K',ps.foldl (addStep k) (mk3 K S f)=mk3 K' (fun q=>if q∈ps then S q++[k] else S q) f∧K'.Nodup∧∀ j,j∈K' ↔ (j∈K∨j∈ps)
  | [],K,S,f,_,hK,_=>⟨K,by simp,hK,by simp⟩
  | p::ps,K,S,f,hn,hK,h0=>by
    have hn':=List.nodup_cons.mp hn
    obtain ⟨K1,e1,e2,e3⟩:=touch_mk p hK h0
    obtain ⟨K2,g1,g2,g3⟩:=adds_mk (k:=k) ps K1 (fun q=>if q=p then S q++[k] else S q) f hn'.2 e2 fun j hj=>by
      have:=h0 j fun q=>hj ((e3 j).mpr (.inl q))
      exact ⟨this.1,by rw [if_neg fun e=>hj ((e3 j).mpr (.inr e))]; exact this.2⟩
    refine ⟨K2,?_,g2,fun j=>by rw [g3,e3,List.mem_cons,or_assoc]⟩
    rw [List.foldl_cons]
    unfold addStep at g1 ⊢
    rw [e1,mk3_mod p (fun e=>(e.1,e.2.1,e.2.2++[k])) f (fun q=>if q=p then S q++[k] else S q) (by simp) (fun _ _=>rfl) (fun j hj=>by simp [hj]),g1]
    refine mk3_congr (fun _ _=>rfl) fun j _=>?_
    by_cases e:j=p
    · subst e; simp [hn'.1]
    · simp [e]
noncomputable def sucs (P:Nat→List Int) (m:Nat) (r:Int):List Int:=toI ((List.range m).filter fun k=>decide (r∈P k))
theorem sucs_succ (P:Nat→List Int) (m:Nat) (r:Int):sucs P (m+1) r=if r∈P m then sucs P m r++[(m:Int)] else sucs P m r:=by
  unfold sucs toI
  rw [List.range_succ,List.filter_append]
  by_cases h:r∈P m
  · simp [h]
  · simp [h]
theorem st_mk (P : Nat → List Int) (hP : ∀ k, (P k).Nodup) : ∀ m : Nat, ∃ K, (List.range m).foldl (fun st (k : Nat) => addP st (k : Int) (P k)) [] = mk3 K (sucs P m) (fun j => if 0 ≤ j ∧ j < m then ((P j.toNat).length : Int) else 0) ∧ K.Nodup ∧ ∀ j, j ∈ K ↔ ∃ k, k < m ∧ (j = (k : Int) ∨ j ∈ P k)
  | 0=>⟨[],rfl,List.nodup_nil,fun j=>by simp⟩
  | m + 1 => by
    obtain ⟨K,e1,e2,e3⟩:=st_mk P hP m
    have h0:∀ j,j∉K→(fun j:Int=>if 0≤j∧j<m then ((P j.toNat).length:Int) else 0) j=0∧sucs P m j=[]:=fun j hj=>by
      refine ⟨if_neg fun q=>hj ((e3 j).mpr ⟨j.toNat,by lia,.inl (by lia)⟩),?_⟩
      unfold sucs
      have:(List.range m).filter (fun k=>decide (j∈P k))=[]:=List.filter_eq_nil_iff.mpr fun k hk q=>hj ((e3 j).mpr ⟨k,List.mem_range.mp hk,.inr (by simpa using q)⟩)
      rw [this]; rfl
    obtain ⟨K1,g1,g2,g3⟩:=touch_mk (m:Int) e2 h0
    have h0':∀ j,j∉K1→(fun j:Int=>if 0≤j∧j<(m+1:Nat) then ((P j.toNat).length:Int) else 0) j=0∧sucs P m j=[]:=fun j hj=>by
      have z:=h0 j fun q=>hj ((g3 j).mpr (.inl q))
      have y:j≠m:=fun e=>hj ((g3 j).mpr (.inr e))
      refine ⟨?_,z.2⟩
      have z1:=z.1
      simp only at z1 ⊢
      by_cases q:0≤j∧j<m
      · rw [if_pos q] at z1; rw [if_pos (by lia)]; exact z1
      · rw [if_neg (by lia)]
    obtain ⟨K2,l1,l2,l3⟩:=adds_mk (k:=(m:Int)) (P m) K1 (sucs P m) _ (hP m) g2 h0'
    refine ⟨K2,?_,l2,fun j=>?_⟩
    · rw [List.range_succ,List.foldl_append,e1]
      show addP _ (m:Int) (P m)=_
      unfold addP
      rw [g1,mk3_mod (m:Int) (fun e=>(e.1,e.2.1+((P m).length:Int),e.2.2)) (fun j:Int=>if 0≤j∧j<(m+1:Nat) then ((P j.toNat).length:Int) else 0) (sucs P m) ?_ (fun j hj=>?_) (fun _ _=>rfl),l1]
      · exact mk3_congr (fun _ _=>rfl) fun j _=>(sucs_succ P m j).symm
      · simp
        lia
      · by_cases q:0≤j∧j<(m+1:Nat)
        · rw [if_pos q,if_pos (by lia)]
        · rw [if_neg q,if_neg (by lia)]
    · rw [l3,g3,e3]
      constructor
      · rintro ((⟨k,a,b⟩ | q) | q)
        · exact ⟨k,by lia,b⟩
        · exact ⟨m,by lia,.inl q⟩
        · exact ⟨m,by lia,.inr q⟩
      · rintro ⟨k,a,b⟩
        by_cases e:k=m
        · subst e; rcases b with b | b
          · exact .inl (.inr b)
          · exact .inr b
        · exact .inl (.inl ⟨k,by lia,b⟩)
theorem predsOf_nodup (qs:List (List Nat)) (k:Nat):(toI (predsOf qs k)).Nodup:=by
  unfold toI predsOf
  refine List.pairwise_map.mpr (List.Pairwise.imp (R:=(·≠·)) (fun h e=>h (Int.ofNat.inj e)) ?_)
  exact (List.nodup_range).sublist List.filter_sublist
theorem mem_toI {l:List Nat} {j:Int}:j∈toI l ↔ ∃ k:Nat,k∈l∧j=(k:Int):=by
  unfold toI
  rw [List.mem_map]
  exact ⟨fun ⟨k,a,b⟩=>⟨k,a,b.symm⟩,fun ⟨k,a,b⟩=>⟨k,a,b.symm⟩⟩
theorem rounds_ok {qs : List (List Nat)} {dep : Nat → Nat} (h6 : qs.length ≤ 6) (h1 : ∀ k, k < qs.length → ∀ j ∈ predsOf qs k, dep j < dep k) (h2 : ∀ k, k < qs.length → 0 < dep k → ∃ j ∈ predsOf qs k, dep j + 1 = dep k) (h5 : ∀ k, k < qs.length → dep k < 6) :
    ∃ (rd:List (Int×Int)) (rk:Int→Nat),roundsGo 10 (roundsSt qs) (readyP (roundsSt qs)) [] 0=some rd∧(∀ k,k<qs.length→rdAt rd (k:Nat)=some (dep k:Int)) ∧
      ∀ e∈roundsSt qs,∀ x∈e.2.2,x∈(roundsSt qs).map (·.1)∧rk e.1<rk x:=by
  obtain ⟨K,e1,e2,e3⟩:=st_mk (fun k=>toI (predsOf qs k)) (predsOf_nodup qs) qs.length
  have pm:∀ k j,j∈predsOf qs k→j<qs.length:=fun k j hj=>by unfold predsOf at hj; exact List.mem_range.mp (List.mem_filter.mp hj).1
  have hK:∀ j,j∈K ↔ ∃ k:Nat,k<qs.length∧j=(k:Int):=fun j=>by
    rw [e3]
    constructor
    · rintro ⟨k,a,b | b⟩
      · exact ⟨k,a,b⟩
      · obtain ⟨i,c,rfl⟩:=mem_toI.mp b
        exact ⟨i,pm k i c,rfl⟩
    · rintro ⟨k,a,b⟩
      exact ⟨k,a,.inl b⟩
  have e0:roundsSt qs=mk3 K (sucs (fun k=>toI (predsOf qs k)) qs.length) (fun j=>if dep j.toNat<0 then -2 else (((toI (predsOf qs j.toNat)).countP fun p=>decide (0≤dep p.toNat):Nat):Int)):=by
    unfold roundsSt
    rw [e1]
    refine mk3_congr (fun j hj=>?_) fun _ _=>rfl
    obtain ⟨k,a,rfl⟩:=(hK j).mp hj
    rw [if_pos (by lia),if_neg (by lia)]
    have:((toI (predsOf qs (k:Int).toNat)).countP fun p=>decide (0≤dep p.toNat))=(toI (predsOf qs (k:Int).toNat)).length:=List.countP_eq_length.mpr fun p _=>by simp
    rw [this]
  have hS:∀ r∈K,∀ j,j∈sucs (fun k=>toI (predsOf qs k)) qs.length r ↔ (j∈K∧r∈toI (predsOf qs j.toNat)):=fun r hr j=>by
    unfold sucs
    rw [mem_toI]
    constructor
    · rintro ⟨k,a,rfl⟩
      rw [List.mem_filter,List.mem_range] at a
      exact ⟨(hK _).mpr ⟨k,a.1,rfl⟩,by simpa using a.2⟩
    · rintro ⟨a,b⟩
      obtain ⟨k,c,rfl⟩:=(hK j).mp a
      exact ⟨k,List.mem_filter.mpr ⟨List.mem_range.mpr c,by simpa using b⟩,rfl⟩
  have hlen:K.length≤6:=by
    have:=nodup_le K (toI (List.range qs.length)) e2 fun j hj=>by
      obtain ⟨k,a,b⟩:=(hK j).mp hj
      exact mem_toI.mpr ⟨k,List.mem_range.mpr a,b⟩
    unfold toI at this
    rw [List.length_map,List.length_range] at this
    lia
  have H1:∀ j∈K,∀ p∈toI (predsOf qs j.toNat),p∈K∧dep p.toNat<dep j.toNat:=fun j hj p hp=>by
    obtain ⟨k,a,rfl⟩:=(hK j).mp hj
    obtain ⟨i,c,rfl⟩:=mem_toI.mp hp
    exact ⟨(hK _).mpr ⟨i,pm _ i c,rfl⟩,h1 k a i c⟩
  have H2:∀ j∈K,0<dep j.toNat→∃ p∈toI (predsOf qs j.toNat),dep p.toNat+1=dep j.toNat:=fun j hj h=>by
    obtain ⟨k,a,rfl⟩:=(hK j).mp hj
    obtain ⟨i,c,e⟩:=h2 k a h
    exact ⟨(i:Int),mem_toI.mpr ⟨i,c,rfl⟩,e⟩
  have hready:∀ j,j∈readyP (roundsSt qs) ↔ (j∈K∧dep j.toNat=0):=fun j=>by
    rw [e0]
    unfold readyP mk3
    rw [List.filter_map,List.map_map,List.mem_map]
    constructor
    · rintro ⟨i,a,rfl⟩
      rw [List.mem_filter] at a
      refine ⟨a.1,Nat.eq_zero_of_not_pos fun q=>?_⟩
      obtain ⟨p,hp,e⟩:=H2 i a.1 q
      have z:=a.2
      simp only [Function.comp,beq_iff_eq] at z
      rw [if_neg (by lia)] at z
      have:0<(toI (predsOf qs i.toNat)).countP fun p=>decide (0≤dep p.toNat):=List.countP_pos_iff.mpr ⟨p,hp,by simp⟩
      lia
    · rintro ⟨a,b⟩
      refine ⟨j,List.mem_filter.mpr ⟨a,?_⟩,rfl⟩
      simp only [Function.comp,beq_iff_eq]
      rw [if_neg (by lia)]
      have:(toI (predsOf qs j.toNat)).countP (fun p=>decide (0≤dep p.toNat))=0:=List.countP_eq_zero.mpr fun p hp=>by have:=(H1 j a p hp).2; lia
      rw [this]; rfl
  have hrn:(readyP (roundsSt qs)).Nodup:=by
    rw [e0]
    unfold readyP mk3
    rw [List.filter_map,List.map_map]
    refine List.pairwise_map.mpr (List.Pairwise.imp (R:=(·≠·)) (fun h=>h) ?_)
    exact e2.sublist List.filter_sublist
  obtain ⟨rd,g1,g2⟩:=go_ok (K:=K) (S:=sucs (fun k=>toI (predsOf qs k)) qs.length) (P:=fun j=>toI (predsOf qs j.toNat)) (dep:=fun j=>dep j.toNat) hlen (fun j _=>predsOf_nodup qs _) (fun r _=>by
    unfold sucs toI
    refine List.pairwise_map.mpr (List.Pairwise.imp (R:=(·≠·)) (fun h e=>h (Int.ofNat.inj e)) ?_)
    exact (List.nodup_range).sublist List.filter_sublist) hS H1 H2 (fun j hj=>by obtain ⟨k,a,rfl⟩:=(hK j).mp hj; exact h5 k a) 6 0 (readyP (roundsSt qs)) [] rfl hrn hready (fun j hj q=>absurd q (Nat.not_lt_zero _)) (Nat.zero_le _)
  refine ⟨rd,fun j=>dep j.toNat,?_,fun k hk=>g2 k ((hK _).mpr ⟨k,hk,rfl⟩),fun e he x hx=>?_⟩
  · rw [← g1,← e0]; rfl
  · rw [e0] at he ⊢
    unfold mk3 at he ⊢
    obtain ⟨r,hr,rfl⟩:=List.mem_map.mp he
    have z:=(hS r hr x).mp hx
    exact ⟨by rw [List.map_map]; exact List.mem_map.mpr ⟨x,z.1,rfl⟩,(H1 x z.1 r z.2).2⟩
end
section
noncomputable def ent:List (List (List Nat)×List Nat×Nat×Nat):=[
  ([[]],[],0,84),
  ([[],[]],[13,10],1,21),
  ([[],[],[]],[13,10,13,10],2,6),
  ([[],[],[],[]],[13,10,13,10,13,10],3,3),
  ([[],[],[45]],[13,10,13,10,45],4,4),
  ([[],[],[46]],[13,10,13,10,46,46],5,5),
  ([[],[],[97]],[13,10,13,10,97],6,6),
  ([[],[45]],[13,10,45],7,11),
  ([[],[45],[]],[13,10,45,13,10],8,8),
  ([[],[45,45]],[13,10,45,45],9,9),
  ([[],[45,46]],[13,10,45,46],10,10),
  ([[],[45,97]],[13,10,45,97],11,11),
  ([[],[46]],[13,10,46,46],12,16),
  ([[],[46],[]],[13,10,46,46,13,10],13,13),
  ([[],[46,45]],[13,10,46,46,45],14,14),
  ([[],[46,46]],[13,10,46,46,46],15,15),
  ([[],[46,97]],[13,10,46,46,97],16,16),
  ([[],[97]],[13,10,97],17,21),
  ([[],[97],[]],[13,10,97,13,10],18,18),
  ([[],[97,45]],[13,10,97,45],19,19),
  ([[],[97,46]],[13,10,97,46],20,20),
  ([[],[97,97]],[13,10,97,97],21,21),
  ([[45]],[45],22,42),
  ([[45],[]],[45,13,10],23,27),
  ([[45],[],[]],[45,13,10,13,10],24,24),
  ([[45],[45]],[45,13,10,45],25,25),
  ([[45],[46]],[45,13,10,46,46],26,26),
  ([[45],[97]],[45,13,10,97],27,27),
  ([[45,45]],[45,45],28,32),
  ([[45,45],[]],[45,45,13,10],29,29),
  ([[45,45,45]],[45,45,45],30,30),
  ([[45,45,46]],[45,45,46],31,31),
  ([[45,45,97]],[45,45,97],32,32),
  ([[45,46]],[45,46],33,37),
  ([[45,46],[]],[45,46,13,10],34,34),
  ([[45,46,45]],[45,46,45],35,35),
  ([[45,46,46]],[45,46,46],36,36),
  ([[45,46,97]],[45,46,97],37,37),
  ([[45,97]],[45,97],38,42),
  ([[45,97],[]],[45,97,13,10],39,39),
  ([[45,97,45]],[45,97,45],40,40),
  ([[45,97,46]],[45,97,46],41,41),
  ([[45,97,97]],[45,97,97],42,42),
  ([[46]],[46,46],43,63),
  ([[46],[]],[46,46,13,10],44,48),
  ([[46],[],[]],[46,46,13,10,13,10],45,45),
  ([[46],[45]],[46,46,13,10,45],46,46),
  ([[46],[46]],[46,46,13,10,46,46],47,47),
  ([[46],[97]],[46,46,13,10,97],48,48),
  ([[46,45]],[46,46,45],49,53),
  ([[46,45],[]],[46,46,45,13,10],50,50),
  ([[46,45,45]],[46,46,45,45],51,51),
  ([[46,45,46]],[46,46,45,46],52,52),
  ([[46,45,97]],[46,46,45,97],53,53),
  ([[46,46]],[46,46,46],54,58),
  ([[46,46],[]],[46,46,46,13,10],55,55),
  ([[46,46,45]],[46,46,46,45],56,56),
  ([[46,46,46]],[46,46,46,46],57,57),
  ([[46,46,97]],[46,46,46,97],58,58),
  ([[46,97]],[46,46,97],59,63),
  ([[46,97],[]],[46,46,97,13,10],60,60),
  ([[46,97,45]],[46,46,97,45],61,61),
  ([[46,97,46]],[46,46,97,46],62,62),
  ([[46,97,97]],[46,46,97,97],63,63),
  ([[97]],[97],64,84),
  ([[97],[]],[97,13,10],65,69),
  ([[97],[],[]],[97,13,10,13,10],66,66),
  ([[97],[45]],[97,13,10,45],67,67),
  ([[97],[46]],[97,13,10,46,46],68,68),
  ([[97],[97]],[97,13,10,97],69,69),
  ([[97,45]],[97,45],70,74),
  ([[97,45],[]],[97,45,13,10],71,71),
  ([[97,45,45]],[97,45,45],72,72),
  ([[97,45,46]],[97,45,46],73,73),
  ([[97,45,97]],[97,45,97],74,74),
  ([[97,46]],[97,46],75,79),
  ([[97,46],[]],[97,46,13,10],76,76),
  ([[97,46,45]],[97,46,45],77,77),
  ([[97,46,46]],[97,46,46],78,78),
  ([[97,46,97]],[97,46,97],79,79),
  ([[97,97]],[97,97],80,84),
  ([[97,97],[]],[97,97,13,10],81,81),
  ([[97,97,45]],[97,97,45],82,82),
  ([[97,97,46]],[97,97,46],83,83),
  ([[97,97,97]],[97,97,97],84,84)
]
theorem ent_sent:ent.all (fun e=>sentOf e.1==e.2.1 && e.1 != [] && decide (e.2.1.length≤20))=true:=by decide +kernel
noncomputable def inEnt (toks:List Nat):Bool:=ent.any fun e=>e.1==rowsOf toks
theorem ine0:(alltoks 0).all inEnt=true:=by decide +kernel
theorem ine1:(alltoks 1).all inEnt=true:=by decide +kernel
theorem ine2:(alltoks 2).all inEnt=true:=by decide +kernel
theorem ine3:(alltoks 3).all inEnt=true:=by decide +kernel
theorem ent_mem {toks:List Nat} (h3:toks.length≤3) (h6:∀ t∈toks,t<6):∃ e∈ent,e.1=rowsOf toks:=by
  have hm:=mem_alltoks toks h6
  have:inEnt toks=true:=by
    have:toks.length=0∨toks.length=1∨toks.length=2∨toks.length=3:=by lia
    rcases this with e | e | e | e <;> rw [e] at hm
    · exact List.all_eq_true.mp ine0 _ hm
    · exact List.all_eq_true.mp ine1 _ hm
    · exact List.all_eq_true.mp ine2 _ hm
    · exact List.all_eq_true.mp ine3 _ hm
  obtain ⟨e,a,b⟩:=List.any_eq_true.mp this
  exact ⟨e,a,eq_of_beq b⟩
noncomputable def prOk (a b:List (List Nat)×List Nat×Nat×Nat):Bool :=
  (ltRows a.1 b.1==decide (a.2.2.1<b.2.2.1)) && (sLt a.2.1 b.2.1==decide (a.2.2.1<b.2.2.1)) && (begins a.1 b.1==(decide (a.2.2.1<b.2.2.1) && decide (b.2.2.1≤a.2.2.2))) &&
  ((b.2.1.take a.2.1.length==a.2.1)==(decide (a.2.2.1≤b.2.2.1) && decide (b.2.2.1≤a.2.2.2))) && (!(decide (a.2.2.1≤b.2.2.1) && decide (b.2.2.1≤a.2.2.2)) || decide (b.2.2.2≤a.2.2.2)) && (decide (a.2.2.1≤a.2.2.2)) && (!(a.2.2.1==b.2.2.1) || a.1==b.1)
theorem pr_ok:ent.all (fun a=>ent.all fun b=>prOk a b)=true:=by decide +kernel
structure PrOk (a b:List (List Nat)×List Nat×Nat×Nat):Prop where
  ltr:ltRows a.1 b.1=decide (a.2.2.1<b.2.2.1)
  slt:sLt (sentOf a.1) (sentOf b.1)=decide (a.2.2.1<b.2.2.1)
  beg:begins a.1 b.1=(decide (a.2.2.1<b.2.2.1) && decide (b.2.2.1≤a.2.2.2))
  pre:((sentOf b.1).take (sentOf a.1).length==sentOf a.1)=(decide (a.2.2.1≤b.2.2.1) && decide (b.2.2.1≤a.2.2.2))
  lam:a.2.2.1≤b.2.2.1→b.2.2.1≤a.2.2.2→b.2.2.2≤a.2.2.2
  self:a.2.2.1≤a.2.2.2
  inj:a.2.2.1=b.2.2.1→a.1=b.1
  ne:a.1≠[]
  sz:(sentOf a.1).length≤20
theorem pr_of {a b:List (List Nat)×List Nat×Nat×Nat} (ha:a∈ent) (hb:b∈ent):PrOk a b:=by
  have z:=List.all_eq_true.mp (List.all_eq_true.mp pr_ok a ha) b hb
  have sa:=List.all_eq_true.mp ent_sent a ha
  have sb:=List.all_eq_true.mp ent_sent b hb
  unfold prOk at z
  simp only [Bool.and_eq_true,beq_iff_eq,decide_eq_true_eq,bne_iff_ne] at z sa sb
  obtain ⟨⟨⟨⟨⟨⟨z1,z2⟩,z3⟩,z4⟩,z5⟩,z6⟩,z7⟩:=z
  obtain ⟨⟨sa,sn⟩,ss⟩:=sa
  obtain ⟨⟨sb,_⟩,_⟩:=sb
  refine ⟨z1,by rw [sa,sb]; exact z2,z3,by rw [sa,sb]; exact z4,fun h1 h2=>?_,z6,fun h=>?_,sn,by rw [sa]; exact ss⟩
  · simpa [h1,h2] using z5
  · simpa [h] using z7
end
section
noncomputable def ltL (l:List Nat) (i j:Nat):Bool:=decide (l.getD i 0<l.getD j 0)
noncomputable def arr:Nat→List Nat→List (List Nat)
  | 0,_=>[[]]
  | k+1,pool=>pool.flatMap fun x=>(arr k (pool.erase x)).map (x::·)
theorem mem_arr:∀ (l pool:List Nat),l.Nodup→(∀ x∈l,x∈pool)→l∈arr l.length pool
  | [],_,_,_=>.head _
  | x::l,pool,hn,h=>by
    rw [List.nodup_cons] at hn
    refine List.mem_flatMap.mpr ⟨x,h x (.head _),List.mem_map.mpr ⟨l,mem_arr l _ hn.2 fun y hy=>?_,rfl⟩⟩
    exact (List.mem_erase_of_ne (fun e=>hn.1 (by rw [← e]; exact hy))).mpr (h y (.tail _ hy))
noncomputable def ordL (n:Nat) (l:List Nat):List Nat:=(List.range n).map fun r=>l.idxOf (r+1)
noncomputable def permOk (n:Nat) (l:List Nat):Bool :=
  ((sideP (ltL l) n).1==ordL n l) && (sideP (ltL l) n).2.all id && (decide (n<2) || (runK n (ltL l) (kas_sort n)).map (·.toList)==some (ordL n l)) && (ordL n l).isPerm (List.range n) && (List.range n).all fun r=>l.getD ((ordL n l).getD r 0) 0==r+1
theorem pm1:(arr 1 [1]).all (permOk 1)=true:=by decide +kernel
theorem pm2:(arr 2 [1,2]).all (permOk 2)=true:=by decide +kernel
theorem pm3:(arr 3 [1,2,3]).all (permOk 3)=true:=by decide +kernel
theorem pm4:(arr 4 [1,2,3,4]).all (permOk 4)=true:=by decide +kernel
theorem pm5:(arr 5 [1,2,3,4,5]).all (permOk 5)=true:=by decide +kernel
theorem pm61:((arr 5 [2,3,4,5,6]).map (1::·)).all (permOk 6)=true:=by decide +kernel
theorem pm62:((arr 5 [1,3,4,5,6]).map (2::·)).all (permOk 6)=true:=by decide +kernel
theorem pm63:((arr 5 [1,2,4,5,6]).map (3::·)).all (permOk 6)=true:=by decide +kernel
theorem pm64:((arr 5 [1,2,3,5,6]).map (4::·)).all (permOk 6)=true:=by decide +kernel
theorem pm65:((arr 5 [1,2,3,4,6]).map (5::·)).all (permOk 6)=true:=by decide +kernel
theorem pm66:((arr 5 [1,2,3,4,5]).map (6::·)).all (permOk 6)=true:=by decide +kernel
theorem perm_ok {n:Nat} (h1:1≤n) (h6:n≤6) {l:List Nat} (hl:l.length=n) (hn:l.Nodup) (hm:∀ x∈l,1≤x∧x≤n):permOk n l=true:=by
  have key:∀ pool:List Nat,(∀ x,1≤x→x≤n→x∈pool)→(arr n pool).all (permOk n)=true→permOk n l=true:=fun pool hp ha =>
    List.all_eq_true.mp ha l (hl ▸ mem_arr l pool hn fun x hx=>hp x (hm x hx).1 (hm x hx).2)
  have:n=1∨n=2∨n=3∨n=4∨n=5∨n=6:=by lia
  rcases this with rfl | rfl | rfl | rfl | rfl | rfl
  · exact key _ (fun x a b=>by simp; lia) pm1
  · exact key _ (fun x a b=>by simp; lia) pm2
  · exact key _ (fun x a b=>by simp; lia) pm3
  · exact key _ (fun x a b=>by simp; lia) pm4
  · exact key _ (fun x a b=>by simp; lia) pm5
  · have hm:=mem_arr l [1,2,3,4,5,6] hn fun x hx=>by have:=hm x hx; simp; lia
    rw [hl] at hm
    obtain ⟨a,ha,hm⟩:=List.mem_flatMap.mp (show l∈[1,2,3,4,5,6].flatMap fun x=>(arr 5 ([1,2,3,4,5,6].erase x)).map (x::·) from hm)
    have:a=1∨a=2∨a=3∨a=4∨a=5∨a=6:=by simpa using ha
    rcases this with rfl | rfl | rfl | rfl | rfl | rfl
    · exact List.all_eq_true.mp pm61 _ hm
    · exact List.all_eq_true.mp pm62 _ hm
    · exact List.all_eq_true.mp pm63 _ hm
    · exact List.all_eq_true.mp pm64 _ hm
    · exact List.all_eq_true.mp pm65 _ hm
    · exact List.all_eq_true.mp pm66 _ hm
end
section
noncomputable def lamL (n:Nat):Nat→List (List Nat)
  | 0=>[[]]
  | k+1=>(lamL n k).flatMap fun l=>((List.range n).filter fun y=>decide (k≤y) && (List.range k).all fun s=>!decide (k≤l.getD s 0) || decide (y≤l.getD s 0)).map fun y=>l++[y]
theorem mem_lamL {n:Nat} {Y:Nat→Nat} (hb:∀ k,k<n→k≤Y k∧Y k<n) (hl:∀ s k,s<k→k<n→k≤Y s→Y k≤Y s):∀ m,m≤n→(List.range m).map Y∈lamL n m
  | 0,_=>.head _
  | m+1,hm=>by
    rw [List.range_succ,List.map_append]
    refine List.mem_flatMap.mpr ⟨_,mem_lamL hb hl m (by lia),List.mem_map.mpr ⟨Y m,List.mem_filter.mpr ⟨List.mem_range.mpr (hb m hm).2,?_⟩,rfl⟩⟩
    have e:∀ s,s<m→((List.range m).map Y).getD s 0=Y s:=fun s hs=>by simp [hs]
    simp only [Bool.and_eq_true,decide_eq_true_eq,List.all_eq_true,Bool.or_eq_true,Bool.not_eq_true',decide_eq_false_iff_not]
    refine ⟨(hb m hm).1,fun s hs=>?_⟩
    rw [e s (List.mem_range.mp hs)]
    by_cases q:m≤Y s
    · exact .inr (hl s m (List.mem_range.mp hs) hm q)
    · exact .inl q
noncomputable def depY (Y:List Nat) (r:Nat):Nat:=((List.range Y.length).filter fun s=>decide (s<r) && decide (r≤Y.getD s 0)).length
noncomputable def grY (Y:List Nat) (r:Nat):Nat:=((List.range Y.length).filter fun s=>decide (r<s) && !decide (s≤Y.getD r 0)).length
noncomputable def dpY (Y:List Nat):List Int:=(List.range Y.length).map fun r=>(depY Y r:Int)
noncomputable def dueY (Y:List Nat):List (Int×Int):=(List.range Y.length).map fun r=>((depY Y r:Int)+(grY Y r:Int),(r:Int))
structure Tree (n:Nat) (dp:List Int) (due:List (Int×Int)) (ws:List Nat):Prop where
  bd:Bd 500 500 (initP (toldP dp))
  hrk:∀ e∈initP (toldP dp),∀ x∈e.2.2,x∈(initP (toldP dp)).map (·.1)∧e.1.toNat<x.toNat
  go:lastGo 20 (initP (toldP dp)) (readyP (initP (toldP dp))) [] 0 0 []=some ws
  one:n=1→ws=[0]
  run:2≤n→∃ p,runK n (fun i j=>ltPr (due.getD i (0,0)) (due.getD j (0,0))) (kas_sort n)=some p∧p.toList=ws
  wlt:∀ i∈ws,i<n
  wln:ws.length≤n
noncomputable def treeOk (n:Nat) (dp:List Int) (due:List (Int×Int)) (st:List AN):Bool:=match lastGo 20 st (readyP st) [] 0 0 [] with
  | none=>false
  | some ws=>st.all (fun e=>decide (e.2.2.length≤500) && e.2.2.all fun x=>st.any (fun e=>e.1==x) && decide (e.1.toNat<x.toNat)) && decide (st.length≤500) && ws.all (fun i=>decide (i<n)) && decide (ws.length≤n) && (if n<2 then ws==[0] else (runK n (fun i j=>ltPr (due.getD i (0,0)) (due.getD j (0,0))) (kas_sort n)).map (·.toList)==some ws)
theorem tree_of {n:Nat} {dp:List Int} {due:List (Int×Int)} (h:treeOk n dp due (initP (toldP dp))=true):∃ ws,Tree n dp due ws:=by
  unfold treeOk at h
  split at h
  · cases h
  rename_i ws hgo
  simp only [Bool.and_eq_true,decide_eq_true_eq,List.all_eq_true,List.any_eq_true,beq_iff_eq] at h
  obtain ⟨⟨⟨⟨h1,h2⟩,h3⟩,h5⟩,h4⟩:=h
  refine ⟨ws,⟨fun e he=>(h1 e he).1,h2⟩,fun e he x hx=>?_,hgo,fun e=>?_,fun e=>?_,h3,h5⟩
  · obtain ⟨⟨y,hy,e2⟩,b⟩:=(h1 e he).2 x hx
    exact ⟨List.mem_map.mpr ⟨y,hy,e2⟩,b⟩
  · rw [if_pos (by lia)] at h4; exact eq_of_beq h4
  · rw [if_neg (by lia)] at h4
    obtain ⟨p,hp,e⟩:=Option.map_eq_some_iff.mp (eq_of_beq h4)
    exact ⟨p,hp,e⟩
noncomputable def lamOk (Y:List Nat):Bool:=treeOk Y.length (dpY Y) (dueY Y) (initP (toldP (dpY Y)))
theorem lm1:(lamL 1 1).all lamOk=true:=by decide +kernel
theorem lm2:(lamL 2 2).all lamOk=true:=by decide +kernel
theorem lm3:(lamL 3 3).all lamOk=true:=by decide +kernel
theorem lm4:(lamL 4 4).all lamOk=true:=by decide +kernel
theorem lm5:(lamL 5 5).all lamOk=true:=by decide +kernel
theorem lm6:(lamL 6 6).all lamOk=true:=by decide +kernel
theorem lam_ok {n:Nat} {Y:Nat→Nat} (h1:1≤n) (h6:n≤6) (hb:∀ k,k<n→k≤Y k∧Y k<n) (hl:∀ s k,s<k→k<n→k≤Y s→Y k≤Y s):∃ ws,Tree n (dpY ((List.range n).map Y)) (dueY ((List.range n).map Y)) ws:=by
  have hm:=mem_lamL hb hl n (Nat.le_refl _)
  have:lamOk ((List.range n).map Y)=true:=by
    have:n=1∨n=2∨n=3∨n=4∨n=5∨n=6:=by lia
    rcases this with rfl | rfl | rfl | rfl | rfl | rfl
    · exact List.all_eq_true.mp lm1 _ hm
    · exact List.all_eq_true.mp lm2 _ hm
    · exact List.all_eq_true.mp lm3 _ hm
    · exact List.all_eq_true.mp lm4 _ hm
    · exact List.all_eq_true.mp lm5 _ hm
    · exact List.all_eq_true.mp lm6 _ hm
  unfold lamOk at this
  have e:((List.range n).map Y).length=n:=by simp
  rw [e] at this
  exact tree_of this
end
section
noncomputable def ltI (rws:List (List (List Nat))) (i j:Nat):Bool:=ltRows (rws.getD i []) (rws.getD j [])
noncomputable def dueOf (n:Nat) (ord:List Nat) (dep gr:Nat→Nat):List (Int×Int):=(List.range n).map fun r=>((dep (ord.getD r 0):Int)+(gr (ord.getD r 0):Int),(r:Int))
structure Plain (rws:List (List (List Nat))) (ord:List Nat) (rk:Int→Nat) (rd:List (Int×Int)) (dep gr:Nat→Nat) (ws:List Nat):Prop where
  lts:∀ i<rws.length,∀ j<rws.length,sLt (sentOf (rws.getD i [])) (sentOf (rws.getD j []))=ltI rws i j
  side1:(sideP (ltI rws) rws.length).1=ord
  side2:(sideP (ltI rws) rws.length).2.all id=true
  one:rws.length=1→ord=[0]
  run:2≤rws.length→∃ p,runK rws.length (ltI rws) (kas_sort rws.length)=some p∧p.toList=ord
  olt:∀ i∈ord,i<rws.length
  oln:ord.length=rws.length
  hrk:∀ e∈roundsSt (rws.map sentOf),∀ x∈e.2.2,x∈(roundsSt (rws.map sentOf)).map (·.1)∧rk e.1<rk x
  hgo:roundsGo 10 (roundsSt (rws.map sentOf)) (readyP (roundsSt (rws.map sentOf))) [] 0=some rd
  hrd:∀ k<rws.length,rdAt rd (k:Nat)=some (dep k:Int)
  hdep:∀ k<rws.length,dep k=(rws.filter fun x=>begins x (rws.getD k [])).length
  hgr:∀ k<rws.length,gr k=(rws.filter fun x=>ltRows (rws.getD k []) x && !begins (rws.getD k []) x).length
  sne:∀ i<rws.length,∀ j<rws.length,i≠j→(rws.map sentOf).getD i []≠(rws.map sentOf).getD j []
  ssz:∀ q∈rws.map sentOf,q.length≤1000
  tree:Tree rws.length (ord.map fun k=>(dep k:Int)) (dueOf rws.length ord dep gr) ws
end
section
theorem cnt_succ {a : Nat} {p q : Nat → Bool} : ∀ l : List Nat, l.Nodup → a ∈ l → p a = false → (∀ i ∈ l, q i = true ↔ (p i = true ∨ i = a)) → l.countP q = l.countP p + 1
  | [],_,h,_,_=>nomatch h
  | b::l,hn,ha,hp,h=>by
    have hn':=List.nodup_cons.mp hn
    rw [List.countP_cons,List.countP_cons]
    by_cases e:b=a
    · subst e
      have h1:q b=true:=(h b (.head _)).mpr (.inr rfl)
      have:l.countP q=l.countP p:=List.countP_congr fun i hi=>by
        rw [h i (.tail _ hi)]
        exact ⟨fun z=>z.elim id fun e=>absurd (e ▸ hi) hn'.1,.inl⟩
      rw [this,if_pos h1,if_neg (by simp [hp])]
    · have ih:=cnt_succ l hn'.2 (by rcases List.mem_cons.mp ha with q | q; exact absurd q.symm e; exact q) hp fun i hi=>h i (.tail _ hi)
      have:q b=p b:=by
        have:=h b (.head _)
        cases hq:q b <;> cases hpp:p b <;> simp_all
      rw [ih,this]; lia
theorem cnt_lt {a:Nat} {p q:Nat→Bool} {l:List Nat} (hn:l.Nodup) (ha:a∈l) (hp:p a=false) (hq:q a=true) (h:∀ i∈l,p i=true→q i=true):l.countP p<l.countP q:=by
  have h1:=cnt_succ (q:=fun i=>p i || i==a) l hn ha hp fun i _=>by simp
  have h2:l.countP (fun i=>p i || i==a)≤l.countP q:=List.countP_mono_left fun i hi z=>by
    simp only [Bool.or_eq_true,beq_iff_eq] at z
    rcases z with z | rfl
    · exact h i hi z
    · exact hq
  lia
theorem cnt_perm {l l':List Nat} (h:l.Perm l') (p:Nat→Bool):l.countP p=l'.countP p:=h.countP_eq p
theorem last_place {n : Nat} {X : Nat → Nat} (hX : ∀ r s, r < s → s < n → X r < X s) (b : Nat) : ∀ m r, r < n → r + m = n → ∃ y, r ≤ y ∧ y < n ∧ ∀ s, r < s → s < n → (X s ≤ b ↔ s ≤ y) := by
  intro m
  induction m with
  | zero=>intro r h1 h2; lia
  | succ m ih =>
    intro r h1 h2
    by_cases hr:r+1<n
    · by_cases hb:X (r+1)≤b
      · obtain ⟨y,a1,a2,a3⟩:=ih (r+1) hr (by lia)
        refine ⟨y,by lia,a2,fun s hs hn=>?_⟩
        by_cases e:s=r+1
        · subst e; exact ⟨fun _=>a1,fun _=>hb⟩
        · exact a3 s (by lia) hn
      · refine ⟨r,Nat.le_refl _,h1,fun s hs hn=>⟨fun q=>?_,fun q=>absurd q (by lia)⟩⟩
        exfalso
        by_cases e:s=r+1
        · subst e; exact hb q
        · have:=hX (r+1) s (by lia) hn; lia
    · exact ⟨r,Nat.le_refl _,h1,fun s hs hn=>by lia⟩
theorem greatest {x : Nat → Nat} {p : Nat → Bool} : ∀ n, (∃ i, i < n ∧ p i = true) → ∃ i, i < n ∧ p i = true ∧ ∀ j, j < n → p j = true → x j ≤ x i
  | 0,⟨_,h,_⟩=>absurd h (Nat.not_lt_zero _)
  | n + 1, ⟨i, h, hp⟩ => by
    by_cases hs:∃ i,i<n∧p i=true
    · obtain ⟨k,a,b,c⟩:=greatest n hs
      by_cases hn:p n=true
      · by_cases hx:x n≤x k
        · exact ⟨k,by lia,b,fun j hj q=>by
            by_cases e:j=n
            · subst e; exact hx
            · exact c j (by lia) q⟩
        · exact ⟨n,by lia,hn,fun j hj q=>by
            by_cases e:j=n
            · subst e; exact Nat.le_refl _
            · have:=c j (by lia) q; lia⟩
      · exact ⟨k,by lia,b,fun j hj q=>by
          by_cases e:j=n
          · subst e; exact absurd q hn
          · exact c j (by lia) q⟩
    · have e:i=n:=Nat.le_antisymm (by lia) (Nat.not_lt.mp fun q=>hs ⟨i,q,hp⟩)
      subst e
      exact ⟨i,by lia,hp,fun j hj q=>by
        by_cases e:j=i
        · subst e; exact Nat.le_refl _
        · exact absurd ⟨j,by lia,q⟩ hs⟩
structure Nest (n:Nat) (x y:Nat→Nat):Prop where
  self:∀ i,i<n→x i≤y i
  inj:∀ i j,i<n→j<n→x i=x j→i=j
  lam:∀ i j,i<n→j<n→x i≤x j→x j≤y i→y j≤y i
noncomputable def under (x y:Nat→Nat) (k i:Nat):Bool:=decide (x i<x k) && decide (x k≤y i)
noncomputable def dpt (n:Nat) (x y:Nat→Nat) (k:Nat):Nat:=(List.range n).countP (under x y k)
section
variable {n:Nat} {x y:Nat→Nat}
theorem under_iff {k i:Nat}:under x y k i=true ↔ x i<x k∧x k≤y i:=by simp [under]
theorem dpt_lt (H:Nest n x y) {j k:Nat} (hj:j<n) (hk:k<n) (h:under x y k j=true):dpt n x y j<dpt n x y k:=by
  rw [under_iff] at h
  refine cnt_lt (a:=j) List.nodup_range (List.mem_range.mpr hj) (by simp [under]) (under_iff.mpr h) fun i hi q=>?_
  rw [under_iff] at q ⊢
  have:=H.lam i j (List.mem_range.mp hi) hj (by lia) q.2
  have:=H.self j hj
  have:=H.lam i j (List.mem_range.mp hi) hj (by lia) q.2
  lia
theorem dpt_pre (H:Nest n x y) {k:Nat} (hk:k<n) (h:0<dpt n x y k):∃ j,j<n∧under x y k j=true∧dpt n x y j+1=dpt n x y k:=by
  obtain ⟨i,hi,hp⟩:=List.countP_pos_iff.mp h
  obtain ⟨j,hj,hu,hm⟩:=greatest (x:=x) (p:=under x y k) n ⟨i,List.mem_range.mp hi,hp⟩
  refine ⟨j,hj,hu,?_⟩
  have hu':=under_iff.mp hu
  refine (cnt_succ (a:=j) (List.range n) List.nodup_range (List.mem_range.mpr hj) (by simp [under]) fun i hi=>?_).symm
  have hi':=List.mem_range.mp hi
  constructor
  · intro q
    have z:=hm i hi' q
    by_cases e:i=j
    · exact .inr e
    · left
      rw [under_iff] at q ⊢
      have:x i≠x j:=fun e2=>e (H.inj i j hi' hj e2)
      lia
  · rintro (q | rfl)
    · rw [under_iff] at q ⊢
      have:=H.lam i j hi' hj (by lia) q.2
      lia
    · exact hu
theorem dpt_lt6 (H:Nest n x y) {k:Nat} (hk:k<n):dpt n x y k<n:=by
  have:=cnt_lt (l:=List.range n) (a:=k) (p:=under x y k) (q:=fun _=>true) List.nodup_range (List.mem_range.mpr hk) (by simp [under]) rfl fun _ _ _=>rfl
  unfold dpt
  simpa using this
end
theorem filter_rows (rws:List (List (List Nat))) (p:List (List Nat)→Bool):(rws.filter p).length=(List.range rws.length).countP fun i=>p (rws.getD i []):=by
  rw [← List.countP_eq_length_filter]
  have e:rws=(List.range rws.length).map fun i=>rws.getD i []:=List.ext_getElem? fun i=>by
    by_cases hi:i<rws.length
    · simp [hi]
    · rw [List.getElem?_eq_none (by lia),List.getElem?_eq_none (by simp; lia)]
  conv=>lhs; rw [e]
  rw [List.countP_map]
  rfl
section
end
noncomputable section
namespace Zplainok
abbrev D0:=List (List (List Nat))
abbrev P0 (rws:List (List (List Nat))):Prop:=∀ (h1:1≤rws.length) (h6:rws.length≤6) (hn:rws.Nodup) (ht:∀ r∈rws,∃ toks:List Nat,toks.length≤3∧(∀ t∈toks,t<6)∧rowsOf toks=r),∃ ord rk rd dep gr ws,Plain rws ord rk rd dep gr ws
abbrev P1 (d:D0):=P0 d
theorem ne0:Nonempty D0:=⟨default⟩
@[irreducible] def d0:D0:=@Classical.epsilon D0 ne0 fun d=>¬ P1 d
def rws:=d0
theorem bd0:P0 rws:=by
  intro h1 h6 hn ht
  generalize hlen:rws.length=n at h1 h6
  have hE:∀ i,∃ e,i<n→e∈ent∧e.1=rws.getD i []:=fun i=>by
    by_cases hi:i<n
    · obtain ⟨toks,a,b,c⟩:=ht (rws.getD i []) (by rw [List.getD_eq_getElem?_getD,List.getElem?_eq_getElem (by lia)]; exact List.getElem_mem _)
      obtain ⟨e,e1,e2⟩:=ent_mem a b
      exact ⟨e,fun _=>⟨e1,e2.trans c⟩⟩
    · exact ⟨default,fun q=>absurd q hi⟩
  obtain ⟨En,hEn⟩:=Classical.axiomOfChoice hE
  generalize hx:(fun i=>(En i).2.2.1)=x
  generalize hy:(fun i=>(En i).2.2.2)=y
  have pr:∀ i j,i<n→j<n→PrOk (En i) (En j):=fun i j hi hj=>pr_of (hEn i hi).1 (hEn j hj).1
  have hr:∀ i,i<n→rws.getD i []=(En i).1:=fun i hi=>(hEn i hi).2.symm
  have xi:∀ i,(En i).2.2.1=x i:=fun i=>by rw [← hx]
  have yi:∀ i,(En i).2.2.2=y i:=fun i=>by rw [← hy]
  have Pltr:∀ i j,i<n→j<n→ltRows (rws.getD i []) (rws.getD j [])=decide (x i<x j):=fun i j hi hj=>by rw [hr i hi,hr j hj,(pr i j hi hj).ltr,xi,xi]
  have Pslt:∀ i j,i<n→j<n→sLt (sentOf (rws.getD i [])) (sentOf (rws.getD j []))=decide (x i<x j):=fun i j hi hj=>by rw [hr i hi,hr j hj,(pr i j hi hj).slt,xi,xi]
  have Pbeg:∀ i j,i<n→j<n→begins (rws.getD i []) (rws.getD j [])=under x y j i:=fun i j hi hj=>by rw [hr i hi,hr j hj,(pr i j hi hj).beg,xi,xi,yi]; rfl
  have Ppre:∀ i j,i<n→j<n→((sentOf (rws.getD j [])).take (sentOf (rws.getD i [])).length==sentOf (rws.getD i []))=(decide (x i≤x j) && decide (x j≤y i)):=fun i j hi hj=>by rw [hr i hi,hr j hj,(pr i j hi hj).pre,xi,xi,yi]
  have rinj:∀ i j,i<n→j<n→rws.getD i []=rws.getD j []→i=j:=fun i j hi hj e=>by
    rw [List.getD_eq_getElem?_getD,List.getD_eq_getElem?_getD,List.getElem?_eq_getElem (by lia),List.getElem?_eq_getElem (by lia)] at e
    exact (List.getElem_inj hn).mp e
  have H:Nest n x y:=⟨fun i hi=>by rw [← xi,← yi]; exact (pr i i hi hi).self,fun i j hi hj e=>rinj i j hi hj (by rw [hr i hi,hr j hj]; exact (pr i j hi hj).inj (by rw [xi,xi]; exact e)),fun i j hi hj=>by rw [← xi,← xi,← yi,← yi]; exact (pr i j hi hj).lam⟩
  generalize hrk:(fun i=>(List.range n).countP (fun j=>decide (x j<x i))+1)=rank
  have rki:∀ i,rank i=(List.range n).countP (fun j=>decide (x j<x i))+1:=fun i=>by rw [← hrk]
  have rkmono:∀ i j,i<n→j<n→x i<x j→rank i<rank j:=fun i j hi hj h=>by
    rw [rki,rki]
    have:=cnt_lt (l:=List.range n) (a:=i) (p:=fun k=>decide (x k<x i)) (q:=fun k=>decide (x k<x j)) List.nodup_range (List.mem_range.mpr hi) (by simp) (by simpa using h) fun k _ q=>by
      simp only [decide_eq_true_eq] at q ⊢; lia
    lia
  have rkiff:∀ i j,i<n→j<n→(x i<x j ↔ rank i<rank j):=fun i j hi hj=>⟨rkmono i j hi hj,fun q=>by
    rcases Nat.lt_trichotomy (x i) (x j) with z | z | z
    · exact z
    · have:=H.inj i j hi hj z; subst this; lia
    · have:=rkmono j i hj hi z; lia⟩
  have rkle:∀ i,i<n→rank i≤n:=fun i hi=>by
    rw [rki]
    have:=cnt_lt (l:=List.range n) (a:=i) (p:=fun k=>decide (x k<x i)) (q:=fun _=>true) List.nodup_range (List.mem_range.mpr hi) (by simp) rfl fun _ _ _=>rfl
    simp at this
    lia
  generalize hl:(List.range n).map rank=l
  have ll:l.length=n:=by rw [← hl]; simp
  have lget:∀ i,i<n→l.getD i 0=rank i:=fun i hi=>by rw [← hl]; simp [hi]
  have lno:∀ i,¬ i<n→l.getD i 0=0:=fun i hi=>by rw [List.getD_eq_getElem?_getD,List.getElem?_eq_none (by lia)]; rfl
  have ln:l.Nodup:=by
    rw [← hl]
    refine List.pairwise_map.mpr (List.Pairwise.imp_of_mem (R:=(·≠·)) (fun {a b} ha hb h e=>h ?_) List.nodup_range)
    have ha:=List.mem_range.mp ha
    have hb:=List.mem_range.mp hb
    refine H.inj a b ha hb ?_
    rcases Nat.lt_trichotomy (x a) (x b) with z | z | z
    · have:=rkmono a b ha hb z; lia
    · exact z
    · have:=rkmono b a hb ha z; lia
  have lltI:ltI rws=ltL l:=by
    funext i j
    unfold ltI ltL
    have nil:∀ i,¬ i<n→rws.getD i []=[]:=fun i hi=>by rw [List.getD_eq_getElem?_getD,List.getElem?_eq_none (by lia)]; rfl
    have nn:∀ i,i<n→∃ a b,rws.getD i []=a::b:=fun i hi=>by
      rw [hr i hi]
      exact List.ne_nil_iff_exists_cons.mp (pr i i hi hi).ne
    by_cases hi:i<n <;> by_cases hj:j<n
    · rw [Pltr i j hi hj,lget i hi,lget j hj]
      exact decide_eq_decide.mpr (rkiff i j hi hj)
    · obtain ⟨a,b,e⟩:=nn i hi
      rw [nil j hj,e,lno j hj]; rfl
    · obtain ⟨a,b,e⟩:=nn j hj
      rw [nil i hi,e,lno i hi,lget j hj,rki j]; simp [ltRows]
    · rw [nil i hi,nil j hj,lno i hi,lno j hj]; rfl
  have PO:=perm_ok h1 h6 ll ln fun z hz=>by
    rw [← hl] at hz
    obtain ⟨i,hi,rfl⟩:=List.mem_map.mp hz
    exact ⟨by rw [rki]; lia,rkle i (List.mem_range.mp hi)⟩
  unfold permOk at PO
  generalize ho:ordL n l=ord at PO
  simp only [Bool.and_eq_true,beq_iff_eq,Bool.or_eq_true,decide_eq_true_eq,List.all_eq_true,List.isPerm_iff] at PO
  obtain ⟨⟨⟨⟨p1,p2⟩,p3⟩,p4⟩,p5⟩:=PO
  have oln:ord.length=n:=by rw [p4.length_eq]; simp
  have olt:∀ i∈ord,i<n:=fun i hi=>List.mem_range.mp (p4.mem_iff.mp hi)
  have ogt:∀ r,r<n→ord.getD r 0<n:=fun r hr=>olt _ (by rw [List.getD_eq_getElem?_getD,List.getElem?_eq_getElem (by lia)]; exact List.getElem_mem _)
  have ork:∀ r,r<n→rank (ord.getD r 0)=r+1:=fun r hr=>by rw [← lget _ (ogt r hr)]; exact p5 r (List.mem_range.mpr hr)
  have oX:∀ r s,r<n→s<n→(x (ord.getD r 0)<x (ord.getD s 0) ↔ r<s):=fun r s hr hs=>by
    rw [rkiff _ _ (ogt r hr) (ogt s hs),ork r hr,ork s hs]; lia
  have omap:ord=(List.range n).map fun r=>ord.getD r 0:=List.ext_getElem? fun i=>by
    by_cases hi:i<n
    · rw [List.getElem?_map,List.getElem?_range hi]
      show ord[i]?=some (ord.getD i 0)
      rw [List.getD_eq_getElem?_getD,List.getElem?_eq_getElem (by lia)]; rfl
    · rw [List.getElem?_eq_none (by lia),List.getElem?_eq_none (by simp; lia)]
  have ocnt:∀ p:Nat→Bool,(List.range n).countP p=(List.range n).countP fun r=>p (ord.getD r 0):=fun p=>by
    rw [← cnt_perm p4 p]
    conv=>lhs; rw [omap]
    rw [List.countP_map]; rfl
  have hY:∀ r,∃ m,r<n→r≤m∧m<n∧∀ s,r<s→s<n→(x (ord.getD s 0)≤y (ord.getD r 0) ↔ s≤m):=fun r=>by
    by_cases hr:r<n
    · obtain ⟨m,a,b,c⟩:=last_place (n:=n) (X:=fun r=>x (ord.getD r 0)) (fun r s h hs=>(oX r s (by lia) hs).mpr h) (y (ord.getD r 0)) (n - r) r hr (by lia)
      exact ⟨m,fun _=>⟨a,b,c⟩⟩
    · exact ⟨0,fun q=>absurd q hr⟩
  obtain ⟨Y,hY⟩:=Classical.axiomOfChoice hY
  have under_o:∀ r s,r<n→s<n→under x y (ord.getD r 0) (ord.getD s 0)=(decide (s<r) && decide (r≤Y s)):=fun r s hr hs=>by
    rw [Bool.eq_iff_iff,under_iff]
    simp only [Bool.and_eq_true,decide_eq_true_eq]
    rw [oX s r hs hr]
    exact and_congr_right fun q=>(hY s hs).2.2 r q hr
  obtain ⟨ws,TR⟩:=lam_ok (Y:=Y) h1 h6 (fun k hk=>⟨(hY k hk).1,(hY k hk).2.1⟩) fun s k hs hk hle=>by
    have z:=((hY s (by lia)).2.2 k hs hk).mpr hle
    have l1:=H.lam _ _ (ogt s (by lia)) (ogt k hk) (by have:=(oX s k (by lia) hk).mpr hs; lia) z
    have k1:=hY k hk
    by_cases e:Y k=k
    · lia
    · have:=(k1.2.2 (Y k) (by lia) k1.2.1).mpr (Nat.le_refl _)
      exact ((hY s (by lia)).2.2 (Y k) (by lia) k1.2.1).mp (by lia)
  have Ylen:((List.range n).map Y).length=n:=by simp
  have Yget:∀ i,i<n→((List.range n).map Y).getD i 0=Y i:=fun i hi=>by simp [hi]
  have hdepY:∀ r,r<n→depY ((List.range n).map Y) r=dpt n x y (ord.getD r 0):=fun r hr=>by
    unfold depY dpt
    rw [Ylen,← List.countP_eq_length_filter,ocnt (under x y (ord.getD r 0))]
    exact List.countP_congr fun s hs=>by rw [under_o r s hr (List.mem_range.mp hs),Yget s (List.mem_range.mp hs)]
  have hgrY:∀ r,r<n→grY ((List.range n).map Y) r=(List.range n).countP fun i=>decide (x (ord.getD r 0)<x i) && !under x y i (ord.getD r 0):=fun r hr=>by
    unfold grY
    rw [Ylen,← List.countP_eq_length_filter,ocnt fun i=>decide (x (ord.getD r 0)<x i) && !under x y i (ord.getD r 0)]
    refine List.countP_congr fun s hs=>?_
    have hs:=List.mem_range.mp hs
    have z:decide (x (ord.getD r 0)<x (ord.getD s 0))=decide (r<s):=decide_eq_decide.mpr (oX r s hr hs)
    rw [under_o s r hs hr,Yget r hr,z]
    by_cases q:r<s <;> simp [q]
  have q6:(rws.map sentOf).length=n:=by rw [List.length_map]; exact hlen
  have qget:∀ i,i<n→(rws.map sentOf).getD i []=sentOf (rws.getD i []):=fun i hi=>by
    rw [List.getD_eq_getElem?_getD,List.getElem?_map,List.getElem?_eq_getElem (by lia),List.getD_eq_getElem?_getD,List.getElem?_eq_getElem (by lia)]; rfl
  have mpred:∀ k j,k<n→(j∈predsOf (rws.map sentOf) k ↔ j<n∧under x y k j=true):=fun k j hk=>by
    unfold predsOf
    rw [q6,List.mem_filter,List.mem_range]
    refine and_congr_right fun hj=>?_
    rw [qget k hk,qget j hj,Ppre j k hj hk,under_iff]
    simp only [Bool.and_eq_true,bne_iff_ne,ne_eq,decide_eq_true_eq]
    constructor
    · rintro ⟨a,b,c⟩
      have:x j≠x k:=fun e=>a (H.inj j k hj hk e)
      lia
    · rintro ⟨a,b⟩
      exact ⟨fun e=>by subst e; lia,by lia,b⟩
  obtain ⟨rd,rk,g1,g2,g3⟩:=rounds_ok (qs:=rws.map sentOf) (dep:=dpt n x y) (by lia) (fun k hk j hj=>by
    rw [q6] at hk
    have:=(mpred k j hk).mp hj
    exact dpt_lt H this.1 hk this.2) (fun k hk h=>by
    rw [q6] at hk
    obtain ⟨j,a,b,c⟩:=dpt_pre H hk h
    exact ⟨j,(mpred k j hk).mpr ⟨a,b⟩,c⟩) (fun k hk=>by rw [q6] at hk; have:=dpt_lt6 H hk; lia)
  refine ⟨ord,rk,rd,dpt n x y,fun k=>(List.range n).countP fun i=>decide (x k<x i) && !under x y i k,ws,?_⟩
  constructor
  · intro i hi j hj
    rw [hlen] at hi hj
    unfold ltI
    rw [Pslt i j hi hj,Pltr i j hi hj]
  · rw [lltI,hlen]; exact p1
  · rw [lltI,hlen]; exact List.all_eq_true.mpr p2
  · intro e
    rw [hlen] at e
    subst e
    have:=olt (ord.getD 0 0) (by rw [List.getD_eq_getElem?_getD,List.getElem?_eq_getElem (by lia)]; exact List.getElem_mem _)
    obtain ⟨a,rfl⟩:=List.length_eq_one_iff.mp oln
    have:a=0:=by simpa using this
    rw [this]
  · intro h2
    rw [hlen] at h2 ⊢
    rcases p3 with q | q
    · lia
    · rw [lltI]
      obtain ⟨p,a,b⟩:=Option.map_eq_some_iff.mp q
      exact ⟨p,a,b⟩
  · rw [hlen]; exact olt
  · rw [hlen]; exact oln
  · exact g3
  · exact g1
  · intro k hk
    exact g2 k (by rw [q6]; lia)
  · intro k hk
    rw [hlen] at hk
    rw [filter_rows,hlen]
    unfold dpt
    exact List.countP_congr fun i hi=>by rw [Pbeg i k (List.mem_range.mp hi) hk]
  · intro k hk
    rw [hlen] at hk
    rw [filter_rows,hlen]
    exact List.countP_congr fun i hi=>by rw [Pbeg k i hk (List.mem_range.mp hi),Pltr k i hk (List.mem_range.mp hi)]
  · intro i hi j hj hij e
    rw [hlen] at hi hj
    rw [qget i hi,qget j hj] at e
    have a:=Ppre i j hi hj
    rw [e] at a
    have b:=Ppre j i hj hi
    rw [e] at b
    simp only [List.take_length,beq_self_eq_true] at a b
    have a:=a.symm
    have b:=b.symm
    simp only [Bool.and_eq_true,decide_eq_true_eq] at a b
    exact hij (H.inj i j hi hj (by lia))
  · intro q hq
    obtain ⟨r,hr2,rfl⟩:=List.mem_map.mp hq
    obtain ⟨i,hi,e⟩:=List.getElem_of_mem hr2
    have hi':i<n:=by lia
    have:r=(En i).1:=by rw [← hr i hi',List.getD_eq_getElem?_getD,List.getElem?_eq_getElem hi]; exact e.symm
    rw [this]
    have:=(pr i i hi' hi').sz
    lia
  · rw [hlen]
    have e1:dpY ((List.range n).map Y)=ord.map fun k=>(dpt n x y k:Int):=by
      unfold dpY
      rw [Ylen]
      conv=>rhs; rw [omap]
      rw [List.map_map]
      exact List.map_congr_left fun r hr=>by rw [hdepY r (List.mem_range.mp hr)]; rfl
    have e2:dueY ((List.range n).map Y)=dueOf n ord (dpt n x y) fun k=>(List.range n).countP fun i=>decide (x k<x i) && !under x y i k:=by
      unfold dueY dueOf
      rw [Ylen]
      exact List.map_congr_left fun r hr=>by rw [hdepY r (List.mem_range.mp hr),hgrY r (List.mem_range.mp hr)]
    rw [← e1,← e2]
    exact TR
theorem al0:∀ d,P1 d:=epsAll ne0 P1 (by with_unfolding_all exact bd0)
end Zplainok
end
section
theorem plain_ok {rws:List (List (List Nat))}:Zplainok.P0 rws:=Zplainok.al0 rws
end
end
section
open PyProof.Rows.TI (Frs SameUp)
theorem strs_range {zv:List Value} {qs:List (List Nat)} (h:Strs zv qs):∃ tz:Nat→Tok,zv=(List.range qs.length).map fun i=>Value.str (S (qs.getD i [])) (tz i):=by
  have key:∀ i,∃ t,i<qs.length→zv[i]?=some (Value.str (S (qs.getD i [])) t):=fun i=>by
    by_cases hi:i<qs.length
    · obtain ⟨t,ht⟩:=h.get i (qs.getD i []) (by simp [hi])
      exact ⟨t,fun _=>ht⟩
    · exact ⟨0,fun q=>absurd q hi⟩
  refine ⟨fun i=>(key i).choose,List.ext_getElem? fun i=>?_⟩
  by_cases hi:i<qs.length
  · rw [(key i).choose_spec hi,List.getElem?_map,List.getElem?_range hi]; rfl
  · rw [List.getElem?_eq_none (by rw [h.length]; lia),List.getElem?_eq_none (by simp; lia)]
theorem text_small {toks:List Nat} (h:toks.length≤3):(textOf toks).length≤20:=by
  have:=mailGo_size toks
  unfold textOf
  lia
noncomputable abbrev ilL (il:List (Addr×List Value)):List (Addr×Obj):=il.map fun e=>(e.1,W.listOf e.2.toArray e.2.length)
theorem ne_cell {g h:Heap} {L a c:Addr} {x:Array Value} {n:Nat} {o:Obj} {v:Option Value} {news:List (Addr×Obj)} (N:News g L h news) (h1:(a,W.listOf x n)∈news) (h2:(c,cel o v)∈news):a≠c:=fun e=>by
  have z1:=(N _ h1).1
  have z2:=(N _ h2).1
  simp only at z1 z2
  rw [← e,z1] at z2
  have:=congrArg (fun o:Option Obj=>o.map (·.data)) z2
  simp [W.listOf] at this
section
variable {prog:Program} {w:World} {A:Around} {E:Value→Shared→Prop} {s:Shared}
theorem srcR2 {env:Env} {g:Heap} {L:Addr} {m:Str→Option Value} {news:List (Addr×Obj)} {elt target iter:Expr} {ifs:List Expr} {scope:Scope} {cl:List (Str×Addr)} {pos:Pos} {Q:Value→Shared→Prop} {use:Option (Value→Sem Unit)} {r:Addr} {a b:Int} {t u v:Tok} {n:Nat} (hh:A.handled=none) (F:Fr g L s.heap m) (N:News g L s.heap news) (hr:IsRange s.heap r a b 1 t u v) (hsmall:Builtin.Range.small a b 1=true) (hn:Builtin.Range.rangeSize a b 1=(n:Int)) (hz:n≤1000)
    (J:Addr→Nat→List Value→(Str→Option Value)→List (Addr×Obj)→Prop) (h0:∀ C,(∀ p∈news,p.1<C)→J C 0 [] (fun _=>none) (celsOf (cellsFrom (C+1) scope.names [])++news))
    (step:CStep2 prog w A s env g L target elt ifs scope cl s.heap.objs.size [s.heap.objs.size] n (fun i v=>∃ t,v=.int (a+(i:Int)) t) J)
    (fin:∀ D C h' tk m' oC ys news',Fr g L h' m→News g L h' ((C,oC)::(D,W.listOf (List.toArray ys) ys.length)::news')→(∃ mC,LCg.NsObj oC mC)→J C n ys m' news'→(∀ p∈news',p.1≠C∧p.1∉[s.heap.objs.size,D,L])→D≠C→s.heap.get? D=none →
      compPost (model prog w) A E use Q (.ref D) C (.ok .next) (up s h' tk))
    (ht:∀ v,letOwnedTupleGo target (.ref s.heap.objs.size) v=pure ():=by intro _; rfl) :
    wpAny (model prog w) A (pyIter (.ref r)) (CBeg prog w A E env elt target iter ifs scope cl pos use Q) E s:=by
  refine wpAny_pyIter_range hr hsmall ?_
  rw [hn]
  have hLs:L≠s.heap.objs.size:=Nat.ne_of_lt F.ns.lt
  have F':=F.push { cls:=.type "range_iterator",data:=.fields #[rawInt a,rawInt n,rawInt 1] }
  have N':News g L (s.heap.push { cls:=.type "range_iterator",data:=.fields #[rawInt a,rawInt n,rawInt 1] }) news:=(grow F N fun b o e=>Heap.get?_push_of_some _ e).2
  refine compBlkG (s:=up s (s.heap.push { cls:=.type "range_iterator",data:=.fields #[rawInt a,rawInt n,rawInt 1] }) s.toks) (LCg.range_walks hh a n) hz (fun i h hs b hb=>by rw [List.mem_singleton] at hb; subst hb; exact ⟨_,hs⟩)
    (by show IsRangeIter _ _ _ _ _; simpa using Heap.get?_push_size _ rfl) (by simp [hLs]) (size_none F) F' N' (fun p hp=>Nat.ne_of_lt (Heap.lt_size (N p hp).1)) J h0 step (fun D C h' tk m' oC ys news' F' N' hC hJ hp hDC hD _=>fin D C h' tk m' oC ys news' F' N' hC hJ hp hDC ?_) (fun _ v _ _ _ _ _ q=>wpAny_of_eq (ht v) q)
  cases z:s.heap.get? D with
  | none=>rfl
  | some o=>have:=Heap.get?_push_of_some { cls:=.type "range_iterator",data:=.fields #[rawInt a,rawInt n,rawInt 1] } z; rw [hD] at this; cases this
theorem sortedOrd {g:Heap} {L:Addr} {m:Str→Option Value} {news:List (Addr×Obj)} {l:Addr} {R:List Addr} {rws:List (List (List Nat))} {ord:List Nat} {Q:Value→Shared→Prop} (F:Fr g L s.heap m) (N:News g L s.heap news) (hu:A.units+2<cLine) (hl:s.heap.IsList l (R.map Value.ref).toArray) (hn1:1≤R.length) (h6:R.length≤6)
    (hX:∀ h',Fr g L h' m→News g L h' news→∀ i,i<R.length→StrsAt h' (R.getD i 0) (rws.getD i [])) (h1:R.length=1→ord=[0]) (h2:2≤R.length→∃ p,runK R.length (ltI rws) (kas_sort R.length)=some p∧p.toList=ord) (hlt:∀ i∈ord,i<R.length)
    (h:∀ D h' c,Fr g L h' m→News g L h' ((D,W.listOf (ord.map fun i=>Value.ref (R.getD i 0)).toArray c)::news)→(∀ q∈news,q.1<D)→Q (.ref D) (up s h' s.toks)):wpAny (model prog w) A (call (.builtin "sorted") [.ref l]) Q E s:=by
  by_cases hc:R.length=1
  · obtain ⟨a,rfl⟩:=List.length_eq_one_iff.mp hc
    obtain rfl:=h1 hc
    exact sorted1 (v:=.ref a) F N hl fun D h' c F' N' lt=>h D h' c F' N' lt
  · obtain ⟨p,hp,rfl⟩:=h2 (by lia)
    refine sortedRows (rows:=rws) (p:=p) F N hu hl (by lia) h6 hX hp fun D h' c F' N' lt=>h D h' c F' ?_ lt
    rw [show (p.toList.map fun i=>Value.ref (R.getD i 0))=p.toList.map fun i=>(R.map Value.ref).getD i .none from List.map_congr_left fun i hi=>by simp [hlt i hi]]
    exact N'
theorem stB {env:Env} {g:Heap} {M:Model} {L:Addr} {m:Str→Option Value} {news:List (Addr×Obj)} {x:Str} {v:Value} {Q:Unit→Shared→Prop} (F:Fr g L s.heap m) (N:News g L s.heap news)
    (h:∀ h' tk,Fr g L h' (setM m x v)→News g L h' news→Heap.SameBut L s.heap h'→Q () (up s h' tk))
    (hL:env.locals=L:=by rfl) (hk:env.scope.kind=.function:=by rfl) (hl:env.kindOf x=some .local:=by kernel_rfl) :
    wpAny M A (storeName env x v) Q E s:=by
  subst hL
  exact wpAny_storeName_local hl F.ns (fun h' hn hs=>h h' _ (F.set hn hs) (N.set hs) hs) (by rw [hk]; rfl)
theorem sortedDue {g:Heap} {L:Addr} {m:Str→Option Value} {news:List (Addr×Obj)} {l:Addr} {R:List Addr} {prs:List (Int×Int)} {ws:List Nat} {Q:Value→Shared→Prop} (F:Fr g L s.heap m) (N:News g L s.heap news) (hl:s.heap.IsList l (R.map Value.ref).toArray) (hn1:1≤R.length) (h6:R.length≤6)
    (hX:∀ i,i<R.length→∃ t u,(R.getD i 0,prOf (prs.getD i (0,0)).1 (prs.getD i (0,0)).2 t u)∈news) (h1:R.length=1→ws=[0]) (h2:2≤R.length→∃ p,runK R.length (fun i j=>ltPr (prs.getD i (0,0)) (prs.getD j (0,0))) (kas_sort R.length)=some p∧p.toList=ws) (hlt:∀ i∈ws,i<R.length)
    (h:∀ D h' c,Fr g L h' m→News g L h' ((D,W.listOf (ws.map fun i=>Value.ref (R.getD i 0)).toArray c)::news)→(∀ q∈news,q.1<D)→Q (.ref D) (up s h' s.toks)):wpAny (model prog w) A (call (.builtin "sorted") [.ref l]) Q E s:=by
  by_cases hc:R.length=1
  · obtain ⟨a,rfl⟩:=List.length_eq_one_iff.mp hc
    obtain rfl:=h1 hc
    exact sorted1 (v:=.ref a) F N hl fun D h' c F' N' lt=>h D h' c F' N' lt
  · obtain ⟨p,hp,rfl⟩:=h2 (by lia)
    refine sortedPrs (prs:=prs) (p:=p) F N hl (by lia) h6 hX hp fun D h' c F' N' lt=>h D h' c F' ?_ lt
    rw [show (p.toList.map fun i=>Value.ref (R.getD i 0))=p.toList.map fun i=>(R.map Value.ref).getD i .none from List.map_congr_left fun i hi=>by simp [hlt i hi]]
    exact N'
theorem hide_same {h h':Heap} {L:Addr} (hs:Heap.SameBut L h h'):∀ b o,(hideAll h [L]).get? b=some o→(hideAll h' [L]).get? b=some o:=fun b o e=>by
  by_cases q:b=L
  · subst q
    have:=hideAll_none [b] (h:=h) (b:=b) (List.mem_singleton.mpr rfl)
    rw [this] at e; cases e
  · exact hideAll_get [L] ((hs.2 _ q).trans (of_hideAll [L] e)) (by simpa using q)
theorem cells279 (w:World) (L:Addr):cellsFrom (L+1) (fd279 w).scope.names []=[(Str.ofString "greater",(L+1+1+1+1+1)),(Str.ofString "ahead",(L+1+1+1+1)),(Str.ofString "walk",(L+1+1+1)),(Str.ofString "quoted",(L+1+1)),(Str.ofString "lists",(L+1))]:=by kernel_rfl
noncomputable def Off5 (L:Addr) (l:List (Addr×Obj)):Prop:=∀ p∈l,p.1≠(L+1)∧p.1≠(L+1+1)∧p.1≠(L+1+1+1)∧p.1≠(L+1+1+1+1)∧p.1≠(L+1+1+1+1+1)
noncomputable abbrev cl5 (L:Addr) (o1 o2 o3 o4 o5:Obj) (v1 v2 v3 v4 v5:Option Value):List (Addr×Obj):=[((L+1),cel o1 v1),((L+1+1),cel o2 v2),((L+1+1+1),cel o3 v3),((L+1+1+1+1),cel o4 v4),((L+1+1+1+1+1),cel o5 v5)]
theorem off5 {g h:Heap} {L:Addr} {o1 o2 o3 o4 o5:Obj} {v1 v2 v3 v4 v5:Option Value} {KL l:List (Addr×Obj)} (N:News g L h (cl5 L o1 o2 o3 o4 o5 v1 v2 v3 v4 v5++KL)) (hK:Off5 L KL) (hl:∀ p∈l,h.get? p.1=none∨p∈KL):Off5 L l:=fun p hp=>by
  rcases hl p hp with q | q
  · exact ⟨addr_ne q (N ((L+1),_) (.head _)).1,addr_ne q (N ((L+1+1),_) (.tail _ (.head _))).1,addr_ne q (N ((L+1+1+1),_) (.tail _ (.tail _ (.head _)))).1,addr_ne q (N ((L+1+1+1+1),_) (.tail _ (.tail _ (.tail _ (.head _))))).1,addr_ne q (N ((L+1+1+1+1+1),_) (.tail _ (.tail _ (.tail _ (.tail _ (.head _)))))).1⟩
  · exact hK p q
end
end
section
open PyProof.Rows.TI (Frs SameUp)
theorem with_body {w:World} {P:List Stmt→Prop} {b:List Stmt} (h1:(fd279 w).body=.stmts b) (h2:P (b.drop 9)):P ((stm (fd279 w)).drop 9):=by
  unfold stm; rw [h1]; exact h2
noncomputable abbrev Pe:=Addr×(Int×Int)×Tok×Tok
noncomputable abbrev dueL (tp:List Pe):List (Addr×Obj):=tp.map fun e=>(e.1,prOf e.2.1.1 e.2.1.2 e.2.2.1 e.2.2.2)
section
variable {prog:Program} {w:World} {A:Around} {E':Value→Shared→Prop} {s:Shared}
end
noncomputable section
namespace Zlawtail
abbrev D0:=((((((Program)×(World))×(Around))×((Shared)×(Value→Shared→Prop)))×((((Flow→Shared→Prop)×(Heap))×(Heap))×((Addr)×(Nat))))×(((((Str→Option Value)×(Obj))×(Obj))×((Obj)×(Obj)))×((((Obj)×(List (Addr×Obj)))×(List Mi))×((Addr)×(Addr)))))×((((((Addr)×(Addr))×(Addr))×((Addr)×(Nat)))×((((Nat)×(Nat))×(List Value))×((List Value)×(List Value))))×(((((List Value)×(List (Addr×List Value)))×(List (List Nat)))×((List Nat)×(Int→Nat)))×(((List (Int×Int))×(Nat→Nat))×((Nat→Nat)×(List Nat)))))
abbrev P0 (prog:Program) (w:World) (A:Around) (s:Shared) (E':Value→Shared→Prop) (R:Flow→Shared→Prop) (g h:Heap) (L:Addr) (tk:Nat) (m:Str→Option Value) (o1 o2 o3 o4 o5:Obj) (KL:List (Addr×Obj)) (ms:List Mi) (M Zq Wk Ah Do Dp:Addr) (n1 nD nP:Nat) (zv wkv dov dpv:List Value) (il:List (Addr×List Value)) (qs:List (List Nat)) (ord:List Nat) (rk:Int→Nat) (rd:List (Int×Int)) (dep gr:Nat→Nat) (ws:List Nat):Prop:=∀ (rm:Room A 19) (hfr:A.frames=some [callEnvC (fd279 w) L 279]) (T:Wd w g) (F:Fr g L h m) (N:News g L h (cl5 L o1 o2 o3 o4 o5 (some (.ref M)) (some (.ref Zq)) (some (.ref Wk)) (some (.ref Ah)) none++KL)) (K:Off5 L KL) (hmo:∀ x∈ms,x.Ok) (hn1:1≤ms.length) (hn6:ms.length≤6) (mM:(M,W.listOf (List.toArray (ms.map fun x:Mi=>Value.ref x.R)) n1)∈KL) (mR:∀ x∈ms,x.led∈KL) (mZ:(Zq,W.listOf (List.toArray zv) zv.length)∈KL) (hys:Strs zv qs) (hqs:(ms.map fun x=>sentOf x.rows)=qs) (mWk:(Wk,W.listOf (List.toArray wkv) wkv.length)∈KL) (hwk:IntsAre wkv (toI ord)) (mAh:(Ah,W.listOf (List.toArray (il.map fun e=>Value.ref e.1)) (il.map fun e=>Value.ref e.1).length)∈KL) (mIl:∀ e∈il,(e.1,W.listOf e.2.toArray e.2.length)∈KL) (hil:il.length=ms.length) (ilk:∀ k,k<ms.length→∃ e,il[k]?=some e∧e.2.length=dep k) (mDo:(Do,W.listOf (List.toArray dov) nD)∈KL) (hdo:Strs dov (ord.map fun k=>qs.getD k [])) (mDp:(Dp,W.listOf (List.toArray dpv) nP)∈KL) (hdp:IntsAre dpv ((List.range qs.length).map fun k=>(dep k:Int))) (e1:m "row_out"=some (.ref Do)) (e2:m "depths"=some (.ref Dp)) (P:Plain (ms.map Mi.rows) ord rk rd dep gr ws) (hR:∀ h' tk',(∀ b o,g.get? b=some o→h'.get? b=some o)→R (.ret (.bool true)) (up s h' tk')),wpAny (model prog w) A (execs ((stm (fd279 w)).drop 9) (callEnvC (fd279 w) L 279)) R E' (up s h tk)
abbrev P1 (d:D0):=P0 d.1.1.1.1.1.1 d.1.1.1.1.1.2 d.1.1.1.1.2 d.1.1.1.2.1 d.1.1.1.2.2 d.1.1.2.1.1.1 d.1.1.2.1.1.2 d.1.1.2.1.2 d.1.1.2.2.1 d.1.1.2.2.2 d.1.2.1.1.1.1 d.1.2.1.1.1.2 d.1.2.1.1.2 d.1.2.1.2.1 d.1.2.1.2.2 d.1.2.2.1.1.1 d.1.2.2.1.1.2 d.1.2.2.1.2 d.1.2.2.2.1 d.1.2.2.2.2 d.2.1.1.1.1.1 d.2.1.1.1.1.2 d.2.1.1.1.2 d.2.1.1.2.1 d.2.1.1.2.2 d.2.1.2.1.1.1 d.2.1.2.1.1.2 d.2.1.2.1.2 d.2.1.2.2.1 d.2.1.2.2.2 d.2.2.1.1.1.1 d.2.2.1.1.1.2 d.2.2.1.1.2 d.2.2.1.2.1 d.2.2.1.2.2 d.2.2.2.1.1 d.2.2.2.1.2 d.2.2.2.2.1 d.2.2.2.2.2
theorem ne0:Nonempty D0:=⟨((((((Challenge.pw_ny0293_01,Classical.choice neW),callerA),(Classical.choice neS,default)),default),default),default)⟩
@[irreducible] def d0:D0:=@Classical.epsilon D0 ne0 fun d=>¬ P1 d
def prog:=d0.1.1.1.1.1.1
def w:=d0.1.1.1.1.1.2
def A:=d0.1.1.1.1.2
def s:=d0.1.1.1.2.1
def E':=d0.1.1.1.2.2
def R:=d0.1.1.2.1.1.1
def g:=d0.1.1.2.1.1.2
def h:=d0.1.1.2.1.2
def L:=d0.1.1.2.2.1
def tk:=d0.1.1.2.2.2
def m:=d0.1.2.1.1.1.1
def o1:=d0.1.2.1.1.1.2
def o2:=d0.1.2.1.1.2
def o3:=d0.1.2.1.2.1
def o4:=d0.1.2.1.2.2
def o5:=d0.1.2.2.1.1.1
def KL:=d0.1.2.2.1.1.2
def ms:=d0.1.2.2.1.2
def M:=d0.1.2.2.2.1
def Zq:=d0.1.2.2.2.2
def Wk:=d0.2.1.1.1.1.1
def Ah:=d0.2.1.1.1.1.2
def Do:=d0.2.1.1.1.2
def Dp:=d0.2.1.1.2.1
def n1:=d0.2.1.1.2.2
def nD:=d0.2.1.2.1.1.1
def nP:=d0.2.1.2.1.1.2
def zv:=d0.2.1.2.1.2
def wkv:=d0.2.1.2.2.1
def dov:=d0.2.1.2.2.2
def dpv:=d0.2.2.1.1.1.1
def il:=d0.2.2.1.1.1.2
def qs:=d0.2.2.1.1.2
def ord:=d0.2.2.1.2.1
def rk:=d0.2.2.1.2.2
def rd:=d0.2.2.2.1.1
def dep:=d0.2.2.2.1.2
def gr:=d0.2.2.2.2.1
def ws:=d0.2.2.2.2.2
theorem bd0 : P0 prog w A s E' R g h L tk m o1 o2 o3 o4 o5 KL ms M Zq Wk Ah Do Dp n1 nD nP zv wkv dov dpv il qs ord rk rd dep gr ws := by
  intro rm hfr T F N K hmo hn1 hn6 mM mR mZ hys hqs mWk hwk mAh mIl hil ilk mDo hdo mDp hdp e1 e2 P hR
  have lqs:qs.length=ms.length:=by rw [← hqs,List.length_map]
  have pn:(ms.map Mi.rows).length=ms.length:=by simp
  have lord:ord.length=ms.length:=by rw [P.oln,pn]
  have olt:∀ i,i<ms.length→ord.getD i 0<ms.length:=fun i hi=>by
    have:=P.olt (ord.getD i 0) (by rw [List.getD_eq_getElem?_getD,List.getElem?_eq_getElem (by lia)]; exact List.getElem_mem _)
    rw [pn] at this; exact this
  have lwk:wkv.length=ms.length:=by rw [hwk.length,toI_length,lord]
  have wkat:∀ i,i<ms.length→∃ t,wkv[i]?=some (.int (ord.getD i 0:Nat) t):=fun i hi=>IntsAre.getI hwk (by unfold toI; rw [List.getElem?_map,List.getD_eq_getElem?_getD,List.getElem?_eq_getElem (by lia)]; rfl)
  have mc:∀ {v1 v2 v3 v4 v5:Option Value} {K:List (Addr×Obj)} {p:Addr×Obj},p∈K→p∈cl5 L o1 o2 o3 o4 o5 v1 v2 v3 v4 v5++K:=fun hp=>List.mem_append_right _ hp
  have rmu:=rm.units
  have dle:∀ k,k<ms.length→dep k≤6∧gr k≤6:=fun k hk=>by
    have a:=List.length_filter_le (fun x=>begins x ((ms.map Mi.rows).getD k [])) (ms.map Mi.rows)
    have b:=List.length_filter_le (fun x=>ltRows ((ms.map Mi.rows).getD k []) x && !begins ((ms.map Mi.rows).getD k []) x) (ms.map Mi.rows)
    rw [← P.hdep k (by lia)] at a
    rw [← P.hgr k (by lia)] at b
    lia
  refine with_body (P:=fun b=>wpAny (model prog w) A (execs b (callEnvC (fd279 w) L 279)) R E' (up s h tk)) rfl ?_
  show wpAny _ _ (execs (_::_) _) _ _ _
  have Mh:=N _ (mc mM)
  let Jv0:Addr→Nat→List Value→(Str→Option Value)→List (Addr×Obj)→Prop:=fun C i ys _ news'=>Ex2 fun (ov:Option Value) (il:List (Addr×List Value))=>And6 (news'=(C+1,cel (celO none) ov)::((cl5 L o1 o2 o3 o4 o5 (some (.ref M)) (some (.ref Zq)) (some (.ref Wk)) (some (.ref Ah)) none++KL)++ilL il)) (ys=il.map (fun e=>Value.ref e.1)) (il.length=i) ((∀ e∈il,e.1≠C+1)) ((∀ p∈cl5 L o1 o2 o3 o4 o5 (some (.ref M)) (some (.ref Zq)) (some (.ref Wk)) (some (.ref Ah)) none++KL,p.1<C)) (∀ k e,il[k]?=some e→e.2.length=(ms.filter fun x=>ltRows ((ms.map Mi.rows).getD k []) x.rows && !begins ((ms.map Mi.rows).getD k []) x.rows).length)
  refine wpAny_execs_cons<|wpAny_Assign_Name<|lcG (cl:=[(Str.ofString "lists",(L+1))]) (by kernel_rfl)<|ldC (s:=up s _ _) N (.head _)<|srcL2 (s:=up s _ _) (vs:=ms.map fun x:Mi=>Value.ref x.R) rm.handled F N ⟨_,Mh.1,rfl,_,rfl⟩ Mh.2.1 (by rw [List.length_map]; lia)
    Jv0 (fun C hlt=>⟨none,[],by simp [celsOf,cellsFrom,ilL],rfl,rfl,(fun e he=>nomatch he),hlt,fun k e he=>(by simp at he)⟩) ?_ ?_
  · intro E2 i v C D8 ys m₂ news₂ h8 tk8 own2 hlo hi hPv hJ2 hw2 hav2 hcov2 F8 N8
    obtain ⟨ov,il,rfl,rfl,hil,hilne,hcl,hill⟩:=hJ2
    rw [List.length_map] at hi
    have hx:(ms.map fun x:Mi=>Value.ref x.R)[i]?=some (Value.ref ms[i].R):=by simp [hi]
    rw [hx] at hPv
    cases hPv
    have hxm:ms[i]∈ms:=List.getElem_mem hi
    have hxr:(ms.map Mi.rows).getD i []=ms[i].rows:=by simp [hi]
    generalize ms[i]=y at hx hxm hxr
    have cne:∀ p∈(cl5 L o1 o2 o3 o4 o5 (some (.ref M)) (some (.ref Zq)) (some (.ref Wk)) (some (.ref Ah)) none++KL)++ilL il,p.1≠C+1:=fun p hp=>by
      rcases List.mem_append.mp hp with q | q
      · exact Nat.ne_of_lt (Nat.lt_succ_of_lt (hcl p q))
      · obtain ⟨e,he,rfl⟩:=List.mem_map.mp q
        exact hilne e he
    have one:∀ p∈own2,p.1≠C+1:=fun p hp=>Nat.ne_of_lt (Nat.lt_succ_of_lt (hlo p hp))
    refine wpAny_assign_Name<|stC (s:=up s _ _) F8 N8 (.head fun p hp=>?_) fun h9 F9 N9=>wpAny_tests_nil ?_
    · rcases List.mem_append.mp hp with q | q
      · exact cne p q
      · exact one p q
    first | refine ifT rfl ?_ | rw [if_pos rfl]
    have mcc:∀ {p:Addr×Obj} {c:Addr×Obj} {X:List (Addr×Obj)},p∈KL→p∈(c::((cl5 L o1 o2 o3 o4 o5 (some (.ref M)) (some (.ref Zq)) (some (.ref Wk)) (some (.ref Ah)) none++KL)++ilL il))++X:=fun hp=>List.mem_append_left _ (.tail _ (List.mem_append_left _ (mc hp)))
    have Mh9:=N9 _ (mcc mM)
    let Jv1:Addr→Nat→List Value→(Str→Option Value)→List (Addr×Obj)→Prop:=fun _ i2 ys2 _ news'=>news'=((C+1,cel (celO none) (some (.ref y.R)))::((cl5 L o1 o2 o3 o4 o5 (some (.ref M)) (some (.ref Zq)) (some (.ref Wk)) (some (.ref Ah)) none++KL)++ilL il))++own2∧ys2.length=((ms.take i2).filter fun x=>ltRows y.rows x.rows && !begins y.rows x.rows).length
    refine lcG (cl:=[(Str.ofString "one",C+1)]) (by kernel_rfl)<|ldC (s:=up s _ _) N9 (.tail _ (.head _))<|srcL (s:=up s _ _) (vs:=ms.map fun x:Mi=>Value.ref x.R) rm.handled F9 N9 ⟨_,Mh9.1,rfl,_,rfl⟩ Mh9.2.1 (by rw [List.length_map]; lia)
      Jv1 (fun C2=>⟨rfl,rfl⟩) ?_ ?_
    · intro E3 i2 v2 C2 D9 ys2 m3 news3 h10 tk10 own3 hi2 hPv2 hJ3 hw3 hav3 hcov3 F10 N10
      obtain ⟨rfl,hys3⟩:=hJ3
      rw [List.length_map] at hi2
      have hx2:(ms.map fun x:Mi=>Value.ref x.R)[i2]?=some (Value.ref ms[i2].R):=by simp [hi2]
      rw [hx2] at hPv2
      cases hPv2
      have hz2:ms[i2]∈ms:=List.getElem_mem hi2
      have ht2:(ms.take (i2+1))=ms.take i2++[ms[i2]]:=by rw [List.take_add_one,List.getElem?_eq_getElem hi2,Option.toList_some]
      generalize ms[i2]=z at hx2 hz2 ht2
      have nin:∀ {h':Heap},News g C2 h' ((((C+1,cel (celO none) (some (.ref y.R)))::((cl5 L o1 o2 o3 o4 o5 (some (.ref M)) (some (.ref Zq)) (some (.ref Wk)) (some (.ref Ah)) none++KL)++ilL il))++own2)++own3)→∀ x∈ms,StrsAt h' x.R x.rows:=fun N x hx=>⟨x.vs,x.n,(N _ (List.mem_append_left _ (mcc (mR x hx)))).1,(hmo x hx).isS⟩
      refine wpAny_assign_Name<|st (s:=up s _ _) F10 N10 fun h11 tk11 F11 N11=>wpAny_tests_one<|wpAny_isTrue_BoolOp<|wpAny_allTrue_And_cons<|wpAny_isTrue_Compare1<|ld (s:=up s _ _) F11 rfl<|ldC (s:=up s _ _) N11 (.head _)<|rc_gt (s:=up s _ _) (nin N11 z hz2) (nin N11 y hxm) rm.u prog w _ _<|wpAny_truthy_bool ?_
      cases hlt:ltRows y.rows z.rows with
      | false =>
        first | refine ifF (by simp)<|ifF (by simp) ?_ | rw [if_neg (by simp),if_neg (by simp)]
        refine CT.mk (s:=up s _ _) F11 N11 hw3 ⟨rfl,?_⟩
        rw [ht2,List.filter_append,hys3]; simp [hlt]
      | true =>
        first | refine ifT rfl ?_ | rw [if_pos rfl]
        refine wpAny_allTrue_And_cons<|wpAny_isTrue_Not<|wpAny_isTrue_value<|callg (f:=274) (s:=up s _ _) T F11 (by kernel_rfl) (by kernel_rfl)<|spliced_more<|ldC (s:=up s _ _) N11 (.head _)<|spliced_more<|ld (s:=up s _ _) F11 rfl<|spliced_none ⟨T.X.keeps F11.keep,begins_call (s:=up s _ _) (a:=y.rows) (b:=z.rows) (rm.le (by lia)) (T.keeps F11.keep) (nin N11 y hxm) (nin N11 z hz2) (rows_small (hmo y hxm).len).1 (rows_small (hmo z hz2).len).1 (rows_small (hmo y hxm).len).2 fun h12 tk12 ex12=>wpAny_truthy_bool ?_⟩
        obtain ⟨F12,N12⟩:=ext_grow F11 N11 ex12
        cases hb:begins y.rows z.rows with
        | true =>
          first | refine ifF (by simp)<|ifF (by simp) ?_ | rw [if_neg (by simp),if_neg (by simp)]
          refine CT.mk (s:=up s _ _) F12 N12 hw3 ⟨rfl,?_⟩
          rw [ht2,List.filter_append,hys3]; simp [hlt,hb]
        | false =>
          first | refine ifT (by simp) ?_ | rw [if_pos (by simp)]
          refine wpAny_allTrue_And_nil ?_
          first | refine ifT rfl ?_ | rw [if_pos rfl]
          refine ld (s:=up s _ _) F12 rfl<|CT.mk (s:=up s _ _) F12 N12 hw3 ⟨rfl,?_⟩
          rw [ht2,List.filter_append,List.length_append,List.length_append,hys3]; simp [hlt,hb]
    · intro Dl C2 h10 tk10 m10 oC2 ys2 news10 F10 N10 hoC2 hJ3 hp10 hDC10 hDl0
      obtain ⟨rfl,hys3⟩:=hJ3
      rw [List.length_map,List.take_of_length_le (Nat.le_refl _)] at hys3
      refine postN (s:=up s _ _) F10 N10 hoC2 (fun p hp=>?_) fun h11 F11 N11=>?_
      · rcases List.mem_cons.mp hp with rfl | hp
        · exact hDC10
        · exact (hp10 p hp).1
      refine CT.mk (s:=up s _ _) (news':=(C+1,cel (celO none) (some (.ref y.R)))::((cl5 L o1 o2 o3 o4 o5 (some (.ref M)) (some (.ref Zq)) (some (.ref Wk)) (some (.ref Ah)) none++KL)++ilL (il++[(Dl,ys2)]))) F11 (news_sub N11 fun p hp=>?_) (fun p hp=>?_) ⟨_,il++[(Dl,ys2)],rfl,by simp,by simp [hil],fun e he=>?_,hcl,fun k e he=>?_⟩
      · simp only [ilL,List.map_append,List.map_cons,List.map_nil,List.mem_cons,List.mem_append,List.not_mem_nil,or_false] at hp ⊢
        grind
      · simp only [ilL,List.map_append,List.map_cons,List.map_nil,List.mem_cons,List.mem_append,List.not_mem_nil,or_false] at hp
        have hDn:Dl∉[h.objs.size,D8,L]:=fun q=>by
          obtain ⟨o,ho⟩:=hav2 Dl q
          have:=(hp10 (Dl,o) (List.mem_append_right _ ho)).2
          exact this (.tail _ (.head _))
        rcases hp with rfl | (hp | hp) | hp | rfl
        · exact hw2 (C+1,cel (celO none) ov) (.head _)
        · exact hw2 p (.tail _ (List.mem_append_left _ (List.mem_append_left _ (by simpa using hp))))
        · exact hw2 p (.tail _ (List.mem_append_left _ (mc hp)))
        · exact hw2 p (.tail _ (List.mem_append_right _ hp))
        · exact hDn
      · rcases List.mem_append.mp he with he | he
        · exact hilne e he
        · rw [List.mem_singleton] at he; subst he
          exact addr_ne hDl0 (N9 _ (.head _)).1
      · rcases Nat.lt_or_ge k il.length with hk | hk
        · rw [List.getElem?_append_left hk] at he; exact hill k e he
        · rw [List.getElem?_append_right hk] at he
          obtain ⟨hk0,e2⟩:k - il.length=0∧(Dl,ys2)=e:=by
            cases hq:k - il.length with
            | zero=>rw [hq] at he; simpa using he
            | succ k=>rw [hq] at he; simp at he
          subst e2
          have hki:k=i:=by lia
          subst hki
          rw [hxr]; exact hys3
  intro Gr C h22 tk22 m22 oC ahv news22 F22 N22 hoC hJ2 hp22 hDC22 hGr0
  obtain ⟨ov,jl,rfl,rfl,hjl,hjlne,hcl,hjll⟩:=hJ2
  rw [List.length_map] at hjl
  refine postN (s:=up s _ _) F22 N22 hoC (fun p hp=>?_) fun h23 F23 N23=>?_
  · rcases List.mem_cons.mp hp with rfl | hp
    · exact hDC22
    · exact (hp22 p hp).1
  have N23':News g L h23 (cl5 L o1 o2 o3 o4 o5 (some (.ref M)) (some (.ref Zq)) (some (.ref Wk)) (some (.ref Ah)) none++((Gr,W.listOf (List.toArray (jl.map fun e=>Value.ref e.1)) (jl.map fun e=>Value.ref e.1).length)::(ilL jl++KL))):=news_sub N23 fun p hp=>by
    simp only [List.mem_cons,List.mem_append] at hp ⊢
    grind
  have K5:Off5 L ((Gr,W.listOf (List.toArray (jl.map fun e=>Value.ref e.1)) (jl.map fun e=>Value.ref e.1).length)::(ilL jl++KL)):=fun p hp=>by
    have key:∀ {a:Addr} {x:Array Value} {n:Nat},(a,W.listOf x n)∈(Gr,W.listOf (List.toArray (jl.map fun e=>Value.ref e.1)) (jl.map fun e=>Value.ref e.1).length)::(ilL jl++KL)→a≠(L+1)∧a≠(L+1+1)∧a≠(L+1+1+1)∧a≠(L+1+1+1+1)∧a≠(L+1+1+1+1+1):=fun hm=>⟨ne_cell N23' (mc hm) (.head _),ne_cell N23' (mc hm) (.tail _ (.head _)),ne_cell N23' (mc hm) (.tail _ (.tail _ (.head _))),ne_cell N23' (mc hm) (.tail _ (.tail _ (.tail _ (.head _)))),ne_cell N23' (mc hm) (.tail _ (.tail _ (.tail _ (.tail _ (.head _)))))⟩
    rcases List.mem_cons.mp hp with rfl | q
    · exact key (.head _)
    rcases List.mem_append.mp q with q | q
    · obtain ⟨e,he,rfl⟩:=List.mem_map.mp q
      exact key (.tail _ (List.mem_append_left _ (List.mem_map_of_mem (f:=fun e:Addr×List Value=>(e.1,W.listOf e.2.toArray e.2.length)) he)))
    · exact K p q
  have lt1:∀ a:Nat,a<a+1:=fun a=>Nat.lt_succ_self a
  have n15:(L+1)≠(L+1+1+1+1+1):=Nat.ne_of_lt (Nat.lt_trans (lt1 _) (Nat.lt_trans (lt1 _) (Nat.lt_trans (lt1 _) (lt1 _))))
  have n25:(L+1+1)≠(L+1+1+1+1+1):=Nat.ne_of_lt (Nat.lt_trans (lt1 _) (Nat.lt_trans (lt1 _) (lt1 _)))
  have n35:(L+1+1+1)≠(L+1+1+1+1+1):=Nat.ne_of_lt (Nat.lt_trans (lt1 _) (lt1 _))
  have n45:(L+1+1+1+1)≠(L+1+1+1+1+1):=Nat.ne_of_lt (lt1 _)
  have U5:∀ {v v' v1 v2 v3 v4:Option Value} {KL:List (Addr×Obj)},Off5 L KL→Upd (L+1+1+1+1+1) (cel o5 v) (cel o5 v') (cl5 L o1 o2 o3 o4 o5 v1 v2 v3 v4 v++KL) (cl5 L o1 o2 o3 o4 o5 v1 v2 v3 v4 v'++KL):=fun hK=>.tail n15 (.tail n25 (.tail n35 (.tail n45 (.head fun p hp=>(hK p hp).2.2.2.2))))
  refine stC (s:=up s _ _) F23 N23' (U5 K5) fun h24 F24 N24=>?_
  have mGr:((Gr,W.listOf (List.toArray (jl.map fun e=>Value.ref e.1)) (jl.map fun e=>Value.ref e.1).length):Addr×Obj)∈(Gr,W.listOf (List.toArray (jl.map fun e=>Value.ref e.1)) (jl.map fun e=>Value.ref e.1).length)::(ilL jl++KL):=.head _
  have mJl:∀ e∈jl,((e.1,W.listOf e.2.toArray e.2.length):Addr×Obj)∈(Gr,W.listOf (List.toArray (jl.map fun e=>Value.ref e.1)) (jl.map fun e=>Value.ref e.1).length)::(ilL jl++KL):=fun e he=>.tail _ (List.mem_append_left _ (List.mem_map_of_mem (f:=fun e:Addr×List Value=>(e.1,W.listOf e.2.toArray e.2.length)) he))
  have sub5:∀ p∈KL,p∈(Gr,W.listOf (List.toArray (jl.map fun e=>Value.ref e.1)) (jl.map fun e=>Value.ref e.1).length)::(ilL jl++KL):=fun p hp=>.tail _ (List.mem_append_right _ hp)
  generalize (Gr,W.listOf (List.toArray (jl.map fun e=>Value.ref e.1)) (jl.map fun e=>Value.ref e.1).length)::(ilL jl++KL)=KL5 at N24 K5 mGr mJl sub5
  have jlk:∀ k,k<ms.length→∃ e,jl[k]?=some e∧e.2.length=gr k:=fun k hk=>⟨jl[k],List.getElem?_eq_getElem (by lia),by
    rw [hjll k jl[k] (List.getElem?_eq_getElem (by lia)),P.hgr k (by rw [pn]; exact hk),List.filter_map,List.length_map]; rfl⟩
  generalize hcl5:cl5 L o1 o2 o3 o4 o5 (some (.ref M)) (some (.ref Zq)) (some (.ref Wk)) (some (.ref Ah)) (some (.ref Gr))++KL5=B5 at N24
  have mB:∀ {p},p∈KL5→p∈B5:=fun hp=>by rw [← hcl5]; exact mc hp
  have b2:((L+1+1),cel o2 (some (.ref Zq)))∈B5:=by rw [← hcl5]; exact .tail _ (.head _)
  have b3:((L+1+1+1),cel o3 (some (.ref Wk)))∈B5:=by rw [← hcl5]; exact .tail _ (.tail _ (.head _))
  have b4:((L+1+1+1+1),cel o4 (some (.ref Ah)))∈B5:=by rw [← hcl5]; exact .tail _ (.tail _ (.tail _ (.head _)))
  have b5:((L+1+1+1+1+1),cel o5 (some (.ref Gr)))∈B5:=by rw [← hcl5]; exact .tail _ (.tail _ (.tail _ (.tail _ (.head _))))
  refine wpAny_execs_cons<|lcA (cl:=[(Str.ofString "walk",(L+1+1+1)),(Str.ofString "greater",(L+1+1+1+1+1)),(Str.ofString "ahead",(L+1+1+1+1))]) (by kernel_rfl)<|callt (id:="range") (s:=up s _ _) T F24 (by kernel_rfl)<|spliced_more<|callb (id:="len") (s:=up s _ _) T F24 (by kernel_rfl)<|spliced_more<|ldC (s:=up s _ _) N24 b3<|spliced_none<|len_any (s:=up s _ _) (N24 _ (mB (sub5 _ mWk))).1 (by lia) fun _ _=>spliced_none<|rangeR1 (s:=tkd (up s _ _) _) F24 N24 fun r25 h25 tk25 t25 u25 v25 hr25 F25 N25=>?_
  rw [lwk] at hr25
  let Jv2:Addr→Nat→List Value→(Str→Option Value)→List (Addr×Obj)→Prop:=fun _ i ys _ news'=>∃ (tp:List Pe),And3 (news'=B5++dueL tp) (ys=tp.map (fun e=>Value.ref e.1)) (tp.map (·.2.1)=(dueOf ms.length ord dep gr).take i)
  refine srcR2 (s:=up s _ _) (n:=ms.length) rm.handled F25 N25 hr25 (range_small (by lia) (by lia) (by lia) (by lia)) (range_size (.inl (by lia))) (by lia)
    Jv2 (fun C _=>⟨[],by simp [celsOf,cellsFrom],rfl,rfl⟩) ?_ ?_
  · intro E2 i v C D8 ys m₂ news₂ h8 tk8 own2 hlo hi hPv hJ2 hw2 hav2 hcov2 F8 N8
    obtain ⟨tp,rfl,rfl,htp⟩:=hJ2
    obtain ⟨tj,rfl⟩:=hPv
    rw [Int.zero_add]
    have oi:=olt i hi
    obtain ⟨tw,hw⟩:=wkat i hi
    obtain ⟨ea,ea1,ea2⟩:=ilk _ oi
    obtain ⟨eg,eg1,eg2⟩:=jlk _ oi
    have dl:=dle _ oi
    have in9:∀ {h':Heap},News g C h' ((B5++dueL tp)++own2)→∀ p∈KL5,h'.get? p.1=some p.2:=fun N p hp=>(N p (List.mem_append_left _ (List.mem_append_left _ (mB hp)))).1
    refine wpAny_assign_Name<|st (s:=up s _ _) F8 N8 fun h9 tk9 F9 N9=>wpAny_tests_nil ?_
    first | refine ifT rfl ?_ | rw [if_pos rfl]
    have cB:∀ {p},p∈B5→p∈(B5++dueL tp)++own2:=fun hp=>List.mem_append_left _ (List.mem_append_left _ hp)
    refine Tuple_<|spliced_more<|wpAny_BinOp<|callb (id:="len") (s:=up s _ _) T F9 (by kernel_rfl)<|spliced_more<|Subscript_<|ldC (s:=up s _ _) N9 (cB b4)<|Subscript_<|ldC (s:=up s _ _) N9 (cB b3)<|ld (s:=up s _ _) F9 rfl <|
      itL (s:=up s _ _) (vs:=wkv) ⟨_,in9 N9 _ (sub5 _ mWk),rfl,_,rfl⟩ (by lia) (by lia) (by rw [Int.toNat_natCast]; exact hw)<|itL (s:=up s _ _) (vs:=il.map fun e=>Value.ref e.1) ⟨_,in9 N9 _ (sub5 _ mAh),rfl,_,rfl⟩ (by lia) (by lia) (by rw [Int.toNat_natCast,List.getElem?_map,ea1]; rfl)<|spliced_none <|
      len_any (s:=up s _ _) (in9 N9 _ (sub5 _ (mIl ea (List.mem_of_getElem? ea1)))) (by lia) fun ta tka=>?_
    refine callb (id:="len") (s:=tkd (up s _ _) _) T F9 (by kernel_rfl)<|spliced_more<|Subscript_<|ldC (s:=tkd (up s _ _) _) N9 (cB b5)<|Subscript_<|ldC (s:=tkd (up s _ _) _) N9 (cB b3)<|ld (s:=tkd (up s _ _) _) F9 rfl <|
      itL (s:=tkd (up s _ _) _) (vs:=wkv) ⟨_,in9 N9 _ (sub5 _ mWk),rfl,_,rfl⟩ (by lia) (by lia) (by rw [Int.toNat_natCast]; exact hw)<|itL (s:=tkd (up s _ _) _) (vs:=jl.map fun e=>Value.ref e.1) ⟨_,in9 N9 _ mGr,rfl,_,rfl⟩ (by lia) (by lia) (by rw [Int.toNat_natCast,List.getElem?_map,eg1]; rfl)<|spliced_none <|
      len_any (s:=tkd (up s _ _) _) (in9 N9 _ (mJl eg (List.mem_of_getElem? eg1))) (by lia) fun tb tkb=>?_
    refine add_int fun tc tkc=>spliced_more<|ld (s:=tkd (up s _ _) _) F9 rfl<|spliced_none<|newTup (s:=tkd (up s _ _) _) F9 N9 fun t h10 F10 N10 lt10=>?_
    refine CT.mk (s:=up s _ _) (news':=B5++dueL (tp++[(t,((dep (ord.getD i 0):Int)+(gr (ord.getD i 0):Int),(i:Int)),tc,tj)])) F10 (news_sub N10 fun p hp=>?_) (fun p hp=>?_) ⟨_,rfl,by simp,?_⟩
    · rw [ea2,eg2]
      simp only [dueL,prOf,List.map_append,List.map_cons,List.map_nil,List.mem_cons,List.mem_append,List.not_mem_nil,or_false] at hp ⊢
      grind
    · simp only [dueL,List.map_append,List.map_cons,List.map_nil] at hp
      rcases List.mem_append.mp hp with q | q
      · exact hw2 p (List.mem_append_left _ q)
      rcases List.mem_append.mp q with q | q
      · exact hw2 p (List.mem_append_right _ q)
      · rw [List.mem_singleton] at q
        subst q
        intro q
        obtain ⟨o,ho⟩:=hav2 _ q
        exact Nat.lt_irrefl _ (lt10 (t,o) (List.mem_append_right _ ho))
    · rw [List.map_append,htp,List.take_add_one]
      unfold dueOf
      rw [List.getElem?_map,List.getElem?_range hi]
      rfl
  intro Du C h26 tk26 m26 oC duv news26 F26 N26 hoC hJ2 hp26 hDC26 hDu0
  obtain ⟨tp,rfl,rfl,htp⟩:=hJ2
  rw [List.take_of_length_le (by unfold dueOf; simp)] at htp
  refine postA (s:=up s _ _) F26 N26 hoC (fun p hp=>?_) fun h28 tk28 F28 N28=>?_
  · rcases List.mem_cons.mp hp with rfl | hp
    · exact hDC26
    · exact (hp26 p hp).1
  have m1:(if Str.ofString "row_out"=Str.ofString "due" then some (Value.ref Du) else m "row_out")=some (.ref Do):=e1
  generalize hB6:(Du,W.listOf (List.toArray (tp.map fun e=>Value.ref e.1)) (tp.map fun e=>Value.ref e.1).length)::(B5++dueL tp)=B6 at N28
  have sB:∀ {p},p∈B5→p∈B6:=fun hp=>by rw [← hB6]; exact .tail _ (List.mem_append_left _ hp)
  have sD:∀ {p},p∈dueL tp→p∈B6:=fun hp=>by rw [← hB6]; exact .tail _ (List.mem_append_right _ hp)
  have sDu:(Du,W.listOf (List.toArray (tp.map fun e=>Value.ref e.1)) (tp.map fun e=>Value.ref e.1).length)∈B6:=by rw [← hB6]; exact .head _
  have ldo:dov.length=ms.length:=by rw [hdo.length,List.length_map,lord]
  have Doh:=N28 _ (sB (mB (sub5 _ mDo)))
  let Jv3:Addr→Nat→List Value→(Str→Option Value)→List (Addr×Obj)→Prop:=fun _ i ys _ news'=>news'=B6∧IntsAre ys (toI (ord.take i))
  refine wpAny_execs_cons<|wpAny_Assign_Name<|callg (f:=260) (s:=up s _ _) T F28 (by kernel_rfl) (by kernel_rfl)<|spliced_more<|lcG (cl:=[(Str.ofString "quoted",(L+1+1))]) (by kernel_rfl)<|ld (s:=up s _ _) F28 m1<|srcL (s:=up s _ _) (vs:=dov) rm.handled F28 N28 ⟨_,Doh.1,rfl,_,rfl⟩ Doh.2.1 (by lia)
    Jv3 (fun C=>⟨rfl,.nil⟩) ?_ ?_
  · intro E2 i v C D8 ys m₂ news₂ h8 tk8 own2 hi hPv hJ2 hw2 hav2 hcov2 F8 N8
    obtain ⟨rfl,hys2⟩:=hJ2
    rw [ldo] at hi
    have oi:=olt i hi
    have hoi:ord[i]?=some (ord.getD i 0):=by rw [List.getD_eq_getElem?_getD,List.getElem?_eq_getElem (by lia)]; rfl
    obtain ⟨tq,hq2⟩:=hdo.get i (qs.getD (ord.getD i 0) []) (by rw [List.getElem?_map,hoi]; rfl)
    rw [hq2] at hPv
    cases hPv
    refine wpAny_assign_Name<|st (s:=up s _ _) F8 N8 fun h9 tk9 F9 N9=>wpAny_tests_nil ?_
    first | refine ifT rfl ?_ | rw [if_pos rfl]
    refine methodCall_KW<|ldC (s:=up s _ _) N9 (List.mem_append_left _ (sB b2))<|kl_method (s:=up s _ _) N9 (List.mem_append_left _ (sB (mB (sub5 _ mZ)))) PySem.F.slot_list_index PySem.F.type_list_index<|callWith_method1<|spliced_more<|ld (s:=up s _ _) F9 rfl<|spliced_none <|
      idxStrs (s:=up s _ _) (zv:=zv) (qs:=qs) (j:=ord.getD i 0) (N9 _ (List.mem_append_left _ (sB (mB (sub5 _ mZ))))).1 hys (by lia) (by lia) (fun k hk=>?_) fun tI tkI=>?_
    · have:=P.sne k (by lia) (ord.getD i 0) (by lia) (by lia)
      rw [List.map_map,show (sentOf ∘ Mi.rows)=fun x:Mi=>sentOf x.rows from rfl,hqs] at this
      exact this
    · refine CT.mk (s:=up s _ _) F9 N9 hw2 ⟨rfl,?_⟩
      rw [List.take_add_one,hoi,Option.toList_some]
      unfold toI at hys2 ⊢
      rw [List.map_append]
      exact IntsAre.snoc hys2 _ _
  intro Od C h30 tk30 m30 oC odv news30 F30 N30 hoC hJ2 hp30 hDC30 hOd0
  obtain ⟨hnews,hod⟩:=hJ2
  rw [hnews] at N30 hp30
  rw [ldo,List.take_of_length_le (by lia)] at hod
  refine postN (s:=up s _ _) F30 N30 hoC (fun p hp=>?_) fun h31 F31 N31=>?_
  · rcases List.mem_cons.mp hp with rfl | hp
    · exact hDC30
    · exact (hp30 p hp).1
  have m2:(if Str.ofString "depths"=Str.ofString "due" then some (Value.ref Du) else m "depths")=some (.ref Dp):=e2
  have N31':News g L h31 B6:=fun p hp=>N31 p (.tail _ hp)
  generalize hdpe:ord.map (fun k=>(dep k:Int))=dp
  have ldp:dp.length=ord.length:=by rw [← hdpe,List.length_map]
  refine spliced_more<|ld (s:=up s _ _) F31 m2<|spliced_none ⟨T.X.keeps F31.keep,told_call (s:=up s _ _) (dp:=dp) (rm.le (by lia)) (T.keeps F31.keep) (N31 _ (.head _)).1 (N31' _ (sB (mB (sub5 _ mDp)))).1 hod hdp (by lia) ldp (fun j hj=>?_) (fun j hj=>by have:=P.olt j hj; lia) fun h32 tk32 G kvs ex32 gr32 fG=>?_⟩
  · have oj:=olt j (by lia)
    rw [List.getElem?_map,List.getElem?_range (by lia),← hdpe,List.getD_eq_getElem?_getD (l:=ord.map _),List.getElem?_map,List.getD_eq_getElem?_getD,List.getElem?_eq_getElem hj]; rfl
  obtain ⟨oL31,hoL31⟩:=fr_obj F31
  have gr32:=gr32 [L] fun a ha=>by rw [List.mem_singleton] at ha; subst ha; rw [hoL31]; exact fun q=>nomatch q
  obtain ⟨F32,N32⟩:=ext_grow F31 N31' ex32
  refine stB (s:=up s _ _) F32 N32 fun h33 tk33 F33 N33 sb33=>?_
  have gr33:=gr32.keeps (hide_same sb33)
  obtain ⟨oL,hoL⟩:=fr_obj F33
  have gL:g.get? L=none:=Heap.get?_none_of_le F33.above
  have kpL:=hide_keeps (W:=([(L,oL)]:List (Addr×Obj)).map (·.1)) F33.keep (fun a ha=>by rw [List.map_cons,List.map_nil,List.mem_singleton] at ha; subst ha; exact gL)
  have TR:=P.tree
  rw [hdpe,pn] at TR
  refine wpAny_execs_cons<|wpAny_Return_some<|wpAny_Compare1<|callg (f:=267) (s:=up s _ _) T F33 (by kernel_rfl) (by kernel_rfl)<|spliced_more<|ld (s:=up s _ _) F33 rfl<|spliced_none ⟨T.X.keeps F33.keep,last_call (s:=up s _ _) (frs0:=[(L,oL)]) (l:=[callEnvC (fd279 w) L 279]) (gr:=toldP dp) (rk:=Int.toNat) (ws:=ws) (rm.le (by lia)) hfr (frs_cons (frs:=[]) F33 hoL True.intro (by kernel_rfl) (by kernel_rfl)) (fun p hp=>by rw [List.mem_singleton] at hp; subst hp; exact hoL) (T.keeps kpL) gr33 (by unfold toldP; rw [List.length_map,List.length_range]; lia) TR.bd TR.hrk TR.go fun h34 tk34 frs34 Dw wsv n34 ex34 SU34 hf34 hDw hwsv fDw=>?_⟩
  obtain ⟨frs',F34,N34,_⟩:=backG (frs:=[]) (wa:=[]) (W':=[(Dw,W.listOf (List.toArray wsv) n34)]) F33 N33 hoL ex34 SU34 hf34 (fun a ha=>nomatch ha) (fun p hp=>by rw [List.mem_singleton] at hp; subst hp; exact ⟨hDw,.inr fDw⟩) (fun p hp=>⟨(fun q=>nomatch q),(fun q=>nomatch q)⟩)
  have ltp:tp.length=ms.length:=by have:=congrArg List.length htp; unfold dueOf at this; simpa using this
  have tpi:∀ i,i<ms.length→∃ t u,(tp.map (·.1)).getD i 0=(tp.map (·.1)).getD i 0∧((tp.map (·.1)).getD i 0,prOf ((dep (ord.getD i 0):Int)+(gr (ord.getD i 0):Int)) (i:Int) t u)∈B6:=fun i hi=>by
    have hp:(tp.map (·.2.1))[i]?=some ((dep (ord.getD i 0):Int)+(gr (ord.getD i 0):Int),(i:Int)):=by rw [htp]; unfold dueOf; rw [List.getElem?_map,List.getElem?_range hi]; rfl
    have ht:tp[i]?=some tp[i]:=List.getElem?_eq_getElem (by lia)
    rw [List.getElem?_map,ht] at hp
    have hp:=Option.some.inj hp
    have hg:(tp.map (·.1)).getD i 0=tp[i].1:=by rw [List.getD_eq_getElem?_getD,List.getElem?_map,ht]; rfl
    refine ⟨tp[i].2.2.1,tp[i].2.2.2,rfl,?_⟩
    rw [hg]
    have hm:=sD (List.mem_map_of_mem (f:=fun e:Pe=>(e.1,prOf e.2.1.1 e.2.1.2 e.2.2.1 e.2.2.2)) (List.getElem_mem (l:=tp) (n:=i) (by lia)))
    simp only at hm hp
    rw [hp] at hm
    exact hm
  have s6:∀ {p},p∈B6→p∈frs'++([(Dw,W.listOf (List.toArray wsv) n34)]++B6):=fun hp=>List.mem_append_right _ (List.mem_append_right _ hp)
  have sw6:(Dw,W.listOf (List.toArray wsv) n34)∈frs'++([(Dw,W.listOf (List.toArray wsv) n34)]++B6):=List.mem_append_right _ (.head _)
  generalize frs'++([(Dw,W.listOf (List.toArray wsv) n34)]++B6)=B7 at N34 s6 sw6
  have lR:(tp.map (·.1)).length=ms.length:=by rw [List.length_map]; exact ltp
  refine lcG (cl:=[]) (by kernel_rfl)<|callb (id:="sorted") (s:=up s _ _) T F34 (by kernel_rfl)<|spliced_more<|ld (s:=up s _ _) F34 rfl<|spliced_none<|sortedDue (s:=up s _ _) (R:=tp.map (·.1)) (prs:=dueOf ms.length ord dep gr) (ws:=ws) F34 N34 ⟨_,(N34 _ (s6 sDu)).1,rfl,_,by rw [List.map_map]; rfl⟩ (by lia) (by lia)
    (fun i hi=>by
      obtain ⟨t,u,_,hm⟩:=tpi i (by lia)
      have e:(dueOf ms.length ord dep gr).getD i (0,0)=((dep (ord.getD i 0):Int)+(gr (ord.getD i 0):Int),(i:Int)):=by
        unfold dueOf; rw [List.getD_eq_getElem?_getD,List.getElem?_map,List.getElem?_range (by lia)]; rfl
      exact ⟨t,u,by rw [e]; exact s6 hm⟩)
    (fun e=>TR.one (by lia)) (fun e=>by rw [lR]; exact TR.run (by lia)) (fun i hi=>by have:=TR.wlt i hi; lia) fun Ds h35 c35 F35 N35 lt35=>?_
  have Dsh:=N35 _ (.head _)
  have wln:=TR.wln
  let Jv4:Addr→Nat→List Value→(Str→Option Value)→List (Addr×Obj)→Prop:=fun _ i ys _ news'=>news'=(Ds,W.listOf (List.toArray (ws.map fun i=>Value.ref ((tp.map (·.1)).getD i 0))) c35)::B7∧IntsAre ys (toI (ws.take i))
  refine srcP (s:=up s _ _) (vs:=ws.map fun i=>Value.ref ((tp.map (·.1)).getD i 0)) rm.handled F35 N35 ⟨_,Dsh.1,rfl,_,rfl⟩ Dsh.2.1 (by rw [List.length_map]; lia) (fun v hv=>by obtain ⟨i,_,rfl⟩:=List.mem_map.mp hv; exact ⟨_,rfl⟩)
    Jv4 (fun C=>⟨rfl,.nil⟩) ?_ ?_
  · intro E2 i v C D8 ys m₂ news₂ h8 tk8 own2 hPv hJ2 hw2 F8 N8
    obtain ⟨rfl,hys2⟩:=hJ2
    have hi:i<ws.length:=by
      rcases Nat.lt_or_ge i ws.length with q | q
      · exact q
      · rw [List.getElem?_eq_none (by rw [List.length_map]; exact q)] at hPv; cases hPv
    have hwi:ws[i]?=some (ws.getD i 0):=by rw [List.getD_eq_getElem?_getD,List.getElem?_eq_getElem hi]; rfl
    rw [List.getElem?_map,hwi] at hPv
    cases hPv
    have hlt:=TR.wlt (ws.getD i 0) (List.mem_of_getElem? hwi)
    obtain ⟨t,u,_,hm⟩:=tpi _ hlt
    refine assT (s:=up s _ _) rm.handled F8 N8 (List.mem_append_left _ (.tail _ (s6 hm))) rfl fun h9 F9 N9=>wpAny_assignInOrder_more<|wpAny_assign_Name<|st (s:=up s _ _) F9 N9 fun h10 tk10 F10 N10=>wpAny_assignInOrder_more<|wpAny_assign_Name<|st (s:=up s _ _) F10 N10 fun h11 tk11 F11 N11=>wpAny_assignInOrder_none ?_
    refine ld (s:=up s _ _) F11 rfl<|CT.mk (s:=up s _ _) F11 N11 hw2 ⟨rfl,?_⟩
    rw [List.take_add_one,hwi,Option.toList_some]
    unfold toI at hys2 ⊢
    rw [List.map_append]
    exact IntsAre.snoc hys2 _ _
  intro Dz C h36 tk36 m36 oC dzv news36 F36 N36 hoC hJ2 hp36 hDC36 hDz0
  obtain ⟨hnews,hdz⟩:=hJ2
  rw [hnews] at N36 hp36
  rw [List.length_map,List.take_of_length_le (Nat.le_refl _)] at hdz
  refine postN (s:=up s _ _) F36 N36 hoC (fun p hp=>?_) fun h37 F37 N37=>?_
  · rcases List.mem_cons.mp hp with rfl | hp
    · exact hDC36
    · exact (hp36 p hp).1
  refine rcI_eq (s:=up s _ _) (N37 _ (.tail _ (.tail _ sw6))).1 (N37 _ (.head _)).1 hwsv hdz rm.u prog w _ _ ?_
  rw [beq_self_eq_true]
  exact hR _ _ F37.keep
theorem al0:∀ d,P1 d:=epsAll ne0 P1 (by with_unfolding_all exact bd0)
end Zlawtail
end
section
variable {prog:Program} {w:World} {A:Around} {E':Value→Shared→Prop} {s:Shared}
theorem law_tail {R:Flow→Shared→Prop} {g h:Heap} {L:Addr} {tk:Nat} {m:Str→Option Value} {o1 o2 o3 o4 o5:Obj} {KL:List (Addr×Obj)} {ms:List Mi} {M Zq Wk Ah Do Dp:Addr} {n1 nD nP:Nat} {zv wkv dov dpv:List Value} {il:List (Addr×List Value)} {qs:List (List Nat)} {ord:List Nat} {rk:Int→Nat} {rd:List (Int×Int)} {dep gr:Nat→Nat} {ws:List Nat}:Zlawtail.P0 prog w A s E' R g h L tk m o1 o2 o3 o4 o5 KL ms M Zq Wk Ah Do Dp n1 nD nP zv wkv dov dpv il qs ord rk rd dep gr ws:=Zlawtail.al0 ((((((prog,w),A),(s,E')),(((R,g),h),(L,tk))),((((m,o1),o2),(o3,o4)),(((o5,KL),ms),(M,Zq)))),(((((Wk,Ah),Do),(Dp,n1)),(((nD,nP),zv),(wkv,dov))),((((dpv,il),qs),(ord,rk)),((rd,dep),(gr,ws)))))
end
end
section
open PyProof.Rows.TI (Frs SameUp)
section
variable {prog:Program} {w:World} {A:Around} {E:Value→Shared→Prop} {s:Shared}
end
noncomputable section
namespace Zlaw
abbrev D0:=((((Program)×(World))×((Around)×(Shared)))×(((Around)×(Addr))×(List Value)))×((((List Int)×(Addr))×((Heap)×(Nat)))×(((Addr→Obj)×(Flow→Shared→Prop))×(Value→Shared→Prop)))
abbrev P0 (prog:Program) (w:World) (A:Around) (s:Shared) (A₁:Around) (sc:Addr) (sv:List Value) (ns:List Int) (L:Addr) (h₀:Heap) (tk₀:Nat) (co:Addr→Obj) (R₁:Flow→Shared→Prop) (E₁:Value→Shared→Prop):Prop:=∀ (rm:Room A 20) (hfr:A.frames=some []) (T:Wd w s.heap) (hS:s.heap.IsList sc sv.toArray) (hI:IntsAre sv ns) (hz:ns.length≤1000) (hP:∀ rws:List (List (List Nat)),1≤rws.length→rws.length≤6→rws.Nodup→(∀ r∈rws,∃ toks:List Nat,toks.length≤3∧(∀ t∈toks,t<6)∧rowsOf toks=r)→∃ ord rk rd dep gr ws,Plain rws ord rk rd dep gr ws) (h:∀ h' tk',(∀ b o,s.heap.get? b=some o→h'.get? b=some o)→R₁ (.ret (.bool true)) (up s h' tk')) (F:Fr (hideAll s.heap (([]:List (Addr×Obj)).map (·.1))) L h₀ (bindL (callEnvC (fd279 w) L 279).kindOf ([(("script":Str),.ref sc)]) fun _=>none)) (N:News (hideAll s.heap (([]:List (Addr×Obj)).map (·.1))) L h₀ ((cellsFrom (L+1) (fd279 w).scope.names []).map (fun x=>(x.2,cel (co x.2) (bindC (callEnvC (fd279 w) L 279).kindOf ([(("script":Str),.ref sc)]) (fun _=>none) x.1)))++[])) (hcf:∀ x∈cellsFrom (L+1) (fd279 w).scope.names [],s.heap.get? x.2=none) (dA:Deeper A A₁ (callEnvC (fd279 w) L 279)),wpAny (model prog w) A₁ (execs (stm (fd279 w)) (callEnvC (fd279 w) L 279)) R₁ E₁ (up s h₀ tk₀)
abbrev P1 (d:D0):=P0 d.1.1.1.1 d.1.1.1.2 d.1.1.2.1 d.1.1.2.2 d.1.2.1.1 d.1.2.1.2 d.1.2.2 d.2.1.1.1 d.2.1.1.2 d.2.1.2.1 d.2.1.2.2 d.2.2.1.1 d.2.2.1.2 d.2.2.2
theorem ne0:Nonempty D0:=⟨((((Challenge.pw_ny0293_01,Classical.choice neW),(callerA,Classical.choice neS)),((callerA,default),default)),default)⟩
@[irreducible] def d0:D0:=@Classical.epsilon D0 ne0 fun d=>¬ P1 d
def prog:=d0.1.1.1.1
def w:=d0.1.1.1.2
def A:=d0.1.1.2.1
def s:=d0.1.1.2.2
def A₁:=d0.1.2.1.1
def sc:=d0.1.2.1.2
def sv:=d0.1.2.2
def ns:=d0.2.1.1.1
def L:=d0.2.1.1.2
def h₀:=d0.2.1.2.1
def tk₀:=d0.2.1.2.2
def co:=d0.2.2.1.1
def R₁:=d0.2.2.1.2
def E₁:=d0.2.2.2
theorem bd0:P0 prog w A s A₁ sc sv ns L h₀ tk₀ co R₁ E₁:=by
  intro rm hfr T hS hI hz hP h F N hcf dA
  refine with_stm (P:=fun b=>wpAny (model prog w) A₁ (execs b (callEnvC (fd279 w) L 279)) R₁ E₁ (up s h₀ tk₀)) rfl ?_
  show wpAny _ _ (execs (_::_) _) _ _ _
  have rm':=dA.room rm
  rw [cells279] at N hcf
  change Fr s.heap L h₀ _ at F
  have N0:News s.heap L h₀ (cl5 L (co (L+1)) (co (L+1+1)) (co (L+1+1+1)) (co (L+1+1+1+1)) (co (L+1+1+1+1+1)) none none none none none++[]):=news_sub (show News s.heap L h₀ [((L+1+1+1+1+1),cel (co (L+1+1+1+1+1)) none),((L+1+1+1+1),cel (co (L+1+1+1+1)) none),((L+1+1+1),cel (co (L+1+1+1)) none),((L+1+1),cel (co (L+1+1)) none),((L+1),cel (co (L+1)) none)] from N) fun p hp=>by
    simp only [List.mem_cons,List.mem_append,List.not_mem_nil,or_false] at hp ⊢
    grind
  clear N
  generalize co (L+1)=o1 at N0
  generalize co (L+1+1)=o2 at N0
  generalize co (L+1+1+1)=o3 at N0
  generalize co (L+1+1+1+1)=o4 at N0
  generalize co (L+1+1+1+1+1)=o5 at N0
  have lt1:∀ a:Nat,a<a+1:=fun a=>Nat.lt_succ_self a
  have n12:(L+1)≠(L+1+1):=Nat.ne_of_lt (lt1 _)
  have n13:(L+1)≠(L+1+1+1):=Nat.ne_of_lt (Nat.lt_trans (lt1 _) (lt1 _))
  have n14:(L+1)≠(L+1+1+1+1):=Nat.ne_of_lt (Nat.lt_trans (lt1 _) (Nat.lt_trans (lt1 _) (lt1 _)))
  have n15:(L+1)≠(L+1+1+1+1+1):=Nat.ne_of_lt (Nat.lt_trans (lt1 _) (Nat.lt_trans (lt1 _) (Nat.lt_trans (lt1 _) (lt1 _))))
  have n23:(L+1+1)≠(L+1+1+1):=Nat.ne_of_lt (lt1 _)
  have n24:(L+1+1)≠(L+1+1+1+1):=Nat.ne_of_lt (Nat.lt_trans (lt1 _) (lt1 _))
  have n25:(L+1+1)≠(L+1+1+1+1+1):=Nat.ne_of_lt (Nat.lt_trans (lt1 _) (Nat.lt_trans (lt1 _) (lt1 _)))
  have n34:(L+1+1+1)≠(L+1+1+1+1):=Nat.ne_of_lt (lt1 _)
  have n35:(L+1+1+1)≠(L+1+1+1+1+1):=Nat.ne_of_lt (Nat.lt_trans (lt1 _) (lt1 _))
  have n45:(L+1+1+1+1)≠(L+1+1+1+1+1):=Nat.ne_of_lt (lt1 _)
  have U1:∀ {v v' v2 v3 v4 v5:Option Value} {KL:List (Addr×Obj)},Off5 L KL→Upd (L+1) (cel o1 v) (cel o1 v') (cl5 L o1 o2 o3 o4 o5 v v2 v3 v4 v5++KL) (cl5 L o1 o2 o3 o4 o5 v' v2 v3 v4 v5++KL):=fun hK=>.head fun p hp=>by
    simp only [List.cons_append,List.nil_append,List.append_eq,List.mem_cons] at hp
    rcases hp with rfl | rfl | rfl | rfl | hp
    · exact n12.symm
    · exact n13.symm
    · exact n14.symm
    · exact n15.symm
    · exact (hK p hp).1
  have U2:∀ {v v' v1 v3 v4 v5:Option Value} {KL:List (Addr×Obj)},Off5 L KL→Upd (L+1+1) (cel o2 v) (cel o2 v') (cl5 L o1 o2 o3 o4 o5 v1 v v3 v4 v5++KL) (cl5 L o1 o2 o3 o4 o5 v1 v' v3 v4 v5++KL):=fun hK=>.tail n12 (.head fun p hp=>by
    simp only [List.cons_append,List.nil_append,List.append_eq,List.mem_cons] at hp
    rcases hp with rfl | rfl | rfl | hp
    · exact n23.symm
    · exact n24.symm
    · exact n25.symm
    · exact (hK p hp).2.1)
  have U3:∀ {v v' v1 v2 v4 v5:Option Value} {KL:List (Addr×Obj)},Off5 L KL→Upd (L+1+1+1) (cel o3 v) (cel o3 v') (cl5 L o1 o2 o3 o4 o5 v1 v2 v v4 v5++KL) (cl5 L o1 o2 o3 o4 o5 v1 v2 v' v4 v5++KL):=fun hK=>.tail n13 (.tail n23 (.head fun p hp=>by
    simp only [List.cons_append,List.nil_append,List.append_eq,List.mem_cons] at hp
    rcases hp with rfl | rfl | hp
    · exact n34.symm
    · exact n35.symm
    · exact (hK p hp).2.2.1))
  have U4:∀ {v v' v1 v2 v3 v5:Option Value} {KL:List (Addr×Obj)},Off5 L KL→Upd (L+1+1+1+1) (cel o4 v) (cel o4 v') (cl5 L o1 o2 o3 o4 o5 v1 v2 v3 v v5++KL) (cl5 L o1 o2 o3 o4 o5 v1 v2 v3 v' v5++KL):=fun hK=>.tail n14 (.tail n24 (.tail n34 (.head fun p hp=>by
    simp only [List.cons_append,List.nil_append,List.append_eq,List.mem_cons] at hp
    rcases hp with rfl | hp
    · exact n45.symm
    · exact (hK p hp).2.2.2.1)))
  have U5:∀ {v v' v1 v2 v3 v4:Option Value} {KL:List (Addr×Obj)},Off5 L KL→Upd (L+1+1+1+1+1) (cel o5 v) (cel o5 v') (cl5 L o1 o2 o3 o4 o5 v1 v2 v3 v4 v++KL) (cl5 L o1 o2 o3 o4 o5 v1 v2 v3 v4 v'++KL):=fun hK=>.tail n15 (.tail n25 (.tail n35 (.tail n45 (.head fun p hp=>(hK p hp).2.2.2.2))))
  refine wpAny_execs_cons<|Assign_Tuple<|callg (f:=231) T F (by kernel_rfl) (by kernel_rfl)<|spliced_more<|ld F rfl<|spliced_none ⟨T.X.keeps F.keep,mails_call (rm'.le (by lia)) (T.keeps F.keep) (let ⟨o,ho,r⟩:=hS; ⟨o,F.keep _ _ ho,r⟩) hI hz fun h1 tk1 tp M X ms n1 n2 ex1 htp hM hX hms hnd hn1 hn6 ftp fM fX=>?_⟩
  obtain ⟨F1,N1⟩:=back (W:=[]) (W':=(tp,tupOf [.ref M,.ref X])::(M,W.listOf (List.toArray (ms.map fun x:Mi=>Value.ref x.R)) n1)::(X,W.listOf (List.toArray (ms.map fun x:Mi=>Value.str (S (textOf x.toks)) x.tt)) n2)::ms.map Mi.led) F N0 ex1
    (fun p hp=>by
      simp only [List.mem_cons] at hp
      rcases hp with rfl | rfl | rfl | hp
      · exact htp
      · exact hM
      · exact hX
      · obtain ⟨x,hx,rfl⟩:=List.mem_map.mp hp
        exact (hms x hx).1)
    (fun p hp=>by
      simp only [List.mem_cons] at hp
      rcases hp with rfl | rfl | rfl | hp
      · exact .inr ftp
      · exact .inr fM
      · exact .inr fX
      · obtain ⟨x,hx,rfl⟩:=List.mem_map.mp hp
        exact .inr (hms x hx).2.2) (fun p _ q=>nomatch q)
  have hmo:∀ x∈ms,x.Ok:=fun x hx=>(hms x hx).2.1
  have K1:Off5 L ((tp,tupOf [.ref M,.ref X])::(M,W.listOf (List.toArray (ms.map fun x:Mi=>Value.ref x.R)) n1)::(X,W.listOf (List.toArray (ms.map fun x:Mi=>Value.str (S (textOf x.toks)) x.tt)) n2)::ms.map Mi.led):=off5 N0 (fun p hp=>nomatch hp) fun p hp=>by
    simp only [List.mem_cons] at hp
    rcases hp with rfl | rfl | rfl | hp
    · exact .inl ftp
    · exact .inl fM
    · exact .inl fX
    · obtain ⟨x,hx,rfl⟩:=List.mem_map.mp hp
      exact .inl (hms x hx).2.2
  generalize hKL:(tp,tupOf [.ref M,.ref X])::(M,W.listOf (List.toArray (ms.map fun x:Mi=>Value.ref x.R)) n1)::(X,W.listOf (List.toArray (ms.map fun x:Mi=>Value.str (S (textOf x.toks)) x.tt)) n2)::ms.map Mi.led=KL at N1 K1
  have mTp:((tp,tupOf [.ref M,.ref X]):Addr×Obj)∈KL:=by rw [← hKL]; exact .head _
  have mM:((M,W.listOf (List.toArray (ms.map fun x:Mi=>Value.ref x.R)) n1):Addr×Obj)∈KL:=by rw [← hKL]; exact .tail _ (.head _)
  have mX:((X,W.listOf (List.toArray (ms.map fun x:Mi=>Value.str (S (textOf x.toks)) x.tt)) n2):Addr×Obj)∈KL:=by rw [← hKL]; exact .tail _ (.tail _ (.head _))
  have mR:∀ x∈ms,x.led∈KL:=fun x hx=>by rw [← hKL]; exact .tail _ (.tail _ (.tail _ (List.mem_map_of_mem hx)))
  have N1':News s.heap L h1 (cl5 L o1 o2 o3 o4 o5 none none none none none++KL):=news_sub N1 fun p hp=>by
    rcases List.mem_append.mp hp with q | q
    · exact List.mem_append_right _ (List.mem_append_left _ q)
    · exact List.mem_append_left _ q
  refine assT (s:=up s _ _) rm'.handled F1 N1' (List.mem_append_right _ mTp) rfl fun h2 F2 N2=>wpAny_assignInOrder_more<|wpAny_assign_Name<|stC (s:=up s _ _) F2 N2 (U1 K1) fun h3 F3 N3=>wpAny_assignInOrder_more<|wpAny_assign_Name<|st (s:=up s _ _) F3 N3 fun h4 tk4 F4 N4=>wpAny_assignInOrder_none ?_
  have Xh4:=(N4 _ (List.mem_append_right _ mX))
  let Jv0:Addr→Nat→List Value→(Str→Option Value)→List (Addr×Obj)→Prop:=fun _ i ys _ news'=>news'=cl5 L o1 o2 o3 o4 o5 (some (.ref M)) none none none none++KL∧Strs ys ((ms.take i).map fun x=>sentOf x.rows)
  refine wpAny_execs_cons<|wpAny_Assign_Name<|lcG (cl:=[]) (by kernel_rfl)<|ld (s:=up s _ _) F4 rfl<|srcL (s:=up s _ _) (vs:=ms.map fun x:Mi=>Value.str (S (textOf x.toks)) x.tt) rm'.handled F4 N4 ⟨_,Xh4.1,rfl,_,rfl⟩ Xh4.2.1 (by rw [List.length_map]; lia)
    Jv0 (fun C=>⟨rfl,.nil⟩) ?_ ?_
  · intro E2 i v C D8 ys m₂ news₂ h8 tk8 own2 hi hP hJ2 hw2 hav2 hcov2 F8 N8
    obtain ⟨rfl,hys⟩:=hJ2
    rw [List.length_map] at hi
    have hx:(ms.map fun x:Mi=>Value.str (S (textOf x.toks)) x.tt)[i]?=some (Value.str (S (textOf ms[i].toks)) ms[i].tt):=by simp [hi]
    rw [hx] at hP
    cases hP
    have ok:=hmo _ (List.getElem_mem hi)
    refine wpAny_assign_Name<|st (s:=up s _ _) F8 N8 fun h9 tk9 F9 N9=>wpAny_tests_nil ?_
    first | refine ifT rfl ?_ | rw [if_pos rfl]
    refine callg (f:=217) (s:=up s _ _) T F9 (by kernel_rfl) (by kernel_rfl)<|spliced_more<|ld (s:=up s _ _) F9 rfl<|spliced_none ⟨T.X.keeps F9.keep,quotedata_call (s:=up s _ _) (rm'.le (by lia)) (T.keeps F9.keep) (text_small ok.len) (quoted_ok ok.len ok.six) fun h10 tk10 t10 ex10=>?_⟩
    obtain ⟨F10,N10⟩:=ext_grow F9 N9 ex10
    refine CT.mk (s:=up s _ _) F10 N10 hw2 ⟨rfl,?_⟩
    rw [List.take_add_one,List.getElem?_eq_getElem hi,Option.toList_some,List.map_append]
    exact Strs.snoc hys
  intro Zq C h8 tk8 m8 oC zv news8 F8 N8 hoC hJ2 hp8 hDC hDl0
  obtain ⟨rfl,hys⟩:=hJ2
  rw [List.length_map,List.take_of_length_le (Nat.le_refl _)] at hys
  refine postN (s:=up s _ _) F8 N8 hoC (fun p hp=>?_) fun h9 F9 N9=>?_
  · rcases List.mem_cons.mp hp with rfl | hp
    · exact hDC
    · exact (hp8 p hp).1
  generalize hqs:(ms.map fun x=>sentOf x.rows)=qs at hys
  have lqs:qs.length=ms.length:=by rw [← hqs,List.length_map]
  have K2:Off5 L ((Zq,W.listOf (List.toArray zv) zv.length)::KL):=off5 N4 K1 fun p hp=>by
    rcases List.mem_cons.mp hp with rfl | hp
    · exact .inl hDl0
    · exact .inr hp
  have N9':News s.heap L h9 (cl5 L o1 o2 o3 o4 o5 (some (.ref M)) none none none none++((Zq,W.listOf (List.toArray zv) zv.length)::KL)):=news_sub N9 fun p hp=>by
    simp only [List.mem_append,List.mem_cons] at hp ⊢
    grind
  refine stC (s:=up s _ _) F9 N9' (U2 K2) fun h10 F10 N10=>?_
  generalize hKL2:(Zq,W.listOf (List.toArray zv) zv.length)::KL=KL2 at N10 K2
  have mZ:((Zq,W.listOf (List.toArray zv) zv.length):Addr×Obj)∈KL2:=by rw [← hKL2]; exact .head _
  have sub2:∀ p∈KL,p∈KL2:=fun p hp=>by rw [← hKL2]; exact .tail _ hp
  have mc:∀ {v1 v2 v3 v4 v5:Option Value} {K:List (Addr×Obj)} {p:Addr×Obj},p∈K→p∈cl5 L o1 o2 o3 o4 o5 v1 v2 v3 v4 v5++K:=fun hp=>List.mem_append_right _ hp
  have stR:∀ {h':Heap} {v1 v2 v3 v4 v5:Option Value} {K:List (Addr×Obj)},News s.heap L h' (cl5 L o1 o2 o3 o4 o5 v1 v2 v3 v4 v5++K)→(∀ p∈KL,p∈K)→∀ x∈ms,StrsAt h' x.R x.rows∧Small x.rows∧x.rows≠[]:=fun N hs x hx=>⟨⟨x.vs,x.n,(N _ (mc (hs _ (mR x hx)))).1,(hmo x hx).isS⟩,rows_small (hmo x hx).len⟩
  refine wpAny_execs_cons<|wpAny_If<|wpAny_isTrue_Compare1<|ldC (s:=up s _ _) N10 (.tail _ (.head _))<|callg (f:=236) (s:=up s _ _) T F10 (by kernel_rfl) (by kernel_rfl)<|spliced_more<|ldC (s:=up s _ _) N10 (.head _)<|spliced_none ⟨T.X.keeps F10.keep,sent_call (s:=up s _ _) (ml:=ms.map fun x=>(x.R,x.rows)) (rm'.le (by lia)) (T.keeps F10.keep) (by rw [List.map_map]; exact (N10 _ (mc (sub2 _ mM))).1) (fun p hp=>by
      obtain ⟨x,hx,rfl⟩:=List.mem_map.mp hp
      exact ⟨(stR N10 sub2 x hx).1,(stR N10 sub2 x hx).2.1⟩) (by rw [List.length_map]; lia) fun h11 tk11 D11 vs11 n11 ex11 hD11 hs11 fr11=>?_⟩
  obtain ⟨F11,N11⟩:=ext_grow F10 N10 ex11
  rw [List.map_map,show ((fun p:Addr×List (List Nat)=>sentOf p.2) ∘ fun x:Mi=>(x.R,x.rows))=fun x:Mi=>sentOf x.rows from rfl,hqs] at hs11
  refine rc_ne (s:=up s _ _) ⟨_,_,(N11 _ (mc mZ)).1,hys⟩ ⟨_,_,hD11,hs11⟩ rm'.u prog w _ _<|wpAny_truthy_bool ?_
  first | refine ifF (by simp) ?_ | rw [if_neg (by simp)]
  refine wpAny_execs_nil ?_
  obtain ⟨tz,htz⟩:=strs_range hys
  have hMr:(ms.map fun x:Mi=>Value.ref x.R)=(List.range ms.length).map fun i=>Value.ref ((ms.map Mi.R).getD i 0):=List.ext_getElem? fun i=>by
    by_cases hi:i<ms.length
    · simp [hi]
    · rw [List.getElem?_eq_none (by simp; lia),List.getElem?_eq_none (by simp; lia)]
  have hqr:∀ i,i<ms.length→qs.getD i []=sentOf ((ms.map Mi.rows).getD i []):=fun i hi=>by rw [← hqs]; simp [hi]
  have hZr:zv=(List.range ms.length).map fun i=>Value.str (S (sentOf ((ms.map Mi.rows).getD i []))) (tz i):=by
    rw [htz,lqs]
    exact List.map_congr_left fun i hi=>by rw [hqr i (List.mem_range.mp hi)]
  have rat:∀ i,i<ms.length→∃ x∈ms,(ms.map Mi.R).getD i 0=x.R∧(ms.map Mi.rows).getD i []=x.rows:=fun i hi=>⟨ms[i],List.getElem_mem hi,by simp [hi],by simp [hi]⟩
  have P:=hP (ms.map Mi.rows) (by rw [List.length_map]; exact hn1) (by rw [List.length_map]; exact hn6) hnd (fun r hr=>by
    obtain ⟨x,hx,rfl⟩:=List.mem_map.mp hr
    exact ⟨x.toks,(hmo x hx).len,(hmo x hx).six,rfl⟩)
  obtain ⟨ord,rk,rd,dep,gr,ws,P⟩:=P
  have pn:(ms.map Mi.rows).length=ms.length:=by simp
  refine wpAny_execs_cons<|Assign_Tuple<|callg (f:=250) (s:=up s _ _) T F11 (by kernel_rfl) (by kernel_rfl)<|spliced_more<|ldC (s:=up s _ _) N11 (.head _)<|spliced_more<|ldC (s:=up s _ _) N11 (.tail _ (.head _))<|spliced_none ⟨T.X.keeps F11.keep,side_call (s:=up s _ _) (n:=ms.length) (R:=fun i=>(ms.map Mi.R).getD i 0) (rows:=fun i=>(ms.map Mi.rows).getD i []) (tz:=tz) (lt:=ltI (ms.map Mi.rows)) (rm'.le (by lia)) (T.keeps F11.keep) hn1 hn6
    (by rw [← hMr]; exact (N11 _ (mc (sub2 _ mM))).1) (by rw [← hZr]; exact (N11 _ (mc mZ)).1) (fun i hi=>by
      obtain ⟨x,hx,e1,e2⟩:=rat i hi
      show StrsAt _ ((ms.map Mi.R).getD i 0) ((ms.map Mi.rows).getD i [])∧Small ((ms.map Mi.rows).getD i [])
      rw [e1,e2]
      exact ⟨(stR N11 sub2 x hx).1,(stR N11 sub2 x hx).2.1⟩) (fun i _ j _=>rfl) (fun i hi j hj=>P.lts i (by rw [pn]; exact hi) j (by rw [pn]; exact hj)) fun h12 tk12 tp12 Do n12' ex12 htp12 hDo ftp12 fDo ltDo=>?_⟩
  have side1:=P.side1
  have side2:=P.side2
  rw [pn] at side1 side2
  rw [side2] at htp12
  rw [side1] at hDo
  obtain ⟨F12,N12⟩:=back (W:=[]) (W':=[(tp12,tupOf [.ref Do,.bool true]),(Do,W.listOf (List.toArray (ord.map fun i=>Value.str (S (sentOf ((ms.map Mi.rows).getD i []))) (tz i))) n12')]) F11 N11 ex12
    (fun p hp=>by
      simp only [List.mem_cons,List.not_mem_nil,or_false] at hp
      rcases hp with rfl | rfl
      · exact htp12
      · exact hDo)
    (fun p hp=>by
      simp only [List.mem_cons,List.not_mem_nil,or_false] at hp
      rcases hp with rfl | rfl
      · exact .inr ftp12
      · exact .inr fDo) (fun p _ q=>nomatch q)
  have K3:Off5 L ([(tp12,tupOf [.ref Do,.bool true]),(Do,W.listOf (List.toArray (ord.map fun i=>Value.str (S (sentOf ((ms.map Mi.rows).getD i []))) (tz i))) n12')]++KL2):=off5 N11 K2 fun p hp=>by
    rcases List.mem_append.mp hp with hp | hp
    · simp only [List.mem_cons,List.not_mem_nil,or_false] at hp
      rcases hp with rfl | rfl
      · exact .inl ftp12
      · exact .inl fDo
    · exact .inr hp
  generalize hKL3:[(tp12,tupOf [.ref Do,.bool true]),(Do,W.listOf (List.toArray (ord.map fun i=>Value.str (S (sentOf ((ms.map Mi.rows).getD i []))) (tz i))) n12')]=Kx at N12 K3
  have mDo:((Do,W.listOf (List.toArray (ord.map fun i=>Value.str (S (sentOf ((ms.map Mi.rows).getD i []))) (tz i))) n12'):Addr×Obj)∈Kx++KL2:=by rw [← hKL3]; exact .tail _ (.head _)
  have mT3:((tp12,tupOf [.ref Do,.bool true]):Addr×Obj)∈Kx++KL2:=by rw [← hKL3]; exact .head _
  have N12':News s.heap L h12 (cl5 L o1 o2 o3 o4 o5 (some (.ref M)) (some (.ref Zq)) none none none++(Kx++KL2)):=news_sub N12 fun p hp=>by
    rcases List.mem_append.mp hp with q | q
    · exact List.mem_append_right _ (List.mem_append_left _ q)
    · rcases List.mem_append.mp q with q | q
      · exact List.mem_append_left _ q
      · exact List.mem_append_right _ (mc q)
  have sub3:∀ p∈KL2,p∈Kx++KL2:=fun p hp=>List.mem_append_right _ hp
  generalize Kx++KL2=KL3 at N12' K3 mDo mT3 sub3
  refine assT (s:=up s _ _) rm'.handled F12 N12' (mc mT3) rfl fun h13 F13 N13=>wpAny_assignInOrder_more<|wpAny_assign_Name<|st (s:=up s _ _) F13 N13 fun h14 tk14 F14 N14=>wpAny_assignInOrder_more<|wpAny_assign_Name<|st (s:=up s _ _) F14 N14 fun h15 tk15 F15 N15=>wpAny_assignInOrder_none ?_
  have sub13:∀ p∈KL,p∈KL3:=fun p hp=>sub3 p (sub2 p hp)
  have lR:(ms.map Mi.R).length=ms.length:=by simp
  have rmu:=rm'.units
  have stI:∀ {h':Heap} {v1 v2 v3 v4 v5:Option Value} {K:List (Addr×Obj)},News s.heap L h' (cl5 L o1 o2 o3 o4 o5 v1 v2 v3 v4 v5++K)→(∀ p∈KL,p∈K)→∀ i,i<(ms.map Mi.R).length→StrsAt h' ((ms.map Mi.R).getD i 0) ((ms.map Mi.rows).getD i []):=fun N hs i hi=>by
    obtain ⟨x,hx,e1,e2⟩:=rat i (by rw [← lR]; exact hi)
    rw [e1,e2]; exact (stR N hs x hx).1
  refine wpAny_execs_cons<|wpAny_Assign_Name<|lcG (cl:=[(Str.ofString "lists",(L+1))]) (by kernel_rfl)<|callb (id:="sorted") (s:=up s _ _) T F15 (by kernel_rfl)<|spliced_more<|ldC (s:=up s _ _) N15 (.head _)<|spliced_none<|sortedOrd (s:=up s _ _) (R:=ms.map Mi.R) (rws:=ms.map Mi.rows) (ord:=ord) F15 N15 (by lia) ⟨_,(N15 _ (mc (sub13 _ mM))).1,rfl,_,by rw [List.map_map]; rfl⟩ (by lia) (by lia) (fun h' _ N'=>stI N' sub13) (fun e=>P.one (by rw [pn]; lia)) (fun e=>by rw [lR]; have:=P.run (by rw [pn]; lia); rw [pn] at this; exact this) (fun i hi=>by have:=P.olt i hi; lia) fun Ds h16 c16 F16 N16 lt16=>?_
  have Dsh:=N16 _ (.head _)
  have Rne:∀ i j,i<ms.length→j<ms.length→i≠j→(ms.map Mi.R).getD i 0≠(ms.map Mi.R).getD j 0∧(ms.map Mi.rows).getD i []≠(ms.map Mi.rows).getD j []:=fun i j hi hj hij=>by
    have hr:(ms.map Mi.rows).getD i []≠(ms.map Mi.rows).getD j []:=fun e=>by
      rw [List.getD_eq_getElem?_getD,List.getD_eq_getElem?_getD,List.getElem?_eq_getElem (by rw [pn]; exact hi),List.getElem?_eq_getElem (by rw [pn]; exact hj)] at e
      exact hij ((List.getElem_inj hnd).mp e)
    refine ⟨fun e=>hr ?_,hr⟩
    have a:=stI N15 sub13 i (by rw [lR]; exact hi)
    have b:=stI N15 sub13 j (by rw [lR]; exact hj)
    rw [e] at a
    exact strs_unique a b
  have lord:ord.length=ms.length:=by rw [P.oln,pn]
  have olt:∀ i,i<ms.length→ord.getD i 0<ms.length:=fun i hi=>by
    have:=P.olt (ord.getD i 0) (by rw [List.getD_eq_getElem?_getD,List.getElem?_eq_getElem (by lia)]; exact List.getElem_mem _)
    rw [pn] at this; exact this
  let Jv1:Addr→Nat→List Value→(Str→Option Value)→List (Addr×Obj)→Prop:=fun _ i ys _ news'=>news'=(Ds,W.listOf (List.toArray (ord.map fun i=>Value.ref ((ms.map Mi.R).getD i 0))) c16)::(cl5 L o1 o2 o3 o4 o5 (some (.ref M)) (some (.ref Zq)) none none none++KL3)∧IntsAre ys (toI (ord.take i))
  refine srcL (s:=up s _ _) (vs:=ord.map fun i=>Value.ref ((ms.map Mi.R).getD i 0)) rm'.handled F16 N16 ⟨_,Dsh.1,rfl,_,rfl⟩ Dsh.2.1 (by rw [List.length_map]; lia)
    Jv1 (fun C=>⟨rfl,.nil⟩) ?_ ?_
  · intro E2 i v C D8 ys m₂ news₂ h8 tk8 own2 hi hPv hJ2 hw2 hav2 hcov2 F8 N8
    obtain ⟨rfl,hys2⟩:=hJ2
    rw [List.length_map,lord] at hi
    have hx:(ord.map fun i=>Value.ref ((ms.map Mi.R).getD i 0))[i]?=some (Value.ref ((ms.map Mi.R).getD (ord.getD i 0) 0)):=by
      rw [List.getElem?_map,List.getElem?_eq_getElem (by lia),List.getD_eq_getElem?_getD (l:=ord),List.getElem?_eq_getElem (by lia)]; rfl
    rw [hx] at hPv
    cases hPv
    have hN:∀ {h':Heap},News s.heap C h' (((Ds,W.listOf (List.toArray (ord.map fun i=>Value.ref ((ms.map Mi.R).getD i 0))) c16)::(cl5 L o1 o2 o3 o4 o5 (some (.ref M)) (some (.ref Zq)) none none none++KL3))++own2)→∀ p∈KL3,h'.get? p.1=some p.2:=fun N p hp=>(N p (List.mem_append_left _ (.tail _ (mc hp)))).1
    refine wpAny_assign_Name<|st (s:=up s _ _) F8 N8 fun h9 tk9 F9 N9=>wpAny_tests_nil ?_
    first | refine ifT rfl ?_ | rw [if_pos rfl]
    refine methodCall_KW<|ldC (s:=up s _ _) N9 (.tail _ (.head _))<|kl_method (s:=up s _ _) N9 (List.mem_append_left _ (.tail _ (mc (sub13 _ mM)))) PySem.F.slot_list_index PySem.F.type_list_index<|callWith_method1<|spliced_more<|ld (s:=up s _ _) F9 rfl<|spliced_none <|
      idxRows (s:=up s _ _) (R:=ms.map Mi.R) (rows:=ms.map Mi.rows) (j:=ord.getD i 0) (n:=n1) (by lia) (by rw [List.map_map]; exact hN N9 _ (sub13 _ mM)) (by rw [lR]; exact olt i hi) (by lia) (fun k hk=>?_) (fun k hk hne=>Rne k _ (by rw [← lR]; exact hk) (olt i hi) hne) fun tI tkI=>?_
    · obtain ⟨x,hx,e1,e2⟩:=rat k (by rw [← lR]; exact hk)
      rw [e1,e2]
      exact ⟨x.vs,x.n,hN N9 _ (sub13 _ (mR x hx)),(hmo x hx).isS⟩
    · refine CT.mk (s:=up s _ _) F9 N9 hw2 ⟨rfl,?_⟩
      rw [List.take_add_one,show ord[i]?=some (ord.getD i 0) by rw [List.getD_eq_getElem?_getD,List.getElem?_eq_getElem (by lia)]; rfl,Option.toList_some]
      unfold toI at hys2 ⊢
      rw [List.map_append]
      exact IntsAre.snoc hys2 _ _
  intro Wk C h17 tk17 m17 oC wkv news17 F17 N17 hoC hJ2 hp17 hDC17 hWk0
  obtain ⟨rfl,hwk⟩:=hJ2
  rw [List.length_map,List.take_of_length_le (Nat.le_refl _)] at hwk
  refine postN (s:=up s _ _) F17 N17 hoC (fun p hp=>?_) fun h18 F18 N18=>?_
  · rcases List.mem_cons.mp hp with rfl | hp
    · exact hDC17
    · exact (hp17 p hp).1
  have N16c:News s.heap L h16 (cl5 L o1 o2 o3 o4 o5 (some (.ref M)) (some (.ref Zq)) none none none++KL3):=fun p hp=>N16 p (.tail _ hp)
  have K4:Off5 L ((Wk,W.listOf (List.toArray wkv) wkv.length)::KL3):=off5 N16c K3 fun p hp=>by
    rcases List.mem_cons.mp hp with rfl | hp
    · exact .inl hWk0
    · exact .inr hp
  have N18':News s.heap L h18 (cl5 L o1 o2 o3 o4 o5 (some (.ref M)) (some (.ref Zq)) none none none++((Wk,W.listOf (List.toArray wkv) wkv.length)::KL3)):=news_sub N18 fun p hp=>by
    rcases List.mem_append.mp hp with q | q
    · exact .tail _ (.tail _ (List.mem_append_left _ q))
    · rcases List.mem_cons.mp q with rfl | q
      · exact .head _
      · exact .tail _ (.tail _ (mc q))
  refine stC (s:=up s _ _) F18 N18' (U3 K4) fun h19 F19 N19=>?_
  have mWk:((Wk,W.listOf (List.toArray wkv) wkv.length):Addr×Obj)∈(Wk,W.listOf (List.toArray wkv) wkv.length)::KL3:=.head _
  have sub4:∀ p∈KL3,p∈(Wk,W.listOf (List.toArray wkv) wkv.length)::KL3:=fun p hp=>.tail _ hp
  generalize (Wk,W.listOf (List.toArray wkv) wkv.length)::KL3=KL4 at N19 K4 mWk sub4
  have sub24:∀ p∈KL2,p∈KL4:=fun p hp=>sub4 p (sub3 p hp)
  have sub14:∀ p∈KL,p∈KL4:=fun p hp=>sub4 p (sub13 p hp)
  have hZget:∀ i,i<ms.length→∃ t,zv[i]?=some (.str (S (qs.getD i [])) t):=fun i hi=>hys.get i (qs.getD i []) (by rw [List.getD_eq_getElem?_getD,List.getElem?_eq_getElem (by lia)]; rfl)
  have lwk:wkv.length=ms.length:=by rw [hwk.length,toI_length,lord]
  have wkat:∀ i,i<ms.length→∃ t,wkv[i]?=some (.int (ord.getD i 0:Nat) t):=fun i hi=>IntsAre.getI hwk (by unfold toI; rw [List.getElem?_map,List.getD_eq_getElem?_getD,List.getElem?_eq_getElem (by lia)]; rfl)
  refine wpAny_execs_cons<|wpAny_If<|wpAny_isTrue_BoolOp<|wpAny_allTrue_Or_cons<|wpAny_isTrue_Not<|wpAny_isTrue_value<|ld (s:=up s _ _) F19 rfl<|wpAny_truthy_bool ?_
  first | refine ifF (by simp) ?_ | rw [if_neg (by simp)]
  have Wkh:=N19 _ (mc mWk)
  let Jv2:Addr→Nat→List Value→(Str→Option Value)→List (Addr×Obj)→Prop:=fun _ i ys _ news'=>news'=cl5 L o1 o2 o3 o4 o5 (some (.ref M)) (some (.ref Zq)) (some (.ref Wk)) none none++KL4∧Strs ys ((ord.take i).map fun k=>qs.getD k [])
  refine wpAny_allTrue_Or_cons<|wpAny_isTrue_Compare1<|ld (s:=up s _ _) F19 rfl<|lcG (cl:=[(Str.ofString "quoted",(L+1+1))]) (by kernel_rfl)<|ldC (s:=up s _ _) N19 (.tail _ (.tail _ (.head _)))<|srcL (s:=up s _ _) (vs:=wkv) rm'.handled F19 N19 ⟨_,Wkh.1,rfl,_,rfl⟩ Wkh.2.1 (by lia)
    Jv2 (fun C=>⟨rfl,.nil⟩) ?_ ?_
  · intro E2 i v C D8 ys m₂ news₂ h8 tk8 own2 hi hPv hJ2 hw2 hav2 hcov2 F8 N8
    obtain ⟨rfl,hys2⟩:=hJ2
    rw [lwk] at hi
    obtain ⟨tw,hx⟩:=wkat i hi
    rw [hx] at hPv
    cases hPv
    obtain ⟨tq,hq2⟩:=hZget (ord.getD i 0) (olt i hi)
    have oi:=olt i hi
    refine wpAny_assign_Name<|st (s:=up s _ _) F8 N8 fun h9 tk9 F9 N9=>wpAny_tests_nil ?_
    first | refine ifT rfl ?_ | rw [if_pos rfl]
    refine Subscript_<|ldC (s:=up s _ _) N9 (.tail _ (.head _))<|ld (s:=up s _ _) F9 rfl<|itL (s:=up s _ _) (vs:=zv) ⟨_,(N9 _ (List.mem_append_left _ (mc (sub24 _ mZ)))).1,rfl,_,rfl⟩ (by lia) (by lia) (by rw [Int.toNat_natCast]; exact hq2)<|CT.mk (s:=up s _ _) F9 N9 hw2 ⟨rfl,?_⟩
    rw [List.take_add_one,show ord[i]?=some (ord.getD i 0) by rw [List.getD_eq_getElem?_getD,List.getElem?_eq_getElem (by lia)]; rfl,Option.toList_some,List.map_append]
    exact Strs.snoc hys2
  intro Dq C h20 tk20 m20 oC dqv news20 F20 N20 hoC hJ2 hp20 hDC20 hDq0
  obtain ⟨rfl,hdq⟩:=hJ2
  rw [lwk,List.take_of_length_le (by lia)] at hdq
  refine postN (s:=up s _ _) F20 N20 hoC (fun p hp=>?_) fun h21 F21 N21=>?_
  · rcases List.mem_cons.mp hp with rfl | hp
    · exact hDC20
    · exact (hp20 p hp).1
  have N21c:News s.heap L h21 (cl5 L o1 o2 o3 o4 o5 (some (.ref M)) (some (.ref Zq)) (some (.ref Wk)) none none++KL4):=fun p hp=>N21 p (.tail _ hp)
  have hrow:Strs (ord.map fun i=>Value.str (S (sentOf ((ms.map Mi.rows).getD i []))) (tz i)) (ord.map fun k=>qs.getD k []):=by
    have:∀ l:List Nat,(∀ i∈l,i<ms.length)→Strs (l.map fun i=>Value.str (S (sentOf ((ms.map Mi.rows).getD i []))) (tz i)) (l.map fun k=>qs.getD k []):=by
      intro l
      induction l with
      | nil=>intro _; exact .nil
      | cons a l ih =>
        intro hl
        refine .cons (t:=tz a) ?_ (ih fun i hi=>hl i (.tail _ hi))
        show Value.str (S (sentOf ((ms.map Mi.rows).getD a []))) (tz a)=Value.str (S (qs.getD a [])) (tz a)
        rw [hqr a (hl a (.head _))]
    exact this ord fun i hi=>by have:=P.olt i hi; lia
  refine rc_ne (s:=up s _ _) ⟨_,_,(N21c _ (mc (sub4 _ mDo))).1,hrow⟩ ⟨_,_,(N21 _ (.head _)).1,hdq⟩ rm'.u prog w _ _<|wpAny_truthy_bool ?_
  first | refine ifF (by simp) ?_ | rw [if_neg (by simp)]
  refine wpAny_allTrue_Or_nil ?_
  first | refine ifF (by simp) ?_ | rw [if_neg (by simp)]
  refine wpAny_execs_nil ?_
  have Mh:=N21c _ (mc (sub14 _ mM))
  let Jv3:Addr→Nat→List Value→(Str→Option Value)→List (Addr×Obj)→Prop:=fun C i ys _ news'=>Ex2 fun (ov:Option Value) (il:List (Addr×List Value))=>And6 (news'=(C+1,cel (celO none) ov)::((cl5 L o1 o2 o3 o4 o5 (some (.ref M)) (some (.ref Zq)) (some (.ref Wk)) none none++KL4)++ilL il)) (ys=il.map (fun e=>Value.ref e.1)) (il.length=i) ((∀ e∈il,e.1≠C+1)) ((∀ p∈cl5 L o1 o2 o3 o4 o5 (some (.ref M)) (some (.ref Zq)) (some (.ref Wk)) none none++KL4,p.1<C)) (∀ k e,il[k]?=some e→e.2.length=(ms.filter fun x=>begins x.rows ((ms.map Mi.rows).getD k [])).length)
  refine wpAny_execs_cons<|wpAny_Assign_Name<|lcG (cl:=[(Str.ofString "lists",(L+1))]) (by kernel_rfl)<|ldC (s:=up s _ _) N21c (.head _)<|srcL2 (s:=up s _ _) (vs:=ms.map fun x:Mi=>Value.ref x.R) rm'.handled F21 N21c ⟨_,Mh.1,rfl,_,rfl⟩ Mh.2.1 (by rw [List.length_map]; lia)
    Jv3 (fun C hlt=>⟨none,[],by simp [celsOf,cellsFrom,ilL],rfl,rfl,(fun e he=>nomatch he),hlt,fun k e he=>(by simp at he)⟩) ?_ ?_
  · intro E2 i v C D8 ys m₂ news₂ h8 tk8 own2 hlo hi hPv hJ2 hw2 hav2 hcov2 F8 N8
    obtain ⟨ov,il,rfl,rfl,hil,hilne,hcl,hill⟩:=hJ2
    rw [List.length_map] at hi
    have hx:(ms.map fun x:Mi=>Value.ref x.R)[i]?=some (Value.ref ms[i].R):=by simp [hi]
    rw [hx] at hPv
    cases hPv
    have hxm:ms[i]∈ms:=List.getElem_mem hi
    have hxr:(ms.map Mi.rows).getD i []=ms[i].rows:=by simp [hi]
    generalize ms[i]=y at hx hxm hxr
    have cne:∀ p∈(cl5 L o1 o2 o3 o4 o5 (some (.ref M)) (some (.ref Zq)) (some (.ref Wk)) none none++KL4)++ilL il,p.1≠C+1:=fun p hp=>by
      rcases List.mem_append.mp hp with q | q
      · exact Nat.ne_of_lt (Nat.lt_succ_of_lt (hcl p q))
      · obtain ⟨e,he,rfl⟩:=List.mem_map.mp q
        exact hilne e he
    have one:∀ p∈own2,p.1≠C+1:=fun p hp=>Nat.ne_of_lt (Nat.lt_succ_of_lt (hlo p hp))
    refine wpAny_assign_Name<|stC (s:=up s _ _) F8 N8 (.head fun p hp=>?_) fun h9 F9 N9=>wpAny_tests_nil ?_
    · rcases List.mem_append.mp hp with q | q
      · exact cne p q
      · exact one p q
    first | refine ifT rfl ?_ | rw [if_pos rfl]
    have mcc:∀ {p:Addr×Obj} {c:Addr×Obj} {X:List (Addr×Obj)},p∈KL4→p∈(c::((cl5 L o1 o2 o3 o4 o5 (some (.ref M)) (some (.ref Zq)) (some (.ref Wk)) none none++KL4)++ilL il))++X:=fun hp=>List.mem_append_left _ (.tail _ (List.mem_append_left _ (mc hp)))
    have Mh9:=N9 _ (mcc (sub14 _ mM))
    let Jv4:Addr→Nat→List Value→(Str→Option Value)→List (Addr×Obj)→Prop:=fun _ i2 ys2 _ news'=>news'=((C+1,cel (celO none) (some (.ref y.R)))::((cl5 L o1 o2 o3 o4 o5 (some (.ref M)) (some (.ref Zq)) (some (.ref Wk)) none none++KL4)++ilL il))++own2∧ys2.length=((ms.take i2).filter fun x=>begins x.rows y.rows).length
    refine lcG (cl:=[(Str.ofString "other",C+1)]) (by kernel_rfl)<|ldC (s:=up s _ _) N9 (.tail _ (.head _))<|srcL (s:=up s _ _) (vs:=ms.map fun x:Mi=>Value.ref x.R) rm'.handled F9 N9 ⟨_,Mh9.1,rfl,_,rfl⟩ Mh9.2.1 (by rw [List.length_map]; lia)
      Jv4 (fun C2=>⟨rfl,rfl⟩) ?_ ?_
    · intro E3 i2 v2 C2 D9 ys2 m3 news3 h10 tk10 own3 hi2 hPv2 hJ3 hw3 hav3 hcov3 F10 N10
      obtain ⟨rfl,hys3⟩:=hJ3
      rw [List.length_map] at hi2
      have hx2:(ms.map fun x:Mi=>Value.ref x.R)[i2]?=some (Value.ref ms[i2].R):=by simp [hi2]
      rw [hx2] at hPv2
      cases hPv2
      have hz2:ms[i2]∈ms:=List.getElem_mem hi2
      have ht2:(ms.take (i2+1))=ms.take i2++[ms[i2]]:=by rw [List.take_add_one,List.getElem?_eq_getElem hi2,Option.toList_some]
      generalize ms[i2]=z at hx2 hz2 ht2
      have nin:∀ {h':Heap},News s.heap C2 h' ((((C+1,cel (celO none) (some (.ref y.R)))::((cl5 L o1 o2 o3 o4 o5 (some (.ref M)) (some (.ref Zq)) (some (.ref Wk)) none none++KL4)++ilL il))++own2)++own3)→∀ x∈ms,StrsAt h' x.R x.rows:=fun N x hx=>⟨x.vs,x.n,(N _ (List.mem_append_left _ (mcc (sub14 _ (mR x hx))))).1,(hmo x hx).isS⟩
      refine wpAny_assign_Name<|st (s:=up s _ _) F10 N10 fun h11 tk11 F11 N11=>wpAny_tests_one<|wpAny_isTrue_value<|callg (f:=274) (s:=up s _ _) T F11 (by kernel_rfl) (by kernel_rfl)<|spliced_more<|ld (s:=up s _ _) F11 rfl<|spliced_more<|ldC (s:=up s _ _) N11 (.head _)<|spliced_none ⟨T.X.keeps F11.keep,begins_call (s:=up s _ _) (a:=z.rows) (b:=y.rows) (rm'.le (by lia)) (T.keeps F11.keep) (nin N11 z hz2) (nin N11 y hxm) (rows_small (hmo z hz2).len).1 (rows_small (hmo y hxm).len).1 (rows_small (hmo z hz2).len).2 fun h12 tk12 ex12=>wpAny_truthy_bool ?_⟩
      obtain ⟨F12,N12⟩:=ext_grow F11 N11 ex12
      cases hb:begins z.rows y.rows with
      | false =>
        first | refine ifF (by simp) ?_ | rw [if_neg (by simp)]
        refine CT.mk (s:=up s _ _) F12 N12 hw3 ⟨rfl,?_⟩
        rw [ht2,List.filter_append,hys3]; simp [hb]
      | true =>
        first | refine ifT rfl ?_ | rw [if_pos rfl]
        refine ld (s:=up s _ _) F12 rfl<|CT.mk (s:=up s _ _) F12 N12 hw3 ⟨rfl,?_⟩
        rw [ht2,List.filter_append,List.length_append,hys3]; simp [hb]
    · intro Dl C2 h10 tk10 m10 oC2 ys2 news10 F10 N10 hoC2 hJ3 hp10 hDC10 hDl0
      obtain ⟨rfl,hys3⟩:=hJ3
      rw [List.length_map,List.take_of_length_le (Nat.le_refl _)] at hys3
      refine postN (s:=up s _ _) F10 N10 hoC2 (fun p hp=>?_) fun h11 F11 N11=>?_
      · rcases List.mem_cons.mp hp with rfl | hp
        · exact hDC10
        · exact (hp10 p hp).1
      refine CT.mk (s:=up s _ _) (news':=(C+1,cel (celO none) (some (.ref y.R)))::((cl5 L o1 o2 o3 o4 o5 (some (.ref M)) (some (.ref Zq)) (some (.ref Wk)) none none++KL4)++ilL (il++[(Dl,ys2)]))) F11 (news_sub N11 fun p hp=>?_) (fun p hp=>?_) ⟨_,il++[(Dl,ys2)],rfl,by simp,by simp [hil],fun e he=>?_,hcl,fun k e he=>?_⟩
      · simp only [ilL,List.map_append,List.map_cons,List.map_nil,List.mem_cons,List.mem_append,List.not_mem_nil,or_false] at hp ⊢
        grind
      · simp only [ilL,List.map_append,List.map_cons,List.map_nil,List.mem_cons,List.mem_append,List.not_mem_nil,or_false] at hp
        have hDn:Dl∉[h21.objs.size,D8,L]:=fun q=>by
          obtain ⟨o,ho⟩:=hav2 Dl q
          have:=(hp10 (Dl,o) (List.mem_append_right _ ho)).2
          exact this (.tail _ (.head _))
        rcases hp with rfl | (hp | hp) | hp | rfl
        · exact hw2 (C+1,cel (celO none) ov) (.head _)
        · exact hw2 p (.tail _ (List.mem_append_left _ (List.mem_append_left _ (by simpa using hp))))
        · exact hw2 p (.tail _ (List.mem_append_left _ (mc hp)))
        · exact hw2 p (.tail _ (List.mem_append_right _ hp))
        · exact hDn
      · rcases List.mem_append.mp he with he | he
        · exact hilne e he
        · rw [List.mem_singleton] at he; subst he
          exact addr_ne hDl0 (N9 _ (.head _)).1
      · rcases Nat.lt_or_ge k il.length with hk | hk
        · rw [List.getElem?_append_left hk] at he; exact hill k e he
        · rw [List.getElem?_append_right hk] at he
          obtain ⟨hk0,e2⟩:k - il.length=0∧(Dl,ys2)=e:=by
            cases hq:k - il.length with
            | zero=>rw [hq] at he; simpa using he
            | succ k=>rw [hq] at he; simp at he
          subst e2
          have hki:k=i:=by lia
          subst hki
          rw [hxr]; exact hys3
  intro Ah C h22 tk22 m22 oC ahv news22 F22 N22 hoC hJ2 hp22 hDC22 hAh0
  obtain ⟨ov,il,rfl,rfl,hil,hilne,hcl,hill⟩:=hJ2
  rw [List.length_map] at hil
  refine postN (s:=up s _ _) F22 N22 hoC (fun p hp=>?_) fun h23 F23 N23=>?_
  · rcases List.mem_cons.mp hp with rfl | hp
    · exact hDC22
    · exact (hp22 p hp).1
  have N23':News s.heap L h23 (cl5 L o1 o2 o3 o4 o5 (some (.ref M)) (some (.ref Zq)) (some (.ref Wk)) none none++((Ah,W.listOf (List.toArray (il.map fun e=>Value.ref e.1)) (il.map fun e=>Value.ref e.1).length)::(ilL il++KL4))):=news_sub N23 fun p hp=>by
    simp only [List.mem_cons,List.mem_append] at hp ⊢
    grind
  have K5:Off5 L ((Ah,W.listOf (List.toArray (il.map fun e=>Value.ref e.1)) (il.map fun e=>Value.ref e.1).length)::(ilL il++KL4)):=fun p hp=>by
    have key:∀ {a:Addr} {x:Array Value} {n:Nat},(a,W.listOf x n)∈(Ah,W.listOf (List.toArray (il.map fun e=>Value.ref e.1)) (il.map fun e=>Value.ref e.1).length)::(ilL il++KL4)→a≠(L+1)∧a≠(L+1+1)∧a≠(L+1+1+1)∧a≠(L+1+1+1+1)∧a≠(L+1+1+1+1+1):=fun hm=>⟨ne_cell N23' (mc hm) (.head _),ne_cell N23' (mc hm) (.tail _ (.head _)),ne_cell N23' (mc hm) (.tail _ (.tail _ (.head _))),ne_cell N23' (mc hm) (.tail _ (.tail _ (.tail _ (.head _)))),ne_cell N23' (mc hm) (.tail _ (.tail _ (.tail _ (.tail _ (.head _)))))⟩
    rcases List.mem_cons.mp hp with rfl | q
    · exact key (.head _)
    rcases List.mem_append.mp q with q | q
    · obtain ⟨e,he,rfl⟩:=List.mem_map.mp q
      exact key (.tail _ (List.mem_append_left _ (List.mem_map_of_mem (f:=fun e:Addr×List Value=>(e.1,W.listOf e.2.toArray e.2.length)) he)))
    · exact K4 p q
  refine stC (s:=up s _ _) F23 N23' (U4 K5) fun h24 F24 N24=>?_
  have mAh:((Ah,W.listOf (List.toArray (il.map fun e=>Value.ref e.1)) (il.map fun e=>Value.ref e.1).length):Addr×Obj)∈(Ah,W.listOf (List.toArray (il.map fun e=>Value.ref e.1)) (il.map fun e=>Value.ref e.1).length)::(ilL il++KL4):=.head _
  have mIl:∀ e∈il,((e.1,W.listOf e.2.toArray e.2.length):Addr×Obj)∈(Ah,W.listOf (List.toArray (il.map fun e=>Value.ref e.1)) (il.map fun e=>Value.ref e.1).length)::(ilL il++KL4):=fun e he=>.tail _ (List.mem_append_left _ (List.mem_map_of_mem (f:=fun e:Addr×List Value=>(e.1,W.listOf e.2.toArray e.2.length)) he))
  have sub5:∀ p∈KL4,p∈(Ah,W.listOf (List.toArray (il.map fun e=>Value.ref e.1)) (il.map fun e=>Value.ref e.1).length)::(ilL il++KL4):=fun p hp=>.tail _ (List.mem_append_right _ hp)
  generalize (Ah,W.listOf (List.toArray (il.map fun e=>Value.ref e.1)) (il.map fun e=>Value.ref e.1).length)::(ilL il++KL4)=KL5 at N24 K5 mAh mIl sub5
  have sub25:∀ p∈KL2,p∈KL5:=fun p hp=>sub5 p (sub24 p hp)
  have hqz:∀ q∈qs,q.length≤1000:=fun q hq=>P.ssz q (by rw [List.map_map,show (sentOf ∘ Mi.rows)=fun x:Mi=>sentOf x.rows from rfl,hqs]; exact hq)
  have hrk:=P.hrk
  have hgo:=P.hgo
  have hrd:=P.hrd
  rw [List.map_map,show (sentOf ∘ Mi.rows)=fun x:Mi=>sentOf x.rows from rfl,hqs] at hrk hgo
  obtain ⟨oL,hoL⟩:=fr_obj F24
  have gL:s.heap.get? L=none:=Heap.get?_none_of_le F24.above
  have kpL:=hide_keeps (W:=([(L,oL)]:List (Addr×Obj)).map (·.1)) F24.keep (fun a ha=>by rw [List.map_cons,List.map_nil,List.mem_singleton] at ha; subst ha; exact gL)
  refine wpAny_execs_cons<|wpAny_Assign_Name<|callg (f:=255) (s:=up s _ _) T F24 (by kernel_rfl) (by kernel_rfl)<|spliced_more<|ldC (s:=up s _ _) N24 (.tail _ (.head _))<|spliced_none ⟨T.X.keeps F24.keep,rounds_call (s:=up s _ _) (frs0:=[(L,oL)]) (l:=[callEnvC (fd279 w) L 279]) (qs:=qs) (rk:=rk) (rd:=rd) (dep:=fun k=>(dep k:Int)) (rm'.le (by lia)) (dA.frames _ hfr) (frs_cons (frs:=[]) F24 hoL True.intro (by kernel_rfl) (by kernel_rfl)) (fun p hp=>by rw [List.mem_singleton] at hp; subst hp; exact hoL) (T.keeps kpL) (hideAll_get _ (N24 _ (mc (sub25 _ mZ))).1 (by rw [List.map_cons,List.map_nil,List.mem_singleton]; exact (N24 _ (mc (sub25 _ mZ))).2.1)) hys (by lia) hqz hrk hgo (fun k hk=>hrd k (by rw [pn]; lia)) fun h25 tk25 frs25 Dp dpv n25 ex25 SU25 hf25 hDp hdpv fDp=>?_⟩
  obtain ⟨frs',F25,N25,_⟩:=backG (frs:=[]) (wa:=[]) (W':=[(Dp,W.listOf (List.toArray dpv) n25)]) F24 N24 hoL ex25 SU25 hf25 (fun a ha=>nomatch ha) (fun p hp=>by rw [List.mem_singleton] at hp; subst hp; exact ⟨hDp,.inr fDp⟩) (fun p hp=>⟨(fun q=>nomatch q),(fun q=>nomatch q)⟩)
  have K6:Off5 L ((Dp,W.listOf (List.toArray dpv) n25)::KL5):=off5 N24 K5 fun p hp=>by
    rcases List.mem_cons.mp hp with rfl | hp
    · exact .inl fDp
    · exact .inr hp
  have N25':News s.heap L h25 (cl5 L o1 o2 o3 o4 o5 (some (.ref M)) (some (.ref Zq)) (some (.ref Wk)) (some (.ref Ah)) none++((Dp,W.listOf (List.toArray dpv) n25)::KL5)):=news_sub N25 fun p hp=>by
    refine List.mem_append_right _ ?_
    rcases List.mem_append.mp hp with q | q
    · exact .tail _ (List.mem_append_left KL5 q)
    · rcases List.mem_cons.mp q with rfl | q
      · exact .head _
      · exact .tail _ (mc q)
  refine st (s:=up s _ _) F25 N25' fun h26 tk26 F26 N26=>?_
  have mDp:((Dp,W.listOf (List.toArray dpv) n25):Addr×Obj)∈(Dp,W.listOf (List.toArray dpv) n25)::KL5:=.head _
  have sub6:∀ p∈KL5,p∈(Dp,W.listOf (List.toArray dpv) n25)::KL5:=fun p hp=>.tail _ hp
  generalize (Dp,W.listOf (List.toArray dpv) n25)::KL5=KL6 at N26 K6 mDp sub6
  have Ahh:=N26 _ (mc (sub6 _ mAh))
  let Jv5:Addr→Nat→List Value→(Str→Option Value)→List (Addr×Obj)→Prop:=fun _ i ys _ news'=>news'=cl5 L o1 o2 o3 o4 o5 (some (.ref M)) (some (.ref Zq)) (some (.ref Wk)) (some (.ref Ah)) none++KL6∧IntsAre ys ((il.take i).map fun e=>(e.2.length:Int))
  refine wpAny_execs_cons<|wpAny_If<|wpAny_isTrue_Compare1<|ld (s:=up s _ _) F26 rfl<|lcG (cl:=[]) (by kernel_rfl)<|ldC (s:=up s _ _) N26 (.tail _ (.tail _ (.tail _ (.head _))))<|srcL (s:=up s _ _) (vs:=il.map fun e=>Value.ref e.1) rm'.handled F26 N26 ⟨_,Ahh.1,rfl,_,rfl⟩ Ahh.2.1 (by rw [List.length_map]; lia)
    Jv5 (fun C=>⟨rfl,.nil⟩) ?_ ?_
  · intro E2 i v C D8 ys m₂ news₂ h8 tk8 own2 hi hPv hJ2 hw2 hav2 hcov2 F8 N8
    obtain ⟨rfl,hys2⟩:=hJ2
    rw [List.length_map] at hi
    have hx:(il.map fun e=>Value.ref e.1)[i]?=some (Value.ref il[i].1):=by simp [hi]
    rw [hx] at hPv
    cases hPv
    have hm:=mIl _ (List.getElem_mem hi)
    have hlen:=hill i il[i] (List.getElem?_eq_getElem hi)
    have hfl:=List.length_filter_le (fun x:Mi=>begins x.rows ((ms.map Mi.rows).getD i [])) ms
    refine wpAny_assign_Name<|st (s:=up s _ _) F8 N8 fun h9 tk9 F9 N9=>wpAny_tests_nil ?_
    first | refine ifT rfl ?_ | rw [if_pos rfl]
    refine callb (id:="len") (s:=up s _ _) T F9 (by kernel_rfl)<|spliced_more<|ld (s:=up s _ _) F9 rfl<|spliced_none<|len_any (s:=up s _ _) (N9 _ (List.mem_append_left _ (mc (sub6 _ hm)))).1 (by lia) fun tl _=>?_
    refine CT.mk (s:=up s _ _) F9 N9 hw2 ⟨rfl,?_⟩
    rw [List.take_add_one,List.getElem?_eq_getElem hi,Option.toList_some,List.map_append]
    exact IntsAre.snoc hys2 _ _
  intro Dn C h27 tk27 m27 oC dnv news27 F27 N27 hoC hJ2 hp27 hDC27 hDn0
  obtain ⟨rfl,hdn⟩:=hJ2
  rw [List.length_map,List.take_of_length_le (Nat.le_refl _)] at hdn
  refine postN (s:=up s _ _) F27 N27 hoC (fun p hp=>?_) fun h28 F28 N28=>?_
  · rcases List.mem_cons.mp hp with rfl | hp
    · exact hDC27
    · exact (hp27 p hp).1
  have N28c:News s.heap L h28 (cl5 L o1 o2 o3 o4 o5 (some (.ref M)) (some (.ref Zq)) (some (.ref Wk)) (some (.ref Ah)) none++KL6):=fun p hp=>N28 p (.tail _ hp)
  refine rcI_ne (s:=up s _ _) (N28c _ (mc mDp)).1 (N28 _ (.head _)).1 hdpv hdn rm'.u prog w _ _<|wpAny_truthy_bool ?_
  have ilk:∀ k,k<ms.length→∃ e,il[k]?=some e∧e.2.length=dep k:=fun k hk=>⟨il[k],List.getElem?_eq_getElem (by lia),by
    rw [hill k il[k] (List.getElem?_eq_getElem (by lia)),P.hdep k (by rw [pn]; exact hk),List.filter_map,List.length_map]; rfl⟩
  have hdd:(il.map fun e=>(e.2.length:Int))=(List.range qs.length).map fun k=>(dep k:Int):=List.ext_getElem? fun k=>by
    by_cases hk:k<ms.length
    · obtain ⟨e,e1,e2⟩:=ilk k hk
      rw [List.getElem?_map,e1,List.getElem?_map,List.getElem?_range (by lia)]
      simp [e2]
    · rw [List.getElem?_eq_none (by simp; lia),List.getElem?_eq_none (by simp; lia)]
  rw [hdd,beq_self_eq_true,if_neg (by simp)]
  refine wpAny_execs_nil ?_
  have N28k:News s.heap L h28 (cl5 L o1 o2 o3 o4 o5 (some (.ref M)) (some (.ref Zq)) (some (.ref Wk)) (some (.ref Ah)) none++KL6):=N28c
  exact law_tail (ms:=ms) (dov:=ord.map fun i=>Value.str (S (sentOf ((ms.map Mi.rows).getD i []))) (tz i)) (dpv:=dpv) (il:=il) (ord:=ord) (qs:=qs) (zv:=zv) (wkv:=wkv) rm' (dA.frames _ hfr) T F28 N28k K6 hmo hn1 hn6 (sub6 _ (sub5 _ (sub14 _ mM))) (fun x hx=>sub6 _ (sub5 _ (sub14 _ (mR x hx)))) (sub6 _ (sub25 _ mZ)) hys hqs (sub6 _ (sub5 _ mWk)) hwk (sub6 _ mAh) (fun e he=>sub6 _ (mIl e he)) hil ilk (sub6 _ (sub5 _ (sub4 _ mDo))) hrow mDp hdpv rfl rfl P fun h' tk' hk=>h h' tk' hk
theorem al0:∀ d,P1 d:=epsAll ne0 P1 (by with_unfolding_all exact bd0)
end Zlaw
end
section
variable {prog:Program} {w:World} {A:Around} {E:Value→Shared→Prop} {s:Shared}
theorem law_call {Q:Value→Shared→Prop} {sc:Addr} {sv:List Value} {ns:List Int} (rm:Room A 20) (hfr:A.frames=some []) (T:Wd w s.heap) (hS:s.heap.IsList sc sv.toArray) (hI:IntsAre sv ns) (hz:ns.length≤1000) (hP:∀ rws:List (List (List Nat)),1≤rws.length→rws.length≤6→rws.Nodup→(∀ r∈rws,∃ toks:List Nat,toks.length≤3∧(∀ t∈toks,t<6)∧rowsOf toks=r)→∃ ord rk rd dep gr ws,Plain rws ord rk rd dep gr ws) (h:∀ h' tk',(∀ b o,s.heap.get? b=some o→h'.get? b=some o)→Q (.bool true) (up s h' tk')):wpAny (model prog w) A (call (.ref 279) [.ref sc]) Q E s:=by
  refine wpAny_call (enterC (W:=[]) (binds:=[(("script":Str),.ref sc)]) rm.le' (fn279 T.X) T.lim (cd279 T.X) (fun p hp=>nomatch hp) rfl (by kernel_rfl) (by kernel_rfl) (fun L=>by kernel_rfl) (fun L x hx=>by
      rw [cells279] at hx ⊢
      simp only [List.mem_cons,List.not_mem_nil,or_false] at hx
      rcases hx with rfl | rfl | rfl | rfl | rfl <;> kernel_rfl) ?_ (by kernel_rfl) (by kernel_rfl) (by kernel_rfl))
  intro L h₀ tk₀ co F N hcf A₁ R₁ E₁ dA hret hnone
  exact Zlaw.al0 ((((prog,w),(A,s)),((A₁,sc),sv)),(((ns,L),(h₀,tk₀)),((co,R₁),E₁))) rm hfr T hS hI hz hP (fun x0 x1 x2=>hret _ _ (h x0 x1 x2)) F N hcf dA
end
end
theorem law_at {prog:Program} {w:World} {mg mb:Str→Option Value} {A:Around} {E:Value→Shared→Prop} {s:Shared} {Q:Value→Shared→Prop} {fa sc:Addr} {sv:List Value} {ns:List Int} (KX:(K w).In s.heap) (hg:s.heap.Ns mainGlobals mg) (hb:s.heap.Ns builtinsNs mb) (hbb:∀ x:Str,x≠"__name__"→mb x=bootBuiltins x) (hlim:s.heap.NoLimit) (hfa:mg "law"=some (.ref fa))
    (rm:Room A 20) (hfr:A.frames=some []) (hS:s.heap.IsList sc sv.toArray) (hI:IntsAre sv ns) (hz:ns.length≤1000) (h:∀ h' tk',(∀ b o,s.heap.get? b=some o→h'.get? b=some o)→Q (.bool true) (up s h' tk')) :
    wpAny (model prog w) A (call (.ref fa) [.ref sc]) Q E s:=by
  have e:=mg_of KX hg (n:="law") (v:=.ref 279) (by kernel_rfl)
  rw [hfa] at e
  obtain rfl:fa=279:=by injection e with e; injection e
  exact law_call rm hfr ⟨KX,hlim,⟨mg,hg⟩,⟨mb,hb,hbb⟩⟩ hS hI hz (fun rws h1 h6 hn ht=>plain_ok h1 h6 hn ht) h
end Mine
theorem PySem.Challenge.cw_ny0293_01_holds : PySem.Challenge.rw_ny0293_01.Holds := by
  refine holds_law Mine.said_ok fun said => ?_
  refine holds_open (q := Mine.vw) (loose := Mine.lo) (Xt := fun s => xlAt Mine.vw [] s && recOk (RowW.records Mine.Rw.toRowW) s) (XP := XL Mine.vw []) (Yf := Mine.H.obs) (Ya := Mine.H.val) (YP := Mine.H.says) (kwd := []) (N := 3618) Mine.left_ok Mine.H.of Mine.H.keeps (fun s e => xl_of s (Bool.and_eq_true_iff.mp e).1) XL.keeps (by rfl) (by rfl) (by rfl) (fun s e => recFacts_of (Bool.and_eq_true_iff.mp e).2) (by rfl) said (by decide +kernel) ⟨rfl, rfl, rfl, rfl, rfl, by decide +kernel⟩ ⟨[WData.list []], by decide +kernel, by decide +kernel⟩ ?_
  intro w s₀ s₁ mg mb G Y fa o pm cd doc dV kV ho hd hcd hD hmg hg args vals as hpre hlay hrd hwl hlo
  have KX := kIn_of Y
  refine Ground.open G ?_
  intro T B D TE TW
  refine guard_noD D (by decide +kernel) ?_
  clear D
  wrow_args hpre hlay hrd hwl hlo
  refine Mine.law_at KX T.g T.b T.builtins T.nolimit hmg ⟨rfl, by decide +kernel, by decide +kernel⟩ rfl ‹_› ‹_› (by omega) fun h' tk' hk => GoodW.toG ⟨.inl ⟨.bool true, .bool true, [], rfl, fun cls => rfl, .bool true, ?_, fun _ => ⟨List.nodup_nil, fun a ha => nomatch ha⟩⟩, hk, rfl, hg⟩
  kernel_rfl
